import JvmDerived
import JvmDerived.Pilot.@@N@@Statement
import JvmDerived.Pilot.@@N@@Code
set_option linter.unusedVariables false
set_option linter.unusedSimpArgs false
@@BLOCK:NumsL.lean.txt@@
namespace Jvm.Pilot.@@N@@
open Jvm Jvm.ClassFile Sem Op Lib Jvm.Free Jvm.Stand Jvm.LawKit Jvm.RoadKit Bundle Jvm.Pilot.@@N@@.Jvm.D
/-- what a body leaves that writes nothing: its value, no place written, the heap as it was -/
def QP (val : Value) (h0 : Heap) (n0 : Nat) (v : Option Value) (h : Heap) (L : List Loc) : Prop := v = some val ∧ Fr n0 L ∧ h = h0
/-- what the law leaves: true -/
def Q1 (n0 : Nat) (v : Option Value) (h : Heap) (L : List Loc) : Prop := v = some (.int 1) ∧ Fr n0 L
theorem own_eq_int {args : Array Value} {s : State} {t : Term} {k : Int32} (h : (Jvm.Cond.eq t (.int k)).value args s none s [] = some true) : t.eval args s none [] s = some (.int k) := by
  simp only [Cond.value, Term.eval] at h
  cases ht : t.eval args s none [] s with
  | none => simp [ht] at h
  | some x => cases x <;> simp [ht] at h ⊢; exact h
theorem own_fld {args : Array Value} {s : State} {t : Term} {a : Addr} {C n d : String} {k : Int32} (ev : t.eval args s none [] s = some (.ref a)) (h : (Jvm.Cond.eq (.field t C n d) (.int k)).value args s none s [] = some true) : Fld s s.heap a C n d (.int k) :=
  Fld.start ((fld_at ev).symm.trans (own_eq_int h))
theorem own_toInt32_inj {i j : Nat} (hi : i < 2 ^ 31) (hj : j < 2 ^ 31) (h : i.toInt32 = j.toInt32) : i = j := by
  have := congrArg Int32.toInt h
  rw [len_toInt hi, len_toInt hj] at this
  omega
theorem own_inj {Z : State} {h : Heap} {w : Nat → Addr} {n : Nat} (hn : n < 2 ^ 31) (F : ∀ i, i < n → Fld Z h (w i) "java/lang/Enum" "ordinal" "I" (.int i.toInt32)) : ∀ i j, i < n → j < n → w i = w j → i = j := fun i j hi hj e => by
  by_cases q : i = j
  · exact q
  · exact absurd e (Fld.ne (F i hi) (F j hj) fun h => q (own_toInt32_inj (by omega) (by omega) (Value.int.inj h)))
theorem own_i32 {i : Int32} {N : Nat} (hN : N < 2 ^ 31) (h0 : 0 ≤ i.toInt) (h1 : i.toInt < N) : ∃ k : Nat, k < N ∧ i = k.toInt32 := by
  refine ⟨i.toInt.toNat, by omega, Int32.toInt_inj.mp ?_⟩
  rw [len_toInt (by omega)]
  omega
theorem own_mod (x n : Int32) (N : Nat) (hN : n.toInt = N) (h : 0 < N) : ∃ k : Nat, k < N ∧ (x &&& (2147483647 : Int32)) % n = k.toInt32 := by
  have e1 : (x &&& (2147483647 : Int32)).toInt = x.toInt % 2 ^ 31 := Jvm.Kit.i32_mask x 2147483647 (k := 31) (by decide) (by decide)
  have e2 : ((x &&& (2147483647 : Int32)) % n).toInt = (x &&& (2147483647 : Int32)).toInt % n.toInt := Jvm.Kit.i32_rem_nonneg (by omega)
  have hlt := n.toInt_lt
  have h3 : 0 ≤ (x &&& (2147483647 : Int32)).toInt % n.toInt := Int.emod_nonneg _ (by omega)
  have h4 : (x &&& (2147483647 : Int32)).toInt % n.toInt < n.toInt := Int.emod_lt_of_pos _ (by omega)
  exact own_i32 (by omega) (by omega) (by omega)
theorem own_mask (x n : Int32) {k : Nat} (hk : k < 31) (hm : n.toBitVec.toNat = 2 ^ k - 1) : ∃ j : Nat, j < 2 ^ k ∧ x &&& n = j.toInt32 := by
  have e1 : (x &&& n).toInt = x.toInt % 2 ^ k := Jvm.Kit.i32_mask x n (k := k) (by omega) hm
  have hp : (2 : Nat) ^ k < 2 ^ 31 := Nat.pow_lt_pow_right (by decide) hk
  have hp1 : (0 : Int) < 2 ^ k := Int.pow_pos (by decide)
  have h3 : 0 ≤ x.toInt % 2 ^ k := Int.emod_nonneg _ (by omega)
  have h4 : x.toInt % 2 ^ k < 2 ^ k := Int.emod_lt_of_pos _ hp1
  refine own_i32 hp (by rw [e1]; exact h3) (by rw [e1]; push_cast; exact h4)
theorem own_lt_irrefl {a b : Int64} (h : a = b) : ¬ a < b ∧ ¬ b < a := by subst h; simp [Int64.lt_irrefl]
theorem own_lt_asymm {a b : Int64} (h : a < b) : ¬ b < a := Int64.lt_asymm h
theorem own_lt_total {a b : Int64} (h1 : ¬ a = b) (h2 : ¬ a < b) : b < a := by
  rw [Int64.lt_iff_toInt_lt] at h2 ⊢; rw [← Int64.toInt_inj] at h1; omega
theorem own_narrow (C : String) (v : Value) : narrow (.object C) v = v := by cases v <;> rfl
theorem own_cat {v : Value} (h : v.isRef = true) : v.category = 1 := by cases v <;> simp [Value.isRef] at h <;> rfl
theorem own_alike (s : State) : s.vm.Alike s.vm := (State.Warmed39.refl s).alike
theorem own_len {args : Array Value} {s : State} {t : Term} {b : Addr} {cl : Cell} {ty : FieldType} {k : Int32} (ev : t.eval args s none [] s = some (.ref b)) (A : Arr s s.heap b cl ty) (h : (Jvm.Cond.eq (.length t) (.int k)).value args s none s [] = some true) : cl.slots.size < 2 ^ 31 ∧ cl.slots.size.toInt32 = k := by
  have e := own_eq_int h
  have ha : s.arrayAt? b = some cl := Arr.fin (own_alike s) A
  by_cases hl : cl.slots.size < 2 ^ 31
  · rw [len_f ev ha hl] at e; exact ⟨hl, by simpa using e⟩
  · simp [Term.eval, ev, ha, hl] at e
theorem own_elem_ref {args : Array Value} {s : State} {t u : Term} {b a : Addr} {cl : Cell} {ty : FieldType} {j : Int32} (ev : t.eval args s none [] s = some (.ref b)) (A : Arr s s.heap b cl ty) (h : (Jvm.Cond.eq (.elem t (.int j)) u).value args s none s [] = some true) (hu : u.eval args s none [] s = some (.ref a)) : cl.slots[j.toNatClampNeg]? = some (.ref a) := by
  obtain ⟨x, y, h1, h2, k1, k2⟩ := cmp_v (Or.inl h)
  cases hu.symm.trans h2
  have k2' : (Value.ref a).isRef = true ∧ x.isRef = true := k2
  have q : x = .ref a := gotT (eq_R h1 h2 k2'.2 rfl) h
  subst q
  exact (elem_in h1 ev (Term.int_eval j) A.1).2
theorem own_elem_null {args : Array Value} {s : State} {t : Term} {b : Addr} {cl : Cell} {ty : FieldType} {j : Int32} (ev : t.eval args s none [] s = some (.ref b)) (A : Arr s s.heap b cl ty) (h : (Jvm.Cond.eq (.elem t (.int j)) .null).value args s none s [] = some true) : cl.slots[j.toNatClampNeg]? = some .null :=
  (elem_in (null_v h) ev (Term.int_eval j) A.1).2
theorem own_size {cl : Cell} {k : Int32} (h : cl.slots.size < 2 ^ 31 ∧ cl.slots.size.toInt32 = k) (hk : ¬ k < 0) : cl.slots.size = k.toNatClampNeg := by
  obtain ⟨h1, rfl⟩ := h
  have := len_toInt h1
  have h2 := nat_of hk
  omega
/-- an array of n places, whatever lies in them -/
def ALen (Z : State) (h : Heap) (a : Addr) (ty : FieldType) (n : Int32) : Prop := ∃ c : Cell, Arr Z h a c ty ∧ c.slots.size = n.toNatClampNeg ∧ ¬ n < 0
theorem ALen.lt {Z : State} {h : Heap} {a : Addr} {ty : FieldType} {n : Int32} (F : ALen Z h a ty n) : a < h.size := by obtain ⟨c, A, -⟩ := F; exact A.lt
theorem ALen.ext {Z : State} {h h' : Heap} {a : Addr} {ty : FieldType} {n : Int32} (F : ALen Z h a ty n) (E : Ext h h') : ALen Z h' a ty n := by obtain ⟨c, A, r⟩ := F; exact ⟨c, A.ext E, r⟩
theorem ALen.keep {Z : State} {h h' : Heap} {ws : List Addr} {a : Addr} {ty : FieldType} {n : Int32} (F : ALen Z h a ty n) (K : Keep h h' ws) : ALen Z h' a ty n := by
  obtain ⟨c, ⟨A1, A2, A3⟩, r1, r2⟩ := F
  obtain ⟨c', e1, e2, e3, e4⟩ := K.2.2 a c A1
  exact ⟨c', ⟨e1, ⟨by rw [e3]; exact A2.1, by rw [e2]; exact A2.2⟩, by rw [e3]; exact A3⟩, by rw [e4]; exact r1, r2⟩
theorem ALen.wr {Z : State} {h h' : Heap} {a b : Addr} {sl : Nat} {v : Value} {ty : FieldType} {n : Int32} (F : ALen Z h a ty n) (W : Wr h h' b sl v) : ALen Z h' a ty n := F.keep (Keep.of_wr W)

theorem own_mk (x n : Int32) {k : Nat} (hk : k < 31) (hm : n.toBitVec.toNat = 2 ^ k - 1) : ¬ (x &&& n) < 0 ∧ (x &&& n).toNatClampNeg ≤ 2 ^ k - 1 := by
  obtain ⟨j, hj, e⟩ := own_mask x n hk hm
  have hp : (2 : Nat) ^ k < 2 ^ 31 := Nat.pow_lt_pow_right (by decide) hk
  have q : (x &&& n).toInt = j := by rw [e]; exact len_toInt (by omega)
  have h0 : ¬ (x &&& n) < 0 := fun r => by
    have := Int32.lt_iff_toInt_lt.mp r
    have e0 : (0 : Int32).toInt = 0 := rfl
    omega
  have := nat_of h0
  exact ⟨h0, by omega⟩
theorem own_pos {n : Int32} (h : 0 < n) : ¬ n = 0 := fun q => by subst q; revert h; decide
theorem own_zero {n : Int32} (h : ¬ 0 < n) (h' : ¬ n < 0) : n = 0 := by
  have a := mt Int32.lt_iff_toInt_lt.mpr h
  have b := mt Int32.lt_iff_toInt_lt.mpr h'
  exact Int32.toInt_inj.mp (by omega)
def QC (Z : State) (a : Addr) (fl : Int32) (ob da ta : Addr) (h0 : Heap) (n0 : Nat) (v : Option Value) (h : Heap) (L : List Loc) : Prop := v = none ∧ Fr n0 L ∧ Keep h0 h [a] ∧ Exa Z h a "com/example/proxy_to_stub/proxytostub/transport/Frame" ∧ Fld Z h a "com/example/proxy_to_stub/proxytostub/transport/Frame" "flags" "I" (.int fl) ∧ Fld Z h a "com/example/proxy_to_stub/proxytostub/transport/Frame" "objects" "[B" (.ref ob) ∧ Fld Z h a "com/example/proxy_to_stub/proxytostub/transport/Frame" "data" "[B" (.ref da) ∧ Fld Z h a "com/example/proxy_to_stub/proxytostub/transport/Frame" "tail" "[B" (.ref ta)
theorem own_pd_0 : parseMethodDescriptor "(IIIJ[B[BI[B)V" = some ⟨[.int, .int, .int, .long, (.array .byte), (.array .byte), .int, (.array .byte)], none⟩ := by decide +kernel
theorem own_pd_1 : parseMethodDescriptor "(IIIJ[B[B)V" = some ⟨[.int, .int, .int, .long, (.array .byte), (.array .byte)], none⟩ := by decide +kernel
theorem own_pd_2 : parseMethodDescriptor "()Z" = some ⟨[], some .boolean⟩ := by decide +kernel
theorem own_d2_0 : decode prog_21_method_2_code 0 = .ok (.aload_n 0, 1) := by decide +kernel
theorem own_d2_1 : decode prog_21_method_2_code 1 = .ok (.invokespecial 17, 3) := by decide +kernel
theorem own_d2_4 : decode prog_21_method_2_code 4 = .ok (.aload_n 0, 1) := by decide +kernel
theorem own_d2_5 : decode prog_21_method_2_code 5 = .ok (.iload_n 1, 1) := by decide +kernel
theorem own_d2_6 : decode prog_21_method_2_code 6 = .ok (.putfield 22, 3) := by decide +kernel
theorem own_d2_9 : decode prog_21_method_2_code 9 = .ok (.aload_n 0, 1) := by decide +kernel
theorem own_d2_10 : decode prog_21_method_2_code 10 = .ok (.iload_n 2, 1) := by decide +kernel
theorem own_d2_11 : decode prog_21_method_2_code 11 = .ok (.putfield 26, 3) := by decide +kernel
theorem own_d2_14 : decode prog_21_method_2_code 14 = .ok (.aload_n 0, 1) := by decide +kernel
theorem own_d2_15 : decode prog_21_method_2_code 15 = .ok (.iload_n 3, 1) := by decide +kernel
theorem own_d2_16 : decode prog_21_method_2_code 16 = .ok (.putfield 29, 3) := by decide +kernel
theorem own_d2_19 : decode prog_21_method_2_code 19 = .ok (.aload_n 0, 1) := by decide +kernel
theorem own_d2_20 : decode prog_21_method_2_code 20 = .ok (.lload 4, 2) := by decide +kernel
theorem own_d2_22 : decode prog_21_method_2_code 22 = .ok (.putfield 32, 3) := by decide +kernel
theorem own_d2_25 : decode prog_21_method_2_code 25 = .ok (.aload_n 0, 1) := by decide +kernel
theorem own_d2_26 : decode prog_21_method_2_code 26 = .ok (.aload 6, 2) := by decide +kernel
theorem own_d2_28 : decode prog_21_method_2_code 28 = .ok (.putfield 36, 3) := by decide +kernel
theorem own_d2_31 : decode prog_21_method_2_code 31 = .ok (.aload_n 0, 1) := by decide +kernel
theorem own_d2_32 : decode prog_21_method_2_code 32 = .ok (.aload 7, 2) := by decide +kernel
theorem own_d2_34 : decode prog_21_method_2_code 34 = .ok (.putfield 39, 3) := by decide +kernel
theorem own_d2_37 : decode prog_21_method_2_code 37 = .ok (.aload_n 0, 1) := by decide +kernel
theorem own_d2_38 : decode prog_21_method_2_code 38 = .ok (.iload 8, 2) := by decide +kernel
theorem own_d2_40 : decode prog_21_method_2_code 40 = .ok (.putfield 42, 3) := by decide +kernel
theorem own_d2_43 : decode prog_21_method_2_code 43 = .ok (.aload_n 0, 1) := by decide +kernel
theorem own_d2_44 : decode prog_21_method_2_code 44 = .ok (.aload 9, 2) := by decide +kernel
theorem own_d2_46 : decode prog_21_method_2_code 46 = .ok (.putfield 45, 3) := by decide +kernel
theorem own_d2_49 : decode prog_21_method_2_code 49 = .ok (.return_, 1) := by decide +kernel
set_option maxRecDepth 65536 in
set_option maxHeartbeats 40000000 in
theorem rm_c2 (l : Launch) (Z : State) (a0 : Array Value) (hw : ∀ d ∈ tables_1, d.before a0 Z = true) (ws : List Jvm.Cond) (x0 : Addr) (x1 x2 x3 : Int32) (x4 : Int64) (x5 x6 : Addr) (x7 : Int32) (x8 : Addr) (h0 : Heap) (n0 : Nat) (Z0 : n0 ≤ h0.size) (E0 : Exa Z h0 x0 "com/example/proxy_to_stub/proxytostub/transport/Frame") (F_kind : Fld Z h0 x0 "com/example/proxy_to_stub/proxytostub/transport/Frame" "kind" "I" (.int (0 : Int32))) (F_code : Fld Z h0 x0 "com/example/proxy_to_stub/proxytostub/transport/Frame" "code" "I" (.int (0 : Int32))) (F_flags : Fld Z h0 x0 "com/example/proxy_to_stub/proxytostub/transport/Frame" "flags" "I" (.int (0 : Int32))) (F_target : Fld Z h0 x0 "com/example/proxy_to_stub/proxytostub/transport/Frame" "target" "J" (.long (0 : Int64))) (F_objects : Fld Z h0 x0 "com/example/proxy_to_stub/proxytostub/transport/Frame" "objects" "[B" .null) (F_data : Fld Z h0 x0 "com/example/proxy_to_stub/proxytostub/transport/Frame" "data" "[B" .null) (F_dataLength : Fld Z h0 x0 "com/example/proxy_to_stub/proxytostub/transport/Frame" "dataLength" "I" (.int (0 : Int32))) (F_tail : Fld Z h0 x0 "com/example/proxy_to_stub/proxytostub/transport/Frame" "tail" "[B" .null) (ge : n0 ≤ x0) :
    MetFree l (⟨"com/example/proxy_to_stub/proxytostub/transport/Frame", "<init>", "(IIIJ[B[BI[B)V"⟩ : MethodName) (head1 (Jvm.Cond.code (⟨"com/example/proxy_to_stub/proxytostub/transport/Frame", "<init>", "(IIIJ[B[BI[B)V"⟩ : MethodName) prog_21_method_2_code 10 none :: ws) ({ frames := 1, cells := 0, slots := 0, locals := 12 } : Room)) (fun a U => a = #[(.ref x0), (.int x1), (.int x2), (.int x3), (.long x4), (.ref x5), (.ref x6), (.int x7), (.ref x8)] ∧ Z.Warmed39 U.vm ∧ U.heap = h0) (fun _ _ _ _ _ => True) (fun _ U o U' => ∃ v L, o = .returned v ∧ QC Z x0 x3 x5 x6 x8 h0 n0 v U'.heap L ∧ FrameEnd U o U' L ({ frames := 1, cells := 0, slots := 0, locals := 12 } : Room).cells ({ frames := 1, cells := 0, slots := 0, locals := 12 } : Room).slots) := by
  refine MetFree.of_bodySF (plainFor_of_name (by first | (simp [plainName, overriddenIn]; done) | decide +kernel)) hisR ?_
  intro p e s m args below meth c s₁ Bd hml0 hP hK
  obtain ⟨rfl, hZ, hh⟩ := hP
  have hx := Bd.exec
  have hby := Bd.bytes
  have hml : c.maxLocals = 10 := hml0
  have hown : s.vm.findClass "com/example/proxy_to_stub/proxytostub/transport/Frame" = some m.cls := findClass_of_methodNamed Bd.named
  have hnm := (name_of_methodNamed Bd.named Bd.method).1
  have X0 : Stand p l e ({ frames := 1, cells := 0, slots := 0, locals := 12 } : Room) s m #[(.ref x0), (.int x1), (.int x2), (.int x3), (.long x4), (.ref x5), (.ref x6), (.int x7), (.ref x8)] below meth c s₁ [] 0 0 := Stand.of_body Bd
  have e0 : s₁.heap = h0 := by rw [← hh, Bd.state]; rfl
  have N0 := Fr.nil n0
  have ef0 : entryFrame m #[(.ref x0), (.int x1), (.int x2), (.int x3), (.long x4), (.ref x5), (.ref x6), (.int x7), (.ref x8)] 10 = mkF m 0 #[.val (.ref x0), .val (.int x1), .val (.int x2), .val (.int x3), .val (.long x4), .second, .val (.ref x5), .val (.ref x6), .val (.int x7), .val (.ref x8)] [] := by first | (simp [entryFrame, mkF, argsToLocals, Value.category, maxLocals]; done) | rfl
  have pre0 : ∀ t, Steps p.tables e below (s₁.setTop (mkF m 0 #[.val (.ref x0), .val (.int x1), .val (.int x2), .val (.int x3), .val (.long x4), .second, .val (.ref x5), .val (.ref x6), .val (.int x7), .val (.ref x8)] [])) t → Steps p.tables e below (s₁.setTop (entryFrame m #[(.ref x0), (.int x1), (.int x2), (.int x3), (.long x4), (.ref x5), (.ref x6), (.int x7), (.ref x8)] 10)) t := fun t k => castTop ef0 k
  obtain ⟨T1, X1, e1, st1⟩ := initO X0 hx hZ hown (hw _ (List.mem_of_getElem? (i := 12) rfl)) (hw _ (List.mem_of_getElem? (i := 13) rfl)) (hw _ (List.mem_of_getElem? (i := 14) rfl)) e0 (g := (mkF m 1 #[.val (.ref x0), .val (.int x1), .val (.int x2), .val (.int x3), .val (.long x4), .second, .val (.ref x5), .val (.ref x6), .val (.int x7), .val (.ref x8)] [(.ref x0)])) rfl (by rw [hml]; rfl) rfl (hb hby own_d2_1) (by decide) (W := 0) (by show 2 * 0 + _ ≤ _; exact Nat.le_of_eq rfl) (by decide)
  obtain ⟨T2, h2, X2, e2, W2, st2⟩ := putF X1 hx hZ hown (host := "") (Or.inl (hw _ (List.mem_of_getElem? (i := 15) rfl))) Via.refl e1 F_kind E0 (Or.inr ⟨(hw _ (List.mem_of_getElem? (i := 16) rfl)), rfl, hnm⟩) (hw _ (List.mem_of_getElem? (i := 2) rfl)) (ty := .int) (by decide) rfl rfl (g := (mkF m 6 #[.val (.ref x0), .val (.int x1), .val (.int x2), .val (.int x3), .val (.long x4), .second, .val (.ref x5), .val (.ref x6), .val (.int x7), .val (.ref x8)] [(.int x1), (.ref x0)])) rfl rfl (hb hby own_d2_6)
  have N2 := Fr.snoc X2 N0 ge
  have f3 : n0 ≤ h2.size := Nat.le_trans Z0 (Keep.of_wr W2).1
  have f4 : Keep h0 h2 [x0] := (Keep.refl h0 [x0]).wr W2 (Or.inl (List.mem_of_getElem? (i := 0) rfl))
  have f5 : Exa Z h2 x0 "com/example/proxy_to_stub/proxytostub/transport/Frame" := E0.wr W2
  have f6 : Fld Z h2 x0 "com/example/proxy_to_stub/proxytostub/transport/Frame" "kind" "I" (.int x1) := F_kind.same W2
  have f7 : Fld Z h2 x0 "com/example/proxy_to_stub/proxytostub/transport/Frame" "code" "I" (.int (0 : Int32)) := F_code.other W2 (Or.inr (slot_ne (Or.inr (hw _ (List.mem_of_getElem? (i := 18) rfl))) (Or.inr (hw _ (List.mem_of_getElem? (i := 16) rfl))) (by decide) (t := .int) (t' := .int) (by decide) (by decide)))
  have f8 : Fld Z h2 x0 "com/example/proxy_to_stub/proxytostub/transport/Frame" "flags" "I" (.int (0 : Int32)) := F_flags.other W2 (Or.inr (slot_ne (Or.inr (hw _ (List.mem_of_getElem? (i := 20) rfl))) (Or.inr (hw _ (List.mem_of_getElem? (i := 16) rfl))) (by decide) (t := .int) (t' := .int) (by decide) (by decide)))
  have f9 : Fld Z h2 x0 "com/example/proxy_to_stub/proxytostub/transport/Frame" "target" "J" (.long (0 : Int64)) := F_target.other W2 (Or.inr (slot_ne (Or.inr (hw _ (List.mem_of_getElem? (i := 22) rfl))) (Or.inr (hw _ (List.mem_of_getElem? (i := 16) rfl))) (by decide) (t := .long) (t' := .int) (by decide) (by decide)))
  have f10 : Fld Z h2 x0 "com/example/proxy_to_stub/proxytostub/transport/Frame" "objects" "[B" .null := F_objects.other W2 (Or.inr (slot_ne (Or.inr (hw _ (List.mem_of_getElem? (i := 24) rfl))) (Or.inr (hw _ (List.mem_of_getElem? (i := 16) rfl))) (by decide) (t := (.array .byte)) (t' := .int) (by decide) (by decide)))
  have f11 : Fld Z h2 x0 "com/example/proxy_to_stub/proxytostub/transport/Frame" "data" "[B" .null := F_data.other W2 (Or.inr (slot_ne (Or.inr (hw _ (List.mem_of_getElem? (i := 26) rfl))) (Or.inr (hw _ (List.mem_of_getElem? (i := 16) rfl))) (by decide) (t := (.array .byte)) (t' := .int) (by decide) (by decide)))
  have f12 : Fld Z h2 x0 "com/example/proxy_to_stub/proxytostub/transport/Frame" "dataLength" "I" (.int (0 : Int32)) := F_dataLength.other W2 (Or.inr (slot_ne (Or.inr (hw _ (List.mem_of_getElem? (i := 28) rfl))) (Or.inr (hw _ (List.mem_of_getElem? (i := 16) rfl))) (by decide) (t := .int) (t' := .int) (by decide) (by decide)))
  have f13 : Fld Z h2 x0 "com/example/proxy_to_stub/proxytostub/transport/Frame" "tail" "[B" .null := F_tail.other W2 (Or.inr (slot_ne (Or.inr (hw _ (List.mem_of_getElem? (i := 30) rfl))) (Or.inr (hw _ (List.mem_of_getElem? (i := 16) rfl))) (by decide) (t := (.array .byte)) (t' := .int) (by decide) (by decide)))
  obtain ⟨T14, h14, X14, e14, W14, st14⟩ := putF X2 hx hZ hown (host := "") (Or.inl (hw _ (List.mem_of_getElem? (i := 17) rfl))) Via.refl e2 f7 f5 (Or.inr ⟨(hw _ (List.mem_of_getElem? (i := 18) rfl)), rfl, hnm⟩) (hw _ (List.mem_of_getElem? (i := 2) rfl)) (ty := .int) (by decide) rfl rfl (g := (mkF m 11 #[.val (.ref x0), .val (.int x1), .val (.int x2), .val (.int x3), .val (.long x4), .second, .val (.ref x5), .val (.ref x6), .val (.int x7), .val (.ref x8)] [(.int x2), (.ref x0)])) rfl rfl (hb hby own_d2_11)
  have N14 := Fr.snoc X14 N2 ge
  have f15 : n0 ≤ h14.size := Nat.le_trans f3 (Keep.of_wr W14).1
  have f16 : Keep h0 h14 [x0] := f4.wr W14 (Or.inl (List.mem_of_getElem? (i := 0) rfl))
  have f17 : Exa Z h14 x0 "com/example/proxy_to_stub/proxytostub/transport/Frame" := f5.wr W14
  have f18 : Fld Z h14 x0 "com/example/proxy_to_stub/proxytostub/transport/Frame" "kind" "I" (.int x1) := f6.other W14 (Or.inr (slot_ne (Or.inr (hw _ (List.mem_of_getElem? (i := 16) rfl))) (Or.inr (hw _ (List.mem_of_getElem? (i := 18) rfl))) (by decide) (t := .int) (t' := .int) (by decide) (by decide)))
  have f19 : Fld Z h14 x0 "com/example/proxy_to_stub/proxytostub/transport/Frame" "code" "I" (.int x2) := f7.same W14
  have f20 : Fld Z h14 x0 "com/example/proxy_to_stub/proxytostub/transport/Frame" "flags" "I" (.int (0 : Int32)) := f8.other W14 (Or.inr (slot_ne (Or.inr (hw _ (List.mem_of_getElem? (i := 20) rfl))) (Or.inr (hw _ (List.mem_of_getElem? (i := 18) rfl))) (by decide) (t := .int) (t' := .int) (by decide) (by decide)))
  have f21 : Fld Z h14 x0 "com/example/proxy_to_stub/proxytostub/transport/Frame" "target" "J" (.long (0 : Int64)) := f9.other W14 (Or.inr (slot_ne (Or.inr (hw _ (List.mem_of_getElem? (i := 22) rfl))) (Or.inr (hw _ (List.mem_of_getElem? (i := 18) rfl))) (by decide) (t := .long) (t' := .int) (by decide) (by decide)))
  have f22 : Fld Z h14 x0 "com/example/proxy_to_stub/proxytostub/transport/Frame" "objects" "[B" .null := f10.other W14 (Or.inr (slot_ne (Or.inr (hw _ (List.mem_of_getElem? (i := 24) rfl))) (Or.inr (hw _ (List.mem_of_getElem? (i := 18) rfl))) (by decide) (t := (.array .byte)) (t' := .int) (by decide) (by decide)))
  have f23 : Fld Z h14 x0 "com/example/proxy_to_stub/proxytostub/transport/Frame" "data" "[B" .null := f11.other W14 (Or.inr (slot_ne (Or.inr (hw _ (List.mem_of_getElem? (i := 26) rfl))) (Or.inr (hw _ (List.mem_of_getElem? (i := 18) rfl))) (by decide) (t := (.array .byte)) (t' := .int) (by decide) (by decide)))
  have f24 : Fld Z h14 x0 "com/example/proxy_to_stub/proxytostub/transport/Frame" "dataLength" "I" (.int (0 : Int32)) := f12.other W14 (Or.inr (slot_ne (Or.inr (hw _ (List.mem_of_getElem? (i := 28) rfl))) (Or.inr (hw _ (List.mem_of_getElem? (i := 18) rfl))) (by decide) (t := .int) (t' := .int) (by decide) (by decide)))
  have f25 : Fld Z h14 x0 "com/example/proxy_to_stub/proxytostub/transport/Frame" "tail" "[B" .null := f13.other W14 (Or.inr (slot_ne (Or.inr (hw _ (List.mem_of_getElem? (i := 30) rfl))) (Or.inr (hw _ (List.mem_of_getElem? (i := 18) rfl))) (by decide) (t := (.array .byte)) (t' := .int) (by decide) (by decide)))
  obtain ⟨T26, h26, X26, e26, W26, st26⟩ := putF X14 hx hZ hown (host := "") (Or.inl (hw _ (List.mem_of_getElem? (i := 19) rfl))) Via.refl e14 f20 f17 (Or.inr ⟨(hw _ (List.mem_of_getElem? (i := 20) rfl)), rfl, hnm⟩) (hw _ (List.mem_of_getElem? (i := 2) rfl)) (ty := .int) (by decide) rfl rfl (g := (mkF m 16 #[.val (.ref x0), .val (.int x1), .val (.int x2), .val (.int x3), .val (.long x4), .second, .val (.ref x5), .val (.ref x6), .val (.int x7), .val (.ref x8)] [(.int x3), (.ref x0)])) rfl rfl (hb hby own_d2_16)
  have N26 := Fr.snoc X26 N14 ge
  have f27 : n0 ≤ h26.size := Nat.le_trans f15 (Keep.of_wr W26).1
  have f28 : Keep h0 h26 [x0] := f16.wr W26 (Or.inl (List.mem_of_getElem? (i := 0) rfl))
  have f29 : Exa Z h26 x0 "com/example/proxy_to_stub/proxytostub/transport/Frame" := f17.wr W26
  have f30 : Fld Z h26 x0 "com/example/proxy_to_stub/proxytostub/transport/Frame" "kind" "I" (.int x1) := f18.other W26 (Or.inr (slot_ne (Or.inr (hw _ (List.mem_of_getElem? (i := 16) rfl))) (Or.inr (hw _ (List.mem_of_getElem? (i := 20) rfl))) (by decide) (t := .int) (t' := .int) (by decide) (by decide)))
  have f31 : Fld Z h26 x0 "com/example/proxy_to_stub/proxytostub/transport/Frame" "code" "I" (.int x2) := f19.other W26 (Or.inr (slot_ne (Or.inr (hw _ (List.mem_of_getElem? (i := 18) rfl))) (Or.inr (hw _ (List.mem_of_getElem? (i := 20) rfl))) (by decide) (t := .int) (t' := .int) (by decide) (by decide)))
  have f32 : Fld Z h26 x0 "com/example/proxy_to_stub/proxytostub/transport/Frame" "flags" "I" (.int x3) := f20.same W26
  have f33 : Fld Z h26 x0 "com/example/proxy_to_stub/proxytostub/transport/Frame" "target" "J" (.long (0 : Int64)) := f21.other W26 (Or.inr (slot_ne (Or.inr (hw _ (List.mem_of_getElem? (i := 22) rfl))) (Or.inr (hw _ (List.mem_of_getElem? (i := 20) rfl))) (by decide) (t := .long) (t' := .int) (by decide) (by decide)))
  have f34 : Fld Z h26 x0 "com/example/proxy_to_stub/proxytostub/transport/Frame" "objects" "[B" .null := f22.other W26 (Or.inr (slot_ne (Or.inr (hw _ (List.mem_of_getElem? (i := 24) rfl))) (Or.inr (hw _ (List.mem_of_getElem? (i := 20) rfl))) (by decide) (t := (.array .byte)) (t' := .int) (by decide) (by decide)))
  have f35 : Fld Z h26 x0 "com/example/proxy_to_stub/proxytostub/transport/Frame" "data" "[B" .null := f23.other W26 (Or.inr (slot_ne (Or.inr (hw _ (List.mem_of_getElem? (i := 26) rfl))) (Or.inr (hw _ (List.mem_of_getElem? (i := 20) rfl))) (by decide) (t := (.array .byte)) (t' := .int) (by decide) (by decide)))
  have f36 : Fld Z h26 x0 "com/example/proxy_to_stub/proxytostub/transport/Frame" "dataLength" "I" (.int (0 : Int32)) := f24.other W26 (Or.inr (slot_ne (Or.inr (hw _ (List.mem_of_getElem? (i := 28) rfl))) (Or.inr (hw _ (List.mem_of_getElem? (i := 20) rfl))) (by decide) (t := .int) (t' := .int) (by decide) (by decide)))
  have f37 : Fld Z h26 x0 "com/example/proxy_to_stub/proxytostub/transport/Frame" "tail" "[B" .null := f25.other W26 (Or.inr (slot_ne (Or.inr (hw _ (List.mem_of_getElem? (i := 30) rfl))) (Or.inr (hw _ (List.mem_of_getElem? (i := 20) rfl))) (by decide) (t := (.array .byte)) (t' := .int) (by decide) (by decide)))
  obtain ⟨T38, h38, X38, e38, W38, st38⟩ := putF X26 hx hZ hown (host := "") (Or.inl (hw _ (List.mem_of_getElem? (i := 21) rfl))) Via.refl e26 f33 f29 (Or.inr ⟨(hw _ (List.mem_of_getElem? (i := 22) rfl)), rfl, hnm⟩) (hw _ (List.mem_of_getElem? (i := 2) rfl)) (ty := .long) (by decide) rfl rfl (g := (mkF m 22 #[.val (.ref x0), .val (.int x1), .val (.int x2), .val (.int x3), .val (.long x4), .second, .val (.ref x5), .val (.ref x6), .val (.int x7), .val (.ref x8)] [(.long x4), (.ref x0)])) rfl rfl (hb hby own_d2_22)
  have N38 := Fr.snoc X38 N26 ge
  have f39 : n0 ≤ h38.size := Nat.le_trans f27 (Keep.of_wr W38).1
  have f40 : Keep h0 h38 [x0] := f28.wr W38 (Or.inl (List.mem_of_getElem? (i := 0) rfl))
  have f41 : Exa Z h38 x0 "com/example/proxy_to_stub/proxytostub/transport/Frame" := f29.wr W38
  have f42 : Fld Z h38 x0 "com/example/proxy_to_stub/proxytostub/transport/Frame" "kind" "I" (.int x1) := f30.other W38 (Or.inr (slot_ne (Or.inr (hw _ (List.mem_of_getElem? (i := 16) rfl))) (Or.inr (hw _ (List.mem_of_getElem? (i := 22) rfl))) (by decide) (t := .int) (t' := .long) (by decide) (by decide)))
  have f43 : Fld Z h38 x0 "com/example/proxy_to_stub/proxytostub/transport/Frame" "code" "I" (.int x2) := f31.other W38 (Or.inr (slot_ne (Or.inr (hw _ (List.mem_of_getElem? (i := 18) rfl))) (Or.inr (hw _ (List.mem_of_getElem? (i := 22) rfl))) (by decide) (t := .int) (t' := .long) (by decide) (by decide)))
  have f44 : Fld Z h38 x0 "com/example/proxy_to_stub/proxytostub/transport/Frame" "flags" "I" (.int x3) := f32.other W38 (Or.inr (slot_ne (Or.inr (hw _ (List.mem_of_getElem? (i := 20) rfl))) (Or.inr (hw _ (List.mem_of_getElem? (i := 22) rfl))) (by decide) (t := .int) (t' := .long) (by decide) (by decide)))
  have f45 : Fld Z h38 x0 "com/example/proxy_to_stub/proxytostub/transport/Frame" "target" "J" (.long x4) := f33.same W38
  have f46 : Fld Z h38 x0 "com/example/proxy_to_stub/proxytostub/transport/Frame" "objects" "[B" .null := f34.other W38 (Or.inr (slot_ne (Or.inr (hw _ (List.mem_of_getElem? (i := 24) rfl))) (Or.inr (hw _ (List.mem_of_getElem? (i := 22) rfl))) (by decide) (t := (.array .byte)) (t' := .long) (by decide) (by decide)))
  have f47 : Fld Z h38 x0 "com/example/proxy_to_stub/proxytostub/transport/Frame" "data" "[B" .null := f35.other W38 (Or.inr (slot_ne (Or.inr (hw _ (List.mem_of_getElem? (i := 26) rfl))) (Or.inr (hw _ (List.mem_of_getElem? (i := 22) rfl))) (by decide) (t := (.array .byte)) (t' := .long) (by decide) (by decide)))
  have f48 : Fld Z h38 x0 "com/example/proxy_to_stub/proxytostub/transport/Frame" "dataLength" "I" (.int (0 : Int32)) := f36.other W38 (Or.inr (slot_ne (Or.inr (hw _ (List.mem_of_getElem? (i := 28) rfl))) (Or.inr (hw _ (List.mem_of_getElem? (i := 22) rfl))) (by decide) (t := .int) (t' := .long) (by decide) (by decide)))
  have f49 : Fld Z h38 x0 "com/example/proxy_to_stub/proxytostub/transport/Frame" "tail" "[B" .null := f37.other W38 (Or.inr (slot_ne (Or.inr (hw _ (List.mem_of_getElem? (i := 30) rfl))) (Or.inr (hw _ (List.mem_of_getElem? (i := 22) rfl))) (by decide) (t := (.array .byte)) (t' := .long) (by decide) (by decide)))
  obtain ⟨T50, h50, X50, e50, W50, st50⟩ := putF X38 hx hZ hown (host := "") (Or.inl (hw _ (List.mem_of_getElem? (i := 23) rfl))) Via.refl e38 f46 f41 (Or.inr ⟨(hw _ (List.mem_of_getElem? (i := 24) rfl)), rfl, hnm⟩) (hw _ (List.mem_of_getElem? (i := 2) rfl)) (ty := (.array .byte)) (by decide) rfl rfl (g := (mkF m 28 #[.val (.ref x0), .val (.int x1), .val (.int x2), .val (.int x3), .val (.long x4), .second, .val (.ref x5), .val (.ref x6), .val (.int x7), .val (.ref x8)] [(.ref x5), (.ref x0)])) rfl rfl (hb hby own_d2_28)
  have N50 := Fr.snoc X50 N38 ge
  have f51 : n0 ≤ h50.size := Nat.le_trans f39 (Keep.of_wr W50).1
  have f52 : Keep h0 h50 [x0] := f40.wr W50 (Or.inl (List.mem_of_getElem? (i := 0) rfl))
  have f53 : Exa Z h50 x0 "com/example/proxy_to_stub/proxytostub/transport/Frame" := f41.wr W50
  have f54 : Fld Z h50 x0 "com/example/proxy_to_stub/proxytostub/transport/Frame" "kind" "I" (.int x1) := f42.other W50 (Or.inr (slot_ne (Or.inr (hw _ (List.mem_of_getElem? (i := 16) rfl))) (Or.inr (hw _ (List.mem_of_getElem? (i := 24) rfl))) (by decide) (t := .int) (t' := (.array .byte)) (by decide) (by decide)))
  have f55 : Fld Z h50 x0 "com/example/proxy_to_stub/proxytostub/transport/Frame" "code" "I" (.int x2) := f43.other W50 (Or.inr (slot_ne (Or.inr (hw _ (List.mem_of_getElem? (i := 18) rfl))) (Or.inr (hw _ (List.mem_of_getElem? (i := 24) rfl))) (by decide) (t := .int) (t' := (.array .byte)) (by decide) (by decide)))
  have f56 : Fld Z h50 x0 "com/example/proxy_to_stub/proxytostub/transport/Frame" "flags" "I" (.int x3) := f44.other W50 (Or.inr (slot_ne (Or.inr (hw _ (List.mem_of_getElem? (i := 20) rfl))) (Or.inr (hw _ (List.mem_of_getElem? (i := 24) rfl))) (by decide) (t := .int) (t' := (.array .byte)) (by decide) (by decide)))
  have f57 : Fld Z h50 x0 "com/example/proxy_to_stub/proxytostub/transport/Frame" "target" "J" (.long x4) := f45.other W50 (Or.inr (slot_ne (Or.inr (hw _ (List.mem_of_getElem? (i := 22) rfl))) (Or.inr (hw _ (List.mem_of_getElem? (i := 24) rfl))) (by decide) (t := .long) (t' := (.array .byte)) (by decide) (by decide)))
  have f58 : Fld Z h50 x0 "com/example/proxy_to_stub/proxytostub/transport/Frame" "objects" "[B" (.ref x5) := f46.same W50
  have f59 : Fld Z h50 x0 "com/example/proxy_to_stub/proxytostub/transport/Frame" "data" "[B" .null := f47.other W50 (Or.inr (slot_ne (Or.inr (hw _ (List.mem_of_getElem? (i := 26) rfl))) (Or.inr (hw _ (List.mem_of_getElem? (i := 24) rfl))) (by decide) (t := (.array .byte)) (t' := (.array .byte)) (by decide) (by decide)))
  have f60 : Fld Z h50 x0 "com/example/proxy_to_stub/proxytostub/transport/Frame" "dataLength" "I" (.int (0 : Int32)) := f48.other W50 (Or.inr (slot_ne (Or.inr (hw _ (List.mem_of_getElem? (i := 28) rfl))) (Or.inr (hw _ (List.mem_of_getElem? (i := 24) rfl))) (by decide) (t := .int) (t' := (.array .byte)) (by decide) (by decide)))
  have f61 : Fld Z h50 x0 "com/example/proxy_to_stub/proxytostub/transport/Frame" "tail" "[B" .null := f49.other W50 (Or.inr (slot_ne (Or.inr (hw _ (List.mem_of_getElem? (i := 30) rfl))) (Or.inr (hw _ (List.mem_of_getElem? (i := 24) rfl))) (by decide) (t := (.array .byte)) (t' := (.array .byte)) (by decide) (by decide)))
  obtain ⟨T62, h62, X62, e62, W62, st62⟩ := putF X50 hx hZ hown (host := "") (Or.inl (hw _ (List.mem_of_getElem? (i := 25) rfl))) Via.refl e50 f59 f53 (Or.inr ⟨(hw _ (List.mem_of_getElem? (i := 26) rfl)), rfl, hnm⟩) (hw _ (List.mem_of_getElem? (i := 2) rfl)) (ty := (.array .byte)) (by decide) rfl rfl (g := (mkF m 34 #[.val (.ref x0), .val (.int x1), .val (.int x2), .val (.int x3), .val (.long x4), .second, .val (.ref x5), .val (.ref x6), .val (.int x7), .val (.ref x8)] [(.ref x6), (.ref x0)])) rfl rfl (hb hby own_d2_34)
  have N62 := Fr.snoc X62 N50 ge
  have f63 : n0 ≤ h62.size := Nat.le_trans f51 (Keep.of_wr W62).1
  have f64 : Keep h0 h62 [x0] := f52.wr W62 (Or.inl (List.mem_of_getElem? (i := 0) rfl))
  have f65 : Exa Z h62 x0 "com/example/proxy_to_stub/proxytostub/transport/Frame" := f53.wr W62
  have f66 : Fld Z h62 x0 "com/example/proxy_to_stub/proxytostub/transport/Frame" "kind" "I" (.int x1) := f54.other W62 (Or.inr (slot_ne (Or.inr (hw _ (List.mem_of_getElem? (i := 16) rfl))) (Or.inr (hw _ (List.mem_of_getElem? (i := 26) rfl))) (by decide) (t := .int) (t' := (.array .byte)) (by decide) (by decide)))
  have f67 : Fld Z h62 x0 "com/example/proxy_to_stub/proxytostub/transport/Frame" "code" "I" (.int x2) := f55.other W62 (Or.inr (slot_ne (Or.inr (hw _ (List.mem_of_getElem? (i := 18) rfl))) (Or.inr (hw _ (List.mem_of_getElem? (i := 26) rfl))) (by decide) (t := .int) (t' := (.array .byte)) (by decide) (by decide)))
  have f68 : Fld Z h62 x0 "com/example/proxy_to_stub/proxytostub/transport/Frame" "flags" "I" (.int x3) := f56.other W62 (Or.inr (slot_ne (Or.inr (hw _ (List.mem_of_getElem? (i := 20) rfl))) (Or.inr (hw _ (List.mem_of_getElem? (i := 26) rfl))) (by decide) (t := .int) (t' := (.array .byte)) (by decide) (by decide)))
  have f69 : Fld Z h62 x0 "com/example/proxy_to_stub/proxytostub/transport/Frame" "target" "J" (.long x4) := f57.other W62 (Or.inr (slot_ne (Or.inr (hw _ (List.mem_of_getElem? (i := 22) rfl))) (Or.inr (hw _ (List.mem_of_getElem? (i := 26) rfl))) (by decide) (t := .long) (t' := (.array .byte)) (by decide) (by decide)))
  have f70 : Fld Z h62 x0 "com/example/proxy_to_stub/proxytostub/transport/Frame" "objects" "[B" (.ref x5) := f58.other W62 (Or.inr (slot_ne (Or.inr (hw _ (List.mem_of_getElem? (i := 24) rfl))) (Or.inr (hw _ (List.mem_of_getElem? (i := 26) rfl))) (by decide) (t := (.array .byte)) (t' := (.array .byte)) (by decide) (by decide)))
  have f71 : Fld Z h62 x0 "com/example/proxy_to_stub/proxytostub/transport/Frame" "data" "[B" (.ref x6) := f59.same W62
  have f72 : Fld Z h62 x0 "com/example/proxy_to_stub/proxytostub/transport/Frame" "dataLength" "I" (.int (0 : Int32)) := f60.other W62 (Or.inr (slot_ne (Or.inr (hw _ (List.mem_of_getElem? (i := 28) rfl))) (Or.inr (hw _ (List.mem_of_getElem? (i := 26) rfl))) (by decide) (t := .int) (t' := (.array .byte)) (by decide) (by decide)))
  have f73 : Fld Z h62 x0 "com/example/proxy_to_stub/proxytostub/transport/Frame" "tail" "[B" .null := f61.other W62 (Or.inr (slot_ne (Or.inr (hw _ (List.mem_of_getElem? (i := 30) rfl))) (Or.inr (hw _ (List.mem_of_getElem? (i := 26) rfl))) (by decide) (t := (.array .byte)) (t' := (.array .byte)) (by decide) (by decide)))
  obtain ⟨T74, h74, X74, e74, W74, st74⟩ := putF X62 hx hZ hown (host := "") (Or.inl (hw _ (List.mem_of_getElem? (i := 27) rfl))) Via.refl e62 f72 f65 (Or.inr ⟨(hw _ (List.mem_of_getElem? (i := 28) rfl)), rfl, hnm⟩) (hw _ (List.mem_of_getElem? (i := 2) rfl)) (ty := .int) (by decide) rfl rfl (g := (mkF m 40 #[.val (.ref x0), .val (.int x1), .val (.int x2), .val (.int x3), .val (.long x4), .second, .val (.ref x5), .val (.ref x6), .val (.int x7), .val (.ref x8)] [(.int x7), (.ref x0)])) rfl rfl (hb hby own_d2_40)
  have N74 := Fr.snoc X74 N62 ge
  have f75 : n0 ≤ h74.size := Nat.le_trans f63 (Keep.of_wr W74).1
  have f76 : Keep h0 h74 [x0] := f64.wr W74 (Or.inl (List.mem_of_getElem? (i := 0) rfl))
  have f77 : Exa Z h74 x0 "com/example/proxy_to_stub/proxytostub/transport/Frame" := f65.wr W74
  have f78 : Fld Z h74 x0 "com/example/proxy_to_stub/proxytostub/transport/Frame" "kind" "I" (.int x1) := f66.other W74 (Or.inr (slot_ne (Or.inr (hw _ (List.mem_of_getElem? (i := 16) rfl))) (Or.inr (hw _ (List.mem_of_getElem? (i := 28) rfl))) (by decide) (t := .int) (t' := .int) (by decide) (by decide)))
  have f79 : Fld Z h74 x0 "com/example/proxy_to_stub/proxytostub/transport/Frame" "code" "I" (.int x2) := f67.other W74 (Or.inr (slot_ne (Or.inr (hw _ (List.mem_of_getElem? (i := 18) rfl))) (Or.inr (hw _ (List.mem_of_getElem? (i := 28) rfl))) (by decide) (t := .int) (t' := .int) (by decide) (by decide)))
  have f80 : Fld Z h74 x0 "com/example/proxy_to_stub/proxytostub/transport/Frame" "flags" "I" (.int x3) := f68.other W74 (Or.inr (slot_ne (Or.inr (hw _ (List.mem_of_getElem? (i := 20) rfl))) (Or.inr (hw _ (List.mem_of_getElem? (i := 28) rfl))) (by decide) (t := .int) (t' := .int) (by decide) (by decide)))
  have f81 : Fld Z h74 x0 "com/example/proxy_to_stub/proxytostub/transport/Frame" "target" "J" (.long x4) := f69.other W74 (Or.inr (slot_ne (Or.inr (hw _ (List.mem_of_getElem? (i := 22) rfl))) (Or.inr (hw _ (List.mem_of_getElem? (i := 28) rfl))) (by decide) (t := .long) (t' := .int) (by decide) (by decide)))
  have f82 : Fld Z h74 x0 "com/example/proxy_to_stub/proxytostub/transport/Frame" "objects" "[B" (.ref x5) := f70.other W74 (Or.inr (slot_ne (Or.inr (hw _ (List.mem_of_getElem? (i := 24) rfl))) (Or.inr (hw _ (List.mem_of_getElem? (i := 28) rfl))) (by decide) (t := (.array .byte)) (t' := .int) (by decide) (by decide)))
  have f83 : Fld Z h74 x0 "com/example/proxy_to_stub/proxytostub/transport/Frame" "data" "[B" (.ref x6) := f71.other W74 (Or.inr (slot_ne (Or.inr (hw _ (List.mem_of_getElem? (i := 26) rfl))) (Or.inr (hw _ (List.mem_of_getElem? (i := 28) rfl))) (by decide) (t := (.array .byte)) (t' := .int) (by decide) (by decide)))
  have f84 : Fld Z h74 x0 "com/example/proxy_to_stub/proxytostub/transport/Frame" "dataLength" "I" (.int x7) := f72.same W74
  have f85 : Fld Z h74 x0 "com/example/proxy_to_stub/proxytostub/transport/Frame" "tail" "[B" .null := f73.other W74 (Or.inr (slot_ne (Or.inr (hw _ (List.mem_of_getElem? (i := 30) rfl))) (Or.inr (hw _ (List.mem_of_getElem? (i := 28) rfl))) (by decide) (t := (.array .byte)) (t' := .int) (by decide) (by decide)))
  obtain ⟨T86, h86, X86, e86, W86, st86⟩ := putF X74 hx hZ hown (host := "") (Or.inl (hw _ (List.mem_of_getElem? (i := 29) rfl))) Via.refl e74 f85 f77 (Or.inr ⟨(hw _ (List.mem_of_getElem? (i := 30) rfl)), rfl, hnm⟩) (hw _ (List.mem_of_getElem? (i := 2) rfl)) (ty := (.array .byte)) (by decide) rfl rfl (g := (mkF m 46 #[.val (.ref x0), .val (.int x1), .val (.int x2), .val (.int x3), .val (.long x4), .second, .val (.ref x5), .val (.ref x6), .val (.int x7), .val (.ref x8)] [(.ref x8), (.ref x0)])) rfl rfl (hb hby own_d2_46)
  have N86 := Fr.snoc X86 N74 ge
  have f87 : n0 ≤ h86.size := Nat.le_trans f75 (Keep.of_wr W86).1
  have f88 : Keep h0 h86 [x0] := f76.wr W86 (Or.inl (List.mem_of_getElem? (i := 0) rfl))
  have f89 : Exa Z h86 x0 "com/example/proxy_to_stub/proxytostub/transport/Frame" := f77.wr W86
  have f90 : Fld Z h86 x0 "com/example/proxy_to_stub/proxytostub/transport/Frame" "kind" "I" (.int x1) := f78.other W86 (Or.inr (slot_ne (Or.inr (hw _ (List.mem_of_getElem? (i := 16) rfl))) (Or.inr (hw _ (List.mem_of_getElem? (i := 30) rfl))) (by decide) (t := .int) (t' := (.array .byte)) (by decide) (by decide)))
  have f91 : Fld Z h86 x0 "com/example/proxy_to_stub/proxytostub/transport/Frame" "code" "I" (.int x2) := f79.other W86 (Or.inr (slot_ne (Or.inr (hw _ (List.mem_of_getElem? (i := 18) rfl))) (Or.inr (hw _ (List.mem_of_getElem? (i := 30) rfl))) (by decide) (t := .int) (t' := (.array .byte)) (by decide) (by decide)))
  have f92 : Fld Z h86 x0 "com/example/proxy_to_stub/proxytostub/transport/Frame" "flags" "I" (.int x3) := f80.other W86 (Or.inr (slot_ne (Or.inr (hw _ (List.mem_of_getElem? (i := 20) rfl))) (Or.inr (hw _ (List.mem_of_getElem? (i := 30) rfl))) (by decide) (t := .int) (t' := (.array .byte)) (by decide) (by decide)))
  have f93 : Fld Z h86 x0 "com/example/proxy_to_stub/proxytostub/transport/Frame" "target" "J" (.long x4) := f81.other W86 (Or.inr (slot_ne (Or.inr (hw _ (List.mem_of_getElem? (i := 22) rfl))) (Or.inr (hw _ (List.mem_of_getElem? (i := 30) rfl))) (by decide) (t := .long) (t' := (.array .byte)) (by decide) (by decide)))
  have f94 : Fld Z h86 x0 "com/example/proxy_to_stub/proxytostub/transport/Frame" "objects" "[B" (.ref x5) := f82.other W86 (Or.inr (slot_ne (Or.inr (hw _ (List.mem_of_getElem? (i := 24) rfl))) (Or.inr (hw _ (List.mem_of_getElem? (i := 30) rfl))) (by decide) (t := (.array .byte)) (t' := (.array .byte)) (by decide) (by decide)))
  have f95 : Fld Z h86 x0 "com/example/proxy_to_stub/proxytostub/transport/Frame" "data" "[B" (.ref x6) := f83.other W86 (Or.inr (slot_ne (Or.inr (hw _ (List.mem_of_getElem? (i := 26) rfl))) (Or.inr (hw _ (List.mem_of_getElem? (i := 30) rfl))) (by decide) (t := (.array .byte)) (t' := (.array .byte)) (by decide) (by decide)))
  have f96 : Fld Z h86 x0 "com/example/proxy_to_stub/proxytostub/transport/Frame" "dataLength" "I" (.int x7) := f84.other W86 (Or.inr (slot_ne (Or.inr (hw _ (List.mem_of_getElem? (i := 28) rfl))) (Or.inr (hw _ (List.mem_of_getElem? (i := 30) rfl))) (by decide) (t := .int) (t' := (.array .byte)) (by decide) (by decide)))
  have f97 : Fld Z h86 x0 "com/example/proxy_to_stub/proxytostub/transport/Frame" "tail" "[B" (.ref x8) := f85.same W86
  obtain ⟨fs, hr, hrun, hended, hW, hsame⟩ := X86.leave (v := none) (fun _ => rfl)
  refine ⟨_, _, pre0 _ ?_, hrun, hended, _, _, rfl, ?_, ⟨_, rfl⟩, hW, hsame.mono (by decide) (by decide)⟩
  · show Steps p.tables e below (s₁.setTop (mkF m 0 #[.val (.ref x0), .val (.int x1), .val (.int x2), .val (.int x3), .val (.long x4), .second, .val (.ref x5), .val (.ref x6), .val (.int x7), .val (.ref x8)] [])) _
    refine XS.aloadN X0.here hx rfl (hb hby own_d2_0) rfl rfl ?_
    show Steps p.tables e below (s₁.setTop (mkF m 1 #[.val (.ref x0), .val (.int x1), .val (.int x2), .val (.int x3), .val (.long x4), .second, .val (.ref x5), .val (.ref x6), .val (.int x7), .val (.ref x8)] [(.ref x0)])) _
    refine st1 _ ?_
    show Steps p.tables e below (T1.setTop (mkF m 4 #[.val (.ref x0), .val (.int x1), .val (.int x2), .val (.int x3), .val (.long x4), .second, .val (.ref x5), .val (.ref x6), .val (.int x7), .val (.ref x8)] [])) _
    refine XS.aloadN X1.here hx rfl (hb hby own_d2_4) rfl rfl ?_
    show Steps p.tables e below (T1.setTop (mkF m 5 #[.val (.ref x0), .val (.int x1), .val (.int x2), .val (.int x3), .val (.long x4), .second, .val (.ref x5), .val (.ref x6), .val (.int x7), .val (.ref x8)] [(.ref x0)])) _
    refine XS.iloadN X1.here hx rfl (hb hby own_d2_5) rfl ?_
    show Steps p.tables e below (T1.setTop (mkF m 6 #[.val (.ref x0), .val (.int x1), .val (.int x2), .val (.int x3), .val (.long x4), .second, .val (.ref x5), .val (.ref x6), .val (.int x7), .val (.ref x8)] [(.int x1), (.ref x0)])) _
    refine st2 _ ?_
    show Steps p.tables e below (T2.setTop (mkF m 9 #[.val (.ref x0), .val (.int x1), .val (.int x2), .val (.int x3), .val (.long x4), .second, .val (.ref x5), .val (.ref x6), .val (.int x7), .val (.ref x8)] [])) _
    refine XS.aloadN X2.here hx rfl (hb hby own_d2_9) rfl rfl ?_
    show Steps p.tables e below (T2.setTop (mkF m 10 #[.val (.ref x0), .val (.int x1), .val (.int x2), .val (.int x3), .val (.long x4), .second, .val (.ref x5), .val (.ref x6), .val (.int x7), .val (.ref x8)] [(.ref x0)])) _
    refine XS.iloadN X2.here hx rfl (hb hby own_d2_10) rfl ?_
    show Steps p.tables e below (T2.setTop (mkF m 11 #[.val (.ref x0), .val (.int x1), .val (.int x2), .val (.int x3), .val (.long x4), .second, .val (.ref x5), .val (.ref x6), .val (.int x7), .val (.ref x8)] [(.int x2), (.ref x0)])) _
    refine st14 _ ?_
    show Steps p.tables e below (T14.setTop (mkF m 14 #[.val (.ref x0), .val (.int x1), .val (.int x2), .val (.int x3), .val (.long x4), .second, .val (.ref x5), .val (.ref x6), .val (.int x7), .val (.ref x8)] [])) _
    refine XS.aloadN X14.here hx rfl (hb hby own_d2_14) rfl rfl ?_
    show Steps p.tables e below (T14.setTop (mkF m 15 #[.val (.ref x0), .val (.int x1), .val (.int x2), .val (.int x3), .val (.long x4), .second, .val (.ref x5), .val (.ref x6), .val (.int x7), .val (.ref x8)] [(.ref x0)])) _
    refine XS.iloadN X14.here hx rfl (hb hby own_d2_15) rfl ?_
    show Steps p.tables e below (T14.setTop (mkF m 16 #[.val (.ref x0), .val (.int x1), .val (.int x2), .val (.int x3), .val (.long x4), .second, .val (.ref x5), .val (.ref x6), .val (.int x7), .val (.ref x8)] [(.int x3), (.ref x0)])) _
    refine st26 _ ?_
    show Steps p.tables e below (T26.setTop (mkF m 19 #[.val (.ref x0), .val (.int x1), .val (.int x2), .val (.int x3), .val (.long x4), .second, .val (.ref x5), .val (.ref x6), .val (.int x7), .val (.ref x8)] [])) _
    refine XS.aloadN X26.here hx rfl (hb hby own_d2_19) rfl rfl ?_
    show Steps p.tables e below (T26.setTop (mkF m 20 #[.val (.ref x0), .val (.int x1), .val (.int x2), .val (.int x3), .val (.long x4), .second, .val (.ref x5), .val (.ref x6), .val (.int x7), .val (.ref x8)] [(.ref x0)])) _
    refine XS.lload X26.here hx rfl (hb hby own_d2_20) rfl ?_
    show Steps p.tables e below (T26.setTop (mkF m 22 #[.val (.ref x0), .val (.int x1), .val (.int x2), .val (.int x3), .val (.long x4), .second, .val (.ref x5), .val (.ref x6), .val (.int x7), .val (.ref x8)] [(.long x4), (.ref x0)])) _
    refine st38 _ ?_
    show Steps p.tables e below (T38.setTop (mkF m 25 #[.val (.ref x0), .val (.int x1), .val (.int x2), .val (.int x3), .val (.long x4), .second, .val (.ref x5), .val (.ref x6), .val (.int x7), .val (.ref x8)] [])) _
    refine XS.aloadN X38.here hx rfl (hb hby own_d2_25) rfl rfl ?_
    show Steps p.tables e below (T38.setTop (mkF m 26 #[.val (.ref x0), .val (.int x1), .val (.int x2), .val (.int x3), .val (.long x4), .second, .val (.ref x5), .val (.ref x6), .val (.int x7), .val (.ref x8)] [(.ref x0)])) _
    refine XS.aload X38.here hx rfl (hb hby own_d2_26) rfl rfl ?_
    show Steps p.tables e below (T38.setTop (mkF m 28 #[.val (.ref x0), .val (.int x1), .val (.int x2), .val (.int x3), .val (.long x4), .second, .val (.ref x5), .val (.ref x6), .val (.int x7), .val (.ref x8)] [(.ref x5), (.ref x0)])) _
    refine st50 _ ?_
    show Steps p.tables e below (T50.setTop (mkF m 31 #[.val (.ref x0), .val (.int x1), .val (.int x2), .val (.int x3), .val (.long x4), .second, .val (.ref x5), .val (.ref x6), .val (.int x7), .val (.ref x8)] [])) _
    refine XS.aloadN X50.here hx rfl (hb hby own_d2_31) rfl rfl ?_
    show Steps p.tables e below (T50.setTop (mkF m 32 #[.val (.ref x0), .val (.int x1), .val (.int x2), .val (.int x3), .val (.long x4), .second, .val (.ref x5), .val (.ref x6), .val (.int x7), .val (.ref x8)] [(.ref x0)])) _
    refine XS.aload X50.here hx rfl (hb hby own_d2_32) rfl rfl ?_
    show Steps p.tables e below (T50.setTop (mkF m 34 #[.val (.ref x0), .val (.int x1), .val (.int x2), .val (.int x3), .val (.long x4), .second, .val (.ref x5), .val (.ref x6), .val (.int x7), .val (.ref x8)] [(.ref x6), (.ref x0)])) _
    refine st62 _ ?_
    show Steps p.tables e below (T62.setTop (mkF m 37 #[.val (.ref x0), .val (.int x1), .val (.int x2), .val (.int x3), .val (.long x4), .second, .val (.ref x5), .val (.ref x6), .val (.int x7), .val (.ref x8)] [])) _
    refine XS.aloadN X62.here hx rfl (hb hby own_d2_37) rfl rfl ?_
    show Steps p.tables e below (T62.setTop (mkF m 38 #[.val (.ref x0), .val (.int x1), .val (.int x2), .val (.int x3), .val (.long x4), .second, .val (.ref x5), .val (.ref x6), .val (.int x7), .val (.ref x8)] [(.ref x0)])) _
    refine XS.iload X62.here hx rfl (hb hby own_d2_38) rfl ?_
    show Steps p.tables e below (T62.setTop (mkF m 40 #[.val (.ref x0), .val (.int x1), .val (.int x2), .val (.int x3), .val (.long x4), .second, .val (.ref x5), .val (.ref x6), .val (.int x7), .val (.ref x8)] [(.int x7), (.ref x0)])) _
    refine st74 _ ?_
    show Steps p.tables e below (T74.setTop (mkF m 43 #[.val (.ref x0), .val (.int x1), .val (.int x2), .val (.int x3), .val (.long x4), .second, .val (.ref x5), .val (.ref x6), .val (.int x7), .val (.ref x8)] [])) _
    refine XS.aloadN X74.here hx rfl (hb hby own_d2_43) rfl rfl ?_
    show Steps p.tables e below (T74.setTop (mkF m 44 #[.val (.ref x0), .val (.int x1), .val (.int x2), .val (.int x3), .val (.long x4), .second, .val (.ref x5), .val (.ref x6), .val (.int x7), .val (.ref x8)] [(.ref x0)])) _
    refine XS.aload X74.here hx rfl (hb hby own_d2_44) rfl rfl ?_
    show Steps p.tables e below (T74.setTop (mkF m 46 #[.val (.ref x0), .val (.int x1), .val (.int x2), .val (.int x3), .val (.long x4), .second, .val (.ref x5), .val (.ref x6), .val (.int x7), .val (.ref x8)] [(.ref x8), (.ref x0)])) _
    refine st86 _ ?_
    show Steps p.tables e below (T86.setTop (mkF m 49 #[.val (.ref x0), .val (.int x1), .val (.int x2), .val (.int x3), .val (.long x4), .second, .val (.ref x5), .val (.ref x6), .val (.int x7), .val (.ref x8)] [])) _
    exact X86.returnOut hx Bd.returns (hb hby own_d2_49) hr
  · show QC Z x0 x3 x5 x6 x8 h0 n0 _ T86.heap _
    rw [e86]
    exact ⟨rfl, N86, f88, f89, f92, f94, f95, f97⟩
theorem own_d1_0 : decode prog_21_method_1_code 0 = .ok (.aload_n 0, 1) := by decide +kernel
theorem own_d1_1 : decode prog_21_method_1_code 1 = .ok (.iload_n 1, 1) := by decide +kernel
theorem own_d1_2 : decode prog_21_method_1_code 2 = .ok (.iload_n 2, 1) := by decide +kernel
theorem own_d1_3 : decode prog_21_method_1_code 3 = .ok (.iload_n 3, 1) := by decide +kernel
theorem own_d1_4 : decode prog_21_method_1_code 4 = .ok (.lload 4, 2) := by decide +kernel
theorem own_d1_6 : decode prog_21_method_1_code 6 = .ok (.aload 6, 2) := by decide +kernel
theorem own_d1_8 : decode prog_21_method_1_code 8 = .ok (.aload 7, 2) := by decide +kernel
theorem own_d1_10 : decode prog_21_method_1_code 10 = .ok (.aload 7, 2) := by decide +kernel
theorem own_d1_12 : decode prog_21_method_1_code 12 = .ok (.arraylength, 1) := by decide +kernel
theorem own_d1_13 : decode prog_21_method_1_code 13 = .ok (.getstatic 9, 3) := by decide +kernel
theorem own_d1_16 : decode prog_21_method_1_code 16 = .ok (.invokespecial 13, 3) := by decide +kernel
theorem own_d1_19 : decode prog_21_method_1_code 19 = .ok (.return_, 1) := by decide +kernel
set_option maxRecDepth 65536 in
set_option maxHeartbeats 40000000 in
theorem rm_c1 (l : Launch) (Z : State) (a0 : Array Value) (hw : ∀ d ∈ tables_1, d.before a0 Z = true) (ws : List Jvm.Cond) (x0 : Addr) (x1 x2 x3 : Int32) (x4 : Int64) (x5 x6 : Addr) (nl : Int32) (em : Addr) (h0 : Heap) (n0 : Nat) (Z0 : n0 ≤ h0.size) (E0 : Exa Z h0 x0 "com/example/proxy_to_stub/proxytostub/transport/Frame") (F_kind : Fld Z h0 x0 "com/example/proxy_to_stub/proxytostub/transport/Frame" "kind" "I" (.int (0 : Int32))) (F_code : Fld Z h0 x0 "com/example/proxy_to_stub/proxytostub/transport/Frame" "code" "I" (.int (0 : Int32))) (F_flags : Fld Z h0 x0 "com/example/proxy_to_stub/proxytostub/transport/Frame" "flags" "I" (.int (0 : Int32))) (F_target : Fld Z h0 x0 "com/example/proxy_to_stub/proxytostub/transport/Frame" "target" "J" (.long (0 : Int64))) (F_objects : Fld Z h0 x0 "com/example/proxy_to_stub/proxytostub/transport/Frame" "objects" "[B" .null) (F_data : Fld Z h0 x0 "com/example/proxy_to_stub/proxytostub/transport/Frame" "data" "[B" .null) (F_dataLength : Fld Z h0 x0 "com/example/proxy_to_stub/proxytostub/transport/Frame" "dataLength" "I" (.int (0 : Int32))) (F_tail : Fld Z h0 x0 "com/example/proxy_to_stub/proxytostub/transport/Frame" "tail" "[B" .null) (ge : n0 ≤ x0) (AD : ALen Z h0 x6 .byte nl) (SE : Sta Z h0 "com/example/proxy_to_stub/proxytostub/transport/Frame" "EMPTY" "[B" (.ref em)) :
    MetFree l (⟨"com/example/proxy_to_stub/proxytostub/transport/Frame", "<init>", "(IIIJ[B[B)V"⟩ : MethodName) (head1 (Jvm.Cond.code (⟨"com/example/proxy_to_stub/proxytostub/transport/Frame", "<init>", "(IIIJ[B[B)V"⟩ : MethodName) prog_21_method_1_code 8 none :: ws) ({ frames := 2, cells := 0, slots := 0, locals := 33 } : Room)) (fun a U => a = #[(.ref x0), (.int x1), (.int x2), (.int x3), (.long x4), (.ref x5), (.ref x6)] ∧ Z.Warmed39 U.vm ∧ U.heap = h0) (fun _ _ _ _ _ => True) (fun _ U o U' => ∃ v L, o = .returned v ∧ QC Z x0 x3 x5 x6 em h0 n0 v U'.heap L ∧ FrameEnd U o U' L ({ frames := 2, cells := 0, slots := 0, locals := 33 } : Room).cells ({ frames := 2, cells := 0, slots := 0, locals := 33 } : Room).slots) := by
  refine MetFree.of_bodySF (plainFor_of_name (by first | (simp [plainName, overriddenIn]; done) | decide +kernel)) hisR ?_
  intro p e s m args below meth c s₁ Bd hml0 hP hK
  obtain ⟨rfl, hZ, hh⟩ := hP
  have hx := Bd.exec
  have hby := Bd.bytes
  have hml : c.maxLocals = 8 := hml0
  have hown : s.vm.findClass "com/example/proxy_to_stub/proxytostub/transport/Frame" = some m.cls := findClass_of_methodNamed Bd.named
  have hnm := (name_of_methodNamed Bd.named Bd.method).1
  have X0 : Stand p l e ({ frames := 2, cells := 0, slots := 0, locals := 33 } : Room) s m #[(.ref x0), (.int x1), (.int x2), (.int x3), (.long x4), (.ref x5), (.ref x6)] below meth c s₁ [] 0 0 := Stand.of_body Bd
  have e0 : s₁.heap = h0 := by rw [← hh, Bd.state]; rfl
  have N0 := Fr.nil n0
  have ef0 : entryFrame m #[(.ref x0), (.int x1), (.int x2), (.int x3), (.long x4), (.ref x5), (.ref x6)] 8 = mkF m 0 #[.val (.ref x0), .val (.int x1), .val (.int x2), .val (.int x3), .val (.long x4), .second, .val (.ref x5), .val (.ref x6)] [] := by first | (simp [entryFrame, mkF, argsToLocals, Value.category, maxLocals]; done) | rfl
  have pre0 : ∀ t, Steps p.tables e below (s₁.setTop (mkF m 0 #[.val (.ref x0), .val (.int x1), .val (.int x2), .val (.int x3), .val (.long x4), .second, .val (.ref x5), .val (.ref x6)] [])) t → Steps p.tables e below (s₁.setTop (entryFrame m #[(.ref x0), (.int x1), (.int x2), (.int x3), (.long x4), (.ref x5), (.ref x6)] 8)) t := fun t k => castTop ef0 k
  obtain ⟨cl98, Ar98, S98, M98⟩ := id AD
  obtain ⟨T99, X99, e99, st99⟩ := getS2 X0 hx hZ hown (host := "") (Or.inl (hw _ (List.mem_of_getElem? (i := 7) rfl))) Via.refl e0 SE (g := (mkF m 13 #[.val (.ref x0), .val (.int x1), .val (.int x2), .val (.int x3), .val (.long x4), .second, .val (.ref x5), .val (.ref x6)] [(.int nl), (.ref x6), (.ref x5), (.long x4), (.int x3), (.int x2), (.int x1), (.ref x0)])) rfl (hb hby own_d1_13)
  obtain ⟨vv100, _, ⟨T100, L100, k100, n100⟩, -, X100, ⟨Lc100, hQ100, l100, y100, z100⟩, st100⟩ := X99.specialBack hx (y := (⟨"com/example/proxy_to_stub/proxytostub/transport/Frame", "<init>", "(IIIJ[B[BI[B)V"⟩ : MethodName)) rfl hown (mvT hZ (hw _ (List.mem_of_getElem? (i := 9) rfl))) (mvT hZ (hw _ (List.mem_of_getElem? (i := 10) rfl))) (mvT hZ (hw _ (List.mem_of_getElem? (i := 11) rfl))) (by decide) (backOf (W := 0) (rm_c2 l Z a0 hw [] x0 x1 x2 x3 x4 x5 x6 nl em h0 n0 Z0 E0 F_kind F_code F_flags F_target F_objects F_data F_dataLength F_tail ge) hZ (hw _ (List.mem_of_getElem? (i := 11) rfl)) (hw _ (List.mem_of_getElem? (i := 3) rfl)) (by decide) (by decide)) (g := (mkF m 16 #[.val (.ref x0), .val (.int x1), .val (.int x2), .val (.int x3), .val (.long x4), .second, .val (.ref x5), .val (.ref x6)] [(.ref em), (.int nl), (.ref x6), (.ref x5), (.long x4), (.int x3), (.int x2), (.int x1), (.ref x0)])) rfl (by rw [hml]; rfl) (Steps.refl _) (a := x0) (argsL := [(.int x1), (.int x2), (.int x3), (.long x4), (.ref x5), (.ref x6), (.int nl), (.ref em)]) (rest := []) (lenOf own_pd_0 rfl) rfl (by show 2 * 0 + _ ≤ _; exact Nat.le_of_eq rfl) (hb hby own_d1_16) (fun _ _ => ⟨rfl, e99, (by decide : 0 + 0 ≤ _), (by decide : 0 + 0 ≤ _)⟩)
  dsimp only [Pt.U, Pt.locs, Pt.cells, Pt.slots] at X100 l100 y100 z100 st100 hQ100
  subst l100 y100 z100
  obtain ⟨rfl, N100q, Kq, Eq, Ff, Fo, Fd, Ft⟩ := hQ100
  have N100 := Fr.app N0 N100q
  obtain ⟨fs, hr, hrun, hended, hW, hsame⟩ := X100.leave (v := none) (fun _ => rfl)
  refine ⟨_, _, pre0 _ ?_, hrun, hended, _, _, rfl, ?_, ⟨_, rfl⟩, hW, hsame.mono (by decide) (by decide)⟩
  · show Steps p.tables e below (s₁.setTop (mkF m 0 #[.val (.ref x0), .val (.int x1), .val (.int x2), .val (.int x3), .val (.long x4), .second, .val (.ref x5), .val (.ref x6)] [])) _
    refine XS.aloadN X0.here hx rfl (hb hby own_d1_0) rfl rfl ?_
    show Steps p.tables e below (s₁.setTop (mkF m 1 #[.val (.ref x0), .val (.int x1), .val (.int x2), .val (.int x3), .val (.long x4), .second, .val (.ref x5), .val (.ref x6)] [(.ref x0)])) _
    refine XS.iloadN X0.here hx rfl (hb hby own_d1_1) rfl ?_
    show Steps p.tables e below (s₁.setTop (mkF m 2 #[.val (.ref x0), .val (.int x1), .val (.int x2), .val (.int x3), .val (.long x4), .second, .val (.ref x5), .val (.ref x6)] [(.int x1), (.ref x0)])) _
    refine XS.iloadN X0.here hx rfl (hb hby own_d1_2) rfl ?_
    show Steps p.tables e below (s₁.setTop (mkF m 3 #[.val (.ref x0), .val (.int x1), .val (.int x2), .val (.int x3), .val (.long x4), .second, .val (.ref x5), .val (.ref x6)] [(.int x2), (.int x1), (.ref x0)])) _
    refine XS.iloadN X0.here hx rfl (hb hby own_d1_3) rfl ?_
    show Steps p.tables e below (s₁.setTop (mkF m 4 #[.val (.ref x0), .val (.int x1), .val (.int x2), .val (.int x3), .val (.long x4), .second, .val (.ref x5), .val (.ref x6)] [(.int x3), (.int x2), (.int x1), (.ref x0)])) _
    refine XS.lload X0.here hx rfl (hb hby own_d1_4) rfl ?_
    show Steps p.tables e below (s₁.setTop (mkF m 6 #[.val (.ref x0), .val (.int x1), .val (.int x2), .val (.int x3), .val (.long x4), .second, .val (.ref x5), .val (.ref x6)] [(.long x4), (.int x3), (.int x2), (.int x1), (.ref x0)])) _
    refine XS.aload X0.here hx rfl (hb hby own_d1_6) rfl rfl ?_
    show Steps p.tables e below (s₁.setTop (mkF m 8 #[.val (.ref x0), .val (.int x1), .val (.int x2), .val (.int x3), .val (.long x4), .second, .val (.ref x5), .val (.ref x6)] [(.ref x5), (.long x4), (.int x3), (.int x2), (.int x1), (.ref x0)])) _
    refine XS.aload X0.here hx rfl (hb hby own_d1_8) rfl rfl ?_
    show Steps p.tables e below (s₁.setTop (mkF m 10 #[.val (.ref x0), .val (.int x1), .val (.int x2), .val (.int x3), .val (.long x4), .second, .val (.ref x5), .val (.ref x6)] [(.ref x6), (.ref x5), (.long x4), (.int x3), (.int x2), (.int x1), (.ref x0)])) _
    refine XS.aload X0.here hx rfl (hb hby own_d1_10) rfl rfl ?_
    show Steps p.tables e below (s₁.setTop (mkF m 12 #[.val (.ref x0), .val (.int x1), .val (.int x2), .val (.int x3), .val (.long x4), .second, .val (.ref x5), .val (.ref x6)] [(.ref x6), (.ref x6), (.ref x5), (.long x4), (.int x3), (.int x2), (.int x1), (.ref x0)])) _
    refine X0.arraylength hx (by rw [e0]; exact Ar98.1) (State.isArrayOf_alike hZ.alike Ar98.2.1) (g := (mkF m 12 #[.val (.ref x0), .val (.int x1), .val (.int x2), .val (.int x3), .val (.long x4), .second, .val (.ref x5), .val (.ref x6)] [(.ref x6), (.ref x6), (.ref x5), (.long x4), (.int x3), (.int x2), (.int x1), (.ref x0)])) rfl rfl (hb hby own_d1_12) _ ?_
    rw [len_of S98 M98]
    show Steps p.tables e below (s₁.setTop (mkF m 13 #[.val (.ref x0), .val (.int x1), .val (.int x2), .val (.int x3), .val (.long x4), .second, .val (.ref x5), .val (.ref x6)] [(.int nl), (.ref x6), (.ref x5), (.long x4), (.int x3), (.int x2), (.int x1), (.ref x0)])) _
    refine st99 _ ?_
    show Steps p.tables e below (T99.setTop (mkF m 16 #[.val (.ref x0), .val (.int x1), .val (.int x2), .val (.int x3), .val (.long x4), .second, .val (.ref x5), .val (.ref x6)] [(.ref em), (.int nl), (.ref x6), (.ref x5), (.long x4), (.int x3), (.int x2), (.int x1), (.ref x0)])) _
    refine st100.trans ?_
    show Steps p.tables e below (T100.setTop (mkF m 19 #[.val (.ref x0), .val (.int x1), .val (.int x2), .val (.int x3), .val (.long x4), .second, .val (.ref x5), .val (.ref x6)] [])) _
    exact X100.returnOut hx Bd.returns (hb hby own_d1_19) hr
  · exact ⟨rfl, N100, Kq, Eq, Ff, Fo, Fd, Ft⟩
theorem own_d4_0 : decode prog_21_method_37_code 0 = .ok (.aload_n 0, 1) := by decide +kernel
theorem own_d4_1 : decode prog_21_method_37_code 1 = .ok (.getfield 36, 3) := by decide +kernel
theorem own_d4_4 : decode prog_21_method_37_code 4 = .ok (.arraylength, 1) := by decide +kernel
theorem own_d4_5 : decode prog_21_method_37_code 5 = .ok (.ifCond .le 7, 3) := by decide +kernel
theorem own_d4_8 : decode prog_21_method_37_code 8 = .ok (.iconst 1, 1) := by decide +kernel
theorem own_d4_9 : decode prog_21_method_37_code 9 = .ok (.goto 4, 3) := by decide +kernel
theorem own_d4_12 : decode prog_21_method_37_code 12 = .ok (.iconst 0, 1) := by decide +kernel
theorem own_d4_13 : decode prog_21_method_37_code 13 = .ok (.ireturn, 1) := by decide +kernel
set_option maxRecDepth 65536 in
set_option maxHeartbeats 40000000 in
theorem rm_co (l : Launch) (Z : State) (a0 : Array Value) (hw : ∀ d ∈ tables_1, d.before a0 Z = true) (ws : List Jvm.Cond) (x0 o : Addr) (no : Int32) (h0 : Heap) (n0 : Nat) (Z0 : n0 ≤ h0.size) (F_o : Fld Z h0 x0 "com/example/proxy_to_stub/proxytostub/transport/Frame" "objects" "[B" (.ref o)) (Ao : ALen Z h0 o .byte no) :
    MetFree l (⟨"com/example/proxy_to_stub/proxytostub/transport/Frame", "carriesObjects", "()Z"⟩ : MethodName) (head1 (Jvm.Cond.code (⟨"com/example/proxy_to_stub/proxytostub/transport/Frame", "carriesObjects", "()Z"⟩ : MethodName) prog_21_method_37_code 1 (some .boolean) :: ws) ({ frames := 0, cells := 0, slots := 0, locals := 0 } : Room)) (fun a U => a = #[(.ref x0)] ∧ Z.Warmed39 U.vm ∧ U.heap = h0) (fun _ _ _ _ _ => True) (fun _ U o U' => ∃ v L, o = .returned v ∧ QP (.int (if 0 < no then 1 else 0)) h0 n0 v U'.heap L ∧ FrameEnd U o U' L ({ frames := 0, cells := 0, slots := 0, locals := 0 } : Room).cells ({ frames := 0, cells := 0, slots := 0, locals := 0 } : Room).slots) := by
  refine MetFree.of_bodySF (plainFor_of_name (by first | (simp [plainName, overriddenIn]; done) | decide +kernel)) hisR ?_
  intro p e s m args below meth c s₁ Bd hml0 hP hK
  obtain ⟨rfl, hZ, hh⟩ := hP
  have hx := Bd.exec
  have hby := Bd.bytes
  have hml : c.maxLocals = 1 := hml0
  have hown : s.vm.findClass "com/example/proxy_to_stub/proxytostub/transport/Frame" = some m.cls := findClass_of_methodNamed Bd.named
  have hnm := (name_of_methodNamed Bd.named Bd.method).1
  have X0 : Stand p l e ({ frames := 0, cells := 0, slots := 0, locals := 0 } : Room) s m #[(.ref x0)] below meth c s₁ [] 0 0 := Stand.of_body Bd
  have e0 : s₁.heap = h0 := by rw [← hh, Bd.state]; rfl
  have N0 := Fr.nil n0
  have ef0 : entryFrame m #[(.ref x0)] 1 = mkF m 0 #[.val (.ref x0)] [] := by first | (simp [entryFrame, mkF, argsToLocals, Value.category, maxLocals]; done) | rfl
  have pre0 : ∀ t, Steps p.tables e below (s₁.setTop (mkF m 0 #[.val (.ref x0)] [])) t → Steps p.tables e below (s₁.setTop (entryFrame m #[(.ref x0)] 1)) t := fun t k => castTop ef0 k
  obtain ⟨T101, X101, e101, st101⟩ := getF X0 hx hZ hown (host := "") (Or.inl (hw _ (List.mem_of_getElem? (i := 23) rfl))) Via.refl e0 F_o (g := (mkF m 1 #[.val (.ref x0)] [(.ref x0)])) rfl rfl (hb hby own_d4_1)
  obtain ⟨cl102, Ar102, S102, M102⟩ := id Ao
  have pre103 : ∀ t, Steps p.tables e below (T101.setTop (mkF m 5 #[.val (.ref x0)] [(.int no)])) t → Steps p.tables e below (s₁.setTop (entryFrame m #[(.ref x0)] 1)) t := fun tt kk => pre0 tt (by
    show Steps p.tables e below (s₁.setTop (mkF m 0 #[.val (.ref x0)] [])) _
    refine XS.aloadN X0.here hx rfl (hb hby own_d4_0) rfl rfl ?_
    show Steps p.tables e below (s₁.setTop (mkF m 1 #[.val (.ref x0)] [(.ref x0)])) _
    refine st101 _ ?_
    show Steps p.tables e below (T101.setTop (mkF m 4 #[.val (.ref x0)] [(.ref o)])) _
    refine X101.arraylength hx (by rw [e101]; exact Ar102.1) (State.isArrayOf_alike hZ.alike Ar102.2.1) (g := (mkF m 4 #[.val (.ref x0)] [(.ref o)])) rfl rfl (hb hby own_d4_4) _ ?_
    rw [len_of S102 M102]
    exact kk)
  by_cases hc5 : (0 : Int32) < no
  · obtain ⟨fs, hr, hrun, hended, hW, hsame⟩ := X101.leave (v := some (.int (1 : Int32))) (fun h => by rw [Bd.returns] at h; cases h)
    refine ⟨_, _, pre103 _ ?_, hrun, hended, _, _, rfl, ?_, ⟨_, rfl⟩, hW, hsame.mono (by decide) (by decide)⟩
    · show Steps p.tables e below (T101.setTop (mkF m 5 #[.val (.ref x0)] [(.int no)])) _
      refine XS.ifNo X101.here hx rfl (hb hby own_d4_5) rfl ((if0 _ _).trans (tlt hc5).2.2.2) ?_
      show Steps p.tables e below (T101.setTop (mkF m 8 #[.val (.ref x0)] [])) _
      refine XS.iconst X101.here hx rfl (hb hby own_d4_8) ?_
      show Steps p.tables e below (T101.setTop (mkF m 9 #[.val (.ref x0)] [(.int (1 : Int32))])) _
      refine XS.goto X101.here hx rfl (pc0 := 9) (pc' := 13) rfl (hb hby own_d4_9) (by decide) (by decide) ?_
      show Steps p.tables e below (T101.setTop (mkF m 13 #[.val (.ref x0)] [(.int (1 : Int32))])) _
      exact retN X101 hx (t := .boolean) Bd.returns (by simp) (hb hby own_d4_13) hr
    · show QP (.int (if 0 < no then 1 else 0)) h0 n0 _ T101.heap _
      rw [e101]
      exact ⟨by rw [if_pos hc5], N0, rfl⟩
  · obtain ⟨fs, hr, hrun, hended, hW, hsame⟩ := X101.leave (v := some (.int (0 : Int32))) (fun h => by rw [Bd.returns] at h; cases h)
    refine ⟨_, _, pre103 _ ?_, hrun, hended, _, _, rfl, ?_, ⟨_, rfl⟩, hW, hsame.mono (by decide) (by decide)⟩
    · show Steps p.tables e below (T101.setTop (mkF m 5 #[.val (.ref x0)] [(.int no)])) _
      refine XS.ifYes X101.here hx rfl (pc0 := 5) (pc' := 12) rfl (hb hby own_d4_5) rfl ((if0 _ _).trans (flt hc5).2.2.2) (by decide) (by decide) ?_
      show Steps p.tables e below (T101.setTop (mkF m 12 #[.val (.ref x0)] [])) _
      refine XS.iconst X101.here hx rfl (hb hby own_d4_12) ?_
      show Steps p.tables e below (T101.setTop (mkF m 13 #[.val (.ref x0)] [(.int (0 : Int32))])) _
      exact retN X101 hx (t := .boolean) Bd.returns (by simp) (hb hby own_d4_13) hr
    · show QP (.int (if 0 < no then 1 else 0)) h0 n0 _ T101.heap _
      rw [e101]
      exact ⟨by rw [if_neg hc5], N0, rfl⟩
set_option maxRecDepth 65536 in
set_option maxHeartbeats 40000000 in
theorem rm0 (l : Launch) (Z : State) (a0 : Array Value) (hw : ∀ d ∈ tables_1, d.before a0 Z = true) (ws : List Jvm.Cond) (x0 x1 x2 : Int32) (x3 : Int64) (x4 x5 : Int32) (em : Addr) (h0 : Heap) (n0 : Nat) (Z0 : n0 ≤ h0.size) (OL : Old Z n0 h0) (SE : Sta Z Z.heap "com/example/proxy_to_stub/proxytostub/transport/Frame" "EMPTY" "[B" (.ref em)) (AE : ALen Z h0 em .byte (0 : Int32)) :
    MetFree l x (head1 (Jvm.Cond.code x code maxLocals ret :: ws) room_1) (fun a U => a = #[(.int x0), (.int x1), (.int x2), (.long x3), (.int x4), (.int x5)] ∧ Z.Warmed39 U.vm ∧ U.heap = h0) (fun _ _ _ _ _ => True) (fun _ U o U' => ∃ v L, o = .returned v ∧ Q1 n0 v U'.heap L ∧ FrameEnd U o U' L room_1.cells room_1.slots) := by
  refine MetFree.of_bodySF (plainFor_of_name (by first | (simp [plainName, overriddenIn]; done) | decide +kernel)) hisR ?_
  intro p e s m args below meth c s₁ Bd hml0 hP hK
  obtain ⟨rfl, hZ, hh⟩ := hP
  have hx := Bd.exec
  have hby := Bd.bytes
  have hml : c.maxLocals = 13 := hml0
  have hown : s.vm.findClass "com/example/proxy_to_stub/proxytostub/transport/FrameCarriesObjectsPinLaw" = some m.cls := findClass_of_methodNamed Bd.named
  have hnm := (name_of_methodNamed Bd.named Bd.method).1
  have X0 : Stand p l e room_1 s m #[(.int x0), (.int x1), (.int x2), (.long x3), (.int x4), (.int x5)] below meth c s₁ [] 0 0 := Stand.of_body Bd
  have e0 : s₁.heap = h0 := by rw [← hh, Bd.state]; rfl
  have N0 := Fr.nil n0
  have ef0 : entryFrame m #[(.int x0), (.int x1), (.int x2), (.long x3), (.int x4), (.int x5)] maxLocals = mkF m 0 #[.val (.int x0), .val (.int x1), .val (.int x2), .val (.long x3), .second, .val (.int x4), .val (.int x5), .unset, .unset, .unset, .unset, .unset, .unset] [] := by first | (simp [entryFrame, mkF, argsToLocals, Value.category, maxLocals]; done) | rfl
  have pre0 : ∀ t, Steps p.tables e below (s₁.setTop (mkF m 0 #[.val (.int x0), .val (.int x1), .val (.int x2), .val (.long x3), .second, .val (.int x4), .val (.int x5), .unset, .unset, .unset, .unset, .unset, .unset] [])) t → Steps p.tables e below (s₁.setTop (entryFrame m #[(.int x0), (.int x1), (.int x2), (.long x3), (.int x4), (.int x5)] maxLocals)) t := fun t k => castTop ef0 k
  obtain ⟨T104, h104, k104, X104, e104, E104, A104, st104⟩ := newP X0 hx hZ (hw _ (List.mem_of_getElem? (i := 0) rfl)) e0 (g := (mkF m 16 #[.val (.int x0), .val (.int x1), .val (.int x2), .val (.long x3), .second, .val (.int x4), .val (.int x5), .val (.int (x4 &&& (7 : Int32))), .val (.int (x5 &&& (7 : Int32))), .unset, .unset, .unset, .unset] [(.int (x4 &&& (7 : Int32)))])) rfl (hb hby at_16) rfl (own_mk x4 7 (k := 3) (by decide) (by decide)).1 (cap := 7) (own_mk x4 7 (k := 3) (by decide) (by decide)).2 (by decide) (by decide) (by decide)
  obtain ⟨b104, g104⟩ : ∃ z, z = h0.size := ⟨_, rfl⟩
  rw [← g104] at A104 st104
  have ne_em_b104 : em ≠ b104 := Nat.ne_of_lt (Nat.lt_of_lt_of_le (AE).lt (Nat.le_of_eq g104.symm))
  have ge_b104 : n0 ≤ b104 := Nat.le_trans Z0 (Nat.le_of_eq g104.symm)
  have f105 : n0 ≤ h104.size := Nat.le_trans Z0 E104.1
  have f106 : Old Z n0 h104 := OL.ext E104
  have f107 : ALen Z h104 em .byte (0 : Int32) := AE.ext E104
  have V104 : ALen Z h104 b104 .byte (x4 &&& (7 : Int32)) := ⟨_, A104, sz_new _ _ _, (own_mk x4 7 (k := 3) (by decide) (by decide)).1⟩
  obtain ⟨T108, h108, k108, X108, e108, E108, A108, st108⟩ := newP X104 hx hZ (hw _ (List.mem_of_getElem? (i := 0) rfl)) e104 (g := (mkF m 22 #[.val (.int x0), .val (.int x1), .val (.int x2), .val (.long x3), .second, .val (.int x4), .val (.int x5), .val (.int (x4 &&& (7 : Int32))), .val (.int (x5 &&& (7 : Int32))), .val (.ref b104), .unset, .unset, .unset] [(.int (x5 &&& (7 : Int32)))])) rfl (hb hby at_22) rfl (own_mk x5 7 (k := 3) (by decide) (by decide)).1 (cap := 7) (own_mk x5 7 (k := 3) (by decide) (by decide)).2 (by decide) (by decide) (by decide)
  obtain ⟨b108, g108⟩ : ∃ z, z = h104.size := ⟨_, rfl⟩
  rw [← g108] at A108 st108
  have ne_em_b108 : em ≠ b108 := Nat.ne_of_lt (Nat.lt_of_lt_of_le (f107).lt (Nat.le_of_eq g108.symm))
  have ne_b104_b108 : b104 ≠ b108 := Nat.ne_of_lt (Nat.lt_of_lt_of_le (V104).lt (Nat.le_of_eq g108.symm))
  have ge_b108 : n0 ≤ b108 := Nat.le_trans f105 (Nat.le_of_eq g108.symm)
  have f109 : n0 ≤ h108.size := Nat.le_trans f105 E108.1
  have f110 : Old Z n0 h108 := f106.ext E108
  have f111 : ALen Z h108 em .byte (0 : Int32) := f107.ext E108
  have f112 : ALen Z h108 b104 .byte (x4 &&& (7 : Int32)) := V104.ext E108
  have V108 : ALen Z h108 b108 .byte (x5 &&& (7 : Int32)) := ⟨_, A108, sz_new _ _ _, (own_mk x5 7 (k := 3) (by decide) (by decide)).1⟩
  have pre113 : ∀ t, Steps p.tables e below (T108.setTop (mkF m 28 #[.val (.int x0), .val (.int x1), .val (.int x2), .val (.long x3), .second, .val (.int x4), .val (.int x5), .val (.int (x4 &&& (7 : Int32))), .val (.int (x5 &&& (7 : Int32))), .val (.ref b104), .val (.ref b108), .unset, .unset] [(.int (x4 &&& (7 : Int32)))])) t → Steps p.tables e below (s₁.setTop (entryFrame m #[(.int x0), (.int x1), (.int x2), (.long x3), (.int x4), (.int x5)] maxLocals)) t := fun tt kk => pre0 tt (by
    show Steps p.tables e below (s₁.setTop (mkF m 0 #[.val (.int x0), .val (.int x1), .val (.int x2), .val (.long x3), .second, .val (.int x4), .val (.int x5), .unset, .unset, .unset, .unset, .unset, .unset] [])) _
    refine XS.iload X0.here hx rfl (hb hby at_0) rfl ?_
    show Steps p.tables e below (s₁.setTop (mkF m 2 #[.val (.int x0), .val (.int x1), .val (.int x2), .val (.long x3), .second, .val (.int x4), .val (.int x5), .unset, .unset, .unset, .unset, .unset, .unset] [(.int x4)])) _
    refine XS.bipush X0.here hx rfl (hb hby at_2) ?_
    show Steps p.tables e below (s₁.setTop (mkF m 4 #[.val (.int x0), .val (.int x1), .val (.int x2), .val (.long x3), .second, .val (.int x4), .val (.int x5), .unset, .unset, .unset, .unset, .unset, .unset] [(.int (7 : Int32)), (.int x4)])) _
    refine XS.iand X0.here hx rfl (hb hby at_4) rfl ?_
    show Steps p.tables e below (s₁.setTop (mkF m 5 #[.val (.int x0), .val (.int x1), .val (.int x2), .val (.long x3), .second, .val (.int x4), .val (.int x5), .unset, .unset, .unset, .unset, .unset, .unset] [(.int (x4 &&& (7 : Int32)))])) _
    refine XS.istore X0.here hx rfl (hb hby at_5) rfl (l' := #[.val (.int x0), .val (.int x1), .val (.int x2), .val (.long x3), .second, .val (.int x4), .val (.int x5), .val (.int (x4 &&& (7 : Int32))), .unset, .unset, .unset, .unset, .unset]) rfl ?_
    show Steps p.tables e below (s₁.setTop (mkF m 7 #[.val (.int x0), .val (.int x1), .val (.int x2), .val (.long x3), .second, .val (.int x4), .val (.int x5), .val (.int (x4 &&& (7 : Int32))), .unset, .unset, .unset, .unset, .unset] [])) _
    refine XS.iload X0.here hx rfl (hb hby at_7) rfl ?_
    show Steps p.tables e below (s₁.setTop (mkF m 9 #[.val (.int x0), .val (.int x1), .val (.int x2), .val (.long x3), .second, .val (.int x4), .val (.int x5), .val (.int (x4 &&& (7 : Int32))), .unset, .unset, .unset, .unset, .unset] [(.int x5)])) _
    refine XS.bipush X0.here hx rfl (hb hby at_9) ?_
    show Steps p.tables e below (s₁.setTop (mkF m 11 #[.val (.int x0), .val (.int x1), .val (.int x2), .val (.long x3), .second, .val (.int x4), .val (.int x5), .val (.int (x4 &&& (7 : Int32))), .unset, .unset, .unset, .unset, .unset] [(.int (7 : Int32)), (.int x5)])) _
    refine XS.iand X0.here hx rfl (hb hby at_11) rfl ?_
    show Steps p.tables e below (s₁.setTop (mkF m 12 #[.val (.int x0), .val (.int x1), .val (.int x2), .val (.long x3), .second, .val (.int x4), .val (.int x5), .val (.int (x4 &&& (7 : Int32))), .unset, .unset, .unset, .unset, .unset] [(.int (x5 &&& (7 : Int32)))])) _
    refine XS.istore X0.here hx rfl (hb hby at_12) rfl (l' := #[.val (.int x0), .val (.int x1), .val (.int x2), .val (.long x3), .second, .val (.int x4), .val (.int x5), .val (.int (x4 &&& (7 : Int32))), .val (.int (x5 &&& (7 : Int32))), .unset, .unset, .unset, .unset]) rfl ?_
    show Steps p.tables e below (s₁.setTop (mkF m 14 #[.val (.int x0), .val (.int x1), .val (.int x2), .val (.long x3), .second, .val (.int x4), .val (.int x5), .val (.int (x4 &&& (7 : Int32))), .val (.int (x5 &&& (7 : Int32))), .unset, .unset, .unset, .unset] [])) _
    refine XS.iload X0.here hx rfl (hb hby at_14) rfl ?_
    show Steps p.tables e below (s₁.setTop (mkF m 16 #[.val (.int x0), .val (.int x1), .val (.int x2), .val (.long x3), .second, .val (.int x4), .val (.int x5), .val (.int (x4 &&& (7 : Int32))), .val (.int (x5 &&& (7 : Int32))), .unset, .unset, .unset, .unset] [(.int (x4 &&& (7 : Int32)))])) _
    refine st104 _ ?_
    show Steps p.tables e below (T104.setTop (mkF m 18 #[.val (.int x0), .val (.int x1), .val (.int x2), .val (.long x3), .second, .val (.int x4), .val (.int x5), .val (.int (x4 &&& (7 : Int32))), .val (.int (x5 &&& (7 : Int32))), .unset, .unset, .unset, .unset] [(.ref b104)])) _
    refine XS.astore X104.here hx rfl (hb hby at_18) rfl rfl (l' := #[.val (.int x0), .val (.int x1), .val (.int x2), .val (.long x3), .second, .val (.int x4), .val (.int x5), .val (.int (x4 &&& (7 : Int32))), .val (.int (x5 &&& (7 : Int32))), .val (.ref b104), .unset, .unset, .unset]) rfl ?_
    show Steps p.tables e below (T104.setTop (mkF m 20 #[.val (.int x0), .val (.int x1), .val (.int x2), .val (.long x3), .second, .val (.int x4), .val (.int x5), .val (.int (x4 &&& (7 : Int32))), .val (.int (x5 &&& (7 : Int32))), .val (.ref b104), .unset, .unset, .unset] [])) _
    refine XS.iload X104.here hx rfl (hb hby at_20) rfl ?_
    show Steps p.tables e below (T104.setTop (mkF m 22 #[.val (.int x0), .val (.int x1), .val (.int x2), .val (.long x3), .second, .val (.int x4), .val (.int x5), .val (.int (x4 &&& (7 : Int32))), .val (.int (x5 &&& (7 : Int32))), .val (.ref b104), .unset, .unset, .unset] [(.int (x5 &&& (7 : Int32)))])) _
    refine st108 _ ?_
    show Steps p.tables e below (T108.setTop (mkF m 24 #[.val (.int x0), .val (.int x1), .val (.int x2), .val (.long x3), .second, .val (.int x4), .val (.int x5), .val (.int (x4 &&& (7 : Int32))), .val (.int (x5 &&& (7 : Int32))), .val (.ref b104), .unset, .unset, .unset] [(.ref b108)])) _
    refine XS.astore X108.here hx rfl (hb hby at_24) rfl rfl (l' := #[.val (.int x0), .val (.int x1), .val (.int x2), .val (.long x3), .second, .val (.int x4), .val (.int x5), .val (.int (x4 &&& (7 : Int32))), .val (.int (x5 &&& (7 : Int32))), .val (.ref b104), .val (.ref b108), .unset, .unset]) rfl ?_
    show Steps p.tables e below (T108.setTop (mkF m 26 #[.val (.int x0), .val (.int x1), .val (.int x2), .val (.long x3), .second, .val (.int x4), .val (.int x5), .val (.int (x4 &&& (7 : Int32))), .val (.int (x5 &&& (7 : Int32))), .val (.ref b104), .val (.ref b108), .unset, .unset] [])) _
    refine XS.iload X108.here hx rfl (hb hby at_26) rfl ?_
    exact kk)
  by_cases hc28 : (0 : Int32) < (x4 &&& (7 : Int32))
  · obtain ⟨cl114, Ar114, S114, M114⟩ := id f112
    obtain ⟨T115, h115, X115, e115, W115, st115⟩ := stB X108 hx hZ e108 Ar114 (j := (0 : Int32)) (inb_of S114 ⟨by decide, hc28⟩) (g := (mkF m 37 #[.val (.int x0), .val (.int x1), .val (.int x2), .val (.long x3), .second, .val (.int x4), .val (.int x5), .val (.int (x4 &&& (7 : Int32))), .val (.int (x5 &&& (7 : Int32))), .val (.ref b104), .val (.ref b108), .unset, .unset] [(.int (x4.toInt8.toInt32)), (.int (0 : Int32)), (.ref b104)])) rfl rfl (hb hby at_37)
    have N115 := Fr.snoc X115 N0 ge_b104
    have f116 : n0 ≤ h115.size := Nat.le_trans f109 (Keep.of_wr W115).1
    have f117 : Old Z n0 h115 := f110.wr W115 ge_b104
    have f118 : ALen Z h115 em .byte (0 : Int32) := f111.wr W115
    have f119 : ALen Z h115 b104 .byte (x4 &&& (7 : Int32)) := f112.wr W115
    have f120 : ALen Z h115 b108 .byte (x5 &&& (7 : Int32)) := V108.wr W115
    have pre121 : ∀ t, Steps p.tables e below (T115.setTop (mkF m 40 #[.val (.int x0), .val (.int x1), .val (.int x2), .val (.long x3), .second, .val (.int x4), .val (.int x5), .val (.int (x4 &&& (7 : Int32))), .val (.int (x5 &&& (7 : Int32))), .val (.ref b104), .val (.ref b108), .unset, .unset] [(.int (x5 &&& (7 : Int32)))])) t → Steps p.tables e below (s₁.setTop (entryFrame m #[(.int x0), (.int x1), (.int x2), (.long x3), (.int x4), (.int x5)] maxLocals)) t := fun tt kk => pre113 tt (by
      show Steps p.tables e below (T108.setTop (mkF m 28 #[.val (.int x0), .val (.int x1), .val (.int x2), .val (.long x3), .second, .val (.int x4), .val (.int x5), .val (.int (x4 &&& (7 : Int32))), .val (.int (x5 &&& (7 : Int32))), .val (.ref b104), .val (.ref b108), .unset, .unset] [(.int (x4 &&& (7 : Int32)))])) _
      refine XS.ifNo X108.here hx rfl (hb hby at_28) rfl ((if0 _ _).trans (tlt hc28).2.2.2) ?_
      show Steps p.tables e below (T108.setTop (mkF m 31 #[.val (.int x0), .val (.int x1), .val (.int x2), .val (.long x3), .second, .val (.int x4), .val (.int x5), .val (.int (x4 &&& (7 : Int32))), .val (.int (x5 &&& (7 : Int32))), .val (.ref b104), .val (.ref b108), .unset, .unset] [])) _
      refine XS.aload X108.here hx rfl (hb hby at_31) rfl rfl ?_
      show Steps p.tables e below (T108.setTop (mkF m 33 #[.val (.int x0), .val (.int x1), .val (.int x2), .val (.long x3), .second, .val (.int x4), .val (.int x5), .val (.int (x4 &&& (7 : Int32))), .val (.int (x5 &&& (7 : Int32))), .val (.ref b104), .val (.ref b108), .unset, .unset] [(.ref b104)])) _
      refine XS.iconst X108.here hx rfl (hb hby at_33) ?_
      show Steps p.tables e below (T108.setTop (mkF m 34 #[.val (.int x0), .val (.int x1), .val (.int x2), .val (.long x3), .second, .val (.int x4), .val (.int x5), .val (.int (x4 &&& (7 : Int32))), .val (.int (x5 &&& (7 : Int32))), .val (.ref b104), .val (.ref b108), .unset, .unset] [(.int (0 : Int32)), (.ref b104)])) _
      refine XS.iload X108.here hx rfl (hb hby at_34) rfl ?_
      show Steps p.tables e below (T108.setTop (mkF m 36 #[.val (.int x0), .val (.int x1), .val (.int x2), .val (.long x3), .second, .val (.int x4), .val (.int x5), .val (.int (x4 &&& (7 : Int32))), .val (.int (x5 &&& (7 : Int32))), .val (.ref b104), .val (.ref b108), .unset, .unset] [(.int x4), (.int (0 : Int32)), (.ref b104)])) _
      refine XS.i2b X108.here hx rfl (hb hby at_36) rfl ?_
      show Steps p.tables e below (T108.setTop (mkF m 37 #[.val (.int x0), .val (.int x1), .val (.int x2), .val (.long x3), .second, .val (.int x4), .val (.int x5), .val (.int (x4 &&& (7 : Int32))), .val (.int (x5 &&& (7 : Int32))), .val (.ref b104), .val (.ref b108), .unset, .unset] [(.int (x4.toInt8.toInt32)), (.int (0 : Int32)), (.ref b104)])) _
      refine st115 _ ?_
      show Steps p.tables e below (T115.setTop (mkF m 38 #[.val (.int x0), .val (.int x1), .val (.int x2), .val (.long x3), .second, .val (.int x4), .val (.int x5), .val (.int (x4 &&& (7 : Int32))), .val (.int (x5 &&& (7 : Int32))), .val (.ref b104), .val (.ref b108), .unset, .unset] [])) _
      refine XS.iload X115.here hx rfl (hb hby at_38) rfl ?_
      exact kk)
    by_cases hc40 : (0 : Int32) < (x5 &&& (7 : Int32))
    · obtain ⟨cl122, Ar122, S122, M122⟩ := id f120
      obtain ⟨T123, h123, X123, e123, W123, st123⟩ := stB X115 hx hZ e115 Ar122 (j := (0 : Int32)) (inb_of S122 ⟨by decide, hc40⟩) (g := (mkF m 49 #[.val (.int x0), .val (.int x1), .val (.int x2), .val (.long x3), .second, .val (.int x4), .val (.int x5), .val (.int (x4 &&& (7 : Int32))), .val (.int (x5 &&& (7 : Int32))), .val (.ref b104), .val (.ref b108), .unset, .unset] [(.int (x5.toInt8.toInt32)), (.int (0 : Int32)), (.ref b108)])) rfl rfl (hb hby at_49)
      have N123 := Fr.snoc X123 N115 ge_b108
      have f124 : n0 ≤ h123.size := Nat.le_trans f116 (Keep.of_wr W123).1
      have f125 : Old Z n0 h123 := f117.wr W123 ge_b108
      have f126 : ALen Z h123 em .byte (0 : Int32) := f118.wr W123
      have f127 : ALen Z h123 b104 .byte (x4 &&& (7 : Int32)) := f119.wr W123
      have f128 : ALen Z h123 b108 .byte (x5 &&& (7 : Int32)) := f120.wr W123
      obtain ⟨T129, h129, X129, e129, E129, A129, D129, -, st129⟩ := newO X123 hx hZ hown (hw _ (List.mem_of_getElem? (i := 1) rfl)) (hw _ (List.mem_of_getElem? (i := 2) rfl)) (hw _ (List.mem_of_getElem? (i := 3) rfl)) e123 (g := (mkF m 50 #[.val (.int x0), .val (.int x1), .val (.int x2), .val (.long x3), .second, .val (.int x4), .val (.int x5), .val (.int (x4 &&& (7 : Int32))), .val (.int (x5 &&& (7 : Int32))), .val (.ref b104), .val (.ref b108), .unset, .unset] [])) rfl (hb hby at_50) (by decide) (by decide)
      obtain ⟨b129, g129⟩ : ∃ z, z = h123.size := ⟨_, rfl⟩
      rw [← g129] at A129 D129 st129
      have ne_em_b129 : em ≠ b129 := Nat.ne_of_lt (Nat.lt_of_lt_of_le (f126).lt (Nat.le_of_eq g129.symm))
      have ne_b104_b129 : b104 ≠ b129 := Nat.ne_of_lt (Nat.lt_of_lt_of_le (f127).lt (Nat.le_of_eq g129.symm))
      have ne_b108_b129 : b108 ≠ b129 := Nat.ne_of_lt (Nat.lt_of_lt_of_le (f128).lt (Nat.le_of_eq g129.symm))
      have ge_b129 : n0 ≤ b129 := Nat.le_trans f124 (Nat.le_of_eq g129.symm)
      have f130 : n0 ≤ h129.size := Nat.le_trans f124 E129.1
      have f131 : Old Z n0 h129 := f125.ext E129
      have f132 : ALen Z h129 em .byte (0 : Int32) := f126.ext E129
      have f133 : ALen Z h129 b104 .byte (x4 &&& (7 : Int32)) := f127.ext E129
      have f134 : ALen Z h129 b108 .byte (x5 &&& (7 : Int32)) := f128.ext E129
      have F129_16 : Fld Z h129 b129 "com/example/proxy_to_stub/proxytostub/transport/Frame" "kind" "I" (.int (0 : Int32)) := D129 (Or.inr (hw _ (List.mem_of_getElem? (i := 16) rfl))) (ty := .int) (by decide)
      have F129_18 : Fld Z h129 b129 "com/example/proxy_to_stub/proxytostub/transport/Frame" "code" "I" (.int (0 : Int32)) := D129 (Or.inr (hw _ (List.mem_of_getElem? (i := 18) rfl))) (ty := .int) (by decide)
      have F129_20 : Fld Z h129 b129 "com/example/proxy_to_stub/proxytostub/transport/Frame" "flags" "I" (.int (0 : Int32)) := D129 (Or.inr (hw _ (List.mem_of_getElem? (i := 20) rfl))) (ty := .int) (by decide)
      have F129_22 : Fld Z h129 b129 "com/example/proxy_to_stub/proxytostub/transport/Frame" "target" "J" (.long (0 : Int64)) := D129 (Or.inr (hw _ (List.mem_of_getElem? (i := 22) rfl))) (ty := .long) (by decide)
      have F129_24 : Fld Z h129 b129 "com/example/proxy_to_stub/proxytostub/transport/Frame" "objects" "[B" .null := D129 (Or.inr (hw _ (List.mem_of_getElem? (i := 24) rfl))) (ty := (.array .byte)) (by decide)
      have F129_26 : Fld Z h129 b129 "com/example/proxy_to_stub/proxytostub/transport/Frame" "data" "[B" .null := D129 (Or.inr (hw _ (List.mem_of_getElem? (i := 26) rfl))) (ty := (.array .byte)) (by decide)
      have F129_28 : Fld Z h129 b129 "com/example/proxy_to_stub/proxytostub/transport/Frame" "dataLength" "I" (.int (0 : Int32)) := D129 (Or.inr (hw _ (List.mem_of_getElem? (i := 28) rfl))) (ty := .int) (by decide)
      have F129_30 : Fld Z h129 b129 "com/example/proxy_to_stub/proxytostub/transport/Frame" "tail" "[B" .null := D129 (Or.inr (hw _ (List.mem_of_getElem? (i := 30) rfl))) (ty := (.array .byte)) (by decide)
      obtain ⟨vv135, _, ⟨T135, L135, k135, n135⟩, -, X135, ⟨Lc135, hQ135, l135, y135, z135⟩, st135⟩ := X129.specialBack hx (y := (⟨"com/example/proxy_to_stub/proxytostub/transport/Frame", "<init>", "(IIIJ[B[B)V"⟩ : MethodName)) rfl hown (mvT hZ (hw _ (List.mem_of_getElem? (i := 4) rfl))) (mvT hZ (hw _ (List.mem_of_getElem? (i := 5) rfl))) (mvT hZ (hw _ (List.mem_of_getElem? (i := 6) rfl))) (by decide) (backOf (W := 1) (rm_c1 l Z a0 hw [] b129 x0 x1 x2 x3 b104 b108 (x5 &&& (7 : Int32)) em h129 n0 f130 A129 F129_16 F129_18 F129_20 F129_22 F129_24 F129_26 F129_28 F129_30 ge_b129 f134 (SE.ext f131.2)) hZ (hw _ (List.mem_of_getElem? (i := 6) rfl)) (hw _ (List.mem_of_getElem? (i := 3) rfl)) (by decide) (by decide)) (g := (mkF m 62 #[.val (.int x0), .val (.int x1), .val (.int x2), .val (.long x3), .second, .val (.int x4), .val (.int x5), .val (.int (x4 &&& (7 : Int32))), .val (.int (x5 &&& (7 : Int32))), .val (.ref b104), .val (.ref b108), .unset, .unset] [(.ref b108), (.ref b104), (.long x3), (.int x2), (.int x1), (.int x0), (.ref b129), (.ref b129)])) rfl (by rw [hml]; rfl) (Steps.refl _) (a := b129) (argsL := [(.int x0), (.int x1), (.int x2), (.long x3), (.ref b104), (.ref b108)]) (rest := [(.ref b129)]) (lenOf own_pd_1 rfl) rfl (by show 2 * 0 + _ ≤ _; exact Nat.le_of_eq rfl) (hb hby at_62) (fun _ _ => ⟨rfl, e129, (by decide : 3 + 0 ≤ _), (by decide : 23 + 0 ≤ _)⟩)
      dsimp only [Pt.U, Pt.locs, Pt.cells, Pt.slots] at X135 l135 y135 z135 st135 hQ135
      subst l135 y135 z135
      obtain ⟨rfl, N135q, K135, Eq135, Ff135, Fo135, Fd135, Ft135⟩ := hQ135
      have N135 := Fr.app N123 N135q
      have f136 : n0 ≤ T135.heap.size := Nat.le_trans f130 K135.1
      have f137 : Old Z n0 T135.heap := f131.keep K135 (allS ge_b129 all0)
      have f138 : ALen Z T135.heap em .byte (0 : Int32) := f132.keep K135
      have f139 : ALen Z T135.heap b104 .byte (x4 &&& (7 : Int32)) := f133.keep K135
      have f140 : ALen Z T135.heap b108 .byte (x5 &&& (7 : Int32)) := f134.keep K135
      have f141 : Exa Z T135.heap b129 "com/example/proxy_to_stub/proxytostub/transport/Frame" := A129.keep K135
      have pre142 : ∀ t, Steps p.tables e below (T135.setTop (mkF m 69 #[.val (.int x0), .val (.int x1), .val (.int x2), .val (.long x3), .second, .val (.int x4), .val (.int x5), .val (.int (x4 &&& (7 : Int32))), .val (.int (x5 &&& (7 : Int32))), .val (.ref b104), .val (.ref b108), .val (.ref b129), .unset] [(.int (x4 &&& (7 : Int32)))])) t → Steps p.tables e below (s₁.setTop (entryFrame m #[(.int x0), (.int x1), (.int x2), (.long x3), (.int x4), (.int x5)] maxLocals)) t := fun tt kk => pre121 tt (by
        show Steps p.tables e below (T115.setTop (mkF m 40 #[.val (.int x0), .val (.int x1), .val (.int x2), .val (.long x3), .second, .val (.int x4), .val (.int x5), .val (.int (x4 &&& (7 : Int32))), .val (.int (x5 &&& (7 : Int32))), .val (.ref b104), .val (.ref b108), .unset, .unset] [(.int (x5 &&& (7 : Int32)))])) _
        refine XS.ifNo X115.here hx rfl (hb hby at_40) rfl ((if0 _ _).trans (tlt hc40).2.2.2) ?_
        show Steps p.tables e below (T115.setTop (mkF m 43 #[.val (.int x0), .val (.int x1), .val (.int x2), .val (.long x3), .second, .val (.int x4), .val (.int x5), .val (.int (x4 &&& (7 : Int32))), .val (.int (x5 &&& (7 : Int32))), .val (.ref b104), .val (.ref b108), .unset, .unset] [])) _
        refine XS.aload X115.here hx rfl (hb hby at_43) rfl rfl ?_
        show Steps p.tables e below (T115.setTop (mkF m 45 #[.val (.int x0), .val (.int x1), .val (.int x2), .val (.long x3), .second, .val (.int x4), .val (.int x5), .val (.int (x4 &&& (7 : Int32))), .val (.int (x5 &&& (7 : Int32))), .val (.ref b104), .val (.ref b108), .unset, .unset] [(.ref b108)])) _
        refine XS.iconst X115.here hx rfl (hb hby at_45) ?_
        show Steps p.tables e below (T115.setTop (mkF m 46 #[.val (.int x0), .val (.int x1), .val (.int x2), .val (.long x3), .second, .val (.int x4), .val (.int x5), .val (.int (x4 &&& (7 : Int32))), .val (.int (x5 &&& (7 : Int32))), .val (.ref b104), .val (.ref b108), .unset, .unset] [(.int (0 : Int32)), (.ref b108)])) _
        refine XS.iload X115.here hx rfl (hb hby at_46) rfl ?_
        show Steps p.tables e below (T115.setTop (mkF m 48 #[.val (.int x0), .val (.int x1), .val (.int x2), .val (.long x3), .second, .val (.int x4), .val (.int x5), .val (.int (x4 &&& (7 : Int32))), .val (.int (x5 &&& (7 : Int32))), .val (.ref b104), .val (.ref b108), .unset, .unset] [(.int x5), (.int (0 : Int32)), (.ref b108)])) _
        refine XS.i2b X115.here hx rfl (hb hby at_48) rfl ?_
        show Steps p.tables e below (T115.setTop (mkF m 49 #[.val (.int x0), .val (.int x1), .val (.int x2), .val (.long x3), .second, .val (.int x4), .val (.int x5), .val (.int (x4 &&& (7 : Int32))), .val (.int (x5 &&& (7 : Int32))), .val (.ref b104), .val (.ref b108), .unset, .unset] [(.int (x5.toInt8.toInt32)), (.int (0 : Int32)), (.ref b108)])) _
        refine st123 _ ?_
        show Steps p.tables e below (T123.setTop (mkF m 50 #[.val (.int x0), .val (.int x1), .val (.int x2), .val (.long x3), .second, .val (.int x4), .val (.int x5), .val (.int (x4 &&& (7 : Int32))), .val (.int (x5 &&& (7 : Int32))), .val (.ref b104), .val (.ref b108), .unset, .unset] [])) _
        refine st129 _ ?_
        show Steps p.tables e below (T129.setTop (mkF m 53 #[.val (.int x0), .val (.int x1), .val (.int x2), .val (.long x3), .second, .val (.int x4), .val (.int x5), .val (.int (x4 &&& (7 : Int32))), .val (.int (x5 &&& (7 : Int32))), .val (.ref b104), .val (.ref b108), .unset, .unset] [(.ref b129)])) _
        refine XS.dup X129.here hx rfl (hb hby at_53) rfl rfl ?_
        show Steps p.tables e below (T129.setTop (mkF m 54 #[.val (.int x0), .val (.int x1), .val (.int x2), .val (.long x3), .second, .val (.int x4), .val (.int x5), .val (.int (x4 &&& (7 : Int32))), .val (.int (x5 &&& (7 : Int32))), .val (.ref b104), .val (.ref b108), .unset, .unset] [(.ref b129), (.ref b129)])) _
        refine XS.iloadN X129.here hx rfl (hb hby at_54) rfl ?_
        show Steps p.tables e below (T129.setTop (mkF m 55 #[.val (.int x0), .val (.int x1), .val (.int x2), .val (.long x3), .second, .val (.int x4), .val (.int x5), .val (.int (x4 &&& (7 : Int32))), .val (.int (x5 &&& (7 : Int32))), .val (.ref b104), .val (.ref b108), .unset, .unset] [(.int x0), (.ref b129), (.ref b129)])) _
        refine XS.iloadN X129.here hx rfl (hb hby at_55) rfl ?_
        show Steps p.tables e below (T129.setTop (mkF m 56 #[.val (.int x0), .val (.int x1), .val (.int x2), .val (.long x3), .second, .val (.int x4), .val (.int x5), .val (.int (x4 &&& (7 : Int32))), .val (.int (x5 &&& (7 : Int32))), .val (.ref b104), .val (.ref b108), .unset, .unset] [(.int x1), (.int x0), (.ref b129), (.ref b129)])) _
        refine XS.iloadN X129.here hx rfl (hb hby at_56) rfl ?_
        show Steps p.tables e below (T129.setTop (mkF m 57 #[.val (.int x0), .val (.int x1), .val (.int x2), .val (.long x3), .second, .val (.int x4), .val (.int x5), .val (.int (x4 &&& (7 : Int32))), .val (.int (x5 &&& (7 : Int32))), .val (.ref b104), .val (.ref b108), .unset, .unset] [(.int x2), (.int x1), (.int x0), (.ref b129), (.ref b129)])) _
        refine XS.lloadN X129.here hx rfl (hb hby at_57) rfl ?_
        show Steps p.tables e below (T129.setTop (mkF m 58 #[.val (.int x0), .val (.int x1), .val (.int x2), .val (.long x3), .second, .val (.int x4), .val (.int x5), .val (.int (x4 &&& (7 : Int32))), .val (.int (x5 &&& (7 : Int32))), .val (.ref b104), .val (.ref b108), .unset, .unset] [(.long x3), (.int x2), (.int x1), (.int x0), (.ref b129), (.ref b129)])) _
        refine XS.aload X129.here hx rfl (hb hby at_58) rfl rfl ?_
        show Steps p.tables e below (T129.setTop (mkF m 60 #[.val (.int x0), .val (.int x1), .val (.int x2), .val (.long x3), .second, .val (.int x4), .val (.int x5), .val (.int (x4 &&& (7 : Int32))), .val (.int (x5 &&& (7 : Int32))), .val (.ref b104), .val (.ref b108), .unset, .unset] [(.ref b104), (.long x3), (.int x2), (.int x1), (.int x0), (.ref b129), (.ref b129)])) _
        refine XS.aload X129.here hx rfl (hb hby at_60) rfl rfl ?_
        show Steps p.tables e below (T129.setTop (mkF m 62 #[.val (.int x0), .val (.int x1), .val (.int x2), .val (.long x3), .second, .val (.int x4), .val (.int x5), .val (.int (x4 &&& (7 : Int32))), .val (.int (x5 &&& (7 : Int32))), .val (.ref b104), .val (.ref b108), .unset, .unset] [(.ref b108), (.ref b104), (.long x3), (.int x2), (.int x1), (.int x0), (.ref b129), (.ref b129)])) _
        refine st135.trans ?_
        show Steps p.tables e below (T135.setTop (mkF m 65 #[.val (.int x0), .val (.int x1), .val (.int x2), .val (.long x3), .second, .val (.int x4), .val (.int x5), .val (.int (x4 &&& (7 : Int32))), .val (.int (x5 &&& (7 : Int32))), .val (.ref b104), .val (.ref b108), .unset, .unset] [(.ref b129)])) _
        refine XS.astore X135.here hx rfl (hb hby at_65) rfl rfl (l' := #[.val (.int x0), .val (.int x1), .val (.int x2), .val (.long x3), .second, .val (.int x4), .val (.int x5), .val (.int (x4 &&& (7 : Int32))), .val (.int (x5 &&& (7 : Int32))), .val (.ref b104), .val (.ref b108), .val (.ref b129), .unset]) rfl ?_
        show Steps p.tables e below (T135.setTop (mkF m 67 #[.val (.int x0), .val (.int x1), .val (.int x2), .val (.long x3), .second, .val (.int x4), .val (.int x5), .val (.int (x4 &&& (7 : Int32))), .val (.int (x5 &&& (7 : Int32))), .val (.ref b104), .val (.ref b108), .val (.ref b129), .unset] [])) _
        refine XS.iload X135.here hx rfl (hb hby at_67) rfl ?_
        exact kk)
      obtain ⟨cq143, kq143, q143a, q143b, q143c⟩ := isOf hZ (rfl : T135.heap = T135.heap) f141
      obtain ⟨vv143, _, ⟨T143, L143, k143, n143⟩, -, X143, ⟨Lc143, hQ143, l143, y143, z143⟩, st143⟩ := X135.virtualBack hx (y := (⟨"com/example/proxy_to_stub/proxytostub/transport/Frame", "carriesObjects", "()Z"⟩ : MethodName)) (z := (⟨"com/example/proxy_to_stub/proxytostub/transport/Frame", "carriesObjects", "()Z"⟩ : MethodName)) hown (mvT hZ (hw _ (List.mem_of_getElem? (i := 31) rfl))) (mvT hZ (hw _ (List.mem_of_getElem? (i := 32) rfl))) (notFace_of_selects (args := #[]) (mvT hZ (hw _ (List.mem_of_getElem? (i := 34) rfl)))) (mvT hZ (hw _ (List.mem_of_getElem? (i := 34) rfl))) (mvT hZ (hw _ (List.mem_of_getElem? (i := 33) rfl))) (by decide) (backOf (W := 0) (rm_co l Z a0 hw [] b129 b104 (x4 &&& (7 : Int32)) T135.heap n0 f136 Fo135 f139) hZ (hw _ (List.mem_of_getElem? (i := 35) rfl)) (hw _ (List.mem_of_getElem? (i := 3) rfl)) (by decide) (by decide)) q143a q143c (g := (mkF m 81 #[.val (.int x0), .val (.int x1), .val (.int x2), .val (.long x3), .second, .val (.int x4), .val (.int x5), .val (.int (x4 &&& (7 : Int32))), .val (.int (x5 &&& (7 : Int32))), .val (.ref b104), .val (.ref b108), .val (.ref b129), .val (.int (1 : Int32))] [(.ref b129)])) rfl (by rw [hml]; rfl) (Steps.refl _) (argsL := []) (rest := []) (lenOf own_pd_2 rfl) rfl (by show 2 * 0 + _ ≤ _; exact Nat.le_of_eq rfl) (hb hby at_81) (fun _ _ => ⟨rfl, (rfl : T135.heap = T135.heap), (by decide : 3 + 0 ≤ _), (by decide : 23 + 0 ≤ _)⟩)
      dsimp only [Pt.U, Pt.locs, Pt.cells, Pt.slots] at X143 l143 y143 z143 st143 hQ143
      subst l143 y143 z143
      rw [if_pos hc28] at hQ143
      obtain ⟨rfl, N143q, e143⟩ := hQ143
      have N143 := Fr.app N135 N143q
      have pre144 : ∀ t, Steps p.tables e below (T143.setTop (mkF m 86 #[.val (.int x0), .val (.int x1), .val (.int x2), .val (.long x3), .second, .val (.int x4), .val (.int x5), .val (.int (x4 &&& (7 : Int32))), .val (.int (x5 &&& (7 : Int32))), .val (.ref b104), .val (.ref b108), .val (.ref b129), .val (.int (1 : Int32))] [(.int (1 : Int32)), (.int (1 : Int32))])) t → Steps p.tables e below (s₁.setTop (entryFrame m #[(.int x0), (.int x1), (.int x2), (.long x3), (.int x4), (.int x5)] maxLocals)) t := fun tt kk => pre142 tt (by
        show Steps p.tables e below (T135.setTop (mkF m 69 #[.val (.int x0), .val (.int x1), .val (.int x2), .val (.long x3), .second, .val (.int x4), .val (.int x5), .val (.int (x4 &&& (7 : Int32))), .val (.int (x5 &&& (7 : Int32))), .val (.ref b104), .val (.ref b108), .val (.ref b129), .unset] [(.int (x4 &&& (7 : Int32)))])) _
        refine XS.ifNo X135.here hx rfl (hb hby at_69) rfl ((if0 _ _).trans (feq (own_pos hc28)).1) ?_
        show Steps p.tables e below (T135.setTop (mkF m 72 #[.val (.int x0), .val (.int x1), .val (.int x2), .val (.long x3), .second, .val (.int x4), .val (.int x5), .val (.int (x4 &&& (7 : Int32))), .val (.int (x5 &&& (7 : Int32))), .val (.ref b104), .val (.ref b108), .val (.ref b129), .unset] [])) _
        refine XS.iconst X135.here hx rfl (hb hby at_72) ?_
        show Steps p.tables e below (T135.setTop (mkF m 73 #[.val (.int x0), .val (.int x1), .val (.int x2), .val (.long x3), .second, .val (.int x4), .val (.int x5), .val (.int (x4 &&& (7 : Int32))), .val (.int (x5 &&& (7 : Int32))), .val (.ref b104), .val (.ref b108), .val (.ref b129), .unset] [(.int (1 : Int32))])) _
        refine XS.goto X135.here hx rfl (pc0 := 73) (pc' := 77) rfl (hb hby at_73) (by decide) (by decide) ?_
        show Steps p.tables e below (T135.setTop (mkF m 77 #[.val (.int x0), .val (.int x1), .val (.int x2), .val (.long x3), .second, .val (.int x4), .val (.int x5), .val (.int (x4 &&& (7 : Int32))), .val (.int (x5 &&& (7 : Int32))), .val (.ref b104), .val (.ref b108), .val (.ref b129), .unset] [(.int (1 : Int32))])) _
        refine XS.istore X135.here hx rfl (hb hby at_77) rfl (l' := #[.val (.int x0), .val (.int x1), .val (.int x2), .val (.long x3), .second, .val (.int x4), .val (.int x5), .val (.int (x4 &&& (7 : Int32))), .val (.int (x5 &&& (7 : Int32))), .val (.ref b104), .val (.ref b108), .val (.ref b129), .val (.int (1 : Int32))]) rfl ?_
        show Steps p.tables e below (T135.setTop (mkF m 79 #[.val (.int x0), .val (.int x1), .val (.int x2), .val (.long x3), .second, .val (.int x4), .val (.int x5), .val (.int (x4 &&& (7 : Int32))), .val (.int (x5 &&& (7 : Int32))), .val (.ref b104), .val (.ref b108), .val (.ref b129), .val (.int (1 : Int32))] [])) _
        refine XS.aload X135.here hx rfl (hb hby at_79) rfl rfl ?_
        show Steps p.tables e below (T135.setTop (mkF m 81 #[.val (.int x0), .val (.int x1), .val (.int x2), .val (.long x3), .second, .val (.int x4), .val (.int x5), .val (.int (x4 &&& (7 : Int32))), .val (.int (x5 &&& (7 : Int32))), .val (.ref b104), .val (.ref b108), .val (.ref b129), .val (.int (1 : Int32))] [(.ref b129)])) _
        refine st143.trans ?_
        show Steps p.tables e below (T143.setTop (mkF m 84 #[.val (.int x0), .val (.int x1), .val (.int x2), .val (.long x3), .second, .val (.int x4), .val (.int x5), .val (.int (x4 &&& (7 : Int32))), .val (.int (x5 &&& (7 : Int32))), .val (.ref b104), .val (.ref b108), .val (.ref b129), .val (.int (1 : Int32))] [(.int (1 : Int32))])) _
        refine XS.iload X143.here hx rfl (hb hby at_84) rfl ?_
        exact kk)
      obtain ⟨fs, hr, hrun, hended, hW, hsame⟩ := X143.leave (v := some (.int (1 : Int32))) (fun h => by rw [Bd.returns] at h; cases h)
      refine ⟨_, _, pre144 _ ?_, hrun, hended, _, _, rfl, ?_, ⟨_, rfl⟩, hW, hsame.mono (by decide) (by decide)⟩
      · show Steps p.tables e below (T143.setTop (mkF m 86 #[.val (.int x0), .val (.int x1), .val (.int x2), .val (.long x3), .second, .val (.int x4), .val (.int x5), .val (.int (x4 &&& (7 : Int32))), .val (.int (x5 &&& (7 : Int32))), .val (.ref b104), .val (.ref b108), .val (.ref b129), .val (.int (1 : Int32))] [(.int (1 : Int32)), (.int (1 : Int32))])) _
        refine XS.icmpNo X143.here hx rfl (hb hby at_86) rfl (teq (by decide : (1 : Int32) = (1 : Int32))).2 ?_
        show Steps p.tables e below (T143.setTop (mkF m 89 #[.val (.int x0), .val (.int x1), .val (.int x2), .val (.long x3), .second, .val (.int x4), .val (.int x5), .val (.int (x4 &&& (7 : Int32))), .val (.int (x5 &&& (7 : Int32))), .val (.ref b104), .val (.ref b108), .val (.ref b129), .val (.int (1 : Int32))] [])) _
        refine XS.iconst X143.here hx rfl (hb hby at_89) ?_
        show Steps p.tables e below (T143.setTop (mkF m 90 #[.val (.int x0), .val (.int x1), .val (.int x2), .val (.long x3), .second, .val (.int x4), .val (.int x5), .val (.int (x4 &&& (7 : Int32))), .val (.int (x5 &&& (7 : Int32))), .val (.ref b104), .val (.ref b108), .val (.ref b129), .val (.int (1 : Int32))] [(.int (1 : Int32))])) _
        refine XS.goto X143.here hx rfl (pc0 := 90) (pc' := 94) rfl (hb hby at_90) (by decide) (by decide) ?_
        show Steps p.tables e below (T143.setTop (mkF m 94 #[.val (.int x0), .val (.int x1), .val (.int x2), .val (.long x3), .second, .val (.int x4), .val (.int x5), .val (.int (x4 &&& (7 : Int32))), .val (.int (x5 &&& (7 : Int32))), .val (.ref b104), .val (.ref b108), .val (.ref b129), .val (.int (1 : Int32))] [(.int (1 : Int32))])) _
        exact retN X143 hx (t := .boolean) Bd.returns (by simp) (hb hby at_94) hr
      · exact ⟨rfl, N143⟩
    · obtain ⟨T145, h145, X145, e145, E145, A145, D145, -, st145⟩ := newO X115 hx hZ hown (hw _ (List.mem_of_getElem? (i := 1) rfl)) (hw _ (List.mem_of_getElem? (i := 2) rfl)) (hw _ (List.mem_of_getElem? (i := 3) rfl)) e115 (g := (mkF m 50 #[.val (.int x0), .val (.int x1), .val (.int x2), .val (.long x3), .second, .val (.int x4), .val (.int x5), .val (.int (x4 &&& (7 : Int32))), .val (.int (x5 &&& (7 : Int32))), .val (.ref b104), .val (.ref b108), .unset, .unset] [])) rfl (hb hby at_50) (by decide) (by decide)
      obtain ⟨b145, g145⟩ : ∃ z, z = h115.size := ⟨_, rfl⟩
      rw [← g145] at A145 D145 st145
      have ne_em_b145 : em ≠ b145 := Nat.ne_of_lt (Nat.lt_of_lt_of_le (f118).lt (Nat.le_of_eq g145.symm))
      have ne_b104_b145 : b104 ≠ b145 := Nat.ne_of_lt (Nat.lt_of_lt_of_le (f119).lt (Nat.le_of_eq g145.symm))
      have ne_b108_b145 : b108 ≠ b145 := Nat.ne_of_lt (Nat.lt_of_lt_of_le (f120).lt (Nat.le_of_eq g145.symm))
      have ge_b145 : n0 ≤ b145 := Nat.le_trans f116 (Nat.le_of_eq g145.symm)
      have f146 : n0 ≤ h145.size := Nat.le_trans f116 E145.1
      have f147 : Old Z n0 h145 := f117.ext E145
      have f148 : ALen Z h145 em .byte (0 : Int32) := f118.ext E145
      have f149 : ALen Z h145 b104 .byte (x4 &&& (7 : Int32)) := f119.ext E145
      have f150 : ALen Z h145 b108 .byte (x5 &&& (7 : Int32)) := f120.ext E145
      have F145_16 : Fld Z h145 b145 "com/example/proxy_to_stub/proxytostub/transport/Frame" "kind" "I" (.int (0 : Int32)) := D145 (Or.inr (hw _ (List.mem_of_getElem? (i := 16) rfl))) (ty := .int) (by decide)
      have F145_18 : Fld Z h145 b145 "com/example/proxy_to_stub/proxytostub/transport/Frame" "code" "I" (.int (0 : Int32)) := D145 (Or.inr (hw _ (List.mem_of_getElem? (i := 18) rfl))) (ty := .int) (by decide)
      have F145_20 : Fld Z h145 b145 "com/example/proxy_to_stub/proxytostub/transport/Frame" "flags" "I" (.int (0 : Int32)) := D145 (Or.inr (hw _ (List.mem_of_getElem? (i := 20) rfl))) (ty := .int) (by decide)
      have F145_22 : Fld Z h145 b145 "com/example/proxy_to_stub/proxytostub/transport/Frame" "target" "J" (.long (0 : Int64)) := D145 (Or.inr (hw _ (List.mem_of_getElem? (i := 22) rfl))) (ty := .long) (by decide)
      have F145_24 : Fld Z h145 b145 "com/example/proxy_to_stub/proxytostub/transport/Frame" "objects" "[B" .null := D145 (Or.inr (hw _ (List.mem_of_getElem? (i := 24) rfl))) (ty := (.array .byte)) (by decide)
      have F145_26 : Fld Z h145 b145 "com/example/proxy_to_stub/proxytostub/transport/Frame" "data" "[B" .null := D145 (Or.inr (hw _ (List.mem_of_getElem? (i := 26) rfl))) (ty := (.array .byte)) (by decide)
      have F145_28 : Fld Z h145 b145 "com/example/proxy_to_stub/proxytostub/transport/Frame" "dataLength" "I" (.int (0 : Int32)) := D145 (Or.inr (hw _ (List.mem_of_getElem? (i := 28) rfl))) (ty := .int) (by decide)
      have F145_30 : Fld Z h145 b145 "com/example/proxy_to_stub/proxytostub/transport/Frame" "tail" "[B" .null := D145 (Or.inr (hw _ (List.mem_of_getElem? (i := 30) rfl))) (ty := (.array .byte)) (by decide)
      obtain ⟨vv151, _, ⟨T151, L151, k151, n151⟩, -, X151, ⟨Lc151, hQ151, l151, y151, z151⟩, st151⟩ := X145.specialBack hx (y := (⟨"com/example/proxy_to_stub/proxytostub/transport/Frame", "<init>", "(IIIJ[B[B)V"⟩ : MethodName)) rfl hown (mvT hZ (hw _ (List.mem_of_getElem? (i := 4) rfl))) (mvT hZ (hw _ (List.mem_of_getElem? (i := 5) rfl))) (mvT hZ (hw _ (List.mem_of_getElem? (i := 6) rfl))) (by decide) (backOf (W := 1) (rm_c1 l Z a0 hw [] b145 x0 x1 x2 x3 b104 b108 (x5 &&& (7 : Int32)) em h145 n0 f146 A145 F145_16 F145_18 F145_20 F145_22 F145_24 F145_26 F145_28 F145_30 ge_b145 f150 (SE.ext f147.2)) hZ (hw _ (List.mem_of_getElem? (i := 6) rfl)) (hw _ (List.mem_of_getElem? (i := 3) rfl)) (by decide) (by decide)) (g := (mkF m 62 #[.val (.int x0), .val (.int x1), .val (.int x2), .val (.long x3), .second, .val (.int x4), .val (.int x5), .val (.int (x4 &&& (7 : Int32))), .val (.int (x5 &&& (7 : Int32))), .val (.ref b104), .val (.ref b108), .unset, .unset] [(.ref b108), (.ref b104), (.long x3), (.int x2), (.int x1), (.int x0), (.ref b145), (.ref b145)])) rfl (by rw [hml]; rfl) (Steps.refl _) (a := b145) (argsL := [(.int x0), (.int x1), (.int x2), (.long x3), (.ref b104), (.ref b108)]) (rest := [(.ref b145)]) (lenOf own_pd_1 rfl) rfl (by show 2 * 0 + _ ≤ _; exact Nat.le_of_eq rfl) (hb hby at_62) (fun _ _ => ⟨rfl, e145, (by decide : 3 + 0 ≤ _), (by decide : 23 + 0 ≤ _)⟩)
      dsimp only [Pt.U, Pt.locs, Pt.cells, Pt.slots] at X151 l151 y151 z151 st151 hQ151
      subst l151 y151 z151
      obtain ⟨rfl, N151q, K151, Eq151, Ff151, Fo151, Fd151, Ft151⟩ := hQ151
      have N151 := Fr.app N115 N151q
      have f152 : n0 ≤ T151.heap.size := Nat.le_trans f146 K151.1
      have f153 : Old Z n0 T151.heap := f147.keep K151 (allS ge_b145 all0)
      have f154 : ALen Z T151.heap em .byte (0 : Int32) := f148.keep K151
      have f155 : ALen Z T151.heap b104 .byte (x4 &&& (7 : Int32)) := f149.keep K151
      have f156 : ALen Z T151.heap b108 .byte (x5 &&& (7 : Int32)) := f150.keep K151
      have f157 : Exa Z T151.heap b145 "com/example/proxy_to_stub/proxytostub/transport/Frame" := A145.keep K151
      have pre158 : ∀ t, Steps p.tables e below (T151.setTop (mkF m 69 #[.val (.int x0), .val (.int x1), .val (.int x2), .val (.long x3), .second, .val (.int x4), .val (.int x5), .val (.int (x4 &&& (7 : Int32))), .val (.int (x5 &&& (7 : Int32))), .val (.ref b104), .val (.ref b108), .val (.ref b145), .unset] [(.int (x4 &&& (7 : Int32)))])) t → Steps p.tables e below (s₁.setTop (entryFrame m #[(.int x0), (.int x1), (.int x2), (.long x3), (.int x4), (.int x5)] maxLocals)) t := fun tt kk => pre121 tt (by
        show Steps p.tables e below (T115.setTop (mkF m 40 #[.val (.int x0), .val (.int x1), .val (.int x2), .val (.long x3), .second, .val (.int x4), .val (.int x5), .val (.int (x4 &&& (7 : Int32))), .val (.int (x5 &&& (7 : Int32))), .val (.ref b104), .val (.ref b108), .unset, .unset] [(.int (x5 &&& (7 : Int32)))])) _
        refine XS.ifYes X115.here hx rfl (pc0 := 40) (pc' := 50) rfl (hb hby at_40) rfl ((if0 _ _).trans (flt hc40).2.2.2) (by decide) (by decide) ?_
        show Steps p.tables e below (T115.setTop (mkF m 50 #[.val (.int x0), .val (.int x1), .val (.int x2), .val (.long x3), .second, .val (.int x4), .val (.int x5), .val (.int (x4 &&& (7 : Int32))), .val (.int (x5 &&& (7 : Int32))), .val (.ref b104), .val (.ref b108), .unset, .unset] [])) _
        refine st145 _ ?_
        show Steps p.tables e below (T145.setTop (mkF m 53 #[.val (.int x0), .val (.int x1), .val (.int x2), .val (.long x3), .second, .val (.int x4), .val (.int x5), .val (.int (x4 &&& (7 : Int32))), .val (.int (x5 &&& (7 : Int32))), .val (.ref b104), .val (.ref b108), .unset, .unset] [(.ref b145)])) _
        refine XS.dup X145.here hx rfl (hb hby at_53) rfl rfl ?_
        show Steps p.tables e below (T145.setTop (mkF m 54 #[.val (.int x0), .val (.int x1), .val (.int x2), .val (.long x3), .second, .val (.int x4), .val (.int x5), .val (.int (x4 &&& (7 : Int32))), .val (.int (x5 &&& (7 : Int32))), .val (.ref b104), .val (.ref b108), .unset, .unset] [(.ref b145), (.ref b145)])) _
        refine XS.iloadN X145.here hx rfl (hb hby at_54) rfl ?_
        show Steps p.tables e below (T145.setTop (mkF m 55 #[.val (.int x0), .val (.int x1), .val (.int x2), .val (.long x3), .second, .val (.int x4), .val (.int x5), .val (.int (x4 &&& (7 : Int32))), .val (.int (x5 &&& (7 : Int32))), .val (.ref b104), .val (.ref b108), .unset, .unset] [(.int x0), (.ref b145), (.ref b145)])) _
        refine XS.iloadN X145.here hx rfl (hb hby at_55) rfl ?_
        show Steps p.tables e below (T145.setTop (mkF m 56 #[.val (.int x0), .val (.int x1), .val (.int x2), .val (.long x3), .second, .val (.int x4), .val (.int x5), .val (.int (x4 &&& (7 : Int32))), .val (.int (x5 &&& (7 : Int32))), .val (.ref b104), .val (.ref b108), .unset, .unset] [(.int x1), (.int x0), (.ref b145), (.ref b145)])) _
        refine XS.iloadN X145.here hx rfl (hb hby at_56) rfl ?_
        show Steps p.tables e below (T145.setTop (mkF m 57 #[.val (.int x0), .val (.int x1), .val (.int x2), .val (.long x3), .second, .val (.int x4), .val (.int x5), .val (.int (x4 &&& (7 : Int32))), .val (.int (x5 &&& (7 : Int32))), .val (.ref b104), .val (.ref b108), .unset, .unset] [(.int x2), (.int x1), (.int x0), (.ref b145), (.ref b145)])) _
        refine XS.lloadN X145.here hx rfl (hb hby at_57) rfl ?_
        show Steps p.tables e below (T145.setTop (mkF m 58 #[.val (.int x0), .val (.int x1), .val (.int x2), .val (.long x3), .second, .val (.int x4), .val (.int x5), .val (.int (x4 &&& (7 : Int32))), .val (.int (x5 &&& (7 : Int32))), .val (.ref b104), .val (.ref b108), .unset, .unset] [(.long x3), (.int x2), (.int x1), (.int x0), (.ref b145), (.ref b145)])) _
        refine XS.aload X145.here hx rfl (hb hby at_58) rfl rfl ?_
        show Steps p.tables e below (T145.setTop (mkF m 60 #[.val (.int x0), .val (.int x1), .val (.int x2), .val (.long x3), .second, .val (.int x4), .val (.int x5), .val (.int (x4 &&& (7 : Int32))), .val (.int (x5 &&& (7 : Int32))), .val (.ref b104), .val (.ref b108), .unset, .unset] [(.ref b104), (.long x3), (.int x2), (.int x1), (.int x0), (.ref b145), (.ref b145)])) _
        refine XS.aload X145.here hx rfl (hb hby at_60) rfl rfl ?_
        show Steps p.tables e below (T145.setTop (mkF m 62 #[.val (.int x0), .val (.int x1), .val (.int x2), .val (.long x3), .second, .val (.int x4), .val (.int x5), .val (.int (x4 &&& (7 : Int32))), .val (.int (x5 &&& (7 : Int32))), .val (.ref b104), .val (.ref b108), .unset, .unset] [(.ref b108), (.ref b104), (.long x3), (.int x2), (.int x1), (.int x0), (.ref b145), (.ref b145)])) _
        refine st151.trans ?_
        show Steps p.tables e below (T151.setTop (mkF m 65 #[.val (.int x0), .val (.int x1), .val (.int x2), .val (.long x3), .second, .val (.int x4), .val (.int x5), .val (.int (x4 &&& (7 : Int32))), .val (.int (x5 &&& (7 : Int32))), .val (.ref b104), .val (.ref b108), .unset, .unset] [(.ref b145)])) _
        refine XS.astore X151.here hx rfl (hb hby at_65) rfl rfl (l' := #[.val (.int x0), .val (.int x1), .val (.int x2), .val (.long x3), .second, .val (.int x4), .val (.int x5), .val (.int (x4 &&& (7 : Int32))), .val (.int (x5 &&& (7 : Int32))), .val (.ref b104), .val (.ref b108), .val (.ref b145), .unset]) rfl ?_
        show Steps p.tables e below (T151.setTop (mkF m 67 #[.val (.int x0), .val (.int x1), .val (.int x2), .val (.long x3), .second, .val (.int x4), .val (.int x5), .val (.int (x4 &&& (7 : Int32))), .val (.int (x5 &&& (7 : Int32))), .val (.ref b104), .val (.ref b108), .val (.ref b145), .unset] [])) _
        refine XS.iload X151.here hx rfl (hb hby at_67) rfl ?_
        exact kk)
      obtain ⟨cq159, kq159, q159a, q159b, q159c⟩ := isOf hZ (rfl : T151.heap = T151.heap) f157
      obtain ⟨vv159, _, ⟨T159, L159, k159, n159⟩, -, X159, ⟨Lc159, hQ159, l159, y159, z159⟩, st159⟩ := X151.virtualBack hx (y := (⟨"com/example/proxy_to_stub/proxytostub/transport/Frame", "carriesObjects", "()Z"⟩ : MethodName)) (z := (⟨"com/example/proxy_to_stub/proxytostub/transport/Frame", "carriesObjects", "()Z"⟩ : MethodName)) hown (mvT hZ (hw _ (List.mem_of_getElem? (i := 31) rfl))) (mvT hZ (hw _ (List.mem_of_getElem? (i := 32) rfl))) (notFace_of_selects (args := #[]) (mvT hZ (hw _ (List.mem_of_getElem? (i := 34) rfl)))) (mvT hZ (hw _ (List.mem_of_getElem? (i := 34) rfl))) (mvT hZ (hw _ (List.mem_of_getElem? (i := 33) rfl))) (by decide) (backOf (W := 0) (rm_co l Z a0 hw [] b145 b104 (x4 &&& (7 : Int32)) T151.heap n0 f152 Fo151 f155) hZ (hw _ (List.mem_of_getElem? (i := 35) rfl)) (hw _ (List.mem_of_getElem? (i := 3) rfl)) (by decide) (by decide)) q159a q159c (g := (mkF m 81 #[.val (.int x0), .val (.int x1), .val (.int x2), .val (.long x3), .second, .val (.int x4), .val (.int x5), .val (.int (x4 &&& (7 : Int32))), .val (.int (x5 &&& (7 : Int32))), .val (.ref b104), .val (.ref b108), .val (.ref b145), .val (.int (1 : Int32))] [(.ref b145)])) rfl (by rw [hml]; rfl) (Steps.refl _) (argsL := []) (rest := []) (lenOf own_pd_2 rfl) rfl (by show 2 * 0 + _ ≤ _; exact Nat.le_of_eq rfl) (hb hby at_81) (fun _ _ => ⟨rfl, (rfl : T151.heap = T151.heap), (by decide : 3 + 0 ≤ _), (by decide : 23 + 0 ≤ _)⟩)
      dsimp only [Pt.U, Pt.locs, Pt.cells, Pt.slots] at X159 l159 y159 z159 st159 hQ159
      subst l159 y159 z159
      rw [if_pos hc28] at hQ159
      obtain ⟨rfl, N159q, e159⟩ := hQ159
      have N159 := Fr.app N151 N159q
      have pre160 : ∀ t, Steps p.tables e below (T159.setTop (mkF m 86 #[.val (.int x0), .val (.int x1), .val (.int x2), .val (.long x3), .second, .val (.int x4), .val (.int x5), .val (.int (x4 &&& (7 : Int32))), .val (.int (x5 &&& (7 : Int32))), .val (.ref b104), .val (.ref b108), .val (.ref b145), .val (.int (1 : Int32))] [(.int (1 : Int32)), (.int (1 : Int32))])) t → Steps p.tables e below (s₁.setTop (entryFrame m #[(.int x0), (.int x1), (.int x2), (.long x3), (.int x4), (.int x5)] maxLocals)) t := fun tt kk => pre158 tt (by
        show Steps p.tables e below (T151.setTop (mkF m 69 #[.val (.int x0), .val (.int x1), .val (.int x2), .val (.long x3), .second, .val (.int x4), .val (.int x5), .val (.int (x4 &&& (7 : Int32))), .val (.int (x5 &&& (7 : Int32))), .val (.ref b104), .val (.ref b108), .val (.ref b145), .unset] [(.int (x4 &&& (7 : Int32)))])) _
        refine XS.ifNo X151.here hx rfl (hb hby at_69) rfl ((if0 _ _).trans (feq (own_pos hc28)).1) ?_
        show Steps p.tables e below (T151.setTop (mkF m 72 #[.val (.int x0), .val (.int x1), .val (.int x2), .val (.long x3), .second, .val (.int x4), .val (.int x5), .val (.int (x4 &&& (7 : Int32))), .val (.int (x5 &&& (7 : Int32))), .val (.ref b104), .val (.ref b108), .val (.ref b145), .unset] [])) _
        refine XS.iconst X151.here hx rfl (hb hby at_72) ?_
        show Steps p.tables e below (T151.setTop (mkF m 73 #[.val (.int x0), .val (.int x1), .val (.int x2), .val (.long x3), .second, .val (.int x4), .val (.int x5), .val (.int (x4 &&& (7 : Int32))), .val (.int (x5 &&& (7 : Int32))), .val (.ref b104), .val (.ref b108), .val (.ref b145), .unset] [(.int (1 : Int32))])) _
        refine XS.goto X151.here hx rfl (pc0 := 73) (pc' := 77) rfl (hb hby at_73) (by decide) (by decide) ?_
        show Steps p.tables e below (T151.setTop (mkF m 77 #[.val (.int x0), .val (.int x1), .val (.int x2), .val (.long x3), .second, .val (.int x4), .val (.int x5), .val (.int (x4 &&& (7 : Int32))), .val (.int (x5 &&& (7 : Int32))), .val (.ref b104), .val (.ref b108), .val (.ref b145), .unset] [(.int (1 : Int32))])) _
        refine XS.istore X151.here hx rfl (hb hby at_77) rfl (l' := #[.val (.int x0), .val (.int x1), .val (.int x2), .val (.long x3), .second, .val (.int x4), .val (.int x5), .val (.int (x4 &&& (7 : Int32))), .val (.int (x5 &&& (7 : Int32))), .val (.ref b104), .val (.ref b108), .val (.ref b145), .val (.int (1 : Int32))]) rfl ?_
        show Steps p.tables e below (T151.setTop (mkF m 79 #[.val (.int x0), .val (.int x1), .val (.int x2), .val (.long x3), .second, .val (.int x4), .val (.int x5), .val (.int (x4 &&& (7 : Int32))), .val (.int (x5 &&& (7 : Int32))), .val (.ref b104), .val (.ref b108), .val (.ref b145), .val (.int (1 : Int32))] [])) _
        refine XS.aload X151.here hx rfl (hb hby at_79) rfl rfl ?_
        show Steps p.tables e below (T151.setTop (mkF m 81 #[.val (.int x0), .val (.int x1), .val (.int x2), .val (.long x3), .second, .val (.int x4), .val (.int x5), .val (.int (x4 &&& (7 : Int32))), .val (.int (x5 &&& (7 : Int32))), .val (.ref b104), .val (.ref b108), .val (.ref b145), .val (.int (1 : Int32))] [(.ref b145)])) _
        refine st159.trans ?_
        show Steps p.tables e below (T159.setTop (mkF m 84 #[.val (.int x0), .val (.int x1), .val (.int x2), .val (.long x3), .second, .val (.int x4), .val (.int x5), .val (.int (x4 &&& (7 : Int32))), .val (.int (x5 &&& (7 : Int32))), .val (.ref b104), .val (.ref b108), .val (.ref b145), .val (.int (1 : Int32))] [(.int (1 : Int32))])) _
        refine XS.iload X159.here hx rfl (hb hby at_84) rfl ?_
        exact kk)
      obtain ⟨fs, hr, hrun, hended, hW, hsame⟩ := X159.leave (v := some (.int (1 : Int32))) (fun h => by rw [Bd.returns] at h; cases h)
      refine ⟨_, _, pre160 _ ?_, hrun, hended, _, _, rfl, ?_, ⟨_, rfl⟩, hW, hsame.mono (by decide) (by decide)⟩
      · show Steps p.tables e below (T159.setTop (mkF m 86 #[.val (.int x0), .val (.int x1), .val (.int x2), .val (.long x3), .second, .val (.int x4), .val (.int x5), .val (.int (x4 &&& (7 : Int32))), .val (.int (x5 &&& (7 : Int32))), .val (.ref b104), .val (.ref b108), .val (.ref b145), .val (.int (1 : Int32))] [(.int (1 : Int32)), (.int (1 : Int32))])) _
        refine XS.icmpNo X159.here hx rfl (hb hby at_86) rfl (teq (by decide : (1 : Int32) = (1 : Int32))).2 ?_
        show Steps p.tables e below (T159.setTop (mkF m 89 #[.val (.int x0), .val (.int x1), .val (.int x2), .val (.long x3), .second, .val (.int x4), .val (.int x5), .val (.int (x4 &&& (7 : Int32))), .val (.int (x5 &&& (7 : Int32))), .val (.ref b104), .val (.ref b108), .val (.ref b145), .val (.int (1 : Int32))] [])) _
        refine XS.iconst X159.here hx rfl (hb hby at_89) ?_
        show Steps p.tables e below (T159.setTop (mkF m 90 #[.val (.int x0), .val (.int x1), .val (.int x2), .val (.long x3), .second, .val (.int x4), .val (.int x5), .val (.int (x4 &&& (7 : Int32))), .val (.int (x5 &&& (7 : Int32))), .val (.ref b104), .val (.ref b108), .val (.ref b145), .val (.int (1 : Int32))] [(.int (1 : Int32))])) _
        refine XS.goto X159.here hx rfl (pc0 := 90) (pc' := 94) rfl (hb hby at_90) (by decide) (by decide) ?_
        show Steps p.tables e below (T159.setTop (mkF m 94 #[.val (.int x0), .val (.int x1), .val (.int x2), .val (.long x3), .second, .val (.int x4), .val (.int x5), .val (.int (x4 &&& (7 : Int32))), .val (.int (x5 &&& (7 : Int32))), .val (.ref b104), .val (.ref b108), .val (.ref b145), .val (.int (1 : Int32))] [(.int (1 : Int32))])) _
        exact retN X159 hx (t := .boolean) Bd.returns (by simp) (hb hby at_94) hr
      · exact ⟨rfl, N159⟩
  · have pre161 : ∀ t, Steps p.tables e below (T108.setTop (mkF m 40 #[.val (.int x0), .val (.int x1), .val (.int x2), .val (.long x3), .second, .val (.int x4), .val (.int x5), .val (.int (x4 &&& (7 : Int32))), .val (.int (x5 &&& (7 : Int32))), .val (.ref b104), .val (.ref b108), .unset, .unset] [(.int (x5 &&& (7 : Int32)))])) t → Steps p.tables e below (s₁.setTop (entryFrame m #[(.int x0), (.int x1), (.int x2), (.long x3), (.int x4), (.int x5)] maxLocals)) t := fun tt kk => pre113 tt (by
      show Steps p.tables e below (T108.setTop (mkF m 28 #[.val (.int x0), .val (.int x1), .val (.int x2), .val (.long x3), .second, .val (.int x4), .val (.int x5), .val (.int (x4 &&& (7 : Int32))), .val (.int (x5 &&& (7 : Int32))), .val (.ref b104), .val (.ref b108), .unset, .unset] [(.int (x4 &&& (7 : Int32)))])) _
      refine XS.ifYes X108.here hx rfl (pc0 := 28) (pc' := 38) rfl (hb hby at_28) rfl ((if0 _ _).trans (flt hc28).2.2.2) (by decide) (by decide) ?_
      show Steps p.tables e below (T108.setTop (mkF m 38 #[.val (.int x0), .val (.int x1), .val (.int x2), .val (.long x3), .second, .val (.int x4), .val (.int x5), .val (.int (x4 &&& (7 : Int32))), .val (.int (x5 &&& (7 : Int32))), .val (.ref b104), .val (.ref b108), .unset, .unset] [])) _
      refine XS.iload X108.here hx rfl (hb hby at_38) rfl ?_
      exact kk)
    by_cases hc40 : (0 : Int32) < (x5 &&& (7 : Int32))
    · obtain ⟨cl162, Ar162, S162, M162⟩ := id V108
      obtain ⟨T163, h163, X163, e163, W163, st163⟩ := stB X108 hx hZ e108 Ar162 (j := (0 : Int32)) (inb_of S162 ⟨by decide, hc40⟩) (g := (mkF m 49 #[.val (.int x0), .val (.int x1), .val (.int x2), .val (.long x3), .second, .val (.int x4), .val (.int x5), .val (.int (x4 &&& (7 : Int32))), .val (.int (x5 &&& (7 : Int32))), .val (.ref b104), .val (.ref b108), .unset, .unset] [(.int (x5.toInt8.toInt32)), (.int (0 : Int32)), (.ref b108)])) rfl rfl (hb hby at_49)
      have N163 := Fr.snoc X163 N0 ge_b108
      have f164 : n0 ≤ h163.size := Nat.le_trans f109 (Keep.of_wr W163).1
      have f165 : Old Z n0 h163 := f110.wr W163 ge_b108
      have f166 : ALen Z h163 em .byte (0 : Int32) := f111.wr W163
      have f167 : ALen Z h163 b104 .byte (x4 &&& (7 : Int32)) := f112.wr W163
      have f168 : ALen Z h163 b108 .byte (x5 &&& (7 : Int32)) := V108.wr W163
      obtain ⟨T169, h169, X169, e169, E169, A169, D169, -, st169⟩ := newO X163 hx hZ hown (hw _ (List.mem_of_getElem? (i := 1) rfl)) (hw _ (List.mem_of_getElem? (i := 2) rfl)) (hw _ (List.mem_of_getElem? (i := 3) rfl)) e163 (g := (mkF m 50 #[.val (.int x0), .val (.int x1), .val (.int x2), .val (.long x3), .second, .val (.int x4), .val (.int x5), .val (.int (x4 &&& (7 : Int32))), .val (.int (x5 &&& (7 : Int32))), .val (.ref b104), .val (.ref b108), .unset, .unset] [])) rfl (hb hby at_50) (by decide) (by decide)
      obtain ⟨b169, g169⟩ : ∃ z, z = h163.size := ⟨_, rfl⟩
      rw [← g169] at A169 D169 st169
      have ne_em_b169 : em ≠ b169 := Nat.ne_of_lt (Nat.lt_of_lt_of_le (f166).lt (Nat.le_of_eq g169.symm))
      have ne_b104_b169 : b104 ≠ b169 := Nat.ne_of_lt (Nat.lt_of_lt_of_le (f167).lt (Nat.le_of_eq g169.symm))
      have ne_b108_b169 : b108 ≠ b169 := Nat.ne_of_lt (Nat.lt_of_lt_of_le (f168).lt (Nat.le_of_eq g169.symm))
      have ge_b169 : n0 ≤ b169 := Nat.le_trans f164 (Nat.le_of_eq g169.symm)
      have f170 : n0 ≤ h169.size := Nat.le_trans f164 E169.1
      have f171 : Old Z n0 h169 := f165.ext E169
      have f172 : ALen Z h169 em .byte (0 : Int32) := f166.ext E169
      have f173 : ALen Z h169 b104 .byte (x4 &&& (7 : Int32)) := f167.ext E169
      have f174 : ALen Z h169 b108 .byte (x5 &&& (7 : Int32)) := f168.ext E169
      have F169_16 : Fld Z h169 b169 "com/example/proxy_to_stub/proxytostub/transport/Frame" "kind" "I" (.int (0 : Int32)) := D169 (Or.inr (hw _ (List.mem_of_getElem? (i := 16) rfl))) (ty := .int) (by decide)
      have F169_18 : Fld Z h169 b169 "com/example/proxy_to_stub/proxytostub/transport/Frame" "code" "I" (.int (0 : Int32)) := D169 (Or.inr (hw _ (List.mem_of_getElem? (i := 18) rfl))) (ty := .int) (by decide)
      have F169_20 : Fld Z h169 b169 "com/example/proxy_to_stub/proxytostub/transport/Frame" "flags" "I" (.int (0 : Int32)) := D169 (Or.inr (hw _ (List.mem_of_getElem? (i := 20) rfl))) (ty := .int) (by decide)
      have F169_22 : Fld Z h169 b169 "com/example/proxy_to_stub/proxytostub/transport/Frame" "target" "J" (.long (0 : Int64)) := D169 (Or.inr (hw _ (List.mem_of_getElem? (i := 22) rfl))) (ty := .long) (by decide)
      have F169_24 : Fld Z h169 b169 "com/example/proxy_to_stub/proxytostub/transport/Frame" "objects" "[B" .null := D169 (Or.inr (hw _ (List.mem_of_getElem? (i := 24) rfl))) (ty := (.array .byte)) (by decide)
      have F169_26 : Fld Z h169 b169 "com/example/proxy_to_stub/proxytostub/transport/Frame" "data" "[B" .null := D169 (Or.inr (hw _ (List.mem_of_getElem? (i := 26) rfl))) (ty := (.array .byte)) (by decide)
      have F169_28 : Fld Z h169 b169 "com/example/proxy_to_stub/proxytostub/transport/Frame" "dataLength" "I" (.int (0 : Int32)) := D169 (Or.inr (hw _ (List.mem_of_getElem? (i := 28) rfl))) (ty := .int) (by decide)
      have F169_30 : Fld Z h169 b169 "com/example/proxy_to_stub/proxytostub/transport/Frame" "tail" "[B" .null := D169 (Or.inr (hw _ (List.mem_of_getElem? (i := 30) rfl))) (ty := (.array .byte)) (by decide)
      obtain ⟨vv175, _, ⟨T175, L175, k175, n175⟩, -, X175, ⟨Lc175, hQ175, l175, y175, z175⟩, st175⟩ := X169.specialBack hx (y := (⟨"com/example/proxy_to_stub/proxytostub/transport/Frame", "<init>", "(IIIJ[B[B)V"⟩ : MethodName)) rfl hown (mvT hZ (hw _ (List.mem_of_getElem? (i := 4) rfl))) (mvT hZ (hw _ (List.mem_of_getElem? (i := 5) rfl))) (mvT hZ (hw _ (List.mem_of_getElem? (i := 6) rfl))) (by decide) (backOf (W := 1) (rm_c1 l Z a0 hw [] b169 x0 x1 x2 x3 b104 b108 (x5 &&& (7 : Int32)) em h169 n0 f170 A169 F169_16 F169_18 F169_20 F169_22 F169_24 F169_26 F169_28 F169_30 ge_b169 f174 (SE.ext f171.2)) hZ (hw _ (List.mem_of_getElem? (i := 6) rfl)) (hw _ (List.mem_of_getElem? (i := 3) rfl)) (by decide) (by decide)) (g := (mkF m 62 #[.val (.int x0), .val (.int x1), .val (.int x2), .val (.long x3), .second, .val (.int x4), .val (.int x5), .val (.int (x4 &&& (7 : Int32))), .val (.int (x5 &&& (7 : Int32))), .val (.ref b104), .val (.ref b108), .unset, .unset] [(.ref b108), (.ref b104), (.long x3), (.int x2), (.int x1), (.int x0), (.ref b169), (.ref b169)])) rfl (by rw [hml]; rfl) (Steps.refl _) (a := b169) (argsL := [(.int x0), (.int x1), (.int x2), (.long x3), (.ref b104), (.ref b108)]) (rest := [(.ref b169)]) (lenOf own_pd_1 rfl) rfl (by show 2 * 0 + _ ≤ _; exact Nat.le_of_eq rfl) (hb hby at_62) (fun _ _ => ⟨rfl, e169, (by decide : 3 + 0 ≤ _), (by decide : 23 + 0 ≤ _)⟩)
      dsimp only [Pt.U, Pt.locs, Pt.cells, Pt.slots] at X175 l175 y175 z175 st175 hQ175
      subst l175 y175 z175
      obtain ⟨rfl, N175q, K175, Eq175, Ff175, Fo175, Fd175, Ft175⟩ := hQ175
      have N175 := Fr.app N163 N175q
      have f176 : n0 ≤ T175.heap.size := Nat.le_trans f170 K175.1
      have f177 : Old Z n0 T175.heap := f171.keep K175 (allS ge_b169 all0)
      have f178 : ALen Z T175.heap em .byte (0 : Int32) := f172.keep K175
      have f179 : ALen Z T175.heap b104 .byte (x4 &&& (7 : Int32)) := f173.keep K175
      have f180 : ALen Z T175.heap b108 .byte (x5 &&& (7 : Int32)) := f174.keep K175
      have f181 : Exa Z T175.heap b169 "com/example/proxy_to_stub/proxytostub/transport/Frame" := A169.keep K175
      have pre182 : ∀ t, Steps p.tables e below (T175.setTop (mkF m 69 #[.val (.int x0), .val (.int x1), .val (.int x2), .val (.long x3), .second, .val (.int x4), .val (.int x5), .val (.int (x4 &&& (7 : Int32))), .val (.int (x5 &&& (7 : Int32))), .val (.ref b104), .val (.ref b108), .val (.ref b169), .unset] [(.int (x4 &&& (7 : Int32)))])) t → Steps p.tables e below (s₁.setTop (entryFrame m #[(.int x0), (.int x1), (.int x2), (.long x3), (.int x4), (.int x5)] maxLocals)) t := fun tt kk => pre161 tt (by
        show Steps p.tables e below (T108.setTop (mkF m 40 #[.val (.int x0), .val (.int x1), .val (.int x2), .val (.long x3), .second, .val (.int x4), .val (.int x5), .val (.int (x4 &&& (7 : Int32))), .val (.int (x5 &&& (7 : Int32))), .val (.ref b104), .val (.ref b108), .unset, .unset] [(.int (x5 &&& (7 : Int32)))])) _
        refine XS.ifNo X108.here hx rfl (hb hby at_40) rfl ((if0 _ _).trans (tlt hc40).2.2.2) ?_
        show Steps p.tables e below (T108.setTop (mkF m 43 #[.val (.int x0), .val (.int x1), .val (.int x2), .val (.long x3), .second, .val (.int x4), .val (.int x5), .val (.int (x4 &&& (7 : Int32))), .val (.int (x5 &&& (7 : Int32))), .val (.ref b104), .val (.ref b108), .unset, .unset] [])) _
        refine XS.aload X108.here hx rfl (hb hby at_43) rfl rfl ?_
        show Steps p.tables e below (T108.setTop (mkF m 45 #[.val (.int x0), .val (.int x1), .val (.int x2), .val (.long x3), .second, .val (.int x4), .val (.int x5), .val (.int (x4 &&& (7 : Int32))), .val (.int (x5 &&& (7 : Int32))), .val (.ref b104), .val (.ref b108), .unset, .unset] [(.ref b108)])) _
        refine XS.iconst X108.here hx rfl (hb hby at_45) ?_
        show Steps p.tables e below (T108.setTop (mkF m 46 #[.val (.int x0), .val (.int x1), .val (.int x2), .val (.long x3), .second, .val (.int x4), .val (.int x5), .val (.int (x4 &&& (7 : Int32))), .val (.int (x5 &&& (7 : Int32))), .val (.ref b104), .val (.ref b108), .unset, .unset] [(.int (0 : Int32)), (.ref b108)])) _
        refine XS.iload X108.here hx rfl (hb hby at_46) rfl ?_
        show Steps p.tables e below (T108.setTop (mkF m 48 #[.val (.int x0), .val (.int x1), .val (.int x2), .val (.long x3), .second, .val (.int x4), .val (.int x5), .val (.int (x4 &&& (7 : Int32))), .val (.int (x5 &&& (7 : Int32))), .val (.ref b104), .val (.ref b108), .unset, .unset] [(.int x5), (.int (0 : Int32)), (.ref b108)])) _
        refine XS.i2b X108.here hx rfl (hb hby at_48) rfl ?_
        show Steps p.tables e below (T108.setTop (mkF m 49 #[.val (.int x0), .val (.int x1), .val (.int x2), .val (.long x3), .second, .val (.int x4), .val (.int x5), .val (.int (x4 &&& (7 : Int32))), .val (.int (x5 &&& (7 : Int32))), .val (.ref b104), .val (.ref b108), .unset, .unset] [(.int (x5.toInt8.toInt32)), (.int (0 : Int32)), (.ref b108)])) _
        refine st163 _ ?_
        show Steps p.tables e below (T163.setTop (mkF m 50 #[.val (.int x0), .val (.int x1), .val (.int x2), .val (.long x3), .second, .val (.int x4), .val (.int x5), .val (.int (x4 &&& (7 : Int32))), .val (.int (x5 &&& (7 : Int32))), .val (.ref b104), .val (.ref b108), .unset, .unset] [])) _
        refine st169 _ ?_
        show Steps p.tables e below (T169.setTop (mkF m 53 #[.val (.int x0), .val (.int x1), .val (.int x2), .val (.long x3), .second, .val (.int x4), .val (.int x5), .val (.int (x4 &&& (7 : Int32))), .val (.int (x5 &&& (7 : Int32))), .val (.ref b104), .val (.ref b108), .unset, .unset] [(.ref b169)])) _
        refine XS.dup X169.here hx rfl (hb hby at_53) rfl rfl ?_
        show Steps p.tables e below (T169.setTop (mkF m 54 #[.val (.int x0), .val (.int x1), .val (.int x2), .val (.long x3), .second, .val (.int x4), .val (.int x5), .val (.int (x4 &&& (7 : Int32))), .val (.int (x5 &&& (7 : Int32))), .val (.ref b104), .val (.ref b108), .unset, .unset] [(.ref b169), (.ref b169)])) _
        refine XS.iloadN X169.here hx rfl (hb hby at_54) rfl ?_
        show Steps p.tables e below (T169.setTop (mkF m 55 #[.val (.int x0), .val (.int x1), .val (.int x2), .val (.long x3), .second, .val (.int x4), .val (.int x5), .val (.int (x4 &&& (7 : Int32))), .val (.int (x5 &&& (7 : Int32))), .val (.ref b104), .val (.ref b108), .unset, .unset] [(.int x0), (.ref b169), (.ref b169)])) _
        refine XS.iloadN X169.here hx rfl (hb hby at_55) rfl ?_
        show Steps p.tables e below (T169.setTop (mkF m 56 #[.val (.int x0), .val (.int x1), .val (.int x2), .val (.long x3), .second, .val (.int x4), .val (.int x5), .val (.int (x4 &&& (7 : Int32))), .val (.int (x5 &&& (7 : Int32))), .val (.ref b104), .val (.ref b108), .unset, .unset] [(.int x1), (.int x0), (.ref b169), (.ref b169)])) _
        refine XS.iloadN X169.here hx rfl (hb hby at_56) rfl ?_
        show Steps p.tables e below (T169.setTop (mkF m 57 #[.val (.int x0), .val (.int x1), .val (.int x2), .val (.long x3), .second, .val (.int x4), .val (.int x5), .val (.int (x4 &&& (7 : Int32))), .val (.int (x5 &&& (7 : Int32))), .val (.ref b104), .val (.ref b108), .unset, .unset] [(.int x2), (.int x1), (.int x0), (.ref b169), (.ref b169)])) _
        refine XS.lloadN X169.here hx rfl (hb hby at_57) rfl ?_
        show Steps p.tables e below (T169.setTop (mkF m 58 #[.val (.int x0), .val (.int x1), .val (.int x2), .val (.long x3), .second, .val (.int x4), .val (.int x5), .val (.int (x4 &&& (7 : Int32))), .val (.int (x5 &&& (7 : Int32))), .val (.ref b104), .val (.ref b108), .unset, .unset] [(.long x3), (.int x2), (.int x1), (.int x0), (.ref b169), (.ref b169)])) _
        refine XS.aload X169.here hx rfl (hb hby at_58) rfl rfl ?_
        show Steps p.tables e below (T169.setTop (mkF m 60 #[.val (.int x0), .val (.int x1), .val (.int x2), .val (.long x3), .second, .val (.int x4), .val (.int x5), .val (.int (x4 &&& (7 : Int32))), .val (.int (x5 &&& (7 : Int32))), .val (.ref b104), .val (.ref b108), .unset, .unset] [(.ref b104), (.long x3), (.int x2), (.int x1), (.int x0), (.ref b169), (.ref b169)])) _
        refine XS.aload X169.here hx rfl (hb hby at_60) rfl rfl ?_
        show Steps p.tables e below (T169.setTop (mkF m 62 #[.val (.int x0), .val (.int x1), .val (.int x2), .val (.long x3), .second, .val (.int x4), .val (.int x5), .val (.int (x4 &&& (7 : Int32))), .val (.int (x5 &&& (7 : Int32))), .val (.ref b104), .val (.ref b108), .unset, .unset] [(.ref b108), (.ref b104), (.long x3), (.int x2), (.int x1), (.int x0), (.ref b169), (.ref b169)])) _
        refine st175.trans ?_
        show Steps p.tables e below (T175.setTop (mkF m 65 #[.val (.int x0), .val (.int x1), .val (.int x2), .val (.long x3), .second, .val (.int x4), .val (.int x5), .val (.int (x4 &&& (7 : Int32))), .val (.int (x5 &&& (7 : Int32))), .val (.ref b104), .val (.ref b108), .unset, .unset] [(.ref b169)])) _
        refine XS.astore X175.here hx rfl (hb hby at_65) rfl rfl (l' := #[.val (.int x0), .val (.int x1), .val (.int x2), .val (.long x3), .second, .val (.int x4), .val (.int x5), .val (.int (x4 &&& (7 : Int32))), .val (.int (x5 &&& (7 : Int32))), .val (.ref b104), .val (.ref b108), .val (.ref b169), .unset]) rfl ?_
        show Steps p.tables e below (T175.setTop (mkF m 67 #[.val (.int x0), .val (.int x1), .val (.int x2), .val (.long x3), .second, .val (.int x4), .val (.int x5), .val (.int (x4 &&& (7 : Int32))), .val (.int (x5 &&& (7 : Int32))), .val (.ref b104), .val (.ref b108), .val (.ref b169), .unset] [])) _
        refine XS.iload X175.here hx rfl (hb hby at_67) rfl ?_
        exact kk)
      obtain ⟨cq183, kq183, q183a, q183b, q183c⟩ := isOf hZ (rfl : T175.heap = T175.heap) f181
      obtain ⟨vv183, _, ⟨T183, L183, k183, n183⟩, -, X183, ⟨Lc183, hQ183, l183, y183, z183⟩, st183⟩ := X175.virtualBack hx (y := (⟨"com/example/proxy_to_stub/proxytostub/transport/Frame", "carriesObjects", "()Z"⟩ : MethodName)) (z := (⟨"com/example/proxy_to_stub/proxytostub/transport/Frame", "carriesObjects", "()Z"⟩ : MethodName)) hown (mvT hZ (hw _ (List.mem_of_getElem? (i := 31) rfl))) (mvT hZ (hw _ (List.mem_of_getElem? (i := 32) rfl))) (notFace_of_selects (args := #[]) (mvT hZ (hw _ (List.mem_of_getElem? (i := 34) rfl)))) (mvT hZ (hw _ (List.mem_of_getElem? (i := 34) rfl))) (mvT hZ (hw _ (List.mem_of_getElem? (i := 33) rfl))) (by decide) (backOf (W := 0) (rm_co l Z a0 hw [] b169 b104 (x4 &&& (7 : Int32)) T175.heap n0 f176 Fo175 f179) hZ (hw _ (List.mem_of_getElem? (i := 35) rfl)) (hw _ (List.mem_of_getElem? (i := 3) rfl)) (by decide) (by decide)) q183a q183c (g := (mkF m 81 #[.val (.int x0), .val (.int x1), .val (.int x2), .val (.long x3), .second, .val (.int x4), .val (.int x5), .val (.int (x4 &&& (7 : Int32))), .val (.int (x5 &&& (7 : Int32))), .val (.ref b104), .val (.ref b108), .val (.ref b169), .val (.int (0 : Int32))] [(.ref b169)])) rfl (by rw [hml]; rfl) (Steps.refl _) (argsL := []) (rest := []) (lenOf own_pd_2 rfl) rfl (by show 2 * 0 + _ ≤ _; exact Nat.le_of_eq rfl) (hb hby at_81) (fun _ _ => ⟨rfl, (rfl : T175.heap = T175.heap), (by decide : 3 + 0 ≤ _), (by decide : 23 + 0 ≤ _)⟩)
      dsimp only [Pt.U, Pt.locs, Pt.cells, Pt.slots] at X183 l183 y183 z183 st183 hQ183
      subst l183 y183 z183
      rw [if_neg hc28] at hQ183
      obtain ⟨rfl, N183q, e183⟩ := hQ183
      have N183 := Fr.app N175 N183q
      have pre184 : ∀ t, Steps p.tables e below (T183.setTop (mkF m 86 #[.val (.int x0), .val (.int x1), .val (.int x2), .val (.long x3), .second, .val (.int x4), .val (.int x5), .val (.int (x4 &&& (7 : Int32))), .val (.int (x5 &&& (7 : Int32))), .val (.ref b104), .val (.ref b108), .val (.ref b169), .val (.int (0 : Int32))] [(.int (0 : Int32)), (.int (0 : Int32))])) t → Steps p.tables e below (s₁.setTop (entryFrame m #[(.int x0), (.int x1), (.int x2), (.long x3), (.int x4), (.int x5)] maxLocals)) t := fun tt kk => pre182 tt (by
        show Steps p.tables e below (T175.setTop (mkF m 69 #[.val (.int x0), .val (.int x1), .val (.int x2), .val (.long x3), .second, .val (.int x4), .val (.int x5), .val (.int (x4 &&& (7 : Int32))), .val (.int (x5 &&& (7 : Int32))), .val (.ref b104), .val (.ref b108), .val (.ref b169), .unset] [(.int (x4 &&& (7 : Int32)))])) _
        refine XS.ifYes X175.here hx rfl (pc0 := 69) (pc' := 76) rfl (hb hby at_69) rfl ((if0 _ _).trans (teq (own_zero hc28 (own_mk x4 7 (k := 3) (by decide) (by decide)).1)).1) (by decide) (by decide) ?_
        show Steps p.tables e below (T175.setTop (mkF m 76 #[.val (.int x0), .val (.int x1), .val (.int x2), .val (.long x3), .second, .val (.int x4), .val (.int x5), .val (.int (x4 &&& (7 : Int32))), .val (.int (x5 &&& (7 : Int32))), .val (.ref b104), .val (.ref b108), .val (.ref b169), .unset] [])) _
        refine XS.iconst X175.here hx rfl (hb hby at_76) ?_
        show Steps p.tables e below (T175.setTop (mkF m 77 #[.val (.int x0), .val (.int x1), .val (.int x2), .val (.long x3), .second, .val (.int x4), .val (.int x5), .val (.int (x4 &&& (7 : Int32))), .val (.int (x5 &&& (7 : Int32))), .val (.ref b104), .val (.ref b108), .val (.ref b169), .unset] [(.int (0 : Int32))])) _
        refine XS.istore X175.here hx rfl (hb hby at_77) rfl (l' := #[.val (.int x0), .val (.int x1), .val (.int x2), .val (.long x3), .second, .val (.int x4), .val (.int x5), .val (.int (x4 &&& (7 : Int32))), .val (.int (x5 &&& (7 : Int32))), .val (.ref b104), .val (.ref b108), .val (.ref b169), .val (.int (0 : Int32))]) rfl ?_
        show Steps p.tables e below (T175.setTop (mkF m 79 #[.val (.int x0), .val (.int x1), .val (.int x2), .val (.long x3), .second, .val (.int x4), .val (.int x5), .val (.int (x4 &&& (7 : Int32))), .val (.int (x5 &&& (7 : Int32))), .val (.ref b104), .val (.ref b108), .val (.ref b169), .val (.int (0 : Int32))] [])) _
        refine XS.aload X175.here hx rfl (hb hby at_79) rfl rfl ?_
        show Steps p.tables e below (T175.setTop (mkF m 81 #[.val (.int x0), .val (.int x1), .val (.int x2), .val (.long x3), .second, .val (.int x4), .val (.int x5), .val (.int (x4 &&& (7 : Int32))), .val (.int (x5 &&& (7 : Int32))), .val (.ref b104), .val (.ref b108), .val (.ref b169), .val (.int (0 : Int32))] [(.ref b169)])) _
        refine st183.trans ?_
        show Steps p.tables e below (T183.setTop (mkF m 84 #[.val (.int x0), .val (.int x1), .val (.int x2), .val (.long x3), .second, .val (.int x4), .val (.int x5), .val (.int (x4 &&& (7 : Int32))), .val (.int (x5 &&& (7 : Int32))), .val (.ref b104), .val (.ref b108), .val (.ref b169), .val (.int (0 : Int32))] [(.int (0 : Int32))])) _
        refine XS.iload X183.here hx rfl (hb hby at_84) rfl ?_
        exact kk)
      obtain ⟨fs, hr, hrun, hended, hW, hsame⟩ := X183.leave (v := some (.int (1 : Int32))) (fun h => by rw [Bd.returns] at h; cases h)
      refine ⟨_, _, pre184 _ ?_, hrun, hended, _, _, rfl, ?_, ⟨_, rfl⟩, hW, hsame.mono (by decide) (by decide)⟩
      · show Steps p.tables e below (T183.setTop (mkF m 86 #[.val (.int x0), .val (.int x1), .val (.int x2), .val (.long x3), .second, .val (.int x4), .val (.int x5), .val (.int (x4 &&& (7 : Int32))), .val (.int (x5 &&& (7 : Int32))), .val (.ref b104), .val (.ref b108), .val (.ref b169), .val (.int (0 : Int32))] [(.int (0 : Int32)), (.int (0 : Int32))])) _
        refine XS.icmpNo X183.here hx rfl (hb hby at_86) rfl (teq (by decide : (0 : Int32) = (0 : Int32))).2 ?_
        show Steps p.tables e below (T183.setTop (mkF m 89 #[.val (.int x0), .val (.int x1), .val (.int x2), .val (.long x3), .second, .val (.int x4), .val (.int x5), .val (.int (x4 &&& (7 : Int32))), .val (.int (x5 &&& (7 : Int32))), .val (.ref b104), .val (.ref b108), .val (.ref b169), .val (.int (0 : Int32))] [])) _
        refine XS.iconst X183.here hx rfl (hb hby at_89) ?_
        show Steps p.tables e below (T183.setTop (mkF m 90 #[.val (.int x0), .val (.int x1), .val (.int x2), .val (.long x3), .second, .val (.int x4), .val (.int x5), .val (.int (x4 &&& (7 : Int32))), .val (.int (x5 &&& (7 : Int32))), .val (.ref b104), .val (.ref b108), .val (.ref b169), .val (.int (0 : Int32))] [(.int (1 : Int32))])) _
        refine XS.goto X183.here hx rfl (pc0 := 90) (pc' := 94) rfl (hb hby at_90) (by decide) (by decide) ?_
        show Steps p.tables e below (T183.setTop (mkF m 94 #[.val (.int x0), .val (.int x1), .val (.int x2), .val (.long x3), .second, .val (.int x4), .val (.int x5), .val (.int (x4 &&& (7 : Int32))), .val (.int (x5 &&& (7 : Int32))), .val (.ref b104), .val (.ref b108), .val (.ref b169), .val (.int (0 : Int32))] [(.int (1 : Int32))])) _
        exact retN X183 hx (t := .boolean) Bd.returns (by simp) (hb hby at_94) hr
      · exact ⟨rfl, N183⟩
    · obtain ⟨T185, h185, X185, e185, E185, A185, D185, -, st185⟩ := newO X108 hx hZ hown (hw _ (List.mem_of_getElem? (i := 1) rfl)) (hw _ (List.mem_of_getElem? (i := 2) rfl)) (hw _ (List.mem_of_getElem? (i := 3) rfl)) e108 (g := (mkF m 50 #[.val (.int x0), .val (.int x1), .val (.int x2), .val (.long x3), .second, .val (.int x4), .val (.int x5), .val (.int (x4 &&& (7 : Int32))), .val (.int (x5 &&& (7 : Int32))), .val (.ref b104), .val (.ref b108), .unset, .unset] [])) rfl (hb hby at_50) (by decide) (by decide)
      obtain ⟨b185, g185⟩ : ∃ z, z = h108.size := ⟨_, rfl⟩
      rw [← g185] at A185 D185 st185
      have ne_em_b185 : em ≠ b185 := Nat.ne_of_lt (Nat.lt_of_lt_of_le (f111).lt (Nat.le_of_eq g185.symm))
      have ne_b104_b185 : b104 ≠ b185 := Nat.ne_of_lt (Nat.lt_of_lt_of_le (f112).lt (Nat.le_of_eq g185.symm))
      have ne_b108_b185 : b108 ≠ b185 := Nat.ne_of_lt (Nat.lt_of_lt_of_le (V108).lt (Nat.le_of_eq g185.symm))
      have ge_b185 : n0 ≤ b185 := Nat.le_trans f109 (Nat.le_of_eq g185.symm)
      have f186 : n0 ≤ h185.size := Nat.le_trans f109 E185.1
      have f187 : Old Z n0 h185 := f110.ext E185
      have f188 : ALen Z h185 em .byte (0 : Int32) := f111.ext E185
      have f189 : ALen Z h185 b104 .byte (x4 &&& (7 : Int32)) := f112.ext E185
      have f190 : ALen Z h185 b108 .byte (x5 &&& (7 : Int32)) := V108.ext E185
      have F185_16 : Fld Z h185 b185 "com/example/proxy_to_stub/proxytostub/transport/Frame" "kind" "I" (.int (0 : Int32)) := D185 (Or.inr (hw _ (List.mem_of_getElem? (i := 16) rfl))) (ty := .int) (by decide)
      have F185_18 : Fld Z h185 b185 "com/example/proxy_to_stub/proxytostub/transport/Frame" "code" "I" (.int (0 : Int32)) := D185 (Or.inr (hw _ (List.mem_of_getElem? (i := 18) rfl))) (ty := .int) (by decide)
      have F185_20 : Fld Z h185 b185 "com/example/proxy_to_stub/proxytostub/transport/Frame" "flags" "I" (.int (0 : Int32)) := D185 (Or.inr (hw _ (List.mem_of_getElem? (i := 20) rfl))) (ty := .int) (by decide)
      have F185_22 : Fld Z h185 b185 "com/example/proxy_to_stub/proxytostub/transport/Frame" "target" "J" (.long (0 : Int64)) := D185 (Or.inr (hw _ (List.mem_of_getElem? (i := 22) rfl))) (ty := .long) (by decide)
      have F185_24 : Fld Z h185 b185 "com/example/proxy_to_stub/proxytostub/transport/Frame" "objects" "[B" .null := D185 (Or.inr (hw _ (List.mem_of_getElem? (i := 24) rfl))) (ty := (.array .byte)) (by decide)
      have F185_26 : Fld Z h185 b185 "com/example/proxy_to_stub/proxytostub/transport/Frame" "data" "[B" .null := D185 (Or.inr (hw _ (List.mem_of_getElem? (i := 26) rfl))) (ty := (.array .byte)) (by decide)
      have F185_28 : Fld Z h185 b185 "com/example/proxy_to_stub/proxytostub/transport/Frame" "dataLength" "I" (.int (0 : Int32)) := D185 (Or.inr (hw _ (List.mem_of_getElem? (i := 28) rfl))) (ty := .int) (by decide)
      have F185_30 : Fld Z h185 b185 "com/example/proxy_to_stub/proxytostub/transport/Frame" "tail" "[B" .null := D185 (Or.inr (hw _ (List.mem_of_getElem? (i := 30) rfl))) (ty := (.array .byte)) (by decide)
      obtain ⟨vv191, _, ⟨T191, L191, k191, n191⟩, -, X191, ⟨Lc191, hQ191, l191, y191, z191⟩, st191⟩ := X185.specialBack hx (y := (⟨"com/example/proxy_to_stub/proxytostub/transport/Frame", "<init>", "(IIIJ[B[B)V"⟩ : MethodName)) rfl hown (mvT hZ (hw _ (List.mem_of_getElem? (i := 4) rfl))) (mvT hZ (hw _ (List.mem_of_getElem? (i := 5) rfl))) (mvT hZ (hw _ (List.mem_of_getElem? (i := 6) rfl))) (by decide) (backOf (W := 1) (rm_c1 l Z a0 hw [] b185 x0 x1 x2 x3 b104 b108 (x5 &&& (7 : Int32)) em h185 n0 f186 A185 F185_16 F185_18 F185_20 F185_22 F185_24 F185_26 F185_28 F185_30 ge_b185 f190 (SE.ext f187.2)) hZ (hw _ (List.mem_of_getElem? (i := 6) rfl)) (hw _ (List.mem_of_getElem? (i := 3) rfl)) (by decide) (by decide)) (g := (mkF m 62 #[.val (.int x0), .val (.int x1), .val (.int x2), .val (.long x3), .second, .val (.int x4), .val (.int x5), .val (.int (x4 &&& (7 : Int32))), .val (.int (x5 &&& (7 : Int32))), .val (.ref b104), .val (.ref b108), .unset, .unset] [(.ref b108), (.ref b104), (.long x3), (.int x2), (.int x1), (.int x0), (.ref b185), (.ref b185)])) rfl (by rw [hml]; rfl) (Steps.refl _) (a := b185) (argsL := [(.int x0), (.int x1), (.int x2), (.long x3), (.ref b104), (.ref b108)]) (rest := [(.ref b185)]) (lenOf own_pd_1 rfl) rfl (by show 2 * 0 + _ ≤ _; exact Nat.le_of_eq rfl) (hb hby at_62) (fun _ _ => ⟨rfl, e185, (by decide : 3 + 0 ≤ _), (by decide : 23 + 0 ≤ _)⟩)
      dsimp only [Pt.U, Pt.locs, Pt.cells, Pt.slots] at X191 l191 y191 z191 st191 hQ191
      subst l191 y191 z191
      obtain ⟨rfl, N191q, K191, Eq191, Ff191, Fo191, Fd191, Ft191⟩ := hQ191
      have N191 := Fr.app N0 N191q
      have f192 : n0 ≤ T191.heap.size := Nat.le_trans f186 K191.1
      have f193 : Old Z n0 T191.heap := f187.keep K191 (allS ge_b185 all0)
      have f194 : ALen Z T191.heap em .byte (0 : Int32) := f188.keep K191
      have f195 : ALen Z T191.heap b104 .byte (x4 &&& (7 : Int32)) := f189.keep K191
      have f196 : ALen Z T191.heap b108 .byte (x5 &&& (7 : Int32)) := f190.keep K191
      have f197 : Exa Z T191.heap b185 "com/example/proxy_to_stub/proxytostub/transport/Frame" := A185.keep K191
      have pre198 : ∀ t, Steps p.tables e below (T191.setTop (mkF m 69 #[.val (.int x0), .val (.int x1), .val (.int x2), .val (.long x3), .second, .val (.int x4), .val (.int x5), .val (.int (x4 &&& (7 : Int32))), .val (.int (x5 &&& (7 : Int32))), .val (.ref b104), .val (.ref b108), .val (.ref b185), .unset] [(.int (x4 &&& (7 : Int32)))])) t → Steps p.tables e below (s₁.setTop (entryFrame m #[(.int x0), (.int x1), (.int x2), (.long x3), (.int x4), (.int x5)] maxLocals)) t := fun tt kk => pre161 tt (by
        show Steps p.tables e below (T108.setTop (mkF m 40 #[.val (.int x0), .val (.int x1), .val (.int x2), .val (.long x3), .second, .val (.int x4), .val (.int x5), .val (.int (x4 &&& (7 : Int32))), .val (.int (x5 &&& (7 : Int32))), .val (.ref b104), .val (.ref b108), .unset, .unset] [(.int (x5 &&& (7 : Int32)))])) _
        refine XS.ifYes X108.here hx rfl (pc0 := 40) (pc' := 50) rfl (hb hby at_40) rfl ((if0 _ _).trans (flt hc40).2.2.2) (by decide) (by decide) ?_
        show Steps p.tables e below (T108.setTop (mkF m 50 #[.val (.int x0), .val (.int x1), .val (.int x2), .val (.long x3), .second, .val (.int x4), .val (.int x5), .val (.int (x4 &&& (7 : Int32))), .val (.int (x5 &&& (7 : Int32))), .val (.ref b104), .val (.ref b108), .unset, .unset] [])) _
        refine st185 _ ?_
        show Steps p.tables e below (T185.setTop (mkF m 53 #[.val (.int x0), .val (.int x1), .val (.int x2), .val (.long x3), .second, .val (.int x4), .val (.int x5), .val (.int (x4 &&& (7 : Int32))), .val (.int (x5 &&& (7 : Int32))), .val (.ref b104), .val (.ref b108), .unset, .unset] [(.ref b185)])) _
        refine XS.dup X185.here hx rfl (hb hby at_53) rfl rfl ?_
        show Steps p.tables e below (T185.setTop (mkF m 54 #[.val (.int x0), .val (.int x1), .val (.int x2), .val (.long x3), .second, .val (.int x4), .val (.int x5), .val (.int (x4 &&& (7 : Int32))), .val (.int (x5 &&& (7 : Int32))), .val (.ref b104), .val (.ref b108), .unset, .unset] [(.ref b185), (.ref b185)])) _
        refine XS.iloadN X185.here hx rfl (hb hby at_54) rfl ?_
        show Steps p.tables e below (T185.setTop (mkF m 55 #[.val (.int x0), .val (.int x1), .val (.int x2), .val (.long x3), .second, .val (.int x4), .val (.int x5), .val (.int (x4 &&& (7 : Int32))), .val (.int (x5 &&& (7 : Int32))), .val (.ref b104), .val (.ref b108), .unset, .unset] [(.int x0), (.ref b185), (.ref b185)])) _
        refine XS.iloadN X185.here hx rfl (hb hby at_55) rfl ?_
        show Steps p.tables e below (T185.setTop (mkF m 56 #[.val (.int x0), .val (.int x1), .val (.int x2), .val (.long x3), .second, .val (.int x4), .val (.int x5), .val (.int (x4 &&& (7 : Int32))), .val (.int (x5 &&& (7 : Int32))), .val (.ref b104), .val (.ref b108), .unset, .unset] [(.int x1), (.int x0), (.ref b185), (.ref b185)])) _
        refine XS.iloadN X185.here hx rfl (hb hby at_56) rfl ?_
        show Steps p.tables e below (T185.setTop (mkF m 57 #[.val (.int x0), .val (.int x1), .val (.int x2), .val (.long x3), .second, .val (.int x4), .val (.int x5), .val (.int (x4 &&& (7 : Int32))), .val (.int (x5 &&& (7 : Int32))), .val (.ref b104), .val (.ref b108), .unset, .unset] [(.int x2), (.int x1), (.int x0), (.ref b185), (.ref b185)])) _
        refine XS.lloadN X185.here hx rfl (hb hby at_57) rfl ?_
        show Steps p.tables e below (T185.setTop (mkF m 58 #[.val (.int x0), .val (.int x1), .val (.int x2), .val (.long x3), .second, .val (.int x4), .val (.int x5), .val (.int (x4 &&& (7 : Int32))), .val (.int (x5 &&& (7 : Int32))), .val (.ref b104), .val (.ref b108), .unset, .unset] [(.long x3), (.int x2), (.int x1), (.int x0), (.ref b185), (.ref b185)])) _
        refine XS.aload X185.here hx rfl (hb hby at_58) rfl rfl ?_
        show Steps p.tables e below (T185.setTop (mkF m 60 #[.val (.int x0), .val (.int x1), .val (.int x2), .val (.long x3), .second, .val (.int x4), .val (.int x5), .val (.int (x4 &&& (7 : Int32))), .val (.int (x5 &&& (7 : Int32))), .val (.ref b104), .val (.ref b108), .unset, .unset] [(.ref b104), (.long x3), (.int x2), (.int x1), (.int x0), (.ref b185), (.ref b185)])) _
        refine XS.aload X185.here hx rfl (hb hby at_60) rfl rfl ?_
        show Steps p.tables e below (T185.setTop (mkF m 62 #[.val (.int x0), .val (.int x1), .val (.int x2), .val (.long x3), .second, .val (.int x4), .val (.int x5), .val (.int (x4 &&& (7 : Int32))), .val (.int (x5 &&& (7 : Int32))), .val (.ref b104), .val (.ref b108), .unset, .unset] [(.ref b108), (.ref b104), (.long x3), (.int x2), (.int x1), (.int x0), (.ref b185), (.ref b185)])) _
        refine st191.trans ?_
        show Steps p.tables e below (T191.setTop (mkF m 65 #[.val (.int x0), .val (.int x1), .val (.int x2), .val (.long x3), .second, .val (.int x4), .val (.int x5), .val (.int (x4 &&& (7 : Int32))), .val (.int (x5 &&& (7 : Int32))), .val (.ref b104), .val (.ref b108), .unset, .unset] [(.ref b185)])) _
        refine XS.astore X191.here hx rfl (hb hby at_65) rfl rfl (l' := #[.val (.int x0), .val (.int x1), .val (.int x2), .val (.long x3), .second, .val (.int x4), .val (.int x5), .val (.int (x4 &&& (7 : Int32))), .val (.int (x5 &&& (7 : Int32))), .val (.ref b104), .val (.ref b108), .val (.ref b185), .unset]) rfl ?_
        show Steps p.tables e below (T191.setTop (mkF m 67 #[.val (.int x0), .val (.int x1), .val (.int x2), .val (.long x3), .second, .val (.int x4), .val (.int x5), .val (.int (x4 &&& (7 : Int32))), .val (.int (x5 &&& (7 : Int32))), .val (.ref b104), .val (.ref b108), .val (.ref b185), .unset] [])) _
        refine XS.iload X191.here hx rfl (hb hby at_67) rfl ?_
        exact kk)
      obtain ⟨cq199, kq199, q199a, q199b, q199c⟩ := isOf hZ (rfl : T191.heap = T191.heap) f197
      obtain ⟨vv199, _, ⟨T199, L199, k199, n199⟩, -, X199, ⟨Lc199, hQ199, l199, y199, z199⟩, st199⟩ := X191.virtualBack hx (y := (⟨"com/example/proxy_to_stub/proxytostub/transport/Frame", "carriesObjects", "()Z"⟩ : MethodName)) (z := (⟨"com/example/proxy_to_stub/proxytostub/transport/Frame", "carriesObjects", "()Z"⟩ : MethodName)) hown (mvT hZ (hw _ (List.mem_of_getElem? (i := 31) rfl))) (mvT hZ (hw _ (List.mem_of_getElem? (i := 32) rfl))) (notFace_of_selects (args := #[]) (mvT hZ (hw _ (List.mem_of_getElem? (i := 34) rfl)))) (mvT hZ (hw _ (List.mem_of_getElem? (i := 34) rfl))) (mvT hZ (hw _ (List.mem_of_getElem? (i := 33) rfl))) (by decide) (backOf (W := 0) (rm_co l Z a0 hw [] b185 b104 (x4 &&& (7 : Int32)) T191.heap n0 f192 Fo191 f195) hZ (hw _ (List.mem_of_getElem? (i := 35) rfl)) (hw _ (List.mem_of_getElem? (i := 3) rfl)) (by decide) (by decide)) q199a q199c (g := (mkF m 81 #[.val (.int x0), .val (.int x1), .val (.int x2), .val (.long x3), .second, .val (.int x4), .val (.int x5), .val (.int (x4 &&& (7 : Int32))), .val (.int (x5 &&& (7 : Int32))), .val (.ref b104), .val (.ref b108), .val (.ref b185), .val (.int (0 : Int32))] [(.ref b185)])) rfl (by rw [hml]; rfl) (Steps.refl _) (argsL := []) (rest := []) (lenOf own_pd_2 rfl) rfl (by show 2 * 0 + _ ≤ _; exact Nat.le_of_eq rfl) (hb hby at_81) (fun _ _ => ⟨rfl, (rfl : T191.heap = T191.heap), (by decide : 3 + 0 ≤ _), (by decide : 23 + 0 ≤ _)⟩)
      dsimp only [Pt.U, Pt.locs, Pt.cells, Pt.slots] at X199 l199 y199 z199 st199 hQ199
      subst l199 y199 z199
      rw [if_neg hc28] at hQ199
      obtain ⟨rfl, N199q, e199⟩ := hQ199
      have N199 := Fr.app N191 N199q
      have pre200 : ∀ t, Steps p.tables e below (T199.setTop (mkF m 86 #[.val (.int x0), .val (.int x1), .val (.int x2), .val (.long x3), .second, .val (.int x4), .val (.int x5), .val (.int (x4 &&& (7 : Int32))), .val (.int (x5 &&& (7 : Int32))), .val (.ref b104), .val (.ref b108), .val (.ref b185), .val (.int (0 : Int32))] [(.int (0 : Int32)), (.int (0 : Int32))])) t → Steps p.tables e below (s₁.setTop (entryFrame m #[(.int x0), (.int x1), (.int x2), (.long x3), (.int x4), (.int x5)] maxLocals)) t := fun tt kk => pre198 tt (by
        show Steps p.tables e below (T191.setTop (mkF m 69 #[.val (.int x0), .val (.int x1), .val (.int x2), .val (.long x3), .second, .val (.int x4), .val (.int x5), .val (.int (x4 &&& (7 : Int32))), .val (.int (x5 &&& (7 : Int32))), .val (.ref b104), .val (.ref b108), .val (.ref b185), .unset] [(.int (x4 &&& (7 : Int32)))])) _
        refine XS.ifYes X191.here hx rfl (pc0 := 69) (pc' := 76) rfl (hb hby at_69) rfl ((if0 _ _).trans (teq (own_zero hc28 (own_mk x4 7 (k := 3) (by decide) (by decide)).1)).1) (by decide) (by decide) ?_
        show Steps p.tables e below (T191.setTop (mkF m 76 #[.val (.int x0), .val (.int x1), .val (.int x2), .val (.long x3), .second, .val (.int x4), .val (.int x5), .val (.int (x4 &&& (7 : Int32))), .val (.int (x5 &&& (7 : Int32))), .val (.ref b104), .val (.ref b108), .val (.ref b185), .unset] [])) _
        refine XS.iconst X191.here hx rfl (hb hby at_76) ?_
        show Steps p.tables e below (T191.setTop (mkF m 77 #[.val (.int x0), .val (.int x1), .val (.int x2), .val (.long x3), .second, .val (.int x4), .val (.int x5), .val (.int (x4 &&& (7 : Int32))), .val (.int (x5 &&& (7 : Int32))), .val (.ref b104), .val (.ref b108), .val (.ref b185), .unset] [(.int (0 : Int32))])) _
        refine XS.istore X191.here hx rfl (hb hby at_77) rfl (l' := #[.val (.int x0), .val (.int x1), .val (.int x2), .val (.long x3), .second, .val (.int x4), .val (.int x5), .val (.int (x4 &&& (7 : Int32))), .val (.int (x5 &&& (7 : Int32))), .val (.ref b104), .val (.ref b108), .val (.ref b185), .val (.int (0 : Int32))]) rfl ?_
        show Steps p.tables e below (T191.setTop (mkF m 79 #[.val (.int x0), .val (.int x1), .val (.int x2), .val (.long x3), .second, .val (.int x4), .val (.int x5), .val (.int (x4 &&& (7 : Int32))), .val (.int (x5 &&& (7 : Int32))), .val (.ref b104), .val (.ref b108), .val (.ref b185), .val (.int (0 : Int32))] [])) _
        refine XS.aload X191.here hx rfl (hb hby at_79) rfl rfl ?_
        show Steps p.tables e below (T191.setTop (mkF m 81 #[.val (.int x0), .val (.int x1), .val (.int x2), .val (.long x3), .second, .val (.int x4), .val (.int x5), .val (.int (x4 &&& (7 : Int32))), .val (.int (x5 &&& (7 : Int32))), .val (.ref b104), .val (.ref b108), .val (.ref b185), .val (.int (0 : Int32))] [(.ref b185)])) _
        refine st199.trans ?_
        show Steps p.tables e below (T199.setTop (mkF m 84 #[.val (.int x0), .val (.int x1), .val (.int x2), .val (.long x3), .second, .val (.int x4), .val (.int x5), .val (.int (x4 &&& (7 : Int32))), .val (.int (x5 &&& (7 : Int32))), .val (.ref b104), .val (.ref b108), .val (.ref b185), .val (.int (0 : Int32))] [(.int (0 : Int32))])) _
        refine XS.iload X199.here hx rfl (hb hby at_84) rfl ?_
        exact kk)
      obtain ⟨fs, hr, hrun, hended, hW, hsame⟩ := X199.leave (v := some (.int (1 : Int32))) (fun h => by rw [Bd.returns] at h; cases h)
      refine ⟨_, _, pre200 _ ?_, hrun, hended, _, _, rfl, ?_, ⟨_, rfl⟩, hW, hsame.mono (by decide) (by decide)⟩
      · show Steps p.tables e below (T199.setTop (mkF m 86 #[.val (.int x0), .val (.int x1), .val (.int x2), .val (.long x3), .second, .val (.int x4), .val (.int x5), .val (.int (x4 &&& (7 : Int32))), .val (.int (x5 &&& (7 : Int32))), .val (.ref b104), .val (.ref b108), .val (.ref b185), .val (.int (0 : Int32))] [(.int (0 : Int32)), (.int (0 : Int32))])) _
        refine XS.icmpNo X199.here hx rfl (hb hby at_86) rfl (teq (by decide : (0 : Int32) = (0 : Int32))).2 ?_
        show Steps p.tables e below (T199.setTop (mkF m 89 #[.val (.int x0), .val (.int x1), .val (.int x2), .val (.long x3), .second, .val (.int x4), .val (.int x5), .val (.int (x4 &&& (7 : Int32))), .val (.int (x5 &&& (7 : Int32))), .val (.ref b104), .val (.ref b108), .val (.ref b185), .val (.int (0 : Int32))] [])) _
        refine XS.iconst X199.here hx rfl (hb hby at_89) ?_
        show Steps p.tables e below (T199.setTop (mkF m 90 #[.val (.int x0), .val (.int x1), .val (.int x2), .val (.long x3), .second, .val (.int x4), .val (.int x5), .val (.int (x4 &&& (7 : Int32))), .val (.int (x5 &&& (7 : Int32))), .val (.ref b104), .val (.ref b108), .val (.ref b185), .val (.int (0 : Int32))] [(.int (1 : Int32))])) _
        refine XS.goto X199.here hx rfl (pc0 := 90) (pc' := 94) rfl (hb hby at_90) (by decide) (by decide) ?_
        show Steps p.tables e below (T199.setTop (mkF m 94 #[.val (.int x0), .val (.int x1), .val (.int x2), .val (.long x3), .second, .val (.int x4), .val (.int x5), .val (.int (x4 &&& (7 : Int32))), .val (.int (x5 &&& (7 : Int32))), .val (.ref b104), .val (.ref b108), .val (.ref b185), .val (.int (0 : Int32))] [(.int (1 : Int32))])) _
        exact retN X199 hx (t := .boolean) Bd.returns (by simp) (hb hby at_94) hr
      · exact ⟨rfl, N199⟩
set_option maxRecDepth 65536 in
set_option maxHeartbeats 40000000 in
theorem comes_1 {Post : Tables → Env → Array Value → State → Outcome → State → Prop} (hpost : ∀ tb e args s v u, (limb_1_1.after args s (.returned v) u = true ∧ limb_1_2.after args s (.returned v) u = true ∧ True) → FrameEnd s (.returned v) u (Jvm.fieldLocs frame_1_writes args s ++ Jvm.arrayLocs frame_1_arrays args s ++ Jvm.staticLocs frame_1_statics s) 16 128 → Post tb e args s (.returned v) u) :
    ArmFor flags0 classFile x code maxLocals ret World_1 tables_1 room_1 Calls_1 rest_1 Pre_1 Post := by
  intro l hfl _ _ p e ha hc hk s m args below hf hA hF happ hP
  obtain ⟨hcalls, hrest, hpre⟩ := hP
  obtain ⟨-, -, -, hnamed, -, -, -, hat⟩ := (Spec.applies_iff hf).mp happ
  obtain ⟨hg, hn⟩ := and_e (Cond.before_iff.mp (show (Jvm.Cond.and given_1 narrow_1).before args s = true from hpre))
  obtain ⟨g0, g0r⟩ := and_e hg
  obtain ⟨g1, g1r⟩ := and_e g0r
  obtain ⟨g2, g2r⟩ := and_e g1r
  obtain ⟨g3, g3r⟩ := and_e g2r
  obtain ⟨g4, g4r⟩ := and_e g3r
  obtain ⟨g5, g5r⟩ := and_e g4r
  obtain ⟨w0_, w1_, w2_, w3_, w4_, w5_, rfl⟩ : ∃ w0_ w1_ w2_ w3_ w4_ w5_ : Value, args = #[w0_, w1_, w2_, w3_, w4_, w5_] := by
    have hs : args.size = 6 := by simpa [Cond.value, given_1] using g0
    obtain ⟨L⟩ := args
    match L, hs with
    | [w0_, w1_, w2_, w3_, w4_, w5_], _ => exact ⟨w0_, w1_, w2_, w3_, w4_, w5_, rfl⟩
  have hw := fun d (hd : d ∈ tables_1) => atoms_spec (ws := Jvm.Cond.code x code maxLocals ret :: tables_1) hat d (List.mem_cons_of_mem _ hd)
  have hfit : Fit s := fun {y c} hc i hi => by
    obtain ⟨ha, rfl⟩ := Array.getElem?_eq_some_iff.mp hc
    have q := List.all_eq_true.mp ((Array.all_eq_true_iff_forall_mem.mp hF) _ (Array.getElem_mem ha)) i (List.mem_range.mpr hi)
    simpa [Array.getElem?_eq_getElem hi] using q
  obtain ⟨i0, ei0⟩ := is_v g1
  obtain rfl : w0_ = (.int i0) := Option.some.inj ei0
  obtain ⟨i1, ei1⟩ := is_v g2
  obtain rfl : w1_ = (.int i1) := Option.some.inj ei1
  obtain ⟨i2, ei2⟩ := is_v g3
  obtain rfl : w2_ = (.int i2) := Option.some.inj ei2
  obtain ⟨i3, ei3⟩ := isL_v g4
  obtain rfl : w3_ = (.long i3) := Option.some.inj ei3
  obtain ⟨i4, ei4⟩ := is_v g5
  obtain rfl : w4_ = (.int i4) := Option.some.inj ei4
  obtain ⟨i5, ei5⟩ := is_v g5r
  obtain rfl : w5_ = (.int i5) := Option.some.inj ei5
  obtain ⟨n0, n0r⟩ := and_e hn
  obtain ⟨em, eve⟩ := arr_v n0
  have SE : Sta s s.heap "com/example/proxy_to_stub/proxytostub/transport/Frame" "EMPTY" "[B" (.ref em) := Sta.start eve (Or.inr ⟨(hw _ (List.mem_of_getElem? (i := 3) rfl)), (hw _ (List.mem_of_getElem? (i := 8) rfl))⟩)
  obtain ⟨cl, AR⟩ := Arr.start eve n0
  have SZ := own_size (own_len eve AR n0r) (by decide)
  obtain ⟨n, o, h1, h2, h3, _, L, rfl, ⟨rfl, N⟩, hq⟩ := rm0 l s _ hw tables_1 i0 i1 i2 i3 i4 i5 em s.heap s.heap.size (Nat.le_refl _) (Old.start s) SE ⟨cl, AR, SZ, by decide⟩ p e ha hc hk s m _ below hf ((Spec.applies_iff_loose hf).mp happ).1 ⟨rfl, State.Warmed39.refl s, rfl⟩ trivial
  refine ⟨n, _, h1, h2, h3, hpost _ _ _ _ _ _ ⟨Cond.after_iff.mpr rfl, Cond.after_iff.mpr (eq_i res_at (Term.int_eval (1)) rfl), trivial⟩ ⟨hq.1, hq.2.1, (hq.2.2.sift fun y hy => Or.inr (N y hy)).mono (by decide) (by decide)⟩⟩
theorem main_1_1 : Claimed_1_1 := comes_1 fun _ _ _ _ _ _ h hF => ⟨h.1, hF⟩
theorem main_1_2 : Claimed_1_2 := comes_1 fun _ _ _ _ _ _ h hF => ⟨h.2.1, hF⟩
end Jvm.Pilot.@@N@@
namespace Jvm.Pilot.@@N@@
open Jvm Jvm.ClassFile Sem Op Lib Jvm.Free Jvm.Stand Jvm.Pilot.@@N@@.Jvm.D
/-! MADE BY PROGRAM (witnessworld.py) out of the Statement's table words and the real class files: 9 classes; the members and pool entries that the words name. The judged class is class 1, her method 1. -/
namespace start1
open Jvm.ClassFile
def u (s : String) : CpInfo := .utf8 (stringToUtf16 s)
/-- a pool by its gaps: so many unusable entries, then the entry; so many at the end -/
def gap : Nat → List CpInfo → List CpInfo
  | 0, r => r
  | n + 1, r => .unusable :: gap n r
def poolList (es : List (Nat × CpInfo)) (last : Nat) : List CpInfo := es.foldr (fun e r => gap e.1 (e.2 :: r)) (gap last [])
def pool (es : List (Nat × CpInfo)) (last : Nat) : Array CpInfo := ⟨poolList es last⟩
def fileOf (pool : Array CpInfo) (this : Nat) (attrs : Array Attribute := #[]) (ms : Array MethodInfo := #[]) (fl : Nat := 33) (sup : Nat := 0) (ifs : Array Nat := #[]) (fds : Array FieldInfo := #[]) : ClassFile where
  minorVersion := 0
  majorVersion := 65
  constantPool := pool
  accessFlags := fl
  thisClass := this
  superClass := sup
  interfaces := ifs
  fields := fds
  methods := ms
  attributes := attrs
def plain (name : String) (sup : Option ClassId) : Class where
  name := name
  kind := .ordinary
  loader := none
  accessFlags := 33
  super := sup
  interfaces := #[]
  cf := none
  fields := #[]
  methods := #[]
  instanceTypes := #[]
  staticTypes := #[]
  resolved := #[]
  callSites := []
  init := .initialized
  statics := none
  mirror := none

def pool0 : Array CpInfo := pool [(5, u "<init>"), (0, u "()V"), (1, .class_ 10), (1, u "java/lang/Object")] 113

def k0c0 : Code := { maxStack := 0, maxLocals := 1, code := object_method_1_code, exceptionTable := #[], attributes := #[] }
def k0m0 : Method := { name := "<init>", desc := "()V", sig := { parameters := [], returnType := none }, accessFlags := 1, code := some k0c0 }
/-- java/lang/Object -/
def k0 : Class := { plain "java/lang/Object" none with
  accessFlags := 33
  interfaces := #[]
  cf := some (fileOf pool0 8 #[] #[{ accessFlags := 1, nameIndex := 5, descriptorIndex := 6, attributes := #[] }] 33 0 #[] #[])
  fields := #[]
  methods := #[k0m0]
  instanceTypes := #[]
  staticTypes := #[]
  resolved := Array.replicate 124 none
  statics := none }

def pool1 : Array CpInfo := pool [(2, .class_ 4), (1, u "java/lang/Object"), (0, u "<init>"), (0, u "()V"), (0, .class_ 8), (0, u "com/example/proxy_to_stub/proxytostub/transport/Frame"), (0, .methodref 7 10), (0, .nameAndType 5 11), (0, u "(IIIJ[B[B)V"), (0, .methodref 7 13), (0, .nameAndType 14 15), (0, u "carriesObjects"), (0, u "()Z"), (0, .class_ 17), (0, u "com/example/proxy_to_stub/proxytostub/transport/FrameCarriesObjectsPinLaw"), (2, u "law"), (0, u "(IIIJII)Z")] 5

def k1m0 : Method := { name := "<init>", desc := "()V", sig := { parameters := [], returnType := none }, accessFlags := 1, code := none }
def k1c1 : Code := { maxStack := 9, maxLocals := 13, code := code, exceptionTable := #[], attributes := #[] }
def k1m1 : Method := { name := "law", desc := "(IIIJII)Z", sig := { parameters := [.int, .int, .int, .long, .int, .int], returnType := some .boolean }, accessFlags := 9, code := some k1c1 }
/-- com/example/proxy_to_stub/proxytostub/transport/FrameCarriesObjectsPinLaw -/
def k1 : Class := { plain "com/example/proxy_to_stub/proxytostub/transport/FrameCarriesObjectsPinLaw" (some 0) with
  accessFlags := 49
  interfaces := #[]
  cf := some (fileOf pool1 16 #[] #[{ accessFlags := 1, nameIndex := 5, descriptorIndex := 6, attributes := #[] }, { accessFlags := 9, nameIndex := 20, descriptorIndex := 21, attributes := #[] }] 49 2 #[] #[])
  fields := #[]
  methods := #[k1m0, k1m1]
  instanceTypes := #[]
  staticTypes := #[]
  resolved := Array.replicate 27 none
  statics := none }

def pool2 : Array CpInfo := pool [(3, .class_ 4), (0, u "com/example/proxy_to_stub/proxytostub/transport/Frame"), (4, .fieldref 3 10), (0, .nameAndType 11 12), (0, u "EMPTY"), (0, u "[B"), (0, .methodref 3 14), (0, .nameAndType 15 16), (0, u "<init>"), (0, u "(IIIJ[B[BI[B)V"), (0, .methodref 18 19), (0, .class_ 20), (0, .nameAndType 15 21), (0, u "java/lang/Object"), (0, u "()V"), (0, .fieldref 3 23), (0, .nameAndType 24 25), (0, u "kind"), (0, u "I"), (0, .fieldref 3 27), (0, .nameAndType 28 25), (0, u "code"), (0, .fieldref 3 30), (0, .nameAndType 31 25), (0, u "flags"), (0, .fieldref 3 33), (0, .nameAndType 34 35), (0, u "target"), (0, u "J"), (0, .fieldref 3 37), (0, .nameAndType 38 12), (0, u "objects"), (0, .fieldref 3 40), (0, .nameAndType 41 12), (0, u "data"), (0, .fieldref 3 43), (0, .nameAndType 44 25), (0, u "dataLength"), (0, .fieldref 3 46), (0, .nameAndType 47 12), (0, u "tail"), (2, u "(IIIJ[B[B)V"), (113, .class_ 166), (1, u "com/example/proxy_to_stub/proxytostub/transport/Frame$SharedTails"), (5, u "senderReadsSharedTails"), (0, u "Z"), (21, u "()Z"), (47, u "CALL"), (2, u "REPLY"), (1, u "NOT_HANDLED"), (1, u "FAILED"), (1, u "PUBLISHED"), (1, u "QUEUE_ID"), (1, u "AWAIT_QUEUE"), (1, u "HOLD"), (1, u "RELEASE"), (1, u "RECEIVED"), (1, u "SENDER"), (1, u "MAX_BODY_BYTES"), (0, u "OVERHEAD_BYTES"), (1, u "FIRST_RESERVED_BYTES"), (0, u "GROWTH_FACTOR"), (0, u "WITH_TAIL"), (0, u "SHARED_TAIL"), (0, u "NEW_REGION"), (0, u "READS_SHARED_TAILS"), (0, u "MIN_SHARED_TAIL_BYTES"), (0, u "LAYOUT_BITS"), (0, u "HEADER_BYTES"), (1, u "HEADER_CUT_SHORT"), (0, u "Ljava/lang/String;"), (38, u "carriesObjects")] 36

def k2c0 : Code := { maxStack := 10, maxLocals := 8, code := prog_21_method_1_code, exceptionTable := #[], attributes := #[] }
def k2m0 : Method := { name := "<init>", desc := "(IIIJ[B[B)V", sig := { parameters := [.int, .int, .int, .long, (.array .byte), (.array .byte)], returnType := none }, accessFlags := 0, code := some k2c0 }
def k2c1 : Code := { maxStack := 3, maxLocals := 10, code := prog_21_method_2_code, exceptionTable := #[], attributes := #[] }
def k2m1 : Method := { name := "<init>", desc := "(IIIJ[B[BI[B)V", sig := { parameters := [.int, .int, .int, .long, (.array .byte), (.array .byte), .int, (.array .byte)], returnType := none }, accessFlags := 2, code := some k2c1 }
def k2c2 : Code := { maxStack := 1, maxLocals := 1, code := prog_21_method_37_code, exceptionTable := #[], attributes := #[] }
def k2m2 : Method := { name := "carriesObjects", desc := "()Z", sig := { parameters := [], returnType := some .boolean }, accessFlags := 0, code := some k2c2 }
/-- com/example/proxy_to_stub/proxytostub/transport/Frame -/
def k2 : Class := { plain "com/example/proxy_to_stub/proxytostub/transport/Frame" (some 0) with
  accessFlags := 32
  interfaces := #[]
  cf := some (fileOf pool2 3 #[.nestMembers #[164]] #[{ accessFlags := 0, nameIndex := 15, descriptorIndex := 50, attributes := #[] }, { accessFlags := 2, nameIndex := 15, descriptorIndex := 16, attributes := #[] }, { accessFlags := 0, nameIndex := 319, descriptorIndex := 195, attributes := #[] }] 32 18 #[] #[{ accessFlags := 24, nameIndex := 243, descriptorIndex := 25, attributes := #[] }, { accessFlags := 24, nameIndex := 246, descriptorIndex := 25, attributes := #[] }, { accessFlags := 24, nameIndex := 248, descriptorIndex := 25, attributes := #[] }, { accessFlags := 24, nameIndex := 250, descriptorIndex := 25, attributes := #[] }, { accessFlags := 24, nameIndex := 252, descriptorIndex := 25, attributes := #[] }, { accessFlags := 24, nameIndex := 254, descriptorIndex := 25, attributes := #[] }, { accessFlags := 24, nameIndex := 256, descriptorIndex := 25, attributes := #[] }, { accessFlags := 24, nameIndex := 258, descriptorIndex := 25, attributes := #[] }, { accessFlags := 24, nameIndex := 260, descriptorIndex := 25, attributes := #[] }, { accessFlags := 24, nameIndex := 262, descriptorIndex := 25, attributes := #[] }, { accessFlags := 24, nameIndex := 264, descriptorIndex := 25, attributes := #[] }, { accessFlags := 24, nameIndex := 266, descriptorIndex := 25, attributes := #[] }, { accessFlags := 26, nameIndex := 267, descriptorIndex := 25, attributes := #[] }, { accessFlags := 26, nameIndex := 269, descriptorIndex := 25, attributes := #[] }, { accessFlags := 26, nameIndex := 270, descriptorIndex := 25, attributes := #[] }, { accessFlags := 24, nameIndex := 271, descriptorIndex := 25, attributes := #[] }, { accessFlags := 24, nameIndex := 272, descriptorIndex := 25, attributes := #[] }, { accessFlags := 24, nameIndex := 273, descriptorIndex := 25, attributes := #[] }, { accessFlags := 24, nameIndex := 274, descriptorIndex := 25, attributes := #[] }, { accessFlags := 24, nameIndex := 275, descriptorIndex := 25, attributes := #[] }, { accessFlags := 26, nameIndex := 276, descriptorIndex := 25, attributes := #[] }, { accessFlags := 26, nameIndex := 277, descriptorIndex := 25, attributes := #[] }, { accessFlags := 26, nameIndex := 279, descriptorIndex := 280, attributes := #[] }, { accessFlags := 26, nameIndex := 11, descriptorIndex := 12, attributes := #[] }, { accessFlags := 18, nameIndex := 24, descriptorIndex := 25, attributes := #[] }, { accessFlags := 18, nameIndex := 28, descriptorIndex := 25, attributes := #[] }, { accessFlags := 18, nameIndex := 31, descriptorIndex := 25, attributes := #[] }, { accessFlags := 18, nameIndex := 34, descriptorIndex := 35, attributes := #[] }, { accessFlags := 18, nameIndex := 38, descriptorIndex := 12, attributes := #[] }, { accessFlags := 18, nameIndex := 41, descriptorIndex := 12, attributes := #[] }, { accessFlags := 18, nameIndex := 44, descriptorIndex := 25, attributes := #[] }, { accessFlags := 18, nameIndex := 47, descriptorIndex := 12, attributes := #[] }, { accessFlags := 2, nameIndex := 172, descriptorIndex := 173, attributes := #[] }])
  fields := #[{ name := "CALL", type := .int, accessFlags := 24, slot := 0, constantValue := 0 }, { name := "REPLY", type := .int, accessFlags := 24, slot := 1, constantValue := 0 }, { name := "NOT_HANDLED", type := .int, accessFlags := 24, slot := 2, constantValue := 0 }, { name := "FAILED", type := .int, accessFlags := 24, slot := 3, constantValue := 0 }, { name := "PUBLISHED", type := .int, accessFlags := 24, slot := 4, constantValue := 0 }, { name := "QUEUE_ID", type := .int, accessFlags := 24, slot := 5, constantValue := 0 }, { name := "AWAIT_QUEUE", type := .int, accessFlags := 24, slot := 6, constantValue := 0 }, { name := "HOLD", type := .int, accessFlags := 24, slot := 7, constantValue := 0 }, { name := "RELEASE", type := .int, accessFlags := 24, slot := 8, constantValue := 0 }, { name := "RECEIVED", type := .int, accessFlags := 24, slot := 9, constantValue := 0 }, { name := "SENDER", type := .int, accessFlags := 24, slot := 10, constantValue := 0 }, { name := "MAX_BODY_BYTES", type := .int, accessFlags := 24, slot := 11, constantValue := 0 }, { name := "OVERHEAD_BYTES", type := .int, accessFlags := 26, slot := 12, constantValue := 0 }, { name := "FIRST_RESERVED_BYTES", type := .int, accessFlags := 26, slot := 13, constantValue := 0 }, { name := "GROWTH_FACTOR", type := .int, accessFlags := 26, slot := 14, constantValue := 0 }, { name := "WITH_TAIL", type := .int, accessFlags := 24, slot := 15, constantValue := 0 }, { name := "SHARED_TAIL", type := .int, accessFlags := 24, slot := 16, constantValue := 0 }, { name := "NEW_REGION", type := .int, accessFlags := 24, slot := 17, constantValue := 0 }, { name := "READS_SHARED_TAILS", type := .int, accessFlags := 24, slot := 18, constantValue := 0 }, { name := "MIN_SHARED_TAIL_BYTES", type := .int, accessFlags := 24, slot := 19, constantValue := 0 }, { name := "LAYOUT_BITS", type := .int, accessFlags := 26, slot := 20, constantValue := 0 }, { name := "HEADER_BYTES", type := .int, accessFlags := 26, slot := 21, constantValue := 0 }, { name := "HEADER_CUT_SHORT", type := (.object "java/lang/String"), accessFlags := 26, slot := 22, constantValue := 0 }, { name := "EMPTY", type := (.array .byte), accessFlags := 26, slot := 23, constantValue := 0 }, { name := "kind", type := .int, accessFlags := 18, slot := 0, constantValue := 0 }, { name := "code", type := .int, accessFlags := 18, slot := 1, constantValue := 0 }, { name := "flags", type := .int, accessFlags := 18, slot := 2, constantValue := 0 }, { name := "target", type := .long, accessFlags := 18, slot := 3, constantValue := 0 }, { name := "objects", type := (.array .byte), accessFlags := 18, slot := 4, constantValue := 0 }, { name := "data", type := (.array .byte), accessFlags := 18, slot := 5, constantValue := 0 }, { name := "dataLength", type := .int, accessFlags := 18, slot := 6, constantValue := 0 }, { name := "tail", type := (.array .byte), accessFlags := 18, slot := 7, constantValue := 0 }, { name := "senderReadsSharedTails", type := .boolean, accessFlags := 2, slot := 8, constantValue := 0 }]
  methods := #[k2m0, k2m1, k2m2]
  instanceTypes := #[.int, .int, .int, .long, (.array .byte), (.array .byte), .int, (.array .byte), .boolean]
  staticTypes := #[.int, .int, .int, .int, .int, .int, .int, .int, .int, .int, .int, .int, .int, .int, .int, .int, .int, .int, .int, .int, .int, .int, (.object "java/lang/String"), (.array .byte)]
  resolved := Array.replicate 356 none
  statics := some 0 }

def pool3 : Array CpInfo := pool [(1, u "java/lang/Cloneable"), (0, .class_ 1), (0, u "java/lang/Object"), (0, .class_ 3)] 3

/-- java/lang/Cloneable -/
def k3 : Class := { plain "java/lang/Cloneable" (some 0) with
  accessFlags := 1537
  interfaces := #[]
  cf := some (fileOf pool3 2 #[] #[] 1537 4 #[] #[])
  fields := #[]
  methods := #[]
  instanceTypes := #[]
  staticTypes := #[]
  resolved := Array.replicate 8 none
  statics := none }

def pool4 : Array CpInfo := pool [(1, u "java/io/Serializable"), (0, .class_ 1), (0, u "java/lang/Object"), (0, .class_ 3)] 3

/-- java/io/Serializable -/
def k4 : Class := { plain "java/io/Serializable" (some 0) with
  accessFlags := 1537
  interfaces := #[]
  cf := some (fileOf pool4 2 #[] #[] 1537 4 #[] #[])
  fields := #[]
  methods := #[]
  instanceTypes := #[]
  staticTypes := #[]
  resolved := Array.replicate 8 none
  statics := none }

/-- the primitive byte -/
def k5 : Class := { plain "byte" none with kind := .primitive 'B', accessFlags := 0x411 }
/-- [B -/
def k6 : Class := { plain "[B" (some 0) with kind := .array 5 .byte, interfaces := #[3, 4], accessFlags := 1041 }

/-- the primitive int -/
def k7 : Class := { plain "int" none with kind := .primitive 'I', accessFlags := 0x411 }
/-- [I -/
def k8 : Class := { plain "[I" (some 0) with kind := .array 7 .int, interfaces := #[3, 4], accessFlags := 1041 }

def heap : Heap := #[{ cls := 2, slots := #[.int 0, .int 0, .int 0, .int 0, .int 0, .int 0, .int 0, .int 0, .int 0, .int 0, .int 0, .int 0, .int 0, .int 0, .int 0, .int 0, .int 0, .int 0, .int 0, .int 0, .int 0, .int 0, .null, .ref 1], vm := .statics 2 },
  { cls := 6, slots := #[], vm := .none }]
def classes : Array Class := #[k0, k1, k2, k3, k4, k5, k6, k7, k8]
def interned : List (Array UInt16 × Addr) := []
def slotsUsed : Nat := 24
def theMethod : MethodId := ⟨1, 1⟩
def args0 : Array Value := #[.int 5, .int 7, .int 3, .long 4, .int 5, .int 6]
def aboutOver (below : List Frame) : State where
  vm := { classes := classes, interned := interned.toArray }
  heap := heap
  slotsUsed := slotsUsed
  threads := #[{ frames := .invoking theMethod args0 :: below }]
def below0 : List Frame := [.native { method := ⟨0, 0⟩, args := #[] }]
def about1 : State := aboutOver below0
def p0 : Program := .bare "" "" ""
def e0 : Env := launch0.env 0 0 0
theorem w_frames : about1.frames = Frame.invoking theMethod args0 :: below0 := rfl
set_option maxRecDepth 65536 in
theorem w_args : argsFit about1.vm theMethod args0 = true := by decide +kernel
set_option maxRecDepth 65536 in
theorem w_heap : heapFits about1 = true := by decide +kernel
set_option maxRecDepth 65536 in
theorem w_runnable : about1.curStatus? = some .runnable := by decide +kernel
set_option maxRecDepth 65536 in
theorem w_alone : about1.alone = true := by decide +kernel
set_option maxRecDepth 65536 in
theorem w_named : about1.methodNamed? x = some theMethod := by decide +kernel
set_option maxRecDepth 65536 in
theorem w_hears : about1.hears theMethod below0 = true := by decide +kernel
set_option maxRecDepth 65536 in
theorem w_ripe : about1.ripe theMethod args0 below0 = true := by decide +kernel
theorem w_running : about1.status = .running := rfl
set_option maxRecDepth 65536 in
theorem w_room : about1.hasRoom e0.platform room_1 = true :=
  launch0.hasRoom_least _ room_1 (by decide +kernel) (by decide +kernel) (by decide +kernel) (by decide +kernel) (by decide +kernel) (by decide +kernel)
theorem allAtoms_all (ts : List Jvm.Cond) (a : Array Jvm.Value) (st : Jvm.State) : (allAtoms ts).before a st = ts.all (fun c => c.before a st) := by
  induction ts with
  | nil => rfl
  | cons c t ih =>
    show (Jvm.Cond.and c (allAtoms t)).before a st = _
    rw [Jvm.Cond.before_and, ih, List.all_cons]
def words1 : List Jvm.Cond := Jvm.Cond.code x code maxLocals ret :: tables_1
/-- a 'code' word, met by the world's own term for the bytes: nothing is compared byte by byte -/
theorem code_word {y : MethodName} {bytes : ByteArray} {mx : Nat} {rt : Option FieldType} {a : Array Value} {s : State} {m : MethodId} {meth : Method} {c : Code} (h1 : s.methodNamed? y = some m) (h2 : s.vm.method? m = some meth) (h3 : meth.code = some c) (h4 : c.code = bytes)
    (h5 : (c.maxLocals == mx && c.exceptionTable.isEmpty && decide (c.maxStack ≤ mostOperands) && decide (meth.sig.returnType = rt) && !meth.locks && decide (parseMethodDescriptor y.desc = some meth.sig)) = true) : (Jvm.Cond.code y bytes mx rt).before a s = true := by
  simp only [Bool.and_eq_true, beq_iff_eq, Bool.not_eq_true', decide_eq_true_eq] at h5
  obtain ⟨⟨⟨⟨⟨g1, g2⟩, g3⟩, g4⟩, g5⟩, g6⟩ := h5
  simp [Cond.before, Cond.holds, Cond.value, h1, h2, h3, h4, g1, g2, g3, g4, g5, g6]
def isCode : Jvm.Cond → Bool
  | .code _ _ _ _ => true
  | _ => false
theorem all_split {L : List Jvm.Cond} {P : Jvm.Cond → Bool} (h1 : L.all (fun c => isCode c || P c) = true) (h2 : ∀ c ∈ L.filter isCode, P c = true) : L.all P = true := by
  refine List.all_eq_true.mpr fun c hc => ?_
  have h := List.all_eq_true.mp h1 c hc
  rcases Bool.eq_false_or_eq_true (isCode c) with hi | hi
  · exact h2 c (List.mem_filter.mpr ⟨hc, hi⟩)
  · simpa [hi] using h
set_option maxRecDepth 65536 in
theorem w_c0 : (Jvm.Cond.code x code maxLocals ret).before args0 about1 = true := code_word (m := ⟨1, 1⟩) (meth := k1m1) (c := k1c1) (by decide +kernel) rfl rfl rfl (by decide +kernel)
set_option maxRecDepth 65536 in
theorem w_c1 : (Jvm.Cond.code ({ cls := "com/example/proxy_to_stub/proxytostub/transport/Frame", name := "<init>", desc := "(IIIJ[B[B)V" } : Jvm.MethodName) prog_21_method_1_code (8 : Nat) (Option.none : Option Jvm.ClassFile.FieldType)).before args0 about1 = true := code_word (m := ⟨2, 0⟩) (meth := k2m0) (c := k2c0) (by decide +kernel) rfl rfl rfl (by decide +kernel)
set_option maxRecDepth 65536 in
theorem w_c2 : (Jvm.Cond.code ({ cls := "com/example/proxy_to_stub/proxytostub/transport/Frame", name := "<init>", desc := "(IIIJ[B[BI[B)V" } : Jvm.MethodName) prog_21_method_2_code (10 : Nat) (Option.none : Option Jvm.ClassFile.FieldType)).before args0 about1 = true := code_word (m := ⟨2, 1⟩) (meth := k2m1) (c := k2c1) (by decide +kernel) rfl rfl rfl (by decide +kernel)
set_option maxRecDepth 65536 in
theorem w_c3 : (Jvm.Cond.code ({ cls := "java/lang/Object", name := "<init>", desc := "()V" } : Jvm.MethodName) object_method_1_code (1 : Nat) (Option.none : Option Jvm.ClassFile.FieldType)).before args0 about1 = true := code_word (m := ⟨0, 0⟩) (meth := k0m0) (c := k0c0) (by decide +kernel) rfl rfl rfl (by decide +kernel)
set_option maxRecDepth 65536 in
theorem w_c4 : (Jvm.Cond.code ({ cls := "com/example/proxy_to_stub/proxytostub/transport/Frame", name := "carriesObjects", desc := "()Z" } : Jvm.MethodName) prog_21_method_37_code (1 : Nat) (Option.some Jvm.ClassFile.FieldType.boolean)).before args0 about1 = true := code_word (m := ⟨2, 2⟩) (meth := k2m2) (c := k2c2) (by decide +kernel) rfl rfl rfl (by decide +kernel)
def codes1 : List Jvm.Cond := [Jvm.Cond.code x code maxLocals ret, Jvm.Cond.code ({ cls := "com/example/proxy_to_stub/proxytostub/transport/Frame", name := "<init>", desc := "(IIIJ[B[B)V" } : Jvm.MethodName) prog_21_method_1_code (8 : Nat) (Option.none : Option Jvm.ClassFile.FieldType), Jvm.Cond.code ({ cls := "com/example/proxy_to_stub/proxytostub/transport/Frame", name := "<init>", desc := "(IIIJ[B[BI[B)V" } : Jvm.MethodName) prog_21_method_2_code (10 : Nat) (Option.none : Option Jvm.ClassFile.FieldType), Jvm.Cond.code ({ cls := "java/lang/Object", name := "<init>", desc := "()V" } : Jvm.MethodName) object_method_1_code (1 : Nat) (Option.none : Option Jvm.ClassFile.FieldType), Jvm.Cond.code ({ cls := "com/example/proxy_to_stub/proxytostub/transport/Frame", name := "carriesObjects", desc := "()Z" } : Jvm.MethodName) prog_21_method_37_code (1 : Nat) (Option.some Jvm.ClassFile.FieldType.boolean)]
set_option maxRecDepth 65536 in
theorem codes_eq : words1.filter isCode = codes1 := rfl
theorem w_codes : ∀ c ∈ words1.filter isCode, c.before args0 about1 = true := by
  rw [codes_eq]
  intro c hc
  simp only [codes1, List.mem_cons, List.not_mem_nil, or_false] at hc
  rcases hc with rfl | rfl | rfl | rfl | rfl
  · exact w_c0
  · exact w_c1
  · exact w_c2
  · exact w_c3
  · exact w_c4
set_option maxRecDepth 65536 in
theorem w_t1 : (words1.take 24).all (fun c => isCode c || c.before args0 about1) = true := by decide +kernel
set_option maxRecDepth 65536 in
theorem w_t2 : (words1.drop 24).all (fun c => isCode c || c.before args0 about1) = true := by decide +kernel
theorem w_tables : (allAtoms (Jvm.Cond.code x code maxLocals ret :: tables_1)).before args0 about1 = true := by
  rw [allAtoms_all]
  show words1.all (fun c => c.before args0 about1) = true
  refine all_split ?_ w_codes
  rw [← List.take_append_drop 24 words1, List.all_append, w_t1, w_t2]
  rfl
set_option maxRecDepth 65536 in
theorem w_case : (Jvm.Cond.and given_1 narrow_1).before args0 about1 = true := by decide +kernel
theorem w_applies : (headSpec (Jvm.Cond.code x code maxLocals ret :: tables_1) room_1).applies x e0.platform about1 = true :=
  (Spec.applies_iff w_frames).mpr ⟨w_running, w_runnable, w_alone, w_named, w_hears, w_ripe, w_room, w_tables⟩
theorem atStart : AtStart classFile x code maxLocals ret World_1 tables_1 room_1 Calls_1 rest_1 Pre_1 launch0 p0 e0 about1 theMethod args0 below0 :=
  ⟨lists_1, trivial, launch0.admits_env _ _ _, launch0.least_env, fairChoices_fair.cas, fairChoices_fair.clock, w_frames, w_args, w_heap, w_applies, trivial, trivial, w_case⟩
end start1
theorem witness_1 : WitnessClaimed_1 := ⟨start1.p0, start1.e0, start1.about1, start1.theMethod, start1.args0, start1.below0, start1.atStart⟩
end Jvm.Pilot.@@N@@
