import JvmDerived
import JvmDerived.Pilot.@@N@@Statement
import JvmDerived.Pilot.@@N@@Code
set_option linter.unusedVariables false
set_option linter.unusedSimpArgs false
@@BLOCK:NumsL.lean.txt@@
namespace Jvm.Pilot.@@N@@
open Jvm Jvm.ClassFile Sem Op Lib Jvm.Free Jvm.Stand Jvm.LawKit Jvm.RoadKit Bundle Jvm.Pilot.@@N@@.Jvm.D
/-- what a body leaves that writes nothing: its value, no place written, the heap as it was -/
def QP (val : Value) (h0 : Heap) (n0 : Nat) (v : Option Value) (h : Heap) (L : List Loc) : Prop := v = some val ∧ Fr n0 L ∧ h = h0
/-- what the law leaves: true -/
def Q1 (n0 : Nat) (v : Option Value) (h : Heap) (L : List Loc) : Prop := v = some (.int 1) ∧ Fr n0 L
theorem own_eq_int {args : Array Value} {s : State} {t : Term} {k : Int32} (h : (Jvm.Cond.eq t (.int k)).value args s none s [] = some true) : t.eval args s none [] s = some (.int k) := by
  simp only [Cond.value, Term.eval] at h
  cases ht : t.eval args s none [] s with
  | none => simp [ht] at h
  | some x => cases x <;> simp [ht] at h ⊢; exact h
theorem own_fld {args : Array Value} {s : State} {t : Term} {a : Addr} {C n d : String} {k : Int32} (ev : t.eval args s none [] s = some (.ref a)) (h : (Jvm.Cond.eq (.field t C n d) (.int k)).value args s none s [] = some true) : Fld s s.heap a C n d (.int k) :=
  Fld.start ((fld_at ev).symm.trans (own_eq_int h))
theorem own_toInt32_inj {i j : Nat} (hi : i < 2 ^ 31) (hj : j < 2 ^ 31) (h : i.toInt32 = j.toInt32) : i = j := by
  have := congrArg Int32.toInt h
  rw [len_toInt hi, len_toInt hj] at this
  omega
theorem own_inj {Z : State} {h : Heap} {w : Nat → Addr} {n : Nat} (hn : n < 2 ^ 31) (F : ∀ i, i < n → Fld Z h (w i) "java/lang/Enum" "ordinal" "I" (.int i.toInt32)) : ∀ i j, i < n → j < n → w i = w j → i = j := fun i j hi hj e => by
  by_cases q : i = j
  · exact q
  · exact absurd e (Fld.ne (F i hi) (F j hj) fun h => q (own_toInt32_inj (by omega) (by omega) (Value.int.inj h)))
theorem own_i32 {i : Int32} {N : Nat} (hN : N < 2 ^ 31) (h0 : 0 ≤ i.toInt) (h1 : i.toInt < N) : ∃ k : Nat, k < N ∧ i = k.toInt32 := by
  refine ⟨i.toInt.toNat, by omega, Int32.toInt_inj.mp ?_⟩
  rw [len_toInt (by omega)]
  omega
theorem own_mod (x n : Int32) (N : Nat) (hN : n.toInt = N) (h : 0 < N) : ∃ k : Nat, k < N ∧ (x &&& (2147483647 : Int32)) % n = k.toInt32 := by
  have e1 : (x &&& (2147483647 : Int32)).toInt = x.toInt % 2 ^ 31 := Jvm.Kit.i32_mask x 2147483647 (k := 31) (by decide) (by decide)
  have e2 : ((x &&& (2147483647 : Int32)) % n).toInt = (x &&& (2147483647 : Int32)).toInt % n.toInt := Jvm.Kit.i32_rem_nonneg (by omega)
  have hlt := n.toInt_lt
  have h3 : 0 ≤ (x &&& (2147483647 : Int32)).toInt % n.toInt := Int.emod_nonneg _ (by omega)
  have h4 : (x &&& (2147483647 : Int32)).toInt % n.toInt < n.toInt := Int.emod_lt_of_pos _ (by omega)
  exact own_i32 (by omega) (by omega) (by omega)
theorem own_mask (x n : Int32) {k : Nat} (hk : k < 31) (hm : n.toBitVec.toNat = 2 ^ k - 1) : ∃ j : Nat, j < 2 ^ k ∧ x &&& n = j.toInt32 := by
  have e1 : (x &&& n).toInt = x.toInt % 2 ^ k := Jvm.Kit.i32_mask x n (k := k) (by omega) hm
  have hp : (2 : Nat) ^ k < 2 ^ 31 := Nat.pow_lt_pow_right (by decide) hk
  have hp1 : (0 : Int) < 2 ^ k := Int.pow_pos (by decide)
  have h3 : 0 ≤ x.toInt % 2 ^ k := Int.emod_nonneg _ (by omega)
  have h4 : x.toInt % 2 ^ k < 2 ^ k := Int.emod_lt_of_pos _ hp1
  refine own_i32 hp (by rw [e1]; exact h3) (by rw [e1]; push_cast; exact h4)
theorem own_lt_irrefl {a b : Int64} (h : a = b) : ¬ a < b ∧ ¬ b < a := by subst h; simp [Int64.lt_irrefl]
theorem own_lt_asymm {a b : Int64} (h : a < b) : ¬ b < a := Int64.lt_asymm h
theorem own_lt_total {a b : Int64} (h1 : ¬ a = b) (h2 : ¬ a < b) : b < a := by
  rw [Int64.lt_iff_toInt_lt] at h2 ⊢; rw [← Int64.toInt_inj] at h1; omega
theorem own_narrow (C : String) (v : Value) : narrow (.object C) v = v := by cases v <;> rfl
theorem own_cat {v : Value} (h : v.isRef = true) : v.category = 1 := by cases v <;> simp [Value.isRef] at h <;> rfl
theorem own_alike (s : State) : s.vm.Alike s.vm := (State.Warmed39.refl s).alike
theorem own_len {args : Array Value} {s : State} {t : Term} {b : Addr} {cl : Cell} {ty : FieldType} {k : Int32} (ev : t.eval args s none [] s = some (.ref b)) (A : Arr s s.heap b cl ty) (h : (Jvm.Cond.eq (.length t) (.int k)).value args s none s [] = some true) : cl.slots.size < 2 ^ 31 ∧ cl.slots.size.toInt32 = k := by
  have e := own_eq_int h
  have ha : s.arrayAt? b = some cl := Arr.fin (own_alike s) A
  by_cases hl : cl.slots.size < 2 ^ 31
  · rw [len_f ev ha hl] at e; exact ⟨hl, by simpa using e⟩
  · simp [Term.eval, ev, ha, hl] at e
theorem own_elem_ref {args : Array Value} {s : State} {t u : Term} {b a : Addr} {cl : Cell} {ty : FieldType} {j : Int32} (ev : t.eval args s none [] s = some (.ref b)) (A : Arr s s.heap b cl ty) (h : (Jvm.Cond.eq (.elem t (.int j)) u).value args s none s [] = some true) (hu : u.eval args s none [] s = some (.ref a)) : cl.slots[j.toNatClampNeg]? = some (.ref a) := by
  obtain ⟨x, y, h1, h2, k1, k2⟩ := cmp_v (Or.inl h)
  cases hu.symm.trans h2
  have k2' : (Value.ref a).isRef = true ∧ x.isRef = true := k2
  have q : x = .ref a := gotT (eq_R h1 h2 k2'.2 rfl) h
  subst q
  exact (elem_in h1 ev (Term.int_eval j) A.1).2
theorem own_elem_null {args : Array Value} {s : State} {t : Term} {b : Addr} {cl : Cell} {ty : FieldType} {j : Int32} (ev : t.eval args s none [] s = some (.ref b)) (A : Arr s s.heap b cl ty) (h : (Jvm.Cond.eq (.elem t (.int j)) .null).value args s none s [] = some true) : cl.slots[j.toNatClampNeg]? = some .null :=
  (elem_in (null_v h) ev (Term.int_eval j) A.1).2
theorem own_size {cl : Cell} {k : Int32} (h : cl.slots.size < 2 ^ 31 ∧ cl.slots.size.toInt32 = k) (hk : ¬ k < 0) : cl.slots.size = k.toNatClampNeg := by
  obtain ⟨h1, rfl⟩ := h
  have := len_toInt h1
  have h2 := nat_of hk
  omega
/-- an array of n places, whatever lies in them -/
def ALen (Z : State) (h : Heap) (a : Addr) (ty : FieldType) (n : Int32) : Prop := ∃ c : Cell, Arr Z h a c ty ∧ c.slots.size = n.toNatClampNeg ∧ ¬ n < 0
theorem ALen.lt {Z : State} {h : Heap} {a : Addr} {ty : FieldType} {n : Int32} (F : ALen Z h a ty n) : a < h.size := by obtain ⟨c, A, -⟩ := F; exact A.lt
theorem ALen.ext {Z : State} {h h' : Heap} {a : Addr} {ty : FieldType} {n : Int32} (F : ALen Z h a ty n) (E : Ext h h') : ALen Z h' a ty n := by obtain ⟨c, A, r⟩ := F; exact ⟨c, A.ext E, r⟩
theorem ALen.keep {Z : State} {h h' : Heap} {ws : List Addr} {a : Addr} {ty : FieldType} {n : Int32} (F : ALen Z h a ty n) (K : Keep h h' ws) : ALen Z h' a ty n := by
  obtain ⟨c, ⟨A1, A2, A3⟩, r1, r2⟩ := F
  obtain ⟨c', e1, e2, e3, e4⟩ := K.2.2 a c A1
  exact ⟨c', ⟨e1, ⟨by rw [e3]; exact A2.1, by rw [e2]; exact A2.2⟩, by rw [e3]; exact A3⟩, by rw [e4]; exact r1, r2⟩
theorem ALen.wr {Z : State} {h h' : Heap} {a b : Addr} {sl : Nat} {v : Value} {ty : FieldType} {n : Int32} (F : ALen Z h a ty n) (W : Wr h h' b sl v) : ALen Z h' a ty n := F.keep (Keep.of_wr W)

theorem own_mk (x n : Int32) {k : Nat} (hk : k < 31) (hm : n.toBitVec.toNat = 2 ^ k - 1) : ¬ (x &&& n) < 0 ∧ (x &&& n).toNatClampNeg ≤ 2 ^ k - 1 := by
  obtain ⟨j, hj, e⟩ := own_mask x n hk hm
  have hp : (2 : Nat) ^ k < 2 ^ 31 := Nat.pow_lt_pow_right (by decide) hk
  have q : (x &&& n).toInt = j := by rw [e]; exact len_toInt (by omega)
  have h0 : ¬ (x &&& n) < 0 := fun r => by
    have := Int32.lt_iff_toInt_lt.mp r
    have e0 : (0 : Int32).toInt = 0 := rfl
    omega
  have := nat_of h0
  exact ⟨h0, by omega⟩
theorem own_xor_and (a b : Int32) : (a ^^^ b) &&& 1 = (a &&& 1) ^^^ (b &&& 1) := by
  apply Int32.toBitVec_inj.mp
  simp only [Int32.toBitVec_and, Int32.toBitVec_xor]
  ext i hi
  simp only [BitVec.getElem_and, BitVec.getElem_xor]
  cases a.toBitVec[i] <;> cases b.toBitVec[i] <;> cases (1 : Int32).toBitVec[i] <;> rfl
theorem own_bit (f : Int32) : f % 2 = 0 ↔ f &&& 1 = 0 := by
  have e1 : (f &&& 1).toInt = f.toInt % 2 ^ 1 := Jvm.Kit.i32_mask f 1 (k := 1) (by decide) (by decide)
  have e2 : (f % 2).toInt = f.toInt.tmod 2 := Jvm.Kit.i32_rem f 2
  have z : (0 : Int32).toInt = 0 := rfl
  rw [← Int32.toInt_inj, ← Int32.toInt_inj, e1, e2, z]
  constructor
  · intro h; have := Int.dvd_of_tmod_eq_zero h; omega
  · intro h; exact Int.tmod_eq_zero_of_dvd (by omega)
theorem own_one (f : Int32) : f &&& 1 = 0 ∨ f &&& 1 = 1 := by
  obtain ⟨j, hj, e⟩ := own_mask f 1 (k := 1) (by decide) (by decide)
  rw [e]
  match j, hj with
  | 0, _ => exact Or.inl rfl
  | 1, _ => exact Or.inr rfl
  | j + 2, hj => exact absurd hj (by omega)
theorem own_f2p {f : Int32} (h : f % 2 = 0) : (if ((f ^^^ 1) &&& 1) = 0 then (0 : Int32) else 1) = 1 := by
  rw [own_xor_and, (own_bit f).mp h]; decide
theorem own_f2n {f : Int32} (h : ¬ f % 2 = 0) : (if ((f ^^^ 1) &&& 1) = 0 then (0 : Int32) else 1) = 0 := by
  rw [own_xor_and, (own_one f).resolve_left (mt (own_bit f).mpr h)]; decide
theorem own_f3 (f g : Int32) : (f ^^^ (g &&& (-2))) &&& 1 = f &&& 1 := by
  rw [own_xor_and, Int32.and_assoc]
  have e : (-2 : Int32) &&& 1 = 0 := by decide
  rw [e, Int32.and_zero, Int32.xor_zero]
def QC (Z : State) (a : Addr) (fl : Int32) (ob da ta : Addr) (h0 : Heap) (n0 : Nat) (v : Option Value) (h : Heap) (L : List Loc) : Prop := v = none ∧ Fr n0 L ∧ Keep h0 h [a] ∧ Exa Z h a "com/example/proxy_to_stub/proxytostub/transport/Frame" ∧ Fld Z h a "com/example/proxy_to_stub/proxytostub/transport/Frame" "flags" "I" (.int fl) ∧ Fld Z h a "com/example/proxy_to_stub/proxytostub/transport/Frame" "objects" "[B" (.ref ob) ∧ Fld Z h a "com/example/proxy_to_stub/proxytostub/transport/Frame" "data" "[B" (.ref da) ∧ Fld Z h a "com/example/proxy_to_stub/proxytostub/transport/Frame" "tail" "[B" (.ref ta)
theorem own_pd_0 : parseMethodDescriptor "(IIIJ[B[BI[B)V" = some ⟨[.int, .int, .int, .long, (.array .byte), (.array .byte), .int, (.array .byte)], none⟩ := by decide +kernel
theorem own_pd_1 : parseMethodDescriptor "(IIIJ[B[B)V" = some ⟨[.int, .int, .int, .long, (.array .byte), (.array .byte)], none⟩ := by decide +kernel
theorem own_pd_2 : parseMethodDescriptor "()Z" = some ⟨[], some .boolean⟩ := by decide +kernel
theorem own_d2_0 : decode prog_21_method_2_code 0 = .ok (.aload_n 0, 1) := by decide +kernel
theorem own_d2_1 : decode prog_21_method_2_code 1 = .ok (.invokespecial 17, 3) := by decide +kernel
theorem own_d2_4 : decode prog_21_method_2_code 4 = .ok (.aload_n 0, 1) := by decide +kernel
theorem own_d2_5 : decode prog_21_method_2_code 5 = .ok (.iload_n 1, 1) := by decide +kernel
theorem own_d2_6 : decode prog_21_method_2_code 6 = .ok (.putfield 22, 3) := by decide +kernel
theorem own_d2_9 : decode prog_21_method_2_code 9 = .ok (.aload_n 0, 1) := by decide +kernel
theorem own_d2_10 : decode prog_21_method_2_code 10 = .ok (.iload_n 2, 1) := by decide +kernel
theorem own_d2_11 : decode prog_21_method_2_code 11 = .ok (.putfield 26, 3) := by decide +kernel
theorem own_d2_14 : decode prog_21_method_2_code 14 = .ok (.aload_n 0, 1) := by decide +kernel
theorem own_d2_15 : decode prog_21_method_2_code 15 = .ok (.iload_n 3, 1) := by decide +kernel
theorem own_d2_16 : decode prog_21_method_2_code 16 = .ok (.putfield 29, 3) := by decide +kernel
theorem own_d2_19 : decode prog_21_method_2_code 19 = .ok (.aload_n 0, 1) := by decide +kernel
theorem own_d2_20 : decode prog_21_method_2_code 20 = .ok (.lload 4, 2) := by decide +kernel
theorem own_d2_22 : decode prog_21_method_2_code 22 = .ok (.putfield 32, 3) := by decide +kernel
theorem own_d2_25 : decode prog_21_method_2_code 25 = .ok (.aload_n 0, 1) := by decide +kernel
theorem own_d2_26 : decode prog_21_method_2_code 26 = .ok (.aload 6, 2) := by decide +kernel
theorem own_d2_28 : decode prog_21_method_2_code 28 = .ok (.putfield 36, 3) := by decide +kernel
theorem own_d2_31 : decode prog_21_method_2_code 31 = .ok (.aload_n 0, 1) := by decide +kernel
theorem own_d2_32 : decode prog_21_method_2_code 32 = .ok (.aload 7, 2) := by decide +kernel
theorem own_d2_34 : decode prog_21_method_2_code 34 = .ok (.putfield 39, 3) := by decide +kernel
theorem own_d2_37 : decode prog_21_method_2_code 37 = .ok (.aload_n 0, 1) := by decide +kernel
theorem own_d2_38 : decode prog_21_method_2_code 38 = .ok (.iload 8, 2) := by decide +kernel
theorem own_d2_40 : decode prog_21_method_2_code 40 = .ok (.putfield 42, 3) := by decide +kernel
theorem own_d2_43 : decode prog_21_method_2_code 43 = .ok (.aload_n 0, 1) := by decide +kernel
theorem own_d2_44 : decode prog_21_method_2_code 44 = .ok (.aload 9, 2) := by decide +kernel
theorem own_d2_46 : decode prog_21_method_2_code 46 = .ok (.putfield 45, 3) := by decide +kernel
theorem own_d2_49 : decode prog_21_method_2_code 49 = .ok (.return_, 1) := by decide +kernel
set_option maxRecDepth 65536 in
set_option maxHeartbeats 40000000 in
theorem rm_c2 (l : Launch) (Z : State) (a0 : Array Value) (hw : ∀ d ∈ tables_1, d.before a0 Z = true) (ws : List Jvm.Cond) (x0 : Addr) (x1 x2 x3 : Int32) (x4 : Int64) (x5 x6 : Addr) (x7 : Int32) (x8 : Addr) (h0 : Heap) (n0 : Nat) (Z0 : n0 ≤ h0.size) (E0 : Exa Z h0 x0 "com/example/proxy_to_stub/proxytostub/transport/Frame") (F_kind : Fld Z h0 x0 "com/example/proxy_to_stub/proxytostub/transport/Frame" "kind" "I" (.int (0 : Int32))) (F_code : Fld Z h0 x0 "com/example/proxy_to_stub/proxytostub/transport/Frame" "code" "I" (.int (0 : Int32))) (F_flags : Fld Z h0 x0 "com/example/proxy_to_stub/proxytostub/transport/Frame" "flags" "I" (.int (0 : Int32))) (F_target : Fld Z h0 x0 "com/example/proxy_to_stub/proxytostub/transport/Frame" "target" "J" (.long (0 : Int64))) (F_objects : Fld Z h0 x0 "com/example/proxy_to_stub/proxytostub/transport/Frame" "objects" "[B" .null) (F_data : Fld Z h0 x0 "com/example/proxy_to_stub/proxytostub/transport/Frame" "data" "[B" .null) (F_dataLength : Fld Z h0 x0 "com/example/proxy_to_stub/proxytostub/transport/Frame" "dataLength" "I" (.int (0 : Int32))) (F_tail : Fld Z h0 x0 "com/example/proxy_to_stub/proxytostub/transport/Frame" "tail" "[B" .null) (ge : n0 ≤ x0) :
    MetFree l (⟨"com/example/proxy_to_stub/proxytostub/transport/Frame", "<init>", "(IIIJ[B[BI[B)V"⟩ : MethodName) (head1 (Jvm.Cond.code (⟨"com/example/proxy_to_stub/proxytostub/transport/Frame", "<init>", "(IIIJ[B[BI[B)V"⟩ : MethodName) prog_21_method_2_code 10 none :: ws) ({ frames := 1, cells := 0, slots := 0, locals := 12 } : Room)) (fun a U => a = #[(.ref x0), (.int x1), (.int x2), (.int x3), (.long x4), (.ref x5), (.ref x6), (.int x7), (.ref x8)] ∧ Z.Warmed39 U.vm ∧ U.heap = h0) (fun _ _ _ _ _ => True) (fun _ U o U' => ∃ v L, o = .returned v ∧ QC Z x0 x3 x5 x6 x8 h0 n0 v U'.heap L ∧ FrameEnd U o U' L ({ frames := 1, cells := 0, slots := 0, locals := 12 } : Room).cells ({ frames := 1, cells := 0, slots := 0, locals := 12 } : Room).slots) := by
  refine MetFree.of_bodySF (plainFor_of_name (by first | (simp [plainName, overriddenIn]; done) | decide +kernel)) hisR ?_
  intro p e s m args below meth c s₁ Bd hml0 hP hK
  obtain ⟨rfl, hZ, hh⟩ := hP
  have hx := Bd.exec
  have hby := Bd.bytes
  have hml : c.maxLocals = 10 := hml0
  have hown : s.vm.findClass "com/example/proxy_to_stub/proxytostub/transport/Frame" = some m.cls := findClass_of_methodNamed Bd.named
  have hnm := (name_of_methodNamed Bd.named Bd.method).1
  have X0 : Stand p l e ({ frames := 1, cells := 0, slots := 0, locals := 12 } : Room) s m #[(.ref x0), (.int x1), (.int x2), (.int x3), (.long x4), (.ref x5), (.ref x6), (.int x7), (.ref x8)] below meth c s₁ [] 0 0 := Stand.of_body Bd
  have e0 : s₁.heap = h0 := by rw [← hh, Bd.state]; rfl
  have N0 := Fr.nil n0
  have ef0 : entryFrame m #[(.ref x0), (.int x1), (.int x2), (.int x3), (.long x4), (.ref x5), (.ref x6), (.int x7), (.ref x8)] 10 = mkF m 0 #[.val (.ref x0), .val (.int x1), .val (.int x2), .val (.int x3), .val (.long x4), .second, .val (.ref x5), .val (.ref x6), .val (.int x7), .val (.ref x8)] [] := by first | (simp [entryFrame, mkF, argsToLocals, Value.category, maxLocals]; done) | rfl
  have pre0 : ∀ t, Steps p.tables e below (s₁.setTop (mkF m 0 #[.val (.ref x0), .val (.int x1), .val (.int x2), .val (.int x3), .val (.long x4), .second, .val (.ref x5), .val (.ref x6), .val (.int x7), .val (.ref x8)] [])) t → Steps p.tables e below (s₁.setTop (entryFrame m #[(.ref x0), (.int x1), (.int x2), (.int x3), (.long x4), (.ref x5), (.ref x6), (.int x7), (.ref x8)] 10)) t := fun t k => castTop ef0 k
  obtain ⟨T1, X1, e1, st1⟩ := initO X0 hx hZ hown (hw _ (List.mem_of_getElem? (i := 12) rfl)) (hw _ (List.mem_of_getElem? (i := 13) rfl)) (hw _ (List.mem_of_getElem? (i := 14) rfl)) e0 (g := (mkF m 1 #[.val (.ref x0), .val (.int x1), .val (.int x2), .val (.int x3), .val (.long x4), .second, .val (.ref x5), .val (.ref x6), .val (.int x7), .val (.ref x8)] [(.ref x0)])) rfl (by rw [hml]; rfl) rfl (hb hby own_d2_1) (by decide) (W := 0) (by show 2 * 0 + _ ≤ _; exact Nat.le_of_eq rfl) (by decide)
  obtain ⟨T2, h2, X2, e2, W2, st2⟩ := putF X1 hx hZ hown (host := "") (Or.inl (hw _ (List.mem_of_getElem? (i := 15) rfl))) Via.refl e1 F_kind E0 (Or.inr ⟨(hw _ (List.mem_of_getElem? (i := 16) rfl)), rfl, hnm⟩) (hw _ (List.mem_of_getElem? (i := 2) rfl)) (ty := .int) (by decide) rfl rfl (g := (mkF m 6 #[.val (.ref x0), .val (.int x1), .val (.int x2), .val (.int x3), .val (.long x4), .second, .val (.ref x5), .val (.ref x6), .val (.int x7), .val (.ref x8)] [(.int x1), (.ref x0)])) rfl rfl (hb hby own_d2_6)
  have N2 := Fr.snoc X2 N0 ge
  have f3 : n0 ≤ h2.size := Nat.le_trans Z0 (Keep.of_wr W2).1
  have f4 : Keep h0 h2 [x0] := (Keep.refl h0 [x0]).wr W2 (Or.inl (List.mem_of_getElem? (i := 0) rfl))
  have f5 : Exa Z h2 x0 "com/example/proxy_to_stub/proxytostub/transport/Frame" := E0.wr W2
  have f6 : Fld Z h2 x0 "com/example/proxy_to_stub/proxytostub/transport/Frame" "kind" "I" (.int x1) := F_kind.same W2
  have f7 : Fld Z h2 x0 "com/example/proxy_to_stub/proxytostub/transport/Frame" "code" "I" (.int (0 : Int32)) := F_code.other W2 (Or.inr (slot_ne (Or.inr (hw _ (List.mem_of_getElem? (i := 18) rfl))) (Or.inr (hw _ (List.mem_of_getElem? (i := 16) rfl))) (by decide) (t := .int) (t' := .int) (by decide) (by decide)))
  have f8 : Fld Z h2 x0 "com/example/proxy_to_stub/proxytostub/transport/Frame" "flags" "I" (.int (0 : Int32)) := F_flags.other W2 (Or.inr (slot_ne (Or.inr (hw _ (List.mem_of_getElem? (i := 20) rfl))) (Or.inr (hw _ (List.mem_of_getElem? (i := 16) rfl))) (by decide) (t := .int) (t' := .int) (by decide) (by decide)))
  have f9 : Fld Z h2 x0 "com/example/proxy_to_stub/proxytostub/transport/Frame" "target" "J" (.long (0 : Int64)) := F_target.other W2 (Or.inr (slot_ne (Or.inr (hw _ (List.mem_of_getElem? (i := 22) rfl))) (Or.inr (hw _ (List.mem_of_getElem? (i := 16) rfl))) (by decide) (t := .long) (t' := .int) (by decide) (by decide)))
  have f10 : Fld Z h2 x0 "com/example/proxy_to_stub/proxytostub/transport/Frame" "objects" "[B" .null := F_objects.other W2 (Or.inr (slot_ne (Or.inr (hw _ (List.mem_of_getElem? (i := 24) rfl))) (Or.inr (hw _ (List.mem_of_getElem? (i := 16) rfl))) (by decide) (t := (.array .byte)) (t' := .int) (by decide) (by decide)))
  have f11 : Fld Z h2 x0 "com/example/proxy_to_stub/proxytostub/transport/Frame" "data" "[B" .null := F_data.other W2 (Or.inr (slot_ne (Or.inr (hw _ (List.mem_of_getElem? (i := 26) rfl))) (Or.inr (hw _ (List.mem_of_getElem? (i := 16) rfl))) (by decide) (t := (.array .byte)) (t' := .int) (by decide) (by decide)))
  have f12 : Fld Z h2 x0 "com/example/proxy_to_stub/proxytostub/transport/Frame" "dataLength" "I" (.int (0 : Int32)) := F_dataLength.other W2 (Or.inr (slot_ne (Or.inr (hw _ (List.mem_of_getElem? (i := 28) rfl))) (Or.inr (hw _ (List.mem_of_getElem? (i := 16) rfl))) (by decide) (t := .int) (t' := .int) (by decide) (by decide)))
  have f13 : Fld Z h2 x0 "com/example/proxy_to_stub/proxytostub/transport/Frame" "tail" "[B" .null := F_tail.other W2 (Or.inr (slot_ne (Or.inr (hw _ (List.mem_of_getElem? (i := 30) rfl))) (Or.inr (hw _ (List.mem_of_getElem? (i := 16) rfl))) (by decide) (t := (.array .byte)) (t' := .int) (by decide) (by decide)))
  obtain ⟨T14, h14, X14, e14, W14, st14⟩ := putF X2 hx hZ hown (host := "") (Or.inl (hw _ (List.mem_of_getElem? (i := 17) rfl))) Via.refl e2 f7 f5 (Or.inr ⟨(hw _ (List.mem_of_getElem? (i := 18) rfl)), rfl, hnm⟩) (hw _ (List.mem_of_getElem? (i := 2) rfl)) (ty := .int) (by decide) rfl rfl (g := (mkF m 11 #[.val (.ref x0), .val (.int x1), .val (.int x2), .val (.int x3), .val (.long x4), .second, .val (.ref x5), .val (.ref x6), .val (.int x7), .val (.ref x8)] [(.int x2), (.ref x0)])) rfl rfl (hb hby own_d2_11)
  have N14 := Fr.snoc X14 N2 ge
  have f15 : n0 ≤ h14.size := Nat.le_trans f3 (Keep.of_wr W14).1
  have f16 : Keep h0 h14 [x0] := f4.wr W14 (Or.inl (List.mem_of_getElem? (i := 0) rfl))
  have f17 : Exa Z h14 x0 "com/example/proxy_to_stub/proxytostub/transport/Frame" := f5.wr W14
  have f18 : Fld Z h14 x0 "com/example/proxy_to_stub/proxytostub/transport/Frame" "kind" "I" (.int x1) := f6.other W14 (Or.inr (slot_ne (Or.inr (hw _ (List.mem_of_getElem? (i := 16) rfl))) (Or.inr (hw _ (List.mem_of_getElem? (i := 18) rfl))) (by decide) (t := .int) (t' := .int) (by decide) (by decide)))
  have f19 : Fld Z h14 x0 "com/example/proxy_to_stub/proxytostub/transport/Frame" "code" "I" (.int x2) := f7.same W14
  have f20 : Fld Z h14 x0 "com/example/proxy_to_stub/proxytostub/transport/Frame" "flags" "I" (.int (0 : Int32)) := f8.other W14 (Or.inr (slot_ne (Or.inr (hw _ (List.mem_of_getElem? (i := 20) rfl))) (Or.inr (hw _ (List.mem_of_getElem? (i := 18) rfl))) (by decide) (t := .int) (t' := .int) (by decide) (by decide)))
  have f21 : Fld Z h14 x0 "com/example/proxy_to_stub/proxytostub/transport/Frame" "target" "J" (.long (0 : Int64)) := f9.other W14 (Or.inr (slot_ne (Or.inr (hw _ (List.mem_of_getElem? (i := 22) rfl))) (Or.inr (hw _ (List.mem_of_getElem? (i := 18) rfl))) (by decide) (t := .long) (t' := .int) (by decide) (by decide)))
  have f22 : Fld Z h14 x0 "com/example/proxy_to_stub/proxytostub/transport/Frame" "objects" "[B" .null := f10.other W14 (Or.inr (slot_ne (Or.inr (hw _ (List.mem_of_getElem? (i := 24) rfl))) (Or.inr (hw _ (List.mem_of_getElem? (i := 18) rfl))) (by decide) (t := (.array .byte)) (t' := .int) (by decide) (by decide)))
  have f23 : Fld Z h14 x0 "com/example/proxy_to_stub/proxytostub/transport/Frame" "data" "[B" .null := f11.other W14 (Or.inr (slot_ne (Or.inr (hw _ (List.mem_of_getElem? (i := 26) rfl))) (Or.inr (hw _ (List.mem_of_getElem? (i := 18) rfl))) (by decide) (t := (.array .byte)) (t' := .int) (by decide) (by decide)))
  have f24 : Fld Z h14 x0 "com/example/proxy_to_stub/proxytostub/transport/Frame" "dataLength" "I" (.int (0 : Int32)) := f12.other W14 (Or.inr (slot_ne (Or.inr (hw _ (List.mem_of_getElem? (i := 28) rfl))) (Or.inr (hw _ (List.mem_of_getElem? (i := 18) rfl))) (by decide) (t := .int) (t' := .int) (by decide) (by decide)))
  have f25 : Fld Z h14 x0 "com/example/proxy_to_stub/proxytostub/transport/Frame" "tail" "[B" .null := f13.other W14 (Or.inr (slot_ne (Or.inr (hw _ (List.mem_of_getElem? (i := 30) rfl))) (Or.inr (hw _ (List.mem_of_getElem? (i := 18) rfl))) (by decide) (t := (.array .byte)) (t' := .int) (by decide) (by decide)))
  obtain ⟨T26, h26, X26, e26, W26, st26⟩ := putF X14 hx hZ hown (host := "") (Or.inl (hw _ (List.mem_of_getElem? (i := 19) rfl))) Via.refl e14 f20 f17 (Or.inr ⟨(hw _ (List.mem_of_getElem? (i := 20) rfl)), rfl, hnm⟩) (hw _ (List.mem_of_getElem? (i := 2) rfl)) (ty := .int) (by decide) rfl rfl (g := (mkF m 16 #[.val (.ref x0), .val (.int x1), .val (.int x2), .val (.int x3), .val (.long x4), .second, .val (.ref x5), .val (.ref x6), .val (.int x7), .val (.ref x8)] [(.int x3), (.ref x0)])) rfl rfl (hb hby own_d2_16)
  have N26 := Fr.snoc X26 N14 ge
  have f27 : n0 ≤ h26.size := Nat.le_trans f15 (Keep.of_wr W26).1
  have f28 : Keep h0 h26 [x0] := f16.wr W26 (Or.inl (List.mem_of_getElem? (i := 0) rfl))
  have f29 : Exa Z h26 x0 "com/example/proxy_to_stub/proxytostub/transport/Frame" := f17.wr W26
  have f30 : Fld Z h26 x0 "com/example/proxy_to_stub/proxytostub/transport/Frame" "kind" "I" (.int x1) := f18.other W26 (Or.inr (slot_ne (Or.inr (hw _ (List.mem_of_getElem? (i := 16) rfl))) (Or.inr (hw _ (List.mem_of_getElem? (i := 20) rfl))) (by decide) (t := .int) (t' := .int) (by decide) (by decide)))
  have f31 : Fld Z h26 x0 "com/example/proxy_to_stub/proxytostub/transport/Frame" "code" "I" (.int x2) := f19.other W26 (Or.inr (slot_ne (Or.inr (hw _ (List.mem_of_getElem? (i := 18) rfl))) (Or.inr (hw _ (List.mem_of_getElem? (i := 20) rfl))) (by decide) (t := .int) (t' := .int) (by decide) (by decide)))
  have f32 : Fld Z h26 x0 "com/example/proxy_to_stub/proxytostub/transport/Frame" "flags" "I" (.int x3) := f20.same W26
  have f33 : Fld Z h26 x0 "com/example/proxy_to_stub/proxytostub/transport/Frame" "target" "J" (.long (0 : Int64)) := f21.other W26 (Or.inr (slot_ne (Or.inr (hw _ (List.mem_of_getElem? (i := 22) rfl))) (Or.inr (hw _ (List.mem_of_getElem? (i := 20) rfl))) (by decide) (t := .long) (t' := .int) (by decide) (by decide)))
  have f34 : Fld Z h26 x0 "com/example/proxy_to_stub/proxytostub/transport/Frame" "objects" "[B" .null := f22.other W26 (Or.inr (slot_ne (Or.inr (hw _ (List.mem_of_getElem? (i := 24) rfl))) (Or.inr (hw _ (List.mem_of_getElem? (i := 20) rfl))) (by decide) (t := (.array .byte)) (t' := .int) (by decide) (by decide)))
  have f35 : Fld Z h26 x0 "com/example/proxy_to_stub/proxytostub/transport/Frame" "data" "[B" .null := f23.other W26 (Or.inr (slot_ne (Or.inr (hw _ (List.mem_of_getElem? (i := 26) rfl))) (Or.inr (hw _ (List.mem_of_getElem? (i := 20) rfl))) (by decide) (t := (.array .byte)) (t' := .int) (by decide) (by decide)))
  have f36 : Fld Z h26 x0 "com/example/proxy_to_stub/proxytostub/transport/Frame" "dataLength" "I" (.int (0 : Int32)) := f24.other W26 (Or.inr (slot_ne (Or.inr (hw _ (List.mem_of_getElem? (i := 28) rfl))) (Or.inr (hw _ (List.mem_of_getElem? (i := 20) rfl))) (by decide) (t := .int) (t' := .int) (by decide) (by decide)))
  have f37 : Fld Z h26 x0 "com/example/proxy_to_stub/proxytostub/transport/Frame" "tail" "[B" .null := f25.other W26 (Or.inr (slot_ne (Or.inr (hw _ (List.mem_of_getElem? (i := 30) rfl))) (Or.inr (hw _ (List.mem_of_getElem? (i := 20) rfl))) (by decide) (t := (.array .byte)) (t' := .int) (by decide) (by decide)))
  obtain ⟨T38, h38, X38, e38, W38, st38⟩ := putF X26 hx hZ hown (host := "") (Or.inl (hw _ (List.mem_of_getElem? (i := 21) rfl))) Via.refl e26 f33 f29 (Or.inr ⟨(hw _ (List.mem_of_getElem? (i := 22) rfl)), rfl, hnm⟩) (hw _ (List.mem_of_getElem? (i := 2) rfl)) (ty := .long) (by decide) rfl rfl (g := (mkF m 22 #[.val (.ref x0), .val (.int x1), .val (.int x2), .val (.int x3), .val (.long x4), .second, .val (.ref x5), .val (.ref x6), .val (.int x7), .val (.ref x8)] [(.long x4), (.ref x0)])) rfl rfl (hb hby own_d2_22)
  have N38 := Fr.snoc X38 N26 ge
  have f39 : n0 ≤ h38.size := Nat.le_trans f27 (Keep.of_wr W38).1
  have f40 : Keep h0 h38 [x0] := f28.wr W38 (Or.inl (List.mem_of_getElem? (i := 0) rfl))
  have f41 : Exa Z h38 x0 "com/example/proxy_to_stub/proxytostub/transport/Frame" := f29.wr W38
  have f42 : Fld Z h38 x0 "com/example/proxy_to_stub/proxytostub/transport/Frame" "kind" "I" (.int x1) := f30.other W38 (Or.inr (slot_ne (Or.inr (hw _ (List.mem_of_getElem? (i := 16) rfl))) (Or.inr (hw _ (List.mem_of_getElem? (i := 22) rfl))) (by decide) (t := .int) (t' := .long) (by decide) (by decide)))
  have f43 : Fld Z h38 x0 "com/example/proxy_to_stub/proxytostub/transport/Frame" "code" "I" (.int x2) := f31.other W38 (Or.inr (slot_ne (Or.inr (hw _ (List.mem_of_getElem? (i := 18) rfl))) (Or.inr (hw _ (List.mem_of_getElem? (i := 22) rfl))) (by decide) (t := .int) (t' := .long) (by decide) (by decide)))
  have f44 : Fld Z h38 x0 "com/example/proxy_to_stub/proxytostub/transport/Frame" "flags" "I" (.int x3) := f32.other W38 (Or.inr (slot_ne (Or.inr (hw _ (List.mem_of_getElem? (i := 20) rfl))) (Or.inr (hw _ (List.mem_of_getElem? (i := 22) rfl))) (by decide) (t := .int) (t' := .long) (by decide) (by decide)))
  have f45 : Fld Z h38 x0 "com/example/proxy_to_stub/proxytostub/transport/Frame" "target" "J" (.long x4) := f33.same W38
  have f46 : Fld Z h38 x0 "com/example/proxy_to_stub/proxytostub/transport/Frame" "objects" "[B" .null := f34.other W38 (Or.inr (slot_ne (Or.inr (hw _ (List.mem_of_getElem? (i := 24) rfl))) (Or.inr (hw _ (List.mem_of_getElem? (i := 22) rfl))) (by decide) (t := (.array .byte)) (t' := .long) (by decide) (by decide)))
  have f47 : Fld Z h38 x0 "com/example/proxy_to_stub/proxytostub/transport/Frame" "data" "[B" .null := f35.other W38 (Or.inr (slot_ne (Or.inr (hw _ (List.mem_of_getElem? (i := 26) rfl))) (Or.inr (hw _ (List.mem_of_getElem? (i := 22) rfl))) (by decide) (t := (.array .byte)) (t' := .long) (by decide) (by decide)))
  have f48 : Fld Z h38 x0 "com/example/proxy_to_stub/proxytostub/transport/Frame" "dataLength" "I" (.int (0 : Int32)) := f36.other W38 (Or.inr (slot_ne (Or.inr (hw _ (List.mem_of_getElem? (i := 28) rfl))) (Or.inr (hw _ (List.mem_of_getElem? (i := 22) rfl))) (by decide) (t := .int) (t' := .long) (by decide) (by decide)))
  have f49 : Fld Z h38 x0 "com/example/proxy_to_stub/proxytostub/transport/Frame" "tail" "[B" .null := f37.other W38 (Or.inr (slot_ne (Or.inr (hw _ (List.mem_of_getElem? (i := 30) rfl))) (Or.inr (hw _ (List.mem_of_getElem? (i := 22) rfl))) (by decide) (t := (.array .byte)) (t' := .long) (by decide) (by decide)))
  obtain ⟨T50, h50, X50, e50, W50, st50⟩ := putF X38 hx hZ hown (host := "") (Or.inl (hw _ (List.mem_of_getElem? (i := 23) rfl))) Via.refl e38 f46 f41 (Or.inr ⟨(hw _ (List.mem_of_getElem? (i := 24) rfl)), rfl, hnm⟩) (hw _ (List.mem_of_getElem? (i := 2) rfl)) (ty := (.array .byte)) (by decide) rfl rfl (g := (mkF m 28 #[.val (.ref x0), .val (.int x1), .val (.int x2), .val (.int x3), .val (.long x4), .second, .val (.ref x5), .val (.ref x6), .val (.int x7), .val (.ref x8)] [(.ref x5), (.ref x0)])) rfl rfl (hb hby own_d2_28)
  have N50 := Fr.snoc X50 N38 ge
  have f51 : n0 ≤ h50.size := Nat.le_trans f39 (Keep.of_wr W50).1
  have f52 : Keep h0 h50 [x0] := f40.wr W50 (Or.inl (List.mem_of_getElem? (i := 0) rfl))
  have f53 : Exa Z h50 x0 "com/example/proxy_to_stub/proxytostub/transport/Frame" := f41.wr W50
  have f54 : Fld Z h50 x0 "com/example/proxy_to_stub/proxytostub/transport/Frame" "kind" "I" (.int x1) := f42.other W50 (Or.inr (slot_ne (Or.inr (hw _ (List.mem_of_getElem? (i := 16) rfl))) (Or.inr (hw _ (List.mem_of_getElem? (i := 24) rfl))) (by decide) (t := .int) (t' := (.array .byte)) (by decide) (by decide)))
  have f55 : Fld Z h50 x0 "com/example/proxy_to_stub/proxytostub/transport/Frame" "code" "I" (.int x2) := f43.other W50 (Or.inr (slot_ne (Or.inr (hw _ (List.mem_of_getElem? (i := 18) rfl))) (Or.inr (hw _ (List.mem_of_getElem? (i := 24) rfl))) (by decide) (t := .int) (t' := (.array .byte)) (by decide) (by decide)))
  have f56 : Fld Z h50 x0 "com/example/proxy_to_stub/proxytostub/transport/Frame" "flags" "I" (.int x3) := f44.other W50 (Or.inr (slot_ne (Or.inr (hw _ (List.mem_of_getElem? (i := 20) rfl))) (Or.inr (hw _ (List.mem_of_getElem? (i := 24) rfl))) (by decide) (t := .int) (t' := (.array .byte)) (by decide) (by decide)))
  have f57 : Fld Z h50 x0 "com/example/proxy_to_stub/proxytostub/transport/Frame" "target" "J" (.long x4) := f45.other W50 (Or.inr (slot_ne (Or.inr (hw _ (List.mem_of_getElem? (i := 22) rfl))) (Or.inr (hw _ (List.mem_of_getElem? (i := 24) rfl))) (by decide) (t := .long) (t' := (.array .byte)) (by decide) (by decide)))
  have f58 : Fld Z h50 x0 "com/example/proxy_to_stub/proxytostub/transport/Frame" "objects" "[B" (.ref x5) := f46.same W50
  have f59 : Fld Z h50 x0 "com/example/proxy_to_stub/proxytostub/transport/Frame" "data" "[B" .null := f47.other W50 (Or.inr (slot_ne (Or.inr (hw _ (List.mem_of_getElem? (i := 26) rfl))) (Or.inr (hw _ (List.mem_of_getElem? (i := 24) rfl))) (by decide) (t := (.array .byte)) (t' := (.array .byte)) (by decide) (by decide)))
  have f60 : Fld Z h50 x0 "com/example/proxy_to_stub/proxytostub/transport/Frame" "dataLength" "I" (.int (0 : Int32)) := f48.other W50 (Or.inr (slot_ne (Or.inr (hw _ (List.mem_of_getElem? (i := 28) rfl))) (Or.inr (hw _ (List.mem_of_getElem? (i := 24) rfl))) (by decide) (t := .int) (t' := (.array .byte)) (by decide) (by decide)))
  have f61 : Fld Z h50 x0 "com/example/proxy_to_stub/proxytostub/transport/Frame" "tail" "[B" .null := f49.other W50 (Or.inr (slot_ne (Or.inr (hw _ (List.mem_of_getElem? (i := 30) rfl))) (Or.inr (hw _ (List.mem_of_getElem? (i := 24) rfl))) (by decide) (t := (.array .byte)) (t' := (.array .byte)) (by decide) (by decide)))
  obtain ⟨T62, h62, X62, e62, W62, st62⟩ := putF X50 hx hZ hown (host := "") (Or.inl (hw _ (List.mem_of_getElem? (i := 25) rfl))) Via.refl e50 f59 f53 (Or.inr ⟨(hw _ (List.mem_of_getElem? (i := 26) rfl)), rfl, hnm⟩) (hw _ (List.mem_of_getElem? (i := 2) rfl)) (ty := (.array .byte)) (by decide) rfl rfl (g := (mkF m 34 #[.val (.ref x0), .val (.int x1), .val (.int x2), .val (.int x3), .val (.long x4), .second, .val (.ref x5), .val (.ref x6), .val (.int x7), .val (.ref x8)] [(.ref x6), (.ref x0)])) rfl rfl (hb hby own_d2_34)
  have N62 := Fr.snoc X62 N50 ge
  have f63 : n0 ≤ h62.size := Nat.le_trans f51 (Keep.of_wr W62).1
  have f64 : Keep h0 h62 [x0] := f52.wr W62 (Or.inl (List.mem_of_getElem? (i := 0) rfl))
  have f65 : Exa Z h62 x0 "com/example/proxy_to_stub/proxytostub/transport/Frame" := f53.wr W62
  have f66 : Fld Z h62 x0 "com/example/proxy_to_stub/proxytostub/transport/Frame" "kind" "I" (.int x1) := f54.other W62 (Or.inr (slot_ne (Or.inr (hw _ (List.mem_of_getElem? (i := 16) rfl))) (Or.inr (hw _ (List.mem_of_getElem? (i := 26) rfl))) (by decide) (t := .int) (t' := (.array .byte)) (by decide) (by decide)))
  have f67 : Fld Z h62 x0 "com/example/proxy_to_stub/proxytostub/transport/Frame" "code" "I" (.int x2) := f55.other W62 (Or.inr (slot_ne (Or.inr (hw _ (List.mem_of_getElem? (i := 18) rfl))) (Or.inr (hw _ (List.mem_of_getElem? (i := 26) rfl))) (by decide) (t := .int) (t' := (.array .byte)) (by decide) (by decide)))
  have f68 : Fld Z h62 x0 "com/example/proxy_to_stub/proxytostub/transport/Frame" "flags" "I" (.int x3) := f56.other W62 (Or.inr (slot_ne (Or.inr (hw _ (List.mem_of_getElem? (i := 20) rfl))) (Or.inr (hw _ (List.mem_of_getElem? (i := 26) rfl))) (by decide) (t := .int) (t' := (.array .byte)) (by decide) (by decide)))
  have f69 : Fld Z h62 x0 "com/example/proxy_to_stub/proxytostub/transport/Frame" "target" "J" (.long x4) := f57.other W62 (Or.inr (slot_ne (Or.inr (hw _ (List.mem_of_getElem? (i := 22) rfl))) (Or.inr (hw _ (List.mem_of_getElem? (i := 26) rfl))) (by decide) (t := .long) (t' := (.array .byte)) (by decide) (by decide)))
  have f70 : Fld Z h62 x0 "com/example/proxy_to_stub/proxytostub/transport/Frame" "objects" "[B" (.ref x5) := f58.other W62 (Or.inr (slot_ne (Or.inr (hw _ (List.mem_of_getElem? (i := 24) rfl))) (Or.inr (hw _ (List.mem_of_getElem? (i := 26) rfl))) (by decide) (t := (.array .byte)) (t' := (.array .byte)) (by decide) (by decide)))
  have f71 : Fld Z h62 x0 "com/example/proxy_to_stub/proxytostub/transport/Frame" "data" "[B" (.ref x6) := f59.same W62
  have f72 : Fld Z h62 x0 "com/example/proxy_to_stub/proxytostub/transport/Frame" "dataLength" "I" (.int (0 : Int32)) := f60.other W62 (Or.inr (slot_ne (Or.inr (hw _ (List.mem_of_getElem? (i := 28) rfl))) (Or.inr (hw _ (List.mem_of_getElem? (i := 26) rfl))) (by decide) (t := .int) (t' := (.array .byte)) (by decide) (by decide)))
  have f73 : Fld Z h62 x0 "com/example/proxy_to_stub/proxytostub/transport/Frame" "tail" "[B" .null := f61.other W62 (Or.inr (slot_ne (Or.inr (hw _ (List.mem_of_getElem? (i := 30) rfl))) (Or.inr (hw _ (List.mem_of_getElem? (i := 26) rfl))) (by decide) (t := (.array .byte)) (t' := (.array .byte)) (by decide) (by decide)))
  obtain ⟨T74, h74, X74, e74, W74, st74⟩ := putF X62 hx hZ hown (host := "") (Or.inl (hw _ (List.mem_of_getElem? (i := 27) rfl))) Via.refl e62 f72 f65 (Or.inr ⟨(hw _ (List.mem_of_getElem? (i := 28) rfl)), rfl, hnm⟩) (hw _ (List.mem_of_getElem? (i := 2) rfl)) (ty := .int) (by decide) rfl rfl (g := (mkF m 40 #[.val (.ref x0), .val (.int x1), .val (.int x2), .val (.int x3), .val (.long x4), .second, .val (.ref x5), .val (.ref x6), .val (.int x7), .val (.ref x8)] [(.int x7), (.ref x0)])) rfl rfl (hb hby own_d2_40)
  have N74 := Fr.snoc X74 N62 ge
  have f75 : n0 ≤ h74.size := Nat.le_trans f63 (Keep.of_wr W74).1
  have f76 : Keep h0 h74 [x0] := f64.wr W74 (Or.inl (List.mem_of_getElem? (i := 0) rfl))
  have f77 : Exa Z h74 x0 "com/example/proxy_to_stub/proxytostub/transport/Frame" := f65.wr W74
  have f78 : Fld Z h74 x0 "com/example/proxy_to_stub/proxytostub/transport/Frame" "kind" "I" (.int x1) := f66.other W74 (Or.inr (slot_ne (Or.inr (hw _ (List.mem_of_getElem? (i := 16) rfl))) (Or.inr (hw _ (List.mem_of_getElem? (i := 28) rfl))) (by decide) (t := .int) (t' := .int) (by decide) (by decide)))
  have f79 : Fld Z h74 x0 "com/example/proxy_to_stub/proxytostub/transport/Frame" "code" "I" (.int x2) := f67.other W74 (Or.inr (slot_ne (Or.inr (hw _ (List.mem_of_getElem? (i := 18) rfl))) (Or.inr (hw _ (List.mem_of_getElem? (i := 28) rfl))) (by decide) (t := .int) (t' := .int) (by decide) (by decide)))
  have f80 : Fld Z h74 x0 "com/example/proxy_to_stub/proxytostub/transport/Frame" "flags" "I" (.int x3) := f68.other W74 (Or.inr (slot_ne (Or.inr (hw _ (List.mem_of_getElem? (i := 20) rfl))) (Or.inr (hw _ (List.mem_of_getElem? (i := 28) rfl))) (by decide) (t := .int) (t' := .int) (by decide) (by decide)))
  have f81 : Fld Z h74 x0 "com/example/proxy_to_stub/proxytostub/transport/Frame" "target" "J" (.long x4) := f69.other W74 (Or.inr (slot_ne (Or.inr (hw _ (List.mem_of_getElem? (i := 22) rfl))) (Or.inr (hw _ (List.mem_of_getElem? (i := 28) rfl))) (by decide) (t := .long) (t' := .int) (by decide) (by decide)))
  have f82 : Fld Z h74 x0 "com/example/proxy_to_stub/proxytostub/transport/Frame" "objects" "[B" (.ref x5) := f70.other W74 (Or.inr (slot_ne (Or.inr (hw _ (List.mem_of_getElem? (i := 24) rfl))) (Or.inr (hw _ (List.mem_of_getElem? (i := 28) rfl))) (by decide) (t := (.array .byte)) (t' := .int) (by decide) (by decide)))
  have f83 : Fld Z h74 x0 "com/example/proxy_to_stub/proxytostub/transport/Frame" "data" "[B" (.ref x6) := f71.other W74 (Or.inr (slot_ne (Or.inr (hw _ (List.mem_of_getElem? (i := 26) rfl))) (Or.inr (hw _ (List.mem_of_getElem? (i := 28) rfl))) (by decide) (t := (.array .byte)) (t' := .int) (by decide) (by decide)))
  have f84 : Fld Z h74 x0 "com/example/proxy_to_stub/proxytostub/transport/Frame" "dataLength" "I" (.int x7) := f72.same W74
  have f85 : Fld Z h74 x0 "com/example/proxy_to_stub/proxytostub/transport/Frame" "tail" "[B" .null := f73.other W74 (Or.inr (slot_ne (Or.inr (hw _ (List.mem_of_getElem? (i := 30) rfl))) (Or.inr (hw _ (List.mem_of_getElem? (i := 28) rfl))) (by decide) (t := (.array .byte)) (t' := .int) (by decide) (by decide)))
  obtain ⟨T86, h86, X86, e86, W86, st86⟩ := putF X74 hx hZ hown (host := "") (Or.inl (hw _ (List.mem_of_getElem? (i := 29) rfl))) Via.refl e74 f85 f77 (Or.inr ⟨(hw _ (List.mem_of_getElem? (i := 30) rfl)), rfl, hnm⟩) (hw _ (List.mem_of_getElem? (i := 2) rfl)) (ty := (.array .byte)) (by decide) rfl rfl (g := (mkF m 46 #[.val (.ref x0), .val (.int x1), .val (.int x2), .val (.int x3), .val (.long x4), .second, .val (.ref x5), .val (.ref x6), .val (.int x7), .val (.ref x8)] [(.ref x8), (.ref x0)])) rfl rfl (hb hby own_d2_46)
  have N86 := Fr.snoc X86 N74 ge
  have f87 : n0 ≤ h86.size := Nat.le_trans f75 (Keep.of_wr W86).1
  have f88 : Keep h0 h86 [x0] := f76.wr W86 (Or.inl (List.mem_of_getElem? (i := 0) rfl))
  have f89 : Exa Z h86 x0 "com/example/proxy_to_stub/proxytostub/transport/Frame" := f77.wr W86
  have f90 : Fld Z h86 x0 "com/example/proxy_to_stub/proxytostub/transport/Frame" "kind" "I" (.int x1) := f78.other W86 (Or.inr (slot_ne (Or.inr (hw _ (List.mem_of_getElem? (i := 16) rfl))) (Or.inr (hw _ (List.mem_of_getElem? (i := 30) rfl))) (by decide) (t := .int) (t' := (.array .byte)) (by decide) (by decide)))
  have f91 : Fld Z h86 x0 "com/example/proxy_to_stub/proxytostub/transport/Frame" "code" "I" (.int x2) := f79.other W86 (Or.inr (slot_ne (Or.inr (hw _ (List.mem_of_getElem? (i := 18) rfl))) (Or.inr (hw _ (List.mem_of_getElem? (i := 30) rfl))) (by decide) (t := .int) (t' := (.array .byte)) (by decide) (by decide)))
  have f92 : Fld Z h86 x0 "com/example/proxy_to_stub/proxytostub/transport/Frame" "flags" "I" (.int x3) := f80.other W86 (Or.inr (slot_ne (Or.inr (hw _ (List.mem_of_getElem? (i := 20) rfl))) (Or.inr (hw _ (List.mem_of_getElem? (i := 30) rfl))) (by decide) (t := .int) (t' := (.array .byte)) (by decide) (by decide)))
  have f93 : Fld Z h86 x0 "com/example/proxy_to_stub/proxytostub/transport/Frame" "target" "J" (.long x4) := f81.other W86 (Or.inr (slot_ne (Or.inr (hw _ (List.mem_of_getElem? (i := 22) rfl))) (Or.inr (hw _ (List.mem_of_getElem? (i := 30) rfl))) (by decide) (t := .long) (t' := (.array .byte)) (by decide) (by decide)))
  have f94 : Fld Z h86 x0 "com/example/proxy_to_stub/proxytostub/transport/Frame" "objects" "[B" (.ref x5) := f82.other W86 (Or.inr (slot_ne (Or.inr (hw _ (List.mem_of_getElem? (i := 24) rfl))) (Or.inr (hw _ (List.mem_of_getElem? (i := 30) rfl))) (by decide) (t := (.array .byte)) (t' := (.array .byte)) (by decide) (by decide)))
  have f95 : Fld Z h86 x0 "com/example/proxy_to_stub/proxytostub/transport/Frame" "data" "[B" (.ref x6) := f83.other W86 (Or.inr (slot_ne (Or.inr (hw _ (List.mem_of_getElem? (i := 26) rfl))) (Or.inr (hw _ (List.mem_of_getElem? (i := 30) rfl))) (by decide) (t := (.array .byte)) (t' := (.array .byte)) (by decide) (by decide)))
  have f96 : Fld Z h86 x0 "com/example/proxy_to_stub/proxytostub/transport/Frame" "dataLength" "I" (.int x7) := f84.other W86 (Or.inr (slot_ne (Or.inr (hw _ (List.mem_of_getElem? (i := 28) rfl))) (Or.inr (hw _ (List.mem_of_getElem? (i := 30) rfl))) (by decide) (t := .int) (t' := (.array .byte)) (by decide) (by decide)))
  have f97 : Fld Z h86 x0 "com/example/proxy_to_stub/proxytostub/transport/Frame" "tail" "[B" (.ref x8) := f85.same W86
  obtain ⟨fs, hr, hrun, hended, hW, hsame⟩ := X86.leave (v := none) (fun _ => rfl)
  refine ⟨_, _, pre0 _ ?_, hrun, hended, _, _, rfl, ?_, ⟨_, rfl⟩, hW, hsame.mono (by decide) (by decide)⟩
  · show Steps p.tables e below (s₁.setTop (mkF m 0 #[.val (.ref x0), .val (.int x1), .val (.int x2), .val (.int x3), .val (.long x4), .second, .val (.ref x5), .val (.ref x6), .val (.int x7), .val (.ref x8)] [])) _
    refine XS.aloadN X0.here hx rfl (hb hby own_d2_0) rfl rfl ?_
    show Steps p.tables e below (s₁.setTop (mkF m 1 #[.val (.ref x0), .val (.int x1), .val (.int x2), .val (.int x3), .val (.long x4), .second, .val (.ref x5), .val (.ref x6), .val (.int x7), .val (.ref x8)] [(.ref x0)])) _
    refine st1 _ ?_
    show Steps p.tables e below (T1.setTop (mkF m 4 #[.val (.ref x0), .val (.int x1), .val (.int x2), .val (.int x3), .val (.long x4), .second, .val (.ref x5), .val (.ref x6), .val (.int x7), .val (.ref x8)] [])) _
    refine XS.aloadN X1.here hx rfl (hb hby own_d2_4) rfl rfl ?_
    show Steps p.tables e below (T1.setTop (mkF m 5 #[.val (.ref x0), .val (.int x1), .val (.int x2), .val (.int x3), .val (.long x4), .second, .val (.ref x5), .val (.ref x6), .val (.int x7), .val (.ref x8)] [(.ref x0)])) _
    refine XS.iloadN X1.here hx rfl (hb hby own_d2_5) rfl ?_
    show Steps p.tables e below (T1.setTop (mkF m 6 #[.val (.ref x0), .val (.int x1), .val (.int x2), .val (.int x3), .val (.long x4), .second, .val (.ref x5), .val (.ref x6), .val (.int x7), .val (.ref x8)] [(.int x1), (.ref x0)])) _
    refine st2 _ ?_
    show Steps p.tables e below (T2.setTop (mkF m 9 #[.val (.ref x0), .val (.int x1), .val (.int x2), .val (.int x3), .val (.long x4), .second, .val (.ref x5), .val (.ref x6), .val (.int x7), .val (.ref x8)] [])) _
    refine XS.aloadN X2.here hx rfl (hb hby own_d2_9) rfl rfl ?_
    show Steps p.tables e below (T2.setTop (mkF m 10 #[.val (.ref x0), .val (.int x1), .val (.int x2), .val (.int x3), .val (.long x4), .second, .val (.ref x5), .val (.ref x6), .val (.int x7), .val (.ref x8)] [(.ref x0)])) _
    refine XS.iloadN X2.here hx rfl (hb hby own_d2_10) rfl ?_
    show Steps p.tables e below (T2.setTop (mkF m 11 #[.val (.ref x0), .val (.int x1), .val (.int x2), .val (.int x3), .val (.long x4), .second, .val (.ref x5), .val (.ref x6), .val (.int x7), .val (.ref x8)] [(.int x2), (.ref x0)])) _
    refine st14 _ ?_
    show Steps p.tables e below (T14.setTop (mkF m 14 #[.val (.ref x0), .val (.int x1), .val (.int x2), .val (.int x3), .val (.long x4), .second, .val (.ref x5), .val (.ref x6), .val (.int x7), .val (.ref x8)] [])) _
    refine XS.aloadN X14.here hx rfl (hb hby own_d2_14) rfl rfl ?_
    show Steps p.tables e below (T14.setTop (mkF m 15 #[.val (.ref x0), .val (.int x1), .val (.int x2), .val (.int x3), .val (.long x4), .second, .val (.ref x5), .val (.ref x6), .val (.int x7), .val (.ref x8)] [(.ref x0)])) _
    refine XS.iloadN X14.here hx rfl (hb hby own_d2_15) rfl ?_
    show Steps p.tables e below (T14.setTop (mkF m 16 #[.val (.ref x0), .val (.int x1), .val (.int x2), .val (.int x3), .val (.long x4), .second, .val (.ref x5), .val (.ref x6), .val (.int x7), .val (.ref x8)] [(.int x3), (.ref x0)])) _
    refine st26 _ ?_
    show Steps p.tables e below (T26.setTop (mkF m 19 #[.val (.ref x0), .val (.int x1), .val (.int x2), .val (.int x3), .val (.long x4), .second, .val (.ref x5), .val (.ref x6), .val (.int x7), .val (.ref x8)] [])) _
    refine XS.aloadN X26.here hx rfl (hb hby own_d2_19) rfl rfl ?_
    show Steps p.tables e below (T26.setTop (mkF m 20 #[.val (.ref x0), .val (.int x1), .val (.int x2), .val (.int x3), .val (.long x4), .second, .val (.ref x5), .val (.ref x6), .val (.int x7), .val (.ref x8)] [(.ref x0)])) _
    refine XS.lload X26.here hx rfl (hb hby own_d2_20) rfl ?_
    show Steps p.tables e below (T26.setTop (mkF m 22 #[.val (.ref x0), .val (.int x1), .val (.int x2), .val (.int x3), .val (.long x4), .second, .val (.ref x5), .val (.ref x6), .val (.int x7), .val (.ref x8)] [(.long x4), (.ref x0)])) _
    refine st38 _ ?_
    show Steps p.tables e below (T38.setTop (mkF m 25 #[.val (.ref x0), .val (.int x1), .val (.int x2), .val (.int x3), .val (.long x4), .second, .val (.ref x5), .val (.ref x6), .val (.int x7), .val (.ref x8)] [])) _
    refine XS.aloadN X38.here hx rfl (hb hby own_d2_25) rfl rfl ?_
    show Steps p.tables e below (T38.setTop (mkF m 26 #[.val (.ref x0), .val (.int x1), .val (.int x2), .val (.int x3), .val (.long x4), .second, .val (.ref x5), .val (.ref x6), .val (.int x7), .val (.ref x8)] [(.ref x0)])) _
    refine XS.aload X38.here hx rfl (hb hby own_d2_26) rfl rfl ?_
    show Steps p.tables e below (T38.setTop (mkF m 28 #[.val (.ref x0), .val (.int x1), .val (.int x2), .val (.int x3), .val (.long x4), .second, .val (.ref x5), .val (.ref x6), .val (.int x7), .val (.ref x8)] [(.ref x5), (.ref x0)])) _
    refine st50 _ ?_
    show Steps p.tables e below (T50.setTop (mkF m 31 #[.val (.ref x0), .val (.int x1), .val (.int x2), .val (.int x3), .val (.long x4), .second, .val (.ref x5), .val (.ref x6), .val (.int x7), .val (.ref x8)] [])) _
    refine XS.aloadN X50.here hx rfl (hb hby own_d2_31) rfl rfl ?_
    show Steps p.tables e below (T50.setTop (mkF m 32 #[.val (.ref x0), .val (.int x1), .val (.int x2), .val (.int x3), .val (.long x4), .second, .val (.ref x5), .val (.ref x6), .val (.int x7), .val (.ref x8)] [(.ref x0)])) _
    refine XS.aload X50.here hx rfl (hb hby own_d2_32) rfl rfl ?_
    show Steps p.tables e below (T50.setTop (mkF m 34 #[.val (.ref x0), .val (.int x1), .val (.int x2), .val (.int x3), .val (.long x4), .second, .val (.ref x5), .val (.ref x6), .val (.int x7), .val (.ref x8)] [(.ref x6), (.ref x0)])) _
    refine st62 _ ?_
    show Steps p.tables e below (T62.setTop (mkF m 37 #[.val (.ref x0), .val (.int x1), .val (.int x2), .val (.int x3), .val (.long x4), .second, .val (.ref x5), .val (.ref x6), .val (.int x7), .val (.ref x8)] [])) _
    refine XS.aloadN X62.here hx rfl (hb hby own_d2_37) rfl rfl ?_
    show Steps p.tables e below (T62.setTop (mkF m 38 #[.val (.ref x0), .val (.int x1), .val (.int x2), .val (.int x3), .val (.long x4), .second, .val (.ref x5), .val (.ref x6), .val (.int x7), .val (.ref x8)] [(.ref x0)])) _
    refine XS.iload X62.here hx rfl (hb hby own_d2_38) rfl ?_
    show Steps p.tables e below (T62.setTop (mkF m 40 #[.val (.ref x0), .val (.int x1), .val (.int x2), .val (.int x3), .val (.long x4), .second, .val (.ref x5), .val (.ref x6), .val (.int x7), .val (.ref x8)] [(.int x7), (.ref x0)])) _
    refine st74 _ ?_
    show Steps p.tables e below (T74.setTop (mkF m 43 #[.val (.ref x0), .val (.int x1), .val (.int x2), .val (.int x3), .val (.long x4), .second, .val (.ref x5), .val (.ref x6), .val (.int x7), .val (.ref x8)] [])) _
    refine XS.aloadN X74.here hx rfl (hb hby own_d2_43) rfl rfl ?_
    show Steps p.tables e below (T74.setTop (mkF m 44 #[.val (.ref x0), .val (.int x1), .val (.int x2), .val (.int x3), .val (.long x4), .second, .val (.ref x5), .val (.ref x6), .val (.int x7), .val (.ref x8)] [(.ref x0)])) _
    refine XS.aload X74.here hx rfl (hb hby own_d2_44) rfl rfl ?_
    show Steps p.tables e below (T74.setTop (mkF m 46 #[.val (.ref x0), .val (.int x1), .val (.int x2), .val (.int x3), .val (.long x4), .second, .val (.ref x5), .val (.ref x6), .val (.int x7), .val (.ref x8)] [(.ref x8), (.ref x0)])) _
    refine st86 _ ?_
    show Steps p.tables e below (T86.setTop (mkF m 49 #[.val (.ref x0), .val (.int x1), .val (.int x2), .val (.int x3), .val (.long x4), .second, .val (.ref x5), .val (.ref x6), .val (.int x7), .val (.ref x8)] [])) _
    exact X86.returnOut hx Bd.returns (hb hby own_d2_49) hr
  · show QC Z x0 x3 x5 x6 x8 h0 n0 _ T86.heap _
    rw [e86]
    exact ⟨rfl, N86, f88, f89, f92, f94, f95, f97⟩
theorem own_d1_0 : decode prog_21_method_1_code 0 = .ok (.aload_n 0, 1) := by decide +kernel
theorem own_d1_1 : decode prog_21_method_1_code 1 = .ok (.iload_n 1, 1) := by decide +kernel
theorem own_d1_2 : decode prog_21_method_1_code 2 = .ok (.iload_n 2, 1) := by decide +kernel
theorem own_d1_3 : decode prog_21_method_1_code 3 = .ok (.iload_n 3, 1) := by decide +kernel
theorem own_d1_4 : decode prog_21_method_1_code 4 = .ok (.lload 4, 2) := by decide +kernel
theorem own_d1_6 : decode prog_21_method_1_code 6 = .ok (.aload 6, 2) := by decide +kernel
theorem own_d1_8 : decode prog_21_method_1_code 8 = .ok (.aload 7, 2) := by decide +kernel
theorem own_d1_10 : decode prog_21_method_1_code 10 = .ok (.aload 7, 2) := by decide +kernel
theorem own_d1_12 : decode prog_21_method_1_code 12 = .ok (.arraylength, 1) := by decide +kernel
theorem own_d1_13 : decode prog_21_method_1_code 13 = .ok (.getstatic 9, 3) := by decide +kernel
theorem own_d1_16 : decode prog_21_method_1_code 16 = .ok (.invokespecial 13, 3) := by decide +kernel
theorem own_d1_19 : decode prog_21_method_1_code 19 = .ok (.return_, 1) := by decide +kernel
set_option maxRecDepth 65536 in
set_option maxHeartbeats 40000000 in
theorem rm_c1 (l : Launch) (Z : State) (a0 : Array Value) (hw : ∀ d ∈ tables_1, d.before a0 Z = true) (ws : List Jvm.Cond) (x0 : Addr) (x1 x2 x3 : Int32) (x4 : Int64) (x5 x6 : Addr) (nl : Int32) (em : Addr) (h0 : Heap) (n0 : Nat) (Z0 : n0 ≤ h0.size) (E0 : Exa Z h0 x0 "com/example/proxy_to_stub/proxytostub/transport/Frame") (F_kind : Fld Z h0 x0 "com/example/proxy_to_stub/proxytostub/transport/Frame" "kind" "I" (.int (0 : Int32))) (F_code : Fld Z h0 x0 "com/example/proxy_to_stub/proxytostub/transport/Frame" "code" "I" (.int (0 : Int32))) (F_flags : Fld Z h0 x0 "com/example/proxy_to_stub/proxytostub/transport/Frame" "flags" "I" (.int (0 : Int32))) (F_target : Fld Z h0 x0 "com/example/proxy_to_stub/proxytostub/transport/Frame" "target" "J" (.long (0 : Int64))) (F_objects : Fld Z h0 x0 "com/example/proxy_to_stub/proxytostub/transport/Frame" "objects" "[B" .null) (F_data : Fld Z h0 x0 "com/example/proxy_to_stub/proxytostub/transport/Frame" "data" "[B" .null) (F_dataLength : Fld Z h0 x0 "com/example/proxy_to_stub/proxytostub/transport/Frame" "dataLength" "I" (.int (0 : Int32))) (F_tail : Fld Z h0 x0 "com/example/proxy_to_stub/proxytostub/transport/Frame" "tail" "[B" .null) (ge : n0 ≤ x0) (AD : ALen Z h0 x6 .byte nl) (SE : Sta Z h0 "com/example/proxy_to_stub/proxytostub/transport/Frame" "EMPTY" "[B" (.ref em)) :
    MetFree l (⟨"com/example/proxy_to_stub/proxytostub/transport/Frame", "<init>", "(IIIJ[B[B)V"⟩ : MethodName) (head1 (Jvm.Cond.code (⟨"com/example/proxy_to_stub/proxytostub/transport/Frame", "<init>", "(IIIJ[B[B)V"⟩ : MethodName) prog_21_method_1_code 8 none :: ws) ({ frames := 2, cells := 0, slots := 0, locals := 33 } : Room)) (fun a U => a = #[(.ref x0), (.int x1), (.int x2), (.int x3), (.long x4), (.ref x5), (.ref x6)] ∧ Z.Warmed39 U.vm ∧ U.heap = h0) (fun _ _ _ _ _ => True) (fun _ U o U' => ∃ v L, o = .returned v ∧ QC Z x0 x3 x5 x6 em h0 n0 v U'.heap L ∧ FrameEnd U o U' L ({ frames := 2, cells := 0, slots := 0, locals := 33 } : Room).cells ({ frames := 2, cells := 0, slots := 0, locals := 33 } : Room).slots) := by
  refine MetFree.of_bodySF (plainFor_of_name (by first | (simp [plainName, overriddenIn]; done) | decide +kernel)) hisR ?_
  intro p e s m args below meth c s₁ Bd hml0 hP hK
  obtain ⟨rfl, hZ, hh⟩ := hP
  have hx := Bd.exec
  have hby := Bd.bytes
  have hml : c.maxLocals = 8 := hml0
  have hown : s.vm.findClass "com/example/proxy_to_stub/proxytostub/transport/Frame" = some m.cls := findClass_of_methodNamed Bd.named
  have hnm := (name_of_methodNamed Bd.named Bd.method).1
  have X0 : Stand p l e ({ frames := 2, cells := 0, slots := 0, locals := 33 } : Room) s m #[(.ref x0), (.int x1), (.int x2), (.int x3), (.long x4), (.ref x5), (.ref x6)] below meth c s₁ [] 0 0 := Stand.of_body Bd
  have e0 : s₁.heap = h0 := by rw [← hh, Bd.state]; rfl
  have N0 := Fr.nil n0
  have ef0 : entryFrame m #[(.ref x0), (.int x1), (.int x2), (.int x3), (.long x4), (.ref x5), (.ref x6)] 8 = mkF m 0 #[.val (.ref x0), .val (.int x1), .val (.int x2), .val (.int x3), .val (.long x4), .second, .val (.ref x5), .val (.ref x6)] [] := by first | (simp [entryFrame, mkF, argsToLocals, Value.category, maxLocals]; done) | rfl
  have pre0 : ∀ t, Steps p.tables e below (s₁.setTop (mkF m 0 #[.val (.ref x0), .val (.int x1), .val (.int x2), .val (.int x3), .val (.long x4), .second, .val (.ref x5), .val (.ref x6)] [])) t → Steps p.tables e below (s₁.setTop (entryFrame m #[(.ref x0), (.int x1), (.int x2), (.int x3), (.long x4), (.ref x5), (.ref x6)] 8)) t := fun t k => castTop ef0 k
  obtain ⟨cl98, Ar98, S98, M98⟩ := id AD
  obtain ⟨T99, X99, e99, st99⟩ := getS2 X0 hx hZ hown (host := "") (Or.inl (hw _ (List.mem_of_getElem? (i := 7) rfl))) Via.refl e0 SE (g := (mkF m 13 #[.val (.ref x0), .val (.int x1), .val (.int x2), .val (.int x3), .val (.long x4), .second, .val (.ref x5), .val (.ref x6)] [(.int nl), (.ref x6), (.ref x5), (.long x4), (.int x3), (.int x2), (.int x1), (.ref x0)])) rfl (hb hby own_d1_13)
  obtain ⟨vv100, _, ⟨T100, L100, k100, n100⟩, -, X100, ⟨Lc100, hQ100, l100, y100, z100⟩, st100⟩ := X99.specialBack hx (y := (⟨"com/example/proxy_to_stub/proxytostub/transport/Frame", "<init>", "(IIIJ[B[BI[B)V"⟩ : MethodName)) rfl hown (mvT hZ (hw _ (List.mem_of_getElem? (i := 9) rfl))) (mvT hZ (hw _ (List.mem_of_getElem? (i := 10) rfl))) (mvT hZ (hw _ (List.mem_of_getElem? (i := 11) rfl))) (by decide) (backOf (W := 0) (rm_c2 l Z a0 hw [] x0 x1 x2 x3 x4 x5 x6 nl em h0 n0 Z0 E0 F_kind F_code F_flags F_target F_objects F_data F_dataLength F_tail ge) hZ (hw _ (List.mem_of_getElem? (i := 11) rfl)) (hw _ (List.mem_of_getElem? (i := 3) rfl)) (by decide) (by decide)) (g := (mkF m 16 #[.val (.ref x0), .val (.int x1), .val (.int x2), .val (.int x3), .val (.long x4), .second, .val (.ref x5), .val (.ref x6)] [(.ref em), (.int nl), (.ref x6), (.ref x5), (.long x4), (.int x3), (.int x2), (.int x1), (.ref x0)])) rfl (by rw [hml]; rfl) (Steps.refl _) (a := x0) (argsL := [(.int x1), (.int x2), (.int x3), (.long x4), (.ref x5), (.ref x6), (.int nl), (.ref em)]) (rest := []) (lenOf own_pd_0 rfl) rfl (by show 2 * 0 + _ ≤ _; exact Nat.le_of_eq rfl) (hb hby own_d1_16) (fun _ _ => ⟨rfl, e99, (by decide : 0 + 0 ≤ _), (by decide : 0 + 0 ≤ _)⟩)
  dsimp only [Pt.U, Pt.locs, Pt.cells, Pt.slots] at X100 l100 y100 z100 st100 hQ100
  subst l100 y100 z100
  obtain ⟨rfl, N100q, Kq, Eq, Ff, Fo, Fd, Ft⟩ := hQ100
  have N100 := Fr.app N0 N100q
  obtain ⟨fs, hr, hrun, hended, hW, hsame⟩ := X100.leave (v := none) (fun _ => rfl)
  refine ⟨_, _, pre0 _ ?_, hrun, hended, _, _, rfl, ?_, ⟨_, rfl⟩, hW, hsame.mono (by decide) (by decide)⟩
  · show Steps p.tables e below (s₁.setTop (mkF m 0 #[.val (.ref x0), .val (.int x1), .val (.int x2), .val (.int x3), .val (.long x4), .second, .val (.ref x5), .val (.ref x6)] [])) _
    refine XS.aloadN X0.here hx rfl (hb hby own_d1_0) rfl rfl ?_
    show Steps p.tables e below (s₁.setTop (mkF m 1 #[.val (.ref x0), .val (.int x1), .val (.int x2), .val (.int x3), .val (.long x4), .second, .val (.ref x5), .val (.ref x6)] [(.ref x0)])) _
    refine XS.iloadN X0.here hx rfl (hb hby own_d1_1) rfl ?_
    show Steps p.tables e below (s₁.setTop (mkF m 2 #[.val (.ref x0), .val (.int x1), .val (.int x2), .val (.int x3), .val (.long x4), .second, .val (.ref x5), .val (.ref x6)] [(.int x1), (.ref x0)])) _
    refine XS.iloadN X0.here hx rfl (hb hby own_d1_2) rfl ?_
    show Steps p.tables e below (s₁.setTop (mkF m 3 #[.val (.ref x0), .val (.int x1), .val (.int x2), .val (.int x3), .val (.long x4), .second, .val (.ref x5), .val (.ref x6)] [(.int x2), (.int x1), (.ref x0)])) _
    refine XS.iloadN X0.here hx rfl (hb hby own_d1_3) rfl ?_
    show Steps p.tables e below (s₁.setTop (mkF m 4 #[.val (.ref x0), .val (.int x1), .val (.int x2), .val (.int x3), .val (.long x4), .second, .val (.ref x5), .val (.ref x6)] [(.int x3), (.int x2), (.int x1), (.ref x0)])) _
    refine XS.lload X0.here hx rfl (hb hby own_d1_4) rfl ?_
    show Steps p.tables e below (s₁.setTop (mkF m 6 #[.val (.ref x0), .val (.int x1), .val (.int x2), .val (.int x3), .val (.long x4), .second, .val (.ref x5), .val (.ref x6)] [(.long x4), (.int x3), (.int x2), (.int x1), (.ref x0)])) _
    refine XS.aload X0.here hx rfl (hb hby own_d1_6) rfl rfl ?_
    show Steps p.tables e below (s₁.setTop (mkF m 8 #[.val (.ref x0), .val (.int x1), .val (.int x2), .val (.int x3), .val (.long x4), .second, .val (.ref x5), .val (.ref x6)] [(.ref x5), (.long x4), (.int x3), (.int x2), (.int x1), (.ref x0)])) _
    refine XS.aload X0.here hx rfl (hb hby own_d1_8) rfl rfl ?_
    show Steps p.tables e below (s₁.setTop (mkF m 10 #[.val (.ref x0), .val (.int x1), .val (.int x2), .val (.int x3), .val (.long x4), .second, .val (.ref x5), .val (.ref x6)] [(.ref x6), (.ref x5), (.long x4), (.int x3), (.int x2), (.int x1), (.ref x0)])) _
    refine XS.aload X0.here hx rfl (hb hby own_d1_10) rfl rfl ?_
    show Steps p.tables e below (s₁.setTop (mkF m 12 #[.val (.ref x0), .val (.int x1), .val (.int x2), .val (.int x3), .val (.long x4), .second, .val (.ref x5), .val (.ref x6)] [(.ref x6), (.ref x6), (.ref x5), (.long x4), (.int x3), (.int x2), (.int x1), (.ref x0)])) _
    refine X0.arraylength hx (by rw [e0]; exact Ar98.1) (State.isArrayOf_alike hZ.alike Ar98.2.1) (g := (mkF m 12 #[.val (.ref x0), .val (.int x1), .val (.int x2), .val (.int x3), .val (.long x4), .second, .val (.ref x5), .val (.ref x6)] [(.ref x6), (.ref x6), (.ref x5), (.long x4), (.int x3), (.int x2), (.int x1), (.ref x0)])) rfl rfl (hb hby own_d1_12) _ ?_
    rw [len_of S98 M98]
    show Steps p.tables e below (s₁.setTop (mkF m 13 #[.val (.ref x0), .val (.int x1), .val (.int x2), .val (.int x3), .val (.long x4), .second, .val (.ref x5), .val (.ref x6)] [(.int nl), (.ref x6), (.ref x5), (.long x4), (.int x3), (.int x2), (.int x1), (.ref x0)])) _
    refine st99 _ ?_
    show Steps p.tables e below (T99.setTop (mkF m 16 #[.val (.ref x0), .val (.int x1), .val (.int x2), .val (.int x3), .val (.long x4), .second, .val (.ref x5), .val (.ref x6)] [(.ref em), (.int nl), (.ref x6), (.ref x5), (.long x4), (.int x3), (.int x2), (.int x1), (.ref x0)])) _
    refine st100.trans ?_
    show Steps p.tables e below (T100.setTop (mkF m 19 #[.val (.ref x0), .val (.int x1), .val (.int x2), .val (.int x3), .val (.long x4), .second, .val (.ref x5), .val (.ref x6)] [])) _
    exact X100.returnOut hx Bd.returns (hb hby own_d1_19) hr
  · exact ⟨rfl, N100, Kq, Eq, Ff, Fo, Fd, Ft⟩
theorem own_d4_0 : decode prog_21_method_29_code 0 = .ok (.aload_n 0, 1) := by decide +kernel
theorem own_d4_1 : decode prog_21_method_29_code 1 = .ok (.getfield 29, 3) := by decide +kernel
theorem own_d4_4 : decode prog_21_method_29_code 4 = .ok (.iconst 1, 1) := by decide +kernel
theorem own_d4_5 : decode prog_21_method_29_code 5 = .ok (.iand, 1) := by decide +kernel
theorem own_d4_6 : decode prog_21_method_29_code 6 = .ok (.ifCond .eq 7, 3) := by decide +kernel
theorem own_d4_9 : decode prog_21_method_29_code 9 = .ok (.iconst 1, 1) := by decide +kernel
theorem own_d4_10 : decode prog_21_method_29_code 10 = .ok (.goto 4, 3) := by decide +kernel
theorem own_d4_13 : decode prog_21_method_29_code 13 = .ok (.iconst 0, 1) := by decide +kernel
theorem own_d4_14 : decode prog_21_method_29_code 14 = .ok (.ireturn, 1) := by decide +kernel
set_option maxRecDepth 65536 in
set_option maxHeartbeats 40000000 in
theorem rm_io (l : Launch) (Z : State) (a0 : Array Value) (hw : ∀ d ∈ tables_1, d.before a0 Z = true) (ws : List Jvm.Cond) (x0 : Addr) (f : Int32) (h0 : Heap) (n0 : Nat) (Z0 : n0 ≤ h0.size) (F_f : Fld Z h0 x0 "com/example/proxy_to_stub/proxytostub/transport/Frame" "flags" "I" (.int f)) :
    MetFree l (⟨"com/example/proxy_to_stub/proxytostub/transport/Frame", "isOneway", "()Z"⟩ : MethodName) (head1 (Jvm.Cond.code (⟨"com/example/proxy_to_stub/proxytostub/transport/Frame", "isOneway", "()Z"⟩ : MethodName) prog_21_method_29_code 1 (some .boolean) :: ws) ({ frames := 0, cells := 0, slots := 0, locals := 0 } : Room)) (fun a U => a = #[(.ref x0)] ∧ Z.Warmed39 U.vm ∧ U.heap = h0) (fun _ _ _ _ _ => True) (fun _ U o U' => ∃ v L, o = .returned v ∧ QP (.int (if (f &&& 1) = 0 then 0 else 1)) h0 n0 v U'.heap L ∧ FrameEnd U o U' L ({ frames := 0, cells := 0, slots := 0, locals := 0 } : Room).cells ({ frames := 0, cells := 0, slots := 0, locals := 0 } : Room).slots) := by
  refine MetFree.of_bodySF (plainFor_of_name (by first | (simp [plainName, overriddenIn]; done) | decide +kernel)) hisR ?_
  intro p e s m args below meth c s₁ Bd hml0 hP hK
  obtain ⟨rfl, hZ, hh⟩ := hP
  have hx := Bd.exec
  have hby := Bd.bytes
  have hml : c.maxLocals = 1 := hml0
  have hown : s.vm.findClass "com/example/proxy_to_stub/proxytostub/transport/Frame" = some m.cls := findClass_of_methodNamed Bd.named
  have hnm := (name_of_methodNamed Bd.named Bd.method).1
  have X0 : Stand p l e ({ frames := 0, cells := 0, slots := 0, locals := 0 } : Room) s m #[(.ref x0)] below meth c s₁ [] 0 0 := Stand.of_body Bd
  have e0 : s₁.heap = h0 := by rw [← hh, Bd.state]; rfl
  have N0 := Fr.nil n0
  have ef0 : entryFrame m #[(.ref x0)] 1 = mkF m 0 #[.val (.ref x0)] [] := by first | (simp [entryFrame, mkF, argsToLocals, Value.category, maxLocals]; done) | rfl
  have pre0 : ∀ t, Steps p.tables e below (s₁.setTop (mkF m 0 #[.val (.ref x0)] [])) t → Steps p.tables e below (s₁.setTop (entryFrame m #[(.ref x0)] 1)) t := fun t k => castTop ef0 k
  obtain ⟨T101, X101, e101, st101⟩ := getF X0 hx hZ hown (host := "") (Or.inl (hw _ (List.mem_of_getElem? (i := 19) rfl))) Via.refl e0 F_f (g := (mkF m 1 #[.val (.ref x0)] [(.ref x0)])) rfl rfl (hb hby own_d4_1)
  have pre102 : ∀ t, Steps p.tables e below (T101.setTop (mkF m 6 #[.val (.ref x0)] [(.int (f &&& (1 : Int32)))])) t → Steps p.tables e below (s₁.setTop (entryFrame m #[(.ref x0)] 1)) t := fun tt kk => pre0 tt (by
    show Steps p.tables e below (s₁.setTop (mkF m 0 #[.val (.ref x0)] [])) _
    refine XS.aloadN X0.here hx rfl (hb hby own_d4_0) rfl rfl ?_
    show Steps p.tables e below (s₁.setTop (mkF m 1 #[.val (.ref x0)] [(.ref x0)])) _
    refine st101 _ ?_
    show Steps p.tables e below (T101.setTop (mkF m 4 #[.val (.ref x0)] [(.int f)])) _
    refine XS.iconst X101.here hx rfl (hb hby own_d4_4) ?_
    show Steps p.tables e below (T101.setTop (mkF m 5 #[.val (.ref x0)] [(.int (1 : Int32)), (.int f)])) _
    refine XS.iand X101.here hx rfl (hb hby own_d4_5) rfl ?_
    exact kk)
  by_cases hc6 : (f &&& (1 : Int32)) = (0 : Int32)
  · obtain ⟨fs, hr, hrun, hended, hW, hsame⟩ := X101.leave (v := some (.int (0 : Int32))) (fun h => by rw [Bd.returns] at h; cases h)
    refine ⟨_, _, pre102 _ ?_, hrun, hended, _, _, rfl, ?_, ⟨_, rfl⟩, hW, hsame.mono (by decide) (by decide)⟩
    · show Steps p.tables e below (T101.setTop (mkF m 6 #[.val (.ref x0)] [(.int (f &&& (1 : Int32)))])) _
      refine XS.ifYes X101.here hx rfl (pc0 := 6) (pc' := 13) rfl (hb hby own_d4_6) rfl ((if0 _ _).trans (teq hc6).1) (by decide) (by decide) ?_
      show Steps p.tables e below (T101.setTop (mkF m 13 #[.val (.ref x0)] [])) _
      refine XS.iconst X101.here hx rfl (hb hby own_d4_13) ?_
      show Steps p.tables e below (T101.setTop (mkF m 14 #[.val (.ref x0)] [(.int (0 : Int32))])) _
      exact retN X101 hx (t := .boolean) Bd.returns (by simp) (hb hby own_d4_14) hr
    · show QP (.int (if (f &&& 1) = 0 then 0 else 1)) h0 n0 _ T101.heap _
      rw [e101]
      exact ⟨by rw [if_pos hc6], N0, rfl⟩
  · obtain ⟨fs, hr, hrun, hended, hW, hsame⟩ := X101.leave (v := some (.int (1 : Int32))) (fun h => by rw [Bd.returns] at h; cases h)
    refine ⟨_, _, pre102 _ ?_, hrun, hended, _, _, rfl, ?_, ⟨_, rfl⟩, hW, hsame.mono (by decide) (by decide)⟩
    · show Steps p.tables e below (T101.setTop (mkF m 6 #[.val (.ref x0)] [(.int (f &&& (1 : Int32)))])) _
      refine XS.ifNo X101.here hx rfl (hb hby own_d4_6) rfl ((if0 _ _).trans (feq hc6).1) ?_
      show Steps p.tables e below (T101.setTop (mkF m 9 #[.val (.ref x0)] [])) _
      refine XS.iconst X101.here hx rfl (hb hby own_d4_9) ?_
      show Steps p.tables e below (T101.setTop (mkF m 10 #[.val (.ref x0)] [(.int (1 : Int32))])) _
      refine XS.goto X101.here hx rfl (pc0 := 10) (pc' := 14) rfl (hb hby own_d4_10) (by decide) (by decide) ?_
      show Steps p.tables e below (T101.setTop (mkF m 14 #[.val (.ref x0)] [(.int (1 : Int32))])) _
      exact retN X101 hx (t := .boolean) Bd.returns (by simp) (hb hby own_d4_14) hr
    · show QP (.int (if (f &&& 1) = 0 then 0 else 1)) h0 n0 _ T101.heap _
      rw [e101]
      exact ⟨by rw [if_neg hc6], N0, rfl⟩
set_option maxRecDepth 65536 in
set_option maxHeartbeats 40000000 in
theorem rm0 (l : Launch) (Z : State) (a0 : Array Value) (hw : ∀ d ∈ tables_1, d.before a0 Z = true) (ws : List Jvm.Cond) (x0 x1 x2 : Int32) (x3 : Int64) (x4 : Int32) (em : Addr) (h0 : Heap) (n0 : Nat) (Z0 : n0 ≤ h0.size) (OL : Old Z n0 h0) (SE : Sta Z Z.heap "com/example/proxy_to_stub/proxytostub/transport/Frame" "EMPTY" "[B" (.ref em)) (AE : ALen Z h0 em .byte (0 : Int32)) :
    MetFree l x (head1 (Jvm.Cond.code x code maxLocals ret :: ws) room_1) (fun a U => a = #[(.int x0), (.int x1), (.int x2), (.long x3), (.int x4)] ∧ Z.Warmed39 U.vm ∧ U.heap = h0) (fun _ _ _ _ _ => True) (fun _ U o U' => ∃ v L, o = .returned v ∧ Q1 n0 v U'.heap L ∧ FrameEnd U o U' L room_1.cells room_1.slots) := by
  refine MetFree.of_bodySF (plainFor_of_name (by first | (simp [plainName, overriddenIn]; done) | decide +kernel)) hisR ?_
  intro p e s m args below meth c s₁ Bd hml0 hP hK
  obtain ⟨rfl, hZ, hh⟩ := hP
  have hx := Bd.exec
  have hby := Bd.bytes
  have hml : c.maxLocals = 12 := hml0
  have hown : s.vm.findClass "com/example/proxy_to_stub/proxytostub/transport/FrameIsOnewayPinLaw" = some m.cls := findClass_of_methodNamed Bd.named
  have hnm := (name_of_methodNamed Bd.named Bd.method).1
  have X0 : Stand p l e room_1 s m #[(.int x0), (.int x1), (.int x2), (.long x3), (.int x4)] below meth c s₁ [] 0 0 := Stand.of_body Bd
  have e0 : s₁.heap = h0 := by rw [← hh, Bd.state]; rfl
  have N0 := Fr.nil n0
  have ef0 : entryFrame m #[(.int x0), (.int x1), (.int x2), (.long x3), (.int x4)] maxLocals = mkF m 0 #[.val (.int x0), .val (.int x1), .val (.int x2), .val (.long x3), .second, .val (.int x4), .unset, .unset, .unset, .unset, .unset, .unset] [] := by first | (simp [entryFrame, mkF, argsToLocals, Value.category, maxLocals]; done) | rfl
  have pre0 : ∀ t, Steps p.tables e below (s₁.setTop (mkF m 0 #[.val (.int x0), .val (.int x1), .val (.int x2), .val (.long x3), .second, .val (.int x4), .unset, .unset, .unset, .unset, .unset, .unset] [])) t → Steps p.tables e below (s₁.setTop (entryFrame m #[(.int x0), (.int x1), (.int x2), (.long x3), (.int x4)] maxLocals)) t := fun t k => castTop ef0 k
  obtain ⟨T103, h103, k103, X103, e103, E103, A103, st103⟩ := newP X0 hx hZ (hw _ (List.mem_of_getElem? (i := 0) rfl)) e0 (g := (mkF m 1 #[.val (.int x0), .val (.int x1), .val (.int x2), .val (.long x3), .second, .val (.int x4), .unset, .unset, .unset, .unset, .unset, .unset] [(.int (0 : Int32))])) rfl (hb hby at_1) rfl (by decide) (cap := 0) (by decide) (by decide) (by decide) (by decide)
  obtain ⟨b103, g103⟩ : ∃ z, z = h0.size := ⟨_, rfl⟩
  rw [← g103] at A103 st103
  have ne_em_b103 : em ≠ b103 := Nat.ne_of_lt (Nat.lt_of_lt_of_le (AE).lt (Nat.le_of_eq g103.symm))
  have ge_b103 : n0 ≤ b103 := Nat.le_trans Z0 (Nat.le_of_eq g103.symm)
  have f104 : n0 ≤ h103.size := Nat.le_trans Z0 E103.1
  have f105 : Old Z n0 h103 := OL.ext E103
  have f106 : ALen Z h103 em .byte (0 : Int32) := AE.ext E103
  have V103 : ALen Z h103 b103 .byte (0 : Int32) := ⟨_, A103, sz_new _ _ _, (by decide)⟩
  obtain ⟨T107, h107, k107, X107, e107, E107, A107, st107⟩ := newP X103 hx hZ (hw _ (List.mem_of_getElem? (i := 0) rfl)) e103 (g := (mkF m 6 #[.val (.int x0), .val (.int x1), .val (.int x2), .val (.long x3), .second, .val (.int x4), .val (.ref b103), .unset, .unset, .unset, .unset, .unset] [(.int (3 : Int32))])) rfl (hb hby at_6) rfl (by decide) (cap := 3) (by decide) (by decide) (by decide) (by decide)
  obtain ⟨b107, g107⟩ : ∃ z, z = h103.size := ⟨_, rfl⟩
  rw [← g107] at A107 st107
  have ne_em_b107 : em ≠ b107 := Nat.ne_of_lt (Nat.lt_of_lt_of_le (f106).lt (Nat.le_of_eq g107.symm))
  have ne_b103_b107 : b103 ≠ b107 := Nat.ne_of_lt (Nat.lt_of_lt_of_le (V103).lt (Nat.le_of_eq g107.symm))
  have ge_b107 : n0 ≤ b107 := Nat.le_trans f104 (Nat.le_of_eq g107.symm)
  have f108 : n0 ≤ h107.size := Nat.le_trans f104 E107.1
  have f109 : Old Z n0 h107 := f105.ext E107
  have f110 : ALen Z h107 em .byte (0 : Int32) := f106.ext E107
  have f111 : ALen Z h107 b103 .byte (0 : Int32) := V103.ext E107
  have V107 : ALen Z h107 b107 .byte (3 : Int32) := ⟨_, A107, sz_new _ _ _, (by decide)⟩
  obtain ⟨T112, h112, X112, e112, E112, A112, D112, -, st112⟩ := newO X107 hx hZ hown (hw _ (List.mem_of_getElem? (i := 1) rfl)) (hw _ (List.mem_of_getElem? (i := 2) rfl)) (hw _ (List.mem_of_getElem? (i := 3) rfl)) e107 (g := (mkF m 10 #[.val (.int x0), .val (.int x1), .val (.int x2), .val (.long x3), .second, .val (.int x4), .val (.ref b103), .val (.ref b107), .unset, .unset, .unset, .unset] [])) rfl (hb hby at_10) (by decide) (by decide)
  obtain ⟨b112, g112⟩ : ∃ z, z = h107.size := ⟨_, rfl⟩
  rw [← g112] at A112 D112 st112
  have ne_em_b112 : em ≠ b112 := Nat.ne_of_lt (Nat.lt_of_lt_of_le (f110).lt (Nat.le_of_eq g112.symm))
  have ne_b103_b112 : b103 ≠ b112 := Nat.ne_of_lt (Nat.lt_of_lt_of_le (f111).lt (Nat.le_of_eq g112.symm))
  have ne_b107_b112 : b107 ≠ b112 := Nat.ne_of_lt (Nat.lt_of_lt_of_le (V107).lt (Nat.le_of_eq g112.symm))
  have ge_b112 : n0 ≤ b112 := Nat.le_trans f108 (Nat.le_of_eq g112.symm)
  have f113 : n0 ≤ h112.size := Nat.le_trans f108 E112.1
  have f114 : Old Z n0 h112 := f109.ext E112
  have f115 : ALen Z h112 em .byte (0 : Int32) := f110.ext E112
  have f116 : ALen Z h112 b103 .byte (0 : Int32) := f111.ext E112
  have f117 : ALen Z h112 b107 .byte (3 : Int32) := V107.ext E112
  have F112_16 : Fld Z h112 b112 "com/example/proxy_to_stub/proxytostub/transport/Frame" "kind" "I" (.int (0 : Int32)) := D112 (Or.inr (hw _ (List.mem_of_getElem? (i := 16) rfl))) (ty := .int) (by decide)
  have F112_18 : Fld Z h112 b112 "com/example/proxy_to_stub/proxytostub/transport/Frame" "code" "I" (.int (0 : Int32)) := D112 (Or.inr (hw _ (List.mem_of_getElem? (i := 18) rfl))) (ty := .int) (by decide)
  have F112_20 : Fld Z h112 b112 "com/example/proxy_to_stub/proxytostub/transport/Frame" "flags" "I" (.int (0 : Int32)) := D112 (Or.inr (hw _ (List.mem_of_getElem? (i := 20) rfl))) (ty := .int) (by decide)
  have F112_22 : Fld Z h112 b112 "com/example/proxy_to_stub/proxytostub/transport/Frame" "target" "J" (.long (0 : Int64)) := D112 (Or.inr (hw _ (List.mem_of_getElem? (i := 22) rfl))) (ty := .long) (by decide)
  have F112_24 : Fld Z h112 b112 "com/example/proxy_to_stub/proxytostub/transport/Frame" "objects" "[B" .null := D112 (Or.inr (hw _ (List.mem_of_getElem? (i := 24) rfl))) (ty := (.array .byte)) (by decide)
  have F112_26 : Fld Z h112 b112 "com/example/proxy_to_stub/proxytostub/transport/Frame" "data" "[B" .null := D112 (Or.inr (hw _ (List.mem_of_getElem? (i := 26) rfl))) (ty := (.array .byte)) (by decide)
  have F112_28 : Fld Z h112 b112 "com/example/proxy_to_stub/proxytostub/transport/Frame" "dataLength" "I" (.int (0 : Int32)) := D112 (Or.inr (hw _ (List.mem_of_getElem? (i := 28) rfl))) (ty := .int) (by decide)
  have F112_30 : Fld Z h112 b112 "com/example/proxy_to_stub/proxytostub/transport/Frame" "tail" "[B" .null := D112 (Or.inr (hw _ (List.mem_of_getElem? (i := 30) rfl))) (ty := (.array .byte)) (by decide)
  obtain ⟨vv118, _, ⟨T118, L118, k118, n118⟩, -, X118, ⟨Lc118, hQ118, l118, y118, z118⟩, st118⟩ := X112.specialBack hx (y := (⟨"com/example/proxy_to_stub/proxytostub/transport/Frame", "<init>", "(IIIJ[B[B)V"⟩ : MethodName)) rfl hown (mvT hZ (hw _ (List.mem_of_getElem? (i := 4) rfl))) (mvT hZ (hw _ (List.mem_of_getElem? (i := 5) rfl))) (mvT hZ (hw _ (List.mem_of_getElem? (i := 6) rfl))) (by decide) (backOf (W := 1) (rm_c1 l Z a0 hw [] b112 x0 x1 x2 x3 b103 b103 (0 : Int32) em h112 n0 f113 A112 F112_16 F112_18 F112_20 F112_22 F112_24 F112_26 F112_28 F112_30 ge_b112 f116 (SE.ext f114.2)) hZ (hw _ (List.mem_of_getElem? (i := 6) rfl)) (hw _ (List.mem_of_getElem? (i := 3) rfl)) (by decide) (by decide)) (g := (mkF m 22 #[.val (.int x0), .val (.int x1), .val (.int x2), .val (.long x3), .second, .val (.int x4), .val (.ref b103), .val (.ref b107), .unset, .unset, .unset, .unset] [(.ref b103), (.ref b103), (.long x3), (.int x2), (.int x1), (.int x0), (.ref b112), (.ref b112)])) rfl (by rw [hml]; rfl) (Steps.refl _) (a := b112) (argsL := [(.int x0), (.int x1), (.int x2), (.long x3), (.ref b103), (.ref b103)]) (rest := [(.ref b112)]) (lenOf own_pd_1 rfl) rfl (by show 2 * 0 + _ ≤ _; exact Nat.le_of_eq rfl) (hb hby at_22) (fun _ _ => ⟨rfl, e112, (by decide : 3 + 0 ≤ _), (by decide : 12 + 0 ≤ _)⟩)
  dsimp only [Pt.U, Pt.locs, Pt.cells, Pt.slots] at X118 l118 y118 z118 st118 hQ118
  subst l118 y118 z118
  obtain ⟨rfl, N118q, K118, Eq118, Ff118, Fo118, Fd118, Ft118⟩ := hQ118
  have N118 := Fr.app N0 N118q
  have f119 : n0 ≤ T118.heap.size := Nat.le_trans f113 K118.1
  have f120 : Old Z n0 T118.heap := f114.keep K118 (allS ge_b112 all0)
  have f121 : ALen Z T118.heap em .byte (0 : Int32) := f115.keep K118
  have f122 : ALen Z T118.heap b103 .byte (0 : Int32) := f116.keep K118
  have f123 : ALen Z T118.heap b107 .byte (3 : Int32) := f117.keep K118
  have f124 : Exa Z T118.heap b112 "com/example/proxy_to_stub/proxytostub/transport/Frame" := A112.keep K118
  obtain ⟨T125, h125, X125, e125, E125, A125, D125, -, st125⟩ := newO X118 hx hZ hown (hw _ (List.mem_of_getElem? (i := 1) rfl)) (hw _ (List.mem_of_getElem? (i := 2) rfl)) (hw _ (List.mem_of_getElem? (i := 3) rfl)) (rfl : T118.heap = T118.heap) (g := (mkF m 27 #[.val (.int x0), .val (.int x1), .val (.int x2), .val (.long x3), .second, .val (.int x4), .val (.ref b103), .val (.ref b107), .val (.ref b112), .unset, .unset, .unset] [])) rfl (hb hby at_27) (by decide) (by decide)
  obtain ⟨b125, g125⟩ : ∃ z, z = T118.heap.size := ⟨_, rfl⟩
  rw [← g125] at A125 D125 st125
  have ne_em_b125 : em ≠ b125 := Nat.ne_of_lt (Nat.lt_of_lt_of_le (f121).lt (Nat.le_of_eq g125.symm))
  have ne_b103_b125 : b103 ≠ b125 := Nat.ne_of_lt (Nat.lt_of_lt_of_le (f122).lt (Nat.le_of_eq g125.symm))
  have ne_b107_b125 : b107 ≠ b125 := Nat.ne_of_lt (Nat.lt_of_lt_of_le (f123).lt (Nat.le_of_eq g125.symm))
  have ne_b112_b125 : b112 ≠ b125 := Nat.ne_of_lt (Nat.lt_of_lt_of_le (f124).lt (Nat.le_of_eq g125.symm))
  have ge_b125 : n0 ≤ b125 := Nat.le_trans f119 (Nat.le_of_eq g125.symm)
  have f126 : n0 ≤ h125.size := Nat.le_trans f119 E125.1
  have f127 : Old Z n0 h125 := f120.ext E125
  have f128 : ALen Z h125 em .byte (0 : Int32) := f121.ext E125
  have f129 : ALen Z h125 b103 .byte (0 : Int32) := f122.ext E125
  have f130 : ALen Z h125 b107 .byte (3 : Int32) := f123.ext E125
  have f131 : Exa Z h125 b112 "com/example/proxy_to_stub/proxytostub/transport/Frame" := f124.ext E125
  have f132 : Fld Z h125 b112 "com/example/proxy_to_stub/proxytostub/transport/Frame" "flags" "I" (.int x2) := Ff118.ext E125
  have f133 : Fld Z h125 b112 "com/example/proxy_to_stub/proxytostub/transport/Frame" "objects" "[B" (.ref b103) := Fo118.ext E125
  have f134 : Fld Z h125 b112 "com/example/proxy_to_stub/proxytostub/transport/Frame" "data" "[B" (.ref b103) := Fd118.ext E125
  have f135 : Fld Z h125 b112 "com/example/proxy_to_stub/proxytostub/transport/Frame" "tail" "[B" (.ref em) := Ft118.ext E125
  have F125_16 : Fld Z h125 b125 "com/example/proxy_to_stub/proxytostub/transport/Frame" "kind" "I" (.int (0 : Int32)) := D125 (Or.inr (hw _ (List.mem_of_getElem? (i := 16) rfl))) (ty := .int) (by decide)
  have F125_18 : Fld Z h125 b125 "com/example/proxy_to_stub/proxytostub/transport/Frame" "code" "I" (.int (0 : Int32)) := D125 (Or.inr (hw _ (List.mem_of_getElem? (i := 18) rfl))) (ty := .int) (by decide)
  have F125_20 : Fld Z h125 b125 "com/example/proxy_to_stub/proxytostub/transport/Frame" "flags" "I" (.int (0 : Int32)) := D125 (Or.inr (hw _ (List.mem_of_getElem? (i := 20) rfl))) (ty := .int) (by decide)
  have F125_22 : Fld Z h125 b125 "com/example/proxy_to_stub/proxytostub/transport/Frame" "target" "J" (.long (0 : Int64)) := D125 (Or.inr (hw _ (List.mem_of_getElem? (i := 22) rfl))) (ty := .long) (by decide)
  have F125_24 : Fld Z h125 b125 "com/example/proxy_to_stub/proxytostub/transport/Frame" "objects" "[B" .null := D125 (Or.inr (hw _ (List.mem_of_getElem? (i := 24) rfl))) (ty := (.array .byte)) (by decide)
  have F125_26 : Fld Z h125 b125 "com/example/proxy_to_stub/proxytostub/transport/Frame" "data" "[B" .null := D125 (Or.inr (hw _ (List.mem_of_getElem? (i := 26) rfl))) (ty := (.array .byte)) (by decide)
  have F125_28 : Fld Z h125 b125 "com/example/proxy_to_stub/proxytostub/transport/Frame" "dataLength" "I" (.int (0 : Int32)) := D125 (Or.inr (hw _ (List.mem_of_getElem? (i := 28) rfl))) (ty := .int) (by decide)
  have F125_30 : Fld Z h125 b125 "com/example/proxy_to_stub/proxytostub/transport/Frame" "tail" "[B" .null := D125 (Or.inr (hw _ (List.mem_of_getElem? (i := 30) rfl))) (ty := (.array .byte)) (by decide)
  obtain ⟨vv136, _, ⟨T136, L136, k136, n136⟩, -, X136, ⟨Lc136, hQ136, l136, y136, z136⟩, st136⟩ := X125.specialBack hx (y := (⟨"com/example/proxy_to_stub/proxytostub/transport/Frame", "<init>", "(IIIJ[B[B)V"⟩ : MethodName)) rfl hown (mvT hZ (hw _ (List.mem_of_getElem? (i := 4) rfl))) (mvT hZ (hw _ (List.mem_of_getElem? (i := 5) rfl))) (mvT hZ (hw _ (List.mem_of_getElem? (i := 6) rfl))) (by decide) (backOf (W := 1) (rm_c1 l Z a0 hw [] b125 x4 (x1 ^^^ x4) (x2 ^^^ (1 : Int32)) (x3 ^^^ (-1 : Int64)) b107 b103 (0 : Int32) em h125 n0 f126 A125 F125_16 F125_18 F125_20 F125_22 F125_24 F125_26 F125_28 F125_30 ge_b125 f129 (SE.ext f127.2)) hZ (hw _ (List.mem_of_getElem? (i := 6) rfl)) (hw _ (List.mem_of_getElem? (i := 3) rfl)) (by decide) (by decide)) (g := (mkF m 49 #[.val (.int x0), .val (.int x1), .val (.int x2), .val (.long x3), .second, .val (.int x4), .val (.ref b103), .val (.ref b107), .val (.ref b112), .unset, .unset, .unset] [(.ref b103), (.ref b107), (.long (x3 ^^^ (-1 : Int64))), (.int (x2 ^^^ (1 : Int32))), (.int (x1 ^^^ x4)), (.int x4), (.ref b125), (.ref b125)])) rfl (by rw [hml]; rfl) (Steps.refl _) (a := b125) (argsL := [(.int x4), (.int (x1 ^^^ x4)), (.int (x2 ^^^ (1 : Int32))), (.long (x3 ^^^ (-1 : Int64))), (.ref b107), (.ref b103)]) (rest := [(.ref b125)]) (lenOf own_pd_1 rfl) rfl (by show 2 * 0 + _ ≤ _; exact Nat.le_of_eq rfl) (hb hby at_49) (fun _ _ => ⟨rfl, e125, (by decide : 4 + 0 ≤ _), (by decide : 21 + 0 ≤ _)⟩)
  dsimp only [Pt.U, Pt.locs, Pt.cells, Pt.slots] at X136 l136 y136 z136 st136 hQ136
  subst l136 y136 z136
  obtain ⟨rfl, N136q, K136, Eq136, Ff136, Fo136, Fd136, Ft136⟩ := hQ136
  have N136 := Fr.app N118 N136q
  have f137 : n0 ≤ T136.heap.size := Nat.le_trans f126 K136.1
  have f138 : Old Z n0 T136.heap := f127.keep K136 (allS ge_b125 all0)
  have f139 : ALen Z T136.heap em .byte (0 : Int32) := f128.keep K136
  have f140 : ALen Z T136.heap b103 .byte (0 : Int32) := f129.keep K136
  have f141 : ALen Z T136.heap b107 .byte (3 : Int32) := f130.keep K136
  have f142 : Exa Z T136.heap b112 "com/example/proxy_to_stub/proxytostub/transport/Frame" := f131.keep K136
  have f143 : Fld Z T136.heap b112 "com/example/proxy_to_stub/proxytostub/transport/Frame" "flags" "I" (.int x2) := f132.keep K136 (ninS ne_b112_b125 nin0)
  have f144 : Fld Z T136.heap b112 "com/example/proxy_to_stub/proxytostub/transport/Frame" "objects" "[B" (.ref b103) := f133.keep K136 (ninS ne_b112_b125 nin0)
  have f145 : Fld Z T136.heap b112 "com/example/proxy_to_stub/proxytostub/transport/Frame" "data" "[B" (.ref b103) := f134.keep K136 (ninS ne_b112_b125 nin0)
  have f146 : Fld Z T136.heap b112 "com/example/proxy_to_stub/proxytostub/transport/Frame" "tail" "[B" (.ref em) := f135.keep K136 (ninS ne_b112_b125 nin0)
  have f147 : Exa Z T136.heap b125 "com/example/proxy_to_stub/proxytostub/transport/Frame" := A125.keep K136
  have pre148 : ∀ t, Steps p.tables e below (T136.setTop (mkF m 52 #[.val (.int x0), .val (.int x1), .val (.int x2), .val (.long x3), .second, .val (.int x4), .val (.ref b103), .val (.ref b107), .val (.ref b112), .unset, .unset, .unset] [(.ref b125)])) t → Steps p.tables e below (s₁.setTop (entryFrame m #[(.int x0), (.int x1), (.int x2), (.long x3), (.int x4)] maxLocals)) t := fun tt kk => pre0 tt (by
    show Steps p.tables e below (s₁.setTop (mkF m 0 #[.val (.int x0), .val (.int x1), .val (.int x2), .val (.long x3), .second, .val (.int x4), .unset, .unset, .unset, .unset, .unset, .unset] [])) _
    refine XS.iconst X0.here hx rfl (hb hby at_0) ?_
    show Steps p.tables e below (s₁.setTop (mkF m 1 #[.val (.int x0), .val (.int x1), .val (.int x2), .val (.long x3), .second, .val (.int x4), .unset, .unset, .unset, .unset, .unset, .unset] [(.int (0 : Int32))])) _
    refine st103 _ ?_
    show Steps p.tables e below (T103.setTop (mkF m 3 #[.val (.int x0), .val (.int x1), .val (.int x2), .val (.long x3), .second, .val (.int x4), .unset, .unset, .unset, .unset, .unset, .unset] [(.ref b103)])) _
    refine XS.astore X103.here hx rfl (hb hby at_3) rfl rfl (l' := #[.val (.int x0), .val (.int x1), .val (.int x2), .val (.long x3), .second, .val (.int x4), .val (.ref b103), .unset, .unset, .unset, .unset, .unset]) rfl ?_
    show Steps p.tables e below (T103.setTop (mkF m 5 #[.val (.int x0), .val (.int x1), .val (.int x2), .val (.long x3), .second, .val (.int x4), .val (.ref b103), .unset, .unset, .unset, .unset, .unset] [])) _
    refine XS.iconst X103.here hx rfl (hb hby at_5) ?_
    show Steps p.tables e below (T103.setTop (mkF m 6 #[.val (.int x0), .val (.int x1), .val (.int x2), .val (.long x3), .second, .val (.int x4), .val (.ref b103), .unset, .unset, .unset, .unset, .unset] [(.int (3 : Int32))])) _
    refine st107 _ ?_
    show Steps p.tables e below (T107.setTop (mkF m 8 #[.val (.int x0), .val (.int x1), .val (.int x2), .val (.long x3), .second, .val (.int x4), .val (.ref b103), .unset, .unset, .unset, .unset, .unset] [(.ref b107)])) _
    refine XS.astore X107.here hx rfl (hb hby at_8) rfl rfl (l' := #[.val (.int x0), .val (.int x1), .val (.int x2), .val (.long x3), .second, .val (.int x4), .val (.ref b103), .val (.ref b107), .unset, .unset, .unset, .unset]) rfl ?_
    show Steps p.tables e below (T107.setTop (mkF m 10 #[.val (.int x0), .val (.int x1), .val (.int x2), .val (.long x3), .second, .val (.int x4), .val (.ref b103), .val (.ref b107), .unset, .unset, .unset, .unset] [])) _
    refine st112 _ ?_
    show Steps p.tables e below (T112.setTop (mkF m 13 #[.val (.int x0), .val (.int x1), .val (.int x2), .val (.long x3), .second, .val (.int x4), .val (.ref b103), .val (.ref b107), .unset, .unset, .unset, .unset] [(.ref b112)])) _
    refine XS.dup X112.here hx rfl (hb hby at_13) rfl rfl ?_
    show Steps p.tables e below (T112.setTop (mkF m 14 #[.val (.int x0), .val (.int x1), .val (.int x2), .val (.long x3), .second, .val (.int x4), .val (.ref b103), .val (.ref b107), .unset, .unset, .unset, .unset] [(.ref b112), (.ref b112)])) _
    refine XS.iloadN X112.here hx rfl (hb hby at_14) rfl ?_
    show Steps p.tables e below (T112.setTop (mkF m 15 #[.val (.int x0), .val (.int x1), .val (.int x2), .val (.long x3), .second, .val (.int x4), .val (.ref b103), .val (.ref b107), .unset, .unset, .unset, .unset] [(.int x0), (.ref b112), (.ref b112)])) _
    refine XS.iloadN X112.here hx rfl (hb hby at_15) rfl ?_
    show Steps p.tables e below (T112.setTop (mkF m 16 #[.val (.int x0), .val (.int x1), .val (.int x2), .val (.long x3), .second, .val (.int x4), .val (.ref b103), .val (.ref b107), .unset, .unset, .unset, .unset] [(.int x1), (.int x0), (.ref b112), (.ref b112)])) _
    refine XS.iloadN X112.here hx rfl (hb hby at_16) rfl ?_
    show Steps p.tables e below (T112.setTop (mkF m 17 #[.val (.int x0), .val (.int x1), .val (.int x2), .val (.long x3), .second, .val (.int x4), .val (.ref b103), .val (.ref b107), .unset, .unset, .unset, .unset] [(.int x2), (.int x1), (.int x0), (.ref b112), (.ref b112)])) _
    refine XS.lloadN X112.here hx rfl (hb hby at_17) rfl ?_
    show Steps p.tables e below (T112.setTop (mkF m 18 #[.val (.int x0), .val (.int x1), .val (.int x2), .val (.long x3), .second, .val (.int x4), .val (.ref b103), .val (.ref b107), .unset, .unset, .unset, .unset] [(.long x3), (.int x2), (.int x1), (.int x0), (.ref b112), (.ref b112)])) _
    refine XS.aload X112.here hx rfl (hb hby at_18) rfl rfl ?_
    show Steps p.tables e below (T112.setTop (mkF m 20 #[.val (.int x0), .val (.int x1), .val (.int x2), .val (.long x3), .second, .val (.int x4), .val (.ref b103), .val (.ref b107), .unset, .unset, .unset, .unset] [(.ref b103), (.long x3), (.int x2), (.int x1), (.int x0), (.ref b112), (.ref b112)])) _
    refine XS.aload X112.here hx rfl (hb hby at_20) rfl rfl ?_
    show Steps p.tables e below (T112.setTop (mkF m 22 #[.val (.int x0), .val (.int x1), .val (.int x2), .val (.long x3), .second, .val (.int x4), .val (.ref b103), .val (.ref b107), .unset, .unset, .unset, .unset] [(.ref b103), (.ref b103), (.long x3), (.int x2), (.int x1), (.int x0), (.ref b112), (.ref b112)])) _
    refine st118.trans ?_
    show Steps p.tables e below (T118.setTop (mkF m 25 #[.val (.int x0), .val (.int x1), .val (.int x2), .val (.long x3), .second, .val (.int x4), .val (.ref b103), .val (.ref b107), .unset, .unset, .unset, .unset] [(.ref b112)])) _
    refine XS.astore X118.here hx rfl (hb hby at_25) rfl rfl (l' := #[.val (.int x0), .val (.int x1), .val (.int x2), .val (.long x3), .second, .val (.int x4), .val (.ref b103), .val (.ref b107), .val (.ref b112), .unset, .unset, .unset]) rfl ?_
    show Steps p.tables e below (T118.setTop (mkF m 27 #[.val (.int x0), .val (.int x1), .val (.int x2), .val (.long x3), .second, .val (.int x4), .val (.ref b103), .val (.ref b107), .val (.ref b112), .unset, .unset, .unset] [])) _
    refine st125 _ ?_
    show Steps p.tables e below (T125.setTop (mkF m 30 #[.val (.int x0), .val (.int x1), .val (.int x2), .val (.long x3), .second, .val (.int x4), .val (.ref b103), .val (.ref b107), .val (.ref b112), .unset, .unset, .unset] [(.ref b125)])) _
    refine XS.dup X125.here hx rfl (hb hby at_30) rfl rfl ?_
    show Steps p.tables e below (T125.setTop (mkF m 31 #[.val (.int x0), .val (.int x1), .val (.int x2), .val (.long x3), .second, .val (.int x4), .val (.ref b103), .val (.ref b107), .val (.ref b112), .unset, .unset, .unset] [(.ref b125), (.ref b125)])) _
    refine XS.iload X125.here hx rfl (hb hby at_31) rfl ?_
    show Steps p.tables e below (T125.setTop (mkF m 33 #[.val (.int x0), .val (.int x1), .val (.int x2), .val (.long x3), .second, .val (.int x4), .val (.ref b103), .val (.ref b107), .val (.ref b112), .unset, .unset, .unset] [(.int x4), (.ref b125), (.ref b125)])) _
    refine XS.iloadN X125.here hx rfl (hb hby at_33) rfl ?_
    show Steps p.tables e below (T125.setTop (mkF m 34 #[.val (.int x0), .val (.int x1), .val (.int x2), .val (.long x3), .second, .val (.int x4), .val (.ref b103), .val (.ref b107), .val (.ref b112), .unset, .unset, .unset] [(.int x1), (.int x4), (.ref b125), (.ref b125)])) _
    refine XS.iload X125.here hx rfl (hb hby at_34) rfl ?_
    show Steps p.tables e below (T125.setTop (mkF m 36 #[.val (.int x0), .val (.int x1), .val (.int x2), .val (.long x3), .second, .val (.int x4), .val (.ref b103), .val (.ref b107), .val (.ref b112), .unset, .unset, .unset] [(.int x4), (.int x1), (.int x4), (.ref b125), (.ref b125)])) _
    refine XS.ixor X125.here hx rfl (hb hby at_36) rfl ?_
    show Steps p.tables e below (T125.setTop (mkF m 37 #[.val (.int x0), .val (.int x1), .val (.int x2), .val (.long x3), .second, .val (.int x4), .val (.ref b103), .val (.ref b107), .val (.ref b112), .unset, .unset, .unset] [(.int (x1 ^^^ x4)), (.int x4), (.ref b125), (.ref b125)])) _
    refine XS.iloadN X125.here hx rfl (hb hby at_37) rfl ?_
    show Steps p.tables e below (T125.setTop (mkF m 38 #[.val (.int x0), .val (.int x1), .val (.int x2), .val (.long x3), .second, .val (.int x4), .val (.ref b103), .val (.ref b107), .val (.ref b112), .unset, .unset, .unset] [(.int x2), (.int (x1 ^^^ x4)), (.int x4), (.ref b125), (.ref b125)])) _
    refine XS.iconst X125.here hx rfl (hb hby at_38) ?_
    show Steps p.tables e below (T125.setTop (mkF m 39 #[.val (.int x0), .val (.int x1), .val (.int x2), .val (.long x3), .second, .val (.int x4), .val (.ref b103), .val (.ref b107), .val (.ref b112), .unset, .unset, .unset] [(.int (1 : Int32)), (.int x2), (.int (x1 ^^^ x4)), (.int x4), (.ref b125), (.ref b125)])) _
    refine XS.ixor X125.here hx rfl (hb hby at_39) rfl ?_
    show Steps p.tables e below (T125.setTop (mkF m 40 #[.val (.int x0), .val (.int x1), .val (.int x2), .val (.long x3), .second, .val (.int x4), .val (.ref b103), .val (.ref b107), .val (.ref b112), .unset, .unset, .unset] [(.int (x2 ^^^ (1 : Int32))), (.int (x1 ^^^ x4)), (.int x4), (.ref b125), (.ref b125)])) _
    refine XS.lloadN X125.here hx rfl (hb hby at_40) rfl ?_
    show Steps p.tables e below (T125.setTop (mkF m 41 #[.val (.int x0), .val (.int x1), .val (.int x2), .val (.long x3), .second, .val (.int x4), .val (.ref b103), .val (.ref b107), .val (.ref b112), .unset, .unset, .unset] [(.long x3), (.int (x2 ^^^ (1 : Int32))), (.int (x1 ^^^ x4)), (.int x4), (.ref b125), (.ref b125)])) _
    refine X125.ldc2Long hx hown (mvT hZ (hw _ (List.mem_of_getElem? (i := 31) rfl))) (g := (mkF m 41 #[.val (.int x0), .val (.int x1), .val (.int x2), .val (.long x3), .second, .val (.int x4), .val (.ref b103), .val (.ref b107), .val (.ref b112), .unset, .unset, .unset] [(.long x3), (.int (x2 ^^^ (1 : Int32))), (.int (x1 ^^^ x4)), (.int x4), (.ref b125), (.ref b125)])) rfl (hb hby at_41) _ ?_
    show Steps p.tables e below (T125.setTop (mkF m 44 #[.val (.int x0), .val (.int x1), .val (.int x2), .val (.long x3), .second, .val (.int x4), .val (.ref b103), .val (.ref b107), .val (.ref b112), .unset, .unset, .unset] [(.long (-1 : Int64)), (.long x3), (.int (x2 ^^^ (1 : Int32))), (.int (x1 ^^^ x4)), (.int x4), (.ref b125), (.ref b125)])) _
    refine XS.lxor X125.here hx rfl (hb hby at_44) rfl ?_
    show Steps p.tables e below (T125.setTop (mkF m 45 #[.val (.int x0), .val (.int x1), .val (.int x2), .val (.long x3), .second, .val (.int x4), .val (.ref b103), .val (.ref b107), .val (.ref b112), .unset, .unset, .unset] [(.long (x3 ^^^ (-1 : Int64))), (.int (x2 ^^^ (1 : Int32))), (.int (x1 ^^^ x4)), (.int x4), (.ref b125), (.ref b125)])) _
    refine XS.aload X125.here hx rfl (hb hby at_45) rfl rfl ?_
    show Steps p.tables e below (T125.setTop (mkF m 47 #[.val (.int x0), .val (.int x1), .val (.int x2), .val (.long x3), .second, .val (.int x4), .val (.ref b103), .val (.ref b107), .val (.ref b112), .unset, .unset, .unset] [(.ref b107), (.long (x3 ^^^ (-1 : Int64))), (.int (x2 ^^^ (1 : Int32))), (.int (x1 ^^^ x4)), (.int x4), (.ref b125), (.ref b125)])) _
    refine XS.aload X125.here hx rfl (hb hby at_47) rfl rfl ?_
    show Steps p.tables e below (T125.setTop (mkF m 49 #[.val (.int x0), .val (.int x1), .val (.int x2), .val (.long x3), .second, .val (.int x4), .val (.ref b103), .val (.ref b107), .val (.ref b112), .unset, .unset, .unset] [(.ref b103), (.ref b107), (.long (x3 ^^^ (-1 : Int64))), (.int (x2 ^^^ (1 : Int32))), (.int (x1 ^^^ x4)), (.int x4), (.ref b125), (.ref b125)])) _
    refine st136.trans ?_
    exact kk)
  obtain ⟨T149, h149, X149, e149, E149, A149, D149, -, st149⟩ := newO X136 hx hZ hown (hw _ (List.mem_of_getElem? (i := 1) rfl)) (hw _ (List.mem_of_getElem? (i := 2) rfl)) (hw _ (List.mem_of_getElem? (i := 3) rfl)) (rfl : T136.heap = T136.heap) (g := (mkF m 54 #[.val (.int x0), .val (.int x1), .val (.int x2), .val (.long x3), .second, .val (.int x4), .val (.ref b103), .val (.ref b107), .val (.ref b112), .val (.ref b125), .unset, .unset] [])) rfl (hb hby at_54) (by decide) (by decide)
  obtain ⟨b149, g149⟩ : ∃ z, z = T136.heap.size := ⟨_, rfl⟩
  rw [← g149] at A149 D149 st149
  have ne_em_b149 : em ≠ b149 := Nat.ne_of_lt (Nat.lt_of_lt_of_le (f139).lt (Nat.le_of_eq g149.symm))
  have ne_b103_b149 : b103 ≠ b149 := Nat.ne_of_lt (Nat.lt_of_lt_of_le (f140).lt (Nat.le_of_eq g149.symm))
  have ne_b107_b149 : b107 ≠ b149 := Nat.ne_of_lt (Nat.lt_of_lt_of_le (f141).lt (Nat.le_of_eq g149.symm))
  have ne_b112_b149 : b112 ≠ b149 := Nat.ne_of_lt (Nat.lt_of_lt_of_le (f142).lt (Nat.le_of_eq g149.symm))
  have ne_b125_b149 : b125 ≠ b149 := Nat.ne_of_lt (Nat.lt_of_lt_of_le (f147).lt (Nat.le_of_eq g149.symm))
  have ge_b149 : n0 ≤ b149 := Nat.le_trans f137 (Nat.le_of_eq g149.symm)
  have f150 : n0 ≤ h149.size := Nat.le_trans f137 E149.1
  have f151 : Old Z n0 h149 := f138.ext E149
  have f152 : ALen Z h149 em .byte (0 : Int32) := f139.ext E149
  have f153 : ALen Z h149 b103 .byte (0 : Int32) := f140.ext E149
  have f154 : ALen Z h149 b107 .byte (3 : Int32) := f141.ext E149
  have f155 : Exa Z h149 b112 "com/example/proxy_to_stub/proxytostub/transport/Frame" := f142.ext E149
  have f156 : Fld Z h149 b112 "com/example/proxy_to_stub/proxytostub/transport/Frame" "flags" "I" (.int x2) := f143.ext E149
  have f157 : Fld Z h149 b112 "com/example/proxy_to_stub/proxytostub/transport/Frame" "objects" "[B" (.ref b103) := f144.ext E149
  have f158 : Fld Z h149 b112 "com/example/proxy_to_stub/proxytostub/transport/Frame" "data" "[B" (.ref b103) := f145.ext E149
  have f159 : Fld Z h149 b112 "com/example/proxy_to_stub/proxytostub/transport/Frame" "tail" "[B" (.ref em) := f146.ext E149
  have f160 : Exa Z h149 b125 "com/example/proxy_to_stub/proxytostub/transport/Frame" := f147.ext E149
  have f161 : Fld Z h149 b125 "com/example/proxy_to_stub/proxytostub/transport/Frame" "flags" "I" (.int (x2 ^^^ (1 : Int32))) := Ff136.ext E149
  have f162 : Fld Z h149 b125 "com/example/proxy_to_stub/proxytostub/transport/Frame" "objects" "[B" (.ref b107) := Fo136.ext E149
  have f163 : Fld Z h149 b125 "com/example/proxy_to_stub/proxytostub/transport/Frame" "data" "[B" (.ref b103) := Fd136.ext E149
  have f164 : Fld Z h149 b125 "com/example/proxy_to_stub/proxytostub/transport/Frame" "tail" "[B" (.ref em) := Ft136.ext E149
  have F149_16 : Fld Z h149 b149 "com/example/proxy_to_stub/proxytostub/transport/Frame" "kind" "I" (.int (0 : Int32)) := D149 (Or.inr (hw _ (List.mem_of_getElem? (i := 16) rfl))) (ty := .int) (by decide)
  have F149_18 : Fld Z h149 b149 "com/example/proxy_to_stub/proxytostub/transport/Frame" "code" "I" (.int (0 : Int32)) := D149 (Or.inr (hw _ (List.mem_of_getElem? (i := 18) rfl))) (ty := .int) (by decide)
  have F149_20 : Fld Z h149 b149 "com/example/proxy_to_stub/proxytostub/transport/Frame" "flags" "I" (.int (0 : Int32)) := D149 (Or.inr (hw _ (List.mem_of_getElem? (i := 20) rfl))) (ty := .int) (by decide)
  have F149_22 : Fld Z h149 b149 "com/example/proxy_to_stub/proxytostub/transport/Frame" "target" "J" (.long (0 : Int64)) := D149 (Or.inr (hw _ (List.mem_of_getElem? (i := 22) rfl))) (ty := .long) (by decide)
  have F149_24 : Fld Z h149 b149 "com/example/proxy_to_stub/proxytostub/transport/Frame" "objects" "[B" .null := D149 (Or.inr (hw _ (List.mem_of_getElem? (i := 24) rfl))) (ty := (.array .byte)) (by decide)
  have F149_26 : Fld Z h149 b149 "com/example/proxy_to_stub/proxytostub/transport/Frame" "data" "[B" .null := D149 (Or.inr (hw _ (List.mem_of_getElem? (i := 26) rfl))) (ty := (.array .byte)) (by decide)
  have F149_28 : Fld Z h149 b149 "com/example/proxy_to_stub/proxytostub/transport/Frame" "dataLength" "I" (.int (0 : Int32)) := D149 (Or.inr (hw _ (List.mem_of_getElem? (i := 28) rfl))) (ty := .int) (by decide)
  have F149_30 : Fld Z h149 b149 "com/example/proxy_to_stub/proxytostub/transport/Frame" "tail" "[B" .null := D149 (Or.inr (hw _ (List.mem_of_getElem? (i := 30) rfl))) (ty := (.array .byte)) (by decide)
  obtain ⟨vv165, _, ⟨T165, L165, k165, n165⟩, -, X165, ⟨Lc165, hQ165, l165, y165, z165⟩, st165⟩ := X149.specialBack hx (y := (⟨"com/example/proxy_to_stub/proxytostub/transport/Frame", "<init>", "(IIIJ[B[B)V"⟩ : MethodName)) rfl hown (mvT hZ (hw _ (List.mem_of_getElem? (i := 4) rfl))) (mvT hZ (hw _ (List.mem_of_getElem? (i := 5) rfl))) (mvT hZ (hw _ (List.mem_of_getElem? (i := 6) rfl))) (by decide) (backOf (W := 1) (rm_c1 l Z a0 hw [] b149 (x0 ^^^ x4) x4 (x2 ^^^ (x4 &&& (-2 : Int32))) (x3 ^^^ (x4.toInt64)) b103 b107 (3 : Int32) em h149 n0 f150 A149 F149_16 F149_18 F149_20 F149_22 F149_24 F149_26 F149_28 F149_30 ge_b149 f154 (SE.ext f151.2)) hZ (hw _ (List.mem_of_getElem? (i := 6) rfl)) (hw _ (List.mem_of_getElem? (i := 3) rfl)) (by decide) (by decide)) (g := (mkF m 80 #[.val (.int x0), .val (.int x1), .val (.int x2), .val (.long x3), .second, .val (.int x4), .val (.ref b103), .val (.ref b107), .val (.ref b112), .val (.ref b125), .unset, .unset] [(.ref b107), (.ref b103), (.long (x3 ^^^ (x4.toInt64))), (.int (x2 ^^^ (x4 &&& (-2 : Int32)))), (.int x4), (.int (x0 ^^^ x4)), (.ref b149), (.ref b149)])) rfl (by rw [hml]; rfl) (Steps.refl _) (a := b149) (argsL := [(.int (x0 ^^^ x4)), (.int x4), (.int (x2 ^^^ (x4 &&& (-2 : Int32)))), (.long (x3 ^^^ (x4.toInt64))), (.ref b103), (.ref b107)]) (rest := [(.ref b149)]) (lenOf own_pd_1 rfl) rfl (by show 2 * 0 + _ ≤ _; exact Nat.le_of_eq rfl) (hb hby at_80) (fun _ _ => ⟨rfl, e149, (by decide : 5 + 0 ≤ _), (by decide : 30 + 0 ≤ _)⟩)
  dsimp only [Pt.U, Pt.locs, Pt.cells, Pt.slots] at X165 l165 y165 z165 st165 hQ165
  subst l165 y165 z165
  obtain ⟨rfl, N165q, K165, Eq165, Ff165, Fo165, Fd165, Ft165⟩ := hQ165
  have N165 := Fr.app N136 N165q
  have f166 : n0 ≤ T165.heap.size := Nat.le_trans f150 K165.1
  have f167 : Old Z n0 T165.heap := f151.keep K165 (allS ge_b149 all0)
  have f168 : ALen Z T165.heap em .byte (0 : Int32) := f152.keep K165
  have f169 : ALen Z T165.heap b103 .byte (0 : Int32) := f153.keep K165
  have f170 : ALen Z T165.heap b107 .byte (3 : Int32) := f154.keep K165
  have f171 : Exa Z T165.heap b112 "com/example/proxy_to_stub/proxytostub/transport/Frame" := f155.keep K165
  have f172 : Fld Z T165.heap b112 "com/example/proxy_to_stub/proxytostub/transport/Frame" "flags" "I" (.int x2) := f156.keep K165 (ninS ne_b112_b149 nin0)
  have f173 : Fld Z T165.heap b112 "com/example/proxy_to_stub/proxytostub/transport/Frame" "objects" "[B" (.ref b103) := f157.keep K165 (ninS ne_b112_b149 nin0)
  have f174 : Fld Z T165.heap b112 "com/example/proxy_to_stub/proxytostub/transport/Frame" "data" "[B" (.ref b103) := f158.keep K165 (ninS ne_b112_b149 nin0)
  have f175 : Fld Z T165.heap b112 "com/example/proxy_to_stub/proxytostub/transport/Frame" "tail" "[B" (.ref em) := f159.keep K165 (ninS ne_b112_b149 nin0)
  have f176 : Exa Z T165.heap b125 "com/example/proxy_to_stub/proxytostub/transport/Frame" := f160.keep K165
  have f177 : Fld Z T165.heap b125 "com/example/proxy_to_stub/proxytostub/transport/Frame" "flags" "I" (.int (x2 ^^^ (1 : Int32))) := f161.keep K165 (ninS ne_b125_b149 nin0)
  have f178 : Fld Z T165.heap b125 "com/example/proxy_to_stub/proxytostub/transport/Frame" "objects" "[B" (.ref b107) := f162.keep K165 (ninS ne_b125_b149 nin0)
  have f179 : Fld Z T165.heap b125 "com/example/proxy_to_stub/proxytostub/transport/Frame" "data" "[B" (.ref b103) := f163.keep K165 (ninS ne_b125_b149 nin0)
  have f180 : Fld Z T165.heap b125 "com/example/proxy_to_stub/proxytostub/transport/Frame" "tail" "[B" (.ref em) := f164.keep K165 (ninS ne_b125_b149 nin0)
  have f181 : Exa Z T165.heap b149 "com/example/proxy_to_stub/proxytostub/transport/Frame" := A149.keep K165
  have pre182 : ∀ t, Steps p.tables e below (T165.setTop (mkF m 88 #[.val (.int x0), .val (.int x1), .val (.int x2), .val (.long x3), .second, .val (.int x4), .val (.ref b103), .val (.ref b107), .val (.ref b112), .val (.ref b125), .val (.ref b149), .unset] [(.int (x2 % (2 : Int32)))])) t → Steps p.tables e below (s₁.setTop (entryFrame m #[(.int x0), (.int x1), (.int x2), (.long x3), (.int x4)] maxLocals)) t := fun tt kk => pre148 tt (by
    show Steps p.tables e below (T136.setTop (mkF m 52 #[.val (.int x0), .val (.int x1), .val (.int x2), .val (.long x3), .second, .val (.int x4), .val (.ref b103), .val (.ref b107), .val (.ref b112), .unset, .unset, .unset] [(.ref b125)])) _
    refine XS.astore X136.here hx rfl (hb hby at_52) rfl rfl (l' := #[.val (.int x0), .val (.int x1), .val (.int x2), .val (.long x3), .second, .val (.int x4), .val (.ref b103), .val (.ref b107), .val (.ref b112), .val (.ref b125), .unset, .unset]) rfl ?_
    show Steps p.tables e below (T136.setTop (mkF m 54 #[.val (.int x0), .val (.int x1), .val (.int x2), .val (.long x3), .second, .val (.int x4), .val (.ref b103), .val (.ref b107), .val (.ref b112), .val (.ref b125), .unset, .unset] [])) _
    refine st149 _ ?_
    show Steps p.tables e below (T149.setTop (mkF m 57 #[.val (.int x0), .val (.int x1), .val (.int x2), .val (.long x3), .second, .val (.int x4), .val (.ref b103), .val (.ref b107), .val (.ref b112), .val (.ref b125), .unset, .unset] [(.ref b149)])) _
    refine XS.dup X149.here hx rfl (hb hby at_57) rfl rfl ?_
    show Steps p.tables e below (T149.setTop (mkF m 58 #[.val (.int x0), .val (.int x1), .val (.int x2), .val (.long x3), .second, .val (.int x4), .val (.ref b103), .val (.ref b107), .val (.ref b112), .val (.ref b125), .unset, .unset] [(.ref b149), (.ref b149)])) _
    refine XS.iloadN X149.here hx rfl (hb hby at_58) rfl ?_
    show Steps p.tables e below (T149.setTop (mkF m 59 #[.val (.int x0), .val (.int x1), .val (.int x2), .val (.long x3), .second, .val (.int x4), .val (.ref b103), .val (.ref b107), .val (.ref b112), .val (.ref b125), .unset, .unset] [(.int x0), (.ref b149), (.ref b149)])) _
    refine XS.iload X149.here hx rfl (hb hby at_59) rfl ?_
    show Steps p.tables e below (T149.setTop (mkF m 61 #[.val (.int x0), .val (.int x1), .val (.int x2), .val (.long x3), .second, .val (.int x4), .val (.ref b103), .val (.ref b107), .val (.ref b112), .val (.ref b125), .unset, .unset] [(.int x4), (.int x0), (.ref b149), (.ref b149)])) _
    refine XS.ixor X149.here hx rfl (hb hby at_61) rfl ?_
    show Steps p.tables e below (T149.setTop (mkF m 62 #[.val (.int x0), .val (.int x1), .val (.int x2), .val (.long x3), .second, .val (.int x4), .val (.ref b103), .val (.ref b107), .val (.ref b112), .val (.ref b125), .unset, .unset] [(.int (x0 ^^^ x4)), (.ref b149), (.ref b149)])) _
    refine XS.iload X149.here hx rfl (hb hby at_62) rfl ?_
    show Steps p.tables e below (T149.setTop (mkF m 64 #[.val (.int x0), .val (.int x1), .val (.int x2), .val (.long x3), .second, .val (.int x4), .val (.ref b103), .val (.ref b107), .val (.ref b112), .val (.ref b125), .unset, .unset] [(.int x4), (.int (x0 ^^^ x4)), (.ref b149), (.ref b149)])) _
    refine XS.iloadN X149.here hx rfl (hb hby at_64) rfl ?_
    show Steps p.tables e below (T149.setTop (mkF m 65 #[.val (.int x0), .val (.int x1), .val (.int x2), .val (.long x3), .second, .val (.int x4), .val (.ref b103), .val (.ref b107), .val (.ref b112), .val (.ref b125), .unset, .unset] [(.int x2), (.int x4), (.int (x0 ^^^ x4)), (.ref b149), (.ref b149)])) _
    refine XS.iload X149.here hx rfl (hb hby at_65) rfl ?_
    show Steps p.tables e below (T149.setTop (mkF m 67 #[.val (.int x0), .val (.int x1), .val (.int x2), .val (.long x3), .second, .val (.int x4), .val (.ref b103), .val (.ref b107), .val (.ref b112), .val (.ref b125), .unset, .unset] [(.int x4), (.int x2), (.int x4), (.int (x0 ^^^ x4)), (.ref b149), (.ref b149)])) _
    refine XS.bipush X149.here hx rfl (hb hby at_67) ?_
    show Steps p.tables e below (T149.setTop (mkF m 69 #[.val (.int x0), .val (.int x1), .val (.int x2), .val (.long x3), .second, .val (.int x4), .val (.ref b103), .val (.ref b107), .val (.ref b112), .val (.ref b125), .unset, .unset] [(.int (-2 : Int32)), (.int x4), (.int x2), (.int x4), (.int (x0 ^^^ x4)), (.ref b149), (.ref b149)])) _
    refine XS.iand X149.here hx rfl (hb hby at_69) rfl ?_
    show Steps p.tables e below (T149.setTop (mkF m 70 #[.val (.int x0), .val (.int x1), .val (.int x2), .val (.long x3), .second, .val (.int x4), .val (.ref b103), .val (.ref b107), .val (.ref b112), .val (.ref b125), .unset, .unset] [(.int (x4 &&& (-2 : Int32))), (.int x2), (.int x4), (.int (x0 ^^^ x4)), (.ref b149), (.ref b149)])) _
    refine XS.ixor X149.here hx rfl (hb hby at_70) rfl ?_
    show Steps p.tables e below (T149.setTop (mkF m 71 #[.val (.int x0), .val (.int x1), .val (.int x2), .val (.long x3), .second, .val (.int x4), .val (.ref b103), .val (.ref b107), .val (.ref b112), .val (.ref b125), .unset, .unset] [(.int (x2 ^^^ (x4 &&& (-2 : Int32)))), (.int x4), (.int (x0 ^^^ x4)), (.ref b149), (.ref b149)])) _
    refine XS.lloadN X149.here hx rfl (hb hby at_71) rfl ?_
    show Steps p.tables e below (T149.setTop (mkF m 72 #[.val (.int x0), .val (.int x1), .val (.int x2), .val (.long x3), .second, .val (.int x4), .val (.ref b103), .val (.ref b107), .val (.ref b112), .val (.ref b125), .unset, .unset] [(.long x3), (.int (x2 ^^^ (x4 &&& (-2 : Int32)))), (.int x4), (.int (x0 ^^^ x4)), (.ref b149), (.ref b149)])) _
    refine XS.iload X149.here hx rfl (hb hby at_72) rfl ?_
    show Steps p.tables e below (T149.setTop (mkF m 74 #[.val (.int x0), .val (.int x1), .val (.int x2), .val (.long x3), .second, .val (.int x4), .val (.ref b103), .val (.ref b107), .val (.ref b112), .val (.ref b125), .unset, .unset] [(.int x4), (.long x3), (.int (x2 ^^^ (x4 &&& (-2 : Int32)))), (.int x4), (.int (x0 ^^^ x4)), (.ref b149), (.ref b149)])) _
    refine XS.i2l X149.here hx rfl (hb hby at_74) rfl ?_
    show Steps p.tables e below (T149.setTop (mkF m 75 #[.val (.int x0), .val (.int x1), .val (.int x2), .val (.long x3), .second, .val (.int x4), .val (.ref b103), .val (.ref b107), .val (.ref b112), .val (.ref b125), .unset, .unset] [(.long (x4.toInt64)), (.long x3), (.int (x2 ^^^ (x4 &&& (-2 : Int32)))), (.int x4), (.int (x0 ^^^ x4)), (.ref b149), (.ref b149)])) _
    refine XS.lxor X149.here hx rfl (hb hby at_75) rfl ?_
    show Steps p.tables e below (T149.setTop (mkF m 76 #[.val (.int x0), .val (.int x1), .val (.int x2), .val (.long x3), .second, .val (.int x4), .val (.ref b103), .val (.ref b107), .val (.ref b112), .val (.ref b125), .unset, .unset] [(.long (x3 ^^^ (x4.toInt64))), (.int (x2 ^^^ (x4 &&& (-2 : Int32)))), (.int x4), (.int (x0 ^^^ x4)), (.ref b149), (.ref b149)])) _
    refine XS.aload X149.here hx rfl (hb hby at_76) rfl rfl ?_
    show Steps p.tables e below (T149.setTop (mkF m 78 #[.val (.int x0), .val (.int x1), .val (.int x2), .val (.long x3), .second, .val (.int x4), .val (.ref b103), .val (.ref b107), .val (.ref b112), .val (.ref b125), .unset, .unset] [(.ref b103), (.long (x3 ^^^ (x4.toInt64))), (.int (x2 ^^^ (x4 &&& (-2 : Int32)))), (.int x4), (.int (x0 ^^^ x4)), (.ref b149), (.ref b149)])) _
    refine XS.aload X149.here hx rfl (hb hby at_78) rfl rfl ?_
    show Steps p.tables e below (T149.setTop (mkF m 80 #[.val (.int x0), .val (.int x1), .val (.int x2), .val (.long x3), .second, .val (.int x4), .val (.ref b103), .val (.ref b107), .val (.ref b112), .val (.ref b125), .unset, .unset] [(.ref b107), (.ref b103), (.long (x3 ^^^ (x4.toInt64))), (.int (x2 ^^^ (x4 &&& (-2 : Int32)))), (.int x4), (.int (x0 ^^^ x4)), (.ref b149), (.ref b149)])) _
    refine st165.trans ?_
    show Steps p.tables e below (T165.setTop (mkF m 83 #[.val (.int x0), .val (.int x1), .val (.int x2), .val (.long x3), .second, .val (.int x4), .val (.ref b103), .val (.ref b107), .val (.ref b112), .val (.ref b125), .unset, .unset] [(.ref b149)])) _
    refine XS.astore X165.here hx rfl (hb hby at_83) rfl rfl (l' := #[.val (.int x0), .val (.int x1), .val (.int x2), .val (.long x3), .second, .val (.int x4), .val (.ref b103), .val (.ref b107), .val (.ref b112), .val (.ref b125), .val (.ref b149), .unset]) rfl ?_
    show Steps p.tables e below (T165.setTop (mkF m 85 #[.val (.int x0), .val (.int x1), .val (.int x2), .val (.long x3), .second, .val (.int x4), .val (.ref b103), .val (.ref b107), .val (.ref b112), .val (.ref b125), .val (.ref b149), .unset] [])) _
    refine XS.iloadN X165.here hx rfl (hb hby at_85) rfl ?_
    show Steps p.tables e below (T165.setTop (mkF m 86 #[.val (.int x0), .val (.int x1), .val (.int x2), .val (.long x3), .second, .val (.int x4), .val (.ref b103), .val (.ref b107), .val (.ref b112), .val (.ref b125), .val (.ref b149), .unset] [(.int x2)])) _
    refine XS.iconst X165.here hx rfl (hb hby at_86) ?_
    show Steps p.tables e below (T165.setTop (mkF m 87 #[.val (.int x0), .val (.int x1), .val (.int x2), .val (.long x3), .second, .val (.int x4), .val (.ref b103), .val (.ref b107), .val (.ref b112), .val (.ref b125), .val (.ref b149), .unset] [(.int (2 : Int32)), (.int x2)])) _
    refine iremM X165 hx rfl (hb hby at_87) rfl (by decide) ?_
    exact kk)
  by_cases hc88 : (x2 % (2 : Int32)) = (0 : Int32)
  · obtain ⟨cq183, kq183, q183a, q183b, q183c⟩ := isOf hZ (rfl : T165.heap = T165.heap) f171
    obtain ⟨vv183, _, ⟨T183, L183, k183, n183⟩, -, X183, ⟨Lc183, hQ183, l183, y183, z183⟩, st183⟩ := X165.virtualBack hx (y := (⟨"com/example/proxy_to_stub/proxytostub/transport/Frame", "isOneway", "()Z"⟩ : MethodName)) (z := (⟨"com/example/proxy_to_stub/proxytostub/transport/Frame", "isOneway", "()Z"⟩ : MethodName)) hown (mvT hZ (hw _ (List.mem_of_getElem? (i := 32) rfl))) (mvT hZ (hw _ (List.mem_of_getElem? (i := 33) rfl))) (notFace_of_selects (args := #[]) (mvT hZ (hw _ (List.mem_of_getElem? (i := 35) rfl)))) (mvT hZ (hw _ (List.mem_of_getElem? (i := 35) rfl))) (mvT hZ (hw _ (List.mem_of_getElem? (i := 34) rfl))) (by decide) (backOf (W := 0) (rm_io l Z a0 hw [] b112 x2 T165.heap n0 f166 f172) hZ (hw _ (List.mem_of_getElem? (i := 36) rfl)) (hw _ (List.mem_of_getElem? (i := 3) rfl)) (by decide) (by decide)) q183a q183c (g := (mkF m 100 #[.val (.int x0), .val (.int x1), .val (.int x2), .val (.long x3), .second, .val (.int x4), .val (.ref b103), .val (.ref b107), .val (.ref b112), .val (.ref b125), .val (.ref b149), .val (.int (0 : Int32))] [(.ref b112)])) rfl (by rw [hml]; rfl) (Steps.refl _) (argsL := []) (rest := []) (lenOf own_pd_2 rfl) rfl (by show 2 * 0 + _ ≤ _; exact Nat.le_of_eq rfl) (hb hby at_100) (fun _ _ => ⟨rfl, (rfl : T165.heap = T165.heap), (by decide : 5 + 0 ≤ _), (by decide : 30 + 0 ≤ _)⟩)
    dsimp only [Pt.U, Pt.locs, Pt.cells, Pt.slots] at X183 l183 y183 z183 st183 hQ183
    subst l183 y183 z183
    rw [if_pos ((own_bit x2).mp hc88)] at hQ183
    obtain ⟨rfl, N183q, e183⟩ := hQ183
    have N183 := Fr.app N165 N183q
    have pre184 : ∀ t, Steps p.tables e below (T183.setTop (mkF m 105 #[.val (.int x0), .val (.int x1), .val (.int x2), .val (.long x3), .second, .val (.int x4), .val (.ref b103), .val (.ref b107), .val (.ref b112), .val (.ref b125), .val (.ref b149), .val (.int (0 : Int32))] [(.int (0 : Int32)), (.int (0 : Int32))])) t → Steps p.tables e below (s₁.setTop (entryFrame m #[(.int x0), (.int x1), (.int x2), (.long x3), (.int x4)] maxLocals)) t := fun tt kk => pre182 tt (by
      show Steps p.tables e below (T165.setTop (mkF m 88 #[.val (.int x0), .val (.int x1), .val (.int x2), .val (.long x3), .second, .val (.int x4), .val (.ref b103), .val (.ref b107), .val (.ref b112), .val (.ref b125), .val (.ref b149), .unset] [(.int (x2 % (2 : Int32)))])) _
      refine XS.ifYes X165.here hx rfl (pc0 := 88) (pc' := 95) rfl (hb hby at_88) rfl ((if0 _ _).trans (teq hc88).1) (by decide) (by decide) ?_
      show Steps p.tables e below (T165.setTop (mkF m 95 #[.val (.int x0), .val (.int x1), .val (.int x2), .val (.long x3), .second, .val (.int x4), .val (.ref b103), .val (.ref b107), .val (.ref b112), .val (.ref b125), .val (.ref b149), .unset] [])) _
      refine XS.iconst X165.here hx rfl (hb hby at_95) ?_
      show Steps p.tables e below (T165.setTop (mkF m 96 #[.val (.int x0), .val (.int x1), .val (.int x2), .val (.long x3), .second, .val (.int x4), .val (.ref b103), .val (.ref b107), .val (.ref b112), .val (.ref b125), .val (.ref b149), .unset] [(.int (0 : Int32))])) _
      refine XS.istore X165.here hx rfl (hb hby at_96) rfl (l' := #[.val (.int x0), .val (.int x1), .val (.int x2), .val (.long x3), .second, .val (.int x4), .val (.ref b103), .val (.ref b107), .val (.ref b112), .val (.ref b125), .val (.ref b149), .val (.int (0 : Int32))]) rfl ?_
      show Steps p.tables e below (T165.setTop (mkF m 98 #[.val (.int x0), .val (.int x1), .val (.int x2), .val (.long x3), .second, .val (.int x4), .val (.ref b103), .val (.ref b107), .val (.ref b112), .val (.ref b125), .val (.ref b149), .val (.int (0 : Int32))] [])) _
      refine XS.aload X165.here hx rfl (hb hby at_98) rfl rfl ?_
      show Steps p.tables e below (T165.setTop (mkF m 100 #[.val (.int x0), .val (.int x1), .val (.int x2), .val (.long x3), .second, .val (.int x4), .val (.ref b103), .val (.ref b107), .val (.ref b112), .val (.ref b125), .val (.ref b149), .val (.int (0 : Int32))] [(.ref b112)])) _
      refine st183.trans ?_
      show Steps p.tables e below (T183.setTop (mkF m 103 #[.val (.int x0), .val (.int x1), .val (.int x2), .val (.long x3), .second, .val (.int x4), .val (.ref b103), .val (.ref b107), .val (.ref b112), .val (.ref b125), .val (.ref b149), .val (.int (0 : Int32))] [(.int (0 : Int32))])) _
      refine XS.iload X183.here hx rfl (hb hby at_103) rfl ?_
      exact kk)
    obtain ⟨cq185, kq185, q185a, q185b, q185c⟩ := isOf hZ e183 f176
    obtain ⟨vv185, _, ⟨T185, L185, k185, n185⟩, -, X185, ⟨Lc185, hQ185, l185, y185, z185⟩, st185⟩ := X183.virtualBack hx (y := (⟨"com/example/proxy_to_stub/proxytostub/transport/Frame", "isOneway", "()Z"⟩ : MethodName)) (z := (⟨"com/example/proxy_to_stub/proxytostub/transport/Frame", "isOneway", "()Z"⟩ : MethodName)) hown (mvT hZ (hw _ (List.mem_of_getElem? (i := 32) rfl))) (mvT hZ (hw _ (List.mem_of_getElem? (i := 33) rfl))) (notFace_of_selects (args := #[]) (mvT hZ (hw _ (List.mem_of_getElem? (i := 35) rfl)))) (mvT hZ (hw _ (List.mem_of_getElem? (i := 35) rfl))) (mvT hZ (hw _ (List.mem_of_getElem? (i := 34) rfl))) (by decide) (backOf (W := 0) (rm_io l Z a0 hw [] b125 (x2 ^^^ (1 : Int32)) T165.heap n0 f166 f177) hZ (hw _ (List.mem_of_getElem? (i := 36) rfl)) (hw _ (List.mem_of_getElem? (i := 3) rfl)) (by decide) (by decide)) q185a q185c (g := (mkF m 110 #[.val (.int x0), .val (.int x1), .val (.int x2), .val (.long x3), .second, .val (.int x4), .val (.ref b103), .val (.ref b107), .val (.ref b112), .val (.ref b125), .val (.ref b149), .val (.int (0 : Int32))] [(.ref b125)])) rfl (by rw [hml]; rfl) (Steps.refl _) (argsL := []) (rest := []) (lenOf own_pd_2 rfl) rfl (by show 2 * 0 + _ ≤ _; exact Nat.le_of_eq rfl) (hb hby at_110) (fun _ _ => ⟨rfl, e183, (by decide : 5 + 0 ≤ _), (by decide : 30 + 0 ≤ _)⟩)
    dsimp only [Pt.U, Pt.locs, Pt.cells, Pt.slots] at X185 l185 y185 z185 st185 hQ185
    subst l185 y185 z185
    rw [own_f2p hc88] at hQ185
    obtain ⟨rfl, N185q, e185⟩ := hQ185
    have N185 := Fr.app N183 N185q
    have pre186 : ∀ t, Steps p.tables e below (T185.setTop (mkF m 115 #[.val (.int x0), .val (.int x1), .val (.int x2), .val (.long x3), .second, .val (.int x4), .val (.ref b103), .val (.ref b107), .val (.ref b112), .val (.ref b125), .val (.ref b149), .val (.int (0 : Int32))] [(.int (0 : Int32)), (.int (1 : Int32))])) t → Steps p.tables e below (s₁.setTop (entryFrame m #[(.int x0), (.int x1), (.int x2), (.long x3), (.int x4)] maxLocals)) t := fun tt kk => pre184 tt (by
      show Steps p.tables e below (T183.setTop (mkF m 105 #[.val (.int x0), .val (.int x1), .val (.int x2), .val (.long x3), .second, .val (.int x4), .val (.ref b103), .val (.ref b107), .val (.ref b112), .val (.ref b125), .val (.ref b149), .val (.int (0 : Int32))] [(.int (0 : Int32)), (.int (0 : Int32))])) _
      refine XS.icmpNo X183.here hx rfl (hb hby at_105) rfl (teq (by decide : (0 : Int32) = (0 : Int32))).2 ?_
      show Steps p.tables e below (T183.setTop (mkF m 108 #[.val (.int x0), .val (.int x1), .val (.int x2), .val (.long x3), .second, .val (.int x4), .val (.ref b103), .val (.ref b107), .val (.ref b112), .val (.ref b125), .val (.ref b149), .val (.int (0 : Int32))] [])) _
      refine XS.aload X183.here hx rfl (hb hby at_108) rfl rfl ?_
      show Steps p.tables e below (T183.setTop (mkF m 110 #[.val (.int x0), .val (.int x1), .val (.int x2), .val (.long x3), .second, .val (.int x4), .val (.ref b103), .val (.ref b107), .val (.ref b112), .val (.ref b125), .val (.ref b149), .val (.int (0 : Int32))] [(.ref b125)])) _
      refine st185.trans ?_
      show Steps p.tables e below (T185.setTop (mkF m 113 #[.val (.int x0), .val (.int x1), .val (.int x2), .val (.long x3), .second, .val (.int x4), .val (.ref b103), .val (.ref b107), .val (.ref b112), .val (.ref b125), .val (.ref b149), .val (.int (0 : Int32))] [(.int (1 : Int32))])) _
      refine XS.iload X185.here hx rfl (hb hby at_113) rfl ?_
      exact kk)
    have pre187 : ∀ t, Steps p.tables e below (T185.setTop (mkF m 123 #[.val (.int x0), .val (.int x1), .val (.int x2), .val (.long x3), .second, .val (.int x4), .val (.ref b103), .val (.ref b107), .val (.ref b112), .val (.ref b125), .val (.ref b149), .val (.int (0 : Int32))] [(.int (1 : Int32)), (.int (1 : Int32))])) t → Steps p.tables e below (s₁.setTop (entryFrame m #[(.int x0), (.int x1), (.int x2), (.long x3), (.int x4)] maxLocals)) t := fun tt kk => pre186 tt (by
      show Steps p.tables e below (T185.setTop (mkF m 115 #[.val (.int x0), .val (.int x1), .val (.int x2), .val (.long x3), .second, .val (.int x4), .val (.ref b103), .val (.ref b107), .val (.ref b112), .val (.ref b125), .val (.ref b149), .val (.int (0 : Int32))] [(.int (0 : Int32)), (.int (1 : Int32))])) _
      refine XS.ifNo X185.here hx rfl (hb hby at_115) rfl ((if0 _ _).trans (teq (by decide : (0 : Int32) = (0 : Int32))).2) ?_
      show Steps p.tables e below (T185.setTop (mkF m 118 #[.val (.int x0), .val (.int x1), .val (.int x2), .val (.long x3), .second, .val (.int x4), .val (.ref b103), .val (.ref b107), .val (.ref b112), .val (.ref b125), .val (.ref b149), .val (.int (0 : Int32))] [(.int (1 : Int32))])) _
      refine XS.iconst X185.here hx rfl (hb hby at_118) ?_
      show Steps p.tables e below (T185.setTop (mkF m 119 #[.val (.int x0), .val (.int x1), .val (.int x2), .val (.long x3), .second, .val (.int x4), .val (.ref b103), .val (.ref b107), .val (.ref b112), .val (.ref b125), .val (.ref b149), .val (.int (0 : Int32))] [(.int (1 : Int32)), (.int (1 : Int32))])) _
      refine XS.goto X185.here hx rfl (pc0 := 119) (pc' := 123) rfl (hb hby at_119) (by decide) (by decide) ?_
      exact kk)
    obtain ⟨cq188, kq188, q188a, q188b, q188c⟩ := isOf hZ e185 f181
    obtain ⟨vv188, _, ⟨T188, L188, k188, n188⟩, -, X188, ⟨Lc188, hQ188, l188, y188, z188⟩, st188⟩ := X185.virtualBack hx (y := (⟨"com/example/proxy_to_stub/proxytostub/transport/Frame", "isOneway", "()Z"⟩ : MethodName)) (z := (⟨"com/example/proxy_to_stub/proxytostub/transport/Frame", "isOneway", "()Z"⟩ : MethodName)) hown (mvT hZ (hw _ (List.mem_of_getElem? (i := 32) rfl))) (mvT hZ (hw _ (List.mem_of_getElem? (i := 33) rfl))) (notFace_of_selects (args := #[]) (mvT hZ (hw _ (List.mem_of_getElem? (i := 35) rfl)))) (mvT hZ (hw _ (List.mem_of_getElem? (i := 35) rfl))) (mvT hZ (hw _ (List.mem_of_getElem? (i := 34) rfl))) (by decide) (backOf (W := 0) (rm_io l Z a0 hw [] b149 (x2 ^^^ (x4 &&& (-2 : Int32))) T165.heap n0 f166 Ff165) hZ (hw _ (List.mem_of_getElem? (i := 36) rfl)) (hw _ (List.mem_of_getElem? (i := 3) rfl)) (by decide) (by decide)) q188a q188c (g := (mkF m 128 #[.val (.int x0), .val (.int x1), .val (.int x2), .val (.long x3), .second, .val (.int x4), .val (.ref b103), .val (.ref b107), .val (.ref b112), .val (.ref b125), .val (.ref b149), .val (.int (0 : Int32))] [(.ref b149)])) rfl (by rw [hml]; rfl) (Steps.refl _) (argsL := []) (rest := []) (lenOf own_pd_2 rfl) rfl (by show 2 * 0 + _ ≤ _; exact Nat.le_of_eq rfl) (hb hby at_128) (fun _ _ => ⟨rfl, e185, (by decide : 5 + 0 ≤ _), (by decide : 30 + 0 ≤ _)⟩)
    dsimp only [Pt.U, Pt.locs, Pt.cells, Pt.slots] at X188 l188 y188 z188 st188 hQ188
    subst l188 y188 z188
    rw [own_f3, if_pos ((own_bit x2).mp hc88)] at hQ188
    obtain ⟨rfl, N188q, e188⟩ := hQ188
    have N188 := Fr.app N185 N188q
    have pre189 : ∀ t, Steps p.tables e below (T188.setTop (mkF m 133 #[.val (.int x0), .val (.int x1), .val (.int x2), .val (.long x3), .second, .val (.int x4), .val (.ref b103), .val (.ref b107), .val (.ref b112), .val (.ref b125), .val (.ref b149), .val (.int (0 : Int32))] [(.int (0 : Int32)), (.int (0 : Int32))])) t → Steps p.tables e below (s₁.setTop (entryFrame m #[(.int x0), (.int x1), (.int x2), (.long x3), (.int x4)] maxLocals)) t := fun tt kk => pre187 tt (by
      show Steps p.tables e below (T185.setTop (mkF m 123 #[.val (.int x0), .val (.int x1), .val (.int x2), .val (.long x3), .second, .val (.int x4), .val (.ref b103), .val (.ref b107), .val (.ref b112), .val (.ref b125), .val (.ref b149), .val (.int (0 : Int32))] [(.int (1 : Int32)), (.int (1 : Int32))])) _
      refine XS.icmpNo X185.here hx rfl (hb hby at_123) rfl (teq (by decide : (1 : Int32) = (1 : Int32))).2 ?_
      show Steps p.tables e below (T185.setTop (mkF m 126 #[.val (.int x0), .val (.int x1), .val (.int x2), .val (.long x3), .second, .val (.int x4), .val (.ref b103), .val (.ref b107), .val (.ref b112), .val (.ref b125), .val (.ref b149), .val (.int (0 : Int32))] [])) _
      refine XS.aload X185.here hx rfl (hb hby at_126) rfl rfl ?_
      show Steps p.tables e below (T185.setTop (mkF m 128 #[.val (.int x0), .val (.int x1), .val (.int x2), .val (.long x3), .second, .val (.int x4), .val (.ref b103), .val (.ref b107), .val (.ref b112), .val (.ref b125), .val (.ref b149), .val (.int (0 : Int32))] [(.ref b149)])) _
      refine st188.trans ?_
      show Steps p.tables e below (T188.setTop (mkF m 131 #[.val (.int x0), .val (.int x1), .val (.int x2), .val (.long x3), .second, .val (.int x4), .val (.ref b103), .val (.ref b107), .val (.ref b112), .val (.ref b125), .val (.ref b149), .val (.int (0 : Int32))] [(.int (0 : Int32))])) _
      refine XS.iload X188.here hx rfl (hb hby at_131) rfl ?_
      exact kk)
    obtain ⟨fs, hr, hrun, hended, hW, hsame⟩ := X188.leave (v := some (.int (1 : Int32))) (fun h => by rw [Bd.returns] at h; cases h)
    refine ⟨_, _, pre189 _ ?_, hrun, hended, _, _, rfl, ?_, ⟨_, rfl⟩, hW, hsame.mono (by decide) (by decide)⟩
    · show Steps p.tables e below (T188.setTop (mkF m 133 #[.val (.int x0), .val (.int x1), .val (.int x2), .val (.long x3), .second, .val (.int x4), .val (.ref b103), .val (.ref b107), .val (.ref b112), .val (.ref b125), .val (.ref b149), .val (.int (0 : Int32))] [(.int (0 : Int32)), (.int (0 : Int32))])) _
      refine XS.icmpNo X188.here hx rfl (hb hby at_133) rfl (teq (by decide : (0 : Int32) = (0 : Int32))).2 ?_
      show Steps p.tables e below (T188.setTop (mkF m 136 #[.val (.int x0), .val (.int x1), .val (.int x2), .val (.long x3), .second, .val (.int x4), .val (.ref b103), .val (.ref b107), .val (.ref b112), .val (.ref b125), .val (.ref b149), .val (.int (0 : Int32))] [])) _
      refine XS.iconst X188.here hx rfl (hb hby at_136) ?_
      show Steps p.tables e below (T188.setTop (mkF m 137 #[.val (.int x0), .val (.int x1), .val (.int x2), .val (.long x3), .second, .val (.int x4), .val (.ref b103), .val (.ref b107), .val (.ref b112), .val (.ref b125), .val (.ref b149), .val (.int (0 : Int32))] [(.int (1 : Int32))])) _
      refine XS.goto X188.here hx rfl (pc0 := 137) (pc' := 141) rfl (hb hby at_137) (by decide) (by decide) ?_
      show Steps p.tables e below (T188.setTop (mkF m 141 #[.val (.int x0), .val (.int x1), .val (.int x2), .val (.long x3), .second, .val (.int x4), .val (.ref b103), .val (.ref b107), .val (.ref b112), .val (.ref b125), .val (.ref b149), .val (.int (0 : Int32))] [(.int (1 : Int32))])) _
      exact retN X188 hx (t := .boolean) Bd.returns (by simp) (hb hby at_141) hr
    · exact ⟨rfl, N188⟩
  · obtain ⟨cq190, kq190, q190a, q190b, q190c⟩ := isOf hZ (rfl : T165.heap = T165.heap) f171
    obtain ⟨vv190, _, ⟨T190, L190, k190, n190⟩, -, X190, ⟨Lc190, hQ190, l190, y190, z190⟩, st190⟩ := X165.virtualBack hx (y := (⟨"com/example/proxy_to_stub/proxytostub/transport/Frame", "isOneway", "()Z"⟩ : MethodName)) (z := (⟨"com/example/proxy_to_stub/proxytostub/transport/Frame", "isOneway", "()Z"⟩ : MethodName)) hown (mvT hZ (hw _ (List.mem_of_getElem? (i := 32) rfl))) (mvT hZ (hw _ (List.mem_of_getElem? (i := 33) rfl))) (notFace_of_selects (args := #[]) (mvT hZ (hw _ (List.mem_of_getElem? (i := 35) rfl)))) (mvT hZ (hw _ (List.mem_of_getElem? (i := 35) rfl))) (mvT hZ (hw _ (List.mem_of_getElem? (i := 34) rfl))) (by decide) (backOf (W := 0) (rm_io l Z a0 hw [] b112 x2 T165.heap n0 f166 f172) hZ (hw _ (List.mem_of_getElem? (i := 36) rfl)) (hw _ (List.mem_of_getElem? (i := 3) rfl)) (by decide) (by decide)) q190a q190c (g := (mkF m 100 #[.val (.int x0), .val (.int x1), .val (.int x2), .val (.long x3), .second, .val (.int x4), .val (.ref b103), .val (.ref b107), .val (.ref b112), .val (.ref b125), .val (.ref b149), .val (.int (1 : Int32))] [(.ref b112)])) rfl (by rw [hml]; rfl) (Steps.refl _) (argsL := []) (rest := []) (lenOf own_pd_2 rfl) rfl (by show 2 * 0 + _ ≤ _; exact Nat.le_of_eq rfl) (hb hby at_100) (fun _ _ => ⟨rfl, (rfl : T165.heap = T165.heap), (by decide : 5 + 0 ≤ _), (by decide : 30 + 0 ≤ _)⟩)
    dsimp only [Pt.U, Pt.locs, Pt.cells, Pt.slots] at X190 l190 y190 z190 st190 hQ190
    subst l190 y190 z190
    rw [if_neg (mt (own_bit x2).mpr hc88)] at hQ190
    obtain ⟨rfl, N190q, e190⟩ := hQ190
    have N190 := Fr.app N165 N190q
    have pre191 : ∀ t, Steps p.tables e below (T190.setTop (mkF m 105 #[.val (.int x0), .val (.int x1), .val (.int x2), .val (.long x3), .second, .val (.int x4), .val (.ref b103), .val (.ref b107), .val (.ref b112), .val (.ref b125), .val (.ref b149), .val (.int (1 : Int32))] [(.int (1 : Int32)), (.int (1 : Int32))])) t → Steps p.tables e below (s₁.setTop (entryFrame m #[(.int x0), (.int x1), (.int x2), (.long x3), (.int x4)] maxLocals)) t := fun tt kk => pre182 tt (by
      show Steps p.tables e below (T165.setTop (mkF m 88 #[.val (.int x0), .val (.int x1), .val (.int x2), .val (.long x3), .second, .val (.int x4), .val (.ref b103), .val (.ref b107), .val (.ref b112), .val (.ref b125), .val (.ref b149), .unset] [(.int (x2 % (2 : Int32)))])) _
      refine XS.ifNo X165.here hx rfl (hb hby at_88) rfl ((if0 _ _).trans (feq hc88).1) ?_
      show Steps p.tables e below (T165.setTop (mkF m 91 #[.val (.int x0), .val (.int x1), .val (.int x2), .val (.long x3), .second, .val (.int x4), .val (.ref b103), .val (.ref b107), .val (.ref b112), .val (.ref b125), .val (.ref b149), .unset] [])) _
      refine XS.iconst X165.here hx rfl (hb hby at_91) ?_
      show Steps p.tables e below (T165.setTop (mkF m 92 #[.val (.int x0), .val (.int x1), .val (.int x2), .val (.long x3), .second, .val (.int x4), .val (.ref b103), .val (.ref b107), .val (.ref b112), .val (.ref b125), .val (.ref b149), .unset] [(.int (1 : Int32))])) _
      refine XS.goto X165.here hx rfl (pc0 := 92) (pc' := 96) rfl (hb hby at_92) (by decide) (by decide) ?_
      show Steps p.tables e below (T165.setTop (mkF m 96 #[.val (.int x0), .val (.int x1), .val (.int x2), .val (.long x3), .second, .val (.int x4), .val (.ref b103), .val (.ref b107), .val (.ref b112), .val (.ref b125), .val (.ref b149), .unset] [(.int (1 : Int32))])) _
      refine XS.istore X165.here hx rfl (hb hby at_96) rfl (l' := #[.val (.int x0), .val (.int x1), .val (.int x2), .val (.long x3), .second, .val (.int x4), .val (.ref b103), .val (.ref b107), .val (.ref b112), .val (.ref b125), .val (.ref b149), .val (.int (1 : Int32))]) rfl ?_
      show Steps p.tables e below (T165.setTop (mkF m 98 #[.val (.int x0), .val (.int x1), .val (.int x2), .val (.long x3), .second, .val (.int x4), .val (.ref b103), .val (.ref b107), .val (.ref b112), .val (.ref b125), .val (.ref b149), .val (.int (1 : Int32))] [])) _
      refine XS.aload X165.here hx rfl (hb hby at_98) rfl rfl ?_
      show Steps p.tables e below (T165.setTop (mkF m 100 #[.val (.int x0), .val (.int x1), .val (.int x2), .val (.long x3), .second, .val (.int x4), .val (.ref b103), .val (.ref b107), .val (.ref b112), .val (.ref b125), .val (.ref b149), .val (.int (1 : Int32))] [(.ref b112)])) _
      refine st190.trans ?_
      show Steps p.tables e below (T190.setTop (mkF m 103 #[.val (.int x0), .val (.int x1), .val (.int x2), .val (.long x3), .second, .val (.int x4), .val (.ref b103), .val (.ref b107), .val (.ref b112), .val (.ref b125), .val (.ref b149), .val (.int (1 : Int32))] [(.int (1 : Int32))])) _
      refine XS.iload X190.here hx rfl (hb hby at_103) rfl ?_
      exact kk)
    obtain ⟨cq192, kq192, q192a, q192b, q192c⟩ := isOf hZ e190 f176
    obtain ⟨vv192, _, ⟨T192, L192, k192, n192⟩, -, X192, ⟨Lc192, hQ192, l192, y192, z192⟩, st192⟩ := X190.virtualBack hx (y := (⟨"com/example/proxy_to_stub/proxytostub/transport/Frame", "isOneway", "()Z"⟩ : MethodName)) (z := (⟨"com/example/proxy_to_stub/proxytostub/transport/Frame", "isOneway", "()Z"⟩ : MethodName)) hown (mvT hZ (hw _ (List.mem_of_getElem? (i := 32) rfl))) (mvT hZ (hw _ (List.mem_of_getElem? (i := 33) rfl))) (notFace_of_selects (args := #[]) (mvT hZ (hw _ (List.mem_of_getElem? (i := 35) rfl)))) (mvT hZ (hw _ (List.mem_of_getElem? (i := 35) rfl))) (mvT hZ (hw _ (List.mem_of_getElem? (i := 34) rfl))) (by decide) (backOf (W := 0) (rm_io l Z a0 hw [] b125 (x2 ^^^ (1 : Int32)) T165.heap n0 f166 f177) hZ (hw _ (List.mem_of_getElem? (i := 36) rfl)) (hw _ (List.mem_of_getElem? (i := 3) rfl)) (by decide) (by decide)) q192a q192c (g := (mkF m 110 #[.val (.int x0), .val (.int x1), .val (.int x2), .val (.long x3), .second, .val (.int x4), .val (.ref b103), .val (.ref b107), .val (.ref b112), .val (.ref b125), .val (.ref b149), .val (.int (1 : Int32))] [(.ref b125)])) rfl (by rw [hml]; rfl) (Steps.refl _) (argsL := []) (rest := []) (lenOf own_pd_2 rfl) rfl (by show 2 * 0 + _ ≤ _; exact Nat.le_of_eq rfl) (hb hby at_110) (fun _ _ => ⟨rfl, e190, (by decide : 5 + 0 ≤ _), (by decide : 30 + 0 ≤ _)⟩)
    dsimp only [Pt.U, Pt.locs, Pt.cells, Pt.slots] at X192 l192 y192 z192 st192 hQ192
    subst l192 y192 z192
    rw [own_f2n hc88] at hQ192
    obtain ⟨rfl, N192q, e192⟩ := hQ192
    have N192 := Fr.app N190 N192q
    have pre193 : ∀ t, Steps p.tables e below (T192.setTop (mkF m 115 #[.val (.int x0), .val (.int x1), .val (.int x2), .val (.long x3), .second, .val (.int x4), .val (.ref b103), .val (.ref b107), .val (.ref b112), .val (.ref b125), .val (.ref b149), .val (.int (1 : Int32))] [(.int (1 : Int32)), (.int (0 : Int32))])) t → Steps p.tables e below (s₁.setTop (entryFrame m #[(.int x0), (.int x1), (.int x2), (.long x3), (.int x4)] maxLocals)) t := fun tt kk => pre191 tt (by
      show Steps p.tables e below (T190.setTop (mkF m 105 #[.val (.int x0), .val (.int x1), .val (.int x2), .val (.long x3), .second, .val (.int x4), .val (.ref b103), .val (.ref b107), .val (.ref b112), .val (.ref b125), .val (.ref b149), .val (.int (1 : Int32))] [(.int (1 : Int32)), (.int (1 : Int32))])) _
      refine XS.icmpNo X190.here hx rfl (hb hby at_105) rfl (teq (by decide : (1 : Int32) = (1 : Int32))).2 ?_
      show Steps p.tables e below (T190.setTop (mkF m 108 #[.val (.int x0), .val (.int x1), .val (.int x2), .val (.long x3), .second, .val (.int x4), .val (.ref b103), .val (.ref b107), .val (.ref b112), .val (.ref b125), .val (.ref b149), .val (.int (1 : Int32))] [])) _
      refine XS.aload X190.here hx rfl (hb hby at_108) rfl rfl ?_
      show Steps p.tables e below (T190.setTop (mkF m 110 #[.val (.int x0), .val (.int x1), .val (.int x2), .val (.long x3), .second, .val (.int x4), .val (.ref b103), .val (.ref b107), .val (.ref b112), .val (.ref b125), .val (.ref b149), .val (.int (1 : Int32))] [(.ref b125)])) _
      refine st192.trans ?_
      show Steps p.tables e below (T192.setTop (mkF m 113 #[.val (.int x0), .val (.int x1), .val (.int x2), .val (.long x3), .second, .val (.int x4), .val (.ref b103), .val (.ref b107), .val (.ref b112), .val (.ref b125), .val (.ref b149), .val (.int (1 : Int32))] [(.int (0 : Int32))])) _
      refine XS.iload X192.here hx rfl (hb hby at_113) rfl ?_
      exact kk)
    have pre194 : ∀ t, Steps p.tables e below (T192.setTop (mkF m 123 #[.val (.int x0), .val (.int x1), .val (.int x2), .val (.long x3), .second, .val (.int x4), .val (.ref b103), .val (.ref b107), .val (.ref b112), .val (.ref b125), .val (.ref b149), .val (.int (1 : Int32))] [(.int (0 : Int32)), (.int (0 : Int32))])) t → Steps p.tables e below (s₁.setTop (entryFrame m #[(.int x0), (.int x1), (.int x2), (.long x3), (.int x4)] maxLocals)) t := fun tt kk => pre193 tt (by
      show Steps p.tables e below (T192.setTop (mkF m 115 #[.val (.int x0), .val (.int x1), .val (.int x2), .val (.long x3), .second, .val (.int x4), .val (.ref b103), .val (.ref b107), .val (.ref b112), .val (.ref b125), .val (.ref b149), .val (.int (1 : Int32))] [(.int (1 : Int32)), (.int (0 : Int32))])) _
      refine XS.ifYes X192.here hx rfl (pc0 := 115) (pc' := 122) rfl (hb hby at_115) rfl ((if0 _ _).trans (feq (by decide : ¬ ((1 : Int32) = (0 : Int32)))).2) (by decide) (by decide) ?_
      show Steps p.tables e below (T192.setTop (mkF m 122 #[.val (.int x0), .val (.int x1), .val (.int x2), .val (.long x3), .second, .val (.int x4), .val (.ref b103), .val (.ref b107), .val (.ref b112), .val (.ref b125), .val (.ref b149), .val (.int (1 : Int32))] [(.int (0 : Int32))])) _
      refine XS.iconst X192.here hx rfl (hb hby at_122) ?_
      exact kk)
    obtain ⟨cq195, kq195, q195a, q195b, q195c⟩ := isOf hZ e192 f181
    obtain ⟨vv195, _, ⟨T195, L195, k195, n195⟩, -, X195, ⟨Lc195, hQ195, l195, y195, z195⟩, st195⟩ := X192.virtualBack hx (y := (⟨"com/example/proxy_to_stub/proxytostub/transport/Frame", "isOneway", "()Z"⟩ : MethodName)) (z := (⟨"com/example/proxy_to_stub/proxytostub/transport/Frame", "isOneway", "()Z"⟩ : MethodName)) hown (mvT hZ (hw _ (List.mem_of_getElem? (i := 32) rfl))) (mvT hZ (hw _ (List.mem_of_getElem? (i := 33) rfl))) (notFace_of_selects (args := #[]) (mvT hZ (hw _ (List.mem_of_getElem? (i := 35) rfl)))) (mvT hZ (hw _ (List.mem_of_getElem? (i := 35) rfl))) (mvT hZ (hw _ (List.mem_of_getElem? (i := 34) rfl))) (by decide) (backOf (W := 0) (rm_io l Z a0 hw [] b149 (x2 ^^^ (x4 &&& (-2 : Int32))) T165.heap n0 f166 Ff165) hZ (hw _ (List.mem_of_getElem? (i := 36) rfl)) (hw _ (List.mem_of_getElem? (i := 3) rfl)) (by decide) (by decide)) q195a q195c (g := (mkF m 128 #[.val (.int x0), .val (.int x1), .val (.int x2), .val (.long x3), .second, .val (.int x4), .val (.ref b103), .val (.ref b107), .val (.ref b112), .val (.ref b125), .val (.ref b149), .val (.int (1 : Int32))] [(.ref b149)])) rfl (by rw [hml]; rfl) (Steps.refl _) (argsL := []) (rest := []) (lenOf own_pd_2 rfl) rfl (by show 2 * 0 + _ ≤ _; exact Nat.le_of_eq rfl) (hb hby at_128) (fun _ _ => ⟨rfl, e192, (by decide : 5 + 0 ≤ _), (by decide : 30 + 0 ≤ _)⟩)
    dsimp only [Pt.U, Pt.locs, Pt.cells, Pt.slots] at X195 l195 y195 z195 st195 hQ195
    subst l195 y195 z195
    rw [own_f3, if_neg (mt (own_bit x2).mpr hc88)] at hQ195
    obtain ⟨rfl, N195q, e195⟩ := hQ195
    have N195 := Fr.app N192 N195q
    have pre196 : ∀ t, Steps p.tables e below (T195.setTop (mkF m 133 #[.val (.int x0), .val (.int x1), .val (.int x2), .val (.long x3), .second, .val (.int x4), .val (.ref b103), .val (.ref b107), .val (.ref b112), .val (.ref b125), .val (.ref b149), .val (.int (1 : Int32))] [(.int (1 : Int32)), (.int (1 : Int32))])) t → Steps p.tables e below (s₁.setTop (entryFrame m #[(.int x0), (.int x1), (.int x2), (.long x3), (.int x4)] maxLocals)) t := fun tt kk => pre194 tt (by
      show Steps p.tables e below (T192.setTop (mkF m 123 #[.val (.int x0), .val (.int x1), .val (.int x2), .val (.long x3), .second, .val (.int x4), .val (.ref b103), .val (.ref b107), .val (.ref b112), .val (.ref b125), .val (.ref b149), .val (.int (1 : Int32))] [(.int (0 : Int32)), (.int (0 : Int32))])) _
      refine XS.icmpNo X192.here hx rfl (hb hby at_123) rfl (teq (by decide : (0 : Int32) = (0 : Int32))).2 ?_
      show Steps p.tables e below (T192.setTop (mkF m 126 #[.val (.int x0), .val (.int x1), .val (.int x2), .val (.long x3), .second, .val (.int x4), .val (.ref b103), .val (.ref b107), .val (.ref b112), .val (.ref b125), .val (.ref b149), .val (.int (1 : Int32))] [])) _
      refine XS.aload X192.here hx rfl (hb hby at_126) rfl rfl ?_
      show Steps p.tables e below (T192.setTop (mkF m 128 #[.val (.int x0), .val (.int x1), .val (.int x2), .val (.long x3), .second, .val (.int x4), .val (.ref b103), .val (.ref b107), .val (.ref b112), .val (.ref b125), .val (.ref b149), .val (.int (1 : Int32))] [(.ref b149)])) _
      refine st195.trans ?_
      show Steps p.tables e below (T195.setTop (mkF m 131 #[.val (.int x0), .val (.int x1), .val (.int x2), .val (.long x3), .second, .val (.int x4), .val (.ref b103), .val (.ref b107), .val (.ref b112), .val (.ref b125), .val (.ref b149), .val (.int (1 : Int32))] [(.int (1 : Int32))])) _
      refine XS.iload X195.here hx rfl (hb hby at_131) rfl ?_
      exact kk)
    obtain ⟨fs, hr, hrun, hended, hW, hsame⟩ := X195.leave (v := some (.int (1 : Int32))) (fun h => by rw [Bd.returns] at h; cases h)
    refine ⟨_, _, pre196 _ ?_, hrun, hended, _, _, rfl, ?_, ⟨_, rfl⟩, hW, hsame.mono (by decide) (by decide)⟩
    · show Steps p.tables e below (T195.setTop (mkF m 133 #[.val (.int x0), .val (.int x1), .val (.int x2), .val (.long x3), .second, .val (.int x4), .val (.ref b103), .val (.ref b107), .val (.ref b112), .val (.ref b125), .val (.ref b149), .val (.int (1 : Int32))] [(.int (1 : Int32)), (.int (1 : Int32))])) _
      refine XS.icmpNo X195.here hx rfl (hb hby at_133) rfl (teq (by decide : (1 : Int32) = (1 : Int32))).2 ?_
      show Steps p.tables e below (T195.setTop (mkF m 136 #[.val (.int x0), .val (.int x1), .val (.int x2), .val (.long x3), .second, .val (.int x4), .val (.ref b103), .val (.ref b107), .val (.ref b112), .val (.ref b125), .val (.ref b149), .val (.int (1 : Int32))] [])) _
      refine XS.iconst X195.here hx rfl (hb hby at_136) ?_
      show Steps p.tables e below (T195.setTop (mkF m 137 #[.val (.int x0), .val (.int x1), .val (.int x2), .val (.long x3), .second, .val (.int x4), .val (.ref b103), .val (.ref b107), .val (.ref b112), .val (.ref b125), .val (.ref b149), .val (.int (1 : Int32))] [(.int (1 : Int32))])) _
      refine XS.goto X195.here hx rfl (pc0 := 137) (pc' := 141) rfl (hb hby at_137) (by decide) (by decide) ?_
      show Steps p.tables e below (T195.setTop (mkF m 141 #[.val (.int x0), .val (.int x1), .val (.int x2), .val (.long x3), .second, .val (.int x4), .val (.ref b103), .val (.ref b107), .val (.ref b112), .val (.ref b125), .val (.ref b149), .val (.int (1 : Int32))] [(.int (1 : Int32))])) _
      exact retN X195 hx (t := .boolean) Bd.returns (by simp) (hb hby at_141) hr
    · exact ⟨rfl, N195⟩
set_option maxRecDepth 65536 in
set_option maxHeartbeats 40000000 in
theorem comes_1 {Post : Tables → Env → Array Value → State → Outcome → State → Prop} (hpost : ∀ tb e args s v u, (limb_1_1.after args s (.returned v) u = true ∧ limb_1_2.after args s (.returned v) u = true ∧ True) → FrameEnd s (.returned v) u (Jvm.fieldLocs frame_1_writes args s ++ Jvm.arrayLocs frame_1_arrays args s ++ Jvm.staticLocs frame_1_statics s) 24 128 → Post tb e args s (.returned v) u) :
    ArmFor flags0 classFile x code maxLocals ret World_1 tables_1 room_1 Calls_1 rest_1 Pre_1 Post := by
  intro l hfl _ _ p e ha hc hk s m args below hf hA hF happ hP
  obtain ⟨hcalls, hrest, hpre⟩ := hP
  obtain ⟨-, -, -, hnamed, -, -, -, hat⟩ := (Spec.applies_iff hf).mp happ
  obtain ⟨hg, hn⟩ := and_e (Cond.before_iff.mp (show (Jvm.Cond.and given_1 narrow_1).before args s = true from hpre))
  obtain ⟨g0, g0r⟩ := and_e hg
  obtain ⟨g1, g1r⟩ := and_e g0r
  obtain ⟨g2, g2r⟩ := and_e g1r
  obtain ⟨g3, g3r⟩ := and_e g2r
  obtain ⟨g4, g4r⟩ := and_e g3r
  obtain ⟨w0_, w1_, w2_, w3_, w4_, rfl⟩ : ∃ w0_ w1_ w2_ w3_ w4_ : Value, args = #[w0_, w1_, w2_, w3_, w4_] := by
    have hs : args.size = 5 := by simpa [Cond.value, given_1] using g0
    obtain ⟨L⟩ := args
    match L, hs with
    | [w0_, w1_, w2_, w3_, w4_], _ => exact ⟨w0_, w1_, w2_, w3_, w4_, rfl⟩
  have hw := fun d (hd : d ∈ tables_1) => atoms_spec (ws := Jvm.Cond.code x code maxLocals ret :: tables_1) hat d (List.mem_cons_of_mem _ hd)
  have hfit : Fit s := fun {y c} hc i hi => by
    obtain ⟨ha, rfl⟩ := Array.getElem?_eq_some_iff.mp hc
    have q := List.all_eq_true.mp ((Array.all_eq_true_iff_forall_mem.mp hF) _ (Array.getElem_mem ha)) i (List.mem_range.mpr hi)
    simpa [Array.getElem?_eq_getElem hi] using q
  obtain ⟨i0, ei0⟩ := is_v g1
  obtain rfl : w0_ = (.int i0) := Option.some.inj ei0
  obtain ⟨i1, ei1⟩ := is_v g2
  obtain rfl : w1_ = (.int i1) := Option.some.inj ei1
  obtain ⟨i2, ei2⟩ := is_v g3
  obtain rfl : w2_ = (.int i2) := Option.some.inj ei2
  obtain ⟨i3, ei3⟩ := isL_v g4
  obtain rfl : w3_ = (.long i3) := Option.some.inj ei3
  obtain ⟨i4, ei4⟩ := is_v g4r
  obtain rfl : w4_ = (.int i4) := Option.some.inj ei4
  obtain ⟨n0, n0r⟩ := and_e hn
  obtain ⟨em, eve⟩ := arr_v n0
  have SE : Sta s s.heap "com/example/proxy_to_stub/proxytostub/transport/Frame" "EMPTY" "[B" (.ref em) := Sta.start eve (Or.inr ⟨(hw _ (List.mem_of_getElem? (i := 3) rfl)), (hw _ (List.mem_of_getElem? (i := 8) rfl))⟩)
  obtain ⟨cl, AR⟩ := Arr.start eve n0
  have SZ := own_size (own_len eve AR n0r) (by decide)
  obtain ⟨n, o, h1, h2, h3, _, L, rfl, ⟨rfl, N⟩, hq⟩ := rm0 l s _ hw tables_1 i0 i1 i2 i3 i4 em s.heap s.heap.size (Nat.le_refl _) (Old.start s) SE ⟨cl, AR, SZ, by decide⟩ p e ha hc hk s m _ below hf ((Spec.applies_iff_loose hf).mp happ).1 ⟨rfl, State.Warmed39.refl s, rfl⟩ trivial
  refine ⟨n, _, h1, h2, h3, hpost _ _ _ _ _ _ ⟨Cond.after_iff.mpr rfl, Cond.after_iff.mpr (eq_i res_at (Term.int_eval (1)) rfl), trivial⟩ ⟨hq.1, hq.2.1, (hq.2.2.sift fun y hy => Or.inr (N y hy)).mono (by decide) (by decide)⟩⟩
theorem main_1_1 : Claimed_1_1 := comes_1 fun _ _ _ _ _ _ h hF => ⟨h.1, hF⟩
theorem main_1_2 : Claimed_1_2 := comes_1 fun _ _ _ _ _ _ h hF => ⟨h.2.1, hF⟩
end Jvm.Pilot.@@N@@
namespace Jvm.Pilot.@@N@@
open Jvm Jvm.ClassFile Sem Op Lib Jvm.Free Jvm.Stand Jvm.Pilot.@@N@@.Jvm.D
/-! MADE BY PROGRAM (witnessworld.py) out of the Statement's table words and the real class files: 9 classes; the members and pool entries that the words name. The judged class is class 1, her method 1. -/
namespace start1
open Jvm.ClassFile
def u (s : String) : CpInfo := .utf8 (stringToUtf16 s)
/-- a pool by its gaps: so many unusable entries, then the entry; so many at the end -/
def gap : Nat → List CpInfo → List CpInfo
  | 0, r => r
  | n + 1, r => .unusable :: gap n r
def poolList (es : List (Nat × CpInfo)) (last : Nat) : List CpInfo := es.foldr (fun e r => gap e.1 (e.2 :: r)) (gap last [])
def pool (es : List (Nat × CpInfo)) (last : Nat) : Array CpInfo := ⟨poolList es last⟩
def fileOf (pool : Array CpInfo) (this : Nat) (attrs : Array Attribute := #[]) (ms : Array MethodInfo := #[]) (fl : Nat := 33) (sup : Nat := 0) (ifs : Array Nat := #[]) (fds : Array FieldInfo := #[]) : ClassFile where
  minorVersion := 0
  majorVersion := 65
  constantPool := pool
  accessFlags := fl
  thisClass := this
  superClass := sup
  interfaces := ifs
  fields := fds
  methods := ms
  attributes := attrs
def plain (name : String) (sup : Option ClassId) : Class where
  name := name
  kind := .ordinary
  loader := none
  accessFlags := 33
  super := sup
  interfaces := #[]
  cf := none
  fields := #[]
  methods := #[]
  instanceTypes := #[]
  staticTypes := #[]
  resolved := #[]
  callSites := []
  init := .initialized
  statics := none
  mirror := none

def pool0 : Array CpInfo := pool [(5, u "<init>"), (0, u "()V"), (1, .class_ 10), (1, u "java/lang/Object")] 113

def k0c0 : Code := { maxStack := 0, maxLocals := 1, code := object_method_1_code, exceptionTable := #[], attributes := #[] }
def k0m0 : Method := { name := "<init>", desc := "()V", sig := { parameters := [], returnType := none }, accessFlags := 1, code := some k0c0 }
/-- java/lang/Object -/
def k0 : Class := { plain "java/lang/Object" none with
  accessFlags := 33
  interfaces := #[]
  cf := some (fileOf pool0 8 #[] #[{ accessFlags := 1, nameIndex := 5, descriptorIndex := 6, attributes := #[] }] 33 0 #[] #[])
  fields := #[]
  methods := #[k0m0]
  instanceTypes := #[]
  staticTypes := #[]
  resolved := Array.replicate 124 none
  statics := none }

def pool1 : Array CpInfo := pool [(2, .class_ 4), (1, u "java/lang/Object"), (0, u "<init>"), (0, u "()V"), (0, .class_ 8), (0, u "com/example/proxy_to_stub/proxytostub/transport/Frame"), (0, .methodref 7 10), (0, .nameAndType 5 11), (0, u "(IIIJ[B[B)V"), (0, .long 18446744073709551615), (1, .methodref 7 15), (0, .nameAndType 16 17), (0, u "isOneway"), (0, u "()Z"), (0, .class_ 19), (0, u "com/example/proxy_to_stub/proxytostub/transport/FrameIsOnewayPinLaw"), (2, u "law"), (0, u "(IIIJI)Z")] 5

def k1m0 : Method := { name := "<init>", desc := "()V", sig := { parameters := [], returnType := none }, accessFlags := 1, code := none }
def k1c1 : Code := { maxStack := 9, maxLocals := 12, code := code, exceptionTable := #[], attributes := #[] }
def k1m1 : Method := { name := "law", desc := "(IIIJI)Z", sig := { parameters := [.int, .int, .int, .long, .int], returnType := some .boolean }, accessFlags := 9, code := some k1c1 }
/-- com/example/proxy_to_stub/proxytostub/transport/FrameIsOnewayPinLaw -/
def k1 : Class := { plain "com/example/proxy_to_stub/proxytostub/transport/FrameIsOnewayPinLaw" (some 0) with
  accessFlags := 49
  interfaces := #[]
  cf := some (fileOf pool1 18 #[] #[{ accessFlags := 1, nameIndex := 5, descriptorIndex := 6, attributes := #[] }, { accessFlags := 9, nameIndex := 22, descriptorIndex := 23, attributes := #[] }] 49 2 #[] #[])
  fields := #[]
  methods := #[k1m0, k1m1]
  instanceTypes := #[]
  staticTypes := #[]
  resolved := Array.replicate 29 none
  statics := none }

def pool2 : Array CpInfo := pool [(3, .class_ 4), (0, u "com/example/proxy_to_stub/proxytostub/transport/Frame"), (4, .fieldref 3 10), (0, .nameAndType 11 12), (0, u "EMPTY"), (0, u "[B"), (0, .methodref 3 14), (0, .nameAndType 15 16), (0, u "<init>"), (0, u "(IIIJ[B[BI[B)V"), (0, .methodref 18 19), (0, .class_ 20), (0, .nameAndType 15 21), (0, u "java/lang/Object"), (0, u "()V"), (0, .fieldref 3 23), (0, .nameAndType 24 25), (0, u "kind"), (0, u "I"), (0, .fieldref 3 27), (0, .nameAndType 28 25), (0, u "code"), (0, .fieldref 3 30), (0, .nameAndType 31 25), (0, u "flags"), (0, .fieldref 3 33), (0, .nameAndType 34 35), (0, u "target"), (0, u "J"), (0, .fieldref 3 37), (0, .nameAndType 38 12), (0, u "objects"), (0, .fieldref 3 40), (0, .nameAndType 41 12), (0, u "data"), (0, .fieldref 3 43), (0, .nameAndType 44 25), (0, u "dataLength"), (0, .fieldref 3 46), (0, .nameAndType 47 12), (0, u "tail"), (2, u "(IIIJ[B[B)V"), (113, .class_ 166), (1, u "com/example/proxy_to_stub/proxytostub/transport/Frame$SharedTails"), (5, u "senderReadsSharedTails"), (0, u "Z"), (20, u "isOneway"), (0, u "()Z"), (47, u "CALL"), (2, u "REPLY"), (1, u "NOT_HANDLED"), (1, u "FAILED"), (1, u "PUBLISHED"), (1, u "QUEUE_ID"), (1, u "AWAIT_QUEUE"), (1, u "HOLD"), (1, u "RELEASE"), (1, u "RECEIVED"), (1, u "SENDER"), (1, u "MAX_BODY_BYTES"), (0, u "OVERHEAD_BYTES"), (1, u "FIRST_RESERVED_BYTES"), (0, u "GROWTH_FACTOR"), (0, u "WITH_TAIL"), (0, u "SHARED_TAIL"), (0, u "NEW_REGION"), (0, u "READS_SHARED_TAILS"), (0, u "MIN_SHARED_TAIL_BYTES"), (0, u "LAYOUT_BITS"), (0, u "HEADER_BYTES"), (1, u "HEADER_CUT_SHORT"), (0, u "Ljava/lang/String;")] 75

def k2c0 : Code := { maxStack := 10, maxLocals := 8, code := prog_21_method_1_code, exceptionTable := #[], attributes := #[] }
def k2m0 : Method := { name := "<init>", desc := "(IIIJ[B[B)V", sig := { parameters := [.int, .int, .int, .long, (.array .byte), (.array .byte)], returnType := none }, accessFlags := 0, code := some k2c0 }
def k2c1 : Code := { maxStack := 3, maxLocals := 10, code := prog_21_method_2_code, exceptionTable := #[], attributes := #[] }
def k2m1 : Method := { name := "<init>", desc := "(IIIJ[B[BI[B)V", sig := { parameters := [.int, .int, .int, .long, (.array .byte), (.array .byte), .int, (.array .byte)], returnType := none }, accessFlags := 2, code := some k2c1 }
def k2c2 : Code := { maxStack := 2, maxLocals := 1, code := prog_21_method_29_code, exceptionTable := #[], attributes := #[] }
def k2m2 : Method := { name := "isOneway", desc := "()Z", sig := { parameters := [], returnType := some .boolean }, accessFlags := 0, code := some k2c2 }
/-- com/example/proxy_to_stub/proxytostub/transport/Frame -/
def k2 : Class := { plain "com/example/proxy_to_stub/proxytostub/transport/Frame" (some 0) with
  accessFlags := 32
  interfaces := #[]
  cf := some (fileOf pool2 3 #[.nestMembers #[164]] #[{ accessFlags := 0, nameIndex := 15, descriptorIndex := 50, attributes := #[] }, { accessFlags := 2, nameIndex := 15, descriptorIndex := 16, attributes := #[] }, { accessFlags := 0, nameIndex := 194, descriptorIndex := 195, attributes := #[] }] 32 18 #[] #[{ accessFlags := 24, nameIndex := 243, descriptorIndex := 25, attributes := #[] }, { accessFlags := 24, nameIndex := 246, descriptorIndex := 25, attributes := #[] }, { accessFlags := 24, nameIndex := 248, descriptorIndex := 25, attributes := #[] }, { accessFlags := 24, nameIndex := 250, descriptorIndex := 25, attributes := #[] }, { accessFlags := 24, nameIndex := 252, descriptorIndex := 25, attributes := #[] }, { accessFlags := 24, nameIndex := 254, descriptorIndex := 25, attributes := #[] }, { accessFlags := 24, nameIndex := 256, descriptorIndex := 25, attributes := #[] }, { accessFlags := 24, nameIndex := 258, descriptorIndex := 25, attributes := #[] }, { accessFlags := 24, nameIndex := 260, descriptorIndex := 25, attributes := #[] }, { accessFlags := 24, nameIndex := 262, descriptorIndex := 25, attributes := #[] }, { accessFlags := 24, nameIndex := 264, descriptorIndex := 25, attributes := #[] }, { accessFlags := 24, nameIndex := 266, descriptorIndex := 25, attributes := #[] }, { accessFlags := 26, nameIndex := 267, descriptorIndex := 25, attributes := #[] }, { accessFlags := 26, nameIndex := 269, descriptorIndex := 25, attributes := #[] }, { accessFlags := 26, nameIndex := 270, descriptorIndex := 25, attributes := #[] }, { accessFlags := 24, nameIndex := 271, descriptorIndex := 25, attributes := #[] }, { accessFlags := 24, nameIndex := 272, descriptorIndex := 25, attributes := #[] }, { accessFlags := 24, nameIndex := 273, descriptorIndex := 25, attributes := #[] }, { accessFlags := 24, nameIndex := 274, descriptorIndex := 25, attributes := #[] }, { accessFlags := 24, nameIndex := 275, descriptorIndex := 25, attributes := #[] }, { accessFlags := 26, nameIndex := 276, descriptorIndex := 25, attributes := #[] }, { accessFlags := 26, nameIndex := 277, descriptorIndex := 25, attributes := #[] }, { accessFlags := 26, nameIndex := 279, descriptorIndex := 280, attributes := #[] }, { accessFlags := 26, nameIndex := 11, descriptorIndex := 12, attributes := #[] }, { accessFlags := 18, nameIndex := 24, descriptorIndex := 25, attributes := #[] }, { accessFlags := 18, nameIndex := 28, descriptorIndex := 25, attributes := #[] }, { accessFlags := 18, nameIndex := 31, descriptorIndex := 25, attributes := #[] }, { accessFlags := 18, nameIndex := 34, descriptorIndex := 35, attributes := #[] }, { accessFlags := 18, nameIndex := 38, descriptorIndex := 12, attributes := #[] }, { accessFlags := 18, nameIndex := 41, descriptorIndex := 12, attributes := #[] }, { accessFlags := 18, nameIndex := 44, descriptorIndex := 25, attributes := #[] }, { accessFlags := 18, nameIndex := 47, descriptorIndex := 12, attributes := #[] }, { accessFlags := 2, nameIndex := 172, descriptorIndex := 173, attributes := #[] }])
  fields := #[{ name := "CALL", type := .int, accessFlags := 24, slot := 0, constantValue := 0 }, { name := "REPLY", type := .int, accessFlags := 24, slot := 1, constantValue := 0 }, { name := "NOT_HANDLED", type := .int, accessFlags := 24, slot := 2, constantValue := 0 }, { name := "FAILED", type := .int, accessFlags := 24, slot := 3, constantValue := 0 }, { name := "PUBLISHED", type := .int, accessFlags := 24, slot := 4, constantValue := 0 }, { name := "QUEUE_ID", type := .int, accessFlags := 24, slot := 5, constantValue := 0 }, { name := "AWAIT_QUEUE", type := .int, accessFlags := 24, slot := 6, constantValue := 0 }, { name := "HOLD", type := .int, accessFlags := 24, slot := 7, constantValue := 0 }, { name := "RELEASE", type := .int, accessFlags := 24, slot := 8, constantValue := 0 }, { name := "RECEIVED", type := .int, accessFlags := 24, slot := 9, constantValue := 0 }, { name := "SENDER", type := .int, accessFlags := 24, slot := 10, constantValue := 0 }, { name := "MAX_BODY_BYTES", type := .int, accessFlags := 24, slot := 11, constantValue := 0 }, { name := "OVERHEAD_BYTES", type := .int, accessFlags := 26, slot := 12, constantValue := 0 }, { name := "FIRST_RESERVED_BYTES", type := .int, accessFlags := 26, slot := 13, constantValue := 0 }, { name := "GROWTH_FACTOR", type := .int, accessFlags := 26, slot := 14, constantValue := 0 }, { name := "WITH_TAIL", type := .int, accessFlags := 24, slot := 15, constantValue := 0 }, { name := "SHARED_TAIL", type := .int, accessFlags := 24, slot := 16, constantValue := 0 }, { name := "NEW_REGION", type := .int, accessFlags := 24, slot := 17, constantValue := 0 }, { name := "READS_SHARED_TAILS", type := .int, accessFlags := 24, slot := 18, constantValue := 0 }, { name := "MIN_SHARED_TAIL_BYTES", type := .int, accessFlags := 24, slot := 19, constantValue := 0 }, { name := "LAYOUT_BITS", type := .int, accessFlags := 26, slot := 20, constantValue := 0 }, { name := "HEADER_BYTES", type := .int, accessFlags := 26, slot := 21, constantValue := 0 }, { name := "HEADER_CUT_SHORT", type := (.object "java/lang/String"), accessFlags := 26, slot := 22, constantValue := 0 }, { name := "EMPTY", type := (.array .byte), accessFlags := 26, slot := 23, constantValue := 0 }, { name := "kind", type := .int, accessFlags := 18, slot := 0, constantValue := 0 }, { name := "code", type := .int, accessFlags := 18, slot := 1, constantValue := 0 }, { name := "flags", type := .int, accessFlags := 18, slot := 2, constantValue := 0 }, { name := "target", type := .long, accessFlags := 18, slot := 3, constantValue := 0 }, { name := "objects", type := (.array .byte), accessFlags := 18, slot := 4, constantValue := 0 }, { name := "data", type := (.array .byte), accessFlags := 18, slot := 5, constantValue := 0 }, { name := "dataLength", type := .int, accessFlags := 18, slot := 6, constantValue := 0 }, { name := "tail", type := (.array .byte), accessFlags := 18, slot := 7, constantValue := 0 }, { name := "senderReadsSharedTails", type := .boolean, accessFlags := 2, slot := 8, constantValue := 0 }]
  methods := #[k2m0, k2m1, k2m2]
  instanceTypes := #[.int, .int, .int, .long, (.array .byte), (.array .byte), .int, (.array .byte), .boolean]
  staticTypes := #[.int, .int, .int, .int, .int, .int, .int, .int, .int, .int, .int, .int, .int, .int, .int, .int, .int, .int, .int, .int, .int, .int, (.object "java/lang/String"), (.array .byte)]
  resolved := Array.replicate 356 none
  statics := some 0 }

def pool3 : Array CpInfo := pool [(1, u "java/lang/Cloneable"), (0, .class_ 1), (0, u "java/lang/Object"), (0, .class_ 3)] 3

/-- java/lang/Cloneable -/
def k3 : Class := { plain "java/lang/Cloneable" (some 0) with
  accessFlags := 1537
  interfaces := #[]
  cf := some (fileOf pool3 2 #[] #[] 1537 4 #[] #[])
  fields := #[]
  methods := #[]
  instanceTypes := #[]
  staticTypes := #[]
  resolved := Array.replicate 8 none
  statics := none }

def pool4 : Array CpInfo := pool [(1, u "java/io/Serializable"), (0, .class_ 1), (0, u "java/lang/Object"), (0, .class_ 3)] 3

/-- java/io/Serializable -/
def k4 : Class := { plain "java/io/Serializable" (some 0) with
  accessFlags := 1537
  interfaces := #[]
  cf := some (fileOf pool4 2 #[] #[] 1537 4 #[] #[])
  fields := #[]
  methods := #[]
  instanceTypes := #[]
  staticTypes := #[]
  resolved := Array.replicate 8 none
  statics := none }

/-- the primitive byte -/
def k5 : Class := { plain "byte" none with kind := .primitive 'B', accessFlags := 0x411 }
/-- [B -/
def k6 : Class := { plain "[B" (some 0) with kind := .array 5 .byte, interfaces := #[3, 4], accessFlags := 1041 }

/-- the primitive int -/
def k7 : Class := { plain "int" none with kind := .primitive 'I', accessFlags := 0x411 }
/-- [I -/
def k8 : Class := { plain "[I" (some 0) with kind := .array 7 .int, interfaces := #[3, 4], accessFlags := 1041 }

def heap : Heap := #[{ cls := 2, slots := #[.int 0, .int 0, .int 0, .int 0, .int 0, .int 0, .int 0, .int 0, .int 0, .int 0, .int 0, .int 0, .int 0, .int 0, .int 0, .int 0, .int 0, .int 0, .int 0, .int 0, .int 0, .int 0, .null, .ref 1], vm := .statics 2 },
  { cls := 6, slots := #[], vm := .none }]
def classes : Array Class := #[k0, k1, k2, k3, k4, k5, k6, k7, k8]
def interned : List (Array UInt16 × Addr) := []
def slotsUsed : Nat := 24
def theMethod : MethodId := ⟨1, 1⟩
def args0 : Array Value := #[.int 5, .int 7, .int 3, .long 4, .int 5]
def aboutOver (below : List Frame) : State where
  vm := { classes := classes, interned := interned.toArray }
  heap := heap
  slotsUsed := slotsUsed
  threads := #[{ frames := .invoking theMethod args0 :: below }]
def below0 : List Frame := [.native { method := ⟨0, 0⟩, args := #[] }]
def about1 : State := aboutOver below0
def p0 : Program := .bare "" "" ""
def e0 : Env := launch0.env 0 0 0
theorem w_frames : about1.frames = Frame.invoking theMethod args0 :: below0 := rfl
set_option maxRecDepth 65536 in
theorem w_args : argsFit about1.vm theMethod args0 = true := by decide +kernel
set_option maxRecDepth 65536 in
theorem w_heap : heapFits about1 = true := by decide +kernel
set_option maxRecDepth 65536 in
theorem w_runnable : about1.curStatus? = some .runnable := by decide +kernel
set_option maxRecDepth 65536 in
theorem w_alone : about1.alone = true := by decide +kernel
set_option maxRecDepth 65536 in
theorem w_named : about1.methodNamed? x = some theMethod := by decide +kernel
set_option maxRecDepth 65536 in
theorem w_hears : about1.hears theMethod below0 = true := by decide +kernel
set_option maxRecDepth 65536 in
theorem w_ripe : about1.ripe theMethod args0 below0 = true := by decide +kernel
theorem w_running : about1.status = .running := rfl
set_option maxRecDepth 65536 in
theorem w_room : about1.hasRoom e0.platform room_1 = true :=
  launch0.hasRoom_least _ room_1 (by decide +kernel) (by decide +kernel) (by decide +kernel) (by decide +kernel) (by decide +kernel) (by decide +kernel)
theorem allAtoms_all (ts : List Jvm.Cond) (a : Array Jvm.Value) (st : Jvm.State) : (allAtoms ts).before a st = ts.all (fun c => c.before a st) := by
  induction ts with
  | nil => rfl
  | cons c t ih =>
    show (Jvm.Cond.and c (allAtoms t)).before a st = _
    rw [Jvm.Cond.before_and, ih, List.all_cons]
def words1 : List Jvm.Cond := Jvm.Cond.code x code maxLocals ret :: tables_1
/-- a 'code' word, met by the world's own term for the bytes: nothing is compared byte by byte -/
theorem code_word {y : MethodName} {bytes : ByteArray} {mx : Nat} {rt : Option FieldType} {a : Array Value} {s : State} {m : MethodId} {meth : Method} {c : Code} (h1 : s.methodNamed? y = some m) (h2 : s.vm.method? m = some meth) (h3 : meth.code = some c) (h4 : c.code = bytes)
    (h5 : (c.maxLocals == mx && c.exceptionTable.isEmpty && decide (c.maxStack ≤ mostOperands) && decide (meth.sig.returnType = rt) && !meth.locks && decide (parseMethodDescriptor y.desc = some meth.sig)) = true) : (Jvm.Cond.code y bytes mx rt).before a s = true := by
  simp only [Bool.and_eq_true, beq_iff_eq, Bool.not_eq_true', decide_eq_true_eq] at h5
  obtain ⟨⟨⟨⟨⟨g1, g2⟩, g3⟩, g4⟩, g5⟩, g6⟩ := h5
  simp [Cond.before, Cond.holds, Cond.value, h1, h2, h3, h4, g1, g2, g3, g4, g5, g6]
def isCode : Jvm.Cond → Bool
  | .code _ _ _ _ => true
  | _ => false
theorem all_split {L : List Jvm.Cond} {P : Jvm.Cond → Bool} (h1 : L.all (fun c => isCode c || P c) = true) (h2 : ∀ c ∈ L.filter isCode, P c = true) : L.all P = true := by
  refine List.all_eq_true.mpr fun c hc => ?_
  have h := List.all_eq_true.mp h1 c hc
  rcases Bool.eq_false_or_eq_true (isCode c) with hi | hi
  · exact h2 c (List.mem_filter.mpr ⟨hc, hi⟩)
  · simpa [hi] using h
set_option maxRecDepth 65536 in
theorem w_c0 : (Jvm.Cond.code x code maxLocals ret).before args0 about1 = true := code_word (m := ⟨1, 1⟩) (meth := k1m1) (c := k1c1) (by decide +kernel) rfl rfl rfl (by decide +kernel)
set_option maxRecDepth 65536 in
theorem w_c1 : (Jvm.Cond.code ({ cls := "com/example/proxy_to_stub/proxytostub/transport/Frame", name := "<init>", desc := "(IIIJ[B[B)V" } : Jvm.MethodName) prog_21_method_1_code (8 : Nat) (Option.none : Option Jvm.ClassFile.FieldType)).before args0 about1 = true := code_word (m := ⟨2, 0⟩) (meth := k2m0) (c := k2c0) (by decide +kernel) rfl rfl rfl (by decide +kernel)
set_option maxRecDepth 65536 in
theorem w_c2 : (Jvm.Cond.code ({ cls := "com/example/proxy_to_stub/proxytostub/transport/Frame", name := "<init>", desc := "(IIIJ[B[BI[B)V" } : Jvm.MethodName) prog_21_method_2_code (10 : Nat) (Option.none : Option Jvm.ClassFile.FieldType)).before args0 about1 = true := code_word (m := ⟨2, 1⟩) (meth := k2m1) (c := k2c1) (by decide +kernel) rfl rfl rfl (by decide +kernel)
set_option maxRecDepth 65536 in
theorem w_c3 : (Jvm.Cond.code ({ cls := "java/lang/Object", name := "<init>", desc := "()V" } : Jvm.MethodName) object_method_1_code (1 : Nat) (Option.none : Option Jvm.ClassFile.FieldType)).before args0 about1 = true := code_word (m := ⟨0, 0⟩) (meth := k0m0) (c := k0c0) (by decide +kernel) rfl rfl rfl (by decide +kernel)
set_option maxRecDepth 65536 in
theorem w_c4 : (Jvm.Cond.code ({ cls := "com/example/proxy_to_stub/proxytostub/transport/Frame", name := "isOneway", desc := "()Z" } : Jvm.MethodName) prog_21_method_29_code (1 : Nat) (Option.some Jvm.ClassFile.FieldType.boolean)).before args0 about1 = true := code_word (m := ⟨2, 2⟩) (meth := k2m2) (c := k2c2) (by decide +kernel) rfl rfl rfl (by decide +kernel)
def codes1 : List Jvm.Cond := [Jvm.Cond.code x code maxLocals ret, Jvm.Cond.code ({ cls := "com/example/proxy_to_stub/proxytostub/transport/Frame", name := "<init>", desc := "(IIIJ[B[B)V" } : Jvm.MethodName) prog_21_method_1_code (8 : Nat) (Option.none : Option Jvm.ClassFile.FieldType), Jvm.Cond.code ({ cls := "com/example/proxy_to_stub/proxytostub/transport/Frame", name := "<init>", desc := "(IIIJ[B[BI[B)V" } : Jvm.MethodName) prog_21_method_2_code (10 : Nat) (Option.none : Option Jvm.ClassFile.FieldType), Jvm.Cond.code ({ cls := "java/lang/Object", name := "<init>", desc := "()V" } : Jvm.MethodName) object_method_1_code (1 : Nat) (Option.none : Option Jvm.ClassFile.FieldType), Jvm.Cond.code ({ cls := "com/example/proxy_to_stub/proxytostub/transport/Frame", name := "isOneway", desc := "()Z" } : Jvm.MethodName) prog_21_method_29_code (1 : Nat) (Option.some Jvm.ClassFile.FieldType.boolean)]
set_option maxRecDepth 65536 in
theorem codes_eq : words1.filter isCode = codes1 := rfl
theorem w_codes : ∀ c ∈ words1.filter isCode, c.before args0 about1 = true := by
  rw [codes_eq]
  intro c hc
  simp only [codes1, List.mem_cons, List.not_mem_nil, or_false] at hc
  rcases hc with rfl | rfl | rfl | rfl | rfl
  · exact w_c0
  · exact w_c1
  · exact w_c2
  · exact w_c3
  · exact w_c4
set_option maxRecDepth 65536 in
theorem w_t1 : (words1.take 24).all (fun c => isCode c || c.before args0 about1) = true := by decide +kernel
set_option maxRecDepth 65536 in
theorem w_t2 : (words1.drop 24).all (fun c => isCode c || c.before args0 about1) = true := by decide +kernel
theorem w_tables : (allAtoms (Jvm.Cond.code x code maxLocals ret :: tables_1)).before args0 about1 = true := by
  rw [allAtoms_all]
  show words1.all (fun c => c.before args0 about1) = true
  refine all_split ?_ w_codes
  rw [← List.take_append_drop 24 words1, List.all_append, w_t1, w_t2]
  rfl
set_option maxRecDepth 65536 in
theorem w_case : (Jvm.Cond.and given_1 narrow_1).before args0 about1 = true := by decide +kernel
theorem w_applies : (headSpec (Jvm.Cond.code x code maxLocals ret :: tables_1) room_1).applies x e0.platform about1 = true :=
  (Spec.applies_iff w_frames).mpr ⟨w_running, w_runnable, w_alone, w_named, w_hears, w_ripe, w_room, w_tables⟩
theorem atStart : AtStart classFile x code maxLocals ret World_1 tables_1 room_1 Calls_1 rest_1 Pre_1 launch0 p0 e0 about1 theMethod args0 below0 :=
  ⟨lists_1, trivial, launch0.admits_env _ _ _, launch0.least_env, fairChoices_fair.cas, fairChoices_fair.clock, w_frames, w_args, w_heap, w_applies, trivial, trivial, w_case⟩
end start1
theorem witness_1 : WitnessClaimed_1 := ⟨start1.p0, start1.e0, start1.about1, start1.theMethod, start1.args0, start1.below0, start1.atStart⟩
end Jvm.Pilot.@@N@@
