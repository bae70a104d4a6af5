import JvmDerived
import JvmDerived.Pilot.@@N@@Statement
import JvmDerived.Pilot.@@N@@Code
set_option linter.unusedVariables false
set_option linter.unusedSimpArgs false
@@BLOCK:NumsL.lean.txt@@
namespace Jvm.Pilot.@@N@@
open Jvm Jvm.ClassFile Sem Op Lib Jvm.Free Jvm.Stand Jvm.LawKit Jvm.RoadKit Bundle Jvm.Pilot.@@N@@.Jvm.D
/-- what a body leaves that writes nothing: its value, no place written, the heap as it was -/
def QP (val : Value) (h0 : Heap) (n0 : Nat) (v : Option Value) (h : Heap) (L : List Loc) : Prop := v = some val ∧ Fr n0 L ∧ h = h0
/-- what the law leaves: true -/
def Q1 (n0 : Nat) (v : Option Value) (h : Heap) (L : List Loc) : Prop := v = some (.int 1) ∧ Fr n0 L
theorem own_eq_int {args : Array Value} {s : State} {t : Term} {k : Int32} (h : (Jvm.Cond.eq t (.int k)).value args s none s [] = some true) : t.eval args s none [] s = some (.int k) := by
  simp only [Cond.value, Term.eval] at h
  cases ht : t.eval args s none [] s with
  | none => simp [ht] at h
  | some x => cases x <;> simp [ht] at h ⊢; exact h
theorem own_fld {args : Array Value} {s : State} {t : Term} {a : Addr} {C n d : String} {k : Int32} (ev : t.eval args s none [] s = some (.ref a)) (h : (Jvm.Cond.eq (.field t C n d) (.int k)).value args s none s [] = some true) : Fld s s.heap a C n d (.int k) :=
  Fld.start ((fld_at ev).symm.trans (own_eq_int h))
theorem own_toInt32_inj {i j : Nat} (hi : i < 2 ^ 31) (hj : j < 2 ^ 31) (h : i.toInt32 = j.toInt32) : i = j := by
  have := congrArg Int32.toInt h
  rw [len_toInt hi, len_toInt hj] at this
  omega
theorem own_inj {Z : State} {h : Heap} {w : Nat → Addr} {n : Nat} (hn : n < 2 ^ 31) (F : ∀ i, i < n → Fld Z h (w i) "java/lang/Enum" "ordinal" "I" (.int i.toInt32)) : ∀ i j, i < n → j < n → w i = w j → i = j := fun i j hi hj e => by
  by_cases q : i = j
  · exact q
  · exact absurd e (Fld.ne (F i hi) (F j hj) fun h => q (own_toInt32_inj (by omega) (by omega) (Value.int.inj h)))
theorem own_i32 {i : Int32} {N : Nat} (hN : N < 2 ^ 31) (h0 : 0 ≤ i.toInt) (h1 : i.toInt < N) : ∃ k : Nat, k < N ∧ i = k.toInt32 := by
  refine ⟨i.toInt.toNat, by omega, Int32.toInt_inj.mp ?_⟩
  rw [len_toInt (by omega)]
  omega
theorem own_mod (x n : Int32) (N : Nat) (hN : n.toInt = N) (h : 0 < N) : ∃ k : Nat, k < N ∧ (x &&& (2147483647 : Int32)) % n = k.toInt32 := by
  have e1 : (x &&& (2147483647 : Int32)).toInt = x.toInt % 2 ^ 31 := Jvm.Kit.i32_mask x 2147483647 (k := 31) (by decide) (by decide)
  have e2 : ((x &&& (2147483647 : Int32)) % n).toInt = (x &&& (2147483647 : Int32)).toInt % n.toInt := Jvm.Kit.i32_rem_nonneg (by omega)
  have hlt := n.toInt_lt
  have h3 : 0 ≤ (x &&& (2147483647 : Int32)).toInt % n.toInt := Int.emod_nonneg _ (by omega)
  have h4 : (x &&& (2147483647 : Int32)).toInt % n.toInt < n.toInt := Int.emod_lt_of_pos _ (by omega)
  exact own_i32 (by omega) (by omega) (by omega)
theorem own_mask (x n : Int32) {k : Nat} (hk : k < 31) (hm : n.toBitVec.toNat = 2 ^ k - 1) : ∃ j : Nat, j < 2 ^ k ∧ x &&& n = j.toInt32 := by
  have e1 : (x &&& n).toInt = x.toInt % 2 ^ k := Jvm.Kit.i32_mask x n (k := k) (by omega) hm
  have hp : (2 : Nat) ^ k < 2 ^ 31 := Nat.pow_lt_pow_right (by decide) hk
  have hp1 : (0 : Int) < 2 ^ k := Int.pow_pos (by decide)
  have h3 : 0 ≤ x.toInt % 2 ^ k := Int.emod_nonneg _ (by omega)
  have h4 : x.toInt % 2 ^ k < 2 ^ k := Int.emod_lt_of_pos _ hp1
  refine own_i32 hp (by rw [e1]; exact h3) (by rw [e1]; push_cast; exact h4)
theorem own_lt_irrefl {a b : Int64} (h : a = b) : ¬ a < b ∧ ¬ b < a := by subst h; simp [Int64.lt_irrefl]
theorem own_lt_asymm {a b : Int64} (h : a < b) : ¬ b < a := Int64.lt_asymm h
theorem own_lt_total {a b : Int64} (h1 : ¬ a = b) (h2 : ¬ a < b) : b < a := by
  rw [Int64.lt_iff_toInt_lt] at h2 ⊢; rw [← Int64.toInt_inj] at h1; omega
theorem own_narrow (C : String) (v : Value) : narrow (.object C) v = v := by cases v <;> rfl
theorem own_cat {v : Value} (h : v.isRef = true) : v.category = 1 := by cases v <;> simp [Value.isRef] at h <;> rfl
theorem own_alike (s : State) : s.vm.Alike s.vm := (State.Warmed39.refl s).alike
theorem own_len {args : Array Value} {s : State} {t : Term} {b : Addr} {cl : Cell} {ty : FieldType} {k : Int32} (ev : t.eval args s none [] s = some (.ref b)) (A : Arr s s.heap b cl ty) (h : (Jvm.Cond.eq (.length t) (.int k)).value args s none s [] = some true) : cl.slots.size < 2 ^ 31 ∧ cl.slots.size.toInt32 = k := by
  have e := own_eq_int h
  have ha : s.arrayAt? b = some cl := Arr.fin (own_alike s) A
  by_cases hl : cl.slots.size < 2 ^ 31
  · rw [len_f ev ha hl] at e; exact ⟨hl, by simpa using e⟩
  · simp [Term.eval, ev, ha, hl] at e
theorem own_elem_ref {args : Array Value} {s : State} {t u : Term} {b a : Addr} {cl : Cell} {ty : FieldType} {j : Int32} (ev : t.eval args s none [] s = some (.ref b)) (A : Arr s s.heap b cl ty) (h : (Jvm.Cond.eq (.elem t (.int j)) u).value args s none s [] = some true) (hu : u.eval args s none [] s = some (.ref a)) : cl.slots[j.toNatClampNeg]? = some (.ref a) := by
  obtain ⟨x, y, h1, h2, k1, k2⟩ := cmp_v (Or.inl h)
  cases hu.symm.trans h2
  have k2' : (Value.ref a).isRef = true ∧ x.isRef = true := k2
  have q : x = .ref a := gotT (eq_R h1 h2 k2'.2 rfl) h
  subst q
  exact (elem_in h1 ev (Term.int_eval j) A.1).2
theorem own_elem_null {args : Array Value} {s : State} {t : Term} {b : Addr} {cl : Cell} {ty : FieldType} {j : Int32} (ev : t.eval args s none [] s = some (.ref b)) (A : Arr s s.heap b cl ty) (h : (Jvm.Cond.eq (.elem t (.int j)) .null).value args s none s [] = some true) : cl.slots[j.toNatClampNeg]? = some .null :=
  (elem_in (null_v h) ev (Term.int_eval j) A.1).2
theorem own_size {cl : Cell} {k : Int32} (h : cl.slots.size < 2 ^ 31 ∧ cl.slots.size.toInt32 = k) (hk : ¬ k < 0) : cl.slots.size = k.toNatClampNeg := by
  obtain ⟨h1, rfl⟩ := h
  have := len_toInt h1
  have h2 := nat_of hk
  omega
def STA (Z : State) (h : Heap) (w : Nat → Addr) : Prop := Sta Z h "com/example/lean_broker/leanbroker/protocol/Codec" "NONE" "Lcom/example/lean_broker/leanbroker/protocol/Codec;" (.ref (w 0)) ∧ Sta Z h "com/example/lean_broker/leanbroker/protocol/Codec" "GZIP" "Lcom/example/lean_broker/leanbroker/protocol/Codec;" (.ref (w 1)) ∧ Sta Z h "com/example/lean_broker/leanbroker/protocol/Codec" "SNAPPY" "Lcom/example/lean_broker/leanbroker/protocol/Codec;" (.ref (w 2)) ∧ Sta Z h "com/example/lean_broker/leanbroker/protocol/Codec" "LZ4" "Lcom/example/lean_broker/leanbroker/protocol/Codec;" (.ref (w 3))
def own_cv (w : Nat → Addr) (i : Int32) : Value := if i = 0 then .ref (w 0) else if i = 1 then .ref (w 1) else if i = 2 then .ref (w 2) else if i = 3 then .ref (w 3) else .null
theorem own_cv_ref (w : Nat → Addr) (i : Int32) : (own_cv w i).isRef = true := by
  unfold own_cv
  repeat' split
  all_goals rfl
theorem own_cv_neg (w : Nat → Addr) {i : Int32} (h : i < 0) : own_cv w i = .null := by
  rw [own_cv, if_neg (fun q => by rw [q] at h; revert h; decide), if_neg (fun q => by rw [q] at h; revert h; decide), if_neg (fun q => by rw [q] at h; revert h; decide), if_neg (fun q => by rw [q] at h; revert h; decide)]
theorem own_cv_big (w : Nat → Addr) {i : Int32} (h : ¬ i < 8) : own_cv w i = .null := by
  rw [own_cv, if_neg (fun q => by rw [q] at h; revert h; decide), if_neg (fun q => by rw [q] at h; revert h; decide), if_neg (fun q => by rw [q] at h; revert h; decide), if_neg (fun q => by rw [q] at h; revert h; decide)]
theorem own_HA {cl : Cell} {w : Nat → Addr} (h0 : cl.slots[(0 : Int32).toNatClampNeg]? = some (.ref (w 0))) (h1 : cl.slots[(1 : Int32).toNatClampNeg]? = some (.ref (w 1))) (h2 : cl.slots[(2 : Int32).toNatClampNeg]? = some (.ref (w 2))) (h3 : cl.slots[(3 : Int32).toNatClampNeg]? = some (.ref (w 3)))
    (h4 : cl.slots[(4 : Int32).toNatClampNeg]? = some .null) (h5 : cl.slots[(5 : Int32).toNatClampNeg]? = some .null) (h6 : cl.slots[(6 : Int32).toNatClampNeg]? = some .null) (h7 : cl.slots[(7 : Int32).toNatClampNeg]? = some .null) : ∀ j : Int32, ¬ j < 0 → j < 8 → cl.slots[j.toNatClampNeg]? = some (own_cv w j) := by
  intro j q r
  have q' := mt Int32.lt_iff_toInt_lt.mpr q
  have r' := Int32.lt_iff_toInt_lt.mp r
  have e0 : (0 : Int32).toInt = 0 := rfl
  have e8 : (8 : Int32).toInt = 8 := rfl
  obtain ⟨k, hk, rfl⟩ := own_i32 (i := j) (N := 8) (by decide) (by omega) (by omega)
  match k, hk with
  | 0, _ => exact h0
  | 1, _ => exact h1
  | 2, _ => exact h2
  | 3, _ => exact h3
  | 4, _ => exact h4
  | 5, _ => exact h5
  | 6, _ => exact h6
  | 7, _ => exact h7
  | k + 8, hk => exact absurd hk (by omega)
theorem own_pd_0 : parseMethodDescriptor "(I)Lcom/example/lean_broker/leanbroker/protocol/Codec;" = some ⟨[.int], some (.object "com/example/lean_broker/leanbroker/protocol/Codec")⟩ := by decide +kernel
theorem own_d1_0 : decode prog_3_method_5_code 0 = .ok (.iload_n 0, 1) := by decide +kernel
theorem own_d1_1 : decode prog_3_method_5_code 1 = .ok (.ifCond .lt 19, 3) := by decide +kernel
theorem own_d1_4 : decode prog_3_method_5_code 4 = .ok (.iload_n 0, 1) := by decide +kernel
theorem own_d1_5 : decode prog_3_method_5_code 5 = .ok (.getstatic 39, 3) := by decide +kernel
theorem own_d1_8 : decode prog_3_method_5_code 8 = .ok (.arraylength, 1) := by decide +kernel
theorem own_d1_9 : decode prog_3_method_5_code 9 = .ok (.if_icmp .ge 11, 3) := by decide +kernel
theorem own_d1_12 : decode prog_3_method_5_code 12 = .ok (.getstatic 39, 3) := by decide +kernel
theorem own_d1_15 : decode prog_3_method_5_code 15 = .ok (.iload_n 0, 1) := by decide +kernel
theorem own_d1_16 : decode prog_3_method_5_code 16 = .ok (.aaload, 1) := by decide +kernel
theorem own_d1_17 : decode prog_3_method_5_code 17 = .ok (.goto 4, 3) := by decide +kernel
theorem own_d1_20 : decode prog_3_method_5_code 20 = .ok (.aconst_null, 1) := by decide +kernel
theorem own_d1_21 : decode prog_3_method_5_code 21 = .ok (.areturn, 1) := by decide +kernel
set_option maxRecDepth 65536 in
set_option maxHeartbeats 40000000 in
theorem rm_fi (l : Launch) (Z : State) (a0 : Array Value) (hw : ∀ d ∈ tables_1, d.before a0 Z = true) (ws : List Jvm.Cond) (x0 : Int32) (w : Nat → Addr) (b : Addr) (cl : Cell) (h0 : Heap) (n0 : Nat) (Z0 : n0 ≤ h0.size) (SB : Sta Z h0 "com/example/lean_broker/leanbroker/protocol/Codec" "BY_ID" "[Lcom/example/lean_broker/leanbroker/protocol/Codec;" (.ref b)) (AR : Arr Z h0 b cl (.object "com/example/lean_broker/leanbroker/protocol/Codec")) (SZ : cl.slots.size = (8 : Int32).toNatClampNeg) (HA : ∀ j : Int32, ¬ j < 0 → j < 8 → cl.slots[j.toNatClampNeg]? = some (own_cv w j)) :
    MetFree l (⟨"com/example/lean_broker/leanbroker/protocol/Codec", "forId", "(I)Lcom/example/lean_broker/leanbroker/protocol/Codec;"⟩ : MethodName) (head1 (Jvm.Cond.code (⟨"com/example/lean_broker/leanbroker/protocol/Codec", "forId", "(I)Lcom/example/lean_broker/leanbroker/protocol/Codec;"⟩ : MethodName) prog_3_method_5_code 1 (some (.object "com/example/lean_broker/leanbroker/protocol/Codec")) :: ws) ({ frames := 0, cells := 0, slots := 0, locals := 0 } : Room)) (fun a U => a = #[(.int x0)] ∧ Z.Warmed39 U.vm ∧ U.heap = h0) (fun _ _ _ _ _ => True) (fun _ U o U' => ∃ v L, o = .returned v ∧ QP (own_cv w x0) h0 n0 v U'.heap L ∧ FrameEnd U o U' L ({ frames := 0, cells := 0, slots := 0, locals := 0 } : Room).cells ({ frames := 0, cells := 0, slots := 0, locals := 0 } : Room).slots) := by
  refine MetFree.of_bodySF (plainFor_of_name (by first | (simp [plainName, overriddenIn]; done) | decide +kernel)) hisR ?_
  intro p e s m args below meth c s₁ Bd hml0 hP hK
  obtain ⟨rfl, hZ, hh⟩ := hP
  have hx := Bd.exec
  have hby := Bd.bytes
  have hml : c.maxLocals = 1 := hml0
  have hown : s.vm.findClass "com/example/lean_broker/leanbroker/protocol/Codec" = some m.cls := findClass_of_methodNamed Bd.named
  have hnm := (name_of_methodNamed Bd.named Bd.method).1
  have X0 : Stand p l e ({ frames := 0, cells := 0, slots := 0, locals := 0 } : Room) s m #[(.int x0)] below meth c s₁ [] 0 0 := Stand.of_body Bd
  have e0 : s₁.heap = h0 := by rw [← hh, Bd.state]; rfl
  have N0 := Fr.nil n0
  have ef0 : entryFrame m #[(.int x0)] 1 = mkF m 0 #[.val (.int x0)] [] := by first | (simp [entryFrame, mkF, argsToLocals, Value.category, maxLocals]; done) | rfl
  have pre0 : ∀ t, Steps p.tables e below (s₁.setTop (mkF m 0 #[.val (.int x0)] [])) t → Steps p.tables e below (s₁.setTop (entryFrame m #[(.int x0)] 1)) t := fun t k => castTop ef0 k
  have pre1 : ∀ t, Steps p.tables e below (s₁.setTop (mkF m 1 #[.val (.int x0)] [(.int x0)])) t → Steps p.tables e below (s₁.setTop (entryFrame m #[(.int x0)] 1)) t := fun tt kk => pre0 tt (by
    show Steps p.tables e below (s₁.setTop (mkF m 0 #[.val (.int x0)] [])) _
    refine XS.iloadN X0.here hx rfl (hb hby own_d1_0) rfl ?_
    exact kk)
  by_cases hc1 : x0 < (0 : Int32)
  · obtain ⟨fs, hr, hrun, hended, hW, hsame⟩ := X0.leave (v := some .null) (fun h => by rw [Bd.returns] at h; cases h)
    refine ⟨_, _, pre1 _ ?_, hrun, hended, _, _, rfl, ?_, ⟨_, rfl⟩, hW, hsame.mono (by decide) (by decide)⟩
    · show Steps p.tables e below (s₁.setTop (mkF m 1 #[.val (.int x0)] [(.int x0)])) _
      refine XS.ifYes X0.here hx rfl (pc0 := 1) (pc' := 20) rfl (hb hby own_d1_1) rfl ((if0 _ _).trans (tlt hc1).1) (by decide) (by decide) ?_
      show Steps p.tables e below (s₁.setTop (mkF m 20 #[.val (.int x0)] [])) _
      refine XS.aconstNull X0.here hx rfl (hb hby own_d1_20) ?_
      show Steps p.tables e below (s₁.setTop (mkF m 21 #[.val (.int x0)] [.null])) _
      exact retOut X0 hx Bd.returns rfl (Or.inr (Or.inr (Or.inr (Or.inr ⟨rfl, rfl, rfl⟩)))) (hb hby own_d1_21) hr
    · show QP (own_cv w x0) h0 n0 _ s₁.heap _
      rw [e0]
      exact ⟨by rw [(own_cv_neg w hc1)], N0, rfl⟩
  · obtain ⟨T2, X2, e2, st2⟩ := getS2 X0 hx hZ hown (host := "") (Or.inl (hw _ (List.mem_of_getElem? (i := 4) rfl))) Via.refl e0 SB (g := (mkF m 5 #[.val (.int x0)] [(.int x0)])) rfl (hb hby own_d1_5)
    have pre3 : ∀ t, Steps p.tables e below (T2.setTop (mkF m 9 #[.val (.int x0)] [(.int (8 : Int32)), (.int x0)])) t → Steps p.tables e below (s₁.setTop (entryFrame m #[(.int x0)] 1)) t := fun tt kk => pre1 tt (by
      show Steps p.tables e below (s₁.setTop (mkF m 1 #[.val (.int x0)] [(.int x0)])) _
      refine XS.ifNo X0.here hx rfl (hb hby own_d1_1) rfl ((if0 _ _).trans (flt hc1).1) ?_
      show Steps p.tables e below (s₁.setTop (mkF m 4 #[.val (.int x0)] [])) _
      refine XS.iloadN X0.here hx rfl (hb hby own_d1_4) rfl ?_
      show Steps p.tables e below (s₁.setTop (mkF m 5 #[.val (.int x0)] [(.int x0)])) _
      refine st2 _ ?_
      show Steps p.tables e below (T2.setTop (mkF m 8 #[.val (.int x0)] [(.ref b), (.int x0)])) _
      refine X2.arraylength hx (by rw [e2]; exact AR.1) (State.isArrayOf_alike hZ.alike AR.2.1) (g := (mkF m 8 #[.val (.int x0)] [(.ref b), (.int x0)])) rfl rfl (hb hby own_d1_8) _ ?_
      rw [len_of SZ (by decide)]
      exact kk)
    by_cases hc9 : x0 < (8 : Int32)
    · obtain ⟨T4, X4, e4, st4⟩ := getS2 X2 hx hZ hown (host := "") (Or.inl (hw _ (List.mem_of_getElem? (i := 4) rfl))) Via.refl e2 SB (g := (mkF m 12 #[.val (.int x0)] [])) rfl (hb hby own_d1_12)
      obtain ⟨fs, hr, hrun, hended, hW, hsame⟩ := X4.leave (v := some (own_cv w x0)) (fun h => by rw [Bd.returns] at h; cases h)
      refine ⟨_, _, pre3 _ ?_, hrun, hended, _, _, rfl, ?_, ⟨_, rfl⟩, hW, hsame.mono (by decide) (by decide)⟩
      · show Steps p.tables e below (T2.setTop (mkF m 9 #[.val (.int x0)] [(.int (8 : Int32)), (.int x0)])) _
        refine XS.icmpNo X2.here hx rfl (hb hby own_d1_9) rfl (tlt hc9).2.1 ?_
        show Steps p.tables e below (T2.setTop (mkF m 12 #[.val (.int x0)] [])) _
        refine st4 _ ?_
        show Steps p.tables e below (T4.setTop (mkF m 15 #[.val (.int x0)] [(.ref b)])) _
        refine XS.iloadN X4.here hx rfl (hb hby own_d1_15) rfl ?_
        show Steps p.tables e below (T4.setTop (mkF m 16 #[.val (.int x0)] [(.int x0), (.ref b)])) _
        refine X4.aaload hx (j := x0) (v := (own_cv w x0)) (by rw [e4]; exact AR.1) (State.isArrayOf_alike hZ.alike AR.2.1) rfl AR.2.2 (inb_of SZ ⟨hc1, hc9⟩) (HA _ hc1 hc9) (g := (mkF m 16 #[.val (.int x0)] [(.int x0), (.ref b)])) rfl rfl (hb hby own_d1_16) _ ?_
        show Steps p.tables e below (T4.setTop (mkF m 17 #[.val (.int x0)] [(own_cv w x0)])) _
        refine XS.goto X4.here hx rfl (pc0 := 17) (pc' := 21) rfl (hb hby own_d1_17) (by decide) (by decide) ?_
        show Steps p.tables e below (T4.setTop (mkF m 21 #[.val (.int x0)] [(own_cv w x0)])) _
        exact retOut X4 hx Bd.returns (own_narrow _ _) (Or.inr (Or.inr (Or.inr (Or.inr ⟨rfl, rfl, (own_cv_ref w x0)⟩)))) (hb hby own_d1_21) hr
      · show QP (own_cv w x0) h0 n0 _ T4.heap _
        rw [e4]
        exact ⟨rfl, N0, rfl⟩
    · obtain ⟨fs, hr, hrun, hended, hW, hsame⟩ := X2.leave (v := some .null) (fun h => by rw [Bd.returns] at h; cases h)
      refine ⟨_, _, pre3 _ ?_, hrun, hended, _, _, rfl, ?_, ⟨_, rfl⟩, hW, hsame.mono (by decide) (by decide)⟩
      · show Steps p.tables e below (T2.setTop (mkF m 9 #[.val (.int x0)] [(.int (8 : Int32)), (.int x0)])) _
        refine XS.icmpYes X2.here hx rfl (pc0 := 9) (pc' := 20) rfl (hb hby own_d1_9) rfl (flt hc9).2.1 (by decide) (by decide) ?_
        show Steps p.tables e below (T2.setTop (mkF m 20 #[.val (.int x0)] [])) _
        refine XS.aconstNull X2.here hx rfl (hb hby own_d1_20) ?_
        show Steps p.tables e below (T2.setTop (mkF m 21 #[.val (.int x0)] [.null])) _
        exact retOut X2 hx Bd.returns rfl (Or.inr (Or.inr (Or.inr (Or.inr ⟨rfl, rfl, rfl⟩)))) (hb hby own_d1_21) hr
      · show QP (own_cv w x0) h0 n0 _ T2.heap _
        rw [e2]
        exact ⟨by rw [(own_cv_big w hc9)], N0, rfl⟩
theorem own_d2_0 : decode method_2_code 0 = .ok (.iload_n 0, 1) := by decide +kernel
theorem own_d2_1 : decode method_2_code 1 = .ok (.ifCond .ne 7, 3) := by decide +kernel
theorem own_d2_4 : decode method_2_code 4 = .ok (.getstatic 7, 3) := by decide +kernel
theorem own_d2_7 : decode method_2_code 7 = .ok (.areturn, 1) := by decide +kernel
theorem own_d2_8 : decode method_2_code 8 = .ok (.iload_n 0, 1) := by decide +kernel
theorem own_d2_9 : decode method_2_code 9 = .ok (.iconst 1, 1) := by decide +kernel
theorem own_d2_10 : decode method_2_code 10 = .ok (.if_icmp .ne 7, 3) := by decide +kernel
theorem own_d2_13 : decode method_2_code 13 = .ok (.getstatic 13, 3) := by decide +kernel
theorem own_d2_16 : decode method_2_code 16 = .ok (.areturn, 1) := by decide +kernel
theorem own_d2_17 : decode method_2_code 17 = .ok (.iload_n 0, 1) := by decide +kernel
theorem own_d2_18 : decode method_2_code 18 = .ok (.iconst 2, 1) := by decide +kernel
theorem own_d2_19 : decode method_2_code 19 = .ok (.if_icmp .ne 7, 3) := by decide +kernel
theorem own_d2_22 : decode method_2_code 22 = .ok (.getstatic 16, 3) := by decide +kernel
theorem own_d2_25 : decode method_2_code 25 = .ok (.areturn, 1) := by decide +kernel
theorem own_d2_26 : decode method_2_code 26 = .ok (.iload_n 0, 1) := by decide +kernel
theorem own_d2_27 : decode method_2_code 27 = .ok (.iconst 3, 1) := by decide +kernel
theorem own_d2_28 : decode method_2_code 28 = .ok (.if_icmp .ne 7, 3) := by decide +kernel
theorem own_d2_31 : decode method_2_code 31 = .ok (.getstatic 19, 3) := by decide +kernel
theorem own_d2_34 : decode method_2_code 34 = .ok (.areturn, 1) := by decide +kernel
theorem own_d2_35 : decode method_2_code 35 = .ok (.aconst_null, 1) := by decide +kernel
theorem own_d2_36 : decode method_2_code 36 = .ok (.areturn, 1) := by decide +kernel
set_option maxRecDepth 65536 in
set_option maxHeartbeats 40000000 in
theorem rm_ex (l : Launch) (Z : State) (a0 : Array Value) (hw : ∀ d ∈ tables_1, d.before a0 Z = true) (ws : List Jvm.Cond) (x0 : Int32) (w : Nat → Addr) (h0 : Heap) (n0 : Nat) (Z0 : n0 ≤ h0.size) (ST : STA Z h0 w) :
    MetFree l (⟨"com/example/lean_broker/leanbroker/protocol/CodecForIdPinLaw", "expected", "(I)Lcom/example/lean_broker/leanbroker/protocol/Codec;"⟩ : MethodName) (head1 (Jvm.Cond.code (⟨"com/example/lean_broker/leanbroker/protocol/CodecForIdPinLaw", "expected", "(I)Lcom/example/lean_broker/leanbroker/protocol/Codec;"⟩ : MethodName) method_2_code 1 (some (.object "com/example/lean_broker/leanbroker/protocol/Codec")) :: ws) ({ frames := 0, cells := 0, slots := 0, locals := 0 } : Room)) (fun a U => a = #[(.int x0)] ∧ Z.Warmed39 U.vm ∧ U.heap = h0) (fun _ _ _ _ _ => True) (fun _ U o U' => ∃ v L, o = .returned v ∧ QP (own_cv w x0) h0 n0 v U'.heap L ∧ FrameEnd U o U' L ({ frames := 0, cells := 0, slots := 0, locals := 0 } : Room).cells ({ frames := 0, cells := 0, slots := 0, locals := 0 } : Room).slots) := by
  refine MetFree.of_bodySF (plainFor_of_name (by first | (simp [plainName, overriddenIn]; done) | decide +kernel)) hisR ?_
  intro p e s m args below meth c s₁ Bd hml0 hP hK
  obtain ⟨rfl, hZ, hh⟩ := hP
  have hx := Bd.exec
  have hby := Bd.bytes
  have hml : c.maxLocals = 1 := hml0
  have hown : s.vm.findClass "com/example/lean_broker/leanbroker/protocol/CodecForIdPinLaw" = some m.cls := findClass_of_methodNamed Bd.named
  have hnm := (name_of_methodNamed Bd.named Bd.method).1
  have X0 : Stand p l e ({ frames := 0, cells := 0, slots := 0, locals := 0 } : Room) s m #[(.int x0)] below meth c s₁ [] 0 0 := Stand.of_body Bd
  have e0 : s₁.heap = h0 := by rw [← hh, Bd.state]; rfl
  have N0 := Fr.nil n0
  have ef0 : entryFrame m #[(.int x0)] 1 = mkF m 0 #[.val (.int x0)] [] := by first | (simp [entryFrame, mkF, argsToLocals, Value.category, maxLocals]; done) | rfl
  have pre0 : ∀ t, Steps p.tables e below (s₁.setTop (mkF m 0 #[.val (.int x0)] [])) t → Steps p.tables e below (s₁.setTop (entryFrame m #[(.int x0)] 1)) t := fun t k => castTop ef0 k
  have pre5 : ∀ t, Steps p.tables e below (s₁.setTop (mkF m 1 #[.val (.int x0)] [(.int x0)])) t → Steps p.tables e below (s₁.setTop (entryFrame m #[(.int x0)] 1)) t := fun tt kk => pre0 tt (by
    show Steps p.tables e below (s₁.setTop (mkF m 0 #[.val (.int x0)] [])) _
    refine XS.iloadN X0.here hx rfl (hb hby own_d2_0) rfl ?_
    exact kk)
  by_cases hc1 : x0 = (0 : Int32)
  · obtain ⟨T6, X6, e6, st6⟩ := getS2 X0 hx hZ hown (host := "") (Or.inl (hw _ (List.mem_of_getElem? (i := 11) rfl))) Via.refl e0 ST.1 (g := (mkF m 4 #[.val (.int x0)] [])) rfl (hb hby own_d2_4)
    obtain ⟨fs, hr, hrun, hended, hW, hsame⟩ := X6.leave (v := some (.ref (w 0))) (fun h => by rw [Bd.returns] at h; cases h)
    refine ⟨_, _, pre5 _ ?_, hrun, hended, _, _, rfl, ?_, ⟨_, rfl⟩, hW, hsame.mono (by decide) (by decide)⟩
    · show Steps p.tables e below (s₁.setTop (mkF m 1 #[.val (.int x0)] [(.int x0)])) _
      refine XS.ifNo X0.here hx rfl (hb hby own_d2_1) rfl ((if0 _ _).trans (teq hc1).2) ?_
      show Steps p.tables e below (s₁.setTop (mkF m 4 #[.val (.int x0)] [])) _
      refine st6 _ ?_
      show Steps p.tables e below (T6.setTop (mkF m 7 #[.val (.int x0)] [(.ref (w 0))])) _
      exact retOut X6 hx Bd.returns rfl (Or.inr (Or.inr (Or.inr (Or.inr ⟨rfl, rfl, rfl⟩)))) (hb hby own_d2_7) hr
    · show QP (own_cv w x0) h0 n0 _ T6.heap _
      rw [e6]
      exact ⟨by rw [own_cv]; rw [if_pos hc1], N0, rfl⟩
  · have pre7 : ∀ t, Steps p.tables e below (s₁.setTop (mkF m 10 #[.val (.int x0)] [(.int (1 : Int32)), (.int x0)])) t → Steps p.tables e below (s₁.setTop (entryFrame m #[(.int x0)] 1)) t := fun tt kk => pre5 tt (by
      show Steps p.tables e below (s₁.setTop (mkF m 1 #[.val (.int x0)] [(.int x0)])) _
      refine XS.ifYes X0.here hx rfl (pc0 := 1) (pc' := 8) rfl (hb hby own_d2_1) rfl ((if0 _ _).trans (feq hc1).2) (by decide) (by decide) ?_
      show Steps p.tables e below (s₁.setTop (mkF m 8 #[.val (.int x0)] [])) _
      refine XS.iloadN X0.here hx rfl (hb hby own_d2_8) rfl ?_
      show Steps p.tables e below (s₁.setTop (mkF m 9 #[.val (.int x0)] [(.int x0)])) _
      refine XS.iconst X0.here hx rfl (hb hby own_d2_9) ?_
      exact kk)
    by_cases hc10 : x0 = (1 : Int32)
    · obtain ⟨T8, X8, e8, st8⟩ := getS2 X0 hx hZ hown (host := "") (Or.inl (hw _ (List.mem_of_getElem? (i := 13) rfl))) Via.refl e0 ST.2.1 (g := (mkF m 13 #[.val (.int x0)] [])) rfl (hb hby own_d2_13)
      obtain ⟨fs, hr, hrun, hended, hW, hsame⟩ := X8.leave (v := some (.ref (w 1))) (fun h => by rw [Bd.returns] at h; cases h)
      refine ⟨_, _, pre7 _ ?_, hrun, hended, _, _, rfl, ?_, ⟨_, rfl⟩, hW, hsame.mono (by decide) (by decide)⟩
      · show Steps p.tables e below (s₁.setTop (mkF m 10 #[.val (.int x0)] [(.int (1 : Int32)), (.int x0)])) _
        refine XS.icmpNo X0.here hx rfl (hb hby own_d2_10) rfl (teq hc10).2 ?_
        show Steps p.tables e below (s₁.setTop (mkF m 13 #[.val (.int x0)] [])) _
        refine st8 _ ?_
        show Steps p.tables e below (T8.setTop (mkF m 16 #[.val (.int x0)] [(.ref (w 1))])) _
        exact retOut X8 hx Bd.returns rfl (Or.inr (Or.inr (Or.inr (Or.inr ⟨rfl, rfl, rfl⟩)))) (hb hby own_d2_16) hr
      · show QP (own_cv w x0) h0 n0 _ T8.heap _
        rw [e8]
        exact ⟨by rw [own_cv]; rw [if_neg hc1, if_pos hc10], N0, rfl⟩
    · have pre9 : ∀ t, Steps p.tables e below (s₁.setTop (mkF m 19 #[.val (.int x0)] [(.int (2 : Int32)), (.int x0)])) t → Steps p.tables e below (s₁.setTop (entryFrame m #[(.int x0)] 1)) t := fun tt kk => pre7 tt (by
        show Steps p.tables e below (s₁.setTop (mkF m 10 #[.val (.int x0)] [(.int (1 : Int32)), (.int x0)])) _
        refine XS.icmpYes X0.here hx rfl (pc0 := 10) (pc' := 17) rfl (hb hby own_d2_10) rfl (feq hc10).2 (by decide) (by decide) ?_
        show Steps p.tables e below (s₁.setTop (mkF m 17 #[.val (.int x0)] [])) _
        refine XS.iloadN X0.here hx rfl (hb hby own_d2_17) rfl ?_
        show Steps p.tables e below (s₁.setTop (mkF m 18 #[.val (.int x0)] [(.int x0)])) _
        refine XS.iconst X0.here hx rfl (hb hby own_d2_18) ?_
        exact kk)
      by_cases hc19 : x0 = (2 : Int32)
      · obtain ⟨T10, X10, e10, st10⟩ := getS2 X0 hx hZ hown (host := "") (Or.inl (hw _ (List.mem_of_getElem? (i := 17) rfl))) Via.refl e0 ST.2.2.1 (g := (mkF m 22 #[.val (.int x0)] [])) rfl (hb hby own_d2_22)
        obtain ⟨fs, hr, hrun, hended, hW, hsame⟩ := X10.leave (v := some (.ref (w 2))) (fun h => by rw [Bd.returns] at h; cases h)
        refine ⟨_, _, pre9 _ ?_, hrun, hended, _, _, rfl, ?_, ⟨_, rfl⟩, hW, hsame.mono (by decide) (by decide)⟩
        · show Steps p.tables e below (s₁.setTop (mkF m 19 #[.val (.int x0)] [(.int (2 : Int32)), (.int x0)])) _
          refine XS.icmpNo X0.here hx rfl (hb hby own_d2_19) rfl (teq hc19).2 ?_
          show Steps p.tables e below (s₁.setTop (mkF m 22 #[.val (.int x0)] [])) _
          refine st10 _ ?_
          show Steps p.tables e below (T10.setTop (mkF m 25 #[.val (.int x0)] [(.ref (w 2))])) _
          exact retOut X10 hx Bd.returns rfl (Or.inr (Or.inr (Or.inr (Or.inr ⟨rfl, rfl, rfl⟩)))) (hb hby own_d2_25) hr
        · show QP (own_cv w x0) h0 n0 _ T10.heap _
          rw [e10]
          exact ⟨by rw [own_cv]; rw [if_neg hc1, if_neg hc10, if_pos hc19], N0, rfl⟩
      · have pre11 : ∀ t, Steps p.tables e below (s₁.setTop (mkF m 28 #[.val (.int x0)] [(.int (3 : Int32)), (.int x0)])) t → Steps p.tables e below (s₁.setTop (entryFrame m #[(.int x0)] 1)) t := fun tt kk => pre9 tt (by
          show Steps p.tables e below (s₁.setTop (mkF m 19 #[.val (.int x0)] [(.int (2 : Int32)), (.int x0)])) _
          refine XS.icmpYes X0.here hx rfl (pc0 := 19) (pc' := 26) rfl (hb hby own_d2_19) rfl (feq hc19).2 (by decide) (by decide) ?_
          show Steps p.tables e below (s₁.setTop (mkF m 26 #[.val (.int x0)] [])) _
          refine XS.iloadN X0.here hx rfl (hb hby own_d2_26) rfl ?_
          show Steps p.tables e below (s₁.setTop (mkF m 27 #[.val (.int x0)] [(.int x0)])) _
          refine XS.iconst X0.here hx rfl (hb hby own_d2_27) ?_
          exact kk)
        by_cases hc28 : x0 = (3 : Int32)
        · obtain ⟨T12, X12, e12, st12⟩ := getS2 X0 hx hZ hown (host := "") (Or.inl (hw _ (List.mem_of_getElem? (i := 15) rfl))) Via.refl e0 ST.2.2.2 (g := (mkF m 31 #[.val (.int x0)] [])) rfl (hb hby own_d2_31)
          obtain ⟨fs, hr, hrun, hended, hW, hsame⟩ := X12.leave (v := some (.ref (w 3))) (fun h => by rw [Bd.returns] at h; cases h)
          refine ⟨_, _, pre11 _ ?_, hrun, hended, _, _, rfl, ?_, ⟨_, rfl⟩, hW, hsame.mono (by decide) (by decide)⟩
          · show Steps p.tables e below (s₁.setTop (mkF m 28 #[.val (.int x0)] [(.int (3 : Int32)), (.int x0)])) _
            refine XS.icmpNo X0.here hx rfl (hb hby own_d2_28) rfl (teq hc28).2 ?_
            show Steps p.tables e below (s₁.setTop (mkF m 31 #[.val (.int x0)] [])) _
            refine st12 _ ?_
            show Steps p.tables e below (T12.setTop (mkF m 34 #[.val (.int x0)] [(.ref (w 3))])) _
            exact retOut X12 hx Bd.returns rfl (Or.inr (Or.inr (Or.inr (Or.inr ⟨rfl, rfl, rfl⟩)))) (hb hby own_d2_34) hr
          · show QP (own_cv w x0) h0 n0 _ T12.heap _
            rw [e12]
            exact ⟨by rw [own_cv]; rw [if_neg hc1, if_neg hc10, if_neg hc19, if_pos hc28], N0, rfl⟩
        · obtain ⟨fs, hr, hrun, hended, hW, hsame⟩ := X0.leave (v := some .null) (fun h => by rw [Bd.returns] at h; cases h)
          refine ⟨_, _, pre11 _ ?_, hrun, hended, _, _, rfl, ?_, ⟨_, rfl⟩, hW, hsame.mono (by decide) (by decide)⟩
          · show Steps p.tables e below (s₁.setTop (mkF m 28 #[.val (.int x0)] [(.int (3 : Int32)), (.int x0)])) _
            refine XS.icmpYes X0.here hx rfl (pc0 := 28) (pc' := 35) rfl (hb hby own_d2_28) rfl (feq hc28).2 (by decide) (by decide) ?_
            show Steps p.tables e below (s₁.setTop (mkF m 35 #[.val (.int x0)] [])) _
            refine XS.aconstNull X0.here hx rfl (hb hby own_d2_35) ?_
            show Steps p.tables e below (s₁.setTop (mkF m 36 #[.val (.int x0)] [.null])) _
            exact retOut X0 hx Bd.returns rfl (Or.inr (Or.inr (Or.inr (Or.inr ⟨rfl, rfl, rfl⟩)))) (hb hby own_d2_36) hr
          · show QP (own_cv w x0) h0 n0 _ s₁.heap _
            rw [e0]
            exact ⟨by rw [own_cv]; rw [if_neg hc1, if_neg hc10, if_neg hc19, if_neg hc28], N0, rfl⟩
set_option maxRecDepth 65536 in
set_option maxHeartbeats 40000000 in
theorem rm0 (l : Launch) (Z : State) (a0 : Array Value) (hw : ∀ d ∈ tables_1, d.before a0 Z = true) (ws : List Jvm.Cond) (x0 x1 : Int32) (w : Nat → Addr) (b : Addr) (cl : Cell) (h0 : Heap) (n0 : Nat) (Z0 : n0 ≤ h0.size) (ST : STA Z h0 w) (SB : Sta Z h0 "com/example/lean_broker/leanbroker/protocol/Codec" "BY_ID" "[Lcom/example/lean_broker/leanbroker/protocol/Codec;" (.ref b)) (AR : Arr Z h0 b cl (.object "com/example/lean_broker/leanbroker/protocol/Codec")) (SZ : cl.slots.size = (8 : Int32).toNatClampNeg) (HA : ∀ j : Int32, ¬ j < 0 → j < 8 → cl.slots[j.toNatClampNeg]? = some (own_cv w j)) :
    MetFree l x (head1 (Jvm.Cond.code x code maxLocals ret :: ws) room_1) (fun a U => a = #[(.int x0), (.int x1)] ∧ Z.Warmed39 U.vm ∧ U.heap = h0) (fun _ _ _ _ _ => True) (fun _ U o U' => ∃ v L, o = .returned v ∧ Q1 n0 v U'.heap L ∧ FrameEnd U o U' L room_1.cells room_1.slots) := by
  refine MetFree.of_bodySF (plainFor_of_name (by first | (simp [plainName, overriddenIn]; done) | decide +kernel)) hisR ?_
  intro p e s m args below meth c s₁ Bd hml0 hP hK
  obtain ⟨rfl, hZ, hh⟩ := hP
  have hx := Bd.exec
  have hby := Bd.bytes
  have hml : c.maxLocals = 5 := hml0
  have hown : s.vm.findClass "com/example/lean_broker/leanbroker/protocol/CodecForIdPinLaw" = some m.cls := findClass_of_methodNamed Bd.named
  have hnm := (name_of_methodNamed Bd.named Bd.method).1
  have X0 : Stand p l e room_1 s m #[(.int x0), (.int x1)] below meth c s₁ [] 0 0 := Stand.of_body Bd
  have e0 : s₁.heap = h0 := by rw [← hh, Bd.state]; rfl
  have N0 := Fr.nil n0
  have ef0 : entryFrame m #[(.int x0), (.int x1)] maxLocals = mkF m 0 #[.val (.int x0), .val (.int x1), .unset, .unset, .unset] [] := by first | (simp [entryFrame, mkF, argsToLocals, Value.category, maxLocals]; done) | rfl
  have pre0 : ∀ t, Steps p.tables e below (s₁.setTop (mkF m 0 #[.val (.int x0), .val (.int x1), .unset, .unset, .unset] [])) t → Steps p.tables e below (s₁.setTop (entryFrame m #[(.int x0), (.int x1)] maxLocals)) t := fun t k => castTop ef0 k
  obtain ⟨vv13, _, ⟨T13, L13, k13, n13⟩, -, X13, ⟨Lc13, hQ13, l13, y13, z13⟩, st13⟩ := Jvm.LawKit.callS X0 hx (y := (⟨"com/example/lean_broker/leanbroker/protocol/Codec", "forId", "(I)Lcom/example/lean_broker/leanbroker/protocol/Codec;"⟩ : MethodName)) hown (mvT hZ (hw _ (List.mem_of_getElem? (i := 0) rfl))) (mvT hZ (hw _ (List.mem_of_getElem? (i := 1) rfl))) (mvT hZ (hw _ (List.mem_of_getElem? (i := 2) rfl))) (mvT hZ (hw _ (List.mem_of_getElem? (i := 3) rfl))) (by decide) (backOf (W := 0) (rm_fi l Z a0 hw [] x0 w b cl h0 n0 Z0 SB AR SZ HA) hZ (hw _ (List.mem_of_getElem? (i := 3) rfl)) (hw _ (List.mem_of_getElem? (i := 2) rfl)) (by decide) (by decide)) (g := (mkF m 8 #[.val (.int x0), .val (.int x1), .val (.int ((x1 &&& (15 : Int32)) - (4 : Int32))), .unset, .unset] [(.int x0)])) rfl (by rw [hml]; rfl) (argsL := [(.int x0)]) (rest := []) (lenOf own_pd_0 rfl) rfl (by show 2 * 0 + _ ≤ _; exact Nat.le_of_eq rfl) (hb hby at_8) (fun _ _ => ⟨rfl, e0, (by decide : 0 + 0 ≤ _), (by decide : 0 + 0 ≤ _)⟩)
  dsimp only [Pt.U, Pt.locs, Pt.cells, Pt.slots] at X13 l13 y13 z13 st13 hQ13
  subst l13 y13 z13
  obtain ⟨rfl, N13q, e13⟩ := hQ13
  have N13 := Fr.app N0 N13q
  obtain ⟨vv14, _, ⟨T14, L14, k14, n14⟩, -, X14, ⟨Lc14, hQ14, l14, y14, z14⟩, st14⟩ := Jvm.LawKit.callS X13 hx (y := (⟨"com/example/lean_broker/leanbroker/protocol/Codec", "forId", "(I)Lcom/example/lean_broker/leanbroker/protocol/Codec;"⟩ : MethodName)) hown (mvT hZ (hw _ (List.mem_of_getElem? (i := 0) rfl))) (mvT hZ (hw _ (List.mem_of_getElem? (i := 1) rfl))) (mvT hZ (hw _ (List.mem_of_getElem? (i := 2) rfl))) (mvT hZ (hw _ (List.mem_of_getElem? (i := 3) rfl))) (by decide) (backOf (W := 0) (rm_fi l Z a0 hw [] ((x1 &&& (15 : Int32)) - (4 : Int32)) w b cl h0 n0 Z0 SB AR SZ HA) hZ (hw _ (List.mem_of_getElem? (i := 3) rfl)) (hw _ (List.mem_of_getElem? (i := 2) rfl)) (by decide) (by decide)) (g := (mkF m 13 #[.val (.int x0), .val (.int x1), .val (.int ((x1 &&& (15 : Int32)) - (4 : Int32))), .val (own_cv w x0), .unset] [(.int ((x1 &&& (15 : Int32)) - (4 : Int32)))])) rfl (by rw [hml]; rfl) (argsL := [(.int ((x1 &&& (15 : Int32)) - (4 : Int32)))]) (rest := []) (lenOf own_pd_0 rfl) rfl (by show 2 * 0 + _ ≤ _; exact Nat.le_of_eq rfl) (hb hby at_13) (fun _ _ => ⟨rfl, e13, (by decide : 0 + 0 ≤ _), (by decide : 0 + 0 ≤ _)⟩)
  dsimp only [Pt.U, Pt.locs, Pt.cells, Pt.slots] at X14 l14 y14 z14 st14 hQ14
  subst l14 y14 z14
  obtain ⟨rfl, N14q, e14⟩ := hQ14
  have N14 := Fr.app N13 N14q
  obtain ⟨vv15, _, ⟨T15, L15, k15, n15⟩, -, X15, ⟨Lc15, hQ15, l15, y15, z15⟩, st15⟩ := Jvm.LawKit.callS X14 hx (y := (⟨"com/example/lean_broker/leanbroker/protocol/CodecForIdPinLaw", "expected", "(I)Lcom/example/lean_broker/leanbroker/protocol/Codec;"⟩ : MethodName)) hown (mvT hZ (hw _ (List.mem_of_getElem? (i := 7) rfl))) (mvT hZ (hw _ (List.mem_of_getElem? (i := 8) rfl))) (mvT hZ (hw _ (List.mem_of_getElem? (i := 9) rfl))) (mvT hZ (hw _ (List.mem_of_getElem? (i := 10) rfl))) (by decide) (backOf (W := 1) (rm_ex l Z a0 hw [] x0 w h0 n0 Z0 ST) hZ (hw _ (List.mem_of_getElem? (i := 10) rfl)) (hw _ (List.mem_of_getElem? (i := 9) rfl)) (by decide) (by decide)) (g := (mkF m 20 #[.val (.int x0), .val (.int x1), .val (.int ((x1 &&& (15 : Int32)) - (4 : Int32))), .val (own_cv w x0), .val (own_cv w ((x1 &&& (15 : Int32)) - (4 : Int32)))] [(.int x0), (own_cv w x0)])) rfl (by rw [hml]; rfl) (argsL := [(.int x0)]) (rest := [(own_cv w x0)]) (lenOf own_pd_0 rfl) rfl (by show 2 * 0 + (List.map (fun v => v.category) [(own_cv w x0)]).sum ≤ 1; simp [(own_cat (own_cv_ref w x0))]) (hb hby at_20) (fun _ _ => ⟨rfl, e14, (by decide : 0 + 0 ≤ _), (by decide : 0 + 0 ≤ _)⟩)
  dsimp only [Pt.U, Pt.locs, Pt.cells, Pt.slots] at X15 l15 y15 z15 st15 hQ15
  subst l15 y15 z15
  obtain ⟨rfl, N15q, e15⟩ := hQ15
  have N15 := Fr.app N14 N15q
  have pre16 : ∀ t, Steps p.tables e below (T15.setTop (mkF m 23 #[.val (.int x0), .val (.int x1), .val (.int ((x1 &&& (15 : Int32)) - (4 : Int32))), .val (own_cv w x0), .val (own_cv w ((x1 &&& (15 : Int32)) - (4 : Int32)))] [(own_cv w x0), (own_cv w x0)])) t → Steps p.tables e below (s₁.setTop (entryFrame m #[(.int x0), (.int x1)] maxLocals)) t := fun tt kk => pre0 tt (by
    show Steps p.tables e below (s₁.setTop (mkF m 0 #[.val (.int x0), .val (.int x1), .unset, .unset, .unset] [])) _
    refine XS.iloadN X0.here hx rfl (hb hby at_0) rfl ?_
    show Steps p.tables e below (s₁.setTop (mkF m 1 #[.val (.int x0), .val (.int x1), .unset, .unset, .unset] [(.int x1)])) _
    refine XS.bipush X0.here hx rfl (hb hby at_1) ?_
    show Steps p.tables e below (s₁.setTop (mkF m 3 #[.val (.int x0), .val (.int x1), .unset, .unset, .unset] [(.int (15 : Int32)), (.int x1)])) _
    refine XS.iand X0.here hx rfl (hb hby at_3) rfl ?_
    show Steps p.tables e below (s₁.setTop (mkF m 4 #[.val (.int x0), .val (.int x1), .unset, .unset, .unset] [(.int (x1 &&& (15 : Int32)))])) _
    refine XS.iconst X0.here hx rfl (hb hby at_4) ?_
    show Steps p.tables e below (s₁.setTop (mkF m 5 #[.val (.int x0), .val (.int x1), .unset, .unset, .unset] [(.int (4 : Int32)), (.int (x1 &&& (15 : Int32)))])) _
    refine XS.isub X0.here hx rfl (hb hby at_5) rfl ?_
    show Steps p.tables e below (s₁.setTop (mkF m 6 #[.val (.int x0), .val (.int x1), .unset, .unset, .unset] [(.int ((x1 &&& (15 : Int32)) - (4 : Int32)))])) _
    refine XS.istoreN X0.here hx rfl (hb hby at_6) rfl (l' := #[.val (.int x0), .val (.int x1), .val (.int ((x1 &&& (15 : Int32)) - (4 : Int32))), .unset, .unset]) rfl ?_
    show Steps p.tables e below (s₁.setTop (mkF m 7 #[.val (.int x0), .val (.int x1), .val (.int ((x1 &&& (15 : Int32)) - (4 : Int32))), .unset, .unset] [])) _
    refine XS.iloadN X0.here hx rfl (hb hby at_7) rfl ?_
    show Steps p.tables e below (s₁.setTop (mkF m 8 #[.val (.int x0), .val (.int x1), .val (.int ((x1 &&& (15 : Int32)) - (4 : Int32))), .unset, .unset] [(.int x0)])) _
    refine st13 _ ?_
    show Steps p.tables e below (T13.setTop (mkF m 11 #[.val (.int x0), .val (.int x1), .val (.int ((x1 &&& (15 : Int32)) - (4 : Int32))), .unset, .unset] [(own_cv w x0)])) _
    refine XS.astoreN X13.here hx rfl (hb hby at_11) rfl (own_cv_ref w x0) (l' := #[.val (.int x0), .val (.int x1), .val (.int ((x1 &&& (15 : Int32)) - (4 : Int32))), .val (own_cv w x0), .unset]) (XS.store1 rfl (Or.inl rfl) (own_cat (own_cv_ref w x0))) ?_
    show Steps p.tables e below (T13.setTop (mkF m 12 #[.val (.int x0), .val (.int x1), .val (.int ((x1 &&& (15 : Int32)) - (4 : Int32))), .val (own_cv w x0), .unset] [])) _
    refine XS.iloadN X13.here hx rfl (hb hby at_12) rfl ?_
    show Steps p.tables e below (T13.setTop (mkF m 13 #[.val (.int x0), .val (.int x1), .val (.int ((x1 &&& (15 : Int32)) - (4 : Int32))), .val (own_cv w x0), .unset] [(.int ((x1 &&& (15 : Int32)) - (4 : Int32)))])) _
    refine st14 _ ?_
    show Steps p.tables e below (T14.setTop (mkF m 16 #[.val (.int x0), .val (.int x1), .val (.int ((x1 &&& (15 : Int32)) - (4 : Int32))), .val (own_cv w x0), .unset] [(own_cv w ((x1 &&& (15 : Int32)) - (4 : Int32)))])) _
    refine XS.astore X14.here hx rfl (hb hby at_16) rfl (own_cv_ref w ((x1 &&& (15 : Int32)) - (4 : Int32))) (l' := #[.val (.int x0), .val (.int x1), .val (.int ((x1 &&& (15 : Int32)) - (4 : Int32))), .val (own_cv w x0), .val (own_cv w ((x1 &&& (15 : Int32)) - (4 : Int32)))]) (XS.store1 rfl (Or.inl rfl) (own_cat (own_cv_ref w ((x1 &&& (15 : Int32)) - (4 : Int32))))) ?_
    show Steps p.tables e below (T14.setTop (mkF m 18 #[.val (.int x0), .val (.int x1), .val (.int ((x1 &&& (15 : Int32)) - (4 : Int32))), .val (own_cv w x0), .val (own_cv w ((x1 &&& (15 : Int32)) - (4 : Int32)))] [])) _
    refine XS.aloadN X14.here hx rfl (hb hby at_18) rfl (own_cv_ref w x0) ?_
    show Steps p.tables e below (T14.setTop (mkF m 19 #[.val (.int x0), .val (.int x1), .val (.int ((x1 &&& (15 : Int32)) - (4 : Int32))), .val (own_cv w x0), .val (own_cv w ((x1 &&& (15 : Int32)) - (4 : Int32)))] [(own_cv w x0)])) _
    refine XS.iloadN X14.here hx rfl (hb hby at_19) rfl ?_
    show Steps p.tables e below (T14.setTop (mkF m 20 #[.val (.int x0), .val (.int x1), .val (.int ((x1 &&& (15 : Int32)) - (4 : Int32))), .val (own_cv w x0), .val (own_cv w ((x1 &&& (15 : Int32)) - (4 : Int32)))] [(.int x0), (own_cv w x0)])) _
    refine st15 _ ?_
    exact kk)
  obtain ⟨vv17, _, ⟨T17, L17, k17, n17⟩, -, X17, ⟨Lc17, hQ17, l17, y17, z17⟩, st17⟩ := Jvm.LawKit.callS X15 hx (y := (⟨"com/example/lean_broker/leanbroker/protocol/CodecForIdPinLaw", "expected", "(I)Lcom/example/lean_broker/leanbroker/protocol/Codec;"⟩ : MethodName)) hown (mvT hZ (hw _ (List.mem_of_getElem? (i := 7) rfl))) (mvT hZ (hw _ (List.mem_of_getElem? (i := 8) rfl))) (mvT hZ (hw _ (List.mem_of_getElem? (i := 9) rfl))) (mvT hZ (hw _ (List.mem_of_getElem? (i := 10) rfl))) (by decide) (backOf (W := 1) (rm_ex l Z a0 hw [] ((x1 &&& (15 : Int32)) - (4 : Int32)) w h0 n0 Z0 ST) hZ (hw _ (List.mem_of_getElem? (i := 10) rfl)) (hw _ (List.mem_of_getElem? (i := 9) rfl)) (by decide) (by decide)) (g := (mkF m 29 #[.val (.int x0), .val (.int x1), .val (.int ((x1 &&& (15 : Int32)) - (4 : Int32))), .val (own_cv w x0), .val (own_cv w ((x1 &&& (15 : Int32)) - (4 : Int32)))] [(.int ((x1 &&& (15 : Int32)) - (4 : Int32))), (own_cv w ((x1 &&& (15 : Int32)) - (4 : Int32)))])) rfl (by rw [hml]; rfl) (argsL := [(.int ((x1 &&& (15 : Int32)) - (4 : Int32)))]) (rest := [(own_cv w ((x1 &&& (15 : Int32)) - (4 : Int32)))]) (lenOf own_pd_0 rfl) rfl (by show 2 * 0 + (List.map (fun v => v.category) [(own_cv w ((x1 &&& (15 : Int32)) - (4 : Int32)))]).sum ≤ 1; simp [(own_cat (own_cv_ref w ((x1 &&& (15 : Int32)) - (4 : Int32))))]) (hb hby at_29) (fun _ _ => ⟨rfl, e15, (by decide : 0 + 0 ≤ _), (by decide : 0 + 0 ≤ _)⟩)
  dsimp only [Pt.U, Pt.locs, Pt.cells, Pt.slots] at X17 l17 y17 z17 st17 hQ17
  subst l17 y17 z17
  obtain ⟨rfl, N17q, e17⟩ := hQ17
  have N17 := Fr.app N15 N17q
  have pre18 : ∀ t, Steps p.tables e below (T17.setTop (mkF m 32 #[.val (.int x0), .val (.int x1), .val (.int ((x1 &&& (15 : Int32)) - (4 : Int32))), .val (own_cv w x0), .val (own_cv w ((x1 &&& (15 : Int32)) - (4 : Int32)))] [(own_cv w ((x1 &&& (15 : Int32)) - (4 : Int32))), (own_cv w ((x1 &&& (15 : Int32)) - (4 : Int32)))])) t → Steps p.tables e below (s₁.setTop (entryFrame m #[(.int x0), (.int x1)] maxLocals)) t := fun tt kk => pre16 tt (by
    show Steps p.tables e below (T15.setTop (mkF m 23 #[.val (.int x0), .val (.int x1), .val (.int ((x1 &&& (15 : Int32)) - (4 : Int32))), .val (own_cv w x0), .val (own_cv w ((x1 &&& (15 : Int32)) - (4 : Int32)))] [(own_cv w x0), (own_cv w x0)])) _
    refine Jvm.RoadKit.acmp (g := (mkF m 23 #[.val (.int x0), .val (.int x1), .val (.int ((x1 &&& (15 : Int32)) - (4 : Int32))), .val (own_cv w x0), .val (own_cv w ((x1 &&& (15 : Int32)) - (4 : Int32)))] [(own_cv w x0), (own_cv w x0)])) X15 hx rfl (own_cv_ref w x0) (own_cv_ref w x0) (pc0 := 23) (pc' := 26) (same := true) rfl (hb hby at_23) rfl (decide_eq_true rfl) (by decide) (by decide) ?_
    show Steps p.tables e below (T15.setTop (mkF m 26 #[.val (.int x0), .val (.int x1), .val (.int ((x1 &&& (15 : Int32)) - (4 : Int32))), .val (own_cv w x0), .val (own_cv w ((x1 &&& (15 : Int32)) - (4 : Int32)))] [])) _
    refine XS.aload X15.here hx rfl (hb hby at_26) rfl (own_cv_ref w ((x1 &&& (15 : Int32)) - (4 : Int32))) ?_
    show Steps p.tables e below (T15.setTop (mkF m 28 #[.val (.int x0), .val (.int x1), .val (.int ((x1 &&& (15 : Int32)) - (4 : Int32))), .val (own_cv w x0), .val (own_cv w ((x1 &&& (15 : Int32)) - (4 : Int32)))] [(own_cv w ((x1 &&& (15 : Int32)) - (4 : Int32)))])) _
    refine XS.iloadN X15.here hx rfl (hb hby at_28) rfl ?_
    show Steps p.tables e below (T15.setTop (mkF m 29 #[.val (.int x0), .val (.int x1), .val (.int ((x1 &&& (15 : Int32)) - (4 : Int32))), .val (own_cv w x0), .val (own_cv w ((x1 &&& (15 : Int32)) - (4 : Int32)))] [(.int ((x1 &&& (15 : Int32)) - (4 : Int32))), (own_cv w ((x1 &&& (15 : Int32)) - (4 : Int32)))])) _
    refine st17 _ ?_
    exact kk)
  obtain ⟨fs, hr, hrun, hended, hW, hsame⟩ := X17.leave (v := some (.int (1 : Int32))) (fun h => by rw [Bd.returns] at h; cases h)
  refine ⟨_, _, pre18 _ ?_, hrun, hended, _, _, rfl, ?_, ⟨_, rfl⟩, hW, hsame.mono (by decide) (by decide)⟩
  · show Steps p.tables e below (T17.setTop (mkF m 32 #[.val (.int x0), .val (.int x1), .val (.int ((x1 &&& (15 : Int32)) - (4 : Int32))), .val (own_cv w x0), .val (own_cv w ((x1 &&& (15 : Int32)) - (4 : Int32)))] [(own_cv w ((x1 &&& (15 : Int32)) - (4 : Int32))), (own_cv w ((x1 &&& (15 : Int32)) - (4 : Int32)))])) _
    refine Jvm.RoadKit.acmp (g := (mkF m 32 #[.val (.int x0), .val (.int x1), .val (.int ((x1 &&& (15 : Int32)) - (4 : Int32))), .val (own_cv w x0), .val (own_cv w ((x1 &&& (15 : Int32)) - (4 : Int32)))] [(own_cv w ((x1 &&& (15 : Int32)) - (4 : Int32))), (own_cv w ((x1 &&& (15 : Int32)) - (4 : Int32)))])) X17 hx rfl (own_cv_ref w ((x1 &&& (15 : Int32)) - (4 : Int32))) (own_cv_ref w ((x1 &&& (15 : Int32)) - (4 : Int32))) (pc0 := 32) (pc' := 35) (same := true) rfl (hb hby at_32) rfl (decide_eq_true rfl) (by decide) (by decide) ?_
    show Steps p.tables e below (T17.setTop (mkF m 35 #[.val (.int x0), .val (.int x1), .val (.int ((x1 &&& (15 : Int32)) - (4 : Int32))), .val (own_cv w x0), .val (own_cv w ((x1 &&& (15 : Int32)) - (4 : Int32)))] [])) _
    refine XS.iconst X17.here hx rfl (hb hby at_35) ?_
    show Steps p.tables e below (T17.setTop (mkF m 36 #[.val (.int x0), .val (.int x1), .val (.int ((x1 &&& (15 : Int32)) - (4 : Int32))), .val (own_cv w x0), .val (own_cv w ((x1 &&& (15 : Int32)) - (4 : Int32)))] [(.int (1 : Int32))])) _
    refine XS.goto X17.here hx rfl (pc0 := 36) (pc' := 40) rfl (hb hby at_36) (by decide) (by decide) ?_
    show Steps p.tables e below (T17.setTop (mkF m 40 #[.val (.int x0), .val (.int x1), .val (.int ((x1 &&& (15 : Int32)) - (4 : Int32))), .val (own_cv w x0), .val (own_cv w ((x1 &&& (15 : Int32)) - (4 : Int32)))] [(.int (1 : Int32))])) _
    exact retN X17 hx (t := .boolean) Bd.returns (by simp) (hb hby at_40) hr
  · exact ⟨rfl, N17⟩
set_option maxRecDepth 65536 in
set_option maxHeartbeats 40000000 in
theorem comes_1 {Post : Tables → Env → Array Value → State → Outcome → State → Prop} (hpost : ∀ tb e args s v u, (limb_1_1.after args s (.returned v) u = true ∧ limb_1_2.after args s (.returned v) u = true ∧ True) → FrameEnd s (.returned v) u (Jvm.fieldLocs frame_1_writes args s ++ Jvm.arrayLocs frame_1_arrays args s ++ Jvm.staticLocs frame_1_statics s) 0 0 → Post tb e args s (.returned v) u) :
    ArmFor flags0 classFile x code maxLocals ret World_1 tables_1 room_1 Calls_1 rest_1 Pre_1 Post := by
  intro l hfl _ _ p e ha hc hk s m args below hf hA hF happ hP
  obtain ⟨hcalls, hrest, hpre⟩ := hP
  obtain ⟨-, -, -, hnamed, -, -, -, hat⟩ := (Spec.applies_iff hf).mp happ
  obtain ⟨hg, hn⟩ := and_e (Cond.before_iff.mp (show (Jvm.Cond.and given_1 narrow_1).before args s = true from hpre))
  obtain ⟨g0, g0r⟩ := and_e hg
  obtain ⟨g1, g1r⟩ := and_e g0r
  obtain ⟨w0_, w1_, rfl⟩ : ∃ w0_ w1_ : Value, args = #[w0_, w1_] := by
    have hs : args.size = 2 := by simpa [Cond.value, given_1] using g0
    obtain ⟨L⟩ := args
    match L, hs with
    | [w0_, w1_], _ => exact ⟨w0_, w1_, rfl⟩
  have hw := fun d (hd : d ∈ tables_1) => atoms_spec (ws := Jvm.Cond.code x code maxLocals ret :: tables_1) hat d (List.mem_cons_of_mem _ hd)
  have hfit : Fit s := fun {y c} hc i hi => by
    obtain ⟨ha, rfl⟩ := Array.getElem?_eq_some_iff.mp hc
    have q := List.all_eq_true.mp ((Array.all_eq_true_iff_forall_mem.mp hF) _ (Array.getElem_mem ha)) i (List.mem_range.mpr hi)
    simpa [Array.getElem?_eq_getElem hi] using q
  obtain ⟨i0, ei0⟩ := is_v g1
  obtain rfl : w0_ = (.int i0) := Option.some.inj ei0
  obtain ⟨i1, ei1⟩ := is_v g1r
  obtain rfl : w1_ = (.int i1) := Option.some.inj ei1
  obtain ⟨n0, n0r⟩ := and_e hn
  obtain ⟨n1, n1r⟩ := and_e n0r
  obtain ⟨n2, n2r⟩ := and_e n1r
  obtain ⟨n3, n3r⟩ := and_e n2r
  obtain ⟨n4, n4r⟩ := and_e n3r
  obtain ⟨n5, n5r⟩ := and_e n4r
  obtain ⟨n6, n6r⟩ := and_e n5r
  obtain ⟨n7, n7r⟩ := and_e n6r
  obtain ⟨n8, n8r⟩ := and_e n7r
  obtain ⟨n9, n9r⟩ := and_e n8r
  obtain ⟨n10, n10r⟩ := and_e n9r
  obtain ⟨n11, n11r⟩ := and_e n10r
  obtain ⟨n12, n12r⟩ := and_e n11r
  obtain ⟨v0, ev0⟩ := exa_v n2
  have S0 : Sta s s.heap "com/example/lean_broker/leanbroker/protocol/Codec" "NONE" "Lcom/example/lean_broker/leanbroker/protocol/Codec;" (.ref v0) := Sta.start ev0 (Or.inr ⟨(hw _ (List.mem_of_getElem? (i := 2) rfl)), (hw _ (List.mem_of_getElem? (i := 6) rfl))⟩)
  have E0 : Exa s s.heap v0 "com/example/lean_broker/leanbroker/protocol/Codec" := Exa.start ev0 n2
  obtain ⟨v1, ev1⟩ := exa_v n5
  have S1 : Sta s s.heap "com/example/lean_broker/leanbroker/protocol/Codec" "GZIP" "Lcom/example/lean_broker/leanbroker/protocol/Codec;" (.ref v1) := Sta.start ev1 (Or.inr ⟨(hw _ (List.mem_of_getElem? (i := 2) rfl)), (hw _ (List.mem_of_getElem? (i := 12) rfl))⟩)
  have E1 : Exa s s.heap v1 "com/example/lean_broker/leanbroker/protocol/Codec" := Exa.start ev1 n5
  obtain ⟨v2, ev2⟩ := exa_v n10
  have S2 : Sta s s.heap "com/example/lean_broker/leanbroker/protocol/Codec" "SNAPPY" "Lcom/example/lean_broker/leanbroker/protocol/Codec;" (.ref v2) := Sta.start ev2 (Or.inr ⟨(hw _ (List.mem_of_getElem? (i := 2) rfl)), (hw _ (List.mem_of_getElem? (i := 16) rfl))⟩)
  have E2 : Exa s s.heap v2 "com/example/lean_broker/leanbroker/protocol/Codec" := Exa.start ev2 n10
  obtain ⟨v3, ev3⟩ := exa_v n7
  have S3 : Sta s s.heap "com/example/lean_broker/leanbroker/protocol/Codec" "LZ4" "Lcom/example/lean_broker/leanbroker/protocol/Codec;" (.ref v3) := Sta.start ev3 (Or.inr ⟨(hw _ (List.mem_of_getElem? (i := 2) rfl)), (hw _ (List.mem_of_getElem? (i := 14) rfl))⟩)
  have E3 : Exa s s.heap v3 "com/example/lean_broker/leanbroker/protocol/Codec" := Exa.start ev3 n7
  obtain ⟨b, evb⟩ := arr_v n0
  have SB : Sta s s.heap "com/example/lean_broker/leanbroker/protocol/Codec" "BY_ID" "[Lcom/example/lean_broker/leanbroker/protocol/Codec;" (.ref b) := Sta.start evb (Or.inr ⟨(hw _ (List.mem_of_getElem? (i := 2) rfl)), (hw _ (List.mem_of_getElem? (i := 5) rfl))⟩)
  obtain ⟨cl, AR⟩ := Arr.start evb n0
  have SZ := own_size (own_len evb AR n1) (by decide)
  have H0 := own_elem_ref evb AR n3 ev0
  have H1 := own_elem_ref evb AR n6 ev1
  have H2 := own_elem_ref evb AR n11 ev2
  have H3 := own_elem_ref evb AR n8 ev3
  have H4 := own_elem_null evb AR n12
  have H5 := own_elem_null evb AR n9
  have H6 := own_elem_null evb AR n4
  have H7 := own_elem_null evb AR n12r
  obtain ⟨n, o, h1, h2, h3, _, L, rfl, ⟨rfl, N⟩, hq⟩ := rm0 l s _ hw tables_1 i0 i1 (fun i => [v0, v1, v2, v3].getD i 0) b cl s.heap s.heap.size (Nat.le_refl _) ⟨S0, S1, S2, S3⟩ SB AR SZ (own_HA H0 H1 H2 H3 H4 H5 H6 H7) p e ha hc hk s m _ below hf ((Spec.applies_iff_loose hf).mp happ).1 ⟨rfl, State.Warmed39.refl s, rfl⟩ trivial
  refine ⟨n, _, h1, h2, h3, hpost _ _ _ _ _ _ ⟨Cond.after_iff.mpr rfl, Cond.after_iff.mpr (eq_i res_at (Term.int_eval (1)) rfl), trivial⟩ ⟨hq.1, hq.2.1, (hq.2.2.sift fun y hy => Or.inr (N y hy)).mono (by decide) (by decide)⟩⟩
theorem main_1_1 : Claimed_1_1 := comes_1 fun _ _ _ _ _ _ h hF => ⟨h.1, hF⟩
theorem main_1_2 : Claimed_1_2 := comes_1 fun _ _ _ _ _ _ h hF => ⟨h.2.1, hF⟩
end Jvm.Pilot.@@N@@
namespace Jvm.Pilot.@@N@@
open Jvm Jvm.ClassFile Sem Op Lib Jvm.Free Jvm.Stand Jvm.Pilot.@@N@@.Jvm.D
/-! MADE BY PROGRAM (witnessworld.py) out of the Statement's table words and the real class files: 13 classes; the members and pool entries that the words name. The judged class is class 1, her method 2. -/
namespace start1
open Jvm.ClassFile
def u (s : String) : CpInfo := .utf8 (stringToUtf16 s)
/-- a pool by its gaps: so many unusable entries, then the entry; so many at the end -/
def gap : Nat → List CpInfo → List CpInfo
  | 0, r => r
  | n + 1, r => .unusable :: gap n r
def poolList (es : List (Nat × CpInfo)) (last : Nat) : List CpInfo := es.foldr (fun e r => gap e.1 (e.2 :: r)) (gap last [])
def pool (es : List (Nat × CpInfo)) (last : Nat) : Array CpInfo := ⟨poolList es last⟩
def fileOf (pool : Array CpInfo) (this : Nat) (attrs : Array Attribute := #[]) (ms : Array MethodInfo := #[]) (fl : Nat := 33) (sup : Nat := 0) (ifs : Array Nat := #[]) (fds : Array FieldInfo := #[]) : ClassFile where
  minorVersion := 0
  majorVersion := 65
  constantPool := pool
  accessFlags := fl
  thisClass := this
  superClass := sup
  interfaces := ifs
  fields := fds
  methods := ms
  attributes := attrs
def plain (name : String) (sup : Option ClassId) : Class where
  name := name
  kind := .ordinary
  loader := none
  accessFlags := 33
  super := sup
  interfaces := #[]
  cf := none
  fields := #[]
  methods := #[]
  instanceTypes := #[]
  staticTypes := #[]
  resolved := #[]
  callSites := []
  init := .initialized
  statics := none
  mirror := none

def pool0 : Array CpInfo := pool [(5, u "<init>"), (0, u "()V"), (1, .class_ 10), (1, u "java/lang/Object")] 113

def k0m0 : Method := { name := "<init>", desc := "()V", sig := { parameters := [], returnType := none }, accessFlags := 1, code := none }
/-- java/lang/Object -/
def k0 : Class := { plain "java/lang/Object" none with
  accessFlags := 33
  interfaces := #[]
  cf := some (fileOf pool0 8 #[] #[{ accessFlags := 1, nameIndex := 5, descriptorIndex := 6, attributes := #[] }] 33 0 #[] #[])
  fields := #[]
  methods := #[k0m0]
  instanceTypes := #[]
  staticTypes := #[]
  resolved := Array.replicate 124 none
  statics := none }

def pool1 : Array CpInfo := pool [(2, .class_ 4), (1, u "java/lang/Object"), (0, u "<init>"), (0, u "()V"), (0, .fieldref 8 9), (0, .class_ 10), (0, .nameAndType 11 12), (0, u "com/example/lean_broker/leanbroker/protocol/Codec"), (0, u "NONE"), (0, u "Lcom/example/lean_broker/leanbroker/protocol/Codec;"), (0, .fieldref 8 14), (0, .nameAndType 15 12), (0, u "GZIP"), (0, .fieldref 8 17), (0, .nameAndType 18 12), (0, u "SNAPPY"), (0, .fieldref 8 20), (0, .nameAndType 21 12), (0, u "LZ4"), (0, .methodref 8 23), (0, .nameAndType 24 25), (0, u "forId"), (0, u "(I)Lcom/example/lean_broker/leanbroker/protocol/Codec;"), (0, .methodref 27 28), (0, .class_ 29), (0, .nameAndType 30 25), (0, u "com/example/lean_broker/leanbroker/protocol/CodecForIdPinLaw"), (0, u "expected"), (3, u "law"), (0, u "(II)Z")] 2

def k1m0 : Method := { name := "<init>", desc := "()V", sig := { parameters := [], returnType := none }, accessFlags := 2, code := none }
def k1c1 : Code := { maxStack := 2, maxLocals := 1, code := method_2_code, exceptionTable := #[], attributes := #[] }
def k1m1 : Method := { name := "expected", desc := "(I)Lcom/example/lean_broker/leanbroker/protocol/Codec;", sig := { parameters := [.int], returnType := some (.object "com/example/lean_broker/leanbroker/protocol/Codec") }, accessFlags := 10, code := some k1c1 }
def k1c2 : Code := { maxStack := 2, maxLocals := 5, code := code, exceptionTable := #[], attributes := #[] }
def k1m2 : Method := { name := "law", desc := "(II)Z", sig := { parameters := [.int, .int], returnType := some .boolean }, accessFlags := 9, code := some k1c2 }
/-- com/example/lean_broker/leanbroker/protocol/CodecForIdPinLaw -/
def k1 : Class := { plain "com/example/lean_broker/leanbroker/protocol/CodecForIdPinLaw" (some 0) with
  accessFlags := 49
  interfaces := #[]
  cf := some (fileOf pool1 27 #[] #[{ accessFlags := 2, nameIndex := 5, descriptorIndex := 6, attributes := #[] }, { accessFlags := 10, nameIndex := 30, descriptorIndex := 25, attributes := #[] }, { accessFlags := 9, nameIndex := 34, descriptorIndex := 35, attributes := #[] }] 49 2 #[] #[])
  fields := #[]
  methods := #[k1m0, k1m1, k1m2]
  instanceTypes := #[]
  staticTypes := #[]
  resolved := Array.replicate 38 none
  statics := none }

def pool2 : Array CpInfo := pool [(1, .class_ 2), (0, u "java/lang/constant/Constable"), (0, .class_ 4), (0, u "java/lang/Object")] 6

/-- java/lang/constant/Constable -/
def k2 : Class := { plain "java/lang/constant/Constable" (some 0) with
  accessFlags := 1537
  interfaces := #[]
  cf := some (fileOf pool2 1 #[] #[] 1537 3 #[] #[])
  fields := #[]
  methods := #[]
  instanceTypes := #[]
  staticTypes := #[]
  resolved := Array.replicate 11 none
  statics := none }

def pool3 : Array CpInfo := pool [(1, .class_ 2), (0, u "java/lang/Comparable"), (0, .class_ 4), (0, u "java/lang/Object")] 7

/-- java/lang/Comparable -/
def k3 : Class := { plain "java/lang/Comparable" (some 0) with
  accessFlags := 1537
  interfaces := #[]
  cf := some (fileOf pool3 1 #[] #[] 1537 3 #[] #[])
  fields := #[]
  methods := #[]
  instanceTypes := #[]
  staticTypes := #[]
  resolved := Array.replicate 12 none
  statics := none }

def pool4 : Array CpInfo := pool [(1, .class_ 2), (0, u "java/io/Serializable"), (0, .class_ 4), (0, u "java/lang/Object")] 2

/-- java/io/Serializable -/
def k4 : Class := { plain "java/io/Serializable" (some 0) with
  accessFlags := 1537
  interfaces := #[]
  cf := some (fileOf pool4 1 #[] #[] 1537 3 #[] #[])
  fields := #[]
  methods := #[]
  instanceTypes := #[]
  staticTypes := #[]
  resolved := Array.replicate 7 none
  statics := none }

def pool5 : Array CpInfo := pool [(2, .class_ 4), (1, u "java/lang/Enum"), (0, u "name"), (0, u "Ljava/lang/String;"), (2, u "ordinal"), (0, u "I"), (1, .class_ 14), (1, u "java/lang/Object"), (4, u "hash"), (86, .class_ 108), (1, u "java/lang/Enum$EnumDesc"), (2, .class_ 112), (0, u "java/lang/constant/Constable"), (0, .class_ 114), (0, u "java/lang/Comparable"), (0, .class_ 116), (0, u "java/io/Serializable")] 87

/-- java/lang/Enum -/
def k5 : Class := { plain "java/lang/Enum" (some 0) with
  accessFlags := 1057
  interfaces := #[2, 3, 4]
  cf := some (fileOf pool5 2 #[.nestMembers #[106]] #[] 1057 12 #[111, 113, 115] #[{ accessFlags := 18, nameIndex := 5, descriptorIndex := 6, attributes := #[] }, { accessFlags := 18, nameIndex := 9, descriptorIndex := 10, attributes := #[] }, { accessFlags := 2, nameIndex := 19, descriptorIndex := 10, attributes := #[] }])
  fields := #[{ name := "name", type := (.object "java/lang/String"), accessFlags := 18, slot := 0, constantValue := 0 }, { name := "ordinal", type := .int, accessFlags := 18, slot := 1, constantValue := 0 }, { name := "hash", type := .int, accessFlags := 2, slot := 2, constantValue := 0 }]
  methods := #[]
  instanceTypes := #[(.object "java/lang/String"), .int, .int]
  staticTypes := #[]
  resolved := Array.replicate 204 none
  statics := none }

def pool6 : Array CpInfo := pool [(1, .class_ 2), (0, u "com/example/lean_broker/leanbroker/protocol/Codec"), (2, u "NONE"), (0, u "Lcom/example/lean_broker/leanbroker/protocol/Codec;"), (2, u "GZIP"), (2, u "SNAPPY"), (2, u "LZ4"), (2, u "$VALUES"), (0, u "[Lcom/example/lean_broker/leanbroker/protocol/Codec;"), (6, .class_ 28), (1, u "java/lang/Enum"), (8, u "id"), (0, u "I"), (0, .fieldref 1 40), (0, .nameAndType 41 19), (0, u "BY_ID"), (23, u "forId"), (0, u "(I)Lcom/example/lean_broker/leanbroker/protocol/Codec;")] 6

def k6c0 : Code := { maxStack := 2, maxLocals := 1, code := prog_3_method_5_code, exceptionTable := #[], attributes := #[] }
def k6m0 : Method := { name := "forId", desc := "(I)Lcom/example/lean_broker/leanbroker/protocol/Codec;", sig := { parameters := [.int], returnType := some (.object "com/example/lean_broker/leanbroker/protocol/Codec") }, accessFlags := 8, code := some k6c0 }
/-- com/example/lean_broker/leanbroker/protocol/Codec -/
def k6 : Class := { plain "com/example/lean_broker/leanbroker/protocol/Codec" (some 5) with
  accessFlags := 16433
  interfaces := #[]
  cf := some (fileOf pool6 1 #[] #[{ accessFlags := 8, nameIndex := 65, descriptorIndex := 66, attributes := #[] }] 16433 26 #[] #[{ accessFlags := 16409, nameIndex := 5, descriptorIndex := 6, attributes := #[] }, { accessFlags := 16409, nameIndex := 9, descriptorIndex := 6, attributes := #[] }, { accessFlags := 16409, nameIndex := 12, descriptorIndex := 6, attributes := #[] }, { accessFlags := 16409, nameIndex := 15, descriptorIndex := 6, attributes := #[] }, { accessFlags := 26, nameIndex := 41, descriptorIndex := 19, attributes := #[] }, { accessFlags := 18, nameIndex := 37, descriptorIndex := 38, attributes := #[] }, { accessFlags := 4122, nameIndex := 18, descriptorIndex := 19, attributes := #[] }])
  fields := #[{ name := "NONE", type := (.object "com/example/lean_broker/leanbroker/protocol/Codec"), accessFlags := 16409, slot := 0, constantValue := 0 }, { name := "GZIP", type := (.object "com/example/lean_broker/leanbroker/protocol/Codec"), accessFlags := 16409, slot := 1, constantValue := 0 }, { name := "SNAPPY", type := (.object "com/example/lean_broker/leanbroker/protocol/Codec"), accessFlags := 16409, slot := 2, constantValue := 0 }, { name := "LZ4", type := (.object "com/example/lean_broker/leanbroker/protocol/Codec"), accessFlags := 16409, slot := 3, constantValue := 0 }, { name := "BY_ID", type := (.array (.object "com/example/lean_broker/leanbroker/protocol/Codec")), accessFlags := 26, slot := 4, constantValue := 0 }, { name := "id", type := .int, accessFlags := 18, slot := 3, constantValue := 0 }, { name := "$VALUES", type := (.array (.object "com/example/lean_broker/leanbroker/protocol/Codec")), accessFlags := 4122, slot := 5, constantValue := 0 }]
  methods := #[k6m0]
  instanceTypes := #[(.object "java/lang/String"), .int, .int, .int]
  staticTypes := #[(.object "com/example/lean_broker/leanbroker/protocol/Codec"), (.object "com/example/lean_broker/leanbroker/protocol/Codec"), (.object "com/example/lean_broker/leanbroker/protocol/Codec"), (.object "com/example/lean_broker/leanbroker/protocol/Codec"), (.array (.object "com/example/lean_broker/leanbroker/protocol/Codec")), (.array (.object "com/example/lean_broker/leanbroker/protocol/Codec"))]
  resolved := Array.replicate 73 none
  statics := some 0 }

def pool7 : Array CpInfo := pool [(1, u "java/lang/Cloneable"), (0, .class_ 1), (0, u "java/lang/Object"), (0, .class_ 3)] 3

/-- java/lang/Cloneable -/
def k7 : Class := { plain "java/lang/Cloneable" (some 0) with
  accessFlags := 1537
  interfaces := #[]
  cf := some (fileOf pool7 2 #[] #[] 1537 4 #[] #[])
  fields := #[]
  methods := #[]
  instanceTypes := #[]
  staticTypes := #[]
  resolved := Array.replicate 8 none
  statics := none }

/-- the primitive byte -/
def k8 : Class := { plain "byte" none with kind := .primitive 'B', accessFlags := 0x411 }
/-- [B -/
def k9 : Class := { plain "[B" (some 0) with kind := .array 8 .byte, interfaces := #[7, 4], accessFlags := 1041 }

/-- the primitive int -/
def k10 : Class := { plain "int" none with kind := .primitive 'I', accessFlags := 0x411 }
/-- [I -/
def k11 : Class := { plain "[I" (some 0) with kind := .array 10 .int, interfaces := #[7, 4], accessFlags := 1041 }

/-- [Lcom/example/lean_broker/leanbroker/protocol/Codec; -/
def k12 : Class := { plain "[Lcom/example/lean_broker/leanbroker/protocol/Codec;" (some 0) with kind := .array 6 (.object "com/example/lean_broker/leanbroker/protocol/Codec"), interfaces := #[7, 4], accessFlags := 1041 }

def heap : Heap := #[{ cls := 6, slots := #[.ref 2, .ref 3, .ref 4, .ref 5, .ref 1, .null], vm := .statics 6 },
  { cls := 12, slots := #[.ref 2, .ref 3, .ref 4, .ref 5, .null, .null, .null, .null], vm := .none },
  { cls := 6, slots := #[.null, .int 0, .int 0, .int 0], vm := .none },
  { cls := 6, slots := #[.null, .int 0, .int 0, .int 0], vm := .none },
  { cls := 6, slots := #[.null, .int 0, .int 0, .int 0], vm := .none },
  { cls := 6, slots := #[.null, .int 0, .int 0, .int 0], vm := .none }]
def classes : Array Class := #[k0, k1, k2, k3, k4, k5, k6, k7, k8, k9, k10, k11, k12]
def interned : List (Array UInt16 × Addr) := []
def slotsUsed : Nat := 30
def theMethod : MethodId := ⟨1, 2⟩
def args0 : Array Value := #[.int 2, .int 7]
def aboutOver (below : List Frame) : State where
  vm := { classes := classes, interned := interned.toArray }
  heap := heap
  slotsUsed := slotsUsed
  threads := #[{ frames := .invoking theMethod args0 :: below }]
def below0 : List Frame := [.native { method := ⟨0, 0⟩, args := #[] }]
def about1 : State := aboutOver below0
def p0 : Program := .bare "" "" ""
def e0 : Env := launch0.env 0 0 0
theorem w_frames : about1.frames = Frame.invoking theMethod args0 :: below0 := rfl
set_option maxRecDepth 65536 in
theorem w_args : argsFit about1.vm theMethod args0 = true := by decide +kernel
set_option maxRecDepth 65536 in
theorem w_heap : heapFits about1 = true := by decide +kernel
set_option maxRecDepth 65536 in
theorem w_runnable : about1.curStatus? = some .runnable := by decide +kernel
set_option maxRecDepth 65536 in
theorem w_alone : about1.alone = true := by decide +kernel
set_option maxRecDepth 65536 in
theorem w_named : about1.methodNamed? x = some theMethod := by decide +kernel
set_option maxRecDepth 65536 in
theorem w_hears : about1.hears theMethod below0 = true := by decide +kernel
set_option maxRecDepth 65536 in
theorem w_ripe : about1.ripe theMethod args0 below0 = true := by decide +kernel
theorem w_running : about1.status = .running := rfl
set_option maxRecDepth 65536 in
theorem w_room : about1.hasRoom e0.platform room_1 = true :=
  launch0.hasRoom_least _ room_1 (by decide +kernel) (by decide +kernel) (by decide +kernel) (by decide +kernel) (by decide +kernel) (by decide +kernel)
theorem allAtoms_all (ts : List Jvm.Cond) (a : Array Jvm.Value) (st : Jvm.State) : (allAtoms ts).before a st = ts.all (fun c => c.before a st) := by
  induction ts with
  | nil => rfl
  | cons c t ih =>
    show (Jvm.Cond.and c (allAtoms t)).before a st = _
    rw [Jvm.Cond.before_and, ih, List.all_cons]
def words1 : List Jvm.Cond := Jvm.Cond.code x code maxLocals ret :: tables_1
/-- a 'code' word, met by the world's own term for the bytes: nothing is compared byte by byte -/
theorem code_word {y : MethodName} {bytes : ByteArray} {mx : Nat} {rt : Option FieldType} {a : Array Value} {s : State} {m : MethodId} {meth : Method} {c : Code} (h1 : s.methodNamed? y = some m) (h2 : s.vm.method? m = some meth) (h3 : meth.code = some c) (h4 : c.code = bytes)
    (h5 : (c.maxLocals == mx && c.exceptionTable.isEmpty && decide (c.maxStack ≤ mostOperands) && decide (meth.sig.returnType = rt) && !meth.locks && decide (parseMethodDescriptor y.desc = some meth.sig)) = true) : (Jvm.Cond.code y bytes mx rt).before a s = true := by
  simp only [Bool.and_eq_true, beq_iff_eq, Bool.not_eq_true', decide_eq_true_eq] at h5
  obtain ⟨⟨⟨⟨⟨g1, g2⟩, g3⟩, g4⟩, g5⟩, g6⟩ := h5
  simp [Cond.before, Cond.holds, Cond.value, h1, h2, h3, h4, g1, g2, g3, g4, g5, g6]
def isCode : Jvm.Cond → Bool
  | .code _ _ _ _ => true
  | _ => false
theorem all_split {L : List Jvm.Cond} {P : Jvm.Cond → Bool} (h1 : L.all (fun c => isCode c || P c) = true) (h2 : ∀ c ∈ L.filter isCode, P c = true) : L.all P = true := by
  refine List.all_eq_true.mpr fun c hc => ?_
  have h := List.all_eq_true.mp h1 c hc
  rcases Bool.eq_false_or_eq_true (isCode c) with hi | hi
  · exact h2 c (List.mem_filter.mpr ⟨hc, hi⟩)
  · simpa [hi] using h
set_option maxRecDepth 65536 in
theorem w_c0 : (Jvm.Cond.code x code maxLocals ret).before args0 about1 = true := code_word (m := ⟨1, 2⟩) (meth := k1m2) (c := k1c2) (by decide +kernel) rfl rfl rfl (by decide +kernel)
set_option maxRecDepth 65536 in
theorem w_c1 : (Jvm.Cond.code ({ cls := "com/example/lean_broker/leanbroker/protocol/Codec", name := "forId", desc := "(I)Lcom/example/lean_broker/leanbroker/protocol/Codec;" } : Jvm.MethodName) prog_3_method_5_code (1 : Nat) (Option.some (Jvm.ClassFile.FieldType.object "com/example/lean_broker/leanbroker/protocol/Codec"))).before args0 about1 = true := code_word (m := ⟨6, 0⟩) (meth := k6m0) (c := k6c0) (by decide +kernel) rfl rfl rfl (by decide +kernel)
set_option maxRecDepth 65536 in
theorem w_c2 : (Jvm.Cond.code ({ cls := "com/example/lean_broker/leanbroker/protocol/CodecForIdPinLaw", name := "expected", desc := "(I)Lcom/example/lean_broker/leanbroker/protocol/Codec;" } : Jvm.MethodName) method_2_code (1 : Nat) (Option.some (Jvm.ClassFile.FieldType.object "com/example/lean_broker/leanbroker/protocol/Codec"))).before args0 about1 = true := code_word (m := ⟨1, 1⟩) (meth := k1m1) (c := k1c1) (by decide +kernel) rfl rfl rfl (by decide +kernel)
def codes1 : List Jvm.Cond := [Jvm.Cond.code x code maxLocals ret, Jvm.Cond.code ({ cls := "com/example/lean_broker/leanbroker/protocol/Codec", name := "forId", desc := "(I)Lcom/example/lean_broker/leanbroker/protocol/Codec;" } : Jvm.MethodName) prog_3_method_5_code (1 : Nat) (Option.some (Jvm.ClassFile.FieldType.object "com/example/lean_broker/leanbroker/protocol/Codec")), Jvm.Cond.code ({ cls := "com/example/lean_broker/leanbroker/protocol/CodecForIdPinLaw", name := "expected", desc := "(I)Lcom/example/lean_broker/leanbroker/protocol/Codec;" } : Jvm.MethodName) method_2_code (1 : Nat) (Option.some (Jvm.ClassFile.FieldType.object "com/example/lean_broker/leanbroker/protocol/Codec"))]
set_option maxRecDepth 65536 in
theorem codes_eq : words1.filter isCode = codes1 := rfl
theorem w_codes : ∀ c ∈ words1.filter isCode, c.before args0 about1 = true := by
  rw [codes_eq]
  intro c hc
  simp only [codes1, List.mem_cons, List.not_mem_nil, or_false] at hc
  rcases hc with rfl | rfl | rfl
  · exact w_c0
  · exact w_c1
  · exact w_c2
set_option maxRecDepth 65536 in
theorem w_t1 : words1.all (fun c => isCode c || c.before args0 about1) = true := by decide +kernel
theorem w_tables : (allAtoms (Jvm.Cond.code x code maxLocals ret :: tables_1)).before args0 about1 = true := by
  rw [allAtoms_all]
  show words1.all (fun c => c.before args0 about1) = true
  refine all_split ?_ w_codes
  rw [w_t1]
set_option maxRecDepth 65536 in
theorem w_case : (Jvm.Cond.and given_1 narrow_1).before args0 about1 = true := by decide +kernel
theorem w_applies : (headSpec (Jvm.Cond.code x code maxLocals ret :: tables_1) room_1).applies x e0.platform about1 = true :=
  (Spec.applies_iff w_frames).mpr ⟨w_running, w_runnable, w_alone, w_named, w_hears, w_ripe, w_room, w_tables⟩
theorem atStart : AtStart classFile x code maxLocals ret World_1 tables_1 room_1 Calls_1 rest_1 Pre_1 launch0 p0 e0 about1 theMethod args0 below0 :=
  ⟨lists_1, trivial, launch0.admits_env _ _ _, launch0.least_env, fairChoices_fair.cas, fairChoices_fair.clock, w_frames, w_args, w_heap, w_applies, trivial, trivial, w_case⟩
end start1
theorem witness_1 : WitnessClaimed_1 := ⟨start1.p0, start1.e0, start1.about1, start1.theMethod, start1.args0, start1.below0, start1.atStart⟩
end Jvm.Pilot.@@N@@
