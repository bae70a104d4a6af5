import JvmDerived
import JvmDerived.Pilot.@@N@@Statement
import JvmDerived.Pilot.@@N@@Code
set_option linter.unusedVariables false
set_option linter.unusedSimpArgs false
@@BLOCK:NumsL.lean.txt@@
namespace Jvm.Pilot.@@N@@
open Jvm Jvm.ClassFile Sem Op Lib Jvm.Free Jvm.Stand Jvm.LawKit Jvm.RoadKit Bundle Jvm.Pilot.@@N@@.Jvm.D
/-- what a body leaves that writes nothing: its value, no place written, the heap as it was -/
def QP (val : Value) (h0 : Heap) (n0 : Nat) (v : Option Value) (h : Heap) (L : List Loc) : Prop := v = some val ∧ Fr n0 L ∧ h = h0
/-- what the law leaves: true -/
def Q1 (n0 : Nat) (v : Option Value) (h : Heap) (L : List Loc) : Prop := v = some (.int 1) ∧ Fr n0 L
theorem own_eq_int {args : Array Value} {s : State} {t : Term} {k : Int32} (h : (Jvm.Cond.eq t (.int k)).value args s none s [] = some true) : t.eval args s none [] s = some (.int k) := by
  simp only [Cond.value, Term.eval] at h
  cases ht : t.eval args s none [] s with
  | none => simp [ht] at h
  | some x => cases x <;> simp [ht] at h ⊢; exact h
theorem own_fld {args : Array Value} {s : State} {t : Term} {a : Addr} {C n d : String} {k : Int32} (ev : t.eval args s none [] s = some (.ref a)) (h : (Jvm.Cond.eq (.field t C n d) (.int k)).value args s none s [] = some true) : Fld s s.heap a C n d (.int k) :=
  Fld.start ((fld_at ev).symm.trans (own_eq_int h))
theorem own_toInt32_inj {i j : Nat} (hi : i < 2 ^ 31) (hj : j < 2 ^ 31) (h : i.toInt32 = j.toInt32) : i = j := by
  have := congrArg Int32.toInt h
  rw [len_toInt hi, len_toInt hj] at this
  omega
theorem own_inj {Z : State} {h : Heap} {w : Nat → Addr} {n : Nat} (hn : n < 2 ^ 31) (F : ∀ i, i < n → Fld Z h (w i) "java/lang/Enum" "ordinal" "I" (.int i.toInt32)) : ∀ i j, i < n → j < n → w i = w j → i = j := fun i j hi hj e => by
  by_cases q : i = j
  · exact q
  · exact absurd e (Fld.ne (F i hi) (F j hj) fun h => q (own_toInt32_inj (by omega) (by omega) (Value.int.inj h)))
theorem own_i32 {i : Int32} {N : Nat} (hN : N < 2 ^ 31) (h0 : 0 ≤ i.toInt) (h1 : i.toInt < N) : ∃ k : Nat, k < N ∧ i = k.toInt32 := by
  refine ⟨i.toInt.toNat, by omega, Int32.toInt_inj.mp ?_⟩
  rw [len_toInt (by omega)]
  omega
theorem own_mod (x n : Int32) (N : Nat) (hN : n.toInt = N) (h : 0 < N) : ∃ k : Nat, k < N ∧ (x &&& (2147483647 : Int32)) % n = k.toInt32 := by
  have e1 : (x &&& (2147483647 : Int32)).toInt = x.toInt % 2 ^ 31 := Jvm.Kit.i32_mask x 2147483647 (k := 31) (by decide) (by decide)
  have e2 : ((x &&& (2147483647 : Int32)) % n).toInt = (x &&& (2147483647 : Int32)).toInt % n.toInt := Jvm.Kit.i32_rem_nonneg (by omega)
  have hlt := n.toInt_lt
  have h3 : 0 ≤ (x &&& (2147483647 : Int32)).toInt % n.toInt := Int.emod_nonneg _ (by omega)
  have h4 : (x &&& (2147483647 : Int32)).toInt % n.toInt < n.toInt := Int.emod_lt_of_pos _ (by omega)
  exact own_i32 (by omega) (by omega) (by omega)
theorem own_mask (x n : Int32) {k : Nat} (hk : k < 31) (hm : n.toBitVec.toNat = 2 ^ k - 1) : ∃ j : Nat, j < 2 ^ k ∧ x &&& n = j.toInt32 := by
  have e1 : (x &&& n).toInt = x.toInt % 2 ^ k := Jvm.Kit.i32_mask x n (k := k) (by omega) hm
  have hp : (2 : Nat) ^ k < 2 ^ 31 := Nat.pow_lt_pow_right (by decide) hk
  have hp1 : (0 : Int) < 2 ^ k := Int.pow_pos (by decide)
  have h3 : 0 ≤ x.toInt % 2 ^ k := Int.emod_nonneg _ (by omega)
  have h4 : x.toInt % 2 ^ k < 2 ^ k := Int.emod_lt_of_pos _ hp1
  refine own_i32 hp (by rw [e1]; exact h3) (by rw [e1]; push_cast; exact h4)
theorem own_lt_irrefl {a b : Int64} (h : a = b) : ¬ a < b ∧ ¬ b < a := by subst h; simp [Int64.lt_irrefl]
theorem own_lt_asymm {a b : Int64} (h : a < b) : ¬ b < a := Int64.lt_asymm h
theorem own_lt_total {a b : Int64} (h1 : ¬ a = b) (h2 : ¬ a < b) : b < a := by
  rw [Int64.lt_iff_toInt_lt] at h2 ⊢; rw [← Int64.toInt_inj] at h1; omega
def STA (Z : State) (h : Heap) (w : Nat → Addr) : Prop := Sta Z h "com/example/slidebook/slidebook/engine/Side" "BUY" "Lcom/example/slidebook/slidebook/engine/Side;" (.ref (w 0)) ∧ Sta Z h "com/example/slidebook/slidebook/engine/Side" "SELL" "Lcom/example/slidebook/slidebook/engine/Side;" (.ref (w 1)) ∧ Sta Z h "com/example/slidebook/slidebook/engine/Side" "SHORT" "Lcom/example/slidebook/slidebook/engine/Side;" (.ref (w 2))
theorem own_pd_0 : parseMethodDescriptor "(JJ)Z" = some ⟨[.long, .long], some .boolean⟩ := by decide +kernel
theorem own_d1_0 : decode prog_31_method_7_code 0 = .ok (.aload_n 0, 1) := by decide +kernel
theorem own_d1_1 : decode prog_31_method_7_code 1 = .ok (.getstatic 3, 3) := by decide +kernel
theorem own_d1_4 : decode prog_31_method_7_code 4 = .ok (.if_acmp .ne 17, 3) := by decide +kernel
theorem own_d1_7 : decode prog_31_method_7_code 7 = .ok (.lload_n 3, 1) := by decide +kernel
theorem own_d1_8 : decode prog_31_method_7_code 8 = .ok (.lload_n 1, 1) := by decide +kernel
theorem own_d1_9 : decode prog_31_method_7_code 9 = .ok (.lcmp, 1) := by decide +kernel
theorem own_d1_10 : decode prog_31_method_7_code 10 = .ok (.ifCond .gt 7, 3) := by decide +kernel
theorem own_d1_13 : decode prog_31_method_7_code 13 = .ok (.iconst 1, 1) := by decide +kernel
theorem own_d1_14 : decode prog_31_method_7_code 14 = .ok (.goto 18, 3) := by decide +kernel
theorem own_d1_17 : decode prog_31_method_7_code 17 = .ok (.iconst 0, 1) := by decide +kernel
theorem own_d1_18 : decode prog_31_method_7_code 18 = .ok (.goto 14, 3) := by decide +kernel
theorem own_d1_21 : decode prog_31_method_7_code 21 = .ok (.lload_n 3, 1) := by decide +kernel
theorem own_d1_22 : decode prog_31_method_7_code 22 = .ok (.lload_n 1, 1) := by decide +kernel
theorem own_d1_23 : decode prog_31_method_7_code 23 = .ok (.lcmp, 1) := by decide +kernel
theorem own_d1_24 : decode prog_31_method_7_code 24 = .ok (.ifCond .lt 7, 3) := by decide +kernel
theorem own_d1_27 : decode prog_31_method_7_code 27 = .ok (.iconst 1, 1) := by decide +kernel
theorem own_d1_28 : decode prog_31_method_7_code 28 = .ok (.goto 4, 3) := by decide +kernel
theorem own_d1_31 : decode prog_31_method_7_code 31 = .ok (.iconst 0, 1) := by decide +kernel
theorem own_d1_32 : decode prog_31_method_7_code 32 = .ok (.ireturn, 1) := by decide +kernel
set_option maxRecDepth 65536 in
set_option maxHeartbeats 40000000 in
theorem rm1 (l : Launch) (Z : State) (a0 : Array Value) (hw : ∀ d ∈ tables_1, d.before a0 Z = true) (ws : List Jvm.Cond) (x0 : Addr) (x1 x2 : Int64) (w : Nat → Addr) (h0 : Heap) (n0 : Nat) (Z0 : n0 ≤ h0.size) (ST : STA Z h0 w) :
    MetFree l (⟨"com/example/slidebook/slidebook/engine/Side", "accepts", "(JJ)Z"⟩ : MethodName) (head1 (Jvm.Cond.code (⟨"com/example/slidebook/slidebook/engine/Side", "accepts", "(JJ)Z"⟩ : MethodName) prog_31_method_7_code 5 (some .boolean) :: ws) ({ frames := 0, cells := 0, slots := 0, locals := 0 } : Room)) (fun a U => a = #[(.ref x0), (.long x1), (.long x2)] ∧ Z.Warmed39 U.vm ∧ U.heap = h0) (fun _ _ _ _ _ => True) (fun _ U o U' => ∃ v L, o = .returned v ∧ QP (.int (if x0 = w 0 then (if x1 < x2 then 0 else 1) else (if x2 < x1 then 0 else 1))) h0 n0 v U'.heap L ∧ FrameEnd U o U' L ({ frames := 0, cells := 0, slots := 0, locals := 0 } : Room).cells ({ frames := 0, cells := 0, slots := 0, locals := 0 } : Room).slots) := by
  refine MetFree.of_bodySF (plainFor_of_name (by first | (simp [plainName, overriddenIn]; done) | decide +kernel)) hisR ?_
  intro p e s m args below meth c s₁ Bd hml0 hP hK
  obtain ⟨rfl, hZ, hh⟩ := hP
  have hx := Bd.exec
  have hby := Bd.bytes
  have hml : c.maxLocals = 5 := hml0
  have hown : s.vm.findClass "com/example/slidebook/slidebook/engine/Side" = some m.cls := findClass_of_methodNamed Bd.named
  have hnm := (name_of_methodNamed Bd.named Bd.method).1
  have X0 : Stand p l e ({ frames := 0, cells := 0, slots := 0, locals := 0 } : Room) s m #[(.ref x0), (.long x1), (.long x2)] below meth c s₁ [] 0 0 := Stand.of_body Bd
  have e0 : s₁.heap = h0 := by rw [← hh, Bd.state]; rfl
  have N0 := Fr.nil n0
  have ef0 : entryFrame m #[(.ref x0), (.long x1), (.long x2)] 5 = mkF m 0 #[.val (.ref x0), .val (.long x1), .second, .val (.long x2), .second] [] := by first | (simp [entryFrame, mkF, argsToLocals, Value.category, maxLocals]; done) | rfl
  have pre0 : ∀ t, Steps p.tables e below (s₁.setTop (mkF m 0 #[.val (.ref x0), .val (.long x1), .second, .val (.long x2), .second] [])) t → Steps p.tables e below (s₁.setTop (entryFrame m #[(.ref x0), (.long x1), (.long x2)] 5)) t := fun t k => castTop ef0 k
  obtain ⟨T1, X1, e1, st1⟩ := getS2 X0 hx hZ hown (host := "") (Or.inl (hw _ (List.mem_of_getElem? (i := 9) rfl))) Via.refl e0 ST.1 (g := (mkF m 1 #[.val (.ref x0), .val (.long x1), .second, .val (.long x2), .second] [(.ref x0)])) rfl (hb hby own_d1_1)
  have pre2 : ∀ t, Steps p.tables e below (T1.setTop (mkF m 4 #[.val (.ref x0), .val (.long x1), .second, .val (.long x2), .second] [(.ref (w 0)), (.ref x0)])) t → Steps p.tables e below (s₁.setTop (entryFrame m #[(.ref x0), (.long x1), (.long x2)] 5)) t := fun tt kk => pre0 tt (by
    show Steps p.tables e below (s₁.setTop (mkF m 0 #[.val (.ref x0), .val (.long x1), .second, .val (.long x2), .second] [])) _
    refine XS.aloadN X0.here hx rfl (hb hby own_d1_0) rfl rfl ?_
    show Steps p.tables e below (s₁.setTop (mkF m 1 #[.val (.ref x0), .val (.long x1), .second, .val (.long x2), .second] [(.ref x0)])) _
    refine st1 _ ?_
    exact kk)
  by_cases ha4 : x0 = (w 0)
  · have pre3 : ∀ t, Steps p.tables e below (T1.setTop (mkF m 10 #[.val (.ref x0), .val (.long x1), .second, .val (.long x2), .second] [(.int (lcmpW x2 x1))])) t → Steps p.tables e below (s₁.setTop (entryFrame m #[(.ref x0), (.long x1), (.long x2)] 5)) t := fun tt kk => pre2 tt (by
      show Steps p.tables e below (T1.setTop (mkF m 4 #[.val (.ref x0), .val (.long x1), .second, .val (.long x2), .second] [(.ref (w 0)), (.ref x0)])) _
      refine Jvm.RoadKit.acmp (g := (mkF m 4 #[.val (.ref x0), .val (.long x1), .second, .val (.long x2), .second] [(.ref (w 0)), (.ref x0)])) X1 hx rfl rfl rfl (pc0 := 4) (pc' := 7) (same := true) rfl (hb hby own_d1_4) rfl (decide_eq_true (congrArg Value.ref ha4)) (by decide) (by decide) ?_
      show Steps p.tables e below (T1.setTop (mkF m 7 #[.val (.ref x0), .val (.long x1), .second, .val (.long x2), .second] [])) _
      refine XS.lloadN X1.here hx rfl (hb hby own_d1_7) rfl ?_
      show Steps p.tables e below (T1.setTop (mkF m 8 #[.val (.ref x0), .val (.long x1), .second, .val (.long x2), .second] [(.long x2)])) _
      refine XS.lloadN X1.here hx rfl (hb hby own_d1_8) rfl ?_
      show Steps p.tables e below (T1.setTop (mkF m 9 #[.val (.ref x0), .val (.long x1), .second, .val (.long x2), .second] [(.long x1), (.long x2)])) _
      refine XS.lcmp X1.here hx rfl (hb hby own_d1_9) rfl ?_
      exact kk)
    by_cases hc10 : x1 < x2
    · obtain ⟨fs, hr, hrun, hended, hW, hsame⟩ := X1.leave (v := some (.int (0 : Int32))) (fun h => by rw [Bd.returns] at h; cases h)
      refine ⟨_, _, pre3 _ ?_, hrun, hended, _, _, rfl, ?_, ⟨_, rfl⟩, hW, hsame.mono (by decide) (by decide)⟩
      · show Steps p.tables e below (T1.setTop (mkF m 10 #[.val (.ref x0), .val (.long x1), .second, .val (.long x2), .second] [(.int (lcmpW x2 x1))])) _
        refine XS.ifYes X1.here hx rfl (pc0 := 10) (pc' := 17) rfl (hb hby own_d1_10) rfl ((if0 _ _).trans (tlt ((lw_gt _ _).mpr hc10)).2.2.1) (by decide) (by decide) ?_
        show Steps p.tables e below (T1.setTop (mkF m 17 #[.val (.ref x0), .val (.long x1), .second, .val (.long x2), .second] [])) _
        refine XS.iconst X1.here hx rfl (hb hby own_d1_17) ?_
        show Steps p.tables e below (T1.setTop (mkF m 18 #[.val (.ref x0), .val (.long x1), .second, .val (.long x2), .second] [(.int (0 : Int32))])) _
        refine XS.goto X1.here hx rfl (pc0 := 18) (pc' := 32) rfl (hb hby own_d1_18) (by decide) (by decide) ?_
        show Steps p.tables e below (T1.setTop (mkF m 32 #[.val (.ref x0), .val (.long x1), .second, .val (.long x2), .second] [(.int (0 : Int32))])) _
        exact retN X1 hx (t := .boolean) Bd.returns (by simp) (hb hby own_d1_32) hr
      · show QP (.int (if x0 = w 0 then (if x1 < x2 then 0 else 1) else (if x2 < x1 then 0 else 1))) h0 n0 _ T1.heap _
        rw [e1]
        exact ⟨by rw [if_pos ha4, if_pos hc10], N0, rfl⟩
    · obtain ⟨fs, hr, hrun, hended, hW, hsame⟩ := X1.leave (v := some (.int (1 : Int32))) (fun h => by rw [Bd.returns] at h; cases h)
      refine ⟨_, _, pre3 _ ?_, hrun, hended, _, _, rfl, ?_, ⟨_, rfl⟩, hW, hsame.mono (by decide) (by decide)⟩
      · show Steps p.tables e below (T1.setTop (mkF m 10 #[.val (.ref x0), .val (.long x1), .second, .val (.long x2), .second] [(.int (lcmpW x2 x1))])) _
        refine XS.ifNo X1.here hx rfl (hb hby own_d1_10) rfl ((if0 _ _).trans (flt (mt (lw_gt _ _).mp hc10)).2.2.1) ?_
        show Steps p.tables e below (T1.setTop (mkF m 13 #[.val (.ref x0), .val (.long x1), .second, .val (.long x2), .second] [])) _
        refine XS.iconst X1.here hx rfl (hb hby own_d1_13) ?_
        show Steps p.tables e below (T1.setTop (mkF m 14 #[.val (.ref x0), .val (.long x1), .second, .val (.long x2), .second] [(.int (1 : Int32))])) _
        refine XS.goto X1.here hx rfl (pc0 := 14) (pc' := 32) rfl (hb hby own_d1_14) (by decide) (by decide) ?_
        show Steps p.tables e below (T1.setTop (mkF m 32 #[.val (.ref x0), .val (.long x1), .second, .val (.long x2), .second] [(.int (1 : Int32))])) _
        exact retN X1 hx (t := .boolean) Bd.returns (by simp) (hb hby own_d1_32) hr
      · show QP (.int (if x0 = w 0 then (if x1 < x2 then 0 else 1) else (if x2 < x1 then 0 else 1))) h0 n0 _ T1.heap _
        rw [e1]
        exact ⟨by rw [if_pos ha4, if_neg hc10], N0, rfl⟩
  · have pre4 : ∀ t, Steps p.tables e below (T1.setTop (mkF m 24 #[.val (.ref x0), .val (.long x1), .second, .val (.long x2), .second] [(.int (lcmpW x2 x1))])) t → Steps p.tables e below (s₁.setTop (entryFrame m #[(.ref x0), (.long x1), (.long x2)] 5)) t := fun tt kk => pre2 tt (by
      show Steps p.tables e below (T1.setTop (mkF m 4 #[.val (.ref x0), .val (.long x1), .second, .val (.long x2), .second] [(.ref (w 0)), (.ref x0)])) _
      refine Jvm.RoadKit.acmp (g := (mkF m 4 #[.val (.ref x0), .val (.long x1), .second, .val (.long x2), .second] [(.ref (w 0)), (.ref x0)])) X1 hx rfl rfl rfl (pc0 := 4) (pc' := 21) (same := false) rfl (hb hby own_d1_4) rfl (decide_eq_false fun q => ha4 (Value.ref.inj q)) (by decide) (by decide) ?_
      show Steps p.tables e below (T1.setTop (mkF m 21 #[.val (.ref x0), .val (.long x1), .second, .val (.long x2), .second] [])) _
      refine XS.lloadN X1.here hx rfl (hb hby own_d1_21) rfl ?_
      show Steps p.tables e below (T1.setTop (mkF m 22 #[.val (.ref x0), .val (.long x1), .second, .val (.long x2), .second] [(.long x2)])) _
      refine XS.lloadN X1.here hx rfl (hb hby own_d1_22) rfl ?_
      show Steps p.tables e below (T1.setTop (mkF m 23 #[.val (.ref x0), .val (.long x1), .second, .val (.long x2), .second] [(.long x1), (.long x2)])) _
      refine XS.lcmp X1.here hx rfl (hb hby own_d1_23) rfl ?_
      exact kk)
    by_cases hc24 : x2 < x1
    · obtain ⟨fs, hr, hrun, hended, hW, hsame⟩ := X1.leave (v := some (.int (0 : Int32))) (fun h => by rw [Bd.returns] at h; cases h)
      refine ⟨_, _, pre4 _ ?_, hrun, hended, _, _, rfl, ?_, ⟨_, rfl⟩, hW, hsame.mono (by decide) (by decide)⟩
      · show Steps p.tables e below (T1.setTop (mkF m 24 #[.val (.ref x0), .val (.long x1), .second, .val (.long x2), .second] [(.int (lcmpW x2 x1))])) _
        refine XS.ifYes X1.here hx rfl (pc0 := 24) (pc' := 31) rfl (hb hby own_d1_24) rfl ((if0 _ _).trans (tlt ((lw_lt _ _).mpr hc24)).1) (by decide) (by decide) ?_
        show Steps p.tables e below (T1.setTop (mkF m 31 #[.val (.ref x0), .val (.long x1), .second, .val (.long x2), .second] [])) _
        refine XS.iconst X1.here hx rfl (hb hby own_d1_31) ?_
        show Steps p.tables e below (T1.setTop (mkF m 32 #[.val (.ref x0), .val (.long x1), .second, .val (.long x2), .second] [(.int (0 : Int32))])) _
        exact retN X1 hx (t := .boolean) Bd.returns (by simp) (hb hby own_d1_32) hr
      · show QP (.int (if x0 = w 0 then (if x1 < x2 then 0 else 1) else (if x2 < x1 then 0 else 1))) h0 n0 _ T1.heap _
        rw [e1]
        exact ⟨by rw [if_neg ha4, if_pos hc24], N0, rfl⟩
    · obtain ⟨fs, hr, hrun, hended, hW, hsame⟩ := X1.leave (v := some (.int (1 : Int32))) (fun h => by rw [Bd.returns] at h; cases h)
      refine ⟨_, _, pre4 _ ?_, hrun, hended, _, _, rfl, ?_, ⟨_, rfl⟩, hW, hsame.mono (by decide) (by decide)⟩
      · show Steps p.tables e below (T1.setTop (mkF m 24 #[.val (.ref x0), .val (.long x1), .second, .val (.long x2), .second] [(.int (lcmpW x2 x1))])) _
        refine XS.ifNo X1.here hx rfl (hb hby own_d1_24) rfl ((if0 _ _).trans (flt (mt (lw_lt _ _).mp hc24)).1) ?_
        show Steps p.tables e below (T1.setTop (mkF m 27 #[.val (.ref x0), .val (.long x1), .second, .val (.long x2), .second] [])) _
        refine XS.iconst X1.here hx rfl (hb hby own_d1_27) ?_
        show Steps p.tables e below (T1.setTop (mkF m 28 #[.val (.ref x0), .val (.long x1), .second, .val (.long x2), .second] [(.int (1 : Int32))])) _
        refine XS.goto X1.here hx rfl (pc0 := 28) (pc' := 32) rfl (hb hby own_d1_28) (by decide) (by decide) ?_
        show Steps p.tables e below (T1.setTop (mkF m 32 #[.val (.ref x0), .val (.long x1), .second, .val (.long x2), .second] [(.int (1 : Int32))])) _
        exact retN X1 hx (t := .boolean) Bd.returns (by simp) (hb hby own_d1_32) hr
      · show QP (.int (if x0 = w 0 then (if x1 < x2 then 0 else 1) else (if x2 < x1 then 0 else 1))) h0 n0 _ T1.heap _
        rw [e1]
        exact ⟨by rw [if_neg ha4, if_neg hc24], N0, rfl⟩
set_option maxRecDepth 65536 in
set_option maxHeartbeats 40000000 in
theorem rm0 (l : Launch) (Z : State) (a0 : Array Value) (hw : ∀ d ∈ tables_1, d.before a0 Z = true) (ws : List Jvm.Cond) (x0 : Int32) (x1 x2 : Int64) (w : Nat → Addr) (h0 : Heap) (n0 : Nat) (Z0 : n0 ≤ h0.size) (ST : STA Z h0 w) (EX : ∀ i, i < 3 → Exa Z h0 (w i) "com/example/slidebook/slidebook/engine/Side") (INJ : ∀ i j, i < 3 → j < 3 → w i = w j → i = j) :
    MetFree l x (head1 (Jvm.Cond.code x code maxLocals ret :: ws) room_1) (fun a U => a = #[(.int x0), (.long x1), (.long x2)] ∧ Z.Warmed39 U.vm ∧ U.heap = h0) (fun _ _ _ _ _ => True) (fun _ U o U' => ∃ v L, o = .returned v ∧ Q1 n0 v U'.heap L ∧ FrameEnd U o U' L room_1.cells room_1.slots) := by
  refine MetFree.of_bodySF (plainFor_of_name (by first | (simp [plainName, overriddenIn]; done) | decide +kernel)) hisR ?_
  intro p e s m args below meth c s₁ Bd hml0 hP hK
  obtain ⟨rfl, hZ, hh⟩ := hP
  have hx := Bd.exec
  have hby := Bd.bytes
  have hml : c.maxLocals = 10 := hml0
  have hown : s.vm.findClass "com/example/slidebook/slidebook/engine/SideAcceptsPinLaw" = some m.cls := findClass_of_methodNamed Bd.named
  have hnm := (name_of_methodNamed Bd.named Bd.method).1
  have X0 : Stand p l e room_1 s m #[(.int x0), (.long x1), (.long x2)] below meth c s₁ [] 0 0 := Stand.of_body Bd
  have e0 : s₁.heap = h0 := by rw [← hh, Bd.state]; rfl
  have N0 := Fr.nil n0
  have ef0 : entryFrame m #[(.int x0), (.long x1), (.long x2)] maxLocals = mkF m 0 #[.val (.int x0), .val (.long x1), .second, .val (.long x2), .second, .unset, .unset, .unset, .unset, .unset] [] := by first | (simp [entryFrame, mkF, argsToLocals, Value.category, maxLocals]; done) | rfl
  have pre0 : ∀ t, Steps p.tables e below (s₁.setTop (mkF m 0 #[.val (.int x0), .val (.long x1), .second, .val (.long x2), .second, .unset, .unset, .unset, .unset, .unset] [])) t → Steps p.tables e below (s₁.setTop (entryFrame m #[(.int x0), (.long x1), (.long x2)] maxLocals)) t := fun t k => castTop ef0 k
  have pre5 : ∀ t, Steps p.tables e below (s₁.setTop (mkF m 10 #[.val (.int x0), .val (.long x1), .second, .val (.long x2), .second, .val (.int ((x0 &&& (2147483647 : Int32)) % (3 : Int32))), .unset, .unset, .unset, .unset] [(.int ((x0 &&& (2147483647 : Int32)) % (3 : Int32)))])) t → Steps p.tables e below (s₁.setTop (entryFrame m #[(.int x0), (.long x1), (.long x2)] maxLocals)) t := fun tt kk => pre0 tt (by
    show Steps p.tables e below (s₁.setTop (mkF m 0 #[.val (.int x0), .val (.long x1), .second, .val (.long x2), .second, .unset, .unset, .unset, .unset, .unset] [])) _
    refine XS.iloadN X0.here hx rfl (hb hby at_0) rfl ?_
    show Steps p.tables e below (s₁.setTop (mkF m 1 #[.val (.int x0), .val (.long x1), .second, .val (.long x2), .second, .unset, .unset, .unset, .unset, .unset] [(.int x0)])) _
    refine X0.ldcInt hx hown (mvT hZ (hw _ (List.mem_of_getElem? (i := 0) rfl))) (g := (mkF m 1 #[.val (.int x0), .val (.long x1), .second, .val (.long x2), .second, .unset, .unset, .unset, .unset, .unset] [(.int x0)])) rfl (hb hby at_1) _ ?_
    show Steps p.tables e below (s₁.setTop (mkF m 3 #[.val (.int x0), .val (.long x1), .second, .val (.long x2), .second, .unset, .unset, .unset, .unset, .unset] [(.int (2147483647 : Int32)), (.int x0)])) _
    refine XS.iand X0.here hx rfl (hb hby at_3) rfl ?_
    show Steps p.tables e below (s₁.setTop (mkF m 4 #[.val (.int x0), .val (.long x1), .second, .val (.long x2), .second, .unset, .unset, .unset, .unset, .unset] [(.int (x0 &&& (2147483647 : Int32)))])) _
    refine XS.iconst X0.here hx rfl (hb hby at_4) ?_
    show Steps p.tables e below (s₁.setTop (mkF m 5 #[.val (.int x0), .val (.long x1), .second, .val (.long x2), .second, .unset, .unset, .unset, .unset, .unset] [(.int (3 : Int32)), (.int (x0 &&& (2147483647 : Int32)))])) _
    refine iremM X0 hx rfl (hb hby at_5) rfl (by decide) ?_
    show Steps p.tables e below (s₁.setTop (mkF m 6 #[.val (.int x0), .val (.long x1), .second, .val (.long x2), .second, .unset, .unset, .unset, .unset, .unset] [(.int ((x0 &&& (2147483647 : Int32)) % (3 : Int32)))])) _
    refine XS.istore X0.here hx rfl (hb hby at_6) rfl (l' := #[.val (.int x0), .val (.long x1), .second, .val (.long x2), .second, .val (.int ((x0 &&& (2147483647 : Int32)) % (3 : Int32))), .unset, .unset, .unset, .unset]) rfl ?_
    show Steps p.tables e below (s₁.setTop (mkF m 8 #[.val (.int x0), .val (.long x1), .second, .val (.long x2), .second, .val (.int ((x0 &&& (2147483647 : Int32)) % (3 : Int32))), .unset, .unset, .unset, .unset] [])) _
    refine XS.iload X0.here hx rfl (hb hby at_8) rfl ?_
    exact kk)
  by_cases hc10 : ((x0 &&& (2147483647 : Int32)) % (3 : Int32)) = (0 : Int32)
  · obtain ⟨T6, X6, e6, st6⟩ := getS2 X0 hx hZ hown (host := "") (Or.inl (hw _ (List.mem_of_getElem? (i := 1) rfl))) Via.refl e0 ST.1 (g := (mkF m 13 #[.val (.int x0), .val (.long x1), .second, .val (.long x2), .second, .val (.int ((x0 &&& (2147483647 : Int32)) % (3 : Int32))), .unset, .unset, .unset, .unset] [])) rfl (hb hby at_13)
    obtain ⟨cq7, kq7, q7a, q7b, q7c⟩ := isOf hZ e6 (EX 0 (by decide))
    obtain ⟨vv7, _, ⟨T7, L7, k7, n7⟩, -, X7, ⟨Lc7, hQ7, l7, y7, z7⟩, st7⟩ := X6.virtualBack hx (y := (⟨"com/example/slidebook/slidebook/engine/Side", "accepts", "(JJ)Z"⟩ : MethodName)) (z := (⟨"com/example/slidebook/slidebook/engine/Side", "accepts", "(JJ)Z"⟩ : MethodName)) hown (mvT hZ (hw _ (List.mem_of_getElem? (i := 4) rfl))) (mvT hZ (hw _ (List.mem_of_getElem? (i := 5) rfl))) (notFace_of_selects (args := #[]) (mvT hZ (hw _ (List.mem_of_getElem? (i := 7) rfl)))) (mvT hZ (hw _ (List.mem_of_getElem? (i := 7) rfl))) (mvT hZ (hw _ (List.mem_of_getElem? (i := 6) rfl))) (by decide) (backOf (W := 0) (rm1 l Z a0 hw [] (w 0) x1 x2 w h0 n0 Z0 ST) hZ (hw _ (List.mem_of_getElem? (i := 8) rfl)) (hw _ (List.mem_of_getElem? (i := 2) rfl)) (by decide) (by decide)) q7a q7c (g := (mkF m 40 #[.val (.int x0), .val (.long x1), .second, .val (.long x2), .second, .val (.int ((x0 &&& (2147483647 : Int32)) % (3 : Int32))), .val (.ref (w 0)), .unset, .unset, .unset] [(.long x2), (.long x1), (.ref (w 0))])) rfl (by rw [hml]; rfl) (Steps.refl _) (argsL := [(.long x1), (.long x2)]) (rest := []) (lenOf own_pd_0 rfl) rfl (by show 2 * 0 + _ ≤ _; exact Nat.le_of_eq rfl) (hb hby at_40) (fun _ _ => ⟨rfl, e6, (by decide : 0 + 0 ≤ _), (by decide : 0 + 0 ≤ _)⟩)
    dsimp only [Pt.U, Pt.locs, Pt.cells, Pt.slots] at X7 l7 y7 z7 st7 hQ7
    subst l7 y7 z7
    rw [if_pos rfl] at hQ7
    obtain ⟨rfl, N7q, e7⟩ := hQ7
    have N7 := Fr.app N0 N7q
    have pre8 : ∀ t, Steps p.tables e below (T7.setTop (mkF m 47 #[.val (.int x0), .val (.long x1), .second, .val (.long x2), .second, .val (.int ((x0 &&& (2147483647 : Int32)) % (3 : Int32))), .val (.ref (w 0)), .val (.int (if x1 < x2 then (0 : Int32) else 1)), .unset, .unset] [(.int ((x0 &&& (2147483647 : Int32)) % (3 : Int32)))])) t → Steps p.tables e below (s₁.setTop (entryFrame m #[(.int x0), (.long x1), (.long x2)] maxLocals)) t := fun tt kk => pre5 tt (by
      show Steps p.tables e below (s₁.setTop (mkF m 10 #[.val (.int x0), .val (.long x1), .second, .val (.long x2), .second, .val (.int ((x0 &&& (2147483647 : Int32)) % (3 : Int32))), .unset, .unset, .unset, .unset] [(.int ((x0 &&& (2147483647 : Int32)) % (3 : Int32)))])) _
      refine XS.ifNo X0.here hx rfl (hb hby at_10) rfl ((if0 _ _).trans (teq hc10).2) ?_
      show Steps p.tables e below (s₁.setTop (mkF m 13 #[.val (.int x0), .val (.long x1), .second, .val (.long x2), .second, .val (.int ((x0 &&& (2147483647 : Int32)) % (3 : Int32))), .unset, .unset, .unset, .unset] [])) _
      refine st6 _ ?_
      show Steps p.tables e below (T6.setTop (mkF m 16 #[.val (.int x0), .val (.long x1), .second, .val (.long x2), .second, .val (.int ((x0 &&& (2147483647 : Int32)) % (3 : Int32))), .unset, .unset, .unset, .unset] [(.ref (w 0))])) _
      refine XS.goto X6.here hx rfl (pc0 := 16) (pc' := 34) rfl (hb hby at_16) (by decide) (by decide) ?_
      show Steps p.tables e below (T6.setTop (mkF m 34 #[.val (.int x0), .val (.long x1), .second, .val (.long x2), .second, .val (.int ((x0 &&& (2147483647 : Int32)) % (3 : Int32))), .unset, .unset, .unset, .unset] [(.ref (w 0))])) _
      refine XS.astore X6.here hx rfl (hb hby at_34) rfl rfl (l' := #[.val (.int x0), .val (.long x1), .second, .val (.long x2), .second, .val (.int ((x0 &&& (2147483647 : Int32)) % (3 : Int32))), .val (.ref (w 0)), .unset, .unset, .unset]) rfl ?_
      show Steps p.tables e below (T6.setTop (mkF m 36 #[.val (.int x0), .val (.long x1), .second, .val (.long x2), .second, .val (.int ((x0 &&& (2147483647 : Int32)) % (3 : Int32))), .val (.ref (w 0)), .unset, .unset, .unset] [])) _
      refine XS.aload X6.here hx rfl (hb hby at_36) rfl rfl ?_
      show Steps p.tables e below (T6.setTop (mkF m 38 #[.val (.int x0), .val (.long x1), .second, .val (.long x2), .second, .val (.int ((x0 &&& (2147483647 : Int32)) % (3 : Int32))), .val (.ref (w 0)), .unset, .unset, .unset] [(.ref (w 0))])) _
      refine XS.lloadN X6.here hx rfl (hb hby at_38) rfl ?_
      show Steps p.tables e below (T6.setTop (mkF m 39 #[.val (.int x0), .val (.long x1), .second, .val (.long x2), .second, .val (.int ((x0 &&& (2147483647 : Int32)) % (3 : Int32))), .val (.ref (w 0)), .unset, .unset, .unset] [(.long x1), (.ref (w 0))])) _
      refine XS.lloadN X6.here hx rfl (hb hby at_39) rfl ?_
      show Steps p.tables e below (T6.setTop (mkF m 40 #[.val (.int x0), .val (.long x1), .second, .val (.long x2), .second, .val (.int ((x0 &&& (2147483647 : Int32)) % (3 : Int32))), .val (.ref (w 0)), .unset, .unset, .unset] [(.long x2), (.long x1), (.ref (w 0))])) _
      refine st7.trans ?_
      show Steps p.tables e below (T7.setTop (mkF m 43 #[.val (.int x0), .val (.long x1), .second, .val (.long x2), .second, .val (.int ((x0 &&& (2147483647 : Int32)) % (3 : Int32))), .val (.ref (w 0)), .unset, .unset, .unset] [(.int (if x1 < x2 then (0 : Int32) else 1))])) _
      refine XS.istore X7.here hx rfl (hb hby at_43) rfl (l' := #[.val (.int x0), .val (.long x1), .second, .val (.long x2), .second, .val (.int ((x0 &&& (2147483647 : Int32)) % (3 : Int32))), .val (.ref (w 0)), .val (.int (if x1 < x2 then (0 : Int32) else 1)), .unset, .unset]) rfl ?_
      show Steps p.tables e below (T7.setTop (mkF m 45 #[.val (.int x0), .val (.long x1), .second, .val (.long x2), .second, .val (.int ((x0 &&& (2147483647 : Int32)) % (3 : Int32))), .val (.ref (w 0)), .val (.int (if x1 < x2 then (0 : Int32) else 1)), .unset, .unset] [])) _
      refine XS.iload X7.here hx rfl (hb hby at_45) rfl ?_
      exact kk)
    have pre9 : ∀ t, Steps p.tables e below (T7.setTop (mkF m 60 #[.val (.int x0), .val (.long x1), .second, .val (.long x2), .second, .val (.int ((x0 &&& (2147483647 : Int32)) % (3 : Int32))), .val (.ref (w 0)), .val (.int (if x1 < x2 then (0 : Int32) else 1)), .val (.int (1 : Int32)), .unset] [(.int (lcmpW x2 x1))])) t → Steps p.tables e below (s₁.setTop (entryFrame m #[(.int x0), (.long x1), (.long x2)] maxLocals)) t := fun tt kk => pre8 tt (by
      show Steps p.tables e below (T7.setTop (mkF m 47 #[.val (.int x0), .val (.long x1), .second, .val (.long x2), .second, .val (.int ((x0 &&& (2147483647 : Int32)) % (3 : Int32))), .val (.ref (w 0)), .val (.int (if x1 < x2 then (0 : Int32) else 1)), .unset, .unset] [(.int ((x0 &&& (2147483647 : Int32)) % (3 : Int32)))])) _
      refine XS.ifNo X7.here hx rfl (hb hby at_47) rfl ((if0 _ _).trans (teq (hc10)).2) ?_
      show Steps p.tables e below (T7.setTop (mkF m 50 #[.val (.int x0), .val (.long x1), .second, .val (.long x2), .second, .val (.int ((x0 &&& (2147483647 : Int32)) % (3 : Int32))), .val (.ref (w 0)), .val (.int (if x1 < x2 then (0 : Int32) else 1)), .unset, .unset] [])) _
      refine XS.iconst X7.here hx rfl (hb hby at_50) ?_
      show Steps p.tables e below (T7.setTop (mkF m 51 #[.val (.int x0), .val (.long x1), .second, .val (.long x2), .second, .val (.int ((x0 &&& (2147483647 : Int32)) % (3 : Int32))), .val (.ref (w 0)), .val (.int (if x1 < x2 then (0 : Int32) else 1)), .unset, .unset] [(.int (1 : Int32))])) _
      refine XS.goto X7.here hx rfl (pc0 := 51) (pc' := 55) rfl (hb hby at_51) (by decide) (by decide) ?_
      show Steps p.tables e below (T7.setTop (mkF m 55 #[.val (.int x0), .val (.long x1), .second, .val (.long x2), .second, .val (.int ((x0 &&& (2147483647 : Int32)) % (3 : Int32))), .val (.ref (w 0)), .val (.int (if x1 < x2 then (0 : Int32) else 1)), .unset, .unset] [(.int (1 : Int32))])) _
      refine XS.istore X7.here hx rfl (hb hby at_55) rfl (l' := #[.val (.int x0), .val (.long x1), .second, .val (.long x2), .second, .val (.int ((x0 &&& (2147483647 : Int32)) % (3 : Int32))), .val (.ref (w 0)), .val (.int (if x1 < x2 then (0 : Int32) else 1)), .val (.int (1 : Int32)), .unset]) rfl ?_
      show Steps p.tables e below (T7.setTop (mkF m 57 #[.val (.int x0), .val (.long x1), .second, .val (.long x2), .second, .val (.int ((x0 &&& (2147483647 : Int32)) % (3 : Int32))), .val (.ref (w 0)), .val (.int (if x1 < x2 then (0 : Int32) else 1)), .val (.int (1 : Int32)), .unset] [])) _
      refine XS.lloadN X7.here hx rfl (hb hby at_57) rfl ?_
      show Steps p.tables e below (T7.setTop (mkF m 58 #[.val (.int x0), .val (.long x1), .second, .val (.long x2), .second, .val (.int ((x0 &&& (2147483647 : Int32)) % (3 : Int32))), .val (.ref (w 0)), .val (.int (if x1 < x2 then (0 : Int32) else 1)), .val (.int (1 : Int32)), .unset] [(.long x2)])) _
      refine XS.lloadN X7.here hx rfl (hb hby at_58) rfl ?_
      show Steps p.tables e below (T7.setTop (mkF m 59 #[.val (.int x0), .val (.long x1), .second, .val (.long x2), .second, .val (.int ((x0 &&& (2147483647 : Int32)) % (3 : Int32))), .val (.ref (w 0)), .val (.int (if x1 < x2 then (0 : Int32) else 1)), .val (.int (1 : Int32)), .unset] [(.long x1), (.long x2)])) _
      refine XS.lcmp X7.here hx rfl (hb hby at_59) rfl ?_
      exact kk)
    by_cases hc60 : x2 = x1
    · have pre10 : ∀ t, Steps p.tables e below (T7.setTop (mkF m 98 #[.val (.int x0), .val (.long x1), .second, .val (.long x2), .second, .val (.int ((x0 &&& (2147483647 : Int32)) % (3 : Int32))), .val (.ref (w 0)), .val (.int (if x1 < x2 then (0 : Int32) else 1)), .val (.int (1 : Int32)), .val (.int (1 : Int32))] [(.int (1 : Int32)), (.int (if x1 < x2 then (0 : Int32) else 1))])) t → Steps p.tables e below (s₁.setTop (entryFrame m #[(.int x0), (.long x1), (.long x2)] maxLocals)) t := fun tt kk => pre9 tt (by
        show Steps p.tables e below (T7.setTop (mkF m 60 #[.val (.int x0), .val (.long x1), .second, .val (.long x2), .second, .val (.int ((x0 &&& (2147483647 : Int32)) % (3 : Int32))), .val (.ref (w 0)), .val (.int (if x1 < x2 then (0 : Int32) else 1)), .val (.int (1 : Int32)), .unset] [(.int (lcmpW x2 x1))])) _
        refine XS.ifNo X7.here hx rfl (hb hby at_60) rfl ((if0 _ _).trans (teq ((lw_eq _ _).mpr hc60)).2) ?_
        show Steps p.tables e below (T7.setTop (mkF m 63 #[.val (.int x0), .val (.long x1), .second, .val (.long x2), .second, .val (.int ((x0 &&& (2147483647 : Int32)) % (3 : Int32))), .val (.ref (w 0)), .val (.int (if x1 < x2 then (0 : Int32) else 1)), .val (.int (1 : Int32)), .unset] [])) _
        refine XS.iconst X7.here hx rfl (hb hby at_63) ?_
        show Steps p.tables e below (T7.setTop (mkF m 64 #[.val (.int x0), .val (.long x1), .second, .val (.long x2), .second, .val (.int ((x0 &&& (2147483647 : Int32)) % (3 : Int32))), .val (.ref (w 0)), .val (.int (if x1 < x2 then (0 : Int32) else 1)), .val (.int (1 : Int32)), .unset] [(.int (1 : Int32))])) _
        refine XS.istore X7.here hx rfl (hb hby at_64) rfl (l' := #[.val (.int x0), .val (.long x1), .second, .val (.long x2), .second, .val (.int ((x0 &&& (2147483647 : Int32)) % (3 : Int32))), .val (.ref (w 0)), .val (.int (if x1 < x2 then (0 : Int32) else 1)), .val (.int (1 : Int32)), .val (.int (1 : Int32))]) rfl ?_
        show Steps p.tables e below (T7.setTop (mkF m 66 #[.val (.int x0), .val (.long x1), .second, .val (.long x2), .second, .val (.int ((x0 &&& (2147483647 : Int32)) % (3 : Int32))), .val (.ref (w 0)), .val (.int (if x1 < x2 then (0 : Int32) else 1)), .val (.int (1 : Int32)), .val (.int (1 : Int32))] [])) _
        refine XS.goto X7.here hx rfl (pc0 := 66) (pc' := 94) rfl (hb hby at_66) (by decide) (by decide) ?_
        show Steps p.tables e below (T7.setTop (mkF m 94 #[.val (.int x0), .val (.long x1), .second, .val (.long x2), .second, .val (.int ((x0 &&& (2147483647 : Int32)) % (3 : Int32))), .val (.ref (w 0)), .val (.int (if x1 < x2 then (0 : Int32) else 1)), .val (.int (1 : Int32)), .val (.int (1 : Int32))] [])) _
        refine XS.iload X7.here hx rfl (hb hby at_94) rfl ?_
        show Steps p.tables e below (T7.setTop (mkF m 96 #[.val (.int x0), .val (.long x1), .second, .val (.long x2), .second, .val (.int ((x0 &&& (2147483647 : Int32)) % (3 : Int32))), .val (.ref (w 0)), .val (.int (if x1 < x2 then (0 : Int32) else 1)), .val (.int (1 : Int32)), .val (.int (1 : Int32))] [(.int (if x1 < x2 then (0 : Int32) else 1))])) _
        refine XS.iload X7.here hx rfl (hb hby at_96) rfl ?_
        exact kk)
      obtain ⟨fs, hr, hrun, hended, hW, hsame⟩ := X7.leave (v := some (.int (1 : Int32))) (fun h => by rw [Bd.returns] at h; cases h)
      refine ⟨_, _, pre10 _ ?_, hrun, hended, _, _, rfl, ?_, ⟨_, rfl⟩, hW, hsame.mono (by decide) (by decide)⟩
      · show Steps p.tables e below (T7.setTop (mkF m 98 #[.val (.int x0), .val (.long x1), .second, .val (.long x2), .second, .val (.int ((x0 &&& (2147483647 : Int32)) % (3 : Int32))), .val (.ref (w 0)), .val (.int (if x1 < x2 then (0 : Int32) else 1)), .val (.int (1 : Int32)), .val (.int (1 : Int32))] [(.int (1 : Int32)), (.int (if x1 < x2 then (0 : Int32) else 1))])) _
        refine XS.icmpNo X7.here hx rfl (hb hby at_98) rfl (teq (if_neg (own_lt_irrefl hc60).2)).2 ?_
        show Steps p.tables e below (T7.setTop (mkF m 101 #[.val (.int x0), .val (.long x1), .second, .val (.long x2), .second, .val (.int ((x0 &&& (2147483647 : Int32)) % (3 : Int32))), .val (.ref (w 0)), .val (.int (if x1 < x2 then (0 : Int32) else 1)), .val (.int (1 : Int32)), .val (.int (1 : Int32))] [])) _
        refine XS.iconst X7.here hx rfl (hb hby at_101) ?_
        show Steps p.tables e below (T7.setTop (mkF m 102 #[.val (.int x0), .val (.long x1), .second, .val (.long x2), .second, .val (.int ((x0 &&& (2147483647 : Int32)) % (3 : Int32))), .val (.ref (w 0)), .val (.int (if x1 < x2 then (0 : Int32) else 1)), .val (.int (1 : Int32)), .val (.int (1 : Int32))] [(.int (1 : Int32))])) _
        refine XS.goto X7.here hx rfl (pc0 := 102) (pc' := 106) rfl (hb hby at_102) (by decide) (by decide) ?_
        show Steps p.tables e below (T7.setTop (mkF m 106 #[.val (.int x0), .val (.long x1), .second, .val (.long x2), .second, .val (.int ((x0 &&& (2147483647 : Int32)) % (3 : Int32))), .val (.ref (w 0)), .val (.int (if x1 < x2 then (0 : Int32) else 1)), .val (.int (1 : Int32)), .val (.int (1 : Int32))] [(.int (1 : Int32))])) _
        exact retN X7 hx (t := .boolean) Bd.returns (by simp) (hb hby at_106) hr
      · exact ⟨rfl, N7⟩
    · have pre11 : ∀ t, Steps p.tables e below (T7.setTop (mkF m 72 #[.val (.int x0), .val (.long x1), .second, .val (.long x2), .second, .val (.int ((x0 &&& (2147483647 : Int32)) % (3 : Int32))), .val (.ref (w 0)), .val (.int (if x1 < x2 then (0 : Int32) else 1)), .val (.int (1 : Int32)), .unset] [(.int (lcmpW x2 x1))])) t → Steps p.tables e below (s₁.setTop (entryFrame m #[(.int x0), (.long x1), (.long x2)] maxLocals)) t := fun tt kk => pre9 tt (by
        show Steps p.tables e below (T7.setTop (mkF m 60 #[.val (.int x0), .val (.long x1), .second, .val (.long x2), .second, .val (.int ((x0 &&& (2147483647 : Int32)) % (3 : Int32))), .val (.ref (w 0)), .val (.int (if x1 < x2 then (0 : Int32) else 1)), .val (.int (1 : Int32)), .unset] [(.int (lcmpW x2 x1))])) _
        refine XS.ifYes X7.here hx rfl (pc0 := 60) (pc' := 69) rfl (hb hby at_60) rfl ((if0 _ _).trans (feq (mt (lw_eq _ _).mp hc60)).2) (by decide) (by decide) ?_
        show Steps p.tables e below (T7.setTop (mkF m 69 #[.val (.int x0), .val (.long x1), .second, .val (.long x2), .second, .val (.int ((x0 &&& (2147483647 : Int32)) % (3 : Int32))), .val (.ref (w 0)), .val (.int (if x1 < x2 then (0 : Int32) else 1)), .val (.int (1 : Int32)), .unset] [])) _
        refine XS.lloadN X7.here hx rfl (hb hby at_69) rfl ?_
        show Steps p.tables e below (T7.setTop (mkF m 70 #[.val (.int x0), .val (.long x1), .second, .val (.long x2), .second, .val (.int ((x0 &&& (2147483647 : Int32)) % (3 : Int32))), .val (.ref (w 0)), .val (.int (if x1 < x2 then (0 : Int32) else 1)), .val (.int (1 : Int32)), .unset] [(.long x2)])) _
        refine XS.lloadN X7.here hx rfl (hb hby at_70) rfl ?_
        show Steps p.tables e below (T7.setTop (mkF m 71 #[.val (.int x0), .val (.long x1), .second, .val (.long x2), .second, .val (.int ((x0 &&& (2147483647 : Int32)) % (3 : Int32))), .val (.ref (w 0)), .val (.int (if x1 < x2 then (0 : Int32) else 1)), .val (.int (1 : Int32)), .unset] [(.long x1), (.long x2)])) _
        refine XS.lcmp X7.here hx rfl (hb hby at_71) rfl ?_
        exact kk)
      by_cases hc72 : x2 < x1
      · have pre12 : ∀ t, Steps p.tables e below (T7.setTop (mkF m 98 #[.val (.int x0), .val (.long x1), .second, .val (.long x2), .second, .val (.int ((x0 &&& (2147483647 : Int32)) % (3 : Int32))), .val (.ref (w 0)), .val (.int (if x1 < x2 then (0 : Int32) else 1)), .val (.int (1 : Int32)), .val (.int (1 : Int32))] [(.int (1 : Int32)), (.int (if x1 < x2 then (0 : Int32) else 1))])) t → Steps p.tables e below (s₁.setTop (entryFrame m #[(.int x0), (.long x1), (.long x2)] maxLocals)) t := fun tt kk => pre11 tt (by
          show Steps p.tables e below (T7.setTop (mkF m 72 #[.val (.int x0), .val (.long x1), .second, .val (.long x2), .second, .val (.int ((x0 &&& (2147483647 : Int32)) % (3 : Int32))), .val (.ref (w 0)), .val (.int (if x1 < x2 then (0 : Int32) else 1)), .val (.int (1 : Int32)), .unset] [(.int (lcmpW x2 x1))])) _
          refine XS.ifNo X7.here hx rfl (hb hby at_72) rfl ((if0 _ _).trans (tlt ((lw_lt _ _).mpr hc72)).2.1) ?_
          show Steps p.tables e below (T7.setTop (mkF m 75 #[.val (.int x0), .val (.long x1), .second, .val (.long x2), .second, .val (.int ((x0 &&& (2147483647 : Int32)) % (3 : Int32))), .val (.ref (w 0)), .val (.int (if x1 < x2 then (0 : Int32) else 1)), .val (.int (1 : Int32)), .unset] [])) _
          refine XS.iload X7.here hx rfl (hb hby at_75) rfl ?_
          show Steps p.tables e below (T7.setTop (mkF m 77 #[.val (.int x0), .val (.long x1), .second, .val (.long x2), .second, .val (.int ((x0 &&& (2147483647 : Int32)) % (3 : Int32))), .val (.ref (w 0)), .val (.int (if x1 < x2 then (0 : Int32) else 1)), .val (.int (1 : Int32)), .unset] [(.int (1 : Int32))])) _
          refine XS.istore X7.here hx rfl (hb hby at_77) rfl (l' := #[.val (.int x0), .val (.long x1), .second, .val (.long x2), .second, .val (.int ((x0 &&& (2147483647 : Int32)) % (3 : Int32))), .val (.ref (w 0)), .val (.int (if x1 < x2 then (0 : Int32) else 1)), .val (.int (1 : Int32)), .val (.int (1 : Int32))]) rfl ?_
          show Steps p.tables e below (T7.setTop (mkF m 79 #[.val (.int x0), .val (.long x1), .second, .val (.long x2), .second, .val (.int ((x0 &&& (2147483647 : Int32)) % (3 : Int32))), .val (.ref (w 0)), .val (.int (if x1 < x2 then (0 : Int32) else 1)), .val (.int (1 : Int32)), .val (.int (1 : Int32))] [])) _
          refine XS.goto X7.here hx rfl (pc0 := 79) (pc' := 94) rfl (hb hby at_79) (by decide) (by decide) ?_
          show Steps p.tables e below (T7.setTop (mkF m 94 #[.val (.int x0), .val (.long x1), .second, .val (.long x2), .second, .val (.int ((x0 &&& (2147483647 : Int32)) % (3 : Int32))), .val (.ref (w 0)), .val (.int (if x1 < x2 then (0 : Int32) else 1)), .val (.int (1 : Int32)), .val (.int (1 : Int32))] [])) _
          refine XS.iload X7.here hx rfl (hb hby at_94) rfl ?_
          show Steps p.tables e below (T7.setTop (mkF m 96 #[.val (.int x0), .val (.long x1), .second, .val (.long x2), .second, .val (.int ((x0 &&& (2147483647 : Int32)) % (3 : Int32))), .val (.ref (w 0)), .val (.int (if x1 < x2 then (0 : Int32) else 1)), .val (.int (1 : Int32)), .val (.int (1 : Int32))] [(.int (if x1 < x2 then (0 : Int32) else 1))])) _
          refine XS.iload X7.here hx rfl (hb hby at_96) rfl ?_
          exact kk)
        obtain ⟨fs, hr, hrun, hended, hW, hsame⟩ := X7.leave (v := some (.int (1 : Int32))) (fun h => by rw [Bd.returns] at h; cases h)
        refine ⟨_, _, pre12 _ ?_, hrun, hended, _, _, rfl, ?_, ⟨_, rfl⟩, hW, hsame.mono (by decide) (by decide)⟩
        · show Steps p.tables e below (T7.setTop (mkF m 98 #[.val (.int x0), .val (.long x1), .second, .val (.long x2), .second, .val (.int ((x0 &&& (2147483647 : Int32)) % (3 : Int32))), .val (.ref (w 0)), .val (.int (if x1 < x2 then (0 : Int32) else 1)), .val (.int (1 : Int32)), .val (.int (1 : Int32))] [(.int (1 : Int32)), (.int (if x1 < x2 then (0 : Int32) else 1))])) _
          refine XS.icmpNo X7.here hx rfl (hb hby at_98) rfl (teq (if_neg (own_lt_asymm hc72))).2 ?_
          show Steps p.tables e below (T7.setTop (mkF m 101 #[.val (.int x0), .val (.long x1), .second, .val (.long x2), .second, .val (.int ((x0 &&& (2147483647 : Int32)) % (3 : Int32))), .val (.ref (w 0)), .val (.int (if x1 < x2 then (0 : Int32) else 1)), .val (.int (1 : Int32)), .val (.int (1 : Int32))] [])) _
          refine XS.iconst X7.here hx rfl (hb hby at_101) ?_
          show Steps p.tables e below (T7.setTop (mkF m 102 #[.val (.int x0), .val (.long x1), .second, .val (.long x2), .second, .val (.int ((x0 &&& (2147483647 : Int32)) % (3 : Int32))), .val (.ref (w 0)), .val (.int (if x1 < x2 then (0 : Int32) else 1)), .val (.int (1 : Int32)), .val (.int (1 : Int32))] [(.int (1 : Int32))])) _
          refine XS.goto X7.here hx rfl (pc0 := 102) (pc' := 106) rfl (hb hby at_102) (by decide) (by decide) ?_
          show Steps p.tables e below (T7.setTop (mkF m 106 #[.val (.int x0), .val (.long x1), .second, .val (.long x2), .second, .val (.int ((x0 &&& (2147483647 : Int32)) % (3 : Int32))), .val (.ref (w 0)), .val (.int (if x1 < x2 then (0 : Int32) else 1)), .val (.int (1 : Int32)), .val (.int (1 : Int32))] [(.int (1 : Int32))])) _
          exact retN X7 hx (t := .boolean) Bd.returns (by simp) (hb hby at_106) hr
        · exact ⟨rfl, N7⟩
      · have pre13 : ∀ t, Steps p.tables e below (T7.setTop (mkF m 84 #[.val (.int x0), .val (.long x1), .second, .val (.long x2), .second, .val (.int ((x0 &&& (2147483647 : Int32)) % (3 : Int32))), .val (.ref (w 0)), .val (.int (if x1 < x2 then (0 : Int32) else 1)), .val (.int (1 : Int32)), .unset] [(.int (1 : Int32))])) t → Steps p.tables e below (s₁.setTop (entryFrame m #[(.int x0), (.long x1), (.long x2)] maxLocals)) t := fun tt kk => pre11 tt (by
          show Steps p.tables e below (T7.setTop (mkF m 72 #[.val (.int x0), .val (.long x1), .second, .val (.long x2), .second, .val (.int ((x0 &&& (2147483647 : Int32)) % (3 : Int32))), .val (.ref (w 0)), .val (.int (if x1 < x2 then (0 : Int32) else 1)), .val (.int (1 : Int32)), .unset] [(.int (lcmpW x2 x1))])) _
          refine XS.ifYes X7.here hx rfl (pc0 := 72) (pc' := 82) rfl (hb hby at_72) rfl ((if0 _ _).trans (flt (mt (lw_lt _ _).mp hc72)).2.1) (by decide) (by decide) ?_
          show Steps p.tables e below (T7.setTop (mkF m 82 #[.val (.int x0), .val (.long x1), .second, .val (.long x2), .second, .val (.int ((x0 &&& (2147483647 : Int32)) % (3 : Int32))), .val (.ref (w 0)), .val (.int (if x1 < x2 then (0 : Int32) else 1)), .val (.int (1 : Int32)), .unset] [])) _
          refine XS.iload X7.here hx rfl (hb hby at_82) rfl ?_
          exact kk)
        have pre14 : ∀ t, Steps p.tables e below (T7.setTop (mkF m 98 #[.val (.int x0), .val (.long x1), .second, .val (.long x2), .second, .val (.int ((x0 &&& (2147483647 : Int32)) % (3 : Int32))), .val (.ref (w 0)), .val (.int (if x1 < x2 then (0 : Int32) else 1)), .val (.int (1 : Int32)), .val (.int (0 : Int32))] [(.int (0 : Int32)), (.int (if x1 < x2 then (0 : Int32) else 1))])) t → Steps p.tables e below (s₁.setTop (entryFrame m #[(.int x0), (.long x1), (.long x2)] maxLocals)) t := fun tt kk => pre13 tt (by
          show Steps p.tables e below (T7.setTop (mkF m 84 #[.val (.int x0), .val (.long x1), .second, .val (.long x2), .second, .val (.int ((x0 &&& (2147483647 : Int32)) % (3 : Int32))), .val (.ref (w 0)), .val (.int (if x1 < x2 then (0 : Int32) else 1)), .val (.int (1 : Int32)), .unset] [(.int (1 : Int32))])) _
          refine XS.ifYes X7.here hx rfl (pc0 := 84) (pc' := 91) rfl (hb hby at_84) rfl ((if0 _ _).trans (feq (by decide : ¬ ((1 : Int32) = (0 : Int32)))).2) (by decide) (by decide) ?_
          show Steps p.tables e below (T7.setTop (mkF m 91 #[.val (.int x0), .val (.long x1), .second, .val (.long x2), .second, .val (.int ((x0 &&& (2147483647 : Int32)) % (3 : Int32))), .val (.ref (w 0)), .val (.int (if x1 < x2 then (0 : Int32) else 1)), .val (.int (1 : Int32)), .unset] [])) _
          refine XS.iconst X7.here hx rfl (hb hby at_91) ?_
          show Steps p.tables e below (T7.setTop (mkF m 92 #[.val (.int x0), .val (.long x1), .second, .val (.long x2), .second, .val (.int ((x0 &&& (2147483647 : Int32)) % (3 : Int32))), .val (.ref (w 0)), .val (.int (if x1 < x2 then (0 : Int32) else 1)), .val (.int (1 : Int32)), .unset] [(.int (0 : Int32))])) _
          refine XS.istore X7.here hx rfl (hb hby at_92) rfl (l' := #[.val (.int x0), .val (.long x1), .second, .val (.long x2), .second, .val (.int ((x0 &&& (2147483647 : Int32)) % (3 : Int32))), .val (.ref (w 0)), .val (.int (if x1 < x2 then (0 : Int32) else 1)), .val (.int (1 : Int32)), .val (.int (0 : Int32))]) rfl ?_
          show Steps p.tables e below (T7.setTop (mkF m 94 #[.val (.int x0), .val (.long x1), .second, .val (.long x2), .second, .val (.int ((x0 &&& (2147483647 : Int32)) % (3 : Int32))), .val (.ref (w 0)), .val (.int (if x1 < x2 then (0 : Int32) else 1)), .val (.int (1 : Int32)), .val (.int (0 : Int32))] [])) _
          refine XS.iload X7.here hx rfl (hb hby at_94) rfl ?_
          show Steps p.tables e below (T7.setTop (mkF m 96 #[.val (.int x0), .val (.long x1), .second, .val (.long x2), .second, .val (.int ((x0 &&& (2147483647 : Int32)) % (3 : Int32))), .val (.ref (w 0)), .val (.int (if x1 < x2 then (0 : Int32) else 1)), .val (.int (1 : Int32)), .val (.int (0 : Int32))] [(.int (if x1 < x2 then (0 : Int32) else 1))])) _
          refine XS.iload X7.here hx rfl (hb hby at_96) rfl ?_
          exact kk)
        obtain ⟨fs, hr, hrun, hended, hW, hsame⟩ := X7.leave (v := some (.int (1 : Int32))) (fun h => by rw [Bd.returns] at h; cases h)
        refine ⟨_, _, pre14 _ ?_, hrun, hended, _, _, rfl, ?_, ⟨_, rfl⟩, hW, hsame.mono (by decide) (by decide)⟩
        · show Steps p.tables e below (T7.setTop (mkF m 98 #[.val (.int x0), .val (.long x1), .second, .val (.long x2), .second, .val (.int ((x0 &&& (2147483647 : Int32)) % (3 : Int32))), .val (.ref (w 0)), .val (.int (if x1 < x2 then (0 : Int32) else 1)), .val (.int (1 : Int32)), .val (.int (0 : Int32))] [(.int (0 : Int32)), (.int (if x1 < x2 then (0 : Int32) else 1))])) _
          refine XS.icmpNo X7.here hx rfl (hb hby at_98) rfl (teq (if_pos (own_lt_total hc60 hc72))).2 ?_
          show Steps p.tables e below (T7.setTop (mkF m 101 #[.val (.int x0), .val (.long x1), .second, .val (.long x2), .second, .val (.int ((x0 &&& (2147483647 : Int32)) % (3 : Int32))), .val (.ref (w 0)), .val (.int (if x1 < x2 then (0 : Int32) else 1)), .val (.int (1 : Int32)), .val (.int (0 : Int32))] [])) _
          refine XS.iconst X7.here hx rfl (hb hby at_101) ?_
          show Steps p.tables e below (T7.setTop (mkF m 102 #[.val (.int x0), .val (.long x1), .second, .val (.long x2), .second, .val (.int ((x0 &&& (2147483647 : Int32)) % (3 : Int32))), .val (.ref (w 0)), .val (.int (if x1 < x2 then (0 : Int32) else 1)), .val (.int (1 : Int32)), .val (.int (0 : Int32))] [(.int (1 : Int32))])) _
          refine XS.goto X7.here hx rfl (pc0 := 102) (pc' := 106) rfl (hb hby at_102) (by decide) (by decide) ?_
          show Steps p.tables e below (T7.setTop (mkF m 106 #[.val (.int x0), .val (.long x1), .second, .val (.long x2), .second, .val (.int ((x0 &&& (2147483647 : Int32)) % (3 : Int32))), .val (.ref (w 0)), .val (.int (if x1 < x2 then (0 : Int32) else 1)), .val (.int (1 : Int32)), .val (.int (0 : Int32))] [(.int (1 : Int32))])) _
          exact retN X7 hx (t := .boolean) Bd.returns (by simp) (hb hby at_106) hr
        · exact ⟨rfl, N7⟩
  · have pre15 : ∀ t, Steps p.tables e below (s₁.setTop (mkF m 22 #[.val (.int x0), .val (.long x1), .second, .val (.long x2), .second, .val (.int ((x0 &&& (2147483647 : Int32)) % (3 : Int32))), .unset, .unset, .unset, .unset] [(.int (1 : Int32)), (.int ((x0 &&& (2147483647 : Int32)) % (3 : Int32)))])) t → Steps p.tables e below (s₁.setTop (entryFrame m #[(.int x0), (.long x1), (.long x2)] maxLocals)) t := fun tt kk => pre5 tt (by
      show Steps p.tables e below (s₁.setTop (mkF m 10 #[.val (.int x0), .val (.long x1), .second, .val (.long x2), .second, .val (.int ((x0 &&& (2147483647 : Int32)) % (3 : Int32))), .unset, .unset, .unset, .unset] [(.int ((x0 &&& (2147483647 : Int32)) % (3 : Int32)))])) _
      refine XS.ifYes X0.here hx rfl (pc0 := 10) (pc' := 19) rfl (hb hby at_10) rfl ((if0 _ _).trans (feq hc10).2) (by decide) (by decide) ?_
      show Steps p.tables e below (s₁.setTop (mkF m 19 #[.val (.int x0), .val (.long x1), .second, .val (.long x2), .second, .val (.int ((x0 &&& (2147483647 : Int32)) % (3 : Int32))), .unset, .unset, .unset, .unset] [])) _
      refine XS.iload X0.here hx rfl (hb hby at_19) rfl ?_
      show Steps p.tables e below (s₁.setTop (mkF m 21 #[.val (.int x0), .val (.long x1), .second, .val (.long x2), .second, .val (.int ((x0 &&& (2147483647 : Int32)) % (3 : Int32))), .unset, .unset, .unset, .unset] [(.int ((x0 &&& (2147483647 : Int32)) % (3 : Int32)))])) _
      refine XS.iconst X0.here hx rfl (hb hby at_21) ?_
      exact kk)
    by_cases hc22 : ((x0 &&& (2147483647 : Int32)) % (3 : Int32)) = (1 : Int32)
    · obtain ⟨T16, X16, e16, st16⟩ := getS2 X0 hx hZ hown (host := "") (Or.inl (hw _ (List.mem_of_getElem? (i := 10) rfl))) Via.refl e0 ST.2.1 (g := (mkF m 25 #[.val (.int x0), .val (.long x1), .second, .val (.long x2), .second, .val (.int ((x0 &&& (2147483647 : Int32)) % (3 : Int32))), .unset, .unset, .unset, .unset] [])) rfl (hb hby at_25)
      obtain ⟨cq17, kq17, q17a, q17b, q17c⟩ := isOf hZ e16 (EX 1 (by decide))
      obtain ⟨vv17, _, ⟨T17, L17, k17, n17⟩, -, X17, ⟨Lc17, hQ17, l17, y17, z17⟩, st17⟩ := X16.virtualBack hx (y := (⟨"com/example/slidebook/slidebook/engine/Side", "accepts", "(JJ)Z"⟩ : MethodName)) (z := (⟨"com/example/slidebook/slidebook/engine/Side", "accepts", "(JJ)Z"⟩ : MethodName)) hown (mvT hZ (hw _ (List.mem_of_getElem? (i := 4) rfl))) (mvT hZ (hw _ (List.mem_of_getElem? (i := 5) rfl))) (notFace_of_selects (args := #[]) (mvT hZ (hw _ (List.mem_of_getElem? (i := 7) rfl)))) (mvT hZ (hw _ (List.mem_of_getElem? (i := 7) rfl))) (mvT hZ (hw _ (List.mem_of_getElem? (i := 6) rfl))) (by decide) (backOf (W := 0) (rm1 l Z a0 hw [] (w 1) x1 x2 w h0 n0 Z0 ST) hZ (hw _ (List.mem_of_getElem? (i := 8) rfl)) (hw _ (List.mem_of_getElem? (i := 2) rfl)) (by decide) (by decide)) q17a q17c (g := (mkF m 40 #[.val (.int x0), .val (.long x1), .second, .val (.long x2), .second, .val (.int ((x0 &&& (2147483647 : Int32)) % (3 : Int32))), .val (.ref (w 1)), .unset, .unset, .unset] [(.long x2), (.long x1), (.ref (w 1))])) rfl (by rw [hml]; rfl) (Steps.refl _) (argsL := [(.long x1), (.long x2)]) (rest := []) (lenOf own_pd_0 rfl) rfl (by show 2 * 0 + _ ≤ _; exact Nat.le_of_eq rfl) (hb hby at_40) (fun _ _ => ⟨rfl, e16, (by decide : 0 + 0 ≤ _), (by decide : 0 + 0 ≤ _)⟩)
      dsimp only [Pt.U, Pt.locs, Pt.cells, Pt.slots] at X17 l17 y17 z17 st17 hQ17
      subst l17 y17 z17
      rw [if_neg (fun q => absurd (INJ 1 0 (by decide) (by decide) q) (by decide))] at hQ17
      obtain ⟨rfl, N17q, e17⟩ := hQ17
      have N17 := Fr.app N0 N17q
      have pre18 : ∀ t, Steps p.tables e below (T17.setTop (mkF m 47 #[.val (.int x0), .val (.long x1), .second, .val (.long x2), .second, .val (.int ((x0 &&& (2147483647 : Int32)) % (3 : Int32))), .val (.ref (w 1)), .val (.int (if x2 < x1 then (0 : Int32) else 1)), .unset, .unset] [(.int ((x0 &&& (2147483647 : Int32)) % (3 : Int32)))])) t → Steps p.tables e below (s₁.setTop (entryFrame m #[(.int x0), (.long x1), (.long x2)] maxLocals)) t := fun tt kk => pre15 tt (by
        show Steps p.tables e below (s₁.setTop (mkF m 22 #[.val (.int x0), .val (.long x1), .second, .val (.long x2), .second, .val (.int ((x0 &&& (2147483647 : Int32)) % (3 : Int32))), .unset, .unset, .unset, .unset] [(.int (1 : Int32)), (.int ((x0 &&& (2147483647 : Int32)) % (3 : Int32)))])) _
        refine XS.icmpNo X0.here hx rfl (hb hby at_22) rfl (teq hc22).2 ?_
        show Steps p.tables e below (s₁.setTop (mkF m 25 #[.val (.int x0), .val (.long x1), .second, .val (.long x2), .second, .val (.int ((x0 &&& (2147483647 : Int32)) % (3 : Int32))), .unset, .unset, .unset, .unset] [])) _
        refine st16 _ ?_
        show Steps p.tables e below (T16.setTop (mkF m 28 #[.val (.int x0), .val (.long x1), .second, .val (.long x2), .second, .val (.int ((x0 &&& (2147483647 : Int32)) % (3 : Int32))), .unset, .unset, .unset, .unset] [(.ref (w 1))])) _
        refine XS.goto X16.here hx rfl (pc0 := 28) (pc' := 34) rfl (hb hby at_28) (by decide) (by decide) ?_
        show Steps p.tables e below (T16.setTop (mkF m 34 #[.val (.int x0), .val (.long x1), .second, .val (.long x2), .second, .val (.int ((x0 &&& (2147483647 : Int32)) % (3 : Int32))), .unset, .unset, .unset, .unset] [(.ref (w 1))])) _
        refine XS.astore X16.here hx rfl (hb hby at_34) rfl rfl (l' := #[.val (.int x0), .val (.long x1), .second, .val (.long x2), .second, .val (.int ((x0 &&& (2147483647 : Int32)) % (3 : Int32))), .val (.ref (w 1)), .unset, .unset, .unset]) rfl ?_
        show Steps p.tables e below (T16.setTop (mkF m 36 #[.val (.int x0), .val (.long x1), .second, .val (.long x2), .second, .val (.int ((x0 &&& (2147483647 : Int32)) % (3 : Int32))), .val (.ref (w 1)), .unset, .unset, .unset] [])) _
        refine XS.aload X16.here hx rfl (hb hby at_36) rfl rfl ?_
        show Steps p.tables e below (T16.setTop (mkF m 38 #[.val (.int x0), .val (.long x1), .second, .val (.long x2), .second, .val (.int ((x0 &&& (2147483647 : Int32)) % (3 : Int32))), .val (.ref (w 1)), .unset, .unset, .unset] [(.ref (w 1))])) _
        refine XS.lloadN X16.here hx rfl (hb hby at_38) rfl ?_
        show Steps p.tables e below (T16.setTop (mkF m 39 #[.val (.int x0), .val (.long x1), .second, .val (.long x2), .second, .val (.int ((x0 &&& (2147483647 : Int32)) % (3 : Int32))), .val (.ref (w 1)), .unset, .unset, .unset] [(.long x1), (.ref (w 1))])) _
        refine XS.lloadN X16.here hx rfl (hb hby at_39) rfl ?_
        show Steps p.tables e below (T16.setTop (mkF m 40 #[.val (.int x0), .val (.long x1), .second, .val (.long x2), .second, .val (.int ((x0 &&& (2147483647 : Int32)) % (3 : Int32))), .val (.ref (w 1)), .unset, .unset, .unset] [(.long x2), (.long x1), (.ref (w 1))])) _
        refine st17.trans ?_
        show Steps p.tables e below (T17.setTop (mkF m 43 #[.val (.int x0), .val (.long x1), .second, .val (.long x2), .second, .val (.int ((x0 &&& (2147483647 : Int32)) % (3 : Int32))), .val (.ref (w 1)), .unset, .unset, .unset] [(.int (if x2 < x1 then (0 : Int32) else 1))])) _
        refine XS.istore X17.here hx rfl (hb hby at_43) rfl (l' := #[.val (.int x0), .val (.long x1), .second, .val (.long x2), .second, .val (.int ((x0 &&& (2147483647 : Int32)) % (3 : Int32))), .val (.ref (w 1)), .val (.int (if x2 < x1 then (0 : Int32) else 1)), .unset, .unset]) rfl ?_
        show Steps p.tables e below (T17.setTop (mkF m 45 #[.val (.int x0), .val (.long x1), .second, .val (.long x2), .second, .val (.int ((x0 &&& (2147483647 : Int32)) % (3 : Int32))), .val (.ref (w 1)), .val (.int (if x2 < x1 then (0 : Int32) else 1)), .unset, .unset] [])) _
        refine XS.iload X17.here hx rfl (hb hby at_45) rfl ?_
        exact kk)
      have pre19 : ∀ t, Steps p.tables e below (T17.setTop (mkF m 60 #[.val (.int x0), .val (.long x1), .second, .val (.long x2), .second, .val (.int ((x0 &&& (2147483647 : Int32)) % (3 : Int32))), .val (.ref (w 1)), .val (.int (if x2 < x1 then (0 : Int32) else 1)), .val (.int (0 : Int32)), .unset] [(.int (lcmpW x2 x1))])) t → Steps p.tables e below (s₁.setTop (entryFrame m #[(.int x0), (.long x1), (.long x2)] maxLocals)) t := fun tt kk => pre18 tt (by
        show Steps p.tables e below (T17.setTop (mkF m 47 #[.val (.int x0), .val (.long x1), .second, .val (.long x2), .second, .val (.int ((x0 &&& (2147483647 : Int32)) % (3 : Int32))), .val (.ref (w 1)), .val (.int (if x2 < x1 then (0 : Int32) else 1)), .unset, .unset] [(.int ((x0 &&& (2147483647 : Int32)) % (3 : Int32)))])) _
        refine XS.ifYes X17.here hx rfl (pc0 := 47) (pc' := 54) rfl (hb hby at_47) rfl ((if0 _ _).trans (feq (hc10)).2) (by decide) (by decide) ?_
        show Steps p.tables e below (T17.setTop (mkF m 54 #[.val (.int x0), .val (.long x1), .second, .val (.long x2), .second, .val (.int ((x0 &&& (2147483647 : Int32)) % (3 : Int32))), .val (.ref (w 1)), .val (.int (if x2 < x1 then (0 : Int32) else 1)), .unset, .unset] [])) _
        refine XS.iconst X17.here hx rfl (hb hby at_54) ?_
        show Steps p.tables e below (T17.setTop (mkF m 55 #[.val (.int x0), .val (.long x1), .second, .val (.long x2), .second, .val (.int ((x0 &&& (2147483647 : Int32)) % (3 : Int32))), .val (.ref (w 1)), .val (.int (if x2 < x1 then (0 : Int32) else 1)), .unset, .unset] [(.int (0 : Int32))])) _
        refine XS.istore X17.here hx rfl (hb hby at_55) rfl (l' := #[.val (.int x0), .val (.long x1), .second, .val (.long x2), .second, .val (.int ((x0 &&& (2147483647 : Int32)) % (3 : Int32))), .val (.ref (w 1)), .val (.int (if x2 < x1 then (0 : Int32) else 1)), .val (.int (0 : Int32)), .unset]) rfl ?_
        show Steps p.tables e below (T17.setTop (mkF m 57 #[.val (.int x0), .val (.long x1), .second, .val (.long x2), .second, .val (.int ((x0 &&& (2147483647 : Int32)) % (3 : Int32))), .val (.ref (w 1)), .val (.int (if x2 < x1 then (0 : Int32) else 1)), .val (.int (0 : Int32)), .unset] [])) _
        refine XS.lloadN X17.here hx rfl (hb hby at_57) rfl ?_
        show Steps p.tables e below (T17.setTop (mkF m 58 #[.val (.int x0), .val (.long x1), .second, .val (.long x2), .second, .val (.int ((x0 &&& (2147483647 : Int32)) % (3 : Int32))), .val (.ref (w 1)), .val (.int (if x2 < x1 then (0 : Int32) else 1)), .val (.int (0 : Int32)), .unset] [(.long x2)])) _
        refine XS.lloadN X17.here hx rfl (hb hby at_58) rfl ?_
        show Steps p.tables e below (T17.setTop (mkF m 59 #[.val (.int x0), .val (.long x1), .second, .val (.long x2), .second, .val (.int ((x0 &&& (2147483647 : Int32)) % (3 : Int32))), .val (.ref (w 1)), .val (.int (if x2 < x1 then (0 : Int32) else 1)), .val (.int (0 : Int32)), .unset] [(.long x1), (.long x2)])) _
        refine XS.lcmp X17.here hx rfl (hb hby at_59) rfl ?_
        exact kk)
      by_cases hc60 : x2 = x1
      · have pre20 : ∀ t, Steps p.tables e below (T17.setTop (mkF m 98 #[.val (.int x0), .val (.long x1), .second, .val (.long x2), .second, .val (.int ((x0 &&& (2147483647 : Int32)) % (3 : Int32))), .val (.ref (w 1)), .val (.int (if x2 < x1 then (0 : Int32) else 1)), .val (.int (0 : Int32)), .val (.int (1 : Int32))] [(.int (1 : Int32)), (.int (if x2 < x1 then (0 : Int32) else 1))])) t → Steps p.tables e below (s₁.setTop (entryFrame m #[(.int x0), (.long x1), (.long x2)] maxLocals)) t := fun tt kk => pre19 tt (by
          show Steps p.tables e below (T17.setTop (mkF m 60 #[.val (.int x0), .val (.long x1), .second, .val (.long x2), .second, .val (.int ((x0 &&& (2147483647 : Int32)) % (3 : Int32))), .val (.ref (w 1)), .val (.int (if x2 < x1 then (0 : Int32) else 1)), .val (.int (0 : Int32)), .unset] [(.int (lcmpW x2 x1))])) _
          refine XS.ifNo X17.here hx rfl (hb hby at_60) rfl ((if0 _ _).trans (teq ((lw_eq _ _).mpr hc60)).2) ?_
          show Steps p.tables e below (T17.setTop (mkF m 63 #[.val (.int x0), .val (.long x1), .second, .val (.long x2), .second, .val (.int ((x0 &&& (2147483647 : Int32)) % (3 : Int32))), .val (.ref (w 1)), .val (.int (if x2 < x1 then (0 : Int32) else 1)), .val (.int (0 : Int32)), .unset] [])) _
          refine XS.iconst X17.here hx rfl (hb hby at_63) ?_
          show Steps p.tables e below (T17.setTop (mkF m 64 #[.val (.int x0), .val (.long x1), .second, .val (.long x2), .second, .val (.int ((x0 &&& (2147483647 : Int32)) % (3 : Int32))), .val (.ref (w 1)), .val (.int (if x2 < x1 then (0 : Int32) else 1)), .val (.int (0 : Int32)), .unset] [(.int (1 : Int32))])) _
          refine XS.istore X17.here hx rfl (hb hby at_64) rfl (l' := #[.val (.int x0), .val (.long x1), .second, .val (.long x2), .second, .val (.int ((x0 &&& (2147483647 : Int32)) % (3 : Int32))), .val (.ref (w 1)), .val (.int (if x2 < x1 then (0 : Int32) else 1)), .val (.int (0 : Int32)), .val (.int (1 : Int32))]) rfl ?_
          show Steps p.tables e below (T17.setTop (mkF m 66 #[.val (.int x0), .val (.long x1), .second, .val (.long x2), .second, .val (.int ((x0 &&& (2147483647 : Int32)) % (3 : Int32))), .val (.ref (w 1)), .val (.int (if x2 < x1 then (0 : Int32) else 1)), .val (.int (0 : Int32)), .val (.int (1 : Int32))] [])) _
          refine XS.goto X17.here hx rfl (pc0 := 66) (pc' := 94) rfl (hb hby at_66) (by decide) (by decide) ?_
          show Steps p.tables e below (T17.setTop (mkF m 94 #[.val (.int x0), .val (.long x1), .second, .val (.long x2), .second, .val (.int ((x0 &&& (2147483647 : Int32)) % (3 : Int32))), .val (.ref (w 1)), .val (.int (if x2 < x1 then (0 : Int32) else 1)), .val (.int (0 : Int32)), .val (.int (1 : Int32))] [])) _
          refine XS.iload X17.here hx rfl (hb hby at_94) rfl ?_
          show Steps p.tables e below (T17.setTop (mkF m 96 #[.val (.int x0), .val (.long x1), .second, .val (.long x2), .second, .val (.int ((x0 &&& (2147483647 : Int32)) % (3 : Int32))), .val (.ref (w 1)), .val (.int (if x2 < x1 then (0 : Int32) else 1)), .val (.int (0 : Int32)), .val (.int (1 : Int32))] [(.int (if x2 < x1 then (0 : Int32) else 1))])) _
          refine XS.iload X17.here hx rfl (hb hby at_96) rfl ?_
          exact kk)
        obtain ⟨fs, hr, hrun, hended, hW, hsame⟩ := X17.leave (v := some (.int (1 : Int32))) (fun h => by rw [Bd.returns] at h; cases h)
        refine ⟨_, _, pre20 _ ?_, hrun, hended, _, _, rfl, ?_, ⟨_, rfl⟩, hW, hsame.mono (by decide) (by decide)⟩
        · show Steps p.tables e below (T17.setTop (mkF m 98 #[.val (.int x0), .val (.long x1), .second, .val (.long x2), .second, .val (.int ((x0 &&& (2147483647 : Int32)) % (3 : Int32))), .val (.ref (w 1)), .val (.int (if x2 < x1 then (0 : Int32) else 1)), .val (.int (0 : Int32)), .val (.int (1 : Int32))] [(.int (1 : Int32)), (.int (if x2 < x1 then (0 : Int32) else 1))])) _
          refine XS.icmpNo X17.here hx rfl (hb hby at_98) rfl (teq (if_neg (own_lt_irrefl hc60).1)).2 ?_
          show Steps p.tables e below (T17.setTop (mkF m 101 #[.val (.int x0), .val (.long x1), .second, .val (.long x2), .second, .val (.int ((x0 &&& (2147483647 : Int32)) % (3 : Int32))), .val (.ref (w 1)), .val (.int (if x2 < x1 then (0 : Int32) else 1)), .val (.int (0 : Int32)), .val (.int (1 : Int32))] [])) _
          refine XS.iconst X17.here hx rfl (hb hby at_101) ?_
          show Steps p.tables e below (T17.setTop (mkF m 102 #[.val (.int x0), .val (.long x1), .second, .val (.long x2), .second, .val (.int ((x0 &&& (2147483647 : Int32)) % (3 : Int32))), .val (.ref (w 1)), .val (.int (if x2 < x1 then (0 : Int32) else 1)), .val (.int (0 : Int32)), .val (.int (1 : Int32))] [(.int (1 : Int32))])) _
          refine XS.goto X17.here hx rfl (pc0 := 102) (pc' := 106) rfl (hb hby at_102) (by decide) (by decide) ?_
          show Steps p.tables e below (T17.setTop (mkF m 106 #[.val (.int x0), .val (.long x1), .second, .val (.long x2), .second, .val (.int ((x0 &&& (2147483647 : Int32)) % (3 : Int32))), .val (.ref (w 1)), .val (.int (if x2 < x1 then (0 : Int32) else 1)), .val (.int (0 : Int32)), .val (.int (1 : Int32))] [(.int (1 : Int32))])) _
          exact retN X17 hx (t := .boolean) Bd.returns (by simp) (hb hby at_106) hr
        · exact ⟨rfl, N17⟩
      · have pre21 : ∀ t, Steps p.tables e below (T17.setTop (mkF m 72 #[.val (.int x0), .val (.long x1), .second, .val (.long x2), .second, .val (.int ((x0 &&& (2147483647 : Int32)) % (3 : Int32))), .val (.ref (w 1)), .val (.int (if x2 < x1 then (0 : Int32) else 1)), .val (.int (0 : Int32)), .unset] [(.int (lcmpW x2 x1))])) t → Steps p.tables e below (s₁.setTop (entryFrame m #[(.int x0), (.long x1), (.long x2)] maxLocals)) t := fun tt kk => pre19 tt (by
          show Steps p.tables e below (T17.setTop (mkF m 60 #[.val (.int x0), .val (.long x1), .second, .val (.long x2), .second, .val (.int ((x0 &&& (2147483647 : Int32)) % (3 : Int32))), .val (.ref (w 1)), .val (.int (if x2 < x1 then (0 : Int32) else 1)), .val (.int (0 : Int32)), .unset] [(.int (lcmpW x2 x1))])) _
          refine XS.ifYes X17.here hx rfl (pc0 := 60) (pc' := 69) rfl (hb hby at_60) rfl ((if0 _ _).trans (feq (mt (lw_eq _ _).mp hc60)).2) (by decide) (by decide) ?_
          show Steps p.tables e below (T17.setTop (mkF m 69 #[.val (.int x0), .val (.long x1), .second, .val (.long x2), .second, .val (.int ((x0 &&& (2147483647 : Int32)) % (3 : Int32))), .val (.ref (w 1)), .val (.int (if x2 < x1 then (0 : Int32) else 1)), .val (.int (0 : Int32)), .unset] [])) _
          refine XS.lloadN X17.here hx rfl (hb hby at_69) rfl ?_
          show Steps p.tables e below (T17.setTop (mkF m 70 #[.val (.int x0), .val (.long x1), .second, .val (.long x2), .second, .val (.int ((x0 &&& (2147483647 : Int32)) % (3 : Int32))), .val (.ref (w 1)), .val (.int (if x2 < x1 then (0 : Int32) else 1)), .val (.int (0 : Int32)), .unset] [(.long x2)])) _
          refine XS.lloadN X17.here hx rfl (hb hby at_70) rfl ?_
          show Steps p.tables e below (T17.setTop (mkF m 71 #[.val (.int x0), .val (.long x1), .second, .val (.long x2), .second, .val (.int ((x0 &&& (2147483647 : Int32)) % (3 : Int32))), .val (.ref (w 1)), .val (.int (if x2 < x1 then (0 : Int32) else 1)), .val (.int (0 : Int32)), .unset] [(.long x1), (.long x2)])) _
          refine XS.lcmp X17.here hx rfl (hb hby at_71) rfl ?_
          exact kk)
        by_cases hc72 : x2 < x1
        · have pre22 : ∀ t, Steps p.tables e below (T17.setTop (mkF m 98 #[.val (.int x0), .val (.long x1), .second, .val (.long x2), .second, .val (.int ((x0 &&& (2147483647 : Int32)) % (3 : Int32))), .val (.ref (w 1)), .val (.int (if x2 < x1 then (0 : Int32) else 1)), .val (.int (0 : Int32)), .val (.int (0 : Int32))] [(.int (0 : Int32)), (.int (if x2 < x1 then (0 : Int32) else 1))])) t → Steps p.tables e below (s₁.setTop (entryFrame m #[(.int x0), (.long x1), (.long x2)] maxLocals)) t := fun tt kk => pre21 tt (by
            show Steps p.tables e below (T17.setTop (mkF m 72 #[.val (.int x0), .val (.long x1), .second, .val (.long x2), .second, .val (.int ((x0 &&& (2147483647 : Int32)) % (3 : Int32))), .val (.ref (w 1)), .val (.int (if x2 < x1 then (0 : Int32) else 1)), .val (.int (0 : Int32)), .unset] [(.int (lcmpW x2 x1))])) _
            refine XS.ifNo X17.here hx rfl (hb hby at_72) rfl ((if0 _ _).trans (tlt ((lw_lt _ _).mpr hc72)).2.1) ?_
            show Steps p.tables e below (T17.setTop (mkF m 75 #[.val (.int x0), .val (.long x1), .second, .val (.long x2), .second, .val (.int ((x0 &&& (2147483647 : Int32)) % (3 : Int32))), .val (.ref (w 1)), .val (.int (if x2 < x1 then (0 : Int32) else 1)), .val (.int (0 : Int32)), .unset] [])) _
            refine XS.iload X17.here hx rfl (hb hby at_75) rfl ?_
            show Steps p.tables e below (T17.setTop (mkF m 77 #[.val (.int x0), .val (.long x1), .second, .val (.long x2), .second, .val (.int ((x0 &&& (2147483647 : Int32)) % (3 : Int32))), .val (.ref (w 1)), .val (.int (if x2 < x1 then (0 : Int32) else 1)), .val (.int (0 : Int32)), .unset] [(.int (0 : Int32))])) _
            refine XS.istore X17.here hx rfl (hb hby at_77) rfl (l' := #[.val (.int x0), .val (.long x1), .second, .val (.long x2), .second, .val (.int ((x0 &&& (2147483647 : Int32)) % (3 : Int32))), .val (.ref (w 1)), .val (.int (if x2 < x1 then (0 : Int32) else 1)), .val (.int (0 : Int32)), .val (.int (0 : Int32))]) rfl ?_
            show Steps p.tables e below (T17.setTop (mkF m 79 #[.val (.int x0), .val (.long x1), .second, .val (.long x2), .second, .val (.int ((x0 &&& (2147483647 : Int32)) % (3 : Int32))), .val (.ref (w 1)), .val (.int (if x2 < x1 then (0 : Int32) else 1)), .val (.int (0 : Int32)), .val (.int (0 : Int32))] [])) _
            refine XS.goto X17.here hx rfl (pc0 := 79) (pc' := 94) rfl (hb hby at_79) (by decide) (by decide) ?_
            show Steps p.tables e below (T17.setTop (mkF m 94 #[.val (.int x0), .val (.long x1), .second, .val (.long x2), .second, .val (.int ((x0 &&& (2147483647 : Int32)) % (3 : Int32))), .val (.ref (w 1)), .val (.int (if x2 < x1 then (0 : Int32) else 1)), .val (.int (0 : Int32)), .val (.int (0 : Int32))] [])) _
            refine XS.iload X17.here hx rfl (hb hby at_94) rfl ?_
            show Steps p.tables e below (T17.setTop (mkF m 96 #[.val (.int x0), .val (.long x1), .second, .val (.long x2), .second, .val (.int ((x0 &&& (2147483647 : Int32)) % (3 : Int32))), .val (.ref (w 1)), .val (.int (if x2 < x1 then (0 : Int32) else 1)), .val (.int (0 : Int32)), .val (.int (0 : Int32))] [(.int (if x2 < x1 then (0 : Int32) else 1))])) _
            refine XS.iload X17.here hx rfl (hb hby at_96) rfl ?_
            exact kk)
          obtain ⟨fs, hr, hrun, hended, hW, hsame⟩ := X17.leave (v := some (.int (1 : Int32))) (fun h => by rw [Bd.returns] at h; cases h)
          refine ⟨_, _, pre22 _ ?_, hrun, hended, _, _, rfl, ?_, ⟨_, rfl⟩, hW, hsame.mono (by decide) (by decide)⟩
          · show Steps p.tables e below (T17.setTop (mkF m 98 #[.val (.int x0), .val (.long x1), .second, .val (.long x2), .second, .val (.int ((x0 &&& (2147483647 : Int32)) % (3 : Int32))), .val (.ref (w 1)), .val (.int (if x2 < x1 then (0 : Int32) else 1)), .val (.int (0 : Int32)), .val (.int (0 : Int32))] [(.int (0 : Int32)), (.int (if x2 < x1 then (0 : Int32) else 1))])) _
            refine XS.icmpNo X17.here hx rfl (hb hby at_98) rfl (teq (if_pos hc72)).2 ?_
            show Steps p.tables e below (T17.setTop (mkF m 101 #[.val (.int x0), .val (.long x1), .second, .val (.long x2), .second, .val (.int ((x0 &&& (2147483647 : Int32)) % (3 : Int32))), .val (.ref (w 1)), .val (.int (if x2 < x1 then (0 : Int32) else 1)), .val (.int (0 : Int32)), .val (.int (0 : Int32))] [])) _
            refine XS.iconst X17.here hx rfl (hb hby at_101) ?_
            show Steps p.tables e below (T17.setTop (mkF m 102 #[.val (.int x0), .val (.long x1), .second, .val (.long x2), .second, .val (.int ((x0 &&& (2147483647 : Int32)) % (3 : Int32))), .val (.ref (w 1)), .val (.int (if x2 < x1 then (0 : Int32) else 1)), .val (.int (0 : Int32)), .val (.int (0 : Int32))] [(.int (1 : Int32))])) _
            refine XS.goto X17.here hx rfl (pc0 := 102) (pc' := 106) rfl (hb hby at_102) (by decide) (by decide) ?_
            show Steps p.tables e below (T17.setTop (mkF m 106 #[.val (.int x0), .val (.long x1), .second, .val (.long x2), .second, .val (.int ((x0 &&& (2147483647 : Int32)) % (3 : Int32))), .val (.ref (w 1)), .val (.int (if x2 < x1 then (0 : Int32) else 1)), .val (.int (0 : Int32)), .val (.int (0 : Int32))] [(.int (1 : Int32))])) _
            exact retN X17 hx (t := .boolean) Bd.returns (by simp) (hb hby at_106) hr
          · exact ⟨rfl, N17⟩
        · have pre23 : ∀ t, Steps p.tables e below (T17.setTop (mkF m 84 #[.val (.int x0), .val (.long x1), .second, .val (.long x2), .second, .val (.int ((x0 &&& (2147483647 : Int32)) % (3 : Int32))), .val (.ref (w 1)), .val (.int (if x2 < x1 then (0 : Int32) else 1)), .val (.int (0 : Int32)), .unset] [(.int (0 : Int32))])) t → Steps p.tables e below (s₁.setTop (entryFrame m #[(.int x0), (.long x1), (.long x2)] maxLocals)) t := fun tt kk => pre21 tt (by
            show Steps p.tables e below (T17.setTop (mkF m 72 #[.val (.int x0), .val (.long x1), .second, .val (.long x2), .second, .val (.int ((x0 &&& (2147483647 : Int32)) % (3 : Int32))), .val (.ref (w 1)), .val (.int (if x2 < x1 then (0 : Int32) else 1)), .val (.int (0 : Int32)), .unset] [(.int (lcmpW x2 x1))])) _
            refine XS.ifYes X17.here hx rfl (pc0 := 72) (pc' := 82) rfl (hb hby at_72) rfl ((if0 _ _).trans (flt (mt (lw_lt _ _).mp hc72)).2.1) (by decide) (by decide) ?_
            show Steps p.tables e below (T17.setTop (mkF m 82 #[.val (.int x0), .val (.long x1), .second, .val (.long x2), .second, .val (.int ((x0 &&& (2147483647 : Int32)) % (3 : Int32))), .val (.ref (w 1)), .val (.int (if x2 < x1 then (0 : Int32) else 1)), .val (.int (0 : Int32)), .unset] [])) _
            refine XS.iload X17.here hx rfl (hb hby at_82) rfl ?_
            exact kk)
          have pre24 : ∀ t, Steps p.tables e below (T17.setTop (mkF m 98 #[.val (.int x0), .val (.long x1), .second, .val (.long x2), .second, .val (.int ((x0 &&& (2147483647 : Int32)) % (3 : Int32))), .val (.ref (w 1)), .val (.int (if x2 < x1 then (0 : Int32) else 1)), .val (.int (0 : Int32)), .val (.int (1 : Int32))] [(.int (1 : Int32)), (.int (if x2 < x1 then (0 : Int32) else 1))])) t → Steps p.tables e below (s₁.setTop (entryFrame m #[(.int x0), (.long x1), (.long x2)] maxLocals)) t := fun tt kk => pre23 tt (by
            show Steps p.tables e below (T17.setTop (mkF m 84 #[.val (.int x0), .val (.long x1), .second, .val (.long x2), .second, .val (.int ((x0 &&& (2147483647 : Int32)) % (3 : Int32))), .val (.ref (w 1)), .val (.int (if x2 < x1 then (0 : Int32) else 1)), .val (.int (0 : Int32)), .unset] [(.int (0 : Int32))])) _
            refine XS.ifNo X17.here hx rfl (hb hby at_84) rfl ((if0 _ _).trans (teq (by decide : (0 : Int32) = (0 : Int32))).2) ?_
            show Steps p.tables e below (T17.setTop (mkF m 87 #[.val (.int x0), .val (.long x1), .second, .val (.long x2), .second, .val (.int ((x0 &&& (2147483647 : Int32)) % (3 : Int32))), .val (.ref (w 1)), .val (.int (if x2 < x1 then (0 : Int32) else 1)), .val (.int (0 : Int32)), .unset] [])) _
            refine XS.iconst X17.here hx rfl (hb hby at_87) ?_
            show Steps p.tables e below (T17.setTop (mkF m 88 #[.val (.int x0), .val (.long x1), .second, .val (.long x2), .second, .val (.int ((x0 &&& (2147483647 : Int32)) % (3 : Int32))), .val (.ref (w 1)), .val (.int (if x2 < x1 then (0 : Int32) else 1)), .val (.int (0 : Int32)), .unset] [(.int (1 : Int32))])) _
            refine XS.goto X17.here hx rfl (pc0 := 88) (pc' := 92) rfl (hb hby at_88) (by decide) (by decide) ?_
            show Steps p.tables e below (T17.setTop (mkF m 92 #[.val (.int x0), .val (.long x1), .second, .val (.long x2), .second, .val (.int ((x0 &&& (2147483647 : Int32)) % (3 : Int32))), .val (.ref (w 1)), .val (.int (if x2 < x1 then (0 : Int32) else 1)), .val (.int (0 : Int32)), .unset] [(.int (1 : Int32))])) _
            refine XS.istore X17.here hx rfl (hb hby at_92) rfl (l' := #[.val (.int x0), .val (.long x1), .second, .val (.long x2), .second, .val (.int ((x0 &&& (2147483647 : Int32)) % (3 : Int32))), .val (.ref (w 1)), .val (.int (if x2 < x1 then (0 : Int32) else 1)), .val (.int (0 : Int32)), .val (.int (1 : Int32))]) rfl ?_
            show Steps p.tables e below (T17.setTop (mkF m 94 #[.val (.int x0), .val (.long x1), .second, .val (.long x2), .second, .val (.int ((x0 &&& (2147483647 : Int32)) % (3 : Int32))), .val (.ref (w 1)), .val (.int (if x2 < x1 then (0 : Int32) else 1)), .val (.int (0 : Int32)), .val (.int (1 : Int32))] [])) _
            refine XS.iload X17.here hx rfl (hb hby at_94) rfl ?_
            show Steps p.tables e below (T17.setTop (mkF m 96 #[.val (.int x0), .val (.long x1), .second, .val (.long x2), .second, .val (.int ((x0 &&& (2147483647 : Int32)) % (3 : Int32))), .val (.ref (w 1)), .val (.int (if x2 < x1 then (0 : Int32) else 1)), .val (.int (0 : Int32)), .val (.int (1 : Int32))] [(.int (if x2 < x1 then (0 : Int32) else 1))])) _
            refine XS.iload X17.here hx rfl (hb hby at_96) rfl ?_
            exact kk)
          obtain ⟨fs, hr, hrun, hended, hW, hsame⟩ := X17.leave (v := some (.int (1 : Int32))) (fun h => by rw [Bd.returns] at h; cases h)
          refine ⟨_, _, pre24 _ ?_, hrun, hended, _, _, rfl, ?_, ⟨_, rfl⟩, hW, hsame.mono (by decide) (by decide)⟩
          · show Steps p.tables e below (T17.setTop (mkF m 98 #[.val (.int x0), .val (.long x1), .second, .val (.long x2), .second, .val (.int ((x0 &&& (2147483647 : Int32)) % (3 : Int32))), .val (.ref (w 1)), .val (.int (if x2 < x1 then (0 : Int32) else 1)), .val (.int (0 : Int32)), .val (.int (1 : Int32))] [(.int (1 : Int32)), (.int (if x2 < x1 then (0 : Int32) else 1))])) _
            refine XS.icmpNo X17.here hx rfl (hb hby at_98) rfl (teq (if_neg hc72)).2 ?_
            show Steps p.tables e below (T17.setTop (mkF m 101 #[.val (.int x0), .val (.long x1), .second, .val (.long x2), .second, .val (.int ((x0 &&& (2147483647 : Int32)) % (3 : Int32))), .val (.ref (w 1)), .val (.int (if x2 < x1 then (0 : Int32) else 1)), .val (.int (0 : Int32)), .val (.int (1 : Int32))] [])) _
            refine XS.iconst X17.here hx rfl (hb hby at_101) ?_
            show Steps p.tables e below (T17.setTop (mkF m 102 #[.val (.int x0), .val (.long x1), .second, .val (.long x2), .second, .val (.int ((x0 &&& (2147483647 : Int32)) % (3 : Int32))), .val (.ref (w 1)), .val (.int (if x2 < x1 then (0 : Int32) else 1)), .val (.int (0 : Int32)), .val (.int (1 : Int32))] [(.int (1 : Int32))])) _
            refine XS.goto X17.here hx rfl (pc0 := 102) (pc' := 106) rfl (hb hby at_102) (by decide) (by decide) ?_
            show Steps p.tables e below (T17.setTop (mkF m 106 #[.val (.int x0), .val (.long x1), .second, .val (.long x2), .second, .val (.int ((x0 &&& (2147483647 : Int32)) % (3 : Int32))), .val (.ref (w 1)), .val (.int (if x2 < x1 then (0 : Int32) else 1)), .val (.int (0 : Int32)), .val (.int (1 : Int32))] [(.int (1 : Int32))])) _
            exact retN X17 hx (t := .boolean) Bd.returns (by simp) (hb hby at_106) hr
          · exact ⟨rfl, N17⟩
    · obtain ⟨T25, X25, e25, st25⟩ := getS2 X0 hx hZ hown (host := "") (Or.inl (hw _ (List.mem_of_getElem? (i := 12) rfl))) Via.refl e0 ST.2.2 (g := (mkF m 31 #[.val (.int x0), .val (.long x1), .second, .val (.long x2), .second, .val (.int ((x0 &&& (2147483647 : Int32)) % (3 : Int32))), .unset, .unset, .unset, .unset] [])) rfl (hb hby at_31)
      obtain ⟨cq26, kq26, q26a, q26b, q26c⟩ := isOf hZ e25 (EX 2 (by decide))
      obtain ⟨vv26, _, ⟨T26, L26, k26, n26⟩, -, X26, ⟨Lc26, hQ26, l26, y26, z26⟩, st26⟩ := X25.virtualBack hx (y := (⟨"com/example/slidebook/slidebook/engine/Side", "accepts", "(JJ)Z"⟩ : MethodName)) (z := (⟨"com/example/slidebook/slidebook/engine/Side", "accepts", "(JJ)Z"⟩ : MethodName)) hown (mvT hZ (hw _ (List.mem_of_getElem? (i := 4) rfl))) (mvT hZ (hw _ (List.mem_of_getElem? (i := 5) rfl))) (notFace_of_selects (args := #[]) (mvT hZ (hw _ (List.mem_of_getElem? (i := 7) rfl)))) (mvT hZ (hw _ (List.mem_of_getElem? (i := 7) rfl))) (mvT hZ (hw _ (List.mem_of_getElem? (i := 6) rfl))) (by decide) (backOf (W := 0) (rm1 l Z a0 hw [] (w 2) x1 x2 w h0 n0 Z0 ST) hZ (hw _ (List.mem_of_getElem? (i := 8) rfl)) (hw _ (List.mem_of_getElem? (i := 2) rfl)) (by decide) (by decide)) q26a q26c (g := (mkF m 40 #[.val (.int x0), .val (.long x1), .second, .val (.long x2), .second, .val (.int ((x0 &&& (2147483647 : Int32)) % (3 : Int32))), .val (.ref (w 2)), .unset, .unset, .unset] [(.long x2), (.long x1), (.ref (w 2))])) rfl (by rw [hml]; rfl) (Steps.refl _) (argsL := [(.long x1), (.long x2)]) (rest := []) (lenOf own_pd_0 rfl) rfl (by show 2 * 0 + _ ≤ _; exact Nat.le_of_eq rfl) (hb hby at_40) (fun _ _ => ⟨rfl, e25, (by decide : 0 + 0 ≤ _), (by decide : 0 + 0 ≤ _)⟩)
      dsimp only [Pt.U, Pt.locs, Pt.cells, Pt.slots] at X26 l26 y26 z26 st26 hQ26
      subst l26 y26 z26
      rw [if_neg (fun q => absurd (INJ 2 0 (by decide) (by decide) q) (by decide))] at hQ26
      obtain ⟨rfl, N26q, e26⟩ := hQ26
      have N26 := Fr.app N0 N26q
      have pre27 : ∀ t, Steps p.tables e below (T26.setTop (mkF m 47 #[.val (.int x0), .val (.long x1), .second, .val (.long x2), .second, .val (.int ((x0 &&& (2147483647 : Int32)) % (3 : Int32))), .val (.ref (w 2)), .val (.int (if x2 < x1 then (0 : Int32) else 1)), .unset, .unset] [(.int ((x0 &&& (2147483647 : Int32)) % (3 : Int32)))])) t → Steps p.tables e below (s₁.setTop (entryFrame m #[(.int x0), (.long x1), (.long x2)] maxLocals)) t := fun tt kk => pre15 tt (by
        show Steps p.tables e below (s₁.setTop (mkF m 22 #[.val (.int x0), .val (.long x1), .second, .val (.long x2), .second, .val (.int ((x0 &&& (2147483647 : Int32)) % (3 : Int32))), .unset, .unset, .unset, .unset] [(.int (1 : Int32)), (.int ((x0 &&& (2147483647 : Int32)) % (3 : Int32)))])) _
        refine XS.icmpYes X0.here hx rfl (pc0 := 22) (pc' := 31) rfl (hb hby at_22) rfl (feq hc22).2 (by decide) (by decide) ?_
        show Steps p.tables e below (s₁.setTop (mkF m 31 #[.val (.int x0), .val (.long x1), .second, .val (.long x2), .second, .val (.int ((x0 &&& (2147483647 : Int32)) % (3 : Int32))), .unset, .unset, .unset, .unset] [])) _
        refine st25 _ ?_
        show Steps p.tables e below (T25.setTop (mkF m 34 #[.val (.int x0), .val (.long x1), .second, .val (.long x2), .second, .val (.int ((x0 &&& (2147483647 : Int32)) % (3 : Int32))), .unset, .unset, .unset, .unset] [(.ref (w 2))])) _
        refine XS.astore X25.here hx rfl (hb hby at_34) rfl rfl (l' := #[.val (.int x0), .val (.long x1), .second, .val (.long x2), .second, .val (.int ((x0 &&& (2147483647 : Int32)) % (3 : Int32))), .val (.ref (w 2)), .unset, .unset, .unset]) rfl ?_
        show Steps p.tables e below (T25.setTop (mkF m 36 #[.val (.int x0), .val (.long x1), .second, .val (.long x2), .second, .val (.int ((x0 &&& (2147483647 : Int32)) % (3 : Int32))), .val (.ref (w 2)), .unset, .unset, .unset] [])) _
        refine XS.aload X25.here hx rfl (hb hby at_36) rfl rfl ?_
        show Steps p.tables e below (T25.setTop (mkF m 38 #[.val (.int x0), .val (.long x1), .second, .val (.long x2), .second, .val (.int ((x0 &&& (2147483647 : Int32)) % (3 : Int32))), .val (.ref (w 2)), .unset, .unset, .unset] [(.ref (w 2))])) _
        refine XS.lloadN X25.here hx rfl (hb hby at_38) rfl ?_
        show Steps p.tables e below (T25.setTop (mkF m 39 #[.val (.int x0), .val (.long x1), .second, .val (.long x2), .second, .val (.int ((x0 &&& (2147483647 : Int32)) % (3 : Int32))), .val (.ref (w 2)), .unset, .unset, .unset] [(.long x1), (.ref (w 2))])) _
        refine XS.lloadN X25.here hx rfl (hb hby at_39) rfl ?_
        show Steps p.tables e below (T25.setTop (mkF m 40 #[.val (.int x0), .val (.long x1), .second, .val (.long x2), .second, .val (.int ((x0 &&& (2147483647 : Int32)) % (3 : Int32))), .val (.ref (w 2)), .unset, .unset, .unset] [(.long x2), (.long x1), (.ref (w 2))])) _
        refine st26.trans ?_
        show Steps p.tables e below (T26.setTop (mkF m 43 #[.val (.int x0), .val (.long x1), .second, .val (.long x2), .second, .val (.int ((x0 &&& (2147483647 : Int32)) % (3 : Int32))), .val (.ref (w 2)), .unset, .unset, .unset] [(.int (if x2 < x1 then (0 : Int32) else 1))])) _
        refine XS.istore X26.here hx rfl (hb hby at_43) rfl (l' := #[.val (.int x0), .val (.long x1), .second, .val (.long x2), .second, .val (.int ((x0 &&& (2147483647 : Int32)) % (3 : Int32))), .val (.ref (w 2)), .val (.int (if x2 < x1 then (0 : Int32) else 1)), .unset, .unset]) rfl ?_
        show Steps p.tables e below (T26.setTop (mkF m 45 #[.val (.int x0), .val (.long x1), .second, .val (.long x2), .second, .val (.int ((x0 &&& (2147483647 : Int32)) % (3 : Int32))), .val (.ref (w 2)), .val (.int (if x2 < x1 then (0 : Int32) else 1)), .unset, .unset] [])) _
        refine XS.iload X26.here hx rfl (hb hby at_45) rfl ?_
        exact kk)
      have pre28 : ∀ t, Steps p.tables e below (T26.setTop (mkF m 60 #[.val (.int x0), .val (.long x1), .second, .val (.long x2), .second, .val (.int ((x0 &&& (2147483647 : Int32)) % (3 : Int32))), .val (.ref (w 2)), .val (.int (if x2 < x1 then (0 : Int32) else 1)), .val (.int (0 : Int32)), .unset] [(.int (lcmpW x2 x1))])) t → Steps p.tables e below (s₁.setTop (entryFrame m #[(.int x0), (.long x1), (.long x2)] maxLocals)) t := fun tt kk => pre27 tt (by
        show Steps p.tables e below (T26.setTop (mkF m 47 #[.val (.int x0), .val (.long x1), .second, .val (.long x2), .second, .val (.int ((x0 &&& (2147483647 : Int32)) % (3 : Int32))), .val (.ref (w 2)), .val (.int (if x2 < x1 then (0 : Int32) else 1)), .unset, .unset] [(.int ((x0 &&& (2147483647 : Int32)) % (3 : Int32)))])) _
        refine XS.ifYes X26.here hx rfl (pc0 := 47) (pc' := 54) rfl (hb hby at_47) rfl ((if0 _ _).trans (feq (hc10)).2) (by decide) (by decide) ?_
        show Steps p.tables e below (T26.setTop (mkF m 54 #[.val (.int x0), .val (.long x1), .second, .val (.long x2), .second, .val (.int ((x0 &&& (2147483647 : Int32)) % (3 : Int32))), .val (.ref (w 2)), .val (.int (if x2 < x1 then (0 : Int32) else 1)), .unset, .unset] [])) _
        refine XS.iconst X26.here hx rfl (hb hby at_54) ?_
        show Steps p.tables e below (T26.setTop (mkF m 55 #[.val (.int x0), .val (.long x1), .second, .val (.long x2), .second, .val (.int ((x0 &&& (2147483647 : Int32)) % (3 : Int32))), .val (.ref (w 2)), .val (.int (if x2 < x1 then (0 : Int32) else 1)), .unset, .unset] [(.int (0 : Int32))])) _
        refine XS.istore X26.here hx rfl (hb hby at_55) rfl (l' := #[.val (.int x0), .val (.long x1), .second, .val (.long x2), .second, .val (.int ((x0 &&& (2147483647 : Int32)) % (3 : Int32))), .val (.ref (w 2)), .val (.int (if x2 < x1 then (0 : Int32) else 1)), .val (.int (0 : Int32)), .unset]) rfl ?_
        show Steps p.tables e below (T26.setTop (mkF m 57 #[.val (.int x0), .val (.long x1), .second, .val (.long x2), .second, .val (.int ((x0 &&& (2147483647 : Int32)) % (3 : Int32))), .val (.ref (w 2)), .val (.int (if x2 < x1 then (0 : Int32) else 1)), .val (.int (0 : Int32)), .unset] [])) _
        refine XS.lloadN X26.here hx rfl (hb hby at_57) rfl ?_
        show Steps p.tables e below (T26.setTop (mkF m 58 #[.val (.int x0), .val (.long x1), .second, .val (.long x2), .second, .val (.int ((x0 &&& (2147483647 : Int32)) % (3 : Int32))), .val (.ref (w 2)), .val (.int (if x2 < x1 then (0 : Int32) else 1)), .val (.int (0 : Int32)), .unset] [(.long x2)])) _
        refine XS.lloadN X26.here hx rfl (hb hby at_58) rfl ?_
        show Steps p.tables e below (T26.setTop (mkF m 59 #[.val (.int x0), .val (.long x1), .second, .val (.long x2), .second, .val (.int ((x0 &&& (2147483647 : Int32)) % (3 : Int32))), .val (.ref (w 2)), .val (.int (if x2 < x1 then (0 : Int32) else 1)), .val (.int (0 : Int32)), .unset] [(.long x1), (.long x2)])) _
        refine XS.lcmp X26.here hx rfl (hb hby at_59) rfl ?_
        exact kk)
      by_cases hc60 : x2 = x1
      · have pre29 : ∀ t, Steps p.tables e below (T26.setTop (mkF m 98 #[.val (.int x0), .val (.long x1), .second, .val (.long x2), .second, .val (.int ((x0 &&& (2147483647 : Int32)) % (3 : Int32))), .val (.ref (w 2)), .val (.int (if x2 < x1 then (0 : Int32) else 1)), .val (.int (0 : Int32)), .val (.int (1 : Int32))] [(.int (1 : Int32)), (.int (if x2 < x1 then (0 : Int32) else 1))])) t → Steps p.tables e below (s₁.setTop (entryFrame m #[(.int x0), (.long x1), (.long x2)] maxLocals)) t := fun tt kk => pre28 tt (by
          show Steps p.tables e below (T26.setTop (mkF m 60 #[.val (.int x0), .val (.long x1), .second, .val (.long x2), .second, .val (.int ((x0 &&& (2147483647 : Int32)) % (3 : Int32))), .val (.ref (w 2)), .val (.int (if x2 < x1 then (0 : Int32) else 1)), .val (.int (0 : Int32)), .unset] [(.int (lcmpW x2 x1))])) _
          refine XS.ifNo X26.here hx rfl (hb hby at_60) rfl ((if0 _ _).trans (teq ((lw_eq _ _).mpr hc60)).2) ?_
          show Steps p.tables e below (T26.setTop (mkF m 63 #[.val (.int x0), .val (.long x1), .second, .val (.long x2), .second, .val (.int ((x0 &&& (2147483647 : Int32)) % (3 : Int32))), .val (.ref (w 2)), .val (.int (if x2 < x1 then (0 : Int32) else 1)), .val (.int (0 : Int32)), .unset] [])) _
          refine XS.iconst X26.here hx rfl (hb hby at_63) ?_
          show Steps p.tables e below (T26.setTop (mkF m 64 #[.val (.int x0), .val (.long x1), .second, .val (.long x2), .second, .val (.int ((x0 &&& (2147483647 : Int32)) % (3 : Int32))), .val (.ref (w 2)), .val (.int (if x2 < x1 then (0 : Int32) else 1)), .val (.int (0 : Int32)), .unset] [(.int (1 : Int32))])) _
          refine XS.istore X26.here hx rfl (hb hby at_64) rfl (l' := #[.val (.int x0), .val (.long x1), .second, .val (.long x2), .second, .val (.int ((x0 &&& (2147483647 : Int32)) % (3 : Int32))), .val (.ref (w 2)), .val (.int (if x2 < x1 then (0 : Int32) else 1)), .val (.int (0 : Int32)), .val (.int (1 : Int32))]) rfl ?_
          show Steps p.tables e below (T26.setTop (mkF m 66 #[.val (.int x0), .val (.long x1), .second, .val (.long x2), .second, .val (.int ((x0 &&& (2147483647 : Int32)) % (3 : Int32))), .val (.ref (w 2)), .val (.int (if x2 < x1 then (0 : Int32) else 1)), .val (.int (0 : Int32)), .val (.int (1 : Int32))] [])) _
          refine XS.goto X26.here hx rfl (pc0 := 66) (pc' := 94) rfl (hb hby at_66) (by decide) (by decide) ?_
          show Steps p.tables e below (T26.setTop (mkF m 94 #[.val (.int x0), .val (.long x1), .second, .val (.long x2), .second, .val (.int ((x0 &&& (2147483647 : Int32)) % (3 : Int32))), .val (.ref (w 2)), .val (.int (if x2 < x1 then (0 : Int32) else 1)), .val (.int (0 : Int32)), .val (.int (1 : Int32))] [])) _
          refine XS.iload X26.here hx rfl (hb hby at_94) rfl ?_
          show Steps p.tables e below (T26.setTop (mkF m 96 #[.val (.int x0), .val (.long x1), .second, .val (.long x2), .second, .val (.int ((x0 &&& (2147483647 : Int32)) % (3 : Int32))), .val (.ref (w 2)), .val (.int (if x2 < x1 then (0 : Int32) else 1)), .val (.int (0 : Int32)), .val (.int (1 : Int32))] [(.int (if x2 < x1 then (0 : Int32) else 1))])) _
          refine XS.iload X26.here hx rfl (hb hby at_96) rfl ?_
          exact kk)
        obtain ⟨fs, hr, hrun, hended, hW, hsame⟩ := X26.leave (v := some (.int (1 : Int32))) (fun h => by rw [Bd.returns] at h; cases h)
        refine ⟨_, _, pre29 _ ?_, hrun, hended, _, _, rfl, ?_, ⟨_, rfl⟩, hW, hsame.mono (by decide) (by decide)⟩
        · show Steps p.tables e below (T26.setTop (mkF m 98 #[.val (.int x0), .val (.long x1), .second, .val (.long x2), .second, .val (.int ((x0 &&& (2147483647 : Int32)) % (3 : Int32))), .val (.ref (w 2)), .val (.int (if x2 < x1 then (0 : Int32) else 1)), .val (.int (0 : Int32)), .val (.int (1 : Int32))] [(.int (1 : Int32)), (.int (if x2 < x1 then (0 : Int32) else 1))])) _
          refine XS.icmpNo X26.here hx rfl (hb hby at_98) rfl (teq (if_neg (own_lt_irrefl hc60).1)).2 ?_
          show Steps p.tables e below (T26.setTop (mkF m 101 #[.val (.int x0), .val (.long x1), .second, .val (.long x2), .second, .val (.int ((x0 &&& (2147483647 : Int32)) % (3 : Int32))), .val (.ref (w 2)), .val (.int (if x2 < x1 then (0 : Int32) else 1)), .val (.int (0 : Int32)), .val (.int (1 : Int32))] [])) _
          refine XS.iconst X26.here hx rfl (hb hby at_101) ?_
          show Steps p.tables e below (T26.setTop (mkF m 102 #[.val (.int x0), .val (.long x1), .second, .val (.long x2), .second, .val (.int ((x0 &&& (2147483647 : Int32)) % (3 : Int32))), .val (.ref (w 2)), .val (.int (if x2 < x1 then (0 : Int32) else 1)), .val (.int (0 : Int32)), .val (.int (1 : Int32))] [(.int (1 : Int32))])) _
          refine XS.goto X26.here hx rfl (pc0 := 102) (pc' := 106) rfl (hb hby at_102) (by decide) (by decide) ?_
          show Steps p.tables e below (T26.setTop (mkF m 106 #[.val (.int x0), .val (.long x1), .second, .val (.long x2), .second, .val (.int ((x0 &&& (2147483647 : Int32)) % (3 : Int32))), .val (.ref (w 2)), .val (.int (if x2 < x1 then (0 : Int32) else 1)), .val (.int (0 : Int32)), .val (.int (1 : Int32))] [(.int (1 : Int32))])) _
          exact retN X26 hx (t := .boolean) Bd.returns (by simp) (hb hby at_106) hr
        · exact ⟨rfl, N26⟩
      · have pre30 : ∀ t, Steps p.tables e below (T26.setTop (mkF m 72 #[.val (.int x0), .val (.long x1), .second, .val (.long x2), .second, .val (.int ((x0 &&& (2147483647 : Int32)) % (3 : Int32))), .val (.ref (w 2)), .val (.int (if x2 < x1 then (0 : Int32) else 1)), .val (.int (0 : Int32)), .unset] [(.int (lcmpW x2 x1))])) t → Steps p.tables e below (s₁.setTop (entryFrame m #[(.int x0), (.long x1), (.long x2)] maxLocals)) t := fun tt kk => pre28 tt (by
          show Steps p.tables e below (T26.setTop (mkF m 60 #[.val (.int x0), .val (.long x1), .second, .val (.long x2), .second, .val (.int ((x0 &&& (2147483647 : Int32)) % (3 : Int32))), .val (.ref (w 2)), .val (.int (if x2 < x1 then (0 : Int32) else 1)), .val (.int (0 : Int32)), .unset] [(.int (lcmpW x2 x1))])) _
          refine XS.ifYes X26.here hx rfl (pc0 := 60) (pc' := 69) rfl (hb hby at_60) rfl ((if0 _ _).trans (feq (mt (lw_eq _ _).mp hc60)).2) (by decide) (by decide) ?_
          show Steps p.tables e below (T26.setTop (mkF m 69 #[.val (.int x0), .val (.long x1), .second, .val (.long x2), .second, .val (.int ((x0 &&& (2147483647 : Int32)) % (3 : Int32))), .val (.ref (w 2)), .val (.int (if x2 < x1 then (0 : Int32) else 1)), .val (.int (0 : Int32)), .unset] [])) _
          refine XS.lloadN X26.here hx rfl (hb hby at_69) rfl ?_
          show Steps p.tables e below (T26.setTop (mkF m 70 #[.val (.int x0), .val (.long x1), .second, .val (.long x2), .second, .val (.int ((x0 &&& (2147483647 : Int32)) % (3 : Int32))), .val (.ref (w 2)), .val (.int (if x2 < x1 then (0 : Int32) else 1)), .val (.int (0 : Int32)), .unset] [(.long x2)])) _
          refine XS.lloadN X26.here hx rfl (hb hby at_70) rfl ?_
          show Steps p.tables e below (T26.setTop (mkF m 71 #[.val (.int x0), .val (.long x1), .second, .val (.long x2), .second, .val (.int ((x0 &&& (2147483647 : Int32)) % (3 : Int32))), .val (.ref (w 2)), .val (.int (if x2 < x1 then (0 : Int32) else 1)), .val (.int (0 : Int32)), .unset] [(.long x1), (.long x2)])) _
          refine XS.lcmp X26.here hx rfl (hb hby at_71) rfl ?_
          exact kk)
        by_cases hc72 : x2 < x1
        · have pre31 : ∀ t, Steps p.tables e below (T26.setTop (mkF m 98 #[.val (.int x0), .val (.long x1), .second, .val (.long x2), .second, .val (.int ((x0 &&& (2147483647 : Int32)) % (3 : Int32))), .val (.ref (w 2)), .val (.int (if x2 < x1 then (0 : Int32) else 1)), .val (.int (0 : Int32)), .val (.int (0 : Int32))] [(.int (0 : Int32)), (.int (if x2 < x1 then (0 : Int32) else 1))])) t → Steps p.tables e below (s₁.setTop (entryFrame m #[(.int x0), (.long x1), (.long x2)] maxLocals)) t := fun tt kk => pre30 tt (by
            show Steps p.tables e below (T26.setTop (mkF m 72 #[.val (.int x0), .val (.long x1), .second, .val (.long x2), .second, .val (.int ((x0 &&& (2147483647 : Int32)) % (3 : Int32))), .val (.ref (w 2)), .val (.int (if x2 < x1 then (0 : Int32) else 1)), .val (.int (0 : Int32)), .unset] [(.int (lcmpW x2 x1))])) _
            refine XS.ifNo X26.here hx rfl (hb hby at_72) rfl ((if0 _ _).trans (tlt ((lw_lt _ _).mpr hc72)).2.1) ?_
            show Steps p.tables e below (T26.setTop (mkF m 75 #[.val (.int x0), .val (.long x1), .second, .val (.long x2), .second, .val (.int ((x0 &&& (2147483647 : Int32)) % (3 : Int32))), .val (.ref (w 2)), .val (.int (if x2 < x1 then (0 : Int32) else 1)), .val (.int (0 : Int32)), .unset] [])) _
            refine XS.iload X26.here hx rfl (hb hby at_75) rfl ?_
            show Steps p.tables e below (T26.setTop (mkF m 77 #[.val (.int x0), .val (.long x1), .second, .val (.long x2), .second, .val (.int ((x0 &&& (2147483647 : Int32)) % (3 : Int32))), .val (.ref (w 2)), .val (.int (if x2 < x1 then (0 : Int32) else 1)), .val (.int (0 : Int32)), .unset] [(.int (0 : Int32))])) _
            refine XS.istore X26.here hx rfl (hb hby at_77) rfl (l' := #[.val (.int x0), .val (.long x1), .second, .val (.long x2), .second, .val (.int ((x0 &&& (2147483647 : Int32)) % (3 : Int32))), .val (.ref (w 2)), .val (.int (if x2 < x1 then (0 : Int32) else 1)), .val (.int (0 : Int32)), .val (.int (0 : Int32))]) rfl ?_
            show Steps p.tables e below (T26.setTop (mkF m 79 #[.val (.int x0), .val (.long x1), .second, .val (.long x2), .second, .val (.int ((x0 &&& (2147483647 : Int32)) % (3 : Int32))), .val (.ref (w 2)), .val (.int (if x2 < x1 then (0 : Int32) else 1)), .val (.int (0 : Int32)), .val (.int (0 : Int32))] [])) _
            refine XS.goto X26.here hx rfl (pc0 := 79) (pc' := 94) rfl (hb hby at_79) (by decide) (by decide) ?_
            show Steps p.tables e below (T26.setTop (mkF m 94 #[.val (.int x0), .val (.long x1), .second, .val (.long x2), .second, .val (.int ((x0 &&& (2147483647 : Int32)) % (3 : Int32))), .val (.ref (w 2)), .val (.int (if x2 < x1 then (0 : Int32) else 1)), .val (.int (0 : Int32)), .val (.int (0 : Int32))] [])) _
            refine XS.iload X26.here hx rfl (hb hby at_94) rfl ?_
            show Steps p.tables e below (T26.setTop (mkF m 96 #[.val (.int x0), .val (.long x1), .second, .val (.long x2), .second, .val (.int ((x0 &&& (2147483647 : Int32)) % (3 : Int32))), .val (.ref (w 2)), .val (.int (if x2 < x1 then (0 : Int32) else 1)), .val (.int (0 : Int32)), .val (.int (0 : Int32))] [(.int (if x2 < x1 then (0 : Int32) else 1))])) _
            refine XS.iload X26.here hx rfl (hb hby at_96) rfl ?_
            exact kk)
          obtain ⟨fs, hr, hrun, hended, hW, hsame⟩ := X26.leave (v := some (.int (1 : Int32))) (fun h => by rw [Bd.returns] at h; cases h)
          refine ⟨_, _, pre31 _ ?_, hrun, hended, _, _, rfl, ?_, ⟨_, rfl⟩, hW, hsame.mono (by decide) (by decide)⟩
          · show Steps p.tables e below (T26.setTop (mkF m 98 #[.val (.int x0), .val (.long x1), .second, .val (.long x2), .second, .val (.int ((x0 &&& (2147483647 : Int32)) % (3 : Int32))), .val (.ref (w 2)), .val (.int (if x2 < x1 then (0 : Int32) else 1)), .val (.int (0 : Int32)), .val (.int (0 : Int32))] [(.int (0 : Int32)), (.int (if x2 < x1 then (0 : Int32) else 1))])) _
            refine XS.icmpNo X26.here hx rfl (hb hby at_98) rfl (teq (if_pos hc72)).2 ?_
            show Steps p.tables e below (T26.setTop (mkF m 101 #[.val (.int x0), .val (.long x1), .second, .val (.long x2), .second, .val (.int ((x0 &&& (2147483647 : Int32)) % (3 : Int32))), .val (.ref (w 2)), .val (.int (if x2 < x1 then (0 : Int32) else 1)), .val (.int (0 : Int32)), .val (.int (0 : Int32))] [])) _
            refine XS.iconst X26.here hx rfl (hb hby at_101) ?_
            show Steps p.tables e below (T26.setTop (mkF m 102 #[.val (.int x0), .val (.long x1), .second, .val (.long x2), .second, .val (.int ((x0 &&& (2147483647 : Int32)) % (3 : Int32))), .val (.ref (w 2)), .val (.int (if x2 < x1 then (0 : Int32) else 1)), .val (.int (0 : Int32)), .val (.int (0 : Int32))] [(.int (1 : Int32))])) _
            refine XS.goto X26.here hx rfl (pc0 := 102) (pc' := 106) rfl (hb hby at_102) (by decide) (by decide) ?_
            show Steps p.tables e below (T26.setTop (mkF m 106 #[.val (.int x0), .val (.long x1), .second, .val (.long x2), .second, .val (.int ((x0 &&& (2147483647 : Int32)) % (3 : Int32))), .val (.ref (w 2)), .val (.int (if x2 < x1 then (0 : Int32) else 1)), .val (.int (0 : Int32)), .val (.int (0 : Int32))] [(.int (1 : Int32))])) _
            exact retN X26 hx (t := .boolean) Bd.returns (by simp) (hb hby at_106) hr
          · exact ⟨rfl, N26⟩
        · have pre32 : ∀ t, Steps p.tables e below (T26.setTop (mkF m 84 #[.val (.int x0), .val (.long x1), .second, .val (.long x2), .second, .val (.int ((x0 &&& (2147483647 : Int32)) % (3 : Int32))), .val (.ref (w 2)), .val (.int (if x2 < x1 then (0 : Int32) else 1)), .val (.int (0 : Int32)), .unset] [(.int (0 : Int32))])) t → Steps p.tables e below (s₁.setTop (entryFrame m #[(.int x0), (.long x1), (.long x2)] maxLocals)) t := fun tt kk => pre30 tt (by
            show Steps p.tables e below (T26.setTop (mkF m 72 #[.val (.int x0), .val (.long x1), .second, .val (.long x2), .second, .val (.int ((x0 &&& (2147483647 : Int32)) % (3 : Int32))), .val (.ref (w 2)), .val (.int (if x2 < x1 then (0 : Int32) else 1)), .val (.int (0 : Int32)), .unset] [(.int (lcmpW x2 x1))])) _
            refine XS.ifYes X26.here hx rfl (pc0 := 72) (pc' := 82) rfl (hb hby at_72) rfl ((if0 _ _).trans (flt (mt (lw_lt _ _).mp hc72)).2.1) (by decide) (by decide) ?_
            show Steps p.tables e below (T26.setTop (mkF m 82 #[.val (.int x0), .val (.long x1), .second, .val (.long x2), .second, .val (.int ((x0 &&& (2147483647 : Int32)) % (3 : Int32))), .val (.ref (w 2)), .val (.int (if x2 < x1 then (0 : Int32) else 1)), .val (.int (0 : Int32)), .unset] [])) _
            refine XS.iload X26.here hx rfl (hb hby at_82) rfl ?_
            exact kk)
          have pre33 : ∀ t, Steps p.tables e below (T26.setTop (mkF m 98 #[.val (.int x0), .val (.long x1), .second, .val (.long x2), .second, .val (.int ((x0 &&& (2147483647 : Int32)) % (3 : Int32))), .val (.ref (w 2)), .val (.int (if x2 < x1 then (0 : Int32) else 1)), .val (.int (0 : Int32)), .val (.int (1 : Int32))] [(.int (1 : Int32)), (.int (if x2 < x1 then (0 : Int32) else 1))])) t → Steps p.tables e below (s₁.setTop (entryFrame m #[(.int x0), (.long x1), (.long x2)] maxLocals)) t := fun tt kk => pre32 tt (by
            show Steps p.tables e below (T26.setTop (mkF m 84 #[.val (.int x0), .val (.long x1), .second, .val (.long x2), .second, .val (.int ((x0 &&& (2147483647 : Int32)) % (3 : Int32))), .val (.ref (w 2)), .val (.int (if x2 < x1 then (0 : Int32) else 1)), .val (.int (0 : Int32)), .unset] [(.int (0 : Int32))])) _
            refine XS.ifNo X26.here hx rfl (hb hby at_84) rfl ((if0 _ _).trans (teq (by decide : (0 : Int32) = (0 : Int32))).2) ?_
            show Steps p.tables e below (T26.setTop (mkF m 87 #[.val (.int x0), .val (.long x1), .second, .val (.long x2), .second, .val (.int ((x0 &&& (2147483647 : Int32)) % (3 : Int32))), .val (.ref (w 2)), .val (.int (if x2 < x1 then (0 : Int32) else 1)), .val (.int (0 : Int32)), .unset] [])) _
            refine XS.iconst X26.here hx rfl (hb hby at_87) ?_
            show Steps p.tables e below (T26.setTop (mkF m 88 #[.val (.int x0), .val (.long x1), .second, .val (.long x2), .second, .val (.int ((x0 &&& (2147483647 : Int32)) % (3 : Int32))), .val (.ref (w 2)), .val (.int (if x2 < x1 then (0 : Int32) else 1)), .val (.int (0 : Int32)), .unset] [(.int (1 : Int32))])) _
            refine XS.goto X26.here hx rfl (pc0 := 88) (pc' := 92) rfl (hb hby at_88) (by decide) (by decide) ?_
            show Steps p.tables e below (T26.setTop (mkF m 92 #[.val (.int x0), .val (.long x1), .second, .val (.long x2), .second, .val (.int ((x0 &&& (2147483647 : Int32)) % (3 : Int32))), .val (.ref (w 2)), .val (.int (if x2 < x1 then (0 : Int32) else 1)), .val (.int (0 : Int32)), .unset] [(.int (1 : Int32))])) _
            refine XS.istore X26.here hx rfl (hb hby at_92) rfl (l' := #[.val (.int x0), .val (.long x1), .second, .val (.long x2), .second, .val (.int ((x0 &&& (2147483647 : Int32)) % (3 : Int32))), .val (.ref (w 2)), .val (.int (if x2 < x1 then (0 : Int32) else 1)), .val (.int (0 : Int32)), .val (.int (1 : Int32))]) rfl ?_
            show Steps p.tables e below (T26.setTop (mkF m 94 #[.val (.int x0), .val (.long x1), .second, .val (.long x2), .second, .val (.int ((x0 &&& (2147483647 : Int32)) % (3 : Int32))), .val (.ref (w 2)), .val (.int (if x2 < x1 then (0 : Int32) else 1)), .val (.int (0 : Int32)), .val (.int (1 : Int32))] [])) _
            refine XS.iload X26.here hx rfl (hb hby at_94) rfl ?_
            show Steps p.tables e below (T26.setTop (mkF m 96 #[.val (.int x0), .val (.long x1), .second, .val (.long x2), .second, .val (.int ((x0 &&& (2147483647 : Int32)) % (3 : Int32))), .val (.ref (w 2)), .val (.int (if x2 < x1 then (0 : Int32) else 1)), .val (.int (0 : Int32)), .val (.int (1 : Int32))] [(.int (if x2 < x1 then (0 : Int32) else 1))])) _
            refine XS.iload X26.here hx rfl (hb hby at_96) rfl ?_
            exact kk)
          obtain ⟨fs, hr, hrun, hended, hW, hsame⟩ := X26.leave (v := some (.int (1 : Int32))) (fun h => by rw [Bd.returns] at h; cases h)
          refine ⟨_, _, pre33 _ ?_, hrun, hended, _, _, rfl, ?_, ⟨_, rfl⟩, hW, hsame.mono (by decide) (by decide)⟩
          · show Steps p.tables e below (T26.setTop (mkF m 98 #[.val (.int x0), .val (.long x1), .second, .val (.long x2), .second, .val (.int ((x0 &&& (2147483647 : Int32)) % (3 : Int32))), .val (.ref (w 2)), .val (.int (if x2 < x1 then (0 : Int32) else 1)), .val (.int (0 : Int32)), .val (.int (1 : Int32))] [(.int (1 : Int32)), (.int (if x2 < x1 then (0 : Int32) else 1))])) _
            refine XS.icmpNo X26.here hx rfl (hb hby at_98) rfl (teq (if_neg hc72)).2 ?_
            show Steps p.tables e below (T26.setTop (mkF m 101 #[.val (.int x0), .val (.long x1), .second, .val (.long x2), .second, .val (.int ((x0 &&& (2147483647 : Int32)) % (3 : Int32))), .val (.ref (w 2)), .val (.int (if x2 < x1 then (0 : Int32) else 1)), .val (.int (0 : Int32)), .val (.int (1 : Int32))] [])) _
            refine XS.iconst X26.here hx rfl (hb hby at_101) ?_
            show Steps p.tables e below (T26.setTop (mkF m 102 #[.val (.int x0), .val (.long x1), .second, .val (.long x2), .second, .val (.int ((x0 &&& (2147483647 : Int32)) % (3 : Int32))), .val (.ref (w 2)), .val (.int (if x2 < x1 then (0 : Int32) else 1)), .val (.int (0 : Int32)), .val (.int (1 : Int32))] [(.int (1 : Int32))])) _
            refine XS.goto X26.here hx rfl (pc0 := 102) (pc' := 106) rfl (hb hby at_102) (by decide) (by decide) ?_
            show Steps p.tables e below (T26.setTop (mkF m 106 #[.val (.int x0), .val (.long x1), .second, .val (.long x2), .second, .val (.int ((x0 &&& (2147483647 : Int32)) % (3 : Int32))), .val (.ref (w 2)), .val (.int (if x2 < x1 then (0 : Int32) else 1)), .val (.int (0 : Int32)), .val (.int (1 : Int32))] [(.int (1 : Int32))])) _
            exact retN X26 hx (t := .boolean) Bd.returns (by simp) (hb hby at_106) hr
          · exact ⟨rfl, N26⟩
set_option maxRecDepth 65536 in
set_option maxHeartbeats 40000000 in
theorem comes_1 {Post : Tables → Env → Array Value → State → Outcome → State → Prop} (hpost : ∀ tb e args s v u, (limb_1_1.after args s (.returned v) u = true ∧ limb_1_2.after args s (.returned v) u = true ∧ True) → FrameEnd s (.returned v) u (Jvm.fieldLocs frame_1_writes args s ++ Jvm.arrayLocs frame_1_arrays args s ++ Jvm.staticLocs frame_1_statics s) 0 0 → Post tb e args s (.returned v) u) :
    ArmFor flags0 classFile x code maxLocals ret World_1 tables_1 room_1 Calls_1 rest_1 Pre_1 Post := by
  intro l hfl _ _ p e ha hc hk s m args below hf hA hF happ hP
  obtain ⟨hcalls, hrest, hpre⟩ := hP
  obtain ⟨-, -, -, hnamed, -, -, -, hat⟩ := (Spec.applies_iff hf).mp happ
  obtain ⟨hg, hn⟩ := and_e (Cond.before_iff.mp (show (Jvm.Cond.and given_1 narrow_1).before args s = true from hpre))
  obtain ⟨g0, g0r⟩ := and_e hg
  obtain ⟨g1, g1r⟩ := and_e g0r
  obtain ⟨g2, g2r⟩ := and_e g1r
  obtain ⟨w0_, w1_, w2_, rfl⟩ : ∃ w0_ w1_ w2_ : Value, args = #[w0_, w1_, w2_] := by
    have hs : args.size = 3 := by simpa [Cond.value, given_1] using g0
    obtain ⟨L⟩ := args
    match L, hs with
    | [w0_, w1_, w2_], _ => exact ⟨w0_, w1_, w2_, rfl⟩
  have hw := fun d (hd : d ∈ tables_1) => atoms_spec (ws := Jvm.Cond.code x code maxLocals ret :: tables_1) hat d (List.mem_cons_of_mem _ hd)
  have hfit : Fit s := fun {y c} hc i hi => by
    obtain ⟨ha, rfl⟩ := Array.getElem?_eq_some_iff.mp hc
    have q := List.all_eq_true.mp ((Array.all_eq_true_iff_forall_mem.mp hF) _ (Array.getElem_mem ha)) i (List.mem_range.mpr hi)
    simpa [Array.getElem?_eq_getElem hi] using q
  obtain ⟨i0, ei0⟩ := is_v g1
  obtain rfl : w0_ = (.int i0) := Option.some.inj ei0
  obtain ⟨i1, ei1⟩ := isL_v g2
  obtain rfl : w1_ = (.long i1) := Option.some.inj ei1
  obtain ⟨i2, ei2⟩ := isL_v g2r
  obtain rfl : w2_ = (.long i2) := Option.some.inj ei2
  obtain ⟨n0, n0r⟩ := and_e hn
  obtain ⟨n1, n1r⟩ := and_e n0r
  obtain ⟨n2, n2r⟩ := and_e n1r
  obtain ⟨n3, n3r⟩ := and_e n2r
  obtain ⟨n4, n4r⟩ := and_e n3r
  obtain ⟨v0, ev0⟩ := exa_v n0
  have S0 : Sta s s.heap "com/example/slidebook/slidebook/engine/Side" "BUY" "Lcom/example/slidebook/slidebook/engine/Side;" (.ref v0) := Sta.start ev0 (Or.inr ⟨(hw _ (List.mem_of_getElem? (i := 2) rfl)), (hw _ (List.mem_of_getElem? (i := 3) rfl))⟩)
  have E0 : Exa s s.heap v0 "com/example/slidebook/slidebook/engine/Side" := Exa.start ev0 n0
  obtain ⟨v1, ev1⟩ := exa_v n1
  have S1 : Sta s s.heap "com/example/slidebook/slidebook/engine/Side" "SELL" "Lcom/example/slidebook/slidebook/engine/Side;" (.ref v1) := Sta.start ev1 (Or.inr ⟨(hw _ (List.mem_of_getElem? (i := 2) rfl)), (hw _ (List.mem_of_getElem? (i := 11) rfl))⟩)
  have E1 : Exa s s.heap v1 "com/example/slidebook/slidebook/engine/Side" := Exa.start ev1 n1
  obtain ⟨v2, ev2⟩ := exa_v n4
  have S2 : Sta s s.heap "com/example/slidebook/slidebook/engine/Side" "SHORT" "Lcom/example/slidebook/slidebook/engine/Side;" (.ref v2) := Sta.start ev2 (Or.inr ⟨(hw _ (List.mem_of_getElem? (i := 2) rfl)), (hw _ (List.mem_of_getElem? (i := 13) rfl))⟩)
  have E2 : Exa s s.heap v2 "com/example/slidebook/slidebook/engine/Side" := Exa.start ev2 n4
  have F0 := own_fld ev0 n3
  have F1 := own_fld ev1 n2
  have F2 := own_fld ev2 n4r
  obtain ⟨n, o, h1, h2, h3, _, L, rfl, ⟨rfl, N⟩, hq⟩ := rm0 l s _ hw tables_1 i0 i1 i2 (fun i => [v0, v1, v2].getD i 0) s.heap s.heap.size (Nat.le_refl _) ⟨S0, S1, S2⟩ (fun i hi => match i, hi with | 0, _ => E0 | 1, _ => E1 | 2, _ => E2 | i + 3, hi => absurd hi (by omega)) (own_inj (n := 3) (by decide) (fun i hi => match i, hi with | 0, _ => F0 | 1, _ => F1 | 2, _ => F2 | i + 3, hi => absurd hi (by omega))) p e ha hc hk s m _ below hf ((Spec.applies_iff_loose hf).mp happ).1 ⟨rfl, State.Warmed39.refl s, rfl⟩ trivial
  refine ⟨n, _, h1, h2, h3, hpost _ _ _ _ _ _ ⟨Cond.after_iff.mpr rfl, Cond.after_iff.mpr (eq_i res_at (Term.int_eval (1)) rfl), trivial⟩ ⟨hq.1, hq.2.1, (hq.2.2.sift fun y hy => Or.inr (N y hy)).mono (by decide) (by decide)⟩⟩
theorem main_1_1 : Claimed_1_1 := comes_1 fun _ _ _ _ _ _ h hF => ⟨h.1, hF⟩
theorem main_1_2 : Claimed_1_2 := comes_1 fun _ _ _ _ _ _ h hF => ⟨h.2.1, hF⟩
end Jvm.Pilot.@@N@@
namespace Jvm.Pilot.@@N@@
open Jvm Jvm.ClassFile Sem Op Lib Jvm.Free Jvm.Stand Jvm.Pilot.@@N@@.Jvm.D
/-! MADE BY PROGRAM (witnessworld.py) out of the Statement's table words and the real class files: 12 classes; the members and pool entries that the words name. The judged class is class 1, her method 1. -/
namespace start1
open Jvm.ClassFile
def u (s : String) : CpInfo := .utf8 (stringToUtf16 s)
/-- a pool by its gaps: so many unusable entries, then the entry; so many at the end -/
def gap : Nat → List CpInfo → List CpInfo
  | 0, r => r
  | n + 1, r => .unusable :: gap n r
def poolList (es : List (Nat × CpInfo)) (last : Nat) : List CpInfo := es.foldr (fun e r => gap e.1 (e.2 :: r)) (gap last [])
def pool (es : List (Nat × CpInfo)) (last : Nat) : Array CpInfo := ⟨poolList es last⟩
def fileOf (pool : Array CpInfo) (this : Nat) (attrs : Array Attribute := #[]) (ms : Array MethodInfo := #[]) (fl : Nat := 33) (sup : Nat := 0) (ifs : Array Nat := #[]) (fds : Array FieldInfo := #[]) : ClassFile where
  minorVersion := 0
  majorVersion := 65
  constantPool := pool
  accessFlags := fl
  thisClass := this
  superClass := sup
  interfaces := ifs
  fields := fds
  methods := ms
  attributes := attrs
def plain (name : String) (sup : Option ClassId) : Class where
  name := name
  kind := .ordinary
  loader := none
  accessFlags := 33
  super := sup
  interfaces := #[]
  cf := none
  fields := #[]
  methods := #[]
  instanceTypes := #[]
  staticTypes := #[]
  resolved := #[]
  callSites := []
  init := .initialized
  statics := none
  mirror := none

def pool0 : Array CpInfo := pool [(5, u "<init>"), (0, u "()V"), (1, .class_ 10), (1, u "java/lang/Object")] 113

def k0m0 : Method := { name := "<init>", desc := "()V", sig := { parameters := [], returnType := none }, accessFlags := 1, code := none }
/-- java/lang/Object -/
def k0 : Class := { plain "java/lang/Object" none with
  accessFlags := 33
  interfaces := #[]
  cf := some (fileOf pool0 8 #[] #[{ accessFlags := 1, nameIndex := 5, descriptorIndex := 6, attributes := #[] }] 33 0 #[] #[])
  fields := #[]
  methods := #[k0m0]
  instanceTypes := #[]
  staticTypes := #[]
  resolved := Array.replicate 124 none
  statics := none }

def pool1 : Array CpInfo := pool [(2, .class_ 4), (1, u "java/lang/Object"), (0, u "<init>"), (0, u "()V"), (0, .integer 2147483647), (0, .fieldref 9 10), (0, .class_ 11), (0, .nameAndType 12 13), (0, u "com/example/slidebook/slidebook/engine/Side"), (0, u "BUY"), (0, u "Lcom/example/slidebook/slidebook/engine/Side;"), (0, .fieldref 9 15), (0, .nameAndType 16 13), (0, u "SELL"), (0, .fieldref 9 18), (0, .nameAndType 19 13), (0, u "SHORT"), (0, .methodref 9 21), (0, .nameAndType 22 23), (0, u "accepts"), (0, u "(JJ)Z"), (0, .class_ 25), (0, u "com/example/slidebook/slidebook/engine/SideAcceptsPinLaw"), (2, u "law"), (0, u "(IJJ)Z")] 3

def k1m0 : Method := { name := "<init>", desc := "()V", sig := { parameters := [], returnType := none }, accessFlags := 1, code := none }
def k1c1 : Code := { maxStack := 5, maxLocals := 10, code := code, exceptionTable := #[], attributes := #[] }
def k1m1 : Method := { name := "law", desc := "(IJJ)Z", sig := { parameters := [.int, .long, .long], returnType := some .boolean }, accessFlags := 9, code := some k1c1 }
/-- com/example/slidebook/slidebook/engine/SideAcceptsPinLaw -/
def k1 : Class := { plain "com/example/slidebook/slidebook/engine/SideAcceptsPinLaw" (some 0) with
  accessFlags := 49
  interfaces := #[]
  cf := some (fileOf pool1 24 #[] #[{ accessFlags := 1, nameIndex := 5, descriptorIndex := 6, attributes := #[] }, { accessFlags := 9, nameIndex := 28, descriptorIndex := 29, attributes := #[] }] 49 2 #[] #[])
  fields := #[]
  methods := #[k1m0, k1m1]
  instanceTypes := #[]
  staticTypes := #[]
  resolved := Array.replicate 33 none
  statics := none }

def pool2 : Array CpInfo := pool [(1, .class_ 2), (0, u "java/lang/constant/Constable"), (0, .class_ 4), (0, u "java/lang/Object")] 6

/-- java/lang/constant/Constable -/
def k2 : Class := { plain "java/lang/constant/Constable" (some 0) with
  accessFlags := 1537
  interfaces := #[]
  cf := some (fileOf pool2 1 #[] #[] 1537 3 #[] #[])
  fields := #[]
  methods := #[]
  instanceTypes := #[]
  staticTypes := #[]
  resolved := Array.replicate 11 none
  statics := none }

def pool3 : Array CpInfo := pool [(1, .class_ 2), (0, u "java/lang/Comparable"), (0, .class_ 4), (0, u "java/lang/Object")] 7

/-- java/lang/Comparable -/
def k3 : Class := { plain "java/lang/Comparable" (some 0) with
  accessFlags := 1537
  interfaces := #[]
  cf := some (fileOf pool3 1 #[] #[] 1537 3 #[] #[])
  fields := #[]
  methods := #[]
  instanceTypes := #[]
  staticTypes := #[]
  resolved := Array.replicate 12 none
  statics := none }

def pool4 : Array CpInfo := pool [(1, .class_ 2), (0, u "java/io/Serializable"), (0, .class_ 4), (0, u "java/lang/Object")] 2

/-- java/io/Serializable -/
def k4 : Class := { plain "java/io/Serializable" (some 0) with
  accessFlags := 1537
  interfaces := #[]
  cf := some (fileOf pool4 1 #[] #[] 1537 3 #[] #[])
  fields := #[]
  methods := #[]
  instanceTypes := #[]
  staticTypes := #[]
  resolved := Array.replicate 7 none
  statics := none }

def pool5 : Array CpInfo := pool [(2, .class_ 4), (1, u "java/lang/Enum"), (0, u "name"), (0, u "Ljava/lang/String;"), (2, u "ordinal"), (0, u "I"), (1, .class_ 14), (1, u "java/lang/Object"), (4, u "hash"), (86, .class_ 108), (1, u "java/lang/Enum$EnumDesc"), (2, .class_ 112), (0, u "java/lang/constant/Constable"), (0, .class_ 114), (0, u "java/lang/Comparable"), (0, .class_ 116), (0, u "java/io/Serializable")] 87

/-- java/lang/Enum -/
def k5 : Class := { plain "java/lang/Enum" (some 0) with
  accessFlags := 1057
  interfaces := #[2, 3, 4]
  cf := some (fileOf pool5 2 #[.nestMembers #[106]] #[] 1057 12 #[111, 113, 115] #[{ accessFlags := 18, nameIndex := 5, descriptorIndex := 6, attributes := #[] }, { accessFlags := 18, nameIndex := 9, descriptorIndex := 10, attributes := #[] }, { accessFlags := 2, nameIndex := 19, descriptorIndex := 10, attributes := #[] }])
  fields := #[{ name := "name", type := (.object "java/lang/String"), accessFlags := 18, slot := 0, constantValue := 0 }, { name := "ordinal", type := .int, accessFlags := 18, slot := 1, constantValue := 0 }, { name := "hash", type := .int, accessFlags := 2, slot := 2, constantValue := 0 }]
  methods := #[]
  instanceTypes := #[(.object "java/lang/String"), .int, .int]
  staticTypes := #[]
  resolved := Array.replicate 204 none
  statics := none }

def pool6 : Array CpInfo := pool [(1, .class_ 2), (0, u "com/example/slidebook/slidebook/engine/Side"), (0, .fieldref 1 4), (0, .nameAndType 5 6), (0, u "BUY"), (0, u "Lcom/example/slidebook/slidebook/engine/Side;"), (2, u "SELL"), (2, u "SHORT"), (2, u "$VALUES"), (0, u "[Lcom/example/slidebook/slidebook/engine/Side;"), (6, .class_ 25), (1, u "java/lang/Enum"), (8, u "text"), (0, u "Ljava/lang/String;"), (35, u "accepts"), (0, u "(JJ)Z")] 7

def k6c0 : Code := { maxStack := 4, maxLocals := 5, code := prog_31_method_7_code, exceptionTable := #[], attributes := #[] }
def k6m0 : Method := { name := "accepts", desc := "(JJ)Z", sig := { parameters := [.long, .long], returnType := some .boolean }, accessFlags := 0, code := some k6c0 }
/-- com/example/slidebook/slidebook/engine/Side -/
def k6 : Class := { plain "com/example/slidebook/slidebook/engine/Side" (some 5) with
  accessFlags := 16433
  interfaces := #[]
  cf := some (fileOf pool6 1 #[] #[{ accessFlags := 0, nameIndex := 71, descriptorIndex := 72, attributes := #[] }] 16433 23 #[] #[{ accessFlags := 16409, nameIndex := 5, descriptorIndex := 6, attributes := #[] }, { accessFlags := 16409, nameIndex := 9, descriptorIndex := 6, attributes := #[] }, { accessFlags := 16409, nameIndex := 12, descriptorIndex := 6, attributes := #[] }, { accessFlags := 18, nameIndex := 34, descriptorIndex := 35, attributes := #[] }, { accessFlags := 4122, nameIndex := 15, descriptorIndex := 16, attributes := #[] }])
  fields := #[{ name := "BUY", type := (.object "com/example/slidebook/slidebook/engine/Side"), accessFlags := 16409, slot := 0, constantValue := 0 }, { name := "SELL", type := (.object "com/example/slidebook/slidebook/engine/Side"), accessFlags := 16409, slot := 1, constantValue := 0 }, { name := "SHORT", type := (.object "com/example/slidebook/slidebook/engine/Side"), accessFlags := 16409, slot := 2, constantValue := 0 }, { name := "text", type := (.object "java/lang/String"), accessFlags := 18, slot := 3, constantValue := 0 }, { name := "$VALUES", type := (.array (.object "com/example/slidebook/slidebook/engine/Side")), accessFlags := 4122, slot := 3, constantValue := 0 }]
  methods := #[k6m0]
  instanceTypes := #[(.object "java/lang/String"), .int, .int, (.object "java/lang/String")]
  staticTypes := #[(.object "com/example/slidebook/slidebook/engine/Side"), (.object "com/example/slidebook/slidebook/engine/Side"), (.object "com/example/slidebook/slidebook/engine/Side"), (.array (.object "com/example/slidebook/slidebook/engine/Side"))]
  resolved := Array.replicate 80 none
  statics := some 0 }

def pool7 : Array CpInfo := pool [(1, u "java/lang/Cloneable"), (0, .class_ 1), (0, u "java/lang/Object"), (0, .class_ 3)] 3

/-- java/lang/Cloneable -/
def k7 : Class := { plain "java/lang/Cloneable" (some 0) with
  accessFlags := 1537
  interfaces := #[]
  cf := some (fileOf pool7 2 #[] #[] 1537 4 #[] #[])
  fields := #[]
  methods := #[]
  instanceTypes := #[]
  staticTypes := #[]
  resolved := Array.replicate 8 none
  statics := none }

/-- the primitive byte -/
def k8 : Class := { plain "byte" none with kind := .primitive 'B', accessFlags := 0x411 }
/-- [B -/
def k9 : Class := { plain "[B" (some 0) with kind := .array 8 .byte, interfaces := #[7, 4], accessFlags := 1041 }

/-- the primitive int -/
def k10 : Class := { plain "int" none with kind := .primitive 'I', accessFlags := 0x411 }
/-- [I -/
def k11 : Class := { plain "[I" (some 0) with kind := .array 10 .int, interfaces := #[7, 4], accessFlags := 1041 }

def heap : Heap := #[{ cls := 6, slots := #[.ref 1, .ref 2, .ref 3, .null], vm := .statics 6 },
  { cls := 6, slots := #[.null, .int 0, .int 0, .null], vm := .none },
  { cls := 6, slots := #[.null, .int 1, .int 0, .null], vm := .none },
  { cls := 6, slots := #[.null, .int 2, .int 0, .null], vm := .none }]
def classes : Array Class := #[k0, k1, k2, k3, k4, k5, k6, k7, k8, k9, k10, k11]
def interned : List (Array UInt16 × Addr) := []
def slotsUsed : Nat := 16
def theMethod : MethodId := ⟨1, 1⟩
def args0 : Array Value := #[.int 5, .long 7, .long 9]
def aboutOver (below : List Frame) : State where
  vm := { classes := classes, interned := interned.toArray }
  heap := heap
  slotsUsed := slotsUsed
  threads := #[{ frames := .invoking theMethod args0 :: below }]
def below0 : List Frame := [.native { method := ⟨0, 0⟩, args := #[] }]
def about1 : State := aboutOver below0
def p0 : Program := .bare "" "" ""
def e0 : Env := launch0.env 0 0 0
theorem w_frames : about1.frames = Frame.invoking theMethod args0 :: below0 := rfl
set_option maxRecDepth 65536 in
theorem w_args : argsFit about1.vm theMethod args0 = true := by decide +kernel
set_option maxRecDepth 65536 in
theorem w_heap : heapFits about1 = true := by decide +kernel
set_option maxRecDepth 65536 in
theorem w_runnable : about1.curStatus? = some .runnable := by decide +kernel
set_option maxRecDepth 65536 in
theorem w_alone : about1.alone = true := by decide +kernel
set_option maxRecDepth 65536 in
theorem w_named : about1.methodNamed? x = some theMethod := by decide +kernel
set_option maxRecDepth 65536 in
theorem w_hears : about1.hears theMethod below0 = true := by decide +kernel
set_option maxRecDepth 65536 in
theorem w_ripe : about1.ripe theMethod args0 below0 = true := by decide +kernel
theorem w_running : about1.status = .running := rfl
set_option maxRecDepth 65536 in
theorem w_room : about1.hasRoom e0.platform room_1 = true :=
  launch0.hasRoom_least _ room_1 (by decide +kernel) (by decide +kernel) (by decide +kernel) (by decide +kernel) (by decide +kernel) (by decide +kernel)
theorem allAtoms_all (ts : List Jvm.Cond) (a : Array Jvm.Value) (st : Jvm.State) : (allAtoms ts).before a st = ts.all (fun c => c.before a st) := by
  induction ts with
  | nil => rfl
  | cons c t ih =>
    show (Jvm.Cond.and c (allAtoms t)).before a st = _
    rw [Jvm.Cond.before_and, ih, List.all_cons]
def words1 : List Jvm.Cond := Jvm.Cond.code x code maxLocals ret :: tables_1
/-- a 'code' word, met by the world's own term for the bytes: nothing is compared byte by byte -/
theorem code_word {y : MethodName} {bytes : ByteArray} {mx : Nat} {rt : Option FieldType} {a : Array Value} {s : State} {m : MethodId} {meth : Method} {c : Code} (h1 : s.methodNamed? y = some m) (h2 : s.vm.method? m = some meth) (h3 : meth.code = some c) (h4 : c.code = bytes)
    (h5 : (c.maxLocals == mx && c.exceptionTable.isEmpty && decide (c.maxStack ≤ mostOperands) && decide (meth.sig.returnType = rt) && !meth.locks && decide (parseMethodDescriptor y.desc = some meth.sig)) = true) : (Jvm.Cond.code y bytes mx rt).before a s = true := by
  simp only [Bool.and_eq_true, beq_iff_eq, Bool.not_eq_true', decide_eq_true_eq] at h5
  obtain ⟨⟨⟨⟨⟨g1, g2⟩, g3⟩, g4⟩, g5⟩, g6⟩ := h5
  simp [Cond.before, Cond.holds, Cond.value, h1, h2, h3, h4, g1, g2, g3, g4, g5, g6]
def isCode : Jvm.Cond → Bool
  | .code _ _ _ _ => true
  | _ => false
theorem all_split {L : List Jvm.Cond} {P : Jvm.Cond → Bool} (h1 : L.all (fun c => isCode c || P c) = true) (h2 : ∀ c ∈ L.filter isCode, P c = true) : L.all P = true := by
  refine List.all_eq_true.mpr fun c hc => ?_
  have h := List.all_eq_true.mp h1 c hc
  rcases Bool.eq_false_or_eq_true (isCode c) with hi | hi
  · exact h2 c (List.mem_filter.mpr ⟨hc, hi⟩)
  · simpa [hi] using h
set_option maxRecDepth 65536 in
theorem w_c0 : (Jvm.Cond.code x code maxLocals ret).before args0 about1 = true := code_word (m := ⟨1, 1⟩) (meth := k1m1) (c := k1c1) (by decide +kernel) rfl rfl rfl (by decide +kernel)
set_option maxRecDepth 65536 in
theorem w_c1 : (Jvm.Cond.code ({ cls := "com/example/slidebook/slidebook/engine/Side", name := "accepts", desc := "(JJ)Z" } : Jvm.MethodName) prog_31_method_7_code (5 : Nat) (Option.some Jvm.ClassFile.FieldType.boolean)).before args0 about1 = true := code_word (m := ⟨6, 0⟩) (meth := k6m0) (c := k6c0) (by decide +kernel) rfl rfl rfl (by decide +kernel)
def codes1 : List Jvm.Cond := [Jvm.Cond.code x code maxLocals ret, Jvm.Cond.code ({ cls := "com/example/slidebook/slidebook/engine/Side", name := "accepts", desc := "(JJ)Z" } : Jvm.MethodName) prog_31_method_7_code (5 : Nat) (Option.some Jvm.ClassFile.FieldType.boolean)]
set_option maxRecDepth 65536 in
theorem codes_eq : words1.filter isCode = codes1 := rfl
theorem w_codes : ∀ c ∈ words1.filter isCode, c.before args0 about1 = true := by
  rw [codes_eq]
  intro c hc
  simp only [codes1, List.mem_cons, List.not_mem_nil, or_false] at hc
  rcases hc with rfl | rfl
  · exact w_c0
  · exact w_c1
set_option maxRecDepth 65536 in
theorem w_t1 : words1.all (fun c => isCode c || c.before args0 about1) = true := by decide +kernel
theorem w_tables : (allAtoms (Jvm.Cond.code x code maxLocals ret :: tables_1)).before args0 about1 = true := by
  rw [allAtoms_all]
  show words1.all (fun c => c.before args0 about1) = true
  refine all_split ?_ w_codes
  rw [w_t1]
set_option maxRecDepth 65536 in
theorem w_case : (Jvm.Cond.and given_1 narrow_1).before args0 about1 = true := by decide +kernel
theorem w_applies : (headSpec (Jvm.Cond.code x code maxLocals ret :: tables_1) room_1).applies x e0.platform about1 = true :=
  (Spec.applies_iff w_frames).mpr ⟨w_running, w_runnable, w_alone, w_named, w_hears, w_ripe, w_room, w_tables⟩
theorem atStart : AtStart classFile x code maxLocals ret World_1 tables_1 room_1 Calls_1 rest_1 Pre_1 launch0 p0 e0 about1 theMethod args0 below0 :=
  ⟨lists_1, trivial, launch0.admits_env _ _ _, launch0.least_env, fairChoices_fair.cas, fairChoices_fair.clock, w_frames, w_args, w_heap, w_applies, trivial, trivial, w_case⟩
end start1
theorem witness_1 : WitnessClaimed_1 := ⟨start1.p0, start1.e0, start1.about1, start1.theMethod, start1.args0, start1.below0, start1.atStart⟩
end Jvm.Pilot.@@N@@
