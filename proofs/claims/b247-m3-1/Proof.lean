import JvmDerived
import JvmDerived.Pilot.@@N@@Statement
import JvmDerived.Pilot.@@N@@Code
set_option linter.unusedVariables false
set_option linter.unusedSimpArgs false
@@BLOCK:NumsL.lean.txt@@
namespace Jvm.Pilot.@@N@@
open Jvm Jvm.ClassFile Sem Op Lib Jvm.Free Jvm.Stand Jvm.LawKit Jvm.RoadKit Bundle Jvm.Pilot.@@N@@.Jvm.D
/-- what a body leaves that writes nothing: its value, no place written, the heap as it was -/
def QP (val : Value) (h0 : Heap) (n0 : Nat) (v : Option Value) (h : Heap) (L : List Loc) : Prop := v = some val ∧ Fr n0 L ∧ h = h0
/-- what the law leaves: true -/
def Q1 (n0 : Nat) (v : Option Value) (h : Heap) (L : List Loc) : Prop := v = some (.int 1) ∧ Fr n0 L
theorem own_eq_int {args : Array Value} {s : State} {t : Term} {k : Int32} (h : (Jvm.Cond.eq t (.int k)).value args s none s [] = some true) : t.eval args s none [] s = some (.int k) := by
  simp only [Cond.value, Term.eval] at h
  cases ht : t.eval args s none [] s with
  | none => simp [ht] at h
  | some x => cases x <;> simp [ht] at h ⊢; exact h
theorem own_fld {args : Array Value} {s : State} {t : Term} {a : Addr} {C n d : String} {k : Int32} (ev : t.eval args s none [] s = some (.ref a)) (h : (Jvm.Cond.eq (.field t C n d) (.int k)).value args s none s [] = some true) : Fld s s.heap a C n d (.int k) :=
  Fld.start ((fld_at ev).symm.trans (own_eq_int h))
theorem own_toInt32_inj {i j : Nat} (hi : i < 2 ^ 31) (hj : j < 2 ^ 31) (h : i.toInt32 = j.toInt32) : i = j := by
  have := congrArg Int32.toInt h
  rw [len_toInt hi, len_toInt hj] at this
  omega
theorem own_inj {Z : State} {h : Heap} {w : Nat → Addr} {n : Nat} (hn : n < 2 ^ 31) (F : ∀ i, i < n → Fld Z h (w i) "java/lang/Enum" "ordinal" "I" (.int i.toInt32)) : ∀ i j, i < n → j < n → w i = w j → i = j := fun i j hi hj e => by
  by_cases q : i = j
  · exact q
  · exact absurd e (Fld.ne (F i hi) (F j hj) fun h => q (own_toInt32_inj (by omega) (by omega) (Value.int.inj h)))
theorem own_i32 {i : Int32} {N : Nat} (hN : N < 2 ^ 31) (h0 : 0 ≤ i.toInt) (h1 : i.toInt < N) : ∃ k : Nat, k < N ∧ i = k.toInt32 := by
  refine ⟨i.toInt.toNat, by omega, Int32.toInt_inj.mp ?_⟩
  rw [len_toInt (by omega)]
  omega
theorem own_mod (x n : Int32) (N : Nat) (hN : n.toInt = N) (h : 0 < N) : ∃ k : Nat, k < N ∧ (x &&& (2147483647 : Int32)) % n = k.toInt32 := by
  have e1 : (x &&& (2147483647 : Int32)).toInt = x.toInt % 2 ^ 31 := Jvm.Kit.i32_mask x 2147483647 (k := 31) (by decide) (by decide)
  have e2 : ((x &&& (2147483647 : Int32)) % n).toInt = (x &&& (2147483647 : Int32)).toInt % n.toInt := Jvm.Kit.i32_rem_nonneg (by omega)
  have hlt := n.toInt_lt
  have h3 : 0 ≤ (x &&& (2147483647 : Int32)).toInt % n.toInt := Int.emod_nonneg _ (by omega)
  have h4 : (x &&& (2147483647 : Int32)).toInt % n.toInt < n.toInt := Int.emod_lt_of_pos _ (by omega)
  exact own_i32 (by omega) (by omega) (by omega)
theorem own_mask (x n : Int32) {k : Nat} (hk : k < 31) (hm : n.toBitVec.toNat = 2 ^ k - 1) : ∃ j : Nat, j < 2 ^ k ∧ x &&& n = j.toInt32 := by
  have e1 : (x &&& n).toInt = x.toInt % 2 ^ k := Jvm.Kit.i32_mask x n (k := k) (by omega) hm
  have hp : (2 : Nat) ^ k < 2 ^ 31 := Nat.pow_lt_pow_right (by decide) hk
  have hp1 : (0 : Int) < 2 ^ k := Int.pow_pos (by decide)
  have h3 : 0 ≤ x.toInt % 2 ^ k := Int.emod_nonneg _ (by omega)
  have h4 : x.toInt % 2 ^ k < 2 ^ k := Int.emod_lt_of_pos _ hp1
  refine own_i32 hp (by rw [e1]; exact h3) (by rw [e1]; push_cast; exact h4)
theorem own_lt_irrefl {a b : Int64} (h : a = b) : ¬ a < b ∧ ¬ b < a := by subst h; simp [Int64.lt_irrefl]
theorem own_lt_asymm {a b : Int64} (h : a < b) : ¬ b < a := Int64.lt_asymm h
theorem own_lt_total {a b : Int64} (h1 : ¬ a = b) (h2 : ¬ a < b) : b < a := by
  rw [Int64.lt_iff_toInt_lt] at h2 ⊢; rw [← Int64.toInt_inj] at h1; omega
def STA (Z : State) (h : Heap) (w : Nat → Addr) : Prop := Sta Z h "com/example/pledgeline/pledgeline/Builtin" "LEAST" "Lcom/example/pledgeline/pledgeline/Builtin;" (.ref (w 0)) ∧ Sta Z h "com/example/pledgeline/pledgeline/Builtin" "GREATEST" "Lcom/example/pledgeline/pledgeline/Builtin;" (.ref (w 1)) ∧ Sta Z h "com/example/pledgeline/pledgeline/Builtin" "DAYS_SINCE" "Lcom/example/pledgeline/pledgeline/Builtin;" (.ref (w 2)) ∧ Sta Z h "com/example/pledgeline/pledgeline/Builtin" "DAYS_BETWEEN" "Lcom/example/pledgeline/pledgeline/Builtin;" (.ref (w 3)) ∧ Sta Z h "com/example/pledgeline/pledgeline/Builtin" "BUSINESS_DAYS_SINCE" "Lcom/example/pledgeline/pledgeline/Builtin;" (.ref (w 4)) ∧ Sta Z h "com/example/pledgeline/pledgeline/Builtin" "QUARTERS_SINCE" "Lcom/example/pledgeline/pledgeline/Builtin;" (.ref (w 5)) ∧ Sta Z h "com/example/pledgeline/pledgeline/Builtin" "FIRST_BUSINESS_DAYS" "Lcom/example/pledgeline/pledgeline/Builtin;" (.ref (w 6)) ∧ Sta Z h "com/example/pledgeline/pledgeline/Builtin" "LAST_BUSINESS_DAYS" "Lcom/example/pledgeline/pledgeline/Builtin;" (.ref (w 7)) ∧ Sta Z h "com/example/pledgeline/pledgeline/Builtin" "TOTAL_VALUE" "Lcom/example/pledgeline/pledgeline/Builtin;" (.ref (w 8))
def own_tk (c f m : Int32) : Int32 := if c < f then 0 else if m < c then 0 else 1
theorem own_tk_all {c : Int32} (h : 0 < c) : own_tk c 1 2147483647 = 1 := by
  have a := c.toInt_lt
  have h' := Int32.lt_iff_toInt_lt.mp h
  rw [own_tk, if_neg (fun q => by have := Int32.lt_iff_toInt_lt.mp q; have e1 : (1 : Int32).toInt = 1 := rfl; have e0 : (0 : Int32).toInt = 0 := rfl; omega), if_neg (fun q => by have := Int32.lt_iff_toInt_lt.mp q; have e1 : (2147483647 : Int32).toInt = 2147483647 := rfl; omega)]
theorem own_tk_none {c : Int32} (h : ¬ 0 < c) : own_tk c 1 2147483647 = 0 := by
  have h' := mt Int32.lt_iff_toInt_lt.mpr h
  rw [own_tk, if_pos (Int32.lt_iff_toInt_lt.mpr (by have e1 : (1 : Int32).toInt = 1 := rfl; have e0 : (0 : Int32).toInt = 0 := rfl; omega))]
theorem own_tk_eq {c n : Int32} (h : c = n) : own_tk c n n = 1 := by
  subst h; rw [own_tk, if_neg Int32.lt_irrefl, if_neg Int32.lt_irrefl]
theorem own_tk_ne {c n : Int32} (h : ¬ c = n) : own_tk c n n = 0 := by
  have h' := mt Int32.toInt_inj.mp h
  by_cases q : c < n
  · rw [own_tk, if_pos q]
  · have q' := mt Int32.lt_iff_toInt_lt.mpr q
    rw [own_tk, if_neg q, if_pos (Int32.lt_iff_toInt_lt.mpr (by omega))]
theorem own_pd_0 : parseMethodDescriptor "(I)Z" = some ⟨[.int], some .boolean⟩ := by decide +kernel
theorem own_d1_0 : decode prog_10_method_10_code 0 = .ok (.iload_n 1, 1) := by decide +kernel
theorem own_d1_1 : decode prog_10_method_10_code 1 = .ok (.aload_n 0, 1) := by decide +kernel
theorem own_d1_2 : decode prog_10_method_10_code 2 = .ok (.getfield 50, 3) := by decide +kernel
theorem own_d1_5 : decode prog_10_method_10_code 5 = .ok (.if_icmp .lt 15, 3) := by decide +kernel
theorem own_d1_8 : decode prog_10_method_10_code 8 = .ok (.iload_n 1, 1) := by decide +kernel
theorem own_d1_9 : decode prog_10_method_10_code 9 = .ok (.aload_n 0, 1) := by decide +kernel
theorem own_d1_10 : decode prog_10_method_10_code 10 = .ok (.getfield 54, 3) := by decide +kernel
theorem own_d1_13 : decode prog_10_method_10_code 13 = .ok (.if_icmp .gt 7, 3) := by decide +kernel
theorem own_d1_16 : decode prog_10_method_10_code 16 = .ok (.iconst 1, 1) := by decide +kernel
theorem own_d1_17 : decode prog_10_method_10_code 17 = .ok (.goto 4, 3) := by decide +kernel
theorem own_d1_20 : decode prog_10_method_10_code 20 = .ok (.iconst 0, 1) := by decide +kernel
theorem own_d1_21 : decode prog_10_method_10_code 21 = .ok (.ireturn, 1) := by decide +kernel
set_option maxRecDepth 65536 in
set_option maxHeartbeats 40000000 in
theorem rm_tk (l : Launch) (Z : State) (a0 : Array Value) (hw : ∀ d ∈ tables_1, d.before a0 Z = true) (ws : List Jvm.Cond) (x0 : Addr) (x1 f g : Int32) (h0 : Heap) (n0 : Nat) (Z0 : n0 ≤ h0.size) (F : Fld Z h0 x0 "com/example/pledgeline/pledgeline/Builtin" "fewest" "I" (.int f)) (G : Fld Z h0 x0 "com/example/pledgeline/pledgeline/Builtin" "most" "I" (.int g)) :
    MetFree l (⟨"com/example/pledgeline/pledgeline/Builtin", "takes", "(I)Z"⟩ : MethodName) (head1 (Jvm.Cond.code (⟨"com/example/pledgeline/pledgeline/Builtin", "takes", "(I)Z"⟩ : MethodName) prog_10_method_10_code 2 (some .boolean) :: ws) ({ frames := 0, cells := 0, slots := 0, locals := 0 } : Room)) (fun a U => a = #[(.ref x0), (.int x1)] ∧ Z.Warmed39 U.vm ∧ U.heap = h0) (fun _ _ _ _ _ => True) (fun _ U o U' => ∃ v L, o = .returned v ∧ QP (.int (own_tk x1 f g)) h0 n0 v U'.heap L ∧ FrameEnd U o U' L ({ frames := 0, cells := 0, slots := 0, locals := 0 } : Room).cells ({ frames := 0, cells := 0, slots := 0, locals := 0 } : Room).slots) := by
  refine MetFree.of_bodySF (plainFor_of_name (by first | (simp [plainName, overriddenIn]; done) | decide +kernel)) hisR ?_
  intro p e s m args below meth c s₁ Bd hml0 hP hK
  obtain ⟨rfl, hZ, hh⟩ := hP
  have hx := Bd.exec
  have hby := Bd.bytes
  have hml : c.maxLocals = 2 := hml0
  have hown : s.vm.findClass "com/example/pledgeline/pledgeline/Builtin" = some m.cls := findClass_of_methodNamed Bd.named
  have hnm := (name_of_methodNamed Bd.named Bd.method).1
  have X0 : Stand p l e ({ frames := 0, cells := 0, slots := 0, locals := 0 } : Room) s m #[(.ref x0), (.int x1)] below meth c s₁ [] 0 0 := Stand.of_body Bd
  have e0 : s₁.heap = h0 := by rw [← hh, Bd.state]; rfl
  have N0 := Fr.nil n0
  have ef0 : entryFrame m #[(.ref x0), (.int x1)] 2 = mkF m 0 #[.val (.ref x0), .val (.int x1)] [] := by first | (simp [entryFrame, mkF, argsToLocals, Value.category, maxLocals]; done) | rfl
  have pre0 : ∀ t, Steps p.tables e below (s₁.setTop (mkF m 0 #[.val (.ref x0), .val (.int x1)] [])) t → Steps p.tables e below (s₁.setTop (entryFrame m #[(.ref x0), (.int x1)] 2)) t := fun t k => castTop ef0 k
  obtain ⟨T1, X1, e1, st1⟩ := getF X0 hx hZ hown (host := "") (Or.inl (hw _ (List.mem_of_getElem? (i := 9) rfl))) Via.refl e0 F (g := (mkF m 2 #[.val (.ref x0), .val (.int x1)] [(.ref x0), (.int x1)])) rfl rfl (hb hby own_d1_2)
  have pre2 : ∀ t, Steps p.tables e below (T1.setTop (mkF m 5 #[.val (.ref x0), .val (.int x1)] [(.int f), (.int x1)])) t → Steps p.tables e below (s₁.setTop (entryFrame m #[(.ref x0), (.int x1)] 2)) t := fun tt kk => pre0 tt (by
    show Steps p.tables e below (s₁.setTop (mkF m 0 #[.val (.ref x0), .val (.int x1)] [])) _
    refine XS.iloadN X0.here hx rfl (hb hby own_d1_0) rfl ?_
    show Steps p.tables e below (s₁.setTop (mkF m 1 #[.val (.ref x0), .val (.int x1)] [(.int x1)])) _
    refine XS.aloadN X0.here hx rfl (hb hby own_d1_1) rfl rfl ?_
    show Steps p.tables e below (s₁.setTop (mkF m 2 #[.val (.ref x0), .val (.int x1)] [(.ref x0), (.int x1)])) _
    refine st1 _ ?_
    exact kk)
  by_cases hc5 : x1 < f
  · obtain ⟨fs, hr, hrun, hended, hW, hsame⟩ := X1.leave (v := some (.int (0 : Int32))) (fun h => by rw [Bd.returns] at h; cases h)
    refine ⟨_, _, pre2 _ ?_, hrun, hended, _, _, rfl, ?_, ⟨_, rfl⟩, hW, hsame.mono (by decide) (by decide)⟩
    · show Steps p.tables e below (T1.setTop (mkF m 5 #[.val (.ref x0), .val (.int x1)] [(.int f), (.int x1)])) _
      refine XS.icmpYes X1.here hx rfl (pc0 := 5) (pc' := 20) rfl (hb hby own_d1_5) rfl (tlt hc5).1 (by decide) (by decide) ?_
      show Steps p.tables e below (T1.setTop (mkF m 20 #[.val (.ref x0), .val (.int x1)] [])) _
      refine XS.iconst X1.here hx rfl (hb hby own_d1_20) ?_
      show Steps p.tables e below (T1.setTop (mkF m 21 #[.val (.ref x0), .val (.int x1)] [(.int (0 : Int32))])) _
      exact retN X1 hx (t := .boolean) Bd.returns (by simp) (hb hby own_d1_21) hr
    · show QP (.int (own_tk x1 f g)) h0 n0 _ T1.heap _
      rw [e1]
      exact ⟨by rw [own_tk]; rw [if_pos hc5], N0, rfl⟩
  · obtain ⟨T3, X3, e3, st3⟩ := getF X1 hx hZ hown (host := "") (Or.inl (hw _ (List.mem_of_getElem? (i := 11) rfl))) Via.refl e1 G (g := (mkF m 10 #[.val (.ref x0), .val (.int x1)] [(.ref x0), (.int x1)])) rfl rfl (hb hby own_d1_10)
    have pre4 : ∀ t, Steps p.tables e below (T3.setTop (mkF m 13 #[.val (.ref x0), .val (.int x1)] [(.int g), (.int x1)])) t → Steps p.tables e below (s₁.setTop (entryFrame m #[(.ref x0), (.int x1)] 2)) t := fun tt kk => pre2 tt (by
      show Steps p.tables e below (T1.setTop (mkF m 5 #[.val (.ref x0), .val (.int x1)] [(.int f), (.int x1)])) _
      refine XS.icmpNo X1.here hx rfl (hb hby own_d1_5) rfl (flt hc5).1 ?_
      show Steps p.tables e below (T1.setTop (mkF m 8 #[.val (.ref x0), .val (.int x1)] [])) _
      refine XS.iloadN X1.here hx rfl (hb hby own_d1_8) rfl ?_
      show Steps p.tables e below (T1.setTop (mkF m 9 #[.val (.ref x0), .val (.int x1)] [(.int x1)])) _
      refine XS.aloadN X1.here hx rfl (hb hby own_d1_9) rfl rfl ?_
      show Steps p.tables e below (T1.setTop (mkF m 10 #[.val (.ref x0), .val (.int x1)] [(.ref x0), (.int x1)])) _
      refine st3 _ ?_
      exact kk)
    by_cases hc13 : g < x1
    · obtain ⟨fs, hr, hrun, hended, hW, hsame⟩ := X3.leave (v := some (.int (0 : Int32))) (fun h => by rw [Bd.returns] at h; cases h)
      refine ⟨_, _, pre4 _ ?_, hrun, hended, _, _, rfl, ?_, ⟨_, rfl⟩, hW, hsame.mono (by decide) (by decide)⟩
      · show Steps p.tables e below (T3.setTop (mkF m 13 #[.val (.ref x0), .val (.int x1)] [(.int g), (.int x1)])) _
        refine XS.icmpYes X3.here hx rfl (pc0 := 13) (pc' := 20) rfl (hb hby own_d1_13) rfl (tlt hc13).2.2.1 (by decide) (by decide) ?_
        show Steps p.tables e below (T3.setTop (mkF m 20 #[.val (.ref x0), .val (.int x1)] [])) _
        refine XS.iconst X3.here hx rfl (hb hby own_d1_20) ?_
        show Steps p.tables e below (T3.setTop (mkF m 21 #[.val (.ref x0), .val (.int x1)] [(.int (0 : Int32))])) _
        exact retN X3 hx (t := .boolean) Bd.returns (by simp) (hb hby own_d1_21) hr
      · show QP (.int (own_tk x1 f g)) h0 n0 _ T3.heap _
        rw [e3]
        exact ⟨by rw [own_tk]; rw [if_neg hc5, if_pos hc13], N0, rfl⟩
    · obtain ⟨fs, hr, hrun, hended, hW, hsame⟩ := X3.leave (v := some (.int (1 : Int32))) (fun h => by rw [Bd.returns] at h; cases h)
      refine ⟨_, _, pre4 _ ?_, hrun, hended, _, _, rfl, ?_, ⟨_, rfl⟩, hW, hsame.mono (by decide) (by decide)⟩
      · show Steps p.tables e below (T3.setTop (mkF m 13 #[.val (.ref x0), .val (.int x1)] [(.int g), (.int x1)])) _
        refine XS.icmpNo X3.here hx rfl (hb hby own_d1_13) rfl (flt hc13).2.2.1 ?_
        show Steps p.tables e below (T3.setTop (mkF m 16 #[.val (.ref x0), .val (.int x1)] [])) _
        refine XS.iconst X3.here hx rfl (hb hby own_d1_16) ?_
        show Steps p.tables e below (T3.setTop (mkF m 17 #[.val (.ref x0), .val (.int x1)] [(.int (1 : Int32))])) _
        refine XS.goto X3.here hx rfl (pc0 := 17) (pc' := 21) rfl (hb hby own_d1_17) (by decide) (by decide) ?_
        show Steps p.tables e below (T3.setTop (mkF m 21 #[.val (.ref x0), .val (.int x1)] [(.int (1 : Int32))])) _
        exact retN X3 hx (t := .boolean) Bd.returns (by simp) (hb hby own_d1_21) hr
      · show QP (.int (own_tk x1 f g)) h0 n0 _ T3.heap _
        rw [e3]
        exact ⟨by rw [own_tk]; rw [if_neg hc5, if_neg hc13], N0, rfl⟩
set_option maxRecDepth 65536 in
set_option maxHeartbeats 40000000 in
theorem rm0 (l : Launch) (Z : State) (a0 : Array Value) (hw : ∀ d ∈ tables_1, d.before a0 Z = true) (ws : List Jvm.Cond) (x0 x1 x2 : Int32) (w : Nat → Addr) (h0 : Heap) (n0 : Nat) (Z0 : n0 ≤ h0.size) (ST : STA Z h0 w) (EX : Exa Z h0 (w 0) "com/example/pledgeline/pledgeline/Builtin$1" ∧ Exa Z h0 (w 1) "com/example/pledgeline/pledgeline/Builtin$2" ∧ Exa Z h0 (w 2) "com/example/pledgeline/pledgeline/Builtin$3" ∧ Exa Z h0 (w 3) "com/example/pledgeline/pledgeline/Builtin$4" ∧ Exa Z h0 (w 4) "com/example/pledgeline/pledgeline/Builtin$5" ∧ Exa Z h0 (w 5) "com/example/pledgeline/pledgeline/Builtin$6" ∧ Exa Z h0 (w 6) "com/example/pledgeline/pledgeline/Builtin$7" ∧ Exa Z h0 (w 7) "com/example/pledgeline/pledgeline/Builtin$8" ∧ Exa Z h0 (w 8) "com/example/pledgeline/pledgeline/Builtin$9") (FF : Fld Z h0 (w 0) "com/example/pledgeline/pledgeline/Builtin" "fewest" "I" (.int (1 : Int32)) ∧ Fld Z h0 (w 1) "com/example/pledgeline/pledgeline/Builtin" "fewest" "I" (.int (1 : Int32)) ∧ Fld Z h0 (w 2) "com/example/pledgeline/pledgeline/Builtin" "fewest" "I" (.int (1 : Int32)) ∧ Fld Z h0 (w 3) "com/example/pledgeline/pledgeline/Builtin" "fewest" "I" (.int (2 : Int32)) ∧ Fld Z h0 (w 4) "com/example/pledgeline/pledgeline/Builtin" "fewest" "I" (.int (1 : Int32)) ∧ Fld Z h0 (w 5) "com/example/pledgeline/pledgeline/Builtin" "fewest" "I" (.int (1 : Int32)) ∧ Fld Z h0 (w 6) "com/example/pledgeline/pledgeline/Builtin" "fewest" "I" (.int (1 : Int32)) ∧ Fld Z h0 (w 7) "com/example/pledgeline/pledgeline/Builtin" "fewest" "I" (.int (1 : Int32)) ∧ Fld Z h0 (w 8) "com/example/pledgeline/pledgeline/Builtin" "fewest" "I" (.int (1 : Int32))) (FG : Fld Z h0 (w 0) "com/example/pledgeline/pledgeline/Builtin" "most" "I" (.int (2147483647 : Int32)) ∧ Fld Z h0 (w 1) "com/example/pledgeline/pledgeline/Builtin" "most" "I" (.int (2147483647 : Int32)) ∧ Fld Z h0 (w 2) "com/example/pledgeline/pledgeline/Builtin" "most" "I" (.int (1 : Int32)) ∧ Fld Z h0 (w 3) "com/example/pledgeline/pledgeline/Builtin" "most" "I" (.int (2 : Int32)) ∧ Fld Z h0 (w 4) "com/example/pledgeline/pledgeline/Builtin" "most" "I" (.int (1 : Int32)) ∧ Fld Z h0 (w 5) "com/example/pledgeline/pledgeline/Builtin" "most" "I" (.int (1 : Int32)) ∧ Fld Z h0 (w 6) "com/example/pledgeline/pledgeline/Builtin" "most" "I" (.int (1 : Int32)) ∧ Fld Z h0 (w 7) "com/example/pledgeline/pledgeline/Builtin" "most" "I" (.int (1 : Int32)) ∧ Fld Z h0 (w 8) "com/example/pledgeline/pledgeline/Builtin" "most" "I" (.int (1 : Int32))) :
    MetFree l x (head1 (Jvm.Cond.code x code maxLocals ret :: ws) room_1) (fun a U => a = #[(.int x0), (.int x1), (.int x2)] ∧ Z.Warmed39 U.vm ∧ U.heap = h0) (fun _ _ _ _ _ => True) (fun _ U o U' => ∃ v L, o = .returned v ∧ Q1 n0 v U'.heap L ∧ FrameEnd U o U' L room_1.cells room_1.slots) := by
  refine MetFree.of_bodySF (plainFor_of_name (by first | (simp [plainName, overriddenIn]; done) | decide +kernel)) hisR ?_
  intro p e s m args below meth c s₁ Bd hml0 hP hK
  obtain ⟨rfl, hZ, hh⟩ := hP
  have hx := Bd.exec
  have hby := Bd.bytes
  have hml : c.maxLocals = 7 := hml0
  have hown : s.vm.findClass "com/example/pledgeline/pledgeline/BuiltinTakesPinLaw" = some m.cls := findClass_of_methodNamed Bd.named
  have hnm := (name_of_methodNamed Bd.named Bd.method).1
  have X0 : Stand p l e room_1 s m #[(.int x0), (.int x1), (.int x2)] below meth c s₁ [] 0 0 := Stand.of_body Bd
  have e0 : s₁.heap = h0 := by rw [← hh, Bd.state]; rfl
  have N0 := Fr.nil n0
  have ef0 : entryFrame m #[(.int x0), (.int x1), (.int x2)] maxLocals = mkF m 0 #[.val (.int x0), .val (.int x1), .val (.int x2), .unset, .unset, .unset, .unset] [] := by first | (simp [entryFrame, mkF, argsToLocals, Value.category, maxLocals]; done) | rfl
  have pre0 : ∀ t, Steps p.tables e below (s₁.setTop (mkF m 0 #[.val (.int x0), .val (.int x1), .val (.int x2), .unset, .unset, .unset, .unset] [])) t → Steps p.tables e below (s₁.setTop (entryFrame m #[(.int x0), (.int x1), (.int x2)] maxLocals)) t := fun t k => castTop ef0 k
  have pre5 : ∀ t, Steps p.tables e below (s₁.setTop (mkF m 8 #[.val (.int x0), .val (.int x1), .val (.int x2), .val (.int ((x0 &&& (2147483647 : Int32)) % (9 : Int32))), .unset, .unset, .unset] [])) t → Steps p.tables e below (s₁.setTop (entryFrame m #[(.int x0), (.int x1), (.int x2)] maxLocals)) t := fun tt kk => pre0 tt (by
    show Steps p.tables e below (s₁.setTop (mkF m 0 #[.val (.int x0), .val (.int x1), .val (.int x2), .unset, .unset, .unset, .unset] [])) _
    refine XS.iloadN X0.here hx rfl (hb hby at_0) rfl ?_
    show Steps p.tables e below (s₁.setTop (mkF m 1 #[.val (.int x0), .val (.int x1), .val (.int x2), .unset, .unset, .unset, .unset] [(.int x0)])) _
    refine X0.ldcInt hx hown (mvT hZ (hw _ (List.mem_of_getElem? (i := 0) rfl))) (g := (mkF m 1 #[.val (.int x0), .val (.int x1), .val (.int x2), .unset, .unset, .unset, .unset] [(.int x0)])) rfl (hb hby at_1) _ ?_
    show Steps p.tables e below (s₁.setTop (mkF m 3 #[.val (.int x0), .val (.int x1), .val (.int x2), .unset, .unset, .unset, .unset] [(.int (2147483647 : Int32)), (.int x0)])) _
    refine XS.iand X0.here hx rfl (hb hby at_3) rfl ?_
    show Steps p.tables e below (s₁.setTop (mkF m 4 #[.val (.int x0), .val (.int x1), .val (.int x2), .unset, .unset, .unset, .unset] [(.int (x0 &&& (2147483647 : Int32)))])) _
    refine XS.bipush X0.here hx rfl (hb hby at_4) ?_
    show Steps p.tables e below (s₁.setTop (mkF m 6 #[.val (.int x0), .val (.int x1), .val (.int x2), .unset, .unset, .unset, .unset] [(.int (9 : Int32)), (.int (x0 &&& (2147483647 : Int32)))])) _
    refine iremM X0 hx rfl (hb hby at_6) rfl (by decide) ?_
    show Steps p.tables e below (s₁.setTop (mkF m 7 #[.val (.int x0), .val (.int x1), .val (.int x2), .unset, .unset, .unset, .unset] [(.int ((x0 &&& (2147483647 : Int32)) % (9 : Int32)))])) _
    refine XS.istoreN X0.here hx rfl (hb hby at_7) rfl (l' := #[.val (.int x0), .val (.int x1), .val (.int x2), .val (.int ((x0 &&& (2147483647 : Int32)) % (9 : Int32))), .unset, .unset, .unset]) rfl ?_
    exact kk)
  obtain ⟨q, T6, X6, e6, pre6⟩ : ∃ (q : Int32) (T' : State), Stand p l e room_1 s m #[(.int x0), (.int x1), (.int x2)] below meth c T' [] 0 0 ∧ T'.heap = h0 ∧ ∀ t, Steps p.tables e below (T'.setTop (mkF m 21 #[.val (.int x0), .val (.int x1), .val (.int x2), .val (.int ((x0 &&& (2147483647 : Int32)) % (9 : Int32))), .unset, .unset, .unset] [(.int q)])) t → Steps p.tables e below (s₁.setTop (entryFrame m #[(.int x0), (.int x1), (.int x2)] maxLocals)) t := by
    have pre7 : ∀ t, Steps p.tables e below (s₁.setTop (mkF m 11 #[.val (.int x0), .val (.int x1), .val (.int x2), .val (.int ((x0 &&& (2147483647 : Int32)) % (9 : Int32))), .unset, .unset, .unset] [(.int (x2 &&& (1 : Int32)))])) t → Steps p.tables e below (s₁.setTop (entryFrame m #[(.int x0), (.int x1), (.int x2)] maxLocals)) t := fun tt kk => pre5 tt (by
      show Steps p.tables e below (s₁.setTop (mkF m 8 #[.val (.int x0), .val (.int x1), .val (.int x2), .val (.int ((x0 &&& (2147483647 : Int32)) % (9 : Int32))), .unset, .unset, .unset] [])) _
      refine XS.iloadN X0.here hx rfl (hb hby at_8) rfl ?_
      show Steps p.tables e below (s₁.setTop (mkF m 9 #[.val (.int x0), .val (.int x1), .val (.int x2), .val (.int ((x0 &&& (2147483647 : Int32)) % (9 : Int32))), .unset, .unset, .unset] [(.int x2)])) _
      refine XS.iconst X0.here hx rfl (hb hby at_9) ?_
      show Steps p.tables e below (s₁.setTop (mkF m 10 #[.val (.int x0), .val (.int x1), .val (.int x2), .val (.int ((x0 &&& (2147483647 : Int32)) % (9 : Int32))), .unset, .unset, .unset] [(.int (1 : Int32)), (.int x2)])) _
      refine XS.iand X0.here hx rfl (hb hby at_10) rfl ?_
      exact kk)
    by_cases hc11 : (x2 &&& (1 : Int32)) = (0 : Int32)
    · refine ⟨x1, s₁, X0, e0, fun tt kk => pre7 tt ?_⟩
      show Steps p.tables e below (s₁.setTop (mkF m 11 #[.val (.int x0), .val (.int x1), .val (.int x2), .val (.int ((x0 &&& (2147483647 : Int32)) % (9 : Int32))), .unset, .unset, .unset] [(.int (x2 &&& (1 : Int32)))])) _
      refine XS.ifNo X0.here hx rfl (hb hby at_11) rfl ((if0 _ _).trans (teq hc11).2) ?_
      show Steps p.tables e below (s₁.setTop (mkF m 14 #[.val (.int x0), .val (.int x1), .val (.int x2), .val (.int ((x0 &&& (2147483647 : Int32)) % (9 : Int32))), .unset, .unset, .unset] [])) _
      refine XS.iloadN X0.here hx rfl (hb hby at_14) rfl ?_
      show Steps p.tables e below (s₁.setTop (mkF m 15 #[.val (.int x0), .val (.int x1), .val (.int x2), .val (.int ((x0 &&& (2147483647 : Int32)) % (9 : Int32))), .unset, .unset, .unset] [(.int x1)])) _
      refine XS.goto X0.here hx rfl (pc0 := 15) (pc' := 21) rfl (hb hby at_15) (by decide) (by decide) ?_
      exact kk
    · refine ⟨(x1 % (4 : Int32)), s₁, X0, e0, fun tt kk => pre7 tt ?_⟩
      show Steps p.tables e below (s₁.setTop (mkF m 11 #[.val (.int x0), .val (.int x1), .val (.int x2), .val (.int ((x0 &&& (2147483647 : Int32)) % (9 : Int32))), .unset, .unset, .unset] [(.int (x2 &&& (1 : Int32)))])) _
      refine XS.ifYes X0.here hx rfl (pc0 := 11) (pc' := 18) rfl (hb hby at_11) rfl ((if0 _ _).trans (feq hc11).2) (by decide) (by decide) ?_
      show Steps p.tables e below (s₁.setTop (mkF m 18 #[.val (.int x0), .val (.int x1), .val (.int x2), .val (.int ((x0 &&& (2147483647 : Int32)) % (9 : Int32))), .unset, .unset, .unset] [])) _
      refine XS.iloadN X0.here hx rfl (hb hby at_18) rfl ?_
      show Steps p.tables e below (s₁.setTop (mkF m 19 #[.val (.int x0), .val (.int x1), .val (.int x2), .val (.int ((x0 &&& (2147483647 : Int32)) % (9 : Int32))), .unset, .unset, .unset] [(.int x1)])) _
      refine XS.iconst X0.here hx rfl (hb hby at_19) ?_
      show Steps p.tables e below (s₁.setTop (mkF m 20 #[.val (.int x0), .val (.int x1), .val (.int x2), .val (.int ((x0 &&& (2147483647 : Int32)) % (9 : Int32))), .unset, .unset, .unset] [(.int (4 : Int32)), (.int x1)])) _
      refine iremM X0 hx rfl (hb hby at_20) rfl (by decide) ?_
      exact kk
  have pre8 : ∀ t, Steps p.tables e below (T6.setTop (mkF m 24 #[.val (.int x0), .val (.int x1), .val (.int x2), .val (.int ((x0 &&& (2147483647 : Int32)) % (9 : Int32))), .val (.int q), .unset, .unset] [(.int ((x0 &&& (2147483647 : Int32)) % (9 : Int32)))])) t → Steps p.tables e below (s₁.setTop (entryFrame m #[(.int x0), (.int x1), (.int x2)] maxLocals)) t := fun tt kk => pre6 tt (by
    show Steps p.tables e below (T6.setTop (mkF m 21 #[.val (.int x0), .val (.int x1), .val (.int x2), .val (.int ((x0 &&& (2147483647 : Int32)) % (9 : Int32))), .unset, .unset, .unset] [(.int q)])) _
    refine XS.istore X6.here hx rfl (hb hby at_21) rfl (l' := #[.val (.int x0), .val (.int x1), .val (.int x2), .val (.int ((x0 &&& (2147483647 : Int32)) % (9 : Int32))), .val (.int q), .unset, .unset]) rfl ?_
    show Steps p.tables e below (T6.setTop (mkF m 23 #[.val (.int x0), .val (.int x1), .val (.int x2), .val (.int ((x0 &&& (2147483647 : Int32)) % (9 : Int32))), .val (.int q), .unset, .unset] [])) _
    refine XS.iloadN X6.here hx rfl (hb hby at_23) rfl ?_
    exact kk)
  by_cases hc24 : ((x0 &&& (2147483647 : Int32)) % (9 : Int32)) = (0 : Int32)
  · obtain ⟨T9, X9, e9, st9⟩ := getS2 X6 hx hZ hown (host := "") (Or.inl (hw _ (List.mem_of_getElem? (i := 1) rfl))) Via.refl e6 ST.1 (g := (mkF m 27 #[.val (.int x0), .val (.int x1), .val (.int x2), .val (.int ((x0 &&& (2147483647 : Int32)) % (9 : Int32))), .val (.int q), .unset, .unset] [])) rfl (hb hby at_27)
    have pre10 : ∀ t, Steps p.tables e below (T9.setTop (mkF m 34 #[.val (.int x0), .val (.int x1), .val (.int x2), .val (.int ((x0 &&& (2147483647 : Int32)) % (9 : Int32))), .val (.int q), .val (.ref (w 0)), .unset] [(.int q)])) t → Steps p.tables e below (s₁.setTop (entryFrame m #[(.int x0), (.int x1), (.int x2)] maxLocals)) t := fun tt kk => pre8 tt (by
      show Steps p.tables e below (T6.setTop (mkF m 24 #[.val (.int x0), .val (.int x1), .val (.int x2), .val (.int ((x0 &&& (2147483647 : Int32)) % (9 : Int32))), .val (.int q), .unset, .unset] [(.int ((x0 &&& (2147483647 : Int32)) % (9 : Int32)))])) _
      refine XS.ifNo X6.here hx rfl (hb hby at_24) rfl ((if0 _ _).trans (teq hc24).2) ?_
      show Steps p.tables e below (T6.setTop (mkF m 27 #[.val (.int x0), .val (.int x1), .val (.int x2), .val (.int ((x0 &&& (2147483647 : Int32)) % (9 : Int32))), .val (.int q), .unset, .unset] [])) _
      refine st9 _ ?_
      show Steps p.tables e below (T9.setTop (mkF m 30 #[.val (.int x0), .val (.int x1), .val (.int x2), .val (.int ((x0 &&& (2147483647 : Int32)) % (9 : Int32))), .val (.int q), .unset, .unset] [(.ref (w 0))])) _
      refine XS.astore X9.here hx rfl (hb hby at_30) rfl rfl (l' := #[.val (.int x0), .val (.int x1), .val (.int x2), .val (.int ((x0 &&& (2147483647 : Int32)) % (9 : Int32))), .val (.int q), .val (.ref (w 0)), .unset]) rfl ?_
      show Steps p.tables e below (T9.setTop (mkF m 32 #[.val (.int x0), .val (.int x1), .val (.int x2), .val (.int ((x0 &&& (2147483647 : Int32)) % (9 : Int32))), .val (.int q), .val (.ref (w 0)), .unset] [])) _
      refine XS.iload X9.here hx rfl (hb hby at_32) rfl ?_
      exact kk)
    by_cases hc34 : (0 : Int32) < q
    · obtain ⟨cq11, kq11, q11a, q11b, q11c⟩ := isOf hZ e9 EX.1
      obtain ⟨vv11, _, ⟨T11, L11, k11, n11⟩, -, X11, ⟨Lc11, hQ11, l11, y11, z11⟩, st11⟩ := X9.virtualBack hx (y := (⟨"com/example/pledgeline/pledgeline/Builtin", "takes", "(I)Z"⟩ : MethodName)) (z := (⟨"com/example/pledgeline/pledgeline/Builtin", "takes", "(I)Z"⟩ : MethodName)) hown (mvT hZ (hw _ (List.mem_of_getElem? (i := 4) rfl))) (mvT hZ (hw _ (List.mem_of_getElem? (i := 5) rfl))) (notFace_of_selects (args := #[]) (mvT hZ (hw _ (List.mem_of_getElem? (i := 7) rfl)))) (mvT hZ (hw _ (List.mem_of_getElem? (i := 7) rfl))) (mvT hZ (hw _ (List.mem_of_getElem? (i := 6) rfl))) (by decide) (backOf (W := 0) (rm_tk l Z a0 hw [] (w 0) q (1 : Int32) (2147483647 : Int32) h0 n0 Z0 FF.1 FG.1) hZ (hw _ (List.mem_of_getElem? (i := 8) rfl)) (hw _ (List.mem_of_getElem? (i := 2) rfl)) (by decide) (by decide)) q11a q11c (g := (mkF m 252 #[.val (.int x0), .val (.int x1), .val (.int x2), .val (.int ((x0 &&& (2147483647 : Int32)) % (9 : Int32))), .val (.int q), .val (.ref (w 0)), .val (.int (1 : Int32))] [(.int q), (.ref (w 0))])) rfl (by rw [hml]; rfl) (Steps.refl _) (argsL := [(.int q)]) (rest := []) (lenOf own_pd_0 rfl) rfl (by show 2 * 0 + _ ≤ _; exact Nat.le_of_eq rfl) (hb hby at_252) (fun _ _ => ⟨rfl, e9, (by decide : 0 + 0 ≤ _), (by decide : 0 + 0 ≤ _)⟩)
      dsimp only [Pt.U, Pt.locs, Pt.cells, Pt.slots] at X11 l11 y11 z11 st11 hQ11
      subst l11 y11 z11
      rw [own_tk_all hc34] at hQ11
      obtain ⟨rfl, N11q, e11⟩ := hQ11
      have N11 := Fr.app N0 N11q
      have pre12 : ∀ t, Steps p.tables e below (T11.setTop (mkF m 257 #[.val (.int x0), .val (.int x1), .val (.int x2), .val (.int ((x0 &&& (2147483647 : Int32)) % (9 : Int32))), .val (.int q), .val (.ref (w 0)), .val (.int (1 : Int32))] [(.int (1 : Int32)), (.int (1 : Int32))])) t → Steps p.tables e below (s₁.setTop (entryFrame m #[(.int x0), (.int x1), (.int x2)] maxLocals)) t := fun tt kk => pre10 tt (by
        show Steps p.tables e below (T9.setTop (mkF m 34 #[.val (.int x0), .val (.int x1), .val (.int x2), .val (.int ((x0 &&& (2147483647 : Int32)) % (9 : Int32))), .val (.int q), .val (.ref (w 0)), .unset] [(.int q)])) _
        refine XS.ifNo X9.here hx rfl (hb hby at_34) rfl ((if0 _ _).trans (tlt hc34).2.2.2) ?_
        show Steps p.tables e below (T9.setTop (mkF m 37 #[.val (.int x0), .val (.int x1), .val (.int x2), .val (.int ((x0 &&& (2147483647 : Int32)) % (9 : Int32))), .val (.int q), .val (.ref (w 0)), .unset] [])) _
        refine XS.iconst X9.here hx rfl (hb hby at_37) ?_
        show Steps p.tables e below (T9.setTop (mkF m 38 #[.val (.int x0), .val (.int x1), .val (.int x2), .val (.int ((x0 &&& (2147483647 : Int32)) % (9 : Int32))), .val (.int q), .val (.ref (w 0)), .unset] [(.int (1 : Int32))])) _
        refine XS.goto X9.here hx rfl (pc0 := 38) (pc' := 42) rfl (hb hby at_38) (by decide) (by decide) ?_
        show Steps p.tables e below (T9.setTop (mkF m 42 #[.val (.int x0), .val (.int x1), .val (.int x2), .val (.int ((x0 &&& (2147483647 : Int32)) % (9 : Int32))), .val (.int q), .val (.ref (w 0)), .unset] [(.int (1 : Int32))])) _
        refine XS.istore X9.here hx rfl (hb hby at_42) rfl (l' := #[.val (.int x0), .val (.int x1), .val (.int x2), .val (.int ((x0 &&& (2147483647 : Int32)) % (9 : Int32))), .val (.int q), .val (.ref (w 0)), .val (.int (1 : Int32))]) rfl ?_
        show Steps p.tables e below (T9.setTop (mkF m 44 #[.val (.int x0), .val (.int x1), .val (.int x2), .val (.int ((x0 &&& (2147483647 : Int32)) % (9 : Int32))), .val (.int q), .val (.ref (w 0)), .val (.int (1 : Int32))] [])) _
        refine XS.goto X9.here hx rfl (pc0 := 44) (pc' := 248) rfl (hb hby at_44) (by decide) (by decide) ?_
        show Steps p.tables e below (T9.setTop (mkF m 248 #[.val (.int x0), .val (.int x1), .val (.int x2), .val (.int ((x0 &&& (2147483647 : Int32)) % (9 : Int32))), .val (.int q), .val (.ref (w 0)), .val (.int (1 : Int32))] [])) _
        refine XS.aload X9.here hx rfl (hb hby at_248) rfl rfl ?_
        show Steps p.tables e below (T9.setTop (mkF m 250 #[.val (.int x0), .val (.int x1), .val (.int x2), .val (.int ((x0 &&& (2147483647 : Int32)) % (9 : Int32))), .val (.int q), .val (.ref (w 0)), .val (.int (1 : Int32))] [(.ref (w 0))])) _
        refine XS.iload X9.here hx rfl (hb hby at_250) rfl ?_
        show Steps p.tables e below (T9.setTop (mkF m 252 #[.val (.int x0), .val (.int x1), .val (.int x2), .val (.int ((x0 &&& (2147483647 : Int32)) % (9 : Int32))), .val (.int q), .val (.ref (w 0)), .val (.int (1 : Int32))] [(.int q), (.ref (w 0))])) _
        refine st11.trans ?_
        show Steps p.tables e below (T11.setTop (mkF m 255 #[.val (.int x0), .val (.int x1), .val (.int x2), .val (.int ((x0 &&& (2147483647 : Int32)) % (9 : Int32))), .val (.int q), .val (.ref (w 0)), .val (.int (1 : Int32))] [(.int (1 : Int32))])) _
        refine XS.iload X11.here hx rfl (hb hby at_255) rfl ?_
        exact kk)
      obtain ⟨fs, hr, hrun, hended, hW, hsame⟩ := X11.leave (v := some (.int (1 : Int32))) (fun h => by rw [Bd.returns] at h; cases h)
      refine ⟨_, _, pre12 _ ?_, hrun, hended, _, _, rfl, ?_, ⟨_, rfl⟩, hW, hsame.mono (by decide) (by decide)⟩
      · show Steps p.tables e below (T11.setTop (mkF m 257 #[.val (.int x0), .val (.int x1), .val (.int x2), .val (.int ((x0 &&& (2147483647 : Int32)) % (9 : Int32))), .val (.int q), .val (.ref (w 0)), .val (.int (1 : Int32))] [(.int (1 : Int32)), (.int (1 : Int32))])) _
        refine XS.icmpNo X11.here hx rfl (hb hby at_257) rfl (teq (by decide : (1 : Int32) = (1 : Int32))).2 ?_
        show Steps p.tables e below (T11.setTop (mkF m 260 #[.val (.int x0), .val (.int x1), .val (.int x2), .val (.int ((x0 &&& (2147483647 : Int32)) % (9 : Int32))), .val (.int q), .val (.ref (w 0)), .val (.int (1 : Int32))] [])) _
        refine XS.iconst X11.here hx rfl (hb hby at_260) ?_
        show Steps p.tables e below (T11.setTop (mkF m 261 #[.val (.int x0), .val (.int x1), .val (.int x2), .val (.int ((x0 &&& (2147483647 : Int32)) % (9 : Int32))), .val (.int q), .val (.ref (w 0)), .val (.int (1 : Int32))] [(.int (1 : Int32))])) _
        refine XS.goto X11.here hx rfl (pc0 := 261) (pc' := 265) rfl (hb hby at_261) (by decide) (by decide) ?_
        show Steps p.tables e below (T11.setTop (mkF m 265 #[.val (.int x0), .val (.int x1), .val (.int x2), .val (.int ((x0 &&& (2147483647 : Int32)) % (9 : Int32))), .val (.int q), .val (.ref (w 0)), .val (.int (1 : Int32))] [(.int (1 : Int32))])) _
        exact retN X11 hx (t := .boolean) Bd.returns (by simp) (hb hby at_265) hr
      · exact ⟨rfl, N11⟩
    · obtain ⟨cq13, kq13, q13a, q13b, q13c⟩ := isOf hZ e9 EX.1
      obtain ⟨vv13, _, ⟨T13, L13, k13, n13⟩, -, X13, ⟨Lc13, hQ13, l13, y13, z13⟩, st13⟩ := X9.virtualBack hx (y := (⟨"com/example/pledgeline/pledgeline/Builtin", "takes", "(I)Z"⟩ : MethodName)) (z := (⟨"com/example/pledgeline/pledgeline/Builtin", "takes", "(I)Z"⟩ : MethodName)) hown (mvT hZ (hw _ (List.mem_of_getElem? (i := 4) rfl))) (mvT hZ (hw _ (List.mem_of_getElem? (i := 5) rfl))) (notFace_of_selects (args := #[]) (mvT hZ (hw _ (List.mem_of_getElem? (i := 7) rfl)))) (mvT hZ (hw _ (List.mem_of_getElem? (i := 7) rfl))) (mvT hZ (hw _ (List.mem_of_getElem? (i := 6) rfl))) (by decide) (backOf (W := 0) (rm_tk l Z a0 hw [] (w 0) q (1 : Int32) (2147483647 : Int32) h0 n0 Z0 FF.1 FG.1) hZ (hw _ (List.mem_of_getElem? (i := 8) rfl)) (hw _ (List.mem_of_getElem? (i := 2) rfl)) (by decide) (by decide)) q13a q13c (g := (mkF m 252 #[.val (.int x0), .val (.int x1), .val (.int x2), .val (.int ((x0 &&& (2147483647 : Int32)) % (9 : Int32))), .val (.int q), .val (.ref (w 0)), .val (.int (0 : Int32))] [(.int q), (.ref (w 0))])) rfl (by rw [hml]; rfl) (Steps.refl _) (argsL := [(.int q)]) (rest := []) (lenOf own_pd_0 rfl) rfl (by show 2 * 0 + _ ≤ _; exact Nat.le_of_eq rfl) (hb hby at_252) (fun _ _ => ⟨rfl, e9, (by decide : 0 + 0 ≤ _), (by decide : 0 + 0 ≤ _)⟩)
      dsimp only [Pt.U, Pt.locs, Pt.cells, Pt.slots] at X13 l13 y13 z13 st13 hQ13
      subst l13 y13 z13
      rw [own_tk_none hc34] at hQ13
      obtain ⟨rfl, N13q, e13⟩ := hQ13
      have N13 := Fr.app N0 N13q
      have pre14 : ∀ t, Steps p.tables e below (T13.setTop (mkF m 257 #[.val (.int x0), .val (.int x1), .val (.int x2), .val (.int ((x0 &&& (2147483647 : Int32)) % (9 : Int32))), .val (.int q), .val (.ref (w 0)), .val (.int (0 : Int32))] [(.int (0 : Int32)), (.int (0 : Int32))])) t → Steps p.tables e below (s₁.setTop (entryFrame m #[(.int x0), (.int x1), (.int x2)] maxLocals)) t := fun tt kk => pre10 tt (by
        show Steps p.tables e below (T9.setTop (mkF m 34 #[.val (.int x0), .val (.int x1), .val (.int x2), .val (.int ((x0 &&& (2147483647 : Int32)) % (9 : Int32))), .val (.int q), .val (.ref (w 0)), .unset] [(.int q)])) _
        refine XS.ifYes X9.here hx rfl (pc0 := 34) (pc' := 41) rfl (hb hby at_34) rfl ((if0 _ _).trans (flt hc34).2.2.2) (by decide) (by decide) ?_
        show Steps p.tables e below (T9.setTop (mkF m 41 #[.val (.int x0), .val (.int x1), .val (.int x2), .val (.int ((x0 &&& (2147483647 : Int32)) % (9 : Int32))), .val (.int q), .val (.ref (w 0)), .unset] [])) _
        refine XS.iconst X9.here hx rfl (hb hby at_41) ?_
        show Steps p.tables e below (T9.setTop (mkF m 42 #[.val (.int x0), .val (.int x1), .val (.int x2), .val (.int ((x0 &&& (2147483647 : Int32)) % (9 : Int32))), .val (.int q), .val (.ref (w 0)), .unset] [(.int (0 : Int32))])) _
        refine XS.istore X9.here hx rfl (hb hby at_42) rfl (l' := #[.val (.int x0), .val (.int x1), .val (.int x2), .val (.int ((x0 &&& (2147483647 : Int32)) % (9 : Int32))), .val (.int q), .val (.ref (w 0)), .val (.int (0 : Int32))]) rfl ?_
        show Steps p.tables e below (T9.setTop (mkF m 44 #[.val (.int x0), .val (.int x1), .val (.int x2), .val (.int ((x0 &&& (2147483647 : Int32)) % (9 : Int32))), .val (.int q), .val (.ref (w 0)), .val (.int (0 : Int32))] [])) _
        refine XS.goto X9.here hx rfl (pc0 := 44) (pc' := 248) rfl (hb hby at_44) (by decide) (by decide) ?_
        show Steps p.tables e below (T9.setTop (mkF m 248 #[.val (.int x0), .val (.int x1), .val (.int x2), .val (.int ((x0 &&& (2147483647 : Int32)) % (9 : Int32))), .val (.int q), .val (.ref (w 0)), .val (.int (0 : Int32))] [])) _
        refine XS.aload X9.here hx rfl (hb hby at_248) rfl rfl ?_
        show Steps p.tables e below (T9.setTop (mkF m 250 #[.val (.int x0), .val (.int x1), .val (.int x2), .val (.int ((x0 &&& (2147483647 : Int32)) % (9 : Int32))), .val (.int q), .val (.ref (w 0)), .val (.int (0 : Int32))] [(.ref (w 0))])) _
        refine XS.iload X9.here hx rfl (hb hby at_250) rfl ?_
        show Steps p.tables e below (T9.setTop (mkF m 252 #[.val (.int x0), .val (.int x1), .val (.int x2), .val (.int ((x0 &&& (2147483647 : Int32)) % (9 : Int32))), .val (.int q), .val (.ref (w 0)), .val (.int (0 : Int32))] [(.int q), (.ref (w 0))])) _
        refine st13.trans ?_
        show Steps p.tables e below (T13.setTop (mkF m 255 #[.val (.int x0), .val (.int x1), .val (.int x2), .val (.int ((x0 &&& (2147483647 : Int32)) % (9 : Int32))), .val (.int q), .val (.ref (w 0)), .val (.int (0 : Int32))] [(.int (0 : Int32))])) _
        refine XS.iload X13.here hx rfl (hb hby at_255) rfl ?_
        exact kk)
      obtain ⟨fs, hr, hrun, hended, hW, hsame⟩ := X13.leave (v := some (.int (1 : Int32))) (fun h => by rw [Bd.returns] at h; cases h)
      refine ⟨_, _, pre14 _ ?_, hrun, hended, _, _, rfl, ?_, ⟨_, rfl⟩, hW, hsame.mono (by decide) (by decide)⟩
      · show Steps p.tables e below (T13.setTop (mkF m 257 #[.val (.int x0), .val (.int x1), .val (.int x2), .val (.int ((x0 &&& (2147483647 : Int32)) % (9 : Int32))), .val (.int q), .val (.ref (w 0)), .val (.int (0 : Int32))] [(.int (0 : Int32)), (.int (0 : Int32))])) _
        refine XS.icmpNo X13.here hx rfl (hb hby at_257) rfl (teq (by decide : (0 : Int32) = (0 : Int32))).2 ?_
        show Steps p.tables e below (T13.setTop (mkF m 260 #[.val (.int x0), .val (.int x1), .val (.int x2), .val (.int ((x0 &&& (2147483647 : Int32)) % (9 : Int32))), .val (.int q), .val (.ref (w 0)), .val (.int (0 : Int32))] [])) _
        refine XS.iconst X13.here hx rfl (hb hby at_260) ?_
        show Steps p.tables e below (T13.setTop (mkF m 261 #[.val (.int x0), .val (.int x1), .val (.int x2), .val (.int ((x0 &&& (2147483647 : Int32)) % (9 : Int32))), .val (.int q), .val (.ref (w 0)), .val (.int (0 : Int32))] [(.int (1 : Int32))])) _
        refine XS.goto X13.here hx rfl (pc0 := 261) (pc' := 265) rfl (hb hby at_261) (by decide) (by decide) ?_
        show Steps p.tables e below (T13.setTop (mkF m 265 #[.val (.int x0), .val (.int x1), .val (.int x2), .val (.int ((x0 &&& (2147483647 : Int32)) % (9 : Int32))), .val (.int q), .val (.ref (w 0)), .val (.int (0 : Int32))] [(.int (1 : Int32))])) _
        exact retN X13 hx (t := .boolean) Bd.returns (by simp) (hb hby at_265) hr
      · exact ⟨rfl, N13⟩
  · have pre15 : ∀ t, Steps p.tables e below (T6.setTop (mkF m 49 #[.val (.int x0), .val (.int x1), .val (.int x2), .val (.int ((x0 &&& (2147483647 : Int32)) % (9 : Int32))), .val (.int q), .unset, .unset] [(.int (1 : Int32)), (.int ((x0 &&& (2147483647 : Int32)) % (9 : Int32)))])) t → Steps p.tables e below (s₁.setTop (entryFrame m #[(.int x0), (.int x1), (.int x2)] maxLocals)) t := fun tt kk => pre8 tt (by
      show Steps p.tables e below (T6.setTop (mkF m 24 #[.val (.int x0), .val (.int x1), .val (.int x2), .val (.int ((x0 &&& (2147483647 : Int32)) % (9 : Int32))), .val (.int q), .unset, .unset] [(.int ((x0 &&& (2147483647 : Int32)) % (9 : Int32)))])) _
      refine XS.ifYes X6.here hx rfl (pc0 := 24) (pc' := 47) rfl (hb hby at_24) rfl ((if0 _ _).trans (feq hc24).2) (by decide) (by decide) ?_
      show Steps p.tables e below (T6.setTop (mkF m 47 #[.val (.int x0), .val (.int x1), .val (.int x2), .val (.int ((x0 &&& (2147483647 : Int32)) % (9 : Int32))), .val (.int q), .unset, .unset] [])) _
      refine XS.iloadN X6.here hx rfl (hb hby at_47) rfl ?_
      show Steps p.tables e below (T6.setTop (mkF m 48 #[.val (.int x0), .val (.int x1), .val (.int x2), .val (.int ((x0 &&& (2147483647 : Int32)) % (9 : Int32))), .val (.int q), .unset, .unset] [(.int ((x0 &&& (2147483647 : Int32)) % (9 : Int32)))])) _
      refine XS.iconst X6.here hx rfl (hb hby at_48) ?_
      exact kk)
    by_cases hc49 : ((x0 &&& (2147483647 : Int32)) % (9 : Int32)) = (1 : Int32)
    · obtain ⟨T16, X16, e16, st16⟩ := getS2 X6 hx hZ hown (host := "") (Or.inl (hw _ (List.mem_of_getElem? (i := 13) rfl))) Via.refl e6 ST.2.1 (g := (mkF m 52 #[.val (.int x0), .val (.int x1), .val (.int x2), .val (.int ((x0 &&& (2147483647 : Int32)) % (9 : Int32))), .val (.int q), .unset, .unset] [])) rfl (hb hby at_52)
      have pre17 : ∀ t, Steps p.tables e below (T16.setTop (mkF m 59 #[.val (.int x0), .val (.int x1), .val (.int x2), .val (.int ((x0 &&& (2147483647 : Int32)) % (9 : Int32))), .val (.int q), .val (.ref (w 1)), .unset] [(.int q)])) t → Steps p.tables e below (s₁.setTop (entryFrame m #[(.int x0), (.int x1), (.int x2)] maxLocals)) t := fun tt kk => pre15 tt (by
        show Steps p.tables e below (T6.setTop (mkF m 49 #[.val (.int x0), .val (.int x1), .val (.int x2), .val (.int ((x0 &&& (2147483647 : Int32)) % (9 : Int32))), .val (.int q), .unset, .unset] [(.int (1 : Int32)), (.int ((x0 &&& (2147483647 : Int32)) % (9 : Int32)))])) _
        refine XS.icmpNo X6.here hx rfl (hb hby at_49) rfl (teq hc49).2 ?_
        show Steps p.tables e below (T6.setTop (mkF m 52 #[.val (.int x0), .val (.int x1), .val (.int x2), .val (.int ((x0 &&& (2147483647 : Int32)) % (9 : Int32))), .val (.int q), .unset, .unset] [])) _
        refine st16 _ ?_
        show Steps p.tables e below (T16.setTop (mkF m 55 #[.val (.int x0), .val (.int x1), .val (.int x2), .val (.int ((x0 &&& (2147483647 : Int32)) % (9 : Int32))), .val (.int q), .unset, .unset] [(.ref (w 1))])) _
        refine XS.astore X16.here hx rfl (hb hby at_55) rfl rfl (l' := #[.val (.int x0), .val (.int x1), .val (.int x2), .val (.int ((x0 &&& (2147483647 : Int32)) % (9 : Int32))), .val (.int q), .val (.ref (w 1)), .unset]) rfl ?_
        show Steps p.tables e below (T16.setTop (mkF m 57 #[.val (.int x0), .val (.int x1), .val (.int x2), .val (.int ((x0 &&& (2147483647 : Int32)) % (9 : Int32))), .val (.int q), .val (.ref (w 1)), .unset] [])) _
        refine XS.iload X16.here hx rfl (hb hby at_57) rfl ?_
        exact kk)
      by_cases hc59 : (0 : Int32) < q
      · obtain ⟨cq18, kq18, q18a, q18b, q18c⟩ := isOf hZ e16 EX.2.1
        obtain ⟨vv18, _, ⟨T18, L18, k18, n18⟩, -, X18, ⟨Lc18, hQ18, l18, y18, z18⟩, st18⟩ := X16.virtualBack hx (y := (⟨"com/example/pledgeline/pledgeline/Builtin", "takes", "(I)Z"⟩ : MethodName)) (z := (⟨"com/example/pledgeline/pledgeline/Builtin", "takes", "(I)Z"⟩ : MethodName)) hown (mvT hZ (hw _ (List.mem_of_getElem? (i := 4) rfl))) (mvT hZ (hw _ (List.mem_of_getElem? (i := 5) rfl))) (notFace_of_selects (args := #[]) (mvT hZ (hw _ (List.mem_of_getElem? (i := 15) rfl)))) (mvT hZ (hw _ (List.mem_of_getElem? (i := 15) rfl))) (mvT hZ (hw _ (List.mem_of_getElem? (i := 6) rfl))) (by decide) (backOf (W := 0) (rm_tk l Z a0 hw [] (w 1) q (1 : Int32) (2147483647 : Int32) h0 n0 Z0 FF.2.1 FG.2.1) hZ (hw _ (List.mem_of_getElem? (i := 8) rfl)) (hw _ (List.mem_of_getElem? (i := 2) rfl)) (by decide) (by decide)) q18a q18c (g := (mkF m 252 #[.val (.int x0), .val (.int x1), .val (.int x2), .val (.int ((x0 &&& (2147483647 : Int32)) % (9 : Int32))), .val (.int q), .val (.ref (w 1)), .val (.int (1 : Int32))] [(.int q), (.ref (w 1))])) rfl (by rw [hml]; rfl) (Steps.refl _) (argsL := [(.int q)]) (rest := []) (lenOf own_pd_0 rfl) rfl (by show 2 * 0 + _ ≤ _; exact Nat.le_of_eq rfl) (hb hby at_252) (fun _ _ => ⟨rfl, e16, (by decide : 0 + 0 ≤ _), (by decide : 0 + 0 ≤ _)⟩)
        dsimp only [Pt.U, Pt.locs, Pt.cells, Pt.slots] at X18 l18 y18 z18 st18 hQ18
        subst l18 y18 z18
        rw [own_tk_all hc59] at hQ18
        obtain ⟨rfl, N18q, e18⟩ := hQ18
        have N18 := Fr.app N0 N18q
        have pre19 : ∀ t, Steps p.tables e below (T18.setTop (mkF m 257 #[.val (.int x0), .val (.int x1), .val (.int x2), .val (.int ((x0 &&& (2147483647 : Int32)) % (9 : Int32))), .val (.int q), .val (.ref (w 1)), .val (.int (1 : Int32))] [(.int (1 : Int32)), (.int (1 : Int32))])) t → Steps p.tables e below (s₁.setTop (entryFrame m #[(.int x0), (.int x1), (.int x2)] maxLocals)) t := fun tt kk => pre17 tt (by
          show Steps p.tables e below (T16.setTop (mkF m 59 #[.val (.int x0), .val (.int x1), .val (.int x2), .val (.int ((x0 &&& (2147483647 : Int32)) % (9 : Int32))), .val (.int q), .val (.ref (w 1)), .unset] [(.int q)])) _
          refine XS.ifNo X16.here hx rfl (hb hby at_59) rfl ((if0 _ _).trans (tlt hc59).2.2.2) ?_
          show Steps p.tables e below (T16.setTop (mkF m 62 #[.val (.int x0), .val (.int x1), .val (.int x2), .val (.int ((x0 &&& (2147483647 : Int32)) % (9 : Int32))), .val (.int q), .val (.ref (w 1)), .unset] [])) _
          refine XS.iconst X16.here hx rfl (hb hby at_62) ?_
          show Steps p.tables e below (T16.setTop (mkF m 63 #[.val (.int x0), .val (.int x1), .val (.int x2), .val (.int ((x0 &&& (2147483647 : Int32)) % (9 : Int32))), .val (.int q), .val (.ref (w 1)), .unset] [(.int (1 : Int32))])) _
          refine XS.goto X16.here hx rfl (pc0 := 63) (pc' := 67) rfl (hb hby at_63) (by decide) (by decide) ?_
          show Steps p.tables e below (T16.setTop (mkF m 67 #[.val (.int x0), .val (.int x1), .val (.int x2), .val (.int ((x0 &&& (2147483647 : Int32)) % (9 : Int32))), .val (.int q), .val (.ref (w 1)), .unset] [(.int (1 : Int32))])) _
          refine XS.istore X16.here hx rfl (hb hby at_67) rfl (l' := #[.val (.int x0), .val (.int x1), .val (.int x2), .val (.int ((x0 &&& (2147483647 : Int32)) % (9 : Int32))), .val (.int q), .val (.ref (w 1)), .val (.int (1 : Int32))]) rfl ?_
          show Steps p.tables e below (T16.setTop (mkF m 69 #[.val (.int x0), .val (.int x1), .val (.int x2), .val (.int ((x0 &&& (2147483647 : Int32)) % (9 : Int32))), .val (.int q), .val (.ref (w 1)), .val (.int (1 : Int32))] [])) _
          refine XS.goto X16.here hx rfl (pc0 := 69) (pc' := 248) rfl (hb hby at_69) (by decide) (by decide) ?_
          show Steps p.tables e below (T16.setTop (mkF m 248 #[.val (.int x0), .val (.int x1), .val (.int x2), .val (.int ((x0 &&& (2147483647 : Int32)) % (9 : Int32))), .val (.int q), .val (.ref (w 1)), .val (.int (1 : Int32))] [])) _
          refine XS.aload X16.here hx rfl (hb hby at_248) rfl rfl ?_
          show Steps p.tables e below (T16.setTop (mkF m 250 #[.val (.int x0), .val (.int x1), .val (.int x2), .val (.int ((x0 &&& (2147483647 : Int32)) % (9 : Int32))), .val (.int q), .val (.ref (w 1)), .val (.int (1 : Int32))] [(.ref (w 1))])) _
          refine XS.iload X16.here hx rfl (hb hby at_250) rfl ?_
          show Steps p.tables e below (T16.setTop (mkF m 252 #[.val (.int x0), .val (.int x1), .val (.int x2), .val (.int ((x0 &&& (2147483647 : Int32)) % (9 : Int32))), .val (.int q), .val (.ref (w 1)), .val (.int (1 : Int32))] [(.int q), (.ref (w 1))])) _
          refine st18.trans ?_
          show Steps p.tables e below (T18.setTop (mkF m 255 #[.val (.int x0), .val (.int x1), .val (.int x2), .val (.int ((x0 &&& (2147483647 : Int32)) % (9 : Int32))), .val (.int q), .val (.ref (w 1)), .val (.int (1 : Int32))] [(.int (1 : Int32))])) _
          refine XS.iload X18.here hx rfl (hb hby at_255) rfl ?_
          exact kk)
        obtain ⟨fs, hr, hrun, hended, hW, hsame⟩ := X18.leave (v := some (.int (1 : Int32))) (fun h => by rw [Bd.returns] at h; cases h)
        refine ⟨_, _, pre19 _ ?_, hrun, hended, _, _, rfl, ?_, ⟨_, rfl⟩, hW, hsame.mono (by decide) (by decide)⟩
        · show Steps p.tables e below (T18.setTop (mkF m 257 #[.val (.int x0), .val (.int x1), .val (.int x2), .val (.int ((x0 &&& (2147483647 : Int32)) % (9 : Int32))), .val (.int q), .val (.ref (w 1)), .val (.int (1 : Int32))] [(.int (1 : Int32)), (.int (1 : Int32))])) _
          refine XS.icmpNo X18.here hx rfl (hb hby at_257) rfl (teq (by decide : (1 : Int32) = (1 : Int32))).2 ?_
          show Steps p.tables e below (T18.setTop (mkF m 260 #[.val (.int x0), .val (.int x1), .val (.int x2), .val (.int ((x0 &&& (2147483647 : Int32)) % (9 : Int32))), .val (.int q), .val (.ref (w 1)), .val (.int (1 : Int32))] [])) _
          refine XS.iconst X18.here hx rfl (hb hby at_260) ?_
          show Steps p.tables e below (T18.setTop (mkF m 261 #[.val (.int x0), .val (.int x1), .val (.int x2), .val (.int ((x0 &&& (2147483647 : Int32)) % (9 : Int32))), .val (.int q), .val (.ref (w 1)), .val (.int (1 : Int32))] [(.int (1 : Int32))])) _
          refine XS.goto X18.here hx rfl (pc0 := 261) (pc' := 265) rfl (hb hby at_261) (by decide) (by decide) ?_
          show Steps p.tables e below (T18.setTop (mkF m 265 #[.val (.int x0), .val (.int x1), .val (.int x2), .val (.int ((x0 &&& (2147483647 : Int32)) % (9 : Int32))), .val (.int q), .val (.ref (w 1)), .val (.int (1 : Int32))] [(.int (1 : Int32))])) _
          exact retN X18 hx (t := .boolean) Bd.returns (by simp) (hb hby at_265) hr
        · exact ⟨rfl, N18⟩
      · obtain ⟨cq20, kq20, q20a, q20b, q20c⟩ := isOf hZ e16 EX.2.1
        obtain ⟨vv20, _, ⟨T20, L20, k20, n20⟩, -, X20, ⟨Lc20, hQ20, l20, y20, z20⟩, st20⟩ := X16.virtualBack hx (y := (⟨"com/example/pledgeline/pledgeline/Builtin", "takes", "(I)Z"⟩ : MethodName)) (z := (⟨"com/example/pledgeline/pledgeline/Builtin", "takes", "(I)Z"⟩ : MethodName)) hown (mvT hZ (hw _ (List.mem_of_getElem? (i := 4) rfl))) (mvT hZ (hw _ (List.mem_of_getElem? (i := 5) rfl))) (notFace_of_selects (args := #[]) (mvT hZ (hw _ (List.mem_of_getElem? (i := 15) rfl)))) (mvT hZ (hw _ (List.mem_of_getElem? (i := 15) rfl))) (mvT hZ (hw _ (List.mem_of_getElem? (i := 6) rfl))) (by decide) (backOf (W := 0) (rm_tk l Z a0 hw [] (w 1) q (1 : Int32) (2147483647 : Int32) h0 n0 Z0 FF.2.1 FG.2.1) hZ (hw _ (List.mem_of_getElem? (i := 8) rfl)) (hw _ (List.mem_of_getElem? (i := 2) rfl)) (by decide) (by decide)) q20a q20c (g := (mkF m 252 #[.val (.int x0), .val (.int x1), .val (.int x2), .val (.int ((x0 &&& (2147483647 : Int32)) % (9 : Int32))), .val (.int q), .val (.ref (w 1)), .val (.int (0 : Int32))] [(.int q), (.ref (w 1))])) rfl (by rw [hml]; rfl) (Steps.refl _) (argsL := [(.int q)]) (rest := []) (lenOf own_pd_0 rfl) rfl (by show 2 * 0 + _ ≤ _; exact Nat.le_of_eq rfl) (hb hby at_252) (fun _ _ => ⟨rfl, e16, (by decide : 0 + 0 ≤ _), (by decide : 0 + 0 ≤ _)⟩)
        dsimp only [Pt.U, Pt.locs, Pt.cells, Pt.slots] at X20 l20 y20 z20 st20 hQ20
        subst l20 y20 z20
        rw [own_tk_none hc59] at hQ20
        obtain ⟨rfl, N20q, e20⟩ := hQ20
        have N20 := Fr.app N0 N20q
        have pre21 : ∀ t, Steps p.tables e below (T20.setTop (mkF m 257 #[.val (.int x0), .val (.int x1), .val (.int x2), .val (.int ((x0 &&& (2147483647 : Int32)) % (9 : Int32))), .val (.int q), .val (.ref (w 1)), .val (.int (0 : Int32))] [(.int (0 : Int32)), (.int (0 : Int32))])) t → Steps p.tables e below (s₁.setTop (entryFrame m #[(.int x0), (.int x1), (.int x2)] maxLocals)) t := fun tt kk => pre17 tt (by
          show Steps p.tables e below (T16.setTop (mkF m 59 #[.val (.int x0), .val (.int x1), .val (.int x2), .val (.int ((x0 &&& (2147483647 : Int32)) % (9 : Int32))), .val (.int q), .val (.ref (w 1)), .unset] [(.int q)])) _
          refine XS.ifYes X16.here hx rfl (pc0 := 59) (pc' := 66) rfl (hb hby at_59) rfl ((if0 _ _).trans (flt hc59).2.2.2) (by decide) (by decide) ?_
          show Steps p.tables e below (T16.setTop (mkF m 66 #[.val (.int x0), .val (.int x1), .val (.int x2), .val (.int ((x0 &&& (2147483647 : Int32)) % (9 : Int32))), .val (.int q), .val (.ref (w 1)), .unset] [])) _
          refine XS.iconst X16.here hx rfl (hb hby at_66) ?_
          show Steps p.tables e below (T16.setTop (mkF m 67 #[.val (.int x0), .val (.int x1), .val (.int x2), .val (.int ((x0 &&& (2147483647 : Int32)) % (9 : Int32))), .val (.int q), .val (.ref (w 1)), .unset] [(.int (0 : Int32))])) _
          refine XS.istore X16.here hx rfl (hb hby at_67) rfl (l' := #[.val (.int x0), .val (.int x1), .val (.int x2), .val (.int ((x0 &&& (2147483647 : Int32)) % (9 : Int32))), .val (.int q), .val (.ref (w 1)), .val (.int (0 : Int32))]) rfl ?_
          show Steps p.tables e below (T16.setTop (mkF m 69 #[.val (.int x0), .val (.int x1), .val (.int x2), .val (.int ((x0 &&& (2147483647 : Int32)) % (9 : Int32))), .val (.int q), .val (.ref (w 1)), .val (.int (0 : Int32))] [])) _
          refine XS.goto X16.here hx rfl (pc0 := 69) (pc' := 248) rfl (hb hby at_69) (by decide) (by decide) ?_
          show Steps p.tables e below (T16.setTop (mkF m 248 #[.val (.int x0), .val (.int x1), .val (.int x2), .val (.int ((x0 &&& (2147483647 : Int32)) % (9 : Int32))), .val (.int q), .val (.ref (w 1)), .val (.int (0 : Int32))] [])) _
          refine XS.aload X16.here hx rfl (hb hby at_248) rfl rfl ?_
          show Steps p.tables e below (T16.setTop (mkF m 250 #[.val (.int x0), .val (.int x1), .val (.int x2), .val (.int ((x0 &&& (2147483647 : Int32)) % (9 : Int32))), .val (.int q), .val (.ref (w 1)), .val (.int (0 : Int32))] [(.ref (w 1))])) _
          refine XS.iload X16.here hx rfl (hb hby at_250) rfl ?_
          show Steps p.tables e below (T16.setTop (mkF m 252 #[.val (.int x0), .val (.int x1), .val (.int x2), .val (.int ((x0 &&& (2147483647 : Int32)) % (9 : Int32))), .val (.int q), .val (.ref (w 1)), .val (.int (0 : Int32))] [(.int q), (.ref (w 1))])) _
          refine st20.trans ?_
          show Steps p.tables e below (T20.setTop (mkF m 255 #[.val (.int x0), .val (.int x1), .val (.int x2), .val (.int ((x0 &&& (2147483647 : Int32)) % (9 : Int32))), .val (.int q), .val (.ref (w 1)), .val (.int (0 : Int32))] [(.int (0 : Int32))])) _
          refine XS.iload X20.here hx rfl (hb hby at_255) rfl ?_
          exact kk)
        obtain ⟨fs, hr, hrun, hended, hW, hsame⟩ := X20.leave (v := some (.int (1 : Int32))) (fun h => by rw [Bd.returns] at h; cases h)
        refine ⟨_, _, pre21 _ ?_, hrun, hended, _, _, rfl, ?_, ⟨_, rfl⟩, hW, hsame.mono (by decide) (by decide)⟩
        · show Steps p.tables e below (T20.setTop (mkF m 257 #[.val (.int x0), .val (.int x1), .val (.int x2), .val (.int ((x0 &&& (2147483647 : Int32)) % (9 : Int32))), .val (.int q), .val (.ref (w 1)), .val (.int (0 : Int32))] [(.int (0 : Int32)), (.int (0 : Int32))])) _
          refine XS.icmpNo X20.here hx rfl (hb hby at_257) rfl (teq (by decide : (0 : Int32) = (0 : Int32))).2 ?_
          show Steps p.tables e below (T20.setTop (mkF m 260 #[.val (.int x0), .val (.int x1), .val (.int x2), .val (.int ((x0 &&& (2147483647 : Int32)) % (9 : Int32))), .val (.int q), .val (.ref (w 1)), .val (.int (0 : Int32))] [])) _
          refine XS.iconst X20.here hx rfl (hb hby at_260) ?_
          show Steps p.tables e below (T20.setTop (mkF m 261 #[.val (.int x0), .val (.int x1), .val (.int x2), .val (.int ((x0 &&& (2147483647 : Int32)) % (9 : Int32))), .val (.int q), .val (.ref (w 1)), .val (.int (0 : Int32))] [(.int (1 : Int32))])) _
          refine XS.goto X20.here hx rfl (pc0 := 261) (pc' := 265) rfl (hb hby at_261) (by decide) (by decide) ?_
          show Steps p.tables e below (T20.setTop (mkF m 265 #[.val (.int x0), .val (.int x1), .val (.int x2), .val (.int ((x0 &&& (2147483647 : Int32)) % (9 : Int32))), .val (.int q), .val (.ref (w 1)), .val (.int (0 : Int32))] [(.int (1 : Int32))])) _
          exact retN X20 hx (t := .boolean) Bd.returns (by simp) (hb hby at_265) hr
        · exact ⟨rfl, N20⟩
    · have pre22 : ∀ t, Steps p.tables e below (T6.setTop (mkF m 74 #[.val (.int x0), .val (.int x1), .val (.int x2), .val (.int ((x0 &&& (2147483647 : Int32)) % (9 : Int32))), .val (.int q), .unset, .unset] [(.int (2 : Int32)), (.int ((x0 &&& (2147483647 : Int32)) % (9 : Int32)))])) t → Steps p.tables e below (s₁.setTop (entryFrame m #[(.int x0), (.int x1), (.int x2)] maxLocals)) t := fun tt kk => pre15 tt (by
        show Steps p.tables e below (T6.setTop (mkF m 49 #[.val (.int x0), .val (.int x1), .val (.int x2), .val (.int ((x0 &&& (2147483647 : Int32)) % (9 : Int32))), .val (.int q), .unset, .unset] [(.int (1 : Int32)), (.int ((x0 &&& (2147483647 : Int32)) % (9 : Int32)))])) _
        refine XS.icmpYes X6.here hx rfl (pc0 := 49) (pc' := 72) rfl (hb hby at_49) rfl (feq hc49).2 (by decide) (by decide) ?_
        show Steps p.tables e below (T6.setTop (mkF m 72 #[.val (.int x0), .val (.int x1), .val (.int x2), .val (.int ((x0 &&& (2147483647 : Int32)) % (9 : Int32))), .val (.int q), .unset, .unset] [])) _
        refine XS.iloadN X6.here hx rfl (hb hby at_72) rfl ?_
        show Steps p.tables e below (T6.setTop (mkF m 73 #[.val (.int x0), .val (.int x1), .val (.int x2), .val (.int ((x0 &&& (2147483647 : Int32)) % (9 : Int32))), .val (.int q), .unset, .unset] [(.int ((x0 &&& (2147483647 : Int32)) % (9 : Int32)))])) _
        refine XS.iconst X6.here hx rfl (hb hby at_73) ?_
        exact kk)
      by_cases hc74 : ((x0 &&& (2147483647 : Int32)) % (9 : Int32)) = (2 : Int32)
      · obtain ⟨T23, X23, e23, st23⟩ := getS2 X6 hx hZ hown (host := "") (Or.inl (hw _ (List.mem_of_getElem? (i := 17) rfl))) Via.refl e6 ST.2.2.1 (g := (mkF m 77 #[.val (.int x0), .val (.int x1), .val (.int x2), .val (.int ((x0 &&& (2147483647 : Int32)) % (9 : Int32))), .val (.int q), .unset, .unset] [])) rfl (hb hby at_77)
        have pre24 : ∀ t, Steps p.tables e below (T23.setTop (mkF m 85 #[.val (.int x0), .val (.int x1), .val (.int x2), .val (.int ((x0 &&& (2147483647 : Int32)) % (9 : Int32))), .val (.int q), .val (.ref (w 2)), .unset] [(.int (1 : Int32)), (.int q)])) t → Steps p.tables e below (s₁.setTop (entryFrame m #[(.int x0), (.int x1), (.int x2)] maxLocals)) t := fun tt kk => pre22 tt (by
          show Steps p.tables e below (T6.setTop (mkF m 74 #[.val (.int x0), .val (.int x1), .val (.int x2), .val (.int ((x0 &&& (2147483647 : Int32)) % (9 : Int32))), .val (.int q), .unset, .unset] [(.int (2 : Int32)), (.int ((x0 &&& (2147483647 : Int32)) % (9 : Int32)))])) _
          refine XS.icmpNo X6.here hx rfl (hb hby at_74) rfl (teq hc74).2 ?_
          show Steps p.tables e below (T6.setTop (mkF m 77 #[.val (.int x0), .val (.int x1), .val (.int x2), .val (.int ((x0 &&& (2147483647 : Int32)) % (9 : Int32))), .val (.int q), .unset, .unset] [])) _
          refine st23 _ ?_
          show Steps p.tables e below (T23.setTop (mkF m 80 #[.val (.int x0), .val (.int x1), .val (.int x2), .val (.int ((x0 &&& (2147483647 : Int32)) % (9 : Int32))), .val (.int q), .unset, .unset] [(.ref (w 2))])) _
          refine XS.astore X23.here hx rfl (hb hby at_80) rfl rfl (l' := #[.val (.int x0), .val (.int x1), .val (.int x2), .val (.int ((x0 &&& (2147483647 : Int32)) % (9 : Int32))), .val (.int q), .val (.ref (w 2)), .unset]) rfl ?_
          show Steps p.tables e below (T23.setTop (mkF m 82 #[.val (.int x0), .val (.int x1), .val (.int x2), .val (.int ((x0 &&& (2147483647 : Int32)) % (9 : Int32))), .val (.int q), .val (.ref (w 2)), .unset] [])) _
          refine XS.iload X23.here hx rfl (hb hby at_82) rfl ?_
          show Steps p.tables e below (T23.setTop (mkF m 84 #[.val (.int x0), .val (.int x1), .val (.int x2), .val (.int ((x0 &&& (2147483647 : Int32)) % (9 : Int32))), .val (.int q), .val (.ref (w 2)), .unset] [(.int q)])) _
          refine XS.iconst X23.here hx rfl (hb hby at_84) ?_
          exact kk)
        by_cases hc85 : q = (1 : Int32)
        · obtain ⟨cq25, kq25, q25a, q25b, q25c⟩ := isOf hZ e23 EX.2.2.1
          obtain ⟨vv25, _, ⟨T25, L25, k25, n25⟩, -, X25, ⟨Lc25, hQ25, l25, y25, z25⟩, st25⟩ := X23.virtualBack hx (y := (⟨"com/example/pledgeline/pledgeline/Builtin", "takes", "(I)Z"⟩ : MethodName)) (z := (⟨"com/example/pledgeline/pledgeline/Builtin", "takes", "(I)Z"⟩ : MethodName)) hown (mvT hZ (hw _ (List.mem_of_getElem? (i := 4) rfl))) (mvT hZ (hw _ (List.mem_of_getElem? (i := 5) rfl))) (notFace_of_selects (args := #[]) (mvT hZ (hw _ (List.mem_of_getElem? (i := 19) rfl)))) (mvT hZ (hw _ (List.mem_of_getElem? (i := 19) rfl))) (mvT hZ (hw _ (List.mem_of_getElem? (i := 6) rfl))) (by decide) (backOf (W := 0) (rm_tk l Z a0 hw [] (w 2) q (1 : Int32) (1 : Int32) h0 n0 Z0 FF.2.2.1 FG.2.2.1) hZ (hw _ (List.mem_of_getElem? (i := 8) rfl)) (hw _ (List.mem_of_getElem? (i := 2) rfl)) (by decide) (by decide)) q25a q25c (g := (mkF m 252 #[.val (.int x0), .val (.int x1), .val (.int x2), .val (.int ((x0 &&& (2147483647 : Int32)) % (9 : Int32))), .val (.int q), .val (.ref (w 2)), .val (.int (1 : Int32))] [(.int q), (.ref (w 2))])) rfl (by rw [hml]; rfl) (Steps.refl _) (argsL := [(.int q)]) (rest := []) (lenOf own_pd_0 rfl) rfl (by show 2 * 0 + _ ≤ _; exact Nat.le_of_eq rfl) (hb hby at_252) (fun _ _ => ⟨rfl, e23, (by decide : 0 + 0 ≤ _), (by decide : 0 + 0 ≤ _)⟩)
          dsimp only [Pt.U, Pt.locs, Pt.cells, Pt.slots] at X25 l25 y25 z25 st25 hQ25
          subst l25 y25 z25
          rw [own_tk_eq hc85] at hQ25
          obtain ⟨rfl, N25q, e25⟩ := hQ25
          have N25 := Fr.app N0 N25q
          have pre26 : ∀ t, Steps p.tables e below (T25.setTop (mkF m 257 #[.val (.int x0), .val (.int x1), .val (.int x2), .val (.int ((x0 &&& (2147483647 : Int32)) % (9 : Int32))), .val (.int q), .val (.ref (w 2)), .val (.int (1 : Int32))] [(.int (1 : Int32)), (.int (1 : Int32))])) t → Steps p.tables e below (s₁.setTop (entryFrame m #[(.int x0), (.int x1), (.int x2)] maxLocals)) t := fun tt kk => pre24 tt (by
            show Steps p.tables e below (T23.setTop (mkF m 85 #[.val (.int x0), .val (.int x1), .val (.int x2), .val (.int ((x0 &&& (2147483647 : Int32)) % (9 : Int32))), .val (.int q), .val (.ref (w 2)), .unset] [(.int (1 : Int32)), (.int q)])) _
            refine XS.icmpNo X23.here hx rfl (hb hby at_85) rfl (teq hc85).2 ?_
            show Steps p.tables e below (T23.setTop (mkF m 88 #[.val (.int x0), .val (.int x1), .val (.int x2), .val (.int ((x0 &&& (2147483647 : Int32)) % (9 : Int32))), .val (.int q), .val (.ref (w 2)), .unset] [])) _
            refine XS.iconst X23.here hx rfl (hb hby at_88) ?_
            show Steps p.tables e below (T23.setTop (mkF m 89 #[.val (.int x0), .val (.int x1), .val (.int x2), .val (.int ((x0 &&& (2147483647 : Int32)) % (9 : Int32))), .val (.int q), .val (.ref (w 2)), .unset] [(.int (1 : Int32))])) _
            refine XS.goto X23.here hx rfl (pc0 := 89) (pc' := 93) rfl (hb hby at_89) (by decide) (by decide) ?_
            show Steps p.tables e below (T23.setTop (mkF m 93 #[.val (.int x0), .val (.int x1), .val (.int x2), .val (.int ((x0 &&& (2147483647 : Int32)) % (9 : Int32))), .val (.int q), .val (.ref (w 2)), .unset] [(.int (1 : Int32))])) _
            refine XS.istore X23.here hx rfl (hb hby at_93) rfl (l' := #[.val (.int x0), .val (.int x1), .val (.int x2), .val (.int ((x0 &&& (2147483647 : Int32)) % (9 : Int32))), .val (.int q), .val (.ref (w 2)), .val (.int (1 : Int32))]) rfl ?_
            show Steps p.tables e below (T23.setTop (mkF m 95 #[.val (.int x0), .val (.int x1), .val (.int x2), .val (.int ((x0 &&& (2147483647 : Int32)) % (9 : Int32))), .val (.int q), .val (.ref (w 2)), .val (.int (1 : Int32))] [])) _
            refine XS.goto X23.here hx rfl (pc0 := 95) (pc' := 248) rfl (hb hby at_95) (by decide) (by decide) ?_
            show Steps p.tables e below (T23.setTop (mkF m 248 #[.val (.int x0), .val (.int x1), .val (.int x2), .val (.int ((x0 &&& (2147483647 : Int32)) % (9 : Int32))), .val (.int q), .val (.ref (w 2)), .val (.int (1 : Int32))] [])) _
            refine XS.aload X23.here hx rfl (hb hby at_248) rfl rfl ?_
            show Steps p.tables e below (T23.setTop (mkF m 250 #[.val (.int x0), .val (.int x1), .val (.int x2), .val (.int ((x0 &&& (2147483647 : Int32)) % (9 : Int32))), .val (.int q), .val (.ref (w 2)), .val (.int (1 : Int32))] [(.ref (w 2))])) _
            refine XS.iload X23.here hx rfl (hb hby at_250) rfl ?_
            show Steps p.tables e below (T23.setTop (mkF m 252 #[.val (.int x0), .val (.int x1), .val (.int x2), .val (.int ((x0 &&& (2147483647 : Int32)) % (9 : Int32))), .val (.int q), .val (.ref (w 2)), .val (.int (1 : Int32))] [(.int q), (.ref (w 2))])) _
            refine st25.trans ?_
            show Steps p.tables e below (T25.setTop (mkF m 255 #[.val (.int x0), .val (.int x1), .val (.int x2), .val (.int ((x0 &&& (2147483647 : Int32)) % (9 : Int32))), .val (.int q), .val (.ref (w 2)), .val (.int (1 : Int32))] [(.int (1 : Int32))])) _
            refine XS.iload X25.here hx rfl (hb hby at_255) rfl ?_
            exact kk)
          obtain ⟨fs, hr, hrun, hended, hW, hsame⟩ := X25.leave (v := some (.int (1 : Int32))) (fun h => by rw [Bd.returns] at h; cases h)
          refine ⟨_, _, pre26 _ ?_, hrun, hended, _, _, rfl, ?_, ⟨_, rfl⟩, hW, hsame.mono (by decide) (by decide)⟩
          · show Steps p.tables e below (T25.setTop (mkF m 257 #[.val (.int x0), .val (.int x1), .val (.int x2), .val (.int ((x0 &&& (2147483647 : Int32)) % (9 : Int32))), .val (.int q), .val (.ref (w 2)), .val (.int (1 : Int32))] [(.int (1 : Int32)), (.int (1 : Int32))])) _
            refine XS.icmpNo X25.here hx rfl (hb hby at_257) rfl (teq (by decide : (1 : Int32) = (1 : Int32))).2 ?_
            show Steps p.tables e below (T25.setTop (mkF m 260 #[.val (.int x0), .val (.int x1), .val (.int x2), .val (.int ((x0 &&& (2147483647 : Int32)) % (9 : Int32))), .val (.int q), .val (.ref (w 2)), .val (.int (1 : Int32))] [])) _
            refine XS.iconst X25.here hx rfl (hb hby at_260) ?_
            show Steps p.tables e below (T25.setTop (mkF m 261 #[.val (.int x0), .val (.int x1), .val (.int x2), .val (.int ((x0 &&& (2147483647 : Int32)) % (9 : Int32))), .val (.int q), .val (.ref (w 2)), .val (.int (1 : Int32))] [(.int (1 : Int32))])) _
            refine XS.goto X25.here hx rfl (pc0 := 261) (pc' := 265) rfl (hb hby at_261) (by decide) (by decide) ?_
            show Steps p.tables e below (T25.setTop (mkF m 265 #[.val (.int x0), .val (.int x1), .val (.int x2), .val (.int ((x0 &&& (2147483647 : Int32)) % (9 : Int32))), .val (.int q), .val (.ref (w 2)), .val (.int (1 : Int32))] [(.int (1 : Int32))])) _
            exact retN X25 hx (t := .boolean) Bd.returns (by simp) (hb hby at_265) hr
          · exact ⟨rfl, N25⟩
        · obtain ⟨cq27, kq27, q27a, q27b, q27c⟩ := isOf hZ e23 EX.2.2.1
          obtain ⟨vv27, _, ⟨T27, L27, k27, n27⟩, -, X27, ⟨Lc27, hQ27, l27, y27, z27⟩, st27⟩ := X23.virtualBack hx (y := (⟨"com/example/pledgeline/pledgeline/Builtin", "takes", "(I)Z"⟩ : MethodName)) (z := (⟨"com/example/pledgeline/pledgeline/Builtin", "takes", "(I)Z"⟩ : MethodName)) hown (mvT hZ (hw _ (List.mem_of_getElem? (i := 4) rfl))) (mvT hZ (hw _ (List.mem_of_getElem? (i := 5) rfl))) (notFace_of_selects (args := #[]) (mvT hZ (hw _ (List.mem_of_getElem? (i := 19) rfl)))) (mvT hZ (hw _ (List.mem_of_getElem? (i := 19) rfl))) (mvT hZ (hw _ (List.mem_of_getElem? (i := 6) rfl))) (by decide) (backOf (W := 0) (rm_tk l Z a0 hw [] (w 2) q (1 : Int32) (1 : Int32) h0 n0 Z0 FF.2.2.1 FG.2.2.1) hZ (hw _ (List.mem_of_getElem? (i := 8) rfl)) (hw _ (List.mem_of_getElem? (i := 2) rfl)) (by decide) (by decide)) q27a q27c (g := (mkF m 252 #[.val (.int x0), .val (.int x1), .val (.int x2), .val (.int ((x0 &&& (2147483647 : Int32)) % (9 : Int32))), .val (.int q), .val (.ref (w 2)), .val (.int (0 : Int32))] [(.int q), (.ref (w 2))])) rfl (by rw [hml]; rfl) (Steps.refl _) (argsL := [(.int q)]) (rest := []) (lenOf own_pd_0 rfl) rfl (by show 2 * 0 + _ ≤ _; exact Nat.le_of_eq rfl) (hb hby at_252) (fun _ _ => ⟨rfl, e23, (by decide : 0 + 0 ≤ _), (by decide : 0 + 0 ≤ _)⟩)
          dsimp only [Pt.U, Pt.locs, Pt.cells, Pt.slots] at X27 l27 y27 z27 st27 hQ27
          subst l27 y27 z27
          rw [own_tk_ne hc85] at hQ27
          obtain ⟨rfl, N27q, e27⟩ := hQ27
          have N27 := Fr.app N0 N27q
          have pre28 : ∀ t, Steps p.tables e below (T27.setTop (mkF m 257 #[.val (.int x0), .val (.int x1), .val (.int x2), .val (.int ((x0 &&& (2147483647 : Int32)) % (9 : Int32))), .val (.int q), .val (.ref (w 2)), .val (.int (0 : Int32))] [(.int (0 : Int32)), (.int (0 : Int32))])) t → Steps p.tables e below (s₁.setTop (entryFrame m #[(.int x0), (.int x1), (.int x2)] maxLocals)) t := fun tt kk => pre24 tt (by
            show Steps p.tables e below (T23.setTop (mkF m 85 #[.val (.int x0), .val (.int x1), .val (.int x2), .val (.int ((x0 &&& (2147483647 : Int32)) % (9 : Int32))), .val (.int q), .val (.ref (w 2)), .unset] [(.int (1 : Int32)), (.int q)])) _
            refine XS.icmpYes X23.here hx rfl (pc0 := 85) (pc' := 92) rfl (hb hby at_85) rfl (feq hc85).2 (by decide) (by decide) ?_
            show Steps p.tables e below (T23.setTop (mkF m 92 #[.val (.int x0), .val (.int x1), .val (.int x2), .val (.int ((x0 &&& (2147483647 : Int32)) % (9 : Int32))), .val (.int q), .val (.ref (w 2)), .unset] [])) _
            refine XS.iconst X23.here hx rfl (hb hby at_92) ?_
            show Steps p.tables e below (T23.setTop (mkF m 93 #[.val (.int x0), .val (.int x1), .val (.int x2), .val (.int ((x0 &&& (2147483647 : Int32)) % (9 : Int32))), .val (.int q), .val (.ref (w 2)), .unset] [(.int (0 : Int32))])) _
            refine XS.istore X23.here hx rfl (hb hby at_93) rfl (l' := #[.val (.int x0), .val (.int x1), .val (.int x2), .val (.int ((x0 &&& (2147483647 : Int32)) % (9 : Int32))), .val (.int q), .val (.ref (w 2)), .val (.int (0 : Int32))]) rfl ?_
            show Steps p.tables e below (T23.setTop (mkF m 95 #[.val (.int x0), .val (.int x1), .val (.int x2), .val (.int ((x0 &&& (2147483647 : Int32)) % (9 : Int32))), .val (.int q), .val (.ref (w 2)), .val (.int (0 : Int32))] [])) _
            refine XS.goto X23.here hx rfl (pc0 := 95) (pc' := 248) rfl (hb hby at_95) (by decide) (by decide) ?_
            show Steps p.tables e below (T23.setTop (mkF m 248 #[.val (.int x0), .val (.int x1), .val (.int x2), .val (.int ((x0 &&& (2147483647 : Int32)) % (9 : Int32))), .val (.int q), .val (.ref (w 2)), .val (.int (0 : Int32))] [])) _
            refine XS.aload X23.here hx rfl (hb hby at_248) rfl rfl ?_
            show Steps p.tables e below (T23.setTop (mkF m 250 #[.val (.int x0), .val (.int x1), .val (.int x2), .val (.int ((x0 &&& (2147483647 : Int32)) % (9 : Int32))), .val (.int q), .val (.ref (w 2)), .val (.int (0 : Int32))] [(.ref (w 2))])) _
            refine XS.iload X23.here hx rfl (hb hby at_250) rfl ?_
            show Steps p.tables e below (T23.setTop (mkF m 252 #[.val (.int x0), .val (.int x1), .val (.int x2), .val (.int ((x0 &&& (2147483647 : Int32)) % (9 : Int32))), .val (.int q), .val (.ref (w 2)), .val (.int (0 : Int32))] [(.int q), (.ref (w 2))])) _
            refine st27.trans ?_
            show Steps p.tables e below (T27.setTop (mkF m 255 #[.val (.int x0), .val (.int x1), .val (.int x2), .val (.int ((x0 &&& (2147483647 : Int32)) % (9 : Int32))), .val (.int q), .val (.ref (w 2)), .val (.int (0 : Int32))] [(.int (0 : Int32))])) _
            refine XS.iload X27.here hx rfl (hb hby at_255) rfl ?_
            exact kk)
          obtain ⟨fs, hr, hrun, hended, hW, hsame⟩ := X27.leave (v := some (.int (1 : Int32))) (fun h => by rw [Bd.returns] at h; cases h)
          refine ⟨_, _, pre28 _ ?_, hrun, hended, _, _, rfl, ?_, ⟨_, rfl⟩, hW, hsame.mono (by decide) (by decide)⟩
          · show Steps p.tables e below (T27.setTop (mkF m 257 #[.val (.int x0), .val (.int x1), .val (.int x2), .val (.int ((x0 &&& (2147483647 : Int32)) % (9 : Int32))), .val (.int q), .val (.ref (w 2)), .val (.int (0 : Int32))] [(.int (0 : Int32)), (.int (0 : Int32))])) _
            refine XS.icmpNo X27.here hx rfl (hb hby at_257) rfl (teq (by decide : (0 : Int32) = (0 : Int32))).2 ?_
            show Steps p.tables e below (T27.setTop (mkF m 260 #[.val (.int x0), .val (.int x1), .val (.int x2), .val (.int ((x0 &&& (2147483647 : Int32)) % (9 : Int32))), .val (.int q), .val (.ref (w 2)), .val (.int (0 : Int32))] [])) _
            refine XS.iconst X27.here hx rfl (hb hby at_260) ?_
            show Steps p.tables e below (T27.setTop (mkF m 261 #[.val (.int x0), .val (.int x1), .val (.int x2), .val (.int ((x0 &&& (2147483647 : Int32)) % (9 : Int32))), .val (.int q), .val (.ref (w 2)), .val (.int (0 : Int32))] [(.int (1 : Int32))])) _
            refine XS.goto X27.here hx rfl (pc0 := 261) (pc' := 265) rfl (hb hby at_261) (by decide) (by decide) ?_
            show Steps p.tables e below (T27.setTop (mkF m 265 #[.val (.int x0), .val (.int x1), .val (.int x2), .val (.int ((x0 &&& (2147483647 : Int32)) % (9 : Int32))), .val (.int q), .val (.ref (w 2)), .val (.int (0 : Int32))] [(.int (1 : Int32))])) _
            exact retN X27 hx (t := .boolean) Bd.returns (by simp) (hb hby at_265) hr
          · exact ⟨rfl, N27⟩
      · have pre29 : ∀ t, Steps p.tables e below (T6.setTop (mkF m 100 #[.val (.int x0), .val (.int x1), .val (.int x2), .val (.int ((x0 &&& (2147483647 : Int32)) % (9 : Int32))), .val (.int q), .unset, .unset] [(.int (3 : Int32)), (.int ((x0 &&& (2147483647 : Int32)) % (9 : Int32)))])) t → Steps p.tables e below (s₁.setTop (entryFrame m #[(.int x0), (.int x1), (.int x2)] maxLocals)) t := fun tt kk => pre22 tt (by
          show Steps p.tables e below (T6.setTop (mkF m 74 #[.val (.int x0), .val (.int x1), .val (.int x2), .val (.int ((x0 &&& (2147483647 : Int32)) % (9 : Int32))), .val (.int q), .unset, .unset] [(.int (2 : Int32)), (.int ((x0 &&& (2147483647 : Int32)) % (9 : Int32)))])) _
          refine XS.icmpYes X6.here hx rfl (pc0 := 74) (pc' := 98) rfl (hb hby at_74) rfl (feq hc74).2 (by decide) (by decide) ?_
          show Steps p.tables e below (T6.setTop (mkF m 98 #[.val (.int x0), .val (.int x1), .val (.int x2), .val (.int ((x0 &&& (2147483647 : Int32)) % (9 : Int32))), .val (.int q), .unset, .unset] [])) _
          refine XS.iloadN X6.here hx rfl (hb hby at_98) rfl ?_
          show Steps p.tables e below (T6.setTop (mkF m 99 #[.val (.int x0), .val (.int x1), .val (.int x2), .val (.int ((x0 &&& (2147483647 : Int32)) % (9 : Int32))), .val (.int q), .unset, .unset] [(.int ((x0 &&& (2147483647 : Int32)) % (9 : Int32)))])) _
          refine XS.iconst X6.here hx rfl (hb hby at_99) ?_
          exact kk)
        by_cases hc100 : ((x0 &&& (2147483647 : Int32)) % (9 : Int32)) = (3 : Int32)
        · obtain ⟨T30, X30, e30, st30⟩ := getS2 X6 hx hZ hown (host := "") (Or.inl (hw _ (List.mem_of_getElem? (i := 35) rfl))) Via.refl e6 ST.2.2.2.1 (g := (mkF m 103 #[.val (.int x0), .val (.int x1), .val (.int x2), .val (.int ((x0 &&& (2147483647 : Int32)) % (9 : Int32))), .val (.int q), .unset, .unset] [])) rfl (hb hby at_103)
          have pre31 : ∀ t, Steps p.tables e below (T30.setTop (mkF m 111 #[.val (.int x0), .val (.int x1), .val (.int x2), .val (.int ((x0 &&& (2147483647 : Int32)) % (9 : Int32))), .val (.int q), .val (.ref (w 3)), .unset] [(.int (2 : Int32)), (.int q)])) t → Steps p.tables e below (s₁.setTop (entryFrame m #[(.int x0), (.int x1), (.int x2)] maxLocals)) t := fun tt kk => pre29 tt (by
            show Steps p.tables e below (T6.setTop (mkF m 100 #[.val (.int x0), .val (.int x1), .val (.int x2), .val (.int ((x0 &&& (2147483647 : Int32)) % (9 : Int32))), .val (.int q), .unset, .unset] [(.int (3 : Int32)), (.int ((x0 &&& (2147483647 : Int32)) % (9 : Int32)))])) _
            refine XS.icmpNo X6.here hx rfl (hb hby at_100) rfl (teq hc100).2 ?_
            show Steps p.tables e below (T6.setTop (mkF m 103 #[.val (.int x0), .val (.int x1), .val (.int x2), .val (.int ((x0 &&& (2147483647 : Int32)) % (9 : Int32))), .val (.int q), .unset, .unset] [])) _
            refine st30 _ ?_
            show Steps p.tables e below (T30.setTop (mkF m 106 #[.val (.int x0), .val (.int x1), .val (.int x2), .val (.int ((x0 &&& (2147483647 : Int32)) % (9 : Int32))), .val (.int q), .unset, .unset] [(.ref (w 3))])) _
            refine XS.astore X30.here hx rfl (hb hby at_106) rfl rfl (l' := #[.val (.int x0), .val (.int x1), .val (.int x2), .val (.int ((x0 &&& (2147483647 : Int32)) % (9 : Int32))), .val (.int q), .val (.ref (w 3)), .unset]) rfl ?_
            show Steps p.tables e below (T30.setTop (mkF m 108 #[.val (.int x0), .val (.int x1), .val (.int x2), .val (.int ((x0 &&& (2147483647 : Int32)) % (9 : Int32))), .val (.int q), .val (.ref (w 3)), .unset] [])) _
            refine XS.iload X30.here hx rfl (hb hby at_108) rfl ?_
            show Steps p.tables e below (T30.setTop (mkF m 110 #[.val (.int x0), .val (.int x1), .val (.int x2), .val (.int ((x0 &&& (2147483647 : Int32)) % (9 : Int32))), .val (.int q), .val (.ref (w 3)), .unset] [(.int q)])) _
            refine XS.iconst X30.here hx rfl (hb hby at_110) ?_
            exact kk)
          by_cases hc111 : q = (2 : Int32)
          · obtain ⟨cq32, kq32, q32a, q32b, q32c⟩ := isOf hZ e30 EX.2.2.2.1
            obtain ⟨vv32, _, ⟨T32, L32, k32, n32⟩, -, X32, ⟨Lc32, hQ32, l32, y32, z32⟩, st32⟩ := X30.virtualBack hx (y := (⟨"com/example/pledgeline/pledgeline/Builtin", "takes", "(I)Z"⟩ : MethodName)) (z := (⟨"com/example/pledgeline/pledgeline/Builtin", "takes", "(I)Z"⟩ : MethodName)) hown (mvT hZ (hw _ (List.mem_of_getElem? (i := 4) rfl))) (mvT hZ (hw _ (List.mem_of_getElem? (i := 5) rfl))) (notFace_of_selects (args := #[]) (mvT hZ (hw _ (List.mem_of_getElem? (i := 37) rfl)))) (mvT hZ (hw _ (List.mem_of_getElem? (i := 37) rfl))) (mvT hZ (hw _ (List.mem_of_getElem? (i := 6) rfl))) (by decide) (backOf (W := 0) (rm_tk l Z a0 hw [] (w 3) q (2 : Int32) (2 : Int32) h0 n0 Z0 FF.2.2.2.1 FG.2.2.2.1) hZ (hw _ (List.mem_of_getElem? (i := 8) rfl)) (hw _ (List.mem_of_getElem? (i := 2) rfl)) (by decide) (by decide)) q32a q32c (g := (mkF m 252 #[.val (.int x0), .val (.int x1), .val (.int x2), .val (.int ((x0 &&& (2147483647 : Int32)) % (9 : Int32))), .val (.int q), .val (.ref (w 3)), .val (.int (1 : Int32))] [(.int q), (.ref (w 3))])) rfl (by rw [hml]; rfl) (Steps.refl _) (argsL := [(.int q)]) (rest := []) (lenOf own_pd_0 rfl) rfl (by show 2 * 0 + _ ≤ _; exact Nat.le_of_eq rfl) (hb hby at_252) (fun _ _ => ⟨rfl, e30, (by decide : 0 + 0 ≤ _), (by decide : 0 + 0 ≤ _)⟩)
            dsimp only [Pt.U, Pt.locs, Pt.cells, Pt.slots] at X32 l32 y32 z32 st32 hQ32
            subst l32 y32 z32
            rw [own_tk_eq hc111] at hQ32
            obtain ⟨rfl, N32q, e32⟩ := hQ32
            have N32 := Fr.app N0 N32q
            have pre33 : ∀ t, Steps p.tables e below (T32.setTop (mkF m 257 #[.val (.int x0), .val (.int x1), .val (.int x2), .val (.int ((x0 &&& (2147483647 : Int32)) % (9 : Int32))), .val (.int q), .val (.ref (w 3)), .val (.int (1 : Int32))] [(.int (1 : Int32)), (.int (1 : Int32))])) t → Steps p.tables e below (s₁.setTop (entryFrame m #[(.int x0), (.int x1), (.int x2)] maxLocals)) t := fun tt kk => pre31 tt (by
              show Steps p.tables e below (T30.setTop (mkF m 111 #[.val (.int x0), .val (.int x1), .val (.int x2), .val (.int ((x0 &&& (2147483647 : Int32)) % (9 : Int32))), .val (.int q), .val (.ref (w 3)), .unset] [(.int (2 : Int32)), (.int q)])) _
              refine XS.icmpNo X30.here hx rfl (hb hby at_111) rfl (teq hc111).2 ?_
              show Steps p.tables e below (T30.setTop (mkF m 114 #[.val (.int x0), .val (.int x1), .val (.int x2), .val (.int ((x0 &&& (2147483647 : Int32)) % (9 : Int32))), .val (.int q), .val (.ref (w 3)), .unset] [])) _
              refine XS.iconst X30.here hx rfl (hb hby at_114) ?_
              show Steps p.tables e below (T30.setTop (mkF m 115 #[.val (.int x0), .val (.int x1), .val (.int x2), .val (.int ((x0 &&& (2147483647 : Int32)) % (9 : Int32))), .val (.int q), .val (.ref (w 3)), .unset] [(.int (1 : Int32))])) _
              refine XS.goto X30.here hx rfl (pc0 := 115) (pc' := 119) rfl (hb hby at_115) (by decide) (by decide) ?_
              show Steps p.tables e below (T30.setTop (mkF m 119 #[.val (.int x0), .val (.int x1), .val (.int x2), .val (.int ((x0 &&& (2147483647 : Int32)) % (9 : Int32))), .val (.int q), .val (.ref (w 3)), .unset] [(.int (1 : Int32))])) _
              refine XS.istore X30.here hx rfl (hb hby at_119) rfl (l' := #[.val (.int x0), .val (.int x1), .val (.int x2), .val (.int ((x0 &&& (2147483647 : Int32)) % (9 : Int32))), .val (.int q), .val (.ref (w 3)), .val (.int (1 : Int32))]) rfl ?_
              show Steps p.tables e below (T30.setTop (mkF m 121 #[.val (.int x0), .val (.int x1), .val (.int x2), .val (.int ((x0 &&& (2147483647 : Int32)) % (9 : Int32))), .val (.int q), .val (.ref (w 3)), .val (.int (1 : Int32))] [])) _
              refine XS.goto X30.here hx rfl (pc0 := 121) (pc' := 248) rfl (hb hby at_121) (by decide) (by decide) ?_
              show Steps p.tables e below (T30.setTop (mkF m 248 #[.val (.int x0), .val (.int x1), .val (.int x2), .val (.int ((x0 &&& (2147483647 : Int32)) % (9 : Int32))), .val (.int q), .val (.ref (w 3)), .val (.int (1 : Int32))] [])) _
              refine XS.aload X30.here hx rfl (hb hby at_248) rfl rfl ?_
              show Steps p.tables e below (T30.setTop (mkF m 250 #[.val (.int x0), .val (.int x1), .val (.int x2), .val (.int ((x0 &&& (2147483647 : Int32)) % (9 : Int32))), .val (.int q), .val (.ref (w 3)), .val (.int (1 : Int32))] [(.ref (w 3))])) _
              refine XS.iload X30.here hx rfl (hb hby at_250) rfl ?_
              show Steps p.tables e below (T30.setTop (mkF m 252 #[.val (.int x0), .val (.int x1), .val (.int x2), .val (.int ((x0 &&& (2147483647 : Int32)) % (9 : Int32))), .val (.int q), .val (.ref (w 3)), .val (.int (1 : Int32))] [(.int q), (.ref (w 3))])) _
              refine st32.trans ?_
              show Steps p.tables e below (T32.setTop (mkF m 255 #[.val (.int x0), .val (.int x1), .val (.int x2), .val (.int ((x0 &&& (2147483647 : Int32)) % (9 : Int32))), .val (.int q), .val (.ref (w 3)), .val (.int (1 : Int32))] [(.int (1 : Int32))])) _
              refine XS.iload X32.here hx rfl (hb hby at_255) rfl ?_
              exact kk)
            obtain ⟨fs, hr, hrun, hended, hW, hsame⟩ := X32.leave (v := some (.int (1 : Int32))) (fun h => by rw [Bd.returns] at h; cases h)
            refine ⟨_, _, pre33 _ ?_, hrun, hended, _, _, rfl, ?_, ⟨_, rfl⟩, hW, hsame.mono (by decide) (by decide)⟩
            · show Steps p.tables e below (T32.setTop (mkF m 257 #[.val (.int x0), .val (.int x1), .val (.int x2), .val (.int ((x0 &&& (2147483647 : Int32)) % (9 : Int32))), .val (.int q), .val (.ref (w 3)), .val (.int (1 : Int32))] [(.int (1 : Int32)), (.int (1 : Int32))])) _
              refine XS.icmpNo X32.here hx rfl (hb hby at_257) rfl (teq (by decide : (1 : Int32) = (1 : Int32))).2 ?_
              show Steps p.tables e below (T32.setTop (mkF m 260 #[.val (.int x0), .val (.int x1), .val (.int x2), .val (.int ((x0 &&& (2147483647 : Int32)) % (9 : Int32))), .val (.int q), .val (.ref (w 3)), .val (.int (1 : Int32))] [])) _
              refine XS.iconst X32.here hx rfl (hb hby at_260) ?_
              show Steps p.tables e below (T32.setTop (mkF m 261 #[.val (.int x0), .val (.int x1), .val (.int x2), .val (.int ((x0 &&& (2147483647 : Int32)) % (9 : Int32))), .val (.int q), .val (.ref (w 3)), .val (.int (1 : Int32))] [(.int (1 : Int32))])) _
              refine XS.goto X32.here hx rfl (pc0 := 261) (pc' := 265) rfl (hb hby at_261) (by decide) (by decide) ?_
              show Steps p.tables e below (T32.setTop (mkF m 265 #[.val (.int x0), .val (.int x1), .val (.int x2), .val (.int ((x0 &&& (2147483647 : Int32)) % (9 : Int32))), .val (.int q), .val (.ref (w 3)), .val (.int (1 : Int32))] [(.int (1 : Int32))])) _
              exact retN X32 hx (t := .boolean) Bd.returns (by simp) (hb hby at_265) hr
            · exact ⟨rfl, N32⟩
          · obtain ⟨cq34, kq34, q34a, q34b, q34c⟩ := isOf hZ e30 EX.2.2.2.1
            obtain ⟨vv34, _, ⟨T34, L34, k34, n34⟩, -, X34, ⟨Lc34, hQ34, l34, y34, z34⟩, st34⟩ := X30.virtualBack hx (y := (⟨"com/example/pledgeline/pledgeline/Builtin", "takes", "(I)Z"⟩ : MethodName)) (z := (⟨"com/example/pledgeline/pledgeline/Builtin", "takes", "(I)Z"⟩ : MethodName)) hown (mvT hZ (hw _ (List.mem_of_getElem? (i := 4) rfl))) (mvT hZ (hw _ (List.mem_of_getElem? (i := 5) rfl))) (notFace_of_selects (args := #[]) (mvT hZ (hw _ (List.mem_of_getElem? (i := 37) rfl)))) (mvT hZ (hw _ (List.mem_of_getElem? (i := 37) rfl))) (mvT hZ (hw _ (List.mem_of_getElem? (i := 6) rfl))) (by decide) (backOf (W := 0) (rm_tk l Z a0 hw [] (w 3) q (2 : Int32) (2 : Int32) h0 n0 Z0 FF.2.2.2.1 FG.2.2.2.1) hZ (hw _ (List.mem_of_getElem? (i := 8) rfl)) (hw _ (List.mem_of_getElem? (i := 2) rfl)) (by decide) (by decide)) q34a q34c (g := (mkF m 252 #[.val (.int x0), .val (.int x1), .val (.int x2), .val (.int ((x0 &&& (2147483647 : Int32)) % (9 : Int32))), .val (.int q), .val (.ref (w 3)), .val (.int (0 : Int32))] [(.int q), (.ref (w 3))])) rfl (by rw [hml]; rfl) (Steps.refl _) (argsL := [(.int q)]) (rest := []) (lenOf own_pd_0 rfl) rfl (by show 2 * 0 + _ ≤ _; exact Nat.le_of_eq rfl) (hb hby at_252) (fun _ _ => ⟨rfl, e30, (by decide : 0 + 0 ≤ _), (by decide : 0 + 0 ≤ _)⟩)
            dsimp only [Pt.U, Pt.locs, Pt.cells, Pt.slots] at X34 l34 y34 z34 st34 hQ34
            subst l34 y34 z34
            rw [own_tk_ne hc111] at hQ34
            obtain ⟨rfl, N34q, e34⟩ := hQ34
            have N34 := Fr.app N0 N34q
            have pre35 : ∀ t, Steps p.tables e below (T34.setTop (mkF m 257 #[.val (.int x0), .val (.int x1), .val (.int x2), .val (.int ((x0 &&& (2147483647 : Int32)) % (9 : Int32))), .val (.int q), .val (.ref (w 3)), .val (.int (0 : Int32))] [(.int (0 : Int32)), (.int (0 : Int32))])) t → Steps p.tables e below (s₁.setTop (entryFrame m #[(.int x0), (.int x1), (.int x2)] maxLocals)) t := fun tt kk => pre31 tt (by
              show Steps p.tables e below (T30.setTop (mkF m 111 #[.val (.int x0), .val (.int x1), .val (.int x2), .val (.int ((x0 &&& (2147483647 : Int32)) % (9 : Int32))), .val (.int q), .val (.ref (w 3)), .unset] [(.int (2 : Int32)), (.int q)])) _
              refine XS.icmpYes X30.here hx rfl (pc0 := 111) (pc' := 118) rfl (hb hby at_111) rfl (feq hc111).2 (by decide) (by decide) ?_
              show Steps p.tables e below (T30.setTop (mkF m 118 #[.val (.int x0), .val (.int x1), .val (.int x2), .val (.int ((x0 &&& (2147483647 : Int32)) % (9 : Int32))), .val (.int q), .val (.ref (w 3)), .unset] [])) _
              refine XS.iconst X30.here hx rfl (hb hby at_118) ?_
              show Steps p.tables e below (T30.setTop (mkF m 119 #[.val (.int x0), .val (.int x1), .val (.int x2), .val (.int ((x0 &&& (2147483647 : Int32)) % (9 : Int32))), .val (.int q), .val (.ref (w 3)), .unset] [(.int (0 : Int32))])) _
              refine XS.istore X30.here hx rfl (hb hby at_119) rfl (l' := #[.val (.int x0), .val (.int x1), .val (.int x2), .val (.int ((x0 &&& (2147483647 : Int32)) % (9 : Int32))), .val (.int q), .val (.ref (w 3)), .val (.int (0 : Int32))]) rfl ?_
              show Steps p.tables e below (T30.setTop (mkF m 121 #[.val (.int x0), .val (.int x1), .val (.int x2), .val (.int ((x0 &&& (2147483647 : Int32)) % (9 : Int32))), .val (.int q), .val (.ref (w 3)), .val (.int (0 : Int32))] [])) _
              refine XS.goto X30.here hx rfl (pc0 := 121) (pc' := 248) rfl (hb hby at_121) (by decide) (by decide) ?_
              show Steps p.tables e below (T30.setTop (mkF m 248 #[.val (.int x0), .val (.int x1), .val (.int x2), .val (.int ((x0 &&& (2147483647 : Int32)) % (9 : Int32))), .val (.int q), .val (.ref (w 3)), .val (.int (0 : Int32))] [])) _
              refine XS.aload X30.here hx rfl (hb hby at_248) rfl rfl ?_
              show Steps p.tables e below (T30.setTop (mkF m 250 #[.val (.int x0), .val (.int x1), .val (.int x2), .val (.int ((x0 &&& (2147483647 : Int32)) % (9 : Int32))), .val (.int q), .val (.ref (w 3)), .val (.int (0 : Int32))] [(.ref (w 3))])) _
              refine XS.iload X30.here hx rfl (hb hby at_250) rfl ?_
              show Steps p.tables e below (T30.setTop (mkF m 252 #[.val (.int x0), .val (.int x1), .val (.int x2), .val (.int ((x0 &&& (2147483647 : Int32)) % (9 : Int32))), .val (.int q), .val (.ref (w 3)), .val (.int (0 : Int32))] [(.int q), (.ref (w 3))])) _
              refine st34.trans ?_
              show Steps p.tables e below (T34.setTop (mkF m 255 #[.val (.int x0), .val (.int x1), .val (.int x2), .val (.int ((x0 &&& (2147483647 : Int32)) % (9 : Int32))), .val (.int q), .val (.ref (w 3)), .val (.int (0 : Int32))] [(.int (0 : Int32))])) _
              refine XS.iload X34.here hx rfl (hb hby at_255) rfl ?_
              exact kk)
            obtain ⟨fs, hr, hrun, hended, hW, hsame⟩ := X34.leave (v := some (.int (1 : Int32))) (fun h => by rw [Bd.returns] at h; cases h)
            refine ⟨_, _, pre35 _ ?_, hrun, hended, _, _, rfl, ?_, ⟨_, rfl⟩, hW, hsame.mono (by decide) (by decide)⟩
            · show Steps p.tables e below (T34.setTop (mkF m 257 #[.val (.int x0), .val (.int x1), .val (.int x2), .val (.int ((x0 &&& (2147483647 : Int32)) % (9 : Int32))), .val (.int q), .val (.ref (w 3)), .val (.int (0 : Int32))] [(.int (0 : Int32)), (.int (0 : Int32))])) _
              refine XS.icmpNo X34.here hx rfl (hb hby at_257) rfl (teq (by decide : (0 : Int32) = (0 : Int32))).2 ?_
              show Steps p.tables e below (T34.setTop (mkF m 260 #[.val (.int x0), .val (.int x1), .val (.int x2), .val (.int ((x0 &&& (2147483647 : Int32)) % (9 : Int32))), .val (.int q), .val (.ref (w 3)), .val (.int (0 : Int32))] [])) _
              refine XS.iconst X34.here hx rfl (hb hby at_260) ?_
              show Steps p.tables e below (T34.setTop (mkF m 261 #[.val (.int x0), .val (.int x1), .val (.int x2), .val (.int ((x0 &&& (2147483647 : Int32)) % (9 : Int32))), .val (.int q), .val (.ref (w 3)), .val (.int (0 : Int32))] [(.int (1 : Int32))])) _
              refine XS.goto X34.here hx rfl (pc0 := 261) (pc' := 265) rfl (hb hby at_261) (by decide) (by decide) ?_
              show Steps p.tables e below (T34.setTop (mkF m 265 #[.val (.int x0), .val (.int x1), .val (.int x2), .val (.int ((x0 &&& (2147483647 : Int32)) % (9 : Int32))), .val (.int q), .val (.ref (w 3)), .val (.int (0 : Int32))] [(.int (1 : Int32))])) _
              exact retN X34 hx (t := .boolean) Bd.returns (by simp) (hb hby at_265) hr
            · exact ⟨rfl, N34⟩
        · have pre36 : ∀ t, Steps p.tables e below (T6.setTop (mkF m 126 #[.val (.int x0), .val (.int x1), .val (.int x2), .val (.int ((x0 &&& (2147483647 : Int32)) % (9 : Int32))), .val (.int q), .unset, .unset] [(.int (4 : Int32)), (.int ((x0 &&& (2147483647 : Int32)) % (9 : Int32)))])) t → Steps p.tables e below (s₁.setTop (entryFrame m #[(.int x0), (.int x1), (.int x2)] maxLocals)) t := fun tt kk => pre29 tt (by
            show Steps p.tables e below (T6.setTop (mkF m 100 #[.val (.int x0), .val (.int x1), .val (.int x2), .val (.int ((x0 &&& (2147483647 : Int32)) % (9 : Int32))), .val (.int q), .unset, .unset] [(.int (3 : Int32)), (.int ((x0 &&& (2147483647 : Int32)) % (9 : Int32)))])) _
            refine XS.icmpYes X6.here hx rfl (pc0 := 100) (pc' := 124) rfl (hb hby at_100) rfl (feq hc100).2 (by decide) (by decide) ?_
            show Steps p.tables e below (T6.setTop (mkF m 124 #[.val (.int x0), .val (.int x1), .val (.int x2), .val (.int ((x0 &&& (2147483647 : Int32)) % (9 : Int32))), .val (.int q), .unset, .unset] [])) _
            refine XS.iloadN X6.here hx rfl (hb hby at_124) rfl ?_
            show Steps p.tables e below (T6.setTop (mkF m 125 #[.val (.int x0), .val (.int x1), .val (.int x2), .val (.int ((x0 &&& (2147483647 : Int32)) % (9 : Int32))), .val (.int q), .unset, .unset] [(.int ((x0 &&& (2147483647 : Int32)) % (9 : Int32)))])) _
            refine XS.iconst X6.here hx rfl (hb hby at_125) ?_
            exact kk)
          by_cases hc126 : ((x0 &&& (2147483647 : Int32)) % (9 : Int32)) = (4 : Int32)
          · obtain ⟨T37, X37, e37, st37⟩ := getS2 X6 hx hZ hown (host := "") (Or.inl (hw _ (List.mem_of_getElem? (i := 42) rfl))) Via.refl e6 ST.2.2.2.2.1 (g := (mkF m 129 #[.val (.int x0), .val (.int x1), .val (.int x2), .val (.int ((x0 &&& (2147483647 : Int32)) % (9 : Int32))), .val (.int q), .unset, .unset] [])) rfl (hb hby at_129)
            have pre38 : ∀ t, Steps p.tables e below (T37.setTop (mkF m 137 #[.val (.int x0), .val (.int x1), .val (.int x2), .val (.int ((x0 &&& (2147483647 : Int32)) % (9 : Int32))), .val (.int q), .val (.ref (w 4)), .unset] [(.int (1 : Int32)), (.int q)])) t → Steps p.tables e below (s₁.setTop (entryFrame m #[(.int x0), (.int x1), (.int x2)] maxLocals)) t := fun tt kk => pre36 tt (by
              show Steps p.tables e below (T6.setTop (mkF m 126 #[.val (.int x0), .val (.int x1), .val (.int x2), .val (.int ((x0 &&& (2147483647 : Int32)) % (9 : Int32))), .val (.int q), .unset, .unset] [(.int (4 : Int32)), (.int ((x0 &&& (2147483647 : Int32)) % (9 : Int32)))])) _
              refine XS.icmpNo X6.here hx rfl (hb hby at_126) rfl (teq hc126).2 ?_
              show Steps p.tables e below (T6.setTop (mkF m 129 #[.val (.int x0), .val (.int x1), .val (.int x2), .val (.int ((x0 &&& (2147483647 : Int32)) % (9 : Int32))), .val (.int q), .unset, .unset] [])) _
              refine st37 _ ?_
              show Steps p.tables e below (T37.setTop (mkF m 132 #[.val (.int x0), .val (.int x1), .val (.int x2), .val (.int ((x0 &&& (2147483647 : Int32)) % (9 : Int32))), .val (.int q), .unset, .unset] [(.ref (w 4))])) _
              refine XS.astore X37.here hx rfl (hb hby at_132) rfl rfl (l' := #[.val (.int x0), .val (.int x1), .val (.int x2), .val (.int ((x0 &&& (2147483647 : Int32)) % (9 : Int32))), .val (.int q), .val (.ref (w 4)), .unset]) rfl ?_
              show Steps p.tables e below (T37.setTop (mkF m 134 #[.val (.int x0), .val (.int x1), .val (.int x2), .val (.int ((x0 &&& (2147483647 : Int32)) % (9 : Int32))), .val (.int q), .val (.ref (w 4)), .unset] [])) _
              refine XS.iload X37.here hx rfl (hb hby at_134) rfl ?_
              show Steps p.tables e below (T37.setTop (mkF m 136 #[.val (.int x0), .val (.int x1), .val (.int x2), .val (.int ((x0 &&& (2147483647 : Int32)) % (9 : Int32))), .val (.int q), .val (.ref (w 4)), .unset] [(.int q)])) _
              refine XS.iconst X37.here hx rfl (hb hby at_136) ?_
              exact kk)
            by_cases hc137 : q = (1 : Int32)
            · obtain ⟨cq39, kq39, q39a, q39b, q39c⟩ := isOf hZ e37 EX.2.2.2.2.1
              obtain ⟨vv39, _, ⟨T39, L39, k39, n39⟩, -, X39, ⟨Lc39, hQ39, l39, y39, z39⟩, st39⟩ := X37.virtualBack hx (y := (⟨"com/example/pledgeline/pledgeline/Builtin", "takes", "(I)Z"⟩ : MethodName)) (z := (⟨"com/example/pledgeline/pledgeline/Builtin", "takes", "(I)Z"⟩ : MethodName)) hown (mvT hZ (hw _ (List.mem_of_getElem? (i := 4) rfl))) (mvT hZ (hw _ (List.mem_of_getElem? (i := 5) rfl))) (notFace_of_selects (args := #[]) (mvT hZ (hw _ (List.mem_of_getElem? (i := 44) rfl)))) (mvT hZ (hw _ (List.mem_of_getElem? (i := 44) rfl))) (mvT hZ (hw _ (List.mem_of_getElem? (i := 6) rfl))) (by decide) (backOf (W := 0) (rm_tk l Z a0 hw [] (w 4) q (1 : Int32) (1 : Int32) h0 n0 Z0 FF.2.2.2.2.1 FG.2.2.2.2.1) hZ (hw _ (List.mem_of_getElem? (i := 8) rfl)) (hw _ (List.mem_of_getElem? (i := 2) rfl)) (by decide) (by decide)) q39a q39c (g := (mkF m 252 #[.val (.int x0), .val (.int x1), .val (.int x2), .val (.int ((x0 &&& (2147483647 : Int32)) % (9 : Int32))), .val (.int q), .val (.ref (w 4)), .val (.int (1 : Int32))] [(.int q), (.ref (w 4))])) rfl (by rw [hml]; rfl) (Steps.refl _) (argsL := [(.int q)]) (rest := []) (lenOf own_pd_0 rfl) rfl (by show 2 * 0 + _ ≤ _; exact Nat.le_of_eq rfl) (hb hby at_252) (fun _ _ => ⟨rfl, e37, (by decide : 0 + 0 ≤ _), (by decide : 0 + 0 ≤ _)⟩)
              dsimp only [Pt.U, Pt.locs, Pt.cells, Pt.slots] at X39 l39 y39 z39 st39 hQ39
              subst l39 y39 z39
              rw [own_tk_eq hc137] at hQ39
              obtain ⟨rfl, N39q, e39⟩ := hQ39
              have N39 := Fr.app N0 N39q
              have pre40 : ∀ t, Steps p.tables e below (T39.setTop (mkF m 257 #[.val (.int x0), .val (.int x1), .val (.int x2), .val (.int ((x0 &&& (2147483647 : Int32)) % (9 : Int32))), .val (.int q), .val (.ref (w 4)), .val (.int (1 : Int32))] [(.int (1 : Int32)), (.int (1 : Int32))])) t → Steps p.tables e below (s₁.setTop (entryFrame m #[(.int x0), (.int x1), (.int x2)] maxLocals)) t := fun tt kk => pre38 tt (by
                show Steps p.tables e below (T37.setTop (mkF m 137 #[.val (.int x0), .val (.int x1), .val (.int x2), .val (.int ((x0 &&& (2147483647 : Int32)) % (9 : Int32))), .val (.int q), .val (.ref (w 4)), .unset] [(.int (1 : Int32)), (.int q)])) _
                refine XS.icmpNo X37.here hx rfl (hb hby at_137) rfl (teq hc137).2 ?_
                show Steps p.tables e below (T37.setTop (mkF m 140 #[.val (.int x0), .val (.int x1), .val (.int x2), .val (.int ((x0 &&& (2147483647 : Int32)) % (9 : Int32))), .val (.int q), .val (.ref (w 4)), .unset] [])) _
                refine XS.iconst X37.here hx rfl (hb hby at_140) ?_
                show Steps p.tables e below (T37.setTop (mkF m 141 #[.val (.int x0), .val (.int x1), .val (.int x2), .val (.int ((x0 &&& (2147483647 : Int32)) % (9 : Int32))), .val (.int q), .val (.ref (w 4)), .unset] [(.int (1 : Int32))])) _
                refine XS.goto X37.here hx rfl (pc0 := 141) (pc' := 145) rfl (hb hby at_141) (by decide) (by decide) ?_
                show Steps p.tables e below (T37.setTop (mkF m 145 #[.val (.int x0), .val (.int x1), .val (.int x2), .val (.int ((x0 &&& (2147483647 : Int32)) % (9 : Int32))), .val (.int q), .val (.ref (w 4)), .unset] [(.int (1 : Int32))])) _
                refine XS.istore X37.here hx rfl (hb hby at_145) rfl (l' := #[.val (.int x0), .val (.int x1), .val (.int x2), .val (.int ((x0 &&& (2147483647 : Int32)) % (9 : Int32))), .val (.int q), .val (.ref (w 4)), .val (.int (1 : Int32))]) rfl ?_
                show Steps p.tables e below (T37.setTop (mkF m 147 #[.val (.int x0), .val (.int x1), .val (.int x2), .val (.int ((x0 &&& (2147483647 : Int32)) % (9 : Int32))), .val (.int q), .val (.ref (w 4)), .val (.int (1 : Int32))] [])) _
                refine XS.goto X37.here hx rfl (pc0 := 147) (pc' := 248) rfl (hb hby at_147) (by decide) (by decide) ?_
                show Steps p.tables e below (T37.setTop (mkF m 248 #[.val (.int x0), .val (.int x1), .val (.int x2), .val (.int ((x0 &&& (2147483647 : Int32)) % (9 : Int32))), .val (.int q), .val (.ref (w 4)), .val (.int (1 : Int32))] [])) _
                refine XS.aload X37.here hx rfl (hb hby at_248) rfl rfl ?_
                show Steps p.tables e below (T37.setTop (mkF m 250 #[.val (.int x0), .val (.int x1), .val (.int x2), .val (.int ((x0 &&& (2147483647 : Int32)) % (9 : Int32))), .val (.int q), .val (.ref (w 4)), .val (.int (1 : Int32))] [(.ref (w 4))])) _
                refine XS.iload X37.here hx rfl (hb hby at_250) rfl ?_
                show Steps p.tables e below (T37.setTop (mkF m 252 #[.val (.int x0), .val (.int x1), .val (.int x2), .val (.int ((x0 &&& (2147483647 : Int32)) % (9 : Int32))), .val (.int q), .val (.ref (w 4)), .val (.int (1 : Int32))] [(.int q), (.ref (w 4))])) _
                refine st39.trans ?_
                show Steps p.tables e below (T39.setTop (mkF m 255 #[.val (.int x0), .val (.int x1), .val (.int x2), .val (.int ((x0 &&& (2147483647 : Int32)) % (9 : Int32))), .val (.int q), .val (.ref (w 4)), .val (.int (1 : Int32))] [(.int (1 : Int32))])) _
                refine XS.iload X39.here hx rfl (hb hby at_255) rfl ?_
                exact kk)
              obtain ⟨fs, hr, hrun, hended, hW, hsame⟩ := X39.leave (v := some (.int (1 : Int32))) (fun h => by rw [Bd.returns] at h; cases h)
              refine ⟨_, _, pre40 _ ?_, hrun, hended, _, _, rfl, ?_, ⟨_, rfl⟩, hW, hsame.mono (by decide) (by decide)⟩
              · show Steps p.tables e below (T39.setTop (mkF m 257 #[.val (.int x0), .val (.int x1), .val (.int x2), .val (.int ((x0 &&& (2147483647 : Int32)) % (9 : Int32))), .val (.int q), .val (.ref (w 4)), .val (.int (1 : Int32))] [(.int (1 : Int32)), (.int (1 : Int32))])) _
                refine XS.icmpNo X39.here hx rfl (hb hby at_257) rfl (teq (by decide : (1 : Int32) = (1 : Int32))).2 ?_
                show Steps p.tables e below (T39.setTop (mkF m 260 #[.val (.int x0), .val (.int x1), .val (.int x2), .val (.int ((x0 &&& (2147483647 : Int32)) % (9 : Int32))), .val (.int q), .val (.ref (w 4)), .val (.int (1 : Int32))] [])) _
                refine XS.iconst X39.here hx rfl (hb hby at_260) ?_
                show Steps p.tables e below (T39.setTop (mkF m 261 #[.val (.int x0), .val (.int x1), .val (.int x2), .val (.int ((x0 &&& (2147483647 : Int32)) % (9 : Int32))), .val (.int q), .val (.ref (w 4)), .val (.int (1 : Int32))] [(.int (1 : Int32))])) _
                refine XS.goto X39.here hx rfl (pc0 := 261) (pc' := 265) rfl (hb hby at_261) (by decide) (by decide) ?_
                show Steps p.tables e below (T39.setTop (mkF m 265 #[.val (.int x0), .val (.int x1), .val (.int x2), .val (.int ((x0 &&& (2147483647 : Int32)) % (9 : Int32))), .val (.int q), .val (.ref (w 4)), .val (.int (1 : Int32))] [(.int (1 : Int32))])) _
                exact retN X39 hx (t := .boolean) Bd.returns (by simp) (hb hby at_265) hr
              · exact ⟨rfl, N39⟩
            · obtain ⟨cq41, kq41, q41a, q41b, q41c⟩ := isOf hZ e37 EX.2.2.2.2.1
              obtain ⟨vv41, _, ⟨T41, L41, k41, n41⟩, -, X41, ⟨Lc41, hQ41, l41, y41, z41⟩, st41⟩ := X37.virtualBack hx (y := (⟨"com/example/pledgeline/pledgeline/Builtin", "takes", "(I)Z"⟩ : MethodName)) (z := (⟨"com/example/pledgeline/pledgeline/Builtin", "takes", "(I)Z"⟩ : MethodName)) hown (mvT hZ (hw _ (List.mem_of_getElem? (i := 4) rfl))) (mvT hZ (hw _ (List.mem_of_getElem? (i := 5) rfl))) (notFace_of_selects (args := #[]) (mvT hZ (hw _ (List.mem_of_getElem? (i := 44) rfl)))) (mvT hZ (hw _ (List.mem_of_getElem? (i := 44) rfl))) (mvT hZ (hw _ (List.mem_of_getElem? (i := 6) rfl))) (by decide) (backOf (W := 0) (rm_tk l Z a0 hw [] (w 4) q (1 : Int32) (1 : Int32) h0 n0 Z0 FF.2.2.2.2.1 FG.2.2.2.2.1) hZ (hw _ (List.mem_of_getElem? (i := 8) rfl)) (hw _ (List.mem_of_getElem? (i := 2) rfl)) (by decide) (by decide)) q41a q41c (g := (mkF m 252 #[.val (.int x0), .val (.int x1), .val (.int x2), .val (.int ((x0 &&& (2147483647 : Int32)) % (9 : Int32))), .val (.int q), .val (.ref (w 4)), .val (.int (0 : Int32))] [(.int q), (.ref (w 4))])) rfl (by rw [hml]; rfl) (Steps.refl _) (argsL := [(.int q)]) (rest := []) (lenOf own_pd_0 rfl) rfl (by show 2 * 0 + _ ≤ _; exact Nat.le_of_eq rfl) (hb hby at_252) (fun _ _ => ⟨rfl, e37, (by decide : 0 + 0 ≤ _), (by decide : 0 + 0 ≤ _)⟩)
              dsimp only [Pt.U, Pt.locs, Pt.cells, Pt.slots] at X41 l41 y41 z41 st41 hQ41
              subst l41 y41 z41
              rw [own_tk_ne hc137] at hQ41
              obtain ⟨rfl, N41q, e41⟩ := hQ41
              have N41 := Fr.app N0 N41q
              have pre42 : ∀ t, Steps p.tables e below (T41.setTop (mkF m 257 #[.val (.int x0), .val (.int x1), .val (.int x2), .val (.int ((x0 &&& (2147483647 : Int32)) % (9 : Int32))), .val (.int q), .val (.ref (w 4)), .val (.int (0 : Int32))] [(.int (0 : Int32)), (.int (0 : Int32))])) t → Steps p.tables e below (s₁.setTop (entryFrame m #[(.int x0), (.int x1), (.int x2)] maxLocals)) t := fun tt kk => pre38 tt (by
                show Steps p.tables e below (T37.setTop (mkF m 137 #[.val (.int x0), .val (.int x1), .val (.int x2), .val (.int ((x0 &&& (2147483647 : Int32)) % (9 : Int32))), .val (.int q), .val (.ref (w 4)), .unset] [(.int (1 : Int32)), (.int q)])) _
                refine XS.icmpYes X37.here hx rfl (pc0 := 137) (pc' := 144) rfl (hb hby at_137) rfl (feq hc137).2 (by decide) (by decide) ?_
                show Steps p.tables e below (T37.setTop (mkF m 144 #[.val (.int x0), .val (.int x1), .val (.int x2), .val (.int ((x0 &&& (2147483647 : Int32)) % (9 : Int32))), .val (.int q), .val (.ref (w 4)), .unset] [])) _
                refine XS.iconst X37.here hx rfl (hb hby at_144) ?_
                show Steps p.tables e below (T37.setTop (mkF m 145 #[.val (.int x0), .val (.int x1), .val (.int x2), .val (.int ((x0 &&& (2147483647 : Int32)) % (9 : Int32))), .val (.int q), .val (.ref (w 4)), .unset] [(.int (0 : Int32))])) _
                refine XS.istore X37.here hx rfl (hb hby at_145) rfl (l' := #[.val (.int x0), .val (.int x1), .val (.int x2), .val (.int ((x0 &&& (2147483647 : Int32)) % (9 : Int32))), .val (.int q), .val (.ref (w 4)), .val (.int (0 : Int32))]) rfl ?_
                show Steps p.tables e below (T37.setTop (mkF m 147 #[.val (.int x0), .val (.int x1), .val (.int x2), .val (.int ((x0 &&& (2147483647 : Int32)) % (9 : Int32))), .val (.int q), .val (.ref (w 4)), .val (.int (0 : Int32))] [])) _
                refine XS.goto X37.here hx rfl (pc0 := 147) (pc' := 248) rfl (hb hby at_147) (by decide) (by decide) ?_
                show Steps p.tables e below (T37.setTop (mkF m 248 #[.val (.int x0), .val (.int x1), .val (.int x2), .val (.int ((x0 &&& (2147483647 : Int32)) % (9 : Int32))), .val (.int q), .val (.ref (w 4)), .val (.int (0 : Int32))] [])) _
                refine XS.aload X37.here hx rfl (hb hby at_248) rfl rfl ?_
                show Steps p.tables e below (T37.setTop (mkF m 250 #[.val (.int x0), .val (.int x1), .val (.int x2), .val (.int ((x0 &&& (2147483647 : Int32)) % (9 : Int32))), .val (.int q), .val (.ref (w 4)), .val (.int (0 : Int32))] [(.ref (w 4))])) _
                refine XS.iload X37.here hx rfl (hb hby at_250) rfl ?_
                show Steps p.tables e below (T37.setTop (mkF m 252 #[.val (.int x0), .val (.int x1), .val (.int x2), .val (.int ((x0 &&& (2147483647 : Int32)) % (9 : Int32))), .val (.int q), .val (.ref (w 4)), .val (.int (0 : Int32))] [(.int q), (.ref (w 4))])) _
                refine st41.trans ?_
                show Steps p.tables e below (T41.setTop (mkF m 255 #[.val (.int x0), .val (.int x1), .val (.int x2), .val (.int ((x0 &&& (2147483647 : Int32)) % (9 : Int32))), .val (.int q), .val (.ref (w 4)), .val (.int (0 : Int32))] [(.int (0 : Int32))])) _
                refine XS.iload X41.here hx rfl (hb hby at_255) rfl ?_
                exact kk)
              obtain ⟨fs, hr, hrun, hended, hW, hsame⟩ := X41.leave (v := some (.int (1 : Int32))) (fun h => by rw [Bd.returns] at h; cases h)
              refine ⟨_, _, pre42 _ ?_, hrun, hended, _, _, rfl, ?_, ⟨_, rfl⟩, hW, hsame.mono (by decide) (by decide)⟩
              · show Steps p.tables e below (T41.setTop (mkF m 257 #[.val (.int x0), .val (.int x1), .val (.int x2), .val (.int ((x0 &&& (2147483647 : Int32)) % (9 : Int32))), .val (.int q), .val (.ref (w 4)), .val (.int (0 : Int32))] [(.int (0 : Int32)), (.int (0 : Int32))])) _
                refine XS.icmpNo X41.here hx rfl (hb hby at_257) rfl (teq (by decide : (0 : Int32) = (0 : Int32))).2 ?_
                show Steps p.tables e below (T41.setTop (mkF m 260 #[.val (.int x0), .val (.int x1), .val (.int x2), .val (.int ((x0 &&& (2147483647 : Int32)) % (9 : Int32))), .val (.int q), .val (.ref (w 4)), .val (.int (0 : Int32))] [])) _
                refine XS.iconst X41.here hx rfl (hb hby at_260) ?_
                show Steps p.tables e below (T41.setTop (mkF m 261 #[.val (.int x0), .val (.int x1), .val (.int x2), .val (.int ((x0 &&& (2147483647 : Int32)) % (9 : Int32))), .val (.int q), .val (.ref (w 4)), .val (.int (0 : Int32))] [(.int (1 : Int32))])) _
                refine XS.goto X41.here hx rfl (pc0 := 261) (pc' := 265) rfl (hb hby at_261) (by decide) (by decide) ?_
                show Steps p.tables e below (T41.setTop (mkF m 265 #[.val (.int x0), .val (.int x1), .val (.int x2), .val (.int ((x0 &&& (2147483647 : Int32)) % (9 : Int32))), .val (.int q), .val (.ref (w 4)), .val (.int (0 : Int32))] [(.int (1 : Int32))])) _
                exact retN X41 hx (t := .boolean) Bd.returns (by simp) (hb hby at_265) hr
              · exact ⟨rfl, N41⟩
          · have pre43 : ∀ t, Steps p.tables e below (T6.setTop (mkF m 152 #[.val (.int x0), .val (.int x1), .val (.int x2), .val (.int ((x0 &&& (2147483647 : Int32)) % (9 : Int32))), .val (.int q), .unset, .unset] [(.int (5 : Int32)), (.int ((x0 &&& (2147483647 : Int32)) % (9 : Int32)))])) t → Steps p.tables e below (s₁.setTop (entryFrame m #[(.int x0), (.int x1), (.int x2)] maxLocals)) t := fun tt kk => pre36 tt (by
              show Steps p.tables e below (T6.setTop (mkF m 126 #[.val (.int x0), .val (.int x1), .val (.int x2), .val (.int ((x0 &&& (2147483647 : Int32)) % (9 : Int32))), .val (.int q), .unset, .unset] [(.int (4 : Int32)), (.int ((x0 &&& (2147483647 : Int32)) % (9 : Int32)))])) _
              refine XS.icmpYes X6.here hx rfl (pc0 := 126) (pc' := 150) rfl (hb hby at_126) rfl (feq hc126).2 (by decide) (by decide) ?_
              show Steps p.tables e below (T6.setTop (mkF m 150 #[.val (.int x0), .val (.int x1), .val (.int x2), .val (.int ((x0 &&& (2147483647 : Int32)) % (9 : Int32))), .val (.int q), .unset, .unset] [])) _
              refine XS.iloadN X6.here hx rfl (hb hby at_150) rfl ?_
              show Steps p.tables e below (T6.setTop (mkF m 151 #[.val (.int x0), .val (.int x1), .val (.int x2), .val (.int ((x0 &&& (2147483647 : Int32)) % (9 : Int32))), .val (.int q), .unset, .unset] [(.int ((x0 &&& (2147483647 : Int32)) % (9 : Int32)))])) _
              refine XS.iconst X6.here hx rfl (hb hby at_151) ?_
              exact kk)
            by_cases hc152 : ((x0 &&& (2147483647 : Int32)) % (9 : Int32)) = (5 : Int32)
            · obtain ⟨T44, X44, e44, st44⟩ := getS2 X6 hx hZ hown (host := "") (Or.inl (hw _ (List.mem_of_getElem? (i := 47) rfl))) Via.refl e6 ST.2.2.2.2.2.1 (g := (mkF m 155 #[.val (.int x0), .val (.int x1), .val (.int x2), .val (.int ((x0 &&& (2147483647 : Int32)) % (9 : Int32))), .val (.int q), .unset, .unset] [])) rfl (hb hby at_155)
              have pre45 : ∀ t, Steps p.tables e below (T44.setTop (mkF m 163 #[.val (.int x0), .val (.int x1), .val (.int x2), .val (.int ((x0 &&& (2147483647 : Int32)) % (9 : Int32))), .val (.int q), .val (.ref (w 5)), .unset] [(.int (1 : Int32)), (.int q)])) t → Steps p.tables e below (s₁.setTop (entryFrame m #[(.int x0), (.int x1), (.int x2)] maxLocals)) t := fun tt kk => pre43 tt (by
                show Steps p.tables e below (T6.setTop (mkF m 152 #[.val (.int x0), .val (.int x1), .val (.int x2), .val (.int ((x0 &&& (2147483647 : Int32)) % (9 : Int32))), .val (.int q), .unset, .unset] [(.int (5 : Int32)), (.int ((x0 &&& (2147483647 : Int32)) % (9 : Int32)))])) _
                refine XS.icmpNo X6.here hx rfl (hb hby at_152) rfl (teq hc152).2 ?_
                show Steps p.tables e below (T6.setTop (mkF m 155 #[.val (.int x0), .val (.int x1), .val (.int x2), .val (.int ((x0 &&& (2147483647 : Int32)) % (9 : Int32))), .val (.int q), .unset, .unset] [])) _
                refine st44 _ ?_
                show Steps p.tables e below (T44.setTop (mkF m 158 #[.val (.int x0), .val (.int x1), .val (.int x2), .val (.int ((x0 &&& (2147483647 : Int32)) % (9 : Int32))), .val (.int q), .unset, .unset] [(.ref (w 5))])) _
                refine XS.astore X44.here hx rfl (hb hby at_158) rfl rfl (l' := #[.val (.int x0), .val (.int x1), .val (.int x2), .val (.int ((x0 &&& (2147483647 : Int32)) % (9 : Int32))), .val (.int q), .val (.ref (w 5)), .unset]) rfl ?_
                show Steps p.tables e below (T44.setTop (mkF m 160 #[.val (.int x0), .val (.int x1), .val (.int x2), .val (.int ((x0 &&& (2147483647 : Int32)) % (9 : Int32))), .val (.int q), .val (.ref (w 5)), .unset] [])) _
                refine XS.iload X44.here hx rfl (hb hby at_160) rfl ?_
                show Steps p.tables e below (T44.setTop (mkF m 162 #[.val (.int x0), .val (.int x1), .val (.int x2), .val (.int ((x0 &&& (2147483647 : Int32)) % (9 : Int32))), .val (.int q), .val (.ref (w 5)), .unset] [(.int q)])) _
                refine XS.iconst X44.here hx rfl (hb hby at_162) ?_
                exact kk)
              by_cases hc163 : q = (1 : Int32)
              · obtain ⟨cq46, kq46, q46a, q46b, q46c⟩ := isOf hZ e44 EX.2.2.2.2.2.1
                obtain ⟨vv46, _, ⟨T46, L46, k46, n46⟩, -, X46, ⟨Lc46, hQ46, l46, y46, z46⟩, st46⟩ := X44.virtualBack hx (y := (⟨"com/example/pledgeline/pledgeline/Builtin", "takes", "(I)Z"⟩ : MethodName)) (z := (⟨"com/example/pledgeline/pledgeline/Builtin", "takes", "(I)Z"⟩ : MethodName)) hown (mvT hZ (hw _ (List.mem_of_getElem? (i := 4) rfl))) (mvT hZ (hw _ (List.mem_of_getElem? (i := 5) rfl))) (notFace_of_selects (args := #[]) (mvT hZ (hw _ (List.mem_of_getElem? (i := 49) rfl)))) (mvT hZ (hw _ (List.mem_of_getElem? (i := 49) rfl))) (mvT hZ (hw _ (List.mem_of_getElem? (i := 6) rfl))) (by decide) (backOf (W := 0) (rm_tk l Z a0 hw [] (w 5) q (1 : Int32) (1 : Int32) h0 n0 Z0 FF.2.2.2.2.2.1 FG.2.2.2.2.2.1) hZ (hw _ (List.mem_of_getElem? (i := 8) rfl)) (hw _ (List.mem_of_getElem? (i := 2) rfl)) (by decide) (by decide)) q46a q46c (g := (mkF m 252 #[.val (.int x0), .val (.int x1), .val (.int x2), .val (.int ((x0 &&& (2147483647 : Int32)) % (9 : Int32))), .val (.int q), .val (.ref (w 5)), .val (.int (1 : Int32))] [(.int q), (.ref (w 5))])) rfl (by rw [hml]; rfl) (Steps.refl _) (argsL := [(.int q)]) (rest := []) (lenOf own_pd_0 rfl) rfl (by show 2 * 0 + _ ≤ _; exact Nat.le_of_eq rfl) (hb hby at_252) (fun _ _ => ⟨rfl, e44, (by decide : 0 + 0 ≤ _), (by decide : 0 + 0 ≤ _)⟩)
                dsimp only [Pt.U, Pt.locs, Pt.cells, Pt.slots] at X46 l46 y46 z46 st46 hQ46
                subst l46 y46 z46
                rw [own_tk_eq hc163] at hQ46
                obtain ⟨rfl, N46q, e46⟩ := hQ46
                have N46 := Fr.app N0 N46q
                have pre47 : ∀ t, Steps p.tables e below (T46.setTop (mkF m 257 #[.val (.int x0), .val (.int x1), .val (.int x2), .val (.int ((x0 &&& (2147483647 : Int32)) % (9 : Int32))), .val (.int q), .val (.ref (w 5)), .val (.int (1 : Int32))] [(.int (1 : Int32)), (.int (1 : Int32))])) t → Steps p.tables e below (s₁.setTop (entryFrame m #[(.int x0), (.int x1), (.int x2)] maxLocals)) t := fun tt kk => pre45 tt (by
                  show Steps p.tables e below (T44.setTop (mkF m 163 #[.val (.int x0), .val (.int x1), .val (.int x2), .val (.int ((x0 &&& (2147483647 : Int32)) % (9 : Int32))), .val (.int q), .val (.ref (w 5)), .unset] [(.int (1 : Int32)), (.int q)])) _
                  refine XS.icmpNo X44.here hx rfl (hb hby at_163) rfl (teq hc163).2 ?_
                  show Steps p.tables e below (T44.setTop (mkF m 166 #[.val (.int x0), .val (.int x1), .val (.int x2), .val (.int ((x0 &&& (2147483647 : Int32)) % (9 : Int32))), .val (.int q), .val (.ref (w 5)), .unset] [])) _
                  refine XS.iconst X44.here hx rfl (hb hby at_166) ?_
                  show Steps p.tables e below (T44.setTop (mkF m 167 #[.val (.int x0), .val (.int x1), .val (.int x2), .val (.int ((x0 &&& (2147483647 : Int32)) % (9 : Int32))), .val (.int q), .val (.ref (w 5)), .unset] [(.int (1 : Int32))])) _
                  refine XS.goto X44.here hx rfl (pc0 := 167) (pc' := 171) rfl (hb hby at_167) (by decide) (by decide) ?_
                  show Steps p.tables e below (T44.setTop (mkF m 171 #[.val (.int x0), .val (.int x1), .val (.int x2), .val (.int ((x0 &&& (2147483647 : Int32)) % (9 : Int32))), .val (.int q), .val (.ref (w 5)), .unset] [(.int (1 : Int32))])) _
                  refine XS.istore X44.here hx rfl (hb hby at_171) rfl (l' := #[.val (.int x0), .val (.int x1), .val (.int x2), .val (.int ((x0 &&& (2147483647 : Int32)) % (9 : Int32))), .val (.int q), .val (.ref (w 5)), .val (.int (1 : Int32))]) rfl ?_
                  show Steps p.tables e below (T44.setTop (mkF m 173 #[.val (.int x0), .val (.int x1), .val (.int x2), .val (.int ((x0 &&& (2147483647 : Int32)) % (9 : Int32))), .val (.int q), .val (.ref (w 5)), .val (.int (1 : Int32))] [])) _
                  refine XS.goto X44.here hx rfl (pc0 := 173) (pc' := 248) rfl (hb hby at_173) (by decide) (by decide) ?_
                  show Steps p.tables e below (T44.setTop (mkF m 248 #[.val (.int x0), .val (.int x1), .val (.int x2), .val (.int ((x0 &&& (2147483647 : Int32)) % (9 : Int32))), .val (.int q), .val (.ref (w 5)), .val (.int (1 : Int32))] [])) _
                  refine XS.aload X44.here hx rfl (hb hby at_248) rfl rfl ?_
                  show Steps p.tables e below (T44.setTop (mkF m 250 #[.val (.int x0), .val (.int x1), .val (.int x2), .val (.int ((x0 &&& (2147483647 : Int32)) % (9 : Int32))), .val (.int q), .val (.ref (w 5)), .val (.int (1 : Int32))] [(.ref (w 5))])) _
                  refine XS.iload X44.here hx rfl (hb hby at_250) rfl ?_
                  show Steps p.tables e below (T44.setTop (mkF m 252 #[.val (.int x0), .val (.int x1), .val (.int x2), .val (.int ((x0 &&& (2147483647 : Int32)) % (9 : Int32))), .val (.int q), .val (.ref (w 5)), .val (.int (1 : Int32))] [(.int q), (.ref (w 5))])) _
                  refine st46.trans ?_
                  show Steps p.tables e below (T46.setTop (mkF m 255 #[.val (.int x0), .val (.int x1), .val (.int x2), .val (.int ((x0 &&& (2147483647 : Int32)) % (9 : Int32))), .val (.int q), .val (.ref (w 5)), .val (.int (1 : Int32))] [(.int (1 : Int32))])) _
                  refine XS.iload X46.here hx rfl (hb hby at_255) rfl ?_
                  exact kk)
                obtain ⟨fs, hr, hrun, hended, hW, hsame⟩ := X46.leave (v := some (.int (1 : Int32))) (fun h => by rw [Bd.returns] at h; cases h)
                refine ⟨_, _, pre47 _ ?_, hrun, hended, _, _, rfl, ?_, ⟨_, rfl⟩, hW, hsame.mono (by decide) (by decide)⟩
                · show Steps p.tables e below (T46.setTop (mkF m 257 #[.val (.int x0), .val (.int x1), .val (.int x2), .val (.int ((x0 &&& (2147483647 : Int32)) % (9 : Int32))), .val (.int q), .val (.ref (w 5)), .val (.int (1 : Int32))] [(.int (1 : Int32)), (.int (1 : Int32))])) _
                  refine XS.icmpNo X46.here hx rfl (hb hby at_257) rfl (teq (by decide : (1 : Int32) = (1 : Int32))).2 ?_
                  show Steps p.tables e below (T46.setTop (mkF m 260 #[.val (.int x0), .val (.int x1), .val (.int x2), .val (.int ((x0 &&& (2147483647 : Int32)) % (9 : Int32))), .val (.int q), .val (.ref (w 5)), .val (.int (1 : Int32))] [])) _
                  refine XS.iconst X46.here hx rfl (hb hby at_260) ?_
                  show Steps p.tables e below (T46.setTop (mkF m 261 #[.val (.int x0), .val (.int x1), .val (.int x2), .val (.int ((x0 &&& (2147483647 : Int32)) % (9 : Int32))), .val (.int q), .val (.ref (w 5)), .val (.int (1 : Int32))] [(.int (1 : Int32))])) _
                  refine XS.goto X46.here hx rfl (pc0 := 261) (pc' := 265) rfl (hb hby at_261) (by decide) (by decide) ?_
                  show Steps p.tables e below (T46.setTop (mkF m 265 #[.val (.int x0), .val (.int x1), .val (.int x2), .val (.int ((x0 &&& (2147483647 : Int32)) % (9 : Int32))), .val (.int q), .val (.ref (w 5)), .val (.int (1 : Int32))] [(.int (1 : Int32))])) _
                  exact retN X46 hx (t := .boolean) Bd.returns (by simp) (hb hby at_265) hr
                · exact ⟨rfl, N46⟩
              · obtain ⟨cq48, kq48, q48a, q48b, q48c⟩ := isOf hZ e44 EX.2.2.2.2.2.1
                obtain ⟨vv48, _, ⟨T48, L48, k48, n48⟩, -, X48, ⟨Lc48, hQ48, l48, y48, z48⟩, st48⟩ := X44.virtualBack hx (y := (⟨"com/example/pledgeline/pledgeline/Builtin", "takes", "(I)Z"⟩ : MethodName)) (z := (⟨"com/example/pledgeline/pledgeline/Builtin", "takes", "(I)Z"⟩ : MethodName)) hown (mvT hZ (hw _ (List.mem_of_getElem? (i := 4) rfl))) (mvT hZ (hw _ (List.mem_of_getElem? (i := 5) rfl))) (notFace_of_selects (args := #[]) (mvT hZ (hw _ (List.mem_of_getElem? (i := 49) rfl)))) (mvT hZ (hw _ (List.mem_of_getElem? (i := 49) rfl))) (mvT hZ (hw _ (List.mem_of_getElem? (i := 6) rfl))) (by decide) (backOf (W := 0) (rm_tk l Z a0 hw [] (w 5) q (1 : Int32) (1 : Int32) h0 n0 Z0 FF.2.2.2.2.2.1 FG.2.2.2.2.2.1) hZ (hw _ (List.mem_of_getElem? (i := 8) rfl)) (hw _ (List.mem_of_getElem? (i := 2) rfl)) (by decide) (by decide)) q48a q48c (g := (mkF m 252 #[.val (.int x0), .val (.int x1), .val (.int x2), .val (.int ((x0 &&& (2147483647 : Int32)) % (9 : Int32))), .val (.int q), .val (.ref (w 5)), .val (.int (0 : Int32))] [(.int q), (.ref (w 5))])) rfl (by rw [hml]; rfl) (Steps.refl _) (argsL := [(.int q)]) (rest := []) (lenOf own_pd_0 rfl) rfl (by show 2 * 0 + _ ≤ _; exact Nat.le_of_eq rfl) (hb hby at_252) (fun _ _ => ⟨rfl, e44, (by decide : 0 + 0 ≤ _), (by decide : 0 + 0 ≤ _)⟩)
                dsimp only [Pt.U, Pt.locs, Pt.cells, Pt.slots] at X48 l48 y48 z48 st48 hQ48
                subst l48 y48 z48
                rw [own_tk_ne hc163] at hQ48
                obtain ⟨rfl, N48q, e48⟩ := hQ48
                have N48 := Fr.app N0 N48q
                have pre49 : ∀ t, Steps p.tables e below (T48.setTop (mkF m 257 #[.val (.int x0), .val (.int x1), .val (.int x2), .val (.int ((x0 &&& (2147483647 : Int32)) % (9 : Int32))), .val (.int q), .val (.ref (w 5)), .val (.int (0 : Int32))] [(.int (0 : Int32)), (.int (0 : Int32))])) t → Steps p.tables e below (s₁.setTop (entryFrame m #[(.int x0), (.int x1), (.int x2)] maxLocals)) t := fun tt kk => pre45 tt (by
                  show Steps p.tables e below (T44.setTop (mkF m 163 #[.val (.int x0), .val (.int x1), .val (.int x2), .val (.int ((x0 &&& (2147483647 : Int32)) % (9 : Int32))), .val (.int q), .val (.ref (w 5)), .unset] [(.int (1 : Int32)), (.int q)])) _
                  refine XS.icmpYes X44.here hx rfl (pc0 := 163) (pc' := 170) rfl (hb hby at_163) rfl (feq hc163).2 (by decide) (by decide) ?_
                  show Steps p.tables e below (T44.setTop (mkF m 170 #[.val (.int x0), .val (.int x1), .val (.int x2), .val (.int ((x0 &&& (2147483647 : Int32)) % (9 : Int32))), .val (.int q), .val (.ref (w 5)), .unset] [])) _
                  refine XS.iconst X44.here hx rfl (hb hby at_170) ?_
                  show Steps p.tables e below (T44.setTop (mkF m 171 #[.val (.int x0), .val (.int x1), .val (.int x2), .val (.int ((x0 &&& (2147483647 : Int32)) % (9 : Int32))), .val (.int q), .val (.ref (w 5)), .unset] [(.int (0 : Int32))])) _
                  refine XS.istore X44.here hx rfl (hb hby at_171) rfl (l' := #[.val (.int x0), .val (.int x1), .val (.int x2), .val (.int ((x0 &&& (2147483647 : Int32)) % (9 : Int32))), .val (.int q), .val (.ref (w 5)), .val (.int (0 : Int32))]) rfl ?_
                  show Steps p.tables e below (T44.setTop (mkF m 173 #[.val (.int x0), .val (.int x1), .val (.int x2), .val (.int ((x0 &&& (2147483647 : Int32)) % (9 : Int32))), .val (.int q), .val (.ref (w 5)), .val (.int (0 : Int32))] [])) _
                  refine XS.goto X44.here hx rfl (pc0 := 173) (pc' := 248) rfl (hb hby at_173) (by decide) (by decide) ?_
                  show Steps p.tables e below (T44.setTop (mkF m 248 #[.val (.int x0), .val (.int x1), .val (.int x2), .val (.int ((x0 &&& (2147483647 : Int32)) % (9 : Int32))), .val (.int q), .val (.ref (w 5)), .val (.int (0 : Int32))] [])) _
                  refine XS.aload X44.here hx rfl (hb hby at_248) rfl rfl ?_
                  show Steps p.tables e below (T44.setTop (mkF m 250 #[.val (.int x0), .val (.int x1), .val (.int x2), .val (.int ((x0 &&& (2147483647 : Int32)) % (9 : Int32))), .val (.int q), .val (.ref (w 5)), .val (.int (0 : Int32))] [(.ref (w 5))])) _
                  refine XS.iload X44.here hx rfl (hb hby at_250) rfl ?_
                  show Steps p.tables e below (T44.setTop (mkF m 252 #[.val (.int x0), .val (.int x1), .val (.int x2), .val (.int ((x0 &&& (2147483647 : Int32)) % (9 : Int32))), .val (.int q), .val (.ref (w 5)), .val (.int (0 : Int32))] [(.int q), (.ref (w 5))])) _
                  refine st48.trans ?_
                  show Steps p.tables e below (T48.setTop (mkF m 255 #[.val (.int x0), .val (.int x1), .val (.int x2), .val (.int ((x0 &&& (2147483647 : Int32)) % (9 : Int32))), .val (.int q), .val (.ref (w 5)), .val (.int (0 : Int32))] [(.int (0 : Int32))])) _
                  refine XS.iload X48.here hx rfl (hb hby at_255) rfl ?_
                  exact kk)
                obtain ⟨fs, hr, hrun, hended, hW, hsame⟩ := X48.leave (v := some (.int (1 : Int32))) (fun h => by rw [Bd.returns] at h; cases h)
                refine ⟨_, _, pre49 _ ?_, hrun, hended, _, _, rfl, ?_, ⟨_, rfl⟩, hW, hsame.mono (by decide) (by decide)⟩
                · show Steps p.tables e below (T48.setTop (mkF m 257 #[.val (.int x0), .val (.int x1), .val (.int x2), .val (.int ((x0 &&& (2147483647 : Int32)) % (9 : Int32))), .val (.int q), .val (.ref (w 5)), .val (.int (0 : Int32))] [(.int (0 : Int32)), (.int (0 : Int32))])) _
                  refine XS.icmpNo X48.here hx rfl (hb hby at_257) rfl (teq (by decide : (0 : Int32) = (0 : Int32))).2 ?_
                  show Steps p.tables e below (T48.setTop (mkF m 260 #[.val (.int x0), .val (.int x1), .val (.int x2), .val (.int ((x0 &&& (2147483647 : Int32)) % (9 : Int32))), .val (.int q), .val (.ref (w 5)), .val (.int (0 : Int32))] [])) _
                  refine XS.iconst X48.here hx rfl (hb hby at_260) ?_
                  show Steps p.tables e below (T48.setTop (mkF m 261 #[.val (.int x0), .val (.int x1), .val (.int x2), .val (.int ((x0 &&& (2147483647 : Int32)) % (9 : Int32))), .val (.int q), .val (.ref (w 5)), .val (.int (0 : Int32))] [(.int (1 : Int32))])) _
                  refine XS.goto X48.here hx rfl (pc0 := 261) (pc' := 265) rfl (hb hby at_261) (by decide) (by decide) ?_
                  show Steps p.tables e below (T48.setTop (mkF m 265 #[.val (.int x0), .val (.int x1), .val (.int x2), .val (.int ((x0 &&& (2147483647 : Int32)) % (9 : Int32))), .val (.int q), .val (.ref (w 5)), .val (.int (0 : Int32))] [(.int (1 : Int32))])) _
                  exact retN X48 hx (t := .boolean) Bd.returns (by simp) (hb hby at_265) hr
                · exact ⟨rfl, N48⟩
            · have pre50 : ∀ t, Steps p.tables e below (T6.setTop (mkF m 179 #[.val (.int x0), .val (.int x1), .val (.int x2), .val (.int ((x0 &&& (2147483647 : Int32)) % (9 : Int32))), .val (.int q), .unset, .unset] [(.int (6 : Int32)), (.int ((x0 &&& (2147483647 : Int32)) % (9 : Int32)))])) t → Steps p.tables e below (s₁.setTop (entryFrame m #[(.int x0), (.int x1), (.int x2)] maxLocals)) t := fun tt kk => pre43 tt (by
                show Steps p.tables e below (T6.setTop (mkF m 152 #[.val (.int x0), .val (.int x1), .val (.int x2), .val (.int ((x0 &&& (2147483647 : Int32)) % (9 : Int32))), .val (.int q), .unset, .unset] [(.int (5 : Int32)), (.int ((x0 &&& (2147483647 : Int32)) % (9 : Int32)))])) _
                refine XS.icmpYes X6.here hx rfl (pc0 := 152) (pc' := 176) rfl (hb hby at_152) rfl (feq hc152).2 (by decide) (by decide) ?_
                show Steps p.tables e below (T6.setTop (mkF m 176 #[.val (.int x0), .val (.int x1), .val (.int x2), .val (.int ((x0 &&& (2147483647 : Int32)) % (9 : Int32))), .val (.int q), .unset, .unset] [])) _
                refine XS.iloadN X6.here hx rfl (hb hby at_176) rfl ?_
                show Steps p.tables e below (T6.setTop (mkF m 177 #[.val (.int x0), .val (.int x1), .val (.int x2), .val (.int ((x0 &&& (2147483647 : Int32)) % (9 : Int32))), .val (.int q), .unset, .unset] [(.int ((x0 &&& (2147483647 : Int32)) % (9 : Int32)))])) _
                refine XS.bipush X6.here hx rfl (hb hby at_177) ?_
                exact kk)
              by_cases hc179 : ((x0 &&& (2147483647 : Int32)) % (9 : Int32)) = (6 : Int32)
              · obtain ⟨T51, X51, e51, st51⟩ := getS2 X6 hx hZ hown (host := "") (Or.inl (hw _ (List.mem_of_getElem? (i := 26) rfl))) Via.refl e6 ST.2.2.2.2.2.2.1 (g := (mkF m 182 #[.val (.int x0), .val (.int x1), .val (.int x2), .val (.int ((x0 &&& (2147483647 : Int32)) % (9 : Int32))), .val (.int q), .unset, .unset] [])) rfl (hb hby at_182)
                have pre52 : ∀ t, Steps p.tables e below (T51.setTop (mkF m 190 #[.val (.int x0), .val (.int x1), .val (.int x2), .val (.int ((x0 &&& (2147483647 : Int32)) % (9 : Int32))), .val (.int q), .val (.ref (w 6)), .unset] [(.int (1 : Int32)), (.int q)])) t → Steps p.tables e below (s₁.setTop (entryFrame m #[(.int x0), (.int x1), (.int x2)] maxLocals)) t := fun tt kk => pre50 tt (by
                  show Steps p.tables e below (T6.setTop (mkF m 179 #[.val (.int x0), .val (.int x1), .val (.int x2), .val (.int ((x0 &&& (2147483647 : Int32)) % (9 : Int32))), .val (.int q), .unset, .unset] [(.int (6 : Int32)), (.int ((x0 &&& (2147483647 : Int32)) % (9 : Int32)))])) _
                  refine XS.icmpNo X6.here hx rfl (hb hby at_179) rfl (teq hc179).2 ?_
                  show Steps p.tables e below (T6.setTop (mkF m 182 #[.val (.int x0), .val (.int x1), .val (.int x2), .val (.int ((x0 &&& (2147483647 : Int32)) % (9 : Int32))), .val (.int q), .unset, .unset] [])) _
                  refine st51 _ ?_
                  show Steps p.tables e below (T51.setTop (mkF m 185 #[.val (.int x0), .val (.int x1), .val (.int x2), .val (.int ((x0 &&& (2147483647 : Int32)) % (9 : Int32))), .val (.int q), .unset, .unset] [(.ref (w 6))])) _
                  refine XS.astore X51.here hx rfl (hb hby at_185) rfl rfl (l' := #[.val (.int x0), .val (.int x1), .val (.int x2), .val (.int ((x0 &&& (2147483647 : Int32)) % (9 : Int32))), .val (.int q), .val (.ref (w 6)), .unset]) rfl ?_
                  show Steps p.tables e below (T51.setTop (mkF m 187 #[.val (.int x0), .val (.int x1), .val (.int x2), .val (.int ((x0 &&& (2147483647 : Int32)) % (9 : Int32))), .val (.int q), .val (.ref (w 6)), .unset] [])) _
                  refine XS.iload X51.here hx rfl (hb hby at_187) rfl ?_
                  show Steps p.tables e below (T51.setTop (mkF m 189 #[.val (.int x0), .val (.int x1), .val (.int x2), .val (.int ((x0 &&& (2147483647 : Int32)) % (9 : Int32))), .val (.int q), .val (.ref (w 6)), .unset] [(.int q)])) _
                  refine XS.iconst X51.here hx rfl (hb hby at_189) ?_
                  exact kk)
                by_cases hc190 : q = (1 : Int32)
                · obtain ⟨cq53, kq53, q53a, q53b, q53c⟩ := isOf hZ e51 EX.2.2.2.2.2.2.1
                  obtain ⟨vv53, _, ⟨T53, L53, k53, n53⟩, -, X53, ⟨Lc53, hQ53, l53, y53, z53⟩, st53⟩ := X51.virtualBack hx (y := (⟨"com/example/pledgeline/pledgeline/Builtin", "takes", "(I)Z"⟩ : MethodName)) (z := (⟨"com/example/pledgeline/pledgeline/Builtin", "takes", "(I)Z"⟩ : MethodName)) hown (mvT hZ (hw _ (List.mem_of_getElem? (i := 4) rfl))) (mvT hZ (hw _ (List.mem_of_getElem? (i := 5) rfl))) (notFace_of_selects (args := #[]) (mvT hZ (hw _ (List.mem_of_getElem? (i := 28) rfl)))) (mvT hZ (hw _ (List.mem_of_getElem? (i := 28) rfl))) (mvT hZ (hw _ (List.mem_of_getElem? (i := 6) rfl))) (by decide) (backOf (W := 0) (rm_tk l Z a0 hw [] (w 6) q (1 : Int32) (1 : Int32) h0 n0 Z0 FF.2.2.2.2.2.2.1 FG.2.2.2.2.2.2.1) hZ (hw _ (List.mem_of_getElem? (i := 8) rfl)) (hw _ (List.mem_of_getElem? (i := 2) rfl)) (by decide) (by decide)) q53a q53c (g := (mkF m 252 #[.val (.int x0), .val (.int x1), .val (.int x2), .val (.int ((x0 &&& (2147483647 : Int32)) % (9 : Int32))), .val (.int q), .val (.ref (w 6)), .val (.int (1 : Int32))] [(.int q), (.ref (w 6))])) rfl (by rw [hml]; rfl) (Steps.refl _) (argsL := [(.int q)]) (rest := []) (lenOf own_pd_0 rfl) rfl (by show 2 * 0 + _ ≤ _; exact Nat.le_of_eq rfl) (hb hby at_252) (fun _ _ => ⟨rfl, e51, (by decide : 0 + 0 ≤ _), (by decide : 0 + 0 ≤ _)⟩)
                  dsimp only [Pt.U, Pt.locs, Pt.cells, Pt.slots] at X53 l53 y53 z53 st53 hQ53
                  subst l53 y53 z53
                  rw [own_tk_eq hc190] at hQ53
                  obtain ⟨rfl, N53q, e53⟩ := hQ53
                  have N53 := Fr.app N0 N53q
                  have pre54 : ∀ t, Steps p.tables e below (T53.setTop (mkF m 257 #[.val (.int x0), .val (.int x1), .val (.int x2), .val (.int ((x0 &&& (2147483647 : Int32)) % (9 : Int32))), .val (.int q), .val (.ref (w 6)), .val (.int (1 : Int32))] [(.int (1 : Int32)), (.int (1 : Int32))])) t → Steps p.tables e below (s₁.setTop (entryFrame m #[(.int x0), (.int x1), (.int x2)] maxLocals)) t := fun tt kk => pre52 tt (by
                    show Steps p.tables e below (T51.setTop (mkF m 190 #[.val (.int x0), .val (.int x1), .val (.int x2), .val (.int ((x0 &&& (2147483647 : Int32)) % (9 : Int32))), .val (.int q), .val (.ref (w 6)), .unset] [(.int (1 : Int32)), (.int q)])) _
                    refine XS.icmpNo X51.here hx rfl (hb hby at_190) rfl (teq hc190).2 ?_
                    show Steps p.tables e below (T51.setTop (mkF m 193 #[.val (.int x0), .val (.int x1), .val (.int x2), .val (.int ((x0 &&& (2147483647 : Int32)) % (9 : Int32))), .val (.int q), .val (.ref (w 6)), .unset] [])) _
                    refine XS.iconst X51.here hx rfl (hb hby at_193) ?_
                    show Steps p.tables e below (T51.setTop (mkF m 194 #[.val (.int x0), .val (.int x1), .val (.int x2), .val (.int ((x0 &&& (2147483647 : Int32)) % (9 : Int32))), .val (.int q), .val (.ref (w 6)), .unset] [(.int (1 : Int32))])) _
                    refine XS.goto X51.here hx rfl (pc0 := 194) (pc' := 198) rfl (hb hby at_194) (by decide) (by decide) ?_
                    show Steps p.tables e below (T51.setTop (mkF m 198 #[.val (.int x0), .val (.int x1), .val (.int x2), .val (.int ((x0 &&& (2147483647 : Int32)) % (9 : Int32))), .val (.int q), .val (.ref (w 6)), .unset] [(.int (1 : Int32))])) _
                    refine XS.istore X51.here hx rfl (hb hby at_198) rfl (l' := #[.val (.int x0), .val (.int x1), .val (.int x2), .val (.int ((x0 &&& (2147483647 : Int32)) % (9 : Int32))), .val (.int q), .val (.ref (w 6)), .val (.int (1 : Int32))]) rfl ?_
                    show Steps p.tables e below (T51.setTop (mkF m 200 #[.val (.int x0), .val (.int x1), .val (.int x2), .val (.int ((x0 &&& (2147483647 : Int32)) % (9 : Int32))), .val (.int q), .val (.ref (w 6)), .val (.int (1 : Int32))] [])) _
                    refine XS.goto X51.here hx rfl (pc0 := 200) (pc' := 248) rfl (hb hby at_200) (by decide) (by decide) ?_
                    show Steps p.tables e below (T51.setTop (mkF m 248 #[.val (.int x0), .val (.int x1), .val (.int x2), .val (.int ((x0 &&& (2147483647 : Int32)) % (9 : Int32))), .val (.int q), .val (.ref (w 6)), .val (.int (1 : Int32))] [])) _
                    refine XS.aload X51.here hx rfl (hb hby at_248) rfl rfl ?_
                    show Steps p.tables e below (T51.setTop (mkF m 250 #[.val (.int x0), .val (.int x1), .val (.int x2), .val (.int ((x0 &&& (2147483647 : Int32)) % (9 : Int32))), .val (.int q), .val (.ref (w 6)), .val (.int (1 : Int32))] [(.ref (w 6))])) _
                    refine XS.iload X51.here hx rfl (hb hby at_250) rfl ?_
                    show Steps p.tables e below (T51.setTop (mkF m 252 #[.val (.int x0), .val (.int x1), .val (.int x2), .val (.int ((x0 &&& (2147483647 : Int32)) % (9 : Int32))), .val (.int q), .val (.ref (w 6)), .val (.int (1 : Int32))] [(.int q), (.ref (w 6))])) _
                    refine st53.trans ?_
                    show Steps p.tables e below (T53.setTop (mkF m 255 #[.val (.int x0), .val (.int x1), .val (.int x2), .val (.int ((x0 &&& (2147483647 : Int32)) % (9 : Int32))), .val (.int q), .val (.ref (w 6)), .val (.int (1 : Int32))] [(.int (1 : Int32))])) _
                    refine XS.iload X53.here hx rfl (hb hby at_255) rfl ?_
                    exact kk)
                  obtain ⟨fs, hr, hrun, hended, hW, hsame⟩ := X53.leave (v := some (.int (1 : Int32))) (fun h => by rw [Bd.returns] at h; cases h)
                  refine ⟨_, _, pre54 _ ?_, hrun, hended, _, _, rfl, ?_, ⟨_, rfl⟩, hW, hsame.mono (by decide) (by decide)⟩
                  · show Steps p.tables e below (T53.setTop (mkF m 257 #[.val (.int x0), .val (.int x1), .val (.int x2), .val (.int ((x0 &&& (2147483647 : Int32)) % (9 : Int32))), .val (.int q), .val (.ref (w 6)), .val (.int (1 : Int32))] [(.int (1 : Int32)), (.int (1 : Int32))])) _
                    refine XS.icmpNo X53.here hx rfl (hb hby at_257) rfl (teq (by decide : (1 : Int32) = (1 : Int32))).2 ?_
                    show Steps p.tables e below (T53.setTop (mkF m 260 #[.val (.int x0), .val (.int x1), .val (.int x2), .val (.int ((x0 &&& (2147483647 : Int32)) % (9 : Int32))), .val (.int q), .val (.ref (w 6)), .val (.int (1 : Int32))] [])) _
                    refine XS.iconst X53.here hx rfl (hb hby at_260) ?_
                    show Steps p.tables e below (T53.setTop (mkF m 261 #[.val (.int x0), .val (.int x1), .val (.int x2), .val (.int ((x0 &&& (2147483647 : Int32)) % (9 : Int32))), .val (.int q), .val (.ref (w 6)), .val (.int (1 : Int32))] [(.int (1 : Int32))])) _
                    refine XS.goto X53.here hx rfl (pc0 := 261) (pc' := 265) rfl (hb hby at_261) (by decide) (by decide) ?_
                    show Steps p.tables e below (T53.setTop (mkF m 265 #[.val (.int x0), .val (.int x1), .val (.int x2), .val (.int ((x0 &&& (2147483647 : Int32)) % (9 : Int32))), .val (.int q), .val (.ref (w 6)), .val (.int (1 : Int32))] [(.int (1 : Int32))])) _
                    exact retN X53 hx (t := .boolean) Bd.returns (by simp) (hb hby at_265) hr
                  · exact ⟨rfl, N53⟩
                · obtain ⟨cq55, kq55, q55a, q55b, q55c⟩ := isOf hZ e51 EX.2.2.2.2.2.2.1
                  obtain ⟨vv55, _, ⟨T55, L55, k55, n55⟩, -, X55, ⟨Lc55, hQ55, l55, y55, z55⟩, st55⟩ := X51.virtualBack hx (y := (⟨"com/example/pledgeline/pledgeline/Builtin", "takes", "(I)Z"⟩ : MethodName)) (z := (⟨"com/example/pledgeline/pledgeline/Builtin", "takes", "(I)Z"⟩ : MethodName)) hown (mvT hZ (hw _ (List.mem_of_getElem? (i := 4) rfl))) (mvT hZ (hw _ (List.mem_of_getElem? (i := 5) rfl))) (notFace_of_selects (args := #[]) (mvT hZ (hw _ (List.mem_of_getElem? (i := 28) rfl)))) (mvT hZ (hw _ (List.mem_of_getElem? (i := 28) rfl))) (mvT hZ (hw _ (List.mem_of_getElem? (i := 6) rfl))) (by decide) (backOf (W := 0) (rm_tk l Z a0 hw [] (w 6) q (1 : Int32) (1 : Int32) h0 n0 Z0 FF.2.2.2.2.2.2.1 FG.2.2.2.2.2.2.1) hZ (hw _ (List.mem_of_getElem? (i := 8) rfl)) (hw _ (List.mem_of_getElem? (i := 2) rfl)) (by decide) (by decide)) q55a q55c (g := (mkF m 252 #[.val (.int x0), .val (.int x1), .val (.int x2), .val (.int ((x0 &&& (2147483647 : Int32)) % (9 : Int32))), .val (.int q), .val (.ref (w 6)), .val (.int (0 : Int32))] [(.int q), (.ref (w 6))])) rfl (by rw [hml]; rfl) (Steps.refl _) (argsL := [(.int q)]) (rest := []) (lenOf own_pd_0 rfl) rfl (by show 2 * 0 + _ ≤ _; exact Nat.le_of_eq rfl) (hb hby at_252) (fun _ _ => ⟨rfl, e51, (by decide : 0 + 0 ≤ _), (by decide : 0 + 0 ≤ _)⟩)
                  dsimp only [Pt.U, Pt.locs, Pt.cells, Pt.slots] at X55 l55 y55 z55 st55 hQ55
                  subst l55 y55 z55
                  rw [own_tk_ne hc190] at hQ55
                  obtain ⟨rfl, N55q, e55⟩ := hQ55
                  have N55 := Fr.app N0 N55q
                  have pre56 : ∀ t, Steps p.tables e below (T55.setTop (mkF m 257 #[.val (.int x0), .val (.int x1), .val (.int x2), .val (.int ((x0 &&& (2147483647 : Int32)) % (9 : Int32))), .val (.int q), .val (.ref (w 6)), .val (.int (0 : Int32))] [(.int (0 : Int32)), (.int (0 : Int32))])) t → Steps p.tables e below (s₁.setTop (entryFrame m #[(.int x0), (.int x1), (.int x2)] maxLocals)) t := fun tt kk => pre52 tt (by
                    show Steps p.tables e below (T51.setTop (mkF m 190 #[.val (.int x0), .val (.int x1), .val (.int x2), .val (.int ((x0 &&& (2147483647 : Int32)) % (9 : Int32))), .val (.int q), .val (.ref (w 6)), .unset] [(.int (1 : Int32)), (.int q)])) _
                    refine XS.icmpYes X51.here hx rfl (pc0 := 190) (pc' := 197) rfl (hb hby at_190) rfl (feq hc190).2 (by decide) (by decide) ?_
                    show Steps p.tables e below (T51.setTop (mkF m 197 #[.val (.int x0), .val (.int x1), .val (.int x2), .val (.int ((x0 &&& (2147483647 : Int32)) % (9 : Int32))), .val (.int q), .val (.ref (w 6)), .unset] [])) _
                    refine XS.iconst X51.here hx rfl (hb hby at_197) ?_
                    show Steps p.tables e below (T51.setTop (mkF m 198 #[.val (.int x0), .val (.int x1), .val (.int x2), .val (.int ((x0 &&& (2147483647 : Int32)) % (9 : Int32))), .val (.int q), .val (.ref (w 6)), .unset] [(.int (0 : Int32))])) _
                    refine XS.istore X51.here hx rfl (hb hby at_198) rfl (l' := #[.val (.int x0), .val (.int x1), .val (.int x2), .val (.int ((x0 &&& (2147483647 : Int32)) % (9 : Int32))), .val (.int q), .val (.ref (w 6)), .val (.int (0 : Int32))]) rfl ?_
                    show Steps p.tables e below (T51.setTop (mkF m 200 #[.val (.int x0), .val (.int x1), .val (.int x2), .val (.int ((x0 &&& (2147483647 : Int32)) % (9 : Int32))), .val (.int q), .val (.ref (w 6)), .val (.int (0 : Int32))] [])) _
                    refine XS.goto X51.here hx rfl (pc0 := 200) (pc' := 248) rfl (hb hby at_200) (by decide) (by decide) ?_
                    show Steps p.tables e below (T51.setTop (mkF m 248 #[.val (.int x0), .val (.int x1), .val (.int x2), .val (.int ((x0 &&& (2147483647 : Int32)) % (9 : Int32))), .val (.int q), .val (.ref (w 6)), .val (.int (0 : Int32))] [])) _
                    refine XS.aload X51.here hx rfl (hb hby at_248) rfl rfl ?_
                    show Steps p.tables e below (T51.setTop (mkF m 250 #[.val (.int x0), .val (.int x1), .val (.int x2), .val (.int ((x0 &&& (2147483647 : Int32)) % (9 : Int32))), .val (.int q), .val (.ref (w 6)), .val (.int (0 : Int32))] [(.ref (w 6))])) _
                    refine XS.iload X51.here hx rfl (hb hby at_250) rfl ?_
                    show Steps p.tables e below (T51.setTop (mkF m 252 #[.val (.int x0), .val (.int x1), .val (.int x2), .val (.int ((x0 &&& (2147483647 : Int32)) % (9 : Int32))), .val (.int q), .val (.ref (w 6)), .val (.int (0 : Int32))] [(.int q), (.ref (w 6))])) _
                    refine st55.trans ?_
                    show Steps p.tables e below (T55.setTop (mkF m 255 #[.val (.int x0), .val (.int x1), .val (.int x2), .val (.int ((x0 &&& (2147483647 : Int32)) % (9 : Int32))), .val (.int q), .val (.ref (w 6)), .val (.int (0 : Int32))] [(.int (0 : Int32))])) _
                    refine XS.iload X55.here hx rfl (hb hby at_255) rfl ?_
                    exact kk)
                  obtain ⟨fs, hr, hrun, hended, hW, hsame⟩ := X55.leave (v := some (.int (1 : Int32))) (fun h => by rw [Bd.returns] at h; cases h)
                  refine ⟨_, _, pre56 _ ?_, hrun, hended, _, _, rfl, ?_, ⟨_, rfl⟩, hW, hsame.mono (by decide) (by decide)⟩
                  · show Steps p.tables e below (T55.setTop (mkF m 257 #[.val (.int x0), .val (.int x1), .val (.int x2), .val (.int ((x0 &&& (2147483647 : Int32)) % (9 : Int32))), .val (.int q), .val (.ref (w 6)), .val (.int (0 : Int32))] [(.int (0 : Int32)), (.int (0 : Int32))])) _
                    refine XS.icmpNo X55.here hx rfl (hb hby at_257) rfl (teq (by decide : (0 : Int32) = (0 : Int32))).2 ?_
                    show Steps p.tables e below (T55.setTop (mkF m 260 #[.val (.int x0), .val (.int x1), .val (.int x2), .val (.int ((x0 &&& (2147483647 : Int32)) % (9 : Int32))), .val (.int q), .val (.ref (w 6)), .val (.int (0 : Int32))] [])) _
                    refine XS.iconst X55.here hx rfl (hb hby at_260) ?_
                    show Steps p.tables e below (T55.setTop (mkF m 261 #[.val (.int x0), .val (.int x1), .val (.int x2), .val (.int ((x0 &&& (2147483647 : Int32)) % (9 : Int32))), .val (.int q), .val (.ref (w 6)), .val (.int (0 : Int32))] [(.int (1 : Int32))])) _
                    refine XS.goto X55.here hx rfl (pc0 := 261) (pc' := 265) rfl (hb hby at_261) (by decide) (by decide) ?_
                    show Steps p.tables e below (T55.setTop (mkF m 265 #[.val (.int x0), .val (.int x1), .val (.int x2), .val (.int ((x0 &&& (2147483647 : Int32)) % (9 : Int32))), .val (.int q), .val (.ref (w 6)), .val (.int (0 : Int32))] [(.int (1 : Int32))])) _
                    exact retN X55 hx (t := .boolean) Bd.returns (by simp) (hb hby at_265) hr
                  · exact ⟨rfl, N55⟩
              · have pre57 : ∀ t, Steps p.tables e below (T6.setTop (mkF m 206 #[.val (.int x0), .val (.int x1), .val (.int x2), .val (.int ((x0 &&& (2147483647 : Int32)) % (9 : Int32))), .val (.int q), .unset, .unset] [(.int (7 : Int32)), (.int ((x0 &&& (2147483647 : Int32)) % (9 : Int32)))])) t → Steps p.tables e below (s₁.setTop (entryFrame m #[(.int x0), (.int x1), (.int x2)] maxLocals)) t := fun tt kk => pre50 tt (by
                  show Steps p.tables e below (T6.setTop (mkF m 179 #[.val (.int x0), .val (.int x1), .val (.int x2), .val (.int ((x0 &&& (2147483647 : Int32)) % (9 : Int32))), .val (.int q), .unset, .unset] [(.int (6 : Int32)), (.int ((x0 &&& (2147483647 : Int32)) % (9 : Int32)))])) _
                  refine XS.icmpYes X6.here hx rfl (pc0 := 179) (pc' := 203) rfl (hb hby at_179) rfl (feq hc179).2 (by decide) (by decide) ?_
                  show Steps p.tables e below (T6.setTop (mkF m 203 #[.val (.int x0), .val (.int x1), .val (.int x2), .val (.int ((x0 &&& (2147483647 : Int32)) % (9 : Int32))), .val (.int q), .unset, .unset] [])) _
                  refine XS.iloadN X6.here hx rfl (hb hby at_203) rfl ?_
                  show Steps p.tables e below (T6.setTop (mkF m 204 #[.val (.int x0), .val (.int x1), .val (.int x2), .val (.int ((x0 &&& (2147483647 : Int32)) % (9 : Int32))), .val (.int q), .unset, .unset] [(.int ((x0 &&& (2147483647 : Int32)) % (9 : Int32)))])) _
                  refine XS.bipush X6.here hx rfl (hb hby at_204) ?_
                  exact kk)
                by_cases hc206 : ((x0 &&& (2147483647 : Int32)) % (9 : Int32)) = (7 : Int32)
                · obtain ⟨T58, X58, e58, st58⟩ := getS2 X6 hx hZ hown (host := "") (Or.inl (hw _ (List.mem_of_getElem? (i := 30) rfl))) Via.refl e6 ST.2.2.2.2.2.2.2.1 (g := (mkF m 209 #[.val (.int x0), .val (.int x1), .val (.int x2), .val (.int ((x0 &&& (2147483647 : Int32)) % (9 : Int32))), .val (.int q), .unset, .unset] [])) rfl (hb hby at_209)
                  have pre59 : ∀ t, Steps p.tables e below (T58.setTop (mkF m 217 #[.val (.int x0), .val (.int x1), .val (.int x2), .val (.int ((x0 &&& (2147483647 : Int32)) % (9 : Int32))), .val (.int q), .val (.ref (w 7)), .unset] [(.int (1 : Int32)), (.int q)])) t → Steps p.tables e below (s₁.setTop (entryFrame m #[(.int x0), (.int x1), (.int x2)] maxLocals)) t := fun tt kk => pre57 tt (by
                    show Steps p.tables e below (T6.setTop (mkF m 206 #[.val (.int x0), .val (.int x1), .val (.int x2), .val (.int ((x0 &&& (2147483647 : Int32)) % (9 : Int32))), .val (.int q), .unset, .unset] [(.int (7 : Int32)), (.int ((x0 &&& (2147483647 : Int32)) % (9 : Int32)))])) _
                    refine XS.icmpNo X6.here hx rfl (hb hby at_206) rfl (teq hc206).2 ?_
                    show Steps p.tables e below (T6.setTop (mkF m 209 #[.val (.int x0), .val (.int x1), .val (.int x2), .val (.int ((x0 &&& (2147483647 : Int32)) % (9 : Int32))), .val (.int q), .unset, .unset] [])) _
                    refine st58 _ ?_
                    show Steps p.tables e below (T58.setTop (mkF m 212 #[.val (.int x0), .val (.int x1), .val (.int x2), .val (.int ((x0 &&& (2147483647 : Int32)) % (9 : Int32))), .val (.int q), .unset, .unset] [(.ref (w 7))])) _
                    refine XS.astore X58.here hx rfl (hb hby at_212) rfl rfl (l' := #[.val (.int x0), .val (.int x1), .val (.int x2), .val (.int ((x0 &&& (2147483647 : Int32)) % (9 : Int32))), .val (.int q), .val (.ref (w 7)), .unset]) rfl ?_
                    show Steps p.tables e below (T58.setTop (mkF m 214 #[.val (.int x0), .val (.int x1), .val (.int x2), .val (.int ((x0 &&& (2147483647 : Int32)) % (9 : Int32))), .val (.int q), .val (.ref (w 7)), .unset] [])) _
                    refine XS.iload X58.here hx rfl (hb hby at_214) rfl ?_
                    show Steps p.tables e below (T58.setTop (mkF m 216 #[.val (.int x0), .val (.int x1), .val (.int x2), .val (.int ((x0 &&& (2147483647 : Int32)) % (9 : Int32))), .val (.int q), .val (.ref (w 7)), .unset] [(.int q)])) _
                    refine XS.iconst X58.here hx rfl (hb hby at_216) ?_
                    exact kk)
                  by_cases hc217 : q = (1 : Int32)
                  · obtain ⟨cq60, kq60, q60a, q60b, q60c⟩ := isOf hZ e58 EX.2.2.2.2.2.2.2.1
                    obtain ⟨vv60, _, ⟨T60, L60, k60, n60⟩, -, X60, ⟨Lc60, hQ60, l60, y60, z60⟩, st60⟩ := X58.virtualBack hx (y := (⟨"com/example/pledgeline/pledgeline/Builtin", "takes", "(I)Z"⟩ : MethodName)) (z := (⟨"com/example/pledgeline/pledgeline/Builtin", "takes", "(I)Z"⟩ : MethodName)) hown (mvT hZ (hw _ (List.mem_of_getElem? (i := 4) rfl))) (mvT hZ (hw _ (List.mem_of_getElem? (i := 5) rfl))) (notFace_of_selects (args := #[]) (mvT hZ (hw _ (List.mem_of_getElem? (i := 32) rfl)))) (mvT hZ (hw _ (List.mem_of_getElem? (i := 32) rfl))) (mvT hZ (hw _ (List.mem_of_getElem? (i := 6) rfl))) (by decide) (backOf (W := 0) (rm_tk l Z a0 hw [] (w 7) q (1 : Int32) (1 : Int32) h0 n0 Z0 FF.2.2.2.2.2.2.2.1 FG.2.2.2.2.2.2.2.1) hZ (hw _ (List.mem_of_getElem? (i := 8) rfl)) (hw _ (List.mem_of_getElem? (i := 2) rfl)) (by decide) (by decide)) q60a q60c (g := (mkF m 252 #[.val (.int x0), .val (.int x1), .val (.int x2), .val (.int ((x0 &&& (2147483647 : Int32)) % (9 : Int32))), .val (.int q), .val (.ref (w 7)), .val (.int (1 : Int32))] [(.int q), (.ref (w 7))])) rfl (by rw [hml]; rfl) (Steps.refl _) (argsL := [(.int q)]) (rest := []) (lenOf own_pd_0 rfl) rfl (by show 2 * 0 + _ ≤ _; exact Nat.le_of_eq rfl) (hb hby at_252) (fun _ _ => ⟨rfl, e58, (by decide : 0 + 0 ≤ _), (by decide : 0 + 0 ≤ _)⟩)
                    dsimp only [Pt.U, Pt.locs, Pt.cells, Pt.slots] at X60 l60 y60 z60 st60 hQ60
                    subst l60 y60 z60
                    rw [own_tk_eq hc217] at hQ60
                    obtain ⟨rfl, N60q, e60⟩ := hQ60
                    have N60 := Fr.app N0 N60q
                    have pre61 : ∀ t, Steps p.tables e below (T60.setTop (mkF m 257 #[.val (.int x0), .val (.int x1), .val (.int x2), .val (.int ((x0 &&& (2147483647 : Int32)) % (9 : Int32))), .val (.int q), .val (.ref (w 7)), .val (.int (1 : Int32))] [(.int (1 : Int32)), (.int (1 : Int32))])) t → Steps p.tables e below (s₁.setTop (entryFrame m #[(.int x0), (.int x1), (.int x2)] maxLocals)) t := fun tt kk => pre59 tt (by
                      show Steps p.tables e below (T58.setTop (mkF m 217 #[.val (.int x0), .val (.int x1), .val (.int x2), .val (.int ((x0 &&& (2147483647 : Int32)) % (9 : Int32))), .val (.int q), .val (.ref (w 7)), .unset] [(.int (1 : Int32)), (.int q)])) _
                      refine XS.icmpNo X58.here hx rfl (hb hby at_217) rfl (teq hc217).2 ?_
                      show Steps p.tables e below (T58.setTop (mkF m 220 #[.val (.int x0), .val (.int x1), .val (.int x2), .val (.int ((x0 &&& (2147483647 : Int32)) % (9 : Int32))), .val (.int q), .val (.ref (w 7)), .unset] [])) _
                      refine XS.iconst X58.here hx rfl (hb hby at_220) ?_
                      show Steps p.tables e below (T58.setTop (mkF m 221 #[.val (.int x0), .val (.int x1), .val (.int x2), .val (.int ((x0 &&& (2147483647 : Int32)) % (9 : Int32))), .val (.int q), .val (.ref (w 7)), .unset] [(.int (1 : Int32))])) _
                      refine XS.goto X58.here hx rfl (pc0 := 221) (pc' := 225) rfl (hb hby at_221) (by decide) (by decide) ?_
                      show Steps p.tables e below (T58.setTop (mkF m 225 #[.val (.int x0), .val (.int x1), .val (.int x2), .val (.int ((x0 &&& (2147483647 : Int32)) % (9 : Int32))), .val (.int q), .val (.ref (w 7)), .unset] [(.int (1 : Int32))])) _
                      refine XS.istore X58.here hx rfl (hb hby at_225) rfl (l' := #[.val (.int x0), .val (.int x1), .val (.int x2), .val (.int ((x0 &&& (2147483647 : Int32)) % (9 : Int32))), .val (.int q), .val (.ref (w 7)), .val (.int (1 : Int32))]) rfl ?_
                      show Steps p.tables e below (T58.setTop (mkF m 227 #[.val (.int x0), .val (.int x1), .val (.int x2), .val (.int ((x0 &&& (2147483647 : Int32)) % (9 : Int32))), .val (.int q), .val (.ref (w 7)), .val (.int (1 : Int32))] [])) _
                      refine XS.goto X58.here hx rfl (pc0 := 227) (pc' := 248) rfl (hb hby at_227) (by decide) (by decide) ?_
                      show Steps p.tables e below (T58.setTop (mkF m 248 #[.val (.int x0), .val (.int x1), .val (.int x2), .val (.int ((x0 &&& (2147483647 : Int32)) % (9 : Int32))), .val (.int q), .val (.ref (w 7)), .val (.int (1 : Int32))] [])) _
                      refine XS.aload X58.here hx rfl (hb hby at_248) rfl rfl ?_
                      show Steps p.tables e below (T58.setTop (mkF m 250 #[.val (.int x0), .val (.int x1), .val (.int x2), .val (.int ((x0 &&& (2147483647 : Int32)) % (9 : Int32))), .val (.int q), .val (.ref (w 7)), .val (.int (1 : Int32))] [(.ref (w 7))])) _
                      refine XS.iload X58.here hx rfl (hb hby at_250) rfl ?_
                      show Steps p.tables e below (T58.setTop (mkF m 252 #[.val (.int x0), .val (.int x1), .val (.int x2), .val (.int ((x0 &&& (2147483647 : Int32)) % (9 : Int32))), .val (.int q), .val (.ref (w 7)), .val (.int (1 : Int32))] [(.int q), (.ref (w 7))])) _
                      refine st60.trans ?_
                      show Steps p.tables e below (T60.setTop (mkF m 255 #[.val (.int x0), .val (.int x1), .val (.int x2), .val (.int ((x0 &&& (2147483647 : Int32)) % (9 : Int32))), .val (.int q), .val (.ref (w 7)), .val (.int (1 : Int32))] [(.int (1 : Int32))])) _
                      refine XS.iload X60.here hx rfl (hb hby at_255) rfl ?_
                      exact kk)
                    obtain ⟨fs, hr, hrun, hended, hW, hsame⟩ := X60.leave (v := some (.int (1 : Int32))) (fun h => by rw [Bd.returns] at h; cases h)
                    refine ⟨_, _, pre61 _ ?_, hrun, hended, _, _, rfl, ?_, ⟨_, rfl⟩, hW, hsame.mono (by decide) (by decide)⟩
                    · show Steps p.tables e below (T60.setTop (mkF m 257 #[.val (.int x0), .val (.int x1), .val (.int x2), .val (.int ((x0 &&& (2147483647 : Int32)) % (9 : Int32))), .val (.int q), .val (.ref (w 7)), .val (.int (1 : Int32))] [(.int (1 : Int32)), (.int (1 : Int32))])) _
                      refine XS.icmpNo X60.here hx rfl (hb hby at_257) rfl (teq (by decide : (1 : Int32) = (1 : Int32))).2 ?_
                      show Steps p.tables e below (T60.setTop (mkF m 260 #[.val (.int x0), .val (.int x1), .val (.int x2), .val (.int ((x0 &&& (2147483647 : Int32)) % (9 : Int32))), .val (.int q), .val (.ref (w 7)), .val (.int (1 : Int32))] [])) _
                      refine XS.iconst X60.here hx rfl (hb hby at_260) ?_
                      show Steps p.tables e below (T60.setTop (mkF m 261 #[.val (.int x0), .val (.int x1), .val (.int x2), .val (.int ((x0 &&& (2147483647 : Int32)) % (9 : Int32))), .val (.int q), .val (.ref (w 7)), .val (.int (1 : Int32))] [(.int (1 : Int32))])) _
                      refine XS.goto X60.here hx rfl (pc0 := 261) (pc' := 265) rfl (hb hby at_261) (by decide) (by decide) ?_
                      show Steps p.tables e below (T60.setTop (mkF m 265 #[.val (.int x0), .val (.int x1), .val (.int x2), .val (.int ((x0 &&& (2147483647 : Int32)) % (9 : Int32))), .val (.int q), .val (.ref (w 7)), .val (.int (1 : Int32))] [(.int (1 : Int32))])) _
                      exact retN X60 hx (t := .boolean) Bd.returns (by simp) (hb hby at_265) hr
                    · exact ⟨rfl, N60⟩
                  · obtain ⟨cq62, kq62, q62a, q62b, q62c⟩ := isOf hZ e58 EX.2.2.2.2.2.2.2.1
                    obtain ⟨vv62, _, ⟨T62, L62, k62, n62⟩, -, X62, ⟨Lc62, hQ62, l62, y62, z62⟩, st62⟩ := X58.virtualBack hx (y := (⟨"com/example/pledgeline/pledgeline/Builtin", "takes", "(I)Z"⟩ : MethodName)) (z := (⟨"com/example/pledgeline/pledgeline/Builtin", "takes", "(I)Z"⟩ : MethodName)) hown (mvT hZ (hw _ (List.mem_of_getElem? (i := 4) rfl))) (mvT hZ (hw _ (List.mem_of_getElem? (i := 5) rfl))) (notFace_of_selects (args := #[]) (mvT hZ (hw _ (List.mem_of_getElem? (i := 32) rfl)))) (mvT hZ (hw _ (List.mem_of_getElem? (i := 32) rfl))) (mvT hZ (hw _ (List.mem_of_getElem? (i := 6) rfl))) (by decide) (backOf (W := 0) (rm_tk l Z a0 hw [] (w 7) q (1 : Int32) (1 : Int32) h0 n0 Z0 FF.2.2.2.2.2.2.2.1 FG.2.2.2.2.2.2.2.1) hZ (hw _ (List.mem_of_getElem? (i := 8) rfl)) (hw _ (List.mem_of_getElem? (i := 2) rfl)) (by decide) (by decide)) q62a q62c (g := (mkF m 252 #[.val (.int x0), .val (.int x1), .val (.int x2), .val (.int ((x0 &&& (2147483647 : Int32)) % (9 : Int32))), .val (.int q), .val (.ref (w 7)), .val (.int (0 : Int32))] [(.int q), (.ref (w 7))])) rfl (by rw [hml]; rfl) (Steps.refl _) (argsL := [(.int q)]) (rest := []) (lenOf own_pd_0 rfl) rfl (by show 2 * 0 + _ ≤ _; exact Nat.le_of_eq rfl) (hb hby at_252) (fun _ _ => ⟨rfl, e58, (by decide : 0 + 0 ≤ _), (by decide : 0 + 0 ≤ _)⟩)
                    dsimp only [Pt.U, Pt.locs, Pt.cells, Pt.slots] at X62 l62 y62 z62 st62 hQ62
                    subst l62 y62 z62
                    rw [own_tk_ne hc217] at hQ62
                    obtain ⟨rfl, N62q, e62⟩ := hQ62
                    have N62 := Fr.app N0 N62q
                    have pre63 : ∀ t, Steps p.tables e below (T62.setTop (mkF m 257 #[.val (.int x0), .val (.int x1), .val (.int x2), .val (.int ((x0 &&& (2147483647 : Int32)) % (9 : Int32))), .val (.int q), .val (.ref (w 7)), .val (.int (0 : Int32))] [(.int (0 : Int32)), (.int (0 : Int32))])) t → Steps p.tables e below (s₁.setTop (entryFrame m #[(.int x0), (.int x1), (.int x2)] maxLocals)) t := fun tt kk => pre59 tt (by
                      show Steps p.tables e below (T58.setTop (mkF m 217 #[.val (.int x0), .val (.int x1), .val (.int x2), .val (.int ((x0 &&& (2147483647 : Int32)) % (9 : Int32))), .val (.int q), .val (.ref (w 7)), .unset] [(.int (1 : Int32)), (.int q)])) _
                      refine XS.icmpYes X58.here hx rfl (pc0 := 217) (pc' := 224) rfl (hb hby at_217) rfl (feq hc217).2 (by decide) (by decide) ?_
                      show Steps p.tables e below (T58.setTop (mkF m 224 #[.val (.int x0), .val (.int x1), .val (.int x2), .val (.int ((x0 &&& (2147483647 : Int32)) % (9 : Int32))), .val (.int q), .val (.ref (w 7)), .unset] [])) _
                      refine XS.iconst X58.here hx rfl (hb hby at_224) ?_
                      show Steps p.tables e below (T58.setTop (mkF m 225 #[.val (.int x0), .val (.int x1), .val (.int x2), .val (.int ((x0 &&& (2147483647 : Int32)) % (9 : Int32))), .val (.int q), .val (.ref (w 7)), .unset] [(.int (0 : Int32))])) _
                      refine XS.istore X58.here hx rfl (hb hby at_225) rfl (l' := #[.val (.int x0), .val (.int x1), .val (.int x2), .val (.int ((x0 &&& (2147483647 : Int32)) % (9 : Int32))), .val (.int q), .val (.ref (w 7)), .val (.int (0 : Int32))]) rfl ?_
                      show Steps p.tables e below (T58.setTop (mkF m 227 #[.val (.int x0), .val (.int x1), .val (.int x2), .val (.int ((x0 &&& (2147483647 : Int32)) % (9 : Int32))), .val (.int q), .val (.ref (w 7)), .val (.int (0 : Int32))] [])) _
                      refine XS.goto X58.here hx rfl (pc0 := 227) (pc' := 248) rfl (hb hby at_227) (by decide) (by decide) ?_
                      show Steps p.tables e below (T58.setTop (mkF m 248 #[.val (.int x0), .val (.int x1), .val (.int x2), .val (.int ((x0 &&& (2147483647 : Int32)) % (9 : Int32))), .val (.int q), .val (.ref (w 7)), .val (.int (0 : Int32))] [])) _
                      refine XS.aload X58.here hx rfl (hb hby at_248) rfl rfl ?_
                      show Steps p.tables e below (T58.setTop (mkF m 250 #[.val (.int x0), .val (.int x1), .val (.int x2), .val (.int ((x0 &&& (2147483647 : Int32)) % (9 : Int32))), .val (.int q), .val (.ref (w 7)), .val (.int (0 : Int32))] [(.ref (w 7))])) _
                      refine XS.iload X58.here hx rfl (hb hby at_250) rfl ?_
                      show Steps p.tables e below (T58.setTop (mkF m 252 #[.val (.int x0), .val (.int x1), .val (.int x2), .val (.int ((x0 &&& (2147483647 : Int32)) % (9 : Int32))), .val (.int q), .val (.ref (w 7)), .val (.int (0 : Int32))] [(.int q), (.ref (w 7))])) _
                      refine st62.trans ?_
                      show Steps p.tables e below (T62.setTop (mkF m 255 #[.val (.int x0), .val (.int x1), .val (.int x2), .val (.int ((x0 &&& (2147483647 : Int32)) % (9 : Int32))), .val (.int q), .val (.ref (w 7)), .val (.int (0 : Int32))] [(.int (0 : Int32))])) _
                      refine XS.iload X62.here hx rfl (hb hby at_255) rfl ?_
                      exact kk)
                    obtain ⟨fs, hr, hrun, hended, hW, hsame⟩ := X62.leave (v := some (.int (1 : Int32))) (fun h => by rw [Bd.returns] at h; cases h)
                    refine ⟨_, _, pre63 _ ?_, hrun, hended, _, _, rfl, ?_, ⟨_, rfl⟩, hW, hsame.mono (by decide) (by decide)⟩
                    · show Steps p.tables e below (T62.setTop (mkF m 257 #[.val (.int x0), .val (.int x1), .val (.int x2), .val (.int ((x0 &&& (2147483647 : Int32)) % (9 : Int32))), .val (.int q), .val (.ref (w 7)), .val (.int (0 : Int32))] [(.int (0 : Int32)), (.int (0 : Int32))])) _
                      refine XS.icmpNo X62.here hx rfl (hb hby at_257) rfl (teq (by decide : (0 : Int32) = (0 : Int32))).2 ?_
                      show Steps p.tables e below (T62.setTop (mkF m 260 #[.val (.int x0), .val (.int x1), .val (.int x2), .val (.int ((x0 &&& (2147483647 : Int32)) % (9 : Int32))), .val (.int q), .val (.ref (w 7)), .val (.int (0 : Int32))] [])) _
                      refine XS.iconst X62.here hx rfl (hb hby at_260) ?_
                      show Steps p.tables e below (T62.setTop (mkF m 261 #[.val (.int x0), .val (.int x1), .val (.int x2), .val (.int ((x0 &&& (2147483647 : Int32)) % (9 : Int32))), .val (.int q), .val (.ref (w 7)), .val (.int (0 : Int32))] [(.int (1 : Int32))])) _
                      refine XS.goto X62.here hx rfl (pc0 := 261) (pc' := 265) rfl (hb hby at_261) (by decide) (by decide) ?_
                      show Steps p.tables e below (T62.setTop (mkF m 265 #[.val (.int x0), .val (.int x1), .val (.int x2), .val (.int ((x0 &&& (2147483647 : Int32)) % (9 : Int32))), .val (.int q), .val (.ref (w 7)), .val (.int (0 : Int32))] [(.int (1 : Int32))])) _
                      exact retN X62 hx (t := .boolean) Bd.returns (by simp) (hb hby at_265) hr
                    · exact ⟨rfl, N62⟩
                · obtain ⟨T64, X64, e64, st64⟩ := getS2 X6 hx hZ hown (host := "") (Or.inl (hw _ (List.mem_of_getElem? (i := 22) rfl))) Via.refl e6 ST.2.2.2.2.2.2.2.2 (g := (mkF m 230 #[.val (.int x0), .val (.int x1), .val (.int x2), .val (.int ((x0 &&& (2147483647 : Int32)) % (9 : Int32))), .val (.int q), .unset, .unset] [])) rfl (hb hby at_230)
                  have pre65 : ∀ t, Steps p.tables e below (T64.setTop (mkF m 238 #[.val (.int x0), .val (.int x1), .val (.int x2), .val (.int ((x0 &&& (2147483647 : Int32)) % (9 : Int32))), .val (.int q), .val (.ref (w 8)), .unset] [(.int (1 : Int32)), (.int q)])) t → Steps p.tables e below (s₁.setTop (entryFrame m #[(.int x0), (.int x1), (.int x2)] maxLocals)) t := fun tt kk => pre57 tt (by
                    show Steps p.tables e below (T6.setTop (mkF m 206 #[.val (.int x0), .val (.int x1), .val (.int x2), .val (.int ((x0 &&& (2147483647 : Int32)) % (9 : Int32))), .val (.int q), .unset, .unset] [(.int (7 : Int32)), (.int ((x0 &&& (2147483647 : Int32)) % (9 : Int32)))])) _
                    refine XS.icmpYes X6.here hx rfl (pc0 := 206) (pc' := 230) rfl (hb hby at_206) rfl (feq hc206).2 (by decide) (by decide) ?_
                    show Steps p.tables e below (T6.setTop (mkF m 230 #[.val (.int x0), .val (.int x1), .val (.int x2), .val (.int ((x0 &&& (2147483647 : Int32)) % (9 : Int32))), .val (.int q), .unset, .unset] [])) _
                    refine st64 _ ?_
                    show Steps p.tables e below (T64.setTop (mkF m 233 #[.val (.int x0), .val (.int x1), .val (.int x2), .val (.int ((x0 &&& (2147483647 : Int32)) % (9 : Int32))), .val (.int q), .unset, .unset] [(.ref (w 8))])) _
                    refine XS.astore X64.here hx rfl (hb hby at_233) rfl rfl (l' := #[.val (.int x0), .val (.int x1), .val (.int x2), .val (.int ((x0 &&& (2147483647 : Int32)) % (9 : Int32))), .val (.int q), .val (.ref (w 8)), .unset]) rfl ?_
                    show Steps p.tables e below (T64.setTop (mkF m 235 #[.val (.int x0), .val (.int x1), .val (.int x2), .val (.int ((x0 &&& (2147483647 : Int32)) % (9 : Int32))), .val (.int q), .val (.ref (w 8)), .unset] [])) _
                    refine XS.iload X64.here hx rfl (hb hby at_235) rfl ?_
                    show Steps p.tables e below (T64.setTop (mkF m 237 #[.val (.int x0), .val (.int x1), .val (.int x2), .val (.int ((x0 &&& (2147483647 : Int32)) % (9 : Int32))), .val (.int q), .val (.ref (w 8)), .unset] [(.int q)])) _
                    refine XS.iconst X64.here hx rfl (hb hby at_237) ?_
                    exact kk)
                  by_cases hc238 : q = (1 : Int32)
                  · obtain ⟨cq66, kq66, q66a, q66b, q66c⟩ := isOf hZ e64 EX.2.2.2.2.2.2.2.2
                    obtain ⟨vv66, _, ⟨T66, L66, k66, n66⟩, -, X66, ⟨Lc66, hQ66, l66, y66, z66⟩, st66⟩ := X64.virtualBack hx (y := (⟨"com/example/pledgeline/pledgeline/Builtin", "takes", "(I)Z"⟩ : MethodName)) (z := (⟨"com/example/pledgeline/pledgeline/Builtin", "takes", "(I)Z"⟩ : MethodName)) hown (mvT hZ (hw _ (List.mem_of_getElem? (i := 4) rfl))) (mvT hZ (hw _ (List.mem_of_getElem? (i := 5) rfl))) (notFace_of_selects (args := #[]) (mvT hZ (hw _ (List.mem_of_getElem? (i := 24) rfl)))) (mvT hZ (hw _ (List.mem_of_getElem? (i := 24) rfl))) (mvT hZ (hw _ (List.mem_of_getElem? (i := 6) rfl))) (by decide) (backOf (W := 0) (rm_tk l Z a0 hw [] (w 8) q (1 : Int32) (1 : Int32) h0 n0 Z0 FF.2.2.2.2.2.2.2.2 FG.2.2.2.2.2.2.2.2) hZ (hw _ (List.mem_of_getElem? (i := 8) rfl)) (hw _ (List.mem_of_getElem? (i := 2) rfl)) (by decide) (by decide)) q66a q66c (g := (mkF m 252 #[.val (.int x0), .val (.int x1), .val (.int x2), .val (.int ((x0 &&& (2147483647 : Int32)) % (9 : Int32))), .val (.int q), .val (.ref (w 8)), .val (.int (1 : Int32))] [(.int q), (.ref (w 8))])) rfl (by rw [hml]; rfl) (Steps.refl _) (argsL := [(.int q)]) (rest := []) (lenOf own_pd_0 rfl) rfl (by show 2 * 0 + _ ≤ _; exact Nat.le_of_eq rfl) (hb hby at_252) (fun _ _ => ⟨rfl, e64, (by decide : 0 + 0 ≤ _), (by decide : 0 + 0 ≤ _)⟩)
                    dsimp only [Pt.U, Pt.locs, Pt.cells, Pt.slots] at X66 l66 y66 z66 st66 hQ66
                    subst l66 y66 z66
                    rw [own_tk_eq hc238] at hQ66
                    obtain ⟨rfl, N66q, e66⟩ := hQ66
                    have N66 := Fr.app N0 N66q
                    have pre67 : ∀ t, Steps p.tables e below (T66.setTop (mkF m 257 #[.val (.int x0), .val (.int x1), .val (.int x2), .val (.int ((x0 &&& (2147483647 : Int32)) % (9 : Int32))), .val (.int q), .val (.ref (w 8)), .val (.int (1 : Int32))] [(.int (1 : Int32)), (.int (1 : Int32))])) t → Steps p.tables e below (s₁.setTop (entryFrame m #[(.int x0), (.int x1), (.int x2)] maxLocals)) t := fun tt kk => pre65 tt (by
                      show Steps p.tables e below (T64.setTop (mkF m 238 #[.val (.int x0), .val (.int x1), .val (.int x2), .val (.int ((x0 &&& (2147483647 : Int32)) % (9 : Int32))), .val (.int q), .val (.ref (w 8)), .unset] [(.int (1 : Int32)), (.int q)])) _
                      refine XS.icmpNo X64.here hx rfl (hb hby at_238) rfl (teq hc238).2 ?_
                      show Steps p.tables e below (T64.setTop (mkF m 241 #[.val (.int x0), .val (.int x1), .val (.int x2), .val (.int ((x0 &&& (2147483647 : Int32)) % (9 : Int32))), .val (.int q), .val (.ref (w 8)), .unset] [])) _
                      refine XS.iconst X64.here hx rfl (hb hby at_241) ?_
                      show Steps p.tables e below (T64.setTop (mkF m 242 #[.val (.int x0), .val (.int x1), .val (.int x2), .val (.int ((x0 &&& (2147483647 : Int32)) % (9 : Int32))), .val (.int q), .val (.ref (w 8)), .unset] [(.int (1 : Int32))])) _
                      refine XS.goto X64.here hx rfl (pc0 := 242) (pc' := 246) rfl (hb hby at_242) (by decide) (by decide) ?_
                      show Steps p.tables e below (T64.setTop (mkF m 246 #[.val (.int x0), .val (.int x1), .val (.int x2), .val (.int ((x0 &&& (2147483647 : Int32)) % (9 : Int32))), .val (.int q), .val (.ref (w 8)), .unset] [(.int (1 : Int32))])) _
                      refine XS.istore X64.here hx rfl (hb hby at_246) rfl (l' := #[.val (.int x0), .val (.int x1), .val (.int x2), .val (.int ((x0 &&& (2147483647 : Int32)) % (9 : Int32))), .val (.int q), .val (.ref (w 8)), .val (.int (1 : Int32))]) rfl ?_
                      show Steps p.tables e below (T64.setTop (mkF m 248 #[.val (.int x0), .val (.int x1), .val (.int x2), .val (.int ((x0 &&& (2147483647 : Int32)) % (9 : Int32))), .val (.int q), .val (.ref (w 8)), .val (.int (1 : Int32))] [])) _
                      refine XS.aload X64.here hx rfl (hb hby at_248) rfl rfl ?_
                      show Steps p.tables e below (T64.setTop (mkF m 250 #[.val (.int x0), .val (.int x1), .val (.int x2), .val (.int ((x0 &&& (2147483647 : Int32)) % (9 : Int32))), .val (.int q), .val (.ref (w 8)), .val (.int (1 : Int32))] [(.ref (w 8))])) _
                      refine XS.iload X64.here hx rfl (hb hby at_250) rfl ?_
                      show Steps p.tables e below (T64.setTop (mkF m 252 #[.val (.int x0), .val (.int x1), .val (.int x2), .val (.int ((x0 &&& (2147483647 : Int32)) % (9 : Int32))), .val (.int q), .val (.ref (w 8)), .val (.int (1 : Int32))] [(.int q), (.ref (w 8))])) _
                      refine st66.trans ?_
                      show Steps p.tables e below (T66.setTop (mkF m 255 #[.val (.int x0), .val (.int x1), .val (.int x2), .val (.int ((x0 &&& (2147483647 : Int32)) % (9 : Int32))), .val (.int q), .val (.ref (w 8)), .val (.int (1 : Int32))] [(.int (1 : Int32))])) _
                      refine XS.iload X66.here hx rfl (hb hby at_255) rfl ?_
                      exact kk)
                    obtain ⟨fs, hr, hrun, hended, hW, hsame⟩ := X66.leave (v := some (.int (1 : Int32))) (fun h => by rw [Bd.returns] at h; cases h)
                    refine ⟨_, _, pre67 _ ?_, hrun, hended, _, _, rfl, ?_, ⟨_, rfl⟩, hW, hsame.mono (by decide) (by decide)⟩
                    · show Steps p.tables e below (T66.setTop (mkF m 257 #[.val (.int x0), .val (.int x1), .val (.int x2), .val (.int ((x0 &&& (2147483647 : Int32)) % (9 : Int32))), .val (.int q), .val (.ref (w 8)), .val (.int (1 : Int32))] [(.int (1 : Int32)), (.int (1 : Int32))])) _
                      refine XS.icmpNo X66.here hx rfl (hb hby at_257) rfl (teq (by decide : (1 : Int32) = (1 : Int32))).2 ?_
                      show Steps p.tables e below (T66.setTop (mkF m 260 #[.val (.int x0), .val (.int x1), .val (.int x2), .val (.int ((x0 &&& (2147483647 : Int32)) % (9 : Int32))), .val (.int q), .val (.ref (w 8)), .val (.int (1 : Int32))] [])) _
                      refine XS.iconst X66.here hx rfl (hb hby at_260) ?_
                      show Steps p.tables e below (T66.setTop (mkF m 261 #[.val (.int x0), .val (.int x1), .val (.int x2), .val (.int ((x0 &&& (2147483647 : Int32)) % (9 : Int32))), .val (.int q), .val (.ref (w 8)), .val (.int (1 : Int32))] [(.int (1 : Int32))])) _
                      refine XS.goto X66.here hx rfl (pc0 := 261) (pc' := 265) rfl (hb hby at_261) (by decide) (by decide) ?_
                      show Steps p.tables e below (T66.setTop (mkF m 265 #[.val (.int x0), .val (.int x1), .val (.int x2), .val (.int ((x0 &&& (2147483647 : Int32)) % (9 : Int32))), .val (.int q), .val (.ref (w 8)), .val (.int (1 : Int32))] [(.int (1 : Int32))])) _
                      exact retN X66 hx (t := .boolean) Bd.returns (by simp) (hb hby at_265) hr
                    · exact ⟨rfl, N66⟩
                  · obtain ⟨cq68, kq68, q68a, q68b, q68c⟩ := isOf hZ e64 EX.2.2.2.2.2.2.2.2
                    obtain ⟨vv68, _, ⟨T68, L68, k68, n68⟩, -, X68, ⟨Lc68, hQ68, l68, y68, z68⟩, st68⟩ := X64.virtualBack hx (y := (⟨"com/example/pledgeline/pledgeline/Builtin", "takes", "(I)Z"⟩ : MethodName)) (z := (⟨"com/example/pledgeline/pledgeline/Builtin", "takes", "(I)Z"⟩ : MethodName)) hown (mvT hZ (hw _ (List.mem_of_getElem? (i := 4) rfl))) (mvT hZ (hw _ (List.mem_of_getElem? (i := 5) rfl))) (notFace_of_selects (args := #[]) (mvT hZ (hw _ (List.mem_of_getElem? (i := 24) rfl)))) (mvT hZ (hw _ (List.mem_of_getElem? (i := 24) rfl))) (mvT hZ (hw _ (List.mem_of_getElem? (i := 6) rfl))) (by decide) (backOf (W := 0) (rm_tk l Z a0 hw [] (w 8) q (1 : Int32) (1 : Int32) h0 n0 Z0 FF.2.2.2.2.2.2.2.2 FG.2.2.2.2.2.2.2.2) hZ (hw _ (List.mem_of_getElem? (i := 8) rfl)) (hw _ (List.mem_of_getElem? (i := 2) rfl)) (by decide) (by decide)) q68a q68c (g := (mkF m 252 #[.val (.int x0), .val (.int x1), .val (.int x2), .val (.int ((x0 &&& (2147483647 : Int32)) % (9 : Int32))), .val (.int q), .val (.ref (w 8)), .val (.int (0 : Int32))] [(.int q), (.ref (w 8))])) rfl (by rw [hml]; rfl) (Steps.refl _) (argsL := [(.int q)]) (rest := []) (lenOf own_pd_0 rfl) rfl (by show 2 * 0 + _ ≤ _; exact Nat.le_of_eq rfl) (hb hby at_252) (fun _ _ => ⟨rfl, e64, (by decide : 0 + 0 ≤ _), (by decide : 0 + 0 ≤ _)⟩)
                    dsimp only [Pt.U, Pt.locs, Pt.cells, Pt.slots] at X68 l68 y68 z68 st68 hQ68
                    subst l68 y68 z68
                    rw [own_tk_ne hc238] at hQ68
                    obtain ⟨rfl, N68q, e68⟩ := hQ68
                    have N68 := Fr.app N0 N68q
                    have pre69 : ∀ t, Steps p.tables e below (T68.setTop (mkF m 257 #[.val (.int x0), .val (.int x1), .val (.int x2), .val (.int ((x0 &&& (2147483647 : Int32)) % (9 : Int32))), .val (.int q), .val (.ref (w 8)), .val (.int (0 : Int32))] [(.int (0 : Int32)), (.int (0 : Int32))])) t → Steps p.tables e below (s₁.setTop (entryFrame m #[(.int x0), (.int x1), (.int x2)] maxLocals)) t := fun tt kk => pre65 tt (by
                      show Steps p.tables e below (T64.setTop (mkF m 238 #[.val (.int x0), .val (.int x1), .val (.int x2), .val (.int ((x0 &&& (2147483647 : Int32)) % (9 : Int32))), .val (.int q), .val (.ref (w 8)), .unset] [(.int (1 : Int32)), (.int q)])) _
                      refine XS.icmpYes X64.here hx rfl (pc0 := 238) (pc' := 245) rfl (hb hby at_238) rfl (feq hc238).2 (by decide) (by decide) ?_
                      show Steps p.tables e below (T64.setTop (mkF m 245 #[.val (.int x0), .val (.int x1), .val (.int x2), .val (.int ((x0 &&& (2147483647 : Int32)) % (9 : Int32))), .val (.int q), .val (.ref (w 8)), .unset] [])) _
                      refine XS.iconst X64.here hx rfl (hb hby at_245) ?_
                      show Steps p.tables e below (T64.setTop (mkF m 246 #[.val (.int x0), .val (.int x1), .val (.int x2), .val (.int ((x0 &&& (2147483647 : Int32)) % (9 : Int32))), .val (.int q), .val (.ref (w 8)), .unset] [(.int (0 : Int32))])) _
                      refine XS.istore X64.here hx rfl (hb hby at_246) rfl (l' := #[.val (.int x0), .val (.int x1), .val (.int x2), .val (.int ((x0 &&& (2147483647 : Int32)) % (9 : Int32))), .val (.int q), .val (.ref (w 8)), .val (.int (0 : Int32))]) rfl ?_
                      show Steps p.tables e below (T64.setTop (mkF m 248 #[.val (.int x0), .val (.int x1), .val (.int x2), .val (.int ((x0 &&& (2147483647 : Int32)) % (9 : Int32))), .val (.int q), .val (.ref (w 8)), .val (.int (0 : Int32))] [])) _
                      refine XS.aload X64.here hx rfl (hb hby at_248) rfl rfl ?_
                      show Steps p.tables e below (T64.setTop (mkF m 250 #[.val (.int x0), .val (.int x1), .val (.int x2), .val (.int ((x0 &&& (2147483647 : Int32)) % (9 : Int32))), .val (.int q), .val (.ref (w 8)), .val (.int (0 : Int32))] [(.ref (w 8))])) _
                      refine XS.iload X64.here hx rfl (hb hby at_250) rfl ?_
                      show Steps p.tables e below (T64.setTop (mkF m 252 #[.val (.int x0), .val (.int x1), .val (.int x2), .val (.int ((x0 &&& (2147483647 : Int32)) % (9 : Int32))), .val (.int q), .val (.ref (w 8)), .val (.int (0 : Int32))] [(.int q), (.ref (w 8))])) _
                      refine st68.trans ?_
                      show Steps p.tables e below (T68.setTop (mkF m 255 #[.val (.int x0), .val (.int x1), .val (.int x2), .val (.int ((x0 &&& (2147483647 : Int32)) % (9 : Int32))), .val (.int q), .val (.ref (w 8)), .val (.int (0 : Int32))] [(.int (0 : Int32))])) _
                      refine XS.iload X68.here hx rfl (hb hby at_255) rfl ?_
                      exact kk)
                    obtain ⟨fs, hr, hrun, hended, hW, hsame⟩ := X68.leave (v := some (.int (1 : Int32))) (fun h => by rw [Bd.returns] at h; cases h)
                    refine ⟨_, _, pre69 _ ?_, hrun, hended, _, _, rfl, ?_, ⟨_, rfl⟩, hW, hsame.mono (by decide) (by decide)⟩
                    · show Steps p.tables e below (T68.setTop (mkF m 257 #[.val (.int x0), .val (.int x1), .val (.int x2), .val (.int ((x0 &&& (2147483647 : Int32)) % (9 : Int32))), .val (.int q), .val (.ref (w 8)), .val (.int (0 : Int32))] [(.int (0 : Int32)), (.int (0 : Int32))])) _
                      refine XS.icmpNo X68.here hx rfl (hb hby at_257) rfl (teq (by decide : (0 : Int32) = (0 : Int32))).2 ?_
                      show Steps p.tables e below (T68.setTop (mkF m 260 #[.val (.int x0), .val (.int x1), .val (.int x2), .val (.int ((x0 &&& (2147483647 : Int32)) % (9 : Int32))), .val (.int q), .val (.ref (w 8)), .val (.int (0 : Int32))] [])) _
                      refine XS.iconst X68.here hx rfl (hb hby at_260) ?_
                      show Steps p.tables e below (T68.setTop (mkF m 261 #[.val (.int x0), .val (.int x1), .val (.int x2), .val (.int ((x0 &&& (2147483647 : Int32)) % (9 : Int32))), .val (.int q), .val (.ref (w 8)), .val (.int (0 : Int32))] [(.int (1 : Int32))])) _
                      refine XS.goto X68.here hx rfl (pc0 := 261) (pc' := 265) rfl (hb hby at_261) (by decide) (by decide) ?_
                      show Steps p.tables e below (T68.setTop (mkF m 265 #[.val (.int x0), .val (.int x1), .val (.int x2), .val (.int ((x0 &&& (2147483647 : Int32)) % (9 : Int32))), .val (.int q), .val (.ref (w 8)), .val (.int (0 : Int32))] [(.int (1 : Int32))])) _
                      exact retN X68 hx (t := .boolean) Bd.returns (by simp) (hb hby at_265) hr
                    · exact ⟨rfl, N68⟩
set_option maxRecDepth 65536 in
set_option maxHeartbeats 40000000 in
theorem comes_1 {Post : Tables → Env → Array Value → State → Outcome → State → Prop} (hpost : ∀ tb e args s v u, (limb_1_1.after args s (.returned v) u = true ∧ limb_1_2.after args s (.returned v) u = true ∧ True) → FrameEnd s (.returned v) u (Jvm.fieldLocs frame_1_writes args s ++ Jvm.arrayLocs frame_1_arrays args s ++ Jvm.staticLocs frame_1_statics s) 0 0 → Post tb e args s (.returned v) u) :
    ArmFor flags0 classFile x code maxLocals ret World_1 tables_1 room_1 Calls_1 rest_1 Pre_1 Post := by
  intro l hfl _ _ p e ha hc hk s m args below hf hA hF happ hP
  obtain ⟨hcalls, hrest, hpre⟩ := hP
  obtain ⟨-, -, -, hnamed, -, -, -, hat⟩ := (Spec.applies_iff hf).mp happ
  obtain ⟨hg, hn⟩ := and_e (Cond.before_iff.mp (show (Jvm.Cond.and given_1 narrow_1).before args s = true from hpre))
  obtain ⟨g0, g0r⟩ := and_e hg
  obtain ⟨g1, g1r⟩ := and_e g0r
  obtain ⟨g2, g2r⟩ := and_e g1r
  obtain ⟨w0_, w1_, w2_, rfl⟩ : ∃ w0_ w1_ w2_ : Value, args = #[w0_, w1_, w2_] := by
    have hs : args.size = 3 := by simpa [Cond.value, given_1] using g0
    obtain ⟨L⟩ := args
    match L, hs with
    | [w0_, w1_, w2_], _ => exact ⟨w0_, w1_, w2_, rfl⟩
  have hw := fun d (hd : d ∈ tables_1) => atoms_spec (ws := Jvm.Cond.code x code maxLocals ret :: tables_1) hat d (List.mem_cons_of_mem _ hd)
  have hfit : Fit s := fun {y c} hc i hi => by
    obtain ⟨ha, rfl⟩ := Array.getElem?_eq_some_iff.mp hc
    have q := List.all_eq_true.mp ((Array.all_eq_true_iff_forall_mem.mp hF) _ (Array.getElem_mem ha)) i (List.mem_range.mpr hi)
    simpa [Array.getElem?_eq_getElem hi] using q
  obtain ⟨i0, ei0⟩ := is_v g1
  obtain rfl : w0_ = (.int i0) := Option.some.inj ei0
  obtain ⟨i1, ei1⟩ := is_v g2
  obtain rfl : w1_ = (.int i1) := Option.some.inj ei1
  obtain ⟨i2, ei2⟩ := is_v g2r
  obtain rfl : w2_ = (.int i2) := Option.some.inj ei2
  obtain ⟨n0, n0r⟩ := and_e hn
  obtain ⟨n1, n1r⟩ := and_e n0r
  obtain ⟨n2, n2r⟩ := and_e n1r
  obtain ⟨n3, n3r⟩ := and_e n2r
  obtain ⟨n4, n4r⟩ := and_e n3r
  obtain ⟨n5, n5r⟩ := and_e n4r
  obtain ⟨n6, n6r⟩ := and_e n5r
  obtain ⟨n7, n7r⟩ := and_e n6r
  obtain ⟨n8, n8r⟩ := and_e n7r
  obtain ⟨n9, n9r⟩ := and_e n8r
  obtain ⟨n10, n10r⟩ := and_e n9r
  obtain ⟨n11, n11r⟩ := and_e n10r
  obtain ⟨n12, n12r⟩ := and_e n11r
  obtain ⟨n13, n13r⟩ := and_e n12r
  obtain ⟨n14, n14r⟩ := and_e n13r
  obtain ⟨n15, n15r⟩ := and_e n14r
  obtain ⟨n16, n16r⟩ := and_e n15r
  obtain ⟨n17, n17r⟩ := and_e n16r
  obtain ⟨n18, n18r⟩ := and_e n17r
  obtain ⟨n19, n19r⟩ := and_e n18r
  obtain ⟨n20, n20r⟩ := and_e n19r
  obtain ⟨n21, n21r⟩ := and_e n20r
  obtain ⟨n22, n22r⟩ := and_e n21r
  obtain ⟨n23, n23r⟩ := and_e n22r
  obtain ⟨n24, n24r⟩ := and_e n23r
  obtain ⟨n25, n25r⟩ := and_e n24r
  obtain ⟨v0, ev0⟩ := exa_v n0
  have S0 : Sta s s.heap "com/example/pledgeline/pledgeline/Builtin" "LEAST" "Lcom/example/pledgeline/pledgeline/Builtin;" (.ref v0) := Sta.start ev0 (Or.inr ⟨(hw _ (List.mem_of_getElem? (i := 2) rfl)), (hw _ (List.mem_of_getElem? (i := 3) rfl))⟩)
  have E0 : Exa s s.heap v0 "com/example/pledgeline/pledgeline/Builtin$1" := Exa.start ev0 n0
  obtain ⟨v1, ev1⟩ := exa_v n3
  have S1 : Sta s s.heap "com/example/pledgeline/pledgeline/Builtin" "GREATEST" "Lcom/example/pledgeline/pledgeline/Builtin;" (.ref v1) := Sta.start ev1 (Or.inr ⟨(hw _ (List.mem_of_getElem? (i := 2) rfl)), (hw _ (List.mem_of_getElem? (i := 14) rfl))⟩)
  have E1 : Exa s s.heap v1 "com/example/pledgeline/pledgeline/Builtin$2" := Exa.start ev1 n3
  obtain ⟨v2, ev2⟩ := exa_v n5
  have S2 : Sta s s.heap "com/example/pledgeline/pledgeline/Builtin" "DAYS_SINCE" "Lcom/example/pledgeline/pledgeline/Builtin;" (.ref v2) := Sta.start ev2 (Or.inr ⟨(hw _ (List.mem_of_getElem? (i := 2) rfl)), (hw _ (List.mem_of_getElem? (i := 18) rfl))⟩)
  have E2 : Exa s s.heap v2 "com/example/pledgeline/pledgeline/Builtin$3" := Exa.start ev2 n5
  obtain ⟨v3, ev3⟩ := exa_v n15
  have S3 : Sta s s.heap "com/example/pledgeline/pledgeline/Builtin" "DAYS_BETWEEN" "Lcom/example/pledgeline/pledgeline/Builtin;" (.ref v3) := Sta.start ev3 (Or.inr ⟨(hw _ (List.mem_of_getElem? (i := 2) rfl)), (hw _ (List.mem_of_getElem? (i := 36) rfl))⟩)
  have E3 : Exa s s.heap v3 "com/example/pledgeline/pledgeline/Builtin$4" := Exa.start ev3 n15
  obtain ⟨v4, ev4⟩ := exa_v n20
  have S4 : Sta s s.heap "com/example/pledgeline/pledgeline/Builtin" "BUSINESS_DAYS_SINCE" "Lcom/example/pledgeline/pledgeline/Builtin;" (.ref v4) := Sta.start ev4 (Or.inr ⟨(hw _ (List.mem_of_getElem? (i := 2) rfl)), (hw _ (List.mem_of_getElem? (i := 43) rfl))⟩)
  have E4 : Exa s s.heap v4 "com/example/pledgeline/pledgeline/Builtin$5" := Exa.start ev4 n20
  obtain ⟨v5, ev5⟩ := exa_v n23
  have S5 : Sta s s.heap "com/example/pledgeline/pledgeline/Builtin" "QUARTERS_SINCE" "Lcom/example/pledgeline/pledgeline/Builtin;" (.ref v5) := Sta.start ev5 (Or.inr ⟨(hw _ (List.mem_of_getElem? (i := 2) rfl)), (hw _ (List.mem_of_getElem? (i := 48) rfl))⟩)
  have E5 : Exa s s.heap v5 "com/example/pledgeline/pledgeline/Builtin$6" := Exa.start ev5 n23
  obtain ⟨v6, ev6⟩ := exa_v n10
  have S6 : Sta s s.heap "com/example/pledgeline/pledgeline/Builtin" "FIRST_BUSINESS_DAYS" "Lcom/example/pledgeline/pledgeline/Builtin;" (.ref v6) := Sta.start ev6 (Or.inr ⟨(hw _ (List.mem_of_getElem? (i := 2) rfl)), (hw _ (List.mem_of_getElem? (i := 27) rfl))⟩)
  have E6 : Exa s s.heap v6 "com/example/pledgeline/pledgeline/Builtin$7" := Exa.start ev6 n10
  obtain ⟨v7, ev7⟩ := exa_v n12
  have S7 : Sta s s.heap "com/example/pledgeline/pledgeline/Builtin" "LAST_BUSINESS_DAYS" "Lcom/example/pledgeline/pledgeline/Builtin;" (.ref v7) := Sta.start ev7 (Or.inr ⟨(hw _ (List.mem_of_getElem? (i := 2) rfl)), (hw _ (List.mem_of_getElem? (i := 31) rfl))⟩)
  have E7 : Exa s s.heap v7 "com/example/pledgeline/pledgeline/Builtin$8" := Exa.start ev7 n12
  obtain ⟨v8, ev8⟩ := exa_v n8
  have S8 : Sta s s.heap "com/example/pledgeline/pledgeline/Builtin" "TOTAL_VALUE" "Lcom/example/pledgeline/pledgeline/Builtin;" (.ref v8) := Sta.start ev8 (Or.inr ⟨(hw _ (List.mem_of_getElem? (i := 2) rfl)), (hw _ (List.mem_of_getElem? (i := 23) rfl))⟩)
  have E8 : Exa s s.heap v8 "com/example/pledgeline/pledgeline/Builtin$9" := Exa.start ev8 n8
  have F0 := own_fld ev0 n1
  have G0 := own_fld ev0 n2
  have F1 := own_fld ev1 n4
  have G1 := own_fld ev1 n18
  have F2 := own_fld ev2 n6
  have G2 := own_fld ev2 n7
  have F3 := own_fld ev3 n16
  have G3 := own_fld ev3 n19
  have F4 := own_fld ev4 n21
  have G4 := own_fld ev4 n25r
  have F5 := own_fld ev5 n24
  have G5 := own_fld ev5 n25
  have F6 := own_fld ev6 n11
  have G6 := own_fld ev6 n22
  have F7 := own_fld ev7 n13
  have G7 := own_fld ev7 n14
  have F8 := own_fld ev8 n9
  have G8 := own_fld ev8 n17
  obtain ⟨n, o, h1, h2, h3, _, L, rfl, ⟨rfl, N⟩, hq⟩ := rm0 l s _ hw tables_1 i0 i1 i2 (fun i => [v0, v1, v2, v3, v4, v5, v6, v7, v8].getD i 0) s.heap s.heap.size (Nat.le_refl _) ⟨S0, S1, S2, S3, S4, S5, S6, S7, S8⟩ ⟨E0, E1, E2, E3, E4, E5, E6, E7, E8⟩ ⟨F0, F1, F2, F3, F4, F5, F6, F7, F8⟩ ⟨G0, G1, G2, G3, G4, G5, G6, G7, G8⟩ p e ha hc hk s m _ below hf ((Spec.applies_iff_loose hf).mp happ).1 ⟨rfl, State.Warmed39.refl s, rfl⟩ trivial
  refine ⟨n, _, h1, h2, h3, hpost _ _ _ _ _ _ ⟨Cond.after_iff.mpr rfl, Cond.after_iff.mpr (eq_i res_at (Term.int_eval (1)) rfl), trivial⟩ ⟨hq.1, hq.2.1, (hq.2.2.sift fun y hy => Or.inr (N y hy)).mono (by decide) (by decide)⟩⟩
theorem main_1_1 : Claimed_1_1 := comes_1 fun _ _ _ _ _ _ h hF => ⟨h.1, hF⟩
theorem main_1_2 : Claimed_1_2 := comes_1 fun _ _ _ _ _ _ h hF => ⟨h.2.1, hF⟩
end Jvm.Pilot.@@N@@
namespace Jvm.Pilot.@@N@@
open Jvm Jvm.ClassFile Sem Op Lib Jvm.Free Jvm.Stand Jvm.Pilot.@@N@@.Jvm.D
/-! MADE BY PROGRAM (witnessworld.py) out of the Statement's table words and the real class files: 21 classes; the members and pool entries that the words name. The judged class is class 1, her method 1. -/
namespace start1
open Jvm.ClassFile
def u (s : String) : CpInfo := .utf8 (stringToUtf16 s)
/-- a pool by its gaps: so many unusable entries, then the entry; so many at the end -/
def gap : Nat → List CpInfo → List CpInfo
  | 0, r => r
  | n + 1, r => .unusable :: gap n r
def poolList (es : List (Nat × CpInfo)) (last : Nat) : List CpInfo := es.foldr (fun e r => gap e.1 (e.2 :: r)) (gap last [])
def pool (es : List (Nat × CpInfo)) (last : Nat) : Array CpInfo := ⟨poolList es last⟩
def fileOf (pool : Array CpInfo) (this : Nat) (attrs : Array Attribute := #[]) (ms : Array MethodInfo := #[]) (fl : Nat := 33) (sup : Nat := 0) (ifs : Array Nat := #[]) (fds : Array FieldInfo := #[]) : ClassFile where
  minorVersion := 0
  majorVersion := 65
  constantPool := pool
  accessFlags := fl
  thisClass := this
  superClass := sup
  interfaces := ifs
  fields := fds
  methods := ms
  attributes := attrs
def plain (name : String) (sup : Option ClassId) : Class where
  name := name
  kind := .ordinary
  loader := none
  accessFlags := 33
  super := sup
  interfaces := #[]
  cf := none
  fields := #[]
  methods := #[]
  instanceTypes := #[]
  staticTypes := #[]
  resolved := #[]
  callSites := []
  init := .initialized
  statics := none
  mirror := none

def pool0 : Array CpInfo := pool [(5, u "<init>"), (0, u "()V"), (1, .class_ 10), (1, u "java/lang/Object")] 113

def k0m0 : Method := { name := "<init>", desc := "()V", sig := { parameters := [], returnType := none }, accessFlags := 1, code := none }
/-- java/lang/Object -/
def k0 : Class := { plain "java/lang/Object" none with
  accessFlags := 33
  interfaces := #[]
  cf := some (fileOf pool0 8 #[] #[{ accessFlags := 1, nameIndex := 5, descriptorIndex := 6, attributes := #[] }] 33 0 #[] #[])
  fields := #[]
  methods := #[k0m0]
  instanceTypes := #[]
  staticTypes := #[]
  resolved := Array.replicate 124 none
  statics := none }

def pool1 : Array CpInfo := pool [(2, .class_ 4), (1, u "java/lang/Object"), (0, u "<init>"), (0, u "()V"), (0, .integer 2147483647), (0, .fieldref 9 10), (0, .class_ 11), (0, .nameAndType 12 13), (0, u "com/example/pledgeline/pledgeline/Builtin"), (0, u "LEAST"), (0, u "Lcom/example/pledgeline/pledgeline/Builtin;"), (0, .fieldref 9 15), (0, .nameAndType 16 13), (0, u "GREATEST"), (0, .fieldref 9 18), (0, .nameAndType 19 13), (0, u "DAYS_SINCE"), (0, .fieldref 9 21), (0, .nameAndType 22 13), (0, u "DAYS_BETWEEN"), (0, .fieldref 9 24), (0, .nameAndType 25 13), (0, u "BUSINESS_DAYS_SINCE"), (0, .fieldref 9 27), (0, .nameAndType 28 13), (0, u "QUARTERS_SINCE"), (0, .fieldref 9 30), (0, .nameAndType 31 13), (0, u "FIRST_BUSINESS_DAYS"), (0, .fieldref 9 33), (0, .nameAndType 34 13), (0, u "LAST_BUSINESS_DAYS"), (0, .fieldref 9 36), (0, .nameAndType 37 13), (0, u "TOTAL_VALUE"), (0, .methodref 9 39), (0, .nameAndType 40 41), (0, u "takes"), (0, u "(I)Z"), (0, .class_ 43), (0, u "com/example/pledgeline/pledgeline/BuiltinTakesPinLaw"), (2, u "law"), (0, u "(III)Z")] 3

def k1m0 : Method := { name := "<init>", desc := "()V", sig := { parameters := [], returnType := none }, accessFlags := 1, code := none }
def k1c1 : Code := { maxStack := 2, maxLocals := 7, code := code, exceptionTable := #[], attributes := #[] }
def k1m1 : Method := { name := "law", desc := "(III)Z", sig := { parameters := [.int, .int, .int], returnType := some .boolean }, accessFlags := 9, code := some k1c1 }
/-- com/example/pledgeline/pledgeline/BuiltinTakesPinLaw -/
def k1 : Class := { plain "com/example/pledgeline/pledgeline/BuiltinTakesPinLaw" (some 0) with
  accessFlags := 49
  interfaces := #[]
  cf := some (fileOf pool1 42 #[] #[{ accessFlags := 1, nameIndex := 5, descriptorIndex := 6, attributes := #[] }, { accessFlags := 9, nameIndex := 46, descriptorIndex := 47, attributes := #[] }] 49 2 #[] #[])
  fields := #[]
  methods := #[k1m0, k1m1]
  instanceTypes := #[]
  staticTypes := #[]
  resolved := Array.replicate 51 none
  statics := none }

def pool2 : Array CpInfo := pool [(1, .class_ 2), (0, u "java/lang/constant/Constable"), (0, .class_ 4), (0, u "java/lang/Object")] 6

/-- java/lang/constant/Constable -/
def k2 : Class := { plain "java/lang/constant/Constable" (some 0) with
  accessFlags := 1537
  interfaces := #[]
  cf := some (fileOf pool2 1 #[] #[] 1537 3 #[] #[])
  fields := #[]
  methods := #[]
  instanceTypes := #[]
  staticTypes := #[]
  resolved := Array.replicate 11 none
  statics := none }

def pool3 : Array CpInfo := pool [(1, .class_ 2), (0, u "java/lang/Comparable"), (0, .class_ 4), (0, u "java/lang/Object")] 7

/-- java/lang/Comparable -/
def k3 : Class := { plain "java/lang/Comparable" (some 0) with
  accessFlags := 1537
  interfaces := #[]
  cf := some (fileOf pool3 1 #[] #[] 1537 3 #[] #[])
  fields := #[]
  methods := #[]
  instanceTypes := #[]
  staticTypes := #[]
  resolved := Array.replicate 12 none
  statics := none }

def pool4 : Array CpInfo := pool [(1, .class_ 2), (0, u "java/io/Serializable"), (0, .class_ 4), (0, u "java/lang/Object")] 2

/-- java/io/Serializable -/
def k4 : Class := { plain "java/io/Serializable" (some 0) with
  accessFlags := 1537
  interfaces := #[]
  cf := some (fileOf pool4 1 #[] #[] 1537 3 #[] #[])
  fields := #[]
  methods := #[]
  instanceTypes := #[]
  staticTypes := #[]
  resolved := Array.replicate 7 none
  statics := none }

def pool5 : Array CpInfo := pool [(2, .class_ 4), (1, u "java/lang/Enum"), (0, u "name"), (0, u "Ljava/lang/String;"), (2, u "ordinal"), (0, u "I"), (1, .class_ 14), (1, u "java/lang/Object"), (4, u "hash"), (86, .class_ 108), (1, u "java/lang/Enum$EnumDesc"), (2, .class_ 112), (0, u "java/lang/constant/Constable"), (0, .class_ 114), (0, u "java/lang/Comparable"), (0, .class_ 116), (0, u "java/io/Serializable")] 87

/-- java/lang/Enum -/
def k5 : Class := { plain "java/lang/Enum" (some 0) with
  accessFlags := 1057
  interfaces := #[2, 3, 4]
  cf := some (fileOf pool5 2 #[.nestMembers #[106]] #[] 1057 12 #[111, 113, 115] #[{ accessFlags := 18, nameIndex := 5, descriptorIndex := 6, attributes := #[] }, { accessFlags := 18, nameIndex := 9, descriptorIndex := 10, attributes := #[] }, { accessFlags := 2, nameIndex := 19, descriptorIndex := 10, attributes := #[] }])
  fields := #[{ name := "name", type := (.object "java/lang/String"), accessFlags := 18, slot := 0, constantValue := 0 }, { name := "ordinal", type := .int, accessFlags := 18, slot := 1, constantValue := 0 }, { name := "hash", type := .int, accessFlags := 2, slot := 2, constantValue := 0 }]
  methods := #[]
  instanceTypes := #[(.object "java/lang/String"), .int, .int]
  staticTypes := #[]
  resolved := Array.replicate 204 none
  statics := none }

def pool6 : Array CpInfo := pool [(1, .class_ 2), (0, u "com/example/pledgeline/pledgeline/Builtin"), (2, u "LEAST"), (0, u "Lcom/example/pledgeline/pledgeline/Builtin;"), (2, u "GREATEST"), (2, u "DAYS_SINCE"), (2, u "DAYS_BETWEEN"), (2, u "BUSINESS_DAYS_SINCE"), (2, u "QUARTERS_SINCE"), (2, u "FIRST_BUSINESS_DAYS"), (2, u "LAST_BUSINESS_DAYS"), (2, u "TOTAL_VALUE"), (2, u "$VALUES"), (0, u "[Lcom/example/pledgeline/pledgeline/Builtin;"), (6, .class_ 43), (1, u "java/lang/Enum"), (6, .fieldref 1 51), (0, .nameAndType 52 53), (0, u "fewest"), (0, u "I"), (0, .fieldref 1 55), (0, .nameAndType 56 53), (0, u "most"), (2, u "kind"), (0, u "Lcom/example/pledgeline/pledgeline/Builtin$Kind;"), (2, u "reads"), (0, u "Lcom/example/pledgeline/pledgeline/Builtin$Reads;"), (2, u "parameter"), (0, u "Lcom/example/pledgeline/pledgeline/Builtin$Parameter;"), (38, .class_ 109), (1, u "com/example/pledgeline/pledgeline/Builtin$Kind"), (8, .class_ 120), (1, u "com/example/pledgeline/pledgeline/Builtin$Reads"), (13, .class_ 136), (1, u "com/example/pledgeline/pledgeline/Builtin$Parameter"), (95, .class_ 234), (1, u "com/example/pledgeline/pledgeline/Builtin$DayCount"), (47, .class_ 283), (0, u "com/example/pledgeline/pledgeline/Builtin$1"), (12, .class_ 297), (0, u "com/example/pledgeline/pledgeline/Builtin$2"), (2, .class_ 301), (0, u "com/example/pledgeline/pledgeline/Builtin$3"), (5, .class_ 308), (0, u "com/example/pledgeline/pledgeline/Builtin$4"), (2, .class_ 312), (0, u "com/example/pledgeline/pledgeline/Builtin$5"), (2, .class_ 316), (0, u "com/example/pledgeline/pledgeline/Builtin$6"), (2, .class_ 320), (0, u "com/example/pledgeline/pledgeline/Builtin$7"), (2, .class_ 324), (0, u "com/example/pledgeline/pledgeline/Builtin$8"), (2, .class_ 328), (0, u "com/example/pledgeline/pledgeline/Builtin$9"), (21, u "takes"), (0, u "(I)Z")] 52

def k6c0 : Code := { maxStack := 2, maxLocals := 2, code := prog_10_method_10_code, exceptionTable := #[], attributes := #[] }
def k6m0 : Method := { name := "takes", desc := "(I)Z", sig := { parameters := [.int], returnType := some .boolean }, accessFlags := 1, code := some k6c0 }
/-- com/example/pledgeline/pledgeline/Builtin -/
def k6 : Class := { plain "com/example/pledgeline/pledgeline/Builtin" (some 5) with
  accessFlags := 17440
  interfaces := #[]
  cf := some (fileOf pool6 1 #[.nestMembers #[134, 232, 118, 107, 327, 323, 319, 315, 311, 307, 300, 296, 282]] #[{ accessFlags := 1, nameIndex := 350, descriptorIndex := 351, attributes := #[] }] 17440 41 #[] #[{ accessFlags := 16409, nameIndex := 5, descriptorIndex := 6, attributes := #[] }, { accessFlags := 16409, nameIndex := 9, descriptorIndex := 6, attributes := #[] }, { accessFlags := 16409, nameIndex := 12, descriptorIndex := 6, attributes := #[] }, { accessFlags := 16409, nameIndex := 15, descriptorIndex := 6, attributes := #[] }, { accessFlags := 16409, nameIndex := 18, descriptorIndex := 6, attributes := #[] }, { accessFlags := 16409, nameIndex := 21, descriptorIndex := 6, attributes := #[] }, { accessFlags := 16409, nameIndex := 24, descriptorIndex := 6, attributes := #[] }, { accessFlags := 16409, nameIndex := 27, descriptorIndex := 6, attributes := #[] }, { accessFlags := 16409, nameIndex := 30, descriptorIndex := 6, attributes := #[] }, { accessFlags := 18, nameIndex := 52, descriptorIndex := 53, attributes := #[] }, { accessFlags := 18, nameIndex := 56, descriptorIndex := 53, attributes := #[] }, { accessFlags := 18, nameIndex := 59, descriptorIndex := 60, attributes := #[] }, { accessFlags := 18, nameIndex := 63, descriptorIndex := 64, attributes := #[] }, { accessFlags := 18, nameIndex := 67, descriptorIndex := 68, attributes := #[] }, { accessFlags := 4122, nameIndex := 33, descriptorIndex := 34, attributes := #[] }])
  fields := #[{ name := "LEAST", type := (.object "com/example/pledgeline/pledgeline/Builtin"), accessFlags := 16409, slot := 0, constantValue := 0 }, { name := "GREATEST", type := (.object "com/example/pledgeline/pledgeline/Builtin"), accessFlags := 16409, slot := 1, constantValue := 0 }, { name := "DAYS_SINCE", type := (.object "com/example/pledgeline/pledgeline/Builtin"), accessFlags := 16409, slot := 2, constantValue := 0 }, { name := "DAYS_BETWEEN", type := (.object "com/example/pledgeline/pledgeline/Builtin"), accessFlags := 16409, slot := 3, constantValue := 0 }, { name := "BUSINESS_DAYS_SINCE", type := (.object "com/example/pledgeline/pledgeline/Builtin"), accessFlags := 16409, slot := 4, constantValue := 0 }, { name := "QUARTERS_SINCE", type := (.object "com/example/pledgeline/pledgeline/Builtin"), accessFlags := 16409, slot := 5, constantValue := 0 }, { name := "FIRST_BUSINESS_DAYS", type := (.object "com/example/pledgeline/pledgeline/Builtin"), accessFlags := 16409, slot := 6, constantValue := 0 }, { name := "LAST_BUSINESS_DAYS", type := (.object "com/example/pledgeline/pledgeline/Builtin"), accessFlags := 16409, slot := 7, constantValue := 0 }, { name := "TOTAL_VALUE", type := (.object "com/example/pledgeline/pledgeline/Builtin"), accessFlags := 16409, slot := 8, constantValue := 0 }, { name := "fewest", type := .int, accessFlags := 18, slot := 3, constantValue := 0 }, { name := "most", type := .int, accessFlags := 18, slot := 4, constantValue := 0 }, { name := "kind", type := (.object "com/example/pledgeline/pledgeline/Builtin$Kind"), accessFlags := 18, slot := 5, constantValue := 0 }, { name := "reads", type := (.object "com/example/pledgeline/pledgeline/Builtin$Reads"), accessFlags := 18, slot := 6, constantValue := 0 }, { name := "parameter", type := (.object "com/example/pledgeline/pledgeline/Builtin$Parameter"), accessFlags := 18, slot := 7, constantValue := 0 }, { name := "$VALUES", type := (.array (.object "com/example/pledgeline/pledgeline/Builtin")), accessFlags := 4122, slot := 9, constantValue := 0 }]
  methods := #[k6m0]
  instanceTypes := #[(.object "java/lang/String"), .int, .int, .int, .int, (.object "com/example/pledgeline/pledgeline/Builtin$Kind"), (.object "com/example/pledgeline/pledgeline/Builtin$Reads"), (.object "com/example/pledgeline/pledgeline/Builtin$Parameter")]
  staticTypes := #[(.object "com/example/pledgeline/pledgeline/Builtin"), (.object "com/example/pledgeline/pledgeline/Builtin"), (.object "com/example/pledgeline/pledgeline/Builtin"), (.object "com/example/pledgeline/pledgeline/Builtin"), (.object "com/example/pledgeline/pledgeline/Builtin"), (.object "com/example/pledgeline/pledgeline/Builtin"), (.object "com/example/pledgeline/pledgeline/Builtin"), (.object "com/example/pledgeline/pledgeline/Builtin"), (.object "com/example/pledgeline/pledgeline/Builtin"), (.array (.object "com/example/pledgeline/pledgeline/Builtin"))]
  resolved := Array.replicate 404 none
  statics := some 0 }

def pool7 : Array CpInfo := pool [(2, .class_ 4), (1, u "com/example/pledgeline/pledgeline/Builtin"), (10, .class_ 16), (0, u "com/example/pledgeline/pledgeline/Builtin$1")] 52

/-- com/example/pledgeline/pledgeline/Builtin$1 -/
def k7 : Class := { plain "com/example/pledgeline/pledgeline/Builtin$1" (some 6) with
  accessFlags := 16432
  interfaces := #[]
  cf := some (fileOf pool7 15 #[.nestHost 2] #[] 16432 2 #[] #[])
  fields := #[]
  methods := #[]
  instanceTypes := #[(.object "java/lang/String"), .int, .int, .int, .int, (.object "com/example/pledgeline/pledgeline/Builtin$Kind"), (.object "com/example/pledgeline/pledgeline/Builtin$Reads"), (.object "com/example/pledgeline/pledgeline/Builtin$Parameter")]
  staticTypes := #[]
  resolved := Array.replicate 69 none
  statics := none }

def pool8 : Array CpInfo := pool [(2, .class_ 4), (1, u "com/example/pledgeline/pledgeline/Builtin"), (10, .class_ 16), (0, u "com/example/pledgeline/pledgeline/Builtin$2")] 52

/-- com/example/pledgeline/pledgeline/Builtin$2 -/
def k8 : Class := { plain "com/example/pledgeline/pledgeline/Builtin$2" (some 6) with
  accessFlags := 16432
  interfaces := #[]
  cf := some (fileOf pool8 15 #[.nestHost 2] #[] 16432 2 #[] #[])
  fields := #[]
  methods := #[]
  instanceTypes := #[(.object "java/lang/String"), .int, .int, .int, .int, (.object "com/example/pledgeline/pledgeline/Builtin$Kind"), (.object "com/example/pledgeline/pledgeline/Builtin$Reads"), (.object "com/example/pledgeline/pledgeline/Builtin$Parameter")]
  staticTypes := #[]
  resolved := Array.replicate 69 none
  statics := none }

def pool9 : Array CpInfo := pool [(2, .class_ 4), (1, u "com/example/pledgeline/pledgeline/Builtin"), (30, .class_ 36), (0, u "com/example/pledgeline/pledgeline/Builtin$3")] 49

/-- com/example/pledgeline/pledgeline/Builtin$3 -/
def k9 : Class := { plain "com/example/pledgeline/pledgeline/Builtin$3" (some 6) with
  accessFlags := 16432
  interfaces := #[]
  cf := some (fileOf pool9 35 #[.nestHost 2] #[] 16432 2 #[] #[])
  fields := #[]
  methods := #[]
  instanceTypes := #[(.object "java/lang/String"), .int, .int, .int, .int, (.object "com/example/pledgeline/pledgeline/Builtin$Kind"), (.object "com/example/pledgeline/pledgeline/Builtin$Reads"), (.object "com/example/pledgeline/pledgeline/Builtin$Parameter")]
  staticTypes := #[]
  resolved := Array.replicate 86 none
  statics := none }

def pool10 : Array CpInfo := pool [(2, .class_ 4), (1, u "com/example/pledgeline/pledgeline/Builtin"), (16, .class_ 22), (0, u "com/example/pledgeline/pledgeline/Builtin$9")] 22

/-- com/example/pledgeline/pledgeline/Builtin$9 -/
def k10 : Class := { plain "com/example/pledgeline/pledgeline/Builtin$9" (some 6) with
  accessFlags := 16432
  interfaces := #[]
  cf := some (fileOf pool10 21 #[.nestHost 2] #[] 16432 2 #[] #[])
  fields := #[]
  methods := #[]
  instanceTypes := #[(.object "java/lang/String"), .int, .int, .int, .int, (.object "com/example/pledgeline/pledgeline/Builtin$Kind"), (.object "com/example/pledgeline/pledgeline/Builtin$Reads"), (.object "com/example/pledgeline/pledgeline/Builtin$Parameter")]
  staticTypes := #[]
  resolved := Array.replicate 45 none
  statics := none }

def pool11 : Array CpInfo := pool [(2, .class_ 4), (1, u "com/example/pledgeline/pledgeline/Builtin"), (61, .class_ 67), (0, u "com/example/pledgeline/pledgeline/Builtin$7")] 27

/-- com/example/pledgeline/pledgeline/Builtin$7 -/
def k11 : Class := { plain "com/example/pledgeline/pledgeline/Builtin$7" (some 6) with
  accessFlags := 16432
  interfaces := #[]
  cf := some (fileOf pool11 66 #[.nestHost 2] #[] 16432 2 #[] #[])
  fields := #[]
  methods := #[]
  instanceTypes := #[(.object "java/lang/String"), .int, .int, .int, .int, (.object "com/example/pledgeline/pledgeline/Builtin$Kind"), (.object "com/example/pledgeline/pledgeline/Builtin$Reads"), (.object "com/example/pledgeline/pledgeline/Builtin$Parameter")]
  staticTypes := #[]
  resolved := Array.replicate 95 none
  statics := none }

def pool12 : Array CpInfo := pool [(2, .class_ 4), (1, u "com/example/pledgeline/pledgeline/Builtin"), (61, .class_ 67), (0, u "com/example/pledgeline/pledgeline/Builtin$8")] 27

/-- com/example/pledgeline/pledgeline/Builtin$8 -/
def k12 : Class := { plain "com/example/pledgeline/pledgeline/Builtin$8" (some 6) with
  accessFlags := 16432
  interfaces := #[]
  cf := some (fileOf pool12 66 #[.nestHost 2] #[] 16432 2 #[] #[])
  fields := #[]
  methods := #[]
  instanceTypes := #[(.object "java/lang/String"), .int, .int, .int, .int, (.object "com/example/pledgeline/pledgeline/Builtin$Kind"), (.object "com/example/pledgeline/pledgeline/Builtin$Reads"), (.object "com/example/pledgeline/pledgeline/Builtin$Parameter")]
  staticTypes := #[]
  resolved := Array.replicate 95 none
  statics := none }

def pool13 : Array CpInfo := pool [(2, .class_ 4), (1, u "com/example/pledgeline/pledgeline/Builtin"), (33, .class_ 39), (0, u "com/example/pledgeline/pledgeline/Builtin$4")] 49

/-- com/example/pledgeline/pledgeline/Builtin$4 -/
def k13 : Class := { plain "com/example/pledgeline/pledgeline/Builtin$4" (some 6) with
  accessFlags := 16432
  interfaces := #[]
  cf := some (fileOf pool13 38 #[.nestHost 2] #[] 16432 2 #[] #[])
  fields := #[]
  methods := #[]
  instanceTypes := #[(.object "java/lang/String"), .int, .int, .int, .int, (.object "com/example/pledgeline/pledgeline/Builtin$Kind"), (.object "com/example/pledgeline/pledgeline/Builtin$Reads"), (.object "com/example/pledgeline/pledgeline/Builtin$Parameter")]
  staticTypes := #[]
  resolved := Array.replicate 89 none
  statics := none }

def pool14 : Array CpInfo := pool [(2, .class_ 4), (1, u "com/example/pledgeline/pledgeline/Builtin"), (30, .class_ 36), (0, u "com/example/pledgeline/pledgeline/Builtin$5")] 50

/-- com/example/pledgeline/pledgeline/Builtin$5 -/
def k14 : Class := { plain "com/example/pledgeline/pledgeline/Builtin$5" (some 6) with
  accessFlags := 16432
  interfaces := #[]
  cf := some (fileOf pool14 35 #[.nestHost 2] #[] 16432 2 #[] #[])
  fields := #[]
  methods := #[]
  instanceTypes := #[(.object "java/lang/String"), .int, .int, .int, .int, (.object "com/example/pledgeline/pledgeline/Builtin$Kind"), (.object "com/example/pledgeline/pledgeline/Builtin$Reads"), (.object "com/example/pledgeline/pledgeline/Builtin$Parameter")]
  staticTypes := #[]
  resolved := Array.replicate 87 none
  statics := none }

def pool15 : Array CpInfo := pool [(2, .class_ 4), (1, u "com/example/pledgeline/pledgeline/Builtin"), (18, .class_ 24), (0, u "com/example/pledgeline/pledgeline/Builtin$6")] 49

/-- com/example/pledgeline/pledgeline/Builtin$6 -/
def k15 : Class := { plain "com/example/pledgeline/pledgeline/Builtin$6" (some 6) with
  accessFlags := 16432
  interfaces := #[]
  cf := some (fileOf pool15 23 #[.nestHost 2] #[] 16432 2 #[] #[])
  fields := #[]
  methods := #[]
  instanceTypes := #[(.object "java/lang/String"), .int, .int, .int, .int, (.object "com/example/pledgeline/pledgeline/Builtin$Kind"), (.object "com/example/pledgeline/pledgeline/Builtin$Reads"), (.object "com/example/pledgeline/pledgeline/Builtin$Parameter")]
  staticTypes := #[]
  resolved := Array.replicate 74 none
  statics := none }

def pool16 : Array CpInfo := pool [(1, u "java/lang/Cloneable"), (0, .class_ 1), (0, u "java/lang/Object"), (0, .class_ 3)] 3

/-- java/lang/Cloneable -/
def k16 : Class := { plain "java/lang/Cloneable" (some 0) with
  accessFlags := 1537
  interfaces := #[]
  cf := some (fileOf pool16 2 #[] #[] 1537 4 #[] #[])
  fields := #[]
  methods := #[]
  instanceTypes := #[]
  staticTypes := #[]
  resolved := Array.replicate 8 none
  statics := none }

/-- the primitive byte -/
def k17 : Class := { plain "byte" none with kind := .primitive 'B', accessFlags := 0x411 }
/-- [B -/
def k18 : Class := { plain "[B" (some 0) with kind := .array 17 .byte, interfaces := #[16, 4], accessFlags := 1041 }

/-- the primitive int -/
def k19 : Class := { plain "int" none with kind := .primitive 'I', accessFlags := 0x411 }
/-- [I -/
def k20 : Class := { plain "[I" (some 0) with kind := .array 19 .int, interfaces := #[16, 4], accessFlags := 1041 }

def heap : Heap := #[{ cls := 6, slots := #[.ref 1, .ref 2, .ref 3, .ref 4, .ref 5, .ref 6, .ref 7, .ref 8, .ref 9, .null], vm := .statics 6 },
  { cls := 7, slots := #[.null, .int 0, .int 0, .int 1, .int 2147483647, .null, .null, .null], vm := .none },
  { cls := 8, slots := #[.null, .int 1, .int 0, .int 1, .int 2147483647, .null, .null, .null], vm := .none },
  { cls := 9, slots := #[.null, .int 2, .int 0, .int 1, .int 1, .null, .null, .null], vm := .none },
  { cls := 13, slots := #[.null, .int 3, .int 0, .int 2, .int 2, .null, .null, .null], vm := .none },
  { cls := 14, slots := #[.null, .int 4, .int 0, .int 1, .int 1, .null, .null, .null], vm := .none },
  { cls := 15, slots := #[.null, .int 5, .int 0, .int 1, .int 1, .null, .null, .null], vm := .none },
  { cls := 11, slots := #[.null, .int 6, .int 0, .int 1, .int 1, .null, .null, .null], vm := .none },
  { cls := 12, slots := #[.null, .int 7, .int 0, .int 1, .int 1, .null, .null, .null], vm := .none },
  { cls := 10, slots := #[.null, .int 8, .int 0, .int 1, .int 1, .null, .null, .null], vm := .none }]
def classes : Array Class := #[k0, k1, k2, k3, k4, k5, k6, k7, k8, k9, k10, k11, k12, k13, k14, k15, k16, k17, k18, k19, k20]
def interned : List (Array UInt16 × Addr) := []
def slotsUsed : Nat := 82
def theMethod : MethodId := ⟨1, 1⟩
def args0 : Array Value := #[.int 5, .int 7, .int 3]
def aboutOver (below : List Frame) : State where
  vm := { classes := classes, interned := interned.toArray }
  heap := heap
  slotsUsed := slotsUsed
  threads := #[{ frames := .invoking theMethod args0 :: below }]
def below0 : List Frame := [.native { method := ⟨0, 0⟩, args := #[] }]
def about1 : State := aboutOver below0
def p0 : Program := .bare "" "" ""
def e0 : Env := launch0.env 0 0 0
theorem w_frames : about1.frames = Frame.invoking theMethod args0 :: below0 := rfl
set_option maxRecDepth 65536 in
theorem w_args : argsFit about1.vm theMethod args0 = true := by decide +kernel
set_option maxRecDepth 65536 in
theorem w_heap : heapFits about1 = true := by decide +kernel
set_option maxRecDepth 65536 in
theorem w_runnable : about1.curStatus? = some .runnable := by decide +kernel
set_option maxRecDepth 65536 in
theorem w_alone : about1.alone = true := by decide +kernel
set_option maxRecDepth 65536 in
theorem w_named : about1.methodNamed? x = some theMethod := by decide +kernel
set_option maxRecDepth 65536 in
theorem w_hears : about1.hears theMethod below0 = true := by decide +kernel
set_option maxRecDepth 65536 in
theorem w_ripe : about1.ripe theMethod args0 below0 = true := by decide +kernel
theorem w_running : about1.status = .running := rfl
set_option maxRecDepth 65536 in
theorem w_room : about1.hasRoom e0.platform room_1 = true :=
  launch0.hasRoom_least _ room_1 (by decide +kernel) (by decide +kernel) (by decide +kernel) (by decide +kernel) (by decide +kernel) (by decide +kernel)
theorem allAtoms_all (ts : List Jvm.Cond) (a : Array Jvm.Value) (st : Jvm.State) : (allAtoms ts).before a st = ts.all (fun c => c.before a st) := by
  induction ts with
  | nil => rfl
  | cons c t ih =>
    show (Jvm.Cond.and c (allAtoms t)).before a st = _
    rw [Jvm.Cond.before_and, ih, List.all_cons]
def words1 : List Jvm.Cond := Jvm.Cond.code x code maxLocals ret :: tables_1
/-- a 'code' word, met by the world's own term for the bytes: nothing is compared byte by byte -/
theorem code_word {y : MethodName} {bytes : ByteArray} {mx : Nat} {rt : Option FieldType} {a : Array Value} {s : State} {m : MethodId} {meth : Method} {c : Code} (h1 : s.methodNamed? y = some m) (h2 : s.vm.method? m = some meth) (h3 : meth.code = some c) (h4 : c.code = bytes)
    (h5 : (c.maxLocals == mx && c.exceptionTable.isEmpty && decide (c.maxStack ≤ mostOperands) && decide (meth.sig.returnType = rt) && !meth.locks && decide (parseMethodDescriptor y.desc = some meth.sig)) = true) : (Jvm.Cond.code y bytes mx rt).before a s = true := by
  simp only [Bool.and_eq_true, beq_iff_eq, Bool.not_eq_true', decide_eq_true_eq] at h5
  obtain ⟨⟨⟨⟨⟨g1, g2⟩, g3⟩, g4⟩, g5⟩, g6⟩ := h5
  simp [Cond.before, Cond.holds, Cond.value, h1, h2, h3, h4, g1, g2, g3, g4, g5, g6]
def isCode : Jvm.Cond → Bool
  | .code _ _ _ _ => true
  | _ => false
theorem all_split {L : List Jvm.Cond} {P : Jvm.Cond → Bool} (h1 : L.all (fun c => isCode c || P c) = true) (h2 : ∀ c ∈ L.filter isCode, P c = true) : L.all P = true := by
  refine List.all_eq_true.mpr fun c hc => ?_
  have h := List.all_eq_true.mp h1 c hc
  rcases Bool.eq_false_or_eq_true (isCode c) with hi | hi
  · exact h2 c (List.mem_filter.mpr ⟨hc, hi⟩)
  · simpa [hi] using h
set_option maxRecDepth 65536 in
theorem w_c0 : (Jvm.Cond.code x code maxLocals ret).before args0 about1 = true := code_word (m := ⟨1, 1⟩) (meth := k1m1) (c := k1c1) (by decide +kernel) rfl rfl rfl (by decide +kernel)
set_option maxRecDepth 65536 in
theorem w_c1 : (Jvm.Cond.code ({ cls := "com/example/pledgeline/pledgeline/Builtin", name := "takes", desc := "(I)Z" } : Jvm.MethodName) prog_10_method_10_code (2 : Nat) (Option.some Jvm.ClassFile.FieldType.boolean)).before args0 about1 = true := code_word (m := ⟨6, 0⟩) (meth := k6m0) (c := k6c0) (by decide +kernel) rfl rfl rfl (by decide +kernel)
def codes1 : List Jvm.Cond := [Jvm.Cond.code x code maxLocals ret, Jvm.Cond.code ({ cls := "com/example/pledgeline/pledgeline/Builtin", name := "takes", desc := "(I)Z" } : Jvm.MethodName) prog_10_method_10_code (2 : Nat) (Option.some Jvm.ClassFile.FieldType.boolean)]
set_option maxRecDepth 65536 in
theorem codes_eq : words1.filter isCode = codes1 := rfl
theorem w_codes : ∀ c ∈ words1.filter isCode, c.before args0 about1 = true := by
  rw [codes_eq]
  intro c hc
  simp only [codes1, List.mem_cons, List.not_mem_nil, or_false] at hc
  rcases hc with rfl | rfl
  · exact w_c0
  · exact w_c1
set_option maxRecDepth 65536 in
theorem w_t1 : (words1.take 24).all (fun c => isCode c || c.before args0 about1) = true := by decide +kernel
set_option maxRecDepth 65536 in
theorem w_t2 : ((words1.drop 24).take 24).all (fun c => isCode c || c.before args0 about1) = true := by decide +kernel
set_option maxRecDepth 65536 in
theorem w_t3 : ((words1.drop 24).drop 24).all (fun c => isCode c || c.before args0 about1) = true := by decide +kernel
theorem w_tables : (allAtoms (Jvm.Cond.code x code maxLocals ret :: tables_1)).before args0 about1 = true := by
  rw [allAtoms_all]
  show words1.all (fun c => c.before args0 about1) = true
  refine all_split ?_ w_codes
  rw [← List.take_append_drop 24 words1, List.all_append, w_t1, ← List.take_append_drop 24 (words1.drop 24), List.all_append, w_t2, w_t3]
  rfl
set_option maxRecDepth 65536 in
theorem w_case : (Jvm.Cond.and given_1 narrow_1).before args0 about1 = true := by decide +kernel
theorem w_applies : (headSpec (Jvm.Cond.code x code maxLocals ret :: tables_1) room_1).applies x e0.platform about1 = true :=
  (Spec.applies_iff w_frames).mpr ⟨w_running, w_runnable, w_alone, w_named, w_hears, w_ripe, w_room, w_tables⟩
theorem atStart : AtStart classFile x code maxLocals ret World_1 tables_1 room_1 Calls_1 rest_1 Pre_1 launch0 p0 e0 about1 theMethod args0 below0 :=
  ⟨lists_1, trivial, launch0.admits_env _ _ _, launch0.least_env, fairChoices_fair.cas, fairChoices_fair.clock, w_frames, w_args, w_heap, w_applies, trivial, trivial, w_case⟩
end start1
theorem witness_1 : WitnessClaimed_1 := ⟨start1.p0, start1.e0, start1.about1, start1.theMethod, start1.args0, start1.below0, start1.atStart⟩
end Jvm.Pilot.@@N@@
