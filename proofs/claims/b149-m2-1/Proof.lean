import JvmDerived
import JvmDerived.Pilot.@@N@@Statement
import JvmDerived.Pilot.@@N@@Code
set_option linter.unusedVariables false
set_option linter.unusedSimpArgs false
@@BLOCK:NumsL.lean.txt@@
namespace Jvm.Pilot.@@N@@
open Jvm Jvm.ClassFile Sem Op Lib Jvm.Free Jvm.Stand Jvm.LawKit Jvm.RoadKit Bundle Jvm.Pilot.@@N@@.Jvm.D
/-- what a body leaves that writes nothing: its value, no place written, the heap as it was -/
def QP (val : Value) (h0 : Heap) (n0 : Nat) (v : Option Value) (h : Heap) (L : List Loc) : Prop := v = some val ∧ Fr n0 L ∧ h = h0
/-- what the law leaves: true -/
def Q1 (n0 : Nat) (v : Option Value) (h : Heap) (L : List Loc) : Prop := v = some (.int 1) ∧ Fr n0 L
theorem own_eq_int {args : Array Value} {s : State} {t : Term} {k : Int32} (h : (Jvm.Cond.eq t (.int k)).value args s none s [] = some true) : t.eval args s none [] s = some (.int k) := by
  simp only [Cond.value, Term.eval] at h
  cases ht : t.eval args s none [] s with
  | none => simp [ht] at h
  | some x => cases x <;> simp [ht] at h ⊢; exact h
theorem own_fld {args : Array Value} {s : State} {t : Term} {a : Addr} {C n d : String} {k : Int32} (ev : t.eval args s none [] s = some (.ref a)) (h : (Jvm.Cond.eq (.field t C n d) (.int k)).value args s none s [] = some true) : Fld s s.heap a C n d (.int k) :=
  Fld.start ((fld_at ev).symm.trans (own_eq_int h))
theorem own_toInt32_inj {i j : Nat} (hi : i < 2 ^ 31) (hj : j < 2 ^ 31) (h : i.toInt32 = j.toInt32) : i = j := by
  have := congrArg Int32.toInt h
  rw [len_toInt hi, len_toInt hj] at this
  omega
theorem own_inj {Z : State} {h : Heap} {w : Nat → Addr} {n : Nat} (hn : n < 2 ^ 31) (F : ∀ i, i < n → Fld Z h (w i) "java/lang/Enum" "ordinal" "I" (.int i.toInt32)) : ∀ i j, i < n → j < n → w i = w j → i = j := fun i j hi hj e => by
  by_cases q : i = j
  · exact q
  · exact absurd e (Fld.ne (F i hi) (F j hj) fun h => q (own_toInt32_inj (by omega) (by omega) (Value.int.inj h)))
theorem own_i32 {i : Int32} {N : Nat} (hN : N < 2 ^ 31) (h0 : 0 ≤ i.toInt) (h1 : i.toInt < N) : ∃ k : Nat, k < N ∧ i = k.toInt32 := by
  refine ⟨i.toInt.toNat, by omega, Int32.toInt_inj.mp ?_⟩
  rw [len_toInt (by omega)]
  omega
theorem own_mod (x n : Int32) (N : Nat) (hN : n.toInt = N) (h : 0 < N) : ∃ k : Nat, k < N ∧ (x &&& (2147483647 : Int32)) % n = k.toInt32 := by
  have e1 : (x &&& (2147483647 : Int32)).toInt = x.toInt % 2 ^ 31 := Jvm.Kit.i32_mask x 2147483647 (k := 31) (by decide) (by decide)
  have e2 : ((x &&& (2147483647 : Int32)) % n).toInt = (x &&& (2147483647 : Int32)).toInt % n.toInt := Jvm.Kit.i32_rem_nonneg (by omega)
  have hlt := n.toInt_lt
  have h3 : 0 ≤ (x &&& (2147483647 : Int32)).toInt % n.toInt := Int.emod_nonneg _ (by omega)
  have h4 : (x &&& (2147483647 : Int32)).toInt % n.toInt < n.toInt := Int.emod_lt_of_pos _ (by omega)
  exact own_i32 (by omega) (by omega) (by omega)
theorem own_mask (x n : Int32) {k : Nat} (hk : k < 31) (hm : n.toBitVec.toNat = 2 ^ k - 1) : ∃ j : Nat, j < 2 ^ k ∧ x &&& n = j.toInt32 := by
  have e1 : (x &&& n).toInt = x.toInt % 2 ^ k := Jvm.Kit.i32_mask x n (k := k) (by omega) hm
  have hp : (2 : Nat) ^ k < 2 ^ 31 := Nat.pow_lt_pow_right (by decide) hk
  have hp1 : (0 : Int) < 2 ^ k := Int.pow_pos (by decide)
  have h3 : 0 ≤ x.toInt % 2 ^ k := Int.emod_nonneg _ (by omega)
  have h4 : x.toInt % 2 ^ k < 2 ^ k := Int.emod_lt_of_pos _ hp1
  refine own_i32 hp (by rw [e1]; exact h3) (by rw [e1]; push_cast; exact h4)
theorem own_lt_irrefl {a b : Int64} (h : a = b) : ¬ a < b ∧ ¬ b < a := by subst h; simp [Int64.lt_irrefl]
theorem own_lt_asymm {a b : Int64} (h : a < b) : ¬ b < a := Int64.lt_asymm h
theorem own_lt_total {a b : Int64} (h1 : ¬ a = b) (h2 : ¬ a < b) : b < a := by
  rw [Int64.lt_iff_toInt_lt] at h2 ⊢; rw [← Int64.toInt_inj] at h1; omega
def STA (Z : State) (h : Heap) (w : Nat → Addr) : Prop := Sta Z h "com/example/derivant/derivant/model/Formula$Kind" "TRUE" "Lcom/example/derivant/derivant/model/Formula$Kind;" (.ref (w 0)) ∧ Sta Z h "com/example/derivant/derivant/model/Formula$Kind" "FALSE" "Lcom/example/derivant/derivant/model/Formula$Kind;" (.ref (w 1)) ∧ Sta Z h "com/example/derivant/derivant/model/Formula$Kind" "LETTER" "Lcom/example/derivant/derivant/model/Formula$Kind;" (.ref (w 2)) ∧ Sta Z h "com/example/derivant/derivant/model/Formula$Kind" "NOT" "Lcom/example/derivant/derivant/model/Formula$Kind;" (.ref (w 3)) ∧ Sta Z h "com/example/derivant/derivant/model/Formula$Kind" "AND" "Lcom/example/derivant/derivant/model/Formula$Kind;" (.ref (w 4)) ∧ Sta Z h "com/example/derivant/derivant/model/Formula$Kind" "OR" "Lcom/example/derivant/derivant/model/Formula$Kind;" (.ref (w 5)) ∧ Sta Z h "com/example/derivant/derivant/model/Formula$Kind" "IMPLIES" "Lcom/example/derivant/derivant/model/Formula$Kind;" (.ref (w 6)) ∧ Sta Z h "com/example/derivant/derivant/model/Formula$Kind" "IFF" "Lcom/example/derivant/derivant/model/Formula$Kind;" (.ref (w 7)) ∧ Sta Z h "com/example/derivant/derivant/model/Formula$Kind" "SOME_STATE" "Lcom/example/derivant/derivant/model/Formula$Kind;" (.ref (w 8)) ∧ Sta Z h "com/example/derivant/derivant/model/Formula$Kind" "EVERY_STATE" "Lcom/example/derivant/derivant/model/Formula$Kind;" (.ref (w 9))
def own_pk (i : Int32) : Nat := if i = 0 then 0 else if i = 1 then 1 else if i = 2 then 2 else if i = 3 then 3 else if i = 4 then 4 else if i = 5 then 5 else if i = 6 then 6 else if i = 7 then 7 else if i = 8 then 8 else 9
theorem own_pk_eq : ∀ k, k < 10 → own_pk k.toInt32 = k := by decide
theorem own_lt_nat {k j : Nat} (hk : k < 2 ^ 31) (hj : j < 2 ^ 31) : k.toInt32 < j.toInt32 ↔ k < j := by
  rw [Int32.lt_iff_toInt_lt, len_toInt hk, len_toInt hj]; omega
theorem own_pd_0 : parseMethodDescriptor "(I)Lcom/example/derivant/derivant/model/Formula$Kind;" = some ⟨[.int], some (.object "com/example/derivant/derivant/model/Formula$Kind")⟩ := by decide +kernel
theorem own_pd_1 : parseMethodDescriptor "()Z" = some ⟨[], some .boolean⟩ := by decide +kernel
theorem own_d1_0 : decode method_3_code 0 = .ok (.iload_n 0, 1) := by decide +kernel
theorem own_d1_1 : decode method_3_code 1 = .ok (.ifCond .ne 7, 3) := by decide +kernel
theorem own_d1_4 : decode method_3_code 4 = .ok (.getstatic 20, 3) := by decide +kernel
theorem own_d1_7 : decode method_3_code 7 = .ok (.areturn, 1) := by decide +kernel
theorem own_d1_8 : decode method_3_code 8 = .ok (.iload_n 0, 1) := by decide +kernel
theorem own_d1_9 : decode method_3_code 9 = .ok (.iconst 1, 1) := by decide +kernel
theorem own_d1_10 : decode method_3_code 10 = .ok (.if_icmp .ne 7, 3) := by decide +kernel
theorem own_d1_13 : decode method_3_code 13 = .ok (.getstatic 24, 3) := by decide +kernel
theorem own_d1_16 : decode method_3_code 16 = .ok (.areturn, 1) := by decide +kernel
theorem own_d1_17 : decode method_3_code 17 = .ok (.iload_n 0, 1) := by decide +kernel
theorem own_d1_18 : decode method_3_code 18 = .ok (.iconst 2, 1) := by decide +kernel
theorem own_d1_19 : decode method_3_code 19 = .ok (.if_icmp .ne 7, 3) := by decide +kernel
theorem own_d1_22 : decode method_3_code 22 = .ok (.getstatic 27, 3) := by decide +kernel
theorem own_d1_25 : decode method_3_code 25 = .ok (.areturn, 1) := by decide +kernel
theorem own_d1_26 : decode method_3_code 26 = .ok (.iload_n 0, 1) := by decide +kernel
theorem own_d1_27 : decode method_3_code 27 = .ok (.iconst 3, 1) := by decide +kernel
theorem own_d1_28 : decode method_3_code 28 = .ok (.if_icmp .ne 7, 3) := by decide +kernel
theorem own_d1_31 : decode method_3_code 31 = .ok (.getstatic 30, 3) := by decide +kernel
theorem own_d1_34 : decode method_3_code 34 = .ok (.areturn, 1) := by decide +kernel
theorem own_d1_35 : decode method_3_code 35 = .ok (.iload_n 0, 1) := by decide +kernel
theorem own_d1_36 : decode method_3_code 36 = .ok (.iconst 4, 1) := by decide +kernel
theorem own_d1_37 : decode method_3_code 37 = .ok (.if_icmp .ne 7, 3) := by decide +kernel
theorem own_d1_40 : decode method_3_code 40 = .ok (.getstatic 33, 3) := by decide +kernel
theorem own_d1_43 : decode method_3_code 43 = .ok (.areturn, 1) := by decide +kernel
theorem own_d1_44 : decode method_3_code 44 = .ok (.iload_n 0, 1) := by decide +kernel
theorem own_d1_45 : decode method_3_code 45 = .ok (.iconst 5, 1) := by decide +kernel
theorem own_d1_46 : decode method_3_code 46 = .ok (.if_icmp .ne 7, 3) := by decide +kernel
theorem own_d1_49 : decode method_3_code 49 = .ok (.getstatic 36, 3) := by decide +kernel
theorem own_d1_52 : decode method_3_code 52 = .ok (.areturn, 1) := by decide +kernel
theorem own_d1_53 : decode method_3_code 53 = .ok (.iload_n 0, 1) := by decide +kernel
theorem own_d1_54 : decode method_3_code 54 = .ok (.bipush 6, 2) := by decide +kernel
theorem own_d1_56 : decode method_3_code 56 = .ok (.if_icmp .ne 7, 3) := by decide +kernel
theorem own_d1_59 : decode method_3_code 59 = .ok (.getstatic 39, 3) := by decide +kernel
theorem own_d1_62 : decode method_3_code 62 = .ok (.areturn, 1) := by decide +kernel
theorem own_d1_63 : decode method_3_code 63 = .ok (.iload_n 0, 1) := by decide +kernel
theorem own_d1_64 : decode method_3_code 64 = .ok (.bipush 7, 2) := by decide +kernel
theorem own_d1_66 : decode method_3_code 66 = .ok (.if_icmp .ne 7, 3) := by decide +kernel
theorem own_d1_69 : decode method_3_code 69 = .ok (.getstatic 42, 3) := by decide +kernel
theorem own_d1_72 : decode method_3_code 72 = .ok (.areturn, 1) := by decide +kernel
theorem own_d1_73 : decode method_3_code 73 = .ok (.iload_n 0, 1) := by decide +kernel
theorem own_d1_74 : decode method_3_code 74 = .ok (.bipush 8, 2) := by decide +kernel
theorem own_d1_76 : decode method_3_code 76 = .ok (.if_icmp .ne 7, 3) := by decide +kernel
theorem own_d1_79 : decode method_3_code 79 = .ok (.getstatic 45, 3) := by decide +kernel
theorem own_d1_82 : decode method_3_code 82 = .ok (.areturn, 1) := by decide +kernel
theorem own_d1_83 : decode method_3_code 83 = .ok (.getstatic 48, 3) := by decide +kernel
theorem own_d1_86 : decode method_3_code 86 = .ok (.areturn, 1) := by decide +kernel
set_option maxRecDepth 65536 in
set_option maxHeartbeats 40000000 in
theorem rm_pick (l : Launch) (Z : State) (a0 : Array Value) (hw : ∀ d ∈ tables_1, d.before a0 Z = true) (ws : List Jvm.Cond) (x0 : Int32) (w : Nat → Addr) (h0 : Heap) (n0 : Nat) (Z0 : n0 ≤ h0.size) (ST : STA Z h0 w) :
    MetFree l (⟨"com/example/derivant/derivant/model/KindIsBinaryPinLaw", "pick", "(I)Lcom/example/derivant/derivant/model/Formula$Kind;"⟩ : MethodName) (head1 (Jvm.Cond.code (⟨"com/example/derivant/derivant/model/KindIsBinaryPinLaw", "pick", "(I)Lcom/example/derivant/derivant/model/Formula$Kind;"⟩ : MethodName) method_3_code 1 (some (.object "com/example/derivant/derivant/model/Formula$Kind")) :: ws) ({ frames := 0, cells := 0, slots := 0, locals := 0 } : Room)) (fun a U => a = #[(.int x0)] ∧ Z.Warmed39 U.vm ∧ U.heap = h0) (fun _ _ _ _ _ => True) (fun _ U o U' => ∃ v L, o = .returned v ∧ QP (.ref (w (own_pk x0))) h0 n0 v U'.heap L ∧ FrameEnd U o U' L ({ frames := 0, cells := 0, slots := 0, locals := 0 } : Room).cells ({ frames := 0, cells := 0, slots := 0, locals := 0 } : Room).slots) := by
  refine MetFree.of_bodySF (plainFor_of_name (by first | (simp [plainName, overriddenIn]; done) | decide +kernel)) hisR ?_
  intro p e s m args below meth c s₁ Bd hml0 hP hK
  obtain ⟨rfl, hZ, hh⟩ := hP
  have hx := Bd.exec
  have hby := Bd.bytes
  have hml : c.maxLocals = 1 := hml0
  have hown : s.vm.findClass "com/example/derivant/derivant/model/KindIsBinaryPinLaw" = some m.cls := findClass_of_methodNamed Bd.named
  have hnm := (name_of_methodNamed Bd.named Bd.method).1
  have X0 : Stand p l e ({ frames := 0, cells := 0, slots := 0, locals := 0 } : Room) s m #[(.int x0)] below meth c s₁ [] 0 0 := Stand.of_body Bd
  have e0 : s₁.heap = h0 := by rw [← hh, Bd.state]; rfl
  have N0 := Fr.nil n0
  have ef0 : entryFrame m #[(.int x0)] 1 = mkF m 0 #[.val (.int x0)] [] := by first | (simp [entryFrame, mkF, argsToLocals, Value.category, maxLocals]; done) | rfl
  have pre0 : ∀ t, Steps p.tables e below (s₁.setTop (mkF m 0 #[.val (.int x0)] [])) t → Steps p.tables e below (s₁.setTop (entryFrame m #[(.int x0)] 1)) t := fun t k => castTop ef0 k
  have pre1 : ∀ t, Steps p.tables e below (s₁.setTop (mkF m 1 #[.val (.int x0)] [(.int x0)])) t → Steps p.tables e below (s₁.setTop (entryFrame m #[(.int x0)] 1)) t := fun tt kk => pre0 tt (by
    show Steps p.tables e below (s₁.setTop (mkF m 0 #[.val (.int x0)] [])) _
    refine XS.iloadN X0.here hx rfl (hb hby own_d1_0) rfl ?_
    exact kk)
  by_cases hc1 : x0 = (0 : Int32)
  · obtain ⟨T2, X2, e2, st2⟩ := getS2 X0 hx hZ hown (host := "") (Or.inl (hw _ (List.mem_of_getElem? (i := 5) rfl))) Via.refl e0 ST.1 (g := (mkF m 4 #[.val (.int x0)] [])) rfl (hb hby own_d1_4)
    obtain ⟨fs, hr, hrun, hended, hW, hsame⟩ := X2.leave (v := some (.ref (w 0))) (fun h => by rw [Bd.returns] at h; cases h)
    refine ⟨_, _, pre1 _ ?_, hrun, hended, _, _, rfl, ?_, ⟨_, rfl⟩, hW, hsame.mono (by decide) (by decide)⟩
    · show Steps p.tables e below (s₁.setTop (mkF m 1 #[.val (.int x0)] [(.int x0)])) _
      refine XS.ifNo X0.here hx rfl (hb hby own_d1_1) rfl ((if0 _ _).trans (teq hc1).2) ?_
      show Steps p.tables e below (s₁.setTop (mkF m 4 #[.val (.int x0)] [])) _
      refine st2 _ ?_
      show Steps p.tables e below (T2.setTop (mkF m 7 #[.val (.int x0)] [(.ref (w 0))])) _
      exact retOut X2 hx Bd.returns rfl (Or.inr (Or.inr (Or.inr (Or.inr ⟨rfl, rfl, rfl⟩)))) (hb hby own_d1_7) hr
    · show QP (.ref (w (own_pk x0))) h0 n0 _ T2.heap _
      rw [e2]
      exact ⟨by rw [own_pk, if_pos hc1], N0, rfl⟩
  · have pre3 : ∀ t, Steps p.tables e below (s₁.setTop (mkF m 10 #[.val (.int x0)] [(.int (1 : Int32)), (.int x0)])) t → Steps p.tables e below (s₁.setTop (entryFrame m #[(.int x0)] 1)) t := fun tt kk => pre1 tt (by
      show Steps p.tables e below (s₁.setTop (mkF m 1 #[.val (.int x0)] [(.int x0)])) _
      refine XS.ifYes X0.here hx rfl (pc0 := 1) (pc' := 8) rfl (hb hby own_d1_1) rfl ((if0 _ _).trans (feq hc1).2) (by decide) (by decide) ?_
      show Steps p.tables e below (s₁.setTop (mkF m 8 #[.val (.int x0)] [])) _
      refine XS.iloadN X0.here hx rfl (hb hby own_d1_8) rfl ?_
      show Steps p.tables e below (s₁.setTop (mkF m 9 #[.val (.int x0)] [(.int x0)])) _
      refine XS.iconst X0.here hx rfl (hb hby own_d1_9) ?_
      exact kk)
    by_cases hc10 : x0 = (1 : Int32)
    · obtain ⟨T4, X4, e4, st4⟩ := getS2 X0 hx hZ hown (host := "") (Or.inl (hw _ (List.mem_of_getElem? (i := 17) rfl))) Via.refl e0 ST.2.1 (g := (mkF m 13 #[.val (.int x0)] [])) rfl (hb hby own_d1_13)
      obtain ⟨fs, hr, hrun, hended, hW, hsame⟩ := X4.leave (v := some (.ref (w 1))) (fun h => by rw [Bd.returns] at h; cases h)
      refine ⟨_, _, pre3 _ ?_, hrun, hended, _, _, rfl, ?_, ⟨_, rfl⟩, hW, hsame.mono (by decide) (by decide)⟩
      · show Steps p.tables e below (s₁.setTop (mkF m 10 #[.val (.int x0)] [(.int (1 : Int32)), (.int x0)])) _
        refine XS.icmpNo X0.here hx rfl (hb hby own_d1_10) rfl (teq hc10).2 ?_
        show Steps p.tables e below (s₁.setTop (mkF m 13 #[.val (.int x0)] [])) _
        refine st4 _ ?_
        show Steps p.tables e below (T4.setTop (mkF m 16 #[.val (.int x0)] [(.ref (w 1))])) _
        exact retOut X4 hx Bd.returns rfl (Or.inr (Or.inr (Or.inr (Or.inr ⟨rfl, rfl, rfl⟩)))) (hb hby own_d1_16) hr
      · show QP (.ref (w (own_pk x0))) h0 n0 _ T4.heap _
        rw [e4]
        exact ⟨by rw [own_pk, if_neg hc1, if_pos hc10], N0, rfl⟩
    · have pre5 : ∀ t, Steps p.tables e below (s₁.setTop (mkF m 19 #[.val (.int x0)] [(.int (2 : Int32)), (.int x0)])) t → Steps p.tables e below (s₁.setTop (entryFrame m #[(.int x0)] 1)) t := fun tt kk => pre3 tt (by
        show Steps p.tables e below (s₁.setTop (mkF m 10 #[.val (.int x0)] [(.int (1 : Int32)), (.int x0)])) _
        refine XS.icmpYes X0.here hx rfl (pc0 := 10) (pc' := 17) rfl (hb hby own_d1_10) rfl (feq hc10).2 (by decide) (by decide) ?_
        show Steps p.tables e below (s₁.setTop (mkF m 17 #[.val (.int x0)] [])) _
        refine XS.iloadN X0.here hx rfl (hb hby own_d1_17) rfl ?_
        show Steps p.tables e below (s₁.setTop (mkF m 18 #[.val (.int x0)] [(.int x0)])) _
        refine XS.iconst X0.here hx rfl (hb hby own_d1_18) ?_
        exact kk)
      by_cases hc19 : x0 = (2 : Int32)
      · obtain ⟨T6, X6, e6, st6⟩ := getS2 X0 hx hZ hown (host := "") (Or.inl (hw _ (List.mem_of_getElem? (i := 23) rfl))) Via.refl e0 ST.2.2.1 (g := (mkF m 22 #[.val (.int x0)] [])) rfl (hb hby own_d1_22)
        obtain ⟨fs, hr, hrun, hended, hW, hsame⟩ := X6.leave (v := some (.ref (w 2))) (fun h => by rw [Bd.returns] at h; cases h)
        refine ⟨_, _, pre5 _ ?_, hrun, hended, _, _, rfl, ?_, ⟨_, rfl⟩, hW, hsame.mono (by decide) (by decide)⟩
        · show Steps p.tables e below (s₁.setTop (mkF m 19 #[.val (.int x0)] [(.int (2 : Int32)), (.int x0)])) _
          refine XS.icmpNo X0.here hx rfl (hb hby own_d1_19) rfl (teq hc19).2 ?_
          show Steps p.tables e below (s₁.setTop (mkF m 22 #[.val (.int x0)] [])) _
          refine st6 _ ?_
          show Steps p.tables e below (T6.setTop (mkF m 25 #[.val (.int x0)] [(.ref (w 2))])) _
          exact retOut X6 hx Bd.returns rfl (Or.inr (Or.inr (Or.inr (Or.inr ⟨rfl, rfl, rfl⟩)))) (hb hby own_d1_25) hr
        · show QP (.ref (w (own_pk x0))) h0 n0 _ T6.heap _
          rw [e6]
          exact ⟨by rw [own_pk, if_neg hc1, if_neg hc10, if_pos hc19], N0, rfl⟩
      · have pre7 : ∀ t, Steps p.tables e below (s₁.setTop (mkF m 28 #[.val (.int x0)] [(.int (3 : Int32)), (.int x0)])) t → Steps p.tables e below (s₁.setTop (entryFrame m #[(.int x0)] 1)) t := fun tt kk => pre5 tt (by
          show Steps p.tables e below (s₁.setTop (mkF m 19 #[.val (.int x0)] [(.int (2 : Int32)), (.int x0)])) _
          refine XS.icmpYes X0.here hx rfl (pc0 := 19) (pc' := 26) rfl (hb hby own_d1_19) rfl (feq hc19).2 (by decide) (by decide) ?_
          show Steps p.tables e below (s₁.setTop (mkF m 26 #[.val (.int x0)] [])) _
          refine XS.iloadN X0.here hx rfl (hb hby own_d1_26) rfl ?_
          show Steps p.tables e below (s₁.setTop (mkF m 27 #[.val (.int x0)] [(.int x0)])) _
          refine XS.iconst X0.here hx rfl (hb hby own_d1_27) ?_
          exact kk)
        by_cases hc28 : x0 = (3 : Int32)
        · obtain ⟨T8, X8, e8, st8⟩ := getS2 X0 hx hZ hown (host := "") (Or.inl (hw _ (List.mem_of_getElem? (i := 15) rfl))) Via.refl e0 ST.2.2.2.1 (g := (mkF m 31 #[.val (.int x0)] [])) rfl (hb hby own_d1_31)
          obtain ⟨fs, hr, hrun, hended, hW, hsame⟩ := X8.leave (v := some (.ref (w 3))) (fun h => by rw [Bd.returns] at h; cases h)
          refine ⟨_, _, pre7 _ ?_, hrun, hended, _, _, rfl, ?_, ⟨_, rfl⟩, hW, hsame.mono (by decide) (by decide)⟩
          · show Steps p.tables e below (s₁.setTop (mkF m 28 #[.val (.int x0)] [(.int (3 : Int32)), (.int x0)])) _
            refine XS.icmpNo X0.here hx rfl (hb hby own_d1_28) rfl (teq hc28).2 ?_
            show Steps p.tables e below (s₁.setTop (mkF m 31 #[.val (.int x0)] [])) _
            refine st8 _ ?_
            show Steps p.tables e below (T8.setTop (mkF m 34 #[.val (.int x0)] [(.ref (w 3))])) _
            exact retOut X8 hx Bd.returns rfl (Or.inr (Or.inr (Or.inr (Or.inr ⟨rfl, rfl, rfl⟩)))) (hb hby own_d1_34) hr
          · show QP (.ref (w (own_pk x0))) h0 n0 _ T8.heap _
            rw [e8]
            exact ⟨by rw [own_pk, if_neg hc1, if_neg hc10, if_neg hc19, if_pos hc28], N0, rfl⟩
        · have pre9 : ∀ t, Steps p.tables e below (s₁.setTop (mkF m 37 #[.val (.int x0)] [(.int (4 : Int32)), (.int x0)])) t → Steps p.tables e below (s₁.setTop (entryFrame m #[(.int x0)] 1)) t := fun tt kk => pre7 tt (by
            show Steps p.tables e below (s₁.setTop (mkF m 28 #[.val (.int x0)] [(.int (3 : Int32)), (.int x0)])) _
            refine XS.icmpYes X0.here hx rfl (pc0 := 28) (pc' := 35) rfl (hb hby own_d1_28) rfl (feq hc28).2 (by decide) (by decide) ?_
            show Steps p.tables e below (s₁.setTop (mkF m 35 #[.val (.int x0)] [])) _
            refine XS.iloadN X0.here hx rfl (hb hby own_d1_35) rfl ?_
            show Steps p.tables e below (s₁.setTop (mkF m 36 #[.val (.int x0)] [(.int x0)])) _
            refine XS.iconst X0.here hx rfl (hb hby own_d1_36) ?_
            exact kk)
          by_cases hc37 : x0 = (4 : Int32)
          · obtain ⟨T10, X10, e10, st10⟩ := getS2 X0 hx hZ hown (host := "") (Or.inl (hw _ (List.mem_of_getElem? (i := 19) rfl))) Via.refl e0 ST.2.2.2.2.1 (g := (mkF m 40 #[.val (.int x0)] [])) rfl (hb hby own_d1_40)
            obtain ⟨fs, hr, hrun, hended, hW, hsame⟩ := X10.leave (v := some (.ref (w 4))) (fun h => by rw [Bd.returns] at h; cases h)
            refine ⟨_, _, pre9 _ ?_, hrun, hended, _, _, rfl, ?_, ⟨_, rfl⟩, hW, hsame.mono (by decide) (by decide)⟩
            · show Steps p.tables e below (s₁.setTop (mkF m 37 #[.val (.int x0)] [(.int (4 : Int32)), (.int x0)])) _
              refine XS.icmpNo X0.here hx rfl (hb hby own_d1_37) rfl (teq hc37).2 ?_
              show Steps p.tables e below (s₁.setTop (mkF m 40 #[.val (.int x0)] [])) _
              refine st10 _ ?_
              show Steps p.tables e below (T10.setTop (mkF m 43 #[.val (.int x0)] [(.ref (w 4))])) _
              exact retOut X10 hx Bd.returns rfl (Or.inr (Or.inr (Or.inr (Or.inr ⟨rfl, rfl, rfl⟩)))) (hb hby own_d1_43) hr
            · show QP (.ref (w (own_pk x0))) h0 n0 _ T10.heap _
              rw [e10]
              exact ⟨by rw [own_pk, if_neg hc1, if_neg hc10, if_neg hc19, if_neg hc28, if_pos hc37], N0, rfl⟩
          · have pre11 : ∀ t, Steps p.tables e below (s₁.setTop (mkF m 46 #[.val (.int x0)] [(.int (5 : Int32)), (.int x0)])) t → Steps p.tables e below (s₁.setTop (entryFrame m #[(.int x0)] 1)) t := fun tt kk => pre9 tt (by
              show Steps p.tables e below (s₁.setTop (mkF m 37 #[.val (.int x0)] [(.int (4 : Int32)), (.int x0)])) _
              refine XS.icmpYes X0.here hx rfl (pc0 := 37) (pc' := 44) rfl (hb hby own_d1_37) rfl (feq hc37).2 (by decide) (by decide) ?_
              show Steps p.tables e below (s₁.setTop (mkF m 44 #[.val (.int x0)] [])) _
              refine XS.iloadN X0.here hx rfl (hb hby own_d1_44) rfl ?_
              show Steps p.tables e below (s₁.setTop (mkF m 45 #[.val (.int x0)] [(.int x0)])) _
              refine XS.iconst X0.here hx rfl (hb hby own_d1_45) ?_
              exact kk)
            by_cases hc46 : x0 = (5 : Int32)
            · obtain ⟨T12, X12, e12, st12⟩ := getS2 X0 hx hZ hown (host := "") (Or.inl (hw _ (List.mem_of_getElem? (i := 29) rfl))) Via.refl e0 ST.2.2.2.2.2.1 (g := (mkF m 49 #[.val (.int x0)] [])) rfl (hb hby own_d1_49)
              obtain ⟨fs, hr, hrun, hended, hW, hsame⟩ := X12.leave (v := some (.ref (w 5))) (fun h => by rw [Bd.returns] at h; cases h)
              refine ⟨_, _, pre11 _ ?_, hrun, hended, _, _, rfl, ?_, ⟨_, rfl⟩, hW, hsame.mono (by decide) (by decide)⟩
              · show Steps p.tables e below (s₁.setTop (mkF m 46 #[.val (.int x0)] [(.int (5 : Int32)), (.int x0)])) _
                refine XS.icmpNo X0.here hx rfl (hb hby own_d1_46) rfl (teq hc46).2 ?_
                show Steps p.tables e below (s₁.setTop (mkF m 49 #[.val (.int x0)] [])) _
                refine st12 _ ?_
                show Steps p.tables e below (T12.setTop (mkF m 52 #[.val (.int x0)] [(.ref (w 5))])) _
                exact retOut X12 hx Bd.returns rfl (Or.inr (Or.inr (Or.inr (Or.inr ⟨rfl, rfl, rfl⟩)))) (hb hby own_d1_52) hr
              · show QP (.ref (w (own_pk x0))) h0 n0 _ T12.heap _
                rw [e12]
                exact ⟨by rw [own_pk, if_neg hc1, if_neg hc10, if_neg hc19, if_neg hc28, if_neg hc37, if_pos hc46], N0, rfl⟩
            · have pre13 : ∀ t, Steps p.tables e below (s₁.setTop (mkF m 56 #[.val (.int x0)] [(.int (6 : Int32)), (.int x0)])) t → Steps p.tables e below (s₁.setTop (entryFrame m #[(.int x0)] 1)) t := fun tt kk => pre11 tt (by
                show Steps p.tables e below (s₁.setTop (mkF m 46 #[.val (.int x0)] [(.int (5 : Int32)), (.int x0)])) _
                refine XS.icmpYes X0.here hx rfl (pc0 := 46) (pc' := 53) rfl (hb hby own_d1_46) rfl (feq hc46).2 (by decide) (by decide) ?_
                show Steps p.tables e below (s₁.setTop (mkF m 53 #[.val (.int x0)] [])) _
                refine XS.iloadN X0.here hx rfl (hb hby own_d1_53) rfl ?_
                show Steps p.tables e below (s₁.setTop (mkF m 54 #[.val (.int x0)] [(.int x0)])) _
                refine XS.bipush X0.here hx rfl (hb hby own_d1_54) ?_
                exact kk)
              by_cases hc56 : x0 = (6 : Int32)
              · obtain ⟨T14, X14, e14, st14⟩ := getS2 X0 hx hZ hown (host := "") (Or.inl (hw _ (List.mem_of_getElem? (i := 31) rfl))) Via.refl e0 ST.2.2.2.2.2.2.1 (g := (mkF m 59 #[.val (.int x0)] [])) rfl (hb hby own_d1_59)
                obtain ⟨fs, hr, hrun, hended, hW, hsame⟩ := X14.leave (v := some (.ref (w 6))) (fun h => by rw [Bd.returns] at h; cases h)
                refine ⟨_, _, pre13 _ ?_, hrun, hended, _, _, rfl, ?_, ⟨_, rfl⟩, hW, hsame.mono (by decide) (by decide)⟩
                · show Steps p.tables e below (s₁.setTop (mkF m 56 #[.val (.int x0)] [(.int (6 : Int32)), (.int x0)])) _
                  refine XS.icmpNo X0.here hx rfl (hb hby own_d1_56) rfl (teq hc56).2 ?_
                  show Steps p.tables e below (s₁.setTop (mkF m 59 #[.val (.int x0)] [])) _
                  refine st14 _ ?_
                  show Steps p.tables e below (T14.setTop (mkF m 62 #[.val (.int x0)] [(.ref (w 6))])) _
                  exact retOut X14 hx Bd.returns rfl (Or.inr (Or.inr (Or.inr (Or.inr ⟨rfl, rfl, rfl⟩)))) (hb hby own_d1_62) hr
                · show QP (.ref (w (own_pk x0))) h0 n0 _ T14.heap _
                  rw [e14]
                  exact ⟨by rw [own_pk, if_neg hc1, if_neg hc10, if_neg hc19, if_neg hc28, if_neg hc37, if_neg hc46, if_pos hc56], N0, rfl⟩
              · have pre15 : ∀ t, Steps p.tables e below (s₁.setTop (mkF m 66 #[.val (.int x0)] [(.int (7 : Int32)), (.int x0)])) t → Steps p.tables e below (s₁.setTop (entryFrame m #[(.int x0)] 1)) t := fun tt kk => pre13 tt (by
                  show Steps p.tables e below (s₁.setTop (mkF m 56 #[.val (.int x0)] [(.int (6 : Int32)), (.int x0)])) _
                  refine XS.icmpYes X0.here hx rfl (pc0 := 56) (pc' := 63) rfl (hb hby own_d1_56) rfl (feq hc56).2 (by decide) (by decide) ?_
                  show Steps p.tables e below (s₁.setTop (mkF m 63 #[.val (.int x0)] [])) _
                  refine XS.iloadN X0.here hx rfl (hb hby own_d1_63) rfl ?_
                  show Steps p.tables e below (s₁.setTop (mkF m 64 #[.val (.int x0)] [(.int x0)])) _
                  refine XS.bipush X0.here hx rfl (hb hby own_d1_64) ?_
                  exact kk)
                by_cases hc66 : x0 = (7 : Int32)
                · obtain ⟨T16, X16, e16, st16⟩ := getS2 X0 hx hZ hown (host := "") (Or.inl (hw _ (List.mem_of_getElem? (i := 21) rfl))) Via.refl e0 ST.2.2.2.2.2.2.2.1 (g := (mkF m 69 #[.val (.int x0)] [])) rfl (hb hby own_d1_69)
                  obtain ⟨fs, hr, hrun, hended, hW, hsame⟩ := X16.leave (v := some (.ref (w 7))) (fun h => by rw [Bd.returns] at h; cases h)
                  refine ⟨_, _, pre15 _ ?_, hrun, hended, _, _, rfl, ?_, ⟨_, rfl⟩, hW, hsame.mono (by decide) (by decide)⟩
                  · show Steps p.tables e below (s₁.setTop (mkF m 66 #[.val (.int x0)] [(.int (7 : Int32)), (.int x0)])) _
                    refine XS.icmpNo X0.here hx rfl (hb hby own_d1_66) rfl (teq hc66).2 ?_
                    show Steps p.tables e below (s₁.setTop (mkF m 69 #[.val (.int x0)] [])) _
                    refine st16 _ ?_
                    show Steps p.tables e below (T16.setTop (mkF m 72 #[.val (.int x0)] [(.ref (w 7))])) _
                    exact retOut X16 hx Bd.returns rfl (Or.inr (Or.inr (Or.inr (Or.inr ⟨rfl, rfl, rfl⟩)))) (hb hby own_d1_72) hr
                  · show QP (.ref (w (own_pk x0))) h0 n0 _ T16.heap _
                    rw [e16]
                    exact ⟨by rw [own_pk, if_neg hc1, if_neg hc10, if_neg hc19, if_neg hc28, if_neg hc37, if_neg hc46, if_neg hc56, if_pos hc66], N0, rfl⟩
                · have pre17 : ∀ t, Steps p.tables e below (s₁.setTop (mkF m 76 #[.val (.int x0)] [(.int (8 : Int32)), (.int x0)])) t → Steps p.tables e below (s₁.setTop (entryFrame m #[(.int x0)] 1)) t := fun tt kk => pre15 tt (by
                    show Steps p.tables e below (s₁.setTop (mkF m 66 #[.val (.int x0)] [(.int (7 : Int32)), (.int x0)])) _
                    refine XS.icmpYes X0.here hx rfl (pc0 := 66) (pc' := 73) rfl (hb hby own_d1_66) rfl (feq hc66).2 (by decide) (by decide) ?_
                    show Steps p.tables e below (s₁.setTop (mkF m 73 #[.val (.int x0)] [])) _
                    refine XS.iloadN X0.here hx rfl (hb hby own_d1_73) rfl ?_
                    show Steps p.tables e below (s₁.setTop (mkF m 74 #[.val (.int x0)] [(.int x0)])) _
                    refine XS.bipush X0.here hx rfl (hb hby own_d1_74) ?_
                    exact kk)
                  by_cases hc76 : x0 = (8 : Int32)
                  · obtain ⟨T18, X18, e18, st18⟩ := getS2 X0 hx hZ hown (host := "") (Or.inl (hw _ (List.mem_of_getElem? (i := 25) rfl))) Via.refl e0 ST.2.2.2.2.2.2.2.2.1 (g := (mkF m 79 #[.val (.int x0)] [])) rfl (hb hby own_d1_79)
                    obtain ⟨fs, hr, hrun, hended, hW, hsame⟩ := X18.leave (v := some (.ref (w 8))) (fun h => by rw [Bd.returns] at h; cases h)
                    refine ⟨_, _, pre17 _ ?_, hrun, hended, _, _, rfl, ?_, ⟨_, rfl⟩, hW, hsame.mono (by decide) (by decide)⟩
                    · show Steps p.tables e below (s₁.setTop (mkF m 76 #[.val (.int x0)] [(.int (8 : Int32)), (.int x0)])) _
                      refine XS.icmpNo X0.here hx rfl (hb hby own_d1_76) rfl (teq hc76).2 ?_
                      show Steps p.tables e below (s₁.setTop (mkF m 79 #[.val (.int x0)] [])) _
                      refine st18 _ ?_
                      show Steps p.tables e below (T18.setTop (mkF m 82 #[.val (.int x0)] [(.ref (w 8))])) _
                      exact retOut X18 hx Bd.returns rfl (Or.inr (Or.inr (Or.inr (Or.inr ⟨rfl, rfl, rfl⟩)))) (hb hby own_d1_82) hr
                    · show QP (.ref (w (own_pk x0))) h0 n0 _ T18.heap _
                      rw [e18]
                      exact ⟨by rw [own_pk, if_neg hc1, if_neg hc10, if_neg hc19, if_neg hc28, if_neg hc37, if_neg hc46, if_neg hc56, if_neg hc66, if_pos hc76], N0, rfl⟩
                  · obtain ⟨T19, X19, e19, st19⟩ := getS2 X0 hx hZ hown (host := "") (Or.inl (hw _ (List.mem_of_getElem? (i := 27) rfl))) Via.refl e0 ST.2.2.2.2.2.2.2.2.2 (g := (mkF m 83 #[.val (.int x0)] [])) rfl (hb hby own_d1_83)
                    obtain ⟨fs, hr, hrun, hended, hW, hsame⟩ := X19.leave (v := some (.ref (w 9))) (fun h => by rw [Bd.returns] at h; cases h)
                    refine ⟨_, _, pre17 _ ?_, hrun, hended, _, _, rfl, ?_, ⟨_, rfl⟩, hW, hsame.mono (by decide) (by decide)⟩
                    · show Steps p.tables e below (s₁.setTop (mkF m 76 #[.val (.int x0)] [(.int (8 : Int32)), (.int x0)])) _
                      refine XS.icmpYes X0.here hx rfl (pc0 := 76) (pc' := 83) rfl (hb hby own_d1_76) rfl (feq hc76).2 (by decide) (by decide) ?_
                      show Steps p.tables e below (s₁.setTop (mkF m 83 #[.val (.int x0)] [])) _
                      refine st19 _ ?_
                      show Steps p.tables e below (T19.setTop (mkF m 86 #[.val (.int x0)] [(.ref (w 9))])) _
                      exact retOut X19 hx Bd.returns rfl (Or.inr (Or.inr (Or.inr (Or.inr ⟨rfl, rfl, rfl⟩)))) (hb hby own_d1_86) hr
                    · show QP (.ref (w (own_pk x0))) h0 n0 _ T19.heap _
                      rw [e19]
                      exact ⟨by rw [own_pk, if_neg hc1, if_neg hc10, if_neg hc19, if_neg hc28, if_neg hc37, if_neg hc46, if_neg hc56, if_neg hc66, if_neg hc76], N0, rfl⟩
theorem own_d2_0 : decode prog_22_method_5_code 0 = .ok (.aload_n 0, 1) := by decide +kernel
theorem own_d2_1 : decode prog_22_method_5_code 1 = .ok (.getfield 56, 3) := by decide +kernel
theorem own_d2_4 : decode prog_22_method_5_code 4 = .ok (.ifnull 7, 3) := by decide +kernel
theorem own_d2_11 : decode prog_22_method_5_code 11 = .ok (.iconst 0, 1) := by decide +kernel
theorem own_d2_12 : decode prog_22_method_5_code 12 = .ok (.ireturn, 1) := by decide +kernel
set_option maxRecDepth 65536 in
set_option maxHeartbeats 40000000 in
theorem rm_b0 (l : Launch) (Z : State) (a0 : Array Value) (hw : ∀ d ∈ tables_1, d.before a0 Z = true) (ws : List Jvm.Cond) (x0 : Addr) (h0 : Heap) (n0 : Nat) (Z0 : n0 ≤ h0.size) (F : Fld Z h0 x0 "com/example/derivant/derivant/model/Formula$Kind" "symbol" "Ljava/lang/String;" .null) :
    MetFree l (⟨"com/example/derivant/derivant/model/Formula$Kind", "isBinary", "()Z"⟩ : MethodName) (head1 (Jvm.Cond.code (⟨"com/example/derivant/derivant/model/Formula$Kind", "isBinary", "()Z"⟩ : MethodName) prog_22_method_5_code 1 (some .boolean) :: ws) ({ frames := 0, cells := 0, slots := 0, locals := 0 } : Room)) (fun a U => a = #[(.ref x0)] ∧ Z.Warmed39 U.vm ∧ U.heap = h0) (fun _ _ _ _ _ => True) (fun _ U o U' => ∃ v L, o = .returned v ∧ QP (.int 0) h0 n0 v U'.heap L ∧ FrameEnd U o U' L ({ frames := 0, cells := 0, slots := 0, locals := 0 } : Room).cells ({ frames := 0, cells := 0, slots := 0, locals := 0 } : Room).slots) := by
  refine MetFree.of_bodySF (plainFor_of_name (by first | (simp [plainName, overriddenIn]; done) | decide +kernel)) hisR ?_
  intro p e s m args below meth c s₁ Bd hml0 hP hK
  obtain ⟨rfl, hZ, hh⟩ := hP
  have hx := Bd.exec
  have hby := Bd.bytes
  have hml : c.maxLocals = 1 := hml0
  have hown : s.vm.findClass "com/example/derivant/derivant/model/Formula$Kind" = some m.cls := findClass_of_methodNamed Bd.named
  have hnm := (name_of_methodNamed Bd.named Bd.method).1
  have X0 : Stand p l e ({ frames := 0, cells := 0, slots := 0, locals := 0 } : Room) s m #[(.ref x0)] below meth c s₁ [] 0 0 := Stand.of_body Bd
  have e0 : s₁.heap = h0 := by rw [← hh, Bd.state]; rfl
  have N0 := Fr.nil n0
  have ef0 : entryFrame m #[(.ref x0)] 1 = mkF m 0 #[.val (.ref x0)] [] := by first | (simp [entryFrame, mkF, argsToLocals, Value.category, maxLocals]; done) | rfl
  have pre0 : ∀ t, Steps p.tables e below (s₁.setTop (mkF m 0 #[.val (.ref x0)] [])) t → Steps p.tables e below (s₁.setTop (entryFrame m #[(.ref x0)] 1)) t := fun t k => castTop ef0 k
  obtain ⟨T20, X20, e20, st20⟩ := getF X0 hx hZ hown (host := "") (Or.inl (hw _ (List.mem_of_getElem? (i := 13) rfl))) Via.refl e0 F (g := (mkF m 1 #[.val (.ref x0)] [(.ref x0)])) rfl rfl (hb hby own_d2_1)
  obtain ⟨fs, hr, hrun, hended, hW, hsame⟩ := X20.leave (v := some (.int (0 : Int32))) (fun h => by rw [Bd.returns] at h; cases h)
  refine ⟨_, _, pre0 _ ?_, hrun, hended, _, _, rfl, ?_, ⟨_, rfl⟩, hW, hsame.mono (by decide) (by decide)⟩
  · show Steps p.tables e below (s₁.setTop (mkF m 0 #[.val (.ref x0)] [])) _
    refine XS.aloadN X0.here hx rfl (hb hby own_d2_0) rfl rfl ?_
    show Steps p.tables e below (s₁.setTop (mkF m 1 #[.val (.ref x0)] [(.ref x0)])) _
    refine st20 _ ?_
    show Steps p.tables e below (T20.setTop (mkF m 4 #[.val (.ref x0)] [.null])) _
    refine XS.ifnullYes X20.here hx rfl (pc0 := 4) (pc' := 11) rfl (hb hby own_d2_4) rfl (by decide) (by decide) ?_
    show Steps p.tables e below (T20.setTop (mkF m 11 #[.val (.ref x0)] [])) _
    refine XS.iconst X20.here hx rfl (hb hby own_d2_11) ?_
    show Steps p.tables e below (T20.setTop (mkF m 12 #[.val (.ref x0)] [(.int (0 : Int32))])) _
    exact retN X20 hx (t := .boolean) Bd.returns (by simp) (hb hby own_d2_12) hr
  · show QP (.int 0) h0 n0 _ T20.heap _
    rw [e20]
    exact ⟨rfl, N0, rfl⟩
theorem own_d2_7 : decode prog_22_method_5_code 7 = .ok (.iconst 1, 1) := by decide +kernel
theorem own_d2_8 : decode prog_22_method_5_code 8 = .ok (.goto 4, 3) := by decide +kernel
set_option maxRecDepth 65536 in
set_option maxHeartbeats 40000000 in
theorem rm_b1 (l : Launch) (Z : State) (a0 : Array Value) (hw : ∀ d ∈ tables_1, d.before a0 Z = true) (ws : List Jvm.Cond) (x0 a1 : Addr) (h0 : Heap) (n0 : Nat) (Z0 : n0 ≤ h0.size) (F : Fld Z h0 x0 "com/example/derivant/derivant/model/Formula$Kind" "symbol" "Ljava/lang/String;" (.ref a1)) :
    MetFree l (⟨"com/example/derivant/derivant/model/Formula$Kind", "isBinary", "()Z"⟩ : MethodName) (head1 (Jvm.Cond.code (⟨"com/example/derivant/derivant/model/Formula$Kind", "isBinary", "()Z"⟩ : MethodName) prog_22_method_5_code 1 (some .boolean) :: ws) ({ frames := 0, cells := 0, slots := 0, locals := 0 } : Room)) (fun a U => a = #[(.ref x0)] ∧ Z.Warmed39 U.vm ∧ U.heap = h0) (fun _ _ _ _ _ => True) (fun _ U o U' => ∃ v L, o = .returned v ∧ QP (.int 1) h0 n0 v U'.heap L ∧ FrameEnd U o U' L ({ frames := 0, cells := 0, slots := 0, locals := 0 } : Room).cells ({ frames := 0, cells := 0, slots := 0, locals := 0 } : Room).slots) := by
  refine MetFree.of_bodySF (plainFor_of_name (by first | (simp [plainName, overriddenIn]; done) | decide +kernel)) hisR ?_
  intro p e s m args below meth c s₁ Bd hml0 hP hK
  obtain ⟨rfl, hZ, hh⟩ := hP
  have hx := Bd.exec
  have hby := Bd.bytes
  have hml : c.maxLocals = 1 := hml0
  have hown : s.vm.findClass "com/example/derivant/derivant/model/Formula$Kind" = some m.cls := findClass_of_methodNamed Bd.named
  have hnm := (name_of_methodNamed Bd.named Bd.method).1
  have X0 : Stand p l e ({ frames := 0, cells := 0, slots := 0, locals := 0 } : Room) s m #[(.ref x0)] below meth c s₁ [] 0 0 := Stand.of_body Bd
  have e0 : s₁.heap = h0 := by rw [← hh, Bd.state]; rfl
  have N0 := Fr.nil n0
  have ef0 : entryFrame m #[(.ref x0)] 1 = mkF m 0 #[.val (.ref x0)] [] := by first | (simp [entryFrame, mkF, argsToLocals, Value.category, maxLocals]; done) | rfl
  have pre0 : ∀ t, Steps p.tables e below (s₁.setTop (mkF m 0 #[.val (.ref x0)] [])) t → Steps p.tables e below (s₁.setTop (entryFrame m #[(.ref x0)] 1)) t := fun t k => castTop ef0 k
  obtain ⟨T21, X21, e21, st21⟩ := getF X0 hx hZ hown (host := "") (Or.inl (hw _ (List.mem_of_getElem? (i := 13) rfl))) Via.refl e0 F (g := (mkF m 1 #[.val (.ref x0)] [(.ref x0)])) rfl rfl (hb hby own_d2_1)
  obtain ⟨fs, hr, hrun, hended, hW, hsame⟩ := X21.leave (v := some (.int (1 : Int32))) (fun h => by rw [Bd.returns] at h; cases h)
  refine ⟨_, _, pre0 _ ?_, hrun, hended, _, _, rfl, ?_, ⟨_, rfl⟩, hW, hsame.mono (by decide) (by decide)⟩
  · show Steps p.tables e below (s₁.setTop (mkF m 0 #[.val (.ref x0)] [])) _
    refine XS.aloadN X0.here hx rfl (hb hby own_d2_0) rfl rfl ?_
    show Steps p.tables e below (s₁.setTop (mkF m 1 #[.val (.ref x0)] [(.ref x0)])) _
    refine st21 _ ?_
    show Steps p.tables e below (T21.setTop (mkF m 4 #[.val (.ref x0)] [(.ref a1)])) _
    refine XS.ifnullNo X21.here hx rfl (hb hby own_d2_4) rfl ?_
    show Steps p.tables e below (T21.setTop (mkF m 7 #[.val (.ref x0)] [])) _
    refine XS.iconst X21.here hx rfl (hb hby own_d2_7) ?_
    show Steps p.tables e below (T21.setTop (mkF m 8 #[.val (.ref x0)] [(.int (1 : Int32))])) _
    refine XS.goto X21.here hx rfl (pc0 := 8) (pc' := 12) rfl (hb hby own_d2_8) (by decide) (by decide) ?_
    show Steps p.tables e below (T21.setTop (mkF m 12 #[.val (.ref x0)] [(.int (1 : Int32))])) _
    exact retN X21 hx (t := .boolean) Bd.returns (by simp) (hb hby own_d2_12) hr
  · show QP (.int 1) h0 n0 _ T21.heap _
    rw [e21]
    exact ⟨rfl, N0, rfl⟩
set_option maxRecDepth 65536 in
set_option maxHeartbeats 40000000 in
theorem rm0 (l : Launch) (Z : State) (a0 : Array Value) (hw : ∀ d ∈ tables_1, d.before a0 Z = true) (ws : List Jvm.Cond) (x0 : Int32) (w : Nat → Addr) (h0 : Heap) (n0 : Nat) (Z0 : n0 ≤ h0.size) (ST : STA Z h0 w) (EX : ∀ i, i < 10 → Exa Z h0 (w i) "com/example/derivant/derivant/model/Formula$Kind") (SN : ∀ i, i < 10 → (i < 4 ∨ 7 < i) → Fld Z h0 (w i) "com/example/derivant/derivant/model/Formula$Kind" "symbol" "Ljava/lang/String;" .null) (SR : ∀ i, i < 10 → 4 ≤ i → i ≤ 7 → ∃ a, Fld Z h0 (w i) "com/example/derivant/derivant/model/Formula$Kind" "symbol" "Ljava/lang/String;" (.ref a)) :
    MetFree l x (head1 (Jvm.Cond.code x code maxLocals ret :: ws) room_1) (fun a U => a = #[(.int x0)] ∧ Z.Warmed39 U.vm ∧ U.heap = h0) (fun _ _ _ _ _ => True) (fun _ U o U' => ∃ v L, o = .returned v ∧ Q1 n0 v U'.heap L ∧ FrameEnd U o U' L room_1.cells room_1.slots) := by
  refine MetFree.of_bodySF (plainFor_of_name (by first | (simp [plainName, overriddenIn]; done) | decide +kernel)) hisR ?_
  intro p e s m args below meth c s₁ Bd hml0 hP hK
  obtain ⟨rfl, hZ, hh⟩ := hP
  have hx := Bd.exec
  have hby := Bd.bytes
  have hml : c.maxLocals = 4 := hml0
  have hown : s.vm.findClass "com/example/derivant/derivant/model/KindIsBinaryPinLaw" = some m.cls := findClass_of_methodNamed Bd.named
  have hnm := (name_of_methodNamed Bd.named Bd.method).1
  have X0 : Stand p l e room_1 s m #[(.int x0)] below meth c s₁ [] 0 0 := Stand.of_body Bd
  have e0 : s₁.heap = h0 := by rw [← hh, Bd.state]; rfl
  have N0 := Fr.nil n0
  have ef0 : entryFrame m #[(.int x0)] maxLocals = mkF m 0 #[.val (.int x0), .unset, .unset, .unset] [] := by first | (simp [entryFrame, mkF, argsToLocals, Value.category, maxLocals]; done) | rfl
  have pre0 : ∀ t, Steps p.tables e below (s₁.setTop (mkF m 0 #[.val (.int x0), .unset, .unset, .unset] [])) t → Steps p.tables e below (s₁.setTop (entryFrame m #[(.int x0)] maxLocals)) t := fun t k => castTop ef0 k
  obtain ⟨k, hk, ek⟩ := own_mod x0 10 10 rfl (by decide)
  have pre22 : ∀ t, Steps p.tables e below (s₁.setTop (mkF m 7 #[.val (.int x0), .unset, .unset, .unset] [(.int ((x0 &&& (2147483647 : Int32)) % (10 : Int32)))])) t → Steps p.tables e below (s₁.setTop (entryFrame m #[(.int x0)] maxLocals)) t := fun tt kk => pre0 tt (by
    show Steps p.tables e below (s₁.setTop (mkF m 0 #[.val (.int x0), .unset, .unset, .unset] [])) _
    refine XS.iloadN X0.here hx rfl (hb hby at_0) rfl ?_
    show Steps p.tables e below (s₁.setTop (mkF m 1 #[.val (.int x0), .unset, .unset, .unset] [(.int x0)])) _
    refine X0.ldcInt hx hown (mvT hZ (hw _ (List.mem_of_getElem? (i := 0) rfl))) (g := (mkF m 1 #[.val (.int x0), .unset, .unset, .unset] [(.int x0)])) rfl (hb hby at_1) _ ?_
    show Steps p.tables e below (s₁.setTop (mkF m 3 #[.val (.int x0), .unset, .unset, .unset] [(.int (2147483647 : Int32)), (.int x0)])) _
    refine XS.iand X0.here hx rfl (hb hby at_3) rfl ?_
    show Steps p.tables e below (s₁.setTop (mkF m 4 #[.val (.int x0), .unset, .unset, .unset] [(.int (x0 &&& (2147483647 : Int32)))])) _
    refine XS.bipush X0.here hx rfl (hb hby at_4) ?_
    show Steps p.tables e below (s₁.setTop (mkF m 6 #[.val (.int x0), .unset, .unset, .unset] [(.int (10 : Int32)), (.int (x0 &&& (2147483647 : Int32)))])) _
    refine iremM X0 hx rfl (hb hby at_6) rfl (by decide) ?_
    exact kk)
  rw [ek] at pre22
  obtain ⟨vv23, _, ⟨T23, L23, k23, n23⟩, -, X23, ⟨Lc23, hQ23, l23, y23, z23⟩, st23⟩ := Jvm.LawKit.callS X0 hx (y := (⟨"com/example/derivant/derivant/model/KindIsBinaryPinLaw", "pick", "(I)Lcom/example/derivant/derivant/model/Formula$Kind;"⟩ : MethodName)) hown (mvT hZ (hw _ (List.mem_of_getElem? (i := 1) rfl))) (mvT hZ (hw _ (List.mem_of_getElem? (i := 2) rfl))) (mvT hZ (hw _ (List.mem_of_getElem? (i := 3) rfl))) (mvT hZ (hw _ (List.mem_of_getElem? (i := 4) rfl))) (by decide) (backOf (W := 0) (rm_pick l Z a0 hw [] k.toInt32 w h0 n0 Z0 ST) hZ (hw _ (List.mem_of_getElem? (i := 4) rfl)) (hw _ (List.mem_of_getElem? (i := 3) rfl)) (by decide) (by decide)) (g := (mkF m 9 #[.val (.int x0), .val (.int k.toInt32), .unset, .unset] [(.int k.toInt32)])) rfl (by rw [hml]; rfl) (argsL := [(.int k.toInt32)]) (rest := []) (lenOf own_pd_0 rfl) rfl (by show 2 * 0 + _ ≤ _; exact Nat.le_of_eq rfl) (hb hby at_9) (fun _ _ => ⟨rfl, e0, (by decide : 0 + 0 ≤ _), (by decide : 0 + 0 ≤ _)⟩)
  dsimp only [Pt.U, Pt.locs, Pt.cells, Pt.slots] at X23 l23 y23 z23 st23 hQ23
  subst l23 y23 z23
  rw [own_pk_eq k hk] at hQ23
  obtain ⟨rfl, N23q, e23⟩ := hQ23
  have N23 := Fr.app N0 N23q
  have pre24 : ∀ t, Steps p.tables e below (T23.setTop (mkF m 15 #[.val (.int x0), .val (.int k.toInt32), .val (.ref (w k)), .unset] [(.int (4 : Int32)), (.int k.toInt32)])) t → Steps p.tables e below (s₁.setTop (entryFrame m #[(.int x0)] maxLocals)) t := fun tt kk => pre22 tt (by
    show Steps p.tables e below (s₁.setTop (mkF m 7 #[.val (.int x0), .unset, .unset, .unset] [(.int k.toInt32)])) _
    refine XS.istoreN X0.here hx rfl (hb hby at_7) rfl (l' := #[.val (.int x0), .val (.int k.toInt32), .unset, .unset]) rfl ?_
    show Steps p.tables e below (s₁.setTop (mkF m 8 #[.val (.int x0), .val (.int k.toInt32), .unset, .unset] [])) _
    refine XS.iloadN X0.here hx rfl (hb hby at_8) rfl ?_
    show Steps p.tables e below (s₁.setTop (mkF m 9 #[.val (.int x0), .val (.int k.toInt32), .unset, .unset] [(.int k.toInt32)])) _
    refine st23 _ ?_
    show Steps p.tables e below (T23.setTop (mkF m 12 #[.val (.int x0), .val (.int k.toInt32), .unset, .unset] [(.ref (w k))])) _
    refine XS.astoreN X23.here hx rfl (hb hby at_12) rfl rfl (l' := #[.val (.int x0), .val (.int k.toInt32), .val (.ref (w k)), .unset]) rfl ?_
    show Steps p.tables e below (T23.setTop (mkF m 13 #[.val (.int x0), .val (.int k.toInt32), .val (.ref (w k)), .unset] [])) _
    refine XS.iloadN X23.here hx rfl (hb hby at_13) rfl ?_
    show Steps p.tables e below (T23.setTop (mkF m 14 #[.val (.int x0), .val (.int k.toInt32), .val (.ref (w k)), .unset] [(.int k.toInt32)])) _
    refine XS.iconst X23.here hx rfl (hb hby at_14) ?_
    exact kk)
  by_cases hc15 : k.toInt32 < (4 : Int32)
  · obtain ⟨cq25, kq25, q25a, q25b, q25c⟩ := isOf hZ e23 (EX k hk)
    obtain ⟨vv25, _, ⟨T25, L25, k25, n25⟩, -, X25, ⟨Lc25, hQ25, l25, y25, z25⟩, st25⟩ := X23.virtualBack hx (y := (⟨"com/example/derivant/derivant/model/Formula$Kind", "isBinary", "()Z"⟩ : MethodName)) (z := (⟨"com/example/derivant/derivant/model/Formula$Kind", "isBinary", "()Z"⟩ : MethodName)) hown (mvT hZ (hw _ (List.mem_of_getElem? (i := 8) rfl))) (mvT hZ (hw _ (List.mem_of_getElem? (i := 9) rfl))) (notFace_of_selects (args := #[]) (mvT hZ (hw _ (List.mem_of_getElem? (i := 11) rfl)))) (mvT hZ (hw _ (List.mem_of_getElem? (i := 11) rfl))) (mvT hZ (hw _ (List.mem_of_getElem? (i := 10) rfl))) (by decide) (backOf (W := 0) (rm_b0 l Z a0 hw [] (w k) h0 n0 Z0 (SN k hk (Or.inl ((own_lt_nat (k := k) (j := 4) (by omega) (by decide)).mp hc15)))) hZ (hw _ (List.mem_of_getElem? (i := 12) rfl)) (hw _ (List.mem_of_getElem? (i := 6) rfl)) (by decide) (by decide)) q25a q25c (g := (mkF m 31 #[.val (.int x0), .val (.int k.toInt32), .val (.ref (w k)), .val (.int (0 : Int32))] [(.ref (w k))])) rfl (by rw [hml]; rfl) (Steps.refl _) (argsL := []) (rest := []) (lenOf own_pd_1 rfl) rfl (by show 2 * 0 + _ ≤ _; exact Nat.le_of_eq rfl) (hb hby at_31) (fun _ _ => ⟨rfl, e23, (by decide : 0 + 0 ≤ _), (by decide : 0 + 0 ≤ _)⟩)
    dsimp only [Pt.U, Pt.locs, Pt.cells, Pt.slots] at X25 l25 y25 z25 st25 hQ25
    subst l25 y25 z25
    obtain ⟨rfl, N25q, e25⟩ := hQ25
    have N25 := Fr.app N23 N25q
    have pre26 : ∀ t, Steps p.tables e below (T25.setTop (mkF m 35 #[.val (.int x0), .val (.int k.toInt32), .val (.ref (w k)), .val (.int (0 : Int32))] [(.int (0 : Int32)), (.int (0 : Int32))])) t → Steps p.tables e below (s₁.setTop (entryFrame m #[(.int x0)] maxLocals)) t := fun tt kk => pre24 tt (by
      show Steps p.tables e below (T23.setTop (mkF m 15 #[.val (.int x0), .val (.int k.toInt32), .val (.ref (w k)), .unset] [(.int (4 : Int32)), (.int k.toInt32)])) _
      refine XS.icmpYes X23.here hx rfl (pc0 := 15) (pc' := 28) rfl (hb hby at_15) rfl (tlt hc15).1 (by decide) (by decide) ?_
      show Steps p.tables e below (T23.setTop (mkF m 28 #[.val (.int x0), .val (.int k.toInt32), .val (.ref (w k)), .unset] [])) _
      refine XS.iconst X23.here hx rfl (hb hby at_28) ?_
      show Steps p.tables e below (T23.setTop (mkF m 29 #[.val (.int x0), .val (.int k.toInt32), .val (.ref (w k)), .unset] [(.int (0 : Int32))])) _
      refine XS.istoreN X23.here hx rfl (hb hby at_29) rfl (l' := #[.val (.int x0), .val (.int k.toInt32), .val (.ref (w k)), .val (.int (0 : Int32))]) rfl ?_
      show Steps p.tables e below (T23.setTop (mkF m 30 #[.val (.int x0), .val (.int k.toInt32), .val (.ref (w k)), .val (.int (0 : Int32))] [])) _
      refine XS.aloadN X23.here hx rfl (hb hby at_30) rfl rfl ?_
      show Steps p.tables e below (T23.setTop (mkF m 31 #[.val (.int x0), .val (.int k.toInt32), .val (.ref (w k)), .val (.int (0 : Int32))] [(.ref (w k))])) _
      refine st25.trans ?_
      show Steps p.tables e below (T25.setTop (mkF m 34 #[.val (.int x0), .val (.int k.toInt32), .val (.ref (w k)), .val (.int (0 : Int32))] [(.int (0 : Int32))])) _
      refine XS.iloadN X25.here hx rfl (hb hby at_34) rfl ?_
      exact kk)
    obtain ⟨fs, hr, hrun, hended, hW, hsame⟩ := X25.leave (v := some (.int (1 : Int32))) (fun h => by rw [Bd.returns] at h; cases h)
    refine ⟨_, _, pre26 _ ?_, hrun, hended, _, _, rfl, ?_, ⟨_, rfl⟩, hW, hsame.mono (by decide) (by decide)⟩
    · show Steps p.tables e below (T25.setTop (mkF m 35 #[.val (.int x0), .val (.int k.toInt32), .val (.ref (w k)), .val (.int (0 : Int32))] [(.int (0 : Int32)), (.int (0 : Int32))])) _
      refine XS.icmpNo X25.here hx rfl (hb hby at_35) rfl (teq (by decide : (0 : Int32) = (0 : Int32))).2 ?_
      show Steps p.tables e below (T25.setTop (mkF m 38 #[.val (.int x0), .val (.int k.toInt32), .val (.ref (w k)), .val (.int (0 : Int32))] [])) _
      refine XS.iconst X25.here hx rfl (hb hby at_38) ?_
      show Steps p.tables e below (T25.setTop (mkF m 39 #[.val (.int x0), .val (.int k.toInt32), .val (.ref (w k)), .val (.int (0 : Int32))] [(.int (1 : Int32))])) _
      refine XS.goto X25.here hx rfl (pc0 := 39) (pc' := 43) rfl (hb hby at_39) (by decide) (by decide) ?_
      show Steps p.tables e below (T25.setTop (mkF m 43 #[.val (.int x0), .val (.int k.toInt32), .val (.ref (w k)), .val (.int (0 : Int32))] [(.int (1 : Int32))])) _
      exact retN X25 hx (t := .boolean) Bd.returns (by simp) (hb hby at_43) hr
    · exact ⟨rfl, N25⟩
  · have pre27 : ∀ t, Steps p.tables e below (T23.setTop (mkF m 21 #[.val (.int x0), .val (.int k.toInt32), .val (.ref (w k)), .unset] [(.int (7 : Int32)), (.int k.toInt32)])) t → Steps p.tables e below (s₁.setTop (entryFrame m #[(.int x0)] maxLocals)) t := fun tt kk => pre24 tt (by
      show Steps p.tables e below (T23.setTop (mkF m 15 #[.val (.int x0), .val (.int k.toInt32), .val (.ref (w k)), .unset] [(.int (4 : Int32)), (.int k.toInt32)])) _
      refine XS.icmpNo X23.here hx rfl (hb hby at_15) rfl (flt hc15).1 ?_
      show Steps p.tables e below (T23.setTop (mkF m 18 #[.val (.int x0), .val (.int k.toInt32), .val (.ref (w k)), .unset] [])) _
      refine XS.iloadN X23.here hx rfl (hb hby at_18) rfl ?_
      show Steps p.tables e below (T23.setTop (mkF m 19 #[.val (.int x0), .val (.int k.toInt32), .val (.ref (w k)), .unset] [(.int k.toInt32)])) _
      refine XS.bipush X23.here hx rfl (hb hby at_19) ?_
      exact kk)
    by_cases hc21 : (7 : Int32) < k.toInt32
    · obtain ⟨cq28, kq28, q28a, q28b, q28c⟩ := isOf hZ e23 (EX k hk)
      obtain ⟨vv28, _, ⟨T28, L28, k28, n28⟩, -, X28, ⟨Lc28, hQ28, l28, y28, z28⟩, st28⟩ := X23.virtualBack hx (y := (⟨"com/example/derivant/derivant/model/Formula$Kind", "isBinary", "()Z"⟩ : MethodName)) (z := (⟨"com/example/derivant/derivant/model/Formula$Kind", "isBinary", "()Z"⟩ : MethodName)) hown (mvT hZ (hw _ (List.mem_of_getElem? (i := 8) rfl))) (mvT hZ (hw _ (List.mem_of_getElem? (i := 9) rfl))) (notFace_of_selects (args := #[]) (mvT hZ (hw _ (List.mem_of_getElem? (i := 11) rfl)))) (mvT hZ (hw _ (List.mem_of_getElem? (i := 11) rfl))) (mvT hZ (hw _ (List.mem_of_getElem? (i := 10) rfl))) (by decide) (backOf (W := 0) (rm_b0 l Z a0 hw [] (w k) h0 n0 Z0 (SN k hk (Or.inr ((own_lt_nat (k := 7) (j := k) (by decide) (by omega)).mp hc21)))) hZ (hw _ (List.mem_of_getElem? (i := 12) rfl)) (hw _ (List.mem_of_getElem? (i := 6) rfl)) (by decide) (by decide)) q28a q28c (g := (mkF m 31 #[.val (.int x0), .val (.int k.toInt32), .val (.ref (w k)), .val (.int (0 : Int32))] [(.ref (w k))])) rfl (by rw [hml]; rfl) (Steps.refl _) (argsL := []) (rest := []) (lenOf own_pd_1 rfl) rfl (by show 2 * 0 + _ ≤ _; exact Nat.le_of_eq rfl) (hb hby at_31) (fun _ _ => ⟨rfl, e23, (by decide : 0 + 0 ≤ _), (by decide : 0 + 0 ≤ _)⟩)
      dsimp only [Pt.U, Pt.locs, Pt.cells, Pt.slots] at X28 l28 y28 z28 st28 hQ28
      subst l28 y28 z28
      obtain ⟨rfl, N28q, e28⟩ := hQ28
      have N28 := Fr.app N23 N28q
      have pre29 : ∀ t, Steps p.tables e below (T28.setTop (mkF m 35 #[.val (.int x0), .val (.int k.toInt32), .val (.ref (w k)), .val (.int (0 : Int32))] [(.int (0 : Int32)), (.int (0 : Int32))])) t → Steps p.tables e below (s₁.setTop (entryFrame m #[(.int x0)] maxLocals)) t := fun tt kk => pre27 tt (by
        show Steps p.tables e below (T23.setTop (mkF m 21 #[.val (.int x0), .val (.int k.toInt32), .val (.ref (w k)), .unset] [(.int (7 : Int32)), (.int k.toInt32)])) _
        refine XS.icmpYes X23.here hx rfl (pc0 := 21) (pc' := 28) rfl (hb hby at_21) rfl (tlt hc21).2.2.1 (by decide) (by decide) ?_
        show Steps p.tables e below (T23.setTop (mkF m 28 #[.val (.int x0), .val (.int k.toInt32), .val (.ref (w k)), .unset] [])) _
        refine XS.iconst X23.here hx rfl (hb hby at_28) ?_
        show Steps p.tables e below (T23.setTop (mkF m 29 #[.val (.int x0), .val (.int k.toInt32), .val (.ref (w k)), .unset] [(.int (0 : Int32))])) _
        refine XS.istoreN X23.here hx rfl (hb hby at_29) rfl (l' := #[.val (.int x0), .val (.int k.toInt32), .val (.ref (w k)), .val (.int (0 : Int32))]) rfl ?_
        show Steps p.tables e below (T23.setTop (mkF m 30 #[.val (.int x0), .val (.int k.toInt32), .val (.ref (w k)), .val (.int (0 : Int32))] [])) _
        refine XS.aloadN X23.here hx rfl (hb hby at_30) rfl rfl ?_
        show Steps p.tables e below (T23.setTop (mkF m 31 #[.val (.int x0), .val (.int k.toInt32), .val (.ref (w k)), .val (.int (0 : Int32))] [(.ref (w k))])) _
        refine st28.trans ?_
        show Steps p.tables e below (T28.setTop (mkF m 34 #[.val (.int x0), .val (.int k.toInt32), .val (.ref (w k)), .val (.int (0 : Int32))] [(.int (0 : Int32))])) _
        refine XS.iloadN X28.here hx rfl (hb hby at_34) rfl ?_
        exact kk)
      obtain ⟨fs, hr, hrun, hended, hW, hsame⟩ := X28.leave (v := some (.int (1 : Int32))) (fun h => by rw [Bd.returns] at h; cases h)
      refine ⟨_, _, pre29 _ ?_, hrun, hended, _, _, rfl, ?_, ⟨_, rfl⟩, hW, hsame.mono (by decide) (by decide)⟩
      · show Steps p.tables e below (T28.setTop (mkF m 35 #[.val (.int x0), .val (.int k.toInt32), .val (.ref (w k)), .val (.int (0 : Int32))] [(.int (0 : Int32)), (.int (0 : Int32))])) _
        refine XS.icmpNo X28.here hx rfl (hb hby at_35) rfl (teq (by decide : (0 : Int32) = (0 : Int32))).2 ?_
        show Steps p.tables e below (T28.setTop (mkF m 38 #[.val (.int x0), .val (.int k.toInt32), .val (.ref (w k)), .val (.int (0 : Int32))] [])) _
        refine XS.iconst X28.here hx rfl (hb hby at_38) ?_
        show Steps p.tables e below (T28.setTop (mkF m 39 #[.val (.int x0), .val (.int k.toInt32), .val (.ref (w k)), .val (.int (0 : Int32))] [(.int (1 : Int32))])) _
        refine XS.goto X28.here hx rfl (pc0 := 39) (pc' := 43) rfl (hb hby at_39) (by decide) (by decide) ?_
        show Steps p.tables e below (T28.setTop (mkF m 43 #[.val (.int x0), .val (.int k.toInt32), .val (.ref (w k)), .val (.int (0 : Int32))] [(.int (1 : Int32))])) _
        exact retN X28 hx (t := .boolean) Bd.returns (by simp) (hb hby at_43) hr
      · exact ⟨rfl, N28⟩
    · obtain ⟨as, Fs⟩ := SR k hk (Nat.le_of_not_lt fun q => hc15 ((own_lt_nat (k := k) (j := 4) (by omega) (by decide)).mpr q)) (Nat.le_of_not_lt fun q => hc21 ((own_lt_nat (k := 7) (j := k) (by decide) (by omega)).mpr q))
      obtain ⟨cq30, kq30, q30a, q30b, q30c⟩ := isOf hZ e23 (EX k hk)
      obtain ⟨vv30, _, ⟨T30, L30, k30, n30⟩, -, X30, ⟨Lc30, hQ30, l30, y30, z30⟩, st30⟩ := X23.virtualBack hx (y := (⟨"com/example/derivant/derivant/model/Formula$Kind", "isBinary", "()Z"⟩ : MethodName)) (z := (⟨"com/example/derivant/derivant/model/Formula$Kind", "isBinary", "()Z"⟩ : MethodName)) hown (mvT hZ (hw _ (List.mem_of_getElem? (i := 8) rfl))) (mvT hZ (hw _ (List.mem_of_getElem? (i := 9) rfl))) (notFace_of_selects (args := #[]) (mvT hZ (hw _ (List.mem_of_getElem? (i := 11) rfl)))) (mvT hZ (hw _ (List.mem_of_getElem? (i := 11) rfl))) (mvT hZ (hw _ (List.mem_of_getElem? (i := 10) rfl))) (by decide) (backOf (W := 0) (rm_b1 l Z a0 hw [] (w k) as h0 n0 Z0 Fs) hZ (hw _ (List.mem_of_getElem? (i := 12) rfl)) (hw _ (List.mem_of_getElem? (i := 6) rfl)) (by decide) (by decide)) q30a q30c (g := (mkF m 31 #[.val (.int x0), .val (.int k.toInt32), .val (.ref (w k)), .val (.int (1 : Int32))] [(.ref (w k))])) rfl (by rw [hml]; rfl) (Steps.refl _) (argsL := []) (rest := []) (lenOf own_pd_1 rfl) rfl (by show 2 * 0 + _ ≤ _; exact Nat.le_of_eq rfl) (hb hby at_31) (fun _ _ => ⟨rfl, e23, (by decide : 0 + 0 ≤ _), (by decide : 0 + 0 ≤ _)⟩)
      dsimp only [Pt.U, Pt.locs, Pt.cells, Pt.slots] at X30 l30 y30 z30 st30 hQ30
      subst l30 y30 z30
      obtain ⟨rfl, N30q, e30⟩ := hQ30
      have N30 := Fr.app N23 N30q
      have pre31 : ∀ t, Steps p.tables e below (T30.setTop (mkF m 35 #[.val (.int x0), .val (.int k.toInt32), .val (.ref (w k)), .val (.int (1 : Int32))] [(.int (1 : Int32)), (.int (1 : Int32))])) t → Steps p.tables e below (s₁.setTop (entryFrame m #[(.int x0)] maxLocals)) t := fun tt kk => pre27 tt (by
        show Steps p.tables e below (T23.setTop (mkF m 21 #[.val (.int x0), .val (.int k.toInt32), .val (.ref (w k)), .unset] [(.int (7 : Int32)), (.int k.toInt32)])) _
        refine XS.icmpNo X23.here hx rfl (hb hby at_21) rfl (flt hc21).2.2.1 ?_
        show Steps p.tables e below (T23.setTop (mkF m 24 #[.val (.int x0), .val (.int k.toInt32), .val (.ref (w k)), .unset] [])) _
        refine XS.iconst X23.here hx rfl (hb hby at_24) ?_
        show Steps p.tables e below (T23.setTop (mkF m 25 #[.val (.int x0), .val (.int k.toInt32), .val (.ref (w k)), .unset] [(.int (1 : Int32))])) _
        refine XS.goto X23.here hx rfl (pc0 := 25) (pc' := 29) rfl (hb hby at_25) (by decide) (by decide) ?_
        show Steps p.tables e below (T23.setTop (mkF m 29 #[.val (.int x0), .val (.int k.toInt32), .val (.ref (w k)), .unset] [(.int (1 : Int32))])) _
        refine XS.istoreN X23.here hx rfl (hb hby at_29) rfl (l' := #[.val (.int x0), .val (.int k.toInt32), .val (.ref (w k)), .val (.int (1 : Int32))]) rfl ?_
        show Steps p.tables e below (T23.setTop (mkF m 30 #[.val (.int x0), .val (.int k.toInt32), .val (.ref (w k)), .val (.int (1 : Int32))] [])) _
        refine XS.aloadN X23.here hx rfl (hb hby at_30) rfl rfl ?_
        show Steps p.tables e below (T23.setTop (mkF m 31 #[.val (.int x0), .val (.int k.toInt32), .val (.ref (w k)), .val (.int (1 : Int32))] [(.ref (w k))])) _
        refine st30.trans ?_
        show Steps p.tables e below (T30.setTop (mkF m 34 #[.val (.int x0), .val (.int k.toInt32), .val (.ref (w k)), .val (.int (1 : Int32))] [(.int (1 : Int32))])) _
        refine XS.iloadN X30.here hx rfl (hb hby at_34) rfl ?_
        exact kk)
      obtain ⟨fs, hr, hrun, hended, hW, hsame⟩ := X30.leave (v := some (.int (1 : Int32))) (fun h => by rw [Bd.returns] at h; cases h)
      refine ⟨_, _, pre31 _ ?_, hrun, hended, _, _, rfl, ?_, ⟨_, rfl⟩, hW, hsame.mono (by decide) (by decide)⟩
      · show Steps p.tables e below (T30.setTop (mkF m 35 #[.val (.int x0), .val (.int k.toInt32), .val (.ref (w k)), .val (.int (1 : Int32))] [(.int (1 : Int32)), (.int (1 : Int32))])) _
        refine XS.icmpNo X30.here hx rfl (hb hby at_35) rfl (teq (by decide : (1 : Int32) = (1 : Int32))).2 ?_
        show Steps p.tables e below (T30.setTop (mkF m 38 #[.val (.int x0), .val (.int k.toInt32), .val (.ref (w k)), .val (.int (1 : Int32))] [])) _
        refine XS.iconst X30.here hx rfl (hb hby at_38) ?_
        show Steps p.tables e below (T30.setTop (mkF m 39 #[.val (.int x0), .val (.int k.toInt32), .val (.ref (w k)), .val (.int (1 : Int32))] [(.int (1 : Int32))])) _
        refine XS.goto X30.here hx rfl (pc0 := 39) (pc' := 43) rfl (hb hby at_39) (by decide) (by decide) ?_
        show Steps p.tables e below (T30.setTop (mkF m 43 #[.val (.int x0), .val (.int k.toInt32), .val (.ref (w k)), .val (.int (1 : Int32))] [(.int (1 : Int32))])) _
        exact retN X30 hx (t := .boolean) Bd.returns (by simp) (hb hby at_43) hr
      · exact ⟨rfl, N30⟩
set_option maxRecDepth 65536 in
set_option maxHeartbeats 40000000 in
theorem comes_1 {Post : Tables → Env → Array Value → State → Outcome → State → Prop} (hpost : ∀ tb e args s v u, (limb_1_1.after args s (.returned v) u = true ∧ limb_1_2.after args s (.returned v) u = true ∧ True) → FrameEnd s (.returned v) u (Jvm.fieldLocs frame_1_writes args s ++ Jvm.arrayLocs frame_1_arrays args s ++ Jvm.staticLocs frame_1_statics s) 0 0 → Post tb e args s (.returned v) u) :
    ArmFor flags0 classFile x code maxLocals ret World_1 tables_1 room_1 Calls_1 rest_1 Pre_1 Post := by
  intro l hfl _ _ p e ha hc hk s m args below hf hA hF happ hP
  obtain ⟨hcalls, hrest, hpre⟩ := hP
  obtain ⟨-, -, -, hnamed, -, -, -, hat⟩ := (Spec.applies_iff hf).mp happ
  obtain ⟨hg, hn⟩ := and_e (Cond.before_iff.mp (show (Jvm.Cond.and given_1 narrow_1).before args s = true from hpre))
  obtain ⟨g0, g0r⟩ := and_e hg
  obtain ⟨w0_, rfl⟩ : ∃ w0_ : Value, args = #[w0_] := by
    have hs : args.size = 1 := by simpa [Cond.value, given_1] using g0
    obtain ⟨L⟩ := args
    match L, hs with
    | [w0_], _ => exact ⟨w0_, rfl⟩
  have hw := fun d (hd : d ∈ tables_1) => atoms_spec (ws := Jvm.Cond.code x code maxLocals ret :: tables_1) hat d (List.mem_cons_of_mem _ hd)
  have hfit : Fit s := fun {y c} hc i hi => by
    obtain ⟨ha, rfl⟩ := Array.getElem?_eq_some_iff.mp hc
    have q := List.all_eq_true.mp ((Array.all_eq_true_iff_forall_mem.mp hF) _ (Array.getElem_mem ha)) i (List.mem_range.mpr hi)
    simpa [Array.getElem?_eq_getElem hi] using q
  obtain ⟨i0, ei0⟩ := is_v g0r
  obtain rfl : w0_ = (.int i0) := Option.some.inj ei0
  obtain ⟨n0, n0r⟩ := and_e hn
  obtain ⟨n1, n1r⟩ := and_e n0r
  obtain ⟨n2, n2r⟩ := and_e n1r
  obtain ⟨n3, n3r⟩ := and_e n2r
  obtain ⟨n4, n4r⟩ := and_e n3r
  obtain ⟨n5, n5r⟩ := and_e n4r
  obtain ⟨n6, n6r⟩ := and_e n5r
  obtain ⟨n7, n7r⟩ := and_e n6r
  obtain ⟨n8, n8r⟩ := and_e n7r
  obtain ⟨n9, n9r⟩ := and_e n8r
  obtain ⟨n10, n10r⟩ := and_e n9r
  obtain ⟨n11, n11r⟩ := and_e n10r
  obtain ⟨n12, n12r⟩ := and_e n11r
  obtain ⟨n13, n13r⟩ := and_e n12r
  obtain ⟨n14, n14r⟩ := and_e n13r
  obtain ⟨n15, n15r⟩ := and_e n14r
  obtain ⟨n16, n16r⟩ := and_e n15r
  obtain ⟨n17, n17r⟩ := and_e n16r
  obtain ⟨n18, n18r⟩ := and_e n17r
  obtain ⟨v0, ev0⟩ := exa_v n0
  have S0 : Sta s s.heap "com/example/derivant/derivant/model/Formula$Kind" "TRUE" "Lcom/example/derivant/derivant/model/Formula$Kind;" (.ref v0) := Sta.start ev0 (Or.inr ⟨(hw _ (List.mem_of_getElem? (i := 6) rfl)), (hw _ (List.mem_of_getElem? (i := 7) rfl))⟩)
  have E0 : Exa s s.heap v0 "com/example/derivant/derivant/model/Formula$Kind" := Exa.start ev0 n0
  obtain ⟨v1, ev1⟩ := exa_v n4
  have S1 : Sta s s.heap "com/example/derivant/derivant/model/Formula$Kind" "FALSE" "Lcom/example/derivant/derivant/model/Formula$Kind;" (.ref v1) := Sta.start ev1 (Or.inr ⟨(hw _ (List.mem_of_getElem? (i := 6) rfl)), (hw _ (List.mem_of_getElem? (i := 18) rfl))⟩)
  have E1 : Exa s s.heap v1 "com/example/derivant/derivant/model/Formula$Kind" := Exa.start ev1 n4
  obtain ⟨v2, ev2⟩ := exa_v n10
  have S2 : Sta s s.heap "com/example/derivant/derivant/model/Formula$Kind" "LETTER" "Lcom/example/derivant/derivant/model/Formula$Kind;" (.ref v2) := Sta.start ev2 (Or.inr ⟨(hw _ (List.mem_of_getElem? (i := 6) rfl)), (hw _ (List.mem_of_getElem? (i := 24) rfl))⟩)
  have E2 : Exa s s.heap v2 "com/example/derivant/derivant/model/Formula$Kind" := Exa.start ev2 n10
  obtain ⟨v3, ev3⟩ := exa_v n2
  have S3 : Sta s s.heap "com/example/derivant/derivant/model/Formula$Kind" "NOT" "Lcom/example/derivant/derivant/model/Formula$Kind;" (.ref v3) := Sta.start ev3 (Or.inr ⟨(hw _ (List.mem_of_getElem? (i := 6) rfl)), (hw _ (List.mem_of_getElem? (i := 16) rfl))⟩)
  have E3 : Exa s s.heap v3 "com/example/derivant/derivant/model/Formula$Kind" := Exa.start ev3 n2
  obtain ⟨v4, ev4⟩ := exa_v n6
  have S4 : Sta s s.heap "com/example/derivant/derivant/model/Formula$Kind" "AND" "Lcom/example/derivant/derivant/model/Formula$Kind;" (.ref v4) := Sta.start ev4 (Or.inr ⟨(hw _ (List.mem_of_getElem? (i := 6) rfl)), (hw _ (List.mem_of_getElem? (i := 20) rfl))⟩)
  have E4 : Exa s s.heap v4 "com/example/derivant/derivant/model/Formula$Kind" := Exa.start ev4 n6
  obtain ⟨v5, ev5⟩ := exa_v n16
  have S5 : Sta s s.heap "com/example/derivant/derivant/model/Formula$Kind" "OR" "Lcom/example/derivant/derivant/model/Formula$Kind;" (.ref v5) := Sta.start ev5 (Or.inr ⟨(hw _ (List.mem_of_getElem? (i := 6) rfl)), (hw _ (List.mem_of_getElem? (i := 30) rfl))⟩)
  have E5 : Exa s s.heap v5 "com/example/derivant/derivant/model/Formula$Kind" := Exa.start ev5 n16
  obtain ⟨v6, ev6⟩ := exa_v n18
  have S6 : Sta s s.heap "com/example/derivant/derivant/model/Formula$Kind" "IMPLIES" "Lcom/example/derivant/derivant/model/Formula$Kind;" (.ref v6) := Sta.start ev6 (Or.inr ⟨(hw _ (List.mem_of_getElem? (i := 6) rfl)), (hw _ (List.mem_of_getElem? (i := 32) rfl))⟩)
  have E6 : Exa s s.heap v6 "com/example/derivant/derivant/model/Formula$Kind" := Exa.start ev6 n18
  obtain ⟨v7, ev7⟩ := exa_v n8
  have S7 : Sta s s.heap "com/example/derivant/derivant/model/Formula$Kind" "IFF" "Lcom/example/derivant/derivant/model/Formula$Kind;" (.ref v7) := Sta.start ev7 (Or.inr ⟨(hw _ (List.mem_of_getElem? (i := 6) rfl)), (hw _ (List.mem_of_getElem? (i := 22) rfl))⟩)
  have E7 : Exa s s.heap v7 "com/example/derivant/derivant/model/Formula$Kind" := Exa.start ev7 n8
  obtain ⟨v8, ev8⟩ := exa_v n12
  have S8 : Sta s s.heap "com/example/derivant/derivant/model/Formula$Kind" "SOME_STATE" "Lcom/example/derivant/derivant/model/Formula$Kind;" (.ref v8) := Sta.start ev8 (Or.inr ⟨(hw _ (List.mem_of_getElem? (i := 6) rfl)), (hw _ (List.mem_of_getElem? (i := 26) rfl))⟩)
  have E8 : Exa s s.heap v8 "com/example/derivant/derivant/model/Formula$Kind" := Exa.start ev8 n12
  obtain ⟨v9, ev9⟩ := exa_v n14
  have S9 : Sta s s.heap "com/example/derivant/derivant/model/Formula$Kind" "EVERY_STATE" "Lcom/example/derivant/derivant/model/Formula$Kind;" (.ref v9) := Sta.start ev9 (Or.inr ⟨(hw _ (List.mem_of_getElem? (i := 6) rfl)), (hw _ (List.mem_of_getElem? (i := 28) rfl))⟩)
  have E9 : Exa s s.heap v9 "com/example/derivant/derivant/model/Formula$Kind" := Exa.start ev9 n14
  have F0 := Fld.start ((fld_at ev0).symm.trans (null_v n1))
  have F1 := Fld.start ((fld_at ev1).symm.trans (null_v n5))
  have F2 := Fld.start ((fld_at ev2).symm.trans (null_v n11))
  have F3 := Fld.start ((fld_at ev3).symm.trans (null_v n3))
  obtain ⟨y4, ey4⟩ := exa_v n7
  have F4 := Fld.start ((fld_at ev4).symm.trans ey4)
  obtain ⟨y5, ey5⟩ := exa_v n17
  have F5 := Fld.start ((fld_at ev5).symm.trans ey5)
  obtain ⟨y6, ey6⟩ := exa_v n18r
  have F6 := Fld.start ((fld_at ev6).symm.trans ey6)
  obtain ⟨y7, ey7⟩ := exa_v n9
  have F7 := Fld.start ((fld_at ev7).symm.trans ey7)
  have F8 := Fld.start ((fld_at ev8).symm.trans (null_v n13))
  have F9 := Fld.start ((fld_at ev9).symm.trans (null_v n15))
  obtain ⟨n, o, h1, h2, h3, _, L, rfl, ⟨rfl, N⟩, hq⟩ := rm0 l s _ hw tables_1 i0 (fun i => [v0, v1, v2, v3, v4, v5, v6, v7, v8, v9].getD i 0) s.heap s.heap.size (Nat.le_refl _) ⟨S0, S1, S2, S3, S4, S5, S6, S7, S8, S9⟩ (fun i hi => match i, hi with | 0, _ => E0 | 1, _ => E1 | 2, _ => E2 | 3, _ => E3 | 4, _ => E4 | 5, _ => E5 | 6, _ => E6 | 7, _ => E7 | 8, _ => E8 | 9, _ => E9 | i + 10, hi => absurd hi (by omega)) (fun i hi q => match i, hi, q with | 0, _, _ => F0 | 1, _, _ => F1 | 2, _, _ => F2 | 3, _, _ => F3 | 8, _, _ => F8 | 9, _, _ => F9 | 4, _, q => absurd q (by omega) | 5, _, q => absurd q (by omega) | 6, _, q => absurd q (by omega) | 7, _, q => absurd q (by omega) | i + 10, hi, _ => absurd hi (by omega)) (fun i hi q r => match i, q, r with | 4, _, _ => ⟨y4, F4⟩ | 5, _, _ => ⟨y5, F5⟩ | 6, _, _ => ⟨y6, F6⟩ | 7, _, _ => ⟨y7, F7⟩ | 0, q, _ => absurd q (by omega) | 1, q, _ => absurd q (by omega) | 2, q, _ => absurd q (by omega) | 3, q, _ => absurd q (by omega) | i + 8, _, r => absurd r (by omega)) p e ha hc hk s m _ below hf ((Spec.applies_iff_loose hf).mp happ).1 ⟨rfl, State.Warmed39.refl s, rfl⟩ trivial
  refine ⟨n, _, h1, h2, h3, hpost _ _ _ _ _ _ ⟨Cond.after_iff.mpr rfl, Cond.after_iff.mpr (eq_i res_at (Term.int_eval (1)) rfl), trivial⟩ ⟨hq.1, hq.2.1, (hq.2.2.sift fun y hy => Or.inr (N y hy)).mono (by decide) (by decide)⟩⟩
theorem main_1_1 : Claimed_1_1 := comes_1 fun _ _ _ _ _ _ h hF => ⟨h.1, hF⟩
theorem main_1_2 : Claimed_1_2 := comes_1 fun _ _ _ _ _ _ h hF => ⟨h.2.1, hF⟩
end Jvm.Pilot.@@N@@
namespace Jvm.Pilot.@@N@@
open Jvm Jvm.ClassFile Sem Op Lib Jvm.Free Jvm.Stand Jvm.Pilot.@@N@@.Jvm.D
/-! MADE BY PROGRAM (witnessworld.py) out of the Statement's table words and the real class files: 15 classes; the members and pool entries that the words name. The judged class is class 1, her method 1. -/
namespace start1
open Jvm.ClassFile
def u (s : String) : CpInfo := .utf8 (stringToUtf16 s)
/-- a pool by its gaps: so many unusable entries, then the entry; so many at the end -/
def gap : Nat → List CpInfo → List CpInfo
  | 0, r => r
  | n + 1, r => .unusable :: gap n r
def poolList (es : List (Nat × CpInfo)) (last : Nat) : List CpInfo := es.foldr (fun e r => gap e.1 (e.2 :: r)) (gap last [])
def pool (es : List (Nat × CpInfo)) (last : Nat) : Array CpInfo := ⟨poolList es last⟩
def fileOf (pool : Array CpInfo) (this : Nat) (attrs : Array Attribute := #[]) (ms : Array MethodInfo := #[]) (fl : Nat := 33) (sup : Nat := 0) (ifs : Array Nat := #[]) (fds : Array FieldInfo := #[]) : ClassFile where
  minorVersion := 0
  majorVersion := 65
  constantPool := pool
  accessFlags := fl
  thisClass := this
  superClass := sup
  interfaces := ifs
  fields := fds
  methods := ms
  attributes := attrs
def plain (name : String) (sup : Option ClassId) : Class where
  name := name
  kind := .ordinary
  loader := none
  accessFlags := 33
  super := sup
  interfaces := #[]
  cf := none
  fields := #[]
  methods := #[]
  instanceTypes := #[]
  staticTypes := #[]
  resolved := #[]
  callSites := []
  init := .initialized
  statics := none
  mirror := none

def pool0 : Array CpInfo := pool [(5, u "<init>"), (0, u "()V"), (1, .class_ 10), (1, u "java/lang/Object")] 113

def k0m0 : Method := { name := "<init>", desc := "()V", sig := { parameters := [], returnType := none }, accessFlags := 1, code := none }
/-- java/lang/Object -/
def k0 : Class := { plain "java/lang/Object" none with
  accessFlags := 33
  interfaces := #[]
  cf := some (fileOf pool0 8 #[] #[{ accessFlags := 1, nameIndex := 5, descriptorIndex := 6, attributes := #[] }] 33 0 #[] #[])
  fields := #[]
  methods := #[k0m0]
  instanceTypes := #[]
  staticTypes := #[]
  resolved := Array.replicate 124 none
  statics := none }

def pool1 : Array CpInfo := pool [(2, .class_ 4), (1, u "java/lang/Object"), (0, u "<init>"), (0, u "()V"), (0, .integer 2147483647), (0, .methodref 9 10), (0, .class_ 11), (0, .nameAndType 12 13), (0, u "com/example/derivant/derivant/model/KindIsBinaryPinLaw"), (0, u "pick"), (0, u "(I)Lcom/example/derivant/derivant/model/Formula$Kind;"), (0, .methodref 15 16), (0, .class_ 17), (0, .nameAndType 18 19), (0, u "com/example/derivant/derivant/model/Formula$Kind"), (0, u "isBinary"), (0, u "()Z"), (0, .fieldref 15 21), (0, .nameAndType 22 23), (0, u "TRUE"), (0, u "Lcom/example/derivant/derivant/model/Formula$Kind;"), (0, .fieldref 15 25), (0, .nameAndType 26 23), (0, u "FALSE"), (0, .fieldref 15 28), (0, .nameAndType 29 23), (0, u "LETTER"), (0, .fieldref 15 31), (0, .nameAndType 32 23), (0, u "NOT"), (0, .fieldref 15 34), (0, .nameAndType 35 23), (0, u "AND"), (0, .fieldref 15 37), (0, .nameAndType 38 23), (0, u "OR"), (0, .fieldref 15 40), (0, .nameAndType 41 23), (0, u "IMPLIES"), (0, .fieldref 15 43), (0, .nameAndType 44 23), (0, u "IFF"), (0, .fieldref 15 46), (0, .nameAndType 47 23), (0, u "SOME_STATE"), (0, .fieldref 15 49), (0, .nameAndType 50 23), (0, u "EVERY_STATE"), (2, u "law"), (0, u "(I)Z")] 7

def k1m0 : Method := { name := "<init>", desc := "()V", sig := { parameters := [], returnType := none }, accessFlags := 1, code := none }
def k1c1 : Code := { maxStack := 2, maxLocals := 4, code := code, exceptionTable := #[], attributes := #[] }
def k1m1 : Method := { name := "law", desc := "(I)Z", sig := { parameters := [.int], returnType := some .boolean }, accessFlags := 9, code := some k1c1 }
def k1c2 : Code := { maxStack := 2, maxLocals := 1, code := method_3_code, exceptionTable := #[], attributes := #[] }
def k1m2 : Method := { name := "pick", desc := "(I)Lcom/example/derivant/derivant/model/Formula$Kind;", sig := { parameters := [.int], returnType := some (.object "com/example/derivant/derivant/model/Formula$Kind") }, accessFlags := 10, code := some k1c2 }
/-- com/example/derivant/derivant/model/KindIsBinaryPinLaw -/
def k1 : Class := { plain "com/example/derivant/derivant/model/KindIsBinaryPinLaw" (some 0) with
  accessFlags := 49
  interfaces := #[]
  cf := some (fileOf pool1 9 #[] #[{ accessFlags := 1, nameIndex := 5, descriptorIndex := 6, attributes := #[] }, { accessFlags := 9, nameIndex := 53, descriptorIndex := 54, attributes := #[] }, { accessFlags := 10, nameIndex := 12, descriptorIndex := 13, attributes := #[] }] 49 2 #[] #[])
  fields := #[]
  methods := #[k1m0, k1m1, k1m2]
  instanceTypes := #[]
  staticTypes := #[]
  resolved := Array.replicate 62 none
  statics := none }

def pool2 : Array CpInfo := pool [(1, .class_ 2), (0, u "java/lang/constant/Constable"), (0, .class_ 4), (0, u "java/lang/Object")] 6

/-- java/lang/constant/Constable -/
def k2 : Class := { plain "java/lang/constant/Constable" (some 0) with
  accessFlags := 1537
  interfaces := #[]
  cf := some (fileOf pool2 1 #[] #[] 1537 3 #[] #[])
  fields := #[]
  methods := #[]
  instanceTypes := #[]
  staticTypes := #[]
  resolved := Array.replicate 11 none
  statics := none }

def pool3 : Array CpInfo := pool [(1, .class_ 2), (0, u "java/lang/Comparable"), (0, .class_ 4), (0, u "java/lang/Object")] 7

/-- java/lang/Comparable -/
def k3 : Class := { plain "java/lang/Comparable" (some 0) with
  accessFlags := 1537
  interfaces := #[]
  cf := some (fileOf pool3 1 #[] #[] 1537 3 #[] #[])
  fields := #[]
  methods := #[]
  instanceTypes := #[]
  staticTypes := #[]
  resolved := Array.replicate 12 none
  statics := none }

def pool4 : Array CpInfo := pool [(1, .class_ 2), (0, u "java/io/Serializable"), (0, .class_ 4), (0, u "java/lang/Object")] 2

/-- java/io/Serializable -/
def k4 : Class := { plain "java/io/Serializable" (some 0) with
  accessFlags := 1537
  interfaces := #[]
  cf := some (fileOf pool4 1 #[] #[] 1537 3 #[] #[])
  fields := #[]
  methods := #[]
  instanceTypes := #[]
  staticTypes := #[]
  resolved := Array.replicate 7 none
  statics := none }

def pool5 : Array CpInfo := pool [(2, .class_ 4), (1, u "java/lang/Enum"), (0, u "name"), (0, u "Ljava/lang/String;"), (2, u "ordinal"), (0, u "I"), (1, .class_ 14), (1, u "java/lang/Object"), (4, u "hash"), (86, .class_ 108), (1, u "java/lang/Enum$EnumDesc"), (2, .class_ 112), (0, u "java/lang/constant/Constable"), (0, .class_ 114), (0, u "java/lang/Comparable"), (0, .class_ 116), (0, u "java/io/Serializable")] 87

/-- java/lang/Enum -/
def k5 : Class := { plain "java/lang/Enum" (some 0) with
  accessFlags := 1057
  interfaces := #[2, 3, 4]
  cf := some (fileOf pool5 2 #[.nestMembers #[106]] #[] 1057 12 #[111, 113, 115] #[{ accessFlags := 18, nameIndex := 5, descriptorIndex := 6, attributes := #[] }, { accessFlags := 18, nameIndex := 9, descriptorIndex := 10, attributes := #[] }, { accessFlags := 2, nameIndex := 19, descriptorIndex := 10, attributes := #[] }])
  fields := #[{ name := "name", type := (.object "java/lang/String"), accessFlags := 18, slot := 0, constantValue := 0 }, { name := "ordinal", type := .int, accessFlags := 18, slot := 1, constantValue := 0 }, { name := "hash", type := .int, accessFlags := 2, slot := 2, constantValue := 0 }]
  methods := #[]
  instanceTypes := #[(.object "java/lang/String"), .int, .int]
  staticTypes := #[]
  resolved := Array.replicate 204 none
  statics := none }

def pool6 : Array CpInfo := pool [(1, .class_ 2), (0, u "com/example/derivant/derivant/model/Formula$Kind"), (2, u "TRUE"), (0, u "Lcom/example/derivant/derivant/model/Formula$Kind;"), (2, u "FALSE"), (2, u "LETTER"), (2, u "NOT"), (2, u "AND"), (2, u "OR"), (2, u "IMPLIES"), (2, u "IFF"), (2, u "SOME_STATE"), (2, u "EVERY_STATE"), (2, u "$VALUES"), (0, u "[Lcom/example/derivant/derivant/model/Formula$Kind;"), (6, .class_ 46), (1, u "java/lang/Enum"), (9, .fieldref 1 57), (0, .nameAndType 58 59), (0, u "symbol"), (0, u "Ljava/lang/String;"), (2, u "binding"), (0, u "I"), (34, u "isBinary"), (0, u "()Z"), (12, .class_ 113), (0, u "com/example/derivant/derivant/model/Formula")] 2

def k6c0 : Code := { maxStack := 1, maxLocals := 1, code := prog_22_method_5_code, exceptionTable := #[], attributes := #[] }
def k6m0 : Method := { name := "isBinary", desc := "()Z", sig := { parameters := [], returnType := some .boolean }, accessFlags := 1, code := some k6c0 }
/-- com/example/derivant/derivant/model/Formula$Kind -/
def k6 : Class := { plain "com/example/derivant/derivant/model/Formula$Kind" (some 5) with
  accessFlags := 16433
  interfaces := #[]
  cf := some (fileOf pool6 1 #[.nestHost 112] #[{ accessFlags := 1, nameIndex := 98, descriptorIndex := 99, attributes := #[] }] 16433 44 #[] #[{ accessFlags := 16409, nameIndex := 5, descriptorIndex := 6, attributes := #[] }, { accessFlags := 16409, nameIndex := 9, descriptorIndex := 6, attributes := #[] }, { accessFlags := 16409, nameIndex := 12, descriptorIndex := 6, attributes := #[] }, { accessFlags := 16409, nameIndex := 15, descriptorIndex := 6, attributes := #[] }, { accessFlags := 16409, nameIndex := 18, descriptorIndex := 6, attributes := #[] }, { accessFlags := 16409, nameIndex := 21, descriptorIndex := 6, attributes := #[] }, { accessFlags := 16409, nameIndex := 24, descriptorIndex := 6, attributes := #[] }, { accessFlags := 16409, nameIndex := 27, descriptorIndex := 6, attributes := #[] }, { accessFlags := 16409, nameIndex := 30, descriptorIndex := 6, attributes := #[] }, { accessFlags := 16409, nameIndex := 33, descriptorIndex := 6, attributes := #[] }, { accessFlags := 18, nameIndex := 58, descriptorIndex := 59, attributes := #[] }, { accessFlags := 18, nameIndex := 62, descriptorIndex := 63, attributes := #[] }, { accessFlags := 4122, nameIndex := 36, descriptorIndex := 37, attributes := #[] }])
  fields := #[{ name := "TRUE", type := (.object "com/example/derivant/derivant/model/Formula$Kind"), accessFlags := 16409, slot := 0, constantValue := 0 }, { name := "FALSE", type := (.object "com/example/derivant/derivant/model/Formula$Kind"), accessFlags := 16409, slot := 1, constantValue := 0 }, { name := "LETTER", type := (.object "com/example/derivant/derivant/model/Formula$Kind"), accessFlags := 16409, slot := 2, constantValue := 0 }, { name := "NOT", type := (.object "com/example/derivant/derivant/model/Formula$Kind"), accessFlags := 16409, slot := 3, constantValue := 0 }, { name := "AND", type := (.object "com/example/derivant/derivant/model/Formula$Kind"), accessFlags := 16409, slot := 4, constantValue := 0 }, { name := "OR", type := (.object "com/example/derivant/derivant/model/Formula$Kind"), accessFlags := 16409, slot := 5, constantValue := 0 }, { name := "IMPLIES", type := (.object "com/example/derivant/derivant/model/Formula$Kind"), accessFlags := 16409, slot := 6, constantValue := 0 }, { name := "IFF", type := (.object "com/example/derivant/derivant/model/Formula$Kind"), accessFlags := 16409, slot := 7, constantValue := 0 }, { name := "SOME_STATE", type := (.object "com/example/derivant/derivant/model/Formula$Kind"), accessFlags := 16409, slot := 8, constantValue := 0 }, { name := "EVERY_STATE", type := (.object "com/example/derivant/derivant/model/Formula$Kind"), accessFlags := 16409, slot := 9, constantValue := 0 }, { name := "symbol", type := (.object "java/lang/String"), accessFlags := 18, slot := 3, constantValue := 0 }, { name := "binding", type := .int, accessFlags := 18, slot := 4, constantValue := 0 }, { name := "$VALUES", type := (.array (.object "com/example/derivant/derivant/model/Formula$Kind")), accessFlags := 4122, slot := 10, constantValue := 0 }]
  methods := #[k6m0]
  instanceTypes := #[(.object "java/lang/String"), .int, .int, (.object "java/lang/String"), .int]
  staticTypes := #[(.object "com/example/derivant/derivant/model/Formula$Kind"), (.object "com/example/derivant/derivant/model/Formula$Kind"), (.object "com/example/derivant/derivant/model/Formula$Kind"), (.object "com/example/derivant/derivant/model/Formula$Kind"), (.object "com/example/derivant/derivant/model/Formula$Kind"), (.object "com/example/derivant/derivant/model/Formula$Kind"), (.object "com/example/derivant/derivant/model/Formula$Kind"), (.object "com/example/derivant/derivant/model/Formula$Kind"), (.object "com/example/derivant/derivant/model/Formula$Kind"), (.object "com/example/derivant/derivant/model/Formula$Kind"), (.array (.object "com/example/derivant/derivant/model/Formula$Kind"))]
  resolved := Array.replicate 116 none
  statics := some 0 }

def pool7 : Array CpInfo := pool [(2, .class_ 4), (1, u "java/lang/CharSequence"), (42, .class_ 48), (0, u "java/lang/CharSequence$1CodePointIterator"), (10, .class_ 60), (0, u "java/lang/CharSequence$1CharIterator"), (5, .class_ 67), (0, u "java/lang/Object")] 63

/-- java/lang/CharSequence -/
def k7 : Class := { plain "java/lang/CharSequence" (some 0) with
  accessFlags := 1537
  interfaces := #[]
  cf := some (fileOf pool7 2 #[.nestMembers #[47, 59]] #[] 1537 66 #[] #[])
  fields := #[]
  methods := #[]
  instanceTypes := #[]
  staticTypes := #[]
  resolved := Array.replicate 131 none
  statics := none }

def pool8 : Array CpInfo := pool [(1, .class_ 2), (0, u "java/lang/constant/ConstantDesc"), (0, .class_ 4), (0, u "java/lang/Object")] 32

/-- java/lang/constant/ConstantDesc -/
def k8 : Class := { plain "java/lang/constant/ConstantDesc" (some 0) with
  accessFlags := 1537
  interfaces := #[]
  cf := some (fileOf pool8 1 #[] #[] 1537 3 #[] #[])
  fields := #[]
  methods := #[]
  instanceTypes := #[]
  staticTypes := #[]
  resolved := Array.replicate 37 none
  statics := none }

def pool9 : Array CpInfo := pool [(2, .class_ 4), (1, u "java/lang/Object"), (0, u "<init>"), (0, u "()V"), (3, .class_ 12), (1, u "java/lang/String"), (0, u "value"), (0, u "[B"), (2, u "coder"), (0, u "B"), (2, u "hash"), (0, u "I"), (2, u "hashIsZero"), (0, u "Z"), (13, u "COMPACT_STRINGS"), (534, .class_ 576), (0, u "java/lang/CharSequence"), (22, u "CASE_INSENSITIVE_ORDER"), (0, u "Ljava/util/Comparator;"), (500, u "serialPersistentFields"), (0, u "[Ljava/io/ObjectStreamField;"), (0, .class_ 1104), (0, u "java/lang/String$CaseInsensitiveComparator"), (1, .class_ 1107), (0, u "java/io/Serializable"), (0, .class_ 1109), (0, u "java/lang/Comparable"), (0, .class_ 1111), (0, u "java/lang/constant/Constable"), (0, .class_ 1113), (0, u "java/lang/constant/ConstantDesc"), (2, u "serialVersionUID"), (0, u "J"), (3, u "REPL"), (0, u "C"), (2, u "LATIN1"), (1, u "UTF16")] 323

def k9m0 : Method := { name := "<init>", desc := "()V", sig := { parameters := [], returnType := none }, accessFlags := 1, code := none }
/-- java/lang/String -/
def k9 : Class := { plain "java/lang/String" (some 0) with
  accessFlags := 49
  interfaces := #[4, 3, 7, 2, 8]
  cf := some (fileOf pool9 10 #[.nestMembers #[1103]] #[{ accessFlags := 1, nameIndex := 5, descriptorIndex := 6, attributes := #[] }] 49 2 #[1106, 1108, 575, 1110, 1112] #[{ accessFlags := 18, nameIndex := 13, descriptorIndex := 14, attributes := #[] }, { accessFlags := 18, nameIndex := 17, descriptorIndex := 18, attributes := #[] }, { accessFlags := 2, nameIndex := 21, descriptorIndex := 22, attributes := #[] }, { accessFlags := 2, nameIndex := 25, descriptorIndex := 26, attributes := #[] }, { accessFlags := 26, nameIndex := 1116, descriptorIndex := 1117, attributes := #[] }, { accessFlags := 24, nameIndex := 40, descriptorIndex := 26, attributes := #[] }, { accessFlags := 26, nameIndex := 1101, descriptorIndex := 1102, attributes := #[] }, { accessFlags := 26, nameIndex := 1121, descriptorIndex := 1122, attributes := #[] }, { accessFlags := 25, nameIndex := 599, descriptorIndex := 600, attributes := #[] }, { accessFlags := 24, nameIndex := 1125, descriptorIndex := 18, attributes := #[] }, { accessFlags := 24, nameIndex := 1127, descriptorIndex := 18, attributes := #[] }])
  fields := #[{ name := "value", type := (.array .byte), accessFlags := 18, slot := 0, constantValue := 0 }, { name := "coder", type := .byte, accessFlags := 18, slot := 1, constantValue := 0 }, { name := "hash", type := .int, accessFlags := 2, slot := 2, constantValue := 0 }, { name := "hashIsZero", type := .boolean, accessFlags := 2, slot := 3, constantValue := 0 }, { name := "serialVersionUID", type := .long, accessFlags := 26, slot := 0, constantValue := 0 }, { name := "COMPACT_STRINGS", type := .boolean, accessFlags := 24, slot := 1, constantValue := 0 }, { name := "serialPersistentFields", type := (.array (.object "java/io/ObjectStreamField")), accessFlags := 26, slot := 2, constantValue := 0 }, { name := "REPL", type := .char, accessFlags := 26, slot := 3, constantValue := 0 }, { name := "CASE_INSENSITIVE_ORDER", type := (.object "java/util/Comparator"), accessFlags := 25, slot := 4, constantValue := 0 }, { name := "LATIN1", type := .byte, accessFlags := 24, slot := 5, constantValue := 0 }, { name := "UTF16", type := .byte, accessFlags := 24, slot := 6, constantValue := 0 }]
  methods := #[k9m0]
  instanceTypes := #[(.array .byte), .byte, .int, .boolean]
  staticTypes := #[.long, .boolean, (.array (.object "java/io/ObjectStreamField")), .char, (.object "java/util/Comparator"), .byte, .byte]
  resolved := Array.replicate 1451 none
  statics := none }

def pool10 : Array CpInfo := pool [(1, u "java/lang/Cloneable"), (0, .class_ 1), (0, u "java/lang/Object"), (0, .class_ 3)] 3

/-- java/lang/Cloneable -/
def k10 : Class := { plain "java/lang/Cloneable" (some 0) with
  accessFlags := 1537
  interfaces := #[]
  cf := some (fileOf pool10 2 #[] #[] 1537 4 #[] #[])
  fields := #[]
  methods := #[]
  instanceTypes := #[]
  staticTypes := #[]
  resolved := Array.replicate 8 none
  statics := none }

/-- the primitive byte -/
def k11 : Class := { plain "byte" none with kind := .primitive 'B', accessFlags := 0x411 }
/-- [B -/
def k12 : Class := { plain "[B" (some 0) with kind := .array 11 .byte, interfaces := #[10, 4], accessFlags := 1041 }

/-- the primitive int -/
def k13 : Class := { plain "int" none with kind := .primitive 'I', accessFlags := 0x411 }
/-- [I -/
def k14 : Class := { plain "[I" (some 0) with kind := .array 13 .int, interfaces := #[10, 4], accessFlags := 1041 }

def heap : Heap := #[{ cls := 6, slots := #[.ref 1, .ref 2, .ref 3, .ref 4, .ref 5, .ref 6, .ref 7, .ref 8, .ref 9, .ref 10, .null], vm := .statics 6 },
  { cls := 6, slots := #[.null, .int 0, .int 0, .null, .int 0], vm := .none },
  { cls := 6, slots := #[.null, .int 1, .int 0, .null, .int 0], vm := .none },
  { cls := 6, slots := #[.null, .int 2, .int 0, .null, .int 0], vm := .none },
  { cls := 6, slots := #[.null, .int 3, .int 0, .null, .int 0], vm := .none },
  { cls := 6, slots := #[.null, .int 4, .int 0, .ref 11, .int 0], vm := .none },
  { cls := 6, slots := #[.null, .int 5, .int 0, .ref 11, .int 0], vm := .none },
  { cls := 6, slots := #[.null, .int 6, .int 0, .ref 11, .int 0], vm := .none },
  { cls := 6, slots := #[.null, .int 7, .int 0, .ref 11, .int 0], vm := .none },
  { cls := 6, slots := #[.null, .int 8, .int 0, .null, .int 0], vm := .none },
  { cls := 6, slots := #[.null, .int 9, .int 0, .null, .int 0], vm := .none },
  { cls := 9, slots := #[.null, .int 0, .int 0, .int 0], vm := .none }]
def classes : Array Class := #[k0, k1, k2, k3, k4, k5, k6, k7, k8, k9, k10, k11, k12, k13, k14]
def interned : List (Array UInt16 × Addr) := []
def slotsUsed : Nat := 65
def theMethod : MethodId := ⟨1, 1⟩
def args0 : Array Value := #[.int 5]
def aboutOver (below : List Frame) : State where
  vm := { classes := classes, interned := interned.toArray }
  heap := heap
  slotsUsed := slotsUsed
  threads := #[{ frames := .invoking theMethod args0 :: below }]
def below0 : List Frame := [.native { method := ⟨0, 0⟩, args := #[] }]
def about1 : State := aboutOver below0
def p0 : Program := .bare "" "" ""
def e0 : Env := launch0.env 0 0 0
theorem w_frames : about1.frames = Frame.invoking theMethod args0 :: below0 := rfl
set_option maxRecDepth 65536 in
theorem w_args : argsFit about1.vm theMethod args0 = true := by decide +kernel
set_option maxRecDepth 65536 in
theorem w_heap : heapFits about1 = true := by decide +kernel
set_option maxRecDepth 65536 in
theorem w_runnable : about1.curStatus? = some .runnable := by decide +kernel
set_option maxRecDepth 65536 in
theorem w_alone : about1.alone = true := by decide +kernel
set_option maxRecDepth 65536 in
theorem w_named : about1.methodNamed? x = some theMethod := by decide +kernel
set_option maxRecDepth 65536 in
theorem w_hears : about1.hears theMethod below0 = true := by decide +kernel
set_option maxRecDepth 65536 in
theorem w_ripe : about1.ripe theMethod args0 below0 = true := by decide +kernel
theorem w_running : about1.status = .running := rfl
set_option maxRecDepth 65536 in
theorem w_room : about1.hasRoom e0.platform room_1 = true :=
  launch0.hasRoom_least _ room_1 (by decide +kernel) (by decide +kernel) (by decide +kernel) (by decide +kernel) (by decide +kernel) (by decide +kernel)
theorem allAtoms_all (ts : List Jvm.Cond) (a : Array Jvm.Value) (st : Jvm.State) : (allAtoms ts).before a st = ts.all (fun c => c.before a st) := by
  induction ts with
  | nil => rfl
  | cons c t ih =>
    show (Jvm.Cond.and c (allAtoms t)).before a st = _
    rw [Jvm.Cond.before_and, ih, List.all_cons]
def words1 : List Jvm.Cond := Jvm.Cond.code x code maxLocals ret :: tables_1
/-- a 'code' word, met by the world's own term for the bytes: nothing is compared byte by byte -/
theorem code_word {y : MethodName} {bytes : ByteArray} {mx : Nat} {rt : Option FieldType} {a : Array Value} {s : State} {m : MethodId} {meth : Method} {c : Code} (h1 : s.methodNamed? y = some m) (h2 : s.vm.method? m = some meth) (h3 : meth.code = some c) (h4 : c.code = bytes)
    (h5 : (c.maxLocals == mx && c.exceptionTable.isEmpty && decide (c.maxStack ≤ mostOperands) && decide (meth.sig.returnType = rt) && !meth.locks && decide (parseMethodDescriptor y.desc = some meth.sig)) = true) : (Jvm.Cond.code y bytes mx rt).before a s = true := by
  simp only [Bool.and_eq_true, beq_iff_eq, Bool.not_eq_true', decide_eq_true_eq] at h5
  obtain ⟨⟨⟨⟨⟨g1, g2⟩, g3⟩, g4⟩, g5⟩, g6⟩ := h5
  simp [Cond.before, Cond.holds, Cond.value, h1, h2, h3, h4, g1, g2, g3, g4, g5, g6]
def isCode : Jvm.Cond → Bool
  | .code _ _ _ _ => true
  | _ => false
theorem all_split {L : List Jvm.Cond} {P : Jvm.Cond → Bool} (h1 : L.all (fun c => isCode c || P c) = true) (h2 : ∀ c ∈ L.filter isCode, P c = true) : L.all P = true := by
  refine List.all_eq_true.mpr fun c hc => ?_
  have h := List.all_eq_true.mp h1 c hc
  rcases Bool.eq_false_or_eq_true (isCode c) with hi | hi
  · exact h2 c (List.mem_filter.mpr ⟨hc, hi⟩)
  · simpa [hi] using h
set_option maxRecDepth 65536 in
theorem w_c0 : (Jvm.Cond.code x code maxLocals ret).before args0 about1 = true := code_word (m := ⟨1, 1⟩) (meth := k1m1) (c := k1c1) (by decide +kernel) rfl rfl rfl (by decide +kernel)
set_option maxRecDepth 65536 in
theorem w_c1 : (Jvm.Cond.code ({ cls := "com/example/derivant/derivant/model/KindIsBinaryPinLaw", name := "pick", desc := "(I)Lcom/example/derivant/derivant/model/Formula$Kind;" } : Jvm.MethodName) method_3_code (1 : Nat) (Option.some (Jvm.ClassFile.FieldType.object "com/example/derivant/derivant/model/Formula$Kind"))).before args0 about1 = true := code_word (m := ⟨1, 2⟩) (meth := k1m2) (c := k1c2) (by decide +kernel) rfl rfl rfl (by decide +kernel)
set_option maxRecDepth 65536 in
theorem w_c2 : (Jvm.Cond.code ({ cls := "com/example/derivant/derivant/model/Formula$Kind", name := "isBinary", desc := "()Z" } : Jvm.MethodName) prog_22_method_5_code (1 : Nat) (Option.some Jvm.ClassFile.FieldType.boolean)).before args0 about1 = true := code_word (m := ⟨6, 0⟩) (meth := k6m0) (c := k6c0) (by decide +kernel) rfl rfl rfl (by decide +kernel)
def codes1 : List Jvm.Cond := [Jvm.Cond.code x code maxLocals ret, Jvm.Cond.code ({ cls := "com/example/derivant/derivant/model/KindIsBinaryPinLaw", name := "pick", desc := "(I)Lcom/example/derivant/derivant/model/Formula$Kind;" } : Jvm.MethodName) method_3_code (1 : Nat) (Option.some (Jvm.ClassFile.FieldType.object "com/example/derivant/derivant/model/Formula$Kind")), Jvm.Cond.code ({ cls := "com/example/derivant/derivant/model/Formula$Kind", name := "isBinary", desc := "()Z" } : Jvm.MethodName) prog_22_method_5_code (1 : Nat) (Option.some Jvm.ClassFile.FieldType.boolean)]
set_option maxRecDepth 65536 in
theorem codes_eq : words1.filter isCode = codes1 := rfl
theorem w_codes : ∀ c ∈ words1.filter isCode, c.before args0 about1 = true := by
  rw [codes_eq]
  intro c hc
  simp only [codes1, List.mem_cons, List.not_mem_nil, or_false] at hc
  rcases hc with rfl | rfl | rfl
  · exact w_c0
  · exact w_c1
  · exact w_c2
set_option maxRecDepth 65536 in
theorem w_t1 : (words1.take 24).all (fun c => isCode c || c.before args0 about1) = true := by decide +kernel
set_option maxRecDepth 65536 in
theorem w_t2 : (words1.drop 24).all (fun c => isCode c || c.before args0 about1) = true := by decide +kernel
theorem w_tables : (allAtoms (Jvm.Cond.code x code maxLocals ret :: tables_1)).before args0 about1 = true := by
  rw [allAtoms_all]
  show words1.all (fun c => c.before args0 about1) = true
  refine all_split ?_ w_codes
  rw [← List.take_append_drop 24 words1, List.all_append, w_t1, w_t2]
  rfl
set_option maxRecDepth 65536 in
theorem w_case : (Jvm.Cond.and given_1 narrow_1).before args0 about1 = true := by decide +kernel
theorem w_applies : (headSpec (Jvm.Cond.code x code maxLocals ret :: tables_1) room_1).applies x e0.platform about1 = true :=
  (Spec.applies_iff w_frames).mpr ⟨w_running, w_runnable, w_alone, w_named, w_hears, w_ripe, w_room, w_tables⟩
theorem atStart : AtStart classFile x code maxLocals ret World_1 tables_1 room_1 Calls_1 rest_1 Pre_1 launch0 p0 e0 about1 theMethod args0 below0 :=
  ⟨lists_1, trivial, launch0.admits_env _ _ _, launch0.least_env, fairChoices_fair.cas, fairChoices_fair.clock, w_frames, w_args, w_heap, w_applies, trivial, trivial, w_case⟩
end start1
theorem witness_1 : WitnessClaimed_1 := ⟨start1.p0, start1.e0, start1.about1, start1.theMethod, start1.args0, start1.below0, start1.atStart⟩
end Jvm.Pilot.@@N@@
