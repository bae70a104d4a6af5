import JvmDerived
import JvmDerived.Pilot.@@N@@Statement
import JvmDerived.Pilot.@@N@@Code
set_option linter.unusedVariables false
set_option linter.unusedSimpArgs false
@@BLOCK:NumsL.lean.txt@@
namespace Jvm.Pilot.@@N@@
open Jvm Jvm.ClassFile Sem Op Lib Jvm.Free Jvm.Stand Jvm.LawKit Jvm.RoadKit Bundle Jvm.Pilot.@@N@@.Jvm.D
/-- what a body leaves that writes nothing: its value, no place written, the heap as it was -/
def QP (val : Value) (h0 : Heap) (n0 : Nat) (v : Option Value) (h : Heap) (L : List Loc) : Prop := v = some val ∧ Fr n0 L ∧ h = h0
/-- what the law leaves: true -/
def Q1 (n0 : Nat) (v : Option Value) (h : Heap) (L : List Loc) : Prop := v = some (.int 1) ∧ Fr n0 L
theorem own_eq_int {args : Array Value} {s : State} {t : Term} {k : Int32} (h : (Jvm.Cond.eq t (.int k)).value args s none s [] = some true) : t.eval args s none [] s = some (.int k) := by
  simp only [Cond.value, Term.eval] at h
  cases ht : t.eval args s none [] s with
  | none => simp [ht] at h
  | some x => cases x <;> simp [ht] at h ⊢; exact h
theorem own_fld {args : Array Value} {s : State} {t : Term} {a : Addr} {C n d : String} {k : Int32} (ev : t.eval args s none [] s = some (.ref a)) (h : (Jvm.Cond.eq (.field t C n d) (.int k)).value args s none s [] = some true) : Fld s s.heap a C n d (.int k) :=
  Fld.start ((fld_at ev).symm.trans (own_eq_int h))
theorem own_toInt32_inj {i j : Nat} (hi : i < 2 ^ 31) (hj : j < 2 ^ 31) (h : i.toInt32 = j.toInt32) : i = j := by
  have := congrArg Int32.toInt h
  rw [len_toInt hi, len_toInt hj] at this
  omega
theorem own_inj {Z : State} {h : Heap} {w : Nat → Addr} {n : Nat} (hn : n < 2 ^ 31) (F : ∀ i, i < n → Fld Z h (w i) "java/lang/Enum" "ordinal" "I" (.int i.toInt32)) : ∀ i j, i < n → j < n → w i = w j → i = j := fun i j hi hj e => by
  by_cases q : i = j
  · exact q
  · exact absurd e (Fld.ne (F i hi) (F j hj) fun h => q (own_toInt32_inj (by omega) (by omega) (Value.int.inj h)))
theorem own_i32 {i : Int32} {N : Nat} (hN : N < 2 ^ 31) (h0 : 0 ≤ i.toInt) (h1 : i.toInt < N) : ∃ k : Nat, k < N ∧ i = k.toInt32 := by
  refine ⟨i.toInt.toNat, by omega, Int32.toInt_inj.mp ?_⟩
  rw [len_toInt (by omega)]
  omega
theorem own_mod (x n : Int32) (N : Nat) (hN : n.toInt = N) (h : 0 < N) : ∃ k : Nat, k < N ∧ (x &&& (2147483647 : Int32)) % n = k.toInt32 := by
  have e1 : (x &&& (2147483647 : Int32)).toInt = x.toInt % 2 ^ 31 := Jvm.Kit.i32_mask x 2147483647 (k := 31) (by decide) (by decide)
  have e2 : ((x &&& (2147483647 : Int32)) % n).toInt = (x &&& (2147483647 : Int32)).toInt % n.toInt := Jvm.Kit.i32_rem_nonneg (by omega)
  have hlt := n.toInt_lt
  have h3 : 0 ≤ (x &&& (2147483647 : Int32)).toInt % n.toInt := Int.emod_nonneg _ (by omega)
  have h4 : (x &&& (2147483647 : Int32)).toInt % n.toInt < n.toInt := Int.emod_lt_of_pos _ (by omega)
  exact own_i32 (by omega) (by omega) (by omega)
theorem own_mask (x n : Int32) {k : Nat} (hk : k < 31) (hm : n.toBitVec.toNat = 2 ^ k - 1) : ∃ j : Nat, j < 2 ^ k ∧ x &&& n = j.toInt32 := by
  have e1 : (x &&& n).toInt = x.toInt % 2 ^ k := Jvm.Kit.i32_mask x n (k := k) (by omega) hm
  have hp : (2 : Nat) ^ k < 2 ^ 31 := Nat.pow_lt_pow_right (by decide) hk
  have hp1 : (0 : Int) < 2 ^ k := Int.pow_pos (by decide)
  have h3 : 0 ≤ x.toInt % 2 ^ k := Int.emod_nonneg _ (by omega)
  have h4 : x.toInt % 2 ^ k < 2 ^ k := Int.emod_lt_of_pos _ hp1
  refine own_i32 hp (by rw [e1]; exact h3) (by rw [e1]; push_cast; exact h4)
theorem own_lt_irrefl {a b : Int64} (h : a = b) : ¬ a < b ∧ ¬ b < a := by subst h; simp [Int64.lt_irrefl]
theorem own_lt_asymm {a b : Int64} (h : a < b) : ¬ b < a := Int64.lt_asymm h
theorem own_lt_total {a b : Int64} (h1 : ¬ a = b) (h2 : ¬ a < b) : b < a := by
  rw [Int64.lt_iff_toInt_lt] at h2 ⊢; rw [← Int64.toInt_inj] at h1; omega
def STA (Z : State) (h : Heap) (w : Nat → Addr) : Prop := Sta Z h "com/example/pledgeline/pledgeline/Value$Truth" "TRUE" "Lcom/example/pledgeline/pledgeline/Value$Truth;" (.ref (w 0)) ∧ Sta Z h "com/example/pledgeline/pledgeline/Value$Truth" "FALSE" "Lcom/example/pledgeline/pledgeline/Value$Truth;" (.ref (w 1)) ∧ Sta Z h "com/example/pledgeline/pledgeline/Value$Truth" "UNKNOWN" "Lcom/example/pledgeline/pledgeline/Value$Truth;" (.ref (w 2))
def own_pk (i : Int32) : Nat := if i = 0 then 1 else if i = 1 then 2 else 0
def own_rk (w : Nat → Addr) (a : Addr) : Int32 := if a = w 1 then 0 else if a = w 2 then 1 else if a = w 0 then 2 else -1
def own_an (w : Nat → Addr) (a b : Addr) : Addr := if a = w 1 then w 1 else if b = w 1 then w 1 else if a = w 0 then (if b = w 0 then w 0 else w 2) else w 2
def own_mn (a b : Int32) : Int32 := if b < a then b else a
theorem own_pk_lt (i : Int32) : own_pk i < 3 := by unfold own_pk; split <;> (try split) <;> decide
theorem own_law {w : Nat → Addr} (INJ : ∀ i j, i < 3 → j < 3 → w i = w j → i = j) {i j : Nat} (hi : i < 3) (hj : j < 3) : own_rk w (own_an w (w i) (w j)) = own_mn (own_rk w (w i)) (own_rk w (w j)) := by
  have n01 : ¬ w 0 = w 1 := fun q => absurd (INJ 0 1 (by decide) (by decide) q) (by decide)
  have n02 : ¬ w 0 = w 2 := fun q => absurd (INJ 0 2 (by decide) (by decide) q) (by decide)
  have n12 : ¬ w 1 = w 2 := fun q => absurd (INJ 1 2 (by decide) (by decide) q) (by decide)
  have n10 : ¬ w 1 = w 0 := fun q => n01 q.symm
  have n20 : ¬ w 2 = w 0 := fun q => n02 q.symm
  have n21 : ¬ w 2 = w 1 := fun q => n12 q.symm
  match i, hi, j, hj with
  | 0, _, 0, _ => simp [own_rk, own_an, own_mn, n01, n02, n12, n10, n20, n21]
  | 0, _, 1, _ => simp [own_rk, own_an, own_mn, n01, n02, n12, n10, n20, n21]
  | 0, _, 2, _ => simp [own_rk, own_an, own_mn, n01, n02, n12, n10, n20, n21]
  | 1, _, 0, _ => simp [own_rk, own_an, own_mn, n01, n02, n12, n10, n20, n21]
  | 1, _, 1, _ => simp [own_rk, own_an, own_mn, n01, n02, n12, n10, n20, n21]
  | 1, _, 2, _ => simp [own_rk, own_an, own_mn, n01, n02, n12, n10, n20, n21]
  | 2, _, 0, _ => simp [own_rk, own_an, own_mn, n01, n02, n12, n10, n20, n21]
  | 2, _, 1, _ => simp [own_rk, own_an, own_mn, n01, n02, n12, n10, n20, n21]
  | 2, _, 2, _ => simp [own_rk, own_an, own_mn, n01, n02, n12, n10, n20, n21]
  | i + 3, hi, _, _ => exact absurd hi (by omega)
  | _, _, j + 3, hj => exact absurd hj (by omega)
theorem own_pd_0 : parseMethodDescriptor "(I)Lcom/example/pledgeline/pledgeline/Value$Truth;" = some ⟨[.int], some (.object "com/example/pledgeline/pledgeline/Value$Truth")⟩ := by decide +kernel
theorem own_pd_1 : parseMethodDescriptor "(Lcom/example/pledgeline/pledgeline/Value$Truth;)Lcom/example/pledgeline/pledgeline/Value$Truth;" = some ⟨[(.object "com/example/pledgeline/pledgeline/Value$Truth")], some (.object "com/example/pledgeline/pledgeline/Value$Truth")⟩ := by decide +kernel
theorem own_pd_2 : parseMethodDescriptor "(Lcom/example/pledgeline/pledgeline/Value$Truth;)I" = some ⟨[(.object "com/example/pledgeline/pledgeline/Value$Truth")], some .int⟩ := by decide +kernel
theorem own_pd_3 : parseMethodDescriptor "(II)I" = some ⟨[.int, .int], some .int⟩ := by decide +kernel
theorem own_d1_0 : decode method_2_code 0 = .ok (.iload_n 0, 1) := by decide +kernel
theorem own_d1_1 : decode method_2_code 1 = .ok (.ldc 7, 2) := by decide +kernel
theorem own_d1_3 : decode method_2_code 3 = .ok (.iand, 1) := by decide +kernel
theorem own_d1_4 : decode method_2_code 4 = .ok (.iconst 3, 1) := by decide +kernel
theorem own_d1_5 : decode method_2_code 5 = .ok (.irem, 1) := by decide +kernel
theorem own_d1_6 : decode method_2_code 6 = .ok (.istore_n 1, 1) := by decide +kernel
theorem own_d1_7 : decode method_2_code 7 = .ok (.iload_n 1, 1) := by decide +kernel
theorem own_d1_8 : decode method_2_code 8 = .ok (.ifCond .ne 7, 3) := by decide +kernel
theorem own_d1_11 : decode method_2_code 11 = .ok (.getstatic 8, 3) := by decide +kernel
theorem own_d1_14 : decode method_2_code 14 = .ok (.areturn, 1) := by decide +kernel
theorem own_d1_15 : decode method_2_code 15 = .ok (.iload_n 1, 1) := by decide +kernel
theorem own_d1_16 : decode method_2_code 16 = .ok (.iconst 1, 1) := by decide +kernel
theorem own_d1_17 : decode method_2_code 17 = .ok (.if_icmp .ne 7, 3) := by decide +kernel
theorem own_d1_20 : decode method_2_code 20 = .ok (.getstatic 14, 3) := by decide +kernel
theorem own_d1_23 : decode method_2_code 23 = .ok (.areturn, 1) := by decide +kernel
theorem own_d1_24 : decode method_2_code 24 = .ok (.getstatic 17, 3) := by decide +kernel
theorem own_d1_27 : decode method_2_code 27 = .ok (.areturn, 1) := by decide +kernel
set_option maxRecDepth 65536 in
set_option maxHeartbeats 40000000 in
theorem rm_pick (l : Launch) (Z : State) (a0 : Array Value) (hw : ∀ d ∈ tables_1, d.before a0 Z = true) (ws : List Jvm.Cond) (x0 : Int32) (w : Nat → Addr) (h0 : Heap) (n0 : Nat) (Z0 : n0 ≤ h0.size) (ST : STA Z h0 w) :
    MetFree l (⟨"com/example/pledgeline/pledgeline/TruthAndPinLaw", "pick", "(I)Lcom/example/pledgeline/pledgeline/Value$Truth;"⟩ : MethodName) (head1 (Jvm.Cond.code (⟨"com/example/pledgeline/pledgeline/TruthAndPinLaw", "pick", "(I)Lcom/example/pledgeline/pledgeline/Value$Truth;"⟩ : MethodName) method_2_code 2 (some (.object "com/example/pledgeline/pledgeline/Value$Truth")) :: ws) ({ frames := 0, cells := 0, slots := 0, locals := 0 } : Room)) (fun a U => a = #[(.int x0)] ∧ Z.Warmed39 U.vm ∧ U.heap = h0) (fun _ _ _ _ _ => True) (fun _ U o U' => ∃ v L, o = .returned v ∧ QP (.ref (w (own_pk ((x0 &&& (2147483647 : Int32)) % (3 : Int32))))) h0 n0 v U'.heap L ∧ FrameEnd U o U' L ({ frames := 0, cells := 0, slots := 0, locals := 0 } : Room).cells ({ frames := 0, cells := 0, slots := 0, locals := 0 } : Room).slots) := by
  refine MetFree.of_bodySF (plainFor_of_name (by first | (simp [plainName, overriddenIn]; done) | decide +kernel)) hisR ?_
  intro p e s m args below meth c s₁ Bd hml0 hP hK
  obtain ⟨rfl, hZ, hh⟩ := hP
  have hx := Bd.exec
  have hby := Bd.bytes
  have hml : c.maxLocals = 2 := hml0
  have hown : s.vm.findClass "com/example/pledgeline/pledgeline/TruthAndPinLaw" = some m.cls := findClass_of_methodNamed Bd.named
  have hnm := (name_of_methodNamed Bd.named Bd.method).1
  have X0 : Stand p l e ({ frames := 0, cells := 0, slots := 0, locals := 0 } : Room) s m #[(.int x0)] below meth c s₁ [] 0 0 := Stand.of_body Bd
  have e0 : s₁.heap = h0 := by rw [← hh, Bd.state]; rfl
  have N0 := Fr.nil n0
  have ef0 : entryFrame m #[(.int x0)] 2 = mkF m 0 #[.val (.int x0), .unset] [] := by first | (simp [entryFrame, mkF, argsToLocals, Value.category, maxLocals]; done) | rfl
  have pre0 : ∀ t, Steps p.tables e below (s₁.setTop (mkF m 0 #[.val (.int x0), .unset] [])) t → Steps p.tables e below (s₁.setTop (entryFrame m #[(.int x0)] 2)) t := fun t k => castTop ef0 k
  have pre1 : ∀ t, Steps p.tables e below (s₁.setTop (mkF m 8 #[.val (.int x0), .val (.int ((x0 &&& (2147483647 : Int32)) % (3 : Int32)))] [(.int ((x0 &&& (2147483647 : Int32)) % (3 : Int32)))])) t → Steps p.tables e below (s₁.setTop (entryFrame m #[(.int x0)] 2)) t := fun tt kk => pre0 tt (by
    show Steps p.tables e below (s₁.setTop (mkF m 0 #[.val (.int x0), .unset] [])) _
    refine XS.iloadN X0.here hx rfl (hb hby own_d1_0) rfl ?_
    show Steps p.tables e below (s₁.setTop (mkF m 1 #[.val (.int x0), .unset] [(.int x0)])) _
    refine X0.ldcInt hx hown (mvT hZ (hw _ (List.mem_of_getElem? (i := 4) rfl))) (g := (mkF m 1 #[.val (.int x0), .unset] [(.int x0)])) rfl (hb hby own_d1_1) _ ?_
    show Steps p.tables e below (s₁.setTop (mkF m 3 #[.val (.int x0), .unset] [(.int (2147483647 : Int32)), (.int x0)])) _
    refine XS.iand X0.here hx rfl (hb hby own_d1_3) rfl ?_
    show Steps p.tables e below (s₁.setTop (mkF m 4 #[.val (.int x0), .unset] [(.int (x0 &&& (2147483647 : Int32)))])) _
    refine XS.iconst X0.here hx rfl (hb hby own_d1_4) ?_
    show Steps p.tables e below (s₁.setTop (mkF m 5 #[.val (.int x0), .unset] [(.int (3 : Int32)), (.int (x0 &&& (2147483647 : Int32)))])) _
    refine iremM X0 hx rfl (hb hby own_d1_5) rfl (by decide) ?_
    show Steps p.tables e below (s₁.setTop (mkF m 6 #[.val (.int x0), .unset] [(.int ((x0 &&& (2147483647 : Int32)) % (3 : Int32)))])) _
    refine XS.istoreN X0.here hx rfl (hb hby own_d1_6) rfl (l' := #[.val (.int x0), .val (.int ((x0 &&& (2147483647 : Int32)) % (3 : Int32)))]) rfl ?_
    show Steps p.tables e below (s₁.setTop (mkF m 7 #[.val (.int x0), .val (.int ((x0 &&& (2147483647 : Int32)) % (3 : Int32)))] [])) _
    refine XS.iloadN X0.here hx rfl (hb hby own_d1_7) rfl ?_
    exact kk)
  by_cases hc8 : ((x0 &&& (2147483647 : Int32)) % (3 : Int32)) = (0 : Int32)
  · obtain ⟨T2, X2, e2, st2⟩ := getS2 X0 hx hZ hown (host := "") (Or.inl (hw _ (List.mem_of_getElem? (i := 5) rfl))) Via.refl e0 ST.2.1 (g := (mkF m 11 #[.val (.int x0), .val (.int ((x0 &&& (2147483647 : Int32)) % (3 : Int32)))] [])) rfl (hb hby own_d1_11)
    obtain ⟨fs, hr, hrun, hended, hW, hsame⟩ := X2.leave (v := some (.ref (w 1))) (fun h => by rw [Bd.returns] at h; cases h)
    refine ⟨_, _, pre1 _ ?_, hrun, hended, _, _, rfl, ?_, ⟨_, rfl⟩, hW, hsame.mono (by decide) (by decide)⟩
    · show Steps p.tables e below (s₁.setTop (mkF m 8 #[.val (.int x0), .val (.int ((x0 &&& (2147483647 : Int32)) % (3 : Int32)))] [(.int ((x0 &&& (2147483647 : Int32)) % (3 : Int32)))])) _
      refine XS.ifNo X0.here hx rfl (hb hby own_d1_8) rfl ((if0 _ _).trans (teq hc8).2) ?_
      show Steps p.tables e below (s₁.setTop (mkF m 11 #[.val (.int x0), .val (.int ((x0 &&& (2147483647 : Int32)) % (3 : Int32)))] [])) _
      refine st2 _ ?_
      show Steps p.tables e below (T2.setTop (mkF m 14 #[.val (.int x0), .val (.int ((x0 &&& (2147483647 : Int32)) % (3 : Int32)))] [(.ref (w 1))])) _
      exact retOut X2 hx Bd.returns rfl (Or.inr (Or.inr (Or.inr (Or.inr ⟨rfl, rfl, rfl⟩)))) (hb hby own_d1_14) hr
    · show QP (.ref (w (own_pk ((x0 &&& (2147483647 : Int32)) % (3 : Int32))))) h0 n0 _ T2.heap _
      rw [e2]
      exact ⟨by rw [own_pk]; rw [if_pos hc8], N0, rfl⟩
  · have pre3 : ∀ t, Steps p.tables e below (s₁.setTop (mkF m 17 #[.val (.int x0), .val (.int ((x0 &&& (2147483647 : Int32)) % (3 : Int32)))] [(.int (1 : Int32)), (.int ((x0 &&& (2147483647 : Int32)) % (3 : Int32)))])) t → Steps p.tables e below (s₁.setTop (entryFrame m #[(.int x0)] 2)) t := fun tt kk => pre1 tt (by
      show Steps p.tables e below (s₁.setTop (mkF m 8 #[.val (.int x0), .val (.int ((x0 &&& (2147483647 : Int32)) % (3 : Int32)))] [(.int ((x0 &&& (2147483647 : Int32)) % (3 : Int32)))])) _
      refine XS.ifYes X0.here hx rfl (pc0 := 8) (pc' := 15) rfl (hb hby own_d1_8) rfl ((if0 _ _).trans (feq hc8).2) (by decide) (by decide) ?_
      show Steps p.tables e below (s₁.setTop (mkF m 15 #[.val (.int x0), .val (.int ((x0 &&& (2147483647 : Int32)) % (3 : Int32)))] [])) _
      refine XS.iloadN X0.here hx rfl (hb hby own_d1_15) rfl ?_
      show Steps p.tables e below (s₁.setTop (mkF m 16 #[.val (.int x0), .val (.int ((x0 &&& (2147483647 : Int32)) % (3 : Int32)))] [(.int ((x0 &&& (2147483647 : Int32)) % (3 : Int32)))])) _
      refine XS.iconst X0.here hx rfl (hb hby own_d1_16) ?_
      exact kk)
    by_cases hc17 : ((x0 &&& (2147483647 : Int32)) % (3 : Int32)) = (1 : Int32)
    · obtain ⟨T4, X4, e4, st4⟩ := getS2 X0 hx hZ hown (host := "") (Or.inl (hw _ (List.mem_of_getElem? (i := 23) rfl))) Via.refl e0 ST.2.2 (g := (mkF m 20 #[.val (.int x0), .val (.int ((x0 &&& (2147483647 : Int32)) % (3 : Int32)))] [])) rfl (hb hby own_d1_20)
      obtain ⟨fs, hr, hrun, hended, hW, hsame⟩ := X4.leave (v := some (.ref (w 2))) (fun h => by rw [Bd.returns] at h; cases h)
      refine ⟨_, _, pre3 _ ?_, hrun, hended, _, _, rfl, ?_, ⟨_, rfl⟩, hW, hsame.mono (by decide) (by decide)⟩
      · show Steps p.tables e below (s₁.setTop (mkF m 17 #[.val (.int x0), .val (.int ((x0 &&& (2147483647 : Int32)) % (3 : Int32)))] [(.int (1 : Int32)), (.int ((x0 &&& (2147483647 : Int32)) % (3 : Int32)))])) _
        refine XS.icmpNo X0.here hx rfl (hb hby own_d1_17) rfl (teq hc17).2 ?_
        show Steps p.tables e below (s₁.setTop (mkF m 20 #[.val (.int x0), .val (.int ((x0 &&& (2147483647 : Int32)) % (3 : Int32)))] [])) _
        refine st4 _ ?_
        show Steps p.tables e below (T4.setTop (mkF m 23 #[.val (.int x0), .val (.int ((x0 &&& (2147483647 : Int32)) % (3 : Int32)))] [(.ref (w 2))])) _
        exact retOut X4 hx Bd.returns rfl (Or.inr (Or.inr (Or.inr (Or.inr ⟨rfl, rfl, rfl⟩)))) (hb hby own_d1_23) hr
      · show QP (.ref (w (own_pk ((x0 &&& (2147483647 : Int32)) % (3 : Int32))))) h0 n0 _ T4.heap _
        rw [e4]
        exact ⟨by rw [own_pk]; rw [if_neg hc8, if_pos hc17], N0, rfl⟩
    · obtain ⟨T5, X5, e5, st5⟩ := getS2 X0 hx hZ hown (host := "") (Or.inl (hw _ (List.mem_of_getElem? (i := 21) rfl))) Via.refl e0 ST.1 (g := (mkF m 24 #[.val (.int x0), .val (.int ((x0 &&& (2147483647 : Int32)) % (3 : Int32)))] [])) rfl (hb hby own_d1_24)
      obtain ⟨fs, hr, hrun, hended, hW, hsame⟩ := X5.leave (v := some (.ref (w 0))) (fun h => by rw [Bd.returns] at h; cases h)
      refine ⟨_, _, pre3 _ ?_, hrun, hended, _, _, rfl, ?_, ⟨_, rfl⟩, hW, hsame.mono (by decide) (by decide)⟩
      · show Steps p.tables e below (s₁.setTop (mkF m 17 #[.val (.int x0), .val (.int ((x0 &&& (2147483647 : Int32)) % (3 : Int32)))] [(.int (1 : Int32)), (.int ((x0 &&& (2147483647 : Int32)) % (3 : Int32)))])) _
        refine XS.icmpYes X0.here hx rfl (pc0 := 17) (pc' := 24) rfl (hb hby own_d1_17) rfl (feq hc17).2 (by decide) (by decide) ?_
        show Steps p.tables e below (s₁.setTop (mkF m 24 #[.val (.int x0), .val (.int ((x0 &&& (2147483647 : Int32)) % (3 : Int32)))] [])) _
        refine st5 _ ?_
        show Steps p.tables e below (T5.setTop (mkF m 27 #[.val (.int x0), .val (.int ((x0 &&& (2147483647 : Int32)) % (3 : Int32)))] [(.ref (w 0))])) _
        exact retOut X5 hx Bd.returns rfl (Or.inr (Or.inr (Or.inr (Or.inr ⟨rfl, rfl, rfl⟩)))) (hb hby own_d1_27) hr
      · show QP (.ref (w (own_pk ((x0 &&& (2147483647 : Int32)) % (3 : Int32))))) h0 n0 _ T5.heap _
        rw [e5]
        exact ⟨by rw [own_pk]; rw [if_neg hc8, if_neg hc17], N0, rfl⟩
theorem own_d2_0 : decode prog_76_method_5_code 0 = .ok (.aload_n 0, 1) := by decide +kernel
theorem own_d2_1 : decode prog_76_method_5_code 1 = .ok (.getstatic 7, 3) := by decide +kernel
theorem own_d2_4 : decode prog_76_method_5_code 4 = .ok (.if_acmp .eq 10, 3) := by decide +kernel
theorem own_d2_7 : decode prog_76_method_5_code 7 = .ok (.aload_n 1, 1) := by decide +kernel
theorem own_d2_8 : decode prog_76_method_5_code 8 = .ok (.getstatic 7, 3) := by decide +kernel
theorem own_d2_11 : decode prog_76_method_5_code 11 = .ok (.if_acmp .ne 10, 3) := by decide +kernel
theorem own_d2_14 : decode prog_76_method_5_code 14 = .ok (.getstatic 7, 3) := by decide +kernel
theorem own_d2_17 : decode prog_76_method_5_code 17 = .ok (.astore_n 2, 1) := by decide +kernel
theorem own_d2_18 : decode prog_76_method_5_code 18 = .ok (.goto 28, 3) := by decide +kernel
theorem own_d2_21 : decode prog_76_method_5_code 21 = .ok (.aload_n 0, 1) := by decide +kernel
theorem own_d2_22 : decode prog_76_method_5_code 22 = .ok (.getstatic 3, 3) := by decide +kernel
theorem own_d2_25 : decode prog_76_method_5_code 25 = .ok (.if_acmp .ne 17, 3) := by decide +kernel
theorem own_d2_28 : decode prog_76_method_5_code 28 = .ok (.aload_n 1, 1) := by decide +kernel
theorem own_d2_29 : decode prog_76_method_5_code 29 = .ok (.getstatic 3, 3) := by decide +kernel
theorem own_d2_32 : decode prog_76_method_5_code 32 = .ok (.if_acmp .ne 10, 3) := by decide +kernel
theorem own_d2_35 : decode prog_76_method_5_code 35 = .ok (.getstatic 3, 3) := by decide +kernel
theorem own_d2_38 : decode prog_76_method_5_code 38 = .ok (.astore_n 2, 1) := by decide +kernel
theorem own_d2_39 : decode prog_76_method_5_code 39 = .ok (.goto 7, 3) := by decide +kernel
theorem own_d2_42 : decode prog_76_method_5_code 42 = .ok (.getstatic 10, 3) := by decide +kernel
theorem own_d2_45 : decode prog_76_method_5_code 45 = .ok (.astore_n 2, 1) := by decide +kernel
theorem own_d2_46 : decode prog_76_method_5_code 46 = .ok (.aload_n 2, 1) := by decide +kernel
theorem own_d2_47 : decode prog_76_method_5_code 47 = .ok (.areturn, 1) := by decide +kernel
set_option maxRecDepth 65536 in
set_option maxHeartbeats 40000000 in
theorem rm_an (l : Launch) (Z : State) (a0 : Array Value) (hw : ∀ d ∈ tables_1, d.before a0 Z = true) (ws : List Jvm.Cond) (x0 x1 : Addr) (w : Nat → Addr) (h0 : Heap) (n0 : Nat) (Z0 : n0 ≤ h0.size) (ST : STA Z h0 w) :
    MetFree l (⟨"com/example/pledgeline/pledgeline/Value$Truth", "and", "(Lcom/example/pledgeline/pledgeline/Value$Truth;)Lcom/example/pledgeline/pledgeline/Value$Truth;"⟩ : MethodName) (head1 (Jvm.Cond.code (⟨"com/example/pledgeline/pledgeline/Value$Truth", "and", "(Lcom/example/pledgeline/pledgeline/Value$Truth;)Lcom/example/pledgeline/pledgeline/Value$Truth;"⟩ : MethodName) prog_76_method_5_code 3 (some (.object "com/example/pledgeline/pledgeline/Value$Truth")) :: ws) ({ frames := 0, cells := 0, slots := 0, locals := 0 } : Room)) (fun a U => a = #[(.ref x0), (.ref x1)] ∧ Z.Warmed39 U.vm ∧ U.heap = h0) (fun _ _ _ _ _ => True) (fun _ U o U' => ∃ v L, o = .returned v ∧ QP (.ref (own_an w x0 x1)) h0 n0 v U'.heap L ∧ FrameEnd U o U' L ({ frames := 0, cells := 0, slots := 0, locals := 0 } : Room).cells ({ frames := 0, cells := 0, slots := 0, locals := 0 } : Room).slots) := by
  refine MetFree.of_bodySF (plainFor_of_name (by first | (simp [plainName, overriddenIn]; done) | decide +kernel)) hisR ?_
  intro p e s m args below meth c s₁ Bd hml0 hP hK
  obtain ⟨rfl, hZ, hh⟩ := hP
  have hx := Bd.exec
  have hby := Bd.bytes
  have hml : c.maxLocals = 3 := hml0
  have hown : s.vm.findClass "com/example/pledgeline/pledgeline/Value$Truth" = some m.cls := findClass_of_methodNamed Bd.named
  have hnm := (name_of_methodNamed Bd.named Bd.method).1
  have X0 : Stand p l e ({ frames := 0, cells := 0, slots := 0, locals := 0 } : Room) s m #[(.ref x0), (.ref x1)] below meth c s₁ [] 0 0 := Stand.of_body Bd
  have e0 : s₁.heap = h0 := by rw [← hh, Bd.state]; rfl
  have N0 := Fr.nil n0
  have ef0 : entryFrame m #[(.ref x0), (.ref x1)] 3 = mkF m 0 #[.val (.ref x0), .val (.ref x1), .unset] [] := by first | (simp [entryFrame, mkF, argsToLocals, Value.category, maxLocals]; done) | rfl
  have pre0 : ∀ t, Steps p.tables e below (s₁.setTop (mkF m 0 #[.val (.ref x0), .val (.ref x1), .unset] [])) t → Steps p.tables e below (s₁.setTop (entryFrame m #[(.ref x0), (.ref x1)] 3)) t := fun t k => castTop ef0 k
  obtain ⟨T6, X6, e6, st6⟩ := getS2 X0 hx hZ hown (host := "") (Or.inl (hw _ (List.mem_of_getElem? (i := 13) rfl))) Via.refl e0 ST.2.1 (g := (mkF m 1 #[.val (.ref x0), .val (.ref x1), .unset] [(.ref x0)])) rfl (hb hby own_d2_1)
  have pre7 : ∀ t, Steps p.tables e below (T6.setTop (mkF m 4 #[.val (.ref x0), .val (.ref x1), .unset] [(.ref (w 1)), (.ref x0)])) t → Steps p.tables e below (s₁.setTop (entryFrame m #[(.ref x0), (.ref x1)] 3)) t := fun tt kk => pre0 tt (by
    show Steps p.tables e below (s₁.setTop (mkF m 0 #[.val (.ref x0), .val (.ref x1), .unset] [])) _
    refine XS.aloadN X0.here hx rfl (hb hby own_d2_0) rfl rfl ?_
    show Steps p.tables e below (s₁.setTop (mkF m 1 #[.val (.ref x0), .val (.ref x1), .unset] [(.ref x0)])) _
    refine st6 _ ?_
    exact kk)
  by_cases ha4 : x0 = (w 1)
  · obtain ⟨T8, X8, e8, st8⟩ := getS2 X6 hx hZ hown (host := "") (Or.inl (hw _ (List.mem_of_getElem? (i := 13) rfl))) Via.refl e6 ST.2.1 (g := (mkF m 14 #[.val (.ref x0), .val (.ref x1), .unset] [])) rfl (hb hby own_d2_14)
    obtain ⟨fs, hr, hrun, hended, hW, hsame⟩ := X8.leave (v := some (.ref (w 1))) (fun h => by rw [Bd.returns] at h; cases h)
    refine ⟨_, _, pre7 _ ?_, hrun, hended, _, _, rfl, ?_, ⟨_, rfl⟩, hW, hsame.mono (by decide) (by decide)⟩
    · show Steps p.tables e below (T6.setTop (mkF m 4 #[.val (.ref x0), .val (.ref x1), .unset] [(.ref (w 1)), (.ref x0)])) _
      refine Jvm.RoadKit.acmp (g := (mkF m 4 #[.val (.ref x0), .val (.ref x1), .unset] [(.ref (w 1)), (.ref x0)])) X6 hx rfl rfl rfl (pc0 := 4) (pc' := 14) (same := true) rfl (hb hby own_d2_4) rfl (decide_eq_true (congrArg Value.ref ha4)) (by decide) (by decide) ?_
      show Steps p.tables e below (T6.setTop (mkF m 14 #[.val (.ref x0), .val (.ref x1), .unset] [])) _
      refine st8 _ ?_
      show Steps p.tables e below (T8.setTop (mkF m 17 #[.val (.ref x0), .val (.ref x1), .unset] [(.ref (w 1))])) _
      refine XS.astoreN X8.here hx rfl (hb hby own_d2_17) rfl rfl (l' := #[.val (.ref x0), .val (.ref x1), .val (.ref (w 1))]) rfl ?_
      show Steps p.tables e below (T8.setTop (mkF m 18 #[.val (.ref x0), .val (.ref x1), .val (.ref (w 1))] [])) _
      refine XS.goto X8.here hx rfl (pc0 := 18) (pc' := 46) rfl (hb hby own_d2_18) (by decide) (by decide) ?_
      show Steps p.tables e below (T8.setTop (mkF m 46 #[.val (.ref x0), .val (.ref x1), .val (.ref (w 1))] [])) _
      refine XS.aloadN X8.here hx rfl (hb hby own_d2_46) rfl rfl ?_
      show Steps p.tables e below (T8.setTop (mkF m 47 #[.val (.ref x0), .val (.ref x1), .val (.ref (w 1))] [(.ref (w 1))])) _
      exact retOut X8 hx Bd.returns rfl (Or.inr (Or.inr (Or.inr (Or.inr ⟨rfl, rfl, rfl⟩)))) (hb hby own_d2_47) hr
    · show QP (.ref (own_an w x0 x1)) h0 n0 _ T8.heap _
      rw [e8]
      exact ⟨by rw [own_an]; rw [if_pos ha4], N0, rfl⟩
  · obtain ⟨T9, X9, e9, st9⟩ := getS2 X6 hx hZ hown (host := "") (Or.inl (hw _ (List.mem_of_getElem? (i := 13) rfl))) Via.refl e6 ST.2.1 (g := (mkF m 8 #[.val (.ref x0), .val (.ref x1), .unset] [(.ref x1)])) rfl (hb hby own_d2_8)
    have pre10 : ∀ t, Steps p.tables e below (T9.setTop (mkF m 11 #[.val (.ref x0), .val (.ref x1), .unset] [(.ref (w 1)), (.ref x1)])) t → Steps p.tables e below (s₁.setTop (entryFrame m #[(.ref x0), (.ref x1)] 3)) t := fun tt kk => pre7 tt (by
      show Steps p.tables e below (T6.setTop (mkF m 4 #[.val (.ref x0), .val (.ref x1), .unset] [(.ref (w 1)), (.ref x0)])) _
      refine Jvm.RoadKit.acmp (g := (mkF m 4 #[.val (.ref x0), .val (.ref x1), .unset] [(.ref (w 1)), (.ref x0)])) X6 hx rfl rfl rfl (pc0 := 4) (pc' := 7) (same := false) rfl (hb hby own_d2_4) rfl (decide_eq_false fun q => ha4 (Value.ref.inj q)) (by decide) (by decide) ?_
      show Steps p.tables e below (T6.setTop (mkF m 7 #[.val (.ref x0), .val (.ref x1), .unset] [])) _
      refine XS.aloadN X6.here hx rfl (hb hby own_d2_7) rfl rfl ?_
      show Steps p.tables e below (T6.setTop (mkF m 8 #[.val (.ref x0), .val (.ref x1), .unset] [(.ref x1)])) _
      refine st9 _ ?_
      exact kk)
    by_cases ha11 : x1 = (w 1)
    · obtain ⟨T11, X11, e11, st11⟩ := getS2 X9 hx hZ hown (host := "") (Or.inl (hw _ (List.mem_of_getElem? (i := 13) rfl))) Via.refl e9 ST.2.1 (g := (mkF m 14 #[.val (.ref x0), .val (.ref x1), .unset] [])) rfl (hb hby own_d2_14)
      obtain ⟨fs, hr, hrun, hended, hW, hsame⟩ := X11.leave (v := some (.ref (w 1))) (fun h => by rw [Bd.returns] at h; cases h)
      refine ⟨_, _, pre10 _ ?_, hrun, hended, _, _, rfl, ?_, ⟨_, rfl⟩, hW, hsame.mono (by decide) (by decide)⟩
      · show Steps p.tables e below (T9.setTop (mkF m 11 #[.val (.ref x0), .val (.ref x1), .unset] [(.ref (w 1)), (.ref x1)])) _
        refine Jvm.RoadKit.acmp (g := (mkF m 11 #[.val (.ref x0), .val (.ref x1), .unset] [(.ref (w 1)), (.ref x1)])) X9 hx rfl rfl rfl (pc0 := 11) (pc' := 14) (same := true) rfl (hb hby own_d2_11) rfl (decide_eq_true (congrArg Value.ref ha11)) (by decide) (by decide) ?_
        show Steps p.tables e below (T9.setTop (mkF m 14 #[.val (.ref x0), .val (.ref x1), .unset] [])) _
        refine st11 _ ?_
        show Steps p.tables e below (T11.setTop (mkF m 17 #[.val (.ref x0), .val (.ref x1), .unset] [(.ref (w 1))])) _
        refine XS.astoreN X11.here hx rfl (hb hby own_d2_17) rfl rfl (l' := #[.val (.ref x0), .val (.ref x1), .val (.ref (w 1))]) rfl ?_
        show Steps p.tables e below (T11.setTop (mkF m 18 #[.val (.ref x0), .val (.ref x1), .val (.ref (w 1))] [])) _
        refine XS.goto X11.here hx rfl (pc0 := 18) (pc' := 46) rfl (hb hby own_d2_18) (by decide) (by decide) ?_
        show Steps p.tables e below (T11.setTop (mkF m 46 #[.val (.ref x0), .val (.ref x1), .val (.ref (w 1))] [])) _
        refine XS.aloadN X11.here hx rfl (hb hby own_d2_46) rfl rfl ?_
        show Steps p.tables e below (T11.setTop (mkF m 47 #[.val (.ref x0), .val (.ref x1), .val (.ref (w 1))] [(.ref (w 1))])) _
        exact retOut X11 hx Bd.returns rfl (Or.inr (Or.inr (Or.inr (Or.inr ⟨rfl, rfl, rfl⟩)))) (hb hby own_d2_47) hr
      · show QP (.ref (own_an w x0 x1)) h0 n0 _ T11.heap _
        rw [e11]
        exact ⟨by rw [own_an]; rw [if_neg ha4, if_pos ha11], N0, rfl⟩
    · obtain ⟨T12, X12, e12, st12⟩ := getS2 X9 hx hZ hown (host := "") (Or.inl (hw _ (List.mem_of_getElem? (i := 25) rfl))) Via.refl e9 ST.1 (g := (mkF m 22 #[.val (.ref x0), .val (.ref x1), .unset] [(.ref x0)])) rfl (hb hby own_d2_22)
      have pre13 : ∀ t, Steps p.tables e below (T12.setTop (mkF m 25 #[.val (.ref x0), .val (.ref x1), .unset] [(.ref (w 0)), (.ref x0)])) t → Steps p.tables e below (s₁.setTop (entryFrame m #[(.ref x0), (.ref x1)] 3)) t := fun tt kk => pre10 tt (by
        show Steps p.tables e below (T9.setTop (mkF m 11 #[.val (.ref x0), .val (.ref x1), .unset] [(.ref (w 1)), (.ref x1)])) _
        refine Jvm.RoadKit.acmp (g := (mkF m 11 #[.val (.ref x0), .val (.ref x1), .unset] [(.ref (w 1)), (.ref x1)])) X9 hx rfl rfl rfl (pc0 := 11) (pc' := 21) (same := false) rfl (hb hby own_d2_11) rfl (decide_eq_false fun q => ha11 (Value.ref.inj q)) (by decide) (by decide) ?_
        show Steps p.tables e below (T9.setTop (mkF m 21 #[.val (.ref x0), .val (.ref x1), .unset] [])) _
        refine XS.aloadN X9.here hx rfl (hb hby own_d2_21) rfl rfl ?_
        show Steps p.tables e below (T9.setTop (mkF m 22 #[.val (.ref x0), .val (.ref x1), .unset] [(.ref x0)])) _
        refine st12 _ ?_
        exact kk)
      by_cases ha25 : x0 = (w 0)
      · obtain ⟨T14, X14, e14, st14⟩ := getS2 X12 hx hZ hown (host := "") (Or.inl (hw _ (List.mem_of_getElem? (i := 25) rfl))) Via.refl e12 ST.1 (g := (mkF m 29 #[.val (.ref x0), .val (.ref x1), .unset] [(.ref x1)])) rfl (hb hby own_d2_29)
        have pre15 : ∀ t, Steps p.tables e below (T14.setTop (mkF m 32 #[.val (.ref x0), .val (.ref x1), .unset] [(.ref (w 0)), (.ref x1)])) t → Steps p.tables e below (s₁.setTop (entryFrame m #[(.ref x0), (.ref x1)] 3)) t := fun tt kk => pre13 tt (by
          show Steps p.tables e below (T12.setTop (mkF m 25 #[.val (.ref x0), .val (.ref x1), .unset] [(.ref (w 0)), (.ref x0)])) _
          refine Jvm.RoadKit.acmp (g := (mkF m 25 #[.val (.ref x0), .val (.ref x1), .unset] [(.ref (w 0)), (.ref x0)])) X12 hx rfl rfl rfl (pc0 := 25) (pc' := 28) (same := true) rfl (hb hby own_d2_25) rfl (decide_eq_true (congrArg Value.ref ha25)) (by decide) (by decide) ?_
          show Steps p.tables e below (T12.setTop (mkF m 28 #[.val (.ref x0), .val (.ref x1), .unset] [])) _
          refine XS.aloadN X12.here hx rfl (hb hby own_d2_28) rfl rfl ?_
          show Steps p.tables e below (T12.setTop (mkF m 29 #[.val (.ref x0), .val (.ref x1), .unset] [(.ref x1)])) _
          refine st14 _ ?_
          exact kk)
        by_cases ha32 : x1 = (w 0)
        · obtain ⟨T16, X16, e16, st16⟩ := getS2 X14 hx hZ hown (host := "") (Or.inl (hw _ (List.mem_of_getElem? (i := 25) rfl))) Via.refl e14 ST.1 (g := (mkF m 35 #[.val (.ref x0), .val (.ref x1), .unset] [])) rfl (hb hby own_d2_35)
          obtain ⟨fs, hr, hrun, hended, hW, hsame⟩ := X16.leave (v := some (.ref (w 0))) (fun h => by rw [Bd.returns] at h; cases h)
          refine ⟨_, _, pre15 _ ?_, hrun, hended, _, _, rfl, ?_, ⟨_, rfl⟩, hW, hsame.mono (by decide) (by decide)⟩
          · show Steps p.tables e below (T14.setTop (mkF m 32 #[.val (.ref x0), .val (.ref x1), .unset] [(.ref (w 0)), (.ref x1)])) _
            refine Jvm.RoadKit.acmp (g := (mkF m 32 #[.val (.ref x0), .val (.ref x1), .unset] [(.ref (w 0)), (.ref x1)])) X14 hx rfl rfl rfl (pc0 := 32) (pc' := 35) (same := true) rfl (hb hby own_d2_32) rfl (decide_eq_true (congrArg Value.ref ha32)) (by decide) (by decide) ?_
            show Steps p.tables e below (T14.setTop (mkF m 35 #[.val (.ref x0), .val (.ref x1), .unset] [])) _
            refine st16 _ ?_
            show Steps p.tables e below (T16.setTop (mkF m 38 #[.val (.ref x0), .val (.ref x1), .unset] [(.ref (w 0))])) _
            refine XS.astoreN X16.here hx rfl (hb hby own_d2_38) rfl rfl (l' := #[.val (.ref x0), .val (.ref x1), .val (.ref (w 0))]) rfl ?_
            show Steps p.tables e below (T16.setTop (mkF m 39 #[.val (.ref x0), .val (.ref x1), .val (.ref (w 0))] [])) _
            refine XS.goto X16.here hx rfl (pc0 := 39) (pc' := 46) rfl (hb hby own_d2_39) (by decide) (by decide) ?_
            show Steps p.tables e below (T16.setTop (mkF m 46 #[.val (.ref x0), .val (.ref x1), .val (.ref (w 0))] [])) _
            refine XS.aloadN X16.here hx rfl (hb hby own_d2_46) rfl rfl ?_
            show Steps p.tables e below (T16.setTop (mkF m 47 #[.val (.ref x0), .val (.ref x1), .val (.ref (w 0))] [(.ref (w 0))])) _
            exact retOut X16 hx Bd.returns rfl (Or.inr (Or.inr (Or.inr (Or.inr ⟨rfl, rfl, rfl⟩)))) (hb hby own_d2_47) hr
          · show QP (.ref (own_an w x0 x1)) h0 n0 _ T16.heap _
            rw [e16]
            exact ⟨by rw [own_an]; rw [if_neg ha4, if_neg ha11, if_pos ha25, if_pos ha32], N0, rfl⟩
        · obtain ⟨T17, X17, e17, st17⟩ := getS2 X14 hx hZ hown (host := "") (Or.inl (hw _ (List.mem_of_getElem? (i := 26) rfl))) Via.refl e14 ST.2.2 (g := (mkF m 42 #[.val (.ref x0), .val (.ref x1), .unset] [])) rfl (hb hby own_d2_42)
          obtain ⟨fs, hr, hrun, hended, hW, hsame⟩ := X17.leave (v := some (.ref (w 2))) (fun h => by rw [Bd.returns] at h; cases h)
          refine ⟨_, _, pre15 _ ?_, hrun, hended, _, _, rfl, ?_, ⟨_, rfl⟩, hW, hsame.mono (by decide) (by decide)⟩
          · show Steps p.tables e below (T14.setTop (mkF m 32 #[.val (.ref x0), .val (.ref x1), .unset] [(.ref (w 0)), (.ref x1)])) _
            refine Jvm.RoadKit.acmp (g := (mkF m 32 #[.val (.ref x0), .val (.ref x1), .unset] [(.ref (w 0)), (.ref x1)])) X14 hx rfl rfl rfl (pc0 := 32) (pc' := 42) (same := false) rfl (hb hby own_d2_32) rfl (decide_eq_false fun q => ha32 (Value.ref.inj q)) (by decide) (by decide) ?_
            show Steps p.tables e below (T14.setTop (mkF m 42 #[.val (.ref x0), .val (.ref x1), .unset] [])) _
            refine st17 _ ?_
            show Steps p.tables e below (T17.setTop (mkF m 45 #[.val (.ref x0), .val (.ref x1), .unset] [(.ref (w 2))])) _
            refine XS.astoreN X17.here hx rfl (hb hby own_d2_45) rfl rfl (l' := #[.val (.ref x0), .val (.ref x1), .val (.ref (w 2))]) rfl ?_
            show Steps p.tables e below (T17.setTop (mkF m 46 #[.val (.ref x0), .val (.ref x1), .val (.ref (w 2))] [])) _
            refine XS.aloadN X17.here hx rfl (hb hby own_d2_46) rfl rfl ?_
            show Steps p.tables e below (T17.setTop (mkF m 47 #[.val (.ref x0), .val (.ref x1), .val (.ref (w 2))] [(.ref (w 2))])) _
            exact retOut X17 hx Bd.returns rfl (Or.inr (Or.inr (Or.inr (Or.inr ⟨rfl, rfl, rfl⟩)))) (hb hby own_d2_47) hr
          · show QP (.ref (own_an w x0 x1)) h0 n0 _ T17.heap _
            rw [e17]
            exact ⟨by rw [own_an]; rw [if_neg ha4, if_neg ha11, if_pos ha25, if_neg ha32], N0, rfl⟩
      · obtain ⟨T18, X18, e18, st18⟩ := getS2 X12 hx hZ hown (host := "") (Or.inl (hw _ (List.mem_of_getElem? (i := 26) rfl))) Via.refl e12 ST.2.2 (g := (mkF m 42 #[.val (.ref x0), .val (.ref x1), .unset] [])) rfl (hb hby own_d2_42)
        obtain ⟨fs, hr, hrun, hended, hW, hsame⟩ := X18.leave (v := some (.ref (w 2))) (fun h => by rw [Bd.returns] at h; cases h)
        refine ⟨_, _, pre13 _ ?_, hrun, hended, _, _, rfl, ?_, ⟨_, rfl⟩, hW, hsame.mono (by decide) (by decide)⟩
        · show Steps p.tables e below (T12.setTop (mkF m 25 #[.val (.ref x0), .val (.ref x1), .unset] [(.ref (w 0)), (.ref x0)])) _
          refine Jvm.RoadKit.acmp (g := (mkF m 25 #[.val (.ref x0), .val (.ref x1), .unset] [(.ref (w 0)), (.ref x0)])) X12 hx rfl rfl rfl (pc0 := 25) (pc' := 42) (same := false) rfl (hb hby own_d2_25) rfl (decide_eq_false fun q => ha25 (Value.ref.inj q)) (by decide) (by decide) ?_
          show Steps p.tables e below (T12.setTop (mkF m 42 #[.val (.ref x0), .val (.ref x1), .unset] [])) _
          refine st18 _ ?_
          show Steps p.tables e below (T18.setTop (mkF m 45 #[.val (.ref x0), .val (.ref x1), .unset] [(.ref (w 2))])) _
          refine XS.astoreN X18.here hx rfl (hb hby own_d2_45) rfl rfl (l' := #[.val (.ref x0), .val (.ref x1), .val (.ref (w 2))]) rfl ?_
          show Steps p.tables e below (T18.setTop (mkF m 46 #[.val (.ref x0), .val (.ref x1), .val (.ref (w 2))] [])) _
          refine XS.aloadN X18.here hx rfl (hb hby own_d2_46) rfl rfl ?_
          show Steps p.tables e below (T18.setTop (mkF m 47 #[.val (.ref x0), .val (.ref x1), .val (.ref (w 2))] [(.ref (w 2))])) _
          exact retOut X18 hx Bd.returns rfl (Or.inr (Or.inr (Or.inr (Or.inr ⟨rfl, rfl, rfl⟩)))) (hb hby own_d2_47) hr
        · show QP (.ref (own_an w x0 x1)) h0 n0 _ T18.heap _
          rw [e18]
          exact ⟨by rw [own_an]; rw [if_neg ha4, if_neg ha11, if_neg ha25], N0, rfl⟩
theorem own_d3_0 : decode method_3_code 0 = .ok (.aload_n 0, 1) := by decide +kernel
theorem own_d3_1 : decode method_3_code 1 = .ok (.getstatic 8, 3) := by decide +kernel
theorem own_d3_4 : decode method_3_code 4 = .ok (.if_acmp .ne 5, 3) := by decide +kernel
theorem own_d3_7 : decode method_3_code 7 = .ok (.iconst 0, 1) := by decide +kernel
theorem own_d3_8 : decode method_3_code 8 = .ok (.ireturn, 1) := by decide +kernel
theorem own_d3_9 : decode method_3_code 9 = .ok (.aload_n 0, 1) := by decide +kernel
theorem own_d3_10 : decode method_3_code 10 = .ok (.getstatic 14, 3) := by decide +kernel
theorem own_d3_13 : decode method_3_code 13 = .ok (.if_acmp .ne 5, 3) := by decide +kernel
theorem own_d3_16 : decode method_3_code 16 = .ok (.iconst 1, 1) := by decide +kernel
theorem own_d3_17 : decode method_3_code 17 = .ok (.ireturn, 1) := by decide +kernel
theorem own_d3_18 : decode method_3_code 18 = .ok (.aload_n 0, 1) := by decide +kernel
theorem own_d3_19 : decode method_3_code 19 = .ok (.getstatic 17, 3) := by decide +kernel
theorem own_d3_22 : decode method_3_code 22 = .ok (.if_acmp .ne 5, 3) := by decide +kernel
theorem own_d3_25 : decode method_3_code 25 = .ok (.iconst 2, 1) := by decide +kernel
theorem own_d3_26 : decode method_3_code 26 = .ok (.ireturn, 1) := by decide +kernel
theorem own_d3_27 : decode method_3_code 27 = .ok (.iconst (-1), 1) := by decide +kernel
theorem own_d3_28 : decode method_3_code 28 = .ok (.ireturn, 1) := by decide +kernel
set_option maxRecDepth 65536 in
set_option maxHeartbeats 40000000 in
theorem rm_rk (l : Launch) (Z : State) (a0 : Array Value) (hw : ∀ d ∈ tables_1, d.before a0 Z = true) (ws : List Jvm.Cond) (x0 : Addr) (w : Nat → Addr) (h0 : Heap) (n0 : Nat) (Z0 : n0 ≤ h0.size) (ST : STA Z h0 w) :
    MetFree l (⟨"com/example/pledgeline/pledgeline/TruthAndPinLaw", "rank", "(Lcom/example/pledgeline/pledgeline/Value$Truth;)I"⟩ : MethodName) (head1 (Jvm.Cond.code (⟨"com/example/pledgeline/pledgeline/TruthAndPinLaw", "rank", "(Lcom/example/pledgeline/pledgeline/Value$Truth;)I"⟩ : MethodName) method_3_code 1 (some .int) :: ws) ({ frames := 0, cells := 0, slots := 0, locals := 0 } : Room)) (fun a U => a = #[(.ref x0)] ∧ Z.Warmed39 U.vm ∧ U.heap = h0) (fun _ _ _ _ _ => True) (fun _ U o U' => ∃ v L, o = .returned v ∧ QP (.int (own_rk w x0)) h0 n0 v U'.heap L ∧ FrameEnd U o U' L ({ frames := 0, cells := 0, slots := 0, locals := 0 } : Room).cells ({ frames := 0, cells := 0, slots := 0, locals := 0 } : Room).slots) := by
  refine MetFree.of_bodySF (plainFor_of_name (by first | (simp [plainName, overriddenIn]; done) | decide +kernel)) hisR ?_
  intro p e s m args below meth c s₁ Bd hml0 hP hK
  obtain ⟨rfl, hZ, hh⟩ := hP
  have hx := Bd.exec
  have hby := Bd.bytes
  have hml : c.maxLocals = 1 := hml0
  have hown : s.vm.findClass "com/example/pledgeline/pledgeline/TruthAndPinLaw" = some m.cls := findClass_of_methodNamed Bd.named
  have hnm := (name_of_methodNamed Bd.named Bd.method).1
  have X0 : Stand p l e ({ frames := 0, cells := 0, slots := 0, locals := 0 } : Room) s m #[(.ref x0)] below meth c s₁ [] 0 0 := Stand.of_body Bd
  have e0 : s₁.heap = h0 := by rw [← hh, Bd.state]; rfl
  have N0 := Fr.nil n0
  have ef0 : entryFrame m #[(.ref x0)] 1 = mkF m 0 #[.val (.ref x0)] [] := by first | (simp [entryFrame, mkF, argsToLocals, Value.category, maxLocals]; done) | rfl
  have pre0 : ∀ t, Steps p.tables e below (s₁.setTop (mkF m 0 #[.val (.ref x0)] [])) t → Steps p.tables e below (s₁.setTop (entryFrame m #[(.ref x0)] 1)) t := fun t k => castTop ef0 k
  obtain ⟨T19, X19, e19, st19⟩ := getS2 X0 hx hZ hown (host := "") (Or.inl (hw _ (List.mem_of_getElem? (i := 5) rfl))) Via.refl e0 ST.2.1 (g := (mkF m 1 #[.val (.ref x0)] [(.ref x0)])) rfl (hb hby own_d3_1)
  have pre20 : ∀ t, Steps p.tables e below (T19.setTop (mkF m 4 #[.val (.ref x0)] [(.ref (w 1)), (.ref x0)])) t → Steps p.tables e below (s₁.setTop (entryFrame m #[(.ref x0)] 1)) t := fun tt kk => pre0 tt (by
    show Steps p.tables e below (s₁.setTop (mkF m 0 #[.val (.ref x0)] [])) _
    refine XS.aloadN X0.here hx rfl (hb hby own_d3_0) rfl rfl ?_
    show Steps p.tables e below (s₁.setTop (mkF m 1 #[.val (.ref x0)] [(.ref x0)])) _
    refine st19 _ ?_
    exact kk)
  by_cases ha4 : x0 = (w 1)
  · obtain ⟨fs, hr, hrun, hended, hW, hsame⟩ := X19.leave (v := some (.int (0 : Int32))) (fun h => by rw [Bd.returns] at h; cases h)
    refine ⟨_, _, pre20 _ ?_, hrun, hended, _, _, rfl, ?_, ⟨_, rfl⟩, hW, hsame.mono (by decide) (by decide)⟩
    · show Steps p.tables e below (T19.setTop (mkF m 4 #[.val (.ref x0)] [(.ref (w 1)), (.ref x0)])) _
      refine Jvm.RoadKit.acmp (g := (mkF m 4 #[.val (.ref x0)] [(.ref (w 1)), (.ref x0)])) X19 hx rfl rfl rfl (pc0 := 4) (pc' := 7) (same := true) rfl (hb hby own_d3_4) rfl (decide_eq_true (congrArg Value.ref ha4)) (by decide) (by decide) ?_
      show Steps p.tables e below (T19.setTop (mkF m 7 #[.val (.ref x0)] [])) _
      refine XS.iconst X19.here hx rfl (hb hby own_d3_7) ?_
      show Steps p.tables e below (T19.setTop (mkF m 8 #[.val (.ref x0)] [(.int (0 : Int32))])) _
      exact retOut X19 hx Bd.returns rfl (Or.inl ⟨rfl, Or.inl rfl, _, rfl⟩) (hb hby own_d3_8) hr
    · show QP (.int (own_rk w x0)) h0 n0 _ T19.heap _
      rw [e19]
      exact ⟨by rw [own_rk]; rw [if_pos ha4], N0, rfl⟩
  · obtain ⟨T21, X21, e21, st21⟩ := getS2 X19 hx hZ hown (host := "") (Or.inl (hw _ (List.mem_of_getElem? (i := 23) rfl))) Via.refl e19 ST.2.2 (g := (mkF m 10 #[.val (.ref x0)] [(.ref x0)])) rfl (hb hby own_d3_10)
    have pre22 : ∀ t, Steps p.tables e below (T21.setTop (mkF m 13 #[.val (.ref x0)] [(.ref (w 2)), (.ref x0)])) t → Steps p.tables e below (s₁.setTop (entryFrame m #[(.ref x0)] 1)) t := fun tt kk => pre20 tt (by
      show Steps p.tables e below (T19.setTop (mkF m 4 #[.val (.ref x0)] [(.ref (w 1)), (.ref x0)])) _
      refine Jvm.RoadKit.acmp (g := (mkF m 4 #[.val (.ref x0)] [(.ref (w 1)), (.ref x0)])) X19 hx rfl rfl rfl (pc0 := 4) (pc' := 9) (same := false) rfl (hb hby own_d3_4) rfl (decide_eq_false fun q => ha4 (Value.ref.inj q)) (by decide) (by decide) ?_
      show Steps p.tables e below (T19.setTop (mkF m 9 #[.val (.ref x0)] [])) _
      refine XS.aloadN X19.here hx rfl (hb hby own_d3_9) rfl rfl ?_
      show Steps p.tables e below (T19.setTop (mkF m 10 #[.val (.ref x0)] [(.ref x0)])) _
      refine st21 _ ?_
      exact kk)
    by_cases ha13 : x0 = (w 2)
    · obtain ⟨fs, hr, hrun, hended, hW, hsame⟩ := X21.leave (v := some (.int (1 : Int32))) (fun h => by rw [Bd.returns] at h; cases h)
      refine ⟨_, _, pre22 _ ?_, hrun, hended, _, _, rfl, ?_, ⟨_, rfl⟩, hW, hsame.mono (by decide) (by decide)⟩
      · show Steps p.tables e below (T21.setTop (mkF m 13 #[.val (.ref x0)] [(.ref (w 2)), (.ref x0)])) _
        refine Jvm.RoadKit.acmp (g := (mkF m 13 #[.val (.ref x0)] [(.ref (w 2)), (.ref x0)])) X21 hx rfl rfl rfl (pc0 := 13) (pc' := 16) (same := true) rfl (hb hby own_d3_13) rfl (decide_eq_true (congrArg Value.ref ha13)) (by decide) (by decide) ?_
        show Steps p.tables e below (T21.setTop (mkF m 16 #[.val (.ref x0)] [])) _
        refine XS.iconst X21.here hx rfl (hb hby own_d3_16) ?_
        show Steps p.tables e below (T21.setTop (mkF m 17 #[.val (.ref x0)] [(.int (1 : Int32))])) _
        exact retOut X21 hx Bd.returns rfl (Or.inl ⟨rfl, Or.inl rfl, _, rfl⟩) (hb hby own_d3_17) hr
      · show QP (.int (own_rk w x0)) h0 n0 _ T21.heap _
        rw [e21]
        exact ⟨by rw [own_rk]; rw [if_neg ha4, if_pos ha13], N0, rfl⟩
    · obtain ⟨T23, X23, e23, st23⟩ := getS2 X21 hx hZ hown (host := "") (Or.inl (hw _ (List.mem_of_getElem? (i := 21) rfl))) Via.refl e21 ST.1 (g := (mkF m 19 #[.val (.ref x0)] [(.ref x0)])) rfl (hb hby own_d3_19)
      have pre24 : ∀ t, Steps p.tables e below (T23.setTop (mkF m 22 #[.val (.ref x0)] [(.ref (w 0)), (.ref x0)])) t → Steps p.tables e below (s₁.setTop (entryFrame m #[(.ref x0)] 1)) t := fun tt kk => pre22 tt (by
        show Steps p.tables e below (T21.setTop (mkF m 13 #[.val (.ref x0)] [(.ref (w 2)), (.ref x0)])) _
        refine Jvm.RoadKit.acmp (g := (mkF m 13 #[.val (.ref x0)] [(.ref (w 2)), (.ref x0)])) X21 hx rfl rfl rfl (pc0 := 13) (pc' := 18) (same := false) rfl (hb hby own_d3_13) rfl (decide_eq_false fun q => ha13 (Value.ref.inj q)) (by decide) (by decide) ?_
        show Steps p.tables e below (T21.setTop (mkF m 18 #[.val (.ref x0)] [])) _
        refine XS.aloadN X21.here hx rfl (hb hby own_d3_18) rfl rfl ?_
        show Steps p.tables e below (T21.setTop (mkF m 19 #[.val (.ref x0)] [(.ref x0)])) _
        refine st23 _ ?_
        exact kk)
      by_cases ha22 : x0 = (w 0)
      · obtain ⟨fs, hr, hrun, hended, hW, hsame⟩ := X23.leave (v := some (.int (2 : Int32))) (fun h => by rw [Bd.returns] at h; cases h)
        refine ⟨_, _, pre24 _ ?_, hrun, hended, _, _, rfl, ?_, ⟨_, rfl⟩, hW, hsame.mono (by decide) (by decide)⟩
        · show Steps p.tables e below (T23.setTop (mkF m 22 #[.val (.ref x0)] [(.ref (w 0)), (.ref x0)])) _
          refine Jvm.RoadKit.acmp (g := (mkF m 22 #[.val (.ref x0)] [(.ref (w 0)), (.ref x0)])) X23 hx rfl rfl rfl (pc0 := 22) (pc' := 25) (same := true) rfl (hb hby own_d3_22) rfl (decide_eq_true (congrArg Value.ref ha22)) (by decide) (by decide) ?_
          show Steps p.tables e below (T23.setTop (mkF m 25 #[.val (.ref x0)] [])) _
          refine XS.iconst X23.here hx rfl (hb hby own_d3_25) ?_
          show Steps p.tables e below (T23.setTop (mkF m 26 #[.val (.ref x0)] [(.int (2 : Int32))])) _
          exact retOut X23 hx Bd.returns rfl (Or.inl ⟨rfl, Or.inl rfl, _, rfl⟩) (hb hby own_d3_26) hr
        · show QP (.int (own_rk w x0)) h0 n0 _ T23.heap _
          rw [e23]
          exact ⟨by rw [own_rk]; rw [if_neg ha4, if_neg ha13, if_pos ha22], N0, rfl⟩
      · obtain ⟨fs, hr, hrun, hended, hW, hsame⟩ := X23.leave (v := some (.int (-1 : Int32))) (fun h => by rw [Bd.returns] at h; cases h)
        refine ⟨_, _, pre24 _ ?_, hrun, hended, _, _, rfl, ?_, ⟨_, rfl⟩, hW, hsame.mono (by decide) (by decide)⟩
        · show Steps p.tables e below (T23.setTop (mkF m 22 #[.val (.ref x0)] [(.ref (w 0)), (.ref x0)])) _
          refine Jvm.RoadKit.acmp (g := (mkF m 22 #[.val (.ref x0)] [(.ref (w 0)), (.ref x0)])) X23 hx rfl rfl rfl (pc0 := 22) (pc' := 27) (same := false) rfl (hb hby own_d3_22) rfl (decide_eq_false fun q => ha22 (Value.ref.inj q)) (by decide) (by decide) ?_
          show Steps p.tables e below (T23.setTop (mkF m 27 #[.val (.ref x0)] [])) _
          refine XS.iconst X23.here hx rfl (hb hby own_d3_27) ?_
          show Steps p.tables e below (T23.setTop (mkF m 28 #[.val (.ref x0)] [(.int (-1 : Int32))])) _
          exact retOut X23 hx Bd.returns rfl (Or.inl ⟨rfl, Or.inl rfl, _, rfl⟩) (hb hby own_d3_28) hr
        · show QP (.int (own_rk w x0)) h0 n0 _ T23.heap _
          rw [e23]
          exact ⟨by rw [own_rk]; rw [if_neg ha4, if_neg ha13, if_neg ha22], N0, rfl⟩
theorem own_d4_0 : decode jdk_29_method_69_code 0 = .ok (.iload_n 0, 1) := by decide +kernel
theorem own_d4_1 : decode jdk_29_method_69_code 1 = .ok (.iload_n 1, 1) := by decide +kernel
theorem own_d4_2 : decode jdk_29_method_69_code 2 = .ok (.if_icmp .gt 7, 3) := by decide +kernel
theorem own_d4_5 : decode jdk_29_method_69_code 5 = .ok (.iload_n 0, 1) := by decide +kernel
theorem own_d4_6 : decode jdk_29_method_69_code 6 = .ok (.goto 4, 3) := by decide +kernel
theorem own_d4_9 : decode jdk_29_method_69_code 9 = .ok (.iload_n 1, 1) := by decide +kernel
theorem own_d4_10 : decode jdk_29_method_69_code 10 = .ok (.ireturn, 1) := by decide +kernel
set_option maxRecDepth 65536 in
set_option maxHeartbeats 40000000 in
theorem rm_mn (l : Launch) (Z : State) (a0 : Array Value) (hw : ∀ d ∈ tables_1, d.before a0 Z = true) (ws : List Jvm.Cond) (x0 x1 : Int32) (h0 : Heap) (n0 : Nat) (Z0 : n0 ≤ h0.size)  :
    MetFree l (⟨"java/lang/Math", "min", "(II)I"⟩ : MethodName) (head1 (Jvm.Cond.code (⟨"java/lang/Math", "min", "(II)I"⟩ : MethodName) jdk_29_method_69_code 2 (some .int) :: ws) ({ frames := 0, cells := 0, slots := 0, locals := 0 } : Room)) (fun a U => a = #[(.int x0), (.int x1)] ∧ Z.Warmed39 U.vm ∧ U.heap = h0) (fun _ _ _ _ _ => True) (fun _ U o U' => ∃ v L, o = .returned v ∧ QP (.int (own_mn x0 x1)) h0 n0 v U'.heap L ∧ FrameEnd U o U' L ({ frames := 0, cells := 0, slots := 0, locals := 0 } : Room).cells ({ frames := 0, cells := 0, slots := 0, locals := 0 } : Room).slots) := by
  refine MetFree.of_bodySF (Jvm.Free.JP.mathPlain rfl (by decide +kernel)) hisR ?_
  intro p e s m args below meth c s₁ Bd hml0 hP hK
  obtain ⟨rfl, hZ, hh⟩ := hP
  have hx := Bd.exec
  have hby := Bd.bytes
  have hml : c.maxLocals = 2 := hml0
  have hown : s.vm.findClass "java/lang/Math" = some m.cls := findClass_of_methodNamed Bd.named
  have hnm := (name_of_methodNamed Bd.named Bd.method).1
  have X0 : Stand p l e ({ frames := 0, cells := 0, slots := 0, locals := 0 } : Room) s m #[(.int x0), (.int x1)] below meth c s₁ [] 0 0 := Stand.of_body Bd
  have e0 : s₁.heap = h0 := by rw [← hh, Bd.state]; rfl
  have N0 := Fr.nil n0
  have ef0 : entryFrame m #[(.int x0), (.int x1)] 2 = mkF m 0 #[.val (.int x0), .val (.int x1)] [] := by first | (simp [entryFrame, mkF, argsToLocals, Value.category, maxLocals]; done) | rfl
  have pre0 : ∀ t, Steps p.tables e below (s₁.setTop (mkF m 0 #[.val (.int x0), .val (.int x1)] [])) t → Steps p.tables e below (s₁.setTop (entryFrame m #[(.int x0), (.int x1)] 2)) t := fun t k => castTop ef0 k
  have pre25 : ∀ t, Steps p.tables e below (s₁.setTop (mkF m 2 #[.val (.int x0), .val (.int x1)] [(.int x1), (.int x0)])) t → Steps p.tables e below (s₁.setTop (entryFrame m #[(.int x0), (.int x1)] 2)) t := fun tt kk => pre0 tt (by
    show Steps p.tables e below (s₁.setTop (mkF m 0 #[.val (.int x0), .val (.int x1)] [])) _
    refine XS.iloadN X0.here hx rfl (hb hby own_d4_0) rfl ?_
    show Steps p.tables e below (s₁.setTop (mkF m 1 #[.val (.int x0), .val (.int x1)] [(.int x0)])) _
    refine XS.iloadN X0.here hx rfl (hb hby own_d4_1) rfl ?_
    exact kk)
  by_cases hc2 : x1 < x0
  · obtain ⟨fs, hr, hrun, hended, hW, hsame⟩ := X0.leave (v := some (.int x1)) (fun h => by rw [Bd.returns] at h; cases h)
    refine ⟨_, _, pre25 _ ?_, hrun, hended, _, _, rfl, ?_, ⟨_, rfl⟩, hW, hsame.mono (by decide) (by decide)⟩
    · show Steps p.tables e below (s₁.setTop (mkF m 2 #[.val (.int x0), .val (.int x1)] [(.int x1), (.int x0)])) _
      refine XS.icmpYes X0.here hx rfl (pc0 := 2) (pc' := 9) rfl (hb hby own_d4_2) rfl (tlt hc2).2.2.1 (by decide) (by decide) ?_
      show Steps p.tables e below (s₁.setTop (mkF m 9 #[.val (.int x0), .val (.int x1)] [])) _
      refine XS.iloadN X0.here hx rfl (hb hby own_d4_9) rfl ?_
      show Steps p.tables e below (s₁.setTop (mkF m 10 #[.val (.int x0), .val (.int x1)] [(.int x1)])) _
      exact retOut X0 hx Bd.returns rfl (Or.inl ⟨rfl, Or.inl rfl, _, rfl⟩) (hb hby own_d4_10) hr
    · show QP (.int (own_mn x0 x1)) h0 n0 _ s₁.heap _
      rw [e0]
      exact ⟨by rw [own_mn]; rw [if_pos hc2], N0, rfl⟩
  · obtain ⟨fs, hr, hrun, hended, hW, hsame⟩ := X0.leave (v := some (.int x0)) (fun h => by rw [Bd.returns] at h; cases h)
    refine ⟨_, _, pre25 _ ?_, hrun, hended, _, _, rfl, ?_, ⟨_, rfl⟩, hW, hsame.mono (by decide) (by decide)⟩
    · show Steps p.tables e below (s₁.setTop (mkF m 2 #[.val (.int x0), .val (.int x1)] [(.int x1), (.int x0)])) _
      refine XS.icmpNo X0.here hx rfl (hb hby own_d4_2) rfl (flt hc2).2.2.1 ?_
      show Steps p.tables e below (s₁.setTop (mkF m 5 #[.val (.int x0), .val (.int x1)] [])) _
      refine XS.iloadN X0.here hx rfl (hb hby own_d4_5) rfl ?_
      show Steps p.tables e below (s₁.setTop (mkF m 6 #[.val (.int x0), .val (.int x1)] [(.int x0)])) _
      refine XS.goto X0.here hx rfl (pc0 := 6) (pc' := 10) rfl (hb hby own_d4_6) (by decide) (by decide) ?_
      show Steps p.tables e below (s₁.setTop (mkF m 10 #[.val (.int x0), .val (.int x1)] [(.int x0)])) _
      exact retOut X0 hx Bd.returns rfl (Or.inl ⟨rfl, Or.inl rfl, _, rfl⟩) (hb hby own_d4_10) hr
    · show QP (.int (own_mn x0 x1)) h0 n0 _ s₁.heap _
      rw [e0]
      exact ⟨by rw [own_mn]; rw [if_neg hc2], N0, rfl⟩
set_option maxRecDepth 65536 in
set_option maxHeartbeats 40000000 in
theorem rm0 (l : Launch) (Z : State) (a0 : Array Value) (hw : ∀ d ∈ tables_1, d.before a0 Z = true) (ws : List Jvm.Cond) (x0 x1 : Int32) (w : Nat → Addr) (h0 : Heap) (n0 : Nat) (Z0 : n0 ≤ h0.size) (ST : STA Z h0 w) (EX : ∀ i, i < 3 → Exa Z h0 (w i) "com/example/pledgeline/pledgeline/Value$Truth") (INJ : ∀ i j, i < 3 → j < 3 → w i = w j → i = j) :
    MetFree l x (head1 (Jvm.Cond.code x code maxLocals ret :: ws) room_1) (fun a U => a = #[(.int x0), (.int x1)] ∧ Z.Warmed39 U.vm ∧ U.heap = h0) (fun _ _ _ _ _ => True) (fun _ U o U' => ∃ v L, o = .returned v ∧ Q1 n0 v U'.heap L ∧ FrameEnd U o U' L room_1.cells room_1.slots) := by
  refine MetFree.of_bodySF (plainFor_of_name (by first | (simp [plainName, overriddenIn]; done) | decide +kernel)) hisR ?_
  intro p e s m args below meth c s₁ Bd hml0 hP hK
  obtain ⟨rfl, hZ, hh⟩ := hP
  have hx := Bd.exec
  have hby := Bd.bytes
  have hml : c.maxLocals = 5 := hml0
  have hown : s.vm.findClass "com/example/pledgeline/pledgeline/TruthAndPinLaw" = some m.cls := findClass_of_methodNamed Bd.named
  have hnm := (name_of_methodNamed Bd.named Bd.method).1
  have X0 : Stand p l e room_1 s m #[(.int x0), (.int x1)] below meth c s₁ [] 0 0 := Stand.of_body Bd
  have e0 : s₁.heap = h0 := by rw [← hh, Bd.state]; rfl
  have N0 := Fr.nil n0
  have ef0 : entryFrame m #[(.int x0), (.int x1)] maxLocals = mkF m 0 #[.val (.int x0), .val (.int x1), .unset, .unset, .unset] [] := by first | (simp [entryFrame, mkF, argsToLocals, Value.category, maxLocals]; done) | rfl
  have pre0 : ∀ t, Steps p.tables e below (s₁.setTop (mkF m 0 #[.val (.int x0), .val (.int x1), .unset, .unset, .unset] [])) t → Steps p.tables e below (s₁.setTop (entryFrame m #[(.int x0), (.int x1)] maxLocals)) t := fun t k => castTop ef0 k
  obtain ⟨a, ea⟩ : ∃ a, a = own_pk ((x0 &&& (2147483647 : Int32)) % (3 : Int32)) := ⟨_, rfl⟩
  have ha : a < 3 := by rw [ea]; exact own_pk_lt _
  obtain ⟨b, eb⟩ : ∃ b, b = own_pk ((x1 &&& (2147483647 : Int32)) % (3 : Int32)) := ⟨_, rfl⟩
  have hb_ : b < 3 := by rw [eb]; exact own_pk_lt _
  obtain ⟨vv26, _, ⟨T26, L26, k26, n26⟩, -, X26, ⟨Lc26, hQ26, l26, y26, z26⟩, st26⟩ := Jvm.LawKit.callS X0 hx (y := (⟨"com/example/pledgeline/pledgeline/TruthAndPinLaw", "pick", "(I)Lcom/example/pledgeline/pledgeline/Value$Truth;"⟩ : MethodName)) hown (mvT hZ (hw _ (List.mem_of_getElem? (i := 0) rfl))) (mvT hZ (hw _ (List.mem_of_getElem? (i := 1) rfl))) (mvT hZ (hw _ (List.mem_of_getElem? (i := 2) rfl))) (mvT hZ (hw _ (List.mem_of_getElem? (i := 3) rfl))) (by decide) (backOf (W := 0) (rm_pick l Z a0 hw [] x0 w h0 n0 Z0 ST) hZ (hw _ (List.mem_of_getElem? (i := 3) rfl)) (hw _ (List.mem_of_getElem? (i := 2) rfl)) (by decide) (by decide)) (g := (mkF m 1 #[.val (.int x0), .val (.int x1), .unset, .unset, .unset] [(.int x0)])) rfl (by rw [hml]; rfl) (argsL := [(.int x0)]) (rest := []) (lenOf own_pd_0 rfl) rfl (by show 2 * 0 + _ ≤ _; exact Nat.le_of_eq rfl) (hb hby at_1) (fun _ _ => ⟨rfl, e0, (by decide : 0 + 0 ≤ _), (by decide : 0 + 0 ≤ _)⟩)
  dsimp only [Pt.U, Pt.locs, Pt.cells, Pt.slots] at X26 l26 y26 z26 st26 hQ26
  subst l26 y26 z26
  rw [← ea] at hQ26
  obtain ⟨rfl, N26q, e26⟩ := hQ26
  have N26 := Fr.app N0 N26q
  obtain ⟨vv27, _, ⟨T27, L27, k27, n27⟩, -, X27, ⟨Lc27, hQ27, l27, y27, z27⟩, st27⟩ := Jvm.LawKit.callS X26 hx (y := (⟨"com/example/pledgeline/pledgeline/TruthAndPinLaw", "pick", "(I)Lcom/example/pledgeline/pledgeline/Value$Truth;"⟩ : MethodName)) hown (mvT hZ (hw _ (List.mem_of_getElem? (i := 0) rfl))) (mvT hZ (hw _ (List.mem_of_getElem? (i := 1) rfl))) (mvT hZ (hw _ (List.mem_of_getElem? (i := 2) rfl))) (mvT hZ (hw _ (List.mem_of_getElem? (i := 3) rfl))) (by decide) (backOf (W := 0) (rm_pick l Z a0 hw [] x1 w h0 n0 Z0 ST) hZ (hw _ (List.mem_of_getElem? (i := 3) rfl)) (hw _ (List.mem_of_getElem? (i := 2) rfl)) (by decide) (by decide)) (g := (mkF m 6 #[.val (.int x0), .val (.int x1), .val (.ref (w a)), .unset, .unset] [(.int x1)])) rfl (by rw [hml]; rfl) (argsL := [(.int x1)]) (rest := []) (lenOf own_pd_0 rfl) rfl (by show 2 * 0 + _ ≤ _; exact Nat.le_of_eq rfl) (hb hby at_6) (fun _ _ => ⟨rfl, e26, (by decide : 0 + 0 ≤ _), (by decide : 0 + 0 ≤ _)⟩)
  dsimp only [Pt.U, Pt.locs, Pt.cells, Pt.slots] at X27 l27 y27 z27 st27 hQ27
  subst l27 y27 z27
  rw [← eb] at hQ27
  obtain ⟨rfl, N27q, e27⟩ := hQ27
  have N27 := Fr.app N26 N27q
  obtain ⟨cq28, kq28, q28a, q28b, q28c⟩ := isOf hZ e27 (EX a ha)
  obtain ⟨vv28, _, ⟨T28, L28, k28, n28⟩, -, X28, ⟨Lc28, hQ28, l28, y28, z28⟩, st28⟩ := X27.virtualBack hx (y := (⟨"com/example/pledgeline/pledgeline/Value$Truth", "and", "(Lcom/example/pledgeline/pledgeline/Value$Truth;)Lcom/example/pledgeline/pledgeline/Value$Truth;"⟩ : MethodName)) (z := (⟨"com/example/pledgeline/pledgeline/Value$Truth", "and", "(Lcom/example/pledgeline/pledgeline/Value$Truth;)Lcom/example/pledgeline/pledgeline/Value$Truth;"⟩ : MethodName)) hown (mvT hZ (hw _ (List.mem_of_getElem? (i := 8) rfl))) (mvT hZ (hw _ (List.mem_of_getElem? (i := 9) rfl))) (notFace_of_selects (args := #[]) (mvT hZ (hw _ (List.mem_of_getElem? (i := 11) rfl)))) (mvT hZ (hw _ (List.mem_of_getElem? (i := 11) rfl))) (mvT hZ (hw _ (List.mem_of_getElem? (i := 10) rfl))) (by decide) (backOf (W := 0) (rm_an l Z a0 hw [] (w a) (w b) w h0 n0 Z0 ST) hZ (hw _ (List.mem_of_getElem? (i := 12) rfl)) (hw _ (List.mem_of_getElem? (i := 6) rfl)) (by decide) (by decide)) q28a q28c (g := (mkF m 12 #[.val (.int x0), .val (.int x1), .val (.ref (w a)), .val (.ref (w b)), .unset] [(.ref (w b)), (.ref (w a))])) rfl (by rw [hml]; rfl) (Steps.refl _) (argsL := [(.ref (w b))]) (rest := []) (lenOf own_pd_1 rfl) rfl (by show 2 * 0 + _ ≤ _; exact Nat.le_of_eq rfl) (hb hby at_12) (fun _ _ => ⟨rfl, e27, (by decide : 0 + 0 ≤ _), (by decide : 0 + 0 ≤ _)⟩)
  dsimp only [Pt.U, Pt.locs, Pt.cells, Pt.slots] at X28 l28 y28 z28 st28 hQ28
  subst l28 y28 z28
  obtain ⟨rfl, N28q, e28⟩ := hQ28
  have N28 := Fr.app N27 N28q
  obtain ⟨vv29, _, ⟨T29, L29, k29, n29⟩, -, X29, ⟨Lc29, hQ29, l29, y29, z29⟩, st29⟩ := Jvm.LawKit.callS X28 hx (y := (⟨"com/example/pledgeline/pledgeline/TruthAndPinLaw", "rank", "(Lcom/example/pledgeline/pledgeline/Value$Truth;)I"⟩ : MethodName)) hown (mvT hZ (hw _ (List.mem_of_getElem? (i := 14) rfl))) (mvT hZ (hw _ (List.mem_of_getElem? (i := 15) rfl))) (mvT hZ (hw _ (List.mem_of_getElem? (i := 2) rfl))) (mvT hZ (hw _ (List.mem_of_getElem? (i := 16) rfl))) (by decide) (backOf (W := 0) (rm_rk l Z a0 hw [] (own_an w (w a) (w b)) w h0 n0 Z0 ST) hZ (hw _ (List.mem_of_getElem? (i := 16) rfl)) (hw _ (List.mem_of_getElem? (i := 2) rfl)) (by decide) (by decide)) (g := (mkF m 19 #[.val (.int x0), .val (.int x1), .val (.ref (w a)), .val (.ref (w b)), .val (.ref (own_an w (w a) (w b)))] [(.ref (own_an w (w a) (w b)))])) rfl (by rw [hml]; rfl) (argsL := [(.ref (own_an w (w a) (w b)))]) (rest := []) (lenOf own_pd_2 rfl) rfl (by show 2 * 0 + _ ≤ _; exact Nat.le_of_eq rfl) (hb hby at_19) (fun _ _ => ⟨rfl, e28, (by decide : 0 + 0 ≤ _), (by decide : 0 + 0 ≤ _)⟩)
  dsimp only [Pt.U, Pt.locs, Pt.cells, Pt.slots] at X29 l29 y29 z29 st29 hQ29
  subst l29 y29 z29
  obtain ⟨rfl, N29q, e29⟩ := hQ29
  have N29 := Fr.app N28 N29q
  obtain ⟨vv30, _, ⟨T30, L30, k30, n30⟩, -, X30, ⟨Lc30, hQ30, l30, y30, z30⟩, st30⟩ := Jvm.LawKit.callS X29 hx (y := (⟨"com/example/pledgeline/pledgeline/TruthAndPinLaw", "rank", "(Lcom/example/pledgeline/pledgeline/Value$Truth;)I"⟩ : MethodName)) hown (mvT hZ (hw _ (List.mem_of_getElem? (i := 14) rfl))) (mvT hZ (hw _ (List.mem_of_getElem? (i := 15) rfl))) (mvT hZ (hw _ (List.mem_of_getElem? (i := 2) rfl))) (mvT hZ (hw _ (List.mem_of_getElem? (i := 16) rfl))) (by decide) (backOf (W := 1) (rm_rk l Z a0 hw [] (w a) w h0 n0 Z0 ST) hZ (hw _ (List.mem_of_getElem? (i := 16) rfl)) (hw _ (List.mem_of_getElem? (i := 2) rfl)) (by decide) (by decide)) (g := (mkF m 23 #[.val (.int x0), .val (.int x1), .val (.ref (w a)), .val (.ref (w b)), .val (.ref (own_an w (w a) (w b)))] [(.ref (w a)), (.int (own_rk w (own_an w (w a) (w b))))])) rfl (by rw [hml]; rfl) (argsL := [(.ref (w a))]) (rest := [(.int (own_rk w (own_an w (w a) (w b))))]) (lenOf own_pd_2 rfl) rfl (by show 2 * 0 + _ ≤ _; exact Nat.le_of_eq rfl) (hb hby at_23) (fun _ _ => ⟨rfl, e29, (by decide : 0 + 0 ≤ _), (by decide : 0 + 0 ≤ _)⟩)
  dsimp only [Pt.U, Pt.locs, Pt.cells, Pt.slots] at X30 l30 y30 z30 st30 hQ30
  subst l30 y30 z30
  obtain ⟨rfl, N30q, e30⟩ := hQ30
  have N30 := Fr.app N29 N30q
  obtain ⟨vv31, _, ⟨T31, L31, k31, n31⟩, -, X31, ⟨Lc31, hQ31, l31, y31, z31⟩, st31⟩ := Jvm.LawKit.callS X30 hx (y := (⟨"com/example/pledgeline/pledgeline/TruthAndPinLaw", "rank", "(Lcom/example/pledgeline/pledgeline/Value$Truth;)I"⟩ : MethodName)) hown (mvT hZ (hw _ (List.mem_of_getElem? (i := 14) rfl))) (mvT hZ (hw _ (List.mem_of_getElem? (i := 15) rfl))) (mvT hZ (hw _ (List.mem_of_getElem? (i := 2) rfl))) (mvT hZ (hw _ (List.mem_of_getElem? (i := 16) rfl))) (by decide) (backOf (W := 2) (rm_rk l Z a0 hw [] (w b) w h0 n0 Z0 ST) hZ (hw _ (List.mem_of_getElem? (i := 16) rfl)) (hw _ (List.mem_of_getElem? (i := 2) rfl)) (by decide) (by decide)) (g := (mkF m 27 #[.val (.int x0), .val (.int x1), .val (.ref (w a)), .val (.ref (w b)), .val (.ref (own_an w (w a) (w b)))] [(.ref (w b)), (.int (own_rk w (w a))), (.int (own_rk w (own_an w (w a) (w b))))])) rfl (by rw [hml]; rfl) (argsL := [(.ref (w b))]) (rest := [(.int (own_rk w (w a))), (.int (own_rk w (own_an w (w a) (w b))))]) (lenOf own_pd_2 rfl) rfl (by show 2 * 0 + _ ≤ _; exact Nat.le_of_eq rfl) (hb hby at_27) (fun _ _ => ⟨rfl, e30, (by decide : 0 + 0 ≤ _), (by decide : 0 + 0 ≤ _)⟩)
  dsimp only [Pt.U, Pt.locs, Pt.cells, Pt.slots] at X31 l31 y31 z31 st31 hQ31
  subst l31 y31 z31
  obtain ⟨rfl, N31q, e31⟩ := hQ31
  have N31 := Fr.app N30 N31q
  obtain ⟨vv32, _, ⟨T32, L32, k32, n32⟩, -, X32, ⟨Lc32, hQ32, l32, y32, z32⟩, st32⟩ := Jvm.LawKit.callS X31 hx (y := (⟨"java/lang/Math", "min", "(II)I"⟩ : MethodName)) hown (mvT hZ (hw _ (List.mem_of_getElem? (i := 17) rfl))) (mvT hZ (hw _ (List.mem_of_getElem? (i := 18) rfl))) (mvT hZ (hw _ (List.mem_of_getElem? (i := 19) rfl))) (mvT hZ (hw _ (List.mem_of_getElem? (i := 20) rfl))) (by decide) (backOf (W := 1) (rm_mn l Z a0 hw [] (own_rk w (w a)) (own_rk w (w b)) h0 n0 Z0 ) hZ (hw _ (List.mem_of_getElem? (i := 20) rfl)) (hw _ (List.mem_of_getElem? (i := 19) rfl)) (by decide) (by decide)) (g := (mkF m 30 #[.val (.int x0), .val (.int x1), .val (.ref (w a)), .val (.ref (w b)), .val (.ref (own_an w (w a) (w b)))] [(.int (own_rk w (w b))), (.int (own_rk w (w a))), (.int (own_rk w (own_an w (w a) (w b))))])) rfl (by rw [hml]; rfl) (argsL := [(.int (own_rk w (w a))), (.int (own_rk w (w b)))]) (rest := [(.int (own_rk w (own_an w (w a) (w b))))]) (lenOf own_pd_3 rfl) rfl (by show 2 * 0 + _ ≤ _; exact Nat.le_of_eq rfl) (hb hby at_30) (fun _ _ => ⟨rfl, e31, (by decide : 0 + 0 ≤ _), (by decide : 0 + 0 ≤ _)⟩)
  dsimp only [Pt.U, Pt.locs, Pt.cells, Pt.slots] at X32 l32 y32 z32 st32 hQ32
  subst l32 y32 z32
  obtain ⟨rfl, N32q, e32⟩ := hQ32
  have N32 := Fr.app N31 N32q
  have pre33 : ∀ t, Steps p.tables e below (T32.setTop (mkF m 33 #[.val (.int x0), .val (.int x1), .val (.ref (w a)), .val (.ref (w b)), .val (.ref (own_an w (w a) (w b)))] [(.int (own_mn (own_rk w (w a)) (own_rk w (w b)))), (.int (own_rk w (own_an w (w a) (w b))))])) t → Steps p.tables e below (s₁.setTop (entryFrame m #[(.int x0), (.int x1)] maxLocals)) t := fun tt kk => pre0 tt (by
    show Steps p.tables e below (s₁.setTop (mkF m 0 #[.val (.int x0), .val (.int x1), .unset, .unset, .unset] [])) _
    refine XS.iloadN X0.here hx rfl (hb hby at_0) rfl ?_
    show Steps p.tables e below (s₁.setTop (mkF m 1 #[.val (.int x0), .val (.int x1), .unset, .unset, .unset] [(.int x0)])) _
    refine st26 _ ?_
    show Steps p.tables e below (T26.setTop (mkF m 4 #[.val (.int x0), .val (.int x1), .unset, .unset, .unset] [(.ref (w a))])) _
    refine XS.astoreN X26.here hx rfl (hb hby at_4) rfl rfl (l' := #[.val (.int x0), .val (.int x1), .val (.ref (w a)), .unset, .unset]) rfl ?_
    show Steps p.tables e below (T26.setTop (mkF m 5 #[.val (.int x0), .val (.int x1), .val (.ref (w a)), .unset, .unset] [])) _
    refine XS.iloadN X26.here hx rfl (hb hby at_5) rfl ?_
    show Steps p.tables e below (T26.setTop (mkF m 6 #[.val (.int x0), .val (.int x1), .val (.ref (w a)), .unset, .unset] [(.int x1)])) _
    refine st27 _ ?_
    show Steps p.tables e below (T27.setTop (mkF m 9 #[.val (.int x0), .val (.int x1), .val (.ref (w a)), .unset, .unset] [(.ref (w b))])) _
    refine XS.astoreN X27.here hx rfl (hb hby at_9) rfl rfl (l' := #[.val (.int x0), .val (.int x1), .val (.ref (w a)), .val (.ref (w b)), .unset]) rfl ?_
    show Steps p.tables e below (T27.setTop (mkF m 10 #[.val (.int x0), .val (.int x1), .val (.ref (w a)), .val (.ref (w b)), .unset] [])) _
    refine XS.aloadN X27.here hx rfl (hb hby at_10) rfl rfl ?_
    show Steps p.tables e below (T27.setTop (mkF m 11 #[.val (.int x0), .val (.int x1), .val (.ref (w a)), .val (.ref (w b)), .unset] [(.ref (w a))])) _
    refine XS.aloadN X27.here hx rfl (hb hby at_11) rfl rfl ?_
    show Steps p.tables e below (T27.setTop (mkF m 12 #[.val (.int x0), .val (.int x1), .val (.ref (w a)), .val (.ref (w b)), .unset] [(.ref (w b)), (.ref (w a))])) _
    refine st28.trans ?_
    show Steps p.tables e below (T28.setTop (mkF m 15 #[.val (.int x0), .val (.int x1), .val (.ref (w a)), .val (.ref (w b)), .unset] [(.ref (own_an w (w a) (w b)))])) _
    refine XS.astore X28.here hx rfl (hb hby at_15) rfl rfl (l' := #[.val (.int x0), .val (.int x1), .val (.ref (w a)), .val (.ref (w b)), .val (.ref (own_an w (w a) (w b)))]) rfl ?_
    show Steps p.tables e below (T28.setTop (mkF m 17 #[.val (.int x0), .val (.int x1), .val (.ref (w a)), .val (.ref (w b)), .val (.ref (own_an w (w a) (w b)))] [])) _
    refine XS.aload X28.here hx rfl (hb hby at_17) rfl rfl ?_
    show Steps p.tables e below (T28.setTop (mkF m 19 #[.val (.int x0), .val (.int x1), .val (.ref (w a)), .val (.ref (w b)), .val (.ref (own_an w (w a) (w b)))] [(.ref (own_an w (w a) (w b)))])) _
    refine st29 _ ?_
    show Steps p.tables e below (T29.setTop (mkF m 22 #[.val (.int x0), .val (.int x1), .val (.ref (w a)), .val (.ref (w b)), .val (.ref (own_an w (w a) (w b)))] [(.int (own_rk w (own_an w (w a) (w b))))])) _
    refine XS.aloadN X29.here hx rfl (hb hby at_22) rfl rfl ?_
    show Steps p.tables e below (T29.setTop (mkF m 23 #[.val (.int x0), .val (.int x1), .val (.ref (w a)), .val (.ref (w b)), .val (.ref (own_an w (w a) (w b)))] [(.ref (w a)), (.int (own_rk w (own_an w (w a) (w b))))])) _
    refine st30 _ ?_
    show Steps p.tables e below (T30.setTop (mkF m 26 #[.val (.int x0), .val (.int x1), .val (.ref (w a)), .val (.ref (w b)), .val (.ref (own_an w (w a) (w b)))] [(.int (own_rk w (w a))), (.int (own_rk w (own_an w (w a) (w b))))])) _
    refine XS.aloadN X30.here hx rfl (hb hby at_26) rfl rfl ?_
    show Steps p.tables e below (T30.setTop (mkF m 27 #[.val (.int x0), .val (.int x1), .val (.ref (w a)), .val (.ref (w b)), .val (.ref (own_an w (w a) (w b)))] [(.ref (w b)), (.int (own_rk w (w a))), (.int (own_rk w (own_an w (w a) (w b))))])) _
    refine st31 _ ?_
    show Steps p.tables e below (T31.setTop (mkF m 30 #[.val (.int x0), .val (.int x1), .val (.ref (w a)), .val (.ref (w b)), .val (.ref (own_an w (w a) (w b)))] [(.int (own_rk w (w b))), (.int (own_rk w (w a))), (.int (own_rk w (own_an w (w a) (w b))))])) _
    refine st32 _ ?_
    exact kk)
  obtain ⟨fs, hr, hrun, hended, hW, hsame⟩ := X32.leave (v := some (.int (1 : Int32))) (fun h => by rw [Bd.returns] at h; cases h)
  refine ⟨_, _, pre33 _ ?_, hrun, hended, _, _, rfl, ?_, ⟨_, rfl⟩, hW, hsame.mono (by decide) (by decide)⟩
  · show Steps p.tables e below (T32.setTop (mkF m 33 #[.val (.int x0), .val (.int x1), .val (.ref (w a)), .val (.ref (w b)), .val (.ref (own_an w (w a) (w b)))] [(.int (own_mn (own_rk w (w a)) (own_rk w (w b)))), (.int (own_rk w (own_an w (w a) (w b))))])) _
    refine XS.icmpNo X32.here hx rfl (hb hby at_33) rfl (teq (own_law INJ ha hb_)).2 ?_
    show Steps p.tables e below (T32.setTop (mkF m 36 #[.val (.int x0), .val (.int x1), .val (.ref (w a)), .val (.ref (w b)), .val (.ref (own_an w (w a) (w b)))] [])) _
    refine XS.iconst X32.here hx rfl (hb hby at_36) ?_
    show Steps p.tables e below (T32.setTop (mkF m 37 #[.val (.int x0), .val (.int x1), .val (.ref (w a)), .val (.ref (w b)), .val (.ref (own_an w (w a) (w b)))] [(.int (1 : Int32))])) _
    refine XS.goto X32.here hx rfl (pc0 := 37) (pc' := 41) rfl (hb hby at_37) (by decide) (by decide) ?_
    show Steps p.tables e below (T32.setTop (mkF m 41 #[.val (.int x0), .val (.int x1), .val (.ref (w a)), .val (.ref (w b)), .val (.ref (own_an w (w a) (w b)))] [(.int (1 : Int32))])) _
    exact retN X32 hx (t := .boolean) Bd.returns (by simp) (hb hby at_41) hr
  · exact ⟨rfl, N32⟩
set_option maxRecDepth 65536 in
set_option maxHeartbeats 40000000 in
theorem comes_1 {Post : Tables → Env → Array Value → State → Outcome → State → Prop} (hpost : ∀ tb e args s v u, (limb_1_1.after args s (.returned v) u = true ∧ limb_1_2.after args s (.returned v) u = true ∧ True) → FrameEnd s (.returned v) u (Jvm.fieldLocs frame_1_writes args s ++ Jvm.arrayLocs frame_1_arrays args s ++ Jvm.staticLocs frame_1_statics s) 0 0 → Post tb e args s (.returned v) u) :
    ArmFor flags0 classFile x code maxLocals ret World_1 tables_1 room_1 Calls_1 rest_1 Pre_1 Post := by
  intro l hfl _ _ p e ha hc hk s m args below hf hA hF happ hP
  obtain ⟨hcalls, hrest, hpre⟩ := hP
  obtain ⟨-, -, -, hnamed, -, -, -, hat⟩ := (Spec.applies_iff hf).mp happ
  obtain ⟨hg, hn⟩ := and_e (Cond.before_iff.mp (show (Jvm.Cond.and given_1 narrow_1).before args s = true from hpre))
  obtain ⟨g0, g0r⟩ := and_e hg
  obtain ⟨g1, g1r⟩ := and_e g0r
  obtain ⟨w0_, w1_, rfl⟩ : ∃ w0_ w1_ : Value, args = #[w0_, w1_] := by
    have hs : args.size = 2 := by simpa [Cond.value, given_1] using g0
    obtain ⟨L⟩ := args
    match L, hs with
    | [w0_, w1_], _ => exact ⟨w0_, w1_, rfl⟩
  have hw := fun d (hd : d ∈ tables_1) => atoms_spec (ws := Jvm.Cond.code x code maxLocals ret :: tables_1) hat d (List.mem_cons_of_mem _ hd)
  have hfit : Fit s := fun {y c} hc i hi => by
    obtain ⟨ha, rfl⟩ := Array.getElem?_eq_some_iff.mp hc
    have q := List.all_eq_true.mp ((Array.all_eq_true_iff_forall_mem.mp hF) _ (Array.getElem_mem ha)) i (List.mem_range.mpr hi)
    simpa [Array.getElem?_eq_getElem hi] using q
  obtain ⟨i0, ei0⟩ := is_v g1
  obtain rfl : w0_ = (.int i0) := Option.some.inj ei0
  obtain ⟨i1, ei1⟩ := is_v g1r
  obtain rfl : w1_ = (.int i1) := Option.some.inj ei1
  obtain ⟨n0, n0r⟩ := and_e hn
  obtain ⟨n1, n1r⟩ := and_e n0r
  obtain ⟨n2, n2r⟩ := and_e n1r
  obtain ⟨n3, n3r⟩ := and_e n2r
  obtain ⟨n4, n4r⟩ := and_e n3r
  obtain ⟨v0, ev0⟩ := exa_v n1
  have S0 : Sta s s.heap "com/example/pledgeline/pledgeline/Value$Truth" "TRUE" "Lcom/example/pledgeline/pledgeline/Value$Truth;" (.ref v0) := Sta.start ev0 (Or.inr ⟨(hw _ (List.mem_of_getElem? (i := 6) rfl)), (hw _ (List.mem_of_getElem? (i := 22) rfl))⟩)
  have E0 : Exa s s.heap v0 "com/example/pledgeline/pledgeline/Value$Truth" := Exa.start ev0 n1
  obtain ⟨v1, ev1⟩ := exa_v n0
  have S1 : Sta s s.heap "com/example/pledgeline/pledgeline/Value$Truth" "FALSE" "Lcom/example/pledgeline/pledgeline/Value$Truth;" (.ref v1) := Sta.start ev1 (Or.inr ⟨(hw _ (List.mem_of_getElem? (i := 6) rfl)), (hw _ (List.mem_of_getElem? (i := 7) rfl))⟩)
  have E1 : Exa s s.heap v1 "com/example/pledgeline/pledgeline/Value$Truth" := Exa.start ev1 n0
  obtain ⟨v2, ev2⟩ := exa_v n2
  have S2 : Sta s s.heap "com/example/pledgeline/pledgeline/Value$Truth" "UNKNOWN" "Lcom/example/pledgeline/pledgeline/Value$Truth;" (.ref v2) := Sta.start ev2 (Or.inr ⟨(hw _ (List.mem_of_getElem? (i := 6) rfl)), (hw _ (List.mem_of_getElem? (i := 24) rfl))⟩)
  have E2 : Exa s s.heap v2 "com/example/pledgeline/pledgeline/Value$Truth" := Exa.start ev2 n2
  have F0 := own_fld ev0 n3
  have F1 := own_fld ev1 n4
  have F2 := own_fld ev2 n4r
  obtain ⟨n, o, h1, h2, h3, _, L, rfl, ⟨rfl, N⟩, hq⟩ := rm0 l s _ hw tables_1 i0 i1 (fun i => [v0, v1, v2].getD i 0) s.heap s.heap.size (Nat.le_refl _) ⟨S0, S1, S2⟩ (fun i hi => match i, hi with | 0, _ => E0 | 1, _ => E1 | 2, _ => E2 | i + 3, hi => absurd hi (by omega)) (own_inj (n := 3) (by decide) (fun i hi => match i, hi with | 0, _ => F0 | 1, _ => F1 | 2, _ => F2 | i + 3, hi => absurd hi (by omega))) p e ha hc hk s m _ below hf ((Spec.applies_iff_loose hf).mp happ).1 ⟨rfl, State.Warmed39.refl s, rfl⟩ trivial
  refine ⟨n, _, h1, h2, h3, hpost _ _ _ _ _ _ ⟨Cond.after_iff.mpr rfl, Cond.after_iff.mpr (eq_i res_at (Term.int_eval (1)) rfl), trivial⟩ ⟨hq.1, hq.2.1, (hq.2.2.sift fun y hy => Or.inr (N y hy)).mono (by decide) (by decide)⟩⟩
theorem main_1_1 : Claimed_1_1 := comes_1 fun _ _ _ _ _ _ h hF => ⟨h.1, hF⟩
theorem main_1_2 : Claimed_1_2 := comes_1 fun _ _ _ _ _ _ h hF => ⟨h.2.1, hF⟩
end Jvm.Pilot.@@N@@
namespace Jvm.Pilot.@@N@@
open Jvm Jvm.ClassFile Sem Op Lib Jvm.Free Jvm.Stand Jvm.Pilot.@@N@@.Jvm.D
/-! MADE BY PROGRAM (witnessworld.py) out of the Statement's table words and the real class files: 14 classes; the members and pool entries that the words name. The judged class is class 1, her method 3. -/
namespace start1
open Jvm.ClassFile
def u (s : String) : CpInfo := .utf8 (stringToUtf16 s)
/-- a pool by its gaps: so many unusable entries, then the entry; so many at the end -/
def gap : Nat → List CpInfo → List CpInfo
  | 0, r => r
  | n + 1, r => .unusable :: gap n r
def poolList (es : List (Nat × CpInfo)) (last : Nat) : List CpInfo := es.foldr (fun e r => gap e.1 (e.2 :: r)) (gap last [])
def pool (es : List (Nat × CpInfo)) (last : Nat) : Array CpInfo := ⟨poolList es last⟩
def fileOf (pool : Array CpInfo) (this : Nat) (attrs : Array Attribute := #[]) (ms : Array MethodInfo := #[]) (fl : Nat := 33) (sup : Nat := 0) (ifs : Array Nat := #[]) (fds : Array FieldInfo := #[]) : ClassFile where
  minorVersion := 0
  majorVersion := 65
  constantPool := pool
  accessFlags := fl
  thisClass := this
  superClass := sup
  interfaces := ifs
  fields := fds
  methods := ms
  attributes := attrs
def plain (name : String) (sup : Option ClassId) : Class where
  name := name
  kind := .ordinary
  loader := none
  accessFlags := 33
  super := sup
  interfaces := #[]
  cf := none
  fields := #[]
  methods := #[]
  instanceTypes := #[]
  staticTypes := #[]
  resolved := #[]
  callSites := []
  init := .initialized
  statics := none
  mirror := none

def pool0 : Array CpInfo := pool [(5, u "<init>"), (0, u "()V"), (1, .class_ 10), (1, u "java/lang/Object")] 113

def k0m0 : Method := { name := "<init>", desc := "()V", sig := { parameters := [], returnType := none }, accessFlags := 1, code := none }
/-- java/lang/Object -/
def k0 : Class := { plain "java/lang/Object" none with
  accessFlags := 33
  interfaces := #[]
  cf := some (fileOf pool0 8 #[] #[{ accessFlags := 1, nameIndex := 5, descriptorIndex := 6, attributes := #[] }] 33 0 #[] #[])
  fields := #[]
  methods := #[k0m0]
  instanceTypes := #[]
  staticTypes := #[]
  resolved := Array.replicate 124 none
  statics := none }

def pool1 : Array CpInfo := pool [(2, .class_ 4), (1, u "java/lang/Object"), (0, u "<init>"), (0, u "()V"), (0, .integer 2147483647), (0, .fieldref 9 10), (0, .class_ 11), (0, .nameAndType 12 13), (0, u "com/example/pledgeline/pledgeline/Value$Truth"), (0, u "FALSE"), (0, u "Lcom/example/pledgeline/pledgeline/Value$Truth;"), (0, .fieldref 9 15), (0, .nameAndType 16 13), (0, u "UNKNOWN"), (0, .fieldref 9 18), (0, .nameAndType 19 13), (0, u "TRUE"), (0, .methodref 21 22), (0, .class_ 23), (0, .nameAndType 24 25), (0, u "com/example/pledgeline/pledgeline/TruthAndPinLaw"), (0, u "pick"), (0, u "(I)Lcom/example/pledgeline/pledgeline/Value$Truth;"), (0, .methodref 9 27), (0, .nameAndType 28 29), (0, u "and"), (0, u "(Lcom/example/pledgeline/pledgeline/Value$Truth;)Lcom/example/pledgeline/pledgeline/Value$Truth;"), (0, .methodref 21 31), (0, .nameAndType 32 33), (0, u "rank"), (0, u "(Lcom/example/pledgeline/pledgeline/Value$Truth;)I"), (0, .methodref 35 36), (0, .class_ 37), (0, .nameAndType 38 39), (0, u "java/lang/Math"), (0, u "min"), (0, u "(II)I"), (3, u "law"), (0, u "(II)Z")] 6

def k1m0 : Method := { name := "<init>", desc := "()V", sig := { parameters := [], returnType := none }, accessFlags := 2, code := none }
def k1c1 : Code := { maxStack := 2, maxLocals := 2, code := method_2_code, exceptionTable := #[], attributes := #[] }
def k1m1 : Method := { name := "pick", desc := "(I)Lcom/example/pledgeline/pledgeline/Value$Truth;", sig := { parameters := [.int], returnType := some (.object "com/example/pledgeline/pledgeline/Value$Truth") }, accessFlags := 10, code := some k1c1 }
def k1c2 : Code := { maxStack := 2, maxLocals := 1, code := method_3_code, exceptionTable := #[], attributes := #[] }
def k1m2 : Method := { name := "rank", desc := "(Lcom/example/pledgeline/pledgeline/Value$Truth;)I", sig := { parameters := [(.object "com/example/pledgeline/pledgeline/Value$Truth")], returnType := some .int }, accessFlags := 10, code := some k1c2 }
def k1c3 : Code := { maxStack := 3, maxLocals := 5, code := code, exceptionTable := #[], attributes := #[] }
def k1m3 : Method := { name := "law", desc := "(II)Z", sig := { parameters := [.int, .int], returnType := some .boolean }, accessFlags := 9, code := some k1c3 }
/-- com/example/pledgeline/pledgeline/TruthAndPinLaw -/
def k1 : Class := { plain "com/example/pledgeline/pledgeline/TruthAndPinLaw" (some 0) with
  accessFlags := 49
  interfaces := #[]
  cf := some (fileOf pool1 21 #[] #[{ accessFlags := 2, nameIndex := 5, descriptorIndex := 6, attributes := #[] }, { accessFlags := 10, nameIndex := 24, descriptorIndex := 25, attributes := #[] }, { accessFlags := 10, nameIndex := 32, descriptorIndex := 33, attributes := #[] }, { accessFlags := 9, nameIndex := 43, descriptorIndex := 44, attributes := #[] }] 49 2 #[] #[])
  fields := #[]
  methods := #[k1m0, k1m1, k1m2, k1m3]
  instanceTypes := #[]
  staticTypes := #[]
  resolved := Array.replicate 51 none
  statics := none }

def pool2 : Array CpInfo := pool [(1, .class_ 2), (0, u "java/lang/constant/Constable"), (0, .class_ 4), (0, u "java/lang/Object")] 6

/-- java/lang/constant/Constable -/
def k2 : Class := { plain "java/lang/constant/Constable" (some 0) with
  accessFlags := 1537
  interfaces := #[]
  cf := some (fileOf pool2 1 #[] #[] 1537 3 #[] #[])
  fields := #[]
  methods := #[]
  instanceTypes := #[]
  staticTypes := #[]
  resolved := Array.replicate 11 none
  statics := none }

def pool3 : Array CpInfo := pool [(1, .class_ 2), (0, u "java/lang/Comparable"), (0, .class_ 4), (0, u "java/lang/Object")] 7

/-- java/lang/Comparable -/
def k3 : Class := { plain "java/lang/Comparable" (some 0) with
  accessFlags := 1537
  interfaces := #[]
  cf := some (fileOf pool3 1 #[] #[] 1537 3 #[] #[])
  fields := #[]
  methods := #[]
  instanceTypes := #[]
  staticTypes := #[]
  resolved := Array.replicate 12 none
  statics := none }

def pool4 : Array CpInfo := pool [(1, .class_ 2), (0, u "java/io/Serializable"), (0, .class_ 4), (0, u "java/lang/Object")] 2

/-- java/io/Serializable -/
def k4 : Class := { plain "java/io/Serializable" (some 0) with
  accessFlags := 1537
  interfaces := #[]
  cf := some (fileOf pool4 1 #[] #[] 1537 3 #[] #[])
  fields := #[]
  methods := #[]
  instanceTypes := #[]
  staticTypes := #[]
  resolved := Array.replicate 7 none
  statics := none }

def pool5 : Array CpInfo := pool [(2, .class_ 4), (1, u "java/lang/Enum"), (0, u "name"), (0, u "Ljava/lang/String;"), (2, u "ordinal"), (0, u "I"), (1, .class_ 14), (1, u "java/lang/Object"), (4, u "hash"), (86, .class_ 108), (1, u "java/lang/Enum$EnumDesc"), (2, .class_ 112), (0, u "java/lang/constant/Constable"), (0, .class_ 114), (0, u "java/lang/Comparable"), (0, .class_ 116), (0, u "java/io/Serializable")] 87

/-- java/lang/Enum -/
def k5 : Class := { plain "java/lang/Enum" (some 0) with
  accessFlags := 1057
  interfaces := #[2, 3, 4]
  cf := some (fileOf pool5 2 #[.nestMembers #[106]] #[] 1057 12 #[111, 113, 115] #[{ accessFlags := 18, nameIndex := 5, descriptorIndex := 6, attributes := #[] }, { accessFlags := 18, nameIndex := 9, descriptorIndex := 10, attributes := #[] }, { accessFlags := 2, nameIndex := 19, descriptorIndex := 10, attributes := #[] }])
  fields := #[{ name := "name", type := (.object "java/lang/String"), accessFlags := 18, slot := 0, constantValue := 0 }, { name := "ordinal", type := .int, accessFlags := 18, slot := 1, constantValue := 0 }, { name := "hash", type := .int, accessFlags := 2, slot := 2, constantValue := 0 }]
  methods := #[]
  instanceTypes := #[(.object "java/lang/String"), .int, .int]
  staticTypes := #[]
  resolved := Array.replicate 204 none
  statics := none }

def pool6 : Array CpInfo := pool [(2, .class_ 4), (1, u "com/example/pledgeline/pledgeline/Value$Truth"), (5, .class_ 11), (0, u "com/example/pledgeline/pledgeline/Value$Blank"), (5, .class_ 19), (1, u "com/example/pledgeline/pledgeline/Value"), (0, u "BLANK"), (0, u "Lcom/example/pledgeline/pledgeline/Value;"), (2, u "NOT_YET"), (0, .class_ 26), (0, u "java/lang/Object"), (14, .class_ 42), (0, u "com/example/pledgeline/pledgeline/Value$Text"), (0, .class_ 44), (0, u "com/example/pledgeline/pledgeline/Value$Date"), (0, .class_ 46), (0, u "com/example/pledgeline/pledgeline/Value$Decimal")] 7

/-- com/example/pledgeline/pledgeline/Value -/
def k6 : Class := { plain "com/example/pledgeline/pledgeline/Value" (some 0) with
  accessFlags := 1536
  interfaces := #[]
  cf := some (fileOf pool6 17 #[.nestMembers #[10, 2, 41, 43, 45]] #[] 1536 25 #[] #[{ accessFlags := 25, nameIndex := 20, descriptorIndex := 21, attributes := #[] }, { accessFlags := 25, nameIndex := 24, descriptorIndex := 21, attributes := #[] }])
  fields := #[{ name := "BLANK", type := (.object "com/example/pledgeline/pledgeline/Value"), accessFlags := 25, slot := 0, constantValue := 0 }, { name := "NOT_YET", type := (.object "com/example/pledgeline/pledgeline/Value"), accessFlags := 25, slot := 1, constantValue := 0 }]
  methods := #[]
  instanceTypes := #[]
  staticTypes := #[(.object "com/example/pledgeline/pledgeline/Value"), (.object "com/example/pledgeline/pledgeline/Value")]
  resolved := Array.replicate 54 none
  statics := none }

def pool7 : Array CpInfo := pool [(1, .class_ 2), (0, u "com/example/pledgeline/pledgeline/Value$Truth"), (0, .fieldref 1 4), (0, .nameAndType 5 6), (0, u "TRUE"), (0, u "Lcom/example/pledgeline/pledgeline/Value$Truth;"), (0, .fieldref 1 8), (0, .nameAndType 9 6), (0, u "FALSE"), (0, .fieldref 1 11), (0, .nameAndType 12 6), (0, u "UNKNOWN"), (2, u "$VALUES"), (0, u "[Lcom/example/pledgeline/pledgeline/Value$Truth;"), (6, .class_ 25), (1, u "java/lang/Enum"), (12, u "and"), (0, u "(Lcom/example/pledgeline/pledgeline/Value$Truth;)Lcom/example/pledgeline/pledgeline/Value$Truth;"), (26, .class_ 67), (0, u "com/example/pledgeline/pledgeline/Value")] 18

def k7c0 : Code := { maxStack := 2, maxLocals := 3, code := prog_76_method_5_code, exceptionTable := #[], attributes := #[] }
def k7m0 : Method := { name := "and", desc := "(Lcom/example/pledgeline/pledgeline/Value$Truth;)Lcom/example/pledgeline/pledgeline/Value$Truth;", sig := { parameters := [(.object "com/example/pledgeline/pledgeline/Value$Truth")], returnType := some (.object "com/example/pledgeline/pledgeline/Value$Truth") }, accessFlags := 1, code := some k7c0 }
/-- com/example/pledgeline/pledgeline/Value$Truth -/
def k7 : Class := { plain "com/example/pledgeline/pledgeline/Value$Truth" (some 5) with
  accessFlags := 16433
  interfaces := #[6]
  cf := some (fileOf pool7 1 #[.nestHost 66] #[{ accessFlags := 1, nameIndex := 38, descriptorIndex := 39, attributes := #[] }] 16433 23 #[66] #[{ accessFlags := 16409, nameIndex := 5, descriptorIndex := 6, attributes := #[] }, { accessFlags := 16409, nameIndex := 9, descriptorIndex := 6, attributes := #[] }, { accessFlags := 16409, nameIndex := 12, descriptorIndex := 6, attributes := #[] }, { accessFlags := 4122, nameIndex := 15, descriptorIndex := 16, attributes := #[] }])
  fields := #[{ name := "TRUE", type := (.object "com/example/pledgeline/pledgeline/Value$Truth"), accessFlags := 16409, slot := 0, constantValue := 0 }, { name := "FALSE", type := (.object "com/example/pledgeline/pledgeline/Value$Truth"), accessFlags := 16409, slot := 1, constantValue := 0 }, { name := "UNKNOWN", type := (.object "com/example/pledgeline/pledgeline/Value$Truth"), accessFlags := 16409, slot := 2, constantValue := 0 }, { name := "$VALUES", type := (.array (.object "com/example/pledgeline/pledgeline/Value$Truth")), accessFlags := 4122, slot := 3, constantValue := 0 }]
  methods := #[k7m0]
  instanceTypes := #[(.object "java/lang/String"), .int, .int]
  staticTypes := #[(.object "com/example/pledgeline/pledgeline/Value$Truth"), (.object "com/example/pledgeline/pledgeline/Value$Truth"), (.object "com/example/pledgeline/pledgeline/Value$Truth"), (.array (.object "com/example/pledgeline/pledgeline/Value$Truth"))]
  resolved := Array.replicate 86 none
  statics := some 0 }

def pool8 : Array CpInfo := pool [(1, .class_ 2), (0, u "java/lang/Math"), (1, .class_ 6), (1, u "java/lang/Object"), (0, u "<init>"), (0, u "()V"), (89, .class_ 100), (1, u "java/lang/Math$RandomNumberGeneratorHolder"), (71, u "negativeZeroFloatBits"), (0, u "J"), (2, u "negativeZeroDoubleBits"), (24, u "min"), (43, u "$assertionsDisabled"), (0, u "Z"), (88, u "(II)I"), (2, u "twoToTheDoubleScaleDown"), (0, u "D"), (4, u "twoToTheDoubleScaleUp"), (9, u "E"), (3, u "PI"), (2, u "TAU"), (2, u "DEGREES_TO_RADIANS"), (0, u "RADIANS_TO_DEGREES")] 94

def k8m0 : Method := { name := "<init>", desc := "()V", sig := { parameters := [], returnType := none }, accessFlags := 2, code := none }
def k8c1 : Code := { maxStack := 2, maxLocals := 2, code := jdk_29_method_69_code, exceptionTable := #[], attributes := #[] }
def k8m1 : Method := { name := "min", desc := "(II)I", sig := { parameters := [.int, .int], returnType := some .int }, accessFlags := 9, code := some k8c1 }
/-- java/lang/Math -/
def k8 : Class := { plain "java/lang/Math" (some 0) with
  accessFlags := 49
  interfaces := #[]
  cf := some (fileOf pool8 1 #[.nestMembers #[98]] #[{ accessFlags := 2, nameIndex := 7, descriptorIndex := 8, attributes := #[] }, { accessFlags := 9, nameIndex := 201, descriptorIndex := 335, attributes := #[] }] 49 4 #[] #[{ accessFlags := 25, nameIndex := 354, descriptorIndex := 339, attributes := #[] }, { accessFlags := 25, nameIndex := 358, descriptorIndex := 339, attributes := #[] }, { accessFlags := 25, nameIndex := 361, descriptorIndex := 339, attributes := #[] }, { accessFlags := 26, nameIndex := 364, descriptorIndex := 339, attributes := #[] }, { accessFlags := 26, nameIndex := 365, descriptorIndex := 339, attributes := #[] }, { accessFlags := 26, nameIndex := 172, descriptorIndex := 173, attributes := #[] }, { accessFlags := 26, nameIndex := 176, descriptorIndex := 173, attributes := #[] }, { accessFlags := 8, nameIndex := 344, descriptorIndex := 339, attributes := #[] }, { accessFlags := 8, nameIndex := 338, descriptorIndex := 339, attributes := #[] }, { accessFlags := 4120, nameIndex := 245, descriptorIndex := 246, attributes := #[] }])
  fields := #[{ name := "E", type := .double, accessFlags := 25, slot := 0, constantValue := 0 }, { name := "PI", type := .double, accessFlags := 25, slot := 1, constantValue := 0 }, { name := "TAU", type := .double, accessFlags := 25, slot := 2, constantValue := 0 }, { name := "DEGREES_TO_RADIANS", type := .double, accessFlags := 26, slot := 3, constantValue := 0 }, { name := "RADIANS_TO_DEGREES", type := .double, accessFlags := 26, slot := 4, constantValue := 0 }, { name := "negativeZeroFloatBits", type := .long, accessFlags := 26, slot := 5, constantValue := 0 }, { name := "negativeZeroDoubleBits", type := .long, accessFlags := 26, slot := 6, constantValue := 0 }, { name := "twoToTheDoubleScaleUp", type := .double, accessFlags := 8, slot := 7, constantValue := 0 }, { name := "twoToTheDoubleScaleDown", type := .double, accessFlags := 8, slot := 8, constantValue := 0 }, { name := "$assertionsDisabled", type := .boolean, accessFlags := 4120, slot := 9, constantValue := 0 }]
  methods := #[k8m0, k8m1]
  instanceTypes := #[]
  staticTypes := #[.double, .double, .double, .double, .double, .long, .long, .double, .double, .boolean]
  resolved := Array.replicate 460 none
  statics := none }

def pool9 : Array CpInfo := pool [(1, u "java/lang/Cloneable"), (0, .class_ 1), (0, u "java/lang/Object"), (0, .class_ 3)] 3

/-- java/lang/Cloneable -/
def k9 : Class := { plain "java/lang/Cloneable" (some 0) with
  accessFlags := 1537
  interfaces := #[]
  cf := some (fileOf pool9 2 #[] #[] 1537 4 #[] #[])
  fields := #[]
  methods := #[]
  instanceTypes := #[]
  staticTypes := #[]
  resolved := Array.replicate 8 none
  statics := none }

/-- the primitive byte -/
def k10 : Class := { plain "byte" none with kind := .primitive 'B', accessFlags := 0x411 }
/-- [B -/
def k11 : Class := { plain "[B" (some 0) with kind := .array 10 .byte, interfaces := #[9, 4], accessFlags := 1041 }

/-- the primitive int -/
def k12 : Class := { plain "int" none with kind := .primitive 'I', accessFlags := 0x411 }
/-- [I -/
def k13 : Class := { plain "[I" (some 0) with kind := .array 12 .int, interfaces := #[9, 4], accessFlags := 1041 }

def heap : Heap := #[{ cls := 7, slots := #[.ref 1, .ref 2, .ref 3, .null], vm := .statics 7 },
  { cls := 7, slots := #[.null, .int 0, .int 0], vm := .none },
  { cls := 7, slots := #[.null, .int 1, .int 0], vm := .none },
  { cls := 7, slots := #[.null, .int 2, .int 0], vm := .none }]
def classes : Array Class := #[k0, k1, k2, k3, k4, k5, k6, k7, k8, k9, k10, k11, k12, k13]
def interned : List (Array UInt16 × Addr) := []
def slotsUsed : Nat := 13
def theMethod : MethodId := ⟨1, 3⟩
def args0 : Array Value := #[.int 5, .int 7]
def aboutOver (below : List Frame) : State where
  vm := { classes := classes, interned := interned.toArray }
  heap := heap
  slotsUsed := slotsUsed
  threads := #[{ frames := .invoking theMethod args0 :: below }]
def below0 : List Frame := [.native { method := ⟨0, 0⟩, args := #[] }]
def about1 : State := aboutOver below0
def p0 : Program := .bare "" "" ""
def e0 : Env := launch0.env 0 0 0
theorem w_frames : about1.frames = Frame.invoking theMethod args0 :: below0 := rfl
set_option maxRecDepth 65536 in
theorem w_args : argsFit about1.vm theMethod args0 = true := by decide +kernel
set_option maxRecDepth 65536 in
theorem w_heap : heapFits about1 = true := by decide +kernel
set_option maxRecDepth 65536 in
theorem w_runnable : about1.curStatus? = some .runnable := by decide +kernel
set_option maxRecDepth 65536 in
theorem w_alone : about1.alone = true := by decide +kernel
set_option maxRecDepth 65536 in
theorem w_named : about1.methodNamed? x = some theMethod := by decide +kernel
set_option maxRecDepth 65536 in
theorem w_hears : about1.hears theMethod below0 = true := by decide +kernel
set_option maxRecDepth 65536 in
theorem w_ripe : about1.ripe theMethod args0 below0 = true := by decide +kernel
theorem w_running : about1.status = .running := rfl
set_option maxRecDepth 65536 in
theorem w_room : about1.hasRoom e0.platform room_1 = true :=
  launch0.hasRoom_least _ room_1 (by decide +kernel) (by decide +kernel) (by decide +kernel) (by decide +kernel) (by decide +kernel) (by decide +kernel)
theorem allAtoms_all (ts : List Jvm.Cond) (a : Array Jvm.Value) (st : Jvm.State) : (allAtoms ts).before a st = ts.all (fun c => c.before a st) := by
  induction ts with
  | nil => rfl
  | cons c t ih =>
    show (Jvm.Cond.and c (allAtoms t)).before a st = _
    rw [Jvm.Cond.before_and, ih, List.all_cons]
def words1 : List Jvm.Cond := Jvm.Cond.code x code maxLocals ret :: tables_1
/-- a 'code' word, met by the world's own term for the bytes: nothing is compared byte by byte -/
theorem code_word {y : MethodName} {bytes : ByteArray} {mx : Nat} {rt : Option FieldType} {a : Array Value} {s : State} {m : MethodId} {meth : Method} {c : Code} (h1 : s.methodNamed? y = some m) (h2 : s.vm.method? m = some meth) (h3 : meth.code = some c) (h4 : c.code = bytes)
    (h5 : (c.maxLocals == mx && c.exceptionTable.isEmpty && decide (c.maxStack ≤ mostOperands) && decide (meth.sig.returnType = rt) && !meth.locks && decide (parseMethodDescriptor y.desc = some meth.sig)) = true) : (Jvm.Cond.code y bytes mx rt).before a s = true := by
  simp only [Bool.and_eq_true, beq_iff_eq, Bool.not_eq_true', decide_eq_true_eq] at h5
  obtain ⟨⟨⟨⟨⟨g1, g2⟩, g3⟩, g4⟩, g5⟩, g6⟩ := h5
  simp [Cond.before, Cond.holds, Cond.value, h1, h2, h3, h4, g1, g2, g3, g4, g5, g6]
def isCode : Jvm.Cond → Bool
  | .code _ _ _ _ => true
  | _ => false
theorem all_split {L : List Jvm.Cond} {P : Jvm.Cond → Bool} (h1 : L.all (fun c => isCode c || P c) = true) (h2 : ∀ c ∈ L.filter isCode, P c = true) : L.all P = true := by
  refine List.all_eq_true.mpr fun c hc => ?_
  have h := List.all_eq_true.mp h1 c hc
  rcases Bool.eq_false_or_eq_true (isCode c) with hi | hi
  · exact h2 c (List.mem_filter.mpr ⟨hc, hi⟩)
  · simpa [hi] using h
set_option maxRecDepth 65536 in
theorem w_c0 : (Jvm.Cond.code x code maxLocals ret).before args0 about1 = true := code_word (m := ⟨1, 3⟩) (meth := k1m3) (c := k1c3) (by decide +kernel) rfl rfl rfl (by decide +kernel)
set_option maxRecDepth 65536 in
theorem w_c1 : (Jvm.Cond.code ({ cls := "com/example/pledgeline/pledgeline/TruthAndPinLaw", name := "pick", desc := "(I)Lcom/example/pledgeline/pledgeline/Value$Truth;" } : Jvm.MethodName) method_2_code (2 : Nat) (Option.some (Jvm.ClassFile.FieldType.object "com/example/pledgeline/pledgeline/Value$Truth"))).before args0 about1 = true := code_word (m := ⟨1, 1⟩) (meth := k1m1) (c := k1c1) (by decide +kernel) rfl rfl rfl (by decide +kernel)
set_option maxRecDepth 65536 in
theorem w_c2 : (Jvm.Cond.code ({ cls := "com/example/pledgeline/pledgeline/Value$Truth", name := "and", desc := "(Lcom/example/pledgeline/pledgeline/Value$Truth;)Lcom/example/pledgeline/pledgeline/Value$Truth;" } : Jvm.MethodName) prog_76_method_5_code (3 : Nat) (Option.some (Jvm.ClassFile.FieldType.object "com/example/pledgeline/pledgeline/Value$Truth"))).before args0 about1 = true := code_word (m := ⟨7, 0⟩) (meth := k7m0) (c := k7c0) (by decide +kernel) rfl rfl rfl (by decide +kernel)
set_option maxRecDepth 65536 in
theorem w_c3 : (Jvm.Cond.code ({ cls := "com/example/pledgeline/pledgeline/TruthAndPinLaw", name := "rank", desc := "(Lcom/example/pledgeline/pledgeline/Value$Truth;)I" } : Jvm.MethodName) method_3_code (1 : Nat) (Option.some Jvm.ClassFile.FieldType.int)).before args0 about1 = true := code_word (m := ⟨1, 2⟩) (meth := k1m2) (c := k1c2) (by decide +kernel) rfl rfl rfl (by decide +kernel)
set_option maxRecDepth 65536 in
theorem w_c4 : (Jvm.Cond.code ({ cls := "java/lang/Math", name := "min", desc := "(II)I" } : Jvm.MethodName) jdk_29_method_69_code (2 : Nat) (Option.some Jvm.ClassFile.FieldType.int)).before args0 about1 = true := code_word (m := ⟨8, 1⟩) (meth := k8m1) (c := k8c1) (by decide +kernel) rfl rfl rfl (by decide +kernel)
def codes1 : List Jvm.Cond := [Jvm.Cond.code x code maxLocals ret, Jvm.Cond.code ({ cls := "com/example/pledgeline/pledgeline/TruthAndPinLaw", name := "pick", desc := "(I)Lcom/example/pledgeline/pledgeline/Value$Truth;" } : Jvm.MethodName) method_2_code (2 : Nat) (Option.some (Jvm.ClassFile.FieldType.object "com/example/pledgeline/pledgeline/Value$Truth")), Jvm.Cond.code ({ cls := "com/example/pledgeline/pledgeline/Value$Truth", name := "and", desc := "(Lcom/example/pledgeline/pledgeline/Value$Truth;)Lcom/example/pledgeline/pledgeline/Value$Truth;" } : Jvm.MethodName) prog_76_method_5_code (3 : Nat) (Option.some (Jvm.ClassFile.FieldType.object "com/example/pledgeline/pledgeline/Value$Truth")), Jvm.Cond.code ({ cls := "com/example/pledgeline/pledgeline/TruthAndPinLaw", name := "rank", desc := "(Lcom/example/pledgeline/pledgeline/Value$Truth;)I" } : Jvm.MethodName) method_3_code (1 : Nat) (Option.some Jvm.ClassFile.FieldType.int), Jvm.Cond.code ({ cls := "java/lang/Math", name := "min", desc := "(II)I" } : Jvm.MethodName) jdk_29_method_69_code (2 : Nat) (Option.some Jvm.ClassFile.FieldType.int)]
set_option maxRecDepth 65536 in
theorem codes_eq : words1.filter isCode = codes1 := rfl
theorem w_codes : ∀ c ∈ words1.filter isCode, c.before args0 about1 = true := by
  rw [codes_eq]
  intro c hc
  simp only [codes1, List.mem_cons, List.not_mem_nil, or_false] at hc
  rcases hc with rfl | rfl | rfl | rfl | rfl
  · exact w_c0
  · exact w_c1
  · exact w_c2
  · exact w_c3
  · exact w_c4
set_option maxRecDepth 65536 in
theorem w_t1 : (words1.take 24).all (fun c => isCode c || c.before args0 about1) = true := by decide +kernel
set_option maxRecDepth 65536 in
theorem w_t2 : (words1.drop 24).all (fun c => isCode c || c.before args0 about1) = true := by decide +kernel
theorem w_tables : (allAtoms (Jvm.Cond.code x code maxLocals ret :: tables_1)).before args0 about1 = true := by
  rw [allAtoms_all]
  show words1.all (fun c => c.before args0 about1) = true
  refine all_split ?_ w_codes
  rw [← List.take_append_drop 24 words1, List.all_append, w_t1, w_t2]
  rfl
set_option maxRecDepth 65536 in
theorem w_case : (Jvm.Cond.and given_1 narrow_1).before args0 about1 = true := by decide +kernel
theorem w_applies : (headSpec (Jvm.Cond.code x code maxLocals ret :: tables_1) room_1).applies x e0.platform about1 = true :=
  (Spec.applies_iff w_frames).mpr ⟨w_running, w_runnable, w_alone, w_named, w_hears, w_ripe, w_room, w_tables⟩
theorem atStart : AtStart classFile x code maxLocals ret World_1 tables_1 room_1 Calls_1 rest_1 Pre_1 launch0 p0 e0 about1 theMethod args0 below0 :=
  ⟨lists_1, trivial, launch0.admits_env _ _ _, launch0.least_env, fairChoices_fair.cas, fairChoices_fair.clock, w_frames, w_args, w_heap, w_applies, trivial, trivial, w_case⟩
end start1
theorem witness_1 : WitnessClaimed_1 := ⟨start1.p0, start1.e0, start1.about1, start1.theMethod, start1.args0, start1.below0, start1.atStart⟩
end Jvm.Pilot.@@N@@
