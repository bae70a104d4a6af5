import JvmDerived
import JvmDerived.Pilot.@@N@@Statement
import JvmDerived.Pilot.@@N@@Code
set_option linter.unusedVariables false
set_option linter.unusedSimpArgs false
@@BLOCK:NumsL.lean.txt@@
namespace Jvm.Pilot.@@N@@
open Jvm Jvm.ClassFile Sem Op Lib Jvm.Free Jvm.Stand Jvm.LawKit Jvm.RoadKit Bundle Jvm.Pilot.@@N@@.Jvm.D
/-- what a body leaves that writes nothing: its value, no place written, the heap as it was -/
def QP (val : Value) (h0 : Heap) (n0 : Nat) (v : Option Value) (h : Heap) (L : List Loc) : Prop := v = some val ∧ Fr n0 L ∧ h = h0
/-- what the law leaves: true -/
def Q1 (n0 : Nat) (v : Option Value) (h : Heap) (L : List Loc) : Prop := v = some (.int 1) ∧ Fr n0 L
theorem own_eq_int {args : Array Value} {s : State} {t : Term} {k : Int32} (h : (Jvm.Cond.eq t (.int k)).value args s none s [] = some true) : t.eval args s none [] s = some (.int k) := by
  simp only [Cond.value, Term.eval] at h
  cases ht : t.eval args s none [] s with
  | none => simp [ht] at h
  | some x => cases x <;> simp [ht] at h ⊢; exact h
theorem own_fld {args : Array Value} {s : State} {t : Term} {a : Addr} {C n d : String} {k : Int32} (ev : t.eval args s none [] s = some (.ref a)) (h : (Jvm.Cond.eq (.field t C n d) (.int k)).value args s none s [] = some true) : Fld s s.heap a C n d (.int k) :=
  Fld.start ((fld_at ev).symm.trans (own_eq_int h))
theorem own_toInt32_inj {i j : Nat} (hi : i < 2 ^ 31) (hj : j < 2 ^ 31) (h : i.toInt32 = j.toInt32) : i = j := by
  have := congrArg Int32.toInt h
  rw [len_toInt hi, len_toInt hj] at this
  omega
theorem own_inj {Z : State} {h : Heap} {w : Nat → Addr} {n : Nat} (hn : n < 2 ^ 31) (F : ∀ i, i < n → Fld Z h (w i) "java/lang/Enum" "ordinal" "I" (.int i.toInt32)) : ∀ i j, i < n → j < n → w i = w j → i = j := fun i j hi hj e => by
  by_cases q : i = j
  · exact q
  · exact absurd e (Fld.ne (F i hi) (F j hj) fun h => q (own_toInt32_inj (by omega) (by omega) (Value.int.inj h)))
theorem own_i32 {i : Int32} {N : Nat} (hN : N < 2 ^ 31) (h0 : 0 ≤ i.toInt) (h1 : i.toInt < N) : ∃ k : Nat, k < N ∧ i = k.toInt32 := by
  refine ⟨i.toInt.toNat, by omega, Int32.toInt_inj.mp ?_⟩
  rw [len_toInt (by omega)]
  omega
theorem own_mod (x n : Int32) (N : Nat) (hN : n.toInt = N) (h : 0 < N) : ∃ k : Nat, k < N ∧ (x &&& (2147483647 : Int32)) % n = k.toInt32 := by
  have e1 : (x &&& (2147483647 : Int32)).toInt = x.toInt % 2 ^ 31 := Jvm.Kit.i32_mask x 2147483647 (k := 31) (by decide) (by decide)
  have e2 : ((x &&& (2147483647 : Int32)) % n).toInt = (x &&& (2147483647 : Int32)).toInt % n.toInt := Jvm.Kit.i32_rem_nonneg (by omega)
  have hlt := n.toInt_lt
  have h3 : 0 ≤ (x &&& (2147483647 : Int32)).toInt % n.toInt := Int.emod_nonneg _ (by omega)
  have h4 : (x &&& (2147483647 : Int32)).toInt % n.toInt < n.toInt := Int.emod_lt_of_pos _ (by omega)
  exact own_i32 (by omega) (by omega) (by omega)
theorem own_mask (x n : Int32) {k : Nat} (hk : k < 31) (hm : n.toBitVec.toNat = 2 ^ k - 1) : ∃ j : Nat, j < 2 ^ k ∧ x &&& n = j.toInt32 := by
  have e1 : (x &&& n).toInt = x.toInt % 2 ^ k := Jvm.Kit.i32_mask x n (k := k) (by omega) hm
  have hp : (2 : Nat) ^ k < 2 ^ 31 := Nat.pow_lt_pow_right (by decide) hk
  have hp1 : (0 : Int) < 2 ^ k := Int.pow_pos (by decide)
  have h3 : 0 ≤ x.toInt % 2 ^ k := Int.emod_nonneg _ (by omega)
  have h4 : x.toInt % 2 ^ k < 2 ^ k := Int.emod_lt_of_pos _ hp1
  refine own_i32 hp (by rw [e1]; exact h3) (by rw [e1]; push_cast; exact h4)
theorem own_lt_irrefl {a b : Int64} (h : a = b) : ¬ a < b ∧ ¬ b < a := by subst h; simp [Int64.lt_irrefl]
theorem own_lt_asymm {a b : Int64} (h : a < b) : ¬ b < a := Int64.lt_asymm h
theorem own_lt_total {a b : Int64} (h1 : ¬ a = b) (h2 : ¬ a < b) : b < a := by
  rw [Int64.lt_iff_toInt_lt] at h2 ⊢; rw [← Int64.toInt_inj] at h1; omega
def STA (Z : State) (h : Heap) (w : Nat → Addr) : Prop := Sta Z h "com/example/envyless/envyless/Side" "RESIDENT" "Lcom/example/envyless/envyless/Side;" (.ref (w 0)) ∧ Sta Z h "com/example/envyless/envyless/Side" "HOSPITAL" "Lcom/example/envyless/envyless/Side;" (.ref (w 1))
theorem own_pd_0 : parseMethodDescriptor "()Lcom/example/envyless/envyless/Side;" = some ⟨[], some (.object "com/example/envyless/envyless/Side")⟩ := by decide +kernel
theorem own_d1_0 : decode prog_29_method_4_code 0 = .ok (.aload_n 0, 1) := by decide +kernel
theorem own_d1_1 : decode prog_29_method_4_code 1 = .ok (.getstatic 3, 3) := by decide +kernel
theorem own_d1_4 : decode prog_29_method_4_code 4 = .ok (.if_acmp .ne 9, 3) := by decide +kernel
theorem own_d1_7 : decode prog_29_method_4_code 7 = .ok (.getstatic 7, 3) := by decide +kernel
theorem own_d1_10 : decode prog_29_method_4_code 10 = .ok (.goto 6, 3) := by decide +kernel
theorem own_d1_13 : decode prog_29_method_4_code 13 = .ok (.getstatic 3, 3) := by decide +kernel
theorem own_d1_16 : decode prog_29_method_4_code 16 = .ok (.areturn, 1) := by decide +kernel
set_option maxRecDepth 65536 in
set_option maxHeartbeats 40000000 in
theorem rm1 (l : Launch) (Z : State) (a0 : Array Value) (hw : ∀ d ∈ tables_1, d.before a0 Z = true) (ws : List Jvm.Cond) (x0 : Addr) (w : Nat → Addr) (h0 : Heap) (n0 : Nat) (Z0 : n0 ≤ h0.size) (ST : STA Z h0 w) :
    MetFree l (⟨"com/example/envyless/envyless/Side", "other", "()Lcom/example/envyless/envyless/Side;"⟩ : MethodName) (head1 (Jvm.Cond.code (⟨"com/example/envyless/envyless/Side", "other", "()Lcom/example/envyless/envyless/Side;"⟩ : MethodName) prog_29_method_4_code 1 (some (.object "com/example/envyless/envyless/Side")) :: ws) ({ frames := 0, cells := 0, slots := 0, locals := 0 } : Room)) (fun a U => a = #[(.ref x0)] ∧ Z.Warmed39 U.vm ∧ U.heap = h0) (fun _ _ _ _ _ => True) (fun _ U o U' => ∃ v L, o = .returned v ∧ QP (.ref (if x0 = w 0 then w 1 else w 0)) h0 n0 v U'.heap L ∧ FrameEnd U o U' L ({ frames := 0, cells := 0, slots := 0, locals := 0 } : Room).cells ({ frames := 0, cells := 0, slots := 0, locals := 0 } : Room).slots) := by
  refine MetFree.of_bodySF (plainFor_of_name (by first | (simp [plainName, overriddenIn]; done) | decide +kernel)) hisR ?_
  intro p e s m args below meth c s₁ Bd hml0 hP hK
  obtain ⟨rfl, hZ, hh⟩ := hP
  have hx := Bd.exec
  have hby := Bd.bytes
  have hml : c.maxLocals = 1 := hml0
  have hown : s.vm.findClass "com/example/envyless/envyless/Side" = some m.cls := findClass_of_methodNamed Bd.named
  have hnm := (name_of_methodNamed Bd.named Bd.method).1
  have X0 : Stand p l e ({ frames := 0, cells := 0, slots := 0, locals := 0 } : Room) s m #[(.ref x0)] below meth c s₁ [] 0 0 := Stand.of_body Bd
  have e0 : s₁.heap = h0 := by rw [← hh, Bd.state]; rfl
  have N0 := Fr.nil n0
  have ef0 : entryFrame m #[(.ref x0)] 1 = mkF m 0 #[.val (.ref x0)] [] := by first | (simp [entryFrame, mkF, argsToLocals, Value.category, maxLocals]; done) | rfl
  have pre0 : ∀ t, Steps p.tables e below (s₁.setTop (mkF m 0 #[.val (.ref x0)] [])) t → Steps p.tables e below (s₁.setTop (entryFrame m #[(.ref x0)] 1)) t := fun t k => castTop ef0 k
  obtain ⟨T1, X1, e1, st1⟩ := getS2 X0 hx hZ hown (host := "") (Or.inl (hw _ (List.mem_of_getElem? (i := 8) rfl))) Via.refl e0 ST.1 (g := (mkF m 1 #[.val (.ref x0)] [(.ref x0)])) rfl (hb hby own_d1_1)
  have pre2 : ∀ t, Steps p.tables e below (T1.setTop (mkF m 4 #[.val (.ref x0)] [(.ref (w 0)), (.ref x0)])) t → Steps p.tables e below (s₁.setTop (entryFrame m #[(.ref x0)] 1)) t := fun t k => pre0 t (by
    show Steps p.tables e below (s₁.setTop (mkF m 0 #[.val (.ref x0)] [])) _
    refine XS.aloadN X0.here hx rfl (hb hby own_d1_0) rfl rfl ?_
    show Steps p.tables e below (s₁.setTop (mkF m 1 #[.val (.ref x0)] [(.ref x0)])) _
    refine st1 _ ?_
    exact k)
  by_cases ha4 : x0 = (w 0)
  · obtain ⟨T3, X3, e3, st3⟩ := getS2 X1 hx hZ hown (host := "") (Or.inl (hw _ (List.mem_of_getElem? (i := 10) rfl))) Via.refl e1 ST.2 (g := (mkF m 7 #[.val (.ref x0)] [])) rfl (hb hby own_d1_7)
    obtain ⟨fs, hr, hrun, hended, hW, hsame⟩ := X3.leave (v := some (.ref (w 1))) (fun h => by rw [Bd.returns] at h; cases h)
    refine ⟨_, _, pre2 _ ?_, hrun, hended, _, _, rfl, ?_, ⟨_, rfl⟩, hW, hsame.mono (by decide) (by decide)⟩
    · show Steps p.tables e below (T1.setTop (mkF m 4 #[.val (.ref x0)] [(.ref (w 0)), (.ref x0)])) _
      refine Jvm.RoadKit.acmp (g := (mkF m 4 #[.val (.ref x0)] [(.ref (w 0)), (.ref x0)])) X1 hx rfl rfl rfl (pc0 := 4) (pc' := 7) (same := true) rfl (hb hby own_d1_4) rfl (decide_eq_true (congrArg Value.ref ha4)) (by decide) (by decide) ?_
      show Steps p.tables e below (T1.setTop (mkF m 7 #[.val (.ref x0)] [])) _
      refine st3 _ ?_
      show Steps p.tables e below (T3.setTop (mkF m 10 #[.val (.ref x0)] [(.ref (w 1))])) _
      refine XS.goto X3.here hx rfl (pc0 := 10) (pc' := 16) rfl (hb hby own_d1_10) (by decide) (by decide) ?_
      show Steps p.tables e below (T3.setTop (mkF m 16 #[.val (.ref x0)] [(.ref (w 1))])) _
      exact retOut X3 hx Bd.returns rfl (Or.inr (Or.inr (Or.inr (Or.inr ⟨rfl, rfl, rfl⟩)))) (hb hby own_d1_16) hr
    · show QP (.ref (if x0 = w 0 then w 1 else w 0)) h0 n0 _ T3.heap _
      rw [e3]
      exact ⟨by simp [ha4], N0, rfl⟩
  · obtain ⟨T4, X4, e4, st4⟩ := getS2 X1 hx hZ hown (host := "") (Or.inl (hw _ (List.mem_of_getElem? (i := 8) rfl))) Via.refl e1 ST.1 (g := (mkF m 13 #[.val (.ref x0)] [])) rfl (hb hby own_d1_13)
    obtain ⟨fs, hr, hrun, hended, hW, hsame⟩ := X4.leave (v := some (.ref (w 0))) (fun h => by rw [Bd.returns] at h; cases h)
    refine ⟨_, _, pre2 _ ?_, hrun, hended, _, _, rfl, ?_, ⟨_, rfl⟩, hW, hsame.mono (by decide) (by decide)⟩
    · show Steps p.tables e below (T1.setTop (mkF m 4 #[.val (.ref x0)] [(.ref (w 0)), (.ref x0)])) _
      refine Jvm.RoadKit.acmp (g := (mkF m 4 #[.val (.ref x0)] [(.ref (w 0)), (.ref x0)])) X1 hx rfl rfl rfl (pc0 := 4) (pc' := 13) (same := false) rfl (hb hby own_d1_4) rfl (decide_eq_false fun q => ha4 (Value.ref.inj q)) (by decide) (by decide) ?_
      show Steps p.tables e below (T1.setTop (mkF m 13 #[.val (.ref x0)] [])) _
      refine st4 _ ?_
      show Steps p.tables e below (T4.setTop (mkF m 16 #[.val (.ref x0)] [(.ref (w 0))])) _
      exact retOut X4 hx Bd.returns rfl (Or.inr (Or.inr (Or.inr (Or.inr ⟨rfl, rfl, rfl⟩)))) (hb hby own_d1_16) hr
    · show QP (.ref (if x0 = w 0 then w 1 else w 0)) h0 n0 _ T4.heap _
      rw [e4]
      exact ⟨by simp [ha4], N0, rfl⟩
set_option maxRecDepth 65536 in
set_option maxHeartbeats 40000000 in
theorem rm0 (l : Launch) (Z : State) (a0 : Array Value) (hw : ∀ d ∈ tables_1, d.before a0 Z = true) (ws : List Jvm.Cond) (x0 : Int32) (w : Nat → Addr) (h0 : Heap) (n0 : Nat) (Z0 : n0 ≤ h0.size) (ST : STA Z h0 w) (EX : ∀ i, i < 2 → Exa Z h0 (w i) "com/example/envyless/envyless/Side") (NE : ¬ w 1 = w 0) :
    MetFree l x (head1 (Jvm.Cond.code x code maxLocals ret :: ws) room_1) (fun a U => a = #[(.int x0)] ∧ Z.Warmed39 U.vm ∧ U.heap = h0) (fun _ _ _ _ _ => True) (fun _ U o U' => ∃ v L, o = .returned v ∧ Q1 n0 v U'.heap L ∧ FrameEnd U o U' L room_1.cells room_1.slots) := by
  refine MetFree.of_bodySF (plainFor_of_name (by first | (simp [plainName, overriddenIn]; done) | decide +kernel)) hisR ?_
  intro p e s m args below meth c s₁ Bd hml0 hP hK
  obtain ⟨rfl, hZ, hh⟩ := hP
  have hx := Bd.exec
  have hby := Bd.bytes
  have hml : c.maxLocals = 5 := hml0
  have hown : s.vm.findClass "com/example/envyless/envyless/SideOtherPinLaw" = some m.cls := findClass_of_methodNamed Bd.named
  have hnm := (name_of_methodNamed Bd.named Bd.method).1
  have X0 : Stand p l e room_1 s m #[(.int x0)] below meth c s₁ [] 0 0 := Stand.of_body Bd
  have e0 : s₁.heap = h0 := by rw [← hh, Bd.state]; rfl
  have N0 := Fr.nil n0
  have ef0 : entryFrame m #[(.int x0)] maxLocals = mkF m 0 #[.val (.int x0), .unset, .unset, .unset, .unset] [] := by first | (simp [entryFrame, mkF, argsToLocals, Value.category, maxLocals]; done) | rfl
  have pre0 : ∀ t, Steps p.tables e below (s₁.setTop (mkF m 0 #[.val (.int x0), .unset, .unset, .unset, .unset] [])) t → Steps p.tables e below (s₁.setTop (entryFrame m #[(.int x0)] maxLocals)) t := fun t k => castTop ef0 k
  have pre5 : ∀ t, Steps p.tables e below (s₁.setTop (mkF m 3 #[.val (.int x0), .unset, .unset, .unset, .unset] [(.int (x0 &&& (1 : Int32)))])) t → Steps p.tables e below (s₁.setTop (entryFrame m #[(.int x0)] maxLocals)) t := fun t k => pre0 t (by
    show Steps p.tables e below (s₁.setTop (mkF m 0 #[.val (.int x0), .unset, .unset, .unset, .unset] [])) _
    refine XS.iloadN X0.here hx rfl (hb hby at_0) rfl ?_
    show Steps p.tables e below (s₁.setTop (mkF m 1 #[.val (.int x0), .unset, .unset, .unset, .unset] [(.int x0)])) _
    refine XS.iconst X0.here hx rfl (hb hby at_1) ?_
    show Steps p.tables e below (s₁.setTop (mkF m 2 #[.val (.int x0), .unset, .unset, .unset, .unset] [(.int (1 : Int32)), (.int x0)])) _
    refine XS.iand X0.here hx rfl (hb hby at_2) rfl ?_
    exact k)
  by_cases hc3 : (x0 &&& (1 : Int32)) = (0 : Int32)
  · have pre6 : ∀ t, Steps p.tables e below (s₁.setTop (mkF m 13 #[.val (.int x0), .val (.int (0 : Int32)), .unset, .unset, .unset] [(.int (0 : Int32))])) t → Steps p.tables e below (s₁.setTop (entryFrame m #[(.int x0)] maxLocals)) t := fun t k => pre5 t (by
      show Steps p.tables e below (s₁.setTop (mkF m 3 #[.val (.int x0), .unset, .unset, .unset, .unset] [(.int (x0 &&& (1 : Int32)))])) _
      refine XS.ifYes X0.here hx rfl (pc0 := 3) (pc' := 10) rfl (hb hby at_3) rfl ((if0 _ _).trans (teq hc3).1) (by decide) (by decide) ?_
      show Steps p.tables e below (s₁.setTop (mkF m 10 #[.val (.int x0), .unset, .unset, .unset, .unset] [])) _
      refine XS.iconst X0.here hx rfl (hb hby at_10) ?_
      show Steps p.tables e below (s₁.setTop (mkF m 11 #[.val (.int x0), .unset, .unset, .unset, .unset] [(.int (0 : Int32))])) _
      refine XS.istoreN X0.here hx rfl (hb hby at_11) rfl (l' := #[.val (.int x0), .val (.int (0 : Int32)), .unset, .unset, .unset]) rfl ?_
      show Steps p.tables e below (s₁.setTop (mkF m 12 #[.val (.int x0), .val (.int (0 : Int32)), .unset, .unset, .unset] [])) _
      refine XS.iloadN X0.here hx rfl (hb hby at_12) rfl ?_
      exact k)
    obtain ⟨T7, X7, e7, st7⟩ := getS2 X0 hx hZ hown (host := "") (Or.inl (hw _ (List.mem_of_getElem? (i := 0) rfl))) Via.refl e0 ST.2 (g := (mkF m 22 #[.val (.int x0), .val (.int (0 : Int32)), .unset, .unset, .unset] [])) rfl (hb hby at_22)
    obtain ⟨cq8, kq8, q8a, q8b, q8c⟩ := isOf hZ e7 (EX 1 (by decide))
    obtain ⟨vv8, _, ⟨T8, L8, k8, n8⟩, -, X8, ⟨Lc8, hQ8, l8, y8, z8⟩, st8⟩ := X7.virtualBack hx (y := (⟨"com/example/envyless/envyless/Side", "other", "()Lcom/example/envyless/envyless/Side;"⟩ : MethodName)) (z := (⟨"com/example/envyless/envyless/Side", "other", "()Lcom/example/envyless/envyless/Side;"⟩ : MethodName)) hown (mvT hZ (hw _ (List.mem_of_getElem? (i := 3) rfl))) (mvT hZ (hw _ (List.mem_of_getElem? (i := 4) rfl))) (notFace_of_selects (args := #[]) (mvT hZ (hw _ (List.mem_of_getElem? (i := 6) rfl)))) (mvT hZ (hw _ (List.mem_of_getElem? (i := 6) rfl))) (mvT hZ (hw _ (List.mem_of_getElem? (i := 5) rfl))) (by decide) (backOf (W := 0) (rm1 l Z a0 hw [] (w 1) w h0 n0 Z0 ST) hZ (hw _ (List.mem_of_getElem? (i := 7) rfl)) (hw _ (List.mem_of_getElem? (i := 1) rfl)) (by decide) (by decide)) q8a q8c (g := (mkF m 27 #[.val (.int x0), .val (.int (0 : Int32)), .val (.ref (w 1)), .unset, .unset] [(.ref (w 1))])) rfl (by rw [hml]; rfl) (Steps.refl _) (argsL := []) (rest := []) (lenOf own_pd_0 rfl) rfl (by show 2 * 0 + _ ≤ _; exact Nat.le_of_eq rfl) (hb hby at_27) (fun _ _ => ⟨rfl, e7, (by decide : 0 + 0 ≤ _), (by decide : 0 + 0 ≤ _)⟩)
    dsimp only [Pt.U, Pt.locs, Pt.cells, Pt.slots] at X8 l8 y8 z8 st8 hQ8
    subst l8 y8 z8
    rw [if_neg NE] at hQ8
    obtain ⟨rfl, N8q, e8⟩ := hQ8
    have N8 := Fr.app N0 N8q
    have pre9 : ∀ t, Steps p.tables e below (T8.setTop (mkF m 39 #[.val (.int x0), .val (.int (0 : Int32)), .val (.ref (w 1)), .val (.ref (w 0)), .unset] [(.ref (w 1)), (.ref (w 0))])) t → Steps p.tables e below (s₁.setTop (entryFrame m #[(.int x0)] maxLocals)) t := fun t k => pre6 t (by
      show Steps p.tables e below (s₁.setTop (mkF m 13 #[.val (.int x0), .val (.int (0 : Int32)), .unset, .unset, .unset] [(.int (0 : Int32))])) _
      refine XS.ifYes X0.here hx rfl (pc0 := 13) (pc' := 22) rfl (hb hby at_13) rfl ((if0 _ _).trans (teq (by decide : (0 : Int32) = (0 : Int32))).1) (by decide) (by decide) ?_
      show Steps p.tables e below (s₁.setTop (mkF m 22 #[.val (.int x0), .val (.int (0 : Int32)), .unset, .unset, .unset] [])) _
      refine st7 _ ?_
      show Steps p.tables e below (T7.setTop (mkF m 25 #[.val (.int x0), .val (.int (0 : Int32)), .unset, .unset, .unset] [(.ref (w 1))])) _
      refine XS.astoreN X7.here hx rfl (hb hby at_25) rfl rfl (l' := #[.val (.int x0), .val (.int (0 : Int32)), .val (.ref (w 1)), .unset, .unset]) rfl ?_
      show Steps p.tables e below (T7.setTop (mkF m 26 #[.val (.int x0), .val (.int (0 : Int32)), .val (.ref (w 1)), .unset, .unset] [])) _
      refine XS.aloadN X7.here hx rfl (hb hby at_26) rfl rfl ?_
      show Steps p.tables e below (T7.setTop (mkF m 27 #[.val (.int x0), .val (.int (0 : Int32)), .val (.ref (w 1)), .unset, .unset] [(.ref (w 1))])) _
      refine st8.trans ?_
      show Steps p.tables e below (T8.setTop (mkF m 30 #[.val (.int x0), .val (.int (0 : Int32)), .val (.ref (w 1)), .unset, .unset] [(.ref (w 0))])) _
      refine XS.astoreN X8.here hx rfl (hb hby at_30) rfl rfl (l' := #[.val (.int x0), .val (.int (0 : Int32)), .val (.ref (w 1)), .val (.ref (w 0)), .unset]) rfl ?_
      show Steps p.tables e below (T8.setTop (mkF m 31 #[.val (.int x0), .val (.int (0 : Int32)), .val (.ref (w 1)), .val (.ref (w 0)), .unset] [])) _
      refine XS.aloadN X8.here hx rfl (hb hby at_31) rfl rfl ?_
      show Steps p.tables e below (T8.setTop (mkF m 32 #[.val (.int x0), .val (.int (0 : Int32)), .val (.ref (w 1)), .val (.ref (w 0)), .unset] [(.ref (w 0))])) _
      refine XS.ifnonnullYes X8.here hx rfl (pc0 := 32) (pc' := 37) rfl (hb hby at_32) rfl (by decide) (by decide) ?_
      show Steps p.tables e below (T8.setTop (mkF m 37 #[.val (.int x0), .val (.int (0 : Int32)), .val (.ref (w 1)), .val (.ref (w 0)), .unset] [])) _
      refine XS.aloadN X8.here hx rfl (hb hby at_37) rfl rfl ?_
      show Steps p.tables e below (T8.setTop (mkF m 38 #[.val (.int x0), .val (.int (0 : Int32)), .val (.ref (w 1)), .val (.ref (w 0)), .unset] [(.ref (w 0))])) _
      refine XS.aloadN X8.here hx rfl (hb hby at_38) rfl rfl ?_
      exact k)
    obtain ⟨cq10, kq10, q10a, q10b, q10c⟩ := isOf hZ e8 (EX 0 (by decide))
    obtain ⟨vv10, _, ⟨T10, L10, k10, n10⟩, -, X10, ⟨Lc10, hQ10, l10, y10, z10⟩, st10⟩ := X8.virtualBack hx (y := (⟨"com/example/envyless/envyless/Side", "other", "()Lcom/example/envyless/envyless/Side;"⟩ : MethodName)) (z := (⟨"com/example/envyless/envyless/Side", "other", "()Lcom/example/envyless/envyless/Side;"⟩ : MethodName)) hown (mvT hZ (hw _ (List.mem_of_getElem? (i := 3) rfl))) (mvT hZ (hw _ (List.mem_of_getElem? (i := 4) rfl))) (notFace_of_selects (args := #[]) (mvT hZ (hw _ (List.mem_of_getElem? (i := 6) rfl)))) (mvT hZ (hw _ (List.mem_of_getElem? (i := 6) rfl))) (mvT hZ (hw _ (List.mem_of_getElem? (i := 5) rfl))) (by decide) (backOf (W := 0) (rm1 l Z a0 hw [] (w 0) w h0 n0 Z0 ST) hZ (hw _ (List.mem_of_getElem? (i := 7) rfl)) (hw _ (List.mem_of_getElem? (i := 1) rfl)) (by decide) (by decide)) q10a q10c (g := (mkF m 45 #[.val (.int x0), .val (.int (0 : Int32)), .val (.ref (w 1)), .val (.ref (w 0)), .unset] [(.ref (w 0))])) rfl (by rw [hml]; rfl) (Steps.refl _) (argsL := []) (rest := []) (lenOf own_pd_0 rfl) rfl (by show 2 * 0 + _ ≤ _; exact Nat.le_of_eq rfl) (hb hby at_45) (fun _ _ => ⟨rfl, e8, (by decide : 0 + 0 ≤ _), (by decide : 0 + 0 ≤ _)⟩)
    dsimp only [Pt.U, Pt.locs, Pt.cells, Pt.slots] at X10 l10 y10 z10 st10 hQ10
    subst l10 y10 z10
    rw [if_pos rfl] at hQ10
    obtain ⟨rfl, N10q, e10⟩ := hQ10
    have N10 := Fr.app N8 N10q
    have pre11 : ∀ t, Steps p.tables e below (T10.setTop (mkF m 53 #[.val (.int x0), .val (.int (0 : Int32)), .val (.ref (w 1)), .val (.ref (w 0)), .val (.ref (w 1))] [(.ref (w 1)), (.ref (w 1))])) t → Steps p.tables e below (s₁.setTop (entryFrame m #[(.int x0)] maxLocals)) t := fun t k => pre9 t (by
      show Steps p.tables e below (T8.setTop (mkF m 39 #[.val (.int x0), .val (.int (0 : Int32)), .val (.ref (w 1)), .val (.ref (w 0)), .unset] [(.ref (w 1)), (.ref (w 0))])) _
      refine Jvm.RoadKit.acmp (g := (mkF m 39 #[.val (.int x0), .val (.int (0 : Int32)), .val (.ref (w 1)), .val (.ref (w 0)), .unset] [(.ref (w 1)), (.ref (w 0))])) X8 hx rfl rfl rfl (pc0 := 39) (pc' := 44) (same := false) rfl (hb hby at_39) rfl (decide_eq_false fun q => (fun q => NE q.symm) (Value.ref.inj q)) (by decide) (by decide) ?_
      show Steps p.tables e below (T8.setTop (mkF m 44 #[.val (.int x0), .val (.int (0 : Int32)), .val (.ref (w 1)), .val (.ref (w 0)), .unset] [])) _
      refine XS.aloadN X8.here hx rfl (hb hby at_44) rfl rfl ?_
      show Steps p.tables e below (T8.setTop (mkF m 45 #[.val (.int x0), .val (.int (0 : Int32)), .val (.ref (w 1)), .val (.ref (w 0)), .unset] [(.ref (w 0))])) _
      refine st10.trans ?_
      show Steps p.tables e below (T10.setTop (mkF m 48 #[.val (.int x0), .val (.int (0 : Int32)), .val (.ref (w 1)), .val (.ref (w 0)), .unset] [(.ref (w 1))])) _
      refine XS.astore X10.here hx rfl (hb hby at_48) rfl rfl (l' := #[.val (.int x0), .val (.int (0 : Int32)), .val (.ref (w 1)), .val (.ref (w 0)), .val (.ref (w 1))]) rfl ?_
      show Steps p.tables e below (T10.setTop (mkF m 50 #[.val (.int x0), .val (.int (0 : Int32)), .val (.ref (w 1)), .val (.ref (w 0)), .val (.ref (w 1))] [])) _
      refine XS.aload X10.here hx rfl (hb hby at_50) rfl rfl ?_
      show Steps p.tables e below (T10.setTop (mkF m 52 #[.val (.int x0), .val (.int (0 : Int32)), .val (.ref (w 1)), .val (.ref (w 0)), .val (.ref (w 1))] [(.ref (w 1))])) _
      refine XS.aloadN X10.here hx rfl (hb hby at_52) rfl rfl ?_
      exact k)
    obtain ⟨fs, hr, hrun, hended, hW, hsame⟩ := X10.leave (v := some (.int (1 : Int32))) (fun h => by rw [Bd.returns] at h; cases h)
    refine ⟨_, _, pre11 _ ?_, hrun, hended, _, _, rfl, ?_, ⟨_, rfl⟩, hW, hsame.mono (by decide) (by decide)⟩
    · show Steps p.tables e below (T10.setTop (mkF m 53 #[.val (.int x0), .val (.int (0 : Int32)), .val (.ref (w 1)), .val (.ref (w 0)), .val (.ref (w 1))] [(.ref (w 1)), (.ref (w 1))])) _
      refine Jvm.RoadKit.acmp (g := (mkF m 53 #[.val (.int x0), .val (.int (0 : Int32)), .val (.ref (w 1)), .val (.ref (w 0)), .val (.ref (w 1))] [(.ref (w 1)), (.ref (w 1))])) X10 hx rfl rfl rfl (pc0 := 53) (pc' := 56) (same := true) rfl (hb hby at_53) rfl (decide_eq_true rfl) (by decide) (by decide) ?_
      show Steps p.tables e below (T10.setTop (mkF m 56 #[.val (.int x0), .val (.int (0 : Int32)), .val (.ref (w 1)), .val (.ref (w 0)), .val (.ref (w 1))] [])) _
      refine XS.iconst X10.here hx rfl (hb hby at_56) ?_
      show Steps p.tables e below (T10.setTop (mkF m 57 #[.val (.int x0), .val (.int (0 : Int32)), .val (.ref (w 1)), .val (.ref (w 0)), .val (.ref (w 1))] [(.int (1 : Int32))])) _
      refine XS.goto X10.here hx rfl (pc0 := 57) (pc' := 61) rfl (hb hby at_57) (by decide) (by decide) ?_
      show Steps p.tables e below (T10.setTop (mkF m 61 #[.val (.int x0), .val (.int (0 : Int32)), .val (.ref (w 1)), .val (.ref (w 0)), .val (.ref (w 1))] [(.int (1 : Int32))])) _
      exact retN X10 hx (t := .boolean) Bd.returns (by simp) (hb hby at_61) hr
    · exact ⟨rfl, N10⟩
  · have pre12 : ∀ t, Steps p.tables e below (s₁.setTop (mkF m 13 #[.val (.int x0), .val (.int (1 : Int32)), .unset, .unset, .unset] [(.int (1 : Int32))])) t → Steps p.tables e below (s₁.setTop (entryFrame m #[(.int x0)] maxLocals)) t := fun t k => pre5 t (by
      show Steps p.tables e below (s₁.setTop (mkF m 3 #[.val (.int x0), .unset, .unset, .unset, .unset] [(.int (x0 &&& (1 : Int32)))])) _
      refine XS.ifNo X0.here hx rfl (hb hby at_3) rfl ((if0 _ _).trans (feq hc3).1) ?_
      show Steps p.tables e below (s₁.setTop (mkF m 6 #[.val (.int x0), .unset, .unset, .unset, .unset] [])) _
      refine XS.iconst X0.here hx rfl (hb hby at_6) ?_
      show Steps p.tables e below (s₁.setTop (mkF m 7 #[.val (.int x0), .unset, .unset, .unset, .unset] [(.int (1 : Int32))])) _
      refine XS.goto X0.here hx rfl (pc0 := 7) (pc' := 11) rfl (hb hby at_7) (by decide) (by decide) ?_
      show Steps p.tables e below (s₁.setTop (mkF m 11 #[.val (.int x0), .unset, .unset, .unset, .unset] [(.int (1 : Int32))])) _
      refine XS.istoreN X0.here hx rfl (hb hby at_11) rfl (l' := #[.val (.int x0), .val (.int (1 : Int32)), .unset, .unset, .unset]) rfl ?_
      show Steps p.tables e below (s₁.setTop (mkF m 12 #[.val (.int x0), .val (.int (1 : Int32)), .unset, .unset, .unset] [])) _
      refine XS.iloadN X0.here hx rfl (hb hby at_12) rfl ?_
      exact k)
    obtain ⟨T13, X13, e13, st13⟩ := getS2 X0 hx hZ hown (host := "") (Or.inl (hw _ (List.mem_of_getElem? (i := 11) rfl))) Via.refl e0 ST.1 (g := (mkF m 16 #[.val (.int x0), .val (.int (1 : Int32)), .unset, .unset, .unset] [])) rfl (hb hby at_16)
    obtain ⟨cq14, kq14, q14a, q14b, q14c⟩ := isOf hZ e13 (EX 0 (by decide))
    obtain ⟨vv14, _, ⟨T14, L14, k14, n14⟩, -, X14, ⟨Lc14, hQ14, l14, y14, z14⟩, st14⟩ := X13.virtualBack hx (y := (⟨"com/example/envyless/envyless/Side", "other", "()Lcom/example/envyless/envyless/Side;"⟩ : MethodName)) (z := (⟨"com/example/envyless/envyless/Side", "other", "()Lcom/example/envyless/envyless/Side;"⟩ : MethodName)) hown (mvT hZ (hw _ (List.mem_of_getElem? (i := 3) rfl))) (mvT hZ (hw _ (List.mem_of_getElem? (i := 4) rfl))) (notFace_of_selects (args := #[]) (mvT hZ (hw _ (List.mem_of_getElem? (i := 6) rfl)))) (mvT hZ (hw _ (List.mem_of_getElem? (i := 6) rfl))) (mvT hZ (hw _ (List.mem_of_getElem? (i := 5) rfl))) (by decide) (backOf (W := 0) (rm1 l Z a0 hw [] (w 0) w h0 n0 Z0 ST) hZ (hw _ (List.mem_of_getElem? (i := 7) rfl)) (hw _ (List.mem_of_getElem? (i := 1) rfl)) (by decide) (by decide)) q14a q14c (g := (mkF m 27 #[.val (.int x0), .val (.int (1 : Int32)), .val (.ref (w 0)), .unset, .unset] [(.ref (w 0))])) rfl (by rw [hml]; rfl) (Steps.refl _) (argsL := []) (rest := []) (lenOf own_pd_0 rfl) rfl (by show 2 * 0 + _ ≤ _; exact Nat.le_of_eq rfl) (hb hby at_27) (fun _ _ => ⟨rfl, e13, (by decide : 0 + 0 ≤ _), (by decide : 0 + 0 ≤ _)⟩)
    dsimp only [Pt.U, Pt.locs, Pt.cells, Pt.slots] at X14 l14 y14 z14 st14 hQ14
    subst l14 y14 z14
    rw [if_pos rfl] at hQ14
    obtain ⟨rfl, N14q, e14⟩ := hQ14
    have N14 := Fr.app N0 N14q
    have pre15 : ∀ t, Steps p.tables e below (T14.setTop (mkF m 39 #[.val (.int x0), .val (.int (1 : Int32)), .val (.ref (w 0)), .val (.ref (w 1)), .unset] [(.ref (w 0)), (.ref (w 1))])) t → Steps p.tables e below (s₁.setTop (entryFrame m #[(.int x0)] maxLocals)) t := fun t k => pre12 t (by
      show Steps p.tables e below (s₁.setTop (mkF m 13 #[.val (.int x0), .val (.int (1 : Int32)), .unset, .unset, .unset] [(.int (1 : Int32))])) _
      refine XS.ifNo X0.here hx rfl (hb hby at_13) rfl ((if0 _ _).trans (feq (by decide : ¬ ((1 : Int32) = (0 : Int32)))).1) ?_
      show Steps p.tables e below (s₁.setTop (mkF m 16 #[.val (.int x0), .val (.int (1 : Int32)), .unset, .unset, .unset] [])) _
      refine st13 _ ?_
      show Steps p.tables e below (T13.setTop (mkF m 19 #[.val (.int x0), .val (.int (1 : Int32)), .unset, .unset, .unset] [(.ref (w 0))])) _
      refine XS.goto X13.here hx rfl (pc0 := 19) (pc' := 25) rfl (hb hby at_19) (by decide) (by decide) ?_
      show Steps p.tables e below (T13.setTop (mkF m 25 #[.val (.int x0), .val (.int (1 : Int32)), .unset, .unset, .unset] [(.ref (w 0))])) _
      refine XS.astoreN X13.here hx rfl (hb hby at_25) rfl rfl (l' := #[.val (.int x0), .val (.int (1 : Int32)), .val (.ref (w 0)), .unset, .unset]) rfl ?_
      show Steps p.tables e below (T13.setTop (mkF m 26 #[.val (.int x0), .val (.int (1 : Int32)), .val (.ref (w 0)), .unset, .unset] [])) _
      refine XS.aloadN X13.here hx rfl (hb hby at_26) rfl rfl ?_
      show Steps p.tables e below (T13.setTop (mkF m 27 #[.val (.int x0), .val (.int (1 : Int32)), .val (.ref (w 0)), .unset, .unset] [(.ref (w 0))])) _
      refine st14.trans ?_
      show Steps p.tables e below (T14.setTop (mkF m 30 #[.val (.int x0), .val (.int (1 : Int32)), .val (.ref (w 0)), .unset, .unset] [(.ref (w 1))])) _
      refine XS.astoreN X14.here hx rfl (hb hby at_30) rfl rfl (l' := #[.val (.int x0), .val (.int (1 : Int32)), .val (.ref (w 0)), .val (.ref (w 1)), .unset]) rfl ?_
      show Steps p.tables e below (T14.setTop (mkF m 31 #[.val (.int x0), .val (.int (1 : Int32)), .val (.ref (w 0)), .val (.ref (w 1)), .unset] [])) _
      refine XS.aloadN X14.here hx rfl (hb hby at_31) rfl rfl ?_
      show Steps p.tables e below (T14.setTop (mkF m 32 #[.val (.int x0), .val (.int (1 : Int32)), .val (.ref (w 0)), .val (.ref (w 1)), .unset] [(.ref (w 1))])) _
      refine XS.ifnonnullYes X14.here hx rfl (pc0 := 32) (pc' := 37) rfl (hb hby at_32) rfl (by decide) (by decide) ?_
      show Steps p.tables e below (T14.setTop (mkF m 37 #[.val (.int x0), .val (.int (1 : Int32)), .val (.ref (w 0)), .val (.ref (w 1)), .unset] [])) _
      refine XS.aloadN X14.here hx rfl (hb hby at_37) rfl rfl ?_
      show Steps p.tables e below (T14.setTop (mkF m 38 #[.val (.int x0), .val (.int (1 : Int32)), .val (.ref (w 0)), .val (.ref (w 1)), .unset] [(.ref (w 1))])) _
      refine XS.aloadN X14.here hx rfl (hb hby at_38) rfl rfl ?_
      exact k)
    obtain ⟨cq16, kq16, q16a, q16b, q16c⟩ := isOf hZ e14 (EX 1 (by decide))
    obtain ⟨vv16, _, ⟨T16, L16, k16, n16⟩, -, X16, ⟨Lc16, hQ16, l16, y16, z16⟩, st16⟩ := X14.virtualBack hx (y := (⟨"com/example/envyless/envyless/Side", "other", "()Lcom/example/envyless/envyless/Side;"⟩ : MethodName)) (z := (⟨"com/example/envyless/envyless/Side", "other", "()Lcom/example/envyless/envyless/Side;"⟩ : MethodName)) hown (mvT hZ (hw _ (List.mem_of_getElem? (i := 3) rfl))) (mvT hZ (hw _ (List.mem_of_getElem? (i := 4) rfl))) (notFace_of_selects (args := #[]) (mvT hZ (hw _ (List.mem_of_getElem? (i := 6) rfl)))) (mvT hZ (hw _ (List.mem_of_getElem? (i := 6) rfl))) (mvT hZ (hw _ (List.mem_of_getElem? (i := 5) rfl))) (by decide) (backOf (W := 0) (rm1 l Z a0 hw [] (w 1) w h0 n0 Z0 ST) hZ (hw _ (List.mem_of_getElem? (i := 7) rfl)) (hw _ (List.mem_of_getElem? (i := 1) rfl)) (by decide) (by decide)) q16a q16c (g := (mkF m 45 #[.val (.int x0), .val (.int (1 : Int32)), .val (.ref (w 0)), .val (.ref (w 1)), .unset] [(.ref (w 1))])) rfl (by rw [hml]; rfl) (Steps.refl _) (argsL := []) (rest := []) (lenOf own_pd_0 rfl) rfl (by show 2 * 0 + _ ≤ _; exact Nat.le_of_eq rfl) (hb hby at_45) (fun _ _ => ⟨rfl, e14, (by decide : 0 + 0 ≤ _), (by decide : 0 + 0 ≤ _)⟩)
    dsimp only [Pt.U, Pt.locs, Pt.cells, Pt.slots] at X16 l16 y16 z16 st16 hQ16
    subst l16 y16 z16
    rw [if_neg NE] at hQ16
    obtain ⟨rfl, N16q, e16⟩ := hQ16
    have N16 := Fr.app N14 N16q
    have pre17 : ∀ t, Steps p.tables e below (T16.setTop (mkF m 53 #[.val (.int x0), .val (.int (1 : Int32)), .val (.ref (w 0)), .val (.ref (w 1)), .val (.ref (w 0))] [(.ref (w 0)), (.ref (w 0))])) t → Steps p.tables e below (s₁.setTop (entryFrame m #[(.int x0)] maxLocals)) t := fun t k => pre15 t (by
      show Steps p.tables e below (T14.setTop (mkF m 39 #[.val (.int x0), .val (.int (1 : Int32)), .val (.ref (w 0)), .val (.ref (w 1)), .unset] [(.ref (w 0)), (.ref (w 1))])) _
      refine Jvm.RoadKit.acmp (g := (mkF m 39 #[.val (.int x0), .val (.int (1 : Int32)), .val (.ref (w 0)), .val (.ref (w 1)), .unset] [(.ref (w 0)), (.ref (w 1))])) X14 hx rfl rfl rfl (pc0 := 39) (pc' := 44) (same := false) rfl (hb hby at_39) rfl (decide_eq_false fun q => (NE) (Value.ref.inj q)) (by decide) (by decide) ?_
      show Steps p.tables e below (T14.setTop (mkF m 44 #[.val (.int x0), .val (.int (1 : Int32)), .val (.ref (w 0)), .val (.ref (w 1)), .unset] [])) _
      refine XS.aloadN X14.here hx rfl (hb hby at_44) rfl rfl ?_
      show Steps p.tables e below (T14.setTop (mkF m 45 #[.val (.int x0), .val (.int (1 : Int32)), .val (.ref (w 0)), .val (.ref (w 1)), .unset] [(.ref (w 1))])) _
      refine st16.trans ?_
      show Steps p.tables e below (T16.setTop (mkF m 48 #[.val (.int x0), .val (.int (1 : Int32)), .val (.ref (w 0)), .val (.ref (w 1)), .unset] [(.ref (w 0))])) _
      refine XS.astore X16.here hx rfl (hb hby at_48) rfl rfl (l' := #[.val (.int x0), .val (.int (1 : Int32)), .val (.ref (w 0)), .val (.ref (w 1)), .val (.ref (w 0))]) rfl ?_
      show Steps p.tables e below (T16.setTop (mkF m 50 #[.val (.int x0), .val (.int (1 : Int32)), .val (.ref (w 0)), .val (.ref (w 1)), .val (.ref (w 0))] [])) _
      refine XS.aload X16.here hx rfl (hb hby at_50) rfl rfl ?_
      show Steps p.tables e below (T16.setTop (mkF m 52 #[.val (.int x0), .val (.int (1 : Int32)), .val (.ref (w 0)), .val (.ref (w 1)), .val (.ref (w 0))] [(.ref (w 0))])) _
      refine XS.aloadN X16.here hx rfl (hb hby at_52) rfl rfl ?_
      exact k)
    obtain ⟨fs, hr, hrun, hended, hW, hsame⟩ := X16.leave (v := some (.int (1 : Int32))) (fun h => by rw [Bd.returns] at h; cases h)
    refine ⟨_, _, pre17 _ ?_, hrun, hended, _, _, rfl, ?_, ⟨_, rfl⟩, hW, hsame.mono (by decide) (by decide)⟩
    · show Steps p.tables e below (T16.setTop (mkF m 53 #[.val (.int x0), .val (.int (1 : Int32)), .val (.ref (w 0)), .val (.ref (w 1)), .val (.ref (w 0))] [(.ref (w 0)), (.ref (w 0))])) _
      refine Jvm.RoadKit.acmp (g := (mkF m 53 #[.val (.int x0), .val (.int (1 : Int32)), .val (.ref (w 0)), .val (.ref (w 1)), .val (.ref (w 0))] [(.ref (w 0)), (.ref (w 0))])) X16 hx rfl rfl rfl (pc0 := 53) (pc' := 56) (same := true) rfl (hb hby at_53) rfl (decide_eq_true rfl) (by decide) (by decide) ?_
      show Steps p.tables e below (T16.setTop (mkF m 56 #[.val (.int x0), .val (.int (1 : Int32)), .val (.ref (w 0)), .val (.ref (w 1)), .val (.ref (w 0))] [])) _
      refine XS.iconst X16.here hx rfl (hb hby at_56) ?_
      show Steps p.tables e below (T16.setTop (mkF m 57 #[.val (.int x0), .val (.int (1 : Int32)), .val (.ref (w 0)), .val (.ref (w 1)), .val (.ref (w 0))] [(.int (1 : Int32))])) _
      refine XS.goto X16.here hx rfl (pc0 := 57) (pc' := 61) rfl (hb hby at_57) (by decide) (by decide) ?_
      show Steps p.tables e below (T16.setTop (mkF m 61 #[.val (.int x0), .val (.int (1 : Int32)), .val (.ref (w 0)), .val (.ref (w 1)), .val (.ref (w 0))] [(.int (1 : Int32))])) _
      exact retN X16 hx (t := .boolean) Bd.returns (by simp) (hb hby at_61) hr
    · exact ⟨rfl, N16⟩
set_option maxRecDepth 65536 in
set_option maxHeartbeats 40000000 in
theorem comes_1 {Post : Tables → Env → Array Value → State → Outcome → State → Prop} (hpost : ∀ tb e args s v u, (limb_1_1.after args s (.returned v) u = true ∧ limb_1_2.after args s (.returned v) u = true ∧ True) → FrameEnd s (.returned v) u (Jvm.fieldLocs frame_1_writes args s ++ Jvm.arrayLocs frame_1_arrays args s ++ Jvm.staticLocs frame_1_statics s) 0 0 → Post tb e args s (.returned v) u) :
    ArmFor flags0 classFile x code maxLocals ret World_1 tables_1 room_1 Calls_1 rest_1 Pre_1 Post := by
  intro l hfl _ _ p e ha hc hk s m args below hf hA hF happ hP
  obtain ⟨hcalls, hrest, hpre⟩ := hP
  obtain ⟨-, -, -, hnamed, -, -, -, hat⟩ := (Spec.applies_iff hf).mp happ
  obtain ⟨hg, hn⟩ := and_e (Cond.before_iff.mp (show (Jvm.Cond.and given_1 narrow_1).before args s = true from hpre))
  obtain ⟨g0, g0r⟩ := and_e hg
  obtain ⟨w0_, rfl⟩ : ∃ w0_ : Value, args = #[w0_] := by
    have hs : args.size = 1 := by simpa [Cond.value, given_1] using g0
    obtain ⟨L⟩ := args
    match L, hs with
    | [w0_], _ => exact ⟨w0_, rfl⟩
  have hw := fun d (hd : d ∈ tables_1) => atoms_spec (ws := Jvm.Cond.code x code maxLocals ret :: tables_1) hat d (List.mem_cons_of_mem _ hd)
  have hfit : Fit s := fun {y c} hc i hi => by
    obtain ⟨ha, rfl⟩ := Array.getElem?_eq_some_iff.mp hc
    have q := List.all_eq_true.mp ((Array.all_eq_true_iff_forall_mem.mp hF) _ (Array.getElem_mem ha)) i (List.mem_range.mpr hi)
    simpa [Array.getElem?_eq_getElem hi] using q
  obtain ⟨i0, ei0⟩ := is_v g0r
  obtain rfl : w0_ = (.int i0) := Option.some.inj ei0
  obtain ⟨n0, n0r⟩ := and_e hn
  obtain ⟨n1, n1r⟩ := and_e n0r
  obtain ⟨n2, n2r⟩ := and_e n1r
  obtain ⟨v0, ev0⟩ := exa_v n1
  have S0 : Sta s s.heap "com/example/envyless/envyless/Side" "RESIDENT" "Lcom/example/envyless/envyless/Side;" (.ref v0) := Sta.start ev0 (Or.inr ⟨(hw _ (List.mem_of_getElem? (i := 1) rfl)), (hw _ (List.mem_of_getElem? (i := 9) rfl))⟩)
  have E0 : Exa s s.heap v0 "com/example/envyless/envyless/Side" := Exa.start ev0 n1
  obtain ⟨v1, ev1⟩ := exa_v n0
  have S1 : Sta s s.heap "com/example/envyless/envyless/Side" "HOSPITAL" "Lcom/example/envyless/envyless/Side;" (.ref v1) := Sta.start ev1 (Or.inr ⟨(hw _ (List.mem_of_getElem? (i := 1) rfl)), (hw _ (List.mem_of_getElem? (i := 2) rfl))⟩)
  have E1 : Exa s s.heap v1 "com/example/envyless/envyless/Side" := Exa.start ev1 n0
  have F0 := own_fld ev0 n2r
  have F1 := own_fld ev1 n2
  obtain ⟨n, o, h1, h2, h3, _, L, rfl, ⟨rfl, N⟩, hq⟩ := rm0 l s _ hw tables_1 i0 (fun i => [v0, v1].getD i 0) s.heap s.heap.size (Nat.le_refl _) ⟨S0, S1⟩ (fun i hi => match i, hi with | 0, _ => E0 | 1, _ => E1 | i + 2, hi => absurd hi (by omega)) (Fld.ne F1 F0 (by decide)) p e ha hc hk s m _ below hf ((Spec.applies_iff_loose hf).mp happ).1 ⟨rfl, State.Warmed39.refl s, rfl⟩ trivial
  refine ⟨n, _, h1, h2, h3, hpost _ _ _ _ _ _ ⟨Cond.after_iff.mpr rfl, Cond.after_iff.mpr (eq_i res_at (Term.int_eval (1)) rfl), trivial⟩ ⟨hq.1, hq.2.1, (hq.2.2.sift fun y hy => Or.inr (N y hy)).mono (by decide) (by decide)⟩⟩
theorem main_1_1 : Claimed_1_1 := comes_1 fun _ _ _ _ _ _ h hF => ⟨h.1, hF⟩
theorem main_1_2 : Claimed_1_2 := comes_1 fun _ _ _ _ _ _ h hF => ⟨h.2.1, hF⟩
end Jvm.Pilot.@@N@@
namespace Jvm.Pilot.@@N@@
open Jvm Jvm.ClassFile Sem Op Lib Jvm.Free Jvm.Stand Jvm.Pilot.@@N@@.Jvm.D
/-! MADE BY PROGRAM (witnessworld.py) out of the Statement's table words and the real class files: 12 classes; the members and pool entries that the words name. The judged class is class 1, her method 1. -/
namespace start1
open Jvm.ClassFile
def u (s : String) : CpInfo := .utf8 (stringToUtf16 s)
/-- a pool by its gaps: so many unusable entries, then the entry; so many at the end -/
def gap : Nat → List CpInfo → List CpInfo
  | 0, r => r
  | n + 1, r => .unusable :: gap n r
def poolList (es : List (Nat × CpInfo)) (last : Nat) : List CpInfo := es.foldr (fun e r => gap e.1 (e.2 :: r)) (gap last [])
def pool (es : List (Nat × CpInfo)) (last : Nat) : Array CpInfo := ⟨poolList es last⟩
def fileOf (pool : Array CpInfo) (this : Nat) (attrs : Array Attribute := #[]) (ms : Array MethodInfo := #[]) (fl : Nat := 33) (sup : Nat := 0) (ifs : Array Nat := #[]) (fds : Array FieldInfo := #[]) : ClassFile where
  minorVersion := 0
  majorVersion := 65
  constantPool := pool
  accessFlags := fl
  thisClass := this
  superClass := sup
  interfaces := ifs
  fields := fds
  methods := ms
  attributes := attrs
def plain (name : String) (sup : Option ClassId) : Class where
  name := name
  kind := .ordinary
  loader := none
  accessFlags := 33
  super := sup
  interfaces := #[]
  cf := none
  fields := #[]
  methods := #[]
  instanceTypes := #[]
  staticTypes := #[]
  resolved := #[]
  callSites := []
  init := .initialized
  statics := none
  mirror := none

def pool0 : Array CpInfo := pool [(5, u "<init>"), (0, u "()V"), (1, .class_ 10), (1, u "java/lang/Object")] 113

def k0m0 : Method := { name := "<init>", desc := "()V", sig := { parameters := [], returnType := none }, accessFlags := 1, code := none }
/-- java/lang/Object -/
def k0 : Class := { plain "java/lang/Object" none with
  accessFlags := 33
  interfaces := #[]
  cf := some (fileOf pool0 8 #[] #[{ accessFlags := 1, nameIndex := 5, descriptorIndex := 6, attributes := #[] }] 33 0 #[] #[])
  fields := #[]
  methods := #[k0m0]
  instanceTypes := #[]
  staticTypes := #[]
  resolved := Array.replicate 124 none
  statics := none }

def pool1 : Array CpInfo := pool [(2, .class_ 4), (1, u "java/lang/Object"), (0, u "<init>"), (0, u "()V"), (0, .fieldref 8 9), (0, .class_ 10), (0, .nameAndType 11 12), (0, u "com/example/envyless/envyless/Side"), (0, u "RESIDENT"), (0, u "Lcom/example/envyless/envyless/Side;"), (0, .fieldref 8 14), (0, .nameAndType 15 12), (0, u "HOSPITAL"), (0, .methodref 8 17), (0, .nameAndType 18 19), (0, u "other"), (0, u "()Lcom/example/envyless/envyless/Side;"), (0, .class_ 21), (0, u "com/example/envyless/envyless/SideOtherPinLaw"), (2, u "law"), (0, u "(I)Z")] 3

def k1m0 : Method := { name := "<init>", desc := "()V", sig := { parameters := [], returnType := none }, accessFlags := 1, code := none }
def k1c1 : Code := { maxStack := 2, maxLocals := 5, code := code, exceptionTable := #[], attributes := #[] }
def k1m1 : Method := { name := "law", desc := "(I)Z", sig := { parameters := [.int], returnType := some .boolean }, accessFlags := 9, code := some k1c1 }
/-- com/example/envyless/envyless/SideOtherPinLaw -/
def k1 : Class := { plain "com/example/envyless/envyless/SideOtherPinLaw" (some 0) with
  accessFlags := 49
  interfaces := #[]
  cf := some (fileOf pool1 20 #[] #[{ accessFlags := 1, nameIndex := 5, descriptorIndex := 6, attributes := #[] }, { accessFlags := 9, nameIndex := 24, descriptorIndex := 25, attributes := #[] }] 49 2 #[] #[])
  fields := #[]
  methods := #[k1m0, k1m1]
  instanceTypes := #[]
  staticTypes := #[]
  resolved := Array.replicate 29 none
  statics := none }

def pool2 : Array CpInfo := pool [(1, .class_ 2), (0, u "java/lang/constant/Constable"), (0, .class_ 4), (0, u "java/lang/Object")] 6

/-- java/lang/constant/Constable -/
def k2 : Class := { plain "java/lang/constant/Constable" (some 0) with
  accessFlags := 1537
  interfaces := #[]
  cf := some (fileOf pool2 1 #[] #[] 1537 3 #[] #[])
  fields := #[]
  methods := #[]
  instanceTypes := #[]
  staticTypes := #[]
  resolved := Array.replicate 11 none
  statics := none }

def pool3 : Array CpInfo := pool [(1, .class_ 2), (0, u "java/lang/Comparable"), (0, .class_ 4), (0, u "java/lang/Object")] 7

/-- java/lang/Comparable -/
def k3 : Class := { plain "java/lang/Comparable" (some 0) with
  accessFlags := 1537
  interfaces := #[]
  cf := some (fileOf pool3 1 #[] #[] 1537 3 #[] #[])
  fields := #[]
  methods := #[]
  instanceTypes := #[]
  staticTypes := #[]
  resolved := Array.replicate 12 none
  statics := none }

def pool4 : Array CpInfo := pool [(1, .class_ 2), (0, u "java/io/Serializable"), (0, .class_ 4), (0, u "java/lang/Object")] 2

/-- java/io/Serializable -/
def k4 : Class := { plain "java/io/Serializable" (some 0) with
  accessFlags := 1537
  interfaces := #[]
  cf := some (fileOf pool4 1 #[] #[] 1537 3 #[] #[])
  fields := #[]
  methods := #[]
  instanceTypes := #[]
  staticTypes := #[]
  resolved := Array.replicate 7 none
  statics := none }

def pool5 : Array CpInfo := pool [(2, .class_ 4), (1, u "java/lang/Enum"), (0, u "name"), (0, u "Ljava/lang/String;"), (2, u "ordinal"), (0, u "I"), (1, .class_ 14), (1, u "java/lang/Object"), (4, u "hash"), (86, .class_ 108), (1, u "java/lang/Enum$EnumDesc"), (2, .class_ 112), (0, u "java/lang/constant/Constable"), (0, .class_ 114), (0, u "java/lang/Comparable"), (0, .class_ 116), (0, u "java/io/Serializable")] 87

/-- java/lang/Enum -/
def k5 : Class := { plain "java/lang/Enum" (some 0) with
  accessFlags := 1057
  interfaces := #[2, 3, 4]
  cf := some (fileOf pool5 2 #[.nestMembers #[106]] #[] 1057 12 #[111, 113, 115] #[{ accessFlags := 18, nameIndex := 5, descriptorIndex := 6, attributes := #[] }, { accessFlags := 18, nameIndex := 9, descriptorIndex := 10, attributes := #[] }, { accessFlags := 2, nameIndex := 19, descriptorIndex := 10, attributes := #[] }])
  fields := #[{ name := "name", type := (.object "java/lang/String"), accessFlags := 18, slot := 0, constantValue := 0 }, { name := "ordinal", type := .int, accessFlags := 18, slot := 1, constantValue := 0 }, { name := "hash", type := .int, accessFlags := 2, slot := 2, constantValue := 0 }]
  methods := #[]
  instanceTypes := #[(.object "java/lang/String"), .int, .int]
  staticTypes := #[]
  resolved := Array.replicate 204 none
  statics := none }

def pool6 : Array CpInfo := pool [(1, .class_ 2), (0, u "com/example/envyless/envyless/Side"), (0, .fieldref 1 4), (0, .nameAndType 5 6), (0, u "RESIDENT"), (0, u "Lcom/example/envyless/envyless/Side;"), (0, .fieldref 1 8), (0, .nameAndType 9 6), (0, u "HOSPITAL"), (2, u "$VALUES"), (0, u "[Lcom/example/envyless/envyless/Side;"), (6, .class_ 22), (1, u "java/lang/Enum"), (8, u "word"), (0, u "Ljava/lang/String;"), (20, u "other"), (0, u "()Lcom/example/envyless/envyless/Side;")] 8

def k6c0 : Code := { maxStack := 2, maxLocals := 1, code := prog_29_method_4_code, exceptionTable := #[], attributes := #[] }
def k6m0 : Method := { name := "other", desc := "()Lcom/example/envyless/envyless/Side;", sig := { parameters := [], returnType := some (.object "com/example/envyless/envyless/Side") }, accessFlags := 0, code := some k6c0 }
/-- com/example/envyless/envyless/Side -/
def k6 : Class := { plain "com/example/envyless/envyless/Side" (some 5) with
  accessFlags := 16432
  interfaces := #[]
  cf := some (fileOf pool6 1 #[] #[{ accessFlags := 0, nameIndex := 53, descriptorIndex := 54, attributes := #[] }] 16432 20 #[] #[{ accessFlags := 16409, nameIndex := 5, descriptorIndex := 6, attributes := #[] }, { accessFlags := 16409, nameIndex := 9, descriptorIndex := 6, attributes := #[] }, { accessFlags := 18, nameIndex := 31, descriptorIndex := 32, attributes := #[] }, { accessFlags := 4122, nameIndex := 12, descriptorIndex := 13, attributes := #[] }])
  fields := #[{ name := "RESIDENT", type := (.object "com/example/envyless/envyless/Side"), accessFlags := 16409, slot := 0, constantValue := 0 }, { name := "HOSPITAL", type := (.object "com/example/envyless/envyless/Side"), accessFlags := 16409, slot := 1, constantValue := 0 }, { name := "word", type := (.object "java/lang/String"), accessFlags := 18, slot := 3, constantValue := 0 }, { name := "$VALUES", type := (.array (.object "com/example/envyless/envyless/Side")), accessFlags := 4122, slot := 2, constantValue := 0 }]
  methods := #[k6m0]
  instanceTypes := #[(.object "java/lang/String"), .int, .int, (.object "java/lang/String")]
  staticTypes := #[(.object "com/example/envyless/envyless/Side"), (.object "com/example/envyless/envyless/Side"), (.array (.object "com/example/envyless/envyless/Side"))]
  resolved := Array.replicate 63 none
  statics := some 0 }

def pool7 : Array CpInfo := pool [(1, u "java/lang/Cloneable"), (0, .class_ 1), (0, u "java/lang/Object"), (0, .class_ 3)] 3

/-- java/lang/Cloneable -/
def k7 : Class := { plain "java/lang/Cloneable" (some 0) with
  accessFlags := 1537
  interfaces := #[]
  cf := some (fileOf pool7 2 #[] #[] 1537 4 #[] #[])
  fields := #[]
  methods := #[]
  instanceTypes := #[]
  staticTypes := #[]
  resolved := Array.replicate 8 none
  statics := none }

/-- the primitive byte -/
def k8 : Class := { plain "byte" none with kind := .primitive 'B', accessFlags := 0x411 }
/-- [B -/
def k9 : Class := { plain "[B" (some 0) with kind := .array 8 .byte, interfaces := #[7, 4], accessFlags := 1041 }

/-- the primitive int -/
def k10 : Class := { plain "int" none with kind := .primitive 'I', accessFlags := 0x411 }
/-- [I -/
def k11 : Class := { plain "[I" (some 0) with kind := .array 10 .int, interfaces := #[7, 4], accessFlags := 1041 }

def heap : Heap := #[{ cls := 6, slots := #[.ref 1, .ref 2, .null], vm := .statics 6 },
  { cls := 6, slots := #[.null, .int 0, .int 0, .null], vm := .none },
  { cls := 6, slots := #[.null, .int 1, .int 0, .null], vm := .none }]
def classes : Array Class := #[k0, k1, k2, k3, k4, k5, k6, k7, k8, k9, k10, k11]
def interned : List (Array UInt16 × Addr) := []
def slotsUsed : Nat := 11
def theMethod : MethodId := ⟨1, 1⟩
def args0 : Array Value := #[.int 5]
def aboutOver (below : List Frame) : State where
  vm := { classes := classes, interned := interned.toArray }
  heap := heap
  slotsUsed := slotsUsed
  threads := #[{ frames := .invoking theMethod args0 :: below }]
def below0 : List Frame := [.native { method := ⟨0, 0⟩, args := #[] }]
def about1 : State := aboutOver below0
def p0 : Program := .bare "" "" ""
def e0 : Env := launch0.env 0 0 0
theorem w_frames : about1.frames = Frame.invoking theMethod args0 :: below0 := rfl
set_option maxRecDepth 65536 in
theorem w_args : argsFit about1.vm theMethod args0 = true := by decide +kernel
set_option maxRecDepth 65536 in
theorem w_heap : heapFits about1 = true := by decide +kernel
set_option maxRecDepth 65536 in
theorem w_runnable : about1.curStatus? = some .runnable := by decide +kernel
set_option maxRecDepth 65536 in
theorem w_alone : about1.alone = true := by decide +kernel
set_option maxRecDepth 65536 in
theorem w_named : about1.methodNamed? x = some theMethod := by decide +kernel
set_option maxRecDepth 65536 in
theorem w_hears : about1.hears theMethod below0 = true := by decide +kernel
set_option maxRecDepth 65536 in
theorem w_ripe : about1.ripe theMethod args0 below0 = true := by decide +kernel
theorem w_running : about1.status = .running := rfl
set_option maxRecDepth 65536 in
theorem w_room : about1.hasRoom e0.platform room_1 = true :=
  launch0.hasRoom_least _ room_1 (by decide +kernel) (by decide +kernel) (by decide +kernel) (by decide +kernel) (by decide +kernel) (by decide +kernel)
theorem allAtoms_all (ts : List Jvm.Cond) (a : Array Jvm.Value) (st : Jvm.State) : (allAtoms ts).before a st = ts.all (fun c => c.before a st) := by
  induction ts with
  | nil => rfl
  | cons c t ih =>
    show (Jvm.Cond.and c (allAtoms t)).before a st = _
    rw [Jvm.Cond.before_and, ih, List.all_cons]
def words1 : List Jvm.Cond := Jvm.Cond.code x code maxLocals ret :: tables_1
/-- a 'code' word, met by the world's own term for the bytes: nothing is compared byte by byte -/
theorem code_word {y : MethodName} {bytes : ByteArray} {mx : Nat} {rt : Option FieldType} {a : Array Value} {s : State} {m : MethodId} {meth : Method} {c : Code} (h1 : s.methodNamed? y = some m) (h2 : s.vm.method? m = some meth) (h3 : meth.code = some c) (h4 : c.code = bytes)
    (h5 : (c.maxLocals == mx && c.exceptionTable.isEmpty && decide (c.maxStack ≤ mostOperands) && decide (meth.sig.returnType = rt) && !meth.locks && decide (parseMethodDescriptor y.desc = some meth.sig)) = true) : (Jvm.Cond.code y bytes mx rt).before a s = true := by
  simp only [Bool.and_eq_true, beq_iff_eq, Bool.not_eq_true', decide_eq_true_eq] at h5
  obtain ⟨⟨⟨⟨⟨g1, g2⟩, g3⟩, g4⟩, g5⟩, g6⟩ := h5
  simp [Cond.before, Cond.holds, Cond.value, h1, h2, h3, h4, g1, g2, g3, g4, g5, g6]
def isCode : Jvm.Cond → Bool
  | .code _ _ _ _ => true
  | _ => false
theorem all_split {L : List Jvm.Cond} {P : Jvm.Cond → Bool} (h1 : L.all (fun c => isCode c || P c) = true) (h2 : ∀ c ∈ L.filter isCode, P c = true) : L.all P = true := by
  refine List.all_eq_true.mpr fun c hc => ?_
  have h := List.all_eq_true.mp h1 c hc
  rcases Bool.eq_false_or_eq_true (isCode c) with hi | hi
  · exact h2 c (List.mem_filter.mpr ⟨hc, hi⟩)
  · simpa [hi] using h
set_option maxRecDepth 65536 in
theorem w_c0 : (Jvm.Cond.code x code maxLocals ret).before args0 about1 = true := code_word (m := ⟨1, 1⟩) (meth := k1m1) (c := k1c1) (by decide +kernel) rfl rfl rfl (by decide +kernel)
set_option maxRecDepth 65536 in
theorem w_c1 : (Jvm.Cond.code ({ cls := "com/example/envyless/envyless/Side", name := "other", desc := "()Lcom/example/envyless/envyless/Side;" } : Jvm.MethodName) prog_29_method_4_code (1 : Nat) (Option.some (Jvm.ClassFile.FieldType.object "com/example/envyless/envyless/Side"))).before args0 about1 = true := code_word (m := ⟨6, 0⟩) (meth := k6m0) (c := k6c0) (by decide +kernel) rfl rfl rfl (by decide +kernel)
def codes1 : List Jvm.Cond := [Jvm.Cond.code x code maxLocals ret, Jvm.Cond.code ({ cls := "com/example/envyless/envyless/Side", name := "other", desc := "()Lcom/example/envyless/envyless/Side;" } : Jvm.MethodName) prog_29_method_4_code (1 : Nat) (Option.some (Jvm.ClassFile.FieldType.object "com/example/envyless/envyless/Side"))]
set_option maxRecDepth 65536 in
theorem codes_eq : words1.filter isCode = codes1 := rfl
theorem w_codes : ∀ c ∈ words1.filter isCode, c.before args0 about1 = true := by
  rw [codes_eq]
  intro c hc
  simp only [codes1, List.mem_cons, List.not_mem_nil, or_false] at hc
  rcases hc with rfl | rfl
  · exact w_c0
  · exact w_c1
set_option maxRecDepth 65536 in
theorem w_t1 : words1.all (fun c => isCode c || c.before args0 about1) = true := by decide +kernel
theorem w_tables : (allAtoms (Jvm.Cond.code x code maxLocals ret :: tables_1)).before args0 about1 = true := by
  rw [allAtoms_all]
  show words1.all (fun c => c.before args0 about1) = true
  refine all_split ?_ w_codes
  rw [w_t1]
set_option maxRecDepth 65536 in
theorem w_case : (Jvm.Cond.and given_1 narrow_1).before args0 about1 = true := by decide +kernel
theorem w_applies : (headSpec (Jvm.Cond.code x code maxLocals ret :: tables_1) room_1).applies x e0.platform about1 = true :=
  (Spec.applies_iff w_frames).mpr ⟨w_running, w_runnable, w_alone, w_named, w_hears, w_ripe, w_room, w_tables⟩
theorem atStart : AtStart classFile x code maxLocals ret World_1 tables_1 room_1 Calls_1 rest_1 Pre_1 launch0 p0 e0 about1 theMethod args0 below0 :=
  ⟨lists_1, trivial, launch0.admits_env _ _ _, launch0.least_env, fairChoices_fair.cas, fairChoices_fair.clock, w_frames, w_args, w_heap, w_applies, trivial, trivial, w_case⟩
end start1
theorem witness_1 : WitnessClaimed_1 := ⟨start1.p0, start1.e0, start1.about1, start1.theMethod, start1.args0, start1.below0, start1.atStart⟩
end Jvm.Pilot.@@N@@
