import JvmDerived
import JvmDerived.Pilot.@@N@@Statement
import JvmDerived.Pilot.@@N@@Code
set_option linter.unusedVariables false
set_option linter.unusedSimpArgs false
@@BLOCK:NumsL.lean.txt@@
namespace Jvm.Pilot.@@N@@
open Jvm Jvm.ClassFile Sem Op Lib Jvm.Free Jvm.Stand Jvm.LawKit Jvm.RoadKit Bundle Jvm.Pilot.@@N@@.Jvm.D
/-- what a body leaves that writes nothing: its value, no place written, the heap as it was -/
def QP (val : Value) (h0 : Heap) (n0 : Nat) (v : Option Value) (h : Heap) (L : List Loc) : Prop := v = some val ∧ Fr n0 L ∧ h = h0
/-- what the law leaves: true -/
def Q1 (n0 : Nat) (v : Option Value) (h : Heap) (L : List Loc) : Prop := v = some (.int 1) ∧ Fr n0 L
theorem own_eq_int {args : Array Value} {s : State} {t : Term} {k : Int32} (h : (Jvm.Cond.eq t (.int k)).value args s none s [] = some true) : t.eval args s none [] s = some (.int k) := by
  simp only [Cond.value, Term.eval] at h
  cases ht : t.eval args s none [] s with
  | none => simp [ht] at h
  | some x => cases x <;> simp [ht] at h ⊢; exact h
theorem own_fld {args : Array Value} {s : State} {t : Term} {a : Addr} {C n d : String} {k : Int32} (ev : t.eval args s none [] s = some (.ref a)) (h : (Jvm.Cond.eq (.field t C n d) (.int k)).value args s none s [] = some true) : Fld s s.heap a C n d (.int k) :=
  Fld.start ((fld_at ev).symm.trans (own_eq_int h))
theorem own_toInt32_inj {i j : Nat} (hi : i < 2 ^ 31) (hj : j < 2 ^ 31) (h : i.toInt32 = j.toInt32) : i = j := by
  have := congrArg Int32.toInt h
  rw [len_toInt hi, len_toInt hj] at this
  omega
theorem own_inj {Z : State} {h : Heap} {w : Nat → Addr} {n : Nat} (hn : n < 2 ^ 31) (F : ∀ i, i < n → Fld Z h (w i) "java/lang/Enum" "ordinal" "I" (.int i.toInt32)) : ∀ i j, i < n → j < n → w i = w j → i = j := fun i j hi hj e => by
  by_cases q : i = j
  · exact q
  · exact absurd e (Fld.ne (F i hi) (F j hj) fun h => q (own_toInt32_inj (by omega) (by omega) (Value.int.inj h)))
theorem own_i32 {i : Int32} {N : Nat} (hN : N < 2 ^ 31) (h0 : 0 ≤ i.toInt) (h1 : i.toInt < N) : ∃ k : Nat, k < N ∧ i = k.toInt32 := by
  refine ⟨i.toInt.toNat, by omega, Int32.toInt_inj.mp ?_⟩
  rw [len_toInt (by omega)]
  omega
theorem own_mod (x n : Int32) (N : Nat) (hN : n.toInt = N) (h : 0 < N) : ∃ k : Nat, k < N ∧ (x &&& (2147483647 : Int32)) % n = k.toInt32 := by
  have e1 : (x &&& (2147483647 : Int32)).toInt = x.toInt % 2 ^ 31 := Jvm.Kit.i32_mask x 2147483647 (k := 31) (by decide) (by decide)
  have e2 : ((x &&& (2147483647 : Int32)) % n).toInt = (x &&& (2147483647 : Int32)).toInt % n.toInt := Jvm.Kit.i32_rem_nonneg (by omega)
  have hlt := n.toInt_lt
  have h3 : 0 ≤ (x &&& (2147483647 : Int32)).toInt % n.toInt := Int.emod_nonneg _ (by omega)
  have h4 : (x &&& (2147483647 : Int32)).toInt % n.toInt < n.toInt := Int.emod_lt_of_pos _ (by omega)
  exact own_i32 (by omega) (by omega) (by omega)
theorem own_mask (x n : Int32) {k : Nat} (hk : k < 31) (hm : n.toBitVec.toNat = 2 ^ k - 1) : ∃ j : Nat, j < 2 ^ k ∧ x &&& n = j.toInt32 := by
  have e1 : (x &&& n).toInt = x.toInt % 2 ^ k := Jvm.Kit.i32_mask x n (k := k) (by omega) hm
  have hp : (2 : Nat) ^ k < 2 ^ 31 := Nat.pow_lt_pow_right (by decide) hk
  have hp1 : (0 : Int) < 2 ^ k := Int.pow_pos (by decide)
  have h3 : 0 ≤ x.toInt % 2 ^ k := Int.emod_nonneg _ (by omega)
  have h4 : x.toInt % 2 ^ k < 2 ^ k := Int.emod_lt_of_pos _ hp1
  refine own_i32 hp (by rw [e1]; exact h3) (by rw [e1]; push_cast; exact h4)
theorem own_lt_irrefl {a b : Int64} (h : a = b) : ¬ a < b ∧ ¬ b < a := by subst h; simp [Int64.lt_irrefl]
theorem own_lt_asymm {a b : Int64} (h : a < b) : ¬ b < a := Int64.lt_asymm h
theorem own_lt_total {a b : Int64} (h1 : ¬ a = b) (h2 : ¬ a < b) : b < a := by
  rw [Int64.lt_iff_toInt_lt] at h2 ⊢; rw [← Int64.toInt_inj] at h1; omega
def STA (Z : State) (h : Heap) (w : Nat → Addr) : Prop := Sta Z h "com/example/slidebook/slidebook/engine/Replenish" "FIXED" "Lcom/example/slidebook/slidebook/engine/Replenish;" (.ref (w 0)) ∧ Sta Z h "com/example/slidebook/slidebook/engine/Replenish" "RANDOM" "Lcom/example/slidebook/slidebook/engine/Replenish;" (.ref (w 1))
def QV (h0 : Heap) (n0 : Nat) (v : Option Value) (h : Heap) (L : List Loc) : Prop := v = none ∧ Fr n0 L ∧ h = h0
def QC (Z : State) (a : Addr) (mf rg : Int64) (h0 : Heap) (n0 : Nat) (v : Option Value) (h : Heap) (L : List Loc) : Prop := v = none ∧ Fr n0 L ∧ Keep h0 h [a] ∧ Exa Z h a "com/example/slidebook/slidebook/engine/Reserve" ∧ Fld Z h a "com/example/slidebook/slidebook/engine/Reserve" "maxFloor" "J" (.long mf) ∧ Fld Z h a "com/example/slidebook/slidebook/engine/Reserve" "range" "J" (.long rg)
def own_iv (u m r : Int64) : Int32 := if r < 0 then 0 else if r < m then (if 1000000000 < m then 0 else if (m - (m / u) * u) = 0 then (if (r - (r / u) * u) = 0 then 1 else 0) else 0) else 0
theorem own_iv01 (u m r : Int64) : own_iv u m r = 0 ∨ own_iv u m r = 1 := by
  unfold own_iv
  repeat' split
  all_goals first | exact Or.inl rfl | exact Or.inr rfl
def own_UQ (u q : Int64) : Prop := 0 < u.toInt ∧ u.toInt ≤ 4611686018427387904 ∧ -4611686018427387904 ≤ u.toInt * q.toInt ∧ u.toInt * q.toInt ≤ 4611686018427387904
def own_R (u r : Int64) : Prop := 0 ≤ r.toInt ∧ r.toInt < u.toInt
theorem own_prod {U A B : Int} (hU : 0 < U) (h1 : -B ≤ A) (h2 : A ≤ B) : -(U * B) ≤ U * A ∧ U * A ≤ U * B := by
  have a := Int.mul_le_mul_of_nonneg_left h2 (Int.le_of_lt hU)
  have b := Int.mul_le_mul_of_nonneg_left h1 (Int.le_of_lt hU)
  rw [Int.mul_neg] at b
  exact ⟨b, a⟩
theorem own_small (u a : Int64) : own_UQ ((u &&& (2147483647 : Int64)) + (1 : Int64)) (a.toInt32.toInt64) := by
  have e1 : (u &&& (2147483647 : Int64)).toInt = u.toInt % 2 ^ 31 := Jvm.Kit.i64_mask u 2147483647 (k := 31) (by decide) (by decide)
  have o : (1 : Int64).toInt = 1 := rfl
  have e2 : ((u &&& (2147483647 : Int64)) + (1 : Int64)).toInt = (u &&& (2147483647 : Int64)).toInt + (1 : Int64).toInt := Jvm.Kit.i64_add (by omega) (by omega)
  have e3 : a.toInt32.toInt64.toInt = a.toInt32.toInt := Jvm.Kit.i64_of_i32 _
  have r1 := a.toInt32.toInt_lt
  have r2 := a.toInt32.le_toInt
  have hU : 0 < ((u &&& (2147483647 : Int64)) + (1 : Int64)).toInt := by omega
  obtain ⟨p1, p2⟩ := own_prod (A := a.toInt32.toInt64.toInt) (B := 2147483648) hU (by omega) (by omega)
  exact ⟨hU, by omega, by omega, by omega⟩
theorem own_big (u a : Int64) : own_UQ ((u &&& (4611686018427387903 : Int64)) + (1 : Int64)) (((a &&& (2147483647 : Int64)) - ((a &&& (2147483647 : Int64)) / (3 : Int64)) * (3 : Int64)) - (1 : Int64)) := by
  have e1 : (u &&& (4611686018427387903 : Int64)).toInt = u.toInt % 2 ^ 62 := Jvm.Kit.i64_mask u 4611686018427387903 (k := 62) (by decide) (by decide)
  have o : (1 : Int64).toInt = 1 := rfl
  have t : (3 : Int64).toInt = 3 := rfl
  have e2 : ((u &&& (4611686018427387903 : Int64)) + (1 : Int64)).toInt = (u &&& (4611686018427387903 : Int64)).toInt + (1 : Int64).toInt := Jvm.Kit.i64_add (by omega) (by omega)
  have e3 : (a &&& (2147483647 : Int64)).toInt = a.toInt % 2 ^ 31 := Jvm.Kit.i64_mask a 2147483647 (k := 31) (by decide) (by decide)
  have e4 : ((a &&& (2147483647 : Int64)) - ((a &&& (2147483647 : Int64)) / (3 : Int64)) * (3 : Int64)).toInt = (a &&& (2147483647 : Int64)).toInt % (3 : Int64).toInt := Jvm.Kit.i64_rem_nonneg (by omega)
  rw [t] at e4
  generalize ((a &&& (2147483647 : Int64)) - ((a &&& (2147483647 : Int64)) / (3 : Int64)) * (3 : Int64)) = q at e4 ⊢
  have e5 : (q - (1 : Int64)).toInt = q.toInt - (1 : Int64).toInt := Jvm.Kit.i64_sub (by omega) (by omega)
  have hU : 0 < ((u &&& (4611686018427387903 : Int64)) + (1 : Int64)).toInt := by omega
  obtain ⟨p1, p2⟩ := own_prod (A := (q - (1 : Int64)).toInt) (B := 1) hU (by omega) (by omega)
  exact ⟨hU, by omega, by omega, by omega⟩
theorem own_R0 {u q : Int64} (h : own_UQ u q) : own_R u (0 : Int64) := ⟨Int.le_refl _, h.1⟩
theorem own_R1 {u q : Int64} (h : own_UQ u q) (x : Int64) : own_R u ((x &&& (9223372036854775807 : Int64)) - ((x &&& (9223372036854775807 : Int64)) / u) * u) := by
  have e3 : (x &&& (9223372036854775807 : Int64)).toInt = x.toInt % 2 ^ 63 := Jvm.Kit.i64_mask x 9223372036854775807 (k := 63) (by decide) (by decide)
  have e4 : ((x &&& (9223372036854775807 : Int64)) - ((x &&& (9223372036854775807 : Int64)) / u) * u).toInt = (x &&& (9223372036854775807 : Int64)).toInt % u.toInt := Jvm.Kit.i64_rem_nonneg (by omega)
  have hu := h.1
  refine ⟨?_, ?_⟩
  · rw [e4]; exact Int.emod_nonneg _ (by omega)
  · rw [e4]; exact Int.emod_lt_of_pos _ hu
theorem own_ne0 {u q : Int64} (h : own_UQ u q) : u ≠ 0 := fun e => by
  have := h.1; rw [e] at this; exact absurd this (by decide)
theorem own_sum {u q r : Int64} (h : own_UQ u q) (hr : own_R u r) : (u * q + r).toInt = u.toInt * q.toInt + r.toInt := by
  obtain ⟨h1, h2, h3, h4⟩ := h
  obtain ⟨r1, r2⟩ := hr
  have e : (u * q).toInt = u.toInt * q.toInt := Jvm.Kit.i64_mul (by omega) (by omega)
  rw [Jvm.Kit.i64_add (by omega) (by omega), e]
theorem own_dvd {U F A : Int} (hU : 0 < U) (h0 : 0 ≤ A) (h1 : A < U) : (U * F + A).tmod U = 0 ↔ A = 0 := by
  constructor
  · intro h
    have d := Int.dvd_of_tmod_eq_zero h
    have d2 : U ∣ A := (Int.dvd_add_right (Int.dvd_mul_right U F)).mp d
    rw [← Int.emod_eq_of_lt h0 h1]; exact Int.emod_eq_zero_of_dvd d2
  · intro h; rw [h, Int.add_zero]; exact Int.tmod_eq_zero_of_dvd (Int.dvd_mul_right U F)
theorem own_valid {u f g a b : Int64} (hf : own_UQ u f) (hg : own_UQ u g) (ha : own_R u a) (hb : own_R u b) : own_iv u (u * f + a) (u * g + b) = 1 ↔ a = 0 ∧ b = 0 ∧ ¬ g < 0 ∧ g < f ∧ ¬ ((1000000000 : Int64) / u) < f := by
  have M := own_sum hf ha
  have G := own_sum hg hb
  have z : (0 : Int64).toInt = 0 := rfl
  have m9 : (1000000000 : Int64).toInt = 1000000000 := rfl
  have hU := hf.1
  have dv : ((1000000000 : Int64) / u).toInt = 1000000000 / u.toInt := by rw [Jvm.Kit.i64_div (by rw [m9]; omega), m9, Int.tdiv_eq_ediv_of_nonneg (by decide)]
  have remM : ((u * f + a) - ((u * f + a) / u) * u).toInt = (u.toInt * f.toInt + a.toInt).tmod u.toInt := by rw [Jvm.Kit.i64_rem, M]
  have remG : ((u * g + b) - ((u * g + b) / u) * u).toInt = (u.toInt * g.toInt + b.toInt).tmod u.toInt := by rw [Jvm.Kit.i64_rem, G]
  have c1 : (u * g + b < 0) ↔ u.toInt * g.toInt + b.toInt < 0 := by rw [Int64.lt_iff_toInt_lt, G, z]
  have c2 : (u * g + b < u * f + a) ↔ u.toInt * g.toInt + b.toInt < u.toInt * f.toInt + a.toInt := by rw [Int64.lt_iff_toInt_lt, G, M]
  have c3 : ((1000000000 : Int64) < u * f + a) ↔ 1000000000 < u.toInt * f.toInt + a.toInt := by rw [Int64.lt_iff_toInt_lt, M, m9]
  have c4 : (((u * f + a) - ((u * f + a) / u) * u) = 0) ↔ a.toInt = 0 := by rw [← Int64.toInt_inj, remM, z]; exact own_dvd hU ha.1 ha.2
  have c5 : (((u * g + b) - ((u * g + b) / u) * u) = 0) ↔ b.toInt = 0 := by rw [← Int64.toInt_inj, remG, z]; exact own_dvd hU hb.1 hb.2
  have c6 : (a = 0) ↔ a.toInt = 0 := by rw [← Int64.toInt_inj, z]
  have c7 : (b = 0) ↔ b.toInt = 0 := by rw [← Int64.toInt_inj, z]
  have c8 : (g < 0) ↔ g.toInt < 0 := by rw [Int64.lt_iff_toInt_lt, z]
  have c9 : (g < f) ↔ g.toInt < f.toInt := Int64.lt_iff_toInt_lt
  have c10 : (((1000000000 : Int64) / u) < f) ↔ 1000000000 / u.toInt < f.toInt := by rw [Int64.lt_iff_toInt_lt, dv]
  have lhs : own_iv u (u * f + a) (u * g + b) = 1 ↔ ¬ (u * g + b < 0) ∧ (u * g + b < u * f + a) ∧ ¬ ((1000000000 : Int64) < u * f + a) ∧ (((u * f + a) - ((u * f + a) / u) * u) = 0) ∧ (((u * g + b) - ((u * g + b) / u) * u) = 0) := by
    unfold own_iv
    by_cases p1 : u * g + b < 0
    · simp [p1]
    · by_cases p2 : u * g + b < u * f + a
      · by_cases p3 : (1000000000 : Int64) < u * f + a
        · simp [p1, p2, p3]
        · by_cases p4 : ((u * f + a) - ((u * f + a) / u) * u) = 0
          · by_cases p5 : ((u * g + b) - ((u * g + b) / u) * u) = 0
            · simp only [if_neg p1, if_pos p2, if_neg p3, if_pos p4, if_pos p5, true_iff]; exact ⟨p1, p2, p3, p4, p5⟩
            · simp only [if_neg p1, if_pos p2, if_neg p3, if_pos p4, if_neg p5]; exact ⟨fun q => absurd q (by decide), fun q => absurd q.2.2.2.2 p5⟩
          · simp only [if_neg p1, if_pos p2, if_neg p3, if_neg p4]; exact ⟨fun q => absurd q (by decide), fun q => absurd q.2.2.2.1 p4⟩
      · simp only [if_neg p1, if_neg p2]; exact ⟨fun q => absurd q (by decide), fun q => absurd q.2.1 p2⟩
  rw [lhs, c1, c2, c3, c4, c5, c6, c7, c8, c9, c10]
  generalize u.toInt = U at *
  generalize f.toInt = F at *
  generalize g.toInt = R at *
  generalize a.toInt = A at *
  generalize b.toInt = B at *
  constructor
  · rintro ⟨q1, q2, q3, q4, q5⟩
    subst q4 q5
    simp only [Int.add_zero] at q1 q2 q3
    refine ⟨rfl, rfl, fun n => q1 ?_, Int.lt_of_not_ge fun n => absurd q2 (Int.not_lt.mpr (Int.mul_le_mul_of_nonneg_left n (Int.le_of_lt hU))), ?_⟩
    · have := Int.mul_neg_of_pos_of_neg hU n; exact this
    · have := (Int.le_ediv_iff_mul_le hU (a := F) (b := 1000000000)).mpr (by rw [Int.mul_comm]; omega)
      omega
  · rintro ⟨q4, q5, q1, q2, q3⟩
    subst q4 q5
    rw [Int.add_zero, Int.add_zero]
    refine ⟨fun n => ?_, Int.mul_lt_mul_of_pos_left q2 hU, ?_, rfl, rfl⟩
    · have := Int.mul_nonneg (Int.le_of_lt hU) (Int.not_lt.mp q1); omega
    · have := (Int.le_ediv_iff_mul_le hU (a := F) (b := 1000000000)).mp (by omega)
      rw [Int.mul_comm] at this; omega
theorem own_pd_0 : parseMethodDescriptor "()V" = some ⟨[], none⟩ := by decide +kernel
theorem own_pd_1 : parseMethodDescriptor "(Ljava/lang/Object;Ljava/lang/String;)Ljava/lang/Object;" = some ⟨[(.object "java/lang/Object"), (.object "java/lang/String")], some (.object "java/lang/Object")⟩ := by decide +kernel
theorem own_pd_2 : parseMethodDescriptor "(JLcom/example/slidebook/slidebook/engine/Replenish;J)V" = some ⟨[.long, (.object "com/example/slidebook/slidebook/engine/Replenish"), .long], none⟩ := by decide +kernel
theorem own_pd_3 : parseMethodDescriptor "(J)Z" = some ⟨[.long], some .boolean⟩ := by decide +kernel
theorem own_d2_0 : decode jdk_30_method_1_code 0 = .ok (.aload_n 0, 1) := by decide +kernel
theorem own_d2_1 : decode jdk_30_method_1_code 1 = .ok (.invokespecial 1, 3) := by decide +kernel
theorem own_d2_4 : decode jdk_30_method_1_code 4 = .ok (.return_, 1) := by decide +kernel
set_option maxRecDepth 65536 in
set_option maxHeartbeats 40000000 in
theorem rm_rec (l : Launch) (Z : State) (a0 : Array Value) (hw : ∀ d ∈ tables_1, d.before a0 Z = true) (ws : List Jvm.Cond) (x0 : Addr) (h0 : Heap) (n0 : Nat) (Z0 : n0 ≤ h0.size)  :
    MetFree l (⟨"java/lang/Record", "<init>", "()V"⟩ : MethodName) (head1 (Jvm.Cond.code (⟨"java/lang/Record", "<init>", "()V"⟩ : MethodName) jdk_30_method_1_code 1 none :: ws) ({ frames := 1, cells := 0, slots := 0, locals := 12 } : Room)) (fun a U => a = #[(.ref x0)] ∧ Z.Warmed39 U.vm ∧ U.heap = h0) (fun _ _ _ _ _ => True) (fun _ U o U' => ∃ v L, o = .returned v ∧ QV h0 n0 v U'.heap L ∧ FrameEnd U o U' L ({ frames := 1, cells := 0, slots := 0, locals := 12 } : Room).cells ({ frames := 1, cells := 0, slots := 0, locals := 12 } : Room).slots) := by
  refine MetFree.of_bodySF (plainFor_of_name (by first | (simp [plainName, overriddenIn]; done) | decide +kernel)) hisR ?_
  intro p e s m args below meth c s₁ Bd hml0 hP hK
  obtain ⟨rfl, hZ, hh⟩ := hP
  have hx := Bd.exec
  have hby := Bd.bytes
  have hml : c.maxLocals = 1 := hml0
  have hown : s.vm.findClass "java/lang/Record" = some m.cls := findClass_of_methodNamed Bd.named
  have hnm := (name_of_methodNamed Bd.named Bd.method).1
  have X0 : Stand p l e ({ frames := 1, cells := 0, slots := 0, locals := 12 } : Room) s m #[(.ref x0)] below meth c s₁ [] 0 0 := Stand.of_body Bd
  have e0 : s₁.heap = h0 := by rw [← hh, Bd.state]; rfl
  have N0 := Fr.nil n0
  have ef0 : entryFrame m #[(.ref x0)] 1 = mkF m 0 #[.val (.ref x0)] [] := by first | (simp [entryFrame, mkF, argsToLocals, Value.category, maxLocals]; done) | rfl
  have pre0 : ∀ t, Steps p.tables e below (s₁.setTop (mkF m 0 #[.val (.ref x0)] [])) t → Steps p.tables e below (s₁.setTop (entryFrame m #[(.ref x0)] 1)) t := fun t k => castTop ef0 k
  obtain ⟨T1, X1, e1, st1⟩ := initO X0 hx hZ hown (hw _ (List.mem_of_getElem? (i := 16) rfl)) (hw _ (List.mem_of_getElem? (i := 17) rfl)) (hw _ (List.mem_of_getElem? (i := 18) rfl)) e0 (g := (mkF m 1 #[.val (.ref x0)] [(.ref x0)])) rfl (by rw [hml]; rfl) rfl (hb hby own_d2_1) (by decide) (W := 0) (by show 2 * 0 + _ ≤ _; exact Nat.le_of_eq rfl) (by decide)
  obtain ⟨fs, hr, hrun, hended, hW, hsame⟩ := X1.leave (v := none) (fun _ => rfl)
  refine ⟨_, _, pre0 _ ?_, hrun, hended, _, _, rfl, ?_, ⟨_, rfl⟩, hW, hsame.mono (by decide) (by decide)⟩
  · show Steps p.tables e below (s₁.setTop (mkF m 0 #[.val (.ref x0)] [])) _
    refine XS.aloadN X0.here hx rfl (hb hby own_d2_0) rfl rfl ?_
    show Steps p.tables e below (s₁.setTop (mkF m 1 #[.val (.ref x0)] [(.ref x0)])) _
    refine st1 _ ?_
    show Steps p.tables e below (T1.setTop (mkF m 4 #[.val (.ref x0)] [])) _
    exact X1.returnOut hx Bd.returns (hb hby own_d2_4) hr
  · show QV h0 n0 _ T1.heap _
    rw [e1]
    exact ⟨rfl, N0, rfl⟩
theorem own_d4_0 : decode jdk_31_method_11_code 0 = .ok (.aload_n 0, 1) := by decide +kernel
theorem own_d4_1 : decode jdk_31_method_11_code 1 = .ok (.ifnonnull 12, 3) := by decide +kernel
theorem own_d4_13 : decode jdk_31_method_11_code 13 = .ok (.aload_n 0, 1) := by decide +kernel
theorem own_d4_14 : decode jdk_31_method_11_code 14 = .ok (.areturn, 1) := by decide +kernel
set_option maxRecDepth 65536 in
set_option maxHeartbeats 40000000 in
theorem rm_rnn (l : Launch) (Z : State) (a0 : Array Value) (hw : ∀ d ∈ tables_1, d.before a0 Z = true) (ws : List Jvm.Cond) (x0 x1 : Addr) (h0 : Heap) (n0 : Nat) (Z0 : n0 ≤ h0.size)  :
    MetFree l (⟨"java/util/Objects", "requireNonNull", "(Ljava/lang/Object;Ljava/lang/String;)Ljava/lang/Object;"⟩ : MethodName) (head1 (Jvm.Cond.code (⟨"java/util/Objects", "requireNonNull", "(Ljava/lang/Object;Ljava/lang/String;)Ljava/lang/Object;"⟩ : MethodName) jdk_31_method_11_code 2 (some (.object "java/lang/Object")) :: ws) ({ frames := 0, cells := 0, slots := 0, locals := 0 } : Room)) (fun a U => a = #[(.ref x0), (.ref x1)] ∧ Z.Warmed39 U.vm ∧ U.heap = h0) (fun _ _ _ _ _ => True) (fun _ U o U' => ∃ v L, o = .returned v ∧ QP (.ref x0) h0 n0 v U'.heap L ∧ FrameEnd U o U' L ({ frames := 0, cells := 0, slots := 0, locals := 0 } : Room).cells ({ frames := 0, cells := 0, slots := 0, locals := 0 } : Room).slots) := by
  refine MetFree.of_bodySF (plainFor_of_name (by first | (simp [plainName, overriddenIn]; done) | decide +kernel)) hisR ?_
  intro p e s m args below meth c s₁ Bd hml0 hP hK
  obtain ⟨rfl, hZ, hh⟩ := hP
  have hx := Bd.exec
  have hby := Bd.bytes
  have hml : c.maxLocals = 2 := hml0
  have hown : s.vm.findClass "java/util/Objects" = some m.cls := findClass_of_methodNamed Bd.named
  have hnm := (name_of_methodNamed Bd.named Bd.method).1
  have X0 : Stand p l e ({ frames := 0, cells := 0, slots := 0, locals := 0 } : Room) s m #[(.ref x0), (.ref x1)] below meth c s₁ [] 0 0 := Stand.of_body Bd
  have e0 : s₁.heap = h0 := by rw [← hh, Bd.state]; rfl
  have N0 := Fr.nil n0
  have ef0 : entryFrame m #[(.ref x0), (.ref x1)] 2 = mkF m 0 #[.val (.ref x0), .val (.ref x1)] [] := by first | (simp [entryFrame, mkF, argsToLocals, Value.category, maxLocals]; done) | rfl
  have pre0 : ∀ t, Steps p.tables e below (s₁.setTop (mkF m 0 #[.val (.ref x0), .val (.ref x1)] [])) t → Steps p.tables e below (s₁.setTop (entryFrame m #[(.ref x0), (.ref x1)] 2)) t := fun t k => castTop ef0 k
  obtain ⟨fs, hr, hrun, hended, hW, hsame⟩ := X0.leave (v := some (.ref x0)) (fun h => by rw [Bd.returns] at h; cases h)
  refine ⟨_, _, pre0 _ ?_, hrun, hended, _, _, rfl, ?_, ⟨_, rfl⟩, hW, hsame.mono (by decide) (by decide)⟩
  · show Steps p.tables e below (s₁.setTop (mkF m 0 #[.val (.ref x0), .val (.ref x1)] [])) _
    refine XS.aloadN X0.here hx rfl (hb hby own_d4_0) rfl rfl ?_
    show Steps p.tables e below (s₁.setTop (mkF m 1 #[.val (.ref x0), .val (.ref x1)] [(.ref x0)])) _
    refine XS.ifnonnullYes X0.here hx rfl (pc0 := 1) (pc' := 13) rfl (hb hby own_d4_1) rfl (by decide) (by decide) ?_
    show Steps p.tables e below (s₁.setTop (mkF m 13 #[.val (.ref x0), .val (.ref x1)] [])) _
    refine XS.aloadN X0.here hx rfl (hb hby own_d4_13) rfl rfl ?_
    show Steps p.tables e below (s₁.setTop (mkF m 14 #[.val (.ref x0), .val (.ref x1)] [(.ref x0)])) _
    exact retOut X0 hx Bd.returns rfl (Or.inr (Or.inr (Or.inr (Or.inr ⟨rfl, rfl, rfl⟩)))) (hb hby own_d4_14) hr
  · show QP (.ref x0) h0 n0 _ s₁.heap _
    rw [e0]
    exact ⟨rfl, N0, rfl⟩
theorem own_d5_0 : decode prog_29_method_4_code 0 = .ok (.aload_n 0, 1) := by decide +kernel
theorem own_d5_1 : decode prog_29_method_4_code 1 = .ok (.getfield 51, 3) := by decide +kernel
theorem own_d5_4 : decode prog_29_method_4_code 4 = .ok (.lconst 0, 1) := by decide +kernel
theorem own_d5_5 : decode prog_29_method_4_code 5 = .ok (.lcmp, 1) := by decide +kernel
theorem own_d5_6 : decode prog_29_method_4_code 6 = .ok (.ifCond .lt 52, 3) := by decide +kernel
theorem own_d5_9 : decode prog_29_method_4_code 9 = .ok (.aload_n 0, 1) := by decide +kernel
theorem own_d5_10 : decode prog_29_method_4_code 10 = .ok (.getfield 51, 3) := by decide +kernel
theorem own_d5_13 : decode prog_29_method_4_code 13 = .ok (.aload_n 0, 1) := by decide +kernel
theorem own_d5_14 : decode prog_29_method_4_code 14 = .ok (.getfield 42, 3) := by decide +kernel
theorem own_d5_17 : decode prog_29_method_4_code 17 = .ok (.lcmp, 1) := by decide +kernel
theorem own_d5_18 : decode prog_29_method_4_code 18 = .ok (.ifCond .ge 40, 3) := by decide +kernel
theorem own_d5_21 : decode prog_29_method_4_code 21 = .ok (.aload_n 0, 1) := by decide +kernel
theorem own_d5_22 : decode prog_29_method_4_code 22 = .ok (.getfield 42, 3) := by decide +kernel
theorem own_d5_25 : decode prog_29_method_4_code 25 = .ok (.ldc2_w 62, 3) := by decide +kernel
theorem own_d5_28 : decode prog_29_method_4_code 28 = .ok (.lcmp, 1) := by decide +kernel
theorem own_d5_29 : decode prog_29_method_4_code 29 = .ok (.ifCond .gt 29, 3) := by decide +kernel
theorem own_d5_32 : decode prog_29_method_4_code 32 = .ok (.aload_n 0, 1) := by decide +kernel
theorem own_d5_33 : decode prog_29_method_4_code 33 = .ok (.getfield 42, 3) := by decide +kernel
theorem own_d5_36 : decode prog_29_method_4_code 36 = .ok (.lload_n 1, 1) := by decide +kernel
theorem own_d5_37 : decode prog_29_method_4_code 37 = .ok (.lrem, 1) := by decide +kernel
theorem own_d5_38 : decode prog_29_method_4_code 38 = .ok (.lconst 0, 1) := by decide +kernel
theorem own_d5_39 : decode prog_29_method_4_code 39 = .ok (.lcmp, 1) := by decide +kernel
theorem own_d5_40 : decode prog_29_method_4_code 40 = .ok (.ifCond .ne 18, 3) := by decide +kernel
theorem own_d5_43 : decode prog_29_method_4_code 43 = .ok (.aload_n 0, 1) := by decide +kernel
theorem own_d5_44 : decode prog_29_method_4_code 44 = .ok (.getfield 51, 3) := by decide +kernel
theorem own_d5_47 : decode prog_29_method_4_code 47 = .ok (.lload_n 1, 1) := by decide +kernel
theorem own_d5_48 : decode prog_29_method_4_code 48 = .ok (.lrem, 1) := by decide +kernel
theorem own_d5_49 : decode prog_29_method_4_code 49 = .ok (.lconst 0, 1) := by decide +kernel
theorem own_d5_50 : decode prog_29_method_4_code 50 = .ok (.lcmp, 1) := by decide +kernel
theorem own_d5_51 : decode prog_29_method_4_code 51 = .ok (.ifCond .ne 7, 3) := by decide +kernel
theorem own_d5_54 : decode prog_29_method_4_code 54 = .ok (.iconst 1, 1) := by decide +kernel
theorem own_d5_55 : decode prog_29_method_4_code 55 = .ok (.goto 4, 3) := by decide +kernel
theorem own_d5_58 : decode prog_29_method_4_code 58 = .ok (.iconst 0, 1) := by decide +kernel
theorem own_d5_59 : decode prog_29_method_4_code 59 = .ok (.ireturn, 1) := by decide +kernel
set_option maxRecDepth 65536 in
set_option maxHeartbeats 40000000 in
theorem rm_iv (l : Launch) (Z : State) (a0 : Array Value) (hw : ∀ d ∈ tables_1, d.before a0 Z = true) (ws : List Jvm.Cond) (x0 : Addr) (x1 mf rg : Int64) (h0 : Heap) (n0 : Nat) (Z0 : n0 ≤ h0.size) (F_m : Fld Z h0 x0 "com/example/slidebook/slidebook/engine/Reserve" "maxFloor" "J" (.long mf)) (F_r : Fld Z h0 x0 "com/example/slidebook/slidebook/engine/Reserve" "range" "J" (.long rg)) (hu : x1 ≠ 0) :
    MetFree l (⟨"com/example/slidebook/slidebook/engine/Reserve", "isValidFor", "(J)Z"⟩ : MethodName) (head1 (Jvm.Cond.code (⟨"com/example/slidebook/slidebook/engine/Reserve", "isValidFor", "(J)Z"⟩ : MethodName) prog_29_method_4_code 3 (some .boolean) :: ws) ({ frames := 0, cells := 0, slots := 0, locals := 0 } : Room)) (fun a U => a = #[(.ref x0), (.long x1)] ∧ Z.Warmed39 U.vm ∧ U.heap = h0) (fun _ _ _ _ _ => True) (fun _ U o U' => ∃ v L, o = .returned v ∧ QP (.int (own_iv x1 mf rg)) h0 n0 v U'.heap L ∧ FrameEnd U o U' L ({ frames := 0, cells := 0, slots := 0, locals := 0 } : Room).cells ({ frames := 0, cells := 0, slots := 0, locals := 0 } : Room).slots) := by
  refine MetFree.of_bodySF (plainFor_of_name (by first | (simp [plainName, overriddenIn]; done) | decide +kernel)) hisR ?_
  intro p e s m args below meth c s₁ Bd hml0 hP hK
  obtain ⟨rfl, hZ, hh⟩ := hP
  have hx := Bd.exec
  have hby := Bd.bytes
  have hml : c.maxLocals = 3 := hml0
  have hown : s.vm.findClass "com/example/slidebook/slidebook/engine/Reserve" = some m.cls := findClass_of_methodNamed Bd.named
  have hnm := (name_of_methodNamed Bd.named Bd.method).1
  have X0 : Stand p l e ({ frames := 0, cells := 0, slots := 0, locals := 0 } : Room) s m #[(.ref x0), (.long x1)] below meth c s₁ [] 0 0 := Stand.of_body Bd
  have e0 : s₁.heap = h0 := by rw [← hh, Bd.state]; rfl
  have N0 := Fr.nil n0
  have ef0 : entryFrame m #[(.ref x0), (.long x1)] 3 = mkF m 0 #[.val (.ref x0), .val (.long x1), .second] [] := by first | (simp [entryFrame, mkF, argsToLocals, Value.category, maxLocals]; done) | rfl
  have pre0 : ∀ t, Steps p.tables e below (s₁.setTop (mkF m 0 #[.val (.ref x0), .val (.long x1), .second] [])) t → Steps p.tables e below (s₁.setTop (entryFrame m #[(.ref x0), (.long x1)] 3)) t := fun t k => castTop ef0 k
  obtain ⟨T2, X2, e2, st2⟩ := getF X0 hx hZ hown (host := "") (Or.inl (hw _ (List.mem_of_getElem? (i := 37) rfl))) Via.refl e0 F_r (g := (mkF m 1 #[.val (.ref x0), .val (.long x1), .second] [(.ref x0)])) rfl rfl (hb hby own_d5_1)
  have pre3 : ∀ t, Steps p.tables e below (T2.setTop (mkF m 6 #[.val (.ref x0), .val (.long x1), .second] [(.int (lcmpW rg (0 : Int64)))])) t → Steps p.tables e below (s₁.setTop (entryFrame m #[(.ref x0), (.long x1)] 3)) t := fun tt kk => pre0 tt (by
    show Steps p.tables e below (s₁.setTop (mkF m 0 #[.val (.ref x0), .val (.long x1), .second] [])) _
    refine XS.aloadN X0.here hx rfl (hb hby own_d5_0) rfl rfl ?_
    show Steps p.tables e below (s₁.setTop (mkF m 1 #[.val (.ref x0), .val (.long x1), .second] [(.ref x0)])) _
    refine st2 _ ?_
    show Steps p.tables e below (T2.setTop (mkF m 4 #[.val (.ref x0), .val (.long x1), .second] [(.long rg)])) _
    refine XS.lconst X2.here hx rfl (hb hby own_d5_4) ?_
    show Steps p.tables e below (T2.setTop (mkF m 5 #[.val (.ref x0), .val (.long x1), .second] [(.long (0 : Int64)), (.long rg)])) _
    refine XS.lcmp X2.here hx rfl (hb hby own_d5_5) rfl ?_
    exact kk)
  by_cases hc6 : rg < (0 : Int64)
  · obtain ⟨fs, hr, hrun, hended, hW, hsame⟩ := X2.leave (v := some (.int (0 : Int32))) (fun h => by rw [Bd.returns] at h; cases h)
    refine ⟨_, _, pre3 _ ?_, hrun, hended, _, _, rfl, ?_, ⟨_, rfl⟩, hW, hsame.mono (by decide) (by decide)⟩
    · show Steps p.tables e below (T2.setTop (mkF m 6 #[.val (.ref x0), .val (.long x1), .second] [(.int (lcmpW rg (0 : Int64)))])) _
      refine XS.ifYes X2.here hx rfl (pc0 := 6) (pc' := 58) rfl (hb hby own_d5_6) rfl ((if0 _ _).trans (tlt ((lw_lt _ _).mpr hc6)).1) (by decide) (by decide) ?_
      show Steps p.tables e below (T2.setTop (mkF m 58 #[.val (.ref x0), .val (.long x1), .second] [])) _
      refine XS.iconst X2.here hx rfl (hb hby own_d5_58) ?_
      show Steps p.tables e below (T2.setTop (mkF m 59 #[.val (.ref x0), .val (.long x1), .second] [(.int (0 : Int32))])) _
      exact retN X2 hx (t := .boolean) Bd.returns (by simp) (hb hby own_d5_59) hr
    · show QP (.int (own_iv x1 mf rg)) h0 n0 _ T2.heap _
      rw [e2]
      exact ⟨by rw [own_iv]; rw [if_pos hc6], N0, rfl⟩
  · obtain ⟨T4, X4, e4, st4⟩ := getF X2 hx hZ hown (host := "") (Or.inl (hw _ (List.mem_of_getElem? (i := 37) rfl))) Via.refl e2 F_r (g := (mkF m 10 #[.val (.ref x0), .val (.long x1), .second] [(.ref x0)])) rfl rfl (hb hby own_d5_10)
    obtain ⟨T5, X5, e5, st5⟩ := getF X4 hx hZ hown (host := "") (Or.inl (hw _ (List.mem_of_getElem? (i := 33) rfl))) Via.refl e4 F_m (g := (mkF m 14 #[.val (.ref x0), .val (.long x1), .second] [(.ref x0), (.long rg)])) rfl rfl (hb hby own_d5_14)
    have pre6 : ∀ t, Steps p.tables e below (T5.setTop (mkF m 18 #[.val (.ref x0), .val (.long x1), .second] [(.int (lcmpW rg mf))])) t → Steps p.tables e below (s₁.setTop (entryFrame m #[(.ref x0), (.long x1)] 3)) t := fun tt kk => pre3 tt (by
      show Steps p.tables e below (T2.setTop (mkF m 6 #[.val (.ref x0), .val (.long x1), .second] [(.int (lcmpW rg (0 : Int64)))])) _
      refine XS.ifNo X2.here hx rfl (hb hby own_d5_6) rfl ((if0 _ _).trans (flt (mt (lw_lt _ _).mp hc6)).1) ?_
      show Steps p.tables e below (T2.setTop (mkF m 9 #[.val (.ref x0), .val (.long x1), .second] [])) _
      refine XS.aloadN X2.here hx rfl (hb hby own_d5_9) rfl rfl ?_
      show Steps p.tables e below (T2.setTop (mkF m 10 #[.val (.ref x0), .val (.long x1), .second] [(.ref x0)])) _
      refine st4 _ ?_
      show Steps p.tables e below (T4.setTop (mkF m 13 #[.val (.ref x0), .val (.long x1), .second] [(.long rg)])) _
      refine XS.aloadN X4.here hx rfl (hb hby own_d5_13) rfl rfl ?_
      show Steps p.tables e below (T4.setTop (mkF m 14 #[.val (.ref x0), .val (.long x1), .second] [(.ref x0), (.long rg)])) _
      refine st5 _ ?_
      show Steps p.tables e below (T5.setTop (mkF m 17 #[.val (.ref x0), .val (.long x1), .second] [(.long mf), (.long rg)])) _
      refine XS.lcmp X5.here hx rfl (hb hby own_d5_17) rfl ?_
      exact kk)
    by_cases hc18 : rg < mf
    · obtain ⟨T7, X7, e7, st7⟩ := getF X5 hx hZ hown (host := "") (Or.inl (hw _ (List.mem_of_getElem? (i := 33) rfl))) Via.refl e5 F_m (g := (mkF m 22 #[.val (.ref x0), .val (.long x1), .second] [(.ref x0)])) rfl rfl (hb hby own_d5_22)
      have pre8 : ∀ t, Steps p.tables e below (T7.setTop (mkF m 29 #[.val (.ref x0), .val (.long x1), .second] [(.int (lcmpW mf (1000000000 : Int64)))])) t → Steps p.tables e below (s₁.setTop (entryFrame m #[(.ref x0), (.long x1)] 3)) t := fun tt kk => pre6 tt (by
        show Steps p.tables e below (T5.setTop (mkF m 18 #[.val (.ref x0), .val (.long x1), .second] [(.int (lcmpW rg mf))])) _
        refine XS.ifNo X5.here hx rfl (hb hby own_d5_18) rfl ((if0 _ _).trans (tlt ((lw_lt _ _).mpr hc18)).2.1) ?_
        show Steps p.tables e below (T5.setTop (mkF m 21 #[.val (.ref x0), .val (.long x1), .second] [])) _
        refine XS.aloadN X5.here hx rfl (hb hby own_d5_21) rfl rfl ?_
        show Steps p.tables e below (T5.setTop (mkF m 22 #[.val (.ref x0), .val (.long x1), .second] [(.ref x0)])) _
        refine st7 _ ?_
        show Steps p.tables e below (T7.setTop (mkF m 25 #[.val (.ref x0), .val (.long x1), .second] [(.long mf)])) _
        refine X7.ldc2Long hx hown (mvT hZ (hw _ (List.mem_of_getElem? (i := 46) rfl))) (g := (mkF m 25 #[.val (.ref x0), .val (.long x1), .second] [(.long mf)])) rfl (hb hby own_d5_25) _ ?_
        show Steps p.tables e below (T7.setTop (mkF m 28 #[.val (.ref x0), .val (.long x1), .second] [(.long (1000000000 : Int64)), (.long mf)])) _
        refine XS.lcmp X7.here hx rfl (hb hby own_d5_28) rfl ?_
        exact kk)
      by_cases hc29 : (1000000000 : Int64) < mf
      · obtain ⟨fs, hr, hrun, hended, hW, hsame⟩ := X7.leave (v := some (.int (0 : Int32))) (fun h => by rw [Bd.returns] at h; cases h)
        refine ⟨_, _, pre8 _ ?_, hrun, hended, _, _, rfl, ?_, ⟨_, rfl⟩, hW, hsame.mono (by decide) (by decide)⟩
        · show Steps p.tables e below (T7.setTop (mkF m 29 #[.val (.ref x0), .val (.long x1), .second] [(.int (lcmpW mf (1000000000 : Int64)))])) _
          refine XS.ifYes X7.here hx rfl (pc0 := 29) (pc' := 58) rfl (hb hby own_d5_29) rfl ((if0 _ _).trans (tlt ((lw_gt _ _).mpr hc29)).2.2.1) (by decide) (by decide) ?_
          show Steps p.tables e below (T7.setTop (mkF m 58 #[.val (.ref x0), .val (.long x1), .second] [])) _
          refine XS.iconst X7.here hx rfl (hb hby own_d5_58) ?_
          show Steps p.tables e below (T7.setTop (mkF m 59 #[.val (.ref x0), .val (.long x1), .second] [(.int (0 : Int32))])) _
          exact retN X7 hx (t := .boolean) Bd.returns (by simp) (hb hby own_d5_59) hr
        · show QP (.int (own_iv x1 mf rg)) h0 n0 _ T7.heap _
          rw [e7]
          exact ⟨by rw [own_iv]; rw [if_neg hc6, if_pos hc18, if_pos hc29], N0, rfl⟩
      · obtain ⟨T9, X9, e9, st9⟩ := getF X7 hx hZ hown (host := "") (Or.inl (hw _ (List.mem_of_getElem? (i := 33) rfl))) Via.refl e7 F_m (g := (mkF m 33 #[.val (.ref x0), .val (.long x1), .second] [(.ref x0)])) rfl rfl (hb hby own_d5_33)
        have pre10 : ∀ t, Steps p.tables e below (T9.setTop (mkF m 40 #[.val (.ref x0), .val (.long x1), .second] [(.int (lcmpW (mf - (mf / x1) * x1) (0 : Int64)))])) t → Steps p.tables e below (s₁.setTop (entryFrame m #[(.ref x0), (.long x1)] 3)) t := fun tt kk => pre8 tt (by
          show Steps p.tables e below (T7.setTop (mkF m 29 #[.val (.ref x0), .val (.long x1), .second] [(.int (lcmpW mf (1000000000 : Int64)))])) _
          refine XS.ifNo X7.here hx rfl (hb hby own_d5_29) rfl ((if0 _ _).trans (flt (mt (lw_gt _ _).mp hc29)).2.2.1) ?_
          show Steps p.tables e below (T7.setTop (mkF m 32 #[.val (.ref x0), .val (.long x1), .second] [])) _
          refine XS.aloadN X7.here hx rfl (hb hby own_d5_32) rfl rfl ?_
          show Steps p.tables e below (T7.setTop (mkF m 33 #[.val (.ref x0), .val (.long x1), .second] [(.ref x0)])) _
          refine st9 _ ?_
          show Steps p.tables e below (T9.setTop (mkF m 36 #[.val (.ref x0), .val (.long x1), .second] [(.long mf)])) _
          refine XS.lloadN X9.here hx rfl (hb hby own_d5_36) rfl ?_
          show Steps p.tables e below (T9.setTop (mkF m 37 #[.val (.ref x0), .val (.long x1), .second] [(.long x1), (.long mf)])) _
          refine XS.lrem X9.here hx rfl (hb hby own_d5_37) rfl hu ?_
          show Steps p.tables e below (T9.setTop (mkF m 38 #[.val (.ref x0), .val (.long x1), .second] [(.long (mf - (mf / x1) * x1))])) _
          refine XS.lconst X9.here hx rfl (hb hby own_d5_38) ?_
          show Steps p.tables e below (T9.setTop (mkF m 39 #[.val (.ref x0), .val (.long x1), .second] [(.long (0 : Int64)), (.long (mf - (mf / x1) * x1))])) _
          refine XS.lcmp X9.here hx rfl (hb hby own_d5_39) rfl ?_
          exact kk)
        by_cases hc40 : (mf - (mf / x1) * x1) = (0 : Int64)
        · obtain ⟨T11, X11, e11, st11⟩ := getF X9 hx hZ hown (host := "") (Or.inl (hw _ (List.mem_of_getElem? (i := 37) rfl))) Via.refl e9 F_r (g := (mkF m 44 #[.val (.ref x0), .val (.long x1), .second] [(.ref x0)])) rfl rfl (hb hby own_d5_44)
          have pre12 : ∀ t, Steps p.tables e below (T11.setTop (mkF m 51 #[.val (.ref x0), .val (.long x1), .second] [(.int (lcmpW (rg - (rg / x1) * x1) (0 : Int64)))])) t → Steps p.tables e below (s₁.setTop (entryFrame m #[(.ref x0), (.long x1)] 3)) t := fun tt kk => pre10 tt (by
            show Steps p.tables e below (T9.setTop (mkF m 40 #[.val (.ref x0), .val (.long x1), .second] [(.int (lcmpW (mf - (mf / x1) * x1) (0 : Int64)))])) _
            refine XS.ifNo X9.here hx rfl (hb hby own_d5_40) rfl ((if0 _ _).trans (teq ((lw_eq _ _).mpr hc40)).2) ?_
            show Steps p.tables e below (T9.setTop (mkF m 43 #[.val (.ref x0), .val (.long x1), .second] [])) _
            refine XS.aloadN X9.here hx rfl (hb hby own_d5_43) rfl rfl ?_
            show Steps p.tables e below (T9.setTop (mkF m 44 #[.val (.ref x0), .val (.long x1), .second] [(.ref x0)])) _
            refine st11 _ ?_
            show Steps p.tables e below (T11.setTop (mkF m 47 #[.val (.ref x0), .val (.long x1), .second] [(.long rg)])) _
            refine XS.lloadN X11.here hx rfl (hb hby own_d5_47) rfl ?_
            show Steps p.tables e below (T11.setTop (mkF m 48 #[.val (.ref x0), .val (.long x1), .second] [(.long x1), (.long rg)])) _
            refine XS.lrem X11.here hx rfl (hb hby own_d5_48) rfl hu ?_
            show Steps p.tables e below (T11.setTop (mkF m 49 #[.val (.ref x0), .val (.long x1), .second] [(.long (rg - (rg / x1) * x1))])) _
            refine XS.lconst X11.here hx rfl (hb hby own_d5_49) ?_
            show Steps p.tables e below (T11.setTop (mkF m 50 #[.val (.ref x0), .val (.long x1), .second] [(.long (0 : Int64)), (.long (rg - (rg / x1) * x1))])) _
            refine XS.lcmp X11.here hx rfl (hb hby own_d5_50) rfl ?_
            exact kk)
          by_cases hc51 : (rg - (rg / x1) * x1) = (0 : Int64)
          · obtain ⟨fs, hr, hrun, hended, hW, hsame⟩ := X11.leave (v := some (.int (1 : Int32))) (fun h => by rw [Bd.returns] at h; cases h)
            refine ⟨_, _, pre12 _ ?_, hrun, hended, _, _, rfl, ?_, ⟨_, rfl⟩, hW, hsame.mono (by decide) (by decide)⟩
            · show Steps p.tables e below (T11.setTop (mkF m 51 #[.val (.ref x0), .val (.long x1), .second] [(.int (lcmpW (rg - (rg / x1) * x1) (0 : Int64)))])) _
              refine XS.ifNo X11.here hx rfl (hb hby own_d5_51) rfl ((if0 _ _).trans (teq ((lw_eq _ _).mpr hc51)).2) ?_
              show Steps p.tables e below (T11.setTop (mkF m 54 #[.val (.ref x0), .val (.long x1), .second] [])) _
              refine XS.iconst X11.here hx rfl (hb hby own_d5_54) ?_
              show Steps p.tables e below (T11.setTop (mkF m 55 #[.val (.ref x0), .val (.long x1), .second] [(.int (1 : Int32))])) _
              refine XS.goto X11.here hx rfl (pc0 := 55) (pc' := 59) rfl (hb hby own_d5_55) (by decide) (by decide) ?_
              show Steps p.tables e below (T11.setTop (mkF m 59 #[.val (.ref x0), .val (.long x1), .second] [(.int (1 : Int32))])) _
              exact retN X11 hx (t := .boolean) Bd.returns (by simp) (hb hby own_d5_59) hr
            · show QP (.int (own_iv x1 mf rg)) h0 n0 _ T11.heap _
              rw [e11]
              exact ⟨by rw [own_iv]; rw [if_neg hc6, if_pos hc18, if_neg hc29, if_pos hc40, if_pos hc51], N0, rfl⟩
          · obtain ⟨fs, hr, hrun, hended, hW, hsame⟩ := X11.leave (v := some (.int (0 : Int32))) (fun h => by rw [Bd.returns] at h; cases h)
            refine ⟨_, _, pre12 _ ?_, hrun, hended, _, _, rfl, ?_, ⟨_, rfl⟩, hW, hsame.mono (by decide) (by decide)⟩
            · show Steps p.tables e below (T11.setTop (mkF m 51 #[.val (.ref x0), .val (.long x1), .second] [(.int (lcmpW (rg - (rg / x1) * x1) (0 : Int64)))])) _
              refine XS.ifYes X11.here hx rfl (pc0 := 51) (pc' := 58) rfl (hb hby own_d5_51) rfl ((if0 _ _).trans (feq (mt (lw_eq _ _).mp hc51)).2) (by decide) (by decide) ?_
              show Steps p.tables e below (T11.setTop (mkF m 58 #[.val (.ref x0), .val (.long x1), .second] [])) _
              refine XS.iconst X11.here hx rfl (hb hby own_d5_58) ?_
              show Steps p.tables e below (T11.setTop (mkF m 59 #[.val (.ref x0), .val (.long x1), .second] [(.int (0 : Int32))])) _
              exact retN X11 hx (t := .boolean) Bd.returns (by simp) (hb hby own_d5_59) hr
            · show QP (.int (own_iv x1 mf rg)) h0 n0 _ T11.heap _
              rw [e11]
              exact ⟨by rw [own_iv]; rw [if_neg hc6, if_pos hc18, if_neg hc29, if_pos hc40, if_neg hc51], N0, rfl⟩
        · obtain ⟨fs, hr, hrun, hended, hW, hsame⟩ := X9.leave (v := some (.int (0 : Int32))) (fun h => by rw [Bd.returns] at h; cases h)
          refine ⟨_, _, pre10 _ ?_, hrun, hended, _, _, rfl, ?_, ⟨_, rfl⟩, hW, hsame.mono (by decide) (by decide)⟩
          · show Steps p.tables e below (T9.setTop (mkF m 40 #[.val (.ref x0), .val (.long x1), .second] [(.int (lcmpW (mf - (mf / x1) * x1) (0 : Int64)))])) _
            refine XS.ifYes X9.here hx rfl (pc0 := 40) (pc' := 58) rfl (hb hby own_d5_40) rfl ((if0 _ _).trans (feq (mt (lw_eq _ _).mp hc40)).2) (by decide) (by decide) ?_
            show Steps p.tables e below (T9.setTop (mkF m 58 #[.val (.ref x0), .val (.long x1), .second] [])) _
            refine XS.iconst X9.here hx rfl (hb hby own_d5_58) ?_
            show Steps p.tables e below (T9.setTop (mkF m 59 #[.val (.ref x0), .val (.long x1), .second] [(.int (0 : Int32))])) _
            exact retN X9 hx (t := .boolean) Bd.returns (by simp) (hb hby own_d5_59) hr
          · show QP (.int (own_iv x1 mf rg)) h0 n0 _ T9.heap _
            rw [e9]
            exact ⟨by rw [own_iv]; rw [if_neg hc6, if_pos hc18, if_neg hc29, if_neg hc40], N0, rfl⟩
    · obtain ⟨fs, hr, hrun, hended, hW, hsame⟩ := X5.leave (v := some (.int (0 : Int32))) (fun h => by rw [Bd.returns] at h; cases h)
      refine ⟨_, _, pre6 _ ?_, hrun, hended, _, _, rfl, ?_, ⟨_, rfl⟩, hW, hsame.mono (by decide) (by decide)⟩
      · show Steps p.tables e below (T5.setTop (mkF m 18 #[.val (.ref x0), .val (.long x1), .second] [(.int (lcmpW rg mf))])) _
        refine XS.ifYes X5.here hx rfl (pc0 := 18) (pc' := 58) rfl (hb hby own_d5_18) rfl ((if0 _ _).trans (flt (mt (lw_lt _ _).mp hc18)).2.1) (by decide) (by decide) ?_
        show Steps p.tables e below (T5.setTop (mkF m 58 #[.val (.ref x0), .val (.long x1), .second] [])) _
        refine XS.iconst X5.here hx rfl (hb hby own_d5_58) ?_
        show Steps p.tables e below (T5.setTop (mkF m 59 #[.val (.ref x0), .val (.long x1), .second] [(.int (0 : Int32))])) _
        exact retN X5 hx (t := .boolean) Bd.returns (by simp) (hb hby own_d5_59) hr
      · show QP (.int (own_iv x1 mf rg)) h0 n0 _ T5.heap _
        rw [e5]
        exact ⟨by rw [own_iv]; rw [if_neg hc6, if_neg hc18], N0, rfl⟩
theorem own_d1_0 : decode prog_29_method_1_code 0 = .ok (.aload_n 0, 1) := by decide +kernel
theorem own_d1_1 : decode prog_29_method_1_code 1 = .ok (.invokespecial 1, 3) := by decide +kernel
theorem own_d1_4 : decode prog_29_method_1_code 4 = .ok (.aload_n 3, 1) := by decide +kernel
theorem own_d1_5 : decode prog_29_method_1_code 5 = .ok (.ldc 7, 2) := by decide +kernel
theorem own_d1_7 : decode prog_29_method_1_code 7 = .ok (.invokestatic 9, 3) := by decide +kernel
theorem own_d1_10 : decode prog_29_method_1_code 10 = .ok (.pop, 1) := by decide +kernel
theorem own_d1_11 : decode prog_29_method_1_code 11 = .ok (.aload_n 3, 1) := by decide +kernel
theorem own_d1_12 : decode prog_29_method_1_code 12 = .ok (.getstatic 15, 3) := by decide +kernel
theorem own_d1_15 : decode prog_29_method_1_code 15 = .ok (.if_acmp .ne 35, 3) := by decide +kernel
theorem own_d1_18 : decode prog_29_method_1_code 18 = .ok (.lload 4, 2) := by decide +kernel
theorem own_d1_20 : decode prog_29_method_1_code 20 = .ok (.lconst 0, 1) := by decide +kernel
theorem own_d1_21 : decode prog_29_method_1_code 21 = .ok (.lcmp, 1) := by decide +kernel
theorem own_d1_22 : decode prog_29_method_1_code 22 = .ok (.ifCond .eq 28, 3) := by decide +kernel
theorem own_d1_50 : decode prog_29_method_1_code 50 = .ok (.aload_n 0, 1) := by decide +kernel
theorem own_d1_51 : decode prog_29_method_1_code 51 = .ok (.lload_n 1, 1) := by decide +kernel
theorem own_d1_52 : decode prog_29_method_1_code 52 = .ok (.putfield 42, 3) := by decide +kernel
theorem own_d1_55 : decode prog_29_method_1_code 55 = .ok (.aload_n 0, 1) := by decide +kernel
theorem own_d1_56 : decode prog_29_method_1_code 56 = .ok (.aload_n 3, 1) := by decide +kernel
theorem own_d1_57 : decode prog_29_method_1_code 57 = .ok (.putfield 48, 3) := by decide +kernel
theorem own_d1_60 : decode prog_29_method_1_code 60 = .ok (.aload_n 0, 1) := by decide +kernel
theorem own_d1_61 : decode prog_29_method_1_code 61 = .ok (.lload 4, 2) := by decide +kernel
theorem own_d1_63 : decode prog_29_method_1_code 63 = .ok (.putfield 51, 3) := by decide +kernel
theorem own_d1_66 : decode prog_29_method_1_code 66 = .ok (.return_, 1) := by decide +kernel
set_option maxRecDepth 65536 in
set_option maxHeartbeats 40000000 in
theorem rm_ct (l : Launch) (Z : State) (a0 : Array Value) (hw : ∀ d ∈ tables_1, d.before a0 Z = true) (ws : List Jvm.Cond) (x0 : Addr) (x1 : Int64) (x2 : Addr) (x3 : Int64) (wf : Addr) (h0 : Heap) (n0 : Nat) (Z0 : n0 ≤ h0.size) (E0 : Exa Z h0 x0 "com/example/slidebook/slidebook/engine/Reserve") (F_maxFloor : Fld Z h0 x0 "com/example/slidebook/slidebook/engine/Reserve" "maxFloor" "J" (.long (0 : Int64))) (F_replenish : Fld Z h0 x0 "com/example/slidebook/slidebook/engine/Reserve" "replenish" "Lcom/example/slidebook/slidebook/engine/Replenish;" .null) (F_range : Fld Z h0 x0 "com/example/slidebook/slidebook/engine/Reserve" "range" "J" (.long (0 : Int64))) (ge : n0 ≤ x0) (SF : Sta Z h0 "com/example/slidebook/slidebook/engine/Replenish" "FIXED" "Lcom/example/slidebook/slidebook/engine/Replenish;" (.ref wf)) (HR : x2 = wf → x3 = 0) :
    MetFree l (⟨"com/example/slidebook/slidebook/engine/Reserve", "<init>", "(JLcom/example/slidebook/slidebook/engine/Replenish;J)V"⟩ : MethodName) (head1 (Jvm.Cond.code (⟨"com/example/slidebook/slidebook/engine/Reserve", "<init>", "(JLcom/example/slidebook/slidebook/engine/Replenish;J)V"⟩ : MethodName) prog_29_method_1_code 6 none :: ws) ({ frames := 2, cells := 2, slots := 100, locals := 24 } : Room)) (fun a U => a = #[(.ref x0), (.long x1), (.ref x2), (.long x3)] ∧ Z.Warmed39 U.vm ∧ U.heap = h0) (fun _ _ _ _ _ => True) (fun _ U o U' => ∃ v L, o = .returned v ∧ QC Z x0 x1 x3 h0 n0 v U'.heap L ∧ ReturnedEndW U o U' L ({ frames := 2, cells := 2, slots := 100, locals := 24 } : Room).cells ({ frames := 2, cells := 2, slots := 100, locals := 24 } : Room).slots) := by
  refine MetFree.of_bodySF (plainFor_of_name (by first | (simp [plainName, overriddenIn]; done) | decide +kernel)) hisR ?_
  intro p e s m args below meth c s₁ Bd hml0 hP hK
  obtain ⟨rfl, hZ, hh⟩ := hP
  have hx := Bd.exec
  have hby := Bd.bytes
  have hml : c.maxLocals = 6 := hml0
  have hown : s.vm.findClass "com/example/slidebook/slidebook/engine/Reserve" = some m.cls := findClass_of_methodNamed Bd.named
  have hnm := (name_of_methodNamed Bd.named Bd.method).1
  have X0 : Stand p l e ({ frames := 2, cells := 2, slots := 100, locals := 24 } : Room) s m #[(.ref x0), (.long x1), (.ref x2), (.long x3)] below meth c s₁ [] 0 0 := Stand.of_body Bd
  have e0 : s₁.heap = h0 := by rw [← hh, Bd.state]; rfl
  have N0 := Fr.nil n0
  have ef0 : entryFrame m #[(.ref x0), (.long x1), (.ref x2), (.long x3)] 6 = mkF m 0 #[.val (.ref x0), .val (.long x1), .second, .val (.ref x2), .val (.long x3), .second] [] := by first | (simp [entryFrame, mkF, argsToLocals, Value.category, maxLocals]; done) | rfl
  have pre0 : ∀ t, Steps p.tables e below (s₁.setTop (mkF m 0 #[.val (.ref x0), .val (.long x1), .second, .val (.ref x2), .val (.long x3), .second] [])) t → Steps p.tables e below (s₁.setTop (entryFrame m #[(.ref x0), (.long x1), (.ref x2), (.long x3)] 6)) t := fun t k => castTop ef0 k
  have wS : ∀ a ∈ Bundle.stringAtoms, a.before a0 Z = true := by
    intro a ha
    simp only [Bundle.stringAtoms, List.mem_cons, List.not_mem_nil, or_false] at ha
    rcases ha with rfl | rfl | rfl | rfl | rfl | rfl | rfl
    · exact (hw _ (List.mem_of_getElem? (i := 20) rfl))
    · exact (hw _ (List.mem_of_getElem? (i := 21) rfl))
    · exact (hw _ (List.mem_of_getElem? (i := 22) rfl))
    · exact (hw _ (List.mem_of_getElem? (i := 23) rfl))
    · exact (hw _ (List.mem_of_getElem? (i := 24) rfl))
    · exact (hw _ (List.mem_of_getElem? (i := 25) rfl))
    · exact (hw _ (List.mem_of_getElem? (i := 26) rfl))
  obtain ⟨vv13, _, ⟨T13, L13, k13, n13⟩, -, X13, ⟨Lc13, hQ13, l13, y13, z13⟩, st13⟩ := X0.specialBack hx (y := (⟨"java/lang/Record", "<init>", "()V"⟩ : MethodName)) rfl hown (mvT hZ (hw _ (List.mem_of_getElem? (i := 11) rfl))) (mvT hZ (hw _ (List.mem_of_getElem? (i := 12) rfl))) (mvT hZ (hw _ (List.mem_of_getElem? (i := 15) rfl))) (by decide) (backOf (W := 0) (rm_rec l Z a0 hw [] x0 h0 n0 Z0 ) hZ (hw _ (List.mem_of_getElem? (i := 15) rfl)) (hw _ (List.mem_of_getElem? (i := 14) rfl)) (by decide) (by decide)) (g := (mkF m 1 #[.val (.ref x0), .val (.long x1), .second, .val (.ref x2), .val (.long x3), .second] [(.ref x0)])) rfl (by rw [hml]; rfl) (Steps.refl _) (a := x0) (argsL := []) (rest := []) (lenOf own_pd_0 rfl) rfl (by show 2 * 0 + _ ≤ _; exact Nat.le_of_eq rfl) (hb hby own_d1_1) (fun _ _ => ⟨rfl, e0, (by decide : 0 + 0 ≤ _), (by decide : 0 + 0 ≤ _)⟩)
  dsimp only [Pt.U, Pt.locs, Pt.cells, Pt.slots] at X13 l13 y13 z13 st13 hQ13
  subst l13 y13 z13
  obtain ⟨rfl, N13q, e13⟩ := hQ13
  have N13 := Fr.app N0 N13q
  have pre14 : ∀ t, Steps p.tables e below (T13.setTop (mkF m 5 #[.val (.ref x0), .val (.long x1), .second, .val (.ref x2), .val (.long x3), .second] [(.ref x2)])) t → Steps p.tables e below (s₁.setTop (entryFrame m #[(.ref x0), (.long x1), (.ref x2), (.long x3)] 6)) t := fun tt kk => pre0 tt (by
    show Steps p.tables e below (s₁.setTop (mkF m 0 #[.val (.ref x0), .val (.long x1), .second, .val (.ref x2), .val (.long x3), .second] [])) _
    refine XS.aloadN X0.here hx rfl (hb hby own_d1_0) rfl rfl ?_
    show Steps p.tables e below (s₁.setTop (mkF m 1 #[.val (.ref x0), .val (.long x1), .second, .val (.ref x2), .val (.long x3), .second] [(.ref x0)])) _
    refine st13.trans ?_
    show Steps p.tables e below (T13.setTop (mkF m 4 #[.val (.ref x0), .val (.long x1), .second, .val (.ref x2), .val (.long x3), .second] [])) _
    refine XS.aloadN X13.here hx rfl (hb hby own_d1_4) rfl rfl ?_
    exact kk)
  obtain ⟨a15, T15, h15, k15, X15, e15, E15, hS15, hk15, hZ, hown, st15⟩ := ldcS (s := s) (vm0 := s.vm) X13 hx hZ hown (hw _ (List.mem_of_getElem? (i := 19) rfl)) wS e13 ((State.WarmedH.refl s).since 0) (Nat.zero_le _) (g := (mkF m 5 #[.val (.ref x0), .val (.long x1), .second, .val (.ref x2), .val (.long x3), .second] [(.ref x2)])) rfl (hb hby own_d1_5) (n := 96) (by decide) (by decide) (by decide) (by decide)
  have f16 : n0 ≤ h15.size := Nat.le_trans Z0 E15.1
  have f17 : Keep h0 h15 [x0] := (Keep.refl h0 [x0]).ext E15
  have f18 : Exa Z h15 x0 "com/example/slidebook/slidebook/engine/Reserve" := E0.ext E15
  have f19 : Fld Z h15 x0 "com/example/slidebook/slidebook/engine/Reserve" "maxFloor" "J" (.long (0 : Int64)) := F_maxFloor.ext E15
  have f20 : Fld Z h15 x0 "com/example/slidebook/slidebook/engine/Reserve" "replenish" "Lcom/example/slidebook/slidebook/engine/Replenish;" .null := F_replenish.ext E15
  have f21 : Fld Z h15 x0 "com/example/slidebook/slidebook/engine/Reserve" "range" "J" (.long (0 : Int64)) := F_range.ext E15
  have f22 : Sta Z h15 "com/example/slidebook/slidebook/engine/Replenish" "FIXED" "Lcom/example/slidebook/slidebook/engine/Replenish;" (.ref wf) := SF.ext E15
  obtain ⟨vv23, _, ⟨T23, L23, k23, n23⟩, -, X23, ⟨Lc23, hQ23, l23, y23, z23⟩, st23⟩ := Jvm.LawKit.callS X15 hx (y := (⟨"java/util/Objects", "requireNonNull", "(Ljava/lang/Object;Ljava/lang/String;)Ljava/lang/Object;"⟩ : MethodName)) hown (mvT hZ (hw _ (List.mem_of_getElem? (i := 27) rfl))) (mvT hZ (hw _ (List.mem_of_getElem? (i := 28) rfl))) (mvT hZ (hw _ (List.mem_of_getElem? (i := 29) rfl))) (mvT hZ (hw _ (List.mem_of_getElem? (i := 30) rfl))) (by decide) (backOf (W := 0) (rm_rnn l Z a0 hw [] x2 a15 h15 n0 f16 ) hZ (hw _ (List.mem_of_getElem? (i := 30) rfl)) (hw _ (List.mem_of_getElem? (i := 29) rfl)) (by decide) (by decide)) (g := (mkF m 7 #[.val (.ref x0), .val (.long x1), .second, .val (.ref x2), .val (.long x3), .second] [(.ref a15), (.ref x2)])) rfl (by rw [hml]; rfl) (argsL := [(.ref x2), (.ref a15)]) (rest := []) (lenOf own_pd_1 rfl) rfl (by show 2 * 0 + _ ≤ _; exact Nat.le_of_eq rfl) (hb hby own_d1_7) (fun _ _ => ⟨rfl, e15, (by decide : 2 + 0 ≤ _), (by decide : 100 + 0 ≤ _)⟩)
  dsimp only [Pt.U, Pt.locs, Pt.cells, Pt.slots] at X23 l23 y23 z23 st23 hQ23
  subst l23 y23 z23
  obtain ⟨rfl, N23q, e23⟩ := hQ23
  have N23 := Fr.app N13 N23q
  obtain ⟨T24, X24, e24, st24⟩ := getS2 X23 hx hZ hown (host := "") (Or.inl (hw _ (List.mem_of_getElem? (i := 31) rfl))) Via.refl e23 f22 (g := (mkF m 12 #[.val (.ref x0), .val (.long x1), .second, .val (.ref x2), .val (.long x3), .second] [(.ref x2)])) rfl (hb hby own_d1_12)
  have pre25 : ∀ t, Steps p.tables e below (T24.setTop (mkF m 15 #[.val (.ref x0), .val (.long x1), .second, .val (.ref x2), .val (.long x3), .second] [(.ref wf), (.ref x2)])) t → Steps p.tables e below (s₁.setTop (entryFrame m #[(.ref x0), (.long x1), (.ref x2), (.long x3)] 6)) t := fun tt kk => pre14 tt (by
    show Steps p.tables e below (T13.setTop (mkF m 5 #[.val (.ref x0), .val (.long x1), .second, .val (.ref x2), .val (.long x3), .second] [(.ref x2)])) _
    refine st15 _ ?_
    show Steps p.tables e below (T15.setTop (mkF m 7 #[.val (.ref x0), .val (.long x1), .second, .val (.ref x2), .val (.long x3), .second] [(.ref a15), (.ref x2)])) _
    refine st23 _ ?_
    show Steps p.tables e below (T23.setTop (mkF m 10 #[.val (.ref x0), .val (.long x1), .second, .val (.ref x2), .val (.long x3), .second] [(.ref x2)])) _
    refine XS.pop X23.here hx rfl (hb hby own_d1_10) rfl rfl ?_
    show Steps p.tables e below (T23.setTop (mkF m 11 #[.val (.ref x0), .val (.long x1), .second, .val (.ref x2), .val (.long x3), .second] [])) _
    refine XS.aloadN X23.here hx rfl (hb hby own_d1_11) rfl rfl ?_
    show Steps p.tables e below (T23.setTop (mkF m 12 #[.val (.ref x0), .val (.long x1), .second, .val (.ref x2), .val (.long x3), .second] [(.ref x2)])) _
    refine st24 _ ?_
    exact kk)
  by_cases ha15 : x2 = wf
  · have pre26 : ∀ t, Steps p.tables e below (T24.setTop (mkF m 22 #[.val (.ref x0), .val (.long x1), .second, .val (.ref x2), .val (.long x3), .second] [(.int (lcmpW x3 (0 : Int64)))])) t → Steps p.tables e below (s₁.setTop (entryFrame m #[(.ref x0), (.long x1), (.ref x2), (.long x3)] 6)) t := fun tt kk => pre25 tt (by
      show Steps p.tables e below (T24.setTop (mkF m 15 #[.val (.ref x0), .val (.long x1), .second, .val (.ref x2), .val (.long x3), .second] [(.ref wf), (.ref x2)])) _
      refine Jvm.RoadKit.acmp (g := (mkF m 15 #[.val (.ref x0), .val (.long x1), .second, .val (.ref x2), .val (.long x3), .second] [(.ref wf), (.ref x2)])) X24 hx rfl rfl rfl (pc0 := 15) (pc' := 18) (same := true) rfl (hb hby own_d1_15) rfl (decide_eq_true (congrArg Value.ref ha15)) (by decide) (by decide) ?_
      show Steps p.tables e below (T24.setTop (mkF m 18 #[.val (.ref x0), .val (.long x1), .second, .val (.ref x2), .val (.long x3), .second] [])) _
      refine XS.lload X24.here hx rfl (hb hby own_d1_18) rfl ?_
      show Steps p.tables e below (T24.setTop (mkF m 20 #[.val (.ref x0), .val (.long x1), .second, .val (.ref x2), .val (.long x3), .second] [(.long x3)])) _
      refine XS.lconst X24.here hx rfl (hb hby own_d1_20) ?_
      show Steps p.tables e below (T24.setTop (mkF m 21 #[.val (.ref x0), .val (.long x1), .second, .val (.ref x2), .val (.long x3), .second] [(.long (0 : Int64)), (.long x3)])) _
      refine XS.lcmp X24.here hx rfl (hb hby own_d1_21) rfl ?_
      exact kk)
    obtain ⟨T27, h27, X27, e27, W27, st27⟩ := putF X24 hx hZ hown (host := "") (Or.inl (hw _ (List.mem_of_getElem? (i := 33) rfl))) Via.refl e24 f19 f18 (Or.inr ⟨(hw _ (List.mem_of_getElem? (i := 34) rfl)), rfl, hnm⟩) (hw _ (List.mem_of_getElem? (i := 6) rfl)) (ty := .long) (by decide) rfl rfl (g := (mkF m 52 #[.val (.ref x0), .val (.long x1), .second, .val (.ref x2), .val (.long x3), .second] [(.long x1), (.ref x0)])) rfl rfl (hb hby own_d1_52)
    have N27 := Fr.snoc X27 N23 ge
    have f28 : n0 ≤ h27.size := Nat.le_trans f16 (Keep.of_wr W27).1
    have f29 : Keep h0 h27 [x0] := f17.wr W27 (Or.inl (List.mem_of_getElem? (i := 0) rfl))
    have f30 : Exa Z h27 x0 "com/example/slidebook/slidebook/engine/Reserve" := f18.wr W27
    have f31 : Fld Z h27 x0 "com/example/slidebook/slidebook/engine/Reserve" "maxFloor" "J" (.long x1) := f19.same W27
    have f32 : Fld Z h27 x0 "com/example/slidebook/slidebook/engine/Reserve" "replenish" "Lcom/example/slidebook/slidebook/engine/Replenish;" .null := f20.other W27 (Or.inr (slot_ne (Or.inr (hw _ (List.mem_of_getElem? (i := 36) rfl))) (Or.inr (hw _ (List.mem_of_getElem? (i := 34) rfl))) (by decide) (t := (.object "com/example/slidebook/slidebook/engine/Replenish")) (t' := .long) (by decide) (by decide)))
    have f33 : Fld Z h27 x0 "com/example/slidebook/slidebook/engine/Reserve" "range" "J" (.long (0 : Int64)) := f21.other W27 (Or.inr (slot_ne (Or.inr (hw _ (List.mem_of_getElem? (i := 38) rfl))) (Or.inr (hw _ (List.mem_of_getElem? (i := 34) rfl))) (by decide) (t := .long) (t' := .long) (by decide) (by decide)))
    have f34 : Sta Z h27 "com/example/slidebook/slidebook/engine/Replenish" "FIXED" "Lcom/example/slidebook/slidebook/engine/Replenish;" (.ref wf) := f22.wr W27
    have f35 : k15 ≤ h27.size := Nat.le_trans hk15 (Keep.of_wr W27).1
    obtain ⟨T36, h36, X36, e36, W36, st36⟩ := putF X27 hx hZ hown (host := "") (Or.inl (hw _ (List.mem_of_getElem? (i := 35) rfl))) Via.refl e27 f32 f30 (Or.inr ⟨(hw _ (List.mem_of_getElem? (i := 36) rfl)), rfl, hnm⟩) (hw _ (List.mem_of_getElem? (i := 6) rfl)) (ty := (.object "com/example/slidebook/slidebook/engine/Replenish")) (by decide) rfl rfl (g := (mkF m 57 #[.val (.ref x0), .val (.long x1), .second, .val (.ref x2), .val (.long x3), .second] [(.ref x2), (.ref x0)])) rfl rfl (hb hby own_d1_57)
    have N36 := Fr.snoc X36 N27 ge
    have f37 : n0 ≤ h36.size := Nat.le_trans f28 (Keep.of_wr W36).1
    have f38 : Keep h0 h36 [x0] := f29.wr W36 (Or.inl (List.mem_of_getElem? (i := 0) rfl))
    have f39 : Exa Z h36 x0 "com/example/slidebook/slidebook/engine/Reserve" := f30.wr W36
    have f40 : Fld Z h36 x0 "com/example/slidebook/slidebook/engine/Reserve" "maxFloor" "J" (.long x1) := f31.other W36 (Or.inr (slot_ne (Or.inr (hw _ (List.mem_of_getElem? (i := 34) rfl))) (Or.inr (hw _ (List.mem_of_getElem? (i := 36) rfl))) (by decide) (t := .long) (t' := (.object "com/example/slidebook/slidebook/engine/Replenish")) (by decide) (by decide)))
    have f41 : Fld Z h36 x0 "com/example/slidebook/slidebook/engine/Reserve" "replenish" "Lcom/example/slidebook/slidebook/engine/Replenish;" (.ref x2) := f32.same W36
    have f42 : Fld Z h36 x0 "com/example/slidebook/slidebook/engine/Reserve" "range" "J" (.long (0 : Int64)) := f33.other W36 (Or.inr (slot_ne (Or.inr (hw _ (List.mem_of_getElem? (i := 38) rfl))) (Or.inr (hw _ (List.mem_of_getElem? (i := 36) rfl))) (by decide) (t := .long) (t' := (.object "com/example/slidebook/slidebook/engine/Replenish")) (by decide) (by decide)))
    have f43 : Sta Z h36 "com/example/slidebook/slidebook/engine/Replenish" "FIXED" "Lcom/example/slidebook/slidebook/engine/Replenish;" (.ref wf) := f34.wr W36
    have f44 : k15 ≤ h36.size := Nat.le_trans f35 (Keep.of_wr W36).1
    obtain ⟨T45, h45, X45, e45, W45, st45⟩ := putF X36 hx hZ hown (host := "") (Or.inl (hw _ (List.mem_of_getElem? (i := 37) rfl))) Via.refl e36 f42 f39 (Or.inr ⟨(hw _ (List.mem_of_getElem? (i := 38) rfl)), rfl, hnm⟩) (hw _ (List.mem_of_getElem? (i := 6) rfl)) (ty := .long) (by decide) rfl rfl (g := (mkF m 63 #[.val (.ref x0), .val (.long x1), .second, .val (.ref x2), .val (.long x3), .second] [(.long x3), (.ref x0)])) rfl rfl (hb hby own_d1_63)
    have N45 := Fr.snoc X45 N36 ge
    have f46 : n0 ≤ h45.size := Nat.le_trans f37 (Keep.of_wr W45).1
    have f47 : Keep h0 h45 [x0] := f38.wr W45 (Or.inl (List.mem_of_getElem? (i := 0) rfl))
    have f48 : Exa Z h45 x0 "com/example/slidebook/slidebook/engine/Reserve" := f39.wr W45
    have f49 : Fld Z h45 x0 "com/example/slidebook/slidebook/engine/Reserve" "maxFloor" "J" (.long x1) := f40.other W45 (Or.inr (slot_ne (Or.inr (hw _ (List.mem_of_getElem? (i := 34) rfl))) (Or.inr (hw _ (List.mem_of_getElem? (i := 38) rfl))) (by decide) (t := .long) (t' := .long) (by decide) (by decide)))
    have f50 : Fld Z h45 x0 "com/example/slidebook/slidebook/engine/Reserve" "replenish" "Lcom/example/slidebook/slidebook/engine/Replenish;" (.ref x2) := f41.other W45 (Or.inr (slot_ne (Or.inr (hw _ (List.mem_of_getElem? (i := 36) rfl))) (Or.inr (hw _ (List.mem_of_getElem? (i := 38) rfl))) (by decide) (t := (.object "com/example/slidebook/slidebook/engine/Replenish")) (t' := .long) (by decide) (by decide)))
    have f51 : Fld Z h45 x0 "com/example/slidebook/slidebook/engine/Reserve" "range" "J" (.long x3) := f42.same W45
    have f52 : Sta Z h45 "com/example/slidebook/slidebook/engine/Replenish" "FIXED" "Lcom/example/slidebook/slidebook/engine/Replenish;" (.ref wf) := f43.wr W45
    have f53 : k15 ≤ h45.size := Nat.le_trans f44 (Keep.of_wr W45).1
    obtain ⟨fs, hr, hrun, hended, hRW⟩ := X45.leaveW hS15 (by rw [e45]; exact f53) (v := none) (fun _ => rfl)
    refine ⟨_, _, pre26 _ ?_, hrun, hended, _, _, rfl, ?_, ⟨_, rfl⟩, hRW.2.1, hRW.2.2.1, hRW.2.2.2.mono (by decide) (by decide)⟩
    · show Steps p.tables e below (T24.setTop (mkF m 22 #[.val (.ref x0), .val (.long x1), .second, .val (.ref x2), .val (.long x3), .second] [(.int (lcmpW x3 (0 : Int64)))])) _
      refine XS.ifYes X24.here hx rfl (pc0 := 22) (pc' := 50) rfl (hb hby own_d1_22) rfl ((if0 _ _).trans (teq ((lw_eq _ _).mpr (HR ha15))).1) (by decide) (by decide) ?_
      show Steps p.tables e below (T24.setTop (mkF m 50 #[.val (.ref x0), .val (.long x1), .second, .val (.ref x2), .val (.long x3), .second] [])) _
      refine XS.aloadN X24.here hx rfl (hb hby own_d1_50) rfl rfl ?_
      show Steps p.tables e below (T24.setTop (mkF m 51 #[.val (.ref x0), .val (.long x1), .second, .val (.ref x2), .val (.long x3), .second] [(.ref x0)])) _
      refine XS.lloadN X24.here hx rfl (hb hby own_d1_51) rfl ?_
      show Steps p.tables e below (T24.setTop (mkF m 52 #[.val (.ref x0), .val (.long x1), .second, .val (.ref x2), .val (.long x3), .second] [(.long x1), (.ref x0)])) _
      refine st27 _ ?_
      show Steps p.tables e below (T27.setTop (mkF m 55 #[.val (.ref x0), .val (.long x1), .second, .val (.ref x2), .val (.long x3), .second] [])) _
      refine XS.aloadN X27.here hx rfl (hb hby own_d1_55) rfl rfl ?_
      show Steps p.tables e below (T27.setTop (mkF m 56 #[.val (.ref x0), .val (.long x1), .second, .val (.ref x2), .val (.long x3), .second] [(.ref x0)])) _
      refine XS.aloadN X27.here hx rfl (hb hby own_d1_56) rfl rfl ?_
      show Steps p.tables e below (T27.setTop (mkF m 57 #[.val (.ref x0), .val (.long x1), .second, .val (.ref x2), .val (.long x3), .second] [(.ref x2), (.ref x0)])) _
      refine st36 _ ?_
      show Steps p.tables e below (T36.setTop (mkF m 60 #[.val (.ref x0), .val (.long x1), .second, .val (.ref x2), .val (.long x3), .second] [])) _
      refine XS.aloadN X36.here hx rfl (hb hby own_d1_60) rfl rfl ?_
      show Steps p.tables e below (T36.setTop (mkF m 61 #[.val (.ref x0), .val (.long x1), .second, .val (.ref x2), .val (.long x3), .second] [(.ref x0)])) _
      refine XS.lload X36.here hx rfl (hb hby own_d1_61) rfl ?_
      show Steps p.tables e below (T36.setTop (mkF m 63 #[.val (.ref x0), .val (.long x1), .second, .val (.ref x2), .val (.long x3), .second] [(.long x3), (.ref x0)])) _
      refine st45 _ ?_
      show Steps p.tables e below (T45.setTop (mkF m 66 #[.val (.ref x0), .val (.long x1), .second, .val (.ref x2), .val (.long x3), .second] [])) _
      exact X45.returnOut hx Bd.returns (hb hby own_d1_66) hr
    · show QC Z x0 x1 x3 h0 n0 _ T45.heap _
      rw [e45]
      exact ⟨rfl, N45, f47, f48, f49, f51⟩
  · obtain ⟨T54, h54, X54, e54, W54, st54⟩ := putF X24 hx hZ hown (host := "") (Or.inl (hw _ (List.mem_of_getElem? (i := 33) rfl))) Via.refl e24 f19 f18 (Or.inr ⟨(hw _ (List.mem_of_getElem? (i := 34) rfl)), rfl, hnm⟩) (hw _ (List.mem_of_getElem? (i := 6) rfl)) (ty := .long) (by decide) rfl rfl (g := (mkF m 52 #[.val (.ref x0), .val (.long x1), .second, .val (.ref x2), .val (.long x3), .second] [(.long x1), (.ref x0)])) rfl rfl (hb hby own_d1_52)
    have N54 := Fr.snoc X54 N23 ge
    have f55 : n0 ≤ h54.size := Nat.le_trans f16 (Keep.of_wr W54).1
    have f56 : Keep h0 h54 [x0] := f17.wr W54 (Or.inl (List.mem_of_getElem? (i := 0) rfl))
    have f57 : Exa Z h54 x0 "com/example/slidebook/slidebook/engine/Reserve" := f18.wr W54
    have f58 : Fld Z h54 x0 "com/example/slidebook/slidebook/engine/Reserve" "maxFloor" "J" (.long x1) := f19.same W54
    have f59 : Fld Z h54 x0 "com/example/slidebook/slidebook/engine/Reserve" "replenish" "Lcom/example/slidebook/slidebook/engine/Replenish;" .null := f20.other W54 (Or.inr (slot_ne (Or.inr (hw _ (List.mem_of_getElem? (i := 36) rfl))) (Or.inr (hw _ (List.mem_of_getElem? (i := 34) rfl))) (by decide) (t := (.object "com/example/slidebook/slidebook/engine/Replenish")) (t' := .long) (by decide) (by decide)))
    have f60 : Fld Z h54 x0 "com/example/slidebook/slidebook/engine/Reserve" "range" "J" (.long (0 : Int64)) := f21.other W54 (Or.inr (slot_ne (Or.inr (hw _ (List.mem_of_getElem? (i := 38) rfl))) (Or.inr (hw _ (List.mem_of_getElem? (i := 34) rfl))) (by decide) (t := .long) (t' := .long) (by decide) (by decide)))
    have f61 : Sta Z h54 "com/example/slidebook/slidebook/engine/Replenish" "FIXED" "Lcom/example/slidebook/slidebook/engine/Replenish;" (.ref wf) := f22.wr W54
    have f62 : k15 ≤ h54.size := Nat.le_trans hk15 (Keep.of_wr W54).1
    obtain ⟨T63, h63, X63, e63, W63, st63⟩ := putF X54 hx hZ hown (host := "") (Or.inl (hw _ (List.mem_of_getElem? (i := 35) rfl))) Via.refl e54 f59 f57 (Or.inr ⟨(hw _ (List.mem_of_getElem? (i := 36) rfl)), rfl, hnm⟩) (hw _ (List.mem_of_getElem? (i := 6) rfl)) (ty := (.object "com/example/slidebook/slidebook/engine/Replenish")) (by decide) rfl rfl (g := (mkF m 57 #[.val (.ref x0), .val (.long x1), .second, .val (.ref x2), .val (.long x3), .second] [(.ref x2), (.ref x0)])) rfl rfl (hb hby own_d1_57)
    have N63 := Fr.snoc X63 N54 ge
    have f64 : n0 ≤ h63.size := Nat.le_trans f55 (Keep.of_wr W63).1
    have f65 : Keep h0 h63 [x0] := f56.wr W63 (Or.inl (List.mem_of_getElem? (i := 0) rfl))
    have f66 : Exa Z h63 x0 "com/example/slidebook/slidebook/engine/Reserve" := f57.wr W63
    have f67 : Fld Z h63 x0 "com/example/slidebook/slidebook/engine/Reserve" "maxFloor" "J" (.long x1) := f58.other W63 (Or.inr (slot_ne (Or.inr (hw _ (List.mem_of_getElem? (i := 34) rfl))) (Or.inr (hw _ (List.mem_of_getElem? (i := 36) rfl))) (by decide) (t := .long) (t' := (.object "com/example/slidebook/slidebook/engine/Replenish")) (by decide) (by decide)))
    have f68 : Fld Z h63 x0 "com/example/slidebook/slidebook/engine/Reserve" "replenish" "Lcom/example/slidebook/slidebook/engine/Replenish;" (.ref x2) := f59.same W63
    have f69 : Fld Z h63 x0 "com/example/slidebook/slidebook/engine/Reserve" "range" "J" (.long (0 : Int64)) := f60.other W63 (Or.inr (slot_ne (Or.inr (hw _ (List.mem_of_getElem? (i := 38) rfl))) (Or.inr (hw _ (List.mem_of_getElem? (i := 36) rfl))) (by decide) (t := .long) (t' := (.object "com/example/slidebook/slidebook/engine/Replenish")) (by decide) (by decide)))
    have f70 : Sta Z h63 "com/example/slidebook/slidebook/engine/Replenish" "FIXED" "Lcom/example/slidebook/slidebook/engine/Replenish;" (.ref wf) := f61.wr W63
    have f71 : k15 ≤ h63.size := Nat.le_trans f62 (Keep.of_wr W63).1
    obtain ⟨T72, h72, X72, e72, W72, st72⟩ := putF X63 hx hZ hown (host := "") (Or.inl (hw _ (List.mem_of_getElem? (i := 37) rfl))) Via.refl e63 f69 f66 (Or.inr ⟨(hw _ (List.mem_of_getElem? (i := 38) rfl)), rfl, hnm⟩) (hw _ (List.mem_of_getElem? (i := 6) rfl)) (ty := .long) (by decide) rfl rfl (g := (mkF m 63 #[.val (.ref x0), .val (.long x1), .second, .val (.ref x2), .val (.long x3), .second] [(.long x3), (.ref x0)])) rfl rfl (hb hby own_d1_63)
    have N72 := Fr.snoc X72 N63 ge
    have f73 : n0 ≤ h72.size := Nat.le_trans f64 (Keep.of_wr W72).1
    have f74 : Keep h0 h72 [x0] := f65.wr W72 (Or.inl (List.mem_of_getElem? (i := 0) rfl))
    have f75 : Exa Z h72 x0 "com/example/slidebook/slidebook/engine/Reserve" := f66.wr W72
    have f76 : Fld Z h72 x0 "com/example/slidebook/slidebook/engine/Reserve" "maxFloor" "J" (.long x1) := f67.other W72 (Or.inr (slot_ne (Or.inr (hw _ (List.mem_of_getElem? (i := 34) rfl))) (Or.inr (hw _ (List.mem_of_getElem? (i := 38) rfl))) (by decide) (t := .long) (t' := .long) (by decide) (by decide)))
    have f77 : Fld Z h72 x0 "com/example/slidebook/slidebook/engine/Reserve" "replenish" "Lcom/example/slidebook/slidebook/engine/Replenish;" (.ref x2) := f68.other W72 (Or.inr (slot_ne (Or.inr (hw _ (List.mem_of_getElem? (i := 36) rfl))) (Or.inr (hw _ (List.mem_of_getElem? (i := 38) rfl))) (by decide) (t := (.object "com/example/slidebook/slidebook/engine/Replenish")) (t' := .long) (by decide) (by decide)))
    have f78 : Fld Z h72 x0 "com/example/slidebook/slidebook/engine/Reserve" "range" "J" (.long x3) := f69.same W72
    have f79 : Sta Z h72 "com/example/slidebook/slidebook/engine/Replenish" "FIXED" "Lcom/example/slidebook/slidebook/engine/Replenish;" (.ref wf) := f70.wr W72
    have f80 : k15 ≤ h72.size := Nat.le_trans f71 (Keep.of_wr W72).1
    obtain ⟨fs, hr, hrun, hended, hRW⟩ := X72.leaveW hS15 (by rw [e72]; exact f80) (v := none) (fun _ => rfl)
    refine ⟨_, _, pre25 _ ?_, hrun, hended, _, _, rfl, ?_, ⟨_, rfl⟩, hRW.2.1, hRW.2.2.1, hRW.2.2.2.mono (by decide) (by decide)⟩
    · show Steps p.tables e below (T24.setTop (mkF m 15 #[.val (.ref x0), .val (.long x1), .second, .val (.ref x2), .val (.long x3), .second] [(.ref wf), (.ref x2)])) _
      refine Jvm.RoadKit.acmp (g := (mkF m 15 #[.val (.ref x0), .val (.long x1), .second, .val (.ref x2), .val (.long x3), .second] [(.ref wf), (.ref x2)])) X24 hx rfl rfl rfl (pc0 := 15) (pc' := 50) (same := false) rfl (hb hby own_d1_15) rfl (decide_eq_false fun q => ha15 (Value.ref.inj q)) (by decide) (by decide) ?_
      show Steps p.tables e below (T24.setTop (mkF m 50 #[.val (.ref x0), .val (.long x1), .second, .val (.ref x2), .val (.long x3), .second] [])) _
      refine XS.aloadN X24.here hx rfl (hb hby own_d1_50) rfl rfl ?_
      show Steps p.tables e below (T24.setTop (mkF m 51 #[.val (.ref x0), .val (.long x1), .second, .val (.ref x2), .val (.long x3), .second] [(.ref x0)])) _
      refine XS.lloadN X24.here hx rfl (hb hby own_d1_51) rfl ?_
      show Steps p.tables e below (T24.setTop (mkF m 52 #[.val (.ref x0), .val (.long x1), .second, .val (.ref x2), .val (.long x3), .second] [(.long x1), (.ref x0)])) _
      refine st54 _ ?_
      show Steps p.tables e below (T54.setTop (mkF m 55 #[.val (.ref x0), .val (.long x1), .second, .val (.ref x2), .val (.long x3), .second] [])) _
      refine XS.aloadN X54.here hx rfl (hb hby own_d1_55) rfl rfl ?_
      show Steps p.tables e below (T54.setTop (mkF m 56 #[.val (.ref x0), .val (.long x1), .second, .val (.ref x2), .val (.long x3), .second] [(.ref x0)])) _
      refine XS.aloadN X54.here hx rfl (hb hby own_d1_56) rfl rfl ?_
      show Steps p.tables e below (T54.setTop (mkF m 57 #[.val (.ref x0), .val (.long x1), .second, .val (.ref x2), .val (.long x3), .second] [(.ref x2), (.ref x0)])) _
      refine st63 _ ?_
      show Steps p.tables e below (T63.setTop (mkF m 60 #[.val (.ref x0), .val (.long x1), .second, .val (.ref x2), .val (.long x3), .second] [])) _
      refine XS.aloadN X63.here hx rfl (hb hby own_d1_60) rfl rfl ?_
      show Steps p.tables e below (T63.setTop (mkF m 61 #[.val (.ref x0), .val (.long x1), .second, .val (.ref x2), .val (.long x3), .second] [(.ref x0)])) _
      refine XS.lload X63.here hx rfl (hb hby own_d1_61) rfl ?_
      show Steps p.tables e below (T63.setTop (mkF m 63 #[.val (.ref x0), .val (.long x1), .second, .val (.ref x2), .val (.long x3), .second] [(.long x3), (.ref x0)])) _
      refine st72 _ ?_
      show Steps p.tables e below (T72.setTop (mkF m 66 #[.val (.ref x0), .val (.long x1), .second, .val (.ref x2), .val (.long x3), .second] [])) _
      exact X72.returnOut hx Bd.returns (hb hby own_d1_66) hr
    · show QC Z x0 x1 x3 h0 n0 _ T72.heap _
      rw [e72]
      exact ⟨rfl, N72, f74, f75, f76, f78⟩
set_option maxRecDepth 65536 in
set_option maxHeartbeats 40000000 in
theorem rm0 (l : Launch) (Z : State) (a0 : Array Value) (hw : ∀ d ∈ tables_1, d.before a0 Z = true) (ws : List Jvm.Cond) (x0 x1 x2 x3 x4 : Int64) (x5 : Int32) (w : Nat → Addr) (h0 : Heap) (n0 : Nat) (Z0 : n0 ≤ h0.size) (OL : Old Z n0 h0) (ST : STA Z Z.heap w) (NE : ¬ w 1 = w 0) :
    MetFree l x (head1 (Jvm.Cond.code x code maxLocals ret :: ws) room_1) (fun a U => a = #[(.long x0), (.long x1), (.long x2), (.long x3), (.long x4), (.int x5)] ∧ Z.Warmed39 U.vm ∧ U.heap = h0) (fun _ _ _ _ _ => True) (fun _ U o U' => ∃ v L, o = .returned v ∧ Q1 n0 v U'.heap L ∧ ReturnedEndW U o U' L room_1.cells room_1.slots) := by
  refine MetFree.of_bodySF (plainFor_of_name (by first | (simp [plainName, overriddenIn]; done) | decide +kernel)) hisR ?_
  intro p e s m args below meth c s₁ Bd hml0 hP hK
  obtain ⟨rfl, hZ, hh⟩ := hP
  have hx := Bd.exec
  have hby := Bd.bytes
  have hml : c.maxLocals = 29 := hml0
  have hown : s.vm.findClass "com/example/slidebook/slidebook/engine/ReserveIsValidForPinLaw" = some m.cls := findClass_of_methodNamed Bd.named
  have hnm := (name_of_methodNamed Bd.named Bd.method).1
  have X0 : Stand p l e room_1 s m #[(.long x0), (.long x1), (.long x2), (.long x3), (.long x4), (.int x5)] below meth c s₁ [] 0 0 := Stand.of_body Bd
  have e0 : s₁.heap = h0 := by rw [← hh, Bd.state]; rfl
  have N0 := Fr.nil n0
  have ef0 : entryFrame m #[(.long x0), (.long x1), (.long x2), (.long x3), (.long x4), (.int x5)] maxLocals = mkF m 0 #[.val (.long x0), .second, .val (.long x1), .second, .val (.long x2), .second, .val (.long x3), .second, .val (.long x4), .second, .val (.int x5), .unset, .unset, .unset, .unset, .unset, .unset, .unset, .unset, .unset, .unset, .unset, .unset, .unset, .unset, .unset, .unset, .unset, .unset] [] := by first | (simp [entryFrame, mkF, argsToLocals, Value.category, maxLocals]; done) | rfl
  have pre0 : ∀ t, Steps p.tables e below (s₁.setTop (mkF m 0 #[.val (.long x0), .second, .val (.long x1), .second, .val (.long x2), .second, .val (.long x3), .second, .val (.long x4), .second, .val (.int x5), .unset, .unset, .unset, .unset, .unset, .unset, .unset, .unset, .unset, .unset, .unset, .unset, .unset, .unset, .unset, .unset, .unset, .unset] [])) t → Steps p.tables e below (s₁.setTop (entryFrame m #[(.long x0), (.long x1), (.long x2), (.long x3), (.long x4), (.int x5)] maxLocals)) t := fun t k => castTop ef0 k
  obtain ⟨b8, un, qf, qr, T81, hm81_0, hm81_1, X81, e81, pre81⟩ : ∃ (b8 : Int32) (un : Int64) (qf : Int64) (qr : Int64) (T' : State), own_UQ un qf ∧ own_UQ un qr ∧ Stand p l e room_1 s m #[(.long x0), (.long x1), (.long x2), (.long x3), (.long x4), (.int x5)] below meth c T' [] 0 0 ∧ T'.heap = h0 ∧ ∀ t, Steps p.tables e below (T'.setTop (mkF m 79 #[.val (.long x0), .second, .val (.long x1), .second, .val (.long x2), .second, .val (.long x3), .second, .val (.long x4), .second, .val (.int x5), .val (.int b8), .val (.long un), .second, .val (.long qf), .second, .val (.long qr), .second, .unset, .unset, .unset, .unset, .unset, .unset, .unset, .unset, .unset, .unset, .unset] [])) t → Steps p.tables e below (s₁.setTop (entryFrame m #[(.long x0), (.long x1), (.long x2), (.long x3), (.long x4), (.int x5)] maxLocals)) t := by
    have pre82 : ∀ t, Steps p.tables e below (s₁.setTop (mkF m 5 #[.val (.long x0), .second, .val (.long x1), .second, .val (.long x2), .second, .val (.long x3), .second, .val (.long x4), .second, .val (.int x5), .unset, .unset, .unset, .unset, .unset, .unset, .unset, .unset, .unset, .unset, .unset, .unset, .unset, .unset, .unset, .unset, .unset, .unset] [(.int (x5 &&& (8 : Int32)))])) t → Steps p.tables e below (s₁.setTop (entryFrame m #[(.long x0), (.long x1), (.long x2), (.long x3), (.long x4), (.int x5)] maxLocals)) t := fun tt kk => pre0 tt (by
      show Steps p.tables e below (s₁.setTop (mkF m 0 #[.val (.long x0), .second, .val (.long x1), .second, .val (.long x2), .second, .val (.long x3), .second, .val (.long x4), .second, .val (.int x5), .unset, .unset, .unset, .unset, .unset, .unset, .unset, .unset, .unset, .unset, .unset, .unset, .unset, .unset, .unset, .unset, .unset, .unset] [])) _
      refine XS.iload X0.here hx rfl (hb hby at_0) rfl ?_
      show Steps p.tables e below (s₁.setTop (mkF m 2 #[.val (.long x0), .second, .val (.long x1), .second, .val (.long x2), .second, .val (.long x3), .second, .val (.long x4), .second, .val (.int x5), .unset, .unset, .unset, .unset, .unset, .unset, .unset, .unset, .unset, .unset, .unset, .unset, .unset, .unset, .unset, .unset, .unset, .unset] [(.int x5)])) _
      refine XS.bipush X0.here hx rfl (hb hby at_2) ?_
      show Steps p.tables e below (s₁.setTop (mkF m 4 #[.val (.long x0), .second, .val (.long x1), .second, .val (.long x2), .second, .val (.long x3), .second, .val (.long x4), .second, .val (.int x5), .unset, .unset, .unset, .unset, .unset, .unset, .unset, .unset, .unset, .unset, .unset, .unset, .unset, .unset, .unset, .unset, .unset, .unset] [(.int (8 : Int32)), (.int x5)])) _
      refine XS.iand X0.here hx rfl (hb hby at_4) rfl ?_
      exact kk)
    by_cases hc5 : (x5 &&& (8 : Int32)) = (0 : Int32)
    · have pre83 : ∀ t, Steps p.tables e below (s₁.setTop (mkF m 17 #[.val (.long x0), .second, .val (.long x1), .second, .val (.long x2), .second, .val (.long x3), .second, .val (.long x4), .second, .val (.int x5), .val (.int (0 : Int32)), .unset, .unset, .unset, .unset, .unset, .unset, .unset, .unset, .unset, .unset, .unset, .unset, .unset, .unset, .unset, .unset, .unset] [(.int (0 : Int32))])) t → Steps p.tables e below (s₁.setTop (entryFrame m #[(.long x0), (.long x1), (.long x2), (.long x3), (.long x4), (.int x5)] maxLocals)) t := fun tt kk => pre82 tt (by
        show Steps p.tables e below (s₁.setTop (mkF m 5 #[.val (.long x0), .second, .val (.long x1), .second, .val (.long x2), .second, .val (.long x3), .second, .val (.long x4), .second, .val (.int x5), .unset, .unset, .unset, .unset, .unset, .unset, .unset, .unset, .unset, .unset, .unset, .unset, .unset, .unset, .unset, .unset, .unset, .unset] [(.int (x5 &&& (8 : Int32)))])) _
        refine XS.ifYes X0.here hx rfl (pc0 := 5) (pc' := 12) rfl (hb hby at_5) rfl ((if0 _ _).trans (teq hc5).1) (by decide) (by decide) ?_
        show Steps p.tables e below (s₁.setTop (mkF m 12 #[.val (.long x0), .second, .val (.long x1), .second, .val (.long x2), .second, .val (.long x3), .second, .val (.long x4), .second, .val (.int x5), .unset, .unset, .unset, .unset, .unset, .unset, .unset, .unset, .unset, .unset, .unset, .unset, .unset, .unset, .unset, .unset, .unset, .unset] [])) _
        refine XS.iconst X0.here hx rfl (hb hby at_12) ?_
        show Steps p.tables e below (s₁.setTop (mkF m 13 #[.val (.long x0), .second, .val (.long x1), .second, .val (.long x2), .second, .val (.long x3), .second, .val (.long x4), .second, .val (.int x5), .unset, .unset, .unset, .unset, .unset, .unset, .unset, .unset, .unset, .unset, .unset, .unset, .unset, .unset, .unset, .unset, .unset, .unset] [(.int (0 : Int32))])) _
        refine XS.istore X0.here hx rfl (hb hby at_13) rfl (l' := #[.val (.long x0), .second, .val (.long x1), .second, .val (.long x2), .second, .val (.long x3), .second, .val (.long x4), .second, .val (.int x5), .val (.int (0 : Int32)), .unset, .unset, .unset, .unset, .unset, .unset, .unset, .unset, .unset, .unset, .unset, .unset, .unset, .unset, .unset, .unset, .unset]) rfl ?_
        show Steps p.tables e below (s₁.setTop (mkF m 15 #[.val (.long x0), .second, .val (.long x1), .second, .val (.long x2), .second, .val (.long x3), .second, .val (.long x4), .second, .val (.int x5), .val (.int (0 : Int32)), .unset, .unset, .unset, .unset, .unset, .unset, .unset, .unset, .unset, .unset, .unset, .unset, .unset, .unset, .unset, .unset, .unset] [])) _
        refine XS.iload X0.here hx rfl (hb hby at_15) rfl ?_
        exact kk)
      refine ⟨(0 : Int32), ((x0 &&& (2147483647 : Int64)) + (1 : Int64)), ((x1.toInt32).toInt64), ((x2.toInt32).toInt64), s₁, own_small x0 x1, own_small x0 x2, X0, e0, fun tt kk => pre83 tt ?_⟩
      show Steps p.tables e below (s₁.setTop (mkF m 17 #[.val (.long x0), .second, .val (.long x1), .second, .val (.long x2), .second, .val (.long x3), .second, .val (.long x4), .second, .val (.int x5), .val (.int (0 : Int32)), .unset, .unset, .unset, .unset, .unset, .unset, .unset, .unset, .unset, .unset, .unset, .unset, .unset, .unset, .unset, .unset, .unset] [(.int (0 : Int32))])) _
      refine XS.ifYes X0.here hx rfl (pc0 := 17) (pc' := 59) rfl (hb hby at_17) rfl ((if0 _ _).trans (teq (by decide : (0 : Int32) = (0 : Int32))).1) (by decide) (by decide) ?_
      show Steps p.tables e below (s₁.setTop (mkF m 59 #[.val (.long x0), .second, .val (.long x1), .second, .val (.long x2), .second, .val (.long x3), .second, .val (.long x4), .second, .val (.int x5), .val (.int (0 : Int32)), .unset, .unset, .unset, .unset, .unset, .unset, .unset, .unset, .unset, .unset, .unset, .unset, .unset, .unset, .unset, .unset, .unset] [])) _
      refine XS.lloadN X0.here hx rfl (hb hby at_59) rfl ?_
      show Steps p.tables e below (s₁.setTop (mkF m 60 #[.val (.long x0), .second, .val (.long x1), .second, .val (.long x2), .second, .val (.long x3), .second, .val (.long x4), .second, .val (.int x5), .val (.int (0 : Int32)), .unset, .unset, .unset, .unset, .unset, .unset, .unset, .unset, .unset, .unset, .unset, .unset, .unset, .unset, .unset, .unset, .unset] [(.long x0)])) _
      refine X0.ldc2Long hx hown (mvT hZ (hw _ (List.mem_of_getElem? (i := 0) rfl))) (g := (mkF m 60 #[.val (.long x0), .second, .val (.long x1), .second, .val (.long x2), .second, .val (.long x3), .second, .val (.long x4), .second, .val (.int x5), .val (.int (0 : Int32)), .unset, .unset, .unset, .unset, .unset, .unset, .unset, .unset, .unset, .unset, .unset, .unset, .unset, .unset, .unset, .unset, .unset] [(.long x0)])) rfl (hb hby at_60) _ ?_
      show Steps p.tables e below (s₁.setTop (mkF m 63 #[.val (.long x0), .second, .val (.long x1), .second, .val (.long x2), .second, .val (.long x3), .second, .val (.long x4), .second, .val (.int x5), .val (.int (0 : Int32)), .unset, .unset, .unset, .unset, .unset, .unset, .unset, .unset, .unset, .unset, .unset, .unset, .unset, .unset, .unset, .unset, .unset] [(.long (2147483647 : Int64)), (.long x0)])) _
      refine XS.land X0.here hx rfl (hb hby at_63) rfl ?_
      show Steps p.tables e below (s₁.setTop (mkF m 64 #[.val (.long x0), .second, .val (.long x1), .second, .val (.long x2), .second, .val (.long x3), .second, .val (.long x4), .second, .val (.int x5), .val (.int (0 : Int32)), .unset, .unset, .unset, .unset, .unset, .unset, .unset, .unset, .unset, .unset, .unset, .unset, .unset, .unset, .unset, .unset, .unset] [(.long (x0 &&& (2147483647 : Int64)))])) _
      refine XS.lconst X0.here hx rfl (hb hby at_64) ?_
      show Steps p.tables e below (s₁.setTop (mkF m 65 #[.val (.long x0), .second, .val (.long x1), .second, .val (.long x2), .second, .val (.long x3), .second, .val (.long x4), .second, .val (.int x5), .val (.int (0 : Int32)), .unset, .unset, .unset, .unset, .unset, .unset, .unset, .unset, .unset, .unset, .unset, .unset, .unset, .unset, .unset, .unset, .unset] [(.long (1 : Int64)), (.long (x0 &&& (2147483647 : Int64)))])) _
      refine XS.ladd X0.here hx rfl (hb hby at_65) rfl ?_
      show Steps p.tables e below (s₁.setTop (mkF m 66 #[.val (.long x0), .second, .val (.long x1), .second, .val (.long x2), .second, .val (.long x3), .second, .val (.long x4), .second, .val (.int x5), .val (.int (0 : Int32)), .unset, .unset, .unset, .unset, .unset, .unset, .unset, .unset, .unset, .unset, .unset, .unset, .unset, .unset, .unset, .unset, .unset] [(.long ((x0 &&& (2147483647 : Int64)) + (1 : Int64)))])) _
      refine XS.lstore X0.here hx rfl (hb hby at_66) rfl (l' := #[.val (.long x0), .second, .val (.long x1), .second, .val (.long x2), .second, .val (.long x3), .second, .val (.long x4), .second, .val (.int x5), .val (.int (0 : Int32)), .val (.long ((x0 &&& (2147483647 : Int64)) + (1 : Int64))), .second, .unset, .unset, .unset, .unset, .unset, .unset, .unset, .unset, .unset, .unset, .unset, .unset, .unset, .unset, .unset]) rfl ?_
      show Steps p.tables e below (s₁.setTop (mkF m 68 #[.val (.long x0), .second, .val (.long x1), .second, .val (.long x2), .second, .val (.long x3), .second, .val (.long x4), .second, .val (.int x5), .val (.int (0 : Int32)), .val (.long ((x0 &&& (2147483647 : Int64)) + (1 : Int64))), .second, .unset, .unset, .unset, .unset, .unset, .unset, .unset, .unset, .unset, .unset, .unset, .unset, .unset, .unset, .unset] [])) _
      refine XS.lloadN X0.here hx rfl (hb hby at_68) rfl ?_
      show Steps p.tables e below (s₁.setTop (mkF m 69 #[.val (.long x0), .second, .val (.long x1), .second, .val (.long x2), .second, .val (.long x3), .second, .val (.long x4), .second, .val (.int x5), .val (.int (0 : Int32)), .val (.long ((x0 &&& (2147483647 : Int64)) + (1 : Int64))), .second, .unset, .unset, .unset, .unset, .unset, .unset, .unset, .unset, .unset, .unset, .unset, .unset, .unset, .unset, .unset] [(.long x1)])) _
      refine XS.l2i X0.here hx rfl (hb hby at_69) rfl ?_
      show Steps p.tables e below (s₁.setTop (mkF m 70 #[.val (.long x0), .second, .val (.long x1), .second, .val (.long x2), .second, .val (.long x3), .second, .val (.long x4), .second, .val (.int x5), .val (.int (0 : Int32)), .val (.long ((x0 &&& (2147483647 : Int64)) + (1 : Int64))), .second, .unset, .unset, .unset, .unset, .unset, .unset, .unset, .unset, .unset, .unset, .unset, .unset, .unset, .unset, .unset] [(.int (x1.toInt32))])) _
      refine XS.i2l X0.here hx rfl (hb hby at_70) rfl ?_
      show Steps p.tables e below (s₁.setTop (mkF m 71 #[.val (.long x0), .second, .val (.long x1), .second, .val (.long x2), .second, .val (.long x3), .second, .val (.long x4), .second, .val (.int x5), .val (.int (0 : Int32)), .val (.long ((x0 &&& (2147483647 : Int64)) + (1 : Int64))), .second, .unset, .unset, .unset, .unset, .unset, .unset, .unset, .unset, .unset, .unset, .unset, .unset, .unset, .unset, .unset] [(.long ((x1.toInt32).toInt64))])) _
      refine XS.lstore X0.here hx rfl (hb hby at_71) rfl (l' := #[.val (.long x0), .second, .val (.long x1), .second, .val (.long x2), .second, .val (.long x3), .second, .val (.long x4), .second, .val (.int x5), .val (.int (0 : Int32)), .val (.long ((x0 &&& (2147483647 : Int64)) + (1 : Int64))), .second, .val (.long ((x1.toInt32).toInt64)), .second, .unset, .unset, .unset, .unset, .unset, .unset, .unset, .unset, .unset, .unset, .unset, .unset, .unset]) rfl ?_
      show Steps p.tables e below (s₁.setTop (mkF m 73 #[.val (.long x0), .second, .val (.long x1), .second, .val (.long x2), .second, .val (.long x3), .second, .val (.long x4), .second, .val (.int x5), .val (.int (0 : Int32)), .val (.long ((x0 &&& (2147483647 : Int64)) + (1 : Int64))), .second, .val (.long ((x1.toInt32).toInt64)), .second, .unset, .unset, .unset, .unset, .unset, .unset, .unset, .unset, .unset, .unset, .unset, .unset, .unset] [])) _
      refine XS.lload X0.here hx rfl (hb hby at_73) rfl ?_
      show Steps p.tables e below (s₁.setTop (mkF m 75 #[.val (.long x0), .second, .val (.long x1), .second, .val (.long x2), .second, .val (.long x3), .second, .val (.long x4), .second, .val (.int x5), .val (.int (0 : Int32)), .val (.long ((x0 &&& (2147483647 : Int64)) + (1 : Int64))), .second, .val (.long ((x1.toInt32).toInt64)), .second, .unset, .unset, .unset, .unset, .unset, .unset, .unset, .unset, .unset, .unset, .unset, .unset, .unset] [(.long x2)])) _
      refine XS.l2i X0.here hx rfl (hb hby at_75) rfl ?_
      show Steps p.tables e below (s₁.setTop (mkF m 76 #[.val (.long x0), .second, .val (.long x1), .second, .val (.long x2), .second, .val (.long x3), .second, .val (.long x4), .second, .val (.int x5), .val (.int (0 : Int32)), .val (.long ((x0 &&& (2147483647 : Int64)) + (1 : Int64))), .second, .val (.long ((x1.toInt32).toInt64)), .second, .unset, .unset, .unset, .unset, .unset, .unset, .unset, .unset, .unset, .unset, .unset, .unset, .unset] [(.int (x2.toInt32))])) _
      refine XS.i2l X0.here hx rfl (hb hby at_76) rfl ?_
      show Steps p.tables e below (s₁.setTop (mkF m 77 #[.val (.long x0), .second, .val (.long x1), .second, .val (.long x2), .second, .val (.long x3), .second, .val (.long x4), .second, .val (.int x5), .val (.int (0 : Int32)), .val (.long ((x0 &&& (2147483647 : Int64)) + (1 : Int64))), .second, .val (.long ((x1.toInt32).toInt64)), .second, .unset, .unset, .unset, .unset, .unset, .unset, .unset, .unset, .unset, .unset, .unset, .unset, .unset] [(.long ((x2.toInt32).toInt64))])) _
      refine XS.lstore X0.here hx rfl (hb hby at_77) rfl (l' := #[.val (.long x0), .second, .val (.long x1), .second, .val (.long x2), .second, .val (.long x3), .second, .val (.long x4), .second, .val (.int x5), .val (.int (0 : Int32)), .val (.long ((x0 &&& (2147483647 : Int64)) + (1 : Int64))), .second, .val (.long ((x1.toInt32).toInt64)), .second, .val (.long ((x2.toInt32).toInt64)), .second, .unset, .unset, .unset, .unset, .unset, .unset, .unset, .unset, .unset, .unset, .unset]) rfl ?_
      exact kk
    · have pre84 : ∀ t, Steps p.tables e below (s₁.setTop (mkF m 17 #[.val (.long x0), .second, .val (.long x1), .second, .val (.long x2), .second, .val (.long x3), .second, .val (.long x4), .second, .val (.int x5), .val (.int (1 : Int32)), .unset, .unset, .unset, .unset, .unset, .unset, .unset, .unset, .unset, .unset, .unset, .unset, .unset, .unset, .unset, .unset, .unset] [(.int (1 : Int32))])) t → Steps p.tables e below (s₁.setTop (entryFrame m #[(.long x0), (.long x1), (.long x2), (.long x3), (.long x4), (.int x5)] maxLocals)) t := fun tt kk => pre82 tt (by
        show Steps p.tables e below (s₁.setTop (mkF m 5 #[.val (.long x0), .second, .val (.long x1), .second, .val (.long x2), .second, .val (.long x3), .second, .val (.long x4), .second, .val (.int x5), .unset, .unset, .unset, .unset, .unset, .unset, .unset, .unset, .unset, .unset, .unset, .unset, .unset, .unset, .unset, .unset, .unset, .unset] [(.int (x5 &&& (8 : Int32)))])) _
        refine XS.ifNo X0.here hx rfl (hb hby at_5) rfl ((if0 _ _).trans (feq hc5).1) ?_
        show Steps p.tables e below (s₁.setTop (mkF m 8 #[.val (.long x0), .second, .val (.long x1), .second, .val (.long x2), .second, .val (.long x3), .second, .val (.long x4), .second, .val (.int x5), .unset, .unset, .unset, .unset, .unset, .unset, .unset, .unset, .unset, .unset, .unset, .unset, .unset, .unset, .unset, .unset, .unset, .unset] [])) _
        refine XS.iconst X0.here hx rfl (hb hby at_8) ?_
        show Steps p.tables e below (s₁.setTop (mkF m 9 #[.val (.long x0), .second, .val (.long x1), .second, .val (.long x2), .second, .val (.long x3), .second, .val (.long x4), .second, .val (.int x5), .unset, .unset, .unset, .unset, .unset, .unset, .unset, .unset, .unset, .unset, .unset, .unset, .unset, .unset, .unset, .unset, .unset, .unset] [(.int (1 : Int32))])) _
        refine XS.goto X0.here hx rfl (pc0 := 9) (pc' := 13) rfl (hb hby at_9) (by decide) (by decide) ?_
        show Steps p.tables e below (s₁.setTop (mkF m 13 #[.val (.long x0), .second, .val (.long x1), .second, .val (.long x2), .second, .val (.long x3), .second, .val (.long x4), .second, .val (.int x5), .unset, .unset, .unset, .unset, .unset, .unset, .unset, .unset, .unset, .unset, .unset, .unset, .unset, .unset, .unset, .unset, .unset, .unset] [(.int (1 : Int32))])) _
        refine XS.istore X0.here hx rfl (hb hby at_13) rfl (l' := #[.val (.long x0), .second, .val (.long x1), .second, .val (.long x2), .second, .val (.long x3), .second, .val (.long x4), .second, .val (.int x5), .val (.int (1 : Int32)), .unset, .unset, .unset, .unset, .unset, .unset, .unset, .unset, .unset, .unset, .unset, .unset, .unset, .unset, .unset, .unset, .unset]) rfl ?_
        show Steps p.tables e below (s₁.setTop (mkF m 15 #[.val (.long x0), .second, .val (.long x1), .second, .val (.long x2), .second, .val (.long x3), .second, .val (.long x4), .second, .val (.int x5), .val (.int (1 : Int32)), .unset, .unset, .unset, .unset, .unset, .unset, .unset, .unset, .unset, .unset, .unset, .unset, .unset, .unset, .unset, .unset, .unset] [])) _
        refine XS.iload X0.here hx rfl (hb hby at_15) rfl ?_
        exact kk)
      refine ⟨(1 : Int32), ((x0 &&& (4611686018427387903 : Int64)) + (1 : Int64)), (((x1 &&& (2147483647 : Int64)) - ((x1 &&& (2147483647 : Int64)) / (3 : Int64)) * (3 : Int64)) - (1 : Int64)), (((x2 &&& (2147483647 : Int64)) - ((x2 &&& (2147483647 : Int64)) / (3 : Int64)) * (3 : Int64)) - (1 : Int64)), s₁, own_big x0 x1, own_big x0 x2, X0, e0, fun tt kk => pre84 tt ?_⟩
      show Steps p.tables e below (s₁.setTop (mkF m 17 #[.val (.long x0), .second, .val (.long x1), .second, .val (.long x2), .second, .val (.long x3), .second, .val (.long x4), .second, .val (.int x5), .val (.int (1 : Int32)), .unset, .unset, .unset, .unset, .unset, .unset, .unset, .unset, .unset, .unset, .unset, .unset, .unset, .unset, .unset, .unset, .unset] [(.int (1 : Int32))])) _
      refine XS.ifNo X0.here hx rfl (hb hby at_17) rfl ((if0 _ _).trans (feq (by decide : ¬ ((1 : Int32) = (0 : Int32)))).1) ?_
      show Steps p.tables e below (s₁.setTop (mkF m 20 #[.val (.long x0), .second, .val (.long x1), .second, .val (.long x2), .second, .val (.long x3), .second, .val (.long x4), .second, .val (.int x5), .val (.int (1 : Int32)), .unset, .unset, .unset, .unset, .unset, .unset, .unset, .unset, .unset, .unset, .unset, .unset, .unset, .unset, .unset, .unset, .unset] [])) _
      refine XS.lloadN X0.here hx rfl (hb hby at_20) rfl ?_
      show Steps p.tables e below (s₁.setTop (mkF m 21 #[.val (.long x0), .second, .val (.long x1), .second, .val (.long x2), .second, .val (.long x3), .second, .val (.long x4), .second, .val (.int x5), .val (.int (1 : Int32)), .unset, .unset, .unset, .unset, .unset, .unset, .unset, .unset, .unset, .unset, .unset, .unset, .unset, .unset, .unset, .unset, .unset] [(.long x0)])) _
      refine X0.ldc2Long hx hown (mvT hZ (hw _ (List.mem_of_getElem? (i := 44) rfl))) (g := (mkF m 21 #[.val (.long x0), .second, .val (.long x1), .second, .val (.long x2), .second, .val (.long x3), .second, .val (.long x4), .second, .val (.int x5), .val (.int (1 : Int32)), .unset, .unset, .unset, .unset, .unset, .unset, .unset, .unset, .unset, .unset, .unset, .unset, .unset, .unset, .unset, .unset, .unset] [(.long x0)])) rfl (hb hby at_21) _ ?_
      show Steps p.tables e below (s₁.setTop (mkF m 24 #[.val (.long x0), .second, .val (.long x1), .second, .val (.long x2), .second, .val (.long x3), .second, .val (.long x4), .second, .val (.int x5), .val (.int (1 : Int32)), .unset, .unset, .unset, .unset, .unset, .unset, .unset, .unset, .unset, .unset, .unset, .unset, .unset, .unset, .unset, .unset, .unset] [(.long (4611686018427387903 : Int64)), (.long x0)])) _
      refine XS.land X0.here hx rfl (hb hby at_24) rfl ?_
      show Steps p.tables e below (s₁.setTop (mkF m 25 #[.val (.long x0), .second, .val (.long x1), .second, .val (.long x2), .second, .val (.long x3), .second, .val (.long x4), .second, .val (.int x5), .val (.int (1 : Int32)), .unset, .unset, .unset, .unset, .unset, .unset, .unset, .unset, .unset, .unset, .unset, .unset, .unset, .unset, .unset, .unset, .unset] [(.long (x0 &&& (4611686018427387903 : Int64)))])) _
      refine XS.lconst X0.here hx rfl (hb hby at_25) ?_
      show Steps p.tables e below (s₁.setTop (mkF m 26 #[.val (.long x0), .second, .val (.long x1), .second, .val (.long x2), .second, .val (.long x3), .second, .val (.long x4), .second, .val (.int x5), .val (.int (1 : Int32)), .unset, .unset, .unset, .unset, .unset, .unset, .unset, .unset, .unset, .unset, .unset, .unset, .unset, .unset, .unset, .unset, .unset] [(.long (1 : Int64)), (.long (x0 &&& (4611686018427387903 : Int64)))])) _
      refine XS.ladd X0.here hx rfl (hb hby at_26) rfl ?_
      show Steps p.tables e below (s₁.setTop (mkF m 27 #[.val (.long x0), .second, .val (.long x1), .second, .val (.long x2), .second, .val (.long x3), .second, .val (.long x4), .second, .val (.int x5), .val (.int (1 : Int32)), .unset, .unset, .unset, .unset, .unset, .unset, .unset, .unset, .unset, .unset, .unset, .unset, .unset, .unset, .unset, .unset, .unset] [(.long ((x0 &&& (4611686018427387903 : Int64)) + (1 : Int64)))])) _
      refine XS.lstore X0.here hx rfl (hb hby at_27) rfl (l' := #[.val (.long x0), .second, .val (.long x1), .second, .val (.long x2), .second, .val (.long x3), .second, .val (.long x4), .second, .val (.int x5), .val (.int (1 : Int32)), .val (.long ((x0 &&& (4611686018427387903 : Int64)) + (1 : Int64))), .second, .unset, .unset, .unset, .unset, .unset, .unset, .unset, .unset, .unset, .unset, .unset, .unset, .unset, .unset, .unset]) rfl ?_
      show Steps p.tables e below (s₁.setTop (mkF m 29 #[.val (.long x0), .second, .val (.long x1), .second, .val (.long x2), .second, .val (.long x3), .second, .val (.long x4), .second, .val (.int x5), .val (.int (1 : Int32)), .val (.long ((x0 &&& (4611686018427387903 : Int64)) + (1 : Int64))), .second, .unset, .unset, .unset, .unset, .unset, .unset, .unset, .unset, .unset, .unset, .unset, .unset, .unset, .unset, .unset] [])) _
      refine XS.lloadN X0.here hx rfl (hb hby at_29) rfl ?_
      show Steps p.tables e below (s₁.setTop (mkF m 30 #[.val (.long x0), .second, .val (.long x1), .second, .val (.long x2), .second, .val (.long x3), .second, .val (.long x4), .second, .val (.int x5), .val (.int (1 : Int32)), .val (.long ((x0 &&& (4611686018427387903 : Int64)) + (1 : Int64))), .second, .unset, .unset, .unset, .unset, .unset, .unset, .unset, .unset, .unset, .unset, .unset, .unset, .unset, .unset, .unset] [(.long x1)])) _
      refine X0.ldc2Long hx hown (mvT hZ (hw _ (List.mem_of_getElem? (i := 0) rfl))) (g := (mkF m 30 #[.val (.long x0), .second, .val (.long x1), .second, .val (.long x2), .second, .val (.long x3), .second, .val (.long x4), .second, .val (.int x5), .val (.int (1 : Int32)), .val (.long ((x0 &&& (4611686018427387903 : Int64)) + (1 : Int64))), .second, .unset, .unset, .unset, .unset, .unset, .unset, .unset, .unset, .unset, .unset, .unset, .unset, .unset, .unset, .unset] [(.long x1)])) rfl (hb hby at_30) _ ?_
      show Steps p.tables e below (s₁.setTop (mkF m 33 #[.val (.long x0), .second, .val (.long x1), .second, .val (.long x2), .second, .val (.long x3), .second, .val (.long x4), .second, .val (.int x5), .val (.int (1 : Int32)), .val (.long ((x0 &&& (4611686018427387903 : Int64)) + (1 : Int64))), .second, .unset, .unset, .unset, .unset, .unset, .unset, .unset, .unset, .unset, .unset, .unset, .unset, .unset, .unset, .unset] [(.long (2147483647 : Int64)), (.long x1)])) _
      refine XS.land X0.here hx rfl (hb hby at_33) rfl ?_
      show Steps p.tables e below (s₁.setTop (mkF m 34 #[.val (.long x0), .second, .val (.long x1), .second, .val (.long x2), .second, .val (.long x3), .second, .val (.long x4), .second, .val (.int x5), .val (.int (1 : Int32)), .val (.long ((x0 &&& (4611686018427387903 : Int64)) + (1 : Int64))), .second, .unset, .unset, .unset, .unset, .unset, .unset, .unset, .unset, .unset, .unset, .unset, .unset, .unset, .unset, .unset] [(.long (x1 &&& (2147483647 : Int64)))])) _
      refine X0.ldc2Long hx hown (mvT hZ (hw _ (List.mem_of_getElem? (i := 45) rfl))) (g := (mkF m 34 #[.val (.long x0), .second, .val (.long x1), .second, .val (.long x2), .second, .val (.long x3), .second, .val (.long x4), .second, .val (.int x5), .val (.int (1 : Int32)), .val (.long ((x0 &&& (4611686018427387903 : Int64)) + (1 : Int64))), .second, .unset, .unset, .unset, .unset, .unset, .unset, .unset, .unset, .unset, .unset, .unset, .unset, .unset, .unset, .unset] [(.long (x1 &&& (2147483647 : Int64)))])) rfl (hb hby at_34) _ ?_
      show Steps p.tables e below (s₁.setTop (mkF m 37 #[.val (.long x0), .second, .val (.long x1), .second, .val (.long x2), .second, .val (.long x3), .second, .val (.long x4), .second, .val (.int x5), .val (.int (1 : Int32)), .val (.long ((x0 &&& (4611686018427387903 : Int64)) + (1 : Int64))), .second, .unset, .unset, .unset, .unset, .unset, .unset, .unset, .unset, .unset, .unset, .unset, .unset, .unset, .unset, .unset] [(.long (3 : Int64)), (.long (x1 &&& (2147483647 : Int64)))])) _
      refine XS.lrem X0.here hx rfl (hb hby at_37) rfl (by decide) ?_
      show Steps p.tables e below (s₁.setTop (mkF m 38 #[.val (.long x0), .second, .val (.long x1), .second, .val (.long x2), .second, .val (.long x3), .second, .val (.long x4), .second, .val (.int x5), .val (.int (1 : Int32)), .val (.long ((x0 &&& (4611686018427387903 : Int64)) + (1 : Int64))), .second, .unset, .unset, .unset, .unset, .unset, .unset, .unset, .unset, .unset, .unset, .unset, .unset, .unset, .unset, .unset] [(.long ((x1 &&& (2147483647 : Int64)) - ((x1 &&& (2147483647 : Int64)) / (3 : Int64)) * (3 : Int64)))])) _
      refine XS.lconst X0.here hx rfl (hb hby at_38) ?_
      show Steps p.tables e below (s₁.setTop (mkF m 39 #[.val (.long x0), .second, .val (.long x1), .second, .val (.long x2), .second, .val (.long x3), .second, .val (.long x4), .second, .val (.int x5), .val (.int (1 : Int32)), .val (.long ((x0 &&& (4611686018427387903 : Int64)) + (1 : Int64))), .second, .unset, .unset, .unset, .unset, .unset, .unset, .unset, .unset, .unset, .unset, .unset, .unset, .unset, .unset, .unset] [(.long (1 : Int64)), (.long ((x1 &&& (2147483647 : Int64)) - ((x1 &&& (2147483647 : Int64)) / (3 : Int64)) * (3 : Int64)))])) _
      refine XS.lsub X0.here hx rfl (hb hby at_39) rfl ?_
      show Steps p.tables e below (s₁.setTop (mkF m 40 #[.val (.long x0), .second, .val (.long x1), .second, .val (.long x2), .second, .val (.long x3), .second, .val (.long x4), .second, .val (.int x5), .val (.int (1 : Int32)), .val (.long ((x0 &&& (4611686018427387903 : Int64)) + (1 : Int64))), .second, .unset, .unset, .unset, .unset, .unset, .unset, .unset, .unset, .unset, .unset, .unset, .unset, .unset, .unset, .unset] [(.long (((x1 &&& (2147483647 : Int64)) - ((x1 &&& (2147483647 : Int64)) / (3 : Int64)) * (3 : Int64)) - (1 : Int64)))])) _
      refine XS.lstore X0.here hx rfl (hb hby at_40) rfl (l' := #[.val (.long x0), .second, .val (.long x1), .second, .val (.long x2), .second, .val (.long x3), .second, .val (.long x4), .second, .val (.int x5), .val (.int (1 : Int32)), .val (.long ((x0 &&& (4611686018427387903 : Int64)) + (1 : Int64))), .second, .val (.long (((x1 &&& (2147483647 : Int64)) - ((x1 &&& (2147483647 : Int64)) / (3 : Int64)) * (3 : Int64)) - (1 : Int64))), .second, .unset, .unset, .unset, .unset, .unset, .unset, .unset, .unset, .unset, .unset, .unset, .unset, .unset]) rfl ?_
      show Steps p.tables e below (s₁.setTop (mkF m 42 #[.val (.long x0), .second, .val (.long x1), .second, .val (.long x2), .second, .val (.long x3), .second, .val (.long x4), .second, .val (.int x5), .val (.int (1 : Int32)), .val (.long ((x0 &&& (4611686018427387903 : Int64)) + (1 : Int64))), .second, .val (.long (((x1 &&& (2147483647 : Int64)) - ((x1 &&& (2147483647 : Int64)) / (3 : Int64)) * (3 : Int64)) - (1 : Int64))), .second, .unset, .unset, .unset, .unset, .unset, .unset, .unset, .unset, .unset, .unset, .unset, .unset, .unset] [])) _
      refine XS.lload X0.here hx rfl (hb hby at_42) rfl ?_
      show Steps p.tables e below (s₁.setTop (mkF m 44 #[.val (.long x0), .second, .val (.long x1), .second, .val (.long x2), .second, .val (.long x3), .second, .val (.long x4), .second, .val (.int x5), .val (.int (1 : Int32)), .val (.long ((x0 &&& (4611686018427387903 : Int64)) + (1 : Int64))), .second, .val (.long (((x1 &&& (2147483647 : Int64)) - ((x1 &&& (2147483647 : Int64)) / (3 : Int64)) * (3 : Int64)) - (1 : Int64))), .second, .unset, .unset, .unset, .unset, .unset, .unset, .unset, .unset, .unset, .unset, .unset, .unset, .unset] [(.long x2)])) _
      refine X0.ldc2Long hx hown (mvT hZ (hw _ (List.mem_of_getElem? (i := 0) rfl))) (g := (mkF m 44 #[.val (.long x0), .second, .val (.long x1), .second, .val (.long x2), .second, .val (.long x3), .second, .val (.long x4), .second, .val (.int x5), .val (.int (1 : Int32)), .val (.long ((x0 &&& (4611686018427387903 : Int64)) + (1 : Int64))), .second, .val (.long (((x1 &&& (2147483647 : Int64)) - ((x1 &&& (2147483647 : Int64)) / (3 : Int64)) * (3 : Int64)) - (1 : Int64))), .second, .unset, .unset, .unset, .unset, .unset, .unset, .unset, .unset, .unset, .unset, .unset, .unset, .unset] [(.long x2)])) rfl (hb hby at_44) _ ?_
      show Steps p.tables e below (s₁.setTop (mkF m 47 #[.val (.long x0), .second, .val (.long x1), .second, .val (.long x2), .second, .val (.long x3), .second, .val (.long x4), .second, .val (.int x5), .val (.int (1 : Int32)), .val (.long ((x0 &&& (4611686018427387903 : Int64)) + (1 : Int64))), .second, .val (.long (((x1 &&& (2147483647 : Int64)) - ((x1 &&& (2147483647 : Int64)) / (3 : Int64)) * (3 : Int64)) - (1 : Int64))), .second, .unset, .unset, .unset, .unset, .unset, .unset, .unset, .unset, .unset, .unset, .unset, .unset, .unset] [(.long (2147483647 : Int64)), (.long x2)])) _
      refine XS.land X0.here hx rfl (hb hby at_47) rfl ?_
      show Steps p.tables e below (s₁.setTop (mkF m 48 #[.val (.long x0), .second, .val (.long x1), .second, .val (.long x2), .second, .val (.long x3), .second, .val (.long x4), .second, .val (.int x5), .val (.int (1 : Int32)), .val (.long ((x0 &&& (4611686018427387903 : Int64)) + (1 : Int64))), .second, .val (.long (((x1 &&& (2147483647 : Int64)) - ((x1 &&& (2147483647 : Int64)) / (3 : Int64)) * (3 : Int64)) - (1 : Int64))), .second, .unset, .unset, .unset, .unset, .unset, .unset, .unset, .unset, .unset, .unset, .unset, .unset, .unset] [(.long (x2 &&& (2147483647 : Int64)))])) _
      refine X0.ldc2Long hx hown (mvT hZ (hw _ (List.mem_of_getElem? (i := 45) rfl))) (g := (mkF m 48 #[.val (.long x0), .second, .val (.long x1), .second, .val (.long x2), .second, .val (.long x3), .second, .val (.long x4), .second, .val (.int x5), .val (.int (1 : Int32)), .val (.long ((x0 &&& (4611686018427387903 : Int64)) + (1 : Int64))), .second, .val (.long (((x1 &&& (2147483647 : Int64)) - ((x1 &&& (2147483647 : Int64)) / (3 : Int64)) * (3 : Int64)) - (1 : Int64))), .second, .unset, .unset, .unset, .unset, .unset, .unset, .unset, .unset, .unset, .unset, .unset, .unset, .unset] [(.long (x2 &&& (2147483647 : Int64)))])) rfl (hb hby at_48) _ ?_
      show Steps p.tables e below (s₁.setTop (mkF m 51 #[.val (.long x0), .second, .val (.long x1), .second, .val (.long x2), .second, .val (.long x3), .second, .val (.long x4), .second, .val (.int x5), .val (.int (1 : Int32)), .val (.long ((x0 &&& (4611686018427387903 : Int64)) + (1 : Int64))), .second, .val (.long (((x1 &&& (2147483647 : Int64)) - ((x1 &&& (2147483647 : Int64)) / (3 : Int64)) * (3 : Int64)) - (1 : Int64))), .second, .unset, .unset, .unset, .unset, .unset, .unset, .unset, .unset, .unset, .unset, .unset, .unset, .unset] [(.long (3 : Int64)), (.long (x2 &&& (2147483647 : Int64)))])) _
      refine XS.lrem X0.here hx rfl (hb hby at_51) rfl (by decide) ?_
      show Steps p.tables e below (s₁.setTop (mkF m 52 #[.val (.long x0), .second, .val (.long x1), .second, .val (.long x2), .second, .val (.long x3), .second, .val (.long x4), .second, .val (.int x5), .val (.int (1 : Int32)), .val (.long ((x0 &&& (4611686018427387903 : Int64)) + (1 : Int64))), .second, .val (.long (((x1 &&& (2147483647 : Int64)) - ((x1 &&& (2147483647 : Int64)) / (3 : Int64)) * (3 : Int64)) - (1 : Int64))), .second, .unset, .unset, .unset, .unset, .unset, .unset, .unset, .unset, .unset, .unset, .unset, .unset, .unset] [(.long ((x2 &&& (2147483647 : Int64)) - ((x2 &&& (2147483647 : Int64)) / (3 : Int64)) * (3 : Int64)))])) _
      refine XS.lconst X0.here hx rfl (hb hby at_52) ?_
      show Steps p.tables e below (s₁.setTop (mkF m 53 #[.val (.long x0), .second, .val (.long x1), .second, .val (.long x2), .second, .val (.long x3), .second, .val (.long x4), .second, .val (.int x5), .val (.int (1 : Int32)), .val (.long ((x0 &&& (4611686018427387903 : Int64)) + (1 : Int64))), .second, .val (.long (((x1 &&& (2147483647 : Int64)) - ((x1 &&& (2147483647 : Int64)) / (3 : Int64)) * (3 : Int64)) - (1 : Int64))), .second, .unset, .unset, .unset, .unset, .unset, .unset, .unset, .unset, .unset, .unset, .unset, .unset, .unset] [(.long (1 : Int64)), (.long ((x2 &&& (2147483647 : Int64)) - ((x2 &&& (2147483647 : Int64)) / (3 : Int64)) * (3 : Int64)))])) _
      refine XS.lsub X0.here hx rfl (hb hby at_53) rfl ?_
      show Steps p.tables e below (s₁.setTop (mkF m 54 #[.val (.long x0), .second, .val (.long x1), .second, .val (.long x2), .second, .val (.long x3), .second, .val (.long x4), .second, .val (.int x5), .val (.int (1 : Int32)), .val (.long ((x0 &&& (4611686018427387903 : Int64)) + (1 : Int64))), .second, .val (.long (((x1 &&& (2147483647 : Int64)) - ((x1 &&& (2147483647 : Int64)) / (3 : Int64)) * (3 : Int64)) - (1 : Int64))), .second, .unset, .unset, .unset, .unset, .unset, .unset, .unset, .unset, .unset, .unset, .unset, .unset, .unset] [(.long (((x2 &&& (2147483647 : Int64)) - ((x2 &&& (2147483647 : Int64)) / (3 : Int64)) * (3 : Int64)) - (1 : Int64)))])) _
      refine XS.lstore X0.here hx rfl (hb hby at_54) rfl (l' := #[.val (.long x0), .second, .val (.long x1), .second, .val (.long x2), .second, .val (.long x3), .second, .val (.long x4), .second, .val (.int x5), .val (.int (1 : Int32)), .val (.long ((x0 &&& (4611686018427387903 : Int64)) + (1 : Int64))), .second, .val (.long (((x1 &&& (2147483647 : Int64)) - ((x1 &&& (2147483647 : Int64)) / (3 : Int64)) * (3 : Int64)) - (1 : Int64))), .second, .val (.long (((x2 &&& (2147483647 : Int64)) - ((x2 &&& (2147483647 : Int64)) / (3 : Int64)) * (3 : Int64)) - (1 : Int64))), .second, .unset, .unset, .unset, .unset, .unset, .unset, .unset, .unset, .unset, .unset, .unset]) rfl ?_
      show Steps p.tables e below (s₁.setTop (mkF m 56 #[.val (.long x0), .second, .val (.long x1), .second, .val (.long x2), .second, .val (.long x3), .second, .val (.long x4), .second, .val (.int x5), .val (.int (1 : Int32)), .val (.long ((x0 &&& (4611686018427387903 : Int64)) + (1 : Int64))), .second, .val (.long (((x1 &&& (2147483647 : Int64)) - ((x1 &&& (2147483647 : Int64)) / (3 : Int64)) * (3 : Int64)) - (1 : Int64))), .second, .val (.long (((x2 &&& (2147483647 : Int64)) - ((x2 &&& (2147483647 : Int64)) / (3 : Int64)) * (3 : Int64)) - (1 : Int64))), .second, .unset, .unset, .unset, .unset, .unset, .unset, .unset, .unset, .unset, .unset, .unset] [])) _
      refine XS.goto X0.here hx rfl (pc0 := 56) (pc' := 79) rfl (hb hby at_56) (by decide) (by decide) ?_
      exact kk
  obtain ⟨rF, T85, hm85_0, X85, e85, pre85⟩ : ∃ (rF : Int64) (T' : State), own_R un rF ∧ Stand p l e room_1 s m #[(.long x0), (.long x1), (.long x2), (.long x3), (.long x4), (.int x5)] below meth c T' [] 0 0 ∧ T'.heap = h0 ∧ ∀ t, Steps p.tables e below (T'.setTop (mkF m 99 #[.val (.long x0), .second, .val (.long x1), .second, .val (.long x2), .second, .val (.long x3), .second, .val (.long x4), .second, .val (.int x5), .val (.int b8), .val (.long un), .second, .val (.long qf), .second, .val (.long qr), .second, .unset, .unset, .unset, .unset, .unset, .unset, .unset, .unset, .unset, .unset, .unset] [(.long rF)])) t → Steps p.tables e below (s₁.setTop (entryFrame m #[(.long x0), (.long x1), (.long x2), (.long x3), (.long x4), (.int x5)] maxLocals)) t := by
    have pre86 : ∀ t, Steps p.tables e below (T81.setTop (mkF m 83 #[.val (.long x0), .second, .val (.long x1), .second, .val (.long x2), .second, .val (.long x3), .second, .val (.long x4), .second, .val (.int x5), .val (.int b8), .val (.long un), .second, .val (.long qf), .second, .val (.long qr), .second, .unset, .unset, .unset, .unset, .unset, .unset, .unset, .unset, .unset, .unset, .unset] [(.int (x5 &&& (1 : Int32)))])) t → Steps p.tables e below (s₁.setTop (entryFrame m #[(.long x0), (.long x1), (.long x2), (.long x3), (.long x4), (.int x5)] maxLocals)) t := fun tt kk => pre81 tt (by
      show Steps p.tables e below (T81.setTop (mkF m 79 #[.val (.long x0), .second, .val (.long x1), .second, .val (.long x2), .second, .val (.long x3), .second, .val (.long x4), .second, .val (.int x5), .val (.int b8), .val (.long un), .second, .val (.long qf), .second, .val (.long qr), .second, .unset, .unset, .unset, .unset, .unset, .unset, .unset, .unset, .unset, .unset, .unset] [])) _
      refine XS.iload X81.here hx rfl (hb hby at_79) rfl ?_
      show Steps p.tables e below (T81.setTop (mkF m 81 #[.val (.long x0), .second, .val (.long x1), .second, .val (.long x2), .second, .val (.long x3), .second, .val (.long x4), .second, .val (.int x5), .val (.int b8), .val (.long un), .second, .val (.long qf), .second, .val (.long qr), .second, .unset, .unset, .unset, .unset, .unset, .unset, .unset, .unset, .unset, .unset, .unset] [(.int x5)])) _
      refine XS.iconst X81.here hx rfl (hb hby at_81) ?_
      show Steps p.tables e below (T81.setTop (mkF m 82 #[.val (.long x0), .second, .val (.long x1), .second, .val (.long x2), .second, .val (.long x3), .second, .val (.long x4), .second, .val (.int x5), .val (.int b8), .val (.long un), .second, .val (.long qf), .second, .val (.long qr), .second, .unset, .unset, .unset, .unset, .unset, .unset, .unset, .unset, .unset, .unset, .unset] [(.int (1 : Int32)), (.int x5)])) _
      refine XS.iand X81.here hx rfl (hb hby at_82) rfl ?_
      exact kk)
    by_cases hc83 : (x5 &&& (1 : Int32)) = (0 : Int32)
    · refine ⟨((x3 &&& (9223372036854775807 : Int64)) - ((x3 &&& (9223372036854775807 : Int64)) / un) * un), T81, own_R1 hm81_0 x3, X81, e81, fun tt kk => pre86 tt ?_⟩
      show Steps p.tables e below (T81.setTop (mkF m 83 #[.val (.long x0), .second, .val (.long x1), .second, .val (.long x2), .second, .val (.long x3), .second, .val (.long x4), .second, .val (.int x5), .val (.int b8), .val (.long un), .second, .val (.long qf), .second, .val (.long qr), .second, .unset, .unset, .unset, .unset, .unset, .unset, .unset, .unset, .unset, .unset, .unset] [(.int (x5 &&& (1 : Int32)))])) _
      refine XS.ifYes X81.here hx rfl (pc0 := 83) (pc' := 90) rfl (hb hby at_83) rfl ((if0 _ _).trans (teq hc83).1) (by decide) (by decide) ?_
      show Steps p.tables e below (T81.setTop (mkF m 90 #[.val (.long x0), .second, .val (.long x1), .second, .val (.long x2), .second, .val (.long x3), .second, .val (.long x4), .second, .val (.int x5), .val (.int b8), .val (.long un), .second, .val (.long qf), .second, .val (.long qr), .second, .unset, .unset, .unset, .unset, .unset, .unset, .unset, .unset, .unset, .unset, .unset] [])) _
      refine XS.lload X81.here hx rfl (hb hby at_90) rfl ?_
      show Steps p.tables e below (T81.setTop (mkF m 92 #[.val (.long x0), .second, .val (.long x1), .second, .val (.long x2), .second, .val (.long x3), .second, .val (.long x4), .second, .val (.int x5), .val (.int b8), .val (.long un), .second, .val (.long qf), .second, .val (.long qr), .second, .unset, .unset, .unset, .unset, .unset, .unset, .unset, .unset, .unset, .unset, .unset] [(.long x3)])) _
      refine X81.ldc2Long hx hown (mvT hZ (hw _ (List.mem_of_getElem? (i := 1) rfl))) (g := (mkF m 92 #[.val (.long x0), .second, .val (.long x1), .second, .val (.long x2), .second, .val (.long x3), .second, .val (.long x4), .second, .val (.int x5), .val (.int b8), .val (.long un), .second, .val (.long qf), .second, .val (.long qr), .second, .unset, .unset, .unset, .unset, .unset, .unset, .unset, .unset, .unset, .unset, .unset] [(.long x3)])) rfl (hb hby at_92) _ ?_
      show Steps p.tables e below (T81.setTop (mkF m 95 #[.val (.long x0), .second, .val (.long x1), .second, .val (.long x2), .second, .val (.long x3), .second, .val (.long x4), .second, .val (.int x5), .val (.int b8), .val (.long un), .second, .val (.long qf), .second, .val (.long qr), .second, .unset, .unset, .unset, .unset, .unset, .unset, .unset, .unset, .unset, .unset, .unset] [(.long (9223372036854775807 : Int64)), (.long x3)])) _
      refine XS.land X81.here hx rfl (hb hby at_95) rfl ?_
      show Steps p.tables e below (T81.setTop (mkF m 96 #[.val (.long x0), .second, .val (.long x1), .second, .val (.long x2), .second, .val (.long x3), .second, .val (.long x4), .second, .val (.int x5), .val (.int b8), .val (.long un), .second, .val (.long qf), .second, .val (.long qr), .second, .unset, .unset, .unset, .unset, .unset, .unset, .unset, .unset, .unset, .unset, .unset] [(.long (x3 &&& (9223372036854775807 : Int64)))])) _
      refine XS.lload X81.here hx rfl (hb hby at_96) rfl ?_
      show Steps p.tables e below (T81.setTop (mkF m 98 #[.val (.long x0), .second, .val (.long x1), .second, .val (.long x2), .second, .val (.long x3), .second, .val (.long x4), .second, .val (.int x5), .val (.int b8), .val (.long un), .second, .val (.long qf), .second, .val (.long qr), .second, .unset, .unset, .unset, .unset, .unset, .unset, .unset, .unset, .unset, .unset, .unset] [(.long un), (.long (x3 &&& (9223372036854775807 : Int64)))])) _
      refine XS.lrem X81.here hx rfl (hb hby at_98) rfl (own_ne0 hm81_0) ?_
      exact kk
    · refine ⟨(0 : Int64), T81, own_R0 hm81_0, X81, e81, fun tt kk => pre86 tt ?_⟩
      show Steps p.tables e below (T81.setTop (mkF m 83 #[.val (.long x0), .second, .val (.long x1), .second, .val (.long x2), .second, .val (.long x3), .second, .val (.long x4), .second, .val (.int x5), .val (.int b8), .val (.long un), .second, .val (.long qf), .second, .val (.long qr), .second, .unset, .unset, .unset, .unset, .unset, .unset, .unset, .unset, .unset, .unset, .unset] [(.int (x5 &&& (1 : Int32)))])) _
      refine XS.ifNo X81.here hx rfl (hb hby at_83) rfl ((if0 _ _).trans (feq hc83).1) ?_
      show Steps p.tables e below (T81.setTop (mkF m 86 #[.val (.long x0), .second, .val (.long x1), .second, .val (.long x2), .second, .val (.long x3), .second, .val (.long x4), .second, .val (.int x5), .val (.int b8), .val (.long un), .second, .val (.long qf), .second, .val (.long qr), .second, .unset, .unset, .unset, .unset, .unset, .unset, .unset, .unset, .unset, .unset, .unset] [])) _
      refine XS.lconst X81.here hx rfl (hb hby at_86) ?_
      show Steps p.tables e below (T81.setTop (mkF m 87 #[.val (.long x0), .second, .val (.long x1), .second, .val (.long x2), .second, .val (.long x3), .second, .val (.long x4), .second, .val (.int x5), .val (.int b8), .val (.long un), .second, .val (.long qf), .second, .val (.long qr), .second, .unset, .unset, .unset, .unset, .unset, .unset, .unset, .unset, .unset, .unset, .unset] [(.long (0 : Int64))])) _
      refine XS.goto X81.here hx rfl (pc0 := 87) (pc' := 99) rfl (hb hby at_87) (by decide) (by decide) ?_
      exact kk
  have pre87 : ∀ t, Steps p.tables e below (T85.setTop (mkF m 101 #[.val (.long x0), .second, .val (.long x1), .second, .val (.long x2), .second, .val (.long x3), .second, .val (.long x4), .second, .val (.int x5), .val (.int b8), .val (.long un), .second, .val (.long qf), .second, .val (.long qr), .second, .val (.long rF), .second, .unset, .unset, .unset, .unset, .unset, .unset, .unset, .unset, .unset] [])) t → Steps p.tables e below (s₁.setTop (entryFrame m #[(.long x0), (.long x1), (.long x2), (.long x3), (.long x4), (.int x5)] maxLocals)) t := fun tt kk => pre85 tt (by
    show Steps p.tables e below (T85.setTop (mkF m 99 #[.val (.long x0), .second, .val (.long x1), .second, .val (.long x2), .second, .val (.long x3), .second, .val (.long x4), .second, .val (.int x5), .val (.int b8), .val (.long un), .second, .val (.long qf), .second, .val (.long qr), .second, .unset, .unset, .unset, .unset, .unset, .unset, .unset, .unset, .unset, .unset, .unset] [(.long rF)])) _
    refine XS.lstore X85.here hx rfl (hb hby at_99) rfl (l' := #[.val (.long x0), .second, .val (.long x1), .second, .val (.long x2), .second, .val (.long x3), .second, .val (.long x4), .second, .val (.int x5), .val (.int b8), .val (.long un), .second, .val (.long qf), .second, .val (.long qr), .second, .val (.long rF), .second, .unset, .unset, .unset, .unset, .unset, .unset, .unset, .unset, .unset]) rfl ?_
    exact kk)
  obtain ⟨rR, T88, hm88_0, X88, e88, pre88⟩ : ∃ (rR : Int64) (T' : State), own_R un rR ∧ Stand p l e room_1 s m #[(.long x0), (.long x1), (.long x2), (.long x3), (.long x4), (.int x5)] below meth c T' [] 0 0 ∧ T'.heap = h0 ∧ ∀ t, Steps p.tables e below (T'.setTop (mkF m 121 #[.val (.long x0), .second, .val (.long x1), .second, .val (.long x2), .second, .val (.long x3), .second, .val (.long x4), .second, .val (.int x5), .val (.int b8), .val (.long un), .second, .val (.long qf), .second, .val (.long qr), .second, .val (.long rF), .second, .unset, .unset, .unset, .unset, .unset, .unset, .unset, .unset, .unset] [(.long rR)])) t → Steps p.tables e below (s₁.setTop (entryFrame m #[(.long x0), (.long x1), (.long x2), (.long x3), (.long x4), (.int x5)] maxLocals)) t := by
    have pre89 : ∀ t, Steps p.tables e below (T85.setTop (mkF m 105 #[.val (.long x0), .second, .val (.long x1), .second, .val (.long x2), .second, .val (.long x3), .second, .val (.long x4), .second, .val (.int x5), .val (.int b8), .val (.long un), .second, .val (.long qf), .second, .val (.long qr), .second, .val (.long rF), .second, .unset, .unset, .unset, .unset, .unset, .unset, .unset, .unset, .unset] [(.int (x5 &&& (2 : Int32)))])) t → Steps p.tables e below (s₁.setTop (entryFrame m #[(.long x0), (.long x1), (.long x2), (.long x3), (.long x4), (.int x5)] maxLocals)) t := fun tt kk => pre87 tt (by
      show Steps p.tables e below (T85.setTop (mkF m 101 #[.val (.long x0), .second, .val (.long x1), .second, .val (.long x2), .second, .val (.long x3), .second, .val (.long x4), .second, .val (.int x5), .val (.int b8), .val (.long un), .second, .val (.long qf), .second, .val (.long qr), .second, .val (.long rF), .second, .unset, .unset, .unset, .unset, .unset, .unset, .unset, .unset, .unset] [])) _
      refine XS.iload X85.here hx rfl (hb hby at_101) rfl ?_
      show Steps p.tables e below (T85.setTop (mkF m 103 #[.val (.long x0), .second, .val (.long x1), .second, .val (.long x2), .second, .val (.long x3), .second, .val (.long x4), .second, .val (.int x5), .val (.int b8), .val (.long un), .second, .val (.long qf), .second, .val (.long qr), .second, .val (.long rF), .second, .unset, .unset, .unset, .unset, .unset, .unset, .unset, .unset, .unset] [(.int x5)])) _
      refine XS.iconst X85.here hx rfl (hb hby at_103) ?_
      show Steps p.tables e below (T85.setTop (mkF m 104 #[.val (.long x0), .second, .val (.long x1), .second, .val (.long x2), .second, .val (.long x3), .second, .val (.long x4), .second, .val (.int x5), .val (.int b8), .val (.long un), .second, .val (.long qf), .second, .val (.long qr), .second, .val (.long rF), .second, .unset, .unset, .unset, .unset, .unset, .unset, .unset, .unset, .unset] [(.int (2 : Int32)), (.int x5)])) _
      refine XS.iand X85.here hx rfl (hb hby at_104) rfl ?_
      exact kk)
    by_cases hc105 : (x5 &&& (2 : Int32)) = (0 : Int32)
    · refine ⟨((x4 &&& (9223372036854775807 : Int64)) - ((x4 &&& (9223372036854775807 : Int64)) / un) * un), T85, own_R1 hm81_0 x4, X85, e85, fun tt kk => pre89 tt ?_⟩
      show Steps p.tables e below (T85.setTop (mkF m 105 #[.val (.long x0), .second, .val (.long x1), .second, .val (.long x2), .second, .val (.long x3), .second, .val (.long x4), .second, .val (.int x5), .val (.int b8), .val (.long un), .second, .val (.long qf), .second, .val (.long qr), .second, .val (.long rF), .second, .unset, .unset, .unset, .unset, .unset, .unset, .unset, .unset, .unset] [(.int (x5 &&& (2 : Int32)))])) _
      refine XS.ifYes X85.here hx rfl (pc0 := 105) (pc' := 112) rfl (hb hby at_105) rfl ((if0 _ _).trans (teq hc105).1) (by decide) (by decide) ?_
      show Steps p.tables e below (T85.setTop (mkF m 112 #[.val (.long x0), .second, .val (.long x1), .second, .val (.long x2), .second, .val (.long x3), .second, .val (.long x4), .second, .val (.int x5), .val (.int b8), .val (.long un), .second, .val (.long qf), .second, .val (.long qr), .second, .val (.long rF), .second, .unset, .unset, .unset, .unset, .unset, .unset, .unset, .unset, .unset] [])) _
      refine XS.lload X85.here hx rfl (hb hby at_112) rfl ?_
      show Steps p.tables e below (T85.setTop (mkF m 114 #[.val (.long x0), .second, .val (.long x1), .second, .val (.long x2), .second, .val (.long x3), .second, .val (.long x4), .second, .val (.int x5), .val (.int b8), .val (.long un), .second, .val (.long qf), .second, .val (.long qr), .second, .val (.long rF), .second, .unset, .unset, .unset, .unset, .unset, .unset, .unset, .unset, .unset] [(.long x4)])) _
      refine X85.ldc2Long hx hown (mvT hZ (hw _ (List.mem_of_getElem? (i := 1) rfl))) (g := (mkF m 114 #[.val (.long x0), .second, .val (.long x1), .second, .val (.long x2), .second, .val (.long x3), .second, .val (.long x4), .second, .val (.int x5), .val (.int b8), .val (.long un), .second, .val (.long qf), .second, .val (.long qr), .second, .val (.long rF), .second, .unset, .unset, .unset, .unset, .unset, .unset, .unset, .unset, .unset] [(.long x4)])) rfl (hb hby at_114) _ ?_
      show Steps p.tables e below (T85.setTop (mkF m 117 #[.val (.long x0), .second, .val (.long x1), .second, .val (.long x2), .second, .val (.long x3), .second, .val (.long x4), .second, .val (.int x5), .val (.int b8), .val (.long un), .second, .val (.long qf), .second, .val (.long qr), .second, .val (.long rF), .second, .unset, .unset, .unset, .unset, .unset, .unset, .unset, .unset, .unset] [(.long (9223372036854775807 : Int64)), (.long x4)])) _
      refine XS.land X85.here hx rfl (hb hby at_117) rfl ?_
      show Steps p.tables e below (T85.setTop (mkF m 118 #[.val (.long x0), .second, .val (.long x1), .second, .val (.long x2), .second, .val (.long x3), .second, .val (.long x4), .second, .val (.int x5), .val (.int b8), .val (.long un), .second, .val (.long qf), .second, .val (.long qr), .second, .val (.long rF), .second, .unset, .unset, .unset, .unset, .unset, .unset, .unset, .unset, .unset] [(.long (x4 &&& (9223372036854775807 : Int64)))])) _
      refine XS.lload X85.here hx rfl (hb hby at_118) rfl ?_
      show Steps p.tables e below (T85.setTop (mkF m 120 #[.val (.long x0), .second, .val (.long x1), .second, .val (.long x2), .second, .val (.long x3), .second, .val (.long x4), .second, .val (.int x5), .val (.int b8), .val (.long un), .second, .val (.long qf), .second, .val (.long qr), .second, .val (.long rF), .second, .unset, .unset, .unset, .unset, .unset, .unset, .unset, .unset, .unset] [(.long un), (.long (x4 &&& (9223372036854775807 : Int64)))])) _
      refine XS.lrem X85.here hx rfl (hb hby at_120) rfl (own_ne0 hm81_0) ?_
      exact kk
    · refine ⟨(0 : Int64), T85, own_R0 hm81_0, X85, e85, fun tt kk => pre89 tt ?_⟩
      show Steps p.tables e below (T85.setTop (mkF m 105 #[.val (.long x0), .second, .val (.long x1), .second, .val (.long x2), .second, .val (.long x3), .second, .val (.long x4), .second, .val (.int x5), .val (.int b8), .val (.long un), .second, .val (.long qf), .second, .val (.long qr), .second, .val (.long rF), .second, .unset, .unset, .unset, .unset, .unset, .unset, .unset, .unset, .unset] [(.int (x5 &&& (2 : Int32)))])) _
      refine XS.ifNo X85.here hx rfl (hb hby at_105) rfl ((if0 _ _).trans (feq hc105).1) ?_
      show Steps p.tables e below (T85.setTop (mkF m 108 #[.val (.long x0), .second, .val (.long x1), .second, .val (.long x2), .second, .val (.long x3), .second, .val (.long x4), .second, .val (.int x5), .val (.int b8), .val (.long un), .second, .val (.long qf), .second, .val (.long qr), .second, .val (.long rF), .second, .unset, .unset, .unset, .unset, .unset, .unset, .unset, .unset, .unset] [])) _
      refine XS.lconst X85.here hx rfl (hb hby at_108) ?_
      show Steps p.tables e below (T85.setTop (mkF m 109 #[.val (.long x0), .second, .val (.long x1), .second, .val (.long x2), .second, .val (.long x3), .second, .val (.long x4), .second, .val (.int x5), .val (.int b8), .val (.long un), .second, .val (.long qf), .second, .val (.long qr), .second, .val (.long rF), .second, .unset, .unset, .unset, .unset, .unset, .unset, .unset, .unset, .unset] [(.long (0 : Int64))])) _
      refine XS.goto X85.here hx rfl (pc0 := 109) (pc' := 121) rfl (hb hby at_109) (by decide) (by decide) ?_
      exact kk
  have pre90 : ∀ t, Steps p.tables e below (T88.setTop (mkF m 143 #[.val (.long x0), .second, .val (.long x1), .second, .val (.long x2), .second, .val (.long x3), .second, .val (.long x4), .second, .val (.int x5), .val (.int b8), .val (.long un), .second, .val (.long qf), .second, .val (.long qr), .second, .val (.long rF), .second, .val (.long rR), .second, .val (.long ((un * qf) + rF)), .second, .val (.long ((un * qr) + rR)), .second, .unset, .unset, .unset] [])) t → Steps p.tables e below (s₁.setTop (entryFrame m #[(.long x0), (.long x1), (.long x2), (.long x3), (.long x4), (.int x5)] maxLocals)) t := fun tt kk => pre88 tt (by
    show Steps p.tables e below (T88.setTop (mkF m 121 #[.val (.long x0), .second, .val (.long x1), .second, .val (.long x2), .second, .val (.long x3), .second, .val (.long x4), .second, .val (.int x5), .val (.int b8), .val (.long un), .second, .val (.long qf), .second, .val (.long qr), .second, .val (.long rF), .second, .unset, .unset, .unset, .unset, .unset, .unset, .unset, .unset, .unset] [(.long rR)])) _
    refine XS.lstore X88.here hx rfl (hb hby at_121) rfl (l' := #[.val (.long x0), .second, .val (.long x1), .second, .val (.long x2), .second, .val (.long x3), .second, .val (.long x4), .second, .val (.int x5), .val (.int b8), .val (.long un), .second, .val (.long qf), .second, .val (.long qr), .second, .val (.long rF), .second, .val (.long rR), .second, .unset, .unset, .unset, .unset, .unset, .unset, .unset]) rfl ?_
    show Steps p.tables e below (T88.setTop (mkF m 123 #[.val (.long x0), .second, .val (.long x1), .second, .val (.long x2), .second, .val (.long x3), .second, .val (.long x4), .second, .val (.int x5), .val (.int b8), .val (.long un), .second, .val (.long qf), .second, .val (.long qr), .second, .val (.long rF), .second, .val (.long rR), .second, .unset, .unset, .unset, .unset, .unset, .unset, .unset] [])) _
    refine XS.lload X88.here hx rfl (hb hby at_123) rfl ?_
    show Steps p.tables e below (T88.setTop (mkF m 125 #[.val (.long x0), .second, .val (.long x1), .second, .val (.long x2), .second, .val (.long x3), .second, .val (.long x4), .second, .val (.int x5), .val (.int b8), .val (.long un), .second, .val (.long qf), .second, .val (.long qr), .second, .val (.long rF), .second, .val (.long rR), .second, .unset, .unset, .unset, .unset, .unset, .unset, .unset] [(.long un)])) _
    refine XS.lload X88.here hx rfl (hb hby at_125) rfl ?_
    show Steps p.tables e below (T88.setTop (mkF m 127 #[.val (.long x0), .second, .val (.long x1), .second, .val (.long x2), .second, .val (.long x3), .second, .val (.long x4), .second, .val (.int x5), .val (.int b8), .val (.long un), .second, .val (.long qf), .second, .val (.long qr), .second, .val (.long rF), .second, .val (.long rR), .second, .unset, .unset, .unset, .unset, .unset, .unset, .unset] [(.long qf), (.long un)])) _
    refine XS.lmul X88.here hx rfl (hb hby at_127) rfl ?_
    show Steps p.tables e below (T88.setTop (mkF m 128 #[.val (.long x0), .second, .val (.long x1), .second, .val (.long x2), .second, .val (.long x3), .second, .val (.long x4), .second, .val (.int x5), .val (.int b8), .val (.long un), .second, .val (.long qf), .second, .val (.long qr), .second, .val (.long rF), .second, .val (.long rR), .second, .unset, .unset, .unset, .unset, .unset, .unset, .unset] [(.long (un * qf))])) _
    refine XS.lload X88.here hx rfl (hb hby at_128) rfl ?_
    show Steps p.tables e below (T88.setTop (mkF m 130 #[.val (.long x0), .second, .val (.long x1), .second, .val (.long x2), .second, .val (.long x3), .second, .val (.long x4), .second, .val (.int x5), .val (.int b8), .val (.long un), .second, .val (.long qf), .second, .val (.long qr), .second, .val (.long rF), .second, .val (.long rR), .second, .unset, .unset, .unset, .unset, .unset, .unset, .unset] [(.long rF), (.long (un * qf))])) _
    refine XS.ladd X88.here hx rfl (hb hby at_130) rfl ?_
    show Steps p.tables e below (T88.setTop (mkF m 131 #[.val (.long x0), .second, .val (.long x1), .second, .val (.long x2), .second, .val (.long x3), .second, .val (.long x4), .second, .val (.int x5), .val (.int b8), .val (.long un), .second, .val (.long qf), .second, .val (.long qr), .second, .val (.long rF), .second, .val (.long rR), .second, .unset, .unset, .unset, .unset, .unset, .unset, .unset] [(.long ((un * qf) + rF))])) _
    refine XS.lstore X88.here hx rfl (hb hby at_131) rfl (l' := #[.val (.long x0), .second, .val (.long x1), .second, .val (.long x2), .second, .val (.long x3), .second, .val (.long x4), .second, .val (.int x5), .val (.int b8), .val (.long un), .second, .val (.long qf), .second, .val (.long qr), .second, .val (.long rF), .second, .val (.long rR), .second, .val (.long ((un * qf) + rF)), .second, .unset, .unset, .unset, .unset, .unset]) rfl ?_
    show Steps p.tables e below (T88.setTop (mkF m 133 #[.val (.long x0), .second, .val (.long x1), .second, .val (.long x2), .second, .val (.long x3), .second, .val (.long x4), .second, .val (.int x5), .val (.int b8), .val (.long un), .second, .val (.long qf), .second, .val (.long qr), .second, .val (.long rF), .second, .val (.long rR), .second, .val (.long ((un * qf) + rF)), .second, .unset, .unset, .unset, .unset, .unset] [])) _
    refine XS.lload X88.here hx rfl (hb hby at_133) rfl ?_
    show Steps p.tables e below (T88.setTop (mkF m 135 #[.val (.long x0), .second, .val (.long x1), .second, .val (.long x2), .second, .val (.long x3), .second, .val (.long x4), .second, .val (.int x5), .val (.int b8), .val (.long un), .second, .val (.long qf), .second, .val (.long qr), .second, .val (.long rF), .second, .val (.long rR), .second, .val (.long ((un * qf) + rF)), .second, .unset, .unset, .unset, .unset, .unset] [(.long un)])) _
    refine XS.lload X88.here hx rfl (hb hby at_135) rfl ?_
    show Steps p.tables e below (T88.setTop (mkF m 137 #[.val (.long x0), .second, .val (.long x1), .second, .val (.long x2), .second, .val (.long x3), .second, .val (.long x4), .second, .val (.int x5), .val (.int b8), .val (.long un), .second, .val (.long qf), .second, .val (.long qr), .second, .val (.long rF), .second, .val (.long rR), .second, .val (.long ((un * qf) + rF)), .second, .unset, .unset, .unset, .unset, .unset] [(.long qr), (.long un)])) _
    refine XS.lmul X88.here hx rfl (hb hby at_137) rfl ?_
    show Steps p.tables e below (T88.setTop (mkF m 138 #[.val (.long x0), .second, .val (.long x1), .second, .val (.long x2), .second, .val (.long x3), .second, .val (.long x4), .second, .val (.int x5), .val (.int b8), .val (.long un), .second, .val (.long qf), .second, .val (.long qr), .second, .val (.long rF), .second, .val (.long rR), .second, .val (.long ((un * qf) + rF)), .second, .unset, .unset, .unset, .unset, .unset] [(.long (un * qr))])) _
    refine XS.lload X88.here hx rfl (hb hby at_138) rfl ?_
    show Steps p.tables e below (T88.setTop (mkF m 140 #[.val (.long x0), .second, .val (.long x1), .second, .val (.long x2), .second, .val (.long x3), .second, .val (.long x4), .second, .val (.int x5), .val (.int b8), .val (.long un), .second, .val (.long qf), .second, .val (.long qr), .second, .val (.long rF), .second, .val (.long rR), .second, .val (.long ((un * qf) + rF)), .second, .unset, .unset, .unset, .unset, .unset] [(.long rR), (.long (un * qr))])) _
    refine XS.ladd X88.here hx rfl (hb hby at_140) rfl ?_
    show Steps p.tables e below (T88.setTop (mkF m 141 #[.val (.long x0), .second, .val (.long x1), .second, .val (.long x2), .second, .val (.long x3), .second, .val (.long x4), .second, .val (.int x5), .val (.int b8), .val (.long un), .second, .val (.long qf), .second, .val (.long qr), .second, .val (.long rF), .second, .val (.long rR), .second, .val (.long ((un * qf) + rF)), .second, .unset, .unset, .unset, .unset, .unset] [(.long ((un * qr) + rR))])) _
    refine XS.lstore X88.here hx rfl (hb hby at_141) rfl (l' := #[.val (.long x0), .second, .val (.long x1), .second, .val (.long x2), .second, .val (.long x3), .second, .val (.long x4), .second, .val (.int x5), .val (.int b8), .val (.long un), .second, .val (.long qf), .second, .val (.long qr), .second, .val (.long rF), .second, .val (.long rR), .second, .val (.long ((un * qf) + rF)), .second, .val (.long ((un * qr) + rR)), .second, .unset, .unset, .unset]) rfl ?_
    exact kk)
  obtain ⟨rp, T91, hm91_0, X91, e91, pre91⟩ : ∃ (rp : Addr) (T' : State), (rp = w 0 → ((un * qr) + rR) = (0 : Int64)) ∧ Stand p l e room_1 s m #[(.long x0), (.long x1), (.long x2), (.long x3), (.long x4), (.int x5)] below meth c T' [] 0 0 ∧ T'.heap = h0 ∧ ∀ t, Steps p.tables e below (T'.setTop (mkF m 166 #[.val (.long x0), .second, .val (.long x1), .second, .val (.long x2), .second, .val (.long x3), .second, .val (.long x4), .second, .val (.int x5), .val (.int b8), .val (.long un), .second, .val (.long qf), .second, .val (.long qr), .second, .val (.long rF), .second, .val (.long rR), .second, .val (.long ((un * qf) + rF)), .second, .val (.long ((un * qr) + rR)), .second, .unset, .unset, .unset] [(.ref rp)])) t → Steps p.tables e below (s₁.setTop (entryFrame m #[(.long x0), (.long x1), (.long x2), (.long x3), (.long x4), (.int x5)] maxLocals)) t := by
    have pre92 : ∀ t, Steps p.tables e below (T88.setTop (mkF m 147 #[.val (.long x0), .second, .val (.long x1), .second, .val (.long x2), .second, .val (.long x3), .second, .val (.long x4), .second, .val (.int x5), .val (.int b8), .val (.long un), .second, .val (.long qf), .second, .val (.long qr), .second, .val (.long rF), .second, .val (.long rR), .second, .val (.long ((un * qf) + rF)), .second, .val (.long ((un * qr) + rR)), .second, .unset, .unset, .unset] [(.int (x5 &&& (4 : Int32)))])) t → Steps p.tables e below (s₁.setTop (entryFrame m #[(.long x0), (.long x1), (.long x2), (.long x3), (.long x4), (.int x5)] maxLocals)) t := fun tt kk => pre90 tt (by
      show Steps p.tables e below (T88.setTop (mkF m 143 #[.val (.long x0), .second, .val (.long x1), .second, .val (.long x2), .second, .val (.long x3), .second, .val (.long x4), .second, .val (.int x5), .val (.int b8), .val (.long un), .second, .val (.long qf), .second, .val (.long qr), .second, .val (.long rF), .second, .val (.long rR), .second, .val (.long ((un * qf) + rF)), .second, .val (.long ((un * qr) + rR)), .second, .unset, .unset, .unset] [])) _
      refine XS.iload X88.here hx rfl (hb hby at_143) rfl ?_
      show Steps p.tables e below (T88.setTop (mkF m 145 #[.val (.long x0), .second, .val (.long x1), .second, .val (.long x2), .second, .val (.long x3), .second, .val (.long x4), .second, .val (.int x5), .val (.int b8), .val (.long un), .second, .val (.long qf), .second, .val (.long qr), .second, .val (.long rF), .second, .val (.long rR), .second, .val (.long ((un * qf) + rF)), .second, .val (.long ((un * qr) + rR)), .second, .unset, .unset, .unset] [(.int x5)])) _
      refine XS.iconst X88.here hx rfl (hb hby at_145) ?_
      show Steps p.tables e below (T88.setTop (mkF m 146 #[.val (.long x0), .second, .val (.long x1), .second, .val (.long x2), .second, .val (.long x3), .second, .val (.long x4), .second, .val (.int x5), .val (.int b8), .val (.long un), .second, .val (.long qf), .second, .val (.long qr), .second, .val (.long rF), .second, .val (.long rR), .second, .val (.long ((un * qf) + rF)), .second, .val (.long ((un * qr) + rR)), .second, .unset, .unset, .unset] [(.int (4 : Int32)), (.int x5)])) _
      refine XS.iand X88.here hx rfl (hb hby at_146) rfl ?_
      exact kk)
    by_cases hc147 : (x5 &&& (4 : Int32)) = (0 : Int32)
    · obtain ⟨T93, X93, e93, st93⟩ := getS2 X88 hx hZ hown (host := "") (Or.inl (hw _ (List.mem_of_getElem? (i := 2) rfl))) Via.refl e88 ((ST.2).ext OL.2) (g := (mkF m 163 #[.val (.long x0), .second, .val (.long x1), .second, .val (.long x2), .second, .val (.long x3), .second, .val (.long x4), .second, .val (.int x5), .val (.int b8), .val (.long un), .second, .val (.long qf), .second, .val (.long qr), .second, .val (.long rF), .second, .val (.long rR), .second, .val (.long ((un * qf) + rF)), .second, .val (.long ((un * qr) + rR)), .second, .unset, .unset, .unset] [])) rfl (hb hby at_163)
      refine ⟨(w 1), T93, (fun q => absurd q NE), X93, e93, fun tt kk => pre92 tt ?_⟩
      show Steps p.tables e below (T88.setTop (mkF m 147 #[.val (.long x0), .second, .val (.long x1), .second, .val (.long x2), .second, .val (.long x3), .second, .val (.long x4), .second, .val (.int x5), .val (.int b8), .val (.long un), .second, .val (.long qf), .second, .val (.long qr), .second, .val (.long rF), .second, .val (.long rR), .second, .val (.long ((un * qf) + rF)), .second, .val (.long ((un * qr) + rR)), .second, .unset, .unset, .unset] [(.int (x5 &&& (4 : Int32)))])) _
      refine XS.ifYes X88.here hx rfl (pc0 := 147) (pc' := 163) rfl (hb hby at_147) rfl ((if0 _ _).trans (teq hc147).1) (by decide) (by decide) ?_
      show Steps p.tables e below (T88.setTop (mkF m 163 #[.val (.long x0), .second, .val (.long x1), .second, .val (.long x2), .second, .val (.long x3), .second, .val (.long x4), .second, .val (.int x5), .val (.int b8), .val (.long un), .second, .val (.long qf), .second, .val (.long qr), .second, .val (.long rF), .second, .val (.long rR), .second, .val (.long ((un * qf) + rF)), .second, .val (.long ((un * qr) + rR)), .second, .unset, .unset, .unset] [])) _
      refine st93 _ ?_
      exact kk
    · have pre94 : ∀ t, Steps p.tables e below (T88.setTop (mkF m 154 #[.val (.long x0), .second, .val (.long x1), .second, .val (.long x2), .second, .val (.long x3), .second, .val (.long x4), .second, .val (.int x5), .val (.int b8), .val (.long un), .second, .val (.long qf), .second, .val (.long qr), .second, .val (.long rF), .second, .val (.long rR), .second, .val (.long ((un * qf) + rF)), .second, .val (.long ((un * qr) + rR)), .second, .unset, .unset, .unset] [(.int (lcmpW ((un * qr) + rR) (0 : Int64)))])) t → Steps p.tables e below (s₁.setTop (entryFrame m #[(.long x0), (.long x1), (.long x2), (.long x3), (.long x4), (.int x5)] maxLocals)) t := fun tt kk => pre92 tt (by
        show Steps p.tables e below (T88.setTop (mkF m 147 #[.val (.long x0), .second, .val (.long x1), .second, .val (.long x2), .second, .val (.long x3), .second, .val (.long x4), .second, .val (.int x5), .val (.int b8), .val (.long un), .second, .val (.long qf), .second, .val (.long qr), .second, .val (.long rF), .second, .val (.long rR), .second, .val (.long ((un * qf) + rF)), .second, .val (.long ((un * qr) + rR)), .second, .unset, .unset, .unset] [(.int (x5 &&& (4 : Int32)))])) _
        refine XS.ifNo X88.here hx rfl (hb hby at_147) rfl ((if0 _ _).trans (feq hc147).1) ?_
        show Steps p.tables e below (T88.setTop (mkF m 150 #[.val (.long x0), .second, .val (.long x1), .second, .val (.long x2), .second, .val (.long x3), .second, .val (.long x4), .second, .val (.int x5), .val (.int b8), .val (.long un), .second, .val (.long qf), .second, .val (.long qr), .second, .val (.long rF), .second, .val (.long rR), .second, .val (.long ((un * qf) + rF)), .second, .val (.long ((un * qr) + rR)), .second, .unset, .unset, .unset] [])) _
        refine XS.lload X88.here hx rfl (hb hby at_150) rfl ?_
        show Steps p.tables e below (T88.setTop (mkF m 152 #[.val (.long x0), .second, .val (.long x1), .second, .val (.long x2), .second, .val (.long x3), .second, .val (.long x4), .second, .val (.int x5), .val (.int b8), .val (.long un), .second, .val (.long qf), .second, .val (.long qr), .second, .val (.long rF), .second, .val (.long rR), .second, .val (.long ((un * qf) + rF)), .second, .val (.long ((un * qr) + rR)), .second, .unset, .unset, .unset] [(.long ((un * qr) + rR))])) _
        refine XS.lconst X88.here hx rfl (hb hby at_152) ?_
        show Steps p.tables e below (T88.setTop (mkF m 153 #[.val (.long x0), .second, .val (.long x1), .second, .val (.long x2), .second, .val (.long x3), .second, .val (.long x4), .second, .val (.int x5), .val (.int b8), .val (.long un), .second, .val (.long qf), .second, .val (.long qr), .second, .val (.long rF), .second, .val (.long rR), .second, .val (.long ((un * qf) + rF)), .second, .val (.long ((un * qr) + rR)), .second, .unset, .unset, .unset] [(.long (0 : Int64)), (.long ((un * qr) + rR))])) _
        refine XS.lcmp X88.here hx rfl (hb hby at_153) rfl ?_
        exact kk)
      by_cases hc154 : ((un * qr) + rR) = (0 : Int64)
      · obtain ⟨T95, X95, e95, st95⟩ := getS2 X88 hx hZ hown (host := "") (Or.inl (hw _ (List.mem_of_getElem? (i := 47) rfl))) Via.refl e88 ((ST.1).ext OL.2) (g := (mkF m 157 #[.val (.long x0), .second, .val (.long x1), .second, .val (.long x2), .second, .val (.long x3), .second, .val (.long x4), .second, .val (.int x5), .val (.int b8), .val (.long un), .second, .val (.long qf), .second, .val (.long qr), .second, .val (.long rF), .second, .val (.long rR), .second, .val (.long ((un * qf) + rF)), .second, .val (.long ((un * qr) + rR)), .second, .unset, .unset, .unset] [])) rfl (hb hby at_157)
        refine ⟨(w 0), T95, (fun _ => hc154), X95, e95, fun tt kk => pre94 tt ?_⟩
        show Steps p.tables e below (T88.setTop (mkF m 154 #[.val (.long x0), .second, .val (.long x1), .second, .val (.long x2), .second, .val (.long x3), .second, .val (.long x4), .second, .val (.int x5), .val (.int b8), .val (.long un), .second, .val (.long qf), .second, .val (.long qr), .second, .val (.long rF), .second, .val (.long rR), .second, .val (.long ((un * qf) + rF)), .second, .val (.long ((un * qr) + rR)), .second, .unset, .unset, .unset] [(.int (lcmpW ((un * qr) + rR) (0 : Int64)))])) _
        refine XS.ifNo X88.here hx rfl (hb hby at_154) rfl ((if0 _ _).trans (teq ((lw_eq _ _).mpr hc154)).2) ?_
        show Steps p.tables e below (T88.setTop (mkF m 157 #[.val (.long x0), .second, .val (.long x1), .second, .val (.long x2), .second, .val (.long x3), .second, .val (.long x4), .second, .val (.int x5), .val (.int b8), .val (.long un), .second, .val (.long qf), .second, .val (.long qr), .second, .val (.long rF), .second, .val (.long rR), .second, .val (.long ((un * qf) + rF)), .second, .val (.long ((un * qr) + rR)), .second, .unset, .unset, .unset] [])) _
        refine st95 _ ?_
        show Steps p.tables e below (T95.setTop (mkF m 160 #[.val (.long x0), .second, .val (.long x1), .second, .val (.long x2), .second, .val (.long x3), .second, .val (.long x4), .second, .val (.int x5), .val (.int b8), .val (.long un), .second, .val (.long qf), .second, .val (.long qr), .second, .val (.long rF), .second, .val (.long rR), .second, .val (.long ((un * qf) + rF)), .second, .val (.long ((un * qr) + rR)), .second, .unset, .unset, .unset] [(.ref (w 0))])) _
        refine XS.goto X95.here hx rfl (pc0 := 160) (pc' := 166) rfl (hb hby at_160) (by decide) (by decide) ?_
        exact kk
      · obtain ⟨T96, X96, e96, st96⟩ := getS2 X88 hx hZ hown (host := "") (Or.inl (hw _ (List.mem_of_getElem? (i := 2) rfl))) Via.refl e88 ((ST.2).ext OL.2) (g := (mkF m 163 #[.val (.long x0), .second, .val (.long x1), .second, .val (.long x2), .second, .val (.long x3), .second, .val (.long x4), .second, .val (.int x5), .val (.int b8), .val (.long un), .second, .val (.long qf), .second, .val (.long qr), .second, .val (.long rF), .second, .val (.long rR), .second, .val (.long ((un * qf) + rF)), .second, .val (.long ((un * qr) + rR)), .second, .unset, .unset, .unset] [])) rfl (hb hby at_163)
        refine ⟨(w 1), T96, (fun q => absurd q NE), X96, e96, fun tt kk => pre94 tt ?_⟩
        show Steps p.tables e below (T88.setTop (mkF m 154 #[.val (.long x0), .second, .val (.long x1), .second, .val (.long x2), .second, .val (.long x3), .second, .val (.long x4), .second, .val (.int x5), .val (.int b8), .val (.long un), .second, .val (.long qf), .second, .val (.long qr), .second, .val (.long rF), .second, .val (.long rR), .second, .val (.long ((un * qf) + rF)), .second, .val (.long ((un * qr) + rR)), .second, .unset, .unset, .unset] [(.int (lcmpW ((un * qr) + rR) (0 : Int64)))])) _
        refine XS.ifYes X88.here hx rfl (pc0 := 154) (pc' := 163) rfl (hb hby at_154) rfl ((if0 _ _).trans (feq (mt (lw_eq _ _).mp hc154)).2) (by decide) (by decide) ?_
        show Steps p.tables e below (T88.setTop (mkF m 163 #[.val (.long x0), .second, .val (.long x1), .second, .val (.long x2), .second, .val (.long x3), .second, .val (.long x4), .second, .val (.int x5), .val (.int b8), .val (.long un), .second, .val (.long qf), .second, .val (.long qr), .second, .val (.long rF), .second, .val (.long rR), .second, .val (.long ((un * qf) + rF)), .second, .val (.long ((un * qr) + rR)), .second, .unset, .unset, .unset] [])) _
        refine st96 _ ?_
        exact kk
  obtain ⟨T97, h97, X97, e97, E97, A97, D97, -, st97⟩ := newO X91 hx hZ hown (hw _ (List.mem_of_getElem? (i := 5) rfl)) (hw _ (List.mem_of_getElem? (i := 6) rfl)) (hw _ (List.mem_of_getElem? (i := 7) rfl)) e91 (g := (mkF m 168 #[.val (.long x0), .second, .val (.long x1), .second, .val (.long x2), .second, .val (.long x3), .second, .val (.long x4), .second, .val (.int x5), .val (.int b8), .val (.long un), .second, .val (.long qf), .second, .val (.long qr), .second, .val (.long rF), .second, .val (.long rR), .second, .val (.long ((un * qf) + rF)), .second, .val (.long ((un * qr) + rR)), .second, .val (.ref rp), .unset, .unset] [])) rfl (hb hby at_168) (by decide) (by decide)
  obtain ⟨b97, g97⟩ : ∃ z, z = h0.size := ⟨_, rfl⟩
  rw [← g97] at A97 D97 st97
  have ge_b97 : n0 ≤ b97 := Nat.le_trans Z0 (Nat.le_of_eq g97.symm)
  have f98 : n0 ≤ h97.size := Nat.le_trans Z0 E97.1
  have f99 : Old Z n0 h97 := OL.ext E97
  have F97_34 : Fld Z h97 b97 "com/example/slidebook/slidebook/engine/Reserve" "maxFloor" "J" (.long (0 : Int64)) := D97 (Or.inr (hw _ (List.mem_of_getElem? (i := 34) rfl))) (ty := .long) (by decide)
  have F97_36 : Fld Z h97 b97 "com/example/slidebook/slidebook/engine/Reserve" "replenish" "Lcom/example/slidebook/slidebook/engine/Replenish;" .null := D97 (Or.inr (hw _ (List.mem_of_getElem? (i := 36) rfl))) (ty := (.object "com/example/slidebook/slidebook/engine/Replenish")) (by decide)
  have F97_38 : Fld Z h97 b97 "com/example/slidebook/slidebook/engine/Reserve" "range" "J" (.long (0 : Int64)) := D97 (Or.inr (hw _ (List.mem_of_getElem? (i := 38) rfl))) (ty := .long) (by decide)
  have pre100 : ∀ t, Steps p.tables e below (T97.setTop (mkF m 178 #[.val (.long x0), .second, .val (.long x1), .second, .val (.long x2), .second, .val (.long x3), .second, .val (.long x4), .second, .val (.int x5), .val (.int b8), .val (.long un), .second, .val (.long qf), .second, .val (.long qr), .second, .val (.long rF), .second, .val (.long rR), .second, .val (.long ((un * qf) + rF)), .second, .val (.long ((un * qr) + rR)), .second, .val (.ref rp), .unset, .unset] [(.long ((un * qr) + rR)), (.ref rp), (.long ((un * qf) + rF)), (.ref b97), (.ref b97)])) t → Steps p.tables e below (s₁.setTop (entryFrame m #[(.long x0), (.long x1), (.long x2), (.long x3), (.long x4), (.int x5)] maxLocals)) t := fun tt kk => pre91 tt (by
    show Steps p.tables e below (T91.setTop (mkF m 166 #[.val (.long x0), .second, .val (.long x1), .second, .val (.long x2), .second, .val (.long x3), .second, .val (.long x4), .second, .val (.int x5), .val (.int b8), .val (.long un), .second, .val (.long qf), .second, .val (.long qr), .second, .val (.long rF), .second, .val (.long rR), .second, .val (.long ((un * qf) + rF)), .second, .val (.long ((un * qr) + rR)), .second, .unset, .unset, .unset] [(.ref rp)])) _
    refine XS.astore X91.here hx rfl (hb hby at_166) rfl rfl (l' := #[.val (.long x0), .second, .val (.long x1), .second, .val (.long x2), .second, .val (.long x3), .second, .val (.long x4), .second, .val (.int x5), .val (.int b8), .val (.long un), .second, .val (.long qf), .second, .val (.long qr), .second, .val (.long rF), .second, .val (.long rR), .second, .val (.long ((un * qf) + rF)), .second, .val (.long ((un * qr) + rR)), .second, .val (.ref rp), .unset, .unset]) rfl ?_
    show Steps p.tables e below (T91.setTop (mkF m 168 #[.val (.long x0), .second, .val (.long x1), .second, .val (.long x2), .second, .val (.long x3), .second, .val (.long x4), .second, .val (.int x5), .val (.int b8), .val (.long un), .second, .val (.long qf), .second, .val (.long qr), .second, .val (.long rF), .second, .val (.long rR), .second, .val (.long ((un * qf) + rF)), .second, .val (.long ((un * qr) + rR)), .second, .val (.ref rp), .unset, .unset] [])) _
    refine st97 _ ?_
    show Steps p.tables e below (T97.setTop (mkF m 171 #[.val (.long x0), .second, .val (.long x1), .second, .val (.long x2), .second, .val (.long x3), .second, .val (.long x4), .second, .val (.int x5), .val (.int b8), .val (.long un), .second, .val (.long qf), .second, .val (.long qr), .second, .val (.long rF), .second, .val (.long rR), .second, .val (.long ((un * qf) + rF)), .second, .val (.long ((un * qr) + rR)), .second, .val (.ref rp), .unset, .unset] [(.ref b97)])) _
    refine XS.dup X97.here hx rfl (hb hby at_171) rfl rfl ?_
    show Steps p.tables e below (T97.setTop (mkF m 172 #[.val (.long x0), .second, .val (.long x1), .second, .val (.long x2), .second, .val (.long x3), .second, .val (.long x4), .second, .val (.int x5), .val (.int b8), .val (.long un), .second, .val (.long qf), .second, .val (.long qr), .second, .val (.long rF), .second, .val (.long rR), .second, .val (.long ((un * qf) + rF)), .second, .val (.long ((un * qr) + rR)), .second, .val (.ref rp), .unset, .unset] [(.ref b97), (.ref b97)])) _
    refine XS.lload X97.here hx rfl (hb hby at_172) rfl ?_
    show Steps p.tables e below (T97.setTop (mkF m 174 #[.val (.long x0), .second, .val (.long x1), .second, .val (.long x2), .second, .val (.long x3), .second, .val (.long x4), .second, .val (.int x5), .val (.int b8), .val (.long un), .second, .val (.long qf), .second, .val (.long qr), .second, .val (.long rF), .second, .val (.long rR), .second, .val (.long ((un * qf) + rF)), .second, .val (.long ((un * qr) + rR)), .second, .val (.ref rp), .unset, .unset] [(.long ((un * qf) + rF)), (.ref b97), (.ref b97)])) _
    refine XS.aload X97.here hx rfl (hb hby at_174) rfl rfl ?_
    show Steps p.tables e below (T97.setTop (mkF m 176 #[.val (.long x0), .second, .val (.long x1), .second, .val (.long x2), .second, .val (.long x3), .second, .val (.long x4), .second, .val (.int x5), .val (.int b8), .val (.long un), .second, .val (.long qf), .second, .val (.long qr), .second, .val (.long rF), .second, .val (.long rR), .second, .val (.long ((un * qf) + rF)), .second, .val (.long ((un * qr) + rR)), .second, .val (.ref rp), .unset, .unset] [(.ref rp), (.long ((un * qf) + rF)), (.ref b97), (.ref b97)])) _
    refine XS.lload X97.here hx rfl (hb hby at_176) rfl ?_
    exact kk)
  obtain ⟨vv101, _, ⟨T101, L101, k101, n101⟩, -, X101, hS101, hgr101, ⟨Lc101, hQ101, l101, y101, z101⟩, st101⟩ := X97.specialBackS hx (y := (⟨"com/example/slidebook/slidebook/engine/Reserve", "<init>", "(JLcom/example/slidebook/slidebook/engine/Replenish;J)V"⟩ : MethodName)) rfl hown (mvT hZ (hw _ (List.mem_of_getElem? (i := 8) rfl))) (mvT hZ (hw _ (List.mem_of_getElem? (i := 9) rfl))) (mvT hZ (hw _ (List.mem_of_getElem? (i := 10) rfl))) (by decide) (backOfS (W := 1) (rm_ct l Z a0 hw [] b97 ((un * qf) + rF) rp ((un * qr) + rR) (w 0) h97 n0 f98 A97 F97_34 F97_36 F97_38 ge_b97 (ST.1.ext f99.2) hm91_0) hZ (hw _ (List.mem_of_getElem? (i := 10) rfl)) (hw _ (List.mem_of_getElem? (i := 7) rfl)) (by decide) (by decide)) (g := (mkF m 178 #[.val (.long x0), .second, .val (.long x1), .second, .val (.long x2), .second, .val (.long x3), .second, .val (.long x4), .second, .val (.int x5), .val (.int b8), .val (.long un), .second, .val (.long qf), .second, .val (.long qr), .second, .val (.long rF), .second, .val (.long rR), .second, .val (.long ((un * qf) + rF)), .second, .val (.long ((un * qr) + rR)), .second, .val (.ref rp), .unset, .unset] [(.long ((un * qr) + rR)), (.ref rp), (.long ((un * qf) + rF)), (.ref b97), (.ref b97)])) rfl (by rw [hml]; rfl) (Steps.refl _) (a := b97) (argsL := [(.long ((un * qf) + rF)), (.ref rp), (.long ((un * qr) + rR))]) (rest := [(.ref b97)]) (lenOf own_pd_2 rfl) rfl (by show 2 * 0 + _ ≤ _; exact Nat.le_of_eq rfl) (hb hby at_178) (fun _ _ => ⟨rfl, e97, (by decide : 1 + 2 ≤ _), (by decide : 3 + 100 ≤ _)⟩)
  dsimp only [Pt.U, Pt.locs, Pt.cells, Pt.slots] at X101 l101 y101 z101 st101 hQ101
  subst l101 y101 z101
  dsimp only [Pt.U] at hS101 hgr101
  have hZ : Z.Warmed39 (s.setVm T101.vm).vm := State.Warmed39.trans hZ hS101.1
  have hown : (s.setVm T101.vm).vm.findClass "com/example/slidebook/slidebook/engine/ReserveIsValidForPinLaw" = some m.cls := (hS101.1.alike.findClass _ _).trans hown
  obtain ⟨rfl, N101q, K101, Eq101, Fm101, Fr101⟩ := hQ101
  have N101 := Fr.app N0 N101q
  have f102 : n0 ≤ T101.heap.size := Nat.le_trans f98 K101.1
  have f103 : Old Z n0 T101.heap := f99.keep K101 (allS ge_b97 all0)
  have f104 : Exa Z T101.heap b97 "com/example/slidebook/slidebook/engine/Reserve" := A97.keep K101
  have pre105 : ∀ t, Steps p.tables e below (T101.setTop (mkF m 187 #[.val (.long x0), .second, .val (.long x1), .second, .val (.long x2), .second, .val (.long x3), .second, .val (.long x4), .second, .val (.int x5), .val (.int b8), .val (.long un), .second, .val (.long qf), .second, .val (.long qr), .second, .val (.long rF), .second, .val (.long rR), .second, .val (.long ((un * qf) + rF)), .second, .val (.long ((un * qr) + rR)), .second, .val (.ref rp), .val (.ref b97), .unset] [(.int (lcmpW rF (0 : Int64)))])) t → Steps p.tables e below (s₁.setTop (entryFrame m #[(.long x0), (.long x1), (.long x2), (.long x3), (.long x4), (.int x5)] maxLocals)) t := fun tt kk => pre100 tt (by
    show Steps p.tables e below (T97.setTop (mkF m 178 #[.val (.long x0), .second, .val (.long x1), .second, .val (.long x2), .second, .val (.long x3), .second, .val (.long x4), .second, .val (.int x5), .val (.int b8), .val (.long un), .second, .val (.long qf), .second, .val (.long qr), .second, .val (.long rF), .second, .val (.long rR), .second, .val (.long ((un * qf) + rF)), .second, .val (.long ((un * qr) + rR)), .second, .val (.ref rp), .unset, .unset] [(.long ((un * qr) + rR)), (.ref rp), (.long ((un * qf) + rF)), (.ref b97), (.ref b97)])) _
    refine st101.trans ?_
    show Steps p.tables e below (T101.setTop (mkF m 181 #[.val (.long x0), .second, .val (.long x1), .second, .val (.long x2), .second, .val (.long x3), .second, .val (.long x4), .second, .val (.int x5), .val (.int b8), .val (.long un), .second, .val (.long qf), .second, .val (.long qr), .second, .val (.long rF), .second, .val (.long rR), .second, .val (.long ((un * qf) + rF)), .second, .val (.long ((un * qr) + rR)), .second, .val (.ref rp), .unset, .unset] [(.ref b97)])) _
    refine XS.astore X101.here hx rfl (hb hby at_181) rfl rfl (l' := #[.val (.long x0), .second, .val (.long x1), .second, .val (.long x2), .second, .val (.long x3), .second, .val (.long x4), .second, .val (.int x5), .val (.int b8), .val (.long un), .second, .val (.long qf), .second, .val (.long qr), .second, .val (.long rF), .second, .val (.long rR), .second, .val (.long ((un * qf) + rF)), .second, .val (.long ((un * qr) + rR)), .second, .val (.ref rp), .val (.ref b97), .unset]) rfl ?_
    show Steps p.tables e below (T101.setTop (mkF m 183 #[.val (.long x0), .second, .val (.long x1), .second, .val (.long x2), .second, .val (.long x3), .second, .val (.long x4), .second, .val (.int x5), .val (.int b8), .val (.long un), .second, .val (.long qf), .second, .val (.long qr), .second, .val (.long rF), .second, .val (.long rR), .second, .val (.long ((un * qf) + rF)), .second, .val (.long ((un * qr) + rR)), .second, .val (.ref rp), .val (.ref b97), .unset] [])) _
    refine XS.lload X101.here hx rfl (hb hby at_183) rfl ?_
    show Steps p.tables e below (T101.setTop (mkF m 185 #[.val (.long x0), .second, .val (.long x1), .second, .val (.long x2), .second, .val (.long x3), .second, .val (.long x4), .second, .val (.int x5), .val (.int b8), .val (.long un), .second, .val (.long qf), .second, .val (.long qr), .second, .val (.long rF), .second, .val (.long rR), .second, .val (.long ((un * qf) + rF)), .second, .val (.long ((un * qr) + rR)), .second, .val (.ref rp), .val (.ref b97), .unset] [(.long rF)])) _
    refine XS.lconst X101.here hx rfl (hb hby at_185) ?_
    show Steps p.tables e below (T101.setTop (mkF m 186 #[.val (.long x0), .second, .val (.long x1), .second, .val (.long x2), .second, .val (.long x3), .second, .val (.long x4), .second, .val (.int x5), .val (.int b8), .val (.long un), .second, .val (.long qf), .second, .val (.long qr), .second, .val (.long rF), .second, .val (.long rR), .second, .val (.long ((un * qf) + rF)), .second, .val (.long ((un * qr) + rR)), .second, .val (.ref rp), .val (.ref b97), .unset] [(.long (0 : Int64)), (.long rF)])) _
    refine XS.lcmp X101.here hx rfl (hb hby at_186) rfl ?_
    exact kk)
  by_cases hc187 : rF = (0 : Int64)
  · have pre106 : ∀ t, Steps p.tables e below (T101.setTop (mkF m 194 #[.val (.long x0), .second, .val (.long x1), .second, .val (.long x2), .second, .val (.long x3), .second, .val (.long x4), .second, .val (.int x5), .val (.int b8), .val (.long un), .second, .val (.long qf), .second, .val (.long qr), .second, .val (.long rF), .second, .val (.long rR), .second, .val (.long ((un * qf) + rF)), .second, .val (.long ((un * qr) + rR)), .second, .val (.ref rp), .val (.ref b97), .unset] [(.int (lcmpW rR (0 : Int64)))])) t → Steps p.tables e below (s₁.setTop (entryFrame m #[(.long x0), (.long x1), (.long x2), (.long x3), (.long x4), (.int x5)] maxLocals)) t := fun tt kk => pre105 tt (by
      show Steps p.tables e below (T101.setTop (mkF m 187 #[.val (.long x0), .second, .val (.long x1), .second, .val (.long x2), .second, .val (.long x3), .second, .val (.long x4), .second, .val (.int x5), .val (.int b8), .val (.long un), .second, .val (.long qf), .second, .val (.long qr), .second, .val (.long rF), .second, .val (.long rR), .second, .val (.long ((un * qf) + rF)), .second, .val (.long ((un * qr) + rR)), .second, .val (.ref rp), .val (.ref b97), .unset] [(.int (lcmpW rF (0 : Int64)))])) _
      refine XS.ifNo X101.here hx rfl (hb hby at_187) rfl ((if0 _ _).trans (teq ((lw_eq _ _).mpr hc187)).2) ?_
      show Steps p.tables e below (T101.setTop (mkF m 190 #[.val (.long x0), .second, .val (.long x1), .second, .val (.long x2), .second, .val (.long x3), .second, .val (.long x4), .second, .val (.int x5), .val (.int b8), .val (.long un), .second, .val (.long qf), .second, .val (.long qr), .second, .val (.long rF), .second, .val (.long rR), .second, .val (.long ((un * qf) + rF)), .second, .val (.long ((un * qr) + rR)), .second, .val (.ref rp), .val (.ref b97), .unset] [])) _
      refine XS.lload X101.here hx rfl (hb hby at_190) rfl ?_
      show Steps p.tables e below (T101.setTop (mkF m 192 #[.val (.long x0), .second, .val (.long x1), .second, .val (.long x2), .second, .val (.long x3), .second, .val (.long x4), .second, .val (.int x5), .val (.int b8), .val (.long un), .second, .val (.long qf), .second, .val (.long qr), .second, .val (.long rF), .second, .val (.long rR), .second, .val (.long ((un * qf) + rF)), .second, .val (.long ((un * qr) + rR)), .second, .val (.ref rp), .val (.ref b97), .unset] [(.long rR)])) _
      refine XS.lconst X101.here hx rfl (hb hby at_192) ?_
      show Steps p.tables e below (T101.setTop (mkF m 193 #[.val (.long x0), .second, .val (.long x1), .second, .val (.long x2), .second, .val (.long x3), .second, .val (.long x4), .second, .val (.int x5), .val (.int b8), .val (.long un), .second, .val (.long qf), .second, .val (.long qr), .second, .val (.long rF), .second, .val (.long rR), .second, .val (.long ((un * qf) + rF)), .second, .val (.long ((un * qr) + rR)), .second, .val (.ref rp), .val (.ref b97), .unset] [(.long (0 : Int64)), (.long rR)])) _
      refine XS.lcmp X101.here hx rfl (hb hby at_193) rfl ?_
      exact kk)
    by_cases hc194 : rR = (0 : Int64)
    · have pre107 : ∀ t, Steps p.tables e below (T101.setTop (mkF m 201 #[.val (.long x0), .second, .val (.long x1), .second, .val (.long x2), .second, .val (.long x3), .second, .val (.long x4), .second, .val (.int x5), .val (.int b8), .val (.long un), .second, .val (.long qf), .second, .val (.long qr), .second, .val (.long rF), .second, .val (.long rR), .second, .val (.long ((un * qf) + rF)), .second, .val (.long ((un * qr) + rR)), .second, .val (.ref rp), .val (.ref b97), .unset] [(.int (lcmpW qr (0 : Int64)))])) t → Steps p.tables e below (s₁.setTop (entryFrame m #[(.long x0), (.long x1), (.long x2), (.long x3), (.long x4), (.int x5)] maxLocals)) t := fun tt kk => pre106 tt (by
        show Steps p.tables e below (T101.setTop (mkF m 194 #[.val (.long x0), .second, .val (.long x1), .second, .val (.long x2), .second, .val (.long x3), .second, .val (.long x4), .second, .val (.int x5), .val (.int b8), .val (.long un), .second, .val (.long qf), .second, .val (.long qr), .second, .val (.long rF), .second, .val (.long rR), .second, .val (.long ((un * qf) + rF)), .second, .val (.long ((un * qr) + rR)), .second, .val (.ref rp), .val (.ref b97), .unset] [(.int (lcmpW rR (0 : Int64)))])) _
        refine XS.ifNo X101.here hx rfl (hb hby at_194) rfl ((if0 _ _).trans (teq ((lw_eq _ _).mpr hc194)).2) ?_
        show Steps p.tables e below (T101.setTop (mkF m 197 #[.val (.long x0), .second, .val (.long x1), .second, .val (.long x2), .second, .val (.long x3), .second, .val (.long x4), .second, .val (.int x5), .val (.int b8), .val (.long un), .second, .val (.long qf), .second, .val (.long qr), .second, .val (.long rF), .second, .val (.long rR), .second, .val (.long ((un * qf) + rF)), .second, .val (.long ((un * qr) + rR)), .second, .val (.ref rp), .val (.ref b97), .unset] [])) _
        refine XS.lload X101.here hx rfl (hb hby at_197) rfl ?_
        show Steps p.tables e below (T101.setTop (mkF m 199 #[.val (.long x0), .second, .val (.long x1), .second, .val (.long x2), .second, .val (.long x3), .second, .val (.long x4), .second, .val (.int x5), .val (.int b8), .val (.long un), .second, .val (.long qf), .second, .val (.long qr), .second, .val (.long rF), .second, .val (.long rR), .second, .val (.long ((un * qf) + rF)), .second, .val (.long ((un * qr) + rR)), .second, .val (.ref rp), .val (.ref b97), .unset] [(.long qr)])) _
        refine XS.lconst X101.here hx rfl (hb hby at_199) ?_
        show Steps p.tables e below (T101.setTop (mkF m 200 #[.val (.long x0), .second, .val (.long x1), .second, .val (.long x2), .second, .val (.long x3), .second, .val (.long x4), .second, .val (.int x5), .val (.int b8), .val (.long un), .second, .val (.long qf), .second, .val (.long qr), .second, .val (.long rF), .second, .val (.long rR), .second, .val (.long ((un * qf) + rF)), .second, .val (.long ((un * qr) + rR)), .second, .val (.ref rp), .val (.ref b97), .unset] [(.long (0 : Int64)), (.long qr)])) _
        refine XS.lcmp X101.here hx rfl (hb hby at_200) rfl ?_
        exact kk)
      by_cases hc201 : qr < (0 : Int64)
      · have ov108 : own_iv un ((un * qf) + rF) ((un * qr) + rR) = 0 := (own_iv01 _ _ _).resolve_right fun q => ((own_valid hm81_0 hm81_1 hm85_0 hm88_0).mp q).2.2.1 hc201
        obtain ⟨cq109, kq109, q109a, q109b, q109c⟩ := isOf hZ (rfl : T101.heap = T101.heap) f104
        obtain ⟨vv109, _, ⟨T109, L109, k109, n109⟩, -, X109, ⟨Lc109, hQ109, l109, y109, z109⟩, st109⟩ := X101.virtualBack hx (y := (⟨"com/example/slidebook/slidebook/engine/Reserve", "isValidFor", "(J)Z"⟩ : MethodName)) (z := (⟨"com/example/slidebook/slidebook/engine/Reserve", "isValidFor", "(J)Z"⟩ : MethodName)) hown (mvT hZ (hw _ (List.mem_of_getElem? (i := 39) rfl))) (mvT hZ (hw _ (List.mem_of_getElem? (i := 40) rfl))) (notFace_of_selects (args := #[]) (mvT hZ (hw _ (List.mem_of_getElem? (i := 42) rfl)))) (mvT hZ (hw _ (List.mem_of_getElem? (i := 42) rfl))) (mvT hZ (hw _ (List.mem_of_getElem? (i := 41) rfl))) (by decide) (backOf (W := 0) (rm_iv l Z a0 hw [] b97 un ((un * qf) + rF) ((un * qr) + rR) T101.heap n0 f102 Fm101 Fr101 (own_ne0 hm81_0)) hZ (hw _ (List.mem_of_getElem? (i := 43) rfl)) (hw _ (List.mem_of_getElem? (i := 7) rfl)) (by decide) (by decide)) q109a q109c (g := (mkF m 235 #[.val (.long x0), .second, .val (.long x1), .second, .val (.long x2), .second, .val (.long x3), .second, .val (.long x4), .second, .val (.int x5), .val (.int b8), .val (.long un), .second, .val (.long qf), .second, .val (.long qr), .second, .val (.long rF), .second, .val (.long rR), .second, .val (.long ((un * qf) + rF)), .second, .val (.long ((un * qr) + rR)), .second, .val (.ref rp), .val (.ref b97), .val (.int (0 : Int32))] [(.long un), (.ref b97)])) rfl (by rw [hml]; rfl) (Steps.refl _) (argsL := [(.long un)]) (rest := []) (lenOf own_pd_3 rfl) rfl (by show 2 * 0 + _ ≤ _; exact Nat.le_of_eq rfl) (hb hby at_235) (fun _ _ => ⟨rfl, (rfl : T101.heap = T101.heap), (by decide : 3 + 0 ≤ _), (by decide : 103 + 0 ≤ _)⟩)
        dsimp only [Pt.U, Pt.locs, Pt.cells, Pt.slots] at X109 l109 y109 z109 st109 hQ109
        subst l109 y109 z109
        rw [ov108] at hQ109
        obtain ⟨rfl, N109q, e109⟩ := hQ109
        have N109 := Fr.app N101 N109q
        have pre110 : ∀ t, Steps p.tables e below (T109.setTop (mkF m 240 #[.val (.long x0), .second, .val (.long x1), .second, .val (.long x2), .second, .val (.long x3), .second, .val (.long x4), .second, .val (.int x5), .val (.int b8), .val (.long un), .second, .val (.long qf), .second, .val (.long qr), .second, .val (.long rF), .second, .val (.long rR), .second, .val (.long ((un * qf) + rF)), .second, .val (.long ((un * qr) + rR)), .second, .val (.ref rp), .val (.ref b97), .val (.int (0 : Int32))] [(.int (0 : Int32)), (.int (0 : Int32))])) t → Steps p.tables e below (s₁.setTop (entryFrame m #[(.long x0), (.long x1), (.long x2), (.long x3), (.long x4), (.int x5)] maxLocals)) t := fun tt kk => pre107 tt (by
          show Steps p.tables e below (T101.setTop (mkF m 201 #[.val (.long x0), .second, .val (.long x1), .second, .val (.long x2), .second, .val (.long x3), .second, .val (.long x4), .second, .val (.int x5), .val (.int b8), .val (.long un), .second, .val (.long qf), .second, .val (.long qr), .second, .val (.long rF), .second, .val (.long rR), .second, .val (.long ((un * qf) + rF)), .second, .val (.long ((un * qr) + rR)), .second, .val (.ref rp), .val (.ref b97), .unset] [(.int (lcmpW qr (0 : Int64)))])) _
          refine XS.ifYes X101.here hx rfl (pc0 := 201) (pc' := 228) rfl (hb hby at_201) rfl ((if0 _ _).trans (tlt ((lw_lt _ _).mpr hc201)).1) (by decide) (by decide) ?_
          show Steps p.tables e below (T101.setTop (mkF m 228 #[.val (.long x0), .second, .val (.long x1), .second, .val (.long x2), .second, .val (.long x3), .second, .val (.long x4), .second, .val (.int x5), .val (.int b8), .val (.long un), .second, .val (.long qf), .second, .val (.long qr), .second, .val (.long rF), .second, .val (.long rR), .second, .val (.long ((un * qf) + rF)), .second, .val (.long ((un * qr) + rR)), .second, .val (.ref rp), .val (.ref b97), .unset] [])) _
          refine XS.iconst X101.here hx rfl (hb hby at_228) ?_
          show Steps p.tables e below (T101.setTop (mkF m 229 #[.val (.long x0), .second, .val (.long x1), .second, .val (.long x2), .second, .val (.long x3), .second, .val (.long x4), .second, .val (.int x5), .val (.int b8), .val (.long un), .second, .val (.long qf), .second, .val (.long qr), .second, .val (.long rF), .second, .val (.long rR), .second, .val (.long ((un * qf) + rF)), .second, .val (.long ((un * qr) + rR)), .second, .val (.ref rp), .val (.ref b97), .unset] [(.int (0 : Int32))])) _
          refine XS.istore X101.here hx rfl (hb hby at_229) rfl (l' := #[.val (.long x0), .second, .val (.long x1), .second, .val (.long x2), .second, .val (.long x3), .second, .val (.long x4), .second, .val (.int x5), .val (.int b8), .val (.long un), .second, .val (.long qf), .second, .val (.long qr), .second, .val (.long rF), .second, .val (.long rR), .second, .val (.long ((un * qf) + rF)), .second, .val (.long ((un * qr) + rR)), .second, .val (.ref rp), .val (.ref b97), .val (.int (0 : Int32))]) rfl ?_
          show Steps p.tables e below (T101.setTop (mkF m 231 #[.val (.long x0), .second, .val (.long x1), .second, .val (.long x2), .second, .val (.long x3), .second, .val (.long x4), .second, .val (.int x5), .val (.int b8), .val (.long un), .second, .val (.long qf), .second, .val (.long qr), .second, .val (.long rF), .second, .val (.long rR), .second, .val (.long ((un * qf) + rF)), .second, .val (.long ((un * qr) + rR)), .second, .val (.ref rp), .val (.ref b97), .val (.int (0 : Int32))] [])) _
          refine XS.aload X101.here hx rfl (hb hby at_231) rfl rfl ?_
          show Steps p.tables e below (T101.setTop (mkF m 233 #[.val (.long x0), .second, .val (.long x1), .second, .val (.long x2), .second, .val (.long x3), .second, .val (.long x4), .second, .val (.int x5), .val (.int b8), .val (.long un), .second, .val (.long qf), .second, .val (.long qr), .second, .val (.long rF), .second, .val (.long rR), .second, .val (.long ((un * qf) + rF)), .second, .val (.long ((un * qr) + rR)), .second, .val (.ref rp), .val (.ref b97), .val (.int (0 : Int32))] [(.ref b97)])) _
          refine XS.lload X101.here hx rfl (hb hby at_233) rfl ?_
          show Steps p.tables e below (T101.setTop (mkF m 235 #[.val (.long x0), .second, .val (.long x1), .second, .val (.long x2), .second, .val (.long x3), .second, .val (.long x4), .second, .val (.int x5), .val (.int b8), .val (.long un), .second, .val (.long qf), .second, .val (.long qr), .second, .val (.long rF), .second, .val (.long rR), .second, .val (.long ((un * qf) + rF)), .second, .val (.long ((un * qr) + rR)), .second, .val (.ref rp), .val (.ref b97), .val (.int (0 : Int32))] [(.long un), (.ref b97)])) _
          refine st109.trans ?_
          show Steps p.tables e below (T109.setTop (mkF m 238 #[.val (.long x0), .second, .val (.long x1), .second, .val (.long x2), .second, .val (.long x3), .second, .val (.long x4), .second, .val (.int x5), .val (.int b8), .val (.long un), .second, .val (.long qf), .second, .val (.long qr), .second, .val (.long rF), .second, .val (.long rR), .second, .val (.long ((un * qf) + rF)), .second, .val (.long ((un * qr) + rR)), .second, .val (.ref rp), .val (.ref b97), .val (.int (0 : Int32))] [(.int (0 : Int32))])) _
          refine XS.iload X109.here hx rfl (hb hby at_238) rfl ?_
          exact kk)
        obtain ⟨fs, hr, hrun, hended, hRW⟩ := X109.leaveW hS101 (by rw [e109]; exact (Nat.le_refl T101.heap.size)) (v := some (.int (1 : Int32))) (fun h => by rw [Bd.returns] at h; cases h)
        refine ⟨_, _, pre110 _ ?_, hrun, hended, _, _, rfl, ?_, ⟨_, rfl⟩, hRW.2.1, hRW.2.2.1, hRW.2.2.2.mono (by decide) (by decide)⟩
        · show Steps p.tables e below (T109.setTop (mkF m 240 #[.val (.long x0), .second, .val (.long x1), .second, .val (.long x2), .second, .val (.long x3), .second, .val (.long x4), .second, .val (.int x5), .val (.int b8), .val (.long un), .second, .val (.long qf), .second, .val (.long qr), .second, .val (.long rF), .second, .val (.long rR), .second, .val (.long ((un * qf) + rF)), .second, .val (.long ((un * qr) + rR)), .second, .val (.ref rp), .val (.ref b97), .val (.int (0 : Int32))] [(.int (0 : Int32)), (.int (0 : Int32))])) _
          refine XS.icmpNo X109.here hx rfl (hb hby at_240) rfl (teq (by decide : (0 : Int32) = (0 : Int32))).2 ?_
          show Steps p.tables e below (T109.setTop (mkF m 243 #[.val (.long x0), .second, .val (.long x1), .second, .val (.long x2), .second, .val (.long x3), .second, .val (.long x4), .second, .val (.int x5), .val (.int b8), .val (.long un), .second, .val (.long qf), .second, .val (.long qr), .second, .val (.long rF), .second, .val (.long rR), .second, .val (.long ((un * qf) + rF)), .second, .val (.long ((un * qr) + rR)), .second, .val (.ref rp), .val (.ref b97), .val (.int (0 : Int32))] [])) _
          refine XS.iconst X109.here hx rfl (hb hby at_243) ?_
          show Steps p.tables e below (T109.setTop (mkF m 244 #[.val (.long x0), .second, .val (.long x1), .second, .val (.long x2), .second, .val (.long x3), .second, .val (.long x4), .second, .val (.int x5), .val (.int b8), .val (.long un), .second, .val (.long qf), .second, .val (.long qr), .second, .val (.long rF), .second, .val (.long rR), .second, .val (.long ((un * qf) + rF)), .second, .val (.long ((un * qr) + rR)), .second, .val (.ref rp), .val (.ref b97), .val (.int (0 : Int32))] [(.int (1 : Int32))])) _
          refine XS.goto X109.here hx rfl (pc0 := 244) (pc' := 248) rfl (hb hby at_244) (by decide) (by decide) ?_
          show Steps p.tables e below (T109.setTop (mkF m 248 #[.val (.long x0), .second, .val (.long x1), .second, .val (.long x2), .second, .val (.long x3), .second, .val (.long x4), .second, .val (.int x5), .val (.int b8), .val (.long un), .second, .val (.long qf), .second, .val (.long qr), .second, .val (.long rF), .second, .val (.long rR), .second, .val (.long ((un * qf) + rF)), .second, .val (.long ((un * qr) + rR)), .second, .val (.ref rp), .val (.ref b97), .val (.int (0 : Int32))] [(.int (1 : Int32))])) _
          exact retN X109 hx (t := .boolean) Bd.returns (by simp) (hb hby at_248) hr
        · exact ⟨rfl, N109⟩
      · have pre111 : ∀ t, Steps p.tables e below (T101.setTop (mkF m 209 #[.val (.long x0), .second, .val (.long x1), .second, .val (.long x2), .second, .val (.long x3), .second, .val (.long x4), .second, .val (.int x5), .val (.int b8), .val (.long un), .second, .val (.long qf), .second, .val (.long qr), .second, .val (.long rF), .second, .val (.long rR), .second, .val (.long ((un * qf) + rF)), .second, .val (.long ((un * qr) + rR)), .second, .val (.ref rp), .val (.ref b97), .unset] [(.int (lcmpW qr qf))])) t → Steps p.tables e below (s₁.setTop (entryFrame m #[(.long x0), (.long x1), (.long x2), (.long x3), (.long x4), (.int x5)] maxLocals)) t := fun tt kk => pre107 tt (by
          show Steps p.tables e below (T101.setTop (mkF m 201 #[.val (.long x0), .second, .val (.long x1), .second, .val (.long x2), .second, .val (.long x3), .second, .val (.long x4), .second, .val (.int x5), .val (.int b8), .val (.long un), .second, .val (.long qf), .second, .val (.long qr), .second, .val (.long rF), .second, .val (.long rR), .second, .val (.long ((un * qf) + rF)), .second, .val (.long ((un * qr) + rR)), .second, .val (.ref rp), .val (.ref b97), .unset] [(.int (lcmpW qr (0 : Int64)))])) _
          refine XS.ifNo X101.here hx rfl (hb hby at_201) rfl ((if0 _ _).trans (flt (mt (lw_lt _ _).mp hc201)).1) ?_
          show Steps p.tables e below (T101.setTop (mkF m 204 #[.val (.long x0), .second, .val (.long x1), .second, .val (.long x2), .second, .val (.long x3), .second, .val (.long x4), .second, .val (.int x5), .val (.int b8), .val (.long un), .second, .val (.long qf), .second, .val (.long qr), .second, .val (.long rF), .second, .val (.long rR), .second, .val (.long ((un * qf) + rF)), .second, .val (.long ((un * qr) + rR)), .second, .val (.ref rp), .val (.ref b97), .unset] [])) _
          refine XS.lload X101.here hx rfl (hb hby at_204) rfl ?_
          show Steps p.tables e below (T101.setTop (mkF m 206 #[.val (.long x0), .second, .val (.long x1), .second, .val (.long x2), .second, .val (.long x3), .second, .val (.long x4), .second, .val (.int x5), .val (.int b8), .val (.long un), .second, .val (.long qf), .second, .val (.long qr), .second, .val (.long rF), .second, .val (.long rR), .second, .val (.long ((un * qf) + rF)), .second, .val (.long ((un * qr) + rR)), .second, .val (.ref rp), .val (.ref b97), .unset] [(.long qr)])) _
          refine XS.lload X101.here hx rfl (hb hby at_206) rfl ?_
          show Steps p.tables e below (T101.setTop (mkF m 208 #[.val (.long x0), .second, .val (.long x1), .second, .val (.long x2), .second, .val (.long x3), .second, .val (.long x4), .second, .val (.int x5), .val (.int b8), .val (.long un), .second, .val (.long qf), .second, .val (.long qr), .second, .val (.long rF), .second, .val (.long rR), .second, .val (.long ((un * qf) + rF)), .second, .val (.long ((un * qr) + rR)), .second, .val (.ref rp), .val (.ref b97), .unset] [(.long qf), (.long qr)])) _
          refine XS.lcmp X101.here hx rfl (hb hby at_208) rfl ?_
          exact kk)
        by_cases hc209 : qr < qf
        · have pre112 : ∀ t, Steps p.tables e below (T101.setTop (mkF m 221 #[.val (.long x0), .second, .val (.long x1), .second, .val (.long x2), .second, .val (.long x3), .second, .val (.long x4), .second, .val (.int x5), .val (.int b8), .val (.long un), .second, .val (.long qf), .second, .val (.long qr), .second, .val (.long rF), .second, .val (.long rR), .second, .val (.long ((un * qf) + rF)), .second, .val (.long ((un * qr) + rR)), .second, .val (.ref rp), .val (.ref b97), .unset] [(.int (lcmpW qf ((1000000000 : Int64) / un)))])) t → Steps p.tables e below (s₁.setTop (entryFrame m #[(.long x0), (.long x1), (.long x2), (.long x3), (.long x4), (.int x5)] maxLocals)) t := fun tt kk => pre111 tt (by
            show Steps p.tables e below (T101.setTop (mkF m 209 #[.val (.long x0), .second, .val (.long x1), .second, .val (.long x2), .second, .val (.long x3), .second, .val (.long x4), .second, .val (.int x5), .val (.int b8), .val (.long un), .second, .val (.long qf), .second, .val (.long qr), .second, .val (.long rF), .second, .val (.long rR), .second, .val (.long ((un * qf) + rF)), .second, .val (.long ((un * qr) + rR)), .second, .val (.ref rp), .val (.ref b97), .unset] [(.int (lcmpW qr qf))])) _
            refine XS.ifNo X101.here hx rfl (hb hby at_209) rfl ((if0 _ _).trans (tlt ((lw_lt _ _).mpr hc209)).2.1) ?_
            show Steps p.tables e below (T101.setTop (mkF m 212 #[.val (.long x0), .second, .val (.long x1), .second, .val (.long x2), .second, .val (.long x3), .second, .val (.long x4), .second, .val (.int x5), .val (.int b8), .val (.long un), .second, .val (.long qf), .second, .val (.long qr), .second, .val (.long rF), .second, .val (.long rR), .second, .val (.long ((un * qf) + rF)), .second, .val (.long ((un * qr) + rR)), .second, .val (.ref rp), .val (.ref b97), .unset] [])) _
            refine XS.lload X101.here hx rfl (hb hby at_212) rfl ?_
            show Steps p.tables e below (T101.setTop (mkF m 214 #[.val (.long x0), .second, .val (.long x1), .second, .val (.long x2), .second, .val (.long x3), .second, .val (.long x4), .second, .val (.int x5), .val (.int b8), .val (.long un), .second, .val (.long qf), .second, .val (.long qr), .second, .val (.long rF), .second, .val (.long rR), .second, .val (.long ((un * qf) + rF)), .second, .val (.long ((un * qr) + rR)), .second, .val (.ref rp), .val (.ref b97), .unset] [(.long qf)])) _
            refine X101.ldc2Long hx hown (mvT hZ (hw _ (List.mem_of_getElem? (i := 48) rfl))) (g := (mkF m 214 #[.val (.long x0), .second, .val (.long x1), .second, .val (.long x2), .second, .val (.long x3), .second, .val (.long x4), .second, .val (.int x5), .val (.int b8), .val (.long un), .second, .val (.long qf), .second, .val (.long qr), .second, .val (.long rF), .second, .val (.long rR), .second, .val (.long ((un * qf) + rF)), .second, .val (.long ((un * qr) + rR)), .second, .val (.ref rp), .val (.ref b97), .unset] [(.long qf)])) rfl (hb hby at_214) _ ?_
            show Steps p.tables e below (T101.setTop (mkF m 217 #[.val (.long x0), .second, .val (.long x1), .second, .val (.long x2), .second, .val (.long x3), .second, .val (.long x4), .second, .val (.int x5), .val (.int b8), .val (.long un), .second, .val (.long qf), .second, .val (.long qr), .second, .val (.long rF), .second, .val (.long rR), .second, .val (.long ((un * qf) + rF)), .second, .val (.long ((un * qr) + rR)), .second, .val (.ref rp), .val (.ref b97), .unset] [(.long (1000000000 : Int64)), (.long qf)])) _
            refine XS.lload X101.here hx rfl (hb hby at_217) rfl ?_
            show Steps p.tables e below (T101.setTop (mkF m 219 #[.val (.long x0), .second, .val (.long x1), .second, .val (.long x2), .second, .val (.long x3), .second, .val (.long x4), .second, .val (.int x5), .val (.int b8), .val (.long un), .second, .val (.long qf), .second, .val (.long qr), .second, .val (.long rF), .second, .val (.long rR), .second, .val (.long ((un * qf) + rF)), .second, .val (.long ((un * qr) + rR)), .second, .val (.ref rp), .val (.ref b97), .unset] [(.long un), (.long (1000000000 : Int64)), (.long qf)])) _
            refine XS.ldiv X101.here hx rfl (hb hby at_219) rfl (own_ne0 hm81_0) ?_
            show Steps p.tables e below (T101.setTop (mkF m 220 #[.val (.long x0), .second, .val (.long x1), .second, .val (.long x2), .second, .val (.long x3), .second, .val (.long x4), .second, .val (.int x5), .val (.int b8), .val (.long un), .second, .val (.long qf), .second, .val (.long qr), .second, .val (.long rF), .second, .val (.long rR), .second, .val (.long ((un * qf) + rF)), .second, .val (.long ((un * qr) + rR)), .second, .val (.ref rp), .val (.ref b97), .unset] [(.long ((1000000000 : Int64) / un)), (.long qf)])) _
            refine XS.lcmp X101.here hx rfl (hb hby at_220) rfl ?_
            exact kk)
          by_cases hc221 : ((1000000000 : Int64) / un) < qf
          · have ov113 : own_iv un ((un * qf) + rF) ((un * qr) + rR) = 0 := (own_iv01 _ _ _).resolve_right fun q => ((own_valid hm81_0 hm81_1 hm85_0 hm88_0).mp q).2.2.2.2 hc221
            obtain ⟨cq114, kq114, q114a, q114b, q114c⟩ := isOf hZ (rfl : T101.heap = T101.heap) f104
            obtain ⟨vv114, _, ⟨T114, L114, k114, n114⟩, -, X114, ⟨Lc114, hQ114, l114, y114, z114⟩, st114⟩ := X101.virtualBack hx (y := (⟨"com/example/slidebook/slidebook/engine/Reserve", "isValidFor", "(J)Z"⟩ : MethodName)) (z := (⟨"com/example/slidebook/slidebook/engine/Reserve", "isValidFor", "(J)Z"⟩ : MethodName)) hown (mvT hZ (hw _ (List.mem_of_getElem? (i := 39) rfl))) (mvT hZ (hw _ (List.mem_of_getElem? (i := 40) rfl))) (notFace_of_selects (args := #[]) (mvT hZ (hw _ (List.mem_of_getElem? (i := 42) rfl)))) (mvT hZ (hw _ (List.mem_of_getElem? (i := 42) rfl))) (mvT hZ (hw _ (List.mem_of_getElem? (i := 41) rfl))) (by decide) (backOf (W := 0) (rm_iv l Z a0 hw [] b97 un ((un * qf) + rF) ((un * qr) + rR) T101.heap n0 f102 Fm101 Fr101 (own_ne0 hm81_0)) hZ (hw _ (List.mem_of_getElem? (i := 43) rfl)) (hw _ (List.mem_of_getElem? (i := 7) rfl)) (by decide) (by decide)) q114a q114c (g := (mkF m 235 #[.val (.long x0), .second, .val (.long x1), .second, .val (.long x2), .second, .val (.long x3), .second, .val (.long x4), .second, .val (.int x5), .val (.int b8), .val (.long un), .second, .val (.long qf), .second, .val (.long qr), .second, .val (.long rF), .second, .val (.long rR), .second, .val (.long ((un * qf) + rF)), .second, .val (.long ((un * qr) + rR)), .second, .val (.ref rp), .val (.ref b97), .val (.int (0 : Int32))] [(.long un), (.ref b97)])) rfl (by rw [hml]; rfl) (Steps.refl _) (argsL := [(.long un)]) (rest := []) (lenOf own_pd_3 rfl) rfl (by show 2 * 0 + _ ≤ _; exact Nat.le_of_eq rfl) (hb hby at_235) (fun _ _ => ⟨rfl, (rfl : T101.heap = T101.heap), (by decide : 3 + 0 ≤ _), (by decide : 103 + 0 ≤ _)⟩)
            dsimp only [Pt.U, Pt.locs, Pt.cells, Pt.slots] at X114 l114 y114 z114 st114 hQ114
            subst l114 y114 z114
            rw [ov113] at hQ114
            obtain ⟨rfl, N114q, e114⟩ := hQ114
            have N114 := Fr.app N101 N114q
            have pre115 : ∀ t, Steps p.tables e below (T114.setTop (mkF m 240 #[.val (.long x0), .second, .val (.long x1), .second, .val (.long x2), .second, .val (.long x3), .second, .val (.long x4), .second, .val (.int x5), .val (.int b8), .val (.long un), .second, .val (.long qf), .second, .val (.long qr), .second, .val (.long rF), .second, .val (.long rR), .second, .val (.long ((un * qf) + rF)), .second, .val (.long ((un * qr) + rR)), .second, .val (.ref rp), .val (.ref b97), .val (.int (0 : Int32))] [(.int (0 : Int32)), (.int (0 : Int32))])) t → Steps p.tables e below (s₁.setTop (entryFrame m #[(.long x0), (.long x1), (.long x2), (.long x3), (.long x4), (.int x5)] maxLocals)) t := fun tt kk => pre112 tt (by
              show Steps p.tables e below (T101.setTop (mkF m 221 #[.val (.long x0), .second, .val (.long x1), .second, .val (.long x2), .second, .val (.long x3), .second, .val (.long x4), .second, .val (.int x5), .val (.int b8), .val (.long un), .second, .val (.long qf), .second, .val (.long qr), .second, .val (.long rF), .second, .val (.long rR), .second, .val (.long ((un * qf) + rF)), .second, .val (.long ((un * qr) + rR)), .second, .val (.ref rp), .val (.ref b97), .unset] [(.int (lcmpW qf ((1000000000 : Int64) / un)))])) _
              refine XS.ifYes X101.here hx rfl (pc0 := 221) (pc' := 228) rfl (hb hby at_221) rfl ((if0 _ _).trans (tlt ((lw_gt _ _).mpr hc221)).2.2.1) (by decide) (by decide) ?_
              show Steps p.tables e below (T101.setTop (mkF m 228 #[.val (.long x0), .second, .val (.long x1), .second, .val (.long x2), .second, .val (.long x3), .second, .val (.long x4), .second, .val (.int x5), .val (.int b8), .val (.long un), .second, .val (.long qf), .second, .val (.long qr), .second, .val (.long rF), .second, .val (.long rR), .second, .val (.long ((un * qf) + rF)), .second, .val (.long ((un * qr) + rR)), .second, .val (.ref rp), .val (.ref b97), .unset] [])) _
              refine XS.iconst X101.here hx rfl (hb hby at_228) ?_
              show Steps p.tables e below (T101.setTop (mkF m 229 #[.val (.long x0), .second, .val (.long x1), .second, .val (.long x2), .second, .val (.long x3), .second, .val (.long x4), .second, .val (.int x5), .val (.int b8), .val (.long un), .second, .val (.long qf), .second, .val (.long qr), .second, .val (.long rF), .second, .val (.long rR), .second, .val (.long ((un * qf) + rF)), .second, .val (.long ((un * qr) + rR)), .second, .val (.ref rp), .val (.ref b97), .unset] [(.int (0 : Int32))])) _
              refine XS.istore X101.here hx rfl (hb hby at_229) rfl (l' := #[.val (.long x0), .second, .val (.long x1), .second, .val (.long x2), .second, .val (.long x3), .second, .val (.long x4), .second, .val (.int x5), .val (.int b8), .val (.long un), .second, .val (.long qf), .second, .val (.long qr), .second, .val (.long rF), .second, .val (.long rR), .second, .val (.long ((un * qf) + rF)), .second, .val (.long ((un * qr) + rR)), .second, .val (.ref rp), .val (.ref b97), .val (.int (0 : Int32))]) rfl ?_
              show Steps p.tables e below (T101.setTop (mkF m 231 #[.val (.long x0), .second, .val (.long x1), .second, .val (.long x2), .second, .val (.long x3), .second, .val (.long x4), .second, .val (.int x5), .val (.int b8), .val (.long un), .second, .val (.long qf), .second, .val (.long qr), .second, .val (.long rF), .second, .val (.long rR), .second, .val (.long ((un * qf) + rF)), .second, .val (.long ((un * qr) + rR)), .second, .val (.ref rp), .val (.ref b97), .val (.int (0 : Int32))] [])) _
              refine XS.aload X101.here hx rfl (hb hby at_231) rfl rfl ?_
              show Steps p.tables e below (T101.setTop (mkF m 233 #[.val (.long x0), .second, .val (.long x1), .second, .val (.long x2), .second, .val (.long x3), .second, .val (.long x4), .second, .val (.int x5), .val (.int b8), .val (.long un), .second, .val (.long qf), .second, .val (.long qr), .second, .val (.long rF), .second, .val (.long rR), .second, .val (.long ((un * qf) + rF)), .second, .val (.long ((un * qr) + rR)), .second, .val (.ref rp), .val (.ref b97), .val (.int (0 : Int32))] [(.ref b97)])) _
              refine XS.lload X101.here hx rfl (hb hby at_233) rfl ?_
              show Steps p.tables e below (T101.setTop (mkF m 235 #[.val (.long x0), .second, .val (.long x1), .second, .val (.long x2), .second, .val (.long x3), .second, .val (.long x4), .second, .val (.int x5), .val (.int b8), .val (.long un), .second, .val (.long qf), .second, .val (.long qr), .second, .val (.long rF), .second, .val (.long rR), .second, .val (.long ((un * qf) + rF)), .second, .val (.long ((un * qr) + rR)), .second, .val (.ref rp), .val (.ref b97), .val (.int (0 : Int32))] [(.long un), (.ref b97)])) _
              refine st114.trans ?_
              show Steps p.tables e below (T114.setTop (mkF m 238 #[.val (.long x0), .second, .val (.long x1), .second, .val (.long x2), .second, .val (.long x3), .second, .val (.long x4), .second, .val (.int x5), .val (.int b8), .val (.long un), .second, .val (.long qf), .second, .val (.long qr), .second, .val (.long rF), .second, .val (.long rR), .second, .val (.long ((un * qf) + rF)), .second, .val (.long ((un * qr) + rR)), .second, .val (.ref rp), .val (.ref b97), .val (.int (0 : Int32))] [(.int (0 : Int32))])) _
              refine XS.iload X114.here hx rfl (hb hby at_238) rfl ?_
              exact kk)
            obtain ⟨fs, hr, hrun, hended, hRW⟩ := X114.leaveW hS101 (by rw [e114]; exact (Nat.le_refl T101.heap.size)) (v := some (.int (1 : Int32))) (fun h => by rw [Bd.returns] at h; cases h)
            refine ⟨_, _, pre115 _ ?_, hrun, hended, _, _, rfl, ?_, ⟨_, rfl⟩, hRW.2.1, hRW.2.2.1, hRW.2.2.2.mono (by decide) (by decide)⟩
            · show Steps p.tables e below (T114.setTop (mkF m 240 #[.val (.long x0), .second, .val (.long x1), .second, .val (.long x2), .second, .val (.long x3), .second, .val (.long x4), .second, .val (.int x5), .val (.int b8), .val (.long un), .second, .val (.long qf), .second, .val (.long qr), .second, .val (.long rF), .second, .val (.long rR), .second, .val (.long ((un * qf) + rF)), .second, .val (.long ((un * qr) + rR)), .second, .val (.ref rp), .val (.ref b97), .val (.int (0 : Int32))] [(.int (0 : Int32)), (.int (0 : Int32))])) _
              refine XS.icmpNo X114.here hx rfl (hb hby at_240) rfl (teq (by decide : (0 : Int32) = (0 : Int32))).2 ?_
              show Steps p.tables e below (T114.setTop (mkF m 243 #[.val (.long x0), .second, .val (.long x1), .second, .val (.long x2), .second, .val (.long x3), .second, .val (.long x4), .second, .val (.int x5), .val (.int b8), .val (.long un), .second, .val (.long qf), .second, .val (.long qr), .second, .val (.long rF), .second, .val (.long rR), .second, .val (.long ((un * qf) + rF)), .second, .val (.long ((un * qr) + rR)), .second, .val (.ref rp), .val (.ref b97), .val (.int (0 : Int32))] [])) _
              refine XS.iconst X114.here hx rfl (hb hby at_243) ?_
              show Steps p.tables e below (T114.setTop (mkF m 244 #[.val (.long x0), .second, .val (.long x1), .second, .val (.long x2), .second, .val (.long x3), .second, .val (.long x4), .second, .val (.int x5), .val (.int b8), .val (.long un), .second, .val (.long qf), .second, .val (.long qr), .second, .val (.long rF), .second, .val (.long rR), .second, .val (.long ((un * qf) + rF)), .second, .val (.long ((un * qr) + rR)), .second, .val (.ref rp), .val (.ref b97), .val (.int (0 : Int32))] [(.int (1 : Int32))])) _
              refine XS.goto X114.here hx rfl (pc0 := 244) (pc' := 248) rfl (hb hby at_244) (by decide) (by decide) ?_
              show Steps p.tables e below (T114.setTop (mkF m 248 #[.val (.long x0), .second, .val (.long x1), .second, .val (.long x2), .second, .val (.long x3), .second, .val (.long x4), .second, .val (.int x5), .val (.int b8), .val (.long un), .second, .val (.long qf), .second, .val (.long qr), .second, .val (.long rF), .second, .val (.long rR), .second, .val (.long ((un * qf) + rF)), .second, .val (.long ((un * qr) + rR)), .second, .val (.ref rp), .val (.ref b97), .val (.int (0 : Int32))] [(.int (1 : Int32))])) _
              exact retN X114 hx (t := .boolean) Bd.returns (by simp) (hb hby at_248) hr
            · exact ⟨rfl, N114⟩
          · have ov116 : own_iv un ((un * qf) + rF) ((un * qr) + rR) = 1 := (own_valid hm81_0 hm81_1 hm85_0 hm88_0).mpr ⟨hc187, hc194, hc201, hc209, hc221⟩
            obtain ⟨cq117, kq117, q117a, q117b, q117c⟩ := isOf hZ (rfl : T101.heap = T101.heap) f104
            obtain ⟨vv117, _, ⟨T117, L117, k117, n117⟩, -, X117, ⟨Lc117, hQ117, l117, y117, z117⟩, st117⟩ := X101.virtualBack hx (y := (⟨"com/example/slidebook/slidebook/engine/Reserve", "isValidFor", "(J)Z"⟩ : MethodName)) (z := (⟨"com/example/slidebook/slidebook/engine/Reserve", "isValidFor", "(J)Z"⟩ : MethodName)) hown (mvT hZ (hw _ (List.mem_of_getElem? (i := 39) rfl))) (mvT hZ (hw _ (List.mem_of_getElem? (i := 40) rfl))) (notFace_of_selects (args := #[]) (mvT hZ (hw _ (List.mem_of_getElem? (i := 42) rfl)))) (mvT hZ (hw _ (List.mem_of_getElem? (i := 42) rfl))) (mvT hZ (hw _ (List.mem_of_getElem? (i := 41) rfl))) (by decide) (backOf (W := 0) (rm_iv l Z a0 hw [] b97 un ((un * qf) + rF) ((un * qr) + rR) T101.heap n0 f102 Fm101 Fr101 (own_ne0 hm81_0)) hZ (hw _ (List.mem_of_getElem? (i := 43) rfl)) (hw _ (List.mem_of_getElem? (i := 7) rfl)) (by decide) (by decide)) q117a q117c (g := (mkF m 235 #[.val (.long x0), .second, .val (.long x1), .second, .val (.long x2), .second, .val (.long x3), .second, .val (.long x4), .second, .val (.int x5), .val (.int b8), .val (.long un), .second, .val (.long qf), .second, .val (.long qr), .second, .val (.long rF), .second, .val (.long rR), .second, .val (.long ((un * qf) + rF)), .second, .val (.long ((un * qr) + rR)), .second, .val (.ref rp), .val (.ref b97), .val (.int (1 : Int32))] [(.long un), (.ref b97)])) rfl (by rw [hml]; rfl) (Steps.refl _) (argsL := [(.long un)]) (rest := []) (lenOf own_pd_3 rfl) rfl (by show 2 * 0 + _ ≤ _; exact Nat.le_of_eq rfl) (hb hby at_235) (fun _ _ => ⟨rfl, (rfl : T101.heap = T101.heap), (by decide : 3 + 0 ≤ _), (by decide : 103 + 0 ≤ _)⟩)
            dsimp only [Pt.U, Pt.locs, Pt.cells, Pt.slots] at X117 l117 y117 z117 st117 hQ117
            subst l117 y117 z117
            rw [ov116] at hQ117
            obtain ⟨rfl, N117q, e117⟩ := hQ117
            have N117 := Fr.app N101 N117q
            have pre118 : ∀ t, Steps p.tables e below (T117.setTop (mkF m 240 #[.val (.long x0), .second, .val (.long x1), .second, .val (.long x2), .second, .val (.long x3), .second, .val (.long x4), .second, .val (.int x5), .val (.int b8), .val (.long un), .second, .val (.long qf), .second, .val (.long qr), .second, .val (.long rF), .second, .val (.long rR), .second, .val (.long ((un * qf) + rF)), .second, .val (.long ((un * qr) + rR)), .second, .val (.ref rp), .val (.ref b97), .val (.int (1 : Int32))] [(.int (1 : Int32)), (.int (1 : Int32))])) t → Steps p.tables e below (s₁.setTop (entryFrame m #[(.long x0), (.long x1), (.long x2), (.long x3), (.long x4), (.int x5)] maxLocals)) t := fun tt kk => pre112 tt (by
              show Steps p.tables e below (T101.setTop (mkF m 221 #[.val (.long x0), .second, .val (.long x1), .second, .val (.long x2), .second, .val (.long x3), .second, .val (.long x4), .second, .val (.int x5), .val (.int b8), .val (.long un), .second, .val (.long qf), .second, .val (.long qr), .second, .val (.long rF), .second, .val (.long rR), .second, .val (.long ((un * qf) + rF)), .second, .val (.long ((un * qr) + rR)), .second, .val (.ref rp), .val (.ref b97), .unset] [(.int (lcmpW qf ((1000000000 : Int64) / un)))])) _
              refine XS.ifNo X101.here hx rfl (hb hby at_221) rfl ((if0 _ _).trans (flt (mt (lw_gt _ _).mp hc221)).2.2.1) ?_
              show Steps p.tables e below (T101.setTop (mkF m 224 #[.val (.long x0), .second, .val (.long x1), .second, .val (.long x2), .second, .val (.long x3), .second, .val (.long x4), .second, .val (.int x5), .val (.int b8), .val (.long un), .second, .val (.long qf), .second, .val (.long qr), .second, .val (.long rF), .second, .val (.long rR), .second, .val (.long ((un * qf) + rF)), .second, .val (.long ((un * qr) + rR)), .second, .val (.ref rp), .val (.ref b97), .unset] [])) _
              refine XS.iconst X101.here hx rfl (hb hby at_224) ?_
              show Steps p.tables e below (T101.setTop (mkF m 225 #[.val (.long x0), .second, .val (.long x1), .second, .val (.long x2), .second, .val (.long x3), .second, .val (.long x4), .second, .val (.int x5), .val (.int b8), .val (.long un), .second, .val (.long qf), .second, .val (.long qr), .second, .val (.long rF), .second, .val (.long rR), .second, .val (.long ((un * qf) + rF)), .second, .val (.long ((un * qr) + rR)), .second, .val (.ref rp), .val (.ref b97), .unset] [(.int (1 : Int32))])) _
              refine XS.goto X101.here hx rfl (pc0 := 225) (pc' := 229) rfl (hb hby at_225) (by decide) (by decide) ?_
              show Steps p.tables e below (T101.setTop (mkF m 229 #[.val (.long x0), .second, .val (.long x1), .second, .val (.long x2), .second, .val (.long x3), .second, .val (.long x4), .second, .val (.int x5), .val (.int b8), .val (.long un), .second, .val (.long qf), .second, .val (.long qr), .second, .val (.long rF), .second, .val (.long rR), .second, .val (.long ((un * qf) + rF)), .second, .val (.long ((un * qr) + rR)), .second, .val (.ref rp), .val (.ref b97), .unset] [(.int (1 : Int32))])) _
              refine XS.istore X101.here hx rfl (hb hby at_229) rfl (l' := #[.val (.long x0), .second, .val (.long x1), .second, .val (.long x2), .second, .val (.long x3), .second, .val (.long x4), .second, .val (.int x5), .val (.int b8), .val (.long un), .second, .val (.long qf), .second, .val (.long qr), .second, .val (.long rF), .second, .val (.long rR), .second, .val (.long ((un * qf) + rF)), .second, .val (.long ((un * qr) + rR)), .second, .val (.ref rp), .val (.ref b97), .val (.int (1 : Int32))]) rfl ?_
              show Steps p.tables e below (T101.setTop (mkF m 231 #[.val (.long x0), .second, .val (.long x1), .second, .val (.long x2), .second, .val (.long x3), .second, .val (.long x4), .second, .val (.int x5), .val (.int b8), .val (.long un), .second, .val (.long qf), .second, .val (.long qr), .second, .val (.long rF), .second, .val (.long rR), .second, .val (.long ((un * qf) + rF)), .second, .val (.long ((un * qr) + rR)), .second, .val (.ref rp), .val (.ref b97), .val (.int (1 : Int32))] [])) _
              refine XS.aload X101.here hx rfl (hb hby at_231) rfl rfl ?_
              show Steps p.tables e below (T101.setTop (mkF m 233 #[.val (.long x0), .second, .val (.long x1), .second, .val (.long x2), .second, .val (.long x3), .second, .val (.long x4), .second, .val (.int x5), .val (.int b8), .val (.long un), .second, .val (.long qf), .second, .val (.long qr), .second, .val (.long rF), .second, .val (.long rR), .second, .val (.long ((un * qf) + rF)), .second, .val (.long ((un * qr) + rR)), .second, .val (.ref rp), .val (.ref b97), .val (.int (1 : Int32))] [(.ref b97)])) _
              refine XS.lload X101.here hx rfl (hb hby at_233) rfl ?_
              show Steps p.tables e below (T101.setTop (mkF m 235 #[.val (.long x0), .second, .val (.long x1), .second, .val (.long x2), .second, .val (.long x3), .second, .val (.long x4), .second, .val (.int x5), .val (.int b8), .val (.long un), .second, .val (.long qf), .second, .val (.long qr), .second, .val (.long rF), .second, .val (.long rR), .second, .val (.long ((un * qf) + rF)), .second, .val (.long ((un * qr) + rR)), .second, .val (.ref rp), .val (.ref b97), .val (.int (1 : Int32))] [(.long un), (.ref b97)])) _
              refine st117.trans ?_
              show Steps p.tables e below (T117.setTop (mkF m 238 #[.val (.long x0), .second, .val (.long x1), .second, .val (.long x2), .second, .val (.long x3), .second, .val (.long x4), .second, .val (.int x5), .val (.int b8), .val (.long un), .second, .val (.long qf), .second, .val (.long qr), .second, .val (.long rF), .second, .val (.long rR), .second, .val (.long ((un * qf) + rF)), .second, .val (.long ((un * qr) + rR)), .second, .val (.ref rp), .val (.ref b97), .val (.int (1 : Int32))] [(.int (1 : Int32))])) _
              refine XS.iload X117.here hx rfl (hb hby at_238) rfl ?_
              exact kk)
            obtain ⟨fs, hr, hrun, hended, hRW⟩ := X117.leaveW hS101 (by rw [e117]; exact (Nat.le_refl T101.heap.size)) (v := some (.int (1 : Int32))) (fun h => by rw [Bd.returns] at h; cases h)
            refine ⟨_, _, pre118 _ ?_, hrun, hended, _, _, rfl, ?_, ⟨_, rfl⟩, hRW.2.1, hRW.2.2.1, hRW.2.2.2.mono (by decide) (by decide)⟩
            · show Steps p.tables e below (T117.setTop (mkF m 240 #[.val (.long x0), .second, .val (.long x1), .second, .val (.long x2), .second, .val (.long x3), .second, .val (.long x4), .second, .val (.int x5), .val (.int b8), .val (.long un), .second, .val (.long qf), .second, .val (.long qr), .second, .val (.long rF), .second, .val (.long rR), .second, .val (.long ((un * qf) + rF)), .second, .val (.long ((un * qr) + rR)), .second, .val (.ref rp), .val (.ref b97), .val (.int (1 : Int32))] [(.int (1 : Int32)), (.int (1 : Int32))])) _
              refine XS.icmpNo X117.here hx rfl (hb hby at_240) rfl (teq (by decide : (1 : Int32) = (1 : Int32))).2 ?_
              show Steps p.tables e below (T117.setTop (mkF m 243 #[.val (.long x0), .second, .val (.long x1), .second, .val (.long x2), .second, .val (.long x3), .second, .val (.long x4), .second, .val (.int x5), .val (.int b8), .val (.long un), .second, .val (.long qf), .second, .val (.long qr), .second, .val (.long rF), .second, .val (.long rR), .second, .val (.long ((un * qf) + rF)), .second, .val (.long ((un * qr) + rR)), .second, .val (.ref rp), .val (.ref b97), .val (.int (1 : Int32))] [])) _
              refine XS.iconst X117.here hx rfl (hb hby at_243) ?_
              show Steps p.tables e below (T117.setTop (mkF m 244 #[.val (.long x0), .second, .val (.long x1), .second, .val (.long x2), .second, .val (.long x3), .second, .val (.long x4), .second, .val (.int x5), .val (.int b8), .val (.long un), .second, .val (.long qf), .second, .val (.long qr), .second, .val (.long rF), .second, .val (.long rR), .second, .val (.long ((un * qf) + rF)), .second, .val (.long ((un * qr) + rR)), .second, .val (.ref rp), .val (.ref b97), .val (.int (1 : Int32))] [(.int (1 : Int32))])) _
              refine XS.goto X117.here hx rfl (pc0 := 244) (pc' := 248) rfl (hb hby at_244) (by decide) (by decide) ?_
              show Steps p.tables e below (T117.setTop (mkF m 248 #[.val (.long x0), .second, .val (.long x1), .second, .val (.long x2), .second, .val (.long x3), .second, .val (.long x4), .second, .val (.int x5), .val (.int b8), .val (.long un), .second, .val (.long qf), .second, .val (.long qr), .second, .val (.long rF), .second, .val (.long rR), .second, .val (.long ((un * qf) + rF)), .second, .val (.long ((un * qr) + rR)), .second, .val (.ref rp), .val (.ref b97), .val (.int (1 : Int32))] [(.int (1 : Int32))])) _
              exact retN X117 hx (t := .boolean) Bd.returns (by simp) (hb hby at_248) hr
            · exact ⟨rfl, N117⟩
        · have ov119 : own_iv un ((un * qf) + rF) ((un * qr) + rR) = 0 := (own_iv01 _ _ _).resolve_right fun q => hc209 ((own_valid hm81_0 hm81_1 hm85_0 hm88_0).mp q).2.2.2.1
          obtain ⟨cq120, kq120, q120a, q120b, q120c⟩ := isOf hZ (rfl : T101.heap = T101.heap) f104
          obtain ⟨vv120, _, ⟨T120, L120, k120, n120⟩, -, X120, ⟨Lc120, hQ120, l120, y120, z120⟩, st120⟩ := X101.virtualBack hx (y := (⟨"com/example/slidebook/slidebook/engine/Reserve", "isValidFor", "(J)Z"⟩ : MethodName)) (z := (⟨"com/example/slidebook/slidebook/engine/Reserve", "isValidFor", "(J)Z"⟩ : MethodName)) hown (mvT hZ (hw _ (List.mem_of_getElem? (i := 39) rfl))) (mvT hZ (hw _ (List.mem_of_getElem? (i := 40) rfl))) (notFace_of_selects (args := #[]) (mvT hZ (hw _ (List.mem_of_getElem? (i := 42) rfl)))) (mvT hZ (hw _ (List.mem_of_getElem? (i := 42) rfl))) (mvT hZ (hw _ (List.mem_of_getElem? (i := 41) rfl))) (by decide) (backOf (W := 0) (rm_iv l Z a0 hw [] b97 un ((un * qf) + rF) ((un * qr) + rR) T101.heap n0 f102 Fm101 Fr101 (own_ne0 hm81_0)) hZ (hw _ (List.mem_of_getElem? (i := 43) rfl)) (hw _ (List.mem_of_getElem? (i := 7) rfl)) (by decide) (by decide)) q120a q120c (g := (mkF m 235 #[.val (.long x0), .second, .val (.long x1), .second, .val (.long x2), .second, .val (.long x3), .second, .val (.long x4), .second, .val (.int x5), .val (.int b8), .val (.long un), .second, .val (.long qf), .second, .val (.long qr), .second, .val (.long rF), .second, .val (.long rR), .second, .val (.long ((un * qf) + rF)), .second, .val (.long ((un * qr) + rR)), .second, .val (.ref rp), .val (.ref b97), .val (.int (0 : Int32))] [(.long un), (.ref b97)])) rfl (by rw [hml]; rfl) (Steps.refl _) (argsL := [(.long un)]) (rest := []) (lenOf own_pd_3 rfl) rfl (by show 2 * 0 + _ ≤ _; exact Nat.le_of_eq rfl) (hb hby at_235) (fun _ _ => ⟨rfl, (rfl : T101.heap = T101.heap), (by decide : 3 + 0 ≤ _), (by decide : 103 + 0 ≤ _)⟩)
          dsimp only [Pt.U, Pt.locs, Pt.cells, Pt.slots] at X120 l120 y120 z120 st120 hQ120
          subst l120 y120 z120
          rw [ov119] at hQ120
          obtain ⟨rfl, N120q, e120⟩ := hQ120
          have N120 := Fr.app N101 N120q
          have pre121 : ∀ t, Steps p.tables e below (T120.setTop (mkF m 240 #[.val (.long x0), .second, .val (.long x1), .second, .val (.long x2), .second, .val (.long x3), .second, .val (.long x4), .second, .val (.int x5), .val (.int b8), .val (.long un), .second, .val (.long qf), .second, .val (.long qr), .second, .val (.long rF), .second, .val (.long rR), .second, .val (.long ((un * qf) + rF)), .second, .val (.long ((un * qr) + rR)), .second, .val (.ref rp), .val (.ref b97), .val (.int (0 : Int32))] [(.int (0 : Int32)), (.int (0 : Int32))])) t → Steps p.tables e below (s₁.setTop (entryFrame m #[(.long x0), (.long x1), (.long x2), (.long x3), (.long x4), (.int x5)] maxLocals)) t := fun tt kk => pre111 tt (by
            show Steps p.tables e below (T101.setTop (mkF m 209 #[.val (.long x0), .second, .val (.long x1), .second, .val (.long x2), .second, .val (.long x3), .second, .val (.long x4), .second, .val (.int x5), .val (.int b8), .val (.long un), .second, .val (.long qf), .second, .val (.long qr), .second, .val (.long rF), .second, .val (.long rR), .second, .val (.long ((un * qf) + rF)), .second, .val (.long ((un * qr) + rR)), .second, .val (.ref rp), .val (.ref b97), .unset] [(.int (lcmpW qr qf))])) _
            refine XS.ifYes X101.here hx rfl (pc0 := 209) (pc' := 228) rfl (hb hby at_209) rfl ((if0 _ _).trans (flt (mt (lw_lt _ _).mp hc209)).2.1) (by decide) (by decide) ?_
            show Steps p.tables e below (T101.setTop (mkF m 228 #[.val (.long x0), .second, .val (.long x1), .second, .val (.long x2), .second, .val (.long x3), .second, .val (.long x4), .second, .val (.int x5), .val (.int b8), .val (.long un), .second, .val (.long qf), .second, .val (.long qr), .second, .val (.long rF), .second, .val (.long rR), .second, .val (.long ((un * qf) + rF)), .second, .val (.long ((un * qr) + rR)), .second, .val (.ref rp), .val (.ref b97), .unset] [])) _
            refine XS.iconst X101.here hx rfl (hb hby at_228) ?_
            show Steps p.tables e below (T101.setTop (mkF m 229 #[.val (.long x0), .second, .val (.long x1), .second, .val (.long x2), .second, .val (.long x3), .second, .val (.long x4), .second, .val (.int x5), .val (.int b8), .val (.long un), .second, .val (.long qf), .second, .val (.long qr), .second, .val (.long rF), .second, .val (.long rR), .second, .val (.long ((un * qf) + rF)), .second, .val (.long ((un * qr) + rR)), .second, .val (.ref rp), .val (.ref b97), .unset] [(.int (0 : Int32))])) _
            refine XS.istore X101.here hx rfl (hb hby at_229) rfl (l' := #[.val (.long x0), .second, .val (.long x1), .second, .val (.long x2), .second, .val (.long x3), .second, .val (.long x4), .second, .val (.int x5), .val (.int b8), .val (.long un), .second, .val (.long qf), .second, .val (.long qr), .second, .val (.long rF), .second, .val (.long rR), .second, .val (.long ((un * qf) + rF)), .second, .val (.long ((un * qr) + rR)), .second, .val (.ref rp), .val (.ref b97), .val (.int (0 : Int32))]) rfl ?_
            show Steps p.tables e below (T101.setTop (mkF m 231 #[.val (.long x0), .second, .val (.long x1), .second, .val (.long x2), .second, .val (.long x3), .second, .val (.long x4), .second, .val (.int x5), .val (.int b8), .val (.long un), .second, .val (.long qf), .second, .val (.long qr), .second, .val (.long rF), .second, .val (.long rR), .second, .val (.long ((un * qf) + rF)), .second, .val (.long ((un * qr) + rR)), .second, .val (.ref rp), .val (.ref b97), .val (.int (0 : Int32))] [])) _
            refine XS.aload X101.here hx rfl (hb hby at_231) rfl rfl ?_
            show Steps p.tables e below (T101.setTop (mkF m 233 #[.val (.long x0), .second, .val (.long x1), .second, .val (.long x2), .second, .val (.long x3), .second, .val (.long x4), .second, .val (.int x5), .val (.int b8), .val (.long un), .second, .val (.long qf), .second, .val (.long qr), .second, .val (.long rF), .second, .val (.long rR), .second, .val (.long ((un * qf) + rF)), .second, .val (.long ((un * qr) + rR)), .second, .val (.ref rp), .val (.ref b97), .val (.int (0 : Int32))] [(.ref b97)])) _
            refine XS.lload X101.here hx rfl (hb hby at_233) rfl ?_
            show Steps p.tables e below (T101.setTop (mkF m 235 #[.val (.long x0), .second, .val (.long x1), .second, .val (.long x2), .second, .val (.long x3), .second, .val (.long x4), .second, .val (.int x5), .val (.int b8), .val (.long un), .second, .val (.long qf), .second, .val (.long qr), .second, .val (.long rF), .second, .val (.long rR), .second, .val (.long ((un * qf) + rF)), .second, .val (.long ((un * qr) + rR)), .second, .val (.ref rp), .val (.ref b97), .val (.int (0 : Int32))] [(.long un), (.ref b97)])) _
            refine st120.trans ?_
            show Steps p.tables e below (T120.setTop (mkF m 238 #[.val (.long x0), .second, .val (.long x1), .second, .val (.long x2), .second, .val (.long x3), .second, .val (.long x4), .second, .val (.int x5), .val (.int b8), .val (.long un), .second, .val (.long qf), .second, .val (.long qr), .second, .val (.long rF), .second, .val (.long rR), .second, .val (.long ((un * qf) + rF)), .second, .val (.long ((un * qr) + rR)), .second, .val (.ref rp), .val (.ref b97), .val (.int (0 : Int32))] [(.int (0 : Int32))])) _
            refine XS.iload X120.here hx rfl (hb hby at_238) rfl ?_
            exact kk)
          obtain ⟨fs, hr, hrun, hended, hRW⟩ := X120.leaveW hS101 (by rw [e120]; exact (Nat.le_refl T101.heap.size)) (v := some (.int (1 : Int32))) (fun h => by rw [Bd.returns] at h; cases h)
          refine ⟨_, _, pre121 _ ?_, hrun, hended, _, _, rfl, ?_, ⟨_, rfl⟩, hRW.2.1, hRW.2.2.1, hRW.2.2.2.mono (by decide) (by decide)⟩
          · show Steps p.tables e below (T120.setTop (mkF m 240 #[.val (.long x0), .second, .val (.long x1), .second, .val (.long x2), .second, .val (.long x3), .second, .val (.long x4), .second, .val (.int x5), .val (.int b8), .val (.long un), .second, .val (.long qf), .second, .val (.long qr), .second, .val (.long rF), .second, .val (.long rR), .second, .val (.long ((un * qf) + rF)), .second, .val (.long ((un * qr) + rR)), .second, .val (.ref rp), .val (.ref b97), .val (.int (0 : Int32))] [(.int (0 : Int32)), (.int (0 : Int32))])) _
            refine XS.icmpNo X120.here hx rfl (hb hby at_240) rfl (teq (by decide : (0 : Int32) = (0 : Int32))).2 ?_
            show Steps p.tables e below (T120.setTop (mkF m 243 #[.val (.long x0), .second, .val (.long x1), .second, .val (.long x2), .second, .val (.long x3), .second, .val (.long x4), .second, .val (.int x5), .val (.int b8), .val (.long un), .second, .val (.long qf), .second, .val (.long qr), .second, .val (.long rF), .second, .val (.long rR), .second, .val (.long ((un * qf) + rF)), .second, .val (.long ((un * qr) + rR)), .second, .val (.ref rp), .val (.ref b97), .val (.int (0 : Int32))] [])) _
            refine XS.iconst X120.here hx rfl (hb hby at_243) ?_
            show Steps p.tables e below (T120.setTop (mkF m 244 #[.val (.long x0), .second, .val (.long x1), .second, .val (.long x2), .second, .val (.long x3), .second, .val (.long x4), .second, .val (.int x5), .val (.int b8), .val (.long un), .second, .val (.long qf), .second, .val (.long qr), .second, .val (.long rF), .second, .val (.long rR), .second, .val (.long ((un * qf) + rF)), .second, .val (.long ((un * qr) + rR)), .second, .val (.ref rp), .val (.ref b97), .val (.int (0 : Int32))] [(.int (1 : Int32))])) _
            refine XS.goto X120.here hx rfl (pc0 := 244) (pc' := 248) rfl (hb hby at_244) (by decide) (by decide) ?_
            show Steps p.tables e below (T120.setTop (mkF m 248 #[.val (.long x0), .second, .val (.long x1), .second, .val (.long x2), .second, .val (.long x3), .second, .val (.long x4), .second, .val (.int x5), .val (.int b8), .val (.long un), .second, .val (.long qf), .second, .val (.long qr), .second, .val (.long rF), .second, .val (.long rR), .second, .val (.long ((un * qf) + rF)), .second, .val (.long ((un * qr) + rR)), .second, .val (.ref rp), .val (.ref b97), .val (.int (0 : Int32))] [(.int (1 : Int32))])) _
            exact retN X120 hx (t := .boolean) Bd.returns (by simp) (hb hby at_248) hr
          · exact ⟨rfl, N120⟩
    · have ov122 : own_iv un ((un * qf) + rF) ((un * qr) + rR) = 0 := (own_iv01 _ _ _).resolve_right fun q => hc194 ((own_valid hm81_0 hm81_1 hm85_0 hm88_0).mp q).2.1
      obtain ⟨cq123, kq123, q123a, q123b, q123c⟩ := isOf hZ (rfl : T101.heap = T101.heap) f104
      obtain ⟨vv123, _, ⟨T123, L123, k123, n123⟩, -, X123, ⟨Lc123, hQ123, l123, y123, z123⟩, st123⟩ := X101.virtualBack hx (y := (⟨"com/example/slidebook/slidebook/engine/Reserve", "isValidFor", "(J)Z"⟩ : MethodName)) (z := (⟨"com/example/slidebook/slidebook/engine/Reserve", "isValidFor", "(J)Z"⟩ : MethodName)) hown (mvT hZ (hw _ (List.mem_of_getElem? (i := 39) rfl))) (mvT hZ (hw _ (List.mem_of_getElem? (i := 40) rfl))) (notFace_of_selects (args := #[]) (mvT hZ (hw _ (List.mem_of_getElem? (i := 42) rfl)))) (mvT hZ (hw _ (List.mem_of_getElem? (i := 42) rfl))) (mvT hZ (hw _ (List.mem_of_getElem? (i := 41) rfl))) (by decide) (backOf (W := 0) (rm_iv l Z a0 hw [] b97 un ((un * qf) + rF) ((un * qr) + rR) T101.heap n0 f102 Fm101 Fr101 (own_ne0 hm81_0)) hZ (hw _ (List.mem_of_getElem? (i := 43) rfl)) (hw _ (List.mem_of_getElem? (i := 7) rfl)) (by decide) (by decide)) q123a q123c (g := (mkF m 235 #[.val (.long x0), .second, .val (.long x1), .second, .val (.long x2), .second, .val (.long x3), .second, .val (.long x4), .second, .val (.int x5), .val (.int b8), .val (.long un), .second, .val (.long qf), .second, .val (.long qr), .second, .val (.long rF), .second, .val (.long rR), .second, .val (.long ((un * qf) + rF)), .second, .val (.long ((un * qr) + rR)), .second, .val (.ref rp), .val (.ref b97), .val (.int (0 : Int32))] [(.long un), (.ref b97)])) rfl (by rw [hml]; rfl) (Steps.refl _) (argsL := [(.long un)]) (rest := []) (lenOf own_pd_3 rfl) rfl (by show 2 * 0 + _ ≤ _; exact Nat.le_of_eq rfl) (hb hby at_235) (fun _ _ => ⟨rfl, (rfl : T101.heap = T101.heap), (by decide : 3 + 0 ≤ _), (by decide : 103 + 0 ≤ _)⟩)
      dsimp only [Pt.U, Pt.locs, Pt.cells, Pt.slots] at X123 l123 y123 z123 st123 hQ123
      subst l123 y123 z123
      rw [ov122] at hQ123
      obtain ⟨rfl, N123q, e123⟩ := hQ123
      have N123 := Fr.app N101 N123q
      have pre124 : ∀ t, Steps p.tables e below (T123.setTop (mkF m 240 #[.val (.long x0), .second, .val (.long x1), .second, .val (.long x2), .second, .val (.long x3), .second, .val (.long x4), .second, .val (.int x5), .val (.int b8), .val (.long un), .second, .val (.long qf), .second, .val (.long qr), .second, .val (.long rF), .second, .val (.long rR), .second, .val (.long ((un * qf) + rF)), .second, .val (.long ((un * qr) + rR)), .second, .val (.ref rp), .val (.ref b97), .val (.int (0 : Int32))] [(.int (0 : Int32)), (.int (0 : Int32))])) t → Steps p.tables e below (s₁.setTop (entryFrame m #[(.long x0), (.long x1), (.long x2), (.long x3), (.long x4), (.int x5)] maxLocals)) t := fun tt kk => pre106 tt (by
        show Steps p.tables e below (T101.setTop (mkF m 194 #[.val (.long x0), .second, .val (.long x1), .second, .val (.long x2), .second, .val (.long x3), .second, .val (.long x4), .second, .val (.int x5), .val (.int b8), .val (.long un), .second, .val (.long qf), .second, .val (.long qr), .second, .val (.long rF), .second, .val (.long rR), .second, .val (.long ((un * qf) + rF)), .second, .val (.long ((un * qr) + rR)), .second, .val (.ref rp), .val (.ref b97), .unset] [(.int (lcmpW rR (0 : Int64)))])) _
        refine XS.ifYes X101.here hx rfl (pc0 := 194) (pc' := 228) rfl (hb hby at_194) rfl ((if0 _ _).trans (feq (mt (lw_eq _ _).mp hc194)).2) (by decide) (by decide) ?_
        show Steps p.tables e below (T101.setTop (mkF m 228 #[.val (.long x0), .second, .val (.long x1), .second, .val (.long x2), .second, .val (.long x3), .second, .val (.long x4), .second, .val (.int x5), .val (.int b8), .val (.long un), .second, .val (.long qf), .second, .val (.long qr), .second, .val (.long rF), .second, .val (.long rR), .second, .val (.long ((un * qf) + rF)), .second, .val (.long ((un * qr) + rR)), .second, .val (.ref rp), .val (.ref b97), .unset] [])) _
        refine XS.iconst X101.here hx rfl (hb hby at_228) ?_
        show Steps p.tables e below (T101.setTop (mkF m 229 #[.val (.long x0), .second, .val (.long x1), .second, .val (.long x2), .second, .val (.long x3), .second, .val (.long x4), .second, .val (.int x5), .val (.int b8), .val (.long un), .second, .val (.long qf), .second, .val (.long qr), .second, .val (.long rF), .second, .val (.long rR), .second, .val (.long ((un * qf) + rF)), .second, .val (.long ((un * qr) + rR)), .second, .val (.ref rp), .val (.ref b97), .unset] [(.int (0 : Int32))])) _
        refine XS.istore X101.here hx rfl (hb hby at_229) rfl (l' := #[.val (.long x0), .second, .val (.long x1), .second, .val (.long x2), .second, .val (.long x3), .second, .val (.long x4), .second, .val (.int x5), .val (.int b8), .val (.long un), .second, .val (.long qf), .second, .val (.long qr), .second, .val (.long rF), .second, .val (.long rR), .second, .val (.long ((un * qf) + rF)), .second, .val (.long ((un * qr) + rR)), .second, .val (.ref rp), .val (.ref b97), .val (.int (0 : Int32))]) rfl ?_
        show Steps p.tables e below (T101.setTop (mkF m 231 #[.val (.long x0), .second, .val (.long x1), .second, .val (.long x2), .second, .val (.long x3), .second, .val (.long x4), .second, .val (.int x5), .val (.int b8), .val (.long un), .second, .val (.long qf), .second, .val (.long qr), .second, .val (.long rF), .second, .val (.long rR), .second, .val (.long ((un * qf) + rF)), .second, .val (.long ((un * qr) + rR)), .second, .val (.ref rp), .val (.ref b97), .val (.int (0 : Int32))] [])) _
        refine XS.aload X101.here hx rfl (hb hby at_231) rfl rfl ?_
        show Steps p.tables e below (T101.setTop (mkF m 233 #[.val (.long x0), .second, .val (.long x1), .second, .val (.long x2), .second, .val (.long x3), .second, .val (.long x4), .second, .val (.int x5), .val (.int b8), .val (.long un), .second, .val (.long qf), .second, .val (.long qr), .second, .val (.long rF), .second, .val (.long rR), .second, .val (.long ((un * qf) + rF)), .second, .val (.long ((un * qr) + rR)), .second, .val (.ref rp), .val (.ref b97), .val (.int (0 : Int32))] [(.ref b97)])) _
        refine XS.lload X101.here hx rfl (hb hby at_233) rfl ?_
        show Steps p.tables e below (T101.setTop (mkF m 235 #[.val (.long x0), .second, .val (.long x1), .second, .val (.long x2), .second, .val (.long x3), .second, .val (.long x4), .second, .val (.int x5), .val (.int b8), .val (.long un), .second, .val (.long qf), .second, .val (.long qr), .second, .val (.long rF), .second, .val (.long rR), .second, .val (.long ((un * qf) + rF)), .second, .val (.long ((un * qr) + rR)), .second, .val (.ref rp), .val (.ref b97), .val (.int (0 : Int32))] [(.long un), (.ref b97)])) _
        refine st123.trans ?_
        show Steps p.tables e below (T123.setTop (mkF m 238 #[.val (.long x0), .second, .val (.long x1), .second, .val (.long x2), .second, .val (.long x3), .second, .val (.long x4), .second, .val (.int x5), .val (.int b8), .val (.long un), .second, .val (.long qf), .second, .val (.long qr), .second, .val (.long rF), .second, .val (.long rR), .second, .val (.long ((un * qf) + rF)), .second, .val (.long ((un * qr) + rR)), .second, .val (.ref rp), .val (.ref b97), .val (.int (0 : Int32))] [(.int (0 : Int32))])) _
        refine XS.iload X123.here hx rfl (hb hby at_238) rfl ?_
        exact kk)
      obtain ⟨fs, hr, hrun, hended, hRW⟩ := X123.leaveW hS101 (by rw [e123]; exact (Nat.le_refl T101.heap.size)) (v := some (.int (1 : Int32))) (fun h => by rw [Bd.returns] at h; cases h)
      refine ⟨_, _, pre124 _ ?_, hrun, hended, _, _, rfl, ?_, ⟨_, rfl⟩, hRW.2.1, hRW.2.2.1, hRW.2.2.2.mono (by decide) (by decide)⟩
      · show Steps p.tables e below (T123.setTop (mkF m 240 #[.val (.long x0), .second, .val (.long x1), .second, .val (.long x2), .second, .val (.long x3), .second, .val (.long x4), .second, .val (.int x5), .val (.int b8), .val (.long un), .second, .val (.long qf), .second, .val (.long qr), .second, .val (.long rF), .second, .val (.long rR), .second, .val (.long ((un * qf) + rF)), .second, .val (.long ((un * qr) + rR)), .second, .val (.ref rp), .val (.ref b97), .val (.int (0 : Int32))] [(.int (0 : Int32)), (.int (0 : Int32))])) _
        refine XS.icmpNo X123.here hx rfl (hb hby at_240) rfl (teq (by decide : (0 : Int32) = (0 : Int32))).2 ?_
        show Steps p.tables e below (T123.setTop (mkF m 243 #[.val (.long x0), .second, .val (.long x1), .second, .val (.long x2), .second, .val (.long x3), .second, .val (.long x4), .second, .val (.int x5), .val (.int b8), .val (.long un), .second, .val (.long qf), .second, .val (.long qr), .second, .val (.long rF), .second, .val (.long rR), .second, .val (.long ((un * qf) + rF)), .second, .val (.long ((un * qr) + rR)), .second, .val (.ref rp), .val (.ref b97), .val (.int (0 : Int32))] [])) _
        refine XS.iconst X123.here hx rfl (hb hby at_243) ?_
        show Steps p.tables e below (T123.setTop (mkF m 244 #[.val (.long x0), .second, .val (.long x1), .second, .val (.long x2), .second, .val (.long x3), .second, .val (.long x4), .second, .val (.int x5), .val (.int b8), .val (.long un), .second, .val (.long qf), .second, .val (.long qr), .second, .val (.long rF), .second, .val (.long rR), .second, .val (.long ((un * qf) + rF)), .second, .val (.long ((un * qr) + rR)), .second, .val (.ref rp), .val (.ref b97), .val (.int (0 : Int32))] [(.int (1 : Int32))])) _
        refine XS.goto X123.here hx rfl (pc0 := 244) (pc' := 248) rfl (hb hby at_244) (by decide) (by decide) ?_
        show Steps p.tables e below (T123.setTop (mkF m 248 #[.val (.long x0), .second, .val (.long x1), .second, .val (.long x2), .second, .val (.long x3), .second, .val (.long x4), .second, .val (.int x5), .val (.int b8), .val (.long un), .second, .val (.long qf), .second, .val (.long qr), .second, .val (.long rF), .second, .val (.long rR), .second, .val (.long ((un * qf) + rF)), .second, .val (.long ((un * qr) + rR)), .second, .val (.ref rp), .val (.ref b97), .val (.int (0 : Int32))] [(.int (1 : Int32))])) _
        exact retN X123 hx (t := .boolean) Bd.returns (by simp) (hb hby at_248) hr
      · exact ⟨rfl, N123⟩
  · have ov125 : own_iv un ((un * qf) + rF) ((un * qr) + rR) = 0 := (own_iv01 _ _ _).resolve_right fun q => hc187 ((own_valid hm81_0 hm81_1 hm85_0 hm88_0).mp q).1
    obtain ⟨cq126, kq126, q126a, q126b, q126c⟩ := isOf hZ (rfl : T101.heap = T101.heap) f104
    obtain ⟨vv126, _, ⟨T126, L126, k126, n126⟩, -, X126, ⟨Lc126, hQ126, l126, y126, z126⟩, st126⟩ := X101.virtualBack hx (y := (⟨"com/example/slidebook/slidebook/engine/Reserve", "isValidFor", "(J)Z"⟩ : MethodName)) (z := (⟨"com/example/slidebook/slidebook/engine/Reserve", "isValidFor", "(J)Z"⟩ : MethodName)) hown (mvT hZ (hw _ (List.mem_of_getElem? (i := 39) rfl))) (mvT hZ (hw _ (List.mem_of_getElem? (i := 40) rfl))) (notFace_of_selects (args := #[]) (mvT hZ (hw _ (List.mem_of_getElem? (i := 42) rfl)))) (mvT hZ (hw _ (List.mem_of_getElem? (i := 42) rfl))) (mvT hZ (hw _ (List.mem_of_getElem? (i := 41) rfl))) (by decide) (backOf (W := 0) (rm_iv l Z a0 hw [] b97 un ((un * qf) + rF) ((un * qr) + rR) T101.heap n0 f102 Fm101 Fr101 (own_ne0 hm81_0)) hZ (hw _ (List.mem_of_getElem? (i := 43) rfl)) (hw _ (List.mem_of_getElem? (i := 7) rfl)) (by decide) (by decide)) q126a q126c (g := (mkF m 235 #[.val (.long x0), .second, .val (.long x1), .second, .val (.long x2), .second, .val (.long x3), .second, .val (.long x4), .second, .val (.int x5), .val (.int b8), .val (.long un), .second, .val (.long qf), .second, .val (.long qr), .second, .val (.long rF), .second, .val (.long rR), .second, .val (.long ((un * qf) + rF)), .second, .val (.long ((un * qr) + rR)), .second, .val (.ref rp), .val (.ref b97), .val (.int (0 : Int32))] [(.long un), (.ref b97)])) rfl (by rw [hml]; rfl) (Steps.refl _) (argsL := [(.long un)]) (rest := []) (lenOf own_pd_3 rfl) rfl (by show 2 * 0 + _ ≤ _; exact Nat.le_of_eq rfl) (hb hby at_235) (fun _ _ => ⟨rfl, (rfl : T101.heap = T101.heap), (by decide : 3 + 0 ≤ _), (by decide : 103 + 0 ≤ _)⟩)
    dsimp only [Pt.U, Pt.locs, Pt.cells, Pt.slots] at X126 l126 y126 z126 st126 hQ126
    subst l126 y126 z126
    rw [ov125] at hQ126
    obtain ⟨rfl, N126q, e126⟩ := hQ126
    have N126 := Fr.app N101 N126q
    have pre127 : ∀ t, Steps p.tables e below (T126.setTop (mkF m 240 #[.val (.long x0), .second, .val (.long x1), .second, .val (.long x2), .second, .val (.long x3), .second, .val (.long x4), .second, .val (.int x5), .val (.int b8), .val (.long un), .second, .val (.long qf), .second, .val (.long qr), .second, .val (.long rF), .second, .val (.long rR), .second, .val (.long ((un * qf) + rF)), .second, .val (.long ((un * qr) + rR)), .second, .val (.ref rp), .val (.ref b97), .val (.int (0 : Int32))] [(.int (0 : Int32)), (.int (0 : Int32))])) t → Steps p.tables e below (s₁.setTop (entryFrame m #[(.long x0), (.long x1), (.long x2), (.long x3), (.long x4), (.int x5)] maxLocals)) t := fun tt kk => pre105 tt (by
      show Steps p.tables e below (T101.setTop (mkF m 187 #[.val (.long x0), .second, .val (.long x1), .second, .val (.long x2), .second, .val (.long x3), .second, .val (.long x4), .second, .val (.int x5), .val (.int b8), .val (.long un), .second, .val (.long qf), .second, .val (.long qr), .second, .val (.long rF), .second, .val (.long rR), .second, .val (.long ((un * qf) + rF)), .second, .val (.long ((un * qr) + rR)), .second, .val (.ref rp), .val (.ref b97), .unset] [(.int (lcmpW rF (0 : Int64)))])) _
      refine XS.ifYes X101.here hx rfl (pc0 := 187) (pc' := 228) rfl (hb hby at_187) rfl ((if0 _ _).trans (feq (mt (lw_eq _ _).mp hc187)).2) (by decide) (by decide) ?_
      show Steps p.tables e below (T101.setTop (mkF m 228 #[.val (.long x0), .second, .val (.long x1), .second, .val (.long x2), .second, .val (.long x3), .second, .val (.long x4), .second, .val (.int x5), .val (.int b8), .val (.long un), .second, .val (.long qf), .second, .val (.long qr), .second, .val (.long rF), .second, .val (.long rR), .second, .val (.long ((un * qf) + rF)), .second, .val (.long ((un * qr) + rR)), .second, .val (.ref rp), .val (.ref b97), .unset] [])) _
      refine XS.iconst X101.here hx rfl (hb hby at_228) ?_
      show Steps p.tables e below (T101.setTop (mkF m 229 #[.val (.long x0), .second, .val (.long x1), .second, .val (.long x2), .second, .val (.long x3), .second, .val (.long x4), .second, .val (.int x5), .val (.int b8), .val (.long un), .second, .val (.long qf), .second, .val (.long qr), .second, .val (.long rF), .second, .val (.long rR), .second, .val (.long ((un * qf) + rF)), .second, .val (.long ((un * qr) + rR)), .second, .val (.ref rp), .val (.ref b97), .unset] [(.int (0 : Int32))])) _
      refine XS.istore X101.here hx rfl (hb hby at_229) rfl (l' := #[.val (.long x0), .second, .val (.long x1), .second, .val (.long x2), .second, .val (.long x3), .second, .val (.long x4), .second, .val (.int x5), .val (.int b8), .val (.long un), .second, .val (.long qf), .second, .val (.long qr), .second, .val (.long rF), .second, .val (.long rR), .second, .val (.long ((un * qf) + rF)), .second, .val (.long ((un * qr) + rR)), .second, .val (.ref rp), .val (.ref b97), .val (.int (0 : Int32))]) rfl ?_
      show Steps p.tables e below (T101.setTop (mkF m 231 #[.val (.long x0), .second, .val (.long x1), .second, .val (.long x2), .second, .val (.long x3), .second, .val (.long x4), .second, .val (.int x5), .val (.int b8), .val (.long un), .second, .val (.long qf), .second, .val (.long qr), .second, .val (.long rF), .second, .val (.long rR), .second, .val (.long ((un * qf) + rF)), .second, .val (.long ((un * qr) + rR)), .second, .val (.ref rp), .val (.ref b97), .val (.int (0 : Int32))] [])) _
      refine XS.aload X101.here hx rfl (hb hby at_231) rfl rfl ?_
      show Steps p.tables e below (T101.setTop (mkF m 233 #[.val (.long x0), .second, .val (.long x1), .second, .val (.long x2), .second, .val (.long x3), .second, .val (.long x4), .second, .val (.int x5), .val (.int b8), .val (.long un), .second, .val (.long qf), .second, .val (.long qr), .second, .val (.long rF), .second, .val (.long rR), .second, .val (.long ((un * qf) + rF)), .second, .val (.long ((un * qr) + rR)), .second, .val (.ref rp), .val (.ref b97), .val (.int (0 : Int32))] [(.ref b97)])) _
      refine XS.lload X101.here hx rfl (hb hby at_233) rfl ?_
      show Steps p.tables e below (T101.setTop (mkF m 235 #[.val (.long x0), .second, .val (.long x1), .second, .val (.long x2), .second, .val (.long x3), .second, .val (.long x4), .second, .val (.int x5), .val (.int b8), .val (.long un), .second, .val (.long qf), .second, .val (.long qr), .second, .val (.long rF), .second, .val (.long rR), .second, .val (.long ((un * qf) + rF)), .second, .val (.long ((un * qr) + rR)), .second, .val (.ref rp), .val (.ref b97), .val (.int (0 : Int32))] [(.long un), (.ref b97)])) _
      refine st126.trans ?_
      show Steps p.tables e below (T126.setTop (mkF m 238 #[.val (.long x0), .second, .val (.long x1), .second, .val (.long x2), .second, .val (.long x3), .second, .val (.long x4), .second, .val (.int x5), .val (.int b8), .val (.long un), .second, .val (.long qf), .second, .val (.long qr), .second, .val (.long rF), .second, .val (.long rR), .second, .val (.long ((un * qf) + rF)), .second, .val (.long ((un * qr) + rR)), .second, .val (.ref rp), .val (.ref b97), .val (.int (0 : Int32))] [(.int (0 : Int32))])) _
      refine XS.iload X126.here hx rfl (hb hby at_238) rfl ?_
      exact kk)
    obtain ⟨fs, hr, hrun, hended, hRW⟩ := X126.leaveW hS101 (by rw [e126]; exact (Nat.le_refl T101.heap.size)) (v := some (.int (1 : Int32))) (fun h => by rw [Bd.returns] at h; cases h)
    refine ⟨_, _, pre127 _ ?_, hrun, hended, _, _, rfl, ?_, ⟨_, rfl⟩, hRW.2.1, hRW.2.2.1, hRW.2.2.2.mono (by decide) (by decide)⟩
    · show Steps p.tables e below (T126.setTop (mkF m 240 #[.val (.long x0), .second, .val (.long x1), .second, .val (.long x2), .second, .val (.long x3), .second, .val (.long x4), .second, .val (.int x5), .val (.int b8), .val (.long un), .second, .val (.long qf), .second, .val (.long qr), .second, .val (.long rF), .second, .val (.long rR), .second, .val (.long ((un * qf) + rF)), .second, .val (.long ((un * qr) + rR)), .second, .val (.ref rp), .val (.ref b97), .val (.int (0 : Int32))] [(.int (0 : Int32)), (.int (0 : Int32))])) _
      refine XS.icmpNo X126.here hx rfl (hb hby at_240) rfl (teq (by decide : (0 : Int32) = (0 : Int32))).2 ?_
      show Steps p.tables e below (T126.setTop (mkF m 243 #[.val (.long x0), .second, .val (.long x1), .second, .val (.long x2), .second, .val (.long x3), .second, .val (.long x4), .second, .val (.int x5), .val (.int b8), .val (.long un), .second, .val (.long qf), .second, .val (.long qr), .second, .val (.long rF), .second, .val (.long rR), .second, .val (.long ((un * qf) + rF)), .second, .val (.long ((un * qr) + rR)), .second, .val (.ref rp), .val (.ref b97), .val (.int (0 : Int32))] [])) _
      refine XS.iconst X126.here hx rfl (hb hby at_243) ?_
      show Steps p.tables e below (T126.setTop (mkF m 244 #[.val (.long x0), .second, .val (.long x1), .second, .val (.long x2), .second, .val (.long x3), .second, .val (.long x4), .second, .val (.int x5), .val (.int b8), .val (.long un), .second, .val (.long qf), .second, .val (.long qr), .second, .val (.long rF), .second, .val (.long rR), .second, .val (.long ((un * qf) + rF)), .second, .val (.long ((un * qr) + rR)), .second, .val (.ref rp), .val (.ref b97), .val (.int (0 : Int32))] [(.int (1 : Int32))])) _
      refine XS.goto X126.here hx rfl (pc0 := 244) (pc' := 248) rfl (hb hby at_244) (by decide) (by decide) ?_
      show Steps p.tables e below (T126.setTop (mkF m 248 #[.val (.long x0), .second, .val (.long x1), .second, .val (.long x2), .second, .val (.long x3), .second, .val (.long x4), .second, .val (.int x5), .val (.int b8), .val (.long un), .second, .val (.long qf), .second, .val (.long qr), .second, .val (.long rF), .second, .val (.long rR), .second, .val (.long ((un * qf) + rF)), .second, .val (.long ((un * qr) + rR)), .second, .val (.ref rp), .val (.ref b97), .val (.int (0 : Int32))] [(.int (1 : Int32))])) _
      exact retN X126 hx (t := .boolean) Bd.returns (by simp) (hb hby at_248) hr
    · exact ⟨rfl, N126⟩
set_option maxRecDepth 65536 in
set_option maxHeartbeats 40000000 in
theorem comes_1 {Post : Tables → Env → Array Value → State → Outcome → State → Prop} (hpost : ∀ tb e args s v u, (limb_1_1.after args s (.returned v) u = true ∧ limb_1_2.after args s (.returned v) u = true ∧ True) → ReturnedEndW s (.returned v) u (Jvm.fieldLocs frame_1_writes args s ++ Jvm.arrayLocs frame_1_arrays args s ++ Jvm.staticLocs frame_1_statics s) 16 1152 → Post tb e args s (.returned v) u) :
    ArmFor flags0 classFile x code maxLocals ret World_1 tables_1 room_1 Calls_1 rest_1 Pre_1 Post := by
  intro l hfl _ _ p e ha hc hk s m args below hf hA hF happ hP
  obtain ⟨hcalls, hrest, hpre⟩ := hP
  obtain ⟨-, -, -, hnamed, -, -, -, hat⟩ := (Spec.applies_iff hf).mp happ
  obtain ⟨hg, hn⟩ := and_e (Cond.before_iff.mp (show (Jvm.Cond.and given_1 narrow_1).before args s = true from hpre))
  obtain ⟨g0, g0r⟩ := and_e hg
  obtain ⟨g1, g1r⟩ := and_e g0r
  obtain ⟨g2, g2r⟩ := and_e g1r
  obtain ⟨g3, g3r⟩ := and_e g2r
  obtain ⟨g4, g4r⟩ := and_e g3r
  obtain ⟨g5, g5r⟩ := and_e g4r
  obtain ⟨w0_, w1_, w2_, w3_, w4_, w5_, rfl⟩ : ∃ w0_ w1_ w2_ w3_ w4_ w5_ : Value, args = #[w0_, w1_, w2_, w3_, w4_, w5_] := by
    have hs : args.size = 6 := by simpa [Cond.value, given_1] using g0
    obtain ⟨L⟩ := args
    match L, hs with
    | [w0_, w1_, w2_, w3_, w4_, w5_], _ => exact ⟨w0_, w1_, w2_, w3_, w4_, w5_, rfl⟩
  have hw := fun d (hd : d ∈ tables_1) => atoms_spec (ws := Jvm.Cond.code x code maxLocals ret :: tables_1) hat d (List.mem_cons_of_mem _ hd)
  have hfit : Fit s := fun {y c} hc i hi => by
    obtain ⟨ha, rfl⟩ := Array.getElem?_eq_some_iff.mp hc
    have q := List.all_eq_true.mp ((Array.all_eq_true_iff_forall_mem.mp hF) _ (Array.getElem_mem ha)) i (List.mem_range.mpr hi)
    simpa [Array.getElem?_eq_getElem hi] using q
  obtain ⟨i0, ei0⟩ := isL_v g1
  obtain rfl : w0_ = (.long i0) := Option.some.inj ei0
  obtain ⟨i1, ei1⟩ := isL_v g2
  obtain rfl : w1_ = (.long i1) := Option.some.inj ei1
  obtain ⟨i2, ei2⟩ := isL_v g3
  obtain rfl : w2_ = (.long i2) := Option.some.inj ei2
  obtain ⟨i3, ei3⟩ := isL_v g4
  obtain rfl : w3_ = (.long i3) := Option.some.inj ei3
  obtain ⟨i4, ei4⟩ := isL_v g5
  obtain rfl : w4_ = (.long i4) := Option.some.inj ei4
  obtain ⟨i5, ei5⟩ := is_v g5r
  obtain rfl : w5_ = (.int i5) := Option.some.inj ei5
  obtain ⟨n0, n0r⟩ := and_e hn
  obtain ⟨n1, n1r⟩ := and_e n0r
  obtain ⟨n2, n2r⟩ := and_e n1r
  obtain ⟨v0, ev0⟩ := exa_v n1
  have S0 : Sta s s.heap "com/example/slidebook/slidebook/engine/Replenish" "FIXED" "Lcom/example/slidebook/slidebook/engine/Replenish;" (.ref v0) := Sta.start ev0 (Or.inr ⟨(hw _ (List.mem_of_getElem? (i := 3) rfl)), (hw _ (List.mem_of_getElem? (i := 32) rfl))⟩)
  have E0 : Exa s s.heap v0 "com/example/slidebook/slidebook/engine/Replenish" := Exa.start ev0 n1
  obtain ⟨v1, ev1⟩ := exa_v n0
  have S1 : Sta s s.heap "com/example/slidebook/slidebook/engine/Replenish" "RANDOM" "Lcom/example/slidebook/slidebook/engine/Replenish;" (.ref v1) := Sta.start ev1 (Or.inr ⟨(hw _ (List.mem_of_getElem? (i := 3) rfl)), (hw _ (List.mem_of_getElem? (i := 4) rfl))⟩)
  have E1 : Exa s s.heap v1 "com/example/slidebook/slidebook/engine/Replenish" := Exa.start ev1 n0
  have F0 := own_fld ev0 n2r
  have F1 := own_fld ev1 n2
  obtain ⟨n, o, h1, h2, h3, _, L, rfl, ⟨rfl, N⟩, hq⟩ := rm0 l s _ hw tables_1 i0 i1 i2 i3 i4 i5 (fun i => [v0, v1].getD i 0) s.heap s.heap.size (Nat.le_refl _) (Old.start s) ⟨S0, S1⟩ (Fld.ne F1 F0 (by decide)) p e ha hc hk s m _ below hf ((Spec.applies_iff_loose hf).mp happ).1 ⟨rfl, State.Warmed39.refl s, rfl⟩ trivial
  refine ⟨n, _, h1, h2, h3, hpost _ _ _ _ _ _ ⟨Cond.after_iff.mpr rfl, Cond.after_iff.mpr (eq_i res_at (Term.int_eval (1)) rfl), trivial⟩ ⟨hq.1, hq.2.1, hq.2.2.1, (hq.2.2.2.sift fun y hy => Or.inr (N y hy)).mono (by decide) (by decide)⟩⟩
theorem main_1_1 : Claimed_1_1 := comes_1 fun _ _ _ _ _ _ h hF => ⟨h.1, hF⟩
theorem main_1_2 : Claimed_1_2 := comes_1 fun _ _ _ _ _ _ h hF => ⟨h.2.1, hF⟩
end Jvm.Pilot.@@N@@
namespace Jvm.Pilot.@@N@@
open Jvm Jvm.ClassFile Sem Op Lib Jvm.Free Jvm.Stand Jvm.Pilot.@@N@@.Jvm.D
/-! MADE BY PROGRAM (witnessworld.py) out of the Statement's table words and the real class files: 18 classes; the members and pool entries that the words name. The judged class is class 1, her method 1. -/
namespace start1
open Jvm.ClassFile
def u (s : String) : CpInfo := .utf8 (stringToUtf16 s)
/-- a pool by its gaps: so many unusable entries, then the entry; so many at the end -/
def gap : Nat → List CpInfo → List CpInfo
  | 0, r => r
  | n + 1, r => .unusable :: gap n r
def poolList (es : List (Nat × CpInfo)) (last : Nat) : List CpInfo := es.foldr (fun e r => gap e.1 (e.2 :: r)) (gap last [])
def pool (es : List (Nat × CpInfo)) (last : Nat) : Array CpInfo := ⟨poolList es last⟩
def fileOf (pool : Array CpInfo) (this : Nat) (attrs : Array Attribute := #[]) (ms : Array MethodInfo := #[]) (fl : Nat := 33) (sup : Nat := 0) (ifs : Array Nat := #[]) (fds : Array FieldInfo := #[]) : ClassFile where
  minorVersion := 0
  majorVersion := 65
  constantPool := pool
  accessFlags := fl
  thisClass := this
  superClass := sup
  interfaces := ifs
  fields := fds
  methods := ms
  attributes := attrs
def plain (name : String) (sup : Option ClassId) : Class where
  name := name
  kind := .ordinary
  loader := none
  accessFlags := 33
  super := sup
  interfaces := #[]
  cf := none
  fields := #[]
  methods := #[]
  instanceTypes := #[]
  staticTypes := #[]
  resolved := #[]
  callSites := []
  init := .initialized
  statics := none
  mirror := none

def pool0 : Array CpInfo := pool [(5, u "<init>"), (0, u "()V"), (1, .class_ 10), (1, u "java/lang/Object")] 113

def k0c0 : Code := { maxStack := 0, maxLocals := 1, code := object_method_1_code, exceptionTable := #[], attributes := #[] }
def k0m0 : Method := { name := "<init>", desc := "()V", sig := { parameters := [], returnType := none }, accessFlags := 1, code := some k0c0 }
/-- java/lang/Object -/
def k0 : Class := { plain "java/lang/Object" none with
  accessFlags := 33
  interfaces := #[]
  cf := some (fileOf pool0 8 #[] #[{ accessFlags := 1, nameIndex := 5, descriptorIndex := 6, attributes := #[] }] 33 0 #[] #[])
  fields := #[]
  methods := #[k0m0]
  instanceTypes := #[]
  staticTypes := #[]
  resolved := Array.replicate 124 none
  statics := none }

def pool1 : Array CpInfo := pool [(2, .class_ 4), (1, u "java/lang/Object"), (0, u "<init>"), (0, u "()V"), (0, .long 4611686018427387903), (1, .long 2147483647), (1, .long 3), (3, .long 9223372036854775807), (1, .fieldref 18 19), (0, .class_ 20), (0, .nameAndType 21 22), (0, u "com/example/slidebook/slidebook/engine/Replenish"), (0, u "FIXED"), (0, u "Lcom/example/slidebook/slidebook/engine/Replenish;"), (0, .fieldref 18 24), (0, .nameAndType 25 22), (0, u "RANDOM"), (0, .class_ 27), (0, u "com/example/slidebook/slidebook/engine/Reserve"), (0, .methodref 26 29), (0, .nameAndType 5 30), (0, u "(JLcom/example/slidebook/slidebook/engine/Replenish;J)V"), (0, .class_ 32), (0, u "com/example/slidebook/slidebook/engine/ReserveIsValidForPinLaw"), (0, .long 1000000000), (1, .methodref 26 36), (0, .nameAndType 37 38), (0, u "isValidFor"), (0, u "(J)Z"), (0, u "MAX_QUANTITY"), (0, u "J"), (3, u "law"), (0, u "(JJJJJI)Z")] 3

def k1m0 : Method := { name := "<init>", desc := "()V", sig := { parameters := [], returnType := none }, accessFlags := 1, code := none }
def k1c1 : Code := { maxStack := 7, maxLocals := 29, code := code, exceptionTable := #[], attributes := #[] }
def k1m1 : Method := { name := "law", desc := "(JJJJJI)Z", sig := { parameters := [.long, .long, .long, .long, .long, .int], returnType := some .boolean }, accessFlags := 9, code := some k1c1 }
/-- com/example/slidebook/slidebook/engine/ReserveIsValidForPinLaw -/
def k1 : Class := { plain "com/example/slidebook/slidebook/engine/ReserveIsValidForPinLaw" (some 0) with
  accessFlags := 49
  interfaces := #[]
  cf := some (fileOf pool1 31 #[] #[{ accessFlags := 1, nameIndex := 5, descriptorIndex := 6, attributes := #[] }, { accessFlags := 9, nameIndex := 44, descriptorIndex := 45, attributes := #[] }] 49 2 #[] #[{ accessFlags := 26, nameIndex := 39, descriptorIndex := 40, attributes := #[] }])
  fields := #[{ name := "MAX_QUANTITY", type := .long, accessFlags := 26, slot := 0, constantValue := 0 }]
  methods := #[k1m0, k1m1]
  instanceTypes := #[]
  staticTypes := #[.long]
  resolved := Array.replicate 49 none
  statics := none }

def pool2 : Array CpInfo := pool [(1, .class_ 2), (0, u "java/lang/constant/Constable"), (0, .class_ 4), (0, u "java/lang/Object")] 6

/-- java/lang/constant/Constable -/
def k2 : Class := { plain "java/lang/constant/Constable" (some 0) with
  accessFlags := 1537
  interfaces := #[]
  cf := some (fileOf pool2 1 #[] #[] 1537 3 #[] #[])
  fields := #[]
  methods := #[]
  instanceTypes := #[]
  staticTypes := #[]
  resolved := Array.replicate 11 none
  statics := none }

def pool3 : Array CpInfo := pool [(1, .class_ 2), (0, u "java/lang/Comparable"), (0, .class_ 4), (0, u "java/lang/Object")] 7

/-- java/lang/Comparable -/
def k3 : Class := { plain "java/lang/Comparable" (some 0) with
  accessFlags := 1537
  interfaces := #[]
  cf := some (fileOf pool3 1 #[] #[] 1537 3 #[] #[])
  fields := #[]
  methods := #[]
  instanceTypes := #[]
  staticTypes := #[]
  resolved := Array.replicate 12 none
  statics := none }

def pool4 : Array CpInfo := pool [(1, .class_ 2), (0, u "java/io/Serializable"), (0, .class_ 4), (0, u "java/lang/Object")] 2

/-- java/io/Serializable -/
def k4 : Class := { plain "java/io/Serializable" (some 0) with
  accessFlags := 1537
  interfaces := #[]
  cf := some (fileOf pool4 1 #[] #[] 1537 3 #[] #[])
  fields := #[]
  methods := #[]
  instanceTypes := #[]
  staticTypes := #[]
  resolved := Array.replicate 7 none
  statics := none }

def pool5 : Array CpInfo := pool [(2, .class_ 4), (1, u "java/lang/Enum"), (0, u "name"), (0, u "Ljava/lang/String;"), (2, u "ordinal"), (0, u "I"), (1, .class_ 14), (1, u "java/lang/Object"), (4, u "hash"), (86, .class_ 108), (1, u "java/lang/Enum$EnumDesc"), (2, .class_ 112), (0, u "java/lang/constant/Constable"), (0, .class_ 114), (0, u "java/lang/Comparable"), (0, .class_ 116), (0, u "java/io/Serializable")] 87

/-- java/lang/Enum -/
def k5 : Class := { plain "java/lang/Enum" (some 0) with
  accessFlags := 1057
  interfaces := #[2, 3, 4]
  cf := some (fileOf pool5 2 #[.nestMembers #[106]] #[] 1057 12 #[111, 113, 115] #[{ accessFlags := 18, nameIndex := 5, descriptorIndex := 6, attributes := #[] }, { accessFlags := 18, nameIndex := 9, descriptorIndex := 10, attributes := #[] }, { accessFlags := 2, nameIndex := 19, descriptorIndex := 10, attributes := #[] }])
  fields := #[{ name := "name", type := (.object "java/lang/String"), accessFlags := 18, slot := 0, constantValue := 0 }, { name := "ordinal", type := .int, accessFlags := 18, slot := 1, constantValue := 0 }, { name := "hash", type := .int, accessFlags := 2, slot := 2, constantValue := 0 }]
  methods := #[]
  instanceTypes := #[(.object "java/lang/String"), .int, .int]
  staticTypes := #[]
  resolved := Array.replicate 204 none
  statics := none }

def pool6 : Array CpInfo := pool [(1, .class_ 2), (0, u "com/example/slidebook/slidebook/engine/Replenish"), (2, u "FIXED"), (0, u "Lcom/example/slidebook/slidebook/engine/Replenish;"), (2, u "RANDOM"), (2, u "$VALUES"), (0, u "[Lcom/example/slidebook/slidebook/engine/Replenish;"), (6, .class_ 22), (1, u "java/lang/Enum"), (8, u "text"), (0, u "Ljava/lang/String;")] 26

/-- com/example/slidebook/slidebook/engine/Replenish -/
def k6 : Class := { plain "com/example/slidebook/slidebook/engine/Replenish" (some 5) with
  accessFlags := 16433
  interfaces := #[]
  cf := some (fileOf pool6 1 #[] #[] 16433 20 #[] #[{ accessFlags := 16409, nameIndex := 5, descriptorIndex := 6, attributes := #[] }, { accessFlags := 16409, nameIndex := 9, descriptorIndex := 6, attributes := #[] }, { accessFlags := 18, nameIndex := 31, descriptorIndex := 32, attributes := #[] }, { accessFlags := 4122, nameIndex := 12, descriptorIndex := 13, attributes := #[] }])
  fields := #[{ name := "FIXED", type := (.object "com/example/slidebook/slidebook/engine/Replenish"), accessFlags := 16409, slot := 0, constantValue := 0 }, { name := "RANDOM", type := (.object "com/example/slidebook/slidebook/engine/Replenish"), accessFlags := 16409, slot := 1, constantValue := 0 }, { name := "text", type := (.object "java/lang/String"), accessFlags := 18, slot := 3, constantValue := 0 }, { name := "$VALUES", type := (.array (.object "com/example/slidebook/slidebook/engine/Replenish")), accessFlags := 4122, slot := 2, constantValue := 0 }]
  methods := #[]
  instanceTypes := #[(.object "java/lang/String"), .int, .int, (.object "java/lang/String")]
  staticTypes := #[(.object "com/example/slidebook/slidebook/engine/Replenish"), (.object "com/example/slidebook/slidebook/engine/Replenish"), (.array (.object "com/example/slidebook/slidebook/engine/Replenish"))]
  resolved := Array.replicate 59 none
  statics := some 0 }

def pool7 : Array CpInfo := pool [(1, .methodref 2 3), (0, .class_ 4), (0, .nameAndType 5 6), (0, u "java/lang/Object"), (0, u "<init>"), (0, u "()V"), (0, .class_ 8), (0, u "java/lang/Record")] 13

def k7c0 : Code := { maxStack := 1, maxLocals := 1, code := jdk_30_method_1_code, exceptionTable := #[], attributes := #[] }
def k7m0 : Method := { name := "<init>", desc := "()V", sig := { parameters := [], returnType := none }, accessFlags := 4, code := some k7c0 }
/-- java/lang/Record -/
def k7 : Class := { plain "java/lang/Record" (some 0) with
  accessFlags := 1057
  interfaces := #[]
  cf := some (fileOf pool7 7 #[] #[{ accessFlags := 4, nameIndex := 5, descriptorIndex := 6, attributes := #[] }] 1057 2 #[] #[])
  fields := #[]
  methods := #[k7m0]
  instanceTypes := #[]
  staticTypes := #[]
  resolved := Array.replicate 22 none
  statics := none }

def pool8 : Array CpInfo := pool [(1, .methodref 2 3), (0, .class_ 4), (0, .nameAndType 5 6), (0, u "java/lang/Record"), (0, u "<init>"), (0, u "()V"), (0, .string 8), (0, u "replenish cannot be null"), (0, .methodref 10 11), (0, .class_ 12), (0, .nameAndType 13 14), (0, u "java/util/Objects"), (0, u "requireNonNull"), (0, u "(Ljava/lang/Object;Ljava/lang/String;)Ljava/lang/Object;"), (0, .fieldref 16 17), (0, .class_ 18), (0, .nameAndType 19 20), (0, u "com/example/slidebook/slidebook/engine/Replenish"), (0, u "FIXED"), (0, u "Lcom/example/slidebook/slidebook/engine/Replenish;"), (21, .fieldref 43 44), (0, .class_ 45), (0, .nameAndType 46 47), (0, u "com/example/slidebook/slidebook/engine/Reserve"), (0, u "maxFloor"), (0, u "J"), (0, .fieldref 43 49), (0, .nameAndType 50 20), (0, u "replenish"), (0, .fieldref 43 52), (0, .nameAndType 53 47), (0, u "range"), (2, u "(JLcom/example/slidebook/slidebook/engine/Replenish;J)V"), (5, .long 1000000000), (29, u "isValidFor"), (0, u "(J)Z")] 29

def k8c0 : Code := { maxStack := 8, maxLocals := 6, code := prog_29_method_1_code, exceptionTable := #[], attributes := #[] }
def k8m0 : Method := { name := "<init>", desc := "(JLcom/example/slidebook/slidebook/engine/Replenish;J)V", sig := { parameters := [.long, (.object "com/example/slidebook/slidebook/engine/Replenish"), .long], returnType := none }, accessFlags := 1, code := some k8c0 }
def k8c1 : Code := { maxStack := 4, maxLocals := 3, code := prog_29_method_4_code, exceptionTable := #[], attributes := #[] }
def k8m1 : Method := { name := "isValidFor", desc := "(J)Z", sig := { parameters := [.long], returnType := some .boolean }, accessFlags := 0, code := some k8c1 }
/-- com/example/slidebook/slidebook/engine/Reserve -/
def k8 : Class := { plain "com/example/slidebook/slidebook/engine/Reserve" (some 7) with
  accessFlags := 49
  interfaces := #[]
  cf := some (fileOf pool8 43 #[] #[{ accessFlags := 1, nameIndex := 5, descriptorIndex := 56, attributes := #[] }, { accessFlags := 0, nameIndex := 92, descriptorIndex := 93, attributes := #[] }] 49 2 #[] #[{ accessFlags := 18, nameIndex := 46, descriptorIndex := 47, attributes := #[] }, { accessFlags := 18, nameIndex := 50, descriptorIndex := 20, attributes := #[] }, { accessFlags := 18, nameIndex := 53, descriptorIndex := 47, attributes := #[] }])
  fields := #[{ name := "maxFloor", type := .long, accessFlags := 18, slot := 0, constantValue := 0 }, { name := "replenish", type := (.object "com/example/slidebook/slidebook/engine/Replenish"), accessFlags := 18, slot := 1, constantValue := 0 }, { name := "range", type := .long, accessFlags := 18, slot := 2, constantValue := 0 }]
  methods := #[k8m0, k8m1]
  instanceTypes := #[.long, (.object "com/example/slidebook/slidebook/engine/Replenish"), .long]
  staticTypes := #[]
  resolved := Array.replicate 123 none
  statics := none }

def pool9 : Array CpInfo := pool [(2, .class_ 4), (1, u "java/lang/CharSequence"), (42, .class_ 48), (0, u "java/lang/CharSequence$1CodePointIterator"), (10, .class_ 60), (0, u "java/lang/CharSequence$1CharIterator"), (5, .class_ 67), (0, u "java/lang/Object")] 63

/-- java/lang/CharSequence -/
def k9 : Class := { plain "java/lang/CharSequence" (some 0) with
  accessFlags := 1537
  interfaces := #[]
  cf := some (fileOf pool9 2 #[.nestMembers #[47, 59]] #[] 1537 66 #[] #[])
  fields := #[]
  methods := #[]
  instanceTypes := #[]
  staticTypes := #[]
  resolved := Array.replicate 131 none
  statics := none }

def pool10 : Array CpInfo := pool [(1, .class_ 2), (0, u "java/lang/constant/ConstantDesc"), (0, .class_ 4), (0, u "java/lang/Object")] 32

/-- java/lang/constant/ConstantDesc -/
def k10 : Class := { plain "java/lang/constant/ConstantDesc" (some 0) with
  accessFlags := 1537
  interfaces := #[]
  cf := some (fileOf pool10 1 #[] #[] 1537 3 #[] #[])
  fields := #[]
  methods := #[]
  instanceTypes := #[]
  staticTypes := #[]
  resolved := Array.replicate 37 none
  statics := none }

def pool11 : Array CpInfo := pool [(2, .class_ 4), (1, u "java/lang/Object"), (0, u "<init>"), (0, u "()V"), (3, .class_ 12), (1, u "java/lang/String"), (0, u "value"), (0, u "[B"), (2, u "coder"), (0, u "B"), (2, u "hash"), (0, u "I"), (2, u "hashIsZero"), (0, u "Z"), (13, u "COMPACT_STRINGS"), (534, .class_ 576), (0, u "java/lang/CharSequence"), (22, u "CASE_INSENSITIVE_ORDER"), (0, u "Ljava/util/Comparator;"), (500, u "serialPersistentFields"), (0, u "[Ljava/io/ObjectStreamField;"), (0, .class_ 1104), (0, u "java/lang/String$CaseInsensitiveComparator"), (1, .class_ 1107), (0, u "java/io/Serializable"), (0, .class_ 1109), (0, u "java/lang/Comparable"), (0, .class_ 1111), (0, u "java/lang/constant/Constable"), (0, .class_ 1113), (0, u "java/lang/constant/ConstantDesc"), (2, u "serialVersionUID"), (0, u "J"), (3, u "REPL"), (0, u "C"), (2, u "LATIN1"), (1, u "UTF16")] 323

def k11m0 : Method := { name := "<init>", desc := "()V", sig := { parameters := [], returnType := none }, accessFlags := 1, code := none }
/-- java/lang/String -/
def k11 : Class := { plain "java/lang/String" (some 0) with
  accessFlags := 49
  interfaces := #[4, 3, 9, 2, 10]
  cf := some (fileOf pool11 10 #[.nestMembers #[1103]] #[{ accessFlags := 1, nameIndex := 5, descriptorIndex := 6, attributes := #[] }] 49 2 #[1106, 1108, 575, 1110, 1112] #[{ accessFlags := 18, nameIndex := 13, descriptorIndex := 14, attributes := #[] }, { accessFlags := 18, nameIndex := 17, descriptorIndex := 18, attributes := #[] }, { accessFlags := 2, nameIndex := 21, descriptorIndex := 22, attributes := #[] }, { accessFlags := 2, nameIndex := 25, descriptorIndex := 26, attributes := #[] }, { accessFlags := 26, nameIndex := 1116, descriptorIndex := 1117, attributes := #[] }, { accessFlags := 24, nameIndex := 40, descriptorIndex := 26, attributes := #[] }, { accessFlags := 26, nameIndex := 1101, descriptorIndex := 1102, attributes := #[] }, { accessFlags := 26, nameIndex := 1121, descriptorIndex := 1122, attributes := #[] }, { accessFlags := 25, nameIndex := 599, descriptorIndex := 600, attributes := #[] }, { accessFlags := 24, nameIndex := 1125, descriptorIndex := 18, attributes := #[] }, { accessFlags := 24, nameIndex := 1127, descriptorIndex := 18, attributes := #[] }])
  fields := #[{ name := "value", type := (.array .byte), accessFlags := 18, slot := 0, constantValue := 0 }, { name := "coder", type := .byte, accessFlags := 18, slot := 1, constantValue := 0 }, { name := "hash", type := .int, accessFlags := 2, slot := 2, constantValue := 0 }, { name := "hashIsZero", type := .boolean, accessFlags := 2, slot := 3, constantValue := 0 }, { name := "serialVersionUID", type := .long, accessFlags := 26, slot := 0, constantValue := 0 }, { name := "COMPACT_STRINGS", type := .boolean, accessFlags := 24, slot := 1, constantValue := 0 }, { name := "serialPersistentFields", type := (.array (.object "java/io/ObjectStreamField")), accessFlags := 26, slot := 2, constantValue := 0 }, { name := "REPL", type := .char, accessFlags := 26, slot := 3, constantValue := 0 }, { name := "CASE_INSENSITIVE_ORDER", type := (.object "java/util/Comparator"), accessFlags := 25, slot := 4, constantValue := 0 }, { name := "LATIN1", type := .byte, accessFlags := 24, slot := 5, constantValue := 0 }, { name := "UTF16", type := .byte, accessFlags := 24, slot := 6, constantValue := 0 }]
  methods := #[k11m0]
  instanceTypes := #[(.array .byte), .byte, .int, .boolean]
  staticTypes := #[.long, .boolean, (.array (.object "java/io/ObjectStreamField")), .char, (.object "java/util/Comparator"), .byte, .byte]
  resolved := Array.replicate 1451 none
  statics := none }

def pool12 : Array CpInfo := pool [(2, .class_ 4), (1, u "java/lang/Object"), (0, u "<init>"), (0, u "()V"), (35, .class_ 44), (1, u "java/util/Objects"), (0, u "requireNonNull"), (48, u "(Ljava/lang/Object;Ljava/lang/String;)Ljava/lang/Object;")] 89

def k12m0 : Method := { name := "<init>", desc := "()V", sig := { parameters := [], returnType := none }, accessFlags := 2, code := none }
def k12c1 : Code := { maxStack := 3, maxLocals := 2, code := jdk_31_method_11_code, exceptionTable := #[], attributes := #[] }
def k12m1 : Method := { name := "requireNonNull", desc := "(Ljava/lang/Object;Ljava/lang/String;)Ljava/lang/Object;", sig := { parameters := [(.object "java/lang/Object"), (.object "java/lang/String")], returnType := some (.object "java/lang/Object") }, accessFlags := 9, code := some k12c1 }
/-- java/util/Objects -/
def k12 : Class := { plain "java/util/Objects" (some 0) with
  accessFlags := 49
  interfaces := #[]
  cf := some (fileOf pool12 42 #[] #[{ accessFlags := 2, nameIndex := 5, descriptorIndex := 6, attributes := #[] }, { accessFlags := 9, nameIndex := 45, descriptorIndex := 94, attributes := #[] }] 49 2 #[] #[])
  fields := #[]
  methods := #[k12m0, k12m1]
  instanceTypes := #[]
  staticTypes := #[]
  resolved := Array.replicate 184 none
  statics := none }

def pool13 : Array CpInfo := pool [(1, u "java/lang/Cloneable"), (0, .class_ 1), (0, u "java/lang/Object"), (0, .class_ 3)] 3

/-- java/lang/Cloneable -/
def k13 : Class := { plain "java/lang/Cloneable" (some 0) with
  accessFlags := 1537
  interfaces := #[]
  cf := some (fileOf pool13 2 #[] #[] 1537 4 #[] #[])
  fields := #[]
  methods := #[]
  instanceTypes := #[]
  staticTypes := #[]
  resolved := Array.replicate 8 none
  statics := none }

/-- the primitive byte -/
def k14 : Class := { plain "byte" none with kind := .primitive 'B', accessFlags := 0x411 }
/-- [B -/
def k15 : Class := { plain "[B" (some 0) with kind := .array 14 .byte, interfaces := #[13, 4], accessFlags := 1041 }

/-- the primitive int -/
def k16 : Class := { plain "int" none with kind := .primitive 'I', accessFlags := 0x411 }
/-- [I -/
def k17 : Class := { plain "[I" (some 0) with kind := .array 16 .int, interfaces := #[13, 4], accessFlags := 1041 }

def heap : Heap := #[{ cls := 6, slots := #[.ref 1, .ref 2, .null], vm := .statics 6 },
  { cls := 6, slots := #[.null, .int 0, .int 0, .null], vm := .none },
  { cls := 6, slots := #[.null, .int 1, .int 0, .null], vm := .none }]
def classes : Array Class := #[k0, k1, k2, k3, k4, k5, k6, k7, k8, k9, k10, k11, k12, k13, k14, k15, k16, k17]
def interned : List (Array UInt16 × Addr) := []
def slotsUsed : Nat := 11
def theMethod : MethodId := ⟨1, 1⟩
def args0 : Array Value := #[.long 5, .long 7, .long 3, .long 4, .long 5, .int 6]
def aboutOver (below : List Frame) : State where
  vm := { classes := classes, interned := interned.toArray }
  heap := heap
  slotsUsed := slotsUsed
  threads := #[{ frames := .invoking theMethod args0 :: below }]
def below0 : List Frame := [.native { method := ⟨0, 0⟩, args := #[] }]
def about1 : State := aboutOver below0
def p0 : Program := .bare "" "" ""
def e0 : Env := launch0.env 0 0 0
theorem w_frames : about1.frames = Frame.invoking theMethod args0 :: below0 := rfl
set_option maxRecDepth 65536 in
theorem w_args : argsFit about1.vm theMethod args0 = true := by decide +kernel
set_option maxRecDepth 65536 in
theorem w_heap : heapFits about1 = true := by decide +kernel
set_option maxRecDepth 65536 in
theorem w_runnable : about1.curStatus? = some .runnable := by decide +kernel
set_option maxRecDepth 65536 in
theorem w_alone : about1.alone = true := by decide +kernel
set_option maxRecDepth 65536 in
theorem w_named : about1.methodNamed? x = some theMethod := by decide +kernel
set_option maxRecDepth 65536 in
theorem w_hears : about1.hears theMethod below0 = true := by decide +kernel
set_option maxRecDepth 65536 in
theorem w_ripe : about1.ripe theMethod args0 below0 = true := by decide +kernel
theorem w_running : about1.status = .running := rfl
set_option maxRecDepth 65536 in
theorem w_room : about1.hasRoom e0.platform room_1 = true :=
  launch0.hasRoom_least _ room_1 (by decide +kernel) (by decide +kernel) (by decide +kernel) (by decide +kernel) (by decide +kernel) (by decide +kernel)
theorem allAtoms_all (ts : List Jvm.Cond) (a : Array Jvm.Value) (st : Jvm.State) : (allAtoms ts).before a st = ts.all (fun c => c.before a st) := by
  induction ts with
  | nil => rfl
  | cons c t ih =>
    show (Jvm.Cond.and c (allAtoms t)).before a st = _
    rw [Jvm.Cond.before_and, ih, List.all_cons]
def words1 : List Jvm.Cond := Jvm.Cond.code x code maxLocals ret :: tables_1
/-- a 'code' word, met by the world's own term for the bytes: nothing is compared byte by byte -/
theorem code_word {y : MethodName} {bytes : ByteArray} {mx : Nat} {rt : Option FieldType} {a : Array Value} {s : State} {m : MethodId} {meth : Method} {c : Code} (h1 : s.methodNamed? y = some m) (h2 : s.vm.method? m = some meth) (h3 : meth.code = some c) (h4 : c.code = bytes)
    (h5 : (c.maxLocals == mx && c.exceptionTable.isEmpty && decide (c.maxStack ≤ mostOperands) && decide (meth.sig.returnType = rt) && !meth.locks && decide (parseMethodDescriptor y.desc = some meth.sig)) = true) : (Jvm.Cond.code y bytes mx rt).before a s = true := by
  simp only [Bool.and_eq_true, beq_iff_eq, Bool.not_eq_true', decide_eq_true_eq] at h5
  obtain ⟨⟨⟨⟨⟨g1, g2⟩, g3⟩, g4⟩, g5⟩, g6⟩ := h5
  simp [Cond.before, Cond.holds, Cond.value, h1, h2, h3, h4, g1, g2, g3, g4, g5, g6]
def isCode : Jvm.Cond → Bool
  | .code _ _ _ _ => true
  | _ => false
theorem all_split {L : List Jvm.Cond} {P : Jvm.Cond → Bool} (h1 : L.all (fun c => isCode c || P c) = true) (h2 : ∀ c ∈ L.filter isCode, P c = true) : L.all P = true := by
  refine List.all_eq_true.mpr fun c hc => ?_
  have h := List.all_eq_true.mp h1 c hc
  rcases Bool.eq_false_or_eq_true (isCode c) with hi | hi
  · exact h2 c (List.mem_filter.mpr ⟨hc, hi⟩)
  · simpa [hi] using h
set_option maxRecDepth 65536 in
theorem w_c0 : (Jvm.Cond.code x code maxLocals ret).before args0 about1 = true := code_word (m := ⟨1, 1⟩) (meth := k1m1) (c := k1c1) (by decide +kernel) rfl rfl rfl (by decide +kernel)
set_option maxRecDepth 65536 in
theorem w_c1 : (Jvm.Cond.code ({ cls := "com/example/slidebook/slidebook/engine/Reserve", name := "<init>", desc := "(JLcom/example/slidebook/slidebook/engine/Replenish;J)V" } : Jvm.MethodName) prog_29_method_1_code (6 : Nat) (Option.none : Option Jvm.ClassFile.FieldType)).before args0 about1 = true := code_word (m := ⟨8, 0⟩) (meth := k8m0) (c := k8c0) (by decide +kernel) rfl rfl rfl (by decide +kernel)
set_option maxRecDepth 65536 in
theorem w_c2 : (Jvm.Cond.code ({ cls := "java/lang/Record", name := "<init>", desc := "()V" } : Jvm.MethodName) jdk_30_method_1_code (1 : Nat) (Option.none : Option Jvm.ClassFile.FieldType)).before args0 about1 = true := code_word (m := ⟨7, 0⟩) (meth := k7m0) (c := k7c0) (by decide +kernel) rfl rfl rfl (by decide +kernel)
set_option maxRecDepth 65536 in
theorem w_c3 : (Jvm.Cond.code ({ cls := "java/lang/Object", name := "<init>", desc := "()V" } : Jvm.MethodName) object_method_1_code (1 : Nat) (Option.none : Option Jvm.ClassFile.FieldType)).before args0 about1 = true := code_word (m := ⟨0, 0⟩) (meth := k0m0) (c := k0c0) (by decide +kernel) rfl rfl rfl (by decide +kernel)
set_option maxRecDepth 65536 in
theorem w_c4 : (Jvm.Cond.code ({ cls := "java/util/Objects", name := "requireNonNull", desc := "(Ljava/lang/Object;Ljava/lang/String;)Ljava/lang/Object;" } : Jvm.MethodName) jdk_31_method_11_code (2 : Nat) (Option.some (Jvm.ClassFile.FieldType.object "java/lang/Object"))).before args0 about1 = true := code_word (m := ⟨12, 1⟩) (meth := k12m1) (c := k12c1) (by decide +kernel) rfl rfl rfl (by decide +kernel)
set_option maxRecDepth 65536 in
theorem w_c5 : (Jvm.Cond.code ({ cls := "com/example/slidebook/slidebook/engine/Reserve", name := "isValidFor", desc := "(J)Z" } : Jvm.MethodName) prog_29_method_4_code (3 : Nat) (Option.some Jvm.ClassFile.FieldType.boolean)).before args0 about1 = true := code_word (m := ⟨8, 1⟩) (meth := k8m1) (c := k8c1) (by decide +kernel) rfl rfl rfl (by decide +kernel)
def codes1 : List Jvm.Cond := [Jvm.Cond.code x code maxLocals ret, Jvm.Cond.code ({ cls := "com/example/slidebook/slidebook/engine/Reserve", name := "<init>", desc := "(JLcom/example/slidebook/slidebook/engine/Replenish;J)V" } : Jvm.MethodName) prog_29_method_1_code (6 : Nat) (Option.none : Option Jvm.ClassFile.FieldType), Jvm.Cond.code ({ cls := "java/lang/Record", name := "<init>", desc := "()V" } : Jvm.MethodName) jdk_30_method_1_code (1 : Nat) (Option.none : Option Jvm.ClassFile.FieldType), Jvm.Cond.code ({ cls := "java/lang/Object", name := "<init>", desc := "()V" } : Jvm.MethodName) object_method_1_code (1 : Nat) (Option.none : Option Jvm.ClassFile.FieldType), Jvm.Cond.code ({ cls := "java/util/Objects", name := "requireNonNull", desc := "(Ljava/lang/Object;Ljava/lang/String;)Ljava/lang/Object;" } : Jvm.MethodName) jdk_31_method_11_code (2 : Nat) (Option.some (Jvm.ClassFile.FieldType.object "java/lang/Object")), Jvm.Cond.code ({ cls := "com/example/slidebook/slidebook/engine/Reserve", name := "isValidFor", desc := "(J)Z" } : Jvm.MethodName) prog_29_method_4_code (3 : Nat) (Option.some Jvm.ClassFile.FieldType.boolean)]
set_option maxRecDepth 65536 in
theorem codes_eq : words1.filter isCode = codes1 := rfl
theorem w_codes : ∀ c ∈ words1.filter isCode, c.before args0 about1 = true := by
  rw [codes_eq]
  intro c hc
  simp only [codes1, List.mem_cons, List.not_mem_nil, or_false] at hc
  rcases hc with rfl | rfl | rfl | rfl | rfl | rfl
  · exact w_c0
  · exact w_c1
  · exact w_c2
  · exact w_c3
  · exact w_c4
  · exact w_c5
set_option maxRecDepth 65536 in
theorem w_t1 : (words1.take 24).all (fun c => isCode c || c.before args0 about1) = true := by decide +kernel
set_option maxRecDepth 65536 in
theorem w_t2 : ((words1.drop 24).take 24).all (fun c => isCode c || c.before args0 about1) = true := by decide +kernel
set_option maxRecDepth 65536 in
theorem w_t3 : ((words1.drop 24).drop 24).all (fun c => isCode c || c.before args0 about1) = true := by decide +kernel
theorem w_tables : (allAtoms (Jvm.Cond.code x code maxLocals ret :: tables_1)).before args0 about1 = true := by
  rw [allAtoms_all]
  show words1.all (fun c => c.before args0 about1) = true
  refine all_split ?_ w_codes
  rw [← List.take_append_drop 24 words1, List.all_append, w_t1, ← List.take_append_drop 24 (words1.drop 24), List.all_append, w_t2, w_t3]
  rfl
set_option maxRecDepth 65536 in
theorem w_case : (Jvm.Cond.and given_1 narrow_1).before args0 about1 = true := by decide +kernel
theorem w_applies : (headSpec (Jvm.Cond.code x code maxLocals ret :: tables_1) room_1).applies x e0.platform about1 = true :=
  (Spec.applies_iff w_frames).mpr ⟨w_running, w_runnable, w_alone, w_named, w_hears, w_ripe, w_room, w_tables⟩
theorem atStart : AtStart classFile x code maxLocals ret World_1 tables_1 room_1 Calls_1 rest_1 Pre_1 launch0 p0 e0 about1 theMethod args0 below0 :=
  ⟨lists_1, trivial, launch0.admits_env _ _ _, launch0.least_env, fairChoices_fair.cas, fairChoices_fair.clock, w_frames, w_args, w_heap, w_applies, trivial, trivial, w_case⟩
end start1
theorem witness_1 : WitnessClaimed_1 := ⟨start1.p0, start1.e0, start1.about1, start1.theMethod, start1.args0, start1.below0, start1.atStart⟩
end Jvm.Pilot.@@N@@
