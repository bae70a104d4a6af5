import JvmDerived
import JvmDerived.Pilot.@@N@@Statement
import JvmDerived.Pilot.@@N@@Code
set_option linter.unusedVariables false
set_option linter.unusedSimpArgs false
@@BLOCK:NumsL.lean.txt@@
namespace Jvm.Pilot.@@N@@
open Jvm Jvm.ClassFile Sem Op Lib Jvm.Free Jvm.Stand Jvm.LawKit Jvm.RoadKit Bundle Jvm.Pilot.@@N@@.Jvm.D
/-- what a body leaves that writes nothing: its value, no place written, the heap as it was -/
def QP (val : Value) (h0 : Heap) (n0 : Nat) (v : Option Value) (h : Heap) (L : List Loc) : Prop := v = some val ∧ Fr n0 L ∧ h = h0
/-- what the law leaves: true -/
def Q1 (n0 : Nat) (v : Option Value) (h : Heap) (L : List Loc) : Prop := v = some (.int 1) ∧ Fr n0 L
theorem own_eq_int {args : Array Value} {s : State} {t : Term} {k : Int32} (h : (Jvm.Cond.eq t (.int k)).value args s none s [] = some true) : t.eval args s none [] s = some (.int k) := by
  simp only [Cond.value, Term.eval] at h
  cases ht : t.eval args s none [] s with
  | none => simp [ht] at h
  | some x => cases x <;> simp [ht] at h ⊢; exact h
theorem own_fld {args : Array Value} {s : State} {t : Term} {a : Addr} {C n d : String} {k : Int32} (ev : t.eval args s none [] s = some (.ref a)) (h : (Jvm.Cond.eq (.field t C n d) (.int k)).value args s none s [] = some true) : Fld s s.heap a C n d (.int k) :=
  Fld.start ((fld_at ev).symm.trans (own_eq_int h))
theorem own_toInt32_inj {i j : Nat} (hi : i < 2 ^ 31) (hj : j < 2 ^ 31) (h : i.toInt32 = j.toInt32) : i = j := by
  have := congrArg Int32.toInt h
  rw [len_toInt hi, len_toInt hj] at this
  omega
theorem own_inj {Z : State} {h : Heap} {w : Nat → Addr} {n : Nat} (hn : n < 2 ^ 31) (F : ∀ i, i < n → Fld Z h (w i) "java/lang/Enum" "ordinal" "I" (.int i.toInt32)) : ∀ i j, i < n → j < n → w i = w j → i = j := fun i j hi hj e => by
  by_cases q : i = j
  · exact q
  · exact absurd e (Fld.ne (F i hi) (F j hj) fun h => q (own_toInt32_inj (by omega) (by omega) (Value.int.inj h)))
theorem own_i32 {i : Int32} {N : Nat} (hN : N < 2 ^ 31) (h0 : 0 ≤ i.toInt) (h1 : i.toInt < N) : ∃ k : Nat, k < N ∧ i = k.toInt32 := by
  refine ⟨i.toInt.toNat, by omega, Int32.toInt_inj.mp ?_⟩
  rw [len_toInt (by omega)]
  omega
theorem own_mod (x n : Int32) (N : Nat) (hN : n.toInt = N) (h : 0 < N) : ∃ k : Nat, k < N ∧ (x &&& (2147483647 : Int32)) % n = k.toInt32 := by
  have e1 : (x &&& (2147483647 : Int32)).toInt = x.toInt % 2 ^ 31 := Jvm.Kit.i32_mask x 2147483647 (k := 31) (by decide) (by decide)
  have e2 : ((x &&& (2147483647 : Int32)) % n).toInt = (x &&& (2147483647 : Int32)).toInt % n.toInt := Jvm.Kit.i32_rem_nonneg (by omega)
  have hlt := n.toInt_lt
  have h3 : 0 ≤ (x &&& (2147483647 : Int32)).toInt % n.toInt := Int.emod_nonneg _ (by omega)
  have h4 : (x &&& (2147483647 : Int32)).toInt % n.toInt < n.toInt := Int.emod_lt_of_pos _ (by omega)
  exact own_i32 (by omega) (by omega) (by omega)
theorem own_mask (x n : Int32) {k : Nat} (hk : k < 31) (hm : n.toBitVec.toNat = 2 ^ k - 1) : ∃ j : Nat, j < 2 ^ k ∧ x &&& n = j.toInt32 := by
  have e1 : (x &&& n).toInt = x.toInt % 2 ^ k := Jvm.Kit.i32_mask x n (k := k) (by omega) hm
  have hp : (2 : Nat) ^ k < 2 ^ 31 := Nat.pow_lt_pow_right (by decide) hk
  have hp1 : (0 : Int) < 2 ^ k := Int.pow_pos (by decide)
  have h3 : 0 ≤ x.toInt % 2 ^ k := Int.emod_nonneg _ (by omega)
  have h4 : x.toInt % 2 ^ k < 2 ^ k := Int.emod_lt_of_pos _ hp1
  refine own_i32 hp (by rw [e1]; exact h3) (by rw [e1]; push_cast; exact h4)
theorem own_lt_irrefl {a b : Int64} (h : a = b) : ¬ a < b ∧ ¬ b < a := by subst h; simp [Int64.lt_irrefl]
theorem own_lt_asymm {a b : Int64} (h : a < b) : ¬ b < a := Int64.lt_asymm h
theorem own_lt_total {a b : Int64} (h1 : ¬ a = b) (h2 : ¬ a < b) : b < a := by
  rw [Int64.lt_iff_toInt_lt] at h2 ⊢; rw [← Int64.toInt_inj] at h1; omega
theorem own_narrow (C : String) (v : Value) : narrow (.object C) v = v := by cases v <;> rfl
theorem own_cat {v : Value} (h : v.isRef = true) : v.category = 1 := by cases v <;> simp [Value.isRef] at h <;> rfl
theorem own_alike (s : State) : s.vm.Alike s.vm := (State.Warmed39.refl s).alike
theorem own_len {args : Array Value} {s : State} {t : Term} {b : Addr} {cl : Cell} {ty : FieldType} {k : Int32} (ev : t.eval args s none [] s = some (.ref b)) (A : Arr s s.heap b cl ty) (h : (Jvm.Cond.eq (.length t) (.int k)).value args s none s [] = some true) : cl.slots.size < 2 ^ 31 ∧ cl.slots.size.toInt32 = k := by
  have e := own_eq_int h
  have ha : s.arrayAt? b = some cl := Arr.fin (own_alike s) A
  by_cases hl : cl.slots.size < 2 ^ 31
  · rw [len_f ev ha hl] at e; exact ⟨hl, by simpa using e⟩
  · simp [Term.eval, ev, ha, hl] at e
theorem own_elem_ref {args : Array Value} {s : State} {t u : Term} {b a : Addr} {cl : Cell} {ty : FieldType} {j : Int32} (ev : t.eval args s none [] s = some (.ref b)) (A : Arr s s.heap b cl ty) (h : (Jvm.Cond.eq (.elem t (.int j)) u).value args s none s [] = some true) (hu : u.eval args s none [] s = some (.ref a)) : cl.slots[j.toNatClampNeg]? = some (.ref a) := by
  obtain ⟨x, y, h1, h2, k1, k2⟩ := cmp_v (Or.inl h)
  cases hu.symm.trans h2
  have k2' : (Value.ref a).isRef = true ∧ x.isRef = true := k2
  have q : x = .ref a := gotT (eq_R h1 h2 k2'.2 rfl) h
  subst q
  exact (elem_in h1 ev (Term.int_eval j) A.1).2
theorem own_elem_null {args : Array Value} {s : State} {t : Term} {b : Addr} {cl : Cell} {ty : FieldType} {j : Int32} (ev : t.eval args s none [] s = some (.ref b)) (A : Arr s s.heap b cl ty) (h : (Jvm.Cond.eq (.elem t (.int j)) .null).value args s none s [] = some true) : cl.slots[j.toNatClampNeg]? = some .null :=
  (elem_in (null_v h) ev (Term.int_eval j) A.1).2
theorem own_size {cl : Cell} {k : Int32} (h : cl.slots.size < 2 ^ 31 ∧ cl.slots.size.toInt32 = k) (hk : ¬ k < 0) : cl.slots.size = k.toNatClampNeg := by
  obtain ⟨h1, rfl⟩ := h
  have := len_toInt h1
  have h2 := nat_of hk
  omega
def STA (Z : State) (h : Heap) (w : Nat → Addr) : Prop := Sta Z h "com/example/slidebook/slidebook/replay/MessageType" "SUBMISSION" "Lcom/example/slidebook/slidebook/replay/MessageType;" (.ref (w 0)) ∧ Sta Z h "com/example/slidebook/slidebook/replay/MessageType" "CANCELLATION" "Lcom/example/slidebook/slidebook/replay/MessageType;" (.ref (w 1)) ∧ Sta Z h "com/example/slidebook/slidebook/replay/MessageType" "DELETION" "Lcom/example/slidebook/slidebook/replay/MessageType;" (.ref (w 2)) ∧ Sta Z h "com/example/slidebook/slidebook/replay/MessageType" "EXECUTION" "Lcom/example/slidebook/slidebook/replay/MessageType;" (.ref (w 3)) ∧ Sta Z h "com/example/slidebook/slidebook/replay/MessageType" "HIDDEN_EXECUTION" "Lcom/example/slidebook/slidebook/replay/MessageType;" (.ref (w 4)) ∧ Sta Z h "com/example/slidebook/slidebook/replay/MessageType" "CROSS_TRADE" "Lcom/example/slidebook/slidebook/replay/MessageType;" (.ref (w 5)) ∧ Sta Z h "com/example/slidebook/slidebook/replay/MessageType" "HALT" "Lcom/example/slidebook/slidebook/replay/MessageType;" (.ref (w 6))
def own_cv (w : Nat → Addr) (i : Int64) : Value := if i = 1 then .ref (w 0) else if i = 2 then .ref (w 1) else if i = 3 then .ref (w 2) else if i = 4 then .ref (w 3) else if i = 5 then .ref (w 4) else if i = 6 then .ref (w 5) else if i = 7 then .ref (w 6) else .null
theorem own_cv_ref (w : Nat → Addr) (i : Int64) : (own_cv w i).isRef = true := by
  unfold own_cv
  repeat' split
  all_goals rfl
theorem own_cv_neg (w : Nat → Addr) {i : Int64} (h : i < 0) : own_cv w i = .null := by
  rw [own_cv, if_neg (fun q => by rw [q] at h; revert h; decide), if_neg (fun q => by rw [q] at h; revert h; decide), if_neg (fun q => by rw [q] at h; revert h; decide), if_neg (fun q => by rw [q] at h; revert h; decide), if_neg (fun q => by rw [q] at h; revert h; decide), if_neg (fun q => by rw [q] at h; revert h; decide), if_neg (fun q => by rw [q] at h; revert h; decide)]
theorem own_cv_big (w : Nat → Addr) {i : Int64} (h : ¬ i < (8 : Int32).toInt64) : own_cv w i = .null := by
  rw [own_cv, if_neg (fun q => by rw [q] at h; revert h; decide), if_neg (fun q => by rw [q] at h; revert h; decide), if_neg (fun q => by rw [q] at h; revert h; decide), if_neg (fun q => by rw [q] at h; revert h; decide), if_neg (fun q => by rw [q] at h; revert h; decide), if_neg (fun q => by rw [q] at h; revert h; decide), if_neg (fun q => by rw [q] at h; revert h; decide)]
theorem own_HA {cl : Cell} {w : Nat → Addr} (SZ : cl.slots.size = (8 : Int32).toNatClampNeg) (h0 : cl.slots[(0 : Int32).toNatClampNeg]? = some .null) (h1 : cl.slots[(1 : Int32).toNatClampNeg]? = some (.ref (w 0))) (h2 : cl.slots[(2 : Int32).toNatClampNeg]? = some (.ref (w 1))) (h3 : cl.slots[(3 : Int32).toNatClampNeg]? = some (.ref (w 2))) (h4 : cl.slots[(4 : Int32).toNatClampNeg]? = some (.ref (w 3))) (h5 : cl.slots[(5 : Int32).toNatClampNeg]? = some (.ref (w 4))) (h6 : cl.slots[(6 : Int32).toNatClampNeg]? = some (.ref (w 5))) (h7 : cl.slots[(7 : Int32).toNatClampNeg]? = some (.ref (w 6))) : ∀ c : Int64, ¬ c < 0 → c < (8 : Int32).toInt64 → ¬ (c.toInt32 < 0 ∨ cl.slots.size ≤ c.toInt32.toNatClampNeg) ∧ cl.slots[c.toInt32.toNatClampNeg]? = some (own_cv w c) := by
  intro c q r
  have q' := mt Int64.lt_iff_toInt_lt.mpr q
  have r' := Int64.lt_iff_toInt_lt.mp r
  have e0 : (0 : Int64).toInt = 0 := rfl
  have e8 : (8 : Int32).toInt64.toInt = 8 := rfl
  obtain ⟨k, hk, rfl⟩ : ∃ k : Nat, k < 8 ∧ c = Int64.ofNat k := by
    refine ⟨c.toInt.toNat, by omega, Int64.toInt_inj.mp ?_⟩
    rw [Int64.toInt_ofNat_of_lt (by omega)]
    omega
  rw [SZ]
  match k, hk with
  | 0, _ => exact ⟨by decide, h0⟩
  | 1, _ => exact ⟨by decide, h1⟩
  | 2, _ => exact ⟨by decide, h2⟩
  | 3, _ => exact ⟨by decide, h3⟩
  | 4, _ => exact ⟨by decide, h4⟩
  | 5, _ => exact ⟨by decide, h5⟩
  | 6, _ => exact ⟨by decide, h6⟩
  | 7, _ => exact ⟨by decide, h7⟩
  | k + 8, hk => exact absurd hk (by omega)
theorem own_pd_0 : parseMethodDescriptor "(J)Lcom/example/slidebook/slidebook/replay/MessageType;" = some ⟨[.long], some (.object "com/example/slidebook/slidebook/replay/MessageType")⟩ := by decide +kernel
theorem own_d1_0 : decode prog_53_method_4_code 0 = .ok (.lload_n 0, 1) := by decide +kernel
theorem own_d1_1 : decode prog_53_method_4_code 1 = .ok (.lconst 0, 1) := by decide +kernel
theorem own_d1_2 : decode prog_53_method_4_code 2 = .ok (.lcmp, 1) := by decide +kernel
theorem own_d1_3 : decode prog_53_method_4_code 3 = .ok (.ifCond .lt 22, 3) := by decide +kernel
theorem own_d1_6 : decode prog_53_method_4_code 6 = .ok (.lload_n 0, 1) := by decide +kernel
theorem own_d1_7 : decode prog_53_method_4_code 7 = .ok (.getstatic 48, 3) := by decide +kernel
theorem own_d1_10 : decode prog_53_method_4_code 10 = .ok (.arraylength, 1) := by decide +kernel
theorem own_d1_11 : decode prog_53_method_4_code 11 = .ok (.i2l, 1) := by decide +kernel
theorem own_d1_12 : decode prog_53_method_4_code 12 = .ok (.lcmp, 1) := by decide +kernel
theorem own_d1_13 : decode prog_53_method_4_code 13 = .ok (.ifCond .ge 12, 3) := by decide +kernel
theorem own_d1_16 : decode prog_53_method_4_code 16 = .ok (.getstatic 48, 3) := by decide +kernel
theorem own_d1_19 : decode prog_53_method_4_code 19 = .ok (.lload_n 0, 1) := by decide +kernel
theorem own_d1_20 : decode prog_53_method_4_code 20 = .ok (.l2i, 1) := by decide +kernel
theorem own_d1_21 : decode prog_53_method_4_code 21 = .ok (.aaload, 1) := by decide +kernel
theorem own_d1_22 : decode prog_53_method_4_code 22 = .ok (.goto 4, 3) := by decide +kernel
theorem own_d1_25 : decode prog_53_method_4_code 25 = .ok (.aconst_null, 1) := by decide +kernel
theorem own_d1_26 : decode prog_53_method_4_code 26 = .ok (.areturn, 1) := by decide +kernel
set_option maxRecDepth 65536 in
set_option maxHeartbeats 40000000 in
theorem rm_fi (l : Launch) (Z : State) (a0 : Array Value) (hw : ∀ d ∈ tables_1, d.before a0 Z = true) (ws : List Jvm.Cond) (x0 : Int64) (w : Nat → Addr) (b : Addr) (cl : Cell) (h0 : Heap) (n0 : Nat) (Z0 : n0 ≤ h0.size) (SB : Sta Z h0 "com/example/slidebook/slidebook/replay/MessageType" "BY_CODE" "[Lcom/example/slidebook/slidebook/replay/MessageType;" (.ref b)) (AR : Arr Z h0 b cl (.object "com/example/slidebook/slidebook/replay/MessageType")) (SZ : cl.slots.size = (8 : Int32).toNatClampNeg) (HA : ∀ c : Int64, ¬ c < 0 → c < (8 : Int32).toInt64 → ¬ (c.toInt32 < 0 ∨ cl.slots.size ≤ c.toInt32.toNatClampNeg) ∧ cl.slots[c.toInt32.toNatClampNeg]? = some (own_cv w c)) :
    MetFree l (⟨"com/example/slidebook/slidebook/replay/MessageType", "of", "(J)Lcom/example/slidebook/slidebook/replay/MessageType;"⟩ : MethodName) (head1 (Jvm.Cond.code (⟨"com/example/slidebook/slidebook/replay/MessageType", "of", "(J)Lcom/example/slidebook/slidebook/replay/MessageType;"⟩ : MethodName) prog_53_method_4_code 2 (some (.object "com/example/slidebook/slidebook/replay/MessageType")) :: ws) ({ frames := 0, cells := 0, slots := 0, locals := 0 } : Room)) (fun a U => a = #[(.long x0)] ∧ Z.Warmed39 U.vm ∧ U.heap = h0) (fun _ _ _ _ _ => True) (fun _ U o U' => ∃ v L, o = .returned v ∧ QP (own_cv w x0) h0 n0 v U'.heap L ∧ FrameEnd U o U' L ({ frames := 0, cells := 0, slots := 0, locals := 0 } : Room).cells ({ frames := 0, cells := 0, slots := 0, locals := 0 } : Room).slots) := by
  refine MetFree.of_bodySF (plainFor_of_name (by first | (simp [plainName, overriddenIn]; done) | decide +kernel)) hisR ?_
  intro p e s m args below meth c s₁ Bd hml0 hP hK
  obtain ⟨rfl, hZ, hh⟩ := hP
  have hx := Bd.exec
  have hby := Bd.bytes
  have hml : c.maxLocals = 2 := hml0
  have hown : s.vm.findClass "com/example/slidebook/slidebook/replay/MessageType" = some m.cls := findClass_of_methodNamed Bd.named
  have hnm := (name_of_methodNamed Bd.named Bd.method).1
  have X0 : Stand p l e ({ frames := 0, cells := 0, slots := 0, locals := 0 } : Room) s m #[(.long x0)] below meth c s₁ [] 0 0 := Stand.of_body Bd
  have e0 : s₁.heap = h0 := by rw [← hh, Bd.state]; rfl
  have N0 := Fr.nil n0
  have ef0 : entryFrame m #[(.long x0)] 2 = mkF m 0 #[.val (.long x0), .second] [] := by first | (simp [entryFrame, mkF, argsToLocals, Value.category, maxLocals]; done) | rfl
  have pre0 : ∀ t, Steps p.tables e below (s₁.setTop (mkF m 0 #[.val (.long x0), .second] [])) t → Steps p.tables e below (s₁.setTop (entryFrame m #[(.long x0)] 2)) t := fun t k => castTop ef0 k
  have pre1 : ∀ t, Steps p.tables e below (s₁.setTop (mkF m 3 #[.val (.long x0), .second] [(.int (lcmpW x0 (0 : Int64)))])) t → Steps p.tables e below (s₁.setTop (entryFrame m #[(.long x0)] 2)) t := fun tt kk => pre0 tt (by
    show Steps p.tables e below (s₁.setTop (mkF m 0 #[.val (.long x0), .second] [])) _
    refine XS.lloadN X0.here hx rfl (hb hby own_d1_0) rfl ?_
    show Steps p.tables e below (s₁.setTop (mkF m 1 #[.val (.long x0), .second] [(.long x0)])) _
    refine XS.lconst X0.here hx rfl (hb hby own_d1_1) ?_
    show Steps p.tables e below (s₁.setTop (mkF m 2 #[.val (.long x0), .second] [(.long (0 : Int64)), (.long x0)])) _
    refine XS.lcmp X0.here hx rfl (hb hby own_d1_2) rfl ?_
    exact kk)
  by_cases hc3 : x0 < (0 : Int64)
  · obtain ⟨fs, hr, hrun, hended, hW, hsame⟩ := X0.leave (v := some .null) (fun h => by rw [Bd.returns] at h; cases h)
    refine ⟨_, _, pre1 _ ?_, hrun, hended, _, _, rfl, ?_, ⟨_, rfl⟩, hW, hsame.mono (by decide) (by decide)⟩
    · show Steps p.tables e below (s₁.setTop (mkF m 3 #[.val (.long x0), .second] [(.int (lcmpW x0 (0 : Int64)))])) _
      refine XS.ifYes X0.here hx rfl (pc0 := 3) (pc' := 25) rfl (hb hby own_d1_3) rfl ((if0 _ _).trans (tlt ((lw_lt _ _).mpr hc3)).1) (by decide) (by decide) ?_
      show Steps p.tables e below (s₁.setTop (mkF m 25 #[.val (.long x0), .second] [])) _
      refine XS.aconstNull X0.here hx rfl (hb hby own_d1_25) ?_
      show Steps p.tables e below (s₁.setTop (mkF m 26 #[.val (.long x0), .second] [.null])) _
      exact retOut X0 hx Bd.returns rfl (Or.inr (Or.inr (Or.inr (Or.inr ⟨rfl, rfl, rfl⟩)))) (hb hby own_d1_26) hr
    · show QP (own_cv w x0) h0 n0 _ s₁.heap _
      rw [e0]
      exact ⟨by rw [(own_cv_neg w hc3)], N0, rfl⟩
  · obtain ⟨T2, X2, e2, st2⟩ := getS2 X0 hx hZ hown (host := "") (Or.inl (hw _ (List.mem_of_getElem? (i := 5) rfl))) Via.refl e0 SB (g := (mkF m 7 #[.val (.long x0), .second] [(.long x0)])) rfl (hb hby own_d1_7)
    have pre3 : ∀ t, Steps p.tables e below (T2.setTop (mkF m 13 #[.val (.long x0), .second] [(.int (lcmpW x0 ((8 : Int32).toInt64)))])) t → Steps p.tables e below (s₁.setTop (entryFrame m #[(.long x0)] 2)) t := fun tt kk => pre1 tt (by
      show Steps p.tables e below (s₁.setTop (mkF m 3 #[.val (.long x0), .second] [(.int (lcmpW x0 (0 : Int64)))])) _
      refine XS.ifNo X0.here hx rfl (hb hby own_d1_3) rfl ((if0 _ _).trans (flt (mt (lw_lt _ _).mp hc3)).1) ?_
      show Steps p.tables e below (s₁.setTop (mkF m 6 #[.val (.long x0), .second] [])) _
      refine XS.lloadN X0.here hx rfl (hb hby own_d1_6) rfl ?_
      show Steps p.tables e below (s₁.setTop (mkF m 7 #[.val (.long x0), .second] [(.long x0)])) _
      refine st2 _ ?_
      show Steps p.tables e below (T2.setTop (mkF m 10 #[.val (.long x0), .second] [(.ref b), (.long x0)])) _
      refine X2.arraylength hx (by rw [e2]; exact AR.1) (State.isArrayOf_alike hZ.alike AR.2.1) (g := (mkF m 10 #[.val (.long x0), .second] [(.ref b), (.long x0)])) rfl rfl (hb hby own_d1_10) _ ?_
      rw [len_of SZ (by decide)]
      show Steps p.tables e below (T2.setTop (mkF m 11 #[.val (.long x0), .second] [(.int (8 : Int32)), (.long x0)])) _
      refine XS.i2l X2.here hx rfl (hb hby own_d1_11) rfl ?_
      show Steps p.tables e below (T2.setTop (mkF m 12 #[.val (.long x0), .second] [(.long ((8 : Int32).toInt64)), (.long x0)])) _
      refine XS.lcmp X2.here hx rfl (hb hby own_d1_12) rfl ?_
      exact kk)
    by_cases hc13 : x0 < ((8 : Int32).toInt64)
    · obtain ⟨T4, X4, e4, st4⟩ := getS2 X2 hx hZ hown (host := "") (Or.inl (hw _ (List.mem_of_getElem? (i := 5) rfl))) Via.refl e2 SB (g := (mkF m 16 #[.val (.long x0), .second] [])) rfl (hb hby own_d1_16)
      obtain ⟨fs, hr, hrun, hended, hW, hsame⟩ := X4.leave (v := some (own_cv w x0)) (fun h => by rw [Bd.returns] at h; cases h)
      refine ⟨_, _, pre3 _ ?_, hrun, hended, _, _, rfl, ?_, ⟨_, rfl⟩, hW, hsame.mono (by decide) (by decide)⟩
      · show Steps p.tables e below (T2.setTop (mkF m 13 #[.val (.long x0), .second] [(.int (lcmpW x0 ((8 : Int32).toInt64)))])) _
        refine XS.ifNo X2.here hx rfl (hb hby own_d1_13) rfl ((if0 _ _).trans (tlt ((lw_lt _ _).mpr hc13)).2.1) ?_
        show Steps p.tables e below (T2.setTop (mkF m 16 #[.val (.long x0), .second] [])) _
        refine st4 _ ?_
        show Steps p.tables e below (T4.setTop (mkF m 19 #[.val (.long x0), .second] [(.ref b)])) _
        refine XS.lloadN X4.here hx rfl (hb hby own_d1_19) rfl ?_
        show Steps p.tables e below (T4.setTop (mkF m 20 #[.val (.long x0), .second] [(.long x0), (.ref b)])) _
        refine XS.l2i X4.here hx rfl (hb hby own_d1_20) rfl ?_
        show Steps p.tables e below (T4.setTop (mkF m 21 #[.val (.long x0), .second] [(.int (x0.toInt32)), (.ref b)])) _
        refine X4.aaload hx (j := (x0.toInt32)) (v := (own_cv w x0)) (by rw [e4]; exact AR.1) (State.isArrayOf_alike hZ.alike AR.2.1) rfl AR.2.2 (HA _ hc3 hc13).1 (HA _ hc3 hc13).2 (g := (mkF m 21 #[.val (.long x0), .second] [(.int (x0.toInt32)), (.ref b)])) rfl rfl (hb hby own_d1_21) _ ?_
        show Steps p.tables e below (T4.setTop (mkF m 22 #[.val (.long x0), .second] [(own_cv w x0)])) _
        refine XS.goto X4.here hx rfl (pc0 := 22) (pc' := 26) rfl (hb hby own_d1_22) (by decide) (by decide) ?_
        show Steps p.tables e below (T4.setTop (mkF m 26 #[.val (.long x0), .second] [(own_cv w x0)])) _
        exact retOut X4 hx Bd.returns (own_narrow _ _) (Or.inr (Or.inr (Or.inr (Or.inr ⟨rfl, rfl, (own_cv_ref w x0)⟩)))) (hb hby own_d1_26) hr
      · show QP (own_cv w x0) h0 n0 _ T4.heap _
        rw [e4]
        exact ⟨rfl, N0, rfl⟩
    · obtain ⟨fs, hr, hrun, hended, hW, hsame⟩ := X2.leave (v := some .null) (fun h => by rw [Bd.returns] at h; cases h)
      refine ⟨_, _, pre3 _ ?_, hrun, hended, _, _, rfl, ?_, ⟨_, rfl⟩, hW, hsame.mono (by decide) (by decide)⟩
      · show Steps p.tables e below (T2.setTop (mkF m 13 #[.val (.long x0), .second] [(.int (lcmpW x0 ((8 : Int32).toInt64)))])) _
        refine XS.ifYes X2.here hx rfl (pc0 := 13) (pc' := 25) rfl (hb hby own_d1_13) rfl ((if0 _ _).trans (flt (mt (lw_lt _ _).mp hc13)).2.1) (by decide) (by decide) ?_
        show Steps p.tables e below (T2.setTop (mkF m 25 #[.val (.long x0), .second] [])) _
        refine XS.aconstNull X2.here hx rfl (hb hby own_d1_25) ?_
        show Steps p.tables e below (T2.setTop (mkF m 26 #[.val (.long x0), .second] [.null])) _
        exact retOut X2 hx Bd.returns rfl (Or.inr (Or.inr (Or.inr (Or.inr ⟨rfl, rfl, rfl⟩)))) (hb hby own_d1_26) hr
      · show QP (own_cv w x0) h0 n0 _ T2.heap _
        rw [e2]
        exact ⟨by rw [(own_cv_big w hc13)], N0, rfl⟩
theorem own_d2_0 : decode method_3_code 0 = .ok (.lload_n 0, 1) := by decide +kernel
theorem own_d2_1 : decode method_3_code 1 = .ok (.lconst 1, 1) := by decide +kernel
theorem own_d2_2 : decode method_3_code 2 = .ok (.lcmp, 1) := by decide +kernel
theorem own_d2_3 : decode method_3_code 3 = .ok (.ifCond .ne 7, 3) := by decide +kernel
theorem own_d2_6 : decode method_3_code 6 = .ok (.getstatic 20, 3) := by decide +kernel
theorem own_d2_9 : decode method_3_code 9 = .ok (.areturn, 1) := by decide +kernel
theorem own_d2_10 : decode method_3_code 10 = .ok (.lload_n 0, 1) := by decide +kernel
theorem own_d2_11 : decode method_3_code 11 = .ok (.ldc2_w 24, 3) := by decide +kernel
theorem own_d2_14 : decode method_3_code 14 = .ok (.lcmp, 1) := by decide +kernel
theorem own_d2_15 : decode method_3_code 15 = .ok (.ifCond .ne 7, 3) := by decide +kernel
theorem own_d2_18 : decode method_3_code 18 = .ok (.getstatic 26, 3) := by decide +kernel
theorem own_d2_21 : decode method_3_code 21 = .ok (.areturn, 1) := by decide +kernel
theorem own_d2_22 : decode method_3_code 22 = .ok (.lload_n 0, 1) := by decide +kernel
theorem own_d2_23 : decode method_3_code 23 = .ok (.ldc2_w 29, 3) := by decide +kernel
theorem own_d2_26 : decode method_3_code 26 = .ok (.lcmp, 1) := by decide +kernel
theorem own_d2_27 : decode method_3_code 27 = .ok (.ifCond .ne 7, 3) := by decide +kernel
theorem own_d2_30 : decode method_3_code 30 = .ok (.getstatic 31, 3) := by decide +kernel
theorem own_d2_33 : decode method_3_code 33 = .ok (.areturn, 1) := by decide +kernel
theorem own_d2_34 : decode method_3_code 34 = .ok (.lload_n 0, 1) := by decide +kernel
theorem own_d2_35 : decode method_3_code 35 = .ok (.ldc2_w 34, 3) := by decide +kernel
theorem own_d2_38 : decode method_3_code 38 = .ok (.lcmp, 1) := by decide +kernel
theorem own_d2_39 : decode method_3_code 39 = .ok (.ifCond .ne 7, 3) := by decide +kernel
theorem own_d2_42 : decode method_3_code 42 = .ok (.getstatic 36, 3) := by decide +kernel
theorem own_d2_45 : decode method_3_code 45 = .ok (.areturn, 1) := by decide +kernel
theorem own_d2_46 : decode method_3_code 46 = .ok (.lload_n 0, 1) := by decide +kernel
theorem own_d2_47 : decode method_3_code 47 = .ok (.ldc2_w 39, 3) := by decide +kernel
theorem own_d2_50 : decode method_3_code 50 = .ok (.lcmp, 1) := by decide +kernel
theorem own_d2_51 : decode method_3_code 51 = .ok (.ifCond .ne 7, 3) := by decide +kernel
theorem own_d2_54 : decode method_3_code 54 = .ok (.getstatic 41, 3) := by decide +kernel
theorem own_d2_57 : decode method_3_code 57 = .ok (.areturn, 1) := by decide +kernel
theorem own_d2_58 : decode method_3_code 58 = .ok (.lload_n 0, 1) := by decide +kernel
theorem own_d2_59 : decode method_3_code 59 = .ok (.ldc2_w 44, 3) := by decide +kernel
theorem own_d2_62 : decode method_3_code 62 = .ok (.lcmp, 1) := by decide +kernel
theorem own_d2_63 : decode method_3_code 63 = .ok (.ifCond .ne 7, 3) := by decide +kernel
theorem own_d2_66 : decode method_3_code 66 = .ok (.getstatic 46, 3) := by decide +kernel
theorem own_d2_69 : decode method_3_code 69 = .ok (.areturn, 1) := by decide +kernel
theorem own_d2_70 : decode method_3_code 70 = .ok (.lload_n 0, 1) := by decide +kernel
theorem own_d2_71 : decode method_3_code 71 = .ok (.ldc2_w 49, 3) := by decide +kernel
theorem own_d2_74 : decode method_3_code 74 = .ok (.lcmp, 1) := by decide +kernel
theorem own_d2_75 : decode method_3_code 75 = .ok (.ifCond .ne 7, 3) := by decide +kernel
theorem own_d2_78 : decode method_3_code 78 = .ok (.getstatic 51, 3) := by decide +kernel
theorem own_d2_81 : decode method_3_code 81 = .ok (.areturn, 1) := by decide +kernel
theorem own_d2_82 : decode method_3_code 82 = .ok (.aconst_null, 1) := by decide +kernel
theorem own_d2_83 : decode method_3_code 83 = .ok (.areturn, 1) := by decide +kernel
set_option maxRecDepth 65536 in
set_option maxHeartbeats 40000000 in
theorem rm_ex (l : Launch) (Z : State) (a0 : Array Value) (hw : ∀ d ∈ tables_1, d.before a0 Z = true) (ws : List Jvm.Cond) (x0 : Int64) (w : Nat → Addr) (h0 : Heap) (n0 : Nat) (Z0 : n0 ≤ h0.size) (ST : STA Z h0 w) :
    MetFree l (⟨"com/example/slidebook/slidebook/replay/MessageTypeOfPinLaw", "expected", "(J)Lcom/example/slidebook/slidebook/replay/MessageType;"⟩ : MethodName) (head1 (Jvm.Cond.code (⟨"com/example/slidebook/slidebook/replay/MessageTypeOfPinLaw", "expected", "(J)Lcom/example/slidebook/slidebook/replay/MessageType;"⟩ : MethodName) method_3_code 2 (some (.object "com/example/slidebook/slidebook/replay/MessageType")) :: ws) ({ frames := 0, cells := 0, slots := 0, locals := 0 } : Room)) (fun a U => a = #[(.long x0)] ∧ Z.Warmed39 U.vm ∧ U.heap = h0) (fun _ _ _ _ _ => True) (fun _ U o U' => ∃ v L, o = .returned v ∧ QP (own_cv w x0) h0 n0 v U'.heap L ∧ FrameEnd U o U' L ({ frames := 0, cells := 0, slots := 0, locals := 0 } : Room).cells ({ frames := 0, cells := 0, slots := 0, locals := 0 } : Room).slots) := by
  refine MetFree.of_bodySF (plainFor_of_name (by first | (simp [plainName, overriddenIn]; done) | decide +kernel)) hisR ?_
  intro p e s m args below meth c s₁ Bd hml0 hP hK
  obtain ⟨rfl, hZ, hh⟩ := hP
  have hx := Bd.exec
  have hby := Bd.bytes
  have hml : c.maxLocals = 2 := hml0
  have hown : s.vm.findClass "com/example/slidebook/slidebook/replay/MessageTypeOfPinLaw" = some m.cls := findClass_of_methodNamed Bd.named
  have hnm := (name_of_methodNamed Bd.named Bd.method).1
  have X0 : Stand p l e ({ frames := 0, cells := 0, slots := 0, locals := 0 } : Room) s m #[(.long x0)] below meth c s₁ [] 0 0 := Stand.of_body Bd
  have e0 : s₁.heap = h0 := by rw [← hh, Bd.state]; rfl
  have N0 := Fr.nil n0
  have ef0 : entryFrame m #[(.long x0)] 2 = mkF m 0 #[.val (.long x0), .second] [] := by first | (simp [entryFrame, mkF, argsToLocals, Value.category, maxLocals]; done) | rfl
  have pre0 : ∀ t, Steps p.tables e below (s₁.setTop (mkF m 0 #[.val (.long x0), .second] [])) t → Steps p.tables e below (s₁.setTop (entryFrame m #[(.long x0)] 2)) t := fun t k => castTop ef0 k
  have pre5 : ∀ t, Steps p.tables e below (s₁.setTop (mkF m 3 #[.val (.long x0), .second] [(.int (lcmpW x0 (1 : Int64)))])) t → Steps p.tables e below (s₁.setTop (entryFrame m #[(.long x0)] 2)) t := fun tt kk => pre0 tt (by
    show Steps p.tables e below (s₁.setTop (mkF m 0 #[.val (.long x0), .second] [])) _
    refine XS.lloadN X0.here hx rfl (hb hby own_d2_0) rfl ?_
    show Steps p.tables e below (s₁.setTop (mkF m 1 #[.val (.long x0), .second] [(.long x0)])) _
    refine XS.lconst X0.here hx rfl (hb hby own_d2_1) ?_
    show Steps p.tables e below (s₁.setTop (mkF m 2 #[.val (.long x0), .second] [(.long (1 : Int64)), (.long x0)])) _
    refine XS.lcmp X0.here hx rfl (hb hby own_d2_2) rfl ?_
    exact kk)
  by_cases hc3 : x0 = (1 : Int64)
  · obtain ⟨T6, X6, e6, st6⟩ := getS2 X0 hx hZ hown (host := "") (Or.inl (hw _ (List.mem_of_getElem? (i := 24) rfl))) Via.refl e0 ST.1 (g := (mkF m 6 #[.val (.long x0), .second] [])) rfl (hb hby own_d2_6)
    obtain ⟨fs, hr, hrun, hended, hW, hsame⟩ := X6.leave (v := some (.ref (w 0))) (fun h => by rw [Bd.returns] at h; cases h)
    refine ⟨_, _, pre5 _ ?_, hrun, hended, _, _, rfl, ?_, ⟨_, rfl⟩, hW, hsame.mono (by decide) (by decide)⟩
    · show Steps p.tables e below (s₁.setTop (mkF m 3 #[.val (.long x0), .second] [(.int (lcmpW x0 (1 : Int64)))])) _
      refine XS.ifNo X0.here hx rfl (hb hby own_d2_3) rfl ((if0 _ _).trans (teq ((lw_eq _ _).mpr hc3)).2) ?_
      show Steps p.tables e below (s₁.setTop (mkF m 6 #[.val (.long x0), .second] [])) _
      refine st6 _ ?_
      show Steps p.tables e below (T6.setTop (mkF m 9 #[.val (.long x0), .second] [(.ref (w 0))])) _
      exact retOut X6 hx Bd.returns rfl (Or.inr (Or.inr (Or.inr (Or.inr ⟨rfl, rfl, rfl⟩)))) (hb hby own_d2_9) hr
    · show QP (own_cv w x0) h0 n0 _ T6.heap _
      rw [e6]
      exact ⟨by rw [own_cv]; rw [if_pos hc3], N0, rfl⟩
  · have pre7 : ∀ t, Steps p.tables e below (s₁.setTop (mkF m 15 #[.val (.long x0), .second] [(.int (lcmpW x0 (2 : Int64)))])) t → Steps p.tables e below (s₁.setTop (entryFrame m #[(.long x0)] 2)) t := fun tt kk => pre5 tt (by
      show Steps p.tables e below (s₁.setTop (mkF m 3 #[.val (.long x0), .second] [(.int (lcmpW x0 (1 : Int64)))])) _
      refine XS.ifYes X0.here hx rfl (pc0 := 3) (pc' := 10) rfl (hb hby own_d2_3) rfl ((if0 _ _).trans (feq (mt (lw_eq _ _).mp hc3)).2) (by decide) (by decide) ?_
      show Steps p.tables e below (s₁.setTop (mkF m 10 #[.val (.long x0), .second] [])) _
      refine XS.lloadN X0.here hx rfl (hb hby own_d2_10) rfl ?_
      show Steps p.tables e below (s₁.setTop (mkF m 11 #[.val (.long x0), .second] [(.long x0)])) _
      refine X0.ldc2Long hx hown (mvT hZ (hw _ (List.mem_of_getElem? (i := 11) rfl))) (g := (mkF m 11 #[.val (.long x0), .second] [(.long x0)])) rfl (hb hby own_d2_11) _ ?_
      show Steps p.tables e below (s₁.setTop (mkF m 14 #[.val (.long x0), .second] [(.long (2 : Int64)), (.long x0)])) _
      refine XS.lcmp X0.here hx rfl (hb hby own_d2_14) rfl ?_
      exact kk)
    by_cases hc15 : x0 = (2 : Int64)
    · obtain ⟨T8, X8, e8, st8⟩ := getS2 X0 hx hZ hown (host := "") (Or.inl (hw _ (List.mem_of_getElem? (i := 20) rfl))) Via.refl e0 ST.2.1 (g := (mkF m 18 #[.val (.long x0), .second] [])) rfl (hb hby own_d2_18)
      obtain ⟨fs, hr, hrun, hended, hW, hsame⟩ := X8.leave (v := some (.ref (w 1))) (fun h => by rw [Bd.returns] at h; cases h)
      refine ⟨_, _, pre7 _ ?_, hrun, hended, _, _, rfl, ?_, ⟨_, rfl⟩, hW, hsame.mono (by decide) (by decide)⟩
      · show Steps p.tables e below (s₁.setTop (mkF m 15 #[.val (.long x0), .second] [(.int (lcmpW x0 (2 : Int64)))])) _
        refine XS.ifNo X0.here hx rfl (hb hby own_d2_15) rfl ((if0 _ _).trans (teq ((lw_eq _ _).mpr hc15)).2) ?_
        show Steps p.tables e below (s₁.setTop (mkF m 18 #[.val (.long x0), .second] [])) _
        refine st8 _ ?_
        show Steps p.tables e below (T8.setTop (mkF m 21 #[.val (.long x0), .second] [(.ref (w 1))])) _
        exact retOut X8 hx Bd.returns rfl (Or.inr (Or.inr (Or.inr (Or.inr ⟨rfl, rfl, rfl⟩)))) (hb hby own_d2_21) hr
      · show QP (own_cv w x0) h0 n0 _ T8.heap _
        rw [e8]
        exact ⟨by rw [own_cv]; rw [if_neg hc3, if_pos hc15], N0, rfl⟩
    · have pre9 : ∀ t, Steps p.tables e below (s₁.setTop (mkF m 27 #[.val (.long x0), .second] [(.int (lcmpW x0 (3 : Int64)))])) t → Steps p.tables e below (s₁.setTop (entryFrame m #[(.long x0)] 2)) t := fun tt kk => pre7 tt (by
        show Steps p.tables e below (s₁.setTop (mkF m 15 #[.val (.long x0), .second] [(.int (lcmpW x0 (2 : Int64)))])) _
        refine XS.ifYes X0.here hx rfl (pc0 := 15) (pc' := 22) rfl (hb hby own_d2_15) rfl ((if0 _ _).trans (feq (mt (lw_eq _ _).mp hc15)).2) (by decide) (by decide) ?_
        show Steps p.tables e below (s₁.setTop (mkF m 22 #[.val (.long x0), .second] [])) _
        refine XS.lloadN X0.here hx rfl (hb hby own_d2_22) rfl ?_
        show Steps p.tables e below (s₁.setTop (mkF m 23 #[.val (.long x0), .second] [(.long x0)])) _
        refine X0.ldc2Long hx hown (mvT hZ (hw _ (List.mem_of_getElem? (i := 12) rfl))) (g := (mkF m 23 #[.val (.long x0), .second] [(.long x0)])) rfl (hb hby own_d2_23) _ ?_
        show Steps p.tables e below (s₁.setTop (mkF m 26 #[.val (.long x0), .second] [(.long (3 : Int64)), (.long x0)])) _
        refine XS.lcmp X0.here hx rfl (hb hby own_d2_26) rfl ?_
        exact kk)
      by_cases hc27 : x0 = (3 : Int64)
      · obtain ⟨T10, X10, e10, st10⟩ := getS2 X0 hx hZ hown (host := "") (Or.inl (hw _ (List.mem_of_getElem? (i := 18) rfl))) Via.refl e0 ST.2.2.1 (g := (mkF m 30 #[.val (.long x0), .second] [])) rfl (hb hby own_d2_30)
        obtain ⟨fs, hr, hrun, hended, hW, hsame⟩ := X10.leave (v := some (.ref (w 2))) (fun h => by rw [Bd.returns] at h; cases h)
        refine ⟨_, _, pre9 _ ?_, hrun, hended, _, _, rfl, ?_, ⟨_, rfl⟩, hW, hsame.mono (by decide) (by decide)⟩
        · show Steps p.tables e below (s₁.setTop (mkF m 27 #[.val (.long x0), .second] [(.int (lcmpW x0 (3 : Int64)))])) _
          refine XS.ifNo X0.here hx rfl (hb hby own_d2_27) rfl ((if0 _ _).trans (teq ((lw_eq _ _).mpr hc27)).2) ?_
          show Steps p.tables e below (s₁.setTop (mkF m 30 #[.val (.long x0), .second] [])) _
          refine st10 _ ?_
          show Steps p.tables e below (T10.setTop (mkF m 33 #[.val (.long x0), .second] [(.ref (w 2))])) _
          exact retOut X10 hx Bd.returns rfl (Or.inr (Or.inr (Or.inr (Or.inr ⟨rfl, rfl, rfl⟩)))) (hb hby own_d2_33) hr
        · show QP (own_cv w x0) h0 n0 _ T10.heap _
          rw [e10]
          exact ⟨by rw [own_cv]; rw [if_neg hc3, if_neg hc15, if_pos hc27], N0, rfl⟩
      · have pre11 : ∀ t, Steps p.tables e below (s₁.setTop (mkF m 39 #[.val (.long x0), .second] [(.int (lcmpW x0 (4 : Int64)))])) t → Steps p.tables e below (s₁.setTop (entryFrame m #[(.long x0)] 2)) t := fun tt kk => pre9 tt (by
          show Steps p.tables e below (s₁.setTop (mkF m 27 #[.val (.long x0), .second] [(.int (lcmpW x0 (3 : Int64)))])) _
          refine XS.ifYes X0.here hx rfl (pc0 := 27) (pc' := 34) rfl (hb hby own_d2_27) rfl ((if0 _ _).trans (feq (mt (lw_eq _ _).mp hc27)).2) (by decide) (by decide) ?_
          show Steps p.tables e below (s₁.setTop (mkF m 34 #[.val (.long x0), .second] [])) _
          refine XS.lloadN X0.here hx rfl (hb hby own_d2_34) rfl ?_
          show Steps p.tables e below (s₁.setTop (mkF m 35 #[.val (.long x0), .second] [(.long x0)])) _
          refine X0.ldc2Long hx hown (mvT hZ (hw _ (List.mem_of_getElem? (i := 13) rfl))) (g := (mkF m 35 #[.val (.long x0), .second] [(.long x0)])) rfl (hb hby own_d2_35) _ ?_
          show Steps p.tables e below (s₁.setTop (mkF m 38 #[.val (.long x0), .second] [(.long (4 : Int64)), (.long x0)])) _
          refine XS.lcmp X0.here hx rfl (hb hby own_d2_38) rfl ?_
          exact kk)
        by_cases hc39 : x0 = (4 : Int64)
        · obtain ⟨T12, X12, e12, st12⟩ := getS2 X0 hx hZ hown (host := "") (Or.inl (hw _ (List.mem_of_getElem? (i := 30) rfl))) Via.refl e0 ST.2.2.2.1 (g := (mkF m 42 #[.val (.long x0), .second] [])) rfl (hb hby own_d2_42)
          obtain ⟨fs, hr, hrun, hended, hW, hsame⟩ := X12.leave (v := some (.ref (w 3))) (fun h => by rw [Bd.returns] at h; cases h)
          refine ⟨_, _, pre11 _ ?_, hrun, hended, _, _, rfl, ?_, ⟨_, rfl⟩, hW, hsame.mono (by decide) (by decide)⟩
          · show Steps p.tables e below (s₁.setTop (mkF m 39 #[.val (.long x0), .second] [(.int (lcmpW x0 (4 : Int64)))])) _
            refine XS.ifNo X0.here hx rfl (hb hby own_d2_39) rfl ((if0 _ _).trans (teq ((lw_eq _ _).mpr hc39)).2) ?_
            show Steps p.tables e below (s₁.setTop (mkF m 42 #[.val (.long x0), .second] [])) _
            refine st12 _ ?_
            show Steps p.tables e below (T12.setTop (mkF m 45 #[.val (.long x0), .second] [(.ref (w 3))])) _
            exact retOut X12 hx Bd.returns rfl (Or.inr (Or.inr (Or.inr (Or.inr ⟨rfl, rfl, rfl⟩)))) (hb hby own_d2_45) hr
          · show QP (own_cv w x0) h0 n0 _ T12.heap _
            rw [e12]
            exact ⟨by rw [own_cv]; rw [if_neg hc3, if_neg hc15, if_neg hc27, if_pos hc39], N0, rfl⟩
        · have pre13 : ∀ t, Steps p.tables e below (s₁.setTop (mkF m 51 #[.val (.long x0), .second] [(.int (lcmpW x0 (5 : Int64)))])) t → Steps p.tables e below (s₁.setTop (entryFrame m #[(.long x0)] 2)) t := fun tt kk => pre11 tt (by
            show Steps p.tables e below (s₁.setTop (mkF m 39 #[.val (.long x0), .second] [(.int (lcmpW x0 (4 : Int64)))])) _
            refine XS.ifYes X0.here hx rfl (pc0 := 39) (pc' := 46) rfl (hb hby own_d2_39) rfl ((if0 _ _).trans (feq (mt (lw_eq _ _).mp hc39)).2) (by decide) (by decide) ?_
            show Steps p.tables e below (s₁.setTop (mkF m 46 #[.val (.long x0), .second] [])) _
            refine XS.lloadN X0.here hx rfl (hb hby own_d2_46) rfl ?_
            show Steps p.tables e below (s₁.setTop (mkF m 47 #[.val (.long x0), .second] [(.long x0)])) _
            refine X0.ldc2Long hx hown (mvT hZ (hw _ (List.mem_of_getElem? (i := 14) rfl))) (g := (mkF m 47 #[.val (.long x0), .second] [(.long x0)])) rfl (hb hby own_d2_47) _ ?_
            show Steps p.tables e below (s₁.setTop (mkF m 50 #[.val (.long x0), .second] [(.long (5 : Int64)), (.long x0)])) _
            refine XS.lcmp X0.here hx rfl (hb hby own_d2_50) rfl ?_
            exact kk)
          by_cases hc51 : x0 = (5 : Int64)
          · obtain ⟨T14, X14, e14, st14⟩ := getS2 X0 hx hZ hown (host := "") (Or.inl (hw _ (List.mem_of_getElem? (i := 22) rfl))) Via.refl e0 ST.2.2.2.2.1 (g := (mkF m 54 #[.val (.long x0), .second] [])) rfl (hb hby own_d2_54)
            obtain ⟨fs, hr, hrun, hended, hW, hsame⟩ := X14.leave (v := some (.ref (w 4))) (fun h => by rw [Bd.returns] at h; cases h)
            refine ⟨_, _, pre13 _ ?_, hrun, hended, _, _, rfl, ?_, ⟨_, rfl⟩, hW, hsame.mono (by decide) (by decide)⟩
            · show Steps p.tables e below (s₁.setTop (mkF m 51 #[.val (.long x0), .second] [(.int (lcmpW x0 (5 : Int64)))])) _
              refine XS.ifNo X0.here hx rfl (hb hby own_d2_51) rfl ((if0 _ _).trans (teq ((lw_eq _ _).mpr hc51)).2) ?_
              show Steps p.tables e below (s₁.setTop (mkF m 54 #[.val (.long x0), .second] [])) _
              refine st14 _ ?_
              show Steps p.tables e below (T14.setTop (mkF m 57 #[.val (.long x0), .second] [(.ref (w 4))])) _
              exact retOut X14 hx Bd.returns rfl (Or.inr (Or.inr (Or.inr (Or.inr ⟨rfl, rfl, rfl⟩)))) (hb hby own_d2_57) hr
            · show QP (own_cv w x0) h0 n0 _ T14.heap _
              rw [e14]
              exact ⟨by rw [own_cv]; rw [if_neg hc3, if_neg hc15, if_neg hc27, if_neg hc39, if_pos hc51], N0, rfl⟩
          · have pre15 : ∀ t, Steps p.tables e below (s₁.setTop (mkF m 63 #[.val (.long x0), .second] [(.int (lcmpW x0 (6 : Int64)))])) t → Steps p.tables e below (s₁.setTop (entryFrame m #[(.long x0)] 2)) t := fun tt kk => pre13 tt (by
              show Steps p.tables e below (s₁.setTop (mkF m 51 #[.val (.long x0), .second] [(.int (lcmpW x0 (5 : Int64)))])) _
              refine XS.ifYes X0.here hx rfl (pc0 := 51) (pc' := 58) rfl (hb hby own_d2_51) rfl ((if0 _ _).trans (feq (mt (lw_eq _ _).mp hc51)).2) (by decide) (by decide) ?_
              show Steps p.tables e below (s₁.setTop (mkF m 58 #[.val (.long x0), .second] [])) _
              refine XS.lloadN X0.here hx rfl (hb hby own_d2_58) rfl ?_
              show Steps p.tables e below (s₁.setTop (mkF m 59 #[.val (.long x0), .second] [(.long x0)])) _
              refine X0.ldc2Long hx hown (mvT hZ (hw _ (List.mem_of_getElem? (i := 15) rfl))) (g := (mkF m 59 #[.val (.long x0), .second] [(.long x0)])) rfl (hb hby own_d2_59) _ ?_
              show Steps p.tables e below (s₁.setTop (mkF m 62 #[.val (.long x0), .second] [(.long (6 : Int64)), (.long x0)])) _
              refine XS.lcmp X0.here hx rfl (hb hby own_d2_62) rfl ?_
              exact kk)
            by_cases hc63 : x0 = (6 : Int64)
            · obtain ⟨T16, X16, e16, st16⟩ := getS2 X0 hx hZ hown (host := "") (Or.inl (hw _ (List.mem_of_getElem? (i := 26) rfl))) Via.refl e0 ST.2.2.2.2.2.1 (g := (mkF m 66 #[.val (.long x0), .second] [])) rfl (hb hby own_d2_66)
              obtain ⟨fs, hr, hrun, hended, hW, hsame⟩ := X16.leave (v := some (.ref (w 5))) (fun h => by rw [Bd.returns] at h; cases h)
              refine ⟨_, _, pre15 _ ?_, hrun, hended, _, _, rfl, ?_, ⟨_, rfl⟩, hW, hsame.mono (by decide) (by decide)⟩
              · show Steps p.tables e below (s₁.setTop (mkF m 63 #[.val (.long x0), .second] [(.int (lcmpW x0 (6 : Int64)))])) _
                refine XS.ifNo X0.here hx rfl (hb hby own_d2_63) rfl ((if0 _ _).trans (teq ((lw_eq _ _).mpr hc63)).2) ?_
                show Steps p.tables e below (s₁.setTop (mkF m 66 #[.val (.long x0), .second] [])) _
                refine st16 _ ?_
                show Steps p.tables e below (T16.setTop (mkF m 69 #[.val (.long x0), .second] [(.ref (w 5))])) _
                exact retOut X16 hx Bd.returns rfl (Or.inr (Or.inr (Or.inr (Or.inr ⟨rfl, rfl, rfl⟩)))) (hb hby own_d2_69) hr
              · show QP (own_cv w x0) h0 n0 _ T16.heap _
                rw [e16]
                exact ⟨by rw [own_cv]; rw [if_neg hc3, if_neg hc15, if_neg hc27, if_neg hc39, if_neg hc51, if_pos hc63], N0, rfl⟩
            · have pre17 : ∀ t, Steps p.tables e below (s₁.setTop (mkF m 75 #[.val (.long x0), .second] [(.int (lcmpW x0 (7 : Int64)))])) t → Steps p.tables e below (s₁.setTop (entryFrame m #[(.long x0)] 2)) t := fun tt kk => pre15 tt (by
                show Steps p.tables e below (s₁.setTop (mkF m 63 #[.val (.long x0), .second] [(.int (lcmpW x0 (6 : Int64)))])) _
                refine XS.ifYes X0.here hx rfl (pc0 := 63) (pc' := 70) rfl (hb hby own_d2_63) rfl ((if0 _ _).trans (feq (mt (lw_eq _ _).mp hc63)).2) (by decide) (by decide) ?_
                show Steps p.tables e below (s₁.setTop (mkF m 70 #[.val (.long x0), .second] [])) _
                refine XS.lloadN X0.here hx rfl (hb hby own_d2_70) rfl ?_
                show Steps p.tables e below (s₁.setTop (mkF m 71 #[.val (.long x0), .second] [(.long x0)])) _
                refine X0.ldc2Long hx hown (mvT hZ (hw _ (List.mem_of_getElem? (i := 16) rfl))) (g := (mkF m 71 #[.val (.long x0), .second] [(.long x0)])) rfl (hb hby own_d2_71) _ ?_
                show Steps p.tables e below (s₁.setTop (mkF m 74 #[.val (.long x0), .second] [(.long (7 : Int64)), (.long x0)])) _
                refine XS.lcmp X0.here hx rfl (hb hby own_d2_74) rfl ?_
                exact kk)
              by_cases hc75 : x0 = (7 : Int64)
              · obtain ⟨T18, X18, e18, st18⟩ := getS2 X0 hx hZ hown (host := "") (Or.inl (hw _ (List.mem_of_getElem? (i := 28) rfl))) Via.refl e0 ST.2.2.2.2.2.2 (g := (mkF m 78 #[.val (.long x0), .second] [])) rfl (hb hby own_d2_78)
                obtain ⟨fs, hr, hrun, hended, hW, hsame⟩ := X18.leave (v := some (.ref (w 6))) (fun h => by rw [Bd.returns] at h; cases h)
                refine ⟨_, _, pre17 _ ?_, hrun, hended, _, _, rfl, ?_, ⟨_, rfl⟩, hW, hsame.mono (by decide) (by decide)⟩
                · show Steps p.tables e below (s₁.setTop (mkF m 75 #[.val (.long x0), .second] [(.int (lcmpW x0 (7 : Int64)))])) _
                  refine XS.ifNo X0.here hx rfl (hb hby own_d2_75) rfl ((if0 _ _).trans (teq ((lw_eq _ _).mpr hc75)).2) ?_
                  show Steps p.tables e below (s₁.setTop (mkF m 78 #[.val (.long x0), .second] [])) _
                  refine st18 _ ?_
                  show Steps p.tables e below (T18.setTop (mkF m 81 #[.val (.long x0), .second] [(.ref (w 6))])) _
                  exact retOut X18 hx Bd.returns rfl (Or.inr (Or.inr (Or.inr (Or.inr ⟨rfl, rfl, rfl⟩)))) (hb hby own_d2_81) hr
                · show QP (own_cv w x0) h0 n0 _ T18.heap _
                  rw [e18]
                  exact ⟨by rw [own_cv]; rw [if_neg hc3, if_neg hc15, if_neg hc27, if_neg hc39, if_neg hc51, if_neg hc63, if_pos hc75], N0, rfl⟩
              · obtain ⟨fs, hr, hrun, hended, hW, hsame⟩ := X0.leave (v := some .null) (fun h => by rw [Bd.returns] at h; cases h)
                refine ⟨_, _, pre17 _ ?_, hrun, hended, _, _, rfl, ?_, ⟨_, rfl⟩, hW, hsame.mono (by decide) (by decide)⟩
                · show Steps p.tables e below (s₁.setTop (mkF m 75 #[.val (.long x0), .second] [(.int (lcmpW x0 (7 : Int64)))])) _
                  refine XS.ifYes X0.here hx rfl (pc0 := 75) (pc' := 82) rfl (hb hby own_d2_75) rfl ((if0 _ _).trans (feq (mt (lw_eq _ _).mp hc75)).2) (by decide) (by decide) ?_
                  show Steps p.tables e below (s₁.setTop (mkF m 82 #[.val (.long x0), .second] [])) _
                  refine XS.aconstNull X0.here hx rfl (hb hby own_d2_82) ?_
                  show Steps p.tables e below (s₁.setTop (mkF m 83 #[.val (.long x0), .second] [.null])) _
                  exact retOut X0 hx Bd.returns rfl (Or.inr (Or.inr (Or.inr (Or.inr ⟨rfl, rfl, rfl⟩)))) (hb hby own_d2_83) hr
                · show QP (own_cv w x0) h0 n0 _ s₁.heap _
                  rw [e0]
                  exact ⟨by rw [own_cv]; rw [if_neg hc3, if_neg hc15, if_neg hc27, if_neg hc39, if_neg hc51, if_neg hc63, if_neg hc75], N0, rfl⟩
set_option maxRecDepth 65536 in
set_option maxHeartbeats 40000000 in
theorem rm0 (l : Launch) (Z : State) (a0 : Array Value) (hw : ∀ d ∈ tables_1, d.before a0 Z = true) (ws : List Jvm.Cond) (x0 : Int64) (x1 : Int32) (w : Nat → Addr) (b : Addr) (cl : Cell) (h0 : Heap) (n0 : Nat) (Z0 : n0 ≤ h0.size) (ST : STA Z h0 w) (SB : Sta Z h0 "com/example/slidebook/slidebook/replay/MessageType" "BY_CODE" "[Lcom/example/slidebook/slidebook/replay/MessageType;" (.ref b)) (AR : Arr Z h0 b cl (.object "com/example/slidebook/slidebook/replay/MessageType")) (SZ : cl.slots.size = (8 : Int32).toNatClampNeg) (HA : ∀ c : Int64, ¬ c < 0 → c < (8 : Int32).toInt64 → ¬ (c.toInt32 < 0 ∨ cl.slots.size ≤ c.toInt32.toNatClampNeg) ∧ cl.slots[c.toInt32.toNatClampNeg]? = some (own_cv w c)) :
    MetFree l x (head1 (Jvm.Cond.code x code maxLocals ret :: ws) room_1) (fun a U => a = #[(.long x0), (.int x1)] ∧ Z.Warmed39 U.vm ∧ U.heap = h0) (fun _ _ _ _ _ => True) (fun _ U o U' => ∃ v L, o = .returned v ∧ Q1 n0 v U'.heap L ∧ FrameEnd U o U' L room_1.cells room_1.slots) := by
  refine MetFree.of_bodySF (plainFor_of_name (by first | (simp [plainName, overriddenIn]; done) | decide +kernel)) hisR ?_
  intro p e s m args below meth c s₁ Bd hml0 hP hK
  obtain ⟨rfl, hZ, hh⟩ := hP
  have hx := Bd.exec
  have hby := Bd.bytes
  have hml : c.maxLocals = 9 := hml0
  have hown : s.vm.findClass "com/example/slidebook/slidebook/replay/MessageTypeOfPinLaw" = some m.cls := findClass_of_methodNamed Bd.named
  have hnm := (name_of_methodNamed Bd.named Bd.method).1
  have X0 : Stand p l e room_1 s m #[(.long x0), (.int x1)] below meth c s₁ [] 0 0 := Stand.of_body Bd
  have e0 : s₁.heap = h0 := by rw [← hh, Bd.state]; rfl
  have N0 := Fr.nil n0
  have ef0 : entryFrame m #[(.long x0), (.int x1)] maxLocals = mkF m 0 #[.val (.long x0), .second, .val (.int x1), .unset, .unset, .unset, .unset, .unset, .unset] [] := by first | (simp [entryFrame, mkF, argsToLocals, Value.category, maxLocals]; done) | rfl
  have pre0 : ∀ t, Steps p.tables e below (s₁.setTop (mkF m 0 #[.val (.long x0), .second, .val (.int x1), .unset, .unset, .unset, .unset, .unset, .unset] [])) t → Steps p.tables e below (s₁.setTop (entryFrame m #[(.long x0), (.int x1)] maxLocals)) t := fun t k => castTop ef0 k
  have pre19 : ∀ t, Steps p.tables e below (s₁.setTop (mkF m 15 #[.val (.long x0), .second, .val (.int x1), .val (.int (x1 &&& (3 : Int32))), .val (.long (((((x1.toUInt32 >>> ((2 : Int32) &&& 31).toUInt32).toInt32) % (11 : Int32)) - (2 : Int32)).toInt64)), .second, .unset, .unset, .unset] [])) t → Steps p.tables e below (s₁.setTop (entryFrame m #[(.long x0), (.int x1)] maxLocals)) t := fun tt kk => pre0 tt (by
    show Steps p.tables e below (s₁.setTop (mkF m 0 #[.val (.long x0), .second, .val (.int x1), .unset, .unset, .unset, .unset, .unset, .unset] [])) _
    refine XS.iloadN X0.here hx rfl (hb hby at_0) rfl ?_
    show Steps p.tables e below (s₁.setTop (mkF m 1 #[.val (.long x0), .second, .val (.int x1), .unset, .unset, .unset, .unset, .unset, .unset] [(.int x1)])) _
    refine XS.iconst X0.here hx rfl (hb hby at_1) ?_
    show Steps p.tables e below (s₁.setTop (mkF m 2 #[.val (.long x0), .second, .val (.int x1), .unset, .unset, .unset, .unset, .unset, .unset] [(.int (3 : Int32)), (.int x1)])) _
    refine XS.iand X0.here hx rfl (hb hby at_2) rfl ?_
    show Steps p.tables e below (s₁.setTop (mkF m 3 #[.val (.long x0), .second, .val (.int x1), .unset, .unset, .unset, .unset, .unset, .unset] [(.int (x1 &&& (3 : Int32)))])) _
    refine XS.istoreN X0.here hx rfl (hb hby at_3) rfl (l' := #[.val (.long x0), .second, .val (.int x1), .val (.int (x1 &&& (3 : Int32))), .unset, .unset, .unset, .unset, .unset]) rfl ?_
    show Steps p.tables e below (s₁.setTop (mkF m 4 #[.val (.long x0), .second, .val (.int x1), .val (.int (x1 &&& (3 : Int32))), .unset, .unset, .unset, .unset, .unset] [])) _
    refine XS.iloadN X0.here hx rfl (hb hby at_4) rfl ?_
    show Steps p.tables e below (s₁.setTop (mkF m 5 #[.val (.long x0), .second, .val (.int x1), .val (.int (x1 &&& (3 : Int32))), .unset, .unset, .unset, .unset, .unset] [(.int x1)])) _
    refine XS.iconst X0.here hx rfl (hb hby at_5) ?_
    show Steps p.tables e below (s₁.setTop (mkF m 6 #[.val (.long x0), .second, .val (.int x1), .val (.int (x1 &&& (3 : Int32))), .unset, .unset, .unset, .unset, .unset] [(.int (2 : Int32)), (.int x1)])) _
    refine XS.iushr X0.here hx rfl (hb hby at_6) rfl ?_
    show Steps p.tables e below (s₁.setTop (mkF m 7 #[.val (.long x0), .second, .val (.int x1), .val (.int (x1 &&& (3 : Int32))), .unset, .unset, .unset, .unset, .unset] [(.int ((x1.toUInt32 >>> ((2 : Int32) &&& 31).toUInt32).toInt32))])) _
    refine XS.bipush X0.here hx rfl (hb hby at_7) ?_
    show Steps p.tables e below (s₁.setTop (mkF m 9 #[.val (.long x0), .second, .val (.int x1), .val (.int (x1 &&& (3 : Int32))), .unset, .unset, .unset, .unset, .unset] [(.int (11 : Int32)), (.int ((x1.toUInt32 >>> ((2 : Int32) &&& 31).toUInt32).toInt32))])) _
    refine iremM X0 hx rfl (hb hby at_9) rfl (by decide) ?_
    show Steps p.tables e below (s₁.setTop (mkF m 10 #[.val (.long x0), .second, .val (.int x1), .val (.int (x1 &&& (3 : Int32))), .unset, .unset, .unset, .unset, .unset] [(.int (((x1.toUInt32 >>> ((2 : Int32) &&& 31).toUInt32).toInt32) % (11 : Int32)))])) _
    refine XS.iconst X0.here hx rfl (hb hby at_10) ?_
    show Steps p.tables e below (s₁.setTop (mkF m 11 #[.val (.long x0), .second, .val (.int x1), .val (.int (x1 &&& (3 : Int32))), .unset, .unset, .unset, .unset, .unset] [(.int (2 : Int32)), (.int (((x1.toUInt32 >>> ((2 : Int32) &&& 31).toUInt32).toInt32) % (11 : Int32)))])) _
    refine XS.isub X0.here hx rfl (hb hby at_11) rfl ?_
    show Steps p.tables e below (s₁.setTop (mkF m 12 #[.val (.long x0), .second, .val (.int x1), .val (.int (x1 &&& (3 : Int32))), .unset, .unset, .unset, .unset, .unset] [(.int ((((x1.toUInt32 >>> ((2 : Int32) &&& 31).toUInt32).toInt32) % (11 : Int32)) - (2 : Int32)))])) _
    refine XS.i2l X0.here hx rfl (hb hby at_12) rfl ?_
    show Steps p.tables e below (s₁.setTop (mkF m 13 #[.val (.long x0), .second, .val (.int x1), .val (.int (x1 &&& (3 : Int32))), .unset, .unset, .unset, .unset, .unset] [(.long (((((x1.toUInt32 >>> ((2 : Int32) &&& 31).toUInt32).toInt32) % (11 : Int32)) - (2 : Int32)).toInt64))])) _
    refine XS.lstore X0.here hx rfl (hb hby at_13) rfl (l' := #[.val (.long x0), .second, .val (.int x1), .val (.int (x1 &&& (3 : Int32))), .val (.long (((((x1.toUInt32 >>> ((2 : Int32) &&& 31).toUInt32).toInt32) % (11 : Int32)) - (2 : Int32)).toInt64)), .second, .unset, .unset, .unset]) rfl ?_
    exact kk)
  obtain ⟨cd, T20, X20, e20, pre20⟩ : ∃ (cd : Int64) (T' : State), Stand p l e room_1 s m #[(.long x0), (.int x1)] below meth c T' [] 0 0 ∧ T'.heap = h0 ∧ ∀ t, Steps p.tables e below (T'.setTop (mkF m 62 #[.val (.long x0), .second, .val (.int x1), .val (.int (x1 &&& (3 : Int32))), .val (.long (((((x1.toUInt32 >>> ((2 : Int32) &&& 31).toUInt32).toInt32) % (11 : Int32)) - (2 : Int32)).toInt64)), .second, .val (.long cd), .second, .unset] [])) t → Steps p.tables e below (s₁.setTop (entryFrame m #[(.long x0), (.int x1)] maxLocals)) t := by
    have pre21 : ∀ t, Steps p.tables e below (s₁.setTop (mkF m 16 #[.val (.long x0), .second, .val (.int x1), .val (.int (x1 &&& (3 : Int32))), .val (.long (((((x1.toUInt32 >>> ((2 : Int32) &&& 31).toUInt32).toInt32) % (11 : Int32)) - (2 : Int32)).toInt64)), .second, .unset, .unset, .unset] [(.int (x1 &&& (3 : Int32)))])) t → Steps p.tables e below (s₁.setTop (entryFrame m #[(.long x0), (.int x1)] maxLocals)) t := fun tt kk => pre19 tt (by
      show Steps p.tables e below (s₁.setTop (mkF m 15 #[.val (.long x0), .second, .val (.int x1), .val (.int (x1 &&& (3 : Int32))), .val (.long (((((x1.toUInt32 >>> ((2 : Int32) &&& 31).toUInt32).toInt32) % (11 : Int32)) - (2 : Int32)).toInt64)), .second, .unset, .unset, .unset] [])) _
      refine XS.iloadN X0.here hx rfl (hb hby at_15) rfl ?_
      exact kk)
    by_cases hc16 : (x1 &&& (3 : Int32)) = (0 : Int32)
    · refine ⟨x0, s₁, X0, e0, fun tt kk => pre21 tt ?_⟩
      show Steps p.tables e below (s₁.setTop (mkF m 16 #[.val (.long x0), .second, .val (.int x1), .val (.int (x1 &&& (3 : Int32))), .val (.long (((((x1.toUInt32 >>> ((2 : Int32) &&& 31).toUInt32).toInt32) % (11 : Int32)) - (2 : Int32)).toInt64)), .second, .unset, .unset, .unset] [(.int (x1 &&& (3 : Int32)))])) _
      refine XS.ifNo X0.here hx rfl (hb hby at_16) rfl ((if0 _ _).trans (teq hc16).2) ?_
      show Steps p.tables e below (s₁.setTop (mkF m 19 #[.val (.long x0), .second, .val (.int x1), .val (.int (x1 &&& (3 : Int32))), .val (.long (((((x1.toUInt32 >>> ((2 : Int32) &&& 31).toUInt32).toInt32) % (11 : Int32)) - (2 : Int32)).toInt64)), .second, .unset, .unset, .unset] [])) _
      refine XS.lloadN X0.here hx rfl (hb hby at_19) rfl ?_
      show Steps p.tables e below (s₁.setTop (mkF m 20 #[.val (.long x0), .second, .val (.int x1), .val (.int (x1 &&& (3 : Int32))), .val (.long (((((x1.toUInt32 >>> ((2 : Int32) &&& 31).toUInt32).toInt32) % (11 : Int32)) - (2 : Int32)).toInt64)), .second, .unset, .unset, .unset] [(.long x0)])) _
      refine XS.lstore X0.here hx rfl (hb hby at_20) rfl (l' := #[.val (.long x0), .second, .val (.int x1), .val (.int (x1 &&& (3 : Int32))), .val (.long (((((x1.toUInt32 >>> ((2 : Int32) &&& 31).toUInt32).toInt32) % (11 : Int32)) - (2 : Int32)).toInt64)), .second, .val (.long x0), .second, .unset]) rfl ?_
      show Steps p.tables e below (s₁.setTop (mkF m 22 #[.val (.long x0), .second, .val (.int x1), .val (.int (x1 &&& (3 : Int32))), .val (.long (((((x1.toUInt32 >>> ((2 : Int32) &&& 31).toUInt32).toInt32) % (11 : Int32)) - (2 : Int32)).toInt64)), .second, .val (.long x0), .second, .unset] [])) _
      refine XS.goto X0.here hx rfl (pc0 := 22) (pc' := 62) rfl (hb hby at_22) (by decide) (by decide) ?_
      exact kk
    · have pre22 : ∀ t, Steps p.tables e below (s₁.setTop (mkF m 27 #[.val (.long x0), .second, .val (.int x1), .val (.int (x1 &&& (3 : Int32))), .val (.long (((((x1.toUInt32 >>> ((2 : Int32) &&& 31).toUInt32).toInt32) % (11 : Int32)) - (2 : Int32)).toInt64)), .second, .unset, .unset, .unset] [(.int (1 : Int32)), (.int (x1 &&& (3 : Int32)))])) t → Steps p.tables e below (s₁.setTop (entryFrame m #[(.long x0), (.int x1)] maxLocals)) t := fun tt kk => pre21 tt (by
        show Steps p.tables e below (s₁.setTop (mkF m 16 #[.val (.long x0), .second, .val (.int x1), .val (.int (x1 &&& (3 : Int32))), .val (.long (((((x1.toUInt32 >>> ((2 : Int32) &&& 31).toUInt32).toInt32) % (11 : Int32)) - (2 : Int32)).toInt64)), .second, .unset, .unset, .unset] [(.int (x1 &&& (3 : Int32)))])) _
        refine XS.ifYes X0.here hx rfl (pc0 := 16) (pc' := 25) rfl (hb hby at_16) rfl ((if0 _ _).trans (feq hc16).2) (by decide) (by decide) ?_
        show Steps p.tables e below (s₁.setTop (mkF m 25 #[.val (.long x0), .second, .val (.int x1), .val (.int (x1 &&& (3 : Int32))), .val (.long (((((x1.toUInt32 >>> ((2 : Int32) &&& 31).toUInt32).toInt32) % (11 : Int32)) - (2 : Int32)).toInt64)), .second, .unset, .unset, .unset] [])) _
        refine XS.iloadN X0.here hx rfl (hb hby at_25) rfl ?_
        show Steps p.tables e below (s₁.setTop (mkF m 26 #[.val (.long x0), .second, .val (.int x1), .val (.int (x1 &&& (3 : Int32))), .val (.long (((((x1.toUInt32 >>> ((2 : Int32) &&& 31).toUInt32).toInt32) % (11 : Int32)) - (2 : Int32)).toInt64)), .second, .unset, .unset, .unset] [(.int (x1 &&& (3 : Int32)))])) _
        refine XS.iconst X0.here hx rfl (hb hby at_26) ?_
        exact kk)
      by_cases hc27 : (x1 &&& (3 : Int32)) = (1 : Int32)
      · refine ⟨(((((x1.toUInt32 >>> ((2 : Int32) &&& 31).toUInt32).toInt32) % (11 : Int32)) - (2 : Int32)).toInt64), s₁, X0, e0, fun tt kk => pre22 tt ?_⟩
        show Steps p.tables e below (s₁.setTop (mkF m 27 #[.val (.long x0), .second, .val (.int x1), .val (.int (x1 &&& (3 : Int32))), .val (.long (((((x1.toUInt32 >>> ((2 : Int32) &&& 31).toUInt32).toInt32) % (11 : Int32)) - (2 : Int32)).toInt64)), .second, .unset, .unset, .unset] [(.int (1 : Int32)), (.int (x1 &&& (3 : Int32)))])) _
        refine XS.icmpNo X0.here hx rfl (hb hby at_27) rfl (teq hc27).2 ?_
        show Steps p.tables e below (s₁.setTop (mkF m 30 #[.val (.long x0), .second, .val (.int x1), .val (.int (x1 &&& (3 : Int32))), .val (.long (((((x1.toUInt32 >>> ((2 : Int32) &&& 31).toUInt32).toInt32) % (11 : Int32)) - (2 : Int32)).toInt64)), .second, .unset, .unset, .unset] [])) _
        refine XS.lload X0.here hx rfl (hb hby at_30) rfl ?_
        show Steps p.tables e below (s₁.setTop (mkF m 32 #[.val (.long x0), .second, .val (.int x1), .val (.int (x1 &&& (3 : Int32))), .val (.long (((((x1.toUInt32 >>> ((2 : Int32) &&& 31).toUInt32).toInt32) % (11 : Int32)) - (2 : Int32)).toInt64)), .second, .unset, .unset, .unset] [(.long (((((x1.toUInt32 >>> ((2 : Int32) &&& 31).toUInt32).toInt32) % (11 : Int32)) - (2 : Int32)).toInt64))])) _
        refine XS.lstore X0.here hx rfl (hb hby at_32) rfl (l' := #[.val (.long x0), .second, .val (.int x1), .val (.int (x1 &&& (3 : Int32))), .val (.long (((((x1.toUInt32 >>> ((2 : Int32) &&& 31).toUInt32).toInt32) % (11 : Int32)) - (2 : Int32)).toInt64)), .second, .val (.long (((((x1.toUInt32 >>> ((2 : Int32) &&& 31).toUInt32).toInt32) % (11 : Int32)) - (2 : Int32)).toInt64)), .second, .unset]) rfl ?_
        show Steps p.tables e below (s₁.setTop (mkF m 34 #[.val (.long x0), .second, .val (.int x1), .val (.int (x1 &&& (3 : Int32))), .val (.long (((((x1.toUInt32 >>> ((2 : Int32) &&& 31).toUInt32).toInt32) % (11 : Int32)) - (2 : Int32)).toInt64)), .second, .val (.long (((((x1.toUInt32 >>> ((2 : Int32) &&& 31).toUInt32).toInt32) % (11 : Int32)) - (2 : Int32)).toInt64)), .second, .unset] [])) _
        refine XS.goto X0.here hx rfl (pc0 := 34) (pc' := 62) rfl (hb hby at_34) (by decide) (by decide) ?_
        exact kk
      · have pre23 : ∀ t, Steps p.tables e below (s₁.setTop (mkF m 39 #[.val (.long x0), .second, .val (.int x1), .val (.int (x1 &&& (3 : Int32))), .val (.long (((((x1.toUInt32 >>> ((2 : Int32) &&& 31).toUInt32).toInt32) % (11 : Int32)) - (2 : Int32)).toInt64)), .second, .unset, .unset, .unset] [(.int (2 : Int32)), (.int (x1 &&& (3 : Int32)))])) t → Steps p.tables e below (s₁.setTop (entryFrame m #[(.long x0), (.int x1)] maxLocals)) t := fun tt kk => pre22 tt (by
          show Steps p.tables e below (s₁.setTop (mkF m 27 #[.val (.long x0), .second, .val (.int x1), .val (.int (x1 &&& (3 : Int32))), .val (.long (((((x1.toUInt32 >>> ((2 : Int32) &&& 31).toUInt32).toInt32) % (11 : Int32)) - (2 : Int32)).toInt64)), .second, .unset, .unset, .unset] [(.int (1 : Int32)), (.int (x1 &&& (3 : Int32)))])) _
          refine XS.icmpYes X0.here hx rfl (pc0 := 27) (pc' := 37) rfl (hb hby at_27) rfl (feq hc27).2 (by decide) (by decide) ?_
          show Steps p.tables e below (s₁.setTop (mkF m 37 #[.val (.long x0), .second, .val (.int x1), .val (.int (x1 &&& (3 : Int32))), .val (.long (((((x1.toUInt32 >>> ((2 : Int32) &&& 31).toUInt32).toInt32) % (11 : Int32)) - (2 : Int32)).toInt64)), .second, .unset, .unset, .unset] [])) _
          refine XS.iloadN X0.here hx rfl (hb hby at_37) rfl ?_
          show Steps p.tables e below (s₁.setTop (mkF m 38 #[.val (.long x0), .second, .val (.int x1), .val (.int (x1 &&& (3 : Int32))), .val (.long (((((x1.toUInt32 >>> ((2 : Int32) &&& 31).toUInt32).toInt32) % (11 : Int32)) - (2 : Int32)).toInt64)), .second, .unset, .unset, .unset] [(.int (x1 &&& (3 : Int32)))])) _
          refine XS.iconst X0.here hx rfl (hb hby at_38) ?_
          exact kk)
        by_cases hc39 : (x1 &&& (3 : Int32)) = (2 : Int32)
        · refine ⟨((x0 <<< ((32 : Int32) &&& 0x3f).toInt64) ||| ((((((x1.toUInt32 >>> ((2 : Int32) &&& 31).toUInt32).toInt32) % (11 : Int32)) - (2 : Int32)).toInt64) &&& (4294967295 : Int64))), s₁, X0, e0, fun tt kk => pre23 tt ?_⟩
          show Steps p.tables e below (s₁.setTop (mkF m 39 #[.val (.long x0), .second, .val (.int x1), .val (.int (x1 &&& (3 : Int32))), .val (.long (((((x1.toUInt32 >>> ((2 : Int32) &&& 31).toUInt32).toInt32) % (11 : Int32)) - (2 : Int32)).toInt64)), .second, .unset, .unset, .unset] [(.int (2 : Int32)), (.int (x1 &&& (3 : Int32)))])) _
          refine XS.icmpNo X0.here hx rfl (hb hby at_39) rfl (teq hc39).2 ?_
          show Steps p.tables e below (s₁.setTop (mkF m 42 #[.val (.long x0), .second, .val (.int x1), .val (.int (x1 &&& (3 : Int32))), .val (.long (((((x1.toUInt32 >>> ((2 : Int32) &&& 31).toUInt32).toInt32) % (11 : Int32)) - (2 : Int32)).toInt64)), .second, .unset, .unset, .unset] [])) _
          refine XS.lloadN X0.here hx rfl (hb hby at_42) rfl ?_
          show Steps p.tables e below (s₁.setTop (mkF m 43 #[.val (.long x0), .second, .val (.int x1), .val (.int (x1 &&& (3 : Int32))), .val (.long (((((x1.toUInt32 >>> ((2 : Int32) &&& 31).toUInt32).toInt32) % (11 : Int32)) - (2 : Int32)).toInt64)), .second, .unset, .unset, .unset] [(.long x0)])) _
          refine XS.bipush X0.here hx rfl (hb hby at_43) ?_
          show Steps p.tables e below (s₁.setTop (mkF m 45 #[.val (.long x0), .second, .val (.int x1), .val (.int (x1 &&& (3 : Int32))), .val (.long (((((x1.toUInt32 >>> ((2 : Int32) &&& 31).toUInt32).toInt32) % (11 : Int32)) - (2 : Int32)).toInt64)), .second, .unset, .unset, .unset] [(.int (32 : Int32)), (.long x0)])) _
          refine XS.lshl X0.here hx rfl (hb hby at_45) rfl ?_
          show Steps p.tables e below (s₁.setTop (mkF m 46 #[.val (.long x0), .second, .val (.int x1), .val (.int (x1 &&& (3 : Int32))), .val (.long (((((x1.toUInt32 >>> ((2 : Int32) &&& 31).toUInt32).toInt32) % (11 : Int32)) - (2 : Int32)).toInt64)), .second, .unset, .unset, .unset] [(.long (x0 <<< ((32 : Int32) &&& 0x3f).toInt64))])) _
          refine XS.lload X0.here hx rfl (hb hby at_46) rfl ?_
          show Steps p.tables e below (s₁.setTop (mkF m 48 #[.val (.long x0), .second, .val (.int x1), .val (.int (x1 &&& (3 : Int32))), .val (.long (((((x1.toUInt32 >>> ((2 : Int32) &&& 31).toUInt32).toInt32) % (11 : Int32)) - (2 : Int32)).toInt64)), .second, .unset, .unset, .unset] [(.long (((((x1.toUInt32 >>> ((2 : Int32) &&& 31).toUInt32).toInt32) % (11 : Int32)) - (2 : Int32)).toInt64)), (.long (x0 <<< ((32 : Int32) &&& 0x3f).toInt64))])) _
          refine X0.ldc2Long hx hown (mvT hZ (hw _ (List.mem_of_getElem? (i := 0) rfl))) (g := (mkF m 48 #[.val (.long x0), .second, .val (.int x1), .val (.int (x1 &&& (3 : Int32))), .val (.long (((((x1.toUInt32 >>> ((2 : Int32) &&& 31).toUInt32).toInt32) % (11 : Int32)) - (2 : Int32)).toInt64)), .second, .unset, .unset, .unset] [(.long (((((x1.toUInt32 >>> ((2 : Int32) &&& 31).toUInt32).toInt32) % (11 : Int32)) - (2 : Int32)).toInt64)), (.long (x0 <<< ((32 : Int32) &&& 0x3f).toInt64))])) rfl (hb hby at_48) _ ?_
          show Steps p.tables e below (s₁.setTop (mkF m 51 #[.val (.long x0), .second, .val (.int x1), .val (.int (x1 &&& (3 : Int32))), .val (.long (((((x1.toUInt32 >>> ((2 : Int32) &&& 31).toUInt32).toInt32) % (11 : Int32)) - (2 : Int32)).toInt64)), .second, .unset, .unset, .unset] [(.long (4294967295 : Int64)), (.long (((((x1.toUInt32 >>> ((2 : Int32) &&& 31).toUInt32).toInt32) % (11 : Int32)) - (2 : Int32)).toInt64)), (.long (x0 <<< ((32 : Int32) &&& 0x3f).toInt64))])) _
          refine XS.land X0.here hx rfl (hb hby at_51) rfl ?_
          show Steps p.tables e below (s₁.setTop (mkF m 52 #[.val (.long x0), .second, .val (.int x1), .val (.int (x1 &&& (3 : Int32))), .val (.long (((((x1.toUInt32 >>> ((2 : Int32) &&& 31).toUInt32).toInt32) % (11 : Int32)) - (2 : Int32)).toInt64)), .second, .unset, .unset, .unset] [(.long ((((((x1.toUInt32 >>> ((2 : Int32) &&& 31).toUInt32).toInt32) % (11 : Int32)) - (2 : Int32)).toInt64) &&& (4294967295 : Int64))), (.long (x0 <<< ((32 : Int32) &&& 0x3f).toInt64))])) _
          refine XS.lor X0.here hx rfl (hb hby at_52) rfl ?_
          show Steps p.tables e below (s₁.setTop (mkF m 53 #[.val (.long x0), .second, .val (.int x1), .val (.int (x1 &&& (3 : Int32))), .val (.long (((((x1.toUInt32 >>> ((2 : Int32) &&& 31).toUInt32).toInt32) % (11 : Int32)) - (2 : Int32)).toInt64)), .second, .unset, .unset, .unset] [(.long ((x0 <<< ((32 : Int32) &&& 0x3f).toInt64) ||| ((((((x1.toUInt32 >>> ((2 : Int32) &&& 31).toUInt32).toInt32) % (11 : Int32)) - (2 : Int32)).toInt64) &&& (4294967295 : Int64))))])) _
          refine XS.lstore X0.here hx rfl (hb hby at_53) rfl (l' := #[.val (.long x0), .second, .val (.int x1), .val (.int (x1 &&& (3 : Int32))), .val (.long (((((x1.toUInt32 >>> ((2 : Int32) &&& 31).toUInt32).toInt32) % (11 : Int32)) - (2 : Int32)).toInt64)), .second, .val (.long ((x0 <<< ((32 : Int32) &&& 0x3f).toInt64) ||| ((((((x1.toUInt32 >>> ((2 : Int32) &&& 31).toUInt32).toInt32) % (11 : Int32)) - (2 : Int32)).toInt64) &&& (4294967295 : Int64)))), .second, .unset]) rfl ?_
          show Steps p.tables e below (s₁.setTop (mkF m 55 #[.val (.long x0), .second, .val (.int x1), .val (.int (x1 &&& (3 : Int32))), .val (.long (((((x1.toUInt32 >>> ((2 : Int32) &&& 31).toUInt32).toInt32) % (11 : Int32)) - (2 : Int32)).toInt64)), .second, .val (.long ((x0 <<< ((32 : Int32) &&& 0x3f).toInt64) ||| ((((((x1.toUInt32 >>> ((2 : Int32) &&& 31).toUInt32).toInt32) % (11 : Int32)) - (2 : Int32)).toInt64) &&& (4294967295 : Int64)))), .second, .unset] [])) _
          refine XS.goto X0.here hx rfl (pc0 := 55) (pc' := 62) rfl (hb hby at_55) (by decide) (by decide) ?_
          exact kk
        · refine ⟨(((((x1.toUInt32 >>> ((2 : Int32) &&& 31).toUInt32).toInt32) % (11 : Int32)) - (2 : Int32)).toInt64), s₁, X0, e0, fun tt kk => pre23 tt ?_⟩
          show Steps p.tables e below (s₁.setTop (mkF m 39 #[.val (.long x0), .second, .val (.int x1), .val (.int (x1 &&& (3 : Int32))), .val (.long (((((x1.toUInt32 >>> ((2 : Int32) &&& 31).toUInt32).toInt32) % (11 : Int32)) - (2 : Int32)).toInt64)), .second, .unset, .unset, .unset] [(.int (2 : Int32)), (.int (x1 &&& (3 : Int32)))])) _
          refine XS.icmpYes X0.here hx rfl (pc0 := 39) (pc' := 58) rfl (hb hby at_39) rfl (feq hc39).2 (by decide) (by decide) ?_
          show Steps p.tables e below (s₁.setTop (mkF m 58 #[.val (.long x0), .second, .val (.int x1), .val (.int (x1 &&& (3 : Int32))), .val (.long (((((x1.toUInt32 >>> ((2 : Int32) &&& 31).toUInt32).toInt32) % (11 : Int32)) - (2 : Int32)).toInt64)), .second, .unset, .unset, .unset] [])) _
          refine XS.lload X0.here hx rfl (hb hby at_58) rfl ?_
          show Steps p.tables e below (s₁.setTop (mkF m 60 #[.val (.long x0), .second, .val (.int x1), .val (.int (x1 &&& (3 : Int32))), .val (.long (((((x1.toUInt32 >>> ((2 : Int32) &&& 31).toUInt32).toInt32) % (11 : Int32)) - (2 : Int32)).toInt64)), .second, .unset, .unset, .unset] [(.long (((((x1.toUInt32 >>> ((2 : Int32) &&& 31).toUInt32).toInt32) % (11 : Int32)) - (2 : Int32)).toInt64))])) _
          refine XS.lstore X0.here hx rfl (hb hby at_60) rfl (l' := #[.val (.long x0), .second, .val (.int x1), .val (.int (x1 &&& (3 : Int32))), .val (.long (((((x1.toUInt32 >>> ((2 : Int32) &&& 31).toUInt32).toInt32) % (11 : Int32)) - (2 : Int32)).toInt64)), .second, .val (.long (((((x1.toUInt32 >>> ((2 : Int32) &&& 31).toUInt32).toInt32) % (11 : Int32)) - (2 : Int32)).toInt64)), .second, .unset]) rfl ?_
          exact kk
  obtain ⟨vv24, _, ⟨T24, L24, k24, n24⟩, -, X24, ⟨Lc24, hQ24, l24, y24, z24⟩, st24⟩ := Jvm.LawKit.callS X20 hx (y := (⟨"com/example/slidebook/slidebook/replay/MessageType", "of", "(J)Lcom/example/slidebook/slidebook/replay/MessageType;"⟩ : MethodName)) hown (mvT hZ (hw _ (List.mem_of_getElem? (i := 1) rfl))) (mvT hZ (hw _ (List.mem_of_getElem? (i := 2) rfl))) (mvT hZ (hw _ (List.mem_of_getElem? (i := 3) rfl))) (mvT hZ (hw _ (List.mem_of_getElem? (i := 4) rfl))) (by decide) (backOf (W := 0) (rm_fi l Z a0 hw [] cd w b cl h0 n0 Z0 SB AR SZ HA) hZ (hw _ (List.mem_of_getElem? (i := 4) rfl)) (hw _ (List.mem_of_getElem? (i := 3) rfl)) (by decide) (by decide)) (g := (mkF m 64 #[.val (.long x0), .second, .val (.int x1), .val (.int (x1 &&& (3 : Int32))), .val (.long (((((x1.toUInt32 >>> ((2 : Int32) &&& 31).toUInt32).toInt32) % (11 : Int32)) - (2 : Int32)).toInt64)), .second, .val (.long cd), .second, .unset] [(.long cd)])) rfl (by rw [hml]; rfl) (argsL := [(.long cd)]) (rest := []) (lenOf own_pd_0 rfl) rfl (by show 2 * 0 + _ ≤ _; exact Nat.le_of_eq rfl) (hb hby at_64) (fun _ _ => ⟨rfl, e20, (by decide : 0 + 0 ≤ _), (by decide : 0 + 0 ≤ _)⟩)
  dsimp only [Pt.U, Pt.locs, Pt.cells, Pt.slots] at X24 l24 y24 z24 st24 hQ24
  subst l24 y24 z24
  obtain ⟨rfl, N24q, e24⟩ := hQ24
  have N24 := Fr.app N0 N24q
  obtain ⟨vv25, _, ⟨T25, L25, k25, n25⟩, -, X25, ⟨Lc25, hQ25, l25, y25, z25⟩, st25⟩ := Jvm.LawKit.callS X24 hx (y := (⟨"com/example/slidebook/slidebook/replay/MessageTypeOfPinLaw", "expected", "(J)Lcom/example/slidebook/slidebook/replay/MessageType;"⟩ : MethodName)) hown (mvT hZ (hw _ (List.mem_of_getElem? (i := 7) rfl))) (mvT hZ (hw _ (List.mem_of_getElem? (i := 8) rfl))) (mvT hZ (hw _ (List.mem_of_getElem? (i := 9) rfl))) (mvT hZ (hw _ (List.mem_of_getElem? (i := 10) rfl))) (by decide) (backOf (W := 1) (rm_ex l Z a0 hw [] cd w h0 n0 Z0 ST) hZ (hw _ (List.mem_of_getElem? (i := 10) rfl)) (hw _ (List.mem_of_getElem? (i := 9) rfl)) (by decide) (by decide)) (g := (mkF m 73 #[.val (.long x0), .second, .val (.int x1), .val (.int (x1 &&& (3 : Int32))), .val (.long (((((x1.toUInt32 >>> ((2 : Int32) &&& 31).toUInt32).toInt32) % (11 : Int32)) - (2 : Int32)).toInt64)), .second, .val (.long cd), .second, .val (own_cv w cd)] [(.long cd), (own_cv w cd)])) rfl (by rw [hml]; rfl) (argsL := [(.long cd)]) (rest := [(own_cv w cd)]) (lenOf own_pd_0 rfl) rfl (by show 2 * 0 + (List.map (fun v => v.category) [(own_cv w cd)]).sum ≤ 1; simp [(own_cat (own_cv_ref w cd))]) (hb hby at_73) (fun _ _ => ⟨rfl, e24, (by decide : 0 + 0 ≤ _), (by decide : 0 + 0 ≤ _)⟩)
  dsimp only [Pt.U, Pt.locs, Pt.cells, Pt.slots] at X25 l25 y25 z25 st25 hQ25
  subst l25 y25 z25
  obtain ⟨rfl, N25q, e25⟩ := hQ25
  have N25 := Fr.app N24 N25q
  have pre26 : ∀ t, Steps p.tables e below (T25.setTop (mkF m 76 #[.val (.long x0), .second, .val (.int x1), .val (.int (x1 &&& (3 : Int32))), .val (.long (((((x1.toUInt32 >>> ((2 : Int32) &&& 31).toUInt32).toInt32) % (11 : Int32)) - (2 : Int32)).toInt64)), .second, .val (.long cd), .second, .val (own_cv w cd)] [(own_cv w cd), (own_cv w cd)])) t → Steps p.tables e below (s₁.setTop (entryFrame m #[(.long x0), (.int x1)] maxLocals)) t := fun tt kk => pre20 tt (by
    show Steps p.tables e below (T20.setTop (mkF m 62 #[.val (.long x0), .second, .val (.int x1), .val (.int (x1 &&& (3 : Int32))), .val (.long (((((x1.toUInt32 >>> ((2 : Int32) &&& 31).toUInt32).toInt32) % (11 : Int32)) - (2 : Int32)).toInt64)), .second, .val (.long cd), .second, .unset] [])) _
    refine XS.lload X20.here hx rfl (hb hby at_62) rfl ?_
    show Steps p.tables e below (T20.setTop (mkF m 64 #[.val (.long x0), .second, .val (.int x1), .val (.int (x1 &&& (3 : Int32))), .val (.long (((((x1.toUInt32 >>> ((2 : Int32) &&& 31).toUInt32).toInt32) % (11 : Int32)) - (2 : Int32)).toInt64)), .second, .val (.long cd), .second, .unset] [(.long cd)])) _
    refine st24 _ ?_
    show Steps p.tables e below (T24.setTop (mkF m 67 #[.val (.long x0), .second, .val (.int x1), .val (.int (x1 &&& (3 : Int32))), .val (.long (((((x1.toUInt32 >>> ((2 : Int32) &&& 31).toUInt32).toInt32) % (11 : Int32)) - (2 : Int32)).toInt64)), .second, .val (.long cd), .second, .unset] [(own_cv w cd)])) _
    refine XS.astore X24.here hx rfl (hb hby at_67) rfl (own_cv_ref w cd) (l' := #[.val (.long x0), .second, .val (.int x1), .val (.int (x1 &&& (3 : Int32))), .val (.long (((((x1.toUInt32 >>> ((2 : Int32) &&& 31).toUInt32).toInt32) % (11 : Int32)) - (2 : Int32)).toInt64)), .second, .val (.long cd), .second, .val (own_cv w cd)]) (XS.store1 rfl (Or.inl rfl) (own_cat (own_cv_ref w cd))) ?_
    show Steps p.tables e below (T24.setTop (mkF m 69 #[.val (.long x0), .second, .val (.int x1), .val (.int (x1 &&& (3 : Int32))), .val (.long (((((x1.toUInt32 >>> ((2 : Int32) &&& 31).toUInt32).toInt32) % (11 : Int32)) - (2 : Int32)).toInt64)), .second, .val (.long cd), .second, .val (own_cv w cd)] [])) _
    refine XS.aload X24.here hx rfl (hb hby at_69) rfl (own_cv_ref w cd) ?_
    show Steps p.tables e below (T24.setTop (mkF m 71 #[.val (.long x0), .second, .val (.int x1), .val (.int (x1 &&& (3 : Int32))), .val (.long (((((x1.toUInt32 >>> ((2 : Int32) &&& 31).toUInt32).toInt32) % (11 : Int32)) - (2 : Int32)).toInt64)), .second, .val (.long cd), .second, .val (own_cv w cd)] [(own_cv w cd)])) _
    refine XS.lload X24.here hx rfl (hb hby at_71) rfl ?_
    show Steps p.tables e below (T24.setTop (mkF m 73 #[.val (.long x0), .second, .val (.int x1), .val (.int (x1 &&& (3 : Int32))), .val (.long (((((x1.toUInt32 >>> ((2 : Int32) &&& 31).toUInt32).toInt32) % (11 : Int32)) - (2 : Int32)).toInt64)), .second, .val (.long cd), .second, .val (own_cv w cd)] [(.long cd), (own_cv w cd)])) _
    refine st25 _ ?_
    exact kk)
  obtain ⟨fs, hr, hrun, hended, hW, hsame⟩ := X25.leave (v := some (.int (1 : Int32))) (fun h => by rw [Bd.returns] at h; cases h)
  refine ⟨_, _, pre26 _ ?_, hrun, hended, _, _, rfl, ?_, ⟨_, rfl⟩, hW, hsame.mono (by decide) (by decide)⟩
  · show Steps p.tables e below (T25.setTop (mkF m 76 #[.val (.long x0), .second, .val (.int x1), .val (.int (x1 &&& (3 : Int32))), .val (.long (((((x1.toUInt32 >>> ((2 : Int32) &&& 31).toUInt32).toInt32) % (11 : Int32)) - (2 : Int32)).toInt64)), .second, .val (.long cd), .second, .val (own_cv w cd)] [(own_cv w cd), (own_cv w cd)])) _
    refine Jvm.RoadKit.acmp (g := (mkF m 76 #[.val (.long x0), .second, .val (.int x1), .val (.int (x1 &&& (3 : Int32))), .val (.long (((((x1.toUInt32 >>> ((2 : Int32) &&& 31).toUInt32).toInt32) % (11 : Int32)) - (2 : Int32)).toInt64)), .second, .val (.long cd), .second, .val (own_cv w cd)] [(own_cv w cd), (own_cv w cd)])) X25 hx rfl (own_cv_ref w cd) (own_cv_ref w cd) (pc0 := 76) (pc' := 79) (same := true) rfl (hb hby at_76) rfl (decide_eq_true rfl) (by decide) (by decide) ?_
    show Steps p.tables e below (T25.setTop (mkF m 79 #[.val (.long x0), .second, .val (.int x1), .val (.int (x1 &&& (3 : Int32))), .val (.long (((((x1.toUInt32 >>> ((2 : Int32) &&& 31).toUInt32).toInt32) % (11 : Int32)) - (2 : Int32)).toInt64)), .second, .val (.long cd), .second, .val (own_cv w cd)] [])) _
    refine XS.iconst X25.here hx rfl (hb hby at_79) ?_
    show Steps p.tables e below (T25.setTop (mkF m 80 #[.val (.long x0), .second, .val (.int x1), .val (.int (x1 &&& (3 : Int32))), .val (.long (((((x1.toUInt32 >>> ((2 : Int32) &&& 31).toUInt32).toInt32) % (11 : Int32)) - (2 : Int32)).toInt64)), .second, .val (.long cd), .second, .val (own_cv w cd)] [(.int (1 : Int32))])) _
    refine XS.goto X25.here hx rfl (pc0 := 80) (pc' := 84) rfl (hb hby at_80) (by decide) (by decide) ?_
    show Steps p.tables e below (T25.setTop (mkF m 84 #[.val (.long x0), .second, .val (.int x1), .val (.int (x1 &&& (3 : Int32))), .val (.long (((((x1.toUInt32 >>> ((2 : Int32) &&& 31).toUInt32).toInt32) % (11 : Int32)) - (2 : Int32)).toInt64)), .second, .val (.long cd), .second, .val (own_cv w cd)] [(.int (1 : Int32))])) _
    exact retN X25 hx (t := .boolean) Bd.returns (by simp) (hb hby at_84) hr
  · exact ⟨rfl, N25⟩
set_option maxRecDepth 65536 in
set_option maxHeartbeats 40000000 in
theorem comes_1 {Post : Tables → Env → Array Value → State → Outcome → State → Prop} (hpost : ∀ tb e args s v u, (limb_1_1.after args s (.returned v) u = true ∧ limb_1_2.after args s (.returned v) u = true ∧ True) → FrameEnd s (.returned v) u (Jvm.fieldLocs frame_1_writes args s ++ Jvm.arrayLocs frame_1_arrays args s ++ Jvm.staticLocs frame_1_statics s) 0 0 → Post tb e args s (.returned v) u) :
    ArmFor flags0 classFile x code maxLocals ret World_1 tables_1 room_1 Calls_1 rest_1 Pre_1 Post := by
  intro l hfl _ _ p e ha hc hk s m args below hf hA hF happ hP
  obtain ⟨hcalls, hrest, hpre⟩ := hP
  obtain ⟨-, -, -, hnamed, -, -, -, hat⟩ := (Spec.applies_iff hf).mp happ
  obtain ⟨hg, hn⟩ := and_e (Cond.before_iff.mp (show (Jvm.Cond.and given_1 narrow_1).before args s = true from hpre))
  obtain ⟨g0, g0r⟩ := and_e hg
  obtain ⟨g1, g1r⟩ := and_e g0r
  obtain ⟨w0_, w1_, rfl⟩ : ∃ w0_ w1_ : Value, args = #[w0_, w1_] := by
    have hs : args.size = 2 := by simpa [Cond.value, given_1] using g0
    obtain ⟨L⟩ := args
    match L, hs with
    | [w0_, w1_], _ => exact ⟨w0_, w1_, rfl⟩
  have hw := fun d (hd : d ∈ tables_1) => atoms_spec (ws := Jvm.Cond.code x code maxLocals ret :: tables_1) hat d (List.mem_cons_of_mem _ hd)
  have hfit : Fit s := fun {y c} hc i hi => by
    obtain ⟨ha, rfl⟩ := Array.getElem?_eq_some_iff.mp hc
    have q := List.all_eq_true.mp ((Array.all_eq_true_iff_forall_mem.mp hF) _ (Array.getElem_mem ha)) i (List.mem_range.mpr hi)
    simpa [Array.getElem?_eq_getElem hi] using q
  obtain ⟨i0, ei0⟩ := isL_v g1
  obtain rfl : w0_ = (.long i0) := Option.some.inj ei0
  obtain ⟨i1, ei1⟩ := is_v g1r
  obtain rfl : w1_ = (.int i1) := Option.some.inj ei1
  obtain ⟨n0, n0r⟩ := and_e hn
  obtain ⟨n1, n1r⟩ := and_e n0r
  obtain ⟨n2, n2r⟩ := and_e n1r
  obtain ⟨n3, n3r⟩ := and_e n2r
  obtain ⟨n4, n4r⟩ := and_e n3r
  obtain ⟨n5, n5r⟩ := and_e n4r
  obtain ⟨n6, n6r⟩ := and_e n5r
  obtain ⟨n7, n7r⟩ := and_e n6r
  obtain ⟨n8, n8r⟩ := and_e n7r
  obtain ⟨n9, n9r⟩ := and_e n8r
  obtain ⟨n10, n10r⟩ := and_e n9r
  obtain ⟨n11, n11r⟩ := and_e n10r
  obtain ⟨n12, n12r⟩ := and_e n11r
  obtain ⟨n13, n13r⟩ := and_e n12r
  obtain ⟨n14, n14r⟩ := and_e n13r
  obtain ⟨n15, n15r⟩ := and_e n14r
  obtain ⟨v0, ev0⟩ := exa_v n8
  have S0 : Sta s s.heap "com/example/slidebook/slidebook/replay/MessageType" "SUBMISSION" "Lcom/example/slidebook/slidebook/replay/MessageType;" (.ref v0) := Sta.start ev0 (Or.inr ⟨(hw _ (List.mem_of_getElem? (i := 3) rfl)), (hw _ (List.mem_of_getElem? (i := 23) rfl))⟩)
  have E0 : Exa s s.heap v0 "com/example/slidebook/slidebook/replay/MessageType" := Exa.start ev0 n8
  obtain ⟨v1, ev1⟩ := exa_v n4
  have S1 : Sta s s.heap "com/example/slidebook/slidebook/replay/MessageType" "CANCELLATION" "Lcom/example/slidebook/slidebook/replay/MessageType;" (.ref v1) := Sta.start ev1 (Or.inr ⟨(hw _ (List.mem_of_getElem? (i := 3) rfl)), (hw _ (List.mem_of_getElem? (i := 19) rfl))⟩)
  have E1 : Exa s s.heap v1 "com/example/slidebook/slidebook/replay/MessageType" := Exa.start ev1 n4
  obtain ⟨v2, ev2⟩ := exa_v n2
  have S2 : Sta s s.heap "com/example/slidebook/slidebook/replay/MessageType" "DELETION" "Lcom/example/slidebook/slidebook/replay/MessageType;" (.ref v2) := Sta.start ev2 (Or.inr ⟨(hw _ (List.mem_of_getElem? (i := 3) rfl)), (hw _ (List.mem_of_getElem? (i := 17) rfl))⟩)
  have E2 : Exa s s.heap v2 "com/example/slidebook/slidebook/replay/MessageType" := Exa.start ev2 n2
  obtain ⟨v3, ev3⟩ := exa_v n15
  have S3 : Sta s s.heap "com/example/slidebook/slidebook/replay/MessageType" "EXECUTION" "Lcom/example/slidebook/slidebook/replay/MessageType;" (.ref v3) := Sta.start ev3 (Or.inr ⟨(hw _ (List.mem_of_getElem? (i := 3) rfl)), (hw _ (List.mem_of_getElem? (i := 29) rfl))⟩)
  have E3 : Exa s s.heap v3 "com/example/slidebook/slidebook/replay/MessageType" := Exa.start ev3 n15
  obtain ⟨v4, ev4⟩ := exa_v n6
  have S4 : Sta s s.heap "com/example/slidebook/slidebook/replay/MessageType" "HIDDEN_EXECUTION" "Lcom/example/slidebook/slidebook/replay/MessageType;" (.ref v4) := Sta.start ev4 (Or.inr ⟨(hw _ (List.mem_of_getElem? (i := 3) rfl)), (hw _ (List.mem_of_getElem? (i := 21) rfl))⟩)
  have E4 : Exa s s.heap v4 "com/example/slidebook/slidebook/replay/MessageType" := Exa.start ev4 n6
  obtain ⟨v5, ev5⟩ := exa_v n10
  have S5 : Sta s s.heap "com/example/slidebook/slidebook/replay/MessageType" "CROSS_TRADE" "Lcom/example/slidebook/slidebook/replay/MessageType;" (.ref v5) := Sta.start ev5 (Or.inr ⟨(hw _ (List.mem_of_getElem? (i := 3) rfl)), (hw _ (List.mem_of_getElem? (i := 25) rfl))⟩)
  have E5 : Exa s s.heap v5 "com/example/slidebook/slidebook/replay/MessageType" := Exa.start ev5 n10
  obtain ⟨v6, ev6⟩ := exa_v n13
  have S6 : Sta s s.heap "com/example/slidebook/slidebook/replay/MessageType" "HALT" "Lcom/example/slidebook/slidebook/replay/MessageType;" (.ref v6) := Sta.start ev6 (Or.inr ⟨(hw _ (List.mem_of_getElem? (i := 3) rfl)), (hw _ (List.mem_of_getElem? (i := 27) rfl))⟩)
  have E6 : Exa s s.heap v6 "com/example/slidebook/slidebook/replay/MessageType" := Exa.start ev6 n13
  obtain ⟨b, evb⟩ := arr_v n0
  have SB : Sta s s.heap "com/example/slidebook/slidebook/replay/MessageType" "BY_CODE" "[Lcom/example/slidebook/slidebook/replay/MessageType;" (.ref b) := Sta.start evb (Or.inr ⟨(hw _ (List.mem_of_getElem? (i := 3) rfl)), (hw _ (List.mem_of_getElem? (i := 6) rfl))⟩)
  obtain ⟨cl, AR⟩ := Arr.start evb n0
  have SZ := own_size (own_len evb AR n1) (by decide)
  have H0 := own_elem_null evb AR n12
  have H1 := own_elem_ref evb AR n9 ev0
  have H2 := own_elem_ref evb AR n5 ev1
  have H3 := own_elem_ref evb AR n3 ev2
  have H4 := own_elem_ref evb AR n15r ev3
  have H5 := own_elem_ref evb AR n7 ev4
  have H6 := own_elem_ref evb AR n11 ev5
  have H7 := own_elem_ref evb AR n14 ev6
  obtain ⟨n, o, h1, h2, h3, _, L, rfl, ⟨rfl, N⟩, hq⟩ := rm0 l s _ hw tables_1 i0 i1 (fun i => [v0, v1, v2, v3, v4, v5, v6].getD i 0) b cl s.heap s.heap.size (Nat.le_refl _) ⟨S0, S1, S2, S3, S4, S5, S6⟩ SB AR SZ (own_HA SZ H0 H1 H2 H3 H4 H5 H6 H7) p e ha hc hk s m _ below hf ((Spec.applies_iff_loose hf).mp happ).1 ⟨rfl, State.Warmed39.refl s, rfl⟩ trivial
  refine ⟨n, _, h1, h2, h3, hpost _ _ _ _ _ _ ⟨Cond.after_iff.mpr rfl, Cond.after_iff.mpr (eq_i res_at (Term.int_eval (1)) rfl), trivial⟩ ⟨hq.1, hq.2.1, (hq.2.2.sift fun y hy => Or.inr (N y hy)).mono (by decide) (by decide)⟩⟩
theorem main_1_1 : Claimed_1_1 := comes_1 fun _ _ _ _ _ _ h hF => ⟨h.1, hF⟩
theorem main_1_2 : Claimed_1_2 := comes_1 fun _ _ _ _ _ _ h hF => ⟨h.2.1, hF⟩
end Jvm.Pilot.@@N@@
namespace Jvm.Pilot.@@N@@
open Jvm Jvm.ClassFile Sem Op Lib Jvm.Free Jvm.Stand Jvm.Pilot.@@N@@.Jvm.D
/-! MADE BY PROGRAM (witnessworld.py) out of the Statement's table words and the real class files: 13 classes; the members and pool entries that the words name. The judged class is class 1, her method 1. -/
namespace start1
open Jvm.ClassFile
def u (s : String) : CpInfo := .utf8 (stringToUtf16 s)
/-- a pool by its gaps: so many unusable entries, then the entry; so many at the end -/
def gap : Nat → List CpInfo → List CpInfo
  | 0, r => r
  | n + 1, r => .unusable :: gap n r
def poolList (es : List (Nat × CpInfo)) (last : Nat) : List CpInfo := es.foldr (fun e r => gap e.1 (e.2 :: r)) (gap last [])
def pool (es : List (Nat × CpInfo)) (last : Nat) : Array CpInfo := ⟨poolList es last⟩
def fileOf (pool : Array CpInfo) (this : Nat) (attrs : Array Attribute := #[]) (ms : Array MethodInfo := #[]) (fl : Nat := 33) (sup : Nat := 0) (ifs : Array Nat := #[]) (fds : Array FieldInfo := #[]) : ClassFile where
  minorVersion := 0
  majorVersion := 65
  constantPool := pool
  accessFlags := fl
  thisClass := this
  superClass := sup
  interfaces := ifs
  fields := fds
  methods := ms
  attributes := attrs
def plain (name : String) (sup : Option ClassId) : Class where
  name := name
  kind := .ordinary
  loader := none
  accessFlags := 33
  super := sup
  interfaces := #[]
  cf := none
  fields := #[]
  methods := #[]
  instanceTypes := #[]
  staticTypes := #[]
  resolved := #[]
  callSites := []
  init := .initialized
  statics := none
  mirror := none

def pool0 : Array CpInfo := pool [(5, u "<init>"), (0, u "()V"), (1, .class_ 10), (1, u "java/lang/Object")] 113

def k0m0 : Method := { name := "<init>", desc := "()V", sig := { parameters := [], returnType := none }, accessFlags := 1, code := none }
/-- java/lang/Object -/
def k0 : Class := { plain "java/lang/Object" none with
  accessFlags := 33
  interfaces := #[]
  cf := some (fileOf pool0 8 #[] #[{ accessFlags := 1, nameIndex := 5, descriptorIndex := 6, attributes := #[] }] 33 0 #[] #[])
  fields := #[]
  methods := #[k0m0]
  instanceTypes := #[]
  staticTypes := #[]
  resolved := Array.replicate 124 none
  statics := none }

def pool1 : Array CpInfo := pool [(2, .class_ 4), (1, u "java/lang/Object"), (0, u "<init>"), (0, u "()V"), (0, .long 4294967295), (1, .methodref 10 11), (0, .class_ 12), (0, .nameAndType 13 14), (0, u "com/example/slidebook/slidebook/replay/MessageType"), (0, u "of"), (0, u "(J)Lcom/example/slidebook/slidebook/replay/MessageType;"), (0, .methodref 16 17), (0, .class_ 18), (0, .nameAndType 19 14), (0, u "com/example/slidebook/slidebook/replay/MessageTypeOfPinLaw"), (0, u "expected"), (0, .fieldref 10 21), (0, .nameAndType 22 23), (0, u "SUBMISSION"), (0, u "Lcom/example/slidebook/slidebook/replay/MessageType;"), (0, .long 2), (1, .fieldref 10 27), (0, .nameAndType 28 23), (0, u "CANCELLATION"), (0, .long 3), (1, .fieldref 10 32), (0, .nameAndType 33 23), (0, u "DELETION"), (0, .long 4), (1, .fieldref 10 37), (0, .nameAndType 38 23), (0, u "EXECUTION"), (0, .long 5), (1, .fieldref 10 42), (0, .nameAndType 43 23), (0, u "HIDDEN_EXECUTION"), (0, .long 6), (1, .fieldref 10 47), (0, .nameAndType 48 23), (0, u "CROSS_TRADE"), (0, .long 7), (1, .fieldref 10 52), (0, .nameAndType 53 23), (0, u "HALT"), (2, u "law"), (0, u "(JI)Z")] 3

def k1m0 : Method := { name := "<init>", desc := "()V", sig := { parameters := [], returnType := none }, accessFlags := 2, code := none }
def k1c1 : Code := { maxStack := 6, maxLocals := 9, code := code, exceptionTable := #[], attributes := #[] }
def k1m1 : Method := { name := "law", desc := "(JI)Z", sig := { parameters := [.long, .int], returnType := some .boolean }, accessFlags := 9, code := some k1c1 }
def k1c2 : Code := { maxStack := 4, maxLocals := 2, code := method_3_code, exceptionTable := #[], attributes := #[] }
def k1m2 : Method := { name := "expected", desc := "(J)Lcom/example/slidebook/slidebook/replay/MessageType;", sig := { parameters := [.long], returnType := some (.object "com/example/slidebook/slidebook/replay/MessageType") }, accessFlags := 10, code := some k1c2 }
/-- com/example/slidebook/slidebook/replay/MessageTypeOfPinLaw -/
def k1 : Class := { plain "com/example/slidebook/slidebook/replay/MessageTypeOfPinLaw" (some 0) with
  accessFlags := 49
  interfaces := #[]
  cf := some (fileOf pool1 16 #[] #[{ accessFlags := 2, nameIndex := 5, descriptorIndex := 6, attributes := #[] }, { accessFlags := 9, nameIndex := 56, descriptorIndex := 57, attributes := #[] }, { accessFlags := 10, nameIndex := 19, descriptorIndex := 14, attributes := #[] }] 49 2 #[] #[])
  fields := #[]
  methods := #[k1m0, k1m1, k1m2]
  instanceTypes := #[]
  staticTypes := #[]
  resolved := Array.replicate 61 none
  statics := none }

def pool2 : Array CpInfo := pool [(1, .class_ 2), (0, u "java/lang/constant/Constable"), (0, .class_ 4), (0, u "java/lang/Object")] 6

/-- java/lang/constant/Constable -/
def k2 : Class := { plain "java/lang/constant/Constable" (some 0) with
  accessFlags := 1537
  interfaces := #[]
  cf := some (fileOf pool2 1 #[] #[] 1537 3 #[] #[])
  fields := #[]
  methods := #[]
  instanceTypes := #[]
  staticTypes := #[]
  resolved := Array.replicate 11 none
  statics := none }

def pool3 : Array CpInfo := pool [(1, .class_ 2), (0, u "java/lang/Comparable"), (0, .class_ 4), (0, u "java/lang/Object")] 7

/-- java/lang/Comparable -/
def k3 : Class := { plain "java/lang/Comparable" (some 0) with
  accessFlags := 1537
  interfaces := #[]
  cf := some (fileOf pool3 1 #[] #[] 1537 3 #[] #[])
  fields := #[]
  methods := #[]
  instanceTypes := #[]
  staticTypes := #[]
  resolved := Array.replicate 12 none
  statics := none }

def pool4 : Array CpInfo := pool [(1, .class_ 2), (0, u "java/io/Serializable"), (0, .class_ 4), (0, u "java/lang/Object")] 2

/-- java/io/Serializable -/
def k4 : Class := { plain "java/io/Serializable" (some 0) with
  accessFlags := 1537
  interfaces := #[]
  cf := some (fileOf pool4 1 #[] #[] 1537 3 #[] #[])
  fields := #[]
  methods := #[]
  instanceTypes := #[]
  staticTypes := #[]
  resolved := Array.replicate 7 none
  statics := none }

def pool5 : Array CpInfo := pool [(2, .class_ 4), (1, u "java/lang/Enum"), (0, u "name"), (0, u "Ljava/lang/String;"), (2, u "ordinal"), (0, u "I"), (1, .class_ 14), (1, u "java/lang/Object"), (4, u "hash"), (86, .class_ 108), (1, u "java/lang/Enum$EnumDesc"), (2, .class_ 112), (0, u "java/lang/constant/Constable"), (0, .class_ 114), (0, u "java/lang/Comparable"), (0, .class_ 116), (0, u "java/io/Serializable")] 87

/-- java/lang/Enum -/
def k5 : Class := { plain "java/lang/Enum" (some 0) with
  accessFlags := 1057
  interfaces := #[2, 3, 4]
  cf := some (fileOf pool5 2 #[.nestMembers #[106]] #[] 1057 12 #[111, 113, 115] #[{ accessFlags := 18, nameIndex := 5, descriptorIndex := 6, attributes := #[] }, { accessFlags := 18, nameIndex := 9, descriptorIndex := 10, attributes := #[] }, { accessFlags := 2, nameIndex := 19, descriptorIndex := 10, attributes := #[] }])
  fields := #[{ name := "name", type := (.object "java/lang/String"), accessFlags := 18, slot := 0, constantValue := 0 }, { name := "ordinal", type := .int, accessFlags := 18, slot := 1, constantValue := 0 }, { name := "hash", type := .int, accessFlags := 2, slot := 2, constantValue := 0 }]
  methods := #[]
  instanceTypes := #[(.object "java/lang/String"), .int, .int]
  staticTypes := #[]
  resolved := Array.replicate 204 none
  statics := none }

def pool6 : Array CpInfo := pool [(1, .class_ 2), (0, u "com/example/slidebook/slidebook/replay/MessageType"), (2, u "SUBMISSION"), (0, u "Lcom/example/slidebook/slidebook/replay/MessageType;"), (2, u "CANCELLATION"), (2, u "DELETION"), (2, u "EXECUTION"), (2, u "HIDDEN_EXECUTION"), (2, u "CROSS_TRADE"), (2, u "HALT"), (2, u "$VALUES"), (0, u "[Lcom/example/slidebook/slidebook/replay/MessageType;"), (6, .class_ 37), (1, u "java/lang/Enum"), (8, u "code"), (0, u "I"), (0, .fieldref 1 49), (0, .nameAndType 50 28), (0, u "BY_CODE"), (32, u "of"), (0, u "(J)Lcom/example/slidebook/slidebook/replay/MessageType;")] 6

def k6c0 : Code := { maxStack := 4, maxLocals := 2, code := prog_53_method_4_code, exceptionTable := #[], attributes := #[] }
def k6m0 : Method := { name := "of", desc := "(J)Lcom/example/slidebook/slidebook/replay/MessageType;", sig := { parameters := [.long], returnType := some (.object "com/example/slidebook/slidebook/replay/MessageType") }, accessFlags := 8, code := some k6c0 }
/-- com/example/slidebook/slidebook/replay/MessageType -/
def k6 : Class := { plain "com/example/slidebook/slidebook/replay/MessageType" (some 5) with
  accessFlags := 16432
  interfaces := #[]
  cf := some (fileOf pool6 1 #[] #[{ accessFlags := 8, nameIndex := 83, descriptorIndex := 84, attributes := #[] }] 16432 35 #[] #[{ accessFlags := 16409, nameIndex := 5, descriptorIndex := 6, attributes := #[] }, { accessFlags := 16409, nameIndex := 9, descriptorIndex := 6, attributes := #[] }, { accessFlags := 16409, nameIndex := 12, descriptorIndex := 6, attributes := #[] }, { accessFlags := 16409, nameIndex := 15, descriptorIndex := 6, attributes := #[] }, { accessFlags := 16409, nameIndex := 18, descriptorIndex := 6, attributes := #[] }, { accessFlags := 16409, nameIndex := 21, descriptorIndex := 6, attributes := #[] }, { accessFlags := 16409, nameIndex := 24, descriptorIndex := 6, attributes := #[] }, { accessFlags := 26, nameIndex := 50, descriptorIndex := 28, attributes := #[] }, { accessFlags := 18, nameIndex := 46, descriptorIndex := 47, attributes := #[] }, { accessFlags := 4122, nameIndex := 27, descriptorIndex := 28, attributes := #[] }])
  fields := #[{ name := "SUBMISSION", type := (.object "com/example/slidebook/slidebook/replay/MessageType"), accessFlags := 16409, slot := 0, constantValue := 0 }, { name := "CANCELLATION", type := (.object "com/example/slidebook/slidebook/replay/MessageType"), accessFlags := 16409, slot := 1, constantValue := 0 }, { name := "DELETION", type := (.object "com/example/slidebook/slidebook/replay/MessageType"), accessFlags := 16409, slot := 2, constantValue := 0 }, { name := "EXECUTION", type := (.object "com/example/slidebook/slidebook/replay/MessageType"), accessFlags := 16409, slot := 3, constantValue := 0 }, { name := "HIDDEN_EXECUTION", type := (.object "com/example/slidebook/slidebook/replay/MessageType"), accessFlags := 16409, slot := 4, constantValue := 0 }, { name := "CROSS_TRADE", type := (.object "com/example/slidebook/slidebook/replay/MessageType"), accessFlags := 16409, slot := 5, constantValue := 0 }, { name := "HALT", type := (.object "com/example/slidebook/slidebook/replay/MessageType"), accessFlags := 16409, slot := 6, constantValue := 0 }, { name := "BY_CODE", type := (.array (.object "com/example/slidebook/slidebook/replay/MessageType")), accessFlags := 26, slot := 7, constantValue := 0 }, { name := "code", type := .int, accessFlags := 18, slot := 3, constantValue := 0 }, { name := "$VALUES", type := (.array (.object "com/example/slidebook/slidebook/replay/MessageType")), accessFlags := 4122, slot := 8, constantValue := 0 }]
  methods := #[k6m0]
  instanceTypes := #[(.object "java/lang/String"), .int, .int, .int]
  staticTypes := #[(.object "com/example/slidebook/slidebook/replay/MessageType"), (.object "com/example/slidebook/slidebook/replay/MessageType"), (.object "com/example/slidebook/slidebook/replay/MessageType"), (.object "com/example/slidebook/slidebook/replay/MessageType"), (.object "com/example/slidebook/slidebook/replay/MessageType"), (.object "com/example/slidebook/slidebook/replay/MessageType"), (.object "com/example/slidebook/slidebook/replay/MessageType"), (.array (.object "com/example/slidebook/slidebook/replay/MessageType")), (.array (.object "com/example/slidebook/slidebook/replay/MessageType"))]
  resolved := Array.replicate 91 none
  statics := some 0 }

def pool7 : Array CpInfo := pool [(1, u "java/lang/Cloneable"), (0, .class_ 1), (0, u "java/lang/Object"), (0, .class_ 3)] 3

/-- java/lang/Cloneable -/
def k7 : Class := { plain "java/lang/Cloneable" (some 0) with
  accessFlags := 1537
  interfaces := #[]
  cf := some (fileOf pool7 2 #[] #[] 1537 4 #[] #[])
  fields := #[]
  methods := #[]
  instanceTypes := #[]
  staticTypes := #[]
  resolved := Array.replicate 8 none
  statics := none }

/-- the primitive byte -/
def k8 : Class := { plain "byte" none with kind := .primitive 'B', accessFlags := 0x411 }
/-- [B -/
def k9 : Class := { plain "[B" (some 0) with kind := .array 8 .byte, interfaces := #[7, 4], accessFlags := 1041 }

/-- the primitive int -/
def k10 : Class := { plain "int" none with kind := .primitive 'I', accessFlags := 0x411 }
/-- [I -/
def k11 : Class := { plain "[I" (some 0) with kind := .array 10 .int, interfaces := #[7, 4], accessFlags := 1041 }

/-- [Lcom/example/slidebook/slidebook/replay/MessageType; -/
def k12 : Class := { plain "[Lcom/example/slidebook/slidebook/replay/MessageType;" (some 0) with kind := .array 6 (.object "com/example/slidebook/slidebook/replay/MessageType"), interfaces := #[7, 4], accessFlags := 1041 }

def heap : Heap := #[{ cls := 6, slots := #[.ref 2, .ref 3, .ref 4, .ref 5, .ref 6, .ref 7, .ref 8, .ref 1, .null], vm := .statics 6 },
  { cls := 12, slots := #[.null, .ref 2, .ref 3, .ref 4, .ref 5, .ref 6, .ref 7, .ref 8], vm := .none },
  { cls := 6, slots := #[.null, .int 0, .int 0, .int 0], vm := .none },
  { cls := 6, slots := #[.null, .int 0, .int 0, .int 0], vm := .none },
  { cls := 6, slots := #[.null, .int 0, .int 0, .int 0], vm := .none },
  { cls := 6, slots := #[.null, .int 0, .int 0, .int 0], vm := .none },
  { cls := 6, slots := #[.null, .int 0, .int 0, .int 0], vm := .none },
  { cls := 6, slots := #[.null, .int 0, .int 0, .int 0], vm := .none },
  { cls := 6, slots := #[.null, .int 0, .int 0, .int 0], vm := .none }]
def classes : Array Class := #[k0, k1, k2, k3, k4, k5, k6, k7, k8, k9, k10, k11, k12]
def interned : List (Array UInt16 × Addr) := []
def slotsUsed : Nat := 45
def theMethod : MethodId := ⟨1, 1⟩
def args0 : Array Value := #[.long 2, .int 7]
def aboutOver (below : List Frame) : State where
  vm := { classes := classes, interned := interned.toArray }
  heap := heap
  slotsUsed := slotsUsed
  threads := #[{ frames := .invoking theMethod args0 :: below }]
def below0 : List Frame := [.native { method := ⟨0, 0⟩, args := #[] }]
def about1 : State := aboutOver below0
def p0 : Program := .bare "" "" ""
def e0 : Env := launch0.env 0 0 0
theorem w_frames : about1.frames = Frame.invoking theMethod args0 :: below0 := rfl
set_option maxRecDepth 65536 in
theorem w_args : argsFit about1.vm theMethod args0 = true := by decide +kernel
set_option maxRecDepth 65536 in
theorem w_heap : heapFits about1 = true := by decide +kernel
set_option maxRecDepth 65536 in
theorem w_runnable : about1.curStatus? = some .runnable := by decide +kernel
set_option maxRecDepth 65536 in
theorem w_alone : about1.alone = true := by decide +kernel
set_option maxRecDepth 65536 in
theorem w_named : about1.methodNamed? x = some theMethod := by decide +kernel
set_option maxRecDepth 65536 in
theorem w_hears : about1.hears theMethod below0 = true := by decide +kernel
set_option maxRecDepth 65536 in
theorem w_ripe : about1.ripe theMethod args0 below0 = true := by decide +kernel
theorem w_running : about1.status = .running := rfl
set_option maxRecDepth 65536 in
theorem w_room : about1.hasRoom e0.platform room_1 = true :=
  launch0.hasRoom_least _ room_1 (by decide +kernel) (by decide +kernel) (by decide +kernel) (by decide +kernel) (by decide +kernel) (by decide +kernel)
theorem allAtoms_all (ts : List Jvm.Cond) (a : Array Jvm.Value) (st : Jvm.State) : (allAtoms ts).before a st = ts.all (fun c => c.before a st) := by
  induction ts with
  | nil => rfl
  | cons c t ih =>
    show (Jvm.Cond.and c (allAtoms t)).before a st = _
    rw [Jvm.Cond.before_and, ih, List.all_cons]
def words1 : List Jvm.Cond := Jvm.Cond.code x code maxLocals ret :: tables_1
/-- a 'code' word, met by the world's own term for the bytes: nothing is compared byte by byte -/
theorem code_word {y : MethodName} {bytes : ByteArray} {mx : Nat} {rt : Option FieldType} {a : Array Value} {s : State} {m : MethodId} {meth : Method} {c : Code} (h1 : s.methodNamed? y = some m) (h2 : s.vm.method? m = some meth) (h3 : meth.code = some c) (h4 : c.code = bytes)
    (h5 : (c.maxLocals == mx && c.exceptionTable.isEmpty && decide (c.maxStack ≤ mostOperands) && decide (meth.sig.returnType = rt) && !meth.locks && decide (parseMethodDescriptor y.desc = some meth.sig)) = true) : (Jvm.Cond.code y bytes mx rt).before a s = true := by
  simp only [Bool.and_eq_true, beq_iff_eq, Bool.not_eq_true', decide_eq_true_eq] at h5
  obtain ⟨⟨⟨⟨⟨g1, g2⟩, g3⟩, g4⟩, g5⟩, g6⟩ := h5
  simp [Cond.before, Cond.holds, Cond.value, h1, h2, h3, h4, g1, g2, g3, g4, g5, g6]
def isCode : Jvm.Cond → Bool
  | .code _ _ _ _ => true
  | _ => false
theorem all_split {L : List Jvm.Cond} {P : Jvm.Cond → Bool} (h1 : L.all (fun c => isCode c || P c) = true) (h2 : ∀ c ∈ L.filter isCode, P c = true) : L.all P = true := by
  refine List.all_eq_true.mpr fun c hc => ?_
  have h := List.all_eq_true.mp h1 c hc
  rcases Bool.eq_false_or_eq_true (isCode c) with hi | hi
  · exact h2 c (List.mem_filter.mpr ⟨hc, hi⟩)
  · simpa [hi] using h
set_option maxRecDepth 65536 in
theorem w_c0 : (Jvm.Cond.code x code maxLocals ret).before args0 about1 = true := code_word (m := ⟨1, 1⟩) (meth := k1m1) (c := k1c1) (by decide +kernel) rfl rfl rfl (by decide +kernel)
set_option maxRecDepth 65536 in
theorem w_c1 : (Jvm.Cond.code ({ cls := "com/example/slidebook/slidebook/replay/MessageType", name := "of", desc := "(J)Lcom/example/slidebook/slidebook/replay/MessageType;" } : Jvm.MethodName) prog_53_method_4_code (2 : Nat) (Option.some (Jvm.ClassFile.FieldType.object "com/example/slidebook/slidebook/replay/MessageType"))).before args0 about1 = true := code_word (m := ⟨6, 0⟩) (meth := k6m0) (c := k6c0) (by decide +kernel) rfl rfl rfl (by decide +kernel)
set_option maxRecDepth 65536 in
theorem w_c2 : (Jvm.Cond.code ({ cls := "com/example/slidebook/slidebook/replay/MessageTypeOfPinLaw", name := "expected", desc := "(J)Lcom/example/slidebook/slidebook/replay/MessageType;" } : Jvm.MethodName) method_3_code (2 : Nat) (Option.some (Jvm.ClassFile.FieldType.object "com/example/slidebook/slidebook/replay/MessageType"))).before args0 about1 = true := code_word (m := ⟨1, 2⟩) (meth := k1m2) (c := k1c2) (by decide +kernel) rfl rfl rfl (by decide +kernel)
def codes1 : List Jvm.Cond := [Jvm.Cond.code x code maxLocals ret, Jvm.Cond.code ({ cls := "com/example/slidebook/slidebook/replay/MessageType", name := "of", desc := "(J)Lcom/example/slidebook/slidebook/replay/MessageType;" } : Jvm.MethodName) prog_53_method_4_code (2 : Nat) (Option.some (Jvm.ClassFile.FieldType.object "com/example/slidebook/slidebook/replay/MessageType")), Jvm.Cond.code ({ cls := "com/example/slidebook/slidebook/replay/MessageTypeOfPinLaw", name := "expected", desc := "(J)Lcom/example/slidebook/slidebook/replay/MessageType;" } : Jvm.MethodName) method_3_code (2 : Nat) (Option.some (Jvm.ClassFile.FieldType.object "com/example/slidebook/slidebook/replay/MessageType"))]
set_option maxRecDepth 65536 in
theorem codes_eq : words1.filter isCode = codes1 := rfl
theorem w_codes : ∀ c ∈ words1.filter isCode, c.before args0 about1 = true := by
  rw [codes_eq]
  intro c hc
  simp only [codes1, List.mem_cons, List.not_mem_nil, or_false] at hc
  rcases hc with rfl | rfl | rfl
  · exact w_c0
  · exact w_c1
  · exact w_c2
set_option maxRecDepth 65536 in
theorem w_t1 : (words1.take 24).all (fun c => isCode c || c.before args0 about1) = true := by decide +kernel
set_option maxRecDepth 65536 in
theorem w_t2 : (words1.drop 24).all (fun c => isCode c || c.before args0 about1) = true := by decide +kernel
theorem w_tables : (allAtoms (Jvm.Cond.code x code maxLocals ret :: tables_1)).before args0 about1 = true := by
  rw [allAtoms_all]
  show words1.all (fun c => c.before args0 about1) = true
  refine all_split ?_ w_codes
  rw [← List.take_append_drop 24 words1, List.all_append, w_t1, w_t2]
  rfl
set_option maxRecDepth 65536 in
theorem w_case : (Jvm.Cond.and given_1 narrow_1).before args0 about1 = true := by decide +kernel
theorem w_applies : (headSpec (Jvm.Cond.code x code maxLocals ret :: tables_1) room_1).applies x e0.platform about1 = true :=
  (Spec.applies_iff w_frames).mpr ⟨w_running, w_runnable, w_alone, w_named, w_hears, w_ripe, w_room, w_tables⟩
theorem atStart : AtStart classFile x code maxLocals ret World_1 tables_1 room_1 Calls_1 rest_1 Pre_1 launch0 p0 e0 about1 theMethod args0 below0 :=
  ⟨lists_1, trivial, launch0.admits_env _ _ _, launch0.least_env, fairChoices_fair.cas, fairChoices_fair.clock, w_frames, w_args, w_heap, w_applies, trivial, trivial, w_case⟩
end start1
theorem witness_1 : WitnessClaimed_1 := ⟨start1.p0, start1.e0, start1.about1, start1.theMethod, start1.args0, start1.below0, start1.atStart⟩
end Jvm.Pilot.@@N@@
