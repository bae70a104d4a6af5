import JvmDerived
import JvmDerived.Pilot.@@N@@Statement
import JvmDerived.Pilot.@@N@@Code
set_option linter.unusedVariables false
set_option linter.unusedSimpArgs false
@@BLOCK:NumsL.lean.txt@@
namespace Jvm.Pilot.@@N@@
open Jvm Jvm.ClassFile Sem Op Lib Jvm.Free Jvm.Stand Jvm.LawKit Jvm.RoadKit Bundle Jvm.Pilot.@@N@@.Jvm.D
/-- what a body leaves that writes nothing: its value, no place written, the heap as it was -/
def QP (val : Value) (h0 : Heap) (n0 : Nat) (v : Option Value) (h : Heap) (L : List Loc) : Prop := v = some val ∧ Fr n0 L ∧ h = h0
/-- what the law leaves: true -/
def Q1 (n0 : Nat) (v : Option Value) (h : Heap) (L : List Loc) : Prop := v = some (.int 1) ∧ Fr n0 L
theorem own_eq_int {args : Array Value} {s : State} {t : Term} {k : Int32} (h : (Jvm.Cond.eq t (.int k)).value args s none s [] = some true) : t.eval args s none [] s = some (.int k) := by
  simp only [Cond.value, Term.eval] at h
  cases ht : t.eval args s none [] s with
  | none => simp [ht] at h
  | some x => cases x <;> simp [ht] at h ⊢; exact h
theorem own_fld {args : Array Value} {s : State} {t : Term} {a : Addr} {C n d : String} {k : Int32} (ev : t.eval args s none [] s = some (.ref a)) (h : (Jvm.Cond.eq (.field t C n d) (.int k)).value args s none s [] = some true) : Fld s s.heap a C n d (.int k) :=
  Fld.start ((fld_at ev).symm.trans (own_eq_int h))
theorem own_toInt32_inj {i j : Nat} (hi : i < 2 ^ 31) (hj : j < 2 ^ 31) (h : i.toInt32 = j.toInt32) : i = j := by
  have := congrArg Int32.toInt h
  rw [len_toInt hi, len_toInt hj] at this
  omega
theorem own_inj {Z : State} {h : Heap} {w : Nat → Addr} {n : Nat} (hn : n < 2 ^ 31) (F : ∀ i, i < n → Fld Z h (w i) "java/lang/Enum" "ordinal" "I" (.int i.toInt32)) : ∀ i j, i < n → j < n → w i = w j → i = j := fun i j hi hj e => by
  by_cases q : i = j
  · exact q
  · exact absurd e (Fld.ne (F i hi) (F j hj) fun h => q (own_toInt32_inj (by omega) (by omega) (Value.int.inj h)))
theorem own_i32 {i : Int32} {N : Nat} (hN : N < 2 ^ 31) (h0 : 0 ≤ i.toInt) (h1 : i.toInt < N) : ∃ k : Nat, k < N ∧ i = k.toInt32 := by
  refine ⟨i.toInt.toNat, by omega, Int32.toInt_inj.mp ?_⟩
  rw [len_toInt (by omega)]
  omega
theorem own_mod (x n : Int32) (N : Nat) (hN : n.toInt = N) (h : 0 < N) : ∃ k : Nat, k < N ∧ (x &&& (2147483647 : Int32)) % n = k.toInt32 := by
  have e1 : (x &&& (2147483647 : Int32)).toInt = x.toInt % 2 ^ 31 := Jvm.Kit.i32_mask x 2147483647 (k := 31) (by decide) (by decide)
  have e2 : ((x &&& (2147483647 : Int32)) % n).toInt = (x &&& (2147483647 : Int32)).toInt % n.toInt := Jvm.Kit.i32_rem_nonneg (by omega)
  have hlt := n.toInt_lt
  have h3 : 0 ≤ (x &&& (2147483647 : Int32)).toInt % n.toInt := Int.emod_nonneg _ (by omega)
  have h4 : (x &&& (2147483647 : Int32)).toInt % n.toInt < n.toInt := Int.emod_lt_of_pos _ (by omega)
  exact own_i32 (by omega) (by omega) (by omega)
theorem own_mask (x n : Int32) {k : Nat} (hk : k < 31) (hm : n.toBitVec.toNat = 2 ^ k - 1) : ∃ j : Nat, j < 2 ^ k ∧ x &&& n = j.toInt32 := by
  have e1 : (x &&& n).toInt = x.toInt % 2 ^ k := Jvm.Kit.i32_mask x n (k := k) (by omega) hm
  have hp : (2 : Nat) ^ k < 2 ^ 31 := Nat.pow_lt_pow_right (by decide) hk
  have hp1 : (0 : Int) < 2 ^ k := Int.pow_pos (by decide)
  have h3 : 0 ≤ x.toInt % 2 ^ k := Int.emod_nonneg _ (by omega)
  have h4 : x.toInt % 2 ^ k < 2 ^ k := Int.emod_lt_of_pos _ hp1
  refine own_i32 hp (by rw [e1]; exact h3) (by rw [e1]; push_cast; exact h4)
theorem own_lt_irrefl {a b : Int64} (h : a = b) : ¬ a < b ∧ ¬ b < a := by subst h; simp [Int64.lt_irrefl]
theorem own_lt_asymm {a b : Int64} (h : a < b) : ¬ b < a := Int64.lt_asymm h
theorem own_lt_total {a b : Int64} (h1 : ¬ a = b) (h2 : ¬ a < b) : b < a := by
  rw [Int64.lt_iff_toInt_lt] at h2 ⊢; rw [← Int64.toInt_inj] at h1; omega
def STA (Z : State) (h : Heap) (w : Nat → Addr) : Prop := Sta Z h "com/example/lean_broker/leanbroker/protocol/ApiKey" "PRODUCE" "Lcom/example/lean_broker/leanbroker/protocol/ApiKey;" (.ref (w 0)) ∧ Sta Z h "com/example/lean_broker/leanbroker/protocol/ApiKey" "FETCH" "Lcom/example/lean_broker/leanbroker/protocol/ApiKey;" (.ref (w 1)) ∧ Sta Z h "com/example/lean_broker/leanbroker/protocol/ApiKey" "LIST_OFFSETS" "Lcom/example/lean_broker/leanbroker/protocol/ApiKey;" (.ref (w 2)) ∧ Sta Z h "com/example/lean_broker/leanbroker/protocol/ApiKey" "METADATA" "Lcom/example/lean_broker/leanbroker/protocol/ApiKey;" (.ref (w 3)) ∧ Sta Z h "com/example/lean_broker/leanbroker/protocol/ApiKey" "OFFSET_COMMIT" "Lcom/example/lean_broker/leanbroker/protocol/ApiKey;" (.ref (w 4)) ∧ Sta Z h "com/example/lean_broker/leanbroker/protocol/ApiKey" "OFFSET_FETCH" "Lcom/example/lean_broker/leanbroker/protocol/ApiKey;" (.ref (w 5)) ∧ Sta Z h "com/example/lean_broker/leanbroker/protocol/ApiKey" "FIND_COORDINATOR" "Lcom/example/lean_broker/leanbroker/protocol/ApiKey;" (.ref (w 6)) ∧ Sta Z h "com/example/lean_broker/leanbroker/protocol/ApiKey" "JOIN_GROUP" "Lcom/example/lean_broker/leanbroker/protocol/ApiKey;" (.ref (w 7)) ∧ Sta Z h "com/example/lean_broker/leanbroker/protocol/ApiKey" "HEARTBEAT" "Lcom/example/lean_broker/leanbroker/protocol/ApiKey;" (.ref (w 8)) ∧ Sta Z h "com/example/lean_broker/leanbroker/protocol/ApiKey" "LEAVE_GROUP" "Lcom/example/lean_broker/leanbroker/protocol/ApiKey;" (.ref (w 9)) ∧ Sta Z h "com/example/lean_broker/leanbroker/protocol/ApiKey" "SYNC_GROUP" "Lcom/example/lean_broker/leanbroker/protocol/ApiKey;" (.ref (w 10)) ∧ Sta Z h "com/example/lean_broker/leanbroker/protocol/ApiKey" "DESCRIBE_GROUPS" "Lcom/example/lean_broker/leanbroker/protocol/ApiKey;" (.ref (w 11)) ∧ Sta Z h "com/example/lean_broker/leanbroker/protocol/ApiKey" "LIST_GROUPS" "Lcom/example/lean_broker/leanbroker/protocol/ApiKey;" (.ref (w 12)) ∧ Sta Z h "com/example/lean_broker/leanbroker/protocol/ApiKey" "API_VERSIONS" "Lcom/example/lean_broker/leanbroker/protocol/ApiKey;" (.ref (w 13)) ∧ Sta Z h "com/example/lean_broker/leanbroker/protocol/ApiKey" "CREATE_TOPICS" "Lcom/example/lean_broker/leanbroker/protocol/ApiKey;" (.ref (w 14)) ∧ Sta Z h "com/example/lean_broker/leanbroker/protocol/ApiKey" "DELETE_TOPICS" "Lcom/example/lean_broker/leanbroker/protocol/ApiKey;" (.ref (w 15)) ∧ Sta Z h "com/example/lean_broker/leanbroker/protocol/ApiKey" "INIT_PRODUCER_ID" "Lcom/example/lean_broker/leanbroker/protocol/ApiKey;" (.ref (w 16)) ∧ Sta Z h "com/example/lean_broker/leanbroker/protocol/ApiKey" "DESCRIBE_CONFIGS" "Lcom/example/lean_broker/leanbroker/protocol/ApiKey;" (.ref (w 17)) ∧ Sta Z h "com/example/lean_broker/leanbroker/protocol/ApiKey" "CREATE_PARTITIONS" "Lcom/example/lean_broker/leanbroker/protocol/ApiKey;" (.ref (w 18))
theorem own_lt_nat {k j : Nat} (hk : k < 2 ^ 31) (hj : j < 2 ^ 31) : k.toInt32 < j.toInt32 ↔ k < j := by
  rw [Int32.lt_iff_toInt_lt, len_toInt hk, len_toInt hj]; omega
def own_mx (k : Nat) : Int32 := [3, 4, 1, 4, 2, 2, 0, 2, 1, 1, 1, 0, 0, 0, 0, 0, 1, 2, 1].getD k 0
/-- an array of n places whose first m hold f 0, f 1, .. -/
def Pre (Z : State) (h : Heap) (a : Addr) (cA : ClassId) (ty : FieldType) (n : Int32) (m : Nat) (f : Nat → Value) : Prop := ∃ c : Cell, Arr Z h a c ty ∧ c.cls = cA ∧ c.slots.size = n.toNatClampNeg ∧ ¬ n < 0 ∧ ∀ i, i < m → c.slots[i]? = some (f i)
section PreLaws
variable {Z : State} {h h' : Heap} {a b : Addr} {cA : ClassId} {ty : FieldType} {n : Int32} {m : Nat} {f : Nat → Value} {sl : Nat} {v : Value}
theorem Pre.lt (F : Pre Z h a cA ty n m f) : a < h.size := by obtain ⟨c, A, -⟩ := F; exact A.lt
theorem Pre.ext (F : Pre Z h a cA ty n m f) (E : Ext h h') : Pre Z h' a cA ty n m f := by obtain ⟨c, A, r⟩ := F; exact ⟨c, A.ext E, r⟩
theorem Pre.other (F : Pre Z h a cA ty n m f) (W : Wr h h' b sl v) (q : a ≠ b) : Pre Z h' a cA ty n m f := by obtain ⟨c, A, r⟩ := F; exact ⟨c, A.other W q, r⟩
theorem Pre.push (F : Pre Z h a cA ty n m f) (W : Wr h h' a sl v) (hs : sl = m) (hm : m < n.toNatClampNeg) (hv : v = f m) : Pre Z h' a cA ty n (m + 1) f := by
  subst hs hv
  obtain ⟨c, A, r1, r2, r3, H⟩ := F
  refine ⟨_, A.same W, r1, by simpa [Cell.setSlot] using r2, r3, fun i hi => ?_⟩
  by_cases q : i = sl
  · subst q; simp [Cell.setSlot, r2, hm]
  · have : (c.setSlot sl (f sl)).slots[i]? = c.slots[i]? := by simp [Cell.setSlot, Array.getElem?_setIfInBounds, Ne.symm q]
    rw [this]; exact H i (by omega)
end PreLaws
theorem own_nat (k : Nat) (hk : k < 2 ^ 31) : ¬ k.toInt32 < 0 ∧ k.toInt32.toNatClampNeg = k := by
  have q : k.toInt32.toInt = k := len_toInt hk
  have h0 : ¬ k.toInt32 < 0 := fun r => by
    have := Int32.lt_iff_toInt_lt.mp r
    have e0 : (0 : Int32).toInt = 0 := rfl
    omega
  have := nat_of h0
  exact ⟨h0, by omega⟩
def own_sv (v a b : Int32) : Int32 := if v < a then 0 else if b < v then 0 else 1
theorem own_pd_0 : parseMethodDescriptor "(S)Z" = some ⟨[.short], some .boolean⟩ := by decide +kernel
theorem own_d1_0 : decode prog_1_method_8_code 0 = .ok (.iload_n 1, 1) := by decide +kernel
theorem own_d1_1 : decode prog_1_method_8_code 1 = .ok (.aload_n 0, 1) := by decide +kernel
theorem own_d1_2 : decode prog_1_method_8_code 2 = .ok (.getfield 87, 3) := by decide +kernel
theorem own_d1_5 : decode prog_1_method_8_code 5 = .ok (.if_icmp .lt 15, 3) := by decide +kernel
theorem own_d1_8 : decode prog_1_method_8_code 8 = .ok (.iload_n 1, 1) := by decide +kernel
theorem own_d1_9 : decode prog_1_method_8_code 9 = .ok (.aload_n 0, 1) := by decide +kernel
theorem own_d1_10 : decode prog_1_method_8_code 10 = .ok (.getfield 90, 3) := by decide +kernel
theorem own_d1_13 : decode prog_1_method_8_code 13 = .ok (.if_icmp .gt 7, 3) := by decide +kernel
theorem own_d1_16 : decode prog_1_method_8_code 16 = .ok (.iconst 1, 1) := by decide +kernel
theorem own_d1_17 : decode prog_1_method_8_code 17 = .ok (.goto 4, 3) := by decide +kernel
theorem own_d1_20 : decode prog_1_method_8_code 20 = .ok (.iconst 0, 1) := by decide +kernel
theorem own_d1_21 : decode prog_1_method_8_code 21 = .ok (.ireturn, 1) := by decide +kernel
set_option maxRecDepth 65536 in
set_option maxHeartbeats 40000000 in
theorem rm_sv (l : Launch) (Z : State) (a0 : Array Value) (hw : ∀ d ∈ tables_1, d.before a0 Z = true) (ws : List Jvm.Cond) (x0 : Addr) (x1 f g : Int32) (h0 : Heap) (n0 : Nat) (Z0 : n0 ≤ h0.size) (F : Fld Z h0 x0 "com/example/lean_broker/leanbroker/protocol/ApiKey" "minVersion" "S" (.int f)) (G : Fld Z h0 x0 "com/example/lean_broker/leanbroker/protocol/ApiKey" "maxVersion" "S" (.int g)) :
    MetFree l (⟨"com/example/lean_broker/leanbroker/protocol/ApiKey", "serves", "(S)Z"⟩ : MethodName) (head1 (Jvm.Cond.code (⟨"com/example/lean_broker/leanbroker/protocol/ApiKey", "serves", "(S)Z"⟩ : MethodName) prog_1_method_8_code 2 (some .boolean) :: ws) ({ frames := 0, cells := 0, slots := 0, locals := 0 } : Room)) (fun a U => a = #[(.ref x0), (.int x1)] ∧ Z.Warmed39 U.vm ∧ U.heap = h0) (fun _ _ _ _ _ => True) (fun _ U o U' => ∃ v L, o = .returned v ∧ QP (.int (own_sv x1 f g)) h0 n0 v U'.heap L ∧ FrameEnd U o U' L ({ frames := 0, cells := 0, slots := 0, locals := 0 } : Room).cells ({ frames := 0, cells := 0, slots := 0, locals := 0 } : Room).slots) := by
  refine MetFree.of_bodySF (plainFor_of_name (by first | (simp [plainName, overriddenIn]; done) | decide +kernel)) hisR ?_
  intro p e s m args below meth c s₁ Bd hml0 hP hK
  obtain ⟨rfl, hZ, hh⟩ := hP
  have hx := Bd.exec
  have hby := Bd.bytes
  have hml : c.maxLocals = 2 := hml0
  have hown : s.vm.findClass "com/example/lean_broker/leanbroker/protocol/ApiKey" = some m.cls := findClass_of_methodNamed Bd.named
  have hnm := (name_of_methodNamed Bd.named Bd.method).1
  have X0 : Stand p l e ({ frames := 0, cells := 0, slots := 0, locals := 0 } : Room) s m #[(.ref x0), (.int x1)] below meth c s₁ [] 0 0 := Stand.of_body Bd
  have e0 : s₁.heap = h0 := by rw [← hh, Bd.state]; rfl
  have N0 := Fr.nil n0
  have ef0 : entryFrame m #[(.ref x0), (.int x1)] 2 = mkF m 0 #[.val (.ref x0), .val (.int x1)] [] := by first | (simp [entryFrame, mkF, argsToLocals, Value.category, maxLocals]; done) | rfl
  have pre0 : ∀ t, Steps p.tables e below (s₁.setTop (mkF m 0 #[.val (.ref x0), .val (.int x1)] [])) t → Steps p.tables e below (s₁.setTop (entryFrame m #[(.ref x0), (.int x1)] 2)) t := fun t k => castTop ef0 k
  obtain ⟨T1, X1, e1, st1⟩ := getF X0 hx hZ hown (host := "") (Or.inl (hw _ (List.mem_of_getElem? (i := 49) rfl))) Via.refl e0 F (g := (mkF m 2 #[.val (.ref x0), .val (.int x1)] [(.ref x0), (.int x1)])) rfl rfl (hb hby own_d1_2)
  have pre2 : ∀ t, Steps p.tables e below (T1.setTop (mkF m 5 #[.val (.ref x0), .val (.int x1)] [(.int f), (.int x1)])) t → Steps p.tables e below (s₁.setTop (entryFrame m #[(.ref x0), (.int x1)] 2)) t := fun tt kk => pre0 tt (by
    show Steps p.tables e below (s₁.setTop (mkF m 0 #[.val (.ref x0), .val (.int x1)] [])) _
    refine XS.iloadN X0.here hx rfl (hb hby own_d1_0) rfl ?_
    show Steps p.tables e below (s₁.setTop (mkF m 1 #[.val (.ref x0), .val (.int x1)] [(.int x1)])) _
    refine XS.aloadN X0.here hx rfl (hb hby own_d1_1) rfl rfl ?_
    show Steps p.tables e below (s₁.setTop (mkF m 2 #[.val (.ref x0), .val (.int x1)] [(.ref x0), (.int x1)])) _
    refine st1 _ ?_
    exact kk)
  by_cases hc5 : x1 < f
  · obtain ⟨fs, hr, hrun, hended, hW, hsame⟩ := X1.leave (v := some (.int (0 : Int32))) (fun h => by rw [Bd.returns] at h; cases h)
    refine ⟨_, _, pre2 _ ?_, hrun, hended, _, _, rfl, ?_, ⟨_, rfl⟩, hW, hsame.mono (by decide) (by decide)⟩
    · show Steps p.tables e below (T1.setTop (mkF m 5 #[.val (.ref x0), .val (.int x1)] [(.int f), (.int x1)])) _
      refine XS.icmpYes X1.here hx rfl (pc0 := 5) (pc' := 20) rfl (hb hby own_d1_5) rfl (tlt hc5).1 (by decide) (by decide) ?_
      show Steps p.tables e below (T1.setTop (mkF m 20 #[.val (.ref x0), .val (.int x1)] [])) _
      refine XS.iconst X1.here hx rfl (hb hby own_d1_20) ?_
      show Steps p.tables e below (T1.setTop (mkF m 21 #[.val (.ref x0), .val (.int x1)] [(.int (0 : Int32))])) _
      exact retN X1 hx (t := .boolean) Bd.returns (by simp) (hb hby own_d1_21) hr
    · show QP (.int (own_sv x1 f g)) h0 n0 _ T1.heap _
      rw [e1]
      exact ⟨by rw [own_sv]; rw [if_pos hc5], N0, rfl⟩
  · obtain ⟨T3, X3, e3, st3⟩ := getF X1 hx hZ hown (host := "") (Or.inl (hw _ (List.mem_of_getElem? (i := 51) rfl))) Via.refl e1 G (g := (mkF m 10 #[.val (.ref x0), .val (.int x1)] [(.ref x0), (.int x1)])) rfl rfl (hb hby own_d1_10)
    have pre4 : ∀ t, Steps p.tables e below (T3.setTop (mkF m 13 #[.val (.ref x0), .val (.int x1)] [(.int g), (.int x1)])) t → Steps p.tables e below (s₁.setTop (entryFrame m #[(.ref x0), (.int x1)] 2)) t := fun tt kk => pre2 tt (by
      show Steps p.tables e below (T1.setTop (mkF m 5 #[.val (.ref x0), .val (.int x1)] [(.int f), (.int x1)])) _
      refine XS.icmpNo X1.here hx rfl (hb hby own_d1_5) rfl (flt hc5).1 ?_
      show Steps p.tables e below (T1.setTop (mkF m 8 #[.val (.ref x0), .val (.int x1)] [])) _
      refine XS.iloadN X1.here hx rfl (hb hby own_d1_8) rfl ?_
      show Steps p.tables e below (T1.setTop (mkF m 9 #[.val (.ref x0), .val (.int x1)] [(.int x1)])) _
      refine XS.aloadN X1.here hx rfl (hb hby own_d1_9) rfl rfl ?_
      show Steps p.tables e below (T1.setTop (mkF m 10 #[.val (.ref x0), .val (.int x1)] [(.ref x0), (.int x1)])) _
      refine st3 _ ?_
      exact kk)
    by_cases hc13 : g < x1
    · obtain ⟨fs, hr, hrun, hended, hW, hsame⟩ := X3.leave (v := some (.int (0 : Int32))) (fun h => by rw [Bd.returns] at h; cases h)
      refine ⟨_, _, pre4 _ ?_, hrun, hended, _, _, rfl, ?_, ⟨_, rfl⟩, hW, hsame.mono (by decide) (by decide)⟩
      · show Steps p.tables e below (T3.setTop (mkF m 13 #[.val (.ref x0), .val (.int x1)] [(.int g), (.int x1)])) _
        refine XS.icmpYes X3.here hx rfl (pc0 := 13) (pc' := 20) rfl (hb hby own_d1_13) rfl (tlt hc13).2.2.1 (by decide) (by decide) ?_
        show Steps p.tables e below (T3.setTop (mkF m 20 #[.val (.ref x0), .val (.int x1)] [])) _
        refine XS.iconst X3.here hx rfl (hb hby own_d1_20) ?_
        show Steps p.tables e below (T3.setTop (mkF m 21 #[.val (.ref x0), .val (.int x1)] [(.int (0 : Int32))])) _
        exact retN X3 hx (t := .boolean) Bd.returns (by simp) (hb hby own_d1_21) hr
      · show QP (.int (own_sv x1 f g)) h0 n0 _ T3.heap _
        rw [e3]
        exact ⟨by rw [own_sv]; rw [if_neg hc5, if_pos hc13], N0, rfl⟩
    · obtain ⟨fs, hr, hrun, hended, hW, hsame⟩ := X3.leave (v := some (.int (1 : Int32))) (fun h => by rw [Bd.returns] at h; cases h)
      refine ⟨_, _, pre4 _ ?_, hrun, hended, _, _, rfl, ?_, ⟨_, rfl⟩, hW, hsame.mono (by decide) (by decide)⟩
      · show Steps p.tables e below (T3.setTop (mkF m 13 #[.val (.ref x0), .val (.int x1)] [(.int g), (.int x1)])) _
        refine XS.icmpNo X3.here hx rfl (hb hby own_d1_13) rfl (flt hc13).2.2.1 ?_
        show Steps p.tables e below (T3.setTop (mkF m 16 #[.val (.ref x0), .val (.int x1)] [])) _
        refine XS.iconst X3.here hx rfl (hb hby own_d1_16) ?_
        show Steps p.tables e below (T3.setTop (mkF m 17 #[.val (.ref x0), .val (.int x1)] [(.int (1 : Int32))])) _
        refine XS.goto X3.here hx rfl (pc0 := 17) (pc' := 21) rfl (hb hby own_d1_17) (by decide) (by decide) ?_
        show Steps p.tables e below (T3.setTop (mkF m 21 #[.val (.ref x0), .val (.int x1)] [(.int (1 : Int32))])) _
        exact retN X3 hx (t := .boolean) Bd.returns (by simp) (hb hby own_d1_21) hr
      · show QP (.int (own_sv x1 f g)) h0 n0 _ T3.heap _
        rw [e3]
        exact ⟨by rw [own_sv]; rw [if_neg hc5, if_neg hc13], N0, rfl⟩
set_option maxRecDepth 65536 in
set_option maxHeartbeats 40000000 in
theorem rm0 (l : Launch) (Z : State) (a0 : Array Value) (hw : ∀ d ∈ tables_1, d.before a0 Z = true) (ws : List Jvm.Cond) (x0 x1 : Int32) (w : Nat → Addr) (h0 : Heap) (n0 : Nat) (Z0 : n0 ≤ h0.size) (OL : Old Z n0 h0) (ST : STA Z Z.heap w) (EX : ∀ i, i < 19 → Exa Z Z.heap (w i) "com/example/lean_broker/leanbroker/protocol/ApiKey") (FA : ∀ i, i < 19 → Fld Z Z.heap (w i) "com/example/lean_broker/leanbroker/protocol/ApiKey" "minVersion" "S" (.int (0 : Int32))) (FB : ∀ i, i < 19 → Fld Z Z.heap (w i) "com/example/lean_broker/leanbroker/protocol/ApiKey" "maxVersion" "S" (.int (own_mx i))) :
    MetFree l x (head1 (Jvm.Cond.code x code maxLocals ret :: ws) room_1) (fun a U => a = #[(.int x0), (.int x1)] ∧ Z.Warmed39 U.vm ∧ U.heap = h0) (fun _ _ _ _ _ => True) (fun _ U o U' => ∃ v L, o = .returned v ∧ Q1 n0 v U'.heap L ∧ FrameEnd U o U' L room_1.cells room_1.slots) := by
  refine MetFree.of_bodySF (plainFor_of_name (by first | (simp [plainName, overriddenIn]; done) | decide +kernel)) hisR ?_
  intro p e s m args below meth c s₁ Bd hml0 hP hK
  obtain ⟨rfl, hZ, hh⟩ := hP
  have hx := Bd.exec
  have hby := Bd.bytes
  have hml : c.maxLocals = 7 := hml0
  have hown : s.vm.findClass "com/example/lean_broker/leanbroker/protocol/ApiKeyServesPinLaw" = some m.cls := findClass_of_methodNamed Bd.named
  have hnm := (name_of_methodNamed Bd.named Bd.method).1
  have X0 : Stand p l e room_1 s m #[(.int x0), (.int x1)] below meth c s₁ [] 0 0 := Stand.of_body Bd
  have e0 : s₁.heap = h0 := by rw [← hh, Bd.state]; rfl
  have N0 := Fr.nil n0
  have ef0 : entryFrame m #[(.int x0), (.int x1)] maxLocals = mkF m 0 #[.val (.int x0), .val (.int x1), .unset, .unset, .unset, .unset, .unset] [] := by first | (simp [entryFrame, mkF, argsToLocals, Value.category, maxLocals]; done) | rfl
  have pre0 : ∀ t, Steps p.tables e below (s₁.setTop (mkF m 0 #[.val (.int x0), .val (.int x1), .unset, .unset, .unset, .unset, .unset] [])) t → Steps p.tables e below (s₁.setTop (entryFrame m #[(.int x0), (.int x1)] maxLocals)) t := fun t k => castTop ef0 k
  obtain ⟨k, hk, ek⟩ := own_mod x0 19 19 rfl (by decide)
  have hkn := own_nat k (by omega)
  have hkl : k.toInt32 < (19 : Int32) := (own_lt_nat (k := k) (j := 19) (by omega) (by decide)).mpr hk
  obtain ⟨T5, h5, k5, X5, e5, E5, A5, O5, st5⟩ := newR X0 hx hZ hown (hw _ (List.mem_of_getElem? (i := 0) rfl)) (hw _ (List.mem_of_getElem? (i := 1) rfl)) e0 (g := (mkF m 2 #[.val (.int x0), .val (.int x1), .unset, .unset, .unset, .unset, .unset] [(.int (19 : Int32))])) rfl (hb hby at_2) rfl (by decide) (cap := 19) (by decide) (by decide) (by decide) (by decide)
  obtain ⟨b5, g5⟩ : ∃ z, z = h0.size := ⟨_, rfl⟩
  rw [← g5] at A5 st5
  have ge_b5 : n0 ≤ b5 := Nat.le_trans Z0 (Nat.le_of_eq g5.symm)
  have f6 : n0 ≤ h5.size := Nat.le_trans Z0 E5.1
  have f7 : Old Z n0 h5 := OL.ext E5
  have V5 : Pre Z h5 b5 k5 (.object "com/example/lean_broker/leanbroker/protocol/ApiKey") (19 : Int32) 0 (fun i => .ref (w i)) := ⟨_, A5, rfl, sz_new _ _ _, by decide, fun i hi => absurd hi (Nat.not_lt_zero i)⟩
  obtain ⟨T8, X8, e8, st8⟩ := getS2 X5 hx hZ hown (host := "") (Or.inl (hw _ (List.mem_of_getElem? (i := 2) rfl))) Via.refl e5 ((ST.1).ext f7.2) (g := (mkF m 7 #[.val (.int x0), .val (.int x1), .unset, .unset, .unset, .unset, .unset] [(.int (0 : Int32)), (.ref b5), (.ref b5)])) rfl (hb hby at_7)
  obtain ⟨cl9, Ar9, C9, S9, -, -⟩ := id V5
  obtain ⟨T10, h10, X10, e10, W10, st10⟩ := stR X8 hx hZ e8 Ar9 (j := (0 : Int32)) (inb_of S9 ⟨by decide, by decide⟩) rfl (Sto.ofV Ar9 C9 O5 (Ins.self ((EX 0 (by decide)).ext f7.2))) (g := (mkF m 10 #[.val (.int x0), .val (.int x1), .unset, .unset, .unset, .unset, .unset] [(.ref (w 0)), (.int (0 : Int32)), (.ref b5), (.ref b5)])) rfl rfl (hb hby at_10)
  have N10 := Fr.snoc X10 N0 ge_b5
  have f11 : n0 ≤ h10.size := Nat.le_trans f6 (Keep.of_wr W10).1
  have f12 : Old Z n0 h10 := f7.wr W10 ge_b5
  have V10 : Pre Z h10 b5 k5 (.object "com/example/lean_broker/leanbroker/protocol/ApiKey") (19 : Int32) 1 (fun i => .ref (w i)) := V5.push W10 rfl (by decide) rfl
  obtain ⟨T13, X13, e13, st13⟩ := getS2 X10 hx hZ hown (host := "") (Or.inl (hw _ (List.mem_of_getElem? (i := 6) rfl))) Via.refl e10 ((ST.2.1).ext f12.2) (g := (mkF m 13 #[.val (.int x0), .val (.int x1), .unset, .unset, .unset, .unset, .unset] [(.int (1 : Int32)), (.ref b5), (.ref b5)])) rfl (hb hby at_13)
  obtain ⟨cl14, Ar14, C14, S14, -, -⟩ := id V10
  obtain ⟨T15, h15, X15, e15, W15, st15⟩ := stR X13 hx hZ e13 Ar14 (j := (1 : Int32)) (inb_of S14 ⟨by decide, by decide⟩) rfl (Sto.ofV Ar14 C14 O5 (Ins.self ((EX 1 (by decide)).ext f12.2))) (g := (mkF m 16 #[.val (.int x0), .val (.int x1), .unset, .unset, .unset, .unset, .unset] [(.ref (w 1)), (.int (1 : Int32)), (.ref b5), (.ref b5)])) rfl rfl (hb hby at_16)
  have N15 := Fr.snoc X15 N10 ge_b5
  have f16 : n0 ≤ h15.size := Nat.le_trans f11 (Keep.of_wr W15).1
  have f17 : Old Z n0 h15 := f12.wr W15 ge_b5
  have V15 : Pre Z h15 b5 k5 (.object "com/example/lean_broker/leanbroker/protocol/ApiKey") (19 : Int32) 2 (fun i => .ref (w i)) := V10.push W15 rfl (by decide) rfl
  obtain ⟨T18, X18, e18, st18⟩ := getS2 X15 hx hZ hown (host := "") (Or.inl (hw _ (List.mem_of_getElem? (i := 8) rfl))) Via.refl e15 ((ST.2.2.1).ext f17.2) (g := (mkF m 19 #[.val (.int x0), .val (.int x1), .unset, .unset, .unset, .unset, .unset] [(.int (2 : Int32)), (.ref b5), (.ref b5)])) rfl (hb hby at_19)
  obtain ⟨cl19, Ar19, C19, S19, -, -⟩ := id V15
  obtain ⟨T20, h20, X20, e20, W20, st20⟩ := stR X18 hx hZ e18 Ar19 (j := (2 : Int32)) (inb_of S19 ⟨by decide, by decide⟩) rfl (Sto.ofV Ar19 C19 O5 (Ins.self ((EX 2 (by decide)).ext f17.2))) (g := (mkF m 22 #[.val (.int x0), .val (.int x1), .unset, .unset, .unset, .unset, .unset] [(.ref (w 2)), (.int (2 : Int32)), (.ref b5), (.ref b5)])) rfl rfl (hb hby at_22)
  have N20 := Fr.snoc X20 N15 ge_b5
  have f21 : n0 ≤ h20.size := Nat.le_trans f16 (Keep.of_wr W20).1
  have f22 : Old Z n0 h20 := f17.wr W20 ge_b5
  have V20 : Pre Z h20 b5 k5 (.object "com/example/lean_broker/leanbroker/protocol/ApiKey") (19 : Int32) 3 (fun i => .ref (w i)) := V15.push W20 rfl (by decide) rfl
  obtain ⟨T23, X23, e23, st23⟩ := getS2 X20 hx hZ hown (host := "") (Or.inl (hw _ (List.mem_of_getElem? (i := 10) rfl))) Via.refl e20 ((ST.2.2.2.1).ext f22.2) (g := (mkF m 25 #[.val (.int x0), .val (.int x1), .unset, .unset, .unset, .unset, .unset] [(.int (3 : Int32)), (.ref b5), (.ref b5)])) rfl (hb hby at_25)
  obtain ⟨cl24, Ar24, C24, S24, -, -⟩ := id V20
  obtain ⟨T25, h25, X25, e25, W25, st25⟩ := stR X23 hx hZ e23 Ar24 (j := (3 : Int32)) (inb_of S24 ⟨by decide, by decide⟩) rfl (Sto.ofV Ar24 C24 O5 (Ins.self ((EX 3 (by decide)).ext f22.2))) (g := (mkF m 28 #[.val (.int x0), .val (.int x1), .unset, .unset, .unset, .unset, .unset] [(.ref (w 3)), (.int (3 : Int32)), (.ref b5), (.ref b5)])) rfl rfl (hb hby at_28)
  have N25 := Fr.snoc X25 N20 ge_b5
  have f26 : n0 ≤ h25.size := Nat.le_trans f21 (Keep.of_wr W25).1
  have f27 : Old Z n0 h25 := f22.wr W25 ge_b5
  have V25 : Pre Z h25 b5 k5 (.object "com/example/lean_broker/leanbroker/protocol/ApiKey") (19 : Int32) 4 (fun i => .ref (w i)) := V20.push W25 rfl (by decide) rfl
  obtain ⟨T28, X28, e28, st28⟩ := getS2 X25 hx hZ hown (host := "") (Or.inl (hw _ (List.mem_of_getElem? (i := 12) rfl))) Via.refl e25 ((ST.2.2.2.2.1).ext f27.2) (g := (mkF m 31 #[.val (.int x0), .val (.int x1), .unset, .unset, .unset, .unset, .unset] [(.int (4 : Int32)), (.ref b5), (.ref b5)])) rfl (hb hby at_31)
  obtain ⟨cl29, Ar29, C29, S29, -, -⟩ := id V25
  obtain ⟨T30, h30, X30, e30, W30, st30⟩ := stR X28 hx hZ e28 Ar29 (j := (4 : Int32)) (inb_of S29 ⟨by decide, by decide⟩) rfl (Sto.ofV Ar29 C29 O5 (Ins.self ((EX 4 (by decide)).ext f27.2))) (g := (mkF m 34 #[.val (.int x0), .val (.int x1), .unset, .unset, .unset, .unset, .unset] [(.ref (w 4)), (.int (4 : Int32)), (.ref b5), (.ref b5)])) rfl rfl (hb hby at_34)
  have N30 := Fr.snoc X30 N25 ge_b5
  have f31 : n0 ≤ h30.size := Nat.le_trans f26 (Keep.of_wr W30).1
  have f32 : Old Z n0 h30 := f27.wr W30 ge_b5
  have V30 : Pre Z h30 b5 k5 (.object "com/example/lean_broker/leanbroker/protocol/ApiKey") (19 : Int32) 5 (fun i => .ref (w i)) := V25.push W30 rfl (by decide) rfl
  obtain ⟨T33, X33, e33, st33⟩ := getS2 X30 hx hZ hown (host := "") (Or.inl (hw _ (List.mem_of_getElem? (i := 14) rfl))) Via.refl e30 ((ST.2.2.2.2.2.1).ext f32.2) (g := (mkF m 37 #[.val (.int x0), .val (.int x1), .unset, .unset, .unset, .unset, .unset] [(.int (5 : Int32)), (.ref b5), (.ref b5)])) rfl (hb hby at_37)
  obtain ⟨cl34, Ar34, C34, S34, -, -⟩ := id V30
  obtain ⟨T35, h35, X35, e35, W35, st35⟩ := stR X33 hx hZ e33 Ar34 (j := (5 : Int32)) (inb_of S34 ⟨by decide, by decide⟩) rfl (Sto.ofV Ar34 C34 O5 (Ins.self ((EX 5 (by decide)).ext f32.2))) (g := (mkF m 40 #[.val (.int x0), .val (.int x1), .unset, .unset, .unset, .unset, .unset] [(.ref (w 5)), (.int (5 : Int32)), (.ref b5), (.ref b5)])) rfl rfl (hb hby at_40)
  have N35 := Fr.snoc X35 N30 ge_b5
  have f36 : n0 ≤ h35.size := Nat.le_trans f31 (Keep.of_wr W35).1
  have f37 : Old Z n0 h35 := f32.wr W35 ge_b5
  have V35 : Pre Z h35 b5 k5 (.object "com/example/lean_broker/leanbroker/protocol/ApiKey") (19 : Int32) 6 (fun i => .ref (w i)) := V30.push W35 rfl (by decide) rfl
  obtain ⟨T38, X38, e38, st38⟩ := getS2 X35 hx hZ hown (host := "") (Or.inl (hw _ (List.mem_of_getElem? (i := 16) rfl))) Via.refl e35 ((ST.2.2.2.2.2.2.1).ext f37.2) (g := (mkF m 44 #[.val (.int x0), .val (.int x1), .unset, .unset, .unset, .unset, .unset] [(.int (6 : Int32)), (.ref b5), (.ref b5)])) rfl (hb hby at_44)
  obtain ⟨cl39, Ar39, C39, S39, -, -⟩ := id V35
  obtain ⟨T40, h40, X40, e40, W40, st40⟩ := stR X38 hx hZ e38 Ar39 (j := (6 : Int32)) (inb_of S39 ⟨by decide, by decide⟩) rfl (Sto.ofV Ar39 C39 O5 (Ins.self ((EX 6 (by decide)).ext f37.2))) (g := (mkF m 47 #[.val (.int x0), .val (.int x1), .unset, .unset, .unset, .unset, .unset] [(.ref (w 6)), (.int (6 : Int32)), (.ref b5), (.ref b5)])) rfl rfl (hb hby at_47)
  have N40 := Fr.snoc X40 N35 ge_b5
  have f41 : n0 ≤ h40.size := Nat.le_trans f36 (Keep.of_wr W40).1
  have f42 : Old Z n0 h40 := f37.wr W40 ge_b5
  have V40 : Pre Z h40 b5 k5 (.object "com/example/lean_broker/leanbroker/protocol/ApiKey") (19 : Int32) 7 (fun i => .ref (w i)) := V35.push W40 rfl (by decide) rfl
  have pre43 : ∀ t, Steps p.tables e below (T40.setTop (mkF m 49 #[.val (.int x0), .val (.int x1), .unset, .unset, .unset, .unset, .unset] [(.ref b5), (.ref b5)])) t → Steps p.tables e below (s₁.setTop (entryFrame m #[(.int x0), (.int x1)] maxLocals)) t := fun tt kk => pre0 tt (by
    show Steps p.tables e below (s₁.setTop (mkF m 0 #[.val (.int x0), .val (.int x1), .unset, .unset, .unset, .unset, .unset] [])) _
    refine XS.bipush X0.here hx rfl (hb hby at_0) ?_
    show Steps p.tables e below (s₁.setTop (mkF m 2 #[.val (.int x0), .val (.int x1), .unset, .unset, .unset, .unset, .unset] [(.int (19 : Int32))])) _
    refine st5 _ ?_
    show Steps p.tables e below (T5.setTop (mkF m 5 #[.val (.int x0), .val (.int x1), .unset, .unset, .unset, .unset, .unset] [(.ref b5)])) _
    refine XS.dup X5.here hx rfl (hb hby at_5) rfl rfl ?_
    show Steps p.tables e below (T5.setTop (mkF m 6 #[.val (.int x0), .val (.int x1), .unset, .unset, .unset, .unset, .unset] [(.ref b5), (.ref b5)])) _
    refine XS.iconst X5.here hx rfl (hb hby at_6) ?_
    show Steps p.tables e below (T5.setTop (mkF m 7 #[.val (.int x0), .val (.int x1), .unset, .unset, .unset, .unset, .unset] [(.int (0 : Int32)), (.ref b5), (.ref b5)])) _
    refine st8 _ ?_
    show Steps p.tables e below (T8.setTop (mkF m 10 #[.val (.int x0), .val (.int x1), .unset, .unset, .unset, .unset, .unset] [(.ref (w 0)), (.int (0 : Int32)), (.ref b5), (.ref b5)])) _
    refine st10 _ ?_
    show Steps p.tables e below (T10.setTop (mkF m 11 #[.val (.int x0), .val (.int x1), .unset, .unset, .unset, .unset, .unset] [(.ref b5)])) _
    refine XS.dup X10.here hx rfl (hb hby at_11) rfl rfl ?_
    show Steps p.tables e below (T10.setTop (mkF m 12 #[.val (.int x0), .val (.int x1), .unset, .unset, .unset, .unset, .unset] [(.ref b5), (.ref b5)])) _
    refine XS.iconst X10.here hx rfl (hb hby at_12) ?_
    show Steps p.tables e below (T10.setTop (mkF m 13 #[.val (.int x0), .val (.int x1), .unset, .unset, .unset, .unset, .unset] [(.int (1 : Int32)), (.ref b5), (.ref b5)])) _
    refine st13 _ ?_
    show Steps p.tables e below (T13.setTop (mkF m 16 #[.val (.int x0), .val (.int x1), .unset, .unset, .unset, .unset, .unset] [(.ref (w 1)), (.int (1 : Int32)), (.ref b5), (.ref b5)])) _
    refine st15 _ ?_
    show Steps p.tables e below (T15.setTop (mkF m 17 #[.val (.int x0), .val (.int x1), .unset, .unset, .unset, .unset, .unset] [(.ref b5)])) _
    refine XS.dup X15.here hx rfl (hb hby at_17) rfl rfl ?_
    show Steps p.tables e below (T15.setTop (mkF m 18 #[.val (.int x0), .val (.int x1), .unset, .unset, .unset, .unset, .unset] [(.ref b5), (.ref b5)])) _
    refine XS.iconst X15.here hx rfl (hb hby at_18) ?_
    show Steps p.tables e below (T15.setTop (mkF m 19 #[.val (.int x0), .val (.int x1), .unset, .unset, .unset, .unset, .unset] [(.int (2 : Int32)), (.ref b5), (.ref b5)])) _
    refine st18 _ ?_
    show Steps p.tables e below (T18.setTop (mkF m 22 #[.val (.int x0), .val (.int x1), .unset, .unset, .unset, .unset, .unset] [(.ref (w 2)), (.int (2 : Int32)), (.ref b5), (.ref b5)])) _
    refine st20 _ ?_
    show Steps p.tables e below (T20.setTop (mkF m 23 #[.val (.int x0), .val (.int x1), .unset, .unset, .unset, .unset, .unset] [(.ref b5)])) _
    refine XS.dup X20.here hx rfl (hb hby at_23) rfl rfl ?_
    show Steps p.tables e below (T20.setTop (mkF m 24 #[.val (.int x0), .val (.int x1), .unset, .unset, .unset, .unset, .unset] [(.ref b5), (.ref b5)])) _
    refine XS.iconst X20.here hx rfl (hb hby at_24) ?_
    show Steps p.tables e below (T20.setTop (mkF m 25 #[.val (.int x0), .val (.int x1), .unset, .unset, .unset, .unset, .unset] [(.int (3 : Int32)), (.ref b5), (.ref b5)])) _
    refine st23 _ ?_
    show Steps p.tables e below (T23.setTop (mkF m 28 #[.val (.int x0), .val (.int x1), .unset, .unset, .unset, .unset, .unset] [(.ref (w 3)), (.int (3 : Int32)), (.ref b5), (.ref b5)])) _
    refine st25 _ ?_
    show Steps p.tables e below (T25.setTop (mkF m 29 #[.val (.int x0), .val (.int x1), .unset, .unset, .unset, .unset, .unset] [(.ref b5)])) _
    refine XS.dup X25.here hx rfl (hb hby at_29) rfl rfl ?_
    show Steps p.tables e below (T25.setTop (mkF m 30 #[.val (.int x0), .val (.int x1), .unset, .unset, .unset, .unset, .unset] [(.ref b5), (.ref b5)])) _
    refine XS.iconst X25.here hx rfl (hb hby at_30) ?_
    show Steps p.tables e below (T25.setTop (mkF m 31 #[.val (.int x0), .val (.int x1), .unset, .unset, .unset, .unset, .unset] [(.int (4 : Int32)), (.ref b5), (.ref b5)])) _
    refine st28 _ ?_
    show Steps p.tables e below (T28.setTop (mkF m 34 #[.val (.int x0), .val (.int x1), .unset, .unset, .unset, .unset, .unset] [(.ref (w 4)), (.int (4 : Int32)), (.ref b5), (.ref b5)])) _
    refine st30 _ ?_
    show Steps p.tables e below (T30.setTop (mkF m 35 #[.val (.int x0), .val (.int x1), .unset, .unset, .unset, .unset, .unset] [(.ref b5)])) _
    refine XS.dup X30.here hx rfl (hb hby at_35) rfl rfl ?_
    show Steps p.tables e below (T30.setTop (mkF m 36 #[.val (.int x0), .val (.int x1), .unset, .unset, .unset, .unset, .unset] [(.ref b5), (.ref b5)])) _
    refine XS.iconst X30.here hx rfl (hb hby at_36) ?_
    show Steps p.tables e below (T30.setTop (mkF m 37 #[.val (.int x0), .val (.int x1), .unset, .unset, .unset, .unset, .unset] [(.int (5 : Int32)), (.ref b5), (.ref b5)])) _
    refine st33 _ ?_
    show Steps p.tables e below (T33.setTop (mkF m 40 #[.val (.int x0), .val (.int x1), .unset, .unset, .unset, .unset, .unset] [(.ref (w 5)), (.int (5 : Int32)), (.ref b5), (.ref b5)])) _
    refine st35 _ ?_
    show Steps p.tables e below (T35.setTop (mkF m 41 #[.val (.int x0), .val (.int x1), .unset, .unset, .unset, .unset, .unset] [(.ref b5)])) _
    refine XS.dup X35.here hx rfl (hb hby at_41) rfl rfl ?_
    show Steps p.tables e below (T35.setTop (mkF m 42 #[.val (.int x0), .val (.int x1), .unset, .unset, .unset, .unset, .unset] [(.ref b5), (.ref b5)])) _
    refine XS.bipush X35.here hx rfl (hb hby at_42) ?_
    show Steps p.tables e below (T35.setTop (mkF m 44 #[.val (.int x0), .val (.int x1), .unset, .unset, .unset, .unset, .unset] [(.int (6 : Int32)), (.ref b5), (.ref b5)])) _
    refine st38 _ ?_
    show Steps p.tables e below (T38.setTop (mkF m 47 #[.val (.int x0), .val (.int x1), .unset, .unset, .unset, .unset, .unset] [(.ref (w 6)), (.int (6 : Int32)), (.ref b5), (.ref b5)])) _
    refine st40 _ ?_
    show Steps p.tables e below (T40.setTop (mkF m 48 #[.val (.int x0), .val (.int x1), .unset, .unset, .unset, .unset, .unset] [(.ref b5)])) _
    refine XS.dup X40.here hx rfl (hb hby at_48) rfl rfl ?_
    exact kk)
  obtain ⟨T44, X44, e44, st44⟩ := getS2 X40 hx hZ hown (host := "") (Or.inl (hw _ (List.mem_of_getElem? (i := 18) rfl))) Via.refl e40 ((ST.2.2.2.2.2.2.2.1).ext f42.2) (g := (mkF m 51 #[.val (.int x0), .val (.int x1), .unset, .unset, .unset, .unset, .unset] [(.int (7 : Int32)), (.ref b5), (.ref b5)])) rfl (hb hby at_51)
  obtain ⟨cl45, Ar45, C45, S45, -, -⟩ := id V40
  obtain ⟨T46, h46, X46, e46, W46, st46⟩ := stR X44 hx hZ e44 Ar45 (j := (7 : Int32)) (inb_of S45 ⟨by decide, by decide⟩) rfl (Sto.ofV Ar45 C45 O5 (Ins.self ((EX 7 (by decide)).ext f42.2))) (g := (mkF m 54 #[.val (.int x0), .val (.int x1), .unset, .unset, .unset, .unset, .unset] [(.ref (w 7)), (.int (7 : Int32)), (.ref b5), (.ref b5)])) rfl rfl (hb hby at_54)
  have N46 := Fr.snoc X46 N40 ge_b5
  have f47 : n0 ≤ h46.size := Nat.le_trans f41 (Keep.of_wr W46).1
  have f48 : Old Z n0 h46 := f42.wr W46 ge_b5
  have V46 : Pre Z h46 b5 k5 (.object "com/example/lean_broker/leanbroker/protocol/ApiKey") (19 : Int32) 8 (fun i => .ref (w i)) := V40.push W46 rfl (by decide) rfl
  obtain ⟨T49, X49, e49, st49⟩ := getS2 X46 hx hZ hown (host := "") (Or.inl (hw _ (List.mem_of_getElem? (i := 20) rfl))) Via.refl e46 ((ST.2.2.2.2.2.2.2.2.1).ext f48.2) (g := (mkF m 58 #[.val (.int x0), .val (.int x1), .unset, .unset, .unset, .unset, .unset] [(.int (8 : Int32)), (.ref b5), (.ref b5)])) rfl (hb hby at_58)
  obtain ⟨cl50, Ar50, C50, S50, -, -⟩ := id V46
  obtain ⟨T51, h51, X51, e51, W51, st51⟩ := stR X49 hx hZ e49 Ar50 (j := (8 : Int32)) (inb_of S50 ⟨by decide, by decide⟩) rfl (Sto.ofV Ar50 C50 O5 (Ins.self ((EX 8 (by decide)).ext f48.2))) (g := (mkF m 61 #[.val (.int x0), .val (.int x1), .unset, .unset, .unset, .unset, .unset] [(.ref (w 8)), (.int (8 : Int32)), (.ref b5), (.ref b5)])) rfl rfl (hb hby at_61)
  have N51 := Fr.snoc X51 N46 ge_b5
  have f52 : n0 ≤ h51.size := Nat.le_trans f47 (Keep.of_wr W51).1
  have f53 : Old Z n0 h51 := f48.wr W51 ge_b5
  have V51 : Pre Z h51 b5 k5 (.object "com/example/lean_broker/leanbroker/protocol/ApiKey") (19 : Int32) 9 (fun i => .ref (w i)) := V46.push W51 rfl (by decide) rfl
  obtain ⟨T54, X54, e54, st54⟩ := getS2 X51 hx hZ hown (host := "") (Or.inl (hw _ (List.mem_of_getElem? (i := 22) rfl))) Via.refl e51 ((ST.2.2.2.2.2.2.2.2.2.1).ext f53.2) (g := (mkF m 65 #[.val (.int x0), .val (.int x1), .unset, .unset, .unset, .unset, .unset] [(.int (9 : Int32)), (.ref b5), (.ref b5)])) rfl (hb hby at_65)
  obtain ⟨cl55, Ar55, C55, S55, -, -⟩ := id V51
  obtain ⟨T56, h56, X56, e56, W56, st56⟩ := stR X54 hx hZ e54 Ar55 (j := (9 : Int32)) (inb_of S55 ⟨by decide, by decide⟩) rfl (Sto.ofV Ar55 C55 O5 (Ins.self ((EX 9 (by decide)).ext f53.2))) (g := (mkF m 68 #[.val (.int x0), .val (.int x1), .unset, .unset, .unset, .unset, .unset] [(.ref (w 9)), (.int (9 : Int32)), (.ref b5), (.ref b5)])) rfl rfl (hb hby at_68)
  have N56 := Fr.snoc X56 N51 ge_b5
  have f57 : n0 ≤ h56.size := Nat.le_trans f52 (Keep.of_wr W56).1
  have f58 : Old Z n0 h56 := f53.wr W56 ge_b5
  have V56 : Pre Z h56 b5 k5 (.object "com/example/lean_broker/leanbroker/protocol/ApiKey") (19 : Int32) 10 (fun i => .ref (w i)) := V51.push W56 rfl (by decide) rfl
  obtain ⟨T59, X59, e59, st59⟩ := getS2 X56 hx hZ hown (host := "") (Or.inl (hw _ (List.mem_of_getElem? (i := 24) rfl))) Via.refl e56 ((ST.2.2.2.2.2.2.2.2.2.2.1).ext f58.2) (g := (mkF m 72 #[.val (.int x0), .val (.int x1), .unset, .unset, .unset, .unset, .unset] [(.int (10 : Int32)), (.ref b5), (.ref b5)])) rfl (hb hby at_72)
  obtain ⟨cl60, Ar60, C60, S60, -, -⟩ := id V56
  obtain ⟨T61, h61, X61, e61, W61, st61⟩ := stR X59 hx hZ e59 Ar60 (j := (10 : Int32)) (inb_of S60 ⟨by decide, by decide⟩) rfl (Sto.ofV Ar60 C60 O5 (Ins.self ((EX 10 (by decide)).ext f58.2))) (g := (mkF m 75 #[.val (.int x0), .val (.int x1), .unset, .unset, .unset, .unset, .unset] [(.ref (w 10)), (.int (10 : Int32)), (.ref b5), (.ref b5)])) rfl rfl (hb hby at_75)
  have N61 := Fr.snoc X61 N56 ge_b5
  have f62 : n0 ≤ h61.size := Nat.le_trans f57 (Keep.of_wr W61).1
  have f63 : Old Z n0 h61 := f58.wr W61 ge_b5
  have V61 : Pre Z h61 b5 k5 (.object "com/example/lean_broker/leanbroker/protocol/ApiKey") (19 : Int32) 11 (fun i => .ref (w i)) := V56.push W61 rfl (by decide) rfl
  obtain ⟨T64, X64, e64, st64⟩ := getS2 X61 hx hZ hown (host := "") (Or.inl (hw _ (List.mem_of_getElem? (i := 26) rfl))) Via.refl e61 ((ST.2.2.2.2.2.2.2.2.2.2.2.1).ext f63.2) (g := (mkF m 79 #[.val (.int x0), .val (.int x1), .unset, .unset, .unset, .unset, .unset] [(.int (11 : Int32)), (.ref b5), (.ref b5)])) rfl (hb hby at_79)
  obtain ⟨cl65, Ar65, C65, S65, -, -⟩ := id V61
  obtain ⟨T66, h66, X66, e66, W66, st66⟩ := stR X64 hx hZ e64 Ar65 (j := (11 : Int32)) (inb_of S65 ⟨by decide, by decide⟩) rfl (Sto.ofV Ar65 C65 O5 (Ins.self ((EX 11 (by decide)).ext f63.2))) (g := (mkF m 82 #[.val (.int x0), .val (.int x1), .unset, .unset, .unset, .unset, .unset] [(.ref (w 11)), (.int (11 : Int32)), (.ref b5), (.ref b5)])) rfl rfl (hb hby at_82)
  have N66 := Fr.snoc X66 N61 ge_b5
  have f67 : n0 ≤ h66.size := Nat.le_trans f62 (Keep.of_wr W66).1
  have f68 : Old Z n0 h66 := f63.wr W66 ge_b5
  have V66 : Pre Z h66 b5 k5 (.object "com/example/lean_broker/leanbroker/protocol/ApiKey") (19 : Int32) 12 (fun i => .ref (w i)) := V61.push W66 rfl (by decide) rfl
  obtain ⟨T69, X69, e69, st69⟩ := getS2 X66 hx hZ hown (host := "") (Or.inl (hw _ (List.mem_of_getElem? (i := 28) rfl))) Via.refl e66 ((ST.2.2.2.2.2.2.2.2.2.2.2.2.1).ext f68.2) (g := (mkF m 86 #[.val (.int x0), .val (.int x1), .unset, .unset, .unset, .unset, .unset] [(.int (12 : Int32)), (.ref b5), (.ref b5)])) rfl (hb hby at_86)
  obtain ⟨cl70, Ar70, C70, S70, -, -⟩ := id V66
  obtain ⟨T71, h71, X71, e71, W71, st71⟩ := stR X69 hx hZ e69 Ar70 (j := (12 : Int32)) (inb_of S70 ⟨by decide, by decide⟩) rfl (Sto.ofV Ar70 C70 O5 (Ins.self ((EX 12 (by decide)).ext f68.2))) (g := (mkF m 89 #[.val (.int x0), .val (.int x1), .unset, .unset, .unset, .unset, .unset] [(.ref (w 12)), (.int (12 : Int32)), (.ref b5), (.ref b5)])) rfl rfl (hb hby at_89)
  have N71 := Fr.snoc X71 N66 ge_b5
  have f72 : n0 ≤ h71.size := Nat.le_trans f67 (Keep.of_wr W71).1
  have f73 : Old Z n0 h71 := f68.wr W71 ge_b5
  have V71 : Pre Z h71 b5 k5 (.object "com/example/lean_broker/leanbroker/protocol/ApiKey") (19 : Int32) 13 (fun i => .ref (w i)) := V66.push W71 rfl (by decide) rfl
  obtain ⟨T74, X74, e74, st74⟩ := getS2 X71 hx hZ hown (host := "") (Or.inl (hw _ (List.mem_of_getElem? (i := 30) rfl))) Via.refl e71 ((ST.2.2.2.2.2.2.2.2.2.2.2.2.2.1).ext f73.2) (g := (mkF m 93 #[.val (.int x0), .val (.int x1), .unset, .unset, .unset, .unset, .unset] [(.int (13 : Int32)), (.ref b5), (.ref b5)])) rfl (hb hby at_93)
  obtain ⟨cl75, Ar75, C75, S75, -, -⟩ := id V71
  obtain ⟨T76, h76, X76, e76, W76, st76⟩ := stR X74 hx hZ e74 Ar75 (j := (13 : Int32)) (inb_of S75 ⟨by decide, by decide⟩) rfl (Sto.ofV Ar75 C75 O5 (Ins.self ((EX 13 (by decide)).ext f73.2))) (g := (mkF m 96 #[.val (.int x0), .val (.int x1), .unset, .unset, .unset, .unset, .unset] [(.ref (w 13)), (.int (13 : Int32)), (.ref b5), (.ref b5)])) rfl rfl (hb hby at_96)
  have N76 := Fr.snoc X76 N71 ge_b5
  have f77 : n0 ≤ h76.size := Nat.le_trans f72 (Keep.of_wr W76).1
  have f78 : Old Z n0 h76 := f73.wr W76 ge_b5
  have V76 : Pre Z h76 b5 k5 (.object "com/example/lean_broker/leanbroker/protocol/ApiKey") (19 : Int32) 14 (fun i => .ref (w i)) := V71.push W76 rfl (by decide) rfl
  obtain ⟨T79, X79, e79, st79⟩ := getS2 X76 hx hZ hown (host := "") (Or.inl (hw _ (List.mem_of_getElem? (i := 32) rfl))) Via.refl e76 ((ST.2.2.2.2.2.2.2.2.2.2.2.2.2.2.1).ext f78.2) (g := (mkF m 100 #[.val (.int x0), .val (.int x1), .unset, .unset, .unset, .unset, .unset] [(.int (14 : Int32)), (.ref b5), (.ref b5)])) rfl (hb hby at_100)
  obtain ⟨cl80, Ar80, C80, S80, -, -⟩ := id V76
  obtain ⟨T81, h81, X81, e81, W81, st81⟩ := stR X79 hx hZ e79 Ar80 (j := (14 : Int32)) (inb_of S80 ⟨by decide, by decide⟩) rfl (Sto.ofV Ar80 C80 O5 (Ins.self ((EX 14 (by decide)).ext f78.2))) (g := (mkF m 103 #[.val (.int x0), .val (.int x1), .unset, .unset, .unset, .unset, .unset] [(.ref (w 14)), (.int (14 : Int32)), (.ref b5), (.ref b5)])) rfl rfl (hb hby at_103)
  have N81 := Fr.snoc X81 N76 ge_b5
  have f82 : n0 ≤ h81.size := Nat.le_trans f77 (Keep.of_wr W81).1
  have f83 : Old Z n0 h81 := f78.wr W81 ge_b5
  have V81 : Pre Z h81 b5 k5 (.object "com/example/lean_broker/leanbroker/protocol/ApiKey") (19 : Int32) 15 (fun i => .ref (w i)) := V76.push W81 rfl (by decide) rfl
  have pre84 : ∀ t, Steps p.tables e below (T81.setTop (mkF m 104 #[.val (.int x0), .val (.int x1), .unset, .unset, .unset, .unset, .unset] [(.ref b5)])) t → Steps p.tables e below (s₁.setTop (entryFrame m #[(.int x0), (.int x1)] maxLocals)) t := fun tt kk => pre43 tt (by
    show Steps p.tables e below (T40.setTop (mkF m 49 #[.val (.int x0), .val (.int x1), .unset, .unset, .unset, .unset, .unset] [(.ref b5), (.ref b5)])) _
    refine XS.bipush X40.here hx rfl (hb hby at_49) ?_
    show Steps p.tables e below (T40.setTop (mkF m 51 #[.val (.int x0), .val (.int x1), .unset, .unset, .unset, .unset, .unset] [(.int (7 : Int32)), (.ref b5), (.ref b5)])) _
    refine st44 _ ?_
    show Steps p.tables e below (T44.setTop (mkF m 54 #[.val (.int x0), .val (.int x1), .unset, .unset, .unset, .unset, .unset] [(.ref (w 7)), (.int (7 : Int32)), (.ref b5), (.ref b5)])) _
    refine st46 _ ?_
    show Steps p.tables e below (T46.setTop (mkF m 55 #[.val (.int x0), .val (.int x1), .unset, .unset, .unset, .unset, .unset] [(.ref b5)])) _
    refine XS.dup X46.here hx rfl (hb hby at_55) rfl rfl ?_
    show Steps p.tables e below (T46.setTop (mkF m 56 #[.val (.int x0), .val (.int x1), .unset, .unset, .unset, .unset, .unset] [(.ref b5), (.ref b5)])) _
    refine XS.bipush X46.here hx rfl (hb hby at_56) ?_
    show Steps p.tables e below (T46.setTop (mkF m 58 #[.val (.int x0), .val (.int x1), .unset, .unset, .unset, .unset, .unset] [(.int (8 : Int32)), (.ref b5), (.ref b5)])) _
    refine st49 _ ?_
    show Steps p.tables e below (T49.setTop (mkF m 61 #[.val (.int x0), .val (.int x1), .unset, .unset, .unset, .unset, .unset] [(.ref (w 8)), (.int (8 : Int32)), (.ref b5), (.ref b5)])) _
    refine st51 _ ?_
    show Steps p.tables e below (T51.setTop (mkF m 62 #[.val (.int x0), .val (.int x1), .unset, .unset, .unset, .unset, .unset] [(.ref b5)])) _
    refine XS.dup X51.here hx rfl (hb hby at_62) rfl rfl ?_
    show Steps p.tables e below (T51.setTop (mkF m 63 #[.val (.int x0), .val (.int x1), .unset, .unset, .unset, .unset, .unset] [(.ref b5), (.ref b5)])) _
    refine XS.bipush X51.here hx rfl (hb hby at_63) ?_
    show Steps p.tables e below (T51.setTop (mkF m 65 #[.val (.int x0), .val (.int x1), .unset, .unset, .unset, .unset, .unset] [(.int (9 : Int32)), (.ref b5), (.ref b5)])) _
    refine st54 _ ?_
    show Steps p.tables e below (T54.setTop (mkF m 68 #[.val (.int x0), .val (.int x1), .unset, .unset, .unset, .unset, .unset] [(.ref (w 9)), (.int (9 : Int32)), (.ref b5), (.ref b5)])) _
    refine st56 _ ?_
    show Steps p.tables e below (T56.setTop (mkF m 69 #[.val (.int x0), .val (.int x1), .unset, .unset, .unset, .unset, .unset] [(.ref b5)])) _
    refine XS.dup X56.here hx rfl (hb hby at_69) rfl rfl ?_
    show Steps p.tables e below (T56.setTop (mkF m 70 #[.val (.int x0), .val (.int x1), .unset, .unset, .unset, .unset, .unset] [(.ref b5), (.ref b5)])) _
    refine XS.bipush X56.here hx rfl (hb hby at_70) ?_
    show Steps p.tables e below (T56.setTop (mkF m 72 #[.val (.int x0), .val (.int x1), .unset, .unset, .unset, .unset, .unset] [(.int (10 : Int32)), (.ref b5), (.ref b5)])) _
    refine st59 _ ?_
    show Steps p.tables e below (T59.setTop (mkF m 75 #[.val (.int x0), .val (.int x1), .unset, .unset, .unset, .unset, .unset] [(.ref (w 10)), (.int (10 : Int32)), (.ref b5), (.ref b5)])) _
    refine st61 _ ?_
    show Steps p.tables e below (T61.setTop (mkF m 76 #[.val (.int x0), .val (.int x1), .unset, .unset, .unset, .unset, .unset] [(.ref b5)])) _
    refine XS.dup X61.here hx rfl (hb hby at_76) rfl rfl ?_
    show Steps p.tables e below (T61.setTop (mkF m 77 #[.val (.int x0), .val (.int x1), .unset, .unset, .unset, .unset, .unset] [(.ref b5), (.ref b5)])) _
    refine XS.bipush X61.here hx rfl (hb hby at_77) ?_
    show Steps p.tables e below (T61.setTop (mkF m 79 #[.val (.int x0), .val (.int x1), .unset, .unset, .unset, .unset, .unset] [(.int (11 : Int32)), (.ref b5), (.ref b5)])) _
    refine st64 _ ?_
    show Steps p.tables e below (T64.setTop (mkF m 82 #[.val (.int x0), .val (.int x1), .unset, .unset, .unset, .unset, .unset] [(.ref (w 11)), (.int (11 : Int32)), (.ref b5), (.ref b5)])) _
    refine st66 _ ?_
    show Steps p.tables e below (T66.setTop (mkF m 83 #[.val (.int x0), .val (.int x1), .unset, .unset, .unset, .unset, .unset] [(.ref b5)])) _
    refine XS.dup X66.here hx rfl (hb hby at_83) rfl rfl ?_
    show Steps p.tables e below (T66.setTop (mkF m 84 #[.val (.int x0), .val (.int x1), .unset, .unset, .unset, .unset, .unset] [(.ref b5), (.ref b5)])) _
    refine XS.bipush X66.here hx rfl (hb hby at_84) ?_
    show Steps p.tables e below (T66.setTop (mkF m 86 #[.val (.int x0), .val (.int x1), .unset, .unset, .unset, .unset, .unset] [(.int (12 : Int32)), (.ref b5), (.ref b5)])) _
    refine st69 _ ?_
    show Steps p.tables e below (T69.setTop (mkF m 89 #[.val (.int x0), .val (.int x1), .unset, .unset, .unset, .unset, .unset] [(.ref (w 12)), (.int (12 : Int32)), (.ref b5), (.ref b5)])) _
    refine st71 _ ?_
    show Steps p.tables e below (T71.setTop (mkF m 90 #[.val (.int x0), .val (.int x1), .unset, .unset, .unset, .unset, .unset] [(.ref b5)])) _
    refine XS.dup X71.here hx rfl (hb hby at_90) rfl rfl ?_
    show Steps p.tables e below (T71.setTop (mkF m 91 #[.val (.int x0), .val (.int x1), .unset, .unset, .unset, .unset, .unset] [(.ref b5), (.ref b5)])) _
    refine XS.bipush X71.here hx rfl (hb hby at_91) ?_
    show Steps p.tables e below (T71.setTop (mkF m 93 #[.val (.int x0), .val (.int x1), .unset, .unset, .unset, .unset, .unset] [(.int (13 : Int32)), (.ref b5), (.ref b5)])) _
    refine st74 _ ?_
    show Steps p.tables e below (T74.setTop (mkF m 96 #[.val (.int x0), .val (.int x1), .unset, .unset, .unset, .unset, .unset] [(.ref (w 13)), (.int (13 : Int32)), (.ref b5), (.ref b5)])) _
    refine st76 _ ?_
    show Steps p.tables e below (T76.setTop (mkF m 97 #[.val (.int x0), .val (.int x1), .unset, .unset, .unset, .unset, .unset] [(.ref b5)])) _
    refine XS.dup X76.here hx rfl (hb hby at_97) rfl rfl ?_
    show Steps p.tables e below (T76.setTop (mkF m 98 #[.val (.int x0), .val (.int x1), .unset, .unset, .unset, .unset, .unset] [(.ref b5), (.ref b5)])) _
    refine XS.bipush X76.here hx rfl (hb hby at_98) ?_
    show Steps p.tables e below (T76.setTop (mkF m 100 #[.val (.int x0), .val (.int x1), .unset, .unset, .unset, .unset, .unset] [(.int (14 : Int32)), (.ref b5), (.ref b5)])) _
    refine st79 _ ?_
    show Steps p.tables e below (T79.setTop (mkF m 103 #[.val (.int x0), .val (.int x1), .unset, .unset, .unset, .unset, .unset] [(.ref (w 14)), (.int (14 : Int32)), (.ref b5), (.ref b5)])) _
    refine st81 _ ?_
    exact kk)
  obtain ⟨T85, X85, e85, st85⟩ := getS2 X81 hx hZ hown (host := "") (Or.inl (hw _ (List.mem_of_getElem? (i := 34) rfl))) Via.refl e81 ((ST.2.2.2.2.2.2.2.2.2.2.2.2.2.2.2.1).ext f83.2) (g := (mkF m 107 #[.val (.int x0), .val (.int x1), .unset, .unset, .unset, .unset, .unset] [(.int (15 : Int32)), (.ref b5), (.ref b5)])) rfl (hb hby at_107)
  obtain ⟨cl86, Ar86, C86, S86, -, -⟩ := id V81
  obtain ⟨T87, h87, X87, e87, W87, st87⟩ := stR X85 hx hZ e85 Ar86 (j := (15 : Int32)) (inb_of S86 ⟨by decide, by decide⟩) rfl (Sto.ofV Ar86 C86 O5 (Ins.self ((EX 15 (by decide)).ext f83.2))) (g := (mkF m 110 #[.val (.int x0), .val (.int x1), .unset, .unset, .unset, .unset, .unset] [(.ref (w 15)), (.int (15 : Int32)), (.ref b5), (.ref b5)])) rfl rfl (hb hby at_110)
  have N87 := Fr.snoc X87 N81 ge_b5
  have f88 : n0 ≤ h87.size := Nat.le_trans f82 (Keep.of_wr W87).1
  have f89 : Old Z n0 h87 := f83.wr W87 ge_b5
  have V87 : Pre Z h87 b5 k5 (.object "com/example/lean_broker/leanbroker/protocol/ApiKey") (19 : Int32) 16 (fun i => .ref (w i)) := V81.push W87 rfl (by decide) rfl
  obtain ⟨T90, X90, e90, st90⟩ := getS2 X87 hx hZ hown (host := "") (Or.inl (hw _ (List.mem_of_getElem? (i := 36) rfl))) Via.refl e87 ((ST.2.2.2.2.2.2.2.2.2.2.2.2.2.2.2.2.1).ext f89.2) (g := (mkF m 114 #[.val (.int x0), .val (.int x1), .unset, .unset, .unset, .unset, .unset] [(.int (16 : Int32)), (.ref b5), (.ref b5)])) rfl (hb hby at_114)
  obtain ⟨cl91, Ar91, C91, S91, -, -⟩ := id V87
  obtain ⟨T92, h92, X92, e92, W92, st92⟩ := stR X90 hx hZ e90 Ar91 (j := (16 : Int32)) (inb_of S91 ⟨by decide, by decide⟩) rfl (Sto.ofV Ar91 C91 O5 (Ins.self ((EX 16 (by decide)).ext f89.2))) (g := (mkF m 117 #[.val (.int x0), .val (.int x1), .unset, .unset, .unset, .unset, .unset] [(.ref (w 16)), (.int (16 : Int32)), (.ref b5), (.ref b5)])) rfl rfl (hb hby at_117)
  have N92 := Fr.snoc X92 N87 ge_b5
  have f93 : n0 ≤ h92.size := Nat.le_trans f88 (Keep.of_wr W92).1
  have f94 : Old Z n0 h92 := f89.wr W92 ge_b5
  have V92 : Pre Z h92 b5 k5 (.object "com/example/lean_broker/leanbroker/protocol/ApiKey") (19 : Int32) 17 (fun i => .ref (w i)) := V87.push W92 rfl (by decide) rfl
  obtain ⟨T95, X95, e95, st95⟩ := getS2 X92 hx hZ hown (host := "") (Or.inl (hw _ (List.mem_of_getElem? (i := 38) rfl))) Via.refl e92 ((ST.2.2.2.2.2.2.2.2.2.2.2.2.2.2.2.2.2.1).ext f94.2) (g := (mkF m 121 #[.val (.int x0), .val (.int x1), .unset, .unset, .unset, .unset, .unset] [(.int (17 : Int32)), (.ref b5), (.ref b5)])) rfl (hb hby at_121)
  obtain ⟨cl96, Ar96, C96, S96, -, -⟩ := id V92
  obtain ⟨T97, h97, X97, e97, W97, st97⟩ := stR X95 hx hZ e95 Ar96 (j := (17 : Int32)) (inb_of S96 ⟨by decide, by decide⟩) rfl (Sto.ofV Ar96 C96 O5 (Ins.self ((EX 17 (by decide)).ext f94.2))) (g := (mkF m 124 #[.val (.int x0), .val (.int x1), .unset, .unset, .unset, .unset, .unset] [(.ref (w 17)), (.int (17 : Int32)), (.ref b5), (.ref b5)])) rfl rfl (hb hby at_124)
  have N97 := Fr.snoc X97 N92 ge_b5
  have f98 : n0 ≤ h97.size := Nat.le_trans f93 (Keep.of_wr W97).1
  have f99 : Old Z n0 h97 := f94.wr W97 ge_b5
  have V97 : Pre Z h97 b5 k5 (.object "com/example/lean_broker/leanbroker/protocol/ApiKey") (19 : Int32) 18 (fun i => .ref (w i)) := V92.push W97 rfl (by decide) rfl
  obtain ⟨T100, X100, e100, st100⟩ := getS2 X97 hx hZ hown (host := "") (Or.inl (hw _ (List.mem_of_getElem? (i := 40) rfl))) Via.refl e97 ((ST.2.2.2.2.2.2.2.2.2.2.2.2.2.2.2.2.2.2).ext f99.2) (g := (mkF m 128 #[.val (.int x0), .val (.int x1), .unset, .unset, .unset, .unset, .unset] [(.int (18 : Int32)), (.ref b5), (.ref b5)])) rfl (hb hby at_128)
  obtain ⟨cl101, Ar101, C101, S101, -, -⟩ := id V97
  obtain ⟨T102, h102, X102, e102, W102, st102⟩ := stR X100 hx hZ e100 Ar101 (j := (18 : Int32)) (inb_of S101 ⟨by decide, by decide⟩) rfl (Sto.ofV Ar101 C101 O5 (Ins.self ((EX 18 (by decide)).ext f99.2))) (g := (mkF m 131 #[.val (.int x0), .val (.int x1), .unset, .unset, .unset, .unset, .unset] [(.ref (w 18)), (.int (18 : Int32)), (.ref b5), (.ref b5)])) rfl rfl (hb hby at_131)
  have N102 := Fr.snoc X102 N97 ge_b5
  have f103 : n0 ≤ h102.size := Nat.le_trans f98 (Keep.of_wr W102).1
  have f104 : Old Z n0 h102 := f99.wr W102 ge_b5
  have V102 : Pre Z h102 b5 k5 (.object "com/example/lean_broker/leanbroker/protocol/ApiKey") (19 : Int32) 19 (fun i => .ref (w i)) := V97.push W102 rfl (by decide) rfl
  obtain ⟨T105, h105, k105, X105, e105, E105, A105, st105⟩ := newP X102 hx hZ (hw _ (List.mem_of_getElem? (i := 42) rfl)) e102 (g := (mkF m 135 #[.val (.int x0), .val (.int x1), .val (.ref b5), .unset, .unset, .unset, .unset] [(.int (19 : Int32))])) rfl (hb hby at_135) rfl (by decide) (cap := 19) (by decide) (by decide) (by decide) (by decide)
  obtain ⟨b105, g105⟩ : ∃ z, z = h102.size := ⟨_, rfl⟩
  rw [← g105] at A105 st105
  have ne_b5_b105 : b5 ≠ b105 := Nat.ne_of_lt (Nat.lt_of_lt_of_le (V102).lt (Nat.le_of_eq g105.symm))
  have ge_b105 : n0 ≤ b105 := Nat.le_trans f103 (Nat.le_of_eq g105.symm)
  have f106 : n0 ≤ h105.size := Nat.le_trans f103 E105.1
  have f107 : Old Z n0 h105 := f104.ext E105
  have f108 : Pre Z h105 b5 k5 (.object "com/example/lean_broker/leanbroker/protocol/ApiKey") (19 : Int32) 19 (fun i => .ref (w i)) := V102.ext E105
  have V105 : Pre Z h105 b105 k105 .int (19 : Int32) 0 (fun i => .int (own_mx i)) := ⟨_, A105, rfl, sz_new _ _ _, by decide, fun i hi => absurd hi (Nat.not_lt_zero i)⟩
  obtain ⟨cl109, Ar109, C109, S109, -, -⟩ := id V105
  obtain ⟨T110, h110, X110, e110, W110, st110⟩ := stI X105 hx hZ e105 Ar109 (j := (0 : Int32)) (inb_of S109 ⟨by decide, by decide⟩) (g := (mkF m 140 #[.val (.int x0), .val (.int x1), .val (.ref b5), .unset, .unset, .unset, .unset] [(.int (3 : Int32)), (.int (0 : Int32)), (.ref b105), (.ref b105)])) rfl rfl (hb hby at_140)
  have N110 := Fr.snoc X110 N102 ge_b105
  have f111 : n0 ≤ h110.size := Nat.le_trans f106 (Keep.of_wr W110).1
  have f112 : Old Z n0 h110 := f107.wr W110 ge_b105
  have f113 : Pre Z h110 b5 k5 (.object "com/example/lean_broker/leanbroker/protocol/ApiKey") (19 : Int32) 19 (fun i => .ref (w i)) := f108.other W110 ne_b5_b105
  have V110 : Pre Z h110 b105 k105 .int (19 : Int32) 1 (fun i => .int (own_mx i)) := V105.push W110 rfl (by decide) rfl
  obtain ⟨cl114, Ar114, C114, S114, -, -⟩ := id V110
  obtain ⟨T115, h115, X115, e115, W115, st115⟩ := stI X110 hx hZ e110 Ar114 (j := (1 : Int32)) (inb_of S114 ⟨by decide, by decide⟩) (g := (mkF m 144 #[.val (.int x0), .val (.int x1), .val (.ref b5), .unset, .unset, .unset, .unset] [(.int (4 : Int32)), (.int (1 : Int32)), (.ref b105), (.ref b105)])) rfl rfl (hb hby at_144)
  have N115 := Fr.snoc X115 N110 ge_b105
  have f116 : n0 ≤ h115.size := Nat.le_trans f111 (Keep.of_wr W115).1
  have f117 : Old Z n0 h115 := f112.wr W115 ge_b105
  have f118 : Pre Z h115 b5 k5 (.object "com/example/lean_broker/leanbroker/protocol/ApiKey") (19 : Int32) 19 (fun i => .ref (w i)) := f113.other W115 ne_b5_b105
  have V115 : Pre Z h115 b105 k105 .int (19 : Int32) 2 (fun i => .int (own_mx i)) := V110.push W115 rfl (by decide) rfl
  obtain ⟨cl119, Ar119, C119, S119, -, -⟩ := id V115
  obtain ⟨T120, h120, X120, e120, W120, st120⟩ := stI X115 hx hZ e115 Ar119 (j := (2 : Int32)) (inb_of S119 ⟨by decide, by decide⟩) (g := (mkF m 148 #[.val (.int x0), .val (.int x1), .val (.ref b5), .unset, .unset, .unset, .unset] [(.int (1 : Int32)), (.int (2 : Int32)), (.ref b105), (.ref b105)])) rfl rfl (hb hby at_148)
  have N120 := Fr.snoc X120 N115 ge_b105
  have f121 : n0 ≤ h120.size := Nat.le_trans f116 (Keep.of_wr W120).1
  have f122 : Old Z n0 h120 := f117.wr W120 ge_b105
  have f123 : Pre Z h120 b5 k5 (.object "com/example/lean_broker/leanbroker/protocol/ApiKey") (19 : Int32) 19 (fun i => .ref (w i)) := f118.other W120 ne_b5_b105
  have V120 : Pre Z h120 b105 k105 .int (19 : Int32) 3 (fun i => .int (own_mx i)) := V115.push W120 rfl (by decide) rfl
  have pre124 : ∀ t, Steps p.tables e below (T120.setTop (mkF m 149 #[.val (.int x0), .val (.int x1), .val (.ref b5), .unset, .unset, .unset, .unset] [(.ref b105)])) t → Steps p.tables e below (s₁.setTop (entryFrame m #[(.int x0), (.int x1)] maxLocals)) t := fun tt kk => pre84 tt (by
    show Steps p.tables e below (T81.setTop (mkF m 104 #[.val (.int x0), .val (.int x1), .unset, .unset, .unset, .unset, .unset] [(.ref b5)])) _
    refine XS.dup X81.here hx rfl (hb hby at_104) rfl rfl ?_
    show Steps p.tables e below (T81.setTop (mkF m 105 #[.val (.int x0), .val (.int x1), .unset, .unset, .unset, .unset, .unset] [(.ref b5), (.ref b5)])) _
    refine XS.bipush X81.here hx rfl (hb hby at_105) ?_
    show Steps p.tables e below (T81.setTop (mkF m 107 #[.val (.int x0), .val (.int x1), .unset, .unset, .unset, .unset, .unset] [(.int (15 : Int32)), (.ref b5), (.ref b5)])) _
    refine st85 _ ?_
    show Steps p.tables e below (T85.setTop (mkF m 110 #[.val (.int x0), .val (.int x1), .unset, .unset, .unset, .unset, .unset] [(.ref (w 15)), (.int (15 : Int32)), (.ref b5), (.ref b5)])) _
    refine st87 _ ?_
    show Steps p.tables e below (T87.setTop (mkF m 111 #[.val (.int x0), .val (.int x1), .unset, .unset, .unset, .unset, .unset] [(.ref b5)])) _
    refine XS.dup X87.here hx rfl (hb hby at_111) rfl rfl ?_
    show Steps p.tables e below (T87.setTop (mkF m 112 #[.val (.int x0), .val (.int x1), .unset, .unset, .unset, .unset, .unset] [(.ref b5), (.ref b5)])) _
    refine XS.bipush X87.here hx rfl (hb hby at_112) ?_
    show Steps p.tables e below (T87.setTop (mkF m 114 #[.val (.int x0), .val (.int x1), .unset, .unset, .unset, .unset, .unset] [(.int (16 : Int32)), (.ref b5), (.ref b5)])) _
    refine st90 _ ?_
    show Steps p.tables e below (T90.setTop (mkF m 117 #[.val (.int x0), .val (.int x1), .unset, .unset, .unset, .unset, .unset] [(.ref (w 16)), (.int (16 : Int32)), (.ref b5), (.ref b5)])) _
    refine st92 _ ?_
    show Steps p.tables e below (T92.setTop (mkF m 118 #[.val (.int x0), .val (.int x1), .unset, .unset, .unset, .unset, .unset] [(.ref b5)])) _
    refine XS.dup X92.here hx rfl (hb hby at_118) rfl rfl ?_
    show Steps p.tables e below (T92.setTop (mkF m 119 #[.val (.int x0), .val (.int x1), .unset, .unset, .unset, .unset, .unset] [(.ref b5), (.ref b5)])) _
    refine XS.bipush X92.here hx rfl (hb hby at_119) ?_
    show Steps p.tables e below (T92.setTop (mkF m 121 #[.val (.int x0), .val (.int x1), .unset, .unset, .unset, .unset, .unset] [(.int (17 : Int32)), (.ref b5), (.ref b5)])) _
    refine st95 _ ?_
    show Steps p.tables e below (T95.setTop (mkF m 124 #[.val (.int x0), .val (.int x1), .unset, .unset, .unset, .unset, .unset] [(.ref (w 17)), (.int (17 : Int32)), (.ref b5), (.ref b5)])) _
    refine st97 _ ?_
    show Steps p.tables e below (T97.setTop (mkF m 125 #[.val (.int x0), .val (.int x1), .unset, .unset, .unset, .unset, .unset] [(.ref b5)])) _
    refine XS.dup X97.here hx rfl (hb hby at_125) rfl rfl ?_
    show Steps p.tables e below (T97.setTop (mkF m 126 #[.val (.int x0), .val (.int x1), .unset, .unset, .unset, .unset, .unset] [(.ref b5), (.ref b5)])) _
    refine XS.bipush X97.here hx rfl (hb hby at_126) ?_
    show Steps p.tables e below (T97.setTop (mkF m 128 #[.val (.int x0), .val (.int x1), .unset, .unset, .unset, .unset, .unset] [(.int (18 : Int32)), (.ref b5), (.ref b5)])) _
    refine st100 _ ?_
    show Steps p.tables e below (T100.setTop (mkF m 131 #[.val (.int x0), .val (.int x1), .unset, .unset, .unset, .unset, .unset] [(.ref (w 18)), (.int (18 : Int32)), (.ref b5), (.ref b5)])) _
    refine st102 _ ?_
    show Steps p.tables e below (T102.setTop (mkF m 132 #[.val (.int x0), .val (.int x1), .unset, .unset, .unset, .unset, .unset] [(.ref b5)])) _
    refine XS.astoreN X102.here hx rfl (hb hby at_132) rfl rfl (l' := #[.val (.int x0), .val (.int x1), .val (.ref b5), .unset, .unset, .unset, .unset]) rfl ?_
    show Steps p.tables e below (T102.setTop (mkF m 133 #[.val (.int x0), .val (.int x1), .val (.ref b5), .unset, .unset, .unset, .unset] [])) _
    refine XS.bipush X102.here hx rfl (hb hby at_133) ?_
    show Steps p.tables e below (T102.setTop (mkF m 135 #[.val (.int x0), .val (.int x1), .val (.ref b5), .unset, .unset, .unset, .unset] [(.int (19 : Int32))])) _
    refine st105 _ ?_
    show Steps p.tables e below (T105.setTop (mkF m 137 #[.val (.int x0), .val (.int x1), .val (.ref b5), .unset, .unset, .unset, .unset] [(.ref b105)])) _
    refine XS.dup X105.here hx rfl (hb hby at_137) rfl rfl ?_
    show Steps p.tables e below (T105.setTop (mkF m 138 #[.val (.int x0), .val (.int x1), .val (.ref b5), .unset, .unset, .unset, .unset] [(.ref b105), (.ref b105)])) _
    refine XS.iconst X105.here hx rfl (hb hby at_138) ?_
    show Steps p.tables e below (T105.setTop (mkF m 139 #[.val (.int x0), .val (.int x1), .val (.ref b5), .unset, .unset, .unset, .unset] [(.int (0 : Int32)), (.ref b105), (.ref b105)])) _
    refine XS.iconst X105.here hx rfl (hb hby at_139) ?_
    show Steps p.tables e below (T105.setTop (mkF m 140 #[.val (.int x0), .val (.int x1), .val (.ref b5), .unset, .unset, .unset, .unset] [(.int (3 : Int32)), (.int (0 : Int32)), (.ref b105), (.ref b105)])) _
    refine st110 _ ?_
    show Steps p.tables e below (T110.setTop (mkF m 141 #[.val (.int x0), .val (.int x1), .val (.ref b5), .unset, .unset, .unset, .unset] [(.ref b105)])) _
    refine XS.dup X110.here hx rfl (hb hby at_141) rfl rfl ?_
    show Steps p.tables e below (T110.setTop (mkF m 142 #[.val (.int x0), .val (.int x1), .val (.ref b5), .unset, .unset, .unset, .unset] [(.ref b105), (.ref b105)])) _
    refine XS.iconst X110.here hx rfl (hb hby at_142) ?_
    show Steps p.tables e below (T110.setTop (mkF m 143 #[.val (.int x0), .val (.int x1), .val (.ref b5), .unset, .unset, .unset, .unset] [(.int (1 : Int32)), (.ref b105), (.ref b105)])) _
    refine XS.iconst X110.here hx rfl (hb hby at_143) ?_
    show Steps p.tables e below (T110.setTop (mkF m 144 #[.val (.int x0), .val (.int x1), .val (.ref b5), .unset, .unset, .unset, .unset] [(.int (4 : Int32)), (.int (1 : Int32)), (.ref b105), (.ref b105)])) _
    refine st115 _ ?_
    show Steps p.tables e below (T115.setTop (mkF m 145 #[.val (.int x0), .val (.int x1), .val (.ref b5), .unset, .unset, .unset, .unset] [(.ref b105)])) _
    refine XS.dup X115.here hx rfl (hb hby at_145) rfl rfl ?_
    show Steps p.tables e below (T115.setTop (mkF m 146 #[.val (.int x0), .val (.int x1), .val (.ref b5), .unset, .unset, .unset, .unset] [(.ref b105), (.ref b105)])) _
    refine XS.iconst X115.here hx rfl (hb hby at_146) ?_
    show Steps p.tables e below (T115.setTop (mkF m 147 #[.val (.int x0), .val (.int x1), .val (.ref b5), .unset, .unset, .unset, .unset] [(.int (2 : Int32)), (.ref b105), (.ref b105)])) _
    refine XS.iconst X115.here hx rfl (hb hby at_147) ?_
    show Steps p.tables e below (T115.setTop (mkF m 148 #[.val (.int x0), .val (.int x1), .val (.ref b5), .unset, .unset, .unset, .unset] [(.int (1 : Int32)), (.int (2 : Int32)), (.ref b105), (.ref b105)])) _
    refine st120 _ ?_
    exact kk)
  obtain ⟨cl125, Ar125, C125, S125, -, -⟩ := id V120
  obtain ⟨T126, h126, X126, e126, W126, st126⟩ := stI X120 hx hZ e120 Ar125 (j := (3 : Int32)) (inb_of S125 ⟨by decide, by decide⟩) (g := (mkF m 152 #[.val (.int x0), .val (.int x1), .val (.ref b5), .unset, .unset, .unset, .unset] [(.int (4 : Int32)), (.int (3 : Int32)), (.ref b105), (.ref b105)])) rfl rfl (hb hby at_152)
  have N126 := Fr.snoc X126 N120 ge_b105
  have f127 : n0 ≤ h126.size := Nat.le_trans f121 (Keep.of_wr W126).1
  have f128 : Old Z n0 h126 := f122.wr W126 ge_b105
  have f129 : Pre Z h126 b5 k5 (.object "com/example/lean_broker/leanbroker/protocol/ApiKey") (19 : Int32) 19 (fun i => .ref (w i)) := f123.other W126 ne_b5_b105
  have V126 : Pre Z h126 b105 k105 .int (19 : Int32) 4 (fun i => .int (own_mx i)) := V120.push W126 rfl (by decide) rfl
  obtain ⟨cl130, Ar130, C130, S130, -, -⟩ := id V126
  obtain ⟨T131, h131, X131, e131, W131, st131⟩ := stI X126 hx hZ e126 Ar130 (j := (4 : Int32)) (inb_of S130 ⟨by decide, by decide⟩) (g := (mkF m 156 #[.val (.int x0), .val (.int x1), .val (.ref b5), .unset, .unset, .unset, .unset] [(.int (2 : Int32)), (.int (4 : Int32)), (.ref b105), (.ref b105)])) rfl rfl (hb hby at_156)
  have N131 := Fr.snoc X131 N126 ge_b105
  have f132 : n0 ≤ h131.size := Nat.le_trans f127 (Keep.of_wr W131).1
  have f133 : Old Z n0 h131 := f128.wr W131 ge_b105
  have f134 : Pre Z h131 b5 k5 (.object "com/example/lean_broker/leanbroker/protocol/ApiKey") (19 : Int32) 19 (fun i => .ref (w i)) := f129.other W131 ne_b5_b105
  have V131 : Pre Z h131 b105 k105 .int (19 : Int32) 5 (fun i => .int (own_mx i)) := V126.push W131 rfl (by decide) rfl
  obtain ⟨cl135, Ar135, C135, S135, -, -⟩ := id V131
  obtain ⟨T136, h136, X136, e136, W136, st136⟩ := stI X131 hx hZ e131 Ar135 (j := (5 : Int32)) (inb_of S135 ⟨by decide, by decide⟩) (g := (mkF m 160 #[.val (.int x0), .val (.int x1), .val (.ref b5), .unset, .unset, .unset, .unset] [(.int (2 : Int32)), (.int (5 : Int32)), (.ref b105), (.ref b105)])) rfl rfl (hb hby at_160)
  have N136 := Fr.snoc X136 N131 ge_b105
  have f137 : n0 ≤ h136.size := Nat.le_trans f132 (Keep.of_wr W136).1
  have f138 : Old Z n0 h136 := f133.wr W136 ge_b105
  have f139 : Pre Z h136 b5 k5 (.object "com/example/lean_broker/leanbroker/protocol/ApiKey") (19 : Int32) 19 (fun i => .ref (w i)) := f134.other W136 ne_b5_b105
  have V136 : Pre Z h136 b105 k105 .int (19 : Int32) 6 (fun i => .int (own_mx i)) := V131.push W136 rfl (by decide) rfl
  obtain ⟨cl140, Ar140, C140, S140, -, -⟩ := id V136
  obtain ⟨T141, h141, X141, e141, W141, st141⟩ := stI X136 hx hZ e136 Ar140 (j := (6 : Int32)) (inb_of S140 ⟨by decide, by decide⟩) (g := (mkF m 165 #[.val (.int x0), .val (.int x1), .val (.ref b5), .unset, .unset, .unset, .unset] [(.int (0 : Int32)), (.int (6 : Int32)), (.ref b105), (.ref b105)])) rfl rfl (hb hby at_165)
  have N141 := Fr.snoc X141 N136 ge_b105
  have f142 : n0 ≤ h141.size := Nat.le_trans f137 (Keep.of_wr W141).1
  have f143 : Old Z n0 h141 := f138.wr W141 ge_b105
  have f144 : Pre Z h141 b5 k5 (.object "com/example/lean_broker/leanbroker/protocol/ApiKey") (19 : Int32) 19 (fun i => .ref (w i)) := f139.other W141 ne_b5_b105
  have V141 : Pre Z h141 b105 k105 .int (19 : Int32) 7 (fun i => .int (own_mx i)) := V136.push W141 rfl (by decide) rfl
  obtain ⟨cl145, Ar145, C145, S145, -, -⟩ := id V141
  obtain ⟨T146, h146, X146, e146, W146, st146⟩ := stI X141 hx hZ e141 Ar145 (j := (7 : Int32)) (inb_of S145 ⟨by decide, by decide⟩) (g := (mkF m 170 #[.val (.int x0), .val (.int x1), .val (.ref b5), .unset, .unset, .unset, .unset] [(.int (2 : Int32)), (.int (7 : Int32)), (.ref b105), (.ref b105)])) rfl rfl (hb hby at_170)
  have N146 := Fr.snoc X146 N141 ge_b105
  have f147 : n0 ≤ h146.size := Nat.le_trans f142 (Keep.of_wr W146).1
  have f148 : Old Z n0 h146 := f143.wr W146 ge_b105
  have f149 : Pre Z h146 b5 k5 (.object "com/example/lean_broker/leanbroker/protocol/ApiKey") (19 : Int32) 19 (fun i => .ref (w i)) := f144.other W146 ne_b5_b105
  have V146 : Pre Z h146 b105 k105 .int (19 : Int32) 8 (fun i => .int (own_mx i)) := V141.push W146 rfl (by decide) rfl
  obtain ⟨cl150, Ar150, C150, S150, -, -⟩ := id V146
  obtain ⟨T151, h151, X151, e151, W151, st151⟩ := stI X146 hx hZ e146 Ar150 (j := (8 : Int32)) (inb_of S150 ⟨by decide, by decide⟩) (g := (mkF m 175 #[.val (.int x0), .val (.int x1), .val (.ref b5), .unset, .unset, .unset, .unset] [(.int (1 : Int32)), (.int (8 : Int32)), (.ref b105), (.ref b105)])) rfl rfl (hb hby at_175)
  have N151 := Fr.snoc X151 N146 ge_b105
  have f152 : n0 ≤ h151.size := Nat.le_trans f147 (Keep.of_wr W151).1
  have f153 : Old Z n0 h151 := f148.wr W151 ge_b105
  have f154 : Pre Z h151 b5 k5 (.object "com/example/lean_broker/leanbroker/protocol/ApiKey") (19 : Int32) 19 (fun i => .ref (w i)) := f149.other W151 ne_b5_b105
  have V151 : Pre Z h151 b105 k105 .int (19 : Int32) 9 (fun i => .int (own_mx i)) := V146.push W151 rfl (by decide) rfl
  obtain ⟨cl155, Ar155, C155, S155, -, -⟩ := id V151
  obtain ⟨T156, h156, X156, e156, W156, st156⟩ := stI X151 hx hZ e151 Ar155 (j := (9 : Int32)) (inb_of S155 ⟨by decide, by decide⟩) (g := (mkF m 180 #[.val (.int x0), .val (.int x1), .val (.ref b5), .unset, .unset, .unset, .unset] [(.int (1 : Int32)), (.int (9 : Int32)), (.ref b105), (.ref b105)])) rfl rfl (hb hby at_180)
  have N156 := Fr.snoc X156 N151 ge_b105
  have f157 : n0 ≤ h156.size := Nat.le_trans f152 (Keep.of_wr W156).1
  have f158 : Old Z n0 h156 := f153.wr W156 ge_b105
  have f159 : Pre Z h156 b5 k5 (.object "com/example/lean_broker/leanbroker/protocol/ApiKey") (19 : Int32) 19 (fun i => .ref (w i)) := f154.other W156 ne_b5_b105
  have V156 : Pre Z h156 b105 k105 .int (19 : Int32) 10 (fun i => .int (own_mx i)) := V151.push W156 rfl (by decide) rfl
  have pre160 : ∀ t, Steps p.tables e below (T156.setTop (mkF m 185 #[.val (.int x0), .val (.int x1), .val (.ref b5), .unset, .unset, .unset, .unset] [(.int (1 : Int32)), (.int (10 : Int32)), (.ref b105), (.ref b105)])) t → Steps p.tables e below (s₁.setTop (entryFrame m #[(.int x0), (.int x1)] maxLocals)) t := fun tt kk => pre124 tt (by
    show Steps p.tables e below (T120.setTop (mkF m 149 #[.val (.int x0), .val (.int x1), .val (.ref b5), .unset, .unset, .unset, .unset] [(.ref b105)])) _
    refine XS.dup X120.here hx rfl (hb hby at_149) rfl rfl ?_
    show Steps p.tables e below (T120.setTop (mkF m 150 #[.val (.int x0), .val (.int x1), .val (.ref b5), .unset, .unset, .unset, .unset] [(.ref b105), (.ref b105)])) _
    refine XS.iconst X120.here hx rfl (hb hby at_150) ?_
    show Steps p.tables e below (T120.setTop (mkF m 151 #[.val (.int x0), .val (.int x1), .val (.ref b5), .unset, .unset, .unset, .unset] [(.int (3 : Int32)), (.ref b105), (.ref b105)])) _
    refine XS.iconst X120.here hx rfl (hb hby at_151) ?_
    show Steps p.tables e below (T120.setTop (mkF m 152 #[.val (.int x0), .val (.int x1), .val (.ref b5), .unset, .unset, .unset, .unset] [(.int (4 : Int32)), (.int (3 : Int32)), (.ref b105), (.ref b105)])) _
    refine st126 _ ?_
    show Steps p.tables e below (T126.setTop (mkF m 153 #[.val (.int x0), .val (.int x1), .val (.ref b5), .unset, .unset, .unset, .unset] [(.ref b105)])) _
    refine XS.dup X126.here hx rfl (hb hby at_153) rfl rfl ?_
    show Steps p.tables e below (T126.setTop (mkF m 154 #[.val (.int x0), .val (.int x1), .val (.ref b5), .unset, .unset, .unset, .unset] [(.ref b105), (.ref b105)])) _
    refine XS.iconst X126.here hx rfl (hb hby at_154) ?_
    show Steps p.tables e below (T126.setTop (mkF m 155 #[.val (.int x0), .val (.int x1), .val (.ref b5), .unset, .unset, .unset, .unset] [(.int (4 : Int32)), (.ref b105), (.ref b105)])) _
    refine XS.iconst X126.here hx rfl (hb hby at_155) ?_
    show Steps p.tables e below (T126.setTop (mkF m 156 #[.val (.int x0), .val (.int x1), .val (.ref b5), .unset, .unset, .unset, .unset] [(.int (2 : Int32)), (.int (4 : Int32)), (.ref b105), (.ref b105)])) _
    refine st131 _ ?_
    show Steps p.tables e below (T131.setTop (mkF m 157 #[.val (.int x0), .val (.int x1), .val (.ref b5), .unset, .unset, .unset, .unset] [(.ref b105)])) _
    refine XS.dup X131.here hx rfl (hb hby at_157) rfl rfl ?_
    show Steps p.tables e below (T131.setTop (mkF m 158 #[.val (.int x0), .val (.int x1), .val (.ref b5), .unset, .unset, .unset, .unset] [(.ref b105), (.ref b105)])) _
    refine XS.iconst X131.here hx rfl (hb hby at_158) ?_
    show Steps p.tables e below (T131.setTop (mkF m 159 #[.val (.int x0), .val (.int x1), .val (.ref b5), .unset, .unset, .unset, .unset] [(.int (5 : Int32)), (.ref b105), (.ref b105)])) _
    refine XS.iconst X131.here hx rfl (hb hby at_159) ?_
    show Steps p.tables e below (T131.setTop (mkF m 160 #[.val (.int x0), .val (.int x1), .val (.ref b5), .unset, .unset, .unset, .unset] [(.int (2 : Int32)), (.int (5 : Int32)), (.ref b105), (.ref b105)])) _
    refine st136 _ ?_
    show Steps p.tables e below (T136.setTop (mkF m 161 #[.val (.int x0), .val (.int x1), .val (.ref b5), .unset, .unset, .unset, .unset] [(.ref b105)])) _
    refine XS.dup X136.here hx rfl (hb hby at_161) rfl rfl ?_
    show Steps p.tables e below (T136.setTop (mkF m 162 #[.val (.int x0), .val (.int x1), .val (.ref b5), .unset, .unset, .unset, .unset] [(.ref b105), (.ref b105)])) _
    refine XS.bipush X136.here hx rfl (hb hby at_162) ?_
    show Steps p.tables e below (T136.setTop (mkF m 164 #[.val (.int x0), .val (.int x1), .val (.ref b5), .unset, .unset, .unset, .unset] [(.int (6 : Int32)), (.ref b105), (.ref b105)])) _
    refine XS.iconst X136.here hx rfl (hb hby at_164) ?_
    show Steps p.tables e below (T136.setTop (mkF m 165 #[.val (.int x0), .val (.int x1), .val (.ref b5), .unset, .unset, .unset, .unset] [(.int (0 : Int32)), (.int (6 : Int32)), (.ref b105), (.ref b105)])) _
    refine st141 _ ?_
    show Steps p.tables e below (T141.setTop (mkF m 166 #[.val (.int x0), .val (.int x1), .val (.ref b5), .unset, .unset, .unset, .unset] [(.ref b105)])) _
    refine XS.dup X141.here hx rfl (hb hby at_166) rfl rfl ?_
    show Steps p.tables e below (T141.setTop (mkF m 167 #[.val (.int x0), .val (.int x1), .val (.ref b5), .unset, .unset, .unset, .unset] [(.ref b105), (.ref b105)])) _
    refine XS.bipush X141.here hx rfl (hb hby at_167) ?_
    show Steps p.tables e below (T141.setTop (mkF m 169 #[.val (.int x0), .val (.int x1), .val (.ref b5), .unset, .unset, .unset, .unset] [(.int (7 : Int32)), (.ref b105), (.ref b105)])) _
    refine XS.iconst X141.here hx rfl (hb hby at_169) ?_
    show Steps p.tables e below (T141.setTop (mkF m 170 #[.val (.int x0), .val (.int x1), .val (.ref b5), .unset, .unset, .unset, .unset] [(.int (2 : Int32)), (.int (7 : Int32)), (.ref b105), (.ref b105)])) _
    refine st146 _ ?_
    show Steps p.tables e below (T146.setTop (mkF m 171 #[.val (.int x0), .val (.int x1), .val (.ref b5), .unset, .unset, .unset, .unset] [(.ref b105)])) _
    refine XS.dup X146.here hx rfl (hb hby at_171) rfl rfl ?_
    show Steps p.tables e below (T146.setTop (mkF m 172 #[.val (.int x0), .val (.int x1), .val (.ref b5), .unset, .unset, .unset, .unset] [(.ref b105), (.ref b105)])) _
    refine XS.bipush X146.here hx rfl (hb hby at_172) ?_
    show Steps p.tables e below (T146.setTop (mkF m 174 #[.val (.int x0), .val (.int x1), .val (.ref b5), .unset, .unset, .unset, .unset] [(.int (8 : Int32)), (.ref b105), (.ref b105)])) _
    refine XS.iconst X146.here hx rfl (hb hby at_174) ?_
    show Steps p.tables e below (T146.setTop (mkF m 175 #[.val (.int x0), .val (.int x1), .val (.ref b5), .unset, .unset, .unset, .unset] [(.int (1 : Int32)), (.int (8 : Int32)), (.ref b105), (.ref b105)])) _
    refine st151 _ ?_
    show Steps p.tables e below (T151.setTop (mkF m 176 #[.val (.int x0), .val (.int x1), .val (.ref b5), .unset, .unset, .unset, .unset] [(.ref b105)])) _
    refine XS.dup X151.here hx rfl (hb hby at_176) rfl rfl ?_
    show Steps p.tables e below (T151.setTop (mkF m 177 #[.val (.int x0), .val (.int x1), .val (.ref b5), .unset, .unset, .unset, .unset] [(.ref b105), (.ref b105)])) _
    refine XS.bipush X151.here hx rfl (hb hby at_177) ?_
    show Steps p.tables e below (T151.setTop (mkF m 179 #[.val (.int x0), .val (.int x1), .val (.ref b5), .unset, .unset, .unset, .unset] [(.int (9 : Int32)), (.ref b105), (.ref b105)])) _
    refine XS.iconst X151.here hx rfl (hb hby at_179) ?_
    show Steps p.tables e below (T151.setTop (mkF m 180 #[.val (.int x0), .val (.int x1), .val (.ref b5), .unset, .unset, .unset, .unset] [(.int (1 : Int32)), (.int (9 : Int32)), (.ref b105), (.ref b105)])) _
    refine st156 _ ?_
    show Steps p.tables e below (T156.setTop (mkF m 181 #[.val (.int x0), .val (.int x1), .val (.ref b5), .unset, .unset, .unset, .unset] [(.ref b105)])) _
    refine XS.dup X156.here hx rfl (hb hby at_181) rfl rfl ?_
    show Steps p.tables e below (T156.setTop (mkF m 182 #[.val (.int x0), .val (.int x1), .val (.ref b5), .unset, .unset, .unset, .unset] [(.ref b105), (.ref b105)])) _
    refine XS.bipush X156.here hx rfl (hb hby at_182) ?_
    show Steps p.tables e below (T156.setTop (mkF m 184 #[.val (.int x0), .val (.int x1), .val (.ref b5), .unset, .unset, .unset, .unset] [(.int (10 : Int32)), (.ref b105), (.ref b105)])) _
    refine XS.iconst X156.here hx rfl (hb hby at_184) ?_
    exact kk)
  obtain ⟨cl161, Ar161, C161, S161, -, -⟩ := id V156
  obtain ⟨T162, h162, X162, e162, W162, st162⟩ := stI X156 hx hZ e156 Ar161 (j := (10 : Int32)) (inb_of S161 ⟨by decide, by decide⟩) (g := (mkF m 185 #[.val (.int x0), .val (.int x1), .val (.ref b5), .unset, .unset, .unset, .unset] [(.int (1 : Int32)), (.int (10 : Int32)), (.ref b105), (.ref b105)])) rfl rfl (hb hby at_185)
  have N162 := Fr.snoc X162 N156 ge_b105
  have f163 : n0 ≤ h162.size := Nat.le_trans f157 (Keep.of_wr W162).1
  have f164 : Old Z n0 h162 := f158.wr W162 ge_b105
  have f165 : Pre Z h162 b5 k5 (.object "com/example/lean_broker/leanbroker/protocol/ApiKey") (19 : Int32) 19 (fun i => .ref (w i)) := f159.other W162 ne_b5_b105
  have V162 : Pre Z h162 b105 k105 .int (19 : Int32) 11 (fun i => .int (own_mx i)) := V156.push W162 rfl (by decide) rfl
  obtain ⟨cl166, Ar166, C166, S166, -, -⟩ := id V162
  obtain ⟨T167, h167, X167, e167, W167, st167⟩ := stI X162 hx hZ e162 Ar166 (j := (11 : Int32)) (inb_of S166 ⟨by decide, by decide⟩) (g := (mkF m 190 #[.val (.int x0), .val (.int x1), .val (.ref b5), .unset, .unset, .unset, .unset] [(.int (0 : Int32)), (.int (11 : Int32)), (.ref b105), (.ref b105)])) rfl rfl (hb hby at_190)
  have N167 := Fr.snoc X167 N162 ge_b105
  have f168 : n0 ≤ h167.size := Nat.le_trans f163 (Keep.of_wr W167).1
  have f169 : Old Z n0 h167 := f164.wr W167 ge_b105
  have f170 : Pre Z h167 b5 k5 (.object "com/example/lean_broker/leanbroker/protocol/ApiKey") (19 : Int32) 19 (fun i => .ref (w i)) := f165.other W167 ne_b5_b105
  have V167 : Pre Z h167 b105 k105 .int (19 : Int32) 12 (fun i => .int (own_mx i)) := V162.push W167 rfl (by decide) rfl
  obtain ⟨cl171, Ar171, C171, S171, -, -⟩ := id V167
  obtain ⟨T172, h172, X172, e172, W172, st172⟩ := stI X167 hx hZ e167 Ar171 (j := (12 : Int32)) (inb_of S171 ⟨by decide, by decide⟩) (g := (mkF m 195 #[.val (.int x0), .val (.int x1), .val (.ref b5), .unset, .unset, .unset, .unset] [(.int (0 : Int32)), (.int (12 : Int32)), (.ref b105), (.ref b105)])) rfl rfl (hb hby at_195)
  have N172 := Fr.snoc X172 N167 ge_b105
  have f173 : n0 ≤ h172.size := Nat.le_trans f168 (Keep.of_wr W172).1
  have f174 : Old Z n0 h172 := f169.wr W172 ge_b105
  have f175 : Pre Z h172 b5 k5 (.object "com/example/lean_broker/leanbroker/protocol/ApiKey") (19 : Int32) 19 (fun i => .ref (w i)) := f170.other W172 ne_b5_b105
  have V172 : Pre Z h172 b105 k105 .int (19 : Int32) 13 (fun i => .int (own_mx i)) := V167.push W172 rfl (by decide) rfl
  obtain ⟨cl176, Ar176, C176, S176, -, -⟩ := id V172
  obtain ⟨T177, h177, X177, e177, W177, st177⟩ := stI X172 hx hZ e172 Ar176 (j := (13 : Int32)) (inb_of S176 ⟨by decide, by decide⟩) (g := (mkF m 200 #[.val (.int x0), .val (.int x1), .val (.ref b5), .unset, .unset, .unset, .unset] [(.int (0 : Int32)), (.int (13 : Int32)), (.ref b105), (.ref b105)])) rfl rfl (hb hby at_200)
  have N177 := Fr.snoc X177 N172 ge_b105
  have f178 : n0 ≤ h177.size := Nat.le_trans f173 (Keep.of_wr W177).1
  have f179 : Old Z n0 h177 := f174.wr W177 ge_b105
  have f180 : Pre Z h177 b5 k5 (.object "com/example/lean_broker/leanbroker/protocol/ApiKey") (19 : Int32) 19 (fun i => .ref (w i)) := f175.other W177 ne_b5_b105
  have V177 : Pre Z h177 b105 k105 .int (19 : Int32) 14 (fun i => .int (own_mx i)) := V172.push W177 rfl (by decide) rfl
  obtain ⟨cl181, Ar181, C181, S181, -, -⟩ := id V177
  obtain ⟨T182, h182, X182, e182, W182, st182⟩ := stI X177 hx hZ e177 Ar181 (j := (14 : Int32)) (inb_of S181 ⟨by decide, by decide⟩) (g := (mkF m 205 #[.val (.int x0), .val (.int x1), .val (.ref b5), .unset, .unset, .unset, .unset] [(.int (0 : Int32)), (.int (14 : Int32)), (.ref b105), (.ref b105)])) rfl rfl (hb hby at_205)
  have N182 := Fr.snoc X182 N177 ge_b105
  have f183 : n0 ≤ h182.size := Nat.le_trans f178 (Keep.of_wr W182).1
  have f184 : Old Z n0 h182 := f179.wr W182 ge_b105
  have f185 : Pre Z h182 b5 k5 (.object "com/example/lean_broker/leanbroker/protocol/ApiKey") (19 : Int32) 19 (fun i => .ref (w i)) := f180.other W182 ne_b5_b105
  have V182 : Pre Z h182 b105 k105 .int (19 : Int32) 15 (fun i => .int (own_mx i)) := V177.push W182 rfl (by decide) rfl
  obtain ⟨cl186, Ar186, C186, S186, -, -⟩ := id V182
  obtain ⟨T187, h187, X187, e187, W187, st187⟩ := stI X182 hx hZ e182 Ar186 (j := (15 : Int32)) (inb_of S186 ⟨by decide, by decide⟩) (g := (mkF m 210 #[.val (.int x0), .val (.int x1), .val (.ref b5), .unset, .unset, .unset, .unset] [(.int (0 : Int32)), (.int (15 : Int32)), (.ref b105), (.ref b105)])) rfl rfl (hb hby at_210)
  have N187 := Fr.snoc X187 N182 ge_b105
  have f188 : n0 ≤ h187.size := Nat.le_trans f183 (Keep.of_wr W187).1
  have f189 : Old Z n0 h187 := f184.wr W187 ge_b105
  have f190 : Pre Z h187 b5 k5 (.object "com/example/lean_broker/leanbroker/protocol/ApiKey") (19 : Int32) 19 (fun i => .ref (w i)) := f185.other W187 ne_b5_b105
  have V187 : Pre Z h187 b105 k105 .int (19 : Int32) 16 (fun i => .int (own_mx i)) := V182.push W187 rfl (by decide) rfl
  obtain ⟨cl191, Ar191, C191, S191, -, -⟩ := id V187
  obtain ⟨T192, h192, X192, e192, W192, st192⟩ := stI X187 hx hZ e187 Ar191 (j := (16 : Int32)) (inb_of S191 ⟨by decide, by decide⟩) (g := (mkF m 215 #[.val (.int x0), .val (.int x1), .val (.ref b5), .unset, .unset, .unset, .unset] [(.int (1 : Int32)), (.int (16 : Int32)), (.ref b105), (.ref b105)])) rfl rfl (hb hby at_215)
  have N192 := Fr.snoc X192 N187 ge_b105
  have f193 : n0 ≤ h192.size := Nat.le_trans f188 (Keep.of_wr W192).1
  have f194 : Old Z n0 h192 := f189.wr W192 ge_b105
  have f195 : Pre Z h192 b5 k5 (.object "com/example/lean_broker/leanbroker/protocol/ApiKey") (19 : Int32) 19 (fun i => .ref (w i)) := f190.other W192 ne_b5_b105
  have V192 : Pre Z h192 b105 k105 .int (19 : Int32) 17 (fun i => .int (own_mx i)) := V187.push W192 rfl (by decide) rfl
  obtain ⟨cl196, Ar196, C196, S196, -, -⟩ := id V192
  obtain ⟨T197, h197, X197, e197, W197, st197⟩ := stI X192 hx hZ e192 Ar196 (j := (17 : Int32)) (inb_of S196 ⟨by decide, by decide⟩) (g := (mkF m 220 #[.val (.int x0), .val (.int x1), .val (.ref b5), .unset, .unset, .unset, .unset] [(.int (2 : Int32)), (.int (17 : Int32)), (.ref b105), (.ref b105)])) rfl rfl (hb hby at_220)
  have N197 := Fr.snoc X197 N192 ge_b105
  have f198 : n0 ≤ h197.size := Nat.le_trans f193 (Keep.of_wr W197).1
  have f199 : Old Z n0 h197 := f194.wr W197 ge_b105
  have f200 : Pre Z h197 b5 k5 (.object "com/example/lean_broker/leanbroker/protocol/ApiKey") (19 : Int32) 19 (fun i => .ref (w i)) := f195.other W197 ne_b5_b105
  have V197 : Pre Z h197 b105 k105 .int (19 : Int32) 18 (fun i => .int (own_mx i)) := V192.push W197 rfl (by decide) rfl
  have pre201 : ∀ t, Steps p.tables e below (T197.setTop (mkF m 224 #[.val (.int x0), .val (.int x1), .val (.ref b5), .unset, .unset, .unset, .unset] [(.int (18 : Int32)), (.ref b105), (.ref b105)])) t → Steps p.tables e below (s₁.setTop (entryFrame m #[(.int x0), (.int x1)] maxLocals)) t := fun tt kk => pre160 tt (by
    show Steps p.tables e below (T156.setTop (mkF m 185 #[.val (.int x0), .val (.int x1), .val (.ref b5), .unset, .unset, .unset, .unset] [(.int (1 : Int32)), (.int (10 : Int32)), (.ref b105), (.ref b105)])) _
    refine st162 _ ?_
    show Steps p.tables e below (T162.setTop (mkF m 186 #[.val (.int x0), .val (.int x1), .val (.ref b5), .unset, .unset, .unset, .unset] [(.ref b105)])) _
    refine XS.dup X162.here hx rfl (hb hby at_186) rfl rfl ?_
    show Steps p.tables e below (T162.setTop (mkF m 187 #[.val (.int x0), .val (.int x1), .val (.ref b5), .unset, .unset, .unset, .unset] [(.ref b105), (.ref b105)])) _
    refine XS.bipush X162.here hx rfl (hb hby at_187) ?_
    show Steps p.tables e below (T162.setTop (mkF m 189 #[.val (.int x0), .val (.int x1), .val (.ref b5), .unset, .unset, .unset, .unset] [(.int (11 : Int32)), (.ref b105), (.ref b105)])) _
    refine XS.iconst X162.here hx rfl (hb hby at_189) ?_
    show Steps p.tables e below (T162.setTop (mkF m 190 #[.val (.int x0), .val (.int x1), .val (.ref b5), .unset, .unset, .unset, .unset] [(.int (0 : Int32)), (.int (11 : Int32)), (.ref b105), (.ref b105)])) _
    refine st167 _ ?_
    show Steps p.tables e below (T167.setTop (mkF m 191 #[.val (.int x0), .val (.int x1), .val (.ref b5), .unset, .unset, .unset, .unset] [(.ref b105)])) _
    refine XS.dup X167.here hx rfl (hb hby at_191) rfl rfl ?_
    show Steps p.tables e below (T167.setTop (mkF m 192 #[.val (.int x0), .val (.int x1), .val (.ref b5), .unset, .unset, .unset, .unset] [(.ref b105), (.ref b105)])) _
    refine XS.bipush X167.here hx rfl (hb hby at_192) ?_
    show Steps p.tables e below (T167.setTop (mkF m 194 #[.val (.int x0), .val (.int x1), .val (.ref b5), .unset, .unset, .unset, .unset] [(.int (12 : Int32)), (.ref b105), (.ref b105)])) _
    refine XS.iconst X167.here hx rfl (hb hby at_194) ?_
    show Steps p.tables e below (T167.setTop (mkF m 195 #[.val (.int x0), .val (.int x1), .val (.ref b5), .unset, .unset, .unset, .unset] [(.int (0 : Int32)), (.int (12 : Int32)), (.ref b105), (.ref b105)])) _
    refine st172 _ ?_
    show Steps p.tables e below (T172.setTop (mkF m 196 #[.val (.int x0), .val (.int x1), .val (.ref b5), .unset, .unset, .unset, .unset] [(.ref b105)])) _
    refine XS.dup X172.here hx rfl (hb hby at_196) rfl rfl ?_
    show Steps p.tables e below (T172.setTop (mkF m 197 #[.val (.int x0), .val (.int x1), .val (.ref b5), .unset, .unset, .unset, .unset] [(.ref b105), (.ref b105)])) _
    refine XS.bipush X172.here hx rfl (hb hby at_197) ?_
    show Steps p.tables e below (T172.setTop (mkF m 199 #[.val (.int x0), .val (.int x1), .val (.ref b5), .unset, .unset, .unset, .unset] [(.int (13 : Int32)), (.ref b105), (.ref b105)])) _
    refine XS.iconst X172.here hx rfl (hb hby at_199) ?_
    show Steps p.tables e below (T172.setTop (mkF m 200 #[.val (.int x0), .val (.int x1), .val (.ref b5), .unset, .unset, .unset, .unset] [(.int (0 : Int32)), (.int (13 : Int32)), (.ref b105), (.ref b105)])) _
    refine st177 _ ?_
    show Steps p.tables e below (T177.setTop (mkF m 201 #[.val (.int x0), .val (.int x1), .val (.ref b5), .unset, .unset, .unset, .unset] [(.ref b105)])) _
    refine XS.dup X177.here hx rfl (hb hby at_201) rfl rfl ?_
    show Steps p.tables e below (T177.setTop (mkF m 202 #[.val (.int x0), .val (.int x1), .val (.ref b5), .unset, .unset, .unset, .unset] [(.ref b105), (.ref b105)])) _
    refine XS.bipush X177.here hx rfl (hb hby at_202) ?_
    show Steps p.tables e below (T177.setTop (mkF m 204 #[.val (.int x0), .val (.int x1), .val (.ref b5), .unset, .unset, .unset, .unset] [(.int (14 : Int32)), (.ref b105), (.ref b105)])) _
    refine XS.iconst X177.here hx rfl (hb hby at_204) ?_
    show Steps p.tables e below (T177.setTop (mkF m 205 #[.val (.int x0), .val (.int x1), .val (.ref b5), .unset, .unset, .unset, .unset] [(.int (0 : Int32)), (.int (14 : Int32)), (.ref b105), (.ref b105)])) _
    refine st182 _ ?_
    show Steps p.tables e below (T182.setTop (mkF m 206 #[.val (.int x0), .val (.int x1), .val (.ref b5), .unset, .unset, .unset, .unset] [(.ref b105)])) _
    refine XS.dup X182.here hx rfl (hb hby at_206) rfl rfl ?_
    show Steps p.tables e below (T182.setTop (mkF m 207 #[.val (.int x0), .val (.int x1), .val (.ref b5), .unset, .unset, .unset, .unset] [(.ref b105), (.ref b105)])) _
    refine XS.bipush X182.here hx rfl (hb hby at_207) ?_
    show Steps p.tables e below (T182.setTop (mkF m 209 #[.val (.int x0), .val (.int x1), .val (.ref b5), .unset, .unset, .unset, .unset] [(.int (15 : Int32)), (.ref b105), (.ref b105)])) _
    refine XS.iconst X182.here hx rfl (hb hby at_209) ?_
    show Steps p.tables e below (T182.setTop (mkF m 210 #[.val (.int x0), .val (.int x1), .val (.ref b5), .unset, .unset, .unset, .unset] [(.int (0 : Int32)), (.int (15 : Int32)), (.ref b105), (.ref b105)])) _
    refine st187 _ ?_
    show Steps p.tables e below (T187.setTop (mkF m 211 #[.val (.int x0), .val (.int x1), .val (.ref b5), .unset, .unset, .unset, .unset] [(.ref b105)])) _
    refine XS.dup X187.here hx rfl (hb hby at_211) rfl rfl ?_
    show Steps p.tables e below (T187.setTop (mkF m 212 #[.val (.int x0), .val (.int x1), .val (.ref b5), .unset, .unset, .unset, .unset] [(.ref b105), (.ref b105)])) _
    refine XS.bipush X187.here hx rfl (hb hby at_212) ?_
    show Steps p.tables e below (T187.setTop (mkF m 214 #[.val (.int x0), .val (.int x1), .val (.ref b5), .unset, .unset, .unset, .unset] [(.int (16 : Int32)), (.ref b105), (.ref b105)])) _
    refine XS.iconst X187.here hx rfl (hb hby at_214) ?_
    show Steps p.tables e below (T187.setTop (mkF m 215 #[.val (.int x0), .val (.int x1), .val (.ref b5), .unset, .unset, .unset, .unset] [(.int (1 : Int32)), (.int (16 : Int32)), (.ref b105), (.ref b105)])) _
    refine st192 _ ?_
    show Steps p.tables e below (T192.setTop (mkF m 216 #[.val (.int x0), .val (.int x1), .val (.ref b5), .unset, .unset, .unset, .unset] [(.ref b105)])) _
    refine XS.dup X192.here hx rfl (hb hby at_216) rfl rfl ?_
    show Steps p.tables e below (T192.setTop (mkF m 217 #[.val (.int x0), .val (.int x1), .val (.ref b5), .unset, .unset, .unset, .unset] [(.ref b105), (.ref b105)])) _
    refine XS.bipush X192.here hx rfl (hb hby at_217) ?_
    show Steps p.tables e below (T192.setTop (mkF m 219 #[.val (.int x0), .val (.int x1), .val (.ref b5), .unset, .unset, .unset, .unset] [(.int (17 : Int32)), (.ref b105), (.ref b105)])) _
    refine XS.iconst X192.here hx rfl (hb hby at_219) ?_
    show Steps p.tables e below (T192.setTop (mkF m 220 #[.val (.int x0), .val (.int x1), .val (.ref b5), .unset, .unset, .unset, .unset] [(.int (2 : Int32)), (.int (17 : Int32)), (.ref b105), (.ref b105)])) _
    refine st197 _ ?_
    show Steps p.tables e below (T197.setTop (mkF m 221 #[.val (.int x0), .val (.int x1), .val (.ref b5), .unset, .unset, .unset, .unset] [(.ref b105)])) _
    refine XS.dup X197.here hx rfl (hb hby at_221) rfl rfl ?_
    show Steps p.tables e below (T197.setTop (mkF m 222 #[.val (.int x0), .val (.int x1), .val (.ref b5), .unset, .unset, .unset, .unset] [(.ref b105), (.ref b105)])) _
    refine XS.bipush X197.here hx rfl (hb hby at_222) ?_
    exact kk)
  obtain ⟨cl202, Ar202, C202, S202, -, -⟩ := id V197
  obtain ⟨T203, h203, X203, e203, W203, st203⟩ := stI X197 hx hZ e197 Ar202 (j := (18 : Int32)) (inb_of S202 ⟨by decide, by decide⟩) (g := (mkF m 225 #[.val (.int x0), .val (.int x1), .val (.ref b5), .unset, .unset, .unset, .unset] [(.int (1 : Int32)), (.int (18 : Int32)), (.ref b105), (.ref b105)])) rfl rfl (hb hby at_225)
  have N203 := Fr.snoc X203 N197 ge_b105
  have f204 : n0 ≤ h203.size := Nat.le_trans f198 (Keep.of_wr W203).1
  have f205 : Old Z n0 h203 := f199.wr W203 ge_b105
  have f206 : Pre Z h203 b5 k5 (.object "com/example/lean_broker/leanbroker/protocol/ApiKey") (19 : Int32) 19 (fun i => .ref (w i)) := f200.other W203 ne_b5_b105
  have V203 : Pre Z h203 b105 k105 .int (19 : Int32) 19 (fun i => .int (own_mx i)) := V197.push W203 rfl (by decide) rfl
  have pre207 : ∀ t, Steps p.tables e below (T203.setTop (mkF m 234 #[.val (.int x0), .val (.int x1), .val (.ref b5), .val (.ref b105), .unset, .unset, .unset] [(.int ((x0 &&& (2147483647 : Int32)) % (19 : Int32)))])) t → Steps p.tables e below (s₁.setTop (entryFrame m #[(.int x0), (.int x1)] maxLocals)) t := fun tt kk => pre201 tt (by
    show Steps p.tables e below (T197.setTop (mkF m 224 #[.val (.int x0), .val (.int x1), .val (.ref b5), .unset, .unset, .unset, .unset] [(.int (18 : Int32)), (.ref b105), (.ref b105)])) _
    refine XS.iconst X197.here hx rfl (hb hby at_224) ?_
    show Steps p.tables e below (T197.setTop (mkF m 225 #[.val (.int x0), .val (.int x1), .val (.ref b5), .unset, .unset, .unset, .unset] [(.int (1 : Int32)), (.int (18 : Int32)), (.ref b105), (.ref b105)])) _
    refine st203 _ ?_
    show Steps p.tables e below (T203.setTop (mkF m 226 #[.val (.int x0), .val (.int x1), .val (.ref b5), .unset, .unset, .unset, .unset] [(.ref b105)])) _
    refine XS.astoreN X203.here hx rfl (hb hby at_226) rfl rfl (l' := #[.val (.int x0), .val (.int x1), .val (.ref b5), .val (.ref b105), .unset, .unset, .unset]) rfl ?_
    show Steps p.tables e below (T203.setTop (mkF m 227 #[.val (.int x0), .val (.int x1), .val (.ref b5), .val (.ref b105), .unset, .unset, .unset] [])) _
    refine XS.iloadN X203.here hx rfl (hb hby at_227) rfl ?_
    show Steps p.tables e below (T203.setTop (mkF m 228 #[.val (.int x0), .val (.int x1), .val (.ref b5), .val (.ref b105), .unset, .unset, .unset] [(.int x0)])) _
    refine X203.ldcInt hx hown (mvT hZ (hw _ (List.mem_of_getElem? (i := 43) rfl))) (g := (mkF m 228 #[.val (.int x0), .val (.int x1), .val (.ref b5), .val (.ref b105), .unset, .unset, .unset] [(.int x0)])) rfl (hb hby at_228) _ ?_
    show Steps p.tables e below (T203.setTop (mkF m 230 #[.val (.int x0), .val (.int x1), .val (.ref b5), .val (.ref b105), .unset, .unset, .unset] [(.int (2147483647 : Int32)), (.int x0)])) _
    refine XS.iand X203.here hx rfl (hb hby at_230) rfl ?_
    show Steps p.tables e below (T203.setTop (mkF m 231 #[.val (.int x0), .val (.int x1), .val (.ref b5), .val (.ref b105), .unset, .unset, .unset] [(.int (x0 &&& (2147483647 : Int32)))])) _
    refine XS.bipush X203.here hx rfl (hb hby at_231) ?_
    show Steps p.tables e below (T203.setTop (mkF m 233 #[.val (.int x0), .val (.int x1), .val (.ref b5), .val (.ref b105), .unset, .unset, .unset] [(.int (19 : Int32)), (.int (x0 &&& (2147483647 : Int32)))])) _
    refine iremM X203 hx rfl (hb hby at_233) rfl (by decide) ?_
    exact kk)
  rw [ek] at pre207
  have pre208 : ∀ t, Steps p.tables e below (T203.setTop (mkF m 242 #[.val (.int x0), .val (.int x1), .val (.ref b5), .val (.ref b105), .val (.int k.toInt32), .val (.int (x1.toInt16.toInt32)), .unset] [(.int (x1.toInt16.toInt32))])) t → Steps p.tables e below (s₁.setTop (entryFrame m #[(.int x0), (.int x1)] maxLocals)) t := fun tt kk => pre207 tt (by
    show Steps p.tables e below (T203.setTop (mkF m 234 #[.val (.int x0), .val (.int x1), .val (.ref b5), .val (.ref b105), .unset, .unset, .unset] [(.int k.toInt32)])) _
    refine XS.istore X203.here hx rfl (hb hby at_234) rfl (l' := #[.val (.int x0), .val (.int x1), .val (.ref b5), .val (.ref b105), .val (.int k.toInt32), .unset, .unset]) rfl ?_
    show Steps p.tables e below (T203.setTop (mkF m 236 #[.val (.int x0), .val (.int x1), .val (.ref b5), .val (.ref b105), .val (.int k.toInt32), .unset, .unset] [])) _
    refine XS.iloadN X203.here hx rfl (hb hby at_236) rfl ?_
    show Steps p.tables e below (T203.setTop (mkF m 237 #[.val (.int x0), .val (.int x1), .val (.ref b5), .val (.ref b105), .val (.int k.toInt32), .unset, .unset] [(.int x1)])) _
    refine XS.i2s X203.here hx rfl (hb hby at_237) rfl ?_
    show Steps p.tables e below (T203.setTop (mkF m 238 #[.val (.int x0), .val (.int x1), .val (.ref b5), .val (.ref b105), .val (.int k.toInt32), .unset, .unset] [(.int (x1.toInt16.toInt32))])) _
    refine XS.istore X203.here hx rfl (hb hby at_238) rfl (l' := #[.val (.int x0), .val (.int x1), .val (.ref b5), .val (.ref b105), .val (.int k.toInt32), .val (.int (x1.toInt16.toInt32)), .unset]) rfl ?_
    show Steps p.tables e below (T203.setTop (mkF m 240 #[.val (.int x0), .val (.int x1), .val (.ref b5), .val (.ref b105), .val (.int k.toInt32), .val (.int (x1.toInt16.toInt32)), .unset] [])) _
    refine XS.iload X203.here hx rfl (hb hby at_240) rfl ?_
    exact kk)
  by_cases hc242 : (x1.toInt16.toInt32) < (0 : Int32)
  · obtain ⟨cl209, Ar209, -, S209, M209, H209⟩ := id f206
    obtain ⟨Lg210, X210, N210⟩ : ∃ Lg, Stand p l e room_1 s m #[(.int x0), (.int x1)] below meth c T203 Lg 2 38 ∧ Fr n0 Lg := ⟨_, X203, N203⟩
    obtain ⟨cq211, kq211, q211a, q211b, q211c⟩ := isOf hZ e203 ((EX k hk).ext f205.2)
    obtain ⟨vv211, _, ⟨T211, L211, k211, n211⟩, -, X211, ⟨Lc211, hQ211, l211, y211, z211⟩, st211⟩ := X210.virtualBack hx (y := (⟨"com/example/lean_broker/leanbroker/protocol/ApiKey", "serves", "(S)Z"⟩ : MethodName)) (z := (⟨"com/example/lean_broker/leanbroker/protocol/ApiKey", "serves", "(S)Z"⟩ : MethodName)) hown (mvT hZ (hw _ (List.mem_of_getElem? (i := 44) rfl))) (mvT hZ (hw _ (List.mem_of_getElem? (i := 45) rfl))) (notFace_of_selects (args := #[]) (mvT hZ (hw _ (List.mem_of_getElem? (i := 47) rfl)))) (mvT hZ (hw _ (List.mem_of_getElem? (i := 47) rfl))) (mvT hZ (hw _ (List.mem_of_getElem? (i := 46) rfl))) (by decide) (backOf (W := 0) (rm_sv l Z a0 hw [] (w k) (x1.toInt16.toInt32) (0 : Int32) (own_mx k) h203 n0 f204 ((FA k hk).ext f205.2) ((FB k hk).ext f205.2)) hZ (hw _ (List.mem_of_getElem? (i := 48) rfl)) (hw _ (List.mem_of_getElem? (i := 3) rfl)) (by decide) (by decide)) q211a q211c (g := (mkF m 267 #[.val (.int x0), .val (.int x1), .val (.ref b5), .val (.ref b105), .val (.int k.toInt32), .val (.int (x1.toInt16.toInt32)), .val (.int (0 : Int32))] [(.int (x1.toInt16.toInt32)), (.ref (w k))])) rfl (by rw [hml]; rfl) (Steps.refl _) (argsL := [(.int (x1.toInt16.toInt32))]) (rest := []) (lenOf own_pd_0 rfl) rfl (by show 2 * 0 + _ ≤ _; exact Nat.le_of_eq rfl) (hb hby at_267) (fun _ _ => ⟨rfl, e203, (by decide : 2 + 0 ≤ _), (by decide : 38 + 0 ≤ _)⟩)
    dsimp only [Pt.U, Pt.locs, Pt.cells, Pt.slots] at X211 l211 y211 z211 st211 hQ211
    subst l211 y211 z211
    rw [own_sv, if_pos hc242] at hQ211
    obtain ⟨rfl, N211q, e211⟩ := hQ211
    have N211 := Fr.app N210 N211q
    have pre212 : ∀ t, Steps p.tables e below (T211.setTop (mkF m 272 #[.val (.int x0), .val (.int x1), .val (.ref b5), .val (.ref b105), .val (.int k.toInt32), .val (.int (x1.toInt16.toInt32)), .val (.int (0 : Int32))] [(.int (0 : Int32)), (.int (0 : Int32))])) t → Steps p.tables e below (s₁.setTop (entryFrame m #[(.int x0), (.int x1)] maxLocals)) t := fun tt kk => pre208 tt (by
      show Steps p.tables e below (T203.setTop (mkF m 242 #[.val (.int x0), .val (.int x1), .val (.ref b5), .val (.ref b105), .val (.int k.toInt32), .val (.int (x1.toInt16.toInt32)), .unset] [(.int (x1.toInt16.toInt32))])) _
      refine XS.ifYes X203.here hx rfl (pc0 := 242) (pc' := 258) rfl (hb hby at_242) rfl ((if0 _ _).trans (tlt hc242).1) (by decide) (by decide) ?_
      show Steps p.tables e below (T203.setTop (mkF m 258 #[.val (.int x0), .val (.int x1), .val (.ref b5), .val (.ref b105), .val (.int k.toInt32), .val (.int (x1.toInt16.toInt32)), .unset] [])) _
      refine XS.iconst X203.here hx rfl (hb hby at_258) ?_
      show Steps p.tables e below (T203.setTop (mkF m 259 #[.val (.int x0), .val (.int x1), .val (.ref b5), .val (.ref b105), .val (.int k.toInt32), .val (.int (x1.toInt16.toInt32)), .unset] [(.int (0 : Int32))])) _
      refine XS.istore X203.here hx rfl (hb hby at_259) rfl (l' := #[.val (.int x0), .val (.int x1), .val (.ref b5), .val (.ref b105), .val (.int k.toInt32), .val (.int (x1.toInt16.toInt32)), .val (.int (0 : Int32))]) rfl ?_
      show Steps p.tables e below (T203.setTop (mkF m 261 #[.val (.int x0), .val (.int x1), .val (.ref b5), .val (.ref b105), .val (.int k.toInt32), .val (.int (x1.toInt16.toInt32)), .val (.int (0 : Int32))] [])) _
      refine XS.aloadN X203.here hx rfl (hb hby at_261) rfl rfl ?_
      show Steps p.tables e below (T203.setTop (mkF m 262 #[.val (.int x0), .val (.int x1), .val (.ref b5), .val (.ref b105), .val (.int k.toInt32), .val (.int (x1.toInt16.toInt32)), .val (.int (0 : Int32))] [(.ref b5)])) _
      refine XS.iload X203.here hx rfl (hb hby at_262) rfl ?_
      show Steps p.tables e below (T203.setTop (mkF m 264 #[.val (.int x0), .val (.int x1), .val (.ref b5), .val (.ref b105), .val (.int k.toInt32), .val (.int (x1.toInt16.toInt32)), .val (.int (0 : Int32))] [(.int k.toInt32), (.ref b5)])) _
      refine X203.aaload hx (j := k.toInt32) (v := (.ref (w k))) (by rw [e203]; exact Ar209.1) (State.isArrayOf_alike hZ.alike Ar209.2.1) rfl Ar209.2.2 (inb_of S209 ⟨hkn.1, hkl⟩) (by rw [hkn.2]; exact H209 k hk) (g := (mkF m 264 #[.val (.int x0), .val (.int x1), .val (.ref b5), .val (.ref b105), .val (.int k.toInt32), .val (.int (x1.toInt16.toInt32)), .val (.int (0 : Int32))] [(.int k.toInt32), (.ref b5)])) rfl rfl (hb hby at_264) _ ?_
      show Steps p.tables e below (T203.setTop (mkF m 265 #[.val (.int x0), .val (.int x1), .val (.ref b5), .val (.ref b105), .val (.int k.toInt32), .val (.int (x1.toInt16.toInt32)), .val (.int (0 : Int32))] [(.ref (w k))])) _
      refine XS.iload X203.here hx rfl (hb hby at_265) rfl ?_
      show Steps p.tables e below (T203.setTop (mkF m 267 #[.val (.int x0), .val (.int x1), .val (.ref b5), .val (.ref b105), .val (.int k.toInt32), .val (.int (x1.toInt16.toInt32)), .val (.int (0 : Int32))] [(.int (x1.toInt16.toInt32)), (.ref (w k))])) _
      refine st211.trans ?_
      show Steps p.tables e below (T211.setTop (mkF m 270 #[.val (.int x0), .val (.int x1), .val (.ref b5), .val (.ref b105), .val (.int k.toInt32), .val (.int (x1.toInt16.toInt32)), .val (.int (0 : Int32))] [(.int (0 : Int32))])) _
      refine XS.iload X211.here hx rfl (hb hby at_270) rfl ?_
      exact kk)
    obtain ⟨fs, hr, hrun, hended, hW, hsame⟩ := X211.leave (v := some (.int (1 : Int32))) (fun h => by rw [Bd.returns] at h; cases h)
    refine ⟨_, _, pre212 _ ?_, hrun, hended, _, _, rfl, ?_, ⟨_, rfl⟩, hW, hsame.mono (by decide) (by decide)⟩
    · show Steps p.tables e below (T211.setTop (mkF m 272 #[.val (.int x0), .val (.int x1), .val (.ref b5), .val (.ref b105), .val (.int k.toInt32), .val (.int (x1.toInt16.toInt32)), .val (.int (0 : Int32))] [(.int (0 : Int32)), (.int (0 : Int32))])) _
      refine XS.icmpNo X211.here hx rfl (hb hby at_272) rfl (teq (by decide : (0 : Int32) = (0 : Int32))).2 ?_
      show Steps p.tables e below (T211.setTop (mkF m 275 #[.val (.int x0), .val (.int x1), .val (.ref b5), .val (.ref b105), .val (.int k.toInt32), .val (.int (x1.toInt16.toInt32)), .val (.int (0 : Int32))] [])) _
      refine XS.iconst X211.here hx rfl (hb hby at_275) ?_
      show Steps p.tables e below (T211.setTop (mkF m 276 #[.val (.int x0), .val (.int x1), .val (.ref b5), .val (.ref b105), .val (.int k.toInt32), .val (.int (x1.toInt16.toInt32)), .val (.int (0 : Int32))] [(.int (1 : Int32))])) _
      refine XS.goto X211.here hx rfl (pc0 := 276) (pc' := 280) rfl (hb hby at_276) (by decide) (by decide) ?_
      show Steps p.tables e below (T211.setTop (mkF m 280 #[.val (.int x0), .val (.int x1), .val (.ref b5), .val (.ref b105), .val (.int k.toInt32), .val (.int (x1.toInt16.toInt32)), .val (.int (0 : Int32))] [(.int (1 : Int32))])) _
      exact retN X211 hx (t := .boolean) Bd.returns (by simp) (hb hby at_280) hr
    · exact ⟨rfl, N211⟩
  · obtain ⟨cl213, Ar213, -, S213, M213, H213⟩ := id V203
    have pre214 : ∀ t, Steps p.tables e below (T203.setTop (mkF m 251 #[.val (.int x0), .val (.int x1), .val (.ref b5), .val (.ref b105), .val (.int k.toInt32), .val (.int (x1.toInt16.toInt32)), .unset] [(.int (own_mx k)), (.int (x1.toInt16.toInt32))])) t → Steps p.tables e below (s₁.setTop (entryFrame m #[(.int x0), (.int x1)] maxLocals)) t := fun tt kk => pre208 tt (by
      show Steps p.tables e below (T203.setTop (mkF m 242 #[.val (.int x0), .val (.int x1), .val (.ref b5), .val (.ref b105), .val (.int k.toInt32), .val (.int (x1.toInt16.toInt32)), .unset] [(.int (x1.toInt16.toInt32))])) _
      refine XS.ifNo X203.here hx rfl (hb hby at_242) rfl ((if0 _ _).trans (flt hc242).1) ?_
      show Steps p.tables e below (T203.setTop (mkF m 245 #[.val (.int x0), .val (.int x1), .val (.ref b5), .val (.ref b105), .val (.int k.toInt32), .val (.int (x1.toInt16.toInt32)), .unset] [])) _
      refine XS.iload X203.here hx rfl (hb hby at_245) rfl ?_
      show Steps p.tables e below (T203.setTop (mkF m 247 #[.val (.int x0), .val (.int x1), .val (.ref b5), .val (.ref b105), .val (.int k.toInt32), .val (.int (x1.toInt16.toInt32)), .unset] [(.int (x1.toInt16.toInt32))])) _
      refine XS.aloadN X203.here hx rfl (hb hby at_247) rfl rfl ?_
      show Steps p.tables e below (T203.setTop (mkF m 248 #[.val (.int x0), .val (.int x1), .val (.ref b5), .val (.ref b105), .val (.int k.toInt32), .val (.int (x1.toInt16.toInt32)), .unset] [(.ref b105), (.int (x1.toInt16.toInt32))])) _
      refine XS.iload X203.here hx rfl (hb hby at_248) rfl ?_
      show Steps p.tables e below (T203.setTop (mkF m 250 #[.val (.int x0), .val (.int x1), .val (.ref b5), .val (.ref b105), .val (.int k.toInt32), .val (.int (x1.toInt16.toInt32)), .unset] [(.int k.toInt32), (.ref b105), (.int (x1.toInt16.toInt32))])) _
      refine X203.iaload hx (j := k.toInt32) (v := (.int (own_mx k))) (by rw [e203]; exact Ar213.1) (State.isArrayOf_alike hZ.alike Ar213.2.1) Ar213.2.2 (inb_of S213 ⟨hkn.1, hkl⟩) (by rw [hkn.2]; exact H213 k hk) (g := (mkF m 250 #[.val (.int x0), .val (.int x1), .val (.ref b5), .val (.ref b105), .val (.int k.toInt32), .val (.int (x1.toInt16.toInt32)), .unset] [(.int k.toInt32), (.ref b105), (.int (x1.toInt16.toInt32))])) rfl rfl (hb hby at_250) _ ?_
      exact kk)
    by_cases hc251 : (own_mx k) < (x1.toInt16.toInt32)
    · obtain ⟨cl215, Ar215, -, S215, M215, H215⟩ := id f206
      obtain ⟨Lg216, X216, N216⟩ : ∃ Lg, Stand p l e room_1 s m #[(.int x0), (.int x1)] below meth c T203 Lg 2 38 ∧ Fr n0 Lg := ⟨_, X203, N203⟩
      obtain ⟨cq217, kq217, q217a, q217b, q217c⟩ := isOf hZ e203 ((EX k hk).ext f205.2)
      obtain ⟨vv217, _, ⟨T217, L217, k217, n217⟩, -, X217, ⟨Lc217, hQ217, l217, y217, z217⟩, st217⟩ := X216.virtualBack hx (y := (⟨"com/example/lean_broker/leanbroker/protocol/ApiKey", "serves", "(S)Z"⟩ : MethodName)) (z := (⟨"com/example/lean_broker/leanbroker/protocol/ApiKey", "serves", "(S)Z"⟩ : MethodName)) hown (mvT hZ (hw _ (List.mem_of_getElem? (i := 44) rfl))) (mvT hZ (hw _ (List.mem_of_getElem? (i := 45) rfl))) (notFace_of_selects (args := #[]) (mvT hZ (hw _ (List.mem_of_getElem? (i := 47) rfl)))) (mvT hZ (hw _ (List.mem_of_getElem? (i := 47) rfl))) (mvT hZ (hw _ (List.mem_of_getElem? (i := 46) rfl))) (by decide) (backOf (W := 0) (rm_sv l Z a0 hw [] (w k) (x1.toInt16.toInt32) (0 : Int32) (own_mx k) h203 n0 f204 ((FA k hk).ext f205.2) ((FB k hk).ext f205.2)) hZ (hw _ (List.mem_of_getElem? (i := 48) rfl)) (hw _ (List.mem_of_getElem? (i := 3) rfl)) (by decide) (by decide)) q217a q217c (g := (mkF m 267 #[.val (.int x0), .val (.int x1), .val (.ref b5), .val (.ref b105), .val (.int k.toInt32), .val (.int (x1.toInt16.toInt32)), .val (.int (0 : Int32))] [(.int (x1.toInt16.toInt32)), (.ref (w k))])) rfl (by rw [hml]; rfl) (Steps.refl _) (argsL := [(.int (x1.toInt16.toInt32))]) (rest := []) (lenOf own_pd_0 rfl) rfl (by show 2 * 0 + _ ≤ _; exact Nat.le_of_eq rfl) (hb hby at_267) (fun _ _ => ⟨rfl, e203, (by decide : 2 + 0 ≤ _), (by decide : 38 + 0 ≤ _)⟩)
      dsimp only [Pt.U, Pt.locs, Pt.cells, Pt.slots] at X217 l217 y217 z217 st217 hQ217
      subst l217 y217 z217
      rw [own_sv, if_neg hc242, if_pos hc251] at hQ217
      obtain ⟨rfl, N217q, e217⟩ := hQ217
      have N217 := Fr.app N216 N217q
      have pre218 : ∀ t, Steps p.tables e below (T217.setTop (mkF m 272 #[.val (.int x0), .val (.int x1), .val (.ref b5), .val (.ref b105), .val (.int k.toInt32), .val (.int (x1.toInt16.toInt32)), .val (.int (0 : Int32))] [(.int (0 : Int32)), (.int (0 : Int32))])) t → Steps p.tables e below (s₁.setTop (entryFrame m #[(.int x0), (.int x1)] maxLocals)) t := fun tt kk => pre214 tt (by
        show Steps p.tables e below (T203.setTop (mkF m 251 #[.val (.int x0), .val (.int x1), .val (.ref b5), .val (.ref b105), .val (.int k.toInt32), .val (.int (x1.toInt16.toInt32)), .unset] [(.int (own_mx k)), (.int (x1.toInt16.toInt32))])) _
        refine XS.icmpYes X203.here hx rfl (pc0 := 251) (pc' := 258) rfl (hb hby at_251) rfl (tlt hc251).2.2.1 (by decide) (by decide) ?_
        show Steps p.tables e below (T203.setTop (mkF m 258 #[.val (.int x0), .val (.int x1), .val (.ref b5), .val (.ref b105), .val (.int k.toInt32), .val (.int (x1.toInt16.toInt32)), .unset] [])) _
        refine XS.iconst X203.here hx rfl (hb hby at_258) ?_
        show Steps p.tables e below (T203.setTop (mkF m 259 #[.val (.int x0), .val (.int x1), .val (.ref b5), .val (.ref b105), .val (.int k.toInt32), .val (.int (x1.toInt16.toInt32)), .unset] [(.int (0 : Int32))])) _
        refine XS.istore X203.here hx rfl (hb hby at_259) rfl (l' := #[.val (.int x0), .val (.int x1), .val (.ref b5), .val (.ref b105), .val (.int k.toInt32), .val (.int (x1.toInt16.toInt32)), .val (.int (0 : Int32))]) rfl ?_
        show Steps p.tables e below (T203.setTop (mkF m 261 #[.val (.int x0), .val (.int x1), .val (.ref b5), .val (.ref b105), .val (.int k.toInt32), .val (.int (x1.toInt16.toInt32)), .val (.int (0 : Int32))] [])) _
        refine XS.aloadN X203.here hx rfl (hb hby at_261) rfl rfl ?_
        show Steps p.tables e below (T203.setTop (mkF m 262 #[.val (.int x0), .val (.int x1), .val (.ref b5), .val (.ref b105), .val (.int k.toInt32), .val (.int (x1.toInt16.toInt32)), .val (.int (0 : Int32))] [(.ref b5)])) _
        refine XS.iload X203.here hx rfl (hb hby at_262) rfl ?_
        show Steps p.tables e below (T203.setTop (mkF m 264 #[.val (.int x0), .val (.int x1), .val (.ref b5), .val (.ref b105), .val (.int k.toInt32), .val (.int (x1.toInt16.toInt32)), .val (.int (0 : Int32))] [(.int k.toInt32), (.ref b5)])) _
        refine X203.aaload hx (j := k.toInt32) (v := (.ref (w k))) (by rw [e203]; exact Ar215.1) (State.isArrayOf_alike hZ.alike Ar215.2.1) rfl Ar215.2.2 (inb_of S215 ⟨hkn.1, hkl⟩) (by rw [hkn.2]; exact H215 k hk) (g := (mkF m 264 #[.val (.int x0), .val (.int x1), .val (.ref b5), .val (.ref b105), .val (.int k.toInt32), .val (.int (x1.toInt16.toInt32)), .val (.int (0 : Int32))] [(.int k.toInt32), (.ref b5)])) rfl rfl (hb hby at_264) _ ?_
        show Steps p.tables e below (T203.setTop (mkF m 265 #[.val (.int x0), .val (.int x1), .val (.ref b5), .val (.ref b105), .val (.int k.toInt32), .val (.int (x1.toInt16.toInt32)), .val (.int (0 : Int32))] [(.ref (w k))])) _
        refine XS.iload X203.here hx rfl (hb hby at_265) rfl ?_
        show Steps p.tables e below (T203.setTop (mkF m 267 #[.val (.int x0), .val (.int x1), .val (.ref b5), .val (.ref b105), .val (.int k.toInt32), .val (.int (x1.toInt16.toInt32)), .val (.int (0 : Int32))] [(.int (x1.toInt16.toInt32)), (.ref (w k))])) _
        refine st217.trans ?_
        show Steps p.tables e below (T217.setTop (mkF m 270 #[.val (.int x0), .val (.int x1), .val (.ref b5), .val (.ref b105), .val (.int k.toInt32), .val (.int (x1.toInt16.toInt32)), .val (.int (0 : Int32))] [(.int (0 : Int32))])) _
        refine XS.iload X217.here hx rfl (hb hby at_270) rfl ?_
        exact kk)
      obtain ⟨fs, hr, hrun, hended, hW, hsame⟩ := X217.leave (v := some (.int (1 : Int32))) (fun h => by rw [Bd.returns] at h; cases h)
      refine ⟨_, _, pre218 _ ?_, hrun, hended, _, _, rfl, ?_, ⟨_, rfl⟩, hW, hsame.mono (by decide) (by decide)⟩
      · show Steps p.tables e below (T217.setTop (mkF m 272 #[.val (.int x0), .val (.int x1), .val (.ref b5), .val (.ref b105), .val (.int k.toInt32), .val (.int (x1.toInt16.toInt32)), .val (.int (0 : Int32))] [(.int (0 : Int32)), (.int (0 : Int32))])) _
        refine XS.icmpNo X217.here hx rfl (hb hby at_272) rfl (teq (by decide : (0 : Int32) = (0 : Int32))).2 ?_
        show Steps p.tables e below (T217.setTop (mkF m 275 #[.val (.int x0), .val (.int x1), .val (.ref b5), .val (.ref b105), .val (.int k.toInt32), .val (.int (x1.toInt16.toInt32)), .val (.int (0 : Int32))] [])) _
        refine XS.iconst X217.here hx rfl (hb hby at_275) ?_
        show Steps p.tables e below (T217.setTop (mkF m 276 #[.val (.int x0), .val (.int x1), .val (.ref b5), .val (.ref b105), .val (.int k.toInt32), .val (.int (x1.toInt16.toInt32)), .val (.int (0 : Int32))] [(.int (1 : Int32))])) _
        refine XS.goto X217.here hx rfl (pc0 := 276) (pc' := 280) rfl (hb hby at_276) (by decide) (by decide) ?_
        show Steps p.tables e below (T217.setTop (mkF m 280 #[.val (.int x0), .val (.int x1), .val (.ref b5), .val (.ref b105), .val (.int k.toInt32), .val (.int (x1.toInt16.toInt32)), .val (.int (0 : Int32))] [(.int (1 : Int32))])) _
        exact retN X217 hx (t := .boolean) Bd.returns (by simp) (hb hby at_280) hr
      · exact ⟨rfl, N217⟩
    · obtain ⟨cl219, Ar219, -, S219, M219, H219⟩ := id f206
      obtain ⟨Lg220, X220, N220⟩ : ∃ Lg, Stand p l e room_1 s m #[(.int x0), (.int x1)] below meth c T203 Lg 2 38 ∧ Fr n0 Lg := ⟨_, X203, N203⟩
      obtain ⟨cq221, kq221, q221a, q221b, q221c⟩ := isOf hZ e203 ((EX k hk).ext f205.2)
      obtain ⟨vv221, _, ⟨T221, L221, k221, n221⟩, -, X221, ⟨Lc221, hQ221, l221, y221, z221⟩, st221⟩ := X220.virtualBack hx (y := (⟨"com/example/lean_broker/leanbroker/protocol/ApiKey", "serves", "(S)Z"⟩ : MethodName)) (z := (⟨"com/example/lean_broker/leanbroker/protocol/ApiKey", "serves", "(S)Z"⟩ : MethodName)) hown (mvT hZ (hw _ (List.mem_of_getElem? (i := 44) rfl))) (mvT hZ (hw _ (List.mem_of_getElem? (i := 45) rfl))) (notFace_of_selects (args := #[]) (mvT hZ (hw _ (List.mem_of_getElem? (i := 47) rfl)))) (mvT hZ (hw _ (List.mem_of_getElem? (i := 47) rfl))) (mvT hZ (hw _ (List.mem_of_getElem? (i := 46) rfl))) (by decide) (backOf (W := 0) (rm_sv l Z a0 hw [] (w k) (x1.toInt16.toInt32) (0 : Int32) (own_mx k) h203 n0 f204 ((FA k hk).ext f205.2) ((FB k hk).ext f205.2)) hZ (hw _ (List.mem_of_getElem? (i := 48) rfl)) (hw _ (List.mem_of_getElem? (i := 3) rfl)) (by decide) (by decide)) q221a q221c (g := (mkF m 267 #[.val (.int x0), .val (.int x1), .val (.ref b5), .val (.ref b105), .val (.int k.toInt32), .val (.int (x1.toInt16.toInt32)), .val (.int (1 : Int32))] [(.int (x1.toInt16.toInt32)), (.ref (w k))])) rfl (by rw [hml]; rfl) (Steps.refl _) (argsL := [(.int (x1.toInt16.toInt32))]) (rest := []) (lenOf own_pd_0 rfl) rfl (by show 2 * 0 + _ ≤ _; exact Nat.le_of_eq rfl) (hb hby at_267) (fun _ _ => ⟨rfl, e203, (by decide : 2 + 0 ≤ _), (by decide : 38 + 0 ≤ _)⟩)
      dsimp only [Pt.U, Pt.locs, Pt.cells, Pt.slots] at X221 l221 y221 z221 st221 hQ221
      subst l221 y221 z221
      rw [own_sv, if_neg hc242, if_neg hc251] at hQ221
      obtain ⟨rfl, N221q, e221⟩ := hQ221
      have N221 := Fr.app N220 N221q
      have pre222 : ∀ t, Steps p.tables e below (T221.setTop (mkF m 272 #[.val (.int x0), .val (.int x1), .val (.ref b5), .val (.ref b105), .val (.int k.toInt32), .val (.int (x1.toInt16.toInt32)), .val (.int (1 : Int32))] [(.int (1 : Int32)), (.int (1 : Int32))])) t → Steps p.tables e below (s₁.setTop (entryFrame m #[(.int x0), (.int x1)] maxLocals)) t := fun tt kk => pre214 tt (by
        show Steps p.tables e below (T203.setTop (mkF m 251 #[.val (.int x0), .val (.int x1), .val (.ref b5), .val (.ref b105), .val (.int k.toInt32), .val (.int (x1.toInt16.toInt32)), .unset] [(.int (own_mx k)), (.int (x1.toInt16.toInt32))])) _
        refine XS.icmpNo X203.here hx rfl (hb hby at_251) rfl (flt hc251).2.2.1 ?_
        show Steps p.tables e below (T203.setTop (mkF m 254 #[.val (.int x0), .val (.int x1), .val (.ref b5), .val (.ref b105), .val (.int k.toInt32), .val (.int (x1.toInt16.toInt32)), .unset] [])) _
        refine XS.iconst X203.here hx rfl (hb hby at_254) ?_
        show Steps p.tables e below (T203.setTop (mkF m 255 #[.val (.int x0), .val (.int x1), .val (.ref b5), .val (.ref b105), .val (.int k.toInt32), .val (.int (x1.toInt16.toInt32)), .unset] [(.int (1 : Int32))])) _
        refine XS.goto X203.here hx rfl (pc0 := 255) (pc' := 259) rfl (hb hby at_255) (by decide) (by decide) ?_
        show Steps p.tables e below (T203.setTop (mkF m 259 #[.val (.int x0), .val (.int x1), .val (.ref b5), .val (.ref b105), .val (.int k.toInt32), .val (.int (x1.toInt16.toInt32)), .unset] [(.int (1 : Int32))])) _
        refine XS.istore X203.here hx rfl (hb hby at_259) rfl (l' := #[.val (.int x0), .val (.int x1), .val (.ref b5), .val (.ref b105), .val (.int k.toInt32), .val (.int (x1.toInt16.toInt32)), .val (.int (1 : Int32))]) rfl ?_
        show Steps p.tables e below (T203.setTop (mkF m 261 #[.val (.int x0), .val (.int x1), .val (.ref b5), .val (.ref b105), .val (.int k.toInt32), .val (.int (x1.toInt16.toInt32)), .val (.int (1 : Int32))] [])) _
        refine XS.aloadN X203.here hx rfl (hb hby at_261) rfl rfl ?_
        show Steps p.tables e below (T203.setTop (mkF m 262 #[.val (.int x0), .val (.int x1), .val (.ref b5), .val (.ref b105), .val (.int k.toInt32), .val (.int (x1.toInt16.toInt32)), .val (.int (1 : Int32))] [(.ref b5)])) _
        refine XS.iload X203.here hx rfl (hb hby at_262) rfl ?_
        show Steps p.tables e below (T203.setTop (mkF m 264 #[.val (.int x0), .val (.int x1), .val (.ref b5), .val (.ref b105), .val (.int k.toInt32), .val (.int (x1.toInt16.toInt32)), .val (.int (1 : Int32))] [(.int k.toInt32), (.ref b5)])) _
        refine X203.aaload hx (j := k.toInt32) (v := (.ref (w k))) (by rw [e203]; exact Ar219.1) (State.isArrayOf_alike hZ.alike Ar219.2.1) rfl Ar219.2.2 (inb_of S219 ⟨hkn.1, hkl⟩) (by rw [hkn.2]; exact H219 k hk) (g := (mkF m 264 #[.val (.int x0), .val (.int x1), .val (.ref b5), .val (.ref b105), .val (.int k.toInt32), .val (.int (x1.toInt16.toInt32)), .val (.int (1 : Int32))] [(.int k.toInt32), (.ref b5)])) rfl rfl (hb hby at_264) _ ?_
        show Steps p.tables e below (T203.setTop (mkF m 265 #[.val (.int x0), .val (.int x1), .val (.ref b5), .val (.ref b105), .val (.int k.toInt32), .val (.int (x1.toInt16.toInt32)), .val (.int (1 : Int32))] [(.ref (w k))])) _
        refine XS.iload X203.here hx rfl (hb hby at_265) rfl ?_
        show Steps p.tables e below (T203.setTop (mkF m 267 #[.val (.int x0), .val (.int x1), .val (.ref b5), .val (.ref b105), .val (.int k.toInt32), .val (.int (x1.toInt16.toInt32)), .val (.int (1 : Int32))] [(.int (x1.toInt16.toInt32)), (.ref (w k))])) _
        refine st221.trans ?_
        show Steps p.tables e below (T221.setTop (mkF m 270 #[.val (.int x0), .val (.int x1), .val (.ref b5), .val (.ref b105), .val (.int k.toInt32), .val (.int (x1.toInt16.toInt32)), .val (.int (1 : Int32))] [(.int (1 : Int32))])) _
        refine XS.iload X221.here hx rfl (hb hby at_270) rfl ?_
        exact kk)
      obtain ⟨fs, hr, hrun, hended, hW, hsame⟩ := X221.leave (v := some (.int (1 : Int32))) (fun h => by rw [Bd.returns] at h; cases h)
      refine ⟨_, _, pre222 _ ?_, hrun, hended, _, _, rfl, ?_, ⟨_, rfl⟩, hW, hsame.mono (by decide) (by decide)⟩
      · show Steps p.tables e below (T221.setTop (mkF m 272 #[.val (.int x0), .val (.int x1), .val (.ref b5), .val (.ref b105), .val (.int k.toInt32), .val (.int (x1.toInt16.toInt32)), .val (.int (1 : Int32))] [(.int (1 : Int32)), (.int (1 : Int32))])) _
        refine XS.icmpNo X221.here hx rfl (hb hby at_272) rfl (teq (by decide : (1 : Int32) = (1 : Int32))).2 ?_
        show Steps p.tables e below (T221.setTop (mkF m 275 #[.val (.int x0), .val (.int x1), .val (.ref b5), .val (.ref b105), .val (.int k.toInt32), .val (.int (x1.toInt16.toInt32)), .val (.int (1 : Int32))] [])) _
        refine XS.iconst X221.here hx rfl (hb hby at_275) ?_
        show Steps p.tables e below (T221.setTop (mkF m 276 #[.val (.int x0), .val (.int x1), .val (.ref b5), .val (.ref b105), .val (.int k.toInt32), .val (.int (x1.toInt16.toInt32)), .val (.int (1 : Int32))] [(.int (1 : Int32))])) _
        refine XS.goto X221.here hx rfl (pc0 := 276) (pc' := 280) rfl (hb hby at_276) (by decide) (by decide) ?_
        show Steps p.tables e below (T221.setTop (mkF m 280 #[.val (.int x0), .val (.int x1), .val (.ref b5), .val (.ref b105), .val (.int k.toInt32), .val (.int (x1.toInt16.toInt32)), .val (.int (1 : Int32))] [(.int (1 : Int32))])) _
        exact retN X221 hx (t := .boolean) Bd.returns (by simp) (hb hby at_280) hr
      · exact ⟨rfl, N221⟩
set_option maxRecDepth 65536 in
set_option maxHeartbeats 40000000 in
theorem comes_1 {Post : Tables → Env → Array Value → State → Outcome → State → Prop} (hpost : ∀ tb e args s v u, (limb_1_1.after args s (.returned v) u = true ∧ limb_1_2.after args s (.returned v) u = true ∧ True) → FrameEnd s (.returned v) u (Jvm.fieldLocs frame_1_writes args s ++ Jvm.arrayLocs frame_1_arrays args s ++ Jvm.staticLocs frame_1_statics s) 16 192 → Post tb e args s (.returned v) u) :
    ArmFor flags0 classFile x code maxLocals ret World_1 tables_1 room_1 Calls_1 rest_1 Pre_1 Post := by
  intro l hfl _ _ p e ha hc hk s m args below hf hA hF happ hP
  obtain ⟨hcalls, hrest, hpre⟩ := hP
  obtain ⟨-, -, -, hnamed, -, -, -, hat⟩ := (Spec.applies_iff hf).mp happ
  obtain ⟨hg, hn⟩ := and_e (Cond.before_iff.mp (show (Jvm.Cond.and given_1 narrow_1).before args s = true from hpre))
  obtain ⟨g0, g0r⟩ := and_e hg
  obtain ⟨g1, g1r⟩ := and_e g0r
  obtain ⟨w0_, w1_, rfl⟩ : ∃ w0_ w1_ : Value, args = #[w0_, w1_] := by
    have hs : args.size = 2 := by simpa [Cond.value, given_1] using g0
    obtain ⟨L⟩ := args
    match L, hs with
    | [w0_, w1_], _ => exact ⟨w0_, w1_, rfl⟩
  have hw := fun d (hd : d ∈ tables_1) => atoms_spec (ws := Jvm.Cond.code x code maxLocals ret :: tables_1) hat d (List.mem_cons_of_mem _ hd)
  have hfit : Fit s := fun {y c} hc i hi => by
    obtain ⟨ha, rfl⟩ := Array.getElem?_eq_some_iff.mp hc
    have q := List.all_eq_true.mp ((Array.all_eq_true_iff_forall_mem.mp hF) _ (Array.getElem_mem ha)) i (List.mem_range.mpr hi)
    simpa [Array.getElem?_eq_getElem hi] using q
  obtain ⟨i0, ei0⟩ := is_v g1
  obtain rfl : w0_ = (.int i0) := Option.some.inj ei0
  obtain ⟨i1, ei1⟩ := is_v g1r
  obtain rfl : w1_ = (.int i1) := Option.some.inj ei1
  obtain ⟨n0, n0r⟩ := and_e hn
  obtain ⟨n1, n1r⟩ := and_e n0r
  obtain ⟨n2, n2r⟩ := and_e n1r
  obtain ⟨n3, n3r⟩ := and_e n2r
  obtain ⟨n4, n4r⟩ := and_e n3r
  obtain ⟨n5, n5r⟩ := and_e n4r
  obtain ⟨n6, n6r⟩ := and_e n5r
  obtain ⟨n7, n7r⟩ := and_e n6r
  obtain ⟨n8, n8r⟩ := and_e n7r
  obtain ⟨n9, n9r⟩ := and_e n8r
  obtain ⟨n10, n10r⟩ := and_e n9r
  obtain ⟨n11, n11r⟩ := and_e n10r
  obtain ⟨n12, n12r⟩ := and_e n11r
  obtain ⟨n13, n13r⟩ := and_e n12r
  obtain ⟨n14, n14r⟩ := and_e n13r
  obtain ⟨n15, n15r⟩ := and_e n14r
  obtain ⟨n16, n16r⟩ := and_e n15r
  obtain ⟨n17, n17r⟩ := and_e n16r
  obtain ⟨n18, n18r⟩ := and_e n17r
  obtain ⟨n19, n19r⟩ := and_e n18r
  obtain ⟨n20, n20r⟩ := and_e n19r
  obtain ⟨n21, n21r⟩ := and_e n20r
  obtain ⟨n22, n22r⟩ := and_e n21r
  obtain ⟨n23, n23r⟩ := and_e n22r
  obtain ⟨n24, n24r⟩ := and_e n23r
  obtain ⟨n25, n25r⟩ := and_e n24r
  obtain ⟨n26, n26r⟩ := and_e n25r
  obtain ⟨n27, n27r⟩ := and_e n26r
  obtain ⟨n28, n28r⟩ := and_e n27r
  obtain ⟨n29, n29r⟩ := and_e n28r
  obtain ⟨n30, n30r⟩ := and_e n29r
  obtain ⟨n31, n31r⟩ := and_e n30r
  obtain ⟨n32, n32r⟩ := and_e n31r
  obtain ⟨n33, n33r⟩ := and_e n32r
  obtain ⟨n34, n34r⟩ := and_e n33r
  obtain ⟨n35, n35r⟩ := and_e n34r
  obtain ⟨n36, n36r⟩ := and_e n35r
  obtain ⟨n37, n37r⟩ := and_e n36r
  obtain ⟨n38, n38r⟩ := and_e n37r
  obtain ⟨n39, n39r⟩ := and_e n38r
  obtain ⟨n40, n40r⟩ := and_e n39r
  obtain ⟨n41, n41r⟩ := and_e n40r
  obtain ⟨n42, n42r⟩ := and_e n41r
  obtain ⟨n43, n43r⟩ := and_e n42r
  obtain ⟨n44, n44r⟩ := and_e n43r
  obtain ⟨n45, n45r⟩ := and_e n44r
  obtain ⟨n46, n46r⟩ := and_e n45r
  obtain ⟨n47, n47r⟩ := and_e n46r
  obtain ⟨n48, n48r⟩ := and_e n47r
  obtain ⟨n49, n49r⟩ := and_e n48r
  obtain ⟨n50, n50r⟩ := and_e n49r
  obtain ⟨n51, n51r⟩ := and_e n50r
  obtain ⟨n52, n52r⟩ := and_e n51r
  obtain ⟨n53, n53r⟩ := and_e n52r
  obtain ⟨n54, n54r⟩ := and_e n53r
  obtain ⟨n55, n55r⟩ := and_e n54r
  obtain ⟨v0, ev0⟩ := exa_v n0
  have S0 : Sta s s.heap "com/example/lean_broker/leanbroker/protocol/ApiKey" "PRODUCE" "Lcom/example/lean_broker/leanbroker/protocol/ApiKey;" (.ref v0) := Sta.start ev0 (Or.inr ⟨(hw _ (List.mem_of_getElem? (i := 3) rfl)), (hw _ (List.mem_of_getElem? (i := 4) rfl))⟩)
  have E0 : Exa s s.heap v0 "com/example/lean_broker/leanbroker/protocol/ApiKey" := Exa.start ev0 n0
  obtain ⟨v1, ev1⟩ := exa_v n1
  have S1 : Sta s s.heap "com/example/lean_broker/leanbroker/protocol/ApiKey" "FETCH" "Lcom/example/lean_broker/leanbroker/protocol/ApiKey;" (.ref v1) := Sta.start ev1 (Or.inr ⟨(hw _ (List.mem_of_getElem? (i := 3) rfl)), (hw _ (List.mem_of_getElem? (i := 7) rfl))⟩)
  have E1 : Exa s s.heap v1 "com/example/lean_broker/leanbroker/protocol/ApiKey" := Exa.start ev1 n1
  obtain ⟨v2, ev2⟩ := exa_v n2
  have S2 : Sta s s.heap "com/example/lean_broker/leanbroker/protocol/ApiKey" "LIST_OFFSETS" "Lcom/example/lean_broker/leanbroker/protocol/ApiKey;" (.ref v2) := Sta.start ev2 (Or.inr ⟨(hw _ (List.mem_of_getElem? (i := 3) rfl)), (hw _ (List.mem_of_getElem? (i := 9) rfl))⟩)
  have E2 : Exa s s.heap v2 "com/example/lean_broker/leanbroker/protocol/ApiKey" := Exa.start ev2 n2
  obtain ⟨v3, ev3⟩ := exa_v n3
  have S3 : Sta s s.heap "com/example/lean_broker/leanbroker/protocol/ApiKey" "METADATA" "Lcom/example/lean_broker/leanbroker/protocol/ApiKey;" (.ref v3) := Sta.start ev3 (Or.inr ⟨(hw _ (List.mem_of_getElem? (i := 3) rfl)), (hw _ (List.mem_of_getElem? (i := 11) rfl))⟩)
  have E3 : Exa s s.heap v3 "com/example/lean_broker/leanbroker/protocol/ApiKey" := Exa.start ev3 n3
  obtain ⟨v4, ev4⟩ := exa_v n4
  have S4 : Sta s s.heap "com/example/lean_broker/leanbroker/protocol/ApiKey" "OFFSET_COMMIT" "Lcom/example/lean_broker/leanbroker/protocol/ApiKey;" (.ref v4) := Sta.start ev4 (Or.inr ⟨(hw _ (List.mem_of_getElem? (i := 3) rfl)), (hw _ (List.mem_of_getElem? (i := 13) rfl))⟩)
  have E4 : Exa s s.heap v4 "com/example/lean_broker/leanbroker/protocol/ApiKey" := Exa.start ev4 n4
  obtain ⟨v5, ev5⟩ := exa_v n5
  have S5 : Sta s s.heap "com/example/lean_broker/leanbroker/protocol/ApiKey" "OFFSET_FETCH" "Lcom/example/lean_broker/leanbroker/protocol/ApiKey;" (.ref v5) := Sta.start ev5 (Or.inr ⟨(hw _ (List.mem_of_getElem? (i := 3) rfl)), (hw _ (List.mem_of_getElem? (i := 15) rfl))⟩)
  have E5 : Exa s s.heap v5 "com/example/lean_broker/leanbroker/protocol/ApiKey" := Exa.start ev5 n5
  obtain ⟨v6, ev6⟩ := exa_v n6
  have S6 : Sta s s.heap "com/example/lean_broker/leanbroker/protocol/ApiKey" "FIND_COORDINATOR" "Lcom/example/lean_broker/leanbroker/protocol/ApiKey;" (.ref v6) := Sta.start ev6 (Or.inr ⟨(hw _ (List.mem_of_getElem? (i := 3) rfl)), (hw _ (List.mem_of_getElem? (i := 17) rfl))⟩)
  have E6 : Exa s s.heap v6 "com/example/lean_broker/leanbroker/protocol/ApiKey" := Exa.start ev6 n6
  obtain ⟨v7, ev7⟩ := exa_v n7
  have S7 : Sta s s.heap "com/example/lean_broker/leanbroker/protocol/ApiKey" "JOIN_GROUP" "Lcom/example/lean_broker/leanbroker/protocol/ApiKey;" (.ref v7) := Sta.start ev7 (Or.inr ⟨(hw _ (List.mem_of_getElem? (i := 3) rfl)), (hw _ (List.mem_of_getElem? (i := 19) rfl))⟩)
  have E7 : Exa s s.heap v7 "com/example/lean_broker/leanbroker/protocol/ApiKey" := Exa.start ev7 n7
  obtain ⟨v8, ev8⟩ := exa_v n8
  have S8 : Sta s s.heap "com/example/lean_broker/leanbroker/protocol/ApiKey" "HEARTBEAT" "Lcom/example/lean_broker/leanbroker/protocol/ApiKey;" (.ref v8) := Sta.start ev8 (Or.inr ⟨(hw _ (List.mem_of_getElem? (i := 3) rfl)), (hw _ (List.mem_of_getElem? (i := 21) rfl))⟩)
  have E8 : Exa s s.heap v8 "com/example/lean_broker/leanbroker/protocol/ApiKey" := Exa.start ev8 n8
  obtain ⟨v9, ev9⟩ := exa_v n9
  have S9 : Sta s s.heap "com/example/lean_broker/leanbroker/protocol/ApiKey" "LEAVE_GROUP" "Lcom/example/lean_broker/leanbroker/protocol/ApiKey;" (.ref v9) := Sta.start ev9 (Or.inr ⟨(hw _ (List.mem_of_getElem? (i := 3) rfl)), (hw _ (List.mem_of_getElem? (i := 23) rfl))⟩)
  have E9 : Exa s s.heap v9 "com/example/lean_broker/leanbroker/protocol/ApiKey" := Exa.start ev9 n9
  obtain ⟨v10, ev10⟩ := exa_v n10
  have S10 : Sta s s.heap "com/example/lean_broker/leanbroker/protocol/ApiKey" "SYNC_GROUP" "Lcom/example/lean_broker/leanbroker/protocol/ApiKey;" (.ref v10) := Sta.start ev10 (Or.inr ⟨(hw _ (List.mem_of_getElem? (i := 3) rfl)), (hw _ (List.mem_of_getElem? (i := 25) rfl))⟩)
  have E10 : Exa s s.heap v10 "com/example/lean_broker/leanbroker/protocol/ApiKey" := Exa.start ev10 n10
  obtain ⟨v11, ev11⟩ := exa_v n11
  have S11 : Sta s s.heap "com/example/lean_broker/leanbroker/protocol/ApiKey" "DESCRIBE_GROUPS" "Lcom/example/lean_broker/leanbroker/protocol/ApiKey;" (.ref v11) := Sta.start ev11 (Or.inr ⟨(hw _ (List.mem_of_getElem? (i := 3) rfl)), (hw _ (List.mem_of_getElem? (i := 27) rfl))⟩)
  have E11 : Exa s s.heap v11 "com/example/lean_broker/leanbroker/protocol/ApiKey" := Exa.start ev11 n11
  obtain ⟨v12, ev12⟩ := exa_v n12
  have S12 : Sta s s.heap "com/example/lean_broker/leanbroker/protocol/ApiKey" "LIST_GROUPS" "Lcom/example/lean_broker/leanbroker/protocol/ApiKey;" (.ref v12) := Sta.start ev12 (Or.inr ⟨(hw _ (List.mem_of_getElem? (i := 3) rfl)), (hw _ (List.mem_of_getElem? (i := 29) rfl))⟩)
  have E12 : Exa s s.heap v12 "com/example/lean_broker/leanbroker/protocol/ApiKey" := Exa.start ev12 n12
  obtain ⟨v13, ev13⟩ := exa_v n13
  have S13 : Sta s s.heap "com/example/lean_broker/leanbroker/protocol/ApiKey" "API_VERSIONS" "Lcom/example/lean_broker/leanbroker/protocol/ApiKey;" (.ref v13) := Sta.start ev13 (Or.inr ⟨(hw _ (List.mem_of_getElem? (i := 3) rfl)), (hw _ (List.mem_of_getElem? (i := 31) rfl))⟩)
  have E13 : Exa s s.heap v13 "com/example/lean_broker/leanbroker/protocol/ApiKey" := Exa.start ev13 n13
  obtain ⟨v14, ev14⟩ := exa_v n14
  have S14 : Sta s s.heap "com/example/lean_broker/leanbroker/protocol/ApiKey" "CREATE_TOPICS" "Lcom/example/lean_broker/leanbroker/protocol/ApiKey;" (.ref v14) := Sta.start ev14 (Or.inr ⟨(hw _ (List.mem_of_getElem? (i := 3) rfl)), (hw _ (List.mem_of_getElem? (i := 33) rfl))⟩)
  have E14 : Exa s s.heap v14 "com/example/lean_broker/leanbroker/protocol/ApiKey" := Exa.start ev14 n14
  obtain ⟨v15, ev15⟩ := exa_v n15
  have S15 : Sta s s.heap "com/example/lean_broker/leanbroker/protocol/ApiKey" "DELETE_TOPICS" "Lcom/example/lean_broker/leanbroker/protocol/ApiKey;" (.ref v15) := Sta.start ev15 (Or.inr ⟨(hw _ (List.mem_of_getElem? (i := 3) rfl)), (hw _ (List.mem_of_getElem? (i := 35) rfl))⟩)
  have E15 : Exa s s.heap v15 "com/example/lean_broker/leanbroker/protocol/ApiKey" := Exa.start ev15 n15
  obtain ⟨v16, ev16⟩ := exa_v n16
  have S16 : Sta s s.heap "com/example/lean_broker/leanbroker/protocol/ApiKey" "INIT_PRODUCER_ID" "Lcom/example/lean_broker/leanbroker/protocol/ApiKey;" (.ref v16) := Sta.start ev16 (Or.inr ⟨(hw _ (List.mem_of_getElem? (i := 3) rfl)), (hw _ (List.mem_of_getElem? (i := 37) rfl))⟩)
  have E16 : Exa s s.heap v16 "com/example/lean_broker/leanbroker/protocol/ApiKey" := Exa.start ev16 n16
  obtain ⟨v17, ev17⟩ := exa_v n17
  have S17 : Sta s s.heap "com/example/lean_broker/leanbroker/protocol/ApiKey" "DESCRIBE_CONFIGS" "Lcom/example/lean_broker/leanbroker/protocol/ApiKey;" (.ref v17) := Sta.start ev17 (Or.inr ⟨(hw _ (List.mem_of_getElem? (i := 3) rfl)), (hw _ (List.mem_of_getElem? (i := 39) rfl))⟩)
  have E17 : Exa s s.heap v17 "com/example/lean_broker/leanbroker/protocol/ApiKey" := Exa.start ev17 n17
  obtain ⟨v18, ev18⟩ := exa_v n18
  have S18 : Sta s s.heap "com/example/lean_broker/leanbroker/protocol/ApiKey" "CREATE_PARTITIONS" "Lcom/example/lean_broker/leanbroker/protocol/ApiKey;" (.ref v18) := Sta.start ev18 (Or.inr ⟨(hw _ (List.mem_of_getElem? (i := 3) rfl)), (hw _ (List.mem_of_getElem? (i := 41) rfl))⟩)
  have E18 : Exa s s.heap v18 "com/example/lean_broker/leanbroker/protocol/ApiKey" := Exa.start ev18 n18
  have F0 := own_fld ev0 n19
  have G0 := own_fld ev0 n20
  have F1 := own_fld ev1 n41
  have G1 := own_fld ev1 n42
  have F2 := own_fld ev2 n25
  have G2 := own_fld ev2 n43
  have F3 := own_fld ev3 n28
  have G3 := own_fld ev3 n29
  have F4 := own_fld ev4 n52
  have G4 := own_fld ev4 n53
  have F5 := own_fld ev5 n35
  have G5 := own_fld ev5 n36
  have F6 := own_fld ev6 n30
  have G6 := own_fld ev6 n31
  have F7 := own_fld ev7 n37
  have G7 := own_fld ev7 n51
  have F8 := own_fld ev8 n32
  have G8 := own_fld ev8 n38
  have F9 := own_fld ev9 n26
  have G9 := own_fld ev9 n27
  have F10 := own_fld ev10 n46
  have G10 := own_fld ev10 n47
  have F11 := own_fld ev11 n44
  have G11 := own_fld ev11 n45
  have F12 := own_fld ev12 n33
  have G12 := own_fld ev12 n34
  have F13 := own_fld ev13 n23
  have G13 := own_fld ev13 n24
  have F14 := own_fld ev14 n21
  have G14 := own_fld ev14 n22
  have F15 := own_fld ev15 n48
  have G15 := own_fld ev15 n49
  have F16 := own_fld ev16 n39
  have G16 := own_fld ev16 n40
  have F17 := own_fld ev17 n54
  have G17 := own_fld ev17 n55r
  have F18 := own_fld ev18 n50
  have G18 := own_fld ev18 n55
  obtain ⟨n, o, h1, h2, h3, _, L, rfl, ⟨rfl, N⟩, hq⟩ := rm0 l s _ hw tables_1 i0 i1 (fun i => [v0, v1, v2, v3, v4, v5, v6, v7, v8, v9, v10, v11, v12, v13, v14, v15, v16, v17, v18].getD i 0) s.heap s.heap.size (Nat.le_refl _) (Old.start s) ⟨S0, S1, S2, S3, S4, S5, S6, S7, S8, S9, S10, S11, S12, S13, S14, S15, S16, S17, S18⟩ (fun i hi => match i, hi with | 0, _ => E0 | 1, _ => E1 | 2, _ => E2 | 3, _ => E3 | 4, _ => E4 | 5, _ => E5 | 6, _ => E6 | 7, _ => E7 | 8, _ => E8 | 9, _ => E9 | 10, _ => E10 | 11, _ => E11 | 12, _ => E12 | 13, _ => E13 | 14, _ => E14 | 15, _ => E15 | 16, _ => E16 | 17, _ => E17 | 18, _ => E18 | i + 19, hi => absurd hi (by omega)) (fun i hi => match i, hi with | 0, _ => F0 | 1, _ => F1 | 2, _ => F2 | 3, _ => F3 | 4, _ => F4 | 5, _ => F5 | 6, _ => F6 | 7, _ => F7 | 8, _ => F8 | 9, _ => F9 | 10, _ => F10 | 11, _ => F11 | 12, _ => F12 | 13, _ => F13 | 14, _ => F14 | 15, _ => F15 | 16, _ => F16 | 17, _ => F17 | 18, _ => F18 | i + 19, hi => absurd hi (by omega)) (fun i hi => match i, hi with | 0, _ => G0 | 1, _ => G1 | 2, _ => G2 | 3, _ => G3 | 4, _ => G4 | 5, _ => G5 | 6, _ => G6 | 7, _ => G7 | 8, _ => G8 | 9, _ => G9 | 10, _ => G10 | 11, _ => G11 | 12, _ => G12 | 13, _ => G13 | 14, _ => G14 | 15, _ => G15 | 16, _ => G16 | 17, _ => G17 | 18, _ => G18 | i + 19, hi => absurd hi (by omega)) p e ha hc hk s m _ below hf ((Spec.applies_iff_loose hf).mp happ).1 ⟨rfl, State.Warmed39.refl s, rfl⟩ trivial
  refine ⟨n, _, h1, h2, h3, hpost _ _ _ _ _ _ ⟨Cond.after_iff.mpr rfl, Cond.after_iff.mpr (eq_i res_at (Term.int_eval (1)) rfl), trivial⟩ ⟨hq.1, hq.2.1, (hq.2.2.sift fun y hy => Or.inr (N y hy)).mono (by decide) (by decide)⟩⟩
theorem main_1_1 : Claimed_1_1 := comes_1 fun _ _ _ _ _ _ h hF => ⟨h.1, hF⟩
theorem main_1_2 : Claimed_1_2 := comes_1 fun _ _ _ _ _ _ h hF => ⟨h.2.1, hF⟩
end Jvm.Pilot.@@N@@
namespace Jvm.Pilot.@@N@@
open Jvm Jvm.ClassFile Sem Op Lib Jvm.Free Jvm.Stand Jvm.Pilot.@@N@@.Jvm.D
/-! MADE BY PROGRAM (witnessworld.py) out of the Statement's table words and the real class files: 13 classes; the members and pool entries that the words name. The judged class is class 1, her method 1. -/
namespace start1
open Jvm.ClassFile
def u (s : String) : CpInfo := .utf8 (stringToUtf16 s)
/-- a pool by its gaps: so many unusable entries, then the entry; so many at the end -/
def gap : Nat → List CpInfo → List CpInfo
  | 0, r => r
  | n + 1, r => .unusable :: gap n r
def poolList (es : List (Nat × CpInfo)) (last : Nat) : List CpInfo := es.foldr (fun e r => gap e.1 (e.2 :: r)) (gap last [])
def pool (es : List (Nat × CpInfo)) (last : Nat) : Array CpInfo := ⟨poolList es last⟩
def fileOf (pool : Array CpInfo) (this : Nat) (attrs : Array Attribute := #[]) (ms : Array MethodInfo := #[]) (fl : Nat := 33) (sup : Nat := 0) (ifs : Array Nat := #[]) (fds : Array FieldInfo := #[]) : ClassFile where
  minorVersion := 0
  majorVersion := 65
  constantPool := pool
  accessFlags := fl
  thisClass := this
  superClass := sup
  interfaces := ifs
  fields := fds
  methods := ms
  attributes := attrs
def plain (name : String) (sup : Option ClassId) : Class where
  name := name
  kind := .ordinary
  loader := none
  accessFlags := 33
  super := sup
  interfaces := #[]
  cf := none
  fields := #[]
  methods := #[]
  instanceTypes := #[]
  staticTypes := #[]
  resolved := #[]
  callSites := []
  init := .initialized
  statics := none
  mirror := none

def pool0 : Array CpInfo := pool [(5, u "<init>"), (0, u "()V"), (1, .class_ 10), (1, u "java/lang/Object")] 113

def k0m0 : Method := { name := "<init>", desc := "()V", sig := { parameters := [], returnType := none }, accessFlags := 1, code := none }
/-- java/lang/Object -/
def k0 : Class := { plain "java/lang/Object" none with
  accessFlags := 33
  interfaces := #[]
  cf := some (fileOf pool0 8 #[] #[{ accessFlags := 1, nameIndex := 5, descriptorIndex := 6, attributes := #[] }] 33 0 #[] #[])
  fields := #[]
  methods := #[k0m0]
  instanceTypes := #[]
  staticTypes := #[]
  resolved := Array.replicate 124 none
  statics := none }

def pool1 : Array CpInfo := pool [(2, .class_ 4), (1, u "java/lang/Object"), (0, u "<init>"), (0, u "()V"), (0, .class_ 8), (0, u "com/example/lean_broker/leanbroker/protocol/ApiKey"), (0, .fieldref 7 10), (0, .nameAndType 11 12), (0, u "PRODUCE"), (0, u "Lcom/example/lean_broker/leanbroker/protocol/ApiKey;"), (0, .fieldref 7 14), (0, .nameAndType 15 12), (0, u "FETCH"), (0, .fieldref 7 17), (0, .nameAndType 18 12), (0, u "LIST_OFFSETS"), (0, .fieldref 7 20), (0, .nameAndType 21 12), (0, u "METADATA"), (0, .fieldref 7 23), (0, .nameAndType 24 12), (0, u "OFFSET_COMMIT"), (0, .fieldref 7 26), (0, .nameAndType 27 12), (0, u "OFFSET_FETCH"), (0, .fieldref 7 29), (0, .nameAndType 30 12), (0, u "FIND_COORDINATOR"), (0, .fieldref 7 32), (0, .nameAndType 33 12), (0, u "JOIN_GROUP"), (0, .fieldref 7 35), (0, .nameAndType 36 12), (0, u "HEARTBEAT"), (0, .fieldref 7 38), (0, .nameAndType 39 12), (0, u "LEAVE_GROUP"), (0, .fieldref 7 41), (0, .nameAndType 42 12), (0, u "SYNC_GROUP"), (0, .fieldref 7 44), (0, .nameAndType 45 12), (0, u "DESCRIBE_GROUPS"), (0, .fieldref 7 47), (0, .nameAndType 48 12), (0, u "LIST_GROUPS"), (0, .fieldref 7 50), (0, .nameAndType 51 12), (0, u "API_VERSIONS"), (0, .fieldref 7 53), (0, .nameAndType 54 12), (0, u "CREATE_TOPICS"), (0, .fieldref 7 56), (0, .nameAndType 57 12), (0, u "DELETE_TOPICS"), (0, .fieldref 7 59), (0, .nameAndType 60 12), (0, u "INIT_PRODUCER_ID"), (0, .fieldref 7 62), (0, .nameAndType 63 12), (0, u "DESCRIBE_CONFIGS"), (0, .fieldref 7 65), (0, .nameAndType 66 12), (0, u "CREATE_PARTITIONS"), (0, .integer 2147483647), (0, .methodref 7 69), (0, .nameAndType 70 71), (0, u "serves"), (0, u "(S)Z"), (0, .class_ 73), (0, u "com/example/lean_broker/leanbroker/protocol/ApiKeyServesPinLaw"), (2, u "law"), (0, u "(II)Z")] 7

def k1m0 : Method := { name := "<init>", desc := "()V", sig := { parameters := [], returnType := none }, accessFlags := 1, code := none }
def k1c1 : Code := { maxStack := 4, maxLocals := 7, code := code, exceptionTable := #[], attributes := #[] }
def k1m1 : Method := { name := "law", desc := "(II)Z", sig := { parameters := [.int, .int], returnType := some .boolean }, accessFlags := 9, code := some k1c1 }
/-- com/example/lean_broker/leanbroker/protocol/ApiKeyServesPinLaw -/
def k1 : Class := { plain "com/example/lean_broker/leanbroker/protocol/ApiKeyServesPinLaw" (some 0) with
  accessFlags := 49
  interfaces := #[]
  cf := some (fileOf pool1 72 #[] #[{ accessFlags := 1, nameIndex := 5, descriptorIndex := 6, attributes := #[] }, { accessFlags := 9, nameIndex := 76, descriptorIndex := 77, attributes := #[] }] 49 2 #[] #[])
  fields := #[]
  methods := #[k1m0, k1m1]
  instanceTypes := #[]
  staticTypes := #[]
  resolved := Array.replicate 85 none
  statics := none }

def pool2 : Array CpInfo := pool [(1, .class_ 2), (0, u "java/lang/constant/Constable"), (0, .class_ 4), (0, u "java/lang/Object")] 6

/-- java/lang/constant/Constable -/
def k2 : Class := { plain "java/lang/constant/Constable" (some 0) with
  accessFlags := 1537
  interfaces := #[]
  cf := some (fileOf pool2 1 #[] #[] 1537 3 #[] #[])
  fields := #[]
  methods := #[]
  instanceTypes := #[]
  staticTypes := #[]
  resolved := Array.replicate 11 none
  statics := none }

def pool3 : Array CpInfo := pool [(1, .class_ 2), (0, u "java/lang/Comparable"), (0, .class_ 4), (0, u "java/lang/Object")] 7

/-- java/lang/Comparable -/
def k3 : Class := { plain "java/lang/Comparable" (some 0) with
  accessFlags := 1537
  interfaces := #[]
  cf := some (fileOf pool3 1 #[] #[] 1537 3 #[] #[])
  fields := #[]
  methods := #[]
  instanceTypes := #[]
  staticTypes := #[]
  resolved := Array.replicate 12 none
  statics := none }

def pool4 : Array CpInfo := pool [(1, .class_ 2), (0, u "java/io/Serializable"), (0, .class_ 4), (0, u "java/lang/Object")] 2

/-- java/io/Serializable -/
def k4 : Class := { plain "java/io/Serializable" (some 0) with
  accessFlags := 1537
  interfaces := #[]
  cf := some (fileOf pool4 1 #[] #[] 1537 3 #[] #[])
  fields := #[]
  methods := #[]
  instanceTypes := #[]
  staticTypes := #[]
  resolved := Array.replicate 7 none
  statics := none }

def pool5 : Array CpInfo := pool [(2, .class_ 4), (1, u "java/lang/Enum"), (0, u "name"), (0, u "Ljava/lang/String;"), (2, u "ordinal"), (0, u "I"), (1, .class_ 14), (1, u "java/lang/Object"), (4, u "hash"), (86, .class_ 108), (1, u "java/lang/Enum$EnumDesc"), (2, .class_ 112), (0, u "java/lang/constant/Constable"), (0, .class_ 114), (0, u "java/lang/Comparable"), (0, .class_ 116), (0, u "java/io/Serializable")] 87

/-- java/lang/Enum -/
def k5 : Class := { plain "java/lang/Enum" (some 0) with
  accessFlags := 1057
  interfaces := #[2, 3, 4]
  cf := some (fileOf pool5 2 #[.nestMembers #[106]] #[] 1057 12 #[111, 113, 115] #[{ accessFlags := 18, nameIndex := 5, descriptorIndex := 6, attributes := #[] }, { accessFlags := 18, nameIndex := 9, descriptorIndex := 10, attributes := #[] }, { accessFlags := 2, nameIndex := 19, descriptorIndex := 10, attributes := #[] }])
  fields := #[{ name := "name", type := (.object "java/lang/String"), accessFlags := 18, slot := 0, constantValue := 0 }, { name := "ordinal", type := .int, accessFlags := 18, slot := 1, constantValue := 0 }, { name := "hash", type := .int, accessFlags := 2, slot := 2, constantValue := 0 }]
  methods := #[]
  instanceTypes := #[(.object "java/lang/String"), .int, .int]
  staticTypes := #[]
  resolved := Array.replicate 204 none
  statics := none }

def pool6 : Array CpInfo := pool [(1, .class_ 2), (0, u "com/example/lean_broker/leanbroker/protocol/ApiKey"), (2, u "PRODUCE"), (0, u "Lcom/example/lean_broker/leanbroker/protocol/ApiKey;"), (2, u "FETCH"), (2, u "LIST_OFFSETS"), (2, u "METADATA"), (2, u "OFFSET_COMMIT"), (2, u "OFFSET_FETCH"), (2, u "FIND_COORDINATOR"), (2, u "JOIN_GROUP"), (2, u "HEARTBEAT"), (2, u "LEAVE_GROUP"), (2, u "SYNC_GROUP"), (2, u "DESCRIBE_GROUPS"), (2, u "LIST_GROUPS"), (2, u "API_VERSIONS"), (2, u "CREATE_TOPICS"), (2, u "DELETE_TOPICS"), (2, u "INIT_PRODUCER_ID"), (2, u "DESCRIBE_CONFIGS"), (2, u "CREATE_PARTITIONS"), (2, u "$VALUES"), (0, u "[Lcom/example/lean_broker/leanbroker/protocol/ApiKey;"), (6, .class_ 73), (1, u "java/lang/Enum"), (11, u "id"), (0, u "S"), (0, .fieldref 1 88), (0, .nameAndType 89 86), (0, u "minVersion"), (0, .fieldref 1 91), (0, .nameAndType 92 86), (0, u "maxVersion"), (2, u "throttleTimeFrom"), (29, u "NEVER"), (10, u "serves"), (0, u "(S)Z")] 9

def k6c0 : Code := { maxStack := 2, maxLocals := 2, code := prog_1_method_8_code, exceptionTable := #[], attributes := #[] }
def k6m0 : Method := { name := "serves", desc := "(S)Z", sig := { parameters := [.short], returnType := some .boolean }, accessFlags := 1, code := some k6c0 }
/-- com/example/lean_broker/leanbroker/protocol/ApiKey -/
def k6 : Class := { plain "com/example/lean_broker/leanbroker/protocol/ApiKey" (some 5) with
  accessFlags := 16433
  interfaces := #[]
  cf := some (fileOf pool6 1 #[] #[{ accessFlags := 1, nameIndex := 136, descriptorIndex := 137, attributes := #[] }] 16433 71 #[] #[{ accessFlags := 16409, nameIndex := 5, descriptorIndex := 6, attributes := #[] }, { accessFlags := 16409, nameIndex := 9, descriptorIndex := 6, attributes := #[] }, { accessFlags := 16409, nameIndex := 12, descriptorIndex := 6, attributes := #[] }, { accessFlags := 16409, nameIndex := 15, descriptorIndex := 6, attributes := #[] }, { accessFlags := 16409, nameIndex := 18, descriptorIndex := 6, attributes := #[] }, { accessFlags := 16409, nameIndex := 21, descriptorIndex := 6, attributes := #[] }, { accessFlags := 16409, nameIndex := 24, descriptorIndex := 6, attributes := #[] }, { accessFlags := 16409, nameIndex := 27, descriptorIndex := 6, attributes := #[] }, { accessFlags := 16409, nameIndex := 30, descriptorIndex := 6, attributes := #[] }, { accessFlags := 16409, nameIndex := 33, descriptorIndex := 6, attributes := #[] }, { accessFlags := 16409, nameIndex := 36, descriptorIndex := 6, attributes := #[] }, { accessFlags := 16409, nameIndex := 39, descriptorIndex := 6, attributes := #[] }, { accessFlags := 16409, nameIndex := 42, descriptorIndex := 6, attributes := #[] }, { accessFlags := 16409, nameIndex := 45, descriptorIndex := 6, attributes := #[] }, { accessFlags := 16409, nameIndex := 48, descriptorIndex := 6, attributes := #[] }, { accessFlags := 16409, nameIndex := 51, descriptorIndex := 6, attributes := #[] }, { accessFlags := 16409, nameIndex := 54, descriptorIndex := 6, attributes := #[] }, { accessFlags := 16409, nameIndex := 57, descriptorIndex := 6, attributes := #[] }, { accessFlags := 16409, nameIndex := 60, descriptorIndex := 6, attributes := #[] }, { accessFlags := 26, nameIndex := 125, descriptorIndex := 86, attributes := #[] }, { accessFlags := 18, nameIndex := 85, descriptorIndex := 86, attributes := #[] }, { accessFlags := 18, nameIndex := 89, descriptorIndex := 86, attributes := #[] }, { accessFlags := 18, nameIndex := 92, descriptorIndex := 86, attributes := #[] }, { accessFlags := 18, nameIndex := 95, descriptorIndex := 86, attributes := #[] }, { accessFlags := 4122, nameIndex := 63, descriptorIndex := 64, attributes := #[] }])
  fields := #[{ name := "PRODUCE", type := (.object "com/example/lean_broker/leanbroker/protocol/ApiKey"), accessFlags := 16409, slot := 0, constantValue := 0 }, { name := "FETCH", type := (.object "com/example/lean_broker/leanbroker/protocol/ApiKey"), accessFlags := 16409, slot := 1, constantValue := 0 }, { name := "LIST_OFFSETS", type := (.object "com/example/lean_broker/leanbroker/protocol/ApiKey"), accessFlags := 16409, slot := 2, constantValue := 0 }, { name := "METADATA", type := (.object "com/example/lean_broker/leanbroker/protocol/ApiKey"), accessFlags := 16409, slot := 3, constantValue := 0 }, { name := "OFFSET_COMMIT", type := (.object "com/example/lean_broker/leanbroker/protocol/ApiKey"), accessFlags := 16409, slot := 4, constantValue := 0 }, { name := "OFFSET_FETCH", type := (.object "com/example/lean_broker/leanbroker/protocol/ApiKey"), accessFlags := 16409, slot := 5, constantValue := 0 }, { name := "FIND_COORDINATOR", type := (.object "com/example/lean_broker/leanbroker/protocol/ApiKey"), accessFlags := 16409, slot := 6, constantValue := 0 }, { name := "JOIN_GROUP", type := (.object "com/example/lean_broker/leanbroker/protocol/ApiKey"), accessFlags := 16409, slot := 7, constantValue := 0 }, { name := "HEARTBEAT", type := (.object "com/example/lean_broker/leanbroker/protocol/ApiKey"), accessFlags := 16409, slot := 8, constantValue := 0 }, { name := "LEAVE_GROUP", type := (.object "com/example/lean_broker/leanbroker/protocol/ApiKey"), accessFlags := 16409, slot := 9, constantValue := 0 }, { name := "SYNC_GROUP", type := (.object "com/example/lean_broker/leanbroker/protocol/ApiKey"), accessFlags := 16409, slot := 10, constantValue := 0 }, { name := "DESCRIBE_GROUPS", type := (.object "com/example/lean_broker/leanbroker/protocol/ApiKey"), accessFlags := 16409, slot := 11, constantValue := 0 }, { name := "LIST_GROUPS", type := (.object "com/example/lean_broker/leanbroker/protocol/ApiKey"), accessFlags := 16409, slot := 12, constantValue := 0 }, { name := "API_VERSIONS", type := (.object "com/example/lean_broker/leanbroker/protocol/ApiKey"), accessFlags := 16409, slot := 13, constantValue := 0 }, { name := "CREATE_TOPICS", type := (.object "com/example/lean_broker/leanbroker/protocol/ApiKey"), accessFlags := 16409, slot := 14, constantValue := 0 }, { name := "DELETE_TOPICS", type := (.object "com/example/lean_broker/leanbroker/protocol/ApiKey"), accessFlags := 16409, slot := 15, constantValue := 0 }, { name := "INIT_PRODUCER_ID", type := (.object "com/example/lean_broker/leanbroker/protocol/ApiKey"), accessFlags := 16409, slot := 16, constantValue := 0 }, { name := "DESCRIBE_CONFIGS", type := (.object "com/example/lean_broker/leanbroker/protocol/ApiKey"), accessFlags := 16409, slot := 17, constantValue := 0 }, { name := "CREATE_PARTITIONS", type := (.object "com/example/lean_broker/leanbroker/protocol/ApiKey"), accessFlags := 16409, slot := 18, constantValue := 0 }, { name := "NEVER", type := .short, accessFlags := 26, slot := 19, constantValue := 0 }, { name := "id", type := .short, accessFlags := 18, slot := 3, constantValue := 0 }, { name := "minVersion", type := .short, accessFlags := 18, slot := 4, constantValue := 0 }, { name := "maxVersion", type := .short, accessFlags := 18, slot := 5, constantValue := 0 }, { name := "throttleTimeFrom", type := .short, accessFlags := 18, slot := 6, constantValue := 0 }, { name := "$VALUES", type := (.array (.object "com/example/lean_broker/leanbroker/protocol/ApiKey")), accessFlags := 4122, slot := 20, constantValue := 0 }]
  methods := #[k6m0]
  instanceTypes := #[(.object "java/lang/String"), .int, .int, .short, .short, .short, .short]
  staticTypes := #[(.object "com/example/lean_broker/leanbroker/protocol/ApiKey"), (.object "com/example/lean_broker/leanbroker/protocol/ApiKey"), (.object "com/example/lean_broker/leanbroker/protocol/ApiKey"), (.object "com/example/lean_broker/leanbroker/protocol/ApiKey"), (.object "com/example/lean_broker/leanbroker/protocol/ApiKey"), (.object "com/example/lean_broker/leanbroker/protocol/ApiKey"), (.object "com/example/lean_broker/leanbroker/protocol/ApiKey"), (.object "com/example/lean_broker/leanbroker/protocol/ApiKey"), (.object "com/example/lean_broker/leanbroker/protocol/ApiKey"), (.object "com/example/lean_broker/leanbroker/protocol/ApiKey"), (.object "com/example/lean_broker/leanbroker/protocol/ApiKey"), (.object "com/example/lean_broker/leanbroker/protocol/ApiKey"), (.object "com/example/lean_broker/leanbroker/protocol/ApiKey"), (.object "com/example/lean_broker/leanbroker/protocol/ApiKey"), (.object "com/example/lean_broker/leanbroker/protocol/ApiKey"), (.object "com/example/lean_broker/leanbroker/protocol/ApiKey"), (.object "com/example/lean_broker/leanbroker/protocol/ApiKey"), (.object "com/example/lean_broker/leanbroker/protocol/ApiKey"), (.object "com/example/lean_broker/leanbroker/protocol/ApiKey"), .short, (.array (.object "com/example/lean_broker/leanbroker/protocol/ApiKey"))]
  resolved := Array.replicate 147 none
  statics := some 0 }

def pool7 : Array CpInfo := pool [(1, u "java/lang/Cloneable"), (0, .class_ 1), (0, u "java/lang/Object"), (0, .class_ 3)] 3

/-- java/lang/Cloneable -/
def k7 : Class := { plain "java/lang/Cloneable" (some 0) with
  accessFlags := 1537
  interfaces := #[]
  cf := some (fileOf pool7 2 #[] #[] 1537 4 #[] #[])
  fields := #[]
  methods := #[]
  instanceTypes := #[]
  staticTypes := #[]
  resolved := Array.replicate 8 none
  statics := none }

/-- the primitive byte -/
def k8 : Class := { plain "byte" none with kind := .primitive 'B', accessFlags := 0x411 }
/-- [B -/
def k9 : Class := { plain "[B" (some 0) with kind := .array 8 .byte, interfaces := #[7, 4], accessFlags := 1041 }

/-- the primitive int -/
def k10 : Class := { plain "int" none with kind := .primitive 'I', accessFlags := 0x411 }
/-- [I -/
def k11 : Class := { plain "[I" (some 0) with kind := .array 10 .int, interfaces := #[7, 4], accessFlags := 1041 }

/-- [Lcom/example/lean_broker/leanbroker/protocol/ApiKey; -/
def k12 : Class := { plain "[Lcom/example/lean_broker/leanbroker/protocol/ApiKey;" (some 0) with kind := .array 6 (.object "com/example/lean_broker/leanbroker/protocol/ApiKey"), interfaces := #[7, 4], accessFlags := 1041 }

def heap : Heap := #[{ cls := 6, slots := #[.ref 1, .ref 2, .ref 3, .ref 4, .ref 5, .ref 6, .ref 7, .ref 8, .ref 9, .ref 10, .ref 11, .ref 12, .ref 13, .ref 14, .ref 15, .ref 16, .ref 17, .ref 18, .ref 19, .int 0, .null], vm := .statics 6 },
  { cls := 6, slots := #[.null, .int 0, .int 0, .int 0, .int 0, .int 3, .int 0], vm := .none },
  { cls := 6, slots := #[.null, .int 1, .int 0, .int 0, .int 0, .int 4, .int 0], vm := .none },
  { cls := 6, slots := #[.null, .int 2, .int 0, .int 0, .int 0, .int 1, .int 0], vm := .none },
  { cls := 6, slots := #[.null, .int 3, .int 0, .int 0, .int 0, .int 4, .int 0], vm := .none },
  { cls := 6, slots := #[.null, .int 4, .int 0, .int 0, .int 0, .int 2, .int 0], vm := .none },
  { cls := 6, slots := #[.null, .int 5, .int 0, .int 0, .int 0, .int 2, .int 0], vm := .none },
  { cls := 6, slots := #[.null, .int 6, .int 0, .int 0, .int 0, .int 0, .int 0], vm := .none },
  { cls := 6, slots := #[.null, .int 7, .int 0, .int 0, .int 0, .int 2, .int 0], vm := .none },
  { cls := 6, slots := #[.null, .int 8, .int 0, .int 0, .int 0, .int 1, .int 0], vm := .none },
  { cls := 6, slots := #[.null, .int 9, .int 0, .int 0, .int 0, .int 1, .int 0], vm := .none },
  { cls := 6, slots := #[.null, .int 10, .int 0, .int 0, .int 0, .int 1, .int 0], vm := .none },
  { cls := 6, slots := #[.null, .int 11, .int 0, .int 0, .int 0, .int 0, .int 0], vm := .none },
  { cls := 6, slots := #[.null, .int 12, .int 0, .int 0, .int 0, .int 0, .int 0], vm := .none },
  { cls := 6, slots := #[.null, .int 13, .int 0, .int 0, .int 0, .int 0, .int 0], vm := .none },
  { cls := 6, slots := #[.null, .int 14, .int 0, .int 0, .int 0, .int 0, .int 0], vm := .none },
  { cls := 6, slots := #[.null, .int 15, .int 0, .int 0, .int 0, .int 0, .int 0], vm := .none },
  { cls := 6, slots := #[.null, .int 16, .int 0, .int 0, .int 0, .int 1, .int 0], vm := .none },
  { cls := 6, slots := #[.null, .int 17, .int 0, .int 0, .int 0, .int 2, .int 0], vm := .none },
  { cls := 6, slots := #[.null, .int 18, .int 0, .int 0, .int 0, .int 1, .int 0], vm := .none }]
def classes : Array Class := #[k0, k1, k2, k3, k4, k5, k6, k7, k8, k9, k10, k11, k12]
def interned : List (Array UInt16 × Addr) := []
def slotsUsed : Nat := 154
def theMethod : MethodId := ⟨1, 1⟩
def args0 : Array Value := #[.int 5, .int 7]
def aboutOver (below : List Frame) : State where
  vm := { classes := classes, interned := interned.toArray }
  heap := heap
  slotsUsed := slotsUsed
  threads := #[{ frames := .invoking theMethod args0 :: below }]
def below0 : List Frame := [.native { method := ⟨0, 0⟩, args := #[] }]
def about1 : State := aboutOver below0
def p0 : Program := .bare "" "" ""
def e0 : Env := launch0.env 0 0 0
theorem w_frames : about1.frames = Frame.invoking theMethod args0 :: below0 := rfl
set_option maxRecDepth 65536 in
theorem w_args : argsFit about1.vm theMethod args0 = true := by decide +kernel
set_option maxRecDepth 65536 in
theorem w_heap : heapFits about1 = true := by decide +kernel
set_option maxRecDepth 65536 in
theorem w_runnable : about1.curStatus? = some .runnable := by decide +kernel
set_option maxRecDepth 65536 in
theorem w_alone : about1.alone = true := by decide +kernel
set_option maxRecDepth 65536 in
theorem w_named : about1.methodNamed? x = some theMethod := by decide +kernel
set_option maxRecDepth 65536 in
theorem w_hears : about1.hears theMethod below0 = true := by decide +kernel
set_option maxRecDepth 65536 in
theorem w_ripe : about1.ripe theMethod args0 below0 = true := by decide +kernel
theorem w_running : about1.status = .running := rfl
set_option maxRecDepth 65536 in
theorem w_room : about1.hasRoom e0.platform room_1 = true :=
  launch0.hasRoom_least _ room_1 (by decide +kernel) (by decide +kernel) (by decide +kernel) (by decide +kernel) (by decide +kernel) (by decide +kernel)
theorem allAtoms_all (ts : List Jvm.Cond) (a : Array Jvm.Value) (st : Jvm.State) : (allAtoms ts).before a st = ts.all (fun c => c.before a st) := by
  induction ts with
  | nil => rfl
  | cons c t ih =>
    show (Jvm.Cond.and c (allAtoms t)).before a st = _
    rw [Jvm.Cond.before_and, ih, List.all_cons]
def words1 : List Jvm.Cond := Jvm.Cond.code x code maxLocals ret :: tables_1
/-- a 'code' word, met by the world's own term for the bytes: nothing is compared byte by byte -/
theorem code_word {y : MethodName} {bytes : ByteArray} {mx : Nat} {rt : Option FieldType} {a : Array Value} {s : State} {m : MethodId} {meth : Method} {c : Code} (h1 : s.methodNamed? y = some m) (h2 : s.vm.method? m = some meth) (h3 : meth.code = some c) (h4 : c.code = bytes)
    (h5 : (c.maxLocals == mx && c.exceptionTable.isEmpty && decide (c.maxStack ≤ mostOperands) && decide (meth.sig.returnType = rt) && !meth.locks && decide (parseMethodDescriptor y.desc = some meth.sig)) = true) : (Jvm.Cond.code y bytes mx rt).before a s = true := by
  simp only [Bool.and_eq_true, beq_iff_eq, Bool.not_eq_true', decide_eq_true_eq] at h5
  obtain ⟨⟨⟨⟨⟨g1, g2⟩, g3⟩, g4⟩, g5⟩, g6⟩ := h5
  simp [Cond.before, Cond.holds, Cond.value, h1, h2, h3, h4, g1, g2, g3, g4, g5, g6]
def isCode : Jvm.Cond → Bool
  | .code _ _ _ _ => true
  | _ => false
theorem all_split {L : List Jvm.Cond} {P : Jvm.Cond → Bool} (h1 : L.all (fun c => isCode c || P c) = true) (h2 : ∀ c ∈ L.filter isCode, P c = true) : L.all P = true := by
  refine List.all_eq_true.mpr fun c hc => ?_
  have h := List.all_eq_true.mp h1 c hc
  rcases Bool.eq_false_or_eq_true (isCode c) with hi | hi
  · exact h2 c (List.mem_filter.mpr ⟨hc, hi⟩)
  · simpa [hi] using h
set_option maxRecDepth 65536 in
theorem w_c0 : (Jvm.Cond.code x code maxLocals ret).before args0 about1 = true := code_word (m := ⟨1, 1⟩) (meth := k1m1) (c := k1c1) (by decide +kernel) rfl rfl rfl (by decide +kernel)
set_option maxRecDepth 65536 in
theorem w_c1 : (Jvm.Cond.code ({ cls := "com/example/lean_broker/leanbroker/protocol/ApiKey", name := "serves", desc := "(S)Z" } : Jvm.MethodName) prog_1_method_8_code (2 : Nat) (Option.some Jvm.ClassFile.FieldType.boolean)).before args0 about1 = true := code_word (m := ⟨6, 0⟩) (meth := k6m0) (c := k6c0) (by decide +kernel) rfl rfl rfl (by decide +kernel)
def codes1 : List Jvm.Cond := [Jvm.Cond.code x code maxLocals ret, Jvm.Cond.code ({ cls := "com/example/lean_broker/leanbroker/protocol/ApiKey", name := "serves", desc := "(S)Z" } : Jvm.MethodName) prog_1_method_8_code (2 : Nat) (Option.some Jvm.ClassFile.FieldType.boolean)]
set_option maxRecDepth 65536 in
theorem codes_eq : words1.filter isCode = codes1 := rfl
theorem w_codes : ∀ c ∈ words1.filter isCode, c.before args0 about1 = true := by
  rw [codes_eq]
  intro c hc
  simp only [codes1, List.mem_cons, List.not_mem_nil, or_false] at hc
  rcases hc with rfl | rfl
  · exact w_c0
  · exact w_c1
set_option maxRecDepth 65536 in
theorem w_t1 : (words1.take 24).all (fun c => isCode c || c.before args0 about1) = true := by decide +kernel
set_option maxRecDepth 65536 in
theorem w_t2 : ((words1.drop 24).take 24).all (fun c => isCode c || c.before args0 about1) = true := by decide +kernel
set_option maxRecDepth 65536 in
theorem w_t3 : ((words1.drop 24).drop 24).all (fun c => isCode c || c.before args0 about1) = true := by decide +kernel
theorem w_tables : (allAtoms (Jvm.Cond.code x code maxLocals ret :: tables_1)).before args0 about1 = true := by
  rw [allAtoms_all]
  show words1.all (fun c => c.before args0 about1) = true
  refine all_split ?_ w_codes
  rw [← List.take_append_drop 24 words1, List.all_append, w_t1, ← List.take_append_drop 24 (words1.drop 24), List.all_append, w_t2, w_t3]
  rfl
set_option maxRecDepth 65536 in
theorem w_case : (Jvm.Cond.and given_1 narrow_1).before args0 about1 = true := by decide +kernel
theorem w_applies : (headSpec (Jvm.Cond.code x code maxLocals ret :: tables_1) room_1).applies x e0.platform about1 = true :=
  (Spec.applies_iff w_frames).mpr ⟨w_running, w_runnable, w_alone, w_named, w_hears, w_ripe, w_room, w_tables⟩
theorem atStart : AtStart classFile x code maxLocals ret World_1 tables_1 room_1 Calls_1 rest_1 Pre_1 launch0 p0 e0 about1 theMethod args0 below0 :=
  ⟨lists_1, trivial, launch0.admits_env _ _ _, launch0.least_env, fairChoices_fair.cas, fairChoices_fair.clock, w_frames, w_args, w_heap, w_applies, trivial, trivial, w_case⟩
end start1
theorem witness_1 : WitnessClaimed_1 := ⟨start1.p0, start1.e0, start1.about1, start1.theMethod, start1.args0, start1.below0, start1.atStart⟩
end Jvm.Pilot.@@N@@
