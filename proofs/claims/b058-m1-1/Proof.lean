import JvmDerived
import JvmDerived.Pilot.@@N@@Statement
import JvmDerived.Pilot.@@N@@Code
set_option linter.unusedVariables false
set_option linter.unusedSimpArgs false
@@BLOCK:NumsL.lean.txt@@
namespace Jvm.Pilot.@@N@@
open Jvm Jvm.ClassFile Sem Op Lib Jvm.Free Jvm.Stand Jvm.LawKit Jvm.RoadKit Bundle Jvm.Pilot.@@N@@.Jvm.D
/-- what a body leaves that writes nothing: its value, no place written, the heap as it was -/
def QP (val : Value) (h0 : Heap) (n0 : Nat) (v : Option Value) (h : Heap) (L : List Loc) : Prop := v = some val ∧ Fr n0 L ∧ h = h0
/-- what the law leaves: true -/
def Q1 (n0 : Nat) (v : Option Value) (h : Heap) (L : List Loc) : Prop := v = some (.int 1) ∧ Fr n0 L
theorem own_eq_int {args : Array Value} {s : State} {t : Term} {k : Int32} (h : (Jvm.Cond.eq t (.int k)).value args s none s [] = some true) : t.eval args s none [] s = some (.int k) := by
  simp only [Cond.value, Term.eval] at h
  cases ht : t.eval args s none [] s with
  | none => simp [ht] at h
  | some x => cases x <;> simp [ht] at h ⊢; exact h
theorem own_fld {args : Array Value} {s : State} {t : Term} {a : Addr} {C n d : String} {k : Int32} (ev : t.eval args s none [] s = some (.ref a)) (h : (Jvm.Cond.eq (.field t C n d) (.int k)).value args s none s [] = some true) : Fld s s.heap a C n d (.int k) :=
  Fld.start ((fld_at ev).symm.trans (own_eq_int h))
theorem own_toInt32_inj {i j : Nat} (hi : i < 2 ^ 31) (hj : j < 2 ^ 31) (h : i.toInt32 = j.toInt32) : i = j := by
  have := congrArg Int32.toInt h
  rw [len_toInt hi, len_toInt hj] at this
  omega
theorem own_inj {Z : State} {h : Heap} {w : Nat → Addr} {n : Nat} (hn : n < 2 ^ 31) (F : ∀ i, i < n → Fld Z h (w i) "java/lang/Enum" "ordinal" "I" (.int i.toInt32)) : ∀ i j, i < n → j < n → w i = w j → i = j := fun i j hi hj e => by
  by_cases q : i = j
  · exact q
  · exact absurd e (Fld.ne (F i hi) (F j hj) fun h => q (own_toInt32_inj (by omega) (by omega) (Value.int.inj h)))
theorem own_i32 {i : Int32} {N : Nat} (hN : N < 2 ^ 31) (h0 : 0 ≤ i.toInt) (h1 : i.toInt < N) : ∃ k : Nat, k < N ∧ i = k.toInt32 := by
  refine ⟨i.toInt.toNat, by omega, Int32.toInt_inj.mp ?_⟩
  rw [len_toInt (by omega)]
  omega
theorem own_mod (x n : Int32) (N : Nat) (hN : n.toInt = N) (h : 0 < N) : ∃ k : Nat, k < N ∧ (x &&& (2147483647 : Int32)) % n = k.toInt32 := by
  have e1 : (x &&& (2147483647 : Int32)).toInt = x.toInt % 2 ^ 31 := Jvm.Kit.i32_mask x 2147483647 (k := 31) (by decide) (by decide)
  have e2 : ((x &&& (2147483647 : Int32)) % n).toInt = (x &&& (2147483647 : Int32)).toInt % n.toInt := Jvm.Kit.i32_rem_nonneg (by omega)
  have hlt := n.toInt_lt
  have h3 : 0 ≤ (x &&& (2147483647 : Int32)).toInt % n.toInt := Int.emod_nonneg _ (by omega)
  have h4 : (x &&& (2147483647 : Int32)).toInt % n.toInt < n.toInt := Int.emod_lt_of_pos _ (by omega)
  exact own_i32 (by omega) (by omega) (by omega)
theorem own_mask (x n : Int32) {k : Nat} (hk : k < 31) (hm : n.toBitVec.toNat = 2 ^ k - 1) : ∃ j : Nat, j < 2 ^ k ∧ x &&& n = j.toInt32 := by
  have e1 : (x &&& n).toInt = x.toInt % 2 ^ k := Jvm.Kit.i32_mask x n (k := k) (by omega) hm
  have hp : (2 : Nat) ^ k < 2 ^ 31 := Nat.pow_lt_pow_right (by decide) hk
  have hp1 : (0 : Int) < 2 ^ k := Int.pow_pos (by decide)
  have h3 : 0 ≤ x.toInt % 2 ^ k := Int.emod_nonneg _ (by omega)
  have h4 : x.toInt % 2 ^ k < 2 ^ k := Int.emod_lt_of_pos _ hp1
  refine own_i32 hp (by rw [e1]; exact h3) (by rw [e1]; push_cast; exact h4)
theorem own_lt_irrefl {a b : Int64} (h : a = b) : ¬ a < b ∧ ¬ b < a := by subst h; simp [Int64.lt_irrefl]
theorem own_lt_asymm {a b : Int64} (h : a < b) : ¬ b < a := Int64.lt_asymm h
theorem own_lt_total {a b : Int64} (h1 : ¬ a = b) (h2 : ¬ a < b) : b < a := by
  rw [Int64.lt_iff_toInt_lt] at h2 ⊢; rw [← Int64.toInt_inj] at h1; omega
def STA (Z : State) (h : Heap) (w : Nat → Addr) : Prop := Sta Z h "com/example/lean_broker/leanbroker/protocol/ApiKey" "PRODUCE" "Lcom/example/lean_broker/leanbroker/protocol/ApiKey;" (.ref (w 0)) ∧ Sta Z h "com/example/lean_broker/leanbroker/protocol/ApiKey" "FETCH" "Lcom/example/lean_broker/leanbroker/protocol/ApiKey;" (.ref (w 1)) ∧ Sta Z h "com/example/lean_broker/leanbroker/protocol/ApiKey" "LIST_OFFSETS" "Lcom/example/lean_broker/leanbroker/protocol/ApiKey;" (.ref (w 2)) ∧ Sta Z h "com/example/lean_broker/leanbroker/protocol/ApiKey" "METADATA" "Lcom/example/lean_broker/leanbroker/protocol/ApiKey;" (.ref (w 3)) ∧ Sta Z h "com/example/lean_broker/leanbroker/protocol/ApiKey" "OFFSET_COMMIT" "Lcom/example/lean_broker/leanbroker/protocol/ApiKey;" (.ref (w 4)) ∧ Sta Z h "com/example/lean_broker/leanbroker/protocol/ApiKey" "OFFSET_FETCH" "Lcom/example/lean_broker/leanbroker/protocol/ApiKey;" (.ref (w 5)) ∧ Sta Z h "com/example/lean_broker/leanbroker/protocol/ApiKey" "FIND_COORDINATOR" "Lcom/example/lean_broker/leanbroker/protocol/ApiKey;" (.ref (w 6)) ∧ Sta Z h "com/example/lean_broker/leanbroker/protocol/ApiKey" "JOIN_GROUP" "Lcom/example/lean_broker/leanbroker/protocol/ApiKey;" (.ref (w 7)) ∧ Sta Z h "com/example/lean_broker/leanbroker/protocol/ApiKey" "HEARTBEAT" "Lcom/example/lean_broker/leanbroker/protocol/ApiKey;" (.ref (w 8)) ∧ Sta Z h "com/example/lean_broker/leanbroker/protocol/ApiKey" "LEAVE_GROUP" "Lcom/example/lean_broker/leanbroker/protocol/ApiKey;" (.ref (w 9)) ∧ Sta Z h "com/example/lean_broker/leanbroker/protocol/ApiKey" "SYNC_GROUP" "Lcom/example/lean_broker/leanbroker/protocol/ApiKey;" (.ref (w 10)) ∧ Sta Z h "com/example/lean_broker/leanbroker/protocol/ApiKey" "DESCRIBE_GROUPS" "Lcom/example/lean_broker/leanbroker/protocol/ApiKey;" (.ref (w 11)) ∧ Sta Z h "com/example/lean_broker/leanbroker/protocol/ApiKey" "LIST_GROUPS" "Lcom/example/lean_broker/leanbroker/protocol/ApiKey;" (.ref (w 12)) ∧ Sta Z h "com/example/lean_broker/leanbroker/protocol/ApiKey" "API_VERSIONS" "Lcom/example/lean_broker/leanbroker/protocol/ApiKey;" (.ref (w 13)) ∧ Sta Z h "com/example/lean_broker/leanbroker/protocol/ApiKey" "CREATE_TOPICS" "Lcom/example/lean_broker/leanbroker/protocol/ApiKey;" (.ref (w 14)) ∧ Sta Z h "com/example/lean_broker/leanbroker/protocol/ApiKey" "DELETE_TOPICS" "Lcom/example/lean_broker/leanbroker/protocol/ApiKey;" (.ref (w 15)) ∧ Sta Z h "com/example/lean_broker/leanbroker/protocol/ApiKey" "INIT_PRODUCER_ID" "Lcom/example/lean_broker/leanbroker/protocol/ApiKey;" (.ref (w 16)) ∧ Sta Z h "com/example/lean_broker/leanbroker/protocol/ApiKey" "DESCRIBE_CONFIGS" "Lcom/example/lean_broker/leanbroker/protocol/ApiKey;" (.ref (w 17)) ∧ Sta Z h "com/example/lean_broker/leanbroker/protocol/ApiKey" "CREATE_PARTITIONS" "Lcom/example/lean_broker/leanbroker/protocol/ApiKey;" (.ref (w 18))
def own_pk (i : Int32) : Nat := if i = 0 then 0 else if i = 1 then 1 else if i = 2 then 2 else if i = 3 then 3 else if i = 4 then 4 else if i = 5 then 5 else if i = 6 then 6 else if i = 7 then 7 else if i = 8 then 8 else if i = 9 then 9 else if i = 10 then 10 else if i = 11 then 11 else if i = 12 then 12 else if i = 13 then 13 else if i = 14 then 14 else if i = 15 then 15 else if i = 16 then 16 else if i = 17 then 17 else 18
theorem own_pk_eq : ∀ k, k < 19 → own_pk k.toInt32 = k := by decide
def own_fr (i : Int32) : Int32 := if i = 0 then (-1) else if i = 1 then 1 else if i = 2 then 2 else if i = 3 then 3 else if i = 4 then 3 else if i = 5 then 3 else if i = 6 then 1 else if i = 7 then 2 else if i = 8 then 1 else if i = 9 then 1 else if i = 10 then 1 else if i = 11 then 1 else if i = 12 then 1 else if i = 13 then (-1) else if i = 14 then 2 else if i = 15 then 1 else if i = 16 then 0 else if i = 17 then 0 else 0
theorem own_fr_neg : ∀ k, k < 19 → own_fr k.toInt32 < 0 → own_fr k.toInt32 = -1 := by decide
theorem own_pd_0 : parseMethodDescriptor "(I)Lcom/example/lean_broker/leanbroker/protocol/ApiKey;" = some ⟨[.int], some (.object "com/example/lean_broker/leanbroker/protocol/ApiKey")⟩ := by decide +kernel
theorem own_pd_1 : parseMethodDescriptor "(I)I" = some ⟨[.int], some .int⟩ := by decide +kernel
theorem own_pd_2 : parseMethodDescriptor "(S)Z" = some ⟨[.short], some .boolean⟩ := by decide +kernel
theorem own_d1_0 : decode method_3_code 0 = .ok (.iload_n 0, 1) := by decide +kernel
theorem own_d1_1 : decode method_3_code 1 = .ok (.ifCond .ne 7, 3) := by decide +kernel
theorem own_d1_4 : decode method_3_code 4 = .ok (.getstatic 24, 3) := by decide +kernel
theorem own_d1_7 : decode method_3_code 7 = .ok (.areturn, 1) := by decide +kernel
theorem own_d1_8 : decode method_3_code 8 = .ok (.iload_n 0, 1) := by decide +kernel
theorem own_d1_9 : decode method_3_code 9 = .ok (.iconst 1, 1) := by decide +kernel
theorem own_d1_10 : decode method_3_code 10 = .ok (.if_icmp .ne 7, 3) := by decide +kernel
theorem own_d1_13 : decode method_3_code 13 = .ok (.getstatic 28, 3) := by decide +kernel
theorem own_d1_16 : decode method_3_code 16 = .ok (.areturn, 1) := by decide +kernel
theorem own_d1_17 : decode method_3_code 17 = .ok (.iload_n 0, 1) := by decide +kernel
theorem own_d1_18 : decode method_3_code 18 = .ok (.iconst 2, 1) := by decide +kernel
theorem own_d1_19 : decode method_3_code 19 = .ok (.if_icmp .ne 7, 3) := by decide +kernel
theorem own_d1_22 : decode method_3_code 22 = .ok (.getstatic 31, 3) := by decide +kernel
theorem own_d1_25 : decode method_3_code 25 = .ok (.areturn, 1) := by decide +kernel
theorem own_d1_26 : decode method_3_code 26 = .ok (.iload_n 0, 1) := by decide +kernel
theorem own_d1_27 : decode method_3_code 27 = .ok (.iconst 3, 1) := by decide +kernel
theorem own_d1_28 : decode method_3_code 28 = .ok (.if_icmp .ne 7, 3) := by decide +kernel
theorem own_d1_31 : decode method_3_code 31 = .ok (.getstatic 34, 3) := by decide +kernel
theorem own_d1_34 : decode method_3_code 34 = .ok (.areturn, 1) := by decide +kernel
theorem own_d1_35 : decode method_3_code 35 = .ok (.iload_n 0, 1) := by decide +kernel
theorem own_d1_36 : decode method_3_code 36 = .ok (.iconst 4, 1) := by decide +kernel
theorem own_d1_37 : decode method_3_code 37 = .ok (.if_icmp .ne 7, 3) := by decide +kernel
theorem own_d1_40 : decode method_3_code 40 = .ok (.getstatic 37, 3) := by decide +kernel
theorem own_d1_43 : decode method_3_code 43 = .ok (.areturn, 1) := by decide +kernel
theorem own_d1_44 : decode method_3_code 44 = .ok (.iload_n 0, 1) := by decide +kernel
theorem own_d1_45 : decode method_3_code 45 = .ok (.iconst 5, 1) := by decide +kernel
theorem own_d1_46 : decode method_3_code 46 = .ok (.if_icmp .ne 7, 3) := by decide +kernel
theorem own_d1_49 : decode method_3_code 49 = .ok (.getstatic 40, 3) := by decide +kernel
theorem own_d1_52 : decode method_3_code 52 = .ok (.areturn, 1) := by decide +kernel
theorem own_d1_53 : decode method_3_code 53 = .ok (.iload_n 0, 1) := by decide +kernel
theorem own_d1_54 : decode method_3_code 54 = .ok (.bipush 6, 2) := by decide +kernel
theorem own_d1_56 : decode method_3_code 56 = .ok (.if_icmp .ne 7, 3) := by decide +kernel
theorem own_d1_59 : decode method_3_code 59 = .ok (.getstatic 43, 3) := by decide +kernel
theorem own_d1_62 : decode method_3_code 62 = .ok (.areturn, 1) := by decide +kernel
theorem own_d1_63 : decode method_3_code 63 = .ok (.iload_n 0, 1) := by decide +kernel
theorem own_d1_64 : decode method_3_code 64 = .ok (.bipush 7, 2) := by decide +kernel
theorem own_d1_66 : decode method_3_code 66 = .ok (.if_icmp .ne 7, 3) := by decide +kernel
theorem own_d1_69 : decode method_3_code 69 = .ok (.getstatic 46, 3) := by decide +kernel
theorem own_d1_72 : decode method_3_code 72 = .ok (.areturn, 1) := by decide +kernel
theorem own_d1_73 : decode method_3_code 73 = .ok (.iload_n 0, 1) := by decide +kernel
theorem own_d1_74 : decode method_3_code 74 = .ok (.bipush 8, 2) := by decide +kernel
theorem own_d1_76 : decode method_3_code 76 = .ok (.if_icmp .ne 7, 3) := by decide +kernel
theorem own_d1_79 : decode method_3_code 79 = .ok (.getstatic 49, 3) := by decide +kernel
theorem own_d1_82 : decode method_3_code 82 = .ok (.areturn, 1) := by decide +kernel
theorem own_d1_83 : decode method_3_code 83 = .ok (.iload_n 0, 1) := by decide +kernel
theorem own_d1_84 : decode method_3_code 84 = .ok (.bipush 9, 2) := by decide +kernel
theorem own_d1_86 : decode method_3_code 86 = .ok (.if_icmp .ne 7, 3) := by decide +kernel
theorem own_d1_89 : decode method_3_code 89 = .ok (.getstatic 52, 3) := by decide +kernel
theorem own_d1_92 : decode method_3_code 92 = .ok (.areturn, 1) := by decide +kernel
theorem own_d1_93 : decode method_3_code 93 = .ok (.iload_n 0, 1) := by decide +kernel
theorem own_d1_94 : decode method_3_code 94 = .ok (.bipush 10, 2) := by decide +kernel
theorem own_d1_96 : decode method_3_code 96 = .ok (.if_icmp .ne 7, 3) := by decide +kernel
theorem own_d1_99 : decode method_3_code 99 = .ok (.getstatic 55, 3) := by decide +kernel
theorem own_d1_102 : decode method_3_code 102 = .ok (.areturn, 1) := by decide +kernel
theorem own_d1_103 : decode method_3_code 103 = .ok (.iload_n 0, 1) := by decide +kernel
theorem own_d1_104 : decode method_3_code 104 = .ok (.bipush 11, 2) := by decide +kernel
theorem own_d1_106 : decode method_3_code 106 = .ok (.if_icmp .ne 7, 3) := by decide +kernel
theorem own_d1_109 : decode method_3_code 109 = .ok (.getstatic 58, 3) := by decide +kernel
theorem own_d1_112 : decode method_3_code 112 = .ok (.areturn, 1) := by decide +kernel
theorem own_d1_113 : decode method_3_code 113 = .ok (.iload_n 0, 1) := by decide +kernel
theorem own_d1_114 : decode method_3_code 114 = .ok (.bipush 12, 2) := by decide +kernel
theorem own_d1_116 : decode method_3_code 116 = .ok (.if_icmp .ne 7, 3) := by decide +kernel
theorem own_d1_119 : decode method_3_code 119 = .ok (.getstatic 61, 3) := by decide +kernel
theorem own_d1_122 : decode method_3_code 122 = .ok (.areturn, 1) := by decide +kernel
theorem own_d1_123 : decode method_3_code 123 = .ok (.iload_n 0, 1) := by decide +kernel
theorem own_d1_124 : decode method_3_code 124 = .ok (.bipush 13, 2) := by decide +kernel
theorem own_d1_126 : decode method_3_code 126 = .ok (.if_icmp .ne 7, 3) := by decide +kernel
theorem own_d1_129 : decode method_3_code 129 = .ok (.getstatic 64, 3) := by decide +kernel
theorem own_d1_132 : decode method_3_code 132 = .ok (.areturn, 1) := by decide +kernel
theorem own_d1_133 : decode method_3_code 133 = .ok (.iload_n 0, 1) := by decide +kernel
theorem own_d1_134 : decode method_3_code 134 = .ok (.bipush 14, 2) := by decide +kernel
theorem own_d1_136 : decode method_3_code 136 = .ok (.if_icmp .ne 7, 3) := by decide +kernel
theorem own_d1_139 : decode method_3_code 139 = .ok (.getstatic 67, 3) := by decide +kernel
theorem own_d1_142 : decode method_3_code 142 = .ok (.areturn, 1) := by decide +kernel
theorem own_d1_143 : decode method_3_code 143 = .ok (.iload_n 0, 1) := by decide +kernel
theorem own_d1_144 : decode method_3_code 144 = .ok (.bipush 15, 2) := by decide +kernel
theorem own_d1_146 : decode method_3_code 146 = .ok (.if_icmp .ne 7, 3) := by decide +kernel
theorem own_d1_149 : decode method_3_code 149 = .ok (.getstatic 70, 3) := by decide +kernel
theorem own_d1_152 : decode method_3_code 152 = .ok (.areturn, 1) := by decide +kernel
theorem own_d1_153 : decode method_3_code 153 = .ok (.iload_n 0, 1) := by decide +kernel
theorem own_d1_154 : decode method_3_code 154 = .ok (.bipush 16, 2) := by decide +kernel
theorem own_d1_156 : decode method_3_code 156 = .ok (.if_icmp .ne 7, 3) := by decide +kernel
theorem own_d1_159 : decode method_3_code 159 = .ok (.getstatic 73, 3) := by decide +kernel
theorem own_d1_162 : decode method_3_code 162 = .ok (.areturn, 1) := by decide +kernel
theorem own_d1_163 : decode method_3_code 163 = .ok (.iload_n 0, 1) := by decide +kernel
theorem own_d1_164 : decode method_3_code 164 = .ok (.bipush 17, 2) := by decide +kernel
theorem own_d1_166 : decode method_3_code 166 = .ok (.if_icmp .ne 7, 3) := by decide +kernel
theorem own_d1_169 : decode method_3_code 169 = .ok (.getstatic 76, 3) := by decide +kernel
theorem own_d1_172 : decode method_3_code 172 = .ok (.areturn, 1) := by decide +kernel
theorem own_d1_173 : decode method_3_code 173 = .ok (.getstatic 79, 3) := by decide +kernel
theorem own_d1_176 : decode method_3_code 176 = .ok (.areturn, 1) := by decide +kernel
set_option maxRecDepth 65536 in
set_option maxHeartbeats 40000000 in
theorem rm_pick (l : Launch) (Z : State) (a0 : Array Value) (hw : ∀ d ∈ tables_1, d.before a0 Z = true) (ws : List Jvm.Cond) (x0 : Int32) (w : Nat → Addr) (h0 : Heap) (n0 : Nat) (Z0 : n0 ≤ h0.size) (ST : STA Z h0 w) :
    MetFree l (⟨"com/example/lean_broker/leanbroker/protocol/ApiKeyOpensWithThrottleTimePinLaw", "apiOf", "(I)Lcom/example/lean_broker/leanbroker/protocol/ApiKey;"⟩ : MethodName) (head1 (Jvm.Cond.code (⟨"com/example/lean_broker/leanbroker/protocol/ApiKeyOpensWithThrottleTimePinLaw", "apiOf", "(I)Lcom/example/lean_broker/leanbroker/protocol/ApiKey;"⟩ : MethodName) method_3_code 1 (some (.object "com/example/lean_broker/leanbroker/protocol/ApiKey")) :: ws) ({ frames := 0, cells := 0, slots := 0, locals := 0 } : Room)) (fun a U => a = #[(.int x0)] ∧ Z.Warmed39 U.vm ∧ U.heap = h0) (fun _ _ _ _ _ => True) (fun _ U o U' => ∃ v L, o = .returned v ∧ QP (.ref (w (own_pk x0))) h0 n0 v U'.heap L ∧ FrameEnd U o U' L ({ frames := 0, cells := 0, slots := 0, locals := 0 } : Room).cells ({ frames := 0, cells := 0, slots := 0, locals := 0 } : Room).slots) := by
  refine MetFree.of_bodySF (plainFor_of_name (by first | (simp [plainName, overriddenIn]; done) | decide +kernel)) hisR ?_
  intro p e s m args below meth c s₁ Bd hml0 hP hK
  obtain ⟨rfl, hZ, hh⟩ := hP
  have hx := Bd.exec
  have hby := Bd.bytes
  have hml : c.maxLocals = 1 := hml0
  have hown : s.vm.findClass "com/example/lean_broker/leanbroker/protocol/ApiKeyOpensWithThrottleTimePinLaw" = some m.cls := findClass_of_methodNamed Bd.named
  have hnm := (name_of_methodNamed Bd.named Bd.method).1
  have X0 : Stand p l e ({ frames := 0, cells := 0, slots := 0, locals := 0 } : Room) s m #[(.int x0)] below meth c s₁ [] 0 0 := Stand.of_body Bd
  have e0 : s₁.heap = h0 := by rw [← hh, Bd.state]; rfl
  have N0 := Fr.nil n0
  have ef0 : entryFrame m #[(.int x0)] 1 = mkF m 0 #[.val (.int x0)] [] := by first | (simp [entryFrame, mkF, argsToLocals, Value.category, maxLocals]; done) | rfl
  have pre0 : ∀ t, Steps p.tables e below (s₁.setTop (mkF m 0 #[.val (.int x0)] [])) t → Steps p.tables e below (s₁.setTop (entryFrame m #[(.int x0)] 1)) t := fun t k => castTop ef0 k
  have pre1 : ∀ t, Steps p.tables e below (s₁.setTop (mkF m 1 #[.val (.int x0)] [(.int x0)])) t → Steps p.tables e below (s₁.setTop (entryFrame m #[(.int x0)] 1)) t := fun tt kk => pre0 tt (by
    show Steps p.tables e below (s₁.setTop (mkF m 0 #[.val (.int x0)] [])) _
    refine XS.iloadN X0.here hx rfl (hb hby own_d1_0) rfl ?_
    exact kk)
  by_cases hc1 : x0 = (0 : Int32)
  · obtain ⟨T2, X2, e2, st2⟩ := getS2 X0 hx hZ hown (host := "") (Or.inl (hw _ (List.mem_of_getElem? (i := 5) rfl))) Via.refl e0 ST.1 (g := (mkF m 4 #[.val (.int x0)] [])) rfl (hb hby own_d1_4)
    obtain ⟨fs, hr, hrun, hended, hW, hsame⟩ := X2.leave (v := some (.ref (w 0))) (fun h => by rw [Bd.returns] at h; cases h)
    refine ⟨_, _, pre1 _ ?_, hrun, hended, _, _, rfl, ?_, ⟨_, rfl⟩, hW, hsame.mono (by decide) (by decide)⟩
    · show Steps p.tables e below (s₁.setTop (mkF m 1 #[.val (.int x0)] [(.int x0)])) _
      refine XS.ifNo X0.here hx rfl (hb hby own_d1_1) rfl ((if0 _ _).trans (teq hc1).2) ?_
      show Steps p.tables e below (s₁.setTop (mkF m 4 #[.val (.int x0)] [])) _
      refine st2 _ ?_
      show Steps p.tables e below (T2.setTop (mkF m 7 #[.val (.int x0)] [(.ref (w 0))])) _
      exact retOut X2 hx Bd.returns rfl (Or.inr (Or.inr (Or.inr (Or.inr ⟨rfl, rfl, rfl⟩)))) (hb hby own_d1_7) hr
    · show QP (.ref (w (own_pk x0))) h0 n0 _ T2.heap _
      rw [e2]
      exact ⟨by rw [own_pk, if_pos hc1], N0, rfl⟩
  · have pre3 : ∀ t, Steps p.tables e below (s₁.setTop (mkF m 10 #[.val (.int x0)] [(.int (1 : Int32)), (.int x0)])) t → Steps p.tables e below (s₁.setTop (entryFrame m #[(.int x0)] 1)) t := fun tt kk => pre1 tt (by
      show Steps p.tables e below (s₁.setTop (mkF m 1 #[.val (.int x0)] [(.int x0)])) _
      refine XS.ifYes X0.here hx rfl (pc0 := 1) (pc' := 8) rfl (hb hby own_d1_1) rfl ((if0 _ _).trans (feq hc1).2) (by decide) (by decide) ?_
      show Steps p.tables e below (s₁.setTop (mkF m 8 #[.val (.int x0)] [])) _
      refine XS.iloadN X0.here hx rfl (hb hby own_d1_8) rfl ?_
      show Steps p.tables e below (s₁.setTop (mkF m 9 #[.val (.int x0)] [(.int x0)])) _
      refine XS.iconst X0.here hx rfl (hb hby own_d1_9) ?_
      exact kk)
    by_cases hc10 : x0 = (1 : Int32)
    · obtain ⟨T4, X4, e4, st4⟩ := getS2 X0 hx hZ hown (host := "") (Or.inl (hw _ (List.mem_of_getElem? (i := 40) rfl))) Via.refl e0 ST.2.1 (g := (mkF m 13 #[.val (.int x0)] [])) rfl (hb hby own_d1_13)
      obtain ⟨fs, hr, hrun, hended, hW, hsame⟩ := X4.leave (v := some (.ref (w 1))) (fun h => by rw [Bd.returns] at h; cases h)
      refine ⟨_, _, pre3 _ ?_, hrun, hended, _, _, rfl, ?_, ⟨_, rfl⟩, hW, hsame.mono (by decide) (by decide)⟩
      · show Steps p.tables e below (s₁.setTop (mkF m 10 #[.val (.int x0)] [(.int (1 : Int32)), (.int x0)])) _
        refine XS.icmpNo X0.here hx rfl (hb hby own_d1_10) rfl (teq hc10).2 ?_
        show Steps p.tables e below (s₁.setTop (mkF m 13 #[.val (.int x0)] [])) _
        refine st4 _ ?_
        show Steps p.tables e below (T4.setTop (mkF m 16 #[.val (.int x0)] [(.ref (w 1))])) _
        exact retOut X4 hx Bd.returns rfl (Or.inr (Or.inr (Or.inr (Or.inr ⟨rfl, rfl, rfl⟩)))) (hb hby own_d1_16) hr
      · show QP (.ref (w (own_pk x0))) h0 n0 _ T4.heap _
        rw [e4]
        exact ⟨by rw [own_pk, if_neg hc1, if_pos hc10], N0, rfl⟩
    · have pre5 : ∀ t, Steps p.tables e below (s₁.setTop (mkF m 19 #[.val (.int x0)] [(.int (2 : Int32)), (.int x0)])) t → Steps p.tables e below (s₁.setTop (entryFrame m #[(.int x0)] 1)) t := fun tt kk => pre3 tt (by
        show Steps p.tables e below (s₁.setTop (mkF m 10 #[.val (.int x0)] [(.int (1 : Int32)), (.int x0)])) _
        refine XS.icmpYes X0.here hx rfl (pc0 := 10) (pc' := 17) rfl (hb hby own_d1_10) rfl (feq hc10).2 (by decide) (by decide) ?_
        show Steps p.tables e below (s₁.setTop (mkF m 17 #[.val (.int x0)] [])) _
        refine XS.iloadN X0.here hx rfl (hb hby own_d1_17) rfl ?_
        show Steps p.tables e below (s₁.setTop (mkF m 18 #[.val (.int x0)] [(.int x0)])) _
        refine XS.iconst X0.here hx rfl (hb hby own_d1_18) ?_
        exact kk)
      by_cases hc19 : x0 = (2 : Int32)
      · obtain ⟨T6, X6, e6, st6⟩ := getS2 X0 hx hZ hown (host := "") (Or.inl (hw _ (List.mem_of_getElem? (i := 22) rfl))) Via.refl e0 ST.2.2.1 (g := (mkF m 22 #[.val (.int x0)] [])) rfl (hb hby own_d1_22)
        obtain ⟨fs, hr, hrun, hended, hW, hsame⟩ := X6.leave (v := some (.ref (w 2))) (fun h => by rw [Bd.returns] at h; cases h)
        refine ⟨_, _, pre5 _ ?_, hrun, hended, _, _, rfl, ?_, ⟨_, rfl⟩, hW, hsame.mono (by decide) (by decide)⟩
        · show Steps p.tables e below (s₁.setTop (mkF m 19 #[.val (.int x0)] [(.int (2 : Int32)), (.int x0)])) _
          refine XS.icmpNo X0.here hx rfl (hb hby own_d1_19) rfl (teq hc19).2 ?_
          show Steps p.tables e below (s₁.setTop (mkF m 22 #[.val (.int x0)] [])) _
          refine st6 _ ?_
          show Steps p.tables e below (T6.setTop (mkF m 25 #[.val (.int x0)] [(.ref (w 2))])) _
          exact retOut X6 hx Bd.returns rfl (Or.inr (Or.inr (Or.inr (Or.inr ⟨rfl, rfl, rfl⟩)))) (hb hby own_d1_25) hr
        · show QP (.ref (w (own_pk x0))) h0 n0 _ T6.heap _
          rw [e6]
          exact ⟨by rw [own_pk, if_neg hc1, if_neg hc10, if_pos hc19], N0, rfl⟩
      · have pre7 : ∀ t, Steps p.tables e below (s₁.setTop (mkF m 28 #[.val (.int x0)] [(.int (3 : Int32)), (.int x0)])) t → Steps p.tables e below (s₁.setTop (entryFrame m #[(.int x0)] 1)) t := fun tt kk => pre5 tt (by
          show Steps p.tables e below (s₁.setTop (mkF m 19 #[.val (.int x0)] [(.int (2 : Int32)), (.int x0)])) _
          refine XS.icmpYes X0.here hx rfl (pc0 := 19) (pc' := 26) rfl (hb hby own_d1_19) rfl (feq hc19).2 (by decide) (by decide) ?_
          show Steps p.tables e below (s₁.setTop (mkF m 26 #[.val (.int x0)] [])) _
          refine XS.iloadN X0.here hx rfl (hb hby own_d1_26) rfl ?_
          show Steps p.tables e below (s₁.setTop (mkF m 27 #[.val (.int x0)] [(.int x0)])) _
          refine XS.iconst X0.here hx rfl (hb hby own_d1_27) ?_
          exact kk)
        by_cases hc28 : x0 = (3 : Int32)
        · obtain ⟨T8, X8, e8, st8⟩ := getS2 X0 hx hZ hown (host := "") (Or.inl (hw _ (List.mem_of_getElem? (i := 26) rfl))) Via.refl e0 ST.2.2.2.1 (g := (mkF m 31 #[.val (.int x0)] [])) rfl (hb hby own_d1_31)
          obtain ⟨fs, hr, hrun, hended, hW, hsame⟩ := X8.leave (v := some (.ref (w 3))) (fun h => by rw [Bd.returns] at h; cases h)
          refine ⟨_, _, pre7 _ ?_, hrun, hended, _, _, rfl, ?_, ⟨_, rfl⟩, hW, hsame.mono (by decide) (by decide)⟩
          · show Steps p.tables e below (s₁.setTop (mkF m 28 #[.val (.int x0)] [(.int (3 : Int32)), (.int x0)])) _
            refine XS.icmpNo X0.here hx rfl (hb hby own_d1_28) rfl (teq hc28).2 ?_
            show Steps p.tables e below (s₁.setTop (mkF m 31 #[.val (.int x0)] [])) _
            refine st8 _ ?_
            show Steps p.tables e below (T8.setTop (mkF m 34 #[.val (.int x0)] [(.ref (w 3))])) _
            exact retOut X8 hx Bd.returns rfl (Or.inr (Or.inr (Or.inr (Or.inr ⟨rfl, rfl, rfl⟩)))) (hb hby own_d1_34) hr
          · show QP (.ref (w (own_pk x0))) h0 n0 _ T8.heap _
            rw [e8]
            exact ⟨by rw [own_pk, if_neg hc1, if_neg hc10, if_neg hc19, if_pos hc28], N0, rfl⟩
        · have pre9 : ∀ t, Steps p.tables e below (s₁.setTop (mkF m 37 #[.val (.int x0)] [(.int (4 : Int32)), (.int x0)])) t → Steps p.tables e below (s₁.setTop (entryFrame m #[(.int x0)] 1)) t := fun tt kk => pre7 tt (by
            show Steps p.tables e below (s₁.setTop (mkF m 28 #[.val (.int x0)] [(.int (3 : Int32)), (.int x0)])) _
            refine XS.icmpYes X0.here hx rfl (pc0 := 28) (pc' := 35) rfl (hb hby own_d1_28) rfl (feq hc28).2 (by decide) (by decide) ?_
            show Steps p.tables e below (s₁.setTop (mkF m 35 #[.val (.int x0)] [])) _
            refine XS.iloadN X0.here hx rfl (hb hby own_d1_35) rfl ?_
            show Steps p.tables e below (s₁.setTop (mkF m 36 #[.val (.int x0)] [(.int x0)])) _
            refine XS.iconst X0.here hx rfl (hb hby own_d1_36) ?_
            exact kk)
          by_cases hc37 : x0 = (4 : Int32)
          · obtain ⟨T10, X10, e10, st10⟩ := getS2 X0 hx hZ hown (host := "") (Or.inl (hw _ (List.mem_of_getElem? (i := 50) rfl))) Via.refl e0 ST.2.2.2.2.1 (g := (mkF m 40 #[.val (.int x0)] [])) rfl (hb hby own_d1_40)
            obtain ⟨fs, hr, hrun, hended, hW, hsame⟩ := X10.leave (v := some (.ref (w 4))) (fun h => by rw [Bd.returns] at h; cases h)
            refine ⟨_, _, pre9 _ ?_, hrun, hended, _, _, rfl, ?_, ⟨_, rfl⟩, hW, hsame.mono (by decide) (by decide)⟩
            · show Steps p.tables e below (s₁.setTop (mkF m 37 #[.val (.int x0)] [(.int (4 : Int32)), (.int x0)])) _
              refine XS.icmpNo X0.here hx rfl (hb hby own_d1_37) rfl (teq hc37).2 ?_
              show Steps p.tables e below (s₁.setTop (mkF m 40 #[.val (.int x0)] [])) _
              refine st10 _ ?_
              show Steps p.tables e below (T10.setTop (mkF m 43 #[.val (.int x0)] [(.ref (w 4))])) _
              exact retOut X10 hx Bd.returns rfl (Or.inr (Or.inr (Or.inr (Or.inr ⟨rfl, rfl, rfl⟩)))) (hb hby own_d1_43) hr
            · show QP (.ref (w (own_pk x0))) h0 n0 _ T10.heap _
              rw [e10]
              exact ⟨by rw [own_pk, if_neg hc1, if_neg hc10, if_neg hc19, if_neg hc28, if_pos hc37], N0, rfl⟩
          · have pre11 : ∀ t, Steps p.tables e below (s₁.setTop (mkF m 46 #[.val (.int x0)] [(.int (5 : Int32)), (.int x0)])) t → Steps p.tables e below (s₁.setTop (entryFrame m #[(.int x0)] 1)) t := fun tt kk => pre9 tt (by
              show Steps p.tables e below (s₁.setTop (mkF m 37 #[.val (.int x0)] [(.int (4 : Int32)), (.int x0)])) _
              refine XS.icmpYes X0.here hx rfl (pc0 := 37) (pc' := 44) rfl (hb hby own_d1_37) rfl (feq hc37).2 (by decide) (by decide) ?_
              show Steps p.tables e below (s₁.setTop (mkF m 44 #[.val (.int x0)] [])) _
              refine XS.iloadN X0.here hx rfl (hb hby own_d1_44) rfl ?_
              show Steps p.tables e below (s₁.setTop (mkF m 45 #[.val (.int x0)] [(.int x0)])) _
              refine XS.iconst X0.here hx rfl (hb hby own_d1_45) ?_
              exact kk)
            by_cases hc46 : x0 = (5 : Int32)
            · obtain ⟨T12, X12, e12, st12⟩ := getS2 X0 hx hZ hown (host := "") (Or.inl (hw _ (List.mem_of_getElem? (i := 34) rfl))) Via.refl e0 ST.2.2.2.2.2.1 (g := (mkF m 49 #[.val (.int x0)] [])) rfl (hb hby own_d1_49)
              obtain ⟨fs, hr, hrun, hended, hW, hsame⟩ := X12.leave (v := some (.ref (w 5))) (fun h => by rw [Bd.returns] at h; cases h)
              refine ⟨_, _, pre11 _ ?_, hrun, hended, _, _, rfl, ?_, ⟨_, rfl⟩, hW, hsame.mono (by decide) (by decide)⟩
              · show Steps p.tables e below (s₁.setTop (mkF m 46 #[.val (.int x0)] [(.int (5 : Int32)), (.int x0)])) _
                refine XS.icmpNo X0.here hx rfl (hb hby own_d1_46) rfl (teq hc46).2 ?_
                show Steps p.tables e below (s₁.setTop (mkF m 49 #[.val (.int x0)] [])) _
                refine st12 _ ?_
                show Steps p.tables e below (T12.setTop (mkF m 52 #[.val (.int x0)] [(.ref (w 5))])) _
                exact retOut X12 hx Bd.returns rfl (Or.inr (Or.inr (Or.inr (Or.inr ⟨rfl, rfl, rfl⟩)))) (hb hby own_d1_52) hr
              · show QP (.ref (w (own_pk x0))) h0 n0 _ T12.heap _
                rw [e12]
                exact ⟨by rw [own_pk, if_neg hc1, if_neg hc10, if_neg hc19, if_neg hc28, if_neg hc37, if_pos hc46], N0, rfl⟩
            · have pre13 : ∀ t, Steps p.tables e below (s₁.setTop (mkF m 56 #[.val (.int x0)] [(.int (6 : Int32)), (.int x0)])) t → Steps p.tables e below (s₁.setTop (entryFrame m #[(.int x0)] 1)) t := fun tt kk => pre11 tt (by
                show Steps p.tables e below (s₁.setTop (mkF m 46 #[.val (.int x0)] [(.int (5 : Int32)), (.int x0)])) _
                refine XS.icmpYes X0.here hx rfl (pc0 := 46) (pc' := 53) rfl (hb hby own_d1_46) rfl (feq hc46).2 (by decide) (by decide) ?_
                show Steps p.tables e below (s₁.setTop (mkF m 53 #[.val (.int x0)] [])) _
                refine XS.iloadN X0.here hx rfl (hb hby own_d1_53) rfl ?_
                show Steps p.tables e below (s₁.setTop (mkF m 54 #[.val (.int x0)] [(.int x0)])) _
                refine XS.bipush X0.here hx rfl (hb hby own_d1_54) ?_
                exact kk)
              by_cases hc56 : x0 = (6 : Int32)
              · obtain ⟨T14, X14, e14, st14⟩ := getS2 X0 hx hZ hown (host := "") (Or.inl (hw _ (List.mem_of_getElem? (i := 28) rfl))) Via.refl e0 ST.2.2.2.2.2.2.1 (g := (mkF m 59 #[.val (.int x0)] [])) rfl (hb hby own_d1_59)
                obtain ⟨fs, hr, hrun, hended, hW, hsame⟩ := X14.leave (v := some (.ref (w 6))) (fun h => by rw [Bd.returns] at h; cases h)
                refine ⟨_, _, pre13 _ ?_, hrun, hended, _, _, rfl, ?_, ⟨_, rfl⟩, hW, hsame.mono (by decide) (by decide)⟩
                · show Steps p.tables e below (s₁.setTop (mkF m 56 #[.val (.int x0)] [(.int (6 : Int32)), (.int x0)])) _
                  refine XS.icmpNo X0.here hx rfl (hb hby own_d1_56) rfl (teq hc56).2 ?_
                  show Steps p.tables e below (s₁.setTop (mkF m 59 #[.val (.int x0)] [])) _
                  refine st14 _ ?_
                  show Steps p.tables e below (T14.setTop (mkF m 62 #[.val (.int x0)] [(.ref (w 6))])) _
                  exact retOut X14 hx Bd.returns rfl (Or.inr (Or.inr (Or.inr (Or.inr ⟨rfl, rfl, rfl⟩)))) (hb hby own_d1_62) hr
                · show QP (.ref (w (own_pk x0))) h0 n0 _ T14.heap _
                  rw [e14]
                  exact ⟨by rw [own_pk, if_neg hc1, if_neg hc10, if_neg hc19, if_neg hc28, if_neg hc37, if_neg hc46, if_pos hc56], N0, rfl⟩
              · have pre15 : ∀ t, Steps p.tables e below (s₁.setTop (mkF m 66 #[.val (.int x0)] [(.int (7 : Int32)), (.int x0)])) t → Steps p.tables e below (s₁.setTop (entryFrame m #[(.int x0)] 1)) t := fun tt kk => pre13 tt (by
                  show Steps p.tables e below (s₁.setTop (mkF m 56 #[.val (.int x0)] [(.int (6 : Int32)), (.int x0)])) _
                  refine XS.icmpYes X0.here hx rfl (pc0 := 56) (pc' := 63) rfl (hb hby own_d1_56) rfl (feq hc56).2 (by decide) (by decide) ?_
                  show Steps p.tables e below (s₁.setTop (mkF m 63 #[.val (.int x0)] [])) _
                  refine XS.iloadN X0.here hx rfl (hb hby own_d1_63) rfl ?_
                  show Steps p.tables e below (s₁.setTop (mkF m 64 #[.val (.int x0)] [(.int x0)])) _
                  refine XS.bipush X0.here hx rfl (hb hby own_d1_64) ?_
                  exact kk)
                by_cases hc66 : x0 = (7 : Int32)
                · obtain ⟨T16, X16, e16, st16⟩ := getS2 X0 hx hZ hown (host := "") (Or.inl (hw _ (List.mem_of_getElem? (i := 36) rfl))) Via.refl e0 ST.2.2.2.2.2.2.2.1 (g := (mkF m 69 #[.val (.int x0)] [])) rfl (hb hby own_d1_69)
                  obtain ⟨fs, hr, hrun, hended, hW, hsame⟩ := X16.leave (v := some (.ref (w 7))) (fun h => by rw [Bd.returns] at h; cases h)
                  refine ⟨_, _, pre15 _ ?_, hrun, hended, _, _, rfl, ?_, ⟨_, rfl⟩, hW, hsame.mono (by decide) (by decide)⟩
                  · show Steps p.tables e below (s₁.setTop (mkF m 66 #[.val (.int x0)] [(.int (7 : Int32)), (.int x0)])) _
                    refine XS.icmpNo X0.here hx rfl (hb hby own_d1_66) rfl (teq hc66).2 ?_
                    show Steps p.tables e below (s₁.setTop (mkF m 69 #[.val (.int x0)] [])) _
                    refine st16 _ ?_
                    show Steps p.tables e below (T16.setTop (mkF m 72 #[.val (.int x0)] [(.ref (w 7))])) _
                    exact retOut X16 hx Bd.returns rfl (Or.inr (Or.inr (Or.inr (Or.inr ⟨rfl, rfl, rfl⟩)))) (hb hby own_d1_72) hr
                  · show QP (.ref (w (own_pk x0))) h0 n0 _ T16.heap _
                    rw [e16]
                    exact ⟨by rw [own_pk, if_neg hc1, if_neg hc10, if_neg hc19, if_neg hc28, if_neg hc37, if_neg hc46, if_neg hc56, if_pos hc66], N0, rfl⟩
                · have pre17 : ∀ t, Steps p.tables e below (s₁.setTop (mkF m 76 #[.val (.int x0)] [(.int (8 : Int32)), (.int x0)])) t → Steps p.tables e below (s₁.setTop (entryFrame m #[(.int x0)] 1)) t := fun tt kk => pre15 tt (by
                    show Steps p.tables e below (s₁.setTop (mkF m 66 #[.val (.int x0)] [(.int (7 : Int32)), (.int x0)])) _
                    refine XS.icmpYes X0.here hx rfl (pc0 := 66) (pc' := 73) rfl (hb hby own_d1_66) rfl (feq hc66).2 (by decide) (by decide) ?_
                    show Steps p.tables e below (s₁.setTop (mkF m 73 #[.val (.int x0)] [])) _
                    refine XS.iloadN X0.here hx rfl (hb hby own_d1_73) rfl ?_
                    show Steps p.tables e below (s₁.setTop (mkF m 74 #[.val (.int x0)] [(.int x0)])) _
                    refine XS.bipush X0.here hx rfl (hb hby own_d1_74) ?_
                    exact kk)
                  by_cases hc76 : x0 = (8 : Int32)
                  · obtain ⟨T18, X18, e18, st18⟩ := getS2 X0 hx hZ hown (host := "") (Or.inl (hw _ (List.mem_of_getElem? (i := 30) rfl))) Via.refl e0 ST.2.2.2.2.2.2.2.2.1 (g := (mkF m 79 #[.val (.int x0)] [])) rfl (hb hby own_d1_79)
                    obtain ⟨fs, hr, hrun, hended, hW, hsame⟩ := X18.leave (v := some (.ref (w 8))) (fun h => by rw [Bd.returns] at h; cases h)
                    refine ⟨_, _, pre17 _ ?_, hrun, hended, _, _, rfl, ?_, ⟨_, rfl⟩, hW, hsame.mono (by decide) (by decide)⟩
                    · show Steps p.tables e below (s₁.setTop (mkF m 76 #[.val (.int x0)] [(.int (8 : Int32)), (.int x0)])) _
                      refine XS.icmpNo X0.here hx rfl (hb hby own_d1_76) rfl (teq hc76).2 ?_
                      show Steps p.tables e below (s₁.setTop (mkF m 79 #[.val (.int x0)] [])) _
                      refine st18 _ ?_
                      show Steps p.tables e below (T18.setTop (mkF m 82 #[.val (.int x0)] [(.ref (w 8))])) _
                      exact retOut X18 hx Bd.returns rfl (Or.inr (Or.inr (Or.inr (Or.inr ⟨rfl, rfl, rfl⟩)))) (hb hby own_d1_82) hr
                    · show QP (.ref (w (own_pk x0))) h0 n0 _ T18.heap _
                      rw [e18]
                      exact ⟨by rw [own_pk, if_neg hc1, if_neg hc10, if_neg hc19, if_neg hc28, if_neg hc37, if_neg hc46, if_neg hc56, if_neg hc66, if_pos hc76], N0, rfl⟩
                  · have pre19 : ∀ t, Steps p.tables e below (s₁.setTop (mkF m 86 #[.val (.int x0)] [(.int (9 : Int32)), (.int x0)])) t → Steps p.tables e below (s₁.setTop (entryFrame m #[(.int x0)] 1)) t := fun tt kk => pre17 tt (by
                      show Steps p.tables e below (s₁.setTop (mkF m 76 #[.val (.int x0)] [(.int (8 : Int32)), (.int x0)])) _
                      refine XS.icmpYes X0.here hx rfl (pc0 := 76) (pc' := 83) rfl (hb hby own_d1_76) rfl (feq hc76).2 (by decide) (by decide) ?_
                      show Steps p.tables e below (s₁.setTop (mkF m 83 #[.val (.int x0)] [])) _
                      refine XS.iloadN X0.here hx rfl (hb hby own_d1_83) rfl ?_
                      show Steps p.tables e below (s₁.setTop (mkF m 84 #[.val (.int x0)] [(.int x0)])) _
                      refine XS.bipush X0.here hx rfl (hb hby own_d1_84) ?_
                      exact kk)
                    by_cases hc86 : x0 = (9 : Int32)
                    · obtain ⟨T20, X20, e20, st20⟩ := getS2 X0 hx hZ hown (host := "") (Or.inl (hw _ (List.mem_of_getElem? (i := 24) rfl))) Via.refl e0 ST.2.2.2.2.2.2.2.2.2.1 (g := (mkF m 89 #[.val (.int x0)] [])) rfl (hb hby own_d1_89)
                      obtain ⟨fs, hr, hrun, hended, hW, hsame⟩ := X20.leave (v := some (.ref (w 9))) (fun h => by rw [Bd.returns] at h; cases h)
                      refine ⟨_, _, pre19 _ ?_, hrun, hended, _, _, rfl, ?_, ⟨_, rfl⟩, hW, hsame.mono (by decide) (by decide)⟩
                      · show Steps p.tables e below (s₁.setTop (mkF m 86 #[.val (.int x0)] [(.int (9 : Int32)), (.int x0)])) _
                        refine XS.icmpNo X0.here hx rfl (hb hby own_d1_86) rfl (teq hc86).2 ?_
                        show Steps p.tables e below (s₁.setTop (mkF m 89 #[.val (.int x0)] [])) _
                        refine st20 _ ?_
                        show Steps p.tables e below (T20.setTop (mkF m 92 #[.val (.int x0)] [(.ref (w 9))])) _
                        exact retOut X20 hx Bd.returns rfl (Or.inr (Or.inr (Or.inr (Or.inr ⟨rfl, rfl, rfl⟩)))) (hb hby own_d1_92) hr
                      · show QP (.ref (w (own_pk x0))) h0 n0 _ T20.heap _
                        rw [e20]
                        exact ⟨by rw [own_pk, if_neg hc1, if_neg hc10, if_neg hc19, if_neg hc28, if_neg hc37, if_neg hc46, if_neg hc56, if_neg hc66, if_neg hc76, if_pos hc86], N0, rfl⟩
                    · have pre21 : ∀ t, Steps p.tables e below (s₁.setTop (mkF m 96 #[.val (.int x0)] [(.int (10 : Int32)), (.int x0)])) t → Steps p.tables e below (s₁.setTop (entryFrame m #[(.int x0)] 1)) t := fun tt kk => pre19 tt (by
                        show Steps p.tables e below (s₁.setTop (mkF m 86 #[.val (.int x0)] [(.int (9 : Int32)), (.int x0)])) _
                        refine XS.icmpYes X0.here hx rfl (pc0 := 86) (pc' := 93) rfl (hb hby own_d1_86) rfl (feq hc86).2 (by decide) (by decide) ?_
                        show Steps p.tables e below (s₁.setTop (mkF m 93 #[.val (.int x0)] [])) _
                        refine XS.iloadN X0.here hx rfl (hb hby own_d1_93) rfl ?_
                        show Steps p.tables e below (s₁.setTop (mkF m 94 #[.val (.int x0)] [(.int x0)])) _
                        refine XS.bipush X0.here hx rfl (hb hby own_d1_94) ?_
                        exact kk)
                      by_cases hc96 : x0 = (10 : Int32)
                      · obtain ⟨T22, X22, e22, st22⟩ := getS2 X0 hx hZ hown (host := "") (Or.inl (hw _ (List.mem_of_getElem? (i := 44) rfl))) Via.refl e0 ST.2.2.2.2.2.2.2.2.2.2.1 (g := (mkF m 99 #[.val (.int x0)] [])) rfl (hb hby own_d1_99)
                        obtain ⟨fs, hr, hrun, hended, hW, hsame⟩ := X22.leave (v := some (.ref (w 10))) (fun h => by rw [Bd.returns] at h; cases h)
                        refine ⟨_, _, pre21 _ ?_, hrun, hended, _, _, rfl, ?_, ⟨_, rfl⟩, hW, hsame.mono (by decide) (by decide)⟩
                        · show Steps p.tables e below (s₁.setTop (mkF m 96 #[.val (.int x0)] [(.int (10 : Int32)), (.int x0)])) _
                          refine XS.icmpNo X0.here hx rfl (hb hby own_d1_96) rfl (teq hc96).2 ?_
                          show Steps p.tables e below (s₁.setTop (mkF m 99 #[.val (.int x0)] [])) _
                          refine st22 _ ?_
                          show Steps p.tables e below (T22.setTop (mkF m 102 #[.val (.int x0)] [(.ref (w 10))])) _
                          exact retOut X22 hx Bd.returns rfl (Or.inr (Or.inr (Or.inr (Or.inr ⟨rfl, rfl, rfl⟩)))) (hb hby own_d1_102) hr
                        · show QP (.ref (w (own_pk x0))) h0 n0 _ T22.heap _
                          rw [e22]
                          exact ⟨by rw [own_pk, if_neg hc1, if_neg hc10, if_neg hc19, if_neg hc28, if_neg hc37, if_neg hc46, if_neg hc56, if_neg hc66, if_neg hc76, if_neg hc86, if_pos hc96], N0, rfl⟩
                      · have pre23 : ∀ t, Steps p.tables e below (s₁.setTop (mkF m 106 #[.val (.int x0)] [(.int (11 : Int32)), (.int x0)])) t → Steps p.tables e below (s₁.setTop (entryFrame m #[(.int x0)] 1)) t := fun tt kk => pre21 tt (by
                          show Steps p.tables e below (s₁.setTop (mkF m 96 #[.val (.int x0)] [(.int (10 : Int32)), (.int x0)])) _
                          refine XS.icmpYes X0.here hx rfl (pc0 := 96) (pc' := 103) rfl (hb hby own_d1_96) rfl (feq hc96).2 (by decide) (by decide) ?_
                          show Steps p.tables e below (s₁.setTop (mkF m 103 #[.val (.int x0)] [])) _
                          refine XS.iloadN X0.here hx rfl (hb hby own_d1_103) rfl ?_
                          show Steps p.tables e below (s₁.setTop (mkF m 104 #[.val (.int x0)] [(.int x0)])) _
                          refine XS.bipush X0.here hx rfl (hb hby own_d1_104) ?_
                          exact kk)
                        by_cases hc106 : x0 = (11 : Int32)
                        · obtain ⟨T24, X24, e24, st24⟩ := getS2 X0 hx hZ hown (host := "") (Or.inl (hw _ (List.mem_of_getElem? (i := 42) rfl))) Via.refl e0 ST.2.2.2.2.2.2.2.2.2.2.2.1 (g := (mkF m 109 #[.val (.int x0)] [])) rfl (hb hby own_d1_109)
                          obtain ⟨fs, hr, hrun, hended, hW, hsame⟩ := X24.leave (v := some (.ref (w 11))) (fun h => by rw [Bd.returns] at h; cases h)
                          refine ⟨_, _, pre23 _ ?_, hrun, hended, _, _, rfl, ?_, ⟨_, rfl⟩, hW, hsame.mono (by decide) (by decide)⟩
                          · show Steps p.tables e below (s₁.setTop (mkF m 106 #[.val (.int x0)] [(.int (11 : Int32)), (.int x0)])) _
                            refine XS.icmpNo X0.here hx rfl (hb hby own_d1_106) rfl (teq hc106).2 ?_
                            show Steps p.tables e below (s₁.setTop (mkF m 109 #[.val (.int x0)] [])) _
                            refine st24 _ ?_
                            show Steps p.tables e below (T24.setTop (mkF m 112 #[.val (.int x0)] [(.ref (w 11))])) _
                            exact retOut X24 hx Bd.returns rfl (Or.inr (Or.inr (Or.inr (Or.inr ⟨rfl, rfl, rfl⟩)))) (hb hby own_d1_112) hr
                          · show QP (.ref (w (own_pk x0))) h0 n0 _ T24.heap _
                            rw [e24]
                            exact ⟨by rw [own_pk, if_neg hc1, if_neg hc10, if_neg hc19, if_neg hc28, if_neg hc37, if_neg hc46, if_neg hc56, if_neg hc66, if_neg hc76, if_neg hc86, if_neg hc96, if_pos hc106], N0, rfl⟩
                        · have pre25 : ∀ t, Steps p.tables e below (s₁.setTop (mkF m 116 #[.val (.int x0)] [(.int (12 : Int32)), (.int x0)])) t → Steps p.tables e below (s₁.setTop (entryFrame m #[(.int x0)] 1)) t := fun tt kk => pre23 tt (by
                            show Steps p.tables e below (s₁.setTop (mkF m 106 #[.val (.int x0)] [(.int (11 : Int32)), (.int x0)])) _
                            refine XS.icmpYes X0.here hx rfl (pc0 := 106) (pc' := 113) rfl (hb hby own_d1_106) rfl (feq hc106).2 (by decide) (by decide) ?_
                            show Steps p.tables e below (s₁.setTop (mkF m 113 #[.val (.int x0)] [])) _
                            refine XS.iloadN X0.here hx rfl (hb hby own_d1_113) rfl ?_
                            show Steps p.tables e below (s₁.setTop (mkF m 114 #[.val (.int x0)] [(.int x0)])) _
                            refine XS.bipush X0.here hx rfl (hb hby own_d1_114) ?_
                            exact kk)
                          by_cases hc116 : x0 = (12 : Int32)
                          · obtain ⟨T26, X26, e26, st26⟩ := getS2 X0 hx hZ hown (host := "") (Or.inl (hw _ (List.mem_of_getElem? (i := 32) rfl))) Via.refl e0 ST.2.2.2.2.2.2.2.2.2.2.2.2.1 (g := (mkF m 119 #[.val (.int x0)] [])) rfl (hb hby own_d1_119)
                            obtain ⟨fs, hr, hrun, hended, hW, hsame⟩ := X26.leave (v := some (.ref (w 12))) (fun h => by rw [Bd.returns] at h; cases h)
                            refine ⟨_, _, pre25 _ ?_, hrun, hended, _, _, rfl, ?_, ⟨_, rfl⟩, hW, hsame.mono (by decide) (by decide)⟩
                            · show Steps p.tables e below (s₁.setTop (mkF m 116 #[.val (.int x0)] [(.int (12 : Int32)), (.int x0)])) _
                              refine XS.icmpNo X0.here hx rfl (hb hby own_d1_116) rfl (teq hc116).2 ?_
                              show Steps p.tables e below (s₁.setTop (mkF m 119 #[.val (.int x0)] [])) _
                              refine st26 _ ?_
                              show Steps p.tables e below (T26.setTop (mkF m 122 #[.val (.int x0)] [(.ref (w 12))])) _
                              exact retOut X26 hx Bd.returns rfl (Or.inr (Or.inr (Or.inr (Or.inr ⟨rfl, rfl, rfl⟩)))) (hb hby own_d1_122) hr
                            · show QP (.ref (w (own_pk x0))) h0 n0 _ T26.heap _
                              rw [e26]
                              exact ⟨by rw [own_pk, if_neg hc1, if_neg hc10, if_neg hc19, if_neg hc28, if_neg hc37, if_neg hc46, if_neg hc56, if_neg hc66, if_neg hc76, if_neg hc86, if_neg hc96, if_neg hc106, if_pos hc116], N0, rfl⟩
                          · have pre27 : ∀ t, Steps p.tables e below (s₁.setTop (mkF m 126 #[.val (.int x0)] [(.int (13 : Int32)), (.int x0)])) t → Steps p.tables e below (s₁.setTop (entryFrame m #[(.int x0)] 1)) t := fun tt kk => pre25 tt (by
                              show Steps p.tables e below (s₁.setTop (mkF m 116 #[.val (.int x0)] [(.int (12 : Int32)), (.int x0)])) _
                              refine XS.icmpYes X0.here hx rfl (pc0 := 116) (pc' := 123) rfl (hb hby own_d1_116) rfl (feq hc116).2 (by decide) (by decide) ?_
                              show Steps p.tables e below (s₁.setTop (mkF m 123 #[.val (.int x0)] [])) _
                              refine XS.iloadN X0.here hx rfl (hb hby own_d1_123) rfl ?_
                              show Steps p.tables e below (s₁.setTop (mkF m 124 #[.val (.int x0)] [(.int x0)])) _
                              refine XS.bipush X0.here hx rfl (hb hby own_d1_124) ?_
                              exact kk)
                            by_cases hc126 : x0 = (13 : Int32)
                            · obtain ⟨T28, X28, e28, st28⟩ := getS2 X0 hx hZ hown (host := "") (Or.inl (hw _ (List.mem_of_getElem? (i := 20) rfl))) Via.refl e0 ST.2.2.2.2.2.2.2.2.2.2.2.2.2.1 (g := (mkF m 129 #[.val (.int x0)] [])) rfl (hb hby own_d1_129)
                              obtain ⟨fs, hr, hrun, hended, hW, hsame⟩ := X28.leave (v := some (.ref (w 13))) (fun h => by rw [Bd.returns] at h; cases h)
                              refine ⟨_, _, pre27 _ ?_, hrun, hended, _, _, rfl, ?_, ⟨_, rfl⟩, hW, hsame.mono (by decide) (by decide)⟩
                              · show Steps p.tables e below (s₁.setTop (mkF m 126 #[.val (.int x0)] [(.int (13 : Int32)), (.int x0)])) _
                                refine XS.icmpNo X0.here hx rfl (hb hby own_d1_126) rfl (teq hc126).2 ?_
                                show Steps p.tables e below (s₁.setTop (mkF m 129 #[.val (.int x0)] [])) _
                                refine st28 _ ?_
                                show Steps p.tables e below (T28.setTop (mkF m 132 #[.val (.int x0)] [(.ref (w 13))])) _
                                exact retOut X28 hx Bd.returns rfl (Or.inr (Or.inr (Or.inr (Or.inr ⟨rfl, rfl, rfl⟩)))) (hb hby own_d1_132) hr
                              · show QP (.ref (w (own_pk x0))) h0 n0 _ T28.heap _
                                rw [e28]
                                exact ⟨by rw [own_pk, if_neg hc1, if_neg hc10, if_neg hc19, if_neg hc28, if_neg hc37, if_neg hc46, if_neg hc56, if_neg hc66, if_neg hc76, if_neg hc86, if_neg hc96, if_neg hc106, if_neg hc116, if_pos hc126], N0, rfl⟩
                            · have pre29 : ∀ t, Steps p.tables e below (s₁.setTop (mkF m 136 #[.val (.int x0)] [(.int (14 : Int32)), (.int x0)])) t → Steps p.tables e below (s₁.setTop (entryFrame m #[(.int x0)] 1)) t := fun tt kk => pre27 tt (by
                                show Steps p.tables e below (s₁.setTop (mkF m 126 #[.val (.int x0)] [(.int (13 : Int32)), (.int x0)])) _
                                refine XS.icmpYes X0.here hx rfl (pc0 := 126) (pc' := 133) rfl (hb hby own_d1_126) rfl (feq hc126).2 (by decide) (by decide) ?_
                                show Steps p.tables e below (s₁.setTop (mkF m 133 #[.val (.int x0)] [])) _
                                refine XS.iloadN X0.here hx rfl (hb hby own_d1_133) rfl ?_
                                show Steps p.tables e below (s₁.setTop (mkF m 134 #[.val (.int x0)] [(.int x0)])) _
                                refine XS.bipush X0.here hx rfl (hb hby own_d1_134) ?_
                                exact kk)
                              by_cases hc136 : x0 = (14 : Int32)
                              · obtain ⟨T30, X30, e30, st30⟩ := getS2 X0 hx hZ hown (host := "") (Or.inl (hw _ (List.mem_of_getElem? (i := 18) rfl))) Via.refl e0 ST.2.2.2.2.2.2.2.2.2.2.2.2.2.2.1 (g := (mkF m 139 #[.val (.int x0)] [])) rfl (hb hby own_d1_139)
                                obtain ⟨fs, hr, hrun, hended, hW, hsame⟩ := X30.leave (v := some (.ref (w 14))) (fun h => by rw [Bd.returns] at h; cases h)
                                refine ⟨_, _, pre29 _ ?_, hrun, hended, _, _, rfl, ?_, ⟨_, rfl⟩, hW, hsame.mono (by decide) (by decide)⟩
                                · show Steps p.tables e below (s₁.setTop (mkF m 136 #[.val (.int x0)] [(.int (14 : Int32)), (.int x0)])) _
                                  refine XS.icmpNo X0.here hx rfl (hb hby own_d1_136) rfl (teq hc136).2 ?_
                                  show Steps p.tables e below (s₁.setTop (mkF m 139 #[.val (.int x0)] [])) _
                                  refine st30 _ ?_
                                  show Steps p.tables e below (T30.setTop (mkF m 142 #[.val (.int x0)] [(.ref (w 14))])) _
                                  exact retOut X30 hx Bd.returns rfl (Or.inr (Or.inr (Or.inr (Or.inr ⟨rfl, rfl, rfl⟩)))) (hb hby own_d1_142) hr
                                · show QP (.ref (w (own_pk x0))) h0 n0 _ T30.heap _
                                  rw [e30]
                                  exact ⟨by rw [own_pk, if_neg hc1, if_neg hc10, if_neg hc19, if_neg hc28, if_neg hc37, if_neg hc46, if_neg hc56, if_neg hc66, if_neg hc76, if_neg hc86, if_neg hc96, if_neg hc106, if_neg hc116, if_neg hc126, if_pos hc136], N0, rfl⟩
                              · have pre31 : ∀ t, Steps p.tables e below (s₁.setTop (mkF m 146 #[.val (.int x0)] [(.int (15 : Int32)), (.int x0)])) t → Steps p.tables e below (s₁.setTop (entryFrame m #[(.int x0)] 1)) t := fun tt kk => pre29 tt (by
                                  show Steps p.tables e below (s₁.setTop (mkF m 136 #[.val (.int x0)] [(.int (14 : Int32)), (.int x0)])) _
                                  refine XS.icmpYes X0.here hx rfl (pc0 := 136) (pc' := 143) rfl (hb hby own_d1_136) rfl (feq hc136).2 (by decide) (by decide) ?_
                                  show Steps p.tables e below (s₁.setTop (mkF m 143 #[.val (.int x0)] [])) _
                                  refine XS.iloadN X0.here hx rfl (hb hby own_d1_143) rfl ?_
                                  show Steps p.tables e below (s₁.setTop (mkF m 144 #[.val (.int x0)] [(.int x0)])) _
                                  refine XS.bipush X0.here hx rfl (hb hby own_d1_144) ?_
                                  exact kk)
                                by_cases hc146 : x0 = (15 : Int32)
                                · obtain ⟨T32, X32, e32, st32⟩ := getS2 X0 hx hZ hown (host := "") (Or.inl (hw _ (List.mem_of_getElem? (i := 46) rfl))) Via.refl e0 ST.2.2.2.2.2.2.2.2.2.2.2.2.2.2.2.1 (g := (mkF m 149 #[.val (.int x0)] [])) rfl (hb hby own_d1_149)
                                  obtain ⟨fs, hr, hrun, hended, hW, hsame⟩ := X32.leave (v := some (.ref (w 15))) (fun h => by rw [Bd.returns] at h; cases h)
                                  refine ⟨_, _, pre31 _ ?_, hrun, hended, _, _, rfl, ?_, ⟨_, rfl⟩, hW, hsame.mono (by decide) (by decide)⟩
                                  · show Steps p.tables e below (s₁.setTop (mkF m 146 #[.val (.int x0)] [(.int (15 : Int32)), (.int x0)])) _
                                    refine XS.icmpNo X0.here hx rfl (hb hby own_d1_146) rfl (teq hc146).2 ?_
                                    show Steps p.tables e below (s₁.setTop (mkF m 149 #[.val (.int x0)] [])) _
                                    refine st32 _ ?_
                                    show Steps p.tables e below (T32.setTop (mkF m 152 #[.val (.int x0)] [(.ref (w 15))])) _
                                    exact retOut X32 hx Bd.returns rfl (Or.inr (Or.inr (Or.inr (Or.inr ⟨rfl, rfl, rfl⟩)))) (hb hby own_d1_152) hr
                                  · show QP (.ref (w (own_pk x0))) h0 n0 _ T32.heap _
                                    rw [e32]
                                    exact ⟨by rw [own_pk, if_neg hc1, if_neg hc10, if_neg hc19, if_neg hc28, if_neg hc37, if_neg hc46, if_neg hc56, if_neg hc66, if_neg hc76, if_neg hc86, if_neg hc96, if_neg hc106, if_neg hc116, if_neg hc126, if_neg hc136, if_pos hc146], N0, rfl⟩
                                · have pre33 : ∀ t, Steps p.tables e below (s₁.setTop (mkF m 156 #[.val (.int x0)] [(.int (16 : Int32)), (.int x0)])) t → Steps p.tables e below (s₁.setTop (entryFrame m #[(.int x0)] 1)) t := fun tt kk => pre31 tt (by
                                    show Steps p.tables e below (s₁.setTop (mkF m 146 #[.val (.int x0)] [(.int (15 : Int32)), (.int x0)])) _
                                    refine XS.icmpYes X0.here hx rfl (pc0 := 146) (pc' := 153) rfl (hb hby own_d1_146) rfl (feq hc146).2 (by decide) (by decide) ?_
                                    show Steps p.tables e below (s₁.setTop (mkF m 153 #[.val (.int x0)] [])) _
                                    refine XS.iloadN X0.here hx rfl (hb hby own_d1_153) rfl ?_
                                    show Steps p.tables e below (s₁.setTop (mkF m 154 #[.val (.int x0)] [(.int x0)])) _
                                    refine XS.bipush X0.here hx rfl (hb hby own_d1_154) ?_
                                    exact kk)
                                  by_cases hc156 : x0 = (16 : Int32)
                                  · obtain ⟨T34, X34, e34, st34⟩ := getS2 X0 hx hZ hown (host := "") (Or.inl (hw _ (List.mem_of_getElem? (i := 38) rfl))) Via.refl e0 ST.2.2.2.2.2.2.2.2.2.2.2.2.2.2.2.2.1 (g := (mkF m 159 #[.val (.int x0)] [])) rfl (hb hby own_d1_159)
                                    obtain ⟨fs, hr, hrun, hended, hW, hsame⟩ := X34.leave (v := some (.ref (w 16))) (fun h => by rw [Bd.returns] at h; cases h)
                                    refine ⟨_, _, pre33 _ ?_, hrun, hended, _, _, rfl, ?_, ⟨_, rfl⟩, hW, hsame.mono (by decide) (by decide)⟩
                                    · show Steps p.tables e below (s₁.setTop (mkF m 156 #[.val (.int x0)] [(.int (16 : Int32)), (.int x0)])) _
                                      refine XS.icmpNo X0.here hx rfl (hb hby own_d1_156) rfl (teq hc156).2 ?_
                                      show Steps p.tables e below (s₁.setTop (mkF m 159 #[.val (.int x0)] [])) _
                                      refine st34 _ ?_
                                      show Steps p.tables e below (T34.setTop (mkF m 162 #[.val (.int x0)] [(.ref (w 16))])) _
                                      exact retOut X34 hx Bd.returns rfl (Or.inr (Or.inr (Or.inr (Or.inr ⟨rfl, rfl, rfl⟩)))) (hb hby own_d1_162) hr
                                    · show QP (.ref (w (own_pk x0))) h0 n0 _ T34.heap _
                                      rw [e34]
                                      exact ⟨by rw [own_pk, if_neg hc1, if_neg hc10, if_neg hc19, if_neg hc28, if_neg hc37, if_neg hc46, if_neg hc56, if_neg hc66, if_neg hc76, if_neg hc86, if_neg hc96, if_neg hc106, if_neg hc116, if_neg hc126, if_neg hc136, if_neg hc146, if_pos hc156], N0, rfl⟩
                                  · have pre35 : ∀ t, Steps p.tables e below (s₁.setTop (mkF m 166 #[.val (.int x0)] [(.int (17 : Int32)), (.int x0)])) t → Steps p.tables e below (s₁.setTop (entryFrame m #[(.int x0)] 1)) t := fun tt kk => pre33 tt (by
                                      show Steps p.tables e below (s₁.setTop (mkF m 156 #[.val (.int x0)] [(.int (16 : Int32)), (.int x0)])) _
                                      refine XS.icmpYes X0.here hx rfl (pc0 := 156) (pc' := 163) rfl (hb hby own_d1_156) rfl (feq hc156).2 (by decide) (by decide) ?_
                                      show Steps p.tables e below (s₁.setTop (mkF m 163 #[.val (.int x0)] [])) _
                                      refine XS.iloadN X0.here hx rfl (hb hby own_d1_163) rfl ?_
                                      show Steps p.tables e below (s₁.setTop (mkF m 164 #[.val (.int x0)] [(.int x0)])) _
                                      refine XS.bipush X0.here hx rfl (hb hby own_d1_164) ?_
                                      exact kk)
                                    by_cases hc166 : x0 = (17 : Int32)
                                    · obtain ⟨T36, X36, e36, st36⟩ := getS2 X0 hx hZ hown (host := "") (Or.inl (hw _ (List.mem_of_getElem? (i := 52) rfl))) Via.refl e0 ST.2.2.2.2.2.2.2.2.2.2.2.2.2.2.2.2.2.1 (g := (mkF m 169 #[.val (.int x0)] [])) rfl (hb hby own_d1_169)
                                      obtain ⟨fs, hr, hrun, hended, hW, hsame⟩ := X36.leave (v := some (.ref (w 17))) (fun h => by rw [Bd.returns] at h; cases h)
                                      refine ⟨_, _, pre35 _ ?_, hrun, hended, _, _, rfl, ?_, ⟨_, rfl⟩, hW, hsame.mono (by decide) (by decide)⟩
                                      · show Steps p.tables e below (s₁.setTop (mkF m 166 #[.val (.int x0)] [(.int (17 : Int32)), (.int x0)])) _
                                        refine XS.icmpNo X0.here hx rfl (hb hby own_d1_166) rfl (teq hc166).2 ?_
                                        show Steps p.tables e below (s₁.setTop (mkF m 169 #[.val (.int x0)] [])) _
                                        refine st36 _ ?_
                                        show Steps p.tables e below (T36.setTop (mkF m 172 #[.val (.int x0)] [(.ref (w 17))])) _
                                        exact retOut X36 hx Bd.returns rfl (Or.inr (Or.inr (Or.inr (Or.inr ⟨rfl, rfl, rfl⟩)))) (hb hby own_d1_172) hr
                                      · show QP (.ref (w (own_pk x0))) h0 n0 _ T36.heap _
                                        rw [e36]
                                        exact ⟨by rw [own_pk, if_neg hc1, if_neg hc10, if_neg hc19, if_neg hc28, if_neg hc37, if_neg hc46, if_neg hc56, if_neg hc66, if_neg hc76, if_neg hc86, if_neg hc96, if_neg hc106, if_neg hc116, if_neg hc126, if_neg hc136, if_neg hc146, if_neg hc156, if_pos hc166], N0, rfl⟩
                                    · obtain ⟨T37, X37, e37, st37⟩ := getS2 X0 hx hZ hown (host := "") (Or.inl (hw _ (List.mem_of_getElem? (i := 48) rfl))) Via.refl e0 ST.2.2.2.2.2.2.2.2.2.2.2.2.2.2.2.2.2.2 (g := (mkF m 173 #[.val (.int x0)] [])) rfl (hb hby own_d1_173)
                                      obtain ⟨fs, hr, hrun, hended, hW, hsame⟩ := X37.leave (v := some (.ref (w 18))) (fun h => by rw [Bd.returns] at h; cases h)
                                      refine ⟨_, _, pre35 _ ?_, hrun, hended, _, _, rfl, ?_, ⟨_, rfl⟩, hW, hsame.mono (by decide) (by decide)⟩
                                      · show Steps p.tables e below (s₁.setTop (mkF m 166 #[.val (.int x0)] [(.int (17 : Int32)), (.int x0)])) _
                                        refine XS.icmpYes X0.here hx rfl (pc0 := 166) (pc' := 173) rfl (hb hby own_d1_166) rfl (feq hc166).2 (by decide) (by decide) ?_
                                        show Steps p.tables e below (s₁.setTop (mkF m 173 #[.val (.int x0)] [])) _
                                        refine st37 _ ?_
                                        show Steps p.tables e below (T37.setTop (mkF m 176 #[.val (.int x0)] [(.ref (w 18))])) _
                                        exact retOut X37 hx Bd.returns rfl (Or.inr (Or.inr (Or.inr (Or.inr ⟨rfl, rfl, rfl⟩)))) (hb hby own_d1_176) hr
                                      · show QP (.ref (w (own_pk x0))) h0 n0 _ T37.heap _
                                        rw [e37]
                                        exact ⟨by rw [own_pk, if_neg hc1, if_neg hc10, if_neg hc19, if_neg hc28, if_neg hc37, if_neg hc46, if_neg hc56, if_neg hc66, if_neg hc76, if_neg hc86, if_neg hc96, if_neg hc106, if_neg hc116, if_neg hc126, if_neg hc136, if_neg hc146, if_neg hc156, if_neg hc166], N0, rfl⟩
theorem own_d2_0 : decode method_4_code 0 = .ok (.iload_n 0, 1) := by decide +kernel
theorem own_d2_1 : decode method_4_code 1 = .ok (.ifCond .ne 5, 3) := by decide +kernel
theorem own_d2_4 : decode method_4_code 4 = .ok (.iconst (-1), 1) := by decide +kernel
theorem own_d2_5 : decode method_4_code 5 = .ok (.ireturn, 1) := by decide +kernel
theorem own_d2_6 : decode method_4_code 6 = .ok (.iload_n 0, 1) := by decide +kernel
theorem own_d2_7 : decode method_4_code 7 = .ok (.iconst 1, 1) := by decide +kernel
theorem own_d2_8 : decode method_4_code 8 = .ok (.if_icmp .ne 5, 3) := by decide +kernel
theorem own_d2_11 : decode method_4_code 11 = .ok (.iconst 1, 1) := by decide +kernel
theorem own_d2_12 : decode method_4_code 12 = .ok (.ireturn, 1) := by decide +kernel
theorem own_d2_13 : decode method_4_code 13 = .ok (.iload_n 0, 1) := by decide +kernel
theorem own_d2_14 : decode method_4_code 14 = .ok (.iconst 2, 1) := by decide +kernel
theorem own_d2_15 : decode method_4_code 15 = .ok (.if_icmp .ne 5, 3) := by decide +kernel
theorem own_d2_18 : decode method_4_code 18 = .ok (.iconst 2, 1) := by decide +kernel
theorem own_d2_19 : decode method_4_code 19 = .ok (.ireturn, 1) := by decide +kernel
theorem own_d2_20 : decode method_4_code 20 = .ok (.iload_n 0, 1) := by decide +kernel
theorem own_d2_21 : decode method_4_code 21 = .ok (.iconst 3, 1) := by decide +kernel
theorem own_d2_22 : decode method_4_code 22 = .ok (.if_icmp .ne 5, 3) := by decide +kernel
theorem own_d2_25 : decode method_4_code 25 = .ok (.iconst 3, 1) := by decide +kernel
theorem own_d2_26 : decode method_4_code 26 = .ok (.ireturn, 1) := by decide +kernel
theorem own_d2_27 : decode method_4_code 27 = .ok (.iload_n 0, 1) := by decide +kernel
theorem own_d2_28 : decode method_4_code 28 = .ok (.iconst 4, 1) := by decide +kernel
theorem own_d2_29 : decode method_4_code 29 = .ok (.if_icmp .ne 5, 3) := by decide +kernel
theorem own_d2_32 : decode method_4_code 32 = .ok (.iconst 3, 1) := by decide +kernel
theorem own_d2_33 : decode method_4_code 33 = .ok (.ireturn, 1) := by decide +kernel
theorem own_d2_34 : decode method_4_code 34 = .ok (.iload_n 0, 1) := by decide +kernel
theorem own_d2_35 : decode method_4_code 35 = .ok (.iconst 5, 1) := by decide +kernel
theorem own_d2_36 : decode method_4_code 36 = .ok (.if_icmp .ne 5, 3) := by decide +kernel
theorem own_d2_39 : decode method_4_code 39 = .ok (.iconst 3, 1) := by decide +kernel
theorem own_d2_40 : decode method_4_code 40 = .ok (.ireturn, 1) := by decide +kernel
theorem own_d2_41 : decode method_4_code 41 = .ok (.iload_n 0, 1) := by decide +kernel
theorem own_d2_42 : decode method_4_code 42 = .ok (.bipush 6, 2) := by decide +kernel
theorem own_d2_44 : decode method_4_code 44 = .ok (.if_icmp .ne 5, 3) := by decide +kernel
theorem own_d2_47 : decode method_4_code 47 = .ok (.iconst 1, 1) := by decide +kernel
theorem own_d2_48 : decode method_4_code 48 = .ok (.ireturn, 1) := by decide +kernel
theorem own_d2_49 : decode method_4_code 49 = .ok (.iload_n 0, 1) := by decide +kernel
theorem own_d2_50 : decode method_4_code 50 = .ok (.bipush 7, 2) := by decide +kernel
theorem own_d2_52 : decode method_4_code 52 = .ok (.if_icmp .ne 5, 3) := by decide +kernel
theorem own_d2_55 : decode method_4_code 55 = .ok (.iconst 2, 1) := by decide +kernel
theorem own_d2_56 : decode method_4_code 56 = .ok (.ireturn, 1) := by decide +kernel
theorem own_d2_57 : decode method_4_code 57 = .ok (.iload_n 0, 1) := by decide +kernel
theorem own_d2_58 : decode method_4_code 58 = .ok (.bipush 8, 2) := by decide +kernel
theorem own_d2_60 : decode method_4_code 60 = .ok (.if_icmp .ne 5, 3) := by decide +kernel
theorem own_d2_63 : decode method_4_code 63 = .ok (.iconst 1, 1) := by decide +kernel
theorem own_d2_64 : decode method_4_code 64 = .ok (.ireturn, 1) := by decide +kernel
theorem own_d2_65 : decode method_4_code 65 = .ok (.iload_n 0, 1) := by decide +kernel
theorem own_d2_66 : decode method_4_code 66 = .ok (.bipush 9, 2) := by decide +kernel
theorem own_d2_68 : decode method_4_code 68 = .ok (.if_icmp .ne 5, 3) := by decide +kernel
theorem own_d2_71 : decode method_4_code 71 = .ok (.iconst 1, 1) := by decide +kernel
theorem own_d2_72 : decode method_4_code 72 = .ok (.ireturn, 1) := by decide +kernel
theorem own_d2_73 : decode method_4_code 73 = .ok (.iload_n 0, 1) := by decide +kernel
theorem own_d2_74 : decode method_4_code 74 = .ok (.bipush 10, 2) := by decide +kernel
theorem own_d2_76 : decode method_4_code 76 = .ok (.if_icmp .ne 5, 3) := by decide +kernel
theorem own_d2_79 : decode method_4_code 79 = .ok (.iconst 1, 1) := by decide +kernel
theorem own_d2_80 : decode method_4_code 80 = .ok (.ireturn, 1) := by decide +kernel
theorem own_d2_81 : decode method_4_code 81 = .ok (.iload_n 0, 1) := by decide +kernel
theorem own_d2_82 : decode method_4_code 82 = .ok (.bipush 11, 2) := by decide +kernel
theorem own_d2_84 : decode method_4_code 84 = .ok (.if_icmp .ne 5, 3) := by decide +kernel
theorem own_d2_87 : decode method_4_code 87 = .ok (.iconst 1, 1) := by decide +kernel
theorem own_d2_88 : decode method_4_code 88 = .ok (.ireturn, 1) := by decide +kernel
theorem own_d2_89 : decode method_4_code 89 = .ok (.iload_n 0, 1) := by decide +kernel
theorem own_d2_90 : decode method_4_code 90 = .ok (.bipush 12, 2) := by decide +kernel
theorem own_d2_92 : decode method_4_code 92 = .ok (.if_icmp .ne 5, 3) := by decide +kernel
theorem own_d2_95 : decode method_4_code 95 = .ok (.iconst 1, 1) := by decide +kernel
theorem own_d2_96 : decode method_4_code 96 = .ok (.ireturn, 1) := by decide +kernel
theorem own_d2_97 : decode method_4_code 97 = .ok (.iload_n 0, 1) := by decide +kernel
theorem own_d2_98 : decode method_4_code 98 = .ok (.bipush 13, 2) := by decide +kernel
theorem own_d2_100 : decode method_4_code 100 = .ok (.if_icmp .ne 5, 3) := by decide +kernel
theorem own_d2_103 : decode method_4_code 103 = .ok (.iconst (-1), 1) := by decide +kernel
theorem own_d2_104 : decode method_4_code 104 = .ok (.ireturn, 1) := by decide +kernel
theorem own_d2_105 : decode method_4_code 105 = .ok (.iload_n 0, 1) := by decide +kernel
theorem own_d2_106 : decode method_4_code 106 = .ok (.bipush 14, 2) := by decide +kernel
theorem own_d2_108 : decode method_4_code 108 = .ok (.if_icmp .ne 5, 3) := by decide +kernel
theorem own_d2_111 : decode method_4_code 111 = .ok (.iconst 2, 1) := by decide +kernel
theorem own_d2_112 : decode method_4_code 112 = .ok (.ireturn, 1) := by decide +kernel
theorem own_d2_113 : decode method_4_code 113 = .ok (.iload_n 0, 1) := by decide +kernel
theorem own_d2_114 : decode method_4_code 114 = .ok (.bipush 15, 2) := by decide +kernel
theorem own_d2_116 : decode method_4_code 116 = .ok (.if_icmp .ne 5, 3) := by decide +kernel
theorem own_d2_119 : decode method_4_code 119 = .ok (.iconst 1, 1) := by decide +kernel
theorem own_d2_120 : decode method_4_code 120 = .ok (.ireturn, 1) := by decide +kernel
theorem own_d2_121 : decode method_4_code 121 = .ok (.iload_n 0, 1) := by decide +kernel
theorem own_d2_122 : decode method_4_code 122 = .ok (.bipush 16, 2) := by decide +kernel
theorem own_d2_124 : decode method_4_code 124 = .ok (.if_icmp .ne 5, 3) := by decide +kernel
theorem own_d2_127 : decode method_4_code 127 = .ok (.iconst 0, 1) := by decide +kernel
theorem own_d2_128 : decode method_4_code 128 = .ok (.ireturn, 1) := by decide +kernel
theorem own_d2_129 : decode method_4_code 129 = .ok (.iload_n 0, 1) := by decide +kernel
theorem own_d2_130 : decode method_4_code 130 = .ok (.bipush 17, 2) := by decide +kernel
theorem own_d2_132 : decode method_4_code 132 = .ok (.if_icmp .ne 5, 3) := by decide +kernel
theorem own_d2_135 : decode method_4_code 135 = .ok (.iconst 0, 1) := by decide +kernel
theorem own_d2_136 : decode method_4_code 136 = .ok (.ireturn, 1) := by decide +kernel
theorem own_d2_137 : decode method_4_code 137 = .ok (.iconst 0, 1) := by decide +kernel
theorem own_d2_138 : decode method_4_code 138 = .ok (.ireturn, 1) := by decide +kernel
set_option maxRecDepth 65536 in
set_option maxHeartbeats 40000000 in
theorem rm_fo (l : Launch) (Z : State) (a0 : Array Value) (hw : ∀ d ∈ tables_1, d.before a0 Z = true) (ws : List Jvm.Cond) (x0 : Int32) (h0 : Heap) (n0 : Nat) (Z0 : n0 ≤ h0.size)  :
    MetFree l (⟨"com/example/lean_broker/leanbroker/protocol/ApiKeyOpensWithThrottleTimePinLaw", "fromOf", "(I)I"⟩ : MethodName) (head1 (Jvm.Cond.code (⟨"com/example/lean_broker/leanbroker/protocol/ApiKeyOpensWithThrottleTimePinLaw", "fromOf", "(I)I"⟩ : MethodName) method_4_code 1 (some .int) :: ws) ({ frames := 0, cells := 0, slots := 0, locals := 0 } : Room)) (fun a U => a = #[(.int x0)] ∧ Z.Warmed39 U.vm ∧ U.heap = h0) (fun _ _ _ _ _ => True) (fun _ U o U' => ∃ v L, o = .returned v ∧ QP (.int (own_fr x0)) h0 n0 v U'.heap L ∧ FrameEnd U o U' L ({ frames := 0, cells := 0, slots := 0, locals := 0 } : Room).cells ({ frames := 0, cells := 0, slots := 0, locals := 0 } : Room).slots) := by
  refine MetFree.of_bodySF (plainFor_of_name (by first | (simp [plainName, overriddenIn]; done) | decide +kernel)) hisR ?_
  intro p e s m args below meth c s₁ Bd hml0 hP hK
  obtain ⟨rfl, hZ, hh⟩ := hP
  have hx := Bd.exec
  have hby := Bd.bytes
  have hml : c.maxLocals = 1 := hml0
  have hown : s.vm.findClass "com/example/lean_broker/leanbroker/protocol/ApiKeyOpensWithThrottleTimePinLaw" = some m.cls := findClass_of_methodNamed Bd.named
  have hnm := (name_of_methodNamed Bd.named Bd.method).1
  have X0 : Stand p l e ({ frames := 0, cells := 0, slots := 0, locals := 0 } : Room) s m #[(.int x0)] below meth c s₁ [] 0 0 := Stand.of_body Bd
  have e0 : s₁.heap = h0 := by rw [← hh, Bd.state]; rfl
  have N0 := Fr.nil n0
  have ef0 : entryFrame m #[(.int x0)] 1 = mkF m 0 #[.val (.int x0)] [] := by first | (simp [entryFrame, mkF, argsToLocals, Value.category, maxLocals]; done) | rfl
  have pre0 : ∀ t, Steps p.tables e below (s₁.setTop (mkF m 0 #[.val (.int x0)] [])) t → Steps p.tables e below (s₁.setTop (entryFrame m #[(.int x0)] 1)) t := fun t k => castTop ef0 k
  have pre38 : ∀ t, Steps p.tables e below (s₁.setTop (mkF m 1 #[.val (.int x0)] [(.int x0)])) t → Steps p.tables e below (s₁.setTop (entryFrame m #[(.int x0)] 1)) t := fun tt kk => pre0 tt (by
    show Steps p.tables e below (s₁.setTop (mkF m 0 #[.val (.int x0)] [])) _
    refine XS.iloadN X0.here hx rfl (hb hby own_d2_0) rfl ?_
    exact kk)
  by_cases hc1 : x0 = (0 : Int32)
  · obtain ⟨fs, hr, hrun, hended, hW, hsame⟩ := X0.leave (v := some (.int (-1 : Int32))) (fun h => by rw [Bd.returns] at h; cases h)
    refine ⟨_, _, pre38 _ ?_, hrun, hended, _, _, rfl, ?_, ⟨_, rfl⟩, hW, hsame.mono (by decide) (by decide)⟩
    · show Steps p.tables e below (s₁.setTop (mkF m 1 #[.val (.int x0)] [(.int x0)])) _
      refine XS.ifNo X0.here hx rfl (hb hby own_d2_1) rfl ((if0 _ _).trans (teq hc1).2) ?_
      show Steps p.tables e below (s₁.setTop (mkF m 4 #[.val (.int x0)] [])) _
      refine XS.iconst X0.here hx rfl (hb hby own_d2_4) ?_
      show Steps p.tables e below (s₁.setTop (mkF m 5 #[.val (.int x0)] [(.int (-1 : Int32))])) _
      exact retOut X0 hx Bd.returns rfl (Or.inl ⟨rfl, Or.inl rfl, _, rfl⟩) (hb hby own_d2_5) hr
    · show QP (.int (own_fr x0)) h0 n0 _ s₁.heap _
      rw [e0]
      exact ⟨by rw [own_fr]; rw [if_pos hc1], N0, rfl⟩
  · have pre39 : ∀ t, Steps p.tables e below (s₁.setTop (mkF m 8 #[.val (.int x0)] [(.int (1 : Int32)), (.int x0)])) t → Steps p.tables e below (s₁.setTop (entryFrame m #[(.int x0)] 1)) t := fun tt kk => pre38 tt (by
      show Steps p.tables e below (s₁.setTop (mkF m 1 #[.val (.int x0)] [(.int x0)])) _
      refine XS.ifYes X0.here hx rfl (pc0 := 1) (pc' := 6) rfl (hb hby own_d2_1) rfl ((if0 _ _).trans (feq hc1).2) (by decide) (by decide) ?_
      show Steps p.tables e below (s₁.setTop (mkF m 6 #[.val (.int x0)] [])) _
      refine XS.iloadN X0.here hx rfl (hb hby own_d2_6) rfl ?_
      show Steps p.tables e below (s₁.setTop (mkF m 7 #[.val (.int x0)] [(.int x0)])) _
      refine XS.iconst X0.here hx rfl (hb hby own_d2_7) ?_
      exact kk)
    by_cases hc8 : x0 = (1 : Int32)
    · obtain ⟨fs, hr, hrun, hended, hW, hsame⟩ := X0.leave (v := some (.int (1 : Int32))) (fun h => by rw [Bd.returns] at h; cases h)
      refine ⟨_, _, pre39 _ ?_, hrun, hended, _, _, rfl, ?_, ⟨_, rfl⟩, hW, hsame.mono (by decide) (by decide)⟩
      · show Steps p.tables e below (s₁.setTop (mkF m 8 #[.val (.int x0)] [(.int (1 : Int32)), (.int x0)])) _
        refine XS.icmpNo X0.here hx rfl (hb hby own_d2_8) rfl (teq hc8).2 ?_
        show Steps p.tables e below (s₁.setTop (mkF m 11 #[.val (.int x0)] [])) _
        refine XS.iconst X0.here hx rfl (hb hby own_d2_11) ?_
        show Steps p.tables e below (s₁.setTop (mkF m 12 #[.val (.int x0)] [(.int (1 : Int32))])) _
        exact retOut X0 hx Bd.returns rfl (Or.inl ⟨rfl, Or.inl rfl, _, rfl⟩) (hb hby own_d2_12) hr
      · show QP (.int (own_fr x0)) h0 n0 _ s₁.heap _
        rw [e0]
        exact ⟨by rw [own_fr]; rw [if_neg hc1, if_pos hc8], N0, rfl⟩
    · have pre40 : ∀ t, Steps p.tables e below (s₁.setTop (mkF m 15 #[.val (.int x0)] [(.int (2 : Int32)), (.int x0)])) t → Steps p.tables e below (s₁.setTop (entryFrame m #[(.int x0)] 1)) t := fun tt kk => pre39 tt (by
        show Steps p.tables e below (s₁.setTop (mkF m 8 #[.val (.int x0)] [(.int (1 : Int32)), (.int x0)])) _
        refine XS.icmpYes X0.here hx rfl (pc0 := 8) (pc' := 13) rfl (hb hby own_d2_8) rfl (feq hc8).2 (by decide) (by decide) ?_
        show Steps p.tables e below (s₁.setTop (mkF m 13 #[.val (.int x0)] [])) _
        refine XS.iloadN X0.here hx rfl (hb hby own_d2_13) rfl ?_
        show Steps p.tables e below (s₁.setTop (mkF m 14 #[.val (.int x0)] [(.int x0)])) _
        refine XS.iconst X0.here hx rfl (hb hby own_d2_14) ?_
        exact kk)
      by_cases hc15 : x0 = (2 : Int32)
      · obtain ⟨fs, hr, hrun, hended, hW, hsame⟩ := X0.leave (v := some (.int (2 : Int32))) (fun h => by rw [Bd.returns] at h; cases h)
        refine ⟨_, _, pre40 _ ?_, hrun, hended, _, _, rfl, ?_, ⟨_, rfl⟩, hW, hsame.mono (by decide) (by decide)⟩
        · show Steps p.tables e below (s₁.setTop (mkF m 15 #[.val (.int x0)] [(.int (2 : Int32)), (.int x0)])) _
          refine XS.icmpNo X0.here hx rfl (hb hby own_d2_15) rfl (teq hc15).2 ?_
          show Steps p.tables e below (s₁.setTop (mkF m 18 #[.val (.int x0)] [])) _
          refine XS.iconst X0.here hx rfl (hb hby own_d2_18) ?_
          show Steps p.tables e below (s₁.setTop (mkF m 19 #[.val (.int x0)] [(.int (2 : Int32))])) _
          exact retOut X0 hx Bd.returns rfl (Or.inl ⟨rfl, Or.inl rfl, _, rfl⟩) (hb hby own_d2_19) hr
        · show QP (.int (own_fr x0)) h0 n0 _ s₁.heap _
          rw [e0]
          exact ⟨by rw [own_fr]; rw [if_neg hc1, if_neg hc8, if_pos hc15], N0, rfl⟩
      · have pre41 : ∀ t, Steps p.tables e below (s₁.setTop (mkF m 22 #[.val (.int x0)] [(.int (3 : Int32)), (.int x0)])) t → Steps p.tables e below (s₁.setTop (entryFrame m #[(.int x0)] 1)) t := fun tt kk => pre40 tt (by
          show Steps p.tables e below (s₁.setTop (mkF m 15 #[.val (.int x0)] [(.int (2 : Int32)), (.int x0)])) _
          refine XS.icmpYes X0.here hx rfl (pc0 := 15) (pc' := 20) rfl (hb hby own_d2_15) rfl (feq hc15).2 (by decide) (by decide) ?_
          show Steps p.tables e below (s₁.setTop (mkF m 20 #[.val (.int x0)] [])) _
          refine XS.iloadN X0.here hx rfl (hb hby own_d2_20) rfl ?_
          show Steps p.tables e below (s₁.setTop (mkF m 21 #[.val (.int x0)] [(.int x0)])) _
          refine XS.iconst X0.here hx rfl (hb hby own_d2_21) ?_
          exact kk)
        by_cases hc22 : x0 = (3 : Int32)
        · obtain ⟨fs, hr, hrun, hended, hW, hsame⟩ := X0.leave (v := some (.int (3 : Int32))) (fun h => by rw [Bd.returns] at h; cases h)
          refine ⟨_, _, pre41 _ ?_, hrun, hended, _, _, rfl, ?_, ⟨_, rfl⟩, hW, hsame.mono (by decide) (by decide)⟩
          · show Steps p.tables e below (s₁.setTop (mkF m 22 #[.val (.int x0)] [(.int (3 : Int32)), (.int x0)])) _
            refine XS.icmpNo X0.here hx rfl (hb hby own_d2_22) rfl (teq hc22).2 ?_
            show Steps p.tables e below (s₁.setTop (mkF m 25 #[.val (.int x0)] [])) _
            refine XS.iconst X0.here hx rfl (hb hby own_d2_25) ?_
            show Steps p.tables e below (s₁.setTop (mkF m 26 #[.val (.int x0)] [(.int (3 : Int32))])) _
            exact retOut X0 hx Bd.returns rfl (Or.inl ⟨rfl, Or.inl rfl, _, rfl⟩) (hb hby own_d2_26) hr
          · show QP (.int (own_fr x0)) h0 n0 _ s₁.heap _
            rw [e0]
            exact ⟨by rw [own_fr]; rw [if_neg hc1, if_neg hc8, if_neg hc15, if_pos hc22], N0, rfl⟩
        · have pre42 : ∀ t, Steps p.tables e below (s₁.setTop (mkF m 29 #[.val (.int x0)] [(.int (4 : Int32)), (.int x0)])) t → Steps p.tables e below (s₁.setTop (entryFrame m #[(.int x0)] 1)) t := fun tt kk => pre41 tt (by
            show Steps p.tables e below (s₁.setTop (mkF m 22 #[.val (.int x0)] [(.int (3 : Int32)), (.int x0)])) _
            refine XS.icmpYes X0.here hx rfl (pc0 := 22) (pc' := 27) rfl (hb hby own_d2_22) rfl (feq hc22).2 (by decide) (by decide) ?_
            show Steps p.tables e below (s₁.setTop (mkF m 27 #[.val (.int x0)] [])) _
            refine XS.iloadN X0.here hx rfl (hb hby own_d2_27) rfl ?_
            show Steps p.tables e below (s₁.setTop (mkF m 28 #[.val (.int x0)] [(.int x0)])) _
            refine XS.iconst X0.here hx rfl (hb hby own_d2_28) ?_
            exact kk)
          by_cases hc29 : x0 = (4 : Int32)
          · obtain ⟨fs, hr, hrun, hended, hW, hsame⟩ := X0.leave (v := some (.int (3 : Int32))) (fun h => by rw [Bd.returns] at h; cases h)
            refine ⟨_, _, pre42 _ ?_, hrun, hended, _, _, rfl, ?_, ⟨_, rfl⟩, hW, hsame.mono (by decide) (by decide)⟩
            · show Steps p.tables e below (s₁.setTop (mkF m 29 #[.val (.int x0)] [(.int (4 : Int32)), (.int x0)])) _
              refine XS.icmpNo X0.here hx rfl (hb hby own_d2_29) rfl (teq hc29).2 ?_
              show Steps p.tables e below (s₁.setTop (mkF m 32 #[.val (.int x0)] [])) _
              refine XS.iconst X0.here hx rfl (hb hby own_d2_32) ?_
              show Steps p.tables e below (s₁.setTop (mkF m 33 #[.val (.int x0)] [(.int (3 : Int32))])) _
              exact retOut X0 hx Bd.returns rfl (Or.inl ⟨rfl, Or.inl rfl, _, rfl⟩) (hb hby own_d2_33) hr
            · show QP (.int (own_fr x0)) h0 n0 _ s₁.heap _
              rw [e0]
              exact ⟨by rw [own_fr]; rw [if_neg hc1, if_neg hc8, if_neg hc15, if_neg hc22, if_pos hc29], N0, rfl⟩
          · have pre43 : ∀ t, Steps p.tables e below (s₁.setTop (mkF m 36 #[.val (.int x0)] [(.int (5 : Int32)), (.int x0)])) t → Steps p.tables e below (s₁.setTop (entryFrame m #[(.int x0)] 1)) t := fun tt kk => pre42 tt (by
              show Steps p.tables e below (s₁.setTop (mkF m 29 #[.val (.int x0)] [(.int (4 : Int32)), (.int x0)])) _
              refine XS.icmpYes X0.here hx rfl (pc0 := 29) (pc' := 34) rfl (hb hby own_d2_29) rfl (feq hc29).2 (by decide) (by decide) ?_
              show Steps p.tables e below (s₁.setTop (mkF m 34 #[.val (.int x0)] [])) _
              refine XS.iloadN X0.here hx rfl (hb hby own_d2_34) rfl ?_
              show Steps p.tables e below (s₁.setTop (mkF m 35 #[.val (.int x0)] [(.int x0)])) _
              refine XS.iconst X0.here hx rfl (hb hby own_d2_35) ?_
              exact kk)
            by_cases hc36 : x0 = (5 : Int32)
            · obtain ⟨fs, hr, hrun, hended, hW, hsame⟩ := X0.leave (v := some (.int (3 : Int32))) (fun h => by rw [Bd.returns] at h; cases h)
              refine ⟨_, _, pre43 _ ?_, hrun, hended, _, _, rfl, ?_, ⟨_, rfl⟩, hW, hsame.mono (by decide) (by decide)⟩
              · show Steps p.tables e below (s₁.setTop (mkF m 36 #[.val (.int x0)] [(.int (5 : Int32)), (.int x0)])) _
                refine XS.icmpNo X0.here hx rfl (hb hby own_d2_36) rfl (teq hc36).2 ?_
                show Steps p.tables e below (s₁.setTop (mkF m 39 #[.val (.int x0)] [])) _
                refine XS.iconst X0.here hx rfl (hb hby own_d2_39) ?_
                show Steps p.tables e below (s₁.setTop (mkF m 40 #[.val (.int x0)] [(.int (3 : Int32))])) _
                exact retOut X0 hx Bd.returns rfl (Or.inl ⟨rfl, Or.inl rfl, _, rfl⟩) (hb hby own_d2_40) hr
              · show QP (.int (own_fr x0)) h0 n0 _ s₁.heap _
                rw [e0]
                exact ⟨by rw [own_fr]; rw [if_neg hc1, if_neg hc8, if_neg hc15, if_neg hc22, if_neg hc29, if_pos hc36], N0, rfl⟩
            · have pre44 : ∀ t, Steps p.tables e below (s₁.setTop (mkF m 44 #[.val (.int x0)] [(.int (6 : Int32)), (.int x0)])) t → Steps p.tables e below (s₁.setTop (entryFrame m #[(.int x0)] 1)) t := fun tt kk => pre43 tt (by
                show Steps p.tables e below (s₁.setTop (mkF m 36 #[.val (.int x0)] [(.int (5 : Int32)), (.int x0)])) _
                refine XS.icmpYes X0.here hx rfl (pc0 := 36) (pc' := 41) rfl (hb hby own_d2_36) rfl (feq hc36).2 (by decide) (by decide) ?_
                show Steps p.tables e below (s₁.setTop (mkF m 41 #[.val (.int x0)] [])) _
                refine XS.iloadN X0.here hx rfl (hb hby own_d2_41) rfl ?_
                show Steps p.tables e below (s₁.setTop (mkF m 42 #[.val (.int x0)] [(.int x0)])) _
                refine XS.bipush X0.here hx rfl (hb hby own_d2_42) ?_
                exact kk)
              by_cases hc44 : x0 = (6 : Int32)
              · obtain ⟨fs, hr, hrun, hended, hW, hsame⟩ := X0.leave (v := some (.int (1 : Int32))) (fun h => by rw [Bd.returns] at h; cases h)
                refine ⟨_, _, pre44 _ ?_, hrun, hended, _, _, rfl, ?_, ⟨_, rfl⟩, hW, hsame.mono (by decide) (by decide)⟩
                · show Steps p.tables e below (s₁.setTop (mkF m 44 #[.val (.int x0)] [(.int (6 : Int32)), (.int x0)])) _
                  refine XS.icmpNo X0.here hx rfl (hb hby own_d2_44) rfl (teq hc44).2 ?_
                  show Steps p.tables e below (s₁.setTop (mkF m 47 #[.val (.int x0)] [])) _
                  refine XS.iconst X0.here hx rfl (hb hby own_d2_47) ?_
                  show Steps p.tables e below (s₁.setTop (mkF m 48 #[.val (.int x0)] [(.int (1 : Int32))])) _
                  exact retOut X0 hx Bd.returns rfl (Or.inl ⟨rfl, Or.inl rfl, _, rfl⟩) (hb hby own_d2_48) hr
                · show QP (.int (own_fr x0)) h0 n0 _ s₁.heap _
                  rw [e0]
                  exact ⟨by rw [own_fr]; rw [if_neg hc1, if_neg hc8, if_neg hc15, if_neg hc22, if_neg hc29, if_neg hc36, if_pos hc44], N0, rfl⟩
              · have pre45 : ∀ t, Steps p.tables e below (s₁.setTop (mkF m 52 #[.val (.int x0)] [(.int (7 : Int32)), (.int x0)])) t → Steps p.tables e below (s₁.setTop (entryFrame m #[(.int x0)] 1)) t := fun tt kk => pre44 tt (by
                  show Steps p.tables e below (s₁.setTop (mkF m 44 #[.val (.int x0)] [(.int (6 : Int32)), (.int x0)])) _
                  refine XS.icmpYes X0.here hx rfl (pc0 := 44) (pc' := 49) rfl (hb hby own_d2_44) rfl (feq hc44).2 (by decide) (by decide) ?_
                  show Steps p.tables e below (s₁.setTop (mkF m 49 #[.val (.int x0)] [])) _
                  refine XS.iloadN X0.here hx rfl (hb hby own_d2_49) rfl ?_
                  show Steps p.tables e below (s₁.setTop (mkF m 50 #[.val (.int x0)] [(.int x0)])) _
                  refine XS.bipush X0.here hx rfl (hb hby own_d2_50) ?_
                  exact kk)
                by_cases hc52 : x0 = (7 : Int32)
                · obtain ⟨fs, hr, hrun, hended, hW, hsame⟩ := X0.leave (v := some (.int (2 : Int32))) (fun h => by rw [Bd.returns] at h; cases h)
                  refine ⟨_, _, pre45 _ ?_, hrun, hended, _, _, rfl, ?_, ⟨_, rfl⟩, hW, hsame.mono (by decide) (by decide)⟩
                  · show Steps p.tables e below (s₁.setTop (mkF m 52 #[.val (.int x0)] [(.int (7 : Int32)), (.int x0)])) _
                    refine XS.icmpNo X0.here hx rfl (hb hby own_d2_52) rfl (teq hc52).2 ?_
                    show Steps p.tables e below (s₁.setTop (mkF m 55 #[.val (.int x0)] [])) _
                    refine XS.iconst X0.here hx rfl (hb hby own_d2_55) ?_
                    show Steps p.tables e below (s₁.setTop (mkF m 56 #[.val (.int x0)] [(.int (2 : Int32))])) _
                    exact retOut X0 hx Bd.returns rfl (Or.inl ⟨rfl, Or.inl rfl, _, rfl⟩) (hb hby own_d2_56) hr
                  · show QP (.int (own_fr x0)) h0 n0 _ s₁.heap _
                    rw [e0]
                    exact ⟨by rw [own_fr]; rw [if_neg hc1, if_neg hc8, if_neg hc15, if_neg hc22, if_neg hc29, if_neg hc36, if_neg hc44, if_pos hc52], N0, rfl⟩
                · have pre46 : ∀ t, Steps p.tables e below (s₁.setTop (mkF m 60 #[.val (.int x0)] [(.int (8 : Int32)), (.int x0)])) t → Steps p.tables e below (s₁.setTop (entryFrame m #[(.int x0)] 1)) t := fun tt kk => pre45 tt (by
                    show Steps p.tables e below (s₁.setTop (mkF m 52 #[.val (.int x0)] [(.int (7 : Int32)), (.int x0)])) _
                    refine XS.icmpYes X0.here hx rfl (pc0 := 52) (pc' := 57) rfl (hb hby own_d2_52) rfl (feq hc52).2 (by decide) (by decide) ?_
                    show Steps p.tables e below (s₁.setTop (mkF m 57 #[.val (.int x0)] [])) _
                    refine XS.iloadN X0.here hx rfl (hb hby own_d2_57) rfl ?_
                    show Steps p.tables e below (s₁.setTop (mkF m 58 #[.val (.int x0)] [(.int x0)])) _
                    refine XS.bipush X0.here hx rfl (hb hby own_d2_58) ?_
                    exact kk)
                  by_cases hc60 : x0 = (8 : Int32)
                  · obtain ⟨fs, hr, hrun, hended, hW, hsame⟩ := X0.leave (v := some (.int (1 : Int32))) (fun h => by rw [Bd.returns] at h; cases h)
                    refine ⟨_, _, pre46 _ ?_, hrun, hended, _, _, rfl, ?_, ⟨_, rfl⟩, hW, hsame.mono (by decide) (by decide)⟩
                    · show Steps p.tables e below (s₁.setTop (mkF m 60 #[.val (.int x0)] [(.int (8 : Int32)), (.int x0)])) _
                      refine XS.icmpNo X0.here hx rfl (hb hby own_d2_60) rfl (teq hc60).2 ?_
                      show Steps p.tables e below (s₁.setTop (mkF m 63 #[.val (.int x0)] [])) _
                      refine XS.iconst X0.here hx rfl (hb hby own_d2_63) ?_
                      show Steps p.tables e below (s₁.setTop (mkF m 64 #[.val (.int x0)] [(.int (1 : Int32))])) _
                      exact retOut X0 hx Bd.returns rfl (Or.inl ⟨rfl, Or.inl rfl, _, rfl⟩) (hb hby own_d2_64) hr
                    · show QP (.int (own_fr x0)) h0 n0 _ s₁.heap _
                      rw [e0]
                      exact ⟨by rw [own_fr]; rw [if_neg hc1, if_neg hc8, if_neg hc15, if_neg hc22, if_neg hc29, if_neg hc36, if_neg hc44, if_neg hc52, if_pos hc60], N0, rfl⟩
                  · have pre47 : ∀ t, Steps p.tables e below (s₁.setTop (mkF m 68 #[.val (.int x0)] [(.int (9 : Int32)), (.int x0)])) t → Steps p.tables e below (s₁.setTop (entryFrame m #[(.int x0)] 1)) t := fun tt kk => pre46 tt (by
                      show Steps p.tables e below (s₁.setTop (mkF m 60 #[.val (.int x0)] [(.int (8 : Int32)), (.int x0)])) _
                      refine XS.icmpYes X0.here hx rfl (pc0 := 60) (pc' := 65) rfl (hb hby own_d2_60) rfl (feq hc60).2 (by decide) (by decide) ?_
                      show Steps p.tables e below (s₁.setTop (mkF m 65 #[.val (.int x0)] [])) _
                      refine XS.iloadN X0.here hx rfl (hb hby own_d2_65) rfl ?_
                      show Steps p.tables e below (s₁.setTop (mkF m 66 #[.val (.int x0)] [(.int x0)])) _
                      refine XS.bipush X0.here hx rfl (hb hby own_d2_66) ?_
                      exact kk)
                    by_cases hc68 : x0 = (9 : Int32)
                    · obtain ⟨fs, hr, hrun, hended, hW, hsame⟩ := X0.leave (v := some (.int (1 : Int32))) (fun h => by rw [Bd.returns] at h; cases h)
                      refine ⟨_, _, pre47 _ ?_, hrun, hended, _, _, rfl, ?_, ⟨_, rfl⟩, hW, hsame.mono (by decide) (by decide)⟩
                      · show Steps p.tables e below (s₁.setTop (mkF m 68 #[.val (.int x0)] [(.int (9 : Int32)), (.int x0)])) _
                        refine XS.icmpNo X0.here hx rfl (hb hby own_d2_68) rfl (teq hc68).2 ?_
                        show Steps p.tables e below (s₁.setTop (mkF m 71 #[.val (.int x0)] [])) _
                        refine XS.iconst X0.here hx rfl (hb hby own_d2_71) ?_
                        show Steps p.tables e below (s₁.setTop (mkF m 72 #[.val (.int x0)] [(.int (1 : Int32))])) _
                        exact retOut X0 hx Bd.returns rfl (Or.inl ⟨rfl, Or.inl rfl, _, rfl⟩) (hb hby own_d2_72) hr
                      · show QP (.int (own_fr x0)) h0 n0 _ s₁.heap _
                        rw [e0]
                        exact ⟨by rw [own_fr]; rw [if_neg hc1, if_neg hc8, if_neg hc15, if_neg hc22, if_neg hc29, if_neg hc36, if_neg hc44, if_neg hc52, if_neg hc60, if_pos hc68], N0, rfl⟩
                    · have pre48 : ∀ t, Steps p.tables e below (s₁.setTop (mkF m 76 #[.val (.int x0)] [(.int (10 : Int32)), (.int x0)])) t → Steps p.tables e below (s₁.setTop (entryFrame m #[(.int x0)] 1)) t := fun tt kk => pre47 tt (by
                        show Steps p.tables e below (s₁.setTop (mkF m 68 #[.val (.int x0)] [(.int (9 : Int32)), (.int x0)])) _
                        refine XS.icmpYes X0.here hx rfl (pc0 := 68) (pc' := 73) rfl (hb hby own_d2_68) rfl (feq hc68).2 (by decide) (by decide) ?_
                        show Steps p.tables e below (s₁.setTop (mkF m 73 #[.val (.int x0)] [])) _
                        refine XS.iloadN X0.here hx rfl (hb hby own_d2_73) rfl ?_
                        show Steps p.tables e below (s₁.setTop (mkF m 74 #[.val (.int x0)] [(.int x0)])) _
                        refine XS.bipush X0.here hx rfl (hb hby own_d2_74) ?_
                        exact kk)
                      by_cases hc76 : x0 = (10 : Int32)
                      · obtain ⟨fs, hr, hrun, hended, hW, hsame⟩ := X0.leave (v := some (.int (1 : Int32))) (fun h => by rw [Bd.returns] at h; cases h)
                        refine ⟨_, _, pre48 _ ?_, hrun, hended, _, _, rfl, ?_, ⟨_, rfl⟩, hW, hsame.mono (by decide) (by decide)⟩
                        · show Steps p.tables e below (s₁.setTop (mkF m 76 #[.val (.int x0)] [(.int (10 : Int32)), (.int x0)])) _
                          refine XS.icmpNo X0.here hx rfl (hb hby own_d2_76) rfl (teq hc76).2 ?_
                          show Steps p.tables e below (s₁.setTop (mkF m 79 #[.val (.int x0)] [])) _
                          refine XS.iconst X0.here hx rfl (hb hby own_d2_79) ?_
                          show Steps p.tables e below (s₁.setTop (mkF m 80 #[.val (.int x0)] [(.int (1 : Int32))])) _
                          exact retOut X0 hx Bd.returns rfl (Or.inl ⟨rfl, Or.inl rfl, _, rfl⟩) (hb hby own_d2_80) hr
                        · show QP (.int (own_fr x0)) h0 n0 _ s₁.heap _
                          rw [e0]
                          exact ⟨by rw [own_fr]; rw [if_neg hc1, if_neg hc8, if_neg hc15, if_neg hc22, if_neg hc29, if_neg hc36, if_neg hc44, if_neg hc52, if_neg hc60, if_neg hc68, if_pos hc76], N0, rfl⟩
                      · have pre49 : ∀ t, Steps p.tables e below (s₁.setTop (mkF m 84 #[.val (.int x0)] [(.int (11 : Int32)), (.int x0)])) t → Steps p.tables e below (s₁.setTop (entryFrame m #[(.int x0)] 1)) t := fun tt kk => pre48 tt (by
                          show Steps p.tables e below (s₁.setTop (mkF m 76 #[.val (.int x0)] [(.int (10 : Int32)), (.int x0)])) _
                          refine XS.icmpYes X0.here hx rfl (pc0 := 76) (pc' := 81) rfl (hb hby own_d2_76) rfl (feq hc76).2 (by decide) (by decide) ?_
                          show Steps p.tables e below (s₁.setTop (mkF m 81 #[.val (.int x0)] [])) _
                          refine XS.iloadN X0.here hx rfl (hb hby own_d2_81) rfl ?_
                          show Steps p.tables e below (s₁.setTop (mkF m 82 #[.val (.int x0)] [(.int x0)])) _
                          refine XS.bipush X0.here hx rfl (hb hby own_d2_82) ?_
                          exact kk)
                        by_cases hc84 : x0 = (11 : Int32)
                        · obtain ⟨fs, hr, hrun, hended, hW, hsame⟩ := X0.leave (v := some (.int (1 : Int32))) (fun h => by rw [Bd.returns] at h; cases h)
                          refine ⟨_, _, pre49 _ ?_, hrun, hended, _, _, rfl, ?_, ⟨_, rfl⟩, hW, hsame.mono (by decide) (by decide)⟩
                          · show Steps p.tables e below (s₁.setTop (mkF m 84 #[.val (.int x0)] [(.int (11 : Int32)), (.int x0)])) _
                            refine XS.icmpNo X0.here hx rfl (hb hby own_d2_84) rfl (teq hc84).2 ?_
                            show Steps p.tables e below (s₁.setTop (mkF m 87 #[.val (.int x0)] [])) _
                            refine XS.iconst X0.here hx rfl (hb hby own_d2_87) ?_
                            show Steps p.tables e below (s₁.setTop (mkF m 88 #[.val (.int x0)] [(.int (1 : Int32))])) _
                            exact retOut X0 hx Bd.returns rfl (Or.inl ⟨rfl, Or.inl rfl, _, rfl⟩) (hb hby own_d2_88) hr
                          · show QP (.int (own_fr x0)) h0 n0 _ s₁.heap _
                            rw [e0]
                            exact ⟨by rw [own_fr]; rw [if_neg hc1, if_neg hc8, if_neg hc15, if_neg hc22, if_neg hc29, if_neg hc36, if_neg hc44, if_neg hc52, if_neg hc60, if_neg hc68, if_neg hc76, if_pos hc84], N0, rfl⟩
                        · have pre50 : ∀ t, Steps p.tables e below (s₁.setTop (mkF m 92 #[.val (.int x0)] [(.int (12 : Int32)), (.int x0)])) t → Steps p.tables e below (s₁.setTop (entryFrame m #[(.int x0)] 1)) t := fun tt kk => pre49 tt (by
                            show Steps p.tables e below (s₁.setTop (mkF m 84 #[.val (.int x0)] [(.int (11 : Int32)), (.int x0)])) _
                            refine XS.icmpYes X0.here hx rfl (pc0 := 84) (pc' := 89) rfl (hb hby own_d2_84) rfl (feq hc84).2 (by decide) (by decide) ?_
                            show Steps p.tables e below (s₁.setTop (mkF m 89 #[.val (.int x0)] [])) _
                            refine XS.iloadN X0.here hx rfl (hb hby own_d2_89) rfl ?_
                            show Steps p.tables e below (s₁.setTop (mkF m 90 #[.val (.int x0)] [(.int x0)])) _
                            refine XS.bipush X0.here hx rfl (hb hby own_d2_90) ?_
                            exact kk)
                          by_cases hc92 : x0 = (12 : Int32)
                          · obtain ⟨fs, hr, hrun, hended, hW, hsame⟩ := X0.leave (v := some (.int (1 : Int32))) (fun h => by rw [Bd.returns] at h; cases h)
                            refine ⟨_, _, pre50 _ ?_, hrun, hended, _, _, rfl, ?_, ⟨_, rfl⟩, hW, hsame.mono (by decide) (by decide)⟩
                            · show Steps p.tables e below (s₁.setTop (mkF m 92 #[.val (.int x0)] [(.int (12 : Int32)), (.int x0)])) _
                              refine XS.icmpNo X0.here hx rfl (hb hby own_d2_92) rfl (teq hc92).2 ?_
                              show Steps p.tables e below (s₁.setTop (mkF m 95 #[.val (.int x0)] [])) _
                              refine XS.iconst X0.here hx rfl (hb hby own_d2_95) ?_
                              show Steps p.tables e below (s₁.setTop (mkF m 96 #[.val (.int x0)] [(.int (1 : Int32))])) _
                              exact retOut X0 hx Bd.returns rfl (Or.inl ⟨rfl, Or.inl rfl, _, rfl⟩) (hb hby own_d2_96) hr
                            · show QP (.int (own_fr x0)) h0 n0 _ s₁.heap _
                              rw [e0]
                              exact ⟨by rw [own_fr]; rw [if_neg hc1, if_neg hc8, if_neg hc15, if_neg hc22, if_neg hc29, if_neg hc36, if_neg hc44, if_neg hc52, if_neg hc60, if_neg hc68, if_neg hc76, if_neg hc84, if_pos hc92], N0, rfl⟩
                          · have pre51 : ∀ t, Steps p.tables e below (s₁.setTop (mkF m 100 #[.val (.int x0)] [(.int (13 : Int32)), (.int x0)])) t → Steps p.tables e below (s₁.setTop (entryFrame m #[(.int x0)] 1)) t := fun tt kk => pre50 tt (by
                              show Steps p.tables e below (s₁.setTop (mkF m 92 #[.val (.int x0)] [(.int (12 : Int32)), (.int x0)])) _
                              refine XS.icmpYes X0.here hx rfl (pc0 := 92) (pc' := 97) rfl (hb hby own_d2_92) rfl (feq hc92).2 (by decide) (by decide) ?_
                              show Steps p.tables e below (s₁.setTop (mkF m 97 #[.val (.int x0)] [])) _
                              refine XS.iloadN X0.here hx rfl (hb hby own_d2_97) rfl ?_
                              show Steps p.tables e below (s₁.setTop (mkF m 98 #[.val (.int x0)] [(.int x0)])) _
                              refine XS.bipush X0.here hx rfl (hb hby own_d2_98) ?_
                              exact kk)
                            by_cases hc100 : x0 = (13 : Int32)
                            · obtain ⟨fs, hr, hrun, hended, hW, hsame⟩ := X0.leave (v := some (.int (-1 : Int32))) (fun h => by rw [Bd.returns] at h; cases h)
                              refine ⟨_, _, pre51 _ ?_, hrun, hended, _, _, rfl, ?_, ⟨_, rfl⟩, hW, hsame.mono (by decide) (by decide)⟩
                              · show Steps p.tables e below (s₁.setTop (mkF m 100 #[.val (.int x0)] [(.int (13 : Int32)), (.int x0)])) _
                                refine XS.icmpNo X0.here hx rfl (hb hby own_d2_100) rfl (teq hc100).2 ?_
                                show Steps p.tables e below (s₁.setTop (mkF m 103 #[.val (.int x0)] [])) _
                                refine XS.iconst X0.here hx rfl (hb hby own_d2_103) ?_
                                show Steps p.tables e below (s₁.setTop (mkF m 104 #[.val (.int x0)] [(.int (-1 : Int32))])) _
                                exact retOut X0 hx Bd.returns rfl (Or.inl ⟨rfl, Or.inl rfl, _, rfl⟩) (hb hby own_d2_104) hr
                              · show QP (.int (own_fr x0)) h0 n0 _ s₁.heap _
                                rw [e0]
                                exact ⟨by rw [own_fr]; rw [if_neg hc1, if_neg hc8, if_neg hc15, if_neg hc22, if_neg hc29, if_neg hc36, if_neg hc44, if_neg hc52, if_neg hc60, if_neg hc68, if_neg hc76, if_neg hc84, if_neg hc92, if_pos hc100], N0, rfl⟩
                            · have pre52 : ∀ t, Steps p.tables e below (s₁.setTop (mkF m 108 #[.val (.int x0)] [(.int (14 : Int32)), (.int x0)])) t → Steps p.tables e below (s₁.setTop (entryFrame m #[(.int x0)] 1)) t := fun tt kk => pre51 tt (by
                                show Steps p.tables e below (s₁.setTop (mkF m 100 #[.val (.int x0)] [(.int (13 : Int32)), (.int x0)])) _
                                refine XS.icmpYes X0.here hx rfl (pc0 := 100) (pc' := 105) rfl (hb hby own_d2_100) rfl (feq hc100).2 (by decide) (by decide) ?_
                                show Steps p.tables e below (s₁.setTop (mkF m 105 #[.val (.int x0)] [])) _
                                refine XS.iloadN X0.here hx rfl (hb hby own_d2_105) rfl ?_
                                show Steps p.tables e below (s₁.setTop (mkF m 106 #[.val (.int x0)] [(.int x0)])) _
                                refine XS.bipush X0.here hx rfl (hb hby own_d2_106) ?_
                                exact kk)
                              by_cases hc108 : x0 = (14 : Int32)
                              · obtain ⟨fs, hr, hrun, hended, hW, hsame⟩ := X0.leave (v := some (.int (2 : Int32))) (fun h => by rw [Bd.returns] at h; cases h)
                                refine ⟨_, _, pre52 _ ?_, hrun, hended, _, _, rfl, ?_, ⟨_, rfl⟩, hW, hsame.mono (by decide) (by decide)⟩
                                · show Steps p.tables e below (s₁.setTop (mkF m 108 #[.val (.int x0)] [(.int (14 : Int32)), (.int x0)])) _
                                  refine XS.icmpNo X0.here hx rfl (hb hby own_d2_108) rfl (teq hc108).2 ?_
                                  show Steps p.tables e below (s₁.setTop (mkF m 111 #[.val (.int x0)] [])) _
                                  refine XS.iconst X0.here hx rfl (hb hby own_d2_111) ?_
                                  show Steps p.tables e below (s₁.setTop (mkF m 112 #[.val (.int x0)] [(.int (2 : Int32))])) _
                                  exact retOut X0 hx Bd.returns rfl (Or.inl ⟨rfl, Or.inl rfl, _, rfl⟩) (hb hby own_d2_112) hr
                                · show QP (.int (own_fr x0)) h0 n0 _ s₁.heap _
                                  rw [e0]
                                  exact ⟨by rw [own_fr]; rw [if_neg hc1, if_neg hc8, if_neg hc15, if_neg hc22, if_neg hc29, if_neg hc36, if_neg hc44, if_neg hc52, if_neg hc60, if_neg hc68, if_neg hc76, if_neg hc84, if_neg hc92, if_neg hc100, if_pos hc108], N0, rfl⟩
                              · have pre53 : ∀ t, Steps p.tables e below (s₁.setTop (mkF m 116 #[.val (.int x0)] [(.int (15 : Int32)), (.int x0)])) t → Steps p.tables e below (s₁.setTop (entryFrame m #[(.int x0)] 1)) t := fun tt kk => pre52 tt (by
                                  show Steps p.tables e below (s₁.setTop (mkF m 108 #[.val (.int x0)] [(.int (14 : Int32)), (.int x0)])) _
                                  refine XS.icmpYes X0.here hx rfl (pc0 := 108) (pc' := 113) rfl (hb hby own_d2_108) rfl (feq hc108).2 (by decide) (by decide) ?_
                                  show Steps p.tables e below (s₁.setTop (mkF m 113 #[.val (.int x0)] [])) _
                                  refine XS.iloadN X0.here hx rfl (hb hby own_d2_113) rfl ?_
                                  show Steps p.tables e below (s₁.setTop (mkF m 114 #[.val (.int x0)] [(.int x0)])) _
                                  refine XS.bipush X0.here hx rfl (hb hby own_d2_114) ?_
                                  exact kk)
                                by_cases hc116 : x0 = (15 : Int32)
                                · obtain ⟨fs, hr, hrun, hended, hW, hsame⟩ := X0.leave (v := some (.int (1 : Int32))) (fun h => by rw [Bd.returns] at h; cases h)
                                  refine ⟨_, _, pre53 _ ?_, hrun, hended, _, _, rfl, ?_, ⟨_, rfl⟩, hW, hsame.mono (by decide) (by decide)⟩
                                  · show Steps p.tables e below (s₁.setTop (mkF m 116 #[.val (.int x0)] [(.int (15 : Int32)), (.int x0)])) _
                                    refine XS.icmpNo X0.here hx rfl (hb hby own_d2_116) rfl (teq hc116).2 ?_
                                    show Steps p.tables e below (s₁.setTop (mkF m 119 #[.val (.int x0)] [])) _
                                    refine XS.iconst X0.here hx rfl (hb hby own_d2_119) ?_
                                    show Steps p.tables e below (s₁.setTop (mkF m 120 #[.val (.int x0)] [(.int (1 : Int32))])) _
                                    exact retOut X0 hx Bd.returns rfl (Or.inl ⟨rfl, Or.inl rfl, _, rfl⟩) (hb hby own_d2_120) hr
                                  · show QP (.int (own_fr x0)) h0 n0 _ s₁.heap _
                                    rw [e0]
                                    exact ⟨by rw [own_fr]; rw [if_neg hc1, if_neg hc8, if_neg hc15, if_neg hc22, if_neg hc29, if_neg hc36, if_neg hc44, if_neg hc52, if_neg hc60, if_neg hc68, if_neg hc76, if_neg hc84, if_neg hc92, if_neg hc100, if_neg hc108, if_pos hc116], N0, rfl⟩
                                · have pre54 : ∀ t, Steps p.tables e below (s₁.setTop (mkF m 124 #[.val (.int x0)] [(.int (16 : Int32)), (.int x0)])) t → Steps p.tables e below (s₁.setTop (entryFrame m #[(.int x0)] 1)) t := fun tt kk => pre53 tt (by
                                    show Steps p.tables e below (s₁.setTop (mkF m 116 #[.val (.int x0)] [(.int (15 : Int32)), (.int x0)])) _
                                    refine XS.icmpYes X0.here hx rfl (pc0 := 116) (pc' := 121) rfl (hb hby own_d2_116) rfl (feq hc116).2 (by decide) (by decide) ?_
                                    show Steps p.tables e below (s₁.setTop (mkF m 121 #[.val (.int x0)] [])) _
                                    refine XS.iloadN X0.here hx rfl (hb hby own_d2_121) rfl ?_
                                    show Steps p.tables e below (s₁.setTop (mkF m 122 #[.val (.int x0)] [(.int x0)])) _
                                    refine XS.bipush X0.here hx rfl (hb hby own_d2_122) ?_
                                    exact kk)
                                  by_cases hc124 : x0 = (16 : Int32)
                                  · obtain ⟨fs, hr, hrun, hended, hW, hsame⟩ := X0.leave (v := some (.int (0 : Int32))) (fun h => by rw [Bd.returns] at h; cases h)
                                    refine ⟨_, _, pre54 _ ?_, hrun, hended, _, _, rfl, ?_, ⟨_, rfl⟩, hW, hsame.mono (by decide) (by decide)⟩
                                    · show Steps p.tables e below (s₁.setTop (mkF m 124 #[.val (.int x0)] [(.int (16 : Int32)), (.int x0)])) _
                                      refine XS.icmpNo X0.here hx rfl (hb hby own_d2_124) rfl (teq hc124).2 ?_
                                      show Steps p.tables e below (s₁.setTop (mkF m 127 #[.val (.int x0)] [])) _
                                      refine XS.iconst X0.here hx rfl (hb hby own_d2_127) ?_
                                      show Steps p.tables e below (s₁.setTop (mkF m 128 #[.val (.int x0)] [(.int (0 : Int32))])) _
                                      exact retOut X0 hx Bd.returns rfl (Or.inl ⟨rfl, Or.inl rfl, _, rfl⟩) (hb hby own_d2_128) hr
                                    · show QP (.int (own_fr x0)) h0 n0 _ s₁.heap _
                                      rw [e0]
                                      exact ⟨by rw [own_fr]; rw [if_neg hc1, if_neg hc8, if_neg hc15, if_neg hc22, if_neg hc29, if_neg hc36, if_neg hc44, if_neg hc52, if_neg hc60, if_neg hc68, if_neg hc76, if_neg hc84, if_neg hc92, if_neg hc100, if_neg hc108, if_neg hc116, if_pos hc124], N0, rfl⟩
                                  · have pre55 : ∀ t, Steps p.tables e below (s₁.setTop (mkF m 132 #[.val (.int x0)] [(.int (17 : Int32)), (.int x0)])) t → Steps p.tables e below (s₁.setTop (entryFrame m #[(.int x0)] 1)) t := fun tt kk => pre54 tt (by
                                      show Steps p.tables e below (s₁.setTop (mkF m 124 #[.val (.int x0)] [(.int (16 : Int32)), (.int x0)])) _
                                      refine XS.icmpYes X0.here hx rfl (pc0 := 124) (pc' := 129) rfl (hb hby own_d2_124) rfl (feq hc124).2 (by decide) (by decide) ?_
                                      show Steps p.tables e below (s₁.setTop (mkF m 129 #[.val (.int x0)] [])) _
                                      refine XS.iloadN X0.here hx rfl (hb hby own_d2_129) rfl ?_
                                      show Steps p.tables e below (s₁.setTop (mkF m 130 #[.val (.int x0)] [(.int x0)])) _
                                      refine XS.bipush X0.here hx rfl (hb hby own_d2_130) ?_
                                      exact kk)
                                    by_cases hc132 : x0 = (17 : Int32)
                                    · obtain ⟨fs, hr, hrun, hended, hW, hsame⟩ := X0.leave (v := some (.int (0 : Int32))) (fun h => by rw [Bd.returns] at h; cases h)
                                      refine ⟨_, _, pre55 _ ?_, hrun, hended, _, _, rfl, ?_, ⟨_, rfl⟩, hW, hsame.mono (by decide) (by decide)⟩
                                      · show Steps p.tables e below (s₁.setTop (mkF m 132 #[.val (.int x0)] [(.int (17 : Int32)), (.int x0)])) _
                                        refine XS.icmpNo X0.here hx rfl (hb hby own_d2_132) rfl (teq hc132).2 ?_
                                        show Steps p.tables e below (s₁.setTop (mkF m 135 #[.val (.int x0)] [])) _
                                        refine XS.iconst X0.here hx rfl (hb hby own_d2_135) ?_
                                        show Steps p.tables e below (s₁.setTop (mkF m 136 #[.val (.int x0)] [(.int (0 : Int32))])) _
                                        exact retOut X0 hx Bd.returns rfl (Or.inl ⟨rfl, Or.inl rfl, _, rfl⟩) (hb hby own_d2_136) hr
                                      · show QP (.int (own_fr x0)) h0 n0 _ s₁.heap _
                                        rw [e0]
                                        exact ⟨by rw [own_fr]; rw [if_neg hc1, if_neg hc8, if_neg hc15, if_neg hc22, if_neg hc29, if_neg hc36, if_neg hc44, if_neg hc52, if_neg hc60, if_neg hc68, if_neg hc76, if_neg hc84, if_neg hc92, if_neg hc100, if_neg hc108, if_neg hc116, if_neg hc124, if_pos hc132], N0, rfl⟩
                                    · obtain ⟨fs, hr, hrun, hended, hW, hsame⟩ := X0.leave (v := some (.int (0 : Int32))) (fun h => by rw [Bd.returns] at h; cases h)
                                      refine ⟨_, _, pre55 _ ?_, hrun, hended, _, _, rfl, ?_, ⟨_, rfl⟩, hW, hsame.mono (by decide) (by decide)⟩
                                      · show Steps p.tables e below (s₁.setTop (mkF m 132 #[.val (.int x0)] [(.int (17 : Int32)), (.int x0)])) _
                                        refine XS.icmpYes X0.here hx rfl (pc0 := 132) (pc' := 137) rfl (hb hby own_d2_132) rfl (feq hc132).2 (by decide) (by decide) ?_
                                        show Steps p.tables e below (s₁.setTop (mkF m 137 #[.val (.int x0)] [])) _
                                        refine XS.iconst X0.here hx rfl (hb hby own_d2_137) ?_
                                        show Steps p.tables e below (s₁.setTop (mkF m 138 #[.val (.int x0)] [(.int (0 : Int32))])) _
                                        exact retOut X0 hx Bd.returns rfl (Or.inl ⟨rfl, Or.inl rfl, _, rfl⟩) (hb hby own_d2_138) hr
                                      · show QP (.int (own_fr x0)) h0 n0 _ s₁.heap _
                                        rw [e0]
                                        exact ⟨by rw [own_fr]; rw [if_neg hc1, if_neg hc8, if_neg hc15, if_neg hc22, if_neg hc29, if_neg hc36, if_neg hc44, if_neg hc52, if_neg hc60, if_neg hc68, if_neg hc76, if_neg hc84, if_neg hc92, if_neg hc100, if_neg hc108, if_neg hc116, if_neg hc124, if_neg hc132], N0, rfl⟩
theorem own_d3_0 : decode prog_1_method_9_code 0 = .ok (.aload_n 0, 1) := by decide +kernel
theorem own_d3_1 : decode prog_1_method_9_code 1 = .ok (.getfield 93, 3) := by decide +kernel
theorem own_d3_4 : decode prog_1_method_9_code 4 = .ok (.iconst (-1), 1) := by decide +kernel
theorem own_d3_5 : decode prog_1_method_9_code 5 = .ok (.if_icmp .eq 15, 3) := by decide +kernel
theorem own_d3_8 : decode prog_1_method_9_code 8 = .ok (.iload_n 1, 1) := by decide +kernel
theorem own_d3_9 : decode prog_1_method_9_code 9 = .ok (.aload_n 0, 1) := by decide +kernel
theorem own_d3_10 : decode prog_1_method_9_code 10 = .ok (.getfield 93, 3) := by decide +kernel
theorem own_d3_13 : decode prog_1_method_9_code 13 = .ok (.if_icmp .lt 7, 3) := by decide +kernel
theorem own_d3_16 : decode prog_1_method_9_code 16 = .ok (.iconst 1, 1) := by decide +kernel
theorem own_d3_17 : decode prog_1_method_9_code 17 = .ok (.goto 4, 3) := by decide +kernel
theorem own_d3_20 : decode prog_1_method_9_code 20 = .ok (.iconst 0, 1) := by decide +kernel
theorem own_d3_21 : decode prog_1_method_9_code 21 = .ok (.ireturn, 1) := by decide +kernel
set_option maxRecDepth 65536 in
set_option maxHeartbeats 40000000 in
theorem rm_op (l : Launch) (Z : State) (a0 : Array Value) (hw : ∀ d ∈ tables_1, d.before a0 Z = true) (ws : List Jvm.Cond) (x0 : Addr) (x1 f : Int32) (h0 : Heap) (n0 : Nat) (Z0 : n0 ≤ h0.size) (F : Fld Z h0 x0 "com/example/lean_broker/leanbroker/protocol/ApiKey" "throttleTimeFrom" "S" (.int f)) :
    MetFree l (⟨"com/example/lean_broker/leanbroker/protocol/ApiKey", "opensWithThrottleTime", "(S)Z"⟩ : MethodName) (head1 (Jvm.Cond.code (⟨"com/example/lean_broker/leanbroker/protocol/ApiKey", "opensWithThrottleTime", "(S)Z"⟩ : MethodName) prog_1_method_9_code 2 (some .boolean) :: ws) ({ frames := 0, cells := 0, slots := 0, locals := 0 } : Room)) (fun a U => a = #[(.ref x0), (.int x1)] ∧ Z.Warmed39 U.vm ∧ U.heap = h0) (fun _ _ _ _ _ => True) (fun _ U o U' => ∃ v L, o = .returned v ∧ QP (.int (if f = (-1) then 0 else if x1 < f then 0 else 1)) h0 n0 v U'.heap L ∧ FrameEnd U o U' L ({ frames := 0, cells := 0, slots := 0, locals := 0 } : Room).cells ({ frames := 0, cells := 0, slots := 0, locals := 0 } : Room).slots) := by
  refine MetFree.of_bodySF (plainFor_of_name (by first | (simp [plainName, overriddenIn]; done) | decide +kernel)) hisR ?_
  intro p e s m args below meth c s₁ Bd hml0 hP hK
  obtain ⟨rfl, hZ, hh⟩ := hP
  have hx := Bd.exec
  have hby := Bd.bytes
  have hml : c.maxLocals = 2 := hml0
  have hown : s.vm.findClass "com/example/lean_broker/leanbroker/protocol/ApiKey" = some m.cls := findClass_of_methodNamed Bd.named
  have hnm := (name_of_methodNamed Bd.named Bd.method).1
  have X0 : Stand p l e ({ frames := 0, cells := 0, slots := 0, locals := 0 } : Room) s m #[(.ref x0), (.int x1)] below meth c s₁ [] 0 0 := Stand.of_body Bd
  have e0 : s₁.heap = h0 := by rw [← hh, Bd.state]; rfl
  have N0 := Fr.nil n0
  have ef0 : entryFrame m #[(.ref x0), (.int x1)] 2 = mkF m 0 #[.val (.ref x0), .val (.int x1)] [] := by first | (simp [entryFrame, mkF, argsToLocals, Value.category, maxLocals]; done) | rfl
  have pre0 : ∀ t, Steps p.tables e below (s₁.setTop (mkF m 0 #[.val (.ref x0), .val (.int x1)] [])) t → Steps p.tables e below (s₁.setTop (entryFrame m #[(.ref x0), (.int x1)] 2)) t := fun t k => castTop ef0 k
  obtain ⟨T56, X56, e56, st56⟩ := getF X0 hx hZ hown (host := "") (Or.inl (hw _ (List.mem_of_getElem? (i := 16) rfl))) Via.refl e0 F (g := (mkF m 1 #[.val (.ref x0), .val (.int x1)] [(.ref x0)])) rfl rfl (hb hby own_d3_1)
  have pre57 : ∀ t, Steps p.tables e below (T56.setTop (mkF m 5 #[.val (.ref x0), .val (.int x1)] [(.int (-1 : Int32)), (.int f)])) t → Steps p.tables e below (s₁.setTop (entryFrame m #[(.ref x0), (.int x1)] 2)) t := fun tt kk => pre0 tt (by
    show Steps p.tables e below (s₁.setTop (mkF m 0 #[.val (.ref x0), .val (.int x1)] [])) _
    refine XS.aloadN X0.here hx rfl (hb hby own_d3_0) rfl rfl ?_
    show Steps p.tables e below (s₁.setTop (mkF m 1 #[.val (.ref x0), .val (.int x1)] [(.ref x0)])) _
    refine st56 _ ?_
    show Steps p.tables e below (T56.setTop (mkF m 4 #[.val (.ref x0), .val (.int x1)] [(.int f)])) _
    refine XS.iconst X56.here hx rfl (hb hby own_d3_4) ?_
    exact kk)
  by_cases hc5 : f = (-1 : Int32)
  · obtain ⟨fs, hr, hrun, hended, hW, hsame⟩ := X56.leave (v := some (.int (0 : Int32))) (fun h => by rw [Bd.returns] at h; cases h)
    refine ⟨_, _, pre57 _ ?_, hrun, hended, _, _, rfl, ?_, ⟨_, rfl⟩, hW, hsame.mono (by decide) (by decide)⟩
    · show Steps p.tables e below (T56.setTop (mkF m 5 #[.val (.ref x0), .val (.int x1)] [(.int (-1 : Int32)), (.int f)])) _
      refine XS.icmpYes X56.here hx rfl (pc0 := 5) (pc' := 20) rfl (hb hby own_d3_5) rfl (teq hc5).1 (by decide) (by decide) ?_
      show Steps p.tables e below (T56.setTop (mkF m 20 #[.val (.ref x0), .val (.int x1)] [])) _
      refine XS.iconst X56.here hx rfl (hb hby own_d3_20) ?_
      show Steps p.tables e below (T56.setTop (mkF m 21 #[.val (.ref x0), .val (.int x1)] [(.int (0 : Int32))])) _
      exact retN X56 hx (t := .boolean) Bd.returns (by simp) (hb hby own_d3_21) hr
    · show QP (.int (if f = (-1) then 0 else if x1 < f then 0 else 1)) h0 n0 _ T56.heap _
      rw [e56]
      exact ⟨by rw [if_pos hc5], N0, rfl⟩
  · obtain ⟨T58, X58, e58, st58⟩ := getF X56 hx hZ hown (host := "") (Or.inl (hw _ (List.mem_of_getElem? (i := 16) rfl))) Via.refl e56 F (g := (mkF m 10 #[.val (.ref x0), .val (.int x1)] [(.ref x0), (.int x1)])) rfl rfl (hb hby own_d3_10)
    have pre59 : ∀ t, Steps p.tables e below (T58.setTop (mkF m 13 #[.val (.ref x0), .val (.int x1)] [(.int f), (.int x1)])) t → Steps p.tables e below (s₁.setTop (entryFrame m #[(.ref x0), (.int x1)] 2)) t := fun tt kk => pre57 tt (by
      show Steps p.tables e below (T56.setTop (mkF m 5 #[.val (.ref x0), .val (.int x1)] [(.int (-1 : Int32)), (.int f)])) _
      refine XS.icmpNo X56.here hx rfl (hb hby own_d3_5) rfl (feq hc5).1 ?_
      show Steps p.tables e below (T56.setTop (mkF m 8 #[.val (.ref x0), .val (.int x1)] [])) _
      refine XS.iloadN X56.here hx rfl (hb hby own_d3_8) rfl ?_
      show Steps p.tables e below (T56.setTop (mkF m 9 #[.val (.ref x0), .val (.int x1)] [(.int x1)])) _
      refine XS.aloadN X56.here hx rfl (hb hby own_d3_9) rfl rfl ?_
      show Steps p.tables e below (T56.setTop (mkF m 10 #[.val (.ref x0), .val (.int x1)] [(.ref x0), (.int x1)])) _
      refine st58 _ ?_
      exact kk)
    by_cases hc13 : x1 < f
    · obtain ⟨fs, hr, hrun, hended, hW, hsame⟩ := X58.leave (v := some (.int (0 : Int32))) (fun h => by rw [Bd.returns] at h; cases h)
      refine ⟨_, _, pre59 _ ?_, hrun, hended, _, _, rfl, ?_, ⟨_, rfl⟩, hW, hsame.mono (by decide) (by decide)⟩
      · show Steps p.tables e below (T58.setTop (mkF m 13 #[.val (.ref x0), .val (.int x1)] [(.int f), (.int x1)])) _
        refine XS.icmpYes X58.here hx rfl (pc0 := 13) (pc' := 20) rfl (hb hby own_d3_13) rfl (tlt hc13).1 (by decide) (by decide) ?_
        show Steps p.tables e below (T58.setTop (mkF m 20 #[.val (.ref x0), .val (.int x1)] [])) _
        refine XS.iconst X58.here hx rfl (hb hby own_d3_20) ?_
        show Steps p.tables e below (T58.setTop (mkF m 21 #[.val (.ref x0), .val (.int x1)] [(.int (0 : Int32))])) _
        exact retN X58 hx (t := .boolean) Bd.returns (by simp) (hb hby own_d3_21) hr
      · show QP (.int (if f = (-1) then 0 else if x1 < f then 0 else 1)) h0 n0 _ T58.heap _
        rw [e58]
        exact ⟨by rw [if_neg hc5, if_pos hc13], N0, rfl⟩
    · obtain ⟨fs, hr, hrun, hended, hW, hsame⟩ := X58.leave (v := some (.int (1 : Int32))) (fun h => by rw [Bd.returns] at h; cases h)
      refine ⟨_, _, pre59 _ ?_, hrun, hended, _, _, rfl, ?_, ⟨_, rfl⟩, hW, hsame.mono (by decide) (by decide)⟩
      · show Steps p.tables e below (T58.setTop (mkF m 13 #[.val (.ref x0), .val (.int x1)] [(.int f), (.int x1)])) _
        refine XS.icmpNo X58.here hx rfl (hb hby own_d3_13) rfl (flt hc13).1 ?_
        show Steps p.tables e below (T58.setTop (mkF m 16 #[.val (.ref x0), .val (.int x1)] [])) _
        refine XS.iconst X58.here hx rfl (hb hby own_d3_16) ?_
        show Steps p.tables e below (T58.setTop (mkF m 17 #[.val (.ref x0), .val (.int x1)] [(.int (1 : Int32))])) _
        refine XS.goto X58.here hx rfl (pc0 := 17) (pc' := 21) rfl (hb hby own_d3_17) (by decide) (by decide) ?_
        show Steps p.tables e below (T58.setTop (mkF m 21 #[.val (.ref x0), .val (.int x1)] [(.int (1 : Int32))])) _
        exact retN X58 hx (t := .boolean) Bd.returns (by simp) (hb hby own_d3_21) hr
      · show QP (.int (if f = (-1) then 0 else if x1 < f then 0 else 1)) h0 n0 _ T58.heap _
        rw [e58]
        exact ⟨by rw [if_neg hc5, if_neg hc13], N0, rfl⟩
set_option maxRecDepth 65536 in
set_option maxHeartbeats 40000000 in
theorem rm0 (l : Launch) (Z : State) (a0 : Array Value) (hw : ∀ d ∈ tables_1, d.before a0 Z = true) (ws : List Jvm.Cond) (x0 x1 : Int32) (w : Nat → Addr) (h0 : Heap) (n0 : Nat) (Z0 : n0 ≤ h0.size) (ST : STA Z h0 w) (EX : ∀ i, i < 19 → Exa Z h0 (w i) "com/example/lean_broker/leanbroker/protocol/ApiKey") (FT : ∀ i, i < 19 → Fld Z h0 (w i) "com/example/lean_broker/leanbroker/protocol/ApiKey" "throttleTimeFrom" "S" (.int (own_fr i.toInt32))) :
    MetFree l x (head1 (Jvm.Cond.code x code maxLocals ret :: ws) room_1) (fun a U => a = #[(.int x0), (.int x1)] ∧ Z.Warmed39 U.vm ∧ U.heap = h0) (fun _ _ _ _ _ => True) (fun _ U o U' => ∃ v L, o = .returned v ∧ Q1 n0 v U'.heap L ∧ FrameEnd U o U' L room_1.cells room_1.slots) := by
  refine MetFree.of_bodySF (plainFor_of_name (by first | (simp [plainName, overriddenIn]; done) | decide +kernel)) hisR ?_
  intro p e s m args below meth c s₁ Bd hml0 hP hK
  obtain ⟨rfl, hZ, hh⟩ := hP
  have hx := Bd.exec
  have hby := Bd.bytes
  have hml : c.maxLocals = 7 := hml0
  have hown : s.vm.findClass "com/example/lean_broker/leanbroker/protocol/ApiKeyOpensWithThrottleTimePinLaw" = some m.cls := findClass_of_methodNamed Bd.named
  have hnm := (name_of_methodNamed Bd.named Bd.method).1
  have X0 : Stand p l e room_1 s m #[(.int x0), (.int x1)] below meth c s₁ [] 0 0 := Stand.of_body Bd
  have e0 : s₁.heap = h0 := by rw [← hh, Bd.state]; rfl
  have N0 := Fr.nil n0
  have ef0 : entryFrame m #[(.int x0), (.int x1)] maxLocals = mkF m 0 #[.val (.int x0), .val (.int x1), .unset, .unset, .unset, .unset, .unset] [] := by first | (simp [entryFrame, mkF, argsToLocals, Value.category, maxLocals]; done) | rfl
  have pre0 : ∀ t, Steps p.tables e below (s₁.setTop (mkF m 0 #[.val (.int x0), .val (.int x1), .unset, .unset, .unset, .unset, .unset] [])) t → Steps p.tables e below (s₁.setTop (entryFrame m #[(.int x0), (.int x1)] maxLocals)) t := fun t k => castTop ef0 k
  obtain ⟨k, hk, ek⟩ := own_mod x0 19 19 rfl (by decide)
  obtain ⟨f, ef⟩ : ∃ f, f = own_fr k.toInt32 := ⟨_, rfl⟩
  have pre60 : ∀ t, Steps p.tables e below (s₁.setTop (mkF m 7 #[.val (.int x0), .val (.int x1), .unset, .unset, .unset, .unset, .unset] [(.int ((x0 &&& (2147483647 : Int32)) % (19 : Int32)))])) t → Steps p.tables e below (s₁.setTop (entryFrame m #[(.int x0), (.int x1)] maxLocals)) t := fun tt kk => pre0 tt (by
    show Steps p.tables e below (s₁.setTop (mkF m 0 #[.val (.int x0), .val (.int x1), .unset, .unset, .unset, .unset, .unset] [])) _
    refine XS.iloadN X0.here hx rfl (hb hby at_0) rfl ?_
    show Steps p.tables e below (s₁.setTop (mkF m 1 #[.val (.int x0), .val (.int x1), .unset, .unset, .unset, .unset, .unset] [(.int x0)])) _
    refine X0.ldcInt hx hown (mvT hZ (hw _ (List.mem_of_getElem? (i := 0) rfl))) (g := (mkF m 1 #[.val (.int x0), .val (.int x1), .unset, .unset, .unset, .unset, .unset] [(.int x0)])) rfl (hb hby at_1) _ ?_
    show Steps p.tables e below (s₁.setTop (mkF m 3 #[.val (.int x0), .val (.int x1), .unset, .unset, .unset, .unset, .unset] [(.int (2147483647 : Int32)), (.int x0)])) _
    refine XS.iand X0.here hx rfl (hb hby at_3) rfl ?_
    show Steps p.tables e below (s₁.setTop (mkF m 4 #[.val (.int x0), .val (.int x1), .unset, .unset, .unset, .unset, .unset] [(.int (x0 &&& (2147483647 : Int32)))])) _
    refine XS.bipush X0.here hx rfl (hb hby at_4) ?_
    show Steps p.tables e below (s₁.setTop (mkF m 6 #[.val (.int x0), .val (.int x1), .unset, .unset, .unset, .unset, .unset] [(.int (19 : Int32)), (.int (x0 &&& (2147483647 : Int32)))])) _
    refine iremM X0 hx rfl (hb hby at_6) rfl (by decide) ?_
    exact kk)
  rw [ek] at pre60
  obtain ⟨vv61, _, ⟨T61, L61, k61, n61⟩, -, X61, ⟨Lc61, hQ61, l61, y61, z61⟩, st61⟩ := Jvm.LawKit.callS X0 hx (y := (⟨"com/example/lean_broker/leanbroker/protocol/ApiKeyOpensWithThrottleTimePinLaw", "apiOf", "(I)Lcom/example/lean_broker/leanbroker/protocol/ApiKey;"⟩ : MethodName)) hown (mvT hZ (hw _ (List.mem_of_getElem? (i := 1) rfl))) (mvT hZ (hw _ (List.mem_of_getElem? (i := 2) rfl))) (mvT hZ (hw _ (List.mem_of_getElem? (i := 3) rfl))) (mvT hZ (hw _ (List.mem_of_getElem? (i := 4) rfl))) (by decide) (backOf (W := 0) (rm_pick l Z a0 hw [] k.toInt32 w h0 n0 Z0 ST) hZ (hw _ (List.mem_of_getElem? (i := 4) rfl)) (hw _ (List.mem_of_getElem? (i := 3) rfl)) (by decide) (by decide)) (g := (mkF m 9 #[.val (.int x0), .val (.int x1), .val (.int k.toInt32), .unset, .unset, .unset, .unset] [(.int k.toInt32)])) rfl (by rw [hml]; rfl) (argsL := [(.int k.toInt32)]) (rest := []) (lenOf own_pd_0 rfl) rfl (by show 2 * 0 + _ ≤ _; exact Nat.le_of_eq rfl) (hb hby at_9) (fun _ _ => ⟨rfl, e0, (by decide : 0 + 0 ≤ _), (by decide : 0 + 0 ≤ _)⟩)
  dsimp only [Pt.U, Pt.locs, Pt.cells, Pt.slots] at X61 l61 y61 z61 st61 hQ61
  subst l61 y61 z61
  rw [own_pk_eq k hk] at hQ61
  obtain ⟨rfl, N61q, e61⟩ := hQ61
  have N61 := Fr.app N0 N61q
  obtain ⟨vv62, _, ⟨T62, L62, k62, n62⟩, -, X62, ⟨Lc62, hQ62, l62, y62, z62⟩, st62⟩ := Jvm.LawKit.callS X61 hx (y := (⟨"com/example/lean_broker/leanbroker/protocol/ApiKeyOpensWithThrottleTimePinLaw", "fromOf", "(I)I"⟩ : MethodName)) hown (mvT hZ (hw _ (List.mem_of_getElem? (i := 8) rfl))) (mvT hZ (hw _ (List.mem_of_getElem? (i := 9) rfl))) (mvT hZ (hw _ (List.mem_of_getElem? (i := 3) rfl))) (mvT hZ (hw _ (List.mem_of_getElem? (i := 10) rfl))) (by decide) (backOf (W := 0) (rm_fo l Z a0 hw [] k.toInt32 h0 n0 Z0 ) hZ (hw _ (List.mem_of_getElem? (i := 10) rfl)) (hw _ (List.mem_of_getElem? (i := 3) rfl)) (by decide) (by decide)) (g := (mkF m 14 #[.val (.int x0), .val (.int x1), .val (.int k.toInt32), .val (.ref (w k)), .unset, .unset, .unset] [(.int k.toInt32)])) rfl (by rw [hml]; rfl) (argsL := [(.int k.toInt32)]) (rest := []) (lenOf own_pd_1 rfl) rfl (by show 2 * 0 + _ ≤ _; exact Nat.le_of_eq rfl) (hb hby at_14) (fun _ _ => ⟨rfl, e61, (by decide : 0 + 0 ≤ _), (by decide : 0 + 0 ≤ _)⟩)
  dsimp only [Pt.U, Pt.locs, Pt.cells, Pt.slots] at X62 l62 y62 z62 st62 hQ62
  subst l62 y62 z62
  rw [← ef] at hQ62
  obtain ⟨rfl, N62q, e62⟩ := hQ62
  have N62 := Fr.app N61 N62q
  have pre63 : ∀ t, Steps p.tables e below (T62.setTop (mkF m 25 #[.val (.int x0), .val (.int x1), .val (.int k.toInt32), .val (.ref (w k)), .val (.int f), .val (.int (x1.toInt16.toInt32)), .unset] [(.int f)])) t → Steps p.tables e below (s₁.setTop (entryFrame m #[(.int x0), (.int x1)] maxLocals)) t := fun tt kk => pre60 tt (by
    show Steps p.tables e below (s₁.setTop (mkF m 7 #[.val (.int x0), .val (.int x1), .unset, .unset, .unset, .unset, .unset] [(.int k.toInt32)])) _
    refine XS.istoreN X0.here hx rfl (hb hby at_7) rfl (l' := #[.val (.int x0), .val (.int x1), .val (.int k.toInt32), .unset, .unset, .unset, .unset]) rfl ?_
    show Steps p.tables e below (s₁.setTop (mkF m 8 #[.val (.int x0), .val (.int x1), .val (.int k.toInt32), .unset, .unset, .unset, .unset] [])) _
    refine XS.iloadN X0.here hx rfl (hb hby at_8) rfl ?_
    show Steps p.tables e below (s₁.setTop (mkF m 9 #[.val (.int x0), .val (.int x1), .val (.int k.toInt32), .unset, .unset, .unset, .unset] [(.int k.toInt32)])) _
    refine st61 _ ?_
    show Steps p.tables e below (T61.setTop (mkF m 12 #[.val (.int x0), .val (.int x1), .val (.int k.toInt32), .unset, .unset, .unset, .unset] [(.ref (w k))])) _
    refine XS.astoreN X61.here hx rfl (hb hby at_12) rfl rfl (l' := #[.val (.int x0), .val (.int x1), .val (.int k.toInt32), .val (.ref (w k)), .unset, .unset, .unset]) rfl ?_
    show Steps p.tables e below (T61.setTop (mkF m 13 #[.val (.int x0), .val (.int x1), .val (.int k.toInt32), .val (.ref (w k)), .unset, .unset, .unset] [])) _
    refine XS.iloadN X61.here hx rfl (hb hby at_13) rfl ?_
    show Steps p.tables e below (T61.setTop (mkF m 14 #[.val (.int x0), .val (.int x1), .val (.int k.toInt32), .val (.ref (w k)), .unset, .unset, .unset] [(.int k.toInt32)])) _
    refine st62 _ ?_
    show Steps p.tables e below (T62.setTop (mkF m 17 #[.val (.int x0), .val (.int x1), .val (.int k.toInt32), .val (.ref (w k)), .unset, .unset, .unset] [(.int f)])) _
    refine XS.istore X62.here hx rfl (hb hby at_17) rfl (l' := #[.val (.int x0), .val (.int x1), .val (.int k.toInt32), .val (.ref (w k)), .val (.int f), .unset, .unset]) rfl ?_
    show Steps p.tables e below (T62.setTop (mkF m 19 #[.val (.int x0), .val (.int x1), .val (.int k.toInt32), .val (.ref (w k)), .val (.int f), .unset, .unset] [])) _
    refine XS.iloadN X62.here hx rfl (hb hby at_19) rfl ?_
    show Steps p.tables e below (T62.setTop (mkF m 20 #[.val (.int x0), .val (.int x1), .val (.int k.toInt32), .val (.ref (w k)), .val (.int f), .unset, .unset] [(.int x1)])) _
    refine XS.i2s X62.here hx rfl (hb hby at_20) rfl ?_
    show Steps p.tables e below (T62.setTop (mkF m 21 #[.val (.int x0), .val (.int x1), .val (.int k.toInt32), .val (.ref (w k)), .val (.int f), .unset, .unset] [(.int (x1.toInt16.toInt32))])) _
    refine XS.istore X62.here hx rfl (hb hby at_21) rfl (l' := #[.val (.int x0), .val (.int x1), .val (.int k.toInt32), .val (.ref (w k)), .val (.int f), .val (.int (x1.toInt16.toInt32)), .unset]) rfl ?_
    show Steps p.tables e below (T62.setTop (mkF m 23 #[.val (.int x0), .val (.int x1), .val (.int k.toInt32), .val (.ref (w k)), .val (.int f), .val (.int (x1.toInt16.toInt32)), .unset] [])) _
    refine XS.iload X62.here hx rfl (hb hby at_23) rfl ?_
    exact kk)
  by_cases hc25 : f < (0 : Int32)
  · obtain ⟨cq64, kq64, q64a, q64b, q64c⟩ := isOf hZ e62 (EX k hk)
    obtain ⟨vv64, _, ⟨T64, L64, k64, n64⟩, -, X64, ⟨Lc64, hQ64, l64, y64, z64⟩, st64⟩ := X62.virtualBack hx (y := (⟨"com/example/lean_broker/leanbroker/protocol/ApiKey", "opensWithThrottleTime", "(S)Z"⟩ : MethodName)) (z := (⟨"com/example/lean_broker/leanbroker/protocol/ApiKey", "opensWithThrottleTime", "(S)Z"⟩ : MethodName)) hown (mvT hZ (hw _ (List.mem_of_getElem? (i := 11) rfl))) (mvT hZ (hw _ (List.mem_of_getElem? (i := 12) rfl))) (notFace_of_selects (args := #[]) (mvT hZ (hw _ (List.mem_of_getElem? (i := 14) rfl)))) (mvT hZ (hw _ (List.mem_of_getElem? (i := 14) rfl))) (mvT hZ (hw _ (List.mem_of_getElem? (i := 13) rfl))) (by decide) (backOf (W := 0) (rm_op l Z a0 hw [] (w k) (x1.toInt16.toInt32) f h0 n0 Z0 (by rw [ef]; exact FT k hk)) hZ (hw _ (List.mem_of_getElem? (i := 15) rfl)) (hw _ (List.mem_of_getElem? (i := 6) rfl)) (by decide) (by decide)) q64a q64c (g := (mkF m 51 #[.val (.int x0), .val (.int x1), .val (.int k.toInt32), .val (.ref (w k)), .val (.int f), .val (.int (x1.toInt16.toInt32)), .val (.int (0 : Int32))] [(.int (x1.toInt16.toInt32)), (.ref (w k))])) rfl (by rw [hml]; rfl) (Steps.refl _) (argsL := [(.int (x1.toInt16.toInt32))]) (rest := []) (lenOf own_pd_2 rfl) rfl (by show 2 * 0 + _ ≤ _; exact Nat.le_of_eq rfl) (hb hby at_51) (fun _ _ => ⟨rfl, e62, (by decide : 0 + 0 ≤ _), (by decide : 0 + 0 ≤ _)⟩)
    dsimp only [Pt.U, Pt.locs, Pt.cells, Pt.slots] at X64 l64 y64 z64 st64 hQ64
    subst l64 y64 z64
    rw [if_pos (by rw [ef] at hc25 ⊢; exact own_fr_neg k hk hc25)] at hQ64
    obtain ⟨rfl, N64q, e64⟩ := hQ64
    have N64 := Fr.app N62 N64q
    have pre65 : ∀ t, Steps p.tables e below (T64.setTop (mkF m 56 #[.val (.int x0), .val (.int x1), .val (.int k.toInt32), .val (.ref (w k)), .val (.int f), .val (.int (x1.toInt16.toInt32)), .val (.int (0 : Int32))] [(.int (0 : Int32)), (.int (0 : Int32))])) t → Steps p.tables e below (s₁.setTop (entryFrame m #[(.int x0), (.int x1)] maxLocals)) t := fun tt kk => pre63 tt (by
      show Steps p.tables e below (T62.setTop (mkF m 25 #[.val (.int x0), .val (.int x1), .val (.int k.toInt32), .val (.ref (w k)), .val (.int f), .val (.int (x1.toInt16.toInt32)), .unset] [(.int f)])) _
      refine XS.ifNo X62.here hx rfl (hb hby at_25) rfl ((if0 _ _).trans (tlt hc25).2.1) ?_
      show Steps p.tables e below (T62.setTop (mkF m 28 #[.val (.int x0), .val (.int x1), .val (.int k.toInt32), .val (.ref (w k)), .val (.int f), .val (.int (x1.toInt16.toInt32)), .unset] [])) _
      refine XS.iconst X62.here hx rfl (hb hby at_28) ?_
      show Steps p.tables e below (T62.setTop (mkF m 29 #[.val (.int x0), .val (.int x1), .val (.int k.toInt32), .val (.ref (w k)), .val (.int f), .val (.int (x1.toInt16.toInt32)), .unset] [(.int (0 : Int32))])) _
      refine XS.istore X62.here hx rfl (hb hby at_29) rfl (l' := #[.val (.int x0), .val (.int x1), .val (.int k.toInt32), .val (.ref (w k)), .val (.int f), .val (.int (x1.toInt16.toInt32)), .val (.int (0 : Int32))]) rfl ?_
      show Steps p.tables e below (T62.setTop (mkF m 31 #[.val (.int x0), .val (.int x1), .val (.int k.toInt32), .val (.ref (w k)), .val (.int f), .val (.int (x1.toInt16.toInt32)), .val (.int (0 : Int32))] [])) _
      refine XS.goto X62.here hx rfl (pc0 := 31) (pc' := 48) rfl (hb hby at_31) (by decide) (by decide) ?_
      show Steps p.tables e below (T62.setTop (mkF m 48 #[.val (.int x0), .val (.int x1), .val (.int k.toInt32), .val (.ref (w k)), .val (.int f), .val (.int (x1.toInt16.toInt32)), .val (.int (0 : Int32))] [])) _
      refine XS.aloadN X62.here hx rfl (hb hby at_48) rfl rfl ?_
      show Steps p.tables e below (T62.setTop (mkF m 49 #[.val (.int x0), .val (.int x1), .val (.int k.toInt32), .val (.ref (w k)), .val (.int f), .val (.int (x1.toInt16.toInt32)), .val (.int (0 : Int32))] [(.ref (w k))])) _
      refine XS.iload X62.here hx rfl (hb hby at_49) rfl ?_
      show Steps p.tables e below (T62.setTop (mkF m 51 #[.val (.int x0), .val (.int x1), .val (.int k.toInt32), .val (.ref (w k)), .val (.int f), .val (.int (x1.toInt16.toInt32)), .val (.int (0 : Int32))] [(.int (x1.toInt16.toInt32)), (.ref (w k))])) _
      refine st64.trans ?_
      show Steps p.tables e below (T64.setTop (mkF m 54 #[.val (.int x0), .val (.int x1), .val (.int k.toInt32), .val (.ref (w k)), .val (.int f), .val (.int (x1.toInt16.toInt32)), .val (.int (0 : Int32))] [(.int (0 : Int32))])) _
      refine XS.iload X64.here hx rfl (hb hby at_54) rfl ?_
      exact kk)
    obtain ⟨fs, hr, hrun, hended, hW, hsame⟩ := X64.leave (v := some (.int (1 : Int32))) (fun h => by rw [Bd.returns] at h; cases h)
    refine ⟨_, _, pre65 _ ?_, hrun, hended, _, _, rfl, ?_, ⟨_, rfl⟩, hW, hsame.mono (by decide) (by decide)⟩
    · show Steps p.tables e below (T64.setTop (mkF m 56 #[.val (.int x0), .val (.int x1), .val (.int k.toInt32), .val (.ref (w k)), .val (.int f), .val (.int (x1.toInt16.toInt32)), .val (.int (0 : Int32))] [(.int (0 : Int32)), (.int (0 : Int32))])) _
      refine XS.icmpNo X64.here hx rfl (hb hby at_56) rfl (teq (by decide : (0 : Int32) = (0 : Int32))).2 ?_
      show Steps p.tables e below (T64.setTop (mkF m 59 #[.val (.int x0), .val (.int x1), .val (.int k.toInt32), .val (.ref (w k)), .val (.int f), .val (.int (x1.toInt16.toInt32)), .val (.int (0 : Int32))] [])) _
      refine XS.iconst X64.here hx rfl (hb hby at_59) ?_
      show Steps p.tables e below (T64.setTop (mkF m 60 #[.val (.int x0), .val (.int x1), .val (.int k.toInt32), .val (.ref (w k)), .val (.int f), .val (.int (x1.toInt16.toInt32)), .val (.int (0 : Int32))] [(.int (1 : Int32))])) _
      refine XS.goto X64.here hx rfl (pc0 := 60) (pc' := 64) rfl (hb hby at_60) (by decide) (by decide) ?_
      show Steps p.tables e below (T64.setTop (mkF m 64 #[.val (.int x0), .val (.int x1), .val (.int k.toInt32), .val (.ref (w k)), .val (.int f), .val (.int (x1.toInt16.toInt32)), .val (.int (0 : Int32))] [(.int (1 : Int32))])) _
      exact retN X64 hx (t := .boolean) Bd.returns (by simp) (hb hby at_64) hr
    · exact ⟨rfl, N64⟩
  · have pre66 : ∀ t, Steps p.tables e below (T62.setTop (mkF m 38 #[.val (.int x0), .val (.int x1), .val (.int k.toInt32), .val (.ref (w k)), .val (.int f), .val (.int (x1.toInt16.toInt32)), .unset] [(.int f), (.int (x1.toInt16.toInt32))])) t → Steps p.tables e below (s₁.setTop (entryFrame m #[(.int x0), (.int x1)] maxLocals)) t := fun tt kk => pre63 tt (by
      show Steps p.tables e below (T62.setTop (mkF m 25 #[.val (.int x0), .val (.int x1), .val (.int k.toInt32), .val (.ref (w k)), .val (.int f), .val (.int (x1.toInt16.toInt32)), .unset] [(.int f)])) _
      refine XS.ifYes X62.here hx rfl (pc0 := 25) (pc' := 34) rfl (hb hby at_25) rfl ((if0 _ _).trans (flt hc25).2.1) (by decide) (by decide) ?_
      show Steps p.tables e below (T62.setTop (mkF m 34 #[.val (.int x0), .val (.int x1), .val (.int k.toInt32), .val (.ref (w k)), .val (.int f), .val (.int (x1.toInt16.toInt32)), .unset] [])) _
      refine XS.iload X62.here hx rfl (hb hby at_34) rfl ?_
      show Steps p.tables e below (T62.setTop (mkF m 36 #[.val (.int x0), .val (.int x1), .val (.int k.toInt32), .val (.ref (w k)), .val (.int f), .val (.int (x1.toInt16.toInt32)), .unset] [(.int (x1.toInt16.toInt32))])) _
      refine XS.iload X62.here hx rfl (hb hby at_36) rfl ?_
      exact kk)
    by_cases hc38 : (x1.toInt16.toInt32) < f
    · obtain ⟨cq67, kq67, q67a, q67b, q67c⟩ := isOf hZ e62 (EX k hk)
      obtain ⟨vv67, _, ⟨T67, L67, k67, n67⟩, -, X67, ⟨Lc67, hQ67, l67, y67, z67⟩, st67⟩ := X62.virtualBack hx (y := (⟨"com/example/lean_broker/leanbroker/protocol/ApiKey", "opensWithThrottleTime", "(S)Z"⟩ : MethodName)) (z := (⟨"com/example/lean_broker/leanbroker/protocol/ApiKey", "opensWithThrottleTime", "(S)Z"⟩ : MethodName)) hown (mvT hZ (hw _ (List.mem_of_getElem? (i := 11) rfl))) (mvT hZ (hw _ (List.mem_of_getElem? (i := 12) rfl))) (notFace_of_selects (args := #[]) (mvT hZ (hw _ (List.mem_of_getElem? (i := 14) rfl)))) (mvT hZ (hw _ (List.mem_of_getElem? (i := 14) rfl))) (mvT hZ (hw _ (List.mem_of_getElem? (i := 13) rfl))) (by decide) (backOf (W := 0) (rm_op l Z a0 hw [] (w k) (x1.toInt16.toInt32) f h0 n0 Z0 (by rw [ef]; exact FT k hk)) hZ (hw _ (List.mem_of_getElem? (i := 15) rfl)) (hw _ (List.mem_of_getElem? (i := 6) rfl)) (by decide) (by decide)) q67a q67c (g := (mkF m 51 #[.val (.int x0), .val (.int x1), .val (.int k.toInt32), .val (.ref (w k)), .val (.int f), .val (.int (x1.toInt16.toInt32)), .val (.int (0 : Int32))] [(.int (x1.toInt16.toInt32)), (.ref (w k))])) rfl (by rw [hml]; rfl) (Steps.refl _) (argsL := [(.int (x1.toInt16.toInt32))]) (rest := []) (lenOf own_pd_2 rfl) rfl (by show 2 * 0 + _ ≤ _; exact Nat.le_of_eq rfl) (hb hby at_51) (fun _ _ => ⟨rfl, e62, (by decide : 0 + 0 ≤ _), (by decide : 0 + 0 ≤ _)⟩)
      dsimp only [Pt.U, Pt.locs, Pt.cells, Pt.slots] at X67 l67 y67 z67 st67 hQ67
      subst l67 y67 z67
      rw [if_neg (fun q => hc25 (by rw [q]; decide)), if_pos hc38] at hQ67
      obtain ⟨rfl, N67q, e67⟩ := hQ67
      have N67 := Fr.app N62 N67q
      have pre68 : ∀ t, Steps p.tables e below (T67.setTop (mkF m 56 #[.val (.int x0), .val (.int x1), .val (.int k.toInt32), .val (.ref (w k)), .val (.int f), .val (.int (x1.toInt16.toInt32)), .val (.int (0 : Int32))] [(.int (0 : Int32)), (.int (0 : Int32))])) t → Steps p.tables e below (s₁.setTop (entryFrame m #[(.int x0), (.int x1)] maxLocals)) t := fun tt kk => pre66 tt (by
        show Steps p.tables e below (T62.setTop (mkF m 38 #[.val (.int x0), .val (.int x1), .val (.int k.toInt32), .val (.ref (w k)), .val (.int f), .val (.int (x1.toInt16.toInt32)), .unset] [(.int f), (.int (x1.toInt16.toInt32))])) _
        refine XS.icmpYes X62.here hx rfl (pc0 := 38) (pc' := 45) rfl (hb hby at_38) rfl (tlt hc38).1 (by decide) (by decide) ?_
        show Steps p.tables e below (T62.setTop (mkF m 45 #[.val (.int x0), .val (.int x1), .val (.int k.toInt32), .val (.ref (w k)), .val (.int f), .val (.int (x1.toInt16.toInt32)), .unset] [])) _
        refine XS.iconst X62.here hx rfl (hb hby at_45) ?_
        show Steps p.tables e below (T62.setTop (mkF m 46 #[.val (.int x0), .val (.int x1), .val (.int k.toInt32), .val (.ref (w k)), .val (.int f), .val (.int (x1.toInt16.toInt32)), .unset] [(.int (0 : Int32))])) _
        refine XS.istore X62.here hx rfl (hb hby at_46) rfl (l' := #[.val (.int x0), .val (.int x1), .val (.int k.toInt32), .val (.ref (w k)), .val (.int f), .val (.int (x1.toInt16.toInt32)), .val (.int (0 : Int32))]) rfl ?_
        show Steps p.tables e below (T62.setTop (mkF m 48 #[.val (.int x0), .val (.int x1), .val (.int k.toInt32), .val (.ref (w k)), .val (.int f), .val (.int (x1.toInt16.toInt32)), .val (.int (0 : Int32))] [])) _
        refine XS.aloadN X62.here hx rfl (hb hby at_48) rfl rfl ?_
        show Steps p.tables e below (T62.setTop (mkF m 49 #[.val (.int x0), .val (.int x1), .val (.int k.toInt32), .val (.ref (w k)), .val (.int f), .val (.int (x1.toInt16.toInt32)), .val (.int (0 : Int32))] [(.ref (w k))])) _
        refine XS.iload X62.here hx rfl (hb hby at_49) rfl ?_
        show Steps p.tables e below (T62.setTop (mkF m 51 #[.val (.int x0), .val (.int x1), .val (.int k.toInt32), .val (.ref (w k)), .val (.int f), .val (.int (x1.toInt16.toInt32)), .val (.int (0 : Int32))] [(.int (x1.toInt16.toInt32)), (.ref (w k))])) _
        refine st67.trans ?_
        show Steps p.tables e below (T67.setTop (mkF m 54 #[.val (.int x0), .val (.int x1), .val (.int k.toInt32), .val (.ref (w k)), .val (.int f), .val (.int (x1.toInt16.toInt32)), .val (.int (0 : Int32))] [(.int (0 : Int32))])) _
        refine XS.iload X67.here hx rfl (hb hby at_54) rfl ?_
        exact kk)
      obtain ⟨fs, hr, hrun, hended, hW, hsame⟩ := X67.leave (v := some (.int (1 : Int32))) (fun h => by rw [Bd.returns] at h; cases h)
      refine ⟨_, _, pre68 _ ?_, hrun, hended, _, _, rfl, ?_, ⟨_, rfl⟩, hW, hsame.mono (by decide) (by decide)⟩
      · show Steps p.tables e below (T67.setTop (mkF m 56 #[.val (.int x0), .val (.int x1), .val (.int k.toInt32), .val (.ref (w k)), .val (.int f), .val (.int (x1.toInt16.toInt32)), .val (.int (0 : Int32))] [(.int (0 : Int32)), (.int (0 : Int32))])) _
        refine XS.icmpNo X67.here hx rfl (hb hby at_56) rfl (teq (by decide : (0 : Int32) = (0 : Int32))).2 ?_
        show Steps p.tables e below (T67.setTop (mkF m 59 #[.val (.int x0), .val (.int x1), .val (.int k.toInt32), .val (.ref (w k)), .val (.int f), .val (.int (x1.toInt16.toInt32)), .val (.int (0 : Int32))] [])) _
        refine XS.iconst X67.here hx rfl (hb hby at_59) ?_
        show Steps p.tables e below (T67.setTop (mkF m 60 #[.val (.int x0), .val (.int x1), .val (.int k.toInt32), .val (.ref (w k)), .val (.int f), .val (.int (x1.toInt16.toInt32)), .val (.int (0 : Int32))] [(.int (1 : Int32))])) _
        refine XS.goto X67.here hx rfl (pc0 := 60) (pc' := 64) rfl (hb hby at_60) (by decide) (by decide) ?_
        show Steps p.tables e below (T67.setTop (mkF m 64 #[.val (.int x0), .val (.int x1), .val (.int k.toInt32), .val (.ref (w k)), .val (.int f), .val (.int (x1.toInt16.toInt32)), .val (.int (0 : Int32))] [(.int (1 : Int32))])) _
        exact retN X67 hx (t := .boolean) Bd.returns (by simp) (hb hby at_64) hr
      · exact ⟨rfl, N67⟩
    · obtain ⟨cq69, kq69, q69a, q69b, q69c⟩ := isOf hZ e62 (EX k hk)
      obtain ⟨vv69, _, ⟨T69, L69, k69, n69⟩, -, X69, ⟨Lc69, hQ69, l69, y69, z69⟩, st69⟩ := X62.virtualBack hx (y := (⟨"com/example/lean_broker/leanbroker/protocol/ApiKey", "opensWithThrottleTime", "(S)Z"⟩ : MethodName)) (z := (⟨"com/example/lean_broker/leanbroker/protocol/ApiKey", "opensWithThrottleTime", "(S)Z"⟩ : MethodName)) hown (mvT hZ (hw _ (List.mem_of_getElem? (i := 11) rfl))) (mvT hZ (hw _ (List.mem_of_getElem? (i := 12) rfl))) (notFace_of_selects (args := #[]) (mvT hZ (hw _ (List.mem_of_getElem? (i := 14) rfl)))) (mvT hZ (hw _ (List.mem_of_getElem? (i := 14) rfl))) (mvT hZ (hw _ (List.mem_of_getElem? (i := 13) rfl))) (by decide) (backOf (W := 0) (rm_op l Z a0 hw [] (w k) (x1.toInt16.toInt32) f h0 n0 Z0 (by rw [ef]; exact FT k hk)) hZ (hw _ (List.mem_of_getElem? (i := 15) rfl)) (hw _ (List.mem_of_getElem? (i := 6) rfl)) (by decide) (by decide)) q69a q69c (g := (mkF m 51 #[.val (.int x0), .val (.int x1), .val (.int k.toInt32), .val (.ref (w k)), .val (.int f), .val (.int (x1.toInt16.toInt32)), .val (.int (1 : Int32))] [(.int (x1.toInt16.toInt32)), (.ref (w k))])) rfl (by rw [hml]; rfl) (Steps.refl _) (argsL := [(.int (x1.toInt16.toInt32))]) (rest := []) (lenOf own_pd_2 rfl) rfl (by show 2 * 0 + _ ≤ _; exact Nat.le_of_eq rfl) (hb hby at_51) (fun _ _ => ⟨rfl, e62, (by decide : 0 + 0 ≤ _), (by decide : 0 + 0 ≤ _)⟩)
      dsimp only [Pt.U, Pt.locs, Pt.cells, Pt.slots] at X69 l69 y69 z69 st69 hQ69
      subst l69 y69 z69
      rw [if_neg (fun q => hc25 (by rw [q]; decide)), if_neg hc38] at hQ69
      obtain ⟨rfl, N69q, e69⟩ := hQ69
      have N69 := Fr.app N62 N69q
      have pre70 : ∀ t, Steps p.tables e below (T69.setTop (mkF m 56 #[.val (.int x0), .val (.int x1), .val (.int k.toInt32), .val (.ref (w k)), .val (.int f), .val (.int (x1.toInt16.toInt32)), .val (.int (1 : Int32))] [(.int (1 : Int32)), (.int (1 : Int32))])) t → Steps p.tables e below (s₁.setTop (entryFrame m #[(.int x0), (.int x1)] maxLocals)) t := fun tt kk => pre66 tt (by
        show Steps p.tables e below (T62.setTop (mkF m 38 #[.val (.int x0), .val (.int x1), .val (.int k.toInt32), .val (.ref (w k)), .val (.int f), .val (.int (x1.toInt16.toInt32)), .unset] [(.int f), (.int (x1.toInt16.toInt32))])) _
        refine XS.icmpNo X62.here hx rfl (hb hby at_38) rfl (flt hc38).1 ?_
        show Steps p.tables e below (T62.setTop (mkF m 41 #[.val (.int x0), .val (.int x1), .val (.int k.toInt32), .val (.ref (w k)), .val (.int f), .val (.int (x1.toInt16.toInt32)), .unset] [])) _
        refine XS.iconst X62.here hx rfl (hb hby at_41) ?_
        show Steps p.tables e below (T62.setTop (mkF m 42 #[.val (.int x0), .val (.int x1), .val (.int k.toInt32), .val (.ref (w k)), .val (.int f), .val (.int (x1.toInt16.toInt32)), .unset] [(.int (1 : Int32))])) _
        refine XS.goto X62.here hx rfl (pc0 := 42) (pc' := 46) rfl (hb hby at_42) (by decide) (by decide) ?_
        show Steps p.tables e below (T62.setTop (mkF m 46 #[.val (.int x0), .val (.int x1), .val (.int k.toInt32), .val (.ref (w k)), .val (.int f), .val (.int (x1.toInt16.toInt32)), .unset] [(.int (1 : Int32))])) _
        refine XS.istore X62.here hx rfl (hb hby at_46) rfl (l' := #[.val (.int x0), .val (.int x1), .val (.int k.toInt32), .val (.ref (w k)), .val (.int f), .val (.int (x1.toInt16.toInt32)), .val (.int (1 : Int32))]) rfl ?_
        show Steps p.tables e below (T62.setTop (mkF m 48 #[.val (.int x0), .val (.int x1), .val (.int k.toInt32), .val (.ref (w k)), .val (.int f), .val (.int (x1.toInt16.toInt32)), .val (.int (1 : Int32))] [])) _
        refine XS.aloadN X62.here hx rfl (hb hby at_48) rfl rfl ?_
        show Steps p.tables e below (T62.setTop (mkF m 49 #[.val (.int x0), .val (.int x1), .val (.int k.toInt32), .val (.ref (w k)), .val (.int f), .val (.int (x1.toInt16.toInt32)), .val (.int (1 : Int32))] [(.ref (w k))])) _
        refine XS.iload X62.here hx rfl (hb hby at_49) rfl ?_
        show Steps p.tables e below (T62.setTop (mkF m 51 #[.val (.int x0), .val (.int x1), .val (.int k.toInt32), .val (.ref (w k)), .val (.int f), .val (.int (x1.toInt16.toInt32)), .val (.int (1 : Int32))] [(.int (x1.toInt16.toInt32)), (.ref (w k))])) _
        refine st69.trans ?_
        show Steps p.tables e below (T69.setTop (mkF m 54 #[.val (.int x0), .val (.int x1), .val (.int k.toInt32), .val (.ref (w k)), .val (.int f), .val (.int (x1.toInt16.toInt32)), .val (.int (1 : Int32))] [(.int (1 : Int32))])) _
        refine XS.iload X69.here hx rfl (hb hby at_54) rfl ?_
        exact kk)
      obtain ⟨fs, hr, hrun, hended, hW, hsame⟩ := X69.leave (v := some (.int (1 : Int32))) (fun h => by rw [Bd.returns] at h; cases h)
      refine ⟨_, _, pre70 _ ?_, hrun, hended, _, _, rfl, ?_, ⟨_, rfl⟩, hW, hsame.mono (by decide) (by decide)⟩
      · show Steps p.tables e below (T69.setTop (mkF m 56 #[.val (.int x0), .val (.int x1), .val (.int k.toInt32), .val (.ref (w k)), .val (.int f), .val (.int (x1.toInt16.toInt32)), .val (.int (1 : Int32))] [(.int (1 : Int32)), (.int (1 : Int32))])) _
        refine XS.icmpNo X69.here hx rfl (hb hby at_56) rfl (teq (by decide : (1 : Int32) = (1 : Int32))).2 ?_
        show Steps p.tables e below (T69.setTop (mkF m 59 #[.val (.int x0), .val (.int x1), .val (.int k.toInt32), .val (.ref (w k)), .val (.int f), .val (.int (x1.toInt16.toInt32)), .val (.int (1 : Int32))] [])) _
        refine XS.iconst X69.here hx rfl (hb hby at_59) ?_
        show Steps p.tables e below (T69.setTop (mkF m 60 #[.val (.int x0), .val (.int x1), .val (.int k.toInt32), .val (.ref (w k)), .val (.int f), .val (.int (x1.toInt16.toInt32)), .val (.int (1 : Int32))] [(.int (1 : Int32))])) _
        refine XS.goto X69.here hx rfl (pc0 := 60) (pc' := 64) rfl (hb hby at_60) (by decide) (by decide) ?_
        show Steps p.tables e below (T69.setTop (mkF m 64 #[.val (.int x0), .val (.int x1), .val (.int k.toInt32), .val (.ref (w k)), .val (.int f), .val (.int (x1.toInt16.toInt32)), .val (.int (1 : Int32))] [(.int (1 : Int32))])) _
        exact retN X69 hx (t := .boolean) Bd.returns (by simp) (hb hby at_64) hr
      · exact ⟨rfl, N69⟩
set_option maxRecDepth 65536 in
set_option maxHeartbeats 40000000 in
theorem comes_1 {Post : Tables → Env → Array Value → State → Outcome → State → Prop} (hpost : ∀ tb e args s v u, (limb_1_1.after args s (.returned v) u = true ∧ limb_1_2.after args s (.returned v) u = true ∧ True) → FrameEnd s (.returned v) u (Jvm.fieldLocs frame_1_writes args s ++ Jvm.arrayLocs frame_1_arrays args s ++ Jvm.staticLocs frame_1_statics s) 0 0 → Post tb e args s (.returned v) u) :
    ArmFor flags0 classFile x code maxLocals ret World_1 tables_1 room_1 Calls_1 rest_1 Pre_1 Post := by
  intro l hfl _ _ p e ha hc hk s m args below hf hA hF happ hP
  obtain ⟨hcalls, hrest, hpre⟩ := hP
  obtain ⟨-, -, -, hnamed, -, -, -, hat⟩ := (Spec.applies_iff hf).mp happ
  obtain ⟨hg, hn⟩ := and_e (Cond.before_iff.mp (show (Jvm.Cond.and given_1 narrow_1).before args s = true from hpre))
  obtain ⟨g0, g0r⟩ := and_e hg
  obtain ⟨g1, g1r⟩ := and_e g0r
  obtain ⟨w0_, w1_, rfl⟩ : ∃ w0_ w1_ : Value, args = #[w0_, w1_] := by
    have hs : args.size = 2 := by simpa [Cond.value, given_1] using g0
    obtain ⟨L⟩ := args
    match L, hs with
    | [w0_, w1_], _ => exact ⟨w0_, w1_, rfl⟩
  have hw := fun d (hd : d ∈ tables_1) => atoms_spec (ws := Jvm.Cond.code x code maxLocals ret :: tables_1) hat d (List.mem_cons_of_mem _ hd)
  have hfit : Fit s := fun {y c} hc i hi => by
    obtain ⟨ha, rfl⟩ := Array.getElem?_eq_some_iff.mp hc
    have q := List.all_eq_true.mp ((Array.all_eq_true_iff_forall_mem.mp hF) _ (Array.getElem_mem ha)) i (List.mem_range.mpr hi)
    simpa [Array.getElem?_eq_getElem hi] using q
  obtain ⟨i0, ei0⟩ := is_v g1
  obtain rfl : w0_ = (.int i0) := Option.some.inj ei0
  obtain ⟨i1, ei1⟩ := is_v g1r
  obtain rfl : w1_ = (.int i1) := Option.some.inj ei1
  obtain ⟨n0, n0r⟩ := and_e hn
  obtain ⟨n1, n1r⟩ := and_e n0r
  obtain ⟨n2, n2r⟩ := and_e n1r
  obtain ⟨n3, n3r⟩ := and_e n2r
  obtain ⟨n4, n4r⟩ := and_e n3r
  obtain ⟨n5, n5r⟩ := and_e n4r
  obtain ⟨n6, n6r⟩ := and_e n5r
  obtain ⟨n7, n7r⟩ := and_e n6r
  obtain ⟨n8, n8r⟩ := and_e n7r
  obtain ⟨n9, n9r⟩ := and_e n8r
  obtain ⟨n10, n10r⟩ := and_e n9r
  obtain ⟨n11, n11r⟩ := and_e n10r
  obtain ⟨n12, n12r⟩ := and_e n11r
  obtain ⟨n13, n13r⟩ := and_e n12r
  obtain ⟨n14, n14r⟩ := and_e n13r
  obtain ⟨n15, n15r⟩ := and_e n14r
  obtain ⟨n16, n16r⟩ := and_e n15r
  obtain ⟨n17, n17r⟩ := and_e n16r
  obtain ⟨n18, n18r⟩ := and_e n17r
  obtain ⟨n19, n19r⟩ := and_e n18r
  obtain ⟨n20, n20r⟩ := and_e n19r
  obtain ⟨n21, n21r⟩ := and_e n20r
  obtain ⟨n22, n22r⟩ := and_e n21r
  obtain ⟨n23, n23r⟩ := and_e n22r
  obtain ⟨n24, n24r⟩ := and_e n23r
  obtain ⟨n25, n25r⟩ := and_e n24r
  obtain ⟨n26, n26r⟩ := and_e n25r
  obtain ⟨n27, n27r⟩ := and_e n26r
  obtain ⟨n28, n28r⟩ := and_e n27r
  obtain ⟨n29, n29r⟩ := and_e n28r
  obtain ⟨n30, n30r⟩ := and_e n29r
  obtain ⟨n31, n31r⟩ := and_e n30r
  obtain ⟨n32, n32r⟩ := and_e n31r
  obtain ⟨n33, n33r⟩ := and_e n32r
  obtain ⟨n34, n34r⟩ := and_e n33r
  obtain ⟨n35, n35r⟩ := and_e n34r
  obtain ⟨n36, n36r⟩ := and_e n35r
  obtain ⟨v0, ev0⟩ := exa_v n0
  have S0 : Sta s s.heap "com/example/lean_broker/leanbroker/protocol/ApiKey" "PRODUCE" "Lcom/example/lean_broker/leanbroker/protocol/ApiKey;" (.ref v0) := Sta.start ev0 (Or.inr ⟨(hw _ (List.mem_of_getElem? (i := 6) rfl)), (hw _ (List.mem_of_getElem? (i := 7) rfl))⟩)
  have E0 : Exa s s.heap v0 "com/example/lean_broker/leanbroker/protocol/ApiKey" := Exa.start ev0 n0
  obtain ⟨v1, ev1⟩ := exa_v n24
  have S1 : Sta s s.heap "com/example/lean_broker/leanbroker/protocol/ApiKey" "FETCH" "Lcom/example/lean_broker/leanbroker/protocol/ApiKey;" (.ref v1) := Sta.start ev1 (Or.inr ⟨(hw _ (List.mem_of_getElem? (i := 6) rfl)), (hw _ (List.mem_of_getElem? (i := 41) rfl))⟩)
  have E1 : Exa s s.heap v1 "com/example/lean_broker/leanbroker/protocol/ApiKey" := Exa.start ev1 n24
  obtain ⟨v2, ev2⟩ := exa_v n6
  have S2 : Sta s s.heap "com/example/lean_broker/leanbroker/protocol/ApiKey" "LIST_OFFSETS" "Lcom/example/lean_broker/leanbroker/protocol/ApiKey;" (.ref v2) := Sta.start ev2 (Or.inr ⟨(hw _ (List.mem_of_getElem? (i := 6) rfl)), (hw _ (List.mem_of_getElem? (i := 23) rfl))⟩)
  have E2 : Exa s s.heap v2 "com/example/lean_broker/leanbroker/protocol/ApiKey" := Exa.start ev2 n6
  obtain ⟨v3, ev3⟩ := exa_v n10
  have S3 : Sta s s.heap "com/example/lean_broker/leanbroker/protocol/ApiKey" "METADATA" "Lcom/example/lean_broker/leanbroker/protocol/ApiKey;" (.ref v3) := Sta.start ev3 (Or.inr ⟨(hw _ (List.mem_of_getElem? (i := 6) rfl)), (hw _ (List.mem_of_getElem? (i := 27) rfl))⟩)
  have E3 : Exa s s.heap v3 "com/example/lean_broker/leanbroker/protocol/ApiKey" := Exa.start ev3 n10
  obtain ⟨v4, ev4⟩ := exa_v n34
  have S4 : Sta s s.heap "com/example/lean_broker/leanbroker/protocol/ApiKey" "OFFSET_COMMIT" "Lcom/example/lean_broker/leanbroker/protocol/ApiKey;" (.ref v4) := Sta.start ev4 (Or.inr ⟨(hw _ (List.mem_of_getElem? (i := 6) rfl)), (hw _ (List.mem_of_getElem? (i := 51) rfl))⟩)
  have E4 : Exa s s.heap v4 "com/example/lean_broker/leanbroker/protocol/ApiKey" := Exa.start ev4 n34
  obtain ⟨v5, ev5⟩ := exa_v n18
  have S5 : Sta s s.heap "com/example/lean_broker/leanbroker/protocol/ApiKey" "OFFSET_FETCH" "Lcom/example/lean_broker/leanbroker/protocol/ApiKey;" (.ref v5) := Sta.start ev5 (Or.inr ⟨(hw _ (List.mem_of_getElem? (i := 6) rfl)), (hw _ (List.mem_of_getElem? (i := 35) rfl))⟩)
  have E5 : Exa s s.heap v5 "com/example/lean_broker/leanbroker/protocol/ApiKey" := Exa.start ev5 n18
  obtain ⟨v6, ev6⟩ := exa_v n12
  have S6 : Sta s s.heap "com/example/lean_broker/leanbroker/protocol/ApiKey" "FIND_COORDINATOR" "Lcom/example/lean_broker/leanbroker/protocol/ApiKey;" (.ref v6) := Sta.start ev6 (Or.inr ⟨(hw _ (List.mem_of_getElem? (i := 6) rfl)), (hw _ (List.mem_of_getElem? (i := 29) rfl))⟩)
  have E6 : Exa s s.heap v6 "com/example/lean_broker/leanbroker/protocol/ApiKey" := Exa.start ev6 n12
  obtain ⟨v7, ev7⟩ := exa_v n20
  have S7 : Sta s s.heap "com/example/lean_broker/leanbroker/protocol/ApiKey" "JOIN_GROUP" "Lcom/example/lean_broker/leanbroker/protocol/ApiKey;" (.ref v7) := Sta.start ev7 (Or.inr ⟨(hw _ (List.mem_of_getElem? (i := 6) rfl)), (hw _ (List.mem_of_getElem? (i := 37) rfl))⟩)
  have E7 : Exa s s.heap v7 "com/example/lean_broker/leanbroker/protocol/ApiKey" := Exa.start ev7 n20
  obtain ⟨v8, ev8⟩ := exa_v n14
  have S8 : Sta s s.heap "com/example/lean_broker/leanbroker/protocol/ApiKey" "HEARTBEAT" "Lcom/example/lean_broker/leanbroker/protocol/ApiKey;" (.ref v8) := Sta.start ev8 (Or.inr ⟨(hw _ (List.mem_of_getElem? (i := 6) rfl)), (hw _ (List.mem_of_getElem? (i := 31) rfl))⟩)
  have E8 : Exa s s.heap v8 "com/example/lean_broker/leanbroker/protocol/ApiKey" := Exa.start ev8 n14
  obtain ⟨v9, ev9⟩ := exa_v n8
  have S9 : Sta s s.heap "com/example/lean_broker/leanbroker/protocol/ApiKey" "LEAVE_GROUP" "Lcom/example/lean_broker/leanbroker/protocol/ApiKey;" (.ref v9) := Sta.start ev9 (Or.inr ⟨(hw _ (List.mem_of_getElem? (i := 6) rfl)), (hw _ (List.mem_of_getElem? (i := 25) rfl))⟩)
  have E9 : Exa s s.heap v9 "com/example/lean_broker/leanbroker/protocol/ApiKey" := Exa.start ev9 n8
  obtain ⟨v10, ev10⟩ := exa_v n28
  have S10 : Sta s s.heap "com/example/lean_broker/leanbroker/protocol/ApiKey" "SYNC_GROUP" "Lcom/example/lean_broker/leanbroker/protocol/ApiKey;" (.ref v10) := Sta.start ev10 (Or.inr ⟨(hw _ (List.mem_of_getElem? (i := 6) rfl)), (hw _ (List.mem_of_getElem? (i := 45) rfl))⟩)
  have E10 : Exa s s.heap v10 "com/example/lean_broker/leanbroker/protocol/ApiKey" := Exa.start ev10 n28
  obtain ⟨v11, ev11⟩ := exa_v n26
  have S11 : Sta s s.heap "com/example/lean_broker/leanbroker/protocol/ApiKey" "DESCRIBE_GROUPS" "Lcom/example/lean_broker/leanbroker/protocol/ApiKey;" (.ref v11) := Sta.start ev11 (Or.inr ⟨(hw _ (List.mem_of_getElem? (i := 6) rfl)), (hw _ (List.mem_of_getElem? (i := 43) rfl))⟩)
  have E11 : Exa s s.heap v11 "com/example/lean_broker/leanbroker/protocol/ApiKey" := Exa.start ev11 n26
  obtain ⟨v12, ev12⟩ := exa_v n16
  have S12 : Sta s s.heap "com/example/lean_broker/leanbroker/protocol/ApiKey" "LIST_GROUPS" "Lcom/example/lean_broker/leanbroker/protocol/ApiKey;" (.ref v12) := Sta.start ev12 (Or.inr ⟨(hw _ (List.mem_of_getElem? (i := 6) rfl)), (hw _ (List.mem_of_getElem? (i := 33) rfl))⟩)
  have E12 : Exa s s.heap v12 "com/example/lean_broker/leanbroker/protocol/ApiKey" := Exa.start ev12 n16
  obtain ⟨v13, ev13⟩ := exa_v n4
  have S13 : Sta s s.heap "com/example/lean_broker/leanbroker/protocol/ApiKey" "API_VERSIONS" "Lcom/example/lean_broker/leanbroker/protocol/ApiKey;" (.ref v13) := Sta.start ev13 (Or.inr ⟨(hw _ (List.mem_of_getElem? (i := 6) rfl)), (hw _ (List.mem_of_getElem? (i := 21) rfl))⟩)
  have E13 : Exa s s.heap v13 "com/example/lean_broker/leanbroker/protocol/ApiKey" := Exa.start ev13 n4
  obtain ⟨v14, ev14⟩ := exa_v n2
  have S14 : Sta s s.heap "com/example/lean_broker/leanbroker/protocol/ApiKey" "CREATE_TOPICS" "Lcom/example/lean_broker/leanbroker/protocol/ApiKey;" (.ref v14) := Sta.start ev14 (Or.inr ⟨(hw _ (List.mem_of_getElem? (i := 6) rfl)), (hw _ (List.mem_of_getElem? (i := 19) rfl))⟩)
  have E14 : Exa s s.heap v14 "com/example/lean_broker/leanbroker/protocol/ApiKey" := Exa.start ev14 n2
  obtain ⟨v15, ev15⟩ := exa_v n30
  have S15 : Sta s s.heap "com/example/lean_broker/leanbroker/protocol/ApiKey" "DELETE_TOPICS" "Lcom/example/lean_broker/leanbroker/protocol/ApiKey;" (.ref v15) := Sta.start ev15 (Or.inr ⟨(hw _ (List.mem_of_getElem? (i := 6) rfl)), (hw _ (List.mem_of_getElem? (i := 47) rfl))⟩)
  have E15 : Exa s s.heap v15 "com/example/lean_broker/leanbroker/protocol/ApiKey" := Exa.start ev15 n30
  obtain ⟨v16, ev16⟩ := exa_v n22
  have S16 : Sta s s.heap "com/example/lean_broker/leanbroker/protocol/ApiKey" "INIT_PRODUCER_ID" "Lcom/example/lean_broker/leanbroker/protocol/ApiKey;" (.ref v16) := Sta.start ev16 (Or.inr ⟨(hw _ (List.mem_of_getElem? (i := 6) rfl)), (hw _ (List.mem_of_getElem? (i := 39) rfl))⟩)
  have E16 : Exa s s.heap v16 "com/example/lean_broker/leanbroker/protocol/ApiKey" := Exa.start ev16 n22
  obtain ⟨v17, ev17⟩ := exa_v n36
  have S17 : Sta s s.heap "com/example/lean_broker/leanbroker/protocol/ApiKey" "DESCRIBE_CONFIGS" "Lcom/example/lean_broker/leanbroker/protocol/ApiKey;" (.ref v17) := Sta.start ev17 (Or.inr ⟨(hw _ (List.mem_of_getElem? (i := 6) rfl)), (hw _ (List.mem_of_getElem? (i := 53) rfl))⟩)
  have E17 : Exa s s.heap v17 "com/example/lean_broker/leanbroker/protocol/ApiKey" := Exa.start ev17 n36
  obtain ⟨v18, ev18⟩ := exa_v n32
  have S18 : Sta s s.heap "com/example/lean_broker/leanbroker/protocol/ApiKey" "CREATE_PARTITIONS" "Lcom/example/lean_broker/leanbroker/protocol/ApiKey;" (.ref v18) := Sta.start ev18 (Or.inr ⟨(hw _ (List.mem_of_getElem? (i := 6) rfl)), (hw _ (List.mem_of_getElem? (i := 49) rfl))⟩)
  have E18 : Exa s s.heap v18 "com/example/lean_broker/leanbroker/protocol/ApiKey" := Exa.start ev18 n32
  have F0 : Fld s s.heap v0 "com/example/lean_broker/leanbroker/protocol/ApiKey" "throttleTimeFrom" "S" (.int (own_fr (0 : Nat).toInt32)) := by
    have e : own_fr (0 : Nat).toInt32 = (-1) := by decide
    rw [e]; exact own_fld ev0 n1
  have F1 : Fld s s.heap v1 "com/example/lean_broker/leanbroker/protocol/ApiKey" "throttleTimeFrom" "S" (.int (own_fr (1 : Nat).toInt32)) := by
    have e : own_fr (1 : Nat).toInt32 = 1 := by decide
    rw [e]; exact own_fld ev1 n25
  have F2 : Fld s s.heap v2 "com/example/lean_broker/leanbroker/protocol/ApiKey" "throttleTimeFrom" "S" (.int (own_fr (2 : Nat).toInt32)) := by
    have e : own_fr (2 : Nat).toInt32 = 2 := by decide
    rw [e]; exact own_fld ev2 n7
  have F3 : Fld s s.heap v3 "com/example/lean_broker/leanbroker/protocol/ApiKey" "throttleTimeFrom" "S" (.int (own_fr (3 : Nat).toInt32)) := by
    have e : own_fr (3 : Nat).toInt32 = 3 := by decide
    rw [e]; exact own_fld ev3 n11
  have F4 : Fld s s.heap v4 "com/example/lean_broker/leanbroker/protocol/ApiKey" "throttleTimeFrom" "S" (.int (own_fr (4 : Nat).toInt32)) := by
    have e : own_fr (4 : Nat).toInt32 = 3 := by decide
    rw [e]; exact own_fld ev4 n35
  have F5 : Fld s s.heap v5 "com/example/lean_broker/leanbroker/protocol/ApiKey" "throttleTimeFrom" "S" (.int (own_fr (5 : Nat).toInt32)) := by
    have e : own_fr (5 : Nat).toInt32 = 3 := by decide
    rw [e]; exact own_fld ev5 n19
  have F6 : Fld s s.heap v6 "com/example/lean_broker/leanbroker/protocol/ApiKey" "throttleTimeFrom" "S" (.int (own_fr (6 : Nat).toInt32)) := by
    have e : own_fr (6 : Nat).toInt32 = 1 := by decide
    rw [e]; exact own_fld ev6 n13
  have F7 : Fld s s.heap v7 "com/example/lean_broker/leanbroker/protocol/ApiKey" "throttleTimeFrom" "S" (.int (own_fr (7 : Nat).toInt32)) := by
    have e : own_fr (7 : Nat).toInt32 = 2 := by decide
    rw [e]; exact own_fld ev7 n21
  have F8 : Fld s s.heap v8 "com/example/lean_broker/leanbroker/protocol/ApiKey" "throttleTimeFrom" "S" (.int (own_fr (8 : Nat).toInt32)) := by
    have e : own_fr (8 : Nat).toInt32 = 1 := by decide
    rw [e]; exact own_fld ev8 n15
  have F9 : Fld s s.heap v9 "com/example/lean_broker/leanbroker/protocol/ApiKey" "throttleTimeFrom" "S" (.int (own_fr (9 : Nat).toInt32)) := by
    have e : own_fr (9 : Nat).toInt32 = 1 := by decide
    rw [e]; exact own_fld ev9 n9
  have F10 : Fld s s.heap v10 "com/example/lean_broker/leanbroker/protocol/ApiKey" "throttleTimeFrom" "S" (.int (own_fr (10 : Nat).toInt32)) := by
    have e : own_fr (10 : Nat).toInt32 = 1 := by decide
    rw [e]; exact own_fld ev10 n29
  have F11 : Fld s s.heap v11 "com/example/lean_broker/leanbroker/protocol/ApiKey" "throttleTimeFrom" "S" (.int (own_fr (11 : Nat).toInt32)) := by
    have e : own_fr (11 : Nat).toInt32 = 1 := by decide
    rw [e]; exact own_fld ev11 n27
  have F12 : Fld s s.heap v12 "com/example/lean_broker/leanbroker/protocol/ApiKey" "throttleTimeFrom" "S" (.int (own_fr (12 : Nat).toInt32)) := by
    have e : own_fr (12 : Nat).toInt32 = 1 := by decide
    rw [e]; exact own_fld ev12 n17
  have F13 : Fld s s.heap v13 "com/example/lean_broker/leanbroker/protocol/ApiKey" "throttleTimeFrom" "S" (.int (own_fr (13 : Nat).toInt32)) := by
    have e : own_fr (13 : Nat).toInt32 = (-1) := by decide
    rw [e]; exact own_fld ev13 n5
  have F14 : Fld s s.heap v14 "com/example/lean_broker/leanbroker/protocol/ApiKey" "throttleTimeFrom" "S" (.int (own_fr (14 : Nat).toInt32)) := by
    have e : own_fr (14 : Nat).toInt32 = 2 := by decide
    rw [e]; exact own_fld ev14 n3
  have F15 : Fld s s.heap v15 "com/example/lean_broker/leanbroker/protocol/ApiKey" "throttleTimeFrom" "S" (.int (own_fr (15 : Nat).toInt32)) := by
    have e : own_fr (15 : Nat).toInt32 = 1 := by decide
    rw [e]; exact own_fld ev15 n31
  have F16 : Fld s s.heap v16 "com/example/lean_broker/leanbroker/protocol/ApiKey" "throttleTimeFrom" "S" (.int (own_fr (16 : Nat).toInt32)) := by
    have e : own_fr (16 : Nat).toInt32 = 0 := by decide
    rw [e]; exact own_fld ev16 n23
  have F17 : Fld s s.heap v17 "com/example/lean_broker/leanbroker/protocol/ApiKey" "throttleTimeFrom" "S" (.int (own_fr (17 : Nat).toInt32)) := by
    have e : own_fr (17 : Nat).toInt32 = 0 := by decide
    rw [e]; exact own_fld ev17 n36r
  have F18 : Fld s s.heap v18 "com/example/lean_broker/leanbroker/protocol/ApiKey" "throttleTimeFrom" "S" (.int (own_fr (18 : Nat).toInt32)) := by
    have e : own_fr (18 : Nat).toInt32 = 0 := by decide
    rw [e]; exact own_fld ev18 n33
  obtain ⟨n, o, h1, h2, h3, _, L, rfl, ⟨rfl, N⟩, hq⟩ := rm0 l s _ hw tables_1 i0 i1 (fun i => [v0, v1, v2, v3, v4, v5, v6, v7, v8, v9, v10, v11, v12, v13, v14, v15, v16, v17, v18].getD i 0) s.heap s.heap.size (Nat.le_refl _) ⟨S0, S1, S2, S3, S4, S5, S6, S7, S8, S9, S10, S11, S12, S13, S14, S15, S16, S17, S18⟩ (fun i hi => match i, hi with | 0, _ => E0 | 1, _ => E1 | 2, _ => E2 | 3, _ => E3 | 4, _ => E4 | 5, _ => E5 | 6, _ => E6 | 7, _ => E7 | 8, _ => E8 | 9, _ => E9 | 10, _ => E10 | 11, _ => E11 | 12, _ => E12 | 13, _ => E13 | 14, _ => E14 | 15, _ => E15 | 16, _ => E16 | 17, _ => E17 | 18, _ => E18 | i + 19, hi => absurd hi (by omega)) (fun i hi => match i, hi with | 0, _ => F0 | 1, _ => F1 | 2, _ => F2 | 3, _ => F3 | 4, _ => F4 | 5, _ => F5 | 6, _ => F6 | 7, _ => F7 | 8, _ => F8 | 9, _ => F9 | 10, _ => F10 | 11, _ => F11 | 12, _ => F12 | 13, _ => F13 | 14, _ => F14 | 15, _ => F15 | 16, _ => F16 | 17, _ => F17 | 18, _ => F18 | i + 19, hi => absurd hi (by omega)) p e ha hc hk s m _ below hf ((Spec.applies_iff_loose hf).mp happ).1 ⟨rfl, State.Warmed39.refl s, rfl⟩ trivial
  refine ⟨n, _, h1, h2, h3, hpost _ _ _ _ _ _ ⟨Cond.after_iff.mpr rfl, Cond.after_iff.mpr (eq_i res_at (Term.int_eval (1)) rfl), trivial⟩ ⟨hq.1, hq.2.1, (hq.2.2.sift fun y hy => Or.inr (N y hy)).mono (by decide) (by decide)⟩⟩
theorem main_1_1 : Claimed_1_1 := comes_1 fun _ _ _ _ _ _ h hF => ⟨h.1, hF⟩
theorem main_1_2 : Claimed_1_2 := comes_1 fun _ _ _ _ _ _ h hF => ⟨h.2.1, hF⟩
end Jvm.Pilot.@@N@@
namespace Jvm.Pilot.@@N@@
open Jvm Jvm.ClassFile Sem Op Lib Jvm.Free Jvm.Stand Jvm.Pilot.@@N@@.Jvm.D
/-! MADE BY PROGRAM (witnessworld.py) out of the Statement's table words and the real class files: 12 classes; the members and pool entries that the words name. The judged class is class 1, her method 1. -/
namespace start1
open Jvm.ClassFile
def u (s : String) : CpInfo := .utf8 (stringToUtf16 s)
/-- a pool by its gaps: so many unusable entries, then the entry; so many at the end -/
def gap : Nat → List CpInfo → List CpInfo
  | 0, r => r
  | n + 1, r => .unusable :: gap n r
def poolList (es : List (Nat × CpInfo)) (last : Nat) : List CpInfo := es.foldr (fun e r => gap e.1 (e.2 :: r)) (gap last [])
def pool (es : List (Nat × CpInfo)) (last : Nat) : Array CpInfo := ⟨poolList es last⟩
def fileOf (pool : Array CpInfo) (this : Nat) (attrs : Array Attribute := #[]) (ms : Array MethodInfo := #[]) (fl : Nat := 33) (sup : Nat := 0) (ifs : Array Nat := #[]) (fds : Array FieldInfo := #[]) : ClassFile where
  minorVersion := 0
  majorVersion := 65
  constantPool := pool
  accessFlags := fl
  thisClass := this
  superClass := sup
  interfaces := ifs
  fields := fds
  methods := ms
  attributes := attrs
def plain (name : String) (sup : Option ClassId) : Class where
  name := name
  kind := .ordinary
  loader := none
  accessFlags := 33
  super := sup
  interfaces := #[]
  cf := none
  fields := #[]
  methods := #[]
  instanceTypes := #[]
  staticTypes := #[]
  resolved := #[]
  callSites := []
  init := .initialized
  statics := none
  mirror := none

def pool0 : Array CpInfo := pool [(5, u "<init>"), (0, u "()V"), (1, .class_ 10), (1, u "java/lang/Object")] 113

def k0m0 : Method := { name := "<init>", desc := "()V", sig := { parameters := [], returnType := none }, accessFlags := 1, code := none }
/-- java/lang/Object -/
def k0 : Class := { plain "java/lang/Object" none with
  accessFlags := 33
  interfaces := #[]
  cf := some (fileOf pool0 8 #[] #[{ accessFlags := 1, nameIndex := 5, descriptorIndex := 6, attributes := #[] }] 33 0 #[] #[])
  fields := #[]
  methods := #[k0m0]
  instanceTypes := #[]
  staticTypes := #[]
  resolved := Array.replicate 124 none
  statics := none }

def pool1 : Array CpInfo := pool [(2, .class_ 4), (1, u "java/lang/Object"), (0, u "<init>"), (0, u "()V"), (0, .integer 2147483647), (0, .methodref 9 10), (0, .class_ 11), (0, .nameAndType 12 13), (0, u "com/example/lean_broker/leanbroker/protocol/ApiKeyOpensWithThrottleTimePinLaw"), (0, u "apiOf"), (0, u "(I)Lcom/example/lean_broker/leanbroker/protocol/ApiKey;"), (0, .methodref 9 15), (0, .nameAndType 16 17), (0, u "fromOf"), (0, u "(I)I"), (0, .methodref 19 20), (0, .class_ 21), (0, .nameAndType 22 23), (0, u "com/example/lean_broker/leanbroker/protocol/ApiKey"), (0, u "opensWithThrottleTime"), (0, u "(S)Z"), (0, .fieldref 19 25), (0, .nameAndType 26 27), (0, u "PRODUCE"), (0, u "Lcom/example/lean_broker/leanbroker/protocol/ApiKey;"), (0, .fieldref 19 29), (0, .nameAndType 30 27), (0, u "FETCH"), (0, .fieldref 19 32), (0, .nameAndType 33 27), (0, u "LIST_OFFSETS"), (0, .fieldref 19 35), (0, .nameAndType 36 27), (0, u "METADATA"), (0, .fieldref 19 38), (0, .nameAndType 39 27), (0, u "OFFSET_COMMIT"), (0, .fieldref 19 41), (0, .nameAndType 42 27), (0, u "OFFSET_FETCH"), (0, .fieldref 19 44), (0, .nameAndType 45 27), (0, u "FIND_COORDINATOR"), (0, .fieldref 19 47), (0, .nameAndType 48 27), (0, u "JOIN_GROUP"), (0, .fieldref 19 50), (0, .nameAndType 51 27), (0, u "HEARTBEAT"), (0, .fieldref 19 53), (0, .nameAndType 54 27), (0, u "LEAVE_GROUP"), (0, .fieldref 19 56), (0, .nameAndType 57 27), (0, u "SYNC_GROUP"), (0, .fieldref 19 59), (0, .nameAndType 60 27), (0, u "DESCRIBE_GROUPS"), (0, .fieldref 19 62), (0, .nameAndType 63 27), (0, u "LIST_GROUPS"), (0, .fieldref 19 65), (0, .nameAndType 66 27), (0, u "API_VERSIONS"), (0, .fieldref 19 68), (0, .nameAndType 69 27), (0, u "CREATE_TOPICS"), (0, .fieldref 19 71), (0, .nameAndType 72 27), (0, u "DELETE_TOPICS"), (0, .fieldref 19 74), (0, .nameAndType 75 27), (0, u "INIT_PRODUCER_ID"), (0, .fieldref 19 77), (0, .nameAndType 78 27), (0, u "DESCRIBE_CONFIGS"), (0, .fieldref 19 80), (0, .nameAndType 81 27), (0, u "CREATE_PARTITIONS"), (2, u "law"), (0, u "(II)Z")] 3

def k1m0 : Method := { name := "<init>", desc := "()V", sig := { parameters := [], returnType := none }, accessFlags := 1, code := none }
def k1c1 : Code := { maxStack := 2, maxLocals := 7, code := code, exceptionTable := #[], attributes := #[] }
def k1m1 : Method := { name := "law", desc := "(II)Z", sig := { parameters := [.int, .int], returnType := some .boolean }, accessFlags := 9, code := some k1c1 }
def k1c2 : Code := { maxStack := 2, maxLocals := 1, code := method_3_code, exceptionTable := #[], attributes := #[] }
def k1m2 : Method := { name := "apiOf", desc := "(I)Lcom/example/lean_broker/leanbroker/protocol/ApiKey;", sig := { parameters := [.int], returnType := some (.object "com/example/lean_broker/leanbroker/protocol/ApiKey") }, accessFlags := 10, code := some k1c2 }
def k1c3 : Code := { maxStack := 2, maxLocals := 1, code := method_4_code, exceptionTable := #[], attributes := #[] }
def k1m3 : Method := { name := "fromOf", desc := "(I)I", sig := { parameters := [.int], returnType := some .int }, accessFlags := 10, code := some k1c3 }
/-- com/example/lean_broker/leanbroker/protocol/ApiKeyOpensWithThrottleTimePinLaw -/
def k1 : Class := { plain "com/example/lean_broker/leanbroker/protocol/ApiKeyOpensWithThrottleTimePinLaw" (some 0) with
  accessFlags := 49
  interfaces := #[]
  cf := some (fileOf pool1 9 #[] #[{ accessFlags := 1, nameIndex := 5, descriptorIndex := 6, attributes := #[] }, { accessFlags := 9, nameIndex := 84, descriptorIndex := 85, attributes := #[] }, { accessFlags := 10, nameIndex := 12, descriptorIndex := 13, attributes := #[] }, { accessFlags := 10, nameIndex := 16, descriptorIndex := 17, attributes := #[] }] 49 2 #[] #[])
  fields := #[]
  methods := #[k1m0, k1m1, k1m2, k1m3]
  instanceTypes := #[]
  staticTypes := #[]
  resolved := Array.replicate 89 none
  statics := none }

def pool2 : Array CpInfo := pool [(1, .class_ 2), (0, u "java/lang/constant/Constable"), (0, .class_ 4), (0, u "java/lang/Object")] 6

/-- java/lang/constant/Constable -/
def k2 : Class := { plain "java/lang/constant/Constable" (some 0) with
  accessFlags := 1537
  interfaces := #[]
  cf := some (fileOf pool2 1 #[] #[] 1537 3 #[] #[])
  fields := #[]
  methods := #[]
  instanceTypes := #[]
  staticTypes := #[]
  resolved := Array.replicate 11 none
  statics := none }

def pool3 : Array CpInfo := pool [(1, .class_ 2), (0, u "java/lang/Comparable"), (0, .class_ 4), (0, u "java/lang/Object")] 7

/-- java/lang/Comparable -/
def k3 : Class := { plain "java/lang/Comparable" (some 0) with
  accessFlags := 1537
  interfaces := #[]
  cf := some (fileOf pool3 1 #[] #[] 1537 3 #[] #[])
  fields := #[]
  methods := #[]
  instanceTypes := #[]
  staticTypes := #[]
  resolved := Array.replicate 12 none
  statics := none }

def pool4 : Array CpInfo := pool [(1, .class_ 2), (0, u "java/io/Serializable"), (0, .class_ 4), (0, u "java/lang/Object")] 2

/-- java/io/Serializable -/
def k4 : Class := { plain "java/io/Serializable" (some 0) with
  accessFlags := 1537
  interfaces := #[]
  cf := some (fileOf pool4 1 #[] #[] 1537 3 #[] #[])
  fields := #[]
  methods := #[]
  instanceTypes := #[]
  staticTypes := #[]
  resolved := Array.replicate 7 none
  statics := none }

def pool5 : Array CpInfo := pool [(2, .class_ 4), (1, u "java/lang/Enum"), (0, u "name"), (0, u "Ljava/lang/String;"), (2, u "ordinal"), (0, u "I"), (1, .class_ 14), (1, u "java/lang/Object"), (4, u "hash"), (86, .class_ 108), (1, u "java/lang/Enum$EnumDesc"), (2, .class_ 112), (0, u "java/lang/constant/Constable"), (0, .class_ 114), (0, u "java/lang/Comparable"), (0, .class_ 116), (0, u "java/io/Serializable")] 87

/-- java/lang/Enum -/
def k5 : Class := { plain "java/lang/Enum" (some 0) with
  accessFlags := 1057
  interfaces := #[2, 3, 4]
  cf := some (fileOf pool5 2 #[.nestMembers #[106]] #[] 1057 12 #[111, 113, 115] #[{ accessFlags := 18, nameIndex := 5, descriptorIndex := 6, attributes := #[] }, { accessFlags := 18, nameIndex := 9, descriptorIndex := 10, attributes := #[] }, { accessFlags := 2, nameIndex := 19, descriptorIndex := 10, attributes := #[] }])
  fields := #[{ name := "name", type := (.object "java/lang/String"), accessFlags := 18, slot := 0, constantValue := 0 }, { name := "ordinal", type := .int, accessFlags := 18, slot := 1, constantValue := 0 }, { name := "hash", type := .int, accessFlags := 2, slot := 2, constantValue := 0 }]
  methods := #[]
  instanceTypes := #[(.object "java/lang/String"), .int, .int]
  staticTypes := #[]
  resolved := Array.replicate 204 none
  statics := none }

def pool6 : Array CpInfo := pool [(1, .class_ 2), (0, u "com/example/lean_broker/leanbroker/protocol/ApiKey"), (2, u "PRODUCE"), (0, u "Lcom/example/lean_broker/leanbroker/protocol/ApiKey;"), (2, u "FETCH"), (2, u "LIST_OFFSETS"), (2, u "METADATA"), (2, u "OFFSET_COMMIT"), (2, u "OFFSET_FETCH"), (2, u "FIND_COORDINATOR"), (2, u "JOIN_GROUP"), (2, u "HEARTBEAT"), (2, u "LEAVE_GROUP"), (2, u "SYNC_GROUP"), (2, u "DESCRIBE_GROUPS"), (2, u "LIST_GROUPS"), (2, u "API_VERSIONS"), (2, u "CREATE_TOPICS"), (2, u "DELETE_TOPICS"), (2, u "INIT_PRODUCER_ID"), (2, u "DESCRIBE_CONFIGS"), (2, u "CREATE_PARTITIONS"), (2, u "$VALUES"), (0, u "[Lcom/example/lean_broker/leanbroker/protocol/ApiKey;"), (6, .class_ 73), (1, u "java/lang/Enum"), (11, u "id"), (0, u "S"), (2, u "minVersion"), (2, u "maxVersion"), (0, .fieldref 1 94), (0, .nameAndType 95 86), (0, u "throttleTimeFrom"), (29, u "NEVER"), (11, u "(S)Z"), (1, u "opensWithThrottleTime")] 7

def k6c0 : Code := { maxStack := 2, maxLocals := 2, code := prog_1_method_9_code, exceptionTable := #[], attributes := #[] }
def k6m0 : Method := { name := "opensWithThrottleTime", desc := "(S)Z", sig := { parameters := [.short], returnType := some .boolean }, accessFlags := 1, code := some k6c0 }
/-- com/example/lean_broker/leanbroker/protocol/ApiKey -/
def k6 : Class := { plain "com/example/lean_broker/leanbroker/protocol/ApiKey" (some 5) with
  accessFlags := 16433
  interfaces := #[]
  cf := some (fileOf pool6 1 #[] #[{ accessFlags := 1, nameIndex := 139, descriptorIndex := 137, attributes := #[] }] 16433 71 #[] #[{ accessFlags := 16409, nameIndex := 5, descriptorIndex := 6, attributes := #[] }, { accessFlags := 16409, nameIndex := 9, descriptorIndex := 6, attributes := #[] }, { accessFlags := 16409, nameIndex := 12, descriptorIndex := 6, attributes := #[] }, { accessFlags := 16409, nameIndex := 15, descriptorIndex := 6, attributes := #[] }, { accessFlags := 16409, nameIndex := 18, descriptorIndex := 6, attributes := #[] }, { accessFlags := 16409, nameIndex := 21, descriptorIndex := 6, attributes := #[] }, { accessFlags := 16409, nameIndex := 24, descriptorIndex := 6, attributes := #[] }, { accessFlags := 16409, nameIndex := 27, descriptorIndex := 6, attributes := #[] }, { accessFlags := 16409, nameIndex := 30, descriptorIndex := 6, attributes := #[] }, { accessFlags := 16409, nameIndex := 33, descriptorIndex := 6, attributes := #[] }, { accessFlags := 16409, nameIndex := 36, descriptorIndex := 6, attributes := #[] }, { accessFlags := 16409, nameIndex := 39, descriptorIndex := 6, attributes := #[] }, { accessFlags := 16409, nameIndex := 42, descriptorIndex := 6, attributes := #[] }, { accessFlags := 16409, nameIndex := 45, descriptorIndex := 6, attributes := #[] }, { accessFlags := 16409, nameIndex := 48, descriptorIndex := 6, attributes := #[] }, { accessFlags := 16409, nameIndex := 51, descriptorIndex := 6, attributes := #[] }, { accessFlags := 16409, nameIndex := 54, descriptorIndex := 6, attributes := #[] }, { accessFlags := 16409, nameIndex := 57, descriptorIndex := 6, attributes := #[] }, { accessFlags := 16409, nameIndex := 60, descriptorIndex := 6, attributes := #[] }, { accessFlags := 26, nameIndex := 125, descriptorIndex := 86, attributes := #[] }, { accessFlags := 18, nameIndex := 85, descriptorIndex := 86, attributes := #[] }, { accessFlags := 18, nameIndex := 89, descriptorIndex := 86, attributes := #[] }, { accessFlags := 18, nameIndex := 92, descriptorIndex := 86, attributes := #[] }, { accessFlags := 18, nameIndex := 95, descriptorIndex := 86, attributes := #[] }, { accessFlags := 4122, nameIndex := 63, descriptorIndex := 64, attributes := #[] }])
  fields := #[{ name := "PRODUCE", type := (.object "com/example/lean_broker/leanbroker/protocol/ApiKey"), accessFlags := 16409, slot := 0, constantValue := 0 }, { name := "FETCH", type := (.object "com/example/lean_broker/leanbroker/protocol/ApiKey"), accessFlags := 16409, slot := 1, constantValue := 0 }, { name := "LIST_OFFSETS", type := (.object "com/example/lean_broker/leanbroker/protocol/ApiKey"), accessFlags := 16409, slot := 2, constantValue := 0 }, { name := "METADATA", type := (.object "com/example/lean_broker/leanbroker/protocol/ApiKey"), accessFlags := 16409, slot := 3, constantValue := 0 }, { name := "OFFSET_COMMIT", type := (.object "com/example/lean_broker/leanbroker/protocol/ApiKey"), accessFlags := 16409, slot := 4, constantValue := 0 }, { name := "OFFSET_FETCH", type := (.object "com/example/lean_broker/leanbroker/protocol/ApiKey"), accessFlags := 16409, slot := 5, constantValue := 0 }, { name := "FIND_COORDINATOR", type := (.object "com/example/lean_broker/leanbroker/protocol/ApiKey"), accessFlags := 16409, slot := 6, constantValue := 0 }, { name := "JOIN_GROUP", type := (.object "com/example/lean_broker/leanbroker/protocol/ApiKey"), accessFlags := 16409, slot := 7, constantValue := 0 }, { name := "HEARTBEAT", type := (.object "com/example/lean_broker/leanbroker/protocol/ApiKey"), accessFlags := 16409, slot := 8, constantValue := 0 }, { name := "LEAVE_GROUP", type := (.object "com/example/lean_broker/leanbroker/protocol/ApiKey"), accessFlags := 16409, slot := 9, constantValue := 0 }, { name := "SYNC_GROUP", type := (.object "com/example/lean_broker/leanbroker/protocol/ApiKey"), accessFlags := 16409, slot := 10, constantValue := 0 }, { name := "DESCRIBE_GROUPS", type := (.object "com/example/lean_broker/leanbroker/protocol/ApiKey"), accessFlags := 16409, slot := 11, constantValue := 0 }, { name := "LIST_GROUPS", type := (.object "com/example/lean_broker/leanbroker/protocol/ApiKey"), accessFlags := 16409, slot := 12, constantValue := 0 }, { name := "API_VERSIONS", type := (.object "com/example/lean_broker/leanbroker/protocol/ApiKey"), accessFlags := 16409, slot := 13, constantValue := 0 }, { name := "CREATE_TOPICS", type := (.object "com/example/lean_broker/leanbroker/protocol/ApiKey"), accessFlags := 16409, slot := 14, constantValue := 0 }, { name := "DELETE_TOPICS", type := (.object "com/example/lean_broker/leanbroker/protocol/ApiKey"), accessFlags := 16409, slot := 15, constantValue := 0 }, { name := "INIT_PRODUCER_ID", type := (.object "com/example/lean_broker/leanbroker/protocol/ApiKey"), accessFlags := 16409, slot := 16, constantValue := 0 }, { name := "DESCRIBE_CONFIGS", type := (.object "com/example/lean_broker/leanbroker/protocol/ApiKey"), accessFlags := 16409, slot := 17, constantValue := 0 }, { name := "CREATE_PARTITIONS", type := (.object "com/example/lean_broker/leanbroker/protocol/ApiKey"), accessFlags := 16409, slot := 18, constantValue := 0 }, { name := "NEVER", type := .short, accessFlags := 26, slot := 19, constantValue := 0 }, { name := "id", type := .short, accessFlags := 18, slot := 3, constantValue := 0 }, { name := "minVersion", type := .short, accessFlags := 18, slot := 4, constantValue := 0 }, { name := "maxVersion", type := .short, accessFlags := 18, slot := 5, constantValue := 0 }, { name := "throttleTimeFrom", type := .short, accessFlags := 18, slot := 6, constantValue := 0 }, { name := "$VALUES", type := (.array (.object "com/example/lean_broker/leanbroker/protocol/ApiKey")), accessFlags := 4122, slot := 20, constantValue := 0 }]
  methods := #[k6m0]
  instanceTypes := #[(.object "java/lang/String"), .int, .int, .short, .short, .short, .short]
  staticTypes := #[(.object "com/example/lean_broker/leanbroker/protocol/ApiKey"), (.object "com/example/lean_broker/leanbroker/protocol/ApiKey"), (.object "com/example/lean_broker/leanbroker/protocol/ApiKey"), (.object "com/example/lean_broker/leanbroker/protocol/ApiKey"), (.object "com/example/lean_broker/leanbroker/protocol/ApiKey"), (.object "com/example/lean_broker/leanbroker/protocol/ApiKey"), (.object "com/example/lean_broker/leanbroker/protocol/ApiKey"), (.object "com/example/lean_broker/leanbroker/protocol/ApiKey"), (.object "com/example/lean_broker/leanbroker/protocol/ApiKey"), (.object "com/example/lean_broker/leanbroker/protocol/ApiKey"), (.object "com/example/lean_broker/leanbroker/protocol/ApiKey"), (.object "com/example/lean_broker/leanbroker/protocol/ApiKey"), (.object "com/example/lean_broker/leanbroker/protocol/ApiKey"), (.object "com/example/lean_broker/leanbroker/protocol/ApiKey"), (.object "com/example/lean_broker/leanbroker/protocol/ApiKey"), (.object "com/example/lean_broker/leanbroker/protocol/ApiKey"), (.object "com/example/lean_broker/leanbroker/protocol/ApiKey"), (.object "com/example/lean_broker/leanbroker/protocol/ApiKey"), (.object "com/example/lean_broker/leanbroker/protocol/ApiKey"), .short, (.array (.object "com/example/lean_broker/leanbroker/protocol/ApiKey"))]
  resolved := Array.replicate 147 none
  statics := some 0 }

def pool7 : Array CpInfo := pool [(1, u "java/lang/Cloneable"), (0, .class_ 1), (0, u "java/lang/Object"), (0, .class_ 3)] 3

/-- java/lang/Cloneable -/
def k7 : Class := { plain "java/lang/Cloneable" (some 0) with
  accessFlags := 1537
  interfaces := #[]
  cf := some (fileOf pool7 2 #[] #[] 1537 4 #[] #[])
  fields := #[]
  methods := #[]
  instanceTypes := #[]
  staticTypes := #[]
  resolved := Array.replicate 8 none
  statics := none }

/-- the primitive byte -/
def k8 : Class := { plain "byte" none with kind := .primitive 'B', accessFlags := 0x411 }
/-- [B -/
def k9 : Class := { plain "[B" (some 0) with kind := .array 8 .byte, interfaces := #[7, 4], accessFlags := 1041 }

/-- the primitive int -/
def k10 : Class := { plain "int" none with kind := .primitive 'I', accessFlags := 0x411 }
/-- [I -/
def k11 : Class := { plain "[I" (some 0) with kind := .array 10 .int, interfaces := #[7, 4], accessFlags := 1041 }

def heap : Heap := #[{ cls := 6, slots := #[.ref 1, .ref 2, .ref 3, .ref 4, .ref 5, .ref 6, .ref 7, .ref 8, .ref 9, .ref 10, .ref 11, .ref 12, .ref 13, .ref 14, .ref 15, .ref 16, .ref 17, .ref 18, .ref 19, .int 0, .null], vm := .statics 6 },
  { cls := 6, slots := #[.null, .int 0, .int 0, .int 0, .int 0, .int 0, .int (-1)], vm := .none },
  { cls := 6, slots := #[.null, .int 1, .int 0, .int 0, .int 0, .int 0, .int (1)], vm := .none },
  { cls := 6, slots := #[.null, .int 2, .int 0, .int 0, .int 0, .int 0, .int (2)], vm := .none },
  { cls := 6, slots := #[.null, .int 3, .int 0, .int 0, .int 0, .int 0, .int (3)], vm := .none },
  { cls := 6, slots := #[.null, .int 4, .int 0, .int 0, .int 0, .int 0, .int (3)], vm := .none },
  { cls := 6, slots := #[.null, .int 5, .int 0, .int 0, .int 0, .int 0, .int (3)], vm := .none },
  { cls := 6, slots := #[.null, .int 6, .int 0, .int 0, .int 0, .int 0, .int (1)], vm := .none },
  { cls := 6, slots := #[.null, .int 7, .int 0, .int 0, .int 0, .int 0, .int (2)], vm := .none },
  { cls := 6, slots := #[.null, .int 8, .int 0, .int 0, .int 0, .int 0, .int (1)], vm := .none },
  { cls := 6, slots := #[.null, .int 9, .int 0, .int 0, .int 0, .int 0, .int (1)], vm := .none },
  { cls := 6, slots := #[.null, .int 10, .int 0, .int 0, .int 0, .int 0, .int (1)], vm := .none },
  { cls := 6, slots := #[.null, .int 11, .int 0, .int 0, .int 0, .int 0, .int (1)], vm := .none },
  { cls := 6, slots := #[.null, .int 12, .int 0, .int 0, .int 0, .int 0, .int (1)], vm := .none },
  { cls := 6, slots := #[.null, .int 13, .int 0, .int 0, .int 0, .int 0, .int (-1)], vm := .none },
  { cls := 6, slots := #[.null, .int 14, .int 0, .int 0, .int 0, .int 0, .int (2)], vm := .none },
  { cls := 6, slots := #[.null, .int 15, .int 0, .int 0, .int 0, .int 0, .int (1)], vm := .none },
  { cls := 6, slots := #[.null, .int 16, .int 0, .int 0, .int 0, .int 0, .int (0)], vm := .none },
  { cls := 6, slots := #[.null, .int 17, .int 0, .int 0, .int 0, .int 0, .int (0)], vm := .none },
  { cls := 6, slots := #[.null, .int 18, .int 0, .int 0, .int 0, .int 0, .int (0)], vm := .none }]
def classes : Array Class := #[k0, k1, k2, k3, k4, k5, k6, k7, k8, k9, k10, k11]
def interned : List (Array UInt16 × Addr) := []
def slotsUsed : Nat := 154
def theMethod : MethodId := ⟨1, 1⟩
def args0 : Array Value := #[.int 5, .int 7]
def aboutOver (below : List Frame) : State where
  vm := { classes := classes, interned := interned.toArray }
  heap := heap
  slotsUsed := slotsUsed
  threads := #[{ frames := .invoking theMethod args0 :: below }]
def below0 : List Frame := [.native { method := ⟨0, 0⟩, args := #[] }]
def about1 : State := aboutOver below0
def p0 : Program := .bare "" "" ""
def e0 : Env := launch0.env 0 0 0
theorem w_frames : about1.frames = Frame.invoking theMethod args0 :: below0 := rfl
set_option maxRecDepth 65536 in
theorem w_args : argsFit about1.vm theMethod args0 = true := by decide +kernel
set_option maxRecDepth 65536 in
theorem w_heap : heapFits about1 = true := by decide +kernel
set_option maxRecDepth 65536 in
theorem w_runnable : about1.curStatus? = some .runnable := by decide +kernel
set_option maxRecDepth 65536 in
theorem w_alone : about1.alone = true := by decide +kernel
set_option maxRecDepth 65536 in
theorem w_named : about1.methodNamed? x = some theMethod := by decide +kernel
set_option maxRecDepth 65536 in
theorem w_hears : about1.hears theMethod below0 = true := by decide +kernel
set_option maxRecDepth 65536 in
theorem w_ripe : about1.ripe theMethod args0 below0 = true := by decide +kernel
theorem w_running : about1.status = .running := rfl
set_option maxRecDepth 65536 in
theorem w_room : about1.hasRoom e0.platform room_1 = true :=
  launch0.hasRoom_least _ room_1 (by decide +kernel) (by decide +kernel) (by decide +kernel) (by decide +kernel) (by decide +kernel) (by decide +kernel)
theorem allAtoms_all (ts : List Jvm.Cond) (a : Array Jvm.Value) (st : Jvm.State) : (allAtoms ts).before a st = ts.all (fun c => c.before a st) := by
  induction ts with
  | nil => rfl
  | cons c t ih =>
    show (Jvm.Cond.and c (allAtoms t)).before a st = _
    rw [Jvm.Cond.before_and, ih, List.all_cons]
def words1 : List Jvm.Cond := Jvm.Cond.code x code maxLocals ret :: tables_1
/-- a 'code' word, met by the world's own term for the bytes: nothing is compared byte by byte -/
theorem code_word {y : MethodName} {bytes : ByteArray} {mx : Nat} {rt : Option FieldType} {a : Array Value} {s : State} {m : MethodId} {meth : Method} {c : Code} (h1 : s.methodNamed? y = some m) (h2 : s.vm.method? m = some meth) (h3 : meth.code = some c) (h4 : c.code = bytes)
    (h5 : (c.maxLocals == mx && c.exceptionTable.isEmpty && decide (c.maxStack ≤ mostOperands) && decide (meth.sig.returnType = rt) && !meth.locks && decide (parseMethodDescriptor y.desc = some meth.sig)) = true) : (Jvm.Cond.code y bytes mx rt).before a s = true := by
  simp only [Bool.and_eq_true, beq_iff_eq, Bool.not_eq_true', decide_eq_true_eq] at h5
  obtain ⟨⟨⟨⟨⟨g1, g2⟩, g3⟩, g4⟩, g5⟩, g6⟩ := h5
  simp [Cond.before, Cond.holds, Cond.value, h1, h2, h3, h4, g1, g2, g3, g4, g5, g6]
def isCode : Jvm.Cond → Bool
  | .code _ _ _ _ => true
  | _ => false
theorem all_split {L : List Jvm.Cond} {P : Jvm.Cond → Bool} (h1 : L.all (fun c => isCode c || P c) = true) (h2 : ∀ c ∈ L.filter isCode, P c = true) : L.all P = true := by
  refine List.all_eq_true.mpr fun c hc => ?_
  have h := List.all_eq_true.mp h1 c hc
  rcases Bool.eq_false_or_eq_true (isCode c) with hi | hi
  · exact h2 c (List.mem_filter.mpr ⟨hc, hi⟩)
  · simpa [hi] using h
set_option maxRecDepth 65536 in
theorem w_c0 : (Jvm.Cond.code x code maxLocals ret).before args0 about1 = true := code_word (m := ⟨1, 1⟩) (meth := k1m1) (c := k1c1) (by decide +kernel) rfl rfl rfl (by decide +kernel)
set_option maxRecDepth 65536 in
theorem w_c1 : (Jvm.Cond.code ({ cls := "com/example/lean_broker/leanbroker/protocol/ApiKeyOpensWithThrottleTimePinLaw", name := "apiOf", desc := "(I)Lcom/example/lean_broker/leanbroker/protocol/ApiKey;" } : Jvm.MethodName) method_3_code (1 : Nat) (Option.some (Jvm.ClassFile.FieldType.object "com/example/lean_broker/leanbroker/protocol/ApiKey"))).before args0 about1 = true := code_word (m := ⟨1, 2⟩) (meth := k1m2) (c := k1c2) (by decide +kernel) rfl rfl rfl (by decide +kernel)
set_option maxRecDepth 65536 in
theorem w_c2 : (Jvm.Cond.code ({ cls := "com/example/lean_broker/leanbroker/protocol/ApiKeyOpensWithThrottleTimePinLaw", name := "fromOf", desc := "(I)I" } : Jvm.MethodName) method_4_code (1 : Nat) (Option.some Jvm.ClassFile.FieldType.int)).before args0 about1 = true := code_word (m := ⟨1, 3⟩) (meth := k1m3) (c := k1c3) (by decide +kernel) rfl rfl rfl (by decide +kernel)
set_option maxRecDepth 65536 in
theorem w_c3 : (Jvm.Cond.code ({ cls := "com/example/lean_broker/leanbroker/protocol/ApiKey", name := "opensWithThrottleTime", desc := "(S)Z" } : Jvm.MethodName) prog_1_method_9_code (2 : Nat) (Option.some Jvm.ClassFile.FieldType.boolean)).before args0 about1 = true := code_word (m := ⟨6, 0⟩) (meth := k6m0) (c := k6c0) (by decide +kernel) rfl rfl rfl (by decide +kernel)
def codes1 : List Jvm.Cond := [Jvm.Cond.code x code maxLocals ret, Jvm.Cond.code ({ cls := "com/example/lean_broker/leanbroker/protocol/ApiKeyOpensWithThrottleTimePinLaw", name := "apiOf", desc := "(I)Lcom/example/lean_broker/leanbroker/protocol/ApiKey;" } : Jvm.MethodName) method_3_code (1 : Nat) (Option.some (Jvm.ClassFile.FieldType.object "com/example/lean_broker/leanbroker/protocol/ApiKey")), Jvm.Cond.code ({ cls := "com/example/lean_broker/leanbroker/protocol/ApiKeyOpensWithThrottleTimePinLaw", name := "fromOf", desc := "(I)I" } : Jvm.MethodName) method_4_code (1 : Nat) (Option.some Jvm.ClassFile.FieldType.int), Jvm.Cond.code ({ cls := "com/example/lean_broker/leanbroker/protocol/ApiKey", name := "opensWithThrottleTime", desc := "(S)Z" } : Jvm.MethodName) prog_1_method_9_code (2 : Nat) (Option.some Jvm.ClassFile.FieldType.boolean)]
set_option maxRecDepth 65536 in
theorem codes_eq : words1.filter isCode = codes1 := rfl
theorem w_codes : ∀ c ∈ words1.filter isCode, c.before args0 about1 = true := by
  rw [codes_eq]
  intro c hc
  simp only [codes1, List.mem_cons, List.not_mem_nil, or_false] at hc
  rcases hc with rfl | rfl | rfl | rfl
  · exact w_c0
  · exact w_c1
  · exact w_c2
  · exact w_c3
set_option maxRecDepth 65536 in
theorem w_t1 : (words1.take 24).all (fun c => isCode c || c.before args0 about1) = true := by decide +kernel
set_option maxRecDepth 65536 in
theorem w_t2 : ((words1.drop 24).take 24).all (fun c => isCode c || c.before args0 about1) = true := by decide +kernel
set_option maxRecDepth 65536 in
theorem w_t3 : ((words1.drop 24).drop 24).all (fun c => isCode c || c.before args0 about1) = true := by decide +kernel
theorem w_tables : (allAtoms (Jvm.Cond.code x code maxLocals ret :: tables_1)).before args0 about1 = true := by
  rw [allAtoms_all]
  show words1.all (fun c => c.before args0 about1) = true
  refine all_split ?_ w_codes
  rw [← List.take_append_drop 24 words1, List.all_append, w_t1, ← List.take_append_drop 24 (words1.drop 24), List.all_append, w_t2, w_t3]
  rfl
set_option maxRecDepth 65536 in
theorem w_case : (Jvm.Cond.and given_1 narrow_1).before args0 about1 = true := by decide +kernel
theorem w_applies : (headSpec (Jvm.Cond.code x code maxLocals ret :: tables_1) room_1).applies x e0.platform about1 = true :=
  (Spec.applies_iff w_frames).mpr ⟨w_running, w_runnable, w_alone, w_named, w_hears, w_ripe, w_room, w_tables⟩
theorem atStart : AtStart classFile x code maxLocals ret World_1 tables_1 room_1 Calls_1 rest_1 Pre_1 launch0 p0 e0 about1 theMethod args0 below0 :=
  ⟨lists_1, trivial, launch0.admits_env _ _ _, launch0.least_env, fairChoices_fair.cas, fairChoices_fair.clock, w_frames, w_args, w_heap, w_applies, trivial, trivial, w_case⟩
end start1
theorem witness_1 : WitnessClaimed_1 := ⟨start1.p0, start1.e0, start1.about1, start1.theMethod, start1.args0, start1.below0, start1.atStart⟩
end Jvm.Pilot.@@N@@
