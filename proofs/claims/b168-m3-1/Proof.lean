import JvmDerived
import JvmDerived.Pilot.@@N@@Statement
import JvmDerived.Pilot.@@N@@Code
set_option linter.unusedVariables false
set_option linter.unusedSimpArgs false
@@BLOCK:NumsL.lean.txt@@
namespace Jvm.Pilot.@@N@@
open Jvm Jvm.ClassFile Sem Op Lib Jvm.Free Jvm.Stand Jvm.LawKit Jvm.RoadKit Bundle Jvm.Pilot.@@N@@.Jvm.D
/-- what a body leaves that writes nothing: its value, no place written, the heap as it was -/
def QP (val : Value) (h0 : Heap) (n0 : Nat) (v : Option Value) (h : Heap) (L : List Loc) : Prop := v = some val ∧ Fr n0 L ∧ h = h0
/-- what the law leaves: true -/
def Q1 (n0 : Nat) (v : Option Value) (h : Heap) (L : List Loc) : Prop := v = some (.int 1) ∧ Fr n0 L
theorem own_eq_int {args : Array Value} {s : State} {t : Term} {k : Int32} (h : (Jvm.Cond.eq t (.int k)).value args s none s [] = some true) : t.eval args s none [] s = some (.int k) := by
  simp only [Cond.value, Term.eval] at h
  cases ht : t.eval args s none [] s with
  | none => simp [ht] at h
  | some x => cases x <;> simp [ht] at h ⊢; exact h
theorem own_fld {args : Array Value} {s : State} {t : Term} {a : Addr} {C n d : String} {k : Int32} (ev : t.eval args s none [] s = some (.ref a)) (h : (Jvm.Cond.eq (.field t C n d) (.int k)).value args s none s [] = some true) : Fld s s.heap a C n d (.int k) :=
  Fld.start ((fld_at ev).symm.trans (own_eq_int h))
theorem own_toInt32_inj {i j : Nat} (hi : i < 2 ^ 31) (hj : j < 2 ^ 31) (h : i.toInt32 = j.toInt32) : i = j := by
  have := congrArg Int32.toInt h
  rw [len_toInt hi, len_toInt hj] at this
  omega
theorem own_inj {Z : State} {h : Heap} {w : Nat → Addr} {n : Nat} (hn : n < 2 ^ 31) (F : ∀ i, i < n → Fld Z h (w i) "java/lang/Enum" "ordinal" "I" (.int i.toInt32)) : ∀ i j, i < n → j < n → w i = w j → i = j := fun i j hi hj e => by
  by_cases q : i = j
  · exact q
  · exact absurd e (Fld.ne (F i hi) (F j hj) fun h => q (own_toInt32_inj (by omega) (by omega) (Value.int.inj h)))
theorem own_i32 {i : Int32} {N : Nat} (hN : N < 2 ^ 31) (h0 : 0 ≤ i.toInt) (h1 : i.toInt < N) : ∃ k : Nat, k < N ∧ i = k.toInt32 := by
  refine ⟨i.toInt.toNat, by omega, Int32.toInt_inj.mp ?_⟩
  rw [len_toInt (by omega)]
  omega
theorem own_mod (x n : Int32) (N : Nat) (hN : n.toInt = N) (h : 0 < N) : ∃ k : Nat, k < N ∧ (x &&& (2147483647 : Int32)) % n = k.toInt32 := by
  have e1 : (x &&& (2147483647 : Int32)).toInt = x.toInt % 2 ^ 31 := Jvm.Kit.i32_mask x 2147483647 (k := 31) (by decide) (by decide)
  have e2 : ((x &&& (2147483647 : Int32)) % n).toInt = (x &&& (2147483647 : Int32)).toInt % n.toInt := Jvm.Kit.i32_rem_nonneg (by omega)
  have hlt := n.toInt_lt
  have h3 : 0 ≤ (x &&& (2147483647 : Int32)).toInt % n.toInt := Int.emod_nonneg _ (by omega)
  have h4 : (x &&& (2147483647 : Int32)).toInt % n.toInt < n.toInt := Int.emod_lt_of_pos _ (by omega)
  exact own_i32 (by omega) (by omega) (by omega)
theorem own_mask (x n : Int32) {k : Nat} (hk : k < 31) (hm : n.toBitVec.toNat = 2 ^ k - 1) : ∃ j : Nat, j < 2 ^ k ∧ x &&& n = j.toInt32 := by
  have e1 : (x &&& n).toInt = x.toInt % 2 ^ k := Jvm.Kit.i32_mask x n (k := k) (by omega) hm
  have hp : (2 : Nat) ^ k < 2 ^ 31 := Nat.pow_lt_pow_right (by decide) hk
  have hp1 : (0 : Int) < 2 ^ k := Int.pow_pos (by decide)
  have h3 : 0 ≤ x.toInt % 2 ^ k := Int.emod_nonneg _ (by omega)
  have h4 : x.toInt % 2 ^ k < 2 ^ k := Int.emod_lt_of_pos _ hp1
  refine own_i32 hp (by rw [e1]; exact h3) (by rw [e1]; push_cast; exact h4)
theorem own_lt_irrefl {a b : Int64} (h : a = b) : ¬ a < b ∧ ¬ b < a := by subst h; simp [Int64.lt_irrefl]
theorem own_lt_asymm {a b : Int64} (h : a < b) : ¬ b < a := Int64.lt_asymm h
theorem own_lt_total {a b : Int64} (h1 : ¬ a = b) (h2 : ¬ a < b) : b < a := by
  rw [Int64.lt_iff_toInt_lt] at h2 ⊢; rw [← Int64.toInt_inj] at h1; omega
def STA (Z : State) (h : Heap) (w : Nat → Addr) : Prop := Sta Z h "com/example/puzzled_pilot/puzzledpilot/model/Operator" "AND" "Lcom/example/puzzled_pilot/puzzledpilot/model/Operator;" (.ref (w 0)) ∧ Sta Z h "com/example/puzzled_pilot/puzzledpilot/model/Operator" "OR" "Lcom/example/puzzled_pilot/puzzledpilot/model/Operator;" (.ref (w 1)) ∧ Sta Z h "com/example/puzzled_pilot/puzzledpilot/model/Operator" "XOR" "Lcom/example/puzzled_pilot/puzzledpilot/model/Operator;" (.ref (w 2)) ∧ Sta Z h "com/example/puzzled_pilot/puzzledpilot/model/Operator" "IMPLIES" "Lcom/example/puzzled_pilot/puzzledpilot/model/Operator;" (.ref (w 3)) ∧ Sta Z h "com/example/puzzled_pilot/puzzledpilot/model/Operator" "IFF" "Lcom/example/puzzled_pilot/puzzledpilot/model/Operator;" (.ref (w 4)) ∧ Sta Z h "com/example/puzzled_pilot/puzzledpilot/model/Operator" "EQUAL" "Lcom/example/puzzled_pilot/puzzledpilot/model/Operator;" (.ref (w 5)) ∧ Sta Z h "com/example/puzzled_pilot/puzzledpilot/model/Operator" "NOT_EQUAL" "Lcom/example/puzzled_pilot/puzzledpilot/model/Operator;" (.ref (w 6)) ∧ Sta Z h "com/example/puzzled_pilot/puzzledpilot/model/Operator" "LESS" "Lcom/example/puzzled_pilot/puzzledpilot/model/Operator;" (.ref (w 7)) ∧ Sta Z h "com/example/puzzled_pilot/puzzledpilot/model/Operator" "LESS_OR_EQUAL" "Lcom/example/puzzled_pilot/puzzledpilot/model/Operator;" (.ref (w 8)) ∧ Sta Z h "com/example/puzzled_pilot/puzzledpilot/model/Operator" "GREATER" "Lcom/example/puzzled_pilot/puzzledpilot/model/Operator;" (.ref (w 9)) ∧ Sta Z h "com/example/puzzled_pilot/puzzledpilot/model/Operator" "GREATER_OR_EQUAL" "Lcom/example/puzzled_pilot/puzzledpilot/model/Operator;" (.ref (w 10)) ∧ Sta Z h "com/example/puzzled_pilot/puzzledpilot/model/Operator" "PLUS" "Lcom/example/puzzled_pilot/puzzledpilot/model/Operator;" (.ref (w 11)) ∧ Sta Z h "com/example/puzzled_pilot/puzzledpilot/model/Operator" "MINUS" "Lcom/example/puzzled_pilot/puzzledpilot/model/Operator;" (.ref (w 12)) ∧ Sta Z h "com/example/puzzled_pilot/puzzledpilot/model/Operator" "TIMES" "Lcom/example/puzzled_pilot/puzzledpilot/model/Operator;" (.ref (w 13)) ∧ Sta Z h "com/example/puzzled_pilot/puzzledpilot/model/Operator" "DIVIDE" "Lcom/example/puzzled_pilot/puzzledpilot/model/Operator;" (.ref (w 14)) ∧ Sta Z h "com/example/puzzled_pilot/puzzledpilot/model/Operator" "MODULO" "Lcom/example/puzzled_pilot/puzzledpilot/model/Operator;" (.ref (w 15))
def own_pk (i : Int32) : Nat := if i = 0 then 0 else if i = 1 then 1 else if i = 2 then 2 else if i = 3 then 3 else if i = 4 then 4 else if i = 5 then 5 else if i = 6 then 6 else if i = 7 then 7 else if i = 8 then 8 else if i = 9 then 9 else if i = 10 then 10 else if i = 11 then 11 else if i = 12 then 12 else if i = 13 then 13 else if i = 14 then 14 else 15
theorem own_pk_eq : ∀ k, k < 16 → own_pk k.toInt32 = k := by decide
def own_isc (w : Nat → Addr) (a : Addr) : Int32 := if a = w 0 then 1 else if a = w 1 then 1 else if a = w 2 then 1 else if a = w 3 then 1 else if a = w 4 then 1 else 0
theorem own_isc_eq {w : Nat → Addr} (INJ : ∀ i j, i < 16 → j < 16 → w i = w j → i = j) {k : Nat} (hk : k < 16) : own_isc w (w k) = if k < 5 then 1 else 0 := by
  have e : ∀ j, j < 16 → ((w k = w j) = (k = j)) := fun j hj => propext ⟨INJ k j hk hj, fun q => by rw [q]⟩
  rw [own_isc]
  simp only [e 0 (by decide), e 1 (by decide), e 2 (by decide), e 3 (by decide), e 4 (by decide)]
  clear e
  revert k
  decide
def own_ap (k : Nat) (a b : Int64) : Int64 := match k with
  | 0 => a &&& b
  | 1 => a ||| b
  | 2 => a ^^^ b
  | 3 => (1 - a) ||| b
  | 4 => if a = b then 1 else 0
  | 5 => if a = b then 1 else 0
  | 6 => if a = b then 0 else 1
  | 7 => if a < b then 1 else 0
  | 8 => if b < a then 0 else 1
  | 9 => if b < a then 1 else 0
  | 10 => if a < b then 0 else 1
  | _ => 0
theorem own_c11 {k : Nat} (h : k < 11) : k = 0 ∨ k = 1 ∨ k = 2 ∨ k = 3 ∨ k = 4 ∨ k = 5 ∨ k = 6 ∨ k = 7 ∨ k = 8 ∨ k = 9 ∨ k = 10 := by omega
theorem own_c5 {k : Nat} (h : k < 5) : k = 0 ∨ k = 1 ∨ k = 2 ∨ k = 3 ∨ k = 4 := by omega
def own_db (w : Nat → Addr) (a : Addr) (l : Int64) : Int32 := if l = 0 then (if a = w 0 then 1 else if a = w 3 then 1 else if l = 1 then (if a = w 1 then 1 else 0) else 0) else if l = 1 then (if a = w 1 then 1 else 0) else 0
def own_dk (k : Nat) (l : Int64) : Int32 := if l = 0 then (if k = 0 then 1 else if k = 3 then 1 else if l = 1 then (if k = 1 then 1 else 0) else 0) else if l = 1 then (if k = 1 then 1 else 0) else 0
theorem own_db_eq {w : Nat → Addr} (INJ : ∀ i j, i < 16 → j < 16 → w i = w j → i = j) {k : Nat} (hk : k < 16) (l : Int64) : own_db w (w k) l = own_dk k l := by
  have e : ∀ j, j < 16 → ((w k = w j) = (k = j)) := fun j hj => propext ⟨INJ k j hk hj, fun q => by rw [q]⟩
  rw [own_db, own_dk]
  simp only [e 0 (by decide), e 1 (by decide), e 3 (by decide)]
theorem own_dk_off {k : Nat} (hk : ¬ k < 5) (l : Int64) : own_dk k l = 0 := by
  rw [own_dk, if_neg (by omega : ¬ k = 0), if_neg (by omega : ¬ k = 3), if_neg (by omega : ¬ k = 1)]
  split <;> (try split) <;> rfl
theorem own_dk_other (k : Nat) {l : Int64} (h0 : ¬ l = 0) (h1 : ¬ l = 1) : own_dk k l = 0 := by
  rw [own_dk, if_neg h0, if_neg h1]
theorem own_dk_zero : ∀ k, k < 5 → own_dk k 0 = if own_ap k 0 0 = own_ap k 0 1 then 1 else 0 := by decide
theorem own_dk_one : ∀ k, k < 5 → own_dk k 1 = if own_ap k 1 0 = own_ap k 1 1 then 1 else 0 := by decide
theorem own_fin0n (k : Nat) (hk : k < 5) {l : Int64} (hl : l = 0) (h : ¬ (own_ap k l (0 : Int64) = own_ap k l (1 : Int64))) : own_dk k l = 0 := by
  subst hl; rw [own_dk_zero k hk, if_neg h]
theorem own_fin0p (k : Nat) (hk : k < 5) {l : Int64} (hl : l = 0) (h : (own_ap k l (0 : Int64) = own_ap k l (1 : Int64))) : own_dk k l = 1 := by
  subst hl; rw [own_dk_zero k hk, if_pos h]
theorem own_fin1n (k : Nat) (hk : k < 5) {l : Int64} (hl : l = 1) (h : ¬ (own_ap k l (0 : Int64) = own_ap k l (1 : Int64))) : own_dk k l = 0 := by
  subst hl; rw [own_dk_one k hk, if_neg h]
theorem own_fin1p (k : Nat) (hk : k < 5) {l : Int64} (hl : l = 1) (h : (own_ap k l (0 : Int64) = own_ap k l (1 : Int64))) : own_dk k l = 1 := by
  subst hl; rw [own_dk_one k hk, if_pos h]
theorem own_pd_0 : parseMethodDescriptor "()I" = some ⟨[], some .int⟩ := by decide +kernel
theorem own_pd_1 : parseMethodDescriptor "(I)Lcom/example/puzzled_pilot/puzzledpilot/model/Operator;" = some ⟨[.int], some (.object "com/example/puzzled_pilot/puzzledpilot/model/Operator")⟩ := by decide +kernel
theorem own_pd_2 : parseMethodDescriptor "(J)Z" = some ⟨[.long], some .boolean⟩ := by decide +kernel
theorem own_pd_3 : parseMethodDescriptor "()Z" = some ⟨[], some .boolean⟩ := by decide +kernel
theorem own_pd_4 : parseMethodDescriptor "(JJ)J" = some ⟨[.long, .long], some .long⟩ := by decide +kernel
theorem own_d1_0 : decode method_3_code 0 = .ok (.iload_n 0, 1) := by decide +kernel
theorem own_d1_1 : decode method_3_code 1 = .ok (.ifCond .ne 7, 3) := by decide +kernel
theorem own_d1_4 : decode method_3_code 4 = .ok (.getstatic 29, 3) := by decide +kernel
theorem own_d1_7 : decode method_3_code 7 = .ok (.areturn, 1) := by decide +kernel
theorem own_d1_8 : decode method_3_code 8 = .ok (.iload_n 0, 1) := by decide +kernel
theorem own_d1_9 : decode method_3_code 9 = .ok (.iconst 1, 1) := by decide +kernel
theorem own_d1_10 : decode method_3_code 10 = .ok (.if_icmp .ne 7, 3) := by decide +kernel
theorem own_d1_13 : decode method_3_code 13 = .ok (.getstatic 33, 3) := by decide +kernel
theorem own_d1_16 : decode method_3_code 16 = .ok (.areturn, 1) := by decide +kernel
theorem own_d1_17 : decode method_3_code 17 = .ok (.iload_n 0, 1) := by decide +kernel
theorem own_d1_18 : decode method_3_code 18 = .ok (.iconst 2, 1) := by decide +kernel
theorem own_d1_19 : decode method_3_code 19 = .ok (.if_icmp .ne 7, 3) := by decide +kernel
theorem own_d1_22 : decode method_3_code 22 = .ok (.getstatic 36, 3) := by decide +kernel
theorem own_d1_25 : decode method_3_code 25 = .ok (.areturn, 1) := by decide +kernel
theorem own_d1_26 : decode method_3_code 26 = .ok (.iload_n 0, 1) := by decide +kernel
theorem own_d1_27 : decode method_3_code 27 = .ok (.iconst 3, 1) := by decide +kernel
theorem own_d1_28 : decode method_3_code 28 = .ok (.if_icmp .ne 7, 3) := by decide +kernel
theorem own_d1_31 : decode method_3_code 31 = .ok (.getstatic 39, 3) := by decide +kernel
theorem own_d1_34 : decode method_3_code 34 = .ok (.areturn, 1) := by decide +kernel
theorem own_d1_35 : decode method_3_code 35 = .ok (.iload_n 0, 1) := by decide +kernel
theorem own_d1_36 : decode method_3_code 36 = .ok (.iconst 4, 1) := by decide +kernel
theorem own_d1_37 : decode method_3_code 37 = .ok (.if_icmp .ne 7, 3) := by decide +kernel
theorem own_d1_40 : decode method_3_code 40 = .ok (.getstatic 42, 3) := by decide +kernel
theorem own_d1_43 : decode method_3_code 43 = .ok (.areturn, 1) := by decide +kernel
theorem own_d1_44 : decode method_3_code 44 = .ok (.iload_n 0, 1) := by decide +kernel
theorem own_d1_45 : decode method_3_code 45 = .ok (.iconst 5, 1) := by decide +kernel
theorem own_d1_46 : decode method_3_code 46 = .ok (.if_icmp .ne 7, 3) := by decide +kernel
theorem own_d1_49 : decode method_3_code 49 = .ok (.getstatic 45, 3) := by decide +kernel
theorem own_d1_52 : decode method_3_code 52 = .ok (.areturn, 1) := by decide +kernel
theorem own_d1_53 : decode method_3_code 53 = .ok (.iload_n 0, 1) := by decide +kernel
theorem own_d1_54 : decode method_3_code 54 = .ok (.bipush 6, 2) := by decide +kernel
theorem own_d1_56 : decode method_3_code 56 = .ok (.if_icmp .ne 7, 3) := by decide +kernel
theorem own_d1_59 : decode method_3_code 59 = .ok (.getstatic 48, 3) := by decide +kernel
theorem own_d1_62 : decode method_3_code 62 = .ok (.areturn, 1) := by decide +kernel
theorem own_d1_63 : decode method_3_code 63 = .ok (.iload_n 0, 1) := by decide +kernel
theorem own_d1_64 : decode method_3_code 64 = .ok (.bipush 7, 2) := by decide +kernel
theorem own_d1_66 : decode method_3_code 66 = .ok (.if_icmp .ne 7, 3) := by decide +kernel
theorem own_d1_69 : decode method_3_code 69 = .ok (.getstatic 51, 3) := by decide +kernel
theorem own_d1_72 : decode method_3_code 72 = .ok (.areturn, 1) := by decide +kernel
theorem own_d1_73 : decode method_3_code 73 = .ok (.iload_n 0, 1) := by decide +kernel
theorem own_d1_74 : decode method_3_code 74 = .ok (.bipush 8, 2) := by decide +kernel
theorem own_d1_76 : decode method_3_code 76 = .ok (.if_icmp .ne 7, 3) := by decide +kernel
theorem own_d1_79 : decode method_3_code 79 = .ok (.getstatic 54, 3) := by decide +kernel
theorem own_d1_82 : decode method_3_code 82 = .ok (.areturn, 1) := by decide +kernel
theorem own_d1_83 : decode method_3_code 83 = .ok (.iload_n 0, 1) := by decide +kernel
theorem own_d1_84 : decode method_3_code 84 = .ok (.bipush 9, 2) := by decide +kernel
theorem own_d1_86 : decode method_3_code 86 = .ok (.if_icmp .ne 7, 3) := by decide +kernel
theorem own_d1_89 : decode method_3_code 89 = .ok (.getstatic 57, 3) := by decide +kernel
theorem own_d1_92 : decode method_3_code 92 = .ok (.areturn, 1) := by decide +kernel
theorem own_d1_93 : decode method_3_code 93 = .ok (.iload_n 0, 1) := by decide +kernel
theorem own_d1_94 : decode method_3_code 94 = .ok (.bipush 10, 2) := by decide +kernel
theorem own_d1_96 : decode method_3_code 96 = .ok (.if_icmp .ne 7, 3) := by decide +kernel
theorem own_d1_99 : decode method_3_code 99 = .ok (.getstatic 60, 3) := by decide +kernel
theorem own_d1_102 : decode method_3_code 102 = .ok (.areturn, 1) := by decide +kernel
theorem own_d1_103 : decode method_3_code 103 = .ok (.iload_n 0, 1) := by decide +kernel
theorem own_d1_104 : decode method_3_code 104 = .ok (.bipush 11, 2) := by decide +kernel
theorem own_d1_106 : decode method_3_code 106 = .ok (.if_icmp .ne 7, 3) := by decide +kernel
theorem own_d1_109 : decode method_3_code 109 = .ok (.getstatic 63, 3) := by decide +kernel
theorem own_d1_112 : decode method_3_code 112 = .ok (.areturn, 1) := by decide +kernel
theorem own_d1_113 : decode method_3_code 113 = .ok (.iload_n 0, 1) := by decide +kernel
theorem own_d1_114 : decode method_3_code 114 = .ok (.bipush 12, 2) := by decide +kernel
theorem own_d1_116 : decode method_3_code 116 = .ok (.if_icmp .ne 7, 3) := by decide +kernel
theorem own_d1_119 : decode method_3_code 119 = .ok (.getstatic 66, 3) := by decide +kernel
theorem own_d1_122 : decode method_3_code 122 = .ok (.areturn, 1) := by decide +kernel
theorem own_d1_123 : decode method_3_code 123 = .ok (.iload_n 0, 1) := by decide +kernel
theorem own_d1_124 : decode method_3_code 124 = .ok (.bipush 13, 2) := by decide +kernel
theorem own_d1_126 : decode method_3_code 126 = .ok (.if_icmp .ne 7, 3) := by decide +kernel
theorem own_d1_129 : decode method_3_code 129 = .ok (.getstatic 69, 3) := by decide +kernel
theorem own_d1_132 : decode method_3_code 132 = .ok (.areturn, 1) := by decide +kernel
theorem own_d1_133 : decode method_3_code 133 = .ok (.iload_n 0, 1) := by decide +kernel
theorem own_d1_134 : decode method_3_code 134 = .ok (.bipush 14, 2) := by decide +kernel
theorem own_d1_136 : decode method_3_code 136 = .ok (.if_icmp .ne 7, 3) := by decide +kernel
theorem own_d1_139 : decode method_3_code 139 = .ok (.getstatic 72, 3) := by decide +kernel
theorem own_d1_142 : decode method_3_code 142 = .ok (.areturn, 1) := by decide +kernel
theorem own_d1_143 : decode method_3_code 143 = .ok (.getstatic 75, 3) := by decide +kernel
theorem own_d1_146 : decode method_3_code 146 = .ok (.areturn, 1) := by decide +kernel
set_option maxRecDepth 65536 in
set_option maxHeartbeats 40000000 in
theorem rm_pick (l : Launch) (Z : State) (a0 : Array Value) (hw : ∀ d ∈ tables_1, d.before a0 Z = true) (ws : List Jvm.Cond) (x0 : Int32) (w : Nat → Addr) (h0 : Heap) (n0 : Nat) (Z0 : n0 ≤ h0.size) (ST : STA Z h0 w) :
    MetFree l (⟨"com/example/puzzled_pilot/puzzledpilot/model/OperatorIsDecidedByPinLaw", "pick", "(I)Lcom/example/puzzled_pilot/puzzledpilot/model/Operator;"⟩ : MethodName) (head1 (Jvm.Cond.code (⟨"com/example/puzzled_pilot/puzzledpilot/model/OperatorIsDecidedByPinLaw", "pick", "(I)Lcom/example/puzzled_pilot/puzzledpilot/model/Operator;"⟩ : MethodName) method_3_code 1 (some (.object "com/example/puzzled_pilot/puzzledpilot/model/Operator")) :: ws) ({ frames := 0, cells := 0, slots := 0, locals := 0 } : Room)) (fun a U => a = #[(.int x0)] ∧ Z.Warmed39 U.vm ∧ U.heap = h0) (fun _ _ _ _ _ => True) (fun _ U o U' => ∃ v L, o = .returned v ∧ QP (.ref (w (own_pk x0))) h0 n0 v U'.heap L ∧ FrameEnd U o U' L ({ frames := 0, cells := 0, slots := 0, locals := 0 } : Room).cells ({ frames := 0, cells := 0, slots := 0, locals := 0 } : Room).slots) := by
  refine MetFree.of_bodySF (plainFor_of_name (by first | (simp [plainName, overriddenIn]; done) | decide +kernel)) hisR ?_
  intro p e s m args below meth c s₁ Bd hml0 hP hK
  obtain ⟨rfl, hZ, hh⟩ := hP
  have hx := Bd.exec
  have hby := Bd.bytes
  have hml : c.maxLocals = 1 := hml0
  have hown : s.vm.findClass "com/example/puzzled_pilot/puzzledpilot/model/OperatorIsDecidedByPinLaw" = some m.cls := findClass_of_methodNamed Bd.named
  have hnm := (name_of_methodNamed Bd.named Bd.method).1
  have X0 : Stand p l e ({ frames := 0, cells := 0, slots := 0, locals := 0 } : Room) s m #[(.int x0)] below meth c s₁ [] 0 0 := Stand.of_body Bd
  have e0 : s₁.heap = h0 := by rw [← hh, Bd.state]; rfl
  have N0 := Fr.nil n0
  have ef0 : entryFrame m #[(.int x0)] 1 = mkF m 0 #[.val (.int x0)] [] := by first | (simp [entryFrame, mkF, argsToLocals, Value.category, maxLocals]; done) | rfl
  have pre0 : ∀ t, Steps p.tables e below (s₁.setTop (mkF m 0 #[.val (.int x0)] [])) t → Steps p.tables e below (s₁.setTop (entryFrame m #[(.int x0)] 1)) t := fun t k => castTop ef0 k
  have pre1 : ∀ t, Steps p.tables e below (s₁.setTop (mkF m 1 #[.val (.int x0)] [(.int x0)])) t → Steps p.tables e below (s₁.setTop (entryFrame m #[(.int x0)] 1)) t := fun tt kk => pre0 tt (by
    show Steps p.tables e below (s₁.setTop (mkF m 0 #[.val (.int x0)] [])) _
    refine XS.iloadN X0.here hx rfl (hb hby own_d1_0) rfl ?_
    exact kk)
  by_cases hc1 : x0 = (0 : Int32)
  · obtain ⟨T2, X2, e2, st2⟩ := getS2 X0 hx hZ hown (host := "") (Or.inl (hw _ (List.mem_of_getElem? (i := 4) rfl))) Via.refl e0 ST.1 (g := (mkF m 4 #[.val (.int x0)] [])) rfl (hb hby own_d1_4)
    obtain ⟨fs, hr, hrun, hended, hW, hsame⟩ := X2.leave (v := some (.ref (w 0))) (fun h => by rw [Bd.returns] at h; cases h)
    refine ⟨_, _, pre1 _ ?_, hrun, hended, _, _, rfl, ?_, ⟨_, rfl⟩, hW, hsame.mono (by decide) (by decide)⟩
    · show Steps p.tables e below (s₁.setTop (mkF m 1 #[.val (.int x0)] [(.int x0)])) _
      refine XS.ifNo X0.here hx rfl (hb hby own_d1_1) rfl ((if0 _ _).trans (teq hc1).2) ?_
      show Steps p.tables e below (s₁.setTop (mkF m 4 #[.val (.int x0)] [])) _
      refine st2 _ ?_
      show Steps p.tables e below (T2.setTop (mkF m 7 #[.val (.int x0)] [(.ref (w 0))])) _
      exact retOut X2 hx Bd.returns rfl (Or.inr (Or.inr (Or.inr (Or.inr ⟨rfl, rfl, rfl⟩)))) (hb hby own_d1_7) hr
    · show QP (.ref (w (own_pk x0))) h0 n0 _ T2.heap _
      rw [e2]
      exact ⟨by rw [own_pk, if_pos hc1], N0, rfl⟩
  · have pre3 : ∀ t, Steps p.tables e below (s₁.setTop (mkF m 10 #[.val (.int x0)] [(.int (1 : Int32)), (.int x0)])) t → Steps p.tables e below (s₁.setTop (entryFrame m #[(.int x0)] 1)) t := fun tt kk => pre1 tt (by
      show Steps p.tables e below (s₁.setTop (mkF m 1 #[.val (.int x0)] [(.int x0)])) _
      refine XS.ifYes X0.here hx rfl (pc0 := 1) (pc' := 8) rfl (hb hby own_d1_1) rfl ((if0 _ _).trans (feq hc1).2) (by decide) (by decide) ?_
      show Steps p.tables e below (s₁.setTop (mkF m 8 #[.val (.int x0)] [])) _
      refine XS.iloadN X0.here hx rfl (hb hby own_d1_8) rfl ?_
      show Steps p.tables e below (s₁.setTop (mkF m 9 #[.val (.int x0)] [(.int x0)])) _
      refine XS.iconst X0.here hx rfl (hb hby own_d1_9) ?_
      exact kk)
    by_cases hc10 : x0 = (1 : Int32)
    · obtain ⟨T4, X4, e4, st4⟩ := getS2 X0 hx hZ hown (host := "") (Or.inl (hw _ (List.mem_of_getElem? (i := 56) rfl))) Via.refl e0 ST.2.1 (g := (mkF m 13 #[.val (.int x0)] [])) rfl (hb hby own_d1_13)
      obtain ⟨fs, hr, hrun, hended, hW, hsame⟩ := X4.leave (v := some (.ref (w 1))) (fun h => by rw [Bd.returns] at h; cases h)
      refine ⟨_, _, pre3 _ ?_, hrun, hended, _, _, rfl, ?_, ⟨_, rfl⟩, hW, hsame.mono (by decide) (by decide)⟩
      · show Steps p.tables e below (s₁.setTop (mkF m 10 #[.val (.int x0)] [(.int (1 : Int32)), (.int x0)])) _
        refine XS.icmpNo X0.here hx rfl (hb hby own_d1_10) rfl (teq hc10).2 ?_
        show Steps p.tables e below (s₁.setTop (mkF m 13 #[.val (.int x0)] [])) _
        refine st4 _ ?_
        show Steps p.tables e below (T4.setTop (mkF m 16 #[.val (.int x0)] [(.ref (w 1))])) _
        exact retOut X4 hx Bd.returns rfl (Or.inr (Or.inr (Or.inr (Or.inr ⟨rfl, rfl, rfl⟩)))) (hb hby own_d1_16) hr
      · show QP (.ref (w (own_pk x0))) h0 n0 _ T4.heap _
        rw [e4]
        exact ⟨by rw [own_pk, if_neg hc1, if_pos hc10], N0, rfl⟩
    · have pre5 : ∀ t, Steps p.tables e below (s₁.setTop (mkF m 19 #[.val (.int x0)] [(.int (2 : Int32)), (.int x0)])) t → Steps p.tables e below (s₁.setTop (entryFrame m #[(.int x0)] 1)) t := fun tt kk => pre3 tt (by
        show Steps p.tables e below (s₁.setTop (mkF m 10 #[.val (.int x0)] [(.int (1 : Int32)), (.int x0)])) _
        refine XS.icmpYes X0.here hx rfl (pc0 := 10) (pc' := 17) rfl (hb hby own_d1_10) rfl (feq hc10).2 (by decide) (by decide) ?_
        show Steps p.tables e below (s₁.setTop (mkF m 17 #[.val (.int x0)] [])) _
        refine XS.iloadN X0.here hx rfl (hb hby own_d1_17) rfl ?_
        show Steps p.tables e below (s₁.setTop (mkF m 18 #[.val (.int x0)] [(.int x0)])) _
        refine XS.iconst X0.here hx rfl (hb hby own_d1_18) ?_
        exact kk)
      by_cases hc19 : x0 = (2 : Int32)
      · obtain ⟨T6, X6, e6, st6⟩ := getS2 X0 hx hZ hown (host := "") (Or.inl (hw _ (List.mem_of_getElem? (i := 57) rfl))) Via.refl e0 ST.2.2.1 (g := (mkF m 22 #[.val (.int x0)] [])) rfl (hb hby own_d1_22)
        obtain ⟨fs, hr, hrun, hended, hW, hsame⟩ := X6.leave (v := some (.ref (w 2))) (fun h => by rw [Bd.returns] at h; cases h)
        refine ⟨_, _, pre5 _ ?_, hrun, hended, _, _, rfl, ?_, ⟨_, rfl⟩, hW, hsame.mono (by decide) (by decide)⟩
        · show Steps p.tables e below (s₁.setTop (mkF m 19 #[.val (.int x0)] [(.int (2 : Int32)), (.int x0)])) _
          refine XS.icmpNo X0.here hx rfl (hb hby own_d1_19) rfl (teq hc19).2 ?_
          show Steps p.tables e below (s₁.setTop (mkF m 22 #[.val (.int x0)] [])) _
          refine st6 _ ?_
          show Steps p.tables e below (T6.setTop (mkF m 25 #[.val (.int x0)] [(.ref (w 2))])) _
          exact retOut X6 hx Bd.returns rfl (Or.inr (Or.inr (Or.inr (Or.inr ⟨rfl, rfl, rfl⟩)))) (hb hby own_d1_25) hr
        · show QP (.ref (w (own_pk x0))) h0 n0 _ T6.heap _
          rw [e6]
          exact ⟨by rw [own_pk, if_neg hc1, if_neg hc10, if_pos hc19], N0, rfl⟩
      · have pre7 : ∀ t, Steps p.tables e below (s₁.setTop (mkF m 28 #[.val (.int x0)] [(.int (3 : Int32)), (.int x0)])) t → Steps p.tables e below (s₁.setTop (entryFrame m #[(.int x0)] 1)) t := fun tt kk => pre5 tt (by
          show Steps p.tables e below (s₁.setTop (mkF m 19 #[.val (.int x0)] [(.int (2 : Int32)), (.int x0)])) _
          refine XS.icmpYes X0.here hx rfl (pc0 := 19) (pc' := 26) rfl (hb hby own_d1_19) rfl (feq hc19).2 (by decide) (by decide) ?_
          show Steps p.tables e below (s₁.setTop (mkF m 26 #[.val (.int x0)] [])) _
          refine XS.iloadN X0.here hx rfl (hb hby own_d1_26) rfl ?_
          show Steps p.tables e below (s₁.setTop (mkF m 27 #[.val (.int x0)] [(.int x0)])) _
          refine XS.iconst X0.here hx rfl (hb hby own_d1_27) ?_
          exact kk)
        by_cases hc28 : x0 = (3 : Int32)
        · obtain ⟨T8, X8, e8, st8⟩ := getS2 X0 hx hZ hown (host := "") (Or.inl (hw _ (List.mem_of_getElem? (i := 58) rfl))) Via.refl e0 ST.2.2.2.1 (g := (mkF m 31 #[.val (.int x0)] [])) rfl (hb hby own_d1_31)
          obtain ⟨fs, hr, hrun, hended, hW, hsame⟩ := X8.leave (v := some (.ref (w 3))) (fun h => by rw [Bd.returns] at h; cases h)
          refine ⟨_, _, pre7 _ ?_, hrun, hended, _, _, rfl, ?_, ⟨_, rfl⟩, hW, hsame.mono (by decide) (by decide)⟩
          · show Steps p.tables e below (s₁.setTop (mkF m 28 #[.val (.int x0)] [(.int (3 : Int32)), (.int x0)])) _
            refine XS.icmpNo X0.here hx rfl (hb hby own_d1_28) rfl (teq hc28).2 ?_
            show Steps p.tables e below (s₁.setTop (mkF m 31 #[.val (.int x0)] [])) _
            refine st8 _ ?_
            show Steps p.tables e below (T8.setTop (mkF m 34 #[.val (.int x0)] [(.ref (w 3))])) _
            exact retOut X8 hx Bd.returns rfl (Or.inr (Or.inr (Or.inr (Or.inr ⟨rfl, rfl, rfl⟩)))) (hb hby own_d1_34) hr
          · show QP (.ref (w (own_pk x0))) h0 n0 _ T8.heap _
            rw [e8]
            exact ⟨by rw [own_pk, if_neg hc1, if_neg hc10, if_neg hc19, if_pos hc28], N0, rfl⟩
        · have pre9 : ∀ t, Steps p.tables e below (s₁.setTop (mkF m 37 #[.val (.int x0)] [(.int (4 : Int32)), (.int x0)])) t → Steps p.tables e below (s₁.setTop (entryFrame m #[(.int x0)] 1)) t := fun tt kk => pre7 tt (by
            show Steps p.tables e below (s₁.setTop (mkF m 28 #[.val (.int x0)] [(.int (3 : Int32)), (.int x0)])) _
            refine XS.icmpYes X0.here hx rfl (pc0 := 28) (pc' := 35) rfl (hb hby own_d1_28) rfl (feq hc28).2 (by decide) (by decide) ?_
            show Steps p.tables e below (s₁.setTop (mkF m 35 #[.val (.int x0)] [])) _
            refine XS.iloadN X0.here hx rfl (hb hby own_d1_35) rfl ?_
            show Steps p.tables e below (s₁.setTop (mkF m 36 #[.val (.int x0)] [(.int x0)])) _
            refine XS.iconst X0.here hx rfl (hb hby own_d1_36) ?_
            exact kk)
          by_cases hc37 : x0 = (4 : Int32)
          · obtain ⟨T10, X10, e10, st10⟩ := getS2 X0 hx hZ hown (host := "") (Or.inl (hw _ (List.mem_of_getElem? (i := 53) rfl))) Via.refl e0 ST.2.2.2.2.1 (g := (mkF m 40 #[.val (.int x0)] [])) rfl (hb hby own_d1_40)
            obtain ⟨fs, hr, hrun, hended, hW, hsame⟩ := X10.leave (v := some (.ref (w 4))) (fun h => by rw [Bd.returns] at h; cases h)
            refine ⟨_, _, pre9 _ ?_, hrun, hended, _, _, rfl, ?_, ⟨_, rfl⟩, hW, hsame.mono (by decide) (by decide)⟩
            · show Steps p.tables e below (s₁.setTop (mkF m 37 #[.val (.int x0)] [(.int (4 : Int32)), (.int x0)])) _
              refine XS.icmpNo X0.here hx rfl (hb hby own_d1_37) rfl (teq hc37).2 ?_
              show Steps p.tables e below (s₁.setTop (mkF m 40 #[.val (.int x0)] [])) _
              refine st10 _ ?_
              show Steps p.tables e below (T10.setTop (mkF m 43 #[.val (.int x0)] [(.ref (w 4))])) _
              exact retOut X10 hx Bd.returns rfl (Or.inr (Or.inr (Or.inr (Or.inr ⟨rfl, rfl, rfl⟩)))) (hb hby own_d1_43) hr
            · show QP (.ref (w (own_pk x0))) h0 n0 _ T10.heap _
              rw [e10]
              exact ⟨by rw [own_pk, if_neg hc1, if_neg hc10, if_neg hc19, if_neg hc28, if_pos hc37], N0, rfl⟩
          · have pre11 : ∀ t, Steps p.tables e below (s₁.setTop (mkF m 46 #[.val (.int x0)] [(.int (5 : Int32)), (.int x0)])) t → Steps p.tables e below (s₁.setTop (entryFrame m #[(.int x0)] 1)) t := fun tt kk => pre9 tt (by
              show Steps p.tables e below (s₁.setTop (mkF m 37 #[.val (.int x0)] [(.int (4 : Int32)), (.int x0)])) _
              refine XS.icmpYes X0.here hx rfl (pc0 := 37) (pc' := 44) rfl (hb hby own_d1_37) rfl (feq hc37).2 (by decide) (by decide) ?_
              show Steps p.tables e below (s₁.setTop (mkF m 44 #[.val (.int x0)] [])) _
              refine XS.iloadN X0.here hx rfl (hb hby own_d1_44) rfl ?_
              show Steps p.tables e below (s₁.setTop (mkF m 45 #[.val (.int x0)] [(.int x0)])) _
              refine XS.iconst X0.here hx rfl (hb hby own_d1_45) ?_
              exact kk)
            by_cases hc46 : x0 = (5 : Int32)
            · obtain ⟨T12, X12, e12, st12⟩ := getS2 X0 hx hZ hown (host := "") (Or.inl (hw _ (List.mem_of_getElem? (i := 61) rfl))) Via.refl e0 ST.2.2.2.2.2.1 (g := (mkF m 49 #[.val (.int x0)] [])) rfl (hb hby own_d1_49)
              obtain ⟨fs, hr, hrun, hended, hW, hsame⟩ := X12.leave (v := some (.ref (w 5))) (fun h => by rw [Bd.returns] at h; cases h)
              refine ⟨_, _, pre11 _ ?_, hrun, hended, _, _, rfl, ?_, ⟨_, rfl⟩, hW, hsame.mono (by decide) (by decide)⟩
              · show Steps p.tables e below (s₁.setTop (mkF m 46 #[.val (.int x0)] [(.int (5 : Int32)), (.int x0)])) _
                refine XS.icmpNo X0.here hx rfl (hb hby own_d1_46) rfl (teq hc46).2 ?_
                show Steps p.tables e below (s₁.setTop (mkF m 49 #[.val (.int x0)] [])) _
                refine st12 _ ?_
                show Steps p.tables e below (T12.setTop (mkF m 52 #[.val (.int x0)] [(.ref (w 5))])) _
                exact retOut X12 hx Bd.returns rfl (Or.inr (Or.inr (Or.inr (Or.inr ⟨rfl, rfl, rfl⟩)))) (hb hby own_d1_52) hr
              · show QP (.ref (w (own_pk x0))) h0 n0 _ T12.heap _
                rw [e12]
                exact ⟨by rw [own_pk, if_neg hc1, if_neg hc10, if_neg hc19, if_neg hc28, if_neg hc37, if_pos hc46], N0, rfl⟩
            · have pre13 : ∀ t, Steps p.tables e below (s₁.setTop (mkF m 56 #[.val (.int x0)] [(.int (6 : Int32)), (.int x0)])) t → Steps p.tables e below (s₁.setTop (entryFrame m #[(.int x0)] 1)) t := fun tt kk => pre11 tt (by
                show Steps p.tables e below (s₁.setTop (mkF m 46 #[.val (.int x0)] [(.int (5 : Int32)), (.int x0)])) _
                refine XS.icmpYes X0.here hx rfl (pc0 := 46) (pc' := 53) rfl (hb hby own_d1_46) rfl (feq hc46).2 (by decide) (by decide) ?_
                show Steps p.tables e below (s₁.setTop (mkF m 53 #[.val (.int x0)] [])) _
                refine XS.iloadN X0.here hx rfl (hb hby own_d1_53) rfl ?_
                show Steps p.tables e below (s₁.setTop (mkF m 54 #[.val (.int x0)] [(.int x0)])) _
                refine XS.bipush X0.here hx rfl (hb hby own_d1_54) ?_
                exact kk)
              by_cases hc56 : x0 = (6 : Int32)
              · obtain ⟨T14, X14, e14, st14⟩ := getS2 X0 hx hZ hown (host := "") (Or.inl (hw _ (List.mem_of_getElem? (i := 38) rfl))) Via.refl e0 ST.2.2.2.2.2.2.1 (g := (mkF m 59 #[.val (.int x0)] [])) rfl (hb hby own_d1_59)
                obtain ⟨fs, hr, hrun, hended, hW, hsame⟩ := X14.leave (v := some (.ref (w 6))) (fun h => by rw [Bd.returns] at h; cases h)
                refine ⟨_, _, pre13 _ ?_, hrun, hended, _, _, rfl, ?_, ⟨_, rfl⟩, hW, hsame.mono (by decide) (by decide)⟩
                · show Steps p.tables e below (s₁.setTop (mkF m 56 #[.val (.int x0)] [(.int (6 : Int32)), (.int x0)])) _
                  refine XS.icmpNo X0.here hx rfl (hb hby own_d1_56) rfl (teq hc56).2 ?_
                  show Steps p.tables e below (s₁.setTop (mkF m 59 #[.val (.int x0)] [])) _
                  refine st14 _ ?_
                  show Steps p.tables e below (T14.setTop (mkF m 62 #[.val (.int x0)] [(.ref (w 6))])) _
                  exact retOut X14 hx Bd.returns rfl (Or.inr (Or.inr (Or.inr (Or.inr ⟨rfl, rfl, rfl⟩)))) (hb hby own_d1_62) hr
                · show QP (.ref (w (own_pk x0))) h0 n0 _ T14.heap _
                  rw [e14]
                  exact ⟨by rw [own_pk, if_neg hc1, if_neg hc10, if_neg hc19, if_neg hc28, if_neg hc37, if_neg hc46, if_pos hc56], N0, rfl⟩
              · have pre15 : ∀ t, Steps p.tables e below (s₁.setTop (mkF m 66 #[.val (.int x0)] [(.int (7 : Int32)), (.int x0)])) t → Steps p.tables e below (s₁.setTop (entryFrame m #[(.int x0)] 1)) t := fun tt kk => pre13 tt (by
                  show Steps p.tables e below (s₁.setTop (mkF m 56 #[.val (.int x0)] [(.int (6 : Int32)), (.int x0)])) _
                  refine XS.icmpYes X0.here hx rfl (pc0 := 56) (pc' := 63) rfl (hb hby own_d1_56) rfl (feq hc56).2 (by decide) (by decide) ?_
                  show Steps p.tables e below (s₁.setTop (mkF m 63 #[.val (.int x0)] [])) _
                  refine XS.iloadN X0.here hx rfl (hb hby own_d1_63) rfl ?_
                  show Steps p.tables e below (s₁.setTop (mkF m 64 #[.val (.int x0)] [(.int x0)])) _
                  refine XS.bipush X0.here hx rfl (hb hby own_d1_64) ?_
                  exact kk)
                by_cases hc66 : x0 = (7 : Int32)
                · obtain ⟨T16, X16, e16, st16⟩ := getS2 X0 hx hZ hown (host := "") (Or.inl (hw _ (List.mem_of_getElem? (i := 54) rfl))) Via.refl e0 ST.2.2.2.2.2.2.2.1 (g := (mkF m 69 #[.val (.int x0)] [])) rfl (hb hby own_d1_69)
                  obtain ⟨fs, hr, hrun, hended, hW, hsame⟩ := X16.leave (v := some (.ref (w 7))) (fun h => by rw [Bd.returns] at h; cases h)
                  refine ⟨_, _, pre15 _ ?_, hrun, hended, _, _, rfl, ?_, ⟨_, rfl⟩, hW, hsame.mono (by decide) (by decide)⟩
                  · show Steps p.tables e below (s₁.setTop (mkF m 66 #[.val (.int x0)] [(.int (7 : Int32)), (.int x0)])) _
                    refine XS.icmpNo X0.here hx rfl (hb hby own_d1_66) rfl (teq hc66).2 ?_
                    show Steps p.tables e below (s₁.setTop (mkF m 69 #[.val (.int x0)] [])) _
                    refine st16 _ ?_
                    show Steps p.tables e below (T16.setTop (mkF m 72 #[.val (.int x0)] [(.ref (w 7))])) _
                    exact retOut X16 hx Bd.returns rfl (Or.inr (Or.inr (Or.inr (Or.inr ⟨rfl, rfl, rfl⟩)))) (hb hby own_d1_72) hr
                  · show QP (.ref (w (own_pk x0))) h0 n0 _ T16.heap _
                    rw [e16]
                    exact ⟨by rw [own_pk, if_neg hc1, if_neg hc10, if_neg hc19, if_neg hc28, if_neg hc37, if_neg hc46, if_neg hc56, if_pos hc66], N0, rfl⟩
                · have pre17 : ∀ t, Steps p.tables e below (s₁.setTop (mkF m 76 #[.val (.int x0)] [(.int (8 : Int32)), (.int x0)])) t → Steps p.tables e below (s₁.setTop (entryFrame m #[(.int x0)] 1)) t := fun tt kk => pre15 tt (by
                    show Steps p.tables e below (s₁.setTop (mkF m 66 #[.val (.int x0)] [(.int (7 : Int32)), (.int x0)])) _
                    refine XS.icmpYes X0.here hx rfl (pc0 := 66) (pc' := 73) rfl (hb hby own_d1_66) rfl (feq hc66).2 (by decide) (by decide) ?_
                    show Steps p.tables e below (s₁.setTop (mkF m 73 #[.val (.int x0)] [])) _
                    refine XS.iloadN X0.here hx rfl (hb hby own_d1_73) rfl ?_
                    show Steps p.tables e below (s₁.setTop (mkF m 74 #[.val (.int x0)] [(.int x0)])) _
                    refine XS.bipush X0.here hx rfl (hb hby own_d1_74) ?_
                    exact kk)
                  by_cases hc76 : x0 = (8 : Int32)
                  · obtain ⟨T18, X18, e18, st18⟩ := getS2 X0 hx hZ hown (host := "") (Or.inl (hw _ (List.mem_of_getElem? (i := 51) rfl))) Via.refl e0 ST.2.2.2.2.2.2.2.2.1 (g := (mkF m 79 #[.val (.int x0)] [])) rfl (hb hby own_d1_79)
                    obtain ⟨fs, hr, hrun, hended, hW, hsame⟩ := X18.leave (v := some (.ref (w 8))) (fun h => by rw [Bd.returns] at h; cases h)
                    refine ⟨_, _, pre17 _ ?_, hrun, hended, _, _, rfl, ?_, ⟨_, rfl⟩, hW, hsame.mono (by decide) (by decide)⟩
                    · show Steps p.tables e below (s₁.setTop (mkF m 76 #[.val (.int x0)] [(.int (8 : Int32)), (.int x0)])) _
                      refine XS.icmpNo X0.here hx rfl (hb hby own_d1_76) rfl (teq hc76).2 ?_
                      show Steps p.tables e below (s₁.setTop (mkF m 79 #[.val (.int x0)] [])) _
                      refine st18 _ ?_
                      show Steps p.tables e below (T18.setTop (mkF m 82 #[.val (.int x0)] [(.ref (w 8))])) _
                      exact retOut X18 hx Bd.returns rfl (Or.inr (Or.inr (Or.inr (Or.inr ⟨rfl, rfl, rfl⟩)))) (hb hby own_d1_82) hr
                    · show QP (.ref (w (own_pk x0))) h0 n0 _ T18.heap _
                      rw [e18]
                      exact ⟨by rw [own_pk, if_neg hc1, if_neg hc10, if_neg hc19, if_neg hc28, if_neg hc37, if_neg hc46, if_neg hc56, if_neg hc66, if_pos hc76], N0, rfl⟩
                  · have pre19 : ∀ t, Steps p.tables e below (s₁.setTop (mkF m 86 #[.val (.int x0)] [(.int (9 : Int32)), (.int x0)])) t → Steps p.tables e below (s₁.setTop (entryFrame m #[(.int x0)] 1)) t := fun tt kk => pre17 tt (by
                      show Steps p.tables e below (s₁.setTop (mkF m 76 #[.val (.int x0)] [(.int (8 : Int32)), (.int x0)])) _
                      refine XS.icmpYes X0.here hx rfl (pc0 := 76) (pc' := 83) rfl (hb hby own_d1_76) rfl (feq hc76).2 (by decide) (by decide) ?_
                      show Steps p.tables e below (s₁.setTop (mkF m 83 #[.val (.int x0)] [])) _
                      refine XS.iloadN X0.here hx rfl (hb hby own_d1_83) rfl ?_
                      show Steps p.tables e below (s₁.setTop (mkF m 84 #[.val (.int x0)] [(.int x0)])) _
                      refine XS.bipush X0.here hx rfl (hb hby own_d1_84) ?_
                      exact kk)
                    by_cases hc86 : x0 = (9 : Int32)
                    · obtain ⟨T20, X20, e20, st20⟩ := getS2 X0 hx hZ hown (host := "") (Or.inl (hw _ (List.mem_of_getElem? (i := 59) rfl))) Via.refl e0 ST.2.2.2.2.2.2.2.2.2.1 (g := (mkF m 89 #[.val (.int x0)] [])) rfl (hb hby own_d1_89)
                      obtain ⟨fs, hr, hrun, hended, hW, hsame⟩ := X20.leave (v := some (.ref (w 9))) (fun h => by rw [Bd.returns] at h; cases h)
                      refine ⟨_, _, pre19 _ ?_, hrun, hended, _, _, rfl, ?_, ⟨_, rfl⟩, hW, hsame.mono (by decide) (by decide)⟩
                      · show Steps p.tables e below (s₁.setTop (mkF m 86 #[.val (.int x0)] [(.int (9 : Int32)), (.int x0)])) _
                        refine XS.icmpNo X0.here hx rfl (hb hby own_d1_86) rfl (teq hc86).2 ?_
                        show Steps p.tables e below (s₁.setTop (mkF m 89 #[.val (.int x0)] [])) _
                        refine st20 _ ?_
                        show Steps p.tables e below (T20.setTop (mkF m 92 #[.val (.int x0)] [(.ref (w 9))])) _
                        exact retOut X20 hx Bd.returns rfl (Or.inr (Or.inr (Or.inr (Or.inr ⟨rfl, rfl, rfl⟩)))) (hb hby own_d1_92) hr
                      · show QP (.ref (w (own_pk x0))) h0 n0 _ T20.heap _
                        rw [e20]
                        exact ⟨by rw [own_pk, if_neg hc1, if_neg hc10, if_neg hc19, if_neg hc28, if_neg hc37, if_neg hc46, if_neg hc56, if_neg hc66, if_neg hc76, if_pos hc86], N0, rfl⟩
                    · have pre21 : ∀ t, Steps p.tables e below (s₁.setTop (mkF m 96 #[.val (.int x0)] [(.int (10 : Int32)), (.int x0)])) t → Steps p.tables e below (s₁.setTop (entryFrame m #[(.int x0)] 1)) t := fun tt kk => pre19 tt (by
                        show Steps p.tables e below (s₁.setTop (mkF m 86 #[.val (.int x0)] [(.int (9 : Int32)), (.int x0)])) _
                        refine XS.icmpYes X0.here hx rfl (pc0 := 86) (pc' := 93) rfl (hb hby own_d1_86) rfl (feq hc86).2 (by decide) (by decide) ?_
                        show Steps p.tables e below (s₁.setTop (mkF m 93 #[.val (.int x0)] [])) _
                        refine XS.iloadN X0.here hx rfl (hb hby own_d1_93) rfl ?_
                        show Steps p.tables e below (s₁.setTop (mkF m 94 #[.val (.int x0)] [(.int x0)])) _
                        refine XS.bipush X0.here hx rfl (hb hby own_d1_94) ?_
                        exact kk)
                      by_cases hc96 : x0 = (10 : Int32)
                      · obtain ⟨T22, X22, e22, st22⟩ := getS2 X0 hx hZ hown (host := "") (Or.inl (hw _ (List.mem_of_getElem? (i := 43) rfl))) Via.refl e0 ST.2.2.2.2.2.2.2.2.2.2.1 (g := (mkF m 99 #[.val (.int x0)] [])) rfl (hb hby own_d1_99)
                        obtain ⟨fs, hr, hrun, hended, hW, hsame⟩ := X22.leave (v := some (.ref (w 10))) (fun h => by rw [Bd.returns] at h; cases h)
                        refine ⟨_, _, pre21 _ ?_, hrun, hended, _, _, rfl, ?_, ⟨_, rfl⟩, hW, hsame.mono (by decide) (by decide)⟩
                        · show Steps p.tables e below (s₁.setTop (mkF m 96 #[.val (.int x0)] [(.int (10 : Int32)), (.int x0)])) _
                          refine XS.icmpNo X0.here hx rfl (hb hby own_d1_96) rfl (teq hc96).2 ?_
                          show Steps p.tables e below (s₁.setTop (mkF m 99 #[.val (.int x0)] [])) _
                          refine st22 _ ?_
                          show Steps p.tables e below (T22.setTop (mkF m 102 #[.val (.int x0)] [(.ref (w 10))])) _
                          exact retOut X22 hx Bd.returns rfl (Or.inr (Or.inr (Or.inr (Or.inr ⟨rfl, rfl, rfl⟩)))) (hb hby own_d1_102) hr
                        · show QP (.ref (w (own_pk x0))) h0 n0 _ T22.heap _
                          rw [e22]
                          exact ⟨by rw [own_pk, if_neg hc1, if_neg hc10, if_neg hc19, if_neg hc28, if_neg hc37, if_neg hc46, if_neg hc56, if_neg hc66, if_neg hc76, if_neg hc86, if_pos hc96], N0, rfl⟩
                      · have pre23 : ∀ t, Steps p.tables e below (s₁.setTop (mkF m 106 #[.val (.int x0)] [(.int (11 : Int32)), (.int x0)])) t → Steps p.tables e below (s₁.setTop (entryFrame m #[(.int x0)] 1)) t := fun tt kk => pre21 tt (by
                          show Steps p.tables e below (s₁.setTop (mkF m 96 #[.val (.int x0)] [(.int (10 : Int32)), (.int x0)])) _
                          refine XS.icmpYes X0.here hx rfl (pc0 := 96) (pc' := 103) rfl (hb hby own_d1_96) rfl (feq hc96).2 (by decide) (by decide) ?_
                          show Steps p.tables e below (s₁.setTop (mkF m 103 #[.val (.int x0)] [])) _
                          refine XS.iloadN X0.here hx rfl (hb hby own_d1_103) rfl ?_
                          show Steps p.tables e below (s₁.setTop (mkF m 104 #[.val (.int x0)] [(.int x0)])) _
                          refine XS.bipush X0.here hx rfl (hb hby own_d1_104) ?_
                          exact kk)
                        by_cases hc106 : x0 = (11 : Int32)
                        · obtain ⟨T24, X24, e24, st24⟩ := getS2 X0 hx hZ hown (host := "") (Or.inl (hw _ (List.mem_of_getElem? (i := 41) rfl))) Via.refl e0 ST.2.2.2.2.2.2.2.2.2.2.2.1 (g := (mkF m 109 #[.val (.int x0)] [])) rfl (hb hby own_d1_109)
                          obtain ⟨fs, hr, hrun, hended, hW, hsame⟩ := X24.leave (v := some (.ref (w 11))) (fun h => by rw [Bd.returns] at h; cases h)
                          refine ⟨_, _, pre23 _ ?_, hrun, hended, _, _, rfl, ?_, ⟨_, rfl⟩, hW, hsame.mono (by decide) (by decide)⟩
                          · show Steps p.tables e below (s₁.setTop (mkF m 106 #[.val (.int x0)] [(.int (11 : Int32)), (.int x0)])) _
                            refine XS.icmpNo X0.here hx rfl (hb hby own_d1_106) rfl (teq hc106).2 ?_
                            show Steps p.tables e below (s₁.setTop (mkF m 109 #[.val (.int x0)] [])) _
                            refine st24 _ ?_
                            show Steps p.tables e below (T24.setTop (mkF m 112 #[.val (.int x0)] [(.ref (w 11))])) _
                            exact retOut X24 hx Bd.returns rfl (Or.inr (Or.inr (Or.inr (Or.inr ⟨rfl, rfl, rfl⟩)))) (hb hby own_d1_112) hr
                          · show QP (.ref (w (own_pk x0))) h0 n0 _ T24.heap _
                            rw [e24]
                            exact ⟨by rw [own_pk, if_neg hc1, if_neg hc10, if_neg hc19, if_neg hc28, if_neg hc37, if_neg hc46, if_neg hc56, if_neg hc66, if_neg hc76, if_neg hc86, if_neg hc96, if_pos hc106], N0, rfl⟩
                        · have pre25 : ∀ t, Steps p.tables e below (s₁.setTop (mkF m 116 #[.val (.int x0)] [(.int (12 : Int32)), (.int x0)])) t → Steps p.tables e below (s₁.setTop (entryFrame m #[(.int x0)] 1)) t := fun tt kk => pre23 tt (by
                            show Steps p.tables e below (s₁.setTop (mkF m 106 #[.val (.int x0)] [(.int (11 : Int32)), (.int x0)])) _
                            refine XS.icmpYes X0.here hx rfl (pc0 := 106) (pc' := 113) rfl (hb hby own_d1_106) rfl (feq hc106).2 (by decide) (by decide) ?_
                            show Steps p.tables e below (s₁.setTop (mkF m 113 #[.val (.int x0)] [])) _
                            refine XS.iloadN X0.here hx rfl (hb hby own_d1_113) rfl ?_
                            show Steps p.tables e below (s₁.setTop (mkF m 114 #[.val (.int x0)] [(.int x0)])) _
                            refine XS.bipush X0.here hx rfl (hb hby own_d1_114) ?_
                            exact kk)
                          by_cases hc116 : x0 = (12 : Int32)
                          · obtain ⟨T26, X26, e26, st26⟩ := getS2 X0 hx hZ hown (host := "") (Or.inl (hw _ (List.mem_of_getElem? (i := 34) rfl))) Via.refl e0 ST.2.2.2.2.2.2.2.2.2.2.2.2.1 (g := (mkF m 119 #[.val (.int x0)] [])) rfl (hb hby own_d1_119)
                            obtain ⟨fs, hr, hrun, hended, hW, hsame⟩ := X26.leave (v := some (.ref (w 12))) (fun h => by rw [Bd.returns] at h; cases h)
                            refine ⟨_, _, pre25 _ ?_, hrun, hended, _, _, rfl, ?_, ⟨_, rfl⟩, hW, hsame.mono (by decide) (by decide)⟩
                            · show Steps p.tables e below (s₁.setTop (mkF m 116 #[.val (.int x0)] [(.int (12 : Int32)), (.int x0)])) _
                              refine XS.icmpNo X0.here hx rfl (hb hby own_d1_116) rfl (teq hc116).2 ?_
                              show Steps p.tables e below (s₁.setTop (mkF m 119 #[.val (.int x0)] [])) _
                              refine st26 _ ?_
                              show Steps p.tables e below (T26.setTop (mkF m 122 #[.val (.int x0)] [(.ref (w 12))])) _
                              exact retOut X26 hx Bd.returns rfl (Or.inr (Or.inr (Or.inr (Or.inr ⟨rfl, rfl, rfl⟩)))) (hb hby own_d1_122) hr
                            · show QP (.ref (w (own_pk x0))) h0 n0 _ T26.heap _
                              rw [e26]
                              exact ⟨by rw [own_pk, if_neg hc1, if_neg hc10, if_neg hc19, if_neg hc28, if_neg hc37, if_neg hc46, if_neg hc56, if_neg hc66, if_neg hc76, if_neg hc86, if_neg hc96, if_neg hc106, if_pos hc116], N0, rfl⟩
                          · have pre27 : ∀ t, Steps p.tables e below (s₁.setTop (mkF m 126 #[.val (.int x0)] [(.int (13 : Int32)), (.int x0)])) t → Steps p.tables e below (s₁.setTop (entryFrame m #[(.int x0)] 1)) t := fun tt kk => pre25 tt (by
                              show Steps p.tables e below (s₁.setTop (mkF m 116 #[.val (.int x0)] [(.int (12 : Int32)), (.int x0)])) _
                              refine XS.icmpYes X0.here hx rfl (pc0 := 116) (pc' := 123) rfl (hb hby own_d1_116) rfl (feq hc116).2 (by decide) (by decide) ?_
                              show Steps p.tables e below (s₁.setTop (mkF m 123 #[.val (.int x0)] [])) _
                              refine XS.iloadN X0.here hx rfl (hb hby own_d1_123) rfl ?_
                              show Steps p.tables e below (s₁.setTop (mkF m 124 #[.val (.int x0)] [(.int x0)])) _
                              refine XS.bipush X0.here hx rfl (hb hby own_d1_124) ?_
                              exact kk)
                            by_cases hc126 : x0 = (13 : Int32)
                            · obtain ⟨T28, X28, e28, st28⟩ := getS2 X0 hx hZ hown (host := "") (Or.inl (hw _ (List.mem_of_getElem? (i := 65) rfl))) Via.refl e0 ST.2.2.2.2.2.2.2.2.2.2.2.2.2.1 (g := (mkF m 129 #[.val (.int x0)] [])) rfl (hb hby own_d1_129)
                              obtain ⟨fs, hr, hrun, hended, hW, hsame⟩ := X28.leave (v := some (.ref (w 13))) (fun h => by rw [Bd.returns] at h; cases h)
                              refine ⟨_, _, pre27 _ ?_, hrun, hended, _, _, rfl, ?_, ⟨_, rfl⟩, hW, hsame.mono (by decide) (by decide)⟩
                              · show Steps p.tables e below (s₁.setTop (mkF m 126 #[.val (.int x0)] [(.int (13 : Int32)), (.int x0)])) _
                                refine XS.icmpNo X0.here hx rfl (hb hby own_d1_126) rfl (teq hc126).2 ?_
                                show Steps p.tables e below (s₁.setTop (mkF m 129 #[.val (.int x0)] [])) _
                                refine st28 _ ?_
                                show Steps p.tables e below (T28.setTop (mkF m 132 #[.val (.int x0)] [(.ref (w 13))])) _
                                exact retOut X28 hx Bd.returns rfl (Or.inr (Or.inr (Or.inr (Or.inr ⟨rfl, rfl, rfl⟩)))) (hb hby own_d1_132) hr
                              · show QP (.ref (w (own_pk x0))) h0 n0 _ T28.heap _
                                rw [e28]
                                exact ⟨by rw [own_pk, if_neg hc1, if_neg hc10, if_neg hc19, if_neg hc28, if_neg hc37, if_neg hc46, if_neg hc56, if_neg hc66, if_neg hc76, if_neg hc86, if_neg hc96, if_neg hc106, if_neg hc116, if_pos hc126], N0, rfl⟩
                            · have pre29 : ∀ t, Steps p.tables e below (s₁.setTop (mkF m 136 #[.val (.int x0)] [(.int (14 : Int32)), (.int x0)])) t → Steps p.tables e below (s₁.setTop (entryFrame m #[(.int x0)] 1)) t := fun tt kk => pre27 tt (by
                                show Steps p.tables e below (s₁.setTop (mkF m 126 #[.val (.int x0)] [(.int (13 : Int32)), (.int x0)])) _
                                refine XS.icmpYes X0.here hx rfl (pc0 := 126) (pc' := 133) rfl (hb hby own_d1_126) rfl (feq hc126).2 (by decide) (by decide) ?_
                                show Steps p.tables e below (s₁.setTop (mkF m 133 #[.val (.int x0)] [])) _
                                refine XS.iloadN X0.here hx rfl (hb hby own_d1_133) rfl ?_
                                show Steps p.tables e below (s₁.setTop (mkF m 134 #[.val (.int x0)] [(.int x0)])) _
                                refine XS.bipush X0.here hx rfl (hb hby own_d1_134) ?_
                                exact kk)
                              by_cases hc136 : x0 = (14 : Int32)
                              · obtain ⟨T30, X30, e30, st30⟩ := getS2 X0 hx hZ hown (host := "") (Or.inl (hw _ (List.mem_of_getElem? (i := 63) rfl))) Via.refl e0 ST.2.2.2.2.2.2.2.2.2.2.2.2.2.2.1 (g := (mkF m 139 #[.val (.int x0)] [])) rfl (hb hby own_d1_139)
                                obtain ⟨fs, hr, hrun, hended, hW, hsame⟩ := X30.leave (v := some (.ref (w 14))) (fun h => by rw [Bd.returns] at h; cases h)
                                refine ⟨_, _, pre29 _ ?_, hrun, hended, _, _, rfl, ?_, ⟨_, rfl⟩, hW, hsame.mono (by decide) (by decide)⟩
                                · show Steps p.tables e below (s₁.setTop (mkF m 136 #[.val (.int x0)] [(.int (14 : Int32)), (.int x0)])) _
                                  refine XS.icmpNo X0.here hx rfl (hb hby own_d1_136) rfl (teq hc136).2 ?_
                                  show Steps p.tables e below (s₁.setTop (mkF m 139 #[.val (.int x0)] [])) _
                                  refine st30 _ ?_
                                  show Steps p.tables e below (T30.setTop (mkF m 142 #[.val (.int x0)] [(.ref (w 14))])) _
                                  exact retOut X30 hx Bd.returns rfl (Or.inr (Or.inr (Or.inr (Or.inr ⟨rfl, rfl, rfl⟩)))) (hb hby own_d1_142) hr
                                · show QP (.ref (w (own_pk x0))) h0 n0 _ T30.heap _
                                  rw [e30]
                                  exact ⟨by rw [own_pk, if_neg hc1, if_neg hc10, if_neg hc19, if_neg hc28, if_neg hc37, if_neg hc46, if_neg hc56, if_neg hc66, if_neg hc76, if_neg hc86, if_neg hc96, if_neg hc106, if_neg hc116, if_neg hc126, if_pos hc136], N0, rfl⟩
                              · obtain ⟨T31, X31, e31, st31⟩ := getS2 X0 hx hZ hown (host := "") (Or.inl (hw _ (List.mem_of_getElem? (i := 36) rfl))) Via.refl e0 ST.2.2.2.2.2.2.2.2.2.2.2.2.2.2.2 (g := (mkF m 143 #[.val (.int x0)] [])) rfl (hb hby own_d1_143)
                                obtain ⟨fs, hr, hrun, hended, hW, hsame⟩ := X31.leave (v := some (.ref (w 15))) (fun h => by rw [Bd.returns] at h; cases h)
                                refine ⟨_, _, pre29 _ ?_, hrun, hended, _, _, rfl, ?_, ⟨_, rfl⟩, hW, hsame.mono (by decide) (by decide)⟩
                                · show Steps p.tables e below (s₁.setTop (mkF m 136 #[.val (.int x0)] [(.int (14 : Int32)), (.int x0)])) _
                                  refine XS.icmpYes X0.here hx rfl (pc0 := 136) (pc' := 143) rfl (hb hby own_d1_136) rfl (feq hc136).2 (by decide) (by decide) ?_
                                  show Steps p.tables e below (s₁.setTop (mkF m 143 #[.val (.int x0)] [])) _
                                  refine st31 _ ?_
                                  show Steps p.tables e below (T31.setTop (mkF m 146 #[.val (.int x0)] [(.ref (w 15))])) _
                                  exact retOut X31 hx Bd.returns rfl (Or.inr (Or.inr (Or.inr (Or.inr ⟨rfl, rfl, rfl⟩)))) (hb hby own_d1_146) hr
                                · show QP (.ref (w (own_pk x0))) h0 n0 _ T31.heap _
                                  rw [e31]
                                  exact ⟨by rw [own_pk, if_neg hc1, if_neg hc10, if_neg hc19, if_neg hc28, if_neg hc37, if_neg hc46, if_neg hc56, if_neg hc66, if_neg hc76, if_neg hc86, if_neg hc96, if_neg hc106, if_neg hc116, if_neg hc126, if_neg hc136], N0, rfl⟩
theorem own_d3_0 : decode prog_78_method_5_code 0 = .ok (.aload_n 0, 1) := by decide +kernel
theorem own_d3_1 : decode prog_78_method_5_code 1 = .ok (.getstatic 3, 3) := by decide +kernel
theorem own_d3_4 : decode prog_78_method_5_code 4 = .ok (.if_acmp .eq 31, 3) := by decide +kernel
theorem own_d3_7 : decode prog_78_method_5_code 7 = .ok (.aload_n 0, 1) := by decide +kernel
theorem own_d3_8 : decode prog_78_method_5_code 8 = .ok (.getstatic 7, 3) := by decide +kernel
theorem own_d3_11 : decode prog_78_method_5_code 11 = .ok (.if_acmp .eq 24, 3) := by decide +kernel
theorem own_d3_14 : decode prog_78_method_5_code 14 = .ok (.aload_n 0, 1) := by decide +kernel
theorem own_d3_15 : decode prog_78_method_5_code 15 = .ok (.getstatic 10, 3) := by decide +kernel
theorem own_d3_18 : decode prog_78_method_5_code 18 = .ok (.if_acmp .eq 17, 3) := by decide +kernel
theorem own_d3_21 : decode prog_78_method_5_code 21 = .ok (.aload_n 0, 1) := by decide +kernel
theorem own_d3_22 : decode prog_78_method_5_code 22 = .ok (.getstatic 13, 3) := by decide +kernel
theorem own_d3_25 : decode prog_78_method_5_code 25 = .ok (.if_acmp .eq 10, 3) := by decide +kernel
theorem own_d3_28 : decode prog_78_method_5_code 28 = .ok (.aload_n 0, 1) := by decide +kernel
theorem own_d3_29 : decode prog_78_method_5_code 29 = .ok (.getstatic 16, 3) := by decide +kernel
theorem own_d3_32 : decode prog_78_method_5_code 32 = .ok (.if_acmp .ne 7, 3) := by decide +kernel
theorem own_d3_35 : decode prog_78_method_5_code 35 = .ok (.iconst 1, 1) := by decide +kernel
theorem own_d3_36 : decode prog_78_method_5_code 36 = .ok (.goto 4, 3) := by decide +kernel
theorem own_d3_39 : decode prog_78_method_5_code 39 = .ok (.iconst 0, 1) := by decide +kernel
theorem own_d3_40 : decode prog_78_method_5_code 40 = .ok (.ireturn, 1) := by decide +kernel
set_option maxRecDepth 65536 in
set_option maxHeartbeats 40000000 in
theorem rm_ic (l : Launch) (Z : State) (a0 : Array Value) (hw : ∀ d ∈ tables_1, d.before a0 Z = true) (ws : List Jvm.Cond) (x0 : Addr) (w : Nat → Addr) (h0 : Heap) (n0 : Nat) (Z0 : n0 ≤ h0.size) (ST : STA Z h0 w) :
    MetFree l (⟨"com/example/puzzled_pilot/puzzledpilot/model/Operator", "isConnective", "()Z"⟩ : MethodName) (head1 (Jvm.Cond.code (⟨"com/example/puzzled_pilot/puzzledpilot/model/Operator", "isConnective", "()Z"⟩ : MethodName) prog_78_method_5_code 1 (some .boolean) :: ws) ({ frames := 0, cells := 0, slots := 0, locals := 0 } : Room)) (fun a U => a = #[(.ref x0)] ∧ Z.Warmed39 U.vm ∧ U.heap = h0) (fun _ _ _ _ _ => True) (fun _ U o U' => ∃ v L, o = .returned v ∧ QP (.int (own_isc w x0)) h0 n0 v U'.heap L ∧ FrameEnd U o U' L ({ frames := 0, cells := 0, slots := 0, locals := 0 } : Room).cells ({ frames := 0, cells := 0, slots := 0, locals := 0 } : Room).slots) := by
  refine MetFree.of_bodySF (plainFor_of_name (by first | (simp [plainName, overriddenIn]; done) | decide +kernel)) hisR ?_
  intro p e s m args below meth c s₁ Bd hml0 hP hK
  obtain ⟨rfl, hZ, hh⟩ := hP
  have hx := Bd.exec
  have hby := Bd.bytes
  have hml : c.maxLocals = 1 := hml0
  have hown : s.vm.findClass "com/example/puzzled_pilot/puzzledpilot/model/Operator" = some m.cls := findClass_of_methodNamed Bd.named
  have hnm := (name_of_methodNamed Bd.named Bd.method).1
  have X0 : Stand p l e ({ frames := 0, cells := 0, slots := 0, locals := 0 } : Room) s m #[(.ref x0)] below meth c s₁ [] 0 0 := Stand.of_body Bd
  have e0 : s₁.heap = h0 := by rw [← hh, Bd.state]; rfl
  have N0 := Fr.nil n0
  have ef0 : entryFrame m #[(.ref x0)] 1 = mkF m 0 #[.val (.ref x0)] [] := by first | (simp [entryFrame, mkF, argsToLocals, Value.category, maxLocals]; done) | rfl
  have pre0 : ∀ t, Steps p.tables e below (s₁.setTop (mkF m 0 #[.val (.ref x0)] [])) t → Steps p.tables e below (s₁.setTop (entryFrame m #[(.ref x0)] 1)) t := fun t k => castTop ef0 k
  obtain ⟨T32, X32, e32, st32⟩ := getS2 X0 hx hZ hown (host := "") (Or.inl (hw _ (List.mem_of_getElem? (i := 19) rfl))) Via.refl e0 ST.1 (g := (mkF m 1 #[.val (.ref x0)] [(.ref x0)])) rfl (hb hby own_d3_1)
  have pre33 : ∀ t, Steps p.tables e below (T32.setTop (mkF m 4 #[.val (.ref x0)] [(.ref (w 0)), (.ref x0)])) t → Steps p.tables e below (s₁.setTop (entryFrame m #[(.ref x0)] 1)) t := fun tt kk => pre0 tt (by
    show Steps p.tables e below (s₁.setTop (mkF m 0 #[.val (.ref x0)] [])) _
    refine XS.aloadN X0.here hx rfl (hb hby own_d3_0) rfl rfl ?_
    show Steps p.tables e below (s₁.setTop (mkF m 1 #[.val (.ref x0)] [(.ref x0)])) _
    refine st32 _ ?_
    exact kk)
  by_cases ha4 : x0 = (w 0)
  · obtain ⟨fs, hr, hrun, hended, hW, hsame⟩ := X32.leave (v := some (.int (1 : Int32))) (fun h => by rw [Bd.returns] at h; cases h)
    refine ⟨_, _, pre33 _ ?_, hrun, hended, _, _, rfl, ?_, ⟨_, rfl⟩, hW, hsame.mono (by decide) (by decide)⟩
    · show Steps p.tables e below (T32.setTop (mkF m 4 #[.val (.ref x0)] [(.ref (w 0)), (.ref x0)])) _
      refine Jvm.RoadKit.acmp (g := (mkF m 4 #[.val (.ref x0)] [(.ref (w 0)), (.ref x0)])) X32 hx rfl rfl rfl (pc0 := 4) (pc' := 35) (same := true) rfl (hb hby own_d3_4) rfl (decide_eq_true (congrArg Value.ref ha4)) (by decide) (by decide) ?_
      show Steps p.tables e below (T32.setTop (mkF m 35 #[.val (.ref x0)] [])) _
      refine XS.iconst X32.here hx rfl (hb hby own_d3_35) ?_
      show Steps p.tables e below (T32.setTop (mkF m 36 #[.val (.ref x0)] [(.int (1 : Int32))])) _
      refine XS.goto X32.here hx rfl (pc0 := 36) (pc' := 40) rfl (hb hby own_d3_36) (by decide) (by decide) ?_
      show Steps p.tables e below (T32.setTop (mkF m 40 #[.val (.ref x0)] [(.int (1 : Int32))])) _
      exact retN X32 hx (t := .boolean) Bd.returns (by simp) (hb hby own_d3_40) hr
    · show QP (.int (own_isc w x0)) h0 n0 _ T32.heap _
      rw [e32]
      exact ⟨by rw [own_isc]; rw [if_pos ha4], N0, rfl⟩
  · obtain ⟨T34, X34, e34, st34⟩ := getS2 X32 hx hZ hown (host := "") (Or.inl (hw _ (List.mem_of_getElem? (i := 12) rfl))) Via.refl e32 ST.2.1 (g := (mkF m 8 #[.val (.ref x0)] [(.ref x0)])) rfl (hb hby own_d3_8)
    have pre35 : ∀ t, Steps p.tables e below (T34.setTop (mkF m 11 #[.val (.ref x0)] [(.ref (w 1)), (.ref x0)])) t → Steps p.tables e below (s₁.setTop (entryFrame m #[(.ref x0)] 1)) t := fun tt kk => pre33 tt (by
      show Steps p.tables e below (T32.setTop (mkF m 4 #[.val (.ref x0)] [(.ref (w 0)), (.ref x0)])) _
      refine Jvm.RoadKit.acmp (g := (mkF m 4 #[.val (.ref x0)] [(.ref (w 0)), (.ref x0)])) X32 hx rfl rfl rfl (pc0 := 4) (pc' := 7) (same := false) rfl (hb hby own_d3_4) rfl (decide_eq_false fun q => ha4 (Value.ref.inj q)) (by decide) (by decide) ?_
      show Steps p.tables e below (T32.setTop (mkF m 7 #[.val (.ref x0)] [])) _
      refine XS.aloadN X32.here hx rfl (hb hby own_d3_7) rfl rfl ?_
      show Steps p.tables e below (T32.setTop (mkF m 8 #[.val (.ref x0)] [(.ref x0)])) _
      refine st34 _ ?_
      exact kk)
    by_cases ha11 : x0 = (w 1)
    · obtain ⟨fs, hr, hrun, hended, hW, hsame⟩ := X34.leave (v := some (.int (1 : Int32))) (fun h => by rw [Bd.returns] at h; cases h)
      refine ⟨_, _, pre35 _ ?_, hrun, hended, _, _, rfl, ?_, ⟨_, rfl⟩, hW, hsame.mono (by decide) (by decide)⟩
      · show Steps p.tables e below (T34.setTop (mkF m 11 #[.val (.ref x0)] [(.ref (w 1)), (.ref x0)])) _
        refine Jvm.RoadKit.acmp (g := (mkF m 11 #[.val (.ref x0)] [(.ref (w 1)), (.ref x0)])) X34 hx rfl rfl rfl (pc0 := 11) (pc' := 35) (same := true) rfl (hb hby own_d3_11) rfl (decide_eq_true (congrArg Value.ref ha11)) (by decide) (by decide) ?_
        show Steps p.tables e below (T34.setTop (mkF m 35 #[.val (.ref x0)] [])) _
        refine XS.iconst X34.here hx rfl (hb hby own_d3_35) ?_
        show Steps p.tables e below (T34.setTop (mkF m 36 #[.val (.ref x0)] [(.int (1 : Int32))])) _
        refine XS.goto X34.here hx rfl (pc0 := 36) (pc' := 40) rfl (hb hby own_d3_36) (by decide) (by decide) ?_
        show Steps p.tables e below (T34.setTop (mkF m 40 #[.val (.ref x0)] [(.int (1 : Int32))])) _
        exact retN X34 hx (t := .boolean) Bd.returns (by simp) (hb hby own_d3_40) hr
      · show QP (.int (own_isc w x0)) h0 n0 _ T34.heap _
        rw [e34]
        exact ⟨by rw [own_isc]; rw [if_neg ha4, if_pos ha11], N0, rfl⟩
    · obtain ⟨T36, X36, e36, st36⟩ := getS2 X34 hx hZ hown (host := "") (Or.inl (hw _ (List.mem_of_getElem? (i := 45) rfl))) Via.refl e34 ST.2.2.1 (g := (mkF m 15 #[.val (.ref x0)] [(.ref x0)])) rfl (hb hby own_d3_15)
      have pre37 : ∀ t, Steps p.tables e below (T36.setTop (mkF m 18 #[.val (.ref x0)] [(.ref (w 2)), (.ref x0)])) t → Steps p.tables e below (s₁.setTop (entryFrame m #[(.ref x0)] 1)) t := fun tt kk => pre35 tt (by
        show Steps p.tables e below (T34.setTop (mkF m 11 #[.val (.ref x0)] [(.ref (w 1)), (.ref x0)])) _
        refine Jvm.RoadKit.acmp (g := (mkF m 11 #[.val (.ref x0)] [(.ref (w 1)), (.ref x0)])) X34 hx rfl rfl rfl (pc0 := 11) (pc' := 14) (same := false) rfl (hb hby own_d3_11) rfl (decide_eq_false fun q => ha11 (Value.ref.inj q)) (by decide) (by decide) ?_
        show Steps p.tables e below (T34.setTop (mkF m 14 #[.val (.ref x0)] [])) _
        refine XS.aloadN X34.here hx rfl (hb hby own_d3_14) rfl rfl ?_
        show Steps p.tables e below (T34.setTop (mkF m 15 #[.val (.ref x0)] [(.ref x0)])) _
        refine st36 _ ?_
        exact kk)
      by_cases ha18 : x0 = (w 2)
      · obtain ⟨fs, hr, hrun, hended, hW, hsame⟩ := X36.leave (v := some (.int (1 : Int32))) (fun h => by rw [Bd.returns] at h; cases h)
        refine ⟨_, _, pre37 _ ?_, hrun, hended, _, _, rfl, ?_, ⟨_, rfl⟩, hW, hsame.mono (by decide) (by decide)⟩
        · show Steps p.tables e below (T36.setTop (mkF m 18 #[.val (.ref x0)] [(.ref (w 2)), (.ref x0)])) _
          refine Jvm.RoadKit.acmp (g := (mkF m 18 #[.val (.ref x0)] [(.ref (w 2)), (.ref x0)])) X36 hx rfl rfl rfl (pc0 := 18) (pc' := 35) (same := true) rfl (hb hby own_d3_18) rfl (decide_eq_true (congrArg Value.ref ha18)) (by decide) (by decide) ?_
          show Steps p.tables e below (T36.setTop (mkF m 35 #[.val (.ref x0)] [])) _
          refine XS.iconst X36.here hx rfl (hb hby own_d3_35) ?_
          show Steps p.tables e below (T36.setTop (mkF m 36 #[.val (.ref x0)] [(.int (1 : Int32))])) _
          refine XS.goto X36.here hx rfl (pc0 := 36) (pc' := 40) rfl (hb hby own_d3_36) (by decide) (by decide) ?_
          show Steps p.tables e below (T36.setTop (mkF m 40 #[.val (.ref x0)] [(.int (1 : Int32))])) _
          exact retN X36 hx (t := .boolean) Bd.returns (by simp) (hb hby own_d3_40) hr
        · show QP (.int (own_isc w x0)) h0 n0 _ T36.heap _
          rw [e36]
          exact ⟨by rw [own_isc]; rw [if_neg ha4, if_neg ha11, if_pos ha18], N0, rfl⟩
      · obtain ⟨T38, X38, e38, st38⟩ := getS2 X36 hx hZ hown (host := "") (Or.inl (hw _ (List.mem_of_getElem? (i := 47) rfl))) Via.refl e36 ST.2.2.2.1 (g := (mkF m 22 #[.val (.ref x0)] [(.ref x0)])) rfl (hb hby own_d3_22)
        have pre39 : ∀ t, Steps p.tables e below (T38.setTop (mkF m 25 #[.val (.ref x0)] [(.ref (w 3)), (.ref x0)])) t → Steps p.tables e below (s₁.setTop (entryFrame m #[(.ref x0)] 1)) t := fun tt kk => pre37 tt (by
          show Steps p.tables e below (T36.setTop (mkF m 18 #[.val (.ref x0)] [(.ref (w 2)), (.ref x0)])) _
          refine Jvm.RoadKit.acmp (g := (mkF m 18 #[.val (.ref x0)] [(.ref (w 2)), (.ref x0)])) X36 hx rfl rfl rfl (pc0 := 18) (pc' := 21) (same := false) rfl (hb hby own_d3_18) rfl (decide_eq_false fun q => ha18 (Value.ref.inj q)) (by decide) (by decide) ?_
          show Steps p.tables e below (T36.setTop (mkF m 21 #[.val (.ref x0)] [])) _
          refine XS.aloadN X36.here hx rfl (hb hby own_d3_21) rfl rfl ?_
          show Steps p.tables e below (T36.setTop (mkF m 22 #[.val (.ref x0)] [(.ref x0)])) _
          refine st38 _ ?_
          exact kk)
        by_cases ha25 : x0 = (w 3)
        · obtain ⟨fs, hr, hrun, hended, hW, hsame⟩ := X38.leave (v := some (.int (1 : Int32))) (fun h => by rw [Bd.returns] at h; cases h)
          refine ⟨_, _, pre39 _ ?_, hrun, hended, _, _, rfl, ?_, ⟨_, rfl⟩, hW, hsame.mono (by decide) (by decide)⟩
          · show Steps p.tables e below (T38.setTop (mkF m 25 #[.val (.ref x0)] [(.ref (w 3)), (.ref x0)])) _
            refine Jvm.RoadKit.acmp (g := (mkF m 25 #[.val (.ref x0)] [(.ref (w 3)), (.ref x0)])) X38 hx rfl rfl rfl (pc0 := 25) (pc' := 35) (same := true) rfl (hb hby own_d3_25) rfl (decide_eq_true (congrArg Value.ref ha25)) (by decide) (by decide) ?_
            show Steps p.tables e below (T38.setTop (mkF m 35 #[.val (.ref x0)] [])) _
            refine XS.iconst X38.here hx rfl (hb hby own_d3_35) ?_
            show Steps p.tables e below (T38.setTop (mkF m 36 #[.val (.ref x0)] [(.int (1 : Int32))])) _
            refine XS.goto X38.here hx rfl (pc0 := 36) (pc' := 40) rfl (hb hby own_d3_36) (by decide) (by decide) ?_
            show Steps p.tables e below (T38.setTop (mkF m 40 #[.val (.ref x0)] [(.int (1 : Int32))])) _
            exact retN X38 hx (t := .boolean) Bd.returns (by simp) (hb hby own_d3_40) hr
          · show QP (.int (own_isc w x0)) h0 n0 _ T38.heap _
            rw [e38]
            exact ⟨by rw [own_isc]; rw [if_neg ha4, if_neg ha11, if_neg ha18, if_pos ha25], N0, rfl⟩
        · obtain ⟨T40, X40, e40, st40⟩ := getS2 X38 hx hZ hown (host := "") (Or.inl (hw _ (List.mem_of_getElem? (i := 49) rfl))) Via.refl e38 ST.2.2.2.2.1 (g := (mkF m 29 #[.val (.ref x0)] [(.ref x0)])) rfl (hb hby own_d3_29)
          have pre41 : ∀ t, Steps p.tables e below (T40.setTop (mkF m 32 #[.val (.ref x0)] [(.ref (w 4)), (.ref x0)])) t → Steps p.tables e below (s₁.setTop (entryFrame m #[(.ref x0)] 1)) t := fun tt kk => pre39 tt (by
            show Steps p.tables e below (T38.setTop (mkF m 25 #[.val (.ref x0)] [(.ref (w 3)), (.ref x0)])) _
            refine Jvm.RoadKit.acmp (g := (mkF m 25 #[.val (.ref x0)] [(.ref (w 3)), (.ref x0)])) X38 hx rfl rfl rfl (pc0 := 25) (pc' := 28) (same := false) rfl (hb hby own_d3_25) rfl (decide_eq_false fun q => ha25 (Value.ref.inj q)) (by decide) (by decide) ?_
            show Steps p.tables e below (T38.setTop (mkF m 28 #[.val (.ref x0)] [])) _
            refine XS.aloadN X38.here hx rfl (hb hby own_d3_28) rfl rfl ?_
            show Steps p.tables e below (T38.setTop (mkF m 29 #[.val (.ref x0)] [(.ref x0)])) _
            refine st40 _ ?_
            exact kk)
          by_cases ha32 : x0 = (w 4)
          · obtain ⟨fs, hr, hrun, hended, hW, hsame⟩ := X40.leave (v := some (.int (1 : Int32))) (fun h => by rw [Bd.returns] at h; cases h)
            refine ⟨_, _, pre41 _ ?_, hrun, hended, _, _, rfl, ?_, ⟨_, rfl⟩, hW, hsame.mono (by decide) (by decide)⟩
            · show Steps p.tables e below (T40.setTop (mkF m 32 #[.val (.ref x0)] [(.ref (w 4)), (.ref x0)])) _
              refine Jvm.RoadKit.acmp (g := (mkF m 32 #[.val (.ref x0)] [(.ref (w 4)), (.ref x0)])) X40 hx rfl rfl rfl (pc0 := 32) (pc' := 35) (same := true) rfl (hb hby own_d3_32) rfl (decide_eq_true (congrArg Value.ref ha32)) (by decide) (by decide) ?_
              show Steps p.tables e below (T40.setTop (mkF m 35 #[.val (.ref x0)] [])) _
              refine XS.iconst X40.here hx rfl (hb hby own_d3_35) ?_
              show Steps p.tables e below (T40.setTop (mkF m 36 #[.val (.ref x0)] [(.int (1 : Int32))])) _
              refine XS.goto X40.here hx rfl (pc0 := 36) (pc' := 40) rfl (hb hby own_d3_36) (by decide) (by decide) ?_
              show Steps p.tables e below (T40.setTop (mkF m 40 #[.val (.ref x0)] [(.int (1 : Int32))])) _
              exact retN X40 hx (t := .boolean) Bd.returns (by simp) (hb hby own_d3_40) hr
            · show QP (.int (own_isc w x0)) h0 n0 _ T40.heap _
              rw [e40]
              exact ⟨by rw [own_isc]; rw [if_neg ha4, if_neg ha11, if_neg ha18, if_neg ha25, if_pos ha32], N0, rfl⟩
          · obtain ⟨fs, hr, hrun, hended, hW, hsame⟩ := X40.leave (v := some (.int (0 : Int32))) (fun h => by rw [Bd.returns] at h; cases h)
            refine ⟨_, _, pre41 _ ?_, hrun, hended, _, _, rfl, ?_, ⟨_, rfl⟩, hW, hsame.mono (by decide) (by decide)⟩
            · show Steps p.tables e below (T40.setTop (mkF m 32 #[.val (.ref x0)] [(.ref (w 4)), (.ref x0)])) _
              refine Jvm.RoadKit.acmp (g := (mkF m 32 #[.val (.ref x0)] [(.ref (w 4)), (.ref x0)])) X40 hx rfl rfl rfl (pc0 := 32) (pc' := 39) (same := false) rfl (hb hby own_d3_32) rfl (decide_eq_false fun q => ha32 (Value.ref.inj q)) (by decide) (by decide) ?_
              show Steps p.tables e below (T40.setTop (mkF m 39 #[.val (.ref x0)] [])) _
              refine XS.iconst X40.here hx rfl (hb hby own_d3_39) ?_
              show Steps p.tables e below (T40.setTop (mkF m 40 #[.val (.ref x0)] [(.int (0 : Int32))])) _
              exact retN X40 hx (t := .boolean) Bd.returns (by simp) (hb hby own_d3_40) hr
            · show QP (.int (own_isc w x0)) h0 n0 _ T40.heap _
              rw [e40]
              exact ⟨by rw [own_isc]; rw [if_neg ha4, if_neg ha11, if_neg ha18, if_neg ha25, if_neg ha32], N0, rfl⟩
theorem own_d5_0 : decode jdk_37_method_2_code 0 = .ok (.aload_n 0, 1) := by decide +kernel
theorem own_d5_1 : decode jdk_37_method_2_code 1 = .ok (.getfield 7, 3) := by decide +kernel
theorem own_d5_4 : decode jdk_37_method_2_code 4 = .ok (.ireturn, 1) := by decide +kernel
set_option maxRecDepth 65536 in
set_option maxHeartbeats 40000000 in
theorem rm_or (l : Launch) (Z : State) (a0 : Array Value) (hw : ∀ d ∈ tables_1, d.before a0 Z = true) (ws : List Jvm.Cond) (x0 : Addr) (f : Int32) (h0 : Heap) (n0 : Nat) (Z0 : n0 ≤ h0.size) (F : Fld Z h0 x0 "java/lang/Enum" "ordinal" "I" (.int f)) :
    MetFree l (⟨"java/lang/Enum", "ordinal", "()I"⟩ : MethodName) (head1 (Jvm.Cond.code (⟨"java/lang/Enum", "ordinal", "()I"⟩ : MethodName) jdk_37_method_2_code 1 (some .int) :: ws) ({ frames := 0, cells := 0, slots := 0, locals := 0 } : Room)) (fun a U => a = #[(.ref x0)] ∧ Z.Warmed39 U.vm ∧ U.heap = h0) (fun _ _ _ _ _ => True) (fun _ U o U' => ∃ v L, o = .returned v ∧ QP (.int f) h0 n0 v U'.heap L ∧ FrameEnd U o U' L ({ frames := 0, cells := 0, slots := 0, locals := 0 } : Room).cells ({ frames := 0, cells := 0, slots := 0, locals := 0 } : Room).slots) := by
  refine MetFree.of_bodySF (plainFor_of_name (by first | (simp [plainName, overriddenIn]; done) | decide +kernel)) hisR ?_
  intro p e s m args below meth c s₁ Bd hml0 hP hK
  obtain ⟨rfl, hZ, hh⟩ := hP
  have hx := Bd.exec
  have hby := Bd.bytes
  have hml : c.maxLocals = 1 := hml0
  have hown : s.vm.findClass "java/lang/Enum" = some m.cls := findClass_of_methodNamed Bd.named
  have hnm := (name_of_methodNamed Bd.named Bd.method).1
  have X0 : Stand p l e ({ frames := 0, cells := 0, slots := 0, locals := 0 } : Room) s m #[(.ref x0)] below meth c s₁ [] 0 0 := Stand.of_body Bd
  have e0 : s₁.heap = h0 := by rw [← hh, Bd.state]; rfl
  have N0 := Fr.nil n0
  have ef0 : entryFrame m #[(.ref x0)] 1 = mkF m 0 #[.val (.ref x0)] [] := by first | (simp [entryFrame, mkF, argsToLocals, Value.category, maxLocals]; done) | rfl
  have pre0 : ∀ t, Steps p.tables e below (s₁.setTop (mkF m 0 #[.val (.ref x0)] [])) t → Steps p.tables e below (s₁.setTop (entryFrame m #[(.ref x0)] 1)) t := fun t k => castTop ef0 k
  obtain ⟨T42, X42, e42, st42⟩ := getF X0 hx hZ hown (host := "") (Or.inl (hw _ (List.mem_of_getElem? (i := 32) rfl))) Via.refl e0 F (g := (mkF m 1 #[.val (.ref x0)] [(.ref x0)])) rfl rfl (hb hby own_d5_1)
  obtain ⟨fs, hr, hrun, hended, hW, hsame⟩ := X42.leave (v := some (.int f)) (fun h => by rw [Bd.returns] at h; cases h)
  refine ⟨_, _, pre0 _ ?_, hrun, hended, _, _, rfl, ?_, ⟨_, rfl⟩, hW, hsame.mono (by decide) (by decide)⟩
  · show Steps p.tables e below (s₁.setTop (mkF m 0 #[.val (.ref x0)] [])) _
    refine XS.aloadN X0.here hx rfl (hb hby own_d5_0) rfl rfl ?_
    show Steps p.tables e below (s₁.setTop (mkF m 1 #[.val (.ref x0)] [(.ref x0)])) _
    refine st42 _ ?_
    show Steps p.tables e below (T42.setTop (mkF m 4 #[.val (.ref x0)] [(.int f)])) _
    exact retOut X42 hx Bd.returns rfl (Or.inl ⟨rfl, Or.inl rfl, _, rfl⟩) (hb hby own_d5_4) hr
  · show QP (.int f) h0 n0 _ T42.heap _
    rw [e42]
    exact ⟨rfl, N0, rfl⟩
theorem own_d4_0 : decode prog_78_method_8_code 0 = .ok (.aload_n 0, 1) := by decide +kernel
theorem own_d4_1 : decode prog_78_method_8_code 1 = .ok (.invokevirtual 75, 3) := by decide +kernel
theorem own_d4_4 : decode prog_78_method_8_code 4 = .ok (.tableswitch 80 0 15 #[90, 96, 102, 108, 116, 116, 130, 144, 158, 172, 186, 200, 208, 216, 224, 232], 80) := by decide +kernel
theorem own_d4_94 : decode prog_78_method_8_code 94 = .ok (.lload_n 1, 1) := by decide +kernel
theorem own_d4_95 : decode prog_78_method_8_code 95 = .ok (.lload_n 3, 1) := by decide +kernel
theorem own_d4_96 : decode prog_78_method_8_code 96 = .ok (.land, 1) := by decide +kernel
theorem own_d4_97 : decode prog_78_method_8_code 97 = .ok (.goto 142, 3) := by decide +kernel
theorem own_d4_100 : decode prog_78_method_8_code 100 = .ok (.lload_n 1, 1) := by decide +kernel
theorem own_d4_101 : decode prog_78_method_8_code 101 = .ok (.lload_n 3, 1) := by decide +kernel
theorem own_d4_102 : decode prog_78_method_8_code 102 = .ok (.lor, 1) := by decide +kernel
theorem own_d4_103 : decode prog_78_method_8_code 103 = .ok (.goto 136, 3) := by decide +kernel
theorem own_d4_106 : decode prog_78_method_8_code 106 = .ok (.lload_n 1, 1) := by decide +kernel
theorem own_d4_107 : decode prog_78_method_8_code 107 = .ok (.lload_n 3, 1) := by decide +kernel
theorem own_d4_108 : decode prog_78_method_8_code 108 = .ok (.lxor, 1) := by decide +kernel
theorem own_d4_109 : decode prog_78_method_8_code 109 = .ok (.goto 130, 3) := by decide +kernel
theorem own_d4_112 : decode prog_78_method_8_code 112 = .ok (.lconst 1, 1) := by decide +kernel
theorem own_d4_113 : decode prog_78_method_8_code 113 = .ok (.lload_n 1, 1) := by decide +kernel
theorem own_d4_114 : decode prog_78_method_8_code 114 = .ok (.lsub, 1) := by decide +kernel
theorem own_d4_115 : decode prog_78_method_8_code 115 = .ok (.lload_n 3, 1) := by decide +kernel
theorem own_d4_116 : decode prog_78_method_8_code 116 = .ok (.lor, 1) := by decide +kernel
theorem own_d4_117 : decode prog_78_method_8_code 117 = .ok (.goto 122, 3) := by decide +kernel
theorem own_d4_120 : decode prog_78_method_8_code 120 = .ok (.lload_n 1, 1) := by decide +kernel
theorem own_d4_121 : decode prog_78_method_8_code 121 = .ok (.lload_n 3, 1) := by decide +kernel
theorem own_d4_122 : decode prog_78_method_8_code 122 = .ok (.lcmp, 1) := by decide +kernel
theorem own_d4_123 : decode prog_78_method_8_code 123 = .ok (.ifCond .ne 7, 3) := by decide +kernel
theorem own_d4_126 : decode prog_78_method_8_code 126 = .ok (.lconst 1, 1) := by decide +kernel
theorem own_d4_127 : decode prog_78_method_8_code 127 = .ok (.goto 112, 3) := by decide +kernel
theorem own_d4_130 : decode prog_78_method_8_code 130 = .ok (.lconst 0, 1) := by decide +kernel
theorem own_d4_131 : decode prog_78_method_8_code 131 = .ok (.goto 108, 3) := by decide +kernel
theorem own_d4_239 : decode prog_78_method_8_code 239 = .ok (.lreturn, 1) := by decide +kernel
set_option maxRecDepth 65536 in
set_option maxHeartbeats 40000000 in
theorem rm_ap (l : Launch) (Z : State) (a0 : Array Value) (hw : ∀ d ∈ tables_1, d.before a0 Z = true) (ws : List Jvm.Cond) (k : Nat) (x1 x2 : Int64) (w : Nat → Addr) (h0 : Heap) (n0 : Nat) (Z0 : n0 ≤ h0.size) (hk : k < 5) (F : Fld Z h0 (w k) "java/lang/Enum" "ordinal" "I" (.int k.toInt32)) (EX : Exa Z h0 (w k) "com/example/puzzled_pilot/puzzledpilot/model/Operator") :
    MetFree l (⟨"com/example/puzzled_pilot/puzzledpilot/model/Operator", "apply", "(JJ)J"⟩ : MethodName) (head1 (Jvm.Cond.code (⟨"com/example/puzzled_pilot/puzzledpilot/model/Operator", "apply", "(JJ)J"⟩ : MethodName) prog_78_method_8_code 5 (some .long) :: ws) ({ frames := 1, cells := 0, slots := 0, locals := 12 } : Room)) (fun a U => a = #[(.ref (w k)), (.long x1), (.long x2)] ∧ Z.Warmed39 U.vm ∧ U.heap = h0) (fun _ _ _ _ _ => True) (fun _ U o U' => ∃ v L, o = .returned v ∧ QP (.long (own_ap k x1 x2)) h0 n0 v U'.heap L ∧ FrameEnd U o U' L ({ frames := 1, cells := 0, slots := 0, locals := 12 } : Room).cells ({ frames := 1, cells := 0, slots := 0, locals := 12 } : Room).slots) := by
  refine MetFree.of_bodySF (plainFor_of_name (by first | (simp [plainName, overriddenIn]; done) | decide +kernel)) hisR ?_
  intro p e s m args below meth c s₁ Bd hml0 hP hK
  obtain ⟨rfl, hZ, hh⟩ := hP
  have hx := Bd.exec
  have hby := Bd.bytes
  have hml : c.maxLocals = 5 := hml0
  have hown : s.vm.findClass "com/example/puzzled_pilot/puzzledpilot/model/Operator" = some m.cls := findClass_of_methodNamed Bd.named
  have hnm := (name_of_methodNamed Bd.named Bd.method).1
  have X0 : Stand p l e ({ frames := 1, cells := 0, slots := 0, locals := 12 } : Room) s m #[(.ref (w k)), (.long x1), (.long x2)] below meth c s₁ [] 0 0 := Stand.of_body Bd
  have e0 : s₁.heap = h0 := by rw [← hh, Bd.state]; rfl
  have N0 := Fr.nil n0
  have ef0 : entryFrame m #[(.ref (w k)), (.long x1), (.long x2)] 5 = mkF m 0 #[.val (.ref (w k)), .val (.long x1), .second, .val (.long x2), .second] [] := by first | (simp [entryFrame, mkF, argsToLocals, Value.category, maxLocals]; done) | rfl
  have pre0 : ∀ t, Steps p.tables e below (s₁.setTop (mkF m 0 #[.val (.ref (w k)), .val (.long x1), .second, .val (.long x2), .second] [])) t → Steps p.tables e below (s₁.setTop (entryFrame m #[(.ref (w k)), (.long x1), (.long x2)] 5)) t := fun t k => castTop ef0 k
  obtain ⟨cq43, kq43, q43a, q43b, q43c⟩ := isOf hZ e0 EX
  obtain ⟨vv43, _, ⟨T43, L43, k43, n43⟩, -, X43, ⟨Lc43, hQ43, l43, y43, z43⟩, st43⟩ := X0.virtualBackUp hx (x := (⟨"com/example/puzzled_pilot/puzzledpilot/model/Operator", "ordinal", "()I"⟩ : MethodName)) (y := (⟨"java/lang/Enum", "ordinal", "()I"⟩ : MethodName)) (owner := "java/lang/Enum") hown (mvT hZ (hw _ (List.mem_of_getElem? (i := 25) rfl))) (mvT hZ (hw _ (List.mem_of_getElem? (i := 26) rfl))) (mvT hZ (hw _ (List.mem_of_getElem? (i := 27) rfl))) (by decide) (mvT hZ (hw _ (List.mem_of_getElem? (i := 29) rfl))) (mvT hZ (hw _ (List.mem_of_getElem? (i := 28) rfl))) (backOf (W := 0) (rm_or l Z a0 hw [] (w k) k.toInt32 h0 n0 Z0 F) hZ (hw _ (List.mem_of_getElem? (i := 31) rfl)) (hw _ (List.mem_of_getElem? (i := 30) rfl)) (by decide) (by decide)) q43a q43c (g := (mkF m 1 #[.val (.ref (w k)), .val (.long x1), .second, .val (.long x2), .second] [(.ref (w k))])) rfl (by rw [hml]; rfl) (Steps.refl _) (argsL := []) (rest := []) (lenOf own_pd_0 rfl) rfl (by show 2 * 0 + _ ≤ _; exact Nat.le_of_eq rfl) (hb hby own_d4_1) (fun _ _ => ⟨rfl, e0, (by decide : 0 + 0 ≤ _), (by decide : 0 + 0 ≤ _)⟩)
  dsimp only [Pt.U, Pt.locs, Pt.cells, Pt.slots] at X43 l43 y43 z43 st43 hQ43
  subst l43 y43 z43
  obtain ⟨rfl, N43q, e43⟩ := hQ43
  have N43 := Fr.app N0 N43q
  have pre44 : ∀ t, Steps p.tables e below (T43.setTop (mkF m 4 #[.val (.ref (w k)), .val (.long x1), .second, .val (.long x2), .second] [(.int k.toInt32)])) t → Steps p.tables e below (s₁.setTop (entryFrame m #[(.ref (w k)), (.long x1), (.long x2)] 5)) t := fun tt kk => pre0 tt (by
    show Steps p.tables e below (s₁.setTop (mkF m 0 #[.val (.ref (w k)), .val (.long x1), .second, .val (.long x2), .second] [])) _
    refine XS.aloadN X0.here hx rfl (hb hby own_d4_0) rfl rfl ?_
    show Steps p.tables e below (s₁.setTop (mkF m 1 #[.val (.ref (w k)), .val (.long x1), .second, .val (.long x2), .second] [(.ref (w k))])) _
    refine st43.trans ?_
    exact kk)
  rcases own_c5 hk with hj | hj | hj | hj | hj
  · obtain ⟨fs, hr, hrun, hended, hW, hsame⟩ := X43.leave (v := some (.long (x1 &&& x2))) (fun h => by rw [Bd.returns] at h; cases h)
    refine ⟨_, _, pre44 _ ?_, hrun, hended, _, _, rfl, ?_, ⟨_, rfl⟩, hW, hsame.mono (by decide) (by decide)⟩
    · show Steps p.tables e below (T43.setTop (mkF m 4 #[.val (.ref (w k)), .val (.long x1), .second, .val (.long x2), .second] [(.int k.toInt32)])) _
      refine XS.tswIn X43.here hx rfl (pc0 := 4) (pc' := 94) rfl (hb hby own_d4_4) rfl (by rw [hj]; decide) (by rw [hj]; rfl) (by decide) (by decide) ?_
      show Steps p.tables e below (T43.setTop (mkF m 94 #[.val (.ref (w k)), .val (.long x1), .second, .val (.long x2), .second] [])) _
      refine XS.lloadN X43.here hx rfl (hb hby own_d4_94) rfl ?_
      show Steps p.tables e below (T43.setTop (mkF m 95 #[.val (.ref (w k)), .val (.long x1), .second, .val (.long x2), .second] [(.long x1)])) _
      refine XS.lloadN X43.here hx rfl (hb hby own_d4_95) rfl ?_
      show Steps p.tables e below (T43.setTop (mkF m 96 #[.val (.ref (w k)), .val (.long x1), .second, .val (.long x2), .second] [(.long x2), (.long x1)])) _
      refine XS.land X43.here hx rfl (hb hby own_d4_96) rfl ?_
      show Steps p.tables e below (T43.setTop (mkF m 97 #[.val (.ref (w k)), .val (.long x1), .second, .val (.long x2), .second] [(.long (x1 &&& x2))])) _
      refine XS.goto X43.here hx rfl (pc0 := 97) (pc' := 239) rfl (hb hby own_d4_97) (by decide) (by decide) ?_
      show Steps p.tables e below (T43.setTop (mkF m 239 #[.val (.ref (w k)), .val (.long x1), .second, .val (.long x2), .second] [(.long (x1 &&& x2))])) _
      exact retOut X43 hx Bd.returns rfl (Or.inr (Or.inl ⟨rfl, rfl, _, rfl⟩)) (hb hby own_d4_239) hr
    · show QP (.long (own_ap k x1 x2)) h0 n0 _ T43.heap _
      rw [e43]
      exact ⟨by rw [hj]; rfl, N43, rfl⟩
  · obtain ⟨fs, hr, hrun, hended, hW, hsame⟩ := X43.leave (v := some (.long (x1 ||| x2))) (fun h => by rw [Bd.returns] at h; cases h)
    refine ⟨_, _, pre44 _ ?_, hrun, hended, _, _, rfl, ?_, ⟨_, rfl⟩, hW, hsame.mono (by decide) (by decide)⟩
    · show Steps p.tables e below (T43.setTop (mkF m 4 #[.val (.ref (w k)), .val (.long x1), .second, .val (.long x2), .second] [(.int k.toInt32)])) _
      refine XS.tswIn X43.here hx rfl (pc0 := 4) (pc' := 100) rfl (hb hby own_d4_4) rfl (by rw [hj]; decide) (by rw [hj]; rfl) (by decide) (by decide) ?_
      show Steps p.tables e below (T43.setTop (mkF m 100 #[.val (.ref (w k)), .val (.long x1), .second, .val (.long x2), .second] [])) _
      refine XS.lloadN X43.here hx rfl (hb hby own_d4_100) rfl ?_
      show Steps p.tables e below (T43.setTop (mkF m 101 #[.val (.ref (w k)), .val (.long x1), .second, .val (.long x2), .second] [(.long x1)])) _
      refine XS.lloadN X43.here hx rfl (hb hby own_d4_101) rfl ?_
      show Steps p.tables e below (T43.setTop (mkF m 102 #[.val (.ref (w k)), .val (.long x1), .second, .val (.long x2), .second] [(.long x2), (.long x1)])) _
      refine XS.lor X43.here hx rfl (hb hby own_d4_102) rfl ?_
      show Steps p.tables e below (T43.setTop (mkF m 103 #[.val (.ref (w k)), .val (.long x1), .second, .val (.long x2), .second] [(.long (x1 ||| x2))])) _
      refine XS.goto X43.here hx rfl (pc0 := 103) (pc' := 239) rfl (hb hby own_d4_103) (by decide) (by decide) ?_
      show Steps p.tables e below (T43.setTop (mkF m 239 #[.val (.ref (w k)), .val (.long x1), .second, .val (.long x2), .second] [(.long (x1 ||| x2))])) _
      exact retOut X43 hx Bd.returns rfl (Or.inr (Or.inl ⟨rfl, rfl, _, rfl⟩)) (hb hby own_d4_239) hr
    · show QP (.long (own_ap k x1 x2)) h0 n0 _ T43.heap _
      rw [e43]
      exact ⟨by rw [hj]; rfl, N43, rfl⟩
  · obtain ⟨fs, hr, hrun, hended, hW, hsame⟩ := X43.leave (v := some (.long (x1 ^^^ x2))) (fun h => by rw [Bd.returns] at h; cases h)
    refine ⟨_, _, pre44 _ ?_, hrun, hended, _, _, rfl, ?_, ⟨_, rfl⟩, hW, hsame.mono (by decide) (by decide)⟩
    · show Steps p.tables e below (T43.setTop (mkF m 4 #[.val (.ref (w k)), .val (.long x1), .second, .val (.long x2), .second] [(.int k.toInt32)])) _
      refine XS.tswIn X43.here hx rfl (pc0 := 4) (pc' := 106) rfl (hb hby own_d4_4) rfl (by rw [hj]; decide) (by rw [hj]; rfl) (by decide) (by decide) ?_
      show Steps p.tables e below (T43.setTop (mkF m 106 #[.val (.ref (w k)), .val (.long x1), .second, .val (.long x2), .second] [])) _
      refine XS.lloadN X43.here hx rfl (hb hby own_d4_106) rfl ?_
      show Steps p.tables e below (T43.setTop (mkF m 107 #[.val (.ref (w k)), .val (.long x1), .second, .val (.long x2), .second] [(.long x1)])) _
      refine XS.lloadN X43.here hx rfl (hb hby own_d4_107) rfl ?_
      show Steps p.tables e below (T43.setTop (mkF m 108 #[.val (.ref (w k)), .val (.long x1), .second, .val (.long x2), .second] [(.long x2), (.long x1)])) _
      refine XS.lxor X43.here hx rfl (hb hby own_d4_108) rfl ?_
      show Steps p.tables e below (T43.setTop (mkF m 109 #[.val (.ref (w k)), .val (.long x1), .second, .val (.long x2), .second] [(.long (x1 ^^^ x2))])) _
      refine XS.goto X43.here hx rfl (pc0 := 109) (pc' := 239) rfl (hb hby own_d4_109) (by decide) (by decide) ?_
      show Steps p.tables e below (T43.setTop (mkF m 239 #[.val (.ref (w k)), .val (.long x1), .second, .val (.long x2), .second] [(.long (x1 ^^^ x2))])) _
      exact retOut X43 hx Bd.returns rfl (Or.inr (Or.inl ⟨rfl, rfl, _, rfl⟩)) (hb hby own_d4_239) hr
    · show QP (.long (own_ap k x1 x2)) h0 n0 _ T43.heap _
      rw [e43]
      exact ⟨by rw [hj]; rfl, N43, rfl⟩
  · obtain ⟨fs, hr, hrun, hended, hW, hsame⟩ := X43.leave (v := some (.long (((1 : Int64) - x1) ||| x2))) (fun h => by rw [Bd.returns] at h; cases h)
    refine ⟨_, _, pre44 _ ?_, hrun, hended, _, _, rfl, ?_, ⟨_, rfl⟩, hW, hsame.mono (by decide) (by decide)⟩
    · show Steps p.tables e below (T43.setTop (mkF m 4 #[.val (.ref (w k)), .val (.long x1), .second, .val (.long x2), .second] [(.int k.toInt32)])) _
      refine XS.tswIn X43.here hx rfl (pc0 := 4) (pc' := 112) rfl (hb hby own_d4_4) rfl (by rw [hj]; decide) (by rw [hj]; rfl) (by decide) (by decide) ?_
      show Steps p.tables e below (T43.setTop (mkF m 112 #[.val (.ref (w k)), .val (.long x1), .second, .val (.long x2), .second] [])) _
      refine XS.lconst X43.here hx rfl (hb hby own_d4_112) ?_
      show Steps p.tables e below (T43.setTop (mkF m 113 #[.val (.ref (w k)), .val (.long x1), .second, .val (.long x2), .second] [(.long (1 : Int64))])) _
      refine XS.lloadN X43.here hx rfl (hb hby own_d4_113) rfl ?_
      show Steps p.tables e below (T43.setTop (mkF m 114 #[.val (.ref (w k)), .val (.long x1), .second, .val (.long x2), .second] [(.long x1), (.long (1 : Int64))])) _
      refine XS.lsub X43.here hx rfl (hb hby own_d4_114) rfl ?_
      show Steps p.tables e below (T43.setTop (mkF m 115 #[.val (.ref (w k)), .val (.long x1), .second, .val (.long x2), .second] [(.long ((1 : Int64) - x1))])) _
      refine XS.lloadN X43.here hx rfl (hb hby own_d4_115) rfl ?_
      show Steps p.tables e below (T43.setTop (mkF m 116 #[.val (.ref (w k)), .val (.long x1), .second, .val (.long x2), .second] [(.long x2), (.long ((1 : Int64) - x1))])) _
      refine XS.lor X43.here hx rfl (hb hby own_d4_116) rfl ?_
      show Steps p.tables e below (T43.setTop (mkF m 117 #[.val (.ref (w k)), .val (.long x1), .second, .val (.long x2), .second] [(.long (((1 : Int64) - x1) ||| x2))])) _
      refine XS.goto X43.here hx rfl (pc0 := 117) (pc' := 239) rfl (hb hby own_d4_117) (by decide) (by decide) ?_
      show Steps p.tables e below (T43.setTop (mkF m 239 #[.val (.ref (w k)), .val (.long x1), .second, .val (.long x2), .second] [(.long (((1 : Int64) - x1) ||| x2))])) _
      exact retOut X43 hx Bd.returns rfl (Or.inr (Or.inl ⟨rfl, rfl, _, rfl⟩)) (hb hby own_d4_239) hr
    · show QP (.long (own_ap k x1 x2)) h0 n0 _ T43.heap _
      rw [e43]
      exact ⟨by rw [hj]; rfl, N43, rfl⟩
  · have pre45 : ∀ t, Steps p.tables e below (T43.setTop (mkF m 123 #[.val (.ref (w k)), .val (.long x1), .second, .val (.long x2), .second] [(.int (lcmpW x1 x2))])) t → Steps p.tables e below (s₁.setTop (entryFrame m #[(.ref (w k)), (.long x1), (.long x2)] 5)) t := fun tt kk => pre44 tt (by
      show Steps p.tables e below (T43.setTop (mkF m 4 #[.val (.ref (w k)), .val (.long x1), .second, .val (.long x2), .second] [(.int k.toInt32)])) _
      refine XS.tswIn X43.here hx rfl (pc0 := 4) (pc' := 120) rfl (hb hby own_d4_4) rfl (by rw [hj]; decide) (by rw [hj]; rfl) (by decide) (by decide) ?_
      show Steps p.tables e below (T43.setTop (mkF m 120 #[.val (.ref (w k)), .val (.long x1), .second, .val (.long x2), .second] [])) _
      refine XS.lloadN X43.here hx rfl (hb hby own_d4_120) rfl ?_
      show Steps p.tables e below (T43.setTop (mkF m 121 #[.val (.ref (w k)), .val (.long x1), .second, .val (.long x2), .second] [(.long x1)])) _
      refine XS.lloadN X43.here hx rfl (hb hby own_d4_121) rfl ?_
      show Steps p.tables e below (T43.setTop (mkF m 122 #[.val (.ref (w k)), .val (.long x1), .second, .val (.long x2), .second] [(.long x2), (.long x1)])) _
      refine XS.lcmp X43.here hx rfl (hb hby own_d4_122) rfl ?_
      exact kk)
    by_cases hc123 : x1 = x2
    · obtain ⟨fs, hr, hrun, hended, hW, hsame⟩ := X43.leave (v := some (.long (1 : Int64))) (fun h => by rw [Bd.returns] at h; cases h)
      refine ⟨_, _, pre45 _ ?_, hrun, hended, _, _, rfl, ?_, ⟨_, rfl⟩, hW, hsame.mono (by decide) (by decide)⟩
      · show Steps p.tables e below (T43.setTop (mkF m 123 #[.val (.ref (w k)), .val (.long x1), .second, .val (.long x2), .second] [(.int (lcmpW x1 x2))])) _
        refine XS.ifNo X43.here hx rfl (hb hby own_d4_123) rfl ((if0 _ _).trans (teq ((lw_eq _ _).mpr hc123)).2) ?_
        show Steps p.tables e below (T43.setTop (mkF m 126 #[.val (.ref (w k)), .val (.long x1), .second, .val (.long x2), .second] [])) _
        refine XS.lconst X43.here hx rfl (hb hby own_d4_126) ?_
        show Steps p.tables e below (T43.setTop (mkF m 127 #[.val (.ref (w k)), .val (.long x1), .second, .val (.long x2), .second] [(.long (1 : Int64))])) _
        refine XS.goto X43.here hx rfl (pc0 := 127) (pc' := 239) rfl (hb hby own_d4_127) (by decide) (by decide) ?_
        show Steps p.tables e below (T43.setTop (mkF m 239 #[.val (.ref (w k)), .val (.long x1), .second, .val (.long x2), .second] [(.long (1 : Int64))])) _
        exact retOut X43 hx Bd.returns rfl (Or.inr (Or.inl ⟨rfl, rfl, _, rfl⟩)) (hb hby own_d4_239) hr
      · show QP (.long (own_ap k x1 x2)) h0 n0 _ T43.heap _
        rw [e43]
        exact ⟨by rw [hj]; show _ = some (Value.long (if x1 = x2 then 1 else 0)); rw [if_pos hc123], N43, rfl⟩
    · obtain ⟨fs, hr, hrun, hended, hW, hsame⟩ := X43.leave (v := some (.long (0 : Int64))) (fun h => by rw [Bd.returns] at h; cases h)
      refine ⟨_, _, pre45 _ ?_, hrun, hended, _, _, rfl, ?_, ⟨_, rfl⟩, hW, hsame.mono (by decide) (by decide)⟩
      · show Steps p.tables e below (T43.setTop (mkF m 123 #[.val (.ref (w k)), .val (.long x1), .second, .val (.long x2), .second] [(.int (lcmpW x1 x2))])) _
        refine XS.ifYes X43.here hx rfl (pc0 := 123) (pc' := 130) rfl (hb hby own_d4_123) rfl ((if0 _ _).trans (feq (mt (lw_eq _ _).mp hc123)).2) (by decide) (by decide) ?_
        show Steps p.tables e below (T43.setTop (mkF m 130 #[.val (.ref (w k)), .val (.long x1), .second, .val (.long x2), .second] [])) _
        refine XS.lconst X43.here hx rfl (hb hby own_d4_130) ?_
        show Steps p.tables e below (T43.setTop (mkF m 131 #[.val (.ref (w k)), .val (.long x1), .second, .val (.long x2), .second] [(.long (0 : Int64))])) _
        refine XS.goto X43.here hx rfl (pc0 := 131) (pc' := 239) rfl (hb hby own_d4_131) (by decide) (by decide) ?_
        show Steps p.tables e below (T43.setTop (mkF m 239 #[.val (.ref (w k)), .val (.long x1), .second, .val (.long x2), .second] [(.long (0 : Int64))])) _
        exact retOut X43 hx Bd.returns rfl (Or.inr (Or.inl ⟨rfl, rfl, _, rfl⟩)) (hb hby own_d4_239) hr
      · show QP (.long (own_ap k x1 x2)) h0 n0 _ T43.heap _
        rw [e43]
        exact ⟨by rw [hj]; show _ = some (Value.long (if x1 = x2 then 1 else 0)); rw [if_neg hc123], N43, rfl⟩
theorem own_d2_0 : decode prog_78_method_7_code 0 = .ok (.lload_n 1, 1) := by decide +kernel
theorem own_d2_1 : decode prog_78_method_7_code 1 = .ok (.lconst 0, 1) := by decide +kernel
theorem own_d2_2 : decode prog_78_method_7_code 2 = .ok (.lcmp, 1) := by decide +kernel
theorem own_d2_3 : decode prog_78_method_7_code 3 = .ok (.ifCond .ne 17, 3) := by decide +kernel
theorem own_d2_6 : decode prog_78_method_7_code 6 = .ok (.aload_n 0, 1) := by decide +kernel
theorem own_d2_7 : decode prog_78_method_7_code 7 = .ok (.getstatic 3, 3) := by decide +kernel
theorem own_d2_10 : decode prog_78_method_7_code 10 = .ok (.if_acmp .eq 23, 3) := by decide +kernel
theorem own_d2_13 : decode prog_78_method_7_code 13 = .ok (.aload_n 0, 1) := by decide +kernel
theorem own_d2_14 : decode prog_78_method_7_code 14 = .ok (.getstatic 13, 3) := by decide +kernel
theorem own_d2_17 : decode prog_78_method_7_code 17 = .ok (.if_acmp .eq 16, 3) := by decide +kernel
theorem own_d2_20 : decode prog_78_method_7_code 20 = .ok (.lload_n 1, 1) := by decide +kernel
theorem own_d2_21 : decode prog_78_method_7_code 21 = .ok (.lconst 1, 1) := by decide +kernel
theorem own_d2_22 : decode prog_78_method_7_code 22 = .ok (.lcmp, 1) := by decide +kernel
theorem own_d2_23 : decode prog_78_method_7_code 23 = .ok (.ifCond .ne 14, 3) := by decide +kernel
theorem own_d2_26 : decode prog_78_method_7_code 26 = .ok (.aload_n 0, 1) := by decide +kernel
theorem own_d2_27 : decode prog_78_method_7_code 27 = .ok (.getstatic 7, 3) := by decide +kernel
theorem own_d2_30 : decode prog_78_method_7_code 30 = .ok (.if_acmp .ne 7, 3) := by decide +kernel
theorem own_d2_33 : decode prog_78_method_7_code 33 = .ok (.iconst 1, 1) := by decide +kernel
theorem own_d2_34 : decode prog_78_method_7_code 34 = .ok (.goto 4, 3) := by decide +kernel
theorem own_d2_37 : decode prog_78_method_7_code 37 = .ok (.iconst 0, 1) := by decide +kernel
theorem own_d2_38 : decode prog_78_method_7_code 38 = .ok (.ireturn, 1) := by decide +kernel
set_option maxRecDepth 65536 in
set_option maxHeartbeats 40000000 in
theorem rm_db (l : Launch) (Z : State) (a0 : Array Value) (hw : ∀ d ∈ tables_1, d.before a0 Z = true) (ws : List Jvm.Cond) (x0 : Addr) (x1 : Int64) (w : Nat → Addr) (h0 : Heap) (n0 : Nat) (Z0 : n0 ≤ h0.size) (ST : STA Z h0 w) :
    MetFree l (⟨"com/example/puzzled_pilot/puzzledpilot/model/Operator", "isDecidedBy", "(J)Z"⟩ : MethodName) (head1 (Jvm.Cond.code (⟨"com/example/puzzled_pilot/puzzledpilot/model/Operator", "isDecidedBy", "(J)Z"⟩ : MethodName) prog_78_method_7_code 3 (some .boolean) :: ws) ({ frames := 0, cells := 0, slots := 0, locals := 0 } : Room)) (fun a U => a = #[(.ref x0), (.long x1)] ∧ Z.Warmed39 U.vm ∧ U.heap = h0) (fun _ _ _ _ _ => True) (fun _ U o U' => ∃ v L, o = .returned v ∧ QP (.int (own_db w x0 x1)) h0 n0 v U'.heap L ∧ FrameEnd U o U' L ({ frames := 0, cells := 0, slots := 0, locals := 0 } : Room).cells ({ frames := 0, cells := 0, slots := 0, locals := 0 } : Room).slots) := by
  refine MetFree.of_bodySF (plainFor_of_name (by first | (simp [plainName, overriddenIn]; done) | decide +kernel)) hisR ?_
  intro p e s m args below meth c s₁ Bd hml0 hP hK
  obtain ⟨rfl, hZ, hh⟩ := hP
  have hx := Bd.exec
  have hby := Bd.bytes
  have hml : c.maxLocals = 3 := hml0
  have hown : s.vm.findClass "com/example/puzzled_pilot/puzzledpilot/model/Operator" = some m.cls := findClass_of_methodNamed Bd.named
  have hnm := (name_of_methodNamed Bd.named Bd.method).1
  have X0 : Stand p l e ({ frames := 0, cells := 0, slots := 0, locals := 0 } : Room) s m #[(.ref x0), (.long x1)] below meth c s₁ [] 0 0 := Stand.of_body Bd
  have e0 : s₁.heap = h0 := by rw [← hh, Bd.state]; rfl
  have N0 := Fr.nil n0
  have ef0 : entryFrame m #[(.ref x0), (.long x1)] 3 = mkF m 0 #[.val (.ref x0), .val (.long x1), .second] [] := by first | (simp [entryFrame, mkF, argsToLocals, Value.category, maxLocals]; done) | rfl
  have pre0 : ∀ t, Steps p.tables e below (s₁.setTop (mkF m 0 #[.val (.ref x0), .val (.long x1), .second] [])) t → Steps p.tables e below (s₁.setTop (entryFrame m #[(.ref x0), (.long x1)] 3)) t := fun t k => castTop ef0 k
  have pre46 : ∀ t, Steps p.tables e below (s₁.setTop (mkF m 3 #[.val (.ref x0), .val (.long x1), .second] [(.int (lcmpW x1 (0 : Int64)))])) t → Steps p.tables e below (s₁.setTop (entryFrame m #[(.ref x0), (.long x1)] 3)) t := fun tt kk => pre0 tt (by
    show Steps p.tables e below (s₁.setTop (mkF m 0 #[.val (.ref x0), .val (.long x1), .second] [])) _
    refine XS.lloadN X0.here hx rfl (hb hby own_d2_0) rfl ?_
    show Steps p.tables e below (s₁.setTop (mkF m 1 #[.val (.ref x0), .val (.long x1), .second] [(.long x1)])) _
    refine XS.lconst X0.here hx rfl (hb hby own_d2_1) ?_
    show Steps p.tables e below (s₁.setTop (mkF m 2 #[.val (.ref x0), .val (.long x1), .second] [(.long (0 : Int64)), (.long x1)])) _
    refine XS.lcmp X0.here hx rfl (hb hby own_d2_2) rfl ?_
    exact kk)
  by_cases hc3 : x1 = (0 : Int64)
  · obtain ⟨T47, X47, e47, st47⟩ := getS2 X0 hx hZ hown (host := "") (Or.inl (hw _ (List.mem_of_getElem? (i := 19) rfl))) Via.refl e0 ST.1 (g := (mkF m 7 #[.val (.ref x0), .val (.long x1), .second] [(.ref x0)])) rfl (hb hby own_d2_7)
    have pre48 : ∀ t, Steps p.tables e below (T47.setTop (mkF m 10 #[.val (.ref x0), .val (.long x1), .second] [(.ref (w 0)), (.ref x0)])) t → Steps p.tables e below (s₁.setTop (entryFrame m #[(.ref x0), (.long x1)] 3)) t := fun tt kk => pre46 tt (by
      show Steps p.tables e below (s₁.setTop (mkF m 3 #[.val (.ref x0), .val (.long x1), .second] [(.int (lcmpW x1 (0 : Int64)))])) _
      refine XS.ifNo X0.here hx rfl (hb hby own_d2_3) rfl ((if0 _ _).trans (teq ((lw_eq _ _).mpr hc3)).2) ?_
      show Steps p.tables e below (s₁.setTop (mkF m 6 #[.val (.ref x0), .val (.long x1), .second] [])) _
      refine XS.aloadN X0.here hx rfl (hb hby own_d2_6) rfl rfl ?_
      show Steps p.tables e below (s₁.setTop (mkF m 7 #[.val (.ref x0), .val (.long x1), .second] [(.ref x0)])) _
      refine st47 _ ?_
      exact kk)
    by_cases ha10 : x0 = (w 0)
    · obtain ⟨fs, hr, hrun, hended, hW, hsame⟩ := X47.leave (v := some (.int (1 : Int32))) (fun h => by rw [Bd.returns] at h; cases h)
      refine ⟨_, _, pre48 _ ?_, hrun, hended, _, _, rfl, ?_, ⟨_, rfl⟩, hW, hsame.mono (by decide) (by decide)⟩
      · show Steps p.tables e below (T47.setTop (mkF m 10 #[.val (.ref x0), .val (.long x1), .second] [(.ref (w 0)), (.ref x0)])) _
        refine Jvm.RoadKit.acmp (g := (mkF m 10 #[.val (.ref x0), .val (.long x1), .second] [(.ref (w 0)), (.ref x0)])) X47 hx rfl rfl rfl (pc0 := 10) (pc' := 33) (same := true) rfl (hb hby own_d2_10) rfl (decide_eq_true (congrArg Value.ref ha10)) (by decide) (by decide) ?_
        show Steps p.tables e below (T47.setTop (mkF m 33 #[.val (.ref x0), .val (.long x1), .second] [])) _
        refine XS.iconst X47.here hx rfl (hb hby own_d2_33) ?_
        show Steps p.tables e below (T47.setTop (mkF m 34 #[.val (.ref x0), .val (.long x1), .second] [(.int (1 : Int32))])) _
        refine XS.goto X47.here hx rfl (pc0 := 34) (pc' := 38) rfl (hb hby own_d2_34) (by decide) (by decide) ?_
        show Steps p.tables e below (T47.setTop (mkF m 38 #[.val (.ref x0), .val (.long x1), .second] [(.int (1 : Int32))])) _
        exact retN X47 hx (t := .boolean) Bd.returns (by simp) (hb hby own_d2_38) hr
      · show QP (.int (own_db w x0 x1)) h0 n0 _ T47.heap _
        rw [e47]
        exact ⟨by rw [own_db]; rw [if_pos hc3, if_pos ha10], N0, rfl⟩
    · obtain ⟨T49, X49, e49, st49⟩ := getS2 X47 hx hZ hown (host := "") (Or.inl (hw _ (List.mem_of_getElem? (i := 47) rfl))) Via.refl e47 ST.2.2.2.1 (g := (mkF m 14 #[.val (.ref x0), .val (.long x1), .second] [(.ref x0)])) rfl (hb hby own_d2_14)
      have pre50 : ∀ t, Steps p.tables e below (T49.setTop (mkF m 17 #[.val (.ref x0), .val (.long x1), .second] [(.ref (w 3)), (.ref x0)])) t → Steps p.tables e below (s₁.setTop (entryFrame m #[(.ref x0), (.long x1)] 3)) t := fun tt kk => pre48 tt (by
        show Steps p.tables e below (T47.setTop (mkF m 10 #[.val (.ref x0), .val (.long x1), .second] [(.ref (w 0)), (.ref x0)])) _
        refine Jvm.RoadKit.acmp (g := (mkF m 10 #[.val (.ref x0), .val (.long x1), .second] [(.ref (w 0)), (.ref x0)])) X47 hx rfl rfl rfl (pc0 := 10) (pc' := 13) (same := false) rfl (hb hby own_d2_10) rfl (decide_eq_false fun q => ha10 (Value.ref.inj q)) (by decide) (by decide) ?_
        show Steps p.tables e below (T47.setTop (mkF m 13 #[.val (.ref x0), .val (.long x1), .second] [])) _
        refine XS.aloadN X47.here hx rfl (hb hby own_d2_13) rfl rfl ?_
        show Steps p.tables e below (T47.setTop (mkF m 14 #[.val (.ref x0), .val (.long x1), .second] [(.ref x0)])) _
        refine st49 _ ?_
        exact kk)
      by_cases ha17 : x0 = (w 3)
      · obtain ⟨fs, hr, hrun, hended, hW, hsame⟩ := X49.leave (v := some (.int (1 : Int32))) (fun h => by rw [Bd.returns] at h; cases h)
        refine ⟨_, _, pre50 _ ?_, hrun, hended, _, _, rfl, ?_, ⟨_, rfl⟩, hW, hsame.mono (by decide) (by decide)⟩
        · show Steps p.tables e below (T49.setTop (mkF m 17 #[.val (.ref x0), .val (.long x1), .second] [(.ref (w 3)), (.ref x0)])) _
          refine Jvm.RoadKit.acmp (g := (mkF m 17 #[.val (.ref x0), .val (.long x1), .second] [(.ref (w 3)), (.ref x0)])) X49 hx rfl rfl rfl (pc0 := 17) (pc' := 33) (same := true) rfl (hb hby own_d2_17) rfl (decide_eq_true (congrArg Value.ref ha17)) (by decide) (by decide) ?_
          show Steps p.tables e below (T49.setTop (mkF m 33 #[.val (.ref x0), .val (.long x1), .second] [])) _
          refine XS.iconst X49.here hx rfl (hb hby own_d2_33) ?_
          show Steps p.tables e below (T49.setTop (mkF m 34 #[.val (.ref x0), .val (.long x1), .second] [(.int (1 : Int32))])) _
          refine XS.goto X49.here hx rfl (pc0 := 34) (pc' := 38) rfl (hb hby own_d2_34) (by decide) (by decide) ?_
          show Steps p.tables e below (T49.setTop (mkF m 38 #[.val (.ref x0), .val (.long x1), .second] [(.int (1 : Int32))])) _
          exact retN X49 hx (t := .boolean) Bd.returns (by simp) (hb hby own_d2_38) hr
        · show QP (.int (own_db w x0 x1)) h0 n0 _ T49.heap _
          rw [e49]
          exact ⟨by rw [own_db]; rw [if_pos hc3, if_neg ha10, if_pos ha17], N0, rfl⟩
      · have pre51 : ∀ t, Steps p.tables e below (T49.setTop (mkF m 23 #[.val (.ref x0), .val (.long x1), .second] [(.int (lcmpW x1 (1 : Int64)))])) t → Steps p.tables e below (s₁.setTop (entryFrame m #[(.ref x0), (.long x1)] 3)) t := fun tt kk => pre50 tt (by
          show Steps p.tables e below (T49.setTop (mkF m 17 #[.val (.ref x0), .val (.long x1), .second] [(.ref (w 3)), (.ref x0)])) _
          refine Jvm.RoadKit.acmp (g := (mkF m 17 #[.val (.ref x0), .val (.long x1), .second] [(.ref (w 3)), (.ref x0)])) X49 hx rfl rfl rfl (pc0 := 17) (pc' := 20) (same := false) rfl (hb hby own_d2_17) rfl (decide_eq_false fun q => ha17 (Value.ref.inj q)) (by decide) (by decide) ?_
          show Steps p.tables e below (T49.setTop (mkF m 20 #[.val (.ref x0), .val (.long x1), .second] [])) _
          refine XS.lloadN X49.here hx rfl (hb hby own_d2_20) rfl ?_
          show Steps p.tables e below (T49.setTop (mkF m 21 #[.val (.ref x0), .val (.long x1), .second] [(.long x1)])) _
          refine XS.lconst X49.here hx rfl (hb hby own_d2_21) ?_
          show Steps p.tables e below (T49.setTop (mkF m 22 #[.val (.ref x0), .val (.long x1), .second] [(.long (1 : Int64)), (.long x1)])) _
          refine XS.lcmp X49.here hx rfl (hb hby own_d2_22) rfl ?_
          exact kk)
        by_cases hc23 : x1 = (1 : Int64)
        · obtain ⟨T52, X52, e52, st52⟩ := getS2 X49 hx hZ hown (host := "") (Or.inl (hw _ (List.mem_of_getElem? (i := 12) rfl))) Via.refl e49 ST.2.1 (g := (mkF m 27 #[.val (.ref x0), .val (.long x1), .second] [(.ref x0)])) rfl (hb hby own_d2_27)
          have pre53 : ∀ t, Steps p.tables e below (T52.setTop (mkF m 30 #[.val (.ref x0), .val (.long x1), .second] [(.ref (w 1)), (.ref x0)])) t → Steps p.tables e below (s₁.setTop (entryFrame m #[(.ref x0), (.long x1)] 3)) t := fun tt kk => pre51 tt (by
            show Steps p.tables e below (T49.setTop (mkF m 23 #[.val (.ref x0), .val (.long x1), .second] [(.int (lcmpW x1 (1 : Int64)))])) _
            refine XS.ifNo X49.here hx rfl (hb hby own_d2_23) rfl ((if0 _ _).trans (teq ((lw_eq _ _).mpr hc23)).2) ?_
            show Steps p.tables e below (T49.setTop (mkF m 26 #[.val (.ref x0), .val (.long x1), .second] [])) _
            refine XS.aloadN X49.here hx rfl (hb hby own_d2_26) rfl rfl ?_
            show Steps p.tables e below (T49.setTop (mkF m 27 #[.val (.ref x0), .val (.long x1), .second] [(.ref x0)])) _
            refine st52 _ ?_
            exact kk)
          by_cases ha30 : x0 = (w 1)
          · obtain ⟨fs, hr, hrun, hended, hW, hsame⟩ := X52.leave (v := some (.int (1 : Int32))) (fun h => by rw [Bd.returns] at h; cases h)
            refine ⟨_, _, pre53 _ ?_, hrun, hended, _, _, rfl, ?_, ⟨_, rfl⟩, hW, hsame.mono (by decide) (by decide)⟩
            · show Steps p.tables e below (T52.setTop (mkF m 30 #[.val (.ref x0), .val (.long x1), .second] [(.ref (w 1)), (.ref x0)])) _
              refine Jvm.RoadKit.acmp (g := (mkF m 30 #[.val (.ref x0), .val (.long x1), .second] [(.ref (w 1)), (.ref x0)])) X52 hx rfl rfl rfl (pc0 := 30) (pc' := 33) (same := true) rfl (hb hby own_d2_30) rfl (decide_eq_true (congrArg Value.ref ha30)) (by decide) (by decide) ?_
              show Steps p.tables e below (T52.setTop (mkF m 33 #[.val (.ref x0), .val (.long x1), .second] [])) _
              refine XS.iconst X52.here hx rfl (hb hby own_d2_33) ?_
              show Steps p.tables e below (T52.setTop (mkF m 34 #[.val (.ref x0), .val (.long x1), .second] [(.int (1 : Int32))])) _
              refine XS.goto X52.here hx rfl (pc0 := 34) (pc' := 38) rfl (hb hby own_d2_34) (by decide) (by decide) ?_
              show Steps p.tables e below (T52.setTop (mkF m 38 #[.val (.ref x0), .val (.long x1), .second] [(.int (1 : Int32))])) _
              exact retN X52 hx (t := .boolean) Bd.returns (by simp) (hb hby own_d2_38) hr
            · show QP (.int (own_db w x0 x1)) h0 n0 _ T52.heap _
              rw [e52]
              exact ⟨by rw [own_db]; rw [if_pos hc3, if_neg ha10, if_neg ha17, if_pos hc23, if_pos ha30], N0, rfl⟩
          · obtain ⟨fs, hr, hrun, hended, hW, hsame⟩ := X52.leave (v := some (.int (0 : Int32))) (fun h => by rw [Bd.returns] at h; cases h)
            refine ⟨_, _, pre53 _ ?_, hrun, hended, _, _, rfl, ?_, ⟨_, rfl⟩, hW, hsame.mono (by decide) (by decide)⟩
            · show Steps p.tables e below (T52.setTop (mkF m 30 #[.val (.ref x0), .val (.long x1), .second] [(.ref (w 1)), (.ref x0)])) _
              refine Jvm.RoadKit.acmp (g := (mkF m 30 #[.val (.ref x0), .val (.long x1), .second] [(.ref (w 1)), (.ref x0)])) X52 hx rfl rfl rfl (pc0 := 30) (pc' := 37) (same := false) rfl (hb hby own_d2_30) rfl (decide_eq_false fun q => ha30 (Value.ref.inj q)) (by decide) (by decide) ?_
              show Steps p.tables e below (T52.setTop (mkF m 37 #[.val (.ref x0), .val (.long x1), .second] [])) _
              refine XS.iconst X52.here hx rfl (hb hby own_d2_37) ?_
              show Steps p.tables e below (T52.setTop (mkF m 38 #[.val (.ref x0), .val (.long x1), .second] [(.int (0 : Int32))])) _
              exact retN X52 hx (t := .boolean) Bd.returns (by simp) (hb hby own_d2_38) hr
            · show QP (.int (own_db w x0 x1)) h0 n0 _ T52.heap _
              rw [e52]
              exact ⟨by rw [own_db]; rw [if_pos hc3, if_neg ha10, if_neg ha17, if_pos hc23, if_neg ha30], N0, rfl⟩
        · obtain ⟨fs, hr, hrun, hended, hW, hsame⟩ := X49.leave (v := some (.int (0 : Int32))) (fun h => by rw [Bd.returns] at h; cases h)
          refine ⟨_, _, pre51 _ ?_, hrun, hended, _, _, rfl, ?_, ⟨_, rfl⟩, hW, hsame.mono (by decide) (by decide)⟩
          · show Steps p.tables e below (T49.setTop (mkF m 23 #[.val (.ref x0), .val (.long x1), .second] [(.int (lcmpW x1 (1 : Int64)))])) _
            refine XS.ifYes X49.here hx rfl (pc0 := 23) (pc' := 37) rfl (hb hby own_d2_23) rfl ((if0 _ _).trans (feq (mt (lw_eq _ _).mp hc23)).2) (by decide) (by decide) ?_
            show Steps p.tables e below (T49.setTop (mkF m 37 #[.val (.ref x0), .val (.long x1), .second] [])) _
            refine XS.iconst X49.here hx rfl (hb hby own_d2_37) ?_
            show Steps p.tables e below (T49.setTop (mkF m 38 #[.val (.ref x0), .val (.long x1), .second] [(.int (0 : Int32))])) _
            exact retN X49 hx (t := .boolean) Bd.returns (by simp) (hb hby own_d2_38) hr
          · show QP (.int (own_db w x0 x1)) h0 n0 _ T49.heap _
            rw [e49]
            exact ⟨by rw [own_db]; rw [if_pos hc3, if_neg ha10, if_neg ha17, if_neg hc23], N0, rfl⟩
  · have pre54 : ∀ t, Steps p.tables e below (s₁.setTop (mkF m 23 #[.val (.ref x0), .val (.long x1), .second] [(.int (lcmpW x1 (1 : Int64)))])) t → Steps p.tables e below (s₁.setTop (entryFrame m #[(.ref x0), (.long x1)] 3)) t := fun tt kk => pre46 tt (by
      show Steps p.tables e below (s₁.setTop (mkF m 3 #[.val (.ref x0), .val (.long x1), .second] [(.int (lcmpW x1 (0 : Int64)))])) _
      refine XS.ifYes X0.here hx rfl (pc0 := 3) (pc' := 20) rfl (hb hby own_d2_3) rfl ((if0 _ _).trans (feq (mt (lw_eq _ _).mp hc3)).2) (by decide) (by decide) ?_
      show Steps p.tables e below (s₁.setTop (mkF m 20 #[.val (.ref x0), .val (.long x1), .second] [])) _
      refine XS.lloadN X0.here hx rfl (hb hby own_d2_20) rfl ?_
      show Steps p.tables e below (s₁.setTop (mkF m 21 #[.val (.ref x0), .val (.long x1), .second] [(.long x1)])) _
      refine XS.lconst X0.here hx rfl (hb hby own_d2_21) ?_
      show Steps p.tables e below (s₁.setTop (mkF m 22 #[.val (.ref x0), .val (.long x1), .second] [(.long (1 : Int64)), (.long x1)])) _
      refine XS.lcmp X0.here hx rfl (hb hby own_d2_22) rfl ?_
      exact kk)
    by_cases hc23 : x1 = (1 : Int64)
    · obtain ⟨T55, X55, e55, st55⟩ := getS2 X0 hx hZ hown (host := "") (Or.inl (hw _ (List.mem_of_getElem? (i := 12) rfl))) Via.refl e0 ST.2.1 (g := (mkF m 27 #[.val (.ref x0), .val (.long x1), .second] [(.ref x0)])) rfl (hb hby own_d2_27)
      have pre56 : ∀ t, Steps p.tables e below (T55.setTop (mkF m 30 #[.val (.ref x0), .val (.long x1), .second] [(.ref (w 1)), (.ref x0)])) t → Steps p.tables e below (s₁.setTop (entryFrame m #[(.ref x0), (.long x1)] 3)) t := fun tt kk => pre54 tt (by
        show Steps p.tables e below (s₁.setTop (mkF m 23 #[.val (.ref x0), .val (.long x1), .second] [(.int (lcmpW x1 (1 : Int64)))])) _
        refine XS.ifNo X0.here hx rfl (hb hby own_d2_23) rfl ((if0 _ _).trans (teq ((lw_eq _ _).mpr hc23)).2) ?_
        show Steps p.tables e below (s₁.setTop (mkF m 26 #[.val (.ref x0), .val (.long x1), .second] [])) _
        refine XS.aloadN X0.here hx rfl (hb hby own_d2_26) rfl rfl ?_
        show Steps p.tables e below (s₁.setTop (mkF m 27 #[.val (.ref x0), .val (.long x1), .second] [(.ref x0)])) _
        refine st55 _ ?_
        exact kk)
      by_cases ha30 : x0 = (w 1)
      · obtain ⟨fs, hr, hrun, hended, hW, hsame⟩ := X55.leave (v := some (.int (1 : Int32))) (fun h => by rw [Bd.returns] at h; cases h)
        refine ⟨_, _, pre56 _ ?_, hrun, hended, _, _, rfl, ?_, ⟨_, rfl⟩, hW, hsame.mono (by decide) (by decide)⟩
        · show Steps p.tables e below (T55.setTop (mkF m 30 #[.val (.ref x0), .val (.long x1), .second] [(.ref (w 1)), (.ref x0)])) _
          refine Jvm.RoadKit.acmp (g := (mkF m 30 #[.val (.ref x0), .val (.long x1), .second] [(.ref (w 1)), (.ref x0)])) X55 hx rfl rfl rfl (pc0 := 30) (pc' := 33) (same := true) rfl (hb hby own_d2_30) rfl (decide_eq_true (congrArg Value.ref ha30)) (by decide) (by decide) ?_
          show Steps p.tables e below (T55.setTop (mkF m 33 #[.val (.ref x0), .val (.long x1), .second] [])) _
          refine XS.iconst X55.here hx rfl (hb hby own_d2_33) ?_
          show Steps p.tables e below (T55.setTop (mkF m 34 #[.val (.ref x0), .val (.long x1), .second] [(.int (1 : Int32))])) _
          refine XS.goto X55.here hx rfl (pc0 := 34) (pc' := 38) rfl (hb hby own_d2_34) (by decide) (by decide) ?_
          show Steps p.tables e below (T55.setTop (mkF m 38 #[.val (.ref x0), .val (.long x1), .second] [(.int (1 : Int32))])) _
          exact retN X55 hx (t := .boolean) Bd.returns (by simp) (hb hby own_d2_38) hr
        · show QP (.int (own_db w x0 x1)) h0 n0 _ T55.heap _
          rw [e55]
          exact ⟨by rw [own_db]; rw [if_neg hc3, if_pos hc23, if_pos ha30], N0, rfl⟩
      · obtain ⟨fs, hr, hrun, hended, hW, hsame⟩ := X55.leave (v := some (.int (0 : Int32))) (fun h => by rw [Bd.returns] at h; cases h)
        refine ⟨_, _, pre56 _ ?_, hrun, hended, _, _, rfl, ?_, ⟨_, rfl⟩, hW, hsame.mono (by decide) (by decide)⟩
        · show Steps p.tables e below (T55.setTop (mkF m 30 #[.val (.ref x0), .val (.long x1), .second] [(.ref (w 1)), (.ref x0)])) _
          refine Jvm.RoadKit.acmp (g := (mkF m 30 #[.val (.ref x0), .val (.long x1), .second] [(.ref (w 1)), (.ref x0)])) X55 hx rfl rfl rfl (pc0 := 30) (pc' := 37) (same := false) rfl (hb hby own_d2_30) rfl (decide_eq_false fun q => ha30 (Value.ref.inj q)) (by decide) (by decide) ?_
          show Steps p.tables e below (T55.setTop (mkF m 37 #[.val (.ref x0), .val (.long x1), .second] [])) _
          refine XS.iconst X55.here hx rfl (hb hby own_d2_37) ?_
          show Steps p.tables e below (T55.setTop (mkF m 38 #[.val (.ref x0), .val (.long x1), .second] [(.int (0 : Int32))])) _
          exact retN X55 hx (t := .boolean) Bd.returns (by simp) (hb hby own_d2_38) hr
        · show QP (.int (own_db w x0 x1)) h0 n0 _ T55.heap _
          rw [e55]
          exact ⟨by rw [own_db]; rw [if_neg hc3, if_pos hc23, if_neg ha30], N0, rfl⟩
    · obtain ⟨fs, hr, hrun, hended, hW, hsame⟩ := X0.leave (v := some (.int (0 : Int32))) (fun h => by rw [Bd.returns] at h; cases h)
      refine ⟨_, _, pre54 _ ?_, hrun, hended, _, _, rfl, ?_, ⟨_, rfl⟩, hW, hsame.mono (by decide) (by decide)⟩
      · show Steps p.tables e below (s₁.setTop (mkF m 23 #[.val (.ref x0), .val (.long x1), .second] [(.int (lcmpW x1 (1 : Int64)))])) _
        refine XS.ifYes X0.here hx rfl (pc0 := 23) (pc' := 37) rfl (hb hby own_d2_23) rfl ((if0 _ _).trans (feq (mt (lw_eq _ _).mp hc23)).2) (by decide) (by decide) ?_
        show Steps p.tables e below (s₁.setTop (mkF m 37 #[.val (.ref x0), .val (.long x1), .second] [])) _
        refine XS.iconst X0.here hx rfl (hb hby own_d2_37) ?_
        show Steps p.tables e below (s₁.setTop (mkF m 38 #[.val (.ref x0), .val (.long x1), .second] [(.int (0 : Int32))])) _
        exact retN X0 hx (t := .boolean) Bd.returns (by simp) (hb hby own_d2_38) hr
      · show QP (.int (own_db w x0 x1)) h0 n0 _ s₁.heap _
        rw [e0]
        exact ⟨by rw [own_db]; rw [if_neg hc3, if_neg hc23], N0, rfl⟩
set_option maxRecDepth 65536 in
set_option maxHeartbeats 40000000 in
theorem rm0 (l : Launch) (Z : State) (a0 : Array Value) (hw : ∀ d ∈ tables_1, d.before a0 Z = true) (ws : List Jvm.Cond) (x0 x1 : Int32) (x2 : Int64) (w : Nat → Addr) (h0 : Heap) (n0 : Nat) (Z0 : n0 ≤ h0.size) (ST : STA Z h0 w) (EX : ∀ i, i < 16 → Exa Z h0 (w i) "com/example/puzzled_pilot/puzzledpilot/model/Operator") (FT : ∀ i, i < 16 → Fld Z h0 (w i) "java/lang/Enum" "ordinal" "I" (.int i.toInt32)) (INJ : ∀ i j, i < 16 → j < 16 → w i = w j → i = j) :
    MetFree l x (head1 (Jvm.Cond.code x code maxLocals ret :: ws) room_1) (fun a U => a = #[(.int x0), (.int x1), (.long x2)] ∧ Z.Warmed39 U.vm ∧ U.heap = h0) (fun _ _ _ _ _ => True) (fun _ U o U' => ∃ v L, o = .returned v ∧ Q1 n0 v U'.heap L ∧ FrameEnd U o U' L room_1.cells room_1.slots) := by
  refine MetFree.of_bodySF (plainFor_of_name (by first | (simp [plainName, overriddenIn]; done) | decide +kernel)) hisR ?_
  intro p e s m args below meth c s₁ Bd hml0 hP hK
  obtain ⟨rfl, hZ, hh⟩ := hP
  have hx := Bd.exec
  have hby := Bd.bytes
  have hml : c.maxLocals = 10 := hml0
  have hown : s.vm.findClass "com/example/puzzled_pilot/puzzledpilot/model/OperatorIsDecidedByPinLaw" = some m.cls := findClass_of_methodNamed Bd.named
  have hnm := (name_of_methodNamed Bd.named Bd.method).1
  have X0 : Stand p l e room_1 s m #[(.int x0), (.int x1), (.long x2)] below meth c s₁ [] 0 0 := Stand.of_body Bd
  have e0 : s₁.heap = h0 := by rw [← hh, Bd.state]; rfl
  have N0 := Fr.nil n0
  have ef0 : entryFrame m #[(.int x0), (.int x1), (.long x2)] maxLocals = mkF m 0 #[.val (.int x0), .val (.int x1), .val (.long x2), .second, .unset, .unset, .unset, .unset, .unset, .unset] [] := by first | (simp [entryFrame, mkF, argsToLocals, Value.category, maxLocals]; done) | rfl
  have pre0 : ∀ t, Steps p.tables e below (s₁.setTop (mkF m 0 #[.val (.int x0), .val (.int x1), .val (.long x2), .second, .unset, .unset, .unset, .unset, .unset, .unset] [])) t → Steps p.tables e below (s₁.setTop (entryFrame m #[(.int x0), (.int x1), (.long x2)] maxLocals)) t := fun t k => castTop ef0 k
  obtain ⟨k, hk', ek⟩ := own_mask x0 15 (k := 4) (by decide) (by decide)
  have hk : k < 16 := hk'
  obtain ⟨vv57, _, ⟨T57, L57, k57, n57⟩, -, X57, ⟨Lc57, hQ57, l57, y57, z57⟩, st57⟩ := Jvm.LawKit.callS X0 hx (y := (⟨"com/example/puzzled_pilot/puzzledpilot/model/OperatorIsDecidedByPinLaw", "pick", "(I)Lcom/example/puzzled_pilot/puzzledpilot/model/Operator;"⟩ : MethodName)) hown (mvT hZ (hw _ (List.mem_of_getElem? (i := 0) rfl))) (mvT hZ (hw _ (List.mem_of_getElem? (i := 1) rfl))) (mvT hZ (hw _ (List.mem_of_getElem? (i := 2) rfl))) (mvT hZ (hw _ (List.mem_of_getElem? (i := 3) rfl))) (by decide) (backOf (W := 0) (rm_pick l Z a0 hw [] (x0 &&& (15 : Int32)) w h0 n0 Z0 ST) hZ (hw _ (List.mem_of_getElem? (i := 3) rfl)) (hw _ (List.mem_of_getElem? (i := 2) rfl)) (by decide) (by decide)) (g := (mkF m 4 #[.val (.int x0), .val (.int x1), .val (.long x2), .second, .unset, .unset, .unset, .unset, .unset, .unset] [(.int (x0 &&& (15 : Int32)))])) rfl (by rw [hml]; rfl) (argsL := [(.int (x0 &&& (15 : Int32)))]) (rest := []) (lenOf own_pd_1 rfl) rfl (by show 2 * 0 + _ ≤ _; exact Nat.le_of_eq rfl) (hb hby at_4) (fun _ _ => ⟨rfl, e0, (by decide : 0 + 0 ≤ _), (by decide : 0 + 0 ≤ _)⟩)
  dsimp only [Pt.U, Pt.locs, Pt.cells, Pt.slots] at X57 l57 y57 z57 st57 hQ57
  subst l57 y57 z57
  rw [ek, own_pk_eq k hk] at hQ57
  obtain ⟨rfl, N57q, e57⟩ := hQ57
  have N57 := Fr.app N0 N57q
  have pre58 : ∀ t, Steps p.tables e below (T57.setTop (mkF m 9 #[.val (.int x0), .val (.int x1), .val (.long x2), .second, .val (.ref (w k)), .unset, .unset, .unset, .unset, .unset] [])) t → Steps p.tables e below (s₁.setTop (entryFrame m #[(.int x0), (.int x1), (.long x2)] maxLocals)) t := fun tt kk => pre0 tt (by
    show Steps p.tables e below (s₁.setTop (mkF m 0 #[.val (.int x0), .val (.int x1), .val (.long x2), .second, .unset, .unset, .unset, .unset, .unset, .unset] [])) _
    refine XS.iloadN X0.here hx rfl (hb hby at_0) rfl ?_
    show Steps p.tables e below (s₁.setTop (mkF m 1 #[.val (.int x0), .val (.int x1), .val (.long x2), .second, .unset, .unset, .unset, .unset, .unset, .unset] [(.int x0)])) _
    refine XS.bipush X0.here hx rfl (hb hby at_1) ?_
    show Steps p.tables e below (s₁.setTop (mkF m 3 #[.val (.int x0), .val (.int x1), .val (.long x2), .second, .unset, .unset, .unset, .unset, .unset, .unset] [(.int (15 : Int32)), (.int x0)])) _
    refine XS.iand X0.here hx rfl (hb hby at_3) rfl ?_
    show Steps p.tables e below (s₁.setTop (mkF m 4 #[.val (.int x0), .val (.int x1), .val (.long x2), .second, .unset, .unset, .unset, .unset, .unset, .unset] [(.int (x0 &&& (15 : Int32)))])) _
    refine st57 _ ?_
    show Steps p.tables e below (T57.setTop (mkF m 7 #[.val (.int x0), .val (.int x1), .val (.long x2), .second, .unset, .unset, .unset, .unset, .unset, .unset] [(.ref (w k))])) _
    refine XS.astore X57.here hx rfl (hb hby at_7) rfl rfl (l' := #[.val (.int x0), .val (.int x1), .val (.long x2), .second, .val (.ref (w k)), .unset, .unset, .unset, .unset, .unset]) rfl ?_
    exact kk)
  obtain ⟨lf, T59, X59, e59, pre59⟩ : ∃ (lf : Int64) (T' : State), Stand p l e room_1 s m #[(.int x0), (.int x1), (.long x2)] below meth c T' L57 0 0 ∧ T'.heap = h0 ∧ ∀ t, Steps p.tables e below (T'.setTop (mkF m 26 #[.val (.int x0), .val (.int x1), .val (.long x2), .second, .val (.ref (w k)), .unset, .unset, .unset, .unset, .unset] [(.long lf)])) t → Steps p.tables e below (s₁.setTop (entryFrame m #[(.int x0), (.int x1), (.long x2)] maxLocals)) t := by
    have pre60 : ∀ t, Steps p.tables e below (T57.setTop (mkF m 12 #[.val (.int x0), .val (.int x1), .val (.long x2), .second, .val (.ref (w k)), .unset, .unset, .unset, .unset, .unset] [(.int (x1 &&& (1 : Int32)))])) t → Steps p.tables e below (s₁.setTop (entryFrame m #[(.int x0), (.int x1), (.long x2)] maxLocals)) t := fun tt kk => pre58 tt (by
      show Steps p.tables e below (T57.setTop (mkF m 9 #[.val (.int x0), .val (.int x1), .val (.long x2), .second, .val (.ref (w k)), .unset, .unset, .unset, .unset, .unset] [])) _
      refine XS.iloadN X57.here hx rfl (hb hby at_9) rfl ?_
      show Steps p.tables e below (T57.setTop (mkF m 10 #[.val (.int x0), .val (.int x1), .val (.long x2), .second, .val (.ref (w k)), .unset, .unset, .unset, .unset, .unset] [(.int x1)])) _
      refine XS.iconst X57.here hx rfl (hb hby at_10) ?_
      show Steps p.tables e below (T57.setTop (mkF m 11 #[.val (.int x0), .val (.int x1), .val (.long x2), .second, .val (.ref (w k)), .unset, .unset, .unset, .unset, .unset] [(.int (1 : Int32)), (.int x1)])) _
      refine XS.iand X57.here hx rfl (hb hby at_11) rfl ?_
      exact kk)
    by_cases hc12 : (x1 &&& (1 : Int32)) = (0 : Int32)
    · refine ⟨((x2 &&& (3 : Int64)) - (1 : Int64)), T57, X57, e57, fun tt kk => pre60 tt ?_⟩
      show Steps p.tables e below (T57.setTop (mkF m 12 #[.val (.int x0), .val (.int x1), .val (.long x2), .second, .val (.ref (w k)), .unset, .unset, .unset, .unset, .unset] [(.int (x1 &&& (1 : Int32)))])) _
      refine XS.ifYes X57.here hx rfl (pc0 := 12) (pc' := 19) rfl (hb hby at_12) rfl ((if0 _ _).trans (teq hc12).1) (by decide) (by decide) ?_
      show Steps p.tables e below (T57.setTop (mkF m 19 #[.val (.int x0), .val (.int x1), .val (.long x2), .second, .val (.ref (w k)), .unset, .unset, .unset, .unset, .unset] [])) _
      refine XS.lloadN X57.here hx rfl (hb hby at_19) rfl ?_
      show Steps p.tables e below (T57.setTop (mkF m 20 #[.val (.int x0), .val (.int x1), .val (.long x2), .second, .val (.ref (w k)), .unset, .unset, .unset, .unset, .unset] [(.long x2)])) _
      refine X57.ldc2Long hx hown (mvT hZ (hw _ (List.mem_of_getElem? (i := 40) rfl))) (g := (mkF m 20 #[.val (.int x0), .val (.int x1), .val (.long x2), .second, .val (.ref (w k)), .unset, .unset, .unset, .unset, .unset] [(.long x2)])) rfl (hb hby at_20) _ ?_
      show Steps p.tables e below (T57.setTop (mkF m 23 #[.val (.int x0), .val (.int x1), .val (.long x2), .second, .val (.ref (w k)), .unset, .unset, .unset, .unset, .unset] [(.long (3 : Int64)), (.long x2)])) _
      refine XS.land X57.here hx rfl (hb hby at_23) rfl ?_
      show Steps p.tables e below (T57.setTop (mkF m 24 #[.val (.int x0), .val (.int x1), .val (.long x2), .second, .val (.ref (w k)), .unset, .unset, .unset, .unset, .unset] [(.long (x2 &&& (3 : Int64)))])) _
      refine XS.lconst X57.here hx rfl (hb hby at_24) ?_
      show Steps p.tables e below (T57.setTop (mkF m 25 #[.val (.int x0), .val (.int x1), .val (.long x2), .second, .val (.ref (w k)), .unset, .unset, .unset, .unset, .unset] [(.long (1 : Int64)), (.long (x2 &&& (3 : Int64)))])) _
      refine XS.lsub X57.here hx rfl (hb hby at_25) rfl ?_
      exact kk
    · refine ⟨x2, T57, X57, e57, fun tt kk => pre60 tt ?_⟩
      show Steps p.tables e below (T57.setTop (mkF m 12 #[.val (.int x0), .val (.int x1), .val (.long x2), .second, .val (.ref (w k)), .unset, .unset, .unset, .unset, .unset] [(.int (x1 &&& (1 : Int32)))])) _
      refine XS.ifNo X57.here hx rfl (hb hby at_12) rfl ((if0 _ _).trans (feq hc12).1) ?_
      show Steps p.tables e below (T57.setTop (mkF m 15 #[.val (.int x0), .val (.int x1), .val (.long x2), .second, .val (.ref (w k)), .unset, .unset, .unset, .unset, .unset] [])) _
      refine XS.lloadN X57.here hx rfl (hb hby at_15) rfl ?_
      show Steps p.tables e below (T57.setTop (mkF m 16 #[.val (.int x0), .val (.int x1), .val (.long x2), .second, .val (.ref (w k)), .unset, .unset, .unset, .unset, .unset] [(.long x2)])) _
      refine XS.goto X57.here hx rfl (pc0 := 16) (pc' := 26) rfl (hb hby at_16) (by decide) (by decide) ?_
      exact kk
  obtain ⟨cq61, kq61, q61a, q61b, q61c⟩ := isOf hZ e59 (EX k hk)
  obtain ⟨vv61, _, ⟨T61, L61, k61, n61⟩, -, X61, ⟨Lc61, hQ61, l61, y61, z61⟩, st61⟩ := X59.virtualBack hx (y := (⟨"com/example/puzzled_pilot/puzzledpilot/model/Operator", "isDecidedBy", "(J)Z"⟩ : MethodName)) (z := (⟨"com/example/puzzled_pilot/puzzledpilot/model/Operator", "isDecidedBy", "(J)Z"⟩ : MethodName)) hown (mvT hZ (hw _ (List.mem_of_getElem? (i := 7) rfl))) (mvT hZ (hw _ (List.mem_of_getElem? (i := 8) rfl))) (notFace_of_selects (args := #[]) (mvT hZ (hw _ (List.mem_of_getElem? (i := 10) rfl)))) (mvT hZ (hw _ (List.mem_of_getElem? (i := 10) rfl))) (mvT hZ (hw _ (List.mem_of_getElem? (i := 9) rfl))) (by decide) (backOf (W := 0) (rm_db l Z a0 hw [] (w k) lf w h0 n0 Z0 ST) hZ (hw _ (List.mem_of_getElem? (i := 11) rfl)) (hw _ (List.mem_of_getElem? (i := 5) rfl)) (by decide) (by decide)) q61a q61c (g := (mkF m 32 #[.val (.int x0), .val (.int x1), .val (.long x2), .second, .val (.ref (w k)), .val (.long lf), .second, .unset, .unset, .unset] [(.long lf), (.ref (w k))])) rfl (by rw [hml]; rfl) (Steps.refl _) (argsL := [(.long lf)]) (rest := []) (lenOf own_pd_2 rfl) rfl (by show 2 * 0 + _ ≤ _; exact Nat.le_of_eq rfl) (hb hby at_32) (fun _ _ => ⟨rfl, e59, (by decide : 0 + 0 ≤ _), (by decide : 0 + 0 ≤ _)⟩)
  dsimp only [Pt.U, Pt.locs, Pt.cells, Pt.slots] at X61 l61 y61 z61 st61 hQ61
  subst l61 y61 z61
  rw [own_db_eq INJ hk] at hQ61
  obtain ⟨rfl, N61q, e61⟩ := hQ61
  have N61 := Fr.app N57 N61q
  have pre62 : ∀ t, Steps p.tables e below (T61.setTop (mkF m 41 #[.val (.int x0), .val (.int x1), .val (.long x2), .second, .val (.ref (w k)), .val (.long lf), .second, .val (.int (own_dk k lf)), .unset, .unset] [(.int (lcmpW lf (0 : Int64)))])) t → Steps p.tables e below (s₁.setTop (entryFrame m #[(.int x0), (.int x1), (.long x2)] maxLocals)) t := fun tt kk => pre59 tt (by
    show Steps p.tables e below (T59.setTop (mkF m 26 #[.val (.int x0), .val (.int x1), .val (.long x2), .second, .val (.ref (w k)), .unset, .unset, .unset, .unset, .unset] [(.long lf)])) _
    refine XS.lstore X59.here hx rfl (hb hby at_26) rfl (l' := #[.val (.int x0), .val (.int x1), .val (.long x2), .second, .val (.ref (w k)), .val (.long lf), .second, .unset, .unset, .unset]) rfl ?_
    show Steps p.tables e below (T59.setTop (mkF m 28 #[.val (.int x0), .val (.int x1), .val (.long x2), .second, .val (.ref (w k)), .val (.long lf), .second, .unset, .unset, .unset] [])) _
    refine XS.aload X59.here hx rfl (hb hby at_28) rfl rfl ?_
    show Steps p.tables e below (T59.setTop (mkF m 30 #[.val (.int x0), .val (.int x1), .val (.long x2), .second, .val (.ref (w k)), .val (.long lf), .second, .unset, .unset, .unset] [(.ref (w k))])) _
    refine XS.lload X59.here hx rfl (hb hby at_30) rfl ?_
    show Steps p.tables e below (T59.setTop (mkF m 32 #[.val (.int x0), .val (.int x1), .val (.long x2), .second, .val (.ref (w k)), .val (.long lf), .second, .unset, .unset, .unset] [(.long lf), (.ref (w k))])) _
    refine st61.trans ?_
    show Steps p.tables e below (T61.setTop (mkF m 35 #[.val (.int x0), .val (.int x1), .val (.long x2), .second, .val (.ref (w k)), .val (.long lf), .second, .unset, .unset, .unset] [(.int (own_dk k lf))])) _
    refine XS.istore X61.here hx rfl (hb hby at_35) rfl (l' := #[.val (.int x0), .val (.int x1), .val (.long x2), .second, .val (.ref (w k)), .val (.long lf), .second, .val (.int (own_dk k lf)), .unset, .unset]) rfl ?_
    show Steps p.tables e below (T61.setTop (mkF m 37 #[.val (.int x0), .val (.int x1), .val (.long x2), .second, .val (.ref (w k)), .val (.long lf), .second, .val (.int (own_dk k lf)), .unset, .unset] [])) _
    refine XS.lload X61.here hx rfl (hb hby at_37) rfl ?_
    show Steps p.tables e below (T61.setTop (mkF m 39 #[.val (.int x0), .val (.int x1), .val (.long x2), .second, .val (.ref (w k)), .val (.long lf), .second, .val (.int (own_dk k lf)), .unset, .unset] [(.long lf)])) _
    refine XS.lconst X61.here hx rfl (hb hby at_39) ?_
    show Steps p.tables e below (T61.setTop (mkF m 40 #[.val (.int x0), .val (.int x1), .val (.long x2), .second, .val (.ref (w k)), .val (.long lf), .second, .val (.int (own_dk k lf)), .unset, .unset] [(.long (0 : Int64)), (.long lf)])) _
    refine XS.lcmp X61.here hx rfl (hb hby at_40) rfl ?_
    exact kk)
  by_cases hc41 : lf = (0 : Int64)
  · have pre63 : ∀ t, Steps p.tables e below (T61.setTop (mkF m 60 #[.val (.int x0), .val (.int x1), .val (.long x2), .second, .val (.ref (w k)), .val (.long lf), .second, .val (.int (own_dk k lf)), .val (.int (1 : Int32)), .unset] [(.int (1 : Int32))])) t → Steps p.tables e below (s₁.setTop (entryFrame m #[(.int x0), (.int x1), (.long x2)] maxLocals)) t := fun tt kk => pre62 tt (by
      show Steps p.tables e below (T61.setTop (mkF m 41 #[.val (.int x0), .val (.int x1), .val (.long x2), .second, .val (.ref (w k)), .val (.long lf), .second, .val (.int (own_dk k lf)), .unset, .unset] [(.int (lcmpW lf (0 : Int64)))])) _
      refine XS.ifYes X61.here hx rfl (pc0 := 41) (pc' := 51) rfl (hb hby at_41) rfl ((if0 _ _).trans (teq ((lw_eq _ _).mpr hc41)).1) (by decide) (by decide) ?_
      show Steps p.tables e below (T61.setTop (mkF m 51 #[.val (.int x0), .val (.int x1), .val (.long x2), .second, .val (.ref (w k)), .val (.long lf), .second, .val (.int (own_dk k lf)), .unset, .unset] [])) _
      refine XS.iconst X61.here hx rfl (hb hby at_51) ?_
      show Steps p.tables e below (T61.setTop (mkF m 52 #[.val (.int x0), .val (.int x1), .val (.long x2), .second, .val (.ref (w k)), .val (.long lf), .second, .val (.int (own_dk k lf)), .unset, .unset] [(.int (1 : Int32))])) _
      refine XS.goto X61.here hx rfl (pc0 := 52) (pc' := 56) rfl (hb hby at_52) (by decide) (by decide) ?_
      show Steps p.tables e below (T61.setTop (mkF m 56 #[.val (.int x0), .val (.int x1), .val (.long x2), .second, .val (.ref (w k)), .val (.long lf), .second, .val (.int (own_dk k lf)), .unset, .unset] [(.int (1 : Int32))])) _
      refine XS.istore X61.here hx rfl (hb hby at_56) rfl (l' := #[.val (.int x0), .val (.int x1), .val (.long x2), .second, .val (.ref (w k)), .val (.long lf), .second, .val (.int (own_dk k lf)), .val (.int (1 : Int32)), .unset]) rfl ?_
      show Steps p.tables e below (T61.setTop (mkF m 58 #[.val (.int x0), .val (.int x1), .val (.long x2), .second, .val (.ref (w k)), .val (.long lf), .second, .val (.int (own_dk k lf)), .val (.int (1 : Int32)), .unset] [])) _
      refine XS.iload X61.here hx rfl (hb hby at_58) rfl ?_
      exact kk)
    have pre64 : ∀ t, Steps p.tables e below (T61.setTop (mkF m 63 #[.val (.int x0), .val (.int x1), .val (.long x2), .second, .val (.ref (w k)), .val (.long lf), .second, .val (.int (own_dk k lf)), .val (.int (1 : Int32)), .unset] [])) t → Steps p.tables e below (s₁.setTop (entryFrame m #[(.int x0), (.int x1), (.long x2)] maxLocals)) t := fun tt kk => pre63 tt (by
      show Steps p.tables e below (T61.setTop (mkF m 60 #[.val (.int x0), .val (.int x1), .val (.long x2), .second, .val (.ref (w k)), .val (.long lf), .second, .val (.int (own_dk k lf)), .val (.int (1 : Int32)), .unset] [(.int (1 : Int32))])) _
      refine XS.ifNo X61.here hx rfl (hb hby at_60) rfl ((if0 _ _).trans (feq (by decide : ¬ ((1 : Int32) = (0 : Int32)))).1) ?_
      exact kk)
    by_cases hk5 : k < 5
    · obtain ⟨cq65, kq65, q65a, q65b, q65c⟩ := isOf hZ e61 (EX k hk)
      obtain ⟨vv65, _, ⟨T65, L65, k65, n65⟩, -, X65, ⟨Lc65, hQ65, l65, y65, z65⟩, st65⟩ := X61.virtualBack hx (y := (⟨"com/example/puzzled_pilot/puzzledpilot/model/Operator", "isConnective", "()Z"⟩ : MethodName)) (z := (⟨"com/example/puzzled_pilot/puzzledpilot/model/Operator", "isConnective", "()Z"⟩ : MethodName)) hown (mvT hZ (hw _ (List.mem_of_getElem? (i := 14) rfl))) (mvT hZ (hw _ (List.mem_of_getElem? (i := 15) rfl))) (notFace_of_selects (args := #[]) (mvT hZ (hw _ (List.mem_of_getElem? (i := 17) rfl)))) (mvT hZ (hw _ (List.mem_of_getElem? (i := 17) rfl))) (mvT hZ (hw _ (List.mem_of_getElem? (i := 16) rfl))) (by decide) (backOf (W := 0) (rm_ic l Z a0 hw [] (w k) w h0 n0 Z0 ST) hZ (hw _ (List.mem_of_getElem? (i := 18) rfl)) (hw _ (List.mem_of_getElem? (i := 5) rfl)) (by decide) (by decide)) q65a q65c (g := (mkF m 65 #[.val (.int x0), .val (.int x1), .val (.long x2), .second, .val (.ref (w k)), .val (.long lf), .second, .val (.int (own_dk k lf)), .val (.int (1 : Int32)), .unset] [(.ref (w k))])) rfl (by rw [hml]; rfl) (Steps.refl _) (argsL := []) (rest := []) (lenOf own_pd_3 rfl) rfl (by show 2 * 0 + _ ≤ _; exact Nat.le_of_eq rfl) (hb hby at_65) (fun _ _ => ⟨rfl, e61, (by decide : 0 + 0 ≤ _), (by decide : 0 + 0 ≤ _)⟩)
      dsimp only [Pt.U, Pt.locs, Pt.cells, Pt.slots] at X65 l65 y65 z65 st65 hQ65
      subst l65 y65 z65
      rw [own_isc_eq INJ hk, if_pos hk5] at hQ65
      obtain ⟨rfl, N65q, e65⟩ := hQ65
      have N65 := Fr.app N61 N65q
      have pre66 : ∀ t, Steps p.tables e below (T65.setTop (mkF m 68 #[.val (.int x0), .val (.int x1), .val (.long x2), .second, .val (.ref (w k)), .val (.long lf), .second, .val (.int (own_dk k lf)), .val (.int (1 : Int32)), .unset] [(.int (1 : Int32))])) t → Steps p.tables e below (s₁.setTop (entryFrame m #[(.int x0), (.int x1), (.long x2)] maxLocals)) t := fun tt kk => pre64 tt (by
        show Steps p.tables e below (T61.setTop (mkF m 63 #[.val (.int x0), .val (.int x1), .val (.long x2), .second, .val (.ref (w k)), .val (.long lf), .second, .val (.int (own_dk k lf)), .val (.int (1 : Int32)), .unset] [])) _
        refine XS.aload X61.here hx rfl (hb hby at_63) rfl rfl ?_
        show Steps p.tables e below (T61.setTop (mkF m 65 #[.val (.int x0), .val (.int x1), .val (.long x2), .second, .val (.ref (w k)), .val (.long lf), .second, .val (.int (own_dk k lf)), .val (.int (1 : Int32)), .unset] [(.ref (w k))])) _
        refine st65.trans ?_
        exact kk)
      obtain ⟨cq67, kq67, q67a, q67b, q67c⟩ := isOf hZ e65 (EX k hk)
      obtain ⟨vv67, _, ⟨T67, L67, k67, n67⟩, -, X67, ⟨Lc67, hQ67, l67, y67, z67⟩, st67⟩ := X65.virtualBack hx (y := (⟨"com/example/puzzled_pilot/puzzledpilot/model/Operator", "apply", "(JJ)J"⟩ : MethodName)) (z := (⟨"com/example/puzzled_pilot/puzzledpilot/model/Operator", "apply", "(JJ)J"⟩ : MethodName)) hown (mvT hZ (hw _ (List.mem_of_getElem? (i := 20) rfl))) (mvT hZ (hw _ (List.mem_of_getElem? (i := 21) rfl))) (notFace_of_selects (args := #[]) (mvT hZ (hw _ (List.mem_of_getElem? (i := 23) rfl)))) (mvT hZ (hw _ (List.mem_of_getElem? (i := 23) rfl))) (mvT hZ (hw _ (List.mem_of_getElem? (i := 22) rfl))) (by decide) (backOf (W := 0) (rm_ap l Z a0 hw [] k lf (0 : Int64) w h0 n0 Z0 hk5 (FT k hk) (EX k hk)) hZ (hw _ (List.mem_of_getElem? (i := 24) rfl)) (hw _ (List.mem_of_getElem? (i := 5) rfl)) (by decide) (by decide)) q67a q67c (g := (mkF m 76 #[.val (.int x0), .val (.int x1), .val (.long x2), .second, .val (.ref (w k)), .val (.long lf), .second, .val (.int (own_dk k lf)), .val (.int (1 : Int32)), .unset] [(.long (0 : Int64)), (.long lf), (.ref (w k))])) rfl (by rw [hml]; rfl) (Steps.refl _) (argsL := [(.long lf), (.long (0 : Int64))]) (rest := []) (lenOf own_pd_4 rfl) rfl (by show 2 * 0 + _ ≤ _; exact Nat.le_of_eq rfl) (hb hby at_76) (fun _ _ => ⟨rfl, e65, (by decide : 0 + 0 ≤ _), (by decide : 0 + 0 ≤ _)⟩)
      dsimp only [Pt.U, Pt.locs, Pt.cells, Pt.slots] at X67 l67 y67 z67 st67 hQ67
      subst l67 y67 z67
      obtain ⟨rfl, N67q, e67⟩ := hQ67
      have N67 := Fr.app N65 N67q
      obtain ⟨cq68, kq68, q68a, q68b, q68c⟩ := isOf hZ e67 (EX k hk)
      obtain ⟨vv68, _, ⟨T68, L68, k68, n68⟩, -, X68, ⟨Lc68, hQ68, l68, y68, z68⟩, st68⟩ := X67.virtualBack hx (y := (⟨"com/example/puzzled_pilot/puzzledpilot/model/Operator", "apply", "(JJ)J"⟩ : MethodName)) (z := (⟨"com/example/puzzled_pilot/puzzledpilot/model/Operator", "apply", "(JJ)J"⟩ : MethodName)) hown (mvT hZ (hw _ (List.mem_of_getElem? (i := 20) rfl))) (mvT hZ (hw _ (List.mem_of_getElem? (i := 21) rfl))) (notFace_of_selects (args := #[]) (mvT hZ (hw _ (List.mem_of_getElem? (i := 23) rfl)))) (mvT hZ (hw _ (List.mem_of_getElem? (i := 23) rfl))) (mvT hZ (hw _ (List.mem_of_getElem? (i := 22) rfl))) (by decide) (backOf (W := 2) (rm_ap l Z a0 hw [] k lf (1 : Int64) w h0 n0 Z0 hk5 (FT k hk) (EX k hk)) hZ (hw _ (List.mem_of_getElem? (i := 24) rfl)) (hw _ (List.mem_of_getElem? (i := 5) rfl)) (by decide) (by decide)) q68a q68c (g := (mkF m 84 #[.val (.int x0), .val (.int x1), .val (.long x2), .second, .val (.ref (w k)), .val (.long lf), .second, .val (.int (own_dk k lf)), .val (.int (1 : Int32)), .unset] [(.long (1 : Int64)), (.long lf), (.ref (w k)), (.long (own_ap k lf (0 : Int64)))])) rfl (by rw [hml]; rfl) (Steps.refl _) (argsL := [(.long lf), (.long (1 : Int64))]) (rest := [(.long (own_ap k lf (0 : Int64)))]) (lenOf own_pd_4 rfl) rfl (by show 2 * 0 + _ ≤ _; exact Nat.le_of_eq rfl) (hb hby at_84) (fun _ _ => ⟨rfl, e67, (by decide : 0 + 0 ≤ _), (by decide : 0 + 0 ≤ _)⟩)
      dsimp only [Pt.U, Pt.locs, Pt.cells, Pt.slots] at X68 l68 y68 z68 st68 hQ68
      subst l68 y68 z68
      obtain ⟨rfl, N68q, e68⟩ := hQ68
      have N68 := Fr.app N67 N68q
      have pre69 : ∀ t, Steps p.tables e below (T68.setTop (mkF m 88 #[.val (.int x0), .val (.int x1), .val (.long x2), .second, .val (.ref (w k)), .val (.long lf), .second, .val (.int (own_dk k lf)), .val (.int (1 : Int32)), .unset] [(.int (lcmpW (own_ap k lf (0 : Int64)) (own_ap k lf (1 : Int64))))])) t → Steps p.tables e below (s₁.setTop (entryFrame m #[(.int x0), (.int x1), (.long x2)] maxLocals)) t := fun tt kk => pre66 tt (by
        show Steps p.tables e below (T65.setTop (mkF m 68 #[.val (.int x0), .val (.int x1), .val (.long x2), .second, .val (.ref (w k)), .val (.long lf), .second, .val (.int (own_dk k lf)), .val (.int (1 : Int32)), .unset] [(.int (1 : Int32))])) _
        refine XS.ifNo X65.here hx rfl (hb hby at_68) rfl ((if0 _ _).trans (feq (by decide : ¬ ((1 : Int32) = (0 : Int32)))).1) ?_
        show Steps p.tables e below (T65.setTop (mkF m 71 #[.val (.int x0), .val (.int x1), .val (.long x2), .second, .val (.ref (w k)), .val (.long lf), .second, .val (.int (own_dk k lf)), .val (.int (1 : Int32)), .unset] [])) _
        refine XS.aload X65.here hx rfl (hb hby at_71) rfl rfl ?_
        show Steps p.tables e below (T65.setTop (mkF m 73 #[.val (.int x0), .val (.int x1), .val (.long x2), .second, .val (.ref (w k)), .val (.long lf), .second, .val (.int (own_dk k lf)), .val (.int (1 : Int32)), .unset] [(.ref (w k))])) _
        refine XS.lload X65.here hx rfl (hb hby at_73) rfl ?_
        show Steps p.tables e below (T65.setTop (mkF m 75 #[.val (.int x0), .val (.int x1), .val (.long x2), .second, .val (.ref (w k)), .val (.long lf), .second, .val (.int (own_dk k lf)), .val (.int (1 : Int32)), .unset] [(.long lf), (.ref (w k))])) _
        refine XS.lconst X65.here hx rfl (hb hby at_75) ?_
        show Steps p.tables e below (T65.setTop (mkF m 76 #[.val (.int x0), .val (.int x1), .val (.long x2), .second, .val (.ref (w k)), .val (.long lf), .second, .val (.int (own_dk k lf)), .val (.int (1 : Int32)), .unset] [(.long (0 : Int64)), (.long lf), (.ref (w k))])) _
        refine st67.trans ?_
        show Steps p.tables e below (T67.setTop (mkF m 79 #[.val (.int x0), .val (.int x1), .val (.long x2), .second, .val (.ref (w k)), .val (.long lf), .second, .val (.int (own_dk k lf)), .val (.int (1 : Int32)), .unset] [(.long (own_ap k lf (0 : Int64)))])) _
        refine XS.aload X67.here hx rfl (hb hby at_79) rfl rfl ?_
        show Steps p.tables e below (T67.setTop (mkF m 81 #[.val (.int x0), .val (.int x1), .val (.long x2), .second, .val (.ref (w k)), .val (.long lf), .second, .val (.int (own_dk k lf)), .val (.int (1 : Int32)), .unset] [(.ref (w k)), (.long (own_ap k lf (0 : Int64)))])) _
        refine XS.lload X67.here hx rfl (hb hby at_81) rfl ?_
        show Steps p.tables e below (T67.setTop (mkF m 83 #[.val (.int x0), .val (.int x1), .val (.long x2), .second, .val (.ref (w k)), .val (.long lf), .second, .val (.int (own_dk k lf)), .val (.int (1 : Int32)), .unset] [(.long lf), (.ref (w k)), (.long (own_ap k lf (0 : Int64)))])) _
        refine XS.lconst X67.here hx rfl (hb hby at_83) ?_
        show Steps p.tables e below (T67.setTop (mkF m 84 #[.val (.int x0), .val (.int x1), .val (.long x2), .second, .val (.ref (w k)), .val (.long lf), .second, .val (.int (own_dk k lf)), .val (.int (1 : Int32)), .unset] [(.long (1 : Int64)), (.long lf), (.ref (w k)), (.long (own_ap k lf (0 : Int64)))])) _
        refine st68.trans ?_
        show Steps p.tables e below (T68.setTop (mkF m 87 #[.val (.int x0), .val (.int x1), .val (.long x2), .second, .val (.ref (w k)), .val (.long lf), .second, .val (.int (own_dk k lf)), .val (.int (1 : Int32)), .unset] [(.long (own_ap k lf (1 : Int64))), (.long (own_ap k lf (0 : Int64)))])) _
        refine XS.lcmp X68.here hx rfl (hb hby at_87) rfl ?_
        exact kk)
      by_cases hc88 : (own_ap k lf (0 : Int64)) = (own_ap k lf (1 : Int64))
      · have pre70 : ∀ t, Steps p.tables e below (T68.setTop (mkF m 102 #[.val (.int x0), .val (.int x1), .val (.long x2), .second, .val (.ref (w k)), .val (.long lf), .second, .val (.int (own_dk k lf)), .val (.int (1 : Int32)), .val (.int (1 : Int32))] [(.int (1 : Int32)), (.int (own_dk k lf))])) t → Steps p.tables e below (s₁.setTop (entryFrame m #[(.int x0), (.int x1), (.long x2)] maxLocals)) t := fun tt kk => pre69 tt (by
          show Steps p.tables e below (T68.setTop (mkF m 88 #[.val (.int x0), .val (.int x1), .val (.long x2), .second, .val (.ref (w k)), .val (.long lf), .second, .val (.int (own_dk k lf)), .val (.int (1 : Int32)), .unset] [(.int (lcmpW (own_ap k lf (0 : Int64)) (own_ap k lf (1 : Int64))))])) _
          refine XS.ifNo X68.here hx rfl (hb hby at_88) rfl ((if0 _ _).trans (teq ((lw_eq _ _).mpr hc88)).2) ?_
          show Steps p.tables e below (T68.setTop (mkF m 91 #[.val (.int x0), .val (.int x1), .val (.long x2), .second, .val (.ref (w k)), .val (.long lf), .second, .val (.int (own_dk k lf)), .val (.int (1 : Int32)), .unset] [])) _
          refine XS.iconst X68.here hx rfl (hb hby at_91) ?_
          show Steps p.tables e below (T68.setTop (mkF m 92 #[.val (.int x0), .val (.int x1), .val (.long x2), .second, .val (.ref (w k)), .val (.long lf), .second, .val (.int (own_dk k lf)), .val (.int (1 : Int32)), .unset] [(.int (1 : Int32))])) _
          refine XS.goto X68.here hx rfl (pc0 := 92) (pc' := 96) rfl (hb hby at_92) (by decide) (by decide) ?_
          show Steps p.tables e below (T68.setTop (mkF m 96 #[.val (.int x0), .val (.int x1), .val (.long x2), .second, .val (.ref (w k)), .val (.long lf), .second, .val (.int (own_dk k lf)), .val (.int (1 : Int32)), .unset] [(.int (1 : Int32))])) _
          refine XS.istore X68.here hx rfl (hb hby at_96) rfl (l' := #[.val (.int x0), .val (.int x1), .val (.long x2), .second, .val (.ref (w k)), .val (.long lf), .second, .val (.int (own_dk k lf)), .val (.int (1 : Int32)), .val (.int (1 : Int32))]) rfl ?_
          show Steps p.tables e below (T68.setTop (mkF m 98 #[.val (.int x0), .val (.int x1), .val (.long x2), .second, .val (.ref (w k)), .val (.long lf), .second, .val (.int (own_dk k lf)), .val (.int (1 : Int32)), .val (.int (1 : Int32))] [])) _
          refine XS.iload X68.here hx rfl (hb hby at_98) rfl ?_
          show Steps p.tables e below (T68.setTop (mkF m 100 #[.val (.int x0), .val (.int x1), .val (.long x2), .second, .val (.ref (w k)), .val (.long lf), .second, .val (.int (own_dk k lf)), .val (.int (1 : Int32)), .val (.int (1 : Int32))] [(.int (own_dk k lf))])) _
          refine XS.iload X68.here hx rfl (hb hby at_100) rfl ?_
          exact kk)
        obtain ⟨fs, hr, hrun, hended, hW, hsame⟩ := X68.leave (v := some (.int (1 : Int32))) (fun h => by rw [Bd.returns] at h; cases h)
        refine ⟨_, _, pre70 _ ?_, hrun, hended, _, _, rfl, ?_, ⟨_, rfl⟩, hW, hsame.mono (by decide) (by decide)⟩
        · show Steps p.tables e below (T68.setTop (mkF m 102 #[.val (.int x0), .val (.int x1), .val (.long x2), .second, .val (.ref (w k)), .val (.long lf), .second, .val (.int (own_dk k lf)), .val (.int (1 : Int32)), .val (.int (1 : Int32))] [(.int (1 : Int32)), (.int (own_dk k lf))])) _
          refine XS.icmpNo X68.here hx rfl (hb hby at_102) rfl (teq (own_fin0p k hk5 hc41 hc88)).2 ?_
          show Steps p.tables e below (T68.setTop (mkF m 105 #[.val (.int x0), .val (.int x1), .val (.long x2), .second, .val (.ref (w k)), .val (.long lf), .second, .val (.int (own_dk k lf)), .val (.int (1 : Int32)), .val (.int (1 : Int32))] [])) _
          refine XS.iconst X68.here hx rfl (hb hby at_105) ?_
          show Steps p.tables e below (T68.setTop (mkF m 106 #[.val (.int x0), .val (.int x1), .val (.long x2), .second, .val (.ref (w k)), .val (.long lf), .second, .val (.int (own_dk k lf)), .val (.int (1 : Int32)), .val (.int (1 : Int32))] [(.int (1 : Int32))])) _
          refine XS.goto X68.here hx rfl (pc0 := 106) (pc' := 110) rfl (hb hby at_106) (by decide) (by decide) ?_
          show Steps p.tables e below (T68.setTop (mkF m 110 #[.val (.int x0), .val (.int x1), .val (.long x2), .second, .val (.ref (w k)), .val (.long lf), .second, .val (.int (own_dk k lf)), .val (.int (1 : Int32)), .val (.int (1 : Int32))] [(.int (1 : Int32))])) _
          exact retN X68 hx (t := .boolean) Bd.returns (by simp) (hb hby at_110) hr
        · exact ⟨rfl, N68⟩
      · have pre71 : ∀ t, Steps p.tables e below (T68.setTop (mkF m 102 #[.val (.int x0), .val (.int x1), .val (.long x2), .second, .val (.ref (w k)), .val (.long lf), .second, .val (.int (own_dk k lf)), .val (.int (1 : Int32)), .val (.int (0 : Int32))] [(.int (0 : Int32)), (.int (own_dk k lf))])) t → Steps p.tables e below (s₁.setTop (entryFrame m #[(.int x0), (.int x1), (.long x2)] maxLocals)) t := fun tt kk => pre69 tt (by
          show Steps p.tables e below (T68.setTop (mkF m 88 #[.val (.int x0), .val (.int x1), .val (.long x2), .second, .val (.ref (w k)), .val (.long lf), .second, .val (.int (own_dk k lf)), .val (.int (1 : Int32)), .unset] [(.int (lcmpW (own_ap k lf (0 : Int64)) (own_ap k lf (1 : Int64))))])) _
          refine XS.ifYes X68.here hx rfl (pc0 := 88) (pc' := 95) rfl (hb hby at_88) rfl ((if0 _ _).trans (feq (mt (lw_eq _ _).mp hc88)).2) (by decide) (by decide) ?_
          show Steps p.tables e below (T68.setTop (mkF m 95 #[.val (.int x0), .val (.int x1), .val (.long x2), .second, .val (.ref (w k)), .val (.long lf), .second, .val (.int (own_dk k lf)), .val (.int (1 : Int32)), .unset] [])) _
          refine XS.iconst X68.here hx rfl (hb hby at_95) ?_
          show Steps p.tables e below (T68.setTop (mkF m 96 #[.val (.int x0), .val (.int x1), .val (.long x2), .second, .val (.ref (w k)), .val (.long lf), .second, .val (.int (own_dk k lf)), .val (.int (1 : Int32)), .unset] [(.int (0 : Int32))])) _
          refine XS.istore X68.here hx rfl (hb hby at_96) rfl (l' := #[.val (.int x0), .val (.int x1), .val (.long x2), .second, .val (.ref (w k)), .val (.long lf), .second, .val (.int (own_dk k lf)), .val (.int (1 : Int32)), .val (.int (0 : Int32))]) rfl ?_
          show Steps p.tables e below (T68.setTop (mkF m 98 #[.val (.int x0), .val (.int x1), .val (.long x2), .second, .val (.ref (w k)), .val (.long lf), .second, .val (.int (own_dk k lf)), .val (.int (1 : Int32)), .val (.int (0 : Int32))] [])) _
          refine XS.iload X68.here hx rfl (hb hby at_98) rfl ?_
          show Steps p.tables e below (T68.setTop (mkF m 100 #[.val (.int x0), .val (.int x1), .val (.long x2), .second, .val (.ref (w k)), .val (.long lf), .second, .val (.int (own_dk k lf)), .val (.int (1 : Int32)), .val (.int (0 : Int32))] [(.int (own_dk k lf))])) _
          refine XS.iload X68.here hx rfl (hb hby at_100) rfl ?_
          exact kk)
        obtain ⟨fs, hr, hrun, hended, hW, hsame⟩ := X68.leave (v := some (.int (1 : Int32))) (fun h => by rw [Bd.returns] at h; cases h)
        refine ⟨_, _, pre71 _ ?_, hrun, hended, _, _, rfl, ?_, ⟨_, rfl⟩, hW, hsame.mono (by decide) (by decide)⟩
        · show Steps p.tables e below (T68.setTop (mkF m 102 #[.val (.int x0), .val (.int x1), .val (.long x2), .second, .val (.ref (w k)), .val (.long lf), .second, .val (.int (own_dk k lf)), .val (.int (1 : Int32)), .val (.int (0 : Int32))] [(.int (0 : Int32)), (.int (own_dk k lf))])) _
          refine XS.icmpNo X68.here hx rfl (hb hby at_102) rfl (teq (own_fin0n k hk5 hc41 hc88)).2 ?_
          show Steps p.tables e below (T68.setTop (mkF m 105 #[.val (.int x0), .val (.int x1), .val (.long x2), .second, .val (.ref (w k)), .val (.long lf), .second, .val (.int (own_dk k lf)), .val (.int (1 : Int32)), .val (.int (0 : Int32))] [])) _
          refine XS.iconst X68.here hx rfl (hb hby at_105) ?_
          show Steps p.tables e below (T68.setTop (mkF m 106 #[.val (.int x0), .val (.int x1), .val (.long x2), .second, .val (.ref (w k)), .val (.long lf), .second, .val (.int (own_dk k lf)), .val (.int (1 : Int32)), .val (.int (0 : Int32))] [(.int (1 : Int32))])) _
          refine XS.goto X68.here hx rfl (pc0 := 106) (pc' := 110) rfl (hb hby at_106) (by decide) (by decide) ?_
          show Steps p.tables e below (T68.setTop (mkF m 110 #[.val (.int x0), .val (.int x1), .val (.long x2), .second, .val (.ref (w k)), .val (.long lf), .second, .val (.int (own_dk k lf)), .val (.int (1 : Int32)), .val (.int (0 : Int32))] [(.int (1 : Int32))])) _
          exact retN X68 hx (t := .boolean) Bd.returns (by simp) (hb hby at_110) hr
        · exact ⟨rfl, N68⟩
    · obtain ⟨cq72, kq72, q72a, q72b, q72c⟩ := isOf hZ e61 (EX k hk)
      obtain ⟨vv72, _, ⟨T72, L72, k72, n72⟩, -, X72, ⟨Lc72, hQ72, l72, y72, z72⟩, st72⟩ := X61.virtualBack hx (y := (⟨"com/example/puzzled_pilot/puzzledpilot/model/Operator", "isConnective", "()Z"⟩ : MethodName)) (z := (⟨"com/example/puzzled_pilot/puzzledpilot/model/Operator", "isConnective", "()Z"⟩ : MethodName)) hown (mvT hZ (hw _ (List.mem_of_getElem? (i := 14) rfl))) (mvT hZ (hw _ (List.mem_of_getElem? (i := 15) rfl))) (notFace_of_selects (args := #[]) (mvT hZ (hw _ (List.mem_of_getElem? (i := 17) rfl)))) (mvT hZ (hw _ (List.mem_of_getElem? (i := 17) rfl))) (mvT hZ (hw _ (List.mem_of_getElem? (i := 16) rfl))) (by decide) (backOf (W := 0) (rm_ic l Z a0 hw [] (w k) w h0 n0 Z0 ST) hZ (hw _ (List.mem_of_getElem? (i := 18) rfl)) (hw _ (List.mem_of_getElem? (i := 5) rfl)) (by decide) (by decide)) q72a q72c (g := (mkF m 65 #[.val (.int x0), .val (.int x1), .val (.long x2), .second, .val (.ref (w k)), .val (.long lf), .second, .val (.int (own_dk k lf)), .val (.int (1 : Int32)), .unset] [(.ref (w k))])) rfl (by rw [hml]; rfl) (Steps.refl _) (argsL := []) (rest := []) (lenOf own_pd_3 rfl) rfl (by show 2 * 0 + _ ≤ _; exact Nat.le_of_eq rfl) (hb hby at_65) (fun _ _ => ⟨rfl, e61, (by decide : 0 + 0 ≤ _), (by decide : 0 + 0 ≤ _)⟩)
      dsimp only [Pt.U, Pt.locs, Pt.cells, Pt.slots] at X72 l72 y72 z72 st72 hQ72
      subst l72 y72 z72
      rw [own_isc_eq INJ hk, if_neg hk5] at hQ72
      obtain ⟨rfl, N72q, e72⟩ := hQ72
      have N72 := Fr.app N61 N72q
      have pre73 : ∀ t, Steps p.tables e below (T72.setTop (mkF m 68 #[.val (.int x0), .val (.int x1), .val (.long x2), .second, .val (.ref (w k)), .val (.long lf), .second, .val (.int (own_dk k lf)), .val (.int (1 : Int32)), .unset] [(.int (0 : Int32))])) t → Steps p.tables e below (s₁.setTop (entryFrame m #[(.int x0), (.int x1), (.long x2)] maxLocals)) t := fun tt kk => pre64 tt (by
        show Steps p.tables e below (T61.setTop (mkF m 63 #[.val (.int x0), .val (.int x1), .val (.long x2), .second, .val (.ref (w k)), .val (.long lf), .second, .val (.int (own_dk k lf)), .val (.int (1 : Int32)), .unset] [])) _
        refine XS.aload X61.here hx rfl (hb hby at_63) rfl rfl ?_
        show Steps p.tables e below (T61.setTop (mkF m 65 #[.val (.int x0), .val (.int x1), .val (.long x2), .second, .val (.ref (w k)), .val (.long lf), .second, .val (.int (own_dk k lf)), .val (.int (1 : Int32)), .unset] [(.ref (w k))])) _
        refine st72.trans ?_
        exact kk)
      have pre74 : ∀ t, Steps p.tables e below (T72.setTop (mkF m 102 #[.val (.int x0), .val (.int x1), .val (.long x2), .second, .val (.ref (w k)), .val (.long lf), .second, .val (.int (own_dk k lf)), .val (.int (1 : Int32)), .val (.int (0 : Int32))] [(.int (0 : Int32)), (.int (own_dk k lf))])) t → Steps p.tables e below (s₁.setTop (entryFrame m #[(.int x0), (.int x1), (.long x2)] maxLocals)) t := fun tt kk => pre73 tt (by
        show Steps p.tables e below (T72.setTop (mkF m 68 #[.val (.int x0), .val (.int x1), .val (.long x2), .second, .val (.ref (w k)), .val (.long lf), .second, .val (.int (own_dk k lf)), .val (.int (1 : Int32)), .unset] [(.int (0 : Int32))])) _
        refine XS.ifYes X72.here hx rfl (pc0 := 68) (pc' := 95) rfl (hb hby at_68) rfl ((if0 _ _).trans (teq (by decide : (0 : Int32) = (0 : Int32))).1) (by decide) (by decide) ?_
        show Steps p.tables e below (T72.setTop (mkF m 95 #[.val (.int x0), .val (.int x1), .val (.long x2), .second, .val (.ref (w k)), .val (.long lf), .second, .val (.int (own_dk k lf)), .val (.int (1 : Int32)), .unset] [])) _
        refine XS.iconst X72.here hx rfl (hb hby at_95) ?_
        show Steps p.tables e below (T72.setTop (mkF m 96 #[.val (.int x0), .val (.int x1), .val (.long x2), .second, .val (.ref (w k)), .val (.long lf), .second, .val (.int (own_dk k lf)), .val (.int (1 : Int32)), .unset] [(.int (0 : Int32))])) _
        refine XS.istore X72.here hx rfl (hb hby at_96) rfl (l' := #[.val (.int x0), .val (.int x1), .val (.long x2), .second, .val (.ref (w k)), .val (.long lf), .second, .val (.int (own_dk k lf)), .val (.int (1 : Int32)), .val (.int (0 : Int32))]) rfl ?_
        show Steps p.tables e below (T72.setTop (mkF m 98 #[.val (.int x0), .val (.int x1), .val (.long x2), .second, .val (.ref (w k)), .val (.long lf), .second, .val (.int (own_dk k lf)), .val (.int (1 : Int32)), .val (.int (0 : Int32))] [])) _
        refine XS.iload X72.here hx rfl (hb hby at_98) rfl ?_
        show Steps p.tables e below (T72.setTop (mkF m 100 #[.val (.int x0), .val (.int x1), .val (.long x2), .second, .val (.ref (w k)), .val (.long lf), .second, .val (.int (own_dk k lf)), .val (.int (1 : Int32)), .val (.int (0 : Int32))] [(.int (own_dk k lf))])) _
        refine XS.iload X72.here hx rfl (hb hby at_100) rfl ?_
        exact kk)
      obtain ⟨fs, hr, hrun, hended, hW, hsame⟩ := X72.leave (v := some (.int (1 : Int32))) (fun h => by rw [Bd.returns] at h; cases h)
      refine ⟨_, _, pre74 _ ?_, hrun, hended, _, _, rfl, ?_, ⟨_, rfl⟩, hW, hsame.mono (by decide) (by decide)⟩
      · show Steps p.tables e below (T72.setTop (mkF m 102 #[.val (.int x0), .val (.int x1), .val (.long x2), .second, .val (.ref (w k)), .val (.long lf), .second, .val (.int (own_dk k lf)), .val (.int (1 : Int32)), .val (.int (0 : Int32))] [(.int (0 : Int32)), (.int (own_dk k lf))])) _
        refine XS.icmpNo X72.here hx rfl (hb hby at_102) rfl (teq (own_dk_off hk5 lf)).2 ?_
        show Steps p.tables e below (T72.setTop (mkF m 105 #[.val (.int x0), .val (.int x1), .val (.long x2), .second, .val (.ref (w k)), .val (.long lf), .second, .val (.int (own_dk k lf)), .val (.int (1 : Int32)), .val (.int (0 : Int32))] [])) _
        refine XS.iconst X72.here hx rfl (hb hby at_105) ?_
        show Steps p.tables e below (T72.setTop (mkF m 106 #[.val (.int x0), .val (.int x1), .val (.long x2), .second, .val (.ref (w k)), .val (.long lf), .second, .val (.int (own_dk k lf)), .val (.int (1 : Int32)), .val (.int (0 : Int32))] [(.int (1 : Int32))])) _
        refine XS.goto X72.here hx rfl (pc0 := 106) (pc' := 110) rfl (hb hby at_106) (by decide) (by decide) ?_
        show Steps p.tables e below (T72.setTop (mkF m 110 #[.val (.int x0), .val (.int x1), .val (.long x2), .second, .val (.ref (w k)), .val (.long lf), .second, .val (.int (own_dk k lf)), .val (.int (1 : Int32)), .val (.int (0 : Int32))] [(.int (1 : Int32))])) _
        exact retN X72 hx (t := .boolean) Bd.returns (by simp) (hb hby at_110) hr
      · exact ⟨rfl, N72⟩
  · have pre75 : ∀ t, Steps p.tables e below (T61.setTop (mkF m 48 #[.val (.int x0), .val (.int x1), .val (.long x2), .second, .val (.ref (w k)), .val (.long lf), .second, .val (.int (own_dk k lf)), .unset, .unset] [(.int (lcmpW lf (1 : Int64)))])) t → Steps p.tables e below (s₁.setTop (entryFrame m #[(.int x0), (.int x1), (.long x2)] maxLocals)) t := fun tt kk => pre62 tt (by
      show Steps p.tables e below (T61.setTop (mkF m 41 #[.val (.int x0), .val (.int x1), .val (.long x2), .second, .val (.ref (w k)), .val (.long lf), .second, .val (.int (own_dk k lf)), .unset, .unset] [(.int (lcmpW lf (0 : Int64)))])) _
      refine XS.ifNo X61.here hx rfl (hb hby at_41) rfl ((if0 _ _).trans (feq (mt (lw_eq _ _).mp hc41)).1) ?_
      show Steps p.tables e below (T61.setTop (mkF m 44 #[.val (.int x0), .val (.int x1), .val (.long x2), .second, .val (.ref (w k)), .val (.long lf), .second, .val (.int (own_dk k lf)), .unset, .unset] [])) _
      refine XS.lload X61.here hx rfl (hb hby at_44) rfl ?_
      show Steps p.tables e below (T61.setTop (mkF m 46 #[.val (.int x0), .val (.int x1), .val (.long x2), .second, .val (.ref (w k)), .val (.long lf), .second, .val (.int (own_dk k lf)), .unset, .unset] [(.long lf)])) _
      refine XS.lconst X61.here hx rfl (hb hby at_46) ?_
      show Steps p.tables e below (T61.setTop (mkF m 47 #[.val (.int x0), .val (.int x1), .val (.long x2), .second, .val (.ref (w k)), .val (.long lf), .second, .val (.int (own_dk k lf)), .unset, .unset] [(.long (1 : Int64)), (.long lf)])) _
      refine XS.lcmp X61.here hx rfl (hb hby at_47) rfl ?_
      exact kk)
    by_cases hc48 : lf = (1 : Int64)
    · have pre76 : ∀ t, Steps p.tables e below (T61.setTop (mkF m 60 #[.val (.int x0), .val (.int x1), .val (.long x2), .second, .val (.ref (w k)), .val (.long lf), .second, .val (.int (own_dk k lf)), .val (.int (1 : Int32)), .unset] [(.int (1 : Int32))])) t → Steps p.tables e below (s₁.setTop (entryFrame m #[(.int x0), (.int x1), (.long x2)] maxLocals)) t := fun tt kk => pre75 tt (by
        show Steps p.tables e below (T61.setTop (mkF m 48 #[.val (.int x0), .val (.int x1), .val (.long x2), .second, .val (.ref (w k)), .val (.long lf), .second, .val (.int (own_dk k lf)), .unset, .unset] [(.int (lcmpW lf (1 : Int64)))])) _
        refine XS.ifNo X61.here hx rfl (hb hby at_48) rfl ((if0 _ _).trans (teq ((lw_eq _ _).mpr hc48)).2) ?_
        show Steps p.tables e below (T61.setTop (mkF m 51 #[.val (.int x0), .val (.int x1), .val (.long x2), .second, .val (.ref (w k)), .val (.long lf), .second, .val (.int (own_dk k lf)), .unset, .unset] [])) _
        refine XS.iconst X61.here hx rfl (hb hby at_51) ?_
        show Steps p.tables e below (T61.setTop (mkF m 52 #[.val (.int x0), .val (.int x1), .val (.long x2), .second, .val (.ref (w k)), .val (.long lf), .second, .val (.int (own_dk k lf)), .unset, .unset] [(.int (1 : Int32))])) _
        refine XS.goto X61.here hx rfl (pc0 := 52) (pc' := 56) rfl (hb hby at_52) (by decide) (by decide) ?_
        show Steps p.tables e below (T61.setTop (mkF m 56 #[.val (.int x0), .val (.int x1), .val (.long x2), .second, .val (.ref (w k)), .val (.long lf), .second, .val (.int (own_dk k lf)), .unset, .unset] [(.int (1 : Int32))])) _
        refine XS.istore X61.here hx rfl (hb hby at_56) rfl (l' := #[.val (.int x0), .val (.int x1), .val (.long x2), .second, .val (.ref (w k)), .val (.long lf), .second, .val (.int (own_dk k lf)), .val (.int (1 : Int32)), .unset]) rfl ?_
        show Steps p.tables e below (T61.setTop (mkF m 58 #[.val (.int x0), .val (.int x1), .val (.long x2), .second, .val (.ref (w k)), .val (.long lf), .second, .val (.int (own_dk k lf)), .val (.int (1 : Int32)), .unset] [])) _
        refine XS.iload X61.here hx rfl (hb hby at_58) rfl ?_
        exact kk)
      have pre77 : ∀ t, Steps p.tables e below (T61.setTop (mkF m 63 #[.val (.int x0), .val (.int x1), .val (.long x2), .second, .val (.ref (w k)), .val (.long lf), .second, .val (.int (own_dk k lf)), .val (.int (1 : Int32)), .unset] [])) t → Steps p.tables e below (s₁.setTop (entryFrame m #[(.int x0), (.int x1), (.long x2)] maxLocals)) t := fun tt kk => pre76 tt (by
        show Steps p.tables e below (T61.setTop (mkF m 60 #[.val (.int x0), .val (.int x1), .val (.long x2), .second, .val (.ref (w k)), .val (.long lf), .second, .val (.int (own_dk k lf)), .val (.int (1 : Int32)), .unset] [(.int (1 : Int32))])) _
        refine XS.ifNo X61.here hx rfl (hb hby at_60) rfl ((if0 _ _).trans (feq (by decide : ¬ ((1 : Int32) = (0 : Int32)))).1) ?_
        exact kk)
      by_cases hk5 : k < 5
      · obtain ⟨cq78, kq78, q78a, q78b, q78c⟩ := isOf hZ e61 (EX k hk)
        obtain ⟨vv78, _, ⟨T78, L78, k78, n78⟩, -, X78, ⟨Lc78, hQ78, l78, y78, z78⟩, st78⟩ := X61.virtualBack hx (y := (⟨"com/example/puzzled_pilot/puzzledpilot/model/Operator", "isConnective", "()Z"⟩ : MethodName)) (z := (⟨"com/example/puzzled_pilot/puzzledpilot/model/Operator", "isConnective", "()Z"⟩ : MethodName)) hown (mvT hZ (hw _ (List.mem_of_getElem? (i := 14) rfl))) (mvT hZ (hw _ (List.mem_of_getElem? (i := 15) rfl))) (notFace_of_selects (args := #[]) (mvT hZ (hw _ (List.mem_of_getElem? (i := 17) rfl)))) (mvT hZ (hw _ (List.mem_of_getElem? (i := 17) rfl))) (mvT hZ (hw _ (List.mem_of_getElem? (i := 16) rfl))) (by decide) (backOf (W := 0) (rm_ic l Z a0 hw [] (w k) w h0 n0 Z0 ST) hZ (hw _ (List.mem_of_getElem? (i := 18) rfl)) (hw _ (List.mem_of_getElem? (i := 5) rfl)) (by decide) (by decide)) q78a q78c (g := (mkF m 65 #[.val (.int x0), .val (.int x1), .val (.long x2), .second, .val (.ref (w k)), .val (.long lf), .second, .val (.int (own_dk k lf)), .val (.int (1 : Int32)), .unset] [(.ref (w k))])) rfl (by rw [hml]; rfl) (Steps.refl _) (argsL := []) (rest := []) (lenOf own_pd_3 rfl) rfl (by show 2 * 0 + _ ≤ _; exact Nat.le_of_eq rfl) (hb hby at_65) (fun _ _ => ⟨rfl, e61, (by decide : 0 + 0 ≤ _), (by decide : 0 + 0 ≤ _)⟩)
        dsimp only [Pt.U, Pt.locs, Pt.cells, Pt.slots] at X78 l78 y78 z78 st78 hQ78
        subst l78 y78 z78
        rw [own_isc_eq INJ hk, if_pos hk5] at hQ78
        obtain ⟨rfl, N78q, e78⟩ := hQ78
        have N78 := Fr.app N61 N78q
        have pre79 : ∀ t, Steps p.tables e below (T78.setTop (mkF m 68 #[.val (.int x0), .val (.int x1), .val (.long x2), .second, .val (.ref (w k)), .val (.long lf), .second, .val (.int (own_dk k lf)), .val (.int (1 : Int32)), .unset] [(.int (1 : Int32))])) t → Steps p.tables e below (s₁.setTop (entryFrame m #[(.int x0), (.int x1), (.long x2)] maxLocals)) t := fun tt kk => pre77 tt (by
          show Steps p.tables e below (T61.setTop (mkF m 63 #[.val (.int x0), .val (.int x1), .val (.long x2), .second, .val (.ref (w k)), .val (.long lf), .second, .val (.int (own_dk k lf)), .val (.int (1 : Int32)), .unset] [])) _
          refine XS.aload X61.here hx rfl (hb hby at_63) rfl rfl ?_
          show Steps p.tables e below (T61.setTop (mkF m 65 #[.val (.int x0), .val (.int x1), .val (.long x2), .second, .val (.ref (w k)), .val (.long lf), .second, .val (.int (own_dk k lf)), .val (.int (1 : Int32)), .unset] [(.ref (w k))])) _
          refine st78.trans ?_
          exact kk)
        obtain ⟨cq80, kq80, q80a, q80b, q80c⟩ := isOf hZ e78 (EX k hk)
        obtain ⟨vv80, _, ⟨T80, L80, k80, n80⟩, -, X80, ⟨Lc80, hQ80, l80, y80, z80⟩, st80⟩ := X78.virtualBack hx (y := (⟨"com/example/puzzled_pilot/puzzledpilot/model/Operator", "apply", "(JJ)J"⟩ : MethodName)) (z := (⟨"com/example/puzzled_pilot/puzzledpilot/model/Operator", "apply", "(JJ)J"⟩ : MethodName)) hown (mvT hZ (hw _ (List.mem_of_getElem? (i := 20) rfl))) (mvT hZ (hw _ (List.mem_of_getElem? (i := 21) rfl))) (notFace_of_selects (args := #[]) (mvT hZ (hw _ (List.mem_of_getElem? (i := 23) rfl)))) (mvT hZ (hw _ (List.mem_of_getElem? (i := 23) rfl))) (mvT hZ (hw _ (List.mem_of_getElem? (i := 22) rfl))) (by decide) (backOf (W := 0) (rm_ap l Z a0 hw [] k lf (0 : Int64) w h0 n0 Z0 hk5 (FT k hk) (EX k hk)) hZ (hw _ (List.mem_of_getElem? (i := 24) rfl)) (hw _ (List.mem_of_getElem? (i := 5) rfl)) (by decide) (by decide)) q80a q80c (g := (mkF m 76 #[.val (.int x0), .val (.int x1), .val (.long x2), .second, .val (.ref (w k)), .val (.long lf), .second, .val (.int (own_dk k lf)), .val (.int (1 : Int32)), .unset] [(.long (0 : Int64)), (.long lf), (.ref (w k))])) rfl (by rw [hml]; rfl) (Steps.refl _) (argsL := [(.long lf), (.long (0 : Int64))]) (rest := []) (lenOf own_pd_4 rfl) rfl (by show 2 * 0 + _ ≤ _; exact Nat.le_of_eq rfl) (hb hby at_76) (fun _ _ => ⟨rfl, e78, (by decide : 0 + 0 ≤ _), (by decide : 0 + 0 ≤ _)⟩)
        dsimp only [Pt.U, Pt.locs, Pt.cells, Pt.slots] at X80 l80 y80 z80 st80 hQ80
        subst l80 y80 z80
        obtain ⟨rfl, N80q, e80⟩ := hQ80
        have N80 := Fr.app N78 N80q
        obtain ⟨cq81, kq81, q81a, q81b, q81c⟩ := isOf hZ e80 (EX k hk)
        obtain ⟨vv81, _, ⟨T81, L81, k81, n81⟩, -, X81, ⟨Lc81, hQ81, l81, y81, z81⟩, st81⟩ := X80.virtualBack hx (y := (⟨"com/example/puzzled_pilot/puzzledpilot/model/Operator", "apply", "(JJ)J"⟩ : MethodName)) (z := (⟨"com/example/puzzled_pilot/puzzledpilot/model/Operator", "apply", "(JJ)J"⟩ : MethodName)) hown (mvT hZ (hw _ (List.mem_of_getElem? (i := 20) rfl))) (mvT hZ (hw _ (List.mem_of_getElem? (i := 21) rfl))) (notFace_of_selects (args := #[]) (mvT hZ (hw _ (List.mem_of_getElem? (i := 23) rfl)))) (mvT hZ (hw _ (List.mem_of_getElem? (i := 23) rfl))) (mvT hZ (hw _ (List.mem_of_getElem? (i := 22) rfl))) (by decide) (backOf (W := 2) (rm_ap l Z a0 hw [] k lf (1 : Int64) w h0 n0 Z0 hk5 (FT k hk) (EX k hk)) hZ (hw _ (List.mem_of_getElem? (i := 24) rfl)) (hw _ (List.mem_of_getElem? (i := 5) rfl)) (by decide) (by decide)) q81a q81c (g := (mkF m 84 #[.val (.int x0), .val (.int x1), .val (.long x2), .second, .val (.ref (w k)), .val (.long lf), .second, .val (.int (own_dk k lf)), .val (.int (1 : Int32)), .unset] [(.long (1 : Int64)), (.long lf), (.ref (w k)), (.long (own_ap k lf (0 : Int64)))])) rfl (by rw [hml]; rfl) (Steps.refl _) (argsL := [(.long lf), (.long (1 : Int64))]) (rest := [(.long (own_ap k lf (0 : Int64)))]) (lenOf own_pd_4 rfl) rfl (by show 2 * 0 + _ ≤ _; exact Nat.le_of_eq rfl) (hb hby at_84) (fun _ _ => ⟨rfl, e80, (by decide : 0 + 0 ≤ _), (by decide : 0 + 0 ≤ _)⟩)
        dsimp only [Pt.U, Pt.locs, Pt.cells, Pt.slots] at X81 l81 y81 z81 st81 hQ81
        subst l81 y81 z81
        obtain ⟨rfl, N81q, e81⟩ := hQ81
        have N81 := Fr.app N80 N81q
        have pre82 : ∀ t, Steps p.tables e below (T81.setTop (mkF m 88 #[.val (.int x0), .val (.int x1), .val (.long x2), .second, .val (.ref (w k)), .val (.long lf), .second, .val (.int (own_dk k lf)), .val (.int (1 : Int32)), .unset] [(.int (lcmpW (own_ap k lf (0 : Int64)) (own_ap k lf (1 : Int64))))])) t → Steps p.tables e below (s₁.setTop (entryFrame m #[(.int x0), (.int x1), (.long x2)] maxLocals)) t := fun tt kk => pre79 tt (by
          show Steps p.tables e below (T78.setTop (mkF m 68 #[.val (.int x0), .val (.int x1), .val (.long x2), .second, .val (.ref (w k)), .val (.long lf), .second, .val (.int (own_dk k lf)), .val (.int (1 : Int32)), .unset] [(.int (1 : Int32))])) _
          refine XS.ifNo X78.here hx rfl (hb hby at_68) rfl ((if0 _ _).trans (feq (by decide : ¬ ((1 : Int32) = (0 : Int32)))).1) ?_
          show Steps p.tables e below (T78.setTop (mkF m 71 #[.val (.int x0), .val (.int x1), .val (.long x2), .second, .val (.ref (w k)), .val (.long lf), .second, .val (.int (own_dk k lf)), .val (.int (1 : Int32)), .unset] [])) _
          refine XS.aload X78.here hx rfl (hb hby at_71) rfl rfl ?_
          show Steps p.tables e below (T78.setTop (mkF m 73 #[.val (.int x0), .val (.int x1), .val (.long x2), .second, .val (.ref (w k)), .val (.long lf), .second, .val (.int (own_dk k lf)), .val (.int (1 : Int32)), .unset] [(.ref (w k))])) _
          refine XS.lload X78.here hx rfl (hb hby at_73) rfl ?_
          show Steps p.tables e below (T78.setTop (mkF m 75 #[.val (.int x0), .val (.int x1), .val (.long x2), .second, .val (.ref (w k)), .val (.long lf), .second, .val (.int (own_dk k lf)), .val (.int (1 : Int32)), .unset] [(.long lf), (.ref (w k))])) _
          refine XS.lconst X78.here hx rfl (hb hby at_75) ?_
          show Steps p.tables e below (T78.setTop (mkF m 76 #[.val (.int x0), .val (.int x1), .val (.long x2), .second, .val (.ref (w k)), .val (.long lf), .second, .val (.int (own_dk k lf)), .val (.int (1 : Int32)), .unset] [(.long (0 : Int64)), (.long lf), (.ref (w k))])) _
          refine st80.trans ?_
          show Steps p.tables e below (T80.setTop (mkF m 79 #[.val (.int x0), .val (.int x1), .val (.long x2), .second, .val (.ref (w k)), .val (.long lf), .second, .val (.int (own_dk k lf)), .val (.int (1 : Int32)), .unset] [(.long (own_ap k lf (0 : Int64)))])) _
          refine XS.aload X80.here hx rfl (hb hby at_79) rfl rfl ?_
          show Steps p.tables e below (T80.setTop (mkF m 81 #[.val (.int x0), .val (.int x1), .val (.long x2), .second, .val (.ref (w k)), .val (.long lf), .second, .val (.int (own_dk k lf)), .val (.int (1 : Int32)), .unset] [(.ref (w k)), (.long (own_ap k lf (0 : Int64)))])) _
          refine XS.lload X80.here hx rfl (hb hby at_81) rfl ?_
          show Steps p.tables e below (T80.setTop (mkF m 83 #[.val (.int x0), .val (.int x1), .val (.long x2), .second, .val (.ref (w k)), .val (.long lf), .second, .val (.int (own_dk k lf)), .val (.int (1 : Int32)), .unset] [(.long lf), (.ref (w k)), (.long (own_ap k lf (0 : Int64)))])) _
          refine XS.lconst X80.here hx rfl (hb hby at_83) ?_
          show Steps p.tables e below (T80.setTop (mkF m 84 #[.val (.int x0), .val (.int x1), .val (.long x2), .second, .val (.ref (w k)), .val (.long lf), .second, .val (.int (own_dk k lf)), .val (.int (1 : Int32)), .unset] [(.long (1 : Int64)), (.long lf), (.ref (w k)), (.long (own_ap k lf (0 : Int64)))])) _
          refine st81.trans ?_
          show Steps p.tables e below (T81.setTop (mkF m 87 #[.val (.int x0), .val (.int x1), .val (.long x2), .second, .val (.ref (w k)), .val (.long lf), .second, .val (.int (own_dk k lf)), .val (.int (1 : Int32)), .unset] [(.long (own_ap k lf (1 : Int64))), (.long (own_ap k lf (0 : Int64)))])) _
          refine XS.lcmp X81.here hx rfl (hb hby at_87) rfl ?_
          exact kk)
        by_cases hc88 : (own_ap k lf (0 : Int64)) = (own_ap k lf (1 : Int64))
        · have pre83 : ∀ t, Steps p.tables e below (T81.setTop (mkF m 102 #[.val (.int x0), .val (.int x1), .val (.long x2), .second, .val (.ref (w k)), .val (.long lf), .second, .val (.int (own_dk k lf)), .val (.int (1 : Int32)), .val (.int (1 : Int32))] [(.int (1 : Int32)), (.int (own_dk k lf))])) t → Steps p.tables e below (s₁.setTop (entryFrame m #[(.int x0), (.int x1), (.long x2)] maxLocals)) t := fun tt kk => pre82 tt (by
            show Steps p.tables e below (T81.setTop (mkF m 88 #[.val (.int x0), .val (.int x1), .val (.long x2), .second, .val (.ref (w k)), .val (.long lf), .second, .val (.int (own_dk k lf)), .val (.int (1 : Int32)), .unset] [(.int (lcmpW (own_ap k lf (0 : Int64)) (own_ap k lf (1 : Int64))))])) _
            refine XS.ifNo X81.here hx rfl (hb hby at_88) rfl ((if0 _ _).trans (teq ((lw_eq _ _).mpr hc88)).2) ?_
            show Steps p.tables e below (T81.setTop (mkF m 91 #[.val (.int x0), .val (.int x1), .val (.long x2), .second, .val (.ref (w k)), .val (.long lf), .second, .val (.int (own_dk k lf)), .val (.int (1 : Int32)), .unset] [])) _
            refine XS.iconst X81.here hx rfl (hb hby at_91) ?_
            show Steps p.tables e below (T81.setTop (mkF m 92 #[.val (.int x0), .val (.int x1), .val (.long x2), .second, .val (.ref (w k)), .val (.long lf), .second, .val (.int (own_dk k lf)), .val (.int (1 : Int32)), .unset] [(.int (1 : Int32))])) _
            refine XS.goto X81.here hx rfl (pc0 := 92) (pc' := 96) rfl (hb hby at_92) (by decide) (by decide) ?_
            show Steps p.tables e below (T81.setTop (mkF m 96 #[.val (.int x0), .val (.int x1), .val (.long x2), .second, .val (.ref (w k)), .val (.long lf), .second, .val (.int (own_dk k lf)), .val (.int (1 : Int32)), .unset] [(.int (1 : Int32))])) _
            refine XS.istore X81.here hx rfl (hb hby at_96) rfl (l' := #[.val (.int x0), .val (.int x1), .val (.long x2), .second, .val (.ref (w k)), .val (.long lf), .second, .val (.int (own_dk k lf)), .val (.int (1 : Int32)), .val (.int (1 : Int32))]) rfl ?_
            show Steps p.tables e below (T81.setTop (mkF m 98 #[.val (.int x0), .val (.int x1), .val (.long x2), .second, .val (.ref (w k)), .val (.long lf), .second, .val (.int (own_dk k lf)), .val (.int (1 : Int32)), .val (.int (1 : Int32))] [])) _
            refine XS.iload X81.here hx rfl (hb hby at_98) rfl ?_
            show Steps p.tables e below (T81.setTop (mkF m 100 #[.val (.int x0), .val (.int x1), .val (.long x2), .second, .val (.ref (w k)), .val (.long lf), .second, .val (.int (own_dk k lf)), .val (.int (1 : Int32)), .val (.int (1 : Int32))] [(.int (own_dk k lf))])) _
            refine XS.iload X81.here hx rfl (hb hby at_100) rfl ?_
            exact kk)
          obtain ⟨fs, hr, hrun, hended, hW, hsame⟩ := X81.leave (v := some (.int (1 : Int32))) (fun h => by rw [Bd.returns] at h; cases h)
          refine ⟨_, _, pre83 _ ?_, hrun, hended, _, _, rfl, ?_, ⟨_, rfl⟩, hW, hsame.mono (by decide) (by decide)⟩
          · show Steps p.tables e below (T81.setTop (mkF m 102 #[.val (.int x0), .val (.int x1), .val (.long x2), .second, .val (.ref (w k)), .val (.long lf), .second, .val (.int (own_dk k lf)), .val (.int (1 : Int32)), .val (.int (1 : Int32))] [(.int (1 : Int32)), (.int (own_dk k lf))])) _
            refine XS.icmpNo X81.here hx rfl (hb hby at_102) rfl (teq (own_fin1p k hk5 hc48 hc88)).2 ?_
            show Steps p.tables e below (T81.setTop (mkF m 105 #[.val (.int x0), .val (.int x1), .val (.long x2), .second, .val (.ref (w k)), .val (.long lf), .second, .val (.int (own_dk k lf)), .val (.int (1 : Int32)), .val (.int (1 : Int32))] [])) _
            refine XS.iconst X81.here hx rfl (hb hby at_105) ?_
            show Steps p.tables e below (T81.setTop (mkF m 106 #[.val (.int x0), .val (.int x1), .val (.long x2), .second, .val (.ref (w k)), .val (.long lf), .second, .val (.int (own_dk k lf)), .val (.int (1 : Int32)), .val (.int (1 : Int32))] [(.int (1 : Int32))])) _
            refine XS.goto X81.here hx rfl (pc0 := 106) (pc' := 110) rfl (hb hby at_106) (by decide) (by decide) ?_
            show Steps p.tables e below (T81.setTop (mkF m 110 #[.val (.int x0), .val (.int x1), .val (.long x2), .second, .val (.ref (w k)), .val (.long lf), .second, .val (.int (own_dk k lf)), .val (.int (1 : Int32)), .val (.int (1 : Int32))] [(.int (1 : Int32))])) _
            exact retN X81 hx (t := .boolean) Bd.returns (by simp) (hb hby at_110) hr
          · exact ⟨rfl, N81⟩
        · have pre84 : ∀ t, Steps p.tables e below (T81.setTop (mkF m 102 #[.val (.int x0), .val (.int x1), .val (.long x2), .second, .val (.ref (w k)), .val (.long lf), .second, .val (.int (own_dk k lf)), .val (.int (1 : Int32)), .val (.int (0 : Int32))] [(.int (0 : Int32)), (.int (own_dk k lf))])) t → Steps p.tables e below (s₁.setTop (entryFrame m #[(.int x0), (.int x1), (.long x2)] maxLocals)) t := fun tt kk => pre82 tt (by
            show Steps p.tables e below (T81.setTop (mkF m 88 #[.val (.int x0), .val (.int x1), .val (.long x2), .second, .val (.ref (w k)), .val (.long lf), .second, .val (.int (own_dk k lf)), .val (.int (1 : Int32)), .unset] [(.int (lcmpW (own_ap k lf (0 : Int64)) (own_ap k lf (1 : Int64))))])) _
            refine XS.ifYes X81.here hx rfl (pc0 := 88) (pc' := 95) rfl (hb hby at_88) rfl ((if0 _ _).trans (feq (mt (lw_eq _ _).mp hc88)).2) (by decide) (by decide) ?_
            show Steps p.tables e below (T81.setTop (mkF m 95 #[.val (.int x0), .val (.int x1), .val (.long x2), .second, .val (.ref (w k)), .val (.long lf), .second, .val (.int (own_dk k lf)), .val (.int (1 : Int32)), .unset] [])) _
            refine XS.iconst X81.here hx rfl (hb hby at_95) ?_
            show Steps p.tables e below (T81.setTop (mkF m 96 #[.val (.int x0), .val (.int x1), .val (.long x2), .second, .val (.ref (w k)), .val (.long lf), .second, .val (.int (own_dk k lf)), .val (.int (1 : Int32)), .unset] [(.int (0 : Int32))])) _
            refine XS.istore X81.here hx rfl (hb hby at_96) rfl (l' := #[.val (.int x0), .val (.int x1), .val (.long x2), .second, .val (.ref (w k)), .val (.long lf), .second, .val (.int (own_dk k lf)), .val (.int (1 : Int32)), .val (.int (0 : Int32))]) rfl ?_
            show Steps p.tables e below (T81.setTop (mkF m 98 #[.val (.int x0), .val (.int x1), .val (.long x2), .second, .val (.ref (w k)), .val (.long lf), .second, .val (.int (own_dk k lf)), .val (.int (1 : Int32)), .val (.int (0 : Int32))] [])) _
            refine XS.iload X81.here hx rfl (hb hby at_98) rfl ?_
            show Steps p.tables e below (T81.setTop (mkF m 100 #[.val (.int x0), .val (.int x1), .val (.long x2), .second, .val (.ref (w k)), .val (.long lf), .second, .val (.int (own_dk k lf)), .val (.int (1 : Int32)), .val (.int (0 : Int32))] [(.int (own_dk k lf))])) _
            refine XS.iload X81.here hx rfl (hb hby at_100) rfl ?_
            exact kk)
          obtain ⟨fs, hr, hrun, hended, hW, hsame⟩ := X81.leave (v := some (.int (1 : Int32))) (fun h => by rw [Bd.returns] at h; cases h)
          refine ⟨_, _, pre84 _ ?_, hrun, hended, _, _, rfl, ?_, ⟨_, rfl⟩, hW, hsame.mono (by decide) (by decide)⟩
          · show Steps p.tables e below (T81.setTop (mkF m 102 #[.val (.int x0), .val (.int x1), .val (.long x2), .second, .val (.ref (w k)), .val (.long lf), .second, .val (.int (own_dk k lf)), .val (.int (1 : Int32)), .val (.int (0 : Int32))] [(.int (0 : Int32)), (.int (own_dk k lf))])) _
            refine XS.icmpNo X81.here hx rfl (hb hby at_102) rfl (teq (own_fin1n k hk5 hc48 hc88)).2 ?_
            show Steps p.tables e below (T81.setTop (mkF m 105 #[.val (.int x0), .val (.int x1), .val (.long x2), .second, .val (.ref (w k)), .val (.long lf), .second, .val (.int (own_dk k lf)), .val (.int (1 : Int32)), .val (.int (0 : Int32))] [])) _
            refine XS.iconst X81.here hx rfl (hb hby at_105) ?_
            show Steps p.tables e below (T81.setTop (mkF m 106 #[.val (.int x0), .val (.int x1), .val (.long x2), .second, .val (.ref (w k)), .val (.long lf), .second, .val (.int (own_dk k lf)), .val (.int (1 : Int32)), .val (.int (0 : Int32))] [(.int (1 : Int32))])) _
            refine XS.goto X81.here hx rfl (pc0 := 106) (pc' := 110) rfl (hb hby at_106) (by decide) (by decide) ?_
            show Steps p.tables e below (T81.setTop (mkF m 110 #[.val (.int x0), .val (.int x1), .val (.long x2), .second, .val (.ref (w k)), .val (.long lf), .second, .val (.int (own_dk k lf)), .val (.int (1 : Int32)), .val (.int (0 : Int32))] [(.int (1 : Int32))])) _
            exact retN X81 hx (t := .boolean) Bd.returns (by simp) (hb hby at_110) hr
          · exact ⟨rfl, N81⟩
      · obtain ⟨cq85, kq85, q85a, q85b, q85c⟩ := isOf hZ e61 (EX k hk)
        obtain ⟨vv85, _, ⟨T85, L85, k85, n85⟩, -, X85, ⟨Lc85, hQ85, l85, y85, z85⟩, st85⟩ := X61.virtualBack hx (y := (⟨"com/example/puzzled_pilot/puzzledpilot/model/Operator", "isConnective", "()Z"⟩ : MethodName)) (z := (⟨"com/example/puzzled_pilot/puzzledpilot/model/Operator", "isConnective", "()Z"⟩ : MethodName)) hown (mvT hZ (hw _ (List.mem_of_getElem? (i := 14) rfl))) (mvT hZ (hw _ (List.mem_of_getElem? (i := 15) rfl))) (notFace_of_selects (args := #[]) (mvT hZ (hw _ (List.mem_of_getElem? (i := 17) rfl)))) (mvT hZ (hw _ (List.mem_of_getElem? (i := 17) rfl))) (mvT hZ (hw _ (List.mem_of_getElem? (i := 16) rfl))) (by decide) (backOf (W := 0) (rm_ic l Z a0 hw [] (w k) w h0 n0 Z0 ST) hZ (hw _ (List.mem_of_getElem? (i := 18) rfl)) (hw _ (List.mem_of_getElem? (i := 5) rfl)) (by decide) (by decide)) q85a q85c (g := (mkF m 65 #[.val (.int x0), .val (.int x1), .val (.long x2), .second, .val (.ref (w k)), .val (.long lf), .second, .val (.int (own_dk k lf)), .val (.int (1 : Int32)), .unset] [(.ref (w k))])) rfl (by rw [hml]; rfl) (Steps.refl _) (argsL := []) (rest := []) (lenOf own_pd_3 rfl) rfl (by show 2 * 0 + _ ≤ _; exact Nat.le_of_eq rfl) (hb hby at_65) (fun _ _ => ⟨rfl, e61, (by decide : 0 + 0 ≤ _), (by decide : 0 + 0 ≤ _)⟩)
        dsimp only [Pt.U, Pt.locs, Pt.cells, Pt.slots] at X85 l85 y85 z85 st85 hQ85
        subst l85 y85 z85
        rw [own_isc_eq INJ hk, if_neg hk5] at hQ85
        obtain ⟨rfl, N85q, e85⟩ := hQ85
        have N85 := Fr.app N61 N85q
        have pre86 : ∀ t, Steps p.tables e below (T85.setTop (mkF m 68 #[.val (.int x0), .val (.int x1), .val (.long x2), .second, .val (.ref (w k)), .val (.long lf), .second, .val (.int (own_dk k lf)), .val (.int (1 : Int32)), .unset] [(.int (0 : Int32))])) t → Steps p.tables e below (s₁.setTop (entryFrame m #[(.int x0), (.int x1), (.long x2)] maxLocals)) t := fun tt kk => pre77 tt (by
          show Steps p.tables e below (T61.setTop (mkF m 63 #[.val (.int x0), .val (.int x1), .val (.long x2), .second, .val (.ref (w k)), .val (.long lf), .second, .val (.int (own_dk k lf)), .val (.int (1 : Int32)), .unset] [])) _
          refine XS.aload X61.here hx rfl (hb hby at_63) rfl rfl ?_
          show Steps p.tables e below (T61.setTop (mkF m 65 #[.val (.int x0), .val (.int x1), .val (.long x2), .second, .val (.ref (w k)), .val (.long lf), .second, .val (.int (own_dk k lf)), .val (.int (1 : Int32)), .unset] [(.ref (w k))])) _
          refine st85.trans ?_
          exact kk)
        have pre87 : ∀ t, Steps p.tables e below (T85.setTop (mkF m 102 #[.val (.int x0), .val (.int x1), .val (.long x2), .second, .val (.ref (w k)), .val (.long lf), .second, .val (.int (own_dk k lf)), .val (.int (1 : Int32)), .val (.int (0 : Int32))] [(.int (0 : Int32)), (.int (own_dk k lf))])) t → Steps p.tables e below (s₁.setTop (entryFrame m #[(.int x0), (.int x1), (.long x2)] maxLocals)) t := fun tt kk => pre86 tt (by
          show Steps p.tables e below (T85.setTop (mkF m 68 #[.val (.int x0), .val (.int x1), .val (.long x2), .second, .val (.ref (w k)), .val (.long lf), .second, .val (.int (own_dk k lf)), .val (.int (1 : Int32)), .unset] [(.int (0 : Int32))])) _
          refine XS.ifYes X85.here hx rfl (pc0 := 68) (pc' := 95) rfl (hb hby at_68) rfl ((if0 _ _).trans (teq (by decide : (0 : Int32) = (0 : Int32))).1) (by decide) (by decide) ?_
          show Steps p.tables e below (T85.setTop (mkF m 95 #[.val (.int x0), .val (.int x1), .val (.long x2), .second, .val (.ref (w k)), .val (.long lf), .second, .val (.int (own_dk k lf)), .val (.int (1 : Int32)), .unset] [])) _
          refine XS.iconst X85.here hx rfl (hb hby at_95) ?_
          show Steps p.tables e below (T85.setTop (mkF m 96 #[.val (.int x0), .val (.int x1), .val (.long x2), .second, .val (.ref (w k)), .val (.long lf), .second, .val (.int (own_dk k lf)), .val (.int (1 : Int32)), .unset] [(.int (0 : Int32))])) _
          refine XS.istore X85.here hx rfl (hb hby at_96) rfl (l' := #[.val (.int x0), .val (.int x1), .val (.long x2), .second, .val (.ref (w k)), .val (.long lf), .second, .val (.int (own_dk k lf)), .val (.int (1 : Int32)), .val (.int (0 : Int32))]) rfl ?_
          show Steps p.tables e below (T85.setTop (mkF m 98 #[.val (.int x0), .val (.int x1), .val (.long x2), .second, .val (.ref (w k)), .val (.long lf), .second, .val (.int (own_dk k lf)), .val (.int (1 : Int32)), .val (.int (0 : Int32))] [])) _
          refine XS.iload X85.here hx rfl (hb hby at_98) rfl ?_
          show Steps p.tables e below (T85.setTop (mkF m 100 #[.val (.int x0), .val (.int x1), .val (.long x2), .second, .val (.ref (w k)), .val (.long lf), .second, .val (.int (own_dk k lf)), .val (.int (1 : Int32)), .val (.int (0 : Int32))] [(.int (own_dk k lf))])) _
          refine XS.iload X85.here hx rfl (hb hby at_100) rfl ?_
          exact kk)
        obtain ⟨fs, hr, hrun, hended, hW, hsame⟩ := X85.leave (v := some (.int (1 : Int32))) (fun h => by rw [Bd.returns] at h; cases h)
        refine ⟨_, _, pre87 _ ?_, hrun, hended, _, _, rfl, ?_, ⟨_, rfl⟩, hW, hsame.mono (by decide) (by decide)⟩
        · show Steps p.tables e below (T85.setTop (mkF m 102 #[.val (.int x0), .val (.int x1), .val (.long x2), .second, .val (.ref (w k)), .val (.long lf), .second, .val (.int (own_dk k lf)), .val (.int (1 : Int32)), .val (.int (0 : Int32))] [(.int (0 : Int32)), (.int (own_dk k lf))])) _
          refine XS.icmpNo X85.here hx rfl (hb hby at_102) rfl (teq (own_dk_off hk5 lf)).2 ?_
          show Steps p.tables e below (T85.setTop (mkF m 105 #[.val (.int x0), .val (.int x1), .val (.long x2), .second, .val (.ref (w k)), .val (.long lf), .second, .val (.int (own_dk k lf)), .val (.int (1 : Int32)), .val (.int (0 : Int32))] [])) _
          refine XS.iconst X85.here hx rfl (hb hby at_105) ?_
          show Steps p.tables e below (T85.setTop (mkF m 106 #[.val (.int x0), .val (.int x1), .val (.long x2), .second, .val (.ref (w k)), .val (.long lf), .second, .val (.int (own_dk k lf)), .val (.int (1 : Int32)), .val (.int (0 : Int32))] [(.int (1 : Int32))])) _
          refine XS.goto X85.here hx rfl (pc0 := 106) (pc' := 110) rfl (hb hby at_106) (by decide) (by decide) ?_
          show Steps p.tables e below (T85.setTop (mkF m 110 #[.val (.int x0), .val (.int x1), .val (.long x2), .second, .val (.ref (w k)), .val (.long lf), .second, .val (.int (own_dk k lf)), .val (.int (1 : Int32)), .val (.int (0 : Int32))] [(.int (1 : Int32))])) _
          exact retN X85 hx (t := .boolean) Bd.returns (by simp) (hb hby at_110) hr
        · exact ⟨rfl, N85⟩
    · have pre88 : ∀ t, Steps p.tables e below (T61.setTop (mkF m 60 #[.val (.int x0), .val (.int x1), .val (.long x2), .second, .val (.ref (w k)), .val (.long lf), .second, .val (.int (own_dk k lf)), .val (.int (0 : Int32)), .unset] [(.int (0 : Int32))])) t → Steps p.tables e below (s₁.setTop (entryFrame m #[(.int x0), (.int x1), (.long x2)] maxLocals)) t := fun tt kk => pre75 tt (by
        show Steps p.tables e below (T61.setTop (mkF m 48 #[.val (.int x0), .val (.int x1), .val (.long x2), .second, .val (.ref (w k)), .val (.long lf), .second, .val (.int (own_dk k lf)), .unset, .unset] [(.int (lcmpW lf (1 : Int64)))])) _
        refine XS.ifYes X61.here hx rfl (pc0 := 48) (pc' := 55) rfl (hb hby at_48) rfl ((if0 _ _).trans (feq (mt (lw_eq _ _).mp hc48)).2) (by decide) (by decide) ?_
        show Steps p.tables e below (T61.setTop (mkF m 55 #[.val (.int x0), .val (.int x1), .val (.long x2), .second, .val (.ref (w k)), .val (.long lf), .second, .val (.int (own_dk k lf)), .unset, .unset] [])) _
        refine XS.iconst X61.here hx rfl (hb hby at_55) ?_
        show Steps p.tables e below (T61.setTop (mkF m 56 #[.val (.int x0), .val (.int x1), .val (.long x2), .second, .val (.ref (w k)), .val (.long lf), .second, .val (.int (own_dk k lf)), .unset, .unset] [(.int (0 : Int32))])) _
        refine XS.istore X61.here hx rfl (hb hby at_56) rfl (l' := #[.val (.int x0), .val (.int x1), .val (.long x2), .second, .val (.ref (w k)), .val (.long lf), .second, .val (.int (own_dk k lf)), .val (.int (0 : Int32)), .unset]) rfl ?_
        show Steps p.tables e below (T61.setTop (mkF m 58 #[.val (.int x0), .val (.int x1), .val (.long x2), .second, .val (.ref (w k)), .val (.long lf), .second, .val (.int (own_dk k lf)), .val (.int (0 : Int32)), .unset] [])) _
        refine XS.iload X61.here hx rfl (hb hby at_58) rfl ?_
        exact kk)
      have pre89 : ∀ t, Steps p.tables e below (T61.setTop (mkF m 102 #[.val (.int x0), .val (.int x1), .val (.long x2), .second, .val (.ref (w k)), .val (.long lf), .second, .val (.int (own_dk k lf)), .val (.int (0 : Int32)), .val (.int (0 : Int32))] [(.int (0 : Int32)), (.int (own_dk k lf))])) t → Steps p.tables e below (s₁.setTop (entryFrame m #[(.int x0), (.int x1), (.long x2)] maxLocals)) t := fun tt kk => pre88 tt (by
        show Steps p.tables e below (T61.setTop (mkF m 60 #[.val (.int x0), .val (.int x1), .val (.long x2), .second, .val (.ref (w k)), .val (.long lf), .second, .val (.int (own_dk k lf)), .val (.int (0 : Int32)), .unset] [(.int (0 : Int32))])) _
        refine XS.ifYes X61.here hx rfl (pc0 := 60) (pc' := 95) rfl (hb hby at_60) rfl ((if0 _ _).trans (teq (by decide : (0 : Int32) = (0 : Int32))).1) (by decide) (by decide) ?_
        show Steps p.tables e below (T61.setTop (mkF m 95 #[.val (.int x0), .val (.int x1), .val (.long x2), .second, .val (.ref (w k)), .val (.long lf), .second, .val (.int (own_dk k lf)), .val (.int (0 : Int32)), .unset] [])) _
        refine XS.iconst X61.here hx rfl (hb hby at_95) ?_
        show Steps p.tables e below (T61.setTop (mkF m 96 #[.val (.int x0), .val (.int x1), .val (.long x2), .second, .val (.ref (w k)), .val (.long lf), .second, .val (.int (own_dk k lf)), .val (.int (0 : Int32)), .unset] [(.int (0 : Int32))])) _
        refine XS.istore X61.here hx rfl (hb hby at_96) rfl (l' := #[.val (.int x0), .val (.int x1), .val (.long x2), .second, .val (.ref (w k)), .val (.long lf), .second, .val (.int (own_dk k lf)), .val (.int (0 : Int32)), .val (.int (0 : Int32))]) rfl ?_
        show Steps p.tables e below (T61.setTop (mkF m 98 #[.val (.int x0), .val (.int x1), .val (.long x2), .second, .val (.ref (w k)), .val (.long lf), .second, .val (.int (own_dk k lf)), .val (.int (0 : Int32)), .val (.int (0 : Int32))] [])) _
        refine XS.iload X61.here hx rfl (hb hby at_98) rfl ?_
        show Steps p.tables e below (T61.setTop (mkF m 100 #[.val (.int x0), .val (.int x1), .val (.long x2), .second, .val (.ref (w k)), .val (.long lf), .second, .val (.int (own_dk k lf)), .val (.int (0 : Int32)), .val (.int (0 : Int32))] [(.int (own_dk k lf))])) _
        refine XS.iload X61.here hx rfl (hb hby at_100) rfl ?_
        exact kk)
      obtain ⟨fs, hr, hrun, hended, hW, hsame⟩ := X61.leave (v := some (.int (1 : Int32))) (fun h => by rw [Bd.returns] at h; cases h)
      refine ⟨_, _, pre89 _ ?_, hrun, hended, _, _, rfl, ?_, ⟨_, rfl⟩, hW, hsame.mono (by decide) (by decide)⟩
      · show Steps p.tables e below (T61.setTop (mkF m 102 #[.val (.int x0), .val (.int x1), .val (.long x2), .second, .val (.ref (w k)), .val (.long lf), .second, .val (.int (own_dk k lf)), .val (.int (0 : Int32)), .val (.int (0 : Int32))] [(.int (0 : Int32)), (.int (own_dk k lf))])) _
        refine XS.icmpNo X61.here hx rfl (hb hby at_102) rfl (teq (own_dk_other k hc41 hc48)).2 ?_
        show Steps p.tables e below (T61.setTop (mkF m 105 #[.val (.int x0), .val (.int x1), .val (.long x2), .second, .val (.ref (w k)), .val (.long lf), .second, .val (.int (own_dk k lf)), .val (.int (0 : Int32)), .val (.int (0 : Int32))] [])) _
        refine XS.iconst X61.here hx rfl (hb hby at_105) ?_
        show Steps p.tables e below (T61.setTop (mkF m 106 #[.val (.int x0), .val (.int x1), .val (.long x2), .second, .val (.ref (w k)), .val (.long lf), .second, .val (.int (own_dk k lf)), .val (.int (0 : Int32)), .val (.int (0 : Int32))] [(.int (1 : Int32))])) _
        refine XS.goto X61.here hx rfl (pc0 := 106) (pc' := 110) rfl (hb hby at_106) (by decide) (by decide) ?_
        show Steps p.tables e below (T61.setTop (mkF m 110 #[.val (.int x0), .val (.int x1), .val (.long x2), .second, .val (.ref (w k)), .val (.long lf), .second, .val (.int (own_dk k lf)), .val (.int (0 : Int32)), .val (.int (0 : Int32))] [(.int (1 : Int32))])) _
        exact retN X61 hx (t := .boolean) Bd.returns (by simp) (hb hby at_110) hr
      · exact ⟨rfl, N61⟩
set_option maxRecDepth 65536 in
set_option maxHeartbeats 40000000 in
theorem comes_1 {Post : Tables → Env → Array Value → State → Outcome → State → Prop} (hpost : ∀ tb e args s v u, (limb_1_1.after args s (.returned v) u = true ∧ limb_1_2.after args s (.returned v) u = true ∧ True) → FrameEnd s (.returned v) u (Jvm.fieldLocs frame_1_writes args s ++ Jvm.arrayLocs frame_1_arrays args s ++ Jvm.staticLocs frame_1_statics s) 0 0 → Post tb e args s (.returned v) u) :
    ArmFor flags0 classFile x code maxLocals ret World_1 tables_1 room_1 Calls_1 rest_1 Pre_1 Post := by
  intro l hfl _ _ p e ha hc hk s m args below hf hA hF happ hP
  obtain ⟨hcalls, hrest, hpre⟩ := hP
  obtain ⟨-, -, -, hnamed, -, -, -, hat⟩ := (Spec.applies_iff hf).mp happ
  obtain ⟨hg, hn⟩ := and_e (Cond.before_iff.mp (show (Jvm.Cond.and given_1 narrow_1).before args s = true from hpre))
  obtain ⟨g0, g0r⟩ := and_e hg
  obtain ⟨g1, g1r⟩ := and_e g0r
  obtain ⟨g2, g2r⟩ := and_e g1r
  obtain ⟨w0_, w1_, w2_, rfl⟩ : ∃ w0_ w1_ w2_ : Value, args = #[w0_, w1_, w2_] := by
    have hs : args.size = 3 := by simpa [Cond.value, given_1] using g0
    obtain ⟨L⟩ := args
    match L, hs with
    | [w0_, w1_, w2_], _ => exact ⟨w0_, w1_, w2_, rfl⟩
  have hw := fun d (hd : d ∈ tables_1) => atoms_spec (ws := Jvm.Cond.code x code maxLocals ret :: tables_1) hat d (List.mem_cons_of_mem _ hd)
  have hfit : Fit s := fun {y c} hc i hi => by
    obtain ⟨ha, rfl⟩ := Array.getElem?_eq_some_iff.mp hc
    have q := List.all_eq_true.mp ((Array.all_eq_true_iff_forall_mem.mp hF) _ (Array.getElem_mem ha)) i (List.mem_range.mpr hi)
    simpa [Array.getElem?_eq_getElem hi] using q
  obtain ⟨i0, ei0⟩ := is_v g1
  obtain rfl : w0_ = (.int i0) := Option.some.inj ei0
  obtain ⟨i1, ei1⟩ := is_v g2
  obtain rfl : w1_ = (.int i1) := Option.some.inj ei1
  obtain ⟨i2, ei2⟩ := isL_v g2r
  obtain rfl : w2_ = (.long i2) := Option.some.inj ei2
  obtain ⟨n0, n0r⟩ := and_e hn
  obtain ⟨n1, n1r⟩ := and_e n0r
  obtain ⟨n2, n2r⟩ := and_e n1r
  obtain ⟨n3, n3r⟩ := and_e n2r
  obtain ⟨n4, n4r⟩ := and_e n3r
  obtain ⟨n5, n5r⟩ := and_e n4r
  obtain ⟨n6, n6r⟩ := and_e n5r
  obtain ⟨n7, n7r⟩ := and_e n6r
  obtain ⟨n8, n8r⟩ := and_e n7r
  obtain ⟨n9, n9r⟩ := and_e n8r
  obtain ⟨n10, n10r⟩ := and_e n9r
  obtain ⟨n11, n11r⟩ := and_e n10r
  obtain ⟨n12, n12r⟩ := and_e n11r
  obtain ⟨n13, n13r⟩ := and_e n12r
  obtain ⟨n14, n14r⟩ := and_e n13r
  obtain ⟨n15, n15r⟩ := and_e n14r
  obtain ⟨n16, n16r⟩ := and_e n15r
  obtain ⟨n17, n17r⟩ := and_e n16r
  obtain ⟨n18, n18r⟩ := and_e n17r
  obtain ⟨n19, n19r⟩ := and_e n18r
  obtain ⟨n20, n20r⟩ := and_e n19r
  obtain ⟨n21, n21r⟩ := and_e n20r
  obtain ⟨n22, n22r⟩ := and_e n21r
  obtain ⟨n23, n23r⟩ := and_e n22r
  obtain ⟨n24, n24r⟩ := and_e n23r
  obtain ⟨n25, n25r⟩ := and_e n24r
  obtain ⟨n26, n26r⟩ := and_e n25r
  obtain ⟨n27, n27r⟩ := and_e n26r
  obtain ⟨n28, n28r⟩ := and_e n27r
  obtain ⟨n29, n29r⟩ := and_e n28r
  obtain ⟨n30, n30r⟩ := and_e n29r
  obtain ⟨v0, ev0⟩ := exa_v n0
  have S0 : Sta s s.heap "com/example/puzzled_pilot/puzzledpilot/model/Operator" "AND" "Lcom/example/puzzled_pilot/puzzledpilot/model/Operator;" (.ref v0) := Sta.start ev0 (Or.inr ⟨(hw _ (List.mem_of_getElem? (i := 5) rfl)), (hw _ (List.mem_of_getElem? (i := 6) rfl))⟩)
  have E0 : Exa s s.heap v0 "com/example/puzzled_pilot/puzzledpilot/model/Operator" := Exa.start ev0 n0
  obtain ⟨v1, ev1⟩ := exa_v n1
  have S1 : Sta s s.heap "com/example/puzzled_pilot/puzzledpilot/model/Operator" "OR" "Lcom/example/puzzled_pilot/puzzledpilot/model/Operator;" (.ref v1) := Sta.start ev1 (Or.inr ⟨(hw _ (List.mem_of_getElem? (i := 5) rfl)), (hw _ (List.mem_of_getElem? (i := 13) rfl))⟩)
  have E1 : Exa s s.heap v1 "com/example/puzzled_pilot/puzzledpilot/model/Operator" := Exa.start ev1 n1
  obtain ⟨v2, ev2⟩ := exa_v n10
  have S2 : Sta s s.heap "com/example/puzzled_pilot/puzzledpilot/model/Operator" "XOR" "Lcom/example/puzzled_pilot/puzzledpilot/model/Operator;" (.ref v2) := Sta.start ev2 (Or.inr ⟨(hw _ (List.mem_of_getElem? (i := 5) rfl)), (hw _ (List.mem_of_getElem? (i := 46) rfl))⟩)
  have E2 : Exa s s.heap v2 "com/example/puzzled_pilot/puzzledpilot/model/Operator" := Exa.start ev2 n10
  obtain ⟨v3, ev3⟩ := exa_v n12
  have S3 : Sta s s.heap "com/example/puzzled_pilot/puzzledpilot/model/Operator" "IMPLIES" "Lcom/example/puzzled_pilot/puzzledpilot/model/Operator;" (.ref v3) := Sta.start ev3 (Or.inr ⟨(hw _ (List.mem_of_getElem? (i := 5) rfl)), (hw _ (List.mem_of_getElem? (i := 48) rfl))⟩)
  have E3 : Exa s s.heap v3 "com/example/puzzled_pilot/puzzledpilot/model/Operator" := Exa.start ev3 n12
  obtain ⟨v4, ev4⟩ := exa_v n14
  have S4 : Sta s s.heap "com/example/puzzled_pilot/puzzledpilot/model/Operator" "IFF" "Lcom/example/puzzled_pilot/puzzledpilot/model/Operator;" (.ref v4) := Sta.start ev4 (Or.inr ⟨(hw _ (List.mem_of_getElem? (i := 5) rfl)), (hw _ (List.mem_of_getElem? (i := 50) rfl))⟩)
  have E4 : Exa s s.heap v4 "com/example/puzzled_pilot/puzzledpilot/model/Operator" := Exa.start ev4 n14
  obtain ⟨v5, ev5⟩ := exa_v n23
  have S5 : Sta s s.heap "com/example/puzzled_pilot/puzzledpilot/model/Operator" "EQUAL" "Lcom/example/puzzled_pilot/puzzledpilot/model/Operator;" (.ref v5) := Sta.start ev5 (Or.inr ⟨(hw _ (List.mem_of_getElem? (i := 5) rfl)), (hw _ (List.mem_of_getElem? (i := 62) rfl))⟩)
  have E5 : Exa s s.heap v5 "com/example/puzzled_pilot/puzzledpilot/model/Operator" := Exa.start ev5 n23
  obtain ⟨v6, ev6⟩ := exa_v n6
  have S6 : Sta s s.heap "com/example/puzzled_pilot/puzzledpilot/model/Operator" "NOT_EQUAL" "Lcom/example/puzzled_pilot/puzzledpilot/model/Operator;" (.ref v6) := Sta.start ev6 (Or.inr ⟨(hw _ (List.mem_of_getElem? (i := 5) rfl)), (hw _ (List.mem_of_getElem? (i := 39) rfl))⟩)
  have E6 : Exa s s.heap v6 "com/example/puzzled_pilot/puzzledpilot/model/Operator" := Exa.start ev6 n6
  obtain ⟨v7, ev7⟩ := exa_v n18
  have S7 : Sta s s.heap "com/example/puzzled_pilot/puzzledpilot/model/Operator" "LESS" "Lcom/example/puzzled_pilot/puzzledpilot/model/Operator;" (.ref v7) := Sta.start ev7 (Or.inr ⟨(hw _ (List.mem_of_getElem? (i := 5) rfl)), (hw _ (List.mem_of_getElem? (i := 55) rfl))⟩)
  have E7 : Exa s s.heap v7 "com/example/puzzled_pilot/puzzledpilot/model/Operator" := Exa.start ev7 n18
  obtain ⟨v8, ev8⟩ := exa_v n17
  have S8 : Sta s s.heap "com/example/puzzled_pilot/puzzledpilot/model/Operator" "LESS_OR_EQUAL" "Lcom/example/puzzled_pilot/puzzledpilot/model/Operator;" (.ref v8) := Sta.start ev8 (Or.inr ⟨(hw _ (List.mem_of_getElem? (i := 5) rfl)), (hw _ (List.mem_of_getElem? (i := 52) rfl))⟩)
  have E8 : Exa s s.heap v8 "com/example/puzzled_pilot/puzzledpilot/model/Operator" := Exa.start ev8 n17
  obtain ⟨v9, ev9⟩ := exa_v n21
  have S9 : Sta s s.heap "com/example/puzzled_pilot/puzzledpilot/model/Operator" "GREATER" "Lcom/example/puzzled_pilot/puzzledpilot/model/Operator;" (.ref v9) := Sta.start ev9 (Or.inr ⟨(hw _ (List.mem_of_getElem? (i := 5) rfl)), (hw _ (List.mem_of_getElem? (i := 60) rfl))⟩)
  have E9 : Exa s s.heap v9 "com/example/puzzled_pilot/puzzledpilot/model/Operator" := Exa.start ev9 n21
  obtain ⟨v10, ev10⟩ := exa_v n8
  have S10 : Sta s s.heap "com/example/puzzled_pilot/puzzledpilot/model/Operator" "GREATER_OR_EQUAL" "Lcom/example/puzzled_pilot/puzzledpilot/model/Operator;" (.ref v10) := Sta.start ev10 (Or.inr ⟨(hw _ (List.mem_of_getElem? (i := 5) rfl)), (hw _ (List.mem_of_getElem? (i := 44) rfl))⟩)
  have E10 : Exa s s.heap v10 "com/example/puzzled_pilot/puzzledpilot/model/Operator" := Exa.start ev10 n8
  obtain ⟨v11, ev11⟩ := exa_v n7
  have S11 : Sta s s.heap "com/example/puzzled_pilot/puzzledpilot/model/Operator" "PLUS" "Lcom/example/puzzled_pilot/puzzledpilot/model/Operator;" (.ref v11) := Sta.start ev11 (Or.inr ⟨(hw _ (List.mem_of_getElem? (i := 5) rfl)), (hw _ (List.mem_of_getElem? (i := 42) rfl))⟩)
  have E11 : Exa s s.heap v11 "com/example/puzzled_pilot/puzzledpilot/model/Operator" := Exa.start ev11 n7
  obtain ⟨v12, ev12⟩ := exa_v n4
  have S12 : Sta s s.heap "com/example/puzzled_pilot/puzzledpilot/model/Operator" "MINUS" "Lcom/example/puzzled_pilot/puzzledpilot/model/Operator;" (.ref v12) := Sta.start ev12 (Or.inr ⟨(hw _ (List.mem_of_getElem? (i := 5) rfl)), (hw _ (List.mem_of_getElem? (i := 35) rfl))⟩)
  have E12 : Exa s s.heap v12 "com/example/puzzled_pilot/puzzledpilot/model/Operator" := Exa.start ev12 n4
  obtain ⟨v13, ev13⟩ := exa_v n26
  have S13 : Sta s s.heap "com/example/puzzled_pilot/puzzledpilot/model/Operator" "TIMES" "Lcom/example/puzzled_pilot/puzzledpilot/model/Operator;" (.ref v13) := Sta.start ev13 (Or.inr ⟨(hw _ (List.mem_of_getElem? (i := 5) rfl)), (hw _ (List.mem_of_getElem? (i := 66) rfl))⟩)
  have E13 : Exa s s.heap v13 "com/example/puzzled_pilot/puzzledpilot/model/Operator" := Exa.start ev13 n26
  obtain ⟨v14, ev14⟩ := exa_v n24
  have S14 : Sta s s.heap "com/example/puzzled_pilot/puzzledpilot/model/Operator" "DIVIDE" "Lcom/example/puzzled_pilot/puzzledpilot/model/Operator;" (.ref v14) := Sta.start ev14 (Or.inr ⟨(hw _ (List.mem_of_getElem? (i := 5) rfl)), (hw _ (List.mem_of_getElem? (i := 64) rfl))⟩)
  have E14 : Exa s s.heap v14 "com/example/puzzled_pilot/puzzledpilot/model/Operator" := Exa.start ev14 n24
  obtain ⟨v15, ev15⟩ := exa_v n5
  have S15 : Sta s s.heap "com/example/puzzled_pilot/puzzledpilot/model/Operator" "MODULO" "Lcom/example/puzzled_pilot/puzzledpilot/model/Operator;" (.ref v15) := Sta.start ev15 (Or.inr ⟨(hw _ (List.mem_of_getElem? (i := 5) rfl)), (hw _ (List.mem_of_getElem? (i := 37) rfl))⟩)
  have E15 : Exa s s.heap v15 "com/example/puzzled_pilot/puzzledpilot/model/Operator" := Exa.start ev15 n5
  have F0 := own_fld ev0 n2
  have F1 := own_fld ev1 n3
  have F2 := own_fld ev2 n11
  have F3 := own_fld ev3 n13
  have F4 := own_fld ev4 n15
  have F5 := own_fld ev5 n29
  have F6 := own_fld ev6 n27
  have F7 := own_fld ev7 n30r
  have F8 := own_fld ev8 n19
  have F9 := own_fld ev9 n22
  have F10 := own_fld ev10 n9
  have F11 := own_fld ev11 n28
  have F12 := own_fld ev12 n16
  have F13 := own_fld ev13 n30
  have F14 := own_fld ev14 n25
  have F15 := own_fld ev15 n20
  obtain ⟨n, o, h1, h2, h3, _, L, rfl, ⟨rfl, N⟩, hq⟩ := rm0 l s _ hw tables_1 i0 i1 i2 (fun i => [v0, v1, v2, v3, v4, v5, v6, v7, v8, v9, v10, v11, v12, v13, v14, v15].getD i 0) s.heap s.heap.size (Nat.le_refl _) ⟨S0, S1, S2, S3, S4, S5, S6, S7, S8, S9, S10, S11, S12, S13, S14, S15⟩ (fun i hi => match i, hi with | 0, _ => E0 | 1, _ => E1 | 2, _ => E2 | 3, _ => E3 | 4, _ => E4 | 5, _ => E5 | 6, _ => E6 | 7, _ => E7 | 8, _ => E8 | 9, _ => E9 | 10, _ => E10 | 11, _ => E11 | 12, _ => E12 | 13, _ => E13 | 14, _ => E14 | 15, _ => E15 | i + 16, hi => absurd hi (by omega)) (fun i hi => match i, hi with | 0, _ => F0 | 1, _ => F1 | 2, _ => F2 | 3, _ => F3 | 4, _ => F4 | 5, _ => F5 | 6, _ => F6 | 7, _ => F7 | 8, _ => F8 | 9, _ => F9 | 10, _ => F10 | 11, _ => F11 | 12, _ => F12 | 13, _ => F13 | 14, _ => F14 | 15, _ => F15 | i + 16, hi => absurd hi (by omega)) (own_inj (n := 16) (by decide) (fun i hi => match i, hi with | 0, _ => F0 | 1, _ => F1 | 2, _ => F2 | 3, _ => F3 | 4, _ => F4 | 5, _ => F5 | 6, _ => F6 | 7, _ => F7 | 8, _ => F8 | 9, _ => F9 | 10, _ => F10 | 11, _ => F11 | 12, _ => F12 | 13, _ => F13 | 14, _ => F14 | 15, _ => F15 | i + 16, hi => absurd hi (by omega))) p e ha hc hk s m _ below hf ((Spec.applies_iff_loose hf).mp happ).1 ⟨rfl, State.Warmed39.refl s, rfl⟩ trivial
  refine ⟨n, _, h1, h2, h3, hpost _ _ _ _ _ _ ⟨Cond.after_iff.mpr rfl, Cond.after_iff.mpr (eq_i res_at (Term.int_eval (1)) rfl), trivial⟩ ⟨hq.1, hq.2.1, (hq.2.2.sift fun y hy => Or.inr (N y hy)).mono (by decide) (by decide)⟩⟩
theorem main_1_1 : Claimed_1_1 := comes_1 fun _ _ _ _ _ _ h hF => ⟨h.1, hF⟩
theorem main_1_2 : Claimed_1_2 := comes_1 fun _ _ _ _ _ _ h hF => ⟨h.2.1, hF⟩
end Jvm.Pilot.@@N@@
namespace Jvm.Pilot.@@N@@
open Jvm Jvm.ClassFile Sem Op Lib Jvm.Free Jvm.Stand Jvm.Pilot.@@N@@.Jvm.D
/-! MADE BY PROGRAM (witnessworld.py) out of the Statement's table words and the real class files: 12 classes; the members and pool entries that the words name. The judged class is class 1, her method 1. -/
namespace start1
open Jvm.ClassFile
def u (s : String) : CpInfo := .utf8 (stringToUtf16 s)
/-- a pool by its gaps: so many unusable entries, then the entry; so many at the end -/
def gap : Nat → List CpInfo → List CpInfo
  | 0, r => r
  | n + 1, r => .unusable :: gap n r
def poolList (es : List (Nat × CpInfo)) (last : Nat) : List CpInfo := es.foldr (fun e r => gap e.1 (e.2 :: r)) (gap last [])
def pool (es : List (Nat × CpInfo)) (last : Nat) : Array CpInfo := ⟨poolList es last⟩
def fileOf (pool : Array CpInfo) (this : Nat) (attrs : Array Attribute := #[]) (ms : Array MethodInfo := #[]) (fl : Nat := 33) (sup : Nat := 0) (ifs : Array Nat := #[]) (fds : Array FieldInfo := #[]) : ClassFile where
  minorVersion := 0
  majorVersion := 65
  constantPool := pool
  accessFlags := fl
  thisClass := this
  superClass := sup
  interfaces := ifs
  fields := fds
  methods := ms
  attributes := attrs
def plain (name : String) (sup : Option ClassId) : Class where
  name := name
  kind := .ordinary
  loader := none
  accessFlags := 33
  super := sup
  interfaces := #[]
  cf := none
  fields := #[]
  methods := #[]
  instanceTypes := #[]
  staticTypes := #[]
  resolved := #[]
  callSites := []
  init := .initialized
  statics := none
  mirror := none

def pool0 : Array CpInfo := pool [(5, u "<init>"), (0, u "()V"), (1, .class_ 10), (1, u "java/lang/Object")] 113

def k0m0 : Method := { name := "<init>", desc := "()V", sig := { parameters := [], returnType := none }, accessFlags := 1, code := none }
/-- java/lang/Object -/
def k0 : Class := { plain "java/lang/Object" none with
  accessFlags := 33
  interfaces := #[]
  cf := some (fileOf pool0 8 #[] #[{ accessFlags := 1, nameIndex := 5, descriptorIndex := 6, attributes := #[] }] 33 0 #[] #[])
  fields := #[]
  methods := #[k0m0]
  instanceTypes := #[]
  staticTypes := #[]
  resolved := Array.replicate 124 none
  statics := none }

def pool1 : Array CpInfo := pool [(2, .class_ 4), (1, u "java/lang/Object"), (0, u "<init>"), (0, u "()V"), (0, .methodref 8 9), (0, .class_ 10), (0, .nameAndType 11 12), (0, u "com/example/puzzled_pilot/puzzledpilot/model/OperatorIsDecidedByPinLaw"), (0, u "pick"), (0, u "(I)Lcom/example/puzzled_pilot/puzzledpilot/model/Operator;"), (0, .long 3), (1, .methodref 16 17), (0, .class_ 18), (0, .nameAndType 19 20), (0, u "com/example/puzzled_pilot/puzzledpilot/model/Operator"), (0, u "isDecidedBy"), (0, u "(J)Z"), (0, .methodref 16 22), (0, .nameAndType 23 24), (0, u "isConnective"), (0, u "()Z"), (0, .methodref 16 26), (0, .nameAndType 27 28), (0, u "apply"), (0, u "(JJ)J"), (0, .fieldref 16 30), (0, .nameAndType 31 32), (0, u "AND"), (0, u "Lcom/example/puzzled_pilot/puzzledpilot/model/Operator;"), (0, .fieldref 16 34), (0, .nameAndType 35 32), (0, u "OR"), (0, .fieldref 16 37), (0, .nameAndType 38 32), (0, u "XOR"), (0, .fieldref 16 40), (0, .nameAndType 41 32), (0, u "IMPLIES"), (0, .fieldref 16 43), (0, .nameAndType 44 32), (0, u "IFF"), (0, .fieldref 16 46), (0, .nameAndType 47 32), (0, u "EQUAL"), (0, .fieldref 16 49), (0, .nameAndType 50 32), (0, u "NOT_EQUAL"), (0, .fieldref 16 52), (0, .nameAndType 53 32), (0, u "LESS"), (0, .fieldref 16 55), (0, .nameAndType 56 32), (0, u "LESS_OR_EQUAL"), (0, .fieldref 16 58), (0, .nameAndType 59 32), (0, u "GREATER"), (0, .fieldref 16 61), (0, .nameAndType 62 32), (0, u "GREATER_OR_EQUAL"), (0, .fieldref 16 64), (0, .nameAndType 65 32), (0, u "PLUS"), (0, .fieldref 16 67), (0, .nameAndType 68 32), (0, u "MINUS"), (0, .fieldref 16 70), (0, .nameAndType 71 32), (0, u "TIMES"), (0, .fieldref 16 73), (0, .nameAndType 74 32), (0, u "DIVIDE"), (0, .fieldref 16 76), (0, .nameAndType 77 32), (0, u "MODULO"), (2, u "law"), (0, u "(IIJ)Z")] 3

def k1m0 : Method := { name := "<init>", desc := "()V", sig := { parameters := [], returnType := none }, accessFlags := 1, code := none }
def k1c1 : Code := { maxStack := 7, maxLocals := 10, code := code, exceptionTable := #[], attributes := #[] }
def k1m1 : Method := { name := "law", desc := "(IIJ)Z", sig := { parameters := [.int, .int, .long], returnType := some .boolean }, accessFlags := 9, code := some k1c1 }
def k1c2 : Code := { maxStack := 2, maxLocals := 1, code := method_3_code, exceptionTable := #[], attributes := #[] }
def k1m2 : Method := { name := "pick", desc := "(I)Lcom/example/puzzled_pilot/puzzledpilot/model/Operator;", sig := { parameters := [.int], returnType := some (.object "com/example/puzzled_pilot/puzzledpilot/model/Operator") }, accessFlags := 10, code := some k1c2 }
/-- com/example/puzzled_pilot/puzzledpilot/model/OperatorIsDecidedByPinLaw -/
def k1 : Class := { plain "com/example/puzzled_pilot/puzzledpilot/model/OperatorIsDecidedByPinLaw" (some 0) with
  accessFlags := 49
  interfaces := #[]
  cf := some (fileOf pool1 8 #[] #[{ accessFlags := 1, nameIndex := 5, descriptorIndex := 6, attributes := #[] }, { accessFlags := 9, nameIndex := 80, descriptorIndex := 81, attributes := #[] }, { accessFlags := 10, nameIndex := 11, descriptorIndex := 12, attributes := #[] }] 49 2 #[] #[])
  fields := #[]
  methods := #[k1m0, k1m1, k1m2]
  instanceTypes := #[]
  staticTypes := #[]
  resolved := Array.replicate 85 none
  statics := none }

def pool2 : Array CpInfo := pool [(1, .class_ 2), (0, u "java/lang/constant/Constable"), (0, .class_ 4), (0, u "java/lang/Object")] 6

/-- java/lang/constant/Constable -/
def k2 : Class := { plain "java/lang/constant/Constable" (some 0) with
  accessFlags := 1537
  interfaces := #[]
  cf := some (fileOf pool2 1 #[] #[] 1537 3 #[] #[])
  fields := #[]
  methods := #[]
  instanceTypes := #[]
  staticTypes := #[]
  resolved := Array.replicate 11 none
  statics := none }

def pool3 : Array CpInfo := pool [(1, .class_ 2), (0, u "java/lang/Comparable"), (0, .class_ 4), (0, u "java/lang/Object")] 7

/-- java/lang/Comparable -/
def k3 : Class := { plain "java/lang/Comparable" (some 0) with
  accessFlags := 1537
  interfaces := #[]
  cf := some (fileOf pool3 1 #[] #[] 1537 3 #[] #[])
  fields := #[]
  methods := #[]
  instanceTypes := #[]
  staticTypes := #[]
  resolved := Array.replicate 12 none
  statics := none }

def pool4 : Array CpInfo := pool [(1, .class_ 2), (0, u "java/io/Serializable"), (0, .class_ 4), (0, u "java/lang/Object")] 2

/-- java/io/Serializable -/
def k4 : Class := { plain "java/io/Serializable" (some 0) with
  accessFlags := 1537
  interfaces := #[]
  cf := some (fileOf pool4 1 #[] #[] 1537 3 #[] #[])
  fields := #[]
  methods := #[]
  instanceTypes := #[]
  staticTypes := #[]
  resolved := Array.replicate 7 none
  statics := none }

def pool5 : Array CpInfo := pool [(2, .class_ 4), (1, u "java/lang/Enum"), (0, u "name"), (0, u "Ljava/lang/String;"), (0, .fieldref 2 8), (0, .nameAndType 9 10), (0, u "ordinal"), (0, u "I"), (1, .class_ 14), (1, u "java/lang/Object"), (4, u "hash"), (86, .class_ 108), (1, u "java/lang/Enum$EnumDesc"), (2, .class_ 112), (0, u "java/lang/constant/Constable"), (0, .class_ 114), (0, u "java/lang/Comparable"), (0, .class_ 116), (0, u "java/io/Serializable"), (9, u "()I")] 77

def k5c0 : Code := { maxStack := 1, maxLocals := 1, code := jdk_37_method_2_code, exceptionTable := #[], attributes := #[] }
def k5m0 : Method := { name := "ordinal", desc := "()I", sig := { parameters := [], returnType := some .int }, accessFlags := 17, code := some k5c0 }
/-- java/lang/Enum -/
def k5 : Class := { plain "java/lang/Enum" (some 0) with
  accessFlags := 1057
  interfaces := #[2, 3, 4]
  cf := some (fileOf pool5 2 #[.nestMembers #[106]] #[{ accessFlags := 17, nameIndex := 9, descriptorIndex := 126, attributes := #[] }] 1057 12 #[111, 113, 115] #[{ accessFlags := 18, nameIndex := 5, descriptorIndex := 6, attributes := #[] }, { accessFlags := 18, nameIndex := 9, descriptorIndex := 10, attributes := #[] }, { accessFlags := 2, nameIndex := 19, descriptorIndex := 10, attributes := #[] }])
  fields := #[{ name := "name", type := (.object "java/lang/String"), accessFlags := 18, slot := 0, constantValue := 0 }, { name := "ordinal", type := .int, accessFlags := 18, slot := 1, constantValue := 0 }, { name := "hash", type := .int, accessFlags := 2, slot := 2, constantValue := 0 }]
  methods := #[k5m0]
  instanceTypes := #[(.object "java/lang/String"), .int, .int]
  staticTypes := #[]
  resolved := Array.replicate 204 none
  statics := none }

def pool6 : Array CpInfo := pool [(1, .class_ 2), (0, u "com/example/puzzled_pilot/puzzledpilot/model/Operator"), (0, .fieldref 1 4), (0, .nameAndType 5 6), (0, u "AND"), (0, u "Lcom/example/puzzled_pilot/puzzledpilot/model/Operator;"), (0, .fieldref 1 8), (0, .nameAndType 9 6), (0, u "OR"), (0, .fieldref 1 11), (0, .nameAndType 12 6), (0, u "XOR"), (0, .fieldref 1 14), (0, .nameAndType 15 6), (0, u "IMPLIES"), (0, .fieldref 1 17), (0, .nameAndType 18 6), (0, u "IFF"), (2, u "EQUAL"), (2, u "NOT_EQUAL"), (2, u "LESS"), (2, u "LESS_OR_EQUAL"), (2, u "GREATER"), (2, u "GREATER_OR_EQUAL"), (2, u "PLUS"), (2, u "MINUS"), (2, u "TIMES"), (2, u "DIVIDE"), (2, u "MODULO"), (2, u "$VALUES"), (0, u "[Lcom/example/puzzled_pilot/puzzledpilot/model/Operator;"), (6, .class_ 64), (1, u "java/lang/Enum"), (8, u "symbol"), (0, u "Ljava/lang/String;"), (0, .methodref 1 76), (0, .nameAndType 77 78), (0, u "ordinal"), (0, u "()I"), (10, u "(JJ)J"), (84, u "isConnective"), (0, u "()Z"), (2, u "isDecidedBy"), (0, u "(J)Z"), (0, u "apply")] 5

def k6c0 : Code := { maxStack := 2, maxLocals := 1, code := prog_78_method_5_code, exceptionTable := #[], attributes := #[] }
def k6m0 : Method := { name := "isConnective", desc := "()Z", sig := { parameters := [], returnType := some .boolean }, accessFlags := 1, code := some k6c0 }
def k6c1 : Code := { maxStack := 4, maxLocals := 3, code := prog_78_method_7_code, exceptionTable := #[], attributes := #[] }
def k6m1 : Method := { name := "isDecidedBy", desc := "(J)Z", sig := { parameters := [.long], returnType := some .boolean }, accessFlags := 1, code := some k6c1 }
def k6c2 : Code := { maxStack := 4, maxLocals := 5, code := prog_78_method_8_code, exceptionTable := #[], attributes := #[] }
def k6m2 : Method := { name := "apply", desc := "(JJ)J", sig := { parameters := [.long, .long], returnType := some .long }, accessFlags := 1, code := some k6c2 }
/-- com/example/puzzled_pilot/puzzledpilot/model/Operator -/
def k6 : Class := { plain "com/example/puzzled_pilot/puzzledpilot/model/Operator" (some 5) with
  accessFlags := 16433
  interfaces := #[]
  cf := some (fileOf pool6 1 #[] #[{ accessFlags := 1, nameIndex := 174, descriptorIndex := 175, attributes := #[] }, { accessFlags := 1, nameIndex := 178, descriptorIndex := 179, attributes := #[] }, { accessFlags := 1, nameIndex := 180, descriptorIndex := 89, attributes := #[] }] 16433 62 #[] #[{ accessFlags := 16409, nameIndex := 5, descriptorIndex := 6, attributes := #[] }, { accessFlags := 16409, nameIndex := 9, descriptorIndex := 6, attributes := #[] }, { accessFlags := 16409, nameIndex := 12, descriptorIndex := 6, attributes := #[] }, { accessFlags := 16409, nameIndex := 15, descriptorIndex := 6, attributes := #[] }, { accessFlags := 16409, nameIndex := 18, descriptorIndex := 6, attributes := #[] }, { accessFlags := 16409, nameIndex := 21, descriptorIndex := 6, attributes := #[] }, { accessFlags := 16409, nameIndex := 24, descriptorIndex := 6, attributes := #[] }, { accessFlags := 16409, nameIndex := 27, descriptorIndex := 6, attributes := #[] }, { accessFlags := 16409, nameIndex := 30, descriptorIndex := 6, attributes := #[] }, { accessFlags := 16409, nameIndex := 33, descriptorIndex := 6, attributes := #[] }, { accessFlags := 16409, nameIndex := 36, descriptorIndex := 6, attributes := #[] }, { accessFlags := 16409, nameIndex := 39, descriptorIndex := 6, attributes := #[] }, { accessFlags := 16409, nameIndex := 42, descriptorIndex := 6, attributes := #[] }, { accessFlags := 16409, nameIndex := 45, descriptorIndex := 6, attributes := #[] }, { accessFlags := 16409, nameIndex := 48, descriptorIndex := 6, attributes := #[] }, { accessFlags := 16409, nameIndex := 51, descriptorIndex := 6, attributes := #[] }, { accessFlags := 18, nameIndex := 73, descriptorIndex := 74, attributes := #[] }, { accessFlags := 4122, nameIndex := 54, descriptorIndex := 55, attributes := #[] }])
  fields := #[{ name := "AND", type := (.object "com/example/puzzled_pilot/puzzledpilot/model/Operator"), accessFlags := 16409, slot := 0, constantValue := 0 }, { name := "OR", type := (.object "com/example/puzzled_pilot/puzzledpilot/model/Operator"), accessFlags := 16409, slot := 1, constantValue := 0 }, { name := "XOR", type := (.object "com/example/puzzled_pilot/puzzledpilot/model/Operator"), accessFlags := 16409, slot := 2, constantValue := 0 }, { name := "IMPLIES", type := (.object "com/example/puzzled_pilot/puzzledpilot/model/Operator"), accessFlags := 16409, slot := 3, constantValue := 0 }, { name := "IFF", type := (.object "com/example/puzzled_pilot/puzzledpilot/model/Operator"), accessFlags := 16409, slot := 4, constantValue := 0 }, { name := "EQUAL", type := (.object "com/example/puzzled_pilot/puzzledpilot/model/Operator"), accessFlags := 16409, slot := 5, constantValue := 0 }, { name := "NOT_EQUAL", type := (.object "com/example/puzzled_pilot/puzzledpilot/model/Operator"), accessFlags := 16409, slot := 6, constantValue := 0 }, { name := "LESS", type := (.object "com/example/puzzled_pilot/puzzledpilot/model/Operator"), accessFlags := 16409, slot := 7, constantValue := 0 }, { name := "LESS_OR_EQUAL", type := (.object "com/example/puzzled_pilot/puzzledpilot/model/Operator"), accessFlags := 16409, slot := 8, constantValue := 0 }, { name := "GREATER", type := (.object "com/example/puzzled_pilot/puzzledpilot/model/Operator"), accessFlags := 16409, slot := 9, constantValue := 0 }, { name := "GREATER_OR_EQUAL", type := (.object "com/example/puzzled_pilot/puzzledpilot/model/Operator"), accessFlags := 16409, slot := 10, constantValue := 0 }, { name := "PLUS", type := (.object "com/example/puzzled_pilot/puzzledpilot/model/Operator"), accessFlags := 16409, slot := 11, constantValue := 0 }, { name := "MINUS", type := (.object "com/example/puzzled_pilot/puzzledpilot/model/Operator"), accessFlags := 16409, slot := 12, constantValue := 0 }, { name := "TIMES", type := (.object "com/example/puzzled_pilot/puzzledpilot/model/Operator"), accessFlags := 16409, slot := 13, constantValue := 0 }, { name := "DIVIDE", type := (.object "com/example/puzzled_pilot/puzzledpilot/model/Operator"), accessFlags := 16409, slot := 14, constantValue := 0 }, { name := "MODULO", type := (.object "com/example/puzzled_pilot/puzzledpilot/model/Operator"), accessFlags := 16409, slot := 15, constantValue := 0 }, { name := "symbol", type := (.object "java/lang/String"), accessFlags := 18, slot := 3, constantValue := 0 }, { name := "$VALUES", type := (.array (.object "com/example/puzzled_pilot/puzzledpilot/model/Operator")), accessFlags := 4122, slot := 16, constantValue := 0 }]
  methods := #[k6m0, k6m1, k6m2]
  instanceTypes := #[(.object "java/lang/String"), .int, .int, (.object "java/lang/String")]
  staticTypes := #[(.object "com/example/puzzled_pilot/puzzledpilot/model/Operator"), (.object "com/example/puzzled_pilot/puzzledpilot/model/Operator"), (.object "com/example/puzzled_pilot/puzzledpilot/model/Operator"), (.object "com/example/puzzled_pilot/puzzledpilot/model/Operator"), (.object "com/example/puzzled_pilot/puzzledpilot/model/Operator"), (.object "com/example/puzzled_pilot/puzzledpilot/model/Operator"), (.object "com/example/puzzled_pilot/puzzledpilot/model/Operator"), (.object "com/example/puzzled_pilot/puzzledpilot/model/Operator"), (.object "com/example/puzzled_pilot/puzzledpilot/model/Operator"), (.object "com/example/puzzled_pilot/puzzledpilot/model/Operator"), (.object "com/example/puzzled_pilot/puzzledpilot/model/Operator"), (.object "com/example/puzzled_pilot/puzzledpilot/model/Operator"), (.object "com/example/puzzled_pilot/puzzledpilot/model/Operator"), (.object "com/example/puzzled_pilot/puzzledpilot/model/Operator"), (.object "com/example/puzzled_pilot/puzzledpilot/model/Operator"), (.object "com/example/puzzled_pilot/puzzledpilot/model/Operator"), (.array (.object "com/example/puzzled_pilot/puzzledpilot/model/Operator"))]
  resolved := Array.replicate 186 none
  statics := some 0 }

def pool7 : Array CpInfo := pool [(1, u "java/lang/Cloneable"), (0, .class_ 1), (0, u "java/lang/Object"), (0, .class_ 3)] 3

/-- java/lang/Cloneable -/
def k7 : Class := { plain "java/lang/Cloneable" (some 0) with
  accessFlags := 1537
  interfaces := #[]
  cf := some (fileOf pool7 2 #[] #[] 1537 4 #[] #[])
  fields := #[]
  methods := #[]
  instanceTypes := #[]
  staticTypes := #[]
  resolved := Array.replicate 8 none
  statics := none }

/-- the primitive byte -/
def k8 : Class := { plain "byte" none with kind := .primitive 'B', accessFlags := 0x411 }
/-- [B -/
def k9 : Class := { plain "[B" (some 0) with kind := .array 8 .byte, interfaces := #[7, 4], accessFlags := 1041 }

/-- the primitive int -/
def k10 : Class := { plain "int" none with kind := .primitive 'I', accessFlags := 0x411 }
/-- [I -/
def k11 : Class := { plain "[I" (some 0) with kind := .array 10 .int, interfaces := #[7, 4], accessFlags := 1041 }

def heap : Heap := #[{ cls := 6, slots := #[.ref 1, .ref 2, .ref 3, .ref 4, .ref 5, .ref 6, .ref 7, .ref 8, .ref 9, .ref 10, .ref 11, .ref 12, .ref 13, .ref 14, .ref 15, .ref 16, .null], vm := .statics 6 },
  { cls := 6, slots := #[.null, .int 0, .int 0, .null], vm := .none },
  { cls := 6, slots := #[.null, .int 1, .int 0, .null], vm := .none },
  { cls := 6, slots := #[.null, .int 2, .int 0, .null], vm := .none },
  { cls := 6, slots := #[.null, .int 3, .int 0, .null], vm := .none },
  { cls := 6, slots := #[.null, .int 4, .int 0, .null], vm := .none },
  { cls := 6, slots := #[.null, .int 5, .int 0, .null], vm := .none },
  { cls := 6, slots := #[.null, .int 6, .int 0, .null], vm := .none },
  { cls := 6, slots := #[.null, .int 7, .int 0, .null], vm := .none },
  { cls := 6, slots := #[.null, .int 8, .int 0, .null], vm := .none },
  { cls := 6, slots := #[.null, .int 9, .int 0, .null], vm := .none },
  { cls := 6, slots := #[.null, .int 10, .int 0, .null], vm := .none },
  { cls := 6, slots := #[.null, .int 11, .int 0, .null], vm := .none },
  { cls := 6, slots := #[.null, .int 12, .int 0, .null], vm := .none },
  { cls := 6, slots := #[.null, .int 13, .int 0, .null], vm := .none },
  { cls := 6, slots := #[.null, .int 14, .int 0, .null], vm := .none },
  { cls := 6, slots := #[.null, .int 15, .int 0, .null], vm := .none }]
def classes : Array Class := #[k0, k1, k2, k3, k4, k5, k6, k7, k8, k9, k10, k11]
def interned : List (Array UInt16 × Addr) := []
def slotsUsed : Nat := 81
def theMethod : MethodId := ⟨1, 1⟩
def args0 : Array Value := #[.int 5, .int 7, .long 3]
def aboutOver (below : List Frame) : State where
  vm := { classes := classes, interned := interned.toArray }
  heap := heap
  slotsUsed := slotsUsed
  threads := #[{ frames := .invoking theMethod args0 :: below }]
def below0 : List Frame := [.native { method := ⟨0, 0⟩, args := #[] }]
def about1 : State := aboutOver below0
def p0 : Program := .bare "" "" ""
def e0 : Env := launch0.env 0 0 0
theorem w_frames : about1.frames = Frame.invoking theMethod args0 :: below0 := rfl
set_option maxRecDepth 65536 in
theorem w_args : argsFit about1.vm theMethod args0 = true := by decide +kernel
set_option maxRecDepth 65536 in
theorem w_heap : heapFits about1 = true := by decide +kernel
set_option maxRecDepth 65536 in
theorem w_runnable : about1.curStatus? = some .runnable := by decide +kernel
set_option maxRecDepth 65536 in
theorem w_alone : about1.alone = true := by decide +kernel
set_option maxRecDepth 65536 in
theorem w_named : about1.methodNamed? x = some theMethod := by decide +kernel
set_option maxRecDepth 65536 in
theorem w_hears : about1.hears theMethod below0 = true := by decide +kernel
set_option maxRecDepth 65536 in
theorem w_ripe : about1.ripe theMethod args0 below0 = true := by decide +kernel
theorem w_running : about1.status = .running := rfl
set_option maxRecDepth 65536 in
theorem w_room : about1.hasRoom e0.platform room_1 = true :=
  launch0.hasRoom_least _ room_1 (by decide +kernel) (by decide +kernel) (by decide +kernel) (by decide +kernel) (by decide +kernel) (by decide +kernel)
theorem allAtoms_all (ts : List Jvm.Cond) (a : Array Jvm.Value) (st : Jvm.State) : (allAtoms ts).before a st = ts.all (fun c => c.before a st) := by
  induction ts with
  | nil => rfl
  | cons c t ih =>
    show (Jvm.Cond.and c (allAtoms t)).before a st = _
    rw [Jvm.Cond.before_and, ih, List.all_cons]
def words1 : List Jvm.Cond := Jvm.Cond.code x code maxLocals ret :: tables_1
/-- a 'code' word, met by the world's own term for the bytes: nothing is compared byte by byte -/
theorem code_word {y : MethodName} {bytes : ByteArray} {mx : Nat} {rt : Option FieldType} {a : Array Value} {s : State} {m : MethodId} {meth : Method} {c : Code} (h1 : s.methodNamed? y = some m) (h2 : s.vm.method? m = some meth) (h3 : meth.code = some c) (h4 : c.code = bytes)
    (h5 : (c.maxLocals == mx && c.exceptionTable.isEmpty && decide (c.maxStack ≤ mostOperands) && decide (meth.sig.returnType = rt) && !meth.locks && decide (parseMethodDescriptor y.desc = some meth.sig)) = true) : (Jvm.Cond.code y bytes mx rt).before a s = true := by
  simp only [Bool.and_eq_true, beq_iff_eq, Bool.not_eq_true', decide_eq_true_eq] at h5
  obtain ⟨⟨⟨⟨⟨g1, g2⟩, g3⟩, g4⟩, g5⟩, g6⟩ := h5
  simp [Cond.before, Cond.holds, Cond.value, h1, h2, h3, h4, g1, g2, g3, g4, g5, g6]
def isCode : Jvm.Cond → Bool
  | .code _ _ _ _ => true
  | _ => false
theorem all_split {L : List Jvm.Cond} {P : Jvm.Cond → Bool} (h1 : L.all (fun c => isCode c || P c) = true) (h2 : ∀ c ∈ L.filter isCode, P c = true) : L.all P = true := by
  refine List.all_eq_true.mpr fun c hc => ?_
  have h := List.all_eq_true.mp h1 c hc
  rcases Bool.eq_false_or_eq_true (isCode c) with hi | hi
  · exact h2 c (List.mem_filter.mpr ⟨hc, hi⟩)
  · simpa [hi] using h
set_option maxRecDepth 65536 in
theorem w_c0 : (Jvm.Cond.code x code maxLocals ret).before args0 about1 = true := code_word (m := ⟨1, 1⟩) (meth := k1m1) (c := k1c1) (by decide +kernel) rfl rfl rfl (by decide +kernel)
set_option maxRecDepth 65536 in
theorem w_c1 : (Jvm.Cond.code ({ cls := "com/example/puzzled_pilot/puzzledpilot/model/OperatorIsDecidedByPinLaw", name := "pick", desc := "(I)Lcom/example/puzzled_pilot/puzzledpilot/model/Operator;" } : Jvm.MethodName) method_3_code (1 : Nat) (Option.some (Jvm.ClassFile.FieldType.object "com/example/puzzled_pilot/puzzledpilot/model/Operator"))).before args0 about1 = true := code_word (m := ⟨1, 2⟩) (meth := k1m2) (c := k1c2) (by decide +kernel) rfl rfl rfl (by decide +kernel)
set_option maxRecDepth 65536 in
theorem w_c2 : (Jvm.Cond.code ({ cls := "com/example/puzzled_pilot/puzzledpilot/model/Operator", name := "isDecidedBy", desc := "(J)Z" } : Jvm.MethodName) prog_78_method_7_code (3 : Nat) (Option.some Jvm.ClassFile.FieldType.boolean)).before args0 about1 = true := code_word (m := ⟨6, 1⟩) (meth := k6m1) (c := k6c1) (by decide +kernel) rfl rfl rfl (by decide +kernel)
set_option maxRecDepth 65536 in
theorem w_c3 : (Jvm.Cond.code ({ cls := "com/example/puzzled_pilot/puzzledpilot/model/Operator", name := "isConnective", desc := "()Z" } : Jvm.MethodName) prog_78_method_5_code (1 : Nat) (Option.some Jvm.ClassFile.FieldType.boolean)).before args0 about1 = true := code_word (m := ⟨6, 0⟩) (meth := k6m0) (c := k6c0) (by decide +kernel) rfl rfl rfl (by decide +kernel)
set_option maxRecDepth 65536 in
theorem w_c4 : (Jvm.Cond.code ({ cls := "com/example/puzzled_pilot/puzzledpilot/model/Operator", name := "apply", desc := "(JJ)J" } : Jvm.MethodName) prog_78_method_8_code (5 : Nat) (Option.some Jvm.ClassFile.FieldType.long)).before args0 about1 = true := code_word (m := ⟨6, 2⟩) (meth := k6m2) (c := k6c2) (by decide +kernel) rfl rfl rfl (by decide +kernel)
set_option maxRecDepth 65536 in
theorem w_c5 : (Jvm.Cond.code ({ cls := "java/lang/Enum", name := "ordinal", desc := "()I" } : Jvm.MethodName) jdk_37_method_2_code (1 : Nat) (Option.some Jvm.ClassFile.FieldType.int)).before args0 about1 = true := code_word (m := ⟨5, 0⟩) (meth := k5m0) (c := k5c0) (by decide +kernel) rfl rfl rfl (by decide +kernel)
def codes1 : List Jvm.Cond := [Jvm.Cond.code x code maxLocals ret, Jvm.Cond.code ({ cls := "com/example/puzzled_pilot/puzzledpilot/model/OperatorIsDecidedByPinLaw", name := "pick", desc := "(I)Lcom/example/puzzled_pilot/puzzledpilot/model/Operator;" } : Jvm.MethodName) method_3_code (1 : Nat) (Option.some (Jvm.ClassFile.FieldType.object "com/example/puzzled_pilot/puzzledpilot/model/Operator")), Jvm.Cond.code ({ cls := "com/example/puzzled_pilot/puzzledpilot/model/Operator", name := "isDecidedBy", desc := "(J)Z" } : Jvm.MethodName) prog_78_method_7_code (3 : Nat) (Option.some Jvm.ClassFile.FieldType.boolean), Jvm.Cond.code ({ cls := "com/example/puzzled_pilot/puzzledpilot/model/Operator", name := "isConnective", desc := "()Z" } : Jvm.MethodName) prog_78_method_5_code (1 : Nat) (Option.some Jvm.ClassFile.FieldType.boolean), Jvm.Cond.code ({ cls := "com/example/puzzled_pilot/puzzledpilot/model/Operator", name := "apply", desc := "(JJ)J" } : Jvm.MethodName) prog_78_method_8_code (5 : Nat) (Option.some Jvm.ClassFile.FieldType.long), Jvm.Cond.code ({ cls := "java/lang/Enum", name := "ordinal", desc := "()I" } : Jvm.MethodName) jdk_37_method_2_code (1 : Nat) (Option.some Jvm.ClassFile.FieldType.int)]
set_option maxRecDepth 65536 in
theorem codes_eq : words1.filter isCode = codes1 := rfl
theorem w_codes : ∀ c ∈ words1.filter isCode, c.before args0 about1 = true := by
  rw [codes_eq]
  intro c hc
  simp only [codes1, List.mem_cons, List.not_mem_nil, or_false] at hc
  rcases hc with rfl | rfl | rfl | rfl | rfl | rfl
  · exact w_c0
  · exact w_c1
  · exact w_c2
  · exact w_c3
  · exact w_c4
  · exact w_c5
set_option maxRecDepth 65536 in
theorem w_t1 : (words1.take 24).all (fun c => isCode c || c.before args0 about1) = true := by decide +kernel
set_option maxRecDepth 65536 in
theorem w_t2 : ((words1.drop 24).take 24).all (fun c => isCode c || c.before args0 about1) = true := by decide +kernel
set_option maxRecDepth 65536 in
theorem w_t3 : ((words1.drop 24).drop 24).all (fun c => isCode c || c.before args0 about1) = true := by decide +kernel
theorem w_tables : (allAtoms (Jvm.Cond.code x code maxLocals ret :: tables_1)).before args0 about1 = true := by
  rw [allAtoms_all]
  show words1.all (fun c => c.before args0 about1) = true
  refine all_split ?_ w_codes
  rw [← List.take_append_drop 24 words1, List.all_append, w_t1, ← List.take_append_drop 24 (words1.drop 24), List.all_append, w_t2, w_t3]
  rfl
set_option maxRecDepth 65536 in
theorem w_case : (Jvm.Cond.and given_1 narrow_1).before args0 about1 = true := by decide +kernel
theorem w_applies : (headSpec (Jvm.Cond.code x code maxLocals ret :: tables_1) room_1).applies x e0.platform about1 = true :=
  (Spec.applies_iff w_frames).mpr ⟨w_running, w_runnable, w_alone, w_named, w_hears, w_ripe, w_room, w_tables⟩
theorem atStart : AtStart classFile x code maxLocals ret World_1 tables_1 room_1 Calls_1 rest_1 Pre_1 launch0 p0 e0 about1 theMethod args0 below0 :=
  ⟨lists_1, trivial, launch0.admits_env _ _ _, launch0.least_env, fairChoices_fair.cas, fairChoices_fair.clock, w_frames, w_args, w_heap, w_applies, trivial, trivial, w_case⟩
end start1
theorem witness_1 : WitnessClaimed_1 := ⟨start1.p0, start1.e0, start1.about1, start1.theMethod, start1.args0, start1.below0, start1.atStart⟩
end Jvm.Pilot.@@N@@
