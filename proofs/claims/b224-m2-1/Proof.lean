import JvmDerived
import JvmDerived.Pilot.@@N@@Statement
import JvmDerived.Pilot.@@N@@Code
set_option linter.unusedVariables false
set_option linter.unusedSimpArgs false
@@BLOCK:NumsL.lean.txt@@
namespace Jvm.Pilot.@@N@@
open Jvm Jvm.ClassFile Sem Op Lib Jvm.Free Jvm.Stand Jvm.LawKit Jvm.RoadKit Bundle Jvm.Pilot.@@N@@.Jvm.D
/-- what a body leaves that writes nothing: its value, no place written, the heap as it was -/
def QP (val : Value) (h0 : Heap) (n0 : Nat) (v : Option Value) (h : Heap) (L : List Loc) : Prop := v = some val ∧ Fr n0 L ∧ h = h0
/-- what the law leaves: true -/
def Q1 (n0 : Nat) (v : Option Value) (h : Heap) (L : List Loc) : Prop := v = some (.int 1) ∧ Fr n0 L
theorem own_eq_int {args : Array Value} {s : State} {t : Term} {k : Int32} (h : (Jvm.Cond.eq t (.int k)).value args s none s [] = some true) : t.eval args s none [] s = some (.int k) := by
  simp only [Cond.value, Term.eval] at h
  cases ht : t.eval args s none [] s with
  | none => simp [ht] at h
  | some x => cases x <;> simp [ht] at h ⊢; exact h
theorem own_fld {args : Array Value} {s : State} {t : Term} {a : Addr} {C n d : String} {k : Int32} (ev : t.eval args s none [] s = some (.ref a)) (h : (Jvm.Cond.eq (.field t C n d) (.int k)).value args s none s [] = some true) : Fld s s.heap a C n d (.int k) :=
  Fld.start ((fld_at ev).symm.trans (own_eq_int h))
theorem own_toInt32_inj {i j : Nat} (hi : i < 2 ^ 31) (hj : j < 2 ^ 31) (h : i.toInt32 = j.toInt32) : i = j := by
  have := congrArg Int32.toInt h
  rw [len_toInt hi, len_toInt hj] at this
  omega
theorem own_inj {Z : State} {h : Heap} {w : Nat → Addr} {n : Nat} (hn : n < 2 ^ 31) (F : ∀ i, i < n → Fld Z h (w i) "java/lang/Enum" "ordinal" "I" (.int i.toInt32)) : ∀ i j, i < n → j < n → w i = w j → i = j := fun i j hi hj e => by
  by_cases q : i = j
  · exact q
  · exact absurd e (Fld.ne (F i hi) (F j hj) fun h => q (own_toInt32_inj (by omega) (by omega) (Value.int.inj h)))
theorem own_i32 {i : Int32} {N : Nat} (hN : N < 2 ^ 31) (h0 : 0 ≤ i.toInt) (h1 : i.toInt < N) : ∃ k : Nat, k < N ∧ i = k.toInt32 := by
  refine ⟨i.toInt.toNat, by omega, Int32.toInt_inj.mp ?_⟩
  rw [len_toInt (by omega)]
  omega
theorem own_mod (x n : Int32) (N : Nat) (hN : n.toInt = N) (h : 0 < N) : ∃ k : Nat, k < N ∧ (x &&& (2147483647 : Int32)) % n = k.toInt32 := by
  have e1 : (x &&& (2147483647 : Int32)).toInt = x.toInt % 2 ^ 31 := Jvm.Kit.i32_mask x 2147483647 (k := 31) (by decide) (by decide)
  have e2 : ((x &&& (2147483647 : Int32)) % n).toInt = (x &&& (2147483647 : Int32)).toInt % n.toInt := Jvm.Kit.i32_rem_nonneg (by omega)
  have hlt := n.toInt_lt
  have h3 : 0 ≤ (x &&& (2147483647 : Int32)).toInt % n.toInt := Int.emod_nonneg _ (by omega)
  have h4 : (x &&& (2147483647 : Int32)).toInt % n.toInt < n.toInt := Int.emod_lt_of_pos _ (by omega)
  exact own_i32 (by omega) (by omega) (by omega)
theorem own_mask (x n : Int32) {k : Nat} (hk : k < 31) (hm : n.toBitVec.toNat = 2 ^ k - 1) : ∃ j : Nat, j < 2 ^ k ∧ x &&& n = j.toInt32 := by
  have e1 : (x &&& n).toInt = x.toInt % 2 ^ k := Jvm.Kit.i32_mask x n (k := k) (by omega) hm
  have hp : (2 : Nat) ^ k < 2 ^ 31 := Nat.pow_lt_pow_right (by decide) hk
  have hp1 : (0 : Int) < 2 ^ k := Int.pow_pos (by decide)
  have h3 : 0 ≤ x.toInt % 2 ^ k := Int.emod_nonneg _ (by omega)
  have h4 : x.toInt % 2 ^ k < 2 ^ k := Int.emod_lt_of_pos _ hp1
  refine own_i32 hp (by rw [e1]; exact h3) (by rw [e1]; push_cast; exact h4)
theorem own_lt_irrefl {a b : Int64} (h : a = b) : ¬ a < b ∧ ¬ b < a := by subst h; simp [Int64.lt_irrefl]
theorem own_lt_asymm {a b : Int64} (h : a < b) : ¬ b < a := Int64.lt_asymm h
theorem own_lt_total {a b : Int64} (h1 : ¬ a = b) (h2 : ¬ a < b) : b < a := by
  rw [Int64.lt_iff_toInt_lt] at h2 ⊢; rw [← Int64.toInt_inj] at h1; omega
/-- f with x at j -/
def up (f : Int32 → Int32) (j x : Int32) : Int32 → Int32 := fun i => if i = j then x else f i
theorem up_at (f : Int32 → Int32) (j x : Int32) : up f j x j = x := if_pos rfl
theorem up_ne (f : Int32 → Int32) {j x i : Int32} (h : ¬ i = j) : up f j x i = f i := if_neg h
theorem own_up0 {f : Int32 → Int32} {j x e : Int32} (h : e = j) : up f j x e = x := by subst h; exact up_at f e x
theorem own_up1 {f : Int32 → Int32} {j x e y : Int32} (h : ¬ e = j) (r : f e = y) : up f j x e = y := (up_ne f h).trans r
theorem up_up (f : Int32 → Int32) (j x : Int32) : up (up f j x) j (f j) = f := by
  funext i
  by_cases q : i = j
  · subst q; rw [up_at]
  · rw [up_ne _ q, up_ne _ q]
/-- an int array of n places: place j holds f j -/
def AI (Z : State) (h : Heap) (a : Addr) (n : Int32) (f : Int32 → Int32) : Prop := ∃ c : Cell, Arr Z h a c .int ∧ c.slots.size = n.toNatClampNeg ∧ ¬ n < 0 ∧ ∀ j : Int32, ¬ j < 0 → j < n → c.slots[j.toNatClampNeg]? = some (.int (f j))
/-- an array of n int arrays: the first m places hold u -/
def AA (Z : State) (h : Heap) (a : Addr) (cA : ClassId) (n m : Int32) (u : Addr) : Prop := ∃ c : Cell, Arr Z h a c (.array .int) ∧ c.cls = cA ∧ c.slots.size = n.toNatClampNeg ∧ ¬ n < 0 ∧ ∀ j : Int32, ¬ j < 0 → j < m → c.slots[j.toNatClampNeg]? = some (.ref u)
theorem own_clamp {i j : Int32} (hi : ¬ i < 0) (hj : ¬ j < 0) (h : ¬ i = j) : i.toNatClampNeg ≠ j.toNatClampNeg := fun q => h (Int32.toInt_inj.mp (by rw [nat_of hi, nat_of hj, q]))
theorem own_clamp_lt {i n : Int32} (hi : ¬ i < 0) (h : i < n) : i.toNatClampNeg < n.toNatClampNeg := by
  have a := nat_of hi
  have b := Int32.lt_iff_toInt_lt.mp h
  have z : (0 : Int32).toInt = 0 := rfl
  have c := nat_of (j := n) fun q => by have := Int32.lt_iff_toInt_lt.mp q; omega
  omega
section Laws
variable {Z : State} {h h' : Heap} {a b u : Addr} {cA : ClassId} {n m j x : Int32} {f : Int32 → Int32} {sl : Nat} {v : Value} {ws : List Addr}
theorem AI.lt (F : AI Z h a n f) : a < h.size := by obtain ⟨c, A, -⟩ := F; exact A.lt
theorem AI.ext (F : AI Z h a n f) (E : Ext h h') : AI Z h' a n f := by obtain ⟨c, A, r⟩ := F; exact ⟨c, A.ext E, r⟩
theorem AI.keep (F : AI Z h a n f) (K : Keep h h' ws) (q : a ∉ ws) : AI Z h' a n f := by obtain ⟨c, A, r⟩ := F; exact ⟨c, ⟨K.2.1 a c A.1 q, A.2⟩, r⟩
theorem AI.other (F : AI Z h a n f) (W : Wr h h' b sl v) (q : a ≠ b) : AI Z h' a n f := by obtain ⟨c, A, r⟩ := F; exact ⟨c, A.other W q, r⟩
theorem AI.set (F : AI Z h a n f) (W : Wr h h' a j.toNatClampNeg (.int x)) (hj : ¬ j < 0) (hn : j < n) : AI Z h' a n (up f j x) := by
  obtain ⟨c, A, S, M, H⟩ := F
  have hlt := own_clamp_lt hj hn
  refine ⟨_, A.same W, by simpa [Cell.setSlot] using S, M, fun i hi hin => ?_⟩
  by_cases q : i = j
  · subst q; rw [up_at]; simp [Cell.setSlot, S, hlt]
  · rw [up_ne _ q]
    have e := own_clamp hi hj q
    have : (c.setSlot j.toNatClampNeg (.int x)).slots[i.toNatClampNeg]? = c.slots[i.toNatClampNeg]? := by simp [Cell.setSlot, Array.getElem?_setIfInBounds, Ne.symm e]
    rw [this]; exact H i hi hin
theorem AI.new (A : Arr Z h a (newA cA .int n) .int) (hn : ¬ n < 0) : AI Z h a n (fun _ => 0) :=
  ⟨_, A, sz_new _ _ _, hn, fun j hj hjn => get_new (fun q => q.elim hj fun q => absurd q (Nat.not_le.mpr (own_clamp_lt hj hjn)))⟩
theorem AA.lt (F : AA Z h a cA n m u) : a < h.size := by obtain ⟨c, A, -⟩ := F; exact A.lt
theorem AA.ext (F : AA Z h a cA n m u) (E : Ext h h') : AA Z h' a cA n m u := by obtain ⟨c, A, r⟩ := F; exact ⟨c, A.ext E, r⟩
theorem AA.keep (F : AA Z h a cA n m u) (K : Keep h h' ws) (q : a ∉ ws) : AA Z h' a cA n m u := by obtain ⟨c, A, r⟩ := F; exact ⟨c, ⟨K.2.1 a c A.1 q, A.2⟩, r⟩
theorem AA.other (F : AA Z h a cA n m u) (W : Wr h h' b sl v) (q : a ≠ b) : AA Z h' a cA n m u := by obtain ⟨c, A, r⟩ := F; exact ⟨c, A.other W q, r⟩
theorem AA.le {m' : Int32} (F : AA Z h a cA n m u) (q : ∀ j : Int32, j < m' → j < m) : AA Z h a cA n m' u := by obtain ⟨c, A, r1, r2, r3, H⟩ := F; exact ⟨c, A, r1, r2, r3, fun j hj hm => H j hj (q j hm)⟩
theorem AA.push {m' : Int32} (F : AA Z h a cA n m u) (W : Wr h h' a m.toNatClampNeg (.ref u)) (hm : ¬ m < 0) (hn : m < n) (q : ∀ j : Int32, j < m' → j < m ∨ j = m) : AA Z h' a cA n m' u := by
  obtain ⟨c, A, r1, S, M, H⟩ := F
  have hlt := own_clamp_lt hm hn
  refine ⟨_, A.same W, r1, by simpa [Cell.setSlot] using S, M, fun i hi him => ?_⟩
  by_cases e : i = m
  · subst e; simp [Cell.setSlot, S, hlt]
  · have e' := own_clamp hi hm e
    have : (c.setSlot m.toNatClampNeg (.ref u)).slots[i.toNatClampNeg]? = c.slots[i.toNatClampNeg]? := by simp [Cell.setSlot, Array.getElem?_setIfInBounds, Ne.symm e']
    rw [this]; exact H i hi ((q i him).resolve_right e)
theorem AA.new (A : Arr Z h a (newA cA (.array .int) n) (.array .int)) (hn : ¬ n < 0) : AA Z h a cA n 0 u :=
  ⟨_, A, rfl, sz_new _ _ _, hn, fun j hj hj0 => absurd hj0 hj⟩
end Laws
theorem own_step {m m' : Int32} (h : m' = m + 1) (hm : ¬ m < 0) (hn : m < 64) : ∀ j : Int32, j < m' → j < m ∨ j = m := by
  subst h
  intro j hj
  have z : (0 : Int32).toInt = 0 := rfl
  have o : (1 : Int32).toInt = 1 := rfl
  have s : (64 : Int32).toInt = 64 := rfl
  have a := mt Int32.lt_iff_toInt_lt.mpr hm
  have b := Int32.lt_iff_toInt_lt.mp hn
  have c := Int32.lt_iff_toInt_lt.mp hj
  have e : (m + 1).toInt = m.toInt + (1 : Int32).toInt := Jvm.Kit.i32_add (by omega) (by omega)
  by_cases q : j.toInt = m.toInt
  · exact Or.inr (Int32.toInt_inj.mp q)
  · exact Or.inl (Int32.lt_iff_toInt_lt.mpr (by omega))
theorem own_ne_of_lt {a b : Int32} (h : a < b) : ¬ a = b := fun q => by subst q; exact Int32.lt_irrefl h
theorem own_selects {args : Array Value} {s : State} {y z z' : MethodName} (hinst : (Jvm.Cond.instanceMethod y).before args s = true) (hpriv : s.PrivateAt y) (hsel : (Jvm.Cond.selects y.cls z z').before args s = true) (hcls : z'.cls = y.cls) (hy : y.cls ≠ "java/lang/invoke/MethodHandle" ∧ y.cls ≠ "java/lang/invoke/VarHandle") : (Jvm.Cond.selects y.cls y y).before args s = true := by
  obtain ⟨mk, methM, hnamed, hmethM, -, -⟩ := Cond.instanceMethod_spec hinst
  obtain ⟨c2, r2, m2, q1, q2, q3, q4, kP, hkP, hkPi⟩ := Cond.selects_spec hsel
  have e1 := findClass_of_methodNamed hnamed
  have e2 := findClass_of_methodNamed q3
  rw [hcls] at e2
  have e3 : m2.cls = mk.cls := Option.some.inj (e2.symm.trans e1)
  rw [e3] at hkP
  have e4 := State.methodFound?_of_named hnamed hy
  have e5 : selectMethod {} s.vm c2 mk = .method mk := selectMethod_private hmethM (hpriv mk methM hnamed hmethM)
  simp [Cond.before, Cond.holds, Cond.value, q1, e4, hnamed, e5, hkP, hkPi]
def JS (Z : State) (h : Heap) (j A I V T u : Addr) (kA : ClassId) (ln op nT nU : Int32) (fi fv ft fu : Int32 → Int32) : Prop := Exa Z h j "com/example/envyless/envyless/Journal" ∧ Fld Z h j "com/example/envyless/envyless/Journal" "arrays" "[[I" (.ref A) ∧ Fld Z h j "com/example/envyless/envyless/Journal" "indexes" "[I" (.ref I) ∧ Fld Z h j "com/example/envyless/envyless/Journal" "values" "[I" (.ref V) ∧ Fld Z h j "com/example/envyless/envyless/Journal" "starts" "[I" (.ref T) ∧ Fld Z h j "com/example/envyless/envyless/Journal" "length" "I" (.int ln) ∧ Fld Z h j "com/example/envyless/envyless/Journal" "open" "I" (.int op) ∧ AA Z h A kA 64 ln u ∧ AI Z h I 64 fi ∧ AI Z h V 64 fv ∧ AI Z h T nT ft ∧ AI Z h u nU fu ∧ Exa Z h u "[I" ∧ OvrA Z kA .int "[I"
def JQ (Z : State) (w : Option Value) (j A I V T u : Addr) (kA : ClassId) (ln op nT nU : Int32) (fi fv ft fu : Int32 → Int32) (n0 : Nat) (v : Option Value) (h : Heap) (L : List Loc) : Prop := v = w ∧ Fr n0 L ∧ n0 ≤ h.size ∧ JS Z h j A I V T u kA ln op nT nU fi fv ft fu
/-- what a new journal is -/
def JC (Z : State) (j : Addr) (h0 : Heap) (n0 : Nat) (v : Option Value) (h : Heap) (L : List Loc) : Prop := v = none ∧ Fr n0 L ∧ Keep h0 h [j] ∧ ∃ (A I V T : Addr) (kA : ClassId), Exa Z h j "com/example/envyless/envyless/Journal" ∧ Fld Z h j "com/example/envyless/envyless/Journal" "arrays" "[[I" (.ref A) ∧ Fld Z h j "com/example/envyless/envyless/Journal" "indexes" "[I" (.ref I) ∧ Fld Z h j "com/example/envyless/envyless/Journal" "values" "[I" (.ref V) ∧ Fld Z h j "com/example/envyless/envyless/Journal" "starts" "[I" (.ref T) ∧ Fld Z h j "com/example/envyless/envyless/Journal" "length" "I" (.int (0 : Int32)) ∧ Fld Z h j "com/example/envyless/envyless/Journal" "open" "I" (.int (0 : Int32)) ∧ (∀ u, AA Z h A kA 64 0 u) ∧ AI Z h I 64 (fun _ => 0) ∧ AI Z h V 64 (fun _ => 0) ∧ AI Z h T 8 (fun _ => 0) ∧ OvrA Z kA .int "[I" ∧ (h0.size ≤ A ∧ h0.size ≤ I ∧ h0.size ≤ V ∧ h0.size ≤ T) ∧ (j ≠ A ∧ j ≠ I ∧ j ≠ V ∧ j ≠ T ∧ A ≠ I ∧ A ≠ V ∧ A ≠ T ∧ I ≠ V ∧ I ≠ T ∧ V ≠ T)
def DJ (j A I V T u : Addr) : Prop := j ≠ A ∧ j ≠ I ∧ j ≠ V ∧ j ≠ T ∧ j ≠ u ∧ A ≠ I ∧ A ≠ V ∧ A ≠ T ∧ A ≠ u ∧ I ≠ V ∧ I ≠ T ∧ I ≠ u ∧ V ≠ T ∧ V ≠ u ∧ T ≠ u
def GE (n0 : Nat) (j A I V T u : Addr) : Prop := n0 ≤ j ∧ n0 ≤ A ∧ n0 ≤ I ∧ n0 ≤ V ∧ n0 ≤ T ∧ n0 ≤ u
theorem own_ix (y : Int32) : ¬ ((y &&& (3 : Int32)) % (3 : Int32)) < 0 ∧ ((y &&& (3 : Int32)) % (3 : Int32)) < 3 := by
  have e1 : (y &&& (3 : Int32)).toInt = y.toInt % 2 ^ 2 := Jvm.Kit.i32_mask y 3 (k := 2) (by decide) (by decide)
  have e2 : ((y &&& (3 : Int32)) % (3 : Int32)).toInt = (y &&& (3 : Int32)).toInt % (3 : Int32).toInt := Jvm.Kit.i32_rem_nonneg (by omega)
  have z : (0 : Int32).toInt = 0 := rfl
  have t : (3 : Int32).toInt = 3 := rfl
  rw [t] at e2
  rw [Int32.lt_iff_toInt_lt, Int32.lt_iff_toInt_lt]
  constructor <;> omega
theorem own_pd_0 : parseMethodDescriptor "()I" = some ⟨[], some .int⟩ := by decide +kernel
theorem own_pd_1 : parseMethodDescriptor "()V" = some ⟨[], none⟩ := by decide +kernel
theorem own_pd_2 : parseMethodDescriptor "([III)V" = some ⟨[(.array .int), .int, .int], none⟩ := by decide +kernel
theorem own_d4_0 : decode prog_22_method_3_code 0 = .ok (.aload_n 0, 1) := by decide +kernel
theorem own_d4_1 : decode prog_22_method_3_code 1 = .ok (.getfield 24, 3) := by decide +kernel
theorem own_d4_4 : decode prog_22_method_3_code 4 = .ok (.aload_n 0, 1) := by decide +kernel
theorem own_d4_5 : decode prog_22_method_3_code 5 = .ok (.getfield 21, 3) := by decide +kernel
theorem own_d4_8 : decode prog_22_method_3_code 8 = .ok (.arraylength, 1) := by decide +kernel
theorem own_d4_9 : decode prog_22_method_3_code 9 = .ok (.if_icmp .ne 20, 3) := by decide +kernel
theorem own_d4_29 : decode prog_22_method_3_code 29 = .ok (.aload_n 0, 1) := by decide +kernel
theorem own_d4_30 : decode prog_22_method_3_code 30 = .ok (.getfield 21, 3) := by decide +kernel
theorem own_d4_33 : decode prog_22_method_3_code 33 = .ok (.aload_n 0, 1) := by decide +kernel
theorem own_d4_34 : decode prog_22_method_3_code 34 = .ok (.dup, 1) := by decide +kernel
theorem own_d4_35 : decode prog_22_method_3_code 35 = .ok (.getfield 24, 3) := by decide +kernel
theorem own_d4_38 : decode prog_22_method_3_code 38 = .ok (.dup_x1, 1) := by decide +kernel
theorem own_d4_39 : decode prog_22_method_3_code 39 = .ok (.iconst 1, 1) := by decide +kernel
theorem own_d4_40 : decode prog_22_method_3_code 40 = .ok (.iadd, 1) := by decide +kernel
theorem own_d4_41 : decode prog_22_method_3_code 41 = .ok (.putfield 24, 3) := by decide +kernel
theorem own_d4_44 : decode prog_22_method_3_code 44 = .ok (.aload_n 0, 1) := by decide +kernel
theorem own_d4_45 : decode prog_22_method_3_code 45 = .ok (.getfield 28, 3) := by decide +kernel
theorem own_d4_48 : decode prog_22_method_3_code 48 = .ok (.iastore, 1) := by decide +kernel
theorem own_d4_49 : decode prog_22_method_3_code 49 = .ok (.return_, 1) := by decide +kernel
set_option maxRecDepth 65536 in
set_option maxHeartbeats 40000000 in
theorem rm_start (l : Launch) (Z : State) (a0 : Array Value) (hw : ∀ d ∈ tables_1, d.before a0 Z = true) (ws : List Jvm.Cond) (j A I V T u : Addr) (kA : ClassId) (ln op nT nU : Int32) (fi fv ft fu : Int32 → Int32) (opE : Int32) (h0 : Heap) (n0 : Nat) (Z0 : n0 ≤ h0.size) (J : JS Z h0 j A I V T u kA ln op nT nU fi fv ft fu) (DJ_ : DJ j A I V T u) (GE_ : GE n0 j A I V T u) (hoE : opE = op + 1) (ho0 : ¬ op < 0) (hoT : op < nT) :
    MetFree l (⟨"com/example/envyless/envyless/Journal", "start", "()V"⟩ : MethodName) (head1 (Jvm.Cond.code (⟨"com/example/envyless/envyless/Journal", "start", "()V"⟩ : MethodName) prog_22_method_3_code 1 none :: ws) ({ frames := 0, cells := 0, slots := 0, locals := 0 } : Room)) (fun a U => a = #[(.ref j)] ∧ Z.Warmed39 U.vm ∧ U.heap = h0) (fun _ _ _ _ _ => True) (fun _ U o U' => ∃ v L, o = .returned v ∧ JQ Z none j A I V T u kA ln opE nT nU fi fv (up ft op ln) fu n0 v U'.heap L ∧ FrameEnd U o U' L ({ frames := 0, cells := 0, slots := 0, locals := 0 } : Room).cells ({ frames := 0, cells := 0, slots := 0, locals := 0 } : Room).slots) := by
  refine MetFree.of_bodySF (plainFor_of_name (by first | (simp [plainName, overriddenIn]; done) | decide +kernel)) hisR ?_
  intro p e s m args below meth c s₁ Bd hml0 hP hK
  obtain ⟨rfl, hZ, hh⟩ := hP
  have hx := Bd.exec
  have hby := Bd.bytes
  have hml : c.maxLocals = 1 := hml0
  have hown : s.vm.findClass "com/example/envyless/envyless/Journal" = some m.cls := findClass_of_methodNamed Bd.named
  have hnm := (name_of_methodNamed Bd.named Bd.method).1
  have X0 : Stand p l e ({ frames := 0, cells := 0, slots := 0, locals := 0 } : Room) s m #[(.ref j)] below meth c s₁ [] 0 0 := Stand.of_body Bd
  have e0 : s₁.heap = h0 := by rw [← hh, Bd.state]; rfl
  have N0 := Fr.nil n0
  have ef0 : entryFrame m #[(.ref j)] 1 = mkF m 0 #[.val (.ref j)] [] := by first | (simp [entryFrame, mkF, argsToLocals, Value.category, maxLocals]; done) | rfl
  have pre0 : ∀ t, Steps p.tables e below (s₁.setTop (mkF m 0 #[.val (.ref j)] [])) t → Steps p.tables e below (s₁.setTop (entryFrame m #[(.ref j)] 1)) t := fun t k => castTop ef0 k
  obtain ⟨Ej, Fa, Fi, Fv, Fs, Fl, Fo, AAa, AIi, AIv, AIt, AIu, Eu, Ov⟩ := J
  obtain ⟨njA, njI, njV, njT, nju, nAI, nAV, nAT, nAu, nIV, nIT, nIu, nVT, nVu, nTu⟩ := DJ_
  obtain ⟨gej, geA, geI, geV, geT, geu⟩ := GE_
  subst hoE
  obtain ⟨T1, X1, e1, st1⟩ := getF X0 hx hZ hown (host := "") (Or.inl (hw _ (List.mem_of_getElem? (i := 25) rfl))) Via.refl e0 Fo (g := (mkF m 1 #[.val (.ref j)] [(.ref j)])) rfl rfl (hb hby own_d4_1)
  obtain ⟨T2, X2, e2, st2⟩ := getF X1 hx hZ hown (host := "") (Or.inl (hw _ (List.mem_of_getElem? (i := 18) rfl))) Via.refl e1 Fs (g := (mkF m 5 #[.val (.ref j)] [(.ref j), (.int op)])) rfl rfl (hb hby own_d4_5)
  obtain ⟨cl3, Ar3, S3, M3, H3⟩ := id AIt
  have pre4 : ∀ t, Steps p.tables e below (T2.setTop (mkF m 9 #[.val (.ref j)] [(.int nT), (.int op)])) t → Steps p.tables e below (s₁.setTop (entryFrame m #[(.ref j)] 1)) t := fun tt kk => pre0 tt (by
    show Steps p.tables e below (s₁.setTop (mkF m 0 #[.val (.ref j)] [])) _
    refine XS.aloadN X0.here hx rfl (hb hby own_d4_0) rfl rfl ?_
    show Steps p.tables e below (s₁.setTop (mkF m 1 #[.val (.ref j)] [(.ref j)])) _
    refine st1 _ ?_
    show Steps p.tables e below (T1.setTop (mkF m 4 #[.val (.ref j)] [(.int op)])) _
    refine XS.aloadN X1.here hx rfl (hb hby own_d4_4) rfl rfl ?_
    show Steps p.tables e below (T1.setTop (mkF m 5 #[.val (.ref j)] [(.ref j), (.int op)])) _
    refine st2 _ ?_
    show Steps p.tables e below (T2.setTop (mkF m 8 #[.val (.ref j)] [(.ref T), (.int op)])) _
    refine X2.arraylength hx (by rw [e2]; exact Ar3.1) (State.isArrayOf_alike hZ.alike Ar3.2.1) (g := (mkF m 8 #[.val (.ref j)] [(.ref T), (.int op)])) rfl rfl (hb hby own_d4_8) _ ?_
    rw [len_of S3 M3]
    exact kk)
  obtain ⟨T5, X5, e5, st5⟩ := getF X2 hx hZ hown (host := "") (Or.inl (hw _ (List.mem_of_getElem? (i := 18) rfl))) Via.refl e2 Fs (g := (mkF m 30 #[.val (.ref j)] [(.ref j)])) rfl rfl (hb hby own_d4_30)
  obtain ⟨T6, X6, e6, st6⟩ := getF X5 hx hZ hown (host := "") (Or.inl (hw _ (List.mem_of_getElem? (i := 25) rfl))) Via.refl e5 Fo (g := (mkF m 35 #[.val (.ref j)] [(.ref j), (.ref j), (.ref T)])) rfl rfl (hb hby own_d4_35)
  obtain ⟨T7, h7, X7, e7, W7, st7⟩ := putF X6 hx hZ hown (host := "") (Or.inl (hw _ (List.mem_of_getElem? (i := 25) rfl))) Via.refl e6 Fo Ej (Or.inl (hw _ (List.mem_of_getElem? (i := 26) rfl))) (hw _ (List.mem_of_getElem? (i := 2) rfl)) (ty := .int) (by decide) rfl rfl (g := (mkF m 41 #[.val (.ref j)] [(.int (op + (1 : Int32))), (.ref j), (.int op), (.ref T)])) rfl rfl (hb hby own_d4_41)
  have N7 := Fr.snoc X7 N0 gej
  have f8 : Exa Z h7 j "com/example/envyless/envyless/Journal" := Ej.wr W7
  have f9 : Exa Z h7 u "[I" := Eu.wr W7
  have f10 : Fld Z h7 j "com/example/envyless/envyless/Journal" "arrays" "[[I" (.ref A) := Fa.other W7 (Or.inr (slot_ne (Or.inl (hw _ (List.mem_of_getElem? (i := 13) rfl))) (Or.inl (hw _ (List.mem_of_getElem? (i := 26) rfl))) (by decide) (t := (.array (.array .int))) (t' := .int) (by decide) (by decide)))
  have f11 : Fld Z h7 j "com/example/envyless/envyless/Journal" "indexes" "[I" (.ref I) := Fi.other W7 (Or.inr (slot_ne (Or.inl (hw _ (List.mem_of_getElem? (i := 15) rfl))) (Or.inl (hw _ (List.mem_of_getElem? (i := 26) rfl))) (by decide) (t := (.array .int)) (t' := .int) (by decide) (by decide)))
  have f12 : Fld Z h7 j "com/example/envyless/envyless/Journal" "values" "[I" (.ref V) := Fv.other W7 (Or.inr (slot_ne (Or.inl (hw _ (List.mem_of_getElem? (i := 17) rfl))) (Or.inl (hw _ (List.mem_of_getElem? (i := 26) rfl))) (by decide) (t := (.array .int)) (t' := .int) (by decide) (by decide)))
  have f13 : Fld Z h7 j "com/example/envyless/envyless/Journal" "starts" "[I" (.ref T) := Fs.other W7 (Or.inr (slot_ne (Or.inl (hw _ (List.mem_of_getElem? (i := 19) rfl))) (Or.inl (hw _ (List.mem_of_getElem? (i := 26) rfl))) (by decide) (t := (.array .int)) (t' := .int) (by decide) (by decide)))
  have f14 : Fld Z h7 j "com/example/envyless/envyless/Journal" "length" "I" (.int ln) := Fl.other W7 (Or.inr (slot_ne (Or.inl (hw _ (List.mem_of_getElem? (i := 33) rfl))) (Or.inl (hw _ (List.mem_of_getElem? (i := 26) rfl))) (by decide) (t := .int) (t' := .int) (by decide) (by decide)))
  have f15 : Fld Z h7 j "com/example/envyless/envyless/Journal" "open" "I" (.int (op + (1 : Int32))) := Fo.same W7
  have f16 : AA Z h7 A kA 64 ln u := AAa.other W7 (Ne.symm njA)
  have f17 : AI Z h7 I (64 : Int32) fi := AIi.other W7 (Ne.symm njI)
  have f18 : AI Z h7 V (64 : Int32) fv := AIv.other W7 (Ne.symm njV)
  have f19 : AI Z h7 T nT ft := AIt.other W7 (Ne.symm njT)
  have f20 : AI Z h7 u nU fu := AIu.other W7 (Ne.symm nju)
  have f21 : n0 ≤ h7.size := Nat.le_trans Z0 (Keep.of_wr W7).1
  obtain ⟨T22, X22, e22, st22⟩ := getF X7 hx hZ hown (host := "") (Or.inl (hw _ (List.mem_of_getElem? (i := 32) rfl))) Via.refl e7 f14 (g := (mkF m 45 #[.val (.ref j)] [(.ref j), (.int op), (.ref T)])) rfl rfl (hb hby own_d4_45)
  obtain ⟨cl23, Ar23, S23, -, -⟩ := id f19
  obtain ⟨T24, h24, X24, e24, W24, st24⟩ := stI X22 hx hZ e22 Ar23 (j := op) (inb_of S23 ⟨ho0, hoT⟩) (g := (mkF m 48 #[.val (.ref j)] [(.int ln), (.int op), (.ref T)])) rfl rfl (hb hby own_d4_48)
  have N24 := Fr.snoc X24 N7 geT
  have f25 : Exa Z h24 j "com/example/envyless/envyless/Journal" := f8.wr W24
  have f26 : Exa Z h24 u "[I" := f9.wr W24
  have f27 : Fld Z h24 j "com/example/envyless/envyless/Journal" "arrays" "[[I" (.ref A) := f10.other W24 (Or.inl njT)
  have f28 : Fld Z h24 j "com/example/envyless/envyless/Journal" "indexes" "[I" (.ref I) := f11.other W24 (Or.inl njT)
  have f29 : Fld Z h24 j "com/example/envyless/envyless/Journal" "values" "[I" (.ref V) := f12.other W24 (Or.inl njT)
  have f30 : Fld Z h24 j "com/example/envyless/envyless/Journal" "starts" "[I" (.ref T) := f13.other W24 (Or.inl njT)
  have f31 : Fld Z h24 j "com/example/envyless/envyless/Journal" "length" "I" (.int ln) := f14.other W24 (Or.inl njT)
  have f32 : Fld Z h24 j "com/example/envyless/envyless/Journal" "open" "I" (.int (op + (1 : Int32))) := f15.other W24 (Or.inl njT)
  have f33 : AA Z h24 A kA 64 ln u := f16.other W24 nAT
  have f34 : AI Z h24 I (64 : Int32) fi := f17.other W24 nIT
  have f35 : AI Z h24 V (64 : Int32) fv := f18.other W24 nVT
  have f36 : AI Z h24 u nU fu := f20.other W24 (Ne.symm nTu)
  have f37 : n0 ≤ h24.size := Nat.le_trans f21 (Keep.of_wr W24).1
  have V24 : AI Z h24 T nT (up ft op ln) := f19.set W24 ho0 hoT
  obtain ⟨fs, hr, hrun, hended, hW, hsame⟩ := X24.leave (v := none) (fun _ => rfl)
  refine ⟨_, _, pre4 _ ?_, hrun, hended, _, _, rfl, ?_, ⟨_, rfl⟩, hW, hsame.mono (by decide) (by decide)⟩
  · show Steps p.tables e below (T2.setTop (mkF m 9 #[.val (.ref j)] [(.int nT), (.int op)])) _
    refine XS.icmpYes X2.here hx rfl (pc0 := 9) (pc' := 29) rfl (hb hby own_d4_9) rfl (feq (own_ne_of_lt hoT)).2 (by decide) (by decide) ?_
    show Steps p.tables e below (T2.setTop (mkF m 29 #[.val (.ref j)] [])) _
    refine XS.aloadN X2.here hx rfl (hb hby own_d4_29) rfl rfl ?_
    show Steps p.tables e below (T2.setTop (mkF m 30 #[.val (.ref j)] [(.ref j)])) _
    refine st5 _ ?_
    show Steps p.tables e below (T5.setTop (mkF m 33 #[.val (.ref j)] [(.ref T)])) _
    refine XS.aloadN X5.here hx rfl (hb hby own_d4_33) rfl rfl ?_
    show Steps p.tables e below (T5.setTop (mkF m 34 #[.val (.ref j)] [(.ref j), (.ref T)])) _
    refine XS.dup X5.here hx rfl (hb hby own_d4_34) rfl rfl ?_
    show Steps p.tables e below (T5.setTop (mkF m 35 #[.val (.ref j)] [(.ref j), (.ref j), (.ref T)])) _
    refine st6 _ ?_
    show Steps p.tables e below (T6.setTop (mkF m 38 #[.val (.ref j)] [(.int op), (.ref j), (.ref T)])) _
    refine XS.dupX1 X6.here hx rfl (hb hby own_d4_38) rfl rfl rfl ?_
    show Steps p.tables e below (T6.setTop (mkF m 39 #[.val (.ref j)] [(.int op), (.ref j), (.int op), (.ref T)])) _
    refine XS.iconst X6.here hx rfl (hb hby own_d4_39) ?_
    show Steps p.tables e below (T6.setTop (mkF m 40 #[.val (.ref j)] [(.int (1 : Int32)), (.int op), (.ref j), (.int op), (.ref T)])) _
    refine XS.iadd X6.here hx rfl (hb hby own_d4_40) rfl ?_
    show Steps p.tables e below (T6.setTop (mkF m 41 #[.val (.ref j)] [(.int (op + (1 : Int32))), (.ref j), (.int op), (.ref T)])) _
    refine st7 _ ?_
    show Steps p.tables e below (T7.setTop (mkF m 44 #[.val (.ref j)] [(.int op), (.ref T)])) _
    refine XS.aloadN X7.here hx rfl (hb hby own_d4_44) rfl rfl ?_
    show Steps p.tables e below (T7.setTop (mkF m 45 #[.val (.ref j)] [(.ref j), (.int op), (.ref T)])) _
    refine st22 _ ?_
    show Steps p.tables e below (T22.setTop (mkF m 48 #[.val (.ref j)] [(.int ln), (.int op), (.ref T)])) _
    refine st24 _ ?_
    show Steps p.tables e below (T24.setTop (mkF m 49 #[.val (.ref j)] [])) _
    exact X24.returnOut hx Bd.returns (hb hby own_d4_49) hr
  · show JQ Z _ j A I V _ u kA _ _ _ _ _ _ _ _ n0 _ T24.heap _
    rw [e24]
    exact ⟨rfl, N24, f37, f25, f27, f28, f29, f30, f31, f32, f33, f34, f35, V24, f36, f26, Ov⟩
theorem own_d3_0 : decode prog_22_method_2_code 0 = .ok (.aload_n 0, 1) := by decide +kernel
theorem own_d3_1 : decode prog_22_method_2_code 1 = .ok (.getfield 24, 3) := by decide +kernel
theorem own_d3_4 : decode prog_22_method_2_code 4 = .ok (.ifCond .le 111, 3) := by decide +kernel
theorem own_d3_115 : decode prog_22_method_2_code 115 = .ok (.aload_n 1, 1) := by decide +kernel
theorem own_d3_116 : decode prog_22_method_2_code 116 = .ok (.iload_n 2, 1) := by decide +kernel
theorem own_d3_117 : decode prog_22_method_2_code 117 = .ok (.iload_n 3, 1) := by decide +kernel
theorem own_d3_118 : decode prog_22_method_2_code 118 = .ok (.iastore, 1) := by decide +kernel
theorem own_d3_119 : decode prog_22_method_2_code 119 = .ok (.return_, 1) := by decide +kernel
set_option maxRecDepth 65536 in
set_option maxHeartbeats 40000000 in
theorem rm_set0 (l : Launch) (Z : State) (a0 : Array Value) (hw : ∀ d ∈ tables_1, d.before a0 Z = true) (ws : List Jvm.Cond) (j A I V T u : Addr) (kA : ClassId) (ln op nT nU : Int32) (fi fv ft fu : Int32 → Int32) (ix vl : Int32) (h0 : Heap) (n0 : Nat) (Z0 : n0 ≤ h0.size) (J : JS Z h0 j A I V T u kA ln op nT nU fi fv ft fu) (DJ_ : DJ j A I V T u) (GE_ : GE n0 j A I V T u) (hop : ¬ 0 < op) (hi0 : ¬ ix < 0) (hiU : ix < nU) :
    MetFree l (⟨"com/example/envyless/envyless/Journal", "set", "([III)V"⟩ : MethodName) (head1 (Jvm.Cond.code (⟨"com/example/envyless/envyless/Journal", "set", "([III)V"⟩ : MethodName) prog_22_method_2_code 4 none :: ws) ({ frames := 0, cells := 0, slots := 0, locals := 0 } : Room)) (fun a U => a = #[(.ref j), (.ref u), (.int ix), (.int vl)] ∧ Z.Warmed39 U.vm ∧ U.heap = h0) (fun _ _ _ _ _ => True) (fun _ U o U' => ∃ v L, o = .returned v ∧ JQ Z none j A I V T u kA ln op nT nU fi fv ft (up fu ix vl) n0 v U'.heap L ∧ FrameEnd U o U' L ({ frames := 0, cells := 0, slots := 0, locals := 0 } : Room).cells ({ frames := 0, cells := 0, slots := 0, locals := 0 } : Room).slots) := by
  refine MetFree.of_bodySF (plainFor_of_name (by first | (simp [plainName, overriddenIn]; done) | decide +kernel)) hisR ?_
  intro p e s m args below meth c s₁ Bd hml0 hP hK
  obtain ⟨rfl, hZ, hh⟩ := hP
  have hx := Bd.exec
  have hby := Bd.bytes
  have hml : c.maxLocals = 4 := hml0
  have hown : s.vm.findClass "com/example/envyless/envyless/Journal" = some m.cls := findClass_of_methodNamed Bd.named
  have hnm := (name_of_methodNamed Bd.named Bd.method).1
  have X0 : Stand p l e ({ frames := 0, cells := 0, slots := 0, locals := 0 } : Room) s m #[(.ref j), (.ref u), (.int ix), (.int vl)] below meth c s₁ [] 0 0 := Stand.of_body Bd
  have e0 : s₁.heap = h0 := by rw [← hh, Bd.state]; rfl
  have N0 := Fr.nil n0
  have ef0 : entryFrame m #[(.ref j), (.ref u), (.int ix), (.int vl)] 4 = mkF m 0 #[.val (.ref j), .val (.ref u), .val (.int ix), .val (.int vl)] [] := by first | (simp [entryFrame, mkF, argsToLocals, Value.category, maxLocals]; done) | rfl
  have pre0 : ∀ t, Steps p.tables e below (s₁.setTop (mkF m 0 #[.val (.ref j), .val (.ref u), .val (.int ix), .val (.int vl)] [])) t → Steps p.tables e below (s₁.setTop (entryFrame m #[(.ref j), (.ref u), (.int ix), (.int vl)] 4)) t := fun t k => castTop ef0 k
  obtain ⟨Ej, Fa, Fi, Fv, Fs, Fl, Fo, AAa, AIi, AIv, AIt, AIu, Eu, Ov⟩ := J
  obtain ⟨njA, njI, njV, njT, nju, nAI, nAV, nAT, nAu, nIV, nIT, nIu, nVT, nVu, nTu⟩ := DJ_
  obtain ⟨gej, geA, geI, geV, geT, geu⟩ := GE_
  obtain ⟨T38, X38, e38, st38⟩ := getF X0 hx hZ hown (host := "") (Or.inl (hw _ (List.mem_of_getElem? (i := 25) rfl))) Via.refl e0 Fo (g := (mkF m 1 #[.val (.ref j), .val (.ref u), .val (.int ix), .val (.int vl)] [(.ref j)])) rfl rfl (hb hby own_d3_1)
  have pre39 : ∀ t, Steps p.tables e below (T38.setTop (mkF m 4 #[.val (.ref j), .val (.ref u), .val (.int ix), .val (.int vl)] [(.int op)])) t → Steps p.tables e below (s₁.setTop (entryFrame m #[(.ref j), (.ref u), (.int ix), (.int vl)] 4)) t := fun tt kk => pre0 tt (by
    show Steps p.tables e below (s₁.setTop (mkF m 0 #[.val (.ref j), .val (.ref u), .val (.int ix), .val (.int vl)] [])) _
    refine XS.aloadN X0.here hx rfl (hb hby own_d3_0) rfl rfl ?_
    show Steps p.tables e below (s₁.setTop (mkF m 1 #[.val (.ref j), .val (.ref u), .val (.int ix), .val (.int vl)] [(.ref j)])) _
    refine st38 _ ?_
    exact kk)
  obtain ⟨cl40, Ar40, S40, -, -⟩ := id AIu
  obtain ⟨T41, h41, X41, e41, W41, st41⟩ := stI X38 hx hZ e38 Ar40 (j := ix) (inb_of S40 ⟨hi0, hiU⟩) (g := (mkF m 118 #[.val (.ref j), .val (.ref u), .val (.int ix), .val (.int vl)] [(.int vl), (.int ix), (.ref u)])) rfl rfl (hb hby own_d3_118)
  have N41 := Fr.snoc X41 N0 geu
  have f42 : Exa Z h41 j "com/example/envyless/envyless/Journal" := Ej.wr W41
  have f43 : Exa Z h41 u "[I" := Eu.wr W41
  have f44 : Fld Z h41 j "com/example/envyless/envyless/Journal" "arrays" "[[I" (.ref A) := Fa.other W41 (Or.inl nju)
  have f45 : Fld Z h41 j "com/example/envyless/envyless/Journal" "indexes" "[I" (.ref I) := Fi.other W41 (Or.inl nju)
  have f46 : Fld Z h41 j "com/example/envyless/envyless/Journal" "values" "[I" (.ref V) := Fv.other W41 (Or.inl nju)
  have f47 : Fld Z h41 j "com/example/envyless/envyless/Journal" "starts" "[I" (.ref T) := Fs.other W41 (Or.inl nju)
  have f48 : Fld Z h41 j "com/example/envyless/envyless/Journal" "length" "I" (.int ln) := Fl.other W41 (Or.inl nju)
  have f49 : Fld Z h41 j "com/example/envyless/envyless/Journal" "open" "I" (.int op) := Fo.other W41 (Or.inl nju)
  have f50 : AA Z h41 A kA 64 ln u := AAa.other W41 nAu
  have f51 : AI Z h41 I (64 : Int32) fi := AIi.other W41 nIu
  have f52 : AI Z h41 V (64 : Int32) fv := AIv.other W41 nVu
  have f53 : AI Z h41 T nT ft := AIt.other W41 nTu
  have f54 : n0 ≤ h41.size := Nat.le_trans Z0 (Keep.of_wr W41).1
  have V41 : AI Z h41 u nU (up fu ix vl) := AIu.set W41 hi0 hiU
  obtain ⟨fs, hr, hrun, hended, hW, hsame⟩ := X41.leave (v := none) (fun _ => rfl)
  refine ⟨_, _, pre39 _ ?_, hrun, hended, _, _, rfl, ?_, ⟨_, rfl⟩, hW, hsame.mono (by decide) (by decide)⟩
  · show Steps p.tables e below (T38.setTop (mkF m 4 #[.val (.ref j), .val (.ref u), .val (.int ix), .val (.int vl)] [(.int op)])) _
    refine XS.ifYes X38.here hx rfl (pc0 := 4) (pc' := 115) rfl (hb hby own_d3_4) rfl ((if0 _ _).trans (flt (hop)).2.2.2) (by decide) (by decide) ?_
    show Steps p.tables e below (T38.setTop (mkF m 115 #[.val (.ref j), .val (.ref u), .val (.int ix), .val (.int vl)] [])) _
    refine XS.aloadN X38.here hx rfl (hb hby own_d3_115) rfl rfl ?_
    show Steps p.tables e below (T38.setTop (mkF m 116 #[.val (.ref j), .val (.ref u), .val (.int ix), .val (.int vl)] [(.ref u)])) _
    refine XS.iloadN X38.here hx rfl (hb hby own_d3_116) rfl ?_
    show Steps p.tables e below (T38.setTop (mkF m 117 #[.val (.ref j), .val (.ref u), .val (.int ix), .val (.int vl)] [(.int ix), (.ref u)])) _
    refine XS.iloadN X38.here hx rfl (hb hby own_d3_117) rfl ?_
    show Steps p.tables e below (T38.setTop (mkF m 118 #[.val (.ref j), .val (.ref u), .val (.int ix), .val (.int vl)] [(.int vl), (.int ix), (.ref u)])) _
    refine st41 _ ?_
    show Steps p.tables e below (T41.setTop (mkF m 119 #[.val (.ref j), .val (.ref u), .val (.int ix), .val (.int vl)] [])) _
    exact X41.returnOut hx Bd.returns (hb hby own_d3_119) hr
  · show JQ Z _ j A I V _ u kA _ _ _ _ _ _ _ _ n0 _ T41.heap _
    rw [e41]
    exact ⟨rfl, N41, f54, f42, f44, f45, f46, f47, f48, f49, f50, f51, f52, f53, V41, f43, Ov⟩
theorem own_d3_7 : decode prog_22_method_2_code 7 = .ok (.aload_n 0, 1) := by decide +kernel
theorem own_d3_8 : decode prog_22_method_2_code 8 = .ok (.getfield 28, 3) := by decide +kernel
theorem own_d3_11 : decode prog_22_method_2_code 11 = .ok (.aload_n 0, 1) := by decide +kernel
theorem own_d3_12 : decode prog_22_method_2_code 12 = .ok (.getfield 9, 3) := by decide +kernel
theorem own_d3_15 : decode prog_22_method_2_code 15 = .ok (.arraylength, 1) := by decide +kernel
theorem own_d3_16 : decode prog_22_method_2_code 16 = .ok (.if_icmp .ne 57, 3) := by decide +kernel
theorem own_d3_73 : decode prog_22_method_2_code 73 = .ok (.aload_n 0, 1) := by decide +kernel
theorem own_d3_74 : decode prog_22_method_2_code 74 = .ok (.getfield 9, 3) := by decide +kernel
theorem own_d3_77 : decode prog_22_method_2_code 77 = .ok (.aload_n 0, 1) := by decide +kernel
theorem own_d3_78 : decode prog_22_method_2_code 78 = .ok (.getfield 28, 3) := by decide +kernel
theorem own_d3_81 : decode prog_22_method_2_code 81 = .ok (.aload_n 1, 1) := by decide +kernel
theorem own_d3_82 : decode prog_22_method_2_code 82 = .ok (.aastore, 1) := by decide +kernel
theorem own_d3_83 : decode prog_22_method_2_code 83 = .ok (.aload_n 0, 1) := by decide +kernel
theorem own_d3_84 : decode prog_22_method_2_code 84 = .ok (.getfield 15, 3) := by decide +kernel
theorem own_d3_87 : decode prog_22_method_2_code 87 = .ok (.aload_n 0, 1) := by decide +kernel
theorem own_d3_88 : decode prog_22_method_2_code 88 = .ok (.getfield 28, 3) := by decide +kernel
theorem own_d3_91 : decode prog_22_method_2_code 91 = .ok (.iload_n 2, 1) := by decide +kernel
theorem own_d3_92 : decode prog_22_method_2_code 92 = .ok (.iastore, 1) := by decide +kernel
theorem own_d3_93 : decode prog_22_method_2_code 93 = .ok (.aload_n 0, 1) := by decide +kernel
theorem own_d3_94 : decode prog_22_method_2_code 94 = .ok (.getfield 18, 3) := by decide +kernel
theorem own_d3_97 : decode prog_22_method_2_code 97 = .ok (.aload_n 0, 1) := by decide +kernel
theorem own_d3_98 : decode prog_22_method_2_code 98 = .ok (.getfield 28, 3) := by decide +kernel
theorem own_d3_101 : decode prog_22_method_2_code 101 = .ok (.aload_n 1, 1) := by decide +kernel
theorem own_d3_102 : decode prog_22_method_2_code 102 = .ok (.iload_n 2, 1) := by decide +kernel
theorem own_d3_103 : decode prog_22_method_2_code 103 = .ok (.iaload, 1) := by decide +kernel
theorem own_d3_104 : decode prog_22_method_2_code 104 = .ok (.iastore, 1) := by decide +kernel
theorem own_d3_105 : decode prog_22_method_2_code 105 = .ok (.aload_n 0, 1) := by decide +kernel
theorem own_d3_106 : decode prog_22_method_2_code 106 = .ok (.dup, 1) := by decide +kernel
theorem own_d3_107 : decode prog_22_method_2_code 107 = .ok (.getfield 28, 3) := by decide +kernel
theorem own_d3_110 : decode prog_22_method_2_code 110 = .ok (.iconst 1, 1) := by decide +kernel
theorem own_d3_111 : decode prog_22_method_2_code 111 = .ok (.iadd, 1) := by decide +kernel
theorem own_d3_112 : decode prog_22_method_2_code 112 = .ok (.putfield 28, 3) := by decide +kernel
set_option maxRecDepth 65536 in
set_option maxHeartbeats 40000000 in
theorem rm_set1 (l : Launch) (Z : State) (a0 : Array Value) (hw : ∀ d ∈ tables_1, d.before a0 Z = true) (ws : List Jvm.Cond) (j A I V T u : Addr) (kA : ClassId) (ln op nT nU : Int32) (fi fv ft fu : Int32 → Int32) (lnE ix vl : Int32) (h0 : Heap) (n0 : Nat) (Z0 : n0 ≤ h0.size) (J : JS Z h0 j A I V T u kA ln op nT nU fi fv ft fu) (DJ_ : DJ j A I V T u) (GE_ : GE n0 j A I V T u) (hlE : lnE = ln + 1) (hop : 0 < op) (hi0 : ¬ ix < 0) (hiU : ix < nU) (hl0 : ¬ ln < 0) (hl64 : ln < 64) :
    MetFree l (⟨"com/example/envyless/envyless/Journal", "set", "([III)V"⟩ : MethodName) (head1 (Jvm.Cond.code (⟨"com/example/envyless/envyless/Journal", "set", "([III)V"⟩ : MethodName) prog_22_method_2_code 4 none :: ws) ({ frames := 0, cells := 0, slots := 0, locals := 0 } : Room)) (fun a U => a = #[(.ref j), (.ref u), (.int ix), (.int vl)] ∧ Z.Warmed39 U.vm ∧ U.heap = h0) (fun _ _ _ _ _ => True) (fun _ U o U' => ∃ v L, o = .returned v ∧ JQ Z none j A I V T u kA lnE op nT nU (up fi ln ix) (up fv ln (fu ix)) ft (up fu ix vl) n0 v U'.heap L ∧ FrameEnd U o U' L ({ frames := 0, cells := 0, slots := 0, locals := 0 } : Room).cells ({ frames := 0, cells := 0, slots := 0, locals := 0 } : Room).slots) := by
  refine MetFree.of_bodySF (plainFor_of_name (by first | (simp [plainName, overriddenIn]; done) | decide +kernel)) hisR ?_
  intro p e s m args below meth c s₁ Bd hml0 hP hK
  obtain ⟨rfl, hZ, hh⟩ := hP
  have hx := Bd.exec
  have hby := Bd.bytes
  have hml : c.maxLocals = 4 := hml0
  have hown : s.vm.findClass "com/example/envyless/envyless/Journal" = some m.cls := findClass_of_methodNamed Bd.named
  have hnm := (name_of_methodNamed Bd.named Bd.method).1
  have X0 : Stand p l e ({ frames := 0, cells := 0, slots := 0, locals := 0 } : Room) s m #[(.ref j), (.ref u), (.int ix), (.int vl)] below meth c s₁ [] 0 0 := Stand.of_body Bd
  have e0 : s₁.heap = h0 := by rw [← hh, Bd.state]; rfl
  have N0 := Fr.nil n0
  have ef0 : entryFrame m #[(.ref j), (.ref u), (.int ix), (.int vl)] 4 = mkF m 0 #[.val (.ref j), .val (.ref u), .val (.int ix), .val (.int vl)] [] := by first | (simp [entryFrame, mkF, argsToLocals, Value.category, maxLocals]; done) | rfl
  have pre0 : ∀ t, Steps p.tables e below (s₁.setTop (mkF m 0 #[.val (.ref j), .val (.ref u), .val (.int ix), .val (.int vl)] [])) t → Steps p.tables e below (s₁.setTop (entryFrame m #[(.ref j), (.ref u), (.int ix), (.int vl)] 4)) t := fun t k => castTop ef0 k
  obtain ⟨Ej, Fa, Fi, Fv, Fs, Fl, Fo, AAa, AIi, AIv, AIt, AIu, Eu, Ov⟩ := J
  obtain ⟨njA, njI, njV, njT, nju, nAI, nAV, nAT, nAu, nIV, nIT, nIu, nVT, nVu, nTu⟩ := DJ_
  obtain ⟨gej, geA, geI, geV, geT, geu⟩ := GE_
  subst hlE
  obtain ⟨T55, X55, e55, st55⟩ := getF X0 hx hZ hown (host := "") (Or.inl (hw _ (List.mem_of_getElem? (i := 25) rfl))) Via.refl e0 Fo (g := (mkF m 1 #[.val (.ref j), .val (.ref u), .val (.int ix), .val (.int vl)] [(.ref j)])) rfl rfl (hb hby own_d3_1)
  have pre56 : ∀ t, Steps p.tables e below (T55.setTop (mkF m 4 #[.val (.ref j), .val (.ref u), .val (.int ix), .val (.int vl)] [(.int op)])) t → Steps p.tables e below (s₁.setTop (entryFrame m #[(.ref j), (.ref u), (.int ix), (.int vl)] 4)) t := fun tt kk => pre0 tt (by
    show Steps p.tables e below (s₁.setTop (mkF m 0 #[.val (.ref j), .val (.ref u), .val (.int ix), .val (.int vl)] [])) _
    refine XS.aloadN X0.here hx rfl (hb hby own_d3_0) rfl rfl ?_
    show Steps p.tables e below (s₁.setTop (mkF m 1 #[.val (.ref j), .val (.ref u), .val (.int ix), .val (.int vl)] [(.ref j)])) _
    refine st55 _ ?_
    exact kk)
  obtain ⟨T57, X57, e57, st57⟩ := getF X55 hx hZ hown (host := "") (Or.inl (hw _ (List.mem_of_getElem? (i := 32) rfl))) Via.refl e55 Fl (g := (mkF m 8 #[.val (.ref j), .val (.ref u), .val (.int ix), .val (.int vl)] [(.ref j)])) rfl rfl (hb hby own_d3_8)
  obtain ⟨T58, X58, e58, st58⟩ := getF X57 hx hZ hown (host := "") (Or.inl (hw _ (List.mem_of_getElem? (i := 12) rfl))) Via.refl e57 Fa (g := (mkF m 12 #[.val (.ref j), .val (.ref u), .val (.int ix), .val (.int vl)] [(.ref j), (.int ln)])) rfl rfl (hb hby own_d3_12)
  obtain ⟨cl59, Ar59, -, S59, M59, H59⟩ := id AAa
  have pre60 : ∀ t, Steps p.tables e below (T58.setTop (mkF m 16 #[.val (.ref j), .val (.ref u), .val (.int ix), .val (.int vl)] [(.int (64 : Int32)), (.int ln)])) t → Steps p.tables e below (s₁.setTop (entryFrame m #[(.ref j), (.ref u), (.int ix), (.int vl)] 4)) t := fun tt kk => pre56 tt (by
    show Steps p.tables e below (T55.setTop (mkF m 4 #[.val (.ref j), .val (.ref u), .val (.int ix), .val (.int vl)] [(.int op)])) _
    refine XS.ifNo X55.here hx rfl (hb hby own_d3_4) rfl ((if0 _ _).trans (tlt (hop)).2.2.2) ?_
    show Steps p.tables e below (T55.setTop (mkF m 7 #[.val (.ref j), .val (.ref u), .val (.int ix), .val (.int vl)] [])) _
    refine XS.aloadN X55.here hx rfl (hb hby own_d3_7) rfl rfl ?_
    show Steps p.tables e below (T55.setTop (mkF m 8 #[.val (.ref j), .val (.ref u), .val (.int ix), .val (.int vl)] [(.ref j)])) _
    refine st57 _ ?_
    show Steps p.tables e below (T57.setTop (mkF m 11 #[.val (.ref j), .val (.ref u), .val (.int ix), .val (.int vl)] [(.int ln)])) _
    refine XS.aloadN X57.here hx rfl (hb hby own_d3_11) rfl rfl ?_
    show Steps p.tables e below (T57.setTop (mkF m 12 #[.val (.ref j), .val (.ref u), .val (.int ix), .val (.int vl)] [(.ref j), (.int ln)])) _
    refine st58 _ ?_
    show Steps p.tables e below (T58.setTop (mkF m 15 #[.val (.ref j), .val (.ref u), .val (.int ix), .val (.int vl)] [(.ref A), (.int ln)])) _
    refine X58.arraylength hx (by rw [e58]; exact Ar59.1) (State.isArrayOf_alike hZ.alike Ar59.2.1) (g := (mkF m 15 #[.val (.ref j), .val (.ref u), .val (.int ix), .val (.int vl)] [(.ref A), (.int ln)])) rfl rfl (hb hby own_d3_15) _ ?_
    rw [len_of S59 M59]
    exact kk)
  obtain ⟨T61, X61, e61, st61⟩ := getF X58 hx hZ hown (host := "") (Or.inl (hw _ (List.mem_of_getElem? (i := 12) rfl))) Via.refl e58 Fa (g := (mkF m 74 #[.val (.ref j), .val (.ref u), .val (.int ix), .val (.int vl)] [(.ref j)])) rfl rfl (hb hby own_d3_74)
  obtain ⟨T62, X62, e62, st62⟩ := getF X61 hx hZ hown (host := "") (Or.inl (hw _ (List.mem_of_getElem? (i := 32) rfl))) Via.refl e61 Fl (g := (mkF m 78 #[.val (.ref j), .val (.ref u), .val (.int ix), .val (.int vl)] [(.ref j), (.ref A)])) rfl rfl (hb hby own_d3_78)
  obtain ⟨cl63, Ar63, C63, S63, -, -⟩ := id AAa
  obtain ⟨T64, h64, X64, e64, W64, st64⟩ := stR X62 hx hZ e62 Ar63 (j := ln) (inb_of S63 ⟨hl0, hl64⟩) rfl (Sto.ofVA Ar63 C63 Ov (Ins.self Eu)) (g := (mkF m 82 #[.val (.ref j), .val (.ref u), .val (.int ix), .val (.int vl)] [(.ref u), (.int ln), (.ref A)])) rfl rfl (hb hby own_d3_82)
  have N64 := Fr.snoc X64 N0 geA
  have f65 : Exa Z h64 j "com/example/envyless/envyless/Journal" := Ej.wr W64
  have f66 : Exa Z h64 u "[I" := Eu.wr W64
  have f67 : Fld Z h64 j "com/example/envyless/envyless/Journal" "arrays" "[[I" (.ref A) := Fa.other W64 (Or.inl njA)
  have f68 : Fld Z h64 j "com/example/envyless/envyless/Journal" "indexes" "[I" (.ref I) := Fi.other W64 (Or.inl njA)
  have f69 : Fld Z h64 j "com/example/envyless/envyless/Journal" "values" "[I" (.ref V) := Fv.other W64 (Or.inl njA)
  have f70 : Fld Z h64 j "com/example/envyless/envyless/Journal" "starts" "[I" (.ref T) := Fs.other W64 (Or.inl njA)
  have f71 : Fld Z h64 j "com/example/envyless/envyless/Journal" "length" "I" (.int ln) := Fl.other W64 (Or.inl njA)
  have f72 : Fld Z h64 j "com/example/envyless/envyless/Journal" "open" "I" (.int op) := Fo.other W64 (Or.inl njA)
  have f73 : AI Z h64 I (64 : Int32) fi := AIi.other W64 (Ne.symm nAI)
  have f74 : AI Z h64 V (64 : Int32) fv := AIv.other W64 (Ne.symm nAV)
  have f75 : AI Z h64 T nT ft := AIt.other W64 (Ne.symm nAT)
  have f76 : AI Z h64 u nU fu := AIu.other W64 (Ne.symm nAu)
  have f77 : n0 ≤ h64.size := Nat.le_trans Z0 (Keep.of_wr W64).1
  have V64 : AA Z h64 A kA 64 (ln + (1 : Int32)) u := AAa.push W64 hl0 hl64 (own_step rfl hl0 hl64)
  obtain ⟨T78, X78, e78, st78⟩ := getF X64 hx hZ hown (host := "") (Or.inl (hw _ (List.mem_of_getElem? (i := 14) rfl))) Via.refl e64 f68 (g := (mkF m 84 #[.val (.ref j), .val (.ref u), .val (.int ix), .val (.int vl)] [(.ref j)])) rfl rfl (hb hby own_d3_84)
  obtain ⟨T79, X79, e79, st79⟩ := getF X78 hx hZ hown (host := "") (Or.inl (hw _ (List.mem_of_getElem? (i := 32) rfl))) Via.refl e78 f71 (g := (mkF m 88 #[.val (.ref j), .val (.ref u), .val (.int ix), .val (.int vl)] [(.ref j), (.ref I)])) rfl rfl (hb hby own_d3_88)
  obtain ⟨cl80, Ar80, S80, -, -⟩ := id f73
  obtain ⟨T81, h81, X81, e81, W81, st81⟩ := stI X79 hx hZ e79 Ar80 (j := ln) (inb_of S80 ⟨hl0, hl64⟩) (g := (mkF m 92 #[.val (.ref j), .val (.ref u), .val (.int ix), .val (.int vl)] [(.int ix), (.int ln), (.ref I)])) rfl rfl (hb hby own_d3_92)
  have N81 := Fr.snoc X81 N64 geI
  have f82 : Exa Z h81 j "com/example/envyless/envyless/Journal" := f65.wr W81
  have f83 : Exa Z h81 u "[I" := f66.wr W81
  have f84 : Fld Z h81 j "com/example/envyless/envyless/Journal" "arrays" "[[I" (.ref A) := f67.other W81 (Or.inl njI)
  have f85 : Fld Z h81 j "com/example/envyless/envyless/Journal" "indexes" "[I" (.ref I) := f68.other W81 (Or.inl njI)
  have f86 : Fld Z h81 j "com/example/envyless/envyless/Journal" "values" "[I" (.ref V) := f69.other W81 (Or.inl njI)
  have f87 : Fld Z h81 j "com/example/envyless/envyless/Journal" "starts" "[I" (.ref T) := f70.other W81 (Or.inl njI)
  have f88 : Fld Z h81 j "com/example/envyless/envyless/Journal" "length" "I" (.int ln) := f71.other W81 (Or.inl njI)
  have f89 : Fld Z h81 j "com/example/envyless/envyless/Journal" "open" "I" (.int op) := f72.other W81 (Or.inl njI)
  have f90 : AI Z h81 V (64 : Int32) fv := f74.other W81 (Ne.symm nIV)
  have f91 : AI Z h81 T nT ft := f75.other W81 (Ne.symm nIT)
  have f92 : AI Z h81 u nU fu := f76.other W81 (Ne.symm nIu)
  have f93 : n0 ≤ h81.size := Nat.le_trans f77 (Keep.of_wr W81).1
  have f94 : AA Z h81 A kA 64 (ln + (1 : Int32)) u := V64.other W81 nAI
  have V81 : AI Z h81 I (64 : Int32) (up fi ln ix) := f73.set W81 hl0 hl64
  obtain ⟨T95, X95, e95, st95⟩ := getF X81 hx hZ hown (host := "") (Or.inl (hw _ (List.mem_of_getElem? (i := 16) rfl))) Via.refl e81 f86 (g := (mkF m 94 #[.val (.ref j), .val (.ref u), .val (.int ix), .val (.int vl)] [(.ref j)])) rfl rfl (hb hby own_d3_94)
  obtain ⟨T96, X96, e96, st96⟩ := getF X95 hx hZ hown (host := "") (Or.inl (hw _ (List.mem_of_getElem? (i := 32) rfl))) Via.refl e95 f88 (g := (mkF m 98 #[.val (.ref j), .val (.ref u), .val (.int ix), .val (.int vl)] [(.ref j), (.ref V)])) rfl rfl (hb hby own_d3_98)
  obtain ⟨cl97, Ar97, S97, M97, H97⟩ := id f92
  obtain ⟨cl98, Ar98, S98, -, -⟩ := id f90
  obtain ⟨T99, h99, X99, e99, W99, st99⟩ := stI X96 hx hZ e96 Ar98 (j := ln) (inb_of S98 ⟨hl0, hl64⟩) (g := (mkF m 104 #[.val (.ref j), .val (.ref u), .val (.int ix), .val (.int vl)] [(.int (fu ix)), (.int ln), (.ref V)])) rfl rfl (hb hby own_d3_104)
  have N99 := Fr.snoc X99 N81 geV
  have f100 : Exa Z h99 j "com/example/envyless/envyless/Journal" := f82.wr W99
  have f101 : Exa Z h99 u "[I" := f83.wr W99
  have f102 : Fld Z h99 j "com/example/envyless/envyless/Journal" "arrays" "[[I" (.ref A) := f84.other W99 (Or.inl njV)
  have f103 : Fld Z h99 j "com/example/envyless/envyless/Journal" "indexes" "[I" (.ref I) := f85.other W99 (Or.inl njV)
  have f104 : Fld Z h99 j "com/example/envyless/envyless/Journal" "values" "[I" (.ref V) := f86.other W99 (Or.inl njV)
  have f105 : Fld Z h99 j "com/example/envyless/envyless/Journal" "starts" "[I" (.ref T) := f87.other W99 (Or.inl njV)
  have f106 : Fld Z h99 j "com/example/envyless/envyless/Journal" "length" "I" (.int ln) := f88.other W99 (Or.inl njV)
  have f107 : Fld Z h99 j "com/example/envyless/envyless/Journal" "open" "I" (.int op) := f89.other W99 (Or.inl njV)
  have f108 : AI Z h99 T nT ft := f91.other W99 (Ne.symm nVT)
  have f109 : AI Z h99 u nU fu := f92.other W99 (Ne.symm nVu)
  have f110 : n0 ≤ h99.size := Nat.le_trans f93 (Keep.of_wr W99).1
  have f111 : AA Z h99 A kA 64 (ln + (1 : Int32)) u := f94.other W99 nAV
  have f112 : AI Z h99 I (64 : Int32) (up fi ln ix) := V81.other W99 nIV
  have V99 : AI Z h99 V (64 : Int32) (up fv ln (fu ix)) := f90.set W99 hl0 hl64
  obtain ⟨T113, X113, e113, st113⟩ := getF X99 hx hZ hown (host := "") (Or.inl (hw _ (List.mem_of_getElem? (i := 32) rfl))) Via.refl e99 f106 (g := (mkF m 107 #[.val (.ref j), .val (.ref u), .val (.int ix), .val (.int vl)] [(.ref j), (.ref j)])) rfl rfl (hb hby own_d3_107)
  obtain ⟨T114, h114, X114, e114, W114, st114⟩ := putF X113 hx hZ hown (host := "") (Or.inl (hw _ (List.mem_of_getElem? (i := 32) rfl))) Via.refl e113 f106 f100 (Or.inl (hw _ (List.mem_of_getElem? (i := 33) rfl))) (hw _ (List.mem_of_getElem? (i := 2) rfl)) (ty := .int) (by decide) rfl rfl (g := (mkF m 112 #[.val (.ref j), .val (.ref u), .val (.int ix), .val (.int vl)] [(.int (ln + (1 : Int32))), (.ref j)])) rfl rfl (hb hby own_d3_112)
  have N114 := Fr.snoc X114 N99 gej
  have f115 : Exa Z h114 j "com/example/envyless/envyless/Journal" := f100.wr W114
  have f116 : Exa Z h114 u "[I" := f101.wr W114
  have f117 : Fld Z h114 j "com/example/envyless/envyless/Journal" "arrays" "[[I" (.ref A) := f102.other W114 (Or.inr (slot_ne (Or.inl (hw _ (List.mem_of_getElem? (i := 13) rfl))) (Or.inl (hw _ (List.mem_of_getElem? (i := 33) rfl))) (by decide) (t := (.array (.array .int))) (t' := .int) (by decide) (by decide)))
  have f118 : Fld Z h114 j "com/example/envyless/envyless/Journal" "indexes" "[I" (.ref I) := f103.other W114 (Or.inr (slot_ne (Or.inl (hw _ (List.mem_of_getElem? (i := 15) rfl))) (Or.inl (hw _ (List.mem_of_getElem? (i := 33) rfl))) (by decide) (t := (.array .int)) (t' := .int) (by decide) (by decide)))
  have f119 : Fld Z h114 j "com/example/envyless/envyless/Journal" "values" "[I" (.ref V) := f104.other W114 (Or.inr (slot_ne (Or.inl (hw _ (List.mem_of_getElem? (i := 17) rfl))) (Or.inl (hw _ (List.mem_of_getElem? (i := 33) rfl))) (by decide) (t := (.array .int)) (t' := .int) (by decide) (by decide)))
  have f120 : Fld Z h114 j "com/example/envyless/envyless/Journal" "starts" "[I" (.ref T) := f105.other W114 (Or.inr (slot_ne (Or.inl (hw _ (List.mem_of_getElem? (i := 19) rfl))) (Or.inl (hw _ (List.mem_of_getElem? (i := 33) rfl))) (by decide) (t := (.array .int)) (t' := .int) (by decide) (by decide)))
  have f121 : Fld Z h114 j "com/example/envyless/envyless/Journal" "length" "I" (.int (ln + (1 : Int32))) := f106.same W114
  have f122 : Fld Z h114 j "com/example/envyless/envyless/Journal" "open" "I" (.int op) := f107.other W114 (Or.inr (slot_ne (Or.inl (hw _ (List.mem_of_getElem? (i := 26) rfl))) (Or.inl (hw _ (List.mem_of_getElem? (i := 33) rfl))) (by decide) (t := .int) (t' := .int) (by decide) (by decide)))
  have f123 : AI Z h114 T nT ft := f108.other W114 (Ne.symm njT)
  have f124 : AI Z h114 u nU fu := f109.other W114 (Ne.symm nju)
  have f125 : n0 ≤ h114.size := Nat.le_trans f110 (Keep.of_wr W114).1
  have f126 : AA Z h114 A kA 64 (ln + (1 : Int32)) u := f111.other W114 (Ne.symm njA)
  have f127 : AI Z h114 I (64 : Int32) (up fi ln ix) := f112.other W114 (Ne.symm njI)
  have f128 : AI Z h114 V (64 : Int32) (up fv ln (fu ix)) := V99.other W114 (Ne.symm njV)
  obtain ⟨cl129, Ar129, S129, -, -⟩ := id f124
  obtain ⟨T130, h130, X130, e130, W130, st130⟩ := stI X114 hx hZ e114 Ar129 (j := ix) (inb_of S129 ⟨hi0, hiU⟩) (g := (mkF m 118 #[.val (.ref j), .val (.ref u), .val (.int ix), .val (.int vl)] [(.int vl), (.int ix), (.ref u)])) rfl rfl (hb hby own_d3_118)
  have N130 := Fr.snoc X130 N114 geu
  have f131 : Exa Z h130 j "com/example/envyless/envyless/Journal" := f115.wr W130
  have f132 : Exa Z h130 u "[I" := f116.wr W130
  have f133 : Fld Z h130 j "com/example/envyless/envyless/Journal" "arrays" "[[I" (.ref A) := f117.other W130 (Or.inl nju)
  have f134 : Fld Z h130 j "com/example/envyless/envyless/Journal" "indexes" "[I" (.ref I) := f118.other W130 (Or.inl nju)
  have f135 : Fld Z h130 j "com/example/envyless/envyless/Journal" "values" "[I" (.ref V) := f119.other W130 (Or.inl nju)
  have f136 : Fld Z h130 j "com/example/envyless/envyless/Journal" "starts" "[I" (.ref T) := f120.other W130 (Or.inl nju)
  have f137 : Fld Z h130 j "com/example/envyless/envyless/Journal" "length" "I" (.int (ln + (1 : Int32))) := f121.other W130 (Or.inl nju)
  have f138 : Fld Z h130 j "com/example/envyless/envyless/Journal" "open" "I" (.int op) := f122.other W130 (Or.inl nju)
  have f139 : AI Z h130 T nT ft := f123.other W130 nTu
  have f140 : n0 ≤ h130.size := Nat.le_trans f125 (Keep.of_wr W130).1
  have f141 : AA Z h130 A kA 64 (ln + (1 : Int32)) u := f126.other W130 nAu
  have f142 : AI Z h130 I (64 : Int32) (up fi ln ix) := f127.other W130 nIu
  have f143 : AI Z h130 V (64 : Int32) (up fv ln (fu ix)) := f128.other W130 nVu
  have V130 : AI Z h130 u nU (up fu ix vl) := f124.set W130 hi0 hiU
  have pre144 : ∀ t, Steps p.tables e below (T130.setTop (mkF m 119 #[.val (.ref j), .val (.ref u), .val (.int ix), .val (.int vl)] [])) t → Steps p.tables e below (s₁.setTop (entryFrame m #[(.ref j), (.ref u), (.int ix), (.int vl)] 4)) t := fun tt kk => pre60 tt (by
    show Steps p.tables e below (T58.setTop (mkF m 16 #[.val (.ref j), .val (.ref u), .val (.int ix), .val (.int vl)] [(.int (64 : Int32)), (.int ln)])) _
    refine XS.icmpYes X58.here hx rfl (pc0 := 16) (pc' := 73) rfl (hb hby own_d3_16) rfl (feq (own_ne_of_lt hl64)).2 (by decide) (by decide) ?_
    show Steps p.tables e below (T58.setTop (mkF m 73 #[.val (.ref j), .val (.ref u), .val (.int ix), .val (.int vl)] [])) _
    refine XS.aloadN X58.here hx rfl (hb hby own_d3_73) rfl rfl ?_
    show Steps p.tables e below (T58.setTop (mkF m 74 #[.val (.ref j), .val (.ref u), .val (.int ix), .val (.int vl)] [(.ref j)])) _
    refine st61 _ ?_
    show Steps p.tables e below (T61.setTop (mkF m 77 #[.val (.ref j), .val (.ref u), .val (.int ix), .val (.int vl)] [(.ref A)])) _
    refine XS.aloadN X61.here hx rfl (hb hby own_d3_77) rfl rfl ?_
    show Steps p.tables e below (T61.setTop (mkF m 78 #[.val (.ref j), .val (.ref u), .val (.int ix), .val (.int vl)] [(.ref j), (.ref A)])) _
    refine st62 _ ?_
    show Steps p.tables e below (T62.setTop (mkF m 81 #[.val (.ref j), .val (.ref u), .val (.int ix), .val (.int vl)] [(.int ln), (.ref A)])) _
    refine XS.aloadN X62.here hx rfl (hb hby own_d3_81) rfl rfl ?_
    show Steps p.tables e below (T62.setTop (mkF m 82 #[.val (.ref j), .val (.ref u), .val (.int ix), .val (.int vl)] [(.ref u), (.int ln), (.ref A)])) _
    refine st64 _ ?_
    show Steps p.tables e below (T64.setTop (mkF m 83 #[.val (.ref j), .val (.ref u), .val (.int ix), .val (.int vl)] [])) _
    refine XS.aloadN X64.here hx rfl (hb hby own_d3_83) rfl rfl ?_
    show Steps p.tables e below (T64.setTop (mkF m 84 #[.val (.ref j), .val (.ref u), .val (.int ix), .val (.int vl)] [(.ref j)])) _
    refine st78 _ ?_
    show Steps p.tables e below (T78.setTop (mkF m 87 #[.val (.ref j), .val (.ref u), .val (.int ix), .val (.int vl)] [(.ref I)])) _
    refine XS.aloadN X78.here hx rfl (hb hby own_d3_87) rfl rfl ?_
    show Steps p.tables e below (T78.setTop (mkF m 88 #[.val (.ref j), .val (.ref u), .val (.int ix), .val (.int vl)] [(.ref j), (.ref I)])) _
    refine st79 _ ?_
    show Steps p.tables e below (T79.setTop (mkF m 91 #[.val (.ref j), .val (.ref u), .val (.int ix), .val (.int vl)] [(.int ln), (.ref I)])) _
    refine XS.iloadN X79.here hx rfl (hb hby own_d3_91) rfl ?_
    show Steps p.tables e below (T79.setTop (mkF m 92 #[.val (.ref j), .val (.ref u), .val (.int ix), .val (.int vl)] [(.int ix), (.int ln), (.ref I)])) _
    refine st81 _ ?_
    show Steps p.tables e below (T81.setTop (mkF m 93 #[.val (.ref j), .val (.ref u), .val (.int ix), .val (.int vl)] [])) _
    refine XS.aloadN X81.here hx rfl (hb hby own_d3_93) rfl rfl ?_
    show Steps p.tables e below (T81.setTop (mkF m 94 #[.val (.ref j), .val (.ref u), .val (.int ix), .val (.int vl)] [(.ref j)])) _
    refine st95 _ ?_
    show Steps p.tables e below (T95.setTop (mkF m 97 #[.val (.ref j), .val (.ref u), .val (.int ix), .val (.int vl)] [(.ref V)])) _
    refine XS.aloadN X95.here hx rfl (hb hby own_d3_97) rfl rfl ?_
    show Steps p.tables e below (T95.setTop (mkF m 98 #[.val (.ref j), .val (.ref u), .val (.int ix), .val (.int vl)] [(.ref j), (.ref V)])) _
    refine st96 _ ?_
    show Steps p.tables e below (T96.setTop (mkF m 101 #[.val (.ref j), .val (.ref u), .val (.int ix), .val (.int vl)] [(.int ln), (.ref V)])) _
    refine XS.aloadN X96.here hx rfl (hb hby own_d3_101) rfl rfl ?_
    show Steps p.tables e below (T96.setTop (mkF m 102 #[.val (.ref j), .val (.ref u), .val (.int ix), .val (.int vl)] [(.ref u), (.int ln), (.ref V)])) _
    refine XS.iloadN X96.here hx rfl (hb hby own_d3_102) rfl ?_
    show Steps p.tables e below (T96.setTop (mkF m 103 #[.val (.ref j), .val (.ref u), .val (.int ix), .val (.int vl)] [(.int ix), (.ref u), (.int ln), (.ref V)])) _
    refine X96.iaload hx (j := ix) (v := (.int (fu ix))) (by rw [e96]; exact Ar97.1) (State.isArrayOf_alike hZ.alike Ar97.2.1) Ar97.2.2 (inb_of S97 ⟨hi0, hiU⟩) (H97 _ hi0 hiU) (g := (mkF m 103 #[.val (.ref j), .val (.ref u), .val (.int ix), .val (.int vl)] [(.int ix), (.ref u), (.int ln), (.ref V)])) rfl rfl (hb hby own_d3_103) _ ?_
    show Steps p.tables e below (T96.setTop (mkF m 104 #[.val (.ref j), .val (.ref u), .val (.int ix), .val (.int vl)] [(.int (fu ix)), (.int ln), (.ref V)])) _
    refine st99 _ ?_
    show Steps p.tables e below (T99.setTop (mkF m 105 #[.val (.ref j), .val (.ref u), .val (.int ix), .val (.int vl)] [])) _
    refine XS.aloadN X99.here hx rfl (hb hby own_d3_105) rfl rfl ?_
    show Steps p.tables e below (T99.setTop (mkF m 106 #[.val (.ref j), .val (.ref u), .val (.int ix), .val (.int vl)] [(.ref j)])) _
    refine XS.dup X99.here hx rfl (hb hby own_d3_106) rfl rfl ?_
    show Steps p.tables e below (T99.setTop (mkF m 107 #[.val (.ref j), .val (.ref u), .val (.int ix), .val (.int vl)] [(.ref j), (.ref j)])) _
    refine st113 _ ?_
    show Steps p.tables e below (T113.setTop (mkF m 110 #[.val (.ref j), .val (.ref u), .val (.int ix), .val (.int vl)] [(.int ln), (.ref j)])) _
    refine XS.iconst X113.here hx rfl (hb hby own_d3_110) ?_
    show Steps p.tables e below (T113.setTop (mkF m 111 #[.val (.ref j), .val (.ref u), .val (.int ix), .val (.int vl)] [(.int (1 : Int32)), (.int ln), (.ref j)])) _
    refine XS.iadd X113.here hx rfl (hb hby own_d3_111) rfl ?_
    show Steps p.tables e below (T113.setTop (mkF m 112 #[.val (.ref j), .val (.ref u), .val (.int ix), .val (.int vl)] [(.int (ln + (1 : Int32))), (.ref j)])) _
    refine st114 _ ?_
    show Steps p.tables e below (T114.setTop (mkF m 115 #[.val (.ref j), .val (.ref u), .val (.int ix), .val (.int vl)] [])) _
    refine XS.aloadN X114.here hx rfl (hb hby own_d3_115) rfl rfl ?_
    show Steps p.tables e below (T114.setTop (mkF m 116 #[.val (.ref j), .val (.ref u), .val (.int ix), .val (.int vl)] [(.ref u)])) _
    refine XS.iloadN X114.here hx rfl (hb hby own_d3_116) rfl ?_
    show Steps p.tables e below (T114.setTop (mkF m 117 #[.val (.ref j), .val (.ref u), .val (.int ix), .val (.int vl)] [(.int ix), (.ref u)])) _
    refine XS.iloadN X114.here hx rfl (hb hby own_d3_117) rfl ?_
    show Steps p.tables e below (T114.setTop (mkF m 118 #[.val (.ref j), .val (.ref u), .val (.int ix), .val (.int vl)] [(.int vl), (.int ix), (.ref u)])) _
    refine st130 _ ?_
    exact kk)
  obtain ⟨fs, hr, hrun, hended, hW, hsame⟩ := X130.leave (v := none) (fun _ => rfl)
  refine ⟨_, _, pre144 _ ?_, hrun, hended, _, _, rfl, ?_, ⟨_, rfl⟩, hW, hsame.mono (by decide) (by decide)⟩
  · show Steps p.tables e below (T130.setTop (mkF m 119 #[.val (.ref j), .val (.ref u), .val (.int ix), .val (.int vl)] [])) _
    exact X130.returnOut hx Bd.returns (hb hby own_d3_119) hr
  · show JQ Z _ j A I V _ u kA _ _ _ _ _ _ _ _ n0 _ T130.heap _
    rw [e130]
    exact ⟨rfl, N130, f140, f131, f133, f134, f135, f136, f137, f138, f141, f142, f143, f139, V130, f132, Ov⟩
theorem own_d6_0 : decode prog_22_method_6_code 0 = .ok (.aload_n 0, 1) := by decide +kernel
theorem own_d6_1 : decode prog_22_method_6_code 1 = .ok (.getfield 24, 3) := by decide +kernel
theorem own_d6_4 : decode prog_22_method_6_code 4 = .ok (.ifCond .ne 13, 3) := by decide +kernel
theorem own_d6_17 : decode prog_22_method_6_code 17 = .ok (.aload_n 0, 1) := by decide +kernel
theorem own_d6_18 : decode prog_22_method_6_code 18 = .ok (.getfield 21, 3) := by decide +kernel
theorem own_d6_21 : decode prog_22_method_6_code 21 = .ok (.aload_n 0, 1) := by decide +kernel
theorem own_d6_22 : decode prog_22_method_6_code 22 = .ok (.dup, 1) := by decide +kernel
theorem own_d6_23 : decode prog_22_method_6_code 23 = .ok (.getfield 24, 3) := by decide +kernel
theorem own_d6_26 : decode prog_22_method_6_code 26 = .ok (.iconst 1, 1) := by decide +kernel
theorem own_d6_27 : decode prog_22_method_6_code 27 = .ok (.isub, 1) := by decide +kernel
theorem own_d6_28 : decode prog_22_method_6_code 28 = .ok (.dup_x1, 1) := by decide +kernel
theorem own_d6_29 : decode prog_22_method_6_code 29 = .ok (.putfield 24, 3) := by decide +kernel
theorem own_d6_32 : decode prog_22_method_6_code 32 = .ok (.iaload, 1) := by decide +kernel
theorem own_d6_33 : decode prog_22_method_6_code 33 = .ok (.ireturn, 1) := by decide +kernel
set_option maxRecDepth 65536 in
set_option maxHeartbeats 40000000 in
theorem rm_close (l : Launch) (Z : State) (a0 : Array Value) (hw : ∀ d ∈ tables_1, d.before a0 Z = true) (ws : List Jvm.Cond) (j A I V T u : Addr) (kA : ClassId) (ln op nT nU : Int32) (fi fv ft fu : Int32 → Int32) (opE sv : Int32) (h0 : Heap) (n0 : Nat) (Z0 : n0 ≤ h0.size) (J : JS Z h0 j A I V T u kA ln op nT nU fi fv ft fu) (DJ_ : DJ j A I V T u) (GE_ : GE n0 j A I V T u) (hoE : opE = op - 1) (hne : ¬ op = 0) (ho0 : ¬ opE < 0) (hoT : opE < nT) (hs : ft opE = sv) :
    MetFree l (⟨"com/example/envyless/envyless/Journal", "close", "()I"⟩ : MethodName) (head1 (Jvm.Cond.code (⟨"com/example/envyless/envyless/Journal", "close", "()I"⟩ : MethodName) prog_22_method_6_code 1 (some .int) :: ws) ({ frames := 0, cells := 0, slots := 0, locals := 0 } : Room)) (fun a U => a = #[(.ref j)] ∧ Z.Warmed39 U.vm ∧ U.heap = h0) (fun _ _ _ _ _ => True) (fun _ U o U' => ∃ v L, o = .returned v ∧ JQ Z (some (.int sv)) j A I V T u kA ln opE nT nU fi fv ft fu n0 v U'.heap L ∧ FrameEnd U o U' L ({ frames := 0, cells := 0, slots := 0, locals := 0 } : Room).cells ({ frames := 0, cells := 0, slots := 0, locals := 0 } : Room).slots) := by
  refine MetFree.of_bodySF (plainFor_of_name (by first | (simp [plainName, overriddenIn]; done) | decide +kernel)) hisR ?_
  intro p e s m args below meth c s₁ Bd hml0 hP hK
  obtain ⟨rfl, hZ, hh⟩ := hP
  have hx := Bd.exec
  have hby := Bd.bytes
  have hml : c.maxLocals = 1 := hml0
  have hown : s.vm.findClass "com/example/envyless/envyless/Journal" = some m.cls := findClass_of_methodNamed Bd.named
  have hnm := (name_of_methodNamed Bd.named Bd.method).1
  have X0 : Stand p l e ({ frames := 0, cells := 0, slots := 0, locals := 0 } : Room) s m #[(.ref j)] below meth c s₁ [] 0 0 := Stand.of_body Bd
  have e0 : s₁.heap = h0 := by rw [← hh, Bd.state]; rfl
  have N0 := Fr.nil n0
  have ef0 : entryFrame m #[(.ref j)] 1 = mkF m 0 #[.val (.ref j)] [] := by first | (simp [entryFrame, mkF, argsToLocals, Value.category, maxLocals]; done) | rfl
  have pre0 : ∀ t, Steps p.tables e below (s₁.setTop (mkF m 0 #[.val (.ref j)] [])) t → Steps p.tables e below (s₁.setTop (entryFrame m #[(.ref j)] 1)) t := fun t k => castTop ef0 k
  obtain ⟨Ej, Fa, Fi, Fv, Fs, Fl, Fo, AAa, AIi, AIv, AIt, AIu, Eu, Ov⟩ := J
  obtain ⟨njA, njI, njV, njT, nju, nAI, nAV, nAT, nAu, nIV, nIT, nIu, nVT, nVu, nTu⟩ := DJ_
  obtain ⟨gej, geA, geI, geV, geT, geu⟩ := GE_
  subst hoE
  obtain ⟨T145, X145, e145, st145⟩ := getF X0 hx hZ hown (host := "") (Or.inl (hw _ (List.mem_of_getElem? (i := 25) rfl))) Via.refl e0 Fo (g := (mkF m 1 #[.val (.ref j)] [(.ref j)])) rfl rfl (hb hby own_d6_1)
  have pre146 : ∀ t, Steps p.tables e below (T145.setTop (mkF m 4 #[.val (.ref j)] [(.int op)])) t → Steps p.tables e below (s₁.setTop (entryFrame m #[(.ref j)] 1)) t := fun tt kk => pre0 tt (by
    show Steps p.tables e below (s₁.setTop (mkF m 0 #[.val (.ref j)] [])) _
    refine XS.aloadN X0.here hx rfl (hb hby own_d6_0) rfl rfl ?_
    show Steps p.tables e below (s₁.setTop (mkF m 1 #[.val (.ref j)] [(.ref j)])) _
    refine st145 _ ?_
    exact kk)
  obtain ⟨T147, X147, e147, st147⟩ := getF X145 hx hZ hown (host := "") (Or.inl (hw _ (List.mem_of_getElem? (i := 18) rfl))) Via.refl e145 Fs (g := (mkF m 18 #[.val (.ref j)] [(.ref j)])) rfl rfl (hb hby own_d6_18)
  obtain ⟨T148, X148, e148, st148⟩ := getF X147 hx hZ hown (host := "") (Or.inl (hw _ (List.mem_of_getElem? (i := 25) rfl))) Via.refl e147 Fo (g := (mkF m 23 #[.val (.ref j)] [(.ref j), (.ref j), (.ref T)])) rfl rfl (hb hby own_d6_23)
  obtain ⟨T149, h149, X149, e149, W149, st149⟩ := putF X148 hx hZ hown (host := "") (Or.inl (hw _ (List.mem_of_getElem? (i := 25) rfl))) Via.refl e148 Fo Ej (Or.inl (hw _ (List.mem_of_getElem? (i := 26) rfl))) (hw _ (List.mem_of_getElem? (i := 2) rfl)) (ty := .int) (by decide) rfl rfl (g := (mkF m 29 #[.val (.ref j)] [(.int (op - (1 : Int32))), (.ref j), (.int (op - (1 : Int32))), (.ref T)])) rfl rfl (hb hby own_d6_29)
  have N149 := Fr.snoc X149 N0 gej
  have f150 : Exa Z h149 j "com/example/envyless/envyless/Journal" := Ej.wr W149
  have f151 : Exa Z h149 u "[I" := Eu.wr W149
  have f152 : Fld Z h149 j "com/example/envyless/envyless/Journal" "arrays" "[[I" (.ref A) := Fa.other W149 (Or.inr (slot_ne (Or.inl (hw _ (List.mem_of_getElem? (i := 13) rfl))) (Or.inl (hw _ (List.mem_of_getElem? (i := 26) rfl))) (by decide) (t := (.array (.array .int))) (t' := .int) (by decide) (by decide)))
  have f153 : Fld Z h149 j "com/example/envyless/envyless/Journal" "indexes" "[I" (.ref I) := Fi.other W149 (Or.inr (slot_ne (Or.inl (hw _ (List.mem_of_getElem? (i := 15) rfl))) (Or.inl (hw _ (List.mem_of_getElem? (i := 26) rfl))) (by decide) (t := (.array .int)) (t' := .int) (by decide) (by decide)))
  have f154 : Fld Z h149 j "com/example/envyless/envyless/Journal" "values" "[I" (.ref V) := Fv.other W149 (Or.inr (slot_ne (Or.inl (hw _ (List.mem_of_getElem? (i := 17) rfl))) (Or.inl (hw _ (List.mem_of_getElem? (i := 26) rfl))) (by decide) (t := (.array .int)) (t' := .int) (by decide) (by decide)))
  have f155 : Fld Z h149 j "com/example/envyless/envyless/Journal" "starts" "[I" (.ref T) := Fs.other W149 (Or.inr (slot_ne (Or.inl (hw _ (List.mem_of_getElem? (i := 19) rfl))) (Or.inl (hw _ (List.mem_of_getElem? (i := 26) rfl))) (by decide) (t := (.array .int)) (t' := .int) (by decide) (by decide)))
  have f156 : Fld Z h149 j "com/example/envyless/envyless/Journal" "length" "I" (.int ln) := Fl.other W149 (Or.inr (slot_ne (Or.inl (hw _ (List.mem_of_getElem? (i := 33) rfl))) (Or.inl (hw _ (List.mem_of_getElem? (i := 26) rfl))) (by decide) (t := .int) (t' := .int) (by decide) (by decide)))
  have f157 : Fld Z h149 j "com/example/envyless/envyless/Journal" "open" "I" (.int (op - (1 : Int32))) := Fo.same W149
  have f158 : AA Z h149 A kA 64 ln u := AAa.other W149 (Ne.symm njA)
  have f159 : AI Z h149 I (64 : Int32) fi := AIi.other W149 (Ne.symm njI)
  have f160 : AI Z h149 V (64 : Int32) fv := AIv.other W149 (Ne.symm njV)
  have f161 : AI Z h149 T nT ft := AIt.other W149 (Ne.symm njT)
  have f162 : AI Z h149 u nU fu := AIu.other W149 (Ne.symm nju)
  have f163 : n0 ≤ h149.size := Nat.le_trans Z0 (Keep.of_wr W149).1
  obtain ⟨cl164, Ar164, S164, M164, H164⟩ := id f161
  obtain ⟨fs, hr, hrun, hended, hW, hsame⟩ := X149.leave (v := some (.int (ft (op - (1 : Int32))))) (fun h => by rw [Bd.returns] at h; cases h)
  refine ⟨_, _, pre146 _ ?_, hrun, hended, _, _, rfl, ?_, ⟨_, rfl⟩, hW, hsame.mono (by decide) (by decide)⟩
  · show Steps p.tables e below (T145.setTop (mkF m 4 #[.val (.ref j)] [(.int op)])) _
    refine XS.ifYes X145.here hx rfl (pc0 := 4) (pc' := 17) rfl (hb hby own_d6_4) rfl ((if0 _ _).trans (feq (hne)).2) (by decide) (by decide) ?_
    show Steps p.tables e below (T145.setTop (mkF m 17 #[.val (.ref j)] [])) _
    refine XS.aloadN X145.here hx rfl (hb hby own_d6_17) rfl rfl ?_
    show Steps p.tables e below (T145.setTop (mkF m 18 #[.val (.ref j)] [(.ref j)])) _
    refine st147 _ ?_
    show Steps p.tables e below (T147.setTop (mkF m 21 #[.val (.ref j)] [(.ref T)])) _
    refine XS.aloadN X147.here hx rfl (hb hby own_d6_21) rfl rfl ?_
    show Steps p.tables e below (T147.setTop (mkF m 22 #[.val (.ref j)] [(.ref j), (.ref T)])) _
    refine XS.dup X147.here hx rfl (hb hby own_d6_22) rfl rfl ?_
    show Steps p.tables e below (T147.setTop (mkF m 23 #[.val (.ref j)] [(.ref j), (.ref j), (.ref T)])) _
    refine st148 _ ?_
    show Steps p.tables e below (T148.setTop (mkF m 26 #[.val (.ref j)] [(.int op), (.ref j), (.ref T)])) _
    refine XS.iconst X148.here hx rfl (hb hby own_d6_26) ?_
    show Steps p.tables e below (T148.setTop (mkF m 27 #[.val (.ref j)] [(.int (1 : Int32)), (.int op), (.ref j), (.ref T)])) _
    refine XS.isub X148.here hx rfl (hb hby own_d6_27) rfl ?_
    show Steps p.tables e below (T148.setTop (mkF m 28 #[.val (.ref j)] [(.int (op - (1 : Int32))), (.ref j), (.ref T)])) _
    refine XS.dupX1 X148.here hx rfl (hb hby own_d6_28) rfl rfl rfl ?_
    show Steps p.tables e below (T148.setTop (mkF m 29 #[.val (.ref j)] [(.int (op - (1 : Int32))), (.ref j), (.int (op - (1 : Int32))), (.ref T)])) _
    refine st149 _ ?_
    show Steps p.tables e below (T149.setTop (mkF m 32 #[.val (.ref j)] [(.int (op - (1 : Int32))), (.ref T)])) _
    refine X149.iaload hx (j := (op - (1 : Int32))) (v := (.int (ft (op - (1 : Int32))))) (by rw [e149]; exact Ar164.1) (State.isArrayOf_alike hZ.alike Ar164.2.1) Ar164.2.2 (inb_of S164 ⟨ho0, hoT⟩) (H164 _ ho0 hoT) (g := (mkF m 32 #[.val (.ref j)] [(.int (op - (1 : Int32))), (.ref T)])) rfl rfl (hb hby own_d6_32) _ ?_
    show Steps p.tables e below (T149.setTop (mkF m 33 #[.val (.ref j)] [(.int (ft (op - (1 : Int32))))])) _
    exact retOut X149 hx Bd.returns rfl (Or.inl ⟨rfl, Or.inl rfl, _, rfl⟩) (hb hby own_d6_33) hr
  · show JQ Z _ j A I V _ u kA _ _ _ _ _ _ _ _ n0 _ T149.heap _
    rw [e149]
    exact ⟨by rw [hs], N149, f163, f150, f152, f153, f154, f155, f156, f157, f158, f159, f160, f161, f162, f151, Ov⟩
theorem own_d7_0 : decode prog_22_method_5_code 0 = .ok (.aload_n 0, 1) := by decide +kernel
theorem own_d7_1 : decode prog_22_method_5_code 1 = .ok (.invokevirtual 41, 3) := by decide +kernel
theorem own_d7_4 : decode prog_22_method_5_code 4 = .ok (.pop, 1) := by decide +kernel
theorem own_d7_5 : decode prog_22_method_5_code 5 = .ok (.aload_n 0, 1) := by decide +kernel
theorem own_d7_6 : decode prog_22_method_5_code 6 = .ok (.getfield 24, 3) := by decide +kernel
theorem own_d7_9 : decode prog_22_method_5_code 9 = .ok (.ifCond .ne 8, 3) := by decide +kernel
theorem own_d7_17 : decode prog_22_method_5_code 17 = .ok (.return_, 1) := by decide +kernel
set_option maxRecDepth 65536 in
set_option maxHeartbeats 40000000 in
theorem rm_keep (l : Launch) (Z : State) (a0 : Array Value) (hw : ∀ d ∈ tables_1, d.before a0 Z = true) (ws : List Jvm.Cond) (j A I V T u : Addr) (kA : ClassId) (ln op nT nU : Int32) (fi fv ft fu : Int32 → Int32) (opE sv : Int32) (h0 : Heap) (n0 : Nat) (Z0 : n0 ≤ h0.size) (J : JS Z h0 j A I V T u kA ln op nT nU fi fv ft fu) (DJ_ : DJ j A I V T u) (GE_ : GE n0 j A I V T u) (hoE : opE = op - 1) (hne : ¬ op = 0) (ho0 : ¬ opE < 0) (hoT : opE < nT) (hs : ft opE = sv) (hk0 : ¬ opE = 0) :
    MetFree l (⟨"com/example/envyless/envyless/Journal", "keep", "()V"⟩ : MethodName) (head1 (Jvm.Cond.code (⟨"com/example/envyless/envyless/Journal", "keep", "()V"⟩ : MethodName) prog_22_method_5_code 1 none :: ws) ({ frames := 1, cells := 0, slots := 0, locals := 12 } : Room)) (fun a U => a = #[(.ref j)] ∧ Z.Warmed39 U.vm ∧ U.heap = h0) (fun _ _ _ _ _ => True) (fun _ U o U' => ∃ v L, o = .returned v ∧ JQ Z none j A I V T u kA ln opE nT nU fi fv ft fu n0 v U'.heap L ∧ FrameEnd U o U' L ({ frames := 1, cells := 0, slots := 0, locals := 12 } : Room).cells ({ frames := 1, cells := 0, slots := 0, locals := 12 } : Room).slots) := by
  refine MetFree.of_bodySF (plainFor_of_name (by first | (simp [plainName, overriddenIn]; done) | decide +kernel)) hisR ?_
  intro p e s m args below meth c s₁ Bd hml0 hP hK
  obtain ⟨rfl, hZ, hh⟩ := hP
  have hx := Bd.exec
  have hby := Bd.bytes
  have hml : c.maxLocals = 1 := hml0
  have hown : s.vm.findClass "com/example/envyless/envyless/Journal" = some m.cls := findClass_of_methodNamed Bd.named
  have hnm := (name_of_methodNamed Bd.named Bd.method).1
  have X0 : Stand p l e ({ frames := 1, cells := 0, slots := 0, locals := 12 } : Room) s m #[(.ref j)] below meth c s₁ [] 0 0 := Stand.of_body Bd
  have e0 : s₁.heap = h0 := by rw [← hh, Bd.state]; rfl
  have N0 := Fr.nil n0
  have ef0 : entryFrame m #[(.ref j)] 1 = mkF m 0 #[.val (.ref j)] [] := by first | (simp [entryFrame, mkF, argsToLocals, Value.category, maxLocals]; done) | rfl
  have pre0 : ∀ t, Steps p.tables e below (s₁.setTop (mkF m 0 #[.val (.ref j)] [])) t → Steps p.tables e below (s₁.setTop (entryFrame m #[(.ref j)] 1)) t := fun t k => castTop ef0 k
  obtain ⟨Ej, Fa, Fi, Fv, Fs, Fl, Fo, AAa, AIi, AIv, AIt, AIu, Eu, Ov⟩ := J
  obtain ⟨njA, njI, njV, njT, nju, nAI, nAV, nAT, nAu, nIV, nIT, nIu, nVT, nVu, nTu⟩ := DJ_
  obtain ⟨gej, geA, geI, geV, geT, geu⟩ := GE_
  obtain ⟨cq165, q165, q165'⟩ := (Ej).cell
  obtain ⟨vv165, _, ⟨T165, L165, k165, n165⟩, -, X165, ⟨Lc165, hQ165, l165, y165, z165⟩, st165⟩ := X0.privateBack hx (y := (⟨"com/example/envyless/envyless/Journal", "close", "()I"⟩ : MethodName)) hown (mvT hZ (hw _ (List.mem_of_getElem? (i := 40) rfl))) (mvT hZ (hw _ (List.mem_of_getElem? (i := 41) rfl))) (own_selects (mvT hZ (hw _ (List.mem_of_getElem? (i := 41) rfl))) (Cond.privateMethod_at (mvP hZ (hw _ (List.mem_of_getElem? (i := 42) rfl)) (args := #[]))) (mvT hZ (hw _ (List.mem_of_getElem? (i := 23) rfl))) rfl (by decide)) (Cond.privateMethod_at (mvP hZ (hw _ (List.mem_of_getElem? (i := 42) rfl)) (args := #[]))) (mvT hZ (hw _ (List.mem_of_getElem? (i := 43) rfl))) (by decide) (backOf (W := 0) (rm_close l Z a0 hw [] j A I V T u kA ln op nT nU fi fv ft fu opE sv h0 n0 Z0 ⟨Ej, Fa, Fi, Fv, Fs, Fl, Fo, AAa, AIi, AIv, AIt, AIu, Eu, Ov⟩ ⟨njA, njI, njV, njT, nju, nAI, nAV, nAT, nAu, nIV, nIT, nIu, nVT, nVu, nTu⟩ ⟨gej, geA, geI, geV, geT, geu⟩ hoE hne ho0 hoT hs) hZ (hw _ (List.mem_of_getElem? (i := 43) rfl)) (hw _ (List.mem_of_getElem? (i := 3) rfl)) (by decide) (by decide)) (g := (mkF m 1 #[.val (.ref j)] [(.ref j)])) rfl (by rw [hml]; rfl) (Steps.refl _) (a := j) (by rw [e0]; exact q165) q165' (argsL := []) (rest := []) (lenOf own_pd_0 rfl) rfl (by show 2 * 0 + _ ≤ _; exact Nat.le_of_eq rfl) (hb hby own_d7_1) (fun _ _ => ⟨rfl, e0, (by decide : 0 + 0 ≤ _), (by decide : 0 + 0 ≤ _)⟩)
  dsimp only [Pt.U, Pt.locs, Pt.cells, Pt.slots] at X165 l165 y165 z165 st165 hQ165
  subst l165 y165 z165
  obtain ⟨rfl, N165q, Z165, Ej165, Fa165, Fi165, Fv165, Fs165, Fl165, Fo165, AAa165, AIi165, AIv165, AIt165, AIu165, Eu165, -⟩ := hQ165
  have N165 := Fr.app N0 N165q
  obtain ⟨T166, X166, e166, st166⟩ := getF X165 hx hZ hown (host := "") (Or.inl (hw _ (List.mem_of_getElem? (i := 25) rfl))) Via.refl (rfl : T165.heap = T165.heap) Fo165 (g := (mkF m 6 #[.val (.ref j)] [(.ref j)])) rfl rfl (hb hby own_d7_6)
  have pre167 : ∀ t, Steps p.tables e below (T166.setTop (mkF m 9 #[.val (.ref j)] [(.int opE)])) t → Steps p.tables e below (s₁.setTop (entryFrame m #[(.ref j)] 1)) t := fun tt kk => pre0 tt (by
    show Steps p.tables e below (s₁.setTop (mkF m 0 #[.val (.ref j)] [])) _
    refine XS.aloadN X0.here hx rfl (hb hby own_d7_0) rfl rfl ?_
    show Steps p.tables e below (s₁.setTop (mkF m 1 #[.val (.ref j)] [(.ref j)])) _
    refine st165.trans ?_
    show Steps p.tables e below (T165.setTop (mkF m 4 #[.val (.ref j)] [(.int sv)])) _
    refine XS.pop X165.here hx rfl (hb hby own_d7_4) rfl rfl ?_
    show Steps p.tables e below (T165.setTop (mkF m 5 #[.val (.ref j)] [])) _
    refine XS.aloadN X165.here hx rfl (hb hby own_d7_5) rfl rfl ?_
    show Steps p.tables e below (T165.setTop (mkF m 6 #[.val (.ref j)] [(.ref j)])) _
    refine st166 _ ?_
    exact kk)
  obtain ⟨fs, hr, hrun, hended, hW, hsame⟩ := X166.leave (v := none) (fun _ => rfl)
  refine ⟨_, _, pre167 _ ?_, hrun, hended, _, _, rfl, ?_, ⟨_, rfl⟩, hW, hsame.mono (by decide) (by decide)⟩
  · show Steps p.tables e below (T166.setTop (mkF m 9 #[.val (.ref j)] [(.int opE)])) _
    refine XS.ifYes X166.here hx rfl (pc0 := 9) (pc' := 17) rfl (hb hby own_d7_9) rfl ((if0 _ _).trans (feq (hk0)).2) (by decide) (by decide) ?_
    show Steps p.tables e below (T166.setTop (mkF m 17 #[.val (.ref j)] [])) _
    exact X166.returnOut hx Bd.returns (hb hby own_d7_17) hr
  · show JQ Z _ j A I V _ u kA _ _ _ _ _ _ _ _ n0 _ T166.heap _
    rw [e166]
    exact ⟨rfl, N165, Z165, Ej165, Fa165, Fi165, Fv165, Fs165, Fl165, Fo165, AAa165, AIi165, AIv165, AIt165, AIu165, Eu165, Ov⟩
theorem own_d5_0 : decode prog_22_method_4_code 0 = .ok (.aload_n 0, 1) := by decide +kernel
theorem own_d5_1 : decode prog_22_method_4_code 1 = .ok (.invokevirtual 41, 3) := by decide +kernel
theorem own_d5_4 : decode prog_22_method_4_code 4 = .ok (.istore_n 1, 1) := by decide +kernel
theorem own_d5_5 : decode prog_22_method_4_code 5 = .ok (.aload_n 0, 1) := by decide +kernel
theorem own_d5_6 : decode prog_22_method_4_code 6 = .ok (.getfield 28, 3) := by decide +kernel
theorem own_d5_9 : decode prog_22_method_4_code 9 = .ok (.iload_n 1, 1) := by decide +kernel
theorem own_d5_10 : decode prog_22_method_4_code 10 = .ok (.if_icmp .le 44, 3) := by decide +kernel
theorem own_d5_13 : decode prog_22_method_4_code 13 = .ok (.aload_n 0, 1) := by decide +kernel
theorem own_d5_14 : decode prog_22_method_4_code 14 = .ok (.dup, 1) := by decide +kernel
theorem own_d5_15 : decode prog_22_method_4_code 15 = .ok (.getfield 28, 3) := by decide +kernel
theorem own_d5_18 : decode prog_22_method_4_code 18 = .ok (.iconst 1, 1) := by decide +kernel
theorem own_d5_19 : decode prog_22_method_4_code 19 = .ok (.isub, 1) := by decide +kernel
theorem own_d5_20 : decode prog_22_method_4_code 20 = .ok (.putfield 28, 3) := by decide +kernel
theorem own_d5_23 : decode prog_22_method_4_code 23 = .ok (.aload_n 0, 1) := by decide +kernel
theorem own_d5_24 : decode prog_22_method_4_code 24 = .ok (.getfield 9, 3) := by decide +kernel
theorem own_d5_27 : decode prog_22_method_4_code 27 = .ok (.aload_n 0, 1) := by decide +kernel
theorem own_d5_28 : decode prog_22_method_4_code 28 = .ok (.getfield 28, 3) := by decide +kernel
theorem own_d5_31 : decode prog_22_method_4_code 31 = .ok (.aaload, 1) := by decide +kernel
theorem own_d5_32 : decode prog_22_method_4_code 32 = .ok (.aload_n 0, 1) := by decide +kernel
theorem own_d5_33 : decode prog_22_method_4_code 33 = .ok (.getfield 15, 3) := by decide +kernel
theorem own_d5_36 : decode prog_22_method_4_code 36 = .ok (.aload_n 0, 1) := by decide +kernel
theorem own_d5_37 : decode prog_22_method_4_code 37 = .ok (.getfield 28, 3) := by decide +kernel
theorem own_d5_40 : decode prog_22_method_4_code 40 = .ok (.iaload, 1) := by decide +kernel
theorem own_d5_41 : decode prog_22_method_4_code 41 = .ok (.aload_n 0, 1) := by decide +kernel
theorem own_d5_42 : decode prog_22_method_4_code 42 = .ok (.getfield 18, 3) := by decide +kernel
theorem own_d5_45 : decode prog_22_method_4_code 45 = .ok (.aload_n 0, 1) := by decide +kernel
theorem own_d5_46 : decode prog_22_method_4_code 46 = .ok (.getfield 28, 3) := by decide +kernel
theorem own_d5_49 : decode prog_22_method_4_code 49 = .ok (.iaload, 1) := by decide +kernel
theorem own_d5_50 : decode prog_22_method_4_code 50 = .ok (.iastore, 1) := by decide +kernel
theorem own_d5_51 : decode prog_22_method_4_code 51 = .ok (.goto (-46), 3) := by decide +kernel
theorem own_d5_54 : decode prog_22_method_4_code 54 = .ok (.return_, 1) := by decide +kernel
set_option maxRecDepth 65536 in
set_option maxHeartbeats 40000000 in
theorem rm_undo1 (l : Launch) (Z : State) (a0 : Array Value) (hw : ∀ d ∈ tables_1, d.before a0 Z = true) (ws : List Jvm.Cond) (j A I V T u : Addr) (kA : ClassId) (ln op nT nU : Int32) (fi fv ft fu : Int32 → Int32) (opE sv lnE : Int32) (d0 v0 : Int32) (h0 : Heap) (n0 : Nat) (Z0 : n0 ≤ h0.size) (J : JS Z h0 j A I V T u kA ln op nT nU fi fv ft fu) (DJ_ : DJ j A I V T u) (GE_ : GE n0 j A I V T u) (hoE : opE = op - 1) (hne : ¬ op = 0) (ho0 : ¬ opE < 0) (hoT : opE < nT) (hs : ft opE = sv) (hlE : lnE = (ln - (1 : Int32))) (hle : ∀ i : Int32, i < lnE → i < ln) (hgo0 : sv < ln) (hb0 : ¬ (ln - (1 : Int32)) < 0) (hB0 : (ln - (1 : Int32)) < 64) (hm0 : (ln - (1 : Int32)) < ln) (hd0 : fi (ln - (1 : Int32)) = d0) (hv0 : fv (ln - (1 : Int32)) = v0) (hd0_0 : ¬ d0 < 0) (hdU_0 : d0 < nU) (hend : ¬ sv < (ln - (1 : Int32))) :
    MetFree l (⟨"com/example/envyless/envyless/Journal", "undo", "()V"⟩ : MethodName) (head1 (Jvm.Cond.code (⟨"com/example/envyless/envyless/Journal", "undo", "()V"⟩ : MethodName) prog_22_method_4_code 2 none :: ws) ({ frames := 1, cells := 0, slots := 0, locals := 12 } : Room)) (fun a U => a = #[(.ref j)] ∧ Z.Warmed39 U.vm ∧ U.heap = h0) (fun _ _ _ _ _ => True) (fun _ U o U' => ∃ v L, o = .returned v ∧ JQ Z none j A I V T u kA lnE opE nT nU fi fv ft (up fu d0 v0) n0 v U'.heap L ∧ FrameEnd U o U' L ({ frames := 1, cells := 0, slots := 0, locals := 12 } : Room).cells ({ frames := 1, cells := 0, slots := 0, locals := 12 } : Room).slots) := by
  refine MetFree.of_bodySF (plainFor_of_name (by first | (simp [plainName, overriddenIn]; done) | decide +kernel)) hisR ?_
  intro p e s m args below meth c s₁ Bd hml0 hP hK
  obtain ⟨rfl, hZ, hh⟩ := hP
  have hx := Bd.exec
  have hby := Bd.bytes
  have hml : c.maxLocals = 2 := hml0
  have hown : s.vm.findClass "com/example/envyless/envyless/Journal" = some m.cls := findClass_of_methodNamed Bd.named
  have hnm := (name_of_methodNamed Bd.named Bd.method).1
  have X0 : Stand p l e ({ frames := 1, cells := 0, slots := 0, locals := 12 } : Room) s m #[(.ref j)] below meth c s₁ [] 0 0 := Stand.of_body Bd
  have e0 : s₁.heap = h0 := by rw [← hh, Bd.state]; rfl
  have N0 := Fr.nil n0
  have ef0 : entryFrame m #[(.ref j)] 2 = mkF m 0 #[.val (.ref j), .unset] [] := by first | (simp [entryFrame, mkF, argsToLocals, Value.category, maxLocals]; done) | rfl
  have pre0 : ∀ t, Steps p.tables e below (s₁.setTop (mkF m 0 #[.val (.ref j), .unset] [])) t → Steps p.tables e below (s₁.setTop (entryFrame m #[(.ref j)] 2)) t := fun t k => castTop ef0 k
  obtain ⟨Ej, Fa, Fi, Fv, Fs, Fl, Fo, AAa, AIi, AIv, AIt, AIu, Eu, Ov⟩ := J
  obtain ⟨njA, njI, njV, njT, nju, nAI, nAV, nAT, nAu, nIV, nIT, nIu, nVT, nVu, nTu⟩ := DJ_
  obtain ⟨gej, geA, geI, geV, geT, geu⟩ := GE_
  subst hlE
  obtain ⟨cq168, q168, q168'⟩ := (Ej).cell
  obtain ⟨vv168, _, ⟨T168, L168, k168, n168⟩, -, X168, ⟨Lc168, hQ168, l168, y168, z168⟩, st168⟩ := X0.privateBack hx (y := (⟨"com/example/envyless/envyless/Journal", "close", "()I"⟩ : MethodName)) hown (mvT hZ (hw _ (List.mem_of_getElem? (i := 40) rfl))) (mvT hZ (hw _ (List.mem_of_getElem? (i := 41) rfl))) (own_selects (mvT hZ (hw _ (List.mem_of_getElem? (i := 41) rfl))) (Cond.privateMethod_at (mvP hZ (hw _ (List.mem_of_getElem? (i := 42) rfl)) (args := #[]))) (mvT hZ (hw _ (List.mem_of_getElem? (i := 23) rfl))) rfl (by decide)) (Cond.privateMethod_at (mvP hZ (hw _ (List.mem_of_getElem? (i := 42) rfl)) (args := #[]))) (mvT hZ (hw _ (List.mem_of_getElem? (i := 43) rfl))) (by decide) (backOf (W := 0) (rm_close l Z a0 hw [] j A I V T u kA ln op nT nU fi fv ft fu opE sv h0 n0 Z0 ⟨Ej, Fa, Fi, Fv, Fs, Fl, Fo, AAa, AIi, AIv, AIt, AIu, Eu, Ov⟩ ⟨njA, njI, njV, njT, nju, nAI, nAV, nAT, nAu, nIV, nIT, nIu, nVT, nVu, nTu⟩ ⟨gej, geA, geI, geV, geT, geu⟩ hoE hne ho0 hoT hs) hZ (hw _ (List.mem_of_getElem? (i := 43) rfl)) (hw _ (List.mem_of_getElem? (i := 3) rfl)) (by decide) (by decide)) (g := (mkF m 1 #[.val (.ref j), .unset] [(.ref j)])) rfl (by rw [hml]; rfl) (Steps.refl _) (a := j) (by rw [e0]; exact q168) q168' (argsL := []) (rest := []) (lenOf own_pd_0 rfl) rfl (by show 2 * 0 + _ ≤ _; exact Nat.le_of_eq rfl) (hb hby own_d5_1) (fun _ _ => ⟨rfl, e0, (by decide : 0 + 0 ≤ _), (by decide : 0 + 0 ≤ _)⟩)
  dsimp only [Pt.U, Pt.locs, Pt.cells, Pt.slots] at X168 l168 y168 z168 st168 hQ168
  subst l168 y168 z168
  obtain ⟨rfl, N168q, Z168, Ej168, Fa168, Fi168, Fv168, Fs168, Fl168, Fo168, AAa168, AIi168, AIv168, AIt168, AIu168, Eu168, -⟩ := hQ168
  have N168 := Fr.app N0 N168q
  obtain ⟨T169, X169, e169, st169⟩ := getF X168 hx hZ hown (host := "") (Or.inl (hw _ (List.mem_of_getElem? (i := 32) rfl))) Via.refl (rfl : T168.heap = T168.heap) Fl168 (g := (mkF m 6 #[.val (.ref j), .val (.int sv)] [(.ref j)])) rfl rfl (hb hby own_d5_6)
  have pre170 : ∀ t, Steps p.tables e below (T169.setTop (mkF m 10 #[.val (.ref j), .val (.int sv)] [(.int sv), (.int ln)])) t → Steps p.tables e below (s₁.setTop (entryFrame m #[(.ref j)] 2)) t := fun tt kk => pre0 tt (by
    show Steps p.tables e below (s₁.setTop (mkF m 0 #[.val (.ref j), .unset] [])) _
    refine XS.aloadN X0.here hx rfl (hb hby own_d5_0) rfl rfl ?_
    show Steps p.tables e below (s₁.setTop (mkF m 1 #[.val (.ref j), .unset] [(.ref j)])) _
    refine st168.trans ?_
    show Steps p.tables e below (T168.setTop (mkF m 4 #[.val (.ref j), .unset] [(.int sv)])) _
    refine XS.istoreN X168.here hx rfl (hb hby own_d5_4) rfl (l' := #[.val (.ref j), .val (.int sv)]) rfl ?_
    show Steps p.tables e below (T168.setTop (mkF m 5 #[.val (.ref j), .val (.int sv)] [])) _
    refine XS.aloadN X168.here hx rfl (hb hby own_d5_5) rfl rfl ?_
    show Steps p.tables e below (T168.setTop (mkF m 6 #[.val (.ref j), .val (.int sv)] [(.ref j)])) _
    refine st169 _ ?_
    show Steps p.tables e below (T169.setTop (mkF m 9 #[.val (.ref j), .val (.int sv)] [(.int ln)])) _
    refine XS.iloadN X169.here hx rfl (hb hby own_d5_9) rfl ?_
    exact kk)
  obtain ⟨T171, X171, e171, st171⟩ := getF X169 hx hZ hown (host := "") (Or.inl (hw _ (List.mem_of_getElem? (i := 32) rfl))) Via.refl e169 Fl168 (g := (mkF m 15 #[.val (.ref j), .val (.int sv)] [(.ref j), (.ref j)])) rfl rfl (hb hby own_d5_15)
  obtain ⟨T172, h172, X172, e172, W172, st172⟩ := putF X171 hx hZ hown (host := "") (Or.inl (hw _ (List.mem_of_getElem? (i := 32) rfl))) Via.refl e171 Fl168 Ej168 (Or.inl (hw _ (List.mem_of_getElem? (i := 33) rfl))) (hw _ (List.mem_of_getElem? (i := 2) rfl)) (ty := .int) (by decide) rfl rfl (g := (mkF m 20 #[.val (.ref j), .val (.int sv)] [(.int (ln - (1 : Int32))), (.ref j)])) rfl rfl (hb hby own_d5_20)
  have N172 := Fr.snoc X172 N168 gej
  have f173 : Exa Z h172 j "com/example/envyless/envyless/Journal" := Ej168.wr W172
  have f174 : Exa Z h172 u "[I" := Eu168.wr W172
  have f175 : Fld Z h172 j "com/example/envyless/envyless/Journal" "arrays" "[[I" (.ref A) := Fa168.other W172 (Or.inr (slot_ne (Or.inl (hw _ (List.mem_of_getElem? (i := 13) rfl))) (Or.inl (hw _ (List.mem_of_getElem? (i := 33) rfl))) (by decide) (t := (.array (.array .int))) (t' := .int) (by decide) (by decide)))
  have f176 : Fld Z h172 j "com/example/envyless/envyless/Journal" "indexes" "[I" (.ref I) := Fi168.other W172 (Or.inr (slot_ne (Or.inl (hw _ (List.mem_of_getElem? (i := 15) rfl))) (Or.inl (hw _ (List.mem_of_getElem? (i := 33) rfl))) (by decide) (t := (.array .int)) (t' := .int) (by decide) (by decide)))
  have f177 : Fld Z h172 j "com/example/envyless/envyless/Journal" "values" "[I" (.ref V) := Fv168.other W172 (Or.inr (slot_ne (Or.inl (hw _ (List.mem_of_getElem? (i := 17) rfl))) (Or.inl (hw _ (List.mem_of_getElem? (i := 33) rfl))) (by decide) (t := (.array .int)) (t' := .int) (by decide) (by decide)))
  have f178 : Fld Z h172 j "com/example/envyless/envyless/Journal" "starts" "[I" (.ref T) := Fs168.other W172 (Or.inr (slot_ne (Or.inl (hw _ (List.mem_of_getElem? (i := 19) rfl))) (Or.inl (hw _ (List.mem_of_getElem? (i := 33) rfl))) (by decide) (t := (.array .int)) (t' := .int) (by decide) (by decide)))
  have f179 : Fld Z h172 j "com/example/envyless/envyless/Journal" "length" "I" (.int (ln - (1 : Int32))) := Fl168.same W172
  have f180 : Fld Z h172 j "com/example/envyless/envyless/Journal" "open" "I" (.int opE) := Fo168.other W172 (Or.inr (slot_ne (Or.inl (hw _ (List.mem_of_getElem? (i := 26) rfl))) (Or.inl (hw _ (List.mem_of_getElem? (i := 33) rfl))) (by decide) (t := .int) (t' := .int) (by decide) (by decide)))
  have f181 : AA Z h172 A kA 64 ln u := AAa168.other W172 (Ne.symm njA)
  have f182 : AI Z h172 I (64 : Int32) fi := AIi168.other W172 (Ne.symm njI)
  have f183 : AI Z h172 V (64 : Int32) fv := AIv168.other W172 (Ne.symm njV)
  have f184 : AI Z h172 T nT ft := AIt168.other W172 (Ne.symm njT)
  have f185 : AI Z h172 u nU fu := AIu168.other W172 (Ne.symm nju)
  have f186 : n0 ≤ h172.size := Nat.le_trans Z168 (Keep.of_wr W172).1
  obtain ⟨T187, X187, e187, st187⟩ := getF X172 hx hZ hown (host := "") (Or.inl (hw _ (List.mem_of_getElem? (i := 12) rfl))) Via.refl e172 f175 (g := (mkF m 24 #[.val (.ref j), .val (.int sv)] [(.ref j)])) rfl rfl (hb hby own_d5_24)
  obtain ⟨T188, X188, e188, st188⟩ := getF X187 hx hZ hown (host := "") (Or.inl (hw _ (List.mem_of_getElem? (i := 32) rfl))) Via.refl e187 f179 (g := (mkF m 28 #[.val (.ref j), .val (.int sv)] [(.ref j), (.ref A)])) rfl rfl (hb hby own_d5_28)
  obtain ⟨cl189, Ar189, -, S189, M189, H189⟩ := id f181
  obtain ⟨T190, X190, e190, st190⟩ := getF X188 hx hZ hown (host := "") (Or.inl (hw _ (List.mem_of_getElem? (i := 14) rfl))) Via.refl e188 f176 (g := (mkF m 33 #[.val (.ref j), .val (.int sv)] [(.ref j), (.ref u)])) rfl rfl (hb hby own_d5_33)
  obtain ⟨T191, X191, e191, st191⟩ := getF X190 hx hZ hown (host := "") (Or.inl (hw _ (List.mem_of_getElem? (i := 32) rfl))) Via.refl e190 f179 (g := (mkF m 37 #[.val (.ref j), .val (.int sv)] [(.ref j), (.ref I), (.ref u)])) rfl rfl (hb hby own_d5_37)
  obtain ⟨cl192, Ar192, S192, M192, H192⟩ := id f182
  have pre193 : ∀ t, Steps p.tables e below (T191.setTop (mkF m 41 #[.val (.ref j), .val (.int sv)] [(.int (fi (ln - (1 : Int32)))), (.ref u)])) t → Steps p.tables e below (s₁.setTop (entryFrame m #[(.ref j)] 2)) t := fun tt kk => pre170 tt (by
    show Steps p.tables e below (T169.setTop (mkF m 10 #[.val (.ref j), .val (.int sv)] [(.int sv), (.int ln)])) _
    refine XS.icmpNo X169.here hx rfl (hb hby own_d5_10) rfl (tlt (hgo0)).2.2.2 ?_
    show Steps p.tables e below (T169.setTop (mkF m 13 #[.val (.ref j), .val (.int sv)] [])) _
    refine XS.aloadN X169.here hx rfl (hb hby own_d5_13) rfl rfl ?_
    show Steps p.tables e below (T169.setTop (mkF m 14 #[.val (.ref j), .val (.int sv)] [(.ref j)])) _
    refine XS.dup X169.here hx rfl (hb hby own_d5_14) rfl rfl ?_
    show Steps p.tables e below (T169.setTop (mkF m 15 #[.val (.ref j), .val (.int sv)] [(.ref j), (.ref j)])) _
    refine st171 _ ?_
    show Steps p.tables e below (T171.setTop (mkF m 18 #[.val (.ref j), .val (.int sv)] [(.int ln), (.ref j)])) _
    refine XS.iconst X171.here hx rfl (hb hby own_d5_18) ?_
    show Steps p.tables e below (T171.setTop (mkF m 19 #[.val (.ref j), .val (.int sv)] [(.int (1 : Int32)), (.int ln), (.ref j)])) _
    refine XS.isub X171.here hx rfl (hb hby own_d5_19) rfl ?_
    show Steps p.tables e below (T171.setTop (mkF m 20 #[.val (.ref j), .val (.int sv)] [(.int (ln - (1 : Int32))), (.ref j)])) _
    refine st172 _ ?_
    show Steps p.tables e below (T172.setTop (mkF m 23 #[.val (.ref j), .val (.int sv)] [])) _
    refine XS.aloadN X172.here hx rfl (hb hby own_d5_23) rfl rfl ?_
    show Steps p.tables e below (T172.setTop (mkF m 24 #[.val (.ref j), .val (.int sv)] [(.ref j)])) _
    refine st187 _ ?_
    show Steps p.tables e below (T187.setTop (mkF m 27 #[.val (.ref j), .val (.int sv)] [(.ref A)])) _
    refine XS.aloadN X187.here hx rfl (hb hby own_d5_27) rfl rfl ?_
    show Steps p.tables e below (T187.setTop (mkF m 28 #[.val (.ref j), .val (.int sv)] [(.ref j), (.ref A)])) _
    refine st188 _ ?_
    show Steps p.tables e below (T188.setTop (mkF m 31 #[.val (.ref j), .val (.int sv)] [(.int (ln - (1 : Int32))), (.ref A)])) _
    refine X188.aaload hx (j := (ln - (1 : Int32))) (v := (.ref u)) (by rw [e188]; exact Ar189.1) (State.isArrayOf_alike hZ.alike Ar189.2.1) rfl Ar189.2.2 (inb_of S189 ⟨hb0, hB0⟩) (H189 _ hb0 hm0) (g := (mkF m 31 #[.val (.ref j), .val (.int sv)] [(.int (ln - (1 : Int32))), (.ref A)])) rfl rfl (hb hby own_d5_31) _ ?_
    show Steps p.tables e below (T188.setTop (mkF m 32 #[.val (.ref j), .val (.int sv)] [(.ref u)])) _
    refine XS.aloadN X188.here hx rfl (hb hby own_d5_32) rfl rfl ?_
    show Steps p.tables e below (T188.setTop (mkF m 33 #[.val (.ref j), .val (.int sv)] [(.ref j), (.ref u)])) _
    refine st190 _ ?_
    show Steps p.tables e below (T190.setTop (mkF m 36 #[.val (.ref j), .val (.int sv)] [(.ref I), (.ref u)])) _
    refine XS.aloadN X190.here hx rfl (hb hby own_d5_36) rfl rfl ?_
    show Steps p.tables e below (T190.setTop (mkF m 37 #[.val (.ref j), .val (.int sv)] [(.ref j), (.ref I), (.ref u)])) _
    refine st191 _ ?_
    show Steps p.tables e below (T191.setTop (mkF m 40 #[.val (.ref j), .val (.int sv)] [(.int (ln - (1 : Int32))), (.ref I), (.ref u)])) _
    refine X191.iaload hx (j := (ln - (1 : Int32))) (v := (.int (fi (ln - (1 : Int32))))) (by rw [e191]; exact Ar192.1) (State.isArrayOf_alike hZ.alike Ar192.2.1) Ar192.2.2 (inb_of S192 ⟨hb0, hB0⟩) (H192 _ hb0 hB0) (g := (mkF m 40 #[.val (.ref j), .val (.int sv)] [(.int (ln - (1 : Int32))), (.ref I), (.ref u)])) rfl rfl (hb hby own_d5_40) _ ?_
    exact kk)
  rw [hd0] at pre193
  obtain ⟨T194, X194, e194, st194⟩ := getF X191 hx hZ hown (host := "") (Or.inl (hw _ (List.mem_of_getElem? (i := 16) rfl))) Via.refl e191 f177 (g := (mkF m 42 #[.val (.ref j), .val (.int sv)] [(.ref j), (.int d0), (.ref u)])) rfl rfl (hb hby own_d5_42)
  obtain ⟨T195, X195, e195, st195⟩ := getF X194 hx hZ hown (host := "") (Or.inl (hw _ (List.mem_of_getElem? (i := 32) rfl))) Via.refl e194 f179 (g := (mkF m 46 #[.val (.ref j), .val (.int sv)] [(.ref j), (.ref V), (.int d0), (.ref u)])) rfl rfl (hb hby own_d5_46)
  obtain ⟨cl196, Ar196, S196, M196, H196⟩ := id f183
  have pre197 : ∀ t, Steps p.tables e below (T195.setTop (mkF m 50 #[.val (.ref j), .val (.int sv)] [(.int (fv (ln - (1 : Int32)))), (.int d0), (.ref u)])) t → Steps p.tables e below (s₁.setTop (entryFrame m #[(.ref j)] 2)) t := fun tt kk => pre193 tt (by
    show Steps p.tables e below (T191.setTop (mkF m 41 #[.val (.ref j), .val (.int sv)] [(.int d0), (.ref u)])) _
    refine XS.aloadN X191.here hx rfl (hb hby own_d5_41) rfl rfl ?_
    show Steps p.tables e below (T191.setTop (mkF m 42 #[.val (.ref j), .val (.int sv)] [(.ref j), (.int d0), (.ref u)])) _
    refine st194 _ ?_
    show Steps p.tables e below (T194.setTop (mkF m 45 #[.val (.ref j), .val (.int sv)] [(.ref V), (.int d0), (.ref u)])) _
    refine XS.aloadN X194.here hx rfl (hb hby own_d5_45) rfl rfl ?_
    show Steps p.tables e below (T194.setTop (mkF m 46 #[.val (.ref j), .val (.int sv)] [(.ref j), (.ref V), (.int d0), (.ref u)])) _
    refine st195 _ ?_
    show Steps p.tables e below (T195.setTop (mkF m 49 #[.val (.ref j), .val (.int sv)] [(.int (ln - (1 : Int32))), (.ref V), (.int d0), (.ref u)])) _
    refine X195.iaload hx (j := (ln - (1 : Int32))) (v := (.int (fv (ln - (1 : Int32))))) (by rw [e195]; exact Ar196.1) (State.isArrayOf_alike hZ.alike Ar196.2.1) Ar196.2.2 (inb_of S196 ⟨hb0, hB0⟩) (H196 _ hb0 hB0) (g := (mkF m 49 #[.val (.ref j), .val (.int sv)] [(.int (ln - (1 : Int32))), (.ref V), (.int d0), (.ref u)])) rfl rfl (hb hby own_d5_49) _ ?_
    exact kk)
  rw [hv0] at pre197
  obtain ⟨cl198, Ar198, S198, -, -⟩ := id f185
  obtain ⟨T199, h199, X199, e199, W199, st199⟩ := stI X195 hx hZ e195 Ar198 (j := d0) (inb_of S198 ⟨hd0_0, hdU_0⟩) (g := (mkF m 50 #[.val (.ref j), .val (.int sv)] [(.int v0), (.int d0), (.ref u)])) rfl rfl (hb hby own_d5_50)
  have N199 := Fr.snoc X199 N172 geu
  have f200 : Exa Z h199 j "com/example/envyless/envyless/Journal" := f173.wr W199
  have f201 : Exa Z h199 u "[I" := f174.wr W199
  have f202 : Fld Z h199 j "com/example/envyless/envyless/Journal" "arrays" "[[I" (.ref A) := f175.other W199 (Or.inl nju)
  have f203 : Fld Z h199 j "com/example/envyless/envyless/Journal" "indexes" "[I" (.ref I) := f176.other W199 (Or.inl nju)
  have f204 : Fld Z h199 j "com/example/envyless/envyless/Journal" "values" "[I" (.ref V) := f177.other W199 (Or.inl nju)
  have f205 : Fld Z h199 j "com/example/envyless/envyless/Journal" "starts" "[I" (.ref T) := f178.other W199 (Or.inl nju)
  have f206 : Fld Z h199 j "com/example/envyless/envyless/Journal" "length" "I" (.int (ln - (1 : Int32))) := f179.other W199 (Or.inl nju)
  have f207 : Fld Z h199 j "com/example/envyless/envyless/Journal" "open" "I" (.int opE) := f180.other W199 (Or.inl nju)
  have f208 : AA Z h199 A kA 64 ln u := f181.other W199 nAu
  have f209 : AI Z h199 I (64 : Int32) fi := f182.other W199 nIu
  have f210 : AI Z h199 V (64 : Int32) fv := f183.other W199 nVu
  have f211 : AI Z h199 T nT ft := f184.other W199 nTu
  have f212 : n0 ≤ h199.size := Nat.le_trans f186 (Keep.of_wr W199).1
  have V199 : AI Z h199 u nU (up fu d0 v0) := f185.set W199 hd0_0 hdU_0
  obtain ⟨T213, X213, e213, st213⟩ := getF X199 hx hZ hown (host := "") (Or.inl (hw _ (List.mem_of_getElem? (i := 32) rfl))) Via.refl e199 f206 (g := (mkF m 6 #[.val (.ref j), .val (.int sv)] [(.ref j)])) rfl rfl (hb hby own_d5_6)
  have pre214 : ∀ t, Steps p.tables e below (T213.setTop (mkF m 10 #[.val (.ref j), .val (.int sv)] [(.int sv), (.int (ln - (1 : Int32)))])) t → Steps p.tables e below (s₁.setTop (entryFrame m #[(.ref j)] 2)) t := fun tt kk => pre197 tt (by
    show Steps p.tables e below (T195.setTop (mkF m 50 #[.val (.ref j), .val (.int sv)] [(.int v0), (.int d0), (.ref u)])) _
    refine st199 _ ?_
    show Steps p.tables e below (T199.setTop (mkF m 51 #[.val (.ref j), .val (.int sv)] [])) _
    refine XS.goto X199.here hx rfl (pc0 := 51) (pc' := 5) rfl (hb hby own_d5_51) (by decide) (by decide) ?_
    show Steps p.tables e below (T199.setTop (mkF m 5 #[.val (.ref j), .val (.int sv)] [])) _
    refine XS.aloadN X199.here hx rfl (hb hby own_d5_5) rfl rfl ?_
    show Steps p.tables e below (T199.setTop (mkF m 6 #[.val (.ref j), .val (.int sv)] [(.ref j)])) _
    refine st213 _ ?_
    show Steps p.tables e below (T213.setTop (mkF m 9 #[.val (.ref j), .val (.int sv)] [(.int (ln - (1 : Int32)))])) _
    refine XS.iloadN X213.here hx rfl (hb hby own_d5_9) rfl ?_
    exact kk)
  obtain ⟨fs, hr, hrun, hended, hW, hsame⟩ := X213.leave (v := none) (fun _ => rfl)
  refine ⟨_, _, pre214 _ ?_, hrun, hended, _, _, rfl, ?_, ⟨_, rfl⟩, hW, hsame.mono (by decide) (by decide)⟩
  · show Steps p.tables e below (T213.setTop (mkF m 10 #[.val (.ref j), .val (.int sv)] [(.int sv), (.int (ln - (1 : Int32)))])) _
    refine XS.icmpYes X213.here hx rfl (pc0 := 10) (pc' := 54) rfl (hb hby own_d5_10) rfl (flt (hend)).2.2.2 (by decide) (by decide) ?_
    show Steps p.tables e below (T213.setTop (mkF m 54 #[.val (.ref j), .val (.int sv)] [])) _
    exact X213.returnOut hx Bd.returns (hb hby own_d5_54) hr
  · show JQ Z _ j A I V _ u kA _ _ _ _ _ _ _ _ n0 _ T213.heap _
    rw [e213]
    exact ⟨rfl, N199, f212, f200, f202, f203, f204, f205, f206, f207, f208.le hle, f209, f210, f211, V199, f201, Ov⟩
set_option maxRecDepth 65536 in
set_option maxHeartbeats 40000000 in
theorem rm_undo2 (l : Launch) (Z : State) (a0 : Array Value) (hw : ∀ d ∈ tables_1, d.before a0 Z = true) (ws : List Jvm.Cond) (j A I V T u : Addr) (kA : ClassId) (ln op nT nU : Int32) (fi fv ft fu : Int32 → Int32) (opE sv lnE : Int32) (d0 v0 : Int32) (d1 v1 : Int32) (h0 : Heap) (n0 : Nat) (Z0 : n0 ≤ h0.size) (J : JS Z h0 j A I V T u kA ln op nT nU fi fv ft fu) (DJ_ : DJ j A I V T u) (GE_ : GE n0 j A I V T u) (hoE : opE = op - 1) (hne : ¬ op = 0) (ho0 : ¬ opE < 0) (hoT : opE < nT) (hs : ft opE = sv) (hlE : lnE = ((ln - (1 : Int32)) - (1 : Int32))) (hle : ∀ i : Int32, i < lnE → i < ln) (hgo0 : sv < ln) (hb0 : ¬ (ln - (1 : Int32)) < 0) (hB0 : (ln - (1 : Int32)) < 64) (hm0 : (ln - (1 : Int32)) < ln) (hd0 : fi (ln - (1 : Int32)) = d0) (hv0 : fv (ln - (1 : Int32)) = v0) (hd0_0 : ¬ d0 < 0) (hdU_0 : d0 < nU) (hgo1 : sv < (ln - (1 : Int32))) (hb1 : ¬ ((ln - (1 : Int32)) - (1 : Int32)) < 0) (hB1 : ((ln - (1 : Int32)) - (1 : Int32)) < 64) (hm1 : ((ln - (1 : Int32)) - (1 : Int32)) < ln) (hd1 : fi ((ln - (1 : Int32)) - (1 : Int32)) = d1) (hv1 : fv ((ln - (1 : Int32)) - (1 : Int32)) = v1) (hd0_1 : ¬ d1 < 0) (hdU_1 : d1 < nU) (hend : ¬ sv < ((ln - (1 : Int32)) - (1 : Int32))) :
    MetFree l (⟨"com/example/envyless/envyless/Journal", "undo", "()V"⟩ : MethodName) (head1 (Jvm.Cond.code (⟨"com/example/envyless/envyless/Journal", "undo", "()V"⟩ : MethodName) prog_22_method_4_code 2 none :: ws) ({ frames := 1, cells := 0, slots := 0, locals := 12 } : Room)) (fun a U => a = #[(.ref j)] ∧ Z.Warmed39 U.vm ∧ U.heap = h0) (fun _ _ _ _ _ => True) (fun _ U o U' => ∃ v L, o = .returned v ∧ JQ Z none j A I V T u kA lnE opE nT nU fi fv ft (up (up fu d0 v0) d1 v1) n0 v U'.heap L ∧ FrameEnd U o U' L ({ frames := 1, cells := 0, slots := 0, locals := 12 } : Room).cells ({ frames := 1, cells := 0, slots := 0, locals := 12 } : Room).slots) := by
  refine MetFree.of_bodySF (plainFor_of_name (by first | (simp [plainName, overriddenIn]; done) | decide +kernel)) hisR ?_
  intro p e s m args below meth c s₁ Bd hml0 hP hK
  obtain ⟨rfl, hZ, hh⟩ := hP
  have hx := Bd.exec
  have hby := Bd.bytes
  have hml : c.maxLocals = 2 := hml0
  have hown : s.vm.findClass "com/example/envyless/envyless/Journal" = some m.cls := findClass_of_methodNamed Bd.named
  have hnm := (name_of_methodNamed Bd.named Bd.method).1
  have X0 : Stand p l e ({ frames := 1, cells := 0, slots := 0, locals := 12 } : Room) s m #[(.ref j)] below meth c s₁ [] 0 0 := Stand.of_body Bd
  have e0 : s₁.heap = h0 := by rw [← hh, Bd.state]; rfl
  have N0 := Fr.nil n0
  have ef0 : entryFrame m #[(.ref j)] 2 = mkF m 0 #[.val (.ref j), .unset] [] := by first | (simp [entryFrame, mkF, argsToLocals, Value.category, maxLocals]; done) | rfl
  have pre0 : ∀ t, Steps p.tables e below (s₁.setTop (mkF m 0 #[.val (.ref j), .unset] [])) t → Steps p.tables e below (s₁.setTop (entryFrame m #[(.ref j)] 2)) t := fun t k => castTop ef0 k
  obtain ⟨Ej, Fa, Fi, Fv, Fs, Fl, Fo, AAa, AIi, AIv, AIt, AIu, Eu, Ov⟩ := J
  obtain ⟨njA, njI, njV, njT, nju, nAI, nAV, nAT, nAu, nIV, nIT, nIu, nVT, nVu, nTu⟩ := DJ_
  obtain ⟨gej, geA, geI, geV, geT, geu⟩ := GE_
  subst hlE
  obtain ⟨cq215, q215, q215'⟩ := (Ej).cell
  obtain ⟨vv215, _, ⟨T215, L215, k215, n215⟩, -, X215, ⟨Lc215, hQ215, l215, y215, z215⟩, st215⟩ := X0.privateBack hx (y := (⟨"com/example/envyless/envyless/Journal", "close", "()I"⟩ : MethodName)) hown (mvT hZ (hw _ (List.mem_of_getElem? (i := 40) rfl))) (mvT hZ (hw _ (List.mem_of_getElem? (i := 41) rfl))) (own_selects (mvT hZ (hw _ (List.mem_of_getElem? (i := 41) rfl))) (Cond.privateMethod_at (mvP hZ (hw _ (List.mem_of_getElem? (i := 42) rfl)) (args := #[]))) (mvT hZ (hw _ (List.mem_of_getElem? (i := 23) rfl))) rfl (by decide)) (Cond.privateMethod_at (mvP hZ (hw _ (List.mem_of_getElem? (i := 42) rfl)) (args := #[]))) (mvT hZ (hw _ (List.mem_of_getElem? (i := 43) rfl))) (by decide) (backOf (W := 0) (rm_close l Z a0 hw [] j A I V T u kA ln op nT nU fi fv ft fu opE sv h0 n0 Z0 ⟨Ej, Fa, Fi, Fv, Fs, Fl, Fo, AAa, AIi, AIv, AIt, AIu, Eu, Ov⟩ ⟨njA, njI, njV, njT, nju, nAI, nAV, nAT, nAu, nIV, nIT, nIu, nVT, nVu, nTu⟩ ⟨gej, geA, geI, geV, geT, geu⟩ hoE hne ho0 hoT hs) hZ (hw _ (List.mem_of_getElem? (i := 43) rfl)) (hw _ (List.mem_of_getElem? (i := 3) rfl)) (by decide) (by decide)) (g := (mkF m 1 #[.val (.ref j), .unset] [(.ref j)])) rfl (by rw [hml]; rfl) (Steps.refl _) (a := j) (by rw [e0]; exact q215) q215' (argsL := []) (rest := []) (lenOf own_pd_0 rfl) rfl (by show 2 * 0 + _ ≤ _; exact Nat.le_of_eq rfl) (hb hby own_d5_1) (fun _ _ => ⟨rfl, e0, (by decide : 0 + 0 ≤ _), (by decide : 0 + 0 ≤ _)⟩)
  dsimp only [Pt.U, Pt.locs, Pt.cells, Pt.slots] at X215 l215 y215 z215 st215 hQ215
  subst l215 y215 z215
  obtain ⟨rfl, N215q, Z215, Ej215, Fa215, Fi215, Fv215, Fs215, Fl215, Fo215, AAa215, AIi215, AIv215, AIt215, AIu215, Eu215, -⟩ := hQ215
  have N215 := Fr.app N0 N215q
  obtain ⟨T216, X216, e216, st216⟩ := getF X215 hx hZ hown (host := "") (Or.inl (hw _ (List.mem_of_getElem? (i := 32) rfl))) Via.refl (rfl : T215.heap = T215.heap) Fl215 (g := (mkF m 6 #[.val (.ref j), .val (.int sv)] [(.ref j)])) rfl rfl (hb hby own_d5_6)
  have pre217 : ∀ t, Steps p.tables e below (T216.setTop (mkF m 10 #[.val (.ref j), .val (.int sv)] [(.int sv), (.int ln)])) t → Steps p.tables e below (s₁.setTop (entryFrame m #[(.ref j)] 2)) t := fun tt kk => pre0 tt (by
    show Steps p.tables e below (s₁.setTop (mkF m 0 #[.val (.ref j), .unset] [])) _
    refine XS.aloadN X0.here hx rfl (hb hby own_d5_0) rfl rfl ?_
    show Steps p.tables e below (s₁.setTop (mkF m 1 #[.val (.ref j), .unset] [(.ref j)])) _
    refine st215.trans ?_
    show Steps p.tables e below (T215.setTop (mkF m 4 #[.val (.ref j), .unset] [(.int sv)])) _
    refine XS.istoreN X215.here hx rfl (hb hby own_d5_4) rfl (l' := #[.val (.ref j), .val (.int sv)]) rfl ?_
    show Steps p.tables e below (T215.setTop (mkF m 5 #[.val (.ref j), .val (.int sv)] [])) _
    refine XS.aloadN X215.here hx rfl (hb hby own_d5_5) rfl rfl ?_
    show Steps p.tables e below (T215.setTop (mkF m 6 #[.val (.ref j), .val (.int sv)] [(.ref j)])) _
    refine st216 _ ?_
    show Steps p.tables e below (T216.setTop (mkF m 9 #[.val (.ref j), .val (.int sv)] [(.int ln)])) _
    refine XS.iloadN X216.here hx rfl (hb hby own_d5_9) rfl ?_
    exact kk)
  obtain ⟨T218, X218, e218, st218⟩ := getF X216 hx hZ hown (host := "") (Or.inl (hw _ (List.mem_of_getElem? (i := 32) rfl))) Via.refl e216 Fl215 (g := (mkF m 15 #[.val (.ref j), .val (.int sv)] [(.ref j), (.ref j)])) rfl rfl (hb hby own_d5_15)
  obtain ⟨T219, h219, X219, e219, W219, st219⟩ := putF X218 hx hZ hown (host := "") (Or.inl (hw _ (List.mem_of_getElem? (i := 32) rfl))) Via.refl e218 Fl215 Ej215 (Or.inl (hw _ (List.mem_of_getElem? (i := 33) rfl))) (hw _ (List.mem_of_getElem? (i := 2) rfl)) (ty := .int) (by decide) rfl rfl (g := (mkF m 20 #[.val (.ref j), .val (.int sv)] [(.int (ln - (1 : Int32))), (.ref j)])) rfl rfl (hb hby own_d5_20)
  have N219 := Fr.snoc X219 N215 gej
  have f220 : Exa Z h219 j "com/example/envyless/envyless/Journal" := Ej215.wr W219
  have f221 : Exa Z h219 u "[I" := Eu215.wr W219
  have f222 : Fld Z h219 j "com/example/envyless/envyless/Journal" "arrays" "[[I" (.ref A) := Fa215.other W219 (Or.inr (slot_ne (Or.inl (hw _ (List.mem_of_getElem? (i := 13) rfl))) (Or.inl (hw _ (List.mem_of_getElem? (i := 33) rfl))) (by decide) (t := (.array (.array .int))) (t' := .int) (by decide) (by decide)))
  have f223 : Fld Z h219 j "com/example/envyless/envyless/Journal" "indexes" "[I" (.ref I) := Fi215.other W219 (Or.inr (slot_ne (Or.inl (hw _ (List.mem_of_getElem? (i := 15) rfl))) (Or.inl (hw _ (List.mem_of_getElem? (i := 33) rfl))) (by decide) (t := (.array .int)) (t' := .int) (by decide) (by decide)))
  have f224 : Fld Z h219 j "com/example/envyless/envyless/Journal" "values" "[I" (.ref V) := Fv215.other W219 (Or.inr (slot_ne (Or.inl (hw _ (List.mem_of_getElem? (i := 17) rfl))) (Or.inl (hw _ (List.mem_of_getElem? (i := 33) rfl))) (by decide) (t := (.array .int)) (t' := .int) (by decide) (by decide)))
  have f225 : Fld Z h219 j "com/example/envyless/envyless/Journal" "starts" "[I" (.ref T) := Fs215.other W219 (Or.inr (slot_ne (Or.inl (hw _ (List.mem_of_getElem? (i := 19) rfl))) (Or.inl (hw _ (List.mem_of_getElem? (i := 33) rfl))) (by decide) (t := (.array .int)) (t' := .int) (by decide) (by decide)))
  have f226 : Fld Z h219 j "com/example/envyless/envyless/Journal" "length" "I" (.int (ln - (1 : Int32))) := Fl215.same W219
  have f227 : Fld Z h219 j "com/example/envyless/envyless/Journal" "open" "I" (.int opE) := Fo215.other W219 (Or.inr (slot_ne (Or.inl (hw _ (List.mem_of_getElem? (i := 26) rfl))) (Or.inl (hw _ (List.mem_of_getElem? (i := 33) rfl))) (by decide) (t := .int) (t' := .int) (by decide) (by decide)))
  have f228 : AA Z h219 A kA 64 ln u := AAa215.other W219 (Ne.symm njA)
  have f229 : AI Z h219 I (64 : Int32) fi := AIi215.other W219 (Ne.symm njI)
  have f230 : AI Z h219 V (64 : Int32) fv := AIv215.other W219 (Ne.symm njV)
  have f231 : AI Z h219 T nT ft := AIt215.other W219 (Ne.symm njT)
  have f232 : AI Z h219 u nU fu := AIu215.other W219 (Ne.symm nju)
  have f233 : n0 ≤ h219.size := Nat.le_trans Z215 (Keep.of_wr W219).1
  obtain ⟨T234, X234, e234, st234⟩ := getF X219 hx hZ hown (host := "") (Or.inl (hw _ (List.mem_of_getElem? (i := 12) rfl))) Via.refl e219 f222 (g := (mkF m 24 #[.val (.ref j), .val (.int sv)] [(.ref j)])) rfl rfl (hb hby own_d5_24)
  obtain ⟨T235, X235, e235, st235⟩ := getF X234 hx hZ hown (host := "") (Or.inl (hw _ (List.mem_of_getElem? (i := 32) rfl))) Via.refl e234 f226 (g := (mkF m 28 #[.val (.ref j), .val (.int sv)] [(.ref j), (.ref A)])) rfl rfl (hb hby own_d5_28)
  obtain ⟨cl236, Ar236, -, S236, M236, H236⟩ := id f228
  obtain ⟨T237, X237, e237, st237⟩ := getF X235 hx hZ hown (host := "") (Or.inl (hw _ (List.mem_of_getElem? (i := 14) rfl))) Via.refl e235 f223 (g := (mkF m 33 #[.val (.ref j), .val (.int sv)] [(.ref j), (.ref u)])) rfl rfl (hb hby own_d5_33)
  obtain ⟨T238, X238, e238, st238⟩ := getF X237 hx hZ hown (host := "") (Or.inl (hw _ (List.mem_of_getElem? (i := 32) rfl))) Via.refl e237 f226 (g := (mkF m 37 #[.val (.ref j), .val (.int sv)] [(.ref j), (.ref I), (.ref u)])) rfl rfl (hb hby own_d5_37)
  obtain ⟨cl239, Ar239, S239, M239, H239⟩ := id f229
  have pre240 : ∀ t, Steps p.tables e below (T238.setTop (mkF m 41 #[.val (.ref j), .val (.int sv)] [(.int (fi (ln - (1 : Int32)))), (.ref u)])) t → Steps p.tables e below (s₁.setTop (entryFrame m #[(.ref j)] 2)) t := fun tt kk => pre217 tt (by
    show Steps p.tables e below (T216.setTop (mkF m 10 #[.val (.ref j), .val (.int sv)] [(.int sv), (.int ln)])) _
    refine XS.icmpNo X216.here hx rfl (hb hby own_d5_10) rfl (tlt (hgo0)).2.2.2 ?_
    show Steps p.tables e below (T216.setTop (mkF m 13 #[.val (.ref j), .val (.int sv)] [])) _
    refine XS.aloadN X216.here hx rfl (hb hby own_d5_13) rfl rfl ?_
    show Steps p.tables e below (T216.setTop (mkF m 14 #[.val (.ref j), .val (.int sv)] [(.ref j)])) _
    refine XS.dup X216.here hx rfl (hb hby own_d5_14) rfl rfl ?_
    show Steps p.tables e below (T216.setTop (mkF m 15 #[.val (.ref j), .val (.int sv)] [(.ref j), (.ref j)])) _
    refine st218 _ ?_
    show Steps p.tables e below (T218.setTop (mkF m 18 #[.val (.ref j), .val (.int sv)] [(.int ln), (.ref j)])) _
    refine XS.iconst X218.here hx rfl (hb hby own_d5_18) ?_
    show Steps p.tables e below (T218.setTop (mkF m 19 #[.val (.ref j), .val (.int sv)] [(.int (1 : Int32)), (.int ln), (.ref j)])) _
    refine XS.isub X218.here hx rfl (hb hby own_d5_19) rfl ?_
    show Steps p.tables e below (T218.setTop (mkF m 20 #[.val (.ref j), .val (.int sv)] [(.int (ln - (1 : Int32))), (.ref j)])) _
    refine st219 _ ?_
    show Steps p.tables e below (T219.setTop (mkF m 23 #[.val (.ref j), .val (.int sv)] [])) _
    refine XS.aloadN X219.here hx rfl (hb hby own_d5_23) rfl rfl ?_
    show Steps p.tables e below (T219.setTop (mkF m 24 #[.val (.ref j), .val (.int sv)] [(.ref j)])) _
    refine st234 _ ?_
    show Steps p.tables e below (T234.setTop (mkF m 27 #[.val (.ref j), .val (.int sv)] [(.ref A)])) _
    refine XS.aloadN X234.here hx rfl (hb hby own_d5_27) rfl rfl ?_
    show Steps p.tables e below (T234.setTop (mkF m 28 #[.val (.ref j), .val (.int sv)] [(.ref j), (.ref A)])) _
    refine st235 _ ?_
    show Steps p.tables e below (T235.setTop (mkF m 31 #[.val (.ref j), .val (.int sv)] [(.int (ln - (1 : Int32))), (.ref A)])) _
    refine X235.aaload hx (j := (ln - (1 : Int32))) (v := (.ref u)) (by rw [e235]; exact Ar236.1) (State.isArrayOf_alike hZ.alike Ar236.2.1) rfl Ar236.2.2 (inb_of S236 ⟨hb0, hB0⟩) (H236 _ hb0 hm0) (g := (mkF m 31 #[.val (.ref j), .val (.int sv)] [(.int (ln - (1 : Int32))), (.ref A)])) rfl rfl (hb hby own_d5_31) _ ?_
    show Steps p.tables e below (T235.setTop (mkF m 32 #[.val (.ref j), .val (.int sv)] [(.ref u)])) _
    refine XS.aloadN X235.here hx rfl (hb hby own_d5_32) rfl rfl ?_
    show Steps p.tables e below (T235.setTop (mkF m 33 #[.val (.ref j), .val (.int sv)] [(.ref j), (.ref u)])) _
    refine st237 _ ?_
    show Steps p.tables e below (T237.setTop (mkF m 36 #[.val (.ref j), .val (.int sv)] [(.ref I), (.ref u)])) _
    refine XS.aloadN X237.here hx rfl (hb hby own_d5_36) rfl rfl ?_
    show Steps p.tables e below (T237.setTop (mkF m 37 #[.val (.ref j), .val (.int sv)] [(.ref j), (.ref I), (.ref u)])) _
    refine st238 _ ?_
    show Steps p.tables e below (T238.setTop (mkF m 40 #[.val (.ref j), .val (.int sv)] [(.int (ln - (1 : Int32))), (.ref I), (.ref u)])) _
    refine X238.iaload hx (j := (ln - (1 : Int32))) (v := (.int (fi (ln - (1 : Int32))))) (by rw [e238]; exact Ar239.1) (State.isArrayOf_alike hZ.alike Ar239.2.1) Ar239.2.2 (inb_of S239 ⟨hb0, hB0⟩) (H239 _ hb0 hB0) (g := (mkF m 40 #[.val (.ref j), .val (.int sv)] [(.int (ln - (1 : Int32))), (.ref I), (.ref u)])) rfl rfl (hb hby own_d5_40) _ ?_
    exact kk)
  rw [hd0] at pre240
  obtain ⟨T241, X241, e241, st241⟩ := getF X238 hx hZ hown (host := "") (Or.inl (hw _ (List.mem_of_getElem? (i := 16) rfl))) Via.refl e238 f224 (g := (mkF m 42 #[.val (.ref j), .val (.int sv)] [(.ref j), (.int d0), (.ref u)])) rfl rfl (hb hby own_d5_42)
  obtain ⟨T242, X242, e242, st242⟩ := getF X241 hx hZ hown (host := "") (Or.inl (hw _ (List.mem_of_getElem? (i := 32) rfl))) Via.refl e241 f226 (g := (mkF m 46 #[.val (.ref j), .val (.int sv)] [(.ref j), (.ref V), (.int d0), (.ref u)])) rfl rfl (hb hby own_d5_46)
  obtain ⟨cl243, Ar243, S243, M243, H243⟩ := id f230
  have pre244 : ∀ t, Steps p.tables e below (T242.setTop (mkF m 50 #[.val (.ref j), .val (.int sv)] [(.int (fv (ln - (1 : Int32)))), (.int d0), (.ref u)])) t → Steps p.tables e below (s₁.setTop (entryFrame m #[(.ref j)] 2)) t := fun tt kk => pre240 tt (by
    show Steps p.tables e below (T238.setTop (mkF m 41 #[.val (.ref j), .val (.int sv)] [(.int d0), (.ref u)])) _
    refine XS.aloadN X238.here hx rfl (hb hby own_d5_41) rfl rfl ?_
    show Steps p.tables e below (T238.setTop (mkF m 42 #[.val (.ref j), .val (.int sv)] [(.ref j), (.int d0), (.ref u)])) _
    refine st241 _ ?_
    show Steps p.tables e below (T241.setTop (mkF m 45 #[.val (.ref j), .val (.int sv)] [(.ref V), (.int d0), (.ref u)])) _
    refine XS.aloadN X241.here hx rfl (hb hby own_d5_45) rfl rfl ?_
    show Steps p.tables e below (T241.setTop (mkF m 46 #[.val (.ref j), .val (.int sv)] [(.ref j), (.ref V), (.int d0), (.ref u)])) _
    refine st242 _ ?_
    show Steps p.tables e below (T242.setTop (mkF m 49 #[.val (.ref j), .val (.int sv)] [(.int (ln - (1 : Int32))), (.ref V), (.int d0), (.ref u)])) _
    refine X242.iaload hx (j := (ln - (1 : Int32))) (v := (.int (fv (ln - (1 : Int32))))) (by rw [e242]; exact Ar243.1) (State.isArrayOf_alike hZ.alike Ar243.2.1) Ar243.2.2 (inb_of S243 ⟨hb0, hB0⟩) (H243 _ hb0 hB0) (g := (mkF m 49 #[.val (.ref j), .val (.int sv)] [(.int (ln - (1 : Int32))), (.ref V), (.int d0), (.ref u)])) rfl rfl (hb hby own_d5_49) _ ?_
    exact kk)
  rw [hv0] at pre244
  obtain ⟨cl245, Ar245, S245, -, -⟩ := id f232
  obtain ⟨T246, h246, X246, e246, W246, st246⟩ := stI X242 hx hZ e242 Ar245 (j := d0) (inb_of S245 ⟨hd0_0, hdU_0⟩) (g := (mkF m 50 #[.val (.ref j), .val (.int sv)] [(.int v0), (.int d0), (.ref u)])) rfl rfl (hb hby own_d5_50)
  have N246 := Fr.snoc X246 N219 geu
  have f247 : Exa Z h246 j "com/example/envyless/envyless/Journal" := f220.wr W246
  have f248 : Exa Z h246 u "[I" := f221.wr W246
  have f249 : Fld Z h246 j "com/example/envyless/envyless/Journal" "arrays" "[[I" (.ref A) := f222.other W246 (Or.inl nju)
  have f250 : Fld Z h246 j "com/example/envyless/envyless/Journal" "indexes" "[I" (.ref I) := f223.other W246 (Or.inl nju)
  have f251 : Fld Z h246 j "com/example/envyless/envyless/Journal" "values" "[I" (.ref V) := f224.other W246 (Or.inl nju)
  have f252 : Fld Z h246 j "com/example/envyless/envyless/Journal" "starts" "[I" (.ref T) := f225.other W246 (Or.inl nju)
  have f253 : Fld Z h246 j "com/example/envyless/envyless/Journal" "length" "I" (.int (ln - (1 : Int32))) := f226.other W246 (Or.inl nju)
  have f254 : Fld Z h246 j "com/example/envyless/envyless/Journal" "open" "I" (.int opE) := f227.other W246 (Or.inl nju)
  have f255 : AA Z h246 A kA 64 ln u := f228.other W246 nAu
  have f256 : AI Z h246 I (64 : Int32) fi := f229.other W246 nIu
  have f257 : AI Z h246 V (64 : Int32) fv := f230.other W246 nVu
  have f258 : AI Z h246 T nT ft := f231.other W246 nTu
  have f259 : n0 ≤ h246.size := Nat.le_trans f233 (Keep.of_wr W246).1
  have V246 : AI Z h246 u nU (up fu d0 v0) := f232.set W246 hd0_0 hdU_0
  obtain ⟨T260, X260, e260, st260⟩ := getF X246 hx hZ hown (host := "") (Or.inl (hw _ (List.mem_of_getElem? (i := 32) rfl))) Via.refl e246 f253 (g := (mkF m 6 #[.val (.ref j), .val (.int sv)] [(.ref j)])) rfl rfl (hb hby own_d5_6)
  have pre261 : ∀ t, Steps p.tables e below (T260.setTop (mkF m 10 #[.val (.ref j), .val (.int sv)] [(.int sv), (.int (ln - (1 : Int32)))])) t → Steps p.tables e below (s₁.setTop (entryFrame m #[(.ref j)] 2)) t := fun tt kk => pre244 tt (by
    show Steps p.tables e below (T242.setTop (mkF m 50 #[.val (.ref j), .val (.int sv)] [(.int v0), (.int d0), (.ref u)])) _
    refine st246 _ ?_
    show Steps p.tables e below (T246.setTop (mkF m 51 #[.val (.ref j), .val (.int sv)] [])) _
    refine XS.goto X246.here hx rfl (pc0 := 51) (pc' := 5) rfl (hb hby own_d5_51) (by decide) (by decide) ?_
    show Steps p.tables e below (T246.setTop (mkF m 5 #[.val (.ref j), .val (.int sv)] [])) _
    refine XS.aloadN X246.here hx rfl (hb hby own_d5_5) rfl rfl ?_
    show Steps p.tables e below (T246.setTop (mkF m 6 #[.val (.ref j), .val (.int sv)] [(.ref j)])) _
    refine st260 _ ?_
    show Steps p.tables e below (T260.setTop (mkF m 9 #[.val (.ref j), .val (.int sv)] [(.int (ln - (1 : Int32)))])) _
    refine XS.iloadN X260.here hx rfl (hb hby own_d5_9) rfl ?_
    exact kk)
  obtain ⟨T262, X262, e262, st262⟩ := getF X260 hx hZ hown (host := "") (Or.inl (hw _ (List.mem_of_getElem? (i := 32) rfl))) Via.refl e260 f253 (g := (mkF m 15 #[.val (.ref j), .val (.int sv)] [(.ref j), (.ref j)])) rfl rfl (hb hby own_d5_15)
  obtain ⟨T263, h263, X263, e263, W263, st263⟩ := putF X262 hx hZ hown (host := "") (Or.inl (hw _ (List.mem_of_getElem? (i := 32) rfl))) Via.refl e262 f253 f247 (Or.inl (hw _ (List.mem_of_getElem? (i := 33) rfl))) (hw _ (List.mem_of_getElem? (i := 2) rfl)) (ty := .int) (by decide) rfl rfl (g := (mkF m 20 #[.val (.ref j), .val (.int sv)] [(.int ((ln - (1 : Int32)) - (1 : Int32))), (.ref j)])) rfl rfl (hb hby own_d5_20)
  have N263 := Fr.snoc X263 N246 gej
  have f264 : Exa Z h263 j "com/example/envyless/envyless/Journal" := f247.wr W263
  have f265 : Exa Z h263 u "[I" := f248.wr W263
  have f266 : Fld Z h263 j "com/example/envyless/envyless/Journal" "arrays" "[[I" (.ref A) := f249.other W263 (Or.inr (slot_ne (Or.inl (hw _ (List.mem_of_getElem? (i := 13) rfl))) (Or.inl (hw _ (List.mem_of_getElem? (i := 33) rfl))) (by decide) (t := (.array (.array .int))) (t' := .int) (by decide) (by decide)))
  have f267 : Fld Z h263 j "com/example/envyless/envyless/Journal" "indexes" "[I" (.ref I) := f250.other W263 (Or.inr (slot_ne (Or.inl (hw _ (List.mem_of_getElem? (i := 15) rfl))) (Or.inl (hw _ (List.mem_of_getElem? (i := 33) rfl))) (by decide) (t := (.array .int)) (t' := .int) (by decide) (by decide)))
  have f268 : Fld Z h263 j "com/example/envyless/envyless/Journal" "values" "[I" (.ref V) := f251.other W263 (Or.inr (slot_ne (Or.inl (hw _ (List.mem_of_getElem? (i := 17) rfl))) (Or.inl (hw _ (List.mem_of_getElem? (i := 33) rfl))) (by decide) (t := (.array .int)) (t' := .int) (by decide) (by decide)))
  have f269 : Fld Z h263 j "com/example/envyless/envyless/Journal" "starts" "[I" (.ref T) := f252.other W263 (Or.inr (slot_ne (Or.inl (hw _ (List.mem_of_getElem? (i := 19) rfl))) (Or.inl (hw _ (List.mem_of_getElem? (i := 33) rfl))) (by decide) (t := (.array .int)) (t' := .int) (by decide) (by decide)))
  have f270 : Fld Z h263 j "com/example/envyless/envyless/Journal" "length" "I" (.int ((ln - (1 : Int32)) - (1 : Int32))) := f253.same W263
  have f271 : Fld Z h263 j "com/example/envyless/envyless/Journal" "open" "I" (.int opE) := f254.other W263 (Or.inr (slot_ne (Or.inl (hw _ (List.mem_of_getElem? (i := 26) rfl))) (Or.inl (hw _ (List.mem_of_getElem? (i := 33) rfl))) (by decide) (t := .int) (t' := .int) (by decide) (by decide)))
  have f272 : AA Z h263 A kA 64 ln u := f255.other W263 (Ne.symm njA)
  have f273 : AI Z h263 I (64 : Int32) fi := f256.other W263 (Ne.symm njI)
  have f274 : AI Z h263 V (64 : Int32) fv := f257.other W263 (Ne.symm njV)
  have f275 : AI Z h263 T nT ft := f258.other W263 (Ne.symm njT)
  have f276 : n0 ≤ h263.size := Nat.le_trans f259 (Keep.of_wr W263).1
  have f277 : AI Z h263 u nU (up fu d0 v0) := V246.other W263 (Ne.symm nju)
  obtain ⟨T278, X278, e278, st278⟩ := getF X263 hx hZ hown (host := "") (Or.inl (hw _ (List.mem_of_getElem? (i := 12) rfl))) Via.refl e263 f266 (g := (mkF m 24 #[.val (.ref j), .val (.int sv)] [(.ref j)])) rfl rfl (hb hby own_d5_24)
  obtain ⟨T279, X279, e279, st279⟩ := getF X278 hx hZ hown (host := "") (Or.inl (hw _ (List.mem_of_getElem? (i := 32) rfl))) Via.refl e278 f270 (g := (mkF m 28 #[.val (.ref j), .val (.int sv)] [(.ref j), (.ref A)])) rfl rfl (hb hby own_d5_28)
  obtain ⟨cl280, Ar280, -, S280, M280, H280⟩ := id f272
  obtain ⟨T281, X281, e281, st281⟩ := getF X279 hx hZ hown (host := "") (Or.inl (hw _ (List.mem_of_getElem? (i := 14) rfl))) Via.refl e279 f267 (g := (mkF m 33 #[.val (.ref j), .val (.int sv)] [(.ref j), (.ref u)])) rfl rfl (hb hby own_d5_33)
  obtain ⟨T282, X282, e282, st282⟩ := getF X281 hx hZ hown (host := "") (Or.inl (hw _ (List.mem_of_getElem? (i := 32) rfl))) Via.refl e281 f270 (g := (mkF m 37 #[.val (.ref j), .val (.int sv)] [(.ref j), (.ref I), (.ref u)])) rfl rfl (hb hby own_d5_37)
  obtain ⟨cl283, Ar283, S283, M283, H283⟩ := id f273
  have pre284 : ∀ t, Steps p.tables e below (T282.setTop (mkF m 41 #[.val (.ref j), .val (.int sv)] [(.int (fi ((ln - (1 : Int32)) - (1 : Int32)))), (.ref u)])) t → Steps p.tables e below (s₁.setTop (entryFrame m #[(.ref j)] 2)) t := fun tt kk => pre261 tt (by
    show Steps p.tables e below (T260.setTop (mkF m 10 #[.val (.ref j), .val (.int sv)] [(.int sv), (.int (ln - (1 : Int32)))])) _
    refine XS.icmpNo X260.here hx rfl (hb hby own_d5_10) rfl (tlt (hgo1)).2.2.2 ?_
    show Steps p.tables e below (T260.setTop (mkF m 13 #[.val (.ref j), .val (.int sv)] [])) _
    refine XS.aloadN X260.here hx rfl (hb hby own_d5_13) rfl rfl ?_
    show Steps p.tables e below (T260.setTop (mkF m 14 #[.val (.ref j), .val (.int sv)] [(.ref j)])) _
    refine XS.dup X260.here hx rfl (hb hby own_d5_14) rfl rfl ?_
    show Steps p.tables e below (T260.setTop (mkF m 15 #[.val (.ref j), .val (.int sv)] [(.ref j), (.ref j)])) _
    refine st262 _ ?_
    show Steps p.tables e below (T262.setTop (mkF m 18 #[.val (.ref j), .val (.int sv)] [(.int (ln - (1 : Int32))), (.ref j)])) _
    refine XS.iconst X262.here hx rfl (hb hby own_d5_18) ?_
    show Steps p.tables e below (T262.setTop (mkF m 19 #[.val (.ref j), .val (.int sv)] [(.int (1 : Int32)), (.int (ln - (1 : Int32))), (.ref j)])) _
    refine XS.isub X262.here hx rfl (hb hby own_d5_19) rfl ?_
    show Steps p.tables e below (T262.setTop (mkF m 20 #[.val (.ref j), .val (.int sv)] [(.int ((ln - (1 : Int32)) - (1 : Int32))), (.ref j)])) _
    refine st263 _ ?_
    show Steps p.tables e below (T263.setTop (mkF m 23 #[.val (.ref j), .val (.int sv)] [])) _
    refine XS.aloadN X263.here hx rfl (hb hby own_d5_23) rfl rfl ?_
    show Steps p.tables e below (T263.setTop (mkF m 24 #[.val (.ref j), .val (.int sv)] [(.ref j)])) _
    refine st278 _ ?_
    show Steps p.tables e below (T278.setTop (mkF m 27 #[.val (.ref j), .val (.int sv)] [(.ref A)])) _
    refine XS.aloadN X278.here hx rfl (hb hby own_d5_27) rfl rfl ?_
    show Steps p.tables e below (T278.setTop (mkF m 28 #[.val (.ref j), .val (.int sv)] [(.ref j), (.ref A)])) _
    refine st279 _ ?_
    show Steps p.tables e below (T279.setTop (mkF m 31 #[.val (.ref j), .val (.int sv)] [(.int ((ln - (1 : Int32)) - (1 : Int32))), (.ref A)])) _
    refine X279.aaload hx (j := ((ln - (1 : Int32)) - (1 : Int32))) (v := (.ref u)) (by rw [e279]; exact Ar280.1) (State.isArrayOf_alike hZ.alike Ar280.2.1) rfl Ar280.2.2 (inb_of S280 ⟨hb1, hB1⟩) (H280 _ hb1 hm1) (g := (mkF m 31 #[.val (.ref j), .val (.int sv)] [(.int ((ln - (1 : Int32)) - (1 : Int32))), (.ref A)])) rfl rfl (hb hby own_d5_31) _ ?_
    show Steps p.tables e below (T279.setTop (mkF m 32 #[.val (.ref j), .val (.int sv)] [(.ref u)])) _
    refine XS.aloadN X279.here hx rfl (hb hby own_d5_32) rfl rfl ?_
    show Steps p.tables e below (T279.setTop (mkF m 33 #[.val (.ref j), .val (.int sv)] [(.ref j), (.ref u)])) _
    refine st281 _ ?_
    show Steps p.tables e below (T281.setTop (mkF m 36 #[.val (.ref j), .val (.int sv)] [(.ref I), (.ref u)])) _
    refine XS.aloadN X281.here hx rfl (hb hby own_d5_36) rfl rfl ?_
    show Steps p.tables e below (T281.setTop (mkF m 37 #[.val (.ref j), .val (.int sv)] [(.ref j), (.ref I), (.ref u)])) _
    refine st282 _ ?_
    show Steps p.tables e below (T282.setTop (mkF m 40 #[.val (.ref j), .val (.int sv)] [(.int ((ln - (1 : Int32)) - (1 : Int32))), (.ref I), (.ref u)])) _
    refine X282.iaload hx (j := ((ln - (1 : Int32)) - (1 : Int32))) (v := (.int (fi ((ln - (1 : Int32)) - (1 : Int32))))) (by rw [e282]; exact Ar283.1) (State.isArrayOf_alike hZ.alike Ar283.2.1) Ar283.2.2 (inb_of S283 ⟨hb1, hB1⟩) (H283 _ hb1 hB1) (g := (mkF m 40 #[.val (.ref j), .val (.int sv)] [(.int ((ln - (1 : Int32)) - (1 : Int32))), (.ref I), (.ref u)])) rfl rfl (hb hby own_d5_40) _ ?_
    exact kk)
  rw [hd1] at pre284
  obtain ⟨T285, X285, e285, st285⟩ := getF X282 hx hZ hown (host := "") (Or.inl (hw _ (List.mem_of_getElem? (i := 16) rfl))) Via.refl e282 f268 (g := (mkF m 42 #[.val (.ref j), .val (.int sv)] [(.ref j), (.int d1), (.ref u)])) rfl rfl (hb hby own_d5_42)
  obtain ⟨T286, X286, e286, st286⟩ := getF X285 hx hZ hown (host := "") (Or.inl (hw _ (List.mem_of_getElem? (i := 32) rfl))) Via.refl e285 f270 (g := (mkF m 46 #[.val (.ref j), .val (.int sv)] [(.ref j), (.ref V), (.int d1), (.ref u)])) rfl rfl (hb hby own_d5_46)
  obtain ⟨cl287, Ar287, S287, M287, H287⟩ := id f274
  have pre288 : ∀ t, Steps p.tables e below (T286.setTop (mkF m 50 #[.val (.ref j), .val (.int sv)] [(.int (fv ((ln - (1 : Int32)) - (1 : Int32)))), (.int d1), (.ref u)])) t → Steps p.tables e below (s₁.setTop (entryFrame m #[(.ref j)] 2)) t := fun tt kk => pre284 tt (by
    show Steps p.tables e below (T282.setTop (mkF m 41 #[.val (.ref j), .val (.int sv)] [(.int d1), (.ref u)])) _
    refine XS.aloadN X282.here hx rfl (hb hby own_d5_41) rfl rfl ?_
    show Steps p.tables e below (T282.setTop (mkF m 42 #[.val (.ref j), .val (.int sv)] [(.ref j), (.int d1), (.ref u)])) _
    refine st285 _ ?_
    show Steps p.tables e below (T285.setTop (mkF m 45 #[.val (.ref j), .val (.int sv)] [(.ref V), (.int d1), (.ref u)])) _
    refine XS.aloadN X285.here hx rfl (hb hby own_d5_45) rfl rfl ?_
    show Steps p.tables e below (T285.setTop (mkF m 46 #[.val (.ref j), .val (.int sv)] [(.ref j), (.ref V), (.int d1), (.ref u)])) _
    refine st286 _ ?_
    show Steps p.tables e below (T286.setTop (mkF m 49 #[.val (.ref j), .val (.int sv)] [(.int ((ln - (1 : Int32)) - (1 : Int32))), (.ref V), (.int d1), (.ref u)])) _
    refine X286.iaload hx (j := ((ln - (1 : Int32)) - (1 : Int32))) (v := (.int (fv ((ln - (1 : Int32)) - (1 : Int32))))) (by rw [e286]; exact Ar287.1) (State.isArrayOf_alike hZ.alike Ar287.2.1) Ar287.2.2 (inb_of S287 ⟨hb1, hB1⟩) (H287 _ hb1 hB1) (g := (mkF m 49 #[.val (.ref j), .val (.int sv)] [(.int ((ln - (1 : Int32)) - (1 : Int32))), (.ref V), (.int d1), (.ref u)])) rfl rfl (hb hby own_d5_49) _ ?_
    exact kk)
  rw [hv1] at pre288
  obtain ⟨cl289, Ar289, S289, -, -⟩ := id f277
  obtain ⟨T290, h290, X290, e290, W290, st290⟩ := stI X286 hx hZ e286 Ar289 (j := d1) (inb_of S289 ⟨hd0_1, hdU_1⟩) (g := (mkF m 50 #[.val (.ref j), .val (.int sv)] [(.int v1), (.int d1), (.ref u)])) rfl rfl (hb hby own_d5_50)
  have N290 := Fr.snoc X290 N263 geu
  have f291 : Exa Z h290 j "com/example/envyless/envyless/Journal" := f264.wr W290
  have f292 : Exa Z h290 u "[I" := f265.wr W290
  have f293 : Fld Z h290 j "com/example/envyless/envyless/Journal" "arrays" "[[I" (.ref A) := f266.other W290 (Or.inl nju)
  have f294 : Fld Z h290 j "com/example/envyless/envyless/Journal" "indexes" "[I" (.ref I) := f267.other W290 (Or.inl nju)
  have f295 : Fld Z h290 j "com/example/envyless/envyless/Journal" "values" "[I" (.ref V) := f268.other W290 (Or.inl nju)
  have f296 : Fld Z h290 j "com/example/envyless/envyless/Journal" "starts" "[I" (.ref T) := f269.other W290 (Or.inl nju)
  have f297 : Fld Z h290 j "com/example/envyless/envyless/Journal" "length" "I" (.int ((ln - (1 : Int32)) - (1 : Int32))) := f270.other W290 (Or.inl nju)
  have f298 : Fld Z h290 j "com/example/envyless/envyless/Journal" "open" "I" (.int opE) := f271.other W290 (Or.inl nju)
  have f299 : AA Z h290 A kA 64 ln u := f272.other W290 nAu
  have f300 : AI Z h290 I (64 : Int32) fi := f273.other W290 nIu
  have f301 : AI Z h290 V (64 : Int32) fv := f274.other W290 nVu
  have f302 : AI Z h290 T nT ft := f275.other W290 nTu
  have f303 : n0 ≤ h290.size := Nat.le_trans f276 (Keep.of_wr W290).1
  have V290 : AI Z h290 u nU (up (up fu d0 v0) d1 v1) := f277.set W290 hd0_1 hdU_1
  obtain ⟨T304, X304, e304, st304⟩ := getF X290 hx hZ hown (host := "") (Or.inl (hw _ (List.mem_of_getElem? (i := 32) rfl))) Via.refl e290 f297 (g := (mkF m 6 #[.val (.ref j), .val (.int sv)] [(.ref j)])) rfl rfl (hb hby own_d5_6)
  have pre305 : ∀ t, Steps p.tables e below (T304.setTop (mkF m 10 #[.val (.ref j), .val (.int sv)] [(.int sv), (.int ((ln - (1 : Int32)) - (1 : Int32)))])) t → Steps p.tables e below (s₁.setTop (entryFrame m #[(.ref j)] 2)) t := fun tt kk => pre288 tt (by
    show Steps p.tables e below (T286.setTop (mkF m 50 #[.val (.ref j), .val (.int sv)] [(.int v1), (.int d1), (.ref u)])) _
    refine st290 _ ?_
    show Steps p.tables e below (T290.setTop (mkF m 51 #[.val (.ref j), .val (.int sv)] [])) _
    refine XS.goto X290.here hx rfl (pc0 := 51) (pc' := 5) rfl (hb hby own_d5_51) (by decide) (by decide) ?_
    show Steps p.tables e below (T290.setTop (mkF m 5 #[.val (.ref j), .val (.int sv)] [])) _
    refine XS.aloadN X290.here hx rfl (hb hby own_d5_5) rfl rfl ?_
    show Steps p.tables e below (T290.setTop (mkF m 6 #[.val (.ref j), .val (.int sv)] [(.ref j)])) _
    refine st304 _ ?_
    show Steps p.tables e below (T304.setTop (mkF m 9 #[.val (.ref j), .val (.int sv)] [(.int ((ln - (1 : Int32)) - (1 : Int32)))])) _
    refine XS.iloadN X304.here hx rfl (hb hby own_d5_9) rfl ?_
    exact kk)
  obtain ⟨fs, hr, hrun, hended, hW, hsame⟩ := X304.leave (v := none) (fun _ => rfl)
  refine ⟨_, _, pre305 _ ?_, hrun, hended, _, _, rfl, ?_, ⟨_, rfl⟩, hW, hsame.mono (by decide) (by decide)⟩
  · show Steps p.tables e below (T304.setTop (mkF m 10 #[.val (.ref j), .val (.int sv)] [(.int sv), (.int ((ln - (1 : Int32)) - (1 : Int32)))])) _
    refine XS.icmpYes X304.here hx rfl (pc0 := 10) (pc' := 54) rfl (hb hby own_d5_10) rfl (flt (hend)).2.2.2 (by decide) (by decide) ?_
    show Steps p.tables e below (T304.setTop (mkF m 54 #[.val (.ref j), .val (.int sv)] [])) _
    exact X304.returnOut hx Bd.returns (hb hby own_d5_54) hr
  · show JQ Z _ j A I V _ u kA _ _ _ _ _ _ _ _ n0 _ T304.heap _
    rw [e304]
    exact ⟨rfl, N290, f303, f291, f293, f294, f295, f296, f297, f298, f299.le hle, f300, f301, f302, V290, f292, Ov⟩
set_option maxRecDepth 65536 in
set_option maxHeartbeats 40000000 in
theorem rm_undo3 (l : Launch) (Z : State) (a0 : Array Value) (hw : ∀ d ∈ tables_1, d.before a0 Z = true) (ws : List Jvm.Cond) (j A I V T u : Addr) (kA : ClassId) (ln op nT nU : Int32) (fi fv ft fu : Int32 → Int32) (opE sv lnE : Int32) (d0 v0 : Int32) (d1 v1 : Int32) (d2 v2 : Int32) (h0 : Heap) (n0 : Nat) (Z0 : n0 ≤ h0.size) (J : JS Z h0 j A I V T u kA ln op nT nU fi fv ft fu) (DJ_ : DJ j A I V T u) (GE_ : GE n0 j A I V T u) (hoE : opE = op - 1) (hne : ¬ op = 0) (ho0 : ¬ opE < 0) (hoT : opE < nT) (hs : ft opE = sv) (hlE : lnE = (((ln - (1 : Int32)) - (1 : Int32)) - (1 : Int32))) (hle : ∀ i : Int32, i < lnE → i < ln) (hgo0 : sv < ln) (hb0 : ¬ (ln - (1 : Int32)) < 0) (hB0 : (ln - (1 : Int32)) < 64) (hm0 : (ln - (1 : Int32)) < ln) (hd0 : fi (ln - (1 : Int32)) = d0) (hv0 : fv (ln - (1 : Int32)) = v0) (hd0_0 : ¬ d0 < 0) (hdU_0 : d0 < nU) (hgo1 : sv < (ln - (1 : Int32))) (hb1 : ¬ ((ln - (1 : Int32)) - (1 : Int32)) < 0) (hB1 : ((ln - (1 : Int32)) - (1 : Int32)) < 64) (hm1 : ((ln - (1 : Int32)) - (1 : Int32)) < ln) (hd1 : fi ((ln - (1 : Int32)) - (1 : Int32)) = d1) (hv1 : fv ((ln - (1 : Int32)) - (1 : Int32)) = v1) (hd0_1 : ¬ d1 < 0) (hdU_1 : d1 < nU) (hgo2 : sv < ((ln - (1 : Int32)) - (1 : Int32))) (hb2 : ¬ (((ln - (1 : Int32)) - (1 : Int32)) - (1 : Int32)) < 0) (hB2 : (((ln - (1 : Int32)) - (1 : Int32)) - (1 : Int32)) < 64) (hm2 : (((ln - (1 : Int32)) - (1 : Int32)) - (1 : Int32)) < ln) (hd2 : fi (((ln - (1 : Int32)) - (1 : Int32)) - (1 : Int32)) = d2) (hv2 : fv (((ln - (1 : Int32)) - (1 : Int32)) - (1 : Int32)) = v2) (hd0_2 : ¬ d2 < 0) (hdU_2 : d2 < nU) (hend : ¬ sv < (((ln - (1 : Int32)) - (1 : Int32)) - (1 : Int32))) :
    MetFree l (⟨"com/example/envyless/envyless/Journal", "undo", "()V"⟩ : MethodName) (head1 (Jvm.Cond.code (⟨"com/example/envyless/envyless/Journal", "undo", "()V"⟩ : MethodName) prog_22_method_4_code 2 none :: ws) ({ frames := 1, cells := 0, slots := 0, locals := 12 } : Room)) (fun a U => a = #[(.ref j)] ∧ Z.Warmed39 U.vm ∧ U.heap = h0) (fun _ _ _ _ _ => True) (fun _ U o U' => ∃ v L, o = .returned v ∧ JQ Z none j A I V T u kA lnE opE nT nU fi fv ft (up (up (up fu d0 v0) d1 v1) d2 v2) n0 v U'.heap L ∧ FrameEnd U o U' L ({ frames := 1, cells := 0, slots := 0, locals := 12 } : Room).cells ({ frames := 1, cells := 0, slots := 0, locals := 12 } : Room).slots) := by
  refine MetFree.of_bodySF (plainFor_of_name (by first | (simp [plainName, overriddenIn]; done) | decide +kernel)) hisR ?_
  intro p e s m args below meth c s₁ Bd hml0 hP hK
  obtain ⟨rfl, hZ, hh⟩ := hP
  have hx := Bd.exec
  have hby := Bd.bytes
  have hml : c.maxLocals = 2 := hml0
  have hown : s.vm.findClass "com/example/envyless/envyless/Journal" = some m.cls := findClass_of_methodNamed Bd.named
  have hnm := (name_of_methodNamed Bd.named Bd.method).1
  have X0 : Stand p l e ({ frames := 1, cells := 0, slots := 0, locals := 12 } : Room) s m #[(.ref j)] below meth c s₁ [] 0 0 := Stand.of_body Bd
  have e0 : s₁.heap = h0 := by rw [← hh, Bd.state]; rfl
  have N0 := Fr.nil n0
  have ef0 : entryFrame m #[(.ref j)] 2 = mkF m 0 #[.val (.ref j), .unset] [] := by first | (simp [entryFrame, mkF, argsToLocals, Value.category, maxLocals]; done) | rfl
  have pre0 : ∀ t, Steps p.tables e below (s₁.setTop (mkF m 0 #[.val (.ref j), .unset] [])) t → Steps p.tables e below (s₁.setTop (entryFrame m #[(.ref j)] 2)) t := fun t k => castTop ef0 k
  obtain ⟨Ej, Fa, Fi, Fv, Fs, Fl, Fo, AAa, AIi, AIv, AIt, AIu, Eu, Ov⟩ := J
  obtain ⟨njA, njI, njV, njT, nju, nAI, nAV, nAT, nAu, nIV, nIT, nIu, nVT, nVu, nTu⟩ := DJ_
  obtain ⟨gej, geA, geI, geV, geT, geu⟩ := GE_
  subst hlE
  obtain ⟨cq306, q306, q306'⟩ := (Ej).cell
  obtain ⟨vv306, _, ⟨T306, L306, k306, n306⟩, -, X306, ⟨Lc306, hQ306, l306, y306, z306⟩, st306⟩ := X0.privateBack hx (y := (⟨"com/example/envyless/envyless/Journal", "close", "()I"⟩ : MethodName)) hown (mvT hZ (hw _ (List.mem_of_getElem? (i := 40) rfl))) (mvT hZ (hw _ (List.mem_of_getElem? (i := 41) rfl))) (own_selects (mvT hZ (hw _ (List.mem_of_getElem? (i := 41) rfl))) (Cond.privateMethod_at (mvP hZ (hw _ (List.mem_of_getElem? (i := 42) rfl)) (args := #[]))) (mvT hZ (hw _ (List.mem_of_getElem? (i := 23) rfl))) rfl (by decide)) (Cond.privateMethod_at (mvP hZ (hw _ (List.mem_of_getElem? (i := 42) rfl)) (args := #[]))) (mvT hZ (hw _ (List.mem_of_getElem? (i := 43) rfl))) (by decide) (backOf (W := 0) (rm_close l Z a0 hw [] j A I V T u kA ln op nT nU fi fv ft fu opE sv h0 n0 Z0 ⟨Ej, Fa, Fi, Fv, Fs, Fl, Fo, AAa, AIi, AIv, AIt, AIu, Eu, Ov⟩ ⟨njA, njI, njV, njT, nju, nAI, nAV, nAT, nAu, nIV, nIT, nIu, nVT, nVu, nTu⟩ ⟨gej, geA, geI, geV, geT, geu⟩ hoE hne ho0 hoT hs) hZ (hw _ (List.mem_of_getElem? (i := 43) rfl)) (hw _ (List.mem_of_getElem? (i := 3) rfl)) (by decide) (by decide)) (g := (mkF m 1 #[.val (.ref j), .unset] [(.ref j)])) rfl (by rw [hml]; rfl) (Steps.refl _) (a := j) (by rw [e0]; exact q306) q306' (argsL := []) (rest := []) (lenOf own_pd_0 rfl) rfl (by show 2 * 0 + _ ≤ _; exact Nat.le_of_eq rfl) (hb hby own_d5_1) (fun _ _ => ⟨rfl, e0, (by decide : 0 + 0 ≤ _), (by decide : 0 + 0 ≤ _)⟩)
  dsimp only [Pt.U, Pt.locs, Pt.cells, Pt.slots] at X306 l306 y306 z306 st306 hQ306
  subst l306 y306 z306
  obtain ⟨rfl, N306q, Z306, Ej306, Fa306, Fi306, Fv306, Fs306, Fl306, Fo306, AAa306, AIi306, AIv306, AIt306, AIu306, Eu306, -⟩ := hQ306
  have N306 := Fr.app N0 N306q
  obtain ⟨T307, X307, e307, st307⟩ := getF X306 hx hZ hown (host := "") (Or.inl (hw _ (List.mem_of_getElem? (i := 32) rfl))) Via.refl (rfl : T306.heap = T306.heap) Fl306 (g := (mkF m 6 #[.val (.ref j), .val (.int sv)] [(.ref j)])) rfl rfl (hb hby own_d5_6)
  have pre308 : ∀ t, Steps p.tables e below (T307.setTop (mkF m 10 #[.val (.ref j), .val (.int sv)] [(.int sv), (.int ln)])) t → Steps p.tables e below (s₁.setTop (entryFrame m #[(.ref j)] 2)) t := fun tt kk => pre0 tt (by
    show Steps p.tables e below (s₁.setTop (mkF m 0 #[.val (.ref j), .unset] [])) _
    refine XS.aloadN X0.here hx rfl (hb hby own_d5_0) rfl rfl ?_
    show Steps p.tables e below (s₁.setTop (mkF m 1 #[.val (.ref j), .unset] [(.ref j)])) _
    refine st306.trans ?_
    show Steps p.tables e below (T306.setTop (mkF m 4 #[.val (.ref j), .unset] [(.int sv)])) _
    refine XS.istoreN X306.here hx rfl (hb hby own_d5_4) rfl (l' := #[.val (.ref j), .val (.int sv)]) rfl ?_
    show Steps p.tables e below (T306.setTop (mkF m 5 #[.val (.ref j), .val (.int sv)] [])) _
    refine XS.aloadN X306.here hx rfl (hb hby own_d5_5) rfl rfl ?_
    show Steps p.tables e below (T306.setTop (mkF m 6 #[.val (.ref j), .val (.int sv)] [(.ref j)])) _
    refine st307 _ ?_
    show Steps p.tables e below (T307.setTop (mkF m 9 #[.val (.ref j), .val (.int sv)] [(.int ln)])) _
    refine XS.iloadN X307.here hx rfl (hb hby own_d5_9) rfl ?_
    exact kk)
  obtain ⟨T309, X309, e309, st309⟩ := getF X307 hx hZ hown (host := "") (Or.inl (hw _ (List.mem_of_getElem? (i := 32) rfl))) Via.refl e307 Fl306 (g := (mkF m 15 #[.val (.ref j), .val (.int sv)] [(.ref j), (.ref j)])) rfl rfl (hb hby own_d5_15)
  obtain ⟨T310, h310, X310, e310, W310, st310⟩ := putF X309 hx hZ hown (host := "") (Or.inl (hw _ (List.mem_of_getElem? (i := 32) rfl))) Via.refl e309 Fl306 Ej306 (Or.inl (hw _ (List.mem_of_getElem? (i := 33) rfl))) (hw _ (List.mem_of_getElem? (i := 2) rfl)) (ty := .int) (by decide) rfl rfl (g := (mkF m 20 #[.val (.ref j), .val (.int sv)] [(.int (ln - (1 : Int32))), (.ref j)])) rfl rfl (hb hby own_d5_20)
  have N310 := Fr.snoc X310 N306 gej
  have f311 : Exa Z h310 j "com/example/envyless/envyless/Journal" := Ej306.wr W310
  have f312 : Exa Z h310 u "[I" := Eu306.wr W310
  have f313 : Fld Z h310 j "com/example/envyless/envyless/Journal" "arrays" "[[I" (.ref A) := Fa306.other W310 (Or.inr (slot_ne (Or.inl (hw _ (List.mem_of_getElem? (i := 13) rfl))) (Or.inl (hw _ (List.mem_of_getElem? (i := 33) rfl))) (by decide) (t := (.array (.array .int))) (t' := .int) (by decide) (by decide)))
  have f314 : Fld Z h310 j "com/example/envyless/envyless/Journal" "indexes" "[I" (.ref I) := Fi306.other W310 (Or.inr (slot_ne (Or.inl (hw _ (List.mem_of_getElem? (i := 15) rfl))) (Or.inl (hw _ (List.mem_of_getElem? (i := 33) rfl))) (by decide) (t := (.array .int)) (t' := .int) (by decide) (by decide)))
  have f315 : Fld Z h310 j "com/example/envyless/envyless/Journal" "values" "[I" (.ref V) := Fv306.other W310 (Or.inr (slot_ne (Or.inl (hw _ (List.mem_of_getElem? (i := 17) rfl))) (Or.inl (hw _ (List.mem_of_getElem? (i := 33) rfl))) (by decide) (t := (.array .int)) (t' := .int) (by decide) (by decide)))
  have f316 : Fld Z h310 j "com/example/envyless/envyless/Journal" "starts" "[I" (.ref T) := Fs306.other W310 (Or.inr (slot_ne (Or.inl (hw _ (List.mem_of_getElem? (i := 19) rfl))) (Or.inl (hw _ (List.mem_of_getElem? (i := 33) rfl))) (by decide) (t := (.array .int)) (t' := .int) (by decide) (by decide)))
  have f317 : Fld Z h310 j "com/example/envyless/envyless/Journal" "length" "I" (.int (ln - (1 : Int32))) := Fl306.same W310
  have f318 : Fld Z h310 j "com/example/envyless/envyless/Journal" "open" "I" (.int opE) := Fo306.other W310 (Or.inr (slot_ne (Or.inl (hw _ (List.mem_of_getElem? (i := 26) rfl))) (Or.inl (hw _ (List.mem_of_getElem? (i := 33) rfl))) (by decide) (t := .int) (t' := .int) (by decide) (by decide)))
  have f319 : AA Z h310 A kA 64 ln u := AAa306.other W310 (Ne.symm njA)
  have f320 : AI Z h310 I (64 : Int32) fi := AIi306.other W310 (Ne.symm njI)
  have f321 : AI Z h310 V (64 : Int32) fv := AIv306.other W310 (Ne.symm njV)
  have f322 : AI Z h310 T nT ft := AIt306.other W310 (Ne.symm njT)
  have f323 : AI Z h310 u nU fu := AIu306.other W310 (Ne.symm nju)
  have f324 : n0 ≤ h310.size := Nat.le_trans Z306 (Keep.of_wr W310).1
  obtain ⟨T325, X325, e325, st325⟩ := getF X310 hx hZ hown (host := "") (Or.inl (hw _ (List.mem_of_getElem? (i := 12) rfl))) Via.refl e310 f313 (g := (mkF m 24 #[.val (.ref j), .val (.int sv)] [(.ref j)])) rfl rfl (hb hby own_d5_24)
  obtain ⟨T326, X326, e326, st326⟩ := getF X325 hx hZ hown (host := "") (Or.inl (hw _ (List.mem_of_getElem? (i := 32) rfl))) Via.refl e325 f317 (g := (mkF m 28 #[.val (.ref j), .val (.int sv)] [(.ref j), (.ref A)])) rfl rfl (hb hby own_d5_28)
  obtain ⟨cl327, Ar327, -, S327, M327, H327⟩ := id f319
  obtain ⟨T328, X328, e328, st328⟩ := getF X326 hx hZ hown (host := "") (Or.inl (hw _ (List.mem_of_getElem? (i := 14) rfl))) Via.refl e326 f314 (g := (mkF m 33 #[.val (.ref j), .val (.int sv)] [(.ref j), (.ref u)])) rfl rfl (hb hby own_d5_33)
  obtain ⟨T329, X329, e329, st329⟩ := getF X328 hx hZ hown (host := "") (Or.inl (hw _ (List.mem_of_getElem? (i := 32) rfl))) Via.refl e328 f317 (g := (mkF m 37 #[.val (.ref j), .val (.int sv)] [(.ref j), (.ref I), (.ref u)])) rfl rfl (hb hby own_d5_37)
  obtain ⟨cl330, Ar330, S330, M330, H330⟩ := id f320
  have pre331 : ∀ t, Steps p.tables e below (T329.setTop (mkF m 41 #[.val (.ref j), .val (.int sv)] [(.int (fi (ln - (1 : Int32)))), (.ref u)])) t → Steps p.tables e below (s₁.setTop (entryFrame m #[(.ref j)] 2)) t := fun tt kk => pre308 tt (by
    show Steps p.tables e below (T307.setTop (mkF m 10 #[.val (.ref j), .val (.int sv)] [(.int sv), (.int ln)])) _
    refine XS.icmpNo X307.here hx rfl (hb hby own_d5_10) rfl (tlt (hgo0)).2.2.2 ?_
    show Steps p.tables e below (T307.setTop (mkF m 13 #[.val (.ref j), .val (.int sv)] [])) _
    refine XS.aloadN X307.here hx rfl (hb hby own_d5_13) rfl rfl ?_
    show Steps p.tables e below (T307.setTop (mkF m 14 #[.val (.ref j), .val (.int sv)] [(.ref j)])) _
    refine XS.dup X307.here hx rfl (hb hby own_d5_14) rfl rfl ?_
    show Steps p.tables e below (T307.setTop (mkF m 15 #[.val (.ref j), .val (.int sv)] [(.ref j), (.ref j)])) _
    refine st309 _ ?_
    show Steps p.tables e below (T309.setTop (mkF m 18 #[.val (.ref j), .val (.int sv)] [(.int ln), (.ref j)])) _
    refine XS.iconst X309.here hx rfl (hb hby own_d5_18) ?_
    show Steps p.tables e below (T309.setTop (mkF m 19 #[.val (.ref j), .val (.int sv)] [(.int (1 : Int32)), (.int ln), (.ref j)])) _
    refine XS.isub X309.here hx rfl (hb hby own_d5_19) rfl ?_
    show Steps p.tables e below (T309.setTop (mkF m 20 #[.val (.ref j), .val (.int sv)] [(.int (ln - (1 : Int32))), (.ref j)])) _
    refine st310 _ ?_
    show Steps p.tables e below (T310.setTop (mkF m 23 #[.val (.ref j), .val (.int sv)] [])) _
    refine XS.aloadN X310.here hx rfl (hb hby own_d5_23) rfl rfl ?_
    show Steps p.tables e below (T310.setTop (mkF m 24 #[.val (.ref j), .val (.int sv)] [(.ref j)])) _
    refine st325 _ ?_
    show Steps p.tables e below (T325.setTop (mkF m 27 #[.val (.ref j), .val (.int sv)] [(.ref A)])) _
    refine XS.aloadN X325.here hx rfl (hb hby own_d5_27) rfl rfl ?_
    show Steps p.tables e below (T325.setTop (mkF m 28 #[.val (.ref j), .val (.int sv)] [(.ref j), (.ref A)])) _
    refine st326 _ ?_
    show Steps p.tables e below (T326.setTop (mkF m 31 #[.val (.ref j), .val (.int sv)] [(.int (ln - (1 : Int32))), (.ref A)])) _
    refine X326.aaload hx (j := (ln - (1 : Int32))) (v := (.ref u)) (by rw [e326]; exact Ar327.1) (State.isArrayOf_alike hZ.alike Ar327.2.1) rfl Ar327.2.2 (inb_of S327 ⟨hb0, hB0⟩) (H327 _ hb0 hm0) (g := (mkF m 31 #[.val (.ref j), .val (.int sv)] [(.int (ln - (1 : Int32))), (.ref A)])) rfl rfl (hb hby own_d5_31) _ ?_
    show Steps p.tables e below (T326.setTop (mkF m 32 #[.val (.ref j), .val (.int sv)] [(.ref u)])) _
    refine XS.aloadN X326.here hx rfl (hb hby own_d5_32) rfl rfl ?_
    show Steps p.tables e below (T326.setTop (mkF m 33 #[.val (.ref j), .val (.int sv)] [(.ref j), (.ref u)])) _
    refine st328 _ ?_
    show Steps p.tables e below (T328.setTop (mkF m 36 #[.val (.ref j), .val (.int sv)] [(.ref I), (.ref u)])) _
    refine XS.aloadN X328.here hx rfl (hb hby own_d5_36) rfl rfl ?_
    show Steps p.tables e below (T328.setTop (mkF m 37 #[.val (.ref j), .val (.int sv)] [(.ref j), (.ref I), (.ref u)])) _
    refine st329 _ ?_
    show Steps p.tables e below (T329.setTop (mkF m 40 #[.val (.ref j), .val (.int sv)] [(.int (ln - (1 : Int32))), (.ref I), (.ref u)])) _
    refine X329.iaload hx (j := (ln - (1 : Int32))) (v := (.int (fi (ln - (1 : Int32))))) (by rw [e329]; exact Ar330.1) (State.isArrayOf_alike hZ.alike Ar330.2.1) Ar330.2.2 (inb_of S330 ⟨hb0, hB0⟩) (H330 _ hb0 hB0) (g := (mkF m 40 #[.val (.ref j), .val (.int sv)] [(.int (ln - (1 : Int32))), (.ref I), (.ref u)])) rfl rfl (hb hby own_d5_40) _ ?_
    exact kk)
  rw [hd0] at pre331
  obtain ⟨T332, X332, e332, st332⟩ := getF X329 hx hZ hown (host := "") (Or.inl (hw _ (List.mem_of_getElem? (i := 16) rfl))) Via.refl e329 f315 (g := (mkF m 42 #[.val (.ref j), .val (.int sv)] [(.ref j), (.int d0), (.ref u)])) rfl rfl (hb hby own_d5_42)
  obtain ⟨T333, X333, e333, st333⟩ := getF X332 hx hZ hown (host := "") (Or.inl (hw _ (List.mem_of_getElem? (i := 32) rfl))) Via.refl e332 f317 (g := (mkF m 46 #[.val (.ref j), .val (.int sv)] [(.ref j), (.ref V), (.int d0), (.ref u)])) rfl rfl (hb hby own_d5_46)
  obtain ⟨cl334, Ar334, S334, M334, H334⟩ := id f321
  have pre335 : ∀ t, Steps p.tables e below (T333.setTop (mkF m 50 #[.val (.ref j), .val (.int sv)] [(.int (fv (ln - (1 : Int32)))), (.int d0), (.ref u)])) t → Steps p.tables e below (s₁.setTop (entryFrame m #[(.ref j)] 2)) t := fun tt kk => pre331 tt (by
    show Steps p.tables e below (T329.setTop (mkF m 41 #[.val (.ref j), .val (.int sv)] [(.int d0), (.ref u)])) _
    refine XS.aloadN X329.here hx rfl (hb hby own_d5_41) rfl rfl ?_
    show Steps p.tables e below (T329.setTop (mkF m 42 #[.val (.ref j), .val (.int sv)] [(.ref j), (.int d0), (.ref u)])) _
    refine st332 _ ?_
    show Steps p.tables e below (T332.setTop (mkF m 45 #[.val (.ref j), .val (.int sv)] [(.ref V), (.int d0), (.ref u)])) _
    refine XS.aloadN X332.here hx rfl (hb hby own_d5_45) rfl rfl ?_
    show Steps p.tables e below (T332.setTop (mkF m 46 #[.val (.ref j), .val (.int sv)] [(.ref j), (.ref V), (.int d0), (.ref u)])) _
    refine st333 _ ?_
    show Steps p.tables e below (T333.setTop (mkF m 49 #[.val (.ref j), .val (.int sv)] [(.int (ln - (1 : Int32))), (.ref V), (.int d0), (.ref u)])) _
    refine X333.iaload hx (j := (ln - (1 : Int32))) (v := (.int (fv (ln - (1 : Int32))))) (by rw [e333]; exact Ar334.1) (State.isArrayOf_alike hZ.alike Ar334.2.1) Ar334.2.2 (inb_of S334 ⟨hb0, hB0⟩) (H334 _ hb0 hB0) (g := (mkF m 49 #[.val (.ref j), .val (.int sv)] [(.int (ln - (1 : Int32))), (.ref V), (.int d0), (.ref u)])) rfl rfl (hb hby own_d5_49) _ ?_
    exact kk)
  rw [hv0] at pre335
  obtain ⟨cl336, Ar336, S336, -, -⟩ := id f323
  obtain ⟨T337, h337, X337, e337, W337, st337⟩ := stI X333 hx hZ e333 Ar336 (j := d0) (inb_of S336 ⟨hd0_0, hdU_0⟩) (g := (mkF m 50 #[.val (.ref j), .val (.int sv)] [(.int v0), (.int d0), (.ref u)])) rfl rfl (hb hby own_d5_50)
  have N337 := Fr.snoc X337 N310 geu
  have f338 : Exa Z h337 j "com/example/envyless/envyless/Journal" := f311.wr W337
  have f339 : Exa Z h337 u "[I" := f312.wr W337
  have f340 : Fld Z h337 j "com/example/envyless/envyless/Journal" "arrays" "[[I" (.ref A) := f313.other W337 (Or.inl nju)
  have f341 : Fld Z h337 j "com/example/envyless/envyless/Journal" "indexes" "[I" (.ref I) := f314.other W337 (Or.inl nju)
  have f342 : Fld Z h337 j "com/example/envyless/envyless/Journal" "values" "[I" (.ref V) := f315.other W337 (Or.inl nju)
  have f343 : Fld Z h337 j "com/example/envyless/envyless/Journal" "starts" "[I" (.ref T) := f316.other W337 (Or.inl nju)
  have f344 : Fld Z h337 j "com/example/envyless/envyless/Journal" "length" "I" (.int (ln - (1 : Int32))) := f317.other W337 (Or.inl nju)
  have f345 : Fld Z h337 j "com/example/envyless/envyless/Journal" "open" "I" (.int opE) := f318.other W337 (Or.inl nju)
  have f346 : AA Z h337 A kA 64 ln u := f319.other W337 nAu
  have f347 : AI Z h337 I (64 : Int32) fi := f320.other W337 nIu
  have f348 : AI Z h337 V (64 : Int32) fv := f321.other W337 nVu
  have f349 : AI Z h337 T nT ft := f322.other W337 nTu
  have f350 : n0 ≤ h337.size := Nat.le_trans f324 (Keep.of_wr W337).1
  have V337 : AI Z h337 u nU (up fu d0 v0) := f323.set W337 hd0_0 hdU_0
  obtain ⟨T351, X351, e351, st351⟩ := getF X337 hx hZ hown (host := "") (Or.inl (hw _ (List.mem_of_getElem? (i := 32) rfl))) Via.refl e337 f344 (g := (mkF m 6 #[.val (.ref j), .val (.int sv)] [(.ref j)])) rfl rfl (hb hby own_d5_6)
  have pre352 : ∀ t, Steps p.tables e below (T351.setTop (mkF m 10 #[.val (.ref j), .val (.int sv)] [(.int sv), (.int (ln - (1 : Int32)))])) t → Steps p.tables e below (s₁.setTop (entryFrame m #[(.ref j)] 2)) t := fun tt kk => pre335 tt (by
    show Steps p.tables e below (T333.setTop (mkF m 50 #[.val (.ref j), .val (.int sv)] [(.int v0), (.int d0), (.ref u)])) _
    refine st337 _ ?_
    show Steps p.tables e below (T337.setTop (mkF m 51 #[.val (.ref j), .val (.int sv)] [])) _
    refine XS.goto X337.here hx rfl (pc0 := 51) (pc' := 5) rfl (hb hby own_d5_51) (by decide) (by decide) ?_
    show Steps p.tables e below (T337.setTop (mkF m 5 #[.val (.ref j), .val (.int sv)] [])) _
    refine XS.aloadN X337.here hx rfl (hb hby own_d5_5) rfl rfl ?_
    show Steps p.tables e below (T337.setTop (mkF m 6 #[.val (.ref j), .val (.int sv)] [(.ref j)])) _
    refine st351 _ ?_
    show Steps p.tables e below (T351.setTop (mkF m 9 #[.val (.ref j), .val (.int sv)] [(.int (ln - (1 : Int32)))])) _
    refine XS.iloadN X351.here hx rfl (hb hby own_d5_9) rfl ?_
    exact kk)
  obtain ⟨T353, X353, e353, st353⟩ := getF X351 hx hZ hown (host := "") (Or.inl (hw _ (List.mem_of_getElem? (i := 32) rfl))) Via.refl e351 f344 (g := (mkF m 15 #[.val (.ref j), .val (.int sv)] [(.ref j), (.ref j)])) rfl rfl (hb hby own_d5_15)
  obtain ⟨T354, h354, X354, e354, W354, st354⟩ := putF X353 hx hZ hown (host := "") (Or.inl (hw _ (List.mem_of_getElem? (i := 32) rfl))) Via.refl e353 f344 f338 (Or.inl (hw _ (List.mem_of_getElem? (i := 33) rfl))) (hw _ (List.mem_of_getElem? (i := 2) rfl)) (ty := .int) (by decide) rfl rfl (g := (mkF m 20 #[.val (.ref j), .val (.int sv)] [(.int ((ln - (1 : Int32)) - (1 : Int32))), (.ref j)])) rfl rfl (hb hby own_d5_20)
  have N354 := Fr.snoc X354 N337 gej
  have f355 : Exa Z h354 j "com/example/envyless/envyless/Journal" := f338.wr W354
  have f356 : Exa Z h354 u "[I" := f339.wr W354
  have f357 : Fld Z h354 j "com/example/envyless/envyless/Journal" "arrays" "[[I" (.ref A) := f340.other W354 (Or.inr (slot_ne (Or.inl (hw _ (List.mem_of_getElem? (i := 13) rfl))) (Or.inl (hw _ (List.mem_of_getElem? (i := 33) rfl))) (by decide) (t := (.array (.array .int))) (t' := .int) (by decide) (by decide)))
  have f358 : Fld Z h354 j "com/example/envyless/envyless/Journal" "indexes" "[I" (.ref I) := f341.other W354 (Or.inr (slot_ne (Or.inl (hw _ (List.mem_of_getElem? (i := 15) rfl))) (Or.inl (hw _ (List.mem_of_getElem? (i := 33) rfl))) (by decide) (t := (.array .int)) (t' := .int) (by decide) (by decide)))
  have f359 : Fld Z h354 j "com/example/envyless/envyless/Journal" "values" "[I" (.ref V) := f342.other W354 (Or.inr (slot_ne (Or.inl (hw _ (List.mem_of_getElem? (i := 17) rfl))) (Or.inl (hw _ (List.mem_of_getElem? (i := 33) rfl))) (by decide) (t := (.array .int)) (t' := .int) (by decide) (by decide)))
  have f360 : Fld Z h354 j "com/example/envyless/envyless/Journal" "starts" "[I" (.ref T) := f343.other W354 (Or.inr (slot_ne (Or.inl (hw _ (List.mem_of_getElem? (i := 19) rfl))) (Or.inl (hw _ (List.mem_of_getElem? (i := 33) rfl))) (by decide) (t := (.array .int)) (t' := .int) (by decide) (by decide)))
  have f361 : Fld Z h354 j "com/example/envyless/envyless/Journal" "length" "I" (.int ((ln - (1 : Int32)) - (1 : Int32))) := f344.same W354
  have f362 : Fld Z h354 j "com/example/envyless/envyless/Journal" "open" "I" (.int opE) := f345.other W354 (Or.inr (slot_ne (Or.inl (hw _ (List.mem_of_getElem? (i := 26) rfl))) (Or.inl (hw _ (List.mem_of_getElem? (i := 33) rfl))) (by decide) (t := .int) (t' := .int) (by decide) (by decide)))
  have f363 : AA Z h354 A kA 64 ln u := f346.other W354 (Ne.symm njA)
  have f364 : AI Z h354 I (64 : Int32) fi := f347.other W354 (Ne.symm njI)
  have f365 : AI Z h354 V (64 : Int32) fv := f348.other W354 (Ne.symm njV)
  have f366 : AI Z h354 T nT ft := f349.other W354 (Ne.symm njT)
  have f367 : n0 ≤ h354.size := Nat.le_trans f350 (Keep.of_wr W354).1
  have f368 : AI Z h354 u nU (up fu d0 v0) := V337.other W354 (Ne.symm nju)
  obtain ⟨T369, X369, e369, st369⟩ := getF X354 hx hZ hown (host := "") (Or.inl (hw _ (List.mem_of_getElem? (i := 12) rfl))) Via.refl e354 f357 (g := (mkF m 24 #[.val (.ref j), .val (.int sv)] [(.ref j)])) rfl rfl (hb hby own_d5_24)
  obtain ⟨T370, X370, e370, st370⟩ := getF X369 hx hZ hown (host := "") (Or.inl (hw _ (List.mem_of_getElem? (i := 32) rfl))) Via.refl e369 f361 (g := (mkF m 28 #[.val (.ref j), .val (.int sv)] [(.ref j), (.ref A)])) rfl rfl (hb hby own_d5_28)
  obtain ⟨cl371, Ar371, -, S371, M371, H371⟩ := id f363
  obtain ⟨T372, X372, e372, st372⟩ := getF X370 hx hZ hown (host := "") (Or.inl (hw _ (List.mem_of_getElem? (i := 14) rfl))) Via.refl e370 f358 (g := (mkF m 33 #[.val (.ref j), .val (.int sv)] [(.ref j), (.ref u)])) rfl rfl (hb hby own_d5_33)
  obtain ⟨T373, X373, e373, st373⟩ := getF X372 hx hZ hown (host := "") (Or.inl (hw _ (List.mem_of_getElem? (i := 32) rfl))) Via.refl e372 f361 (g := (mkF m 37 #[.val (.ref j), .val (.int sv)] [(.ref j), (.ref I), (.ref u)])) rfl rfl (hb hby own_d5_37)
  obtain ⟨cl374, Ar374, S374, M374, H374⟩ := id f364
  have pre375 : ∀ t, Steps p.tables e below (T373.setTop (mkF m 41 #[.val (.ref j), .val (.int sv)] [(.int (fi ((ln - (1 : Int32)) - (1 : Int32)))), (.ref u)])) t → Steps p.tables e below (s₁.setTop (entryFrame m #[(.ref j)] 2)) t := fun tt kk => pre352 tt (by
    show Steps p.tables e below (T351.setTop (mkF m 10 #[.val (.ref j), .val (.int sv)] [(.int sv), (.int (ln - (1 : Int32)))])) _
    refine XS.icmpNo X351.here hx rfl (hb hby own_d5_10) rfl (tlt (hgo1)).2.2.2 ?_
    show Steps p.tables e below (T351.setTop (mkF m 13 #[.val (.ref j), .val (.int sv)] [])) _
    refine XS.aloadN X351.here hx rfl (hb hby own_d5_13) rfl rfl ?_
    show Steps p.tables e below (T351.setTop (mkF m 14 #[.val (.ref j), .val (.int sv)] [(.ref j)])) _
    refine XS.dup X351.here hx rfl (hb hby own_d5_14) rfl rfl ?_
    show Steps p.tables e below (T351.setTop (mkF m 15 #[.val (.ref j), .val (.int sv)] [(.ref j), (.ref j)])) _
    refine st353 _ ?_
    show Steps p.tables e below (T353.setTop (mkF m 18 #[.val (.ref j), .val (.int sv)] [(.int (ln - (1 : Int32))), (.ref j)])) _
    refine XS.iconst X353.here hx rfl (hb hby own_d5_18) ?_
    show Steps p.tables e below (T353.setTop (mkF m 19 #[.val (.ref j), .val (.int sv)] [(.int (1 : Int32)), (.int (ln - (1 : Int32))), (.ref j)])) _
    refine XS.isub X353.here hx rfl (hb hby own_d5_19) rfl ?_
    show Steps p.tables e below (T353.setTop (mkF m 20 #[.val (.ref j), .val (.int sv)] [(.int ((ln - (1 : Int32)) - (1 : Int32))), (.ref j)])) _
    refine st354 _ ?_
    show Steps p.tables e below (T354.setTop (mkF m 23 #[.val (.ref j), .val (.int sv)] [])) _
    refine XS.aloadN X354.here hx rfl (hb hby own_d5_23) rfl rfl ?_
    show Steps p.tables e below (T354.setTop (mkF m 24 #[.val (.ref j), .val (.int sv)] [(.ref j)])) _
    refine st369 _ ?_
    show Steps p.tables e below (T369.setTop (mkF m 27 #[.val (.ref j), .val (.int sv)] [(.ref A)])) _
    refine XS.aloadN X369.here hx rfl (hb hby own_d5_27) rfl rfl ?_
    show Steps p.tables e below (T369.setTop (mkF m 28 #[.val (.ref j), .val (.int sv)] [(.ref j), (.ref A)])) _
    refine st370 _ ?_
    show Steps p.tables e below (T370.setTop (mkF m 31 #[.val (.ref j), .val (.int sv)] [(.int ((ln - (1 : Int32)) - (1 : Int32))), (.ref A)])) _
    refine X370.aaload hx (j := ((ln - (1 : Int32)) - (1 : Int32))) (v := (.ref u)) (by rw [e370]; exact Ar371.1) (State.isArrayOf_alike hZ.alike Ar371.2.1) rfl Ar371.2.2 (inb_of S371 ⟨hb1, hB1⟩) (H371 _ hb1 hm1) (g := (mkF m 31 #[.val (.ref j), .val (.int sv)] [(.int ((ln - (1 : Int32)) - (1 : Int32))), (.ref A)])) rfl rfl (hb hby own_d5_31) _ ?_
    show Steps p.tables e below (T370.setTop (mkF m 32 #[.val (.ref j), .val (.int sv)] [(.ref u)])) _
    refine XS.aloadN X370.here hx rfl (hb hby own_d5_32) rfl rfl ?_
    show Steps p.tables e below (T370.setTop (mkF m 33 #[.val (.ref j), .val (.int sv)] [(.ref j), (.ref u)])) _
    refine st372 _ ?_
    show Steps p.tables e below (T372.setTop (mkF m 36 #[.val (.ref j), .val (.int sv)] [(.ref I), (.ref u)])) _
    refine XS.aloadN X372.here hx rfl (hb hby own_d5_36) rfl rfl ?_
    show Steps p.tables e below (T372.setTop (mkF m 37 #[.val (.ref j), .val (.int sv)] [(.ref j), (.ref I), (.ref u)])) _
    refine st373 _ ?_
    show Steps p.tables e below (T373.setTop (mkF m 40 #[.val (.ref j), .val (.int sv)] [(.int ((ln - (1 : Int32)) - (1 : Int32))), (.ref I), (.ref u)])) _
    refine X373.iaload hx (j := ((ln - (1 : Int32)) - (1 : Int32))) (v := (.int (fi ((ln - (1 : Int32)) - (1 : Int32))))) (by rw [e373]; exact Ar374.1) (State.isArrayOf_alike hZ.alike Ar374.2.1) Ar374.2.2 (inb_of S374 ⟨hb1, hB1⟩) (H374 _ hb1 hB1) (g := (mkF m 40 #[.val (.ref j), .val (.int sv)] [(.int ((ln - (1 : Int32)) - (1 : Int32))), (.ref I), (.ref u)])) rfl rfl (hb hby own_d5_40) _ ?_
    exact kk)
  rw [hd1] at pre375
  obtain ⟨T376, X376, e376, st376⟩ := getF X373 hx hZ hown (host := "") (Or.inl (hw _ (List.mem_of_getElem? (i := 16) rfl))) Via.refl e373 f359 (g := (mkF m 42 #[.val (.ref j), .val (.int sv)] [(.ref j), (.int d1), (.ref u)])) rfl rfl (hb hby own_d5_42)
  obtain ⟨T377, X377, e377, st377⟩ := getF X376 hx hZ hown (host := "") (Or.inl (hw _ (List.mem_of_getElem? (i := 32) rfl))) Via.refl e376 f361 (g := (mkF m 46 #[.val (.ref j), .val (.int sv)] [(.ref j), (.ref V), (.int d1), (.ref u)])) rfl rfl (hb hby own_d5_46)
  obtain ⟨cl378, Ar378, S378, M378, H378⟩ := id f365
  have pre379 : ∀ t, Steps p.tables e below (T377.setTop (mkF m 50 #[.val (.ref j), .val (.int sv)] [(.int (fv ((ln - (1 : Int32)) - (1 : Int32)))), (.int d1), (.ref u)])) t → Steps p.tables e below (s₁.setTop (entryFrame m #[(.ref j)] 2)) t := fun tt kk => pre375 tt (by
    show Steps p.tables e below (T373.setTop (mkF m 41 #[.val (.ref j), .val (.int sv)] [(.int d1), (.ref u)])) _
    refine XS.aloadN X373.here hx rfl (hb hby own_d5_41) rfl rfl ?_
    show Steps p.tables e below (T373.setTop (mkF m 42 #[.val (.ref j), .val (.int sv)] [(.ref j), (.int d1), (.ref u)])) _
    refine st376 _ ?_
    show Steps p.tables e below (T376.setTop (mkF m 45 #[.val (.ref j), .val (.int sv)] [(.ref V), (.int d1), (.ref u)])) _
    refine XS.aloadN X376.here hx rfl (hb hby own_d5_45) rfl rfl ?_
    show Steps p.tables e below (T376.setTop (mkF m 46 #[.val (.ref j), .val (.int sv)] [(.ref j), (.ref V), (.int d1), (.ref u)])) _
    refine st377 _ ?_
    show Steps p.tables e below (T377.setTop (mkF m 49 #[.val (.ref j), .val (.int sv)] [(.int ((ln - (1 : Int32)) - (1 : Int32))), (.ref V), (.int d1), (.ref u)])) _
    refine X377.iaload hx (j := ((ln - (1 : Int32)) - (1 : Int32))) (v := (.int (fv ((ln - (1 : Int32)) - (1 : Int32))))) (by rw [e377]; exact Ar378.1) (State.isArrayOf_alike hZ.alike Ar378.2.1) Ar378.2.2 (inb_of S378 ⟨hb1, hB1⟩) (H378 _ hb1 hB1) (g := (mkF m 49 #[.val (.ref j), .val (.int sv)] [(.int ((ln - (1 : Int32)) - (1 : Int32))), (.ref V), (.int d1), (.ref u)])) rfl rfl (hb hby own_d5_49) _ ?_
    exact kk)
  rw [hv1] at pre379
  obtain ⟨cl380, Ar380, S380, -, -⟩ := id f368
  obtain ⟨T381, h381, X381, e381, W381, st381⟩ := stI X377 hx hZ e377 Ar380 (j := d1) (inb_of S380 ⟨hd0_1, hdU_1⟩) (g := (mkF m 50 #[.val (.ref j), .val (.int sv)] [(.int v1), (.int d1), (.ref u)])) rfl rfl (hb hby own_d5_50)
  have N381 := Fr.snoc X381 N354 geu
  have f382 : Exa Z h381 j "com/example/envyless/envyless/Journal" := f355.wr W381
  have f383 : Exa Z h381 u "[I" := f356.wr W381
  have f384 : Fld Z h381 j "com/example/envyless/envyless/Journal" "arrays" "[[I" (.ref A) := f357.other W381 (Or.inl nju)
  have f385 : Fld Z h381 j "com/example/envyless/envyless/Journal" "indexes" "[I" (.ref I) := f358.other W381 (Or.inl nju)
  have f386 : Fld Z h381 j "com/example/envyless/envyless/Journal" "values" "[I" (.ref V) := f359.other W381 (Or.inl nju)
  have f387 : Fld Z h381 j "com/example/envyless/envyless/Journal" "starts" "[I" (.ref T) := f360.other W381 (Or.inl nju)
  have f388 : Fld Z h381 j "com/example/envyless/envyless/Journal" "length" "I" (.int ((ln - (1 : Int32)) - (1 : Int32))) := f361.other W381 (Or.inl nju)
  have f389 : Fld Z h381 j "com/example/envyless/envyless/Journal" "open" "I" (.int opE) := f362.other W381 (Or.inl nju)
  have f390 : AA Z h381 A kA 64 ln u := f363.other W381 nAu
  have f391 : AI Z h381 I (64 : Int32) fi := f364.other W381 nIu
  have f392 : AI Z h381 V (64 : Int32) fv := f365.other W381 nVu
  have f393 : AI Z h381 T nT ft := f366.other W381 nTu
  have f394 : n0 ≤ h381.size := Nat.le_trans f367 (Keep.of_wr W381).1
  have V381 : AI Z h381 u nU (up (up fu d0 v0) d1 v1) := f368.set W381 hd0_1 hdU_1
  obtain ⟨T395, X395, e395, st395⟩ := getF X381 hx hZ hown (host := "") (Or.inl (hw _ (List.mem_of_getElem? (i := 32) rfl))) Via.refl e381 f388 (g := (mkF m 6 #[.val (.ref j), .val (.int sv)] [(.ref j)])) rfl rfl (hb hby own_d5_6)
  have pre396 : ∀ t, Steps p.tables e below (T395.setTop (mkF m 10 #[.val (.ref j), .val (.int sv)] [(.int sv), (.int ((ln - (1 : Int32)) - (1 : Int32)))])) t → Steps p.tables e below (s₁.setTop (entryFrame m #[(.ref j)] 2)) t := fun tt kk => pre379 tt (by
    show Steps p.tables e below (T377.setTop (mkF m 50 #[.val (.ref j), .val (.int sv)] [(.int v1), (.int d1), (.ref u)])) _
    refine st381 _ ?_
    show Steps p.tables e below (T381.setTop (mkF m 51 #[.val (.ref j), .val (.int sv)] [])) _
    refine XS.goto X381.here hx rfl (pc0 := 51) (pc' := 5) rfl (hb hby own_d5_51) (by decide) (by decide) ?_
    show Steps p.tables e below (T381.setTop (mkF m 5 #[.val (.ref j), .val (.int sv)] [])) _
    refine XS.aloadN X381.here hx rfl (hb hby own_d5_5) rfl rfl ?_
    show Steps p.tables e below (T381.setTop (mkF m 6 #[.val (.ref j), .val (.int sv)] [(.ref j)])) _
    refine st395 _ ?_
    show Steps p.tables e below (T395.setTop (mkF m 9 #[.val (.ref j), .val (.int sv)] [(.int ((ln - (1 : Int32)) - (1 : Int32)))])) _
    refine XS.iloadN X395.here hx rfl (hb hby own_d5_9) rfl ?_
    exact kk)
  obtain ⟨T397, X397, e397, st397⟩ := getF X395 hx hZ hown (host := "") (Or.inl (hw _ (List.mem_of_getElem? (i := 32) rfl))) Via.refl e395 f388 (g := (mkF m 15 #[.val (.ref j), .val (.int sv)] [(.ref j), (.ref j)])) rfl rfl (hb hby own_d5_15)
  obtain ⟨T398, h398, X398, e398, W398, st398⟩ := putF X397 hx hZ hown (host := "") (Or.inl (hw _ (List.mem_of_getElem? (i := 32) rfl))) Via.refl e397 f388 f382 (Or.inl (hw _ (List.mem_of_getElem? (i := 33) rfl))) (hw _ (List.mem_of_getElem? (i := 2) rfl)) (ty := .int) (by decide) rfl rfl (g := (mkF m 20 #[.val (.ref j), .val (.int sv)] [(.int (((ln - (1 : Int32)) - (1 : Int32)) - (1 : Int32))), (.ref j)])) rfl rfl (hb hby own_d5_20)
  have N398 := Fr.snoc X398 N381 gej
  have f399 : Exa Z h398 j "com/example/envyless/envyless/Journal" := f382.wr W398
  have f400 : Exa Z h398 u "[I" := f383.wr W398
  have f401 : Fld Z h398 j "com/example/envyless/envyless/Journal" "arrays" "[[I" (.ref A) := f384.other W398 (Or.inr (slot_ne (Or.inl (hw _ (List.mem_of_getElem? (i := 13) rfl))) (Or.inl (hw _ (List.mem_of_getElem? (i := 33) rfl))) (by decide) (t := (.array (.array .int))) (t' := .int) (by decide) (by decide)))
  have f402 : Fld Z h398 j "com/example/envyless/envyless/Journal" "indexes" "[I" (.ref I) := f385.other W398 (Or.inr (slot_ne (Or.inl (hw _ (List.mem_of_getElem? (i := 15) rfl))) (Or.inl (hw _ (List.mem_of_getElem? (i := 33) rfl))) (by decide) (t := (.array .int)) (t' := .int) (by decide) (by decide)))
  have f403 : Fld Z h398 j "com/example/envyless/envyless/Journal" "values" "[I" (.ref V) := f386.other W398 (Or.inr (slot_ne (Or.inl (hw _ (List.mem_of_getElem? (i := 17) rfl))) (Or.inl (hw _ (List.mem_of_getElem? (i := 33) rfl))) (by decide) (t := (.array .int)) (t' := .int) (by decide) (by decide)))
  have f404 : Fld Z h398 j "com/example/envyless/envyless/Journal" "starts" "[I" (.ref T) := f387.other W398 (Or.inr (slot_ne (Or.inl (hw _ (List.mem_of_getElem? (i := 19) rfl))) (Or.inl (hw _ (List.mem_of_getElem? (i := 33) rfl))) (by decide) (t := (.array .int)) (t' := .int) (by decide) (by decide)))
  have f405 : Fld Z h398 j "com/example/envyless/envyless/Journal" "length" "I" (.int (((ln - (1 : Int32)) - (1 : Int32)) - (1 : Int32))) := f388.same W398
  have f406 : Fld Z h398 j "com/example/envyless/envyless/Journal" "open" "I" (.int opE) := f389.other W398 (Or.inr (slot_ne (Or.inl (hw _ (List.mem_of_getElem? (i := 26) rfl))) (Or.inl (hw _ (List.mem_of_getElem? (i := 33) rfl))) (by decide) (t := .int) (t' := .int) (by decide) (by decide)))
  have f407 : AA Z h398 A kA 64 ln u := f390.other W398 (Ne.symm njA)
  have f408 : AI Z h398 I (64 : Int32) fi := f391.other W398 (Ne.symm njI)
  have f409 : AI Z h398 V (64 : Int32) fv := f392.other W398 (Ne.symm njV)
  have f410 : AI Z h398 T nT ft := f393.other W398 (Ne.symm njT)
  have f411 : n0 ≤ h398.size := Nat.le_trans f394 (Keep.of_wr W398).1
  have f412 : AI Z h398 u nU (up (up fu d0 v0) d1 v1) := V381.other W398 (Ne.symm nju)
  obtain ⟨T413, X413, e413, st413⟩ := getF X398 hx hZ hown (host := "") (Or.inl (hw _ (List.mem_of_getElem? (i := 12) rfl))) Via.refl e398 f401 (g := (mkF m 24 #[.val (.ref j), .val (.int sv)] [(.ref j)])) rfl rfl (hb hby own_d5_24)
  obtain ⟨T414, X414, e414, st414⟩ := getF X413 hx hZ hown (host := "") (Or.inl (hw _ (List.mem_of_getElem? (i := 32) rfl))) Via.refl e413 f405 (g := (mkF m 28 #[.val (.ref j), .val (.int sv)] [(.ref j), (.ref A)])) rfl rfl (hb hby own_d5_28)
  obtain ⟨cl415, Ar415, -, S415, M415, H415⟩ := id f407
  obtain ⟨T416, X416, e416, st416⟩ := getF X414 hx hZ hown (host := "") (Or.inl (hw _ (List.mem_of_getElem? (i := 14) rfl))) Via.refl e414 f402 (g := (mkF m 33 #[.val (.ref j), .val (.int sv)] [(.ref j), (.ref u)])) rfl rfl (hb hby own_d5_33)
  obtain ⟨T417, X417, e417, st417⟩ := getF X416 hx hZ hown (host := "") (Or.inl (hw _ (List.mem_of_getElem? (i := 32) rfl))) Via.refl e416 f405 (g := (mkF m 37 #[.val (.ref j), .val (.int sv)] [(.ref j), (.ref I), (.ref u)])) rfl rfl (hb hby own_d5_37)
  obtain ⟨cl418, Ar418, S418, M418, H418⟩ := id f408
  have pre419 : ∀ t, Steps p.tables e below (T417.setTop (mkF m 41 #[.val (.ref j), .val (.int sv)] [(.int (fi (((ln - (1 : Int32)) - (1 : Int32)) - (1 : Int32)))), (.ref u)])) t → Steps p.tables e below (s₁.setTop (entryFrame m #[(.ref j)] 2)) t := fun tt kk => pre396 tt (by
    show Steps p.tables e below (T395.setTop (mkF m 10 #[.val (.ref j), .val (.int sv)] [(.int sv), (.int ((ln - (1 : Int32)) - (1 : Int32)))])) _
    refine XS.icmpNo X395.here hx rfl (hb hby own_d5_10) rfl (tlt (hgo2)).2.2.2 ?_
    show Steps p.tables e below (T395.setTop (mkF m 13 #[.val (.ref j), .val (.int sv)] [])) _
    refine XS.aloadN X395.here hx rfl (hb hby own_d5_13) rfl rfl ?_
    show Steps p.tables e below (T395.setTop (mkF m 14 #[.val (.ref j), .val (.int sv)] [(.ref j)])) _
    refine XS.dup X395.here hx rfl (hb hby own_d5_14) rfl rfl ?_
    show Steps p.tables e below (T395.setTop (mkF m 15 #[.val (.ref j), .val (.int sv)] [(.ref j), (.ref j)])) _
    refine st397 _ ?_
    show Steps p.tables e below (T397.setTop (mkF m 18 #[.val (.ref j), .val (.int sv)] [(.int ((ln - (1 : Int32)) - (1 : Int32))), (.ref j)])) _
    refine XS.iconst X397.here hx rfl (hb hby own_d5_18) ?_
    show Steps p.tables e below (T397.setTop (mkF m 19 #[.val (.ref j), .val (.int sv)] [(.int (1 : Int32)), (.int ((ln - (1 : Int32)) - (1 : Int32))), (.ref j)])) _
    refine XS.isub X397.here hx rfl (hb hby own_d5_19) rfl ?_
    show Steps p.tables e below (T397.setTop (mkF m 20 #[.val (.ref j), .val (.int sv)] [(.int (((ln - (1 : Int32)) - (1 : Int32)) - (1 : Int32))), (.ref j)])) _
    refine st398 _ ?_
    show Steps p.tables e below (T398.setTop (mkF m 23 #[.val (.ref j), .val (.int sv)] [])) _
    refine XS.aloadN X398.here hx rfl (hb hby own_d5_23) rfl rfl ?_
    show Steps p.tables e below (T398.setTop (mkF m 24 #[.val (.ref j), .val (.int sv)] [(.ref j)])) _
    refine st413 _ ?_
    show Steps p.tables e below (T413.setTop (mkF m 27 #[.val (.ref j), .val (.int sv)] [(.ref A)])) _
    refine XS.aloadN X413.here hx rfl (hb hby own_d5_27) rfl rfl ?_
    show Steps p.tables e below (T413.setTop (mkF m 28 #[.val (.ref j), .val (.int sv)] [(.ref j), (.ref A)])) _
    refine st414 _ ?_
    show Steps p.tables e below (T414.setTop (mkF m 31 #[.val (.ref j), .val (.int sv)] [(.int (((ln - (1 : Int32)) - (1 : Int32)) - (1 : Int32))), (.ref A)])) _
    refine X414.aaload hx (j := (((ln - (1 : Int32)) - (1 : Int32)) - (1 : Int32))) (v := (.ref u)) (by rw [e414]; exact Ar415.1) (State.isArrayOf_alike hZ.alike Ar415.2.1) rfl Ar415.2.2 (inb_of S415 ⟨hb2, hB2⟩) (H415 _ hb2 hm2) (g := (mkF m 31 #[.val (.ref j), .val (.int sv)] [(.int (((ln - (1 : Int32)) - (1 : Int32)) - (1 : Int32))), (.ref A)])) rfl rfl (hb hby own_d5_31) _ ?_
    show Steps p.tables e below (T414.setTop (mkF m 32 #[.val (.ref j), .val (.int sv)] [(.ref u)])) _
    refine XS.aloadN X414.here hx rfl (hb hby own_d5_32) rfl rfl ?_
    show Steps p.tables e below (T414.setTop (mkF m 33 #[.val (.ref j), .val (.int sv)] [(.ref j), (.ref u)])) _
    refine st416 _ ?_
    show Steps p.tables e below (T416.setTop (mkF m 36 #[.val (.ref j), .val (.int sv)] [(.ref I), (.ref u)])) _
    refine XS.aloadN X416.here hx rfl (hb hby own_d5_36) rfl rfl ?_
    show Steps p.tables e below (T416.setTop (mkF m 37 #[.val (.ref j), .val (.int sv)] [(.ref j), (.ref I), (.ref u)])) _
    refine st417 _ ?_
    show Steps p.tables e below (T417.setTop (mkF m 40 #[.val (.ref j), .val (.int sv)] [(.int (((ln - (1 : Int32)) - (1 : Int32)) - (1 : Int32))), (.ref I), (.ref u)])) _
    refine X417.iaload hx (j := (((ln - (1 : Int32)) - (1 : Int32)) - (1 : Int32))) (v := (.int (fi (((ln - (1 : Int32)) - (1 : Int32)) - (1 : Int32))))) (by rw [e417]; exact Ar418.1) (State.isArrayOf_alike hZ.alike Ar418.2.1) Ar418.2.2 (inb_of S418 ⟨hb2, hB2⟩) (H418 _ hb2 hB2) (g := (mkF m 40 #[.val (.ref j), .val (.int sv)] [(.int (((ln - (1 : Int32)) - (1 : Int32)) - (1 : Int32))), (.ref I), (.ref u)])) rfl rfl (hb hby own_d5_40) _ ?_
    exact kk)
  rw [hd2] at pre419
  obtain ⟨T420, X420, e420, st420⟩ := getF X417 hx hZ hown (host := "") (Or.inl (hw _ (List.mem_of_getElem? (i := 16) rfl))) Via.refl e417 f403 (g := (mkF m 42 #[.val (.ref j), .val (.int sv)] [(.ref j), (.int d2), (.ref u)])) rfl rfl (hb hby own_d5_42)
  obtain ⟨T421, X421, e421, st421⟩ := getF X420 hx hZ hown (host := "") (Or.inl (hw _ (List.mem_of_getElem? (i := 32) rfl))) Via.refl e420 f405 (g := (mkF m 46 #[.val (.ref j), .val (.int sv)] [(.ref j), (.ref V), (.int d2), (.ref u)])) rfl rfl (hb hby own_d5_46)
  obtain ⟨cl422, Ar422, S422, M422, H422⟩ := id f409
  have pre423 : ∀ t, Steps p.tables e below (T421.setTop (mkF m 50 #[.val (.ref j), .val (.int sv)] [(.int (fv (((ln - (1 : Int32)) - (1 : Int32)) - (1 : Int32)))), (.int d2), (.ref u)])) t → Steps p.tables e below (s₁.setTop (entryFrame m #[(.ref j)] 2)) t := fun tt kk => pre419 tt (by
    show Steps p.tables e below (T417.setTop (mkF m 41 #[.val (.ref j), .val (.int sv)] [(.int d2), (.ref u)])) _
    refine XS.aloadN X417.here hx rfl (hb hby own_d5_41) rfl rfl ?_
    show Steps p.tables e below (T417.setTop (mkF m 42 #[.val (.ref j), .val (.int sv)] [(.ref j), (.int d2), (.ref u)])) _
    refine st420 _ ?_
    show Steps p.tables e below (T420.setTop (mkF m 45 #[.val (.ref j), .val (.int sv)] [(.ref V), (.int d2), (.ref u)])) _
    refine XS.aloadN X420.here hx rfl (hb hby own_d5_45) rfl rfl ?_
    show Steps p.tables e below (T420.setTop (mkF m 46 #[.val (.ref j), .val (.int sv)] [(.ref j), (.ref V), (.int d2), (.ref u)])) _
    refine st421 _ ?_
    show Steps p.tables e below (T421.setTop (mkF m 49 #[.val (.ref j), .val (.int sv)] [(.int (((ln - (1 : Int32)) - (1 : Int32)) - (1 : Int32))), (.ref V), (.int d2), (.ref u)])) _
    refine X421.iaload hx (j := (((ln - (1 : Int32)) - (1 : Int32)) - (1 : Int32))) (v := (.int (fv (((ln - (1 : Int32)) - (1 : Int32)) - (1 : Int32))))) (by rw [e421]; exact Ar422.1) (State.isArrayOf_alike hZ.alike Ar422.2.1) Ar422.2.2 (inb_of S422 ⟨hb2, hB2⟩) (H422 _ hb2 hB2) (g := (mkF m 49 #[.val (.ref j), .val (.int sv)] [(.int (((ln - (1 : Int32)) - (1 : Int32)) - (1 : Int32))), (.ref V), (.int d2), (.ref u)])) rfl rfl (hb hby own_d5_49) _ ?_
    exact kk)
  rw [hv2] at pre423
  obtain ⟨cl424, Ar424, S424, -, -⟩ := id f412
  obtain ⟨T425, h425, X425, e425, W425, st425⟩ := stI X421 hx hZ e421 Ar424 (j := d2) (inb_of S424 ⟨hd0_2, hdU_2⟩) (g := (mkF m 50 #[.val (.ref j), .val (.int sv)] [(.int v2), (.int d2), (.ref u)])) rfl rfl (hb hby own_d5_50)
  have N425 := Fr.snoc X425 N398 geu
  have f426 : Exa Z h425 j "com/example/envyless/envyless/Journal" := f399.wr W425
  have f427 : Exa Z h425 u "[I" := f400.wr W425
  have f428 : Fld Z h425 j "com/example/envyless/envyless/Journal" "arrays" "[[I" (.ref A) := f401.other W425 (Or.inl nju)
  have f429 : Fld Z h425 j "com/example/envyless/envyless/Journal" "indexes" "[I" (.ref I) := f402.other W425 (Or.inl nju)
  have f430 : Fld Z h425 j "com/example/envyless/envyless/Journal" "values" "[I" (.ref V) := f403.other W425 (Or.inl nju)
  have f431 : Fld Z h425 j "com/example/envyless/envyless/Journal" "starts" "[I" (.ref T) := f404.other W425 (Or.inl nju)
  have f432 : Fld Z h425 j "com/example/envyless/envyless/Journal" "length" "I" (.int (((ln - (1 : Int32)) - (1 : Int32)) - (1 : Int32))) := f405.other W425 (Or.inl nju)
  have f433 : Fld Z h425 j "com/example/envyless/envyless/Journal" "open" "I" (.int opE) := f406.other W425 (Or.inl nju)
  have f434 : AA Z h425 A kA 64 ln u := f407.other W425 nAu
  have f435 : AI Z h425 I (64 : Int32) fi := f408.other W425 nIu
  have f436 : AI Z h425 V (64 : Int32) fv := f409.other W425 nVu
  have f437 : AI Z h425 T nT ft := f410.other W425 nTu
  have f438 : n0 ≤ h425.size := Nat.le_trans f411 (Keep.of_wr W425).1
  have V425 : AI Z h425 u nU (up (up (up fu d0 v0) d1 v1) d2 v2) := f412.set W425 hd0_2 hdU_2
  obtain ⟨T439, X439, e439, st439⟩ := getF X425 hx hZ hown (host := "") (Or.inl (hw _ (List.mem_of_getElem? (i := 32) rfl))) Via.refl e425 f432 (g := (mkF m 6 #[.val (.ref j), .val (.int sv)] [(.ref j)])) rfl rfl (hb hby own_d5_6)
  have pre440 : ∀ t, Steps p.tables e below (T439.setTop (mkF m 10 #[.val (.ref j), .val (.int sv)] [(.int sv), (.int (((ln - (1 : Int32)) - (1 : Int32)) - (1 : Int32)))])) t → Steps p.tables e below (s₁.setTop (entryFrame m #[(.ref j)] 2)) t := fun tt kk => pre423 tt (by
    show Steps p.tables e below (T421.setTop (mkF m 50 #[.val (.ref j), .val (.int sv)] [(.int v2), (.int d2), (.ref u)])) _
    refine st425 _ ?_
    show Steps p.tables e below (T425.setTop (mkF m 51 #[.val (.ref j), .val (.int sv)] [])) _
    refine XS.goto X425.here hx rfl (pc0 := 51) (pc' := 5) rfl (hb hby own_d5_51) (by decide) (by decide) ?_
    show Steps p.tables e below (T425.setTop (mkF m 5 #[.val (.ref j), .val (.int sv)] [])) _
    refine XS.aloadN X425.here hx rfl (hb hby own_d5_5) rfl rfl ?_
    show Steps p.tables e below (T425.setTop (mkF m 6 #[.val (.ref j), .val (.int sv)] [(.ref j)])) _
    refine st439 _ ?_
    show Steps p.tables e below (T439.setTop (mkF m 9 #[.val (.ref j), .val (.int sv)] [(.int (((ln - (1 : Int32)) - (1 : Int32)) - (1 : Int32)))])) _
    refine XS.iloadN X439.here hx rfl (hb hby own_d5_9) rfl ?_
    exact kk)
  obtain ⟨fs, hr, hrun, hended, hW, hsame⟩ := X439.leave (v := none) (fun _ => rfl)
  refine ⟨_, _, pre440 _ ?_, hrun, hended, _, _, rfl, ?_, ⟨_, rfl⟩, hW, hsame.mono (by decide) (by decide)⟩
  · show Steps p.tables e below (T439.setTop (mkF m 10 #[.val (.ref j), .val (.int sv)] [(.int sv), (.int (((ln - (1 : Int32)) - (1 : Int32)) - (1 : Int32)))])) _
    refine XS.icmpYes X439.here hx rfl (pc0 := 10) (pc' := 54) rfl (hb hby own_d5_10) rfl (flt (hend)).2.2.2 (by decide) (by decide) ?_
    show Steps p.tables e below (T439.setTop (mkF m 54 #[.val (.ref j), .val (.int sv)] [])) _
    exact X439.returnOut hx Bd.returns (hb hby own_d5_54) hr
  · show JQ Z _ j A I V _ u kA _ _ _ _ _ _ _ _ n0 _ T439.heap _
    rw [e439]
    exact ⟨rfl, N425, f438, f426, f428, f429, f430, f431, f432, f433, f434.le hle, f435, f436, f437, V425, f427, Ov⟩
theorem own_d1_0 : decode prog_22_method_1_code 0 = .ok (.aload_n 0, 1) := by decide +kernel
theorem own_d1_1 : decode prog_22_method_1_code 1 = .ok (.invokespecial 1, 3) := by decide +kernel
theorem own_d1_4 : decode prog_22_method_1_code 4 = .ok (.aload_n 0, 1) := by decide +kernel
theorem own_d1_5 : decode prog_22_method_1_code 5 = .ok (.bipush 64, 2) := by decide +kernel
theorem own_d1_7 : decode prog_22_method_1_code 7 = .ok (.anewarray 7, 3) := by decide +kernel
theorem own_d1_10 : decode prog_22_method_1_code 10 = .ok (.putfield 9, 3) := by decide +kernel
theorem own_d1_13 : decode prog_22_method_1_code 13 = .ok (.aload_n 0, 1) := by decide +kernel
theorem own_d1_14 : decode prog_22_method_1_code 14 = .ok (.bipush 64, 2) := by decide +kernel
theorem own_d1_16 : decode prog_22_method_1_code 16 = .ok (.newarray .int, 2) := by decide +kernel
theorem own_d1_18 : decode prog_22_method_1_code 18 = .ok (.putfield 15, 3) := by decide +kernel
theorem own_d1_21 : decode prog_22_method_1_code 21 = .ok (.aload_n 0, 1) := by decide +kernel
theorem own_d1_22 : decode prog_22_method_1_code 22 = .ok (.bipush 64, 2) := by decide +kernel
theorem own_d1_24 : decode prog_22_method_1_code 24 = .ok (.newarray .int, 2) := by decide +kernel
theorem own_d1_26 : decode prog_22_method_1_code 26 = .ok (.putfield 18, 3) := by decide +kernel
theorem own_d1_29 : decode prog_22_method_1_code 29 = .ok (.aload_n 0, 1) := by decide +kernel
theorem own_d1_30 : decode prog_22_method_1_code 30 = .ok (.bipush 8, 2) := by decide +kernel
theorem own_d1_32 : decode prog_22_method_1_code 32 = .ok (.newarray .int, 2) := by decide +kernel
theorem own_d1_34 : decode prog_22_method_1_code 34 = .ok (.putfield 21, 3) := by decide +kernel
theorem own_d1_37 : decode prog_22_method_1_code 37 = .ok (.return_, 1) := by decide +kernel
set_option maxRecDepth 65536 in
set_option maxHeartbeats 40000000 in
theorem rm_init (l : Launch) (Z : State) (a0 : Array Value) (hw : ∀ d ∈ tables_1, d.before a0 Z = true) (ws : List Jvm.Cond) (j : Addr) (h0 : Heap) (n0 : Nat) (Z0 : n0 ≤ h0.size) (Ej : Exa Z h0 j "com/example/envyless/envyless/Journal") (F_arrays : Fld Z h0 j "com/example/envyless/envyless/Journal" "arrays" "[[I" .null) (F_indexes : Fld Z h0 j "com/example/envyless/envyless/Journal" "indexes" "[I" .null) (F_values : Fld Z h0 j "com/example/envyless/envyless/Journal" "values" "[I" .null) (F_starts : Fld Z h0 j "com/example/envyless/envyless/Journal" "starts" "[I" .null) (F_length : Fld Z h0 j "com/example/envyless/envyless/Journal" "length" "I" (.int (0 : Int32))) (F_open : Fld Z h0 j "com/example/envyless/envyless/Journal" "open" "I" (.int (0 : Int32))) (gej : n0 ≤ j) :
    MetFree l (⟨"com/example/envyless/envyless/Journal", "<init>", "()V"⟩ : MethodName) (head1 (Jvm.Cond.code (⟨"com/example/envyless/envyless/Journal", "<init>", "()V"⟩ : MethodName) prog_22_method_1_code 1 none :: ws) ({ frames := 1, cells := 4, slots := 200, locals := 12 } : Room)) (fun a U => a = #[(.ref j)] ∧ Z.Warmed39 U.vm ∧ U.heap = h0) (fun _ _ _ _ _ => True) (fun _ U o U' => ∃ v L, o = .returned v ∧ JC Z j h0 n0 v U'.heap L ∧ FrameEnd U o U' L ({ frames := 1, cells := 4, slots := 200, locals := 12 } : Room).cells ({ frames := 1, cells := 4, slots := 200, locals := 12 } : Room).slots) := by
  refine MetFree.of_bodySF (plainFor_of_name (by first | (simp [plainName, overriddenIn]; done) | decide +kernel)) hisR ?_
  intro p e s m args below meth c s₁ Bd hml0 hP hK
  obtain ⟨rfl, hZ, hh⟩ := hP
  have hx := Bd.exec
  have hby := Bd.bytes
  have hml : c.maxLocals = 1 := hml0
  have hown : s.vm.findClass "com/example/envyless/envyless/Journal" = some m.cls := findClass_of_methodNamed Bd.named
  have hnm := (name_of_methodNamed Bd.named Bd.method).1
  have X0 : Stand p l e ({ frames := 1, cells := 4, slots := 200, locals := 12 } : Room) s m #[(.ref j)] below meth c s₁ [] 0 0 := Stand.of_body Bd
  have e0 : s₁.heap = h0 := by rw [← hh, Bd.state]; rfl
  have N0 := Fr.nil n0
  have ef0 : entryFrame m #[(.ref j)] 1 = mkF m 0 #[.val (.ref j)] [] := by first | (simp [entryFrame, mkF, argsToLocals, Value.category, maxLocals]; done) | rfl
  have pre0 : ∀ t, Steps p.tables e below (s₁.setTop (mkF m 0 #[.val (.ref j)] [])) t → Steps p.tables e below (s₁.setTop (entryFrame m #[(.ref j)] 1)) t := fun t k => castTop ef0 k
  obtain ⟨T441, X441, e441, st441⟩ := initO X0 hx hZ hown (hw _ (List.mem_of_getElem? (i := 7) rfl)) (hw _ (List.mem_of_getElem? (i := 8) rfl)) (hw _ (List.mem_of_getElem? (i := 9) rfl)) e0 (g := (mkF m 1 #[.val (.ref j)] [(.ref j)])) rfl (by rw [hml]; rfl) rfl (hb hby own_d1_1) (by decide) (W := 0) (by show 2 * 0 + _ ≤ _; exact Nat.le_of_eq rfl) (by decide)
  obtain ⟨T442, h442, k442, X442, e442, E442, A442, B442, O442, st442⟩ := newRA X441 hx hZ hown (ty := .int) (by decide) (hw _ (List.mem_of_getElem? (i := 10) rfl)) (hw _ (List.mem_of_getElem? (i := 11) rfl)) e441 (g := (mkF m 7 #[.val (.ref j)] [(.int (64 : Int32)), (.ref j)])) rfl (hb hby own_d1_7) rfl (by decide) (cap := 64) (by decide) (by decide) (by decide) (by decide) (ad := "[[I") (by decide)
  obtain ⟨b442, g442⟩ : ∃ z, z = h0.size := ⟨_, rfl⟩
  rw [← g442] at A442 B442 st442
  have ne_j_b442 : j ≠ b442 := Nat.ne_of_lt (Nat.lt_of_lt_of_le (Ej).lt (Nat.le_of_eq g442.symm))
  have ge_b442 : n0 ≤ b442 := Nat.le_trans Z0 (Nat.le_of_eq g442.symm)
  have sz_b442 : h0.size ≤ b442 := Nat.le_trans (Keep.refl h0 [j]).1 (Nat.le_of_eq g442.symm)
  have f443 : n0 ≤ h442.size := Nat.le_trans Z0 E442.1
  have f444 : Keep h0 h442 [j] := (Keep.refl h0 [j]).ext E442
  have f445 : Exa Z h442 j "com/example/envyless/envyless/Journal" := Ej.ext E442
  have f446 : Fld Z h442 j "com/example/envyless/envyless/Journal" "arrays" "[[I" .null := F_arrays.ext E442
  have f447 : Fld Z h442 j "com/example/envyless/envyless/Journal" "indexes" "[I" .null := F_indexes.ext E442
  have f448 : Fld Z h442 j "com/example/envyless/envyless/Journal" "values" "[I" .null := F_values.ext E442
  have f449 : Fld Z h442 j "com/example/envyless/envyless/Journal" "starts" "[I" .null := F_starts.ext E442
  have f450 : Fld Z h442 j "com/example/envyless/envyless/Journal" "length" "I" (.int (0 : Int32)) := F_length.ext E442
  have f451 : Fld Z h442 j "com/example/envyless/envyless/Journal" "open" "I" (.int (0 : Int32)) := F_open.ext E442
  have V442 : ∀ uu, AA Z h442 b442 k442 64 0 uu := fun uu => AA.new A442 (by decide)
  obtain ⟨T452, h452, X452, e452, W452, st452⟩ := putF X442 hx hZ hown (host := "") (Or.inl (hw _ (List.mem_of_getElem? (i := 12) rfl))) Via.refl e442 f446 f445 (Or.inl (hw _ (List.mem_of_getElem? (i := 13) rfl))) (hw _ (List.mem_of_getElem? (i := 2) rfl)) (ty := (.array (.array .int))) (by decide) rfl rfl (g := (mkF m 10 #[.val (.ref j)] [(.ref b442), (.ref j)])) rfl rfl (hb hby own_d1_10)
  have N452 := Fr.snoc X452 N0 gej
  have f453 : n0 ≤ h452.size := Nat.le_trans f443 (Keep.of_wr W452).1
  have f454 : Keep h0 h452 [j] := f444.wr W452 (Or.inl (List.mem_of_getElem? (i := 0) rfl))
  have f455 : Exa Z h452 j "com/example/envyless/envyless/Journal" := f445.wr W452
  have f456 : Fld Z h452 j "com/example/envyless/envyless/Journal" "arrays" "[[I" (.ref b442) := f446.same W452
  have f457 : Fld Z h452 j "com/example/envyless/envyless/Journal" "indexes" "[I" .null := f447.other W452 (Or.inr (slot_ne (Or.inl (hw _ (List.mem_of_getElem? (i := 15) rfl))) (Or.inl (hw _ (List.mem_of_getElem? (i := 13) rfl))) (by decide) (t := (.array .int)) (t' := (.array (.array .int))) (by decide) (by decide)))
  have f458 : Fld Z h452 j "com/example/envyless/envyless/Journal" "values" "[I" .null := f448.other W452 (Or.inr (slot_ne (Or.inl (hw _ (List.mem_of_getElem? (i := 17) rfl))) (Or.inl (hw _ (List.mem_of_getElem? (i := 13) rfl))) (by decide) (t := (.array .int)) (t' := (.array (.array .int))) (by decide) (by decide)))
  have f459 : Fld Z h452 j "com/example/envyless/envyless/Journal" "starts" "[I" .null := f449.other W452 (Or.inr (slot_ne (Or.inl (hw _ (List.mem_of_getElem? (i := 19) rfl))) (Or.inl (hw _ (List.mem_of_getElem? (i := 13) rfl))) (by decide) (t := (.array .int)) (t' := (.array (.array .int))) (by decide) (by decide)))
  have f460 : Fld Z h452 j "com/example/envyless/envyless/Journal" "length" "I" (.int (0 : Int32)) := f450.other W452 (Or.inr (slot_ne (Or.inl (hw _ (List.mem_of_getElem? (i := 33) rfl))) (Or.inl (hw _ (List.mem_of_getElem? (i := 13) rfl))) (by decide) (t := .int) (t' := (.array (.array .int))) (by decide) (by decide)))
  have f461 : Fld Z h452 j "com/example/envyless/envyless/Journal" "open" "I" (.int (0 : Int32)) := f451.other W452 (Or.inr (slot_ne (Or.inl (hw _ (List.mem_of_getElem? (i := 26) rfl))) (Or.inl (hw _ (List.mem_of_getElem? (i := 13) rfl))) (by decide) (t := .int) (t' := (.array (.array .int))) (by decide) (by decide)))
  have f462 : ∀ uu, AA Z h452 b442 k442 64 0 uu := fun uu => (V442 uu).other W452 (Ne.symm ne_j_b442)
  obtain ⟨T463, h463, k463, X463, e463, E463, A463, st463⟩ := newP X452 hx hZ (hw _ (List.mem_of_getElem? (i := 0) rfl)) e452 (g := (mkF m 16 #[.val (.ref j)] [(.int (64 : Int32)), (.ref j)])) rfl (hb hby own_d1_16) rfl (by decide) (cap := 64) (by decide) (by decide) (by decide) (by decide)
  obtain ⟨b463, g463⟩ : ∃ z, z = h452.size := ⟨_, rfl⟩
  rw [← g463] at A463 st463
  have ne_j_b463 : j ≠ b463 := Nat.ne_of_lt (Nat.lt_of_lt_of_le (f455).lt (Nat.le_of_eq g463.symm))
  have ne_b442_b463 : b442 ≠ b463 := Nat.ne_of_lt (Nat.lt_of_lt_of_le ((f462 0)).lt (Nat.le_of_eq g463.symm))
  have ge_b463 : n0 ≤ b463 := Nat.le_trans f453 (Nat.le_of_eq g463.symm)
  have sz_b463 : h0.size ≤ b463 := Nat.le_trans f454.1 (Nat.le_of_eq g463.symm)
  have f464 : n0 ≤ h463.size := Nat.le_trans f453 E463.1
  have f465 : Keep h0 h463 [j] := f454.ext E463
  have f466 : Exa Z h463 j "com/example/envyless/envyless/Journal" := f455.ext E463
  have f467 : Fld Z h463 j "com/example/envyless/envyless/Journal" "arrays" "[[I" (.ref b442) := f456.ext E463
  have f468 : Fld Z h463 j "com/example/envyless/envyless/Journal" "indexes" "[I" .null := f457.ext E463
  have f469 : Fld Z h463 j "com/example/envyless/envyless/Journal" "values" "[I" .null := f458.ext E463
  have f470 : Fld Z h463 j "com/example/envyless/envyless/Journal" "starts" "[I" .null := f459.ext E463
  have f471 : Fld Z h463 j "com/example/envyless/envyless/Journal" "length" "I" (.int (0 : Int32)) := f460.ext E463
  have f472 : Fld Z h463 j "com/example/envyless/envyless/Journal" "open" "I" (.int (0 : Int32)) := f461.ext E463
  have f473 : ∀ uu, AA Z h463 b442 k442 64 0 uu := fun uu => (f462 uu).ext E463
  have V463 : AI Z h463 b463 (64 : Int32) (fun _ => 0) := AI.new A463 (by decide)
  obtain ⟨T474, h474, X474, e474, W474, st474⟩ := putF X463 hx hZ hown (host := "") (Or.inl (hw _ (List.mem_of_getElem? (i := 14) rfl))) Via.refl e463 f468 f466 (Or.inl (hw _ (List.mem_of_getElem? (i := 15) rfl))) (hw _ (List.mem_of_getElem? (i := 2) rfl)) (ty := (.array .int)) (by decide) rfl rfl (g := (mkF m 18 #[.val (.ref j)] [(.ref b463), (.ref j)])) rfl rfl (hb hby own_d1_18)
  have N474 := Fr.snoc X474 N452 gej
  have f475 : n0 ≤ h474.size := Nat.le_trans f464 (Keep.of_wr W474).1
  have f476 : Keep h0 h474 [j] := f465.wr W474 (Or.inl (List.mem_of_getElem? (i := 0) rfl))
  have f477 : Exa Z h474 j "com/example/envyless/envyless/Journal" := f466.wr W474
  have f478 : Fld Z h474 j "com/example/envyless/envyless/Journal" "arrays" "[[I" (.ref b442) := f467.other W474 (Or.inr (slot_ne (Or.inl (hw _ (List.mem_of_getElem? (i := 13) rfl))) (Or.inl (hw _ (List.mem_of_getElem? (i := 15) rfl))) (by decide) (t := (.array (.array .int))) (t' := (.array .int)) (by decide) (by decide)))
  have f479 : Fld Z h474 j "com/example/envyless/envyless/Journal" "indexes" "[I" (.ref b463) := f468.same W474
  have f480 : Fld Z h474 j "com/example/envyless/envyless/Journal" "values" "[I" .null := f469.other W474 (Or.inr (slot_ne (Or.inl (hw _ (List.mem_of_getElem? (i := 17) rfl))) (Or.inl (hw _ (List.mem_of_getElem? (i := 15) rfl))) (by decide) (t := (.array .int)) (t' := (.array .int)) (by decide) (by decide)))
  have f481 : Fld Z h474 j "com/example/envyless/envyless/Journal" "starts" "[I" .null := f470.other W474 (Or.inr (slot_ne (Or.inl (hw _ (List.mem_of_getElem? (i := 19) rfl))) (Or.inl (hw _ (List.mem_of_getElem? (i := 15) rfl))) (by decide) (t := (.array .int)) (t' := (.array .int)) (by decide) (by decide)))
  have f482 : Fld Z h474 j "com/example/envyless/envyless/Journal" "length" "I" (.int (0 : Int32)) := f471.other W474 (Or.inr (slot_ne (Or.inl (hw _ (List.mem_of_getElem? (i := 33) rfl))) (Or.inl (hw _ (List.mem_of_getElem? (i := 15) rfl))) (by decide) (t := .int) (t' := (.array .int)) (by decide) (by decide)))
  have f483 : Fld Z h474 j "com/example/envyless/envyless/Journal" "open" "I" (.int (0 : Int32)) := f472.other W474 (Or.inr (slot_ne (Or.inl (hw _ (List.mem_of_getElem? (i := 26) rfl))) (Or.inl (hw _ (List.mem_of_getElem? (i := 15) rfl))) (by decide) (t := .int) (t' := (.array .int)) (by decide) (by decide)))
  have f484 : ∀ uu, AA Z h474 b442 k442 64 0 uu := fun uu => (f473 uu).other W474 (Ne.symm ne_j_b442)
  have f485 : AI Z h474 b463 (64 : Int32) (fun _ => 0) := V463.other W474 (Ne.symm ne_j_b463)
  obtain ⟨T486, h486, k486, X486, e486, E486, A486, st486⟩ := newP X474 hx hZ (hw _ (List.mem_of_getElem? (i := 0) rfl)) e474 (g := (mkF m 24 #[.val (.ref j)] [(.int (64 : Int32)), (.ref j)])) rfl (hb hby own_d1_24) rfl (by decide) (cap := 64) (by decide) (by decide) (by decide) (by decide)
  obtain ⟨b486, g486⟩ : ∃ z, z = h474.size := ⟨_, rfl⟩
  rw [← g486] at A486 st486
  have ne_j_b486 : j ≠ b486 := Nat.ne_of_lt (Nat.lt_of_lt_of_le (f477).lt (Nat.le_of_eq g486.symm))
  have ne_b442_b486 : b442 ≠ b486 := Nat.ne_of_lt (Nat.lt_of_lt_of_le ((f484 0)).lt (Nat.le_of_eq g486.symm))
  have ne_b463_b486 : b463 ≠ b486 := Nat.ne_of_lt (Nat.lt_of_lt_of_le (f485).lt (Nat.le_of_eq g486.symm))
  have ge_b486 : n0 ≤ b486 := Nat.le_trans f475 (Nat.le_of_eq g486.symm)
  have sz_b486 : h0.size ≤ b486 := Nat.le_trans f476.1 (Nat.le_of_eq g486.symm)
  have f487 : n0 ≤ h486.size := Nat.le_trans f475 E486.1
  have f488 : Keep h0 h486 [j] := f476.ext E486
  have f489 : Exa Z h486 j "com/example/envyless/envyless/Journal" := f477.ext E486
  have f490 : Fld Z h486 j "com/example/envyless/envyless/Journal" "arrays" "[[I" (.ref b442) := f478.ext E486
  have f491 : Fld Z h486 j "com/example/envyless/envyless/Journal" "indexes" "[I" (.ref b463) := f479.ext E486
  have f492 : Fld Z h486 j "com/example/envyless/envyless/Journal" "values" "[I" .null := f480.ext E486
  have f493 : Fld Z h486 j "com/example/envyless/envyless/Journal" "starts" "[I" .null := f481.ext E486
  have f494 : Fld Z h486 j "com/example/envyless/envyless/Journal" "length" "I" (.int (0 : Int32)) := f482.ext E486
  have f495 : Fld Z h486 j "com/example/envyless/envyless/Journal" "open" "I" (.int (0 : Int32)) := f483.ext E486
  have f496 : ∀ uu, AA Z h486 b442 k442 64 0 uu := fun uu => (f484 uu).ext E486
  have f497 : AI Z h486 b463 (64 : Int32) (fun _ => 0) := f485.ext E486
  have V486 : AI Z h486 b486 (64 : Int32) (fun _ => 0) := AI.new A486 (by decide)
  obtain ⟨T498, h498, X498, e498, W498, st498⟩ := putF X486 hx hZ hown (host := "") (Or.inl (hw _ (List.mem_of_getElem? (i := 16) rfl))) Via.refl e486 f492 f489 (Or.inl (hw _ (List.mem_of_getElem? (i := 17) rfl))) (hw _ (List.mem_of_getElem? (i := 2) rfl)) (ty := (.array .int)) (by decide) rfl rfl (g := (mkF m 26 #[.val (.ref j)] [(.ref b486), (.ref j)])) rfl rfl (hb hby own_d1_26)
  have N498 := Fr.snoc X498 N474 gej
  have f499 : n0 ≤ h498.size := Nat.le_trans f487 (Keep.of_wr W498).1
  have f500 : Keep h0 h498 [j] := f488.wr W498 (Or.inl (List.mem_of_getElem? (i := 0) rfl))
  have f501 : Exa Z h498 j "com/example/envyless/envyless/Journal" := f489.wr W498
  have f502 : Fld Z h498 j "com/example/envyless/envyless/Journal" "arrays" "[[I" (.ref b442) := f490.other W498 (Or.inr (slot_ne (Or.inl (hw _ (List.mem_of_getElem? (i := 13) rfl))) (Or.inl (hw _ (List.mem_of_getElem? (i := 17) rfl))) (by decide) (t := (.array (.array .int))) (t' := (.array .int)) (by decide) (by decide)))
  have f503 : Fld Z h498 j "com/example/envyless/envyless/Journal" "indexes" "[I" (.ref b463) := f491.other W498 (Or.inr (slot_ne (Or.inl (hw _ (List.mem_of_getElem? (i := 15) rfl))) (Or.inl (hw _ (List.mem_of_getElem? (i := 17) rfl))) (by decide) (t := (.array .int)) (t' := (.array .int)) (by decide) (by decide)))
  have f504 : Fld Z h498 j "com/example/envyless/envyless/Journal" "values" "[I" (.ref b486) := f492.same W498
  have f505 : Fld Z h498 j "com/example/envyless/envyless/Journal" "starts" "[I" .null := f493.other W498 (Or.inr (slot_ne (Or.inl (hw _ (List.mem_of_getElem? (i := 19) rfl))) (Or.inl (hw _ (List.mem_of_getElem? (i := 17) rfl))) (by decide) (t := (.array .int)) (t' := (.array .int)) (by decide) (by decide)))
  have f506 : Fld Z h498 j "com/example/envyless/envyless/Journal" "length" "I" (.int (0 : Int32)) := f494.other W498 (Or.inr (slot_ne (Or.inl (hw _ (List.mem_of_getElem? (i := 33) rfl))) (Or.inl (hw _ (List.mem_of_getElem? (i := 17) rfl))) (by decide) (t := .int) (t' := (.array .int)) (by decide) (by decide)))
  have f507 : Fld Z h498 j "com/example/envyless/envyless/Journal" "open" "I" (.int (0 : Int32)) := f495.other W498 (Or.inr (slot_ne (Or.inl (hw _ (List.mem_of_getElem? (i := 26) rfl))) (Or.inl (hw _ (List.mem_of_getElem? (i := 17) rfl))) (by decide) (t := .int) (t' := (.array .int)) (by decide) (by decide)))
  have f508 : ∀ uu, AA Z h498 b442 k442 64 0 uu := fun uu => (f496 uu).other W498 (Ne.symm ne_j_b442)
  have f509 : AI Z h498 b463 (64 : Int32) (fun _ => 0) := f497.other W498 (Ne.symm ne_j_b463)
  have f510 : AI Z h498 b486 (64 : Int32) (fun _ => 0) := V486.other W498 (Ne.symm ne_j_b486)
  obtain ⟨T511, h511, k511, X511, e511, E511, A511, st511⟩ := newP X498 hx hZ (hw _ (List.mem_of_getElem? (i := 0) rfl)) e498 (g := (mkF m 32 #[.val (.ref j)] [(.int (8 : Int32)), (.ref j)])) rfl (hb hby own_d1_32) rfl (by decide) (cap := 8) (by decide) (by decide) (by decide) (by decide)
  obtain ⟨b511, g511⟩ : ∃ z, z = h498.size := ⟨_, rfl⟩
  rw [← g511] at A511 st511
  have ne_j_b511 : j ≠ b511 := Nat.ne_of_lt (Nat.lt_of_lt_of_le (f501).lt (Nat.le_of_eq g511.symm))
  have ne_b442_b511 : b442 ≠ b511 := Nat.ne_of_lt (Nat.lt_of_lt_of_le ((f508 0)).lt (Nat.le_of_eq g511.symm))
  have ne_b463_b511 : b463 ≠ b511 := Nat.ne_of_lt (Nat.lt_of_lt_of_le (f509).lt (Nat.le_of_eq g511.symm))
  have ne_b486_b511 : b486 ≠ b511 := Nat.ne_of_lt (Nat.lt_of_lt_of_le (f510).lt (Nat.le_of_eq g511.symm))
  have ge_b511 : n0 ≤ b511 := Nat.le_trans f499 (Nat.le_of_eq g511.symm)
  have sz_b511 : h0.size ≤ b511 := Nat.le_trans f500.1 (Nat.le_of_eq g511.symm)
  have f512 : n0 ≤ h511.size := Nat.le_trans f499 E511.1
  have f513 : Keep h0 h511 [j] := f500.ext E511
  have f514 : Exa Z h511 j "com/example/envyless/envyless/Journal" := f501.ext E511
  have f515 : Fld Z h511 j "com/example/envyless/envyless/Journal" "arrays" "[[I" (.ref b442) := f502.ext E511
  have f516 : Fld Z h511 j "com/example/envyless/envyless/Journal" "indexes" "[I" (.ref b463) := f503.ext E511
  have f517 : Fld Z h511 j "com/example/envyless/envyless/Journal" "values" "[I" (.ref b486) := f504.ext E511
  have f518 : Fld Z h511 j "com/example/envyless/envyless/Journal" "starts" "[I" .null := f505.ext E511
  have f519 : Fld Z h511 j "com/example/envyless/envyless/Journal" "length" "I" (.int (0 : Int32)) := f506.ext E511
  have f520 : Fld Z h511 j "com/example/envyless/envyless/Journal" "open" "I" (.int (0 : Int32)) := f507.ext E511
  have f521 : ∀ uu, AA Z h511 b442 k442 64 0 uu := fun uu => (f508 uu).ext E511
  have f522 : AI Z h511 b463 (64 : Int32) (fun _ => 0) := f509.ext E511
  have f523 : AI Z h511 b486 (64 : Int32) (fun _ => 0) := f510.ext E511
  have V511 : AI Z h511 b511 (8 : Int32) (fun _ => 0) := AI.new A511 (by decide)
  obtain ⟨T524, h524, X524, e524, W524, st524⟩ := putF X511 hx hZ hown (host := "") (Or.inl (hw _ (List.mem_of_getElem? (i := 18) rfl))) Via.refl e511 f518 f514 (Or.inl (hw _ (List.mem_of_getElem? (i := 19) rfl))) (hw _ (List.mem_of_getElem? (i := 2) rfl)) (ty := (.array .int)) (by decide) rfl rfl (g := (mkF m 34 #[.val (.ref j)] [(.ref b511), (.ref j)])) rfl rfl (hb hby own_d1_34)
  have N524 := Fr.snoc X524 N498 gej
  have f525 : n0 ≤ h524.size := Nat.le_trans f512 (Keep.of_wr W524).1
  have f526 : Keep h0 h524 [j] := f513.wr W524 (Or.inl (List.mem_of_getElem? (i := 0) rfl))
  have f527 : Exa Z h524 j "com/example/envyless/envyless/Journal" := f514.wr W524
  have f528 : Fld Z h524 j "com/example/envyless/envyless/Journal" "arrays" "[[I" (.ref b442) := f515.other W524 (Or.inr (slot_ne (Or.inl (hw _ (List.mem_of_getElem? (i := 13) rfl))) (Or.inl (hw _ (List.mem_of_getElem? (i := 19) rfl))) (by decide) (t := (.array (.array .int))) (t' := (.array .int)) (by decide) (by decide)))
  have f529 : Fld Z h524 j "com/example/envyless/envyless/Journal" "indexes" "[I" (.ref b463) := f516.other W524 (Or.inr (slot_ne (Or.inl (hw _ (List.mem_of_getElem? (i := 15) rfl))) (Or.inl (hw _ (List.mem_of_getElem? (i := 19) rfl))) (by decide) (t := (.array .int)) (t' := (.array .int)) (by decide) (by decide)))
  have f530 : Fld Z h524 j "com/example/envyless/envyless/Journal" "values" "[I" (.ref b486) := f517.other W524 (Or.inr (slot_ne (Or.inl (hw _ (List.mem_of_getElem? (i := 17) rfl))) (Or.inl (hw _ (List.mem_of_getElem? (i := 19) rfl))) (by decide) (t := (.array .int)) (t' := (.array .int)) (by decide) (by decide)))
  have f531 : Fld Z h524 j "com/example/envyless/envyless/Journal" "starts" "[I" (.ref b511) := f518.same W524
  have f532 : Fld Z h524 j "com/example/envyless/envyless/Journal" "length" "I" (.int (0 : Int32)) := f519.other W524 (Or.inr (slot_ne (Or.inl (hw _ (List.mem_of_getElem? (i := 33) rfl))) (Or.inl (hw _ (List.mem_of_getElem? (i := 19) rfl))) (by decide) (t := .int) (t' := (.array .int)) (by decide) (by decide)))
  have f533 : Fld Z h524 j "com/example/envyless/envyless/Journal" "open" "I" (.int (0 : Int32)) := f520.other W524 (Or.inr (slot_ne (Or.inl (hw _ (List.mem_of_getElem? (i := 26) rfl))) (Or.inl (hw _ (List.mem_of_getElem? (i := 19) rfl))) (by decide) (t := .int) (t' := (.array .int)) (by decide) (by decide)))
  have f534 : ∀ uu, AA Z h524 b442 k442 64 0 uu := fun uu => (f521 uu).other W524 (Ne.symm ne_j_b442)
  have f535 : AI Z h524 b463 (64 : Int32) (fun _ => 0) := f522.other W524 (Ne.symm ne_j_b463)
  have f536 : AI Z h524 b486 (64 : Int32) (fun _ => 0) := f523.other W524 (Ne.symm ne_j_b486)
  have f537 : AI Z h524 b511 (8 : Int32) (fun _ => 0) := V511.other W524 (Ne.symm ne_j_b511)
  obtain ⟨fs, hr, hrun, hended, hW, hsame⟩ := X524.leave (v := none) (fun _ => rfl)
  refine ⟨_, _, pre0 _ ?_, hrun, hended, _, _, rfl, ?_, ⟨_, rfl⟩, hW, hsame.mono (by decide) (by decide)⟩
  · show Steps p.tables e below (s₁.setTop (mkF m 0 #[.val (.ref j)] [])) _
    refine XS.aloadN X0.here hx rfl (hb hby own_d1_0) rfl rfl ?_
    show Steps p.tables e below (s₁.setTop (mkF m 1 #[.val (.ref j)] [(.ref j)])) _
    refine st441 _ ?_
    show Steps p.tables e below (T441.setTop (mkF m 4 #[.val (.ref j)] [])) _
    refine XS.aloadN X441.here hx rfl (hb hby own_d1_4) rfl rfl ?_
    show Steps p.tables e below (T441.setTop (mkF m 5 #[.val (.ref j)] [(.ref j)])) _
    refine XS.bipush X441.here hx rfl (hb hby own_d1_5) ?_
    show Steps p.tables e below (T441.setTop (mkF m 7 #[.val (.ref j)] [(.int (64 : Int32)), (.ref j)])) _
    refine st442 _ ?_
    show Steps p.tables e below (T442.setTop (mkF m 10 #[.val (.ref j)] [(.ref b442), (.ref j)])) _
    refine st452 _ ?_
    show Steps p.tables e below (T452.setTop (mkF m 13 #[.val (.ref j)] [])) _
    refine XS.aloadN X452.here hx rfl (hb hby own_d1_13) rfl rfl ?_
    show Steps p.tables e below (T452.setTop (mkF m 14 #[.val (.ref j)] [(.ref j)])) _
    refine XS.bipush X452.here hx rfl (hb hby own_d1_14) ?_
    show Steps p.tables e below (T452.setTop (mkF m 16 #[.val (.ref j)] [(.int (64 : Int32)), (.ref j)])) _
    refine st463 _ ?_
    show Steps p.tables e below (T463.setTop (mkF m 18 #[.val (.ref j)] [(.ref b463), (.ref j)])) _
    refine st474 _ ?_
    show Steps p.tables e below (T474.setTop (mkF m 21 #[.val (.ref j)] [])) _
    refine XS.aloadN X474.here hx rfl (hb hby own_d1_21) rfl rfl ?_
    show Steps p.tables e below (T474.setTop (mkF m 22 #[.val (.ref j)] [(.ref j)])) _
    refine XS.bipush X474.here hx rfl (hb hby own_d1_22) ?_
    show Steps p.tables e below (T474.setTop (mkF m 24 #[.val (.ref j)] [(.int (64 : Int32)), (.ref j)])) _
    refine st486 _ ?_
    show Steps p.tables e below (T486.setTop (mkF m 26 #[.val (.ref j)] [(.ref b486), (.ref j)])) _
    refine st498 _ ?_
    show Steps p.tables e below (T498.setTop (mkF m 29 #[.val (.ref j)] [])) _
    refine XS.aloadN X498.here hx rfl (hb hby own_d1_29) rfl rfl ?_
    show Steps p.tables e below (T498.setTop (mkF m 30 #[.val (.ref j)] [(.ref j)])) _
    refine XS.bipush X498.here hx rfl (hb hby own_d1_30) ?_
    show Steps p.tables e below (T498.setTop (mkF m 32 #[.val (.ref j)] [(.int (8 : Int32)), (.ref j)])) _
    refine st511 _ ?_
    show Steps p.tables e below (T511.setTop (mkF m 34 #[.val (.ref j)] [(.ref b511), (.ref j)])) _
    refine st524 _ ?_
    show Steps p.tables e below (T524.setTop (mkF m 37 #[.val (.ref j)] [])) _
    exact X524.returnOut hx Bd.returns (hb hby own_d1_37) hr
  · show JC Z j h0 n0 _ T524.heap _
    rw [e524]
    exact ⟨rfl, N524, f526, b442, b463, b486, b511, k442, f527, f528, f529, f530, f531, f532, f533, f534, f535, f536, f537, O442, ⟨sz_b442, sz_b463, sz_b486, sz_b511⟩, ne_j_b442, ne_j_b463, ne_j_b486, ne_j_b511, ne_b442_b463, ne_b442_b486, ne_b442_b511, ne_b463_b486, ne_b463_b511, ne_b486_b511⟩
set_option maxRecDepth 65536 in
set_option maxHeartbeats 40000000 in
theorem rm0 (l : Launch) (Z : State) (a0 : Array Value) (hw : ∀ d ∈ tables_1, d.before a0 Z = true) (ws : List Jvm.Cond) (x0 x1 x2 x3 x4 x5 : Int32) (h0 : Heap) (n0 : Nat) (Z0 : n0 ≤ h0.size)  :
    MetFree l x (head1 (Jvm.Cond.code x code maxLocals ret :: ws) room_1) (fun a U => a = #[(.int x0), (.int x1), (.int x2), (.int x3), (.int x4), (.int x5)] ∧ Z.Warmed39 U.vm ∧ U.heap = h0) (fun _ _ _ _ _ => True) (fun _ U o U' => ∃ v L, o = .returned v ∧ Q1 n0 v U'.heap L ∧ FrameEnd U o U' L room_1.cells room_1.slots) := by
  refine MetFree.of_bodySF (plainFor_of_name (by first | (simp [plainName, overriddenIn]; done) | decide +kernel)) hisR ?_
  intro p e s m args below meth c s₁ Bd hml0 hP hK
  obtain ⟨rfl, hZ, hh⟩ := hP
  have hx := Bd.exec
  have hby := Bd.bytes
  have hml : c.maxLocals = 20 := hml0
  have hown : s.vm.findClass "com/example/envyless/envyless/JournalUndoPinLaw" = some m.cls := findClass_of_methodNamed Bd.named
  have hnm := (name_of_methodNamed Bd.named Bd.method).1
  have X0 : Stand p l e room_1 s m #[(.int x0), (.int x1), (.int x2), (.int x3), (.int x4), (.int x5)] below meth c s₁ [] 0 0 := Stand.of_body Bd
  have e0 : s₁.heap = h0 := by rw [← hh, Bd.state]; rfl
  have N0 := Fr.nil n0
  have ef0 : entryFrame m #[(.int x0), (.int x1), (.int x2), (.int x3), (.int x4), (.int x5)] maxLocals = mkF m 0 #[.val (.int x0), .val (.int x1), .val (.int x2), .val (.int x3), .val (.int x4), .val (.int x5), .unset, .unset, .unset, .unset, .unset, .unset, .unset, .unset, .unset, .unset, .unset, .unset, .unset, .unset] [] := by first | (simp [entryFrame, mkF, argsToLocals, Value.category, maxLocals]; done) | rfl
  have pre0 : ∀ t, Steps p.tables e below (s₁.setTop (mkF m 0 #[.val (.int x0), .val (.int x1), .val (.int x2), .val (.int x3), .val (.int x4), .val (.int x5), .unset, .unset, .unset, .unset, .unset, .unset, .unset, .unset, .unset, .unset, .unset, .unset, .unset, .unset] [])) t → Steps p.tables e below (s₁.setTop (entryFrame m #[(.int x0), (.int x1), (.int x2), (.int x3), (.int x4), (.int x5)] maxLocals)) t := fun t k => castTop ef0 k
  obtain ⟨T538, h538, k538, X538, e538, E538, A538, B538, st538⟩ := newPE X0 hx hZ (hw _ (List.mem_of_getElem? (i := 0) rfl)) e0 (g := (mkF m 1 #[.val (.int x0), .val (.int x1), .val (.int x2), .val (.int x3), .val (.int x4), .val (.int x5), .unset, .unset, .unset, .unset, .unset, .unset, .unset, .unset, .unset, .unset, .unset, .unset, .unset, .unset] [(.int (3 : Int32))])) rfl (hb hby at_1) rfl (by decide) (cap := 3) (by decide) (by decide) (by decide) (by decide) (ad := "[I") (by decide)
  obtain ⟨b538, g538⟩ : ∃ z, z = h0.size := ⟨_, rfl⟩
  rw [← g538] at A538 B538 st538
  have ge_b538 : n0 ≤ b538 := Nat.le_trans Z0 (Nat.le_of_eq g538.symm)
  have f539 : n0 ≤ h538.size := Nat.le_trans Z0 E538.1
  have V538 : AI Z h538 b538 (3 : Int32) (fun _ => 0) := AI.new A538 (by decide)
  obtain ⟨cl540, Ar540, S540, -, -⟩ := id V538
  obtain ⟨T541, h541, X541, e541, W541, st541⟩ := stI X538 hx hZ e538 Ar540 (j := (0 : Int32)) (inb_of S540 ⟨(by decide), (by decide)⟩) (g := (mkF m 6 #[.val (.int x0), .val (.int x1), .val (.int x2), .val (.int x3), .val (.int x4), .val (.int x5), .unset, .unset, .unset, .unset, .unset, .unset, .unset, .unset, .unset, .unset, .unset, .unset, .unset, .unset] [(.int x0), (.int (0 : Int32)), (.ref b538), (.ref b538)])) rfl rfl (hb hby at_6)
  have N541 := Fr.snoc X541 N0 ge_b538
  have f542 : n0 ≤ h541.size := Nat.le_trans f539 (Keep.of_wr W541).1
  have f543 : Exa Z h541 b538 "[I" := B538.wr W541
  have V541 : AI Z h541 b538 (3 : Int32) (up (fun _ => 0) (0 : Int32) x0) := V538.set W541 (by decide) (by decide)
  obtain ⟨cl544, Ar544, S544, -, -⟩ := id V541
  obtain ⟨T545, h545, X545, e545, W545, st545⟩ := stI X541 hx hZ e541 Ar544 (j := (1 : Int32)) (inb_of S544 ⟨(by decide), (by decide)⟩) (g := (mkF m 10 #[.val (.int x0), .val (.int x1), .val (.int x2), .val (.int x3), .val (.int x4), .val (.int x5), .unset, .unset, .unset, .unset, .unset, .unset, .unset, .unset, .unset, .unset, .unset, .unset, .unset, .unset] [(.int x1), (.int (1 : Int32)), (.ref b538), (.ref b538)])) rfl rfl (hb hby at_10)
  have N545 := Fr.snoc X545 N541 ge_b538
  have f546 : n0 ≤ h545.size := Nat.le_trans f542 (Keep.of_wr W545).1
  have f547 : Exa Z h545 b538 "[I" := f543.wr W545
  have V545 : AI Z h545 b538 (3 : Int32) (up (up (fun _ => 0) (0 : Int32) x0) (1 : Int32) x1) := V541.set W545 (by decide) (by decide)
  obtain ⟨cl548, Ar548, S548, -, -⟩ := id V545
  obtain ⟨T549, h549, X549, e549, W549, st549⟩ := stI X545 hx hZ e545 Ar548 (j := (2 : Int32)) (inb_of S548 ⟨(by decide), (by decide)⟩) (g := (mkF m 16 #[.val (.int x0), .val (.int x1), .val (.int x2), .val (.int x3), .val (.int x4), .val (.int x5), .unset, .unset, .unset, .unset, .unset, .unset, .unset, .unset, .unset, .unset, .unset, .unset, .unset, .unset] [(.int (x0 ^^^ (-1 : Int32))), (.int (2 : Int32)), (.ref b538), (.ref b538)])) rfl rfl (hb hby at_16)
  have N549 := Fr.snoc X549 N545 ge_b538
  have f550 : n0 ≤ h549.size := Nat.le_trans f546 (Keep.of_wr W549).1
  have f551 : Exa Z h549 b538 "[I" := f547.wr W549
  have V549 : AI Z h549 b538 (3 : Int32) (up (up (up (fun _ => 0) (0 : Int32) x0) (1 : Int32) x1) (2 : Int32) (x0 ^^^ (-1 : Int32))) := V545.set W549 (by decide) (by decide)
  obtain ⟨i1, ei1_⟩ : ∃ i : Int32, i = ((x5 &&& (3 : Int32)) % (3 : Int32)) := ⟨_, rfl⟩
  have bi1 : ¬ i1 < 0 ∧ i1 < 3 := by rw [ei1_]; exact own_ix _
  have pre552 : ∀ t, Steps p.tables e below (T549.setTop (mkF m 25 #[.val (.int x0), .val (.int x1), .val (.int x2), .val (.int x3), .val (.int x4), .val (.int x5), .val (.ref b538), .unset, .unset, .unset, .unset, .unset, .unset, .unset, .unset, .unset, .unset, .unset, .unset, .unset] [(.int ((x5 &&& (3 : Int32)) % (3 : Int32)))])) t → Steps p.tables e below (s₁.setTop (entryFrame m #[(.int x0), (.int x1), (.int x2), (.int x3), (.int x4), (.int x5)] maxLocals)) t := fun tt kk => pre0 tt (by
    show Steps p.tables e below (s₁.setTop (mkF m 0 #[.val (.int x0), .val (.int x1), .val (.int x2), .val (.int x3), .val (.int x4), .val (.int x5), .unset, .unset, .unset, .unset, .unset, .unset, .unset, .unset, .unset, .unset, .unset, .unset, .unset, .unset] [])) _
    refine XS.iconst X0.here hx rfl (hb hby at_0) ?_
    show Steps p.tables e below (s₁.setTop (mkF m 1 #[.val (.int x0), .val (.int x1), .val (.int x2), .val (.int x3), .val (.int x4), .val (.int x5), .unset, .unset, .unset, .unset, .unset, .unset, .unset, .unset, .unset, .unset, .unset, .unset, .unset, .unset] [(.int (3 : Int32))])) _
    refine st538 _ ?_
    show Steps p.tables e below (T538.setTop (mkF m 3 #[.val (.int x0), .val (.int x1), .val (.int x2), .val (.int x3), .val (.int x4), .val (.int x5), .unset, .unset, .unset, .unset, .unset, .unset, .unset, .unset, .unset, .unset, .unset, .unset, .unset, .unset] [(.ref b538)])) _
    refine XS.dup X538.here hx rfl (hb hby at_3) rfl rfl ?_
    show Steps p.tables e below (T538.setTop (mkF m 4 #[.val (.int x0), .val (.int x1), .val (.int x2), .val (.int x3), .val (.int x4), .val (.int x5), .unset, .unset, .unset, .unset, .unset, .unset, .unset, .unset, .unset, .unset, .unset, .unset, .unset, .unset] [(.ref b538), (.ref b538)])) _
    refine XS.iconst X538.here hx rfl (hb hby at_4) ?_
    show Steps p.tables e below (T538.setTop (mkF m 5 #[.val (.int x0), .val (.int x1), .val (.int x2), .val (.int x3), .val (.int x4), .val (.int x5), .unset, .unset, .unset, .unset, .unset, .unset, .unset, .unset, .unset, .unset, .unset, .unset, .unset, .unset] [(.int (0 : Int32)), (.ref b538), (.ref b538)])) _
    refine XS.iloadN X538.here hx rfl (hb hby at_5) rfl ?_
    show Steps p.tables e below (T538.setTop (mkF m 6 #[.val (.int x0), .val (.int x1), .val (.int x2), .val (.int x3), .val (.int x4), .val (.int x5), .unset, .unset, .unset, .unset, .unset, .unset, .unset, .unset, .unset, .unset, .unset, .unset, .unset, .unset] [(.int x0), (.int (0 : Int32)), (.ref b538), (.ref b538)])) _
    refine st541 _ ?_
    show Steps p.tables e below (T541.setTop (mkF m 7 #[.val (.int x0), .val (.int x1), .val (.int x2), .val (.int x3), .val (.int x4), .val (.int x5), .unset, .unset, .unset, .unset, .unset, .unset, .unset, .unset, .unset, .unset, .unset, .unset, .unset, .unset] [(.ref b538)])) _
    refine XS.dup X541.here hx rfl (hb hby at_7) rfl rfl ?_
    show Steps p.tables e below (T541.setTop (mkF m 8 #[.val (.int x0), .val (.int x1), .val (.int x2), .val (.int x3), .val (.int x4), .val (.int x5), .unset, .unset, .unset, .unset, .unset, .unset, .unset, .unset, .unset, .unset, .unset, .unset, .unset, .unset] [(.ref b538), (.ref b538)])) _
    refine XS.iconst X541.here hx rfl (hb hby at_8) ?_
    show Steps p.tables e below (T541.setTop (mkF m 9 #[.val (.int x0), .val (.int x1), .val (.int x2), .val (.int x3), .val (.int x4), .val (.int x5), .unset, .unset, .unset, .unset, .unset, .unset, .unset, .unset, .unset, .unset, .unset, .unset, .unset, .unset] [(.int (1 : Int32)), (.ref b538), (.ref b538)])) _
    refine XS.iloadN X541.here hx rfl (hb hby at_9) rfl ?_
    show Steps p.tables e below (T541.setTop (mkF m 10 #[.val (.int x0), .val (.int x1), .val (.int x2), .val (.int x3), .val (.int x4), .val (.int x5), .unset, .unset, .unset, .unset, .unset, .unset, .unset, .unset, .unset, .unset, .unset, .unset, .unset, .unset] [(.int x1), (.int (1 : Int32)), (.ref b538), (.ref b538)])) _
    refine st545 _ ?_
    show Steps p.tables e below (T545.setTop (mkF m 11 #[.val (.int x0), .val (.int x1), .val (.int x2), .val (.int x3), .val (.int x4), .val (.int x5), .unset, .unset, .unset, .unset, .unset, .unset, .unset, .unset, .unset, .unset, .unset, .unset, .unset, .unset] [(.ref b538)])) _
    refine XS.dup X545.here hx rfl (hb hby at_11) rfl rfl ?_
    show Steps p.tables e below (T545.setTop (mkF m 12 #[.val (.int x0), .val (.int x1), .val (.int x2), .val (.int x3), .val (.int x4), .val (.int x5), .unset, .unset, .unset, .unset, .unset, .unset, .unset, .unset, .unset, .unset, .unset, .unset, .unset, .unset] [(.ref b538), (.ref b538)])) _
    refine XS.iconst X545.here hx rfl (hb hby at_12) ?_
    show Steps p.tables e below (T545.setTop (mkF m 13 #[.val (.int x0), .val (.int x1), .val (.int x2), .val (.int x3), .val (.int x4), .val (.int x5), .unset, .unset, .unset, .unset, .unset, .unset, .unset, .unset, .unset, .unset, .unset, .unset, .unset, .unset] [(.int (2 : Int32)), (.ref b538), (.ref b538)])) _
    refine XS.iloadN X545.here hx rfl (hb hby at_13) rfl ?_
    show Steps p.tables e below (T545.setTop (mkF m 14 #[.val (.int x0), .val (.int x1), .val (.int x2), .val (.int x3), .val (.int x4), .val (.int x5), .unset, .unset, .unset, .unset, .unset, .unset, .unset, .unset, .unset, .unset, .unset, .unset, .unset, .unset] [(.int x0), (.int (2 : Int32)), (.ref b538), (.ref b538)])) _
    refine XS.iconst X545.here hx rfl (hb hby at_14) ?_
    show Steps p.tables e below (T545.setTop (mkF m 15 #[.val (.int x0), .val (.int x1), .val (.int x2), .val (.int x3), .val (.int x4), .val (.int x5), .unset, .unset, .unset, .unset, .unset, .unset, .unset, .unset, .unset, .unset, .unset, .unset, .unset, .unset] [(.int (-1 : Int32)), (.int x0), (.int (2 : Int32)), (.ref b538), (.ref b538)])) _
    refine XS.ixor X545.here hx rfl (hb hby at_15) rfl ?_
    show Steps p.tables e below (T545.setTop (mkF m 16 #[.val (.int x0), .val (.int x1), .val (.int x2), .val (.int x3), .val (.int x4), .val (.int x5), .unset, .unset, .unset, .unset, .unset, .unset, .unset, .unset, .unset, .unset, .unset, .unset, .unset, .unset] [(.int (x0 ^^^ (-1 : Int32))), (.int (2 : Int32)), (.ref b538), (.ref b538)])) _
    refine st549 _ ?_
    show Steps p.tables e below (T549.setTop (mkF m 17 #[.val (.int x0), .val (.int x1), .val (.int x2), .val (.int x3), .val (.int x4), .val (.int x5), .unset, .unset, .unset, .unset, .unset, .unset, .unset, .unset, .unset, .unset, .unset, .unset, .unset, .unset] [(.ref b538)])) _
    refine XS.astore X549.here hx rfl (hb hby at_17) rfl rfl (l' := #[.val (.int x0), .val (.int x1), .val (.int x2), .val (.int x3), .val (.int x4), .val (.int x5), .val (.ref b538), .unset, .unset, .unset, .unset, .unset, .unset, .unset, .unset, .unset, .unset, .unset, .unset, .unset]) rfl ?_
    show Steps p.tables e below (T549.setTop (mkF m 19 #[.val (.int x0), .val (.int x1), .val (.int x2), .val (.int x3), .val (.int x4), .val (.int x5), .val (.ref b538), .unset, .unset, .unset, .unset, .unset, .unset, .unset, .unset, .unset, .unset, .unset, .unset, .unset] [])) _
    refine XS.iload X549.here hx rfl (hb hby at_19) rfl ?_
    show Steps p.tables e below (T549.setTop (mkF m 21 #[.val (.int x0), .val (.int x1), .val (.int x2), .val (.int x3), .val (.int x4), .val (.int x5), .val (.ref b538), .unset, .unset, .unset, .unset, .unset, .unset, .unset, .unset, .unset, .unset, .unset, .unset, .unset] [(.int x5)])) _
    refine XS.iconst X549.here hx rfl (hb hby at_21) ?_
    show Steps p.tables e below (T549.setTop (mkF m 22 #[.val (.int x0), .val (.int x1), .val (.int x2), .val (.int x3), .val (.int x4), .val (.int x5), .val (.ref b538), .unset, .unset, .unset, .unset, .unset, .unset, .unset, .unset, .unset, .unset, .unset, .unset, .unset] [(.int (3 : Int32)), (.int x5)])) _
    refine XS.iand X549.here hx rfl (hb hby at_22) rfl ?_
    show Steps p.tables e below (T549.setTop (mkF m 23 #[.val (.int x0), .val (.int x1), .val (.int x2), .val (.int x3), .val (.int x4), .val (.int x5), .val (.ref b538), .unset, .unset, .unset, .unset, .unset, .unset, .unset, .unset, .unset, .unset, .unset, .unset, .unset] [(.int (x5 &&& (3 : Int32)))])) _
    refine XS.iconst X549.here hx rfl (hb hby at_23) ?_
    show Steps p.tables e below (T549.setTop (mkF m 24 #[.val (.int x0), .val (.int x1), .val (.int x2), .val (.int x3), .val (.int x4), .val (.int x5), .val (.ref b538), .unset, .unset, .unset, .unset, .unset, .unset, .unset, .unset, .unset, .unset, .unset, .unset, .unset] [(.int (3 : Int32)), (.int (x5 &&& (3 : Int32)))])) _
    refine iremM X549 hx rfl (hb hby at_24) rfl (by decide) ?_
    exact kk)
  rw [← ei1_] at pre552
  obtain ⟨i2, ei2_⟩ : ∃ i : Int32, i = ((((x5.toUInt32 >>> ((2 : Int32) &&& 31).toUInt32).toInt32) &&& (3 : Int32)) % (3 : Int32)) := ⟨_, rfl⟩
  have bi2 : ¬ i2 < 0 ∧ i2 < 3 := by rw [ei2_]; exact own_ix _
  have pre553 : ∀ t, Steps p.tables e below (T549.setTop (mkF m 35 #[.val (.int x0), .val (.int x1), .val (.int x2), .val (.int x3), .val (.int x4), .val (.int x5), .val (.ref b538), .val (.int i1), .unset, .unset, .unset, .unset, .unset, .unset, .unset, .unset, .unset, .unset, .unset, .unset] [(.int ((((x5.toUInt32 >>> ((2 : Int32) &&& 31).toUInt32).toInt32) &&& (3 : Int32)) % (3 : Int32)))])) t → Steps p.tables e below (s₁.setTop (entryFrame m #[(.int x0), (.int x1), (.int x2), (.int x3), (.int x4), (.int x5)] maxLocals)) t := fun tt kk => pre552 tt (by
    show Steps p.tables e below (T549.setTop (mkF m 25 #[.val (.int x0), .val (.int x1), .val (.int x2), .val (.int x3), .val (.int x4), .val (.int x5), .val (.ref b538), .unset, .unset, .unset, .unset, .unset, .unset, .unset, .unset, .unset, .unset, .unset, .unset, .unset] [(.int i1)])) _
    refine XS.istore X549.here hx rfl (hb hby at_25) rfl (l' := #[.val (.int x0), .val (.int x1), .val (.int x2), .val (.int x3), .val (.int x4), .val (.int x5), .val (.ref b538), .val (.int i1), .unset, .unset, .unset, .unset, .unset, .unset, .unset, .unset, .unset, .unset, .unset, .unset]) rfl ?_
    show Steps p.tables e below (T549.setTop (mkF m 27 #[.val (.int x0), .val (.int x1), .val (.int x2), .val (.int x3), .val (.int x4), .val (.int x5), .val (.ref b538), .val (.int i1), .unset, .unset, .unset, .unset, .unset, .unset, .unset, .unset, .unset, .unset, .unset, .unset] [])) _
    refine XS.iload X549.here hx rfl (hb hby at_27) rfl ?_
    show Steps p.tables e below (T549.setTop (mkF m 29 #[.val (.int x0), .val (.int x1), .val (.int x2), .val (.int x3), .val (.int x4), .val (.int x5), .val (.ref b538), .val (.int i1), .unset, .unset, .unset, .unset, .unset, .unset, .unset, .unset, .unset, .unset, .unset, .unset] [(.int x5)])) _
    refine XS.iconst X549.here hx rfl (hb hby at_29) ?_
    show Steps p.tables e below (T549.setTop (mkF m 30 #[.val (.int x0), .val (.int x1), .val (.int x2), .val (.int x3), .val (.int x4), .val (.int x5), .val (.ref b538), .val (.int i1), .unset, .unset, .unset, .unset, .unset, .unset, .unset, .unset, .unset, .unset, .unset, .unset] [(.int (2 : Int32)), (.int x5)])) _
    refine XS.iushr X549.here hx rfl (hb hby at_30) rfl ?_
    show Steps p.tables e below (T549.setTop (mkF m 31 #[.val (.int x0), .val (.int x1), .val (.int x2), .val (.int x3), .val (.int x4), .val (.int x5), .val (.ref b538), .val (.int i1), .unset, .unset, .unset, .unset, .unset, .unset, .unset, .unset, .unset, .unset, .unset, .unset] [(.int ((x5.toUInt32 >>> ((2 : Int32) &&& 31).toUInt32).toInt32))])) _
    refine XS.iconst X549.here hx rfl (hb hby at_31) ?_
    show Steps p.tables e below (T549.setTop (mkF m 32 #[.val (.int x0), .val (.int x1), .val (.int x2), .val (.int x3), .val (.int x4), .val (.int x5), .val (.ref b538), .val (.int i1), .unset, .unset, .unset, .unset, .unset, .unset, .unset, .unset, .unset, .unset, .unset, .unset] [(.int (3 : Int32)), (.int ((x5.toUInt32 >>> ((2 : Int32) &&& 31).toUInt32).toInt32))])) _
    refine XS.iand X549.here hx rfl (hb hby at_32) rfl ?_
    show Steps p.tables e below (T549.setTop (mkF m 33 #[.val (.int x0), .val (.int x1), .val (.int x2), .val (.int x3), .val (.int x4), .val (.int x5), .val (.ref b538), .val (.int i1), .unset, .unset, .unset, .unset, .unset, .unset, .unset, .unset, .unset, .unset, .unset, .unset] [(.int (((x5.toUInt32 >>> ((2 : Int32) &&& 31).toUInt32).toInt32) &&& (3 : Int32)))])) _
    refine XS.iconst X549.here hx rfl (hb hby at_33) ?_
    show Steps p.tables e below (T549.setTop (mkF m 34 #[.val (.int x0), .val (.int x1), .val (.int x2), .val (.int x3), .val (.int x4), .val (.int x5), .val (.ref b538), .val (.int i1), .unset, .unset, .unset, .unset, .unset, .unset, .unset, .unset, .unset, .unset, .unset, .unset] [(.int (3 : Int32)), (.int (((x5.toUInt32 >>> ((2 : Int32) &&& 31).toUInt32).toInt32) &&& (3 : Int32)))])) _
    refine iremM X549 hx rfl (hb hby at_34) rfl (by decide) ?_
    exact kk)
  rw [← ei2_] at pre553
  obtain ⟨i3, ei3_⟩ : ∃ i : Int32, i = ((((x5.toUInt32 >>> ((4 : Int32) &&& 31).toUInt32).toInt32) &&& (3 : Int32)) % (3 : Int32)) := ⟨_, rfl⟩
  have bi3 : ¬ i3 < 0 ∧ i3 < 3 := by rw [ei3_]; exact own_ix _
  have pre554 : ∀ t, Steps p.tables e below (T549.setTop (mkF m 45 #[.val (.int x0), .val (.int x1), .val (.int x2), .val (.int x3), .val (.int x4), .val (.int x5), .val (.ref b538), .val (.int i1), .val (.int i2), .unset, .unset, .unset, .unset, .unset, .unset, .unset, .unset, .unset, .unset, .unset] [(.int ((((x5.toUInt32 >>> ((4 : Int32) &&& 31).toUInt32).toInt32) &&& (3 : Int32)) % (3 : Int32)))])) t → Steps p.tables e below (s₁.setTop (entryFrame m #[(.int x0), (.int x1), (.int x2), (.int x3), (.int x4), (.int x5)] maxLocals)) t := fun tt kk => pre553 tt (by
    show Steps p.tables e below (T549.setTop (mkF m 35 #[.val (.int x0), .val (.int x1), .val (.int x2), .val (.int x3), .val (.int x4), .val (.int x5), .val (.ref b538), .val (.int i1), .unset, .unset, .unset, .unset, .unset, .unset, .unset, .unset, .unset, .unset, .unset, .unset] [(.int i2)])) _
    refine XS.istore X549.here hx rfl (hb hby at_35) rfl (l' := #[.val (.int x0), .val (.int x1), .val (.int x2), .val (.int x3), .val (.int x4), .val (.int x5), .val (.ref b538), .val (.int i1), .val (.int i2), .unset, .unset, .unset, .unset, .unset, .unset, .unset, .unset, .unset, .unset, .unset]) rfl ?_
    show Steps p.tables e below (T549.setTop (mkF m 37 #[.val (.int x0), .val (.int x1), .val (.int x2), .val (.int x3), .val (.int x4), .val (.int x5), .val (.ref b538), .val (.int i1), .val (.int i2), .unset, .unset, .unset, .unset, .unset, .unset, .unset, .unset, .unset, .unset, .unset] [])) _
    refine XS.iload X549.here hx rfl (hb hby at_37) rfl ?_
    show Steps p.tables e below (T549.setTop (mkF m 39 #[.val (.int x0), .val (.int x1), .val (.int x2), .val (.int x3), .val (.int x4), .val (.int x5), .val (.ref b538), .val (.int i1), .val (.int i2), .unset, .unset, .unset, .unset, .unset, .unset, .unset, .unset, .unset, .unset, .unset] [(.int x5)])) _
    refine XS.iconst X549.here hx rfl (hb hby at_39) ?_
    show Steps p.tables e below (T549.setTop (mkF m 40 #[.val (.int x0), .val (.int x1), .val (.int x2), .val (.int x3), .val (.int x4), .val (.int x5), .val (.ref b538), .val (.int i1), .val (.int i2), .unset, .unset, .unset, .unset, .unset, .unset, .unset, .unset, .unset, .unset, .unset] [(.int (4 : Int32)), (.int x5)])) _
    refine XS.iushr X549.here hx rfl (hb hby at_40) rfl ?_
    show Steps p.tables e below (T549.setTop (mkF m 41 #[.val (.int x0), .val (.int x1), .val (.int x2), .val (.int x3), .val (.int x4), .val (.int x5), .val (.ref b538), .val (.int i1), .val (.int i2), .unset, .unset, .unset, .unset, .unset, .unset, .unset, .unset, .unset, .unset, .unset] [(.int ((x5.toUInt32 >>> ((4 : Int32) &&& 31).toUInt32).toInt32))])) _
    refine XS.iconst X549.here hx rfl (hb hby at_41) ?_
    show Steps p.tables e below (T549.setTop (mkF m 42 #[.val (.int x0), .val (.int x1), .val (.int x2), .val (.int x3), .val (.int x4), .val (.int x5), .val (.ref b538), .val (.int i1), .val (.int i2), .unset, .unset, .unset, .unset, .unset, .unset, .unset, .unset, .unset, .unset, .unset] [(.int (3 : Int32)), (.int ((x5.toUInt32 >>> ((4 : Int32) &&& 31).toUInt32).toInt32))])) _
    refine XS.iand X549.here hx rfl (hb hby at_42) rfl ?_
    show Steps p.tables e below (T549.setTop (mkF m 43 #[.val (.int x0), .val (.int x1), .val (.int x2), .val (.int x3), .val (.int x4), .val (.int x5), .val (.ref b538), .val (.int i1), .val (.int i2), .unset, .unset, .unset, .unset, .unset, .unset, .unset, .unset, .unset, .unset, .unset] [(.int (((x5.toUInt32 >>> ((4 : Int32) &&& 31).toUInt32).toInt32) &&& (3 : Int32)))])) _
    refine XS.iconst X549.here hx rfl (hb hby at_43) ?_
    show Steps p.tables e below (T549.setTop (mkF m 44 #[.val (.int x0), .val (.int x1), .val (.int x2), .val (.int x3), .val (.int x4), .val (.int x5), .val (.ref b538), .val (.int i1), .val (.int i2), .unset, .unset, .unset, .unset, .unset, .unset, .unset, .unset, .unset, .unset, .unset] [(.int (3 : Int32)), (.int (((x5.toUInt32 >>> ((4 : Int32) &&& 31).toUInt32).toInt32) &&& (3 : Int32)))])) _
    refine iremM X549 hx rfl (hb hby at_44) rfl (by decide) ?_
    exact kk)
  rw [← ei3_] at pre554
  obtain ⟨i4, ei4_⟩ : ∃ i : Int32, i = ((((x5.toUInt32 >>> ((6 : Int32) &&& 31).toUInt32).toInt32) &&& (3 : Int32)) % (3 : Int32)) := ⟨_, rfl⟩
  have bi4 : ¬ i4 < 0 ∧ i4 < 3 := by rw [ei4_]; exact own_ix _
  have pre555 : ∀ t, Steps p.tables e below (T549.setTop (mkF m 56 #[.val (.int x0), .val (.int x1), .val (.int x2), .val (.int x3), .val (.int x4), .val (.int x5), .val (.ref b538), .val (.int i1), .val (.int i2), .val (.int i3), .unset, .unset, .unset, .unset, .unset, .unset, .unset, .unset, .unset, .unset] [(.int ((((x5.toUInt32 >>> ((6 : Int32) &&& 31).toUInt32).toInt32) &&& (3 : Int32)) % (3 : Int32)))])) t → Steps p.tables e below (s₁.setTop (entryFrame m #[(.int x0), (.int x1), (.int x2), (.int x3), (.int x4), (.int x5)] maxLocals)) t := fun tt kk => pre554 tt (by
    show Steps p.tables e below (T549.setTop (mkF m 45 #[.val (.int x0), .val (.int x1), .val (.int x2), .val (.int x3), .val (.int x4), .val (.int x5), .val (.ref b538), .val (.int i1), .val (.int i2), .unset, .unset, .unset, .unset, .unset, .unset, .unset, .unset, .unset, .unset, .unset] [(.int i3)])) _
    refine XS.istore X549.here hx rfl (hb hby at_45) rfl (l' := #[.val (.int x0), .val (.int x1), .val (.int x2), .val (.int x3), .val (.int x4), .val (.int x5), .val (.ref b538), .val (.int i1), .val (.int i2), .val (.int i3), .unset, .unset, .unset, .unset, .unset, .unset, .unset, .unset, .unset, .unset]) rfl ?_
    show Steps p.tables e below (T549.setTop (mkF m 47 #[.val (.int x0), .val (.int x1), .val (.int x2), .val (.int x3), .val (.int x4), .val (.int x5), .val (.ref b538), .val (.int i1), .val (.int i2), .val (.int i3), .unset, .unset, .unset, .unset, .unset, .unset, .unset, .unset, .unset, .unset] [])) _
    refine XS.iload X549.here hx rfl (hb hby at_47) rfl ?_
    show Steps p.tables e below (T549.setTop (mkF m 49 #[.val (.int x0), .val (.int x1), .val (.int x2), .val (.int x3), .val (.int x4), .val (.int x5), .val (.ref b538), .val (.int i1), .val (.int i2), .val (.int i3), .unset, .unset, .unset, .unset, .unset, .unset, .unset, .unset, .unset, .unset] [(.int x5)])) _
    refine XS.bipush X549.here hx rfl (hb hby at_49) ?_
    show Steps p.tables e below (T549.setTop (mkF m 51 #[.val (.int x0), .val (.int x1), .val (.int x2), .val (.int x3), .val (.int x4), .val (.int x5), .val (.ref b538), .val (.int i1), .val (.int i2), .val (.int i3), .unset, .unset, .unset, .unset, .unset, .unset, .unset, .unset, .unset, .unset] [(.int (6 : Int32)), (.int x5)])) _
    refine XS.iushr X549.here hx rfl (hb hby at_51) rfl ?_
    show Steps p.tables e below (T549.setTop (mkF m 52 #[.val (.int x0), .val (.int x1), .val (.int x2), .val (.int x3), .val (.int x4), .val (.int x5), .val (.ref b538), .val (.int i1), .val (.int i2), .val (.int i3), .unset, .unset, .unset, .unset, .unset, .unset, .unset, .unset, .unset, .unset] [(.int ((x5.toUInt32 >>> ((6 : Int32) &&& 31).toUInt32).toInt32))])) _
    refine XS.iconst X549.here hx rfl (hb hby at_52) ?_
    show Steps p.tables e below (T549.setTop (mkF m 53 #[.val (.int x0), .val (.int x1), .val (.int x2), .val (.int x3), .val (.int x4), .val (.int x5), .val (.ref b538), .val (.int i1), .val (.int i2), .val (.int i3), .unset, .unset, .unset, .unset, .unset, .unset, .unset, .unset, .unset, .unset] [(.int (3 : Int32)), (.int ((x5.toUInt32 >>> ((6 : Int32) &&& 31).toUInt32).toInt32))])) _
    refine XS.iand X549.here hx rfl (hb hby at_53) rfl ?_
    show Steps p.tables e below (T549.setTop (mkF m 54 #[.val (.int x0), .val (.int x1), .val (.int x2), .val (.int x3), .val (.int x4), .val (.int x5), .val (.ref b538), .val (.int i1), .val (.int i2), .val (.int i3), .unset, .unset, .unset, .unset, .unset, .unset, .unset, .unset, .unset, .unset] [(.int (((x5.toUInt32 >>> ((6 : Int32) &&& 31).toUInt32).toInt32) &&& (3 : Int32)))])) _
    refine XS.iconst X549.here hx rfl (hb hby at_54) ?_
    show Steps p.tables e below (T549.setTop (mkF m 55 #[.val (.int x0), .val (.int x1), .val (.int x2), .val (.int x3), .val (.int x4), .val (.int x5), .val (.ref b538), .val (.int i1), .val (.int i2), .val (.int i3), .unset, .unset, .unset, .unset, .unset, .unset, .unset, .unset, .unset, .unset] [(.int (3 : Int32)), (.int (((x5.toUInt32 >>> ((6 : Int32) &&& 31).toUInt32).toInt32) &&& (3 : Int32)))])) _
    refine iremM X549 hx rfl (hb hby at_55) rfl (by decide) ?_
    exact kk)
  rw [← ei4_] at pre555
  obtain ⟨Lg556, X556, N556⟩ : ∃ Lg, Stand p l e room_1 s m #[(.int x0), (.int x1), (.int x2), (.int x3), (.int x4), (.int x5)] below meth c T549 Lg 1 3 ∧ Fr n0 Lg := ⟨_, X549, N549⟩
  have pre557 : ∀ t, Steps p.tables e below (T549.setTop (mkF m 58 #[.val (.int x0), .val (.int x1), .val (.int x2), .val (.int x3), .val (.int x4), .val (.int x5), .val (.ref b538), .val (.int i1), .val (.int i2), .val (.int i3), .val (.int i4), .unset, .unset, .unset, .unset, .unset, .unset, .unset, .unset, .unset] [])) t → Steps p.tables e below (s₁.setTop (entryFrame m #[(.int x0), (.int x1), (.int x2), (.int x3), (.int x4), (.int x5)] maxLocals)) t := fun tt kk => pre555 tt (by
    show Steps p.tables e below (T549.setTop (mkF m 56 #[.val (.int x0), .val (.int x1), .val (.int x2), .val (.int x3), .val (.int x4), .val (.int x5), .val (.ref b538), .val (.int i1), .val (.int i2), .val (.int i3), .unset, .unset, .unset, .unset, .unset, .unset, .unset, .unset, .unset, .unset] [(.int i4)])) _
    refine XS.istore X549.here hx rfl (hb hby at_56) rfl (l' := #[.val (.int x0), .val (.int x1), .val (.int x2), .val (.int x3), .val (.int x4), .val (.int x5), .val (.ref b538), .val (.int i1), .val (.int i2), .val (.int i3), .val (.int i4), .unset, .unset, .unset, .unset, .unset, .unset, .unset, .unset, .unset]) rfl ?_
    exact kk)
  obtain ⟨kp, T558, X558, e558, pre558⟩ : ∃ (kp : Int32) (T' : State), Stand p l e room_1 s m #[(.int x0), (.int x1), (.int x2), (.int x3), (.int x4), (.int x5)] below meth c T' Lg556 1 3 ∧ T'.heap = h549 ∧ ∀ t, Steps p.tables e below (T'.setTop (mkF m 73 #[.val (.int x0), .val (.int x1), .val (.int x2), .val (.int x3), .val (.int x4), .val (.int x5), .val (.ref b538), .val (.int i1), .val (.int i2), .val (.int i3), .val (.int i4), .unset, .unset, .unset, .unset, .unset, .unset, .unset, .unset, .unset] [(.int kp)])) t → Steps p.tables e below (s₁.setTop (entryFrame m #[(.int x0), (.int x1), (.int x2), (.int x3), (.int x4), (.int x5)] maxLocals)) t := by
    have pre559 : ∀ t, Steps p.tables e below (T549.setTop (mkF m 65 #[.val (.int x0), .val (.int x1), .val (.int x2), .val (.int x3), .val (.int x4), .val (.int x5), .val (.ref b538), .val (.int i1), .val (.int i2), .val (.int i3), .val (.int i4), .unset, .unset, .unset, .unset, .unset, .unset, .unset, .unset, .unset] [(.int (((x5.toUInt32 >>> ((8 : Int32) &&& 31).toUInt32).toInt32) &&& (1 : Int32)))])) t → Steps p.tables e below (s₁.setTop (entryFrame m #[(.int x0), (.int x1), (.int x2), (.int x3), (.int x4), (.int x5)] maxLocals)) t := fun tt kk => pre557 tt (by
      show Steps p.tables e below (T549.setTop (mkF m 58 #[.val (.int x0), .val (.int x1), .val (.int x2), .val (.int x3), .val (.int x4), .val (.int x5), .val (.ref b538), .val (.int i1), .val (.int i2), .val (.int i3), .val (.int i4), .unset, .unset, .unset, .unset, .unset, .unset, .unset, .unset, .unset] [])) _
      refine XS.iload X556.here hx rfl (hb hby at_58) rfl ?_
      show Steps p.tables e below (T549.setTop (mkF m 60 #[.val (.int x0), .val (.int x1), .val (.int x2), .val (.int x3), .val (.int x4), .val (.int x5), .val (.ref b538), .val (.int i1), .val (.int i2), .val (.int i3), .val (.int i4), .unset, .unset, .unset, .unset, .unset, .unset, .unset, .unset, .unset] [(.int x5)])) _
      refine XS.bipush X556.here hx rfl (hb hby at_60) ?_
      show Steps p.tables e below (T549.setTop (mkF m 62 #[.val (.int x0), .val (.int x1), .val (.int x2), .val (.int x3), .val (.int x4), .val (.int x5), .val (.ref b538), .val (.int i1), .val (.int i2), .val (.int i3), .val (.int i4), .unset, .unset, .unset, .unset, .unset, .unset, .unset, .unset, .unset] [(.int (8 : Int32)), (.int x5)])) _
      refine XS.iushr X556.here hx rfl (hb hby at_62) rfl ?_
      show Steps p.tables e below (T549.setTop (mkF m 63 #[.val (.int x0), .val (.int x1), .val (.int x2), .val (.int x3), .val (.int x4), .val (.int x5), .val (.ref b538), .val (.int i1), .val (.int i2), .val (.int i3), .val (.int i4), .unset, .unset, .unset, .unset, .unset, .unset, .unset, .unset, .unset] [(.int ((x5.toUInt32 >>> ((8 : Int32) &&& 31).toUInt32).toInt32))])) _
      refine XS.iconst X556.here hx rfl (hb hby at_63) ?_
      show Steps p.tables e below (T549.setTop (mkF m 64 #[.val (.int x0), .val (.int x1), .val (.int x2), .val (.int x3), .val (.int x4), .val (.int x5), .val (.ref b538), .val (.int i1), .val (.int i2), .val (.int i3), .val (.int i4), .unset, .unset, .unset, .unset, .unset, .unset, .unset, .unset, .unset] [(.int (1 : Int32)), (.int ((x5.toUInt32 >>> ((8 : Int32) &&& 31).toUInt32).toInt32))])) _
      refine XS.iand X556.here hx rfl (hb hby at_64) rfl ?_
      exact kk)
    by_cases hc65 : (((x5.toUInt32 >>> ((8 : Int32) &&& 31).toUInt32).toInt32) &&& (1 : Int32)) = (0 : Int32)
    · refine ⟨(0 : Int32), T549, X556, e549, fun tt kk => pre559 tt ?_⟩
      show Steps p.tables e below (T549.setTop (mkF m 65 #[.val (.int x0), .val (.int x1), .val (.int x2), .val (.int x3), .val (.int x4), .val (.int x5), .val (.ref b538), .val (.int i1), .val (.int i2), .val (.int i3), .val (.int i4), .unset, .unset, .unset, .unset, .unset, .unset, .unset, .unset, .unset] [(.int (((x5.toUInt32 >>> ((8 : Int32) &&& 31).toUInt32).toInt32) &&& (1 : Int32)))])) _
      refine XS.ifYes X556.here hx rfl (pc0 := 65) (pc' := 72) rfl (hb hby at_65) rfl ((if0 _ _).trans (teq hc65).1) (by decide) (by decide) ?_
      show Steps p.tables e below (T549.setTop (mkF m 72 #[.val (.int x0), .val (.int x1), .val (.int x2), .val (.int x3), .val (.int x4), .val (.int x5), .val (.ref b538), .val (.int i1), .val (.int i2), .val (.int i3), .val (.int i4), .unset, .unset, .unset, .unset, .unset, .unset, .unset, .unset, .unset] [])) _
      refine XS.iconst X556.here hx rfl (hb hby at_72) ?_
      exact kk
    · refine ⟨(1 : Int32), T549, X556, e549, fun tt kk => pre559 tt ?_⟩
      show Steps p.tables e below (T549.setTop (mkF m 65 #[.val (.int x0), .val (.int x1), .val (.int x2), .val (.int x3), .val (.int x4), .val (.int x5), .val (.ref b538), .val (.int i1), .val (.int i2), .val (.int i3), .val (.int i4), .unset, .unset, .unset, .unset, .unset, .unset, .unset, .unset, .unset] [(.int (((x5.toUInt32 >>> ((8 : Int32) &&& 31).toUInt32).toInt32) &&& (1 : Int32)))])) _
      refine XS.ifNo X556.here hx rfl (hb hby at_65) rfl ((if0 _ _).trans (feq hc65).1) ?_
      show Steps p.tables e below (T549.setTop (mkF m 68 #[.val (.int x0), .val (.int x1), .val (.int x2), .val (.int x3), .val (.int x4), .val (.int x5), .val (.ref b538), .val (.int i1), .val (.int i2), .val (.int i3), .val (.int i4), .unset, .unset, .unset, .unset, .unset, .unset, .unset, .unset, .unset] [])) _
      refine XS.iconst X556.here hx rfl (hb hby at_68) ?_
      show Steps p.tables e below (T549.setTop (mkF m 69 #[.val (.int x0), .val (.int x1), .val (.int x2), .val (.int x3), .val (.int x4), .val (.int x5), .val (.ref b538), .val (.int i1), .val (.int i2), .val (.int i3), .val (.int i4), .unset, .unset, .unset, .unset, .unset, .unset, .unset, .unset, .unset] [(.int (1 : Int32))])) _
      refine XS.goto X556.here hx rfl (pc0 := 69) (pc' := 73) rfl (hb hby at_69) (by decide) (by decide) ?_
      exact kk
  obtain ⟨T560, h560, X560, e560, E560, A560, D560, -, st560⟩ := newO X558 hx hZ hown (hw _ (List.mem_of_getElem? (i := 1) rfl)) (hw _ (List.mem_of_getElem? (i := 2) rfl)) (hw _ (List.mem_of_getElem? (i := 3) rfl)) e558 (g := (mkF m 75 #[.val (.int x0), .val (.int x1), .val (.int x2), .val (.int x3), .val (.int x4), .val (.int x5), .val (.ref b538), .val (.int i1), .val (.int i2), .val (.int i3), .val (.int i4), .val (.int kp), .unset, .unset, .unset, .unset, .unset, .unset, .unset, .unset] [])) rfl (hb hby at_75) (by decide) (by decide)
  obtain ⟨b560, g560⟩ : ∃ z, z = h549.size := ⟨_, rfl⟩
  rw [← g560] at A560 D560 st560
  have ne_b538_b560 : b538 ≠ b560 := Nat.ne_of_lt (Nat.lt_of_lt_of_le (f551).lt (Nat.le_of_eq g560.symm))
  have ge_b560 : n0 ≤ b560 := Nat.le_trans f550 (Nat.le_of_eq g560.symm)
  have f561 : n0 ≤ h560.size := Nat.le_trans f550 E560.1
  have f562 : Exa Z h560 b538 "[I" := f551.ext E560
  have f563 : AI Z h560 b538 (3 : Int32) (up (up (up (fun _ => 0) (0 : Int32) x0) (1 : Int32) x1) (2 : Int32) (x0 ^^^ (-1 : Int32))) := V549.ext E560
  have F560_13 : Fld Z h560 b560 "com/example/envyless/envyless/Journal" "arrays" "[[I" .null := D560 (Or.inl (hw _ (List.mem_of_getElem? (i := 13) rfl))) (ty := (.array (.array .int))) (by decide)
  have F560_15 : Fld Z h560 b560 "com/example/envyless/envyless/Journal" "indexes" "[I" .null := D560 (Or.inl (hw _ (List.mem_of_getElem? (i := 15) rfl))) (ty := (.array .int)) (by decide)
  have F560_17 : Fld Z h560 b560 "com/example/envyless/envyless/Journal" "values" "[I" .null := D560 (Or.inl (hw _ (List.mem_of_getElem? (i := 17) rfl))) (ty := (.array .int)) (by decide)
  have F560_19 : Fld Z h560 b560 "com/example/envyless/envyless/Journal" "starts" "[I" .null := D560 (Or.inl (hw _ (List.mem_of_getElem? (i := 19) rfl))) (ty := (.array .int)) (by decide)
  have F560_26 : Fld Z h560 b560 "com/example/envyless/envyless/Journal" "open" "I" (.int (0 : Int32)) := D560 (Or.inl (hw _ (List.mem_of_getElem? (i := 26) rfl))) (ty := .int) (by decide)
  have F560_33 : Fld Z h560 b560 "com/example/envyless/envyless/Journal" "length" "I" (.int (0 : Int32)) := D560 (Or.inl (hw _ (List.mem_of_getElem? (i := 33) rfl))) (ty := .int) (by decide)
  obtain ⟨vv564, _, ⟨T564, L564, k564, n564⟩, -, X564, ⟨Lc564, hQ564, l564, y564, z564⟩, st564⟩ := X560.specialBack hx (y := (⟨"com/example/envyless/envyless/Journal", "<init>", "()V"⟩ : MethodName)) rfl hown (mvT hZ (hw _ (List.mem_of_getElem? (i := 4) rfl))) (mvT hZ (hw _ (List.mem_of_getElem? (i := 5) rfl))) (mvT hZ (hw _ (List.mem_of_getElem? (i := 6) rfl))) (by decide) (backOf (W := 1) (rm_init l Z a0 hw [] b560 h560 n0 f561 A560 F560_13 F560_15 F560_17 F560_19 F560_33 F560_26 ge_b560) hZ (hw _ (List.mem_of_getElem? (i := 6) rfl)) (hw _ (List.mem_of_getElem? (i := 3) rfl)) (by decide) (by decide)) (g := (mkF m 79 #[.val (.int x0), .val (.int x1), .val (.int x2), .val (.int x3), .val (.int x4), .val (.int x5), .val (.ref b538), .val (.int i1), .val (.int i2), .val (.int i3), .val (.int i4), .val (.int kp), .unset, .unset, .unset, .unset, .unset, .unset, .unset, .unset] [(.ref b560), (.ref b560)])) rfl (by rw [hml]; rfl) (Steps.refl _) (a := b560) (argsL := []) (rest := [(.ref b560)]) (lenOf own_pd_1 rfl) rfl (by show 2 * 0 + _ ≤ _; exact Nat.le_of_eq rfl) (hb hby at_79) (fun _ _ => ⟨rfl, e560, (by decide : 2 + 4 ≤ _), (by decide : 9 + 200 ≤ _)⟩)
  dsimp only [Pt.U, Pt.locs, Pt.cells, Pt.slots] at X564 l564 y564 z564 st564 hQ564
  subst l564 y564 z564
  obtain ⟨rfl, N564q, K564, jA, jI, jV, jT, kA, Ej_, Fa_, Fi_, Fv_, Fs_, Fl_, Fo_, AA_, AIi_, AIv_, AIt_, Ov, ⟨gA_, gI_, gV_, gT_⟩, q1, q2, q3, q4, q5, q6, q7, q8, q9, q10⟩ := hQ564
  have N564 := Fr.app N556 N564q
  have gjA : n0 ≤ jA := Nat.le_trans f561 gA_
  have gjI : n0 ≤ jI := Nat.le_trans f561 gI_
  have gjV : n0 ≤ jV := Nat.le_trans f561 gV_
  have gjT : n0 ≤ jT := Nat.le_trans f561 gT_
  have ne_b538_jA : b538 ≠ jA := Nat.ne_of_lt (Nat.lt_of_lt_of_le f563.lt gA_)
  have ne_b538_jI : b538 ≠ jI := Nat.ne_of_lt (Nat.lt_of_lt_of_le f563.lt gI_)
  have ne_b538_jV : b538 ≠ jV := Nat.ne_of_lt (Nat.lt_of_lt_of_le f563.lt gV_)
  have ne_b538_jT : b538 ≠ jT := Nat.ne_of_lt (Nat.lt_of_lt_of_le f563.lt gT_)
  have f565 : n0 ≤ T564.heap.size := Nat.le_trans f561 K564.1
  have f566 : Exa Z T564.heap b538 "[I" := f562.keep K564
  have f567 : AI Z T564.heap b538 (3 : Int32) (up (up (up (fun _ => 0) (0 : Int32) x0) (1 : Int32) x1) (2 : Int32) (x0 ^^^ (-1 : Int32))) := f563.keep K564 (ninS ne_b538_b560 nin0)
  have f568 : Exa Z T564.heap b560 "com/example/envyless/envyless/Journal" := A560.keep K564
  obtain ⟨fu0, hfu0⟩ : ∃ f : Int32 → Int32, f = (up (up (up (fun _ => 0) (0 : Int32) x0) (1 : Int32) x1) (2 : Int32) (x0 ^^^ (-1 : Int32))) := ⟨_, rfl⟩
  have AIu569 : AI Z T564.heap b538 (3 : Int32) fu0 := by rw [hfu0]; exact f567
  have J570 : JS Z T564.heap b560 jA jI jV jT b538 kA (0 : Int32) (0 : Int32) (8 : Int32) (3 : Int32) (fun _ => 0) (fun _ => 0) (fun _ => 0) fu0 := ⟨Ej_, Fa_, Fi_, Fv_, Fs_, Fl_, Fo_, AA_ b538, AIi_, AIv_, AIt_, AIu569, f566, Ov⟩
  have DJv : DJ b560 jA jI jV jT b538 := ⟨q1, q2, q3, q4, (Ne.symm ne_b538_b560), q5, q6, q7, (Ne.symm ne_b538_jA), q8, q9, (Ne.symm ne_b538_jI), q10, (Ne.symm ne_b538_jV), (Ne.symm ne_b538_jT)⟩
  have GEv : GE n0 b560 jA jI jV jT b538 := ⟨ge_b560, gjA, gjI, gjV, gjT, ge_b538⟩
  obtain ⟨cq571, kq571, q571a, q571b, q571c⟩ := isOf hZ (rfl : T564.heap = T564.heap) J570.1
  obtain ⟨vv571, _, ⟨T571, L571, k571, n571⟩, -, X571, ⟨Lc571, hQ571, l571, y571, z571⟩, st571⟩ := X564.virtualBack hx (y := (⟨"com/example/envyless/envyless/Journal", "set", "([III)V"⟩ : MethodName)) (z := (⟨"com/example/envyless/envyless/Journal", "set", "([III)V"⟩ : MethodName)) hown (mvT hZ (hw _ (List.mem_of_getElem? (i := 20) rfl))) (mvT hZ (hw _ (List.mem_of_getElem? (i := 21) rfl))) (notFace_of_selects (args := #[]) (mvT hZ (hw _ (List.mem_of_getElem? (i := 23) rfl)))) (mvT hZ (hw _ (List.mem_of_getElem? (i := 23) rfl))) (mvT hZ (hw _ (List.mem_of_getElem? (i := 22) rfl))) (by decide) (backOf (W := 0) (rm_set0 l Z a0 hw [] b560 jA jI jV jT b538 kA (0 : Int32) (0 : Int32) (8 : Int32) (3 : Int32) (fun _ => 0) (fun _ => 0) (fun _ => 0) fu0 i1 x2 T564.heap n0 f565 J570 DJv GEv (by decide) bi1.1 bi1.2) hZ (hw _ (List.mem_of_getElem? (i := 24) rfl)) (hw _ (List.mem_of_getElem? (i := 3) rfl)) (by decide) (by decide)) q571a q571c (g := (mkF m 91 #[.val (.int x0), .val (.int x1), .val (.int x2), .val (.int x3), .val (.int x4), .val (.int x5), .val (.ref b538), .val (.int i1), .val (.int i2), .val (.int i3), .val (.int i4), .val (.int kp), .val (.ref b560), .unset, .unset, .unset, .unset, .unset, .unset, .unset] [(.int x2), (.int i1), (.ref b538), (.ref b560)])) rfl (by rw [hml]; rfl) (Steps.refl _) (argsL := [(.ref b538), (.int i1), (.int x2)]) (rest := []) (lenOf own_pd_2 rfl) rfl (by show 2 * 0 + _ ≤ _; exact Nat.le_of_eq rfl) (hb hby at_91) (fun _ _ => ⟨rfl, (rfl : T564.heap = T564.heap), (by decide : 6 + 0 ≤ _), (by decide : 209 + 0 ≤ _)⟩)
  dsimp only [Pt.U, Pt.locs, Pt.cells, Pt.slots] at X571 l571 y571 z571 st571 hQ571
  subst l571 y571 z571
  obtain ⟨rfl, N571q, Z571, J571⟩ := hQ571
  have N571 := Fr.app N564 N571q
  have AIu571 : AI Z T571.heap b538 (3 : Int32) (up fu0 i1 x2) := J571.2.2.2.2.2.2.2.2.2.2.2.1
  obtain ⟨cl572, Ar572, S572, M572, H572⟩ := id AIu571
  obtain ⟨cl573, Ar573, S573, M573, H573⟩ := id AIu571
  obtain ⟨cl574, Ar574, S574, M574, H574⟩ := id AIu571
  obtain ⟨Lg575, X575, N575⟩ : ∃ Lg, Stand p l e room_1 s m #[(.int x0), (.int x1), (.int x2), (.int x3), (.int x4), (.int x5)] below meth c T571 Lg 6 209 ∧ Fr n0 Lg := ⟨_, X571, N571⟩
  obtain ⟨cq576, kq576, q576a, q576b, q576c⟩ := isOf hZ (rfl : T571.heap = T571.heap) J571.1
  obtain ⟨vv576, _, ⟨T576, L576, k576, n576⟩, -, X576, ⟨Lc576, hQ576, l576, y576, z576⟩, st576⟩ := X575.virtualBack hx (y := (⟨"com/example/envyless/envyless/Journal", "start", "()V"⟩ : MethodName)) (z := (⟨"com/example/envyless/envyless/Journal", "start", "()V"⟩ : MethodName)) hown (mvT hZ (hw _ (List.mem_of_getElem? (i := 27) rfl))) (mvT hZ (hw _ (List.mem_of_getElem? (i := 28) rfl))) (notFace_of_selects (args := #[]) (mvT hZ (hw _ (List.mem_of_getElem? (i := 30) rfl)))) (mvT hZ (hw _ (List.mem_of_getElem? (i := 30) rfl))) (mvT hZ (hw _ (List.mem_of_getElem? (i := 29) rfl))) (by decide) (backOf (W := 0) (rm_start l Z a0 hw [] b560 jA jI jV jT b538 kA (0 : Int32) (0 : Int32) (8 : Int32) (3 : Int32) (fun _ => 0) (fun _ => 0) (fun _ => 0) (up fu0 i1 x2) (1 : Int32) T571.heap n0 Z571 J571 DJv GEv (by decide) (by decide) (by decide)) hZ (hw _ (List.mem_of_getElem? (i := 31) rfl)) (hw _ (List.mem_of_getElem? (i := 3) rfl)) (by decide) (by decide)) q576a q576c (g := (mkF m 114 #[.val (.int x0), .val (.int x1), .val (.int x2), .val (.int x3), .val (.int x4), .val (.int x5), .val (.ref b538), .val (.int i1), .val (.int i2), .val (.int i3), .val (.int i4), .val (.int kp), .val (.ref b560), .val (.int ((up fu0 i1 x2) (0 : Int32))), .val (.int ((up fu0 i1 x2) (1 : Int32))), .val (.int ((up fu0 i1 x2) (2 : Int32))), .unset, .unset, .unset, .unset] [(.ref b560)])) rfl (by rw [hml]; rfl) (Steps.refl _) (argsL := []) (rest := []) (lenOf own_pd_1 rfl) rfl (by show 2 * 0 + _ ≤ _; exact Nat.le_of_eq rfl) (hb hby at_114) (fun _ _ => ⟨rfl, (rfl : T571.heap = T571.heap), (by decide : 6 + 0 ≤ _), (by decide : 209 + 0 ≤ _)⟩)
  dsimp only [Pt.U, Pt.locs, Pt.cells, Pt.slots] at X576 l576 y576 z576 st576 hQ576
  subst l576 y576 z576
  obtain ⟨rfl, N576q, Z576, J576⟩ := hQ576
  have N576 := Fr.app N575 N576q
  have AIu576 : AI Z T576.heap b538 (3 : Int32) (up fu0 i1 x2) := J576.2.2.2.2.2.2.2.2.2.2.2.1
  obtain ⟨cq577, kq577, q577a, q577b, q577c⟩ := isOf hZ (rfl : T576.heap = T576.heap) J576.1
  obtain ⟨vv577, _, ⟨T577, L577, k577, n577⟩, -, X577, ⟨Lc577, hQ577, l577, y577, z577⟩, st577⟩ := X576.virtualBack hx (y := (⟨"com/example/envyless/envyless/Journal", "set", "([III)V"⟩ : MethodName)) (z := (⟨"com/example/envyless/envyless/Journal", "set", "([III)V"⟩ : MethodName)) hown (mvT hZ (hw _ (List.mem_of_getElem? (i := 20) rfl))) (mvT hZ (hw _ (List.mem_of_getElem? (i := 21) rfl))) (notFace_of_selects (args := #[]) (mvT hZ (hw _ (List.mem_of_getElem? (i := 23) rfl)))) (mvT hZ (hw _ (List.mem_of_getElem? (i := 23) rfl))) (mvT hZ (hw _ (List.mem_of_getElem? (i := 22) rfl))) (by decide) (backOf (W := 0) (rm_set1 l Z a0 hw [] b560 jA jI jV jT b538 kA (0 : Int32) (1 : Int32) (8 : Int32) (3 : Int32) (fun _ => 0) (fun _ => 0) (up (fun _ => 0) (0 : Int32) (0 : Int32)) (up fu0 i1 x2) (1 : Int32) i2 x3 T576.heap n0 Z576 J576 DJv GEv (by decide) (by decide) bi2.1 bi2.2 (by decide) (by decide)) hZ (hw _ (List.mem_of_getElem? (i := 24) rfl)) (hw _ (List.mem_of_getElem? (i := 3) rfl)) (by decide) (by decide)) q577a q577c (g := (mkF m 124 #[.val (.int x0), .val (.int x1), .val (.int x2), .val (.int x3), .val (.int x4), .val (.int x5), .val (.ref b538), .val (.int i1), .val (.int i2), .val (.int i3), .val (.int i4), .val (.int kp), .val (.ref b560), .val (.int ((up fu0 i1 x2) (0 : Int32))), .val (.int ((up fu0 i1 x2) (1 : Int32))), .val (.int ((up fu0 i1 x2) (2 : Int32))), .unset, .unset, .unset, .unset] [(.int x3), (.int i2), (.ref b538), (.ref b560)])) rfl (by rw [hml]; rfl) (Steps.refl _) (argsL := [(.ref b538), (.int i2), (.int x3)]) (rest := []) (lenOf own_pd_2 rfl) rfl (by show 2 * 0 + _ ≤ _; exact Nat.le_of_eq rfl) (hb hby at_124) (fun _ _ => ⟨rfl, (rfl : T576.heap = T576.heap), (by decide : 6 + 0 ≤ _), (by decide : 209 + 0 ≤ _)⟩)
  dsimp only [Pt.U, Pt.locs, Pt.cells, Pt.slots] at X577 l577 y577 z577 st577 hQ577
  subst l577 y577 z577
  obtain ⟨rfl, N577q, Z577, J577⟩ := hQ577
  have N577 := Fr.app N576 N577q
  have AIu577 : AI Z T577.heap b538 (3 : Int32) (up (up fu0 i1 x2) i2 x3) := J577.2.2.2.2.2.2.2.2.2.2.2.1
  have pre578 : ∀ t, Steps p.tables e below (T577.setTop (mkF m 130 #[.val (.int x0), .val (.int x1), .val (.int x2), .val (.int x3), .val (.int x4), .val (.int x5), .val (.ref b538), .val (.int i1), .val (.int i2), .val (.int i3), .val (.int i4), .val (.int kp), .val (.ref b560), .val (.int ((up fu0 i1 x2) (0 : Int32))), .val (.int ((up fu0 i1 x2) (1 : Int32))), .val (.int ((up fu0 i1 x2) (2 : Int32))), .unset, .unset, .unset, .unset] [(.int (0 : Int32)), (.ref b538)])) t → Steps p.tables e below (s₁.setTop (entryFrame m #[(.int x0), (.int x1), (.int x2), (.int x3), (.int x4), (.int x5)] maxLocals)) t := fun tt kk => pre558 tt (by
    show Steps p.tables e below (T558.setTop (mkF m 73 #[.val (.int x0), .val (.int x1), .val (.int x2), .val (.int x3), .val (.int x4), .val (.int x5), .val (.ref b538), .val (.int i1), .val (.int i2), .val (.int i3), .val (.int i4), .unset, .unset, .unset, .unset, .unset, .unset, .unset, .unset, .unset] [(.int kp)])) _
    refine XS.istore X558.here hx rfl (hb hby at_73) rfl (l' := #[.val (.int x0), .val (.int x1), .val (.int x2), .val (.int x3), .val (.int x4), .val (.int x5), .val (.ref b538), .val (.int i1), .val (.int i2), .val (.int i3), .val (.int i4), .val (.int kp), .unset, .unset, .unset, .unset, .unset, .unset, .unset, .unset]) rfl ?_
    show Steps p.tables e below (T558.setTop (mkF m 75 #[.val (.int x0), .val (.int x1), .val (.int x2), .val (.int x3), .val (.int x4), .val (.int x5), .val (.ref b538), .val (.int i1), .val (.int i2), .val (.int i3), .val (.int i4), .val (.int kp), .unset, .unset, .unset, .unset, .unset, .unset, .unset, .unset] [])) _
    refine st560 _ ?_
    show Steps p.tables e below (T560.setTop (mkF m 78 #[.val (.int x0), .val (.int x1), .val (.int x2), .val (.int x3), .val (.int x4), .val (.int x5), .val (.ref b538), .val (.int i1), .val (.int i2), .val (.int i3), .val (.int i4), .val (.int kp), .unset, .unset, .unset, .unset, .unset, .unset, .unset, .unset] [(.ref b560)])) _
    refine XS.dup X560.here hx rfl (hb hby at_78) rfl rfl ?_
    show Steps p.tables e below (T560.setTop (mkF m 79 #[.val (.int x0), .val (.int x1), .val (.int x2), .val (.int x3), .val (.int x4), .val (.int x5), .val (.ref b538), .val (.int i1), .val (.int i2), .val (.int i3), .val (.int i4), .val (.int kp), .unset, .unset, .unset, .unset, .unset, .unset, .unset, .unset] [(.ref b560), (.ref b560)])) _
    refine st564.trans ?_
    show Steps p.tables e below (T564.setTop (mkF m 82 #[.val (.int x0), .val (.int x1), .val (.int x2), .val (.int x3), .val (.int x4), .val (.int x5), .val (.ref b538), .val (.int i1), .val (.int i2), .val (.int i3), .val (.int i4), .val (.int kp), .unset, .unset, .unset, .unset, .unset, .unset, .unset, .unset] [(.ref b560)])) _
    refine XS.astore X564.here hx rfl (hb hby at_82) rfl rfl (l' := #[.val (.int x0), .val (.int x1), .val (.int x2), .val (.int x3), .val (.int x4), .val (.int x5), .val (.ref b538), .val (.int i1), .val (.int i2), .val (.int i3), .val (.int i4), .val (.int kp), .val (.ref b560), .unset, .unset, .unset, .unset, .unset, .unset, .unset]) rfl ?_
    show Steps p.tables e below (T564.setTop (mkF m 84 #[.val (.int x0), .val (.int x1), .val (.int x2), .val (.int x3), .val (.int x4), .val (.int x5), .val (.ref b538), .val (.int i1), .val (.int i2), .val (.int i3), .val (.int i4), .val (.int kp), .val (.ref b560), .unset, .unset, .unset, .unset, .unset, .unset, .unset] [])) _
    refine XS.aload X564.here hx rfl (hb hby at_84) rfl rfl ?_
    show Steps p.tables e below (T564.setTop (mkF m 86 #[.val (.int x0), .val (.int x1), .val (.int x2), .val (.int x3), .val (.int x4), .val (.int x5), .val (.ref b538), .val (.int i1), .val (.int i2), .val (.int i3), .val (.int i4), .val (.int kp), .val (.ref b560), .unset, .unset, .unset, .unset, .unset, .unset, .unset] [(.ref b560)])) _
    refine XS.aload X564.here hx rfl (hb hby at_86) rfl rfl ?_
    show Steps p.tables e below (T564.setTop (mkF m 88 #[.val (.int x0), .val (.int x1), .val (.int x2), .val (.int x3), .val (.int x4), .val (.int x5), .val (.ref b538), .val (.int i1), .val (.int i2), .val (.int i3), .val (.int i4), .val (.int kp), .val (.ref b560), .unset, .unset, .unset, .unset, .unset, .unset, .unset] [(.ref b538), (.ref b560)])) _
    refine XS.iload X564.here hx rfl (hb hby at_88) rfl ?_
    show Steps p.tables e below (T564.setTop (mkF m 90 #[.val (.int x0), .val (.int x1), .val (.int x2), .val (.int x3), .val (.int x4), .val (.int x5), .val (.ref b538), .val (.int i1), .val (.int i2), .val (.int i3), .val (.int i4), .val (.int kp), .val (.ref b560), .unset, .unset, .unset, .unset, .unset, .unset, .unset] [(.int i1), (.ref b538), (.ref b560)])) _
    refine XS.iloadN X564.here hx rfl (hb hby at_90) rfl ?_
    show Steps p.tables e below (T564.setTop (mkF m 91 #[.val (.int x0), .val (.int x1), .val (.int x2), .val (.int x3), .val (.int x4), .val (.int x5), .val (.ref b538), .val (.int i1), .val (.int i2), .val (.int i3), .val (.int i4), .val (.int kp), .val (.ref b560), .unset, .unset, .unset, .unset, .unset, .unset, .unset] [(.int x2), (.int i1), (.ref b538), (.ref b560)])) _
    refine st571.trans ?_
    show Steps p.tables e below (T571.setTop (mkF m 94 #[.val (.int x0), .val (.int x1), .val (.int x2), .val (.int x3), .val (.int x4), .val (.int x5), .val (.ref b538), .val (.int i1), .val (.int i2), .val (.int i3), .val (.int i4), .val (.int kp), .val (.ref b560), .unset, .unset, .unset, .unset, .unset, .unset, .unset] [])) _
    refine XS.aload X571.here hx rfl (hb hby at_94) rfl rfl ?_
    show Steps p.tables e below (T571.setTop (mkF m 96 #[.val (.int x0), .val (.int x1), .val (.int x2), .val (.int x3), .val (.int x4), .val (.int x5), .val (.ref b538), .val (.int i1), .val (.int i2), .val (.int i3), .val (.int i4), .val (.int kp), .val (.ref b560), .unset, .unset, .unset, .unset, .unset, .unset, .unset] [(.ref b538)])) _
    refine XS.iconst X571.here hx rfl (hb hby at_96) ?_
    show Steps p.tables e below (T571.setTop (mkF m 97 #[.val (.int x0), .val (.int x1), .val (.int x2), .val (.int x3), .val (.int x4), .val (.int x5), .val (.ref b538), .val (.int i1), .val (.int i2), .val (.int i3), .val (.int i4), .val (.int kp), .val (.ref b560), .unset, .unset, .unset, .unset, .unset, .unset, .unset] [(.int (0 : Int32)), (.ref b538)])) _
    refine X571.iaload hx (j := (0 : Int32)) (v := (.int ((up fu0 i1 x2) (0 : Int32)))) (by rw [(rfl : T571.heap = T571.heap)]; exact Ar572.1) (State.isArrayOf_alike hZ.alike Ar572.2.1) Ar572.2.2 (inb_of S572 ⟨(by decide), (by decide)⟩) (H572 _ (by decide) (by decide)) (g := (mkF m 97 #[.val (.int x0), .val (.int x1), .val (.int x2), .val (.int x3), .val (.int x4), .val (.int x5), .val (.ref b538), .val (.int i1), .val (.int i2), .val (.int i3), .val (.int i4), .val (.int kp), .val (.ref b560), .unset, .unset, .unset, .unset, .unset, .unset, .unset] [(.int (0 : Int32)), (.ref b538)])) rfl rfl (hb hby at_97) _ ?_
    show Steps p.tables e below (T571.setTop (mkF m 98 #[.val (.int x0), .val (.int x1), .val (.int x2), .val (.int x3), .val (.int x4), .val (.int x5), .val (.ref b538), .val (.int i1), .val (.int i2), .val (.int i3), .val (.int i4), .val (.int kp), .val (.ref b560), .unset, .unset, .unset, .unset, .unset, .unset, .unset] [(.int ((up fu0 i1 x2) (0 : Int32)))])) _
    refine XS.istore X571.here hx rfl (hb hby at_98) rfl (l' := #[.val (.int x0), .val (.int x1), .val (.int x2), .val (.int x3), .val (.int x4), .val (.int x5), .val (.ref b538), .val (.int i1), .val (.int i2), .val (.int i3), .val (.int i4), .val (.int kp), .val (.ref b560), .val (.int ((up fu0 i1 x2) (0 : Int32))), .unset, .unset, .unset, .unset, .unset, .unset]) rfl ?_
    show Steps p.tables e below (T571.setTop (mkF m 100 #[.val (.int x0), .val (.int x1), .val (.int x2), .val (.int x3), .val (.int x4), .val (.int x5), .val (.ref b538), .val (.int i1), .val (.int i2), .val (.int i3), .val (.int i4), .val (.int kp), .val (.ref b560), .val (.int ((up fu0 i1 x2) (0 : Int32))), .unset, .unset, .unset, .unset, .unset, .unset] [])) _
    refine XS.aload X571.here hx rfl (hb hby at_100) rfl rfl ?_
    show Steps p.tables e below (T571.setTop (mkF m 102 #[.val (.int x0), .val (.int x1), .val (.int x2), .val (.int x3), .val (.int x4), .val (.int x5), .val (.ref b538), .val (.int i1), .val (.int i2), .val (.int i3), .val (.int i4), .val (.int kp), .val (.ref b560), .val (.int ((up fu0 i1 x2) (0 : Int32))), .unset, .unset, .unset, .unset, .unset, .unset] [(.ref b538)])) _
    refine XS.iconst X571.here hx rfl (hb hby at_102) ?_
    show Steps p.tables e below (T571.setTop (mkF m 103 #[.val (.int x0), .val (.int x1), .val (.int x2), .val (.int x3), .val (.int x4), .val (.int x5), .val (.ref b538), .val (.int i1), .val (.int i2), .val (.int i3), .val (.int i4), .val (.int kp), .val (.ref b560), .val (.int ((up fu0 i1 x2) (0 : Int32))), .unset, .unset, .unset, .unset, .unset, .unset] [(.int (1 : Int32)), (.ref b538)])) _
    refine X571.iaload hx (j := (1 : Int32)) (v := (.int ((up fu0 i1 x2) (1 : Int32)))) (by rw [(rfl : T571.heap = T571.heap)]; exact Ar573.1) (State.isArrayOf_alike hZ.alike Ar573.2.1) Ar573.2.2 (inb_of S573 ⟨(by decide), (by decide)⟩) (H573 _ (by decide) (by decide)) (g := (mkF m 103 #[.val (.int x0), .val (.int x1), .val (.int x2), .val (.int x3), .val (.int x4), .val (.int x5), .val (.ref b538), .val (.int i1), .val (.int i2), .val (.int i3), .val (.int i4), .val (.int kp), .val (.ref b560), .val (.int ((up fu0 i1 x2) (0 : Int32))), .unset, .unset, .unset, .unset, .unset, .unset] [(.int (1 : Int32)), (.ref b538)])) rfl rfl (hb hby at_103) _ ?_
    show Steps p.tables e below (T571.setTop (mkF m 104 #[.val (.int x0), .val (.int x1), .val (.int x2), .val (.int x3), .val (.int x4), .val (.int x5), .val (.ref b538), .val (.int i1), .val (.int i2), .val (.int i3), .val (.int i4), .val (.int kp), .val (.ref b560), .val (.int ((up fu0 i1 x2) (0 : Int32))), .unset, .unset, .unset, .unset, .unset, .unset] [(.int ((up fu0 i1 x2) (1 : Int32)))])) _
    refine XS.istore X571.here hx rfl (hb hby at_104) rfl (l' := #[.val (.int x0), .val (.int x1), .val (.int x2), .val (.int x3), .val (.int x4), .val (.int x5), .val (.ref b538), .val (.int i1), .val (.int i2), .val (.int i3), .val (.int i4), .val (.int kp), .val (.ref b560), .val (.int ((up fu0 i1 x2) (0 : Int32))), .val (.int ((up fu0 i1 x2) (1 : Int32))), .unset, .unset, .unset, .unset, .unset]) rfl ?_
    show Steps p.tables e below (T571.setTop (mkF m 106 #[.val (.int x0), .val (.int x1), .val (.int x2), .val (.int x3), .val (.int x4), .val (.int x5), .val (.ref b538), .val (.int i1), .val (.int i2), .val (.int i3), .val (.int i4), .val (.int kp), .val (.ref b560), .val (.int ((up fu0 i1 x2) (0 : Int32))), .val (.int ((up fu0 i1 x2) (1 : Int32))), .unset, .unset, .unset, .unset, .unset] [])) _
    refine XS.aload X571.here hx rfl (hb hby at_106) rfl rfl ?_
    show Steps p.tables e below (T571.setTop (mkF m 108 #[.val (.int x0), .val (.int x1), .val (.int x2), .val (.int x3), .val (.int x4), .val (.int x5), .val (.ref b538), .val (.int i1), .val (.int i2), .val (.int i3), .val (.int i4), .val (.int kp), .val (.ref b560), .val (.int ((up fu0 i1 x2) (0 : Int32))), .val (.int ((up fu0 i1 x2) (1 : Int32))), .unset, .unset, .unset, .unset, .unset] [(.ref b538)])) _
    refine XS.iconst X571.here hx rfl (hb hby at_108) ?_
    show Steps p.tables e below (T571.setTop (mkF m 109 #[.val (.int x0), .val (.int x1), .val (.int x2), .val (.int x3), .val (.int x4), .val (.int x5), .val (.ref b538), .val (.int i1), .val (.int i2), .val (.int i3), .val (.int i4), .val (.int kp), .val (.ref b560), .val (.int ((up fu0 i1 x2) (0 : Int32))), .val (.int ((up fu0 i1 x2) (1 : Int32))), .unset, .unset, .unset, .unset, .unset] [(.int (2 : Int32)), (.ref b538)])) _
    refine X571.iaload hx (j := (2 : Int32)) (v := (.int ((up fu0 i1 x2) (2 : Int32)))) (by rw [(rfl : T571.heap = T571.heap)]; exact Ar574.1) (State.isArrayOf_alike hZ.alike Ar574.2.1) Ar574.2.2 (inb_of S574 ⟨(by decide), (by decide)⟩) (H574 _ (by decide) (by decide)) (g := (mkF m 109 #[.val (.int x0), .val (.int x1), .val (.int x2), .val (.int x3), .val (.int x4), .val (.int x5), .val (.ref b538), .val (.int i1), .val (.int i2), .val (.int i3), .val (.int i4), .val (.int kp), .val (.ref b560), .val (.int ((up fu0 i1 x2) (0 : Int32))), .val (.int ((up fu0 i1 x2) (1 : Int32))), .unset, .unset, .unset, .unset, .unset] [(.int (2 : Int32)), (.ref b538)])) rfl rfl (hb hby at_109) _ ?_
    show Steps p.tables e below (T571.setTop (mkF m 110 #[.val (.int x0), .val (.int x1), .val (.int x2), .val (.int x3), .val (.int x4), .val (.int x5), .val (.ref b538), .val (.int i1), .val (.int i2), .val (.int i3), .val (.int i4), .val (.int kp), .val (.ref b560), .val (.int ((up fu0 i1 x2) (0 : Int32))), .val (.int ((up fu0 i1 x2) (1 : Int32))), .unset, .unset, .unset, .unset, .unset] [(.int ((up fu0 i1 x2) (2 : Int32)))])) _
    refine XS.istore X571.here hx rfl (hb hby at_110) rfl (l' := #[.val (.int x0), .val (.int x1), .val (.int x2), .val (.int x3), .val (.int x4), .val (.int x5), .val (.ref b538), .val (.int i1), .val (.int i2), .val (.int i3), .val (.int i4), .val (.int kp), .val (.ref b560), .val (.int ((up fu0 i1 x2) (0 : Int32))), .val (.int ((up fu0 i1 x2) (1 : Int32))), .val (.int ((up fu0 i1 x2) (2 : Int32))), .unset, .unset, .unset, .unset]) rfl ?_
    show Steps p.tables e below (T571.setTop (mkF m 112 #[.val (.int x0), .val (.int x1), .val (.int x2), .val (.int x3), .val (.int x4), .val (.int x5), .val (.ref b538), .val (.int i1), .val (.int i2), .val (.int i3), .val (.int i4), .val (.int kp), .val (.ref b560), .val (.int ((up fu0 i1 x2) (0 : Int32))), .val (.int ((up fu0 i1 x2) (1 : Int32))), .val (.int ((up fu0 i1 x2) (2 : Int32))), .unset, .unset, .unset, .unset] [])) _
    refine XS.aload X571.here hx rfl (hb hby at_112) rfl rfl ?_
    show Steps p.tables e below (T571.setTop (mkF m 114 #[.val (.int x0), .val (.int x1), .val (.int x2), .val (.int x3), .val (.int x4), .val (.int x5), .val (.ref b538), .val (.int i1), .val (.int i2), .val (.int i3), .val (.int i4), .val (.int kp), .val (.ref b560), .val (.int ((up fu0 i1 x2) (0 : Int32))), .val (.int ((up fu0 i1 x2) (1 : Int32))), .val (.int ((up fu0 i1 x2) (2 : Int32))), .unset, .unset, .unset, .unset] [(.ref b560)])) _
    refine st576.trans ?_
    show Steps p.tables e below (T576.setTop (mkF m 117 #[.val (.int x0), .val (.int x1), .val (.int x2), .val (.int x3), .val (.int x4), .val (.int x5), .val (.ref b538), .val (.int i1), .val (.int i2), .val (.int i3), .val (.int i4), .val (.int kp), .val (.ref b560), .val (.int ((up fu0 i1 x2) (0 : Int32))), .val (.int ((up fu0 i1 x2) (1 : Int32))), .val (.int ((up fu0 i1 x2) (2 : Int32))), .unset, .unset, .unset, .unset] [])) _
    refine XS.aload X576.here hx rfl (hb hby at_117) rfl rfl ?_
    show Steps p.tables e below (T576.setTop (mkF m 119 #[.val (.int x0), .val (.int x1), .val (.int x2), .val (.int x3), .val (.int x4), .val (.int x5), .val (.ref b538), .val (.int i1), .val (.int i2), .val (.int i3), .val (.int i4), .val (.int kp), .val (.ref b560), .val (.int ((up fu0 i1 x2) (0 : Int32))), .val (.int ((up fu0 i1 x2) (1 : Int32))), .val (.int ((up fu0 i1 x2) (2 : Int32))), .unset, .unset, .unset, .unset] [(.ref b560)])) _
    refine XS.aload X576.here hx rfl (hb hby at_119) rfl rfl ?_
    show Steps p.tables e below (T576.setTop (mkF m 121 #[.val (.int x0), .val (.int x1), .val (.int x2), .val (.int x3), .val (.int x4), .val (.int x5), .val (.ref b538), .val (.int i1), .val (.int i2), .val (.int i3), .val (.int i4), .val (.int kp), .val (.ref b560), .val (.int ((up fu0 i1 x2) (0 : Int32))), .val (.int ((up fu0 i1 x2) (1 : Int32))), .val (.int ((up fu0 i1 x2) (2 : Int32))), .unset, .unset, .unset, .unset] [(.ref b538), (.ref b560)])) _
    refine XS.iload X576.here hx rfl (hb hby at_121) rfl ?_
    show Steps p.tables e below (T576.setTop (mkF m 123 #[.val (.int x0), .val (.int x1), .val (.int x2), .val (.int x3), .val (.int x4), .val (.int x5), .val (.ref b538), .val (.int i1), .val (.int i2), .val (.int i3), .val (.int i4), .val (.int kp), .val (.ref b560), .val (.int ((up fu0 i1 x2) (0 : Int32))), .val (.int ((up fu0 i1 x2) (1 : Int32))), .val (.int ((up fu0 i1 x2) (2 : Int32))), .unset, .unset, .unset, .unset] [(.int i2), (.ref b538), (.ref b560)])) _
    refine XS.iloadN X576.here hx rfl (hb hby at_123) rfl ?_
    show Steps p.tables e below (T576.setTop (mkF m 124 #[.val (.int x0), .val (.int x1), .val (.int x2), .val (.int x3), .val (.int x4), .val (.int x5), .val (.ref b538), .val (.int i1), .val (.int i2), .val (.int i3), .val (.int i4), .val (.int kp), .val (.ref b560), .val (.int ((up fu0 i1 x2) (0 : Int32))), .val (.int ((up fu0 i1 x2) (1 : Int32))), .val (.int ((up fu0 i1 x2) (2 : Int32))), .unset, .unset, .unset, .unset] [(.int x3), (.int i2), (.ref b538), (.ref b560)])) _
    refine st577.trans ?_
    show Steps p.tables e below (T577.setTop (mkF m 127 #[.val (.int x0), .val (.int x1), .val (.int x2), .val (.int x3), .val (.int x4), .val (.int x5), .val (.ref b538), .val (.int i1), .val (.int i2), .val (.int i3), .val (.int i4), .val (.int kp), .val (.ref b560), .val (.int ((up fu0 i1 x2) (0 : Int32))), .val (.int ((up fu0 i1 x2) (1 : Int32))), .val (.int ((up fu0 i1 x2) (2 : Int32))), .unset, .unset, .unset, .unset] [])) _
    refine XS.aload X577.here hx rfl (hb hby at_127) rfl rfl ?_
    show Steps p.tables e below (T577.setTop (mkF m 129 #[.val (.int x0), .val (.int x1), .val (.int x2), .val (.int x3), .val (.int x4), .val (.int x5), .val (.ref b538), .val (.int i1), .val (.int i2), .val (.int i3), .val (.int i4), .val (.int kp), .val (.ref b560), .val (.int ((up fu0 i1 x2) (0 : Int32))), .val (.int ((up fu0 i1 x2) (1 : Int32))), .val (.int ((up fu0 i1 x2) (2 : Int32))), .unset, .unset, .unset, .unset] [(.ref b538)])) _
    refine XS.iconst X577.here hx rfl (hb hby at_129) ?_
    exact kk)
  obtain ⟨cl579, Ar579, S579, M579, H579⟩ := id AIu577
  obtain ⟨cl580, Ar580, S580, M580, H580⟩ := id AIu577
  obtain ⟨cl581, Ar581, S581, M581, H581⟩ := id AIu577
  obtain ⟨Lg582, X582, N582⟩ : ∃ Lg, Stand p l e room_1 s m #[(.int x0), (.int x1), (.int x2), (.int x3), (.int x4), (.int x5)] below meth c T577 Lg 6 209 ∧ Fr n0 Lg := ⟨_, X577, N577⟩
  obtain ⟨cq583, kq583, q583a, q583b, q583c⟩ := isOf hZ (rfl : T577.heap = T577.heap) J577.1
  obtain ⟨vv583, _, ⟨T583, L583, k583, n583⟩, -, X583, ⟨Lc583, hQ583, l583, y583, z583⟩, st583⟩ := X582.virtualBack hx (y := (⟨"com/example/envyless/envyless/Journal", "start", "()V"⟩ : MethodName)) (z := (⟨"com/example/envyless/envyless/Journal", "start", "()V"⟩ : MethodName)) hown (mvT hZ (hw _ (List.mem_of_getElem? (i := 27) rfl))) (mvT hZ (hw _ (List.mem_of_getElem? (i := 28) rfl))) (notFace_of_selects (args := #[]) (mvT hZ (hw _ (List.mem_of_getElem? (i := 30) rfl)))) (mvT hZ (hw _ (List.mem_of_getElem? (i := 30) rfl))) (mvT hZ (hw _ (List.mem_of_getElem? (i := 29) rfl))) (by decide) (backOf (W := 0) (rm_start l Z a0 hw [] b560 jA jI jV jT b538 kA (1 : Int32) (1 : Int32) (8 : Int32) (3 : Int32) (up (fun _ => 0) (0 : Int32) i2) (up (fun _ => 0) (0 : Int32) ((up fu0 i1 x2) i2)) (up (fun _ => 0) (0 : Int32) (0 : Int32)) (up (up fu0 i1 x2) i2 x3) (2 : Int32) T577.heap n0 Z577 J577 DJv GEv (by decide) (by decide) (by decide)) hZ (hw _ (List.mem_of_getElem? (i := 31) rfl)) (hw _ (List.mem_of_getElem? (i := 3) rfl)) (by decide) (by decide)) q583a q583c (g := (mkF m 147 #[.val (.int x0), .val (.int x1), .val (.int x2), .val (.int x3), .val (.int x4), .val (.int x5), .val (.ref b538), .val (.int i1), .val (.int i2), .val (.int i3), .val (.int i4), .val (.int kp), .val (.ref b560), .val (.int ((up fu0 i1 x2) (0 : Int32))), .val (.int ((up fu0 i1 x2) (1 : Int32))), .val (.int ((up fu0 i1 x2) (2 : Int32))), .val (.int ((up (up fu0 i1 x2) i2 x3) (0 : Int32))), .val (.int ((up (up fu0 i1 x2) i2 x3) (1 : Int32))), .val (.int ((up (up fu0 i1 x2) i2 x3) (2 : Int32))), .unset] [(.ref b560)])) rfl (by rw [hml]; rfl) (Steps.refl _) (argsL := []) (rest := []) (lenOf own_pd_1 rfl) rfl (by show 2 * 0 + _ ≤ _; exact Nat.le_of_eq rfl) (hb hby at_147) (fun _ _ => ⟨rfl, (rfl : T577.heap = T577.heap), (by decide : 6 + 0 ≤ _), (by decide : 209 + 0 ≤ _)⟩)
  dsimp only [Pt.U, Pt.locs, Pt.cells, Pt.slots] at X583 l583 y583 z583 st583 hQ583
  subst l583 y583 z583
  obtain ⟨rfl, N583q, Z583, J583⟩ := hQ583
  have N583 := Fr.app N582 N583q
  have AIu583 : AI Z T583.heap b538 (3 : Int32) (up (up fu0 i1 x2) i2 x3) := J583.2.2.2.2.2.2.2.2.2.2.2.1
  obtain ⟨cq584, kq584, q584a, q584b, q584c⟩ := isOf hZ (rfl : T583.heap = T583.heap) J583.1
  obtain ⟨vv584, _, ⟨T584, L584, k584, n584⟩, -, X584, ⟨Lc584, hQ584, l584, y584, z584⟩, st584⟩ := X583.virtualBack hx (y := (⟨"com/example/envyless/envyless/Journal", "set", "([III)V"⟩ : MethodName)) (z := (⟨"com/example/envyless/envyless/Journal", "set", "([III)V"⟩ : MethodName)) hown (mvT hZ (hw _ (List.mem_of_getElem? (i := 20) rfl))) (mvT hZ (hw _ (List.mem_of_getElem? (i := 21) rfl))) (notFace_of_selects (args := #[]) (mvT hZ (hw _ (List.mem_of_getElem? (i := 23) rfl)))) (mvT hZ (hw _ (List.mem_of_getElem? (i := 23) rfl))) (mvT hZ (hw _ (List.mem_of_getElem? (i := 22) rfl))) (by decide) (backOf (W := 0) (rm_set1 l Z a0 hw [] b560 jA jI jV jT b538 kA (1 : Int32) (2 : Int32) (8 : Int32) (3 : Int32) (up (fun _ => 0) (0 : Int32) i2) (up (fun _ => 0) (0 : Int32) ((up fu0 i1 x2) i2)) (up (up (fun _ => 0) (0 : Int32) (0 : Int32)) (1 : Int32) (1 : Int32)) (up (up fu0 i1 x2) i2 x3) (2 : Int32) i3 x4 T583.heap n0 Z583 J583 DJv GEv (by decide) (by decide) bi3.1 bi3.2 (by decide) (by decide)) hZ (hw _ (List.mem_of_getElem? (i := 24) rfl)) (hw _ (List.mem_of_getElem? (i := 3) rfl)) (by decide) (by decide)) q584a q584c (g := (mkF m 158 #[.val (.int x0), .val (.int x1), .val (.int x2), .val (.int x3), .val (.int x4), .val (.int x5), .val (.ref b538), .val (.int i1), .val (.int i2), .val (.int i3), .val (.int i4), .val (.int kp), .val (.ref b560), .val (.int ((up fu0 i1 x2) (0 : Int32))), .val (.int ((up fu0 i1 x2) (1 : Int32))), .val (.int ((up fu0 i1 x2) (2 : Int32))), .val (.int ((up (up fu0 i1 x2) i2 x3) (0 : Int32))), .val (.int ((up (up fu0 i1 x2) i2 x3) (1 : Int32))), .val (.int ((up (up fu0 i1 x2) i2 x3) (2 : Int32))), .unset] [(.int x4), (.int i3), (.ref b538), (.ref b560)])) rfl (by rw [hml]; rfl) (Steps.refl _) (argsL := [(.ref b538), (.int i3), (.int x4)]) (rest := []) (lenOf own_pd_2 rfl) rfl (by show 2 * 0 + _ ≤ _; exact Nat.le_of_eq rfl) (hb hby at_158) (fun _ _ => ⟨rfl, (rfl : T583.heap = T583.heap), (by decide : 6 + 0 ≤ _), (by decide : 209 + 0 ≤ _)⟩)
  dsimp only [Pt.U, Pt.locs, Pt.cells, Pt.slots] at X584 l584 y584 z584 st584 hQ584
  subst l584 y584 z584
  obtain ⟨rfl, N584q, Z584, J584⟩ := hQ584
  have N584 := Fr.app N583 N584q
  have AIu584 : AI Z T584.heap b538 (3 : Int32) (up (up (up fu0 i1 x2) i2 x3) i3 x4) := J584.2.2.2.2.2.2.2.2.2.2.2.1
  obtain ⟨Lg585, X585, N585⟩ : ∃ Lg, Stand p l e room_1 s m #[(.int x0), (.int x1), (.int x2), (.int x3), (.int x4), (.int x5)] below meth c T584 Lg 6 209 ∧ Fr n0 Lg := ⟨_, X584, N584⟩
  obtain ⟨cq586, kq586, q586a, q586b, q586c⟩ := isOf hZ (rfl : T584.heap = T584.heap) J584.1
  obtain ⟨vv586, _, ⟨T586, L586, k586, n586⟩, -, X586, ⟨Lc586, hQ586, l586, y586, z586⟩, st586⟩ := X585.virtualBack hx (y := (⟨"com/example/envyless/envyless/Journal", "set", "([III)V"⟩ : MethodName)) (z := (⟨"com/example/envyless/envyless/Journal", "set", "([III)V"⟩ : MethodName)) hown (mvT hZ (hw _ (List.mem_of_getElem? (i := 20) rfl))) (mvT hZ (hw _ (List.mem_of_getElem? (i := 21) rfl))) (notFace_of_selects (args := #[]) (mvT hZ (hw _ (List.mem_of_getElem? (i := 23) rfl)))) (mvT hZ (hw _ (List.mem_of_getElem? (i := 23) rfl))) (mvT hZ (hw _ (List.mem_of_getElem? (i := 22) rfl))) (by decide) (backOf (W := 0) (rm_set1 l Z a0 hw [] b560 jA jI jV jT b538 kA (2 : Int32) (2 : Int32) (8 : Int32) (3 : Int32) (up (up (fun _ => 0) (0 : Int32) i2) (1 : Int32) i3) (up (up (fun _ => 0) (0 : Int32) ((up fu0 i1 x2) i2)) (1 : Int32) ((up (up fu0 i1 x2) i2 x3) i3)) (up (up (fun _ => 0) (0 : Int32) (0 : Int32)) (1 : Int32) (1 : Int32)) (up (up (up fu0 i1 x2) i2 x3) i3 x4) (3 : Int32) i4 (x4 ^^^ (-1 : Int32)) T584.heap n0 Z584 J584 DJv GEv (by decide) (by decide) bi4.1 bi4.2 (by decide) (by decide)) hZ (hw _ (List.mem_of_getElem? (i := 24) rfl)) (hw _ (List.mem_of_getElem? (i := 3) rfl)) (by decide) (by decide)) q586a q586c (g := (mkF m 171 #[.val (.int x0), .val (.int x1), .val (.int x2), .val (.int x3), .val (.int x4), .val (.int x5), .val (.ref b538), .val (.int i1), .val (.int i2), .val (.int i3), .val (.int i4), .val (.int kp), .val (.ref b560), .val (.int ((up fu0 i1 x2) (0 : Int32))), .val (.int ((up fu0 i1 x2) (1 : Int32))), .val (.int ((up fu0 i1 x2) (2 : Int32))), .val (.int ((up (up fu0 i1 x2) i2 x3) (0 : Int32))), .val (.int ((up (up fu0 i1 x2) i2 x3) (1 : Int32))), .val (.int ((up (up fu0 i1 x2) i2 x3) (2 : Int32))), .unset] [(.int (x4 ^^^ (-1 : Int32))), (.int i4), (.ref b538), (.ref b560)])) rfl (by rw [hml]; rfl) (Steps.refl _) (argsL := [(.ref b538), (.int i4), (.int (x4 ^^^ (-1 : Int32)))]) (rest := []) (lenOf own_pd_2 rfl) rfl (by show 2 * 0 + _ ≤ _; exact Nat.le_of_eq rfl) (hb hby at_171) (fun _ _ => ⟨rfl, (rfl : T584.heap = T584.heap), (by decide : 6 + 0 ≤ _), (by decide : 209 + 0 ≤ _)⟩)
  dsimp only [Pt.U, Pt.locs, Pt.cells, Pt.slots] at X586 l586 y586 z586 st586 hQ586
  subst l586 y586 z586
  obtain ⟨rfl, N586q, Z586, J586⟩ := hQ586
  have N586 := Fr.app N585 N586q
  have AIu586 : AI Z T586.heap b538 (3 : Int32) (up (up (up (up fu0 i1 x2) i2 x3) i3 x4) i4 (x4 ^^^ (-1 : Int32))) := J586.2.2.2.2.2.2.2.2.2.2.2.1
  have pre587 : ∀ t, Steps p.tables e below (T586.setTop (mkF m 179 #[.val (.int x0), .val (.int x1), .val (.int x2), .val (.int x3), .val (.int x4), .val (.int x5), .val (.ref b538), .val (.int i1), .val (.int i2), .val (.int i3), .val (.int i4), .val (.int kp), .val (.ref b560), .val (.int ((up fu0 i1 x2) (0 : Int32))), .val (.int ((up fu0 i1 x2) (1 : Int32))), .val (.int ((up fu0 i1 x2) (2 : Int32))), .val (.int ((up (up fu0 i1 x2) i2 x3) (0 : Int32))), .val (.int ((up (up fu0 i1 x2) i2 x3) (1 : Int32))), .val (.int ((up (up fu0 i1 x2) i2 x3) (2 : Int32))), .val (.int (1 : Int32))] [(.int kp)])) t → Steps p.tables e below (s₁.setTop (entryFrame m #[(.int x0), (.int x1), (.int x2), (.int x3), (.int x4), (.int x5)] maxLocals)) t := fun tt kk => pre578 tt (by
    show Steps p.tables e below (T577.setTop (mkF m 130 #[.val (.int x0), .val (.int x1), .val (.int x2), .val (.int x3), .val (.int x4), .val (.int x5), .val (.ref b538), .val (.int i1), .val (.int i2), .val (.int i3), .val (.int i4), .val (.int kp), .val (.ref b560), .val (.int ((up fu0 i1 x2) (0 : Int32))), .val (.int ((up fu0 i1 x2) (1 : Int32))), .val (.int ((up fu0 i1 x2) (2 : Int32))), .unset, .unset, .unset, .unset] [(.int (0 : Int32)), (.ref b538)])) _
    refine X577.iaload hx (j := (0 : Int32)) (v := (.int ((up (up fu0 i1 x2) i2 x3) (0 : Int32)))) (by rw [(rfl : T577.heap = T577.heap)]; exact Ar579.1) (State.isArrayOf_alike hZ.alike Ar579.2.1) Ar579.2.2 (inb_of S579 ⟨(by decide), (by decide)⟩) (H579 _ (by decide) (by decide)) (g := (mkF m 130 #[.val (.int x0), .val (.int x1), .val (.int x2), .val (.int x3), .val (.int x4), .val (.int x5), .val (.ref b538), .val (.int i1), .val (.int i2), .val (.int i3), .val (.int i4), .val (.int kp), .val (.ref b560), .val (.int ((up fu0 i1 x2) (0 : Int32))), .val (.int ((up fu0 i1 x2) (1 : Int32))), .val (.int ((up fu0 i1 x2) (2 : Int32))), .unset, .unset, .unset, .unset] [(.int (0 : Int32)), (.ref b538)])) rfl rfl (hb hby at_130) _ ?_
    show Steps p.tables e below (T577.setTop (mkF m 131 #[.val (.int x0), .val (.int x1), .val (.int x2), .val (.int x3), .val (.int x4), .val (.int x5), .val (.ref b538), .val (.int i1), .val (.int i2), .val (.int i3), .val (.int i4), .val (.int kp), .val (.ref b560), .val (.int ((up fu0 i1 x2) (0 : Int32))), .val (.int ((up fu0 i1 x2) (1 : Int32))), .val (.int ((up fu0 i1 x2) (2 : Int32))), .unset, .unset, .unset, .unset] [(.int ((up (up fu0 i1 x2) i2 x3) (0 : Int32)))])) _
    refine XS.istore X577.here hx rfl (hb hby at_131) rfl (l' := #[.val (.int x0), .val (.int x1), .val (.int x2), .val (.int x3), .val (.int x4), .val (.int x5), .val (.ref b538), .val (.int i1), .val (.int i2), .val (.int i3), .val (.int i4), .val (.int kp), .val (.ref b560), .val (.int ((up fu0 i1 x2) (0 : Int32))), .val (.int ((up fu0 i1 x2) (1 : Int32))), .val (.int ((up fu0 i1 x2) (2 : Int32))), .val (.int ((up (up fu0 i1 x2) i2 x3) (0 : Int32))), .unset, .unset, .unset]) rfl ?_
    show Steps p.tables e below (T577.setTop (mkF m 133 #[.val (.int x0), .val (.int x1), .val (.int x2), .val (.int x3), .val (.int x4), .val (.int x5), .val (.ref b538), .val (.int i1), .val (.int i2), .val (.int i3), .val (.int i4), .val (.int kp), .val (.ref b560), .val (.int ((up fu0 i1 x2) (0 : Int32))), .val (.int ((up fu0 i1 x2) (1 : Int32))), .val (.int ((up fu0 i1 x2) (2 : Int32))), .val (.int ((up (up fu0 i1 x2) i2 x3) (0 : Int32))), .unset, .unset, .unset] [])) _
    refine XS.aload X577.here hx rfl (hb hby at_133) rfl rfl ?_
    show Steps p.tables e below (T577.setTop (mkF m 135 #[.val (.int x0), .val (.int x1), .val (.int x2), .val (.int x3), .val (.int x4), .val (.int x5), .val (.ref b538), .val (.int i1), .val (.int i2), .val (.int i3), .val (.int i4), .val (.int kp), .val (.ref b560), .val (.int ((up fu0 i1 x2) (0 : Int32))), .val (.int ((up fu0 i1 x2) (1 : Int32))), .val (.int ((up fu0 i1 x2) (2 : Int32))), .val (.int ((up (up fu0 i1 x2) i2 x3) (0 : Int32))), .unset, .unset, .unset] [(.ref b538)])) _
    refine XS.iconst X577.here hx rfl (hb hby at_135) ?_
    show Steps p.tables e below (T577.setTop (mkF m 136 #[.val (.int x0), .val (.int x1), .val (.int x2), .val (.int x3), .val (.int x4), .val (.int x5), .val (.ref b538), .val (.int i1), .val (.int i2), .val (.int i3), .val (.int i4), .val (.int kp), .val (.ref b560), .val (.int ((up fu0 i1 x2) (0 : Int32))), .val (.int ((up fu0 i1 x2) (1 : Int32))), .val (.int ((up fu0 i1 x2) (2 : Int32))), .val (.int ((up (up fu0 i1 x2) i2 x3) (0 : Int32))), .unset, .unset, .unset] [(.int (1 : Int32)), (.ref b538)])) _
    refine X577.iaload hx (j := (1 : Int32)) (v := (.int ((up (up fu0 i1 x2) i2 x3) (1 : Int32)))) (by rw [(rfl : T577.heap = T577.heap)]; exact Ar580.1) (State.isArrayOf_alike hZ.alike Ar580.2.1) Ar580.2.2 (inb_of S580 ⟨(by decide), (by decide)⟩) (H580 _ (by decide) (by decide)) (g := (mkF m 136 #[.val (.int x0), .val (.int x1), .val (.int x2), .val (.int x3), .val (.int x4), .val (.int x5), .val (.ref b538), .val (.int i1), .val (.int i2), .val (.int i3), .val (.int i4), .val (.int kp), .val (.ref b560), .val (.int ((up fu0 i1 x2) (0 : Int32))), .val (.int ((up fu0 i1 x2) (1 : Int32))), .val (.int ((up fu0 i1 x2) (2 : Int32))), .val (.int ((up (up fu0 i1 x2) i2 x3) (0 : Int32))), .unset, .unset, .unset] [(.int (1 : Int32)), (.ref b538)])) rfl rfl (hb hby at_136) _ ?_
    show Steps p.tables e below (T577.setTop (mkF m 137 #[.val (.int x0), .val (.int x1), .val (.int x2), .val (.int x3), .val (.int x4), .val (.int x5), .val (.ref b538), .val (.int i1), .val (.int i2), .val (.int i3), .val (.int i4), .val (.int kp), .val (.ref b560), .val (.int ((up fu0 i1 x2) (0 : Int32))), .val (.int ((up fu0 i1 x2) (1 : Int32))), .val (.int ((up fu0 i1 x2) (2 : Int32))), .val (.int ((up (up fu0 i1 x2) i2 x3) (0 : Int32))), .unset, .unset, .unset] [(.int ((up (up fu0 i1 x2) i2 x3) (1 : Int32)))])) _
    refine XS.istore X577.here hx rfl (hb hby at_137) rfl (l' := #[.val (.int x0), .val (.int x1), .val (.int x2), .val (.int x3), .val (.int x4), .val (.int x5), .val (.ref b538), .val (.int i1), .val (.int i2), .val (.int i3), .val (.int i4), .val (.int kp), .val (.ref b560), .val (.int ((up fu0 i1 x2) (0 : Int32))), .val (.int ((up fu0 i1 x2) (1 : Int32))), .val (.int ((up fu0 i1 x2) (2 : Int32))), .val (.int ((up (up fu0 i1 x2) i2 x3) (0 : Int32))), .val (.int ((up (up fu0 i1 x2) i2 x3) (1 : Int32))), .unset, .unset]) rfl ?_
    show Steps p.tables e below (T577.setTop (mkF m 139 #[.val (.int x0), .val (.int x1), .val (.int x2), .val (.int x3), .val (.int x4), .val (.int x5), .val (.ref b538), .val (.int i1), .val (.int i2), .val (.int i3), .val (.int i4), .val (.int kp), .val (.ref b560), .val (.int ((up fu0 i1 x2) (0 : Int32))), .val (.int ((up fu0 i1 x2) (1 : Int32))), .val (.int ((up fu0 i1 x2) (2 : Int32))), .val (.int ((up (up fu0 i1 x2) i2 x3) (0 : Int32))), .val (.int ((up (up fu0 i1 x2) i2 x3) (1 : Int32))), .unset, .unset] [])) _
    refine XS.aload X577.here hx rfl (hb hby at_139) rfl rfl ?_
    show Steps p.tables e below (T577.setTop (mkF m 141 #[.val (.int x0), .val (.int x1), .val (.int x2), .val (.int x3), .val (.int x4), .val (.int x5), .val (.ref b538), .val (.int i1), .val (.int i2), .val (.int i3), .val (.int i4), .val (.int kp), .val (.ref b560), .val (.int ((up fu0 i1 x2) (0 : Int32))), .val (.int ((up fu0 i1 x2) (1 : Int32))), .val (.int ((up fu0 i1 x2) (2 : Int32))), .val (.int ((up (up fu0 i1 x2) i2 x3) (0 : Int32))), .val (.int ((up (up fu0 i1 x2) i2 x3) (1 : Int32))), .unset, .unset] [(.ref b538)])) _
    refine XS.iconst X577.here hx rfl (hb hby at_141) ?_
    show Steps p.tables e below (T577.setTop (mkF m 142 #[.val (.int x0), .val (.int x1), .val (.int x2), .val (.int x3), .val (.int x4), .val (.int x5), .val (.ref b538), .val (.int i1), .val (.int i2), .val (.int i3), .val (.int i4), .val (.int kp), .val (.ref b560), .val (.int ((up fu0 i1 x2) (0 : Int32))), .val (.int ((up fu0 i1 x2) (1 : Int32))), .val (.int ((up fu0 i1 x2) (2 : Int32))), .val (.int ((up (up fu0 i1 x2) i2 x3) (0 : Int32))), .val (.int ((up (up fu0 i1 x2) i2 x3) (1 : Int32))), .unset, .unset] [(.int (2 : Int32)), (.ref b538)])) _
    refine X577.iaload hx (j := (2 : Int32)) (v := (.int ((up (up fu0 i1 x2) i2 x3) (2 : Int32)))) (by rw [(rfl : T577.heap = T577.heap)]; exact Ar581.1) (State.isArrayOf_alike hZ.alike Ar581.2.1) Ar581.2.2 (inb_of S581 ⟨(by decide), (by decide)⟩) (H581 _ (by decide) (by decide)) (g := (mkF m 142 #[.val (.int x0), .val (.int x1), .val (.int x2), .val (.int x3), .val (.int x4), .val (.int x5), .val (.ref b538), .val (.int i1), .val (.int i2), .val (.int i3), .val (.int i4), .val (.int kp), .val (.ref b560), .val (.int ((up fu0 i1 x2) (0 : Int32))), .val (.int ((up fu0 i1 x2) (1 : Int32))), .val (.int ((up fu0 i1 x2) (2 : Int32))), .val (.int ((up (up fu0 i1 x2) i2 x3) (0 : Int32))), .val (.int ((up (up fu0 i1 x2) i2 x3) (1 : Int32))), .unset, .unset] [(.int (2 : Int32)), (.ref b538)])) rfl rfl (hb hby at_142) _ ?_
    show Steps p.tables e below (T577.setTop (mkF m 143 #[.val (.int x0), .val (.int x1), .val (.int x2), .val (.int x3), .val (.int x4), .val (.int x5), .val (.ref b538), .val (.int i1), .val (.int i2), .val (.int i3), .val (.int i4), .val (.int kp), .val (.ref b560), .val (.int ((up fu0 i1 x2) (0 : Int32))), .val (.int ((up fu0 i1 x2) (1 : Int32))), .val (.int ((up fu0 i1 x2) (2 : Int32))), .val (.int ((up (up fu0 i1 x2) i2 x3) (0 : Int32))), .val (.int ((up (up fu0 i1 x2) i2 x3) (1 : Int32))), .unset, .unset] [(.int ((up (up fu0 i1 x2) i2 x3) (2 : Int32)))])) _
    refine XS.istore X577.here hx rfl (hb hby at_143) rfl (l' := #[.val (.int x0), .val (.int x1), .val (.int x2), .val (.int x3), .val (.int x4), .val (.int x5), .val (.ref b538), .val (.int i1), .val (.int i2), .val (.int i3), .val (.int i4), .val (.int kp), .val (.ref b560), .val (.int ((up fu0 i1 x2) (0 : Int32))), .val (.int ((up fu0 i1 x2) (1 : Int32))), .val (.int ((up fu0 i1 x2) (2 : Int32))), .val (.int ((up (up fu0 i1 x2) i2 x3) (0 : Int32))), .val (.int ((up (up fu0 i1 x2) i2 x3) (1 : Int32))), .val (.int ((up (up fu0 i1 x2) i2 x3) (2 : Int32))), .unset]) rfl ?_
    show Steps p.tables e below (T577.setTop (mkF m 145 #[.val (.int x0), .val (.int x1), .val (.int x2), .val (.int x3), .val (.int x4), .val (.int x5), .val (.ref b538), .val (.int i1), .val (.int i2), .val (.int i3), .val (.int i4), .val (.int kp), .val (.ref b560), .val (.int ((up fu0 i1 x2) (0 : Int32))), .val (.int ((up fu0 i1 x2) (1 : Int32))), .val (.int ((up fu0 i1 x2) (2 : Int32))), .val (.int ((up (up fu0 i1 x2) i2 x3) (0 : Int32))), .val (.int ((up (up fu0 i1 x2) i2 x3) (1 : Int32))), .val (.int ((up (up fu0 i1 x2) i2 x3) (2 : Int32))), .unset] [])) _
    refine XS.aload X577.here hx rfl (hb hby at_145) rfl rfl ?_
    show Steps p.tables e below (T577.setTop (mkF m 147 #[.val (.int x0), .val (.int x1), .val (.int x2), .val (.int x3), .val (.int x4), .val (.int x5), .val (.ref b538), .val (.int i1), .val (.int i2), .val (.int i3), .val (.int i4), .val (.int kp), .val (.ref b560), .val (.int ((up fu0 i1 x2) (0 : Int32))), .val (.int ((up fu0 i1 x2) (1 : Int32))), .val (.int ((up fu0 i1 x2) (2 : Int32))), .val (.int ((up (up fu0 i1 x2) i2 x3) (0 : Int32))), .val (.int ((up (up fu0 i1 x2) i2 x3) (1 : Int32))), .val (.int ((up (up fu0 i1 x2) i2 x3) (2 : Int32))), .unset] [(.ref b560)])) _
    refine st583.trans ?_
    show Steps p.tables e below (T583.setTop (mkF m 150 #[.val (.int x0), .val (.int x1), .val (.int x2), .val (.int x3), .val (.int x4), .val (.int x5), .val (.ref b538), .val (.int i1), .val (.int i2), .val (.int i3), .val (.int i4), .val (.int kp), .val (.ref b560), .val (.int ((up fu0 i1 x2) (0 : Int32))), .val (.int ((up fu0 i1 x2) (1 : Int32))), .val (.int ((up fu0 i1 x2) (2 : Int32))), .val (.int ((up (up fu0 i1 x2) i2 x3) (0 : Int32))), .val (.int ((up (up fu0 i1 x2) i2 x3) (1 : Int32))), .val (.int ((up (up fu0 i1 x2) i2 x3) (2 : Int32))), .unset] [])) _
    refine XS.aload X583.here hx rfl (hb hby at_150) rfl rfl ?_
    show Steps p.tables e below (T583.setTop (mkF m 152 #[.val (.int x0), .val (.int x1), .val (.int x2), .val (.int x3), .val (.int x4), .val (.int x5), .val (.ref b538), .val (.int i1), .val (.int i2), .val (.int i3), .val (.int i4), .val (.int kp), .val (.ref b560), .val (.int ((up fu0 i1 x2) (0 : Int32))), .val (.int ((up fu0 i1 x2) (1 : Int32))), .val (.int ((up fu0 i1 x2) (2 : Int32))), .val (.int ((up (up fu0 i1 x2) i2 x3) (0 : Int32))), .val (.int ((up (up fu0 i1 x2) i2 x3) (1 : Int32))), .val (.int ((up (up fu0 i1 x2) i2 x3) (2 : Int32))), .unset] [(.ref b560)])) _
    refine XS.aload X583.here hx rfl (hb hby at_152) rfl rfl ?_
    show Steps p.tables e below (T583.setTop (mkF m 154 #[.val (.int x0), .val (.int x1), .val (.int x2), .val (.int x3), .val (.int x4), .val (.int x5), .val (.ref b538), .val (.int i1), .val (.int i2), .val (.int i3), .val (.int i4), .val (.int kp), .val (.ref b560), .val (.int ((up fu0 i1 x2) (0 : Int32))), .val (.int ((up fu0 i1 x2) (1 : Int32))), .val (.int ((up fu0 i1 x2) (2 : Int32))), .val (.int ((up (up fu0 i1 x2) i2 x3) (0 : Int32))), .val (.int ((up (up fu0 i1 x2) i2 x3) (1 : Int32))), .val (.int ((up (up fu0 i1 x2) i2 x3) (2 : Int32))), .unset] [(.ref b538), (.ref b560)])) _
    refine XS.iload X583.here hx rfl (hb hby at_154) rfl ?_
    show Steps p.tables e below (T583.setTop (mkF m 156 #[.val (.int x0), .val (.int x1), .val (.int x2), .val (.int x3), .val (.int x4), .val (.int x5), .val (.ref b538), .val (.int i1), .val (.int i2), .val (.int i3), .val (.int i4), .val (.int kp), .val (.ref b560), .val (.int ((up fu0 i1 x2) (0 : Int32))), .val (.int ((up fu0 i1 x2) (1 : Int32))), .val (.int ((up fu0 i1 x2) (2 : Int32))), .val (.int ((up (up fu0 i1 x2) i2 x3) (0 : Int32))), .val (.int ((up (up fu0 i1 x2) i2 x3) (1 : Int32))), .val (.int ((up (up fu0 i1 x2) i2 x3) (2 : Int32))), .unset] [(.int i3), (.ref b538), (.ref b560)])) _
    refine XS.iload X583.here hx rfl (hb hby at_156) rfl ?_
    show Steps p.tables e below (T583.setTop (mkF m 158 #[.val (.int x0), .val (.int x1), .val (.int x2), .val (.int x3), .val (.int x4), .val (.int x5), .val (.ref b538), .val (.int i1), .val (.int i2), .val (.int i3), .val (.int i4), .val (.int kp), .val (.ref b560), .val (.int ((up fu0 i1 x2) (0 : Int32))), .val (.int ((up fu0 i1 x2) (1 : Int32))), .val (.int ((up fu0 i1 x2) (2 : Int32))), .val (.int ((up (up fu0 i1 x2) i2 x3) (0 : Int32))), .val (.int ((up (up fu0 i1 x2) i2 x3) (1 : Int32))), .val (.int ((up (up fu0 i1 x2) i2 x3) (2 : Int32))), .unset] [(.int x4), (.int i3), (.ref b538), (.ref b560)])) _
    refine st584.trans ?_
    show Steps p.tables e below (T584.setTop (mkF m 161 #[.val (.int x0), .val (.int x1), .val (.int x2), .val (.int x3), .val (.int x4), .val (.int x5), .val (.ref b538), .val (.int i1), .val (.int i2), .val (.int i3), .val (.int i4), .val (.int kp), .val (.ref b560), .val (.int ((up fu0 i1 x2) (0 : Int32))), .val (.int ((up fu0 i1 x2) (1 : Int32))), .val (.int ((up fu0 i1 x2) (2 : Int32))), .val (.int ((up (up fu0 i1 x2) i2 x3) (0 : Int32))), .val (.int ((up (up fu0 i1 x2) i2 x3) (1 : Int32))), .val (.int ((up (up fu0 i1 x2) i2 x3) (2 : Int32))), .unset] [])) _
    refine XS.aload X584.here hx rfl (hb hby at_161) rfl rfl ?_
    show Steps p.tables e below (T584.setTop (mkF m 163 #[.val (.int x0), .val (.int x1), .val (.int x2), .val (.int x3), .val (.int x4), .val (.int x5), .val (.ref b538), .val (.int i1), .val (.int i2), .val (.int i3), .val (.int i4), .val (.int kp), .val (.ref b560), .val (.int ((up fu0 i1 x2) (0 : Int32))), .val (.int ((up fu0 i1 x2) (1 : Int32))), .val (.int ((up fu0 i1 x2) (2 : Int32))), .val (.int ((up (up fu0 i1 x2) i2 x3) (0 : Int32))), .val (.int ((up (up fu0 i1 x2) i2 x3) (1 : Int32))), .val (.int ((up (up fu0 i1 x2) i2 x3) (2 : Int32))), .unset] [(.ref b560)])) _
    refine XS.aload X584.here hx rfl (hb hby at_163) rfl rfl ?_
    show Steps p.tables e below (T584.setTop (mkF m 165 #[.val (.int x0), .val (.int x1), .val (.int x2), .val (.int x3), .val (.int x4), .val (.int x5), .val (.ref b538), .val (.int i1), .val (.int i2), .val (.int i3), .val (.int i4), .val (.int kp), .val (.ref b560), .val (.int ((up fu0 i1 x2) (0 : Int32))), .val (.int ((up fu0 i1 x2) (1 : Int32))), .val (.int ((up fu0 i1 x2) (2 : Int32))), .val (.int ((up (up fu0 i1 x2) i2 x3) (0 : Int32))), .val (.int ((up (up fu0 i1 x2) i2 x3) (1 : Int32))), .val (.int ((up (up fu0 i1 x2) i2 x3) (2 : Int32))), .unset] [(.ref b538), (.ref b560)])) _
    refine XS.iload X584.here hx rfl (hb hby at_165) rfl ?_
    show Steps p.tables e below (T584.setTop (mkF m 167 #[.val (.int x0), .val (.int x1), .val (.int x2), .val (.int x3), .val (.int x4), .val (.int x5), .val (.ref b538), .val (.int i1), .val (.int i2), .val (.int i3), .val (.int i4), .val (.int kp), .val (.ref b560), .val (.int ((up fu0 i1 x2) (0 : Int32))), .val (.int ((up fu0 i1 x2) (1 : Int32))), .val (.int ((up fu0 i1 x2) (2 : Int32))), .val (.int ((up (up fu0 i1 x2) i2 x3) (0 : Int32))), .val (.int ((up (up fu0 i1 x2) i2 x3) (1 : Int32))), .val (.int ((up (up fu0 i1 x2) i2 x3) (2 : Int32))), .unset] [(.int i4), (.ref b538), (.ref b560)])) _
    refine XS.iload X584.here hx rfl (hb hby at_167) rfl ?_
    show Steps p.tables e below (T584.setTop (mkF m 169 #[.val (.int x0), .val (.int x1), .val (.int x2), .val (.int x3), .val (.int x4), .val (.int x5), .val (.ref b538), .val (.int i1), .val (.int i2), .val (.int i3), .val (.int i4), .val (.int kp), .val (.ref b560), .val (.int ((up fu0 i1 x2) (0 : Int32))), .val (.int ((up fu0 i1 x2) (1 : Int32))), .val (.int ((up fu0 i1 x2) (2 : Int32))), .val (.int ((up (up fu0 i1 x2) i2 x3) (0 : Int32))), .val (.int ((up (up fu0 i1 x2) i2 x3) (1 : Int32))), .val (.int ((up (up fu0 i1 x2) i2 x3) (2 : Int32))), .unset] [(.int x4), (.int i4), (.ref b538), (.ref b560)])) _
    refine XS.iconst X584.here hx rfl (hb hby at_169) ?_
    show Steps p.tables e below (T584.setTop (mkF m 170 #[.val (.int x0), .val (.int x1), .val (.int x2), .val (.int x3), .val (.int x4), .val (.int x5), .val (.ref b538), .val (.int i1), .val (.int i2), .val (.int i3), .val (.int i4), .val (.int kp), .val (.ref b560), .val (.int ((up fu0 i1 x2) (0 : Int32))), .val (.int ((up fu0 i1 x2) (1 : Int32))), .val (.int ((up fu0 i1 x2) (2 : Int32))), .val (.int ((up (up fu0 i1 x2) i2 x3) (0 : Int32))), .val (.int ((up (up fu0 i1 x2) i2 x3) (1 : Int32))), .val (.int ((up (up fu0 i1 x2) i2 x3) (2 : Int32))), .unset] [(.int (-1 : Int32)), (.int x4), (.int i4), (.ref b538), (.ref b560)])) _
    refine XS.ixor X584.here hx rfl (hb hby at_170) rfl ?_
    show Steps p.tables e below (T584.setTop (mkF m 171 #[.val (.int x0), .val (.int x1), .val (.int x2), .val (.int x3), .val (.int x4), .val (.int x5), .val (.ref b538), .val (.int i1), .val (.int i2), .val (.int i3), .val (.int i4), .val (.int kp), .val (.ref b560), .val (.int ((up fu0 i1 x2) (0 : Int32))), .val (.int ((up fu0 i1 x2) (1 : Int32))), .val (.int ((up fu0 i1 x2) (2 : Int32))), .val (.int ((up (up fu0 i1 x2) i2 x3) (0 : Int32))), .val (.int ((up (up fu0 i1 x2) i2 x3) (1 : Int32))), .val (.int ((up (up fu0 i1 x2) i2 x3) (2 : Int32))), .unset] [(.int (x4 ^^^ (-1 : Int32))), (.int i4), (.ref b538), (.ref b560)])) _
    refine st586.trans ?_
    show Steps p.tables e below (T586.setTop (mkF m 174 #[.val (.int x0), .val (.int x1), .val (.int x2), .val (.int x3), .val (.int x4), .val (.int x5), .val (.ref b538), .val (.int i1), .val (.int i2), .val (.int i3), .val (.int i4), .val (.int kp), .val (.ref b560), .val (.int ((up fu0 i1 x2) (0 : Int32))), .val (.int ((up fu0 i1 x2) (1 : Int32))), .val (.int ((up fu0 i1 x2) (2 : Int32))), .val (.int ((up (up fu0 i1 x2) i2 x3) (0 : Int32))), .val (.int ((up (up fu0 i1 x2) i2 x3) (1 : Int32))), .val (.int ((up (up fu0 i1 x2) i2 x3) (2 : Int32))), .unset] [])) _
    refine XS.iconst X586.here hx rfl (hb hby at_174) ?_
    show Steps p.tables e below (T586.setTop (mkF m 175 #[.val (.int x0), .val (.int x1), .val (.int x2), .val (.int x3), .val (.int x4), .val (.int x5), .val (.ref b538), .val (.int i1), .val (.int i2), .val (.int i3), .val (.int i4), .val (.int kp), .val (.ref b560), .val (.int ((up fu0 i1 x2) (0 : Int32))), .val (.int ((up fu0 i1 x2) (1 : Int32))), .val (.int ((up fu0 i1 x2) (2 : Int32))), .val (.int ((up (up fu0 i1 x2) i2 x3) (0 : Int32))), .val (.int ((up (up fu0 i1 x2) i2 x3) (1 : Int32))), .val (.int ((up (up fu0 i1 x2) i2 x3) (2 : Int32))), .unset] [(.int (1 : Int32))])) _
    refine XS.istore X586.here hx rfl (hb hby at_175) rfl (l' := #[.val (.int x0), .val (.int x1), .val (.int x2), .val (.int x3), .val (.int x4), .val (.int x5), .val (.ref b538), .val (.int i1), .val (.int i2), .val (.int i3), .val (.int i4), .val (.int kp), .val (.ref b560), .val (.int ((up fu0 i1 x2) (0 : Int32))), .val (.int ((up fu0 i1 x2) (1 : Int32))), .val (.int ((up fu0 i1 x2) (2 : Int32))), .val (.int ((up (up fu0 i1 x2) i2 x3) (0 : Int32))), .val (.int ((up (up fu0 i1 x2) i2 x3) (1 : Int32))), .val (.int ((up (up fu0 i1 x2) i2 x3) (2 : Int32))), .val (.int (1 : Int32))]) rfl ?_
    show Steps p.tables e below (T586.setTop (mkF m 177 #[.val (.int x0), .val (.int x1), .val (.int x2), .val (.int x3), .val (.int x4), .val (.int x5), .val (.ref b538), .val (.int i1), .val (.int i2), .val (.int i3), .val (.int i4), .val (.int kp), .val (.ref b560), .val (.int ((up fu0 i1 x2) (0 : Int32))), .val (.int ((up fu0 i1 x2) (1 : Int32))), .val (.int ((up fu0 i1 x2) (2 : Int32))), .val (.int ((up (up fu0 i1 x2) i2 x3) (0 : Int32))), .val (.int ((up (up fu0 i1 x2) i2 x3) (1 : Int32))), .val (.int ((up (up fu0 i1 x2) i2 x3) (2 : Int32))), .val (.int (1 : Int32))] [])) _
    refine XS.iload X586.here hx rfl (hb hby at_177) rfl ?_
    exact kk)
  by_cases hc179 : kp = (0 : Int32)
  · obtain ⟨cq588, kq588, q588a, q588b, q588c⟩ := isOf hZ (rfl : T586.heap = T586.heap) J586.1
    obtain ⟨vv588, _, ⟨T588, L588, k588, n588⟩, -, X588, ⟨Lc588, hQ588, l588, y588, z588⟩, st588⟩ := X586.virtualBack hx (y := (⟨"com/example/envyless/envyless/Journal", "undo", "()V"⟩ : MethodName)) (z := (⟨"com/example/envyless/envyless/Journal", "undo", "()V"⟩ : MethodName)) hown (mvT hZ (hw _ (List.mem_of_getElem? (i := 35) rfl))) (mvT hZ (hw _ (List.mem_of_getElem? (i := 36) rfl))) (notFace_of_selects (args := #[]) (mvT hZ (hw _ (List.mem_of_getElem? (i := 38) rfl)))) (mvT hZ (hw _ (List.mem_of_getElem? (i := 38) rfl))) (mvT hZ (hw _ (List.mem_of_getElem? (i := 37) rfl))) (by decide) (backOf (W := 0) (rm_undo2 l Z a0 hw [] b560 jA jI jV jT b538 kA (3 : Int32) (2 : Int32) (8 : Int32) (3 : Int32) (up (up (up (fun _ => 0) (0 : Int32) i2) (1 : Int32) i3) (2 : Int32) i4) (up (up (up (fun _ => 0) (0 : Int32) ((up fu0 i1 x2) i2)) (1 : Int32) ((up (up fu0 i1 x2) i2 x3) i3)) (2 : Int32) ((up (up (up fu0 i1 x2) i2 x3) i3 x4) i4)) (up (up (fun _ => 0) (0 : Int32) (0 : Int32)) (1 : Int32) (1 : Int32)) (up (up (up (up fu0 i1 x2) i2 x3) i3 x4) i4 (x4 ^^^ (-1 : Int32))) (1 : Int32) (1 : Int32) (1 : Int32) i4 ((up (up (up fu0 i1 x2) i2 x3) i3 x4) i4) i3 ((up (up fu0 i1 x2) i2 x3) i3) T586.heap n0 Z586 J586 DJv GEv (by decide) (by decide) (by decide) (by decide) (own_up0 (by decide)) (by decide) (fun i q => Int32.lt_trans q (by decide)) (by decide) (by decide) (by decide) (by decide) (own_up0 (by decide)) (own_up0 (by decide)) bi4.1 bi4.2 (by decide) (by decide) (by decide) (by decide) (own_up1 (by decide) (own_up0 (by decide))) (own_up1 (by decide) (own_up0 (by decide))) bi3.1 bi3.2 (by decide)) hZ (hw _ (List.mem_of_getElem? (i := 39) rfl)) (hw _ (List.mem_of_getElem? (i := 3) rfl)) (by decide) (by decide)) q588a q588c (g := (mkF m 192 #[.val (.int x0), .val (.int x1), .val (.int x2), .val (.int x3), .val (.int x4), .val (.int x5), .val (.ref b538), .val (.int i1), .val (.int i2), .val (.int i3), .val (.int i4), .val (.int kp), .val (.ref b560), .val (.int ((up fu0 i1 x2) (0 : Int32))), .val (.int ((up fu0 i1 x2) (1 : Int32))), .val (.int ((up fu0 i1 x2) (2 : Int32))), .val (.int ((up (up fu0 i1 x2) i2 x3) (0 : Int32))), .val (.int ((up (up fu0 i1 x2) i2 x3) (1 : Int32))), .val (.int ((up (up fu0 i1 x2) i2 x3) (2 : Int32))), .val (.int (1 : Int32))] [(.ref b560)])) rfl (by rw [hml]; rfl) (Steps.refl _) (argsL := []) (rest := []) (lenOf own_pd_1 rfl) rfl (by show 2 * 0 + _ ≤ _; exact Nat.le_of_eq rfl) (hb hby at_192) (fun _ _ => ⟨rfl, (rfl : T586.heap = T586.heap), (by decide : 6 + 0 ≤ _), (by decide : 209 + 0 ≤ _)⟩)
    dsimp only [Pt.U, Pt.locs, Pt.cells, Pt.slots] at X588 l588 y588 z588 st588 hQ588
    subst l588 y588 z588
    obtain ⟨rfl, N588q, Z588, J588⟩ := hQ588
    have N588 := Fr.app N586 N588q
    rw [up_up, up_up] at J588
    have AIu588 : AI Z T588.heap b538 (3 : Int32) (up (up fu0 i1 x2) i2 x3) := J588.2.2.2.2.2.2.2.2.2.2.2.1
    obtain ⟨cl589, Ar589, S589, M589, H589⟩ := id AIu588
    have pre590 : ∀ t, Steps p.tables e below (T588.setTop (mkF m 201 #[.val (.int x0), .val (.int x1), .val (.int x2), .val (.int x3), .val (.int x4), .val (.int x5), .val (.ref b538), .val (.int i1), .val (.int i2), .val (.int i3), .val (.int i4), .val (.int kp), .val (.ref b560), .val (.int ((up fu0 i1 x2) (0 : Int32))), .val (.int ((up fu0 i1 x2) (1 : Int32))), .val (.int ((up fu0 i1 x2) (2 : Int32))), .val (.int ((up (up fu0 i1 x2) i2 x3) (0 : Int32))), .val (.int ((up (up fu0 i1 x2) i2 x3) (1 : Int32))), .val (.int ((up (up fu0 i1 x2) i2 x3) (2 : Int32))), .val (.int (1 : Int32))] [(.int ((up (up fu0 i1 x2) i2 x3) (0 : Int32))), (.int ((up (up fu0 i1 x2) i2 x3) (0 : Int32)))])) t → Steps p.tables e below (s₁.setTop (entryFrame m #[(.int x0), (.int x1), (.int x2), (.int x3), (.int x4), (.int x5)] maxLocals)) t := fun tt kk => pre587 tt (by
      show Steps p.tables e below (T586.setTop (mkF m 179 #[.val (.int x0), .val (.int x1), .val (.int x2), .val (.int x3), .val (.int x4), .val (.int x5), .val (.ref b538), .val (.int i1), .val (.int i2), .val (.int i3), .val (.int i4), .val (.int kp), .val (.ref b560), .val (.int ((up fu0 i1 x2) (0 : Int32))), .val (.int ((up fu0 i1 x2) (1 : Int32))), .val (.int ((up fu0 i1 x2) (2 : Int32))), .val (.int ((up (up fu0 i1 x2) i2 x3) (0 : Int32))), .val (.int ((up (up fu0 i1 x2) i2 x3) (1 : Int32))), .val (.int ((up (up fu0 i1 x2) i2 x3) (2 : Int32))), .val (.int (1 : Int32))] [(.int kp)])) _
      refine XS.ifYes X586.here hx rfl (pc0 := 179) (pc' := 190) rfl (hb hby at_179) rfl ((if0 _ _).trans (teq hc179).1) (by decide) (by decide) ?_
      show Steps p.tables e below (T586.setTop (mkF m 190 #[.val (.int x0), .val (.int x1), .val (.int x2), .val (.int x3), .val (.int x4), .val (.int x5), .val (.ref b538), .val (.int i1), .val (.int i2), .val (.int i3), .val (.int i4), .val (.int kp), .val (.ref b560), .val (.int ((up fu0 i1 x2) (0 : Int32))), .val (.int ((up fu0 i1 x2) (1 : Int32))), .val (.int ((up fu0 i1 x2) (2 : Int32))), .val (.int ((up (up fu0 i1 x2) i2 x3) (0 : Int32))), .val (.int ((up (up fu0 i1 x2) i2 x3) (1 : Int32))), .val (.int ((up (up fu0 i1 x2) i2 x3) (2 : Int32))), .val (.int (1 : Int32))] [])) _
      refine XS.aload X586.here hx rfl (hb hby at_190) rfl rfl ?_
      show Steps p.tables e below (T586.setTop (mkF m 192 #[.val (.int x0), .val (.int x1), .val (.int x2), .val (.int x3), .val (.int x4), .val (.int x5), .val (.ref b538), .val (.int i1), .val (.int i2), .val (.int i3), .val (.int i4), .val (.int kp), .val (.ref b560), .val (.int ((up fu0 i1 x2) (0 : Int32))), .val (.int ((up fu0 i1 x2) (1 : Int32))), .val (.int ((up fu0 i1 x2) (2 : Int32))), .val (.int ((up (up fu0 i1 x2) i2 x3) (0 : Int32))), .val (.int ((up (up fu0 i1 x2) i2 x3) (1 : Int32))), .val (.int ((up (up fu0 i1 x2) i2 x3) (2 : Int32))), .val (.int (1 : Int32))] [(.ref b560)])) _
      refine st588.trans ?_
      show Steps p.tables e below (T588.setTop (mkF m 195 #[.val (.int x0), .val (.int x1), .val (.int x2), .val (.int x3), .val (.int x4), .val (.int x5), .val (.ref b538), .val (.int i1), .val (.int i2), .val (.int i3), .val (.int i4), .val (.int kp), .val (.ref b560), .val (.int ((up fu0 i1 x2) (0 : Int32))), .val (.int ((up fu0 i1 x2) (1 : Int32))), .val (.int ((up fu0 i1 x2) (2 : Int32))), .val (.int ((up (up fu0 i1 x2) i2 x3) (0 : Int32))), .val (.int ((up (up fu0 i1 x2) i2 x3) (1 : Int32))), .val (.int ((up (up fu0 i1 x2) i2 x3) (2 : Int32))), .val (.int (1 : Int32))] [])) _
      refine XS.aload X588.here hx rfl (hb hby at_195) rfl rfl ?_
      show Steps p.tables e below (T588.setTop (mkF m 197 #[.val (.int x0), .val (.int x1), .val (.int x2), .val (.int x3), .val (.int x4), .val (.int x5), .val (.ref b538), .val (.int i1), .val (.int i2), .val (.int i3), .val (.int i4), .val (.int kp), .val (.ref b560), .val (.int ((up fu0 i1 x2) (0 : Int32))), .val (.int ((up fu0 i1 x2) (1 : Int32))), .val (.int ((up fu0 i1 x2) (2 : Int32))), .val (.int ((up (up fu0 i1 x2) i2 x3) (0 : Int32))), .val (.int ((up (up fu0 i1 x2) i2 x3) (1 : Int32))), .val (.int ((up (up fu0 i1 x2) i2 x3) (2 : Int32))), .val (.int (1 : Int32))] [(.ref b538)])) _
      refine XS.iconst X588.here hx rfl (hb hby at_197) ?_
      show Steps p.tables e below (T588.setTop (mkF m 198 #[.val (.int x0), .val (.int x1), .val (.int x2), .val (.int x3), .val (.int x4), .val (.int x5), .val (.ref b538), .val (.int i1), .val (.int i2), .val (.int i3), .val (.int i4), .val (.int kp), .val (.ref b560), .val (.int ((up fu0 i1 x2) (0 : Int32))), .val (.int ((up fu0 i1 x2) (1 : Int32))), .val (.int ((up fu0 i1 x2) (2 : Int32))), .val (.int ((up (up fu0 i1 x2) i2 x3) (0 : Int32))), .val (.int ((up (up fu0 i1 x2) i2 x3) (1 : Int32))), .val (.int ((up (up fu0 i1 x2) i2 x3) (2 : Int32))), .val (.int (1 : Int32))] [(.int (0 : Int32)), (.ref b538)])) _
      refine X588.iaload hx (j := (0 : Int32)) (v := (.int ((up (up fu0 i1 x2) i2 x3) (0 : Int32)))) (by rw [(rfl : T588.heap = T588.heap)]; exact Ar589.1) (State.isArrayOf_alike hZ.alike Ar589.2.1) Ar589.2.2 (inb_of S589 ⟨(by decide), (by decide)⟩) (H589 _ (by decide) (by decide)) (g := (mkF m 198 #[.val (.int x0), .val (.int x1), .val (.int x2), .val (.int x3), .val (.int x4), .val (.int x5), .val (.ref b538), .val (.int i1), .val (.int i2), .val (.int i3), .val (.int i4), .val (.int kp), .val (.ref b560), .val (.int ((up fu0 i1 x2) (0 : Int32))), .val (.int ((up fu0 i1 x2) (1 : Int32))), .val (.int ((up fu0 i1 x2) (2 : Int32))), .val (.int ((up (up fu0 i1 x2) i2 x3) (0 : Int32))), .val (.int ((up (up fu0 i1 x2) i2 x3) (1 : Int32))), .val (.int ((up (up fu0 i1 x2) i2 x3) (2 : Int32))), .val (.int (1 : Int32))] [(.int (0 : Int32)), (.ref b538)])) rfl rfl (hb hby at_198) _ ?_
      show Steps p.tables e below (T588.setTop (mkF m 199 #[.val (.int x0), .val (.int x1), .val (.int x2), .val (.int x3), .val (.int x4), .val (.int x5), .val (.ref b538), .val (.int i1), .val (.int i2), .val (.int i3), .val (.int i4), .val (.int kp), .val (.ref b560), .val (.int ((up fu0 i1 x2) (0 : Int32))), .val (.int ((up fu0 i1 x2) (1 : Int32))), .val (.int ((up fu0 i1 x2) (2 : Int32))), .val (.int ((up (up fu0 i1 x2) i2 x3) (0 : Int32))), .val (.int ((up (up fu0 i1 x2) i2 x3) (1 : Int32))), .val (.int ((up (up fu0 i1 x2) i2 x3) (2 : Int32))), .val (.int (1 : Int32))] [(.int ((up (up fu0 i1 x2) i2 x3) (0 : Int32)))])) _
      refine XS.iload X588.here hx rfl (hb hby at_199) rfl ?_
      exact kk)
    obtain ⟨cl591, Ar591, S591, M591, H591⟩ := id AIu588
    have pre592 : ∀ t, Steps p.tables e below (T588.setTop (mkF m 210 #[.val (.int x0), .val (.int x1), .val (.int x2), .val (.int x3), .val (.int x4), .val (.int x5), .val (.ref b538), .val (.int i1), .val (.int i2), .val (.int i3), .val (.int i4), .val (.int kp), .val (.ref b560), .val (.int ((up fu0 i1 x2) (0 : Int32))), .val (.int ((up fu0 i1 x2) (1 : Int32))), .val (.int ((up fu0 i1 x2) (2 : Int32))), .val (.int ((up (up fu0 i1 x2) i2 x3) (0 : Int32))), .val (.int ((up (up fu0 i1 x2) i2 x3) (1 : Int32))), .val (.int ((up (up fu0 i1 x2) i2 x3) (2 : Int32))), .val (.int (1 : Int32))] [(.int ((up (up fu0 i1 x2) i2 x3) (1 : Int32))), (.int ((up (up fu0 i1 x2) i2 x3) (1 : Int32)))])) t → Steps p.tables e below (s₁.setTop (entryFrame m #[(.int x0), (.int x1), (.int x2), (.int x3), (.int x4), (.int x5)] maxLocals)) t := fun tt kk => pre590 tt (by
      show Steps p.tables e below (T588.setTop (mkF m 201 #[.val (.int x0), .val (.int x1), .val (.int x2), .val (.int x3), .val (.int x4), .val (.int x5), .val (.ref b538), .val (.int i1), .val (.int i2), .val (.int i3), .val (.int i4), .val (.int kp), .val (.ref b560), .val (.int ((up fu0 i1 x2) (0 : Int32))), .val (.int ((up fu0 i1 x2) (1 : Int32))), .val (.int ((up fu0 i1 x2) (2 : Int32))), .val (.int ((up (up fu0 i1 x2) i2 x3) (0 : Int32))), .val (.int ((up (up fu0 i1 x2) i2 x3) (1 : Int32))), .val (.int ((up (up fu0 i1 x2) i2 x3) (2 : Int32))), .val (.int (1 : Int32))] [(.int ((up (up fu0 i1 x2) i2 x3) (0 : Int32))), (.int ((up (up fu0 i1 x2) i2 x3) (0 : Int32)))])) _
      refine XS.icmpNo X588.here hx rfl (hb hby at_201) rfl (teq (rfl : ((up (up fu0 i1 x2) i2 x3) (0 : Int32)) = ((up (up fu0 i1 x2) i2 x3) (0 : Int32)))).2 ?_
      show Steps p.tables e below (T588.setTop (mkF m 204 #[.val (.int x0), .val (.int x1), .val (.int x2), .val (.int x3), .val (.int x4), .val (.int x5), .val (.ref b538), .val (.int i1), .val (.int i2), .val (.int i3), .val (.int i4), .val (.int kp), .val (.ref b560), .val (.int ((up fu0 i1 x2) (0 : Int32))), .val (.int ((up fu0 i1 x2) (1 : Int32))), .val (.int ((up fu0 i1 x2) (2 : Int32))), .val (.int ((up (up fu0 i1 x2) i2 x3) (0 : Int32))), .val (.int ((up (up fu0 i1 x2) i2 x3) (1 : Int32))), .val (.int ((up (up fu0 i1 x2) i2 x3) (2 : Int32))), .val (.int (1 : Int32))] [])) _
      refine XS.aload X588.here hx rfl (hb hby at_204) rfl rfl ?_
      show Steps p.tables e below (T588.setTop (mkF m 206 #[.val (.int x0), .val (.int x1), .val (.int x2), .val (.int x3), .val (.int x4), .val (.int x5), .val (.ref b538), .val (.int i1), .val (.int i2), .val (.int i3), .val (.int i4), .val (.int kp), .val (.ref b560), .val (.int ((up fu0 i1 x2) (0 : Int32))), .val (.int ((up fu0 i1 x2) (1 : Int32))), .val (.int ((up fu0 i1 x2) (2 : Int32))), .val (.int ((up (up fu0 i1 x2) i2 x3) (0 : Int32))), .val (.int ((up (up fu0 i1 x2) i2 x3) (1 : Int32))), .val (.int ((up (up fu0 i1 x2) i2 x3) (2 : Int32))), .val (.int (1 : Int32))] [(.ref b538)])) _
      refine XS.iconst X588.here hx rfl (hb hby at_206) ?_
      show Steps p.tables e below (T588.setTop (mkF m 207 #[.val (.int x0), .val (.int x1), .val (.int x2), .val (.int x3), .val (.int x4), .val (.int x5), .val (.ref b538), .val (.int i1), .val (.int i2), .val (.int i3), .val (.int i4), .val (.int kp), .val (.ref b560), .val (.int ((up fu0 i1 x2) (0 : Int32))), .val (.int ((up fu0 i1 x2) (1 : Int32))), .val (.int ((up fu0 i1 x2) (2 : Int32))), .val (.int ((up (up fu0 i1 x2) i2 x3) (0 : Int32))), .val (.int ((up (up fu0 i1 x2) i2 x3) (1 : Int32))), .val (.int ((up (up fu0 i1 x2) i2 x3) (2 : Int32))), .val (.int (1 : Int32))] [(.int (1 : Int32)), (.ref b538)])) _
      refine X588.iaload hx (j := (1 : Int32)) (v := (.int ((up (up fu0 i1 x2) i2 x3) (1 : Int32)))) (by rw [(rfl : T588.heap = T588.heap)]; exact Ar591.1) (State.isArrayOf_alike hZ.alike Ar591.2.1) Ar591.2.2 (inb_of S591 ⟨(by decide), (by decide)⟩) (H591 _ (by decide) (by decide)) (g := (mkF m 207 #[.val (.int x0), .val (.int x1), .val (.int x2), .val (.int x3), .val (.int x4), .val (.int x5), .val (.ref b538), .val (.int i1), .val (.int i2), .val (.int i3), .val (.int i4), .val (.int kp), .val (.ref b560), .val (.int ((up fu0 i1 x2) (0 : Int32))), .val (.int ((up fu0 i1 x2) (1 : Int32))), .val (.int ((up fu0 i1 x2) (2 : Int32))), .val (.int ((up (up fu0 i1 x2) i2 x3) (0 : Int32))), .val (.int ((up (up fu0 i1 x2) i2 x3) (1 : Int32))), .val (.int ((up (up fu0 i1 x2) i2 x3) (2 : Int32))), .val (.int (1 : Int32))] [(.int (1 : Int32)), (.ref b538)])) rfl rfl (hb hby at_207) _ ?_
      show Steps p.tables e below (T588.setTop (mkF m 208 #[.val (.int x0), .val (.int x1), .val (.int x2), .val (.int x3), .val (.int x4), .val (.int x5), .val (.ref b538), .val (.int i1), .val (.int i2), .val (.int i3), .val (.int i4), .val (.int kp), .val (.ref b560), .val (.int ((up fu0 i1 x2) (0 : Int32))), .val (.int ((up fu0 i1 x2) (1 : Int32))), .val (.int ((up fu0 i1 x2) (2 : Int32))), .val (.int ((up (up fu0 i1 x2) i2 x3) (0 : Int32))), .val (.int ((up (up fu0 i1 x2) i2 x3) (1 : Int32))), .val (.int ((up (up fu0 i1 x2) i2 x3) (2 : Int32))), .val (.int (1 : Int32))] [(.int ((up (up fu0 i1 x2) i2 x3) (1 : Int32)))])) _
      refine XS.iload X588.here hx rfl (hb hby at_208) rfl ?_
      exact kk)
    obtain ⟨cl593, Ar593, S593, M593, H593⟩ := id AIu588
    have pre594 : ∀ t, Steps p.tables e below (T588.setTop (mkF m 219 #[.val (.int x0), .val (.int x1), .val (.int x2), .val (.int x3), .val (.int x4), .val (.int x5), .val (.ref b538), .val (.int i1), .val (.int i2), .val (.int i3), .val (.int i4), .val (.int kp), .val (.ref b560), .val (.int ((up fu0 i1 x2) (0 : Int32))), .val (.int ((up fu0 i1 x2) (1 : Int32))), .val (.int ((up fu0 i1 x2) (2 : Int32))), .val (.int ((up (up fu0 i1 x2) i2 x3) (0 : Int32))), .val (.int ((up (up fu0 i1 x2) i2 x3) (1 : Int32))), .val (.int ((up (up fu0 i1 x2) i2 x3) (2 : Int32))), .val (.int (1 : Int32))] [(.int ((up (up fu0 i1 x2) i2 x3) (2 : Int32))), (.int ((up (up fu0 i1 x2) i2 x3) (2 : Int32)))])) t → Steps p.tables e below (s₁.setTop (entryFrame m #[(.int x0), (.int x1), (.int x2), (.int x3), (.int x4), (.int x5)] maxLocals)) t := fun tt kk => pre592 tt (by
      show Steps p.tables e below (T588.setTop (mkF m 210 #[.val (.int x0), .val (.int x1), .val (.int x2), .val (.int x3), .val (.int x4), .val (.int x5), .val (.ref b538), .val (.int i1), .val (.int i2), .val (.int i3), .val (.int i4), .val (.int kp), .val (.ref b560), .val (.int ((up fu0 i1 x2) (0 : Int32))), .val (.int ((up fu0 i1 x2) (1 : Int32))), .val (.int ((up fu0 i1 x2) (2 : Int32))), .val (.int ((up (up fu0 i1 x2) i2 x3) (0 : Int32))), .val (.int ((up (up fu0 i1 x2) i2 x3) (1 : Int32))), .val (.int ((up (up fu0 i1 x2) i2 x3) (2 : Int32))), .val (.int (1 : Int32))] [(.int ((up (up fu0 i1 x2) i2 x3) (1 : Int32))), (.int ((up (up fu0 i1 x2) i2 x3) (1 : Int32)))])) _
      refine XS.icmpNo X588.here hx rfl (hb hby at_210) rfl (teq (rfl : ((up (up fu0 i1 x2) i2 x3) (1 : Int32)) = ((up (up fu0 i1 x2) i2 x3) (1 : Int32)))).2 ?_
      show Steps p.tables e below (T588.setTop (mkF m 213 #[.val (.int x0), .val (.int x1), .val (.int x2), .val (.int x3), .val (.int x4), .val (.int x5), .val (.ref b538), .val (.int i1), .val (.int i2), .val (.int i3), .val (.int i4), .val (.int kp), .val (.ref b560), .val (.int ((up fu0 i1 x2) (0 : Int32))), .val (.int ((up fu0 i1 x2) (1 : Int32))), .val (.int ((up fu0 i1 x2) (2 : Int32))), .val (.int ((up (up fu0 i1 x2) i2 x3) (0 : Int32))), .val (.int ((up (up fu0 i1 x2) i2 x3) (1 : Int32))), .val (.int ((up (up fu0 i1 x2) i2 x3) (2 : Int32))), .val (.int (1 : Int32))] [])) _
      refine XS.aload X588.here hx rfl (hb hby at_213) rfl rfl ?_
      show Steps p.tables e below (T588.setTop (mkF m 215 #[.val (.int x0), .val (.int x1), .val (.int x2), .val (.int x3), .val (.int x4), .val (.int x5), .val (.ref b538), .val (.int i1), .val (.int i2), .val (.int i3), .val (.int i4), .val (.int kp), .val (.ref b560), .val (.int ((up fu0 i1 x2) (0 : Int32))), .val (.int ((up fu0 i1 x2) (1 : Int32))), .val (.int ((up fu0 i1 x2) (2 : Int32))), .val (.int ((up (up fu0 i1 x2) i2 x3) (0 : Int32))), .val (.int ((up (up fu0 i1 x2) i2 x3) (1 : Int32))), .val (.int ((up (up fu0 i1 x2) i2 x3) (2 : Int32))), .val (.int (1 : Int32))] [(.ref b538)])) _
      refine XS.iconst X588.here hx rfl (hb hby at_215) ?_
      show Steps p.tables e below (T588.setTop (mkF m 216 #[.val (.int x0), .val (.int x1), .val (.int x2), .val (.int x3), .val (.int x4), .val (.int x5), .val (.ref b538), .val (.int i1), .val (.int i2), .val (.int i3), .val (.int i4), .val (.int kp), .val (.ref b560), .val (.int ((up fu0 i1 x2) (0 : Int32))), .val (.int ((up fu0 i1 x2) (1 : Int32))), .val (.int ((up fu0 i1 x2) (2 : Int32))), .val (.int ((up (up fu0 i1 x2) i2 x3) (0 : Int32))), .val (.int ((up (up fu0 i1 x2) i2 x3) (1 : Int32))), .val (.int ((up (up fu0 i1 x2) i2 x3) (2 : Int32))), .val (.int (1 : Int32))] [(.int (2 : Int32)), (.ref b538)])) _
      refine X588.iaload hx (j := (2 : Int32)) (v := (.int ((up (up fu0 i1 x2) i2 x3) (2 : Int32)))) (by rw [(rfl : T588.heap = T588.heap)]; exact Ar593.1) (State.isArrayOf_alike hZ.alike Ar593.2.1) Ar593.2.2 (inb_of S593 ⟨(by decide), (by decide)⟩) (H593 _ (by decide) (by decide)) (g := (mkF m 216 #[.val (.int x0), .val (.int x1), .val (.int x2), .val (.int x3), .val (.int x4), .val (.int x5), .val (.ref b538), .val (.int i1), .val (.int i2), .val (.int i3), .val (.int i4), .val (.int kp), .val (.ref b560), .val (.int ((up fu0 i1 x2) (0 : Int32))), .val (.int ((up fu0 i1 x2) (1 : Int32))), .val (.int ((up fu0 i1 x2) (2 : Int32))), .val (.int ((up (up fu0 i1 x2) i2 x3) (0 : Int32))), .val (.int ((up (up fu0 i1 x2) i2 x3) (1 : Int32))), .val (.int ((up (up fu0 i1 x2) i2 x3) (2 : Int32))), .val (.int (1 : Int32))] [(.int (2 : Int32)), (.ref b538)])) rfl rfl (hb hby at_216) _ ?_
      show Steps p.tables e below (T588.setTop (mkF m 217 #[.val (.int x0), .val (.int x1), .val (.int x2), .val (.int x3), .val (.int x4), .val (.int x5), .val (.ref b538), .val (.int i1), .val (.int i2), .val (.int i3), .val (.int i4), .val (.int kp), .val (.ref b560), .val (.int ((up fu0 i1 x2) (0 : Int32))), .val (.int ((up fu0 i1 x2) (1 : Int32))), .val (.int ((up fu0 i1 x2) (2 : Int32))), .val (.int ((up (up fu0 i1 x2) i2 x3) (0 : Int32))), .val (.int ((up (up fu0 i1 x2) i2 x3) (1 : Int32))), .val (.int ((up (up fu0 i1 x2) i2 x3) (2 : Int32))), .val (.int (1 : Int32))] [(.int ((up (up fu0 i1 x2) i2 x3) (2 : Int32)))])) _
      refine XS.iload X588.here hx rfl (hb hby at_217) rfl ?_
      exact kk)
    obtain ⟨Lg595, X595, N595⟩ : ∃ Lg, Stand p l e room_1 s m #[(.int x0), (.int x1), (.int x2), (.int x3), (.int x4), (.int x5)] below meth c T588 Lg 6 209 ∧ Fr n0 Lg := ⟨_, X588, N588⟩
    obtain ⟨cq596, kq596, q596a, q596b, q596c⟩ := isOf hZ (rfl : T588.heap = T588.heap) J588.1
    obtain ⟨vv596, _, ⟨T596, L596, k596, n596⟩, -, X596, ⟨Lc596, hQ596, l596, y596, z596⟩, st596⟩ := X595.virtualBack hx (y := (⟨"com/example/envyless/envyless/Journal", "undo", "()V"⟩ : MethodName)) (z := (⟨"com/example/envyless/envyless/Journal", "undo", "()V"⟩ : MethodName)) hown (mvT hZ (hw _ (List.mem_of_getElem? (i := 35) rfl))) (mvT hZ (hw _ (List.mem_of_getElem? (i := 36) rfl))) (notFace_of_selects (args := #[]) (mvT hZ (hw _ (List.mem_of_getElem? (i := 38) rfl)))) (mvT hZ (hw _ (List.mem_of_getElem? (i := 38) rfl))) (mvT hZ (hw _ (List.mem_of_getElem? (i := 37) rfl))) (by decide) (backOf (W := 0) (rm_undo1 l Z a0 hw [] b560 jA jI jV jT b538 kA (1 : Int32) (1 : Int32) (8 : Int32) (3 : Int32) (up (up (up (fun _ => 0) (0 : Int32) i2) (1 : Int32) i3) (2 : Int32) i4) (up (up (up (fun _ => 0) (0 : Int32) ((up fu0 i1 x2) i2)) (1 : Int32) ((up (up fu0 i1 x2) i2 x3) i3)) (2 : Int32) ((up (up (up fu0 i1 x2) i2 x3) i3 x4) i4)) (up (up (fun _ => 0) (0 : Int32) (0 : Int32)) (1 : Int32) (1 : Int32)) (up (up fu0 i1 x2) i2 x3) (0 : Int32) (0 : Int32) (0 : Int32) i2 ((up fu0 i1 x2) i2) T588.heap n0 Z588 J588 DJv GEv (by decide) (by decide) (by decide) (by decide) (own_up1 (by decide) (own_up0 (by decide))) (by decide) (fun i q => Int32.lt_trans q (by decide)) (by decide) (by decide) (by decide) (by decide) (own_up1 (by decide) (own_up1 (by decide) (own_up0 (by decide)))) (own_up1 (by decide) (own_up1 (by decide) (own_up0 (by decide)))) bi2.1 bi2.2 (by decide)) hZ (hw _ (List.mem_of_getElem? (i := 39) rfl)) (hw _ (List.mem_of_getElem? (i := 3) rfl)) (by decide) (by decide)) q596a q596c (g := (mkF m 231 #[.val (.int x0), .val (.int x1), .val (.int x2), .val (.int x3), .val (.int x4), .val (.int x5), .val (.ref b538), .val (.int i1), .val (.int i2), .val (.int i3), .val (.int i4), .val (.int kp), .val (.ref b560), .val (.int ((up fu0 i1 x2) (0 : Int32))), .val (.int ((up fu0 i1 x2) (1 : Int32))), .val (.int ((up fu0 i1 x2) (2 : Int32))), .val (.int ((up (up fu0 i1 x2) i2 x3) (0 : Int32))), .val (.int ((up (up fu0 i1 x2) i2 x3) (1 : Int32))), .val (.int ((up (up fu0 i1 x2) i2 x3) (2 : Int32))), .val (.int (1 : Int32))] [(.ref b560)])) rfl (by rw [hml]; rfl) (Steps.refl _) (argsL := []) (rest := []) (lenOf own_pd_1 rfl) rfl (by show 2 * 0 + _ ≤ _; exact Nat.le_of_eq rfl) (hb hby at_231) (fun _ _ => ⟨rfl, (rfl : T588.heap = T588.heap), (by decide : 6 + 0 ≤ _), (by decide : 209 + 0 ≤ _)⟩)
    dsimp only [Pt.U, Pt.locs, Pt.cells, Pt.slots] at X596 l596 y596 z596 st596 hQ596
    subst l596 y596 z596
    obtain ⟨rfl, N596q, Z596, J596⟩ := hQ596
    have N596 := Fr.app N595 N596q
    rw [up_up] at J596
    have AIu596 : AI Z T596.heap b538 (3 : Int32) (up fu0 i1 x2) := J596.2.2.2.2.2.2.2.2.2.2.2.1
    have pre597 : ∀ t, Steps p.tables e below (T596.setTop (mkF m 236 #[.val (.int x0), .val (.int x1), .val (.int x2), .val (.int x3), .val (.int x4), .val (.int x5), .val (.ref b538), .val (.int i1), .val (.int i2), .val (.int i3), .val (.int i4), .val (.int kp), .val (.ref b560), .val (.int ((up fu0 i1 x2) (0 : Int32))), .val (.int ((up fu0 i1 x2) (1 : Int32))), .val (.int ((up fu0 i1 x2) (2 : Int32))), .val (.int ((up (up fu0 i1 x2) i2 x3) (0 : Int32))), .val (.int ((up (up fu0 i1 x2) i2 x3) (1 : Int32))), .val (.int ((up (up fu0 i1 x2) i2 x3) (2 : Int32))), .val (.int (1 : Int32))] [(.int (1 : Int32))])) t → Steps p.tables e below (s₁.setTop (entryFrame m #[(.int x0), (.int x1), (.int x2), (.int x3), (.int x4), (.int x5)] maxLocals)) t := fun tt kk => pre594 tt (by
      show Steps p.tables e below (T588.setTop (mkF m 219 #[.val (.int x0), .val (.int x1), .val (.int x2), .val (.int x3), .val (.int x4), .val (.int x5), .val (.ref b538), .val (.int i1), .val (.int i2), .val (.int i3), .val (.int i4), .val (.int kp), .val (.ref b560), .val (.int ((up fu0 i1 x2) (0 : Int32))), .val (.int ((up fu0 i1 x2) (1 : Int32))), .val (.int ((up fu0 i1 x2) (2 : Int32))), .val (.int ((up (up fu0 i1 x2) i2 x3) (0 : Int32))), .val (.int ((up (up fu0 i1 x2) i2 x3) (1 : Int32))), .val (.int ((up (up fu0 i1 x2) i2 x3) (2 : Int32))), .val (.int (1 : Int32))] [(.int ((up (up fu0 i1 x2) i2 x3) (2 : Int32))), (.int ((up (up fu0 i1 x2) i2 x3) (2 : Int32)))])) _
      refine XS.icmpNo X588.here hx rfl (hb hby at_219) rfl (teq (rfl : ((up (up fu0 i1 x2) i2 x3) (2 : Int32)) = ((up (up fu0 i1 x2) i2 x3) (2 : Int32)))).2 ?_
      show Steps p.tables e below (T588.setTop (mkF m 222 #[.val (.int x0), .val (.int x1), .val (.int x2), .val (.int x3), .val (.int x4), .val (.int x5), .val (.ref b538), .val (.int i1), .val (.int i2), .val (.int i3), .val (.int i4), .val (.int kp), .val (.ref b560), .val (.int ((up fu0 i1 x2) (0 : Int32))), .val (.int ((up fu0 i1 x2) (1 : Int32))), .val (.int ((up fu0 i1 x2) (2 : Int32))), .val (.int ((up (up fu0 i1 x2) i2 x3) (0 : Int32))), .val (.int ((up (up fu0 i1 x2) i2 x3) (1 : Int32))), .val (.int ((up (up fu0 i1 x2) i2 x3) (2 : Int32))), .val (.int (1 : Int32))] [])) _
      refine XS.iconst X588.here hx rfl (hb hby at_222) ?_
      show Steps p.tables e below (T588.setTop (mkF m 223 #[.val (.int x0), .val (.int x1), .val (.int x2), .val (.int x3), .val (.int x4), .val (.int x5), .val (.ref b538), .val (.int i1), .val (.int i2), .val (.int i3), .val (.int i4), .val (.int kp), .val (.ref b560), .val (.int ((up fu0 i1 x2) (0 : Int32))), .val (.int ((up fu0 i1 x2) (1 : Int32))), .val (.int ((up fu0 i1 x2) (2 : Int32))), .val (.int ((up (up fu0 i1 x2) i2 x3) (0 : Int32))), .val (.int ((up (up fu0 i1 x2) i2 x3) (1 : Int32))), .val (.int ((up (up fu0 i1 x2) i2 x3) (2 : Int32))), .val (.int (1 : Int32))] [(.int (1 : Int32))])) _
      refine XS.goto X588.here hx rfl (pc0 := 223) (pc' := 227) rfl (hb hby at_223) (by decide) (by decide) ?_
      show Steps p.tables e below (T588.setTop (mkF m 227 #[.val (.int x0), .val (.int x1), .val (.int x2), .val (.int x3), .val (.int x4), .val (.int x5), .val (.ref b538), .val (.int i1), .val (.int i2), .val (.int i3), .val (.int i4), .val (.int kp), .val (.ref b560), .val (.int ((up fu0 i1 x2) (0 : Int32))), .val (.int ((up fu0 i1 x2) (1 : Int32))), .val (.int ((up fu0 i1 x2) (2 : Int32))), .val (.int ((up (up fu0 i1 x2) i2 x3) (0 : Int32))), .val (.int ((up (up fu0 i1 x2) i2 x3) (1 : Int32))), .val (.int ((up (up fu0 i1 x2) i2 x3) (2 : Int32))), .val (.int (1 : Int32))] [(.int (1 : Int32))])) _
      refine XS.istore X588.here hx rfl (hb hby at_227) rfl (l' := #[.val (.int x0), .val (.int x1), .val (.int x2), .val (.int x3), .val (.int x4), .val (.int x5), .val (.ref b538), .val (.int i1), .val (.int i2), .val (.int i3), .val (.int i4), .val (.int kp), .val (.ref b560), .val (.int ((up fu0 i1 x2) (0 : Int32))), .val (.int ((up fu0 i1 x2) (1 : Int32))), .val (.int ((up fu0 i1 x2) (2 : Int32))), .val (.int ((up (up fu0 i1 x2) i2 x3) (0 : Int32))), .val (.int ((up (up fu0 i1 x2) i2 x3) (1 : Int32))), .val (.int ((up (up fu0 i1 x2) i2 x3) (2 : Int32))), .val (.int (1 : Int32))]) rfl ?_
      show Steps p.tables e below (T588.setTop (mkF m 229 #[.val (.int x0), .val (.int x1), .val (.int x2), .val (.int x3), .val (.int x4), .val (.int x5), .val (.ref b538), .val (.int i1), .val (.int i2), .val (.int i3), .val (.int i4), .val (.int kp), .val (.ref b560), .val (.int ((up fu0 i1 x2) (0 : Int32))), .val (.int ((up fu0 i1 x2) (1 : Int32))), .val (.int ((up fu0 i1 x2) (2 : Int32))), .val (.int ((up (up fu0 i1 x2) i2 x3) (0 : Int32))), .val (.int ((up (up fu0 i1 x2) i2 x3) (1 : Int32))), .val (.int ((up (up fu0 i1 x2) i2 x3) (2 : Int32))), .val (.int (1 : Int32))] [])) _
      refine XS.aload X588.here hx rfl (hb hby at_229) rfl rfl ?_
      show Steps p.tables e below (T588.setTop (mkF m 231 #[.val (.int x0), .val (.int x1), .val (.int x2), .val (.int x3), .val (.int x4), .val (.int x5), .val (.ref b538), .val (.int i1), .val (.int i2), .val (.int i3), .val (.int i4), .val (.int kp), .val (.ref b560), .val (.int ((up fu0 i1 x2) (0 : Int32))), .val (.int ((up fu0 i1 x2) (1 : Int32))), .val (.int ((up fu0 i1 x2) (2 : Int32))), .val (.int ((up (up fu0 i1 x2) i2 x3) (0 : Int32))), .val (.int ((up (up fu0 i1 x2) i2 x3) (1 : Int32))), .val (.int ((up (up fu0 i1 x2) i2 x3) (2 : Int32))), .val (.int (1 : Int32))] [(.ref b560)])) _
      refine st596.trans ?_
      show Steps p.tables e below (T596.setTop (mkF m 234 #[.val (.int x0), .val (.int x1), .val (.int x2), .val (.int x3), .val (.int x4), .val (.int x5), .val (.ref b538), .val (.int i1), .val (.int i2), .val (.int i3), .val (.int i4), .val (.int kp), .val (.ref b560), .val (.int ((up fu0 i1 x2) (0 : Int32))), .val (.int ((up fu0 i1 x2) (1 : Int32))), .val (.int ((up fu0 i1 x2) (2 : Int32))), .val (.int ((up (up fu0 i1 x2) i2 x3) (0 : Int32))), .val (.int ((up (up fu0 i1 x2) i2 x3) (1 : Int32))), .val (.int ((up (up fu0 i1 x2) i2 x3) (2 : Int32))), .val (.int (1 : Int32))] [])) _
      refine XS.iload X596.here hx rfl (hb hby at_234) rfl ?_
      exact kk)
    obtain ⟨cl598, Ar598, S598, M598, H598⟩ := id AIu596
    have pre599 : ∀ t, Steps p.tables e below (T596.setTop (mkF m 245 #[.val (.int x0), .val (.int x1), .val (.int x2), .val (.int x3), .val (.int x4), .val (.int x5), .val (.ref b538), .val (.int i1), .val (.int i2), .val (.int i3), .val (.int i4), .val (.int kp), .val (.ref b560), .val (.int ((up fu0 i1 x2) (0 : Int32))), .val (.int ((up fu0 i1 x2) (1 : Int32))), .val (.int ((up fu0 i1 x2) (2 : Int32))), .val (.int ((up (up fu0 i1 x2) i2 x3) (0 : Int32))), .val (.int ((up (up fu0 i1 x2) i2 x3) (1 : Int32))), .val (.int ((up (up fu0 i1 x2) i2 x3) (2 : Int32))), .val (.int (1 : Int32))] [(.int ((up fu0 i1 x2) (0 : Int32))), (.int ((up fu0 i1 x2) (0 : Int32)))])) t → Steps p.tables e below (s₁.setTop (entryFrame m #[(.int x0), (.int x1), (.int x2), (.int x3), (.int x4), (.int x5)] maxLocals)) t := fun tt kk => pre597 tt (by
      show Steps p.tables e below (T596.setTop (mkF m 236 #[.val (.int x0), .val (.int x1), .val (.int x2), .val (.int x3), .val (.int x4), .val (.int x5), .val (.ref b538), .val (.int i1), .val (.int i2), .val (.int i3), .val (.int i4), .val (.int kp), .val (.ref b560), .val (.int ((up fu0 i1 x2) (0 : Int32))), .val (.int ((up fu0 i1 x2) (1 : Int32))), .val (.int ((up fu0 i1 x2) (2 : Int32))), .val (.int ((up (up fu0 i1 x2) i2 x3) (0 : Int32))), .val (.int ((up (up fu0 i1 x2) i2 x3) (1 : Int32))), .val (.int ((up (up fu0 i1 x2) i2 x3) (2 : Int32))), .val (.int (1 : Int32))] [(.int (1 : Int32))])) _
      refine XS.ifNo X596.here hx rfl (hb hby at_236) rfl ((if0 _ _).trans (feq (by decide : ¬ ((1 : Int32) = (0 : Int32)))).1) ?_
      show Steps p.tables e below (T596.setTop (mkF m 239 #[.val (.int x0), .val (.int x1), .val (.int x2), .val (.int x3), .val (.int x4), .val (.int x5), .val (.ref b538), .val (.int i1), .val (.int i2), .val (.int i3), .val (.int i4), .val (.int kp), .val (.ref b560), .val (.int ((up fu0 i1 x2) (0 : Int32))), .val (.int ((up fu0 i1 x2) (1 : Int32))), .val (.int ((up fu0 i1 x2) (2 : Int32))), .val (.int ((up (up fu0 i1 x2) i2 x3) (0 : Int32))), .val (.int ((up (up fu0 i1 x2) i2 x3) (1 : Int32))), .val (.int ((up (up fu0 i1 x2) i2 x3) (2 : Int32))), .val (.int (1 : Int32))] [])) _
      refine XS.aload X596.here hx rfl (hb hby at_239) rfl rfl ?_
      show Steps p.tables e below (T596.setTop (mkF m 241 #[.val (.int x0), .val (.int x1), .val (.int x2), .val (.int x3), .val (.int x4), .val (.int x5), .val (.ref b538), .val (.int i1), .val (.int i2), .val (.int i3), .val (.int i4), .val (.int kp), .val (.ref b560), .val (.int ((up fu0 i1 x2) (0 : Int32))), .val (.int ((up fu0 i1 x2) (1 : Int32))), .val (.int ((up fu0 i1 x2) (2 : Int32))), .val (.int ((up (up fu0 i1 x2) i2 x3) (0 : Int32))), .val (.int ((up (up fu0 i1 x2) i2 x3) (1 : Int32))), .val (.int ((up (up fu0 i1 x2) i2 x3) (2 : Int32))), .val (.int (1 : Int32))] [(.ref b538)])) _
      refine XS.iconst X596.here hx rfl (hb hby at_241) ?_
      show Steps p.tables e below (T596.setTop (mkF m 242 #[.val (.int x0), .val (.int x1), .val (.int x2), .val (.int x3), .val (.int x4), .val (.int x5), .val (.ref b538), .val (.int i1), .val (.int i2), .val (.int i3), .val (.int i4), .val (.int kp), .val (.ref b560), .val (.int ((up fu0 i1 x2) (0 : Int32))), .val (.int ((up fu0 i1 x2) (1 : Int32))), .val (.int ((up fu0 i1 x2) (2 : Int32))), .val (.int ((up (up fu0 i1 x2) i2 x3) (0 : Int32))), .val (.int ((up (up fu0 i1 x2) i2 x3) (1 : Int32))), .val (.int ((up (up fu0 i1 x2) i2 x3) (2 : Int32))), .val (.int (1 : Int32))] [(.int (0 : Int32)), (.ref b538)])) _
      refine X596.iaload hx (j := (0 : Int32)) (v := (.int ((up fu0 i1 x2) (0 : Int32)))) (by rw [(rfl : T596.heap = T596.heap)]; exact Ar598.1) (State.isArrayOf_alike hZ.alike Ar598.2.1) Ar598.2.2 (inb_of S598 ⟨(by decide), (by decide)⟩) (H598 _ (by decide) (by decide)) (g := (mkF m 242 #[.val (.int x0), .val (.int x1), .val (.int x2), .val (.int x3), .val (.int x4), .val (.int x5), .val (.ref b538), .val (.int i1), .val (.int i2), .val (.int i3), .val (.int i4), .val (.int kp), .val (.ref b560), .val (.int ((up fu0 i1 x2) (0 : Int32))), .val (.int ((up fu0 i1 x2) (1 : Int32))), .val (.int ((up fu0 i1 x2) (2 : Int32))), .val (.int ((up (up fu0 i1 x2) i2 x3) (0 : Int32))), .val (.int ((up (up fu0 i1 x2) i2 x3) (1 : Int32))), .val (.int ((up (up fu0 i1 x2) i2 x3) (2 : Int32))), .val (.int (1 : Int32))] [(.int (0 : Int32)), (.ref b538)])) rfl rfl (hb hby at_242) _ ?_
      show Steps p.tables e below (T596.setTop (mkF m 243 #[.val (.int x0), .val (.int x1), .val (.int x2), .val (.int x3), .val (.int x4), .val (.int x5), .val (.ref b538), .val (.int i1), .val (.int i2), .val (.int i3), .val (.int i4), .val (.int kp), .val (.ref b560), .val (.int ((up fu0 i1 x2) (0 : Int32))), .val (.int ((up fu0 i1 x2) (1 : Int32))), .val (.int ((up fu0 i1 x2) (2 : Int32))), .val (.int ((up (up fu0 i1 x2) i2 x3) (0 : Int32))), .val (.int ((up (up fu0 i1 x2) i2 x3) (1 : Int32))), .val (.int ((up (up fu0 i1 x2) i2 x3) (2 : Int32))), .val (.int (1 : Int32))] [(.int ((up fu0 i1 x2) (0 : Int32)))])) _
      refine XS.iload X596.here hx rfl (hb hby at_243) rfl ?_
      exact kk)
    obtain ⟨cl600, Ar600, S600, M600, H600⟩ := id AIu596
    have pre601 : ∀ t, Steps p.tables e below (T596.setTop (mkF m 254 #[.val (.int x0), .val (.int x1), .val (.int x2), .val (.int x3), .val (.int x4), .val (.int x5), .val (.ref b538), .val (.int i1), .val (.int i2), .val (.int i3), .val (.int i4), .val (.int kp), .val (.ref b560), .val (.int ((up fu0 i1 x2) (0 : Int32))), .val (.int ((up fu0 i1 x2) (1 : Int32))), .val (.int ((up fu0 i1 x2) (2 : Int32))), .val (.int ((up (up fu0 i1 x2) i2 x3) (0 : Int32))), .val (.int ((up (up fu0 i1 x2) i2 x3) (1 : Int32))), .val (.int ((up (up fu0 i1 x2) i2 x3) (2 : Int32))), .val (.int (1 : Int32))] [(.int ((up fu0 i1 x2) (1 : Int32))), (.int ((up fu0 i1 x2) (1 : Int32)))])) t → Steps p.tables e below (s₁.setTop (entryFrame m #[(.int x0), (.int x1), (.int x2), (.int x3), (.int x4), (.int x5)] maxLocals)) t := fun tt kk => pre599 tt (by
      show Steps p.tables e below (T596.setTop (mkF m 245 #[.val (.int x0), .val (.int x1), .val (.int x2), .val (.int x3), .val (.int x4), .val (.int x5), .val (.ref b538), .val (.int i1), .val (.int i2), .val (.int i3), .val (.int i4), .val (.int kp), .val (.ref b560), .val (.int ((up fu0 i1 x2) (0 : Int32))), .val (.int ((up fu0 i1 x2) (1 : Int32))), .val (.int ((up fu0 i1 x2) (2 : Int32))), .val (.int ((up (up fu0 i1 x2) i2 x3) (0 : Int32))), .val (.int ((up (up fu0 i1 x2) i2 x3) (1 : Int32))), .val (.int ((up (up fu0 i1 x2) i2 x3) (2 : Int32))), .val (.int (1 : Int32))] [(.int ((up fu0 i1 x2) (0 : Int32))), (.int ((up fu0 i1 x2) (0 : Int32)))])) _
      refine XS.icmpNo X596.here hx rfl (hb hby at_245) rfl (teq (rfl : ((up fu0 i1 x2) (0 : Int32)) = ((up fu0 i1 x2) (0 : Int32)))).2 ?_
      show Steps p.tables e below (T596.setTop (mkF m 248 #[.val (.int x0), .val (.int x1), .val (.int x2), .val (.int x3), .val (.int x4), .val (.int x5), .val (.ref b538), .val (.int i1), .val (.int i2), .val (.int i3), .val (.int i4), .val (.int kp), .val (.ref b560), .val (.int ((up fu0 i1 x2) (0 : Int32))), .val (.int ((up fu0 i1 x2) (1 : Int32))), .val (.int ((up fu0 i1 x2) (2 : Int32))), .val (.int ((up (up fu0 i1 x2) i2 x3) (0 : Int32))), .val (.int ((up (up fu0 i1 x2) i2 x3) (1 : Int32))), .val (.int ((up (up fu0 i1 x2) i2 x3) (2 : Int32))), .val (.int (1 : Int32))] [])) _
      refine XS.aload X596.here hx rfl (hb hby at_248) rfl rfl ?_
      show Steps p.tables e below (T596.setTop (mkF m 250 #[.val (.int x0), .val (.int x1), .val (.int x2), .val (.int x3), .val (.int x4), .val (.int x5), .val (.ref b538), .val (.int i1), .val (.int i2), .val (.int i3), .val (.int i4), .val (.int kp), .val (.ref b560), .val (.int ((up fu0 i1 x2) (0 : Int32))), .val (.int ((up fu0 i1 x2) (1 : Int32))), .val (.int ((up fu0 i1 x2) (2 : Int32))), .val (.int ((up (up fu0 i1 x2) i2 x3) (0 : Int32))), .val (.int ((up (up fu0 i1 x2) i2 x3) (1 : Int32))), .val (.int ((up (up fu0 i1 x2) i2 x3) (2 : Int32))), .val (.int (1 : Int32))] [(.ref b538)])) _
      refine XS.iconst X596.here hx rfl (hb hby at_250) ?_
      show Steps p.tables e below (T596.setTop (mkF m 251 #[.val (.int x0), .val (.int x1), .val (.int x2), .val (.int x3), .val (.int x4), .val (.int x5), .val (.ref b538), .val (.int i1), .val (.int i2), .val (.int i3), .val (.int i4), .val (.int kp), .val (.ref b560), .val (.int ((up fu0 i1 x2) (0 : Int32))), .val (.int ((up fu0 i1 x2) (1 : Int32))), .val (.int ((up fu0 i1 x2) (2 : Int32))), .val (.int ((up (up fu0 i1 x2) i2 x3) (0 : Int32))), .val (.int ((up (up fu0 i1 x2) i2 x3) (1 : Int32))), .val (.int ((up (up fu0 i1 x2) i2 x3) (2 : Int32))), .val (.int (1 : Int32))] [(.int (1 : Int32)), (.ref b538)])) _
      refine X596.iaload hx (j := (1 : Int32)) (v := (.int ((up fu0 i1 x2) (1 : Int32)))) (by rw [(rfl : T596.heap = T596.heap)]; exact Ar600.1) (State.isArrayOf_alike hZ.alike Ar600.2.1) Ar600.2.2 (inb_of S600 ⟨(by decide), (by decide)⟩) (H600 _ (by decide) (by decide)) (g := (mkF m 251 #[.val (.int x0), .val (.int x1), .val (.int x2), .val (.int x3), .val (.int x4), .val (.int x5), .val (.ref b538), .val (.int i1), .val (.int i2), .val (.int i3), .val (.int i4), .val (.int kp), .val (.ref b560), .val (.int ((up fu0 i1 x2) (0 : Int32))), .val (.int ((up fu0 i1 x2) (1 : Int32))), .val (.int ((up fu0 i1 x2) (2 : Int32))), .val (.int ((up (up fu0 i1 x2) i2 x3) (0 : Int32))), .val (.int ((up (up fu0 i1 x2) i2 x3) (1 : Int32))), .val (.int ((up (up fu0 i1 x2) i2 x3) (2 : Int32))), .val (.int (1 : Int32))] [(.int (1 : Int32)), (.ref b538)])) rfl rfl (hb hby at_251) _ ?_
      show Steps p.tables e below (T596.setTop (mkF m 252 #[.val (.int x0), .val (.int x1), .val (.int x2), .val (.int x3), .val (.int x4), .val (.int x5), .val (.ref b538), .val (.int i1), .val (.int i2), .val (.int i3), .val (.int i4), .val (.int kp), .val (.ref b560), .val (.int ((up fu0 i1 x2) (0 : Int32))), .val (.int ((up fu0 i1 x2) (1 : Int32))), .val (.int ((up fu0 i1 x2) (2 : Int32))), .val (.int ((up (up fu0 i1 x2) i2 x3) (0 : Int32))), .val (.int ((up (up fu0 i1 x2) i2 x3) (1 : Int32))), .val (.int ((up (up fu0 i1 x2) i2 x3) (2 : Int32))), .val (.int (1 : Int32))] [(.int ((up fu0 i1 x2) (1 : Int32)))])) _
      refine XS.iload X596.here hx rfl (hb hby at_252) rfl ?_
      exact kk)
    obtain ⟨cl602, Ar602, S602, M602, H602⟩ := id AIu596
    have pre603 : ∀ t, Steps p.tables e below (T596.setTop (mkF m 263 #[.val (.int x0), .val (.int x1), .val (.int x2), .val (.int x3), .val (.int x4), .val (.int x5), .val (.ref b538), .val (.int i1), .val (.int i2), .val (.int i3), .val (.int i4), .val (.int kp), .val (.ref b560), .val (.int ((up fu0 i1 x2) (0 : Int32))), .val (.int ((up fu0 i1 x2) (1 : Int32))), .val (.int ((up fu0 i1 x2) (2 : Int32))), .val (.int ((up (up fu0 i1 x2) i2 x3) (0 : Int32))), .val (.int ((up (up fu0 i1 x2) i2 x3) (1 : Int32))), .val (.int ((up (up fu0 i1 x2) i2 x3) (2 : Int32))), .val (.int (1 : Int32))] [(.int ((up fu0 i1 x2) (2 : Int32))), (.int ((up fu0 i1 x2) (2 : Int32)))])) t → Steps p.tables e below (s₁.setTop (entryFrame m #[(.int x0), (.int x1), (.int x2), (.int x3), (.int x4), (.int x5)] maxLocals)) t := fun tt kk => pre601 tt (by
      show Steps p.tables e below (T596.setTop (mkF m 254 #[.val (.int x0), .val (.int x1), .val (.int x2), .val (.int x3), .val (.int x4), .val (.int x5), .val (.ref b538), .val (.int i1), .val (.int i2), .val (.int i3), .val (.int i4), .val (.int kp), .val (.ref b560), .val (.int ((up fu0 i1 x2) (0 : Int32))), .val (.int ((up fu0 i1 x2) (1 : Int32))), .val (.int ((up fu0 i1 x2) (2 : Int32))), .val (.int ((up (up fu0 i1 x2) i2 x3) (0 : Int32))), .val (.int ((up (up fu0 i1 x2) i2 x3) (1 : Int32))), .val (.int ((up (up fu0 i1 x2) i2 x3) (2 : Int32))), .val (.int (1 : Int32))] [(.int ((up fu0 i1 x2) (1 : Int32))), (.int ((up fu0 i1 x2) (1 : Int32)))])) _
      refine XS.icmpNo X596.here hx rfl (hb hby at_254) rfl (teq (rfl : ((up fu0 i1 x2) (1 : Int32)) = ((up fu0 i1 x2) (1 : Int32)))).2 ?_
      show Steps p.tables e below (T596.setTop (mkF m 257 #[.val (.int x0), .val (.int x1), .val (.int x2), .val (.int x3), .val (.int x4), .val (.int x5), .val (.ref b538), .val (.int i1), .val (.int i2), .val (.int i3), .val (.int i4), .val (.int kp), .val (.ref b560), .val (.int ((up fu0 i1 x2) (0 : Int32))), .val (.int ((up fu0 i1 x2) (1 : Int32))), .val (.int ((up fu0 i1 x2) (2 : Int32))), .val (.int ((up (up fu0 i1 x2) i2 x3) (0 : Int32))), .val (.int ((up (up fu0 i1 x2) i2 x3) (1 : Int32))), .val (.int ((up (up fu0 i1 x2) i2 x3) (2 : Int32))), .val (.int (1 : Int32))] [])) _
      refine XS.aload X596.here hx rfl (hb hby at_257) rfl rfl ?_
      show Steps p.tables e below (T596.setTop (mkF m 259 #[.val (.int x0), .val (.int x1), .val (.int x2), .val (.int x3), .val (.int x4), .val (.int x5), .val (.ref b538), .val (.int i1), .val (.int i2), .val (.int i3), .val (.int i4), .val (.int kp), .val (.ref b560), .val (.int ((up fu0 i1 x2) (0 : Int32))), .val (.int ((up fu0 i1 x2) (1 : Int32))), .val (.int ((up fu0 i1 x2) (2 : Int32))), .val (.int ((up (up fu0 i1 x2) i2 x3) (0 : Int32))), .val (.int ((up (up fu0 i1 x2) i2 x3) (1 : Int32))), .val (.int ((up (up fu0 i1 x2) i2 x3) (2 : Int32))), .val (.int (1 : Int32))] [(.ref b538)])) _
      refine XS.iconst X596.here hx rfl (hb hby at_259) ?_
      show Steps p.tables e below (T596.setTop (mkF m 260 #[.val (.int x0), .val (.int x1), .val (.int x2), .val (.int x3), .val (.int x4), .val (.int x5), .val (.ref b538), .val (.int i1), .val (.int i2), .val (.int i3), .val (.int i4), .val (.int kp), .val (.ref b560), .val (.int ((up fu0 i1 x2) (0 : Int32))), .val (.int ((up fu0 i1 x2) (1 : Int32))), .val (.int ((up fu0 i1 x2) (2 : Int32))), .val (.int ((up (up fu0 i1 x2) i2 x3) (0 : Int32))), .val (.int ((up (up fu0 i1 x2) i2 x3) (1 : Int32))), .val (.int ((up (up fu0 i1 x2) i2 x3) (2 : Int32))), .val (.int (1 : Int32))] [(.int (2 : Int32)), (.ref b538)])) _
      refine X596.iaload hx (j := (2 : Int32)) (v := (.int ((up fu0 i1 x2) (2 : Int32)))) (by rw [(rfl : T596.heap = T596.heap)]; exact Ar602.1) (State.isArrayOf_alike hZ.alike Ar602.2.1) Ar602.2.2 (inb_of S602 ⟨(by decide), (by decide)⟩) (H602 _ (by decide) (by decide)) (g := (mkF m 260 #[.val (.int x0), .val (.int x1), .val (.int x2), .val (.int x3), .val (.int x4), .val (.int x5), .val (.ref b538), .val (.int i1), .val (.int i2), .val (.int i3), .val (.int i4), .val (.int kp), .val (.ref b560), .val (.int ((up fu0 i1 x2) (0 : Int32))), .val (.int ((up fu0 i1 x2) (1 : Int32))), .val (.int ((up fu0 i1 x2) (2 : Int32))), .val (.int ((up (up fu0 i1 x2) i2 x3) (0 : Int32))), .val (.int ((up (up fu0 i1 x2) i2 x3) (1 : Int32))), .val (.int ((up (up fu0 i1 x2) i2 x3) (2 : Int32))), .val (.int (1 : Int32))] [(.int (2 : Int32)), (.ref b538)])) rfl rfl (hb hby at_260) _ ?_
      show Steps p.tables e below (T596.setTop (mkF m 261 #[.val (.int x0), .val (.int x1), .val (.int x2), .val (.int x3), .val (.int x4), .val (.int x5), .val (.ref b538), .val (.int i1), .val (.int i2), .val (.int i3), .val (.int i4), .val (.int kp), .val (.ref b560), .val (.int ((up fu0 i1 x2) (0 : Int32))), .val (.int ((up fu0 i1 x2) (1 : Int32))), .val (.int ((up fu0 i1 x2) (2 : Int32))), .val (.int ((up (up fu0 i1 x2) i2 x3) (0 : Int32))), .val (.int ((up (up fu0 i1 x2) i2 x3) (1 : Int32))), .val (.int ((up (up fu0 i1 x2) i2 x3) (2 : Int32))), .val (.int (1 : Int32))] [(.int ((up fu0 i1 x2) (2 : Int32)))])) _
      refine XS.iload X596.here hx rfl (hb hby at_261) rfl ?_
      exact kk)
    obtain ⟨fs, hr, hrun, hended, hW, hsame⟩ := X596.leave (v := some (.int (1 : Int32))) (fun h => by rw [Bd.returns] at h; cases h)
    refine ⟨_, _, pre603 _ ?_, hrun, hended, _, _, rfl, ?_, ⟨_, rfl⟩, hW, hsame.mono (by decide) (by decide)⟩
    · show Steps p.tables e below (T596.setTop (mkF m 263 #[.val (.int x0), .val (.int x1), .val (.int x2), .val (.int x3), .val (.int x4), .val (.int x5), .val (.ref b538), .val (.int i1), .val (.int i2), .val (.int i3), .val (.int i4), .val (.int kp), .val (.ref b560), .val (.int ((up fu0 i1 x2) (0 : Int32))), .val (.int ((up fu0 i1 x2) (1 : Int32))), .val (.int ((up fu0 i1 x2) (2 : Int32))), .val (.int ((up (up fu0 i1 x2) i2 x3) (0 : Int32))), .val (.int ((up (up fu0 i1 x2) i2 x3) (1 : Int32))), .val (.int ((up (up fu0 i1 x2) i2 x3) (2 : Int32))), .val (.int (1 : Int32))] [(.int ((up fu0 i1 x2) (2 : Int32))), (.int ((up fu0 i1 x2) (2 : Int32)))])) _
      refine XS.icmpNo X596.here hx rfl (hb hby at_263) rfl (teq (rfl : ((up fu0 i1 x2) (2 : Int32)) = ((up fu0 i1 x2) (2 : Int32)))).2 ?_
      show Steps p.tables e below (T596.setTop (mkF m 266 #[.val (.int x0), .val (.int x1), .val (.int x2), .val (.int x3), .val (.int x4), .val (.int x5), .val (.ref b538), .val (.int i1), .val (.int i2), .val (.int i3), .val (.int i4), .val (.int kp), .val (.ref b560), .val (.int ((up fu0 i1 x2) (0 : Int32))), .val (.int ((up fu0 i1 x2) (1 : Int32))), .val (.int ((up fu0 i1 x2) (2 : Int32))), .val (.int ((up (up fu0 i1 x2) i2 x3) (0 : Int32))), .val (.int ((up (up fu0 i1 x2) i2 x3) (1 : Int32))), .val (.int ((up (up fu0 i1 x2) i2 x3) (2 : Int32))), .val (.int (1 : Int32))] [])) _
      refine XS.iconst X596.here hx rfl (hb hby at_266) ?_
      show Steps p.tables e below (T596.setTop (mkF m 267 #[.val (.int x0), .val (.int x1), .val (.int x2), .val (.int x3), .val (.int x4), .val (.int x5), .val (.ref b538), .val (.int i1), .val (.int i2), .val (.int i3), .val (.int i4), .val (.int kp), .val (.ref b560), .val (.int ((up fu0 i1 x2) (0 : Int32))), .val (.int ((up fu0 i1 x2) (1 : Int32))), .val (.int ((up fu0 i1 x2) (2 : Int32))), .val (.int ((up (up fu0 i1 x2) i2 x3) (0 : Int32))), .val (.int ((up (up fu0 i1 x2) i2 x3) (1 : Int32))), .val (.int ((up (up fu0 i1 x2) i2 x3) (2 : Int32))), .val (.int (1 : Int32))] [(.int (1 : Int32))])) _
      refine XS.goto X596.here hx rfl (pc0 := 267) (pc' := 271) rfl (hb hby at_267) (by decide) (by decide) ?_
      show Steps p.tables e below (T596.setTop (mkF m 271 #[.val (.int x0), .val (.int x1), .val (.int x2), .val (.int x3), .val (.int x4), .val (.int x5), .val (.ref b538), .val (.int i1), .val (.int i2), .val (.int i3), .val (.int i4), .val (.int kp), .val (.ref b560), .val (.int ((up fu0 i1 x2) (0 : Int32))), .val (.int ((up fu0 i1 x2) (1 : Int32))), .val (.int ((up fu0 i1 x2) (2 : Int32))), .val (.int ((up (up fu0 i1 x2) i2 x3) (0 : Int32))), .val (.int ((up (up fu0 i1 x2) i2 x3) (1 : Int32))), .val (.int ((up (up fu0 i1 x2) i2 x3) (2 : Int32))), .val (.int (1 : Int32))] [(.int (1 : Int32))])) _
      exact retN X596 hx (t := .boolean) Bd.returns (by simp) (hb hby at_271) hr
    · exact ⟨rfl, N596⟩
  · obtain ⟨cq604, kq604, q604a, q604b, q604c⟩ := isOf hZ (rfl : T586.heap = T586.heap) J586.1
    obtain ⟨vv604, _, ⟨T604, L604, k604, n604⟩, -, X604, ⟨Lc604, hQ604, l604, y604, z604⟩, st604⟩ := X586.virtualBack hx (y := (⟨"com/example/envyless/envyless/Journal", "keep", "()V"⟩ : MethodName)) (z := (⟨"com/example/envyless/envyless/Journal", "keep", "()V"⟩ : MethodName)) hown (mvT hZ (hw _ (List.mem_of_getElem? (i := 44) rfl))) (mvT hZ (hw _ (List.mem_of_getElem? (i := 45) rfl))) (notFace_of_selects (args := #[]) (mvT hZ (hw _ (List.mem_of_getElem? (i := 47) rfl)))) (mvT hZ (hw _ (List.mem_of_getElem? (i := 47) rfl))) (mvT hZ (hw _ (List.mem_of_getElem? (i := 46) rfl))) (by decide) (backOf (W := 0) (rm_keep l Z a0 hw [] b560 jA jI jV jT b538 kA (3 : Int32) (2 : Int32) (8 : Int32) (3 : Int32) (up (up (up (fun _ => 0) (0 : Int32) i2) (1 : Int32) i3) (2 : Int32) i4) (up (up (up (fun _ => 0) (0 : Int32) ((up fu0 i1 x2) i2)) (1 : Int32) ((up (up fu0 i1 x2) i2 x3) i3)) (2 : Int32) ((up (up (up fu0 i1 x2) i2 x3) i3 x4) i4)) (up (up (fun _ => 0) (0 : Int32) (0 : Int32)) (1 : Int32) (1 : Int32)) (up (up (up (up fu0 i1 x2) i2 x3) i3 x4) i4 (x4 ^^^ (-1 : Int32))) (1 : Int32) (1 : Int32) T586.heap n0 Z586 J586 DJv GEv (by decide) (by decide) (by decide) (by decide) (own_up0 (by decide)) (by decide)) hZ (hw _ (List.mem_of_getElem? (i := 48) rfl)) (hw _ (List.mem_of_getElem? (i := 3) rfl)) (by decide) (by decide)) q604a q604c (g := (mkF m 184 #[.val (.int x0), .val (.int x1), .val (.int x2), .val (.int x3), .val (.int x4), .val (.int x5), .val (.ref b538), .val (.int i1), .val (.int i2), .val (.int i3), .val (.int i4), .val (.int kp), .val (.ref b560), .val (.int ((up fu0 i1 x2) (0 : Int32))), .val (.int ((up fu0 i1 x2) (1 : Int32))), .val (.int ((up fu0 i1 x2) (2 : Int32))), .val (.int ((up (up fu0 i1 x2) i2 x3) (0 : Int32))), .val (.int ((up (up fu0 i1 x2) i2 x3) (1 : Int32))), .val (.int ((up (up fu0 i1 x2) i2 x3) (2 : Int32))), .val (.int (1 : Int32))] [(.ref b560)])) rfl (by rw [hml]; rfl) (Steps.refl _) (argsL := []) (rest := []) (lenOf own_pd_1 rfl) rfl (by show 2 * 0 + _ ≤ _; exact Nat.le_of_eq rfl) (hb hby at_184) (fun _ _ => ⟨rfl, (rfl : T586.heap = T586.heap), (by decide : 6 + 0 ≤ _), (by decide : 209 + 0 ≤ _)⟩)
    dsimp only [Pt.U, Pt.locs, Pt.cells, Pt.slots] at X604 l604 y604 z604 st604 hQ604
    subst l604 y604 z604
    obtain ⟨rfl, N604q, Z604, J604⟩ := hQ604
    have N604 := Fr.app N586 N604q
    have AIu604 : AI Z T604.heap b538 (3 : Int32) (up (up (up (up fu0 i1 x2) i2 x3) i3 x4) i4 (x4 ^^^ (-1 : Int32))) := J604.2.2.2.2.2.2.2.2.2.2.2.1
    obtain ⟨Lg605, X605, N605⟩ : ∃ Lg, Stand p l e room_1 s m #[(.int x0), (.int x1), (.int x2), (.int x3), (.int x4), (.int x5)] below meth c T604 Lg 6 209 ∧ Fr n0 Lg := ⟨_, X604, N604⟩
    obtain ⟨cq606, kq606, q606a, q606b, q606c⟩ := isOf hZ (rfl : T604.heap = T604.heap) J604.1
    obtain ⟨vv606, _, ⟨T606, L606, k606, n606⟩, -, X606, ⟨Lc606, hQ606, l606, y606, z606⟩, st606⟩ := X605.virtualBack hx (y := (⟨"com/example/envyless/envyless/Journal", "undo", "()V"⟩ : MethodName)) (z := (⟨"com/example/envyless/envyless/Journal", "undo", "()V"⟩ : MethodName)) hown (mvT hZ (hw _ (List.mem_of_getElem? (i := 35) rfl))) (mvT hZ (hw _ (List.mem_of_getElem? (i := 36) rfl))) (notFace_of_selects (args := #[]) (mvT hZ (hw _ (List.mem_of_getElem? (i := 38) rfl)))) (mvT hZ (hw _ (List.mem_of_getElem? (i := 38) rfl))) (mvT hZ (hw _ (List.mem_of_getElem? (i := 37) rfl))) (by decide) (backOf (W := 0) (rm_undo3 l Z a0 hw [] b560 jA jI jV jT b538 kA (3 : Int32) (1 : Int32) (8 : Int32) (3 : Int32) (up (up (up (fun _ => 0) (0 : Int32) i2) (1 : Int32) i3) (2 : Int32) i4) (up (up (up (fun _ => 0) (0 : Int32) ((up fu0 i1 x2) i2)) (1 : Int32) ((up (up fu0 i1 x2) i2 x3) i3)) (2 : Int32) ((up (up (up fu0 i1 x2) i2 x3) i3 x4) i4)) (up (up (fun _ => 0) (0 : Int32) (0 : Int32)) (1 : Int32) (1 : Int32)) (up (up (up (up fu0 i1 x2) i2 x3) i3 x4) i4 (x4 ^^^ (-1 : Int32))) (0 : Int32) (0 : Int32) (0 : Int32) i4 ((up (up (up fu0 i1 x2) i2 x3) i3 x4) i4) i3 ((up (up fu0 i1 x2) i2 x3) i3) i2 ((up fu0 i1 x2) i2) T604.heap n0 Z604 J604 DJv GEv (by decide) (by decide) (by decide) (by decide) (own_up1 (by decide) (own_up0 (by decide))) (by decide) (fun i q => Int32.lt_trans q (by decide)) (by decide) (by decide) (by decide) (by decide) (own_up0 (by decide)) (own_up0 (by decide)) bi4.1 bi4.2 (by decide) (by decide) (by decide) (by decide) (own_up1 (by decide) (own_up0 (by decide))) (own_up1 (by decide) (own_up0 (by decide))) bi3.1 bi3.2 (by decide) (by decide) (by decide) (by decide) (own_up1 (by decide) (own_up1 (by decide) (own_up0 (by decide)))) (own_up1 (by decide) (own_up1 (by decide) (own_up0 (by decide)))) bi2.1 bi2.2 (by decide)) hZ (hw _ (List.mem_of_getElem? (i := 39) rfl)) (hw _ (List.mem_of_getElem? (i := 3) rfl)) (by decide) (by decide)) q606a q606c (g := (mkF m 231 #[.val (.int x0), .val (.int x1), .val (.int x2), .val (.int x3), .val (.int x4), .val (.int x5), .val (.ref b538), .val (.int i1), .val (.int i2), .val (.int i3), .val (.int i4), .val (.int kp), .val (.ref b560), .val (.int ((up fu0 i1 x2) (0 : Int32))), .val (.int ((up fu0 i1 x2) (1 : Int32))), .val (.int ((up fu0 i1 x2) (2 : Int32))), .val (.int ((up (up fu0 i1 x2) i2 x3) (0 : Int32))), .val (.int ((up (up fu0 i1 x2) i2 x3) (1 : Int32))), .val (.int ((up (up fu0 i1 x2) i2 x3) (2 : Int32))), .val (.int (1 : Int32))] [(.ref b560)])) rfl (by rw [hml]; rfl) (Steps.refl _) (argsL := []) (rest := []) (lenOf own_pd_1 rfl) rfl (by show 2 * 0 + _ ≤ _; exact Nat.le_of_eq rfl) (hb hby at_231) (fun _ _ => ⟨rfl, (rfl : T604.heap = T604.heap), (by decide : 6 + 0 ≤ _), (by decide : 209 + 0 ≤ _)⟩)
    dsimp only [Pt.U, Pt.locs, Pt.cells, Pt.slots] at X606 l606 y606 z606 st606 hQ606
    subst l606 y606 z606
    obtain ⟨rfl, N606q, Z606, J606⟩ := hQ606
    have N606 := Fr.app N605 N606q
    rw [up_up, up_up, up_up] at J606
    have AIu606 : AI Z T606.heap b538 (3 : Int32) (up fu0 i1 x2) := J606.2.2.2.2.2.2.2.2.2.2.2.1
    have pre607 : ∀ t, Steps p.tables e below (T606.setTop (mkF m 236 #[.val (.int x0), .val (.int x1), .val (.int x2), .val (.int x3), .val (.int x4), .val (.int x5), .val (.ref b538), .val (.int i1), .val (.int i2), .val (.int i3), .val (.int i4), .val (.int kp), .val (.ref b560), .val (.int ((up fu0 i1 x2) (0 : Int32))), .val (.int ((up fu0 i1 x2) (1 : Int32))), .val (.int ((up fu0 i1 x2) (2 : Int32))), .val (.int ((up (up fu0 i1 x2) i2 x3) (0 : Int32))), .val (.int ((up (up fu0 i1 x2) i2 x3) (1 : Int32))), .val (.int ((up (up fu0 i1 x2) i2 x3) (2 : Int32))), .val (.int (1 : Int32))] [(.int (1 : Int32))])) t → Steps p.tables e below (s₁.setTop (entryFrame m #[(.int x0), (.int x1), (.int x2), (.int x3), (.int x4), (.int x5)] maxLocals)) t := fun tt kk => pre587 tt (by
      show Steps p.tables e below (T586.setTop (mkF m 179 #[.val (.int x0), .val (.int x1), .val (.int x2), .val (.int x3), .val (.int x4), .val (.int x5), .val (.ref b538), .val (.int i1), .val (.int i2), .val (.int i3), .val (.int i4), .val (.int kp), .val (.ref b560), .val (.int ((up fu0 i1 x2) (0 : Int32))), .val (.int ((up fu0 i1 x2) (1 : Int32))), .val (.int ((up fu0 i1 x2) (2 : Int32))), .val (.int ((up (up fu0 i1 x2) i2 x3) (0 : Int32))), .val (.int ((up (up fu0 i1 x2) i2 x3) (1 : Int32))), .val (.int ((up (up fu0 i1 x2) i2 x3) (2 : Int32))), .val (.int (1 : Int32))] [(.int kp)])) _
      refine XS.ifNo X586.here hx rfl (hb hby at_179) rfl ((if0 _ _).trans (feq hc179).1) ?_
      show Steps p.tables e below (T586.setTop (mkF m 182 #[.val (.int x0), .val (.int x1), .val (.int x2), .val (.int x3), .val (.int x4), .val (.int x5), .val (.ref b538), .val (.int i1), .val (.int i2), .val (.int i3), .val (.int i4), .val (.int kp), .val (.ref b560), .val (.int ((up fu0 i1 x2) (0 : Int32))), .val (.int ((up fu0 i1 x2) (1 : Int32))), .val (.int ((up fu0 i1 x2) (2 : Int32))), .val (.int ((up (up fu0 i1 x2) i2 x3) (0 : Int32))), .val (.int ((up (up fu0 i1 x2) i2 x3) (1 : Int32))), .val (.int ((up (up fu0 i1 x2) i2 x3) (2 : Int32))), .val (.int (1 : Int32))] [])) _
      refine XS.aload X586.here hx rfl (hb hby at_182) rfl rfl ?_
      show Steps p.tables e below (T586.setTop (mkF m 184 #[.val (.int x0), .val (.int x1), .val (.int x2), .val (.int x3), .val (.int x4), .val (.int x5), .val (.ref b538), .val (.int i1), .val (.int i2), .val (.int i3), .val (.int i4), .val (.int kp), .val (.ref b560), .val (.int ((up fu0 i1 x2) (0 : Int32))), .val (.int ((up fu0 i1 x2) (1 : Int32))), .val (.int ((up fu0 i1 x2) (2 : Int32))), .val (.int ((up (up fu0 i1 x2) i2 x3) (0 : Int32))), .val (.int ((up (up fu0 i1 x2) i2 x3) (1 : Int32))), .val (.int ((up (up fu0 i1 x2) i2 x3) (2 : Int32))), .val (.int (1 : Int32))] [(.ref b560)])) _
      refine st604.trans ?_
      show Steps p.tables e below (T604.setTop (mkF m 187 #[.val (.int x0), .val (.int x1), .val (.int x2), .val (.int x3), .val (.int x4), .val (.int x5), .val (.ref b538), .val (.int i1), .val (.int i2), .val (.int i3), .val (.int i4), .val (.int kp), .val (.ref b560), .val (.int ((up fu0 i1 x2) (0 : Int32))), .val (.int ((up fu0 i1 x2) (1 : Int32))), .val (.int ((up fu0 i1 x2) (2 : Int32))), .val (.int ((up (up fu0 i1 x2) i2 x3) (0 : Int32))), .val (.int ((up (up fu0 i1 x2) i2 x3) (1 : Int32))), .val (.int ((up (up fu0 i1 x2) i2 x3) (2 : Int32))), .val (.int (1 : Int32))] [])) _
      refine XS.goto X604.here hx rfl (pc0 := 187) (pc' := 229) rfl (hb hby at_187) (by decide) (by decide) ?_
      show Steps p.tables e below (T604.setTop (mkF m 229 #[.val (.int x0), .val (.int x1), .val (.int x2), .val (.int x3), .val (.int x4), .val (.int x5), .val (.ref b538), .val (.int i1), .val (.int i2), .val (.int i3), .val (.int i4), .val (.int kp), .val (.ref b560), .val (.int ((up fu0 i1 x2) (0 : Int32))), .val (.int ((up fu0 i1 x2) (1 : Int32))), .val (.int ((up fu0 i1 x2) (2 : Int32))), .val (.int ((up (up fu0 i1 x2) i2 x3) (0 : Int32))), .val (.int ((up (up fu0 i1 x2) i2 x3) (1 : Int32))), .val (.int ((up (up fu0 i1 x2) i2 x3) (2 : Int32))), .val (.int (1 : Int32))] [])) _
      refine XS.aload X604.here hx rfl (hb hby at_229) rfl rfl ?_
      show Steps p.tables e below (T604.setTop (mkF m 231 #[.val (.int x0), .val (.int x1), .val (.int x2), .val (.int x3), .val (.int x4), .val (.int x5), .val (.ref b538), .val (.int i1), .val (.int i2), .val (.int i3), .val (.int i4), .val (.int kp), .val (.ref b560), .val (.int ((up fu0 i1 x2) (0 : Int32))), .val (.int ((up fu0 i1 x2) (1 : Int32))), .val (.int ((up fu0 i1 x2) (2 : Int32))), .val (.int ((up (up fu0 i1 x2) i2 x3) (0 : Int32))), .val (.int ((up (up fu0 i1 x2) i2 x3) (1 : Int32))), .val (.int ((up (up fu0 i1 x2) i2 x3) (2 : Int32))), .val (.int (1 : Int32))] [(.ref b560)])) _
      refine st606.trans ?_
      show Steps p.tables e below (T606.setTop (mkF m 234 #[.val (.int x0), .val (.int x1), .val (.int x2), .val (.int x3), .val (.int x4), .val (.int x5), .val (.ref b538), .val (.int i1), .val (.int i2), .val (.int i3), .val (.int i4), .val (.int kp), .val (.ref b560), .val (.int ((up fu0 i1 x2) (0 : Int32))), .val (.int ((up fu0 i1 x2) (1 : Int32))), .val (.int ((up fu0 i1 x2) (2 : Int32))), .val (.int ((up (up fu0 i1 x2) i2 x3) (0 : Int32))), .val (.int ((up (up fu0 i1 x2) i2 x3) (1 : Int32))), .val (.int ((up (up fu0 i1 x2) i2 x3) (2 : Int32))), .val (.int (1 : Int32))] [])) _
      refine XS.iload X606.here hx rfl (hb hby at_234) rfl ?_
      exact kk)
    obtain ⟨cl608, Ar608, S608, M608, H608⟩ := id AIu606
    have pre609 : ∀ t, Steps p.tables e below (T606.setTop (mkF m 245 #[.val (.int x0), .val (.int x1), .val (.int x2), .val (.int x3), .val (.int x4), .val (.int x5), .val (.ref b538), .val (.int i1), .val (.int i2), .val (.int i3), .val (.int i4), .val (.int kp), .val (.ref b560), .val (.int ((up fu0 i1 x2) (0 : Int32))), .val (.int ((up fu0 i1 x2) (1 : Int32))), .val (.int ((up fu0 i1 x2) (2 : Int32))), .val (.int ((up (up fu0 i1 x2) i2 x3) (0 : Int32))), .val (.int ((up (up fu0 i1 x2) i2 x3) (1 : Int32))), .val (.int ((up (up fu0 i1 x2) i2 x3) (2 : Int32))), .val (.int (1 : Int32))] [(.int ((up fu0 i1 x2) (0 : Int32))), (.int ((up fu0 i1 x2) (0 : Int32)))])) t → Steps p.tables e below (s₁.setTop (entryFrame m #[(.int x0), (.int x1), (.int x2), (.int x3), (.int x4), (.int x5)] maxLocals)) t := fun tt kk => pre607 tt (by
      show Steps p.tables e below (T606.setTop (mkF m 236 #[.val (.int x0), .val (.int x1), .val (.int x2), .val (.int x3), .val (.int x4), .val (.int x5), .val (.ref b538), .val (.int i1), .val (.int i2), .val (.int i3), .val (.int i4), .val (.int kp), .val (.ref b560), .val (.int ((up fu0 i1 x2) (0 : Int32))), .val (.int ((up fu0 i1 x2) (1 : Int32))), .val (.int ((up fu0 i1 x2) (2 : Int32))), .val (.int ((up (up fu0 i1 x2) i2 x3) (0 : Int32))), .val (.int ((up (up fu0 i1 x2) i2 x3) (1 : Int32))), .val (.int ((up (up fu0 i1 x2) i2 x3) (2 : Int32))), .val (.int (1 : Int32))] [(.int (1 : Int32))])) _
      refine XS.ifNo X606.here hx rfl (hb hby at_236) rfl ((if0 _ _).trans (feq (by decide : ¬ ((1 : Int32) = (0 : Int32)))).1) ?_
      show Steps p.tables e below (T606.setTop (mkF m 239 #[.val (.int x0), .val (.int x1), .val (.int x2), .val (.int x3), .val (.int x4), .val (.int x5), .val (.ref b538), .val (.int i1), .val (.int i2), .val (.int i3), .val (.int i4), .val (.int kp), .val (.ref b560), .val (.int ((up fu0 i1 x2) (0 : Int32))), .val (.int ((up fu0 i1 x2) (1 : Int32))), .val (.int ((up fu0 i1 x2) (2 : Int32))), .val (.int ((up (up fu0 i1 x2) i2 x3) (0 : Int32))), .val (.int ((up (up fu0 i1 x2) i2 x3) (1 : Int32))), .val (.int ((up (up fu0 i1 x2) i2 x3) (2 : Int32))), .val (.int (1 : Int32))] [])) _
      refine XS.aload X606.here hx rfl (hb hby at_239) rfl rfl ?_
      show Steps p.tables e below (T606.setTop (mkF m 241 #[.val (.int x0), .val (.int x1), .val (.int x2), .val (.int x3), .val (.int x4), .val (.int x5), .val (.ref b538), .val (.int i1), .val (.int i2), .val (.int i3), .val (.int i4), .val (.int kp), .val (.ref b560), .val (.int ((up fu0 i1 x2) (0 : Int32))), .val (.int ((up fu0 i1 x2) (1 : Int32))), .val (.int ((up fu0 i1 x2) (2 : Int32))), .val (.int ((up (up fu0 i1 x2) i2 x3) (0 : Int32))), .val (.int ((up (up fu0 i1 x2) i2 x3) (1 : Int32))), .val (.int ((up (up fu0 i1 x2) i2 x3) (2 : Int32))), .val (.int (1 : Int32))] [(.ref b538)])) _
      refine XS.iconst X606.here hx rfl (hb hby at_241) ?_
      show Steps p.tables e below (T606.setTop (mkF m 242 #[.val (.int x0), .val (.int x1), .val (.int x2), .val (.int x3), .val (.int x4), .val (.int x5), .val (.ref b538), .val (.int i1), .val (.int i2), .val (.int i3), .val (.int i4), .val (.int kp), .val (.ref b560), .val (.int ((up fu0 i1 x2) (0 : Int32))), .val (.int ((up fu0 i1 x2) (1 : Int32))), .val (.int ((up fu0 i1 x2) (2 : Int32))), .val (.int ((up (up fu0 i1 x2) i2 x3) (0 : Int32))), .val (.int ((up (up fu0 i1 x2) i2 x3) (1 : Int32))), .val (.int ((up (up fu0 i1 x2) i2 x3) (2 : Int32))), .val (.int (1 : Int32))] [(.int (0 : Int32)), (.ref b538)])) _
      refine X606.iaload hx (j := (0 : Int32)) (v := (.int ((up fu0 i1 x2) (0 : Int32)))) (by rw [(rfl : T606.heap = T606.heap)]; exact Ar608.1) (State.isArrayOf_alike hZ.alike Ar608.2.1) Ar608.2.2 (inb_of S608 ⟨(by decide), (by decide)⟩) (H608 _ (by decide) (by decide)) (g := (mkF m 242 #[.val (.int x0), .val (.int x1), .val (.int x2), .val (.int x3), .val (.int x4), .val (.int x5), .val (.ref b538), .val (.int i1), .val (.int i2), .val (.int i3), .val (.int i4), .val (.int kp), .val (.ref b560), .val (.int ((up fu0 i1 x2) (0 : Int32))), .val (.int ((up fu0 i1 x2) (1 : Int32))), .val (.int ((up fu0 i1 x2) (2 : Int32))), .val (.int ((up (up fu0 i1 x2) i2 x3) (0 : Int32))), .val (.int ((up (up fu0 i1 x2) i2 x3) (1 : Int32))), .val (.int ((up (up fu0 i1 x2) i2 x3) (2 : Int32))), .val (.int (1 : Int32))] [(.int (0 : Int32)), (.ref b538)])) rfl rfl (hb hby at_242) _ ?_
      show Steps p.tables e below (T606.setTop (mkF m 243 #[.val (.int x0), .val (.int x1), .val (.int x2), .val (.int x3), .val (.int x4), .val (.int x5), .val (.ref b538), .val (.int i1), .val (.int i2), .val (.int i3), .val (.int i4), .val (.int kp), .val (.ref b560), .val (.int ((up fu0 i1 x2) (0 : Int32))), .val (.int ((up fu0 i1 x2) (1 : Int32))), .val (.int ((up fu0 i1 x2) (2 : Int32))), .val (.int ((up (up fu0 i1 x2) i2 x3) (0 : Int32))), .val (.int ((up (up fu0 i1 x2) i2 x3) (1 : Int32))), .val (.int ((up (up fu0 i1 x2) i2 x3) (2 : Int32))), .val (.int (1 : Int32))] [(.int ((up fu0 i1 x2) (0 : Int32)))])) _
      refine XS.iload X606.here hx rfl (hb hby at_243) rfl ?_
      exact kk)
    obtain ⟨cl610, Ar610, S610, M610, H610⟩ := id AIu606
    have pre611 : ∀ t, Steps p.tables e below (T606.setTop (mkF m 254 #[.val (.int x0), .val (.int x1), .val (.int x2), .val (.int x3), .val (.int x4), .val (.int x5), .val (.ref b538), .val (.int i1), .val (.int i2), .val (.int i3), .val (.int i4), .val (.int kp), .val (.ref b560), .val (.int ((up fu0 i1 x2) (0 : Int32))), .val (.int ((up fu0 i1 x2) (1 : Int32))), .val (.int ((up fu0 i1 x2) (2 : Int32))), .val (.int ((up (up fu0 i1 x2) i2 x3) (0 : Int32))), .val (.int ((up (up fu0 i1 x2) i2 x3) (1 : Int32))), .val (.int ((up (up fu0 i1 x2) i2 x3) (2 : Int32))), .val (.int (1 : Int32))] [(.int ((up fu0 i1 x2) (1 : Int32))), (.int ((up fu0 i1 x2) (1 : Int32)))])) t → Steps p.tables e below (s₁.setTop (entryFrame m #[(.int x0), (.int x1), (.int x2), (.int x3), (.int x4), (.int x5)] maxLocals)) t := fun tt kk => pre609 tt (by
      show Steps p.tables e below (T606.setTop (mkF m 245 #[.val (.int x0), .val (.int x1), .val (.int x2), .val (.int x3), .val (.int x4), .val (.int x5), .val (.ref b538), .val (.int i1), .val (.int i2), .val (.int i3), .val (.int i4), .val (.int kp), .val (.ref b560), .val (.int ((up fu0 i1 x2) (0 : Int32))), .val (.int ((up fu0 i1 x2) (1 : Int32))), .val (.int ((up fu0 i1 x2) (2 : Int32))), .val (.int ((up (up fu0 i1 x2) i2 x3) (0 : Int32))), .val (.int ((up (up fu0 i1 x2) i2 x3) (1 : Int32))), .val (.int ((up (up fu0 i1 x2) i2 x3) (2 : Int32))), .val (.int (1 : Int32))] [(.int ((up fu0 i1 x2) (0 : Int32))), (.int ((up fu0 i1 x2) (0 : Int32)))])) _
      refine XS.icmpNo X606.here hx rfl (hb hby at_245) rfl (teq (rfl : ((up fu0 i1 x2) (0 : Int32)) = ((up fu0 i1 x2) (0 : Int32)))).2 ?_
      show Steps p.tables e below (T606.setTop (mkF m 248 #[.val (.int x0), .val (.int x1), .val (.int x2), .val (.int x3), .val (.int x4), .val (.int x5), .val (.ref b538), .val (.int i1), .val (.int i2), .val (.int i3), .val (.int i4), .val (.int kp), .val (.ref b560), .val (.int ((up fu0 i1 x2) (0 : Int32))), .val (.int ((up fu0 i1 x2) (1 : Int32))), .val (.int ((up fu0 i1 x2) (2 : Int32))), .val (.int ((up (up fu0 i1 x2) i2 x3) (0 : Int32))), .val (.int ((up (up fu0 i1 x2) i2 x3) (1 : Int32))), .val (.int ((up (up fu0 i1 x2) i2 x3) (2 : Int32))), .val (.int (1 : Int32))] [])) _
      refine XS.aload X606.here hx rfl (hb hby at_248) rfl rfl ?_
      show Steps p.tables e below (T606.setTop (mkF m 250 #[.val (.int x0), .val (.int x1), .val (.int x2), .val (.int x3), .val (.int x4), .val (.int x5), .val (.ref b538), .val (.int i1), .val (.int i2), .val (.int i3), .val (.int i4), .val (.int kp), .val (.ref b560), .val (.int ((up fu0 i1 x2) (0 : Int32))), .val (.int ((up fu0 i1 x2) (1 : Int32))), .val (.int ((up fu0 i1 x2) (2 : Int32))), .val (.int ((up (up fu0 i1 x2) i2 x3) (0 : Int32))), .val (.int ((up (up fu0 i1 x2) i2 x3) (1 : Int32))), .val (.int ((up (up fu0 i1 x2) i2 x3) (2 : Int32))), .val (.int (1 : Int32))] [(.ref b538)])) _
      refine XS.iconst X606.here hx rfl (hb hby at_250) ?_
      show Steps p.tables e below (T606.setTop (mkF m 251 #[.val (.int x0), .val (.int x1), .val (.int x2), .val (.int x3), .val (.int x4), .val (.int x5), .val (.ref b538), .val (.int i1), .val (.int i2), .val (.int i3), .val (.int i4), .val (.int kp), .val (.ref b560), .val (.int ((up fu0 i1 x2) (0 : Int32))), .val (.int ((up fu0 i1 x2) (1 : Int32))), .val (.int ((up fu0 i1 x2) (2 : Int32))), .val (.int ((up (up fu0 i1 x2) i2 x3) (0 : Int32))), .val (.int ((up (up fu0 i1 x2) i2 x3) (1 : Int32))), .val (.int ((up (up fu0 i1 x2) i2 x3) (2 : Int32))), .val (.int (1 : Int32))] [(.int (1 : Int32)), (.ref b538)])) _
      refine X606.iaload hx (j := (1 : Int32)) (v := (.int ((up fu0 i1 x2) (1 : Int32)))) (by rw [(rfl : T606.heap = T606.heap)]; exact Ar610.1) (State.isArrayOf_alike hZ.alike Ar610.2.1) Ar610.2.2 (inb_of S610 ⟨(by decide), (by decide)⟩) (H610 _ (by decide) (by decide)) (g := (mkF m 251 #[.val (.int x0), .val (.int x1), .val (.int x2), .val (.int x3), .val (.int x4), .val (.int x5), .val (.ref b538), .val (.int i1), .val (.int i2), .val (.int i3), .val (.int i4), .val (.int kp), .val (.ref b560), .val (.int ((up fu0 i1 x2) (0 : Int32))), .val (.int ((up fu0 i1 x2) (1 : Int32))), .val (.int ((up fu0 i1 x2) (2 : Int32))), .val (.int ((up (up fu0 i1 x2) i2 x3) (0 : Int32))), .val (.int ((up (up fu0 i1 x2) i2 x3) (1 : Int32))), .val (.int ((up (up fu0 i1 x2) i2 x3) (2 : Int32))), .val (.int (1 : Int32))] [(.int (1 : Int32)), (.ref b538)])) rfl rfl (hb hby at_251) _ ?_
      show Steps p.tables e below (T606.setTop (mkF m 252 #[.val (.int x0), .val (.int x1), .val (.int x2), .val (.int x3), .val (.int x4), .val (.int x5), .val (.ref b538), .val (.int i1), .val (.int i2), .val (.int i3), .val (.int i4), .val (.int kp), .val (.ref b560), .val (.int ((up fu0 i1 x2) (0 : Int32))), .val (.int ((up fu0 i1 x2) (1 : Int32))), .val (.int ((up fu0 i1 x2) (2 : Int32))), .val (.int ((up (up fu0 i1 x2) i2 x3) (0 : Int32))), .val (.int ((up (up fu0 i1 x2) i2 x3) (1 : Int32))), .val (.int ((up (up fu0 i1 x2) i2 x3) (2 : Int32))), .val (.int (1 : Int32))] [(.int ((up fu0 i1 x2) (1 : Int32)))])) _
      refine XS.iload X606.here hx rfl (hb hby at_252) rfl ?_
      exact kk)
    obtain ⟨cl612, Ar612, S612, M612, H612⟩ := id AIu606
    have pre613 : ∀ t, Steps p.tables e below (T606.setTop (mkF m 263 #[.val (.int x0), .val (.int x1), .val (.int x2), .val (.int x3), .val (.int x4), .val (.int x5), .val (.ref b538), .val (.int i1), .val (.int i2), .val (.int i3), .val (.int i4), .val (.int kp), .val (.ref b560), .val (.int ((up fu0 i1 x2) (0 : Int32))), .val (.int ((up fu0 i1 x2) (1 : Int32))), .val (.int ((up fu0 i1 x2) (2 : Int32))), .val (.int ((up (up fu0 i1 x2) i2 x3) (0 : Int32))), .val (.int ((up (up fu0 i1 x2) i2 x3) (1 : Int32))), .val (.int ((up (up fu0 i1 x2) i2 x3) (2 : Int32))), .val (.int (1 : Int32))] [(.int ((up fu0 i1 x2) (2 : Int32))), (.int ((up fu0 i1 x2) (2 : Int32)))])) t → Steps p.tables e below (s₁.setTop (entryFrame m #[(.int x0), (.int x1), (.int x2), (.int x3), (.int x4), (.int x5)] maxLocals)) t := fun tt kk => pre611 tt (by
      show Steps p.tables e below (T606.setTop (mkF m 254 #[.val (.int x0), .val (.int x1), .val (.int x2), .val (.int x3), .val (.int x4), .val (.int x5), .val (.ref b538), .val (.int i1), .val (.int i2), .val (.int i3), .val (.int i4), .val (.int kp), .val (.ref b560), .val (.int ((up fu0 i1 x2) (0 : Int32))), .val (.int ((up fu0 i1 x2) (1 : Int32))), .val (.int ((up fu0 i1 x2) (2 : Int32))), .val (.int ((up (up fu0 i1 x2) i2 x3) (0 : Int32))), .val (.int ((up (up fu0 i1 x2) i2 x3) (1 : Int32))), .val (.int ((up (up fu0 i1 x2) i2 x3) (2 : Int32))), .val (.int (1 : Int32))] [(.int ((up fu0 i1 x2) (1 : Int32))), (.int ((up fu0 i1 x2) (1 : Int32)))])) _
      refine XS.icmpNo X606.here hx rfl (hb hby at_254) rfl (teq (rfl : ((up fu0 i1 x2) (1 : Int32)) = ((up fu0 i1 x2) (1 : Int32)))).2 ?_
      show Steps p.tables e below (T606.setTop (mkF m 257 #[.val (.int x0), .val (.int x1), .val (.int x2), .val (.int x3), .val (.int x4), .val (.int x5), .val (.ref b538), .val (.int i1), .val (.int i2), .val (.int i3), .val (.int i4), .val (.int kp), .val (.ref b560), .val (.int ((up fu0 i1 x2) (0 : Int32))), .val (.int ((up fu0 i1 x2) (1 : Int32))), .val (.int ((up fu0 i1 x2) (2 : Int32))), .val (.int ((up (up fu0 i1 x2) i2 x3) (0 : Int32))), .val (.int ((up (up fu0 i1 x2) i2 x3) (1 : Int32))), .val (.int ((up (up fu0 i1 x2) i2 x3) (2 : Int32))), .val (.int (1 : Int32))] [])) _
      refine XS.aload X606.here hx rfl (hb hby at_257) rfl rfl ?_
      show Steps p.tables e below (T606.setTop (mkF m 259 #[.val (.int x0), .val (.int x1), .val (.int x2), .val (.int x3), .val (.int x4), .val (.int x5), .val (.ref b538), .val (.int i1), .val (.int i2), .val (.int i3), .val (.int i4), .val (.int kp), .val (.ref b560), .val (.int ((up fu0 i1 x2) (0 : Int32))), .val (.int ((up fu0 i1 x2) (1 : Int32))), .val (.int ((up fu0 i1 x2) (2 : Int32))), .val (.int ((up (up fu0 i1 x2) i2 x3) (0 : Int32))), .val (.int ((up (up fu0 i1 x2) i2 x3) (1 : Int32))), .val (.int ((up (up fu0 i1 x2) i2 x3) (2 : Int32))), .val (.int (1 : Int32))] [(.ref b538)])) _
      refine XS.iconst X606.here hx rfl (hb hby at_259) ?_
      show Steps p.tables e below (T606.setTop (mkF m 260 #[.val (.int x0), .val (.int x1), .val (.int x2), .val (.int x3), .val (.int x4), .val (.int x5), .val (.ref b538), .val (.int i1), .val (.int i2), .val (.int i3), .val (.int i4), .val (.int kp), .val (.ref b560), .val (.int ((up fu0 i1 x2) (0 : Int32))), .val (.int ((up fu0 i1 x2) (1 : Int32))), .val (.int ((up fu0 i1 x2) (2 : Int32))), .val (.int ((up (up fu0 i1 x2) i2 x3) (0 : Int32))), .val (.int ((up (up fu0 i1 x2) i2 x3) (1 : Int32))), .val (.int ((up (up fu0 i1 x2) i2 x3) (2 : Int32))), .val (.int (1 : Int32))] [(.int (2 : Int32)), (.ref b538)])) _
      refine X606.iaload hx (j := (2 : Int32)) (v := (.int ((up fu0 i1 x2) (2 : Int32)))) (by rw [(rfl : T606.heap = T606.heap)]; exact Ar612.1) (State.isArrayOf_alike hZ.alike Ar612.2.1) Ar612.2.2 (inb_of S612 ⟨(by decide), (by decide)⟩) (H612 _ (by decide) (by decide)) (g := (mkF m 260 #[.val (.int x0), .val (.int x1), .val (.int x2), .val (.int x3), .val (.int x4), .val (.int x5), .val (.ref b538), .val (.int i1), .val (.int i2), .val (.int i3), .val (.int i4), .val (.int kp), .val (.ref b560), .val (.int ((up fu0 i1 x2) (0 : Int32))), .val (.int ((up fu0 i1 x2) (1 : Int32))), .val (.int ((up fu0 i1 x2) (2 : Int32))), .val (.int ((up (up fu0 i1 x2) i2 x3) (0 : Int32))), .val (.int ((up (up fu0 i1 x2) i2 x3) (1 : Int32))), .val (.int ((up (up fu0 i1 x2) i2 x3) (2 : Int32))), .val (.int (1 : Int32))] [(.int (2 : Int32)), (.ref b538)])) rfl rfl (hb hby at_260) _ ?_
      show Steps p.tables e below (T606.setTop (mkF m 261 #[.val (.int x0), .val (.int x1), .val (.int x2), .val (.int x3), .val (.int x4), .val (.int x5), .val (.ref b538), .val (.int i1), .val (.int i2), .val (.int i3), .val (.int i4), .val (.int kp), .val (.ref b560), .val (.int ((up fu0 i1 x2) (0 : Int32))), .val (.int ((up fu0 i1 x2) (1 : Int32))), .val (.int ((up fu0 i1 x2) (2 : Int32))), .val (.int ((up (up fu0 i1 x2) i2 x3) (0 : Int32))), .val (.int ((up (up fu0 i1 x2) i2 x3) (1 : Int32))), .val (.int ((up (up fu0 i1 x2) i2 x3) (2 : Int32))), .val (.int (1 : Int32))] [(.int ((up fu0 i1 x2) (2 : Int32)))])) _
      refine XS.iload X606.here hx rfl (hb hby at_261) rfl ?_
      exact kk)
    obtain ⟨fs, hr, hrun, hended, hW, hsame⟩ := X606.leave (v := some (.int (1 : Int32))) (fun h => by rw [Bd.returns] at h; cases h)
    refine ⟨_, _, pre613 _ ?_, hrun, hended, _, _, rfl, ?_, ⟨_, rfl⟩, hW, hsame.mono (by decide) (by decide)⟩
    · show Steps p.tables e below (T606.setTop (mkF m 263 #[.val (.int x0), .val (.int x1), .val (.int x2), .val (.int x3), .val (.int x4), .val (.int x5), .val (.ref b538), .val (.int i1), .val (.int i2), .val (.int i3), .val (.int i4), .val (.int kp), .val (.ref b560), .val (.int ((up fu0 i1 x2) (0 : Int32))), .val (.int ((up fu0 i1 x2) (1 : Int32))), .val (.int ((up fu0 i1 x2) (2 : Int32))), .val (.int ((up (up fu0 i1 x2) i2 x3) (0 : Int32))), .val (.int ((up (up fu0 i1 x2) i2 x3) (1 : Int32))), .val (.int ((up (up fu0 i1 x2) i2 x3) (2 : Int32))), .val (.int (1 : Int32))] [(.int ((up fu0 i1 x2) (2 : Int32))), (.int ((up fu0 i1 x2) (2 : Int32)))])) _
      refine XS.icmpNo X606.here hx rfl (hb hby at_263) rfl (teq (rfl : ((up fu0 i1 x2) (2 : Int32)) = ((up fu0 i1 x2) (2 : Int32)))).2 ?_
      show Steps p.tables e below (T606.setTop (mkF m 266 #[.val (.int x0), .val (.int x1), .val (.int x2), .val (.int x3), .val (.int x4), .val (.int x5), .val (.ref b538), .val (.int i1), .val (.int i2), .val (.int i3), .val (.int i4), .val (.int kp), .val (.ref b560), .val (.int ((up fu0 i1 x2) (0 : Int32))), .val (.int ((up fu0 i1 x2) (1 : Int32))), .val (.int ((up fu0 i1 x2) (2 : Int32))), .val (.int ((up (up fu0 i1 x2) i2 x3) (0 : Int32))), .val (.int ((up (up fu0 i1 x2) i2 x3) (1 : Int32))), .val (.int ((up (up fu0 i1 x2) i2 x3) (2 : Int32))), .val (.int (1 : Int32))] [])) _
      refine XS.iconst X606.here hx rfl (hb hby at_266) ?_
      show Steps p.tables e below (T606.setTop (mkF m 267 #[.val (.int x0), .val (.int x1), .val (.int x2), .val (.int x3), .val (.int x4), .val (.int x5), .val (.ref b538), .val (.int i1), .val (.int i2), .val (.int i3), .val (.int i4), .val (.int kp), .val (.ref b560), .val (.int ((up fu0 i1 x2) (0 : Int32))), .val (.int ((up fu0 i1 x2) (1 : Int32))), .val (.int ((up fu0 i1 x2) (2 : Int32))), .val (.int ((up (up fu0 i1 x2) i2 x3) (0 : Int32))), .val (.int ((up (up fu0 i1 x2) i2 x3) (1 : Int32))), .val (.int ((up (up fu0 i1 x2) i2 x3) (2 : Int32))), .val (.int (1 : Int32))] [(.int (1 : Int32))])) _
      refine XS.goto X606.here hx rfl (pc0 := 267) (pc' := 271) rfl (hb hby at_267) (by decide) (by decide) ?_
      show Steps p.tables e below (T606.setTop (mkF m 271 #[.val (.int x0), .val (.int x1), .val (.int x2), .val (.int x3), .val (.int x4), .val (.int x5), .val (.ref b538), .val (.int i1), .val (.int i2), .val (.int i3), .val (.int i4), .val (.int kp), .val (.ref b560), .val (.int ((up fu0 i1 x2) (0 : Int32))), .val (.int ((up fu0 i1 x2) (1 : Int32))), .val (.int ((up fu0 i1 x2) (2 : Int32))), .val (.int ((up (up fu0 i1 x2) i2 x3) (0 : Int32))), .val (.int ((up (up fu0 i1 x2) i2 x3) (1 : Int32))), .val (.int ((up (up fu0 i1 x2) i2 x3) (2 : Int32))), .val (.int (1 : Int32))] [(.int (1 : Int32))])) _
      exact retN X606 hx (t := .boolean) Bd.returns (by simp) (hb hby at_271) hr
    · exact ⟨rfl, N606⟩
set_option maxRecDepth 65536 in
set_option maxHeartbeats 40000000 in
theorem comes_1 {Post : Tables → Env → Array Value → State → Outcome → State → Prop} (hpost : ∀ tb e args s v u, (limb_1_1.after args s (.returned v) u = true ∧ limb_1_2.after args s (.returned v) u = true ∧ True) → FrameEnd s (.returned v) u (Jvm.fieldLocs frame_1_writes args s ++ Jvm.arrayLocs frame_1_arrays args s ++ Jvm.staticLocs frame_1_statics s) 24 512 → Post tb e args s (.returned v) u) :
    ArmFor flags0 classFile x code maxLocals ret World_1 tables_1 room_1 Calls_1 rest_1 Pre_1 Post := by
  intro l hfl _ _ p e ha hc hk s m args below hf hA hF happ hP
  obtain ⟨hcalls, hrest, hpre⟩ := hP
  obtain ⟨-, -, -, hnamed, -, -, -, hat⟩ := (Spec.applies_iff hf).mp happ
  obtain ⟨hg, hn⟩ := and_e (Cond.before_iff.mp (show (Jvm.Cond.and given_1 narrow_1).before args s = true from hpre))
  obtain ⟨g0, g0r⟩ := and_e hg
  obtain ⟨g1, g1r⟩ := and_e g0r
  obtain ⟨g2, g2r⟩ := and_e g1r
  obtain ⟨g3, g3r⟩ := and_e g2r
  obtain ⟨g4, g4r⟩ := and_e g3r
  obtain ⟨g5, g5r⟩ := and_e g4r
  obtain ⟨w0_, w1_, w2_, w3_, w4_, w5_, rfl⟩ : ∃ w0_ w1_ w2_ w3_ w4_ w5_ : Value, args = #[w0_, w1_, w2_, w3_, w4_, w5_] := by
    have hs : args.size = 6 := by simpa [Cond.value, given_1] using g0
    obtain ⟨L⟩ := args
    match L, hs with
    | [w0_, w1_, w2_, w3_, w4_, w5_], _ => exact ⟨w0_, w1_, w2_, w3_, w4_, w5_, rfl⟩
  have hw := fun d (hd : d ∈ tables_1) => atoms_spec (ws := Jvm.Cond.code x code maxLocals ret :: tables_1) hat d (List.mem_cons_of_mem _ hd)
  have hfit : Fit s := fun {y c} hc i hi => by
    obtain ⟨ha, rfl⟩ := Array.getElem?_eq_some_iff.mp hc
    have q := List.all_eq_true.mp ((Array.all_eq_true_iff_forall_mem.mp hF) _ (Array.getElem_mem ha)) i (List.mem_range.mpr hi)
    simpa [Array.getElem?_eq_getElem hi] using q
  obtain ⟨i0, ei0⟩ := is_v g1
  obtain rfl : w0_ = (.int i0) := Option.some.inj ei0
  obtain ⟨i1, ei1⟩ := is_v g2
  obtain rfl : w1_ = (.int i1) := Option.some.inj ei1
  obtain ⟨i2, ei2⟩ := is_v g3
  obtain rfl : w2_ = (.int i2) := Option.some.inj ei2
  obtain ⟨i3, ei3⟩ := is_v g4
  obtain rfl : w3_ = (.int i3) := Option.some.inj ei3
  obtain ⟨i4, ei4⟩ := is_v g5
  obtain rfl : w4_ = (.int i4) := Option.some.inj ei4
  obtain ⟨i5, ei5⟩ := is_v g5r
  obtain rfl : w5_ = (.int i5) := Option.some.inj ei5
  obtain ⟨n, o, h1, h2, h3, _, L, rfl, ⟨rfl, N⟩, hq⟩ := rm0 l s _ hw tables_1 i0 i1 i2 i3 i4 i5 s.heap s.heap.size (Nat.le_refl _) p e ha hc hk s m _ below hf ((Spec.applies_iff_loose hf).mp happ).1 ⟨rfl, State.Warmed39.refl s, rfl⟩ trivial
  refine ⟨n, _, h1, h2, h3, hpost _ _ _ _ _ _ ⟨Cond.after_iff.mpr rfl, Cond.after_iff.mpr (eq_i res_at (Term.int_eval (1)) rfl), trivial⟩ ⟨hq.1, hq.2.1, (hq.2.2.sift fun y hy => Or.inr (N y hy)).mono (by decide) (by decide)⟩⟩
theorem main_1_1 : Claimed_1_1 := comes_1 fun _ _ _ _ _ _ h hF => ⟨h.1, hF⟩
theorem main_1_2 : Claimed_1_2 := comes_1 fun _ _ _ _ _ _ h hF => ⟨h.2.1, hF⟩
end Jvm.Pilot.@@N@@
namespace Jvm.Pilot.@@N@@
open Jvm Jvm.ClassFile Sem Op Lib Jvm.Free Jvm.Stand Jvm.Pilot.@@N@@.Jvm.D
/-! MADE BY PROGRAM (witnessworld.py) out of the Statement's table words and the real class files: 10 classes; the members and pool entries that the words name. The judged class is class 1, her method 1. -/
namespace start1
open Jvm.ClassFile
def u (s : String) : CpInfo := .utf8 (stringToUtf16 s)
/-- a pool by its gaps: so many unusable entries, then the entry; so many at the end -/
def gap : Nat → List CpInfo → List CpInfo
  | 0, r => r
  | n + 1, r => .unusable :: gap n r
def poolList (es : List (Nat × CpInfo)) (last : Nat) : List CpInfo := es.foldr (fun e r => gap e.1 (e.2 :: r)) (gap last [])
def pool (es : List (Nat × CpInfo)) (last : Nat) : Array CpInfo := ⟨poolList es last⟩
def fileOf (pool : Array CpInfo) (this : Nat) (attrs : Array Attribute := #[]) (ms : Array MethodInfo := #[]) (fl : Nat := 33) (sup : Nat := 0) (ifs : Array Nat := #[]) (fds : Array FieldInfo := #[]) : ClassFile where
  minorVersion := 0
  majorVersion := 65
  constantPool := pool
  accessFlags := fl
  thisClass := this
  superClass := sup
  interfaces := ifs
  fields := fds
  methods := ms
  attributes := attrs
def plain (name : String) (sup : Option ClassId) : Class where
  name := name
  kind := .ordinary
  loader := none
  accessFlags := 33
  super := sup
  interfaces := #[]
  cf := none
  fields := #[]
  methods := #[]
  instanceTypes := #[]
  staticTypes := #[]
  resolved := #[]
  callSites := []
  init := .initialized
  statics := none
  mirror := none

def pool0 : Array CpInfo := pool [(5, u "<init>"), (0, u "()V"), (1, .class_ 10), (1, u "java/lang/Object")] 113

def k0c0 : Code := { maxStack := 0, maxLocals := 1, code := object_method_1_code, exceptionTable := #[], attributes := #[] }
def k0m0 : Method := { name := "<init>", desc := "()V", sig := { parameters := [], returnType := none }, accessFlags := 1, code := some k0c0 }
/-- java/lang/Object -/
def k0 : Class := { plain "java/lang/Object" none with
  accessFlags := 33
  interfaces := #[]
  cf := some (fileOf pool0 8 #[] #[{ accessFlags := 1, nameIndex := 5, descriptorIndex := 6, attributes := #[] }] 33 0 #[] #[])
  fields := #[]
  methods := #[k0m0]
  instanceTypes := #[]
  staticTypes := #[]
  resolved := Array.replicate 124 none
  statics := none }

def pool1 : Array CpInfo := pool [(2, .class_ 4), (0, .nameAndType 5 6), (0, u "java/lang/Object"), (0, u "<init>"), (0, u "()V"), (0, .class_ 8), (0, u "com/example/envyless/envyless/Journal"), (0, .methodref 7 3), (0, .methodref 7 11), (0, .nameAndType 12 13), (0, u "set"), (0, u "([III)V"), (0, .methodref 7 15), (0, .nameAndType 16 6), (0, u "start"), (0, .methodref 7 18), (0, .nameAndType 19 6), (0, u "keep"), (0, .methodref 7 21), (0, .nameAndType 22 6), (0, u "undo"), (0, .class_ 24), (0, u "com/example/envyless/envyless/JournalUndoPinLaw"), (2, u "law"), (0, u "(IIIIII)Z")] 5

def k1m0 : Method := { name := "<init>", desc := "()V", sig := { parameters := [], returnType := none }, accessFlags := 1, code := none }
def k1c1 : Code := { maxStack := 5, maxLocals := 20, code := code, exceptionTable := #[], attributes := #[] }
def k1m1 : Method := { name := "law", desc := "(IIIIII)Z", sig := { parameters := [.int, .int, .int, .int, .int, .int], returnType := some .boolean }, accessFlags := 9, code := some k1c1 }
/-- com/example/envyless/envyless/JournalUndoPinLaw -/
def k1 : Class := { plain "com/example/envyless/envyless/JournalUndoPinLaw" (some 0) with
  accessFlags := 49
  interfaces := #[]
  cf := some (fileOf pool1 23 #[] #[{ accessFlags := 1, nameIndex := 5, descriptorIndex := 6, attributes := #[] }, { accessFlags := 9, nameIndex := 27, descriptorIndex := 28, attributes := #[] }] 49 2 #[] #[])
  fields := #[]
  methods := #[k1m0, k1m1]
  instanceTypes := #[]
  staticTypes := #[]
  resolved := Array.replicate 34 none
  statics := none }

def pool2 : Array CpInfo := pool [(1, .methodref 2 3), (0, .class_ 4), (0, .nameAndType 5 6), (0, u "java/lang/Object"), (0, u "<init>"), (0, u "()V"), (0, .class_ 8), (0, u "[I"), (0, .fieldref 10 11), (0, .class_ 12), (0, .nameAndType 13 14), (0, u "com/example/envyless/envyless/Journal"), (0, u "arrays"), (0, u "[[I"), (0, .fieldref 10 16), (0, .nameAndType 17 8), (0, u "indexes"), (0, .fieldref 10 19), (0, .nameAndType 20 8), (0, u "values"), (0, .fieldref 10 22), (0, .nameAndType 23 8), (0, u "starts"), (0, .fieldref 10 25), (0, .nameAndType 26 27), (0, u "open"), (0, u "I"), (0, .fieldref 10 29), (0, .nameAndType 30 27), (0, u "length"), (10, .methodref 10 42), (0, .nameAndType 43 44), (0, u "close"), (0, u "()I"), (9, u "set"), (0, u "([III)V"), (1, u "start"), (0, u "undo"), (0, u "keep")] 2

def k2c0 : Code := { maxStack := 2, maxLocals := 1, code := prog_22_method_1_code, exceptionTable := #[], attributes := #[] }
def k2m0 : Method := { name := "<init>", desc := "()V", sig := { parameters := [], returnType := none }, accessFlags := 0, code := some k2c0 }
def k2c1 : Code := { maxStack := 4, maxLocals := 4, code := prog_22_method_2_code, exceptionTable := #[], attributes := #[] }
def k2m1 : Method := { name := "set", desc := "([III)V", sig := { parameters := [(.array .int), .int, .int], returnType := none }, accessFlags := 0, code := some k2c1 }
def k2c2 : Code := { maxStack := 5, maxLocals := 1, code := prog_22_method_3_code, exceptionTable := #[], attributes := #[] }
def k2m2 : Method := { name := "start", desc := "()V", sig := { parameters := [], returnType := none }, accessFlags := 0, code := some k2c2 }
def k2c3 : Code := { maxStack := 4, maxLocals := 2, code := prog_22_method_4_code, exceptionTable := #[], attributes := #[] }
def k2m3 : Method := { name := "undo", desc := "()V", sig := { parameters := [], returnType := none }, accessFlags := 0, code := some k2c3 }
def k2c4 : Code := { maxStack := 2, maxLocals := 1, code := prog_22_method_5_code, exceptionTable := #[], attributes := #[] }
def k2m4 : Method := { name := "keep", desc := "()V", sig := { parameters := [], returnType := none }, accessFlags := 0, code := some k2c4 }
def k2c5 : Code := { maxStack := 4, maxLocals := 1, code := prog_22_method_6_code, exceptionTable := #[], attributes := #[] }
def k2m5 : Method := { name := "close", desc := "()I", sig := { parameters := [], returnType := some .int }, accessFlags := 2, code := some k2c5 }
/-- com/example/envyless/envyless/Journal -/
def k2 : Class := { plain "com/example/envyless/envyless/Journal" (some 0) with
  accessFlags := 48
  interfaces := #[]
  cf := some (fileOf pool2 10 #[] #[{ accessFlags := 0, nameIndex := 5, descriptorIndex := 6, attributes := #[] }, { accessFlags := 0, nameIndex := 54, descriptorIndex := 55, attributes := #[] }, { accessFlags := 0, nameIndex := 57, descriptorIndex := 6, attributes := #[] }, { accessFlags := 0, nameIndex := 58, descriptorIndex := 6, attributes := #[] }, { accessFlags := 0, nameIndex := 59, descriptorIndex := 6, attributes := #[] }, { accessFlags := 2, nameIndex := 43, descriptorIndex := 44, attributes := #[] }] 48 2 #[] #[{ accessFlags := 2, nameIndex := 13, descriptorIndex := 14, attributes := #[] }, { accessFlags := 2, nameIndex := 17, descriptorIndex := 8, attributes := #[] }, { accessFlags := 2, nameIndex := 20, descriptorIndex := 8, attributes := #[] }, { accessFlags := 2, nameIndex := 30, descriptorIndex := 27, attributes := #[] }, { accessFlags := 2, nameIndex := 23, descriptorIndex := 8, attributes := #[] }, { accessFlags := 2, nameIndex := 26, descriptorIndex := 27, attributes := #[] }])
  fields := #[{ name := "arrays", type := (.array (.array .int)), accessFlags := 2, slot := 0, constantValue := 0 }, { name := "indexes", type := (.array .int), accessFlags := 2, slot := 1, constantValue := 0 }, { name := "values", type := (.array .int), accessFlags := 2, slot := 2, constantValue := 0 }, { name := "length", type := .int, accessFlags := 2, slot := 3, constantValue := 0 }, { name := "starts", type := (.array .int), accessFlags := 2, slot := 4, constantValue := 0 }, { name := "open", type := .int, accessFlags := 2, slot := 5, constantValue := 0 }]
  methods := #[k2m0, k2m1, k2m2, k2m3, k2m4, k2m5]
  instanceTypes := #[(.array (.array .int)), (.array .int), (.array .int), .int, (.array .int), .int]
  staticTypes := #[]
  resolved := Array.replicate 62 none
  statics := none }

def pool3 : Array CpInfo := pool [(1, u "java/lang/Cloneable"), (0, .class_ 1), (0, u "java/lang/Object"), (0, .class_ 3)] 3

/-- java/lang/Cloneable -/
def k3 : Class := { plain "java/lang/Cloneable" (some 0) with
  accessFlags := 1537
  interfaces := #[]
  cf := some (fileOf pool3 2 #[] #[] 1537 4 #[] #[])
  fields := #[]
  methods := #[]
  instanceTypes := #[]
  staticTypes := #[]
  resolved := Array.replicate 8 none
  statics := none }

def pool4 : Array CpInfo := pool [(1, u "java/io/Serializable"), (0, .class_ 1), (0, u "java/lang/Object"), (0, .class_ 3)] 3

/-- java/io/Serializable -/
def k4 : Class := { plain "java/io/Serializable" (some 0) with
  accessFlags := 1537
  interfaces := #[]
  cf := some (fileOf pool4 2 #[] #[] 1537 4 #[] #[])
  fields := #[]
  methods := #[]
  instanceTypes := #[]
  staticTypes := #[]
  resolved := Array.replicate 8 none
  statics := none }

/-- the primitive byte -/
def k5 : Class := { plain "byte" none with kind := .primitive 'B', accessFlags := 0x411 }
/-- [B -/
def k6 : Class := { plain "[B" (some 0) with kind := .array 5 .byte, interfaces := #[3, 4], accessFlags := 1041 }

/-- the primitive int -/
def k7 : Class := { plain "int" none with kind := .primitive 'I', accessFlags := 0x411 }
/-- [I -/
def k8 : Class := { plain "[I" (some 0) with kind := .array 7 .int, interfaces := #[3, 4], accessFlags := 1041 }

/-- [[I -/
def k9 : Class := { plain "[[I" (some 0) with kind := .array 8 (.array .int), interfaces := #[3, 4], accessFlags := 1041 }

def heap : Heap := #[{ cls := 9, slots := #[.null], vm := .none }]
def classes : Array Class := #[k0, k1, k2, k3, k4, k5, k6, k7, k8, k9]
def interned : List (Array UInt16 × Addr) := []
def slotsUsed : Nat := 1
def theMethod : MethodId := ⟨1, 1⟩
def args0 : Array Value := #[.int 5, .int 7, .int 3, .int 4, .int 5, .int 6]
def aboutOver (below : List Frame) : State where
  vm := { classes := classes, interned := interned.toArray }
  heap := heap
  slotsUsed := slotsUsed
  threads := #[{ frames := .invoking theMethod args0 :: below }]
def below0 : List Frame := [.native { method := ⟨0, 0⟩, args := #[] }]
def about1 : State := aboutOver below0
def p0 : Program := .bare "" "" ""
def e0 : Env := launch0.env 0 0 0
theorem w_frames : about1.frames = Frame.invoking theMethod args0 :: below0 := rfl
set_option maxRecDepth 65536 in
theorem w_args : argsFit about1.vm theMethod args0 = true := by decide +kernel
set_option maxRecDepth 65536 in
theorem w_heap : heapFits about1 = true := by decide +kernel
set_option maxRecDepth 65536 in
theorem w_runnable : about1.curStatus? = some .runnable := by decide +kernel
set_option maxRecDepth 65536 in
theorem w_alone : about1.alone = true := by decide +kernel
set_option maxRecDepth 65536 in
theorem w_named : about1.methodNamed? x = some theMethod := by decide +kernel
set_option maxRecDepth 65536 in
theorem w_hears : about1.hears theMethod below0 = true := by decide +kernel
set_option maxRecDepth 65536 in
theorem w_ripe : about1.ripe theMethod args0 below0 = true := by decide +kernel
theorem w_running : about1.status = .running := rfl
set_option maxRecDepth 65536 in
theorem w_room : about1.hasRoom e0.platform room_1 = true :=
  launch0.hasRoom_least _ room_1 (by decide +kernel) (by decide +kernel) (by decide +kernel) (by decide +kernel) (by decide +kernel) (by decide +kernel)
theorem allAtoms_all (ts : List Jvm.Cond) (a : Array Jvm.Value) (st : Jvm.State) : (allAtoms ts).before a st = ts.all (fun c => c.before a st) := by
  induction ts with
  | nil => rfl
  | cons c t ih =>
    show (Jvm.Cond.and c (allAtoms t)).before a st = _
    rw [Jvm.Cond.before_and, ih, List.all_cons]
def words1 : List Jvm.Cond := Jvm.Cond.code x code maxLocals ret :: tables_1
/-- a 'code' word, met by the world's own term for the bytes: nothing is compared byte by byte -/
theorem code_word {y : MethodName} {bytes : ByteArray} {mx : Nat} {rt : Option FieldType} {a : Array Value} {s : State} {m : MethodId} {meth : Method} {c : Code} (h1 : s.methodNamed? y = some m) (h2 : s.vm.method? m = some meth) (h3 : meth.code = some c) (h4 : c.code = bytes)
    (h5 : (c.maxLocals == mx && c.exceptionTable.isEmpty && decide (c.maxStack ≤ mostOperands) && decide (meth.sig.returnType = rt) && !meth.locks && decide (parseMethodDescriptor y.desc = some meth.sig)) = true) : (Jvm.Cond.code y bytes mx rt).before a s = true := by
  simp only [Bool.and_eq_true, beq_iff_eq, Bool.not_eq_true', decide_eq_true_eq] at h5
  obtain ⟨⟨⟨⟨⟨g1, g2⟩, g3⟩, g4⟩, g5⟩, g6⟩ := h5
  simp [Cond.before, Cond.holds, Cond.value, h1, h2, h3, h4, g1, g2, g3, g4, g5, g6]
def isCode : Jvm.Cond → Bool
  | .code _ _ _ _ => true
  | _ => false
theorem all_split {L : List Jvm.Cond} {P : Jvm.Cond → Bool} (h1 : L.all (fun c => isCode c || P c) = true) (h2 : ∀ c ∈ L.filter isCode, P c = true) : L.all P = true := by
  refine List.all_eq_true.mpr fun c hc => ?_
  have h := List.all_eq_true.mp h1 c hc
  rcases Bool.eq_false_or_eq_true (isCode c) with hi | hi
  · exact h2 c (List.mem_filter.mpr ⟨hc, hi⟩)
  · simpa [hi] using h
set_option maxRecDepth 65536 in
theorem w_c0 : (Jvm.Cond.code x code maxLocals ret).before args0 about1 = true := code_word (m := ⟨1, 1⟩) (meth := k1m1) (c := k1c1) (by decide +kernel) rfl rfl rfl (by decide +kernel)
set_option maxRecDepth 65536 in
theorem w_c1 : (Jvm.Cond.code ({ cls := "com/example/envyless/envyless/Journal", name := "<init>", desc := "()V" } : Jvm.MethodName) prog_22_method_1_code (1 : Nat) (Option.none : Option Jvm.ClassFile.FieldType)).before args0 about1 = true := code_word (m := ⟨2, 0⟩) (meth := k2m0) (c := k2c0) (by decide +kernel) rfl rfl rfl (by decide +kernel)
set_option maxRecDepth 65536 in
theorem w_c2 : (Jvm.Cond.code ({ cls := "java/lang/Object", name := "<init>", desc := "()V" } : Jvm.MethodName) object_method_1_code (1 : Nat) (Option.none : Option Jvm.ClassFile.FieldType)).before args0 about1 = true := code_word (m := ⟨0, 0⟩) (meth := k0m0) (c := k0c0) (by decide +kernel) rfl rfl rfl (by decide +kernel)
set_option maxRecDepth 65536 in
theorem w_c3 : (Jvm.Cond.code ({ cls := "com/example/envyless/envyless/Journal", name := "set", desc := "([III)V" } : Jvm.MethodName) prog_22_method_2_code (4 : Nat) (Option.none : Option Jvm.ClassFile.FieldType)).before args0 about1 = true := code_word (m := ⟨2, 1⟩) (meth := k2m1) (c := k2c1) (by decide +kernel) rfl rfl rfl (by decide +kernel)
set_option maxRecDepth 65536 in
theorem w_c4 : (Jvm.Cond.code ({ cls := "com/example/envyless/envyless/Journal", name := "start", desc := "()V" } : Jvm.MethodName) prog_22_method_3_code (1 : Nat) (Option.none : Option Jvm.ClassFile.FieldType)).before args0 about1 = true := code_word (m := ⟨2, 2⟩) (meth := k2m2) (c := k2c2) (by decide +kernel) rfl rfl rfl (by decide +kernel)
set_option maxRecDepth 65536 in
theorem w_c5 : (Jvm.Cond.code ({ cls := "com/example/envyless/envyless/Journal", name := "undo", desc := "()V" } : Jvm.MethodName) prog_22_method_4_code (2 : Nat) (Option.none : Option Jvm.ClassFile.FieldType)).before args0 about1 = true := code_word (m := ⟨2, 3⟩) (meth := k2m3) (c := k2c3) (by decide +kernel) rfl rfl rfl (by decide +kernel)
set_option maxRecDepth 65536 in
theorem w_c6 : (Jvm.Cond.code ({ cls := "com/example/envyless/envyless/Journal", name := "close", desc := "()I" } : Jvm.MethodName) prog_22_method_6_code (1 : Nat) (Option.some Jvm.ClassFile.FieldType.int)).before args0 about1 = true := code_word (m := ⟨2, 5⟩) (meth := k2m5) (c := k2c5) (by decide +kernel) rfl rfl rfl (by decide +kernel)
set_option maxRecDepth 65536 in
theorem w_c7 : (Jvm.Cond.code ({ cls := "com/example/envyless/envyless/Journal", name := "keep", desc := "()V" } : Jvm.MethodName) prog_22_method_5_code (1 : Nat) (Option.none : Option Jvm.ClassFile.FieldType)).before args0 about1 = true := code_word (m := ⟨2, 4⟩) (meth := k2m4) (c := k2c4) (by decide +kernel) rfl rfl rfl (by decide +kernel)
def codes1 : List Jvm.Cond := [Jvm.Cond.code x code maxLocals ret, Jvm.Cond.code ({ cls := "com/example/envyless/envyless/Journal", name := "<init>", desc := "()V" } : Jvm.MethodName) prog_22_method_1_code (1 : Nat) (Option.none : Option Jvm.ClassFile.FieldType), Jvm.Cond.code ({ cls := "java/lang/Object", name := "<init>", desc := "()V" } : Jvm.MethodName) object_method_1_code (1 : Nat) (Option.none : Option Jvm.ClassFile.FieldType), Jvm.Cond.code ({ cls := "com/example/envyless/envyless/Journal", name := "set", desc := "([III)V" } : Jvm.MethodName) prog_22_method_2_code (4 : Nat) (Option.none : Option Jvm.ClassFile.FieldType), Jvm.Cond.code ({ cls := "com/example/envyless/envyless/Journal", name := "start", desc := "()V" } : Jvm.MethodName) prog_22_method_3_code (1 : Nat) (Option.none : Option Jvm.ClassFile.FieldType), Jvm.Cond.code ({ cls := "com/example/envyless/envyless/Journal", name := "undo", desc := "()V" } : Jvm.MethodName) prog_22_method_4_code (2 : Nat) (Option.none : Option Jvm.ClassFile.FieldType), Jvm.Cond.code ({ cls := "com/example/envyless/envyless/Journal", name := "close", desc := "()I" } : Jvm.MethodName) prog_22_method_6_code (1 : Nat) (Option.some Jvm.ClassFile.FieldType.int), Jvm.Cond.code ({ cls := "com/example/envyless/envyless/Journal", name := "keep", desc := "()V" } : Jvm.MethodName) prog_22_method_5_code (1 : Nat) (Option.none : Option Jvm.ClassFile.FieldType)]
set_option maxRecDepth 65536 in
theorem codes_eq : words1.filter isCode = codes1 := rfl
theorem w_codes : ∀ c ∈ words1.filter isCode, c.before args0 about1 = true := by
  rw [codes_eq]
  intro c hc
  simp only [codes1, List.mem_cons, List.not_mem_nil, or_false] at hc
  rcases hc with rfl | rfl | rfl | rfl | rfl | rfl | rfl | rfl
  · exact w_c0
  · exact w_c1
  · exact w_c2
  · exact w_c3
  · exact w_c4
  · exact w_c5
  · exact w_c6
  · exact w_c7
set_option maxRecDepth 65536 in
theorem w_t1 : (words1.take 24).all (fun c => isCode c || c.before args0 about1) = true := by decide +kernel
set_option maxRecDepth 65536 in
theorem w_t2 : ((words1.drop 24).take 24).all (fun c => isCode c || c.before args0 about1) = true := by decide +kernel
set_option maxRecDepth 65536 in
theorem w_t3 : ((words1.drop 24).drop 24).all (fun c => isCode c || c.before args0 about1) = true := by decide +kernel
theorem w_tables : (allAtoms (Jvm.Cond.code x code maxLocals ret :: tables_1)).before args0 about1 = true := by
  rw [allAtoms_all]
  show words1.all (fun c => c.before args0 about1) = true
  refine all_split ?_ w_codes
  rw [← List.take_append_drop 24 words1, List.all_append, w_t1, ← List.take_append_drop 24 (words1.drop 24), List.all_append, w_t2, w_t3]
  rfl
set_option maxRecDepth 65536 in
theorem w_case : (Jvm.Cond.and given_1 narrow_1).before args0 about1 = true := by decide +kernel
theorem w_applies : (headSpec (Jvm.Cond.code x code maxLocals ret :: tables_1) room_1).applies x e0.platform about1 = true :=
  (Spec.applies_iff w_frames).mpr ⟨w_running, w_runnable, w_alone, w_named, w_hears, w_ripe, w_room, w_tables⟩
theorem atStart : AtStart classFile x code maxLocals ret World_1 tables_1 room_1 Calls_1 rest_1 Pre_1 launch0 p0 e0 about1 theMethod args0 below0 :=
  ⟨lists_1, trivial, launch0.admits_env _ _ _, launch0.least_env, fairChoices_fair.cas, fairChoices_fair.clock, w_frames, w_args, w_heap, w_applies, trivial, trivial, w_case⟩
end start1
theorem witness_1 : WitnessClaimed_1 := ⟨start1.p0, start1.e0, start1.about1, start1.theMethod, start1.args0, start1.below0, start1.atStart⟩
end Jvm.Pilot.@@N@@
