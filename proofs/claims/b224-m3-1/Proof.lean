import JvmDerived
import JvmDerived.Pilot.@@N@@Statement
import JvmDerived.Pilot.@@N@@Code
set_option linter.unusedVariables false
set_option linter.unusedSimpArgs false
@@BLOCK:NumsL.lean.txt@@
namespace Jvm.Pilot.@@N@@
open Jvm Jvm.ClassFile Sem Op Lib Jvm.Free Jvm.Stand Jvm.LawKit Jvm.RoadKit Bundle Jvm.Pilot.@@N@@.Jvm.D
/-- what a body leaves that writes nothing: its value, no place written, the heap as it was -/
def QP (val : Value) (h0 : Heap) (n0 : Nat) (v : Option Value) (h : Heap) (L : List Loc) : Prop := v = some val ∧ Fr n0 L ∧ h = h0
/-- what the law leaves: true -/
def Q1 (n0 : Nat) (v : Option Value) (h : Heap) (L : List Loc) : Prop := v = some (.int 1) ∧ Fr n0 L
theorem own_eq_int {args : Array Value} {s : State} {t : Term} {k : Int32} (h : (Jvm.Cond.eq t (.int k)).value args s none s [] = some true) : t.eval args s none [] s = some (.int k) := by
  simp only [Cond.value, Term.eval] at h
  cases ht : t.eval args s none [] s with
  | none => simp [ht] at h
  | some x => cases x <;> simp [ht] at h ⊢; exact h
theorem own_fld {args : Array Value} {s : State} {t : Term} {a : Addr} {C n d : String} {k : Int32} (ev : t.eval args s none [] s = some (.ref a)) (h : (Jvm.Cond.eq (.field t C n d) (.int k)).value args s none s [] = some true) : Fld s s.heap a C n d (.int k) :=
  Fld.start ((fld_at ev).symm.trans (own_eq_int h))
theorem own_toInt32_inj {i j : Nat} (hi : i < 2 ^ 31) (hj : j < 2 ^ 31) (h : i.toInt32 = j.toInt32) : i = j := by
  have := congrArg Int32.toInt h
  rw [len_toInt hi, len_toInt hj] at this
  omega
theorem own_inj {Z : State} {h : Heap} {w : Nat → Addr} {n : Nat} (hn : n < 2 ^ 31) (F : ∀ i, i < n → Fld Z h (w i) "java/lang/Enum" "ordinal" "I" (.int i.toInt32)) : ∀ i j, i < n → j < n → w i = w j → i = j := fun i j hi hj e => by
  by_cases q : i = j
  · exact q
  · exact absurd e (Fld.ne (F i hi) (F j hj) fun h => q (own_toInt32_inj (by omega) (by omega) (Value.int.inj h)))
theorem own_i32 {i : Int32} {N : Nat} (hN : N < 2 ^ 31) (h0 : 0 ≤ i.toInt) (h1 : i.toInt < N) : ∃ k : Nat, k < N ∧ i = k.toInt32 := by
  refine ⟨i.toInt.toNat, by omega, Int32.toInt_inj.mp ?_⟩
  rw [len_toInt (by omega)]
  omega
theorem own_mod (x n : Int32) (N : Nat) (hN : n.toInt = N) (h : 0 < N) : ∃ k : Nat, k < N ∧ (x &&& (2147483647 : Int32)) % n = k.toInt32 := by
  have e1 : (x &&& (2147483647 : Int32)).toInt = x.toInt % 2 ^ 31 := Jvm.Kit.i32_mask x 2147483647 (k := 31) (by decide) (by decide)
  have e2 : ((x &&& (2147483647 : Int32)) % n).toInt = (x &&& (2147483647 : Int32)).toInt % n.toInt := Jvm.Kit.i32_rem_nonneg (by omega)
  have hlt := n.toInt_lt
  have h3 : 0 ≤ (x &&& (2147483647 : Int32)).toInt % n.toInt := Int.emod_nonneg _ (by omega)
  have h4 : (x &&& (2147483647 : Int32)).toInt % n.toInt < n.toInt := Int.emod_lt_of_pos _ (by omega)
  exact own_i32 (by omega) (by omega) (by omega)
theorem own_mask (x n : Int32) {k : Nat} (hk : k < 31) (hm : n.toBitVec.toNat = 2 ^ k - 1) : ∃ j : Nat, j < 2 ^ k ∧ x &&& n = j.toInt32 := by
  have e1 : (x &&& n).toInt = x.toInt % 2 ^ k := Jvm.Kit.i32_mask x n (k := k) (by omega) hm
  have hp : (2 : Nat) ^ k < 2 ^ 31 := Nat.pow_lt_pow_right (by decide) hk
  have hp1 : (0 : Int) < 2 ^ k := Int.pow_pos (by decide)
  have h3 : 0 ≤ x.toInt % 2 ^ k := Int.emod_nonneg _ (by omega)
  have h4 : x.toInt % 2 ^ k < 2 ^ k := Int.emod_lt_of_pos _ hp1
  refine own_i32 hp (by rw [e1]; exact h3) (by rw [e1]; push_cast; exact h4)
theorem own_lt_irrefl {a b : Int64} (h : a = b) : ¬ a < b ∧ ¬ b < a := by subst h; simp [Int64.lt_irrefl]
theorem own_lt_asymm {a b : Int64} (h : a < b) : ¬ b < a := Int64.lt_asymm h
theorem own_lt_total {a b : Int64} (h1 : ¬ a = b) (h2 : ¬ a < b) : b < a := by
  rw [Int64.lt_iff_toInt_lt] at h2 ⊢; rw [← Int64.toInt_inj] at h1; omega
/-- f with x at j -/
def up (f : Int32 → Int32) (j x : Int32) : Int32 → Int32 := fun i => if i = j then x else f i
theorem up_at (f : Int32 → Int32) (j x : Int32) : up f j x j = x := if_pos rfl
theorem up_ne (f : Int32 → Int32) {j x i : Int32} (h : ¬ i = j) : up f j x i = f i := if_neg h
theorem own_up0 {f : Int32 → Int32} {j x e : Int32} (h : e = j) : up f j x e = x := by subst h; exact up_at f e x
theorem own_up1 {f : Int32 → Int32} {j x e y : Int32} (h : ¬ e = j) (r : f e = y) : up f j x e = y := (up_ne f h).trans r
theorem up_up (f : Int32 → Int32) (j x : Int32) : up (up f j x) j (f j) = f := by
  funext i
  by_cases q : i = j
  · subst q; rw [up_at]
  · rw [up_ne _ q, up_ne _ q]
/-- an int array of n places: place j holds f j -/
def AI (Z : State) (h : Heap) (a : Addr) (n : Int32) (f : Int32 → Int32) : Prop := ∃ c : Cell, Arr Z h a c .int ∧ c.slots.size = n.toNatClampNeg ∧ ¬ n < 0 ∧ ∀ j : Int32, ¬ j < 0 → j < n → c.slots[j.toNatClampNeg]? = some (.int (f j))
/-- an array of n int arrays: the first m places hold u -/
def AA (Z : State) (h : Heap) (a : Addr) (cA : ClassId) (n m : Int32) (u : Addr) : Prop := ∃ c : Cell, Arr Z h a c (.array .int) ∧ c.cls = cA ∧ c.slots.size = n.toNatClampNeg ∧ ¬ n < 0 ∧ ∀ j : Int32, ¬ j < 0 → j < m → c.slots[j.toNatClampNeg]? = some (.ref u)
theorem own_clamp {i j : Int32} (hi : ¬ i < 0) (hj : ¬ j < 0) (h : ¬ i = j) : i.toNatClampNeg ≠ j.toNatClampNeg := fun q => h (Int32.toInt_inj.mp (by rw [nat_of hi, nat_of hj, q]))
theorem own_clamp_lt {i n : Int32} (hi : ¬ i < 0) (h : i < n) : i.toNatClampNeg < n.toNatClampNeg := by
  have a := nat_of hi
  have b := Int32.lt_iff_toInt_lt.mp h
  have z : (0 : Int32).toInt = 0 := rfl
  have c := nat_of (j := n) fun q => by have := Int32.lt_iff_toInt_lt.mp q; omega
  omega
section Laws
variable {Z : State} {h h' : Heap} {a b u : Addr} {cA : ClassId} {n m j x : Int32} {f : Int32 → Int32} {sl : Nat} {v : Value} {ws : List Addr}
theorem AI.lt (F : AI Z h a n f) : a < h.size := by obtain ⟨c, A, -⟩ := F; exact A.lt
theorem AI.ext (F : AI Z h a n f) (E : Ext h h') : AI Z h' a n f := by obtain ⟨c, A, r⟩ := F; exact ⟨c, A.ext E, r⟩
theorem AI.keep (F : AI Z h a n f) (K : Keep h h' ws) (q : a ∉ ws) : AI Z h' a n f := by obtain ⟨c, A, r⟩ := F; exact ⟨c, ⟨K.2.1 a c A.1 q, A.2⟩, r⟩
theorem AI.other (F : AI Z h a n f) (W : Wr h h' b sl v) (q : a ≠ b) : AI Z h' a n f := by obtain ⟨c, A, r⟩ := F; exact ⟨c, A.other W q, r⟩
theorem AI.set (F : AI Z h a n f) (W : Wr h h' a j.toNatClampNeg (.int x)) (hj : ¬ j < 0) (hn : j < n) : AI Z h' a n (up f j x) := by
  obtain ⟨c, A, S, M, H⟩ := F
  have hlt := own_clamp_lt hj hn
  refine ⟨_, A.same W, by simpa [Cell.setSlot] using S, M, fun i hi hin => ?_⟩
  by_cases q : i = j
  · subst q; rw [up_at]; simp [Cell.setSlot, S, hlt]
  · rw [up_ne _ q]
    have e := own_clamp hi hj q
    have : (c.setSlot j.toNatClampNeg (.int x)).slots[i.toNatClampNeg]? = c.slots[i.toNatClampNeg]? := by simp [Cell.setSlot, Array.getElem?_setIfInBounds, Ne.symm e]
    rw [this]; exact H i hi hin
theorem AI.new (A : Arr Z h a (newA cA .int n) .int) (hn : ¬ n < 0) : AI Z h a n (fun _ => 0) :=
  ⟨_, A, sz_new _ _ _, hn, fun j hj hjn => get_new (fun q => q.elim hj fun q => absurd q (Nat.not_le.mpr (own_clamp_lt hj hjn)))⟩
theorem AA.lt (F : AA Z h a cA n m u) : a < h.size := by obtain ⟨c, A, -⟩ := F; exact A.lt
theorem AA.ext (F : AA Z h a cA n m u) (E : Ext h h') : AA Z h' a cA n m u := by obtain ⟨c, A, r⟩ := F; exact ⟨c, A.ext E, r⟩
theorem AA.keep (F : AA Z h a cA n m u) (K : Keep h h' ws) (q : a ∉ ws) : AA Z h' a cA n m u := by obtain ⟨c, A, r⟩ := F; exact ⟨c, ⟨K.2.1 a c A.1 q, A.2⟩, r⟩
theorem AA.other (F : AA Z h a cA n m u) (W : Wr h h' b sl v) (q : a ≠ b) : AA Z h' a cA n m u := by obtain ⟨c, A, r⟩ := F; exact ⟨c, A.other W q, r⟩
theorem AA.le {m' : Int32} (F : AA Z h a cA n m u) (q : ∀ j : Int32, j < m' → j < m) : AA Z h a cA n m' u := by obtain ⟨c, A, r1, r2, r3, H⟩ := F; exact ⟨c, A, r1, r2, r3, fun j hj hm => H j hj (q j hm)⟩
theorem AA.push {m' : Int32} (F : AA Z h a cA n m u) (W : Wr h h' a m.toNatClampNeg (.ref u)) (hm : ¬ m < 0) (hn : m < n) (q : ∀ j : Int32, j < m' → j < m ∨ j = m) : AA Z h' a cA n m' u := by
  obtain ⟨c, A, r1, S, M, H⟩ := F
  have hlt := own_clamp_lt hm hn
  refine ⟨_, A.same W, r1, by simpa [Cell.setSlot] using S, M, fun i hi him => ?_⟩
  by_cases e : i = m
  · subst e; simp [Cell.setSlot, S, hlt]
  · have e' := own_clamp hi hm e
    have : (c.setSlot m.toNatClampNeg (.ref u)).slots[i.toNatClampNeg]? = c.slots[i.toNatClampNeg]? := by simp [Cell.setSlot, Array.getElem?_setIfInBounds, Ne.symm e']
    rw [this]; exact H i hi ((q i him).resolve_right e)
theorem AA.new (A : Arr Z h a (newA cA (.array .int) n) (.array .int)) (hn : ¬ n < 0) : AA Z h a cA n 0 u :=
  ⟨_, A, rfl, sz_new _ _ _, hn, fun j hj hj0 => absurd hj0 hj⟩
end Laws
theorem own_step {m m' : Int32} (h : m' = m + 1) (hm : ¬ m < 0) (hn : m < 64) : ∀ j : Int32, j < m' → j < m ∨ j = m := by
  subst h
  intro j hj
  have z : (0 : Int32).toInt = 0 := rfl
  have o : (1 : Int32).toInt = 1 := rfl
  have s : (64 : Int32).toInt = 64 := rfl
  have a := mt Int32.lt_iff_toInt_lt.mpr hm
  have b := Int32.lt_iff_toInt_lt.mp hn
  have c := Int32.lt_iff_toInt_lt.mp hj
  have e : (m + 1).toInt = m.toInt + (1 : Int32).toInt := Jvm.Kit.i32_add (by omega) (by omega)
  by_cases q : j.toInt = m.toInt
  · exact Or.inr (Int32.toInt_inj.mp q)
  · exact Or.inl (Int32.lt_iff_toInt_lt.mpr (by omega))
theorem own_ne_of_lt {a b : Int32} (h : a < b) : ¬ a = b := fun q => by subst q; exact Int32.lt_irrefl h
theorem own_selects {args : Array Value} {s : State} {y z z' : MethodName} (hinst : (Jvm.Cond.instanceMethod y).before args s = true) (hpriv : s.PrivateAt y) (hsel : (Jvm.Cond.selects y.cls z z').before args s = true) (hcls : z'.cls = y.cls) (hy : y.cls ≠ "java/lang/invoke/MethodHandle" ∧ y.cls ≠ "java/lang/invoke/VarHandle") : (Jvm.Cond.selects y.cls y y).before args s = true := by
  obtain ⟨mk, methM, hnamed, hmethM, -, -⟩ := Cond.instanceMethod_spec hinst
  obtain ⟨c2, r2, m2, q1, q2, q3, q4, kP, hkP, hkPi⟩ := Cond.selects_spec hsel
  have e1 := findClass_of_methodNamed hnamed
  have e2 := findClass_of_methodNamed q3
  rw [hcls] at e2
  have e3 : m2.cls = mk.cls := Option.some.inj (e2.symm.trans e1)
  rw [e3] at hkP
  have e4 := State.methodFound?_of_named hnamed hy
  have e5 : selectMethod {} s.vm c2 mk = .method mk := selectMethod_private hmethM (hpriv mk methM hnamed hmethM)
  simp [Cond.before, Cond.holds, Cond.value, q1, e4, hnamed, e5, hkP, hkPi]
def JS (Z : State) (h : Heap) (j A I V T u : Addr) (kA : ClassId) (ln op nT nU : Int32) (fi fv ft fu : Int32 → Int32) : Prop := Exa Z h j "com/example/envyless/envyless/Journal" ∧ Fld Z h j "com/example/envyless/envyless/Journal" "arrays" "[[I" (.ref A) ∧ Fld Z h j "com/example/envyless/envyless/Journal" "indexes" "[I" (.ref I) ∧ Fld Z h j "com/example/envyless/envyless/Journal" "values" "[I" (.ref V) ∧ Fld Z h j "com/example/envyless/envyless/Journal" "starts" "[I" (.ref T) ∧ Fld Z h j "com/example/envyless/envyless/Journal" "length" "I" (.int ln) ∧ Fld Z h j "com/example/envyless/envyless/Journal" "open" "I" (.int op) ∧ AA Z h A kA 64 ln u ∧ AI Z h I 64 fi ∧ AI Z h V 64 fv ∧ AI Z h T nT ft ∧ AI Z h u nU fu ∧ Exa Z h u "[I" ∧ OvrA Z kA .int "[I"
def JQ (Z : State) (w : Option Value) (j A I V T u : Addr) (kA : ClassId) (ln op nT nU : Int32) (fi fv ft fu : Int32 → Int32) (n0 : Nat) (v : Option Value) (h : Heap) (L : List Loc) : Prop := v = w ∧ Fr n0 L ∧ n0 ≤ h.size ∧ JS Z h j A I V T u kA ln op nT nU fi fv ft fu
/-- what a new journal is -/
def JC (Z : State) (j : Addr) (h0 : Heap) (n0 : Nat) (v : Option Value) (h : Heap) (L : List Loc) : Prop := v = none ∧ Fr n0 L ∧ Keep h0 h [j] ∧ ∃ (A I V T : Addr) (kA : ClassId), Exa Z h j "com/example/envyless/envyless/Journal" ∧ Fld Z h j "com/example/envyless/envyless/Journal" "arrays" "[[I" (.ref A) ∧ Fld Z h j "com/example/envyless/envyless/Journal" "indexes" "[I" (.ref I) ∧ Fld Z h j "com/example/envyless/envyless/Journal" "values" "[I" (.ref V) ∧ Fld Z h j "com/example/envyless/envyless/Journal" "starts" "[I" (.ref T) ∧ Fld Z h j "com/example/envyless/envyless/Journal" "length" "I" (.int (0 : Int32)) ∧ Fld Z h j "com/example/envyless/envyless/Journal" "open" "I" (.int (0 : Int32)) ∧ (∀ u, AA Z h A kA 64 0 u) ∧ AI Z h I 64 (fun _ => 0) ∧ AI Z h V 64 (fun _ => 0) ∧ AI Z h T 8 (fun _ => 0) ∧ OvrA Z kA .int "[I" ∧ (h0.size ≤ A ∧ h0.size ≤ I ∧ h0.size ≤ V ∧ h0.size ≤ T) ∧ (j ≠ A ∧ j ≠ I ∧ j ≠ V ∧ j ≠ T ∧ A ≠ I ∧ A ≠ V ∧ A ≠ T ∧ I ≠ V ∧ I ≠ T ∧ V ≠ T)
def DJ (j A I V T u : Addr) : Prop := j ≠ A ∧ j ≠ I ∧ j ≠ V ∧ j ≠ T ∧ j ≠ u ∧ A ≠ I ∧ A ≠ V ∧ A ≠ T ∧ A ≠ u ∧ I ≠ V ∧ I ≠ T ∧ I ≠ u ∧ V ≠ T ∧ V ≠ u ∧ T ≠ u
def GE (n0 : Nat) (j A I V T u : Addr) : Prop := n0 ≤ j ∧ n0 ≤ A ∧ n0 ≤ I ∧ n0 ≤ V ∧ n0 ≤ T ∧ n0 ≤ u
def own_gr (f : Int32 → Int32) : Int32 → Int32 := fun j => if j < 8 then f j else 0
theorem own_gr_lt {f : Int32 → Int32} {e y : Int32} (h : e < 8) (r : f e = y) : own_gr f e = y := (if_pos h).trans r
theorem own_nat (k : Nat) (hk : k < 2 ^ 31) : ¬ k.toInt32 < 0 ∧ k.toInt32.toNatClampNeg = k := by
  have q : k.toInt32.toInt = k := len_toInt hk
  have h0 : ¬ k.toInt32 < 0 := fun r => by
    have := Int32.lt_iff_toInt_lt.mp r
    have e0 : (0 : Int32).toInt = 0 := rfl
    omega
  have := nat_of h0
  exact ⟨h0, by omega⟩
def own_vs (f : Int32 → Int32) : List Value := [.int (f 0), .int (f 1), .int (f 2), .int (f 3), .int (f 4), .int (f 5), .int (f 6), .int (f 7)]
theorem own_arv {Z : State} {h : Heap} {a : Addr} {f : Int32 → Int32} (F : AI Z h a 8 f) : ∃ k, Arv Z h a k .int 8 (own_vs f) (.int 0) := by
  obtain ⟨c, A, S, M, H⟩ := F
  have e8 : (8 : Int32).toNatClampNeg = 8 := by decide
  refine ⟨c.cls, c, A, rfl, S, M, fun i hi => ?_, fun i hi => ?_⟩
  · rw [S, e8] at hi
    match i, hi with
    | 0, _ => exact H 0 (by decide) (by decide)
    | 1, _ => exact H 1 (by decide) (by decide)
    | 2, _ => exact H 2 (by decide) (by decide)
    | 3, _ => exact H 3 (by decide) (by decide)
    | 4, _ => exact H 4 (by decide) (by decide)
    | 5, _ => exact H 5 (by decide) (by decide)
    | 6, _ => exact H 6 (by decide) (by decide)
    | 7, _ => exact H 7 (by decide) (by decide)
    | i + 8, hi => exact absurd hi (by omega)
  · rw [S, e8] at hi
    match i, hi with
    | 0, _ => rfl
    | 1, _ => rfl
    | 2, _ => rfl
    | 3, _ => rfl
    | 4, _ => rfl
    | 5, _ => rfl
    | 6, _ => rfl
    | 7, _ => rfl
    | i + 8, hi => exact absurd hi (by omega)
def own_zs : List Value := [.int 0, .int 0, .int 0, .int 0, .int 0, .int 0, .int 0, .int 0, .int 0, .int 0, .int 0, .int 0, .int 0, .int 0, .int 0, .int 0]
theorem own_grown {Z : State} {h : Heap} {b : Addr} {k : ClassId} {f : Int32 → Int32} (B : Arv Z h b k .int 16 (own_zs.take (0 : Int32).toNatClampNeg ++ own_vs f ++ own_zs.drop ((0 : Int32).toNatClampNeg + (8 : Int32).toNatClampNeg)) (.int 0)) : AI Z h b 16 (own_gr f) := by
  obtain ⟨c, A, -, S, M, H, -⟩ := B
  have e16 : (16 : Int32).toNatClampNeg = 16 := by decide
  have hl : own_zs.take (0 : Int32).toNatClampNeg ++ own_vs f ++ own_zs.drop ((0 : Int32).toNatClampNeg + (8 : Int32).toNatClampNeg) = [.int (f 0), .int (f 1), .int (f 2), .int (f 3), .int (f 4), .int (f 5), .int (f 6), .int (f 7), .int 0, .int 0, .int 0, .int 0, .int 0, .int 0, .int 0, .int 0] := rfl
  rw [hl] at H
  refine ⟨c, A, S, M, fun j hj hn => ?_⟩
  have z : (0 : Int32).toInt = 0 := rfl
  have t : (16 : Int32).toInt = 16 := rfl
  have a1 := mt Int32.lt_iff_toInt_lt.mpr hj
  have a2 := Int32.lt_iff_toInt_lt.mp hn
  obtain ⟨i, hi, rfl⟩ := own_i32 (i := j) (N := 16) (by decide) (by omega) (by omega)
  rw [(own_nat i (by omega)).2]
  rw [H i (by rw [S, e16]; exact hi)]
  clear H hl a1 a2 hj hn
  match i, hi with
  | 0, _ => exact congrArg some (congrArg Value.int ((if_pos (by decide)).symm))
  | 1, _ => exact congrArg some (congrArg Value.int ((if_pos (by decide)).symm))
  | 2, _ => exact congrArg some (congrArg Value.int ((if_pos (by decide)).symm))
  | 3, _ => exact congrArg some (congrArg Value.int ((if_pos (by decide)).symm))
  | 4, _ => exact congrArg some (congrArg Value.int ((if_pos (by decide)).symm))
  | 5, _ => exact congrArg some (congrArg Value.int ((if_pos (by decide)).symm))
  | 6, _ => exact congrArg some (congrArg Value.int ((if_pos (by decide)).symm))
  | 7, _ => exact congrArg some (congrArg Value.int ((if_pos (by decide)).symm))
  | 8, _ => exact congrArg some (congrArg Value.int ((if_neg (by decide)).symm))
  | 9, _ => exact congrArg some (congrArg Value.int ((if_neg (by decide)).symm))
  | 10, _ => exact congrArg some (congrArg Value.int ((if_neg (by decide)).symm))
  | 11, _ => exact congrArg some (congrArg Value.int ((if_neg (by decide)).symm))
  | 12, _ => exact congrArg some (congrArg Value.int ((if_neg (by decide)).symm))
  | 13, _ => exact congrArg some (congrArg Value.int ((if_neg (by decide)).symm))
  | 14, _ => exact congrArg some (congrArg Value.int ((if_neg (by decide)).symm))
  | 15, _ => exact congrArg some (congrArg Value.int ((if_neg (by decide)).symm))
  | i + 16, hi => exact absurd hi (by omega)
def QCP (Z : State) (f : Int32 → Int32) (h0 : Heap) (n0 : Nat) (v : Option Value) (h : Heap) (L : List Loc) : Prop := ∃ b, v = some (.ref b) ∧ Fr n0 L ∧ Keep h0 h [] ∧ h0.size ≤ b ∧ AI Z h b 16 (own_gr f)
def JG (Z : State) (j A I V u : Addr) (kA : ClassId) (ln op nU : Int32) (fi fv ft fu : Int32 → Int32) (n0 : Nat) (v : Option Value) (h : Heap) (L : List Loc) : Prop := v = none ∧ Fr n0 L ∧ n0 ≤ h.size ∧ ∃ T : Addr, n0 ≤ T ∧ (j ≠ T ∧ A ≠ T ∧ I ≠ T ∧ V ≠ T ∧ T ≠ u) ∧ JS Z h j A I V T u kA ln op 16 nU fi fv (up (own_gr ft) 8 ln) fu
theorem own_pd_0 : parseMethodDescriptor "()I" = some ⟨[], some .int⟩ := by decide +kernel
theorem own_pd_1 : parseMethodDescriptor "(II)I" = some ⟨[.int, .int], some .int⟩ := by decide +kernel
theorem own_pd_2 : parseMethodDescriptor "([II)[I" = some ⟨[(.array .int), .int], some (.array .int)⟩ := by decide +kernel
theorem own_pd_3 : parseMethodDescriptor "()V" = some ⟨[], none⟩ := by decide +kernel
theorem own_pd_4 : parseMethodDescriptor "([III)V" = some ⟨[(.array .int), .int, .int], none⟩ := by decide +kernel
theorem own_d3_0 : decode prog_22_method_3_code 0 = .ok (.aload_n 0, 1) := by decide +kernel
theorem own_d3_1 : decode prog_22_method_3_code 1 = .ok (.getfield 24, 3) := by decide +kernel
theorem own_d3_4 : decode prog_22_method_3_code 4 = .ok (.aload_n 0, 1) := by decide +kernel
theorem own_d3_5 : decode prog_22_method_3_code 5 = .ok (.getfield 21, 3) := by decide +kernel
theorem own_d3_8 : decode prog_22_method_3_code 8 = .ok (.arraylength, 1) := by decide +kernel
theorem own_d3_9 : decode prog_22_method_3_code 9 = .ok (.if_icmp .ne 20, 3) := by decide +kernel
theorem own_d3_29 : decode prog_22_method_3_code 29 = .ok (.aload_n 0, 1) := by decide +kernel
theorem own_d3_30 : decode prog_22_method_3_code 30 = .ok (.getfield 21, 3) := by decide +kernel
theorem own_d3_33 : decode prog_22_method_3_code 33 = .ok (.aload_n 0, 1) := by decide +kernel
theorem own_d3_34 : decode prog_22_method_3_code 34 = .ok (.dup, 1) := by decide +kernel
theorem own_d3_35 : decode prog_22_method_3_code 35 = .ok (.getfield 24, 3) := by decide +kernel
theorem own_d3_38 : decode prog_22_method_3_code 38 = .ok (.dup_x1, 1) := by decide +kernel
theorem own_d3_39 : decode prog_22_method_3_code 39 = .ok (.iconst 1, 1) := by decide +kernel
theorem own_d3_40 : decode prog_22_method_3_code 40 = .ok (.iadd, 1) := by decide +kernel
theorem own_d3_41 : decode prog_22_method_3_code 41 = .ok (.putfield 24, 3) := by decide +kernel
theorem own_d3_44 : decode prog_22_method_3_code 44 = .ok (.aload_n 0, 1) := by decide +kernel
theorem own_d3_45 : decode prog_22_method_3_code 45 = .ok (.getfield 28, 3) := by decide +kernel
theorem own_d3_48 : decode prog_22_method_3_code 48 = .ok (.iastore, 1) := by decide +kernel
theorem own_d3_49 : decode prog_22_method_3_code 49 = .ok (.return_, 1) := by decide +kernel
set_option maxRecDepth 65536 in
set_option maxHeartbeats 40000000 in
theorem rm_start (l : Launch) (Z : State) (a0 : Array Value) (hw : ∀ d ∈ tables_1, d.before a0 Z = true) (ws : List Jvm.Cond) (j A I V T u : Addr) (kA : ClassId) (ln op nT nU : Int32) (fi fv ft fu : Int32 → Int32) (opE : Int32) (h0 : Heap) (n0 : Nat) (Z0 : n0 ≤ h0.size) (J : JS Z h0 j A I V T u kA ln op nT nU fi fv ft fu) (DJ_ : DJ j A I V T u) (GE_ : GE n0 j A I V T u) (hoE : opE = op + 1) (ho0 : ¬ op < 0) (hoT : op < nT) :
    MetFree l (⟨"com/example/envyless/envyless/Journal", "start", "()V"⟩ : MethodName) (head1 (Jvm.Cond.code (⟨"com/example/envyless/envyless/Journal", "start", "()V"⟩ : MethodName) prog_22_method_3_code 1 none :: ws) ({ frames := 0, cells := 0, slots := 0, locals := 0 } : Room)) (fun a U => a = #[(.ref j)] ∧ Z.Warmed39 U.vm ∧ U.heap = h0) (fun _ _ _ _ _ => True) (fun _ U o U' => ∃ v L, o = .returned v ∧ JQ Z none j A I V T u kA ln opE nT nU fi fv (up ft op ln) fu n0 v U'.heap L ∧ FrameEnd U o U' L ({ frames := 0, cells := 0, slots := 0, locals := 0 } : Room).cells ({ frames := 0, cells := 0, slots := 0, locals := 0 } : Room).slots) := by
  refine MetFree.of_bodySF (plainFor_of_name (by first | (simp [plainName, overriddenIn]; done) | decide +kernel)) hisR ?_
  intro p e s m args below meth c s₁ Bd hml0 hP hK
  obtain ⟨rfl, hZ, hh⟩ := hP
  have hx := Bd.exec
  have hby := Bd.bytes
  have hml : c.maxLocals = 1 := hml0
  have hown : s.vm.findClass "com/example/envyless/envyless/Journal" = some m.cls := findClass_of_methodNamed Bd.named
  have hnm := (name_of_methodNamed Bd.named Bd.method).1
  have X0 : Stand p l e ({ frames := 0, cells := 0, slots := 0, locals := 0 } : Room) s m #[(.ref j)] below meth c s₁ [] 0 0 := Stand.of_body Bd
  have e0 : s₁.heap = h0 := by rw [← hh, Bd.state]; rfl
  have N0 := Fr.nil n0
  have ef0 : entryFrame m #[(.ref j)] 1 = mkF m 0 #[.val (.ref j)] [] := by first | (simp [entryFrame, mkF, argsToLocals, Value.category, maxLocals]; done) | rfl
  have pre0 : ∀ t, Steps p.tables e below (s₁.setTop (mkF m 0 #[.val (.ref j)] [])) t → Steps p.tables e below (s₁.setTop (entryFrame m #[(.ref j)] 1)) t := fun t k => castTop ef0 k
  obtain ⟨Ej, Fa, Fi, Fv, Fs, Fl, Fo, AAa, AIi, AIv, AIt, AIu, Eu, Ov⟩ := J
  obtain ⟨njA, njI, njV, njT, nju, nAI, nAV, nAT, nAu, nIV, nIT, nIu, nVT, nVu, nTu⟩ := DJ_
  obtain ⟨gej, geA, geI, geV, geT, geu⟩ := GE_
  subst hoE
  obtain ⟨T1, X1, e1, st1⟩ := getF X0 hx hZ hown (host := "") (Or.inl (hw _ (List.mem_of_getElem? (i := 25) rfl))) Via.refl e0 Fo (g := (mkF m 1 #[.val (.ref j)] [(.ref j)])) rfl rfl (hb hby own_d3_1)
  obtain ⟨T2, X2, e2, st2⟩ := getF X1 hx hZ hown (host := "") (Or.inl (hw _ (List.mem_of_getElem? (i := 18) rfl))) Via.refl e1 Fs (g := (mkF m 5 #[.val (.ref j)] [(.ref j), (.int op)])) rfl rfl (hb hby own_d3_5)
  obtain ⟨cl3, Ar3, S3, M3, H3⟩ := id AIt
  have pre4 : ∀ t, Steps p.tables e below (T2.setTop (mkF m 9 #[.val (.ref j)] [(.int nT), (.int op)])) t → Steps p.tables e below (s₁.setTop (entryFrame m #[(.ref j)] 1)) t := fun tt kk => pre0 tt (by
    show Steps p.tables e below (s₁.setTop (mkF m 0 #[.val (.ref j)] [])) _
    refine XS.aloadN X0.here hx rfl (hb hby own_d3_0) rfl rfl ?_
    show Steps p.tables e below (s₁.setTop (mkF m 1 #[.val (.ref j)] [(.ref j)])) _
    refine st1 _ ?_
    show Steps p.tables e below (T1.setTop (mkF m 4 #[.val (.ref j)] [(.int op)])) _
    refine XS.aloadN X1.here hx rfl (hb hby own_d3_4) rfl rfl ?_
    show Steps p.tables e below (T1.setTop (mkF m 5 #[.val (.ref j)] [(.ref j), (.int op)])) _
    refine st2 _ ?_
    show Steps p.tables e below (T2.setTop (mkF m 8 #[.val (.ref j)] [(.ref T), (.int op)])) _
    refine X2.arraylength hx (by rw [e2]; exact Ar3.1) (State.isArrayOf_alike hZ.alike Ar3.2.1) (g := (mkF m 8 #[.val (.ref j)] [(.ref T), (.int op)])) rfl rfl (hb hby own_d3_8) _ ?_
    rw [len_of S3 M3]
    exact kk)
  obtain ⟨T5, X5, e5, st5⟩ := getF X2 hx hZ hown (host := "") (Or.inl (hw _ (List.mem_of_getElem? (i := 18) rfl))) Via.refl e2 Fs (g := (mkF m 30 #[.val (.ref j)] [(.ref j)])) rfl rfl (hb hby own_d3_30)
  obtain ⟨T6, X6, e6, st6⟩ := getF X5 hx hZ hown (host := "") (Or.inl (hw _ (List.mem_of_getElem? (i := 25) rfl))) Via.refl e5 Fo (g := (mkF m 35 #[.val (.ref j)] [(.ref j), (.ref j), (.ref T)])) rfl rfl (hb hby own_d3_35)
  obtain ⟨T7, h7, X7, e7, W7, st7⟩ := putF X6 hx hZ hown (host := "") (Or.inl (hw _ (List.mem_of_getElem? (i := 25) rfl))) Via.refl e6 Fo Ej (Or.inl (hw _ (List.mem_of_getElem? (i := 26) rfl))) (hw _ (List.mem_of_getElem? (i := 1) rfl)) (ty := .int) (by decide) rfl rfl (g := (mkF m 41 #[.val (.ref j)] [(.int (op + (1 : Int32))), (.ref j), (.int op), (.ref T)])) rfl rfl (hb hby own_d3_41)
  have N7 := Fr.snoc X7 N0 gej
  have f8 : Exa Z h7 j "com/example/envyless/envyless/Journal" := Ej.wr W7
  have f9 : Exa Z h7 u "[I" := Eu.wr W7
  have f10 : Fld Z h7 j "com/example/envyless/envyless/Journal" "arrays" "[[I" (.ref A) := Fa.other W7 (Or.inr (slot_ne (Or.inl (hw _ (List.mem_of_getElem? (i := 12) rfl))) (Or.inl (hw _ (List.mem_of_getElem? (i := 26) rfl))) (by decide) (t := (.array (.array .int))) (t' := .int) (by decide) (by decide)))
  have f11 : Fld Z h7 j "com/example/envyless/envyless/Journal" "indexes" "[I" (.ref I) := Fi.other W7 (Or.inr (slot_ne (Or.inl (hw _ (List.mem_of_getElem? (i := 15) rfl))) (Or.inl (hw _ (List.mem_of_getElem? (i := 26) rfl))) (by decide) (t := (.array .int)) (t' := .int) (by decide) (by decide)))
  have f12 : Fld Z h7 j "com/example/envyless/envyless/Journal" "values" "[I" (.ref V) := Fv.other W7 (Or.inr (slot_ne (Or.inl (hw _ (List.mem_of_getElem? (i := 17) rfl))) (Or.inl (hw _ (List.mem_of_getElem? (i := 26) rfl))) (by decide) (t := (.array .int)) (t' := .int) (by decide) (by decide)))
  have f13 : Fld Z h7 j "com/example/envyless/envyless/Journal" "starts" "[I" (.ref T) := Fs.other W7 (Or.inr (slot_ne (Or.inl (hw _ (List.mem_of_getElem? (i := 19) rfl))) (Or.inl (hw _ (List.mem_of_getElem? (i := 26) rfl))) (by decide) (t := (.array .int)) (t' := .int) (by decide) (by decide)))
  have f14 : Fld Z h7 j "com/example/envyless/envyless/Journal" "length" "I" (.int ln) := Fl.other W7 (Or.inr (slot_ne (Or.inl (hw _ (List.mem_of_getElem? (i := 28) rfl))) (Or.inl (hw _ (List.mem_of_getElem? (i := 26) rfl))) (by decide) (t := .int) (t' := .int) (by decide) (by decide)))
  have f15 : Fld Z h7 j "com/example/envyless/envyless/Journal" "open" "I" (.int (op + (1 : Int32))) := Fo.same W7
  have f16 : AA Z h7 A kA 64 ln u := AAa.other W7 (Ne.symm njA)
  have f17 : AI Z h7 I (64 : Int32) fi := AIi.other W7 (Ne.symm njI)
  have f18 : AI Z h7 V (64 : Int32) fv := AIv.other W7 (Ne.symm njV)
  have f19 : AI Z h7 T nT ft := AIt.other W7 (Ne.symm njT)
  have f20 : AI Z h7 u nU fu := AIu.other W7 (Ne.symm nju)
  have f21 : n0 ≤ h7.size := Nat.le_trans Z0 (Keep.of_wr W7).1
  obtain ⟨T22, X22, e22, st22⟩ := getF X7 hx hZ hown (host := "") (Or.inl (hw _ (List.mem_of_getElem? (i := 27) rfl))) Via.refl e7 f14 (g := (mkF m 45 #[.val (.ref j)] [(.ref j), (.int op), (.ref T)])) rfl rfl (hb hby own_d3_45)
  obtain ⟨cl23, Ar23, S23, -, -⟩ := id f19
  obtain ⟨T24, h24, X24, e24, W24, st24⟩ := stI X22 hx hZ e22 Ar23 (j := op) (inb_of S23 ⟨ho0, hoT⟩) (g := (mkF m 48 #[.val (.ref j)] [(.int ln), (.int op), (.ref T)])) rfl rfl (hb hby own_d3_48)
  have N24 := Fr.snoc X24 N7 geT
  have f25 : Exa Z h24 j "com/example/envyless/envyless/Journal" := f8.wr W24
  have f26 : Exa Z h24 u "[I" := f9.wr W24
  have f27 : Fld Z h24 j "com/example/envyless/envyless/Journal" "arrays" "[[I" (.ref A) := f10.other W24 (Or.inl njT)
  have f28 : Fld Z h24 j "com/example/envyless/envyless/Journal" "indexes" "[I" (.ref I) := f11.other W24 (Or.inl njT)
  have f29 : Fld Z h24 j "com/example/envyless/envyless/Journal" "values" "[I" (.ref V) := f12.other W24 (Or.inl njT)
  have f30 : Fld Z h24 j "com/example/envyless/envyless/Journal" "starts" "[I" (.ref T) := f13.other W24 (Or.inl njT)
  have f31 : Fld Z h24 j "com/example/envyless/envyless/Journal" "length" "I" (.int ln) := f14.other W24 (Or.inl njT)
  have f32 : Fld Z h24 j "com/example/envyless/envyless/Journal" "open" "I" (.int (op + (1 : Int32))) := f15.other W24 (Or.inl njT)
  have f33 : AA Z h24 A kA 64 ln u := f16.other W24 nAT
  have f34 : AI Z h24 I (64 : Int32) fi := f17.other W24 nIT
  have f35 : AI Z h24 V (64 : Int32) fv := f18.other W24 nVT
  have f36 : AI Z h24 u nU fu := f20.other W24 (Ne.symm nTu)
  have f37 : n0 ≤ h24.size := Nat.le_trans f21 (Keep.of_wr W24).1
  have V24 : AI Z h24 T nT (up ft op ln) := f19.set W24 ho0 hoT
  obtain ⟨fs, hr, hrun, hended, hW, hsame⟩ := X24.leave (v := none) (fun _ => rfl)
  refine ⟨_, _, pre4 _ ?_, hrun, hended, _, _, rfl, ?_, ⟨_, rfl⟩, hW, hsame.mono (by decide) (by decide)⟩
  · show Steps p.tables e below (T2.setTop (mkF m 9 #[.val (.ref j)] [(.int nT), (.int op)])) _
    refine XS.icmpYes X2.here hx rfl (pc0 := 9) (pc' := 29) rfl (hb hby own_d3_9) rfl (feq (own_ne_of_lt hoT)).2 (by decide) (by decide) ?_
    show Steps p.tables e below (T2.setTop (mkF m 29 #[.val (.ref j)] [])) _
    refine XS.aloadN X2.here hx rfl (hb hby own_d3_29) rfl rfl ?_
    show Steps p.tables e below (T2.setTop (mkF m 30 #[.val (.ref j)] [(.ref j)])) _
    refine st5 _ ?_
    show Steps p.tables e below (T5.setTop (mkF m 33 #[.val (.ref j)] [(.ref T)])) _
    refine XS.aloadN X5.here hx rfl (hb hby own_d3_33) rfl rfl ?_
    show Steps p.tables e below (T5.setTop (mkF m 34 #[.val (.ref j)] [(.ref j), (.ref T)])) _
    refine XS.dup X5.here hx rfl (hb hby own_d3_34) rfl rfl ?_
    show Steps p.tables e below (T5.setTop (mkF m 35 #[.val (.ref j)] [(.ref j), (.ref j), (.ref T)])) _
    refine st6 _ ?_
    show Steps p.tables e below (T6.setTop (mkF m 38 #[.val (.ref j)] [(.int op), (.ref j), (.ref T)])) _
    refine XS.dupX1 X6.here hx rfl (hb hby own_d3_38) rfl rfl rfl ?_
    show Steps p.tables e below (T6.setTop (mkF m 39 #[.val (.ref j)] [(.int op), (.ref j), (.int op), (.ref T)])) _
    refine XS.iconst X6.here hx rfl (hb hby own_d3_39) ?_
    show Steps p.tables e below (T6.setTop (mkF m 40 #[.val (.ref j)] [(.int (1 : Int32)), (.int op), (.ref j), (.int op), (.ref T)])) _
    refine XS.iadd X6.here hx rfl (hb hby own_d3_40) rfl ?_
    show Steps p.tables e below (T6.setTop (mkF m 41 #[.val (.ref j)] [(.int (op + (1 : Int32))), (.ref j), (.int op), (.ref T)])) _
    refine st7 _ ?_
    show Steps p.tables e below (T7.setTop (mkF m 44 #[.val (.ref j)] [(.int op), (.ref T)])) _
    refine XS.aloadN X7.here hx rfl (hb hby own_d3_44) rfl rfl ?_
    show Steps p.tables e below (T7.setTop (mkF m 45 #[.val (.ref j)] [(.ref j), (.int op), (.ref T)])) _
    refine st22 _ ?_
    show Steps p.tables e below (T22.setTop (mkF m 48 #[.val (.ref j)] [(.int ln), (.int op), (.ref T)])) _
    refine st24 _ ?_
    show Steps p.tables e below (T24.setTop (mkF m 49 #[.val (.ref j)] [])) _
    exact X24.returnOut hx Bd.returns (hb hby own_d3_49) hr
  · show JQ Z _ j A I V _ u kA _ _ _ _ _ _ _ _ n0 _ T24.heap _
    rw [e24]
    exact ⟨rfl, N24, f37, f25, f27, f28, f29, f30, f31, f32, f33, f34, f35, V24, f36, f26, Ov⟩
theorem own_d4_0 : decode prog_22_method_2_code 0 = .ok (.aload_n 0, 1) := by decide +kernel
theorem own_d4_1 : decode prog_22_method_2_code 1 = .ok (.getfield 24, 3) := by decide +kernel
theorem own_d4_4 : decode prog_22_method_2_code 4 = .ok (.ifCond .le 111, 3) := by decide +kernel
theorem own_d4_115 : decode prog_22_method_2_code 115 = .ok (.aload_n 1, 1) := by decide +kernel
theorem own_d4_116 : decode prog_22_method_2_code 116 = .ok (.iload_n 2, 1) := by decide +kernel
theorem own_d4_117 : decode prog_22_method_2_code 117 = .ok (.iload_n 3, 1) := by decide +kernel
theorem own_d4_118 : decode prog_22_method_2_code 118 = .ok (.iastore, 1) := by decide +kernel
theorem own_d4_119 : decode prog_22_method_2_code 119 = .ok (.return_, 1) := by decide +kernel
set_option maxRecDepth 65536 in
set_option maxHeartbeats 40000000 in
theorem rm_set0 (l : Launch) (Z : State) (a0 : Array Value) (hw : ∀ d ∈ tables_1, d.before a0 Z = true) (ws : List Jvm.Cond) (j A I V T u : Addr) (kA : ClassId) (ln op nT nU : Int32) (fi fv ft fu : Int32 → Int32) (ix vl : Int32) (h0 : Heap) (n0 : Nat) (Z0 : n0 ≤ h0.size) (J : JS Z h0 j A I V T u kA ln op nT nU fi fv ft fu) (DJ_ : DJ j A I V T u) (GE_ : GE n0 j A I V T u) (hop : ¬ 0 < op) (hi0 : ¬ ix < 0) (hiU : ix < nU) :
    MetFree l (⟨"com/example/envyless/envyless/Journal", "set", "([III)V"⟩ : MethodName) (head1 (Jvm.Cond.code (⟨"com/example/envyless/envyless/Journal", "set", "([III)V"⟩ : MethodName) prog_22_method_2_code 4 none :: ws) ({ frames := 0, cells := 0, slots := 0, locals := 0 } : Room)) (fun a U => a = #[(.ref j), (.ref u), (.int ix), (.int vl)] ∧ Z.Warmed39 U.vm ∧ U.heap = h0) (fun _ _ _ _ _ => True) (fun _ U o U' => ∃ v L, o = .returned v ∧ JQ Z none j A I V T u kA ln op nT nU fi fv ft (up fu ix vl) n0 v U'.heap L ∧ FrameEnd U o U' L ({ frames := 0, cells := 0, slots := 0, locals := 0 } : Room).cells ({ frames := 0, cells := 0, slots := 0, locals := 0 } : Room).slots) := by
  refine MetFree.of_bodySF (plainFor_of_name (by first | (simp [plainName, overriddenIn]; done) | decide +kernel)) hisR ?_
  intro p e s m args below meth c s₁ Bd hml0 hP hK
  obtain ⟨rfl, hZ, hh⟩ := hP
  have hx := Bd.exec
  have hby := Bd.bytes
  have hml : c.maxLocals = 4 := hml0
  have hown : s.vm.findClass "com/example/envyless/envyless/Journal" = some m.cls := findClass_of_methodNamed Bd.named
  have hnm := (name_of_methodNamed Bd.named Bd.method).1
  have X0 : Stand p l e ({ frames := 0, cells := 0, slots := 0, locals := 0 } : Room) s m #[(.ref j), (.ref u), (.int ix), (.int vl)] below meth c s₁ [] 0 0 := Stand.of_body Bd
  have e0 : s₁.heap = h0 := by rw [← hh, Bd.state]; rfl
  have N0 := Fr.nil n0
  have ef0 : entryFrame m #[(.ref j), (.ref u), (.int ix), (.int vl)] 4 = mkF m 0 #[.val (.ref j), .val (.ref u), .val (.int ix), .val (.int vl)] [] := by first | (simp [entryFrame, mkF, argsToLocals, Value.category, maxLocals]; done) | rfl
  have pre0 : ∀ t, Steps p.tables e below (s₁.setTop (mkF m 0 #[.val (.ref j), .val (.ref u), .val (.int ix), .val (.int vl)] [])) t → Steps p.tables e below (s₁.setTop (entryFrame m #[(.ref j), (.ref u), (.int ix), (.int vl)] 4)) t := fun t k => castTop ef0 k
  obtain ⟨Ej, Fa, Fi, Fv, Fs, Fl, Fo, AAa, AIi, AIv, AIt, AIu, Eu, Ov⟩ := J
  obtain ⟨njA, njI, njV, njT, nju, nAI, nAV, nAT, nAu, nIV, nIT, nIu, nVT, nVu, nTu⟩ := DJ_
  obtain ⟨gej, geA, geI, geV, geT, geu⟩ := GE_
  obtain ⟨T38, X38, e38, st38⟩ := getF X0 hx hZ hown (host := "") (Or.inl (hw _ (List.mem_of_getElem? (i := 25) rfl))) Via.refl e0 Fo (g := (mkF m 1 #[.val (.ref j), .val (.ref u), .val (.int ix), .val (.int vl)] [(.ref j)])) rfl rfl (hb hby own_d4_1)
  have pre39 : ∀ t, Steps p.tables e below (T38.setTop (mkF m 4 #[.val (.ref j), .val (.ref u), .val (.int ix), .val (.int vl)] [(.int op)])) t → Steps p.tables e below (s₁.setTop (entryFrame m #[(.ref j), (.ref u), (.int ix), (.int vl)] 4)) t := fun tt kk => pre0 tt (by
    show Steps p.tables e below (s₁.setTop (mkF m 0 #[.val (.ref j), .val (.ref u), .val (.int ix), .val (.int vl)] [])) _
    refine XS.aloadN X0.here hx rfl (hb hby own_d4_0) rfl rfl ?_
    show Steps p.tables e below (s₁.setTop (mkF m 1 #[.val (.ref j), .val (.ref u), .val (.int ix), .val (.int vl)] [(.ref j)])) _
    refine st38 _ ?_
    exact kk)
  obtain ⟨cl40, Ar40, S40, -, -⟩ := id AIu
  obtain ⟨T41, h41, X41, e41, W41, st41⟩ := stI X38 hx hZ e38 Ar40 (j := ix) (inb_of S40 ⟨hi0, hiU⟩) (g := (mkF m 118 #[.val (.ref j), .val (.ref u), .val (.int ix), .val (.int vl)] [(.int vl), (.int ix), (.ref u)])) rfl rfl (hb hby own_d4_118)
  have N41 := Fr.snoc X41 N0 geu
  have f42 : Exa Z h41 j "com/example/envyless/envyless/Journal" := Ej.wr W41
  have f43 : Exa Z h41 u "[I" := Eu.wr W41
  have f44 : Fld Z h41 j "com/example/envyless/envyless/Journal" "arrays" "[[I" (.ref A) := Fa.other W41 (Or.inl nju)
  have f45 : Fld Z h41 j "com/example/envyless/envyless/Journal" "indexes" "[I" (.ref I) := Fi.other W41 (Or.inl nju)
  have f46 : Fld Z h41 j "com/example/envyless/envyless/Journal" "values" "[I" (.ref V) := Fv.other W41 (Or.inl nju)
  have f47 : Fld Z h41 j "com/example/envyless/envyless/Journal" "starts" "[I" (.ref T) := Fs.other W41 (Or.inl nju)
  have f48 : Fld Z h41 j "com/example/envyless/envyless/Journal" "length" "I" (.int ln) := Fl.other W41 (Or.inl nju)
  have f49 : Fld Z h41 j "com/example/envyless/envyless/Journal" "open" "I" (.int op) := Fo.other W41 (Or.inl nju)
  have f50 : AA Z h41 A kA 64 ln u := AAa.other W41 nAu
  have f51 : AI Z h41 I (64 : Int32) fi := AIi.other W41 nIu
  have f52 : AI Z h41 V (64 : Int32) fv := AIv.other W41 nVu
  have f53 : AI Z h41 T nT ft := AIt.other W41 nTu
  have f54 : n0 ≤ h41.size := Nat.le_trans Z0 (Keep.of_wr W41).1
  have V41 : AI Z h41 u nU (up fu ix vl) := AIu.set W41 hi0 hiU
  obtain ⟨fs, hr, hrun, hended, hW, hsame⟩ := X41.leave (v := none) (fun _ => rfl)
  refine ⟨_, _, pre39 _ ?_, hrun, hended, _, _, rfl, ?_, ⟨_, rfl⟩, hW, hsame.mono (by decide) (by decide)⟩
  · show Steps p.tables e below (T38.setTop (mkF m 4 #[.val (.ref j), .val (.ref u), .val (.int ix), .val (.int vl)] [(.int op)])) _
    refine XS.ifYes X38.here hx rfl (pc0 := 4) (pc' := 115) rfl (hb hby own_d4_4) rfl ((if0 _ _).trans (flt (hop)).2.2.2) (by decide) (by decide) ?_
    show Steps p.tables e below (T38.setTop (mkF m 115 #[.val (.ref j), .val (.ref u), .val (.int ix), .val (.int vl)] [])) _
    refine XS.aloadN X38.here hx rfl (hb hby own_d4_115) rfl rfl ?_
    show Steps p.tables e below (T38.setTop (mkF m 116 #[.val (.ref j), .val (.ref u), .val (.int ix), .val (.int vl)] [(.ref u)])) _
    refine XS.iloadN X38.here hx rfl (hb hby own_d4_116) rfl ?_
    show Steps p.tables e below (T38.setTop (mkF m 117 #[.val (.ref j), .val (.ref u), .val (.int ix), .val (.int vl)] [(.int ix), (.ref u)])) _
    refine XS.iloadN X38.here hx rfl (hb hby own_d4_117) rfl ?_
    show Steps p.tables e below (T38.setTop (mkF m 118 #[.val (.ref j), .val (.ref u), .val (.int ix), .val (.int vl)] [(.int vl), (.int ix), (.ref u)])) _
    refine st41 _ ?_
    show Steps p.tables e below (T41.setTop (mkF m 119 #[.val (.ref j), .val (.ref u), .val (.int ix), .val (.int vl)] [])) _
    exact X41.returnOut hx Bd.returns (hb hby own_d4_119) hr
  · show JQ Z _ j A I V _ u kA _ _ _ _ _ _ _ _ n0 _ T41.heap _
    rw [e41]
    exact ⟨rfl, N41, f54, f42, f44, f45, f46, f47, f48, f49, f50, f51, f52, f53, V41, f43, Ov⟩
theorem own_d4_7 : decode prog_22_method_2_code 7 = .ok (.aload_n 0, 1) := by decide +kernel
theorem own_d4_8 : decode prog_22_method_2_code 8 = .ok (.getfield 28, 3) := by decide +kernel
theorem own_d4_11 : decode prog_22_method_2_code 11 = .ok (.aload_n 0, 1) := by decide +kernel
theorem own_d4_12 : decode prog_22_method_2_code 12 = .ok (.getfield 9, 3) := by decide +kernel
theorem own_d4_15 : decode prog_22_method_2_code 15 = .ok (.arraylength, 1) := by decide +kernel
theorem own_d4_16 : decode prog_22_method_2_code 16 = .ok (.if_icmp .ne 57, 3) := by decide +kernel
theorem own_d4_73 : decode prog_22_method_2_code 73 = .ok (.aload_n 0, 1) := by decide +kernel
theorem own_d4_74 : decode prog_22_method_2_code 74 = .ok (.getfield 9, 3) := by decide +kernel
theorem own_d4_77 : decode prog_22_method_2_code 77 = .ok (.aload_n 0, 1) := by decide +kernel
theorem own_d4_78 : decode prog_22_method_2_code 78 = .ok (.getfield 28, 3) := by decide +kernel
theorem own_d4_81 : decode prog_22_method_2_code 81 = .ok (.aload_n 1, 1) := by decide +kernel
theorem own_d4_82 : decode prog_22_method_2_code 82 = .ok (.aastore, 1) := by decide +kernel
theorem own_d4_83 : decode prog_22_method_2_code 83 = .ok (.aload_n 0, 1) := by decide +kernel
theorem own_d4_84 : decode prog_22_method_2_code 84 = .ok (.getfield 15, 3) := by decide +kernel
theorem own_d4_87 : decode prog_22_method_2_code 87 = .ok (.aload_n 0, 1) := by decide +kernel
theorem own_d4_88 : decode prog_22_method_2_code 88 = .ok (.getfield 28, 3) := by decide +kernel
theorem own_d4_91 : decode prog_22_method_2_code 91 = .ok (.iload_n 2, 1) := by decide +kernel
theorem own_d4_92 : decode prog_22_method_2_code 92 = .ok (.iastore, 1) := by decide +kernel
theorem own_d4_93 : decode prog_22_method_2_code 93 = .ok (.aload_n 0, 1) := by decide +kernel
theorem own_d4_94 : decode prog_22_method_2_code 94 = .ok (.getfield 18, 3) := by decide +kernel
theorem own_d4_97 : decode prog_22_method_2_code 97 = .ok (.aload_n 0, 1) := by decide +kernel
theorem own_d4_98 : decode prog_22_method_2_code 98 = .ok (.getfield 28, 3) := by decide +kernel
theorem own_d4_101 : decode prog_22_method_2_code 101 = .ok (.aload_n 1, 1) := by decide +kernel
theorem own_d4_102 : decode prog_22_method_2_code 102 = .ok (.iload_n 2, 1) := by decide +kernel
theorem own_d4_103 : decode prog_22_method_2_code 103 = .ok (.iaload, 1) := by decide +kernel
theorem own_d4_104 : decode prog_22_method_2_code 104 = .ok (.iastore, 1) := by decide +kernel
theorem own_d4_105 : decode prog_22_method_2_code 105 = .ok (.aload_n 0, 1) := by decide +kernel
theorem own_d4_106 : decode prog_22_method_2_code 106 = .ok (.dup, 1) := by decide +kernel
theorem own_d4_107 : decode prog_22_method_2_code 107 = .ok (.getfield 28, 3) := by decide +kernel
theorem own_d4_110 : decode prog_22_method_2_code 110 = .ok (.iconst 1, 1) := by decide +kernel
theorem own_d4_111 : decode prog_22_method_2_code 111 = .ok (.iadd, 1) := by decide +kernel
theorem own_d4_112 : decode prog_22_method_2_code 112 = .ok (.putfield 28, 3) := by decide +kernel
set_option maxRecDepth 65536 in
set_option maxHeartbeats 40000000 in
theorem rm_set1 (l : Launch) (Z : State) (a0 : Array Value) (hw : ∀ d ∈ tables_1, d.before a0 Z = true) (ws : List Jvm.Cond) (j A I V T u : Addr) (kA : ClassId) (ln op nT nU : Int32) (fi fv ft fu : Int32 → Int32) (lnE ix vl : Int32) (h0 : Heap) (n0 : Nat) (Z0 : n0 ≤ h0.size) (J : JS Z h0 j A I V T u kA ln op nT nU fi fv ft fu) (DJ_ : DJ j A I V T u) (GE_ : GE n0 j A I V T u) (hlE : lnE = ln + 1) (hop : 0 < op) (hi0 : ¬ ix < 0) (hiU : ix < nU) (hl0 : ¬ ln < 0) (hl64 : ln < 64) :
    MetFree l (⟨"com/example/envyless/envyless/Journal", "set", "([III)V"⟩ : MethodName) (head1 (Jvm.Cond.code (⟨"com/example/envyless/envyless/Journal", "set", "([III)V"⟩ : MethodName) prog_22_method_2_code 4 none :: ws) ({ frames := 0, cells := 0, slots := 0, locals := 0 } : Room)) (fun a U => a = #[(.ref j), (.ref u), (.int ix), (.int vl)] ∧ Z.Warmed39 U.vm ∧ U.heap = h0) (fun _ _ _ _ _ => True) (fun _ U o U' => ∃ v L, o = .returned v ∧ JQ Z none j A I V T u kA lnE op nT nU (up fi ln ix) (up fv ln (fu ix)) ft (up fu ix vl) n0 v U'.heap L ∧ FrameEnd U o U' L ({ frames := 0, cells := 0, slots := 0, locals := 0 } : Room).cells ({ frames := 0, cells := 0, slots := 0, locals := 0 } : Room).slots) := by
  refine MetFree.of_bodySF (plainFor_of_name (by first | (simp [plainName, overriddenIn]; done) | decide +kernel)) hisR ?_
  intro p e s m args below meth c s₁ Bd hml0 hP hK
  obtain ⟨rfl, hZ, hh⟩ := hP
  have hx := Bd.exec
  have hby := Bd.bytes
  have hml : c.maxLocals = 4 := hml0
  have hown : s.vm.findClass "com/example/envyless/envyless/Journal" = some m.cls := findClass_of_methodNamed Bd.named
  have hnm := (name_of_methodNamed Bd.named Bd.method).1
  have X0 : Stand p l e ({ frames := 0, cells := 0, slots := 0, locals := 0 } : Room) s m #[(.ref j), (.ref u), (.int ix), (.int vl)] below meth c s₁ [] 0 0 := Stand.of_body Bd
  have e0 : s₁.heap = h0 := by rw [← hh, Bd.state]; rfl
  have N0 := Fr.nil n0
  have ef0 : entryFrame m #[(.ref j), (.ref u), (.int ix), (.int vl)] 4 = mkF m 0 #[.val (.ref j), .val (.ref u), .val (.int ix), .val (.int vl)] [] := by first | (simp [entryFrame, mkF, argsToLocals, Value.category, maxLocals]; done) | rfl
  have pre0 : ∀ t, Steps p.tables e below (s₁.setTop (mkF m 0 #[.val (.ref j), .val (.ref u), .val (.int ix), .val (.int vl)] [])) t → Steps p.tables e below (s₁.setTop (entryFrame m #[(.ref j), (.ref u), (.int ix), (.int vl)] 4)) t := fun t k => castTop ef0 k
  obtain ⟨Ej, Fa, Fi, Fv, Fs, Fl, Fo, AAa, AIi, AIv, AIt, AIu, Eu, Ov⟩ := J
  obtain ⟨njA, njI, njV, njT, nju, nAI, nAV, nAT, nAu, nIV, nIT, nIu, nVT, nVu, nTu⟩ := DJ_
  obtain ⟨gej, geA, geI, geV, geT, geu⟩ := GE_
  subst hlE
  obtain ⟨T55, X55, e55, st55⟩ := getF X0 hx hZ hown (host := "") (Or.inl (hw _ (List.mem_of_getElem? (i := 25) rfl))) Via.refl e0 Fo (g := (mkF m 1 #[.val (.ref j), .val (.ref u), .val (.int ix), .val (.int vl)] [(.ref j)])) rfl rfl (hb hby own_d4_1)
  have pre56 : ∀ t, Steps p.tables e below (T55.setTop (mkF m 4 #[.val (.ref j), .val (.ref u), .val (.int ix), .val (.int vl)] [(.int op)])) t → Steps p.tables e below (s₁.setTop (entryFrame m #[(.ref j), (.ref u), (.int ix), (.int vl)] 4)) t := fun tt kk => pre0 tt (by
    show Steps p.tables e below (s₁.setTop (mkF m 0 #[.val (.ref j), .val (.ref u), .val (.int ix), .val (.int vl)] [])) _
    refine XS.aloadN X0.here hx rfl (hb hby own_d4_0) rfl rfl ?_
    show Steps p.tables e below (s₁.setTop (mkF m 1 #[.val (.ref j), .val (.ref u), .val (.int ix), .val (.int vl)] [(.ref j)])) _
    refine st55 _ ?_
    exact kk)
  obtain ⟨T57, X57, e57, st57⟩ := getF X55 hx hZ hown (host := "") (Or.inl (hw _ (List.mem_of_getElem? (i := 27) rfl))) Via.refl e55 Fl (g := (mkF m 8 #[.val (.ref j), .val (.ref u), .val (.int ix), .val (.int vl)] [(.ref j)])) rfl rfl (hb hby own_d4_8)
  obtain ⟨T58, X58, e58, st58⟩ := getF X57 hx hZ hown (host := "") (Or.inl (hw _ (List.mem_of_getElem? (i := 11) rfl))) Via.refl e57 Fa (g := (mkF m 12 #[.val (.ref j), .val (.ref u), .val (.int ix), .val (.int vl)] [(.ref j), (.int ln)])) rfl rfl (hb hby own_d4_12)
  obtain ⟨cl59, Ar59, -, S59, M59, H59⟩ := id AAa
  have pre60 : ∀ t, Steps p.tables e below (T58.setTop (mkF m 16 #[.val (.ref j), .val (.ref u), .val (.int ix), .val (.int vl)] [(.int (64 : Int32)), (.int ln)])) t → Steps p.tables e below (s₁.setTop (entryFrame m #[(.ref j), (.ref u), (.int ix), (.int vl)] 4)) t := fun tt kk => pre56 tt (by
    show Steps p.tables e below (T55.setTop (mkF m 4 #[.val (.ref j), .val (.ref u), .val (.int ix), .val (.int vl)] [(.int op)])) _
    refine XS.ifNo X55.here hx rfl (hb hby own_d4_4) rfl ((if0 _ _).trans (tlt (hop)).2.2.2) ?_
    show Steps p.tables e below (T55.setTop (mkF m 7 #[.val (.ref j), .val (.ref u), .val (.int ix), .val (.int vl)] [])) _
    refine XS.aloadN X55.here hx rfl (hb hby own_d4_7) rfl rfl ?_
    show Steps p.tables e below (T55.setTop (mkF m 8 #[.val (.ref j), .val (.ref u), .val (.int ix), .val (.int vl)] [(.ref j)])) _
    refine st57 _ ?_
    show Steps p.tables e below (T57.setTop (mkF m 11 #[.val (.ref j), .val (.ref u), .val (.int ix), .val (.int vl)] [(.int ln)])) _
    refine XS.aloadN X57.here hx rfl (hb hby own_d4_11) rfl rfl ?_
    show Steps p.tables e below (T57.setTop (mkF m 12 #[.val (.ref j), .val (.ref u), .val (.int ix), .val (.int vl)] [(.ref j), (.int ln)])) _
    refine st58 _ ?_
    show Steps p.tables e below (T58.setTop (mkF m 15 #[.val (.ref j), .val (.ref u), .val (.int ix), .val (.int vl)] [(.ref A), (.int ln)])) _
    refine X58.arraylength hx (by rw [e58]; exact Ar59.1) (State.isArrayOf_alike hZ.alike Ar59.2.1) (g := (mkF m 15 #[.val (.ref j), .val (.ref u), .val (.int ix), .val (.int vl)] [(.ref A), (.int ln)])) rfl rfl (hb hby own_d4_15) _ ?_
    rw [len_of S59 M59]
    exact kk)
  obtain ⟨T61, X61, e61, st61⟩ := getF X58 hx hZ hown (host := "") (Or.inl (hw _ (List.mem_of_getElem? (i := 11) rfl))) Via.refl e58 Fa (g := (mkF m 74 #[.val (.ref j), .val (.ref u), .val (.int ix), .val (.int vl)] [(.ref j)])) rfl rfl (hb hby own_d4_74)
  obtain ⟨T62, X62, e62, st62⟩ := getF X61 hx hZ hown (host := "") (Or.inl (hw _ (List.mem_of_getElem? (i := 27) rfl))) Via.refl e61 Fl (g := (mkF m 78 #[.val (.ref j), .val (.ref u), .val (.int ix), .val (.int vl)] [(.ref j), (.ref A)])) rfl rfl (hb hby own_d4_78)
  obtain ⟨cl63, Ar63, C63, S63, -, -⟩ := id AAa
  obtain ⟨T64, h64, X64, e64, W64, st64⟩ := stR X62 hx hZ e62 Ar63 (j := ln) (inb_of S63 ⟨hl0, hl64⟩) rfl (Sto.ofVA Ar63 C63 Ov (Ins.self Eu)) (g := (mkF m 82 #[.val (.ref j), .val (.ref u), .val (.int ix), .val (.int vl)] [(.ref u), (.int ln), (.ref A)])) rfl rfl (hb hby own_d4_82)
  have N64 := Fr.snoc X64 N0 geA
  have f65 : Exa Z h64 j "com/example/envyless/envyless/Journal" := Ej.wr W64
  have f66 : Exa Z h64 u "[I" := Eu.wr W64
  have f67 : Fld Z h64 j "com/example/envyless/envyless/Journal" "arrays" "[[I" (.ref A) := Fa.other W64 (Or.inl njA)
  have f68 : Fld Z h64 j "com/example/envyless/envyless/Journal" "indexes" "[I" (.ref I) := Fi.other W64 (Or.inl njA)
  have f69 : Fld Z h64 j "com/example/envyless/envyless/Journal" "values" "[I" (.ref V) := Fv.other W64 (Or.inl njA)
  have f70 : Fld Z h64 j "com/example/envyless/envyless/Journal" "starts" "[I" (.ref T) := Fs.other W64 (Or.inl njA)
  have f71 : Fld Z h64 j "com/example/envyless/envyless/Journal" "length" "I" (.int ln) := Fl.other W64 (Or.inl njA)
  have f72 : Fld Z h64 j "com/example/envyless/envyless/Journal" "open" "I" (.int op) := Fo.other W64 (Or.inl njA)
  have f73 : AI Z h64 I (64 : Int32) fi := AIi.other W64 (Ne.symm nAI)
  have f74 : AI Z h64 V (64 : Int32) fv := AIv.other W64 (Ne.symm nAV)
  have f75 : AI Z h64 T nT ft := AIt.other W64 (Ne.symm nAT)
  have f76 : AI Z h64 u nU fu := AIu.other W64 (Ne.symm nAu)
  have f77 : n0 ≤ h64.size := Nat.le_trans Z0 (Keep.of_wr W64).1
  have V64 : AA Z h64 A kA 64 (ln + (1 : Int32)) u := AAa.push W64 hl0 hl64 (own_step rfl hl0 hl64)
  obtain ⟨T78, X78, e78, st78⟩ := getF X64 hx hZ hown (host := "") (Or.inl (hw _ (List.mem_of_getElem? (i := 14) rfl))) Via.refl e64 f68 (g := (mkF m 84 #[.val (.ref j), .val (.ref u), .val (.int ix), .val (.int vl)] [(.ref j)])) rfl rfl (hb hby own_d4_84)
  obtain ⟨T79, X79, e79, st79⟩ := getF X78 hx hZ hown (host := "") (Or.inl (hw _ (List.mem_of_getElem? (i := 27) rfl))) Via.refl e78 f71 (g := (mkF m 88 #[.val (.ref j), .val (.ref u), .val (.int ix), .val (.int vl)] [(.ref j), (.ref I)])) rfl rfl (hb hby own_d4_88)
  obtain ⟨cl80, Ar80, S80, -, -⟩ := id f73
  obtain ⟨T81, h81, X81, e81, W81, st81⟩ := stI X79 hx hZ e79 Ar80 (j := ln) (inb_of S80 ⟨hl0, hl64⟩) (g := (mkF m 92 #[.val (.ref j), .val (.ref u), .val (.int ix), .val (.int vl)] [(.int ix), (.int ln), (.ref I)])) rfl rfl (hb hby own_d4_92)
  have N81 := Fr.snoc X81 N64 geI
  have f82 : Exa Z h81 j "com/example/envyless/envyless/Journal" := f65.wr W81
  have f83 : Exa Z h81 u "[I" := f66.wr W81
  have f84 : Fld Z h81 j "com/example/envyless/envyless/Journal" "arrays" "[[I" (.ref A) := f67.other W81 (Or.inl njI)
  have f85 : Fld Z h81 j "com/example/envyless/envyless/Journal" "indexes" "[I" (.ref I) := f68.other W81 (Or.inl njI)
  have f86 : Fld Z h81 j "com/example/envyless/envyless/Journal" "values" "[I" (.ref V) := f69.other W81 (Or.inl njI)
  have f87 : Fld Z h81 j "com/example/envyless/envyless/Journal" "starts" "[I" (.ref T) := f70.other W81 (Or.inl njI)
  have f88 : Fld Z h81 j "com/example/envyless/envyless/Journal" "length" "I" (.int ln) := f71.other W81 (Or.inl njI)
  have f89 : Fld Z h81 j "com/example/envyless/envyless/Journal" "open" "I" (.int op) := f72.other W81 (Or.inl njI)
  have f90 : AI Z h81 V (64 : Int32) fv := f74.other W81 (Ne.symm nIV)
  have f91 : AI Z h81 T nT ft := f75.other W81 (Ne.symm nIT)
  have f92 : AI Z h81 u nU fu := f76.other W81 (Ne.symm nIu)
  have f93 : n0 ≤ h81.size := Nat.le_trans f77 (Keep.of_wr W81).1
  have f94 : AA Z h81 A kA 64 (ln + (1 : Int32)) u := V64.other W81 nAI
  have V81 : AI Z h81 I (64 : Int32) (up fi ln ix) := f73.set W81 hl0 hl64
  obtain ⟨T95, X95, e95, st95⟩ := getF X81 hx hZ hown (host := "") (Or.inl (hw _ (List.mem_of_getElem? (i := 16) rfl))) Via.refl e81 f86 (g := (mkF m 94 #[.val (.ref j), .val (.ref u), .val (.int ix), .val (.int vl)] [(.ref j)])) rfl rfl (hb hby own_d4_94)
  obtain ⟨T96, X96, e96, st96⟩ := getF X95 hx hZ hown (host := "") (Or.inl (hw _ (List.mem_of_getElem? (i := 27) rfl))) Via.refl e95 f88 (g := (mkF m 98 #[.val (.ref j), .val (.ref u), .val (.int ix), .val (.int vl)] [(.ref j), (.ref V)])) rfl rfl (hb hby own_d4_98)
  obtain ⟨cl97, Ar97, S97, M97, H97⟩ := id f92
  obtain ⟨cl98, Ar98, S98, -, -⟩ := id f90
  obtain ⟨T99, h99, X99, e99, W99, st99⟩ := stI X96 hx hZ e96 Ar98 (j := ln) (inb_of S98 ⟨hl0, hl64⟩) (g := (mkF m 104 #[.val (.ref j), .val (.ref u), .val (.int ix), .val (.int vl)] [(.int (fu ix)), (.int ln), (.ref V)])) rfl rfl (hb hby own_d4_104)
  have N99 := Fr.snoc X99 N81 geV
  have f100 : Exa Z h99 j "com/example/envyless/envyless/Journal" := f82.wr W99
  have f101 : Exa Z h99 u "[I" := f83.wr W99
  have f102 : Fld Z h99 j "com/example/envyless/envyless/Journal" "arrays" "[[I" (.ref A) := f84.other W99 (Or.inl njV)
  have f103 : Fld Z h99 j "com/example/envyless/envyless/Journal" "indexes" "[I" (.ref I) := f85.other W99 (Or.inl njV)
  have f104 : Fld Z h99 j "com/example/envyless/envyless/Journal" "values" "[I" (.ref V) := f86.other W99 (Or.inl njV)
  have f105 : Fld Z h99 j "com/example/envyless/envyless/Journal" "starts" "[I" (.ref T) := f87.other W99 (Or.inl njV)
  have f106 : Fld Z h99 j "com/example/envyless/envyless/Journal" "length" "I" (.int ln) := f88.other W99 (Or.inl njV)
  have f107 : Fld Z h99 j "com/example/envyless/envyless/Journal" "open" "I" (.int op) := f89.other W99 (Or.inl njV)
  have f108 : AI Z h99 T nT ft := f91.other W99 (Ne.symm nVT)
  have f109 : AI Z h99 u nU fu := f92.other W99 (Ne.symm nVu)
  have f110 : n0 ≤ h99.size := Nat.le_trans f93 (Keep.of_wr W99).1
  have f111 : AA Z h99 A kA 64 (ln + (1 : Int32)) u := f94.other W99 nAV
  have f112 : AI Z h99 I (64 : Int32) (up fi ln ix) := V81.other W99 nIV
  have V99 : AI Z h99 V (64 : Int32) (up fv ln (fu ix)) := f90.set W99 hl0 hl64
  obtain ⟨T113, X113, e113, st113⟩ := getF X99 hx hZ hown (host := "") (Or.inl (hw _ (List.mem_of_getElem? (i := 27) rfl))) Via.refl e99 f106 (g := (mkF m 107 #[.val (.ref j), .val (.ref u), .val (.int ix), .val (.int vl)] [(.ref j), (.ref j)])) rfl rfl (hb hby own_d4_107)
  obtain ⟨T114, h114, X114, e114, W114, st114⟩ := putF X113 hx hZ hown (host := "") (Or.inl (hw _ (List.mem_of_getElem? (i := 27) rfl))) Via.refl e113 f106 f100 (Or.inl (hw _ (List.mem_of_getElem? (i := 28) rfl))) (hw _ (List.mem_of_getElem? (i := 1) rfl)) (ty := .int) (by decide) rfl rfl (g := (mkF m 112 #[.val (.ref j), .val (.ref u), .val (.int ix), .val (.int vl)] [(.int (ln + (1 : Int32))), (.ref j)])) rfl rfl (hb hby own_d4_112)
  have N114 := Fr.snoc X114 N99 gej
  have f115 : Exa Z h114 j "com/example/envyless/envyless/Journal" := f100.wr W114
  have f116 : Exa Z h114 u "[I" := f101.wr W114
  have f117 : Fld Z h114 j "com/example/envyless/envyless/Journal" "arrays" "[[I" (.ref A) := f102.other W114 (Or.inr (slot_ne (Or.inl (hw _ (List.mem_of_getElem? (i := 12) rfl))) (Or.inl (hw _ (List.mem_of_getElem? (i := 28) rfl))) (by decide) (t := (.array (.array .int))) (t' := .int) (by decide) (by decide)))
  have f118 : Fld Z h114 j "com/example/envyless/envyless/Journal" "indexes" "[I" (.ref I) := f103.other W114 (Or.inr (slot_ne (Or.inl (hw _ (List.mem_of_getElem? (i := 15) rfl))) (Or.inl (hw _ (List.mem_of_getElem? (i := 28) rfl))) (by decide) (t := (.array .int)) (t' := .int) (by decide) (by decide)))
  have f119 : Fld Z h114 j "com/example/envyless/envyless/Journal" "values" "[I" (.ref V) := f104.other W114 (Or.inr (slot_ne (Or.inl (hw _ (List.mem_of_getElem? (i := 17) rfl))) (Or.inl (hw _ (List.mem_of_getElem? (i := 28) rfl))) (by decide) (t := (.array .int)) (t' := .int) (by decide) (by decide)))
  have f120 : Fld Z h114 j "com/example/envyless/envyless/Journal" "starts" "[I" (.ref T) := f105.other W114 (Or.inr (slot_ne (Or.inl (hw _ (List.mem_of_getElem? (i := 19) rfl))) (Or.inl (hw _ (List.mem_of_getElem? (i := 28) rfl))) (by decide) (t := (.array .int)) (t' := .int) (by decide) (by decide)))
  have f121 : Fld Z h114 j "com/example/envyless/envyless/Journal" "length" "I" (.int (ln + (1 : Int32))) := f106.same W114
  have f122 : Fld Z h114 j "com/example/envyless/envyless/Journal" "open" "I" (.int op) := f107.other W114 (Or.inr (slot_ne (Or.inl (hw _ (List.mem_of_getElem? (i := 26) rfl))) (Or.inl (hw _ (List.mem_of_getElem? (i := 28) rfl))) (by decide) (t := .int) (t' := .int) (by decide) (by decide)))
  have f123 : AI Z h114 T nT ft := f108.other W114 (Ne.symm njT)
  have f124 : AI Z h114 u nU fu := f109.other W114 (Ne.symm nju)
  have f125 : n0 ≤ h114.size := Nat.le_trans f110 (Keep.of_wr W114).1
  have f126 : AA Z h114 A kA 64 (ln + (1 : Int32)) u := f111.other W114 (Ne.symm njA)
  have f127 : AI Z h114 I (64 : Int32) (up fi ln ix) := f112.other W114 (Ne.symm njI)
  have f128 : AI Z h114 V (64 : Int32) (up fv ln (fu ix)) := V99.other W114 (Ne.symm njV)
  obtain ⟨cl129, Ar129, S129, -, -⟩ := id f124
  obtain ⟨T130, h130, X130, e130, W130, st130⟩ := stI X114 hx hZ e114 Ar129 (j := ix) (inb_of S129 ⟨hi0, hiU⟩) (g := (mkF m 118 #[.val (.ref j), .val (.ref u), .val (.int ix), .val (.int vl)] [(.int vl), (.int ix), (.ref u)])) rfl rfl (hb hby own_d4_118)
  have N130 := Fr.snoc X130 N114 geu
  have f131 : Exa Z h130 j "com/example/envyless/envyless/Journal" := f115.wr W130
  have f132 : Exa Z h130 u "[I" := f116.wr W130
  have f133 : Fld Z h130 j "com/example/envyless/envyless/Journal" "arrays" "[[I" (.ref A) := f117.other W130 (Or.inl nju)
  have f134 : Fld Z h130 j "com/example/envyless/envyless/Journal" "indexes" "[I" (.ref I) := f118.other W130 (Or.inl nju)
  have f135 : Fld Z h130 j "com/example/envyless/envyless/Journal" "values" "[I" (.ref V) := f119.other W130 (Or.inl nju)
  have f136 : Fld Z h130 j "com/example/envyless/envyless/Journal" "starts" "[I" (.ref T) := f120.other W130 (Or.inl nju)
  have f137 : Fld Z h130 j "com/example/envyless/envyless/Journal" "length" "I" (.int (ln + (1 : Int32))) := f121.other W130 (Or.inl nju)
  have f138 : Fld Z h130 j "com/example/envyless/envyless/Journal" "open" "I" (.int op) := f122.other W130 (Or.inl nju)
  have f139 : AI Z h130 T nT ft := f123.other W130 nTu
  have f140 : n0 ≤ h130.size := Nat.le_trans f125 (Keep.of_wr W130).1
  have f141 : AA Z h130 A kA 64 (ln + (1 : Int32)) u := f126.other W130 nAu
  have f142 : AI Z h130 I (64 : Int32) (up fi ln ix) := f127.other W130 nIu
  have f143 : AI Z h130 V (64 : Int32) (up fv ln (fu ix)) := f128.other W130 nVu
  have V130 : AI Z h130 u nU (up fu ix vl) := f124.set W130 hi0 hiU
  have pre144 : ∀ t, Steps p.tables e below (T130.setTop (mkF m 119 #[.val (.ref j), .val (.ref u), .val (.int ix), .val (.int vl)] [])) t → Steps p.tables e below (s₁.setTop (entryFrame m #[(.ref j), (.ref u), (.int ix), (.int vl)] 4)) t := fun tt kk => pre60 tt (by
    show Steps p.tables e below (T58.setTop (mkF m 16 #[.val (.ref j), .val (.ref u), .val (.int ix), .val (.int vl)] [(.int (64 : Int32)), (.int ln)])) _
    refine XS.icmpYes X58.here hx rfl (pc0 := 16) (pc' := 73) rfl (hb hby own_d4_16) rfl (feq (own_ne_of_lt hl64)).2 (by decide) (by decide) ?_
    show Steps p.tables e below (T58.setTop (mkF m 73 #[.val (.ref j), .val (.ref u), .val (.int ix), .val (.int vl)] [])) _
    refine XS.aloadN X58.here hx rfl (hb hby own_d4_73) rfl rfl ?_
    show Steps p.tables e below (T58.setTop (mkF m 74 #[.val (.ref j), .val (.ref u), .val (.int ix), .val (.int vl)] [(.ref j)])) _
    refine st61 _ ?_
    show Steps p.tables e below (T61.setTop (mkF m 77 #[.val (.ref j), .val (.ref u), .val (.int ix), .val (.int vl)] [(.ref A)])) _
    refine XS.aloadN X61.here hx rfl (hb hby own_d4_77) rfl rfl ?_
    show Steps p.tables e below (T61.setTop (mkF m 78 #[.val (.ref j), .val (.ref u), .val (.int ix), .val (.int vl)] [(.ref j), (.ref A)])) _
    refine st62 _ ?_
    show Steps p.tables e below (T62.setTop (mkF m 81 #[.val (.ref j), .val (.ref u), .val (.int ix), .val (.int vl)] [(.int ln), (.ref A)])) _
    refine XS.aloadN X62.here hx rfl (hb hby own_d4_81) rfl rfl ?_
    show Steps p.tables e below (T62.setTop (mkF m 82 #[.val (.ref j), .val (.ref u), .val (.int ix), .val (.int vl)] [(.ref u), (.int ln), (.ref A)])) _
    refine st64 _ ?_
    show Steps p.tables e below (T64.setTop (mkF m 83 #[.val (.ref j), .val (.ref u), .val (.int ix), .val (.int vl)] [])) _
    refine XS.aloadN X64.here hx rfl (hb hby own_d4_83) rfl rfl ?_
    show Steps p.tables e below (T64.setTop (mkF m 84 #[.val (.ref j), .val (.ref u), .val (.int ix), .val (.int vl)] [(.ref j)])) _
    refine st78 _ ?_
    show Steps p.tables e below (T78.setTop (mkF m 87 #[.val (.ref j), .val (.ref u), .val (.int ix), .val (.int vl)] [(.ref I)])) _
    refine XS.aloadN X78.here hx rfl (hb hby own_d4_87) rfl rfl ?_
    show Steps p.tables e below (T78.setTop (mkF m 88 #[.val (.ref j), .val (.ref u), .val (.int ix), .val (.int vl)] [(.ref j), (.ref I)])) _
    refine st79 _ ?_
    show Steps p.tables e below (T79.setTop (mkF m 91 #[.val (.ref j), .val (.ref u), .val (.int ix), .val (.int vl)] [(.int ln), (.ref I)])) _
    refine XS.iloadN X79.here hx rfl (hb hby own_d4_91) rfl ?_
    show Steps p.tables e below (T79.setTop (mkF m 92 #[.val (.ref j), .val (.ref u), .val (.int ix), .val (.int vl)] [(.int ix), (.int ln), (.ref I)])) _
    refine st81 _ ?_
    show Steps p.tables e below (T81.setTop (mkF m 93 #[.val (.ref j), .val (.ref u), .val (.int ix), .val (.int vl)] [])) _
    refine XS.aloadN X81.here hx rfl (hb hby own_d4_93) rfl rfl ?_
    show Steps p.tables e below (T81.setTop (mkF m 94 #[.val (.ref j), .val (.ref u), .val (.int ix), .val (.int vl)] [(.ref j)])) _
    refine st95 _ ?_
    show Steps p.tables e below (T95.setTop (mkF m 97 #[.val (.ref j), .val (.ref u), .val (.int ix), .val (.int vl)] [(.ref V)])) _
    refine XS.aloadN X95.here hx rfl (hb hby own_d4_97) rfl rfl ?_
    show Steps p.tables e below (T95.setTop (mkF m 98 #[.val (.ref j), .val (.ref u), .val (.int ix), .val (.int vl)] [(.ref j), (.ref V)])) _
    refine st96 _ ?_
    show Steps p.tables e below (T96.setTop (mkF m 101 #[.val (.ref j), .val (.ref u), .val (.int ix), .val (.int vl)] [(.int ln), (.ref V)])) _
    refine XS.aloadN X96.here hx rfl (hb hby own_d4_101) rfl rfl ?_
    show Steps p.tables e below (T96.setTop (mkF m 102 #[.val (.ref j), .val (.ref u), .val (.int ix), .val (.int vl)] [(.ref u), (.int ln), (.ref V)])) _
    refine XS.iloadN X96.here hx rfl (hb hby own_d4_102) rfl ?_
    show Steps p.tables e below (T96.setTop (mkF m 103 #[.val (.ref j), .val (.ref u), .val (.int ix), .val (.int vl)] [(.int ix), (.ref u), (.int ln), (.ref V)])) _
    refine X96.iaload hx (j := ix) (v := (.int (fu ix))) (by rw [e96]; exact Ar97.1) (State.isArrayOf_alike hZ.alike Ar97.2.1) Ar97.2.2 (inb_of S97 ⟨hi0, hiU⟩) (H97 _ hi0 hiU) (g := (mkF m 103 #[.val (.ref j), .val (.ref u), .val (.int ix), .val (.int vl)] [(.int ix), (.ref u), (.int ln), (.ref V)])) rfl rfl (hb hby own_d4_103) _ ?_
    show Steps p.tables e below (T96.setTop (mkF m 104 #[.val (.ref j), .val (.ref u), .val (.int ix), .val (.int vl)] [(.int (fu ix)), (.int ln), (.ref V)])) _
    refine st99 _ ?_
    show Steps p.tables e below (T99.setTop (mkF m 105 #[.val (.ref j), .val (.ref u), .val (.int ix), .val (.int vl)] [])) _
    refine XS.aloadN X99.here hx rfl (hb hby own_d4_105) rfl rfl ?_
    show Steps p.tables e below (T99.setTop (mkF m 106 #[.val (.ref j), .val (.ref u), .val (.int ix), .val (.int vl)] [(.ref j)])) _
    refine XS.dup X99.here hx rfl (hb hby own_d4_106) rfl rfl ?_
    show Steps p.tables e below (T99.setTop (mkF m 107 #[.val (.ref j), .val (.ref u), .val (.int ix), .val (.int vl)] [(.ref j), (.ref j)])) _
    refine st113 _ ?_
    show Steps p.tables e below (T113.setTop (mkF m 110 #[.val (.ref j), .val (.ref u), .val (.int ix), .val (.int vl)] [(.int ln), (.ref j)])) _
    refine XS.iconst X113.here hx rfl (hb hby own_d4_110) ?_
    show Steps p.tables e below (T113.setTop (mkF m 111 #[.val (.ref j), .val (.ref u), .val (.int ix), .val (.int vl)] [(.int (1 : Int32)), (.int ln), (.ref j)])) _
    refine XS.iadd X113.here hx rfl (hb hby own_d4_111) rfl ?_
    show Steps p.tables e below (T113.setTop (mkF m 112 #[.val (.ref j), .val (.ref u), .val (.int ix), .val (.int vl)] [(.int (ln + (1 : Int32))), (.ref j)])) _
    refine st114 _ ?_
    show Steps p.tables e below (T114.setTop (mkF m 115 #[.val (.ref j), .val (.ref u), .val (.int ix), .val (.int vl)] [])) _
    refine XS.aloadN X114.here hx rfl (hb hby own_d4_115) rfl rfl ?_
    show Steps p.tables e below (T114.setTop (mkF m 116 #[.val (.ref j), .val (.ref u), .val (.int ix), .val (.int vl)] [(.ref u)])) _
    refine XS.iloadN X114.here hx rfl (hb hby own_d4_116) rfl ?_
    show Steps p.tables e below (T114.setTop (mkF m 117 #[.val (.ref j), .val (.ref u), .val (.int ix), .val (.int vl)] [(.int ix), (.ref u)])) _
    refine XS.iloadN X114.here hx rfl (hb hby own_d4_117) rfl ?_
    show Steps p.tables e below (T114.setTop (mkF m 118 #[.val (.ref j), .val (.ref u), .val (.int ix), .val (.int vl)] [(.int vl), (.int ix), (.ref u)])) _
    refine st130 _ ?_
    exact kk)
  obtain ⟨fs, hr, hrun, hended, hW, hsame⟩ := X130.leave (v := none) (fun _ => rfl)
  refine ⟨_, _, pre144 _ ?_, hrun, hended, _, _, rfl, ?_, ⟨_, rfl⟩, hW, hsame.mono (by decide) (by decide)⟩
  · show Steps p.tables e below (T130.setTop (mkF m 119 #[.val (.ref j), .val (.ref u), .val (.int ix), .val (.int vl)] [])) _
    exact X130.returnOut hx Bd.returns (hb hby own_d4_119) hr
  · show JQ Z _ j A I V _ u kA _ _ _ _ _ _ _ _ n0 _ T130.heap _
    rw [e130]
    exact ⟨rfl, N130, f140, f131, f133, f134, f135, f136, f137, f138, f141, f142, f143, f139, V130, f132, Ov⟩
theorem own_d8_0 : decode prog_22_method_6_code 0 = .ok (.aload_n 0, 1) := by decide +kernel
theorem own_d8_1 : decode prog_22_method_6_code 1 = .ok (.getfield 24, 3) := by decide +kernel
theorem own_d8_4 : decode prog_22_method_6_code 4 = .ok (.ifCond .ne 13, 3) := by decide +kernel
theorem own_d8_17 : decode prog_22_method_6_code 17 = .ok (.aload_n 0, 1) := by decide +kernel
theorem own_d8_18 : decode prog_22_method_6_code 18 = .ok (.getfield 21, 3) := by decide +kernel
theorem own_d8_21 : decode prog_22_method_6_code 21 = .ok (.aload_n 0, 1) := by decide +kernel
theorem own_d8_22 : decode prog_22_method_6_code 22 = .ok (.dup, 1) := by decide +kernel
theorem own_d8_23 : decode prog_22_method_6_code 23 = .ok (.getfield 24, 3) := by decide +kernel
theorem own_d8_26 : decode prog_22_method_6_code 26 = .ok (.iconst 1, 1) := by decide +kernel
theorem own_d8_27 : decode prog_22_method_6_code 27 = .ok (.isub, 1) := by decide +kernel
theorem own_d8_28 : decode prog_22_method_6_code 28 = .ok (.dup_x1, 1) := by decide +kernel
theorem own_d8_29 : decode prog_22_method_6_code 29 = .ok (.putfield 24, 3) := by decide +kernel
theorem own_d8_32 : decode prog_22_method_6_code 32 = .ok (.iaload, 1) := by decide +kernel
theorem own_d8_33 : decode prog_22_method_6_code 33 = .ok (.ireturn, 1) := by decide +kernel
set_option maxRecDepth 65536 in
set_option maxHeartbeats 40000000 in
theorem rm_close (l : Launch) (Z : State) (a0 : Array Value) (hw : ∀ d ∈ tables_1, d.before a0 Z = true) (ws : List Jvm.Cond) (j A I V T u : Addr) (kA : ClassId) (ln op nT nU : Int32) (fi fv ft fu : Int32 → Int32) (opE sv : Int32) (h0 : Heap) (n0 : Nat) (Z0 : n0 ≤ h0.size) (J : JS Z h0 j A I V T u kA ln op nT nU fi fv ft fu) (DJ_ : DJ j A I V T u) (GE_ : GE n0 j A I V T u) (hoE : opE = op - 1) (hne : ¬ op = 0) (ho0 : ¬ opE < 0) (hoT : opE < nT) (hs : ft opE = sv) :
    MetFree l (⟨"com/example/envyless/envyless/Journal", "close", "()I"⟩ : MethodName) (head1 (Jvm.Cond.code (⟨"com/example/envyless/envyless/Journal", "close", "()I"⟩ : MethodName) prog_22_method_6_code 1 (some .int) :: ws) ({ frames := 0, cells := 0, slots := 0, locals := 0 } : Room)) (fun a U => a = #[(.ref j)] ∧ Z.Warmed39 U.vm ∧ U.heap = h0) (fun _ _ _ _ _ => True) (fun _ U o U' => ∃ v L, o = .returned v ∧ JQ Z (some (.int sv)) j A I V T u kA ln opE nT nU fi fv ft fu n0 v U'.heap L ∧ FrameEnd U o U' L ({ frames := 0, cells := 0, slots := 0, locals := 0 } : Room).cells ({ frames := 0, cells := 0, slots := 0, locals := 0 } : Room).slots) := by
  refine MetFree.of_bodySF (plainFor_of_name (by first | (simp [plainName, overriddenIn]; done) | decide +kernel)) hisR ?_
  intro p e s m args below meth c s₁ Bd hml0 hP hK
  obtain ⟨rfl, hZ, hh⟩ := hP
  have hx := Bd.exec
  have hby := Bd.bytes
  have hml : c.maxLocals = 1 := hml0
  have hown : s.vm.findClass "com/example/envyless/envyless/Journal" = some m.cls := findClass_of_methodNamed Bd.named
  have hnm := (name_of_methodNamed Bd.named Bd.method).1
  have X0 : Stand p l e ({ frames := 0, cells := 0, slots := 0, locals := 0 } : Room) s m #[(.ref j)] below meth c s₁ [] 0 0 := Stand.of_body Bd
  have e0 : s₁.heap = h0 := by rw [← hh, Bd.state]; rfl
  have N0 := Fr.nil n0
  have ef0 : entryFrame m #[(.ref j)] 1 = mkF m 0 #[.val (.ref j)] [] := by first | (simp [entryFrame, mkF, argsToLocals, Value.category, maxLocals]; done) | rfl
  have pre0 : ∀ t, Steps p.tables e below (s₁.setTop (mkF m 0 #[.val (.ref j)] [])) t → Steps p.tables e below (s₁.setTop (entryFrame m #[(.ref j)] 1)) t := fun t k => castTop ef0 k
  obtain ⟨Ej, Fa, Fi, Fv, Fs, Fl, Fo, AAa, AIi, AIv, AIt, AIu, Eu, Ov⟩ := J
  obtain ⟨njA, njI, njV, njT, nju, nAI, nAV, nAT, nAu, nIV, nIT, nIu, nVT, nVu, nTu⟩ := DJ_
  obtain ⟨gej, geA, geI, geV, geT, geu⟩ := GE_
  subst hoE
  obtain ⟨T145, X145, e145, st145⟩ := getF X0 hx hZ hown (host := "") (Or.inl (hw _ (List.mem_of_getElem? (i := 25) rfl))) Via.refl e0 Fo (g := (mkF m 1 #[.val (.ref j)] [(.ref j)])) rfl rfl (hb hby own_d8_1)
  have pre146 : ∀ t, Steps p.tables e below (T145.setTop (mkF m 4 #[.val (.ref j)] [(.int op)])) t → Steps p.tables e below (s₁.setTop (entryFrame m #[(.ref j)] 1)) t := fun tt kk => pre0 tt (by
    show Steps p.tables e below (s₁.setTop (mkF m 0 #[.val (.ref j)] [])) _
    refine XS.aloadN X0.here hx rfl (hb hby own_d8_0) rfl rfl ?_
    show Steps p.tables e below (s₁.setTop (mkF m 1 #[.val (.ref j)] [(.ref j)])) _
    refine st145 _ ?_
    exact kk)
  obtain ⟨T147, X147, e147, st147⟩ := getF X145 hx hZ hown (host := "") (Or.inl (hw _ (List.mem_of_getElem? (i := 18) rfl))) Via.refl e145 Fs (g := (mkF m 18 #[.val (.ref j)] [(.ref j)])) rfl rfl (hb hby own_d8_18)
  obtain ⟨T148, X148, e148, st148⟩ := getF X147 hx hZ hown (host := "") (Or.inl (hw _ (List.mem_of_getElem? (i := 25) rfl))) Via.refl e147 Fo (g := (mkF m 23 #[.val (.ref j)] [(.ref j), (.ref j), (.ref T)])) rfl rfl (hb hby own_d8_23)
  obtain ⟨T149, h149, X149, e149, W149, st149⟩ := putF X148 hx hZ hown (host := "") (Or.inl (hw _ (List.mem_of_getElem? (i := 25) rfl))) Via.refl e148 Fo Ej (Or.inl (hw _ (List.mem_of_getElem? (i := 26) rfl))) (hw _ (List.mem_of_getElem? (i := 1) rfl)) (ty := .int) (by decide) rfl rfl (g := (mkF m 29 #[.val (.ref j)] [(.int (op - (1 : Int32))), (.ref j), (.int (op - (1 : Int32))), (.ref T)])) rfl rfl (hb hby own_d8_29)
  have N149 := Fr.snoc X149 N0 gej
  have f150 : Exa Z h149 j "com/example/envyless/envyless/Journal" := Ej.wr W149
  have f151 : Exa Z h149 u "[I" := Eu.wr W149
  have f152 : Fld Z h149 j "com/example/envyless/envyless/Journal" "arrays" "[[I" (.ref A) := Fa.other W149 (Or.inr (slot_ne (Or.inl (hw _ (List.mem_of_getElem? (i := 12) rfl))) (Or.inl (hw _ (List.mem_of_getElem? (i := 26) rfl))) (by decide) (t := (.array (.array .int))) (t' := .int) (by decide) (by decide)))
  have f153 : Fld Z h149 j "com/example/envyless/envyless/Journal" "indexes" "[I" (.ref I) := Fi.other W149 (Or.inr (slot_ne (Or.inl (hw _ (List.mem_of_getElem? (i := 15) rfl))) (Or.inl (hw _ (List.mem_of_getElem? (i := 26) rfl))) (by decide) (t := (.array .int)) (t' := .int) (by decide) (by decide)))
  have f154 : Fld Z h149 j "com/example/envyless/envyless/Journal" "values" "[I" (.ref V) := Fv.other W149 (Or.inr (slot_ne (Or.inl (hw _ (List.mem_of_getElem? (i := 17) rfl))) (Or.inl (hw _ (List.mem_of_getElem? (i := 26) rfl))) (by decide) (t := (.array .int)) (t' := .int) (by decide) (by decide)))
  have f155 : Fld Z h149 j "com/example/envyless/envyless/Journal" "starts" "[I" (.ref T) := Fs.other W149 (Or.inr (slot_ne (Or.inl (hw _ (List.mem_of_getElem? (i := 19) rfl))) (Or.inl (hw _ (List.mem_of_getElem? (i := 26) rfl))) (by decide) (t := (.array .int)) (t' := .int) (by decide) (by decide)))
  have f156 : Fld Z h149 j "com/example/envyless/envyless/Journal" "length" "I" (.int ln) := Fl.other W149 (Or.inr (slot_ne (Or.inl (hw _ (List.mem_of_getElem? (i := 28) rfl))) (Or.inl (hw _ (List.mem_of_getElem? (i := 26) rfl))) (by decide) (t := .int) (t' := .int) (by decide) (by decide)))
  have f157 : Fld Z h149 j "com/example/envyless/envyless/Journal" "open" "I" (.int (op - (1 : Int32))) := Fo.same W149
  have f158 : AA Z h149 A kA 64 ln u := AAa.other W149 (Ne.symm njA)
  have f159 : AI Z h149 I (64 : Int32) fi := AIi.other W149 (Ne.symm njI)
  have f160 : AI Z h149 V (64 : Int32) fv := AIv.other W149 (Ne.symm njV)
  have f161 : AI Z h149 T nT ft := AIt.other W149 (Ne.symm njT)
  have f162 : AI Z h149 u nU fu := AIu.other W149 (Ne.symm nju)
  have f163 : n0 ≤ h149.size := Nat.le_trans Z0 (Keep.of_wr W149).1
  obtain ⟨cl164, Ar164, S164, M164, H164⟩ := id f161
  obtain ⟨fs, hr, hrun, hended, hW, hsame⟩ := X149.leave (v := some (.int (ft (op - (1 : Int32))))) (fun h => by rw [Bd.returns] at h; cases h)
  refine ⟨_, _, pre146 _ ?_, hrun, hended, _, _, rfl, ?_, ⟨_, rfl⟩, hW, hsame.mono (by decide) (by decide)⟩
  · show Steps p.tables e below (T145.setTop (mkF m 4 #[.val (.ref j)] [(.int op)])) _
    refine XS.ifYes X145.here hx rfl (pc0 := 4) (pc' := 17) rfl (hb hby own_d8_4) rfl ((if0 _ _).trans (feq (hne)).2) (by decide) (by decide) ?_
    show Steps p.tables e below (T145.setTop (mkF m 17 #[.val (.ref j)] [])) _
    refine XS.aloadN X145.here hx rfl (hb hby own_d8_17) rfl rfl ?_
    show Steps p.tables e below (T145.setTop (mkF m 18 #[.val (.ref j)] [(.ref j)])) _
    refine st147 _ ?_
    show Steps p.tables e below (T147.setTop (mkF m 21 #[.val (.ref j)] [(.ref T)])) _
    refine XS.aloadN X147.here hx rfl (hb hby own_d8_21) rfl rfl ?_
    show Steps p.tables e below (T147.setTop (mkF m 22 #[.val (.ref j)] [(.ref j), (.ref T)])) _
    refine XS.dup X147.here hx rfl (hb hby own_d8_22) rfl rfl ?_
    show Steps p.tables e below (T147.setTop (mkF m 23 #[.val (.ref j)] [(.ref j), (.ref j), (.ref T)])) _
    refine st148 _ ?_
    show Steps p.tables e below (T148.setTop (mkF m 26 #[.val (.ref j)] [(.int op), (.ref j), (.ref T)])) _
    refine XS.iconst X148.here hx rfl (hb hby own_d8_26) ?_
    show Steps p.tables e below (T148.setTop (mkF m 27 #[.val (.ref j)] [(.int (1 : Int32)), (.int op), (.ref j), (.ref T)])) _
    refine XS.isub X148.here hx rfl (hb hby own_d8_27) rfl ?_
    show Steps p.tables e below (T148.setTop (mkF m 28 #[.val (.ref j)] [(.int (op - (1 : Int32))), (.ref j), (.ref T)])) _
    refine XS.dupX1 X148.here hx rfl (hb hby own_d8_28) rfl rfl rfl ?_
    show Steps p.tables e below (T148.setTop (mkF m 29 #[.val (.ref j)] [(.int (op - (1 : Int32))), (.ref j), (.int (op - (1 : Int32))), (.ref T)])) _
    refine st149 _ ?_
    show Steps p.tables e below (T149.setTop (mkF m 32 #[.val (.ref j)] [(.int (op - (1 : Int32))), (.ref T)])) _
    refine X149.iaload hx (j := (op - (1 : Int32))) (v := (.int (ft (op - (1 : Int32))))) (by rw [e149]; exact Ar164.1) (State.isArrayOf_alike hZ.alike Ar164.2.1) Ar164.2.2 (inb_of S164 ⟨ho0, hoT⟩) (H164 _ ho0 hoT) (g := (mkF m 32 #[.val (.ref j)] [(.int (op - (1 : Int32))), (.ref T)])) rfl rfl (hb hby own_d8_32) _ ?_
    show Steps p.tables e below (T149.setTop (mkF m 33 #[.val (.ref j)] [(.int (ft (op - (1 : Int32))))])) _
    exact retOut X149 hx Bd.returns rfl (Or.inl ⟨rfl, Or.inl rfl, _, rfl⟩) (hb hby own_d8_33) hr
  · show JQ Z _ j A I V _ u kA _ _ _ _ _ _ _ _ n0 _ T149.heap _
    rw [e149]
    exact ⟨by rw [hs], N149, f163, f150, f152, f153, f154, f155, f156, f157, f158, f159, f160, f161, f162, f151, Ov⟩
theorem own_d7_0 : decode prog_22_method_4_code 0 = .ok (.aload_n 0, 1) := by decide +kernel
theorem own_d7_1 : decode prog_22_method_4_code 1 = .ok (.invokevirtual 41, 3) := by decide +kernel
theorem own_d7_4 : decode prog_22_method_4_code 4 = .ok (.istore_n 1, 1) := by decide +kernel
theorem own_d7_5 : decode prog_22_method_4_code 5 = .ok (.aload_n 0, 1) := by decide +kernel
theorem own_d7_6 : decode prog_22_method_4_code 6 = .ok (.getfield 28, 3) := by decide +kernel
theorem own_d7_9 : decode prog_22_method_4_code 9 = .ok (.iload_n 1, 1) := by decide +kernel
theorem own_d7_10 : decode prog_22_method_4_code 10 = .ok (.if_icmp .le 44, 3) := by decide +kernel
theorem own_d7_13 : decode prog_22_method_4_code 13 = .ok (.aload_n 0, 1) := by decide +kernel
theorem own_d7_14 : decode prog_22_method_4_code 14 = .ok (.dup, 1) := by decide +kernel
theorem own_d7_15 : decode prog_22_method_4_code 15 = .ok (.getfield 28, 3) := by decide +kernel
theorem own_d7_18 : decode prog_22_method_4_code 18 = .ok (.iconst 1, 1) := by decide +kernel
theorem own_d7_19 : decode prog_22_method_4_code 19 = .ok (.isub, 1) := by decide +kernel
theorem own_d7_20 : decode prog_22_method_4_code 20 = .ok (.putfield 28, 3) := by decide +kernel
theorem own_d7_23 : decode prog_22_method_4_code 23 = .ok (.aload_n 0, 1) := by decide +kernel
theorem own_d7_24 : decode prog_22_method_4_code 24 = .ok (.getfield 9, 3) := by decide +kernel
theorem own_d7_27 : decode prog_22_method_4_code 27 = .ok (.aload_n 0, 1) := by decide +kernel
theorem own_d7_28 : decode prog_22_method_4_code 28 = .ok (.getfield 28, 3) := by decide +kernel
theorem own_d7_31 : decode prog_22_method_4_code 31 = .ok (.aaload, 1) := by decide +kernel
theorem own_d7_32 : decode prog_22_method_4_code 32 = .ok (.aload_n 0, 1) := by decide +kernel
theorem own_d7_33 : decode prog_22_method_4_code 33 = .ok (.getfield 15, 3) := by decide +kernel
theorem own_d7_36 : decode prog_22_method_4_code 36 = .ok (.aload_n 0, 1) := by decide +kernel
theorem own_d7_37 : decode prog_22_method_4_code 37 = .ok (.getfield 28, 3) := by decide +kernel
theorem own_d7_40 : decode prog_22_method_4_code 40 = .ok (.iaload, 1) := by decide +kernel
theorem own_d7_41 : decode prog_22_method_4_code 41 = .ok (.aload_n 0, 1) := by decide +kernel
theorem own_d7_42 : decode prog_22_method_4_code 42 = .ok (.getfield 18, 3) := by decide +kernel
theorem own_d7_45 : decode prog_22_method_4_code 45 = .ok (.aload_n 0, 1) := by decide +kernel
theorem own_d7_46 : decode prog_22_method_4_code 46 = .ok (.getfield 28, 3) := by decide +kernel
theorem own_d7_49 : decode prog_22_method_4_code 49 = .ok (.iaload, 1) := by decide +kernel
theorem own_d7_50 : decode prog_22_method_4_code 50 = .ok (.iastore, 1) := by decide +kernel
theorem own_d7_51 : decode prog_22_method_4_code 51 = .ok (.goto (-46), 3) := by decide +kernel
theorem own_d7_54 : decode prog_22_method_4_code 54 = .ok (.return_, 1) := by decide +kernel
set_option maxRecDepth 65536 in
set_option maxHeartbeats 40000000 in
theorem rm_undo1 (l : Launch) (Z : State) (a0 : Array Value) (hw : ∀ d ∈ tables_1, d.before a0 Z = true) (ws : List Jvm.Cond) (j A I V T u : Addr) (kA : ClassId) (ln op nT nU : Int32) (fi fv ft fu : Int32 → Int32) (opE sv lnE : Int32) (d0 v0 : Int32) (h0 : Heap) (n0 : Nat) (Z0 : n0 ≤ h0.size) (J : JS Z h0 j A I V T u kA ln op nT nU fi fv ft fu) (DJ_ : DJ j A I V T u) (GE_ : GE n0 j A I V T u) (hoE : opE = op - 1) (hne : ¬ op = 0) (ho0 : ¬ opE < 0) (hoT : opE < nT) (hs : ft opE = sv) (hlE : lnE = (ln - (1 : Int32))) (hle : ∀ i : Int32, i < lnE → i < ln) (hgo0 : sv < ln) (hb0 : ¬ (ln - (1 : Int32)) < 0) (hB0 : (ln - (1 : Int32)) < 64) (hm0 : (ln - (1 : Int32)) < ln) (hd0 : fi (ln - (1 : Int32)) = d0) (hv0 : fv (ln - (1 : Int32)) = v0) (hd0_0 : ¬ d0 < 0) (hdU_0 : d0 < nU) (hend : ¬ sv < (ln - (1 : Int32))) :
    MetFree l (⟨"com/example/envyless/envyless/Journal", "undo", "()V"⟩ : MethodName) (head1 (Jvm.Cond.code (⟨"com/example/envyless/envyless/Journal", "undo", "()V"⟩ : MethodName) prog_22_method_4_code 2 none :: ws) ({ frames := 1, cells := 0, slots := 0, locals := 12 } : Room)) (fun a U => a = #[(.ref j)] ∧ Z.Warmed39 U.vm ∧ U.heap = h0) (fun _ _ _ _ _ => True) (fun _ U o U' => ∃ v L, o = .returned v ∧ JQ Z none j A I V T u kA lnE opE nT nU fi fv ft (up fu d0 v0) n0 v U'.heap L ∧ FrameEnd U o U' L ({ frames := 1, cells := 0, slots := 0, locals := 12 } : Room).cells ({ frames := 1, cells := 0, slots := 0, locals := 12 } : Room).slots) := by
  refine MetFree.of_bodySF (plainFor_of_name (by first | (simp [plainName, overriddenIn]; done) | decide +kernel)) hisR ?_
  intro p e s m args below meth c s₁ Bd hml0 hP hK
  obtain ⟨rfl, hZ, hh⟩ := hP
  have hx := Bd.exec
  have hby := Bd.bytes
  have hml : c.maxLocals = 2 := hml0
  have hown : s.vm.findClass "com/example/envyless/envyless/Journal" = some m.cls := findClass_of_methodNamed Bd.named
  have hnm := (name_of_methodNamed Bd.named Bd.method).1
  have X0 : Stand p l e ({ frames := 1, cells := 0, slots := 0, locals := 12 } : Room) s m #[(.ref j)] below meth c s₁ [] 0 0 := Stand.of_body Bd
  have e0 : s₁.heap = h0 := by rw [← hh, Bd.state]; rfl
  have N0 := Fr.nil n0
  have ef0 : entryFrame m #[(.ref j)] 2 = mkF m 0 #[.val (.ref j), .unset] [] := by first | (simp [entryFrame, mkF, argsToLocals, Value.category, maxLocals]; done) | rfl
  have pre0 : ∀ t, Steps p.tables e below (s₁.setTop (mkF m 0 #[.val (.ref j), .unset] [])) t → Steps p.tables e below (s₁.setTop (entryFrame m #[(.ref j)] 2)) t := fun t k => castTop ef0 k
  obtain ⟨Ej, Fa, Fi, Fv, Fs, Fl, Fo, AAa, AIi, AIv, AIt, AIu, Eu, Ov⟩ := J
  obtain ⟨njA, njI, njV, njT, nju, nAI, nAV, nAT, nAu, nIV, nIT, nIu, nVT, nVu, nTu⟩ := DJ_
  obtain ⟨gej, geA, geI, geV, geT, geu⟩ := GE_
  subst hlE
  obtain ⟨cq165, q165, q165'⟩ := (Ej).cell
  obtain ⟨vv165, _, ⟨T165, L165, k165, n165⟩, -, X165, ⟨Lc165, hQ165, l165, y165, z165⟩, st165⟩ := X0.privateBack hx (y := (⟨"com/example/envyless/envyless/Journal", "close", "()I"⟩ : MethodName)) hown (mvT hZ (hw _ (List.mem_of_getElem? (i := 52) rfl))) (mvT hZ (hw _ (List.mem_of_getElem? (i := 53) rfl))) (own_selects (mvT hZ (hw _ (List.mem_of_getElem? (i := 53) rfl))) (Cond.privateMethod_at (mvP hZ (hw _ (List.mem_of_getElem? (i := 54) rfl)) (args := #[]))) (mvT hZ (hw _ (List.mem_of_getElem? (i := 23) rfl))) rfl (by decide)) (Cond.privateMethod_at (mvP hZ (hw _ (List.mem_of_getElem? (i := 54) rfl)) (args := #[]))) (mvT hZ (hw _ (List.mem_of_getElem? (i := 55) rfl))) (by decide) (backOf (W := 0) (rm_close l Z a0 hw [] j A I V T u kA ln op nT nU fi fv ft fu opE sv h0 n0 Z0 ⟨Ej, Fa, Fi, Fv, Fs, Fl, Fo, AAa, AIi, AIv, AIt, AIu, Eu, Ov⟩ ⟨njA, njI, njV, njT, nju, nAI, nAV, nAT, nAu, nIV, nIT, nIu, nVT, nVu, nTu⟩ ⟨gej, geA, geI, geV, geT, geu⟩ hoE hne ho0 hoT hs) hZ (hw _ (List.mem_of_getElem? (i := 55) rfl)) (hw _ (List.mem_of_getElem? (i := 2) rfl)) (by decide) (by decide)) (g := (mkF m 1 #[.val (.ref j), .unset] [(.ref j)])) rfl (by rw [hml]; rfl) (Steps.refl _) (a := j) (by rw [e0]; exact q165) q165' (argsL := []) (rest := []) (lenOf own_pd_0 rfl) rfl (by show 2 * 0 + _ ≤ _; exact Nat.le_of_eq rfl) (hb hby own_d7_1) (fun _ _ => ⟨rfl, e0, (by decide : 0 + 0 ≤ _), (by decide : 0 + 0 ≤ _)⟩)
  dsimp only [Pt.U, Pt.locs, Pt.cells, Pt.slots] at X165 l165 y165 z165 st165 hQ165
  subst l165 y165 z165
  obtain ⟨rfl, N165q, Z165, Ej165, Fa165, Fi165, Fv165, Fs165, Fl165, Fo165, AAa165, AIi165, AIv165, AIt165, AIu165, Eu165, -⟩ := hQ165
  have N165 := Fr.app N0 N165q
  obtain ⟨T166, X166, e166, st166⟩ := getF X165 hx hZ hown (host := "") (Or.inl (hw _ (List.mem_of_getElem? (i := 27) rfl))) Via.refl (rfl : T165.heap = T165.heap) Fl165 (g := (mkF m 6 #[.val (.ref j), .val (.int sv)] [(.ref j)])) rfl rfl (hb hby own_d7_6)
  have pre167 : ∀ t, Steps p.tables e below (T166.setTop (mkF m 10 #[.val (.ref j), .val (.int sv)] [(.int sv), (.int ln)])) t → Steps p.tables e below (s₁.setTop (entryFrame m #[(.ref j)] 2)) t := fun tt kk => pre0 tt (by
    show Steps p.tables e below (s₁.setTop (mkF m 0 #[.val (.ref j), .unset] [])) _
    refine XS.aloadN X0.here hx rfl (hb hby own_d7_0) rfl rfl ?_
    show Steps p.tables e below (s₁.setTop (mkF m 1 #[.val (.ref j), .unset] [(.ref j)])) _
    refine st165.trans ?_
    show Steps p.tables e below (T165.setTop (mkF m 4 #[.val (.ref j), .unset] [(.int sv)])) _
    refine XS.istoreN X165.here hx rfl (hb hby own_d7_4) rfl (l' := #[.val (.ref j), .val (.int sv)]) rfl ?_
    show Steps p.tables e below (T165.setTop (mkF m 5 #[.val (.ref j), .val (.int sv)] [])) _
    refine XS.aloadN X165.here hx rfl (hb hby own_d7_5) rfl rfl ?_
    show Steps p.tables e below (T165.setTop (mkF m 6 #[.val (.ref j), .val (.int sv)] [(.ref j)])) _
    refine st166 _ ?_
    show Steps p.tables e below (T166.setTop (mkF m 9 #[.val (.ref j), .val (.int sv)] [(.int ln)])) _
    refine XS.iloadN X166.here hx rfl (hb hby own_d7_9) rfl ?_
    exact kk)
  obtain ⟨T168, X168, e168, st168⟩ := getF X166 hx hZ hown (host := "") (Or.inl (hw _ (List.mem_of_getElem? (i := 27) rfl))) Via.refl e166 Fl165 (g := (mkF m 15 #[.val (.ref j), .val (.int sv)] [(.ref j), (.ref j)])) rfl rfl (hb hby own_d7_15)
  obtain ⟨T169, h169, X169, e169, W169, st169⟩ := putF X168 hx hZ hown (host := "") (Or.inl (hw _ (List.mem_of_getElem? (i := 27) rfl))) Via.refl e168 Fl165 Ej165 (Or.inl (hw _ (List.mem_of_getElem? (i := 28) rfl))) (hw _ (List.mem_of_getElem? (i := 1) rfl)) (ty := .int) (by decide) rfl rfl (g := (mkF m 20 #[.val (.ref j), .val (.int sv)] [(.int (ln - (1 : Int32))), (.ref j)])) rfl rfl (hb hby own_d7_20)
  have N169 := Fr.snoc X169 N165 gej
  have f170 : Exa Z h169 j "com/example/envyless/envyless/Journal" := Ej165.wr W169
  have f171 : Exa Z h169 u "[I" := Eu165.wr W169
  have f172 : Fld Z h169 j "com/example/envyless/envyless/Journal" "arrays" "[[I" (.ref A) := Fa165.other W169 (Or.inr (slot_ne (Or.inl (hw _ (List.mem_of_getElem? (i := 12) rfl))) (Or.inl (hw _ (List.mem_of_getElem? (i := 28) rfl))) (by decide) (t := (.array (.array .int))) (t' := .int) (by decide) (by decide)))
  have f173 : Fld Z h169 j "com/example/envyless/envyless/Journal" "indexes" "[I" (.ref I) := Fi165.other W169 (Or.inr (slot_ne (Or.inl (hw _ (List.mem_of_getElem? (i := 15) rfl))) (Or.inl (hw _ (List.mem_of_getElem? (i := 28) rfl))) (by decide) (t := (.array .int)) (t' := .int) (by decide) (by decide)))
  have f174 : Fld Z h169 j "com/example/envyless/envyless/Journal" "values" "[I" (.ref V) := Fv165.other W169 (Or.inr (slot_ne (Or.inl (hw _ (List.mem_of_getElem? (i := 17) rfl))) (Or.inl (hw _ (List.mem_of_getElem? (i := 28) rfl))) (by decide) (t := (.array .int)) (t' := .int) (by decide) (by decide)))
  have f175 : Fld Z h169 j "com/example/envyless/envyless/Journal" "starts" "[I" (.ref T) := Fs165.other W169 (Or.inr (slot_ne (Or.inl (hw _ (List.mem_of_getElem? (i := 19) rfl))) (Or.inl (hw _ (List.mem_of_getElem? (i := 28) rfl))) (by decide) (t := (.array .int)) (t' := .int) (by decide) (by decide)))
  have f176 : Fld Z h169 j "com/example/envyless/envyless/Journal" "length" "I" (.int (ln - (1 : Int32))) := Fl165.same W169
  have f177 : Fld Z h169 j "com/example/envyless/envyless/Journal" "open" "I" (.int opE) := Fo165.other W169 (Or.inr (slot_ne (Or.inl (hw _ (List.mem_of_getElem? (i := 26) rfl))) (Or.inl (hw _ (List.mem_of_getElem? (i := 28) rfl))) (by decide) (t := .int) (t' := .int) (by decide) (by decide)))
  have f178 : AA Z h169 A kA 64 ln u := AAa165.other W169 (Ne.symm njA)
  have f179 : AI Z h169 I (64 : Int32) fi := AIi165.other W169 (Ne.symm njI)
  have f180 : AI Z h169 V (64 : Int32) fv := AIv165.other W169 (Ne.symm njV)
  have f181 : AI Z h169 T nT ft := AIt165.other W169 (Ne.symm njT)
  have f182 : AI Z h169 u nU fu := AIu165.other W169 (Ne.symm nju)
  have f183 : n0 ≤ h169.size := Nat.le_trans Z165 (Keep.of_wr W169).1
  obtain ⟨T184, X184, e184, st184⟩ := getF X169 hx hZ hown (host := "") (Or.inl (hw _ (List.mem_of_getElem? (i := 11) rfl))) Via.refl e169 f172 (g := (mkF m 24 #[.val (.ref j), .val (.int sv)] [(.ref j)])) rfl rfl (hb hby own_d7_24)
  obtain ⟨T185, X185, e185, st185⟩ := getF X184 hx hZ hown (host := "") (Or.inl (hw _ (List.mem_of_getElem? (i := 27) rfl))) Via.refl e184 f176 (g := (mkF m 28 #[.val (.ref j), .val (.int sv)] [(.ref j), (.ref A)])) rfl rfl (hb hby own_d7_28)
  obtain ⟨cl186, Ar186, -, S186, M186, H186⟩ := id f178
  obtain ⟨T187, X187, e187, st187⟩ := getF X185 hx hZ hown (host := "") (Or.inl (hw _ (List.mem_of_getElem? (i := 14) rfl))) Via.refl e185 f173 (g := (mkF m 33 #[.val (.ref j), .val (.int sv)] [(.ref j), (.ref u)])) rfl rfl (hb hby own_d7_33)
  obtain ⟨T188, X188, e188, st188⟩ := getF X187 hx hZ hown (host := "") (Or.inl (hw _ (List.mem_of_getElem? (i := 27) rfl))) Via.refl e187 f176 (g := (mkF m 37 #[.val (.ref j), .val (.int sv)] [(.ref j), (.ref I), (.ref u)])) rfl rfl (hb hby own_d7_37)
  obtain ⟨cl189, Ar189, S189, M189, H189⟩ := id f179
  have pre190 : ∀ t, Steps p.tables e below (T188.setTop (mkF m 41 #[.val (.ref j), .val (.int sv)] [(.int (fi (ln - (1 : Int32)))), (.ref u)])) t → Steps p.tables e below (s₁.setTop (entryFrame m #[(.ref j)] 2)) t := fun tt kk => pre167 tt (by
    show Steps p.tables e below (T166.setTop (mkF m 10 #[.val (.ref j), .val (.int sv)] [(.int sv), (.int ln)])) _
    refine XS.icmpNo X166.here hx rfl (hb hby own_d7_10) rfl (tlt (hgo0)).2.2.2 ?_
    show Steps p.tables e below (T166.setTop (mkF m 13 #[.val (.ref j), .val (.int sv)] [])) _
    refine XS.aloadN X166.here hx rfl (hb hby own_d7_13) rfl rfl ?_
    show Steps p.tables e below (T166.setTop (mkF m 14 #[.val (.ref j), .val (.int sv)] [(.ref j)])) _
    refine XS.dup X166.here hx rfl (hb hby own_d7_14) rfl rfl ?_
    show Steps p.tables e below (T166.setTop (mkF m 15 #[.val (.ref j), .val (.int sv)] [(.ref j), (.ref j)])) _
    refine st168 _ ?_
    show Steps p.tables e below (T168.setTop (mkF m 18 #[.val (.ref j), .val (.int sv)] [(.int ln), (.ref j)])) _
    refine XS.iconst X168.here hx rfl (hb hby own_d7_18) ?_
    show Steps p.tables e below (T168.setTop (mkF m 19 #[.val (.ref j), .val (.int sv)] [(.int (1 : Int32)), (.int ln), (.ref j)])) _
    refine XS.isub X168.here hx rfl (hb hby own_d7_19) rfl ?_
    show Steps p.tables e below (T168.setTop (mkF m 20 #[.val (.ref j), .val (.int sv)] [(.int (ln - (1 : Int32))), (.ref j)])) _
    refine st169 _ ?_
    show Steps p.tables e below (T169.setTop (mkF m 23 #[.val (.ref j), .val (.int sv)] [])) _
    refine XS.aloadN X169.here hx rfl (hb hby own_d7_23) rfl rfl ?_
    show Steps p.tables e below (T169.setTop (mkF m 24 #[.val (.ref j), .val (.int sv)] [(.ref j)])) _
    refine st184 _ ?_
    show Steps p.tables e below (T184.setTop (mkF m 27 #[.val (.ref j), .val (.int sv)] [(.ref A)])) _
    refine XS.aloadN X184.here hx rfl (hb hby own_d7_27) rfl rfl ?_
    show Steps p.tables e below (T184.setTop (mkF m 28 #[.val (.ref j), .val (.int sv)] [(.ref j), (.ref A)])) _
    refine st185 _ ?_
    show Steps p.tables e below (T185.setTop (mkF m 31 #[.val (.ref j), .val (.int sv)] [(.int (ln - (1 : Int32))), (.ref A)])) _
    refine X185.aaload hx (j := (ln - (1 : Int32))) (v := (.ref u)) (by rw [e185]; exact Ar186.1) (State.isArrayOf_alike hZ.alike Ar186.2.1) rfl Ar186.2.2 (inb_of S186 ⟨hb0, hB0⟩) (H186 _ hb0 hm0) (g := (mkF m 31 #[.val (.ref j), .val (.int sv)] [(.int (ln - (1 : Int32))), (.ref A)])) rfl rfl (hb hby own_d7_31) _ ?_
    show Steps p.tables e below (T185.setTop (mkF m 32 #[.val (.ref j), .val (.int sv)] [(.ref u)])) _
    refine XS.aloadN X185.here hx rfl (hb hby own_d7_32) rfl rfl ?_
    show Steps p.tables e below (T185.setTop (mkF m 33 #[.val (.ref j), .val (.int sv)] [(.ref j), (.ref u)])) _
    refine st187 _ ?_
    show Steps p.tables e below (T187.setTop (mkF m 36 #[.val (.ref j), .val (.int sv)] [(.ref I), (.ref u)])) _
    refine XS.aloadN X187.here hx rfl (hb hby own_d7_36) rfl rfl ?_
    show Steps p.tables e below (T187.setTop (mkF m 37 #[.val (.ref j), .val (.int sv)] [(.ref j), (.ref I), (.ref u)])) _
    refine st188 _ ?_
    show Steps p.tables e below (T188.setTop (mkF m 40 #[.val (.ref j), .val (.int sv)] [(.int (ln - (1 : Int32))), (.ref I), (.ref u)])) _
    refine X188.iaload hx (j := (ln - (1 : Int32))) (v := (.int (fi (ln - (1 : Int32))))) (by rw [e188]; exact Ar189.1) (State.isArrayOf_alike hZ.alike Ar189.2.1) Ar189.2.2 (inb_of S189 ⟨hb0, hB0⟩) (H189 _ hb0 hB0) (g := (mkF m 40 #[.val (.ref j), .val (.int sv)] [(.int (ln - (1 : Int32))), (.ref I), (.ref u)])) rfl rfl (hb hby own_d7_40) _ ?_
    exact kk)
  rw [hd0] at pre190
  obtain ⟨T191, X191, e191, st191⟩ := getF X188 hx hZ hown (host := "") (Or.inl (hw _ (List.mem_of_getElem? (i := 16) rfl))) Via.refl e188 f174 (g := (mkF m 42 #[.val (.ref j), .val (.int sv)] [(.ref j), (.int d0), (.ref u)])) rfl rfl (hb hby own_d7_42)
  obtain ⟨T192, X192, e192, st192⟩ := getF X191 hx hZ hown (host := "") (Or.inl (hw _ (List.mem_of_getElem? (i := 27) rfl))) Via.refl e191 f176 (g := (mkF m 46 #[.val (.ref j), .val (.int sv)] [(.ref j), (.ref V), (.int d0), (.ref u)])) rfl rfl (hb hby own_d7_46)
  obtain ⟨cl193, Ar193, S193, M193, H193⟩ := id f180
  have pre194 : ∀ t, Steps p.tables e below (T192.setTop (mkF m 50 #[.val (.ref j), .val (.int sv)] [(.int (fv (ln - (1 : Int32)))), (.int d0), (.ref u)])) t → Steps p.tables e below (s₁.setTop (entryFrame m #[(.ref j)] 2)) t := fun tt kk => pre190 tt (by
    show Steps p.tables e below (T188.setTop (mkF m 41 #[.val (.ref j), .val (.int sv)] [(.int d0), (.ref u)])) _
    refine XS.aloadN X188.here hx rfl (hb hby own_d7_41) rfl rfl ?_
    show Steps p.tables e below (T188.setTop (mkF m 42 #[.val (.ref j), .val (.int sv)] [(.ref j), (.int d0), (.ref u)])) _
    refine st191 _ ?_
    show Steps p.tables e below (T191.setTop (mkF m 45 #[.val (.ref j), .val (.int sv)] [(.ref V), (.int d0), (.ref u)])) _
    refine XS.aloadN X191.here hx rfl (hb hby own_d7_45) rfl rfl ?_
    show Steps p.tables e below (T191.setTop (mkF m 46 #[.val (.ref j), .val (.int sv)] [(.ref j), (.ref V), (.int d0), (.ref u)])) _
    refine st192 _ ?_
    show Steps p.tables e below (T192.setTop (mkF m 49 #[.val (.ref j), .val (.int sv)] [(.int (ln - (1 : Int32))), (.ref V), (.int d0), (.ref u)])) _
    refine X192.iaload hx (j := (ln - (1 : Int32))) (v := (.int (fv (ln - (1 : Int32))))) (by rw [e192]; exact Ar193.1) (State.isArrayOf_alike hZ.alike Ar193.2.1) Ar193.2.2 (inb_of S193 ⟨hb0, hB0⟩) (H193 _ hb0 hB0) (g := (mkF m 49 #[.val (.ref j), .val (.int sv)] [(.int (ln - (1 : Int32))), (.ref V), (.int d0), (.ref u)])) rfl rfl (hb hby own_d7_49) _ ?_
    exact kk)
  rw [hv0] at pre194
  obtain ⟨cl195, Ar195, S195, -, -⟩ := id f182
  obtain ⟨T196, h196, X196, e196, W196, st196⟩ := stI X192 hx hZ e192 Ar195 (j := d0) (inb_of S195 ⟨hd0_0, hdU_0⟩) (g := (mkF m 50 #[.val (.ref j), .val (.int sv)] [(.int v0), (.int d0), (.ref u)])) rfl rfl (hb hby own_d7_50)
  have N196 := Fr.snoc X196 N169 geu
  have f197 : Exa Z h196 j "com/example/envyless/envyless/Journal" := f170.wr W196
  have f198 : Exa Z h196 u "[I" := f171.wr W196
  have f199 : Fld Z h196 j "com/example/envyless/envyless/Journal" "arrays" "[[I" (.ref A) := f172.other W196 (Or.inl nju)
  have f200 : Fld Z h196 j "com/example/envyless/envyless/Journal" "indexes" "[I" (.ref I) := f173.other W196 (Or.inl nju)
  have f201 : Fld Z h196 j "com/example/envyless/envyless/Journal" "values" "[I" (.ref V) := f174.other W196 (Or.inl nju)
  have f202 : Fld Z h196 j "com/example/envyless/envyless/Journal" "starts" "[I" (.ref T) := f175.other W196 (Or.inl nju)
  have f203 : Fld Z h196 j "com/example/envyless/envyless/Journal" "length" "I" (.int (ln - (1 : Int32))) := f176.other W196 (Or.inl nju)
  have f204 : Fld Z h196 j "com/example/envyless/envyless/Journal" "open" "I" (.int opE) := f177.other W196 (Or.inl nju)
  have f205 : AA Z h196 A kA 64 ln u := f178.other W196 nAu
  have f206 : AI Z h196 I (64 : Int32) fi := f179.other W196 nIu
  have f207 : AI Z h196 V (64 : Int32) fv := f180.other W196 nVu
  have f208 : AI Z h196 T nT ft := f181.other W196 nTu
  have f209 : n0 ≤ h196.size := Nat.le_trans f183 (Keep.of_wr W196).1
  have V196 : AI Z h196 u nU (up fu d0 v0) := f182.set W196 hd0_0 hdU_0
  obtain ⟨T210, X210, e210, st210⟩ := getF X196 hx hZ hown (host := "") (Or.inl (hw _ (List.mem_of_getElem? (i := 27) rfl))) Via.refl e196 f203 (g := (mkF m 6 #[.val (.ref j), .val (.int sv)] [(.ref j)])) rfl rfl (hb hby own_d7_6)
  have pre211 : ∀ t, Steps p.tables e below (T210.setTop (mkF m 10 #[.val (.ref j), .val (.int sv)] [(.int sv), (.int (ln - (1 : Int32)))])) t → Steps p.tables e below (s₁.setTop (entryFrame m #[(.ref j)] 2)) t := fun tt kk => pre194 tt (by
    show Steps p.tables e below (T192.setTop (mkF m 50 #[.val (.ref j), .val (.int sv)] [(.int v0), (.int d0), (.ref u)])) _
    refine st196 _ ?_
    show Steps p.tables e below (T196.setTop (mkF m 51 #[.val (.ref j), .val (.int sv)] [])) _
    refine XS.goto X196.here hx rfl (pc0 := 51) (pc' := 5) rfl (hb hby own_d7_51) (by decide) (by decide) ?_
    show Steps p.tables e below (T196.setTop (mkF m 5 #[.val (.ref j), .val (.int sv)] [])) _
    refine XS.aloadN X196.here hx rfl (hb hby own_d7_5) rfl rfl ?_
    show Steps p.tables e below (T196.setTop (mkF m 6 #[.val (.ref j), .val (.int sv)] [(.ref j)])) _
    refine st210 _ ?_
    show Steps p.tables e below (T210.setTop (mkF m 9 #[.val (.ref j), .val (.int sv)] [(.int (ln - (1 : Int32)))])) _
    refine XS.iloadN X210.here hx rfl (hb hby own_d7_9) rfl ?_
    exact kk)
  obtain ⟨fs, hr, hrun, hended, hW, hsame⟩ := X210.leave (v := none) (fun _ => rfl)
  refine ⟨_, _, pre211 _ ?_, hrun, hended, _, _, rfl, ?_, ⟨_, rfl⟩, hW, hsame.mono (by decide) (by decide)⟩
  · show Steps p.tables e below (T210.setTop (mkF m 10 #[.val (.ref j), .val (.int sv)] [(.int sv), (.int (ln - (1 : Int32)))])) _
    refine XS.icmpYes X210.here hx rfl (pc0 := 10) (pc' := 54) rfl (hb hby own_d7_10) rfl (flt (hend)).2.2.2 (by decide) (by decide) ?_
    show Steps p.tables e below (T210.setTop (mkF m 54 #[.val (.ref j), .val (.int sv)] [])) _
    exact X210.returnOut hx Bd.returns (hb hby own_d7_54) hr
  · show JQ Z _ j A I V _ u kA _ _ _ _ _ _ _ _ n0 _ T210.heap _
    rw [e210]
    exact ⟨rfl, N196, f209, f197, f199, f200, f201, f202, f203, f204, f205.le hle, f206, f207, f208, V196, f198, Ov⟩
theorem own_d1_0 : decode prog_22_method_1_code 0 = .ok (.aload_n 0, 1) := by decide +kernel
theorem own_d1_1 : decode prog_22_method_1_code 1 = .ok (.invokespecial 1, 3) := by decide +kernel
theorem own_d1_4 : decode prog_22_method_1_code 4 = .ok (.aload_n 0, 1) := by decide +kernel
theorem own_d1_5 : decode prog_22_method_1_code 5 = .ok (.bipush 64, 2) := by decide +kernel
theorem own_d1_7 : decode prog_22_method_1_code 7 = .ok (.anewarray 7, 3) := by decide +kernel
theorem own_d1_10 : decode prog_22_method_1_code 10 = .ok (.putfield 9, 3) := by decide +kernel
theorem own_d1_13 : decode prog_22_method_1_code 13 = .ok (.aload_n 0, 1) := by decide +kernel
theorem own_d1_14 : decode prog_22_method_1_code 14 = .ok (.bipush 64, 2) := by decide +kernel
theorem own_d1_16 : decode prog_22_method_1_code 16 = .ok (.newarray .int, 2) := by decide +kernel
theorem own_d1_18 : decode prog_22_method_1_code 18 = .ok (.putfield 15, 3) := by decide +kernel
theorem own_d1_21 : decode prog_22_method_1_code 21 = .ok (.aload_n 0, 1) := by decide +kernel
theorem own_d1_22 : decode prog_22_method_1_code 22 = .ok (.bipush 64, 2) := by decide +kernel
theorem own_d1_24 : decode prog_22_method_1_code 24 = .ok (.newarray .int, 2) := by decide +kernel
theorem own_d1_26 : decode prog_22_method_1_code 26 = .ok (.putfield 18, 3) := by decide +kernel
theorem own_d1_29 : decode prog_22_method_1_code 29 = .ok (.aload_n 0, 1) := by decide +kernel
theorem own_d1_30 : decode prog_22_method_1_code 30 = .ok (.bipush 8, 2) := by decide +kernel
theorem own_d1_32 : decode prog_22_method_1_code 32 = .ok (.newarray .int, 2) := by decide +kernel
theorem own_d1_34 : decode prog_22_method_1_code 34 = .ok (.putfield 21, 3) := by decide +kernel
theorem own_d1_37 : decode prog_22_method_1_code 37 = .ok (.return_, 1) := by decide +kernel
set_option maxRecDepth 65536 in
set_option maxHeartbeats 40000000 in
theorem rm_init (l : Launch) (Z : State) (a0 : Array Value) (hw : ∀ d ∈ tables_1, d.before a0 Z = true) (ws : List Jvm.Cond) (j : Addr) (h0 : Heap) (n0 : Nat) (Z0 : n0 ≤ h0.size) (Ej : Exa Z h0 j "com/example/envyless/envyless/Journal") (F_arrays : Fld Z h0 j "com/example/envyless/envyless/Journal" "arrays" "[[I" .null) (F_indexes : Fld Z h0 j "com/example/envyless/envyless/Journal" "indexes" "[I" .null) (F_values : Fld Z h0 j "com/example/envyless/envyless/Journal" "values" "[I" .null) (F_starts : Fld Z h0 j "com/example/envyless/envyless/Journal" "starts" "[I" .null) (F_length : Fld Z h0 j "com/example/envyless/envyless/Journal" "length" "I" (.int (0 : Int32))) (F_open : Fld Z h0 j "com/example/envyless/envyless/Journal" "open" "I" (.int (0 : Int32))) (gej : n0 ≤ j) :
    MetFree l (⟨"com/example/envyless/envyless/Journal", "<init>", "()V"⟩ : MethodName) (head1 (Jvm.Cond.code (⟨"com/example/envyless/envyless/Journal", "<init>", "()V"⟩ : MethodName) prog_22_method_1_code 1 none :: ws) ({ frames := 1, cells := 4, slots := 200, locals := 12 } : Room)) (fun a U => a = #[(.ref j)] ∧ Z.Warmed39 U.vm ∧ U.heap = h0) (fun _ _ _ _ _ => True) (fun _ U o U' => ∃ v L, o = .returned v ∧ JC Z j h0 n0 v U'.heap L ∧ FrameEnd U o U' L ({ frames := 1, cells := 4, slots := 200, locals := 12 } : Room).cells ({ frames := 1, cells := 4, slots := 200, locals := 12 } : Room).slots) := by
  refine MetFree.of_bodySF (plainFor_of_name (by first | (simp [plainName, overriddenIn]; done) | decide +kernel)) hisR ?_
  intro p e s m args below meth c s₁ Bd hml0 hP hK
  obtain ⟨rfl, hZ, hh⟩ := hP
  have hx := Bd.exec
  have hby := Bd.bytes
  have hml : c.maxLocals = 1 := hml0
  have hown : s.vm.findClass "com/example/envyless/envyless/Journal" = some m.cls := findClass_of_methodNamed Bd.named
  have hnm := (name_of_methodNamed Bd.named Bd.method).1
  have X0 : Stand p l e ({ frames := 1, cells := 4, slots := 200, locals := 12 } : Room) s m #[(.ref j)] below meth c s₁ [] 0 0 := Stand.of_body Bd
  have e0 : s₁.heap = h0 := by rw [← hh, Bd.state]; rfl
  have N0 := Fr.nil n0
  have ef0 : entryFrame m #[(.ref j)] 1 = mkF m 0 #[.val (.ref j)] [] := by first | (simp [entryFrame, mkF, argsToLocals, Value.category, maxLocals]; done) | rfl
  have pre0 : ∀ t, Steps p.tables e below (s₁.setTop (mkF m 0 #[.val (.ref j)] [])) t → Steps p.tables e below (s₁.setTop (entryFrame m #[(.ref j)] 1)) t := fun t k => castTop ef0 k
  obtain ⟨T212, X212, e212, st212⟩ := initO X0 hx hZ hown (hw _ (List.mem_of_getElem? (i := 6) rfl)) (hw _ (List.mem_of_getElem? (i := 7) rfl)) (hw _ (List.mem_of_getElem? (i := 8) rfl)) e0 (g := (mkF m 1 #[.val (.ref j)] [(.ref j)])) rfl (by rw [hml]; rfl) rfl (hb hby own_d1_1) (by decide) (W := 0) (by show 2 * 0 + _ ≤ _; exact Nat.le_of_eq rfl) (by decide)
  obtain ⟨T213, h213, k213, X213, e213, E213, A213, B213, O213, st213⟩ := newRA X212 hx hZ hown (ty := .int) (by decide) (hw _ (List.mem_of_getElem? (i := 9) rfl)) (hw _ (List.mem_of_getElem? (i := 10) rfl)) e212 (g := (mkF m 7 #[.val (.ref j)] [(.int (64 : Int32)), (.ref j)])) rfl (hb hby own_d1_7) rfl (by decide) (cap := 64) (by decide) (by decide) (by decide) (by decide) (ad := "[[I") (by decide)
  obtain ⟨b213, g213⟩ : ∃ z, z = h0.size := ⟨_, rfl⟩
  rw [← g213] at A213 B213 st213
  have ne_j_b213 : j ≠ b213 := Nat.ne_of_lt (Nat.lt_of_lt_of_le (Ej).lt (Nat.le_of_eq g213.symm))
  have ge_b213 : n0 ≤ b213 := Nat.le_trans Z0 (Nat.le_of_eq g213.symm)
  have sz_b213 : h0.size ≤ b213 := Nat.le_trans (Keep.refl h0 [j]).1 (Nat.le_of_eq g213.symm)
  have f214 : n0 ≤ h213.size := Nat.le_trans Z0 E213.1
  have f215 : Keep h0 h213 [j] := (Keep.refl h0 [j]).ext E213
  have f216 : Exa Z h213 j "com/example/envyless/envyless/Journal" := Ej.ext E213
  have f217 : Fld Z h213 j "com/example/envyless/envyless/Journal" "arrays" "[[I" .null := F_arrays.ext E213
  have f218 : Fld Z h213 j "com/example/envyless/envyless/Journal" "indexes" "[I" .null := F_indexes.ext E213
  have f219 : Fld Z h213 j "com/example/envyless/envyless/Journal" "values" "[I" .null := F_values.ext E213
  have f220 : Fld Z h213 j "com/example/envyless/envyless/Journal" "starts" "[I" .null := F_starts.ext E213
  have f221 : Fld Z h213 j "com/example/envyless/envyless/Journal" "length" "I" (.int (0 : Int32)) := F_length.ext E213
  have f222 : Fld Z h213 j "com/example/envyless/envyless/Journal" "open" "I" (.int (0 : Int32)) := F_open.ext E213
  have V213 : ∀ uu, AA Z h213 b213 k213 64 0 uu := fun uu => AA.new A213 (by decide)
  obtain ⟨T223, h223, X223, e223, W223, st223⟩ := putF X213 hx hZ hown (host := "") (Or.inl (hw _ (List.mem_of_getElem? (i := 11) rfl))) Via.refl e213 f217 f216 (Or.inl (hw _ (List.mem_of_getElem? (i := 12) rfl))) (hw _ (List.mem_of_getElem? (i := 1) rfl)) (ty := (.array (.array .int))) (by decide) rfl rfl (g := (mkF m 10 #[.val (.ref j)] [(.ref b213), (.ref j)])) rfl rfl (hb hby own_d1_10)
  have N223 := Fr.snoc X223 N0 gej
  have f224 : n0 ≤ h223.size := Nat.le_trans f214 (Keep.of_wr W223).1
  have f225 : Keep h0 h223 [j] := f215.wr W223 (Or.inl (List.mem_of_getElem? (i := 0) rfl))
  have f226 : Exa Z h223 j "com/example/envyless/envyless/Journal" := f216.wr W223
  have f227 : Fld Z h223 j "com/example/envyless/envyless/Journal" "arrays" "[[I" (.ref b213) := f217.same W223
  have f228 : Fld Z h223 j "com/example/envyless/envyless/Journal" "indexes" "[I" .null := f218.other W223 (Or.inr (slot_ne (Or.inl (hw _ (List.mem_of_getElem? (i := 15) rfl))) (Or.inl (hw _ (List.mem_of_getElem? (i := 12) rfl))) (by decide) (t := (.array .int)) (t' := (.array (.array .int))) (by decide) (by decide)))
  have f229 : Fld Z h223 j "com/example/envyless/envyless/Journal" "values" "[I" .null := f219.other W223 (Or.inr (slot_ne (Or.inl (hw _ (List.mem_of_getElem? (i := 17) rfl))) (Or.inl (hw _ (List.mem_of_getElem? (i := 12) rfl))) (by decide) (t := (.array .int)) (t' := (.array (.array .int))) (by decide) (by decide)))
  have f230 : Fld Z h223 j "com/example/envyless/envyless/Journal" "starts" "[I" .null := f220.other W223 (Or.inr (slot_ne (Or.inl (hw _ (List.mem_of_getElem? (i := 19) rfl))) (Or.inl (hw _ (List.mem_of_getElem? (i := 12) rfl))) (by decide) (t := (.array .int)) (t' := (.array (.array .int))) (by decide) (by decide)))
  have f231 : Fld Z h223 j "com/example/envyless/envyless/Journal" "length" "I" (.int (0 : Int32)) := f221.other W223 (Or.inr (slot_ne (Or.inl (hw _ (List.mem_of_getElem? (i := 28) rfl))) (Or.inl (hw _ (List.mem_of_getElem? (i := 12) rfl))) (by decide) (t := .int) (t' := (.array (.array .int))) (by decide) (by decide)))
  have f232 : Fld Z h223 j "com/example/envyless/envyless/Journal" "open" "I" (.int (0 : Int32)) := f222.other W223 (Or.inr (slot_ne (Or.inl (hw _ (List.mem_of_getElem? (i := 26) rfl))) (Or.inl (hw _ (List.mem_of_getElem? (i := 12) rfl))) (by decide) (t := .int) (t' := (.array (.array .int))) (by decide) (by decide)))
  have f233 : ∀ uu, AA Z h223 b213 k213 64 0 uu := fun uu => (V213 uu).other W223 (Ne.symm ne_j_b213)
  obtain ⟨T234, h234, k234, X234, e234, E234, A234, st234⟩ := newP X223 hx hZ (hw _ (List.mem_of_getElem? (i := 13) rfl)) e223 (g := (mkF m 16 #[.val (.ref j)] [(.int (64 : Int32)), (.ref j)])) rfl (hb hby own_d1_16) rfl (by decide) (cap := 64) (by decide) (by decide) (by decide) (by decide)
  obtain ⟨b234, g234⟩ : ∃ z, z = h223.size := ⟨_, rfl⟩
  rw [← g234] at A234 st234
  have ne_j_b234 : j ≠ b234 := Nat.ne_of_lt (Nat.lt_of_lt_of_le (f226).lt (Nat.le_of_eq g234.symm))
  have ne_b213_b234 : b213 ≠ b234 := Nat.ne_of_lt (Nat.lt_of_lt_of_le ((f233 0)).lt (Nat.le_of_eq g234.symm))
  have ge_b234 : n0 ≤ b234 := Nat.le_trans f224 (Nat.le_of_eq g234.symm)
  have sz_b234 : h0.size ≤ b234 := Nat.le_trans f225.1 (Nat.le_of_eq g234.symm)
  have f235 : n0 ≤ h234.size := Nat.le_trans f224 E234.1
  have f236 : Keep h0 h234 [j] := f225.ext E234
  have f237 : Exa Z h234 j "com/example/envyless/envyless/Journal" := f226.ext E234
  have f238 : Fld Z h234 j "com/example/envyless/envyless/Journal" "arrays" "[[I" (.ref b213) := f227.ext E234
  have f239 : Fld Z h234 j "com/example/envyless/envyless/Journal" "indexes" "[I" .null := f228.ext E234
  have f240 : Fld Z h234 j "com/example/envyless/envyless/Journal" "values" "[I" .null := f229.ext E234
  have f241 : Fld Z h234 j "com/example/envyless/envyless/Journal" "starts" "[I" .null := f230.ext E234
  have f242 : Fld Z h234 j "com/example/envyless/envyless/Journal" "length" "I" (.int (0 : Int32)) := f231.ext E234
  have f243 : Fld Z h234 j "com/example/envyless/envyless/Journal" "open" "I" (.int (0 : Int32)) := f232.ext E234
  have f244 : ∀ uu, AA Z h234 b213 k213 64 0 uu := fun uu => (f233 uu).ext E234
  have V234 : AI Z h234 b234 (64 : Int32) (fun _ => 0) := AI.new A234 (by decide)
  obtain ⟨T245, h245, X245, e245, W245, st245⟩ := putF X234 hx hZ hown (host := "") (Or.inl (hw _ (List.mem_of_getElem? (i := 14) rfl))) Via.refl e234 f239 f237 (Or.inl (hw _ (List.mem_of_getElem? (i := 15) rfl))) (hw _ (List.mem_of_getElem? (i := 1) rfl)) (ty := (.array .int)) (by decide) rfl rfl (g := (mkF m 18 #[.val (.ref j)] [(.ref b234), (.ref j)])) rfl rfl (hb hby own_d1_18)
  have N245 := Fr.snoc X245 N223 gej
  have f246 : n0 ≤ h245.size := Nat.le_trans f235 (Keep.of_wr W245).1
  have f247 : Keep h0 h245 [j] := f236.wr W245 (Or.inl (List.mem_of_getElem? (i := 0) rfl))
  have f248 : Exa Z h245 j "com/example/envyless/envyless/Journal" := f237.wr W245
  have f249 : Fld Z h245 j "com/example/envyless/envyless/Journal" "arrays" "[[I" (.ref b213) := f238.other W245 (Or.inr (slot_ne (Or.inl (hw _ (List.mem_of_getElem? (i := 12) rfl))) (Or.inl (hw _ (List.mem_of_getElem? (i := 15) rfl))) (by decide) (t := (.array (.array .int))) (t' := (.array .int)) (by decide) (by decide)))
  have f250 : Fld Z h245 j "com/example/envyless/envyless/Journal" "indexes" "[I" (.ref b234) := f239.same W245
  have f251 : Fld Z h245 j "com/example/envyless/envyless/Journal" "values" "[I" .null := f240.other W245 (Or.inr (slot_ne (Or.inl (hw _ (List.mem_of_getElem? (i := 17) rfl))) (Or.inl (hw _ (List.mem_of_getElem? (i := 15) rfl))) (by decide) (t := (.array .int)) (t' := (.array .int)) (by decide) (by decide)))
  have f252 : Fld Z h245 j "com/example/envyless/envyless/Journal" "starts" "[I" .null := f241.other W245 (Or.inr (slot_ne (Or.inl (hw _ (List.mem_of_getElem? (i := 19) rfl))) (Or.inl (hw _ (List.mem_of_getElem? (i := 15) rfl))) (by decide) (t := (.array .int)) (t' := (.array .int)) (by decide) (by decide)))
  have f253 : Fld Z h245 j "com/example/envyless/envyless/Journal" "length" "I" (.int (0 : Int32)) := f242.other W245 (Or.inr (slot_ne (Or.inl (hw _ (List.mem_of_getElem? (i := 28) rfl))) (Or.inl (hw _ (List.mem_of_getElem? (i := 15) rfl))) (by decide) (t := .int) (t' := (.array .int)) (by decide) (by decide)))
  have f254 : Fld Z h245 j "com/example/envyless/envyless/Journal" "open" "I" (.int (0 : Int32)) := f243.other W245 (Or.inr (slot_ne (Or.inl (hw _ (List.mem_of_getElem? (i := 26) rfl))) (Or.inl (hw _ (List.mem_of_getElem? (i := 15) rfl))) (by decide) (t := .int) (t' := (.array .int)) (by decide) (by decide)))
  have f255 : ∀ uu, AA Z h245 b213 k213 64 0 uu := fun uu => (f244 uu).other W245 (Ne.symm ne_j_b213)
  have f256 : AI Z h245 b234 (64 : Int32) (fun _ => 0) := V234.other W245 (Ne.symm ne_j_b234)
  obtain ⟨T257, h257, k257, X257, e257, E257, A257, st257⟩ := newP X245 hx hZ (hw _ (List.mem_of_getElem? (i := 13) rfl)) e245 (g := (mkF m 24 #[.val (.ref j)] [(.int (64 : Int32)), (.ref j)])) rfl (hb hby own_d1_24) rfl (by decide) (cap := 64) (by decide) (by decide) (by decide) (by decide)
  obtain ⟨b257, g257⟩ : ∃ z, z = h245.size := ⟨_, rfl⟩
  rw [← g257] at A257 st257
  have ne_j_b257 : j ≠ b257 := Nat.ne_of_lt (Nat.lt_of_lt_of_le (f248).lt (Nat.le_of_eq g257.symm))
  have ne_b213_b257 : b213 ≠ b257 := Nat.ne_of_lt (Nat.lt_of_lt_of_le ((f255 0)).lt (Nat.le_of_eq g257.symm))
  have ne_b234_b257 : b234 ≠ b257 := Nat.ne_of_lt (Nat.lt_of_lt_of_le (f256).lt (Nat.le_of_eq g257.symm))
  have ge_b257 : n0 ≤ b257 := Nat.le_trans f246 (Nat.le_of_eq g257.symm)
  have sz_b257 : h0.size ≤ b257 := Nat.le_trans f247.1 (Nat.le_of_eq g257.symm)
  have f258 : n0 ≤ h257.size := Nat.le_trans f246 E257.1
  have f259 : Keep h0 h257 [j] := f247.ext E257
  have f260 : Exa Z h257 j "com/example/envyless/envyless/Journal" := f248.ext E257
  have f261 : Fld Z h257 j "com/example/envyless/envyless/Journal" "arrays" "[[I" (.ref b213) := f249.ext E257
  have f262 : Fld Z h257 j "com/example/envyless/envyless/Journal" "indexes" "[I" (.ref b234) := f250.ext E257
  have f263 : Fld Z h257 j "com/example/envyless/envyless/Journal" "values" "[I" .null := f251.ext E257
  have f264 : Fld Z h257 j "com/example/envyless/envyless/Journal" "starts" "[I" .null := f252.ext E257
  have f265 : Fld Z h257 j "com/example/envyless/envyless/Journal" "length" "I" (.int (0 : Int32)) := f253.ext E257
  have f266 : Fld Z h257 j "com/example/envyless/envyless/Journal" "open" "I" (.int (0 : Int32)) := f254.ext E257
  have f267 : ∀ uu, AA Z h257 b213 k213 64 0 uu := fun uu => (f255 uu).ext E257
  have f268 : AI Z h257 b234 (64 : Int32) (fun _ => 0) := f256.ext E257
  have V257 : AI Z h257 b257 (64 : Int32) (fun _ => 0) := AI.new A257 (by decide)
  obtain ⟨T269, h269, X269, e269, W269, st269⟩ := putF X257 hx hZ hown (host := "") (Or.inl (hw _ (List.mem_of_getElem? (i := 16) rfl))) Via.refl e257 f263 f260 (Or.inl (hw _ (List.mem_of_getElem? (i := 17) rfl))) (hw _ (List.mem_of_getElem? (i := 1) rfl)) (ty := (.array .int)) (by decide) rfl rfl (g := (mkF m 26 #[.val (.ref j)] [(.ref b257), (.ref j)])) rfl rfl (hb hby own_d1_26)
  have N269 := Fr.snoc X269 N245 gej
  have f270 : n0 ≤ h269.size := Nat.le_trans f258 (Keep.of_wr W269).1
  have f271 : Keep h0 h269 [j] := f259.wr W269 (Or.inl (List.mem_of_getElem? (i := 0) rfl))
  have f272 : Exa Z h269 j "com/example/envyless/envyless/Journal" := f260.wr W269
  have f273 : Fld Z h269 j "com/example/envyless/envyless/Journal" "arrays" "[[I" (.ref b213) := f261.other W269 (Or.inr (slot_ne (Or.inl (hw _ (List.mem_of_getElem? (i := 12) rfl))) (Or.inl (hw _ (List.mem_of_getElem? (i := 17) rfl))) (by decide) (t := (.array (.array .int))) (t' := (.array .int)) (by decide) (by decide)))
  have f274 : Fld Z h269 j "com/example/envyless/envyless/Journal" "indexes" "[I" (.ref b234) := f262.other W269 (Or.inr (slot_ne (Or.inl (hw _ (List.mem_of_getElem? (i := 15) rfl))) (Or.inl (hw _ (List.mem_of_getElem? (i := 17) rfl))) (by decide) (t := (.array .int)) (t' := (.array .int)) (by decide) (by decide)))
  have f275 : Fld Z h269 j "com/example/envyless/envyless/Journal" "values" "[I" (.ref b257) := f263.same W269
  have f276 : Fld Z h269 j "com/example/envyless/envyless/Journal" "starts" "[I" .null := f264.other W269 (Or.inr (slot_ne (Or.inl (hw _ (List.mem_of_getElem? (i := 19) rfl))) (Or.inl (hw _ (List.mem_of_getElem? (i := 17) rfl))) (by decide) (t := (.array .int)) (t' := (.array .int)) (by decide) (by decide)))
  have f277 : Fld Z h269 j "com/example/envyless/envyless/Journal" "length" "I" (.int (0 : Int32)) := f265.other W269 (Or.inr (slot_ne (Or.inl (hw _ (List.mem_of_getElem? (i := 28) rfl))) (Or.inl (hw _ (List.mem_of_getElem? (i := 17) rfl))) (by decide) (t := .int) (t' := (.array .int)) (by decide) (by decide)))
  have f278 : Fld Z h269 j "com/example/envyless/envyless/Journal" "open" "I" (.int (0 : Int32)) := f266.other W269 (Or.inr (slot_ne (Or.inl (hw _ (List.mem_of_getElem? (i := 26) rfl))) (Or.inl (hw _ (List.mem_of_getElem? (i := 17) rfl))) (by decide) (t := .int) (t' := (.array .int)) (by decide) (by decide)))
  have f279 : ∀ uu, AA Z h269 b213 k213 64 0 uu := fun uu => (f267 uu).other W269 (Ne.symm ne_j_b213)
  have f280 : AI Z h269 b234 (64 : Int32) (fun _ => 0) := f268.other W269 (Ne.symm ne_j_b234)
  have f281 : AI Z h269 b257 (64 : Int32) (fun _ => 0) := V257.other W269 (Ne.symm ne_j_b257)
  obtain ⟨T282, h282, k282, X282, e282, E282, A282, st282⟩ := newP X269 hx hZ (hw _ (List.mem_of_getElem? (i := 13) rfl)) e269 (g := (mkF m 32 #[.val (.ref j)] [(.int (8 : Int32)), (.ref j)])) rfl (hb hby own_d1_32) rfl (by decide) (cap := 8) (by decide) (by decide) (by decide) (by decide)
  obtain ⟨b282, g282⟩ : ∃ z, z = h269.size := ⟨_, rfl⟩
  rw [← g282] at A282 st282
  have ne_j_b282 : j ≠ b282 := Nat.ne_of_lt (Nat.lt_of_lt_of_le (f272).lt (Nat.le_of_eq g282.symm))
  have ne_b213_b282 : b213 ≠ b282 := Nat.ne_of_lt (Nat.lt_of_lt_of_le ((f279 0)).lt (Nat.le_of_eq g282.symm))
  have ne_b234_b282 : b234 ≠ b282 := Nat.ne_of_lt (Nat.lt_of_lt_of_le (f280).lt (Nat.le_of_eq g282.symm))
  have ne_b257_b282 : b257 ≠ b282 := Nat.ne_of_lt (Nat.lt_of_lt_of_le (f281).lt (Nat.le_of_eq g282.symm))
  have ge_b282 : n0 ≤ b282 := Nat.le_trans f270 (Nat.le_of_eq g282.symm)
  have sz_b282 : h0.size ≤ b282 := Nat.le_trans f271.1 (Nat.le_of_eq g282.symm)
  have f283 : n0 ≤ h282.size := Nat.le_trans f270 E282.1
  have f284 : Keep h0 h282 [j] := f271.ext E282
  have f285 : Exa Z h282 j "com/example/envyless/envyless/Journal" := f272.ext E282
  have f286 : Fld Z h282 j "com/example/envyless/envyless/Journal" "arrays" "[[I" (.ref b213) := f273.ext E282
  have f287 : Fld Z h282 j "com/example/envyless/envyless/Journal" "indexes" "[I" (.ref b234) := f274.ext E282
  have f288 : Fld Z h282 j "com/example/envyless/envyless/Journal" "values" "[I" (.ref b257) := f275.ext E282
  have f289 : Fld Z h282 j "com/example/envyless/envyless/Journal" "starts" "[I" .null := f276.ext E282
  have f290 : Fld Z h282 j "com/example/envyless/envyless/Journal" "length" "I" (.int (0 : Int32)) := f277.ext E282
  have f291 : Fld Z h282 j "com/example/envyless/envyless/Journal" "open" "I" (.int (0 : Int32)) := f278.ext E282
  have f292 : ∀ uu, AA Z h282 b213 k213 64 0 uu := fun uu => (f279 uu).ext E282
  have f293 : AI Z h282 b234 (64 : Int32) (fun _ => 0) := f280.ext E282
  have f294 : AI Z h282 b257 (64 : Int32) (fun _ => 0) := f281.ext E282
  have V282 : AI Z h282 b282 (8 : Int32) (fun _ => 0) := AI.new A282 (by decide)
  obtain ⟨T295, h295, X295, e295, W295, st295⟩ := putF X282 hx hZ hown (host := "") (Or.inl (hw _ (List.mem_of_getElem? (i := 18) rfl))) Via.refl e282 f289 f285 (Or.inl (hw _ (List.mem_of_getElem? (i := 19) rfl))) (hw _ (List.mem_of_getElem? (i := 1) rfl)) (ty := (.array .int)) (by decide) rfl rfl (g := (mkF m 34 #[.val (.ref j)] [(.ref b282), (.ref j)])) rfl rfl (hb hby own_d1_34)
  have N295 := Fr.snoc X295 N269 gej
  have f296 : n0 ≤ h295.size := Nat.le_trans f283 (Keep.of_wr W295).1
  have f297 : Keep h0 h295 [j] := f284.wr W295 (Or.inl (List.mem_of_getElem? (i := 0) rfl))
  have f298 : Exa Z h295 j "com/example/envyless/envyless/Journal" := f285.wr W295
  have f299 : Fld Z h295 j "com/example/envyless/envyless/Journal" "arrays" "[[I" (.ref b213) := f286.other W295 (Or.inr (slot_ne (Or.inl (hw _ (List.mem_of_getElem? (i := 12) rfl))) (Or.inl (hw _ (List.mem_of_getElem? (i := 19) rfl))) (by decide) (t := (.array (.array .int))) (t' := (.array .int)) (by decide) (by decide)))
  have f300 : Fld Z h295 j "com/example/envyless/envyless/Journal" "indexes" "[I" (.ref b234) := f287.other W295 (Or.inr (slot_ne (Or.inl (hw _ (List.mem_of_getElem? (i := 15) rfl))) (Or.inl (hw _ (List.mem_of_getElem? (i := 19) rfl))) (by decide) (t := (.array .int)) (t' := (.array .int)) (by decide) (by decide)))
  have f301 : Fld Z h295 j "com/example/envyless/envyless/Journal" "values" "[I" (.ref b257) := f288.other W295 (Or.inr (slot_ne (Or.inl (hw _ (List.mem_of_getElem? (i := 17) rfl))) (Or.inl (hw _ (List.mem_of_getElem? (i := 19) rfl))) (by decide) (t := (.array .int)) (t' := (.array .int)) (by decide) (by decide)))
  have f302 : Fld Z h295 j "com/example/envyless/envyless/Journal" "starts" "[I" (.ref b282) := f289.same W295
  have f303 : Fld Z h295 j "com/example/envyless/envyless/Journal" "length" "I" (.int (0 : Int32)) := f290.other W295 (Or.inr (slot_ne (Or.inl (hw _ (List.mem_of_getElem? (i := 28) rfl))) (Or.inl (hw _ (List.mem_of_getElem? (i := 19) rfl))) (by decide) (t := .int) (t' := (.array .int)) (by decide) (by decide)))
  have f304 : Fld Z h295 j "com/example/envyless/envyless/Journal" "open" "I" (.int (0 : Int32)) := f291.other W295 (Or.inr (slot_ne (Or.inl (hw _ (List.mem_of_getElem? (i := 26) rfl))) (Or.inl (hw _ (List.mem_of_getElem? (i := 19) rfl))) (by decide) (t := .int) (t' := (.array .int)) (by decide) (by decide)))
  have f305 : ∀ uu, AA Z h295 b213 k213 64 0 uu := fun uu => (f292 uu).other W295 (Ne.symm ne_j_b213)
  have f306 : AI Z h295 b234 (64 : Int32) (fun _ => 0) := f293.other W295 (Ne.symm ne_j_b234)
  have f307 : AI Z h295 b257 (64 : Int32) (fun _ => 0) := f294.other W295 (Ne.symm ne_j_b257)
  have f308 : AI Z h295 b282 (8 : Int32) (fun _ => 0) := V282.other W295 (Ne.symm ne_j_b282)
  obtain ⟨fs, hr, hrun, hended, hW, hsame⟩ := X295.leave (v := none) (fun _ => rfl)
  refine ⟨_, _, pre0 _ ?_, hrun, hended, _, _, rfl, ?_, ⟨_, rfl⟩, hW, hsame.mono (by decide) (by decide)⟩
  · show Steps p.tables e below (s₁.setTop (mkF m 0 #[.val (.ref j)] [])) _
    refine XS.aloadN X0.here hx rfl (hb hby own_d1_0) rfl rfl ?_
    show Steps p.tables e below (s₁.setTop (mkF m 1 #[.val (.ref j)] [(.ref j)])) _
    refine st212 _ ?_
    show Steps p.tables e below (T212.setTop (mkF m 4 #[.val (.ref j)] [])) _
    refine XS.aloadN X212.here hx rfl (hb hby own_d1_4) rfl rfl ?_
    show Steps p.tables e below (T212.setTop (mkF m 5 #[.val (.ref j)] [(.ref j)])) _
    refine XS.bipush X212.here hx rfl (hb hby own_d1_5) ?_
    show Steps p.tables e below (T212.setTop (mkF m 7 #[.val (.ref j)] [(.int (64 : Int32)), (.ref j)])) _
    refine st213 _ ?_
    show Steps p.tables e below (T213.setTop (mkF m 10 #[.val (.ref j)] [(.ref b213), (.ref j)])) _
    refine st223 _ ?_
    show Steps p.tables e below (T223.setTop (mkF m 13 #[.val (.ref j)] [])) _
    refine XS.aloadN X223.here hx rfl (hb hby own_d1_13) rfl rfl ?_
    show Steps p.tables e below (T223.setTop (mkF m 14 #[.val (.ref j)] [(.ref j)])) _
    refine XS.bipush X223.here hx rfl (hb hby own_d1_14) ?_
    show Steps p.tables e below (T223.setTop (mkF m 16 #[.val (.ref j)] [(.int (64 : Int32)), (.ref j)])) _
    refine st234 _ ?_
    show Steps p.tables e below (T234.setTop (mkF m 18 #[.val (.ref j)] [(.ref b234), (.ref j)])) _
    refine st245 _ ?_
    show Steps p.tables e below (T245.setTop (mkF m 21 #[.val (.ref j)] [])) _
    refine XS.aloadN X245.here hx rfl (hb hby own_d1_21) rfl rfl ?_
    show Steps p.tables e below (T245.setTop (mkF m 22 #[.val (.ref j)] [(.ref j)])) _
    refine XS.bipush X245.here hx rfl (hb hby own_d1_22) ?_
    show Steps p.tables e below (T245.setTop (mkF m 24 #[.val (.ref j)] [(.int (64 : Int32)), (.ref j)])) _
    refine st257 _ ?_
    show Steps p.tables e below (T257.setTop (mkF m 26 #[.val (.ref j)] [(.ref b257), (.ref j)])) _
    refine st269 _ ?_
    show Steps p.tables e below (T269.setTop (mkF m 29 #[.val (.ref j)] [])) _
    refine XS.aloadN X269.here hx rfl (hb hby own_d1_29) rfl rfl ?_
    show Steps p.tables e below (T269.setTop (mkF m 30 #[.val (.ref j)] [(.ref j)])) _
    refine XS.bipush X269.here hx rfl (hb hby own_d1_30) ?_
    show Steps p.tables e below (T269.setTop (mkF m 32 #[.val (.ref j)] [(.int (8 : Int32)), (.ref j)])) _
    refine st282 _ ?_
    show Steps p.tables e below (T282.setTop (mkF m 34 #[.val (.ref j)] [(.ref b282), (.ref j)])) _
    refine st295 _ ?_
    show Steps p.tables e below (T295.setTop (mkF m 37 #[.val (.ref j)] [])) _
    exact X295.returnOut hx Bd.returns (hb hby own_d1_37) hr
  · show JC Z j h0 n0 _ T295.heap _
    rw [e295]
    exact ⟨rfl, N295, f297, b213, b234, b257, b282, k213, f298, f299, f300, f301, f302, f303, f304, f305, f306, f307, f308, O213, ⟨sz_b213, sz_b234, sz_b257, sz_b282⟩, ne_j_b213, ne_j_b234, ne_j_b257, ne_j_b282, ne_b213_b234, ne_b213_b257, ne_b213_b282, ne_b234_b257, ne_b234_b282, ne_b257_b282⟩
theorem own_d6_0 : decode jdk_29_method_69_code 0 = .ok (.iload_n 0, 1) := by decide +kernel
theorem own_d6_1 : decode jdk_29_method_69_code 1 = .ok (.iload_n 1, 1) := by decide +kernel
theorem own_d6_2 : decode jdk_29_method_69_code 2 = .ok (.if_icmp .gt 7, 3) := by decide +kernel
theorem own_d6_5 : decode jdk_29_method_69_code 5 = .ok (.iload_n 0, 1) := by decide +kernel
theorem own_d6_6 : decode jdk_29_method_69_code 6 = .ok (.goto 4, 3) := by decide +kernel
theorem own_d6_10 : decode jdk_29_method_69_code 10 = .ok (.ireturn, 1) := by decide +kernel
set_option maxRecDepth 65536 in
set_option maxHeartbeats 40000000 in
theorem rm_mn (l : Launch) (Z : State) (a0 : Array Value) (hw : ∀ d ∈ tables_1, d.before a0 Z = true) (ws : List Jvm.Cond)  (h0 : Heap) (n0 : Nat) (Z0 : n0 ≤ h0.size)  :
    MetFree l (⟨"java/lang/Math", "min", "(II)I"⟩ : MethodName) (head1 (Jvm.Cond.code (⟨"java/lang/Math", "min", "(II)I"⟩ : MethodName) jdk_29_method_69_code 2 (some .int) :: ws) ({ frames := 0, cells := 0, slots := 0, locals := 0 } : Room)) (fun a U => a = #[(.int (8 : Int32)), (.int (16 : Int32))] ∧ Z.Warmed39 U.vm ∧ U.heap = h0) (fun _ _ _ _ _ => True) (fun _ U o U' => ∃ v L, o = .returned v ∧ QP (.int (8 : Int32)) h0 n0 v U'.heap L ∧ FrameEnd U o U' L ({ frames := 0, cells := 0, slots := 0, locals := 0 } : Room).cells ({ frames := 0, cells := 0, slots := 0, locals := 0 } : Room).slots) := by
  refine MetFree.of_bodySF (Jvm.Free.JP.mathPlain rfl (by decide +kernel)) hisR ?_
  intro p e s m args below meth c s₁ Bd hml0 hP hK
  obtain ⟨rfl, hZ, hh⟩ := hP
  have hx := Bd.exec
  have hby := Bd.bytes
  have hml : c.maxLocals = 2 := hml0
  have hown : s.vm.findClass "java/lang/Math" = some m.cls := findClass_of_methodNamed Bd.named
  have hnm := (name_of_methodNamed Bd.named Bd.method).1
  have X0 : Stand p l e ({ frames := 0, cells := 0, slots := 0, locals := 0 } : Room) s m #[(.int (8 : Int32)), (.int (16 : Int32))] below meth c s₁ [] 0 0 := Stand.of_body Bd
  have e0 : s₁.heap = h0 := by rw [← hh, Bd.state]; rfl
  have N0 := Fr.nil n0
  have ef0 : entryFrame m #[(.int (8 : Int32)), (.int (16 : Int32))] 2 = mkF m 0 #[.val (.int (8 : Int32)), .val (.int (16 : Int32))] [] := by first | (simp [entryFrame, mkF, argsToLocals, Value.category, maxLocals]; done) | rfl
  have pre0 : ∀ t, Steps p.tables e below (s₁.setTop (mkF m 0 #[.val (.int (8 : Int32)), .val (.int (16 : Int32))] [])) t → Steps p.tables e below (s₁.setTop (entryFrame m #[(.int (8 : Int32)), (.int (16 : Int32))] 2)) t := fun t k => castTop ef0 k
  have pre309 : ∀ t, Steps p.tables e below (s₁.setTop (mkF m 2 #[.val (.int (8 : Int32)), .val (.int (16 : Int32))] [(.int (16 : Int32)), (.int (8 : Int32))])) t → Steps p.tables e below (s₁.setTop (entryFrame m #[(.int (8 : Int32)), (.int (16 : Int32))] 2)) t := fun tt kk => pre0 tt (by
    show Steps p.tables e below (s₁.setTop (mkF m 0 #[.val (.int (8 : Int32)), .val (.int (16 : Int32))] [])) _
    refine XS.iloadN X0.here hx rfl (hb hby own_d6_0) rfl ?_
    show Steps p.tables e below (s₁.setTop (mkF m 1 #[.val (.int (8 : Int32)), .val (.int (16 : Int32))] [(.int (8 : Int32))])) _
    refine XS.iloadN X0.here hx rfl (hb hby own_d6_1) rfl ?_
    exact kk)
  obtain ⟨fs, hr, hrun, hended, hW, hsame⟩ := X0.leave (v := some (.int (8 : Int32))) (fun h => by rw [Bd.returns] at h; cases h)
  refine ⟨_, _, pre309 _ ?_, hrun, hended, _, _, rfl, ?_, ⟨_, rfl⟩, hW, hsame.mono (by decide) (by decide)⟩
  · show Steps p.tables e below (s₁.setTop (mkF m 2 #[.val (.int (8 : Int32)), .val (.int (16 : Int32))] [(.int (16 : Int32)), (.int (8 : Int32))])) _
    refine XS.icmpNo X0.here hx rfl (hb hby own_d6_2) rfl (flt (by decide : ¬ ((16 : Int32) < (8 : Int32)))).2.2.1 ?_
    show Steps p.tables e below (s₁.setTop (mkF m 5 #[.val (.int (8 : Int32)), .val (.int (16 : Int32))] [])) _
    refine XS.iloadN X0.here hx rfl (hb hby own_d6_5) rfl ?_
    show Steps p.tables e below (s₁.setTop (mkF m 6 #[.val (.int (8 : Int32)), .val (.int (16 : Int32))] [(.int (8 : Int32))])) _
    refine XS.goto X0.here hx rfl (pc0 := 6) (pc' := 10) rfl (hb hby own_d6_6) (by decide) (by decide) ?_
    show Steps p.tables e below (s₁.setTop (mkF m 10 #[.val (.int (8 : Int32)), .val (.int (16 : Int32))] [(.int (8 : Int32))])) _
    exact retOut X0 hx Bd.returns rfl (Or.inl ⟨rfl, Or.inl rfl, _, rfl⟩) (hb hby own_d6_10) hr
  · show QP (.int (8 : Int32)) h0 n0 _ s₁.heap _
    rw [e0]
    exact ⟨rfl, N0, rfl⟩
theorem own_d5_0 : decode jdk_65_method_123_code 0 = .ok (.iload_n 1, 1) := by decide +kernel
theorem own_d5_1 : decode jdk_65_method_123_code 1 = .ok (.aload_n 0, 1) := by decide +kernel
theorem own_d5_2 : decode jdk_65_method_123_code 2 = .ok (.arraylength, 1) := by decide +kernel
theorem own_d5_3 : decode jdk_65_method_123_code 3 = .ok (.if_icmp .ne 11, 3) := by decide +kernel
theorem own_d5_14 : decode jdk_65_method_123_code 14 = .ok (.iload_n 1, 1) := by decide +kernel
theorem own_d5_15 : decode jdk_65_method_123_code 15 = .ok (.newarray .int, 2) := by decide +kernel
theorem own_d5_17 : decode jdk_65_method_123_code 17 = .ok (.astore_n 2, 1) := by decide +kernel
theorem own_d5_18 : decode jdk_65_method_123_code 18 = .ok (.aload_n 0, 1) := by decide +kernel
theorem own_d5_19 : decode jdk_65_method_123_code 19 = .ok (.iconst 0, 1) := by decide +kernel
theorem own_d5_20 : decode jdk_65_method_123_code 20 = .ok (.aload_n 2, 1) := by decide +kernel
theorem own_d5_21 : decode jdk_65_method_123_code 21 = .ok (.iconst 0, 1) := by decide +kernel
theorem own_d5_22 : decode jdk_65_method_123_code 22 = .ok (.aload_n 0, 1) := by decide +kernel
theorem own_d5_23 : decode jdk_65_method_123_code 23 = .ok (.arraylength, 1) := by decide +kernel
theorem own_d5_24 : decode jdk_65_method_123_code 24 = .ok (.iload_n 1, 1) := by decide +kernel
theorem own_d5_25 : decode jdk_65_method_123_code 25 = .ok (.invokestatic 304, 3) := by decide +kernel
theorem own_d5_28 : decode jdk_65_method_123_code 28 = .ok (.invokestatic 150, 3) := by decide +kernel
theorem own_d5_31 : decode jdk_65_method_123_code 31 = .ok (.aload_n 2, 1) := by decide +kernel
theorem own_d5_32 : decode jdk_65_method_123_code 32 = .ok (.areturn, 1) := by decide +kernel
set_option maxRecDepth 65536 in
set_option maxHeartbeats 40000000 in
theorem rm_cp (l : Launch) (Z : State) (a0 : Array Value) (hw : ∀ d ∈ tables_1, d.before a0 Z = true) (ws : List Jvm.Cond) (T : Addr) (f : Int32 → Int32) (h0 : Heap) (n0 : Nat) (Z0 : n0 ≤ h0.size) (AT : AI Z h0 T 8 f) :
    MetFree l (⟨"java/util/Arrays", "copyOf", "([II)[I"⟩ : MethodName) (head1 (Jvm.Cond.code (⟨"java/util/Arrays", "copyOf", "([II)[I"⟩ : MethodName) jdk_65_method_123_code 3 (some (.array .int)) :: ws) ({ frames := 1, cells := 1, slots := 16, locals := 18 } : Room)) (fun a U => a = #[(.ref T), (.int (16 : Int32))] ∧ Z.Warmed39 U.vm ∧ U.heap = h0) (fun _ _ _ _ _ => True) (fun _ U o U' => ∃ v L, o = .returned v ∧ QCP Z f h0 n0 v U'.heap L ∧ FrameEnd U o U' L ({ frames := 1, cells := 1, slots := 16, locals := 18 } : Room).cells ({ frames := 1, cells := 1, slots := 16, locals := 18 } : Room).slots) := by
  refine MetFree.of_bodySF (plainFor_of_name (by first | (simp [plainName, overriddenIn]; done) | decide +kernel)) hisR ?_
  intro p e s m args below meth c s₁ Bd hml0 hP hK
  obtain ⟨rfl, hZ, hh⟩ := hP
  have hx := Bd.exec
  have hby := Bd.bytes
  have hml : c.maxLocals = 3 := hml0
  have hown : s.vm.findClass "java/util/Arrays" = some m.cls := findClass_of_methodNamed Bd.named
  have hnm := (name_of_methodNamed Bd.named Bd.method).1
  have X0 : Stand p l e ({ frames := 1, cells := 1, slots := 16, locals := 18 } : Room) s m #[(.ref T), (.int (16 : Int32))] below meth c s₁ [] 0 0 := Stand.of_body Bd
  have e0 : s₁.heap = h0 := by rw [← hh, Bd.state]; rfl
  have N0 := Fr.nil n0
  have ef0 : entryFrame m #[(.ref T), (.int (16 : Int32))] 3 = mkF m 0 #[.val (.ref T), .val (.int (16 : Int32)), .unset] [] := by first | (simp [entryFrame, mkF, argsToLocals, Value.category, maxLocals]; done) | rfl
  have pre0 : ∀ t, Steps p.tables e below (s₁.setTop (mkF m 0 #[.val (.ref T), .val (.int (16 : Int32)), .unset] [])) t → Steps p.tables e below (s₁.setTop (entryFrame m #[(.ref T), (.int (16 : Int32))] 3)) t := fun t k => castTop ef0 k
  obtain ⟨cl310, Ar310, S310, M310, H310⟩ := id AT
  have pre311 : ∀ t, Steps p.tables e below (s₁.setTop (mkF m 3 #[.val (.ref T), .val (.int (16 : Int32)), .unset] [(.int (8 : Int32)), (.int (16 : Int32))])) t → Steps p.tables e below (s₁.setTop (entryFrame m #[(.ref T), (.int (16 : Int32))] 3)) t := fun tt kk => pre0 tt (by
    show Steps p.tables e below (s₁.setTop (mkF m 0 #[.val (.ref T), .val (.int (16 : Int32)), .unset] [])) _
    refine XS.iloadN X0.here hx rfl (hb hby own_d5_0) rfl ?_
    show Steps p.tables e below (s₁.setTop (mkF m 1 #[.val (.ref T), .val (.int (16 : Int32)), .unset] [(.int (16 : Int32))])) _
    refine XS.aloadN X0.here hx rfl (hb hby own_d5_1) rfl rfl ?_
    show Steps p.tables e below (s₁.setTop (mkF m 2 #[.val (.ref T), .val (.int (16 : Int32)), .unset] [(.ref T), (.int (16 : Int32))])) _
    refine X0.arraylength hx (by rw [e0]; exact Ar310.1) (State.isArrayOf_alike hZ.alike Ar310.2.1) (g := (mkF m 2 #[.val (.ref T), .val (.int (16 : Int32)), .unset] [(.ref T), (.int (16 : Int32))])) rfl rfl (hb hby own_d5_2) _ ?_
    rw [len_of S310 M310]
    exact kk)
  obtain ⟨T312, h312, k312, X312, e312, E312, A312, st312⟩ := newP X0 hx hZ (hw _ (List.mem_of_getElem? (i := 13) rfl)) e0 (g := (mkF m 15 #[.val (.ref T), .val (.int (16 : Int32)), .unset] [(.int (16 : Int32))])) rfl (hb hby own_d5_15) rfl (by decide) (cap := 16) (by decide) (by decide) (by decide) (by decide)
  obtain ⟨b312, g312⟩ : ∃ z, z = h0.size := ⟨_, rfl⟩
  rw [← g312] at A312 st312
  have ne_T_b312 : T ≠ b312 := Nat.ne_of_lt (Nat.lt_of_lt_of_le (AT).lt (Nat.le_of_eq g312.symm))
  have ge_b312 : n0 ≤ b312 := Nat.le_trans Z0 (Nat.le_of_eq g312.symm)
  have sz_b312 : h0.size ≤ b312 := Nat.le_trans (Keep.refl h0 []).1 (Nat.le_of_eq g312.symm)
  have f313 : n0 ≤ h312.size := Nat.le_trans Z0 E312.1
  have f314 : Keep h0 h312 [] := (Keep.refl h0 []).ext E312
  have f315 : AI Z h312 T (8 : Int32) f := AT.ext E312
  have V312 : AI Z h312 b312 (16 : Int32) (fun _ => 0) := AI.new A312 (by decide)
  have Av312 : Arv Z h312 b312 k312 .int 16 own_zs (.int 0) := (Arv.new A312 (by decide)).pad (pad_rep [] (.int 0) 16)
  obtain ⟨cl316, Ar316, S316, M316, H316⟩ := id f315
  obtain ⟨vv317, _, ⟨T317, L317, k317, n317⟩, -, X317, ⟨Lc317, hQ317, l317, y317, z317⟩, st317⟩ := Jvm.LawKit.callS X312 hx (y := (⟨"java/lang/Math", "min", "(II)I"⟩ : MethodName)) hown (mvT hZ (hw _ (List.mem_of_getElem? (i := 39) rfl))) (mvT hZ (hw _ (List.mem_of_getElem? (i := 40) rfl))) (mvT hZ (hw _ (List.mem_of_getElem? (i := 41) rfl))) (mvT hZ (hw _ (List.mem_of_getElem? (i := 42) rfl))) (by decide) (backOf (W := 4) (rm_mn l Z a0 hw []  h312 n0 f313 ) hZ (hw _ (List.mem_of_getElem? (i := 42) rfl)) (hw _ (List.mem_of_getElem? (i := 41) rfl)) (by decide) (by decide)) (g := (mkF m 25 #[.val (.ref T), .val (.int (16 : Int32)), .val (.ref b312)] [(.int (16 : Int32)), (.int (8 : Int32)), (.int (0 : Int32)), (.ref b312), (.int (0 : Int32)), (.ref T)])) rfl (by rw [hml]; rfl) (argsL := [(.int (8 : Int32)), (.int (16 : Int32))]) (rest := [(.int (0 : Int32)), (.ref b312), (.int (0 : Int32)), (.ref T)]) (lenOf own_pd_1 rfl) rfl (by show 2 * 0 + _ ≤ _; exact Nat.le_of_eq rfl) (hb hby own_d5_25) (fun _ _ => ⟨rfl, e312, (by decide : 1 + 0 ≤ _), (by decide : 16 + 0 ≤ _)⟩)
  dsimp only [Pt.U, Pt.locs, Pt.cells, Pt.slots] at X317 l317 y317 z317 st317 hQ317
  subst l317 y317 z317
  obtain ⟨rfl, N317q, e317⟩ := hQ317
  have N317 := Fr.app N0 N317q
  obtain ⟨kT, AvT⟩ := own_arv f315
  obtain ⟨T318, h318, L318, X318, e318, N318, K318, B318, st318⟩ := cpA X317 hx hZ hown (hw _ (List.mem_of_getElem? (i := 43) rfl)) (hw _ (List.mem_of_getElem? (i := 46) rfl)) (hw _ (List.mem_of_getElem? (i := 44) rfl)) (hw _ (List.mem_of_getElem? (i := 45) rfl)) e317 AvT Av312 (us := own_vs f) (Or.inl ⟨rfl, rfl⟩) (by decide) (by decide) (by decide) (by decide) (by decide) rfl (by decide) N317 ge_b312 (g := (mkF m 28 #[.val (.ref T), .val (.int (16 : Int32)), .val (.ref b312)] [(.int (8 : Int32)), (.int (0 : Int32)), (.ref b312), (.int (0 : Int32)), (.ref T)])) rfl (by rw [hml]; rfl) rfl (hb hby own_d5_28) (by decide) (W := 0) (by show 2 * 0 + _ ≤ _; exact Nat.le_of_eq rfl) (by decide)
  have f319 : Keep h0 h318 [] := f314.trans K318 (allS (Or.inr sz_b312) all0)
  have f320 : n0 ≤ h318.size := Nat.le_trans f313 K318.1
  obtain ⟨fs, hr, hrun, hended, hW, hsame⟩ := X318.leave (v := some (.ref b312)) (fun h => by rw [Bd.returns] at h; cases h)
  refine ⟨_, _, pre311 _ ?_, hrun, hended, _, _, rfl, ?_, ⟨_, rfl⟩, hW, hsame.mono (by decide) (by decide)⟩
  · show Steps p.tables e below (s₁.setTop (mkF m 3 #[.val (.ref T), .val (.int (16 : Int32)), .unset] [(.int (8 : Int32)), (.int (16 : Int32))])) _
    refine XS.icmpYes X0.here hx rfl (pc0 := 3) (pc' := 14) rfl (hb hby own_d5_3) rfl (feq (by decide : ¬ ((16 : Int32) = (8 : Int32)))).2 (by decide) (by decide) ?_
    show Steps p.tables e below (s₁.setTop (mkF m 14 #[.val (.ref T), .val (.int (16 : Int32)), .unset] [])) _
    refine XS.iloadN X0.here hx rfl (hb hby own_d5_14) rfl ?_
    show Steps p.tables e below (s₁.setTop (mkF m 15 #[.val (.ref T), .val (.int (16 : Int32)), .unset] [(.int (16 : Int32))])) _
    refine st312 _ ?_
    show Steps p.tables e below (T312.setTop (mkF m 17 #[.val (.ref T), .val (.int (16 : Int32)), .unset] [(.ref b312)])) _
    refine XS.astoreN X312.here hx rfl (hb hby own_d5_17) rfl rfl (l' := #[.val (.ref T), .val (.int (16 : Int32)), .val (.ref b312)]) rfl ?_
    show Steps p.tables e below (T312.setTop (mkF m 18 #[.val (.ref T), .val (.int (16 : Int32)), .val (.ref b312)] [])) _
    refine XS.aloadN X312.here hx rfl (hb hby own_d5_18) rfl rfl ?_
    show Steps p.tables e below (T312.setTop (mkF m 19 #[.val (.ref T), .val (.int (16 : Int32)), .val (.ref b312)] [(.ref T)])) _
    refine XS.iconst X312.here hx rfl (hb hby own_d5_19) ?_
    show Steps p.tables e below (T312.setTop (mkF m 20 #[.val (.ref T), .val (.int (16 : Int32)), .val (.ref b312)] [(.int (0 : Int32)), (.ref T)])) _
    refine XS.aloadN X312.here hx rfl (hb hby own_d5_20) rfl rfl ?_
    show Steps p.tables e below (T312.setTop (mkF m 21 #[.val (.ref T), .val (.int (16 : Int32)), .val (.ref b312)] [(.ref b312), (.int (0 : Int32)), (.ref T)])) _
    refine XS.iconst X312.here hx rfl (hb hby own_d5_21) ?_
    show Steps p.tables e below (T312.setTop (mkF m 22 #[.val (.ref T), .val (.int (16 : Int32)), .val (.ref b312)] [(.int (0 : Int32)), (.ref b312), (.int (0 : Int32)), (.ref T)])) _
    refine XS.aloadN X312.here hx rfl (hb hby own_d5_22) rfl rfl ?_
    show Steps p.tables e below (T312.setTop (mkF m 23 #[.val (.ref T), .val (.int (16 : Int32)), .val (.ref b312)] [(.ref T), (.int (0 : Int32)), (.ref b312), (.int (0 : Int32)), (.ref T)])) _
    refine X312.arraylength hx (by rw [e312]; exact Ar316.1) (State.isArrayOf_alike hZ.alike Ar316.2.1) (g := (mkF m 23 #[.val (.ref T), .val (.int (16 : Int32)), .val (.ref b312)] [(.ref T), (.int (0 : Int32)), (.ref b312), (.int (0 : Int32)), (.ref T)])) rfl rfl (hb hby own_d5_23) _ ?_
    rw [len_of S316 M316]
    show Steps p.tables e below (T312.setTop (mkF m 24 #[.val (.ref T), .val (.int (16 : Int32)), .val (.ref b312)] [(.int (8 : Int32)), (.int (0 : Int32)), (.ref b312), (.int (0 : Int32)), (.ref T)])) _
    refine XS.iloadN X312.here hx rfl (hb hby own_d5_24) rfl ?_
    show Steps p.tables e below (T312.setTop (mkF m 25 #[.val (.ref T), .val (.int (16 : Int32)), .val (.ref b312)] [(.int (16 : Int32)), (.int (8 : Int32)), (.int (0 : Int32)), (.ref b312), (.int (0 : Int32)), (.ref T)])) _
    refine st317 _ ?_
    show Steps p.tables e below (T317.setTop (mkF m 28 #[.val (.ref T), .val (.int (16 : Int32)), .val (.ref b312)] [(.int (8 : Int32)), (.int (0 : Int32)), (.ref b312), (.int (0 : Int32)), (.ref T)])) _
    refine st318 _ ?_
    show Steps p.tables e below (T318.setTop (mkF m 31 #[.val (.ref T), .val (.int (16 : Int32)), .val (.ref b312)] [])) _
    refine XS.aloadN X318.here hx rfl (hb hby own_d5_31) rfl rfl ?_
    show Steps p.tables e below (T318.setTop (mkF m 32 #[.val (.ref T), .val (.int (16 : Int32)), .val (.ref b312)] [(.ref b312)])) _
    exact retOut X318 hx Bd.returns rfl (Or.inr (Or.inr (Or.inr (Or.inr ⟨rfl, rfl, rfl⟩)))) (hb hby own_d5_32) hr
  · show QCP Z f h0 n0 _ T318.heap _
    rw [e318]
    exact ⟨b312, rfl, N318, f319, sz_b312, own_grown B318⟩
theorem own_d3_12 : decode prog_22_method_3_code 12 = .ok (.aload_n 0, 1) := by decide +kernel
theorem own_d3_13 : decode prog_22_method_3_code 13 = .ok (.aload_n 0, 1) := by decide +kernel
theorem own_d3_14 : decode prog_22_method_3_code 14 = .ok (.getfield 21, 3) := by decide +kernel
theorem own_d3_17 : decode prog_22_method_3_code 17 = .ok (.iconst 2, 1) := by decide +kernel
theorem own_d3_18 : decode prog_22_method_3_code 18 = .ok (.aload_n 0, 1) := by decide +kernel
theorem own_d3_19 : decode prog_22_method_3_code 19 = .ok (.getfield 24, 3) := by decide +kernel
theorem own_d3_22 : decode prog_22_method_3_code 22 = .ok (.imul, 1) := by decide +kernel
theorem own_d3_23 : decode prog_22_method_3_code 23 = .ok (.invokestatic 38, 3) := by decide +kernel
theorem own_d3_26 : decode prog_22_method_3_code 26 = .ok (.putfield 21, 3) := by decide +kernel
set_option maxRecDepth 65536 in
set_option maxHeartbeats 40000000 in
theorem rm_startG (l : Launch) (Z : State) (a0 : Array Value) (hw : ∀ d ∈ tables_1, d.before a0 Z = true) (ws : List Jvm.Cond) (j A I V T u : Addr) (kA : ClassId) (ln nU : Int32) (fi fv ft fu : Int32 → Int32) (opE : Int32) (h0 : Heap) (n0 : Nat) (Z0 : n0 ≤ h0.size) (J : JS Z h0 j A I V T u kA ln 8 8 nU fi fv ft fu) (DJ_ : DJ j A I V T u) (GE_ : GE n0 j A I V T u) (hoE : opE = (8 : Int32) + 1) :
    MetFree l (⟨"com/example/envyless/envyless/Journal", "start", "()V"⟩ : MethodName) (head1 (Jvm.Cond.code (⟨"com/example/envyless/envyless/Journal", "start", "()V"⟩ : MethodName) prog_22_method_3_code 1 none :: ws) ({ frames := 2, cells := 1, slots := 16, locals := 33 } : Room)) (fun a U => a = #[(.ref j)] ∧ Z.Warmed39 U.vm ∧ U.heap = h0) (fun _ _ _ _ _ => True) (fun _ U o U' => ∃ v L, o = .returned v ∧ JG Z j A I V u kA ln opE nU fi fv ft fu n0 v U'.heap L ∧ FrameEnd U o U' L ({ frames := 2, cells := 1, slots := 16, locals := 33 } : Room).cells ({ frames := 2, cells := 1, slots := 16, locals := 33 } : Room).slots) := by
  refine MetFree.of_bodySF (plainFor_of_name (by first | (simp [plainName, overriddenIn]; done) | decide +kernel)) hisR ?_
  intro p e s m args below meth c s₁ Bd hml0 hP hK
  obtain ⟨rfl, hZ, hh⟩ := hP
  have hx := Bd.exec
  have hby := Bd.bytes
  have hml : c.maxLocals = 1 := hml0
  have hown : s.vm.findClass "com/example/envyless/envyless/Journal" = some m.cls := findClass_of_methodNamed Bd.named
  have hnm := (name_of_methodNamed Bd.named Bd.method).1
  have X0 : Stand p l e ({ frames := 2, cells := 1, slots := 16, locals := 33 } : Room) s m #[(.ref j)] below meth c s₁ [] 0 0 := Stand.of_body Bd
  have e0 : s₁.heap = h0 := by rw [← hh, Bd.state]; rfl
  have N0 := Fr.nil n0
  have ef0 : entryFrame m #[(.ref j)] 1 = mkF m 0 #[.val (.ref j)] [] := by first | (simp [entryFrame, mkF, argsToLocals, Value.category, maxLocals]; done) | rfl
  have pre0 : ∀ t, Steps p.tables e below (s₁.setTop (mkF m 0 #[.val (.ref j)] [])) t → Steps p.tables e below (s₁.setTop (entryFrame m #[(.ref j)] 1)) t := fun t k => castTop ef0 k
  obtain ⟨Ej, Fa, Fi, Fv, Fs, Fl, Fo, AAa, AIi, AIv, AIt, AIu, Eu, Ov⟩ := J
  obtain ⟨njA, njI, njV, njT, nju, nAI, nAV, nAT, nAu, nIV, nIT, nIu, nVT, nVu, nTu⟩ := DJ_
  obtain ⟨gej, geA, geI, geV, geT, geu⟩ := GE_
  subst hoE
  obtain ⟨T321, X321, e321, st321⟩ := getF X0 hx hZ hown (host := "") (Or.inl (hw _ (List.mem_of_getElem? (i := 25) rfl))) Via.refl e0 Fo (g := (mkF m 1 #[.val (.ref j)] [(.ref j)])) rfl rfl (hb hby own_d3_1)
  obtain ⟨T322, X322, e322, st322⟩ := getF X321 hx hZ hown (host := "") (Or.inl (hw _ (List.mem_of_getElem? (i := 18) rfl))) Via.refl e321 Fs (g := (mkF m 5 #[.val (.ref j)] [(.ref j), (.int (8 : Int32))])) rfl rfl (hb hby own_d3_5)
  obtain ⟨cl323, Ar323, S323, M323, H323⟩ := id AIt
  have pre324 : ∀ t, Steps p.tables e below (T322.setTop (mkF m 9 #[.val (.ref j)] [(.int (8 : Int32)), (.int (8 : Int32))])) t → Steps p.tables e below (s₁.setTop (entryFrame m #[(.ref j)] 1)) t := fun tt kk => pre0 tt (by
    show Steps p.tables e below (s₁.setTop (mkF m 0 #[.val (.ref j)] [])) _
    refine XS.aloadN X0.here hx rfl (hb hby own_d3_0) rfl rfl ?_
    show Steps p.tables e below (s₁.setTop (mkF m 1 #[.val (.ref j)] [(.ref j)])) _
    refine st321 _ ?_
    show Steps p.tables e below (T321.setTop (mkF m 4 #[.val (.ref j)] [(.int (8 : Int32))])) _
    refine XS.aloadN X321.here hx rfl (hb hby own_d3_4) rfl rfl ?_
    show Steps p.tables e below (T321.setTop (mkF m 5 #[.val (.ref j)] [(.ref j), (.int (8 : Int32))])) _
    refine st322 _ ?_
    show Steps p.tables e below (T322.setTop (mkF m 8 #[.val (.ref j)] [(.ref T), (.int (8 : Int32))])) _
    refine X322.arraylength hx (by rw [e322]; exact Ar323.1) (State.isArrayOf_alike hZ.alike Ar323.2.1) (g := (mkF m 8 #[.val (.ref j)] [(.ref T), (.int (8 : Int32))])) rfl rfl (hb hby own_d3_8) _ ?_
    rw [len_of S323 M323]
    exact kk)
  obtain ⟨T325, X325, e325, st325⟩ := getF X322 hx hZ hown (host := "") (Or.inl (hw _ (List.mem_of_getElem? (i := 18) rfl))) Via.refl e322 Fs (g := (mkF m 14 #[.val (.ref j)] [(.ref j), (.ref j)])) rfl rfl (hb hby own_d3_14)
  obtain ⟨T326, X326, e326, st326⟩ := getF X325 hx hZ hown (host := "") (Or.inl (hw _ (List.mem_of_getElem? (i := 25) rfl))) Via.refl e325 Fo (g := (mkF m 19 #[.val (.ref j)] [(.ref j), (.int (2 : Int32)), (.ref T), (.ref j)])) rfl rfl (hb hby own_d3_19)
  have pre327 : ∀ t, Steps p.tables e below (T326.setTop (mkF m 23 #[.val (.ref j)] [(.int ((2 : Int32) * (8 : Int32))), (.ref T), (.ref j)])) t → Steps p.tables e below (s₁.setTop (entryFrame m #[(.ref j)] 1)) t := fun tt kk => pre324 tt (by
    show Steps p.tables e below (T322.setTop (mkF m 9 #[.val (.ref j)] [(.int (8 : Int32)), (.int (8 : Int32))])) _
    refine XS.icmpNo X322.here hx rfl (hb hby own_d3_9) rfl (teq (by decide : (8 : Int32) = (8 : Int32))).2 ?_
    show Steps p.tables e below (T322.setTop (mkF m 12 #[.val (.ref j)] [])) _
    refine XS.aloadN X322.here hx rfl (hb hby own_d3_12) rfl rfl ?_
    show Steps p.tables e below (T322.setTop (mkF m 13 #[.val (.ref j)] [(.ref j)])) _
    refine XS.aloadN X322.here hx rfl (hb hby own_d3_13) rfl rfl ?_
    show Steps p.tables e below (T322.setTop (mkF m 14 #[.val (.ref j)] [(.ref j), (.ref j)])) _
    refine st325 _ ?_
    show Steps p.tables e below (T325.setTop (mkF m 17 #[.val (.ref j)] [(.ref T), (.ref j)])) _
    refine XS.iconst X325.here hx rfl (hb hby own_d3_17) ?_
    show Steps p.tables e below (T325.setTop (mkF m 18 #[.val (.ref j)] [(.int (2 : Int32)), (.ref T), (.ref j)])) _
    refine XS.aloadN X325.here hx rfl (hb hby own_d3_18) rfl rfl ?_
    show Steps p.tables e below (T325.setTop (mkF m 19 #[.val (.ref j)] [(.ref j), (.int (2 : Int32)), (.ref T), (.ref j)])) _
    refine st326 _ ?_
    show Steps p.tables e below (T326.setTop (mkF m 22 #[.val (.ref j)] [(.int (8 : Int32)), (.int (2 : Int32)), (.ref T), (.ref j)])) _
    refine XS.imul X326.here hx rfl (hb hby own_d3_22) rfl ?_
    exact kk)
  rw [show ((2 : Int32) * (8 : Int32)) = 16 from by decide] at pre327
  obtain ⟨vv328, _, ⟨T328, L328, k328, n328⟩, -, X328, ⟨Lc328, hQ328, l328, y328, z328⟩, st328⟩ := Jvm.LawKit.callS X326 hx (y := (⟨"java/util/Arrays", "copyOf", "([II)[I"⟩ : MethodName)) hown (mvT hZ (hw _ (List.mem_of_getElem? (i := 35) rfl))) (mvT hZ (hw _ (List.mem_of_getElem? (i := 36) rfl))) (mvT hZ (hw _ (List.mem_of_getElem? (i := 37) rfl))) (mvT hZ (hw _ (List.mem_of_getElem? (i := 38) rfl))) (by decide) (backOf (W := 1) (rm_cp l Z a0 hw [] T ft h0 n0 Z0 AIt) hZ (hw _ (List.mem_of_getElem? (i := 38) rfl)) (hw _ (List.mem_of_getElem? (i := 37) rfl)) (by decide) (by decide)) (g := (mkF m 23 #[.val (.ref j)] [(.int (16 : Int32)), (.ref T), (.ref j)])) rfl (by rw [hml]; rfl) (argsL := [(.ref T), (.int (16 : Int32))]) (rest := [(.ref j)]) (lenOf own_pd_2 rfl) rfl (by show 2 * 0 + _ ≤ _; exact Nat.le_of_eq rfl) (hb hby own_d3_23) (fun _ _ => ⟨rfl, e326, (by decide : 0 + 1 ≤ _), (by decide : 0 + 16 ≤ _)⟩)
  dsimp only [Pt.U, Pt.locs, Pt.cells, Pt.slots] at X328 l328 y328 z328 st328 hQ328
  subst l328 y328 z328
  obtain ⟨bT, rfl, N328q, K328, sz328, AIn328⟩ := hQ328
  have N328 := Fr.app N0 N328q
  have gebT : n0 ≤ bT := Nat.le_trans Z0 sz328
  have ne_j_bT : j ≠ bT := Nat.ne_of_lt (Nat.lt_of_lt_of_le Ej.lt sz328)
  have ne_A_bT : A ≠ bT := Nat.ne_of_lt (Nat.lt_of_lt_of_le AAa.lt sz328)
  have ne_I_bT : I ≠ bT := Nat.ne_of_lt (Nat.lt_of_lt_of_le AIi.lt sz328)
  have ne_V_bT : V ≠ bT := Nat.ne_of_lt (Nat.lt_of_lt_of_le AIv.lt sz328)
  have ne_u_bT : u ≠ bT := Nat.ne_of_lt (Nat.lt_of_lt_of_le AIu.lt sz328)
  have f329 : Exa Z T328.heap j "com/example/envyless/envyless/Journal" := Ej.keep K328
  have f330 : Exa Z T328.heap u "[I" := Eu.keep K328
  have f331 : Fld Z T328.heap j "com/example/envyless/envyless/Journal" "arrays" "[[I" (.ref A) := Fa.keep K328 nin0
  have f332 : Fld Z T328.heap j "com/example/envyless/envyless/Journal" "indexes" "[I" (.ref I) := Fi.keep K328 nin0
  have f333 : Fld Z T328.heap j "com/example/envyless/envyless/Journal" "values" "[I" (.ref V) := Fv.keep K328 nin0
  have f334 : Fld Z T328.heap j "com/example/envyless/envyless/Journal" "starts" "[I" (.ref T) := Fs.keep K328 nin0
  have f335 : Fld Z T328.heap j "com/example/envyless/envyless/Journal" "length" "I" (.int ln) := Fl.keep K328 nin0
  have f336 : Fld Z T328.heap j "com/example/envyless/envyless/Journal" "open" "I" (.int (8 : Int32)) := Fo.keep K328 nin0
  have f337 : AA Z T328.heap A kA 64 ln u := AAa.keep K328 nin0
  have f338 : AI Z T328.heap I (64 : Int32) fi := AIi.keep K328 nin0
  have f339 : AI Z T328.heap V (64 : Int32) fv := AIv.keep K328 nin0
  have f340 : AI Z T328.heap u nU fu := AIu.keep K328 nin0
  have f341 : n0 ≤ T328.heap.size := Nat.le_trans Z0 K328.1
  obtain ⟨T342, h342, X342, e342, W342, st342⟩ := putF X328 hx hZ hown (host := "") (Or.inl (hw _ (List.mem_of_getElem? (i := 18) rfl))) Via.refl (rfl : T328.heap = T328.heap) f334 f329 (Or.inl (hw _ (List.mem_of_getElem? (i := 19) rfl))) (hw _ (List.mem_of_getElem? (i := 1) rfl)) (ty := (.array .int)) (by decide) rfl rfl (g := (mkF m 26 #[.val (.ref j)] [(.ref bT), (.ref j)])) rfl rfl (hb hby own_d3_26)
  have N342 := Fr.snoc X342 N328 gej
  have f343 : Exa Z h342 j "com/example/envyless/envyless/Journal" := f329.wr W342
  have f344 : Exa Z h342 u "[I" := f330.wr W342
  have f345 : Fld Z h342 j "com/example/envyless/envyless/Journal" "arrays" "[[I" (.ref A) := f331.other W342 (Or.inr (slot_ne (Or.inl (hw _ (List.mem_of_getElem? (i := 12) rfl))) (Or.inl (hw _ (List.mem_of_getElem? (i := 19) rfl))) (by decide) (t := (.array (.array .int))) (t' := (.array .int)) (by decide) (by decide)))
  have f346 : Fld Z h342 j "com/example/envyless/envyless/Journal" "indexes" "[I" (.ref I) := f332.other W342 (Or.inr (slot_ne (Or.inl (hw _ (List.mem_of_getElem? (i := 15) rfl))) (Or.inl (hw _ (List.mem_of_getElem? (i := 19) rfl))) (by decide) (t := (.array .int)) (t' := (.array .int)) (by decide) (by decide)))
  have f347 : Fld Z h342 j "com/example/envyless/envyless/Journal" "values" "[I" (.ref V) := f333.other W342 (Or.inr (slot_ne (Or.inl (hw _ (List.mem_of_getElem? (i := 17) rfl))) (Or.inl (hw _ (List.mem_of_getElem? (i := 19) rfl))) (by decide) (t := (.array .int)) (t' := (.array .int)) (by decide) (by decide)))
  have f348 : Fld Z h342 j "com/example/envyless/envyless/Journal" "starts" "[I" (.ref bT) := f334.same W342
  have f349 : Fld Z h342 j "com/example/envyless/envyless/Journal" "length" "I" (.int ln) := f335.other W342 (Or.inr (slot_ne (Or.inl (hw _ (List.mem_of_getElem? (i := 28) rfl))) (Or.inl (hw _ (List.mem_of_getElem? (i := 19) rfl))) (by decide) (t := .int) (t' := (.array .int)) (by decide) (by decide)))
  have f350 : Fld Z h342 j "com/example/envyless/envyless/Journal" "open" "I" (.int (8 : Int32)) := f336.other W342 (Or.inr (slot_ne (Or.inl (hw _ (List.mem_of_getElem? (i := 26) rfl))) (Or.inl (hw _ (List.mem_of_getElem? (i := 19) rfl))) (by decide) (t := .int) (t' := (.array .int)) (by decide) (by decide)))
  have f351 : AA Z h342 A kA 64 ln u := f337.other W342 (Ne.symm njA)
  have f352 : AI Z h342 I (64 : Int32) fi := f338.other W342 (Ne.symm njI)
  have f353 : AI Z h342 V (64 : Int32) fv := f339.other W342 (Ne.symm njV)
  have f354 : AI Z h342 u nU fu := f340.other W342 (Ne.symm nju)
  have f355 : n0 ≤ h342.size := Nat.le_trans f341 (Keep.of_wr W342).1
  have f356 : AI Z h342 bT (16 : Int32) (own_gr ft) := AIn328.other W342 (Ne.symm ne_j_bT)
  obtain ⟨T357, X357, e357, st357⟩ := getF X342 hx hZ hown (host := "") (Or.inl (hw _ (List.mem_of_getElem? (i := 18) rfl))) Via.refl e342 f348 (g := (mkF m 30 #[.val (.ref j)] [(.ref j)])) rfl rfl (hb hby own_d3_30)
  obtain ⟨T358, X358, e358, st358⟩ := getF X357 hx hZ hown (host := "") (Or.inl (hw _ (List.mem_of_getElem? (i := 25) rfl))) Via.refl e357 f350 (g := (mkF m 35 #[.val (.ref j)] [(.ref j), (.ref j), (.ref bT)])) rfl rfl (hb hby own_d3_35)
  obtain ⟨T359, h359, X359, e359, W359, st359⟩ := putF X358 hx hZ hown (host := "") (Or.inl (hw _ (List.mem_of_getElem? (i := 25) rfl))) Via.refl e358 f350 f343 (Or.inl (hw _ (List.mem_of_getElem? (i := 26) rfl))) (hw _ (List.mem_of_getElem? (i := 1) rfl)) (ty := .int) (by decide) rfl rfl (g := (mkF m 41 #[.val (.ref j)] [(.int ((8 : Int32) + (1 : Int32))), (.ref j), (.int (8 : Int32)), (.ref bT)])) rfl rfl (hb hby own_d3_41)
  have N359 := Fr.snoc X359 N342 gej
  have f360 : Exa Z h359 j "com/example/envyless/envyless/Journal" := f343.wr W359
  have f361 : Exa Z h359 u "[I" := f344.wr W359
  have f362 : Fld Z h359 j "com/example/envyless/envyless/Journal" "arrays" "[[I" (.ref A) := f345.other W359 (Or.inr (slot_ne (Or.inl (hw _ (List.mem_of_getElem? (i := 12) rfl))) (Or.inl (hw _ (List.mem_of_getElem? (i := 26) rfl))) (by decide) (t := (.array (.array .int))) (t' := .int) (by decide) (by decide)))
  have f363 : Fld Z h359 j "com/example/envyless/envyless/Journal" "indexes" "[I" (.ref I) := f346.other W359 (Or.inr (slot_ne (Or.inl (hw _ (List.mem_of_getElem? (i := 15) rfl))) (Or.inl (hw _ (List.mem_of_getElem? (i := 26) rfl))) (by decide) (t := (.array .int)) (t' := .int) (by decide) (by decide)))
  have f364 : Fld Z h359 j "com/example/envyless/envyless/Journal" "values" "[I" (.ref V) := f347.other W359 (Or.inr (slot_ne (Or.inl (hw _ (List.mem_of_getElem? (i := 17) rfl))) (Or.inl (hw _ (List.mem_of_getElem? (i := 26) rfl))) (by decide) (t := (.array .int)) (t' := .int) (by decide) (by decide)))
  have f365 : Fld Z h359 j "com/example/envyless/envyless/Journal" "starts" "[I" (.ref bT) := f348.other W359 (Or.inr (slot_ne (Or.inl (hw _ (List.mem_of_getElem? (i := 19) rfl))) (Or.inl (hw _ (List.mem_of_getElem? (i := 26) rfl))) (by decide) (t := (.array .int)) (t' := .int) (by decide) (by decide)))
  have f366 : Fld Z h359 j "com/example/envyless/envyless/Journal" "length" "I" (.int ln) := f349.other W359 (Or.inr (slot_ne (Or.inl (hw _ (List.mem_of_getElem? (i := 28) rfl))) (Or.inl (hw _ (List.mem_of_getElem? (i := 26) rfl))) (by decide) (t := .int) (t' := .int) (by decide) (by decide)))
  have f367 : Fld Z h359 j "com/example/envyless/envyless/Journal" "open" "I" (.int ((8 : Int32) + (1 : Int32))) := f350.same W359
  have f368 : AA Z h359 A kA 64 ln u := f351.other W359 (Ne.symm njA)
  have f369 : AI Z h359 I (64 : Int32) fi := f352.other W359 (Ne.symm njI)
  have f370 : AI Z h359 V (64 : Int32) fv := f353.other W359 (Ne.symm njV)
  have f371 : AI Z h359 u nU fu := f354.other W359 (Ne.symm nju)
  have f372 : n0 ≤ h359.size := Nat.le_trans f355 (Keep.of_wr W359).1
  have f373 : AI Z h359 bT (16 : Int32) (own_gr ft) := f356.other W359 (Ne.symm ne_j_bT)
  obtain ⟨T374, X374, e374, st374⟩ := getF X359 hx hZ hown (host := "") (Or.inl (hw _ (List.mem_of_getElem? (i := 27) rfl))) Via.refl e359 f366 (g := (mkF m 45 #[.val (.ref j)] [(.ref j), (.int (8 : Int32)), (.ref bT)])) rfl rfl (hb hby own_d3_45)
  obtain ⟨cl375, Ar375, S375, -, -⟩ := id f373
  obtain ⟨T376, h376, X376, e376, W376, st376⟩ := stI X374 hx hZ e374 Ar375 (j := (8 : Int32)) (inb_of S375 ⟨(by decide), (by decide)⟩) (g := (mkF m 48 #[.val (.ref j)] [(.int ln), (.int (8 : Int32)), (.ref bT)])) rfl rfl (hb hby own_d3_48)
  have N376 := Fr.snoc X376 N359 gebT
  have f377 : Exa Z h376 j "com/example/envyless/envyless/Journal" := f360.wr W376
  have f378 : Exa Z h376 u "[I" := f361.wr W376
  have f379 : Fld Z h376 j "com/example/envyless/envyless/Journal" "arrays" "[[I" (.ref A) := f362.other W376 (Or.inl ne_j_bT)
  have f380 : Fld Z h376 j "com/example/envyless/envyless/Journal" "indexes" "[I" (.ref I) := f363.other W376 (Or.inl ne_j_bT)
  have f381 : Fld Z h376 j "com/example/envyless/envyless/Journal" "values" "[I" (.ref V) := f364.other W376 (Or.inl ne_j_bT)
  have f382 : Fld Z h376 j "com/example/envyless/envyless/Journal" "starts" "[I" (.ref bT) := f365.other W376 (Or.inl ne_j_bT)
  have f383 : Fld Z h376 j "com/example/envyless/envyless/Journal" "length" "I" (.int ln) := f366.other W376 (Or.inl ne_j_bT)
  have f384 : Fld Z h376 j "com/example/envyless/envyless/Journal" "open" "I" (.int ((8 : Int32) + (1 : Int32))) := f367.other W376 (Or.inl ne_j_bT)
  have f385 : AA Z h376 A kA 64 ln u := f368.other W376 ne_A_bT
  have f386 : AI Z h376 I (64 : Int32) fi := f369.other W376 ne_I_bT
  have f387 : AI Z h376 V (64 : Int32) fv := f370.other W376 ne_V_bT
  have f388 : AI Z h376 u nU fu := f371.other W376 ne_u_bT
  have f389 : n0 ≤ h376.size := Nat.le_trans f372 (Keep.of_wr W376).1
  have V376 : AI Z h376 bT (16 : Int32) (up (own_gr ft) (8 : Int32) ln) := f373.set W376 (by decide) (by decide)
  obtain ⟨fs, hr, hrun, hended, hW, hsame⟩ := X376.leave (v := none) (fun _ => rfl)
  refine ⟨_, _, pre327 _ ?_, hrun, hended, _, _, rfl, ?_, ⟨_, rfl⟩, hW, hsame.mono (by decide) (by decide)⟩
  · show Steps p.tables e below (T326.setTop (mkF m 23 #[.val (.ref j)] [(.int (16 : Int32)), (.ref T), (.ref j)])) _
    refine st328 _ ?_
    show Steps p.tables e below (T328.setTop (mkF m 26 #[.val (.ref j)] [(.ref bT), (.ref j)])) _
    refine st342 _ ?_
    show Steps p.tables e below (T342.setTop (mkF m 29 #[.val (.ref j)] [])) _
    refine XS.aloadN X342.here hx rfl (hb hby own_d3_29) rfl rfl ?_
    show Steps p.tables e below (T342.setTop (mkF m 30 #[.val (.ref j)] [(.ref j)])) _
    refine st357 _ ?_
    show Steps p.tables e below (T357.setTop (mkF m 33 #[.val (.ref j)] [(.ref bT)])) _
    refine XS.aloadN X357.here hx rfl (hb hby own_d3_33) rfl rfl ?_
    show Steps p.tables e below (T357.setTop (mkF m 34 #[.val (.ref j)] [(.ref j), (.ref bT)])) _
    refine XS.dup X357.here hx rfl (hb hby own_d3_34) rfl rfl ?_
    show Steps p.tables e below (T357.setTop (mkF m 35 #[.val (.ref j)] [(.ref j), (.ref j), (.ref bT)])) _
    refine st358 _ ?_
    show Steps p.tables e below (T358.setTop (mkF m 38 #[.val (.ref j)] [(.int (8 : Int32)), (.ref j), (.ref bT)])) _
    refine XS.dupX1 X358.here hx rfl (hb hby own_d3_38) rfl rfl rfl ?_
    show Steps p.tables e below (T358.setTop (mkF m 39 #[.val (.ref j)] [(.int (8 : Int32)), (.ref j), (.int (8 : Int32)), (.ref bT)])) _
    refine XS.iconst X358.here hx rfl (hb hby own_d3_39) ?_
    show Steps p.tables e below (T358.setTop (mkF m 40 #[.val (.ref j)] [(.int (1 : Int32)), (.int (8 : Int32)), (.ref j), (.int (8 : Int32)), (.ref bT)])) _
    refine XS.iadd X358.here hx rfl (hb hby own_d3_40) rfl ?_
    show Steps p.tables e below (T358.setTop (mkF m 41 #[.val (.ref j)] [(.int ((8 : Int32) + (1 : Int32))), (.ref j), (.int (8 : Int32)), (.ref bT)])) _
    refine st359 _ ?_
    show Steps p.tables e below (T359.setTop (mkF m 44 #[.val (.ref j)] [(.int (8 : Int32)), (.ref bT)])) _
    refine XS.aloadN X359.here hx rfl (hb hby own_d3_44) rfl rfl ?_
    show Steps p.tables e below (T359.setTop (mkF m 45 #[.val (.ref j)] [(.ref j), (.int (8 : Int32)), (.ref bT)])) _
    refine st374 _ ?_
    show Steps p.tables e below (T374.setTop (mkF m 48 #[.val (.ref j)] [(.int ln), (.int (8 : Int32)), (.ref bT)])) _
    refine st376 _ ?_
    show Steps p.tables e below (T376.setTop (mkF m 49 #[.val (.ref j)] [])) _
    exact X376.returnOut hx Bd.returns (hb hby own_d3_49) hr
  · show JG Z j A I V u kA _ _ _ _ _ _ _ n0 _ T376.heap _
    rw [e376]
    exact ⟨rfl, N376, f389, bT, gebT, ⟨ne_j_bT, ne_A_bT, ne_I_bT, ne_V_bT, Ne.symm ne_u_bT⟩, f377, f379, f380, f381, f382, f383, f384, f385, f386, f387, V376, f388, f378, Ov⟩
set_option maxRecDepth 65536 in
set_option maxHeartbeats 40000000 in
theorem rm0 (l : Launch) (Z : State) (a0 : Array Value) (hw : ∀ d ∈ tables_1, d.before a0 Z = true) (ws : List Jvm.Cond) (x0 x1 x2 x3 x4 : Int32) (h0 : Heap) (n0 : Nat) (Z0 : n0 ≤ h0.size)  :
    MetFree l x (head1 (Jvm.Cond.code x code maxLocals ret :: ws) room_1) (fun a U => a = #[(.int x0), (.int x1), (.int x2), (.int x3), (.int x4)] ∧ Z.Warmed39 U.vm ∧ U.heap = h0) (fun _ _ _ _ _ => True) (fun _ U o U' => ∃ v L, o = .returned v ∧ Q1 n0 v U'.heap L ∧ FrameEnd U o U' L room_1.cells room_1.slots) := by
  refine MetFree.of_bodySF (plainFor_of_name (by first | (simp [plainName, overriddenIn]; done) | decide +kernel)) hisR ?_
  intro p e s m args below meth c s₁ Bd hml0 hP hK
  obtain ⟨rfl, hZ, hh⟩ := hP
  have hx := Bd.exec
  have hby := Bd.bytes
  have hml : c.maxLocals = 9 := hml0
  have hown : s.vm.findClass "com/example/envyless/envyless/JournalStartPinLaw" = some m.cls := findClass_of_methodNamed Bd.named
  have hnm := (name_of_methodNamed Bd.named Bd.method).1
  have X0 : Stand p l e room_1 s m #[(.int x0), (.int x1), (.int x2), (.int x3), (.int x4)] below meth c s₁ [] 0 0 := Stand.of_body Bd
  have e0 : s₁.heap = h0 := by rw [← hh, Bd.state]; rfl
  have N0 := Fr.nil n0
  have ef0 : entryFrame m #[(.int x0), (.int x1), (.int x2), (.int x3), (.int x4)] maxLocals = mkF m 0 #[.val (.int x0), .val (.int x1), .val (.int x2), .val (.int x3), .val (.int x4), .unset, .unset, .unset, .unset] [] := by first | (simp [entryFrame, mkF, argsToLocals, Value.category, maxLocals]; done) | rfl
  have pre0 : ∀ t, Steps p.tables e below (s₁.setTop (mkF m 0 #[.val (.int x0), .val (.int x1), .val (.int x2), .val (.int x3), .val (.int x4), .unset, .unset, .unset, .unset] [])) t → Steps p.tables e below (s₁.setTop (entryFrame m #[(.int x0), (.int x1), (.int x2), (.int x3), (.int x4)] maxLocals)) t := fun t k => castTop ef0 k
  obtain ⟨T390, h390, X390, e390, E390, A390, D390, -, st390⟩ := newO X0 hx hZ hown (hw _ (List.mem_of_getElem? (i := 0) rfl)) (hw _ (List.mem_of_getElem? (i := 1) rfl)) (hw _ (List.mem_of_getElem? (i := 2) rfl)) e0 (g := (mkF m 0 #[.val (.int x0), .val (.int x1), .val (.int x2), .val (.int x3), .val (.int x4), .unset, .unset, .unset, .unset] [])) rfl (hb hby at_0) (by decide) (by decide)
  obtain ⟨b390, g390⟩ : ∃ z, z = h0.size := ⟨_, rfl⟩
  rw [← g390] at A390 D390 st390
  have ge_b390 : n0 ≤ b390 := Nat.le_trans Z0 (Nat.le_of_eq g390.symm)
  have f391 : n0 ≤ h390.size := Nat.le_trans Z0 E390.1
  have F390_12 : Fld Z h390 b390 "com/example/envyless/envyless/Journal" "arrays" "[[I" .null := D390 (Or.inl (hw _ (List.mem_of_getElem? (i := 12) rfl))) (ty := (.array (.array .int))) (by decide)
  have F390_15 : Fld Z h390 b390 "com/example/envyless/envyless/Journal" "indexes" "[I" .null := D390 (Or.inl (hw _ (List.mem_of_getElem? (i := 15) rfl))) (ty := (.array .int)) (by decide)
  have F390_17 : Fld Z h390 b390 "com/example/envyless/envyless/Journal" "values" "[I" .null := D390 (Or.inl (hw _ (List.mem_of_getElem? (i := 17) rfl))) (ty := (.array .int)) (by decide)
  have F390_19 : Fld Z h390 b390 "com/example/envyless/envyless/Journal" "starts" "[I" .null := D390 (Or.inl (hw _ (List.mem_of_getElem? (i := 19) rfl))) (ty := (.array .int)) (by decide)
  have F390_26 : Fld Z h390 b390 "com/example/envyless/envyless/Journal" "open" "I" (.int (0 : Int32)) := D390 (Or.inl (hw _ (List.mem_of_getElem? (i := 26) rfl))) (ty := .int) (by decide)
  have F390_28 : Fld Z h390 b390 "com/example/envyless/envyless/Journal" "length" "I" (.int (0 : Int32)) := D390 (Or.inl (hw _ (List.mem_of_getElem? (i := 28) rfl))) (ty := .int) (by decide)
  obtain ⟨vv392, _, ⟨T392, L392, k392, n392⟩, -, X392, ⟨Lc392, hQ392, l392, y392, z392⟩, st392⟩ := X390.specialBack hx (y := (⟨"com/example/envyless/envyless/Journal", "<init>", "()V"⟩ : MethodName)) rfl hown (mvT hZ (hw _ (List.mem_of_getElem? (i := 3) rfl))) (mvT hZ (hw _ (List.mem_of_getElem? (i := 4) rfl))) (mvT hZ (hw _ (List.mem_of_getElem? (i := 5) rfl))) (by decide) (backOf (W := 1) (rm_init l Z a0 hw [] b390 h390 n0 f391 A390 F390_12 F390_15 F390_17 F390_19 F390_28 F390_26 ge_b390) hZ (hw _ (List.mem_of_getElem? (i := 5) rfl)) (hw _ (List.mem_of_getElem? (i := 2) rfl)) (by decide) (by decide)) (g := (mkF m 4 #[.val (.int x0), .val (.int x1), .val (.int x2), .val (.int x3), .val (.int x4), .unset, .unset, .unset, .unset] [(.ref b390), (.ref b390)])) rfl (by rw [hml]; rfl) (Steps.refl _) (a := b390) (argsL := []) (rest := [(.ref b390)]) (lenOf own_pd_3 rfl) rfl (by show 2 * 0 + _ ≤ _; exact Nat.le_of_eq rfl) (hb hby at_4) (fun _ _ => ⟨rfl, e390, (by decide : 1 + 4 ≤ _), (by decide : 6 + 200 ≤ _)⟩)
  dsimp only [Pt.U, Pt.locs, Pt.cells, Pt.slots] at X392 l392 y392 z392 st392 hQ392
  subst l392 y392 z392
  obtain ⟨rfl, N392q, K392, jA, jI, jV, jT, kA, Ej_, Fa_, Fi_, Fv_, Fs_, Fl_, Fo_, AA_, AIi_, AIv_, AIt_, Ov, ⟨gA_, gI_, gV_, gT_⟩, q1, q2, q3, q4, q5, q6, q7, q8, q9, q10⟩ := hQ392
  have N392 := Fr.app N0 N392q
  have gjA : n0 ≤ jA := Nat.le_trans f391 gA_
  have gjI : n0 ≤ jI := Nat.le_trans f391 gI_
  have gjV : n0 ≤ jV := Nat.le_trans f391 gV_
  have gjT : n0 ≤ jT := Nat.le_trans f391 gT_
  have f393 : n0 ≤ T392.heap.size := Nat.le_trans f391 K392.1
  have f394 : Exa Z T392.heap b390 "com/example/envyless/envyless/Journal" := A390.keep K392
  obtain ⟨T395, h395, k395, X395, e395, E395, A395, B395, st395⟩ := newPE X392 hx hZ (hw _ (List.mem_of_getElem? (i := 13) rfl)) (rfl : T392.heap = T392.heap) (g := (mkF m 10 #[.val (.int x0), .val (.int x1), .val (.int x2), .val (.int x3), .val (.int x4), .val (.ref b390), .unset, .unset, .unset] [(.int (2 : Int32))])) rfl (hb hby at_10) rfl (by decide) (cap := 2) (by decide) (by decide) (by decide) (by decide) (ad := "[I") (by decide)
  obtain ⟨b395, g395⟩ : ∃ z, z = T392.heap.size := ⟨_, rfl⟩
  rw [← g395] at A395 B395 st395
  have ne_b390_b395 : b390 ≠ b395 := Nat.ne_of_lt (Nat.lt_of_lt_of_le (Ej_).lt (Nat.le_of_eq g395.symm))
  have ne_jA_b395 : jA ≠ b395 := Nat.ne_of_lt (Nat.lt_of_lt_of_le ((AA_ 0)).lt (Nat.le_of_eq g395.symm))
  have ne_jI_b395 : jI ≠ b395 := Nat.ne_of_lt (Nat.lt_of_lt_of_le (AIi_).lt (Nat.le_of_eq g395.symm))
  have ne_jV_b395 : jV ≠ b395 := Nat.ne_of_lt (Nat.lt_of_lt_of_le (AIv_).lt (Nat.le_of_eq g395.symm))
  have ne_jT_b395 : jT ≠ b395 := Nat.ne_of_lt (Nat.lt_of_lt_of_le (AIt_).lt (Nat.le_of_eq g395.symm))
  have ge_b395 : n0 ≤ b395 := Nat.le_trans f393 (Nat.le_of_eq g395.symm)
  have f396 : n0 ≤ h395.size := Nat.le_trans f393 E395.1
  have f397 : Exa Z h395 b390 "com/example/envyless/envyless/Journal" := Ej_.ext E395
  have f398 : Fld Z h395 b390 "com/example/envyless/envyless/Journal" "arrays" "[[I" (.ref jA) := Fa_.ext E395
  have f399 : Fld Z h395 b390 "com/example/envyless/envyless/Journal" "indexes" "[I" (.ref jI) := Fi_.ext E395
  have f400 : Fld Z h395 b390 "com/example/envyless/envyless/Journal" "values" "[I" (.ref jV) := Fv_.ext E395
  have f401 : Fld Z h395 b390 "com/example/envyless/envyless/Journal" "starts" "[I" (.ref jT) := Fs_.ext E395
  have f402 : Fld Z h395 b390 "com/example/envyless/envyless/Journal" "length" "I" (.int (0 : Int32)) := Fl_.ext E395
  have f403 : Fld Z h395 b390 "com/example/envyless/envyless/Journal" "open" "I" (.int (0 : Int32)) := Fo_.ext E395
  have f404 : ∀ uu, AA Z h395 jA kA 64 0 uu := fun uu => (AA_ uu).ext E395
  have f405 : AI Z h395 jI (64 : Int32) (fun _ => 0) := AIi_.ext E395
  have f406 : AI Z h395 jV (64 : Int32) (fun _ => 0) := AIv_.ext E395
  have f407 : AI Z h395 jT (8 : Int32) (fun _ => 0) := AIt_.ext E395
  have V395 : AI Z h395 b395 (2 : Int32) (fun _ => 0) := AI.new A395 (by decide)
  obtain ⟨cl408, Ar408, S408, -, -⟩ := id V395
  obtain ⟨T409, h409, X409, e409, W409, st409⟩ := stI X395 hx hZ e395 Ar408 (j := (0 : Int32)) (inb_of S408 ⟨(by decide), (by decide)⟩) (g := (mkF m 18 #[.val (.int x0), .val (.int x1), .val (.int x2), .val (.int x3), .val (.int x4), .val (.ref b390), .val (.ref b395), .unset, .unset] [(.int x0), (.int (0 : Int32)), (.ref b395)])) rfl rfl (hb hby at_18)
  have N409 := Fr.snoc X409 N392 ge_b395
  have f410 : n0 ≤ h409.size := Nat.le_trans f396 (Keep.of_wr W409).1
  have f411 : Exa Z h409 b390 "com/example/envyless/envyless/Journal" := f397.wr W409
  have f412 : Fld Z h409 b390 "com/example/envyless/envyless/Journal" "arrays" "[[I" (.ref jA) := f398.other W409 (Or.inl ne_b390_b395)
  have f413 : Fld Z h409 b390 "com/example/envyless/envyless/Journal" "indexes" "[I" (.ref jI) := f399.other W409 (Or.inl ne_b390_b395)
  have f414 : Fld Z h409 b390 "com/example/envyless/envyless/Journal" "values" "[I" (.ref jV) := f400.other W409 (Or.inl ne_b390_b395)
  have f415 : Fld Z h409 b390 "com/example/envyless/envyless/Journal" "starts" "[I" (.ref jT) := f401.other W409 (Or.inl ne_b390_b395)
  have f416 : Fld Z h409 b390 "com/example/envyless/envyless/Journal" "length" "I" (.int (0 : Int32)) := f402.other W409 (Or.inl ne_b390_b395)
  have f417 : Fld Z h409 b390 "com/example/envyless/envyless/Journal" "open" "I" (.int (0 : Int32)) := f403.other W409 (Or.inl ne_b390_b395)
  have f418 : ∀ uu, AA Z h409 jA kA 64 0 uu := fun uu => (f404 uu).other W409 ne_jA_b395
  have f419 : AI Z h409 jI (64 : Int32) (fun _ => 0) := f405.other W409 ne_jI_b395
  have f420 : AI Z h409 jV (64 : Int32) (fun _ => 0) := f406.other W409 ne_jV_b395
  have f421 : AI Z h409 jT (8 : Int32) (fun _ => 0) := f407.other W409 ne_jT_b395
  have f422 : Exa Z h409 b395 "[I" := B395.wr W409
  have V409 : AI Z h409 b395 (2 : Int32) (up (fun _ => 0) (0 : Int32) x0) := V395.set W409 (by decide) (by decide)
  obtain ⟨cl423, Ar423, S423, -, -⟩ := id V409
  obtain ⟨T424, h424, X424, e424, W424, st424⟩ := stI X409 hx hZ e409 Ar423 (j := (1 : Int32)) (inb_of S423 ⟨(by decide), (by decide)⟩) (g := (mkF m 23 #[.val (.int x0), .val (.int x1), .val (.int x2), .val (.int x3), .val (.int x4), .val (.ref b390), .val (.ref b395), .unset, .unset] [(.int x1), (.int (1 : Int32)), (.ref b395)])) rfl rfl (hb hby at_23)
  have N424 := Fr.snoc X424 N409 ge_b395
  have f425 : n0 ≤ h424.size := Nat.le_trans f410 (Keep.of_wr W424).1
  have f426 : Exa Z h424 b390 "com/example/envyless/envyless/Journal" := f411.wr W424
  have f427 : Fld Z h424 b390 "com/example/envyless/envyless/Journal" "arrays" "[[I" (.ref jA) := f412.other W424 (Or.inl ne_b390_b395)
  have f428 : Fld Z h424 b390 "com/example/envyless/envyless/Journal" "indexes" "[I" (.ref jI) := f413.other W424 (Or.inl ne_b390_b395)
  have f429 : Fld Z h424 b390 "com/example/envyless/envyless/Journal" "values" "[I" (.ref jV) := f414.other W424 (Or.inl ne_b390_b395)
  have f430 : Fld Z h424 b390 "com/example/envyless/envyless/Journal" "starts" "[I" (.ref jT) := f415.other W424 (Or.inl ne_b390_b395)
  have f431 : Fld Z h424 b390 "com/example/envyless/envyless/Journal" "length" "I" (.int (0 : Int32)) := f416.other W424 (Or.inl ne_b390_b395)
  have f432 : Fld Z h424 b390 "com/example/envyless/envyless/Journal" "open" "I" (.int (0 : Int32)) := f417.other W424 (Or.inl ne_b390_b395)
  have f433 : ∀ uu, AA Z h424 jA kA 64 0 uu := fun uu => (f418 uu).other W424 ne_jA_b395
  have f434 : AI Z h424 jI (64 : Int32) (fun _ => 0) := f419.other W424 ne_jI_b395
  have f435 : AI Z h424 jV (64 : Int32) (fun _ => 0) := f420.other W424 ne_jV_b395
  have f436 : AI Z h424 jT (8 : Int32) (fun _ => 0) := f421.other W424 ne_jT_b395
  have f437 : Exa Z h424 b395 "[I" := f422.wr W424
  have V424 : AI Z h424 b395 (2 : Int32) (up (up (fun _ => 0) (0 : Int32) x0) (1 : Int32) x1) := V409.set W424 (by decide) (by decide)
  obtain ⟨fu0, hfu0⟩ : ∃ f : Int32 → Int32, f = (up (up (fun _ => 0) (0 : Int32) x0) (1 : Int32) x1) := ⟨_, rfl⟩
  have AIu438 : AI Z h424 b395 (2 : Int32) fu0 := by rw [hfu0]; exact V424
  have J439 : JS Z h424 b390 jA jI jV jT b395 kA (0 : Int32) (0 : Int32) (8 : Int32) (2 : Int32) (fun _ => 0) (fun _ => 0) (fun _ => 0) fu0 := ⟨f426, f427, f428, f429, f430, f431, f432, f433 b395, f434, f435, f436, AIu438, f437, Ov⟩
  have DJv : DJ b390 jA jI jV jT b395 := ⟨q1, q2, q3, q4, ne_b390_b395, q5, q6, q7, ne_jA_b395, q8, q9, ne_jI_b395, q10, ne_jV_b395, ne_jT_b395⟩
  have GEv : GE n0 b390 jA jI jV jT b395 := ⟨ge_b390, gjA, gjI, gjV, gjT, ge_b395⟩
  obtain ⟨Lg440, X440, N440⟩ : ∃ Lg, Stand p l e room_1 s m #[(.int x0), (.int x1), (.int x2), (.int x3), (.int x4)] below meth c T424 Lg 6 208 ∧ Fr n0 Lg := ⟨_, X424, N424⟩
  obtain ⟨cq441, kq441, q441a, q441b, q441c⟩ := isOf hZ e424 J439.1
  obtain ⟨vv441, _, ⟨T441, L441, k441, n441⟩, -, X441, ⟨Lc441, hQ441, l441, y441, z441⟩, st441⟩ := X440.virtualBack hx (y := (⟨"com/example/envyless/envyless/Journal", "start", "()V"⟩ : MethodName)) (z := (⟨"com/example/envyless/envyless/Journal", "start", "()V"⟩ : MethodName)) hown (mvT hZ (hw _ (List.mem_of_getElem? (i := 20) rfl))) (mvT hZ (hw _ (List.mem_of_getElem? (i := 21) rfl))) (notFace_of_selects (args := #[]) (mvT hZ (hw _ (List.mem_of_getElem? (i := 23) rfl)))) (mvT hZ (hw _ (List.mem_of_getElem? (i := 23) rfl))) (mvT hZ (hw _ (List.mem_of_getElem? (i := 22) rfl))) (by decide) (backOf (W := 0) (rm_start l Z a0 hw [] b390 jA jI jV jT b395 kA (0 : Int32) (0 : Int32) (8 : Int32) (2 : Int32) (fun _ => 0) (fun _ => 0) (fun _ => 0) fu0 (1 : Int32) h424 n0 f425 J439 DJv GEv (by decide) (by decide) (by decide)) hZ (hw _ (List.mem_of_getElem? (i := 24) rfl)) (hw _ (List.mem_of_getElem? (i := 2) rfl)) (by decide) (by decide)) q441a q441c (g := (mkF m 26 #[.val (.int x0), .val (.int x1), .val (.int x2), .val (.int x3), .val (.int x4), .val (.ref b390), .val (.ref b395), .unset, .unset] [(.ref b390)])) rfl (by rw [hml]; rfl) (Steps.refl _) (argsL := []) (rest := []) (lenOf own_pd_3 rfl) rfl (by show 2 * 0 + _ ≤ _; exact Nat.le_of_eq rfl) (hb hby at_26) (fun _ _ => ⟨rfl, e424, (by decide : 6 + 0 ≤ _), (by decide : 208 + 0 ≤ _)⟩)
  dsimp only [Pt.U, Pt.locs, Pt.cells, Pt.slots] at X441 l441 y441 z441 st441 hQ441
  subst l441 y441 z441
  obtain ⟨rfl, N441q, Z441, J441⟩ := hQ441
  have N441 := Fr.app N440 N441q
  have AIu441 : AI Z T441.heap b395 (2 : Int32) fu0 := J441.2.2.2.2.2.2.2.2.2.2.2.1
  obtain ⟨cq442, kq442, q442a, q442b, q442c⟩ := isOf hZ (rfl : T441.heap = T441.heap) J441.1
  obtain ⟨vv442, _, ⟨T442, L442, k442, n442⟩, -, X442, ⟨Lc442, hQ442, l442, y442, z442⟩, st442⟩ := X441.virtualBack hx (y := (⟨"com/example/envyless/envyless/Journal", "set", "([III)V"⟩ : MethodName)) (z := (⟨"com/example/envyless/envyless/Journal", "set", "([III)V"⟩ : MethodName)) hown (mvT hZ (hw _ (List.mem_of_getElem? (i := 29) rfl))) (mvT hZ (hw _ (List.mem_of_getElem? (i := 30) rfl))) (notFace_of_selects (args := #[]) (mvT hZ (hw _ (List.mem_of_getElem? (i := 32) rfl)))) (mvT hZ (hw _ (List.mem_of_getElem? (i := 32) rfl))) (mvT hZ (hw _ (List.mem_of_getElem? (i := 31) rfl))) (by decide) (backOf (W := 0) (rm_set1 l Z a0 hw [] b390 jA jI jV jT b395 kA (0 : Int32) (1 : Int32) (8 : Int32) (2 : Int32) (fun _ => 0) (fun _ => 0) (up (fun _ => 0) (0 : Int32) (0 : Int32)) fu0 (1 : Int32) (0 : Int32) x2 T441.heap n0 Z441 J441 DJv GEv (by decide) (by decide) (by decide) (by decide) (by decide) (by decide)) hZ (hw _ (List.mem_of_getElem? (i := 33) rfl)) (hw _ (List.mem_of_getElem? (i := 2) rfl)) (by decide) (by decide)) q442a q442c (g := (mkF m 35 #[.val (.int x0), .val (.int x1), .val (.int x2), .val (.int x3), .val (.int x4), .val (.ref b390), .val (.ref b395), .unset, .unset] [(.int x2), (.int (0 : Int32)), (.ref b395), (.ref b390)])) rfl (by rw [hml]; rfl) (Steps.refl _) (argsL := [(.ref b395), (.int (0 : Int32)), (.int x2)]) (rest := []) (lenOf own_pd_4 rfl) rfl (by show 2 * 0 + _ ≤ _; exact Nat.le_of_eq rfl) (hb hby at_35) (fun _ _ => ⟨rfl, (rfl : T441.heap = T441.heap), (by decide : 6 + 0 ≤ _), (by decide : 208 + 0 ≤ _)⟩)
  dsimp only [Pt.U, Pt.locs, Pt.cells, Pt.slots] at X442 l442 y442 z442 st442 hQ442
  subst l442 y442 z442
  obtain ⟨rfl, N442q, Z442, J442⟩ := hQ442
  have N442 := Fr.app N441 N442q
  have AIu442 : AI Z T442.heap b395 (2 : Int32) (up fu0 (0 : Int32) x2) := J442.2.2.2.2.2.2.2.2.2.2.2.1
  obtain ⟨Lg443, X443, N443⟩ : ∃ Lg, Stand p l e room_1 s m #[(.int x0), (.int x1), (.int x2), (.int x3), (.int x4)] below meth c T442 Lg 6 208 ∧ Fr n0 Lg := ⟨_, X442, N442⟩
  obtain ⟨cq444, kq444, q444a, q444b, q444c⟩ := isOf hZ (rfl : T442.heap = T442.heap) J442.1
  obtain ⟨vv444, _, ⟨T444, L444, k444, n444⟩, -, X444, ⟨Lc444, hQ444, l444, y444, z444⟩, st444⟩ := X443.virtualBack hx (y := (⟨"com/example/envyless/envyless/Journal", "start", "()V"⟩ : MethodName)) (z := (⟨"com/example/envyless/envyless/Journal", "start", "()V"⟩ : MethodName)) hown (mvT hZ (hw _ (List.mem_of_getElem? (i := 20) rfl))) (mvT hZ (hw _ (List.mem_of_getElem? (i := 21) rfl))) (notFace_of_selects (args := #[]) (mvT hZ (hw _ (List.mem_of_getElem? (i := 23) rfl)))) (mvT hZ (hw _ (List.mem_of_getElem? (i := 23) rfl))) (mvT hZ (hw _ (List.mem_of_getElem? (i := 22) rfl))) (by decide) (backOf (W := 0) (rm_start l Z a0 hw [] b390 jA jI jV jT b395 kA (1 : Int32) (1 : Int32) (8 : Int32) (2 : Int32) (up (fun _ => 0) (0 : Int32) (0 : Int32)) (up (fun _ => 0) (0 : Int32) (fu0 (0 : Int32))) (up (fun _ => 0) (0 : Int32) (0 : Int32)) (up fu0 (0 : Int32) x2) (2 : Int32) T442.heap n0 Z442 J442 DJv GEv (by decide) (by decide) (by decide)) hZ (hw _ (List.mem_of_getElem? (i := 24) rfl)) (hw _ (List.mem_of_getElem? (i := 2) rfl)) (by decide) (by decide)) q444a q444c (g := (mkF m 40 #[.val (.int x0), .val (.int x1), .val (.int x2), .val (.int x3), .val (.int x4), .val (.ref b390), .val (.ref b395), .unset, .unset] [(.ref b390)])) rfl (by rw [hml]; rfl) (Steps.refl _) (argsL := []) (rest := []) (lenOf own_pd_3 rfl) rfl (by show 2 * 0 + _ ≤ _; exact Nat.le_of_eq rfl) (hb hby at_40) (fun _ _ => ⟨rfl, (rfl : T442.heap = T442.heap), (by decide : 6 + 0 ≤ _), (by decide : 208 + 0 ≤ _)⟩)
  dsimp only [Pt.U, Pt.locs, Pt.cells, Pt.slots] at X444 l444 y444 z444 st444 hQ444
  subst l444 y444 z444
  obtain ⟨rfl, N444q, Z444, J444⟩ := hQ444
  have N444 := Fr.app N443 N444q
  have AIu444 : AI Z T444.heap b395 (2 : Int32) (up fu0 (0 : Int32) x2) := J444.2.2.2.2.2.2.2.2.2.2.2.1
  obtain ⟨cq445, kq445, q445a, q445b, q445c⟩ := isOf hZ (rfl : T444.heap = T444.heap) J444.1
  obtain ⟨vv445, _, ⟨T445, L445, k445, n445⟩, -, X445, ⟨Lc445, hQ445, l445, y445, z445⟩, st445⟩ := X444.virtualBack hx (y := (⟨"com/example/envyless/envyless/Journal", "start", "()V"⟩ : MethodName)) (z := (⟨"com/example/envyless/envyless/Journal", "start", "()V"⟩ : MethodName)) hown (mvT hZ (hw _ (List.mem_of_getElem? (i := 20) rfl))) (mvT hZ (hw _ (List.mem_of_getElem? (i := 21) rfl))) (notFace_of_selects (args := #[]) (mvT hZ (hw _ (List.mem_of_getElem? (i := 23) rfl)))) (mvT hZ (hw _ (List.mem_of_getElem? (i := 23) rfl))) (mvT hZ (hw _ (List.mem_of_getElem? (i := 22) rfl))) (by decide) (backOf (W := 0) (rm_start l Z a0 hw [] b390 jA jI jV jT b395 kA (1 : Int32) (2 : Int32) (8 : Int32) (2 : Int32) (up (fun _ => 0) (0 : Int32) (0 : Int32)) (up (fun _ => 0) (0 : Int32) (fu0 (0 : Int32))) (up (up (fun _ => 0) (0 : Int32) (0 : Int32)) (1 : Int32) (1 : Int32)) (up fu0 (0 : Int32) x2) (3 : Int32) T444.heap n0 Z444 J444 DJv GEv (by decide) (by decide) (by decide)) hZ (hw _ (List.mem_of_getElem? (i := 24) rfl)) (hw _ (List.mem_of_getElem? (i := 2) rfl)) (by decide) (by decide)) q445a q445c (g := (mkF m 45 #[.val (.int x0), .val (.int x1), .val (.int x2), .val (.int x3), .val (.int x4), .val (.ref b390), .val (.ref b395), .unset, .unset] [(.ref b390)])) rfl (by rw [hml]; rfl) (Steps.refl _) (argsL := []) (rest := []) (lenOf own_pd_3 rfl) rfl (by show 2 * 0 + _ ≤ _; exact Nat.le_of_eq rfl) (hb hby at_45) (fun _ _ => ⟨rfl, (rfl : T444.heap = T444.heap), (by decide : 6 + 0 ≤ _), (by decide : 208 + 0 ≤ _)⟩)
  dsimp only [Pt.U, Pt.locs, Pt.cells, Pt.slots] at X445 l445 y445 z445 st445 hQ445
  subst l445 y445 z445
  obtain ⟨rfl, N445q, Z445, J445⟩ := hQ445
  have N445 := Fr.app N444 N445q
  have AIu445 : AI Z T445.heap b395 (2 : Int32) (up fu0 (0 : Int32) x2) := J445.2.2.2.2.2.2.2.2.2.2.2.1
  obtain ⟨Lg446, X446, N446⟩ : ∃ Lg, Stand p l e room_1 s m #[(.int x0), (.int x1), (.int x2), (.int x3), (.int x4)] below meth c T445 Lg 6 208 ∧ Fr n0 Lg := ⟨_, X445, N445⟩
  obtain ⟨cq447, kq447, q447a, q447b, q447c⟩ := isOf hZ (rfl : T445.heap = T445.heap) J445.1
  obtain ⟨vv447, _, ⟨T447, L447, k447, n447⟩, -, X447, ⟨Lc447, hQ447, l447, y447, z447⟩, st447⟩ := X446.virtualBack hx (y := (⟨"com/example/envyless/envyless/Journal", "start", "()V"⟩ : MethodName)) (z := (⟨"com/example/envyless/envyless/Journal", "start", "()V"⟩ : MethodName)) hown (mvT hZ (hw _ (List.mem_of_getElem? (i := 20) rfl))) (mvT hZ (hw _ (List.mem_of_getElem? (i := 21) rfl))) (notFace_of_selects (args := #[]) (mvT hZ (hw _ (List.mem_of_getElem? (i := 23) rfl)))) (mvT hZ (hw _ (List.mem_of_getElem? (i := 23) rfl))) (mvT hZ (hw _ (List.mem_of_getElem? (i := 22) rfl))) (by decide) (backOf (W := 0) (rm_start l Z a0 hw [] b390 jA jI jV jT b395 kA (1 : Int32) (3 : Int32) (8 : Int32) (2 : Int32) (up (fun _ => 0) (0 : Int32) (0 : Int32)) (up (fun _ => 0) (0 : Int32) (fu0 (0 : Int32))) (up (up (up (fun _ => 0) (0 : Int32) (0 : Int32)) (1 : Int32) (1 : Int32)) (2 : Int32) (1 : Int32)) (up fu0 (0 : Int32) x2) (4 : Int32) T445.heap n0 Z445 J445 DJv GEv (by decide) (by decide) (by decide)) hZ (hw _ (List.mem_of_getElem? (i := 24) rfl)) (hw _ (List.mem_of_getElem? (i := 2) rfl)) (by decide) (by decide)) q447a q447c (g := (mkF m 50 #[.val (.int x0), .val (.int x1), .val (.int x2), .val (.int x3), .val (.int x4), .val (.ref b390), .val (.ref b395), .unset, .unset] [(.ref b390)])) rfl (by rw [hml]; rfl) (Steps.refl _) (argsL := []) (rest := []) (lenOf own_pd_3 rfl) rfl (by show 2 * 0 + _ ≤ _; exact Nat.le_of_eq rfl) (hb hby at_50) (fun _ _ => ⟨rfl, (rfl : T445.heap = T445.heap), (by decide : 6 + 0 ≤ _), (by decide : 208 + 0 ≤ _)⟩)
  dsimp only [Pt.U, Pt.locs, Pt.cells, Pt.slots] at X447 l447 y447 z447 st447 hQ447
  subst l447 y447 z447
  obtain ⟨rfl, N447q, Z447, J447⟩ := hQ447
  have N447 := Fr.app N446 N447q
  have AIu447 : AI Z T447.heap b395 (2 : Int32) (up fu0 (0 : Int32) x2) := J447.2.2.2.2.2.2.2.2.2.2.2.1
  obtain ⟨cq448, kq448, q448a, q448b, q448c⟩ := isOf hZ (rfl : T447.heap = T447.heap) J447.1
  obtain ⟨vv448, _, ⟨T448, L448, k448, n448⟩, -, X448, ⟨Lc448, hQ448, l448, y448, z448⟩, st448⟩ := X447.virtualBack hx (y := (⟨"com/example/envyless/envyless/Journal", "start", "()V"⟩ : MethodName)) (z := (⟨"com/example/envyless/envyless/Journal", "start", "()V"⟩ : MethodName)) hown (mvT hZ (hw _ (List.mem_of_getElem? (i := 20) rfl))) (mvT hZ (hw _ (List.mem_of_getElem? (i := 21) rfl))) (notFace_of_selects (args := #[]) (mvT hZ (hw _ (List.mem_of_getElem? (i := 23) rfl)))) (mvT hZ (hw _ (List.mem_of_getElem? (i := 23) rfl))) (mvT hZ (hw _ (List.mem_of_getElem? (i := 22) rfl))) (by decide) (backOf (W := 0) (rm_start l Z a0 hw [] b390 jA jI jV jT b395 kA (1 : Int32) (4 : Int32) (8 : Int32) (2 : Int32) (up (fun _ => 0) (0 : Int32) (0 : Int32)) (up (fun _ => 0) (0 : Int32) (fu0 (0 : Int32))) (up (up (up (up (fun _ => 0) (0 : Int32) (0 : Int32)) (1 : Int32) (1 : Int32)) (2 : Int32) (1 : Int32)) (3 : Int32) (1 : Int32)) (up fu0 (0 : Int32) x2) (5 : Int32) T447.heap n0 Z447 J447 DJv GEv (by decide) (by decide) (by decide)) hZ (hw _ (List.mem_of_getElem? (i := 24) rfl)) (hw _ (List.mem_of_getElem? (i := 2) rfl)) (by decide) (by decide)) q448a q448c (g := (mkF m 55 #[.val (.int x0), .val (.int x1), .val (.int x2), .val (.int x3), .val (.int x4), .val (.ref b390), .val (.ref b395), .unset, .unset] [(.ref b390)])) rfl (by rw [hml]; rfl) (Steps.refl _) (argsL := []) (rest := []) (lenOf own_pd_3 rfl) rfl (by show 2 * 0 + _ ≤ _; exact Nat.le_of_eq rfl) (hb hby at_55) (fun _ _ => ⟨rfl, (rfl : T447.heap = T447.heap), (by decide : 6 + 0 ≤ _), (by decide : 208 + 0 ≤ _)⟩)
  dsimp only [Pt.U, Pt.locs, Pt.cells, Pt.slots] at X448 l448 y448 z448 st448 hQ448
  subst l448 y448 z448
  obtain ⟨rfl, N448q, Z448, J448⟩ := hQ448
  have N448 := Fr.app N447 N448q
  have AIu448 : AI Z T448.heap b395 (2 : Int32) (up fu0 (0 : Int32) x2) := J448.2.2.2.2.2.2.2.2.2.2.2.1
  have pre449 : ∀ t, Steps p.tables e below (T448.setTop (mkF m 60 #[.val (.int x0), .val (.int x1), .val (.int x2), .val (.int x3), .val (.int x4), .val (.ref b390), .val (.ref b395), .unset, .unset] [(.ref b390)])) t → Steps p.tables e below (s₁.setTop (entryFrame m #[(.int x0), (.int x1), (.int x2), (.int x3), (.int x4)] maxLocals)) t := fun tt kk => pre0 tt (by
    show Steps p.tables e below (s₁.setTop (mkF m 0 #[.val (.int x0), .val (.int x1), .val (.int x2), .val (.int x3), .val (.int x4), .unset, .unset, .unset, .unset] [])) _
    refine st390 _ ?_
    show Steps p.tables e below (T390.setTop (mkF m 3 #[.val (.int x0), .val (.int x1), .val (.int x2), .val (.int x3), .val (.int x4), .unset, .unset, .unset, .unset] [(.ref b390)])) _
    refine XS.dup X390.here hx rfl (hb hby at_3) rfl rfl ?_
    show Steps p.tables e below (T390.setTop (mkF m 4 #[.val (.int x0), .val (.int x1), .val (.int x2), .val (.int x3), .val (.int x4), .unset, .unset, .unset, .unset] [(.ref b390), (.ref b390)])) _
    refine st392.trans ?_
    show Steps p.tables e below (T392.setTop (mkF m 7 #[.val (.int x0), .val (.int x1), .val (.int x2), .val (.int x3), .val (.int x4), .unset, .unset, .unset, .unset] [(.ref b390)])) _
    refine XS.astore X392.here hx rfl (hb hby at_7) rfl rfl (l' := #[.val (.int x0), .val (.int x1), .val (.int x2), .val (.int x3), .val (.int x4), .val (.ref b390), .unset, .unset, .unset]) rfl ?_
    show Steps p.tables e below (T392.setTop (mkF m 9 #[.val (.int x0), .val (.int x1), .val (.int x2), .val (.int x3), .val (.int x4), .val (.ref b390), .unset, .unset, .unset] [])) _
    refine XS.iconst X392.here hx rfl (hb hby at_9) ?_
    show Steps p.tables e below (T392.setTop (mkF m 10 #[.val (.int x0), .val (.int x1), .val (.int x2), .val (.int x3), .val (.int x4), .val (.ref b390), .unset, .unset, .unset] [(.int (2 : Int32))])) _
    refine st395 _ ?_
    show Steps p.tables e below (T395.setTop (mkF m 12 #[.val (.int x0), .val (.int x1), .val (.int x2), .val (.int x3), .val (.int x4), .val (.ref b390), .unset, .unset, .unset] [(.ref b395)])) _
    refine XS.astore X395.here hx rfl (hb hby at_12) rfl rfl (l' := #[.val (.int x0), .val (.int x1), .val (.int x2), .val (.int x3), .val (.int x4), .val (.ref b390), .val (.ref b395), .unset, .unset]) rfl ?_
    show Steps p.tables e below (T395.setTop (mkF m 14 #[.val (.int x0), .val (.int x1), .val (.int x2), .val (.int x3), .val (.int x4), .val (.ref b390), .val (.ref b395), .unset, .unset] [])) _
    refine XS.aload X395.here hx rfl (hb hby at_14) rfl rfl ?_
    show Steps p.tables e below (T395.setTop (mkF m 16 #[.val (.int x0), .val (.int x1), .val (.int x2), .val (.int x3), .val (.int x4), .val (.ref b390), .val (.ref b395), .unset, .unset] [(.ref b395)])) _
    refine XS.iconst X395.here hx rfl (hb hby at_16) ?_
    show Steps p.tables e below (T395.setTop (mkF m 17 #[.val (.int x0), .val (.int x1), .val (.int x2), .val (.int x3), .val (.int x4), .val (.ref b390), .val (.ref b395), .unset, .unset] [(.int (0 : Int32)), (.ref b395)])) _
    refine XS.iloadN X395.here hx rfl (hb hby at_17) rfl ?_
    show Steps p.tables e below (T395.setTop (mkF m 18 #[.val (.int x0), .val (.int x1), .val (.int x2), .val (.int x3), .val (.int x4), .val (.ref b390), .val (.ref b395), .unset, .unset] [(.int x0), (.int (0 : Int32)), (.ref b395)])) _
    refine st409 _ ?_
    show Steps p.tables e below (T409.setTop (mkF m 19 #[.val (.int x0), .val (.int x1), .val (.int x2), .val (.int x3), .val (.int x4), .val (.ref b390), .val (.ref b395), .unset, .unset] [])) _
    refine XS.aload X409.here hx rfl (hb hby at_19) rfl rfl ?_
    show Steps p.tables e below (T409.setTop (mkF m 21 #[.val (.int x0), .val (.int x1), .val (.int x2), .val (.int x3), .val (.int x4), .val (.ref b390), .val (.ref b395), .unset, .unset] [(.ref b395)])) _
    refine XS.iconst X409.here hx rfl (hb hby at_21) ?_
    show Steps p.tables e below (T409.setTop (mkF m 22 #[.val (.int x0), .val (.int x1), .val (.int x2), .val (.int x3), .val (.int x4), .val (.ref b390), .val (.ref b395), .unset, .unset] [(.int (1 : Int32)), (.ref b395)])) _
    refine XS.iloadN X409.here hx rfl (hb hby at_22) rfl ?_
    show Steps p.tables e below (T409.setTop (mkF m 23 #[.val (.int x0), .val (.int x1), .val (.int x2), .val (.int x3), .val (.int x4), .val (.ref b390), .val (.ref b395), .unset, .unset] [(.int x1), (.int (1 : Int32)), (.ref b395)])) _
    refine st424 _ ?_
    show Steps p.tables e below (T424.setTop (mkF m 24 #[.val (.int x0), .val (.int x1), .val (.int x2), .val (.int x3), .val (.int x4), .val (.ref b390), .val (.ref b395), .unset, .unset] [])) _
    refine XS.aload X424.here hx rfl (hb hby at_24) rfl rfl ?_
    show Steps p.tables e below (T424.setTop (mkF m 26 #[.val (.int x0), .val (.int x1), .val (.int x2), .val (.int x3), .val (.int x4), .val (.ref b390), .val (.ref b395), .unset, .unset] [(.ref b390)])) _
    refine st441.trans ?_
    show Steps p.tables e below (T441.setTop (mkF m 29 #[.val (.int x0), .val (.int x1), .val (.int x2), .val (.int x3), .val (.int x4), .val (.ref b390), .val (.ref b395), .unset, .unset] [])) _
    refine XS.aload X441.here hx rfl (hb hby at_29) rfl rfl ?_
    show Steps p.tables e below (T441.setTop (mkF m 31 #[.val (.int x0), .val (.int x1), .val (.int x2), .val (.int x3), .val (.int x4), .val (.ref b390), .val (.ref b395), .unset, .unset] [(.ref b390)])) _
    refine XS.aload X441.here hx rfl (hb hby at_31) rfl rfl ?_
    show Steps p.tables e below (T441.setTop (mkF m 33 #[.val (.int x0), .val (.int x1), .val (.int x2), .val (.int x3), .val (.int x4), .val (.ref b390), .val (.ref b395), .unset, .unset] [(.ref b395), (.ref b390)])) _
    refine XS.iconst X441.here hx rfl (hb hby at_33) ?_
    show Steps p.tables e below (T441.setTop (mkF m 34 #[.val (.int x0), .val (.int x1), .val (.int x2), .val (.int x3), .val (.int x4), .val (.ref b390), .val (.ref b395), .unset, .unset] [(.int (0 : Int32)), (.ref b395), (.ref b390)])) _
    refine XS.iloadN X441.here hx rfl (hb hby at_34) rfl ?_
    show Steps p.tables e below (T441.setTop (mkF m 35 #[.val (.int x0), .val (.int x1), .val (.int x2), .val (.int x3), .val (.int x4), .val (.ref b390), .val (.ref b395), .unset, .unset] [(.int x2), (.int (0 : Int32)), (.ref b395), (.ref b390)])) _
    refine st442.trans ?_
    show Steps p.tables e below (T442.setTop (mkF m 38 #[.val (.int x0), .val (.int x1), .val (.int x2), .val (.int x3), .val (.int x4), .val (.ref b390), .val (.ref b395), .unset, .unset] [])) _
    refine XS.aload X442.here hx rfl (hb hby at_38) rfl rfl ?_
    show Steps p.tables e below (T442.setTop (mkF m 40 #[.val (.int x0), .val (.int x1), .val (.int x2), .val (.int x3), .val (.int x4), .val (.ref b390), .val (.ref b395), .unset, .unset] [(.ref b390)])) _
    refine st444.trans ?_
    show Steps p.tables e below (T444.setTop (mkF m 43 #[.val (.int x0), .val (.int x1), .val (.int x2), .val (.int x3), .val (.int x4), .val (.ref b390), .val (.ref b395), .unset, .unset] [])) _
    refine XS.aload X444.here hx rfl (hb hby at_43) rfl rfl ?_
    show Steps p.tables e below (T444.setTop (mkF m 45 #[.val (.int x0), .val (.int x1), .val (.int x2), .val (.int x3), .val (.int x4), .val (.ref b390), .val (.ref b395), .unset, .unset] [(.ref b390)])) _
    refine st445.trans ?_
    show Steps p.tables e below (T445.setTop (mkF m 48 #[.val (.int x0), .val (.int x1), .val (.int x2), .val (.int x3), .val (.int x4), .val (.ref b390), .val (.ref b395), .unset, .unset] [])) _
    refine XS.aload X445.here hx rfl (hb hby at_48) rfl rfl ?_
    show Steps p.tables e below (T445.setTop (mkF m 50 #[.val (.int x0), .val (.int x1), .val (.int x2), .val (.int x3), .val (.int x4), .val (.ref b390), .val (.ref b395), .unset, .unset] [(.ref b390)])) _
    refine st447.trans ?_
    show Steps p.tables e below (T447.setTop (mkF m 53 #[.val (.int x0), .val (.int x1), .val (.int x2), .val (.int x3), .val (.int x4), .val (.ref b390), .val (.ref b395), .unset, .unset] [])) _
    refine XS.aload X447.here hx rfl (hb hby at_53) rfl rfl ?_
    show Steps p.tables e below (T447.setTop (mkF m 55 #[.val (.int x0), .val (.int x1), .val (.int x2), .val (.int x3), .val (.int x4), .val (.ref b390), .val (.ref b395), .unset, .unset] [(.ref b390)])) _
    refine st448.trans ?_
    show Steps p.tables e below (T448.setTop (mkF m 58 #[.val (.int x0), .val (.int x1), .val (.int x2), .val (.int x3), .val (.int x4), .val (.ref b390), .val (.ref b395), .unset, .unset] [])) _
    refine XS.aload X448.here hx rfl (hb hby at_58) rfl rfl ?_
    exact kk)
  obtain ⟨Lg450, X450, N450⟩ : ∃ Lg, Stand p l e room_1 s m #[(.int x0), (.int x1), (.int x2), (.int x3), (.int x4)] below meth c T448 Lg 6 208 ∧ Fr n0 Lg := ⟨_, X448, N448⟩
  obtain ⟨cq451, kq451, q451a, q451b, q451c⟩ := isOf hZ (rfl : T448.heap = T448.heap) J448.1
  obtain ⟨vv451, _, ⟨T451, L451, k451, n451⟩, -, X451, ⟨Lc451, hQ451, l451, y451, z451⟩, st451⟩ := X450.virtualBack hx (y := (⟨"com/example/envyless/envyless/Journal", "start", "()V"⟩ : MethodName)) (z := (⟨"com/example/envyless/envyless/Journal", "start", "()V"⟩ : MethodName)) hown (mvT hZ (hw _ (List.mem_of_getElem? (i := 20) rfl))) (mvT hZ (hw _ (List.mem_of_getElem? (i := 21) rfl))) (notFace_of_selects (args := #[]) (mvT hZ (hw _ (List.mem_of_getElem? (i := 23) rfl)))) (mvT hZ (hw _ (List.mem_of_getElem? (i := 23) rfl))) (mvT hZ (hw _ (List.mem_of_getElem? (i := 22) rfl))) (by decide) (backOf (W := 0) (rm_start l Z a0 hw [] b390 jA jI jV jT b395 kA (1 : Int32) (5 : Int32) (8 : Int32) (2 : Int32) (up (fun _ => 0) (0 : Int32) (0 : Int32)) (up (fun _ => 0) (0 : Int32) (fu0 (0 : Int32))) (up (up (up (up (up (fun _ => 0) (0 : Int32) (0 : Int32)) (1 : Int32) (1 : Int32)) (2 : Int32) (1 : Int32)) (3 : Int32) (1 : Int32)) (4 : Int32) (1 : Int32)) (up fu0 (0 : Int32) x2) (6 : Int32) T448.heap n0 Z448 J448 DJv GEv (by decide) (by decide) (by decide)) hZ (hw _ (List.mem_of_getElem? (i := 24) rfl)) (hw _ (List.mem_of_getElem? (i := 2) rfl)) (by decide) (by decide)) q451a q451c (g := (mkF m 60 #[.val (.int x0), .val (.int x1), .val (.int x2), .val (.int x3), .val (.int x4), .val (.ref b390), .val (.ref b395), .unset, .unset] [(.ref b390)])) rfl (by rw [hml]; rfl) (Steps.refl _) (argsL := []) (rest := []) (lenOf own_pd_3 rfl) rfl (by show 2 * 0 + _ ≤ _; exact Nat.le_of_eq rfl) (hb hby at_60) (fun _ _ => ⟨rfl, (rfl : T448.heap = T448.heap), (by decide : 6 + 0 ≤ _), (by decide : 208 + 0 ≤ _)⟩)
  dsimp only [Pt.U, Pt.locs, Pt.cells, Pt.slots] at X451 l451 y451 z451 st451 hQ451
  subst l451 y451 z451
  obtain ⟨rfl, N451q, Z451, J451⟩ := hQ451
  have N451 := Fr.app N450 N451q
  have AIu451 : AI Z T451.heap b395 (2 : Int32) (up fu0 (0 : Int32) x2) := J451.2.2.2.2.2.2.2.2.2.2.2.1
  obtain ⟨cq452, kq452, q452a, q452b, q452c⟩ := isOf hZ (rfl : T451.heap = T451.heap) J451.1
  obtain ⟨vv452, _, ⟨T452, L452, k452, n452⟩, -, X452, ⟨Lc452, hQ452, l452, y452, z452⟩, st452⟩ := X451.virtualBack hx (y := (⟨"com/example/envyless/envyless/Journal", "start", "()V"⟩ : MethodName)) (z := (⟨"com/example/envyless/envyless/Journal", "start", "()V"⟩ : MethodName)) hown (mvT hZ (hw _ (List.mem_of_getElem? (i := 20) rfl))) (mvT hZ (hw _ (List.mem_of_getElem? (i := 21) rfl))) (notFace_of_selects (args := #[]) (mvT hZ (hw _ (List.mem_of_getElem? (i := 23) rfl)))) (mvT hZ (hw _ (List.mem_of_getElem? (i := 23) rfl))) (mvT hZ (hw _ (List.mem_of_getElem? (i := 22) rfl))) (by decide) (backOf (W := 0) (rm_start l Z a0 hw [] b390 jA jI jV jT b395 kA (1 : Int32) (6 : Int32) (8 : Int32) (2 : Int32) (up (fun _ => 0) (0 : Int32) (0 : Int32)) (up (fun _ => 0) (0 : Int32) (fu0 (0 : Int32))) (up (up (up (up (up (up (fun _ => 0) (0 : Int32) (0 : Int32)) (1 : Int32) (1 : Int32)) (2 : Int32) (1 : Int32)) (3 : Int32) (1 : Int32)) (4 : Int32) (1 : Int32)) (5 : Int32) (1 : Int32)) (up fu0 (0 : Int32) x2) (7 : Int32) T451.heap n0 Z451 J451 DJv GEv (by decide) (by decide) (by decide)) hZ (hw _ (List.mem_of_getElem? (i := 24) rfl)) (hw _ (List.mem_of_getElem? (i := 2) rfl)) (by decide) (by decide)) q452a q452c (g := (mkF m 65 #[.val (.int x0), .val (.int x1), .val (.int x2), .val (.int x3), .val (.int x4), .val (.ref b390), .val (.ref b395), .unset, .unset] [(.ref b390)])) rfl (by rw [hml]; rfl) (Steps.refl _) (argsL := []) (rest := []) (lenOf own_pd_3 rfl) rfl (by show 2 * 0 + _ ≤ _; exact Nat.le_of_eq rfl) (hb hby at_65) (fun _ _ => ⟨rfl, (rfl : T451.heap = T451.heap), (by decide : 6 + 0 ≤ _), (by decide : 208 + 0 ≤ _)⟩)
  dsimp only [Pt.U, Pt.locs, Pt.cells, Pt.slots] at X452 l452 y452 z452 st452 hQ452
  subst l452 y452 z452
  obtain ⟨rfl, N452q, Z452, J452⟩ := hQ452
  have N452 := Fr.app N451 N452q
  have AIu452 : AI Z T452.heap b395 (2 : Int32) (up fu0 (0 : Int32) x2) := J452.2.2.2.2.2.2.2.2.2.2.2.1
  obtain ⟨Lg453, X453, N453⟩ : ∃ Lg, Stand p l e room_1 s m #[(.int x0), (.int x1), (.int x2), (.int x3), (.int x4)] below meth c T452 Lg 6 208 ∧ Fr n0 Lg := ⟨_, X452, N452⟩
  obtain ⟨cq454, kq454, q454a, q454b, q454c⟩ := isOf hZ (rfl : T452.heap = T452.heap) J452.1
  obtain ⟨vv454, _, ⟨T454, L454, k454, n454⟩, -, X454, ⟨Lc454, hQ454, l454, y454, z454⟩, st454⟩ := X453.virtualBack hx (y := (⟨"com/example/envyless/envyless/Journal", "start", "()V"⟩ : MethodName)) (z := (⟨"com/example/envyless/envyless/Journal", "start", "()V"⟩ : MethodName)) hown (mvT hZ (hw _ (List.mem_of_getElem? (i := 20) rfl))) (mvT hZ (hw _ (List.mem_of_getElem? (i := 21) rfl))) (notFace_of_selects (args := #[]) (mvT hZ (hw _ (List.mem_of_getElem? (i := 23) rfl)))) (mvT hZ (hw _ (List.mem_of_getElem? (i := 23) rfl))) (mvT hZ (hw _ (List.mem_of_getElem? (i := 22) rfl))) (by decide) (backOf (W := 0) (rm_start l Z a0 hw [] b390 jA jI jV jT b395 kA (1 : Int32) (7 : Int32) (8 : Int32) (2 : Int32) (up (fun _ => 0) (0 : Int32) (0 : Int32)) (up (fun _ => 0) (0 : Int32) (fu0 (0 : Int32))) (up (up (up (up (up (up (up (fun _ => 0) (0 : Int32) (0 : Int32)) (1 : Int32) (1 : Int32)) (2 : Int32) (1 : Int32)) (3 : Int32) (1 : Int32)) (4 : Int32) (1 : Int32)) (5 : Int32) (1 : Int32)) (6 : Int32) (1 : Int32)) (up fu0 (0 : Int32) x2) (8 : Int32) T452.heap n0 Z452 J452 DJv GEv (by decide) (by decide) (by decide)) hZ (hw _ (List.mem_of_getElem? (i := 24) rfl)) (hw _ (List.mem_of_getElem? (i := 2) rfl)) (by decide) (by decide)) q454a q454c (g := (mkF m 70 #[.val (.int x0), .val (.int x1), .val (.int x2), .val (.int x3), .val (.int x4), .val (.ref b390), .val (.ref b395), .unset, .unset] [(.ref b390)])) rfl (by rw [hml]; rfl) (Steps.refl _) (argsL := []) (rest := []) (lenOf own_pd_3 rfl) rfl (by show 2 * 0 + _ ≤ _; exact Nat.le_of_eq rfl) (hb hby at_70) (fun _ _ => ⟨rfl, (rfl : T452.heap = T452.heap), (by decide : 6 + 0 ≤ _), (by decide : 208 + 0 ≤ _)⟩)
  dsimp only [Pt.U, Pt.locs, Pt.cells, Pt.slots] at X454 l454 y454 z454 st454 hQ454
  subst l454 y454 z454
  obtain ⟨rfl, N454q, Z454, J454⟩ := hQ454
  have N454 := Fr.app N453 N454q
  have AIu454 : AI Z T454.heap b395 (2 : Int32) (up fu0 (0 : Int32) x2) := J454.2.2.2.2.2.2.2.2.2.2.2.1
  obtain ⟨cq455, kq455, q455a, q455b, q455c⟩ := isOf hZ (rfl : T454.heap = T454.heap) J454.1
  obtain ⟨vv455, _, ⟨T455, L455, k455, n455⟩, -, X455, ⟨Lc455, hQ455, l455, y455, z455⟩, st455⟩ := X454.virtualBack hx (y := (⟨"com/example/envyless/envyless/Journal", "set", "([III)V"⟩ : MethodName)) (z := (⟨"com/example/envyless/envyless/Journal", "set", "([III)V"⟩ : MethodName)) hown (mvT hZ (hw _ (List.mem_of_getElem? (i := 29) rfl))) (mvT hZ (hw _ (List.mem_of_getElem? (i := 30) rfl))) (notFace_of_selects (args := #[]) (mvT hZ (hw _ (List.mem_of_getElem? (i := 32) rfl)))) (mvT hZ (hw _ (List.mem_of_getElem? (i := 32) rfl))) (mvT hZ (hw _ (List.mem_of_getElem? (i := 31) rfl))) (by decide) (backOf (W := 0) (rm_set1 l Z a0 hw [] b390 jA jI jV jT b395 kA (1 : Int32) (8 : Int32) (8 : Int32) (2 : Int32) (up (fun _ => 0) (0 : Int32) (0 : Int32)) (up (fun _ => 0) (0 : Int32) (fu0 (0 : Int32))) (up (up (up (up (up (up (up (up (fun _ => 0) (0 : Int32) (0 : Int32)) (1 : Int32) (1 : Int32)) (2 : Int32) (1 : Int32)) (3 : Int32) (1 : Int32)) (4 : Int32) (1 : Int32)) (5 : Int32) (1 : Int32)) (6 : Int32) (1 : Int32)) (7 : Int32) (1 : Int32)) (up fu0 (0 : Int32) x2) (2 : Int32) (1 : Int32) x3 T454.heap n0 Z454 J454 DJv GEv (by decide) (by decide) (by decide) (by decide) (by decide) (by decide)) hZ (hw _ (List.mem_of_getElem? (i := 33) rfl)) (hw _ (List.mem_of_getElem? (i := 2) rfl)) (by decide) (by decide)) q455a q455c (g := (mkF m 79 #[.val (.int x0), .val (.int x1), .val (.int x2), .val (.int x3), .val (.int x4), .val (.ref b390), .val (.ref b395), .unset, .unset] [(.int x3), (.int (1 : Int32)), (.ref b395), (.ref b390)])) rfl (by rw [hml]; rfl) (Steps.refl _) (argsL := [(.ref b395), (.int (1 : Int32)), (.int x3)]) (rest := []) (lenOf own_pd_4 rfl) rfl (by show 2 * 0 + _ ≤ _; exact Nat.le_of_eq rfl) (hb hby at_79) (fun _ _ => ⟨rfl, (rfl : T454.heap = T454.heap), (by decide : 6 + 0 ≤ _), (by decide : 208 + 0 ≤ _)⟩)
  dsimp only [Pt.U, Pt.locs, Pt.cells, Pt.slots] at X455 l455 y455 z455 st455 hQ455
  subst l455 y455 z455
  obtain ⟨rfl, N455q, Z455, J455⟩ := hQ455
  have N455 := Fr.app N454 N455q
  have AIu455 : AI Z T455.heap b395 (2 : Int32) (up (up fu0 (0 : Int32) x2) (1 : Int32) x3) := J455.2.2.2.2.2.2.2.2.2.2.2.1
  obtain ⟨Lg456, X456, N456⟩ : ∃ Lg, Stand p l e room_1 s m #[(.int x0), (.int x1), (.int x2), (.int x3), (.int x4)] below meth c T455 Lg 6 208 ∧ Fr n0 Lg := ⟨_, X455, N455⟩
  obtain ⟨cq457, kq457, q457a, q457b, q457c⟩ := isOf hZ (rfl : T455.heap = T455.heap) J455.1
  obtain ⟨vv457, _, ⟨T457, L457, k457, n457⟩, -, X457, ⟨Lc457, hQ457, l457, y457, z457⟩, st457⟩ := X456.virtualBack hx (y := (⟨"com/example/envyless/envyless/Journal", "start", "()V"⟩ : MethodName)) (z := (⟨"com/example/envyless/envyless/Journal", "start", "()V"⟩ : MethodName)) hown (mvT hZ (hw _ (List.mem_of_getElem? (i := 20) rfl))) (mvT hZ (hw _ (List.mem_of_getElem? (i := 21) rfl))) (notFace_of_selects (args := #[]) (mvT hZ (hw _ (List.mem_of_getElem? (i := 23) rfl)))) (mvT hZ (hw _ (List.mem_of_getElem? (i := 23) rfl))) (mvT hZ (hw _ (List.mem_of_getElem? (i := 22) rfl))) (by decide) (backOf (W := 0) (rm_startG l Z a0 hw [] b390 jA jI jV jT b395 kA (2 : Int32) (2 : Int32) (up (up (fun _ => 0) (0 : Int32) (0 : Int32)) (1 : Int32) (1 : Int32)) (up (up (fun _ => 0) (0 : Int32) (fu0 (0 : Int32))) (1 : Int32) ((up fu0 (0 : Int32) x2) (1 : Int32))) (up (up (up (up (up (up (up (up (fun _ => 0) (0 : Int32) (0 : Int32)) (1 : Int32) (1 : Int32)) (2 : Int32) (1 : Int32)) (3 : Int32) (1 : Int32)) (4 : Int32) (1 : Int32)) (5 : Int32) (1 : Int32)) (6 : Int32) (1 : Int32)) (7 : Int32) (1 : Int32)) (up (up fu0 (0 : Int32) x2) (1 : Int32) x3) (9 : Int32) T455.heap n0 Z455 J455 DJv GEv (by decide)) hZ (hw _ (List.mem_of_getElem? (i := 24) rfl)) (hw _ (List.mem_of_getElem? (i := 2) rfl)) (by decide) (by decide)) q457a q457c (g := (mkF m 84 #[.val (.int x0), .val (.int x1), .val (.int x2), .val (.int x3), .val (.int x4), .val (.ref b390), .val (.ref b395), .unset, .unset] [(.ref b390)])) rfl (by rw [hml]; rfl) (Steps.refl _) (argsL := []) (rest := []) (lenOf own_pd_3 rfl) rfl (by show 2 * 0 + _ ≤ _; exact Nat.le_of_eq rfl) (hb hby at_84) (fun _ _ => ⟨rfl, (rfl : T455.heap = T455.heap), (by decide : 6 + 1 ≤ _), (by decide : 208 + 16 ≤ _)⟩)
  dsimp only [Pt.U, Pt.locs, Pt.cells, Pt.slots] at X457 l457 y457 z457 st457 hQ457
  subst l457 y457 z457
  obtain ⟨rfl, N457q, Z457, jT2, gT2, ⟨t1, t2, t3, t4, t5⟩, J457⟩ := hQ457
  have N457 := Fr.app N456 N457q
  obtain ⟨djA, djI, djV, djT, dju, dAI, dAV, dAT, dAu, dIV, dIT, dIu, dVT, dVu, dTu⟩ := id DJv
  obtain ⟨g1, g2, g3, g4, g5, g6⟩ := id GEv
  have DJv : DJ b390 jA jI jV jT2 b395 := ⟨djA, djI, djV, t1, dju, dAI, dAV, t2, dAu, dIV, t3, dIu, t4, dVu, t5⟩
  have GEv : GE n0 b390 jA jI jV jT2 b395 := ⟨g1, g2, g3, g4, gT2, g6⟩
  have AIu457 : AI Z T457.heap b395 (2 : Int32) (up (up fu0 (0 : Int32) x2) (1 : Int32) x3) := J457.2.2.2.2.2.2.2.2.2.2.2.1
  obtain ⟨cq458, kq458, q458a, q458b, q458c⟩ := isOf hZ (rfl : T457.heap = T457.heap) J457.1
  obtain ⟨vv458, _, ⟨T458, L458, k458, n458⟩, -, X458, ⟨Lc458, hQ458, l458, y458, z458⟩, st458⟩ := X457.virtualBack hx (y := (⟨"com/example/envyless/envyless/Journal", "set", "([III)V"⟩ : MethodName)) (z := (⟨"com/example/envyless/envyless/Journal", "set", "([III)V"⟩ : MethodName)) hown (mvT hZ (hw _ (List.mem_of_getElem? (i := 29) rfl))) (mvT hZ (hw _ (List.mem_of_getElem? (i := 30) rfl))) (notFace_of_selects (args := #[]) (mvT hZ (hw _ (List.mem_of_getElem? (i := 32) rfl)))) (mvT hZ (hw _ (List.mem_of_getElem? (i := 32) rfl))) (mvT hZ (hw _ (List.mem_of_getElem? (i := 31) rfl))) (by decide) (backOf (W := 0) (rm_set1 l Z a0 hw [] b390 jA jI jV jT2 b395 kA (2 : Int32) (9 : Int32) (16 : Int32) (2 : Int32) (up (up (fun _ => 0) (0 : Int32) (0 : Int32)) (1 : Int32) (1 : Int32)) (up (up (fun _ => 0) (0 : Int32) (fu0 (0 : Int32))) (1 : Int32) ((up fu0 (0 : Int32) x2) (1 : Int32))) (up (own_gr (up (up (up (up (up (up (up (up (fun _ => 0) (0 : Int32) (0 : Int32)) (1 : Int32) (1 : Int32)) (2 : Int32) (1 : Int32)) (3 : Int32) (1 : Int32)) (4 : Int32) (1 : Int32)) (5 : Int32) (1 : Int32)) (6 : Int32) (1 : Int32)) (7 : Int32) (1 : Int32))) (8 : Int32) (2 : Int32)) (up (up fu0 (0 : Int32) x2) (1 : Int32) x3) (3 : Int32) (0 : Int32) x4 T457.heap n0 Z457 J457 DJv GEv (by decide) (by decide) (by decide) (by decide) (by decide) (by decide)) hZ (hw _ (List.mem_of_getElem? (i := 33) rfl)) (hw _ (List.mem_of_getElem? (i := 2) rfl)) (by decide) (by decide)) q458a q458c (g := (mkF m 94 #[.val (.int x0), .val (.int x1), .val (.int x2), .val (.int x3), .val (.int x4), .val (.ref b390), .val (.ref b395), .unset, .unset] [(.int x4), (.int (0 : Int32)), (.ref b395), (.ref b390)])) rfl (by rw [hml]; rfl) (Steps.refl _) (argsL := [(.ref b395), (.int (0 : Int32)), (.int x4)]) (rest := []) (lenOf own_pd_4 rfl) rfl (by show 2 * 0 + _ ≤ _; exact Nat.le_of_eq rfl) (hb hby at_94) (fun _ _ => ⟨rfl, (rfl : T457.heap = T457.heap), (by decide : 7 + 0 ≤ _), (by decide : 224 + 0 ≤ _)⟩)
  dsimp only [Pt.U, Pt.locs, Pt.cells, Pt.slots] at X458 l458 y458 z458 st458 hQ458
  subst l458 y458 z458
  obtain ⟨rfl, N458q, Z458, J458⟩ := hQ458
  have N458 := Fr.app N457 N458q
  have AIu458 : AI Z T458.heap b395 (2 : Int32) (up (up (up fu0 (0 : Int32) x2) (1 : Int32) x3) (0 : Int32) x4) := J458.2.2.2.2.2.2.2.2.2.2.2.1
  obtain ⟨Lg459, X459, N459⟩ : ∃ Lg, Stand p l e room_1 s m #[(.int x0), (.int x1), (.int x2), (.int x3), (.int x4)] below meth c T458 Lg 7 224 ∧ Fr n0 Lg := ⟨_, X458, N458⟩
  obtain ⟨cq460, kq460, q460a, q460b, q460c⟩ := isOf hZ (rfl : T458.heap = T458.heap) J458.1
  obtain ⟨vv460, _, ⟨T460, L460, k460, n460⟩, -, X460, ⟨Lc460, hQ460, l460, y460, z460⟩, st460⟩ := X459.virtualBack hx (y := (⟨"com/example/envyless/envyless/Journal", "undo", "()V"⟩ : MethodName)) (z := (⟨"com/example/envyless/envyless/Journal", "undo", "()V"⟩ : MethodName)) hown (mvT hZ (hw _ (List.mem_of_getElem? (i := 47) rfl))) (mvT hZ (hw _ (List.mem_of_getElem? (i := 48) rfl))) (notFace_of_selects (args := #[]) (mvT hZ (hw _ (List.mem_of_getElem? (i := 50) rfl)))) (mvT hZ (hw _ (List.mem_of_getElem? (i := 50) rfl))) (mvT hZ (hw _ (List.mem_of_getElem? (i := 49) rfl))) (by decide) (backOf (W := 0) (rm_undo1 l Z a0 hw [] b390 jA jI jV jT2 b395 kA (3 : Int32) (9 : Int32) (16 : Int32) (2 : Int32) (up (up (up (fun _ => 0) (0 : Int32) (0 : Int32)) (1 : Int32) (1 : Int32)) (2 : Int32) (0 : Int32)) (up (up (up (fun _ => 0) (0 : Int32) (fu0 (0 : Int32))) (1 : Int32) ((up fu0 (0 : Int32) x2) (1 : Int32))) (2 : Int32) ((up (up fu0 (0 : Int32) x2) (1 : Int32) x3) (0 : Int32))) (up (own_gr (up (up (up (up (up (up (up (up (fun _ => 0) (0 : Int32) (0 : Int32)) (1 : Int32) (1 : Int32)) (2 : Int32) (1 : Int32)) (3 : Int32) (1 : Int32)) (4 : Int32) (1 : Int32)) (5 : Int32) (1 : Int32)) (6 : Int32) (1 : Int32)) (7 : Int32) (1 : Int32))) (8 : Int32) (2 : Int32)) (up (up (up fu0 (0 : Int32) x2) (1 : Int32) x3) (0 : Int32) x4) (8 : Int32) (2 : Int32) (2 : Int32) (0 : Int32) ((up (up fu0 (0 : Int32) x2) (1 : Int32) x3) (0 : Int32)) T458.heap n0 Z458 J458 DJv GEv (by decide) (by decide) (by decide) (by decide) (own_up0 (by decide)) (by decide) (fun i q => Int32.lt_trans q (by decide)) (by decide) (by decide) (by decide) (by decide) (own_up0 (by decide)) (own_up0 (by decide)) (by decide) (by decide) (by decide)) hZ (hw _ (List.mem_of_getElem? (i := 51) rfl)) (hw _ (List.mem_of_getElem? (i := 2) rfl)) (by decide) (by decide)) q460a q460c (g := (mkF m 99 #[.val (.int x0), .val (.int x1), .val (.int x2), .val (.int x3), .val (.int x4), .val (.ref b390), .val (.ref b395), .unset, .unset] [(.ref b390)])) rfl (by rw [hml]; rfl) (Steps.refl _) (argsL := []) (rest := []) (lenOf own_pd_3 rfl) rfl (by show 2 * 0 + _ ≤ _; exact Nat.le_of_eq rfl) (hb hby at_99) (fun _ _ => ⟨rfl, (rfl : T458.heap = T458.heap), (by decide : 7 + 0 ≤ _), (by decide : 224 + 0 ≤ _)⟩)
  dsimp only [Pt.U, Pt.locs, Pt.cells, Pt.slots] at X460 l460 y460 z460 st460 hQ460
  subst l460 y460 z460
  obtain ⟨rfl, N460q, Z460, J460⟩ := hQ460
  have N460 := Fr.app N459 N460q
  rw [up_up] at J460
  have AIu460 : AI Z T460.heap b395 (2 : Int32) (up (up fu0 (0 : Int32) x2) (1 : Int32) x3) := J460.2.2.2.2.2.2.2.2.2.2.2.1
  obtain ⟨cl461, Ar461, S461, M461, H461⟩ := id AIu460
  have pre462 : ∀ t, Steps p.tables e below (T460.setTop (mkF m 107 #[.val (.int x0), .val (.int x1), .val (.int x2), .val (.int x3), .val (.int x4), .val (.ref b390), .val (.ref b395), .unset, .unset] [(.int x2), (.int ((up (up fu0 (0 : Int32) x2) (1 : Int32) x3) (0 : Int32)))])) t → Steps p.tables e below (s₁.setTop (entryFrame m #[(.int x0), (.int x1), (.int x2), (.int x3), (.int x4)] maxLocals)) t := fun tt kk => pre449 tt (by
    show Steps p.tables e below (T448.setTop (mkF m 60 #[.val (.int x0), .val (.int x1), .val (.int x2), .val (.int x3), .val (.int x4), .val (.ref b390), .val (.ref b395), .unset, .unset] [(.ref b390)])) _
    refine st451.trans ?_
    show Steps p.tables e below (T451.setTop (mkF m 63 #[.val (.int x0), .val (.int x1), .val (.int x2), .val (.int x3), .val (.int x4), .val (.ref b390), .val (.ref b395), .unset, .unset] [])) _
    refine XS.aload X451.here hx rfl (hb hby at_63) rfl rfl ?_
    show Steps p.tables e below (T451.setTop (mkF m 65 #[.val (.int x0), .val (.int x1), .val (.int x2), .val (.int x3), .val (.int x4), .val (.ref b390), .val (.ref b395), .unset, .unset] [(.ref b390)])) _
    refine st452.trans ?_
    show Steps p.tables e below (T452.setTop (mkF m 68 #[.val (.int x0), .val (.int x1), .val (.int x2), .val (.int x3), .val (.int x4), .val (.ref b390), .val (.ref b395), .unset, .unset] [])) _
    refine XS.aload X452.here hx rfl (hb hby at_68) rfl rfl ?_
    show Steps p.tables e below (T452.setTop (mkF m 70 #[.val (.int x0), .val (.int x1), .val (.int x2), .val (.int x3), .val (.int x4), .val (.ref b390), .val (.ref b395), .unset, .unset] [(.ref b390)])) _
    refine st454.trans ?_
    show Steps p.tables e below (T454.setTop (mkF m 73 #[.val (.int x0), .val (.int x1), .val (.int x2), .val (.int x3), .val (.int x4), .val (.ref b390), .val (.ref b395), .unset, .unset] [])) _
    refine XS.aload X454.here hx rfl (hb hby at_73) rfl rfl ?_
    show Steps p.tables e below (T454.setTop (mkF m 75 #[.val (.int x0), .val (.int x1), .val (.int x2), .val (.int x3), .val (.int x4), .val (.ref b390), .val (.ref b395), .unset, .unset] [(.ref b390)])) _
    refine XS.aload X454.here hx rfl (hb hby at_75) rfl rfl ?_
    show Steps p.tables e below (T454.setTop (mkF m 77 #[.val (.int x0), .val (.int x1), .val (.int x2), .val (.int x3), .val (.int x4), .val (.ref b390), .val (.ref b395), .unset, .unset] [(.ref b395), (.ref b390)])) _
    refine XS.iconst X454.here hx rfl (hb hby at_77) ?_
    show Steps p.tables e below (T454.setTop (mkF m 78 #[.val (.int x0), .val (.int x1), .val (.int x2), .val (.int x3), .val (.int x4), .val (.ref b390), .val (.ref b395), .unset, .unset] [(.int (1 : Int32)), (.ref b395), (.ref b390)])) _
    refine XS.iloadN X454.here hx rfl (hb hby at_78) rfl ?_
    show Steps p.tables e below (T454.setTop (mkF m 79 #[.val (.int x0), .val (.int x1), .val (.int x2), .val (.int x3), .val (.int x4), .val (.ref b390), .val (.ref b395), .unset, .unset] [(.int x3), (.int (1 : Int32)), (.ref b395), (.ref b390)])) _
    refine st455.trans ?_
    show Steps p.tables e below (T455.setTop (mkF m 82 #[.val (.int x0), .val (.int x1), .val (.int x2), .val (.int x3), .val (.int x4), .val (.ref b390), .val (.ref b395), .unset, .unset] [])) _
    refine XS.aload X455.here hx rfl (hb hby at_82) rfl rfl ?_
    show Steps p.tables e below (T455.setTop (mkF m 84 #[.val (.int x0), .val (.int x1), .val (.int x2), .val (.int x3), .val (.int x4), .val (.ref b390), .val (.ref b395), .unset, .unset] [(.ref b390)])) _
    refine st457.trans ?_
    show Steps p.tables e below (T457.setTop (mkF m 87 #[.val (.int x0), .val (.int x1), .val (.int x2), .val (.int x3), .val (.int x4), .val (.ref b390), .val (.ref b395), .unset, .unset] [])) _
    refine XS.aload X457.here hx rfl (hb hby at_87) rfl rfl ?_
    show Steps p.tables e below (T457.setTop (mkF m 89 #[.val (.int x0), .val (.int x1), .val (.int x2), .val (.int x3), .val (.int x4), .val (.ref b390), .val (.ref b395), .unset, .unset] [(.ref b390)])) _
    refine XS.aload X457.here hx rfl (hb hby at_89) rfl rfl ?_
    show Steps p.tables e below (T457.setTop (mkF m 91 #[.val (.int x0), .val (.int x1), .val (.int x2), .val (.int x3), .val (.int x4), .val (.ref b390), .val (.ref b395), .unset, .unset] [(.ref b395), (.ref b390)])) _
    refine XS.iconst X457.here hx rfl (hb hby at_91) ?_
    show Steps p.tables e below (T457.setTop (mkF m 92 #[.val (.int x0), .val (.int x1), .val (.int x2), .val (.int x3), .val (.int x4), .val (.ref b390), .val (.ref b395), .unset, .unset] [(.int (0 : Int32)), (.ref b395), (.ref b390)])) _
    refine XS.iload X457.here hx rfl (hb hby at_92) rfl ?_
    show Steps p.tables e below (T457.setTop (mkF m 94 #[.val (.int x0), .val (.int x1), .val (.int x2), .val (.int x3), .val (.int x4), .val (.ref b390), .val (.ref b395), .unset, .unset] [(.int x4), (.int (0 : Int32)), (.ref b395), (.ref b390)])) _
    refine st458.trans ?_
    show Steps p.tables e below (T458.setTop (mkF m 97 #[.val (.int x0), .val (.int x1), .val (.int x2), .val (.int x3), .val (.int x4), .val (.ref b390), .val (.ref b395), .unset, .unset] [])) _
    refine XS.aload X458.here hx rfl (hb hby at_97) rfl rfl ?_
    show Steps p.tables e below (T458.setTop (mkF m 99 #[.val (.int x0), .val (.int x1), .val (.int x2), .val (.int x3), .val (.int x4), .val (.ref b390), .val (.ref b395), .unset, .unset] [(.ref b390)])) _
    refine st460.trans ?_
    show Steps p.tables e below (T460.setTop (mkF m 102 #[.val (.int x0), .val (.int x1), .val (.int x2), .val (.int x3), .val (.int x4), .val (.ref b390), .val (.ref b395), .unset, .unset] [])) _
    refine XS.aload X460.here hx rfl (hb hby at_102) rfl rfl ?_
    show Steps p.tables e below (T460.setTop (mkF m 104 #[.val (.int x0), .val (.int x1), .val (.int x2), .val (.int x3), .val (.int x4), .val (.ref b390), .val (.ref b395), .unset, .unset] [(.ref b395)])) _
    refine XS.iconst X460.here hx rfl (hb hby at_104) ?_
    show Steps p.tables e below (T460.setTop (mkF m 105 #[.val (.int x0), .val (.int x1), .val (.int x2), .val (.int x3), .val (.int x4), .val (.ref b390), .val (.ref b395), .unset, .unset] [(.int (0 : Int32)), (.ref b395)])) _
    refine X460.iaload hx (j := (0 : Int32)) (v := (.int ((up (up fu0 (0 : Int32) x2) (1 : Int32) x3) (0 : Int32)))) (by rw [(rfl : T460.heap = T460.heap)]; exact Ar461.1) (State.isArrayOf_alike hZ.alike Ar461.2.1) Ar461.2.2 (inb_of S461 ⟨(by decide), (by decide)⟩) (H461 _ (by decide) (by decide)) (g := (mkF m 105 #[.val (.int x0), .val (.int x1), .val (.int x2), .val (.int x3), .val (.int x4), .val (.ref b390), .val (.ref b395), .unset, .unset] [(.int (0 : Int32)), (.ref b395)])) rfl rfl (hb hby at_105) _ ?_
    show Steps p.tables e below (T460.setTop (mkF m 106 #[.val (.int x0), .val (.int x1), .val (.int x2), .val (.int x3), .val (.int x4), .val (.ref b390), .val (.ref b395), .unset, .unset] [(.int ((up (up fu0 (0 : Int32) x2) (1 : Int32) x3) (0 : Int32)))])) _
    refine XS.iloadN X460.here hx rfl (hb hby at_106) rfl ?_
    exact kk)
  obtain ⟨cl463, Ar463, S463, M463, H463⟩ := id AIu460
  have pre464 : ∀ t, Steps p.tables e below (T460.setTop (mkF m 115 #[.val (.int x0), .val (.int x1), .val (.int x2), .val (.int x3), .val (.int x4), .val (.ref b390), .val (.ref b395), .unset, .unset] [(.int x3), (.int ((up (up fu0 (0 : Int32) x2) (1 : Int32) x3) (1 : Int32)))])) t → Steps p.tables e below (s₁.setTop (entryFrame m #[(.int x0), (.int x1), (.int x2), (.int x3), (.int x4)] maxLocals)) t := fun tt kk => pre462 tt (by
    show Steps p.tables e below (T460.setTop (mkF m 107 #[.val (.int x0), .val (.int x1), .val (.int x2), .val (.int x3), .val (.int x4), .val (.ref b390), .val (.ref b395), .unset, .unset] [(.int x2), (.int ((up (up fu0 (0 : Int32) x2) (1 : Int32) x3) (0 : Int32)))])) _
    refine XS.icmpNo X460.here hx rfl (hb hby at_107) rfl (teq ((own_up1 (by decide) (own_up0 (by decide))))).2 ?_
    show Steps p.tables e below (T460.setTop (mkF m 110 #[.val (.int x0), .val (.int x1), .val (.int x2), .val (.int x3), .val (.int x4), .val (.ref b390), .val (.ref b395), .unset, .unset] [])) _
    refine XS.aload X460.here hx rfl (hb hby at_110) rfl rfl ?_
    show Steps p.tables e below (T460.setTop (mkF m 112 #[.val (.int x0), .val (.int x1), .val (.int x2), .val (.int x3), .val (.int x4), .val (.ref b390), .val (.ref b395), .unset, .unset] [(.ref b395)])) _
    refine XS.iconst X460.here hx rfl (hb hby at_112) ?_
    show Steps p.tables e below (T460.setTop (mkF m 113 #[.val (.int x0), .val (.int x1), .val (.int x2), .val (.int x3), .val (.int x4), .val (.ref b390), .val (.ref b395), .unset, .unset] [(.int (1 : Int32)), (.ref b395)])) _
    refine X460.iaload hx (j := (1 : Int32)) (v := (.int ((up (up fu0 (0 : Int32) x2) (1 : Int32) x3) (1 : Int32)))) (by rw [(rfl : T460.heap = T460.heap)]; exact Ar463.1) (State.isArrayOf_alike hZ.alike Ar463.2.1) Ar463.2.2 (inb_of S463 ⟨(by decide), (by decide)⟩) (H463 _ (by decide) (by decide)) (g := (mkF m 113 #[.val (.int x0), .val (.int x1), .val (.int x2), .val (.int x3), .val (.int x4), .val (.ref b390), .val (.ref b395), .unset, .unset] [(.int (1 : Int32)), (.ref b395)])) rfl rfl (hb hby at_113) _ ?_
    show Steps p.tables e below (T460.setTop (mkF m 114 #[.val (.int x0), .val (.int x1), .val (.int x2), .val (.int x3), .val (.int x4), .val (.ref b390), .val (.ref b395), .unset, .unset] [(.int ((up (up fu0 (0 : Int32) x2) (1 : Int32) x3) (1 : Int32)))])) _
    refine XS.iloadN X460.here hx rfl (hb hby at_114) rfl ?_
    exact kk)
  obtain ⟨cq465, kq465, q465a, q465b, q465c⟩ := isOf hZ (rfl : T460.heap = T460.heap) J460.1
  obtain ⟨vv465, _, ⟨T465, L465, k465, n465⟩, -, X465, ⟨Lc465, hQ465, l465, y465, z465⟩, st465⟩ := X460.virtualBack hx (y := (⟨"com/example/envyless/envyless/Journal", "undo", "()V"⟩ : MethodName)) (z := (⟨"com/example/envyless/envyless/Journal", "undo", "()V"⟩ : MethodName)) hown (mvT hZ (hw _ (List.mem_of_getElem? (i := 47) rfl))) (mvT hZ (hw _ (List.mem_of_getElem? (i := 48) rfl))) (notFace_of_selects (args := #[]) (mvT hZ (hw _ (List.mem_of_getElem? (i := 50) rfl)))) (mvT hZ (hw _ (List.mem_of_getElem? (i := 50) rfl))) (mvT hZ (hw _ (List.mem_of_getElem? (i := 49) rfl))) (by decide) (backOf (W := 0) (rm_undo1 l Z a0 hw [] b390 jA jI jV jT2 b395 kA (2 : Int32) (8 : Int32) (16 : Int32) (2 : Int32) (up (up (up (fun _ => 0) (0 : Int32) (0 : Int32)) (1 : Int32) (1 : Int32)) (2 : Int32) (0 : Int32)) (up (up (up (fun _ => 0) (0 : Int32) (fu0 (0 : Int32))) (1 : Int32) ((up fu0 (0 : Int32) x2) (1 : Int32))) (2 : Int32) ((up (up fu0 (0 : Int32) x2) (1 : Int32) x3) (0 : Int32))) (up (own_gr (up (up (up (up (up (up (up (up (fun _ => 0) (0 : Int32) (0 : Int32)) (1 : Int32) (1 : Int32)) (2 : Int32) (1 : Int32)) (3 : Int32) (1 : Int32)) (4 : Int32) (1 : Int32)) (5 : Int32) (1 : Int32)) (6 : Int32) (1 : Int32)) (7 : Int32) (1 : Int32))) (8 : Int32) (2 : Int32)) (up (up fu0 (0 : Int32) x2) (1 : Int32) x3) (7 : Int32) (1 : Int32) (1 : Int32) (1 : Int32) ((up fu0 (0 : Int32) x2) (1 : Int32)) T460.heap n0 Z460 J460 DJv GEv (by decide) (by decide) (by decide) (by decide) (own_up1 (by decide) (own_gr_lt (by decide) (own_up0 (by decide)))) (by decide) (fun i q => Int32.lt_trans q (by decide)) (by decide) (by decide) (by decide) (by decide) (own_up1 (by decide) (own_up0 (by decide))) (own_up1 (by decide) (own_up0 (by decide))) (by decide) (by decide) (by decide)) hZ (hw _ (List.mem_of_getElem? (i := 51) rfl)) (hw _ (List.mem_of_getElem? (i := 2) rfl)) (by decide) (by decide)) q465a q465c (g := (mkF m 127 #[.val (.int x0), .val (.int x1), .val (.int x2), .val (.int x3), .val (.int x4), .val (.ref b390), .val (.ref b395), .val (.int (1 : Int32)), .unset] [(.ref b390)])) rfl (by rw [hml]; rfl) (Steps.refl _) (argsL := []) (rest := []) (lenOf own_pd_3 rfl) rfl (by show 2 * 0 + _ ≤ _; exact Nat.le_of_eq rfl) (hb hby at_127) (fun _ _ => ⟨rfl, (rfl : T460.heap = T460.heap), (by decide : 7 + 0 ≤ _), (by decide : 224 + 0 ≤ _)⟩)
  dsimp only [Pt.U, Pt.locs, Pt.cells, Pt.slots] at X465 l465 y465 z465 st465 hQ465
  subst l465 y465 z465
  obtain ⟨rfl, N465q, Z465, J465⟩ := hQ465
  have N465 := Fr.app N460 N465q
  rw [up_up] at J465
  have AIu465 : AI Z T465.heap b395 (2 : Int32) (up fu0 (0 : Int32) x2) := J465.2.2.2.2.2.2.2.2.2.2.2.1
  obtain ⟨cl466, Ar466, S466, M466, H466⟩ := id AIu465
  have pre467 : ∀ t, Steps p.tables e below (T465.setTop (mkF m 135 #[.val (.int x0), .val (.int x1), .val (.int x2), .val (.int x3), .val (.int x4), .val (.ref b390), .val (.ref b395), .val (.int (1 : Int32)), .unset] [(.int x2), (.int ((up fu0 (0 : Int32) x2) (0 : Int32)))])) t → Steps p.tables e below (s₁.setTop (entryFrame m #[(.int x0), (.int x1), (.int x2), (.int x3), (.int x4)] maxLocals)) t := fun tt kk => pre464 tt (by
    show Steps p.tables e below (T460.setTop (mkF m 115 #[.val (.int x0), .val (.int x1), .val (.int x2), .val (.int x3), .val (.int x4), .val (.ref b390), .val (.ref b395), .unset, .unset] [(.int x3), (.int ((up (up fu0 (0 : Int32) x2) (1 : Int32) x3) (1 : Int32)))])) _
    refine XS.icmpNo X460.here hx rfl (hb hby at_115) rfl (teq ((own_up0 (by decide)))).2 ?_
    show Steps p.tables e below (T460.setTop (mkF m 118 #[.val (.int x0), .val (.int x1), .val (.int x2), .val (.int x3), .val (.int x4), .val (.ref b390), .val (.ref b395), .unset, .unset] [])) _
    refine XS.iconst X460.here hx rfl (hb hby at_118) ?_
    show Steps p.tables e below (T460.setTop (mkF m 119 #[.val (.int x0), .val (.int x1), .val (.int x2), .val (.int x3), .val (.int x4), .val (.ref b390), .val (.ref b395), .unset, .unset] [(.int (1 : Int32))])) _
    refine XS.goto X460.here hx rfl (pc0 := 119) (pc' := 123) rfl (hb hby at_119) (by decide) (by decide) ?_
    show Steps p.tables e below (T460.setTop (mkF m 123 #[.val (.int x0), .val (.int x1), .val (.int x2), .val (.int x3), .val (.int x4), .val (.ref b390), .val (.ref b395), .unset, .unset] [(.int (1 : Int32))])) _
    refine XS.istore X460.here hx rfl (hb hby at_123) rfl (l' := #[.val (.int x0), .val (.int x1), .val (.int x2), .val (.int x3), .val (.int x4), .val (.ref b390), .val (.ref b395), .val (.int (1 : Int32)), .unset]) rfl ?_
    show Steps p.tables e below (T460.setTop (mkF m 125 #[.val (.int x0), .val (.int x1), .val (.int x2), .val (.int x3), .val (.int x4), .val (.ref b390), .val (.ref b395), .val (.int (1 : Int32)), .unset] [])) _
    refine XS.aload X460.here hx rfl (hb hby at_125) rfl rfl ?_
    show Steps p.tables e below (T460.setTop (mkF m 127 #[.val (.int x0), .val (.int x1), .val (.int x2), .val (.int x3), .val (.int x4), .val (.ref b390), .val (.ref b395), .val (.int (1 : Int32)), .unset] [(.ref b390)])) _
    refine st465.trans ?_
    show Steps p.tables e below (T465.setTop (mkF m 130 #[.val (.int x0), .val (.int x1), .val (.int x2), .val (.int x3), .val (.int x4), .val (.ref b390), .val (.ref b395), .val (.int (1 : Int32)), .unset] [])) _
    refine XS.aload X465.here hx rfl (hb hby at_130) rfl rfl ?_
    show Steps p.tables e below (T465.setTop (mkF m 132 #[.val (.int x0), .val (.int x1), .val (.int x2), .val (.int x3), .val (.int x4), .val (.ref b390), .val (.ref b395), .val (.int (1 : Int32)), .unset] [(.ref b395)])) _
    refine XS.iconst X465.here hx rfl (hb hby at_132) ?_
    show Steps p.tables e below (T465.setTop (mkF m 133 #[.val (.int x0), .val (.int x1), .val (.int x2), .val (.int x3), .val (.int x4), .val (.ref b390), .val (.ref b395), .val (.int (1 : Int32)), .unset] [(.int (0 : Int32)), (.ref b395)])) _
    refine X465.iaload hx (j := (0 : Int32)) (v := (.int ((up fu0 (0 : Int32) x2) (0 : Int32)))) (by rw [(rfl : T465.heap = T465.heap)]; exact Ar466.1) (State.isArrayOf_alike hZ.alike Ar466.2.1) Ar466.2.2 (inb_of S466 ⟨(by decide), (by decide)⟩) (H466 _ (by decide) (by decide)) (g := (mkF m 133 #[.val (.int x0), .val (.int x1), .val (.int x2), .val (.int x3), .val (.int x4), .val (.ref b390), .val (.ref b395), .val (.int (1 : Int32)), .unset] [(.int (0 : Int32)), (.ref b395)])) rfl rfl (hb hby at_133) _ ?_
    show Steps p.tables e below (T465.setTop (mkF m 134 #[.val (.int x0), .val (.int x1), .val (.int x2), .val (.int x3), .val (.int x4), .val (.ref b390), .val (.ref b395), .val (.int (1 : Int32)), .unset] [(.int ((up fu0 (0 : Int32) x2) (0 : Int32)))])) _
    refine XS.iloadN X465.here hx rfl (hb hby at_134) rfl ?_
    exact kk)
  obtain ⟨cl468, Ar468, S468, M468, H468⟩ := id AIu465
  have pre469 : ∀ t, Steps p.tables e below (T465.setTop (mkF m 143 #[.val (.int x0), .val (.int x1), .val (.int x2), .val (.int x3), .val (.int x4), .val (.ref b390), .val (.ref b395), .val (.int (1 : Int32)), .unset] [(.int x1), (.int ((up fu0 (0 : Int32) x2) (1 : Int32)))])) t → Steps p.tables e below (s₁.setTop (entryFrame m #[(.int x0), (.int x1), (.int x2), (.int x3), (.int x4)] maxLocals)) t := fun tt kk => pre467 tt (by
    show Steps p.tables e below (T465.setTop (mkF m 135 #[.val (.int x0), .val (.int x1), .val (.int x2), .val (.int x3), .val (.int x4), .val (.ref b390), .val (.ref b395), .val (.int (1 : Int32)), .unset] [(.int x2), (.int ((up fu0 (0 : Int32) x2) (0 : Int32)))])) _
    refine XS.icmpNo X465.here hx rfl (hb hby at_135) rfl (teq ((own_up0 (by decide)))).2 ?_
    show Steps p.tables e below (T465.setTop (mkF m 138 #[.val (.int x0), .val (.int x1), .val (.int x2), .val (.int x3), .val (.int x4), .val (.ref b390), .val (.ref b395), .val (.int (1 : Int32)), .unset] [])) _
    refine XS.aload X465.here hx rfl (hb hby at_138) rfl rfl ?_
    show Steps p.tables e below (T465.setTop (mkF m 140 #[.val (.int x0), .val (.int x1), .val (.int x2), .val (.int x3), .val (.int x4), .val (.ref b390), .val (.ref b395), .val (.int (1 : Int32)), .unset] [(.ref b395)])) _
    refine XS.iconst X465.here hx rfl (hb hby at_140) ?_
    show Steps p.tables e below (T465.setTop (mkF m 141 #[.val (.int x0), .val (.int x1), .val (.int x2), .val (.int x3), .val (.int x4), .val (.ref b390), .val (.ref b395), .val (.int (1 : Int32)), .unset] [(.int (1 : Int32)), (.ref b395)])) _
    refine X465.iaload hx (j := (1 : Int32)) (v := (.int ((up fu0 (0 : Int32) x2) (1 : Int32)))) (by rw [(rfl : T465.heap = T465.heap)]; exact Ar468.1) (State.isArrayOf_alike hZ.alike Ar468.2.1) Ar468.2.2 (inb_of S468 ⟨(by decide), (by decide)⟩) (H468 _ (by decide) (by decide)) (g := (mkF m 141 #[.val (.int x0), .val (.int x1), .val (.int x2), .val (.int x3), .val (.int x4), .val (.ref b390), .val (.ref b395), .val (.int (1 : Int32)), .unset] [(.int (1 : Int32)), (.ref b395)])) rfl rfl (hb hby at_141) _ ?_
    show Steps p.tables e below (T465.setTop (mkF m 142 #[.val (.int x0), .val (.int x1), .val (.int x2), .val (.int x3), .val (.int x4), .val (.ref b390), .val (.ref b395), .val (.int (1 : Int32)), .unset] [(.int ((up fu0 (0 : Int32) x2) (1 : Int32)))])) _
    refine XS.iloadN X465.here hx rfl (hb hby at_142) rfl ?_
    exact kk)
  have pre470 : ∀ t, Steps p.tables e below (T465.setTop (mkF m 155 #[.val (.int x0), .val (.int x1), .val (.int x2), .val (.int x3), .val (.int x4), .val (.ref b390), .val (.ref b395), .val (.int (1 : Int32)), .val (.int (1 : Int32))] [(.int (1 : Int32))])) t → Steps p.tables e below (s₁.setTop (entryFrame m #[(.int x0), (.int x1), (.int x2), (.int x3), (.int x4)] maxLocals)) t := fun tt kk => pre469 tt (by
    show Steps p.tables e below (T465.setTop (mkF m 143 #[.val (.int x0), .val (.int x1), .val (.int x2), .val (.int x3), .val (.int x4), .val (.ref b390), .val (.ref b395), .val (.int (1 : Int32)), .unset] [(.int x1), (.int ((up fu0 (0 : Int32) x2) (1 : Int32)))])) _
    refine XS.icmpNo X465.here hx rfl (hb hby at_143) rfl (teq ((own_up1 (by decide) (by rw [hfu0]; exact own_up0 (by decide))))).2 ?_
    show Steps p.tables e below (T465.setTop (mkF m 146 #[.val (.int x0), .val (.int x1), .val (.int x2), .val (.int x3), .val (.int x4), .val (.ref b390), .val (.ref b395), .val (.int (1 : Int32)), .unset] [])) _
    refine XS.iconst X465.here hx rfl (hb hby at_146) ?_
    show Steps p.tables e below (T465.setTop (mkF m 147 #[.val (.int x0), .val (.int x1), .val (.int x2), .val (.int x3), .val (.int x4), .val (.ref b390), .val (.ref b395), .val (.int (1 : Int32)), .unset] [(.int (1 : Int32))])) _
    refine XS.goto X465.here hx rfl (pc0 := 147) (pc' := 151) rfl (hb hby at_147) (by decide) (by decide) ?_
    show Steps p.tables e below (T465.setTop (mkF m 151 #[.val (.int x0), .val (.int x1), .val (.int x2), .val (.int x3), .val (.int x4), .val (.ref b390), .val (.ref b395), .val (.int (1 : Int32)), .unset] [(.int (1 : Int32))])) _
    refine XS.istore X465.here hx rfl (hb hby at_151) rfl (l' := #[.val (.int x0), .val (.int x1), .val (.int x2), .val (.int x3), .val (.int x4), .val (.ref b390), .val (.ref b395), .val (.int (1 : Int32)), .val (.int (1 : Int32))]) rfl ?_
    show Steps p.tables e below (T465.setTop (mkF m 153 #[.val (.int x0), .val (.int x1), .val (.int x2), .val (.int x3), .val (.int x4), .val (.ref b390), .val (.ref b395), .val (.int (1 : Int32)), .val (.int (1 : Int32))] [])) _
    refine XS.iload X465.here hx rfl (hb hby at_153) rfl ?_
    exact kk)
  have pre471 : ∀ t, Steps p.tables e below (T465.setTop (mkF m 160 #[.val (.int x0), .val (.int x1), .val (.int x2), .val (.int x3), .val (.int x4), .val (.ref b390), .val (.ref b395), .val (.int (1 : Int32)), .val (.int (1 : Int32))] [(.int (1 : Int32))])) t → Steps p.tables e below (s₁.setTop (entryFrame m #[(.int x0), (.int x1), (.int x2), (.int x3), (.int x4)] maxLocals)) t := fun tt kk => pre470 tt (by
    show Steps p.tables e below (T465.setTop (mkF m 155 #[.val (.int x0), .val (.int x1), .val (.int x2), .val (.int x3), .val (.int x4), .val (.ref b390), .val (.ref b395), .val (.int (1 : Int32)), .val (.int (1 : Int32))] [(.int (1 : Int32))])) _
    refine XS.ifNo X465.here hx rfl (hb hby at_155) rfl ((if0 _ _).trans (feq (by decide : ¬ ((1 : Int32) = (0 : Int32)))).1) ?_
    show Steps p.tables e below (T465.setTop (mkF m 158 #[.val (.int x0), .val (.int x1), .val (.int x2), .val (.int x3), .val (.int x4), .val (.ref b390), .val (.ref b395), .val (.int (1 : Int32)), .val (.int (1 : Int32))] [])) _
    refine XS.iload X465.here hx rfl (hb hby at_158) rfl ?_
    exact kk)
  obtain ⟨fs, hr, hrun, hended, hW, hsame⟩ := X465.leave (v := some (.int (1 : Int32))) (fun h => by rw [Bd.returns] at h; cases h)
  refine ⟨_, _, pre471 _ ?_, hrun, hended, _, _, rfl, ?_, ⟨_, rfl⟩, hW, hsame.mono (by decide) (by decide)⟩
  · show Steps p.tables e below (T465.setTop (mkF m 160 #[.val (.int x0), .val (.int x1), .val (.int x2), .val (.int x3), .val (.int x4), .val (.ref b390), .val (.ref b395), .val (.int (1 : Int32)), .val (.int (1 : Int32))] [(.int (1 : Int32))])) _
    refine XS.ifNo X465.here hx rfl (hb hby at_160) rfl ((if0 _ _).trans (feq (by decide : ¬ ((1 : Int32) = (0 : Int32)))).1) ?_
    show Steps p.tables e below (T465.setTop (mkF m 163 #[.val (.int x0), .val (.int x1), .val (.int x2), .val (.int x3), .val (.int x4), .val (.ref b390), .val (.ref b395), .val (.int (1 : Int32)), .val (.int (1 : Int32))] [])) _
    refine XS.iconst X465.here hx rfl (hb hby at_163) ?_
    show Steps p.tables e below (T465.setTop (mkF m 164 #[.val (.int x0), .val (.int x1), .val (.int x2), .val (.int x3), .val (.int x4), .val (.ref b390), .val (.ref b395), .val (.int (1 : Int32)), .val (.int (1 : Int32))] [(.int (1 : Int32))])) _
    refine XS.goto X465.here hx rfl (pc0 := 164) (pc' := 168) rfl (hb hby at_164) (by decide) (by decide) ?_
    show Steps p.tables e below (T465.setTop (mkF m 168 #[.val (.int x0), .val (.int x1), .val (.int x2), .val (.int x3), .val (.int x4), .val (.ref b390), .val (.ref b395), .val (.int (1 : Int32)), .val (.int (1 : Int32))] [(.int (1 : Int32))])) _
    exact retN X465 hx (t := .boolean) Bd.returns (by simp) (hb hby at_168) hr
  · exact ⟨rfl, N465⟩
set_option maxRecDepth 65536 in
set_option maxHeartbeats 40000000 in
theorem comes_1 {Post : Tables → Env → Array Value → State → Outcome → State → Prop} (hpost : ∀ tb e args s v u, (limb_1_1.after args s (.returned v) u = true ∧ limb_1_2.after args s (.returned v) u = true ∧ True) → FrameEnd s (.returned v) u (Jvm.fieldLocs frame_1_writes args s ++ Jvm.arrayLocs frame_1_arrays args s ++ Jvm.staticLocs frame_1_statics s) 24 512 → Post tb e args s (.returned v) u) :
    ArmFor flags0 classFile x code maxLocals ret World_1 tables_1 room_1 Calls_1 rest_1 Pre_1 Post := by
  intro l hfl _ _ p e ha hc hk s m args below hf hA hF happ hP
  obtain ⟨hcalls, hrest, hpre⟩ := hP
  obtain ⟨-, -, -, hnamed, -, -, -, hat⟩ := (Spec.applies_iff hf).mp happ
  obtain ⟨hg, hn⟩ := and_e (Cond.before_iff.mp (show (Jvm.Cond.and given_1 narrow_1).before args s = true from hpre))
  obtain ⟨g0, g0r⟩ := and_e hg
  obtain ⟨g1, g1r⟩ := and_e g0r
  obtain ⟨g2, g2r⟩ := and_e g1r
  obtain ⟨g3, g3r⟩ := and_e g2r
  obtain ⟨g4, g4r⟩ := and_e g3r
  obtain ⟨w0_, w1_, w2_, w3_, w4_, rfl⟩ : ∃ w0_ w1_ w2_ w3_ w4_ : Value, args = #[w0_, w1_, w2_, w3_, w4_] := by
    have hs : args.size = 5 := by simpa [Cond.value, given_1] using g0
    obtain ⟨L⟩ := args
    match L, hs with
    | [w0_, w1_, w2_, w3_, w4_], _ => exact ⟨w0_, w1_, w2_, w3_, w4_, rfl⟩
  have hw := fun d (hd : d ∈ tables_1) => atoms_spec (ws := Jvm.Cond.code x code maxLocals ret :: tables_1) hat d (List.mem_cons_of_mem _ hd)
  have hfit : Fit s := fun {y c} hc i hi => by
    obtain ⟨ha, rfl⟩ := Array.getElem?_eq_some_iff.mp hc
    have q := List.all_eq_true.mp ((Array.all_eq_true_iff_forall_mem.mp hF) _ (Array.getElem_mem ha)) i (List.mem_range.mpr hi)
    simpa [Array.getElem?_eq_getElem hi] using q
  obtain ⟨i0, ei0⟩ := is_v g1
  obtain rfl : w0_ = (.int i0) := Option.some.inj ei0
  obtain ⟨i1, ei1⟩ := is_v g2
  obtain rfl : w1_ = (.int i1) := Option.some.inj ei1
  obtain ⟨i2, ei2⟩ := is_v g3
  obtain rfl : w2_ = (.int i2) := Option.some.inj ei2
  obtain ⟨i3, ei3⟩ := is_v g4
  obtain rfl : w3_ = (.int i3) := Option.some.inj ei3
  obtain ⟨i4, ei4⟩ := is_v g4r
  obtain rfl : w4_ = (.int i4) := Option.some.inj ei4
  obtain ⟨n, o, h1, h2, h3, _, L, rfl, ⟨rfl, N⟩, hq⟩ := rm0 l s _ hw tables_1 i0 i1 i2 i3 i4 s.heap s.heap.size (Nat.le_refl _) p e ha hc hk s m _ below hf ((Spec.applies_iff_loose hf).mp happ).1 ⟨rfl, State.Warmed39.refl s, rfl⟩ trivial
  refine ⟨n, _, h1, h2, h3, hpost _ _ _ _ _ _ ⟨Cond.after_iff.mpr rfl, Cond.after_iff.mpr (eq_i res_at (Term.int_eval (1)) rfl), trivial⟩ ⟨hq.1, hq.2.1, (hq.2.2.sift fun y hy => Or.inr (N y hy)).mono (by decide) (by decide)⟩⟩
theorem main_1_1 : Claimed_1_1 := comes_1 fun _ _ _ _ _ _ h hF => ⟨h.1, hF⟩
theorem main_1_2 : Claimed_1_2 := comes_1 fun _ _ _ _ _ _ h hF => ⟨h.2.1, hF⟩
end Jvm.Pilot.@@N@@
namespace Jvm.Pilot.@@N@@
open Jvm Jvm.ClassFile Sem Op Lib Jvm.Free Jvm.Stand Jvm.Pilot.@@N@@.Jvm.D
/-! MADE BY PROGRAM (witnessworld.py) out of the Statement's table words and the real class files: 13 classes; the members and pool entries that the words name. The judged class is class 1, her method 1. -/
namespace start1
open Jvm.ClassFile
def u (s : String) : CpInfo := .utf8 (stringToUtf16 s)
/-- a pool by its gaps: so many unusable entries, then the entry; so many at the end -/
def gap : Nat → List CpInfo → List CpInfo
  | 0, r => r
  | n + 1, r => .unusable :: gap n r
def poolList (es : List (Nat × CpInfo)) (last : Nat) : List CpInfo := es.foldr (fun e r => gap e.1 (e.2 :: r)) (gap last [])
def pool (es : List (Nat × CpInfo)) (last : Nat) : Array CpInfo := ⟨poolList es last⟩
def fileOf (pool : Array CpInfo) (this : Nat) (attrs : Array Attribute := #[]) (ms : Array MethodInfo := #[]) (fl : Nat := 33) (sup : Nat := 0) (ifs : Array Nat := #[]) (fds : Array FieldInfo := #[]) : ClassFile where
  minorVersion := 0
  majorVersion := 65
  constantPool := pool
  accessFlags := fl
  thisClass := this
  superClass := sup
  interfaces := ifs
  fields := fds
  methods := ms
  attributes := attrs
def plain (name : String) (sup : Option ClassId) : Class where
  name := name
  kind := .ordinary
  loader := none
  accessFlags := 33
  super := sup
  interfaces := #[]
  cf := none
  fields := #[]
  methods := #[]
  instanceTypes := #[]
  staticTypes := #[]
  resolved := #[]
  callSites := []
  init := .initialized
  statics := none
  mirror := none

def pool0 : Array CpInfo := pool [(5, u "<init>"), (0, u "()V"), (1, .class_ 10), (1, u "java/lang/Object")] 113

def k0c0 : Code := { maxStack := 0, maxLocals := 1, code := object_method_1_code, exceptionTable := #[], attributes := #[] }
def k0m0 : Method := { name := "<init>", desc := "()V", sig := { parameters := [], returnType := none }, accessFlags := 1, code := some k0c0 }
/-- java/lang/Object -/
def k0 : Class := { plain "java/lang/Object" none with
  accessFlags := 33
  interfaces := #[]
  cf := some (fileOf pool0 8 #[] #[{ accessFlags := 1, nameIndex := 5, descriptorIndex := 6, attributes := #[] }] 33 0 #[] #[])
  fields := #[]
  methods := #[k0m0]
  instanceTypes := #[]
  staticTypes := #[]
  resolved := Array.replicate 124 none
  statics := none }

def pool1 : Array CpInfo := pool [(2, .class_ 4), (0, .nameAndType 5 6), (0, u "java/lang/Object"), (0, u "<init>"), (0, u "()V"), (0, .class_ 8), (0, u "com/example/envyless/envyless/Journal"), (0, .methodref 7 3), (0, .methodref 7 11), (0, .nameAndType 12 6), (0, u "start"), (0, .methodref 7 14), (0, .nameAndType 15 16), (0, u "set"), (0, u "([III)V"), (0, .methodref 7 18), (0, .nameAndType 19 6), (0, u "undo"), (0, .class_ 21), (0, u "com/example/envyless/envyless/JournalStartPinLaw"), (2, u "law"), (0, u "(IIIII)Z")] 5

def k1m0 : Method := { name := "<init>", desc := "()V", sig := { parameters := [], returnType := none }, accessFlags := 1, code := none }
def k1c1 : Code := { maxStack := 4, maxLocals := 9, code := code, exceptionTable := #[], attributes := #[] }
def k1m1 : Method := { name := "law", desc := "(IIIII)Z", sig := { parameters := [.int, .int, .int, .int, .int], returnType := some .boolean }, accessFlags := 9, code := some k1c1 }
/-- com/example/envyless/envyless/JournalStartPinLaw -/
def k1 : Class := { plain "com/example/envyless/envyless/JournalStartPinLaw" (some 0) with
  accessFlags := 49
  interfaces := #[]
  cf := some (fileOf pool1 20 #[] #[{ accessFlags := 1, nameIndex := 5, descriptorIndex := 6, attributes := #[] }, { accessFlags := 9, nameIndex := 24, descriptorIndex := 25, attributes := #[] }] 49 2 #[] #[])
  fields := #[]
  methods := #[k1m0, k1m1]
  instanceTypes := #[]
  staticTypes := #[]
  resolved := Array.replicate 31 none
  statics := none }

def pool2 : Array CpInfo := pool [(1, .methodref 2 3), (0, .class_ 4), (0, .nameAndType 5 6), (0, u "java/lang/Object"), (0, u "<init>"), (0, u "()V"), (0, .class_ 8), (0, u "[I"), (0, .fieldref 10 11), (0, .class_ 12), (0, .nameAndType 13 14), (0, u "com/example/envyless/envyless/Journal"), (0, u "arrays"), (0, u "[[I"), (0, .fieldref 10 16), (0, .nameAndType 17 8), (0, u "indexes"), (0, .fieldref 10 19), (0, .nameAndType 20 8), (0, u "values"), (0, .fieldref 10 22), (0, .nameAndType 23 8), (0, u "starts"), (0, .fieldref 10 25), (0, .nameAndType 26 27), (0, u "open"), (0, u "I"), (0, .fieldref 10 29), (0, .nameAndType 30 27), (0, u "length"), (1, .class_ 34), (1, u "java/util/Arrays"), (0, u "copyOf"), (2, .methodref 32 39), (0, .nameAndType 35 40), (0, u "([II)[I"), (0, .methodref 10 42), (0, .nameAndType 43 44), (0, u "close"), (0, u "()I"), (9, u "set"), (0, u "([III)V"), (1, u "start"), (0, u "undo")] 3

def k2c0 : Code := { maxStack := 2, maxLocals := 1, code := prog_22_method_1_code, exceptionTable := #[], attributes := #[] }
def k2m0 : Method := { name := "<init>", desc := "()V", sig := { parameters := [], returnType := none }, accessFlags := 0, code := some k2c0 }
def k2c1 : Code := { maxStack := 4, maxLocals := 4, code := prog_22_method_2_code, exceptionTable := #[], attributes := #[] }
def k2m1 : Method := { name := "set", desc := "([III)V", sig := { parameters := [(.array .int), .int, .int], returnType := none }, accessFlags := 0, code := some k2c1 }
def k2c2 : Code := { maxStack := 5, maxLocals := 1, code := prog_22_method_3_code, exceptionTable := #[], attributes := #[] }
def k2m2 : Method := { name := "start", desc := "()V", sig := { parameters := [], returnType := none }, accessFlags := 0, code := some k2c2 }
def k2c3 : Code := { maxStack := 4, maxLocals := 2, code := prog_22_method_4_code, exceptionTable := #[], attributes := #[] }
def k2m3 : Method := { name := "undo", desc := "()V", sig := { parameters := [], returnType := none }, accessFlags := 0, code := some k2c3 }
def k2c4 : Code := { maxStack := 4, maxLocals := 1, code := prog_22_method_6_code, exceptionTable := #[], attributes := #[] }
def k2m4 : Method := { name := "close", desc := "()I", sig := { parameters := [], returnType := some .int }, accessFlags := 2, code := some k2c4 }
/-- com/example/envyless/envyless/Journal -/
def k2 : Class := { plain "com/example/envyless/envyless/Journal" (some 0) with
  accessFlags := 48
  interfaces := #[]
  cf := some (fileOf pool2 10 #[] #[{ accessFlags := 0, nameIndex := 5, descriptorIndex := 6, attributes := #[] }, { accessFlags := 0, nameIndex := 54, descriptorIndex := 55, attributes := #[] }, { accessFlags := 0, nameIndex := 57, descriptorIndex := 6, attributes := #[] }, { accessFlags := 0, nameIndex := 58, descriptorIndex := 6, attributes := #[] }, { accessFlags := 2, nameIndex := 43, descriptorIndex := 44, attributes := #[] }] 48 2 #[] #[{ accessFlags := 2, nameIndex := 13, descriptorIndex := 14, attributes := #[] }, { accessFlags := 2, nameIndex := 17, descriptorIndex := 8, attributes := #[] }, { accessFlags := 2, nameIndex := 20, descriptorIndex := 8, attributes := #[] }, { accessFlags := 2, nameIndex := 30, descriptorIndex := 27, attributes := #[] }, { accessFlags := 2, nameIndex := 23, descriptorIndex := 8, attributes := #[] }, { accessFlags := 2, nameIndex := 26, descriptorIndex := 27, attributes := #[] }])
  fields := #[{ name := "arrays", type := (.array (.array .int)), accessFlags := 2, slot := 0, constantValue := 0 }, { name := "indexes", type := (.array .int), accessFlags := 2, slot := 1, constantValue := 0 }, { name := "values", type := (.array .int), accessFlags := 2, slot := 2, constantValue := 0 }, { name := "length", type := .int, accessFlags := 2, slot := 3, constantValue := 0 }, { name := "starts", type := (.array .int), accessFlags := 2, slot := 4, constantValue := 0 }, { name := "open", type := .int, accessFlags := 2, slot := 5, constantValue := 0 }]
  methods := #[k2m0, k2m1, k2m2, k2m3, k2m4]
  instanceTypes := #[(.array (.array .int)), (.array .int), (.array .int), .int, (.array .int), .int]
  staticTypes := #[]
  resolved := Array.replicate 62 none
  statics := none }

def pool3 : Array CpInfo := pool [(2, .class_ 4), (1, u "java/lang/Object"), (0, u "<init>"), (0, u "()V"), (7, .class_ 16), (1, u "java/util/Arrays"), (57, .class_ 76), (1, u "java/util/Arrays$NaturalOrder"), (36, .class_ 115), (1, u "java/util/Arrays$LegacyMergeSort"), (1, u "Z"), (32, .methodref 151 152), (0, .class_ 153), (0, .nameAndType 154 155), (0, u "java/lang/System"), (0, u "arraycopy"), (0, u "(Ljava/lang/Object;ILjava/lang/Object;II)V"), (146, u "copyOf"), (1, .methodref 305 306), (0, .class_ 307), (0, .nameAndType 308 309), (0, u "java/lang/Math"), (0, u "min"), (0, u "(II)I"), (65, .class_ 376), (0, u "java/util/Arrays$ArrayList"), (68, u "$assertionsDisabled"), (269, u "MIN_ARRAY_SORT_GRAN"), (0, u "I"), (2, u "INSERTIONSORT_THRESHOLD"), (151, u "([II)[I"), (103, .class_ 976), (0, u "java/util/Arrays$ArrayItr")] 52

def k3m0 : Method := { name := "<init>", desc := "()V", sig := { parameters := [], returnType := none }, accessFlags := 2, code := none }
def k3c1 : Code := { maxStack := 6, maxLocals := 3, code := jdk_65_method_123_code, exceptionTable := #[], attributes := #[] }
def k3m1 : Method := { name := "copyOf", desc := "([II)[I", sig := { parameters := [(.array .int), .int], returnType := some (.array .int) }, accessFlags := 9, code := some k3c1 }
/-- java/util/Arrays -/
def k3 : Class := { plain "java/util/Arrays" (some 0) with
  accessFlags := 49
  interfaces := #[]
  cf := some (fileOf pool3 14 #[.nestMembers #[975, 375, 113, 74]] #[{ accessFlags := 2, nameIndex := 5, descriptorIndex := 6, attributes := #[] }, { accessFlags := 9, nameIndex := 302, descriptorIndex := 871, attributes := #[] }] 49 2 #[] #[{ accessFlags := 26, nameIndex := 715, descriptorIndex := 716, attributes := #[] }, { accessFlags := 26, nameIndex := 719, descriptorIndex := 716, attributes := #[] }, { accessFlags := 4120, nameIndex := 445, descriptorIndex := 117, attributes := #[] }])
  fields := #[{ name := "MIN_ARRAY_SORT_GRAN", type := .int, accessFlags := 26, slot := 0, constantValue := 0 }, { name := "INSERTIONSORT_THRESHOLD", type := .int, accessFlags := 26, slot := 1, constantValue := 0 }, { name := "$assertionsDisabled", type := .boolean, accessFlags := 4120, slot := 2, constantValue := 0 }]
  methods := #[k3m0, k3m1]
  instanceTypes := #[]
  staticTypes := #[.int, .int, .boolean]
  resolved := Array.replicate 1029 none
  statics := none }

def pool4 : Array CpInfo := pool [(1, .class_ 2), (0, u "java/lang/Math"), (1, .class_ 6), (1, u "java/lang/Object"), (0, u "<init>"), (0, u "()V"), (89, .class_ 100), (1, u "java/lang/Math$RandomNumberGeneratorHolder"), (71, u "negativeZeroFloatBits"), (0, u "J"), (2, u "negativeZeroDoubleBits"), (24, u "min"), (43, u "$assertionsDisabled"), (0, u "Z"), (88, u "(II)I"), (2, u "twoToTheDoubleScaleDown"), (0, u "D"), (4, u "twoToTheDoubleScaleUp"), (9, u "E"), (3, u "PI"), (2, u "TAU"), (2, u "DEGREES_TO_RADIANS"), (0, u "RADIANS_TO_DEGREES")] 94

def k4m0 : Method := { name := "<init>", desc := "()V", sig := { parameters := [], returnType := none }, accessFlags := 2, code := none }
def k4c1 : Code := { maxStack := 2, maxLocals := 2, code := jdk_29_method_69_code, exceptionTable := #[], attributes := #[] }
def k4m1 : Method := { name := "min", desc := "(II)I", sig := { parameters := [.int, .int], returnType := some .int }, accessFlags := 9, code := some k4c1 }
/-- java/lang/Math -/
def k4 : Class := { plain "java/lang/Math" (some 0) with
  accessFlags := 49
  interfaces := #[]
  cf := some (fileOf pool4 1 #[.nestMembers #[98]] #[{ accessFlags := 2, nameIndex := 7, descriptorIndex := 8, attributes := #[] }, { accessFlags := 9, nameIndex := 201, descriptorIndex := 335, attributes := #[] }] 49 4 #[] #[{ accessFlags := 25, nameIndex := 354, descriptorIndex := 339, attributes := #[] }, { accessFlags := 25, nameIndex := 358, descriptorIndex := 339, attributes := #[] }, { accessFlags := 25, nameIndex := 361, descriptorIndex := 339, attributes := #[] }, { accessFlags := 26, nameIndex := 364, descriptorIndex := 339, attributes := #[] }, { accessFlags := 26, nameIndex := 365, descriptorIndex := 339, attributes := #[] }, { accessFlags := 26, nameIndex := 172, descriptorIndex := 173, attributes := #[] }, { accessFlags := 26, nameIndex := 176, descriptorIndex := 173, attributes := #[] }, { accessFlags := 8, nameIndex := 344, descriptorIndex := 339, attributes := #[] }, { accessFlags := 8, nameIndex := 338, descriptorIndex := 339, attributes := #[] }, { accessFlags := 4120, nameIndex := 245, descriptorIndex := 246, attributes := #[] }])
  fields := #[{ name := "E", type := .double, accessFlags := 25, slot := 0, constantValue := 0 }, { name := "PI", type := .double, accessFlags := 25, slot := 1, constantValue := 0 }, { name := "TAU", type := .double, accessFlags := 25, slot := 2, constantValue := 0 }, { name := "DEGREES_TO_RADIANS", type := .double, accessFlags := 26, slot := 3, constantValue := 0 }, { name := "RADIANS_TO_DEGREES", type := .double, accessFlags := 26, slot := 4, constantValue := 0 }, { name := "negativeZeroFloatBits", type := .long, accessFlags := 26, slot := 5, constantValue := 0 }, { name := "negativeZeroDoubleBits", type := .long, accessFlags := 26, slot := 6, constantValue := 0 }, { name := "twoToTheDoubleScaleUp", type := .double, accessFlags := 8, slot := 7, constantValue := 0 }, { name := "twoToTheDoubleScaleDown", type := .double, accessFlags := 8, slot := 8, constantValue := 0 }, { name := "$assertionsDisabled", type := .boolean, accessFlags := 4120, slot := 9, constantValue := 0 }]
  methods := #[k4m0, k4m1]
  instanceTypes := #[]
  staticTypes := #[.double, .double, .double, .double, .double, .long, .long, .double, .double, .boolean]
  resolved := Array.replicate 460 none
  statics := none }

def pool5 : Array CpInfo := pool [(2, .class_ 4), (1, u "java/lang/Object"), (0, u "<init>"), (0, u "()V"), (1, .class_ 10), (1, u "java/lang/System"), (0, u "allowSecurityManager"), (0, u "I"), (16, u "cons"), (0, u "Ljava/io/Console;"), (77, .class_ 110), (1, u "java/lang/System$CallersHolder"), (43, u "initialErrStream"), (0, u "Ljava/io/PrintStream;"), (19, u "security"), (0, u "Ljava/lang/SecurityManager;"), (31, .class_ 209), (0, u "java/lang/System$1"), (7, u "props"), (0, u "Ljava/util/Properties;"), (2, u "lineSeparator"), (0, u "Ljava/lang/String;"), (96, .class_ 321), (1, u "java/lang/System$LoggerFinder"), (5, .class_ 328), (0, u "java/lang/System$Logger"), (67, u "err"), (2, u "out"), (91, u "notSupportedJnuEncoding"), (15, u "in"), (17, u "initialIn"), (0, u "Ljava/io/InputStream;"), (35, u "bootLayer"), (0, u "Ljava/lang/ModuleLayer;"), (99, .class_ 664), (0, u "java/lang/System$2"), (9, u "NEVER"), (2, u "MAYBE"), (49, u "arraycopy"), (0, u "(Ljava/lang/Object;ILjava/lang/Object;II)V"), (72, .class_ 802), (0, u "java/lang/System$Logger$Level")] 31

def k5m0 : Method := { name := "<init>", desc := "()V", sig := { parameters := [], returnType := none }, accessFlags := 2, code := none }
def k5m1 : Method := { name := "arraycopy", desc := "(Ljava/lang/Object;ILjava/lang/Object;II)V", sig := { parameters := [(.object "java/lang/Object"), .int, (.object "java/lang/Object"), .int, .int], returnType := none }, accessFlags := 265, code := none }
/-- java/lang/System -/
def k5 : Class := { plain "java/lang/System" (some 0) with
  accessFlags := 49
  interfaces := #[]
  cf := some (fileOf pool5 8 #[.nestMembers #[319, 327, 801, 108, 663, 208]] #[{ accessFlags := 2, nameIndex := 5, descriptorIndex := 6, attributes := #[] }, { accessFlags := 265, nameIndex := 727, descriptorIndex := 728, attributes := #[] }] 49 2 #[] #[{ accessFlags := 25, nameIndex := 507, descriptorIndex := 526, attributes := #[] }, { accessFlags := 25, nameIndex := 399, descriptorIndex := 155, attributes := #[] }, { accessFlags := 25, nameIndex := 396, descriptorIndex := 155, attributes := #[] }, { accessFlags := 10, nameIndex := 525, descriptorIndex := 526, attributes := #[] }, { accessFlags := 26, nameIndex := 674, descriptorIndex := 12, attributes := #[] }, { accessFlags := 26, nameIndex := 677, descriptorIndex := 12, attributes := #[] }, { accessFlags := 10, nameIndex := 11, descriptorIndex := 12, attributes := #[] }, { accessFlags := 74, nameIndex := 175, descriptorIndex := 176, attributes := #[] }, { accessFlags := 10, nameIndex := 491, descriptorIndex := 222, attributes := #[] }, { accessFlags := 74, nameIndex := 29, descriptorIndex := 30, attributes := #[] }, { accessFlags := 74, nameIndex := 154, descriptorIndex := 155, attributes := #[] }, { accessFlags := 10, nameIndex := 217, descriptorIndex := 218, attributes := #[] }, { accessFlags := 10, nameIndex := 221, descriptorIndex := 222, attributes := #[] }, { accessFlags := 8, nameIndex := 562, descriptorIndex := 563, attributes := #[] }])
  fields := #[{ name := "in", type := (.object "java/io/InputStream"), accessFlags := 25, slot := 0, constantValue := 0 }, { name := "out", type := (.object "java/io/PrintStream"), accessFlags := 25, slot := 1, constantValue := 0 }, { name := "err", type := (.object "java/io/PrintStream"), accessFlags := 25, slot := 2, constantValue := 0 }, { name := "initialIn", type := (.object "java/io/InputStream"), accessFlags := 10, slot := 3, constantValue := 0 }, { name := "NEVER", type := .int, accessFlags := 26, slot := 4, constantValue := 0 }, { name := "MAYBE", type := .int, accessFlags := 26, slot := 5, constantValue := 0 }, { name := "allowSecurityManager", type := .int, accessFlags := 10, slot := 6, constantValue := 0 }, { name := "security", type := (.object "java/lang/SecurityManager"), accessFlags := 74, slot := 7, constantValue := 0 }, { name := "notSupportedJnuEncoding", type := (.object "java/lang/String"), accessFlags := 10, slot := 8, constantValue := 0 }, { name := "cons", type := (.object "java/io/Console"), accessFlags := 74, slot := 9, constantValue := 0 }, { name := "initialErrStream", type := (.object "java/io/PrintStream"), accessFlags := 74, slot := 10, constantValue := 0 }, { name := "props", type := (.object "java/util/Properties"), accessFlags := 10, slot := 11, constantValue := 0 }, { name := "lineSeparator", type := (.object "java/lang/String"), accessFlags := 10, slot := 12, constantValue := 0 }, { name := "bootLayer", type := (.object "java/lang/ModuleLayer"), accessFlags := 8, slot := 13, constantValue := 0 }]
  methods := #[k5m0, k5m1]
  instanceTypes := #[]
  staticTypes := #[(.object "java/io/InputStream"), (.object "java/io/PrintStream"), (.object "java/io/PrintStream"), (.object "java/io/InputStream"), .int, .int, .int, (.object "java/lang/SecurityManager"), (.object "java/lang/String"), (.object "java/io/Console"), (.object "java/io/PrintStream"), (.object "java/util/Properties"), (.object "java/lang/String"), (.object "java/lang/ModuleLayer")]
  resolved := Array.replicate 834 none
  statics := none }

def pool6 : Array CpInfo := pool [(1, u "java/lang/Cloneable"), (0, .class_ 1), (0, u "java/lang/Object"), (0, .class_ 3)] 3

/-- java/lang/Cloneable -/
def k6 : Class := { plain "java/lang/Cloneable" (some 0) with
  accessFlags := 1537
  interfaces := #[]
  cf := some (fileOf pool6 2 #[] #[] 1537 4 #[] #[])
  fields := #[]
  methods := #[]
  instanceTypes := #[]
  staticTypes := #[]
  resolved := Array.replicate 8 none
  statics := none }

def pool7 : Array CpInfo := pool [(1, u "java/io/Serializable"), (0, .class_ 1), (0, u "java/lang/Object"), (0, .class_ 3)] 3

/-- java/io/Serializable -/
def k7 : Class := { plain "java/io/Serializable" (some 0) with
  accessFlags := 1537
  interfaces := #[]
  cf := some (fileOf pool7 2 #[] #[] 1537 4 #[] #[])
  fields := #[]
  methods := #[]
  instanceTypes := #[]
  staticTypes := #[]
  resolved := Array.replicate 8 none
  statics := none }

/-- the primitive byte -/
def k8 : Class := { plain "byte" none with kind := .primitive 'B', accessFlags := 0x411 }
/-- [B -/
def k9 : Class := { plain "[B" (some 0) with kind := .array 8 .byte, interfaces := #[6, 7], accessFlags := 1041 }

/-- the primitive int -/
def k10 : Class := { plain "int" none with kind := .primitive 'I', accessFlags := 0x411 }
/-- [I -/
def k11 : Class := { plain "[I" (some 0) with kind := .array 10 .int, interfaces := #[6, 7], accessFlags := 1041 }

/-- [[I -/
def k12 : Class := { plain "[[I" (some 0) with kind := .array 11 (.array .int), interfaces := #[6, 7], accessFlags := 1041 }

def heap : Heap := #[{ cls := 12, slots := #[.null], vm := .none }]
def classes : Array Class := #[k0, k1, k2, k3, k4, k5, k6, k7, k8, k9, k10, k11, k12]
def interned : List (Array UInt16 × Addr) := []
def slotsUsed : Nat := 1
def theMethod : MethodId := ⟨1, 1⟩
def args0 : Array Value := #[.int 5, .int 7, .int 3, .int 4, .int 5]
def aboutOver (below : List Frame) : State where
  vm := { classes := classes, interned := interned.toArray }
  heap := heap
  slotsUsed := slotsUsed
  threads := #[{ frames := .invoking theMethod args0 :: below }]
def below0 : List Frame := [.native { method := ⟨0, 0⟩, args := #[] }]
def about1 : State := aboutOver below0
def p0 : Program := .bare "" "" ""
def e0 : Env := launch0.env 0 0 0
theorem w_frames : about1.frames = Frame.invoking theMethod args0 :: below0 := rfl
set_option maxRecDepth 65536 in
theorem w_args : argsFit about1.vm theMethod args0 = true := by decide +kernel
set_option maxRecDepth 65536 in
theorem w_heap : heapFits about1 = true := by decide +kernel
set_option maxRecDepth 65536 in
theorem w_runnable : about1.curStatus? = some .runnable := by decide +kernel
set_option maxRecDepth 65536 in
theorem w_alone : about1.alone = true := by decide +kernel
set_option maxRecDepth 65536 in
theorem w_named : about1.methodNamed? x = some theMethod := by decide +kernel
set_option maxRecDepth 65536 in
theorem w_hears : about1.hears theMethod below0 = true := by decide +kernel
set_option maxRecDepth 65536 in
theorem w_ripe : about1.ripe theMethod args0 below0 = true := by decide +kernel
theorem w_running : about1.status = .running := rfl
set_option maxRecDepth 65536 in
theorem w_room : about1.hasRoom e0.platform room_1 = true :=
  launch0.hasRoom_least _ room_1 (by decide +kernel) (by decide +kernel) (by decide +kernel) (by decide +kernel) (by decide +kernel) (by decide +kernel)
theorem allAtoms_all (ts : List Jvm.Cond) (a : Array Jvm.Value) (st : Jvm.State) : (allAtoms ts).before a st = ts.all (fun c => c.before a st) := by
  induction ts with
  | nil => rfl
  | cons c t ih =>
    show (Jvm.Cond.and c (allAtoms t)).before a st = _
    rw [Jvm.Cond.before_and, ih, List.all_cons]
def words1 : List Jvm.Cond := Jvm.Cond.code x code maxLocals ret :: tables_1
/-- a 'code' word, met by the world's own term for the bytes: nothing is compared byte by byte -/
theorem code_word {y : MethodName} {bytes : ByteArray} {mx : Nat} {rt : Option FieldType} {a : Array Value} {s : State} {m : MethodId} {meth : Method} {c : Code} (h1 : s.methodNamed? y = some m) (h2 : s.vm.method? m = some meth) (h3 : meth.code = some c) (h4 : c.code = bytes)
    (h5 : (c.maxLocals == mx && c.exceptionTable.isEmpty && decide (c.maxStack ≤ mostOperands) && decide (meth.sig.returnType = rt) && !meth.locks && decide (parseMethodDescriptor y.desc = some meth.sig)) = true) : (Jvm.Cond.code y bytes mx rt).before a s = true := by
  simp only [Bool.and_eq_true, beq_iff_eq, Bool.not_eq_true', decide_eq_true_eq] at h5
  obtain ⟨⟨⟨⟨⟨g1, g2⟩, g3⟩, g4⟩, g5⟩, g6⟩ := h5
  simp [Cond.before, Cond.holds, Cond.value, h1, h2, h3, h4, g1, g2, g3, g4, g5, g6]
def isCode : Jvm.Cond → Bool
  | .code _ _ _ _ => true
  | _ => false
theorem all_split {L : List Jvm.Cond} {P : Jvm.Cond → Bool} (h1 : L.all (fun c => isCode c || P c) = true) (h2 : ∀ c ∈ L.filter isCode, P c = true) : L.all P = true := by
  refine List.all_eq_true.mpr fun c hc => ?_
  have h := List.all_eq_true.mp h1 c hc
  rcases Bool.eq_false_or_eq_true (isCode c) with hi | hi
  · exact h2 c (List.mem_filter.mpr ⟨hc, hi⟩)
  · simpa [hi] using h
set_option maxRecDepth 65536 in
theorem w_c0 : (Jvm.Cond.code x code maxLocals ret).before args0 about1 = true := code_word (m := ⟨1, 1⟩) (meth := k1m1) (c := k1c1) (by decide +kernel) rfl rfl rfl (by decide +kernel)
set_option maxRecDepth 65536 in
theorem w_c1 : (Jvm.Cond.code ({ cls := "com/example/envyless/envyless/Journal", name := "<init>", desc := "()V" } : Jvm.MethodName) prog_22_method_1_code (1 : Nat) (Option.none : Option Jvm.ClassFile.FieldType)).before args0 about1 = true := code_word (m := ⟨2, 0⟩) (meth := k2m0) (c := k2c0) (by decide +kernel) rfl rfl rfl (by decide +kernel)
set_option maxRecDepth 65536 in
theorem w_c2 : (Jvm.Cond.code ({ cls := "java/lang/Object", name := "<init>", desc := "()V" } : Jvm.MethodName) object_method_1_code (1 : Nat) (Option.none : Option Jvm.ClassFile.FieldType)).before args0 about1 = true := code_word (m := ⟨0, 0⟩) (meth := k0m0) (c := k0c0) (by decide +kernel) rfl rfl rfl (by decide +kernel)
set_option maxRecDepth 65536 in
theorem w_c3 : (Jvm.Cond.code ({ cls := "com/example/envyless/envyless/Journal", name := "start", desc := "()V" } : Jvm.MethodName) prog_22_method_3_code (1 : Nat) (Option.none : Option Jvm.ClassFile.FieldType)).before args0 about1 = true := code_word (m := ⟨2, 2⟩) (meth := k2m2) (c := k2c2) (by decide +kernel) rfl rfl rfl (by decide +kernel)
set_option maxRecDepth 65536 in
theorem w_c4 : (Jvm.Cond.code ({ cls := "com/example/envyless/envyless/Journal", name := "set", desc := "([III)V" } : Jvm.MethodName) prog_22_method_2_code (4 : Nat) (Option.none : Option Jvm.ClassFile.FieldType)).before args0 about1 = true := code_word (m := ⟨2, 1⟩) (meth := k2m1) (c := k2c1) (by decide +kernel) rfl rfl rfl (by decide +kernel)
set_option maxRecDepth 65536 in
theorem w_c5 : (Jvm.Cond.code ({ cls := "java/util/Arrays", name := "copyOf", desc := "([II)[I" } : Jvm.MethodName) jdk_65_method_123_code (3 : Nat) (Option.some (Jvm.ClassFile.FieldType.array Jvm.ClassFile.FieldType.int))).before args0 about1 = true := code_word (m := ⟨3, 1⟩) (meth := k3m1) (c := k3c1) (by decide +kernel) rfl rfl rfl (by decide +kernel)
set_option maxRecDepth 65536 in
theorem w_c6 : (Jvm.Cond.code ({ cls := "java/lang/Math", name := "min", desc := "(II)I" } : Jvm.MethodName) jdk_29_method_69_code (2 : Nat) (Option.some Jvm.ClassFile.FieldType.int)).before args0 about1 = true := code_word (m := ⟨4, 1⟩) (meth := k4m1) (c := k4c1) (by decide +kernel) rfl rfl rfl (by decide +kernel)
set_option maxRecDepth 65536 in
theorem w_c7 : (Jvm.Cond.code ({ cls := "com/example/envyless/envyless/Journal", name := "undo", desc := "()V" } : Jvm.MethodName) prog_22_method_4_code (2 : Nat) (Option.none : Option Jvm.ClassFile.FieldType)).before args0 about1 = true := code_word (m := ⟨2, 3⟩) (meth := k2m3) (c := k2c3) (by decide +kernel) rfl rfl rfl (by decide +kernel)
set_option maxRecDepth 65536 in
theorem w_c8 : (Jvm.Cond.code ({ cls := "com/example/envyless/envyless/Journal", name := "close", desc := "()I" } : Jvm.MethodName) prog_22_method_6_code (1 : Nat) (Option.some Jvm.ClassFile.FieldType.int)).before args0 about1 = true := code_word (m := ⟨2, 4⟩) (meth := k2m4) (c := k2c4) (by decide +kernel) rfl rfl rfl (by decide +kernel)
def codes1 : List Jvm.Cond := [Jvm.Cond.code x code maxLocals ret, Jvm.Cond.code ({ cls := "com/example/envyless/envyless/Journal", name := "<init>", desc := "()V" } : Jvm.MethodName) prog_22_method_1_code (1 : Nat) (Option.none : Option Jvm.ClassFile.FieldType), Jvm.Cond.code ({ cls := "java/lang/Object", name := "<init>", desc := "()V" } : Jvm.MethodName) object_method_1_code (1 : Nat) (Option.none : Option Jvm.ClassFile.FieldType), Jvm.Cond.code ({ cls := "com/example/envyless/envyless/Journal", name := "start", desc := "()V" } : Jvm.MethodName) prog_22_method_3_code (1 : Nat) (Option.none : Option Jvm.ClassFile.FieldType), Jvm.Cond.code ({ cls := "com/example/envyless/envyless/Journal", name := "set", desc := "([III)V" } : Jvm.MethodName) prog_22_method_2_code (4 : Nat) (Option.none : Option Jvm.ClassFile.FieldType), Jvm.Cond.code ({ cls := "java/util/Arrays", name := "copyOf", desc := "([II)[I" } : Jvm.MethodName) jdk_65_method_123_code (3 : Nat) (Option.some (Jvm.ClassFile.FieldType.array Jvm.ClassFile.FieldType.int)), Jvm.Cond.code ({ cls := "java/lang/Math", name := "min", desc := "(II)I" } : Jvm.MethodName) jdk_29_method_69_code (2 : Nat) (Option.some Jvm.ClassFile.FieldType.int), Jvm.Cond.code ({ cls := "com/example/envyless/envyless/Journal", name := "undo", desc := "()V" } : Jvm.MethodName) prog_22_method_4_code (2 : Nat) (Option.none : Option Jvm.ClassFile.FieldType), Jvm.Cond.code ({ cls := "com/example/envyless/envyless/Journal", name := "close", desc := "()I" } : Jvm.MethodName) prog_22_method_6_code (1 : Nat) (Option.some Jvm.ClassFile.FieldType.int)]
set_option maxRecDepth 65536 in
theorem codes_eq : words1.filter isCode = codes1 := rfl
theorem w_codes : ∀ c ∈ words1.filter isCode, c.before args0 about1 = true := by
  rw [codes_eq]
  intro c hc
  simp only [codes1, List.mem_cons, List.not_mem_nil, or_false] at hc
  rcases hc with rfl | rfl | rfl | rfl | rfl | rfl | rfl | rfl | rfl
  · exact w_c0
  · exact w_c1
  · exact w_c2
  · exact w_c3
  · exact w_c4
  · exact w_c5
  · exact w_c6
  · exact w_c7
  · exact w_c8
set_option maxRecDepth 65536 in
theorem w_t1 : (words1.take 24).all (fun c => isCode c || c.before args0 about1) = true := by decide +kernel
set_option maxRecDepth 65536 in
theorem w_t2 : ((words1.drop 24).take 24).all (fun c => isCode c || c.before args0 about1) = true := by decide +kernel
set_option maxRecDepth 65536 in
theorem w_t3 : ((words1.drop 24).drop 24).all (fun c => isCode c || c.before args0 about1) = true := by decide +kernel
theorem w_tables : (allAtoms (Jvm.Cond.code x code maxLocals ret :: tables_1)).before args0 about1 = true := by
  rw [allAtoms_all]
  show words1.all (fun c => c.before args0 about1) = true
  refine all_split ?_ w_codes
  rw [← List.take_append_drop 24 words1, List.all_append, w_t1, ← List.take_append_drop 24 (words1.drop 24), List.all_append, w_t2, w_t3]
  rfl
set_option maxRecDepth 65536 in
theorem w_case : (Jvm.Cond.and given_1 narrow_1).before args0 about1 = true := by decide +kernel
theorem w_applies : (headSpec (Jvm.Cond.code x code maxLocals ret :: tables_1) room_1).applies x e0.platform about1 = true :=
  (Spec.applies_iff w_frames).mpr ⟨w_running, w_runnable, w_alone, w_named, w_hears, w_ripe, w_room, w_tables⟩
theorem atStart : AtStart classFile x code maxLocals ret World_1 tables_1 room_1 Calls_1 rest_1 Pre_1 launch0 p0 e0 about1 theMethod args0 below0 :=
  ⟨lists_1, trivial, launch0.admits_env _ _ _, launch0.least_env, fairChoices_fair.cas, fairChoices_fair.clock, w_frames, w_args, w_heap, w_applies, trivial, trivial, w_case⟩
end start1
theorem witness_1 : WitnessClaimed_1 := ⟨start1.p0, start1.e0, start1.about1, start1.theMethod, start1.args0, start1.below0, start1.atStart⟩
end Jvm.Pilot.@@N@@
