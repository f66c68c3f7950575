import PyProof.Rows.All
import Wide.All
import OpenK.AllK
import Wide.FinOn
import Lean
import PySem.Challenge.RW_pe0138_01
open PySem PySem.W PyProof.Rows
set_option Elab.async false
set_option linter.unusedSimpArgs false
set_option linter.unusedVariables false
/-! part Hd -/
namespace Mine
set_option maxRecDepth 100000 in
set_option maxHeartbeats 8000000 in
open_top hd for PySem.Challenge.rw_pe0138_01
end Mine
/-! part Base -/
namespace Mine
/-- what a def at f, called with vs, gives back: a value with post, the ledger as it was -/
abbrev Con (k : Nat) (w : World) (mean : ExcName → Option Value) (mg mb : Str → Option Value) (f : Addr) (news : List (Addr × Obj)) (vs : List Value) (post : Value → Prop) : Prop :=
  ∀ (dp un : Nat) (gd : Option (List Code)) (cn : Str) (cs : Scope) (a : Addr) (ccd : Value) (cl : List (Str × Addr)) (outer : List Env) (A₀ : Around) (base h₀ : Heap) (L : Addr) (m : Str → Option Value) (s : Shared) (Q E : Value → Shared → Prop),
    Below A₀ base outer h₀ → Fr h₀ L s.heap m → (Mine.hd.heap_39 w.params).In h₀ → News h₀ L s.heap news → Top Mine.hd.view_39 (looseW Mine.hd.view_39 [Str.ofString "_filemode_table"]) mean mg mb h₀ → cs.kind = .function →
    dp + k < recursionLimit → un + 8 * k < cLine →
    (∀ (v : Value) (h' : Heap) (tk' : Nat), post v → Fr h₀ L h' m → News h₀ L h' news → Q v { s with heap := h', toks := tk' }) →
    wpAny (model Challenge.rw_pe0138_01.row.prog w) (ktrTop dp un gd cn cs L a ccd cl outer) (call (.ref f) vs) Q E s
end Mine
/-! part Csub -/
namespace Mine
noncomputable def subCost (x y : Str) : Int := if x = y then 0 else if Txt.lower x = Txt.lower y then 1 else 2
theorem post_int {x y : Int} {t : Tok} (e : x = y) : ∃ t', Value.int x t = .int y t' := ⟨t, by rw [e]⟩
set_option maxRecDepth 100000 in
set_option maxHeartbeats 8000000 in
theorem c_sub (w : World) (mean) (mg mb) (news) (x y : Str) (tx ty : Tok) (hx : x.length = 1) (hy : y.length = 1) : Con 2 w mean mg mb 21 news [.str x tx, .str y ty] (fun v => ∃ t, v = .int (subCost x y) t) := by
  k_with_none
  w_top off
  unfold Con
  k_fill
  intro dp un gd cn cs a ccd cl outer A₀ base h₀ L m s Q E B F X N T hk hd hu hret
  refine wpAny_call ?_
  k_dflt cell_enter
  k_steps
  · refine hret _ _ _ (post_int ?_) (by assumption) (by assumption)
    rename (x == y) = true => e
    rw [subCost, if_pos (by simpa using e)]
  · refine hret _ _ _ (post_int ?_) (by assumption) (by assumption)
    rename (x == y) = false => e
    rename (Txt.lower x == Txt.lower y) = true => e2
    rw [subCost, if_neg (by simpa using e), if_pos (by simpa using e2)]
  · refine hret _ _ _ (post_int ?_) (by assumption) (by assumption)
    rename (x == y) = false => e
    rename (Txt.lower x == Txt.lower y) = false => e2
    rw [subCost, if_neg (by simpa using e), if_neg (by simpa using e2)]
end Mine
/-! part Math -/
/-! The plain law: no program in sight -/
namespace Mine
/-- the edit distance's table: a place left out costs 2, two signs against each other C i j -/
noncomputable def D (C : Nat → Nat → Int) : Nat → Nat → Int
  | 0, j => 2 * (j : Int)
  | i + 1, 0 => 2 * ((i : Int) + 1)
  | i + 1, j + 1 => min (min (D C (i + 1) j) (D C i (j + 1)) + 2) (D C i j + C i j)
theorem D_zero_left (C) (j : Nat) : D C 0 j = 2 * (j : Int) := by rw [D]
theorem D_zero_right (C) (i : Nat) : D C i 0 = 2 * (i : Int) := by cases i <;> rw [D] <;> omega
theorem D_succ (C) (i j : Nat) : D C (i + 1) (j + 1) = min (min (D C (i + 1) j) (D C i (j + 1)) + 2) (D C i j + C i j) := by rw [D]
theorem min3 (a b c : Int) : min (min a b + 2) c = a + 2 ∨ min (min a b + 2) c = b + 2 ∨ min (min a b + 2) c = c := by
  simp only [Int.min_def]
  split <;> split <;> simp
theorem D_up1 (C) (i j : Nat) : D C (i + 1) j ≤ D C i j + 2 := by
  cases j with
  | zero => rw [D_zero_right, D_zero_right]; omega
  | succ j => rw [D_succ]; exact Int.le_trans (Int.min_le_left _ _) (Int.add_le_add_right (Int.min_le_right _ _) 2)
theorem D_up2 (C) (i j : Nat) : D C i (j + 1) ≤ D C i j + 2 := by
  cases i with
  | zero => rw [D_zero_left, D_zero_left]; omega
  | succ i => rw [D_succ]; exact Int.le_trans (Int.min_le_left _ _) (Int.add_le_add_right (Int.min_le_left _ _) 2)
theorem D_upd (C) (i j : Nat) : D C (i + 1) (j + 1) ≤ D C i j + C i j := by rw [D_succ]; exact Int.min_le_right _ _
/-- where a cell's number comes from -/
theorem D_from (C) (i j : Nat) : D C (i + 1) (j + 1) = D C (i + 1) j + 2 ∨ D C (i + 1) (j + 1) = D C i (j + 1) + 2 ∨ D C (i + 1) (j + 1) = D C i j + C i j := by rw [D_succ]; exact min3 _ _ _
section
variable {C : Nat → Nat → Int} (h0 : ∀ i j, 0 ≤ C i j)
include h0
omit h0 in
theorem lip_a {u v w z c : Int} (h : u = z + 2 ∨ u = v + 2 ∨ u = w + c) (h1 : v ≤ w + 2) (h2 : w ≤ z + 2) (hc : 0 ≤ c) : v ≤ u + 2 := by
  rcases h with h | h | h
  · have := Int.add_le_add_right h2 2
    rw [h]; exact Int.le_trans h1 this
  · rw [h, Int.add_assoc]; exact Int.le_add_of_nonneg_right (by decide)
  · rw [h]; exact Int.le_trans h1 (Int.add_le_add_right (Int.le_add_of_nonneg_right hc) 2)
omit h0 in
theorem or_turn {a b c : Prop} (h : a ∨ b ∨ c) : b ∨ a ∨ c := h.elim (fun x => .inr (.inl x)) fun h => h.elim .inl fun x => .inr (.inr x)
theorem D_lip (i : Nat) : ∀ j, D C i j ≤ D C (i + 1) j + 2 ∧ D C i j ≤ D C i (j + 1) + 2 := by
  induction i with
  | zero =>
    intro j
    have key : ∀ j, D C 0 j ≤ D C (0 + 1) j + 2 := by
      intro j
      induction j with
      | zero => simp only [D_zero_left, D_zero_right]; decide
      | succ j ih => exact lip_a (D_from C 0 j) (by rw [D_zero_left, D_zero_left]; omega) ih (h0 0 j)
    refine ⟨key j, ?_⟩
    rw [D_zero_left, D_zero_left]; omega
  | succ i ihi =>
    intro j
    have key : ∀ j, D C (i + 1) j ≤ D C (i + 1 + 1) j + 2 := by
      intro j
      induction j with
      | zero => rw [D_zero_right, D_zero_right]; omega
      | succ j ih => exact lip_a (D_from C (i + 1) j) (D_up2 C (i + 1) j) ih (h0 (i + 1) j)
    refine ⟨key j, ?_⟩
    exact lip_a (or_turn (D_from C i j)) (D_up1 C i j) (ihi j).2 (h0 i j)
theorem D_diag {i j : Nat} (e : C i j = 0) : D C (i + 1) (j + 1) = D C i j := by
  have a := D_succ C i j
  have b := (D_lip h0 i j)
  have c := D_lip h0 (i + 1) j
  have d := D_lip h0 i (j + 1)
  have u := D_upd C i j
  omega
theorem D_suffix (n : Nat) : ∀ q, q ≤ n → (∀ t, t < q → C (n - 1 - t) (n - 1 - t) = 0) → D C n n = D C (n - q) (n - q) := by
  intro q
  induction q with
  | zero => intro _ _; rfl
  | succ q ih =>
    intro hq h
    rw [ih (by omega) fun t ht => h t (by omega)]
    have e : n - q = (n - (q + 1)) + 1 := by omega
    rw [e]
    exact D_diag h0 (by have := h q (by omega); rwa [show n - 1 - q = n - (q + 1) by omega] at this)
omit h0 in
theorem shift_a {u z v w c : Int} {j : Nat} (h : u = z + 2 ∨ u = v + 2 ∨ u = w + c) (hu : u ≤ z + 2) (hz : z = 2 * (j : Int)) (hv : v = 2 * ((j + 2 : Nat) : Int)) (hw : w = 2 * ((j + 1 : Nat) : Int)) (hc : 0 ≤ c) : u = 2 * ((j + 1 : Nat) : Int) := by omega
theorem D_shift (e : C 0 0 = 0) (i : Nat) : ∀ j, D C (i + 1) (j + 1) = D (fun a b => C (a + 1) (b + 1)) i j := by
  induction i with
  | zero =>
    intro j
    induction j with
    | zero => rw [D_diag h0 e, D_zero_left, D_zero_left]
    | succ j ih =>
      rw [D_zero_left] at *
      exact shift_a (D_from C 0 (j + 1)) (D_up2 C 1 (j + 1)) ih (D_zero_left C (j + 2)) (D_zero_left C (j + 1)) (h0 0 (j + 1))
  | succ i ihi =>
    intro j
    induction j with
    | zero =>
      have c := ihi 0
      rw [D_zero_right] at *
      exact shift_a (or_turn (D_from C (i + 1) 0)) (D_up1 C (i + 1) 1) c (D_zero_right C (i + 2)) (D_zero_right C (i + 1)) (h0 (i + 1) 0)
    | succ j ih =>
      rw [D_succ, ih, ihi (j + 1), ihi j, D_succ]
omit h0 in
theorem D_prefix (k : Nat) : ∀ {C : Nat → Nat → Int}, (∀ i j, 0 ≤ C i j) → (∀ t, t < k → C t t = 0) → ∀ i j, D C (k + i) (k + j) = D (fun a b => C (k + a) (k + b)) i j := by
  induction k with
  | zero => intro C _ _ i j; simp
  | succ k ih =>
    intro C h0 h i j
    have e := D_shift (C := C) h0 (h 0 (by omega)) (k + i) (k + j)
    rw [show k + 1 + i = k + i + 1 by omega, show k + 1 + j = k + j + 1 by omega, e]
    rw [ih (C := fun a b => C (a + 1) (b + 1)) (fun i j => h0 _ _) (fun t ht => h (t + 1) (by omega))]
    congr 1
    funext a b
    rw [show k + 1 + a = k + a + 1 by omega, show k + 1 + b = k + b + 1 by omega]
theorem D_far (i : Nat) : ∀ j, 2 * ((i : Int) - j) ≤ D C i j ∧ 2 * ((j : Int) - i) ≤ D C i j := by
  induction i with
  | zero => intro j; rw [D_zero_left]; omega
  | succ i ih =>
    intro j
    induction j with
    | zero => rw [D_zero_right]; omega
    | succ j ihj =>
      have a := D_succ C i j
      have b := ih (j + 1)
      have c := ih j
      have d := h0 i j
      omega
end
/-- what the code reckons in a row's first cell -/
theorem first_a (a v c : Int) (h : c ≤ 2) : min (min (a + 2) v + 2) (a + c) = min (min a v + 2) (a + c) := by
  have hc : a + c ≤ a + 2 := Int.add_le_add_left h a
  by_cases hv : v ≤ a
  · rw [Int.min_eq_right hv, Int.min_eq_right (Int.le_trans hv (Int.le_add_of_nonneg_right (by decide)))]
  · have hv : a ≤ v := Int.le_of_lt (Int.not_le.mp hv)
    rw [Int.min_eq_right (a := min (a + 2) v + 2) (Int.le_trans hc (Int.add_le_add_right (Int.le_min.mpr ⟨Int.le_add_of_nonneg_right (by decide), hv⟩) 2)), Int.min_eq_right (a := min a v + 2) (Int.le_trans hc (Int.add_le_add_right (Int.le_min.mpr ⟨Int.le_refl _, hv⟩) 2))]
theorem D_first {C : Nat → Nat → Int} (h2 : ∀ i j, C i j ≤ 2) (i : Nat) : D C (i + 1) 1 = min (min (2 * (i : Int)) (D C i 1) + 2) (2 * (i : Int) + C i 0) := by
  have a := D_succ C i 0
  rw [D_zero_right, D_zero_right, show 2 * ((i + 1 : Nat) : Int) = 2 * (i : Int) + 2 by omega] at a
  rw [← first_a _ _ _ (h2 i 0)]
  exact a
theorem from3 {c u z v w e : Int} (h : u = z + 2 ∨ u = v + 2 ∨ u = w + e) (hz : c < z) (hv : c < v) (hw : c < w + e) : c < u := by
  rcases h with h | h | h <;> rw [h]
  · exact Int.lt_of_lt_of_le hz (Int.le_add_of_nonneg_right (by decide))
  · exact Int.lt_of_lt_of_le hv (Int.le_add_of_nonneg_right (by decide))
  · exact hw
/-- once all of a row is beyond c, the end is -/
theorem D_row {C : Nat → Nat → Int} (h0 : ∀ i j, 0 ≤ C i j) (h2 : ∀ i j, C i j ≤ 2) {c : Int} {n i : Nat} (h : ∀ t, t < n → c < D C (i + 1) (t + 1)) : ∀ k t, t < n → c < D C (i + 1 + k) (t + 1) := by
  intro k
  induction k with
  | zero => exact h
  | succ k ih =>
    intro t
    induction t with
    | zero =>
      intro ht
      have a : c < D C (i + 1 + k) 1 := ih 0 ht
      have b : D C (i + k + 1) 1 ≤ 2 * ((i + k + 1 : Nat) : Int) := by
        have : D C (i + k + 1) 1 ≤ D C (i + k) 0 + C (i + k) 0 := D_upd C (i + k) 0
        have := h2 (i + k) 0
        rw [D_zero_right] at *
        omega
      rw [show i + k + 1 = i + 1 + k by omega] at b
      refine from3 (D_from C (i + 1 + k) 0) ?_ a ?_
      · rw [D_zero_right]; omega
      · have := h0 (i + 1 + k) 0
        rw [D_zero_right]; omega
    | succ t iht =>
      intro ht
      exact from3 (D_from C (i + 1 + k) (t + 1)) (iht (by omega)) (ih (t + 1) ht) (Int.lt_of_lt_of_le (ih t (by omega)) (Int.le_add_of_nonneg_right (h0 _ _)))
/-- sums from nought up -/
noncomputable def sumTo (f : Nat → Int) : Nat → Int
  | 0 => 0
  | k + 1 => sumTo f k + f k
section
variable {C : Nat → Nat → Int}
/-- the cost with a place left out of the first at a and of the second at b -/
noncomputable def cand (C : Nat → Nat → Int) (U : Nat → Int) (n a b : Nat) : Int := 4 + sumTo (fun t => C t t) a + (sumTo U b - sumTo U a) + (sumTo (fun t => C t t) n - sumTo (fun t => C t t) (b + 1))
theorem D_le_plain (n : Nat) : D C n n ≤ sumTo (fun t => C t t) n := by
  induction n with
  | zero => rw [D_zero_left]; simp [sumTo]
  | succ n ih => have := D_upd C n n; simp only [sumTo]; omega
theorem D_le_down (a k : Nat) : D C (a + k + 1) (a + k) ≤ sumTo (fun t => C t t) a + 2 + (sumTo (fun t => C (t + 1) t) (a + k) - sumTo (fun t => C (t + 1) t) a) := by
  induction k with
  | zero => have := D_le_plain (C := C) a; have := D_up1 C a a; simp only [Nat.add_zero]; omega
  | succ k ih =>
    have := D_upd C (a + k + 1) (a + k)
    rw [show a + (k + 1) = a + k + 1 by omega]
    simp only [sumTo]
    omega
theorem D_le_right (a k : Nat) : D C (a + k) (a + k + 1) ≤ sumTo (fun t => C t t) a + 2 + (sumTo (fun t => C t (t + 1)) (a + k) - sumTo (fun t => C t (t + 1)) a) := by
  induction k with
  | zero => have := D_le_plain (C := C) a; have := D_up2 C a a; simp only [Nat.add_zero]; omega
  | succ k ih =>
    have := D_upd C (a + k) (a + k + 1)
    rw [show a + (k + 1) = a + k + 1 by omega]
    simp only [sumTo]
    omega
theorem D_le_on (m : Nat) {v : Int} (h : D C m m ≤ v) (k : Nat) : D C (m + k) (m + k) ≤ v + (sumTo (fun t => C t t) (m + k) - sumTo (fun t => C t t) m) := by
  induction k with
  | zero => simp only [Nat.add_zero]; omega
  | succ k ih =>
    have := D_upd C (m + k) (m + k)
    rw [show m + (k + 1) = m + k + 1 by omega]
    simp only [sumTo]
    omega
theorem D_le_candU {n a b : Nat} (hab : a ≤ b) (hb : b < n) : D C n n ≤ cand C (fun t => C (t + 1) t) n a b := by
  have h1 := D_le_down (C := C) a (b - a)
  rw [show a + (b - a) = b by omega] at h1
  have h2 := D_up2 C (b + 1) b
  have h3 := D_le_on (C := C) (b + 1) (v := sumTo (fun t => C t t) a + 2 + (sumTo (fun t => C (t + 1) t) b - sumTo (fun t => C (t + 1) t) a) + 2) (by omega) (n - (b + 1))
  rw [show b + 1 + (n - (b + 1)) = n by omega] at h3
  unfold cand
  omega
theorem D_le_candV {n a b : Nat} (hab : a ≤ b) (hb : b < n) : D C n n ≤ cand C (fun t => C t (t + 1)) n a b := by
  have h1 := D_le_right (C := C) a (b - a)
  rw [show a + (b - a) = b by omega] at h1
  have h2 := D_up1 C b (b + 1)
  have h3 := D_le_on (C := C) (b + 1) (v := sumTo (fun t => C t t) a + 2 + (sumTo (fun t => C t (t + 1)) b - sumTo (fun t => C t (t + 1)) a) + 2) (by omega) (n - (b + 1))
  rw [show b + 1 + (n - (b + 1)) = n by omega] at h3
  unfold cand
  omega
theorem D_ge (h0 : ∀ i j, 0 ≤ C i j) (i : Nat) :
    (8 ≤ D C i i ∨ sumTo (fun t => C t t) i ≤ D C i i ∨ (4 ≤ D C i i ∧ ((∃ a b, a ≤ b ∧ b < i ∧ cand C (fun t => C (t + 1) t) i a b ≤ D C i i) ∨ (∃ a b, a ≤ b ∧ b < i ∧ cand C (fun t => C t (t + 1)) i a b ≤ D C i i)))) ∧
    (6 ≤ D C (i + 1) i ∨ ∃ a, a ≤ i ∧ sumTo (fun t => C t t) a + 2 + (sumTo (fun t => C (t + 1) t) i - sumTo (fun t => C (t + 1) t) a) ≤ D C (i + 1) i) ∧
    (6 ≤ D C i (i + 1) ∨ ∃ a, a ≤ i ∧ sumTo (fun t => C t t) a + 2 + (sumTo (fun t => C t (t + 1)) i - sumTo (fun t => C t (t + 1)) a) ≤ D C i (i + 1)) := by
  induction i with
  | zero =>
    refine ⟨.inr (.inl ?_), .inr ⟨0, Nat.le_refl _, ?_⟩, .inr ⟨0, Nat.le_refl _, ?_⟩⟩
    · rw [D_zero_left]; simp [sumTo]
    · rw [D_zero_right]; simp [sumTo]
    · rw [D_zero_left]; simp [sumTo]
  | succ i ih =>
    obtain ⟨ha, hb, hc⟩ := ih
    have hd0 := h0 i i
    have first : 8 ≤ D C (i + 1) (i + 1) ∨ sumTo (fun t => C t t) (i + 1) ≤ D C (i + 1) (i + 1) ∨ (4 ≤ D C (i + 1) (i + 1) ∧ ((∃ a b, a ≤ b ∧ b < i + 1 ∧ cand C (fun t => C (t + 1) t) (i + 1) a b ≤ D C (i + 1) (i + 1)) ∨ (∃ a b, a ≤ b ∧ b < i + 1 ∧ cand C (fun t => C t (t + 1)) (i + 1) a b ≤ D C (i + 1) (i + 1)))) := by
      have far1 := (D_far h0 (i + 1) i).1
      have far2 := (D_far h0 i (i + 1)).2
      have hcases : D C (i + 1) (i + 1) = D C (i + 1) i + 2 ∨ D C (i + 1) (i + 1) = D C i (i + 1) + 2 ∨ D C (i + 1) (i + 1) = D C i i + C i i := D_from C i i
      rcases hcases with e | e | e
      · rcases hb with q | ⟨a, hai, q⟩
        · exact .inl (by omega)
        · refine .inr (.inr ⟨by omega, .inl ⟨a, i, hai, by omega, ?_⟩⟩)
          unfold cand; omega
      · rcases hc with q | ⟨a, hai, q⟩
        · exact .inl (by omega)
        · refine .inr (.inr ⟨by omega, .inr ⟨a, i, hai, by omega, ?_⟩⟩)
          unfold cand; omega
      · rcases ha with q | q | ⟨q4, ⟨a, b, hab, hbi, q⟩ | ⟨a, b, hab, hbi, q⟩⟩
        · exact .inl (by omega)
        · exact .inr (.inl (by simp only [sumTo]; omega))
        · refine .inr (.inr ⟨by omega, .inl ⟨a, b, hab, by omega, ?_⟩⟩)
          unfold cand at *; simp only [sumTo] at *; omega
        · refine .inr (.inr ⟨by omega, .inr ⟨a, b, hab, by omega, ?_⟩⟩)
          unfold cand at *; simp only [sumTo] at *; omega
    refine ⟨first, ?_, ?_⟩
    · have far := (D_far h0 (i + 1 + 1) i).1
      have hu := h0 (i + 1) i
      have hcases : D C (i + 1 + 1) (i + 1) = D C (i + 1 + 1) i + 2 ∨ D C (i + 1 + 1) (i + 1) = D C (i + 1) (i + 1) + 2 ∨ D C (i + 1 + 1) (i + 1) = D C (i + 1) i + C (i + 1) i := D_from C (i + 1) i
      rcases hcases with e | e | e
      · exact .inl (by omega)
      · rcases first with q | q | ⟨q4, _⟩
        · exact .inl (by omega)
        · exact .inr ⟨i + 1, Nat.le_refl _, by omega⟩
        · exact .inl (by omega)
      · rcases hb with q | ⟨a, hai, q⟩
        · exact .inl (by omega)
        · exact .inr ⟨a, by omega, by simp only [sumTo] at *; omega⟩
    · have far := (D_far h0 i (i + 1 + 1)).2
      have hu := h0 i (i + 1)
      have hcases : D C (i + 1) (i + 1 + 1) = D C i (i + 1 + 1) + 2 ∨ D C (i + 1) (i + 1 + 1) = D C (i + 1) (i + 1) + 2 ∨ D C (i + 1) (i + 1 + 1) = D C i (i + 1) + C i (i + 1) := or_turn (D_from C i (i + 1))
      rcases hcases with e | e | e
      · exact .inl (by omega)
      · rcases first with q | q | ⟨q4, _⟩
        · exact .inl (by omega)
        · exact .inr ⟨i + 1, Nat.le_refl _, by omega⟩
        · exact .inl (by omega)
      · rcases hc with q | ⟨a, hai, q⟩
        · exact .inl (by omega)
        · exact .inr ⟨a, by omega, by simp only [sumTo] at *; omega⟩
/-- the least of the plain cost and of the costs with one sign left out of each -/
def IsLeast (C : Nat → Nat → Int) (n : Nat) (v : Int) : Prop :=
  (v = sumTo (fun t => C t t) n ∨ (∃ a b, a ≤ b ∧ b < n ∧ v = cand C (fun t => C (t + 1) t) n a b) ∨ (∃ a b, a ≤ b ∧ b < n ∧ v = cand C (fun t => C t (t + 1)) n a b)) ∧
  v ≤ sumTo (fun t => C t t) n ∧ (∀ a b, a ≤ b → b < n → v ≤ cand C (fun t => C (t + 1) t) n a b) ∧ (∀ a b, a ≤ b → b < n → v ≤ cand C (fun t => C t (t + 1)) n a b)
theorem D_least (h0 : ∀ i j, 0 ≤ C i j) {n : Nat} {v : Int} (h8 : sumTo (fun t => C t t) n ≤ 8) (h : IsLeast C n v) : D C n n = v := by
  obtain ⟨hv, l1, l2, l3⟩ := h
  apply Int.le_antisymm
  · rcases hv with e | ⟨a, b, hab, hb, e⟩ | ⟨a, b, hab, hb, e⟩
    · rw [e]; exact D_le_plain n
    · rw [e]; exact D_le_candU hab hb
    · rw [e]; exact D_le_candV hab hb
  · rcases (D_ge h0 n).1 with q | q | ⟨_, ⟨a, b, hab, hbi, q⟩ | ⟨a, b, hab, hbi, q⟩⟩
    · omega
    · omega
    · have := l2 a b hab hbi; omega
    · have := l3 a b hab hbi; omega
end
end Mine
/-! part Kit -/
namespace Mine
/-- the frame's named values, the rest unknown -/
def FrN (h₀ : Heap) (L : Addr) (h : Heap) (ps : List (Str × Value)) : Prop := ∃ u, Fr h₀ L h (kstB u ps)
theorem fr_named {h₀ : Heap} {L : Addr} {h : Heap} {m : Str → Option Value} (F : Fr h₀ L h m) (ps : List (Str × Value)) (hp : ∀ p ∈ ps, m p.1 = some p.2) : FrN h₀ L h ps := by
  refine ⟨m, ?_⟩
  have e : kstB m ps = m := funext fun z => kstB_eq hp fun _ => rfl
  rw [e]; exact F
theorem wp_cut {α : Type} {M : Model} {A : Around} {t : Sem α} {Q : α → Shared → Prop} {E : Value → Shared → Prop} {s : Shared} (Q' : α → Shared → Prop) (h : wpAny M A t Q' E s) (h2 : ∀ a s', Q' a s' → Q a s') : wpAny M A t Q E s :=
  wpAny_mono h h2 fun _ _ x => x
/-- the same, the walk seeing a letter for what is to be shown -/
theorem wp_cutC {α : Type} {M : Model} {A : Around} {t : Sem α} {Q : α → Shared → Prop} {E : Value → Shared → Prop} {s : Shared} (Q' : α → Shared → Prop) (h : ∀ Qc : α → Shared → Prop, (∀ a s', Q' a s' → Qc a s') → wpAny M A t Qc E s) (h2 : ∀ a s', Q' a s' → Q a s') : wpAny M A t Q E s := h Q h2
theorem item_nat {x : Str} {i : Int} (h0 : 0 ≤ i) (h1 : i < x.length) : Txt.item x i = ⟨#[x.cps.getD i.toNat 0]⟩ := by
  have := item_closes (x := x) (i := i) ⟨h0, h1⟩
  exact eq_of_beq this
end Mine
namespace Mine
/-- a word that the walk does not open -/
structure Ho (P : Prop) : Prop where mk ::
  out : P
end Mine
namespace Mine
theorem str_eq_of_items {x y : Str} (hl : x.length = y.length) (h : ∀ j : Nat, j < x.length → Txt.item x j = Txt.item y j) : x = y := by
  apply Str.ext'
  have hl' : x.cps.size = y.cps.size := hl
  refine Array.ext hl' fun j h1 h2 => ?_
  have e := h j h1
  rw [item_nat (by omega) (by show (j : Int) < (x.cps.size : Int); omega), item_nat (by omega) (by show (j : Int) < (y.cps.size : Int); omega)] at e
  have e2 : (#[x.cps.getD (j : Int).toNat 0] : Array Nat) = #[y.cps.getD (j : Int).toNat 0] := congrArg Str.cps e
  simpa [h1, h2] using e2
end Mine
namespace Mine
theorem item_mk {l : List Nat} {j : Int} (h0 : 0 ≤ j) (h1 : j < l.length) : Txt.item ⟨l.toArray⟩ j = ⟨#[l.getD j.toNat 0]⟩ := by
  rw [item_nat h0 (by show j < ((l.toArray.size : Nat) : Int); simpa using h1)]
  simp
theorem slice_from_eq {x : Str} {k : Int} (h0 : 0 ≤ k) (h1 : k ≤ x.length) : Txt.slice x (some k) none = ⟨(x.cps.toList.drop k.toNat).toArray⟩ := by
  show StrLaws.sliceText x (some k) none = _
  rw [StrLaws.sliceText_from ⟨h0, by simpa [Str.length] using h1⟩]
  congr 2
  apply List.take_of_length_le
  simp; omega
theorem slice_from_len {x : Str} {k : Int} (h0 : 0 ≤ k) (h1 : k ≤ x.length) : ((Txt.slice x (some k) none).length : Int) = x.length - k := by
  rw [slice_from_eq h0 h1]
  show (((x.cps.toList.drop k.toNat).toArray.size : Nat) : Int) = (x.cps.size : Int) - k
  have : k ≤ (x.cps.size : Int) := h1
  simp; omega
theorem slice_from_item {x : Str} {k : Int} (h0 : 0 ≤ k) (h1 : k ≤ x.length) {j : Int} (hj : 0 ≤ j) (hj2 : j < x.length - k) : Txt.item (Txt.slice x (some k) none) j = Txt.item x (k + j) := by
  have h2 : k ≤ (x.cps.size : Int) := h1
  have h3 : j < (x.cps.size : Int) - k := hj2
  rw [slice_from_eq h0 h1, item_mk hj (by simp; omega), item_nat (by omega) (by omega)]
  have e : (k + j).toNat = k.toNat + j.toNat := by omega
  rw [e]; simp [List.getElem?_drop]
theorem slice_to_neg_eq {x : Str} {i : Int} (h0 : i < 0) (h1 : -(x.length : Int) ≤ i) : Txt.slice x none (some i) = ⟨(x.cps.toList.take (i + x.length).toNat).toArray⟩ := by
  show StrLaws.sliceText x none (some i) = _
  rw [StrLaws.sliceText_to_neg h0 h1]
  simp
theorem slice_to_neg_len {x : Str} {i : Int} (h0 : i < 0) (h1 : -(x.length : Int) ≤ i) : ((Txt.slice x none (some i)).length : Int) = x.length + i := by
  rw [slice_to_neg_eq h0 h1]
  show (((x.cps.toList.take (i + x.length).toNat).toArray.size : Nat) : Int) = (x.cps.size : Int) + i
  have : -(x.cps.size : Int) ≤ i := h1
  simp [Str.length]; omega
theorem slice_to_neg_item {x : Str} {i : Int} (h0 : i < 0) (h1 : -(x.length : Int) ≤ i) {j : Int} (hj : 0 ≤ j) (hj2 : j < x.length + i) : Txt.item (Txt.slice x none (some i)) j = Txt.item x j := by
  have h2 : -(x.cps.size : Int) ≤ i := h1
  have h3 : j < (x.cps.size : Int) + i := hj2
  rw [slice_to_neg_eq h0 h1, item_mk hj (by simp [Str.length]; omega), item_nat (by omega) (by omega)]
  have e : j.toNat < (i + x.length).toNat := by simp [Str.length]; omega
  simp [e]
theorem slice_all {x : Str} : Txt.slice x none none = x := by
  show StrLaws.sliceText x none none = x
  unfold StrLaws.sliceText
  have e : StrLaws.sliceText x none none = x := by
    unfold StrLaws.sliceText
    rw [StrLaws.sliceIdx_none_lo, StrLaws.sliceIdx_none_hi]
    have := StrLaws.sliceText_nat x (a := 0) (b := x.length) (Nat.zero_le _) (Nat.le_refl _)
    unfold StrLaws.sliceText at this
    rw [show (some (0 : Int)) = some ((0 : Nat) : Int) from rfl, this]
    apply Str.ext'
    show ((x.cps.toList.drop 0).take (x.length - 0)).toArray = x.cps
    rw [List.drop_zero, Nat.sub_zero, show x.length = x.cps.toList.length by simp [Str.length], List.take_length]
  exact e
theorem item_neg {x : Str} {i : Int} (h0 : i < 0) (h1 : -(x.length : Int) ≤ i) : Txt.item x i = Txt.item x (x.length + i) := by
  rw [eq_of_beq (item_closes_neg h0 h1 rfl), item_nat (by omega) (by omega)]
  rw [Int.add_comm]
end Mine
namespace Mine
theorem post_step {p q : Str} {n i : Int} (lp : (p.length : Int) = n) (lq : (q.length : Int) = n) (h0 : Txt.item p 0 ≠ Txt.item q 0) (hi0 : i ≤ 0) (hi1 : -n < i)
    (hie : ∀ j : Nat, (j : Int) < -i → Txt.item p (n - 1 - j) = Txt.item q (n - 1 - j)) (he : (Txt.item p (i - 1) == Txt.item q (i - 1)) = true) :
    i - 1 ≤ 0 ∧ -n < i - 1 ∧ ∀ j : Nat, (j : Int) < -(i - 1) → Txt.item p (n - 1 - j) = Txt.item q (n - 1 - j) := by
  have e := eq_of_beq he
  rw [item_neg (x := p) (by omega) (by omega), item_neg (x := q) (by omega) (by omega), lp, lq] at e
  refine ⟨by omega, ?_, ?_⟩
  · refine Int.lt_of_not_ge fun hq => h0 ?_
    have e1 : n + (i - 1) = 0 := by omega
    rwa [e1] at e
  · intro j hj
    by_cases q : (j : Int) < -i
    · exact hie j q
    · have e1 : n - 1 - (j : Int) = n + (i - 1) := by omega
      rw [e1]; exact e
end Mine
namespace Mine
theorem news_list {h₀ h : Heap} {L D : Addr} {m : Str → Option Value} {news : List (Addr × Obj)} {items : Array Value} (F : Fr h₀ L h m) (N : News h₀ L h news) (hf : h₀.get? D = none) (x : NewPlain h news D items) :
    ∃ c, News h₀ L h ((D, PySem.W.listOf items c) :: news) := by
  obtain ⟨c, hc⟩ := x.1
  exact ⟨c, List.forall_mem_cons.mpr ⟨⟨hc, x.ne_locals F, hf⟩, N⟩⟩
theorem subCost_nonneg (x y : Str) : 0 ≤ subCost x y := by unfold subCost; split <;> (try split) <;> omega
theorem subCost_le (x y : Str) : subCost x y ≤ 2 := by unfold subCost; split <;> (try split) <;> omega
theorem subCost_self (x : Str) : subCost x x = 0 := by unfold subCost; simp
theorem subCost_comm (x y : Str) : subCost x y = subCost y x := by
  unfold subCost
  by_cases h : x = y
  · subst h; simp
  · have h' : ¬ y = x := fun e => h e.symm
    rw [if_neg h, if_neg h']
    by_cases h2 : Txt.lower x = Txt.lower y
    · rw [if_pos h2, if_pos h2.symm]
    · rw [if_neg h2, if_neg fun e => h2 e.symm]
/-- the costs of two texts, sign against sign -/
noncomputable def costs (x y : Str) (i j : Nat) : Int := subCost (Txt.item x (i : Int)) (Txt.item y (j : Int))
end Mine
namespace Mine
theorem range_size2 {n : Nat} (h : 1 ≤ n) : Builtin.Range.rangeSize 2 (2 * ((n : Int) + 1)) 2 = (n : Int) := by
  unfold Builtin.Range.rangeSize
  rw [if_pos (by decide), if_pos (by omega)]
  omega
end Mine
namespace Mine
theorem range_small2 {n : Nat} (h : 1 ≤ n ∧ n ≤ 10) : Builtin.Range.small 2 (2 * ((n : Int) + 1)) 2 = true := by
  have key : ∀ n : Nat, n < 11 → 1 ≤ n → Builtin.Range.small 2 (2 * ((n : Int) + 1)) 2 = true := by decide
  exact key n (Nat.lt_succ_of_le h.2) h.1
end Mine
namespace Mine
def OutP (C : Nat → Nat → Int) (n : Nat) (pre row : List Int) (r : Int) : Prop :=
  row.length = n ∧ (∀ t, t < n → row.getD t 0 = D C pre.length (t + 1)) ∧ (pre.length = 0 ∨ r = D C pre.length n)
theorem out_start (C : Nat → Nat → Int) (n : Nat) : OutP C n [] (rangeInts 2 2 n) 0 := by
  refine ⟨rangeInts_length _ _ _, fun t ht => ?_, .inl rfl⟩
  have := rangeInts_get (a := 2) (c := 2) ht
  rw [List.getD_eq_getElem?_getD, this, List.length_nil, D_zero_left]
  simp; omega
def InP (C : Nat → Nat → Int) (n i : Nat) (pre row : List Int) (d r mn : Int) : Prop :=
  row.length = n ∧ (∀ t, t < pre.length → row.getD t 0 = D C (i + 1) (t + 1)) ∧ (∀ t, pre.length ≤ t → t < n → row.getD t 0 = D C i (t + 1)) ∧
  d = D C i pre.length ∧ (r = if pre.length = 0 then 2 * (i : Int) else D C (i + 1) pre.length) ∧ (∀ t, t < pre.length → mn ≤ D C (i + 1) (t + 1))
theorem in_start {C : Nat → Nat → Int} {n : Nat} {pre row : List Int} {r d r' mn : Int} (h : OutP C n pre row r) (hd : d = 2 * (pre.length : Int)) (hr : r' = 2 * (pre.length : Int)) : InP C n pre.length [] row d r' mn := by
  refine ⟨h.1, fun t ht => absurd ht (Nat.not_lt_zero _), fun t _ ht => h.2.1 t ht, ?_, ?_, fun t ht => absurd ht (Nat.not_lt_zero _)⟩
  · rw [List.length_nil, D_zero_right]; exact hd
  · rw [List.length_nil, if_pos rfl]; exact hr
end Mine
namespace Mine
theorem all_ne_app {l : Addr} {a b : List (Addr × Obj)} (ha : ∀ p ∈ a, p.1 ≠ l) (hb : ∀ p ∈ b, p.1 ≠ l) : ∀ p ∈ a ++ b, p.1 ≠ l := fun p hp => (List.mem_append.mp hp).elim (ha p) (hb p)
end Mine
namespace Mine
theorem ite_min (a b : Int) : (if a < b then a else b) = min b a := by
  rw [Int.min_def]
  by_cases h : a < b
  · rw [if_pos h, if_neg (Int.not_le.mpr h)]
  · rw [if_neg h, if_pos (Int.not_lt.mp h)]
theorem in_step {q p : Str} {n i : Nat} {pre row : List Int} {d r mn k kb R mn' : Int} (h : InP (costs q p) n i pre row d r mn) (hk : k = 0 + (pre.length : Int)) (hb : kb = 0 + (i : Int)) (hlt : pre.length < n)
    (hR : R = if d + subCost (Txt.item q kb) (Txt.item p k) < (if row.getD k.toNat 0 < r then row.getD k.toNat 0 else r) + 2 then d + subCost (Txt.item q kb) (Txt.item p k) else (if row.getD k.toNat 0 < r then row.getD k.toNat 0 else r) + 2)
    (hm : mn' ≤ mn) (hm2 : mn' ≤ R) : InP (costs q p) n i (pre ++ [k]) (row.set k.toNat R) (row.getD k.toNat 0) R mn' := by
  obtain ⟨h1, h2, h3, h4, h5, h6⟩ := h
  have ek : k = (pre.length : Int) := by omega
  have eb : kb = (i : Int) := by omega
  subst ek eb
  have et : ((pre.length : Int)).toNat = pre.length := by omega
  have c2 : ∀ a b, costs q p a b ≤ 2 := fun a b => subCost_le _ _
  have hc : subCost (Txt.item q (i : Int)) (Txt.item p (pre.length : Int)) = costs q p i pre.length := rfl
  have hrow : row.getD pre.length 0 = D (costs q p) i (pre.length + 1) := h3 _ (Nat.le_refl _) hlt
  have hRD : R = D (costs q p) (i + 1) (pre.length + 1) := by
    rw [hR, et, hc, hrow, h4, ite_min, ite_min]
    by_cases h0 : pre.length = 0
    · rw [h5, if_pos h0, h0, D_zero_right]
      exact (D_first c2 i).symm
    · rw [h5, if_neg h0, D_succ]
  refine ⟨by simpa using h1, ?_, ?_, ?_, ?_, ?_⟩
  · intro t ht
    rw [et]
    simp only [List.length_append, List.length_cons, List.length_nil] at ht
    by_cases e : t = pre.length
    · subst e
      simp [h1, hlt, hRD]
    · rw [List.getD_eq_getElem?_getD, List.getElem?_set_ne (by omega), ← List.getD_eq_getElem?_getD]
      exact h2 t (by omega)
  · intro t ht1 ht2
    rw [et]
    simp only [List.length_append, List.length_cons, List.length_nil] at ht1
    rw [List.getD_eq_getElem?_getD, List.getElem?_set_ne (by omega), ← List.getD_eq_getElem?_getD]
    exact h3 t (by omega) ht2
  · rw [et, hrow]; simp
  · simp only [List.length_append, List.length_cons, List.length_nil]
    rw [if_neg (by omega)]; exact hRD
  · intro t ht
    simp only [List.length_append, List.length_cons, List.length_nil] at ht
    by_cases e : t = pre.length
    · subst e; rw [← hRD]; exact hm2
    · exact Int.le_trans hm (h6 t (by omega))
theorem out_step {C : Nat → Nat → Int} {n : Nat} {pre' pre row : List Int} {d r mn k : Int} (h : InP C n pre.length pre' row d r mn) (hl : pre'.length = n) (hn : 1 ≤ n) : OutP C n (pre ++ [k]) row r := by
  obtain ⟨h1, h2, h3, h4, h5, h6⟩ := h
  refine ⟨h1, fun t ht => ?_, .inr ?_⟩
  · simp only [List.length_append, List.length_cons, List.length_nil]
    exact h2 t (by omega)
  · simp only [List.length_append, List.length_cons, List.length_nil]
    rw [h5, if_neg (by omega), hl]
/-- the early end: every cell of the row is beyond the bound, so the end would be -/
theorem out_early {q p : Str} {n : Nat} {pre' pre row : List Int} {d r mn c : Int} (h : InP (costs q p) n pre.length pre' row d r mn) (hl : pre'.length = n) (hn : pre.length < n) (hc : c < mn) : c < D (costs q p) n n := by
  obtain ⟨h1, h2, h3, h4, h5, h6⟩ := h
  have := D_row (C := costs q p) (fun a b => subCost_nonneg _ _) (fun a b => subCost_le _ _) (c := c) (n := n) (i := pre.length) (fun t ht => by have := h6 t (by omega); omega) (n - (pre.length + 1)) (n - 1) (by omega)
  rwa [show pre.length + 1 + (n - (pre.length + 1)) = n by omega, show n - 1 + 1 = n by omega] at this
end Mine
namespace Mine
theorem D_congr {C C' : Nat → Nat → Int} (i : Nat) : ∀ j, (∀ a b, a < i → b < j → C a b = C' a b) → D C i j = D C' i j := by
  induction i with
  | zero => intro j _; rw [D_zero_left, D_zero_left]
  | succ i ih =>
    intro j
    induction j with
    | zero => intro _; rw [D_zero_right, D_zero_right]
    | succ j ihj =>
      intro h
      rw [D_succ, D_succ, ihj fun a b ha hb => h a b ha (by omega), ih (j + 1) fun a b ha hb => h a b (by omega) hb, ih j fun a b ha hb => h a b (by omega) (by omega), h i j (by omega) (by omega)]
theorem lev_join {x y p q p' q' : Str} {k i : Int} {n : Nat} (hk0 : 0 ≤ k) (hk1 : k < 10) (hi0 : i ≤ 0) (hi1 : -(10 - k) < i) (hn : (n : Int) = 10 - k + i)
    (heq : ∀ j : Nat, (j : Int) < k → Txt.item x j = Txt.item y j)
    (ip : ∀ j : Int, 0 ≤ j → j < 10 - k → Txt.item p j = Txt.item x (k + j)) (iq : ∀ j : Int, 0 ≤ j → j < 10 - k → Txt.item q j = Txt.item y (k + j))
    (hie : ∀ j : Nat, (j : Int) < -i → Txt.item p (10 - k - 1 - j) = Txt.item q (10 - k - 1 - j))
    (ip' : ∀ j : Int, 0 ≤ j → j < 10 - k + i → Txt.item p' j = Txt.item p j) (iq' : ∀ j : Int, 0 ≤ j → j < 10 - k + i → Txt.item q' j = Txt.item q j) :
    D (costs q' p') n n = D (costs y x) 10 10 := by
  have c0 : ∀ a b, 0 ≤ costs y x a b := fun a b => subCost_nonneg _ _
  have e1 : D (costs y x) 10 10 = D (costs y x) (10 - (-i).toNat) (10 - (-i).toNat) := by
    refine D_suffix c0 10 (-i).toNat (by omega) fun t ht => ?_
    have e := hie t (by omega)
    rw [ip _ (by omega) (by omega), iq _ (by omega) (by omega)] at e
    have e2 : ((10 - 1 - t : Nat) : Int) = k + (10 - k - 1 - (t : Int)) := by omega
    show subCost (Txt.item y ((10 - 1 - t : Nat) : Int)) (Txt.item x ((10 - 1 - t : Nat) : Int)) = 0
    rw [e2, e]; exact subCost_self _
  have e2 := D_prefix k.toNat c0 (fun t ht => by
    show subCost (Txt.item y (t : Int)) (Txt.item x (t : Int)) = 0
    rw [heq t (by omega)]; exact subCost_self _) n n
  rw [e1, show 10 - (-i).toNat = k.toNat + n by omega, e2]
  refine D_congr n n fun a b ha hb => ?_
  show subCost (Txt.item q' (a : Int)) (Txt.item p' (b : Int)) = subCost (Txt.item y ((k.toNat + a : Nat) : Int)) (Txt.item x ((k.toNat + b : Nat) : Int))
  rw [iq' _ (by omega) (by omega), ip' _ (by omega) (by omega), iq _ (by omega) (by omega), ip _ (by omega) (by omega)]
  rw [show ((k.toNat + a : Nat) : Int) = k + (a : Int) by omega, show ((k.toNat + b : Nat) : Int) = k + (b : Int) by omega]
/-- what the code's answer is: the distance, or one more than the bound where the distance is beyond it -/
def LevAns (x y : Str) (c : Int) (v : Value) : Prop := ∃ r t, v = Value.int r t ∧ (r = D (costs y x) 10 10 ∨ (r = c + 1 ∧ c < D (costs y x) 10 10))
end Mine
/-! part Gen -/
namespace Mine
section
variable {α : Type} {M : Model} {A : Around} {t : Sem α} {Q : α → Shared → Prop} {E : Value → Shared → Prop} {s : Shared}
/-- the walk sees letters for what is to be shown -/
theorem wp_gen (h : ∀ (Qc : α → Shared → Prop) (Ec : Value → Shared → Prop), (∀ a s', Q a s' → Qc a s') → wpAny M A t Qc Ec s) : wpAny M A t Q E s :=
  h Q E fun _ _ x => x
theorem wp_genQ (h : ∀ (Qc : α → Shared → Prop), (∀ a s', Q a s' → Qc a s') → wpAny M A t Qc E s) : wpAny M A t Q E s := h Q fun _ _ x => x
end
section
variable {M : Model} {A : Around} {Q : Unit → Shared → Prop} {E : Value → Shared → Prop} {s : Shared} {env : Env} {name : Str} {c : Prop} [Decidable c] {a b d : Int} {t : Tok}
/-- a stored value of two ways gets a letter -/
theorem gen_ite (h : ∀ R, R = (if c then a else b) → wpAny M A (storeName env name (.int R t)) Q E s) : wpAny M A (storeName env name (.int (if c then a else b) t)) Q E s := h _ rfl
theorem gen_ite2 (h : ∀ R, R = (if c then a else b) + d → wpAny M A (storeName env name (.int R t)) Q E s) : wpAny M A (storeName env name (.int ((if c then a else b) + d) t)) Q E s := h _ rfl
end
theorem in_step2 {q p : Str} {n i : Nat} {pre row : List Int} {d r mn k kb I R mn' : Int} (h : InP (costs q p) n i pre row d r mn) (hk : k = 0 + (pre.length : Int)) (hb : kb = 0 + (i : Int)) (hlt : pre.length < n)
    (hI : I = (if row.getD k.toNat 0 < r then row.getD k.toNat 0 else r) + 2) (hR : R = if d + subCost (Txt.item q kb) (Txt.item p k) < I then d + subCost (Txt.item q kb) (Txt.item p k) else I)
    (hm : mn' ≤ mn) (hm2 : mn' ≤ R) : InP (costs q p) n i (pre ++ [k]) (row.set k.toNat R) (row.getD k.toNat 0) R mn' := in_step h hk hb hlt (by rw [hR, hI]) hm hm2
theorem in_lt {C : Nat → Nat → Int} {n i : Nat} {pre row : List Int} {d r mn k : Int} (h : InP C n i pre row d r mn) (hk : k = 0 + (pre.length : Int)) (hlt : pre.length < n) : k < (row.length : Int) := by
  rw [h.1]; omega
end Mine
local macro_rules | `(tactic| k_all) => `(tactic| ((repeat' (first | assumption | exact OwnOff.ne (by assumption) (List.Mem.head _) | refine Mine.all_ne_app ?_ ?_)); done))
/-! part Clev -/
namespace Mine
set_option maxRecDepth 100000 in
set_option maxHeartbeats 8000000 in
theorem c_lev (w : World) (mean) (mg mb) (news) (x y : Str) (tx ty tc : Tok) (c : Int) (hx : x.length = 10) (hy : y.length = 10) (hne : x ≠ y) (hc : 0 ≤ c) : Con 4 w mean mg mb 28 news [.str x tx, .str y ty, .int c tc] (LevAns x y c) := by
  k_with_none
  (k_with "mGen" => first | (with_reducible refine gen_ite ?_; intro R9 hR9) | (with_reducible refine gen_ite2 ?_; intro R9 hR9))
  (k_with "mStop" => ((fail_if_success (with_reducible show wpAny _ _ (exec (Stmt.While _ _ _ _) _) _ _ _)); (fail_if_success (with_reducible show wpAny _ _ (exec (Stmt.For _ _ _ _ _) _) _ _ _)); (fail_if_success (with_reducible show wpAny _ _ (pyIter _) _ _ _)); (fail_if_success (with_reducible show InvEndN _ _ _ _ _ _ _))))
  (k_with "mS" => repeat' (walk_at "mStop"; first | walk_at "mGen" | (k_unfold; (try dsimp only)) | walk1 | (dsimp only; walk1) | (leave1; try dsimp only)))
  (k_with "subscriptTail" => ((with_reducible show wpAny _ _ (subscriptTail _ _ (Value.str _ _) (Value.int _ _)) _ _ _); (refine item_str (PySem.fitsSsize_of (N := 9223372036854775808) (by omega) (by omega) (Int.le_refl _)) (by omega) (by omega) ?_); intro _; (try dsimp only)))
  (k_with "subscriptTail Name Slice str ref" => ((with_reducible show wpAny _ _ (subscriptTail _ (Expr.Slice none (some _) none _) _ _) _ _ _); (with_reducible rename Fr _ _ _ _ => F'); (with_reducible rename News _ _ _ _ => N'); refine slice_strN_nn_len (s := ⟨_, _, _, _, _⟩) F' N' ?_; intro _ _ _ _ _ _))
  (k_with "mSame" => (intro z h2 h3; simp only [List.forall_mem_cons, List.not_mem_nil, false_implies, implies_true, and_true, ne_eq] at h2; simp [h2, kstB]))
  (k_with "call ref" => ((with_reducible show wpAny _ _ (call (Value.ref 21) [Value.str _ _, Value.str _ _]) _ _ _); k_dflt (refine' c_sub _ _ _ _ _ _ _ _ _ (by exact rfl) (by exact rfl) _ _ _ _ _ _ _ _ _ _ _ _ _ _ _ _ _ (by k_asm) (by k_asm) (by k_asm) (by k_asm) (by k_asm) (by exact rfl) (by first | ktr_room | omega) (by first | ktr_units | omega) ?_); intro v9 h9 tk9 hp9 F' N'; (obtain ⟨t9, e9⟩ := hp9); (subst e9); (try dsimp only)))
  (k_with "mSameF" => (intro z h1 h2 h3; simp only [List.forall_mem_cons, List.not_mem_nil, false_implies, implies_true, and_true, ne_eq] at h2; simp only [List.contains_cons, List.contains_nil, Bool.or_false, Bool.or_eq_false_iff, beq_eq_false_iff_ne, ne_eq] at h3; simp [h1, h2, h3, kstB]))
  w_top off
  unfold Con
  k_fill
  intro dp un gd cn cs a ccd cl outer A₀ base h₀ L m s Q E B F X N T hk hd hu hret
  refine wpAny_call ?_
  k_dflt cell_enter
  rename_i g1 L1 h1 FG1 F1 N1 B1 X1 T1
  walk_at "mS"
  · rename (x == y) = true => e
    exact absurd (by simpa using e) hne
  refine wp_cutC (fun f s' => Ho (f = Flow.next ∧ ∃ (k : Int) (t : Tok) (h : Heap) (tk : Nat), s' = { s with heap := h, toks := tk } ∧ FrN g1 L1 h [(Str.ofString "a", .str x tx), (Str.ofString "b", .str y ty), (Str.ofString "max_cost", .int c tc), (Str.ofString "pre", .int k t)] ∧ News g1 L1 h news
      ∧ 0 ≤ k ∧ k < 10 ∧ (∀ j : Nat, (j : Int) < k → Txt.item x j = Txt.item y j) ∧ Txt.item x k ≠ Txt.item y k)) ?loop ?rest
  case loop =>
    intro Qc hQc
    k_while (fun (_ : List Int) (i : Int) => 0 ≤ i ∧ i ≤ 10 ∧ ∀ j : Nat, (j : Int) < i → Txt.item x j = Txt.item y j) (fun (_ : List Int) (i : Int) => 10 - i.toNat) "pre"
    rename_i i ti hi0 hi1 hie
    walk_at "mS"
    · rename (Txt.item x i == Txt.item y i) = true => he
      refine ksw_end (_, _) (by assumption) (by assumption) (fun p hp => hp) trivial (by kst_all) (by ksw_same) ⟨by omega, ?_, ?_⟩ ?_
      · dsimp only; omega
      · intro j hj
        dsimp only at hj
        rcases Int.lt_or_eq_of_le (Int.lt_add_one_iff.mp hj) with q | q
        · exact hie j q
        · rw [q]; exact eq_of_beq he
      · dsimp only; omega
    · rename (Txt.item x i == Txt.item y i) = false => he
      exact hQc _ _ ⟨rfl, i, _, _, _, rfl, fr_named (by assumption) _ (by kst_all), by assumption, hi0, by omega, hie, by simpa using he⟩
    · exact absurd (str_eq_of_items (by omega) fun j hj => hie j (by omega)) hne
    · exact absurd (str_eq_of_items (by omega) fun j hj => hie j (by omega)) hne
  rintro f s' ⟨rfl, k, t, h, tk, rfl, ⟨u, F2⟩, N2, hk0, hk1, heq, hneq⟩
  dsimp only
  walk_at "mS"
  rename_i _ tp _ _ _ _ tq _ _ _ _ F3 N3
  obtain ⟨M, hM⟩ : ∃ M : Int, M = 10 - k := ⟨_, rfl⟩
  have lp : ((Txt.slice x (some k) none).length : Int) = M := by rw [slice_from_len hk0 (by omega)]; omega
  have lq : ((Txt.slice y (some k) none).length : Int) = M := by rw [slice_from_len hk0 (by omega)]; omega
  have ip : ∀ j : Int, 0 ≤ j → j < M → Txt.item (Txt.slice x (some k) none) j = Txt.item x (k + j) := fun j h0 h1 => slice_from_item hk0 (by omega) h0 (by omega)
  have iq : ∀ j : Int, 0 ≤ j → j < M → Txt.item (Txt.slice y (some k) none) j = Txt.item y (k + j) := fun j h0 h1 => slice_from_item hk0 (by omega) h0 (by omega)
  have hM0 : 0 < M := by omega
  have hM1 : M ≤ 10 := by omega
  generalize Txt.slice x (some k) none = p at *
  generalize Txt.slice y (some k) none = q at *
  have h0ne : Txt.item p 0 ≠ Txt.item q 0 := by
    rw [ip 0 (Int.le_refl _) hM0, iq 0 (Int.le_refl _) hM0]
    simpa using hneq
  have hk01 : Ho (0 ≤ k ∧ k < 10) := ⟨hk0, hk1⟩
  have hMh : Ho (M = 10 - k) := ⟨hM⟩
  clear hM hk0 hk1 hx hy hneq
  refine wp_cutC (fun f s' => Ho (f = Flow.next ∧ ∃ (i : Int) (t : Tok) (h : Heap) (tk : Nat), s' = { s with heap := h, toks := tk } ∧ FrN g1 L1 h [(Str.ofString "a", .str p tp), (Str.ofString "b", .str q tq), (Str.ofString "max_cost", .int c tc), (Str.ofString "post", .int i t)] ∧ News g1 L1 h news
      ∧ i ≤ 0 ∧ -(M) < i ∧ (∀ j : Nat, (j : Int) < -i → Txt.item p (M - 1 - j) = Txt.item q (M - 1 - j)))) ?loop2 ?rest2
  case loop2 =>
    intro Qc hQc
    k_while (fun (_ : List Int) (i : Int) => i ≤ 0 ∧ -(M) < i ∧ (∀ j : Nat, (j : Int) < -i → Txt.item p (M - 1 - j) = Txt.item q (M - 1 - j))) (fun (_ : List Int) (i : Int) => (M + i).toNat) "post"
    rename_i i ti hi0 hi1 hie
    walk_at "mS"
    all_goals first
      | exact hQc _ _ ⟨rfl, i, _, _, _, rfl, fr_named (by assumption) _ (by kst_all), by assumption, hi0, hi1, hie⟩
      | (refine ksw_end (_, _) (by assumption) (by assumption) (fun p hp => hp) trivial (by kst_all) (by walk_at "mSame") (post_step (by omega) (by omega) h0ne hi0 hi1 hie (by assumption)) ?_; dsimp only; omega)
      | (exfalso; omega)
  rintro f s' ⟨rfl, i, ti, h, tk, rfl, ⟨u, F4⟩, N4, hi0, hi1, hie⟩
  clear F3 N3
  dsimp only
  refine wpAny_execs_cons ?_
  refine wp_cutC (fun f s' => Ho (f = Flow.next ∧ ∃ (p' : Str) (t : Tok) (h : Heap) (tk : Nat), s' = { s with heap := h, toks := tk } ∧ FrN g1 L1 h [(Str.ofString "a", .str p' t), (Str.ofString "b", .str q tq), (Str.ofString "max_cost", .int c tc), (Str.ofString "post", .int i ti)] ∧ News g1 L1 h news
      ∧ (p'.length : Int) = M + i ∧ ∀ j : Int, 0 ≤ j → j < M + i → Txt.item p' j = Txt.item p j)) ?asg1 ?rest3
  case asg1 =>
    intro Qc hQc
    walk_at "mS"
    · exact hQc _ _ ⟨rfl, _, _, _, _, rfl, fr_named (by assumption) _ (by kst_all), by assumption, by rw [slice_to_neg_len (by omega) (by omega)]; omega, fun j h0 h1 => slice_to_neg_item (by omega) (by omega) h0 (by omega)⟩
    · exact hQc _ _ ⟨rfl, _, _, _, _, rfl, fr_named (by assumption) _ (by kst_all), by assumption, by rw [slice_all]; omega, fun j h0 h1 => by rw [slice_all]⟩
  rintro f s' ⟨rfl, p', tp', h, tk, rfl, ⟨u, F5⟩, N5, lp', ip'⟩
  clear F4 N4
  dsimp only
  refine wpAny_execs_cons ?_
  refine wp_cutC (fun f s' => Ho (f = Flow.next ∧ ∃ (q' : Str) (t : Tok) (h : Heap) (tk : Nat), s' = { s with heap := h, toks := tk } ∧ FrN g1 L1 h [(Str.ofString "a", .str p' tp'), (Str.ofString "b", .str q' t), (Str.ofString "max_cost", .int c tc)] ∧ News g1 L1 h news
      ∧ (q'.length : Int) = M + i ∧ ∀ j : Int, 0 ≤ j → j < M + i → Txt.item q' j = Txt.item q j)) ?asg2 ?rest4
  case asg2 =>
    intro Qc hQc
    walk_at "mS"
    · exact hQc _ _ ⟨rfl, _, _, _, _, rfl, fr_named (by assumption) _ (by kst_all), by assumption, by rw [slice_to_neg_len (by omega) (by omega)]; omega, fun j h0 h1 => slice_to_neg_item (by omega) (by omega) h0 (by omega)⟩
    · exact hQc _ _ ⟨rfl, _, _, _, _, rfl, fr_named (by assumption) _ (by kst_all), by assumption, by rw [slice_all]; omega, fun j h0 h1 => by rw [slice_all]⟩
  rintro f s' ⟨rfl, q', tq', h, tk, rfl, ⟨u, F6⟩, N6, lq', iq'⟩
  clear F5 N5
  dsimp only
  obtain ⟨n, hn⟩ : ∃ n : Nat, (n : Int) = M + i := ⟨(M + i).toNat, by omega⟩
  have ep : p'.length = n := by omega
  have eq : q'.length = n := by omega
  have hn1 : 1 ≤ n := by omega
  have hn10 : n ≤ 10 := by omega
  have hDD : D (costs q' p') n n = D (costs y x) 10 10 := by
    obtain ⟨⟨hk0, hk1⟩⟩ := hk01
    obtain ⟨hM⟩ := hMh
    subst hM
    exact lev_join (n := n) hk0 hk1 hi0 hi1 hn heq ip iq hie ip' iq'
  clear hn hk01 hMh hi0 hi1 hie ip iq ip' iq' heq lp lq lp' lq' h0ne hM0 hM1
  walk_at "mS"
  rotate_left
  · exfalso; omega
  · exfalso; omega
  rename_i h6 _ _ _ _ hrange hF hN _
  obtain ⟨l, hl⟩ : ∃ l, l = h6.objs.size := ⟨_, rfl⟩
  refine list_rangeD (n := n) rfl hF hN hrange ?small ?size ?_ ?_
  case small => rw [ep]; exact range_small2 ⟨hn1, hn10⟩
  case size => rw [ep]; exact range_size2 hn1
  · omega
  intro h7 tk7 ys F7 N7 hkeep hfresh _ hNP hcar
  simp only [← hl] at hfresh hNP ⊢
  have hints := IntsAre.ofCarried hcar
  obtain ⟨ep0, N8⟩ := news_list F7 N7 hfresh hNP
  have hnl := hNP.2
  clear hF hN hrange N7 hkeep hcar hNP hfresh
  walk_at "mS"
  rename (Fr _ _ _ _) => F9
  with_unfolding_all refine For_invVF F9 rfl rfl ?_
  walk_at "mS"
  · (k_with "state" => first | exact out_start _ _ | exact in_start (by assumption) (by omega) (by omega))
    k_state (fun (pre : List Int) (row : List Int) (r : Int) => OutP (costs q' p') n pre row r) "row" "result"
    · have hH : Ho (kN = 0 + (kPre.length : Int) ∧ kPre.length < n ∧ p'.length = n ∧ q'.length = n ∧ 1 ≤ n ∧ n ≤ 10) := ⟨kEq, by omega, ep, eq, hn1, hn10⟩
      have kq0 : 0 ≤ kN := by omega
      have kq1 : kN < q'.length := by omega
      have kq2 : kN < 10 := by omega
      have kq3 : (p'.length : Int) ≤ 10 := by omega
      have kInv1 := kInv
      clear kEq kLt ep eq hn1 hn10
      refine wp_genQ ?_
      intro Qo hQo
      walk_at "mS"
      rename (Fr _ _ _ _) => F10
      with_unfolding_all refine For_invVF F10 rfl rfl ?_
      walk_at "mS"
      · obtain ⟨⟨kEq1, kLt1, ep, eq, hn1, hn10⟩⟩ := hH
        clear kq0 kq1 kq2 kq3
        k_state (fun (pre : List Int) (row : List Int) (d r mn : Int) => InP (costs q' p') n kPre.length pre row d r mn) "row" "distance" "result" "minimum"
        · have hH : Ho (kN = 0 + (kPre.length : Int) ∧ kPre.length < n) := ⟨kEq, by omega⟩
          have hH1 := Ho.mk kEq1
          have kq0 : 0 ≤ kN := by omega
          have kq1 : kN < p'.length := by omega
          have kq2 : kN < 10 := by omega
          have kq3 := in_lt kInv kEq hH.out.2
          clear kEq kLt kEq1 kLt1 ep eq hn1 hn10
          refine wp_gen ?_
          intro Qi Ei hQi
          walk_at "mS"
          · refine hQi _ _ ?_
            walk_at "mS"
            refine kst_end ⟨_, _, _, _, _, _, _, _, _⟩ (by assumption) (by assumption) (List.forall_mem_cons.mpr ⟨List.Mem.head _, fun p hp => List.Mem.tail _ (List.mem_append.mpr (.inl hp))⟩) (fun p hp => List.Mem.tail _ (List.mem_append.mpr (.inr hp))) rfl (by assumption) (by kst_all) (by walk_at "mSameF") ?_
            exact in_step2 kInv hH.out.1 hH1.out hH.out.2 (by with_reducible assumption) (by with_reducible assumption) (Int.le_of_lt (by assumption)) (Int.le_refl _)
          · refine hQi _ _ ?_
            walk_at "mS"
            refine kst_end ⟨_, _, _, _, _, _, _, _, _⟩ (by assumption) (by assumption) (List.forall_mem_cons.mpr ⟨List.Mem.head _, fun p hp => List.Mem.tail _ (List.mem_append.mpr (.inl hp))⟩) (fun p hp => List.Mem.tail _ (List.mem_append.mpr (.inr hp))) rfl (by assumption) (by kst_all) (by walk_at "mSameF") ?_
            exact in_step2 kInv hH.out.1 hH1.out hH.out.2 (by with_reducible assumption) (by with_reducible assumption) (Int.le_refl _) (by first | assumption | exact Int.not_lt.mp (by assumption))
        · have hlr : (rangeKs 0 ((p'.length : Int) - 0).toNat).length = n := by rw [rangeKs_length]; omega
          walk_at "mS"
          · refine hQo _ _ ?_
            walk_at "mS"
            refine hret _ _ _ ⟨_, _, rfl, .inr ⟨rfl, ?_⟩⟩ (by assumption) (fun p hp => (by assumption : News h₀ L _ (_ :: (news ++ _))) p (List.Mem.tail _ (List.mem_append.mpr (.inl hp))))
            rw [← hDD]
            exact out_early kInv hlr kLt1 (by first | assumption | omega)
          · refine hQo _ _ ?_
            walk_at "mS"
            refine kst_end ⟨_, _, _, _, _⟩ (by assumption) (by assumption) (List.forall_mem_cons.mpr ⟨List.Mem.head _, fun p hp => List.Mem.tail _ (List.mem_append.mpr (.inl hp))⟩) (fun p hp => List.Mem.tail _ (List.mem_append.mpr (.inr hp))) rfl (by assumption) (by kst_all) (by walk_at "mSameF") ?_
            exact out_step kInv hlr hn1
    · have hlr : (rangeKs 0 ((q'.length : Int) - 0).toNat).length = n := by rw [rangeKs_length]; omega
      walk_at "mS"
      refine hret _ _ _ ⟨_, _, rfl, .inl ?_⟩ (by assumption) (fun p hp => (by assumption : News h₀ L _ (_ :: news)) p (List.Mem.tail _ hp))
      rw [← hDD]
      have h3 := kInv.2.2
      rw [hlr] at h3
      rcases h3 with h3 | h3
      · omega
      · exact h3
end Mine
/-! part Zip -/
namespace Mine
open PyProof.Rows.LCg PyProof.Rows.LCp
/-- the five parts of a zip of two, all apart -/
structure Zap (z TI TO i1 i2 : Addr) : Prop where
  TIz : TI ≠ z
  TOz : TO ≠ z
  i1z : i1 ≠ z
  i2z : i2 ≠ z
  TITO : TI ≠ TO
  TIi1 : TI ≠ i1
  TIi2 : TI ≠ i2
  TOi1 : TO ≠ i1
  TOi2 : TO ≠ i2
  i12 : i1 ≠ i2
section
variable {prog : Program} {w : World} {A : Around} {E : Value → Shared → Prop} {s : Shared} {z TI TO i1 i2 : Addr} {n1 n2 : Nat} {P1 P2 : Nat → Value → Prop} {S1 S2 : Nat → Heap → Prop}
theorem zipD_item {k : Nat} {a b : Value} {Q : Value → Shared → Prop} (D : Zap z TI TO i1 i2) (D1 : Draws prog w A i1 [i1] n1 P1 S1) (D2 : Draws prog w A i2 [i2] n2 P2 S2)
    (hz : IsZip s.heap z TI TO .none) (hTI : IsPair s.heap TI (.ref i1) (.ref i2)) (hTO : IsPair s.heap TO a b) (h1 : S1 k s.heap) (h2 : S2 k s.heap) (hk1 : k < n1) (hk2 : k < n2)
    (hQ : ∀ x y h' tk, P1 k x → P2 k y → IsZip h' z TI TO (rawInt s.heap.objs.size) → IsPair h' TO x y → S1 (k + 1) h' → S2 (k + 1) h' → IsPair h' s.heap.objs.size x y → h'.objs.size = s.heap.objs.size + 1 →
      (∀ c o, c ≠ z → c ≠ TO → c ≠ i1 → c ≠ i2 → s.heap.get? c = some o → h'.get? c = some o) → Q (.ref s.heap.objs.size) { s with heap := h', toks := tk }) :
    wpAny (model prog w) A (Builtin.«zip.__next__» ⟨[.ref z], []⟩) (fun fin s' => ∃ v, fin = .done (.ret v) ∧ Q v s') E s := by
  obtain ⟨hp, g, d, tk₀, os⟩ := s
  show wpAny _ _ (field (.ref z) 2 >>= _) _ _ _
  refine wpAny_bind (wpAny_field hz rfl (x := .bool false) rfl ?_)
  show wpAny _ _ (field (.ref z) 3 >>= _) _ _ _
  refine wpAny_bind (wpAny_field hz rfl (x := .ref TI) rfl ?_)
  refine wpAny_bind (wpAny_seqItems hTI rfl ?_)
  show wpAny _ _ (Builtin.SmallTypes.ownedTupleIsFree (.ref z) >>= _) _ _ _
  refine wpAny_bind ?_
  unfold Builtin.SmallTypes.ownedTupleIsFree
  refine wpAny_bind (wpAny_field hz rfl (x := .none) rfl (wpAny_pure ?_))
  simp only [if_true]
  refine wpAny_bind (wpAny_rule ?_)
  refine wpAny_bind (wpAny_field hz rfl (x := .ref TO) rfl ?_)
  refine wpAny_bind (wpAny_setField_rec hz (by simp) fun h₁ hz₁ hs₁ => ?_)
  replace hz₁ : IsZip h₁ z TI TO .ellipsis := hz₁
  refine wpAny_bind ?_
  simp only [List.zipIdx_cons, List.zipIdx_nil, List.forIn_cons, List.forIn_nil]
  refine wpAny_bind (wpAny_bind (wpAny_onRaise ?_))
  show wpAny _ _ (Builtin.SmallTypes.nextOf (.ref i1) >>= _) _ _ _
  have h1₁ : S1 k h₁ := D1.frame _ _ _ h1 fun b hb o e => hs₁.extBut _ _ (by rw [List.mem_singleton.mp hb]; exact D.i1z) e
  refine wpAny_bind (D1.item k _ _ _ hk1 h1₁ fun x h₂ tk₂ hPx h1₂ hs₂ => wpAny_pure ?_)
  have hTO₂ : IsPair h₂ TO a b := hs₂.extBut _ _ D.TOi1 (hs₁.extBut _ _ D.TOz hTO)
  refine wpAny_bind (wpAny_seqItems hTO₂ rfl ?_)
  refine wpAny_bind (wpAny_updateSeq_pair hTO₂ fun h₃ hTO₃ hs₃ => ?_)
  replace hTO₃ : IsPair h₃ TO x b := hTO₃
  refine wpAny_bind (wpAny_letGo (wpAny_pure ?_))
  refine wpAny_bind (wpAny_bind (wpAny_onRaise ?_))
  show wpAny _ _ (Builtin.SmallTypes.nextOf (.ref i2) >>= _) _ _ _
  have h2₃ : S2 k h₃ := D2.frame _ _ _ h2 fun b hb o e => by
    rw [List.mem_singleton.mp hb] at e ⊢
    exact hs₃.extBut _ _ D.TOi2.symm (hs₂.extBut _ _ D.i12.symm (hs₁.extBut _ _ D.i2z e))
  refine wpAny_bind (D2.item k _ _ _ hk2 h2₃ fun y h₄ tk₄ hPy h2₄ hs₄ => wpAny_pure ?_)
  have hTO₄ : IsPair h₄ TO x b := hs₄.extBut _ _ D.TOi2 hTO₃
  refine wpAny_bind (wpAny_seqItems hTO₄ rfl ?_)
  refine wpAny_bind (wpAny_updateSeq_pair hTO₄ fun h₅ hTO₅ hs₅ => ?_)
  replace hTO₅ : IsPair h₅ TO x y := hTO₅
  refine wpAny_bind (wpAny_letGo (wpAny_pure (wpAny_pure ?_)))
  refine wpAny_bind (wpAny_seqItems hTO₅ rfl ?_)
  refine wpAny_bind (wpAny_newTuple ?_)
  have hsz : h₅.objs.size = hp.objs.size := by rw [hs₅.1, hs₄.1, hs₃.1, hs₂.1, hs₁.1]
  have hz₅ : IsZip h₅ z TI TO .ellipsis := hs₅.extBut _ _ D.TOz.symm (hs₄.extBut _ _ D.i2z.symm (hs₃.extBut _ _ D.TOz.symm (hs₂.extBut _ _ D.i1z.symm hz₁)))
  have hk₅ : ∀ c o, c ≠ z → c ≠ TO → c ≠ i1 → c ≠ i2 → hp.get? c = some o → h₅.get? c = some o := fun c o c1 c2 c3 c4 e =>
    hs₅.extBut _ _ c2 (hs₄.extBut _ _ c4 (hs₃.extBut _ _ c2 (hs₂.extBut _ _ c3 (hs₁.extBut _ _ c1 e))))
  have h1₅ : S1 (k + 1) h₅ := D1.frame _ _ _ h1₂ fun b hb o e => by
    rw [List.mem_singleton.mp hb] at e ⊢
    exact hs₅.extBut _ _ D.TOi1.symm (hs₄.extBut _ _ D.i12 (hs₃.extBut _ _ D.TOi1.symm e))
  have h2₅ : S2 (k + 1) h₅ := D2.frame _ _ _ h2₄ fun b hb o e => by
    rw [List.mem_singleton.mp hb] at e ⊢
    exact hs₅.extBut _ _ D.TOi2.symm e
  have hzlt : z < h₅.objs.size := Heap.lt_size hz₅
  show wpAny _ _ (Builtin.SmallTypes.ownedTupleHandOut (.ref z) (.ref h₅.objs.size) >>= _) _ _ _
  refine wpAny_bind ?_
  unfold Builtin.SmallTypes.ownedTupleHandOut
  have hz₆ : IsZip (h₅.push { cls := .type "tuple", data := .seq #[x, y] }) z TI TO .ellipsis := Heap.get?_push_of_some _ hz₅
  refine wpAny_bind (wpAny_setField_rec hz₆ (by simp) fun h₇ hz₇ hs₇ => ?_)
  replace hz₇ : IsZip h₇ z TI TO (rawInt h₅.objs.size) := hz₇
  refine wpAny_setField_rec hz₇ (by simp) fun h₈ hz₈ hs₈ => ?_
  replace hz₈ : IsZip h₈ z TI TO (rawInt h₅.objs.size) := hz₈
  have up : ∀ c o, c ≠ z → h₅.get? c = some o → h₈.get? c = some o := fun c o c1 e => hs₈.extBut _ _ c1 (hs₇.extBut _ _ c1 (Heap.get?_push_of_some _ e))
  have hT₈ : IsPair h₈ h₅.objs.size x y := hs₈.extBut _ _ (Nat.ne_of_gt hzlt) (hs₇.extBut _ _ (Nat.ne_of_gt hzlt) (Heap.get?_push_size _ rfl))
  have hz8 : h₈.objs.size = h₅.objs.size + 1 := by rw [hs₈.1, hs₇.1, Heap.size_push]
  rw [hsz] at hz₈ hT₈ hz8
  refine wpAny_pure ⟨_, rfl, ?_⟩
  show Q (.ref h₅.objs.size) _
  rw [hsz]
  exact hQ x y h₈ _ hPx hPy hz₈ (up _ _ D.TOz hTO₅) (D1.frame _ _ _ h1₅ fun b hb o e => up _ _ (by rw [List.mem_singleton.mp hb]; exact D.i1z) e)
    (D2.frame _ _ _ h2₅ fun b hb o e => up _ _ (by rw [List.mem_singleton.mp hb]; exact D.i2z) e) hT₈ hz8 fun c o c1 c2 c3 c4 e => up c o c1 (hk₅ c o c1 c2 c3 c4 e)
theorem zipD_end {k : Nat} {a b : Value} {Q : Fin → Shared → Prop} (D : Zap z TI TO i1 i2) (D1 : Draws prog w A i1 [i1] n1 P1 S1) (D2 : Draws prog w A i2 [i2] n2 P2 S2)
    (hz : IsZip s.heap z TI TO .none) (hTI : IsPair s.heap TI (.ref i1) (.ref i2)) (hTO : IsPair s.heap TO a b) (h1 : S1 k s.heap) (h2 : S2 k s.heap) (hend : k = n1 ∨ (k < n1 ∧ k = n2))
    (hE : ∀ h' tk e, (∀ c o, c ≠ z → c ≠ TO → c ≠ i1 → c ≠ i2 → s.heap.get? c = some o → h'.get? c = some o) → (∃ o, h'.get? e = some o ∧ o.cls = .type "StopIteration") → E (.ref e) { s with heap := h', toks := tk }) :
    wpAny (model prog w) A (Builtin.«zip.__next__» ⟨[.ref z], []⟩) Q E s := by
  obtain ⟨hp, g, d, tk₀, os⟩ := s
  show wpAny _ _ (field (.ref z) 2 >>= _) _ _ _
  refine wpAny_bind (wpAny_field hz rfl (x := .bool false) rfl ?_)
  show wpAny _ _ (field (.ref z) 3 >>= _) _ _ _
  refine wpAny_bind (wpAny_field hz rfl (x := .ref TI) rfl ?_)
  refine wpAny_bind (wpAny_seqItems hTI rfl ?_)
  show wpAny _ _ (Builtin.SmallTypes.ownedTupleIsFree (.ref z) >>= _) _ _ _
  refine wpAny_bind ?_
  unfold Builtin.SmallTypes.ownedTupleIsFree
  refine wpAny_bind (wpAny_field hz rfl (x := .none) rfl (wpAny_pure ?_))
  simp only [if_true]
  refine wpAny_bind (wpAny_rule ?_)
  refine wpAny_bind (wpAny_field hz rfl (x := .ref TO) rfl ?_)
  refine wpAny_bind (wpAny_setField_rec hz (by simp) fun h₁ hz₁ hs₁ => ?_)
  replace hz₁ : IsZip h₁ z TI TO .ellipsis := hz₁
  refine wpAny_bind ?_
  simp only [List.zipIdx_cons, List.zipIdx_nil, List.forIn_cons, List.forIn_nil]
  refine wpAny_bind (wpAny_bind (wpAny_onRaise ?_))
  show wpAny _ _ (Builtin.SmallTypes.nextOf (.ref i1) >>= _) _ _ _
  have h1₁ : S1 k h₁ := D1.frame _ _ _ h1 fun b hb o e => hs₁.extBut _ _ (by rw [List.mem_singleton.mp hb]; exact D.i1z) e
  rcases hend with rfl | ⟨hk1, rfl⟩
  · refine wpAny_bind (D1.done _ _ _ h1₁ fun h₂ e hs₂ he => ?_)
    obtain ⟨oe, hoe, hce⟩ := he
    have hz₂ : IsZip h₂ z TI TO .ellipsis := hs₂ _ _ D.i1z.symm hz₁
    have hez : e ≠ z := fun x => by subst x; rw [hz₂] at hoe; cases hoe; simp at hce
    refine wpAny_setField_rec hz₂ (by simp) fun h₃ _ hs₃ => hE h₃ _ e (fun c o c1 _ c3 _ x => hs₃.extBut _ _ c1 (hs₂ _ _ c3 (hs₁.extBut _ _ c1 x))) ⟨oe, hs₃.extBut _ _ hez hoe, hce⟩
  · refine wpAny_bind (D1.item k _ _ _ hk1 h1₁ fun x h₂ tk₂ hPx h1₂ hs₂ => wpAny_pure ?_)
    have hTO₂ : IsPair h₂ TO a b := hs₂.extBut _ _ D.TOi1 (hs₁.extBut _ _ D.TOz hTO)
    refine wpAny_bind (wpAny_seqItems hTO₂ rfl ?_)
    refine wpAny_bind (wpAny_updateSeq_pair hTO₂ fun h₃ hTO₃ hs₃ => ?_)
    refine wpAny_bind (wpAny_letGo (wpAny_pure ?_))
    refine wpAny_bind (wpAny_bind (wpAny_onRaise ?_))
    show wpAny _ _ (Builtin.SmallTypes.nextOf (.ref i2) >>= _) _ _ _
    have h2₃ : S2 k h₃ := D2.frame _ _ _ h2 fun b hb o e => by
      rw [List.mem_singleton.mp hb] at e ⊢
      exact hs₃.extBut _ _ D.TOi2.symm (hs₂.extBut _ _ D.i12.symm (hs₁.extBut _ _ D.i2z e))
    refine wpAny_bind (D2.done _ _ _ h2₃ fun h₄ e hs₄ he => ?_)
    obtain ⟨oe, hoe, hce⟩ := he
    have hz₄ : IsZip h₄ z TI TO .ellipsis := hs₄ _ _ D.i2z.symm (hs₃.extBut _ _ D.TOz.symm (hs₂.extBut _ _ D.i1z.symm hz₁))
    have hez : e ≠ z := fun x => by subst x; rw [hz₄] at hoe; cases hoe; simp at hce
    refine wpAny_setField_rec hz₄ (by simp) fun h₅ _ hs₅ => hE h₅ _ e (fun c o c1 c2 c3 c4 x => hs₅.extBut _ _ c1 (hs₄ _ _ c4 (hs₃.extBut _ _ c2 (hs₂.extBut _ _ c3 (hs₁.extBut _ _ c1 x))))) ⟨oe, hs₅.extBut _ _ hez hoe, hce⟩
theorem walks_zipD (D : Zap z TI TO i1 i2) (D1 : Draws prog w A.in1 i1 [i1] n1 P1 S1) (D2 : Draws prog w A.in1 i2 [i2] n2 P2 S2) :
    WalksT prog w A z [z, TI, TO, i1, i2] [z, TO, i1, i2] (min n1 n2)
      (fun i vals => ∃ x y, P1 i x ∧ P2 i y ∧ vals = #[x, y])
      (fun i h => IsZip h z TI TO .none ∧ IsPair h TI (.ref i1) (.ref i2) ∧ (∃ a b, IsPair h TO a b) ∧ S1 i h ∧ S2 i h)
      (fun i T h => IsZip h z TI TO (rawInt T) ∧ IsPair h TI (.ref i1) (.ref i2) ∧ (∃ a b, IsPair h TO a b) ∧ S1 (i + 1) h ∧ S2 (i + 1) h ∧ T ≠ z ∧ T ≠ TO ∧ T ≠ i1 ∧ T ≠ i2) where
  sub := fun c hc => by simp at hc ⊢; rcases hc with rfl | rfl | rfl | rfl <;> simp
  frame := fun i h h' hst hk => by
    obtain ⟨hz, hTI, ⟨a, b, hTO⟩, h1, h2⟩ := hst
    exact ⟨hk z (by simp) _ hz, hk TI (by simp) _ hTI, ⟨a, b, hk TO (by simp) _ hTO⟩, D1.frame _ _ _ h1 fun b hb o e => hk b (by rw [List.mem_singleton.mp hb]; simp) o e,
      D2.frame _ _ _ h2 fun b hb o e => hk b (by rw [List.mem_singleton.mp hb]; simp) o e⟩
  item := fun i s Q E hi hst hQ => by
    obtain ⟨hz, hTI, ⟨a, b, hTO⟩, h1, h2⟩ := hst
    have hi1 : i < n1 := Nat.lt_of_lt_of_le hi (Nat.min_le_left ..)
    have hi2 : i < n2 := Nat.lt_of_lt_of_le hi (Nat.min_le_right ..)
    have hT : s.TypeIs (.ref z) "zip" := ⟨_, hz, rfl⟩
    unfold pyNext
    refine wpAny_bind (wpAny_attempt (wpAny_callSpecial?_slot (name := Str.ofString "__next__") hT F.slot_zip_next
      (wpAny_call_entry F.slot_zip_next hT F.entry_zip_next
        (zipD_item D D1 D2 hz hTI hTO h1 h2 hi1 hi2 fun x y h' tk px py a1 a2 a3 a4 a5 a6 hk => wpAny_pure ?_) (F.args_zip_next_1 _))))
    have lt : ∀ {c o}, s.heap.get? c = some o → s.heap.objs.size ≠ c := fun e => Nat.ne_of_gt (Heap.lt_size e)
    obtain ⟨o1, e1⟩ := D1.live _ _ h1
    obtain ⟨o2, e2⟩ := D2.live _ _ h2
    exact hQ s.heap.objs.size #[x, y] h' tk ⟨_, _, px, py, rfl⟩ (Nat.le_refl _) ⟨_, a5, rfl, _, rfl⟩
      ⟨a1, hk _ _ D.TIz D.TITO D.TIi1 D.TIi2 hTI, ⟨_, _, a2⟩, a3, a4, lt hz, lt hTO, lt e1, lt e2⟩
      fun c o hc e => hk c o (fun x => hc (by simp [x])) (fun x => hc (by simp [x])) (fun x => hc (by simp [x])) (fun x => hc (by simp [x])) e
  go := fun elts k pos i T s Q E hm hQ => by
    obtain ⟨hz, hTI, ⟨a, b, hTO⟩, h1, h2, _⟩ := hm
    refine wpAny_letOwnedTupleGo_zip hz fun h' hz' hs' => hQ h' ⟨hz', hs'.extBut _ _ D.TIz hTI, ⟨a, b, hs'.extBut _ _ D.TOz hTO⟩,
      D1.frame _ _ _ h1 fun b hb o e => hs'.extBut _ _ (by rw [List.mem_singleton.mp hb]; exact D.i1z) e, D2.frame _ _ _ h2 fun b hb o e => hs'.extBut _ _ (by rw [List.mem_singleton.mp hb]; exact D.i2z) e⟩
      fun c o hc e => hs'.extBut _ _ (fun x => hc (by simp [x])) e
  apart := fun i T h hm hT => by
    obtain ⟨_, _, _, _, _, t1, t2, t3, t4⟩ := hm
    simp at hT
    rcases hT with rfl | rfl | rfl | rfl
    · exact t1 rfl
    · exact t2 rfl
    · exact t3 rfl
    · exact t4 rfl
  done := fun s Q E hst hQ => by
    obtain ⟨hz, hTI, ⟨a, b, hTO⟩, h1, h2⟩ := hst
    have hT : s.TypeIs (.ref z) "zip" := ⟨_, hz, rfl⟩
    unfold pyNext
    refine wpAny_bind (wpAny_attempt (wpAny_callSpecial?_slot (name := Str.ofString "__next__") hT F.slot_zip_next
      (wpAny_call_entry F.slot_zip_next hT F.entry_zip_next (zipD_end D D1 D2 hz hTI hTO h1 h2 (by omega) fun h' tk e hk he => ?_) (F.args_zip_next_1 _))))
    obtain ⟨o, ho, hc⟩ := he
    refine wpAny_bind (wpAny_isInstance (T := "StopIteration") (b := true) ⟨o, ho, hc⟩ isSubtype_stop ?_)
    exact wpAny_pure (hQ _ tk fun c o hc e => hk c o (fun x => hc (by simp [x])) (fun x => hc (by simp [x])) (fun x => hc (by simp [x])) (fun x => hc (by simp [x])) e)
  self := fun i s Q E hst hQ => wpAny_pyIter_zip hst.1 hQ
end
end Mine
/-! part ZipC -/
namespace Mine
open PyProof.Rows.LCg PyProof.Rows.LCp
noncomputable abbrev zS1 (h : Heap) (x : Str) (t : Tok) : Heap := h.push { cls := .type (strIterType x), data := .fields #[.str x t, .int 0 0] }
noncomputable abbrev zS2 (h : Heap) (x : Str) (t : Tok) (y : Str) (u : Tok) : Heap := (zS1 h x t).push { cls := .type (strIterType y), data := .fields #[.str y u, .int 0 0] }
noncomputable abbrev zS3 (h : Heap) (x : Str) (t : Tok) (y : Str) (u : Tok) : Heap := (zS2 h x t y u).push { cls := .type "tuple", data := .seq #[.ref h.objs.size, .ref (zS1 h x t).objs.size] }
noncomputable abbrev zS4 (h : Heap) (x : Str) (t : Tok) (y : Str) (u : Tok) : Heap := (zS3 h x t y u).push { cls := .type "tuple", data := .seq #[.none, .none] }
noncomputable abbrev zS5 (h : Heap) (x : Str) (t : Tok) (y : Str) (u : Tok) : Heap := (zS4 h x t y u).push { cls := .type "zip", data := .fields #[.none, .bool false, .bool false, .ref (zS2 h x t y u).objs.size, .ref (zS3 h x t y u).objs.size] }
set_option maxRecDepth 100000 in
set_option maxHeartbeats 4000000 in
theorem meets_zip_newS (x y : Str) (t u : Tok) :
    Meets (Builtin.«zip.__new__» ⟨[.type "zip", .str x t, .str y u], []⟩) (fun _ R s => R (.ok (.ret (.ref (zS4 s.heap x t y u).objs.size))) { s with heap := zS5 s.heap x t y u }) :=
  .of_wp fun prog w A R s h => by
    obtain ⟨hp, g, d, tk, os⟩ := s
    have hsub := sub_zip
    wp_walk using wpAny_pyIter_strU
    exact ⟨_, rfl, h⟩
section
variable {prog : Program} {w : World} {A : Around} {E : Value → Shared → Prop} {s : Shared}
theorem call_zipS {x y : Str} {t u : Tok} {Q : Value → Shared → Prop}
    (h : ∀ h', IsZip h' (s.heap.objs.size + 4) (s.heap.objs.size + 2) (s.heap.objs.size + 3) .none → IsPair h' (s.heap.objs.size + 2) (.ref s.heap.objs.size) (.ref (s.heap.objs.size + 1)) →
      IsPair h' (s.heap.objs.size + 3) .none .none → h'.IsStrIter s.heap.objs.size (strIterType x) x t 0 → h'.IsStrIter (s.heap.objs.size + 1) (strIterType y) y u 0 → h'.objs.size = s.heap.objs.size + 5 →
      (∀ c o, s.heap.get? c = some o → h'.get? c = some o) → Q (.ref (s.heap.objs.size + 4)) { s with heap := h' }) :
    wpAny (model prog w) A (call (.type "zip") [.str x t, .str y u]) Q E s := by
  refine callType_new F.called_zip (by decide) (F.typeCall_zip_2 _ _) (F.newCall_zip_2 _ _) (fun obj => F.args_object_init_3 obj _ _) F.entry_zip_new (meets_zip_newS x y t u) ?_
  have z1 : (zS1 s.heap x t).objs.size = s.heap.objs.size + 1 := Heap.size_push ..
  have z2 : (zS2 s.heap x t y u).objs.size = s.heap.objs.size + 2 := by rw [Heap.size_push, z1]
  have z3 : (zS3 s.heap x t y u).objs.size = s.heap.objs.size + 3 := by rw [Heap.size_push, z2]
  have z4 : (zS4 s.heap x t y u).objs.size = s.heap.objs.size + 4 := by rw [Heap.size_push, z3]
  have z5 : (zS5 s.heap x t y u).objs.size = s.heap.objs.size + 5 := by rw [Heap.size_push, z4]
  have g5 : (zS5 s.heap x t y u).get? (zS4 s.heap x t y u).objs.size = some _ := Heap.get?_push_size _ rfl
  have g4 : (zS5 s.heap x t y u).get? (zS3 s.heap x t y u).objs.size = some _ := Heap.get?_push_of_some _ (Heap.get?_push_size _ rfl)
  have g3 : (zS5 s.heap x t y u).get? (zS2 s.heap x t y u).objs.size = some _ := Heap.get?_push_of_some _ (Heap.get?_push_of_some _ (Heap.get?_push_size _ rfl))
  have g2 : (zS5 s.heap x t y u).get? (zS1 s.heap x t).objs.size = some _ := Heap.get?_push_of_some _ (Heap.get?_push_of_some _ (Heap.get?_push_of_some _ (Heap.get?_push_size _ rfl)))
  have g1 : (zS5 s.heap x t y u).get? s.heap.objs.size = some _ := Heap.get?_push_of_some _ (Heap.get?_push_of_some _ (Heap.get?_push_of_some _ (Heap.get?_push_of_some _ (Heap.get?_push_size _ rfl))))
  show _ ∧ _
  rw [z2, z3, z4] at g5
  rw [z1, z2] at g3
  rw [z3] at g4
  rw [z1] at g2
  rw [z4]
  exact ⟨⟨_, g5, rfl⟩, h _ g5 g3 g4 ⟨_, g1, rfl, rfl⟩ ⟨_, g2, rfl, rfl⟩ z5 fun c o x =>
    Heap.get?_push_of_some _ (Heap.get?_push_of_some _ (Heap.get?_push_of_some _ (Heap.get?_push_of_some _ (Heap.get?_push_of_some _ x))))⟩
/-- a text's signs, whichever iterator it has -/
theorem draws_str (hh : A.handled = none) (it : Addr) (x : Str) (t : Tok) :
    Draws prog w A it [it] x.length (fun i v => ∃ u, v = .str (Txt.item x (i : Int)) u ∧ i < x.length) (fun i h => h.IsStrIter it (strIterType x) x t i) := by
  have conv : ∀ (i : Nat) (v : Value), (∃ c u, x.cps[i]? = some c ∧ v = Value.str ⟨#[c]⟩ u) → ∃ u, v = .str (Txt.item x (i : Int)) u ∧ i < x.length := by
    rintro i v ⟨c, u, hc, rfl⟩
    have hi : i < x.cps.size := (Array.getElem?_eq_some_iff.mp hc).1
    refine ⟨u, ?_, hi⟩
    rw [item_nat (by omega) (by show (i : Int) < (x.cps.size : Int); omega)]
    simp [hc]
  cases ha : x.cps.all (· < 128)
  · have e : strIterType x = "str_iterator" := by simp [strIterType, ha]
    rw [e]
    have D := Draws.strWide (prog := prog) (w := w) hh it x t
    exact ⟨D.live, D.frame, fun i s Q E hi st hQ => D.item i s Q E hi st fun v h' tk hP => hQ v h' tk (conv i v hP), D.done⟩
  · have e : strIterType x = "str_ascii_iterator" := by simp [strIterType, ha]
    rw [e]
    have D := Draws.strAscii (prog := prog) (w := w) hh it x t
    exact ⟨D.live, D.frame, fun i s Q E hi st hQ => D.item i s Q E hi st fun v h' tk hP => hQ v h' tk (conv i v hP), D.done⟩
end
theorem zap_of (n : Nat) : Zap (n + 4) (n + 2) (n + 3) n (n + 1) := ⟨neN (by omega), neN (by omega), neN (by omega), neN (by omega), neN (by omega), neN (by omega), neN (by omega), neN (by omega), neN (by omega), neN (by omega)⟩
theorem mem_zip5 {b n : Nat} (h : b ∈ [n + 4, n + 2, n + 3, n, n + 1]) : n ≤ b ∧ b < n + 5 := by simp at h; omega
theorem mem_zip4 {b n : Nat} (h : b ∈ [n + 4, n + 3, n, n + 1]) : n ≤ b ∧ b < n + 5 := by simp at h; omega
/-- what a def that hands back a new list of ints does: the list is the ledger's newest -/
abbrev ConL (k : Nat) (w : World) (mean : ExcName → Option Value) (mg mb : Str → Option Value) (f : Addr) (news : List (Addr × Obj)) (vs : List Value) (ns : List Int) : Prop :=
  ∀ (dp un : Nat) (gd : Option (List Code)) (cn : Str) (cs : Scope) (a : Addr) (ccd : Value) (cl : List (Str × Addr)) (outer : List Env) (A₀ : Around) (base h₀ : Heap) (L : Addr) (m : Str → Option Value) (s : Shared) (Q E : Value → Shared → Prop),
    Below A₀ base outer h₀ → Fr h₀ L s.heap m → (Mine.hd.heap_39 w.params).In h₀ → News h₀ L s.heap news → Top Mine.hd.view_39 (looseW Mine.hd.view_39 [Str.ofString "_filemode_table"]) mean mg mb h₀ → cs.kind = .function →
    dp + k < recursionLimit → un + 8 * k < cLine →
    (∀ (l : Addr) (ys : List Value) (e : Nat) (h' : Heap) (tk' : Nat), IntsAre ys ns → (∀ p ∈ news, p.1 < l) → Fr h₀ L h' m → News h₀ L h' ((l, PySem.W.listOf ys.toArray e) :: news) → Q (.ref l) { s with heap := h', toks := tk' }) →
    wpAny (model Challenge.rw_pe0138_01.row.prog w) (ktrTop dp un gd cn cs L a ccd cl outer) (call (.ref f) vs) Q E s
section
variable {prog : Program} {w : World} {A : Around} {E : Value → Shared → Prop} {s₂ : Shared} {h₀ : Heap} {L : Addr} {m : Str → Option Value} {env : Env} {news : List (Addr × Obj)}
/-- a list comprehension over pairs, whose element is an int and touches nothing -/
theorem pair_block {elt iter : PySem.Expr} {a b : Str} {pa pb tp : Pos} {kk : Nat} {scope : Scope} {cl : List (Str × Addr)} {pos : Pos} {I : Addr} {fp wr : List Addr} {n : Nat} {Pt : Nat → Array Value → Prop} {St : Nat → Heap → Prop} {Mid : Nat → Addr → Heap → Prop}
    {P2 : Nat → Value → Value → Prop} {f : Nat → Int} {RR : Value → Addr → Result → Shared → Prop}
    (W : WalksT prog w A I fp wr n Pt St Mid) (h2 : ∀ i vals, Pt i vals → ∃ v0 v1, vals = #[v0, v1] ∧ P2 i v0 v1) (hsz : n ≤ sizeLine)
    (hcell : ∀ y ∈ scope.names, y.2 ≠ .cell) (hkind : scope.kind = .function) (ha : scope.names.lookup a = some .local) (hb : scope.names.lookup b = some .local) (hh : A.handled = none)
    (hst : St 0 s₂.heap) (hfp : ∀ b ∈ fp, b < s₂.heap.objs.size) (hwr : ∀ b ∈ wr, h₀.get? b = none) (hLw : L ∉ wr) (hnw : ∀ p ∈ news, p.1 ∉ wr)
    (F : Fr h₀ L s₂.heap m) (N : News h₀ L s₂.heap news)
    (helt : ∀ i v0 v1 C (u : Str → Option Value) h tk (E' : Value → Shared → Prop) (Q' : Value → Shared → Prop), i < n → P2 i v0 v1 → h.Ns C (fun z => if z = b then some v1 else if z = a then some v0 else u z) →
      (∀ t tk', Q' (.int (f i) t) { s₂ with heap := h, toks := tk' }) → wpAny (model prog w) A (eval elt (compEnvC scope cl C env)) Q' E' { s₂ with heap := h, toks := tk })
    (hRR : ∀ D C h tk m' ys, Fr h₀ L h m → News h₀ L h ((D, lst ys) :: news) → (∀ p ∈ news, p.1 < D) → h.Ns C m' → h₀.get? C = none → C ≠ L → C ≠ D → (∀ p ∈ news, p.1 ≠ C) → IntsAre ys ((List.range n).map f) → RR (.ref D) C (.ok .next) { s₂ with heap := h, toks := tk }) :
    wpAny (model prog w) A (newList []) (fun acc s₃ => wpAny (model prog w) A (newFunctionEnv scope env.globals cl [] env.qual none .none (some env)) (fun cenv s₄ =>
      codeAny (model prog w) A (.compStart (.ListComp elt [⟨.Tuple [.Name a pa, .Name b pb] kk tp, iter, [], 0⟩] scope pos) 0 (.ref I) acc { cenv with scope := relabel scope env }) (RR acc cenv.locals) s₄) E s₃) E s₂ := by
  refine wpAny_newObj_type (wpAny_newFunctionEnv hcell (by intro y hy; simp at hy) (fun h₁ hns₁ hsb₁ => ?_) hkind)
  dsimp only at hns₁ hsb₁ ⊢
  generalize hH2 : s₂.heap.push { cls := .type "list", dict := none, data := .seq ([] : List Value).toArray } = H2 at hns₁ hsb₁ ⊢
  have hC : H2.objs.size = s₂.heap.objs.size + 1 := by rw [← hH2, Heap.size_push]
  have hDC : s₂.heap.objs.size ≠ H2.objs.size := by rw [hC]; exact Nat.ne_of_lt (Nat.lt_succ_self _)
  have below : ∀ b, b < s₂.heap.objs.size → b ≠ H2.objs.size ∧ b ≠ s₂.heap.objs.size := fun b hb => ⟨by rw [hC]; exact Nat.ne_of_lt (Nat.lt_succ_of_lt hb), Nat.ne_of_lt hb⟩
  have hDf : s₂.heap.objs.size ∉ fp := fun hm => Nat.lt_irrefl _ (hfp _ hm)
  have hCf : H2.objs.size ∉ fp := fun hm => by have := hfp _ hm; rw [hC] at this; exact Nat.lt_irrefl _ (Nat.lt_of_succ_lt this)
  have hDw : s₂.heap.objs.size ∉ wr := fun hm => hDf (W.sub _ hm)
  have hCw : H2.objs.size ∉ wr := fun hm => hCf (W.sub _ hm)
  have old : ∀ b o, s₂.heap.get? b = some o → h₁.get? b = some o := fun b o e => hsb₁.extBut b o (below b (Heap.lt_size e)).1 (Heap.get?_push_of_some _ (hH2 ▸ Heap.get?_push_of_some _ e))
  have hacc : h₁.get? s₂.heap.objs.size = some (lst []) := hsb₁.extBut _ _ hDC (Heap.get?_push_of_some _ (hH2 ▸ Heap.get?_push_size _ rfl))
  have hst₁ : St 0 h₁ := W.frame _ _ _ hst fun b _ o e => old b o e
  have fresh : ∀ a, s₂.heap.objs.size ≤ a → s₂.heap.get? a = none := fun a ha => by
    cases e : s₂.heap.get? a with
    | none => rfl
    | some o' => exact absurd (Heap.lt_size e) (Nat.not_lt.mpr ha)
  have fresh₀ : ∀ a, s₂.heap.objs.size ≤ a → h₀.get? a = none := fun a ha => by
    cases e : h₀.get? a with
    | none => rfl
    | some o' => have := F.keep a o' e; rw [fresh a ha] at this; cases this
  have hD₀ : h₀.get? s₂.heap.objs.size = none := fresh₀ _ (Nat.le_refl _)
  have hC₀ : h₀.get? H2.objs.size = none := fresh₀ _ (by rw [hC]; exact Nat.le_succ _)
  have hLlt : L < s₂.heap.objs.size := F.ns.lt
  have hDL : s₂.heap.objs.size ≠ L := Ne.symm (below L hLlt).2
  have hCL : H2.objs.size ≠ L := Ne.symm (below L hLlt).1
  have offD : ∀ p ∈ news, p.1 ≠ s₂.heap.objs.size := fun p hp => (below _ (Heap.lt_size (N p hp).1)).2
  have offC : ∀ p ∈ news, p.1 ≠ H2.objs.size := fun p hp => (below _ (Heap.lt_size (N p hp).1)).1
  have frw : ∀ {h h' : Heap}, Fr h₀ L h m → (∀ b o, b ∉ wr → h.get? b = some o → h'.get? b = some o) → Fr h₀ L h' m := fun F' hk =>
    ⟨F'.ns.at' fun o e => hk L o hLw e, fun b o e => hk b o (fun hm => by rw [hwr b hm] at e; cases e) (F'.keep b o e), F'.above⟩
  have nww : ∀ {h h' : Heap}, News h₀ L h news → (∀ b o, b ∉ wr → h.get? b = some o → h'.get? b = some o) → News h₀ L h' news := fun N' hk p hp => ⟨hk _ _ (hnw p hp) (N' p hp).1, (N' p hp).2⟩
  have loop : ∀ s₃ : Shared, s₃ = { s₂ with heap := h₁, toks := s₂.toks + ([] : List (Str × Value)).length } →
      codeAny (model prog w) A (.compLoop (.ListComp elt [⟨.Tuple [.Name a pa, .Name b pb] kk tp, iter, [], 0⟩] scope pos) 0 (.ref I) (.ref s₂.heap.objs.size) (compEnvC scope cl H2.objs.size env))
        (RR (.ref s₂.heap.objs.size) H2.objs.size) s₃ := by
    rintro s₃ rfl
    refine codeAny_compLoop_pair
      (fun k s' => ∃ h' tk i ys m', s' = { s₂ with heap := h', toks := tk } ∧ i ≤ n ∧ k = n + 1 - i ∧ ys.length = i ∧ St i h' ∧ Fr h₀ L h' m ∧ h'.Ns H2.objs.size m' ∧ h'.get? s₂.heap.objs.size = some (lst ys) ∧ News h₀ L h' news ∧ IntsAre ys ((List.range i).map f)) ?_ (n + 1)
      ⟨h₁, _, 0, [], _, rfl, Nat.zero_le _, rfl, rfl, hst₁, F.keeps old, hns₁, hacc, fun p hp => ⟨old _ _ (N p hp).1, (N p hp).2⟩, .nil⟩
    rintro k s' ⟨h', tk, i, ys, m', rfl, hi, rfl, hyl, hst', F', hn', hl', N', hI'⟩
    by_cases hlt : i < n
    · refine W.item i _ _ _ hlt hst' fun T vals h₂ tk₂ hPt _ hT hMid hk₂ => ?_
      obtain ⟨v0, v1, rfl, hP2⟩ := h2 i vals hPt
      refine W.go _ kk tp i T _ _ _ hMid fun h₃ hst₃ hk₃ => ?_
      have hT₃ : h₃.IsTuple T #[v0, v1] := hT.at fun o e => hk₃ T o (W.apart i T h₂ hMid) e
      have hk23 : ∀ b o, b ∉ wr → h'.get? b = some o → h₃.get? b = some o := fun b o hb e => hk₃ b o hb (hk₂ b o hb e)
      have hn₃ : h₃.Ns (compEnvC scope cl H2.objs.size env).locals m' := hn'.at' fun o e => hk23 _ o hCw e
      refine kcp_assign hh hT₃ (lookup_relabel_local ha) (lookup_relabel_local hb) (by simp [compEnvC, relabel, hkind]) hn₃ fun h₄ tk₄ hn₄ hk₄ => ?_
      replace hn₄ : h₄.Ns H2.objs.size (fun z => if z = b then some v1 else if z = a then some v0 else m' z) := hn₄
      replace hk₄ : ∀ c o, c ≠ H2.objs.size → h₃.get? c = some o → h₄.get? c = some o := hk₄
      refine helt i v0 v1 H2.objs.size m' h₄ tk₄ _ _ hlt hP2 hn₄ fun t tk₅ => ?_
      have hl₄ : h₄.get? s₂.heap.objs.size = some (lst ys) := hk₄ _ _ hDC (hk23 _ _ hDw hl')
      refine append_at (hsz := by show ys.toArray.size ≤ sizeLine; rw [List.size_toArray, hyl]; exact Nat.le_trans hi hsz) hl₄ fun h₆ hs₆ hD₆ => ?_
      have F₃ := frw F' hk23
      have N₃ := nww N' hk23
      have hst₄ : St (i + 1) h₄ := W.frame _ _ _ hst₃ fun b hb o e => hk₄ b o (fun q => hCf (q ▸ hb)) e
      have F₄ : Fr h₀ L h₄ m := ⟨F₃.ns.at' fun o e => hk₄ L o (Ne.symm hCL) e, fun b o e => hk₄ b o (fun q => by rw [q, hC₀] at e; cases e) (F₃.keep b o e), F₃.above⟩
      refine ⟨n + 1 - (i + 1), by omega, h₆, tk₅, i + 1, ys ++ [.int (f i) t], _, rfl, hlt, rfl, by rw [List.length_append, List.length_singleton, hyl], W.frame _ _ _ hst₄ fun b hb o e => hs₆.extBut b o (fun q => hDf (q ▸ hb)) e, F₄.change hs₆ hDL hD₀,
        hn₄.sameBut hs₆ (Ne.symm hDC), hD₆.trans (congrArg some (lst_snoc ys _)), fun p hp => ⟨hs₆.extBut _ _ (offD p hp) (hk₄ _ _ (offC p hp) (N₃ p hp).1), (N₃ p hp).2⟩, ?_⟩
      rw [List.range_succ, List.map_append]
      exact IntsAre.append hI' (.cons _ _ .nil)
    · obtain rfl : i = n := Nat.le_antisymm hi (Nat.not_lt.mp hlt)
      refine W.done _ _ _ hst' fun h₂ tk₂ hk₂ => ?_
      refine hRR _ _ h₂ tk₂ _ ys (frw F' hk₂) (List.forall_mem_cons.mpr ⟨⟨hk₂ _ _ hDw hl', hDL, hD₀⟩, nww N' hk₂⟩) (fun p hp => Heap.lt_size (N p hp).1) (hn'.at' fun o e => hk₂ _ o hCw e) hC₀ hCL (Ne.symm hDC) offC hI'
  exact codeAny_compStart_list (loop _ rfl) (W.self 0 _ _ _ hst₁ (loop _ rfl))
end
end Mine
/-! part Ccosts -/
namespace Mine
open PyProof.Rows.LCg PyProof.Rows.LCp
set_option maxRecDepth 100000 in
set_option maxHeartbeats 8000000 in
theorem c_costs (w : World) (mean) (mg mb) (news) (x y : Str) (tx ty : Tok) (hx : x.length ≤ 10) (hy : y.length ≤ 10) : ConL 2 w mean mg mb 94 news [.str x tx, .str y ty] ((List.range (min x.length y.length)).map fun i => costs x y i i) := by
  k_with_none
  (k_with "mStop" => ((fail_if_success (with_reducible show wpAny _ _ (exec (Stmt.While _ _ _ _) _) _ _ _)); (fail_if_success (with_reducible show wpAny _ _ (exec (Stmt.For _ _ _ _ _) _) _ _ _)); (fail_if_success (with_reducible show wpAny _ _ (pyIter _) _ _ _)); (fail_if_success (with_reducible show InvEndN _ _ _ _ _ _ _)); (fail_if_success (with_reducible show wpAny _ _ (eval (Expr.ListComp _ _ _ _) _) _ _ _)); (fail_if_success (with_reducible show wpAny _ _ (call (Value.type "zip") _) _ _ _))))
  (k_with "mS" => repeat' (walk_at "mStop"; first | (k_unfold; (try dsimp only)) | walk1 | (dsimp only; walk1) | (leave1; try dsimp only)))
  (k_with "eval Name" => ((with_reducible show wpAny _ _ (eval (Expr.Name _ _) (compEnvC _ _ _ _)) _ _ _); refine ldVarK (by assumption) (by rfl) ?_))
  w_top off
  unfold ConL
  k_fill
  intro dp un gd cn cs a ccd cl outer A₀ base h₀ L m s Q E B F X N T hk hd hu hret
  refine wpAny_call ?_
  k_dflt cell_enter
  rename_i g1 L1 h1 FG1 F1 N1 B1 X1 T1
  walk_at "mS"
  rw [eval_ListComp]
  refine wpAny_comprehension_free (use := none) (cl := []) rfl (by intro _; rfl) rfl rfl (by decide) ?_
  refine wpAny_mono (Q := fun v s₁ => wpAny _ _ (pyIter v) _ _ s₁) (show wpAny _ _ (eval (Expr.Call _ _ _ _) _) _ _ _ from ?_) (fun _ _ x => x) (fun _ _ x => x)
  walk_at "mS"
  refine call_zipS ?_
  intro h2 hz hTI hTO hi1 hi2 hsz hkp
  dsimp only at hz hTI hTO hi1 hi2 hsz hkp ⊢
  refine wpAny_pyIter_zip hz ?_
  have hLlt : L1 < h1.objs.size := F1.ns.lt
  have fr : ∀ a, h1.objs.size ≤ a → g1.get? a = none := fun a ha => by
    cases e : g1.get? a with
    | none => rfl
    | some o => exact absurd (Heap.lt_size (F1.keep a o e)) (Nat.not_lt.mpr ha)
  have nlt : ∀ p ∈ news, p.1 < h1.objs.size := fun p hp => Heap.lt_size (N1 p hp).1
  refine pair_block (P2 := fun i v0 v1 => ∃ u0 u1, v0 = .str (Txt.item x (i : Int)) u0 ∧ v1 = .str (Txt.item y (i : Int)) u1) (f := fun i => costs x y i i) (news := news) (h₀ := g1) (L := L1)
    (walks_zipD (zap_of h1.objs.size) (draws_str rfl _ x tx) (draws_str rfl _ y ty)) ?h2 ?size (by decide) rfl rfl rfl rfl ⟨hz, hTI, ⟨_, _, hTO⟩, hi1, hi2⟩ ?hfp ?hwr ?hLw ?hnw (F1.keeps hkp) (fun p hp => ⟨hkp _ _ (N1 p hp).1, (N1 p hp).2⟩) ?helt ?hRR
  case h2 => rintro i vals ⟨v0, v1, ⟨u0, e0, _⟩, ⟨u1, e1, _⟩, rfl⟩; exact ⟨v0, v1, rfl, u0, u1, e0, e1⟩
  case size => rw [PySem.sizeLine_eq]; omega
  case hfp => intro b hb; show b < h2.objs.size; rw [hsz]; exact (mem_zip5 hb).2
  case hwr => intro b hb; exact fr b (mem_zip4 hb).1
  case hLw => intro hb; exact absurd hLlt (Nat.not_lt.mpr (mem_zip4 hb).1)
  case hnw => intro p hp hb; exact absurd (nlt p hp) (Nat.not_lt.mpr (mem_zip4 hb).1)
  case helt =>
    rintro i v0 v1 C u h tk E' Q' hi ⟨u0, u1, rfl, rfl⟩ hns hQ'
    have l0 : (Txt.item x (i : Int)).length = 1 := rfl
    have l1 : (Txt.item y (i : Int)).length = 1 := rfl
    have hc : costs x y i i = subCost (Txt.item x (i : Int)) (Txt.item y (i : Int)) := rfl
    rw [hc] at hQ'
    generalize Txt.item x (i : Int) = p at *
    generalize Txt.item y (i : Int) = q at *
    unfold subCost at hQ'
    walk_at "mS"
    · rename (p == q) = true => e
      rw [if_pos (by simpa using e)] at hQ'
      exact hQ' _ _
    · rename (p == q) = false => e
      rename (Txt.lower p == Txt.lower q) = true => e2
      rw [if_neg (by simpa using e), if_pos (by simpa using e2)] at hQ'
      exact hQ' _ _
    · rename (p == q) = false => e
      rename (Txt.lower p == Txt.lower q) = false => e2
      rw [if_neg (by simpa using e), if_neg (by simpa using e2)] at hQ'
      exact hQ' _ _
  case hRR =>
    intro D C h tk m' ys F2 N2 offD hn hC₀ hCL hCD offC hI
    refine ⟨m', hn, fun h'' hs'' => ?_⟩
    have F3 : Fr g1 L1 h'' _ := F2.change hs'' hCL hC₀
    have N3 : News g1 L1 h'' ((D, lst ys) :: news) := fun p hp => ⟨hs''.extBut _ _ (by
      rcases List.mem_cons.mp hp with rfl | hp
      · exact fun e => hCD e.symm
      · exact offC p hp) (N2 p hp).1, (N2 p hp).2⟩
    clear F2 N2 F1 N1
    dsimp only
    walk_at "mS"
    exact hret D ys _ _ _ hI offD (by assumption) (by assumption)
end Mine
/-! part Vals -/
namespace Mine
section
variable {prog : Program} {w : World} {A : Around} {E : Value → Shared → Prop} {s : Shared} {env : Env} {h₀ : Heap} {x : Str} {body : List Stmt} {Q : Flow → Shared → Prop}
/-- a loop over a made list of whatever values, by an invariant over the turn's number, the frame and the ledger -/
theorem iter_vals {l : Addr} {vs : List Value} {nn : Nat} {m₀ : Str → Option Value} {news : List (Addr × Obj)} (J : Nat → (Str → Option Value) → List (Addr × Obj) → Prop)
    (hh : A.handled = none) (hl : (l, PySem.W.listOf vs.toArray nn) ∈ news) (F : Fr h₀ env.locals s.heap m₀) (N : News h₀ env.locals s.heap news) (hj : J 0 m₀ news)
    (turn : ∀ i v m₁ news₁ h tk own, vs[i]? = some v → news₁.map (·.1) = news.map (·.1) → OwnOff own (news.map (·.1)) → (l, PySem.W.listOf vs.toArray nn) ∈ news₁ → J i m₁ news₁ → Fr h₀ env.locals h (fun y => if y = x then some v else m₁ y) → News h₀ env.locals h (news₁ ++ own) →
      wpAny (model prog w) A (execs body env) (InvPostN h₀ env.locals (fun m' nx => (l, PySem.W.listOf vs.toArray nn) ∈ nx ∧ J (i + 1) m' nx) own (news.map (·.1)) { s with heap := h, toks := tk } Q) E { s with heap := h, toks := tk })
    (done : ∀ m₁ news₁ h tk, (l, PySem.W.listOf vs.toArray nn) ∈ news₁ → J vs.length m₁ news₁ → Fr h₀ env.locals h m₁ → News h₀ env.locals h news₁ → Q .next { s with heap := h, toks := tk }) :
    wpAny (model prog w) A (pyIter (.ref l)) (fun it s₂ => LoopAtV prog w A h₀ env x body Q E it s₂) E s := by
  have hol : s.heap.get? l = some (PySem.W.listOf vs.toArray nn) := (N _ hl).1
  have hls : s.heap.IsList l vs.toArray := ⟨_, hol, rfl, nn, rfl⟩
  have hne : l ≠ s.heap.objs.size := Nat.ne_of_lt (Heap.lt_size hol)
  refine wpAny_pyIter_list hls ?_
  have W := Walks.list (prog := prog) (w := w) hh s.heap.objs.size l hne vs.toArray
  have hlen : vs.toArray.size = vs.length := by simp
  rw [hlen] at W
  refine ⟨_, _, _, vs.length, _, _, m₀, news, (fun i m nx => nx.map (·.1) = news.map (·.1) ∧ (l, PySem.W.listOf vs.toArray nn) ∈ nx ∧ J i m nx), rfl, W, ?_, ?_, ?_, ⟨⟨_, Heap.get?_push_size _ rfl, rfl, rfl⟩, hls.at fun o e => Heap.get?_push_of_some _ e⟩, F.push _, (fun p hp => ⟨Heap.get?_push_of_some _ (N p hp).1, (N p hp).2⟩), ⟨rfl, hl, hj⟩, ?_, ?_⟩
  · intro hm
    rcases List.mem_cons.mp hm with e | hm
    · exact absurd F.ns.lt (e ▸ Nat.lt_irrefl _)
    · exact (N _ hl).2.1 ((List.mem_singleton.mp hm).symm)
  · intro b hb
    rw [List.mem_singleton.mp hb]
    exact next_is_new F
  · intro p hp hI
    exact absurd (Heap.lt_size (N p hp).1) ((List.mem_singleton.mp hI) ▸ Nat.lt_irrefl _)
  · rintro i v m₁ news₁ s₁ own ⟨hh', tk', rfl⟩ hin hP ⟨hadr, hl₁, hJ⟩ hoff hown hget hfp _ F₁ N₁
    have hsep : OwnOff (own.filter fun p => decide (p.1 = s.heap.objs.size)) (news.map (·.1)) := by
      intro p hp b hb e
      obtain ⟨q, hq, rfl⟩ := List.mem_map.mp hb
      have h1 : p.1 = s.heap.objs.size := by simpa using (List.mem_filter.mp hp).2
      exact absurd (Heap.lt_size (N q hq).1) (by rw [← e, h1]; exact Nat.lt_irrefl _)
    have hP' : vs[i]? = some v := by simpa using hP
    have N₂ : News h₀ env.locals hh' (news₁ ++ own.filter fun p => decide (p.1 = s.heap.objs.size)) := fun p hp => N₁ p ((List.mem_append.mp hp).elim (fun h => List.mem_append.mpr (.inr h)) fun h => List.mem_append.mpr (.inl ((List.mem_filter.mp h).1)))
    have hlo : hh'.get? l = some (PySem.W.listOf vs.toArray nn) := (N₁ _ (List.mem_append.mpr (.inr hl₁))).1
    refine wpAny_mono (turn i v m₁ news₁ hh' tk' _ hP' hadr hsep hl₁ hJ F₁ N₂) (fun f s₂ p => ?_) fun _ _ e => e
    have fin : InvEndN h₀ env.locals (fun m' nx => (l, PySem.W.listOf vs.toArray nn) ∈ nx ∧ J (i + 1) m' nx) (own.filter fun p => decide (p.1 = s.heap.objs.size)) (news.map (·.1)) { s with heap := hh', toks := tk' } s₂ →
        LoopStepU h₀ env.locals [s.heap.objs.size] own (fun m nx => nx.map (·.1) = news.map (·.1) ∧ (l, PySem.W.listOf vs.toArray nn) ∈ nx ∧ J (i + 1) m nx) { s with heap := hh', toks := tk' } .next s₂ := by
      rintro ⟨h', tk, m', news', nx, e, F', N', hn, ho, ha, hm⟩
      refine ⟨rfl, h', tk, m', nx, e, F', fun p hp => ?_, fun p hp => ?_, ha, hm⟩
      · rcases List.mem_append.mp hp with h | h
        · by_cases hI : p.1 = s.heap.objs.size
          · exact N' p (ho p (List.mem_filter.mpr ⟨h, by simpa using hI⟩))
          · have h1 : p.1 = l := by
              rcases List.mem_cons.mp (hown p h) with h2 | h2
              · exact absurd h2 hI
              · exact List.mem_singleton.mp h2
            have h2 : hh'.get? p.1 = some p.2 := hget p h
            rw [h1, hlo] at h2
            have h3 : p = (l, PySem.W.listOf vs.toArray nn) := Prod.ext h1 (Option.some.inj h2).symm
            rw [h3]
            exact N' _ (hn _ hm.1)
        · exact N' p (hn p h)
      · intro hI
        have h1 : p.1 ∈ nx.map (·.1) := List.mem_map.mpr ⟨p, hp, rfl⟩
        rw [ha] at h1
        obtain ⟨q, hq, e2⟩ := List.mem_map.mp h1
        exact absurd (Heap.lt_size (N q hq).1) (by rw [e2, List.mem_singleton.mp hI]; exact Nat.lt_irrefl _)
    cases f with
    | ret v => exact .ret p
    | brk => exact .brk p
    | next => exact .next (fin p)
    | cont => exact .cont (fin p)
  · rintro h' tk m' news' F' N' _ ⟨_, hl', hJ⟩
    exact done m' news' h' tk hl' hJ F' N'
/-- the same over a state of one's own (the turn's number stands as a list of that many noughts) -/
theorem kst_vals {σ : Type} {l : Addr} {vs : List Value} {nn : Nat} {m₀ : Str → Option Value} (Led : σ → List (Addr × Obj)) (ps : σ → List (Str × Value)) (Facts : σ → Prop) (stored : List Str) (P : Nat → σ → Prop) (c₀ : σ)
    (hh : A.handled = none) (hl : ∀ c : σ, (l, PySem.W.listOf vs.toArray nn) ∈ Led c) (F : Fr h₀ env.locals s.heap m₀) (N : News h₀ env.locals s.heap (Led c₀)) (hf : Facts c₀) (hk : ∀ p ∈ ps c₀, m₀ p.1 = some p.2) (hp : P 0 c₀)
    (turn : ∀ (c : σ) i v (u : Str → Option Value) h tk own, vs[i]? = some v → OwnOff own ((Led c₀).map (·.1)) → Facts c → P i c →
      Fr h₀ env.locals h (fun y => if y = x then some v else kstB (fun z => if stored.contains z then u z else m₀ z) (ps c) y) → News h₀ env.locals h (Led c ++ own) →
      wpAny (model prog w) A (execs body env) (InvPostN h₀ env.locals (KstS Led ps Facts x stored m₀ (fun pre c => P pre.length c) (List.replicate (i + 1) 0)) own ((Led c₀).map (·.1)) { s with heap := h, toks := tk } Q) E { s with heap := h, toks := tk })
    (done : ∀ (c : σ) (u : Str → Option Value) h tk, Facts c → P vs.length c → Fr h₀ env.locals h (fun y => if y = x then u y else kstB (fun z => if stored.contains z then u z else m₀ z) (ps c) y) → News h₀ env.locals h (Led c) → Q .next { s with heap := h, toks := tk }) :
    wpAny (model prog w) A (pyIter (.ref l)) (fun it s₂ => LoopAtV prog w A h₀ env x body Q E it s₂) E s := by
  refine iter_vals (fun i m nx => KstS Led ps Facts x stored m₀ (fun pre c => P pre.length c) (List.replicate i 0) m nx) hh (hl c₀) F N ⟨c₀, rfl, hf, hk, fun _ _ _ _ => rfl, hp⟩ ?_ ?_
  · rintro i v m₁ nx h tk own hn _ hoff _ ⟨c, rfl, hf', h1, h2, hp'⟩ F₁ N₁
    refine wpAny_mono (turn c i v m₁ h tk own hn hoff hf' (by simpa using hp') (kst_fr h1 h2 F₁) N₁) (fun f s₂ p => ?_) fun _ _ x => x
    have up : InvEndN h₀ env.locals (KstS Led ps Facts x stored m₀ (fun pre c => P pre.length c) (List.replicate (i + 1) 0)) own ((Led c₀).map (·.1)) { s with heap := h, toks := tk } s₂ →
        InvEndN h₀ env.locals (fun m' nx => (l, PySem.W.listOf vs.toArray nn) ∈ nx ∧ KstS Led ps Facts x stored m₀ (fun pre c => P pre.length c) (List.replicate (i + 1) 0) m' nx) own ((Led c₀).map (·.1)) { s with heap := h, toks := tk } s₂ := by
      rintro ⟨h', tk', m', news', nx', e', F', N', hn', ho', ha, hS⟩
      refine ⟨h', tk', m', news', nx', e', F', N', hn', ho', ha, ?_, hS⟩
      obtain ⟨c', rfl, _⟩ := hS
      exact hl c'
    cases f with
    | ret v => exact p
    | brk => exact p
    | next => exact up p
    | cont => exact up p
  · rintro m₁ nx h tk _ ⟨c, rfl, hf', h1, h2, hp'⟩ F₁ N₁
    exact done c m₁ h tk hf' (by simpa using hp') (kst_frOut h1 h2 F₁) N₁
end
end Mine
/-! part LeastM -/
namespace Mine
theorem sum_range_map (f : Nat → Int) (n : Nat) : ((List.range n).map f).sum = sumTo f n := by
  induction n with
  | zero => simp [sumTo]
  | succ n ih => rw [List.range_succ, List.map_append, List.sum_append, ih]; simp [sumTo]
theorem sum_take (f : Nat → Int) {n a : Nat} (h : a ≤ n) : (((List.range n).map f).take a).sum = sumTo f a := by
  rw [← List.map_take, List.take_range, Nat.min_eq_left h, sum_range_map]
theorem sum_drop (f : Nat → Int) {n a : Nat} (h : a ≤ n) : (((List.range n).map f).drop a).sum = sumTo f n - sumTo f a := by
  have e := congrArg List.sum (List.take_append_drop a ((List.range n).map f))
  rw [List.sum_append, sum_take f h, sum_range_map] at e
  omega
theorem sum_run (f : Nat → Int) {n a b : Nat} (h : a ≤ b) (hb : b ≤ n) : ((((List.range n).map f).drop a).take (b - a)).sum = sumTo f b - sumTo f a := by
  have e : ((List.range n).map f).take b = ((List.range n).map f).take a ++ (((List.range n).map f).drop a).take (b - a) := by
    have := List.take_add (l := (List.range n).map f) (i := a) (j := b - a)
    rwa [show a + (b - a) = b by omega] at this
  have e2 := congrArg List.sum e
  rw [List.sum_append, sum_take f hb, sum_take f (by omega)] at e2
  omega
/-- the costs of a text without its first sign -/
theorem costs_left {x y : Str} (hx : x.length = 9) (hy : y.length = 9) : (List.map (fun i => costs (Txt.slice x (some 1) none) y i i) (List.range (min (Txt.slice x (some 1) none).length y.length))) = (List.range 8).map fun t => costs x y (t + 1) t := by
  have l := slice_from_len (x := x) (k := 1) (by omega) (by omega)
  rw [show min (Txt.slice x (some 1) none).length y.length = 8 by omega]
  refine List.map_congr_left fun i hi => ?_
  have hi' : i < 8 := List.mem_range.mp hi
  show subCost _ _ = subCost _ _
  rw [slice_from_item (by omega) (by omega) (by omega) (by omega)]
  congr 2; omega
theorem costs_right {x y : Str} (hx : x.length = 9) (hy : y.length = 9) : (List.map (fun i => costs x (Txt.slice y (some 1) none) i i) (List.range (min x.length (Txt.slice y (some 1) none).length))) = (List.range 8).map fun t => costs x y t (t + 1) := by
  have l := slice_from_len (x := y) (k := 1) (by omega) (by omega)
  rw [show min x.length (Txt.slice y (some 1) none).length = 8 by omega]
  refine List.map_congr_left fun i hi => ?_
  have hi' : i < 8 := List.mem_range.mp hi
  show subCost _ _ = subCost _ _
  rw [slice_from_item (x := y) (by omega) (by omega) (by omega) (by omega)]
  congr 2; omega
def P1 (S : List Int) (T : Nat → Nat → Int) (i : Nat) (told : List Int) : Prop := (∀ v, v ∈ told ↔ v ∈ S ∨ ∃ a b, a < i ∧ a ≤ b ∧ b < 9 ∧ v = T a b) ∧ told.length ≤ S.length + 10 * i
def P2 (S : List Int) (T : Nat → Nat → Int) (i k : Nat) (told : List Int) : Prop := (∀ v, v ∈ told ↔ v ∈ S ∨ ∃ b, i ≤ b ∧ b < i + k ∧ v = T i b) ∧ told.length ≤ S.length + k
theorem P1_start {S : List Int} {T : Nat → Nat → Int} : P1 S T ([] : List Int).length S := ⟨fun v => by simp, by simp⟩
theorem P2_start {S : List Int} {T : Nat → Nat → Int} {i : Nat} : P2 S T i ([] : List Int).length S := ⟨fun v => by simp; intros; omega, by simp⟩
theorem P2_step {S told : List Int} {T : Nat → Nat → Int} {i : Nat} {pre : List Int} {k v : Int} (h : P2 S T i pre.length told) (hv : v = T i (i + pre.length)) : P2 S T i (pre ++ [k]).length (told ++ [v]) := by
  refine ⟨fun u => ?_, by have := h.2; simp; omega⟩
  rw [List.mem_append, h.1 u, List.mem_singleton, List.length_append, List.length_singleton]
  constructor
  · rintro ((q | ⟨b, h1, h2, h3⟩) | rfl)
    · exact .inl q
    · exact .inr ⟨b, h1, by omega, h3⟩
    · exact .inr ⟨i + pre.length, by omega, by omega, hv⟩
  · rintro (q | ⟨b, h1, h2, h3⟩)
    · exact .inl (.inl q)
    · by_cases e : b = i + pre.length
      · subst e; exact .inr (h3.trans hv.symm)
      · exact .inl (.inr ⟨b, h1, by omega, h3⟩)
theorem P1_step {S told told' : List Int} {T : Nat → Nat → Int} {pre pre2 : List Int} {k : Int} (h : P1 S T pre.length told) (h2 : P2 told T pre.length pre2.length told') (hi : pre.length < 9) (hl : pre2.length = 9 - pre.length) : P1 S T (pre ++ [k]).length told' := by
  refine ⟨fun u => ?_, by have := h.2; have := h2.2; simp; omega⟩
  rw [h2.1 u, h.1 u, List.length_append, List.length_singleton]
  constructor
  · rintro ((q | ⟨a, b, h1, h2, h3, h4⟩) | ⟨b, h1, h2, h3⟩)
    · exact .inl q
    · exact .inr ⟨a, b, by omega, h2, h3, h4⟩
    · exact .inr ⟨pre.length, b, by omega, h1, by omega, h3⟩
  · rintro (q | ⟨a, b, h1, h2, h3, h4⟩)
    · exact .inl (.inl q)
    · by_cases e : a = pre.length
      · subst e; exact .inr ⟨b, h2, by omega, h4⟩
      · exact .inl (.inr ⟨a, b, by omega, h2, h3, h4⟩)
def InC (x y : Str) (U : Nat → Int) (v : Int) : Prop := ∃ a b, a ≤ b ∧ b < 9 ∧ v = cand (costs x y) U 9 a b
/-- one sum of the law's -/
theorem cand_eq {C : Nat → Nat → Int} {U : Nat → Int} {nsP nsU : List Int} {i j : Int} {a k : Nat} (hP : nsP = (List.range 9).map fun t => C t t) (hU : nsU = (List.range 8).map U) (hi : i = 0 + (a : Int)) (hj : j = i + (k : Int)) (hlt : a + k < 9) :
    4 + (nsP.take i.toNat).sum + ((nsU.drop i.toNat).take (min j.toNat nsU.length - i.toNat)).sum + (nsP.drop (j + 1).toNat).sum = cand C U 9 a (a + k) := by
  have e1 : i.toNat = a := by omega
  have e2 : j.toNat = a + k := by omega
  have e3 : (j + 1).toNat = a + k + 1 := by omega
  have e4 : nsU.length = 8 := by rw [hU]; simp
  rw [e1, e2, e3, e4, Nat.min_eq_left (by omega), hP, hU, sum_take _ (by omega), sum_run _ (by omega) (by omega), sum_drop _ (by omega)]
  rfl
end Mine
/-! part Cleast -/
namespace Mine
section
variable {α : Type} {P : α → Prop} {X V U T M : α} {n o : List α}
/-- the ledger in another order, and what of it is left: over letters, once -/
theorem led_drop {D : α} (h : ∀ z ∈ X :: V :: U :: D :: T :: M :: n, P z) : ∀ z ∈ X :: V :: U :: T :: M :: n, P z := fun z hz => h z (by
  simp only [List.mem_cons] at hz ⊢
  rcases hz with h | h | h | h | h | h <;> simp [h])
theorem led_one (h : ∀ z ∈ X :: V :: U :: T :: M :: n ++ o, P z) : ∀ z ∈ T :: U :: M :: V :: X :: (n ++ o), P z := fun z hz => h z (by
  simp only [List.mem_cons, List.mem_append, List.cons_append] at hz ⊢
  rcases hz with h | h | h | h | h | h | h <;> simp [h])
theorem led_two (h : ∀ z ∈ X :: V :: U :: T :: M :: n ++ o, P z) : ∀ z ∈ T :: V :: M :: U :: X :: (n ++ o), P z := fun z hz => h z (by
  simp only [List.mem_cons, List.mem_append, List.cons_append] at hz ⊢
  rcases hz with h | h | h | h | h | h | h <;> simp [h])
theorem sub_one (z : α) (hz : z ∈ o ∨ z ∈ n ∨ z = X ∨ z = V ∨ z = U) : z ∈ U :: M :: V :: X :: (n ++ o) := by
  simp only [List.mem_cons, List.mem_append]
  rcases hz with h | h | h | h | h <;> simp [h]
theorem sub_two (z : α) (hz : z ∈ o ∨ z ∈ n ∨ z = X ∨ z = V ∨ z = U) : z ∈ V :: M :: U :: X :: (n ++ o) := by
  simp only [List.mem_cons, List.mem_append]
  rcases hz with h | h | h | h | h <;> simp [h]
theorem in_old {D1 D2 D3 z : α} {R o2 : List α} (hz : z ∈ X :: V :: R) : z ∈ D1 :: D2 :: D3 :: T :: X :: V :: (R ++ o2) := by
  simp only [List.mem_cons, List.mem_append] at hz ⊢
  rcases hz with h | h | h <;> simp [h]
theorem in_own {D1 D2 D3 z : α} {R o2 : List α} (hz : z ∈ o2) : z ∈ D1 :: D2 :: D3 :: T :: X :: V :: (R ++ o2) := by
  simp only [List.mem_cons, List.mem_append]
  simp [hz]
theorem out_old {z : α} {R o2 : List α} (hz : z ∈ X :: V :: R) : z ∈ T :: X :: V :: (R ++ o2) := by
  simp only [List.mem_cons, List.mem_append] at hz ⊢
  rcases hz with h | h | h <;> simp [h]
theorem out_own {z : α} {R o2 : List α} (hz : z ∈ o2) : z ∈ T :: X :: V :: (R ++ o2) := by
  simp only [List.mem_cons, List.mem_append]
  simp [hz]
end
theorem told_size {a b c i k : Nat} {I : Int} (hc : c ≤ 100) (hb : b ≤ c + 10 * i) (ha : a ≤ b + k) (hi : i < 9) (hI : I = 0 + (i : Int)) (hk : k < (9 - I).toNat) : a ≤ 1000 := by omega
theorem told_place {i k : Nat} {I : Int} (hi : i < 9) (hI : I = 0 + (i : Int)) (hk : k < (9 - I).toNat) : i + k < 9 := by omega
theorem least_end {x y : Str} {ns nsP : List Int} {M : Int} (hP : ∀ v, v ∈ ns ↔ (1 ≤ 2 ∧ InC x y (fun t => costs x y (t + 1) t) v) ∨ (2 ≤ 2 ∧ InC x y (fun t => costs x y t (t + 1)) v)) (hn : nsP = List.map (fun i => costs x y i i) (List.range 9))
    (ha : M ∈ [nsP.sum] ++ ns) (hb : ∀ a, a ∈ [nsP.sum] ++ ns → M ≤ a) : IsLeast (costs x y) 9 M := by
  have hs : nsP.sum = sumTo (fun t => costs x y t t) 9 := by rw [hn, sum_range_map]
  have hin : ∀ v, v ∈ ns → M ≤ v := fun v hv => hb v (List.mem_append.mpr (.inr hv))
  refine ⟨?_, ?_, ?_, ?_⟩
  · rcases List.mem_append.mp ha with h | h
    · rw [List.mem_singleton.mp h]; exact .inl hs
    · rcases (hP M).mp h with ⟨_, a, b, h1, h2, h3⟩ | ⟨_, a, b, h1, h2, h3⟩
      · exact .inr (.inl ⟨a, b, h1, h2, h3⟩)
      · exact .inr (.inr ⟨a, b, h1, h2, h3⟩)
  · rw [← hs]; exact hb _ (List.mem_append.mpr (.inl (List.mem_singleton.mpr rfl)))
  · exact fun a b h1 h2 => hin _ ((hP _).mpr (.inl ⟨by omega, a, b, h1, h2, rfl⟩))
  · exact fun a b h1 h2 => hin _ ((hP _).mpr (.inr ⟨by omega, a, b, h1, h2, rfl⟩))
theorem tell_one {x y : Str} {ns told' : List Int} (hP : ∀ (v : Int), v ∈ ns ↔ (1 ≤ 0 ∧ InC x y (fun t => costs x y (t + 1) t) v) ∨ (2 ≤ 0 ∧ InC x y (fun t => costs x y t (t + 1)) v)) (hl : ns.length ≤ 100 * 0) (h : P1 ns (cand (costs x y) (fun t => costs x y (t + 1) t) 9) 9 told') :
    (∀ v, v ∈ told' ↔ (1 ≤ 0 + 1 ∧ InC x y (fun t => costs x y (t + 1) t) v) ∨ (2 ≤ 0 + 1 ∧ InC x y (fun t => costs x y t (t + 1)) v)) ∧ told'.length ≤ 100 * (0 + 1) := by
  refine ⟨fun v => ?_, by have := h.2; omega⟩
  rw [h.1 v, hP v]
  constructor
  · rintro (q | ⟨a, b, _, h2, h3, h4⟩)
    · omega
    · exact .inl ⟨by omega, a, b, h2, h3, h4⟩
  · rintro (⟨_, a, b, h2, h3, h4⟩ | q)
    · exact .inr ⟨a, b, by omega, h2, h3, h4⟩
    · omega
theorem tell_two {x y : Str} {ns told' : List Int} (hP : ∀ (v : Int), v ∈ ns ↔ (1 ≤ 0 + 1 ∧ InC x y (fun t => costs x y (t + 1) t) v) ∨ (2 ≤ 0 + 1 ∧ InC x y (fun t => costs x y t (t + 1)) v)) (hl : ns.length ≤ 100 * (0 + 1)) (h : P1 ns (cand (costs x y) (fun t => costs x y t (t + 1)) 9) 9 told') :
    (∀ v, v ∈ told' ↔ (1 ≤ 0 + 1 + 1 ∧ InC x y (fun t => costs x y (t + 1) t) v) ∨ (2 ≤ 0 + 1 + 1 ∧ InC x y (fun t => costs x y t (t + 1)) v)) ∧ told'.length ≤ 100 * (0 + 1 + 1) := by
  refine ⟨fun v => ?_, by have := h.2; omega⟩
  rw [h.1 v, hP v]
  constructor
  · rintro ((⟨_, q⟩ | q) | ⟨a, b, _, h2, h3, h4⟩)
    · exact .inl ⟨by omega, q⟩
    · omega
    · exact .inr ⟨by omega, a, b, h2, h3, h4⟩
  · rintro (⟨_, q⟩ | ⟨_, a, b, h2, h3, h4⟩)
    · exact .inl (.inl ⟨by omega, q⟩)
    · exact .inr ⟨a, b, by omega, h2, h3, h4⟩
set_option maxRecDepth 100000 in
set_option maxHeartbeats 8000000 in
theorem c_least (w : World) (mean) (mg mb) (news) (x y : Str) (tx ty : Tok) (hx : x.length = 9) (hy : y.length = 9) : Con 4 w mean mg mb 101 news [.str x tx, .str y ty] (fun v => ∃ r t, v = .int r t ∧ IsLeast (costs x y) 9 r) := by
  k_with_none
  (k_with "mSameF" => (intro z h1 h2 h3; simp only [List.forall_mem_cons, List.not_mem_nil, false_implies, implies_true, and_true, ne_eq] at h2; simp only [List.contains_cons, List.contains_nil, Bool.or_false, Bool.or_eq_false_iff, beq_eq_false_iff_ne, ne_eq] at h3; simp [h1, h2, h3, kstB]))
  (k_with "mStop" => ((fail_if_success (with_reducible show wpAny _ _ (exec (Stmt.While _ _ _ _) _) _ _ _)); (fail_if_success (with_reducible show wpAny _ _ (exec (Stmt.For _ _ _ _ _) _) _ _ _)); (fail_if_success (with_reducible show wpAny _ _ (pyIter _) _ _ _)); (fail_if_success (with_reducible show InvEndN _ _ _ _ _ _ _)); (fail_if_success (with_reducible show wpAny _ _ (call (Value.ref 94) _) _ _ _)); (fail_if_success (with_reducible show wpAny _ _ (call (Value.type "range") [_, _]) _ _ _))))
  (k_with "mS" => repeat' (walk_at "mStop"; first | (k_unfold; (try dsimp only)) | walk1 | (dsimp only; walk1) | (leave1; try dsimp only)))
  w_top off
  unfold Con
  k_fill
  intro dp un gd cn cs a ccd cl outer A₀ base h₀ L m s Q E B F X N T hk hd hu hret
  refine wpAny_call ?_
  k_dflt cell_enter
  rename_i g1 L1 h1 FG1 F1 N1 B1 X1 T1
  walk_at "mS"
  k_dflt (refine' c_costs _ _ _ _ _ _ _ _ _ ?l1 ?l2 _ _ _ _ _ _ _ _ _ _ _ _ _ _ _ _ _ ?b ?f ?x ?n ?t ?hk ?hd ?hu ?_)
  (case l1 => omega); (case l2 => omega); (case b => k_asm); (case f => k_asm); (case x => k_asm); (case n => k_asm); (case t => k_asm); (case hk => exact rfl); (case hd => first | ktr_room | omega); (case hu => first | ktr_units | omega)
  intro lP ysP eP hA tkA hiP ltP FA NA
  obtain ⟨nsP, hnP⟩ : ∃ z, z = List.map (fun i => costs x y i i) (List.range (min x.length y.length)) := ⟨_, rfl⟩
  rw [← hnP] at hiP
  rw [show min x.length y.length = 9 by omega] at hnP
  have hlP : nsP.length = 9 := by rw [hnP]; simp
  walk_at "mS"
  rename_i lT _ hT1 lD _ hT2 _ _ _ FT NT
  walk1
  walk_at "mS"
  k_dflt (refine' c_costs _ _ _ _ _ _ _ _ _ ?l1 ?l2 _ _ _ _ _ _ _ _ _ _ _ _ _ _ _ _ _ ?b ?f ?x ?n ?t ?hk ?hd ?hu ?_)
  (case l1 => omega); (case l2 => omega); (case b => k_asm); (case f => k_asm); (case x => k_asm); (case n => k_asm); (case t => k_asm); (case hk => exact rfl); (case hd => first | ktr_room | omega); (case hu => first | ktr_units | omega)
  intro lU ysU eU hB tkB hiU ltU FB NB
  rw [costs_left hx hy] at hiU
  obtain ⟨nsU, hnU⟩ : ∃ z, z = List.map (fun t => costs x y (t + 1) t) (List.range 8) := ⟨_, rfl⟩
  rw [← hnU] at hiU
  have hlU : nsU.length = 8 := by rw [hnU]; simp
  walk_at "mS"
  k_dflt (refine' c_costs _ _ _ _ _ _ _ _ _ ?l1 ?l2 _ _ _ _ _ _ _ _ _ _ _ _ _ _ _ _ _ ?b ?f ?x ?n ?t ?hk ?hd ?hu ?_)
  (case l1 => omega); (case l2 => omega); (case b => k_asm); (case f => k_asm); (case x => k_asm); (case n => k_asm); (case t => k_asm); (case hk => exact rfl); (case hd => first | ktr_room | omega); (case hu => first | ktr_units | omega)
  intro lV ysV eV hC tkC hiV ltV FC NC
  rw [costs_right hx hy] at hiV
  obtain ⟨nsV, hnV⟩ : ∃ z, z = List.map (fun t => costs x y t (t + 1)) (List.range 8) := ⟨_, rfl⟩
  rw [← hnV] at hiV
  have hlV : nsV.length = 8 := by rw [hnV]; simp
  walk_at "mS"
  · rename_i lX _ FX NX hX
    have hnT : ∀ p ∈ news, p.1 ≠ lT := fun p hp => Nat.ne_of_lt (kst_ltOf hT1.2 p hp)
    refine kst_vals (σ := List Value × List Int × Nat) (vs := [.ref lU, .ref lV]) (nn := 0)
      (fun c => (lX, PySem.W.listOf #[Value.ref lU, Value.ref lV] 0) :: (lV, PySem.W.listOf ysV.toArray eV) :: (lU, PySem.W.listOf ysU.toArray eU) :: (lT, PySem.W.listOf c.1.toArray c.2.2) :: (lP, PySem.W.listOf ysP.toArray eP) :: news)
      (fun _ => []) (fun c => IntsAre c.1 c.2.1) [Str.ofString "i", Str.ofString "j"]
      (fun i c => (∀ v, v ∈ c.2.1 ↔ (1 ≤ i ∧ InC x y (fun t => costs x y (t + 1) t) v) ∨ (2 ≤ i ∧ InC x y (fun t => costs x y t (t + 1)) v)) ∧ c.2.1.length ≤ 100 * i) ([], [], 0) rfl (fun c => List.Mem.head _) FX ?N .nil (fun _ hp => nomatch hp) ?P0 ?turn ?done
    case N => exact led_drop NX
    case P0 => exact ⟨fun v => by simp, by simp⟩
    case turn =>
      rintro ⟨vs, ns, ev⟩ i v u h tk own hv hoff hI ⟨hP, hlen⟩ F5 N5
      clear FX NX
      dsimp only at hI hP hlen F5 N5
      have key : ∃ (lM : Addr) (ysM : List Value) (eM : Nat) (nsM : List Int) (U : Nat → Int) (R : List (Addr × Obj)), v = .ref lM ∧ IntsAre ysM nsM ∧ nsM = (List.range 8).map U ∧ lT < lM ∧
          (∀ p ∈ R, p.1 ≠ lT) ∧ News g1 L1 h ((lT, PySem.W.listOf vs.toArray ev) :: (lM, PySem.W.listOf ysM.toArray eM) :: (lP, PySem.W.listOf ysP.toArray eP) :: R) ∧ i ≤ 1 ∧
          (∀ p, p ∈ own ∨ p ∈ news ∨ p = (lX, PySem.W.listOf #[Value.ref lU, Value.ref lV] 0) ∨ p = (lV, PySem.W.listOf ysV.toArray eV) ∨ p = (lU, PySem.W.listOf ysU.toArray eU) → p ∈ (lM, PySem.W.listOf ysM.toArray eM) :: (lP, PySem.W.listOf ysP.toArray eP) :: R) ∧
          (∀ told', P1 ns (cand (costs x y) U 9) 9 told' → (∀ v, v ∈ told' ↔ (1 ≤ i + 1 ∧ InC x y (fun t => costs x y (t + 1) t) v) ∨ (2 ≤ i + 1 ∧ InC x y (fun t => costs x y t (t + 1)) v)) ∧ told'.length ≤ 100 * (i + 1)) := by
        have hoT : ∀ p ∈ own, p.1 ≠ lT := fun p hp => hoff p hp lT (by simp)
        have hXT : lT < lX := hX.2.2.2.1
        have hUT : lT < lU := ltU _ (List.Mem.tail _ (List.Mem.head _))
        have hVT : lT < lV := ltV _ (List.Mem.tail _ (List.Mem.tail _ (List.Mem.head _)))
        rcases i with _ | _ | i
        · refine ⟨lU, ysU, eU, nsU, fun t => costs x y (t + 1) t, (lV, PySem.W.listOf ysV.toArray eV) :: (lX, PySem.W.listOf #[Value.ref lU, Value.ref lV] 0) :: (news ++ own), (Option.some.inj hv).symm, hiU, hnU, hUT, ?_, ?_, by omega, ?_, ?_⟩
          · exact List.forall_mem_cons.mpr ⟨Nat.ne_of_gt hVT, List.forall_mem_cons.mpr ⟨Nat.ne_of_gt hXT, all_ne_app hnT hoT⟩⟩
          · exact led_one N5
          · exact sub_one
          · exact fun t ht => tell_one hP hlen ht
        · refine ⟨lV, ysV, eV, nsV, fun t => costs x y t (t + 1), (lU, PySem.W.listOf ysU.toArray eU) :: (lX, PySem.W.listOf #[Value.ref lU, Value.ref lV] 0) :: (news ++ own), (Option.some.inj hv).symm, hiV, hnV, hVT, ?_, ?_, by omega, ?_, ?_⟩
          · exact List.forall_mem_cons.mpr ⟨Nat.ne_of_gt hUT, List.forall_mem_cons.mpr ⟨Nat.ne_of_gt hXT, all_ne_app hnT hoT⟩⟩
          · exact led_two N5
          · exact sub_two
          · exact fun t ht => tell_two hP hlen ht
        · simp at hv
      obtain ⟨lM, ysM, eM, nsM, U, R, rfl, hiM, hnM, hTM, hR, N6, hi1, hsub, hstep⟩ := key
      have hlM : nsM.length = 8 := by rw [hnM]; simp
      have hPT : lP < lT := hT1.1
      clear N5 hP hv hiU hiV hnU hnV hlU hlV
      have hns : ns.length ≤ 100 := by omega
      refine wp_genQ ?_
      intro Qt hQt
      walk_at "mS"
      rename (Fr _ _ _ _) => F10
      with_unfolding_all refine For_invVF F10 rfl rfl ?_
      walk_at "mS"
      · (k_with "state" => first | exact P1_start | exact P2_start)
        k_state (fun (pre : List Int) (told : List Int) => P1 ns (cand (costs x y) U 9) pre.length told) "told"
        · have hl1 := kInv.2
          rename_i vs1 ns1 ev1 _ _ _
          refine wp_genQ ?_
          intro Qo hQo
          walk_at "mS"
          rename (Fr _ _ _ _) => F11
          with_unfolding_all refine For_invVF F11 rfl rfl ?_
          walk_at "mS"
          rename (Fr _ _ _ _) => F12
          rename (News _ _ _ _) => N12
          with_unfolding_all refine range2_rows F12 N12 ?_
          intro _ _ _ _ _ _ _ _ _
          walk_at "mS"
          · have kEq1 := kEq
            have kInv1 := kInv
            have kLt1 : kPre.length < 9 := by omega
            k_state (fun (pre2 : List Int) (told : List Int) => P2 ns1 (cand (costs x y) U 9) kPre.length pre2.length told) "told"
            · have hsz := told_size hns hl1 kInv.2 kLt1 kEq1 kLt
              have hsv := Nat.le_trans (Nat.le_of_eq kFacts.length) hsz
              have hjk := told_place kLt1 kEq1 kLt
              refine wp_gen ?_
              intro Qi Ei hQi
              walk_at "mS"
              k_here
              k_dflt (refine' append_K ?k1 ?k2 ?k3 ?_ ?z)
              case k1 => k_asm
              case k2 => k_asm
              case k3 => exact Upd.tail (by k_ne) (Upd.tail (by k_ne) (Upd.tail (by k_ne) (Upd.head (List.forall_mem_cons.mpr ⟨Nat.ne_of_gt hTM, List.forall_mem_cons.mpr ⟨Nat.ne_of_lt hPT, by k_all⟩⟩))))
              case z => size_fits
              intro h' F' N'
              walk_at "mS"
              refine hQi _ _ ?_
              walk_at "mS"
              (rename (News _ _ _ _) => nE)
              simp only [List.push_toArray] at nE
              refine kst_end ⟨_, _, _⟩ (by assumption) nE (List.forall_mem_cons.mpr ⟨by k_memK, fun p hp => in_old hp⟩) (fun p hp => in_own hp) rfl (IntsAre.append kFacts (.cons _ _ .nil)) (fun _ hp => nomatch hp) (by walk_at "mSameF") ?_
              · exact P2_step kInv (cand_eq (C := costs x y) hnP hnM kEq1 kEq hjk)
            · walk_at "mS"
              refine hQo _ _ ?_
              walk_at "mS"
              refine kst_end ⟨_, _, _⟩ (by assumption) (by assumption) (List.forall_mem_cons.mpr ⟨List.Mem.head _, fun p hp => out_old hp⟩) (fun p hp => out_own hp) rfl kFacts (fun _ hp => nomatch hp) (by walk_at "mSameF") ?_
              · exact P1_step kInv1 kInv kLt1 (by rw [rangeKs_length]; omega)
        · walk_at "mS"
          refine hQt _ _ ?_
          walk_at "mS"
          refine kst_end ⟨_, _, _⟩ (by assumption) (by assumption) (List.forall_mem_cons.mpr ⟨.tail _ (hsub _ (by simp)), List.forall_mem_cons.mpr ⟨.tail _ (hsub _ (by simp)), List.forall_mem_cons.mpr ⟨.tail _ (hsub _ (by simp)), List.forall_mem_cons.mpr ⟨.head _, List.forall_mem_cons.mpr ⟨.tail _ (.tail _ (.head _)), fun p hp => .tail _ (hsub _ (.inr (.inl hp)))⟩⟩⟩⟩⟩) (fun p hp => .tail _ (hsub _ (.inl hp))) rfl kFacts (fun _ hp => nomatch hp) (by walk_at "mSameF") ?_
          rw [rangeKs_length] at kInv
          have e : (List.replicate (i + 1) (0 : Int)).length = i + 1 := List.length_replicate
          dsimp only
          rw [e]
          exact hstep _ kInv
    case done =>
      rintro ⟨vs, ns, ev⟩ u h tk hI ⟨hP, hlen⟩ F5 N5
      clear FX NX
      dsimp only at hI hP hlen F5 N5 ⊢
      walk_at "mS"
      rename (News h₀ L _ _) => kN
      rename (Fr h₀ L _ _) => kF
      rename (_ ∈ _) => hmin
      rename (∀ (a : Int), a ∈ [nsP.sum] ++ ns → _ ≤ a) => hlow
      exact hret _ _ _ ⟨_, _, rfl, least_end hP hnP hmin hlow⟩ kF (fun p hp => kN p (by repeat (first | exact hp | apply List.Mem.tail)))
end Mine
/-! part EnumT -/
namespace Mine
open PyProof.Rows.LCg PyProof.Rows.LCp
section
variable {prog : Program} {w : World} {A : Around} {E : Value → Shared → Prop} {s : Shared}
/-- one draw of a tuple's iterator -/
theorem nextOf_tup_item {it l : Addr} {i : Nat} {items : Array Value} {x : Value} {Q : Value → Shared → Prop} (hit : s.heap.IsTupleIter it l i) (hl : s.heap.IsTuple l items) (hx : items[i]? = some x)
    (hQ : ∀ h', h'.IsTupleIter it l (i + 1) → Heap.SameBut it s.heap h' → Q x { s with heap := h' }) : wpAny (model prog w) A (Builtin.SmallTypes.nextOf (.ref it)) Q E s := by
  obtain ⟨o, ho, hc, hd⟩ := id hit
  obtain ⟨ol, hol, _, nl, hdl⟩ := hl
  unfold Builtin.SmallTypes.nextOf
  refine wpAny_bind (wpAny_callSpecial?_slot (name := Str.ofString "__next__") hit.typeIs F.slot_tuple_iterator_next
    (wpAny_call_entry F.slot_tuple_iterator_next hit.typeIs F.entry_tuple_iterator_next ?_ (F.args_tuple_iterator_next_1 _)))
  show wpAny _ _ (field (.ref it) 0 >>= _) _ _ s
  refine wpAny_bind (wpAny_field ho hd (x := .ref l) rfl ?_)
  show wpAny _ _ (if (Value.ref l == Value.none) = true then _ else _) _ _ s
  rw [if_neg (show ¬ ((Value.ref l == Value.none) = true) from Bool.false_ne_true)]
  show wpAny _ _ (field (.ref it) 1 >>= _) _ _ s
  refine wpAny_bind (wpAny_field ho hd (x := .int i 0) rfl ?_)
  show wpAny _ _ (seqItems? (.ref l) >>= _) _ _ s
  refine wpAny_bind (wpAny_seqItems hol hdl ?_)
  simp only [Int.toNat_natCast, hx]
  refine wpAny_bind (wpAny_setField ho hd (by simp) (wpAny_pure ⟨x, rfl, wpAny_pure (hQ _ ?_ (Heap.SameBut.update ..))⟩))
  exact ⟨_, Heap.get?_update_self _ ho (Obj.isFreed_of_fields (Obj.data_mapFields hd _)), (Obj.cls_mapFields ..).trans hc, by
    rw [Obj.data_mapFields hd]; simp [rawInt]⟩
theorem nextOf_tup_end {it l : Addr} {i : Nat} {items : Array Value} {Q : Value → Shared → Prop} (hh : A.handled = none) (hit : s.heap.IsTupleIter it l i) (hl : s.heap.IsTuple l items) (hx : items[i]? = none)
    (hE : ∀ h' e, Heap.ExtBut it s.heap h' → (∃ o, h'.get? e = some o ∧ o.cls = .type "StopIteration") → E (.ref e) { s with heap := h' }) : wpAny (model prog w) A (Builtin.SmallTypes.nextOf (.ref it)) Q E s := by
  obtain ⟨o, ho, hc, hd⟩ := id hit
  obtain ⟨ol, hol, _, nl, hdl⟩ := hl
  unfold Builtin.SmallTypes.nextOf
  refine wpAny_bind (wpAny_callSpecial?_slot (name := Str.ofString "__next__") hit.typeIs F.slot_tuple_iterator_next
    (wpAny_call_entry F.slot_tuple_iterator_next hit.typeIs F.entry_tuple_iterator_next ?_ (F.args_tuple_iterator_next_1 _)))
  show wpAny _ _ (field (.ref it) 0 >>= _) _ _ s
  refine wpAny_bind (wpAny_field ho hd (x := .ref l) rfl ?_)
  show wpAny _ _ (if (Value.ref l == Value.none) = true then _ else _) _ _ s
  rw [if_neg (show ¬ ((Value.ref l == Value.none) = true) from Bool.false_ne_true)]
  show wpAny _ _ (field (.ref it) 1 >>= _) _ _ s
  refine wpAny_bind (wpAny_field ho hd (x := .int i 0) rfl ?_)
  show wpAny _ _ (seqItems? (.ref l) >>= _) _ _ s
  refine wpAny_bind (wpAny_seqItems hol hdl ?_)
  simp only [Int.toNat_natCast, hx]
  refine wpAny_bind (wpAny_rule (wpAny_bind (wpAny_setField ho hd (by simp) ?_)))
  show wpAny _ _ (newExc (.type "StopIteration") [] >>= _) _ _ _
  refine wpAny_bind ?_
  simp only [newExc, newTuple]
  refine wpAny_bind (wpAny_newObj_type ?_ (by size_fits))
  refine wpAny_bind (m := firstArgMember _ _) (wpAny_of_eq (a := Value.none) (by first | rfl | (simp only [firstArgMember]; rfl)) ?_)
  refine wpAny_newObj_type ?_ (by size_fits)
  simp only [raiseNew]
  refine wpAny_bind (wpAny_handled ?_)
  first | rw [show A.in1.handled = none from hh] | rw [hh]
  refine wpAny_bind (wpAny_pure (wpAny_throw ?_))
  exact hE _ _ (((Heap.SameBut.update ..).extBut.push _).push _) ⟨_, Heap.get?_push_size _ rfl, rfl⟩
end
theorem draws_tup {prog : Program} {w : World} {A : Around} (hh : A.handled = none) (it l : Addr) (hne : l ≠ it) (items : Array Value) :
    Draws prog w A it [it, l] items.size (fun i v => items[i]? = some v) (fun i h => h.IsTupleIter it l i ∧ h.IsTuple l items) where
  live := fun _ _ st => let ⟨o, ho, _⟩ := st.1; ⟨o, ho⟩
  frame := fun _ _ _ st hk => ⟨let ⟨o, ho, r⟩ := st.1; ⟨o, hk it (by simp) o ho, r⟩, let ⟨o, ho, r⟩ := st.2; ⟨o, hk l (by simp) o ho, r⟩⟩
  item := fun i s Q E hi st hQ => by
    refine nextOf_tup_item st.1 st.2 (x := items[i]) (by simp [hi]) fun h' hit' hs' => ?_
    exact hQ _ h' s.toks (by simp [hi]) ⟨hit', st.2.extBut hs'.extBut hne⟩ hs'
  done := fun s Q E st hE => nextOf_tup_end hh st.1 st.2 (by simp) hE
set_option maxHeartbeats 1000000 in
theorem meets_enumerate_newT (l : Addr) (items : Array Value) :
    Meets (Builtin.«enumerate.__new__» ⟨[.type "enumerate", .ref l], []⟩) (fun _ R s => s.heap.IsTuple l items ∧
      R (.ok (.ret (.ref (s.heap.push { cls := .type "tuple_iterator", data := .fields #[.ref l, .int 0 0] }).objs.size)))
        { s with heap := (s.heap.push { cls := .type "tuple_iterator", data := .fields #[.ref l, .int 0 0] }).push { cls := .type "enumerate", data := .fields #[.none, .bool false, .ref s.heap.objs.size, rawInt 0, .none, .none] } }) :=
  .of_wp fun prog w A R s h => by
    obtain ⟨hp, g, d, tk, os⟩ := s; obtain ⟨hL, h⟩ := h
    have hsub := sub_enumerate
    have hL' : Heap.IsTuple (Shared.heap ⟨hp, g, d, tk, os⟩) l items := hL
    obtain ⟨o, ho, _⟩ := hL
    wp_walk using wpAny_loadPart' ho
    refine wpAny_stack_any fun st => wpAny_pure ?_
    split
    · rename_i c _ _ _ _ _
      cases (c == Value.type "enumerate")
      · wp_walk using wpAny_loadPart' ho, wpAny_pyIter_tuple hL'
        exact ⟨_, rfl, h⟩
      · wp_walk using wpAny_loadPart' ho, wpAny_pyIter_tuple hL'
        exact ⟨_, rfl, h⟩
    · wp_walk using wpAny_loadPart' ho, wpAny_pyIter_tuple hL'
      exact ⟨_, rfl, h⟩
section
variable {prog : Program} {w : World} {A : Around} {E : Value → Shared → Prop} {s : Shared}
theorem call_enumerate_tup {l : Addr} {items : Array Value} {Q : Value → Shared → Prop} (hL : s.heap.IsTuple l items)
    (h : ∀ h', IsEnum h' (s.heap.objs.size + 1) s.heap.objs.size 0 .none → h'.IsTupleIter s.heap.objs.size l 0 → h'.objs.size = s.heap.objs.size + 2 →
      (∀ b o, s.heap.get? b = some o → h'.get? b = some o) → Q (.ref (s.heap.objs.size + 1)) { s with heap := h' }) :
    wpAny (model prog w) A (call (.type "enumerate") [.ref l]) Q E s := by
  refine callType_new F.called_enumerate (by decide) (F.typeCall_enumerate_1 _) (F.newCall_enumerate_1 _) (fun obj => F.args_object_init_2 obj _) F.entry_enumerate_new
    (meets_enumerate_newT l items) ⟨hL, ?_⟩
  have hz : (s.heap.push { cls := .type "tuple_iterator", data := .fields #[.ref l, .int 0 0] }).objs.size = s.heap.objs.size + 1 := Heap.size_push ..
  show _ ∧ _
  rw [hz]
  have he : IsEnum ((s.heap.push { cls := .type "tuple_iterator", data := .fields #[.ref l, .int 0 0] }).push
      { cls := .type "enumerate", data := .fields #[.none, .bool false, .ref s.heap.objs.size, rawInt 0, .none, .none] }) (s.heap.objs.size + 1) s.heap.objs.size 0 .none := by
    have := Heap.get?_push_size (s.heap.push { cls := .type "tuple_iterator", data := .fields #[.ref l, .int 0 0] })
      (o := { cls := .type "enumerate", data := .fields #[.none, .bool false, .ref s.heap.objs.size, rawInt 0, .none, .none] }) rfl
    rw [hz] at this; exact this
  refine ⟨⟨_, he, rfl⟩, h _ he ⟨_, Heap.get?_push_of_some _ (Heap.get?_push_size _ rfl), rfl, rfl⟩ (by rw [Heap.size_push, hz]) fun b o x => Heap.get?_push_of_some _ (Heap.get?_push_of_some _ x)⟩
end
end Mine
/-! part Search -/
namespace Mine
/-- pairs of an int and a sign, each at its address -/
def PairsAt (h : Heap) : List Addr → List (Int × Nat) → Prop
  | [], [] => True
  | a :: as, p :: r => (∃ t u, IsTup h a #[.int p.1 t, .str ⟨#[p.2]⟩ u]) ∧ PairsAt h as r
  | _, _ => False
def TabAt (h : Heap) (T : Addr) (ps : List (Int × Nat)) : Prop := ∃ as : List Addr, IsTup h T (as.map Value.ref).toArray ∧ PairsAt h as ps
theorem pairsAt_get {h : Heap} : ∀ {as : List Addr} {ps : List (Int × Nat)}, PairsAt h as ps → as.length = ps.length ∧ ∀ (i : Nat) (a : Addr), as[i]? = some a → ∃ p : Int × Nat, ps[i]? = some p ∧ ∃ t u, IsTup h a #[.int p.1 t, .str ⟨#[p.2]⟩ u]
  | [], [], _ => ⟨rfl, fun i a e => by simp at e⟩
  | [], _ :: _, h => (show False from h).elim
  | _ :: _, [], h => (show False from h).elim
  | a :: as, p :: r, h => by
    obtain ⟨h1, h2⟩ := h
    obtain ⟨e, f⟩ := pairsAt_get h2
    refine ⟨by simp [e], fun i b hb => ?_⟩
    cases i with
    | zero => exact ⟨p, rfl, by simp at hb; subst hb; exact h1⟩
    | succ i => simpa using f i b (by simpa using hb)
theorem find_first {α : Type} {f : α → Bool} : ∀ {l : List α} {i : Nat} {x : α}, l[i]? = some x → (∀ j y, j < i → l[j]? = some y → f y = false) → f x = true → l.find? f = some x
  | [], i, x, h, _, _ => by simp at h
  | a :: r, 0, x, h, _, hx => by simp at h; subst h; simp [List.find?, hx]
  | a :: r, i + 1, x, h, hp, hx => by
    rw [List.find?_cons_of_neg (by rw [hp 0 a (by omega) rfl]; simp)]
    exact find_first (by simpa using h) (fun j y hj hy => hp (j + 1) y (by omega) (by simpa using hy)) hx
section
variable {prog : Program} {w : World} {A : Around} {E : Value → Shared → Prop} {s : Shared} {env : Env} {h₀ : Heap}
/-- a search through a standing table of pairs, with its else -/
theorem For_search {xb xc : Str} {pb pc pt pos : Pos} {x1 : Nat} {iter : PySem.Expr} {body orelse : List Stmt} {T : Addr} {ps : List (Int × Nat)} (hit : Int → Bool) {m : Str → Option Value} {news : List (Addr × Obj)} {Q : Flow → Shared → Prop}
    (hh : A.handled = none) (hxb : env.kindOf xb = some .local) (hxc : env.kindOf xc = some .local)
    (hp : (env.scope.kind == .class || (env.scope.kind == .module && env.locals != env.globals)) = false)
    (hT : TabAt h₀ T ps) (hi : wpAny (model prog w) A (eval iter env) (fun v s' => Ho (v = .ref T ∧ ∃ h tk, s' = { s with heap := h, toks := tk } ∧ Fr h₀ env.locals h m ∧ News h₀ env.locals h news)) E s)
    (turn : ∀ (b : Int) (c : Nat) (t u : Tok) (m₁ : Str → Option Value) (h : Heap) (tk : Nat) (I : Addr) (o : Obj), (b, c) ∈ ps → (hit b = true → ps.find? (fun p => hit p.1) = some (b, c)) → (∀ z, z ≠ xb → z ≠ xc → m₁ z = m z) → (∀ p ∈ news, p.1 ≠ I) →
      Fr h₀ env.locals h (fun y => if y = xc then some (.str ⟨#[c]⟩ u) else if y = xb then some (.int b t) else m₁ y) → News h₀ env.locals h ((I, o) :: news) →
      wpAny (model prog w) A (execs body env) (fun f s' => (f = .next ∧ hit b = false ∧ ∃ h' tk' m', s' = { s with heap := h', toks := tk' } ∧ (∀ z, z ≠ xb → z ≠ xc → m' z = m z) ∧ Fr h₀ env.locals h' m' ∧ News h₀ env.locals h' ((I, o) :: news)) ∨ (f = .brk ∧ Q .next s')) E { s with heap := h, toks := tk })
    (done : ∀ (m₁ : Str → Option Value) (h : Heap) (tk : Nat), ps.find? (fun p => hit p.1) = none → (∀ z, z ≠ xb → z ≠ xc → m₁ z = m z) → Fr h₀ env.locals h m₁ → News h₀ env.locals h news → wpAny (model prog w) A (execs orelse env) Q E { s with heap := h, toks := tk })
    (hs : ∀ x, foldedSetIterable iter env x = pure x := by intro _; rfl)
    (hE : PassesOwn (model prog w) A env E := by passes_own) :
    wpAny (model prog w) A (exec (.For (.Tuple [.Name xb pb, .Name xc pc] x1 pt) iter body orelse pos) env) Q E s := by
  refine wpAny_For (wpAny_mono hi (fun xv s₁ h₁ => ?_) fun _ _ e => e) hs
  obtain ⟨rfl, h0, tk0, rfl, F, N⟩ := h₁.out
  obtain ⟨as, hTt, hPs⟩ := hT
  obtain ⟨hlen, hget⟩ := pairsAt_get hPs
  have hT₀ : IsTup h0 T (as.map Value.ref).toArray := Heap.IsTuple.at hTt fun o e => F.keep T o e
  have hTne : T ≠ h0.objs.size := by obtain ⟨o, ho, _⟩ := hT₀; exact Nat.ne_of_lt (Heap.lt_size ho)
  have hnewI : h₀.get? h0.objs.size = none := next_is_new F
  have hIL : h0.objs.size ≠ env.locals := fun e => absurd F.ns.lt (e ▸ Nat.lt_irrefl _)
  have hIN : ∀ p ∈ news, p.1 ≠ h0.objs.size := fun p hp => Nat.ne_of_lt (Heap.lt_size (N p hp).1)
  refine wpAny_pyIter_tuple hT₀ ?_
  have W := Walks.tuple (prog := prog) (w := w) hh h0.objs.size T hTne (as.map Value.ref).toArray
  have hsz : (as.map Value.ref).toArray.size = ps.length := by simp [hlen]
  have up : ∀ (m' : Str → Option Value) (h h' : Heap), Fr h₀ env.locals h m' → News h₀ env.locals h news → (∀ b o, b ≠ h0.objs.size → h.get? b = some o → h'.get? b = some o) → Fr h₀ env.locals h' m' ∧ News h₀ env.locals h' news := fun m' h h' F' N' hk =>
    ⟨⟨F'.ns.at' fun o e => hk _ o hIL.symm e, fun b o e => hk b o (fun q => by rw [q, hnewI] at e; cases e) (F'.keep b o e), F'.above⟩, fun p hp => ⟨hk _ _ (hIN p hp) (N' p hp).1, (N' p hp).2⟩⟩
  refine codeAny_forLoop_any
    (fun k s' => ∃ i h tk m', s' = { s with heap := h, toks := tk } ∧ i ≤ ps.length ∧ k = ps.length + 1 - i ∧ h.IsTupleIter h0.objs.size T i ∧ (∀ z, z ≠ xb → z ≠ xc → m' z = m z) ∧ Fr h₀ env.locals h m' ∧ News h₀ env.locals h news ∧
      (∀ j p, j < i → ps[j]? = some p → hit p.1 = false)) ?_ (ps.length + 1)
    ⟨0, _, _, m, rfl, Nat.zero_le _, rfl, ⟨_, Heap.get?_push_size _ rfl, rfl, rfl⟩, fun _ _ _ => rfl, F.push _, fun p hp => ⟨Heap.get?_push_of_some _ (N p hp).1, (N p hp).2⟩, fun j p h => absurd h (Nat.not_lt_zero _)⟩
  rintro k s' ⟨i, h, tk, m', rfl, hi', rfl, hit', hm', F', N', hno⟩
  have hTh : IsTup h T (as.map Value.ref).toArray := Heap.IsTuple.at hTt fun o e => F'.keep T o e
  by_cases hlt : i < ps.length
  · have hia : i < as.length := by omega
    obtain ⟨⟨b, c⟩, hp1, t, u, hp2⟩ := hget i as[i] (by simp [hia])
    refine wpAny_pyNext_tuple_item hit' hTh (x := .ref as[i]) (by simp [hia]) fun h₁ hit₁ hs₁ => ?_
    refine letGo_tupleiter hit₁ ?_
    obtain ⟨F₁, N₁⟩ := up m' h h₁ F' N' fun b o hb x => hs₁.extBut b o hb x
    have hP₁ : IsTup h₁ as[i] #[.int b t, .str ⟨#[c]⟩ u] := Heap.IsTuple.at hp2 fun o e => F₁.keep _ o e
    refine wpAny_mono (Q := fun _ s₂ => ∃ h₂ tk₂ o, s₂ = { s with heap := h₂, toks := tk₂ } ∧ h₂.IsTupleIter h0.objs.size T (i + 1) ∧ h₂.get? h0.objs.size = some o ∧ Fr h₀ env.locals h₂ (fun y => if y = xc then some (.str ⟨#[c]⟩ u) else if y = xb then some (.int b t) else m' y) ∧ News h₀ env.locals h₂ news) ?_ ?_ (fun _ _ e => e)
    · refine wpAny_assign_Tuple hh hP₁ rfl rfl fun h₃ hx₃ => ?_
      replace hx₃ : Heap.ExtBut h₁.objs.size h₁ h₃ := hx₃
      have up₃ : ∀ b o, h₁.get? b = some o → h₃.get? b = some o := fun b o x => hx₃ b o (Nat.ne_of_lt (Heap.lt_size x)) x
      obtain ⟨F₃, N₃⟩ := up m' h₁ h₃ F₁ N₁ fun b o _ x => up₃ b o x
      show wpAny _ A (do holding [Value.str ⟨#[c]⟩ u] (assign (.Name xb pb) env (.int b t)); holding [] (assign (.Name xc pc) env (.str ⟨#[c]⟩ u)); pure ()) _ _ _
      refine wpAny_bind (wpAny_holding (wpAny_assign_Name (wpAny_storeName_local hxb F₃.ns (fun h₄ hn₄ hs₄ => ?_) hp)))
      replace hs₄ : Heap.SameBut env.locals h₃ h₄ := hs₄
      have F₄ := F₃.set hn₄ hs₄
      refine wpAny_bind (wpAny_holding (wpAny_assign_Name (wpAny_storeName_local hxc F₄.ns (fun h₅ hn₅ hs₅ => wpAny_pure ?_) hp)))
      replace hs₅ : Heap.SameBut env.locals h₄ h₅ := hs₅
      have F₅ := F₄.set hn₅ hs₅
      have N₅ : News h₀ env.locals h₅ news := (N₃.set hs₄).set hs₅
      have hit₅ : h₅.IsTupleIter h0.objs.size T (i + 1) := hit₁.at fun o e => hs₅.extBut _ o hIL (hs₄.extBut _ o hIL (up₃ _ o e))
      obtain ⟨o, ho, hr⟩ := id hit₅
      exact ⟨h₅, _, o, rfl, hit₅, ho, F₅, N₅⟩
    · rintro _ s₂ ⟨h₂, tk₂, o, rfl, hit₂, ho₂, F₂, N₂⟩
      refine wpAny_passesOwn hE ?_
      have hmem : (b, c) ∈ ps := List.mem_of_getElem? hp1
      refine wpAny_mono (turn b c t u m' h₂ tk₂ h0.objs.size o hmem (fun hb => find_first (f := fun p => hit p.1) hp1 (fun j y hj hy => hno j y hj hy) hb) hm' hIN F₂ (List.forall_mem_cons.mpr ⟨⟨ho₂, hIL, hnewI⟩, N₂⟩)) ?_ fun _ _ e => e
      rintro f s₃ (⟨rfl, hb, h₆, tk₆, m₆, rfl, hm₆, F₆, N₆⟩ | ⟨rfl, hq⟩)
      · refine ⟨ps.length + 1 - (i + 1), by omega, i + 1, h₆, tk₆, m₆, rfl, hlt, rfl, ?_, hm₆, F₆, fun p hp => N₆ p (List.Mem.tail _ hp), ?_⟩
        · obtain ⟨o', ho', r⟩ := hit₂
          rw [ho₂] at ho'
          cases ho'
          exact ⟨o, (N₆ _ (List.Mem.head _)).1, r⟩
        · intro j p hj hp
          rcases Nat.lt_succ_iff_lt_or_eq.mp hj with q | rfl
          · exact hno j p q hp
          · rw [hp1] at hp; cases hp; exact hb
      · exact hq
  · have hin : i = ps.length := by omega
    subst hin
    refine wpAny_pyNext_tuple_end hh hit' hTh (by simp [hlen]) fun h₁ hk₁ => ?_
    obtain ⟨F₁, N₁⟩ := up m' h h₁ F' N' fun b o hb x => hk₁ b o hb x
    refine wpAny_passesOwn hE (done m' h₁ tk ?_ hm' F₁ N₁)
    rw [List.find?_eq_none]
    intro p hp
    obtain ⟨j, hj, e⟩ := List.getElem_of_mem hp
    rw [hno j p hj (by rw [List.getElem?_eq_getElem hj, e])]
    simp
end
end Mine
/-! part Cifmt -/
namespace Mine
set_option maxRecDepth 100000 in
set_option maxHeartbeats 8000000 in
theorem c_ifmt (w : World) (mean) (mg mb) (news) (mode : Int) (tm : Tok) : Con 1 w mean mg mb 35 news [.int mode tm] (fun v => ∃ t, v = .int (Builtin.bitAnd mode 61440) t) := by
  k_with_none
  w_top off
  unfold Con
  k_fill
  intro dp un gd cn cs a ccd cl outer A₀ base h₀ L m s Q E B F X N T hk hd hu hret
  refine wpAny_call ?_
  k_dflt cell_enter
  k_steps
  exact hret _ _ _ ⟨_, rfl⟩ (by assumption) (by assumption)
end Mine
/-! part Fmode -/
namespace Mine
noncomputable def fmTab : Nat → List (Int × Nat)
  | 0 => [(40960, 108), (49152, 115), (32768, 45), (24576, 98), (16384, 100), (8192, 99), (4096, 112)]
  | 1 => [(256, 114)]
  | 2 => [(128, 119)]
  | 3 => [(2112, 115), (2048, 83), (64, 120)]
  | 4 => [(32, 114)]
  | 5 => [(16, 119)]
  | 6 => [(1032, 115), (1024, 83), (8, 120)]
  | 7 => [(4, 114)]
  | 8 => [(2, 119)]
  | _ => [(513, 116), (512, 84), (1, 120)]
noncomputable def fmAdr : List Addr := [43, 45, 47, 51, 53, 55, 59, 61, 63, 67]
noncomputable def fmHit (mode : Int) (i : Nat) (b : Int) : Bool := if i = 0 then Builtin.bitAnd mode 61440 == b else Builtin.bitAnd mode b == b
noncomputable def fmSign (mode : Int) (i : Nat) : Nat := match (fmTab i).find? (fun p => fmHit mode i p.1) with
  | some p => p.2
  | none => if i = 0 then 63 else 45
theorem fm_top {w : World} {h : Heap} (X : (Mine.hd.heap_39 w.params).In h) : IsTup h 68 (fmAdr.map Value.ref).toArray := tupK X rfl
theorem fm_tab {w : World} {h : Heap} (X : (Mine.hd.heap_39 w.params).In h) {i : Nat} {T : Addr} (e : fmAdr[i]? = some T) : TabAt h T (fmTab i) := by
  rcases i with _ | _ | _ | _ | _ | _ | _ | _ | _ | _ | i <;> simp [fmAdr] at e <;> subst e
  · exact ⟨[36, 37, 38, 39, 40, 41, 42], tupK X rfl, ⟨_, _, tupK X rfl⟩, ⟨_, _, tupK X rfl⟩, ⟨_, _, tupK X rfl⟩, ⟨_, _, tupK X rfl⟩, ⟨_, _, tupK X rfl⟩, ⟨_, _, tupK X rfl⟩, ⟨_, _, tupK X rfl⟩, trivial⟩
  · exact ⟨[44], tupK X rfl, ⟨_, _, tupK X rfl⟩, trivial⟩
  · exact ⟨[46], tupK X rfl, ⟨_, _, tupK X rfl⟩, trivial⟩
  · exact ⟨[48, 49, 50], tupK X rfl, ⟨_, _, tupK X rfl⟩, ⟨_, _, tupK X rfl⟩, ⟨_, _, tupK X rfl⟩, trivial⟩
  · exact ⟨[52], tupK X rfl, ⟨_, _, tupK X rfl⟩, trivial⟩
  · exact ⟨[54], tupK X rfl, ⟨_, _, tupK X rfl⟩, trivial⟩
  · exact ⟨[56, 57, 58], tupK X rfl, ⟨_, _, tupK X rfl⟩, ⟨_, _, tupK X rfl⟩, ⟨_, _, tupK X rfl⟩, trivial⟩
  · exact ⟨[60], tupK X rfl, ⟨_, _, tupK X rfl⟩, trivial⟩
  · exact ⟨[62], tupK X rfl, ⟨_, _, tupK X rfl⟩, trivial⟩
  · exact ⟨[64, 65, 66], tupK X rfl, ⟨_, _, tupK X rfl⟩, ⟨_, _, tupK X rfl⟩, ⟨_, _, tupK X rfl⟩, trivial⟩
theorem ne_of (x y : Str) (h : (x == y) = false) : x ≠ y := by simpa using h
/-- texts of one sign each -/
inductive SignsAre : List Value → List Nat → Prop where
  | nil : SignsAre [] []
  | cons {vs : List Value} {cs : List Nat} (c : Nat) (t : Tok) (h : SignsAre vs cs) : SignsAre (.str ⟨#[c]⟩ t :: vs) (c :: cs)
theorem SignsAre.snoc {vs : List Value} {cs : List Nat} (h : SignsAre vs cs) (c : Nat) (t : Tok) : SignsAre (vs ++ [.str ⟨#[c]⟩ t]) (cs ++ [c]) := by
  induction h with
  | nil => exact .cons _ _ .nil
  | cons c' t' _ ih => exact .cons _ _ ih
theorem SignsAre.length {vs : List Value} {cs : List Nat} (h : SignsAre vs cs) : vs.length = cs.length := by
  induction h with
  | nil => rfl
  | cons _ _ _ ih => simp [ih]
theorem SignsAre.strs {vs : List Value} {cs : List Nat} (h : SignsAre vs cs) : StrsAre vs (cs.map fun c => (⟨#[c]⟩ : Str)) := by
  induction h with
  | nil => exact .nil
  | cons c t _ ih => exact .cons _ _ ih
theorem fold_signs (cs : List Nat) : ∀ acc : Array Nat, (cs.map fun c => (⟨#[c]⟩ : Str)).foldl (fun acc p => acc ++ (Str.ofString "").cps ++ p.cps) acc = acc ++ cs.toArray := by
  induction cs with
  | nil => intro acc; simp
  | cons c r ih =>
    intro acc
    rw [List.map_cons, List.foldl_cons, ih]
    have e : (Str.ofString "").cps = #[] := rfl
    rw [e]; simp
theorem join_signs (cs : List Nat) : Txt.join (Str.ofString "") (cs.map fun c => (⟨#[c]⟩ : Str)) = ⟨cs.toArray⟩ := by
  cases cs with
  | nil => rfl
  | cons c r =>
    show (⟨(r.map fun c => (⟨#[c]⟩ : Str)).foldl (fun acc p => acc ++ (Str.ofString "").cps ++ p.cps) #[c]⟩ : Str) = _
    rw [fold_signs]; simp
def FmJ (mode : Int) (tm : Tok) (P : Addr) (news : List (Addr × Obj)) (i : Nat) (m₁ : Str → Option Value) (nx : List (Addr × Obj)) : Prop :=
  ∃ ev cs, nx = (P, PySem.W.listOf cs.toArray ev) :: news ∧ SignsAre cs ((List.range i).map (fmSign mode)) ∧ m₁ (Str.ofString "mode") = some (.int mode tm) ∧ m₁ (Str.ofString "perm") = some (.ref P)
theorem fm_hit0 {mode b : Int} {i : Nat} (h : (i : Int) = 0) : fmHit mode i b = (Builtin.bitAnd mode 61440 == b) := by
  have : i = 0 := by omega
  subst this; rfl
theorem fm_hit1 {mode b : Int} {i : Nat} (h : (i : Int) ≠ 0) : fmHit mode i b = (Builtin.bitAnd mode b == b) := by
  have : ¬ i = 0 := by omega
  rw [fmHit, if_neg this]
theorem fm_found {mode b : Int} {c : Nat} {i : Nat} (h : (fmTab i).find? (fun p => fmHit mode i p.1) = some (b, c)) : fmSign mode i = c := by rw [fmSign, h]
theorem fm_none0 {mode : Int} {i : Nat} (h : (fmTab i).find? (fun p => fmHit mode i p.1) = none) (e : (i : Int) = 0) : Str.ofString "?" = ⟨#[fmSign mode i]⟩ := by
  have : i = 0 := by omega
  rw [fmSign, h]; subst this; rfl
theorem fm_none1 {mode : Int} {i : Nat} (h : (fmTab i).find? (fun p => fmHit mode i p.1) = none) (e : (i : Int) ≠ 0) : Str.ofString "-" = ⟨#[fmSign mode i]⟩ := by
  have : ¬ i = 0 := by omega
  rw [fmSign, h]; show _ = (⟨#[if i = 0 then 63 else 45]⟩ : Str); rw [if_neg this]; rfl
theorem fr_namedE {h₀ : Heap} {L : Addr} {h : Heap} {m : Str → Option Value} (F : Fr h₀ L h m) (ps : List (Str × Value)) (hp : ∀ p ∈ ps, m p.1 = some p.2) : ∃ u, kstB u ps = m ∧ Fr h₀ L h (kstB u ps) := by
  have e : kstB m ps = m := funext fun z => kstB_eq hp fun _ => rfl
  exact ⟨m, e, by rw [e]; exact F⟩
theorem news_push {h₀ h : Heap} {L P : Addr} {cs : List Value} {x y : Value} {n : Nat} {pre R : List (Addr × Obj)} (N : News h₀ L h (pre ++ (P, PySem.W.listOf (cs.toArray.push x) n) :: R)) (e : x = y) : News h₀ L h ((P, PySem.W.listOf (cs ++ [y]).toArray n) :: R) := by
  subst e
  have e : cs.toArray.push x = (cs ++ [x]).toArray := by simp
  rw [e] at N
  exact fun p hp => N p (List.mem_append.mpr (.inr hp))
set_option maxRecDepth 100000 in
set_option maxHeartbeats 8000000 in
theorem c_fmode (w : World) (mean) (mg mb) (news) (mode : Int) (tm : Tok) (h0 : 0 ≤ mode) (h1 : mode < 65536) : Con 3 w mean mg mb 75 news [.int mode tm] (fun v => ∃ t, v = .str ⟨((List.range 10).map (fmSign mode)).toArray⟩ t) := by
  k_with_none
  (k_with "call builtin:list.append" => (k_here; k_dflt (refine' append_K (by k_asm) (by k_asm) (by first | exact Upd.tail (Ne.symm (by assumption)) (Upd.head (all_ne_app (by assumption) (by assumption))) | exact Upd.head (all_ne_app (by assumption) (by assumption))) ?_ (by size_fits)); intro h' F' N'))
  (k_with "mStop" => ((fail_if_success (with_reducible show wpAny _ _ (exec (Stmt.While _ _ _ _) _) _ _ _)); (fail_if_success (with_reducible show wpAny _ _ (call (Value.type "enumerate") _) _ _ _))))
  (k_with "mS" => repeat' (walk_at "mStop"; first | (k_unfold; (try dsimp only)) | walk1 | (dsimp only; walk1) | (leave1; try dsimp only)))
  (k_with "call ref" => ((with_reducible show wpAny _ _ (call (Value.ref 35) [Value.int _ _]) _ _ _); k_dflt (refine' c_ifmt _ _ _ _ _ _ _ _ _ _ _ _ _ _ _ _ _ _ _ _ _ _ _ _ (by k_asm) (by k_asm) (by k_asm) (by k_asm) (by k_asm) (by exact rfl) (by first | ktr_room | omega) (by first | ktr_units | omega) ?_); intro v9 h9 tk9 hp9 F' N'; (obtain ⟨t9, e9⟩ := hp9); (subst e9); (try dsimp only)))
  w_top off
  unfold Con
  k_fill
  intro dp un gd cn cs a ccd cl outer A₀ base h₀ L m s Q E B F X N T hk hd hu hret
  refine wpAny_call ?_
  k_dflt cell_enter
  rename_i g1 L1 h1 FG1 F1 N1 B1 X1 T1
  walk_at "mS"
  rename_i P hA hlt hB FB NB
  refine call_enumerate_tup (Heap.IsTuple.at (fm_top X1) fun o e => FB.keep _ o e) ?_
  intro h2 he hit hsz hkp
  dsimp only at he hit hsz hkp ⊢
  refine wpAny_pyIter_enum he ?_
  have hLlt : L1 < hB.objs.size := FB.ns.lt
  have hPlt : P < hB.objs.size := Heap.lt_size (NB _ (List.Mem.head _)).1
  have nlt : ∀ p ∈ news, p.1 < hB.objs.size := fun p hp => Heap.lt_size (NB p (List.Mem.tail _ hp)).1
  have fr : ∀ a, hB.objs.size ≤ a → g1.get? a = none := fun a ha => by
    cases e : g1.get? a with
    | none => rfl
    | some o => exact absurd (Heap.lt_size (FB.keep a o e)) (Nat.not_lt.mpr ha)
  have h68 : 68 < hB.objs.size := by
    obtain ⟨o, ho, _⟩ := fm_top X1
    exact Heap.lt_size (FB.keep _ o ho)
  have hP68 : P ≠ 68 := by
    intro e
    obtain ⟨o, ho, _⟩ := fm_top X1
    have := (NB _ (List.Mem.head _)).2.2
    rw [show ((P, PySem.W.listOf #[] 0) : Addr × Obj).1 = 68 from e, ho] at this; cases this
  have hWr : ∀ b ∈ [hB.objs.size + 1, hB.objs.size], hB.objs.size ≤ b := fun b hb => by simp at hb; omega
  have F2 : Fr g1 L1 h2 _ := FB.keeps hkp
  have N2 : News g1 L1 h2 ((P, PySem.W.listOf #[] 0) :: news) := fun p hp => ⟨hkp _ _ (NB p hp).1, (NB p hp).2⟩
  refine ⟨hB.objs.size + 1, _, _, 10, _, _, _, (fun i v0 v1 => ∃ t T, v0 = .int i t ∧ v1 = .ref T ∧ fmAdr[i]? = some T), _, (P, PySem.W.listOf #[] 0) :: news, FmJ mode tm P news, rfl,
    WalksT.enumerateD (draws_tup rfl hB.objs.size 68 (Nat.ne_of_lt h68) (fmAdr.map Value.ref).toArray) (hB.objs.size + 1) (Nat.ne_of_gt (Nat.lt_succ_self _)) ?hef (by simp), ?h2, ?hLf, ?hwr, ?hnw, ⟨⟨_, he⟩, hit, Heap.IsTuple.at (fm_top X1) fun o e => F2.keep _ o e⟩, F2, N2, ⟨0, [], rfl, .nil, rfl, rfl⟩, ?step, ?done⟩
  case hef => intro hb; simp at hb; omega
  case h2 =>
    rintro i vals ⟨t, x, hx, rfl⟩
    refine ⟨_, _, rfl, t, ?_⟩
    simp only [List.getElem?_toArray, List.getElem?_map, Option.map_eq_some_iff] at hx
    obtain ⟨T', hT', rfl⟩ := hx
    exact ⟨T', rfl, rfl, hT'⟩
  case hLf =>
    intro hb
    replace hb : L1 ∈ [hB.objs.size + 1, hB.objs.size, 68] := hb
    simp at hb
    have hL0 : g1.get? L1 = none := by
      cases e : g1.get? L1 with
      | none => rfl
      | some o => exact absurd (Heap.lt_size e) (Nat.not_lt.mpr FB.above)
    rcases hb with hb | hb | hb
    · rw [hb] at hLlt; exact absurd hLlt (Nat.not_lt.mpr (Nat.le_succ _))
    · rw [hb] at hLlt; exact absurd hLlt (Nat.lt_irrefl _)
    · obtain ⟨o, ho, _⟩ := fm_top X1
      rw [← hb, hL0] at ho; cases ho
  case hwr => intro b hb; exact fr b (hWr b hb)
  case hnw =>
    intro p hp hb
    have h1 := hWr _ hb
    rcases List.mem_cons.mp hp with rfl | hp
    · exact absurd hPlt (Nat.not_lt.mpr h1)
    · exact absurd (nlt p hp) (Nat.not_lt.mpr h1)
  case step =>
    rintro i v0 v1 m₁ news₁ s₁ own ⟨h, tk, rfl⟩ hi ⟨t, T', rfl, rfl, hT'⟩ ⟨ev, cs, rfl, hcs, hm1, hm2⟩ hadr hown F3 N3
    replace F3 : Fr g1 L1 h _ := F3
    replace N3 : News g1 L1 h (own ++ _) := N3
    have hoP : ∀ p ∈ own, p.1 ≠ P := by
      intro p hp
      have := hown p hp
      simp at this
      rcases this with e | e | e
      · rw [e]; exact Nat.ne_of_gt (Nat.lt_succ_of_lt hPlt)
      · rw [e]; exact Nat.ne_of_gt hPlt
      · rw [e]; exact hP68.symm
    have hnP : ∀ p ∈ news, p.1 ≠ P := fun p hp => Nat.ne_of_lt (hlt p hp)
    have N4 : News g1 L1 h ((P, PySem.W.listOf cs.toArray ev) :: (own ++ news)) := fun p hp => N3 p (by
      simp only [List.mem_cons, List.mem_append] at hp ⊢
      rcases hp with h | h | h <;> simp [h])
    obtain ⟨u4, F4⟩ := fr_named F3 [(Str.ofString "table", .ref T'), (Str.ofString "index", .int i t), (Str.ofString "mode", .int mode tm), (Str.ofString "perm", .ref P)] (List.forall_mem_cons.mpr ⟨rfl, List.forall_mem_cons.mpr ⟨rfl, List.forall_mem_cons.mpr ⟨hm1, List.forall_mem_cons.mpr ⟨hm2, fun _ h => nomatch h⟩⟩⟩⟩)
    clear F3 N3 F2 N2 FB NB hkp he hit
    dsimp only
    refine wpAny_execs_cons ?_
    refine wp_cutC (fun f s' => Ho (f = Flow.next ∧ ∃ (h' : Heap) (tk' : Nat) (m' : Str → Option Value) (ev' : Nat) (u : Tok), s' = { s with heap := h', toks := tk' } ∧ Fr g1 L1 h' m' ∧ m' (Str.ofString "mode") = some (.int mode tm) ∧ m' (Str.ofString "perm") = some (.ref P) ∧
      News g1 L1 h' ((P, PySem.W.listOf (cs ++ [Value.str ⟨#[fmSign mode i]⟩ u]).toArray ev') :: (own ++ news)))) ?srch ?rest
    case srch =>
      intro Qc hQc
      refine For_search (fmHit mode i) (m := kstB u4 [(Str.ofString "table", .ref T'), (Str.ofString "index", .int i t), (Str.ofString "mode", .int mode tm), (Str.ofString "perm", .ref P)]) (news := (P, PySem.W.listOf cs.toArray ev) :: (own ++ news)) rfl rfl rfl rfl (fm_tab X1 hT') ?sitr ?sturn ?sdone
      case sitr =>
        walk_at "mS"
        exact ⟨rfl, h, _, rfl, F4, N4⟩
      case sturn =>
        rintro b c t1 u1 m5 h5 tk5 I o hmem hfirst hm5 hI F5 N5
        obtain ⟨u6, e6, F6⟩ := fr_namedE F5 [(Str.ofString "char", .str ⟨#[c]⟩ u1), (Str.ofString "bit", .int b t1), (Str.ofString "index", .int i t), (Str.ofString "mode", .int mode tm), (Str.ofString "perm", .ref P)]
          (List.forall_mem_cons.mpr ⟨rfl, List.forall_mem_cons.mpr ⟨rfl, List.forall_mem_cons.mpr ⟨hm5 _ (ne_of _ _ rfl) (ne_of _ _ rfl), List.forall_mem_cons.mpr ⟨hm5 _ (ne_of _ _ rfl) (ne_of _ _ rfl), List.forall_mem_cons.mpr ⟨hm5 _ (ne_of _ _ rfl) (ne_of _ _ rfl), fun _ h => nomatch h⟩⟩⟩⟩⟩)
        clear F4 N4 F5
        have hIP : P ≠ I := hI (P, _) (List.Mem.head _)
        have hcl : cs.length = i := by rw [hcs.length]; simp
        refine wp_genQ ?_
        intro Qs hQs
        walk_at "mS"
        all_goals refine hQs _ _ ?_
        all_goals (try dsimp only)
        · exact .inr ⟨rfl, hQc _ _ ⟨by first | rfl | trivial, _, _, _, _, _, rfl, by assumption, rfl, rfl, news_push (pre := [(I, o)]) (by assumption) (by rw [fm_found (hfirst (by rw [fm_hit0 (by assumption)]; simpa using (by assumption)))])⟩⟩
        · rename Fr g1 _ _ _ => F9
          exact .inl ⟨rfl, by rw [fm_hit0 (by assumption)]; simpa using (by assumption), _, _, _, rfl, fun z hz1 hz2 => by rw [e6]; simp [hz1, hz2, hm5 z hz1 hz2], F9, by assumption⟩
        · exact .inr ⟨rfl, hQc _ _ ⟨by first | rfl | trivial, _, _, _, _, _, rfl, by assumption, rfl, rfl, news_push (pre := [(I, o)]) (by assumption) (by rw [fm_found (hfirst (by rw [fm_hit1 (by assumption)]; simpa using (by assumption)))])⟩⟩
        · rename Fr g1 _ _ _ => F9
          exact .inl ⟨rfl, by rw [fm_hit1 (by assumption)]; simpa using (by assumption), _, _, _, rfl, fun z hz1 hz2 => by rw [e6]; simp [hz1, hz2, hm5 z hz1 hz2], F9, by assumption⟩
      case sdone =>
        rintro m5 h5 tk5 hnone hm5 F5 N5
        obtain ⟨u6, F6⟩ := fr_named F5 [(Str.ofString "index", .int i t), (Str.ofString "mode", .int mode tm), (Str.ofString "perm", .ref P)]
          (List.forall_mem_cons.mpr ⟨hm5 _ (ne_of _ _ rfl) (ne_of _ _ rfl), List.forall_mem_cons.mpr ⟨hm5 _ (ne_of _ _ rfl) (ne_of _ _ rfl), List.forall_mem_cons.mpr ⟨hm5 _ (ne_of _ _ rfl) (ne_of _ _ rfl), fun _ h => nomatch h⟩⟩⟩)
        clear F4 N4 F5
        have hcl : cs.length = i := by rw [hcs.length]; simp
        walk_at "mS"
        · exact hQc _ _ ⟨rfl, _, _, _, _, _, rfl, by assumption, rfl, rfl, news_push (pre := []) (by assumption) (by rw [fm_none0 hnone (by assumption)])⟩
        · exact hQc _ _ ⟨rfl, _, _, _, _, _, rfl, by assumption, rfl, rfl, news_push (pre := []) (by assumption) (by rw [fm_none1 hnone (by assumption)])⟩
    rintro f s' ⟨rfl, h5, tk5, m5, ev5, u5, rfl, F5, e1, e2, N5⟩
    dsimp only
    refine wpAny_execs_nil ?_
    refine ⟨rfl, h5, tk5, m5, (P, PySem.W.listOf (cs ++ [Value.str ⟨#[fmSign mode i]⟩ u5]).toArray ev5) :: news, rfl, F5, fun p hp => N5 p ?_, rfl, ?_⟩
    · simp only [List.mem_cons, List.mem_append] at hp ⊢
      rcases hp with h | h | h <;> simp [h]
    · refine ⟨ev5, _, rfl, ?_, e1, e2⟩
      rw [List.range_succ, List.map_append]
      exact hcs.snoc _ _
  case done =>
    rintro h' tk m' news' F3 N3 _ ⟨ev, cs, rfl, hcs, hm1, hm2⟩
    dsimp only
    obtain ⟨u, F4⟩ := fr_named F3 [(Str.ofString "perm", .ref P)] (List.forall_mem_cons.mpr ⟨hm2, fun _ h => nomatch h⟩)
    clear F3
    walk_at "mS"
    refine join_listW (ys := (((List.range 10).map (fmSign mode)).map fun c => (⟨#[c]⟩ : Str))) (News.isList (by assumption) (List.Mem.head _)) (by simpa using hcs.strs) (by decide) (Nat.le_of_ble_eq_true rfl) ?_
    intro t' k
    rw [join_signs]
    walk_at "mS"
    exact hret _ _ _ ⟨_, rfl⟩ (by assumption) (fun p hp => (by assumption : News h₀ L _ (_ :: news)) p (List.Mem.tail _ hp))
end Mine
/-! part LsG -/
namespace Mine
/-- the sign at place k, as the law reckons it -/
noncomputable def lsPart (mode : Int) : Nat → Str
  | 0 => Txt.item (Str.ofString "-rwx") ((Int.fmod 0 3 + 1) * (mode.fdiv 256).fmod 2)
  | 1 => Txt.item (Str.ofString "-rwx") ((Int.fmod 1 3 + 1) * (mode.fdiv 128).fmod 2)
  | 2 => if (mode.fdiv 2048).fmod 2 = 1 then Txt.item (Str.ofString "Ss") ((mode.fdiv 64).fmod 2) else Txt.item (Str.ofString "-rwx") ((Int.fmod 2 3 + 1) * (mode.fdiv 64).fmod 2)
  | 3 => Txt.item (Str.ofString "-rwx") ((Int.fmod 3 3 + 1) * (mode.fdiv 32).fmod 2)
  | 4 => Txt.item (Str.ofString "-rwx") ((Int.fmod 4 3 + 1) * (mode.fdiv 16).fmod 2)
  | 5 => if (mode.fdiv 1024).fmod 2 = 1 then Txt.item (Str.ofString "Ss") ((mode.fdiv 8).fmod 2) else Txt.item (Str.ofString "-rwx") ((Int.fmod 5 3 + 1) * (mode.fdiv 8).fmod 2)
  | 6 => Txt.item (Str.ofString "-rwx") ((Int.fmod 6 3 + 1) * (mode.fdiv 4).fmod 2)
  | 7 => Txt.item (Str.ofString "-rwx") ((Int.fmod 7 3 + 1) * (mode.fdiv 2).fmod 2)
  | 8 => if (mode.fdiv 512).fmod 2 = 1 then Txt.item (Str.ofString "Tt") ((mode.fdiv 1).fmod 2) else Txt.item (Str.ofString "-rwx") ((Int.fmod 8 3 + 1) * (mode.fdiv 1).fmod 2)
  | _ => Str.empty
noncomputable def lsText (mode : Int) : Nat → Str
  | 0 => Txt.item (Str.ofString "?pc?d?b?-?l?s???") (mode.fdiv 4096)
  | n + 1 => lsText mode n ++ lsPart mode n
/-- the same with the place as a letter -/
noncomputable def lsAny (mode k : Int) (X : Str) : Str :=
  if k.fmod 3 = 2 ∧ (mode.fdiv (2 ^ (11 - k.fdiv 3).toNat)).fmod 2 = 1 then Txt.item X ((mode.fdiv (2 ^ (8 - k).toNat)).fmod 2) else Txt.item (Str.ofString "-rwx") ((k.fmod 3 + 1) * (mode.fdiv (2 ^ (8 - k).toNat)).fmod 2)
theorem ls_no {mode k a b : Int} {X : Str} (h : k.fmod 3 ≠ 2) (ha : 2 ^ (8 - k).toNat = a) : lsAny mode k X = Txt.item (Str.ofString "-rwx") ((k.fmod 3 + 1) * (mode.fdiv a).fmod 2) := by
  unfold lsAny
  rw [if_neg fun z => h z.1, ha]
theorem ls_yes {mode k a b : Int} {X : Str} (h : k.fmod 3 = 2) (ha : 2 ^ (8 - k).toNat = a) (hb : 2 ^ (11 - k.fdiv 3).toNat = b) :
    lsAny mode k X = if (mode.fdiv b).fmod 2 = 1 then Txt.item X ((mode.fdiv a).fmod 2) else Txt.item (Str.ofString "-rwx") ((k.fmod 3 + 1) * (mode.fdiv a).fmod 2) := by
  unfold lsAny
  rw [ha, hb]
  by_cases q : (mode.fdiv b).fmod 2 = 1
  · rw [if_pos ⟨h, q⟩, if_pos q]
  · rw [if_neg fun z => q z.2, if_neg q]
theorem ls_any {mode k : Int} {n : Nat} {X : Str} (e : k = 0 + (n : Int)) (hn : n < 9) (hX : X = if k.fdiv 3 = 2 then Str.ofString "Tt" else Str.ofString "Ss") : lsAny mode k X = lsPart mode n := by
  rw [Int.zero_add] at e
  subst e hX
  match n, hn with
  | 0, _ => exact ls_no (b := 0) (by decide) (by decide)
  | 1, _ => exact ls_no (b := 0) (by decide) (by decide)
  | 2, _ => exact ls_yes (by decide) (by decide) (by decide)
  | 3, _ => exact ls_no (b := 0) (by decide) (by decide)
  | 4, _ => exact ls_no (b := 0) (by decide) (by decide)
  | 5, _ => exact ls_yes (by decide) (by decide) (by decide)
  | 6, _ => exact ls_no (b := 0) (by decide) (by decide)
  | 7, _ => exact ls_no (b := 0) (by decide) (by decide)
  | 8, _ => exact ls_yes (by decide) (by decide) (by decide)
theorem post_str {x y : Str} {t : Tok} (e : x = y) : ∃ t', Value.str x t = .str y t' := ⟨t, by rw [e]⟩
theorem ls_start {mode : Int} {x : Str} (h : x = lsText mode 0) (hl : x.length = 1) : x = lsText mode ([] : List Int).length ∧ x.length = ([] : List Int).length + 1 := ⟨h, hl⟩
theorem ls_zero (mode : Int) : Txt.item (Str.ofString "?pc?d?b?-?l?s???") (mode.fdiv 4096) = lsText mode 0 := by rw [lsText]
theorem ls_step {mode : Int} {pre : List Int} {k : Int} {text p : Str} (h : text = lsText mode pre.length ∧ text.length = pre.length + 1) (hp : p = lsPart mode pre.length) (hl : p.length = 1) : text ++ p = lsText mode (pre ++ [k]).length ∧ (text ++ p).length = (pre ++ [k]).length + 1 := by
  have e : (text ++ p).length = text.length + p.length := by
    show (text.cps ++ p.cps).size = text.cps.size + p.cps.size
    simp
  rw [e, List.length_append, List.length_singleton]
  refine ⟨?_, by omega⟩
  rw [lsText, h.1, hp]
theorem ls_set {mode k P0 P1 : Int} {n : Nat} {X : Str} (e : k = 0 + (n : Int)) (hn : n < 9) (h0 : P0 = 2 ^ (8 - k).toNat) (h1 : P1 = 2 ^ (11 - k.fdiv 3).toNat) (a : k.fmod 3 = 2) (b : (mode.fdiv P1).fmod 2 = 1) (hX : X = if k.fdiv 3 = 2 then Str.ofString "Tt" else Str.ofString "Ss") :
    Txt.item X ((mode.fdiv P0).fmod 2) = lsPart mode n := by
  rw [← ls_any e hn hX, lsAny, if_pos ⟨a, by rw [← h1]; exact b⟩, h0]
theorem ls_bare {mode k P0 P1 : Int} {n : Nat} (e : k = 0 + (n : Int)) (hn : n < 9) (h0 : P0 = 2 ^ (8 - k).toNat) (h1 : P1 = 2 ^ (11 - k.fdiv 3).toNat) (a : ¬ (k.fmod 3 = 2 ∧ (mode.fdiv P1).fmod 2 = 1)) :
    Txt.item (Str.ofString "-rwx") ((k.fmod 3 + 1) * (mode.fdiv P0).fmod 2) = lsPart mode n := by
  rw [← ls_any e hn rfl, lsAny, if_neg (by rw [← h1]; exact a), h0]
theorem fmod_two (m : Int) : 0 ≤ m.fmod 2 ∧ m.fmod 2 < 2 := ⟨Int.fmod_nonneg_of_pos _ (by decide), Int.fmod_lt_of_pos _ (by decide)⟩
theorem fmod_three (m : Int) : 0 ≤ m.fmod 3 ∧ m.fmod 3 < 3 := ⟨Int.fmod_nonneg_of_pos _ (by decide), Int.fmod_lt_of_pos _ (by decide)⟩
theorem rwx_idx (k m : Int) : 0 ≤ (k.fmod 3 + 1) * m.fmod 2 ∧ (k.fmod 3 + 1) * m.fmod 2 < 4 := by
  obtain ⟨a0, a1⟩ := fmod_two m
  obtain ⟨b0, b1⟩ := fmod_three k
  rcases (by omega : m.fmod 2 = 0 ∨ m.fmod 2 = 1) with e | e <;> rw [e] <;> omega
theorem one_of {n : Nat} (h : 1 ≤ n ∧ n ≤ 1) : n = 1 := by omega
section
variable {prog : Program} {w : World} {A : Around} {E : Value → Shared → Prop} {s : Shared} {value slice : PySem.Expr} {t u : Tok} {Q : Value → Shared → Prop}
theorem pow_two_any {n : Int} (h0 : 0 ≤ n) (h1 : n ≤ 12) (h : ∀ P : Int, P = 2 ^ n.toNat → P ≠ 0 → P.natAbs < 1073741824 → Q (.int P s.toks) { s with toks := s.toks + 1 }) : wpAny (model prog w) A (binaryOp .Pow (.int 2 t) (.int n u)) Q E s :=
  pow_int_small h0 (by omega) (by decide) (h _ rfl (Int.ne_of_gt (Int.pow_pos (by decide))) (by
    have e := Nat.pow_le_pow_right (show 0 < 2 by decide) (show n.toNat ≤ 12 by omega)
    rw [Int.natAbs_pow]
    exact Nat.lt_of_le_of_lt e (by decide)))
theorem pow_a {k : Int} (h0 : 0 ≤ k) (h1 : k < 9) (h : ∀ P : Int, P = 2 ^ (8 - k).toNat → P ≠ 0 → P.natAbs < 1073741824 → Q (.int P s.toks) { s with toks := s.toks + 1 }) : wpAny (model prog w) A (binaryOp .Pow (.int 2 t) (.int (8 - k) u)) Q E s :=
  pow_two_any (by omega) (by omega) h
theorem pow_b {k : Int} (h0 : 0 ≤ k) (h1 : k < 9) (h : ∀ P : Int, P = 2 ^ (11 - k.fdiv 3).toNat → P ≠ 0 → P.natAbs < 1073741824 → Q (.int P s.toks) { s with toks := s.toks + 1 }) : wpAny (model prog w) A (binaryOp .Pow (.int 2 t) (.int (11 - k.fdiv 3) u)) Q E s := by
  have e : k.fdiv 3 = k / 3 := Int.fdiv_eq_ediv_of_nonneg _ (by decide)
  exact pow_two_any (by omega) (by omega) h
theorem div_small {a b : Int} (hb : b ≠ 0) (hp : b.natAbs < 1073741824) (h : Q (.int (a.fdiv b) s.toks) { s with toks := s.toks + 1 }) : wpAny (model prog w) A (binaryOp .FloorDiv (.int a t) (.int b u)) Q E s :=
  floordiv_int hb h (Or.inl (PyProof.noPylong_small hp))
theorem item_in {x : Str} {i : Int} (h0 : 0 ≤ i) (h1 : i < x.length) (h2 : x.length ≤ 100) (h : (Txt.item x i).length = 1 → Q (.str (Txt.item x i) s.toks) { s with toks := s.toks + 1 })
    (hs : subscripted slice false (.str x t) (.int i u) = operate [.str x t, .int i u] (getItem (.str x t) (.int i u)) := by with_unfolding_all rfl)
    (ht : ∀ r, letTemporaryGo value (.str x t) r = pure () := by intro _; with_unfolding_all rfl) : wpAny (model prog w) A (subscriptTail value slice (.str x t) (.int i u)) Q E s :=
  item_str (fitsSsize_of (N := 9223372036854775808) (by omega) (by omega) (Int.le_refl _)) (by omega) h1 (fun q => h (one_of q)) hs ht
theorem item_rwx {k m : Int} (h : (Txt.item (Str.ofString "-rwx") ((k.fmod 3 + 1) * m.fmod 2)).length = 1 → Q (.str (Txt.item (Str.ofString "-rwx") ((k.fmod 3 + 1) * m.fmod 2)) s.toks) { s with toks := s.toks + 1 })
    (hs : subscripted slice false (.str (Str.ofString "-rwx") t) (.int ((k.fmod 3 + 1) * m.fmod 2) u) = operate [.str (Str.ofString "-rwx") t, .int ((k.fmod 3 + 1) * m.fmod 2) u] (getItem (.str (Str.ofString "-rwx") t) (.int ((k.fmod 3 + 1) * m.fmod 2) u)) := by with_unfolding_all rfl)
    (ht : ∀ r, letTemporaryGo value (.str (Str.ofString "-rwx") t) r = pure () := by intro _; with_unfolding_all rfl) : wpAny (model prog w) A (subscriptTail value slice (.str (Str.ofString "-rwx") t) (.int ((k.fmod 3 + 1) * m.fmod 2) u)) Q E s :=
  item_in (rwx_idx k m).1 (rwx_idx k m).2 (by decide) h hs ht
theorem item_two {x : Str} {m : Int} (hx : x.length = 2) (h : (Txt.item x (m.fmod 2)).length = 1 → Q (.str (Txt.item x (m.fmod 2)) s.toks) { s with toks := s.toks + 1 })
    (hs : subscripted slice false (.str x t) (.int (m.fmod 2) u) = operate [.str x t, .int (m.fmod 2) u] (getItem (.str x t) (.int (m.fmod 2) u)) := by with_unfolding_all rfl)
    (ht : ∀ r, letTemporaryGo value (.str x t) r = pure () := by intro _; with_unfolding_all rfl) : wpAny (model prog w) A (subscriptTail value slice (.str x t) (.int (m.fmod 2) u)) Q E s :=
  item_in (fmod_two m).1 (by rw [hx]; exact (fmod_two m).2) (by rw [hx]; decide) h hs ht
theorem item_kind {m : Int} (h0 : 0 ≤ m) (h1 : m < 65536) (h : (Txt.item (Str.ofString "?pc?d?b?-?l?s???") (m.fdiv 4096)).length = 1 → Q (.str (Txt.item (Str.ofString "?pc?d?b?-?l?s???") (m.fdiv 4096)) s.toks) { s with toks := s.toks + 1 })
    (hs : subscripted slice false (.str (Str.ofString "?pc?d?b?-?l?s???") t) (.int (m.fdiv 4096) u) = operate [.str (Str.ofString "?pc?d?b?-?l?s???") t, .int (m.fdiv 4096) u] (getItem (.str (Str.ofString "?pc?d?b?-?l?s???") t) (.int (m.fdiv 4096) u)) := by with_unfolding_all rfl)
    (ht : ∀ r, letTemporaryGo value (.str (Str.ofString "?pc?d?b?-?l?s???") t) r = pure () := by intro _; with_unfolding_all rfl) : wpAny (model prog w) A (subscriptTail value slice (.str (Str.ofString "?pc?d?b?-?l?s???") t) (.int (m.fdiv 4096) u)) Q E s := by
  have e : m.fdiv 4096 = m / 4096 := Int.fdiv_eq_ediv_of_nonneg _ (by decide)
  exact item_in (by omega) (show m.fdiv 4096 < ((16 : Nat) : Int) by omega) (by decide) h hs ht
theorem item_menu {h₀ : Heap} {L l : Addr} {news : List (Addr × Obj)} {t0 t1 t2 : Tok} {n : Nat} {k : Int} (N : News h₀ L s.heap news)
    (hm : (l, PySem.W.listOf #[.str (Str.ofString "Ss") t0, .str (Str.ofString "Ss") t1, .str (Str.ofString "Tt") t2] n) ∈ news) (h0 : 0 ≤ k) (h1 : k < 9)
    (h : ∀ X t', X = (if k.fdiv 3 = 2 then Str.ofString "Tt" else Str.ofString "Ss") → X.length = 2 → Q (.str X t') s)
    (hs : subscripted slice false (.ref l) (.int (k.fdiv 3) u) = operate [.ref l, .int (k.fdiv 3) u] (getItem (.ref l) (.int (k.fdiv 3) u)) := by with_unfolding_all rfl) :
    wpAny (model prog w) A (subscriptTail value slice (.ref l) (.int (k.fdiv 3) u)) Q E s := by
  have e : k.fdiv 3 = k / 3 := Int.fdiv_eq_ediv_of_nonneg _ (by decide)
  have hn : k / 3 = 0 ∨ k / 3 = 1 ∨ k / 3 = 2 := by omega
  refine KTb.item_list (ws := [Str.ofString "Ss", Str.ofString "Ss", Str.ofString "Tt"]) (News.isList N hm) (.cons _ _ (.cons _ _ (.cons _ _ .nil))) (by omega) (show k.fdiv 3 < ((3 : Nat) : Int) by omega) (by omega) (fun t' _ => h _ t' ?_ ?_) hs
  · rw [e]; rcases hn with q | q | q <;> rw [q] <;> rfl
  · rw [e]; rcases hn with q | q | q <;> rw [q] <;> rfl
end
end Mine
/-! part LsH -/
namespace Mine
set_option maxRecDepth 100000 in
set_option maxHeartbeats 8000000 in
theorem c_signs (w : World) (mean) (mg mb) (news) (mode : Int) (tm : Tok) (h0 : 0 ≤ mode) (h1 : mode < 65536) : Con 2 w mean mg mb 82 news [.int mode tm] (fun v => ∃ t, v = .str (lsText mode 9) t) := by
  k_with_none
  (k_with "mSameF" => (intro z h1 h2 h3; simp only [List.forall_mem_cons, List.not_mem_nil, false_implies, implies_true, and_true, ne_eq] at h2; simp only [List.contains_cons, List.contains_nil, Bool.or_false, Bool.or_eq_false_iff, beq_eq_false_iff_ne, ne_eq] at h3; simp [h1, h2, h3, kstB]))
  (k_with "mStop" => ((fail_if_success (with_reducible show wpAny _ _ (exec (Stmt.For _ _ _ _ _) _) _ _ _)); (fail_if_success (with_reducible show wpAny _ _ (pyIter _) _ _ _)); (fail_if_success (with_reducible show InvEndN _ _ _ _ _ _ _))))
  (k_with "mPow" => ((with_reducible show wpAny _ _ (binaryOp Operator.Pow _ _) _ _ _); (first | with_reducible refine pow_a (by assumption) (by assumption) ?_ | with_reducible refine pow_b (by assumption) (by assumption) ?_); intro P hP hP0 hP1; (try dsimp only)))
  (k_with "mDiv" => ((with_reducible show wpAny _ _ (binaryOp Operator.FloorDiv (Value.int _ _) (Value.int _ _)) _ _ _); (with_reducible refine div_small (by assumption) (by assumption) ?_); (try dsimp only)))
  (k_with "mItem" => ((with_reducible show wpAny _ _ (subscriptTail _ _ _ (Value.int _ _)) _ _ _); (first | with_reducible refine item_rwx ?_ | with_reducible refine item_kind (by assumption) (by assumption) ?_ | with_reducible refine item_two (by assumption) ?_); intro _; (try dsimp only)))
  (k_with "mMenu" => ((with_reducible show wpAny _ _ (subscriptTail _ _ (Value.ref _) (Value.int _ _)) _ _ _); with_reducible refine item_menu (by assumption) (List.Mem.head _) (by assumption) (by assumption) ?_; intro X _ hX hX2; (try dsimp only)))
  (k_with "mS" => repeat' (walk_at "mStop"; first | walk_at "mPow" | walk_at "mDiv" | walk_at "mItem" | walk_at "mMenu" | (k_unfold; (try dsimp only)) | walk1 | (dsimp only; walk1) | (leave1; try dsimp only)))
  w_top off
  unfold Con
  k_fill
  intro dp un gd cn cs a ccd cl outer A₀ base h₀ L m s Q E B F X N T hk hd hu hret
  refine wpAny_call ?_
  k_dflt cell_enter
  rename_i g1 L1 hh1 FG1 F1 N1 B1 X1 T1
  walk_at "mS"
  have hx0 := ls_zero mode
  rename (_ = 1) => kxiE
  generalize Txt.item (Str.ofString "?pc?d?b?-?l?s???") (mode.fdiv 4096) = x0 at *
  rename (Fr _ _ _ _) => F9
  with_unfolding_all refine For_invVF F9 rfl rfl ?_
  walk_at "mS"
  · (k_with "state" => exact ls_start hx0 kxiE)
    k_state (fun (pre : List Int) (text : Str) => text = lsText mode pre.length ∧ text.length = pre.length + 1) "text"
    · have kLt : kPre.length < 9 := by omega
      have k0 : 0 ≤ kN := by omega
      have k9 : kN < 9 := by omega
      rename (_ = lsText mode _) => hT1
      rename (Str.length _ = _ + 1) => hT2
      walk_at "mS"
      all_goals
        refine kst_end ⟨_, _⟩ (by assumption) (by assumption) (fun p hp => ?a1) (fun p hp => ?a2) rfl trivial (by kst_all) (by walk_at "mSameF") (ls_step ⟨hT1, hT2⟩ ?a3 (by assumption))
        case a1 => first | exact List.Mem.tail _ (List.mem_append.mpr (.inl hp)) | exact List.Mem.tail _ (List.Mem.tail _ (List.mem_append.mpr (.inl hp)))
        case a2 => first | exact List.Mem.tail _ (List.mem_append.mpr (.inr hp)) | exact List.Mem.tail _ (List.Mem.tail _ (List.mem_append.mpr (.inr hp)))
        case a3 => with_reducible first
          | exact ls_set kEq kLt (by assumption) (by assumption) (by assumption) (by assumption) (by assumption)
          | exact ls_bare kEq kLt (by assumption) (by assumption) (fun z => absurd z.1 (by assumption))
          | exact ls_bare kEq kLt (by assumption) (by assumption) (fun z => absurd z.2 (by assumption))
    · walk_at "mS"
      rename (_ = lsText mode _) => e9
      rw [rangeKs_length] at e9
      exact hret _ _ _ (post_str e9) (by assumption) (by assumption)
end Mine
/-! part BitM -/
namespace Mine
theorem pow_split {j k : Nat} (h : j < k) : (2 : Int) ^ k = 2 ^ j * (2 * 2 ^ (k - j - 1)) := by
  obtain ⟨d, rfl⟩ : ∃ d, k = j + (d + 1) := ⟨k - j - 1, by omega⟩
  rw [show j + (d + 1) - j - 1 = d by omega, Int.pow_add, Int.pow_succ, Int.mul_comm (2 ^ d) 2]
theorem pow_pos' (k : Nat) : (0 : Int) < 2 ^ k := Int.pow_pos (by decide)
/-- a number whose bit at j is turned -/
theorem flip_form (t : Int) (j : Nat) : ∃ z : Int, t + 2 ^ j - 2 * ((t / 2 ^ j % 2) * 2 ^ j) = t + 2 ^ j * z ∧ (t / 2 ^ j % 2 = 0 ∧ z = 1 ∨ t / 2 ^ j % 2 = 1 ∧ z = -1) := by
  have h01 : t / 2 ^ j % 2 = 0 ∨ t / 2 ^ j % 2 = 1 := by omega
  rcases h01 with e | e
  · exact ⟨1, by rw [e]; simp, .inl ⟨e, rfl⟩⟩
  · exact ⟨-1, by rw [e]; omega, .inr ⟨e, rfl⟩⟩
theorem flip_hi (t : Int) {j k : Nat} (h : j < k) : (t + 2 ^ j - 2 * ((t / 2 ^ j % 2) * 2 ^ j)) / 2 ^ k = t / 2 ^ k := by
  obtain ⟨z, e, hz⟩ := flip_form t j
  rw [e, pow_split h, ← Int.ediv_ediv_of_nonneg (Int.le_of_lt (pow_pos' j)), ← Int.ediv_ediv_of_nonneg (Int.le_of_lt (pow_pos' j)), ← Int.ediv_ediv_of_nonneg (by decide), ← Int.ediv_ediv_of_nonneg (by decide), Int.add_mul_ediv_left _ _ (Int.ne_of_gt (pow_pos' j))]
  congr 1
  omega
theorem flip_lo (t : Int) {j k : Nat} (h : k < j) : (t + 2 ^ j - 2 * ((t / 2 ^ j % 2) * 2 ^ j)) / 2 ^ k % 2 = t / 2 ^ k % 2 := by
  obtain ⟨z, e, hz⟩ := flip_form t j
  rw [e, pow_split h, Int.mul_assoc, Int.add_mul_ediv_left _ _ (Int.ne_of_gt (pow_pos' k)), Int.mul_assoc]
  omega
theorem bit_flip (t : Int) (j k : Nat) : (t + 2 ^ j - 2 * ((t / 2 ^ j % 2) * 2 ^ j)) / 2 ^ k % 2 = if k = j then 1 - t / 2 ^ k % 2 else t / 2 ^ k % 2 := by
  by_cases h : k = j
  · subst h
    rw [if_pos rfl]
    obtain ⟨z, e, hz⟩ := flip_form t k
    rw [e, Int.add_mul_ediv_left _ _ (Int.ne_of_gt (pow_pos' k))]
    omega
  · rw [if_neg h]
    by_cases h2 : k < j
    · exact flip_lo t h2
    · rw [flip_hi t (by omega)]
theorem bit_high (t : Int) (h0 : 0 ≤ t) (h1 : t < 4096) {j : Nat} (hj : j < 9) : (t + 2 ^ j - 2 * ((t / 2 ^ j % 2) * 2 ^ j)) / 512 = t / 512 ∧ 0 ≤ t + 2 ^ j - 2 * ((t / 2 ^ j % 2) * 2 ^ j) ∧ t + 2 ^ j - 2 * ((t / 2 ^ j % 2) * 2 ^ j) < 4096 := by
  have h := flip_hi t hj
  rw [show (2 : Int) ^ 9 = 512 from rfl] at h
  generalize t + 2 ^ j - 2 * ((t / 2 ^ j % 2) * 2 ^ j) = t' at *
  omega
theorem bit_m (kv r : Int) {k : Nat} (hk : k < 12) : (kv * 4096 + r) / 2 ^ k % 2 = r / 2 ^ k % 2 := by
  rw [show (4096 : Int) = 2 ^ 12 from rfl, pow_split hk, Int.add_comm, show kv * (2 ^ k * (2 * 2 ^ (12 - k - 1))) = 2 ^ k * (2 * (2 ^ (12 - k - 1) * kv)) by
    rw [Int.mul_comm kv, Int.mul_assoc, Int.mul_assoc], Int.add_mul_ediv_left _ _ (Int.ne_of_gt (pow_pos' k))]
  omega
end Mine
/-! part TurnM -/
namespace Mine
/-- n of the nine places are turned -/
def TurnP (B : Int) (n : Nat) (told : Int) (rest : List Int) : Prop :=
  ∃ ps : List Int, ps.length = n ∧ (ps ++ rest).Perm [0, 1, 2, 3, 4, 5, 6, 7, 8] ∧ 0 ≤ told ∧ told < 4096 ∧ told / 512 = B / 512 ∧ ∀ k : Nat, k < 9 → (told / 2 ^ k % 2 = B / 2 ^ k % 2 ↔ ¬ (k : Int) ∈ ps)
theorem nine {k : Nat} (h : k < 9) : k = 0 ∨ k = 1 ∨ k = 2 ∨ k = 3 ∨ k = 4 ∨ k = 5 ∨ k = 6 ∨ k = 7 ∨ k = 8 := by
  have key : ∀ k, k < 9 → k = 0 ∨ k = 1 ∨ k = 2 ∨ k = 3 ∨ k = 4 ∨ k = 5 ∨ k = 6 ∨ k = 7 ∨ k = 8 := by decide
  exact key k h
theorem in_nine : ∀ p ∈ ([0, 1, 2, 3, 4, 5, 6, 7, 8] : List Int), 0 ≤ p ∧ p ≤ 8 := by decide
theorem turn_start {B told : Int} (h : told = B) (h0 : 0 ≤ B) (h1 : B < 4096) : TurnP B ([] : List Int).length told (rangeInts 0 1 9) := by
  subst h
  exact ⟨[], rfl, List.Perm.refl _, h0, h1, rfl, fun k _ => by simp⟩
theorem turn_mem {B told p : Int} {n : Nat} {rest : List Int} (h : TurnP B n told rest) (hp : p ∈ rest) : 0 ≤ p ∧ p ≤ 8 := by
  obtain ⟨ps, _, h2, _⟩ := h
  exact in_nine p (h2.mem_iff.mp (List.mem_append.mpr (.inr hp)))
theorem turn_len {B told : Int} {n : Nat} {rest : List Int} (h : TurnP B n told rest) : n + rest.length = 9 := by
  obtain ⟨ps, h1, h2, _⟩ := h
  have := h2.length_eq
  simp at this; omega
theorem turn_step {B told p : Int} {n : Nat} {pre post : List Int} (h : TurnP B n told (pre ++ p :: post)) : TurnP B (n + 1) (Builtin.bitXor told (2 ^ p.toNat)) (pre ++ post) := by
  have hp := turn_mem h (List.mem_append.mpr (.inr (List.Mem.head _)))
  obtain ⟨ps, h1, h2, h3, h4, h5, h6⟩ := h
  obtain ⟨j, rfl⟩ : ∃ j : Nat, p = (j : Int) := ⟨p.toNat, by omega⟩
  have hj : j < 9 := by omega
  have hnd : (ps ++ (pre ++ (j : Int) :: post)).Nodup := h2.nodup_iff.mpr (by decide)
  have hjp : ¬ (j : Int) ∈ ps := fun hm => (List.nodup_append.mp hnd).2.2 _ hm _ (List.mem_append.mpr (.inr (List.Mem.head _))) rfl
  have ej : ((j : Int)).toNat = j := by omega
  have ex : Builtin.bitXor told (2 ^ ((j : Int)).toNat) = told + 2 ^ j - 2 * ((told / 2 ^ j % 2) * 2 ^ j) := by rw [ej, bitXor_and, kbt_bit]
  rw [ex]
  obtain ⟨b1, b2, b3⟩ := bit_high told h3 h4 hj
  refine ⟨(j : Int) :: ps, by simp [h1], ?_, b2, b3, by rw [b1, h5], fun k hk => ?_⟩
  · refine List.Perm.trans ?_ h2
    have e1 : ((j : Int) :: ps ++ (pre ++ post)).Perm ((j : Int) :: (ps ++ (pre ++ post))) := List.Perm.refl _
    have e2 : (ps ++ (pre ++ (j : Int) :: post)) = (ps ++ pre) ++ (j : Int) :: post := by simp
    rw [e2]
    refine e1.trans (List.Perm.symm ?_)
    have := List.perm_middle (a := (j : Int)) (l₁ := ps ++ pre) (l₂ := post)
    simpa using this
  · rw [bit_flip told j k]
    by_cases e : k = j
    · subst e
      have := (h6 k hk).mpr hjp
      rw [if_pos rfl]
      constructor
      · intro q; exfalso; omega
      · intro q; exact absurd (List.Mem.head _) q
    · rw [if_neg e, h6 k hk]
      have : ¬ (k : Int) = (j : Int) := by omega
      simp [this]
/-- a cut at a place within -/
theorem cut_ints {us : List Value} {l : List Int} (hi : IntsAre us l) : ∀ {k : Nat}, k < us.length → ∃ (p q : List Value) (y : Value) (t : Tok) (pre post : List Int) (j : Int), kl_cut us k = some (p, y, q) ∧ y = Value.int j t ∧ l = pre ++ j :: post ∧ IntsAre (p ++ q) (pre ++ post) := by
  induction hi with
  | nil => intro k h; simp at h
  | cons n t r ih =>
    rename_i vs ns
    intro k h
    cases k with
    | zero => exact ⟨[], vs, _, t, [], ns, n, rfl, rfl, rfl, r⟩
    | succ k =>
      obtain ⟨p, q, y, t', pre, post, j, e1, e2, e3, e4⟩ := ih (by simpa using h)
      refine ⟨.int n t :: p, q, y, t', n :: pre, post, j, ?_, e2, by rw [e3]; rfl, .cons _ _ e4⟩
      show (match kl_cut vs k with | some (p, y, q) => some (Value.int n t :: p, y, q) | none => none) = _
      rw [e1]
section
variable {prog : Program} {w : World} {A : Around} {E : Value → Shared → Prop} {s : Shared} {h₀ : Heap} {L D : Addr} {m : Str → Option Value} {news : List (Addr × Obj)} {n : Nat}
theorem pop_ints {us : List Value} {l : List Int} {i : Int} {u : Tok} {news' : List Value → List (Addr × Obj)} {Q : Value → Shared → Prop} (F : Fr h₀ L s.heap m) (N : News h₀ L s.heap news)
    (U : ∀ us', Upd D (listOf us.toArray n) (listOf us'.toArray (n + 1)) news (news' us')) (hi : IntsAre us l) (h0 : 0 ≤ i) (h1 : i < us.length) (hz : us.length ≤ 1000)
    (h : ∀ h' j t us' pre post, Fr h₀ L h' m → News h₀ L h' (news' us') → IntsAre us' (pre ++ post) → l = pre ++ j :: post → Q (.int j t) { s with heap := h' }) : wpAny (model prog w) A (call (.builtin "list.pop") [.ref D, .int i u]) Q E s := by
  obtain ⟨p, q, y, t, pre, post, j, e1, rfl, e3, e4⟩ := cut_ints hi (k := i.toNat) (by omega)
  refine kl_popAt F N (k := i.toNat) (p := p) (q := q) (y := .int j t) ?_ ?_ (by simpa using e1) (U _) (by rw [PySem.sizeLine_eq]; simp; omega) fun h' F' N' => h h' j t _ pre post F' N' e4 e3
  · unfold Builtin.List.listFitsIndex
    simp; omega
  · unfold seqIndex?
    have : ¬ i < 0 := by omega
    simp [this]; omega
end
end Mine
/-! part Turned -/
namespace Mine
theorem fmod_4096 (x : Int) : x.fmod 4096 = x % 4096 := Int.fmod_eq_emod_of_nonneg _ (by decide)
section
variable {α : Type} {P : α → Prop} {X D V U : α} {R o : List α}
theorem drop_second (h : ∀ z ∈ X :: D :: V :: U :: R, P z) : ∀ z ∈ X :: V :: U :: R, P z := fun z hz => h z (by
  rcases List.mem_cons.mp hz with rfl | hz
  · exact List.Mem.head _
  · exact List.Mem.tail _ (List.Mem.tail _ hz))
theorem keep_three {z : α} (hz : z ∈ X :: V :: U :: R) : z ∈ X :: V :: U :: (R ++ o) := by
  simp only [List.mem_cons, List.mem_append] at hz ⊢
  rcases hz with h | h | h | h <;> simp [h]
theorem own_three {z : α} (hz : z ∈ o) : z ∈ X :: V :: U :: (R ++ o) := List.Mem.tail _ (List.Mem.tail _ (List.Mem.tail _ (List.mem_append.mpr (.inr hz))))
end
set_option maxRecDepth 100000 in
set_option maxHeartbeats 8000000 in
theorem c_turned (w : World) (mean) (mg mb) (R : List (Addr × Obj)) (l : Addr) (e : Nat) (a0 a1 a2 a3 a4 : Int) (t0 t1 t2 t3 t4 : Tok) :
    Con 2 w mean mg mb 89 ((l, PySem.W.listOf #[.int a0 t0, .int a1 t1, .int a2 t2, .int a3 t3, .int a4 t4] e) :: R) [.ref l] (fun v => ∃ r t, v = .int r t ∧ ∃ rest, TurnP (a0 % 4096) 4 r rest) := by
  k_with_none
  (k_with "mSameF" => (intro z h1 h2 h3; simp only [List.forall_mem_cons, List.not_mem_nil, false_implies, implies_true, and_true, ne_eq] at h2; simp only [List.contains_cons, List.contains_nil, Bool.or_false, Bool.or_eq_false_iff, beq_eq_false_iff_ne, ne_eq] at h3; simp [h1, h2, h3, kstB]))
  (k_with "mStop" => ((fail_if_success (with_reducible show wpAny _ _ (exec (Stmt.While _ _ _ _) _) _ _ _)); (fail_if_success (with_reducible show wpAny _ _ (exec (Stmt.For _ _ _ _ _) _) _ _ _)); (fail_if_success (with_reducible show wpAny _ _ (call (Value.type "list") [Value.ref _]) _ _ _)); (fail_if_success (with_reducible show wpAny _ _ (pyIter _) _ _ _)); (fail_if_success (with_reducible show wpAny _ _ (call (Value.builtin "list.pop") _) _ _ _)); (fail_if_success (with_reducible show InvEndN _ _ _ _ _ _ _))))
  (k_with "mS" => repeat' (walk_at "mStop"; first | (k_unfold; (try dsimp only)) | walk1 | (dsimp only; walk1) | (leave1; try dsimp only)))
  w_top off
  unfold Con
  k_fill
  intro dp un gd cn cs a ccd cl outer A₀ base h₀ L m s Q E B F X N T hk hd hu hret
  refine wpAny_call ?_
  k_dflt cell_enter
  rename_i g1 L1 hh1 FG1 F1 N1 B1 X1 T1
  walk_at "mS"
  rename_i hr _ _ _ _ hrange hF hN _
  obtain ⟨lr, hlr⟩ : ∃ l, l = hr.objs.size := ⟨_, rfl⟩
  refine list_rangeD (n := 9) rfl hF hN hrange (by decide) (by decide) (by omega) ?_
  intro h7 tk7 ys F7 N7 hkeep hfresh _ hNP hcar
  simp only [← hlr] at hfresh hNP ⊢
  have hints := IntsAre.ofCarried hcar
  obtain ⟨ep0, N8⟩ := news_list F7 N7 hfresh hNP
  have hnl := hNP.2
  clear hF hN hrange N7 hkeep hcar hNP hfresh
  walk_at "mS"
  rename (Fr _ _ _ _) => F9
  with_unfolding_all refine For_invVF F9 rfl rfl ?_
  walk_at "mS"
  rename (Fr g1 L1 _ _) => FX
  rename (News g1 L1 _ _) => NX
  rename_i lX _ hX
  have hP0 : TurnP (a0 % 4096) 0 (([a0, a1, a2, a3, a4].getD (Int.toNat 0) 0).fmod 4096) (rangeInts 0 1 9) := turn_start (fmod_4096 _) (Int.emod_nonneg _ (by decide)) (Int.emod_lt_of_pos _ (by decide))
  have hXr : lr < lX := hX.2.1
  have hlr' : l ≠ lr := hnl _ (List.Mem.head _)
  have hRr : ∀ p ∈ R, p.1 ≠ lr := fun p hp => hnl p (List.Mem.tail _ hp)
  refine kst_vals (σ := Int × Tok × List Value × List Int × Nat) (vs := [.int a1 t1, .int a2 t2, .int a3 t3, .int a4 t4]) (nn := 0)
    (fun c => (lX, PySem.W.listOf #[.int a1 t1, .int a2 t2, .int a3 t3, .int a4 t4] 0) :: (lr, PySem.W.listOf c.2.2.1.toArray c.2.2.2.2) :: (l, PySem.W.listOf #[.int a0 t0, .int a1 t1, .int a2 t2, .int a3 t3, .int a4 t4] e) :: R)
    (fun c => [(Str.ofString "told", .int c.1 c.2.1)]) (fun c => IntsAre c.2.2.1 c.2.2.2.1) []
    (fun i c => TurnP (a0 % 4096) i c.1 c.2.2.2.1) (([a0, a1, a2, a3, a4].getD (Int.toNat 0) 0).fmod 4096, ?tk0, ys, rangeInts 0 1 9, ep0) rfl (fun c => List.Mem.head _) FX (drop_second NX) hints (fun p hp => by rw [List.mem_singleton.mp hp]; rfl) hP0 ?turn ?done
  case turn =>
    rintro ⟨told, tt, vs, ns, ev⟩ i v u h tk own hv hoff hI hP F5 N5
    clear FX NX
    dsimp only at hI hP F5 N5
    obtain ⟨x, tx, rfl⟩ : ∃ x tx, v = Value.int x tx := by
      rcases i with _ | _ | _ | _ | i
      · exact ⟨_, _, (Option.some.inj hv).symm⟩
      · exact ⟨_, _, (Option.some.inj hv).symm⟩
      · exact ⟨_, _, (Option.some.inj hv).symm⟩
      · exact ⟨_, _, (Option.some.inj hv).symm⟩
      · simp at hv
    have hi : i < 4 := by
      have := (List.getElem?_eq_some_iff.mp hv).1
      simpa using this
    have hvl : vs.length = ns.length := IntsAre.length hI
    have hlen := turn_len hP
    have hvpos : (0 : Int) < vs.length := by omega
    have hoR : ∀ p ∈ own, p.1 ≠ lr := fun p hp => hoff p hp lr (by simp)
    clear hv hP0
    have N6 : News g1 L1 h ((lX, PySem.W.listOf #[.int a1 t1, .int a2 t2, .int a3 t3, .int a4 t4] 0) :: (lr, PySem.W.listOf vs.toArray ev) :: (l, PySem.W.listOf #[.int a0 t0, .int a1 t1, .int a2 t2, .int a3 t3, .int a4 t4] e) :: (R ++ own)) := N5
    clear N5
    refine wp_genQ ?_
    intro Qt hQt
    walk_at "mS"
    k_here
    have hnpos : (0 : Int) < ns.length := by omega
    k_dflt (refine' pop_ints (news' := fun us' => (lX, PySem.W.listOf #[.int a1 t1, .int a2 t2, .int a3 t3, .int a4 t4] 0) :: (lr, PySem.W.listOf us'.toArray (ev + 1)) :: (l, PySem.W.listOf #[.int a0 t0, .int a1 t1, .int a2 t2, .int a3 t3, .int a4 t4] e) :: (R ++ own)) ?F ?N ?U hI ?h0 ?h1 ?hz ?_)
    case F => k_asm
    case N => k_asm
    case U => exact fun us' => Upd.tail (Nat.ne_of_gt hXr) (Upd.head (List.forall_mem_cons.mpr ⟨hlr', all_ne_app hRr hoR⟩))
    case h0 => exact Int.fmod_nonneg_of_pos _ hnpos
    case h1 => rw [hvl]; exact Int.fmod_lt_of_pos _ hnpos
    case hz => omega
    rename (Fr g1 L1 _ _) => FY
    rename (News g1 L1 _ _) => NY
    clear FY NY
    intro h' j t us' pre post F' N' hI' hns
    subst hns
    have hj := turn_mem hP (List.mem_append.mpr (.inr (List.Mem.head _)))
    with_reducible refine pow_int_small (by omega) (by omega) (by decide) ?_
    dsimp only
    refine xor_int ?_
    dsimp only
    have hst := turn_step hP
    generalize Builtin.bitXor told (2 ^ j.toNat) = told' at *
    walk_at "mS"
    refine hQt _ _ ?_
    walk_at "mS"
    refine kst_end ⟨told', _, us', pre ++ post, ev + 1⟩ (by assumption) (by assumption) (fun p hp => keep_three hp) (fun p hp => own_three hp) rfl hI' (by kst_all) (by walk_at "mSameF") ?_
    · dsimp only
      rw [List.length_replicate]
      exact hst
  case done =>
    rintro ⟨told, tt, vs, ns, ev⟩ u h tk hI hP F5 N5
    clear FX NX
    dsimp only at hI hP F5 N5 ⊢
    walk_at "mS"
    refine hret _ _ _ ⟨_, _, rfl, _, hP⟩ (by assumption) ?_
    rename (News h₀ L _ _) => kN
    exact fun p hp => kN p (List.Mem.tail _ (List.Mem.tail _ hp))
end Mine
/-! part SignM -/
namespace Mine
/-- a right's sign by its bit and its row's set bit -/
noncomputable def sgnF (t : Nat) (b s : Int) : Nat :=
  if t % 3 = 2 ∧ s = 1 then (if b = 1 then (if t = 8 then 116 else 115) else (if t = 8 then 84 else 83)) else if b = 1 then (if t % 3 = 0 then 114 else if t % 3 = 1 then 119 else 120) else 45
theorem bitAnd_nat {x : Int} {m : Nat} (h : 0 ≤ x) : Builtin.bitAnd x (m : Int) = ((x.toNat &&& m : Nat) : Int) := by
  have hm : (0 : Int) ≤ (m : Int) := by omega
  unfold Builtin.bitAnd
  simp [h, hm]
theorem and_pow (n k : Nat) : n &&& 2 ^ k = (n / 2 ^ k % 2) * 2 ^ k := kbt_nat k n
theorem two_cases (b : Nat) (h : b < 2) : b = 0 ∨ b = 1 := by omega
theorem bit_and {x : Int} (p k : Nat) (hp : p = 2 ^ k) : (Builtin.bitAnd x (p : Int) == (p : Int)) = decide (x / (p : Int) % 2 = 1) := by
  have e : Builtin.bitAnd x (p : Int) = (x / (p : Int) % 2) * (p : Int) := by
    have := kbt_bit x k
    rw [← kbt_cast, ← hp] at this
    exact this
  rw [e]
  have hp : (0 : Int) < (p : Int) := by have := Nat.two_pow_pos k; omega
  have hb : x / (p : Int) % 2 = 0 ∨ x / (p : Int) % 2 = 1 := by omega
  rcases hb with hb | hb <;> rw [hb]
  · have : ¬ (0 : Int) * (p : Int) = (p : Int) := by omega
    simp; omega
  · simp
theorem bit_and2 {x : Int} (h : 0 ≤ x) {m p q i j : Nat} (hp : p = 2 ^ i) (hq : q = 2 ^ j) (hm : m = p ||| q) (h00 : 0 * p ||| 0 * q ≠ m) (h01 : 0 * p ||| 1 * q ≠ m) (h10 : 1 * p ||| 0 * q ≠ m) (h11 : 1 * p ||| 1 * q = m) :
    (Builtin.bitAnd x (m : Int) == (m : Int)) = (decide (x / (p : Int) % 2 = 1) && decide (x / (q : Int) % 2 = 1)) := by
  obtain ⟨n, rfl⟩ : ∃ n : Nat, x = (n : Int) := ⟨x.toNat, by omega⟩
  rw [bitAnd_nat h]
  have e : ((n : Int)).toNat = n := by omega
  have e2 : n &&& m = (n / p % 2) * p ||| (n / q % 2) * q := by rw [hm, Nat.and_or_distrib_left, hp, hq, and_pow, and_pow]
  have ci : ((n : Int) / (p : Int) % 2 = 1) ↔ n / p % 2 = 1 := by
    rw [← Int.natCast_ediv]; omega
  have cj : ((n : Int) / (q : Int) % 2 = 1) ↔ n / q % 2 = 1 := by
    rw [← Int.natCast_ediv]; omega
  rw [e, e2]
  simp only [ci, cj]
  have key : ∀ z : Nat, (((z : Nat) : Int) == (m : Int)) = decide (z = m) := fun z => by
    by_cases e : z = m
    · simp [e]
    · have : ¬ (z : Int) = (m : Int) := by omega
      rw [decide_eq_false e]; exact beq_eq_false_iff_ne.mpr this
  rw [key]
  rcases two_cases _ (Nat.mod_lt (n / p) (by decide : 0 < 2)) with a | a <;> rcases two_cases _ (Nat.mod_lt (n / q) (by decide : 0 < 2)) with b | b <;> rw [a, b]
  · simp only [h00, decide_false]; rfl
  · simp only [h01, decide_false]; rfl
  · simp only [h10, decide_false]; rfl
  · simp only [h11, decide_true]; rfl
theorem hit_one {mode : Int} {i : Nat} (p k : Nat) (hp : p = 2 ^ k) (hi : i ≠ 0) : fmHit mode i (p : Int) = decide (mode / (p : Int) % 2 = 1) := by
  rw [fmHit, if_neg hi, bit_and p k hp]
theorem sign_one {mode : Int} {i c : Nat} (p k : Nat) (hp : p = 2 ^ k) (hi : i ≠ 0) (ht : fmTab i = [((p : Int), c)]) : fmSign mode i = if mode / (p : Int) % 2 = 1 then c else 45 := by
  rw [fmSign, ht, List.find?_cons]
  show (match (match fmHit mode i (p : Int) with | true => some ((p : Int), c) | false => _) with | some p => p.2 | none => if i = 0 then 63 else 45) = _
  rw [hit_one p k hp hi]
  by_cases e : mode / (p : Int) % 2 = 1
  · rw [if_pos e, decide_eq_true e]
  · rw [if_neg e, decide_eq_false e]; exact if_neg hi
theorem sign_three {mode : Int} (h : 0 ≤ mode) {i c1 c2 c3 : Nat} (m p q a b : Nat) (hp : p = 2 ^ a) (hq : q = 2 ^ b) (hi : i ≠ 0) (ht : fmTab i = [((m : Int), c1), ((p : Int), c2), ((q : Int), c3)]) (hm : m = p ||| q) (h00 : 0 * p ||| 0 * q ≠ m) (h01 : 0 * p ||| 1 * q ≠ m) (h10 : 1 * p ||| 0 * q ≠ m) (h11 : 1 * p ||| 1 * q = m) :
    fmSign mode i = if mode / (p : Int) % 2 = 1 then (if mode / (q : Int) % 2 = 1 then c1 else c2) else if mode / (q : Int) % 2 = 1 then c3 else 45 := by
  have e1 : fmHit mode i (m : Int) = (decide (mode / (p : Int) % 2 = 1) && decide (mode / (q : Int) % 2 = 1)) := by
    rw [fmHit, if_neg hi, bit_and2 h hp hq hm h00 h01 h10 h11]
  rw [fmSign, ht, List.find?_cons, List.find?_cons, List.find?_cons]
  show (match (match fmHit mode i (m : Int) with | true => some ((m : Int), c1) | false => (match fmHit mode i (p : Int) with | true => some ((p : Int), c2) | false => (match fmHit mode i (q : Int) with | true => some ((q : Int), c3) | false => _))) with | some p => p.2 | none => if i = 0 then 63 else 45) = _
  rw [e1, hit_one p a hp hi, hit_one q b hq hi]
  by_cases e : mode / (p : Int) % 2 = 1 <;> by_cases f : mode / (q : Int) % 2 = 1
  · rw [decide_eq_true e, decide_eq_true f, if_pos e, if_pos f]; rfl
  · rw [decide_eq_true e, decide_eq_false f, if_pos e, if_neg f]; rfl
  · rw [decide_eq_false e, decide_eq_true f, if_neg e, if_pos f]; rfl
  · rw [decide_eq_false e, decide_eq_false f, if_neg e, if_neg f]; exact if_neg hi
theorem sgn_2 (b s : Int) : sgnF 2 b s = if s = 1 then (if b = 1 then 115 else 83) else if b = 1 then 120 else 45 := by
  unfold sgnF
  by_cases hs : s = 1 <;> by_cases hb : b = 1 <;> simp [hs, hb]
theorem sgn_5 (b s : Int) : sgnF 5 b s = if s = 1 then (if b = 1 then 115 else 83) else if b = 1 then 120 else 45 := by
  unfold sgnF
  by_cases hs : s = 1 <;> by_cases hb : b = 1 <;> simp [hs, hb]
theorem sgn_8 (b s : Int) : sgnF 8 b s = if s = 1 then (if b = 1 then 116 else 84) else if b = 1 then 120 else 45 := by
  unfold sgnF
  by_cases hs : s = 1 <;> by_cases hb : b = 1 <;> simp [hs, hb]
theorem sign_rights {mode : Int} (h : 0 ≤ mode) {t : Nat} (ht : t < 9) : fmSign mode (t + 1) = sgnF t (mode / 2 ^ (8 - t) % 2) (mode / 2 ^ (11 - t / 3) % 2) := by
  rcases nine ht with rfl | rfl | rfl | rfl | rfl | rfl | rfl | rfl | rfl
  · exact sign_one 256 8 rfl (by decide) rfl
  · exact sign_one 128 7 rfl (by decide) rfl
  · rw [sign_three h 2112 2048 64 11 6 rfl rfl (by decide) rfl (by decide) (by decide) (by decide) (by decide) (by decide), sgn_2]; rfl
  · exact sign_one 32 5 rfl (by decide) rfl
  · exact sign_one 16 4 rfl (by decide) rfl
  · rw [sign_three h 1032 1024 8 10 3 rfl rfl (by decide) rfl (by decide) (by decide) (by decide) (by decide) (by decide), sgn_5]; rfl
  · exact sign_one 4 2 rfl (by decide) rfl
  · exact sign_one 2 1 rfl (by decide) rfl
  · rw [sign_three h 513 512 1 9 0 rfl rfl (by decide) rfl (by decide) (by decide) (by decide) (by decide) (by decide), sgn_8]; rfl
end Mine
/-! part LawZip -/
namespace Mine
open PyProof.Rows.LCg PyProof.Rows.LCp
theorem ints5 {vs : List Value} {ns : List Int} (h : IntsAre vs ns) (e : ns.length = 5) : ∃ a0 a1 a2 a3 a4 t0 t1 t2 t3 t4, vs = [Value.int a0 t0, .int a1 t1, .int a2 t2, .int a3 t3, .int a4 t4] ∧ ns = [a0, a1, a2, a3, a4] := by
  obtain _ | ⟨a0, t0, h⟩ := h
  · simp at e
  obtain _ | ⟨a1, t1, h⟩ := h
  · simp at e
  obtain _ | ⟨a2, t2, h⟩ := h
  · simp at e
  obtain _ | ⟨a3, t3, h⟩ := h
  · simp at e
  obtain _ | ⟨a4, t4, h⟩ := h
  · simp at e
  cases h with
  | nil => exact ⟨_, _, _, _, _, _, _, _, _, _, rfl, rfl⟩
  | cons => simp at e
theorem ints_at {vs : List Value} {ns : List Int} (h : IntsAre vs ns) : ∀ {i : Nat} {v : Value}, vs.toArray[i]? = some v → ∃ t, v = .int (ns.getD i 0) t := by
  induction h with
  | nil => intro i v e; simp at e
  | cons n t r ih =>
    intro i v e
    cases i with
    | zero => simp at e; exact ⟨t, by rw [← e]; rfl⟩
    | succ i => simp at e; simpa using ih (i := i) (v := v) (by simpa using e)
theorem zip_apart {n l1 l2 : Nat} (h1 : l1 < n) (h2 : l2 < n) : ZipApart (n + 4) (n + 2) (n + 3) n (n + 1) l1 l2 := by
  constructor <;> exact neN (by omega)
theorem fr_fresh {h₀ h : Heap} {L : Addr} {m : Str → Option Value} (F : Fr h₀ L h m) : ∀ a, h.objs.size ≤ a → h₀.get? a = none := fun a ha => by
  cases e : h₀.get? a with
  | none => rfl
  | some o => exact absurd (Heap.lt_size (F.keep a o e)) (Nat.not_lt.mpr ha)
theorem news_lt {h₀ h : Heap} {L : Addr} {news : List (Addr × Obj)} (N : News h₀ L h news) : ∀ p ∈ news, p.1 < h.objs.size := fun p hp => Heap.lt_size (N p hp).1
theorem mem_zip4' {b n : Nat} (h : b ∈ [n + 4, n + 3, n, n + 1]) : n ≤ b := by simp at h; omega
theorem mem_zip7 {b n l1 l2 : Nat} (h1 : l1 < n) (h2 : l2 < n) (h : b ∈ [n + 4, n + 2, n + 3, n, n + 1, l1, l2]) : b < n + 5 := by simp at h; omega
section
variable {prog : Program} {w : World} {A : Around} {E : Value → Shared → Prop} {s : Shared} {env : Env}
/-- where a comprehension over pairs has its source -/
def ZipAt (prog : Program) (w : World) (A : Around) (env : Env) (elt : PySem.Expr) (a b : Str) (scope : Scope) (cl : List (Str × Addr)) (y : Str) (Q : Flow → Shared → Prop) (it : Value) (s₂ : Shared) : Prop :=
  ∃ (h₀ : Heap) (m : Str → Option Value) (I : Addr) (fp wr : List Addr) (n : Nat) (Pt : Nat → Array Value → Prop) (St : Nat → Heap → Prop) (Mid : Nat → Addr → Heap → Prop) (P2 : Nat → Value → Value → Prop) (news : List (Addr × Obj)) (f : Nat → Int),
    it = .ref I ∧ WalksT prog w A I fp wr n Pt St Mid ∧ (∀ i vals, Pt i vals → ∃ v0 v1, vals = #[v0, v1] ∧ P2 i v0 v1) ∧ n ≤ sizeLine ∧ A.handled = none ∧ St 0 s₂.heap ∧ (∀ b ∈ fp, b < s₂.heap.objs.size) ∧ (∀ b ∈ wr, h₀.get? b = none) ∧ env.locals ∉ wr ∧ (∀ p ∈ news, p.1 ∉ wr) ∧
    Fr h₀ env.locals s₂.heap m ∧ News h₀ env.locals s₂.heap news ∧
    (∀ i v0 v1 C (u : Str → Option Value) h tk (E' : Value → Shared → Prop) (Q' : Value → Shared → Prop), i < n → P2 i v0 v1 → h.Ns C (fun z => if z = b then some v1 else if z = a then some v0 else u z) →
      (∀ t tk', Q' (.int (f i) t) { s₂ with heap := h, toks := tk' }) → wpAny (model prog w) A (eval elt (compEnvC scope cl C env)) Q' E' { s₂ with heap := h, toks := tk }) ∧
    (∀ D h'' tk ys, Fr h₀ env.locals h'' (fun z => if z = y then some (.ref D) else m z) → News h₀ env.locals h'' ((D, lst ys) :: news) → (∀ p ∈ news, p.1 < D) → IntsAre ys ((List.range n).map f) → Q .next { s₂ with heap := h'', toks := tk })
theorem Assign_zip {elt iter : PySem.Expr} {a b y : Str} {pa pb tp py : Pos} {kk : Nat} {scope : Scope} {cl : List (Str × Addr)} {pos spos : Pos} {Q : Flow → Shared → Prop}
    (hsw : swapsWith (.ListComp elt [⟨.Tuple [.Name a pa, .Name b pb] kk tp, iter, [], 0⟩] scope pos) (some (.Name y py)) spos.line env = pure true)
    (hclos : closureFor scope env = pure cl) (hcell : ∀ z ∈ scope.names, z.2 ≠ .cell) (hkind : scope.kind = .function)
    (hnames : ∀ z ∈ scope.names, z.2 = .local → scope.names.lookup z.1 = some .local) (hxa : scope.names.lookup a = some .local) (hxb : scope.names.lookup b = some .local)
    (hy : env.kindOf y = some .local) (hp : (env.scope.kind == .class || (env.scope.kind == .module && env.locals != env.globals)) = false)
    (h : wpAny (model prog w) A (eval iter env) (fun xv s₁ => wpAny (model prog w) A (pyIter xv) (ZipAt prog w A env elt a b scope cl y Q) E s₁) E s)
    (hs : ∀ x, foldedSetIterable iter env x = pure x := by intro _; rfl) :
    wpAny (model prog w) A (exec (.Assign [.Name y py] (.ListComp elt [⟨.Tuple [.Name a pa, .Name b pb] kk tp, iter, [], 0⟩] scope pos) spos) env) Q E s := by
  rw [exec_Assign_Name_used _ _ _ _ hsw]
  refine wpAny_bind (wpAny_standAt (wpAny_bind ?_))
  show wpAny _ A (do let _ ← comprehension (.ListComp elt [⟨.Tuple [.Name a pa, .Name b pb] kk tp, iter, [], 0⟩] scope pos) scope env _ (newList []) false (eval iter env) (some (assign (.Name y py) env))) _ _ s
  refine wpAny_bind (wpAny_mono (wpAny_comprehension_free (use := some (assign (.Name y py) env)) (Q := fun _ s' => Q .next s') rfl hs hclos hkind hnames
    (wpAny_mono h (fun xv s₁ h₁ => wpAny_mono h₁ (fun it s₂ h₂ => ?_) fun _ _ e => e) fun _ _ e => e)) (fun _ s' hq => wpAny_pure (wpAny_pure hq)) fun _ _ e => e)
  obtain ⟨h₀, m, I, fp, wr, n, Pt, St, Mid, P2, news, f, rfl, W, h2, hsz, hh, hst, hfp, hwr, hLw, hnw, F, N, helt, fin⟩ := h₂
  refine pair_block W h2 hsz hcell hkind hxa hxb hh hst hfp hwr hLw hnw F N helt ?_
  intro D C h tk m' ys F' N' offD hn hC₀ hCL hCD offC hI
  show wpAny _ A (assign (.Name y py) env (.ref D)) _ _ _
  refine wpAny_assign_Name (wpAny_storeName_local hy F'.ns (fun h₂ hn₂ hs₂ => ?_) hp)
  have hL₀ : h₀.get? env.locals = none := Heap.get?_none_of_le F'.above
  have F₂ : Fr h₀ env.locals h₂ (fun z => if z = y then some (.ref D) else m z) := ⟨hn₂, fun b o e => hs₂.extBut b o (fun q => by rw [q, hL₀] at e; cases e) (F'.keep b o e), F'.above⟩
  refine ⟨m', hn.sameBut hs₂ hCL, fun h'' hs'' => fin D h'' _ ys (F₂.change hs'' hCL hC₀) (fun p hp => ?_) offD hI⟩
  have z : h₂.get? p.1 = some p.2 := hs₂.extBut _ _ (N' p hp).2.1 (N' p hp).1
  refine ⟨hs''.extBut _ _ ?_ z, (N' p hp).2⟩
  rcases List.mem_cons.mp hp with rfl | hp
  · exact Ne.symm hCD
  · exact offC p hp
theorem call_zip_ints {elt : PySem.Expr} {a b y : Str} {scope : Scope} {cl : List (Str × Addr)} {Q : Flow → Shared → Prop} {h₀ : Heap} {m : Str → Option Value} {news : List (Addr × Obj)} {l1 l2 : Addr} {xs1 xs2 : List Value} {e1 e2 n : Nat} {ns1 ns2 : List Int}
    (hh : A.handled = none) (hh1 : A.in1.handled = none) (F : Fr h₀ env.locals s.heap m) (N : News h₀ env.locals s.heap news) (hm1 : (l1, PySem.W.listOf xs1.toArray e1) ∈ news) (hm2 : (l2, PySem.W.listOf xs2.toArray e2) ∈ news) (I1 : IntsAre xs1 ns1) (I2 : IntsAre xs2 ns2)
    (hn1 : ns1.length = n) (hn2 : ns2.length = n) (hn : n ≤ 1000)
    (helt : ∀ x y u0 u1 C (u : Str → Option Value) h tk (E' : Value → Shared → Prop) (Q' : Value → Shared → Prop), h.Ns C (fun z => if z = b then some (Value.int y u1) else if z = a then some (Value.int x u0) else u z) →
      (∀ t tk', Q' (.int (x + y) t) { s with heap := h, toks := tk' }) → wpAny (model prog w) A (eval elt (compEnvC scope cl C env)) Q' E' { s with heap := h, toks := tk })
    (fin : ∀ D h'' tk ys, Fr h₀ env.locals h'' (fun z => if z = y then some (.ref D) else m z) → News h₀ env.locals h'' ((D, lst ys) :: news) → (∀ p ∈ news, p.1 < D) → IntsAre ys ((List.range n).map fun i => ns1.getD i 0 + ns2.getD i 0) → Q .next { s with heap := h'', toks := tk }) :
    wpAny (model prog w) A (call (.type "zip") [.ref l1, .ref l2]) (fun xv s₁ => wpAny (model prog w) A (pyIter xv) (ZipAt prog w A env elt a b scope cl y Q) E s₁) E s := by
  have lt1 : l1 < s.heap.objs.size := news_lt N _ hm1
  have lt2 : l2 < s.heap.objs.size := news_lt N _ hm2
  have L1 : s.heap.IsList l1 xs1.toArray := News.isList N hm1
  have L2 : s.heap.IsList l2 xs2.toArray := News.isList N hm2
  have z1 : xs1.toArray.size = n := by have := IntsAre.length I1; simp; omega
  have z2 : xs2.toArray.size = n := by have := IntsAre.length I2; simp; omega
  refine call_zip_2 L1 L2 fun h' hz hTI hTO hi1 hi2 hsz hkp => ?_
  refine wpAny_pyIter_zip hz ?_
  have W := WalksT.zip2 (prog := prog) (w := w) (A := A) hh1 (s.heap.objs.size + 4) (s.heap.objs.size + 2) (s.heap.objs.size + 3) s.heap.objs.size (s.heap.objs.size + 1) l1 l2 (zip_apart lt1 lt2) xs1.toArray xs2.toArray
  rw [z1, z2, Nat.min_self] at W
  refine ⟨h₀, m, _, _, _, n, _, _, _, (fun i v0 v1 => ∃ u0 u1, v0 = Value.int (ns1.getD i 0) u0 ∧ v1 = Value.int (ns2.getD i 0) u1), news, (fun i => ns1.getD i 0 + ns2.getD i 0), rfl, W, ?_, by rw [PySem.sizeLine_eq]; omega, hh,
    ⟨hz, hTI, ⟨_, _, hTO⟩, hi1, hi2, L1.at fun o e => hkp _ o e, L2.at fun o e => hkp _ o e⟩, ?_, ?_, ?_, ?_, F.keeps hkp, fun p hp => ⟨hkp _ _ (N p hp).1, (N p hp).2⟩, ?_, ?_⟩
  · rintro i vals ⟨v0, v1, h0, h1, rfl⟩
    obtain ⟨u0, e0⟩ := ints_at I1 h0
    obtain ⟨u1, e1⟩ := ints_at I2 h1
    exact ⟨v0, v1, rfl, u0, u1, e0, e1⟩
  · intro b hb; show b < h'.objs.size; rw [hsz]; exact mem_zip7 lt1 lt2 hb
  · intro b hb; exact fr_fresh F b (mem_zip4' hb)
  · intro hb; exact absurd F.ns.lt (Nat.not_lt.mpr (mem_zip4' hb))
  · intro p hp hb; exact absurd (news_lt N p hp) (Nat.not_lt.mpr (mem_zip4' hb))
  · rintro i v0 v1 C u h tk E' Q' _ ⟨u0, u1, rfl, rfl⟩ hns hQ
    exact helt _ _ _ _ C u h tk E' Q' hns hQ
  · intro D h'' tk ys F' N' offD hI
    exact fin D h'' tk ys F' N' offD hI
end
end Mine
/-! part LawC -/
namespace Mine
/-- the ten signs of a mode -/
noncomputable def fmText (mode : Int) : Str := ⟨((List.range 10).map (fmSign mode)).toArray⟩
theorem con_mono {k : Nat} {w : World} {mean : ExcName → Option Value} {mg mb : Str → Option Value} {f : Addr} {news : List (Addr × Obj)} {vs : List Value} {post post' : Value → Prop} (h : Con k w mean mg mb f news vs post) (hp : ∀ v, post v → post' v) : Con k w mean mg mb f news vs post' := by
  intro dp un gd cn cs a ccd cl outer A₀ base h₀ L m s Q E B F X N T hk hd hu hret
  exact h dp un gd cn cs a ccd cl outer A₀ base h₀ L m s Q E B F X N T hk hd hu fun v h' tk' hv F' N' => hret v h' tk' (hp v hv) F' N'
theorem c_fm (w : World) (mean) (mg mb) (news) (mode : Int) (tm : Tok) (x : Str) (hx : x = fmText mode) (h0 : 0 ≤ mode) (h1 : mode < 65536) : Con 3 w mean mg mb 75 news [.int mode tm] (fun v => ∃ t, v = .str x t) :=
  con_mono (c_fmode w mean mg mb news mode tm h0 h1) fun v ⟨t, e⟩ => ⟨t, by rw [e, hx]; rfl⟩
theorem c_sg (w : World) (mean) (mg mb) (news) (mode : Int) (tm : Tok) (x : Str) (hx : x = lsText mode 9) (h0 : 0 ≤ mode) (h1 : mode < 65536) : Con 2 w mean mg mb 82 news [.int mode tm] (fun v => ∃ t, v = .str x t) :=
  con_mono (c_signs w mean mg mb news mode tm h0 h1) fun v ⟨t, e⟩ => ⟨t, by rw [e, hx]⟩
theorem c_levD (w : World) (mean) (mg mb) (news) (x y : Str) (tx ty tc : Tok) (c r : Int) (hD : D (costs y x) 10 10 = r) (hx : x.length = 10) (hy : y.length = 10) (hne : x ≠ y) (hc : 0 ≤ c) (hr : r ≤ c ∨ c = r - 1) :
    Con 4 w mean mg mb 28 news [.str x tx, .str y ty, .int c tc] (fun v => ∃ t, v = .int r t) :=
  con_mono (c_lev w mean mg mb news x y tx ty tc c hx hy hne hc) fun v ⟨q, t, e, h⟩ => ⟨t, by
    have : q = r := by rw [hD] at h; omega
    rw [e, this]⟩
def KindOk (k : Int) : Prop := k = 8 ∨ k = 4 ∨ k = 10 ∨ k = 2 ∨ k = 6 ∨ k = 1 ∨ k = 12 ∨ k = 3
theorem kind_ok (x : Int) : KindOk ([8, 4, 10, 2, 6, 1, 12, 3].getD (x.fmod 8).toNat 0) := by
  have h0 : 0 ≤ x.fmod 8 := Int.fmod_nonneg_of_pos _ (by decide)
  have h1 : x.fmod 8 < 8 := Int.fmod_lt_of_pos _ (by decide)
  obtain ⟨n, hn⟩ : ∃ n : Nat, (x.fmod 8).toNat = n := ⟨_, rfl⟩
  rw [hn]
  have : n < 8 := by omega
  have : n = 0 ∨ n = 1 ∨ n = 2 ∨ n = 3 ∨ n = 4 ∨ n = 5 ∨ n = 6 ∨ n = 7 := by omega
  unfold KindOk
  rcases this with rfl | rfl | rfl | rfl | rfl | rfl | rfl | rfl <;> simp
/-- what the law's answer asks of two texts -/
structure Facts (x1 x2 : Str) (m1 m2 : Int) : Prop where
  l1 : x1.length = 10
  l2 : x2.length = 10
  ne : x1 ≠ x2
  s1 : x1 = lsText m1 9
  s2 : x2 = lsText m2 9
  a1 : 0 ≤ m1
  b1 : m1 < 65536
  a2 : 0 ≤ m2
  b2 : m2 < 65536
  least : ∀ r, IsLeast (costs (Txt.slice x1 (some 1) none) (Txt.slice x2 (some 1) none)) 9 r → 1 ≤ r ∧ r ≤ 8 ∧ D (costs x2 x1) 10 10 = r ∧ D (costs x1 x2) 10 10 = r
end Mine
/-! part LawM -/
namespace Mine
/-- a right's sign of a mode -/
noncomputable def sgT (mode : Int) (t : Nat) : Nat := sgnF t (mode / 2 ^ (8 - t) % 2) (mode / 2 ^ (11 - t / 3) % 2)
theorem fm_b (x : Int) (k : Int) (hk : 0 ≤ k) : (x.fdiv k).fmod 2 = x / k % 2 := by rw [Int.fmod_eq_emod_of_nonneg _ (by decide), Int.fdiv_eq_ediv_of_nonneg _ hk]
theorem bit01 (x : Int) : x % 2 = 0 ∨ x % 2 = 1 := by omega
theorem it_r (b : Int) (h : b = 0 ∨ b = 1) : Txt.item (Str.ofString "-rwx") ((Int.fmod 0 3 + 1) * b) = ⟨#[if b = 1 then 114 else 45]⟩ := by rcases h with rfl | rfl <;> rfl
theorem it_w (b : Int) (h : b = 0 ∨ b = 1) : Txt.item (Str.ofString "-rwx") ((Int.fmod 1 3 + 1) * b) = ⟨#[if b = 1 then 119 else 45]⟩ := by rcases h with rfl | rfl <;> rfl
theorem it_x (b : Int) (h : b = 0 ∨ b = 1) : Txt.item (Str.ofString "-rwx") ((Int.fmod 2 3 + 1) * b) = ⟨#[if b = 1 then 120 else 45]⟩ := by rcases h with rfl | rfl <;> rfl
theorem it_s (b : Int) (h : b = 0 ∨ b = 1) : Txt.item (Str.ofString "Ss") b = ⟨#[if b = 1 then 115 else 83]⟩ := by rcases h with rfl | rfl <;> rfl
theorem it_t (b : Int) (h : b = 0 ∨ b = 1) : Txt.item (Str.ofString "Tt") b = ⟨#[if b = 1 then 116 else 84]⟩ := by rcases h with rfl | rfl <;> rfl
theorem fm33 : Int.fmod 3 3 = Int.fmod 0 3 := rfl
theorem fm43 : Int.fmod 4 3 = Int.fmod 1 3 := rfl
theorem fm53 : Int.fmod 5 3 = Int.fmod 2 3 := rfl
theorem fm63 : Int.fmod 6 3 = Int.fmod 0 3 := rfl
theorem fm73 : Int.fmod 7 3 = Int.fmod 1 3 := rfl
theorem fm83 : Int.fmod 8 3 = Int.fmod 2 3 := rfl
theorem str_if {c : Prop} [Decidable c] (a b : Nat) : (if c then (⟨#[a]⟩ : Str) else ⟨#[b]⟩) = ⟨#[if c then a else b]⟩ := by split <;> rfl
theorem ls_part (mode : Int) {t : Nat} (ht : t < 9) : lsPart mode t = ⟨#[sgT mode t]⟩ := by
  rcases nine ht with rfl | rfl | rfl | rfl | rfl | rfl | rfl | rfl | rfl <;> rw [lsPart]
  · rw [fm_b _ _ (by decide), it_r _ (bit01 _)]; rfl
  · rw [fm_b _ _ (by decide), it_w _ (bit01 _)]; rfl
  · rw [fm_b _ _ (by decide), fm_b _ _ (by decide), it_x _ (bit01 _), it_s _ (bit01 _), str_if]; exact congrArg (fun z : Nat => (⟨#[z]⟩ : Str)) (sgn_2 _ _).symm
  · rw [fm_b _ _ (by decide), fm33, it_r _ (bit01 _)]; rfl
  · rw [fm_b _ _ (by decide), fm43, it_w _ (bit01 _)]; rfl
  · rw [fm_b _ _ (by decide), fm_b _ _ (by decide), fm53, it_x _ (bit01 _), it_s _ (bit01 _), str_if]; exact congrArg (fun z : Nat => (⟨#[z]⟩ : Str)) (sgn_5 _ _).symm
  · rw [fm_b _ _ (by decide), fm63, it_r _ (bit01 _)]; rfl
  · rw [fm_b _ _ (by decide), fm73, it_w _ (bit01 _)]; rfl
  · rw [fm_b _ _ (by decide), fm_b _ _ (by decide), fm83, it_x _ (bit01 _), it_t _ (bit01 _), str_if]; exact congrArg (fun z : Nat => (⟨#[z]⟩ : Str)) (sgn_8 _ _).symm
theorem ls_list (mode : Int) {c : Nat} (h0 : lsText mode 0 = ⟨#[c]⟩) : ∀ n, n ≤ 9 → lsText mode n = ⟨(c :: (List.range n).map (sgT mode)).toArray⟩ := by
  intro n
  induction n with
  | zero => intro _; rw [h0]; rfl
  | succ n ih =>
    intro hn
    rw [lsText, ih (by omega), ls_part mode (by omega), List.range_succ, List.map_append]
    show (⟨_ ++ _⟩ : Str) = _
    simp
theorem and_two (x z : Int) : Builtin.bitAnd x (2 * z) = 2 * Builtin.bitAnd (x / 2) z := by
  rw [kbt_halves, Int.mul_ediv_cancel_left _ (by decide), if_neg]
  · omega
  · rintro ⟨_, h⟩
    rw [Int.mul_emod_right] at h
    exact absurd h (by decide)
theorem and_shift (y : Int) : ∀ (k : Nat) (x : Int), Builtin.bitAnd x (2 ^ k * y) = 2 ^ k * Builtin.bitAnd (x / 2 ^ k) y := by
  intro k
  induction k with
  | zero => intro x; simp
  | succ k ih =>
    intro x
    rw [Int.pow_succ, Int.mul_comm (2 ^ k) 2, Int.mul_assoc, and_two, ih, Int.ediv_ediv_of_nonneg (by decide), Int.mul_assoc]
theorem kind_and {kv r : Int} (hk : KindOk kv) (h0 : 0 ≤ r) (h1 : r < 4096) : Builtin.bitAnd (kv * 4096 + r) 61440 = kv * 4096 := by
  have h16 : 0 ≤ kv ∧ kv < 16 := by unfold KindOk at hk; omega
  have e := and_shift 15 12 (kv * 4096 + r)
  rw [show (2 : Int) ^ 12 * 15 = 61440 from rfl, show (2 : Int) ^ 12 = 4096 from rfl] at e
  rw [e, show (15 : Int) = 2 ^ 4 - 1 from rfl, kbt_mask]
  clear hk e
  omega
theorem kind_sign {kv r : Int} (hk : KindOk kv) (h0 : 0 ≤ r) (h1 : r < 4096) : lsText (kv * 4096 + r) 0 = ⟨#[fmSign (kv * 4096 + r) 0]⟩ := by
  have ha := kind_and hk h0 h1
  have hd : (kv * 4096 + r).fdiv 4096 = kv := by rw [Int.fdiv_eq_ediv_of_nonneg _ (by decide)]; omega
  have hf : fmSign (kv * 4096 + r) 0 = match (fmTab 0).find? (fun p => kv * 4096 == p.1) with | some p => p.2 | none => 63 := by
    unfold fmSign fmHit
    simp only [if_true, ha]
    try rfl
  rw [lsText, hd, hf]
  rcases hk with rfl | rfl | rfl | rfl | rfl | rfl | rfl | rfl <;> rfl
theorem text_eq {mode : Int} (h : 0 ≤ mode) (h0 : lsText mode 0 = ⟨#[fmSign mode 0]⟩) : fmText mode = lsText mode 9 := by
  rw [ls_list mode h0 9 (Nat.le_refl _), fmText, List.range_succ_eq_map, List.map_cons, List.map_map]
  have : List.map (fmSign mode ∘ Nat.succ) (List.range 9) = List.map (sgT mode) (List.range 9) := List.map_congr_left fun t ht => sign_rights h (List.mem_range.mp ht)
  rw [this]
end Mine
/-! part LawM2 -/
namespace Mine
theorem sgnF_inj {t : Nat} {s : Int} (ht : t < 9) : sgnF t 0 s ≠ sgnF t 1 s := by
  rcases nine ht with rfl | rfl | rfl | rfl | rfl | rfl | rfl | rfl | rfl <;> unfold sgnF <;> by_cases h : s = 1 <;> simp [h]
theorem item_txt {c : Nat} {f : Nat → Nat} {n i : Nat} (h : i < n) : Txt.item ⟨(c :: (List.range n).map f).toArray⟩ ((i + 1 : Nat) : Int) = ⟨#[f i]⟩ := by
  rw [item_mk (by omega) (by simp; omega)]
  have e : ((i + 1 : Nat) : Int).toNat = i + 1 := by omega
  rw [e, List.getD_cons_succ]
  simp [h]
theorem item_zero {c : Nat} {l : List Nat} : Txt.item ⟨(c :: l).toArray⟩ ((0 : Nat) : Int) = ⟨#[c]⟩ := by
  rw [item_mk (by omega) (by simp)]
  rfl
theorem D_symm {C : Nat → Nat → Int} (i : Nat) : ∀ j, D C i j = D (fun a b => C b a) j i := by
  induction i with
  | zero => intro j; rw [D_zero_left, D_zero_right]
  | succ i ih =>
    intro j
    induction j with
    | zero => rw [D_zero_right, D_zero_left]
    | succ j ihj => rw [D_succ, D_succ, ihj, ih (j + 1), ih j]; exact congrArg (fun z => min (z + 2) _) (Int.min_comm _ _)
theorem sum_mono {f : Nat → Int} (h : ∀ t, 0 ≤ f t) {a : Nat} : ∀ {b}, a ≤ b → sumTo f a ≤ sumTo f b := by
  intro b hb
  induction b with
  | zero => have : a = 0 := by omega
            subst this; exact Int.le_refl _
  | succ b ih =>
    by_cases e : a = b + 1
    · subst e; exact Int.le_refl _
    · have := ih (by omega); have := h b; simp only [sumTo]; omega
theorem sum_ge {f : Nat → Int} (h : ∀ t, 0 ≤ f t) {n t : Nat} (ht : t < n) : f t ≤ sumTo f n := by
  have h1 := sum_mono h (show t + 1 ≤ n by omega)
  have h2 := sum_mono h (show 0 ≤ t by omega)
  simp only [sumTo] at h1 h2
  omega
theorem cand_ge {C : Nat → Nat → Int} {U : Nat → Int} (h0 : ∀ i j, 0 ≤ C i j) (hU : ∀ t, 0 ≤ U t) {n a b : Nat} (hab : a ≤ b) (hb : b < n) : 4 ≤ cand C U n a b := by
  have h1 := sum_mono (f := fun t => C t t) (fun t => h0 t t) (show 0 ≤ a by omega)
  have h2 := sum_mono hU hab
  have h3 := sum_mono (f := fun t => C t t) (fun t => h0 t t) (show b + 1 ≤ n by omega)
  unfold cand
  simp only [sumTo] at h1 h2 h3 ⊢
  omega
/-- no more than two for each turned place -/
theorem sum_turned {f : Nat → Int} {ps rest : List Int} (hl : ps.length = 4) (hp : (ps ++ rest).Perm [0, 1, 2, 3, 4, 5, 6, 7, 8]) (h : ∀ t, t < 9 → f t ≤ 2 * (if ((8 - t : Nat) : Int) ∈ ps then 1 else 0 : Nat)) : sumTo f 9 ≤ 8 := by
  have hnd : (ps ++ rest).Nodup := hp.nodup_iff.mpr (by decide)
  have c1 := hp.countP_eq (fun x => decide (x ∈ ps))
  rw [List.countP_append] at c1
  have c2 : ps.countP (fun x => decide (x ∈ ps)) = ps.length := List.countP_eq_length.mpr fun x hx => by simpa using hx
  have c3 : rest.countP (fun x => decide (x ∈ ps)) = 0 := List.countP_eq_zero.mpr fun x hx => by
    simpa using fun hm => (List.nodup_append.mp hnd).2.2 _ hm _ hx rfl
  rw [c2, c3, hl] at c1
  simp only [List.countP_cons, List.countP_nil, decide_eq_true_eq] at c1
  have h0 := h 0 (by omega); have h1 := h 1 (by omega); have h2 := h 2 (by omega); have h3 := h 3 (by omega); have h4 := h 4 (by omega)
  have h5 := h 5 (by omega); have h6 := h 6 (by omega); have h7 := h 7 (by omega); have h8 := h 8 (by omega)
  simp only [sumTo]
  simp only [Nat.sub_zero, Nat.reduceSub, Nat.sub_self] at h0 h1 h2 h3 h4 h5 h6 h7 h8
  have k0 : ((0 : Nat) : Int) = 0 := rfl
  have k1 : ((1 : Nat) : Int) = 1 := rfl
  have k2 : ((2 : Nat) : Int) = 2 := rfl
  have k3 : ((3 : Nat) : Int) = 3 := rfl
  have k4 : ((4 : Nat) : Int) = 4 := rfl
  have k5 : ((5 : Nat) : Int) = 5 := rfl
  have k6 : ((6 : Nat) : Int) = 6 := rfl
  have k7 : ((7 : Nat) : Int) = 7 := rfl
  have k8 : ((8 : Nat) : Int) = 8 := rfl
  rw [k8] at h0; rw [k7] at h1; rw [k6] at h2; rw [k5] at h3; rw [k4] at h4; rw [k3] at h5; rw [k2] at h6; rw [k1] at h7; rw [k0] at h8
  omega
end Mine
/-! part LawM3 -/
namespace Mine
theorem hi_part (a : Int) (n : Nat) : a / 2 ^ (9 + n) = a / 512 / 2 ^ n := by
  rw [Int.pow_add, show (2 : Int) ^ 9 = 512 from rfl, Int.ediv_ediv_of_nonneg (by decide)]
theorem bit_hi {a b : Int} (h : a / 512 = b / 512) {t : Nat} (ht : t < 9) : a / 2 ^ (11 - t / 3) % 2 = b / 2 ^ (11 - t / 3) % 2 := by
  rw [show 11 - t / 3 = 9 + (2 - t / 3) by omega, hi_part, hi_part, h]
theorem kind_16 {k : Int} (h : KindOk k) : 0 ≤ k ∧ k < 16 := by
  unfold KindOk at h
  rcases h with rfl | rfl | rfl | rfl | rfl | rfl | rfl | rfl <;> decide
theorem mode_in {k r m : Int} (hk : 0 ≤ k ∧ k < 16) (e : m = k * 4096 + r) (h0 : 0 ≤ r) (h1 : r < 4096) : 0 ≤ m ∧ m < 65536 := by omega
theorem mode_kind {k r m : Int} (e : m = k * 4096 + r) (h0 : 0 ≤ r) (h1 : r < 4096) : m / 4096 = k := by omega
theorem subCost_pos {u v : Nat} (h : u ≠ v) : 1 ≤ subCost ⟨#[u]⟩ ⟨#[v]⟩ := by
  have : ¬ (⟨#[u]⟩ : Str) = ⟨#[v]⟩ := fun e => h (by simpa using congrArg Str.cps e)
  unfold subCost
  rw [if_neg this]
  split <;> omega
theorem law_facts {kv b told m1 m2 : Int} {rest : List Int} {x1 x2 : Str} (hk : KindOk kv) (ht : TurnP (b % 4096) 4 told rest) (e1 : m1 = kv * 4096 + b.fmod 4096) (e2 : m2 = kv * 4096 + told) (hx1 : x1 = fmText m1) (hx2 : x2 = fmText m2) : Facts x1 x2 m1 m2 := by
  obtain ⟨ps, hl, hp, h3, h4, h5, h6⟩ := ht
  rw [fmod_4096] at e1
  have hB0 : 0 ≤ b % 4096 := Int.emod_nonneg _ (by decide)
  have hB1 : b % 4096 < 4096 := Int.emod_lt_of_pos _ (by decide)
  generalize b % 4096 = B at *
  obtain ⟨a1, b1⟩ := mode_in (kind_16 hk) e1 hB0 hB1
  obtain ⟨a2, b2⟩ := mode_in (kind_16 hk) e2 h3 h4
  have k1 : lsText m1 0 = ⟨#[fmSign m1 0]⟩ := by rw [e1]; exact kind_sign hk hB0 hB1
  have k2 : lsText m2 0 = ⟨#[fmSign m2 0]⟩ := by rw [e2]; exact kind_sign hk h3 h4
  have s1 : x1 = lsText m1 9 := by rw [hx1]; exact text_eq a1 k1
  have s2 : x2 = lsText m2 9 := by rw [hx2]; exact text_eq a2 k2
  have d1 : m1.fdiv 4096 = kv := by rw [Int.fdiv_eq_ediv_of_nonneg _ (by decide)]; exact mode_kind e1 hB0 hB1
  have d2 : m2.fdiv 4096 = kv := by rw [Int.fdiv_eq_ediv_of_nonneg _ (by decide)]; exact mode_kind e2 h3 h4
  have k12 : lsText m2 0 = ⟨#[fmSign m1 0]⟩ := by rw [← k1, lsText, lsText, d1, d2]
  obtain ⟨c, hc⟩ : ∃ c, c = fmSign m1 0 := ⟨_, rfl⟩
  rw [← hc] at k1 k12
  have t1 : x1 = ⟨(c :: (List.range 9).map (sgT m1)).toArray⟩ := by rw [s1, ls_list m1 k1 9 (Nat.le_refl _)]
  have t2 : x2 = ⟨(c :: (List.range 9).map (sgT m2)).toArray⟩ := by rw [s2, ls_list m2 k12 9 (Nat.le_refl _)]
  have l1 : x1.length = 10 := by rw [t1]; simp [Str.length]
  have l2 : x2.length = 10 := by rw [t2]; simp [Str.length]
  have i1 : ∀ t, t < 9 → Txt.item x1 ((t + 1 : Nat) : Int) = ⟨#[sgT m1 t]⟩ := fun t ht => by rw [t1]; exact item_txt ht
  have i2 : ∀ t, t < 9 → Txt.item x2 ((t + 1 : Nat) : Int) = ⟨#[sgT m2 t]⟩ := fun t ht => by rw [t2]; exact item_txt ht
  have z1 : Txt.item x1 ((0 : Nat) : Int) = ⟨#[c]⟩ := by rw [t1]; exact item_zero
  have z2 : Txt.item x2 ((0 : Nat) : Int) = ⟨#[c]⟩ := by rw [t2]; exact item_zero
  have g1 : ∀ t, t < 9 → sgT m1 t = sgnF t (B / 2 ^ (8 - t) % 2) (B / 2 ^ (11 - t / 3) % 2) := fun t ht => by
    unfold sgT; rw [e1, bit_m _ _ (by omega), bit_m _ _ (by omega)]
  have g2 : ∀ t, t < 9 → sgT m2 t = sgnF t (told / 2 ^ (8 - t) % 2) (B / 2 ^ (11 - t / 3) % 2) := fun t ht => by
    unfold sgT; rw [e2, bit_m _ _ (by omega), bit_m _ _ (by omega), bit_hi h5 ht]
  have same : ∀ t, t < 9 → ¬ ((8 - t : Nat) : Int) ∈ ps → sgT m1 t = sgT m2 t := fun t ht hn => by
    rw [g1 t ht, g2 t ht, (h6 (8 - t) (by omega)).mpr hn]
  have diff : ∀ t, t < 9 → ((8 - t : Nat) : Int) ∈ ps → sgT m1 t ≠ sgT m2 t := fun t ht hn => by
    rw [g1 t ht, g2 t ht]
    have hne : ¬ told / 2 ^ (8 - t) % 2 = B / 2 ^ (8 - t) % 2 := fun e => (h6 (8 - t) (by omega)).mp e hn
    rcases bit01 (told / 2 ^ (8 - t)) with u | u <;> rcases bit01 (B / 2 ^ (8 - t)) with v | v <;> rw [u, v] at hne ⊢
    · exact absurd rfl hne
    · exact (sgnF_inj ht).symm
    · exact sgnF_inj ht
    · exact absurd rfl hne
  obtain ⟨t0, ht0, hm0⟩ : ∃ t, t < 9 ∧ ((8 - t : Nat) : Int) ∈ ps := by
    cases ps with
    | nil => simp at hl
    | cons p r =>
      have hm := hp.mem_iff.mp (List.mem_append.mpr (.inl (List.Mem.head _)))
      have : 0 ≤ p ∧ p ≤ 8 := in_nine p hm
      refine ⟨8 - p.toNat, by omega, ?_⟩
      have e : ((8 - (8 - p.toNat) : Nat) : Int) = p := by omega
      rw [e]; exact List.Mem.head _
  have ne : x1 ≠ x2 := by
    intro e
    have h := i2 t0 ht0
    rw [← e, i1 t0 ht0] at h
    exact diff t0 ht0 hm0 (by simpa using congrArg Str.cps h)
  refine ⟨l1, l2, ne, s1, s2, a1, b1, a2, b2, ?_⟩
  intro r hr
  have hy1 : ∀ i : Nat, i < 9 → Txt.item (Txt.slice x1 (some 1) none) (i : Int) = Txt.item x1 ((i + 1 : Nat) : Int) := fun i hi => by
    rw [slice_from_item (by omega) (by omega) (by omega) (by omega)]; congr 1; omega
  have hy2 : ∀ i : Nat, i < 9 → Txt.item (Txt.slice x2 (some 1) none) (i : Int) = Txt.item x2 ((i + 1 : Nat) : Int) := fun i hi => by
    rw [slice_from_item (by omega) (by omega) (by omega) (by omega)]; congr 1; omega
  generalize Txt.slice x1 (some 1) none = y1 at *
  generalize Txt.slice x2 (some 1) none = y2 at *
  have c0 : ∀ i j, 0 ≤ costs y1 y2 i j := fun i j => subCost_nonneg _ _
  have cd : ∀ t : Nat, t < 9 → costs y1 y2 t t = subCost ⟨#[sgT m1 t]⟩ ⟨#[sgT m2 t]⟩ := fun t ht => by
    show subCost _ _ = _
    rw [hy1 t ht, hy2 t ht, i1 t ht, i2 t ht]
  have plain8 : sumTo (fun t => costs y1 y2 t t) 9 ≤ 8 := by
    refine sum_turned hl hp fun t ht => ?_
    show costs y1 y2 t t ≤ _
    rw [cd t ht]
    by_cases q : ((8 - t : Nat) : Int) ∈ ps
    · rw [if_pos q]; exact subCost_le _ _
    · rw [if_neg q, same t ht q, subCost_self]; decide
  have plain1 : 1 ≤ sumTo (fun t => costs y1 y2 t t) 9 := by
    refine Int.le_trans ?_ (sum_ge (f := fun t => costs y1 y2 t t) (fun t => c0 t t) ht0)
    show 1 ≤ costs y1 y2 t0 t0
    rw [cd t0 ht0]
    exact subCost_pos (diff t0 ht0 hm0)
  have hD9 : D (costs y1 y2) 9 9 = r := D_least c0 plain8 hr
  have hr1 : 1 ≤ r := by
    rcases hr.1 with e | ⟨a, b, h1, h2, e⟩ | ⟨a, b, h1, h2, e⟩
    · omega
    · have := cand_ge (U := fun t => costs y1 y2 (t + 1) t) c0 (fun t => c0 _ _) h1 h2; omega
    · have := cand_ge (U := fun t => costs y1 y2 t (t + 1)) c0 (fun t => c0 _ _) h1 h2; omega
  have hr8 : r ≤ 8 := Int.le_trans hr.2.1 plain8
  have x0 : ∀ i j, 0 ≤ costs x1 x2 i j := fun i j => subCost_nonneg _ _
  have hD10 : D (costs x1 x2) 10 10 = r := by
    have e := D_prefix 1 x0 (fun t ht => by
      have : t = 0 := by omega
      subst this
      show subCost (Txt.item x1 ((0 : Nat) : Int)) (Txt.item x2 ((0 : Nat) : Int)) = 0
      rw [z1, z2]; exact subCost_self _) 9 9
    rw [show (10 : Nat) = 1 + 9 from rfl, e, ← hD9]
    refine D_congr 9 9 fun a b ha hb => ?_
    show subCost (Txt.item x1 ((1 + a : Nat) : Int)) (Txt.item x2 ((1 + b : Nat) : Int)) = subCost (Txt.item y1 (a : Int)) (Txt.item y2 (b : Int))
    rw [hy1 a ha, hy2 b hb, Nat.add_comm 1 a, Nat.add_comm 1 b]
  refine ⟨hr1, hr8, ?_, hD10⟩
  rw [D_symm]
  have : (fun a b => costs x2 x1 b a) = costs x1 x2 := by
    funext a b
    exact subCost_comm _ _
  rw [this]; exact hD10
end Mine
/-! part NeTwo -/
namespace Mine
theorem fm_small (mode : Int) (i : Nat) : fmSign mode i < 128 := by
  have tab : ∀ p ∈ fmTab i, p.2 < 128 := by
    rcases i with _ | _ | _ | _ | _ | _ | _ | _ | _ | i
    iterate 9 decide
    show ∀ p ∈ [((513 : Int), 116), (512, 84), (1, 120)], p.2 < 128
    decide
  unfold fmSign
  split
  · rename_i p e
    exact tab _ (List.mem_of_find?_eq_some e)
  · split <;> decide
theorem fm_ok (mode : Int) : PyData.strOk (fmText mode) = true := by
  have h : ∀ c ∈ (List.range 10).map (fmSign mode), c < 0x110000 := fun c hc => by
    obtain ⟨i, _, rfl⟩ := List.mem_map.mp hc
    exact Nat.lt_trans (fm_small mode i) (by decide)
  show (((List.range 10).map (fmSign mode)).toArray.all fun c => decide (c < 0x110000)) = true
  rw [List.all_toArray, List.all_eq_true]
  exact fun c hc => by simpa using h c hc
section
variable {prog : Program} {w : World} {A : Around} {E : Value → Shared → Prop} {s : Shared}
theorem ne_two {a b : Addr} {x1 x2 : Str} {t1 t2 u1 u2 : Tok} {Q : Value → Shared → Prop} (ha : s.heap.IsList a #[.str x1 t1, .str x2 t2]) (hb : s.heap.IsList b #[.str x1 u1, .str x2 u2]) (o1 : PyData.strOk x1 = true) (o2 : PyData.strOk x2 = true) (hu : A.units + 64 < cLine) (h : Q (.bool false) s) :
    wpAny (model prog w) A (compareOp .NotEq (.ref a) (.ref b)) Q E s := by
  refine ne_dataH (da := .list [.str x1, .str x2]) (db := .list [.str x1, .str x2]) (reads_newData ha (.cons (.str _ _) (.cons (.str _ _) .nil))) (reads_newData hb (.cons (.str _ _) (.cons (.str _ _) .nil))) ?_ ?_ hu ?_
  · simp [SeqAt.shaped, PyData.canLay0, PyData.canLayAll0, PyData.depth, PyData.depthAll, o1, o2]
  · simp [SeqAt.shaped, PyData.canLay0, PyData.canLayAll0, PyData.depth, PyData.depthAll, o1, o2]
  · simp only [PyData.eqv, PyData.eqvAll, beq_self_eq_true, Bool.and_true, Bool.not_true]
    exact h
theorem ne_ints {a b : Addr} {r : Int} {t1 t2 u1 u2 : Tok} {Q : Value → Shared → Prop} (ha : s.heap.IsList a #[.int r t1, .int r t2]) (hb : s.heap.IsList b #[.int r u1, .int r u2]) (hu : A.units + 64 < cLine) (h : Q (.bool false) s) :
    wpAny (model prog w) A (compareOp .NotEq (.ref a) (.ref b)) Q E s := by
  refine ke_ne_ints (xs := [.int r t1, .int r t2]) (ys := [.int r u1, .int r u2]) ha hb (.cons _ _ (.cons _ _ .nil)) (.cons _ _ (.cons _ _ .nil)) hu ?_
  simpa using h
end
end Mine
/-! part Law -/
namespace Mine
open PyProof.Rows.LCg PyProof.Rows.LCp
theorem split_led {h₀ h : Heap} {L : Addr} {led own : List (Addr × Obj)} (N : News h₀ L h (led ++ own)) : ∃ R, News h₀ L h R ∧ (∀ p ∈ led, p ∈ R) ∧ (∀ p ∈ own, p ∈ R) :=
  ⟨led ++ own, N, fun _ hp => List.mem_append.mpr (.inl hp), fun _ hp => List.mem_append.mpr (.inr hp)⟩
theorem news_drop2 {h₀ h : Heap} {L : Addr} {p q : Addr × Obj} {r : List (Addr × Obj)} (N : News h₀ L h (p :: q :: r)) : News h₀ L h (p :: r) := fun z hz => N z (by
  rcases List.mem_cons.mp hz with rfl | hz
  · exact List.Mem.head _
  · exact List.Mem.tail _ (List.Mem.tail _ hz))
theorem fr_namedM {h₀ : Heap} {L : Addr} {h : Heap} {m : Str → Option Value} (F : Fr h₀ L h m) (ps : List (Str × Value)) (hp : ∀ p ∈ ps, m p.1 = some p.2) : ∃ u, kstB u ps = m ∧ Fr h₀ L h (kstB u ps) := by
  have e : kstB m ps = m := funext fun z => kstB_eq hp fun _ => rfl
  exact ⟨m, e, by rw [e]; exact F⟩
/-- between two statements of the law's turn -/
def Mid (g : Heap) (L : Addr) (m5 : Str → Option Value) (S : Shared) (R : List (Addr × Obj)) (ps : List (Str × Value)) (f : Flow) (s' : Shared) : Prop :=
  f = .next ∧ ∃ h tk u, s' = { S with heap := h, toks := tk } ∧ Fr g L h (kstB u ps) ∧ News g L h R ∧ ∀ z, z ≠ Str.ofString "numbers" → [Str.ofString "kind", Str.ofString "modes", Str.ofString "one", Str.ofString "two", Str.ofString "due"].contains z = false → kstB u ps z = m5 z
theorem Mid.intro {g : Heap} {L : Addr} {m5 mX : Str → Option Value} {S : Shared} {R R' : List (Addr × Obj)} {ps : List (Str × Value)} {h : Heap} {tk : Nat} (F : Fr g L h mX) (N : News g L h R') (hR : ∀ p ∈ R, p ∈ R') (hp : ∀ p ∈ ps, mX p.1 = some p.2)
    (hs : ∀ z, z ≠ Str.ofString "numbers" → [Str.ofString "kind", Str.ofString "modes", Str.ofString "one", Str.ofString "two", Str.ofString "due"].contains z = false → mX z = m5 z) : Mid g L m5 S R ps .next { S with heap := h, toks := tk } := by
  obtain ⟨u, e, F'⟩ := fr_namedM F ps hp
  exact ⟨rfl, h, tk, u, rfl, F', fun p hp => N p (hR p hp), fun z h1 h2 => by rw [e]; exact hs z h1 h2⟩
theorem news_one {h₀ h : Heap} {L : Addr} {p q : Addr × Obj} {r : List (Addr × Obj)} (N : News h₀ L h (p :: r)) (e : p = q) : News h₀ L h [q] := fun z hz => by rw [List.mem_singleton.mp hz, ← e]; exact N p (List.Mem.head _)
set_option maxRecDepth 100000 in
set_option maxHeartbeats 8000000 in
theorem law_holds : PySem.Challenge.rw_pe0138_01.Holds := by
  k_with_none
  (k_with "mStop" => ((fail_if_success (with_reducible show wpAny _ _ (exec (Stmt.While _ _ _ _) _) _ _ _)); (fail_if_success (with_reducible show wpAny _ _ (call (Value.type "zip") _) _ _ _)); (fail_if_success (with_reducible show wpAny _ _ (call (Value.ref 89) _) _ _ _)); (fail_if_success (with_reducible show wpAny _ _ (compareOp CmpOp.NotEq _ _) _ _ _)); (fail_if_success (with_reducible show wpAny _ _ (call (Value.ref 101) _) _ _ _)); (fail_if_success (with_reducible show wpAny _ _ (exec (Stmt.For _ _ _ _ _) _) _ _ _)); (fail_if_success (with_reducible show wpAny _ _ (pyIter _) _ _ _))))
  (k_with "mS" => repeat' (walk_at "mStop"; first | (k_unfold; (try dsimp only)) | walk1 | (dsimp only; walk1) | (leave1; try dsimp only)))
  (k_with "mT" => repeat' ((fail_if_success (with_reducible show wpAny _ _ (exec (Stmt.Assign _ (Expr.ListComp _ _ _ _) _) _) _ _ _)); walk_at "mStop"; first | (k_unfold; (try dsimp only)) | walk1 | (dsimp only; walk1) | (leave1; try dsimp only)))
  (k_with "mU" => repeat' ((fail_if_success (with_reducible show wpAny _ _ (exec (Stmt.If _ _ _ _) _) _ _ _)); walk_at "mStop"; first | (k_unfold; (try dsimp only)) | walk1 | (dsimp only; walk1) | (leave1; try dsimp only)))
  (k_with "call ref" => ((with_reducible show wpAny _ _ (call (Value.ref 75) [Value.int _ _]) _ _ _); k_dflt (refine' c_fm _ _ _ _ _ _ _ _ (by with_reducible assumption) (by with_reducible assumption) (by with_reducible assumption) _ _ _ _ _ _ _ _ _ _ _ _ _ _ _ _ _ (by k_asm) (by k_asm) (by k_asm) (by k_asm) (by k_asm) (by exact rfl) (by first | ktr_room | omega) (by first | ktr_units | omega) ?_); intro v9 h9 tk9 hp9 F' N'; (obtain ⟨t9, e9⟩ := hp9); (subst e9); (try dsimp only)))
  (k_with "call ref" => ((with_reducible show wpAny _ _ (call (Value.ref 82) [Value.int _ _]) _ _ _); k_dflt (refine' c_sg _ _ _ _ _ _ _ _ (by with_reducible assumption) (by with_reducible assumption) (by with_reducible assumption) _ _ _ _ _ _ _ _ _ _ _ _ _ _ _ _ _ (by k_asm) (by k_asm) (by k_asm) (by k_asm) (by k_asm) (by exact rfl) (by first | ktr_room | omega) (by first | ktr_units | omega) ?_); intro v9 h9 tk9 hp9 F' N'; (obtain ⟨t9, e9⟩ := hp9); (subst e9); (try dsimp only)))
  (k_with "call ref" => ((with_reducible show wpAny _ _ (call (Value.ref 28) [Value.str _ _, Value.str _ _, Value.int _ _]) _ _ _); k_dflt (refine' c_levD _ _ _ _ _ _ _ _ _ _ _ _ (by with_reducible assumption) (by with_reducible assumption) (by with_reducible assumption) (by first | with_reducible assumption | exact Ne.symm (by with_reducible assumption)) (by omega) (by omega) _ _ _ _ _ _ _ _ _ _ _ _ _ _ _ _ _ (by k_asm) (by k_asm) (by k_asm) (by k_asm) (by k_asm) (by exact rfl) (by first | ktr_room | omega) (by first | ktr_units | omega) ?_); intro v9 h9 tk9 hp9 F' N'; (obtain ⟨t9, e9⟩ := hp9); (subst e9); (try dsimp only)))
  (k_with "subscriptTail Name Slice str ref" => ((with_reducible show wpAny _ _ (subscriptTail _ (Expr.Slice none (some _) none _) _ _) _ _ _); (with_reducible rename Fr _ _ _ _ => F'); (with_reducible rename News _ _ _ _ => N'); refine slice_strN_nn_len (s := ⟨_, _, _, _, _⟩) F' N' ?_; intro _ _ _ _ _ _))
  (k_with "CompEnd" => (refine LCg.CompEnd.intro (by assumption) (by assumption) _ (fun p hp => hp) (by assumption) (by lcg_src) ?_))
  (k_with "eval Name" => ((with_reducible show wpAny _ _ (eval (Expr.Name _ _) (compEnvC _ _ _ _)) _ _ _); refine ldVarK (by assumption) (by rfl) ?_))
  refine hd ?_
  k_go0
  rename Shared => sS
  refine wp_genQ ?_
  intro Q0 hQ0
  refine wpAny_execs_cons ?_
  refine wp_cutC (fun f s' => Ho (f = Flow.next ∧ ∃ (D : Addr) (e : Nat) (a0 a1 a2 a3 a4 : Int) (t0 t1 t2 t3 t4 : Tok) (h : Heap) (tk : Nat) (u : Str → Option Value), s' = { sS with heap := h, toks := tk } ∧ Fr sS.heap sS.heap.objs.size h (kstB u [(Str.ofString "drawn", .ref D)]) ∧ News sS.heap sS.heap.objs.size h [(D, PySem.W.listOf #[.int a0 t0, .int a1 t1, .int a2 t2, .int a3 t3, .int a4 t4] e)])) ?p0 ?q0
  case p0 =>
    intro Qc hQc
    refine Assign_zip (cl := []) (by rfl) (by with_unfolding_all rfl) (by decide) rfl (by decide) rfl rfl rfl rfl ?_
    walk_at "mS"
    rename List Int => ns
    rename (_ → (_ : Int) = _ * _) => e3
    rename (_ = min 5 _) => e4
    rename (List.length (List.flatten _) = _) => e1
    rename_i lZ wsZ hZ FZ NZ hIZ lZ1
    have hlen5 : (List.take 5 ns ++ (List.replicate (5 - ((List.take 5 ns).length : Int)).toNat [(0 : Int)]).flatten).length = 5 := by
      rw [List.length_append, e1]; omega
    generalize (List.take 5 ns ++ (List.replicate (5 - ((List.take 5 ns).length : Int)).toNat [(0 : Int)]).flatten) = pz at hIZ hlen5
    have hI1 : ∀ (t0 t1 t2 t3 t4 : Tok), IntsAre [.int 288 t0, .int 8 t1, .int 6 t2, .int 5 t3, .int 4 t4] [288, 8, 6, 5, 4] := fun t0 t1 t2 t3 t4 => .cons _ _ (.cons _ _ (.cons _ _ (.cons _ _ (.cons _ _ .nil))))
    refine call_zip_ints (n := 5) (l2 := lZ) (xs2 := wsZ) (ns1 := [288, 8, 6, 5, 4]) (ns2 := pz) rfl rfl FZ NZ (by repeat (first | exact List.Mem.head _ | apply List.Mem.tail)) (List.Mem.head _) (hI1 _ _ _ _ _) hIZ rfl hlen5 (by decide) ?helt ?fin
    case helt =>
      intro x y u0 u1 C u h tk E' Q' hns hQ
      walk_at "mS"
      exact hQ _ _
    case fin =>
      intro D h2 tk2 ys FD ND hDl hID
      obtain ⟨a0, a1, a2, a3, a4, t0, t1, t2, t3, t4, rfl, -⟩ := ints5 hID (by simp)
      clear hID hIZ hlen5
      have ND2 := news_one (q := (D, PySem.W.listOf #[.int a0 t0, .int a1 t1, .int a2 t2, .int a3 t3, .int a4 t4] _)) ND (by with_unfolding_all rfl)
      obtain ⟨u9, F9⟩ := fr_named FD [(Str.ofString "drawn", .ref D)] (List.forall_mem_cons.mpr ⟨rfl, fun _ h => nomatch h⟩)
      exact hQc _ _ ⟨rfl, D, _, a0, a1, a2, a3, a4, t0, t1, t2, t3, t4, h2, tk2, u9, rfl, F9, ND2⟩
  rintro f s' ⟨rfl, D, eD, a0, a1, a2, a3, a4, t0, t1, t2, t3, t4, h2, tk2, u2, rfl, F2, N2⟩
  dsimp only
  walk_at "mS"
  rename (Fr _ _ _ _) => F9
  with_unfolding_all refine For_invVF F9 rfl rfl ?_
  walk_at "mS"
  rename (Fr _ _ _ _) => FX
  rename (News _ _ _ _) => NX
  rename_i lE _ hE lX _ hX
  refine kst_vals (σ := Unit) (vs := [.ref D, .ref lE]) (nn := 0) (fun _ => _) (fun _ => []) (fun _ => True) [Str.ofString "kind", Str.ofString "modes", Str.ofString "one", Str.ofString "two", Str.ofString "due"] (fun _ _ => True) () rfl (fun _ => List.Mem.head _) FX NX trivial (fun _ hp => nomatch hp) trivial ?turn ?done
  case turn =>
    rintro ⟨⟩ i v u h tk own hv hoff _ _ F5 N5
    clear FX NX
    obtain ⟨R, NR, hl, ho⟩ := split_led N5
    clear N5
    have hD := hl _ (List.Mem.tail _ (List.Mem.tail _ (List.Mem.head _)))
    have hE' := hl _ (List.Mem.tail _ (List.Mem.head _))
    have key : ∃ (lN : Addr) (e : Nat) (b0 b1 b2 b3 b4 : Int) (u0 u1 u2 u3 u4 : Tok), v = .ref lN ∧ (lN, PySem.W.listOf #[.int b0 u0, .int b1 u1, .int b2 u2, .int b3 u3, .int b4 u4] e) ∈ R := by
      rcases i with _ | _ | i
      · exact ⟨D, _, _, _, _, _, _, _, _, _, _, _, (Option.some.inj hv).symm, hD⟩
      · exact ⟨lE, _, _, _, _, _, _, _, _, _, _, _, (Option.some.inj hv).symm, hE'⟩
      · simp at hv
    obtain ⟨lN, eN, b0, b1, b2, b3, b4, u0, u1, u2, u3, u4, rfl, hN⟩ := key
    have F5' : Fr sS.heap sS.heap.objs.size h _ := F5
    obtain ⟨m5, e5⟩ : ∃ m5, m5 = _ := ⟨_, rfl⟩
    have F6 : Fr sS.heap sS.heap.objs.size h m5 := by rw [e5]; exact F5'
    have hm5 : m5 (Str.ofString "numbers") = some (.ref lN) := by rw [e5]; rfl
    obtain ⟨u6, e6, F7⟩ := fr_namedM F6 [(Str.ofString "numbers", .ref lN)] (List.forall_mem_cons.mpr ⟨hm5, fun _ h => nomatch h⟩)
    have N7 : News sS.heap sS.heap.objs.size h ((lN, PySem.W.listOf #[.int b0 u0, .int b1 u1, .int b2 u2, .int b3 u3, .int b4 u4] eN) :: R) := List.forall_mem_cons.mpr ⟨NR _ hN, NR⟩
    have hsame : ∀ z, z ≠ Str.ofString "numbers" → [Str.ofString "kind", Str.ofString "modes", Str.ofString "one", Str.ofString "two", Str.ofString "due"].contains z = false → kstB u6 [(Str.ofString "numbers", Value.ref lN)] z = m5 z := fun z _ _ => by rw [e6]
    clear F5 F5' F6 NR hv hD hE' e6
    refine wp_genQ ?_
    intro Qt hQt
    refine wpAny_execs_cons ?_
    refine wp_cutC (fun f s' => Ho (∃ kv t, KindOk kv ∧ Mid sS.heap sS.heap.objs.size m5 sS ((lN, PySem.W.listOf #[.int b0 u0, .int b1 u1, .int b2 u2, .int b3 u3, .int b4 u4] eN) :: R) [(Str.ofString "kind", .int kv t), (Str.ofString "numbers", .ref lN)] f s')) ?p1 ?q1
    case p1 =>
      intro Qc hQc
      walk_at "mS"
      exact hQc _ _ ⟨_, _, kind_ok _, Mid.intro (by assumption) (by assumption) (fun p hp => by first | exact hp | exact List.Mem.tail _ hp) (by kst_all) (by intro z hz1 hz2; have hz3 := hz2; simp only [List.contains_cons, List.contains_nil, Bool.or_false, Bool.or_eq_false_iff, beq_eq_false_iff_ne, ne_eq] at hz3; have hz4 := hsame z hz1 hz2; simp [hz1, hz3, kstB] at hz4 ⊢; exact hz4)⟩
    rintro f s' ⟨kv, tkv, hk8, rfl, h8, tk8, u8, rfl, F8, N8, hsame⟩
    clear F7 N7
    dsimp only
    refine wpAny_execs_cons ?_
    refine wp_cutC (fun f s' => Ho (∃ told rest lM t1 t2 e, TurnP (b0 % 4096) 4 told rest ∧ Mid sS.heap sS.heap.objs.size m5 sS ((lM, PySem.W.listOf #[.int (kv * 4096 + b0.fmod 4096) t1, .int (kv * 4096 + told) t2] e) :: R) [(Str.ofString "modes", .ref lM)] f s')) ?p2 ?q2
    case p2 =>
      intro Qc hQc
      walk_at "mS"
      k_dflt (refine' c_turned _ _ _ _ _ _ _ _ _ _ _ _ _ _ _ _ _ _ _ _ _ _ _ _ _ _ _ _ _ _ _ _ _ _ ?cb ?cf ?cx ?cn ?ct ?chk ?chd ?chu ?_)
      (case cb => k_asm); (case cf => k_asm); (case cx => k_asm); (case cn => k_asm); (case ct => k_asm); (case chk => exact rfl); (case chd => first | ktr_room | omega); (case chu => first | ktr_units | omega)
      rintro v9 h9 tk9 ⟨told, tt, rfl, rest, hturn⟩ FA NA
      walk_at "mS"
      exact hQc _ _ ⟨told, rest, _, _, _, _, hturn, Mid.intro (by assumption) (by assumption) (fun p hp => (List.mem_cons.mp hp).elim (fun e => by rw [e]; exact List.Mem.head _) fun hp => List.Mem.tail _ (List.Mem.tail _ hp)) (by kst_all) (by intro z hz1 hz2; have hz3 := hz2; simp only [List.contains_cons, List.contains_nil, Bool.or_false, Bool.or_eq_false_iff, beq_eq_false_iff_ne, ne_eq] at hz3; have hz4 := hsame z hz1 hz2; simp [hz1, hz3, kstB] at hz4 ⊢; exact hz4)⟩
    rintro f s' ⟨told, rest, lM, t1, t2, eM, hturn, rfl, h9, tk9, u9, rfl, F9, N9, hsame⟩
    clear F8 N8
    dsimp only
    obtain ⟨m1, hm1⟩ : ∃ z, z = kv * 4096 + b0.fmod 4096 := ⟨_, rfl⟩
    obtain ⟨m2, hm2⟩ : ∃ z, z = kv * 4096 + told := ⟨_, rfl⟩
    obtain ⟨x1, hx1⟩ : ∃ z, z = fmText m1 := ⟨_, rfl⟩
    obtain ⟨x2, hx2⟩ : ∃ z, z = fmText m2 := ⟨_, rfl⟩
    have hF : Facts x1 x2 m1 m2 := law_facts hk8 hturn hm1 hm2 hx1 hx2
    have ok1 : PyData.strOk x1 = true := by rw [hx1]; exact fm_ok _
    have ok2 : PyData.strOk x2 = true := by rw [hx2]; exact fm_ok _
    rw [← hm1, ← hm2] at N9
    clear hturn hm1 hm2 hk8
    obtain ⟨l1, l2, hne, s1, s2, ha1, hb1, ha2, hb2, hleast⟩ := hF
    refine wpAny_execs_cons ?_
    refine wp_cutC (fun f s' => Ho (∃ c1 c2, Mid sS.heap sS.heap.objs.size m5 sS ((lM, PySem.W.listOf #[.int m1 t1, .int m2 t2] eM) :: R) [(Str.ofString "modes", .ref lM), (Str.ofString "one", .str x1 c1), (Str.ofString "two", .str x2 c2)] f s')) ?p3 ?q3
    case p3 =>
      intro Qc hQc
      walk_at "mS"
      exact hQc _ _ ⟨_, _, Mid.intro (by assumption) (by assumption) (fun p hp => by first | exact hp | exact List.Mem.tail _ hp) (by kst_all) (by intro z hz1 hz2; have hz3 := hz2; simp only [List.contains_cons, List.contains_nil, Bool.or_false, Bool.or_eq_false_iff, beq_eq_false_iff_ne, ne_eq] at hz3; have hz4 := hsame z hz1 hz2; simp [hz1, hz3, kstB] at hz4 ⊢; exact hz4)⟩
    rintro f s' ⟨c1, c2, rfl, h10, tk10, u10, rfl, F10, N10, hsame⟩
    clear F9 N9
    dsimp only
    refine wpAny_execs_cons ?_
    refine wp_cutC (fun f s' => Ho (Mid sS.heap sS.heap.objs.size m5 sS R [(Str.ofString "one", .str x1 c1), (Str.ofString "two", .str x2 c2)] f s')) ?p4 ?q4
    case p4 =>
      intro Qc hQc
      repeat' ((fail_if_success (with_reducible show wpAny _ _ (eval (Expr.ListComp _ _ _ _) _) _ _ _)); walk_at "mStop"; first | (k_unfold; (try dsimp only)) | walk1 | (dsimp only; walk1) | (leave1; try dsimp only))
      refine LCg.ListComp_U (cl := []) (F₀ := by assumption) (by rfl) (by decide) (by rfl) (by decide) (by rfl) ?_
      k_dflt lcg_toSrc
      walk_at "mS"
      k_dflt (refine' ne_two ?na ?nb ok1 ok2 ?nu ?_)
      case na => exact News.isList (by assumption) (List.Mem.tail _ (List.Mem.head _))
      case nb => exact News.isList (by assumption) (List.Mem.head _)
      case nu => ke_room
      walk_at "mS"
      exact hQc _ _ ⟨Mid.intro (by assumption) (by assumption) (fun p hp => List.Mem.tail _ (List.Mem.tail _ (List.Mem.tail _ hp))) (by kst_all) (by intro z hz1 hz2; have hz3 := hz2; simp only [List.contains_cons, List.contains_nil, Bool.or_false, Bool.or_eq_false_iff, beq_eq_false_iff_ne, ne_eq] at hz3; have hz4 := hsame z hz1 hz2; simp [hz1, hz3, kstB] at hz4 ⊢; exact hz4)⟩
    rintro f s' ⟨rfl, h11, tk11, u11, rfl, F11, N11, hsame⟩
    clear F10 N10
    dsimp only
    have hs1 : (Txt.slice x1 (some 1) none).length = 9 := by have := slice_from_len (x := x1) (k := 1) (by omega) (by omega); omega
    have hs2 : (Txt.slice x2 (some 1) none).length = 9 := by have := slice_from_len (x := x2) (k := 1) (by omega) (by omega); omega
    refine wpAny_execs_cons ?_
    refine wp_cutC (fun f s' => Ho (∃ r t, IsLeast (costs (Txt.slice x1 (some 1) none) (Txt.slice x2 (some 1) none)) 9 r ∧ Mid sS.heap sS.heap.objs.size m5 sS R [(Str.ofString "one", .str x1 c1), (Str.ofString "two", .str x2 c2), (Str.ofString "due", .int r t)] f s')) ?p5 ?q5
    case p5 =>
      intro Qc hQc
      walk_at "mS"
      k_dflt (refine' c_least _ _ _ _ _ _ _ _ _ ?la ?lb _ _ _ _ _ _ _ _ _ _ _ _ _ _ _ _ _ ?cb ?cf ?cx ?cn ?ct ?chk ?chd ?chu ?_)
      (case la => assumption); (case lb => assumption); (case cb => k_asm); (case cf => k_asm); (case cx => k_asm); (case cn => k_asm); (case ct => k_asm); (case chk => exact rfl); (case chd => first | ktr_room | omega); (case chu => first | ktr_units | omega)
      rintro v9 h9 tk9 ⟨r, tr, rfl, hr⟩ FA NA
      walk_at "mS"
      exact hQc _ _ ⟨r, _, hr, Mid.intro (by assumption) (by assumption) (fun p hp => hp) (by kst_all) (by intro z hz1 hz2; have hz3 := hz2; simp only [List.contains_cons, List.contains_nil, Bool.or_false, Bool.or_eq_false_iff, beq_eq_false_iff_ne, ne_eq] at hz3; have hz4 := hsame z hz1 hz2; simp [hz1, hz3, kstB] at hz4 ⊢; exact hz4)⟩
    rintro f s' ⟨r, tr, hr, rfl, h12, tk12, u12, rfl, F12, N12, hsame⟩
    clear F11 N11 hs1 hs2
    dsimp only
    obtain ⟨hr1, hr8, hD21, hD12⟩ := hleast r hr
    clear hleast hr s1 s2 ok1 ok2
    refine wpAny_execs_cons ?_
    refine wp_cutC (fun f s' => Ho (Mid sS.heap sS.heap.objs.size m5 sS R [(Str.ofString "one", .str x1 c1), (Str.ofString "two", .str x2 c2), (Str.ofString "due", .int r tr)] f s')) ?p6 ?q6
    case p6 =>
      intro Qc hQc
      walk_at "mS"
      k_dflt (refine' ne_ints (r := r) ?na ?nb ?nu ?_)
      case na => exact News.isList (by assumption) (List.Mem.tail _ (List.Mem.head _))
      case nb => exact News.isList (by assumption) (List.Mem.head _)
      case nu => ke_room
      walk_at "mS"
      exact hQc _ _ ⟨Mid.intro (by assumption) (by assumption) (fun p hp => List.Mem.tail _ (List.Mem.tail _ hp)) (by kst_all) (by intro z hz1 hz2; have hz3 := hz2; simp only [List.contains_cons, List.contains_nil, Bool.or_false, Bool.or_eq_false_iff, beq_eq_false_iff_ne, ne_eq] at hz3; have hz4 := hsame z hz1 hz2; simp [hz1, hz3, kstB] at hz4 ⊢; exact hz4)⟩
    rintro f s' ⟨rfl, h13, tk13, u13, rfl, F13, N13, hsame⟩
    clear F12 N12
    dsimp only
    refine wpAny_execs_cons ?_
    refine wp_cutC (fun f s' => Ho (Mid sS.heap sS.heap.objs.size m5 sS R [(Str.ofString "one", .str x1 c1), (Str.ofString "two", .str x2 c2), (Str.ofString "due", .int r tr)] f s')) ?p7 ?q7
    case p7 =>
      intro Qc hQc
      walk_at "mS"
      exact hQc _ _ ⟨Mid.intro (by assumption) (by assumption) (fun p hp => hp) (by kst_all) (by intro z hz1 hz2; have hz3 := hz2; simp only [List.contains_cons, List.contains_nil, Bool.or_false, Bool.or_eq_false_iff, beq_eq_false_iff_ne, ne_eq] at hz3; have hz4 := hsame z hz1 hz2; simp [hz1, hz3, kstB] at hz4 ⊢; exact hz4)⟩
    rintro f s' ⟨rfl, h14, tk14, u14, rfl, F14, N14, hsame⟩
    clear F13 N13
    dsimp only
    walk_at "mS"
    refine hQt _ _ ?_
    walk_at "mS"
    refine kst_end () (by assumption) (by assumption) (fun p hp => hl p hp) (fun p hp => ho p hp) rfl trivial (by kst_all) ?_ trivial
    intro z hz1 hz2 hz3
    rw [hsame z hz1 hz3, e5]
    simp [hz1, kstB]
    exact fun q => absurd q (by simpa using hz3)
  case done =>
    rintro ⟨⟩ u h tk _ _ F5 N5
    clear FX NX
    dsimp only
    walk_at "mS"
    refine hQ0 _ _ ?_
    walk_at "mS"
    dsimp only
    k_end
    wrow_close
end Mine
theorem PySem.Challenge.cw_pe0138_01_holds : PySem.Challenge.rw_pe0138_01.Holds :=
  Mine.law_holds
