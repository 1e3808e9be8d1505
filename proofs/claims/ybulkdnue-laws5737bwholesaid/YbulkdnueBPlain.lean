import Derived.Test.YbulkdnueRows
namespace Go.Proofs.Ybulkdnue

/-! Plain functions: what the scanner and the model compute of the bytes Z 0 .. Z (n - 1). -/

def hexB (c : Int) : Bool := (decide (48 ≤ c) && decide (c ≤ 57)) || (decide (97 ≤ c) && decide (c ≤ 102)) || (decide (65 ≤ c) && decide (c ≤ 70))
def wsB (c : Int) : Bool := (c == 32) || (c == 9) || (c == 10) || (c == 13)
def simB (c : Int) : Bool := (c == 34) || (c == 92) || (c == 47) || (c == 98) || (c == 102) || (c == 110) || (c == 114) || (c == 116)

/-- the length of the escape that begins at place i -/
def esc (Z : Nat → Int) (n i : Nat) : Nat :=
  if n ≤ i then 0 else if simB (Z i) then 1 else if Z i = 117 ∧ i + 5 ≤ n ∧ hexB (Z (i + 1)) = true ∧ hexB (Z (i + 2)) = true ∧ hexB (Z (i + 3)) = true ∧ hexB (Z (i + 4)) = true then 5 else 0

/-- where the white space from p on ends -/
def skip (Z : Nat → Int) (n : Nat) : Nat → Nat → Nat
  | 0, p => p
  | f + 1, p => if p < n ∧ wsB (Z p) = true then skip Z n f (p + 1) else p

theorem skip_fuel (Z : Nat → Int) (n : Nat) : ∀ (f f' p : Nat), n ≤ p + f → n ≤ p + f' → skip Z n f p = skip Z n f' p := by
  intro f
  induction f with
  | zero =>
    intro f' p h h'
    cases f' with
    | zero => rfl
    | succ f' => simp only [skip]; rw [if_neg (by omega)]
  | succ f ih =>
    intro f' p h h'
    cases f' with
    | zero => simp only [skip]; rw [if_neg (by omega)]
    | succ f' =>
      simp only [skip]
      split
      · exact ih f' (p + 1) (by omega) (by omega)
      · rfl

theorem skip_yes {Z : Nat → Int} {n p : Nat} (h : p < n) (hw : wsB (Z p) = true) : skip Z n n p = skip Z n n (p + 1) := by
  cases n with
  | zero => omega
  | succ m =>
    rw [show skip Z (m + 1) (m + 1) p = skip Z (m + 1) m (p + 1) from by simp only [skip]; rw [if_pos ⟨h, hw⟩]]
    exact skip_fuel _ _ _ _ _ (by omega) (by omega)

theorem skip_no {Z : Nat → Int} {n p : Nat} (h : ¬ (p < n ∧ wsB (Z p) = true)) : skip Z n n p = p := by
  cases n with
  | zero => rfl
  | succ m => simp only [skip]; rw [if_neg h]

theorem skip_le (Z : Nat → Int) (n : Nat) : ∀ (f p : Nat), p ≤ n → p ≤ skip Z n f p ∧ skip Z n f p ≤ n := by
  intro f
  induction f with
  | zero => intro p h; exact ⟨Nat.le_refl _, h⟩
  | succ f ih =>
    intro p h
    simp only [skip]
    split
    · rename_i hc
      have := ih (p + 1) (by omega)
      omega
    · exact ⟨Nat.le_refl _, h⟩

/-- behind the opening quote: where the string ends, if it does -/
def scan (Z : Nat → Int) (n : Nat) : Nat → Nat → Option Nat
  | 0, _ => none
  | f + 1, j => if n ≤ j then none else if Z j = 34 then some (j + 1) else if Z j < 32 then none else
      if Z j = 92 then (if esc Z n (j + 1) = 0 then none else scan Z n f (j + 1 + esc Z n (j + 1))) else scan Z n f (j + 1)

theorem scan_fuel (Z : Nat → Int) (n : Nat) : ∀ (f f' j : Nat), n ≤ j + f → n ≤ j + f' → scan Z n f j = scan Z n f' j := by
  intro f
  induction f with
  | zero =>
    intro f' j h h'
    cases f' with
    | zero => rfl
    | succ f' => simp only [scan]; rw [if_pos (by omega)]
  | succ f ih =>
    intro f' j h h'
    cases f' with
    | zero => simp only [scan]; rw [if_pos (by omega)]
    | succ f' =>
      simp only [scan]
      rw [ih f' (j + 1) (by omega) (by omega), ih f' (j + 1 + esc Z n (j + 1)) (by omega) (by omega)]

theorem scan_step (Z : Nat → Int) {n j : Nat} (h : j < n) : scan Z n n j = if Z j = 34 then some (j + 1) else if Z j < 32 then none else
    if Z j = 92 then (if esc Z n (j + 1) = 0 then none else scan Z n n (j + 1 + esc Z n (j + 1))) else scan Z n n (j + 1) := by
  cases n with
  | zero => omega
  | succ m =>
    rw [scan_fuel Z (m + 1) (m + 1) m (j + 1) (by omega) (by omega), scan_fuel Z (m + 1) (m + 1) m (j + 1 + esc Z (m + 1) (j + 1)) (by omega) (by omega)]
    conv => lhs; simp only [scan]
    rw [if_neg (by omega)]

theorem scan_end (Z : Nat → Int) {n j : Nat} (h : n ≤ j) : scan Z n n j = none := by
  cases n with
  | zero => rfl
  | succ m => simp only [scan]; rw [if_pos h]

theorem scan_quote {Z : Nat → Int} {n j : Nat} (h : j < n) (h1 : Z j = 34) : scan Z n n j = some (j + 1) := by rw [scan_step Z h, if_pos h1]
theorem scan_low {Z : Nat → Int} {n j : Nat} (h : j < n) (h1 : Z j < 32) : scan Z n n j = none := by rw [scan_step Z h, if_neg (by omega), if_pos h1]
theorem scan_esc0 {Z : Nat → Int} {n j : Nat} (h : j < n) (h1 : Z j = 92) (h2 : esc Z n (j + 1) = 0) : scan Z n n j = none := by
  rw [scan_step Z h, if_neg (by omega), if_neg (by omega), if_pos h1, if_pos h2]
theorem scan_esc {Z : Nat → Int} {n j : Nat} (h : j < n) (h1 : Z j = 92) (h2 : esc Z n (j + 1) ≠ 0) : scan Z n n j = scan Z n n (j + 1 + esc Z n (j + 1)) := by
  rw [scan_step Z h, if_neg (by omega), if_neg (by omega), if_pos h1, if_neg h2]
theorem scan_plain {Z : Nat → Int} {n j : Nat} (h : j < n) (h1 : Z j ≠ 34) (h2 : ¬ Z j < 32) (h3 : Z j ≠ 92) : scan Z n n j = scan Z n n (j + 1) := by
  rw [scan_step Z h, if_neg h1, if_neg h2, if_neg h3]

theorem esc_le (Z : Nat → Int) (n i : Nat) : i + esc Z n i ≤ max n i ∧ esc Z n i ≤ 5 := by
  unfold esc
  split
  · omega
  · split
    · omega
    · split <;> omega

end Go.Proofs.Ybulkdnue
