/-
  Seat b6608868a: THE PLAIN LAW of counting and ranks: arrays are functions of the index. No Go in sight.
-/
import Derived.Test.Qxb6608868aBins
namespace Go.Proofs.Qxb6608868a

/-- How many of the first k meet p. -/
def cnt (p : Int → Bool) (A : Nat → Int) : Nat → Nat
  | 0 => 0
  | k + 1 => cnt p A k + (if p (A k) then 1 else 0)

def upd (A : Nat → Int) (i : Nat) (x : Int) : Nat → Int := fun j => if j = i then x else A j
theorem upd_same (A : Nat → Int) (i : Nat) (x : Int) : upd A i x i = x := if_pos rfl
theorem upd_other (A : Nat → Int) {i j : Nat} (x : Int) (h : j ≠ i) : upd A i x j = A j := if_neg h

theorem cnt_le (p : Int → Bool) (A : Nat → Int) : ∀ k, cnt p A k ≤ k
  | 0 => Nat.le_refl _
  | k + 1 => by
    have := cnt_le p A k
    unfold cnt
    split <;> omega
theorem cnt_congr (p : Int → Bool) {A B : Nat → Int} : ∀ {k : Nat}, (∀ i, i < k → A i = B i) → cnt p A k = cnt p B k
  | 0, _ => rfl
  | k + 1, h => by
    unfold cnt
    rw [cnt_congr p (fun i hi => h i (by omega)), h k (by omega)]
theorem cnt_before (p : Int → Bool) (A : Nat → Int) (i : Nat) (x : Int) {k : Nat} (h : k ≤ i) : cnt p (upd A i x) k = cnt p A k :=
  cnt_congr p (fun j hj => upd_other A x (by omega))
theorem cnt_set (p : Int → Bool) (A : Nat → Int) (i : Nat) (x : Int) : ∀ k, i < k → cnt p (upd A i x) k + (if p (A i) then 1 else 0) = cnt p A k + (if p x then 1 else 0)
  | 0, h => by omega
  | k + 1, h => by
    by_cases e : i = k
    · subst e
      show cnt p (upd A i x) i + (if p (upd A i x i) then 1 else 0) + (if p (A i) then 1 else 0) = cnt p A i + (if p (A i) then 1 else 0) + (if p x then 1 else 0)
      rw [upd_same, cnt_before p A i x (Nat.le_refl _)]
      omega
    · have ih := cnt_set p A i x k (by omega)
      show cnt p (upd A i x) k + (if p (upd A i x k) then 1 else 0) + (if p (A i) then 1 else 0) = cnt p A k + (if p (A k) then 1 else 0) + (if p x then 1 else 0)
      rw [upd_other A x (by omega : k ≠ i)]
      omega
theorem cnt_add (p : Int → Bool) (A : Nat → Int) (n : Nat) : ∀ m, cnt p A (n + m) = cnt p A n + cnt p (fun i => A (n + i)) m
  | 0 => rfl
  | m + 1 => by
    show cnt p A (n + m) + (if p (A (n + m)) then 1 else 0) = cnt p A n + (cnt p (fun i => A (n + i)) m + (if p (A (n + m)) then 1 else 0))
    rw [cnt_add p A n m]
    omega
theorem cnt_imp {p q : Int → Bool} (A : Nat → Int) (h : ∀ x, p x = true → q x = true) : ∀ k, cnt p A k ≤ cnt q A k
  | 0 => Nat.le_refl _
  | k + 1 => by
    have := cnt_imp A h k
    show cnt p A k + (if p (A k) then 1 else 0) ≤ cnt q A k + (if q (A k) then 1 else 0)
    cases hp : p (A k)
    · simp; omega
    · rw [h _ hp]; simp; exact this
theorem cnt_impOn {p q : Int → Bool} (A : Nat → Int) : ∀ k, (∀ i, i < k → p (A i) = true → q (A i) = true) → cnt p A k ≤ cnt q A k
  | 0, _ => Nat.le_refl _
  | k + 1, h => by
    have := cnt_impOn A k (fun i hi => h i (by omega))
    show cnt p A k + (if p (A k) then 1 else 0) ≤ cnt q A k + (if q (A k) then 1 else 0)
    cases hp : p (A k)
    · simp; omega
    · rw [h k (by omega) hp]; simp; exact this
theorem cnt_mono (p : Int → Bool) (A : Nat → Int) {k m : Nat} (h : k ≤ m) : cnt p A k ≤ cnt p A m := by
  obtain ⟨d, rfl⟩ : ∃ d, m = k + d := ⟨m - k, by omega⟩
  rw [cnt_add]
  omega
theorem cnt_all {p : Int → Bool} {A : Nat → Int} : ∀ {k : Nat}, (∀ i, i < k → p (A i) = true) → cnt p A k = k
  | 0, _ => rfl
  | k + 1, h => by
    show cnt p A k + (if p (A k) then 1 else 0) = k + 1
    rw [cnt_all (fun i hi => h i (by omega)), h k (by omega)]
    rfl
theorem cnt_none {p : Int → Bool} {A : Nat → Int} : ∀ {k : Nat}, (∀ i, i < k → p (A i) = false) → cnt p A k = 0
  | 0, _ => rfl
  | k + 1, h => by
    show cnt p A k + (if p (A k) then 1 else 0) = 0
    rw [cnt_none (fun i hi => h i (by omega)), h k (by omega)]
    rfl

def Sorted (S : Nat → Int) (n : Nat) : Prop := ∀ a b, a < b → b < n → S a ≤ S b

/-- Of a sorted array fewer than r are below the one at place r - 1, and at least r are not above it. -/
theorem sorted_lt {S : Nat → Int} {n r : Nat} (h : Sorted S n) (h1 : 1 ≤ r) (h2 : r ≤ n) : cnt (fun x => decide (x < S (r - 1))) S n ≤ r - 1 := by
  obtain ⟨d, hd⟩ : ∃ d, n = (r - 1) + d := ⟨n - (r - 1), by omega⟩
  rw [hd, cnt_add]
  have : cnt (fun x => decide (x < S (r - 1))) (fun i => S (r - 1 + i)) d = 0 := cnt_none (fun i hi => by
    apply decide_eq_false
    by_cases e : i = 0
    · subst e; simp
    · have := h (r - 1) (r - 1 + i) (by omega) (by omega)
      show ¬ S (r - 1 + i) < S (r - 1)
      omega)
  rw [this]
  have := cnt_le (fun x => decide (x < S (r - 1))) S (r - 1)
  omega
theorem sorted_le {S : Nat → Int} {n r : Nat} (h : Sorted S n) (h1 : 1 ≤ r) (h2 : r ≤ n) : r ≤ cnt (fun x => decide (x ≤ S (r - 1))) S n := by
  have e : cnt (fun x => decide (x ≤ S (r - 1))) S r = r := cnt_all (fun i hi => by
    apply decide_eq_true
    by_cases e : i = r - 1
    · subst e; exact Int.le_refl _
    · exact h i (r - 1) (by omega) (by omega))
  have := cnt_mono (fun x => decide (x ≤ S (r - 1))) S h2
  omega

/-! ### bins -/
def binI (x : Int) : Nat := binOf x.toNat
theorem binI_mono {x y : Int} (h : x ≤ y) : binI x ≤ binI y := binOf_mono (by omega)

/-- What has been counted into bins below B, summed. -/
def pre (C : Nat → Int) : Nat → Int
  | 0 => 0
  | b + 1 => pre C b + C b

/-- The counts after the first k of A. -/
def binsTo (A : Nat → Int) (k : Nat) : Nat → Int := fun b => (cnt (fun x => binI x == b) A k : Int)

theorem pre_bins (A : Nat → Int) (k : Nat) : ∀ B, pre (binsTo A k) B = (cnt (fun x => decide (binI x < B)) A k : Int)
  | 0 => by
    show (0 : Int) = _
    rw [cnt_none (fun i _ => by simp)]
    rfl
  | B + 1 => by
    show pre (binsTo A k) B + (cnt (fun x => binI x == B) A k : Int) = _
    rw [pre_bins A k B]
    have : ∀ k, cnt (fun x => decide (binI x < B)) A k + cnt (fun x => binI x == B) A k = cnt (fun x => decide (binI x < B + 1)) A k := by
      intro k
      induction k with
      | zero => rfl
      | succ k ih =>
        show cnt _ A k + (if decide (binI (A k) < B) = true then 1 else 0) + (cnt _ A k + (if (binI (A k) == B) = true then 1 else 0)) = cnt _ A k + (if decide (binI (A k) < B + 1) = true then 1 else 0)
        rw [← ih]
        by_cases h1 : binI (A k) < B
        · have h2 : ¬ binI (A k) = B := by omega
          have h3 : binI (A k) < B + 1 := by omega
          simp [h1, h2, h3]
          omega
        · by_cases h2 : binI (A k) = B
          · simp [h2]; omega
          · have h3 : ¬ binI (A k) < B + 1 := by omega
            simp [h1, h2, h3]
    have := this k
    omega

/-- Bin B is where rank r falls. -/
def Falls (C : Nat → Int) (r : Int) (B : Nat) : Prop := B < 3712 ∧ pre C B < r ∧ r ≤ pre C (B + 1)

theorem pre_mono {C : Nat → Int} (h : ∀ b, 0 ≤ C b) {a b : Nat} (hab : a ≤ b) : pre C a ≤ pre C b := by
  obtain ⟨d, rfl⟩ : ∃ d, b = a + d := ⟨b - a, by omega⟩
  induction d with
  | zero => exact Int.le_refl _
  | succ d ih =>
    have := ih (by omega)
    have := h (a + d)
    show pre C a ≤ pre C (a + d) + C (a + d)
    omega

theorem falls_one {C : Nat → Int} (h : ∀ b, 0 ≤ C b) {r : Int} {a b : Nat} (ha : Falls C r a) (hb : Falls C r b) : a = b := by
  rcases Nat.lt_trichotomy a b with e | e | e
  · have := pre_mono h (show a + 1 ≤ b by omega)
    have := ha.2.2
    have := hb.2.1
    omega
  · exact e
  · have := pre_mono h (show b + 1 ≤ a by omega)
    have := hb.2.2
    have := ha.2.1
    omega

/-- The rank falls into the bin of the element at that rank. -/
theorem falls_rank {A S : Nat → Int} {n r : Nat} (hs : Sorted S n) (hp : ∀ p, cnt p S n = cnt p A n) (h0 : ∀ i, i < n → 0 ≤ S i ∧ S i < 9223372036854775808) (h1 : 1 ≤ r) (h2 : r ≤ n) : Falls (binsTo A n) r (binI (S (r - 1))) := by
  have hb := h0 (r - 1) (by omega)
  refine ⟨binOf_lt (by have := hb.1; have := hb.2; omega), ?_, ?_⟩
  · rw [pre_bins, ← hp]
    have h := cnt_imp (p := fun x => decide (binI x < binI (S (r - 1)))) (q := fun x => decide (x < S (r - 1))) S (fun x hx => by
      apply decide_eq_true
      have hx := of_decide_eq_true hx
      by_cases e : x < S (r - 1)
      · exact e
      · have := binI_mono (show S (r - 1) ≤ x by omega)
        omega) n
    have := sorted_lt hs h1 h2
    omega
  · rw [pre_bins, ← hp]
    have h := cnt_imp (p := fun x => decide (x ≤ S (r - 1))) (q := fun x => decide (binI x < binI (S (r - 1)) + 1)) S (fun x hx => by
      apply decide_eq_true
      have hx := of_decide_eq_true hx
      have := binI_mono hx
      omega) n
    have := sorted_le hs h1 h2
    omega

end Go.Proofs.Qxb6608868a
