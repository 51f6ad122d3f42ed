/-
  The list marker, plainly: z j is the byte at place j, n the line's length. No Go in sight.
-/
import Derived.Below
namespace Go.Proofs.Qxb6628227a

/-- A blank byte; an indentation byte; a digit; a byte that may stand behind a marker. -/
def bl (x : Int) : Bool := x == 32 || x == 9 || x == 10 || x == 13
def isInd (x : Int) : Bool := x == 32 || x == 9
def isDig (x : Int) : Bool := decide (48 ≤ x) && decide (x ≤ 57)
def isEnd (x : Int) : Bool := x == 32 || x == 9 || x == 10
def isBul (x : Int) : Bool := x == 45 || x == 43 || x == 42
def isDel (x : Int) : Bool := x == 46 || x == 41

def shift (z : Nat → Int) (a : Nat) : Nat → Int := fun j => z (a + j)

/-- Are the first m bytes blank? -/
def blankAll (z : Nat → Int) : Nat → Bool
  | 0 => true
  | m + 1 => blankAll z m && bl (z m)

/-- How many of the first m places hold p, from the start on. -/
def lead (p : Int → Bool) (z : Nat → Int) : Nat → Nat
  | 0 => 0
  | m + 1 => if lead p z m = m ∧ p (z m) = true then m + 1 else lead p z m

theorem lead_le (p : Int → Bool) (z : Nat → Int) : ∀ m, lead p z m ≤ m
  | 0 => Nat.le_refl _
  | m + 1 => by
    have := lead_le p z m
    unfold lead
    split <;> omega

theorem lead_all (p : Int → Bool) (z : Nat → Int) : ∀ m j, j < lead p z m → p (z j) = true
  | 0, j, h => by simp [lead] at h
  | m + 1, j, h => by
    unfold lead at h
    split at h
    · rename_i hc
      by_cases e : j = m
      · rw [e]; exact hc.2
      · exact lead_all p z m j (by omega)
    · exact lead_all p z m j h

theorem lead_stop (p : Int → Bool) (z : Nat → Int) : ∀ m, lead p z m < m → p (z (lead p z m)) = false
  | 0, h => by omega
  | m + 1, h => by
    unfold lead at h ⊢
    split at h
    · omega
    · rename_i hc
      rw [if_neg hc]
      have := lead_le p z m
      by_cases e : lead p z m = m
      · rw [e]
        cases hp : p (z m)
        · rfl
        · exact absurd ⟨e, hp⟩ hc
      · exact lead_stop p z m (by omega)

theorem lead_eq (p : Int → Bool) (z : Nat → Int) (m k : Nat) (hk : k ≤ m) (h1 : ∀ j, j < k → p (z j) = true) (h2 : k = m ∨ p (z k) = false) : lead p z m = k := by
  have hl := lead_le p z m
  rcases Nat.lt_trichotomy (lead p z m) k with h | h | h
  · have := lead_stop p z m (by omega)
    rw [h1 _ h] at this
    cases this
  · exact h
  · have := lead_all p z m k h
    rcases h2 with h2 | h2
    · omega
    · rw [h2] at this; cases this

/-- The columns of the first k indentation bytes, from column col on. -/
def wid (z : Nat → Int) (col : Int) : Nat → Int
  | 0 => 0
  | k + 1 => if z k = 32 then wid z col k + 1 else wid z col k + (4 - (col + wid z col k) % 4)

theorem wid_bound (z : Nat → Int) (col : Int) : ∀ k : Nat, (k : Int) ≤ wid z col k ∧ wid z col k ≤ 4 * k
  | 0 => by simp [wid]
  | k + 1 => by
    have := wid_bound z col k
    unfold wid
    split <;> omega

/-- The number that the first k digits make. -/
def num (z : Nat → Int) : Nat → Int
  | 0 => 0
  | k + 1 => 10 * num z k + (z k - 48)

/-- What a reader of a list marker answers. -/
structure Ans where
  fin : Int
  fcol : Int
  ch : Int
  st : Int
  em : Bool
  ok : Bool

def no : Ans := ⟨0, 0, 0, 0, false, false⟩

/-- May a marker end ahead of place i? -/
def bnd (z : Nat → Int) (n i : Nat) : Bool := decide (i = n) || isEnd (z i)

/-- The answer behind the indentation: i bytes and wd columns of it. -/
def tail (z : Nat → Int) (n i : Nat) (wd : Int) : Ans :=
  if 3 < wd ∨ i = n then no
  else if isBul (z i) = true then
    if bnd z n (i + 1) = true then ⟨i + 1, wd + 1, z i, -1, blankAll (shift z (i + 1)) (n - (i + 1)), true⟩ else no
  else
    let k := lead isDig (shift z i) (n - i)
    if k = 0 ∨ 9 < k ∨ i + k = n then no
    else if isDel (z (i + k)) = true then
      if bnd z n (i + k + 1) = true then ⟨i + k + 1, wd + (k + 1), z (i + k), num (shift z i) k, blankAll (shift z (i + k + 1)) (n - (i + k + 1)), true⟩ else no
    else no

/-- The whole answer. -/
def rlm (z : Nat → Int) (n : Nat) (col : Int) : Ans := tail z n (lead isInd z n) (wid z col (lead isInd z n))

/-- The ways through, each as a rule. -/
theorem tail_deep {z : Nat → Int} {n i : Nat} {wd : Int} (h : 3 < wd ∨ i = n) : tail z n i wd = no := by unfold tail; rw [if_pos h]
theorem tail_bul {z : Nat → Int} {n i : Nat} {wd : Int} (h : ¬ (3 < wd ∨ i = n)) (hb : isBul (z i) = true) (he : bnd z n (i + 1) = true) :
    tail z n i wd = ⟨i + 1, wd + 1, z i, -1, blankAll (shift z (i + 1)) (n - (i + 1)), true⟩ := by unfold tail; rw [if_neg h, if_pos hb, if_pos he]
theorem tail_bul_no {z : Nat → Int} {n i : Nat} {wd : Int} (h : ¬ (3 < wd ∨ i = n)) (hb : isBul (z i) = true) (he : bnd z n (i + 1) = false) : tail z n i wd = no := by
  unfold tail; rw [if_neg h, if_pos hb, if_neg (by rw [he]; simp)]
theorem tail_dig_no {z : Nat → Int} {n i k : Nat} {wd : Int} (h : ¬ (3 < wd ∨ i = n)) (hb : isBul (z i) = false) (hk : lead isDig (shift z i) (n - i) = k)
    (hn : (k = 0 ∨ 9 < k ∨ i + k = n) ∨ isDel (z (i + k)) = false ∨ bnd z n (i + k + 1) = false) : tail z n i wd = no := by
  unfold tail; rw [if_neg h, if_neg (by rw [hb]; simp)]
  simp only [hk]
  split
  · rfl
  · rename_i h1
    split
    · rename_i h2
      split
      · rename_i h3
        rcases hn with hn | hn | hn
        · exact absurd hn h1
        · rw [hn] at h2; cases h2
        · rw [hn] at h3; cases h3
      · rfl
    · rfl
theorem tail_dig {z : Nat → Int} {n i k : Nat} {wd : Int} (h : ¬ (3 < wd ∨ i = n)) (hb : isBul (z i) = false) (hk : lead isDig (shift z i) (n - i) = k)
    (hn : ¬ (k = 0 ∨ 9 < k ∨ i + k = n)) (hd : isDel (z (i + k)) = true) (he : bnd z n (i + k + 1) = true) :
    tail z n i wd = ⟨i + k + 1, wd + (k + 1), z (i + k), num (shift z i) k, blankAll (shift z (i + k + 1)) (n - (i + k + 1)), true⟩ := by
  unfold tail; rw [if_neg h, if_neg (by rw [hb]; simp)]
  simp only [hk]
  rw [if_neg hn, if_pos hd, if_pos he]

end Go.Proofs.Qxb6628227a
