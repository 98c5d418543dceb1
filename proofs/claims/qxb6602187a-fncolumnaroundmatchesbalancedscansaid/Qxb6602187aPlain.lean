/-
  THE PLAIN SIDE OF THE COLUMN's SPAN: no Go in sight. What a token is to the scan: 0 nothing, 1 ',', 2 '(', 3 ')'.
-/
namespace Go.Proofs.Qxb6602187a.pl

/-- what a token of kind k and text x is to the scan -/
def cls (k : Int) (x : List UInt8) : Nat := if k = 4 then (if x = [44] then 1 else if x = [40] then 2 else if x = [41] then 3 else 0) else 0
def dl (c : Nat) : Int := if c = 2 then 1 else if c = 3 then -1 else 0
/-- '(' less ')' among the n tokens from first on -/
def bt (c : Nat → Nat) (first : Nat) : Nat → Int
  | 0 => 0
  | n + 1 => bt c first n + dl (c (first + n))
/-- just behind the last place of [first, first + n) at which q holds; else first -/
def lastQ (q : Nat → Bool) (first : Nat) : Nat → Nat
  | 0 => first
  | n + 1 => if q (first + n) then first + n + 1 else lastQ q first n
/-- the first place of [e - n, e) at which r holds; else e -/
def firstQ (r : Nat → Bool) (e : Nat) : Nat → Nat
  | 0 => e
  | n + 1 => if r (e - (n + 1)) then e - (n + 1) else firstQ r e n

/-- token m, ahead of i, opens i's column -/
def qB (c : Nat → Nat) (first i : Nat) (m : Nat) : Bool := (c m == 1 || c m == 2) && (bt c first (m + 1 - first) == bt c first (i - first))
/-- token m, behind i, closes i's column -/
def qE (c : Nat → Nat) (first i : Nat) (m : Nat) : Bool := (c m == 1 || c m == 3) && (bt c first (m - first) == bt c first (i + 1 - first))

def colF (c : Nat → Nat) (first i : Nat) : Nat := lastQ (qB c first i) first (i - first)
def colE (c : Nat → Nat) (first i e : Nat) : Nat := firstQ (qE c first i) e (e - (i + 1))

theorem dl_bd (c : Nat) : -1 ≤ dl c ∧ dl c ≤ 1 := by unfold dl; split; omega; split <;> omega
theorem bt_bd (c : Nat → Nat) (first : Nat) : ∀ n : Nat, -(n : Int) ≤ bt c first n ∧ bt c first n ≤ n
  | 0 => by simp [bt]
  | n + 1 => by have := bt_bd c first n; have := dl_bd (c (first + n)); simp only [bt]; omega
theorem bt_step (c : Nat → Nat) (first x : Nat) (h : first ≤ x) : bt c first (x + 1 - first) = bt c first (x - first) + dl (c x) := by
  rw [show x + 1 - first = (x - first) + 1 by omega, bt, show first + (x - first) = x by omega]

theorem lastQ_le (q : Nat → Bool) (first : Nat) : ∀ n, first ≤ lastQ q first n ∧ lastQ q first n ≤ first + n
  | 0 => by simp [lastQ]
  | n + 1 => by have := lastQ_le q first n; simp only [lastQ]; split <;> omega
theorem firstQ_le (r : Nat → Bool) (e : Nat) : ∀ n, firstQ r e n ≤ e
  | 0 => by simp [firstQ]
  | n + 1 => by have := firstQ_le r e n; simp only [firstQ]; split <;> omega

theorem lastQ_step (q : Nat → Bool) (first x : Nat) (h : first ≤ x) : lastQ q first (x + 1 - first) = if q x then x + 1 else lastQ q first (x - first) := by
  rw [show x + 1 - first = (x - first) + 1 by omega, lastQ, show first + (x - first) = x by omega]
theorem firstQ_step (r : Nat → Bool) (e x : Nat) (h : x < e) : firstQ r e (e - x) = if r x then x else firstQ r e (e - (x + 1)) := by
  rw [show e - x = (e - (x + 1)) + 1 by omega, firstQ, show e - (e - (x + 1) + 1) = x by omega]
end Go.Proofs.Qxb6602187a.pl
