/- What readDelimited reads, plain: a text is a list of byte numbers. -/
namespace Go.Proofs.YbulkzkcDoor.Rd

def isD (c : Nat) : Bool := decide (48 ≤ c) && decide (c ≤ 57)
def punct (c : Nat) : Bool := decide (33 ≤ c) && decide (c ≤ 126) && !isD c && !(decide (97 ≤ c) && decide (c ≤ 122)) && !(decide (65 ≤ c) && decide (c ≤ 90))

/-- How many digits, at most two, the text begins with. -/
def lead : List Nat → Nat
  | [] => 0
  | [a] => if isD a then 1 else 0
  | a :: b :: _ => if isD a then (if isD b then 2 else 1) else 0

/-- The value of digits. -/
def val (l : List Nat) : Nat := l.foldl (fun v c => v * 10 + (c - 48)) 0

/-- The rest, whether all fields were read, the values read. -/
def rd : Nat → List Nat → List Nat × Bool × List Nat
  | 0, l => (l, true, [])
  | _ + 1, [] => ([], false, [])
  | k + 1, c :: t => if punct c then (if lead t = 0 then (t, false, []) else ((rd k (t.drop (lead t))).1, (rd k (t.drop (lead t))).2.1, val (t.take (lead t)) :: (rd k (t.drop (lead t))).2.2)) else (c :: t, false, [])

theorem lead_le (l : List Nat) : lead l ≤ l.length ∧ lead l ≤ 2 := by
  match l with
  | [] => simp [lead]
  | [a] => simp only [lead]; split <;> simp
  | a :: b :: r => simp only [lead]; split <;> (try split) <;> simp

theorem lead_digits (l : List Nat) : ∀ c ∈ l.take (lead l), isD c = true := by
  match l with
  | [] => simp [lead]
  | [a] =>
    by_cases h : isD a = true
    · simp [lead, h]
    · simp [lead, h]
  | a :: b :: r =>
    by_cases h : isD a = true
    · by_cases h2 : isD b = true
      · simp [lead, h, h2]
      · simp [lead, h, h2]
    · simp [lead, h]

theorem rd_len (k : Nat) : ∀ l, (rd k l).2.2.length ≤ k := by
  induction k with
  | zero => intro l; simp [rd]
  | succ k ih =>
    intro l
    match l with
    | [] => simp [rd]
    | c :: t =>
      unfold rd
      split
      · split
        · simp
        · have := ih (t.drop (lead t)); simp; omega
      · simp

end Go.Proofs.YbulkzkcDoor.Rd
