/-
  DERIVED. Plain: what matchSet computes, on lists of bytes: no Go in sight. 'm' answers whether the byte is of the class.
-/
namespace Go.Proofs.Qxb6602654a.Scan

/-- Does an item of the list match c? Items are read from the front: %x, x-z, x. -/
def scan (m : Int → Bool) (c : Int) : List UInt8 → Bool
  | [] => false
  | [x] => ((x.toNat : Int) == c)
  | [x, y] => if x.toNat = 37 then m (y.toNat : Int) else ((x.toNat : Int) == c) || ((y.toNat : Int) == c)
  | x :: y :: z :: t =>
    if x.toNat = 37 then m (y.toNat : Int) || scan m c (z :: t)
    else if y.toNat = 45 then (decide ((x.toNat : Int) ≤ c) && decide (c ≤ (z.toNat : Int))) || scan m c t
    else ((x.toNat : Int) == c) || scan m c (y :: z :: t)

/-- A set's body: with a '^' ahead the answer is turned. -/
def body (m : Int → Bool) (c : Int) (l : List UInt8) : Bool :=
  match l with
  | [] => false
  | x :: t => if x.toNat = 94 then !scan m c t else scan m c (x :: t)

theorem scan_class (m : Int → Bool) (c : Int) (x y : UInt8) (t : List UInt8) (hx : x.toNat = 37) : scan m c (x :: y :: t) = (m (y.toNat : Int) || scan m c t) := by
  cases t with
  | nil => simp [scan, hx]
  | cons z t => simp [scan, hx]
theorem scan_range (m : Int → Bool) (c : Int) (x y z : UInt8) (t : List UInt8) (hx : ¬ x.toNat = 37) (hy : y.toNat = 45) : scan m c (x :: y :: z :: t) = ((decide ((x.toNat : Int) ≤ c) && decide (c ≤ (z.toNat : Int))) || scan m c t) := by
  simp [scan, hx, hy]
theorem scan_one (m : Int → Bool) (c : Int) (x : UInt8) (t : List UInt8) (hx : ¬ x.toNat = 37 ∨ t = []) (hy : t.length ≤ 1 ∨ ∀ y, t.head? = some y → ¬ y.toNat = 45) : scan m c (x :: t) = (((x.toNat : Int) == c) || scan m c t) := by
  match t with
  | [] => simp [scan]
  | [y] =>
    have hx' : ¬ x.toNat = 37 := by simpa using hx
    simp [scan, hx']
  | y :: z :: t =>
    have hx' : ¬ x.toNat = 37 := by simpa using hx
    have hy' : ¬ y.toNat = 45 := by simpa using hy
    simp [scan, hx', hy']
end Go.Proofs.Qxb6602654a.Scan
