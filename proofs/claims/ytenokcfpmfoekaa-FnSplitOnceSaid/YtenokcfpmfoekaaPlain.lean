/- Boxes as four whole numbers, and what is asked of them. No program in sight. -/
namespace Go.Bx
/-- A box by its corners. -/
structure R where
  x0 : Int
  y0 : Int
  x1 : Int
  y1 : Int
  deriving DecidableEq
namespace R
/-- r contains s. -/
def contains (r s : R) : Bool := !(decide (s.x0 < r.x0) || decide (r.x1 < s.x1)) && !(decide (s.y0 < r.y0) || decide (r.y1 < s.y1))
def intersects (r s : R) : Bool := !(decide (r.x1 < s.x0) || decide (s.x1 < r.x0)) && !(decide (r.y1 < s.y0) || decide (s.y1 < r.y0))
def equals (r s : R) : Bool := !(decide (r.x0 < s.x0) || decide (s.x0 < r.x0) || decide (r.y0 < s.y0) || decide (s.y0 < r.y0) || decide (r.x1 < s.x1) || decide (s.x1 < r.x1) || decide (r.y1 < s.y1) || decide (s.y1 < r.y1))
def onedge (r s : R) : Bool := !(decide (s.x0 < r.x0) && decide (s.y0 < r.y0) && decide (r.x1 < s.x1) && decide (r.y1 < s.y1))
def expand (r s : R) : R := ⟨min r.x0 s.x0, min r.y0 s.y0, max r.x1 s.x1, max r.y1 s.y1⟩
def area (r : R) : Int := (r.x1 - r.x0) * (r.y1 - r.y0)
def unionedArea (r s : R) : Int := (expand r s).area
def largestAxis (r : R) : Nat := if r.x1 - r.x0 < r.y1 - r.y0 then 1 else 0
def gap (a b c d : Int) : Int := max 0 (max a c - min b d)
def boxDist (r s : R) : Int := gap r.x0 r.x1 s.x0 s.x1 * gap r.x0 r.x1 s.x0 s.x1 + gap r.y0 r.y1 s.y0 s.y1 * gap r.y0 r.y1 s.y0 s.y1
/-- Every corner's number is one of sixteen bits. -/
def small (r : R) : Prop := (-32768 ≤ r.x0 ∧ r.x0 ≤ 32767) ∧ (-32768 ≤ r.y0 ∧ r.y0 ≤ 32767) ∧ (-32768 ≤ r.x1 ∧ r.x1 ≤ 32767) ∧ (-32768 ≤ r.y1 ∧ r.y1 ≤ 32767)
/-- In order on each axis. -/
def ok (r : R) : Prop := r.x0 ≤ r.x1 ∧ r.y0 ≤ r.y1
def of4 (a b c d : Int) : R := ⟨min a c, min b d, max a c, max b d⟩
theorem small_of4 {a b c d : Int} (ha : -32768 ≤ a ∧ a ≤ 32767) (hb : -32768 ≤ b ∧ b ≤ 32767) (hc : -32768 ≤ c ∧ c ≤ 32767) (hd : -32768 ≤ d ∧ d ≤ 32767) : (of4 a b c d).small := by
  simp only [small, of4]; omega
theorem ok_of4 (a b c d : Int) : (of4 a b c d).ok := by simp only [ok, of4]; omega
theorem small_expand {r s : R} (hr : r.small) (hs : s.small) : (expand r s).small := by
  simp only [small, expand] at *; omega
theorem ok_expand {r s : R} (hr : r.ok) (_hs : s.ok) : (expand r s).ok := by
  simp only [ok, expand] at *; omega
end R
end Go.Bx
