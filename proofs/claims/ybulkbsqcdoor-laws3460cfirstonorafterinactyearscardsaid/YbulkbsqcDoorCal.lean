/-
  PLAIN: the calendar's numbers as the Go text reckons them; the rules; which day is a bank business day. No Go in sight.
-/
namespace Go.Proofs.YbulkbsqcDoor.Cal

/-- Leap years through y (0 or above). -/
def leap (y : Int) : Int := y / 4 - y / 100 + y / 400
def dby (y : Int) : Int := y * 365 + leap y
def era (d : Int) : Int := (d + 719468) / 146097
def doe (d : Int) : Int := (d + 719468) % 146097
def yoe (d : Int) : Int := if dby (doe d * 400 / 146097 + 1) ≤ doe d then doe d * 400 / 146097 + 1 else doe d * 400 / 146097
def doy (d : Int) : Int := doe d - dby (yoe d)
def mp (d : Int) : Int := (5 * doy d + 2) / 153
def day (d : Int) : Int := doy d - (153 * mp d + 2) / 5 + 1
def year (d : Int) : Int := if 12 < mp d + 3 then era d * 400 + yoe d + 1 else era d * 400 + yoe d
def month (d : Int) : Int := if 12 < mp d + 3 then mp d + 3 - 12 else mp d + 3
def wday (d : Int) : Int := (d + 4) % 7
/-- The weekday of the month's first day. -/
def fwd (d : Int) : Int := (wday d - (day d - 1) % 7 + 7) % 7

structure Rule where
  first : Int
  last : Int
  mon : Int
  dy : Int
  monday : Int
  eqx : Bool

def holds (r : Rule) (y : Int) : Bool := decide (r.first ≤ y) && (r.last == 0 || decide (y ≤ r.last))
/-- The fit's base, in millionths of a day. -/
def fit (y m : Int) : Int :=
  if y < 1980 then (if m = 9 then 23258800 else 20835700) else if y < 2100 then (if m = 9 then 23248800 else 20843100) else (if m = 9 then 23248800 else 20851000)
def eqday (y m : Int) : Int := (fit y m + 242194 * (y - 1980)) / 1000000 - (leap y - 480)
def dayIn (r : Rule) (y f : Int) : Int := if 0 < r.monday then 1 + (1 - f + 7) % 7 + 7 * (r.monday - 1) else if r.eqx then eqday y r.mon else r.dy
def hit (r : Rule) (d : Int) : Bool := (r.mon == month d) && (holds r (year d) && (dayIn r (year d) (fwd d) == day d))

def rules : List Rule := [
  ⟨1949, 0, 1, 1, 0, false⟩, ⟨1949, 1999, 1, 15, 0, false⟩, ⟨2000, 0, 1, 0, 2, false⟩, ⟨1967, 0, 2, 11, 0, false⟩, ⟨1949, 1988, 4, 29, 0, false⟩, ⟨1989, 2018, 12, 23, 0, false⟩,
  ⟨2020, 0, 2, 23, 0, false⟩, ⟨1949, 0, 3, 0, 0, true⟩, ⟨1989, 2006, 4, 29, 0, false⟩, ⟨2007, 0, 5, 4, 0, false⟩, ⟨2007, 0, 4, 29, 0, false⟩, ⟨1949, 0, 5, 3, 0, false⟩, ⟨1949, 0, 5, 5, 0, false⟩,
  ⟨1996, 2002, 7, 20, 0, false⟩, ⟨2003, 2019, 7, 0, 3, false⟩, ⟨2020, 2020, 7, 23, 0, false⟩, ⟨2021, 2021, 7, 22, 0, false⟩, ⟨2022, 0, 7, 0, 3, false⟩, ⟨2016, 2019, 8, 11, 0, false⟩,
  ⟨2020, 2020, 8, 10, 0, false⟩, ⟨2021, 2021, 8, 8, 0, false⟩, ⟨2022, 0, 8, 11, 0, false⟩, ⟨1966, 2002, 9, 15, 0, false⟩, ⟨2003, 0, 9, 0, 3, false⟩, ⟨1948, 0, 9, 0, 0, true⟩,
  ⟨1966, 1999, 10, 10, 0, false⟩, ⟨2000, 2019, 10, 0, 2, false⟩, ⟨2020, 2020, 7, 24, 0, false⟩, ⟨2021, 2021, 7, 23, 0, false⟩, ⟨2022, 0, 10, 0, 2, false⟩, ⟨1948, 0, 11, 3, 0, false⟩,
  ⟨1948, 0, 11, 23, 0, false⟩, ⟨1959, 1959, 4, 10, 0, false⟩, ⟨1989, 1989, 2, 24, 0, false⟩, ⟨1990, 1990, 11, 12, 0, false⟩, ⟨1993, 1993, 6, 9, 0, false⟩, ⟨2019, 2019, 5, 1, 0, false⟩, ⟨2019, 2019, 10, 22, 0, false⟩]

def named (d : Int) : Bool := rules.any fun r => hit r d

/-- The walk back over named holidays (fuel n). -/
def back (d : Int) : Nat → Int → Bool
  | 0, _ => false
  | n + 1, e => if named e then (if wday e == 0 then true else if d < 13514 then false else back d n (e - 1)) else false
def subst (d : Int) : Bool := if d < 1197 then false else back d (d - 999).toNat (d - 1)
def national (d : Int) : Bool := named d || ((named (d - 1) && named (d + 1)) && decide (5839 ≤ d)) || subst d
def biz (d : Int) : Bool := !(wday d == 6 || wday d == 0) && (!((month d == 12 && day d == 31) || (month d == 1 && decide (day d ≤ 3))) && !national d)

/-- A business day above every int32. -/
def far : Int := 2147483757

theorem doe_in (d : Int) : 0 ≤ doe d ∧ doe d < 146097 := by unfold doe; omega
theorem era_eq (d : Int) : d + 719468 = era d * 146097 + doe d := by unfold era doe; omega
theorem leap_in (y : Int) (h0 : 0 ≤ y) (h1 : y ≤ 400) : 0 ≤ leap y ∧ leap y ≤ 97 := by unfold leap; omega
theorem yoe0_in (d : Int) : 0 ≤ doe d * 400 / 146097 ∧ doe d * 400 / 146097 ≤ 399 := by have := doe_in d; omega
theorem yoe_in (d : Int) : 0 ≤ yoe d ∧ yoe d ≤ 400 := by
  have := yoe0_in d
  unfold yoe; split <;> omega
theorem dby_in (y : Int) (h0 : 0 ≤ y) (h1 : y ≤ 400) : 0 ≤ dby y ∧ dby y ≤ 146097 := by
  have := leap_in y h0 h1
  unfold dby; omega
theorem doy_in (d : Int) : -146097 ≤ doy d ∧ doy d < 146097 := by
  have := doe_in d
  have := yoe_in d
  have := dby_in (yoe d) (by omega) (by omega)
  unfold doy; omega
theorem wday_in (d : Int) : 0 ≤ wday d ∧ wday d ≤ 6 := by unfold wday; omega
/-- The days of the year count from 0. -/
theorem doy_nonneg (d : Int) : 0 ≤ doy d := by
  have h1 := doe_in d
  have h2 := yoe0_in d
  unfold doy yoe
  split
  · rename_i h; omega
  · unfold dby leap
    omega
end Go.Proofs.YbulkbsqcDoor.Cal
