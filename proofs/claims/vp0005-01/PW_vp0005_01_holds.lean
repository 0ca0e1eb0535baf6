import PyProof.Rows.All
import Wide.All
import OpenK.AllK
import Wide.FinOn
import PySem.Challenge.RW_vp0005_01
set_option Elab.async false
/-! the plain functions and their law -/
namespace Mine
section
def isleapF (y : Int) : Bool := y % 4 == 0 && (y % 100 != 0 || y % 400 == 0)
def mlenG (y mo : Int) : Int := if mo = 2 then (if isleapF y then 29 else 28) else if [4, 6, 9, 11].any (· == mo) = true then 30 else 31
def LegalG (y mo d : Int) : Prop := 0 < d ∧ d ≤ mlenG y mo
def jdG (y mo d : Int) : Int := 1721426 - 1 + 365 * (y - 1) + (y - 1) / 4 + -((y - 1) / 100) + (y - 1) / 400 + ((367 * mo - 362) / 12 + (if mo ≤ 2 then 0 else if isleapF y then -1 else -2) + d)
theorem legal_0 {y mo d : Int} (h : LegalG y mo d) : 0 < d := h.1
theorem legal_a {y mo d : Int} (h : LegalG y mo d) (h1 : mo = 2) (h2 : isleapF y = true) : d ≤ 29 := by
  have := h.2; unfold mlenG at this; rw [if_pos h1, if_pos h2] at this; exact this
theorem legal_b {y mo d : Int} (h : LegalG y mo d) (h1 : mo = 2) (h2 : isleapF y = false) : d ≤ 28 := by
  have := h.2; unfold mlenG at this; rw [if_pos h1, if_neg (by simp [h2])] at this; exact this
theorem legal_c' {y mo d : Int} (h : LegalG y mo d) (h1 : mo ≠ 2) (h2 : [4, 6, 9, 11].any (· == mo) = true) : d ≤ 30 := by
  have := h.2; unfold mlenG at this; rw [if_neg h1, if_pos h2] at this; exact this
theorem legal_d {y mo d : Int} (h : LegalG y mo d) (h1 : mo ≠ 2) (h2 : [4, 6, 9, 11].any (· == mo) = false) : d ≤ 31 := by
  have := h.2; unfold mlenG at this; rw [if_neg h1, h2] at this; exact this
theorem mlen_28 (y mo : Int) : 28 ≤ mlenG y mo := by unfold mlenG; split <;> (try split) <;> omega
theorem legal_one (y mo : Int) : LegalG y mo 1 := ⟨by omega, by have := mlen_28 y mo; omega⟩
/-- from_jd's own reckoning of the year, the month, the day -/
def gQ (n : Int) : Int := (n - 1721426).fmod 146097
def gCent (n : Int) : Int := (gQ n).fdiv 36524
def gYi (n : Int) : Int := (((gQ n).fmod 36524).fmod 1461).fdiv 365
def gY0 (n : Int) : Int := (n - 1721426).fdiv 146097 * 400 + gCent n * 100 + ((gQ n).fmod 36524).fdiv 1461 * 4 + gYi n
def gY (n : Int) : Int := if gCent n = 4 ∨ gYi n = 4 then gY0 n else gY0 n + 1
def gDay (n : Int) : Int := n - jdG (gY n) 1 1
def gAdj (n : Int) : Int := if gDay n < 58 + (if isleapF (gY n) = true then 1 else 0) then 0 else if isleapF (gY n) = true then 1 else 2
def gM (n : Int) : Int := ((gDay n + gAdj n) * 12 + 373).fdiv 367
def gD (n : Int) : Int := n - jdG (gY n) (gM n) 1 + 1
theorem gY_1 {n : Int} (h : gCent n = 4) : gY0 n = gY n := by unfold gY; rw [if_pos (.inl h)]
theorem gY_2 {n : Int} (h : gYi n = 4) : gY0 n = gY n := by unfold gY; rw [if_pos (.inr h)]
theorem gY_3 {n : Int} (h : gCent n ≠ 4) (h2 : gYi n ≠ 4) : gY0 n + 1 = gY n := by unfold gY; rw [if_neg (fun k => k.elim h h2)]
theorem gAdj_1 {n : Int} (h : gDay n < 58 + (if isleapF (gY n) = true then 1 else 0)) : 0 = gAdj n := by unfold gAdj; rw [if_pos h]
theorem gAdj_2 {n : Int} (h : ¬ gDay n < 58 + (if isleapF (gY n) = true then 1 else 0)) (h2 : isleapF (gY n) = true) : 1 = gAdj n := by unfold gAdj; rw [if_neg h, if_pos h2]
theorem gAdj_3 {n : Int} (h : ¬ gDay n < 58 + (if isleapF (gY n) = true then 1 else 0)) (h2 : isleapF (gY n) = false) : 2 = gAdj n := by unfold gAdj; rw [if_neg h, if_neg (by simp [h2])]
def leapF (y : Int) : Bool := decide ((y * 7 + 1) % 19 < 7)
def ymF (y : Int) : Int := if leapF y = true then 13 else 12
def monF (y : Int) : Int := (235 * y - 234) / 19
def d1F (y : Int) : Int :=
  let d := monF y * 29 + (12084 + 13753 * monF y) / 25920
  if 3 * (d + 1) % 7 < 3 then d + 1 else d
def d2F (y : Int) : Int := if d1F (y + 1) - d1F y = 356 then 2 else if d1F y - d1F (y - 1) = 382 then 1 else 0
def jdI (y mo d : Int) : Int := d + -(-59 * (mo - 1) / 2) + (y - 1) * 354 + (3 + 11 * y) / 30 + 1948440 - 1
def iY (n : Int) : Int := (30 * (n - 1948440) + 10646) / 10631
def iM (n : Int) : Int := min 12 (-(-2 * (n - (29 + jdI (iY n) 1 1)) / 59) + 1)
def iD (n : Int) : Int := n - jdI (iY n) (iM n) 1 + 1
def goldF (y : Int) : Int := (12 * y + 17) % 19
def marchN (y : Int) : Int := 32 * 492480 + 21715 + 765433 * goldF y + 123120 * (y % 4) - 1565 * y
def weekF (y : Int) : Int := (marchN y / 492480 + 3 * y + 5 * (y % 4) + 5) % 7
def marchF (y : Int) : Int :=
  if weekF y = 2 ∨ weekF y = 4 ∨ weekF y = 6 then marchN y / 492480 + 1
  else if weekF y = 1 ∧ 6 < goldF y ∧ 311676 ≤ marchN y % 492480 then marchN y / 492480 + 2
  else if weekF y = 0 ∧ 11 < goldF y ∧ 442111 ≤ marchN y % 492480 then marchN y / 492480 + 1
  else marchN y / 492480
def springF (y : Int) : Int := 1721117 + 365 * (y - 3760) + (y - 3760) / 4 + marchF y
/-- the Hebrew year: its first day (as to_jd reckons it), its length, its months -/
def bsF (y d : Int) : Int := 347996 + d1F y + d2F y + d + 1
def ydF (y : Int) : Int := bsF (y + 1) 1 - bsF y 1
def mlF (y m : Int) : Int :=
  if [2, 4, 6, 10, 13].any (· == m) = true then 29
  else if m = 12 ∧ leapF y = false then 29
  else if m = 8 ∧ ydF y % 10 ≠ 5 then 29
  else if m = 9 ∧ ydF y % 10 = 3 then 29
  else 30
def sumL (y : Int) (l : List Int) : Int := (l.map (mlF y)).sum
def sumF (y a : Int) (n : Nat) : Int := sumL y (PySem.W.rangeKs a n)
def offF (y m : Int) : Int := if m < 7 then sumF y 7 (ymF y + 1 - 7).toNat + sumF y 1 (m - 1).toNat else sumF y 7 (m - 7).toNat
def jdH (y m d : Int) : Int := bsF y d + offF y m
theorem ymF_bounds (y : Int) : ymF y = 12 ∨ ymF y = 13 := by unfold ymF; split <;> simp
theorem mlF_pos (y m : Int) : 29 ≤ mlF y m := by unfold mlF; repeat' split <;> omega
theorem sumF_nonneg (y a : Int) (n : Nat) : 0 ≤ sumF y a n := by
  unfold sumF sumL
  have : ∀ l : List Int, 0 ≤ (l.map (mlF y)).sum := by
    intro l
    induction l with
    | nil => simp
    | cons k r ih => have := mlF_pos y k; rw [List.map_cons, List.sum_cons]; omega
  exact this _
theorem offF_nonneg (y m : Int) : 0 ≤ offF y m := by
  have h1 := sumF_nonneg y 7 (ymF y + 1 - 7).toNat
  have h2 := sumF_nonneg y 1 (m - 1).toNat
  have h3 := sumF_nonneg y 7 (m - 7).toNat
  unfold offF; split <;> omega
theorem d1F_low {y : Int} (h : 0 ≤ y) : -400 ≤ d1F y := by
  unfold d1F monF; dsimp only; split <;> omega
theorem d2F_low (y : Int) : 0 ≤ d2F y := by unfold d2F; split <;> (try split) <;> omega
theorem bsF_pos {y d : Int} (h : 0 ≤ y) (hd : 1 ≤ d) : 0 < bsF y d := by
  have h1 := d1F_low h; have h2 := d2F_low y; unfold bsF; omega
theorem jdH_pos {y m d : Int} (h : 0 ≤ y) (hd : 1 ≤ d) : 0 < jdH y m d := by
  have h1 := bsF_pos h hd; have h2 := offF_nonneg y m; unfold jdH; omega
theorem sumF_zero (y a : Int) : sumF y a 0 = 0 := rfl
theorem sum_start {y j0 : Int} : j0 = j0 + sumL y [] ∧ j0 ≤ j0 := ⟨by simp [sumL], Int.le_refl _⟩
theorem sum_turn {y j0 jd k : Int} {pre : List Int} (h : jd = j0 + sumL y pre ∧ j0 ≤ jd) : jd + mlF y k = j0 + sumL y (pre ++ [k]) ∧ j0 ≤ jd + mlF y k := by
  have h1 := mlF_pos y k
  refine ⟨?_, by omega⟩
  unfold sumL at *
  rw [List.map_append, List.sum_append, List.map_cons, List.map_nil, List.sum_cons, List.sum_nil]; omega
/-- what from_jd of the Hebrew calendar asks of a day's number and its date -/
def firstF (mo : Int) : Int := if 7 ≤ mo then 7 else 1
structure FromH (n Y mo d : Int) : Prop where
  y0 : 0 ≤ Y
  m1 : 1 ≤ mo
  m2 : mo ≤ 13
  cnt0 : 0 ≤ ((n - 347996) * 98496).fdiv 35975351
  cnt1 : ((n - 347996) * 98496).fdiv 35975351 ≤ Y + 1
  yr : ∀ i, 0 ≤ i → (jdH i 7 1 ≤ n ↔ i ≤ Y)
  half : n < jdH Y 1 1 ↔ 7 ≤ mo
  mon : ∀ i, firstF mo ≤ i → i ≤ mo → (jdH Y i (mlF Y i) < n ↔ i < mo)
  day : n - jdH Y mo 1 + 1 = d
theorem firstF_le {mo : Int} (h : 1 ≤ mo) : firstF mo ≤ mo := by unfold firstF; split <;> omega
theorem firstF_one (mo : Int) : 1 ≤ firstF mo := by unfold firstF; split <;> omega
theorem mlF_one (y m : Int) : 1 ≤ mlF y m := by have := mlF_pos y m; omega
section
variable {n Y mo d i year month : Int}
theorem FromH.start1 (h : FromH n Y mo d) : ((n - 347996) * 98496).fdiv 35975351 - 1 = ((n - 347996) * 98496).fdiv 35975351 - 1 ∧ 0 ≤ ((n - 347996) * 98496).fdiv 35975351 ∧ ((n - 347996) * 98496).fdiv 35975351 ≤ Y + 1 := ⟨rfl, h.cnt0, h.cnt1⟩
theorem FromH.turn1 (h : FromH n Y mo d) (hx : jdH i 7 1 ≤ n) (h1 : year = i - 1) (h2 : 0 ≤ i) : year + 1 = i + 1 - 1 ∧ 0 ≤ i + 1 ∧ i + 1 ≤ Y + 1 := by
  have := (h.yr i h2).mp hx; omega
theorem FromH.meas1 (h : FromH n Y mo d) (hx : jdH i 7 1 ≤ n) (h2 : 0 ≤ i) : (Y + 1 - (i + 1)).toNat < (Y + 1 - i).toNat := by
  have := (h.yr i h2).mp hx; omega
theorem FromH.stop1 (h : FromH n Y mo d) (hx : ¬ jdH i 7 1 ≤ n) (h1 : year = i - 1) (h2 : 0 ≤ i) (h3 : i ≤ Y + 1) : i = Y + 1 ∧ Y = year := by
  have : ¬ i ≤ Y := fun k => hx ((h.yr i h2).mpr k)
  omega
theorem FromH.first1 (h : FromH n Y mo d) (hx : n < jdH Y 1 1) : 7 = firstF mo := by unfold firstF; rw [if_pos (h.half.mp hx)]
theorem FromH.first2 (h : FromH n Y mo d) (hx : ¬ n < jdH Y 1 1) : 1 = firstF mo := by unfold firstF; rw [if_neg (fun k => hx (h.half.mpr k))]
theorem FromH.start2 (h : FromH n Y mo d) : firstF mo = firstF mo ∧ firstF mo ≤ firstF mo ∧ firstF mo ≤ mo := ⟨rfl, Int.le_refl _, firstF_le h.m1⟩
theorem FromH.turn2 (h : FromH n Y mo d) (hx : jdH Y i (mlF Y i) < n) (h1 : month = i) (h2 : firstF mo ≤ i) (h3 : i ≤ mo) : month + 1 = i + 1 ∧ firstF mo ≤ i + 1 ∧ i + 1 ≤ mo := by
  have := (h.mon i h2 h3).mp hx; omega
theorem FromH.meas2 (h : FromH n Y mo d) (hx : jdH Y i (mlF Y i) < n) (h2 : firstF mo ≤ i) (h3 : i ≤ mo) : (mo - (i + 1)).toNat < (mo - i).toNat := by
  have := (h.mon i h2 h3).mp hx; omega
theorem FromH.stop2 (h : FromH n Y mo d) (hx : ¬ jdH Y i (mlF Y i) < n) (h1 : month = i) (h2 : firstF mo ≤ i) (h3 : i ≤ mo) : mo = i ∧ mo = month := by
  have : ¬ i < mo := fun k => hx ((h.mon i h2 h3).mpr k)
  omega
end
/-- the law's own Islamic date: the table of long years, the months -/
def lenY (y : Int) : Int := if [2, 5, 7, 10, 13, 16, 18, 21, 24, 26, 29].any (· == y) = true then 355 else 354
def sY (y : Int) : Int := (y - 1) * 354 + (3 + 11 * y) / 30
def sM (m : Int) : Int := -(-59 * (m - 1) / 2)
def iL (n : Int) : Int := (n - 1948440).fmod 10631
structure FromI (n y mo : Int) : Prop where
  y1 : 1 ≤ y
  y30 : y ≤ 30
  yr : ∀ i, 1 ≤ i → i ≤ y → (lenY i ≤ iL n - sY i ↔ i < y)
  m1 : 1 ≤ mo
  m12 : mo ≤ 12
  mon : ∀ i, 1 ≤ i → i ≤ mo → (i < 12 ∧ 29 + i.fmod 2 ≤ iL n - sY y - sM i ↔ i < mo)
theorem lenY_1 {y : Int} (h : [2, 5, 7, 10, 13, 16, 18, 21, 24, 26, 29].any (· == y) = true) : 355 = lenY y := by unfold lenY; rw [if_pos h]
theorem lenY_2 {y : Int} (h : [2, 5, 7, 10, 13, 16, 18, 21, 24, 26, 29].any (· == y) = false) : 354 = lenY y := by unfold lenY; rw [if_neg (by rw [h]; simp)]
theorem any11 {y : Int} : [2, 5, 7, 10, 13, 16, 18, 21, 24, 26, 29].any (· == y) = true ↔ (y = 2 ∨ y = 5 ∨ y = 7 ∨ y = 10 ∨ y = 13 ∨ y = 16 ∨ y = 18 ∨ y = 21 ∨ y = 24 ∨ y = 26 ∨ y = 29) := by
  simp only [List.any_cons, List.any_nil, Bool.or_false, Bool.or_eq_true, beq_iff_eq]; omega
theorem lenY_steps : ∀ k : Nat, k < 30 → 1 ≤ k → sY ((k : Int) + 1) = sY k + lenY k := by decide +kernel
theorem lenY_step {y : Int} (h1 : 1 ≤ y) (h30 : y < 30) : sY (y + 1) = sY y + lenY y := by
  obtain ⟨k, rfl⟩ := Int.eq_ofNat_of_zero_le (show 0 ≤ y by omega)
  exact lenY_steps k (by omega) (by omega)
theorem sM_step {m : Int} : sM (m + 1) = sM m + (29 + m.fmod 2) := by
  unfold sM; rw [Int.fmod_eq_emod_of_nonneg _ (by decide)]
  obtain ⟨c, h⟩ : ∃ c, m = 2 * c ∨ m = 2 * c + 1 := ⟨m / 2, by omega⟩
  rcases h with rfl | rfl <;> omega
section
variable {n y mo i left len month : Int}
theorem FromI.start1 (h : FromI n y mo) : 1 ≤ (1 : Int) ∧ 1 ≤ y ∧ iL n = iL n - sY 1 ∧ 354 = lenY 1 := ⟨by omega, h.y1, by rw [show sY 1 = 0 from by decide]; omega, by decide⟩
theorem FromI.turn1 (h : FromI n y mo) (hx : len ≤ left) (h1 : 1 ≤ i) (h2 : i ≤ y) (h3 : left = iL n - sY i) (h4 : len = lenY i) (e : len' = lenY (i + 1)) : 1 ≤ i + 1 ∧ i + 1 ≤ y ∧ left - len = iL n - sY (i + 1) ∧ len' = lenY (i + 1) := by
  have h5 := (h.yr i h1 h2).mp (by omega)
  have h6 := h.y30
  have h7 := lenY_step h1 (by omega)
  exact ⟨by omega, by omega, by omega, e⟩
theorem FromI.meas1 (h : FromI n y mo) (hx : len ≤ left) (h1 : 1 ≤ i) (h2 : i ≤ y) (h3 : left = iL n - sY i) (h4 : len = lenY i) : (y - (i + 1)).toNat < (y - i).toNat := by
  have h5 := (h.yr i h1 h2).mp (by omega)
  omega
theorem FromI.stop1 (h : FromI n y mo) (hx : ¬ len ≤ left) (h1 : 1 ≤ i) (h2 : i ≤ y) (h3 : left = iL n - sY i) (h4 : len = lenY i) : y = i ∧ left = iL n - sY y := by
  have h5 : ¬ i < y := fun k => hx (by have := (h.yr i h1 h2).mpr k; omega)
  have h6 : y = i := by omega
  subst h6
  exact ⟨rfl, h3⟩
theorem FromI.start2 (h : FromI n y mo) : 1 ≤ (1 : Int) ∧ 1 ≤ mo ∧ iL n - sY y = iL n - sY y - sM 1 := ⟨by omega, h.m1, by rw [show sM 1 = 0 from by decide]; omega⟩
theorem FromI.turn2 (h : FromI n y mo) (hx : i < 12) (hx2 : 29 + i.fmod 2 ≤ left) (h1 : 1 ≤ i) (h2 : i ≤ mo) (h3 : left = iL n - sY y - sM i) : 1 ≤ i + 1 ∧ i + 1 ≤ mo ∧ left - (29 + i.fmod 2) = iL n - sY y - sM (i + 1) := by
  have h5 := (h.mon i h1 h2).mp ⟨hx, by omega⟩
  have h7 := @sM_step i
  exact ⟨by omega, by omega, by omega⟩
theorem FromI.meas2 (h : FromI n y mo) (hx : i < 12) (hx2 : 29 + i.fmod 2 ≤ left) (h1 : 1 ≤ i) (h2 : i ≤ mo) (h3 : left = iL n - sY y - sM i) : (mo - (i + 1)).toNat < (mo - i).toNat := by
  have h5 := (h.mon i h1 h2).mp ⟨hx, by omega⟩
  omega
theorem FromI.stop2a (h : FromI n y mo) (hx : ¬ i < 12) (h1 : 1 ≤ i) (h2 : i ≤ mo) (h3 : left = iL n - sY y - sM i) : mo = i ∧ left = iL n - sY y - sM mo := by
  have h5 : ¬ i < mo := fun k => hx ((h.mon i h1 h2).mpr k).1
  have h6 : mo = i := by omega
  subst h6
  exact ⟨rfl, h3⟩
theorem FromI.stop2b (h : FromI n y mo) (hx : ¬ 29 + i.fmod 2 ≤ left) (h1 : 1 ≤ i) (h2 : i ≤ mo) (h3 : left = iL n - sY y - sM i) : mo = i ∧ left = iL n - sY y - sM mo := by
  have h5 : ¬ i < mo := fun k => hx (by have := ((h.mon i h1 h2).mpr k).2; omega)
  have h6 : mo = i := by omega
  subst h6
  exact ⟨rfl, h3⟩
end
/-- the law's own civil date, by years from the first of March on -/
def cL (n : Int) : Int := (n - 1721120).fmod 146097
def cH (n : Int) : Int := if 3 < (cL n).fdiv 36524 then 3 else (cL n).fdiv 36524
def cL2 (n : Int) : Int := cL n - 36524 * cH n
def cF (n : Int) : Int := (cL2 n).fdiv 1461
def cL3 (n : Int) : Int := cL2 n - 1461 * cF n
def cO (n : Int) : Int := if 3 < (cL3 n).fdiv 365 then 3 else (cL3 n).fdiv 365
def cT (n : Int) : Int := cL3 n - 365 * cO n
def cY0 (n : Int) : Int := 400 * (n - 1721120).fdiv 146097 + 100 * cH n + 4 * cF n + cO n
structure FromC (n k : Int) : Prop where
  k0 : 0 ≤ k
  k11 : k ≤ 11
  lo : (153 * k + 2) / 5 ≤ cT n
  hi : cT n < (153 * (k + 1) + 2) / 5
  top : cT n < 366
def cYk (n k : Int) : Int := if k < 10 then cY0 n else cY0 n + 1
def cMk (k : Int) : Int := if k < 10 then k + 3 else k - 9
def cDk (n k : Int) : Int := cT n - (153 * k + 2) / 5 + 1
theorem k_11 {k : Int} (h0 : 0 ≤ k) (h1 : k ≤ 11) : k = 0 ∨ k = 1 ∨ k = 2 ∨ k = 3 ∨ k = 4 ∨ k = 5 ∨ k = 6 ∨ k = 7 ∨ k = 8 ∨ k = 9 ∨ k = 10 ∨ k = 11 := by omega
/-- the law's own Hebrew month -/
def mAt (sz p : Int) : Int := if 360 < sz then (if p < 7 then p + 7 else p - 6) else (if p < 6 then p + 7 else p - 5)
def l8 (sz : Int) : Int := if sz % 10 = 5 then 30 else 29
def l9 (sz : Int) : Int := if sz % 10 = 3 then 29 else 30
def lAt (sz p : Int) : Int := if p = 1 then l8 sz else if p = 2 then l9 sz else if 360 < sz then (if p % 2 = 0 ∧ p < 6 ∨ p % 2 = 1 ∧ 6 < p ∨ p = 5 then 30 else 29) else (if p % 2 = 0 then 30 else 29)
def sumN (sz : Int) : Nat → Int
  | 0 => 0
  | n + 1 => sumN sz n + lAt sz n
def oAt (sz p : Int) : Int := sumN sz p.toNat
structure FromM (c P Y sz ny p : Int) : Prop where
  c0 : 0 ≤ c
  P0 : 0 ≤ P
  P1 : P ≤ 18
  bef : ∀ i, P ≤ i → i ≤ 18 → (c.fmod 235 < (235 * i + 1) / 19 ↔ P < i)
  yr : 19 * c.fdiv 235 + P + 1 = Y
  ps : c.fmod 235 - (235 * P + 1) / 19 = p
  n0 : springF (Y - 1) + 163 = ny
  n1 : springF Y + 163 - ny = sz
  szs : sz = 353 ∨ sz = 354 ∨ sz = 355 ∨ sz = 383 ∨ sz = 384 ∨ sz = 385
  p0 : 0 ≤ p
  p1 : p < 12 ∨ 360 < sz ∧ p < 13
section
variable {c P Y sz ny p past : Int}
theorem toNat_12 (_ : 0 ≤ p) (h1 : p < 12 ∨ 360 < sz ∧ p < 13) (hs : ¬ 360 < sz) : p.toNat ≤ 12 := by omega
theorem toNat_13 (_ : 0 ≤ p) (h1 : p < 12 ∨ 360 < sz ∧ p < 13) : p.toNat ≤ 13 := by omega
theorem no_12 {j : Nat} (h1 : p < 12 ∨ 360 < sz ∧ p < 13) (hs : ¬ 360 < sz) (h : j ≤ p.toNat) (hj : j = 12) : False := by omega
theorem no_13 {j : Nat} (h0 : 0 ≤ p) (h1 : p < 12 ∨ 360 < sz ∧ p < 13) (h : j ≤ p.toNat) (hj : j = 13) : False := by omega
theorem FromM.cases (h : FromM c P Y sz ny p) : p = 0 ∨ p = 1 ∨ p = 2 ∨ p = 3 ∨ p = 4 ∨ p = 5 ∨ p = 6 ∨ p = 7 ∨ p = 8 ∨ p = 9 ∨ p = 10 ∨ p = 11 ∨ (p = 12 ∧ 360 < sz) := by
  have := h.p0; have := h.p1; omega
theorem FromM.start (h : FromM c P Y sz ny p) : P ≤ 18 ∧ (18 : Int) ≤ 18 := ⟨h.P1, by omega⟩
theorem FromM.turn (h : FromM c P Y sz ny p) (hx : c.fmod 235 < (235 * past + 1) / 19) (h1 : P ≤ past) (h2 : past ≤ 18) : P ≤ past - 1 ∧ past - 1 ≤ 18 := by
  have := (h.bef past h1 h2).mp hx; omega
theorem FromM.meas (h : FromM c P Y sz ny p) (hx : c.fmod 235 < (235 * past + 1) / 19) (h1 : P ≤ past) (h2 : past ≤ 18) : (past - 1).toNat < past.toNat := by
  have := (h.bef past h1 h2).mp hx; have := h.P0; omega
theorem FromM.stop (h : FromM c P Y sz ny p) (hx : ¬ c.fmod 235 < (235 * past + 1) / 19) (h1 : P ≤ past) (h2 : past ≤ 18) : P = past := by
  have : ¬ P < past := fun k => hx ((h.bef past h1 h2).mpr k)
  omega
end
end
section
/-- Gauss: the year's first day by its mean moon (m months ahead, r the rest; day d, parts q of it) -/
def adjF (d q r : Int) : Int :=
  if (d + 1) % 7 = 0 ∨ (d + 1) % 7 = 3 ∨ (d + 1) % 7 = 5 then 1
  else if (d + 1) % 7 = 2 ∧ 16404 ≤ q ∧ r < 12 then 2
  else if (d + 1) % 7 = 1 ∧ 23269 ≤ q ∧ r < 7 then 1 else 0
def pF (d : Int) : Int := if (d + 1) % 7 = 0 ∨ (d + 1) % 7 = 3 ∨ (d + 1) % 7 = 5 then 1 else 0
theorem d1_eq {y m r d q : Int} (hm : 19 * m + r = 235 * y - 234) (hr0 : 0 ≤ r) (hr : r < 19) (hd : 25920 * d + q = 12084 + 765433 * m) (hq0 : 0 ≤ q) (hq : q < 25920) : d1F y = d + pF d := by
  have e1 : monF y = m := by unfold monF; omega
  have e2 : m * 29 + (12084 + 13753 * m) / 25920 = d := by omega
  unfold d1F
  rw [e1]
  simp only [e2]
  unfold pF
  have h7 : (3 * (d + 1) % 7 < 3) ↔ ((d + 1) % 7 = 0 ∨ (d + 1) % 7 = 3 ∨ (d + 1) % 7 = 5) := by
    clear e1 e2 hd hm hq hq0
    obtain ⟨u, x, hx, x0, x7⟩ : ∃ u x : Int, d + 1 = 7 * u + x ∧ 0 ≤ x ∧ x < 7 := ⟨(d + 1) / 7, (d + 1) % 7, by omega, by omega, by omega⟩
    rw [hx, show 3 * (7 * u + x) % 7 = 3 * x % 7 from by omega, show (7 * u + x) % 7 = x from by omega]
    have hx7 : x = 0 ∨ x = 1 ∨ x = 2 ∨ x = 3 ∨ x = 4 ∨ x = 5 ∨ x = 6 := by omega
    rcases hx7 with rfl | rfl | rfl | rfl | rfl | rfl | rfl <;> decide
  split
  · rw [if_pos (h7.mp (by assumption))]
  · rw [if_neg (fun k => (by assumption : ¬ _) (h7.mpr k))]; omega
theorem mean (y : Int) : ∃ m r d q : Int, 19 * m + r = 235 * y - 234 ∧ 0 ≤ r ∧ r < 19 ∧ 25920 * d + q = 12084 + 765433 * m ∧ 0 ≤ q ∧ q < 25920 :=
  ⟨(235 * y - 234) / 19, (235 * y - 234) % 19, (12084 + 765433 * ((235 * y - 234) / 19)) / 25920, (12084 + 765433 * ((235 * y - 234) / 19)) % 25920, by omega, by omega, by omega, by omega, by omega, by omega⟩
theorem bs_eq {y m r d q : Int} (hm : 19 * m + r = 235 * y - 234) (hr0 : 0 ≤ r) (hr : r < 19) (hd : 25920 * d + q = 12084 + 765433 * m) (hq0 : 0 ≤ q) (hq : q < 25920) : bsF y 1 = 347998 + d + adjF d q r := by
  have e0 := d1_eq hm hr0 hr hd hq0 hq
  obtain ⟨m1, r1, d', q', a1, a2, a3, a4, a5, a6⟩ := mean (y + 1)
  have e1 := d1_eq a1 a2 a3 a4 a5 a6
  obtain ⟨m2, r2, d'', q'', b1, b2, b3, b4, b5, b6⟩ := mean (y - 1)
  have e2 := d1_eq b1 b2 b3 b4 b5 b6
  unfold bsF d2F
  rw [e0, e1, e2]
  unfold pF adjF
  have c1 : (r < 12 ∧ m1 = m + 12) ∨ (12 ≤ r ∧ m1 = m + 13) := by omega
  have c2 : (r < 7 ∧ m2 = m - 13) ∨ (7 ≤ r ∧ m2 = m - 12) := by omega
  clear hm a1 b1 e0 e1 e2
  rcases c1 with ⟨c1, rfl⟩ | ⟨c1, rfl⟩ <;> rcases c2 with ⟨c2, rfl⟩ | ⟨c2, rfl⟩
  · have f1 : (q < 16404 ∧ d' = d + 354) ∨ (16404 ≤ q ∧ d' = d + 355) := by omega
    have f2 : (q < 23269 ∧ d'' = d - 384) ∨ (23269 ≤ q ∧ d'' = d - 383) := by omega
    clear a4 b4 hd
    rcases f1 with ⟨f1, rfl⟩ | ⟨f1, rfl⟩ <;> rcases f2 with ⟨f2, rfl⟩ | ⟨f2, rfl⟩ <;> (split <;> omega)
  · have f1 : (q < 16404 ∧ d' = d + 354) ∨ (16404 ≤ q ∧ d' = d + 355) := by omega
    have f2 : (q < 9516 ∧ d'' = d - 355) ∨ (9516 ≤ q ∧ d'' = d - 354) := by omega
    clear a4 b4 hd
    rcases f1 with ⟨f1, rfl⟩ | ⟨f1, rfl⟩ <;> rcases f2 with ⟨f2, rfl⟩ | ⟨f2, rfl⟩ <;> (split <;> omega)
  · have f1 : d' = d + 383 ∨ d' = d + 384 := by omega
    have f2 : (q < 23269 ∧ d'' = d - 384) ∨ (23269 ≤ q ∧ d'' = d - 383) := by omega
    clear a4 b4 hd
    rcases f1 with rfl | rfl <;> rcases f2 with ⟨f2, rfl⟩ | ⟨f2, rfl⟩ <;> (split <;> omega)
  · have f1 : d' = d + 383 ∨ d' = d + 384 := by omega
    have f2 : (q < 9516 ∧ d'' = d - 355) ∨ (9516 ≤ q ∧ d'' = d - 354) := by omega
    clear a4 b4 hd
    rcases f1 with rfl | rfl <;> rcases f2 with ⟨f2, rfl⟩ | ⟨f2, rfl⟩ <;> (split <;> omega)
theorem gauss (y : Int) : springF (y - 1) + 163 = bsF y 1 := by
  obtain ⟨m, r, d, q, a1, a2, a3, a4, a5, a6⟩ := mean y
  rw [bs_eq a1 a2 a3 a4 a5 a6]
  obtain ⟨j, l, h1, h2, h3⟩ : ∃ j l : Int, y - 1 = 4 * j + l ∧ 0 ≤ l ∧ l < 4 := ⟨(y - 1) / 4, (y - 1) % 4, by omega, by omega, by omega⟩
  have g : goldF (y - 1) = 18 - r := by unfold goldF; omega
  have l4 : (y - 1) % 4 = l := by omega
  have hn : marchN (y - 1) = 492480 * (d - 365 * y - j + 423) + 19 * q := by
    unfold marchN; rw [g, l4]; omega
  have hn1 : marchN (y - 1) / 492480 = d - 365 * y - j + 423 := by rw [hn]; omega
  have hn2 : marchN (y - 1) % 492480 = 19 * q := by rw [hn]; omega
  have hw : weekF (y - 1) = (d + 1 + 6) % 7 := by unfold weekF; rw [hn1, l4]; omega
  have hj : (y - 1 - 3760) / 4 = j - 940 := by omega
  unfold springF marchF
  rw [hn1, hn2, hw, g, hj]
  unfold adjF
  clear hn hn1 hn2 hw hj a1 a4 g l4
  obtain ⟨u, x, hx, x0, x7⟩ : ∃ u x : Int, d + 1 = 7 * u + x ∧ 0 ≤ x ∧ x < 7 := ⟨(d + 1) / 7, (d + 1) % 7, by omega, by omega, by omega⟩
  rw [show (d + 1 + 6) % 7 = (x + 6) % 7 from by omega, show (d + 1) % 7 = x from by omega]
  have hx7 : x = 0 ∨ x = 1 ∨ x = 2 ∨ x = 3 ∨ x = 4 ∨ x = 5 ∨ x = 6 := by omega
  rcases hx7 with rfl | rfl | rfl | rfl | rfl | rfl | rfl <;> simp only [Int.reduceAdd, Int.reduceMod, Int.reduceEq, or_true, true_or, or_false, false_or, false_and, true_and, if_true, if_false] <;> (repeat' split) <;> omega
end
section
theorem leap_iff {y m r : Int} (hm : 19 * m + r = 235 * y - 234) (hr0 : 0 ≤ r) (hr : r < 19) : leapF y = true ↔ 12 ≤ r := by
  unfold leapF; rw [decide_eq_true_eq, show y * 7 + 1 = 19 * (m - 12 * y + 12) + (r + 7) from by omega]; clear hm; omega
theorem x7 (d : Int) : ∃ u x : Int, d + 1 = 7 * u + x ∧ (x = 0 ∨ x = 1 ∨ x = 2 ∨ x = 3 ∨ x = 4 ∨ x = 5 ∨ x = 6) := ⟨(d + 1) / 7, (d + 1) % 7, by omega, by omega⟩
theorem yd_vals {y m r d q : Int} (hm : 19 * m + r = 235 * y - 234) (hr0 : 0 ≤ r) (hr : r < 19) (hd : 25920 * d + q = 12084 + 765433 * m) (hq0 : 0 ≤ q) (hq : q < 25920) :
    (r < 12 ∧ (ydF y = 353 ∨ ydF y = 354 ∨ ydF y = 355)) ∨ (12 ≤ r ∧ (ydF y = 383 ∨ ydF y = 384 ∨ ydF y = 385)) := by
  obtain ⟨m1, r1, d', q', a1, a2, a3, a4, a5, a6⟩ := mean (y + 1)
  have e0 := bs_eq hm hr0 hr hd hq0 hq
  have e1 := bs_eq a1 a2 a3 a4 a5 a6
  unfold ydF
  rw [e0, e1]
  have c1 : (r < 12 ∧ m1 = m + 12 ∧ r1 = r + 7) ∨ (12 ≤ r ∧ m1 = m + 13 ∧ r1 = r - 12) := by omega
  clear hm a1 e0 e1
  obtain ⟨u, x, hx, x0⟩ := x7 d
  unfold adjF
  rcases c1 with ⟨c1, rfl, rfl⟩ | ⟨c1, rfl, rfl⟩
  · refine .inl ⟨c1, ?_⟩
    have f1 : (q < 16404 ∧ d' = d + 354 ∧ q' = q + 9516) ∨ (16404 ≤ q ∧ d' = d + 355 ∧ q' = q - 16404) := by omega
    clear a4 hd
    rcases f1 with ⟨f1, rfl, rfl⟩ | ⟨f1, rfl, rfl⟩
    · rw [show (d + 354 + 1) % 7 = (x + 4) % 7 from by omega, show (d + 1) % 7 = x from by omega]
      clear hx
      rcases x0 with rfl | rfl | rfl | rfl | rfl | rfl | rfl <;> simp only [Int.reduceAdd, Int.reduceMod, Int.reduceEq, or_true, true_or, or_false, false_or, false_and, true_and, if_true, if_false] <;> (repeat' split) <;> omega
    · rw [show (d + 355 + 1) % 7 = (x + 5) % 7 from by omega, show (d + 1) % 7 = x from by omega]
      clear hx
      rcases x0 with rfl | rfl | rfl | rfl | rfl | rfl | rfl <;> simp only [Int.reduceAdd, Int.reduceMod, Int.reduceEq, or_true, true_or, or_false, false_or, false_and, true_and, if_true, if_false] <;> (repeat' split) <;> omega
  · refine .inr ⟨c1, ?_⟩
    have f1 : (q < 2651 ∧ d' = d + 383 ∧ q' = q + 23269) ∨ (2651 ≤ q ∧ d' = d + 384 ∧ q' = q - 2651) := by omega
    clear a4 hd
    rcases f1 with ⟨f1, rfl, rfl⟩ | ⟨f1, rfl, rfl⟩
    · rw [show (d + 383 + 1) % 7 = (x + 5) % 7 from by omega, show (d + 1) % 7 = x from by omega]
      clear hx
      rcases x0 with rfl | rfl | rfl | rfl | rfl | rfl | rfl <;> simp only [Int.reduceAdd, Int.reduceMod, Int.reduceEq, or_true, true_or, or_false, false_or, false_and, true_and, if_true, if_false] <;> (repeat' split) <;> omega
    · rw [show (d + 384 + 1) % 7 = (x + 6) % 7 from by omega, show (d + 1) % 7 = x from by omega]
      clear hx
      rcases x0 with rfl | rfl | rfl | rfl | rfl | rfl | rfl <;> simp only [Int.reduceAdd, Int.reduceMod, Int.reduceEq, or_true, true_or, or_false, false_or, false_and, true_and, if_true, if_false] <;> (repeat' split) <;> omega
end
section
/-- the law's own month: years and months ahead -/
theorem bef_mono {c P : Int} (h : P = (19 * c.fmod 235 + 17) / 235) (i : Int) (h1 : P ≤ i) (_ : i ≤ 18) : c.fmod 235 < (235 * i + 1) / 19 ↔ P < i := by omega
theorem fdm (c : Int) : c.fdiv 235 = c / 235 ∧ c.fmod 235 = c % 235 := ⟨Int.fdiv_eq_ediv_of_nonneg _ (by decide), Int.fmod_eq_emod_of_nonneg _ (by decide)⟩
theorem fromM {c : Int} (h0 : 0 ≤ c) : ∃ P Y sz ny p m r d q : Int, FromM c P Y sz ny p ∧ 1 ≤ Y ∧ ny = bsF Y 1 ∧ sz = ydF Y ∧ c = m + p ∧
    19 * m + r = 235 * Y - 234 ∧ 0 ≤ r ∧ r < 19 ∧ 25920 * d + q = 12084 + 765433 * m ∧ 0 ≤ q ∧ q < 25920 ∧ (360 < sz ↔ 12 ≤ r) := by
  obtain ⟨f1, f2⟩ := fdm c
  obtain ⟨m, r, d, q, a1, a2, a3, a4, a5, a6⟩ := mean (19 * (c / 235) + (19 * (c % 235) + 17) / 235 + 1)
  have hy := yd_vals a1 a2 a3 a4 a5 a6
  have g0 := gauss (19 * (c / 235) + (19 * (c % 235) + 17) / 235 + 1)
  have g1 := gauss (19 * (c / 235) + (19 * (c % 235) + 17) / 235 + 1 + 1)
  rw [show 19 * (c / 235) + (19 * (c % 235) + 17) / 235 + 1 + 1 - 1 = 19 * (c / 235) + (19 * (c % 235) + 17) / 235 + 1 from by omega] at g1
  have hb : ydF (19 * (c / 235) + (19 * (c % 235) + 17) / 235 + 1) = bsF (19 * (c / 235) + (19 * (c % 235) + 17) / 235 + 1 + 1) 1 - bsF (19 * (c / 235) + (19 * (c % 235) + 17) / 235 + 1) 1 := rfl
  have hm : c = m + (c % 235 - (235 * ((19 * (c % 235) + 17) / 235) + 1) / 19) := by
    clear hy g0 g1 hb a4 a5 a6
    generalize hR : c / 235 = R at *
    generalize hP : (19 * (c % 235) + 17) / 235 = P at *
    omega
  have hp : 0 ≤ c % 235 - (235 * ((19 * (c % 235) + 17) / 235) + 1) / 19 := by clear hy g0 g1 hb a4 a5 a6 a1 hm; omega
  have hp1 : c % 235 - (235 * ((19 * (c % 235) + 17) / 235) + 1) / 19 < 12 ∨ 12 ≤ r ∧ c % 235 - (235 * ((19 * (c % 235) + 17) / 235) + 1) / 19 < 13 := by
    clear hy g0 g1 hb a4 a5 a6
    generalize hR : c / 235 = R at *
    generalize hP : (19 * (c % 235) + 17) / 235 = P at *
    omega
  refine ⟨(19 * (c % 235) + 17) / 235, 19 * (c / 235) + (19 * (c % 235) + 17) / 235 + 1, ydF (19 * (c / 235) + (19 * (c % 235) + 17) / 235 + 1), bsF (19 * (c / 235) + (19 * (c % 235) + 17) / 235 + 1) 1, c % 235 - (235 * ((19 * (c % 235) + 17) / 235) + 1) / 19, m, r, d, q, ?_, by omega, rfl, rfl, hm, a1, a2, a3, a4, a5, a6, ?_⟩
  · refine ⟨h0, by omega, by omega, fun i h1 h2 => ?_, by rw [f1], by rw [f2], g0, ?_, by omega, hp, ?_⟩
    · exact bef_mono (by rw [f2]) i h1 h2
    · rw [g1, hb]
    · clear g0 g1 hb hm; omega
  · clear g0 g1 hb hm; omega
end
section
theorem sumF_succ (y a : Int) (n : Nat) : sumF y a (n + 1) = sumF y a n + mlF y (a + n) := by
  unfold sumF sumL PySem.W.rangeKs
  rw [List.range_succ, List.map_append, List.map_append, List.sum_append]; simp
section
variable {Y sz : Int}
theorem ml_7 : mlF Y 7 = 30 := by simp [mlF]
theorem ml_8 (hs : sz = ydF Y) : mlF Y 8 = l8 sz := by subst hs; unfold mlF l8; simp
theorem ml_9 (hs : sz = ydF Y) : mlF Y 9 = l9 sz := by subst hs; unfold mlF l9; simp
theorem ml_10 : mlF Y 10 = 29 := by simp [mlF]
theorem ml_11 : mlF Y 11 = 30 := by simp [mlF]
theorem ml_12c (h : ¬ leapF Y = true) : mlF Y 12 = 29 := by simp [mlF, h]
theorem ml_12l (h : leapF Y = true) : mlF Y 12 = 30 := by simp [mlF, h]
theorem ml_13 : mlF Y 13 = 29 := by simp [mlF]
theorem ml_1 : mlF Y 1 = 30 := by simp [mlF]
theorem ml_2 : mlF Y 2 = 29 := by simp [mlF]
theorem ml_3 : mlF Y 3 = 30 := by simp [mlF]
theorem ml_4 : mlF Y 4 = 29 := by simp [mlF]
theorem ml_5 : mlF Y 5 = 30 := by simp [mlF]
theorem ml_6 : mlF Y 6 = 29 := by simp [mlF]
theorem p_cases {p : Int} (h0 : 0 ≤ p) (h1 : p < 12 ∨ 360 < sz ∧ p < 13) : p = 0 ∨ p = 1 ∨ p = 2 ∨ p = 3 ∨ p = 4 ∨ p = 5 ∨ p = 6 ∨ p = 7 ∨ p = 8 ∨ p = 9 ∨ p = 10 ∨ p = 11 ∨ (360 < sz ∧ p = 12) := by omega
theorem ml_at {p : Int} (hs : sz = ydF Y) (hl : leapF Y = true ↔ 360 < sz) (h0 : 0 ≤ p) (h1 : p < 12 ∨ 360 < sz ∧ p < 13) : mlF Y (mAt sz p) = lAt sz p := by
  by_cases hz : 360 < sz
  · have hL := hl.mpr hz
    rcases p_cases h0 h1 with rfl | rfl | rfl | rfl | rfl | rfl | rfl | rfl | rfl | rfl | rfl | rfl | ⟨_, rfl⟩ <;>
      simp [mAt, lAt, hz, ml_7, ml_8 hs, ml_9 hs, ml_10, ml_11, ml_12l hL, ml_13, ml_1, ml_2, ml_3, ml_4, ml_5, ml_6]
  · have hL : ¬ leapF Y = true := fun k => hz (hl.mp k)
    rcases p_cases h0 h1 with rfl | rfl | rfl | rfl | rfl | rfl | rfl | rfl | rfl | rfl | rfl | rfl | ⟨hq, rfl⟩ <;>
      first
      | simp [mAt, lAt, hz, ml_7, ml_8 hs, ml_9 hs, ml_10, ml_11, ml_12c hL, ml_1, ml_2, ml_3, ml_4, ml_5, ml_6]; done
      | exact absurd hq hz
theorem off_at {p : Int} (hs : sz = ydF Y) (hl : leapF Y = true ↔ 360 < sz) (h0 : 0 ≤ p) (h1 : p < 12 ∨ 360 < sz ∧ p < 13) : offF Y (mAt sz p) = oAt sz p := by
  by_cases hz : 360 < sz
  · have hL := hl.mpr hz
    rcases p_cases h0 h1 with rfl | rfl | rfl | rfl | rfl | rfl | rfl | rfl | rfl | rfl | rfl | rfl | ⟨_, rfl⟩ <;>
      first | (simp [offF, ymF, hL, sumF_succ, sumF_zero, oAt, sumN, mAt, lAt, hz, ml_7, ml_8 hs, ml_9 hs, ml_10, ml_11, ml_12l hL, ml_13, ml_1, ml_2, ml_3, ml_4, ml_5, ml_6]; done) | (simp [offF, ymF, hL, sumF_succ, sumF_zero, oAt, sumN, mAt, lAt, hz, ml_7, ml_8 hs, ml_9 hs, ml_10, ml_11, ml_12l hL, ml_13, ml_1, ml_2, ml_3, ml_4, ml_5, ml_6]; omega)
  · have hL : ¬ leapF Y = true := fun k => hz (hl.mp k)
    rcases p_cases h0 h1 with rfl | rfl | rfl | rfl | rfl | rfl | rfl | rfl | rfl | rfl | rfl | rfl | ⟨hq, rfl⟩ <;>
      first
      | (simp [offF, ymF, hL, sumF_succ, sumF_zero, oAt, sumN, mAt, lAt, hz, ml_7, ml_8 hs, ml_9 hs, ml_10, ml_11, ml_12c hL, ml_1, ml_2, ml_3, ml_4, ml_5, ml_6]; done) | (simp [offF, ymF, hL, sumF_succ, sumF_zero, oAt, sumN, mAt, lAt, hz, ml_7, ml_8 hs, ml_9 hs, ml_10, ml_11, ml_12c hL, ml_1, ml_2, ml_3, ml_4, ml_5, ml_6]; omega)
      | exact absurd hq hz
end
end
section
/-- the civil date -/
structure CivD (n R h f o t : Int) : Prop where
  e : n = 1721120 + 146097 * R + 36524 * h + 1461 * f + 365 * o + t
  h0 : 0 ≤ h
  h3 : h ≤ 3
  f0 : 0 ≤ f
  f24 : f ≤ 24
  o0 : 0 ≤ o
  o3 : o ≤ 3
  t0 : 0 ≤ t
  t365 : t ≤ 365
  top : t = 365 → o = 3 ∧ (f < 24 ∨ h = 3)
theorem civD (n : Int) : ∃ R h f o t, CivD n R h f o t ∧ cT n = t ∧ cY0 n = 400 * R + 100 * h + 4 * f + o := by
  have e1 : (n - 1721120).fmod 146097 = (n - 1721120) % 146097 := Int.fmod_eq_emod_of_nonneg _ (by decide)
  have e2 : (n - 1721120).fdiv 146097 = (n - 1721120) / 146097 := Int.fdiv_eq_ediv_of_nonneg _ (by decide)
  refine ⟨(n - 1721120) / 146097, cH n, cF n, cO n, cT n, ?_, rfl, by unfold cY0; rw [e2]⟩
  have hL : cL n = (n - 1721120) % 146097 := by unfold cL; rw [e1]
  have hH : cH n = if 3 < cL n / 36524 then 3 else cL n / 36524 := by unfold cH; rw [Int.fdiv_eq_ediv_of_nonneg _ (by decide)]
  have hF : cF n = cL2 n / 1461 := by unfold cF; rw [Int.fdiv_eq_ediv_of_nonneg _ (by decide)]
  have hO : cO n = if 3 < cL3 n / 365 then 3 else cL3 n / 365 := by unfold cO; rw [Int.fdiv_eq_ediv_of_nonneg _ (by decide)]
  have hL2 : cL2 n = cL n - 36524 * cH n := rfl
  have hL3 : cL3 n = cL2 n - 1461 * cF n := rfl
  have hT : cT n = cL3 n - 365 * cO n := rfl
  generalize cL n = a at *
  generalize cH n = b at *
  generalize cL2 n = c at *
  generalize cF n = d at *
  generalize cL3 n = g at *
  generalize cO n = o at *
  generalize cT n = t at *
  clear e1 e2
  have r1 : 0 ≤ b ∧ b ≤ 3 ∧ 0 ≤ c ∧ (c < 36524 ∨ b = 3 ∧ c ≤ 36524) := by subst hL2; subst hH; clear hL3 hT hF hO; split <;> omega
  have r2 : 0 ≤ d ∧ d ≤ 24 ∧ 0 ≤ g ∧ g < 1461 ∧ (d < 24 ∨ g < 1460 ∨ b = 3) := by clear hH hL2 hL hT hO; omega
  have r3 : 0 ≤ o ∧ o ≤ 3 ∧ 0 ≤ t ∧ t ≤ 365 ∧ (t = 365 → o = 3 ∧ g = 1460) := by clear hH hL2 hL hF hL3 r1; subst hT; subst hO; split <;> omega
  refine ⟨by omega, by omega, by omega, by omega, by omega, by omega, by omega, by omega, by omega, fun k => ?_⟩
  have := r3.2.2.2.2 k
  clear hH hO hF hL
  omega
theorem leapN (y : Int) : y / 4 - y / 100 + y / 400 = (y - 1) / 4 - (y - 1) / 100 + (y - 1) / 400 + (if isleapF y = true then 1 else 0) := by
  unfold isleapF
  by_cases h4 : y % 4 = 0 <;> by_cases h1 : y % 100 = 0 <;> by_cases h4' : y % 400 = 0 <;> simp [h4, h1, h4'] <;> omega
theorem fourth {R h f o : Int} (h0 : 0 ≤ h) (h3 : h ≤ 3) (f0 : 0 ≤ f) (f24 : f ≤ 24) (o0 : 0 ≤ o) (o3 : o ≤ 3) :
    365 * (400 * R + 100 * h + 4 * f + o) + (400 * R + 100 * h + 4 * f + o) / 4 - (400 * R + 100 * h + 4 * f + o) / 100 + (400 * R + 100 * h + 4 * f + o) / 400 = 146097 * R + 36524 * h + 1461 * f + 365 * o := by
  have e1 : (400 * R + 100 * h + 4 * f + o) / 4 = 100 * R + 25 * h + f := by omega
  have e2 : (400 * R + 100 * h + 4 * f + o) / 100 = 4 * R + h := by omega
  have e3 : (400 * R + 100 * h + 4 * f + o) / 400 = R := by omega
  rw [e1, e2, e3]; omega
/-- the first of January -/
def janF (y : Int) : Int := 1721426 + 365 * (y - 1) + (y - 1) / 4 - (y - 1) / 100 + (y - 1) / 400
theorem jdG_11 (y : Int) : jdG y 1 1 = janF y := by unfold jdG janF; simp; omega
theorem janF_step (y : Int) : janF (y + 1) = janF y + 365 + (if isleapF y = true then 1 else 0) := by
  have := leapN y
  unfold janF
  rw [show y + 1 - 1 = y from by omega]
  omega
theorem janF_mono {a b : Int} (h : a ≤ b) : janF a ≤ janF b := by
  have e : ∀ k : Nat, janF a ≤ janF (a + k) := by
    intro k
    induction k with
    | zero => simp
    | succ k ih =>
      have := janF_step (a + k)
      rw [show a + ((k + 1 : Nat) : Int) = a + k + 1 from by omega]
      split at this <;> omega
  have := e (b - a).toNat
  rwa [show a + ((b - a).toNat : Int) = b from by omega] at this
theorem jan_one {n a b : Int} (h1 : janF a ≤ n) (h2 : n < janF (a + 1)) (h3 : janF b ≤ n) (h4 : n < janF (b + 1)) : a = b := by
  rcases Int.lt_trichotomy a b with h | h | h
  · have := janF_mono (show a + 1 ≤ b by omega); omega
  · exact h
  · have := janF_mono (show b + 1 ≤ a by omega); omega
end
section
structure GregD (n k y mo d : Int) : Prop where
  c : FromC n k
  ey : cYk n k = y
  em : cMk k = mo
  ed : cDk n k = d
  gy : gY n = y
  gm : gM n = mo
  gd : gD n = d
  jd : jdG y mo d = n
  lg : LegalG y mo d
theorem k_dat {t k : Int} (h0 : 0 ≤ k) (h1 : k ≤ 11) (lo : (153 * k + 2) / 5 ≤ t) (hi : t < (153 * (k + 1) + 2) / 5) (ht : t ≤ 365) :
    (k = 0 ∧ 0 ≤ t ∧ t < 31) ∨ (k = 1 ∧ 31 ≤ t ∧ t < 61) ∨ (k = 2 ∧ 61 ≤ t ∧ t < 92) ∨ (k = 3 ∧ 92 ≤ t ∧ t < 122) ∨ (k = 4 ∧ 122 ≤ t ∧ t < 153) ∨ (k = 5 ∧ 153 ≤ t ∧ t < 184) ∨ (k = 6 ∧ 184 ≤ t ∧ t < 214) ∨ (k = 7 ∧ 214 ≤ t ∧ t < 245) ∨ (k = 8 ∧ 245 ≤ t ∧ t < 275) ∨ (k = 9 ∧ 275 ≤ t ∧ t < 306) ∨ (k = 10 ∧ 306 ≤ t ∧ t < 337) ∨ (k = 11 ∧ 337 ≤ t ∧ t ≤ 365) := by
  rcases k_11 h0 h1 with rfl | rfl | rfl | rfl | rfl | rfl | rfl | rfl | rfl | rfl | rfl | rfl <;> omega
theorem jdG_eq (y mo d : Int) : jdG y mo d = janF y - 1 + ((367 * mo - 362) / 12 + (if mo ≤ 2 then 0 else if isleapF y then -1 else -2) + d) := by
  unfold jdG janF; omega
theorem mlenG_eq (y : Int) : mlenG y 1 = 31 ∧ mlenG y 2 = (if isleapF y then 29 else 28) ∧ mlenG y 3 = 31 ∧ mlenG y 4 = 30 ∧ mlenG y 5 = 31 ∧ mlenG y 6 = 30 ∧ mlenG y 7 = 31 ∧ mlenG y 8 = 31 ∧ mlenG y 9 = 30 ∧ mlenG y 10 = 31 ∧ mlenG y 11 = 30 ∧ mlenG y 12 = 31 := by
  simp [mlenG]
/-- the year that from_jd finds -/
theorem gY_jan (n : Int) : janF (gY n) ≤ n ∧ n < janF (gY n + 1) := by
  have e1 : (n - 1721426).fmod 146097 = (n - 1721426) % 146097 := Int.fmod_eq_emod_of_nonneg _ (by decide)
  have e2 : (n - 1721426).fdiv 146097 = (n - 1721426) / 146097 := Int.fdiv_eq_ediv_of_nonneg _ (by decide)
  have hQ : gQ n = (n - 1721426) % 146097 := by unfold gQ; rw [e1]
  have hC : gCent n = gQ n / 36524 := by unfold gCent; rw [Int.fdiv_eq_ediv_of_nonneg _ (by decide)]
  have hY : gYi n = (gQ n % 36524) % 1461 / 365 := by unfold gYi; rw [Int.fmod_eq_emod_of_nonneg _ (by decide), Int.fmod_eq_emod_of_nonneg _ (by decide), Int.fdiv_eq_ediv_of_nonneg _ (by decide)]
  have h0 : gY0 n = (n - 1721426) / 146097 * 400 + gCent n * 100 + (gQ n % 36524) / 1461 * 4 + gYi n := by unfold gY0; rw [e2, Int.fmod_eq_emod_of_nonneg _ (by decide), Int.fdiv_eq_ediv_of_nonneg _ (by decide)]
  obtain ⟨R, x, hx, x0, x1⟩ : ∃ R x : Int, n = 1721426 + 146097 * R + x ∧ 0 ≤ x ∧ x < 146097 := ⟨(n - 1721426) / 146097, (n - 1721426) % 146097, by omega, by omega, by omega⟩
  obtain ⟨h, y, hy, y0, y1⟩ : ∃ h y : Int, x = 36524 * h + y ∧ 0 ≤ y ∧ y < 36524 := ⟨x / 36524, x % 36524, by omega, by omega, by omega⟩
  obtain ⟨f, z, hz, z0, z1⟩ : ∃ f z : Int, y = 1461 * f + z ∧ 0 ≤ z ∧ z < 1461 := ⟨y / 1461, y % 1461, by omega, by omega, by omega⟩
  obtain ⟨o, t, ht, t0, t1⟩ : ∃ o t : Int, z = 365 * o + t ∧ 0 ≤ t ∧ t < 365 := ⟨z / 365, z % 365, by omega, by omega, by omega⟩
  rw [show (n - 1721426) % 146097 = x from by omega] at hQ
  rw [hQ] at hC hY h0
  rw [show x / 36524 = h from by omega] at hC
  rw [show x % 36524 = y from by omega] at hY h0
  rw [show y % 1461 = z from by omega, show z / 365 = o from by omega] at hY
  rw [show y / 1461 = f from by omega, show (n - 1721426) / 146097 = R from by omega, hC, hY] at h0
  clear hQ e1 e2
  by_cases hs : h = 4 ∨ o = 4
  · have hg : gY n = gY0 n := by unfold gY; rw [hC, hY, if_pos hs]
    rw [hg, h0]
    rcases hs with hs | hs
    · have : y = 0 := by omega
      have q := @fourth R 3 24 3 (by omega) (by omega) (by omega) (by omega) (by omega) (by omega)
      have q2 := @fourth (R + 1) 0 0 0 (by omega) (by omega) (by omega) (by omega) (by omega) (by omega)
      have : f = 0 ∧ o = 0 ∧ t = 0 := by omega
      obtain ⟨rfl, rfl, rfl⟩ := this
      subst hs
      unfold janF
      rw [show R * 400 + 4 * 100 + 0 * 4 + 0 - 1 = 400 * R + 100 * 3 + 4 * 24 + 3 from by omega, show R * 400 + 4 * 100 + 0 * 4 + 0 + 1 - 1 = 400 * (R + 1) + 100 * 0 + 4 * 0 + 0 from by omega]
      constructor <;> omega
    · have h4 : h ≤ 3 := by omega
      have h24 : f < 24 := by omega
      have q := @fourth R h f 3 (by omega) (by omega) (by omega) (by omega) (by omega) (by omega)
      have q2 := @fourth R h (f + 1) 0 (by omega) (by omega) (by omega) (by omega) (by omega) (by omega)
      have : t = 0 := by omega
      subst this
      subst hs
      unfold janF
      rw [show R * 400 + h * 100 + f * 4 + 4 - 1 = 400 * R + 100 * h + 4 * f + 3 from by omega, show R * 400 + h * 100 + f * 4 + 4 + 1 - 1 = 400 * R + 100 * h + 4 * (f + 1) + 0 from by omega]
      constructor <;> omega
  · have hg : gY n = gY0 n + 1 := by unfold gY; rw [hC, hY, if_neg hs]
    rw [hg, h0]
    have h4 : h ≤ 3 := by omega
    have o4 : o ≤ 3 := by omega
    have h24 : f ≤ 24 := by omega
    have q := @fourth R h f o (by omega) (by omega) (by omega) (by omega) (by omega) (by omega)
    have st := janF_step (R * 400 + h * 100 + f * 4 + o + 1)
    have hj : janF (R * 400 + h * 100 + f * 4 + o + 1) = 1721426 + 146097 * R + 36524 * h + 1461 * f + 365 * o := by
      unfold janF
      rw [show R * 400 + h * 100 + f * 4 + o + 1 - 1 = 400 * R + 100 * h + 4 * f + o from by omega]
      omega
    refine ⟨by omega, ?_⟩
    split at st <;> omega
end
section
theorem gY_of {n y : Int} (h1 : janF y ≤ n) (h2 : n < janF (y + 1)) : gY n = y := jan_one (gY_jan n).1 (gY_jan n).2 h1 h2
theorem gM_leap {n y w : Int} (hy : gY n = y) (hw : n - janF y = w) (hl : isleapF y = true) : gM n = ((w + (if w < 59 then 0 else 1)) * 12 + 373) / 367 := by
  have hd : gDay n = w := by unfold gDay; rw [hy, jdG_11]; exact hw
  unfold gM gAdj
  rw [hd, hy, hl, Int.fdiv_eq_ediv_of_nonneg _ (by decide)]; simp
theorem gM_common {n y w : Int} (hy : gY n = y) (hw : n - janF y = w) (hl : isleapF y = false) : gM n = ((w + (if w < 58 then 0 else 2)) * 12 + 373) / 367 := by
  have hd : gDay n = w := by unfold gDay; rw [hy, jdG_11]; exact hw
  unfold gM gAdj
  rw [hd, hy, hl, Int.fdiv_eq_ediv_of_nonneg _ (by decide)]; simp
theorem gD_of {n y mo d : Int} (hy : gY n = y) (hm : gM n = mo) (hj : jdG y mo d = n) : gD n = d := by
  unfold gD; rw [hy, hm, ← hj]; unfold jdG; omega
theorem isleap_of {y : Int} (h4 : y % 4 = 0) (h1 : y % 100 ≠ 0 ∨ y % 400 = 0) : isleapF y = true := by
  unfold isleapF; rcases h1 with h1 | h1 <;> simp [h4, h1]
structure GregF (n y mo d : Int) : Prop where
  gy : gY n = y
  gm : gM n = mo
  jd : jdG y mo d = n
  lg : LegalG y mo d
theorem greg_lo {n y k t : Int} (h1 : janF (y + 1) = n - t + 306) (k0 : 0 ≤ k) (k9 : k < 10) (lo : (153 * k + 2) / 5 ≤ t) (hi : t < (153 * (k + 1) + 2) / 5) : GregF n y (k + 3) (t - (153 * k + 2) / 5 + 1) := by
  have st := janF_step y
  have ml := mlenG_eq y
  cases hl : isleapF y
  · rw [hl] at st
    simp only [Bool.false_eq_true, if_false] at st
    rcases k_dat k0 (by omega) lo hi (by omega) with hk | hk | hk | hk | hk | hk | hk | hk | hk | hk | hk | hk
    all_goals
      obtain ⟨hk, ta, tb⟩ := hk
      subst hk
      first
      | (exfalso; omega)
      | (have hg : gY n = y := gY_of (by omega) (by omega)
         have hm := gM_common (w := 59 + t) hg (by omega) hl
         rw [if_neg (by omega)] at hm
         refine ⟨hg, by rw [hm]; omega, ?_, ⟨by omega, ?_⟩⟩
         · rw [jdG_eq, hl]; simp; omega
         · simp [ml]; omega)
  · rw [hl] at st
    simp only [if_true] at st
    rcases k_dat k0 (by omega) lo hi (by omega) with hk | hk | hk | hk | hk | hk | hk | hk | hk | hk | hk | hk
    all_goals
      obtain ⟨hk, ta, tb⟩ := hk
      subst hk
      first
      | (exfalso; omega)
      | (have hg : gY n = y := gY_of (by omega) (by omega)
         have hm := gM_leap (w := 60 + t) hg (by omega) hl
         rw [if_neg (by omega)] at hm
         refine ⟨hg, by rw [hm]; omega, ?_, ⟨by omega, ?_⟩⟩
         · rw [jdG_eq, hl]; simp; omega
         · simp [ml]; omega)
theorem greg_hi {n y k t : Int} (h1 : janF y = n - t + 306) (k0 : 10 ≤ k) (k9 : k ≤ 11) (lo : (153 * k + 2) / 5 ≤ t) (hi : t < (153 * (k + 1) + 2) / 5) (h365 : t ≤ 365) (hlp : t = 365 → isleapF y = true) : GregF n y (k - 9) (t - (153 * k + 2) / 5 + 1) := by
  have st := janF_step y
  have ml := mlenG_eq y
  have hk : (k = 10 ∧ 306 ≤ t ∧ t < 337) ∨ (k = 11 ∧ 337 ≤ t ∧ t ≤ 365) := by
    have : k = 10 ∨ k = 11 := by omega
    rcases this with rfl | rfl <;> omega
  cases hl : isleapF y
  · rw [hl] at st
    simp only [Bool.false_eq_true, if_false] at st
    have h364 : t ≤ 364 := by
      by_cases h : t < 365
      · omega
      · have := hlp (by omega); rw [hl] at this; cases this
    have hg : gY n = y := gY_of (by omega) (by omega)
    have hm := gM_common (w := t - 306) hg (by omega) hl
    rcases hk with ⟨hk, ta, tb⟩ | ⟨hk, ta, tb⟩ <;> subst hk
    · rw [if_pos (by omega)] at hm
      refine ⟨hg, by rw [hm]; omega, ?_, ⟨by omega, ?_⟩⟩
      · rw [jdG_eq, hl]; simp; omega
      · simp [ml]; omega
    · refine ⟨hg, by rw [hm]; split <;> omega, ?_, ⟨by omega, ?_⟩⟩
      · rw [jdG_eq, hl]; simp; omega
      · simp [ml, hl]; omega
  · rw [hl] at st
    simp only [if_true] at st
    have hg : gY n = y := gY_of (by omega) (by omega)
    have hm := gM_leap (w := t - 306) hg (by omega) hl
    rcases hk with ⟨hk, ta, tb⟩ | ⟨hk, ta, tb⟩ <;> subst hk
    · rw [if_pos (by omega)] at hm
      refine ⟨hg, by rw [hm]; omega, ?_, ⟨by omega, ?_⟩⟩
      · rw [jdG_eq, hl]; simp; omega
      · simp [ml]; omega
    · refine ⟨hg, by rw [hm]; split <;> omega, ?_, ⟨by omega, ?_⟩⟩
      · rw [jdG_eq, hl]; simp; omega
      · simp [ml, hl]; omega
theorem top_leap {R h f o : Int} (ho : o = 3) (f0 : 0 ≤ f) (f24 : f ≤ 24) (h0 : 0 ≤ h) (h3 : h ≤ 3) (hf : f < 24 ∨ h = 3) : isleapF (400 * R + 100 * h + 4 * f + o + 1) = true := by
  subst ho
  refine isleap_of (by omega) ?_
  by_cases hq : f = 24
  · right; omega
  · left; omega
theorem greg (n : Int) : ∃ k y mo d, GregD n k y mo d := by
  obtain ⟨R, h, f, o, t, D, hT, hY⟩ := civD n
  have hq := @fourth R h f o D.h0 D.h3 D.f0 D.f24 D.o0 D.o3
  have hK : ∃ k : Int, 0 ≤ k ∧ k ≤ 11 ∧ (153 * k + 2) / 5 ≤ t ∧ t < (153 * (k + 1) + 2) / 5 := by
    have := D.t0; have := D.t365
    exact ⟨(5 * t + 2) / 153, by omega, by omega, by omega, by omega⟩
  obtain ⟨k, k0, k1, lo, hi⟩ := hK
  have e := D.e
  have top := D.top
  have o3 := D.o3
  have h3 := D.h3
  have hh0 := D.h0
  have f0 := D.f0
  have f24 := D.f24
  have o0 := D.o0
  have hjan : janF (400 * R + 100 * h + 4 * f + o + 1) = 1721426 + 146097 * R + 36524 * h + 1461 * f + 365 * o := by
    unfold janF
    rw [show 400 * R + 100 * h + 4 * f + o + 1 - 1 = 400 * R + 100 * h + 4 * f + o from by omega]
    omega
  have s0 := janF_step (400 * R + 100 * h + 4 * f + o)
  have s1 := janF_step (400 * R + 100 * h + 4 * f + o + 1)
  have hlp : t = 365 → isleapF (400 * R + 100 * h + 4 * f + o + 1) = true := by
    intro ht
    obtain ⟨ho, hf⟩ := top ht
    exact top_leap ho f0 f24 hh0 h3 hf
  have FC : FromC n k := ⟨k0, k1, by rw [hT]; exact lo, by rw [hT]; exact hi, by rw [hT]; have := D.t365; omega⟩
  have t365 := D.t365
  have hd : cDk n k = t - (153 * k + 2) / 5 + 1 := by unfold cDk; rw [hT]
  by_cases hk : k < 10
  · have hy : cYk n k = 400 * R + 100 * h + 4 * f + o := by unfold cYk; rw [if_pos hk, hY]
    have hm : cMk k = k + 3 := by unfold cMk; rw [if_pos hk]
    have G := greg_lo (n := n) (y := 400 * R + 100 * h + 4 * f + o) (by omega) k0 hk lo hi
    exact ⟨k, _, _, _, FC, hy, hm, hd, G.gy, G.gm, gD_of G.gy G.gm G.jd, G.jd, G.lg⟩
  · have hy : cYk n k = 400 * R + 100 * h + 4 * f + o + 1 := by unfold cYk; rw [if_neg hk, hY]
    have hm : cMk k = k - 9 := by unfold cMk; rw [if_neg hk]
    have G := greg_hi (n := n) (y := 400 * R + 100 * h + 4 * f + o + 1) (by omega) (by omega) k1 lo hi t365 hlp
    exact ⟨k, _, _, _, FC, hy, hm, hd, G.gy, G.gm, gD_of G.gy G.gm G.jd, G.jd, G.lg⟩
end
section
/-- the Islamic date -/
theorem sY_lt : ∀ a : Nat, a < 31 → 1 ≤ a → sY (a : Int) + lenY a = sY ((a : Int) + 1) := by decide +kernel
theorem islam (n : Int) : ∃ y mo : Int, FromI n y mo ∧ iY n = 30 * (n - 1948440).fdiv 10631 + y ∧ iM n = mo ∧ iD n = iL n - sY y - sM mo + 1 ∧
    jdI (30 * (n - 1948440).fdiv 10631 + y) mo (iL n - sY y - sM mo + 1) = n := by
  have e1 : (n - 1948440).fmod 10631 = (n - 1948440) % 10631 := Int.fmod_eq_emod_of_nonneg _ (by decide)
  have e2 : (n - 1948440).fdiv 10631 = (n - 1948440) / 10631 := Int.fdiv_eq_ediv_of_nonneg _ (by decide)
  have hL : iL n = (n - 1948440) % 10631 := by unfold iL; rw [e1]
  obtain ⟨R, x, hx, x0, x1⟩ : ∃ R x : Int, n = 1948440 + 10631 * R + x ∧ 0 ≤ x ∧ x < 10631 := ⟨(n - 1948440) / 10631, (n - 1948440) % 10631, by omega, by omega, by omega⟩
  have hR : (n - 1948440) / 10631 = R := by omega
  rw [e2, hR]
  have hL2 : iL n = x := by rw [hL]; omega
  rw [hL2]
  obtain ⟨y, hy⟩ : ∃ y : Int, y = (30 * x + 10646) / 10631 := ⟨_, rfl⟩
  have y1 : 1 ≤ y := by omega
  have y30 : y ≤ 30 := by omega
  have hsy : sY y ≤ x := by unfold sY; omega
  have hsy2 : x < sY (y + 1) := by unfold sY; omega
  have hiY : iY n = 30 * R + y := by unfold iY; omega
  have hj1 : ∀ mo d : Int, jdI (30 * R + y) mo d = 1948440 + 10631 * R + sY y + sM mo + d - 1 := by
    intro mo d; unfold jdI sY sM
    have : (3 + 11 * (30 * R + y)) / 30 = 11 * R + (3 + 11 * y) / 30 := by omega
    rw [this]; omega
  obtain ⟨z, hz⟩ : ∃ z, z = x - sY y := ⟨_, rfl⟩
  have z0 : 0 ≤ z := by omega
  have z354 : z ≤ 354 := by rw [hz]; clear hj1 hiY; unfold sY at *; omega
  obtain ⟨mo, hmo⟩ : ∃ mo : Int, mo = min 12 (-(-2 * (z - 29) / 59) + 1) := ⟨_, rfl⟩
  have hiM : iM n = mo := by
    unfold iM; rw [hiY, hj1, hmo]
    rw [show sM 1 = 0 from by decide]
    congr 1
    rw [show n - (29 + (1948440 + 10631 * R + sY y + 0 + 1 - 1)) = z - 29 from by omega]
  have m1 : 1 ≤ mo := by omega
  have m12 : mo ≤ 12 := by omega
  refine ⟨y, mo, ⟨y1, y30, ?_, m1, m12, ?_⟩, hiY, hiM, ?_, ?_⟩
  · intro i i1 i2
    rw [hL2]
    have st : sY i + lenY i = sY (i + 1) := by
      obtain ⟨a, rfl⟩ := Int.eq_ofNat_of_zero_le (show 0 ≤ i by omega)
      exact sY_lt a (by omega) (by omega)
    constructor
    · intro h
      rcases Int.lt_or_eq_of_le i2 with h2 | h2
      · exact h2
      · subst h2; omega
    · intro h
      have : sY (i + 1) ≤ sY y := by clear hj1 hiY hiM hmo hz z354 hsy hsy2 st hy; unfold sY; omega
      omega
  · intro i i1 i2
    rw [hL2, Int.fmod_eq_emod_of_nonneg _ (by decide), ← hz]
    have hs := @sM_step i
    rw [Int.fmod_eq_emod_of_nonneg _ (by decide)] at hs
    rw [show 29 + i % 2 ≤ z - sM i ↔ sM (i + 1) ≤ z from by omega]
    clear hs hj1 hiY hiM hsy hsy2 z354 hz
    have e : sM (i + 1) ≤ z ↔ 59 * i ≤ 2 * z := by unfold sM; omega
    rw [e, hmo]
    omega
  · unfold iD; rw [hiY, hiM, hj1]; omega
  · rw [hj1]; omega
end
section
theorem lAt_low (sz p : Int) : 29 ≤ lAt sz p := by
  have h8 : 29 ≤ l8 sz := by unfold l8; split <;> omega
  have h9 : 29 ≤ l9 sz := by unfold l9; split <;> omega
  unfold lAt; (repeat' split) <;> omega
theorem oAt_succ {sz j : Int} (h : 0 ≤ j) : oAt sz (j + 1) = oAt sz j + lAt sz j := by
  obtain ⟨a, rfl⟩ := Int.eq_ofNat_of_zero_le h
  unfold oAt
  rw [show ((a : Int) + 1).toNat = a + 1 from by omega, show (a : Int).toNat = a from by omega]
  rfl
theorem oAt_mono {sz a b : Int} (h : 0 ≤ a) (hab : a ≤ b) : oAt sz a ≤ oAt sz b := by
  have e : ∀ k : Nat, oAt sz a ≤ oAt sz (a + k) := by
    intro k
    induction k with
    | zero => simp
    | succ k ih =>
      have := @oAt_succ sz (a + k) (by omega)
      have := lAt_low sz (a + k)
      rw [show a + ((k + 1 : Nat) : Int) = a + k + 1 from by omega]
      omega
  have := e (b - a).toNat
  rwa [show a + ((b - a).toNat : Int) = b from by omega] at this
theorem oAt_iff {sz p past j : Int} (hp : 0 ≤ p) (h0 : 0 ≤ past) (h1 : past < lAt sz p) (hj : 0 ≤ j) : oAt sz j ≤ oAt sz p + past ↔ j ≤ p := by
  constructor
  · intro h
    by_cases hc : j ≤ p
    · exact hc
    · have := @oAt_mono sz (p + 1) j (by omega) (by omega)
      have := @oAt_succ sz p hp
      omega
  · intro h
    have := @oAt_mono sz j p hj h
    omega
theorem oAt_end {sz : Int} (h : sz = 353 ∨ sz = 354 ∨ sz = 355 ∨ sz = 383 ∨ sz = 384 ∨ sz = 385) : oAt sz (if 360 < sz then 13 else 12) = sz := by
  rcases h with rfl | rfl | rfl | rfl | rfl | rfl <;> decide +kernel
theorem off_7 (y : Int) : offF y 7 = 0 := by simp [offF, sumF_zero]
theorem jdH_7 (y : Int) : jdH y 7 1 = bsF y 1 := by unfold jdH; rw [off_7]; omega
theorem bsF_step (y : Int) : bsF y 1 + 353 ≤ bsF (y + 1) 1 := by
  obtain ⟨m, r, d, q, a1, a2, a3, a4, a5, a6⟩ := mean y
  have h := yd_vals a1 a2 a3 a4 a5 a6
  have : ydF y = bsF (y + 1) 1 - bsF y 1 := rfl
  omega
theorem bsF_mono {a b : Int} (h : a ≤ b) : bsF a 1 ≤ bsF b 1 := by
  have e : ∀ k : Nat, bsF a 1 ≤ bsF (a + k) 1 := by
    intro k
    induction k with
    | zero => simp
    | succ k ih =>
      have := bsF_step (a + k)
      rw [show a + ((k + 1 : Nat) : Int) = a + k + 1 from by omega]
      omega
  have := e (b - a).toNat
  rwa [show a + ((b - a).toNat : Int) = b from by omega] at this
theorem jdH_at {Y sz p d : Int} (hs : sz = ydF Y) (hl : leapF Y = true ↔ 360 < sz) (h0 : 0 ≤ p) (h1 : p < 12 ∨ 360 < sz ∧ p < 13) : jdH Y (mAt sz p) d = bsF Y 1 + oAt sz p + d - 1 := by
  unfold jdH; rw [off_at hs hl h0 h1]; unfold bsF; omega
theorem mAt_13 {sz p : Int} (h0 : 0 ≤ p) (h1 : p < 12 ∨ 360 < sz ∧ p < 13) : 1 ≤ mAt sz p ∧ mAt sz p ≤ 13 := by
  unfold mAt; (repeat' split) <;> omega
theorem cnt_le {n Y m r d q : Int} (hm : 19 * m + r = 235 * (Y + 1) - 234) (hr0 : 0 ≤ r) (hd : 25920 * d + q = 12084 + 765433 * m) (hq0 : 0 ≤ q) (h : n - 347996 ≤ d + 3) : (n - 347996) * 98496 / 35975351 ≤ Y + 1 := by omega
theorem fromH {Y sz p past : Int} (hy : 1 ≤ Y) (hs : sz = ydF Y) (hl : leapF Y = true ↔ 360 < sz) (hz : sz = 353 ∨ sz = 354 ∨ sz = 355 ∨ sz = 383 ∨ sz = 384 ∨ sz = 385)
    (h0 : 0 ≤ p) (h1 : p < 12 ∨ 360 < sz ∧ p < 13) (hp0 : 0 ≤ past) (hp1 : past < lAt sz p) : FromH (bsF Y 1 + oAt sz p + past) Y (mAt sz p) (past + 1) := by
  have hup : bsF Y 1 + oAt sz p + past < bsF (Y + 1) 1 := by
    have a := oAt_end hz
    have b : oAt sz (p + 1) ≤ oAt sz (if 360 < sz then 13 else 12) := oAt_mono (by omega) (by split <;> omega)
    have c := @oAt_succ sz p h0
    have : ydF Y = bsF (Y + 1) 1 - bsF Y 1 := rfl
    omega
  have hlow : bsF Y 1 ≤ bsF Y 1 + oAt sz p + past := by
    have := @oAt_mono sz 0 p (by omega) h0
    have : oAt sz 0 = 0 := rfl
    omega
  have hb1 : bsF 1 1 = 347998 := by decide +kernel
  have hbY := bsF_mono hy
  obtain ⟨m13a, m13b⟩ := mAt_13 h0 h1
  refine ⟨by omega, m13a, m13b, ?_, ?_, ?_, ?_, ?_, ?_⟩
  · rw [Int.fdiv_eq_ediv_of_nonneg _ (by decide)]; omega
  · rw [Int.fdiv_eq_ediv_of_nonneg _ (by decide)]
    obtain ⟨m, r, d, q, a1, a2, a3, a4, a5, a6⟩ := mean (Y + 1)
    have e := bs_eq a1 a2 a3 a4 a5 a6
    have : adjF d q r ≤ 2 := by unfold adjF; (repeat' split) <;> omega
    exact cnt_le a1 a2 a4 a5 (by omega)
  · intro i hi
    rw [jdH_7]
    constructor
    · intro h
      by_cases hc : i ≤ Y
      · exact hc
      · have := @bsF_mono (Y + 1) i (by omega); omega
    · intro h
      have := bsF_mono h; omega
  · have e : mAt sz (if 360 < sz then 7 else 6) = 1 := by unfold mAt; split <;> simp
    have f := @jdH_at Y sz (if 360 < sz then 7 else 6) 1 hs hl (by split <;> omega) (by split <;> omega)
    rw [e] at f
    rw [f]
    have g := @oAt_iff sz p past (if 360 < sz then 7 else 6) h0 hp0 hp1 (by split <;> omega)
    have k : 7 ≤ mAt sz p ↔ ¬ ((if 360 < sz then 7 else 6) ≤ p) := by unfold mAt; (repeat' split) <;> omega
    rw [k, ← g]; omega
  · intro i i1 i2
    obtain ⟨j, hj0, hj1, hj, hji⟩ : ∃ j : Int, 0 ≤ j ∧ (j < 12 ∨ 360 < sz ∧ j < 13) ∧ mAt sz j = i ∧ (i < mAt sz p ↔ j < p) := by
      unfold firstF at i1
      by_cases hL : 360 < sz
      · by_cases h7 : p < 7
        · have e : mAt sz p = p + 7 := by unfold mAt; rw [if_pos hL, if_pos h7]
          rw [e] at i1 i2 ⊢
          rw [if_pos (by omega)] at i1
          exact ⟨i - 7, by omega, by omega, by unfold mAt; rw [if_pos hL, if_pos (by omega)]; omega, by omega⟩
        · have e : mAt sz p = p - 6 := by unfold mAt; rw [if_pos hL, if_neg h7]
          rw [e] at i1 i2 ⊢
          rw [if_neg (by omega)] at i1
          exact ⟨i + 6, by omega, by omega, by unfold mAt; rw [if_pos hL, if_neg (by omega)]; omega, by omega⟩
      · by_cases h7 : p < 6
        · have e : mAt sz p = p + 7 := by unfold mAt; rw [if_neg hL, if_pos h7]
          rw [e] at i1 i2 ⊢
          rw [if_pos (by omega)] at i1
          exact ⟨i - 7, by omega, by omega, by unfold mAt; rw [if_neg hL, if_pos (by omega)]; omega, by omega⟩
        · have e : mAt sz p = p - 5 := by unfold mAt; rw [if_neg hL, if_neg h7]
          rw [e] at i1 i2 ⊢
          rw [if_neg (by omega)] at i1
          exact ⟨i + 5, by omega, by omega, by unfold mAt; rw [if_neg hL, if_neg (by omega)]; omega, by omega⟩
    have f := @jdH_at Y sz j (mlF Y i) hs hl hj0 hj1
    have ml := ml_at hs hl hj0 hj1
    rw [hj] at f ml
    rw [f, ml, hji]
    have g := @oAt_iff sz p past (j + 1) h0 hp0 hp1 (by omega)
    have s := @oAt_succ sz j hj0
    rw [show j < p ↔ j + 1 ≤ p from by omega, ← g]; omega
  · rw [jdH_at hs hl h0 h1]; omega
end
section
theorem opts {y m r d q : Int} (hm : 19 * m + r = 235 * y - 234) (hr0 : 0 ≤ r) (hr : r < 19) (hd : 25920 * d + q = 12084 + 765433 * m) (hq0 : 0 ≤ q) (hq : q < 25920) :
    (ydF y = 353 → 2108 ≤ 25920 * adjF d q r - q ∧ 25920 * adjF d q r - q ≤ 43366) ∧
    (ydF y = 354 → -23812 ≤ 25920 * adjF d q r - q ∧ 25920 * adjF d q r - q ≤ 43366) ∧
    (ydF y = 355 → -31742 ≤ 25920 * adjF d q r - q ∧ 25920 * adjF d q r - q ≤ 19032) ∧
    (ydF y = 383 → -2650 ≤ 25920 * adjF d q r - q ∧ 25920 * adjF d q r - q ≤ 43366) ∧
    (ydF y = 384 → -28570 ≤ 25920 * adjF d q r - q ∧ 25920 * adjF d q r - q ≤ 34371) ∧
    (ydF y = 385 → -31742 ≤ 25920 * adjF d q r - q ∧ 25920 * adjF d q r - q ≤ 8451) := by
  obtain ⟨m1, r1, d', q', a1, a2, a3, a4, a5, a6⟩ := mean (y + 1)
  have e0 := bs_eq hm hr0 hr hd hq0 hq
  have e1 := bs_eq a1 a2 a3 a4 a5 a6
  unfold ydF
  rw [e0, e1]
  have c1 : (r < 12 ∧ m1 = m + 12 ∧ r1 = r + 7) ∨ (12 ≤ r ∧ m1 = m + 13 ∧ r1 = r - 12) := by omega
  clear hm a1 e0 e1
  obtain ⟨u, x, hx, x0⟩ := x7 d
  unfold adjF
  rcases c1 with ⟨c1, rfl, rfl⟩ | ⟨c1, rfl, rfl⟩
  · have f1 : (q < 16404 ∧ d' = d + 354 ∧ q' = q + 9516) ∨ (16404 ≤ q ∧ d' = d + 355 ∧ q' = q - 16404) := by omega
    clear a4 hd
    rcases f1 with ⟨f1, rfl, rfl⟩ | ⟨f1, rfl, rfl⟩
    · rw [show (d + 354 + 1) % 7 = (x + 4) % 7 from by omega, show (d + 1) % 7 = x from by omega]
      clear hx
      rcases x0 with rfl | rfl | rfl | rfl | rfl | rfl | rfl <;> simp only [Int.reduceAdd, Int.reduceMod, Int.reduceEq, or_true, true_or, or_false, false_or, false_and, true_and, if_true, if_false] <;> (repeat' split) <;> omega
    · rw [show (d + 355 + 1) % 7 = (x + 5) % 7 from by omega, show (d + 1) % 7 = x from by omega]
      clear hx
      rcases x0 with rfl | rfl | rfl | rfl | rfl | rfl | rfl <;> simp only [Int.reduceAdd, Int.reduceMod, Int.reduceEq, or_true, true_or, or_false, false_or, false_and, true_and, if_true, if_false] <;> (repeat' split) <;> omega
  · have f1 : (q < 2651 ∧ d' = d + 383 ∧ q' = q + 23269) ∨ (2651 ≤ q ∧ d' = d + 384 ∧ q' = q - 2651) := by omega
    clear a4 hd
    rcases f1 with ⟨f1, rfl, rfl⟩ | ⟨f1, rfl, rfl⟩
    · rw [show (d + 383 + 1) % 7 = (x + 5) % 7 from by omega, show (d + 1) % 7 = x from by omega]
      clear hx
      rcases x0 with rfl | rfl | rfl | rfl | rfl | rfl | rfl <;> simp only [Int.reduceAdd, Int.reduceMod, Int.reduceEq, or_true, true_or, or_false, false_or, false_and, true_and, if_true, if_false] <;> (repeat' split) <;> omega
    · rw [show (d + 384 + 1) % 7 = (x + 6) % 7 from by omega, show (d + 1) % 7 = x from by omega]
      clear hx
      rcases x0 with rfl | rfl | rfl | rfl | rfl | rfl | rfl <;> simp only [Int.reduceAdd, Int.reduceMod, Int.reduceEq, or_true, true_or, or_false, false_or, false_and, true_and, if_true, if_false] <;> (repeat' split) <;> omega
def wF (sz : Int) (p : Nat) : Int := 25920 * oAt sz p - 765433 * p
theorem w353 : ∀ p : Nat, p < 12 → -33850 ≤ wF 353 p ∧ wF 353 p ≤ 12167 := by decide +kernel
theorem w354 : ∀ p : Nat, p < 12 → -7930 ≤ wF 354 p ∧ wF 354 p ≤ 12167 := by decide +kernel
theorem w355 : ∀ p : Nat, p < 12 → 0 ≤ wF 355 p ∧ wF 355 p ≤ 36501 := by decide +kernel
theorem w383 : ∀ p : Nat, p < 13 → -29092 ≤ wF 383 p ∧ wF 383 p ≤ 12167 := by decide +kernel
theorem w384 : ∀ p : Nat, p < 13 → -3172 ≤ wF 384 p ∧ wF 384 p ≤ 21162 := by decide +kernel
theorem w385 : ∀ p : Nat, p < 13 → 0 ≤ wF 385 p ∧ wF 385 p ≤ 47082 := by decide +kernel
theorem ebound {y m r d q p sz : Int} (hm : 19 * m + r = 235 * y - 234) (hr0 : 0 ≤ r) (hr : r < 19) (hd : 25920 * d + q = 12084 + 765433 * m) (hq0 : 0 ≤ q) (hq : q < 25920)
    (hs : sz = ydF y) (hz : sz = 353 ∨ sz = 354 ∨ sz = 355 ∨ sz = 383 ∨ sz = 384 ∨ sz = 385) (h0 : 0 ≤ p) (h1 : p < 12 ∨ 360 < sz ∧ p < 13) :
    -31742 ≤ 25920 * adjF d q r - q + 25920 * oAt sz p - 765433 * p ∧ 25920 * adjF d q r - q + 25920 * oAt sz p - 765433 * p ≤ 55533 := by
  obtain ⟨o1, o2, o3, o4, o5, o6⟩ := opts hm hr0 hr hd hq0 hq
  rw [← hs] at o1 o2 o3 o4 o5 o6
  clear hm hd
  generalize adjF d q r = a at *
  obtain ⟨k, rfl⟩ := Int.eq_ofNat_of_zero_le h0
  have e : wF sz k = 25920 * oAt sz (k : Int) - 765433 * (k : Int) := rfl
  clear hs
  rcases hz with rfl | rfl | rfl | rfl | rfl | rfl
  · have := w353 k (by omega); have := o1 rfl; omega
  · have := w354 k (by omega); have := o2 rfl; omega
  · have := w355 k (by omega); have := o3 rfl; omega
  · have := w383 k (by omega); have := o4 rfl; omega
  · have := w384 k (by omega); have := o5 rfl; omega
  · have := w385 k (by omega); have := o6 rfl; omega
/-- the Islamic month -/
def moonI (moon : Int) : Int := jdI (1 + moon / 12) (1 + moon % 12) 1
def e2F (x : Int) : Int := 25920 * moonI x - 765432 * x
theorem e2_per (a : Int) : ∀ x : Nat, x < 360 → e2F ((x : Int) + 360 * a) = e2F x := by
  intro x hx
  unfold e2F moonI jdI
  rw [show ((x : Int) + 360 * a) / 12 = (x : Int) / 12 + 30 * a from by omega, show ((x : Int) + 360 * a) % 12 = (x : Int) % 12 from by omega,
    show (3 + 11 * (1 + ((x : Int) / 12 + 30 * a))) / 30 = (3 + 11 * (1 + (x : Int) / 12)) / 30 + 11 * a from by omega]
  omega
theorem partsLo : ∀ x : Nat, x < 360 → -93553 ≤ (-31742 + 50503527112 - e2F x) + (-(x : Int) - (-31742 + 50503527112 - e2F x)) % 360 := by decide +kernel
theorem partsHi : ∀ x : Nat, x < 360 → (55533 + 50503527112 - e2F x) - ((55533 + 50503527112 - e2F x) + (x : Int)) % 360 ≤ 38690 := by decide +kernel
theorem parts_bound {E moon P F : Int} (hE : -31742 ≤ E ∧ E ≤ 55533) (hP : P = E + 50503527112 - e2F moon) (hc : P = 25920 * F - moon) : -93553 ≤ P ∧ P ≤ 38690 := by
  obtain ⟨x, hx⟩ := Int.eq_ofNat_of_zero_le (show 0 ≤ moon % 360 by omega)
  have hx2 : x < 360 := by omega
  have e : moon = (x : Int) + 360 * (moon / 360) := by omega
  have e2 : e2F moon = e2F x := by rw [e]; exact e2_per _ x hx2
  have l := partsLo x hx2
  have h := partsHi x hx2
  rw [e2] at hP
  clear e2 hx
  generalize e2F x = z at *
  have hmod : (P + x) % 360 = 0 := by omega
  clear hc e
  constructor <;> omega
end
section
/-- all that the law asks of one day -/
structure DayD (c past Y mo nu n k y g D yI mI P : Int) : Prop where
  en : nu + past = n
  jd : jdH Y mo (past + 1) = n
  y1 : 1 ≤ Y
  mo1 : 1 ≤ mo
  mo13 : mo ≤ 13
  G : GregD n k y g D
  I : FromI n yI mI
  iy : iY n = 30 * (n - 1948440).fdiv 10631 + yI
  im : iM n = mI
  ig : iD n = iL n - sY yI - sM mI + 1
  ji : jdI (30 * (n - 1948440).fdiv 10631 + yI) mI (iL n - sY yI - sM mI + 1) = n
  H : FromH n Y mo (past + 1)
  par : 25920 * (n + 1 - (past + 1) - jdI (1 + (c - 54196) / 12) (1 + (c - 54196) % 12) 1) - (c - 54196) = P
  lo : -93553 ≤ P
  hi : P ≤ 38690
  r1 : c % 8527680 = 1625189 → P = -93553
  r2 : c % 8527680 = 4061669 → P = -93553
  r3 : c % 8527680 = 4084946 → P = 38690
theorem sz_leap {Y m r d q : Int} (hm : 19 * m + r = 235 * Y - 234) (hr0 : 12 ≤ r) (hr : r < 19) (hd : 25920 * d + q = 12084 + 765433 * m) (hq0 : 0 ≤ q) (hq : q < 2651) :
    ydF Y = 383 + adjF (d + 383) (q + 23269) (r - 12) - adjF d q r := by
  have e0 := bs_eq hm (by omega) hr hd hq0 (by omega)
  have e1 := @bs_eq (Y + 1) (m + 13) (r - 12) (d + 383) (q + 23269) (by omega) (by omega) (by omega) (by omega) (by omega) (by omega)
  unfold ydF; rw [e0, e1]; omega
theorem sz_common {Y m r d q : Int} (hm : 19 * m + r = 235 * Y - 234) (hr0 : 0 ≤ r) (hr : r < 12) (hd : 25920 * d + q = 12084 + 765433 * m) (hq0 : 0 ≤ q) (hq : q < 16404) :
    ydF Y = 354 + adjF (d + 354) (q + 9516) (r + 7) - adjF d q r := by
  have e0 := bs_eq hm (by omega) (by omega) hd hq0 (by omega)
  have e1 := @bs_eq (Y + 1) (m + 12) (r + 7) (d + 354) (q + 9516) (by omega) (by omega) (by omega) (by omega) (by omega) (by omega)
  unfold ydF; rw [e0, e1]; omega
theorem adj0 {d q r : Int} (h1 : ¬ ((d + 1) % 7 = 0 ∨ (d + 1) % 7 = 3 ∨ (d + 1) % 7 = 5)) (h2 : ¬ ((d + 1) % 7 = 2 ∧ 16404 ≤ q ∧ r < 12)) (h3 : ¬ ((d + 1) % 7 = 1 ∧ 23269 ≤ q ∧ r < 7)) : adjF d q r = 0 := by
  unfold adjF; rw [if_neg h1, if_neg h2, if_neg h3]
theorem adj1 {d q r : Int} (h1 : (d + 1) % 7 = 0 ∨ (d + 1) % 7 = 3 ∨ (d + 1) % 7 = 5) : adjF d q r = 1 := by
  unfold adjF; rw [if_pos h1]
theorem adj2 {d q r : Int} (h1 : ¬ ((d + 1) % 7 = 0 ∨ (d + 1) % 7 = 3 ∨ (d + 1) % 7 = 5)) (h2 : (d + 1) % 7 = 2 ∧ 16404 ≤ q ∧ r < 12) : adjF d q r = 2 := by
  unfold adjF; rw [if_neg h1, if_pos h2]
theorem year_of {c m p Y r : Int} (hc : c = m + p) (h0 : 0 ≤ p) (h1 : p < 12 ∨ 12 ≤ r ∧ p < 13) (hm : 19 * m + r = 235 * Y - 234) (hr0 : 0 ≤ r) (hr : r < 19) : Y = (19 * c + 252) / 235 := by omega
theorem e2_313 : e2F ((313 : Nat) : Int) = 50503589064 := by decide +kernel
theorem e2_190 : e2F ((190 : Nat) : Int) = 50503543920 := by decide +kernel
theorem o383 : oAt 383 4 = 117 := by decide +kernel
theorem o355 : oAt 355 3 = 90 := by decide +kernel
section
variable {c m p Y r d q sz : Int}
theorem rare1 (hc : c = m + p) (h0 : 0 ≤ p) (h1 : p < 12 ∨ 12 ≤ r ∧ p < 13) (hm : 19 * m + r = 235 * Y - 234) (hr0 : 0 ≤ r) (hr : r < 19) (hd : 25920 * d + q = 12084 + 765433 * m) (hq0 : 0 ≤ q) (hq : q < 25920) (hs : sz = ydF Y)
    (hx : c % 8527680 = 1625189) : 25920 * adjF d q r - q + 25920 * oAt sz p - 765433 * p + 50503527112 - e2F (c - 54196) = -93553 := by
  have hY := year_of hc h0 h1 hm hr0 hr
  obtain ⟨u, rfl⟩ : ∃ u : Int, c = 1625189 + 8527680 * u := ⟨c / 8527680, by omega⟩
  have hY2 : Y = 131399 + 689472 * u := by omega
  subst hY2
  have hm2 : m = 1625185 + 8527680 * u := by omega
  subst hm2
  have hr2 : r = 16 := by omega
  have hp2 : p = 4 := by omega
  subst hr2 hp2
  have hd2 : d = 47992679 + 251827457 * u := by omega
  subst hd2
  have hq2 : q = 2509 := by omega
  subst hq2
  have a0 : adjF (47992679 + 251827457 * u) 2509 16 = 0 := adj0 (by omega) (by omega) (by omega)
  have s := sz_leap hm (by omega) (by omega) hd (by omega) (by omega)
  rw [a0, adj0 (by omega) (by omega) (by omega)] at s
  rw [s] at hs
  subst hs
  rw [a0, show (1625189 + 8527680 * u - 54196 : Int) = ((313 : Nat) : Int) + 360 * (4363 + 23688 * u) from by omega, e2_per _ 313 (by omega), e2_313, show (383 + 0 - 0 : Int) = 383 from rfl, o383]; omega
theorem rare2 (hc : c = m + p) (h0 : 0 ≤ p) (h1 : p < 12 ∨ 12 ≤ r ∧ p < 13) (hm : 19 * m + r = 235 * Y - 234) (hr0 : 0 ≤ r) (hr : r < 19) (hd : 25920 * d + q = 12084 + 765433 * m) (hq0 : 0 ≤ q) (hq : q < 25920) (hs : sz = ydF Y)
    (hx : c % 8527680 = 4061669) : 25920 * adjF d q r - q + 25920 * oAt sz p - 765433 * p + 50503527112 - e2F (c - 54196) = -93553 := by
  have hY := year_of hc h0 h1 hm hr0 hr
  obtain ⟨u, rfl⟩ : ∃ u : Int, c = 4061669 + 8527680 * u := ⟨c / 8527680, by omega⟩
  have hY2 : Y = 328391 + 689472 * u := by omega
  subst hY2
  have hm2 : m = 4061665 + 8527680 * u := by omega
  subst hm2
  have hr2 : r = 16 := by omega
  have hp2 : p = 4 := by omega
  subst hr2 hp2
  have hd2 : d = 119943381 + 251827457 * u := by omega
  subst hd2
  have hq2 : q = 2509 := by omega
  subst hq2
  have a0 : adjF (119943381 + 251827457 * u) 2509 16 = 0 := adj0 (by omega) (by omega) (by omega)
  have s := sz_leap hm (by omega) (by omega) hd (by omega) (by omega)
  rw [a0, adj0 (by omega) (by omega) (by omega)] at s
  rw [s] at hs
  subst hs
  rw [a0, show (4061669 + 8527680 * u - 54196 : Int) = ((313 : Nat) : Int) + 360 * (11131 + 23688 * u) from by omega, e2_per _ 313 (by omega), e2_313, show (383 + 0 - 0 : Int) = 383 from rfl, o383]; omega
theorem rare3 (hc : c = m + p) (h0 : 0 ≤ p) (h1 : p < 12 ∨ 12 ≤ r ∧ p < 13) (hm : 19 * m + r = 235 * Y - 234) (hr0 : 0 ≤ r) (hr : r < 19) (hd : 25920 * d + q = 12084 + 765433 * m) (hq0 : 0 ≤ q) (hq : q < 25920) (hs : sz = ydF Y)
    (hx : c % 8527680 = 4084946) : 25920 * adjF d q r - q + 25920 * oAt sz p - 765433 * p + 50503527112 - e2F (c - 54196) = 38690 := by
  have hY := year_of hc h0 h1 hm hr0 hr
  obtain ⟨u, rfl⟩ : ∃ u : Int, c = 4084946 + 8527680 * u := ⟨c / 8527680, by omega⟩
  have hY2 : Y = 330273 + 689472 * u := by omega
  subst hY2
  have hm2 : m = 4084943 + 8527680 * u := by omega
  subst hm2
  have hr2 : r = 4 := by omega
  have hp2 : p = 3 := by omega
  subst hr2 hp2
  have hd2 : d = 120630794 + 251827457 * u := by omega
  subst hd2
  have hq2 : q = 6923 := by omega
  subst hq2
  have a0 : adjF (120630794 + 251827457 * u) 6923 4 = 1 := adj1 (by omega)
  have s := sz_common hm (by omega) (by omega) hd (by omega) (by omega)
  rw [a0, adj2 (by omega) (by omega)] at s
  rw [s] at hs
  subst hs
  rw [a0, show (4084946 + 8527680 * u - 54196 : Int) = ((190 : Nat) : Int) + 360 * (11196 + 23688 * u) from by omega, e2_per _ 190 (by omega), e2_190, show (354 + 2 - 1 : Int) = 355 from rfl, o355]; omega
end
theorem day {c : Int} (hc0 : 0 ≤ c) : ∃ Pm Y sz ny p : Int, FromM c Pm Y sz ny p ∧ ∀ past, 0 ≤ past → past < lAt sz p →
    ∃ n k y g D yI mI P : Int, DayD c past Y (mAt sz p) (ny + oAt sz p) n k y g D yI mI P := by
  obtain ⟨Pm, Y, sz, ny, p, m, r, d, q, FM, y1, hny, hsz, hc, a1, a2, a3, a4, a5, a6, hlr⟩ := fromM hc0
  refine ⟨Pm, Y, sz, ny, p, FM, fun past hp0 hp1 => ?_⟩
  have hl : leapF Y = true ↔ 360 < sz := by rw [hlr]; exact leap_iff a1 a2 a3
  have p0 := FM.p0
  have p1 := FM.p1
  have szs := FM.szs
  obtain ⟨k, y, g, D, hG⟩ := greg (ny + oAt sz p + past)
  obtain ⟨yI, mI, hI, hiy, him, hid, hji⟩ := islam (ny + oAt sz p + past)
  have hb := bs_eq a1 a2 a3 a4 a5 a6
  obtain ⟨m13a, m13b⟩ := mAt_13 p0 p1
  have hE := ebound a1 a2 a3 a4 a5 a6 hsz szs p0 p1
  have pr : p < 12 ∨ 12 ≤ r ∧ p < 13 := by rw [← hlr]; exact p1
  have hP : 25920 * (ny + oAt sz p + past + 1 - (past + 1) - jdI (1 + (c - 54196) / 12) (1 + (c - 54196) % 12) 1) - (c - 54196) = (25920 * adjF d q r - q + 25920 * oAt sz p - 765433 * p) + 50503527112 - e2F (c - 54196) := by
    unfold e2F moonI
    generalize jdI (1 + (c - 54196) / 12) (1 + (c - 54196) % 12) 1 = J
    rw [hny, hb]; omega
  have hBd := parts_bound hE hP (F := ny + oAt sz p + past + 1 - (past + 1) - jdI (1 + (c - 54196) / 12) (1 + (c - 54196) % 12) 1) rfl
  refine ⟨ny + oAt sz p + past, k, y, g, D, yI, mI, 25920 * (ny + oAt sz p + past + 1 - (past + 1) - jdI (1 + (c - 54196) / 12) (1 + (c - 54196) % 12) 1) - (c - 54196), ?_⟩
  exact {
    en := rfl
    jd := by rw [jdH_at hsz hl p0 p1, hny]; omega
    y1 := y1
    mo1 := m13a
    mo13 := m13b
    G := hG
    I := hI
    iy := hiy
    im := him
    ig := hid
    ji := hji
    H := by rw [hny]; exact fromH y1 hsz hl szs p0 p1 hp0 hp1
    par := rfl
    lo := hBd.1
    hi := hBd.2
    r1 := fun hx => by rw [hP]; exact rare1 hc p0 pr a1 a2 a3 a4 a5 a6 hsz hx
    r2 := fun hx => by rw [hP]; exact rare2 hc p0 pr a1 a2 a3 a4 a5 a6 hsz hx
    r3 := fun hx => by rw [hP]; exact rare3 hc p0 pr a1 a2 a3 a4 a5 a6 hsz hx }
end
end Mine
open PySem PySem.W PyProof.Rows
set_option maxRecDepth 100000 in
set_option maxHeartbeats 8000000 in
open_top hd for PySem.Challenge.rw_vp0005_01
open PySem PySem.W PyProof.Rows PySem.Spec PySem.Calls
set_option maxRecDepth 100000
/-! claims of calls -/
namespace Mine
/-- what a call hands on: an int, a bool, a tuple of ints, the ledger else as it stood -/
def RI (x : Int) (h₀ : Heap) (L : Addr) (m : Str → Option Value) (news : List (Addr × Obj)) (s : Shared) (Q : Value → Shared → Prop) : Prop :=
  ∀ (t : Tok) (h' : Heap) (tk' : Nat), Fr h₀ L h' m → News h₀ L h' news → Q (.int x t) { s with heap := h', toks := tk' }
def RB (x : Bool) (h₀ : Heap) (L : Addr) (m : Str → Option Value) (news : List (Addr × Obj)) (s : Shared) (Q : Value → Shared → Prop) : Prop :=
  ∀ (h' : Heap) (tk' : Nat), Fr h₀ L h' m → News h₀ L h' news → Q (.bool x) { s with heap := h', toks := tk' }
def R3 (x y z : Int) (h₀ : Heap) (L : Addr) (m : Str → Option Value) (news : List (Addr × Obj)) (s : Shared) (Q : Value → Shared → Prop) : Prop :=
  ∀ (D : Addr) (t1 t2 t3 : Tok) (c : Nat) (h' : Heap) (tk' : Nat), Fr h₀ L h' m → News h₀ L h' ((D, ({ cls := .type "tuple", data := .seq #[.int x t1, .int y t2, .int z t3] c } : Obj)) :: news) → AllLt D news → Q (.ref D) { s with heap := h', toks := tk' }
def R4 (x y z u : Int) (h₀ : Heap) (L : Addr) (m : Str → Option Value) (news : List (Addr × Obj)) (s : Shared) (Q : Value → Shared → Prop) : Prop :=
  ∀ (D : Addr) (t1 t2 t3 t4 : Tok) (c : Nat) (h' : Heap) (tk' : Nat), Fr h₀ L h' m → News h₀ L h' ((D, ({ cls := .type "tuple", data := .seq #[.int x t1, .int y t2, .int z t3, .int u t4] c } : Obj)) :: news) → AllLt D news → Q (.ref D) { s with heap := h', toks := tk' }
/-- a call of the def at f from within a def, k frames below the lid -/
def CX (k : Nat) (f : Addr) (vs : List Value) (R : Heap → Addr → (Str → Option Value) → List (Addr × Obj) → Shared → (Value → Shared → Prop) → Prop) : Prop :=
  ∀ (prog : Program) (w : World) (loose : List Str) (mean : ExcName → Option Value) (mg mb : Str → Option Value) (news : List (Addr × Obj))
    (dp un : Nat) (gd : Option (List Code)) (cn : Str) (cs : Scope) (a : Addr) (ccd : Value) (cl : List (Str × Addr)) (outer : List Env) (A₀ : Around) (base h₀ : Heap) (L : Addr) (m : Str → Option Value) (s : Shared) (Q E : Value → Shared → Prop),
    Below A₀ base outer h₀ → Fr h₀ L s.heap m → (hd.heap_39 w.params).In h₀ → News h₀ L s.heap news → Top hd.view_39 loose mean mg mb h₀ → cs.kind = .function →
    dp + k < recursionLimit → un + 8 * k < cLine → R h₀ L m news s Q →
      wpAny (model prog w) (ktrTop dp un gd cn cs L a ccd cl outer) (call (.ref f) vs) Q E s
section
variable {k : Nat} {f : Addr} {vs : List Value} {prog : Program} {w : World} {loose : List Str} {mean : ExcName → Option Value} {mg mb : Str → Option Value} {news : List (Addr × Obj)}
    {dp un : Nat} {gd : Option (List Code)} {cn : Str} {cs : Scope} {a : Addr} {ccd : Value} {cl : List (Str × Addr)} {outer : List Env} {A₀ : Around} {base h₀ : Heap} {L : Addr} {m : Str → Option Value} {s : Shared} {Q E : Value → Shared → Prop}
theorem useI {x : Int} (C : CX k f vs (RI x)) (hB : Below A₀ base outer h₀) (hF : Fr h₀ L s.heap m) (hK : (hd.heap_39 w.params).In h₀) (hN : News h₀ L s.heap news) (hT : Top hd.view_39 loose mean mg mb h₀) (hk : cs.kind = .function) (hdp : dp + k < recursionLimit) (hu : un + 8 * k < cLine)
    (ret : ∀ (t : Tok) (h' : Heap) (tk' : Nat), Fr h₀ L h' m → News h₀ L h' news → Q (.int x t) { s with heap := h', toks := tk' }) :
    wpAny (model prog w) (ktrTop dp un gd cn cs L a ccd cl outer) (call (.ref f) vs) Q E s := C _ _ _ _ _ _ _ _ _ _ _ _ _ _ _ _ _ _ _ _ _ _ _ _ hB hF hK hN hT hk hdp hu ret
theorem useB {x : Bool} (C : CX k f vs (RB x)) (hB : Below A₀ base outer h₀) (hF : Fr h₀ L s.heap m) (hK : (hd.heap_39 w.params).In h₀) (hN : News h₀ L s.heap news) (hT : Top hd.view_39 loose mean mg mb h₀) (hk : cs.kind = .function) (hdp : dp + k < recursionLimit) (hu : un + 8 * k < cLine)
    (ret : ∀ (h' : Heap) (tk' : Nat), Fr h₀ L h' m → News h₀ L h' news → Q (.bool x) { s with heap := h', toks := tk' }) :
    wpAny (model prog w) (ktrTop dp un gd cn cs L a ccd cl outer) (call (.ref f) vs) Q E s := C _ _ _ _ _ _ _ _ _ _ _ _ _ _ _ _ _ _ _ _ _ _ _ _ hB hF hK hN hT hk hdp hu ret
theorem use3 {x y z : Int} (C : CX k f vs (R3 x y z)) (hB : Below A₀ base outer h₀) (hF : Fr h₀ L s.heap m) (hK : (hd.heap_39 w.params).In h₀) (hN : News h₀ L s.heap news) (hT : Top hd.view_39 loose mean mg mb h₀) (hk : cs.kind = .function) (hdp : dp + k < recursionLimit) (hu : un + 8 * k < cLine)
    (ret : ∀ (D : Addr) (t1 t2 t3 : Tok) (c : Nat) (h' : Heap) (tk' : Nat), Fr h₀ L h' m → News h₀ L h' ((D, ({ cls := .type "tuple", data := .seq #[.int x t1, .int y t2, .int z t3] c } : Obj)) :: news) → AllLt D news → Q (.ref D) { s with heap := h', toks := tk' }) :
    wpAny (model prog w) (ktrTop dp un gd cn cs L a ccd cl outer) (call (.ref f) vs) Q E s := C _ _ _ _ _ _ _ _ _ _ _ _ _ _ _ _ _ _ _ _ _ _ _ _ hB hF hK hN hT hk hdp hu ret
theorem use4 {x y z u : Int} (C : CX k f vs (R4 x y z u)) (hB : Below A₀ base outer h₀) (hF : Fr h₀ L s.heap m) (hK : (hd.heap_39 w.params).In h₀) (hN : News h₀ L s.heap news) (hT : Top hd.view_39 loose mean mg mb h₀) (hk : cs.kind = .function) (hdp : dp + k < recursionLimit) (hu : un + 8 * k < cLine)
    (ret : ∀ (D : Addr) (t1 t2 t3 t4 : Tok) (c : Nat) (h' : Heap) (tk' : Nat), Fr h₀ L h' m → News h₀ L h' ((D, ({ cls := .type "tuple", data := .seq #[.int x t1, .int y t2, .int z t3, .int u t4] c } : Obj)) :: news) → AllLt D news → Q (.ref D) { s with heap := h', toks := tk' }) :
    wpAny (model prog w) (ktrTop dp un gd cn cs L a ccd cl outer) (call (.ref f) vs) Q E s := C _ _ _ _ _ _ _ _ _ _ _ _ _ _ _ _ _ _ _ _ _ _ _ _ hB hF hK hN hT hk hdp hu ret
end
section
variable {h₀ h h' : Heap} {L : Addr} {m : Str → Option Value} {news news' : List (Addr × Obj)} {s : Shared} {Q : Value → Shared → Prop} {t t1 t2 t3 t4 : Tok} {tk' c : Nat} {D : Addr}
theorem endI {x y : Int} (hret : RI x h₀ L m news s Q) (e : y = x) (F : Fr h₀ L h' m) (N : News h₀ L h' news') (hs : ∀ p ∈ news, p ∈ news') : Q (.int y t) { s with heap := h', toks := tk' } := by
  subst e; exact hret t h' tk' F fun p hp => N p (hs p hp)
theorem endB {x y : Bool} (hret : RB x h₀ L m news s Q) (e : y = x) (F : Fr h₀ L h' m) (N : News h₀ L h' news') (hs : ∀ p ∈ news, p ∈ news') : Q (.bool y) { s with heap := h', toks := tk' } := by
  subst e; exact hret h' tk' F fun p hp => N p (hs p hp)
theorem end3 {x y z x' y' z' : Int} (hret : R3 x y z h₀ L m news s Q) (e1 : x' = x) (e2 : y' = y) (e3 : z' = z) (F : Fr h₀ L h' m) (N : News h₀ L h' news') (hm : (D, ({ cls := .type "tuple", data := .seq #[.int x' t1, .int y' t2, .int z' t3] c } : Obj)) ∈ news') (hs : ∀ p ∈ news, p ∈ news') (hl : AllLt D news) : Q (.ref D) { s with heap := h', toks := tk' } := by
  subst e1 e2 e3
  refine hret D t1 t2 t3 c h' tk' F (fun p hp => ?_) hl
  rcases List.mem_cons.mp hp with rfl | hp
  · exact N _ hm
  · exact N p (hs p hp)
theorem end4 {x y z u x' y' z' u' : Int} (hret : R4 x y z u h₀ L m news s Q) (e1 : x' = x) (e2 : y' = y) (e3 : z' = z) (e4 : u' = u) (F : Fr h₀ L h' m) (N : News h₀ L h' news') (hm : (D, ({ cls := .type "tuple", data := .seq #[.int x' t1, .int y' t2, .int z' t3, .int u' t4] c } : Obj)) ∈ news') (hs : ∀ p ∈ news, p ∈ news') (hl : AllLt D news) : Q (.ref D) { s with heap := h', toks := tk' } := by
  subst e1 e2 e3 e4
  refine hret D t1 t2 t3 t4 c h' tk' F (fun p hp => ?_) hl
  rcases List.mem_cons.mp hp with rfl | hp
  · exact N _ hm
  · exact N p (hs p hp)
end
section
variable {prog : Program} {w : World} {A : Around} {E : Value → Shared → Prop} {s : Shared} {h₀ : Heap} {L a : Addr} {m : Str → Option Value} {K : Frag} {Q : Value → Shared → Prop}
theorem inTop {l : List Value} {dd : Option Addr} {n : Nat} {sl : Array (Option Value)} {x : Int} {u : Tok} {ns : List Int} (F : Fr h₀ L s.heap m) (X₀ : K.In h₀) (hl : K.lookup a = some ⟨.type "tuple", dd, .seq l.toArray n, sl⟩) (hi : IntsAre l ns)
    (h : Q (.bool (ns.any (· == x))) s) : wpAny (model prog w) A (compareOp .In (.int x u) (.ref a)) Q E s := in_tuple_ints (tupK (X₀.keeps F.keep) hl) (by simpa using hi) h
end
section
variable {prog : Program} {w : World} {A : Around} {E : Value → Shared → Prop} {s : Shared} {h₀ : Heap} {L a : Addr} {m : Str → Option Value} {K : Frag} {Q : Value → Shared → Prop}
theorem topItem {value slice : Expr} {l : List Value} {dd : Option Addr} {n : Nat} {sl : Array (Option Value)} {k x : Int} {u : Tok} {ns : List Int} (F : Fr h₀ L s.heap m) (X₀ : K.In h₀) (hl : K.lookup a = some ⟨.type "tuple", dd, .seq l.toArray n, sl⟩) (hi : IntsAre l ns)
    (h0 : 0 ≤ k) (h1 : k < ns.length) (hfit : k < 2 ^ 63) (hx : ns.getD k.toNat 0 = x) (h : ∀ t, Q (.int x t) s)
    (hs : subscripted slice false (.ref a) (.int k u) = operate [.ref a, .int k u] (getItem (.ref a) (.int k u)) := by with_unfolding_all rfl) (hg : ∀ r, letTemporaryGo value (.ref a) r = pure () := by intro _; with_unfolding_all rfl) :
    wpAny (model prog w) A (subscriptTail value slice (.ref a) (.int k u)) Q E s := by
  subst hx; exact item_tuple_ints (tupK (X₀.keeps F.keep) hl) (by simpa using hi) h0 h1 hfit h hs hg
end
theorem befD {k : Int} (h0 : 0 ≤ k) (h1 : k < 19) : [0, 12, 24, 37, 49, 61, 74, 86, 99, 111, 123, 136, 148, 160, 173, 185, 197, 210, 222].getD k.toNat 0 = (235 * k + 1) / 19 := by
  obtain ⟨n, rfl⟩ := Int.eq_ofNat_of_zero_le h0
  have : ∀ n : Nat, n < 19 → ([0, 12, 24, 37, 49, 61, 74, 86, 99, 111, 123, 136, 148, 160, 173, 185, 197, 210, 222] : List Int).getD (n : Int).toNat 0 = (235 * n + 1) / 19 := by decide +kernel
  exact this n (by omega)
section
variable {M : Model} {A : Around} {E : Value → Shared → Prop} {s : Shared}
theorem my_arg_as {f : Addr} {e v : Int} {t : Tok} {Q : Value → Shared → Prop} (h : e = v) (H : wpAny M A (call (.ref f) [.int v t]) Q E s) : wpAny M A (call (.ref f) [.int e t]) Q E s := by subst h; exact H
end
section
variable {M : Model} {A : Around} {env : Env} {E : Value → Shared → Prop} {h : Heap} {g : Array GenState} {d : Drawn} {X : Nat} {o : OsState}
theorem my_execs_cons {st : Stmt} {rest : List Stmt} {Q : Flow → Shared → Prop} (H : ∀ tk, wpAny M A (exec st env) (fun f s' => match f with | .next => wpAny M A (execs rest env) Q E s' | f => Q f s') E ⟨h, g, d, tk, o⟩) : wpAny M A (execs (st :: rest) env) Q E ⟨h, g, d, X, o⟩ := wpAny_execs_cons (H X)
theorem my_execs_nil {Q : Flow → Shared → Prop} (H : ∀ tk, Q .next ⟨h, g, d, tk, o⟩) : wpAny M A (execs [] env) Q E ⟨h, g, d, X, o⟩ := wpAny_execs_nil (H X)
theorem my_store_as {s : Shared} {x : Str} {e v : Int} {t : Tok} {Q : Unit → Shared → Prop} (h : e = v) (H : wpAny M A (storeName env x (.int v t)) Q E s) : wpAny M A (storeName env x (.int e t)) Q E s := by subst h; exact H
theorem my_store {s : Shared} {x : Str} {e : Int} {t : Tok} {Q : Unit → Shared → Prop} (H : ∀ v, v = e → wpAny M A (storeName env x (.int v t)) Q E s) : wpAny M A (storeName env x (.int e t)) Q E s := H e rfl
end
structure JoinMark (x : Str) (v : Int) : Prop where
  mark :: (one : True)
/-- a statement whose ways meet: it ends plainly, one local name holds the int v -/
def JoinI (h₀ : Heap) (L : Addr) (m : Str → Option Value) (news : List (Addr × Obj)) (s : Shared) (x : Str) (v : Int) (f : Flow) (s' : Shared) : Prop :=
  f = .next ∧ ∃ (t : Tok) (h' : Heap) (tk' : Nat), s' = { s with heap := h', toks := tk' } ∧ Fr h₀ L h' (fun y => if y = x then some (.int v t) else m y) ∧ News h₀ L h' news
section
variable {M : Model} {A : Around} {env : Env} {E : Value → Shared → Prop} {s : Shared} {h₀ h' : Heap} {L : Addr} {m : Str → Option Value} {news news' : List (Addr × Obj)} {tk' : Nat} {t : Tok}
theorem joinI (x : Str) (v : Int) {st : Stmt} {Q : Flow → Shared → Prop} (_ : Fr h₀ L s.heap m) (_ : News h₀ L s.heap news)
    (H1 : JoinMark x v → wpAny M A (exec st env) (fun f s' => JoinI h₀ L m news s x v f s') E s)
    (H2 : ∀ (t : Tok) (h' : Heap) (tk' : Nat), Fr h₀ L h' (fun y => if y = x then some (.int v t) else m y) → News h₀ L h' news → Q .next { s with heap := h', toks := tk' }) : wpAny M A (exec st env) Q E s := by
  refine wpAny_mono (H1 ⟨trivial⟩) (fun f s' h => ?_) fun _ _ h => h
  obtain ⟨rfl, t, h', tk', rfl, F, N⟩ := h
  exact H2 t h' tk' F N
theorem joinI_end1 {x : Str} {v v' : Int} (e : v' = v) (F : Fr h₀ L h' (fun y => if y = x then some (.int v' t) else m y)) (N : News h₀ L h' news') (hs : ∀ p ∈ news, p ∈ news') : JoinI h₀ L m news s x v .next { s with heap := h', toks := tk' } := by
  subst e; exact ⟨rfl, t, h', tk', rfl, F, fun p hp => N p (hs p hp)⟩
theorem joinI_end0 {x : Str} {v v' : Int} (e : v' = v) (hm : m x = some (.int v' t)) (F : Fr h₀ L h' m) (N : News h₀ L h' news') (hs : ∀ p ∈ news, p ∈ news') : JoinI h₀ L m news s x v .next { s with heap := h', toks := tk' } := by
  subst e
  refine ⟨rfl, t, h', tk', rfl, ?_, fun p hp => N p (hs p hp)⟩
  have : (fun y => if y = x then some (.int v' t) else m y) = m := by
    funext y; by_cases hy : y = x
    · rw [if_pos hy, hy, hm]
    · rw [if_neg hy]
  rw [this]; exact F
end
theorem allLt_sub {d : Addr} {l l' : List (Addr × Obj)} (h : ∀ p ∈ l', p.1 < d) (hs : ∀ p ∈ l, p ∈ l') : AllLt d l := allLt_of fun p hp => h p (hs p hp)
theorem allLt_sub2 {d : Addr} {l l' : List (Addr × Obj)} (h : AllLt d l') (hs : ∀ p ∈ l, p ∈ l') : AllLt d l := allLt_of fun p hp => kst_ltOf h p (hs p hp)
section
variable {prog : Program} {w : World} {A : Around} {E : Value → Shared → Prop} {s : Shared} {h₀ : Heap} {L : Addr} {m : Str → Option Value}
theorem fills_iadd : fillsInplaceSlot (.type "list") "add" (Operator.Add == .Add) = pure false := by
  unfold fillsInplaceSlot
  show (typeLookup (.type "list") (dunderI "add") >>= fun fi => pure (fi.isSome && !isSeqSlot fi)) = pure false
  rw [PySem.F.slot_list_iadd.lookup]; rfl
theorem seq_iadd : seqSlot? (.type "list") (dunderI "add") = pure (some (.builtin "list.__iadd__")) := PySem.seqSlot_of PySem.F.slot_list_iadd.lookup (by decide +kernel)
theorem inplace_list {a b : Value} {Q : Value → Shared → Prop} (ha : s.TypeIs a "list") (hb : s.TypeIs b "list")
    (hc : wpAny (model prog w) A (call (.builtin "list.__iadd__") [a, b]) Q E s) : wpAny (model prog w) A (inplaceOp .Add a b) Q E s := by
  unfold inplaceOp
  refine wpAny_holding ?_
  refine wpAny_bind (wpAny_typeOf ha (wpAny_bind (wpAny_of_eq fills_iadd ?_)))
  show wpAny _ A (if false = true then _ else _) Q E s
  rw [if_neg Bool.false_ne_true]
  refine wpAny_bind (wpAny_binaryOp1_none (nm := "add") ha hb noFill_list_add ?_)
  refine wpAny_bind (wpAny_of_eq seq_iadd ?_)
  exact wpAny_bind (wpAny_rule hc)
theorem iadd_in {D b : Addr} {ys : List Value} {n n2 : Nat} {its2 : Array Value} {own rest : List (Addr × Obj)} {Q : Value → Shared → Prop}
    (F : Fr h₀ L s.heap m) (N : News h₀ L s.heap (own ++ (D, { cls := .type "list", data := .seq ys.toArray n }) :: rest)) (hown : ∀ p ∈ own, p.1 ≠ D) (hap : ∀ p ∈ rest, p.1 ≠ D)
    (hb : s.heap.get? b = some { cls := .type "list", data := .seq its2 n2 })
    (hsz : ys.length + its2.size ≤ sizeLine)
    (h : ∀ h' n', Fr h₀ L h' m → News h₀ L h' (own ++ (D, { cls := .type "list", data := .seq (ys ++ its2.toList).toArray n' }) :: rest) → Q (.ref D) { s with heap := h' }) :
    wpAny (model prog w) A (inplaceOp .Add (.ref D) (.ref b)) Q E s := by
  have hm := N _ (List.mem_append_right own (List.Mem.head rest))
  have hsz' : ys.toArray.size + its2.size ≤ sizeLine := by rw [List.size_toArray]; exact hsz
  refine inplace_list ⟨_, hm.1, rfl⟩ ⟨_, hb, rfl⟩ ?_
  refine call_meets PySem.F.slot_list_iadd ⟨_, hm.1, rfl⟩ PySem.F.entry_list_iadd (PySem.F.args_list_iadd_2 _ _) (AutoSeq1.list___iadd___list_list_0 D ys.toArray n b its2 n2 (extend_door hsz') (Nat.le_trans (Nat.le_add_right _ _) hsz') (Nat.le_trans hsz' (Nat.le_succ _))) ⟨hm.1, hb, ?_⟩
  have e : ys.toArray ++ its2 = (ys ++ its2.toList).toArray := by simp
  have ho' : (s.heap.update D (Obj.mapSeq fun x => x ++ its2)).get? D = some { cls := .type "list", data := .seq (ys ++ its2.toList).toArray (if (ys.toArray ++ its2).size == ys.toArray.size then n else n + 1) } := by
    rw [Heap.get?_update_self _ hm.1 (by rw [mapSeq_app]; rfl), mapSeq_app, e]
  exact h _ _ (F.change (Heap.SameBut.update ..) hm.2.1 hm.2.2) (N.setIn hown hap (Heap.SameBut.update ..) ho')
theorem iadd_U {D b : Addr} {ys : List Value} {n n2 : Nat} {its2 zs : List Value} {news : List (Addr × Obj)} {g : Obj → List (Addr × Obj)} {Q : Value → Shared → Prop}
    (F : Fr h₀ L s.heap m) (N : News h₀ L s.heap news) (U : UpdF D ({ cls := .type "list", data := .seq ys.toArray n } : Obj) news g)
    (hb : (b, ({ cls := .type "list", data := .seq its2.toArray n2 } : Obj)) ∈ news) (e : ys ++ its2 = zs)
    (hsz : ys.length + its2.length ≤ sizeLine)
    (h : ∀ h' n', Fr h₀ L h' m → News h₀ L h' (g { cls := .type "list", data := .seq zs.toArray n' }) → Q (.ref D) { s with heap := h' }) :
    wpAny (model prog w) A (inplaceOp .Add (.ref D) (.ref b)) Q E s := by
  obtain ⟨pre, post, rfl, hg, h1, h2⟩ := U.split
  subst e
  refine iadd_in F N h1 h2 (N _ hb).1 (by simpa using hsz) fun h' n' F' N' => h h' n' F' ?_
  rw [hg]; simpa using N'
end
section
variable {prog : Program} {w : World} {A : Around} {E : Value → Shared → Prop} {s : Shared} {h₀ : Heap} {L : Addr} {m : Str → Option Value} {news : List (Addr × Obj)}
theorem drop_get {α : Type} {l r : List α} {n : Nat} {x : α} (h : l.drop n = x :: r) : l[n]? = some x := by
  have h2 : (l.drop n)[0]? = some x := by rw [h]; rfl
  simpa using h2
theorem itemL {value slice : Expr} {l : Addr} {its : Array Value} {k : Int} {u : Tok} {x : Value} {r : List Value} {Q : Value → Shared → Prop} (hl : s.heap.IsList l its)
    (h0 : 0 ≤ k) (hfit : k < 2 ^ 63) (hx : its.toList.drop k.toNat = x :: r)
    (hs : subscripted slice false (.ref l) (.int k u) = operate [.ref l, .int k u] (getItem (.ref l) (.int k u))) (hg : ∀ r, letTemporaryGo value (.ref l) r = pure ()) (h : Q x s) :
    wpAny (model prog w) A (subscriptTail value slice (.ref l) (.int k u)) Q E s := item_list hl h0 hfit (by simpa using drop_get hx) h hs hg
theorem itemT {value slice : Expr} {l : Addr} {its : Array Value} {k : Int} {u : Tok} {x : Value} {r : List Value} {Q : Value → Shared → Prop} (hl : IsTup s.heap l its)
    (h0 : 0 ≤ k) (hfit : k < 2 ^ 63) (hx : its.toList.drop k.toNat = x :: r)
    (hs : subscripted slice false (.ref l) (.int k u) = operate [.ref l, .int k u] (getItem (.ref l) (.int k u))) (h : Q x s) :
    wpAny (model prog w) A (subscriptTail value slice (.ref l) (.int k u)) Q E s := by
  have h1 := drop_get hx
  have h2 : k.toNat < its.size := by
    rcases Nat.lt_or_ge k.toNat its.size with h2 | h2
    · exact h2
    · rw [List.drop_of_length_le (by simpa using h2)] at hx; cases hx
  exact item_tupleT (l := its.toList) (j := k.toNat) (by simpa using hl) (by omega) hfit (seqIndex_of h0 (by simp; omega)) h1 h hs
theorem sliceUp {value slice : Expr} {l : Addr} {its : Array Value} {zs : List Value} {b : Int} {u : Tok} {Q : Value → Shared → Prop}
    (F : Fr h₀ L s.heap m) (N : News h₀ L s.heap news) (hl : s.heap.IsList l its) (hb : 0 ≤ b) (e : its.toList.take b.toNat = zs) (hz : its.size ≤ sizeLine)
    (hs : subscripted slice false (.ref l) (.ref s.heap.objs.size) = operate [.ref s.heap.objs.size, .ref l] (getItem (.ref l) (.ref s.heap.objs.size))) (ht : ∀ r, letTemporaryGo value (.ref l) r = pure ())
    (h : ∀ D h', Fr h₀ L h' m → News h₀ L h' ((D, ({ cls := .type "list", data := .seq zs.toArray } : Obj)) :: news) → (∀ p ∈ news, p.1 < D) → Q (.ref D) { s with heap := h' }) :
    wpAny (model prog w) A (subscriptTail value slice (.ref l) (.ref s.heap.objs.size)) Q E { s with heap := s.heap.push { cls := .type "slice", data := .fields #[.none, .int b u, .none] } } := by
  obtain ⟨n, rfl⟩ := Int.eq_ofNat_of_zero_le hb
  subst e
  refine slice_list (lo := none) (hi := some (n : Int)) F N hl .none (.int _ _) (fun h' F' N' => h _ h' F' ?_ fun p hp => Nat.lt_succ_of_lt (Heap.lt_size (N p hp).1)) hs ht hz
  rw [slicePick_upto'] at N'
  exact N'
end
section
variable {prog : Program} {w : World} {A : Around} {E : Value → Shared → Prop} {s : Shared} {env : Env} {h₀ : Heap} {target : Expr} {body : List Stmt} {Q : Flow → Shared → Prop} {fp : List Addr} {L : Addr} {m : Str → Option Value} {news : List (Addr × Obj)}
theorem sliceTake {value slice : Expr} {l : Addr} {its : Array Value} {ys : List Value} {b : Int} {u : Tok} {Q : Value → Shared → Prop}
    (F : Fr h₀ L s.heap m) (N : News h₀ L s.heap news) (hl : s.heap.IsList l its) (hb : 0 ≤ b) (e : its.toList = ys) (hz : its.size ≤ sizeLine)
    (hs : subscripted slice false (.ref l) (.ref s.heap.objs.size) = operate [.ref s.heap.objs.size, .ref l] (getItem (.ref l) (.ref s.heap.objs.size))) (ht : ∀ r, letTemporaryGo value (.ref l) r = pure ())
    (h : ∀ D h', Fr h₀ L h' m → News h₀ L h' ((D, ({ cls := .type "list", data := .seq (ys.take b.toNat).toArray } : Obj)) :: news) → (∀ p ∈ news, p.1 < D) → Q (.ref D) { s with heap := h' }) :
    wpAny (model prog w) A (subscriptTail value slice (.ref l) (.ref s.heap.objs.size)) Q E { s with heap := s.heap.push { cls := .type "slice", data := .fields #[.none, .int b u, .none] } } := by
  subst e; exact sliceUp F N hl hb rfl hz hs ht h
theorem Iter_take_unr {ys : List Value} {n : Nat} {t : Addr}
    (hh : A.handled = none) (ht : s.heap.IsList t (ys.take n).toArray) (F : Fr h₀ env.locals s.heap m) (N : News h₀ env.locals s.heap news) (htL : t ≠ env.locals) (hn : n ≤ ys.length)
    (h : Unr prog w A E h₀ env target body Q (fun i v => (ys.take n).toArray[i]? = some v) [s.heap.objs.size, t] { s with heap := s.heap.push { cls := .type "list_iterator", data := .fields #[.ref t, .int 0 0] } } (n - 0) 0 m news) :
    wpAny (model prog w) A (pyIter (.ref t)) (fun it s₂ => UnrAt prog w A h₀ env target body Q E it s₂) E s := by
  refine Iter_list_unr hh ht F N htL ?_
  rw [show (ys.take n).toArray.size = n - 0 from by simp [List.length_take, hn]]
  exact h
theorem unr_take {ys r : List Value} {x : Value} {n j : Nat} (hj : j ≤ n) (hx : ys.drop j = x :: r)
    (h0 : n = j → ∀ h' tk, Fr h₀ env.locals h' m → News h₀ env.locals h' news → Q .next { s with heap := h', toks := tk })
    (h1 : j + 1 ≤ n → ∀ h₁ tk₁ own, (∀ p ∈ own, p.1 ∈ fp) → Fr h₀ env.locals h₁ m → News h₀ env.locals h₁ (own ++ news) →
      wpAny (model prog w) A (assign target env x) (fun _ s₂ => wpAny (model prog w) A (execs body env)
        (LoopStep3 h₀ env.locals own news (Unr prog w A E h₀ env target body Q (fun i v => (ys.take n).toArray[i]? = some v) fp s (n - (j + 1)) (j + 1)) { s with heap := h₁, toks := tk₁ } (fun v s' => Q (.ret v) s') fun s' => Q .next s') E s₂) E { s with heap := h₁, toks := tk₁ }) :
    Unr prog w A E h₀ env target body Q (fun i v => (ys.take n).toArray[i]? = some v) fp s (n - j) j m news := by
  rcases Nat.lt_or_ge j n with hl | hl
  · rw [show n - j = (n - (j + 1)) + 1 from by omega]
    refine Unr.succ fun v h₁ tk₁ own hP ho F N => ?_
    have e : x = v := by
      have h2 := drop_get hx
      simp only [List.getElem?_toArray] at hP
      rw [List.getElem?_take_of_lt hl, h2] at hP
      exact Option.some.inj hP
    subst e
    exact h1 hl h₁ tk₁ own ho F N
  · rw [show n - j = 0 from by omega]
    exact Unr.zero (h0 (by omega))
theorem unr_take_end {ys : List Value} {n j : Nat} (hj : j ≤ n) (hn : n ≤ ys.length) (hx : ys.drop j = [])
    (h0 : n = j → ∀ h' tk, Fr h₀ env.locals h' m → News h₀ env.locals h' news → Q .next { s with heap := h', toks := tk }) :
    Unr prog w A E h₀ env target body Q (fun i v => (ys.take n).toArray[i]? = some v) fp s (n - j) j m news := by
  have h2 : ys.length ≤ j := by simpa using hx
  rw [show n - j = 0 from by omega]
  exact Unr.zero (h0 (by omega))
theorem toNat_lit {p v : Int} {j : Nat} (h0 : 0 ≤ p) (h : p.toNat = j) (hv : (j : Int) = v) : p = v := by omega
end
structure JoinMarkE (v : Int) : Prop where
  mark :: (one : True)
def JoinE (h₀ : Heap) (L : Addr) (m : Str → Option Value) (news : List (Addr × Obj)) (s : Shared) (v : Int) (f : Value) (s' : Shared) : Prop :=
  ∃ (t : Tok) (h' : Heap) (tk' : Nat), f = .int v t ∧ s' = { s with heap := h', toks := tk' } ∧ Fr h₀ L h' m ∧ News h₀ L h' news
section
variable {M : Model} {A : Around} {env : Env} {E : Value → Shared → Prop} {s : Shared} {h₀ h' : Heap} {L : Addr} {m : Str → Option Value} {news news' : List (Addr × Obj)} {tk' : Nat} {t : Tok}
theorem joinE (v : Int) {e : Expr} {Q : Value → Shared → Prop} (_ : Fr h₀ L s.heap m) (_ : News h₀ L s.heap news)
    (H1 : JoinMarkE v → wpAny M A (eval e env) (fun f s' => JoinE h₀ L m news s v f s') E s)
    (H2 : ∀ (t : Tok) (h' : Heap) (tk' : Nat), Fr h₀ L h' m → News h₀ L h' news → Q (.int v t) { s with heap := h', toks := tk' }) : wpAny M A (eval e env) Q E s := by
  refine wpAny_mono (H1 ⟨trivial⟩) (fun f s' h => ?_) fun _ _ h => h
  obtain ⟨t, h', tk', rfl, rfl, F, N⟩ := h
  exact H2 t h' tk' F N
theorem joinE_end {v v' : Int} (e : v' = v) (F : Fr h₀ L h' m) (N : News h₀ L h' news') (hs : ∀ p ∈ news, p ∈ news') : JoinE h₀ L m news s v (.int v' t) { s with heap := h', toks := tk' } := by
  subst e; exact ⟨t, h', tk', rfl, rfl, F, fun p hp => N p (hs p hp)⟩
end
/-- a call with one tuple of the ledger -/
def CP (k : Nat) (f D : Addr) (o : Obj) (b : Bool) : Prop :=
  ∀ (prog : Program) (w : World) (loose : List Str) (mean : ExcName → Option Value) (mg mb : Str → Option Value) (news : List (Addr × Obj))
    (dp un : Nat) (gd : Option (List Code)) (cn : Str) (cs : Scope) (a : Addr) (ccd : Value) (cl : List (Str × Addr)) (outer : List Env) (A₀ : Around) (base h₀ : Heap) (L : Addr) (m : Str → Option Value) (s : Shared) (Q E : Value → Shared → Prop),
    Below A₀ base outer h₀ → Fr h₀ L s.heap m → (hd.heap_39 w.params).In h₀ → News h₀ L s.heap ((D, o) :: news) → Top hd.view_39 loose mean mg mb h₀ → cs.kind = .function →
    dp + k < recursionLimit → un + 8 * k < cLine → RB b h₀ L m ((D, o) :: news) s Q →
      wpAny (model prog w) (ktrTop dp un gd cn cs L a ccd cl outer) (call (.ref f) [.ref D]) Q E s
section
variable {k : Nat} {f D : Addr} {o : Obj} {b : Bool} {prog : Program} {w : World} {loose : List Str} {mean : ExcName → Option Value} {mg mb : Str → Option Value} {news : List (Addr × Obj)}
    {dp un : Nat} {gd : Option (List Code)} {cn : Str} {cs : Scope} {a : Addr} {ccd : Value} {cl : List (Str × Addr)} {outer : List Env} {A₀ : Around} {base h₀ : Heap} {L : Addr} {m : Str → Option Value} {s : Shared} {Q E : Value → Shared → Prop}
theorem useP (C : CP k f D o b) (hB : Below A₀ base outer h₀) (hF : Fr h₀ L s.heap m) (hK : (hd.heap_39 w.params).In h₀) (hN : News h₀ L s.heap news) (hT : Top hd.view_39 loose mean mg mb h₀) (hk : cs.kind = .function) (hdp : dp + k < recursionLimit) (hu : un + 8 * k < cLine)
    (hm : (D, o) ∈ news)
    (ret : ∀ (h' : Heap) (tk' : Nat), Fr h₀ L h' m → News h₀ L h' news → Q (.bool b) { s with heap := h', toks := tk' }) :
    wpAny (model prog w) (ktrTop dp un gd cn cs L a ccd cl outer) (call (.ref f) [.ref D]) Q E s := by
  refine C _ _ _ _ _ _ news _ _ _ _ _ _ _ _ _ _ _ _ _ _ _ _ _ hB hF hK (fun p hp => ?_) hT hk hdp hu (fun h' tk' F' N' => ret h' tk' F' fun p hp => N' p (List.mem_cons_of_mem _ hp))
  rcases List.mem_cons.mp hp with rfl | hp
  · exact hN _ hm
  · exact hN p hp
end
section
variable {prog : Program} {w : World} {A : Around} {E : Value → Shared → Prop} {s : Shared} {h₀ : Heap} {L : Addr} {m : Str → Option Value} {env : Env}
abbrev tupO (its : Array Value) (k : Nat) : Obj := { cls := .type "tuple", data := .seq its k }
def SrcU (prog : Program) (w : World) (A : Around) (h₀ : Heap) (L : Addr) (m : Str → Option Value) (env : Env) (ct elt : Expr) (x : Str) (scope : Scope) (cl : List (Str × Addr)) (Q : Value → Shared → Prop) (xv : Value) (s₁ : Shared) : Prop :=
  ∃ ax its k news, xv = .ref ax ∧ A.handled = none ∧ Fr h₀ L s₁.heap m ∧ News h₀ L s₁.heap news ∧ (ax, tupO its k) ∈ news ∧ its.size ≤ sizeLine ∧
    ∀ g, LCt.CompRestT prog w A h₀ L m env ct elt x scope cl { s₁ with heap := g } (fun nw => (ax, tupO its k) ∈ nw) (fun i v => its[i]? = some v) (LCg.FinE h₀ L m { s₁ with heap := g } Q) its.size 0 [] news
theorem ListComp_U3 {ct elt iter : Expr} {x : Str} {px : Pos} {scope : Scope} {cl : List (Str × Addr)} {pos : Pos} {Q : Value → Shared → Prop} (_F₀ : Fr h₀ L s.heap m)
    (hclos : closureFor scope env = pure cl) (hcell : ∀ y ∈ scope.names, y.2 ≠ .cell) (hkind : scope.kind = .function)
    (hnames : ∀ y ∈ scope.names, y.2 = .local → scope.names.lookup y.1 = some .local) (hx : scope.names.lookup x = some .local)
    (hs : ∀ x, foldedSetIterable iter env x = pure x)
    (h : wpAny (model prog w) A (eval iter env) (SrcU prog w A h₀ L m env ct elt x scope cl Q) E s) :
    wpAny (model prog w) A (eval (.ListComp elt [⟨.Name x px, iter, [ct], 0⟩] scope pos) env) Q E s := by
  rw [eval_ListComp]
  refine wpAny_comprehension_free (use := none) rfl hs hclos hkind hnames (wpAny_mono h (fun xv s₁ h₁ => ?_) fun _ _ e => e)
  obtain ⟨ax, its, k, news, rfl, hh, F, N, S, hsz, R⟩ := h₁
  have ht : s₁.heap.IsTuple ax its := ⟨_, (N _ S).1, rfl, _, rfl⟩
  have hlt : ax < s₁.heap.objs.size := Heap.lt_size (N _ S).1
  refine wpAny_pyIter_tuple ht ?_
  have up : ∀ b o, s₁.heap.get? b = some o → (s₁.heap.push { cls := .type "tuple_iterator", data := .fields #[.ref ax, .int 0 0] }).get? b = some o := fun b o e => Heap.get?_push_of_some _ e
  refine LCt.block_T (Walks.tuple hh s₁.heap.objs.size ax (Nat.ne_of_lt hlt) its) hsz (fun i h st => by obtain ⟨o, e, _⟩ := st.1; exact ⟨o, e⟩)
    (fun i h h' o nw st e e' _ N S => ⟨by obtain ⟨o', q, r⟩ := st.1; rw [e] at q; cases q; exact ⟨o, e', r⟩, ⟨_, (N _ S).1, rfl, _, rfl⟩⟩) hcell hkind hx
    ⟨⟨_, Heap.get?_push_size _ rfl, rfl, rfl⟩, ht.at fun o e => Heap.get?_push_of_some _ e⟩ (fun b hb => ?_)
    (F.keeps up) (N.grown up) (Nat.ne_of_lt F.ns.lt) (next_is_new F) (fun p hp => Nat.ne_of_lt (Heap.lt_size (N p hp).1)) S (R _) ?_
  · show b < (s₁.heap.push _).objs.size
    rw [Heap.size_push]
    rcases List.mem_cons.mp hb with rfl | hb
    · exact Nat.lt_succ_self _
    · rw [List.mem_singleton.mp hb]; exact Nat.lt_succ_of_lt hlt
  · intro D C h tk m' ys news' F' N' o1 hn hC₀ hD₀ hCL hDL hCD offC fin
    refine ⟨m', hn, fun h'' hs'' => fin D h'' tk (F'.change hs'' hCL hC₀) (fun p hp => ?_) o1⟩
    refine ⟨hs''.extBut _ _ ?_ (N' p hp).1, (N' p hp).2⟩
    rcases List.mem_cons.mp hp with rfl | hp
    · exact Ne.symm hCD
    · exact offC p hp
theorem SrcU.intro {ct elt : Expr} {x : Str} {scope : Scope} {cl : List (Str × Addr)} {Q : Value → Shared → Prop} {ax : Addr} {its : Array Value} {k n : Nat} {news : List (Addr × Obj)} {s₁ : Shared}
    (hh : A.handled = none) (F : Fr h₀ L s₁.heap m) (N : News h₀ L s₁.heap news) (hm : (ax, tupO its k) ∈ news) (hn : its.size = n) (hsz : n ≤ sizeLine)
    (h : ∀ g, LCt.CompRestT prog w A h₀ L m env ct elt x scope cl { s₁ with heap := g } (fun nw => (ax, tupO its k) ∈ nw) (fun i v => its[i]? = some v) (LCg.FinE h₀ L m { s₁ with heap := g } Q) n 0 [] news) :
    SrcU prog w A h₀ L m env ct elt x scope cl Q (.ref ax) s₁ := by
  subst hn; exact ⟨ax, its, k, news, rfl, hh, F, N, hm, hsz, h⟩
theorem compEnd1 {I C D : Addr} {s₁ : Shared} {oI oC oD : Obj} {S : List (Addr × Obj) → Prop} {rest : Value → List (Addr × Obj) → Prop} {y : Value} {h' : Heap} {tk : Nat} {news : List (Addr × Obj)}
    (F : Fr h₀ L h' m) (N : News h₀ L h' ((I, oI) :: (C, oC) :: (D, oD) :: news)) (off : LCg.Off3 I C D news) (hS : S news) (r : rest y news) :
    LCg.CompEnd h₀ L m s₁ I oI C oC D oD S rest y { s₁ with heap := h', toks := tk } := LCg.CompEnd.intro F N news (fun _ hp => hp) off hS r
end
structure Cnt (v : Int) : Prop where
  nn : 0 ≤ v
structure JoinMarkN (x : Str) : Prop where
  mark :: (one : True)
/-- a statement whose ways meet: one local name holds an int not below nought -/
def JoinN (h₀ : Heap) (L : Addr) (m : Str → Option Value) (news : List (Addr × Obj)) (s : Shared) (x : Str) (f : Flow) (s' : Shared) : Prop :=
  f = .next ∧ ∃ (v : Int) (t : Tok) (h' : Heap) (tk' : Nat), 0 ≤ v ∧ s' = { s with heap := h', toks := tk' } ∧ Fr h₀ L h' (fun y => if y = x then some (.int v t) else m y) ∧ News h₀ L h' news
section
variable {M : Model} {A : Around} {env : Env} {E : Value → Shared → Prop} {s : Shared} {h₀ h' : Heap} {L : Addr} {m : Str → Option Value} {news news' : List (Addr × Obj)} {tk' : Nat} {t : Tok}
theorem joinN (x : Str) {st : Stmt} {Q : Flow → Shared → Prop} (_ : Fr h₀ L s.heap m) (_ : News h₀ L s.heap news)
    (H1 : JoinMarkN x → wpAny M A (exec st env) (fun f s' => JoinN h₀ L m news s x f s') E s)
    (H2 : ∀ (v : Int) (t : Tok) (h' : Heap) (tk' : Nat), Cnt v → Fr h₀ L h' (fun y => if y = x then some (.int v t) else m y) → News h₀ L h' news → Q .next { s with heap := h', toks := tk' }) : wpAny M A (exec st env) Q E s := by
  refine wpAny_mono (H1 ⟨trivial⟩) (fun f s' h => ?_) fun _ _ h => h
  obtain ⟨rfl, v, t, h', tk', hv, rfl, F, N⟩ := h
  exact H2 v t h' tk' ⟨hv⟩ F N
theorem joinN_end {x : Str} {v : Int} (e : 0 ≤ v) (F : Fr h₀ L h' (fun y => if y = x then some (.int v t) else m y)) (N : News h₀ L h' news') (hs : ∀ p ∈ news, p ∈ news') : JoinN h₀ L m news s x .next { s with heap := h', toks := tk' } :=
  ⟨rfl, v, t, h', tk', e, rfl, F, fun p hp => N p (hs p hp)⟩
theorem my_store_mod {x : Str} {a n : Int} {Q : Unit → Shared → Prop} (hn : 29 ≤ n) (H : ∀ v, 0 ≤ v → v < n → wpAny M A (storeName env x (.int v t)) Q E s) : wpAny M A (storeName env x (.int (a.fmod n) t)) Q E s :=
  H _ (by rw [Int.fmod_eq_emod_of_nonneg _ (by omega)]; exact Int.emod_nonneg _ (by omega)) (by rw [Int.fmod_eq_emod_of_nonneg _ (by omega)]; exact Int.emod_lt_of_pos _ (by omega))
end
section
variable {prog : Program} {w : World} {A : Around} {E : Value → Shared → Prop} {s : Shared} {h₀ : Heap} {L a : Addr} {m : Str → Option Value} {K : Frag} {Q : Value → Shared → Prop}
theorem topItemN {value slice : Expr} {l : List Value} {dd : Option Addr} {n : Nat} {sl : Array (Option Value)} {k : Int} {u : Tok} {ns : List Int} (F : Fr h₀ L s.heap m) (X₀ : K.In h₀) (hl : K.lookup a = some ⟨.type "tuple", dd, .seq l.toArray n, sl⟩) (hi : IntsAre l ns)
    (h0 : 0 ≤ k) (h1 : k < ns.length) (hfit : k < 2 ^ 63) (hall : ns.all (fun v => decide (0 ≤ v)) = true)
    (hs : subscripted slice false (.ref a) (.int k u) = operate [.ref a, .int k u] (getItem (.ref a) (.int k u))) (hg : ∀ r, letTemporaryGo value (.ref a) r = pure ()) (h : ∀ x t, 0 ≤ x → Q (.int x t) s) :
    wpAny (model prog w) A (subscriptTail value slice (.ref a) (.int k u)) Q E s := by
  refine item_tuple_ints (tupK (X₀.keeps F.keep) hl) (by simpa using hi) h0 h1 hfit (fun t => h _ t ?_) hs hg
  have h2 : k.toNat < ns.length := by omega
  have e : ns.getD k.toNat 0 = ns[k.toNat] := by simp [List.getD, h2]
  rw [e]
  exact of_decide_eq_true (List.all_eq_true.mp hall _ (List.getElem_mem h2))
end
theorem any2 {a b x : Int} (h : [a, b].any (· == x) = true) : x = a ∨ x = b := by
  simp only [List.any_cons, List.any_nil, Bool.or_false, Bool.or_eq_true, beq_iff_eq] at h; omega
section
variable {prog : Program} {w : World} {A : Around} {E : Value → Shared → Prop} {s : Shared} {h₀ : Heap} {L a : Addr} {m : Str → Option Value} {news : List (Addr × Obj)} {Q : Value → Shared → Prop}
theorem inNew {l : List Value} {k : Nat} {x : Int} {u : Tok} {ns : List Int} (N : News h₀ L s.heap news) (hm : (a, ({ cls := .type "tuple", data := .seq l.toArray k } : Obj)) ∈ news) (hi : IntsAre l ns)
    (h : Q (.bool (ns.any (· == x))) s) : wpAny (model prog w) A (compareOp .In (.int x u) (.ref a)) Q E s := in_tuple_ints (News.isTup N hm) (by simpa using hi) h
end
structure JoinMarkU : Prop where
  mark :: (one : True)
/-- a statement whose ways meet: it ends plainly and stores nothing -/
def JoinU (h₀ : Heap) (L : Addr) (m : Str → Option Value) (news : List (Addr × Obj)) (s : Shared) (f : Flow) (s' : Shared) : Prop :=
  f = .next ∧ ∃ (h' : Heap) (tk' : Nat), s' = { s with heap := h', toks := tk' } ∧ Fr h₀ L h' m ∧ News h₀ L h' news
section
variable {M : Model} {A : Around} {env : Env} {E : Value → Shared → Prop} {s : Shared} {h₀ h' : Heap} {L : Addr} {m : Str → Option Value} {news news' : List (Addr × Obj)} {tk' : Nat}
theorem joinU {st : Stmt} {Q : Flow → Shared → Prop} (_ : Fr h₀ L s.heap m) (_ : News h₀ L s.heap news)
    (H1 : JoinMarkU → wpAny M A (exec st env) (fun f s' => JoinU h₀ L m news s f s') E s)
    (H2 : ∀ (h' : Heap) (tk' : Nat), Fr h₀ L h' m → News h₀ L h' news → Q .next { s with heap := h', toks := tk' }) : wpAny M A (exec st env) Q E s := by
  refine wpAny_mono (H1 ⟨trivial⟩) (fun f s' h => ?_) fun _ _ h => h
  obtain ⟨rfl, h', tk', rfl, F, N⟩ := h
  exact H2 h' tk' F N
theorem joinU_end (F : Fr h₀ L h' m) (N : News h₀ L h' news') (hs : ∀ p ∈ news, p ∈ news') : JoinU h₀ L m news s .next { s with heap := h', toks := tk' } :=
  ⟨rfl, h', tk', rfl, F, fun p hp => N p (hs p hp)⟩
end
end Mine
/-! the walk -/
set_option rowWalk.seconds 0
set_option maxHeartbeats 4000000
set_option pp.deepTerms false
set_option pp.deepTerms.threshold 6
set_option pp.maxSteps 3000
namespace Mine
theorem fill9 (w : World) (h : Heap) (_ : (hd.heap_39 w.params).In h) (_ : PySem.Challenge.rw_vp0005_01 = PySem.Challenge.rw_vp0005_01) : True := by
  rename_i x y; revert x y; k_fill; intro _ _; trivial
local macro_rules | `(tactic| walk_at "mine_eq") => `(tactic| first | rfl | (law_clear; simp only [Int.fdiv_eq_ediv_of_nonneg, Int.fmod_eq_emod_of_nonneg, Int.reduceLE]; first | rfl | (simp [*]; done)) | trace_state)
local macro_rules | `(tactic| walk_at "compareOp In int ref") => `(tactic| (k_here; k_dflt (refine' inTop ?F ?X ?l ?i ?_; (case F => k_asm); (case X => k_asm); (case l => k_is); (case i => (repeat constructor)); k_whole)))
local macro_rules | `(tactic| walk_at "execs cons") => `(tactic| (k_here; with_reducible refine my_execs_cons ?_; intro tk; try dsimp only))
local macro_rules | `(tactic| walk_at "execs nil") => `(tactic| (k_here; with_reducible refine my_execs_nil ?_; intro tk; try dsimp only))
local macro_rules | `(tactic| walk_at "eval Call") => `(tactic| (k_here; (with_reducible show wpAny _ _ (eval (Expr.Call (Expr.Name _ _) _ [] _) _) _ _ _); k_dflt (refine Call_ ?_)))
local macro_rules | `(tactic| walk_at "ite") => `(tactic| (k_here; k_openite; first
  | (with_reducible refine split_not ?_)
  | refine ite_pos (by with_reducible assumption) ?_
  | refine ite_neg (by with_reducible assumption) ?_
  | refine ite_isFalse (by with_reducible assumption) ?_
  | refine ite_pos (by walk_at "mine_dec") ?_
  | refine ite_neg (by walk_at "mine_dec") ?_
  | (with_reducible refine split_ine ?_ ?_ <;> intro _)
  | (with_reducible refine split_ieq ?_ ?_ <;> intro _)
  | (with_reducible refine split_dec ?_ ?_ <;> intro _)
  | (with_reducible refine split_bool ?_ ?_ <;> intro _)))
local macro_rules | `(tactic| walk_at "JoinI") => `(tactic| k_dflt (first
  | (refine' joinI_end1 ?j1 ?j2 ?j3 ?j4; (case j2 => k_asm); (case j3 => k_asm); (case j4 => kcj_all); (case j1 => walk_at "mine_eq"))
  | (refine' joinI_end0 ?j1 ?jm ?j2 ?j3 ?j4; (case j2 => k_asm); (case jm => with_unfolding_all rfl); (case j3 => k_asm); (case j4 => kcj_all); (case j1 => walk_at "mine_eq"))))
local macro_rules | `(tactic| walk_at "mine_all") => `(tactic| (intro p9 hp9; (repeat (with_reducible (first | exact hp9 | refine List.mem_cons_of_mem _ ?_ | refine List.mem_append_right _ ?_)))))
local macro_rules | `(tactic| walk_at "JoinE") => `(tactic| k_dflt (refine' joinE_end ?j1 ?j3 ?j4 ?j5; (case j3 => k_asm); (case j4 => k_asm); (case j5 => first | (walk_at "mine_all"; done) | kcj_all); (case j1 => walk_at "mine_eq")))
local macro_rules | `(tactic| walk_at "subscriptTail Name Name ref int") => `(tactic| (k_here; (with_reducible show wpAny _ _ (subscriptTail _ _ (Value.ref 142) (Value.int _ _)) _ _ _); k_dflt (refine' topItem ?F ?X ?l ?i ?ka ?kb ?kc ?kd ?_ (by with_unfolding_all rfl) (by intro _; with_unfolding_all rfl); (case F => k_asm); (case X => k_asm); (case l => k_is); (case i => (repeat constructor)); (case ka => law_clear; omega); (case kb => law_clear; simp only [List.length_cons, List.length_nil]; omega); (case kc => law_clear; omega); (case kd => exact befD (by law_clear; omega) (by law_clear; omega)); k_whole); intro t9))
local macro_rules | `(tactic| walk_at "mine_enter") => `(tactic| (refine wpAny_call ?_; k_dflt (refine' code_def ?k1 ?k2 ?k3 ?k4 ?k5 ?kA ?kF ?kK ?k6 ?k7 ?k8 ?k9 ?kB ?_ ?c2 ?c3 ?c4 ?c5; (case kA => exact rfl); (case kF => exact rfl); (case kK => exact rfl); (case k1 => k_asm); (case k2 => k_asm); (case k3 => k_asm); (case k4 => k_asm); (case k5 => k_asm); (case k6 => k_is); (case k7 => k_is); (case k8 => ktr_room); (case k9 => exact BindsTo.of_eq rfl); (case c5 => decide); (case kB => exact locs rfl); (case c2 => exact rfl); (case c3 => exact rfl); (case c4 => exact rfl); k_whole; intro g' L' h' FG' F' N' B' X' T'; (try dsimp only); (try k_lift B'); (try k_fold))))
local macro_rules | `(tactic| walk_at "inplaceOp Add ref ref") => `(tactic| (k_here; (with_reducible show wpAny _ _ (inplaceOp _ (Value.ref _) (Value.ref _)) _ _ _); k_dflt (refine' iadd_U ?F ?N ?U ?b ?e ?z ?_; (case F => k_asm); (case N => k_asm); (case U => k_updF); (case b => first | exact List.Mem.head _ | k_mem); (case e => exact rfl); (case z => exact Nat.le_of_ble_eq_true rfl); k_whole); intro h' n' F' N'; (try k_sweep); (try dsimp only)))
local macro_rules | `(tactic| walk_at "subscriptTail Name Name ref int") => `(tactic| (k_here; (fail_if_success (with_reducible show wpAny _ _ (subscriptTail _ _ (Value.ref 142) (Value.int _ _)) _ _ _)); (with_reducible show wpAny _ _ (subscriptTail _ _ (Value.ref _) (Value.int (OfNat.ofNat _) _)) _ _ _); k_dflt (refine' itemL ?l ?a ?b ?x ?s ?g ?_; (case l => kmk_list); (case a => decide); (case b => decide); (case x => exact rfl); (case s => with_unfolding_all rfl); (case g => (intro _; with_unfolding_all rfl)))))
local macro_rules | `(tactic| walk_at "subscriptTail Subscript Name Name Constant ref int") => `(tactic| (k_here; (with_reducible show wpAny _ _ (subscriptTail (Expr.Subscript _ _ _) _ (Value.ref _) (Value.int (OfNat.ofNat _) _)) _ _ _); k_dflt (refine' itemT ?l ?a ?b ?x ?s ?_; (case l => exact News.isTup (by k_asm) (by k_mem)); (case a => decide); (case b => decide); (case x => exact rfl); (case s => with_unfolding_all rfl))))
local macro_rules | `(tactic| walk_at "subscriptTail Name Slice ref ref") => `(tactic| (k_here; (with_reducible show wpAny _ _ (subscriptTail _ (PySem.Expr.Slice _ _ none _) (Value.ref _) (Value.ref _)) _ _ _); k_dflt (refine' sliceTake ?F ?N ?l ?b ?e ?z ?s ?t ?_; (case F => k_asm); (case N => k_asm); (case l => kmk_list); (case b => assumption); (case e => first | (dsimp only; exact rfl) | exact rfl); (case z => exact Nat.le_of_ble_eq_true rfl); (case s => with_unfolding_all rfl); (case t => (intro _; with_unfolding_all rfl)); k_whole); intro D' h' F' N' l1; (try k_lt l1); (try k_sweep)))
local macro_rules | `(tactic| walk_at "mine_lt") => `(tactic| (with_reducible (first | assumption | (apply And.right; first | assumption | (apply And.right; first | assumption | (apply And.right; first | assumption | (apply And.right; first | assumption | (apply And.right; first | assumption | (apply And.right; first | assumption | (apply And.right; first | assumption | (apply And.right; first | assumption | (apply And.right; first | assumption | (apply And.right; first | assumption | (apply And.right; first | assumption | (apply And.right; first | assumption | (apply And.right; first | assumption | (apply And.right; first | assumption | (apply And.right; first | assumption | (apply And.right; first | assumption | (apply And.right; first | assumption | (apply And.right; first | assumption | (apply And.right; first | assumption | (apply And.right; first | assumption | (apply And.right; first | assumption | (apply And.right; first | assumption | (apply And.right; first | assumption | (apply And.right; first | assumption | (apply And.right; first | assumption | (apply And.right; first | assumption | (apply And.right; first | assumption | (apply And.right; first | assumption | (apply And.right; first | assumption | (apply And.right; first | assumption | (apply And.right; first | assumption | (apply And.right; first | assumption | (apply And.right; first | assumption | (apply And.right; assumption)))))))))))))))))))))))))))))))))))))
section
local macro_rules | `(tactic| walk_at "mine_eq") => `(tactic| (law_clear; simp only [Int.fdiv_eq_ediv_of_nonneg, Int.fmod_eq_emod_of_nonneg, Int.reduceLE] at *; unfold isleapF; simp [*]))
theorem isleap_c (y : Int) (ty : Tok) : CX 1 21 [.int y ty] (RB (isleapF y)) := by
  unfold CX
  intro prog w loose mean mg mb news dp un gd cn cs a ccd cl outer A₀ base h₀ L m s Q E hB hF hK hN hT hcs hdp hu hret
  refine wpAny_call ?_
  k_dflt cell_enter
  k_steps
  all_goals (refine' endB (Q := Q) (s := s) hret ?e1 ?e2 ?e3 ?e4; (case e2 => k_asm); (case e3 => k_asm); (case e4 => walk_at "mine_all"); (case e1 => walk_at "mine_eq"))
end
local macro_rules | `(tactic| walk_at "call ref") => `(tactic| (k_here; (with_reducible show wpAny _ _ (call (Value.ref 21) _) _ _ _); k_dflt (refine' useB (isleap_c _ _ ) ?k1 ?k2 ?k3 ?k4 ?k5 ?kK ?kd ?ku ?_; (case k1 => k_asm); (case k2 => k_asm); (case k3 => k_asm); (case k4 => k_asm); (case k5 => k_asm); (case kK => first | exact rfl | assumption); (case kd => ktr_room); (case ku => ktr_units); k_whole; intro h9 tk9 F9 N9; (try k_sweep); (try dsimp only); (try k_fold))))
local macro_rules | `(tactic| walk_at "mine_nothing") => `(tactic| fail)
section
local macro_rules | `(tactic| walk_at "mine_dec") => `(tactic| ((try simp only [decide_eq_true_eq, decide_eq_false_iff_not, Bool.not_eq_true', Bool.not_eq_false', Bool.not_eq_true, Bool.not_eq_false, Decidable.not_not, Int.not_le, Int.not_lt]); omega))
theorem midnight_c (j : Int) (tj : Tok) (hj : 0 < j) : CX 1 28 [.int j tj] (RI (j)) := by
  unfold CX
  intro prog w loose mean mg mb news dp un gd cn cs a ccd cl outer A₀ base h₀ L m s Q E hB hF hK hN hT hcs hdp hu hret
  refine wpAny_call ?_
  k_dflt cell_enter
  k_steps
  all_goals (refine' endI (Q := Q) (s := s) hret ?e1 ?e2 ?e3 ?e4; (case e2 => k_asm); (case e3 => k_asm); (case e4 => walk_at "mine_all"); (case e1 => walk_at "mine_eq"))
end
local macro_rules | `(tactic| walk_at "call ref") => `(tactic| (k_here; (with_reducible show wpAny _ _ (call (Value.ref 28) _) _ _ _); k_dflt (refine' useI (midnight_c _ _ ?kp0) ?k1 ?k2 ?k3 ?k4 ?k5 ?kK ?kd ?ku ?_; (case k1 => k_asm); (case k2 => k_asm); (case k3 => k_asm); (case k4 => k_asm); (case k5 => k_asm); (case kK => first | exact rfl | assumption); (case kp0 => (first | assumption | omega)); (case kd => ktr_room); (case ku => ktr_units); k_whole; intro t9 h9 tk9 F9 N9; (try k_sweep); (try dsimp only); (try k_fold))))
local macro_rules | `(tactic| walk_at "mine_nothing") => `(tactic| fail)
local macro_rules | `(tactic| walk_at "mine_nothing") => `(tactic| fail)
section
local macro_rules | `(tactic| walk_at "mine_dec") => `(tactic| ((try simp only [decide_eq_true_eq, decide_eq_false_iff_not, Bool.not_eq_true', Bool.not_eq_false', Bool.not_eq_true, Bool.not_eq_false, Decidable.not_not, Int.not_le, Int.not_lt]); (rename LegalG _ _ _ => hl9); first | exact legal_0 hl9 | exact legal_a hl9 (by with_reducible assumption) (by with_reducible assumption) | exact legal_b hl9 (by with_reducible assumption) (by with_reducible assumption) | exact legal_c' hl9 (by with_reducible assumption) (by with_reducible assumption) | exact legal_d hl9 (by with_reducible assumption) (by with_reducible assumption)))
theorem legal_c (y : Int) (ty : Tok) (mo : Int) (tmo : Tok) (d : Int) (td : Tok) (hl : LegalG y mo d) : CX 2 36 [.int y ty, .int mo tmo, .int d td] (RB (true)) := by
  unfold CX
  intro prog w loose mean mg mb news dp un gd cn cs a ccd cl outer A₀ base h₀ L m s Q E hB hF hK hN hT hcs hdp hu hret
  refine wpAny_call ?_
  k_dflt cell_enter
  k_steps
  all_goals (refine' endB (Q := Q) (s := s) hret ?e1 ?e2 ?e3 ?e4; (case e2 => k_asm); (case e3 => k_asm); (case e4 => walk_at "mine_all"); (case e1 => walk_at "mine_eq"))
end
local macro_rules | `(tactic| walk_at "call ref") => `(tactic| (k_here; (with_reducible show wpAny _ _ (call (Value.ref 36) _) _ _ _); k_dflt (refine' useB (legal_c _ _ _ _ _ _ ?kp0) ?k1 ?k2 ?k3 ?k4 ?k5 ?kK ?kd ?ku ?_; (case k1 => k_asm); (case k2 => k_asm); (case k3 => k_asm); (case k4 => k_asm); (case k5 => k_asm); (case kK => first | exact rfl | assumption); (case kp0 => assumption); (case kd => ktr_room); (case ku => ktr_units); k_whole; intro h9 tk9 F9 N9; (try k_sweep); (try dsimp only); (try k_fold))))
local macro_rules | `(tactic| walk_at "mine_nothing") => `(tactic| fail)
local macro_rules | `(tactic| walk_at "mine_nothing") => `(tactic| fail)
section
local macro_rules | `(tactic| walk_at "mine_eq") => `(tactic| (law_clear; simp only [Int.fdiv_eq_ediv_of_nonneg, Int.fmod_eq_emod_of_nonneg, Int.reduceLE] at *; unfold jdG; simp [*]))
theorem to_jdg_c (y : Int) (ty : Tok) (mo : Int) (tmo : Tok) (d : Int) (td : Tok) (hl : LegalG y mo d) : CX 3 43 [.int y ty, .int mo tmo, .int d td] (RI (jdG y mo d)) := by
  unfold CX
  intro prog w loose mean mg mb news dp un gd cn cs a ccd cl outer A₀ base h₀ L m s Q E hB hF hK hN hT hcs hdp hu hret
  refine wpAny_call ?_
  k_dflt cell_enter
  k_steps
  all_goals (refine' endI (Q := Q) (s := s) hret ?e1 ?e2 ?e3 ?e4; (case e2 => k_asm); (case e3 => k_asm); (case e4 => walk_at "mine_all"); (case e1 => walk_at "mine_eq"))
end
local macro_rules | `(tactic| walk_at "call ref") => `(tactic| (k_here; (with_reducible show wpAny _ _ (call (Value.ref 43) _) _ _ _); k_dflt (refine' useI (to_jdg_c _ _ _ _ _ _ ?kp0) ?k1 ?k2 ?k3 ?k4 ?k5 ?kK ?kd ?ku ?_; (case k1 => k_asm); (case k2 => k_asm); (case k3 => k_asm); (case k4 => k_asm); (case k5 => k_asm); (case kK => first | exact rfl | assumption); (case kp0 => (first | assumption | exact legal_one _ _)); (case kd => ktr_room); (case ku => ktr_units); k_whole; intro t9 h9 tk9 F9 N9; (try k_sweep); (try dsimp only); (try k_fold))))
local macro_rules | `(tactic| walk_at "mine_nothing") => `(tactic| fail)
section
local macro_rules | `(tactic| walk_at "mine_eq") => `(tactic| (first | with_reducible rfl | exact gY_1 (by assumption) | exact gY_2 (by assumption) | exact gY_3 (by assumption) (by assumption) | exact gAdj_1 (by assumption) | exact gAdj_2 (by assumption) (by with_reducible assumption) | exact gAdj_3 (by assumption) (by with_reducible assumption) | exact (rfl : gM _ = _) | exact (rfl : gD _ = _)))
theorem from_jdg_c (n : Int) (tn : Tok) : CX 4 50 [.int n tn] (R3 (gY n) (gM n) (gD n)) := by
  unfold CX
  intro prog w loose mean mg mb news dp un gd cn cs a ccd cl outer A₀ base h₀ L m s Q E hB hF hK hN hT hcs hdp hu hret
  k_with_none
  k_with "exec If UnaryOp cons nil" => (k_here; (fail_if_success (rename JoinMark _ _ => jm9)); k_dflt (refine' joinI (Str.ofString "year") (gY n) ?ja ?jb ?_ ?_; (case ja => k_asm); (case jb => k_asm)); (all_goals (first | (intro (jm9 : JoinMark _ _); k_fold) | (intro t9 h9 tk9 F9 N9; (try k_sweep); (try dsimp only); (try k_fold)))))
  k_with "exec If Compare cons cons" => (k_here; (fail_if_success (rename JoinMark _ _ => jm9)); k_dflt (refine' joinI (Str.ofString "leap_adj") (gAdj n) ?ja ?jb ?_ ?_; (case ja => k_asm); (case jb => k_asm)); (all_goals (first | (intro (jm9 : JoinMark _ _); k_fold) | (intro t9 h9 tk9 F9 N9; (try k_sweep); (try dsimp only); (try k_fold)))))
  refine wpAny_call ?_
  k_dflt cell_enter
  k_steps
  all_goals (refine' end3 (Q := Q) (s := s) hret ?e1 ?ea ?eb ?e2 ?e3 ?em ?e4 ?e5; (case e2 => k_asm); (case e3 => k_asm); (case em => first | exact List.Mem.head _ | k_mem); (case e4 => walk_at "mine_all"); (case e5 => first | walk_at "mine_lt" | exact allLt_sub2 (by assumption) (by walk_at "mine_all") | exact allLt_sub (by assumption) (by kcj_all) | exact And.right (by assumption) | exact And.right (And.right (by assumption)) | exact And.right (And.right (And.right (by assumption))) | walk_at "mine_lt" | kcu_lt); (case e1 => walk_at "mine_eq"); (case ea => walk_at "mine_eq"); (case eb => walk_at "mine_eq"))
end
local macro_rules | `(tactic| walk_at "call ref") => `(tactic| (k_here; (with_reducible show wpAny _ _ (call (Value.ref 50) _) _ _ _); k_dflt (refine' use3 (from_jdg_c _ _ ) ?k1 ?k2 ?k3 ?k4 ?k5 ?kK ?kd ?ku ?_; (case k1 => k_asm); (case k2 => k_asm); (case k3 => k_asm); (case k4 => k_asm); (case k5 => k_asm); (case kK => first | exact rfl | assumption); (case kd => ktr_room); (case ku => ktr_units); k_whole; intro D9 t19 t29 t39 c9 h9 tk9 F9 N9 l9; (try k_lt l9); (try k_sweep); (try dsimp only); (try k_fold))))
local macro_rules | `(tactic| walk_at "mine_nothing") => `(tactic| fail)
section
local macro_rules | `(tactic| walk_at "mine_eq") => `(tactic| (law_clear; (try simp only [Int.fdiv_eq_ediv_of_nonneg, Int.fmod_eq_emod_of_nonneg, Int.reduceLE] at *); (try simp only [leapF]); first | with_reducible rfl | omega | ((repeat' split) <;> first | with_reducible rfl | omega | (simp_all; done) | (simp_all; omega))))
theorem leap_c (y : Int) (ty : Tok) : CX 1 57 [.int y ty] (RB (leapF y)) := by
  unfold CX
  intro prog w loose mean mg mb news dp un gd cn cs a ccd cl outer A₀ base h₀ L m s Q E hB hF hK hN hT hcs hdp hu hret
  refine wpAny_call ?_
  k_dflt cell_enter
  k_steps
  all_goals (refine' endB (Q := Q) (s := s) hret ?e1 ?e2 ?e3 ?e4; (case e2 => k_asm); (case e3 => k_asm); (case e4 => walk_at "mine_all"); (case e1 => walk_at "mine_eq"))
end
local macro_rules | `(tactic| walk_at "call ref") => `(tactic| (k_here; (with_reducible show wpAny _ _ (call (Value.ref 57) _) _ _ _); k_dflt (refine' useB (leap_c _ _ ) ?k1 ?k2 ?k3 ?k4 ?k5 ?kK ?kd ?ku ?_; (case k1 => k_asm); (case k2 => k_asm); (case k3 => k_asm); (case k4 => k_asm); (case k5 => k_asm); (case kK => first | exact rfl | assumption); (case kd => ktr_room); (case ku => ktr_units); k_whole; intro h9 tk9 F9 N9; (try k_sweep); (try dsimp only); (try k_fold))))
local macro_rules | `(tactic| walk_at "mine_nothing") => `(tactic| fail)
section
local macro_rules | `(tactic| walk_at "mine_eq") => `(tactic| (law_clear; (try simp only [Int.fdiv_eq_ediv_of_nonneg, Int.fmod_eq_emod_of_nonneg, Int.reduceLE] at *); (try simp only [ymF]); first | with_reducible rfl | omega | ((repeat' split) <;> first | with_reducible rfl | omega | (simp_all; done) | (simp_all; omega))))
theorem year_months_c (y : Int) (ty : Tok) : CX 2 64 [.int y ty] (RI (ymF y)) := by
  unfold CX
  intro prog w loose mean mg mb news dp un gd cn cs a ccd cl outer A₀ base h₀ L m s Q E hB hF hK hN hT hcs hdp hu hret
  refine wpAny_call ?_
  k_dflt cell_enter
  k_steps
  all_goals (refine' endI (Q := Q) (s := s) hret ?e1 ?e2 ?e3 ?e4; (case e2 => k_asm); (case e3 => k_asm); (case e4 => walk_at "mine_all"); (case e1 => walk_at "mine_eq"))
end
local macro_rules | `(tactic| walk_at "call ref") => `(tactic| (k_here; (with_reducible show wpAny _ _ (call (Value.ref 64) _) _ _ _); k_dflt (refine' useI (year_months_c _ _ ) ?k1 ?k2 ?k3 ?k4 ?k5 ?kK ?kd ?ku ?_; (case k1 => k_asm); (case k2 => k_asm); (case k3 => k_asm); (case k4 => k_asm); (case k5 => k_asm); (case kK => first | exact rfl | assumption); (case kd => ktr_room); (case ku => ktr_units); k_whole; intro t9 h9 tk9 F9 N9; (try k_sweep); (try dsimp only); (try k_fold))))
local macro_rules | `(tactic| walk_at "mine_nothing") => `(tactic| fail)
section
local macro_rules | `(tactic| walk_at "mine_eq") => `(tactic| (law_clear; (try simp only [Int.fdiv_eq_ediv_of_nonneg, Int.fmod_eq_emod_of_nonneg, Int.reduceLE] at *); (try simp only [d1F, monF]); first | with_reducible rfl | omega | ((repeat' split) <;> first | with_reducible rfl | omega | (simp_all; done) | (simp_all; omega))))
theorem delay_1_c (y : Int) (ty : Tok) : CX 1 71 [.int y ty] (RI (d1F y)) := by
  unfold CX
  intro prog w loose mean mg mb news dp un gd cn cs a ccd cl outer A₀ base h₀ L m s Q E hB hF hK hN hT hcs hdp hu hret
  refine wpAny_call ?_
  k_dflt cell_enter
  k_steps
  all_goals (refine' endI (Q := Q) (s := s) hret ?e1 ?e2 ?e3 ?e4; (case e2 => k_asm); (case e3 => k_asm); (case e4 => walk_at "mine_all"); (case e1 => walk_at "mine_eq"))
end
local macro_rules | `(tactic| walk_at "call ref") => `(tactic| (k_here; (with_reducible show wpAny _ _ (call (Value.ref 71) _) _ _ _); k_dflt (refine' useI (delay_1_c _ _ ) ?k1 ?k2 ?k3 ?k4 ?k5 ?kK ?kd ?ku ?_; (case k1 => k_asm); (case k2 => k_asm); (case k3 => k_asm); (case k4 => k_asm); (case k5 => k_asm); (case kK => first | exact rfl | assumption); (case kd => ktr_room); (case ku => ktr_units); k_whole; intro t9 h9 tk9 F9 N9; (try k_sweep); (try dsimp only); (try k_fold))))
local macro_rules | `(tactic| walk_at "mine_nothing") => `(tactic| fail)
section
local macro_rules | `(tactic| walk_at "mine_eq") => `(tactic| (law_clear; (try simp only [Int.fdiv_eq_ediv_of_nonneg, Int.fmod_eq_emod_of_nonneg, Int.reduceLE] at *); (try simp only [d2F]); first | with_reducible rfl | omega | ((repeat' split) <;> first | with_reducible rfl | omega | (simp_all; done) | (simp_all; omega))))
theorem delay_2_c (y : Int) (ty : Tok) : CX 2 78 [.int y ty] (RI (d2F y)) := by
  unfold CX
  intro prog w loose mean mg mb news dp un gd cn cs a ccd cl outer A₀ base h₀ L m s Q E hB hF hK hN hT hcs hdp hu hret
  refine wpAny_call ?_
  k_dflt cell_enter
  k_steps
  all_goals (refine' endI (Q := Q) (s := s) hret ?e1 ?e2 ?e3 ?e4; (case e2 => k_asm); (case e3 => k_asm); (case e4 => walk_at "mine_all"); (case e1 => walk_at "mine_eq"))
end
local macro_rules | `(tactic| walk_at "call ref") => `(tactic| (k_here; (with_reducible show wpAny _ _ (call (Value.ref 78) _) _ _ _); k_dflt (refine' useI (delay_2_c _ _ ) ?k1 ?k2 ?k3 ?k4 ?k5 ?kK ?kd ?ku ?_; (case k1 => k_asm); (case k2 => k_asm); (case k3 => k_asm); (case k4 => k_asm); (case k5 => k_asm); (case kK => first | exact rfl | assumption); (case kd => ktr_room); (case ku => ktr_units); k_whole; intro t9 h9 tk9 F9 N9; (try k_sweep); (try dsimp only); (try k_fold))))
local macro_rules | `(tactic| walk_at "mine_nothing") => `(tactic| fail)
section
local macro_rules | `(tactic| walk_at "mine_eq") => `(tactic| (law_clear; (try simp only [Int.fdiv_eq_ediv_of_nonneg, Int.fmod_eq_emod_of_nonneg, Int.reduceLE] at *); (try simp only [bsF]); first | with_reducible rfl | omega | ((repeat' split) <;> first | with_reducible rfl | omega | (simp_all; done) | (simp_all; omega))))
theorem to_jdh7_c (y : Int) (ty : Tok) (t7 : Tok) (d : Int) (td : Tok) (hy : 0 ≤ y) (hd1 : 1 ≤ d) : CX 4 106 [.int y ty, .int 7 t7, .int d td] (RI (bsF y d)) := by
  unfold CX
  intro prog w loose mean mg mb news dp un gd cn cs a ccd cl outer A₀ base h₀ L m s Q E hB hF hK hN hT hcs hdp hu hret
  k_with_none
  have hps := bsF_pos hy hd1; unfold bsF at hps
  refine wpAny_call ?_
  k_dflt cell_enter
  k_steps
  all_goals (refine' endI (Q := Q) (s := s) hret ?e1 ?e2 ?e3 ?e4; (case e2 => k_asm); (case e3 => k_asm); (case e4 => walk_at "mine_all"); (case e1 => walk_at "mine_eq"))
end
local macro_rules | `(tactic| walk_at "call ref") => `(tactic| (k_here; (with_reducible show wpAny _ _ (call (Value.ref 106) _) _ _ _); k_dflt (refine' useI (to_jdh7_c _ _ _ _ _ ?kp0 ?kp1) ?k1 ?k2 ?k3 ?k4 ?k5 ?kK ?kd ?ku ?_; (case k1 => k_asm); (case k2 => k_asm); (case k3 => k_asm); (case k4 => k_asm); (case k5 => k_asm); (case kK => first | exact rfl | assumption); (case kp0 => omega); (case kp1 => omega); (case kd => ktr_room); (case ku => ktr_units); k_whole; intro t9 h9 tk9 F9 N9; (try k_sweep); (try dsimp only); (try k_fold))))
local macro_rules | `(tactic| walk_at "mine_nothing") => `(tactic| fail)
section
local macro_rules | `(tactic| walk_at "mine_eq") => `(tactic| (first | with_reducible rfl | exact (rfl : _ = _)))
theorem year_days_c (y : Int) (ty : Tok) (hy : 0 ≤ y) : CX 5 85 [.int y ty] (RI (ydF y)) := by
  unfold CX
  intro prog w loose mean mg mb news dp un gd cn cs a ccd cl outer A₀ base h₀ L m s Q E hB hF hK hN hT hcs hdp hu hret
  refine wpAny_call ?_
  k_dflt cell_enter
  k_steps
  all_goals (refine' endI (Q := Q) (s := s) hret ?e1 ?e2 ?e3 ?e4; (case e2 => k_asm); (case e3 => k_asm); (case e4 => walk_at "mine_all"); (case e1 => walk_at "mine_eq"))
end
local macro_rules | `(tactic| walk_at "call ref") => `(tactic| (k_here; (with_reducible show wpAny _ _ (call (Value.ref 85) _) _ _ _); k_dflt (refine' useI (year_days_c _ _ ?kp0) ?k1 ?k2 ?k3 ?k4 ?k5 ?kK ?kd ?ku ?_; (case k1 => k_asm); (case k2 => k_asm); (case k3 => k_asm); (case k4 => k_asm); (case k5 => k_asm); (case kK => first | exact rfl | assumption); (case kp0 => omega); (case kd => ktr_room); (case ku => ktr_units); k_whole; intro t9 h9 tk9 F9 N9; (try k_sweep); (try dsimp only); (try k_fold))))
local macro_rules | `(tactic| walk_at "mine_nothing") => `(tactic| fail)
section
local macro_rules | `(tactic| walk_at "mine_dec") => `(tactic| ((try simp only [decide_eq_true_eq, decide_eq_false_iff_not, Bool.not_eq_true', Bool.not_eq_false', Bool.not_eq_true, Bool.not_eq_false, Decidable.not_not, Int.not_le, Int.not_lt]); omega))
local macro_rules | `(tactic| walk_at "mine_eq") => `(tactic| (law_clear; (try simp only [Int.fdiv_eq_ediv_of_nonneg, Int.fmod_eq_emod_of_nonneg, Int.reduceLE] at *); (try simp only [mlF]); first | with_reducible rfl | omega | ((repeat' split) <;> first | with_reducible rfl | omega | (simp_all; done) | (simp_all; omega))))
theorem month_length_c (y : Int) (ty : Tok) (m : Int) (tm : Tok) (hy : 0 ≤ y) (hm1 : m ≤ 13) : CX 6 92 [.int y ty, .int m tm] (RI (mlF y m)) := by
  unfold CX
  intro prog w loose mean mg mb news dp un gd cn cs a ccd cl outer A₀ base h₀ L m s Q E hB hF hK hN hT hcs hdp hu hret
  refine wpAny_call ?_
  k_dflt cell_enter
  k_steps
  all_goals (refine' endI (Q := Q) (s := s) hret ?e1 ?e2 ?e3 ?e4; (case e2 => k_asm); (case e3 => k_asm); (case e4 => walk_at "mine_all"); (case e1 => walk_at "mine_eq"))
end
local macro_rules | `(tactic| walk_at "call ref") => `(tactic| (k_here; (with_reducible show wpAny _ _ (call (Value.ref 92) _) _ _ _); k_dflt (refine' useI (month_length_c _ _ _ _ ?kp0 ?kp1) ?k1 ?k2 ?k3 ?k4 ?k5 ?kK ?kd ?ku ?_; (case k1 => k_asm); (case k2 => k_asm); (case k3 => k_asm); (case k4 => k_asm); (case k5 => k_asm); (case kK => first | exact rfl | assumption); (case kp0 => omega); (case kp1 => omega); (case kd => ktr_room); (case ku => ktr_units); k_whole; intro t9 h9 tk9 F9 N9; (try k_sweep); (try dsimp only); (try k_fold))))
local macro_rules | `(tactic| walk_at "mine_nothing") => `(tactic| fail)
local macro_rules | `(tactic| walk_at "mine_nothing") => `(tactic| fail)
theorem month_days_c (y : Int) (ty : Tok) (m : Int) (tm : Tok) (hy : 0 ≤ y) (hm1 : m ≤ 13) : CX 7 99 [.int y ty, .int m tm] (RI (mlF y m)) := by
  unfold CX
  intro prog w loose mean mg mb news dp un gd cn cs a ccd cl outer A₀ base h₀ L m s Q E hB hF hK hN hT hcs hdp hu hret
  refine wpAny_call ?_
  k_dflt cell_enter
  k_steps
  all_goals (refine' endI (Q := Q) (s := s) hret ?e1 ?e2 ?e3 ?e4; (case e2 => k_asm); (case e3 => k_asm); (case e4 => walk_at "mine_all"); (case e1 => walk_at "mine_eq"))
local macro_rules | `(tactic| walk_at "call ref") => `(tactic| (k_here; (with_reducible show wpAny _ _ (call (Value.ref 99) _) _ _ _); k_dflt (refine' useI (month_days_c _ _ _ _ ?kp0 ?kp1) ?k1 ?k2 ?k3 ?k4 ?k5 ?kK ?kd ?ku ?_; (case k1 => k_asm); (case k2 => k_asm); (case k3 => k_asm); (case k4 => k_asm); (case k5 => k_asm); (case kK => first | exact rfl | assumption); (case kp0 => omega); (case kp1 => omega); (case kd => ktr_room); (case ku => ktr_units); k_whole; intro t9 h9 tk9 F9 N9; (try k_sweep); (try dsimp only); (try k_fold))))
local macro_rules | `(tactic| walk_at "mine_nothing") => `(tactic| fail)
section
local macro_rules | `(tactic| walk_at "mine_eq") => `(tactic| (law_clear; (try simp only [Int.fdiv_eq_ediv_of_nonneg, Int.fmod_eq_emod_of_nonneg, Int.reduceLE] at *); (try simp only [jdH, offF, sumF, bsF]); first | with_reducible rfl | omega | ((repeat' split) <;> first | with_reducible rfl | omega | (simp_all; done) | (simp_all; omega))))
theorem to_jdh_c (y : Int) (ty : Tok) (mo : Int) (tmo : Tok) (d : Int) (td : Tok) (hy : 0 ≤ y) (hm0 : 1 ≤ mo) (hm1 : mo ≤ 13) (hd1 : 1 ≤ d) : CX 8 106 [.int y ty, .int mo tmo, .int d td] (RI (jdH y mo d)) := by
  unfold CX
  intro prog w loose mean mg mb news dp un gd cn cs a ccd cl outer A₀ base h₀ L m s Q E hB hF hK hN hT hcs hdp hu hret
  k_with_none
  have hps := bsF_pos hy hd1
  unfold bsF at hps
  have hym := ymF_bounds y
  k_with "pyIter ref" => k_state_given ["jd!"] (fun j0 pre jd => jd = j0 + sumL y pre ∧ j0 ≤ jd) "jd"
  k_with "state" => (first | exact sum_start | exact sum_turn ⟨by assumption, by assumption⟩)
  refine wpAny_call ?_
  k_dflt cell_enter
  k_steps
  all_goals (refine' endI (Q := Q) (s := s) hret ?e1 ?e2 ?e3 ?e4; (case e2 => k_asm); (case e3 => k_asm); (case e4 => walk_at "mine_all"); (case e1 => walk_at "mine_eq"))
end
local macro_rules | `(tactic| walk_at "call ref") => `(tactic| (k_here; (with_reducible show wpAny _ _ (call (Value.ref 106) _) _ _ _); k_dflt (refine' useI (to_jdh_c _ _ _ _ _ _ ?kp0 ?kp1 ?kp2 ?kp3) ?k1 ?k2 ?k3 ?k4 ?k5 ?kK ?kd ?ku ?_; (case k1 => k_asm); (case k2 => k_asm); (case k3 => k_asm); (case k4 => k_asm); (case k5 => k_asm); (case kK => first | exact rfl | assumption); (case kp0 => (first | omega | exact mlF_one _ _)); (case kp1 => (first | omega | exact mlF_one _ _)); (case kp2 => (first | omega | exact mlF_one _ _)); (case kp3 => (first | omega | exact mlF_one _ _)); (case kd => ktr_room); (case ku => ktr_units); k_whole; intro t9 h9 tk9 F9 N9; (try k_sweep); (try dsimp only); (try k_fold))))
local macro_rules | `(tactic| walk_at "mine_nothing") => `(tactic| fail)
section
local macro_rules | `(tactic| walk_at "ite") => `(tactic| (k_here; k_openite; (rename FromH _ _ _ _ => fh9); (with_reducible refine split_dec (fun hx9 => ?_) (fun hx9 => ?_)); (all_goals (first
      | (have e9 := FromH.stop1 fh9 hx9 (by assumption) (by assumption) (by assumption); obtain ⟨e19, e29⟩ := e9; subst e19; subst e29)
      | (have e9 := FromH.stop2 fh9 hx9 (by assumption) (by assumption) (by assumption); obtain ⟨e19, e29⟩ := e9; subst e19; subst e29)
      | skip))))
local macro_rules | `(tactic| walk_at "mine_eq") => `(tactic| (first | with_reducible rfl | exact FromH.first1 (by assumption) (by assumption) | exact FromH.first2 (by assumption) (by assumption) | exact FromH.day (by assumption)))
theorem from_jdh_c (n : Int) (tn : Tok) (Y : Int) (mo : Int) (d : Int) (h : FromH n Y mo d) : CX 9 113 [.int n tn] (R3 (Y) (mo) (d)) := by
  unfold CX
  intro prog w loose mean mg mb news dp un gd cn cs a ccd cl outer A₀ base h₀ L m s Q E hB hF hK hN hT hcs hdp hu hret
  k_with_none
  k_with "exec If Compare cons cons" => (k_here; (fail_if_success (rename JoinMark _ _ => jm9)); k_dflt (refine' joinI (Str.ofString "first") (firstF mo) ?ja ?jb ?_ ?_; (case ja => k_asm); (case jb => k_asm)); (all_goals (first | (intro (jm9 : JoinMark _ _); k_fold) | (intro t9 h9 tk9 F9 N9; (try k_sweep); (try dsimp only); (try k_fold)))))
  have hy0 := h.y0
  have hm1 := h.m1
  have hm2 := h.m2
  have hf1 := firstF_one mo
  k_with "exec While Compare cons nil" => k_while (fun _ i year => year = i - 1 ∧ 0 ≤ i ∧ i ≤ Y + 1) (fun _ i _ => (Y + 1 - i).toNat) "i" "year"
  k_with "exec While Compare cons nil" => k_while (fun _ i month => month = i ∧ firstF mo ≤ i ∧ i ≤ mo) (fun _ i _ => (mo - i).toNat) "i" "month"
  k_with "state" => (first | exact FromH.start1 (by assumption) | exact FromH.turn1 (by assumption) (by assumption) (by assumption) (by assumption) | exact FromH.start2 (by assumption) | exact FromH.turn2 (by assumption) (by assumption) (by assumption) (by assumption) (by assumption))
  k_with "measure" => (first | exact FromH.meas1 (by assumption) (by assumption) (by assumption) | exact FromH.meas2 (by assumption) (by assumption) (by assumption) (by assumption))
  refine wpAny_call ?_
  k_dflt cell_enter
  k_steps
  all_goals (refine' end3 (Q := Q) (s := s) hret ?e1 ?ea ?eb ?e2 ?e3 ?em ?e4 ?e5; (case e2 => k_asm); (case e3 => k_asm); (case em => first | exact List.Mem.head _ | k_mem); (case e4 => walk_at "mine_all"); (case e5 => first | walk_at "mine_lt" | exact allLt_sub2 (by assumption) (by walk_at "mine_all") | exact allLt_sub (by assumption) (by kcj_all) | exact And.right (by assumption) | exact And.right (And.right (by assumption)) | exact And.right (And.right (And.right (by assumption))) | walk_at "mine_lt" | kcu_lt); (case e1 => walk_at "mine_eq"); (case ea => walk_at "mine_eq"); (case eb => walk_at "mine_eq"))
end
local macro_rules | `(tactic| walk_at "call ref") => `(tactic| (k_here; (with_reducible show wpAny _ _ (call (Value.ref 113) _) _ _ _); k_dflt (refine' use3 (from_jdh_c _ _ _ _ _ ?kp0) ?k1 ?k2 ?k3 ?k4 ?k5 ?kK ?kd ?ku ?_; (case k1 => k_asm); (case k2 => k_asm); (case k3 => k_asm); (case k4 => k_asm); (case k5 => k_asm); (case kK => first | exact rfl | assumption); (case kp0 => assumption); (case kd => ktr_room); (case ku => ktr_units); k_whole; intro D9 t19 t29 t39 c9 h9 tk9 F9 N9 l9; (try k_lt l9); (try k_sweep); (try dsimp only); (try k_fold))))
local macro_rules | `(tactic| walk_at "mine_nothing") => `(tactic| fail)
local macro_rules | `(tactic| walk_at "mine_nothing") => `(tactic| fail)
section
local macro_rules | `(tactic| walk_at "mine_eq") => `(tactic| (law_clear; (try simp only [Int.fdiv_eq_ediv_of_nonneg, Int.fmod_eq_emod_of_nonneg, Int.reduceLE] at *); (try simp only [jdI]); first | with_reducible rfl | omega | ((repeat' split) <;> first | with_reducible rfl | omega | (simp_all; done) | (simp_all; omega))))
theorem to_jdi_c (y : Int) (ty : Tok) (mo : Int) (tmo : Tok) (d : Int) (td : Tok) : CX 1 127 [.int y ty, .int mo tmo, .int d td] (RI (jdI y mo d)) := by
  unfold CX
  intro prog w loose mean mg mb news dp un gd cn cs a ccd cl outer A₀ base h₀ L m s Q E hB hF hK hN hT hcs hdp hu hret
  refine wpAny_call ?_
  k_dflt cell_enter
  k_steps
  all_goals (refine' endI (Q := Q) (s := s) hret ?e1 ?e2 ?e3 ?e4; (case e2 => k_asm); (case e3 => k_asm); (case e4 => walk_at "mine_all"); (case e1 => walk_at "mine_eq"))
end
local macro_rules | `(tactic| walk_at "call ref") => `(tactic| (k_here; (with_reducible show wpAny _ _ (call (Value.ref 127) _) _ _ _); k_dflt (refine' useI (to_jdi_c _ _ _ _ _ _ ) ?k1 ?k2 ?k3 ?k4 ?k5 ?kK ?kd ?ku ?_; (case k1 => k_asm); (case k2 => k_asm); (case k3 => k_asm); (case k4 => k_asm); (case k5 => k_asm); (case kK => first | exact rfl | assumption); (case kd => ktr_room); (case ku => ktr_units); k_whole; intro t9 h9 tk9 F9 N9; (try k_sweep); (try dsimp only); (try k_fold))))
local macro_rules | `(tactic| walk_at "mine_nothing") => `(tactic| fail)
section
local macro_rules | `(tactic| walk_at "mine_eq") => `(tactic| (law_clear; (try simp only [Int.fdiv_eq_ediv_of_nonneg, Int.fmod_eq_emod_of_nonneg, Int.reduceLE] at *); (try simp only [iD, iM, iY, jdI]); first | with_reducible rfl | omega | ((repeat' split) <;> first | with_reducible rfl | omega | (simp_all; done) | (simp_all; omega))))
theorem from_jdi_c (n : Int) (tn : Tok) : CX 2 134 [.int n tn] (R3 (iY n) (iM n) (iD n)) := by
  unfold CX
  intro prog w loose mean mg mb news dp un gd cn cs a ccd cl outer A₀ base h₀ L m s Q E hB hF hK hN hT hcs hdp hu hret
  refine wpAny_call ?_
  k_dflt cell_enter
  k_steps
  all_goals (refine' end3 (Q := Q) (s := s) hret ?e1 ?ea ?eb ?e2 ?e3 ?em ?e4 ?e5; (case e2 => k_asm); (case e3 => k_asm); (case em => first | exact List.Mem.head _ | k_mem); (case e4 => walk_at "mine_all"); (case e5 => first | walk_at "mine_lt" | exact allLt_sub2 (by assumption) (by walk_at "mine_all") | exact allLt_sub (by assumption) (by kcj_all) | exact And.right (by assumption) | exact And.right (And.right (by assumption)) | exact And.right (And.right (And.right (by assumption))) | walk_at "mine_lt" | kcu_lt); (case e1 => walk_at "mine_eq"); (case ea => walk_at "mine_eq"); (case eb => walk_at "mine_eq"))
end
local macro_rules | `(tactic| walk_at "call ref") => `(tactic| (k_here; (with_reducible show wpAny _ _ (call (Value.ref 134) _) _ _ _); k_dflt (refine' use3 (from_jdi_c _ _ ) ?k1 ?k2 ?k3 ?k4 ?k5 ?kK ?kd ?ku ?_; (case k1 => k_asm); (case k2 => k_asm); (case k3 => k_asm); (case k4 => k_asm); (case k5 => k_asm); (case kK => first | exact rfl | assumption); (case kd => ktr_room); (case ku => ktr_units); k_whole; intro D9 t19 t29 t39 c9 h9 tk9 F9 N9 l9; (try k_lt l9); (try k_sweep); (try dsimp only); (try k_fold))))
local macro_rules | `(tactic| walk_at "mine_nothing") => `(tactic| fail)
section
local macro_rules | `(tactic| walk_at "mine_eq") => `(tactic| (with_reducible rfl))
theorem to_greg_c (y : Int) (ty : Tok) (mo : Int) (tmo : Tok) (d : Int) (td : Tok) (hy : 0 ≤ y) (hm0 : 1 ≤ mo) (hm1 : mo ≤ 13) (hd1 : 1 ≤ d) : CX 9 120 [.int y ty, .int mo tmo, .int d td] (R3 (gY (jdH y mo d)) (gM (jdH y mo d)) (gD (jdH y mo d))) := by
  unfold CX
  intro prog w loose mean mg mb news dp un gd cn cs a ccd cl outer A₀ base h₀ L m s Q E hB hF hK hN hT hcs hdp hu hret
  refine wpAny_call ?_
  k_dflt cell_enter
  k_steps
  all_goals (refine' end3 (Q := Q) (s := s) hret ?e1 ?ea ?eb ?e2 ?e3 ?em ?e4 ?e5; (case e2 => k_asm); (case e3 => k_asm); (case em => first | exact List.Mem.head _ | k_mem); (case e4 => walk_at "mine_all"); (case e5 => first | walk_at "mine_lt" | exact allLt_sub2 (by assumption) (by walk_at "mine_all") | exact allLt_sub (by assumption) (by kcj_all) | exact And.right (by assumption) | exact And.right (And.right (by assumption)) | exact And.right (And.right (And.right (by assumption))) | walk_at "mine_lt" | kcu_lt); (case e1 => walk_at "mine_eq"); (case ea => walk_at "mine_eq"); (case eb => walk_at "mine_eq"))
end
local macro_rules | `(tactic| walk_at "call ref") => `(tactic| (k_here; (with_reducible show wpAny _ _ (call (Value.ref 120) _) _ _ _); k_dflt (refine' use3 (to_greg_c _ _ _ _ _ _ ?kp0 ?kp1 ?kp2 ?kp3) ?k1 ?k2 ?k3 ?k4 ?k5 ?kK ?kd ?ku ?_; (case k1 => k_asm); (case k2 => k_asm); (case k3 => k_asm); (case k4 => k_asm); (case k5 => k_asm); (case kK => first | exact rfl | assumption); (case kp0 => omega); (case kp1 => omega); (case kp2 => omega); (case kp3 => omega); (case kd => ktr_room); (case ku => ktr_units); k_whole; intro D9 t19 t29 t39 c9 h9 tk9 F9 N9 l9; (try k_lt l9); (try k_sweep); (try dsimp only); (try k_fold))))
local macro_rules | `(tactic| walk_at "mine_nothing") => `(tactic| fail)
section
local macro_rules | `(tactic| walk_at "mine_eq") => `(tactic| (with_reducible rfl))
theorem from_greg_c (y : Int) (ty : Tok) (mo : Int) (tmo : Tok) (d : Int) (td : Tok) (hl : LegalG y mo d) : CX 4 141 [.int y ty, .int mo tmo, .int d td] (R3 (iY (jdG y mo d)) (iM (jdG y mo d)) (iD (jdG y mo d))) := by
  unfold CX
  intro prog w loose mean mg mb news dp un gd cn cs a ccd cl outer A₀ base h₀ L m s Q E hB hF hK hN hT hcs hdp hu hret
  refine wpAny_call ?_
  k_dflt cell_enter
  k_steps
  all_goals (refine' end3 (Q := Q) (s := s) hret ?e1 ?ea ?eb ?e2 ?e3 ?em ?e4 ?e5; (case e2 => k_asm); (case e3 => k_asm); (case em => first | exact List.Mem.head _ | k_mem); (case e4 => walk_at "mine_all"); (case e5 => first | walk_at "mine_lt" | exact allLt_sub2 (by assumption) (by walk_at "mine_all") | exact allLt_sub (by assumption) (by kcj_all) | exact And.right (by assumption) | exact And.right (And.right (by assumption)) | exact And.right (And.right (And.right (by assumption))) | walk_at "mine_lt" | kcu_lt); (case e1 => walk_at "mine_eq"); (case ea => walk_at "mine_eq"); (case eb => walk_at "mine_eq"))
end
local macro_rules | `(tactic| walk_at "call ref") => `(tactic| (k_here; (with_reducible show wpAny _ _ (call (Value.ref 141) _) _ _ _); k_dflt (refine' use3 (from_greg_c _ _ _ _ _ _ ?kp0) ?k1 ?k2 ?k3 ?k4 ?k5 ?kK ?kd ?ku ?_; (case k1 => k_asm); (case k2 => k_asm); (case k3 => k_asm); (case k4 => k_asm); (case k5 => k_asm); (case kK => first | exact rfl | assumption); (case kp0 => assumption); (case kd => ktr_room); (case ku => ktr_units); k_whole; intro D9 t19 t29 t39 c9 h9 tk9 F9 N9 l9; (try k_lt l9); (try k_sweep); (try dsimp only); (try k_fold))))
local macro_rules | `(tactic| walk_at "mine_nothing") => `(tactic| fail)
section
local macro_rules | `(tactic| walk_at "ite") => `(tactic| (k_here; k_openite; (with_reducible rename FromI _ _ _ => fh9); (with_reducible refine split_dec (fun hx9 => ?_) (fun hx9 => ?_)); (all_goals (first
      | (have e9 := FromI.stop1 fh9 hx9 (by assumption) (by assumption) (by assumption) (by assumption); obtain ⟨e19, e29⟩ := e9; subst e19; subst e29)
      | (have e9 := FromI.stop2a fh9 hx9 (by assumption) (by assumption) (by assumption); obtain ⟨e19, e29⟩ := e9; subst e19; subst e29)
      | (have e9 := FromI.stop2b fh9 hx9 (by assumption) (by assumption) (by assumption); obtain ⟨e19, e29⟩ := e9; subst e19; subst e29)
      | skip))))
local macro_rules | `(tactic| walk_at "mine_eq") => `(tactic| (with_reducible rfl))
theorem islamic_c (n : Int) (tn : Tok) (y : Int) (mo : Int) (h : FromI n y mo) : CX 2 179 [.int n tn] (R3 (30 * (n - 1948440).fdiv 10631 + y) (mo) (iL n - sY y - sM mo + 1)) := by
  unfold CX
  intro prog w loose mean mg mb news dp un gd cn cs a ccd cl outer A₀ base h₀ L m s Q E hB hF hK hN hT hcs hdp hu hret
  k_with_none
  have hy1 := h.y1
  have hy30 := h.y30
  have hm1 := h.m1
  have hm2 := h.m12
  k_with "exec While Compare cons nil" => k_while (fun _ i left len => 1 ≤ i ∧ i ≤ y ∧ left = iL n - sY i ∧ len = lenY i) (fun _ i _ _ => (y - i).toNat) "year" "left" "length"
  k_with "exec While BoolOp cons nil" => k_while (fun _ i left => 1 ≤ i ∧ i ≤ mo ∧ left = iL n - sY y - sM i) (fun _ i _ => (mo - i).toNat) "month" "left"
  k_with "state" => (first | exact FromI.start1 (by assumption) | exact FromI.turn1 (by assumption) (by assumption) (by assumption) (by assumption) (by assumption) (by assumption) (by first | exact lenY_1 (by assumption) | exact lenY_2 (by assumption)) | exact FromI.start2 (by assumption) | exact FromI.turn2 (by assumption) (by assumption) (by assumption) (by assumption) (by assumption) (by assumption))
  k_with "measure" => (first | exact FromI.meas1 (by assumption) (by assumption) (by assumption) (by assumption) (by assumption) (by assumption) | exact FromI.meas2 (by assumption) (by assumption) (by assumption) (by assumption) (by assumption) (by assumption))
  refine wpAny_call ?_
  k_dflt cell_enter
  k_steps
  all_goals (refine' end3 (Q := Q) (s := s) hret ?e1 ?ea ?eb ?e2 ?e3 ?em ?e4 ?e5; (case e2 => k_asm); (case e3 => k_asm); (case em => first | exact List.Mem.head _ | k_mem); (case e4 => walk_at "mine_all"); (case e5 => first | walk_at "mine_lt" | exact allLt_sub2 (by assumption) (by walk_at "mine_all") | exact allLt_sub (by assumption) (by kcj_all) | exact And.right (by assumption) | exact And.right (And.right (by assumption)) | exact And.right (And.right (And.right (by assumption))) | walk_at "mine_lt" | kcu_lt); (case e1 => walk_at "mine_eq"); (case ea => walk_at "mine_eq"); (case eb => walk_at "mine_eq"))
end
local macro_rules | `(tactic| walk_at "call ref") => `(tactic| (k_here; (with_reducible show wpAny _ _ (call (Value.ref 179) _) _ _ _); k_dflt (refine' use3 (islamic_c _ _ _ _ ?kp0) ?k1 ?k2 ?k3 ?k4 ?k5 ?kK ?kd ?ku ?_; (case k1 => k_asm); (case k2 => k_asm); (case k3 => k_asm); (case k4 => k_asm); (case k5 => k_asm); (case kK => first | exact rfl | assumption); (case kp0 => assumption); (case kd => ktr_room); (case ku => ktr_units); k_whole; intro D9 t19 t29 t39 c9 h9 tk9 F9 N9 l9; (try k_lt l9); (try k_sweep); (try dsimp only); (try k_fold))))
local macro_rules | `(tactic| walk_at "mine_nothing") => `(tactic| fail)
local macro_rules | `(tactic| walk_at "mine_nothing") => `(tactic| fail)
section
local macro_rules | `(tactic| walk_at "storeName") => `(tactic| (k_here; k_extra "store"; k_dflt (refine' storeX_L ?F ?N ?_ ?a ?b; (case F => k_asm); (case N => k_asm); (case a => rfl); (case b => rfl); k_whole); intro h' F' N'; (try k_sweep)))
local macro_rules | `(tactic| walk_at "exec For Name Tuple cons nil") => `(tactic| (k_here; k_dflt (refine' For_unrF ?uF ?_ ?us ?uE; (case uF => k_asm); (case us => (intro _; with_unfolding_all rfl)); (case uE => passes_own))))
local macro_rules | `(tactic| walk_at "pyIter ref") => `(tactic| (k_here; k_dflt (refine' Iter_tuple_unr ?uh ?ut ?uF ?uN ?uL ?_; (case uh => exact rfl); (case uF => k_asm); (case uN => k_asm); (case ut => exact News.isTup (by k_asm) (.head _)); (case uL => exact News.ne_locals (by k_asm) (.head _)); k_whole)))
local macro_rules | `(tactic| walk_at "mine_eq") => `(tactic| (law_clear; (try simp only [cMk]); first | with_reducible rfl | ((have q9 := k_11 (by assumption) (by assumption)); (rcases q9 with q9 | q9 | q9 | q9 | q9 | q9 | q9 | q9 | q9 | q9 | q9 | q9) <;> (subst q9; first | omega | (simp; done)))))
theorem civil_c (n : Int) (tn : Tok) (k : Int) (h : FromC n k) : CX 2 186 [.int n tn] (R3 (cYk n k) (cMk k) (cDk n k)) := by
  unfold CX
  intro prog w loose mean mg mb news dp un gd cn cs a ccd cl outer A₀ base h₀ L m s Q E hB hF hK hN hT hcs hdp hu hret
  k_with_none
  have hk0 := h.k0
  have hk1 := h.k11
  have hlo := h.lo
  have hhi := h.hi
  have htp := h.top
  clear h
  obtain ⟨T, hTc⟩ : ∃ T, cT n = T := ⟨_, rfl⟩
  obtain ⟨Y0, hYc⟩ : ∃ Y, cY0 n = Y := ⟨_, rfl⟩
  rw [hTc] at hlo hhi htp
  simp only [cYk, cDk, hTc, hYc] at hret
  k_with "store" => (first
    | ((with_reducible show wpAny _ _ (storeName _ (Str.ofString "hundreds") _) _ _ _); refine my_store_as (v := cH n) (rfl) ?_)
    | ((with_reducible show wpAny _ _ (storeName _ (Str.ofString "left") (Value.int (_ - 36524 * _) _)) _ _ _); refine my_store_as (v := cL2 n) (rfl) ?_)
    | ((with_reducible show wpAny _ _ (storeName _ (Str.ofString "fours") _) _ _ _); refine my_store_as (v := cF n) (rfl) ?_)
    | ((with_reducible show wpAny _ _ (storeName _ (Str.ofString "left") (Value.int (_ - 1461 * _) _)) _ _ _); refine my_store_as (v := cL3 n) (rfl) ?_)
    | ((with_reducible show wpAny _ _ (storeName _ (Str.ofString "ones") _) _ _ _); refine my_store_as (v := cO n) (rfl) ?_)
    | ((with_reducible show wpAny _ _ (storeName _ (Str.ofString "left") (Value.int (_ - 365 * _) _)) _ _ _); k_dflt (refine my_store_as (v := T) hTc ?_); clear hTc)
    | ((with_reducible show wpAny _ _ (storeName _ (Str.ofString "year") _) _ _ _); k_dflt (refine my_store_as (v := Y0) hYc ?_); clear hYc))
  refine wpAny_call ?_
  k_dflt cell_enter
  k_steps
  all_goals (refine' end3 (Q := Q) (s := s) hret ?e1 ?ea ?eb ?e2 ?e3 ?em ?e4 ?e5; (case e2 => k_asm); (case e3 => k_asm); (case em => first | exact List.Mem.head _ | k_mem); (case e4 => walk_at "mine_all"); (case e5 => first | walk_at "mine_lt" | exact allLt_sub2 (by assumption) (by walk_at "mine_all") | exact allLt_sub (by assumption) (by kcj_all) | exact And.right (by assumption) | exact And.right (And.right (by assumption)) | exact And.right (And.right (And.right (by assumption))) | walk_at "mine_lt" | kcu_lt); (case e1 => walk_at "mine_eq"); (case ea => walk_at "mine_eq"); (case eb => walk_at "mine_eq"))
end
local macro_rules | `(tactic| walk_at "call ref") => `(tactic| (k_here; (with_reducible show wpAny _ _ (call (Value.ref 186) _) _ _ _); k_dflt (refine' use3 (civil_c _ _ _ ?kp0) ?k1 ?k2 ?k3 ?k4 ?k5 ?kK ?kd ?ku ?_; (case k1 => k_asm); (case k2 => k_asm); (case k3 => k_asm); (case k4 => k_asm); (case k5 => k_asm); (case kK => first | exact rfl | assumption); (case kp0 => assumption); (case kd => ktr_room); (case ku => ktr_units); k_whole; intro D9 t19 t29 t39 c9 h9 tk9 F9 N9 l9; (try k_lt l9); (try k_sweep); (try dsimp only); (try k_fold))))
local macro_rules | `(tactic| walk_at "mine_nothing") => `(tactic| fail)
local macro_rules | `(tactic| walk_at "mine_nothing") => `(tactic| fail)
local macro_rules | `(tactic| walk_at "mine_nothing") => `(tactic| fail)
local macro_rules | `(tactic| walk_at "mine_nothing") => `(tactic| fail)
section
local macro_rules | `(tactic| walk_at "mine_eq") => `(tactic| (law_clear; (try simp only [Int.fdiv_eq_ediv_of_nonneg, Int.fmod_eq_emod_of_nonneg, Int.reduceLE] at *); (try simp only [marchF, marchN, weekF, goldF]); first | with_reducible rfl | omega | ((repeat' split) <;> first | with_reducible rfl | omega | (simp_all; done) | (simp_all; omega))))
theorem march_c (y : Int) (ty : Tok) : CX 1 151 [.int y ty] (RI (marchF y)) := by
  unfold CX
  intro prog w loose mean mg mb news dp un gd cn cs a ccd cl outer A₀ base h₀ L m s Q E hB hF hK hN hT hcs hdp hu hret
  refine wpAny_call ?_
  k_dflt cell_enter
  k_steps
  all_goals (refine' endI (Q := Q) (s := s) hret ?e1 ?e2 ?e3 ?e4; (case e2 => k_asm); (case e3 => k_asm); (case e4 => walk_at "mine_all"); (case e1 => walk_at "mine_eq"))
end
local macro_rules | `(tactic| walk_at "call ref") => `(tactic| (k_here; (with_reducible show wpAny _ _ (call (Value.ref 151) _) _ _ _); k_dflt (refine' useI (march_c _ _ ) ?k1 ?k2 ?k3 ?k4 ?k5 ?kK ?kd ?ku ?_; (case k1 => k_asm); (case k2 => k_asm); (case k3 => k_asm); (case k4 => k_asm); (case k5 => k_asm); (case kK => first | exact rfl | assumption); (case kd => ktr_room); (case ku => ktr_units); k_whole; intro t9 h9 tk9 F9 N9; (try k_sweep); (try dsimp only); (try k_fold))))
local macro_rules | `(tactic| walk_at "mine_nothing") => `(tactic| fail)
section
local macro_rules | `(tactic| walk_at "mine_eq") => `(tactic| (law_clear; (try simp only [Int.fdiv_eq_ediv_of_nonneg, Int.fmod_eq_emod_of_nonneg, Int.reduceLE] at *); (try simp only [springF]); first | with_reducible rfl | omega | ((repeat' split) <;> first | with_reducible rfl | omega | (simp_all; done) | (simp_all; omega))))
theorem spring_c (y : Int) (ty : Tok) : CX 2 158 [.int y ty] (RI (springF y)) := by
  unfold CX
  intro prog w loose mean mg mb news dp un gd cn cs a ccd cl outer A₀ base h₀ L m s Q E hB hF hK hN hT hcs hdp hu hret
  refine wpAny_call ?_
  k_dflt cell_enter
  k_steps
  all_goals (refine' endI (Q := Q) (s := s) hret ?e1 ?e2 ?e3 ?e4; (case e2 => k_asm); (case e3 => k_asm); (case e4 => walk_at "mine_all"); (case e1 => walk_at "mine_eq"))
end
local macro_rules | `(tactic| walk_at "call ref") => `(tactic| (k_here; (with_reducible show wpAny _ _ (call (Value.ref 158) _) _ _ _); k_dflt (refine' useI (spring_c _ _ ) ?k1 ?k2 ?k3 ?k4 ?k5 ?kK ?kd ?ku ?_; (case k1 => k_asm); (case k2 => k_asm); (case k3 => k_asm); (case k4 => k_asm); (case k5 => k_asm); (case kK => first | exact rfl | assumption); (case kd => ktr_room); (case ku => ktr_units); k_whole; intro t9 h9 tk9 F9 N9; (try k_sweep); (try dsimp only); (try k_fold))))
local macro_rules | `(tactic| walk_at "mine_nothing") => `(tactic| fail)
section
local macro_rules | `(tactic| walk_at "storeName") => `(tactic| (k_here; k_extra "store"; k_dflt (refine' storeX_L ?F ?N ?_ ?a ?b; (case F => k_asm); (case N => k_asm); (case a => rfl); (case b => rfl); k_whole); intro h' F' N'; (try k_sweep)))
local macro_rules | `(tactic| walk_at "call ref") => `(tactic| (k_here; (with_reducible show wpAny _ _ (call (Value.ref 165) [Value.int (_ - _) _]) _ _ _); (rename FromM _ _ _ _ _ _ => fh9); k_dflt (refine my_arg_as (FromM.n1 fh9) ?_); walk_at "mine_enter"))
local macro_rules | `(tactic| walk_at "exec For Tuple Subscript cons nil") => `(tactic| (k_here; k_dflt (refine' For_unrF ?uF ?_ ?us ?uE; (case uF => k_asm); (case us => (intro _; with_unfolding_all rfl)); (case uE => passes_own))))
local macro_rules | `(tactic| walk_at "pyIter ref") => `(tactic| (k_here; k_dflt (refine' Iter_take_unr ?uh ?ut ?uF ?uN ?uL ?un ?_; (case uh => exact rfl); (case uF => k_asm); (case uN => k_asm); (case ut => exact News.isList (by k_asm) (.head _)); (case uL => exact News.ne_locals (by k_asm) (.head _)); (case un => first | exact toNat_12 (by assumption) (by assumption) (by assumption) | exact toNat_13 (by assumption) (by assumption)); k_whole)))
local macro_rules | `(tactic| walk_at "Unr") => `(tactic| k_extra "unr")
local macro_rules | `(tactic| walk_at "ite") => `(tactic| (k_here; k_openite; (rename FromM _ _ _ _ _ _ => fh9); (with_reducible refine split_dec (fun hx9 => ?_) (fun hx9 => ?_)); (all_goals (first
      | (have e9 := FromM.stop fh9 hx9 (by assumption) (by assumption); subst e9)
      | skip))))
local macro_rules | `(tactic| walk_at "mine_eq") => `(tactic| (first | with_reducible rfl | (law_clear; (try simp only [Int.fmod_eq_emod_of_nonneg, Int.reduceLE] at *); first | (unfold l8; split <;> omega) | (unfold l9; split <;> omega) | (simp [mAt, lAt, oAt, sumN, *]; done) | (simp [mAt, lAt, oAt, sumN, *]; omega))))
theorem month_c (c : Int) (tc : Tok) (P : Int) (Y : Int) (sz : Int) (ny : Int) (p : Int) (h : FromM c P Y sz ny p) : CX 4 172 [.int c tc] (R4 (Y) (mAt sz p) (ny + oAt sz p) (lAt sz p)) := by
  unfold CX
  intro prog w loose mean mg mb news dp un gd cn cs a ccd cl outer A₀ base h₀ L m s Q E hB hF hK hN hT hcs hdp hu hret
  k_with_none
  have hP0 := h.P0
  have hP1 := h.P1
  have hp0 := h.p0
  have hp1 := h.p1
  k_with "unr" => (first
    | (k_dflt (refine' unr_take ?uj ?ux ?_ ?_; (case uj => first | assumption | exact Nat.zero_le _); (case ux => exact rfl)); k_whole; (first
       | (intro (hq9 : _ = _); (try simp only [Nat.reduceAdd, Nat.zero_add] at hq9); (first | (have e9 := toNat_lit (v := 0) hp0 hq9 (by decide)) | (have e9 := toNat_lit (v := 1) hp0 hq9 (by decide)) | (have e9 := toNat_lit (v := 2) hp0 hq9 (by decide)) | (have e9 := toNat_lit (v := 3) hp0 hq9 (by decide)) | (have e9 := toNat_lit (v := 4) hp0 hq9 (by decide)) | (have e9 := toNat_lit (v := 5) hp0 hq9 (by decide)) | (have e9 := toNat_lit (v := 6) hp0 hq9 (by decide)) | (have e9 := toNat_lit (v := 7) hp0 hq9 (by decide)) | (have e9 := toNat_lit (v := 8) hp0 hq9 (by decide)) | (have e9 := toNat_lit (v := 9) hp0 hq9 (by decide)) | (have e9 := toNat_lit (v := 10) hp0 hq9 (by decide)) | (have e9 := toNat_lit (v := 11) hp0 hq9 (by decide)) | (have e9 := toNat_lit (v := 12) hp0 hq9 (by decide))); (subst e9); (try clear hq9); intro _ _ _ _)
       | (intro hq9 h1 tk1 own ho F1 N1; (try dsimp only))))
    | (exfalso; first | exact no_12 hp1 (by assumption) (by assumption) rfl | exact no_13 hp0 hp1 (by assumption) rfl))
  k_with "exec While Compare cons nil" => k_while (fun _ past => P ≤ past ∧ past ≤ 18) (fun _ past => past.toNat) "past"
  k_with "state" => (first | exact FromM.start (by assumption) | exact FromM.turn (by assumption) (by assumption) (by assumption) (by assumption))
  k_with "measure" => exact FromM.meas (by assumption) (by assumption) (by assumption) (by assumption)
  k_with "store" => (first
    | ((with_reducible show wpAny _ _ (storeName _ (Str.ofString "year") _) _ _ _); refine my_store_as (v := Y) (FromM.yr (by assumption)) ?_)
    | ((with_reducible show wpAny _ _ (storeName _ (Str.ofString "left") (Value.int (_ - _) _)) _ _ _); refine my_store_as (v := p) (FromM.ps (by assumption)) ?_)
    | ((with_reducible show wpAny _ _ (storeName _ (Str.ofString "number") (Value.int (springF _ + _) _)) _ _ _); refine my_store_as (v := ny) (FromM.n0 (by assumption)) ?_))
  k_with "eval IfExp" => (k_here; (fail_if_success (rename JoinMarkE _ => jm9)); (first | ((with_reducible show wpAny _ _ (eval (Expr.IfExp _ (Expr.Constant (Const.int 30) _ _) _ _) _) _ _ _; k_dflt (refine' joinE (l8 sz) ?ja ?jb ?_ ?_; (case ja => k_asm); (case jb => k_asm)))) | ((with_reducible show wpAny _ _ (eval (Expr.IfExp _ (Expr.Constant (Const.int 29) _ _) _ _) _) _ _ _; k_dflt (refine' joinE (l9 sz) ?ja ?jb ?_ ?_; (case ja => k_asm); (case jb => k_asm))))); (all_goals (first | (intro (jm9 : JoinMarkE _); k_fold) | (intro t9 h9 tk9 F9 N9; (try k_sweep); (try dsimp only); (try k_fold)))))
  refine wpAny_call ?_
  k_dflt cell_enter
  k_steps
  all_goals (refine' end4 (Q := Q) (s := s) hret ?e1 ?ea ?eb ?ec ?e2 ?e3 ?em ?e4 ?e5; (case e2 => k_asm); (case e3 => k_asm); (case em => first | exact List.Mem.head _ | k_mem); (case e4 => walk_at "mine_all"); (case e5 => first | walk_at "mine_lt" | exact allLt_sub2 (by assumption) (by walk_at "mine_all") | exact allLt_sub (by assumption) (by kcj_all) | exact And.right (by assumption) | exact And.right (And.right (by assumption)) | exact And.right (And.right (And.right (by assumption))) | walk_at "mine_lt" | kcu_lt); (case e1 => walk_at "mine_eq"); (case ea => walk_at "mine_eq"); (case eb => walk_at "mine_eq"); (case ec => walk_at "mine_eq"))
end
local macro_rules | `(tactic| walk_at "call ref") => `(tactic| (k_here; (with_reducible show wpAny _ _ (call (Value.ref 172) _) _ _ _); k_dflt (refine' use4 (month_c _ _ _ _ _ _ _ ?kp0) ?k1 ?k2 ?k3 ?k4 ?k5 ?kK ?kd ?ku ?_; (case k1 => k_asm); (case k2 => k_asm); (case k3 => k_asm); (case k4 => k_asm); (case k5 => k_asm); (case kK => first | exact rfl | assumption); (case kp0 => assumption); (case kd => ktr_room); (case ku => ktr_units); k_whole; intro D9 t19 t29 t39 t49 c9 h9 tk9 F9 N9 l9; (try k_lt l9); (try k_sweep); (try dsimp only); (try k_fold))))
local macro_rules | `(tactic| walk_at "mine_nothing") => `(tactic| fail)
local macro_rules | `(tactic| walk_at "mine_nothing") => `(tactic| fail)
local macro_rules | `(tactic| walk_at "mine_nothing") => `(tactic| fail)
local macro_rules | `(tactic| walk_at "mine_nothing") => `(tactic| fail)
local macro_rules | `(tactic| walk_at "mine_nothing") => `(tactic| fail)
local macro_rules | `(tactic| walk_at "mine_nothing") => `(tactic| fail)
local macro_rules | `(tactic| walk_at "mine_nothing") => `(tactic| fail)
local macro_rules | `(tactic| walk_at "mine_nothing") => `(tactic| fail)
section
local macro_rules | `(tactic| walk_at "eval ListComp") => `(tactic| (k_here; k_dflt (refine' ListComp_U3 ?f ?a ?b ?c ?d ?e ?hs ?_; (case f => k_asm); (case a => with_unfolding_all rfl); (case b => decide); (case c => rfl); (case d => decide); (case e => rfl); (case hs => (intro _; with_unfolding_all rfl)))))
local macro_rules | `(tactic| walk_at "SrcU") => `(tactic| (k_dflt (refine' SrcU.intro (n := 3) ?hh ?F ?N ?m ?n ?z ?_; (case hh => exact rfl); (case F => k_asm); (case N => k_asm); (case m => first | exact List.Mem.head _ | k_mem); (case n => exact rfl); (case z => exact Nat.le_of_ble_eq_true rfl)); intro g'))
local macro_rules | `(tactic| walk_at "CompRestT") => `(tactic| (k_dflt first
  | (refine LCt.CompRestT.succ ?_; intro v' I' oI' C' oC' D' m' h' tk' E' hv' hC' hx' F' N' off' ne'; ((simp only [List.getElem?_toArray, List.getElem?_cons_zero, List.getElem?_cons_succ, Option.some.injEq] at hv'); subst hv'))
  | refine LCt.CompRestT.zero ?_))
local macro_rules | `(tactic| walk_at "CompEnd") => `(tactic| (k_dflt (refine' compEnd1 ?F ?N ?o ?S ?_; (case F => k_asm); (case N => k_asm); (case o => assumption); (case S => exact List.Mem.head _))))
theorem plain_c (D : Addr) (x y z : Int) (t1 t2 t3 : Tok) (c : Nat) : CP 3 191 D { cls := .type "tuple", data := .seq #[.int x t1, .int y t2, .int z t3] c } true := by
  unfold CP
  intro prog w loose mean mg mb news dp un gd cn cs a ccd cl outer A₀ base h₀ L m s Q E hB hF hK hN hT hcs hdp hu hret
  k_with_none
  refine wpAny_call ?_
  k_dflt cell_enter
  k_steps
  all_goals (refine' endB (Q := Q) (s := s) hret ?e1 ?e2 ?e3 ?e4; (case e2 => k_asm); (case e3 => k_asm); (case e4 => walk_at "mine_all"); (case e1 => rfl))
end
local macro_rules | `(tactic| walk_at "call ref") => `(tactic| (k_here; (with_reducible show wpAny _ _ (call (Value.ref 191) [Value.ref _]) _ _ _); k_dflt (refine' useP (plain_c _ _ _ _ _ _ _ _) ?k1 ?k2 ?k3 ?k4 ?k5 ?kK ?kd ?ku ?km ?_; (case k1 => k_asm); (case k2 => k_asm); (case k3 => k_asm); (case k4 => k_asm); (case k5 => k_asm); (case kK => first | exact rfl | assumption); (case kd => ktr_room); (case ku => ktr_units); (case km => k_mem); k_whole; intro h9 tk9 F9 N9; (try k_sweep); (try dsimp only); (try k_fold))))
local macro_rules | `(tactic| walk_at "mine_nothing") => `(tactic| fail)
local macro_rules | `(tactic| walk_at "mine_nothing") => `(tactic| fail)
local macro_rules | `(tactic| walk_at "mine_nothing") => `(tactic| fail)
local macro_rules | `(tactic| walk_at "mine_nothing") => `(tactic| fail)
local macro_rules | `(tactic| walk_at "mine_nothing") => `(tactic| fail)
local macro_rules | `(tactic| walk_at "mine_nothing") => `(tactic| fail)
theorem ine_no {x y : Int} {P Q : Prop} (h : x = y) (hq : Q) : if (x != y) = true then P else Q := by
  subst h; rw [if_neg (by simp)]; exact hq
structure DayV (c past Y mo nu y g D a b e P : Int) : Prop where
  tg : ∀ t1 t2 t3, CX 9 120 [.int Y t1, .int mo t2, .int (past + 1) t3] (R3 y g D)
  fg : ∀ t1 t2 t3, CX 4 141 [.int y t1, .int g t2, .int D t3] (R3 a b e)
  tj : ∀ t1 t2 t3, CX 1 127 [.int a t1, .int b t2, .int e t3] (RI (nu + past))
  ci : ∀ t, CX 2 186 [.int (nu + past) t] (R3 y g D)
  isl : ∀ t, CX 2 179 [.int (nu + past) t] (R3 a b e)
  fh : ∀ t, CX 9 113 [.int (nu + past) t] (R3 Y mo (past + 1))
  par : 25920 * (nu + past + 1 - (past + 1) - jdI (1 + (c - 54196).fdiv 12) (1 + (c - 54196).fmod 12) 1) - (c - 54196) = P
  lo : -93553 ≤ P
  hi : P ≤ 38690
  r1 : c.fmod 8527680 = 1625189 → P = -93553
  r2 : c.fmod 8527680 = 4061669 → P = -93553
  r3 : c.fmod 8527680 = 4084946 → P = 38690
theorem DayV.rareP {c past Y mo nu y g D a b e P : Int} (h : DayV c past Y mo nu y g D a b e P) (h2 : [1625189, 4061669].any (· == c.fmod 8527680) = true) : P = -93553 := by
  rcases any2 h2 with k | k
  · exact h.r1 k
  · exact h.r2 k
theorem DayV.rare3 {c past Y mo nu y g D a b e P : Int} (h : DayV c past Y mo nu y g D a b e P) (h2 : c.fmod 8527680 = 4084946) : P = 38690 := h.r3 h2
structure MonthV (c Y mo nu le : Int) : Prop where
  ca : ∀ t, CX 4 172 [.int c t] (R4 Y mo nu le)
  le29 : 29 ≤ le
  dy : ∀ past, 0 ≤ past → past < le → ∃ y g D a b e P : Int, DayV c past Y mo nu y g D a b e P
theorem monthV {c : Int} (hc : Cnt c) : ∃ Y mo nu le : Int, MonthV c Y mo nu le := by
  obtain ⟨Pm, Y, sz, ny, p, FM, hd⟩ := day hc.nn
  refine ⟨Y, mAt sz p, ny + oAt sz p, lAt sz p, fun t => month_c c t Pm Y sz ny p FM, lAt_low sz p, fun past h0 h1 => ?_⟩
  obtain ⟨n, k, y, g, D, yI, mI, P, H⟩ := hd past h0 h1
  obtain rfl := H.en
  have G := H.G
  have I := H.I
  refine ⟨y, g, D, 30 * (ny + oAt sz p + past - 1948440).fdiv 10631 + yI, mI, iL (ny + oAt sz p + past) - sY yI - sM mI + 1, P, ?_, ?_, ?_, ?_, ?_, ?_, by rw [Int.fdiv_eq_ediv_of_nonneg _ (by decide), Int.fmod_eq_emod_of_nonneg _ (by decide)]; exact H.par, H.lo, H.hi, by rw [Int.fmod_eq_emod_of_nonneg _ (by decide)]; exact H.r1, by rw [Int.fmod_eq_emod_of_nonneg _ (by decide)]; exact H.r2, by rw [Int.fmod_eq_emod_of_nonneg _ (by decide)]; exact H.r3⟩
  · intro t1 t2 t3
    have q := to_greg_c Y t1 (mAt sz p) t2 (past + 1) t3 (by have := H.y1; omega) H.mo1 H.mo13 (by omega)
    rw [H.jd, G.gy, G.gm, G.gd] at q
    exact q
  · intro t1 t2 t3
    have q := from_greg_c y t1 g t2 D t3 G.lg
    rw [G.jd, H.iy, H.im, H.ig] at q
    exact q
  · intro t1 t2 t3
    have q := to_jdi_c (30 * (ny + oAt sz p + past - 1948440).fdiv 10631 + yI) t1 mI t2 (iL (ny + oAt sz p + past) - sY yI - sM mI + 1) t3
    rw [H.ji] at q
    exact q
  · intro t
    have q := civil_c _ t k G.c
    rw [G.ey, G.em, G.ed] at q
    exact q
  · intro t
    exact islamic_c _ t yI mI I
  · intro t
    exact from_jdh_c _ t Y (mAt sz p) (past + 1) H.H
local macro_rules | `(tactic| walk_at "call ref") => `(tactic| (k_here; (with_reducible show wpAny _ _ (call (Value.ref 172) [Value.int _ _]) _ _ _); (with_reducible rename Cnt _ => hc9); (have hm9 := monthV hc9); (clear hc9); obtain ⟨Y, mo, nu, le, hm9⟩ := hm9; (have hle9 := hm9.le29); k_dflt (refine' use4 (hm9.ca _) ?k1 ?k2 ?k3 ?k4 ?k5 ?kK ?kd ?ku ?_; (case k1 => k_asm); (case k2 => k_asm); (case k3 => k_asm); (case k4 => k_asm); (case k5 => k_asm); (case kK => first | exact rfl | assumption); (case kd => ktr_room); (case ku => ktr_units); k_whole; intro D9 t19 t29 t39 t49 c9 h9 tk9 F9 N9 l9; (try k_lt l9); (try k_sweep); (try dsimp only); (try k_fold))))
local macro_rules | `(tactic| walk_at "subscriptTail Name BinOp ref int") => `(tactic| (k_here; (with_reducible show wpAny _ _ (subscriptTail _ _ (Value.ref 144) (Value.int _ _)) _ _ _); k_dflt (refine' topItemN ?F ?X ?l ?i ?ka ?kb ?kc ?kd ?s ?g ?_; (case F => k_asm); (case X => k_asm); (case l => k_is); (case i => (repeat constructor)); (case ka => law_clear; (simp only [Int.fmod_eq_emod_of_nonneg, Int.reduceLE]); omega); (case kb => law_clear; (simp only [Int.fmod_eq_emod_of_nonneg, Int.reduceLE, List.length_cons, List.length_nil]); omega); (case kc => law_clear; (simp only [Int.fmod_eq_emod_of_nonneg, Int.reduceLE]); omega); (case kd => decide); (case s => with_unfolding_all rfl); (case g => (intro _; with_unfolding_all rfl)); k_whole); intro x9 t9 hx9))
local macro_rules | `(tactic| walk_at "JoinN") => `(tactic| k_dflt (refine' joinN_end ?j1 ?j3 ?j4 ?j5; (case j3 => k_asm); (case j4 => k_asm); (case j5 => first | (walk_at "mine_all"; done) | kcj_all); (case j1 => law_clear; (try simp only [Int.fmod_eq_emod_of_nonneg, Int.fdiv_eq_ediv_of_nonneg, Int.reduceLE]); omega)))
local macro_rules | `(tactic| walk_at "storeName") => `(tactic| (k_here; (with_reducible show wpAny _ _ (storeName _ (Str.ofString "past") (Value.int (Int.fmod _ _) _)) _ _ _); (with_reducible rename MonthV _ _ _ _ _ => hm9); k_dflt (refine my_store_mod hm9.le29 ?_); intro past9 h09 h19; (have hd9 := hm9.dy past9 h09 h19); (clear h09 h19 hm9); obtain ⟨y, g, D, a, b, e, P, hd9⟩ := hd9))
local macro_rules | `(tactic| walk_at "storeName") => `(tactic| (k_here; (with_reducible show wpAny _ _ (storeName _ (Str.ofString "parts") (Value.int (_ - _) _)) _ _ _); (with_reducible rename DayV _ _ _ _ _ _ _ _ _ _ _ _ => hd9); k_dflt (refine my_store_as (DayV.par hd9) ?_); (have q1 := hd9.lo); (have q2 := hd9.hi); (have q3 := hd9.r1); (have q4 := hd9.r2); (have q5 := hd9.r3)))
local macro_rules | `(tactic| walk_at "compareOp In int ref") => `(tactic| (k_here; k_dflt (refine' inNew ?N ?m ?i ?_; (case N => k_asm); (case m => first | exact List.Mem.head _ | k_mem); (case i => (repeat constructor)); k_whole)))
local macro_rules | `(tactic| walk_at "call ref") => `(tactic| (k_here; (with_reducible show wpAny _ _ (call (Value.ref 120) [Value.int _ _, Value.int _ _, Value.int _ _]) _ _ _); (rename DayV _ _ _ _ _ _ _ _ _ _ _ _ => hd9); k_dflt (refine' use3 (hd9.tg _ _ _) ?k1 ?k2 ?k3 ?k4 ?k5 ?kK ?kd ?ku ?_; (case k1 => k_asm); (case k2 => k_asm); (case k3 => k_asm); (case k4 => k_asm); (case k5 => k_asm); (case kK => first | exact rfl | assumption); (case kd => ktr_room); (case ku => ktr_units); k_whole; intro D9 t19 t29 t39 c9 h9 tk9 F9 N9 l9; (try k_lt l9); (try k_sweep); (try dsimp only); (try k_fold))))
local macro_rules | `(tactic| walk_at "call ref") => `(tactic| (k_here; (with_reducible show wpAny _ _ (call (Value.ref 141) [Value.int _ _, Value.int _ _, Value.int _ _]) _ _ _); (rename DayV _ _ _ _ _ _ _ _ _ _ _ _ => hd9); k_dflt (refine' use3 (hd9.fg _ _ _) ?k1 ?k2 ?k3 ?k4 ?k5 ?kK ?kd ?ku ?_; (case k1 => k_asm); (case k2 => k_asm); (case k3 => k_asm); (case k4 => k_asm); (case k5 => k_asm); (case kK => first | exact rfl | assumption); (case kd => ktr_room); (case ku => ktr_units); k_whole; intro D9 t19 t29 t39 c9 h9 tk9 F9 N9 l9; (try k_lt l9); (try k_sweep); (try dsimp only); (try k_fold))))
local macro_rules | `(tactic| walk_at "call ref") => `(tactic| (k_here; (with_reducible show wpAny _ _ (call (Value.ref 127) [Value.int _ _, Value.int _ _, Value.int _ _]) _ _ _); (rename DayV _ _ _ _ _ _ _ _ _ _ _ _ => hd9); k_dflt (refine' useI (hd9.tj _ _ _) ?k1 ?k2 ?k3 ?k4 ?k5 ?kK ?kd ?ku ?_; (case k1 => k_asm); (case k2 => k_asm); (case k3 => k_asm); (case k4 => k_asm); (case k5 => k_asm); (case kK => first | exact rfl | assumption); (case kd => ktr_room); (case ku => ktr_units); k_whole; intro t9 h9 tk9 F9 N9; (try k_sweep); (try dsimp only); (try k_fold))))
local macro_rules | `(tactic| walk_at "call ref") => `(tactic| (k_here; (with_reducible show wpAny _ _ (call (Value.ref 186) [Value.int _ _]) _ _ _); (rename DayV _ _ _ _ _ _ _ _ _ _ _ _ => hd9); k_dflt (refine' use3 (hd9.ci _) ?k1 ?k2 ?k3 ?k4 ?k5 ?kK ?kd ?ku ?_; (case k1 => k_asm); (case k2 => k_asm); (case k3 => k_asm); (case k4 => k_asm); (case k5 => k_asm); (case kK => first | exact rfl | assumption); (case kd => ktr_room); (case ku => ktr_units); k_whole; intro D9 t19 t29 t39 c9 h9 tk9 F9 N9 l9; (try k_lt l9); (try k_sweep); (try dsimp only); (try k_fold))))
local macro_rules | `(tactic| walk_at "call ref") => `(tactic| (k_here; (with_reducible show wpAny _ _ (call (Value.ref 179) [Value.int _ _]) _ _ _); (rename DayV _ _ _ _ _ _ _ _ _ _ _ _ => hd9); k_dflt (refine' use3 (hd9.isl _) ?k1 ?k2 ?k3 ?k4 ?k5 ?kK ?kd ?ku ?_; (case k1 => k_asm); (case k2 => k_asm); (case k3 => k_asm); (case k4 => k_asm); (case k5 => k_asm); (case kK => first | exact rfl | assumption); (case kd => ktr_room); (case ku => ktr_units); k_whole; intro D9 t19 t29 t39 c9 h9 tk9 F9 N9 l9; (try k_lt l9); (try k_sweep); (try dsimp only); (try k_fold))))
local macro_rules | `(tactic| walk_at "call ref") => `(tactic| (k_here; (with_reducible show wpAny _ _ (call (Value.ref 113) [Value.int _ _]) _ _ _); (rename DayV _ _ _ _ _ _ _ _ _ _ _ _ => hd9); k_dflt (refine' use3 (hd9.fh _) ?k1 ?k2 ?k3 ?k4 ?k5 ?kK ?kd ?ku ?_; (case k1 => k_asm); (case k2 => k_asm); (case k3 => k_asm); (case k4 => k_asm); (case k5 => k_asm); (case kK => first | exact rfl | assumption); (case kd => ktr_room); (case ku => ktr_units); k_whole; intro D9 t19 t29 t39 c9 h9 tk9 F9 N9 l9; (try k_lt l9); (try k_sweep); (try dsimp only); (try k_fold))))
local macro_rules | `(tactic| walk_at "ite") => `(tactic| (k_here; k_openite; with_reducible (first
  | (refine split_not ?_)
  | (refine ine_no rfl ?_)
  | ((rename DayV _ _ _ _ _ _ _ _ _ _ _ _ => hd9); (rename (List.any _ _ = true) => ha9); refine ine_no (DayV.rareP hd9 ha9) ?_)
  | ((rename DayV _ _ _ _ _ _ _ _ _ _ _ _ => hd9); (rename (_ = (4084946 : Int)) => ha9); refine ine_no (DayV.rare3 hd9 ha9) ?_)
  | ((rename DayV _ _ _ _ _ _ _ _ _ _ _ _ => hd9); refine ite_pos (decide_eq_true (DayV.lo hd9)) ?_)
  | ((rename DayV _ _ _ _ _ _ _ _ _ _ _ _ => hd9); refine ite_pos (decide_eq_true (DayV.hi hd9)) ?_)
  | (refine split_ine ?_ ?_ <;> intro _)
  | (refine split_ieq ?_ ?_ <;> intro _)
  | (refine split_dec ?_ ?_ <;> intro _)
  | (refine split_bool ?_ ?_ <;> intro _))))
local macro_rules | `(tactic| walk_at "JoinU") => `(tactic| k_dflt (refine' joinU_end ?j3 ?j4 ?j5; (case j3 => k_asm); (case j4 => k_asm); (case j5 => first | (walk_at "mine_all"; done) | kcj_all)))
theorem holds : PySem.Challenge.rw_vp0005_01.Holds := hd (by
  k_go0
  k_with_none
  k_with "exec If Compare cons cons" => (k_here; (fail_if_success (rename JoinMarkN _ => jm9)); k_dflt (refine' joinN (Str.ofString "count") ?ja ?jb ?_ ?_; (case ja => k_asm); (case jb => k_asm)); (all_goals (first | (intro (jm9 : JoinMarkN _); k_fold) | (intro v9 t9 h9 tk9 hc9 F9 N9; (try k_sweep); (try dsimp only); (try k_fold)))))
  k_with "exec If BoolOp cons nil" => (k_here; (fail_if_success (rename JoinMarkU => jm9)); k_dflt (refine' joinU ?ja ?jb ?_ ?_; (case ja => k_asm); (case jb => k_asm)); (all_goals (first | (intro (jm9 : JoinMarkU); k_fold) | (intro h9 tk9 F9 N9; (try k_sweep); (try dsimp only); (try k_fold)))))
  k_steps)
end Mine
theorem PySem.Challenge.cw_vp0005_01_holds : PySem.Challenge.rw_vp0005_01.Holds := by
  exact Mine.holds
