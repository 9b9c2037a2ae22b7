import PyProof.Rows.All
import Wide.All
import OpenK.AllK
import Wide.FinOn
import PySem.Challenge.RW_bn0009_01
set_option Elab.async false
set_option maxRecDepth 100000
set_option maxHeartbeats 8000000
namespace Bn
def isleapF (y : Int) : Bool := decide (y % 4 = 0 ∧ (y % 100 ≠ 0 ∨ y % 400 = 0))
def lenF (y m : Int) : Int := if m = 2 then (if isleapF y = true then 29 else 28) else if m = 4 ∨ m = 6 ∨ m = 9 ∨ m = 11 then 30 else 31
def adjF (y m : Int) : Int := if m ≤ 2 then 0 else if isleapF y = true then -1 else -2
def gregF (y m d : Int) : Int := 1721426 - 1 + 365*(y-1) + (y-1)/4 + -((y-1)/100) + (y-1)/400 + ((367*m-362)/12 + adjF y m + d)
def sixthF (k y : Int) : Bool :=
  decide ((k = 1 ∧ 14 < y ∧ (y % 400 = 0 ∨ (0 < y % 100 ∧ y % 4 = 0))) ∨ (k = 2 ∧ 16 < y ∧ (0 < y % 128 ∧ y % 4 = 0)) ∨ (¬ (k = 1 ∧ 14 < y) ∧ ¬ (k = 2 ∧ 16 < y) ∧ y % 4 = 3))
def sixthsF (k p : Int) : Int :=
  if k = 1 ∧ 14 < p then 3 + (p / 4 - 3) - p / 100 + p / 400 else if k = 2 ∧ 16 < p then 4 + (p / 4 - 4) - p / 128 else (p + 1) / 4
def agreedF (k y : Int) : Bool :=
  decide ((k = 1 ∧ y < 4001 ∧ (y % 400 < 100 ∨ y % 100 = 0 ∨ 12 < y % 100)) ∨ (k = 2 ∧ (y < 129 ∨ y % 128 = 0 ∨ 16 < y % 128)) ∨ (k ≠ 1 ∧ k ≠ 2))
/-- the days ahead of a year, by to_jd's own road -/
def yearF (k y : Int) : Int :=
  if k = 1 ∧ 15 ≤ y then (y - 13) / 4000 * 1460969 + (y - 13) % 4000 / 400 * 146097 + (y - 13) % 4000 % 400 / 100 * 36524 + (y - 13) % 4000 % 400 % 100 / 4 * 1461 + (y - 13) % 4000 % 400 % 100 % 4 * 365 + 4383
  else if k = 2 ∧ 17 ≤ y then (y - 17) / 128 * 46751 + (y - 17) % 128 / 4 * 1461 + (y - 17) % 128 % 4 * 365 + 5844
  else y / 4 * 1461 + y % 4 * 365 - 365
def frF (k y m d : Int) : Int := 2375840 + yearF k y + (m - 1) * 30 + d - 1
/-- from_jd of the Gregorian file, as it is written -/
def gyF (jd : Int) : Int :=
  if (jd - 1721426) % 146097 / 36524 = 4 ∨ (jd - 1721426) % 146097 % 36524 % 1461 / 365 = 4 then (jd - 1721426) / 146097 * 400 + (jd - 1721426) % 146097 / 36524 * 100 + (jd - 1721426) % 146097 % 36524 / 1461 * 4 + (jd - 1721426) % 146097 % 36524 % 1461 / 365
  else (jd - 1721426) / 146097 * 400 + (jd - 1721426) % 146097 / 36524 * 100 + (jd - 1721426) % 146097 % 36524 / 1461 * 4 + (jd - 1721426) % 146097 % 36524 % 1461 / 365 + 1
def ladjF (y yd : Int) : Int := if yd < 58 + (if isleapF y = true then 1 else 0) then 0 else if isleapF y = true then 1 else 2
def gmF (jd : Int) : Int := ((jd - gregF (gyF jd) 1 1 + ladjF (gyF jd) (jd - gregF (gyF jd) 1 1)) * 12 + 373) / 367
def gdF (jd : Int) : Int := jd - gregF (gyF jd) (gmF jd) 1 + 1
/-- from_jd of the republican file, as it is written -/
abbrev contF (k J : Int) : Prop := k = 0 ∨ (k = 1 ∧ J ≤ 4383) ∨ (k = 2 ∧ J ≤ 6209)
def hJ (k J : Int) : Int := if contF k J then J + 365 else if k = 1 then (J - 4383) % 1460969 % 146097 % 36524 else (J - 5844) % 46751
def hY (k J : Int) : Int := if contF k J then -1 else if k = 1 then (J - 4383) / 1460969 * 4000 + (J - 4383) % 1460969 / 146097 * 400 + (J - 4383) % 1460969 % 146097 / 36524 * 100 + 12 else (J - 5844) / 46751 * 128 + 16
def e4F (a j : Int) : Int := if j = 1460 then a - 1 else a
def eDF (j : Int) : Int := if j = 1460 then 365 else j % 365
def tY (J : Int) : Int := J / 1461 * 4 + e4F (J % 1461 / 365) (J % 1461)
def tD (J : Int) : Int := eDF (J % 1461)
theorem eDF_nonneg (x : Int) : 0 ≤ eDF x := by unfold eDF; split <;> omega
def fyF (k jd : Int) : Int := hY k (jd - 2375840) + tY (hJ k (jd - 2375840)) + 1
def fmF (k jd : Int) : Int := tD (hJ k (jd - 2375840)) / 30 + 1
def fdF (k jd : Int) : Int := tD (hJ k (jd - 2375840)) - tD (hJ k (jd - 2375840)) / 30 * 30 + 1
theorem sched_0 {k y m d : Int} (h : k = 0 ∨ (k = 1 ∧ y < 15) ∨ (k = 2 ∧ y < 17)) : 2375840 + (0 + 0 + 0 + y / 4 * 1461 + y % 4 * 365 + -365) + (m - 1) * 30 + d - 1 = frF k y m d := by
  unfold frF yearF
  rw [if_neg (by omega), if_neg (by omega)]
  generalize y / 4 = e1
  generalize y % 4 = e2
  omega
theorem sched_1 {k y m d : Int} (h : k = 1) (h2 : 15 ≤ y) : 2375840 + ((y - 13) / 4000 * 1460969 + (y - 13) % 4000 / 400 * 146097 + (y - 13) % 4000 % 400 / 100 * 36524 + (y - 13) % 4000 % 400 % 100 / 4 * 1461 + (y - 13) % 4000 % 400 % 100 % 4 * 365 + (365 * 12 + 3)) + (m - 1) * 30 + d - 1 = frF k y m d := by
  unfold frF yearF
  rw [if_pos (by omega)]
  generalize (y - 13) / 4000 = e1
  generalize (y - 13) % 4000 / 400 = e2
  generalize (y - 13) % 4000 % 400 / 100 = e3
  generalize (y - 13) % 4000 % 400 % 100 / 4 = e4
  generalize (y - 13) % 4000 % 400 % 100 % 4 = e5
  omega
theorem sched_2 {k y m d : Int} (h : k = 2) (h2 : 17 ≤ y) : 2375840 + (0 + 0 + (y - 17) / 128 * 46751 + (y - 17) % 128 / 4 * 1461 + (y - 17) % 128 % 4 * 365 + (365 * 16 + 4)) + (m - 1) * 30 + d - 1 = frF k y m d := by
  unfold frF yearF
  rw [if_neg (by omega), if_pos (by omega)]
  generalize (y - 17) / 128 = e1
  generalize (y - 17) % 128 / 4 = e2
  generalize (y - 17) % 128 % 4 = e3
  omega
theorem hJ_0 {k jd : Int} (h : k = 0 ∨ (k = 1 ∧ jd - 2375840 ≤ 4383) ∨ (k = 2 ∧ jd - 2375840 ≤ 6209)) : hJ k (jd - 2375840) = (jd - 2375840 + 365) := by
  have c : contF k (jd - 2375840) := by unfold contF; omega
  unfold hJ; rw [if_pos c]
theorem fy_0 {k jd : Int} (h : k = 0 ∨ (k = 1 ∧ jd - 2375840 ≤ 4383) ∨ (k = 2 ∧ jd - 2375840 ≤ 6209)) : 0 + 0 + 0 + (jd - 2375840 + 365) / 1461 * 4 + e4F ((jd - 2375840 + 365) % 1461 / 365) ((jd - 2375840 + 365) % 1461) + -1 + 1 = fyF k jd := by
  unfold fyF tY
  rw [hJ_0 h]
  unfold hY
  have c : contF k (jd - 2375840) := by unfold contF; omega
  rw [if_pos c]
  omega
theorem fm_0 {k jd : Int} (h : k = 0 ∨ (k = 1 ∧ jd - 2375840 ≤ 4383) ∨ (k = 2 ∧ jd - 2375840 ≤ 6209)) : eDF ((jd - 2375840 + 365) % 1461) / 30 + 1 = fmF k jd := by
  unfold fmF tD; rw [hJ_0 h]
theorem fd_0 {k jd : Int} (h : k = 0 ∨ (k = 1 ∧ jd - 2375840 ≤ 4383) ∨ (k = 2 ∧ jd - 2375840 ≤ 6209)) : eDF ((jd - 2375840 + 365) % 1461) - eDF ((jd - 2375840 + 365) % 1461) / 30 * 30 + 1 = fdF k jd := by
  unfold fdF tD; rw [hJ_0 h]
theorem hJ_1 {k jd : Int} (h : k = 1) (h2 : 4383 < jd - 2375840) : hJ k (jd - 2375840) = (jd - 2375840 - 365 * 12 - 3) % 1460969 % 146097 % 36524 := by
  have c : ¬ contF k (jd - 2375840) := by unfold contF; omega
  have e : jd - 2375840 - 365 * 12 - 3 = jd - 2375840 - 4383 := by omega
  rw [e]
  unfold hJ; rw [if_neg c, if_pos h]
theorem fy_1 {k jd : Int} (h : k = 1) (h2 : 4383 < jd - 2375840) : (jd - 2375840 - 365 * 12 - 3) / 1460969 * 4000 + (jd - 2375840 - 365 * 12 - 3) % 1460969 / 146097 * 400 + (jd - 2375840 - 365 * 12 - 3) % 1460969 % 146097 / 36524 * 100 + (jd - 2375840 - 365 * 12 - 3) % 1460969 % 146097 % 36524 / 1461 * 4 + e4F ((jd - 2375840 - 365 * 12 - 3) % 1460969 % 146097 % 36524 % 1461 / 365) ((jd - 2375840 - 365 * 12 - 3) % 1460969 % 146097 % 36524 % 1461) + 12 + 1 = fyF k jd := by
  unfold fyF tY
  rw [hJ_1 h h2]
  unfold hY
  have c : ¬ contF k (jd - 2375840) := by unfold contF; omega
  have e : jd - 2375840 - 365 * 12 - 3 = jd - 2375840 - 4383 := by omega
  rw [e]
  rw [if_neg c, if_pos h]
  omega
theorem fm_1 {k jd : Int} (h : k = 1) (h2 : 4383 < jd - 2375840) : eDF ((jd - 2375840 - 365 * 12 - 3) % 1460969 % 146097 % 36524 % 1461) / 30 + 1 = fmF k jd := by
  unfold fmF tD; rw [hJ_1 h h2]
theorem fd_1 {k jd : Int} (h : k = 1) (h2 : 4383 < jd - 2375840) : eDF ((jd - 2375840 - 365 * 12 - 3) % 1460969 % 146097 % 36524 % 1461) - eDF ((jd - 2375840 - 365 * 12 - 3) % 1460969 % 146097 % 36524 % 1461) / 30 * 30 + 1 = fdF k jd := by
  unfold fdF tD; rw [hJ_1 h h2]
theorem hJ_2 {k jd : Int} (h : k = 2) (h2 : 6209 < jd - 2375840) : hJ k (jd - 2375840) = (jd - 2375840 - 365 * 16 - 4) % 46751 := by
  have c : ¬ contF k (jd - 2375840) := by unfold contF; omega
  have e : jd - 2375840 - 365 * 16 - 4 = jd - 2375840 - 5844 := by omega
  rw [e]
  unfold hJ; rw [if_neg c, if_neg (by omega)]
theorem fy_2 {k jd : Int} (h : k = 2) (h2 : 6209 < jd - 2375840) : 0 + 0 + (jd - 2375840 - 365 * 16 - 4) / 46751 * 128 + (jd - 2375840 - 365 * 16 - 4) % 46751 / 1461 * 4 + e4F ((jd - 2375840 - 365 * 16 - 4) % 46751 % 1461 / 365) ((jd - 2375840 - 365 * 16 - 4) % 46751 % 1461) + 16 + 1 = fyF k jd := by
  unfold fyF tY
  rw [hJ_2 h h2]
  unfold hY
  have c : ¬ contF k (jd - 2375840) := by unfold contF; omega
  have e : jd - 2375840 - 365 * 16 - 4 = jd - 2375840 - 5844 := by omega
  rw [e]
  rw [if_neg c, if_neg (by omega)]
  omega
theorem fm_2 {k jd : Int} (h : k = 2) (h2 : 6209 < jd - 2375840) : eDF ((jd - 2375840 - 365 * 16 - 4) % 46751 % 1461) / 30 + 1 = fmF k jd := by
  unfold fmF tD; rw [hJ_2 h h2]
theorem fd_2 {k jd : Int} (h : k = 2) (h2 : 6209 < jd - 2375840) : eDF ((jd - 2375840 - 365 * 16 - 4) % 46751 % 1461) - eDF ((jd - 2375840 - 365 * 16 - 4) % 46751 % 1461) / 30 * 30 + 1 = fdF k jd := by
  unfold fdF tD; rw [hJ_2 h h2]
theorem lenF_pos (y m : Int) : 28 ≤ lenF y m ∧ lenF y m ≤ 31 := by unfold lenF; repeat' split <;> omega
def onY (k y m d : Int) : Int := if m < 13 ∨ d < (if sixthF k y = true then 6 else 5) then y else y + 1
def onM (k y m d : Int) : Int := if m < 13 then (if d < 30 then m else m + 1) else if d < (if sixthF k y = true then 6 else 5) then m else 1
def onD (k y m d : Int) : Int := if m < 13 then (if d < 30 then d + 1 else 1) else if d < (if sixthF k y = true then 6 else 5) then d + 1 else 1
def moY (y m d : Int) : Int := if d < lenF y m then y else if m < 12 then y else y + 1
def moM (y m d : Int) : Int := if d < lenF y m then m else if m < 12 then m + 1 else 1
def moD (y m d : Int) : Int := if d < lenF y m then d + 1 else 1
/-! plain laws: the years -/
theorem dstep (d n : Int) (hd : 0 < d) : ((n + 1) / d = n / d ∧ (n + 1) % d ≠ 0) ∨ ((n + 1) / d = n / d + 1 ∧ (n + 1) % d = 0) := by
  have h1 := Int.mul_ediv_add_emod n d
  have h2 := Int.emod_nonneg n (show d ≠ 0 by omega)
  have h3 := Int.emod_lt_of_pos n hd
  by_cases h : n % d + 1 < d
  · left
    have e : n + 1 = n % d + 1 + d * (n / d) := by omega
    have e1 : (n + 1) / d = n / d := by rw [e, Int.add_mul_ediv_left _ _ (by omega), Int.ediv_eq_zero_of_lt (by omega) h]; omega
    have e2 : (n + 1) % d = n % d + 1 := by rw [e, Int.add_mul_emod_self_left, Int.emod_eq_of_lt (by omega) h]
    exact ⟨e1, by omega⟩
  · right
    have e : n + 1 = d * (n / d + 1) := by rw [Int.mul_add, Int.mul_one]; omega
    have e1 : (n + 1) / d = n / d + 1 := by rw [e, Int.mul_ediv_cancel_left _ (by omega)]
    have e2 : (n + 1) % d = 0 := by rw [e, Int.mul_emod_right]
    exact ⟨e1, e2⟩
theorem romme_closed {n : Int} (h : 0 ≤ n) : n / 4000 * 1460969 + n % 4000 / 400 * 146097 + n % 4000 % 400 / 100 * 36524 + n % 4000 % 400 % 100 / 4 * 1461 + n % 4000 % 400 % 100 % 4 * 365 = 365 * n + n / 4 - n / 100 + n / 400 - n / 4000 := by
  have h1 : n % 4000 = n - 4000 * (n / 4000) := by omega
  have h2 : n % 4000 / 400 = n / 400 - 10 * (n / 4000) := by omega
  have h3 : n % 4000 % 400 = n % 400 := by omega
  rw [h2, h3]
  have h4 : n % 400 / 100 = n / 100 - 4 * (n / 400) := by omega
  have h5 : n % 400 % 100 = n % 100 := by omega
  rw [h4, h5]
  have h6 : n % 100 / 4 = n / 4 - 25 * (n / 100) := by omega
  have h7 : n % 100 % 4 = n % 4 := by omega
  have h8 : n % 4 = n - 4 * (n / 4) := by omega
  rw [h6, h7, h8]
  omega
theorem madler_closed {n : Int} (h : 0 ≤ n) : n / 128 * 46751 + n % 128 / 4 * 1461 + n % 128 % 4 * 365 = 365 * n + n / 4 - n / 128 := by
  have h6 : n % 128 / 4 = n / 4 - 32 * (n / 128) := by omega
  have h7 : n % 128 % 4 = n % 4 := by omega
  have h8 : n % 4 = n - 4 * (n / 4) := by omega
  rw [h6, h7, h8]
  omega
/-- the days ahead of a year, closed -/
theorem yearF_1 {y : Int} (h : 15 ≤ y) : yearF 1 y = 365 * (y - 13) + (y - 13) / 4 - (y - 13) / 100 + (y - 13) / 400 - (y - 13) / 4000 + 4383 := by
  unfold yearF
  rw [if_pos ⟨rfl, h⟩, romme_closed (by omega)]
theorem yearF_2 {y : Int} (h : 17 ≤ y) : yearF 2 y = 365 * (y - 17) + (y - 17) / 4 - (y - 17) / 128 + 5844 := by
  unfold yearF
  rw [if_neg (by omega), if_pos ⟨rfl, h⟩, madler_closed (by omega)]
theorem yearF_0 {k y : Int} (h : ¬ (k = 1 ∧ 15 ≤ y)) (h' : ¬ (k = 2 ∧ 17 ≤ y)) : yearF k y = 365 * (y - 1) + y / 4 := by
  unfold yearF
  rw [if_neg h, if_neg h']
  omega
theorem kcases {k : Int} (hk : 0 ≤ k ∧ k ≤ 2) : k = 0 ∨ k = 1 ∨ k = 2 := by omega
theorem year_step {k y : Int} (hk : 0 ≤ k ∧ k ≤ 2) (hy : 1 ≤ y) : yearF k (y + 1) - yearF k y = 365 ∨ yearF k (y + 1) - yearF k y = 366 := by
  rcases kcases hk with rfl | rfl | rfl
  · rw [yearF_0 (by omega) (by omega), yearF_0 (by omega) (by omega)]
    rcases dstep 4 y (by omega) with ⟨e, _⟩ | ⟨e, _⟩ <;> omega
  · by_cases h : 15 ≤ y
    · rw [yearF_1 h, yearF_1 (by omega)]
      have e0 : y + 1 - 13 = (y - 13) + 1 := by omega
      rw [e0]
      generalize y - 13 = n
      rcases dstep 4 n (by omega) with ⟨e1, f1⟩ | ⟨e1, f1⟩ <;> rcases dstep 100 n (by omega) with ⟨e2, f2⟩ | ⟨e2, f2⟩ <;> rcases dstep 400 n (by omega) with ⟨e3, f3⟩ | ⟨e3, f3⟩ <;> rcases dstep 4000 n (by omega) with ⟨e4, f4⟩ | ⟨e4, f4⟩ <;> rw [e1, e2, e3, e4] <;> first | omega | (clear e1 e2 e3 e4; omega)
    · by_cases h' : 15 ≤ y + 1
      · have e : y = 14 := by omega
        subst e; decide
      · rw [yearF_0 (by omega) (by omega), yearF_0 (by omega) (by omega)]
        omega
  · by_cases h : 17 ≤ y
    · rw [yearF_2 h, yearF_2 (by omega)]
      have e0 : y + 1 - 17 = (y - 17) + 1 := by omega
      rw [e0]
      generalize y - 17 = n
      rcases dstep 4 n (by omega) with ⟨e1, f1⟩ | ⟨e1, f1⟩ <;> rcases dstep 128 n (by omega) with ⟨e2, f2⟩ | ⟨e2, f2⟩ <;> rw [e1, e2] <;> first | omega | (clear e1 e2; omega)
    · by_cases h' : 17 ≤ y + 1
      · have e : y = 16 := by omega
        subst e; decide
      · rw [yearF_0 (by omega) (by omega), yearF_0 (by omega) (by omega)]
        omega
theorem sixths_0 {k p : Int} (h : ¬ (k = 1 ∧ 14 < p)) (h' : ¬ (k = 2 ∧ 16 < p)) : sixthsF k p = (p + 1) / 4 := by
  unfold sixthsF; rw [if_neg h, if_neg h']
theorem sixths_1 {p : Int} (h : 14 < p) : sixthsF 1 p = 3 + (p / 4 - 3) - p / 100 + p / 400 := by
  unfold sixthsF; rw [if_pos ⟨rfl, h⟩]
theorem sixths_2 {p : Int} (h : 16 < p) : sixthsF 2 p = 4 + (p / 4 - 4) - p / 128 := by
  unfold sixthsF; rw [if_neg (by omega), if_pos ⟨rfl, h⟩]
theorem sixth_0 {k y : Int} (h : ¬ (k = 1 ∧ 14 < y)) (h' : ¬ (k = 2 ∧ 16 < y)) : sixthF k y = decide (y % 4 = 3) := by
  unfold sixthF; refine decide_eq_decide.mpr ?_; constructor <;> omega
theorem sixth_1 {y : Int} (h : 14 < y) : sixthF 1 y = decide (y % 400 = 0 ∨ (0 < y % 100 ∧ y % 4 = 0)) := by
  unfold sixthF; refine decide_eq_decide.mpr ?_; constructor <;> omega
theorem sixth_2 {y : Int} (h : 16 < y) : sixthF 2 y = decide (0 < y % 128 ∧ y % 4 = 0) := by
  unfold sixthF; refine decide_eq_decide.mpr ?_; constructor <;> omega
theorem sixths_step {k y : Int} (hk : 0 ≤ k ∧ k ≤ 2) (hy : 1 ≤ y) : sixthsF k y - sixthsF k (y - 1) = if sixthF k y = true then 1 else 0 := by
  rcases kcases hk with rfl | rfl | rfl
  · rw [sixths_0 (by omega) (by omega), sixths_0 (by omega) (by omega), sixth_0 (by omega) (by omega)]
    simp only [decide_eq_true_eq]
    split <;> omega
  · by_cases h : 14 < y
    · rw [sixth_1 h, sixths_1 h]
      simp only [decide_eq_true_eq]
      by_cases h' : 14 < y - 1
      · rw [sixths_1 h']
        have e0 : y = (y - 1) + 1 := by omega
        generalize y - 1 = n at *
        subst e0
        rcases dstep 4 n (by omega) with ⟨e1, f1⟩ | ⟨e1, f1⟩ <;> rcases dstep 100 n (by omega) with ⟨e2, f2⟩ | ⟨e2, f2⟩ <;> rcases dstep 400 n (by omega) with ⟨e3, f3⟩ | ⟨e3, f3⟩ <;> rw [e1, e2, e3] <;> clear e1 e2 e3 <;> split <;> omega
      · have e : y = 15 := by omega
        subst e; decide
    · rw [sixths_0 (by omega) (by omega), sixths_0 (by omega) (by omega), sixth_0 (by omega) (by omega)]
      simp only [decide_eq_true_eq]
      split <;> omega
  · by_cases h : 16 < y
    · rw [sixth_2 h, sixths_2 h]
      simp only [decide_eq_true_eq]
      by_cases h' : 16 < y - 1
      · rw [sixths_2 h']
        have e0 : y = (y - 1) + 1 := by omega
        generalize y - 1 = n at *
        subst e0
        rcases dstep 4 n (by omega) with ⟨e1, f1⟩ | ⟨e1, f1⟩ <;> rcases dstep 128 n (by omega) with ⟨e2, f2⟩ | ⟨e2, f2⟩ <;> rw [e1, e2] <;> clear e1 e2 <;> split <;> omega
      · have e : y = 17 := by omega
        subst e; decide
    · rw [sixths_0 (by omega) (by omega), sixths_0 (by omega) (by omega), sixth_0 (by omega) (by omega)]
      simp only [decide_eq_true_eq]
      split <;> omega
theorem year_agreed {k y : Int} (hk : 0 ≤ k ∧ k ≤ 2) (hy : 1 ≤ y) (ha : agreedF k y = true) : yearF k y = 365 * (y - 1) + sixthsF k (y - 1) := by
  unfold agreedF at ha
  simp only [decide_eq_true_eq] at ha
  rcases kcases hk with rfl | rfl | rfl
  · rw [yearF_0 (by omega) (by omega), sixths_0 (by omega) (by omega)]
    omega
  · have ha : y < 4001 ∧ (y % 400 < 100 ∨ y % 100 = 0 ∨ 12 < y % 100) := by omega
    by_cases h : 15 ≤ y
    · rw [yearF_1 h]
      by_cases h' : 14 < y - 1
      · rw [sixths_1 h']
        obtain ⟨h1, h2⟩ := ha
        have a1 : (y - 13) / 4000 = 0 := by omega
        have a2 : (y - 13) / 4 = (y - 1) / 4 - 3 := by omega
        have a3 : (y - 13) / 400 - (y - 13) / 100 = (y - 1) / 400 - (y - 1) / 100 := by omega
        omega
      · have e : y = 15 := by omega
        subst e; decide
    · rw [yearF_0 (by omega) (by omega), sixths_0 (by omega) (by omega)]
      omega
  · have ha : y < 129 ∨ y % 128 = 0 ∨ 16 < y % 128 := by omega
    by_cases h : 17 ≤ y
    · rw [yearF_2 h]
      by_cases h' : 16 < y - 1
      · rw [sixths_2 h']
        have a2 : (y - 17) / 4 = (y - 1) / 4 - 4 := by omega
        have a3 : (y - 17) / 128 = (y - 1) / 128 := by omega
        omega
      · have e : y = 17 := by omega
        subst e; decide
    · rw [yearF_0 (by omega) (by omega), sixths_0 (by omega) (by omega)]
      omega
theorem year_size {k y : Int} (hk : 0 ≤ k ∧ k ≤ 2) (hy : 1 ≤ y) (ha : agreedF k y = true) (hb : agreedF k (y + 1) = true) : yearF k (y + 1) - yearF k y = if sixthF k y = true then 366 else 365 := by
  have e1 := year_agreed hk hy ha
  have e2 := year_agreed hk (show 1 ≤ y + 1 by omega) hb
  have e3 := sixths_step hk hy
  have e4 : y + 1 - 1 = y := by omega
  rw [e4] at e2
  rw [e1, e2]
  cases h : sixthF k y <;> simp [h] at e3 ⊢ <;> omega
theorem sixths_nonneg {k p : Int} (hk : 0 ≤ k ∧ k ≤ 2) (hp : 0 ≤ p) : 0 ≤ sixthsF k p := by
  unfold sixthsF
  split
  · omega
  · split <;> omega
/-! plain laws: from_jd tells the republican date back -/
theorem tail_digits {e f yd : Int} (hf : 0 ≤ f ∧ f ≤ 3) (hyd : 0 ≤ yd ∧ (yd ≤ 364 ∨ (yd = 365 ∧ f = 3))) : tY (1461 * e + (365 * f + yd)) = 4 * e + f ∧ tD (1461 * e + (365 * f + yd)) = yd := by
  have h1 : (1461 * e + (365 * f + yd)) / 1461 = e := by omega
  have h2 : (1461 * e + (365 * f + yd)) % 1461 = 365 * f + yd := by omega
  unfold tY tD
  rw [h1, h2]
  unfold e4F eDF
  by_cases h : 365 * f + yd = 1460
  · rw [if_pos h, if_pos h]; omega
  · rw [if_neg h, if_neg h]; omega
/-- a day's place in the year, from month and day -/
theorem md_of {m d : Int} (h1 : 1 ≤ d) (h2 : d ≤ 30) : ((m - 1) * 30 + d - 1) / 30 + 1 = m ∧ ((m - 1) * 30 + d - 1) - ((m - 1) * 30 + d - 1) / 30 * 30 + 1 = d := by
  omega
theorem core_0 {k y yd : Int} (hc : contF k (yearF k y + yd)) (h : ¬ (k = 1 ∧ 15 ≤ y)) (h' : ¬ (k = 2 ∧ 17 ≤ y)) (hyd : 0 ≤ yd ∧ (yd ≤ 364 ∨ (yd = 365 ∧ y % 4 = 3))) :
    hY k (yearF k y + yd) + tY (hJ k (yearF k y + yd)) + 1 = y ∧ tD (hJ k (yearF k y + yd)) = yd := by
  unfold hY hJ
  rw [if_pos hc, if_pos hc]
  have e : yearF k y + yd + 365 = 1461 * (y / 4) + (365 * (y % 4) + yd) := by
    unfold yearF; rw [if_neg h, if_neg h']; omega
  rw [e]
  have := tail_digits (e := y / 4) (f := y % 4) (yd := yd) (by omega) (by omega)
  rw [this.1, this.2]
  omega
theorem core_2c {y yd : Int} (hc : contF 2 (yearF 2 y + yd)) (h : 17 ≤ y) (hyd : 0 ≤ yd) : y = 17 ∧ yd ≤ 365 ∨ y = 18 ∧ yd = 0 := by
  rw [yearF_2 h] at hc
  unfold contF at hc
  omega
theorem core_1 {y yd a b c e f : Int} (hn : y - 13 = 4000 * a + (400 * b + (100 * c + (4 * e + f)))) (hy : 15 ≤ y) (ha : 0 ≤ a) (hb : 0 ≤ b ∧ b ≤ 9) (hc : 0 ≤ c ∧ c ≤ 3) (he : 0 ≤ e ∧ e ≤ 24) (hf : 0 ≤ f ∧ f ≤ 3) (hyd : 0 ≤ yd ∧ (yd ≤ 364 ∨ (yd = 365 ∧ f = 3 ∧ e ≤ 23))) :
    hY 1 (yearF 1 y + yd) + tY (hJ 1 (yearF 1 y + yd)) + 1 = y ∧ tD (hJ 1 (yearF 1 y + yd)) = yd := by
  have e0 : yearF 1 y + yd - 4383 = 1460969 * a + (146097 * b + (36524 * c + (1461 * e + (365 * f + yd)))) := by
    have g1 : (y - 13) / 4000 = a := by omega
    have g2 : (y - 13) / 400 = 10 * a + b := by omega
    have g3 : (y - 13) / 100 = 40 * a + 4 * b + c := by omega
    have g4 : (y - 13) / 4 = 1000 * a + 100 * b + 25 * c + e := by omega
    rw [yearF_1 hy, g1, g2, g3, g4, hn]
    omega
  have hcc : ¬ contF 1 (yearF 1 y + yd) := by unfold contF; omega
  unfold hY hJ
  rw [if_neg hcc, if_neg hcc, if_pos rfl, if_pos rfl, e0]
  have d1 : (1460969 * a + (146097 * b + (36524 * c + (1461 * e + (365 * f + yd))))) / 1460969 = a := by omega
  have d2 : (1460969 * a + (146097 * b + (36524 * c + (1461 * e + (365 * f + yd))))) % 1460969 = 146097 * b + (36524 * c + (1461 * e + (365 * f + yd))) := by omega
  have d3 : (146097 * b + (36524 * c + (1461 * e + (365 * f + yd)))) / 146097 = b := by omega
  have d4 : (146097 * b + (36524 * c + (1461 * e + (365 * f + yd)))) % 146097 = 36524 * c + (1461 * e + (365 * f + yd)) := by omega
  have d5 : (36524 * c + (1461 * e + (365 * f + yd))) / 36524 = c := by omega
  have d6 : (36524 * c + (1461 * e + (365 * f + yd))) % 36524 = 1461 * e + (365 * f + yd) := by omega
  rw [d1, d2, d3, d4, d5, d6]
  have := tail_digits (e := e) (f := f) (yd := yd) hf (by omega)
  rw [this.1, this.2]
  omega
theorem core_2 {y yd a e f : Int} (hn : y - 17 = 128 * a + (4 * e + f)) (hy : 17 ≤ y) (ha : 0 ≤ a) (he : 0 ≤ e ∧ e ≤ 31) (hf : 0 ≤ f ∧ f ≤ 3) (hyd : 0 ≤ yd ∧ (yd ≤ 364 ∨ (yd = 365 ∧ f = 3 ∧ e ≤ 30))) (hcc : ¬ contF 2 (yearF 2 y + yd)) :
    hY 2 (yearF 2 y + yd) + tY (hJ 2 (yearF 2 y + yd)) + 1 = y ∧ tD (hJ 2 (yearF 2 y + yd)) = yd := by
  have e0 : yearF 2 y + yd - 5844 = 46751 * a + (1461 * e + (365 * f + yd)) := by
    have g1 : (y - 17) / 128 = a := by omega
    have g4 : (y - 17) / 4 = 32 * a + e := by omega
    rw [yearF_2 hy, g1, g4, hn]
    omega
  unfold hY hJ
  rw [if_neg hcc, if_neg hcc, if_neg (by omega), if_neg (by omega), e0]
  have d1 : (46751 * a + (1461 * e + (365 * f + yd))) / 46751 = a := by omega
  have d2 : (46751 * a + (1461 * e + (365 * f + yd))) % 46751 = 1461 * e + (365 * f + yd) := by omega
  rw [d1, d2]
  have := tail_digits (e := e) (f := f) (yd := yd) hf (by omega)
  rw [this.1, this.2]
  omega
theorem core_13 {y yd : Int} (hy : y = 13 ∨ y = 14) (hyd : 0 ≤ yd ∧ yd ≤ 364) (hcc : ¬ contF 1 (yearF 1 y + yd)) :
    hY 1 (yearF 1 y + yd) + tY (hJ 1 (yearF 1 y + yd)) + 1 = y ∧ tD (hJ 1 (yearF 1 y + yd)) = yd := by
  have e0 : yearF 1 y + yd - 4383 = 1461 * 0 + (365 * (y - 13) + yd) := by
    rw [yearF_0 (by omega) (by omega)]
    omega
  unfold hY hJ
  rw [if_neg hcc, if_neg hcc, if_pos rfl, if_pos rfl, e0]
  have d1 : (1461 * 0 + (365 * (y - 13) + yd)) / 1460969 = 0 := by omega
  have d2 : (1461 * 0 + (365 * (y - 13) + yd)) % 1460969 = 1461 * 0 + (365 * (y - 13) + yd) := by omega
  have d3 : (1461 * 0 + (365 * (y - 13) + yd)) / 146097 = 0 := by omega
  have d4 : (1461 * 0 + (365 * (y - 13) + yd)) % 146097 = 1461 * 0 + (365 * (y - 13) + yd) := by omega
  have d5 : (1461 * 0 + (365 * (y - 13) + yd)) / 36524 = 0 := by omega
  have d6 : (1461 * 0 + (365 * (y - 13) + yd)) % 36524 = 1461 * 0 + (365 * (y - 13) + yd) := by omega
  rw [d1, d2, d3, d4, d5, d6]
  have := tail_digits (e := 0) (f := y - 13) (yd := yd) (by omega) (by omega)
  rw [this.1, this.2]
  omega
theorem core_all {k y yd : Int} (hk : 0 ≤ k ∧ k ≤ 2) (hy : 1 ≤ y) (hyd : 0 ≤ yd ∧ (yd ≤ 364 ∨ (yd = 365 ∧ sixthF k y = true ∧ agreedF k y = true ∧ ¬ (k = 1 ∧ y % 400 = 12)))) :
    hY k (yearF k y + yd) + tY (hJ k (yearF k y + yd)) + 1 = y ∧ tD (hJ k (yearF k y + yd)) = yd := by
  have hs0 : ¬ (k = 1 ∧ 14 < y) → ¬ (k = 2 ∧ 16 < y) → sixthF k y = true → y % 4 = 3 := by
    intro a b c; rw [sixth_0 a b] at c; simpa using c
  rcases kcases hk with rfl | rfl | rfl
  · refine core_0 (by unfold contF; omega) (by omega) (by omega) ⟨hyd.1, ?_⟩
    rcases hyd.2 with h | ⟨h, h1, _⟩
    · exact .inl h
    · exact .inr ⟨h, hs0 (by omega) (by omega) h1⟩
  · by_cases h15 : 15 ≤ y
    · refine core_1 (a := (y - 13) / 4000) (b := (y - 13) % 4000 / 400) (c := (y - 13) % 400 / 100) (e := (y - 13) % 100 / 4) (f := (y - 13) % 4) ?_ h15 ?_ ?_ ?_ ?_ ?_ ?_
      · clear hs0 hyd; omega
      · clear hs0 hyd; omega
      · clear hs0 hyd; omega
      · clear hs0 hyd; omega
      · clear hs0 hyd; omega
      · clear hs0 hyd; omega
      · refine ⟨hyd.1, ?_⟩
        rcases hyd.2 with h | ⟨h, h1, h2, h3⟩
        · exact .inl h
        · rw [sixth_1 (by omega)] at h1
          unfold agreedF at h2
          simp only [decide_eq_true_eq] at h1 h2
          have h2' : y % 400 < 100 ∨ y % 100 = 0 ∨ 12 < y % 100 := by omega
          have h3' : y % 400 ≠ 12 := by omega
          have h4 : y % 4 = 0 := by omega
          clear hs0 hyd h1 h2 h3
          refine .inr ⟨h, by omega, ?_⟩
          omega
    · by_cases hc : contF 1 (yearF 1 y + yd)
      · refine core_0 hc (by omega) (by omega) ⟨hyd.1, ?_⟩
        rcases hyd.2 with h | ⟨h, h1, _⟩
        · exact .inl h
        · exact .inr ⟨h, hs0 (by omega) (by omega) h1⟩
      · have hc' := hc
        rw [yearF_0 (by omega) (by omega)] at hc'
        unfold contF at hc'
        have hyd' : yd ≤ 365 := by omega
        by_cases hy13 : y = 13 ∨ y = 14
        · refine core_13 hy13 ⟨hyd.1, ?_⟩ hc
          rcases hyd.2 with h | ⟨h, h1, _⟩
          · exact h
          · have := hs0 (by omega) (by omega) h1
            omega
        · omega
  · by_cases hc : contF 2 (yearF 2 y + yd)
    · by_cases h17 : 17 ≤ y
      · have := core_2c hc h17 hyd.1
        rcases this with ⟨rfl, h⟩ | ⟨rfl, rfl⟩
        · have hyd' : yd ≤ 364 := by
            rcases hyd.2 with h | ⟨h, h1, _⟩
            · exact h
            · exact absurd h1 (by decide)
          have e : yearF 2 17 = 5844 := by decide
          rw [e] at hc ⊢
          unfold hY hJ
          rw [if_pos hc, if_pos hc]
          have e : 5844 + yd + 365 = 1461 * 4 + (365 * 1 + yd) := by omega
          rw [e]
          have := tail_digits (e := 4) (f := 1) (yd := yd) (by omega) (by omega)
          rw [this.1, this.2]
          omega
        · decide
      · refine core_0 hc (by omega) (by omega) ⟨hyd.1, ?_⟩
        rcases hyd.2 with h | ⟨h, h1, _⟩
        · exact .inl h
        · exact .inr ⟨h, hs0 (by omega) (by omega) h1⟩
    · by_cases h17 : 17 ≤ y
      · refine core_2 (a := (y - 17) / 128) (e := (y - 17) % 128 / 4) (f := (y - 17) % 4) ?_ h17 ?_ ?_ ?_ ?_ hc
        · clear hs0 hyd; omega
        · clear hs0 hyd; omega
        · clear hs0 hyd; omega
        · clear hs0 hyd; omega
        · refine ⟨hyd.1, ?_⟩
          rcases hyd.2 with h | ⟨h, h1, h2, h3⟩
          · exact .inl h
          · have h129 : y ≠ 16 := by omega
            rw [sixth_2 (by omega)] at h1
            unfold agreedF at h2
            simp only [decide_eq_true_eq] at h1 h2
            have h2' : y < 129 ∨ y % 128 = 0 ∨ 16 < y % 128 := by omega
            clear hs0 hyd h2 h3
            refine .inr ⟨h, by omega, ?_⟩
            omega
      · exfalso
        rw [yearF_0 (by omega) (by omega)] at hc
        unfold contF at hc
        have hyd' : yd ≤ 365 := by omega
        omega
/-- a date that to_jd takes (okF of BnD) -/
def okF' (k y m d : Int) : Prop := 1 ≤ d ∧ d ≤ 30 ∧ (m < 13 ∨ (m = 13 ∧ d ≤ 5 ∧ sixthF k y = false) ∨ (m = 13 ∧ d ≤ 6 ∧ sixthF k y = true))
theorem fr_back {k y m d : Int} (hk : 0 ≤ k ∧ k ≤ 2) (hy : 1 ≤ y) (hm : 1 ≤ m) (ho : okF' k y m d) (hb : m < 13 ∨ d < 6 ∨ (agreedF k y = true ∧ ¬ (k = 1 ∧ y % 400 = 12))) :
    fyF k (frF k y m d) = y ∧ fmF k (frF k y m d) = m ∧ fdF k (frF k y m d) = d := by
  obtain ⟨h1, h2, h3⟩ := ho
  have e : frF k y m d - 2375840 = yearF k y + ((m - 1) * 30 + d - 1) := by unfold frF; omega
  have := core_all (yd := (m - 1) * 30 + d - 1) hk hy (by
    refine ⟨by omega, ?_⟩
    rcases h3 with h3 | ⟨h3, h4, h5⟩ | ⟨h3, h4, h5⟩
    · left; omega
    · left; omega
    · by_cases h6 : d < 6
      · left; omega
      · right; exact ⟨by omega, h5, by rcases hb with h | h | h; · omega
                                       · omega
                                       · exact h⟩)
  unfold fyF fmF fdF
  rw [e, this.1, this.2]
  have := md_of (m := m) h1 h2
  exact ⟨rfl, this.1, this.2⟩
/-! plain laws: the Gregorian side -/
theorem g1_def (y : Int) : gregF y 1 1 = 1721426 + 365 * (y - 1) + (y - 1) / 4 - (y - 1) / 100 + (y - 1) / 400 := by
  unfold gregF adjF
  rw [if_pos (by omega)]
  omega
theorem months {m : Int} (h1 : 1 ≤ m) (h2 : m ≤ 12) : m = 1 ∨ m = 2 ∨ m = 3 ∨ m = 4 ∨ m = 5 ∨ m = 6 ∨ m = 7 ∨ m = 8 ∨ m = 9 ∨ m = 10 ∨ m = 11 ∨ m = 12 := by omega
/-- the days ahead of a month -/
def cumF (y m : Int) : Int := (367*m-362)/12 + adjF y m
theorem greg_cum (y m d : Int) : gregF y m d = gregF y 1 1 + cumF y m + d - 1 := by
  rw [g1_def]
  unfold gregF cumF
  omega
theorem cum_step {y m : Int} (h1 : 1 ≤ m) (h2 : m ≤ 11) : cumF y (m + 1) = cumF y m + lenF y m := by
  unfold cumF adjF lenF
  rcases months h1 (by omega) with rfl | rfl | rfl | rfl | rfl | rfl | rfl | rfl | rfl | rfl | rfl | rfl <;> cases isleapF y <;> first | decide | omega
theorem cum_1 (y : Int) : cumF y 1 = 0 := by
  unfold cumF adjF; rw [if_pos (by omega)]; decide
theorem cum_12 (y : Int) : cumF y 12 + 31 = if isleapF y = true then 366 else 365 := by
  unfold cumF adjF
  cases isleapF y <;> decide
theorem len_12 (y : Int) : lenF y 12 = 31 := by
  unfold lenF; simp
theorem len_1 (y : Int) : lenF y 1 = 31 := by
  unfold lenF; simp
theorem len_2 (y : Int) : 337 + lenF y 2 = if isleapF y = true then 366 else 365 := by
  unfold lenF
  cases isleapF y <;> decide
theorem leap_iff (y : Int) : isleapF y = true ↔ (y % 4 = 0 ∧ (y % 100 ≠ 0 ∨ y % 400 = 0)) := by
  unfold isleapF; simp only [decide_eq_true_eq]
theorem g1_step (y : Int) : gregF (y + 1) 1 1 = gregF y 1 1 + if isleapF y = true then 366 else 365 := by
  rw [g1_def, g1_def]
  have e : y + 1 - 1 = (y - 1) + 1 := by omega
  rw [e]
  have l := leap_iff y
  have e2 : y = y - 1 + 1 := by omega
  generalize y - 1 = n at *
  subst e2
  rcases dstep 4 n (by omega) with ⟨e1, f1⟩ | ⟨e1, f1⟩ <;> rcases dstep 100 n (by omega) with ⟨e2, f2⟩ | ⟨e2, f2⟩ <;> rcases dstep 400 n (by omega) with ⟨e3, f3⟩ | ⟨e3, f3⟩ <;> rw [e1, e2, e3] <;> clear e1 e2 e3 <;> split <;> rename_i hl <;> rw [l] at hl <;> clear l <;> omega
/-- a date of the Gregorian calendar -/
def okG (y m d : Int) : Prop := 1 ≤ m ∧ m ≤ 12 ∧ 1 ≤ d ∧ d ≤ lenF y m
theorem morrow_ok {y m d : Int} (h : okG y m d) : okG (moY y m d) (moM y m d) (moD y m d) := by
  obtain ⟨h1, h2, h3, h4⟩ := h
  unfold moY moM moD okG
  have p := lenF_pos y (m + 1)
  have q := len_1 (y + 1)
  by_cases c : d < lenF y m
  · simp only [if_pos c]; omega
  · simp only [if_neg c]
    by_cases c' : m < 12
    · simp only [if_pos c']; omega
    · simp only [if_neg c']; omega
theorem morrow_greg {y m d : Int} (h : okG y m d) : gregF (moY y m d) (moM y m d) (moD y m d) = gregF y m d + 1 := by
  obtain ⟨h1, h2, h3, h4⟩ := h
  unfold moY moM moD
  by_cases c : d < lenF y m
  · simp only [if_pos c]
    rw [greg_cum y m (d + 1), greg_cum y m d]; omega
  · simp only [if_neg c]
    by_cases c' : m < 12
    · simp only [if_pos c']
      rw [greg_cum y (m + 1) 1, greg_cum y m d, cum_step h1 (by omega)]; omega
    · simp only [if_neg c']
      have hm : m = 12 := by omega
      subst hm
      rw [g1_step, greg_cum y 12 d]
      have := cum_12 y
      rw [len_12] at *
      omega
/-- a day's place in the Gregorian year -/
theorem place_G {y m d : Int} (h : okG y m d) : 0 ≤ cumF y m + d - 1 ∧ (cumF y m + d - 1 ≤ 364 ∨ (cumF y m + d - 1 = 365 ∧ isleapF y = true)) := by
  obtain ⟨h1, h2, h3, h4⟩ := h
  unfold lenF at h4
  unfold cumF adjF
  rcases months h1 h2 with rfl | rfl | rfl | rfl | rfl | rfl | rfl | rfl | rfl | rfl | rfl | rfl <;> cases hl : isleapF y <;> simp [hl] at h4 ⊢ <;> omega
theorem gy_digits {q c k r yd : Int} (hc : 0 ≤ c ∧ c ≤ 3) (hk : 0 ≤ k ∧ k ≤ 24) (hr : 0 ≤ r ∧ r ≤ 3) (hyd : 0 ≤ yd ∧ (yd ≤ 364 ∨ (yd = 365 ∧ r = 3 ∧ (k ≤ 23 ∨ c = 3)))) :
    gyF (1721426 + (146097 * q + (36524 * c + (1461 * k + (365 * r + yd))))) = 400 * q + 100 * c + 4 * k + r + 1 := by
  unfold gyF
  have e : 1721426 + (146097 * q + (36524 * c + (1461 * k + (365 * r + yd)))) - 1721426 = 146097 * q + (36524 * c + (1461 * k + (365 * r + yd))) := by omega
  rw [e]
  have d1 : (146097 * q + (36524 * c + (1461 * k + (365 * r + yd)))) / 146097 = q := by omega
  have d2 : (146097 * q + (36524 * c + (1461 * k + (365 * r + yd)))) % 146097 = (36524 * c + (1461 * k + (365 * r + yd))) := by omega
  rw [d1, d2]
  rcases hyd.2 with h | ⟨h, h1, h2⟩
  · have d3 : (36524 * c + (1461 * k + (365 * r + yd))) / 36524 = c := by omega
    have d4 : (36524 * c + (1461 * k + (365 * r + yd))) % 36524 = (1461 * k + (365 * r + yd)) := by omega
    have d5 : (1461 * k + (365 * r + yd)) / 1461 = k := by omega
    have d6 : (1461 * k + (365 * r + yd)) % 1461 = 365 * r + yd := by omega
    have d7 : (365 * r + yd) / 365 = r := by omega
    rw [d3, d4, d5, d6, d7, if_neg (by omega)]
    omega
  · by_cases hk' : k ≤ 23
    · have d3 : (36524 * c + (1461 * k + (365 * r + yd))) / 36524 = c := by omega
      have d4 : (36524 * c + (1461 * k + (365 * r + yd))) % 36524 = (1461 * k + (365 * r + yd)) := by omega
      have d5 : (1461 * k + (365 * r + yd)) / 1461 = k := by omega
      have d6 : (1461 * k + (365 * r + yd)) % 1461 = 365 * r + yd := by omega
      have d7 : (365 * r + yd) / 365 = 4 := by omega
      rw [d3, d4, d5, d6, d7, if_pos (by omega)]
      omega
    · have hc3 : c = 3 := by omega
      have hk4 : k = 24 := by omega
      subst hc3; subst hk4; subst h; subst h1
      rw [if_pos (by decide)]
      omega
theorem greg_digits (y : Int) {yd : Int} : gregF y 1 1 + yd = 1721426 + (146097 * ((y - 1) / 400) + (36524 * ((y - 1) % 400 / 100) + (1461 * ((y - 1) % 100 / 4) + (365 * ((y - 1) % 4) + yd)))) := by
  rw [g1_def]
  omega
theorem gy_back {y m d : Int} (h : okG y m d) : gyF (gregF y m d) = y := by
  have p := place_G h
  rw [greg_cum y m d]
  have e : gregF y 1 1 + cumF y m + d - 1 = gregF y 1 1 + (cumF y m + d - 1) := by omega
  rw [e]
  generalize cumF y m + d - 1 = yd at *
  rw [greg_digits]
  have l := leap_iff y
  rw [gy_digits (by omega) (by omega) (by omega)]
  · clear l p h e; omega
  · refine ⟨p.1, ?_⟩
    rcases p.2 with h | ⟨h, h1⟩
    · exact .inl h
    · rw [l] at h1
      clear l p e
      refine .inr ⟨h, by omega, by omega⟩
theorem gm_back {y m d : Int} (h : okG y m d) : gmF (gregF y m d) = m := by
  unfold gmF
  rw [gy_back h]
  have e : gregF y m d - gregF y 1 1 = cumF y m + d - 1 := by rw [greg_cum y m d]; omega
  rw [e]
  obtain ⟨h1, h2, h3, h4⟩ := h
  unfold lenF at h4
  unfold cumF adjF ladjF
  clear e
  rcases months h1 h2 with rfl | rfl | rfl | rfl | rfl | rfl | rfl | rfl | rfl | rfl | rfl | rfl <;> cases hl : isleapF y <;> simp [hl] at h4 ⊢ <;> (try split) <;> omega
theorem gd_back {y m d : Int} (h : okG y m d) : gdF (gregF y m d) = d := by
  unfold gdF
  rw [gm_back h, gy_back h, greg_cum y m d, greg_cum y m 1]
  omega
/-! plain laws: the law's own Gregorian walk -/
def cv1 (N c y : Int) : Prop := 0 ≤ c ∧ gregF y 1 1 + c = N ∧ ((y % 400 = 1 ∧ c < 146097) ∨ (y % 400 = 101 ∧ c < 109573) ∨ (y % 400 = 201 ∧ c < 73049) ∨ (y % 400 = 301 ∧ c < 36525))
def lim1 (y : Int) : Int := if y % 400 = 301 then 36525 else 36524
theorem cv1_start (n : Int) : cv1 (n + 1721426) (n % 146097) (400 * (n / 146097) + 1) := by
  unfold cv1
  rw [g1_def]
  omega
theorem cv1_turn {N c y : Int} (h : cv1 N c y) (hc : lim1 y ≤ c) : cv1 N (c - 36524) (y + 100) ∧ (c - 36524).toNat < c.toNat := by
  unfold cv1 at *
  unfold lim1 at hc
  rw [g1_def] at *
  obtain ⟨h0, h1, h2⟩ := h
  have hy : y % 400 = 1 ∨ y % 400 = 101 ∨ y % 400 = 201 := by split at hc <;> omega
  have hc' : 36524 ≤ c := by split at hc <;> omega
  have e1 : (y + 100 - 1) / 4 = (y - 1) / 4 + 25 := by omega
  have e2 : (y + 100 - 1) / 100 = (y - 1) / 100 + 1 := by omega
  have e3 : (y + 100 - 1) / 400 = (y - 1) / 400 := by omega
  rw [e1, e2, e3]
  refine ⟨⟨by omega, by omega, ?_⟩, by omega⟩
  omega
def cv2 (N c y : Int) : Prop := 0 ≤ c ∧ gregF y 1 1 + c = N ∧ y % 4 = 1 ∧ (c + 1461 * ((y - 1) % 100 / 4) < 36524 ∨ (300 ≤ (y - 1) % 400 ∧ c + 1461 * ((y - 1) % 100 / 4) < 36525))
theorem cv2_start {N c y : Int} (h : cv1 N c y) (hc : c < lim1 y) : cv2 N c y := by
  unfold cv1 at h
  unfold lim1 at hc
  unfold cv2
  obtain ⟨h0, h1, h2⟩ := h
  refine ⟨h0, h1, by omega, ?_⟩
  have e : (y - 1) % 100 / 4 = 0 := by omega
  rw [e]
  split at hc <;> omega
theorem cv2_turn {N c y : Int} (h : cv2 N c y) (hc : 1461 ≤ c) : cv2 N (c - 1461) (y + 4) ∧ (c - 1461).toNat < c.toNat := by
  unfold cv2 at *
  rw [g1_def] at *
  obtain ⟨h0, h1, h2, h3⟩ := h
  have hy : (y - 1) % 100 / 4 ≤ 23 := by omega
  have e1 : (y + 4 - 1) / 4 = (y - 1) / 4 + 1 := by omega
  have e2 : (y + 4 - 1) / 100 = (y - 1) / 100 := by omega
  have e3 : (y + 4 - 1) / 400 = (y - 1) / 400 := by omega
  have e4 : (y + 4 - 1) % 100 / 4 = (y - 1) % 100 / 4 + 1 := by omega
  have e5 : (y + 4 - 1) % 400 = (y - 1) % 400 + 4 := by omega
  rw [e1, e2, e3, e4, e5]
  refine ⟨⟨by omega, by omega, by omega, ?_⟩, by omega⟩
  omega
/-- the fourth year of y's four -/
def cv3 (N c y : Int) : Prop := 0 ≤ c ∧ gregF y 1 1 + c = N ∧ (c + 365 * ((y - 1) % 4) < 1460 ∨ (c + 365 * ((y - 1) % 4) < 1461 ∧ isleapF (y + 3 - (y - 1) % 4) = true))
theorem cv3_start {N c y : Int} (h : cv2 N c y) (hc : c < 1461) : cv3 N c y := by
  unfold cv2 at h
  unfold cv3
  obtain ⟨h0, h1, h2, h3⟩ := h
  refine ⟨h0, h1, ?_⟩
  have e : (y - 1) % 4 = 0 := by omega
  rw [e, leap_iff]
  by_cases h5 : c < 1460
  · left; omega
  · right
    refine ⟨by omega, by omega, ?_⟩
    have : c = 1460 := by omega
    subst this
    clear h0 h1
    omega
theorem cv3_turn {N c y : Int} (h : cv3 N c y) (hc : 337 + lenF y 2 ≤ c) : cv3 N (c - 365) (y + 1) ∧ (c - 365).toNat < c.toNat := by
  rw [len_2] at hc
  unfold cv3 at *
  obtain ⟨h0, h1, h2⟩ := h
  have hr : (y - 1) % 4 ≤ 2 := by
    by_cases h : (y - 1) % 4 = 3
    · exfalso
      have e : y + 3 - (y - 1) % 4 = y := by omega
      rw [e] at h2
      split at hc
      · omega
      · rename_i hl
        rcases h2 with h2 | ⟨_, h2⟩
        · omega
        · exact hl h2
    · omega
  have hl : isleapF y ≠ true := by rw [ne_eq, leap_iff]; omega
  rw [if_neg hl] at hc
  rw [g1_step, if_neg hl]
  have e : (y + 1 - 1) % 4 = (y - 1) % 4 + 1 := by omega
  have e2 : y + 1 + 3 - ((y - 1) % 4 + 1) = y + 3 - (y - 1) % 4 := by omega
  rw [e, e2]
  refine ⟨⟨by omega, by omega, ?_⟩, by omega⟩
  rcases h2 with h2 | ⟨h2, h3⟩
  · left; omega
  · right; exact ⟨by omega, h3⟩
def cv4 (N y c m z : Int) : Prop := 0 ≤ c ∧ 1 ≤ m ∧ m ≤ 12 ∧ z = lenF y m ∧ gregF y m 1 + c = N ∧ N < gregF (y + 1) 1 1
theorem cv4_start {N c y : Int} (h : cv3 N c y) (hc : c < 337 + lenF y 2) : cv4 N y c 1 31 := by
  rw [len_2] at hc
  unfold cv3 at h
  unfold cv4
  obtain ⟨h0, h1, h2⟩ := h
  refine ⟨h0, by omega, by omega, (len_1 y).symm, h1, ?_⟩
  rw [g1_step]
  omega
theorem cv4_bound {N y c m z : Int} (h : cv4 N y c m z) (hc : z ≤ c) : m ≤ 11 := by
  unfold cv4 at *
  obtain ⟨h0, h1, h2, h3, h4, h5⟩ := h
  by_cases hm : m = 12
  · exfalso
    subst hm
    rw [g1_step] at h5
    rw [greg_cum y 12 1] at h4
    have := cum_12 y
    rw [len_12] at h3
    omega
  · omega
theorem cv4_turn {N y c m z : Int} (h : cv4 N y c m z) (hc : z ≤ c) : cv4 N y (c - z) (m + 1) (lenF y (m + 1)) ∧ (c - z).toNat < c.toNat := by
  have hm := cv4_bound h hc
  unfold cv4 at *
  obtain ⟨h0, h1, h2, h3, h4, h5⟩ := h
  have hp := lenF_pos y m
  have e : gregF y (m + 1) 1 = gregF y m 1 + lenF y m := by
    rw [greg_cum y (m + 1) 1, greg_cum y m 1, cum_step h1 hm]; omega
  refine ⟨⟨by omega, by omega, by omega, rfl, by omega, h5⟩, by omega⟩
theorem cv4_end {N y c m z : Int} (h : cv4 N y c m z) (hc : c < z) : okG y m (c + 1) ∧ gregF y m (c + 1) = N := by
  unfold cv4 at *
  obtain ⟨h0, h1, h2, h3, h4, h5⟩ := h
  refine ⟨⟨h1, h2, by omega, by omega⟩, ?_⟩
  rw [greg_cum y m (c + 1), ← h4, greg_cum y m 1]
  omega
/-! plain laws: onward -/
/-- the day's number by the published rule -/
def nuF (k y m d : Int) : Int := 2375840 + 365 * (y - 1) + sixthsF k (y - 1) + 30 * (m - 1) + d - 1
def dInv (k y m d : Int) : Prop := 1 ≤ y ∧ 1 ≤ m ∧ okF' k y m d
theorem onward_inv {k y m d : Int} (h : dInv k y m d) : dInv k (onY k y m d) (onM k y m d) (onD k y m d) := by
  obtain ⟨h1, h2, h3, h4, h5⟩ := h
  unfold onY onM onD dInv okF'
  by_cases c : m < 13
  · have c1 : m < 13 ∨ d < (if sixthF k y = true then 6 else 5) := .inl c
    simp only [if_pos c, if_pos c1]
    by_cases c2 : d < 30
    · simp only [if_pos c2]
      exact ⟨h1, h2, by omega, by omega, .inl c⟩
    · simp only [if_neg c2]
      refine ⟨h1, by omega, by omega, by omega, ?_⟩
      by_cases c3 : m + 1 < 13
      · exact .inl c3
      · cases hs : sixthF k y
        · exact .inr (.inl ⟨by omega, by omega, rfl⟩)
        · exact .inr (.inr ⟨by omega, by omega, rfl⟩)
  · by_cases c2 : d < (if sixthF k y = true then 6 else 5)
    · have c1 : m < 13 ∨ d < (if sixthF k y = true then 6 else 5) := .inr c2
      simp only [if_neg c, if_pos c1, if_pos c2]
      cases hs : sixthF k y
      · simp only [hs] at c2
        exact ⟨h1, h2, by omega, by omega, .inr (.inl ⟨by omega, by simp at c2; omega, rfl⟩)⟩
      · simp only [hs] at c2
        exact ⟨h1, h2, by omega, by omega, .inr (.inr ⟨by omega, by simp at c2; omega, rfl⟩)⟩
    · have c1 : ¬ (m < 13 ∨ d < (if sixthF k y = true then 6 else 5)) := by rintro (h | h); exact c h; exact c2 h
      simp only [if_neg c, if_neg c1, if_neg c2]
      exact ⟨by omega, by omega, by omega, by omega, .inl (by omega)⟩
theorem onward_nu {k y m d : Int} (hk : 0 ≤ k ∧ k ≤ 2) (h : dInv k y m d) : nuF k (onY k y m d) (onM k y m d) (onD k y m d) = nuF k y m d + 1 := by
  obtain ⟨h1, h2, h3, h4, h5⟩ := h
  have s := sixths_step hk h1
  unfold onY onM onD nuF
  by_cases c : m < 13
  · have c1 : m < 13 ∨ d < (if sixthF k y = true then 6 else 5) := .inl c
    simp only [if_pos c, if_pos c1]
    by_cases c2 : d < 30
    · simp only [if_pos c2]; omega
    · simp only [if_neg c2]; omega
  · by_cases c2 : d < (if sixthF k y = true then 6 else 5)
    · have c1 : m < 13 ∨ d < (if sixthF k y = true then 6 else 5) := .inr c2
      simp only [if_neg c, if_pos c1, if_pos c2]; omega
    · have c1 : ¬ (m < 13 ∨ d < (if sixthF k y = true then 6 else 5)) := by rintro (h | h); exact c h; exact c2 h
      simp only [if_neg c, if_neg c1, if_neg c2]
      have e : y + 1 - 1 = y := by omega
      rw [e]
      rcases h5 with h5 | ⟨h5, h6, h7⟩ | ⟨h5, h6, h7⟩
      · omega
      · simp [h7] at s c2; omega
      · simp [h7] at s c2; omega
theorem start_inv {k y p m d : Int} (hy : 1 ≤ y) (hp : 0 ≤ p) (hp' : p ≤ (if sixthF k y = true then 365 else 364)) (hm : 1 ≤ m) (hd : 1 ≤ d ∧ d ≤ 30) (e : 30 * (m - 1) + d = p + 1) : dInv k y m d := by
  refine ⟨hy, hm, hd.1, hd.2, ?_⟩
  cases hs : sixthF k y
  · simp [hs] at hp'
    by_cases c : m < 13
    · exact .inl c
    · exact .inr (.inl ⟨by omega, by omega, rfl⟩)
  · simp [hs] at hp'
    by_cases c : m < 13
    · exact .inl c
    · exact .inr (.inr ⟨by omega, by omega, rfl⟩)
theorem fr_nu {k y m d : Int} (hk : 0 ≤ k ∧ k ≤ 2) (hy : 1 ≤ y) (ha : agreedF k y = true) : frF k y m d = nuF k y m d := by
  unfold frF nuF
  rw [year_agreed hk hy ha]
  omega
theorem fr_place (k y m d : Int) : frF k y m d - frF k y 1 1 = 30 * (m - 1) + d - 1 := by
  unfold frF; omega
theorem fr_size (k y : Int) : frF k (y + 1) 1 1 - frF k y 1 1 = yearF k (y + 1) - yearF k y := by
  unfold frF; omega
theorem yearF_nonneg {k y : Int} (hk : 0 ≤ k ∧ k ≤ 2) (hy : 1 ≤ y) : 0 ≤ yearF k y := by
  unfold yearF
  split
  · omega
  · split <;> omega
theorem fr_first {k y m d : Int} (hk : 0 ≤ k ∧ k ≤ 2) (h : dInv k y m d) : 2375840 ≤ frF k y m d := by
  have := yearF_nonneg hk h.1
  obtain ⟨h1, h2, h3, h4, h5⟩ := h
  unfold frF; omega
theorem nu_first {k y m d : Int} (hk : 0 ≤ k ∧ k ≤ 2) (h : dInv k y m d) : 2375840 ≤ nuF k y m d := by
  obtain ⟨h1, h2, h3, h4, h5⟩ := h
  have := sixths_nonneg hk (show 0 ≤ y - 1 by omega)
  unfold nuF; omega
end Bn
open PySem PySem.W PySem.Calls PyProof.Rows
namespace Bn
set_option maxRecDepth 100000 in
set_option maxHeartbeats 8000000 in
open_top hd for PySem.Challenge.rw_bn0009_01
/-- what a call of the def at f does: for every state around it; n is the room of frames that it wants -/
def Cl (n : Nat) (f : Addr) (vs : List Value) (kw : List (PySem.Str × Value)) (pre : Prop) (R : Tok → Value) : Prop :=
  ∀ (w : World) (p : Program) (loose : List PySem.Str) (mean : ExcName → Option Value) (mg mb : PySem.Str → Option Value) (news : List (Addr × Obj))
    (dp un : Nat) (gd : Option (List Code)) (cn : PySem.Str) (cs : Scope) (a : Addr) (ccd : Value) (cl : List (PySem.Str × Addr)) (outer : List Env) (A₀ : Around) (base h₀ : Heap) (L : Addr) (m : PySem.Str → Option Value) (s : Shared) (Q E : Value → Shared → Prop),
    Below A₀ base outer h₀ → Fr h₀ L s.heap m → (Bn.hd.heap_39 w.params).In h₀ → News h₀ L s.heap news → Top p loose mean mg mb h₀ → cs.kind = .function →
    pre → dp + n < recursionLimit → un + 8 * n < cLine →
    (∀ (t : Tok) (h' : Heap) (tk' : Nat), Fr h₀ L h' m → News h₀ L h' news → Q (R t) { s with heap := h', toks := tk' }) →
    wpAny (model PySem.Challenge.rw_bn0009_01.row.prog w) (ktrTop dp un gd cn cs L a ccd cl outer) (PySem.call (.ref f) vs kw) Q E s
theorem use_cl {n : Nat} {f : Addr} {vs : List Value} {kw : List (PySem.Str × Value)} {pre : Prop} {R : Tok → Value} (C : Cl n f vs kw pre R)
    {w : World} {p : Program} {loose : List PySem.Str} {mean : ExcName → Option Value} {mg mb : PySem.Str → Option Value} {news : List (Addr × Obj)}
    {dp un : Nat} {gd : Option (List Code)} {cn : PySem.Str} {cs : Scope} {a : Addr} {ccd : Value} {cl : List (PySem.Str × Addr)} {outer : List Env} {A₀ : Around} {base h₀ : Heap} {L : Addr} {m : PySem.Str → Option Value} {s : Shared} {Q E : Value → Shared → Prop}
    (B : Below A₀ base outer h₀) (F : Fr h₀ L s.heap m) (X : (Bn.hd.heap_39 w.params).In h₀) (N : News h₀ L s.heap news) (T : Top p loose mean mg mb h₀) (hk : cs.kind = .function)
    (hp : pre) (hd : dp + n < recursionLimit) (hu : un + 8 * n < cLine)
    (ret : ∀ (t : Tok) (h' : Heap) (tk' : Nat), Fr h₀ L h' m → News h₀ L h' news → Q (R t) { s with heap := h', toks := tk' }) :
    wpAny (model PySem.Challenge.rw_bn0009_01.row.prog w) (ktrTop dp un gd cn cs L a ccd cl outer) (PySem.call (.ref f) vs kw) Q E s :=
  C _ _ _ _ _ _ _ _ _ _ _ _ _ _ _ _ _ _ _ _ _ _ _ _ B F X N T hk hp hd hu ret
/-- a made tuple of three ints -/
def tup3 (x y z : Int) (t u v : Tok) (c : Nat) : Obj := { cls := .type "tuple", data := .seq #[.int x t, .int y u, .int z v] c }
/-- what a call does that hands back a tuple of three ints -/
def Clt (n : Nat) (f : Addr) (vs : List Value) (kw : List (PySem.Str × Value)) (pre : Prop) (x y z : Int) : Prop :=
  ∀ (w : World) (p : Program) (loose : List PySem.Str) (mean : ExcName → Option Value) (mg mb : PySem.Str → Option Value) (news : List (Addr × Obj))
    (dp un : Nat) (gd : Option (List Code)) (cn : PySem.Str) (cs : Scope) (a : Addr) (ccd : Value) (cl : List (PySem.Str × Addr)) (outer : List Env) (A₀ : Around) (base h₀ : Heap) (L : Addr) (m : PySem.Str → Option Value) (s : Shared) (Q E : Value → Shared → Prop),
    Below A₀ base outer h₀ → Fr h₀ L s.heap m → (Bn.hd.heap_39 w.params).In h₀ → News h₀ L s.heap news → Top p loose mean mg mb h₀ → cs.kind = .function →
    pre → dp + n < recursionLimit → un + 8 * n < cLine →
    (∀ (D : Addr) (t u v : Tok) (c : Nat) (h' : Heap) (tk' : Nat), Fr h₀ L h' m → News h₀ L h' ((D, ({ cls := .type "tuple", data := .seq #[.int x t, .int y u, .int z v] c } : Obj)) :: news) → AllLt D news → Q (.ref D) { s with heap := h', toks := tk' }) →
    wpAny (model PySem.Challenge.rw_bn0009_01.row.prog w) (ktrTop dp un gd cn cs L a ccd cl outer) (PySem.call (.ref f) vs kw) Q E s
theorem use_clt {n : Nat} {f : Addr} {vs : List Value} {kw : List (PySem.Str × Value)} {pre : Prop} {x y z : Int} (C : Clt n f vs kw pre x y z)
    {w : World} {p : Program} {loose : List PySem.Str} {mean : ExcName → Option Value} {mg mb : PySem.Str → Option Value} {news : List (Addr × Obj)}
    {dp un : Nat} {gd : Option (List Code)} {cn : PySem.Str} {cs : Scope} {a : Addr} {ccd : Value} {cl : List (PySem.Str × Addr)} {outer : List Env} {A₀ : Around} {base h₀ : Heap} {L : Addr} {m : PySem.Str → Option Value} {s : Shared} {Q E : Value → Shared → Prop}
    (B : Below A₀ base outer h₀) (F : Fr h₀ L s.heap m) (X : (Bn.hd.heap_39 w.params).In h₀) (N : News h₀ L s.heap news) (T : Top p loose mean mg mb h₀) (hk : cs.kind = .function)
    (hp : pre) (hd : dp + n < recursionLimit) (hu : un + 8 * n < cLine)
    (ret : ∀ (D : Addr) (t u v : Tok) (c : Nat) (h' : Heap) (tk' : Nat), Fr h₀ L h' m → News h₀ L h' ((D, ({ cls := .type "tuple", data := .seq #[.int x t, .int y u, .int z v] c } : Obj)) :: news) → AllLt D news → Q (.ref D) { s with heap := h', toks := tk' }) :
    wpAny (model PySem.Challenge.rw_bn0009_01.row.prog w) (ktrTop dp un gd cn cs L a ccd cl outer) (PySem.call (.ref f) vs kw) Q E s :=
  C _ _ _ _ _ _ _ _ _ _ _ _ _ _ _ _ _ _ _ _ _ _ _ _ B F X N T hk hp hd hu ret
theorem clt_ret {x y z x' y' z' : Int} {h₀ h' : Heap} {L D : Addr} {mm : PySem.Str → Option Value} {news news' : List (Addr × Obj)} {s : Shared} {Q : Value → Shared → Prop} {t u v : Tok} {c tk' : Nat}
    (hret : ∀ (D : Addr) (t u v : Tok) (c : Nat) (h' : Heap) (tk' : Nat), Fr h₀ L h' mm → News h₀ L h' ((D, ({ cls := .type "tuple", data := .seq #[.int x t, .int y u, .int z v] c } : Obj)) :: news) → AllLt D news → Q (.ref D) { s with heap := h', toks := tk' })
    (ex : x' = x) (ey : y' = y) (ez : z' = z) (F : Fr h₀ L h' mm) (N : News h₀ L h' news') (hD : (D, ({ cls := .type "tuple", data := .seq #[.int x' t, .int y' u, .int z' v] c } : Obj)) ∈ news') (hs : ∀ p ∈ news, p ∈ news') (hl : AllLt D news) :
    Q (.ref D) { s with heap := h', toks := tk' } := by
  subst ex ey ez
  refine hret D t u v c h' tk' F (fun p hp => ?_) hl
  rcases List.mem_cons.mp hp with rfl | hp
  · exact N _ hD
  · exact N p (hs p hp)
section
variable {prog : Program} {w : World} {A : Around} {E : Value → Shared → Prop} {s : Shared} {Q : Value → Shared → Prop} {a b : Int} {t u : Tok}
end
section
variable {prog : Program} {w : World} {A : Around} {E : Value → Shared → Prop} {Q : Value → Shared → Prop} {a b : Int} {t u : Tok} {hp : Heap} {g : Array GenState} {d : Drawn} {X : Nat} {os : OsState}
theorem add_flat (h : ∀ (u : Tok) (tk : Nat), Q (.int (a + b) u) ⟨hp, g, d, tk, os⟩) : wpAny (model prog w) A (binaryOp .Add (.int a t) (.int b u)) Q E ⟨hp, g, d, X, os⟩ := PySem.P.add_int (h _ _)
theorem iadd_flat (h : ∀ (u : Tok) (tk : Nat), Q (.int (a + b) u) ⟨hp, g, d, tk, os⟩) : wpAny (model prog w) A (inplaceOp .Add (.int a t) (.int b u)) Q E ⟨hp, g, d, X, os⟩ := PySem.P.iadd_int (h _ _)
theorem sub_flat (h : ∀ (u : Tok) (tk : Nat), Q (.int (a - b) u) ⟨hp, g, d, tk, os⟩) : wpAny (model prog w) A (binaryOp .Sub (.int a t) (.int b u)) Q E ⟨hp, g, d, X, os⟩ := PySem.P.sub_int (h _ _)
theorem isub_flat (h : ∀ (u : Tok) (tk : Nat), Q (.int (a - b) u) ⟨hp, g, d, tk, os⟩) : wpAny (model prog w) A (inplaceOp .Sub (.int a t) (.int b u)) Q E ⟨hp, g, d, X, os⟩ := PySem.P.isub_int (h _ _)
theorem mul_flat (hm : IntMulOk a b) (h : ∀ (u : Tok) (tk : Nat), Q (.int (a * b) u) ⟨hp, g, d, tk, os⟩) : wpAny (model prog w) A (binaryOp .Mult (.int a t) (.int b u)) Q E ⟨hp, g, d, X, os⟩ := PySem.P.mul_int (h _ _) hm
theorem cint_flat {M : Model} {env : Env} {n : Int} {k : Nat} {pos : Pos} (h : ∀ (u : Tok) (tk : Nat), Q (.int n u) ⟨hp, g, d, tk, os⟩) : wpAny M A (eval (.Constant (.int n) k pos) env) Q E ⟨hp, g, d, X, os⟩ := wpAny_Constant_int (h _ _)
theorem cstr_flat {M : Model} {env : Env} {n : PySem.Str} {k : Nat} {pos : Pos} (h : ∀ (u : Tok) (tk : Nat), Q (.str n u) ⟨hp, g, d, tk, os⟩) : wpAny M A (eval (.Constant (.str n) k pos) env) Q E ⟨hp, g, d, X, os⟩ := PySem.Calls.Constant_str (h _ _)
theorem neg_flat (h : ∀ (u : Tok) (tk : Nat), Q (.int (-a) u) ⟨hp, g, d, tk, os⟩) : wpAny (model prog w) A (unaryOp .USub (.int a t)) Q E ⟨hp, g, d, X, os⟩ := PySem.P.neg_int (h _ _)
theorem st_flat {M : Model} {h₀ : Heap} {L l : Addr} {m : PySem.Str → Option Value} {news : List (Addr × Obj)} {name x : PySem.Str} {scope : Scope} {cd v : Value} {Q : Unit → Shared → Prop} (F : Fr h₀ L hp m) (N : News h₀ L hp news)
    (h : ∀ (h' : Heap) (tk : Nat), Fr h₀ L h' (fun y => if y = x then some v else m y) → News h₀ L h' news → Q () ⟨h', g, d, tk, os⟩)
    (hk : scope.kind = .function) (hl : (envOf name scope L l cd).kindOf x = some .local) : wpAny M A (storeName (envOf name scope L l cd) x v) Q E ⟨hp, g, d, X, os⟩ :=
  stN (s := ⟨hp, g, d, X, os⟩) F N (fun h' F' N' => h h' _ F' N') hk hl
theorem tup_flat {M : Model} {h₀ : Heap} {L : Addr} {m : PySem.Str → Option Value} {news : List (Addr × Obj)} {vs : List Value} (F : Fr h₀ L hp m) (N : News h₀ L hp news)
    (h : ∀ (D : Addr) (h' : Heap) (tk : Nat), Fr h₀ L h' m → News h₀ L h' ((D, ({ cls := .type "tuple", data := .seq vs.toArray } : Obj)) :: news) → (∀ p ∈ news, p.1 < D) → Q (.ref D) ⟨h', g, d, tk, os⟩) (hz : vs.length ≤ sizeLine) :
    wpAny M A (newTuple vs) Q E ⟨hp, g, d, X, os⟩ :=
  newTuple_N (s := ⟨hp, g, d, X, os⟩) F N (fun h' F' N' => h _ h' _ F' N' fun p hp => Heap.lt_size (N p hp).1) hz
/-- // and % by a number above 0, in Lean's own / and % -/
theorem div_lit (hb : 0 < b) (hB : b < 1073741824) (h : ∀ (u : Tok) (tk : Nat), Q (.int (a / b) u) ⟨hp, g, d, tk, os⟩) : wpAny (model prog w) A (binaryOp .FloorDiv (.int a t) (.int b u)) Q E ⟨hp, g, d, X, os⟩ := by
  refine floordiv_int (by omega) ?_ (Or.inl (PyProof.noPylong_small (by omega)))
  rw [Int.fdiv_eq_ediv_of_nonneg a (by omega)]
  exact h _ _
theorem mod_lit (hb : 0 < b) (h : ∀ (u : Tok) (tk : Nat), Q (.int (a % b) u) ⟨hp, g, d, tk, os⟩) : wpAny (model prog w) A (binaryOp .Mod (.int a t) (.int b u)) Q E ⟨hp, g, d, X, os⟩ := by
  refine mod_int' (by omega) ?_
  rw [Int.fmod_eq_emod_of_nonneg a (by omega)]
  exact h _ _
theorem abs_lit (h : ∀ (u : Tok) (tk : Nat), Q (.int (a.natAbs : Int) u) ⟨hp, g, d, tk, os⟩) : wpAny (model prog w) A (call (.builtin "abs") [.int a t]) Q E ⟨hp, g, d, X, os⟩ := by
  refine call_abs_int fun u tk => ?_
  have e : (if a < 0 then -a else a) = (a.natAbs : Int) := by split <;> omega
  rw [e]
  exact h u tk
theorem absdiv (ha : 0 ≤ a) (hb : 0 < b) (hB : b < 1073741824) (h : ∀ (u : Tok) (tk : Nat), Q (.int (a / b) u) ⟨hp, g, d, tk, os⟩) :
    wpAny (model prog w) A (binaryOp .FloorDiv (.int (a.natAbs : Int) t) (.int (b.natAbs : Int) u)) Q E ⟨hp, g, d, X, os⟩ := by
  have e1 : (a.natAbs : Int) = a := by omega
  have e2 : (b.natAbs : Int) = b := by omega
  rw [e1, e2]
  exact div_lit hb hB h
theorem gentok {M : Model} {α : Type} {c : Sem α} {Q : α → Shared → Prop} {hp : Heap} {g : Array GenState} {d : Drawn} {X : Nat} {os : OsState} (h : ∀ tk : Nat, wpAny M A c Q E ⟨hp, g, d, tk, os⟩) : wpAny M A c Q E ⟨hp, g, d, X, os⟩ := h X
end
theorem ofs_inj (a b : String) : (PySem.Str.ofString a = PySem.Str.ofString b) = (a = b) := by
  refine propext ⟨fun h => ?_, fun h => by rw [h]⟩
  rw [PySem.Str.ofString_eq_toList, PySem.Str.ofString_eq_toList] at h
  have h1 : (a.toList.map Char.toNat).toArray = (b.toList.map Char.toNat).toArray := by injection h
  have h2 : a.toList.map Char.toNat = b.toList.map Char.toNat := by simpa using h1
  have h3 : a.toList = b.toList := (List.map_inj_right fun x y e => Char.toNat_inj.mp e).mp h2
  exact String.toList_inj.mp h3
section
variable {g h : Heap} {L : Addr} {x1 x2 x3 x4 : PySem.Str} {v1 v2 v3 v4 : Value}
theorem look_cons {y x : PySem.Str} {v : Value} {l : List (PySem.Str × Value)} : List.lookup y ((x, v) :: l) = if y = x then some v else List.lookup y l := by
  rw [List.lookup_cons]
  cases hb : (y == x)
  · rw [if_neg (by intro h; rw [h] at hb; simp at hb)]
  · rw [if_pos (by simpa using hb)]
theorem fr_look1 (F : Fr g L h (fun y => List.lookup y [(x1, v1)])) : Fr g L h (fun y => if y = x1 then some v1 else none) := by
  simpa only [look_cons, List.lookup_nil] using F
theorem fr_look2 (F : Fr g L h (fun y => List.lookup y [(x1, v1), (x2, v2)])) : Fr g L h (fun y => if y = x1 then some v1 else if y = x2 then some v2 else none) := by
  simpa only [look_cons, List.lookup_nil] using F
theorem fr_look3 (F : Fr g L h (fun y => List.lookup y [(x1, v1), (x2, v2), (x3, v3)])) : Fr g L h (fun y => if y = x1 then some v1 else if y = x2 then some v2 else if y = x3 then some v3 else none) := by
  simpa only [look_cons, List.lookup_nil] using F
theorem fr_look4 (F : Fr g L h (fun y => List.lookup y [(x1, v1), (x2, v2), (x3, v3), (x4, v4)])) : Fr g L h (fun y => if y = x1 then some v1 else if y = x2 then some v2 else if y = x3 then some v3 else if y = x4 then some v4 else none) := by
  simpa only [look_cons, List.lookup_nil] using F
end
/-- ways that meet: one name holds an int, all else stands -/
def JI (h₀ : Heap) (L : Addr) (mm : PySem.Str → Option Value) (news : List (Addr × Obj)) (s : Shared) (x : PySem.Str) (v : Int) (f : Flow) (s' : Shared) : Prop :=
  ∃ (t : Tok) (h' : Heap) (tk : Nat), f = .next ∧ s' = { s with heap := h', toks := tk } ∧ Fr h₀ L h' (fun y => if y = x then some (.int v t) else mm y) ∧ News h₀ L h' news
section
variable {M : Model} {A : Around} {E : Value → Shared → Prop} {Q : Flow → Shared → Prop} {s : Shared} {h₀ h' : Heap} {L : Addr} {mm : PySem.Str → Option Value} {news news' : List (Addr × Obj)} {x : PySem.Str} {v v' : Int} {t : Tok} {tk : Nat} {c : Sem Flow}
theorem join_int (x : PySem.Str) (v : Int) (_F : Fr h₀ L s.heap mm) (_N : News h₀ L s.heap news) (hc : wpAny M A c (JI h₀ L mm news s x v) E s)
    (hk : ∀ (t : Tok) (h' : Heap) (tk : Nat), Fr h₀ L h' (fun y => if y = x then some (.int v t) else mm y) → News h₀ L h' news → Q .next { s with heap := h', toks := tk }) : wpAny M A c Q E s := by
  refine wpAny_mono hc (fun f s' hq => ?_) fun _ _ h => h
  obtain ⟨t, h', tk, rfl, rfl, F, N⟩ := hq
  exact hk t h' tk F N
theorem ji_new (e : v' = v) (F : Fr h₀ L h' (fun y => if y = x then some (.int v' t) else mm y)) (N : News h₀ L h' news') (hs : ∀ p ∈ news, p ∈ news') : JI h₀ L mm news s x v .next { s with heap := h', toks := tk } := by
  subst e
  exact ⟨t, h', tk, rfl, rfl, F, fun p hp => N p (hs p hp)⟩
theorem ji_old (hx : mm x = some (.int v' t)) (e : v' = v) (F : Fr h₀ L h' mm) (N : News h₀ L h' news') (hs : ∀ p ∈ news, p ∈ news') : JI h₀ L mm news s x v .next { s with heap := h', toks := tk } := by
  subst e
  have em : mm = fun y => if y = x then some (.int v' t) else mm y := by
    funext y
    by_cases h : y = x
    · rw [if_pos h, h]; exact hx
    · rw [if_neg h]
  refine ⟨t, h', tk, rfl, rfl, ?_, fun p hp => N p (hs p hp)⟩
  rw [← em]; exact F
theorem join_of (x : PySem.Str) (f : Int → Int) {j : Int} {t0 : Tok} (_hx : mm x = some (.int j t0)) (F : Fr h₀ L s.heap mm) (N : News h₀ L s.heap news) (hc : wpAny M A c (JI h₀ L mm news s x (f j)) E s)
    (hk : ∀ (t : Tok) (h' : Heap) (tk : Nat), Fr h₀ L h' (fun y => if y = x then some (.int (f j) t) else mm y) → News h₀ L h' news → Q .next { s with heap := h', toks := tk }) : wpAny M A c Q E s := join_int x (f j) F N hc hk
/-- ways that meet: two names hold ints -/
def JI2 (h₀ : Heap) (L : Addr) (mm : PySem.Str → Option Value) (news : List (Addr × Obj)) (s : Shared) (x1 : PySem.Str) (v1 : Int) (x2 : PySem.Str) (v2 : Int) (f : Flow) (s' : Shared) : Prop :=
  ∃ (t1 t2 : Tok) (h' : Heap) (tk : Nat), f = .next ∧ s' = { s with heap := h', toks := tk } ∧ Fr h₀ L h' (fun y => if y = x2 then some (.int v2 t2) else if y = x1 then some (.int v1 t1) else mm y) ∧ News h₀ L h' news
theorem join_two (x1 x2 : PySem.Str) (f1 f2 : Int → Int → Int) {j1 j2 : Int} {t01 t02 : Tok} (_h1 : mm x1 = some (.int j1 t01)) (_h2 : mm x2 = some (.int j2 t02)) (_F : Fr h₀ L s.heap mm) (_N : News h₀ L s.heap news) (hc : wpAny M A c (JI2 h₀ L mm news s x1 (f1 j1 j2) x2 (f2 j1 j2)) E s)
    (hk : ∀ (t1 t2 : Tok) (h' : Heap) (tk : Nat), Fr h₀ L h' (fun y => if y = x2 then some (.int (f2 j1 j2) t2) else if y = x1 then some (.int (f1 j1 j2) t1) else mm y) → News h₀ L h' news → Q .next { s with heap := h', toks := tk }) : wpAny M A c Q E s := by
  refine wpAny_mono hc (fun f s' hq => ?_) fun _ _ h => h
  obtain ⟨t1, t2, h', tk, rfl, rfl, F, N⟩ := hq
  exact hk t1 t2 h' tk F N
theorem ji2_both {x1 x2 : PySem.Str} {v1 v1' v2 v2' : Int} {t1 t2 : Tok} (e1 : v1' = v1) (e2 : v2' = v2) (F : Fr h₀ L h' (fun y => if y = x2 then some (.int v2' t2) else if y = x1 then some (.int v1' t1) else mm y)) (N : News h₀ L h' news') (hs : ∀ p ∈ news, p ∈ news') :
    JI2 h₀ L mm news s x1 v1 x2 v2 .next { s with heap := h', toks := tk } := by
  subst e1; subst e2
  exact ⟨t1, t2, h', tk, rfl, rfl, F, fun p hp => N p (hs p hp)⟩
theorem ji2_one {x1 x2 : PySem.Str} {v1 v1' v2 v2' : Int} {t1 t2 : Tok} (hx : mm x1 = some (.int v1' t1)) (e1 : v1' = v1) (e2 : v2' = v2) (F : Fr h₀ L h' (fun y => if y = x2 then some (.int v2' t2) else mm y)) (N : News h₀ L h' news') (hs : ∀ p ∈ news, p ∈ news') :
    JI2 h₀ L mm news s x1 v1 x2 v2 .next { s with heap := h', toks := tk } := by
  subst e1; subst e2
  have em : mm = fun y => if y = x1 then some (.int v1' t1) else mm y := by
    funext y
    by_cases h : y = x1
    · rw [if_pos h, h]; exact hx
    · rw [if_neg h]
  refine ⟨t1, t2, h', tk, rfl, rfl, ?_, fun p hp => N p (hs p hp)⟩
  rw [em] at F; exact F
/-- ways that meet: nothing is turned -/
def J0 (h₀ : Heap) (L : Addr) (mm : PySem.Str → Option Value) (news : List (Addr × Obj)) (s : Shared) (f : Flow) (s' : Shared) : Prop :=
  ∃ (h' : Heap) (tk : Nat), f = .next ∧ s' = { s with heap := h', toks := tk } ∧ Fr h₀ L h' mm ∧ News h₀ L h' news
theorem join_0 (_F : Fr h₀ L s.heap mm) (_N : News h₀ L s.heap news) (hc : wpAny M A c (J0 h₀ L mm news s) E s)
    (hk : ∀ (h' : Heap) (tk : Nat), Fr h₀ L h' mm → News h₀ L h' news → Q .next { s with heap := h', toks := tk }) : wpAny M A c Q E s := by
  refine wpAny_mono hc (fun f s' hq => ?_) fun _ _ h => h
  obtain ⟨h', tk, rfl, rfl, F, N⟩ := hq
  exact hk h' tk F N
theorem j0_end (F : Fr h₀ L h' mm) (N : News h₀ L h' news') (hs : ∀ p ∈ news, p ∈ news') : J0 h₀ L mm news s .next { s with heap := h', toks := tk } :=
  ⟨h', tk, rfl, rfl, F, fun p hp => N p (hs p hp)⟩
end
/-- equality of two items that are ints or texts -/
def veq : Value → Value → Bool
  | .int a _, .int b _ => b == a
  | .str a _, .str b _ => b == a
  | _, _ => false
def plainV : Value → Bool
  | .int _ _ => true
  | .str _ _ => true
  | _ => false
theorem veq_at {A : Around} {s : Shared} : ∀ {x y : Value}, plainV x = true → plainV y = true → PySem.SeqAt.EqAt A s y x (veq x y)
  | .int a t, .int b u, _, _ => PySem.SeqAt.EqAt.int_int b u a t
  | .int a t, .str b u, _, _ => PySem.SeqAt.EqAt.str_int b u a t
  | .str a t, .int b u, _, _ => PySem.SeqAt.EqAt.int_str b u a t
  | .str a t, .str b u, _, _ => PySem.SeqAt.EqAt.str_str b u a t
theorem in_tup {prog : Program} {w : World} {A : Around} {E : Value → Shared → Prop} {s : Shared} {Q : Value → Shared → Prop} {x : Value} {l : Addr} {items : List Value} (b : Bool)
    (hl : IsTup s.heap l items.toArray) (hp : items.all plainV = true) (hx : plainV x = true) (hb : items.any (veq x) = b) (h : Q (.bool b) s) :
    wpAny (model prog w) A (compareOp .In x (.ref l)) Q E s := by
  refine PySem.SeqAt.in_tupleAt (veq x) hl (fun y hy => veq_at hx (List.all_eq_true.mp hp y (by simpa using hy))) ?_
  subst hb
  simpa using h
/-- the value names the kind's way to reckon leap years -/
def IsWay (k : Int) (v : Value) : Prop :=
  (∃ t, k = 0 ∧ v = .int 4 t) ∨ (∃ t, k = 0 ∧ v = .str (Str.ofString "continuous") t) ∨ (∃ t, k = 1 ∧ v = .int 100 t) ∨ (∃ t, k = 1 ∧ v = .str (Str.ofString "romme") t) ∨
  (∃ t, k = 2 ∧ v = .int 128 t) ∨ (∃ t, k = 2 ∧ v = .str (Str.ofString "madler") t)
theorem IsWay.range {k : Int} {v : Value} (h : IsWay k v) : 0 ≤ k ∧ k ≤ 2 := by
  rcases h with ⟨t, rfl, rfl⟩ | ⟨t, rfl, rfl⟩ | ⟨t, rfl, rfl⟩ | ⟨t, rfl, rfl⟩ | ⟨t, rfl, rfl⟩ | ⟨t, rfl, rfl⟩ <;> decide
theorem IsWay.plain {k : Int} {v : Value} (h : IsWay k v) : plainV v = true := by
  rcases h with ⟨t, rfl, rfl⟩ | ⟨t, rfl, rfl⟩ | ⟨t, rfl, rfl⟩ | ⟨t, rfl, rfl⟩ | ⟨t, rfl, rfl⟩ | ⟨t, rfl, rfl⟩ <;> rfl
section
variable {prog : Program} {w : World} {A : Around} {E : Value → Shared → Prop} {s : Shared} {k : Int} {v : Value} {l : Addr} {Q : Value → Shared → Prop}
theorem way_4 (W : IsWay k v) {t u : Tok} (hl : IsTup s.heap l [Value.int 4 t, .str (Str.ofString "continuous") u].toArray) (h : Q (.bool (decide (k = 0))) s) : wpAny (model prog w) A (compareOp .In v (.ref l)) Q E s := by
  refine in_tup _ hl rfl W.plain ?_ h
  rcases W with ⟨t, rfl, rfl⟩ | ⟨t, rfl, rfl⟩ | ⟨t, rfl, rfl⟩ | ⟨t, rfl, rfl⟩ | ⟨t, rfl, rfl⟩ | ⟨t, rfl, rfl⟩ <;> (simp only [List.any_cons, List.any_nil, veq]; decide +kernel)
theorem way_100 (W : IsWay k v) {t u : Tok} (hl : IsTup s.heap l [Value.int 100 t, .str (Str.ofString "romme") u].toArray) (h : Q (.bool (decide (k = 1))) s) : wpAny (model prog w) A (compareOp .In v (.ref l)) Q E s := by
  refine in_tup _ hl rfl W.plain ?_ h
  rcases W with ⟨t, rfl, rfl⟩ | ⟨t, rfl, rfl⟩ | ⟨t, rfl, rfl⟩ | ⟨t, rfl, rfl⟩ | ⟨t, rfl, rfl⟩ | ⟨t, rfl, rfl⟩ <;> (simp only [List.any_cons, List.any_nil, veq]; decide +kernel)
theorem way_128 (W : IsWay k v) {t u : Tok} (hl : IsTup s.heap l [Value.int 128 t, .str (Str.ofString "madler") u].toArray) (h : Q (.bool (decide (k = 2))) s) : wpAny (model prog w) A (compareOp .In v (.ref l)) Q E s := by
  refine in_tup _ hl rfl W.plain ?_ h
  rcases W with ⟨t, rfl, rfl⟩ | ⟨t, rfl, rfl⟩ | ⟨t, rfl, rfl⟩ | ⟨t, rfl, rfl⟩ | ⟨t, rfl, rfl⟩ | ⟨t, rfl, rfl⟩ <;> (simp only [List.any_cons, List.any_nil, veq]; decide +kernel)
theorem way_x (W : IsWay k v) {t u t' u' : Tok} (hl : IsTup s.heap l [Value.int 128 t, .str (Str.ofString "madler") u, .int 4 t', .str (Str.ofString "continuous") u'].toArray) (h : Q (.bool (decide (k ≠ 1))) s) : wpAny (model prog w) A (compareOp .In v (.ref l)) Q E s := by
  refine in_tup _ hl rfl W.plain ?_ h
  rcases W with ⟨t, rfl, rfl⟩ | ⟨t, rfl, rfl⟩ | ⟨t, rfl, rfl⟩ | ⟨t, rfl, rfl⟩ | ⟨t, rfl, rfl⟩ | ⟨t, rfl, rfl⟩ <;> (simp only [List.any_cons, List.any_nil, veq]; decide +kernel)
theorem way_truthy {Q : Bool → Shared → Prop} (W : IsWay k v) (h : ∀ tk, Q true { s with toks := tk }) : wpAny (model prog w) A (truthy v) Q E s := by
  rcases W with ⟨t, rfl, rfl⟩ | ⟨t, rfl, rfl⟩ | ⟨t, rfl, rfl⟩ | ⟨t, rfl, rfl⟩ | ⟨t, rfl, rfl⟩ | ⟨t, rfl, rfl⟩
  · exact PySem.P.truthy_int (h s.toks)
  · exact PySem.P.truthy_str (by decide +kernel) (h _)
  · exact PySem.P.truthy_int (h s.toks)
  · exact PySem.P.truthy_str (by decide +kernel) (h _)
  · exact PySem.P.truthy_int (h s.toks)
  · exact PySem.P.truthy_str (by decide +kernel) (h _)
end
theorem in_30 {prog : Program} {w : World} {A : Around} {E : Value → Shared → Prop} {s : Shared} {Q : Value → Shared → Prop} {m : Int} {u t1 t2 t3 t4 : Tok} {l : Addr} (hl : IsTup s.heap l [Value.int 4 t1, .int 6 t2, .int 9 t3, .int 11 t4].toArray)
    (h : Q (.bool (decide (m = 4 ∨ m = 6 ∨ m = 9 ∨ m = 11))) s) : wpAny (model prog w) A (compareOp .In (.int m u) (.ref l)) Q E s := by
  refine in_tup _ hl rfl rfl ?_ h
  rw [Bool.eq_iff_iff]
  simp only [List.any_cons, List.any_nil, veq, Bool.or_false, Bool.or_eq_true, beq_iff_eq, decide_eq_true_eq]
  omega
local macro_rules | `(tactic| walk_at "compareOp In int ref") => `(tactic| (k_here; (with_reducible show wpAny _ _ (compareOp CmpOp.In _ (Value.ref _)) _ _ _); k_dflt (refine' in_30 (tupK ?kX ?kl) ?_; (case kX => k_in); (case kl => k_is); k_whole)))
local macro_rules | `(tactic| walk_at "ite") => `(tactic| (k_here; k_openite; first | (refine ite_pos (by with_reducible assumption) ?_) | (refine ite_neg (by with_reducible assumption) ?_) | (refine ite_isFalse (by with_reducible assumption) ?_) | (refine ite_pos (by law_purse 4000 => (law_clear; (try simp only [decide_eq_true_eq, decide_eq_false_iff_not, Bool.and_eq_true, Bool.or_eq_true, Bool.not_eq_true', Bool.not_eq_false', Bool.not_eq_true, beq_iff_eq, bne_iff_ne, ne_eq, if_true, if_false, Bool.false_eq_true, contF] at *); omega)) ?_) | (refine ite_neg (by law_purse 4000 => (law_clear; (try simp only [decide_eq_true_eq, decide_eq_false_iff_not, Bool.and_eq_true, Bool.or_eq_true, Bool.not_eq_true', Bool.not_eq_false', Bool.not_eq_true, beq_iff_eq, bne_iff_ne, ne_eq, if_true, if_false, Bool.false_eq_true, contF] at *); omega)) ?_) | (with_reducible refine split_ine ?_ ?_ <;> intro _) | (with_reducible refine split_ieq ?_ ?_ <;> intro _) | (with_reducible refine split_not ?_) | (with_reducible refine split_dec ?_ ?_ <;> intro _) | (with_reducible refine split_bool ?_ ?_ <;> intro _)))
local macro_rules | `(tactic| walk_at "execs cons") => `(tactic| (k_here; (try dsimp only); (with_reducible refine gentok ?_); intro tk; (with_reducible refine wpAny_execs_cons ?_)))
local macro_rules | `(tactic| walk_at "eval Name") => `(tactic| (k_here; name_kind "globalImplicit"; (fail_if_success name_is_builtin); k_dflt (refine' name_K ?k1 ?k2 ?k3 ?k4 ?_ ?k5 ?k6 ?k7; (case k6 => kernel_rfl!); (case k1 => with_reducible assumption); (case k2 => with_reducible assumption); (case k3 => k_asm); (case k5 => exact rfl); (case k7 => decide +kernel); (case k4 => k_is); k_whole)))
local macro_rules | `(tactic| walk_at "eval Name") => `(tactic| (k_here; name_kind "local"; k_dflt (refine' ld ?k1 ?k2 ?_ ?k3 ?k4 ?k5; (case k4 => kernel_rfl!); (case k1 => with_reducible assumption); (case k3 => exact rfl); (case k5 => decide +kernel); (case k2 => first | ((try dsimp only); simp only [ofs_inj, String.reduceEq, if_false, if_true]; exact rfl) | exact rfl); k_whole)))
local macro_rules | `(tactic| walk_at "eval Call") => `(tactic| (k_here; k_dflt (refine Call_ ?_)))
local macro_rules | `(tactic| walk_at "exec If") => `(tactic| (k_here; k_dflt (k_extra "exec If")))
local macro_rules | `(tactic| walk_at "exec While") => `(tactic| (k_here; k_dflt (k_extra "exec While")))
local macro_rules | `(tactic| walk_at "exec") => `(tactic| (k_here; (with_reducible show wpAny _ _ (exec (Stmt.While _ _ _ _) _) _ _ _); k_dflt (k_extra "exec While")))
local macro_rules | `(tactic| walk_at "eval IfExp") => `(tactic| (k_here; k_dflt (k_extra "eval IfExp")))
local macro_rules | `(tactic| walk_at "exec For") => `(tactic| (k_here; k_dflt (k_extra "exec For")))
local macro_rules | `(tactic| walk_at "exec") => `(tactic| (k_here; (with_reducible show wpAny _ _ (exec (Stmt.For _ _ _ _ _) _) _ _ _); k_dflt (k_extra "exec For")))
local macro_rules | `(tactic| walk_at "eval BoolOp") => `(tactic| (k_here; k_dflt (k_extra "eval BoolOp")))
local macro_rules | `(tactic| walk_at "exec For Tuple Tuple cons nil") => `(tactic| (k_here; k_dflt (k_extra "exec For")))
local macro_rules | `(tactic| walk_at "exec For Name Call cons nil") => `(tactic| (k_here; k_dflt (k_extra "exec For")))
local macro_rules | `(tactic| walk_at "pyIter ref") => `(tactic| (k_here; k_dflt (k_extra "pyIter ref")))
local macro_rules | `(tactic| walk_at "call builtin:min") => `(tactic| (k_here; k_dflt (k_extra "call builtin:min")))
local macro_rules | `(tactic| walk_at "execs nil") => `(tactic| (k_here; with_reducible refine wpAny_execs_nil ?_))
local macro_rules | `(tactic| walk_at "eval Constant int") => `(tactic| (k_here; (with_reducible refine cint_flat ?_); intro u9 tk))
local macro_rules | `(tactic| walk_at "eval Constant str") => `(tactic| (k_here; (with_reducible refine cstr_flat ?_); intro u9 tk))
local macro_rules | `(tactic| walk_at "unaryOp USub int") => `(tactic| (k_here; (with_reducible refine neg_flat ?_); intro u9 tk))
local macro_rules | `(tactic| walk_at "storeName") => `(tactic| (k_here; (with_reducible show wpAny _ _ (storeName (envOf _ _ _ _ _) _ _) _ _ _); k_dflt (refine' st_flat ?F ?N ?_ ?a ?b; (case b => kernel_rfl!); (case F => with_reducible assumption); (case N => with_reducible assumption); (case a => exact rfl); k_whole); intro h' tk F' N'; (try k_sweep)))
local macro_rules | `(tactic| walk_at "newTuple") => `(tactic| (k_here; k_dflt (refine' tup_flat ?F ?N ?_ ?z; (case F => with_reducible assumption); (case N => with_reducible assumption); (case z => size_fits); k_whole); intro D' h' tk F' N' l1; (try k_lt l1); (try k_sweep)))
local macro_rules | `(tactic| walk_at "binaryOp Mod int int") => `(tactic| (k_here; (with_reducible refine mod_lit (by decide) ?_); intro u9 tk))
local macro_rules | `(tactic| walk_at "binaryOp FloorDiv int int") => `(tactic| (k_here; (with_reducible refine div_lit (by decide) (by decide) ?_); intro u9 tk))
local macro_rules | `(tactic| walk_at "binaryOp Add int int") => `(tactic| (k_here; (with_reducible refine add_flat ?_); intro u9 tk))
local macro_rules | `(tactic| walk_at "binaryOp Sub int int") => `(tactic| (k_here; (with_reducible refine sub_flat ?_); intro u9 tk))
local macro_rules | `(tactic| walk_at "inplaceOp Add int int") => `(tactic| (k_here; (with_reducible refine iadd_flat ?_); intro u9 tk))
local macro_rules | `(tactic| walk_at "inplaceOp Sub int int") => `(tactic| (k_here; (with_reducible refine isub_flat ?_); intro u9 tk))
local macro_rules | `(tactic| walk_at "binaryOp Mult int int") => `(tactic| (k_here; (with_reducible refine mul_flat (by mul_fits) ?_); intro u9 tk))
local macro_rules | `(tactic| walk_at "call builtin:abs") => `(tactic| (k_here; ((with_reducible refine abs_lit ?_); intro _ _)))
local macro_rules | `(tactic| walk_at "truthy") => `(tactic| (k_here; ((with_reducible refine way_truthy (by assumption) ?_); intro tk)))
local macro_rules | `(tactic| walk_at "compareOp In ref") => `(tactic| (k_here; (with_reducible show wpAny _ _ (compareOp CmpOp.In _ (Value.ref _)) _ _ _); k_dflt (first | (refine' way_4 (by assumption) ?kl ?_; (case kl => exact News.isTup (by k_asm) (by k_mem)); k_whole) | (refine' way_100 (by assumption) ?kl ?_; (case kl => exact News.isTup (by k_asm) (by k_mem)); k_whole) | (refine' way_128 (by assumption) ?kl ?_; (case kl => exact News.isTup (by k_asm) (by k_mem)); k_whole) | (refine' way_x (by assumption) ?kl ?_; (case kl => exact News.isTup (by k_asm) (by k_mem)); k_whole))))
local macro_rules | `(tactic| walk_at "compareOp In int ref") => `(tactic| (k_here; (with_reducible show wpAny _ _ (compareOp CmpOp.In _ (Value.ref _)) _ _ _); k_dflt (first | (refine' in_tup true ?kl ?kq ?kx ?kb ?_; (case kl => exact News.isTup (by k_asm) (by k_mem)); (case kq => rfl); (case kx => rfl); (case kb => first | rfl | decide); k_whole) | (refine' in_tup false ?kl ?kq ?kx ?kb ?_; (case kl => exact News.isTup (by k_asm) (by k_mem)); (case kq => rfl); (case kx => rfl); (case kb => first | rfl | decide); k_whole) | (refine' in_tup false ?kl ?kq ?kx ?kb ?_; (case kl => exact News.isTup (by k_asm) (by k_mem)); (case kq => rfl); (case kx => rfl); (case kb => simp only [List.any_cons, List.any_nil, veq, Bool.or_false, Bool.false_or, Bool.or_eq_false_iff, beq_eq_false_iff_ne, ne_eq]; omega); k_whole))))
local macro_rules | `(tactic| walk_at "compareOp In str ref") => `(tactic| (k_here; (with_reducible show wpAny _ _ (compareOp CmpOp.In _ (Value.ref _)) _ _ _); k_dflt (first | (refine' in_tup true ?kl ?kq ?kx ?kb ?_; (case kl => exact News.isTup (by k_asm) (by k_mem)); (case kq => rfl); (case kx => rfl); (case kb => first | rfl | decide); k_whole) | (refine' in_tup false ?kl ?kq ?kx ?kb ?_; (case kl => exact News.isTup (by k_asm) (by k_mem)); (case kq => rfl); (case kx => rfl); (case kb => first | rfl | decide); k_whole) | (refine' in_tup false ?kl ?kq ?kx ?kb ?_; (case kl => exact News.isTup (by k_asm) (by k_mem)); (case kq => rfl); (case kx => rfl); (case kb => simp only [List.any_cons, List.any_nil, veq, Bool.or_false, Bool.false_or, Bool.or_eq_false_iff, beq_eq_false_iff_ne, ne_eq]; omega); k_whole))))
theorem c_isleap (y : Int) (t : Tok) : Cl 1 21 [.int y t] [] True (fun _ => .bool (isleapF y)) := by
  (first | unfold Cl | skip); w_on; k_fill; intro w p loose mean mg mb news dp un gd cn cs ac ccd cl outer A₀ base h₀ L mm s Q E B F X N T hk hpre hd hu hret
  (refine wpAny_call ?_); k_dflt ((refine' code_def ?k1 ?k2 ?k3 ?k4 ?k5 ?kA ?kF ?kK ?k6 ?k7 ?k8 ?k9 ?kB ?_ ?c2 ?c3 ?c4 ?c5; (case kA => exact rfl); (case kF => exact rfl); (case kK => assumption); (case k1 => k_asm); (case k2 => k_asm); (case k3 => k_asm); (case k4 => k_asm); (case k5 => k_asm); (case k6 => k_is); (case k7 => k_is); (case k8 => ktr_room); (case k9 => first | exact BindsTo.of_eq rfl | exact binds_K (by k_in) rfl (by k_is) rfl rfl rfl); (case c5 => decide); (case kB => exact locs rfl); (case c2 => exact rfl); (case c3 => exact rfl); (case c4 => exact rfl); k_whole; intro g' L' h' FG' F' N' B' X' T'; (first | replace F' := fr_look1 F' | replace F' := fr_look2 F' | replace F' := fr_look3 F' | replace F' := fr_look4 F'); (try dsimp only); (try k_lift B'); (try k_fold)))
  k_steps
  all_goals ((refine' cb_retB (Q := Q) hret ?e1 ?e2 ?e3; (case e2 => k_asm); (case e3 => first | with_reducible assumption | (refine' cb_drop ?cbN ?cbS; (case cbN => with_reducible assumption); (case cbS => (intro p9 hp9; repeat (first | exact hp9 | refine List.Mem.tail _ ?_)))) | (refine' cb_drop ?cbN ?cbS; (case cbN => assumption); (case cbS => kcj_all))); (case e1 => (law_clear; (try simp only [List.any_cons, List.any_nil, Bool.or_false, Bool.or_eq_true, Bool.or_eq_false_iff, Bool.and_eq_true, Bool.and_eq_false_iff, beq_iff_eq, beq_eq_false_iff_ne, bne_iff_ne, decide_eq_true_eq, decide_eq_false_iff_not, ne_eq] at *); (try law_fm); (refine Bool.eq_iff_iff.mpr ⟨fun q => ?_, fun q => ?_⟩) <;> (try simp only [sixthF, isleapF, agreedF, decide_eq_true_eq, beq_iff_eq, bne_iff_ne, Bool.and_eq_true, Bool.or_eq_true, true_and, and_true, false_and, and_false, or_false, false_or, or_true, true_or, ne_eq, not_true_eq_false, not_false_eq_true, Bool.false_eq_true] at q ⊢) <;> omega))))
local macro_rules | `(tactic| walk_at "binaryOp FloorDiv int int") => `(tactic| (k_here; (with_reducible refine absdiv (by assumption) (by assumption) (by assumption) ?_); intro u9 tk))
theorem c_trunc (a b : Int) (t u : Tok) : Cl 1 28 [.int a t, .int b u] [] (0 ≤ a ∧ 0 < b ∧ b < 1073741824) (fun t => .int (a / b) t) := by
  (first | unfold Cl | skip); w_on; k_fill; intro w p loose mean mg mb news dp un gd cn cs ac ccd cl outer A₀ base h₀ L mm s Q E B F X N T hk hpre hd hu hret
  obtain ⟨ha, hb, hB⟩ := hpre
  (refine wpAny_call ?_); k_dflt ((refine' code_def ?k1 ?k2 ?k3 ?k4 ?k5 ?kA ?kF ?kK ?k6 ?k7 ?k8 ?k9 ?kB ?_ ?c2 ?c3 ?c4 ?c5; (case kA => exact rfl); (case kF => exact rfl); (case kK => assumption); (case k1 => k_asm); (case k2 => k_asm); (case k3 => k_asm); (case k4 => k_asm); (case k5 => k_asm); (case k6 => k_is); (case k7 => k_is); (case k8 => ktr_room); (case k9 => first | exact BindsTo.of_eq rfl | exact binds_K (by k_in) rfl (by k_is) rfl rfl rfl); (case c5 => decide); (case kB => exact locs rfl); (case c2 => exact rfl); (case c3 => exact rfl); (case c4 => exact rfl); k_whole; intro g' L' h' FG' F' N' B' X' T'; (first | replace F' := fr_look1 F' | replace F' := fr_look2 F' | replace F' := fr_look3 F' | replace F' := fr_look4 F'); (try dsimp only); (try k_lift B'); (try k_fold)))
  k_steps
  all_goals ((refine' cb_retI (Q := Q) hret ?e1 ?e2 ?e3; (case e2 => k_asm); (case e3 => first | with_reducible assumption | (refine' cb_drop ?cbN ?cbS; (case cbN => with_reducible assumption); (case cbS => (intro p9 hp9; repeat (first | exact hp9 | refine List.Mem.tail _ ?_)))) | (refine' cb_drop ?cbN ?cbS; (case cbN => assumption); (case cbS => kcj_all))); (case e1 => (first | rfl | (law_clear; exfalso; simp only [beq_eq_false_iff_ne, ne_eq, decide_eq_decide, beq_iff_eq] at *; omega)))))
local macro_rules | `(tactic| walk_at "call ref") => `(tactic| (k_here; k_dflt (first | refine' use_cl (c_isleap _ _) ?k1 ?k2 ?k3 ?k4 ?k5 ?kK ?kp ?kd ?ku ?_); (case k1 => k_asm); (case k2 => k_asm); (case k3 => k_asm); (case k4 => k_asm); (case k5 => k_asm); (case kK => first | exact rfl | assumption); (case kp => first | trivial | assumption | with_reducible exact ⟨eDF_nonneg _, by decide, by decide⟩ | with_reducible exact ⟨Int.emod_nonneg _ (by decide), by decide, by decide⟩ | omega | exact ⟨by decide, by have := lenF_pos ‹_› ‹_›; omega⟩ | (refine ⟨by decide, ?_⟩; exact Int.le_trans (by decide) (lenF_pos _ _).1) | l_fact); (case kd => ktr_room); (case ku => ktr_units); intro t9 h9 tk9 F9 N9; (try dsimp only); (try k_fold)))
theorem c_legal (y m d : Int) (t u v : Tok) : Cl 2 36 [.int y t, .int m u, .int d v] [] (0 < d ∧ d ≤ lenF y m) (fun _ => .bool true) := by
  (first | unfold Cl | skip); w_on; k_fill; intro w p loose mean mg mb news dp un gd cn cs ac ccd cl outer A₀ base h₀ L mm s Q E B F X N T hk hpre hd hu hret
  obtain ⟨h0, h1⟩ := hpre
  have hc : (m = 2 ∧ isleapF y = true ∧ d ≤ 29) ∨ (m = 2 ∧ isleapF y = false ∧ d ≤ 28) ∨ (m ≠ 2 ∧ (m = 4 ∨ m = 6 ∨ m = 9 ∨ m = 11) ∧ d ≤ 30) ∨ (m ≠ 2 ∧ ¬ (m = 4 ∨ m = 6 ∨ m = 9 ∨ m = 11) ∧ d ≤ 31) := by
    unfold lenF at h1
    by_cases hm : m = 2
    · rw [if_pos hm] at h1
      cases hl : isleapF y
      · rw [hl] at h1; exact .inr (.inl ⟨hm, rfl, by simpa using h1⟩)
      · rw [hl] at h1; exact .inl ⟨hm, rfl, by simpa using h1⟩
    · rw [if_neg hm] at h1
      by_cases hm' : m = 4 ∨ m = 6 ∨ m = 9 ∨ m = 11
      · rw [if_pos hm'] at h1; exact .inr (.inr (.inl ⟨hm, hm', h1⟩))
      · rw [if_neg hm'] at h1; exact .inr (.inr (.inr ⟨hm, hm', h1⟩))
  clear h1
  rcases hc with ⟨hm, hl, hd'⟩ | ⟨hm, hl, hd'⟩ | ⟨hm, hl, hd'⟩ | ⟨hm, hl, hd'⟩
  all_goals (
    (refine wpAny_call ?_); k_dflt ((refine' code_def ?k1 ?k2 ?k3 ?k4 ?k5 ?kA ?kF ?kK ?k6 ?k7 ?k8 ?k9 ?kB ?_ ?c2 ?c3 ?c4 ?c5; (case kA => exact rfl); (case kF => exact rfl); (case kK => assumption); (case k1 => k_asm); (case k2 => k_asm); (case k3 => k_asm); (case k4 => k_asm); (case k5 => k_asm); (case k6 => k_is); (case k7 => k_is); (case k8 => ktr_room); (case k9 => first | exact BindsTo.of_eq rfl | exact binds_K (by k_in) rfl (by k_is) rfl rfl rfl); (case c5 => decide); (case kB => exact locs rfl); (case c2 => exact rfl); (case c3 => exact rfl); (case c4 => exact rfl); k_whole; intro g' L' h' FG' F' N' B' X' T'; (first | replace F' := fr_look1 F' | replace F' := fr_look2 F' | replace F' := fr_look3 F' | replace F' := fr_look4 F'); (try dsimp only); (try k_lift B'); (try k_fold)))
    k_steps
    all_goals ((refine' cb_retB (Q := Q) hret ?e1 ?e2 ?e3; (case e2 => k_asm); (case e3 => first | with_reducible assumption | (refine' cb_drop ?cbN ?cbS; (case cbN => with_reducible assumption); (case cbS => (intro p9 hp9; repeat (first | exact hp9 | refine List.Mem.tail _ ?_)))) | (refine' cb_drop ?cbN ?cbS; (case cbN => assumption); (case cbS => kcj_all))); (case e1 => (rfl)))))
local macro_rules | `(tactic| walk_at "call ref") => `(tactic| (k_here; k_dflt (first | refine' use_cl (c_isleap _ _) ?k1 ?k2 ?k3 ?k4 ?k5 ?kK ?kp ?kd ?ku ?_ | refine' use_cl (c_legal _ _ _ _ _ _) ?k1 ?k2 ?k3 ?k4 ?k5 ?kK ?kp ?kd ?ku ?_); (case k1 => k_asm); (case k2 => k_asm); (case k3 => k_asm); (case k4 => k_asm); (case k5 => k_asm); (case kK => first | exact rfl | assumption); (case kp => first | trivial | assumption | with_reducible exact ⟨eDF_nonneg _, by decide, by decide⟩ | with_reducible exact ⟨Int.emod_nonneg _ (by decide), by decide, by decide⟩ | omega | exact ⟨by decide, by have := lenF_pos ‹_› ‹_›; omega⟩ | (refine ⟨by decide, ?_⟩; exact Int.le_trans (by decide) (lenF_pos _ _).1) | l_fact); (case kd => ktr_room); (case ku => ktr_units); intro t9 h9 tk9 F9 N9; (try dsimp only); (try k_fold)))
theorem c_greg (y m d : Int) (t u v : Tok) : Cl 3 43 [.int y t, .int m u, .int d v] [] (0 < d ∧ d ≤ lenF y m) (fun t => .int (gregF y m d) t) := by
  (first | unfold Cl | skip); w_on; k_fill; intro w p loose mean mg mb news dp un gd cn cs ac ccd cl outer A₀ base h₀ L mm s Q E B F X N T hk hpre hd hu hret
  (refine wpAny_call ?_); k_dflt ((refine' code_def ?k1 ?k2 ?k3 ?k4 ?k5 ?kA ?kF ?kK ?k6 ?k7 ?k8 ?k9 ?kB ?_ ?c2 ?c3 ?c4 ?c5; (case kA => exact rfl); (case kF => exact rfl); (case kK => assumption); (case k1 => k_asm); (case k2 => k_asm); (case k3 => k_asm); (case k4 => k_asm); (case k5 => k_asm); (case k6 => k_is); (case k7 => k_is); (case k8 => ktr_room); (case k9 => first | exact BindsTo.of_eq rfl | exact binds_K (by k_in) rfl (by k_is) rfl rfl rfl); (case c5 => decide); (case kB => exact locs rfl); (case c2 => exact rfl); (case c3 => exact rfl); (case c4 => exact rfl); k_whole; intro g' L' h' FG' F' N' B' X' T'; (first | replace F' := fr_look1 F' | replace F' := fr_look2 F' | replace F' := fr_look3 F' | replace F' := fr_look4 F'); (try dsimp only); (try k_lift B'); (try k_fold)))
  k_steps
  all_goals ((refine' cb_retI (Q := Q) hret ?e1 ?e2 ?e3; (case e2 => k_asm); (case e3 => first | with_reducible assumption | (refine' cb_drop ?cbN ?cbS; (case cbN => with_reducible assumption); (case cbS => (intro p9 hp9; repeat (first | exact hp9 | refine List.Mem.tail _ ?_)))) | (refine' cb_drop ?cbN ?cbS; (case cbN => assumption); (case cbS => kcj_all))); (case e1 => (law_clear; simp only [gregF, adjF]; (repeat' split) <;> first | omega | (exfalso; simp_all)))))
local macro_rules | `(tactic| walk_at "call ref") => `(tactic| (k_here; k_dflt (first | refine' use_cl (c_isleap _ _) ?k1 ?k2 ?k3 ?k4 ?k5 ?kK ?kp ?kd ?ku ?_ | refine' use_cl (c_legal _ _ _ _ _ _) ?k1 ?k2 ?k3 ?k4 ?k5 ?kK ?kp ?kd ?ku ?_ | refine' use_cl (c_greg _ _ _ _ _ _) ?k1 ?k2 ?k3 ?k4 ?k5 ?kK ?kp ?kd ?ku ?_); (case k1 => k_asm); (case k2 => k_asm); (case k3 => k_asm); (case k4 => k_asm); (case k5 => k_asm); (case kK => first | exact rfl | assumption); (case kp => first | trivial | assumption | with_reducible exact ⟨eDF_nonneg _, by decide, by decide⟩ | with_reducible exact ⟨Int.emod_nonneg _ (by decide), by decide, by decide⟩ | omega | exact ⟨by decide, by have := lenF_pos ‹_› ‹_›; omega⟩ | (refine ⟨by decide, ?_⟩; exact Int.le_trans (by decide) (lenF_pos _ _).1) | l_fact); (case kd => ktr_room); (case ku => ktr_units); intro t9 h9 tk9 F9 N9; (try dsimp only); (try k_fold)))
theorem c_fromg (jd : Int) (t : Tok) : Clt 4 50 [.int jd t] [] True (gyF jd) (gmF jd) (gdF jd) := by
  unfold Clt; (first | unfold Cl | skip); w_on; k_fill; intro w p loose mean mg mb news dp un gd cn cs ac ccd cl outer A₀ base h₀ L mm s Q E B F X N T hk hpre hd hu hret
  k_with_none
  k_with "exec If" => ((with_reducible show wpAny _ _ (exec (Stmt.If _ _ _ ⟨46, _, _, _⟩) _) _ _ _); k_dflt (refine' join_int (PySem.Str.ofString "year") (gyF jd) ?jF ?jN ?jc ?_; (case jF => k_asm); (case jN => k_asm)); (case jc => (refine wpAny_If ?_; k_steps; all_goals (first | (refine' ji_new ?e ?F ?N ?s; (case F => k_asm); (case N => with_reducible assumption); (case s => (intro p9 hp9; repeat (first | exact hp9 | refine List.Mem.tail _ ?_))); (case e => (law_clear; unfold gyF; split <;> omega))) | (refine' ji_old ?h ?e ?F ?N ?s; (case h => k_dflt (exact rfl)); (case F => k_asm); (case N => with_reducible assumption); (case s => (intro p9 hp9; repeat (first | exact hp9 | refine List.Mem.tail _ ?_))); (case e => (law_clear; unfold gyF; split <;> omega)))))); intro t9 h9 tk9 F9 N9; (try dsimp only); (try k_sweep))
  k_with "exec If" => ((with_reducible show wpAny _ _ (exec (Stmt.If _ _ _ ⟨50, _, _, _⟩) _) _ _ _); k_dflt (refine' join_int (PySem.Str.ofString "leap_adj") (ladjF (gyF jd) (jd - gregF (gyF jd) 1 1)) ?jF ?jN ?jc ?_; (case jF => k_asm); (case jN => k_asm)); (case jc => (refine wpAny_If ?_; k_steps; all_goals (first | (refine' ji_new ?e ?F ?N ?s; (case F => k_asm); (case N => with_reducible assumption); (case s => (intro p9 hp9; repeat (first | exact hp9 | refine List.Mem.tail _ ?_))); (case e => (law_clear; unfold ladjF; first | rw [if_pos (by assumption)] | rw [if_neg (by assumption), if_pos (by assumption)] | rw [if_neg (by assumption), if_neg (ne_true_of_eq_false (by assumption))]))) | (refine' ji_old ?h ?e ?F ?N ?s; (case h => k_dflt (exact rfl)); (case F => k_asm); (case N => with_reducible assumption); (case s => (intro p9 hp9; repeat (first | exact hp9 | refine List.Mem.tail _ ?_))); (case e => (law_clear; unfold ladjF; first | rw [if_pos (by assumption)] | rw [if_neg (by assumption), if_pos (by assumption)] | rw [if_neg (by assumption), if_neg (ne_true_of_eq_false (by assumption))])))))); intro t9 h9 tk9 F9 N9; (try dsimp only); (try k_sweep))
  (refine wpAny_call ?_); k_dflt ((refine' code_def ?k1 ?k2 ?k3 ?k4 ?k5 ?kA ?kF ?kK ?k6 ?k7 ?k8 ?k9 ?kB ?_ ?c2 ?c3 ?c4 ?c5; (case kA => exact rfl); (case kF => exact rfl); (case kK => assumption); (case k1 => k_asm); (case k2 => k_asm); (case k3 => k_asm); (case k4 => k_asm); (case k5 => k_asm); (case k6 => k_is); (case k7 => k_is); (case k8 => ktr_room); (case k9 => first | exact BindsTo.of_eq rfl | exact binds_K (by k_in) rfl (by k_is) rfl rfl rfl); (case c5 => decide); (case kB => exact locs rfl); (case c2 => exact rfl); (case c3 => exact rfl); (case c4 => exact rfl); k_whole; intro g' L' h' FG' F' N' B' X' T'; (first | replace F' := fr_look1 F' | replace F' := fr_look2 F' | replace F' := fr_look3 F' | replace F' := fr_look4 F'); (try dsimp only); (try k_lift B'); (try k_fold)))
  k_steps
  all_goals ((refine' clt_ret (Q := Q) hret ?e1 ?e2 ?e3 ?eF ?eN ?eD ?eS ?eL; (case eF => k_asm); (case eN => with_reducible assumption); (case eD => k_dflt k_mem); (case eS => (intro p9 hp9; repeat (first | exact hp9 | refine List.Mem.tail _ ?_))); (case eL => first | with_reducible assumption | exact allLt_of (by with_reducible assumption) | exact And.right (by with_reducible assumption) | exact And.right (And.right (by with_reducible assumption)) | exact And.right (And.right (And.right (by with_reducible assumption))) | exact And.right (And.right (And.right (And.right (by with_reducible assumption)))) | exact And.right (And.right (And.right (And.right (And.right (by with_reducible assumption))))) | exact And.right (And.right (And.right (And.right (And.right (And.right (by with_reducible assumption)))))) | exact And.right (And.right (And.right (And.right (And.right (And.right (And.right (by with_reducible assumption))))))) | exact And.right (And.right (And.right (And.right (And.right (And.right (And.right (And.right (by with_reducible assumption))))))))); (case e1 => (rfl)); (case e2 => (rfl)); (case e3 => (rfl))))
theorem c_leap (k y : Int) (t : Tok) (v : Value) : Cl 2 58 [.int y t, v] [] (1 ≤ y ∧ IsWay k v) (fun _ => .bool (sixthF k y)) := by
  (first | unfold Cl | skip); w_on; k_fill; intro w p loose mean mg mb news dp un gd cn cs ac ccd cl outer A₀ base h₀ L mm s Q E B F X N T hk hpre hd hu hret
  k_with_none
  obtain ⟨hy, hw⟩ := hpre
  have hr := hw.range
  (refine wpAny_call ?_); k_dflt ((refine' code_def ?k1 ?k2 ?k3 ?k4 ?k5 ?kA ?kF ?kK ?k6 ?k7 ?k8 ?k9 ?kB ?_ ?c2 ?c3 ?c4 ?c5; (case kA => exact rfl); (case kF => exact rfl); (case kK => assumption); (case k1 => k_asm); (case k2 => k_asm); (case k3 => k_asm); (case k4 => k_asm); (case k5 => k_asm); (case k6 => k_is); (case k7 => k_is); (case k8 => ktr_room); (case k9 => first | exact BindsTo.of_eq rfl | exact binds_K (by k_in) rfl (by k_is) rfl rfl rfl); (case c5 => decide); (case kB => exact locs rfl); (case c2 => exact rfl); (case c3 => exact rfl); (case c4 => exact rfl); k_whole; intro g' L' h' FG' F' N' B' X' T'; (first | replace F' := fr_look1 F' | replace F' := fr_look2 F' | replace F' := fr_look3 F' | replace F' := fr_look4 F'); (try dsimp only); (try k_lift B'); (try k_fold)))
  k_steps
  all_goals ((refine' cb_retB (Q := Q) hret ?e1 ?e2 ?e3; (case e2 => k_asm); (case e3 => first | with_reducible assumption | (refine' cb_drop ?cbN ?cbS; (case cbN => with_reducible assumption); (case cbS => (intro p9 hp9; repeat (first | exact hp9 | refine List.Mem.tail _ ?_)))) | (refine' cb_drop ?cbN ?cbS; (case cbN => assumption); (case cbS => kcj_all))); (case e1 => (law_clear; (try simp only [List.any_cons, List.any_nil, Bool.or_false, Bool.or_eq_true, Bool.or_eq_false_iff, Bool.and_eq_true, Bool.and_eq_false_iff, beq_iff_eq, beq_eq_false_iff_ne, bne_iff_ne, decide_eq_true_eq, decide_eq_false_iff_not, ne_eq] at *); (try law_fm); (refine Bool.eq_iff_iff.mpr ⟨fun q => ?_, fun q => ?_⟩) <;> (try simp only [sixthF, isleapF, agreedF, decide_eq_true_eq, beq_iff_eq, bne_iff_ne, Bool.and_eq_true, Bool.or_eq_true, true_and, and_true, false_and, and_false, or_false, false_or, or_true, true_or, ne_eq, not_true_eq_false, not_false_eq_true, Bool.false_eq_true] at q ⊢) <;> omega))))
local macro_rules | `(tactic| walk_at "call ref") => `(tactic| (k_here; k_dflt (first | refine' use_cl (c_trunc _ _ _ _) ?k1 ?k2 ?k3 ?k4 ?k5 ?kK ?kp ?kd ?ku ?_); (case k1 => k_asm); (case k2 => k_asm); (case k3 => k_asm); (case k4 => k_asm); (case k5 => k_asm); (case kK => first | exact rfl | assumption); (case kp => first | trivial | assumption | with_reducible exact ⟨eDF_nonneg _, by decide, by decide⟩ | with_reducible exact ⟨Int.emod_nonneg _ (by decide), by decide, by decide⟩ | omega | exact ⟨by decide, by have := lenF_pos ‹_› ‹_›; omega⟩ | (refine ⟨by decide, ?_⟩; exact Int.le_trans (by decide) (lenF_pos _ _).1) | l_fact); (case kd => ktr_room); (case ku => ktr_units); intro t9 h9 tk9 F9 N9; (try dsimp only); (try k_fold)))
theorem c_sched (k y m d : Int) (t u v : Tok) (wy : Value) : Cl 3 73 [.int y t, .int m u, .int d v, wy] [] (1 ≤ y ∧ IsWay k wy) (fun t => .int (frF k y m d) t) := by
  (first | unfold Cl | skip); w_on; k_fill; intro w p loose mean mg mb news dp un gd cn cs ac ccd cl outer A₀ base h₀ L mm s Q E B F X N T hk hpre hd hu hret
  k_with_none
  obtain ⟨hy, hw⟩ := hpre
  have hr := hw.range
  (refine wpAny_call ?_); k_dflt ((refine' code_def ?k1 ?k2 ?k3 ?k4 ?k5 ?kA ?kF ?kK ?k6 ?k7 ?k8 ?k9 ?kB ?_ ?c2 ?c3 ?c4 ?c5; (case kA => exact rfl); (case kF => exact rfl); (case kK => assumption); (case k1 => k_asm); (case k2 => k_asm); (case k3 => k_asm); (case k4 => k_asm); (case k5 => k_asm); (case k6 => k_is); (case k7 => k_is); (case k8 => ktr_room); (case k9 => first | exact BindsTo.of_eq rfl | exact binds_K (by k_in) rfl (by k_is) rfl rfl rfl); (case c5 => decide); (case kB => exact locs rfl); (case c2 => exact rfl); (case c3 => exact rfl); (case c4 => exact rfl); k_whole; intro g' L' h' FG' F' N' B' X' T'; (first | replace F' := fr_look1 F' | replace F' := fr_look2 F' | replace F' := fr_look3 F' | replace F' := fr_look4 F'); (try dsimp only); (try k_lift B'); (try k_fold)))
  k_steps
  all_goals ((refine' cb_retI (Q := Q) hret ?e1 ?e2 ?e3; (case e2 => k_asm); (case e3 => first | with_reducible assumption | (refine' cb_drop ?cbN ?cbS; (case cbN => with_reducible assumption); (case cbS => (intro p9 hp9; repeat (first | exact hp9 | refine List.Mem.tail _ ?_)))) | (refine' cb_drop ?cbN ?cbS; (case cbN => assumption); (case cbS => kcj_all))); (case e1 => (law_clear; first | with_reducible exact sched_0 (by omega) | with_reducible exact sched_1 (by omega) (by omega) | with_reducible exact sched_2 (by omega) (by omega)))))
local macro_rules | `(tactic| walk_at "call ref") => `(tactic| (k_here; k_dflt (first | refine' use_cl (c_trunc _ _ _ _) ?k1 ?k2 ?k3 ?k4 ?k5 ?kK ?kp ?kd ?ku ?_); (case k1 => k_asm); (case k2 => k_asm); (case k3 => k_asm); (case k4 => k_asm); (case k5 => k_asm); (case kK => first | exact rfl | assumption); (case kp => first | trivial | assumption | with_reducible exact ⟨eDF_nonneg _, by decide, by decide⟩ | with_reducible exact ⟨Int.emod_nonneg _ (by decide), by decide, by decide⟩ | omega | exact ⟨by decide, by have := lenF_pos ‹_› ‹_›; omega⟩ | (refine ⟨by decide, ?_⟩; exact Int.le_trans (by decide) (lenF_pos _ _).1) | l_fact); (case kd => ktr_room); (case ku => ktr_units); intro t9 h9 tk9 F9 N9; (try dsimp only); (try k_fold)))
theorem c_fsched (k jd : Int) (t : Tok) (wy : Value) : Clt 3 88 [.int jd t, wy] [] (2375840 ≤ jd ∧ IsWay k wy) (fyF k jd) (fmF k jd) (fdF k jd) := by
  unfold Clt; (first | unfold Cl | skip); w_on; k_fill; intro w p loose mean mg mb news dp un gd cn cs ac ccd cl outer A₀ base h₀ L mm s Q E B F X N T hk hpre hd hu hret
  k_with_none
  k_with "exec If" => ((with_reducible show wpAny _ _ (exec (Stmt.If _ _ _ ⟨165, _, _, _⟩) _) _ _ _); k_dflt (refine' join_of (PySem.Str.ofString "J") (fun j => j % 1461) ?jx ?jF ?jN ?jc ?_; (case jF => k_asm); (case jN => k_asm); (case jx => first | ((try dsimp only); simp only [ofs_inj, String.reduceEq, if_false, if_true]; exact rfl) | exact rfl)); (case jc => (refine wpAny_If ?_; (try dsimp only); k_steps; all_goals (first | (refine' ji_new ?e ?F ?N ?s; (case F => k_asm); (case N => with_reducible assumption); (case s => (intro p9 hp9; repeat (first | exact hp9 | refine List.Mem.tail _ ?_))); (case e => (law_clear; omega))) | (refine' ji_old ?h ?e ?F ?N ?s; (case h => k_dflt (exact rfl)); (case F => k_asm); (case N => with_reducible assumption); (case s => (intro p9 hp9; repeat (first | exact hp9 | refine List.Mem.tail _ ?_))); (case e => (law_clear; omega)))))); intro t9 h9 tk9 F9 N9; (try dsimp only); (try dsimp only at F9); (try k_sweep))
  k_with "exec If" => ((with_reducible show wpAny _ _ (exec (Stmt.If _ _ _ ⟨170, _, _, _⟩) _) _ _ _); k_dflt (refine' join_two (PySem.Str.ofString "y4") (PySem.Str.ofString "J") (e4F) (fun _ j => eDF j) ?jx ?jy ?jF ?jN ?jc ?_; (case jF => k_asm); (case jN => k_asm); (case jx => first | ((try dsimp only); simp only [ofs_inj, String.reduceEq, if_false, if_true]; exact rfl) | exact rfl); (case jy => first | ((try dsimp only); simp only [ofs_inj, String.reduceEq, if_false, if_true]; exact rfl) | exact rfl)); (case jc => (refine wpAny_If ?_; (try dsimp only); k_steps; all_goals (first | (refine' ji2_both ?e1 ?e2 ?F ?N ?s; (case F => k_asm); (case N => with_reducible assumption); (case s => (intro p9 hp9; repeat (first | exact hp9 | refine List.Mem.tail _ ?_))); (case e1 => (law_clear; first | rfl | (unfold e4F; rw [if_pos (by assumption)]) | (unfold e4F; rw [if_neg (by assumption)]) | (unfold eDF; rw [if_pos (by assumption)]) | (unfold eDF; rw [if_neg (by assumption)]))); (case e2 => (law_clear; first | rfl | (unfold e4F; rw [if_pos (by assumption)]) | (unfold e4F; rw [if_neg (by assumption)]) | (unfold eDF; rw [if_pos (by assumption)]) | (unfold eDF; rw [if_neg (by assumption)])))) | (refine' ji2_one ?h ?e1 ?e2 ?F ?N ?s; (case F => k_asm); (case h => first | ((try dsimp only); simp only [ofs_inj, String.reduceEq, if_false, if_true]; exact rfl) | exact rfl); (case N => with_reducible assumption); (case s => (intro p9 hp9; repeat (first | exact hp9 | refine List.Mem.tail _ ?_))); (case e1 => (law_clear; first | rfl | (unfold e4F; rw [if_pos (by assumption)]) | (unfold e4F; rw [if_neg (by assumption)]) | (unfold eDF; rw [if_pos (by assumption)]) | (unfold eDF; rw [if_neg (by assumption)]))); (case e2 => (law_clear; first | rfl | (unfold e4F; rw [if_pos (by assumption)]) | (unfold e4F; rw [if_neg (by assumption)]) | (unfold eDF; rw [if_pos (by assumption)]) | (unfold eDF; rw [if_neg (by assumption)]))))))); intro t9 u9 h9 tk9 F9 N9; (try dsimp only); (try dsimp only at F9); (try k_sweep))
  obtain ⟨hj, hw⟩ := hpre
  have hr := hw.range
  (refine wpAny_call ?_); k_dflt ((refine' code_def ?k1 ?k2 ?k3 ?k4 ?k5 ?kA ?kF ?kK ?k6 ?k7 ?k8 ?k9 ?kB ?_ ?c2 ?c3 ?c4 ?c5; (case kA => exact rfl); (case kF => exact rfl); (case kK => assumption); (case k1 => k_asm); (case k2 => k_asm); (case k3 => k_asm); (case k4 => k_asm); (case k5 => k_asm); (case k6 => k_is); (case k7 => k_is); (case k8 => ktr_room); (case k9 => first | exact BindsTo.of_eq rfl | exact binds_K (by k_in) rfl (by k_is) rfl rfl rfl); (case c5 => decide); (case kB => exact locs rfl); (case c2 => exact rfl); (case c3 => exact rfl); (case c4 => exact rfl); k_whole; intro g' L' h' FG' F' N' B' X' T'; (first | replace F' := fr_look1 F' | replace F' := fr_look2 F' | replace F' := fr_look3 F' | replace F' := fr_look4 F'); (try dsimp only); (try k_lift B'); (try k_fold)))
  k_steps
  all_goals ((refine' clt_ret (Q := Q) hret ?e1 ?e2 ?e3 ?eF ?eN ?eD ?eS ?eL; (case eF => k_asm); (case eN => with_reducible assumption); (case eD => k_dflt k_mem); (case eS => (intro p9 hp9; repeat (first | exact hp9 | refine List.Mem.tail _ ?_))); (case eL => first | with_reducible assumption | exact allLt_of (by with_reducible assumption) | exact And.right (by with_reducible assumption) | exact And.right (And.right (by with_reducible assumption)) | exact And.right (And.right (And.right (by with_reducible assumption))) | exact And.right (And.right (And.right (And.right (by with_reducible assumption)))) | exact And.right (And.right (And.right (And.right (And.right (by with_reducible assumption))))) | exact And.right (And.right (And.right (And.right (And.right (And.right (by with_reducible assumption)))))) | exact And.right (And.right (And.right (And.right (And.right (And.right (And.right (by with_reducible assumption))))))) | exact And.right (And.right (And.right (And.right (And.right (And.right (And.right (And.right (by with_reducible assumption))))))))); (case e1 => (law_clear; first | with_reducible exact fy_0 (by omega) | with_reducible exact fm_0 (by omega) | with_reducible exact fd_0 (by omega) | with_reducible exact fy_1 (by omega) (by omega) | with_reducible exact fm_1 (by omega) (by omega) | with_reducible exact fd_1 (by omega) (by omega) | with_reducible exact fy_2 (by omega) (by omega) | with_reducible exact fm_2 (by omega) (by omega) | with_reducible exact fd_2 (by omega) (by omega))); (case e2 => (law_clear; first | with_reducible exact fy_0 (by omega) | with_reducible exact fm_0 (by omega) | with_reducible exact fd_0 (by omega) | with_reducible exact fy_1 (by omega) (by omega) | with_reducible exact fm_1 (by omega) (by omega) | with_reducible exact fd_1 (by omega) (by omega) | with_reducible exact fy_2 (by omega) (by omega) | with_reducible exact fm_2 (by omega) (by omega) | with_reducible exact fd_2 (by omega) (by omega))); (case e3 => (law_clear; first | with_reducible exact fy_0 (by omega) | with_reducible exact fm_0 (by omega) | with_reducible exact fd_0 (by omega) | with_reducible exact fy_1 (by omega) (by omega) | with_reducible exact fm_1 (by omega) (by omega) | with_reducible exact fd_1 (by omega) (by omega) | with_reducible exact fy_2 (by omega) (by omega) | with_reducible exact fm_2 (by omega) (by omega) | with_reducible exact fd_2 (by omega) (by omega)))))
theorem c_leapk (k y : Int) (t : Tok) (v : Value) : Cl 2 58 [.int y t] [(PySem.Str.ofString "method", v)] (1 ≤ y ∧ IsWay k v) (fun _ => .bool (sixthF k y)) := by
  (first | unfold Cl | skip); w_on; k_fill; intro w p loose mean mg mb news dp un gd cn cs ac ccd cl outer A₀ base h₀ L mm s Q E B F X N T hk hpre hd hu hret
  k_with_none
  obtain ⟨hy, hw⟩ := hpre
  have hr := hw.range
  (refine wpAny_call ?_); k_dflt ((refine' code_def ?k1 ?k2 ?k3 ?k4 ?k5 ?kA ?kF ?kK ?k6 ?k7 ?k8 ?k9 ?kB ?_ ?c2 ?c3 ?c4 ?c5; (case kA => exact rfl); (case kF => exact rfl); (case kK => assumption); (case k1 => k_asm); (case k2 => k_asm); (case k3 => k_asm); (case k4 => k_asm); (case k5 => k_asm); (case k6 => k_is); (case k7 => k_is); (case k8 => ktr_room); (case k9 => first | exact BindsTo.of_eq rfl | exact binds_K (by k_in) rfl (by k_is) rfl rfl rfl); (case c5 => decide); (case kB => exact locs rfl); (case c2 => exact rfl); (case c3 => exact rfl); (case c4 => exact rfl); k_whole; intro g' L' h' FG' F' N' B' X' T'; (first | replace F' := fr_look1 F' | replace F' := fr_look2 F' | replace F' := fr_look3 F' | replace F' := fr_look4 F'); (try dsimp only); (try k_lift B'); (try k_fold)))
  k_steps
  all_goals ((refine' cb_retB (Q := Q) hret ?e1 ?e2 ?e3; (case e2 => k_asm); (case e3 => first | with_reducible assumption | (refine' cb_drop ?cbN ?cbS; (case cbN => with_reducible assumption); (case cbS => (intro p9 hp9; repeat (first | exact hp9 | refine List.Mem.tail _ ?_)))) | (refine' cb_drop ?cbN ?cbS; (case cbN => assumption); (case cbS => kcj_all))); (case e1 => (law_clear; (try simp only [List.any_cons, List.any_nil, Bool.or_false, Bool.or_eq_true, Bool.or_eq_false_iff, Bool.and_eq_true, Bool.and_eq_false_iff, beq_iff_eq, beq_eq_false_iff_ne, bne_iff_ne, decide_eq_true_eq, decide_eq_false_iff_not, ne_eq] at *); (try law_fm); (refine Bool.eq_iff_iff.mpr ⟨fun q => ?_, fun q => ?_⟩) <;> (try simp only [sixthF, isleapF, agreedF, decide_eq_true_eq, beq_iff_eq, bne_iff_ne, Bool.and_eq_true, Bool.or_eq_true, true_and, and_true, false_and, and_false, or_false, false_or, or_true, true_or, ne_eq, not_true_eq_false, not_false_eq_true, Bool.false_eq_true] at q ⊢) <;> omega))))
local macro_rules | `(tactic| walk_at "call ref") => `(tactic| (k_here; k_dflt (first | refine' use_cl (c_leapk _ _ _ _) ?k1 ?k2 ?k3 ?k4 ?k5 ?kK ?kp ?kd ?ku ?_); (case k1 => k_asm); (case k2 => k_asm); (case k3 => k_asm); (case k4 => k_asm); (case k5 => k_asm); (case kK => first | exact rfl | assumption); (case kp => first | trivial | assumption | with_reducible exact ⟨eDF_nonneg _, by decide, by decide⟩ | with_reducible exact ⟨Int.emod_nonneg _ (by decide), by decide, by decide⟩ | omega | exact ⟨by decide, by have := lenF_pos ‹_› ‹_›; omega⟩ | (refine ⟨by decide, ?_⟩; exact Int.le_trans (by decide) (lenF_pos _ _).1) | l_fact); (case kd => ktr_room); (case ku => ktr_units); intro t9 h9 tk9 F9 N9; (try dsimp only); (try k_fold)))
theorem c_leapkb (k y : Int) (b : Bool) (t : Tok) (v : Value) : Cl 2 58 [.int y t] [(PySem.Str.ofString "method", v)] (1 ≤ y ∧ IsWay k v ∧ sixthF k y = b) (fun _ => .bool b) := by
  (first | unfold Cl | skip); w_on; k_fill; intro w p loose mean mg mb news dp un gd cn cs ac ccd cl outer A₀ base h₀ L mm s Q E B F X N T hk hpre hd hu hret
  obtain ⟨h1, h2, rfl⟩ := hpre
  exact c_leapk k y t v _ _ _ _ _ _ _ _ _ _ _ _ _ _ _ _ _ _ _ _ _ _ _ _ B F X N T hk ⟨h1, h2⟩ hd hu hret
local macro_rules | `(tactic| walk_at "call ref") => `(tactic| (k_here; k_dflt (first | refine' use_cl (c_leapkb _ _ _ _ _) ?k1 ?k2 ?k3 ?k4 ?k5 ?kK ?kp ?kd ?ku ?_); (case k1 => k_asm); (case k2 => k_asm); (case k3 => k_asm); (case k4 => k_asm); (case k5 => k_asm); (case kK => first | exact rfl | assumption); (case kp =>  exact ⟨by assumption, by assumption, by assumption⟩); (case kd => ktr_room); (case ku => ktr_units); intro t9 h9 tk9 F9 N9; (try dsimp only); (try k_fold)))
local macro_rules | `(tactic| walk_at "call ref") => `(tactic| (k_here; k_dflt (first | refine' use_cl (c_sched _ _ _ _ _ _ _ _) ?k1 ?k2 ?k3 ?k4 ?k5 ?kK ?kp ?kd ?ku ?_); (case k1 => k_asm); (case k2 => k_asm); (case k3 => k_asm); (case k4 => k_asm); (case k5 => k_asm); (case kK => first | exact rfl | assumption); (case kp =>  exact ⟨by assumption, by assumption⟩); (case kd => ktr_room); (case ku => ktr_units); intro t9 h9 tk9 F9 N9; (try dsimp only); (try k_fold)))
/-- a date that to_jd takes -/
def okF (k y m d : Int) : Prop := 1 ≤ d ∧ d ≤ 30 ∧ (m < 13 ∨ (m = 13 ∧ d ≤ 5 ∧ sixthF k y = false) ∨ (m = 13 ∧ d ≤ 6 ∧ sixthF k y = true))
theorem c_tojd (k y m d : Int) (t u v : Tok) (wy : Value) : Cl 4 66 [.int y t, .int m u, .int d v, wy] [] (1 ≤ y ∧ IsWay k wy ∧ okF k y m d) (fun t => .int (frF k y m d) t) := by
  (first | unfold Cl | skip); w_on; k_fill; intro w p loose mean mg mb news dp un gd cn cs ac ccd cl outer A₀ base h₀ L mm s Q E B F X N T hk hpre hd hu hret
  k_with_none
  obtain ⟨hy, hw, hd1, hd2, hm⟩ := hpre
  rcases hm with hm | ⟨hm, hd3, hs⟩ | ⟨hm, hd3, hs⟩
  all_goals (
    (refine wpAny_call ?_); k_dflt ((refine' code_def ?k1 ?k2 ?k3 ?k4 ?k5 ?kA ?kF ?kK ?k6 ?k7 ?k8 ?k9 ?kB ?_ ?c2 ?c3 ?c4 ?c5; (case kA => exact rfl); (case kF => exact rfl); (case kK => assumption); (case k1 => k_asm); (case k2 => k_asm); (case k3 => k_asm); (case k4 => k_asm); (case k5 => k_asm); (case k6 => k_is); (case k7 => k_is); (case k8 => ktr_room); (case k9 => first | exact BindsTo.of_eq rfl | exact binds_K (by k_in) rfl (by k_is) rfl rfl rfl); (case c5 => decide); (case kB => exact locs rfl); (case c2 => exact rfl); (case c3 => exact rfl); (case c4 => exact rfl); k_whole; intro g' L' h' FG' F' N' B' X' T'; (first | replace F' := fr_look1 F' | replace F' := fr_look2 F' | replace F' := fr_look3 F' | replace F' := fr_look4 F'); (try dsimp only); (try k_lift B'); (try k_fold)))
    k_steps
    all_goals ((refine' cb_retI (Q := Q) hret ?e1 ?e2 ?e3; (case e2 => k_asm); (case e3 => first | with_reducible assumption | (refine' cb_drop ?cbN ?cbS; (case cbN => with_reducible assumption); (case cbS => (intro p9 hp9; repeat (first | exact hp9 | refine List.Mem.tail _ ?_)))) | (refine' cb_drop ?cbN ?cbS; (case cbN => assumption); (case cbS => kcj_all))); (case e1 => (rfl)))))
theorem c_tojdk (k y m d : Int) (t u v : Tok) (wy : Value) : Cl 4 66 [.int y t, .int m u, .int d v] [(PySem.Str.ofString "method", wy)] (1 ≤ y ∧ IsWay k wy ∧ okF k y m d) (fun t => .int (frF k y m d) t) := by
  (first | unfold Cl | skip); w_on; k_fill; intro w p loose mean mg mb news dp un gd cn cs ac ccd cl outer A₀ base h₀ L mm s Q E B F X N T hk hpre hd hu hret
  k_with_none
  obtain ⟨hy, hw, hd1, hd2, hm⟩ := hpre
  rcases hm with hm | ⟨hm, hd3, hs⟩ | ⟨hm, hd3, hs⟩
  all_goals (
    (refine wpAny_call ?_); k_dflt ((refine' code_def ?k1 ?k2 ?k3 ?k4 ?k5 ?kA ?kF ?kK ?k6 ?k7 ?k8 ?k9 ?kB ?_ ?c2 ?c3 ?c4 ?c5; (case kA => exact rfl); (case kF => exact rfl); (case kK => assumption); (case k1 => k_asm); (case k2 => k_asm); (case k3 => k_asm); (case k4 => k_asm); (case k5 => k_asm); (case k6 => k_is); (case k7 => k_is); (case k8 => ktr_room); (case k9 => first | exact BindsTo.of_eq rfl | exact binds_K (by k_in) rfl (by k_is) rfl rfl rfl); (case c5 => decide); (case kB => exact locs rfl); (case c2 => exact rfl); (case c3 => exact rfl); (case c4 => exact rfl); k_whole; intro g' L' h' FG' F' N' B' X' T'; (first | replace F' := fr_look1 F' | replace F' := fr_look2 F' | replace F' := fr_look3 F' | replace F' := fr_look4 F'); (try dsimp only); (try k_lift B'); (try k_fold)))
    k_steps
    all_goals ((refine' cb_retI (Q := Q) hret ?e1 ?e2 ?e3; (case e2 => k_asm); (case e3 => first | with_reducible assumption | (refine' cb_drop ?cbN ?cbS; (case cbN => with_reducible assumption); (case cbS => (intro p9 hp9; repeat (first | exact hp9 | refine List.Mem.tail _ ?_)))) | (refine' cb_drop ?cbN ?cbS; (case cbN => assumption); (case cbS => kcj_all))); (case e1 => (rfl)))))
local macro_rules | `(tactic| walk_at "call ref") => `(tactic| (k_here; k_dflt (first | refine' use_clt (c_fsched _ _ _ _) ?k1 ?k2 ?k3 ?k4 ?k5 ?kK ?kp ?kd ?ku ?_); (case k1 => k_asm); (case k2 => k_asm); (case k3 => k_asm); (case k4 => k_asm); (case k5 => k_asm); (case kK => first | exact rfl | assumption); (case kp =>  exact ⟨by assumption, by assumption⟩); (case kd => ktr_room); (case ku => ktr_units); intro D9 t9 u9 v9 c9 h9 tk9 F9 N9 l9; (try simp only [AllLt, and_true] at l9); (try dsimp only); (try k_fold)))
theorem c_fromfr (k jd : Int) (t : Tok) (wy : Value) : Clt 4 81 [.int jd t, wy] [] (2375840 ≤ jd ∧ IsWay k wy) (fyF k jd) (fmF k jd) (fdF k jd) := by
  unfold Clt; (first | unfold Cl | skip); w_on; k_fill; intro w p loose mean mg mb news dp un gd cn cs ac ccd cl outer A₀ base h₀ L mm s Q E B F X N T hk hpre hd hu hret
  k_with_none
  obtain ⟨hj, hw⟩ := hpre
  (refine wpAny_call ?_); k_dflt ((refine' code_def ?k1 ?k2 ?k3 ?k4 ?k5 ?kA ?kF ?kK ?k6 ?k7 ?k8 ?k9 ?kB ?_ ?c2 ?c3 ?c4 ?c5; (case kA => exact rfl); (case kF => exact rfl); (case kK => assumption); (case k1 => k_asm); (case k2 => k_asm); (case k3 => k_asm); (case k4 => k_asm); (case k5 => k_asm); (case k6 => k_is); (case k7 => k_is); (case k8 => ktr_room); (case k9 => first | exact BindsTo.of_eq rfl | exact binds_K (by k_in) rfl (by k_is) rfl rfl rfl); (case c5 => decide); (case kB => exact locs rfl); (case c2 => exact rfl); (case c3 => exact rfl); (case c4 => exact rfl); k_whole; intro g' L' h' FG' F' N' B' X' T'; (first | replace F' := fr_look1 F' | replace F' := fr_look2 F' | replace F' := fr_look3 F' | replace F' := fr_look4 F'); (try dsimp only); (try k_lift B'); (try k_fold)))
  k_steps
  all_goals ((refine' clt_ret (Q := Q) hret ?e1 ?e2 ?e3 ?eF ?eN ?eD ?eS ?eL; (case eF => k_asm); (case eN => with_reducible assumption); (case eD => k_dflt k_mem); (case eS => (intro p9 hp9; repeat (first | exact hp9 | refine List.Mem.tail _ ?_))); (case eL => first | with_reducible assumption | exact allLt_of (by with_reducible assumption) | exact And.right (by with_reducible assumption) | exact And.right (And.right (by with_reducible assumption)) | exact And.right (And.right (And.right (by with_reducible assumption))) | exact And.right (And.right (And.right (And.right (by with_reducible assumption)))) | exact And.right (And.right (And.right (And.right (And.right (by with_reducible assumption))))) | exact And.right (And.right (And.right (And.right (And.right (And.right (by with_reducible assumption)))))) | exact And.right (And.right (And.right (And.right (And.right (And.right (And.right (by with_reducible assumption))))))) | exact And.right (And.right (And.right (And.right (And.right (And.right (And.right (And.right (by with_reducible assumption))))))))); (case e1 => (rfl)); (case e2 => (rfl)); (case e3 => (rfl))))
theorem c_fromfrk (k jd : Int) (t : Tok) (wy : Value) : Clt 4 81 [.int jd t] [(PySem.Str.ofString "method", wy)] (2375840 ≤ jd ∧ IsWay k wy) (fyF k jd) (fmF k jd) (fdF k jd) := by
  unfold Clt; (first | unfold Cl | skip); w_on; k_fill; intro w p loose mean mg mb news dp un gd cn cs ac ccd cl outer A₀ base h₀ L mm s Q E B F X N T hk hpre hd hu hret
  k_with_none
  obtain ⟨hj, hw⟩ := hpre
  (refine wpAny_call ?_); k_dflt ((refine' code_def ?k1 ?k2 ?k3 ?k4 ?k5 ?kA ?kF ?kK ?k6 ?k7 ?k8 ?k9 ?kB ?_ ?c2 ?c3 ?c4 ?c5; (case kA => exact rfl); (case kF => exact rfl); (case kK => assumption); (case k1 => k_asm); (case k2 => k_asm); (case k3 => k_asm); (case k4 => k_asm); (case k5 => k_asm); (case k6 => k_is); (case k7 => k_is); (case k8 => ktr_room); (case k9 => first | exact BindsTo.of_eq rfl | exact binds_K (by k_in) rfl (by k_is) rfl rfl rfl); (case c5 => decide); (case kB => exact locs rfl); (case c2 => exact rfl); (case c3 => exact rfl); (case c4 => exact rfl); k_whole; intro g' L' h' FG' F' N' B' X' T'; (first | replace F' := fr_look1 F' | replace F' := fr_look2 F' | replace F' := fr_look3 F' | replace F' := fr_look4 F'); (try dsimp only); (try k_lift B'); (try k_fold)))
  k_steps
  all_goals ((refine' clt_ret (Q := Q) hret ?e1 ?e2 ?e3 ?eF ?eN ?eD ?eS ?eL; (case eF => k_asm); (case eN => with_reducible assumption); (case eD => k_dflt k_mem); (case eS => (intro p9 hp9; repeat (first | exact hp9 | refine List.Mem.tail _ ?_))); (case eL => first | with_reducible assumption | exact allLt_of (by with_reducible assumption) | exact And.right (by with_reducible assumption) | exact And.right (And.right (by with_reducible assumption)) | exact And.right (And.right (And.right (by with_reducible assumption))) | exact And.right (And.right (And.right (And.right (by with_reducible assumption)))) | exact And.right (And.right (And.right (And.right (And.right (by with_reducible assumption))))) | exact And.right (And.right (And.right (And.right (And.right (And.right (by with_reducible assumption)))))) | exact And.right (And.right (And.right (And.right (And.right (And.right (And.right (by with_reducible assumption))))))) | exact And.right (And.right (And.right (And.right (And.right (And.right (And.right (And.right (by with_reducible assumption))))))))); (case e1 => (rfl)); (case e2 => (rfl)); (case e3 => (rfl))))
local macro_rules | `(tactic| walk_at "call ref") => `(tactic| (k_here; k_dflt (first | refine' use_cl (c_tojdk _ _ _ _ _ _ _ _) ?k1 ?k2 ?k3 ?k4 ?k5 ?kK ?kp ?kd ?ku ?_); (case k1 => k_asm); (case k2 => k_asm); (case k3 => k_asm); (case k4 => k_asm); (case k5 => k_asm); (case kK => first | exact rfl | assumption); (case kp =>  exact ⟨by assumption, by assumption, by assumption⟩); (case kd => ktr_room); (case ku => ktr_units); intro t9 h9 tk9 F9 N9; (try dsimp only); (try k_fold)))
local macro_rules | `(tactic| walk_at "call ref") => `(tactic| (k_here; k_dflt (first | refine' use_clt (c_fromg _ _) ?k1 ?k2 ?k3 ?k4 ?k5 ?kK ?kp ?kd ?ku ?_); (case k1 => k_asm); (case k2 => k_asm); (case k3 => k_asm); (case k4 => k_asm); (case k5 => k_asm); (case kK => first | exact rfl | assumption); (case kp => first | trivial | assumption | with_reducible exact ⟨eDF_nonneg _, by decide, by decide⟩ | with_reducible exact ⟨Int.emod_nonneg _ (by decide), by decide, by decide⟩ | omega | exact ⟨by decide, by have := lenF_pos ‹_› ‹_›; omega⟩ | (refine ⟨by decide, ?_⟩; exact Int.le_trans (by decide) (lenF_pos _ _).1) | l_fact); (case kd => ktr_room); (case ku => ktr_units); intro D9 t9 u9 v9 c9 h9 tk9 F9 N9 l9; (try simp only [AllLt, and_true] at l9); (try dsimp only); (try k_fold)))
theorem c_togreg (k y m d : Int) (t u v : Tok) (wy : Value) : Clt 6 104 [.int y t, .int m u, .int d v, wy] [] (1 ≤ y ∧ IsWay k wy ∧ okF k y m d) (gyF (frF k y m d)) (gmF (frF k y m d)) (gdF (frF k y m d)) := by
  unfold Clt; (first | unfold Cl | skip); w_on; k_fill; intro w p loose mean mg mb news dp un gd cn cs ac ccd cl outer A₀ base h₀ L mm s Q E B F X N T hk hpre hd hu hret
  k_with_none
  obtain ⟨hy, hw, ho⟩ := hpre
  (refine wpAny_call ?_); k_dflt ((refine' code_def ?k1 ?k2 ?k3 ?k4 ?k5 ?kA ?kF ?kK ?k6 ?k7 ?k8 ?k9 ?kB ?_ ?c2 ?c3 ?c4 ?c5; (case kA => exact rfl); (case kF => exact rfl); (case kK => assumption); (case k1 => k_asm); (case k2 => k_asm); (case k3 => k_asm); (case k4 => k_asm); (case k5 => k_asm); (case k6 => k_is); (case k7 => k_is); (case k8 => ktr_room); (case k9 => first | exact BindsTo.of_eq rfl | exact binds_K (by k_in) rfl (by k_is) rfl rfl rfl); (case c5 => decide); (case kB => exact locs rfl); (case c2 => exact rfl); (case c3 => exact rfl); (case c4 => exact rfl); k_whole; intro g' L' h' FG' F' N' B' X' T'; (first | replace F' := fr_look1 F' | replace F' := fr_look2 F' | replace F' := fr_look3 F' | replace F' := fr_look4 F'); (try dsimp only); (try k_lift B'); (try k_fold)))
  k_steps
  all_goals ((refine' clt_ret (Q := Q) hret ?e1 ?e2 ?e3 ?eF ?eN ?eD ?eS ?eL; (case eF => k_asm); (case eN => with_reducible assumption); (case eD => k_dflt k_mem); (case eS => (intro p9 hp9; repeat (first | exact hp9 | refine List.Mem.tail _ ?_))); (case eL => first | with_reducible assumption | exact allLt_of (by with_reducible assumption) | exact And.right (by with_reducible assumption) | exact And.right (And.right (by with_reducible assumption)) | exact And.right (And.right (And.right (by with_reducible assumption))) | exact And.right (And.right (And.right (And.right (by with_reducible assumption)))) | exact And.right (And.right (And.right (And.right (And.right (by with_reducible assumption))))) | exact And.right (And.right (And.right (And.right (And.right (And.right (by with_reducible assumption)))))) | exact And.right (And.right (And.right (And.right (And.right (And.right (And.right (by with_reducible assumption))))))) | exact And.right (And.right (And.right (And.right (And.right (And.right (And.right (And.right (by with_reducible assumption))))))))); (case e1 => (rfl)); (case e2 => (rfl)); (case e3 => (rfl))))
local macro_rules | `(tactic| walk_at "call ref") => `(tactic| (k_here; k_dflt (first | refine' use_cl (c_greg _ _ _ _ _ _) ?k1 ?k2 ?k3 ?k4 ?k5 ?kK ?kp ?kd ?ku ?_); (case k1 => k_asm); (case k2 => k_asm); (case k3 => k_asm); (case k4 => k_asm); (case k5 => k_asm); (case kK => first | exact rfl | assumption); (case kp => first | trivial | assumption | with_reducible exact ⟨eDF_nonneg _, by decide, by decide⟩ | with_reducible exact ⟨Int.emod_nonneg _ (by decide), by decide, by decide⟩ | omega | exact ⟨by decide, by have := lenF_pos ‹_› ‹_›; omega⟩ | (refine ⟨by decide, ?_⟩; exact Int.le_trans (by decide) (lenF_pos _ _).1) | l_fact); (case kd => ktr_room); (case ku => ktr_units); intro t9 h9 tk9 F9 N9; (try dsimp only); (try k_fold)))
local macro_rules | `(tactic| walk_at "call ref") => `(tactic| (k_here; k_dflt (first | refine' use_clt (c_fromfrk _ _ _ _) ?k1 ?k2 ?k3 ?k4 ?k5 ?kK ?kp ?kd ?ku ?_); (case k1 => k_asm); (case k2 => k_asm); (case k3 => k_asm); (case k4 => k_asm); (case k5 => k_asm); (case kK => first | exact rfl | assumption); (case kp =>  exact ⟨by assumption, by assumption⟩); (case kd => ktr_room); (case ku => ktr_units); intro D9 t9 u9 v9 c9 h9 tk9 F9 N9 l9; (try simp only [AllLt, and_true] at l9); (try dsimp only); (try k_fold)))
theorem c_fromgreg (k y m d : Int) (t u v : Tok) (wy : Value) : Clt 6 96 [.int y t, .int m u, .int d v, wy] [] ((0 < d ∧ d ≤ lenF y m) ∧ 2375840 ≤ gregF y m d ∧ IsWay k wy) (fyF k (gregF y m d)) (fmF k (gregF y m d)) (fdF k (gregF y m d)) := by
  unfold Clt; (first | unfold Cl | skip); w_on; k_fill; intro w p loose mean mg mb news dp un gd cn cs ac ccd cl outer A₀ base h₀ L mm s Q E B F X N T hk hpre hd hu hret
  k_with_none
  obtain ⟨hd0, hj, hw⟩ := hpre
  (refine wpAny_call ?_); k_dflt ((refine' code_def ?k1 ?k2 ?k3 ?k4 ?k5 ?kA ?kF ?kK ?k6 ?k7 ?k8 ?k9 ?kB ?_ ?c2 ?c3 ?c4 ?c5; (case kA => exact rfl); (case kF => exact rfl); (case kK => assumption); (case k1 => k_asm); (case k2 => k_asm); (case k3 => k_asm); (case k4 => k_asm); (case k5 => k_asm); (case k6 => k_is); (case k7 => k_is); (case k8 => ktr_room); (case k9 => first | exact BindsTo.of_eq rfl | exact binds_K (by k_in) rfl (by k_is) rfl rfl rfl); (case c5 => decide); (case kB => exact locs rfl); (case c2 => exact rfl); (case c3 => exact rfl); (case c4 => exact rfl); k_whole; intro g' L' h' FG' F' N' B' X' T'; (first | replace F' := fr_look1 F' | replace F' := fr_look2 F' | replace F' := fr_look3 F' | replace F' := fr_look4 F'); (try dsimp only); (try k_lift B'); (try k_fold)))
  k_steps
  all_goals ((refine' clt_ret (Q := Q) hret ?e1 ?e2 ?e3 ?eF ?eN ?eD ?eS ?eL; (case eF => k_asm); (case eN => with_reducible assumption); (case eD => k_dflt k_mem); (case eS => (intro p9 hp9; repeat (first | exact hp9 | refine List.Mem.tail _ ?_))); (case eL => first | with_reducible assumption | exact allLt_of (by with_reducible assumption) | exact And.right (by with_reducible assumption) | exact And.right (And.right (by with_reducible assumption)) | exact And.right (And.right (And.right (by with_reducible assumption))) | exact And.right (And.right (And.right (And.right (by with_reducible assumption)))) | exact And.right (And.right (And.right (And.right (And.right (by with_reducible assumption))))) | exact And.right (And.right (And.right (And.right (And.right (And.right (by with_reducible assumption)))))) | exact And.right (And.right (And.right (And.right (And.right (And.right (And.right (by with_reducible assumption))))))) | exact And.right (And.right (And.right (And.right (And.right (And.right (And.right (And.right (by with_reducible assumption))))))))); (case e1 => (rfl)); (case e2 => (rfl)); (case e3 => (rfl))))
theorem c_sixth (k y : Int) (t u : Tok) : Cl 1 116 [.int k t, .int y u] [] True (fun _ => .bool (sixthF k y)) := by
  (first | unfold Cl | skip); w_on; k_fill; intro w p loose mean mg mb news dp un gd cn cs ac ccd cl outer A₀ base h₀ L mm s Q E B F X N T hk hpre hd hu hret
  k_with_none
  (refine wpAny_call ?_); k_dflt ((refine' code_def ?k1 ?k2 ?k3 ?k4 ?k5 ?kA ?kF ?kK ?k6 ?k7 ?k8 ?k9 ?kB ?_ ?c2 ?c3 ?c4 ?c5; (case kA => exact rfl); (case kF => exact rfl); (case kK => assumption); (case k1 => k_asm); (case k2 => k_asm); (case k3 => k_asm); (case k4 => k_asm); (case k5 => k_asm); (case k6 => k_is); (case k7 => k_is); (case k8 => ktr_room); (case k9 => first | exact BindsTo.of_eq rfl | exact binds_K (by k_in) rfl (by k_is) rfl rfl rfl); (case c5 => decide); (case kB => exact locs rfl); (case c2 => exact rfl); (case c3 => exact rfl); (case c4 => exact rfl); k_whole; intro g' L' h' FG' F' N' B' X' T'; (first | replace F' := fr_look1 F' | replace F' := fr_look2 F' | replace F' := fr_look3 F' | replace F' := fr_look4 F'); (try dsimp only); (try k_lift B'); (try k_fold)))
  k_steps
  all_goals ((refine' cb_retB (Q := Q) hret ?e1 ?e2 ?e3; (case e2 => k_asm); (case e3 => first | with_reducible assumption | (refine' cb_drop ?cbN ?cbS; (case cbN => with_reducible assumption); (case cbS => (intro p9 hp9; repeat (first | exact hp9 | refine List.Mem.tail _ ?_)))) | (refine' cb_drop ?cbN ?cbS; (case cbN => assumption); (case cbS => kcj_all))); (case e1 => (law_clear; (try simp only [List.any_cons, List.any_nil, Bool.or_false, Bool.or_eq_true, Bool.or_eq_false_iff, Bool.and_eq_true, Bool.and_eq_false_iff, beq_iff_eq, beq_eq_false_iff_ne, bne_iff_ne, decide_eq_true_eq, decide_eq_false_iff_not, ne_eq] at *); (try law_fm); (refine Bool.eq_iff_iff.mpr ⟨fun q => ?_, fun q => ?_⟩) <;> (try simp only [sixthF, isleapF, agreedF, decide_eq_true_eq, beq_iff_eq, bne_iff_ne, Bool.and_eq_true, Bool.or_eq_true, true_and, and_true, false_and, and_false, or_false, false_or, or_true, true_or, ne_eq, not_true_eq_false, not_false_eq_true, Bool.false_eq_true] at q ⊢) <;> omega))))
theorem c_sixths (k p0 : Int) (t u : Tok) : Cl 1 123 [.int k t, .int p0 u] [] True (fun t => .int (sixthsF k p0) t) := by
  (first | unfold Cl | skip); w_on; k_fill; intro w p loose mean mg mb news dp un gd cn cs ac ccd cl outer A₀ base h₀ L mm s Q E B F X N T hk hpre hd hu hret
  k_with_none
  (refine wpAny_call ?_); k_dflt ((refine' code_def ?k1 ?k2 ?k3 ?k4 ?k5 ?kA ?kF ?kK ?k6 ?k7 ?k8 ?k9 ?kB ?_ ?c2 ?c3 ?c4 ?c5; (case kA => exact rfl); (case kF => exact rfl); (case kK => assumption); (case k1 => k_asm); (case k2 => k_asm); (case k3 => k_asm); (case k4 => k_asm); (case k5 => k_asm); (case k6 => k_is); (case k7 => k_is); (case k8 => ktr_room); (case k9 => first | exact BindsTo.of_eq rfl | exact binds_K (by k_in) rfl (by k_is) rfl rfl rfl); (case c5 => decide); (case kB => exact locs rfl); (case c2 => exact rfl); (case c3 => exact rfl); (case c4 => exact rfl); k_whole; intro g' L' h' FG' F' N' B' X' T'; (first | replace F' := fr_look1 F' | replace F' := fr_look2 F' | replace F' := fr_look3 F' | replace F' := fr_look4 F'); (try dsimp only); (try k_lift B'); (try k_fold)))
  k_steps
  all_goals ((refine' cb_retI (Q := Q) hret ?e1 ?e2 ?e3; (case e2 => k_asm); (case e3 => first | with_reducible assumption | (refine' cb_drop ?cbN ?cbS; (case cbN => with_reducible assumption); (case cbS => (intro p9 hp9; repeat (first | exact hp9 | refine List.Mem.tail _ ?_)))) | (refine' cb_drop ?cbN ?cbS; (case cbN => assumption); (case cbS => kcj_all))); (case e1 => (law_clear; unfold sixthsF; first | (rw [if_pos (by omega)]; done) | (rw [if_neg (by omega), if_pos (by omega)]; done) | (rw [if_neg (by omega), if_neg (by omega)]; done)))))
theorem c_agreed (k y : Int) (t u : Tok) : Cl 1 130 [.int k t, .int y u] [] True (fun _ => .bool (agreedF k y)) := by
  (first | unfold Cl | skip); w_on; k_fill; intro w p loose mean mg mb news dp un gd cn cs ac ccd cl outer A₀ base h₀ L mm s Q E B F X N T hk hpre hd hu hret
  k_with_none
  (refine wpAny_call ?_); k_dflt ((refine' code_def ?k1 ?k2 ?k3 ?k4 ?k5 ?kA ?kF ?kK ?k6 ?k7 ?k8 ?k9 ?kB ?_ ?c2 ?c3 ?c4 ?c5; (case kA => exact rfl); (case kF => exact rfl); (case kK => assumption); (case k1 => k_asm); (case k2 => k_asm); (case k3 => k_asm); (case k4 => k_asm); (case k5 => k_asm); (case k6 => k_is); (case k7 => k_is); (case k8 => ktr_room); (case k9 => first | exact BindsTo.of_eq rfl | exact binds_K (by k_in) rfl (by k_is) rfl rfl rfl); (case c5 => decide); (case kB => exact locs rfl); (case c2 => exact rfl); (case c3 => exact rfl); (case c4 => exact rfl); k_whole; intro g' L' h' FG' F' N' B' X' T'; (first | replace F' := fr_look1 F' | replace F' := fr_look2 F' | replace F' := fr_look3 F' | replace F' := fr_look4 F'); (try dsimp only); (try k_lift B'); (try k_fold)))
  k_steps
  all_goals ((refine' cb_retB (Q := Q) hret ?e1 ?e2 ?e3; (case e2 => k_asm); (case e3 => first | with_reducible assumption | (refine' cb_drop ?cbN ?cbS; (case cbN => with_reducible assumption); (case cbS => (intro p9 hp9; repeat (first | exact hp9 | refine List.Mem.tail _ ?_)))) | (refine' cb_drop ?cbN ?cbS; (case cbN => assumption); (case cbS => kcj_all))); (case e1 => (law_clear; (try simp only [List.any_cons, List.any_nil, Bool.or_false, Bool.or_eq_true, Bool.or_eq_false_iff, Bool.and_eq_true, Bool.and_eq_false_iff, beq_iff_eq, beq_eq_false_iff_ne, bne_iff_ne, decide_eq_true_eq, decide_eq_false_iff_not, ne_eq] at *); (try law_fm); (refine Bool.eq_iff_iff.mpr ⟨fun q => ?_, fun q => ?_⟩) <;> (try simp only [sixthF, isleapF, agreedF, decide_eq_true_eq, beq_iff_eq, bne_iff_ne, Bool.and_eq_true, Bool.or_eq_true, true_and, and_true, false_and, and_false, or_false, false_or, or_true, true_or, ne_eq, not_true_eq_false, not_false_eq_true, Bool.false_eq_true] at q ⊢) <;> omega))))
def sizesF (i : Int) : Int := [31, 28, 31, 30, 31, 30, 31, 31, 30, 31, 30, 31].getD i.toNat 0
theorem sizes_len {y m : Int} (h1 : 1 ≤ m) (h2 : m ≤ 12) (h : m ≠ 2 ∨ isleapF y = false) : sizesF (m - 1) = lenF y m := by
  have hm : m = 1 ∨ m = 2 ∨ m = 3 ∨ m = 4 ∨ m = 5 ∨ m = 6 ∨ m = 7 ∨ m = 8 ∨ m = 9 ∨ m = 10 ∨ m = 11 ∨ m = 12 := by omega
  unfold lenF sizesF
  rcases hm with rfl | rfl | rfl | rfl | rfl | rfl | rfl | rfl | rfl | rfl | rfl | rfl
  case inr.inl => rcases h with h | h <;> simp_all
  all_goals (simp)
section
variable {prog : Program} {w : World} {A : Around} {E : Value → Shared → Prop} {s : Shared} {Q : Value → Shared → Prop} {i : Int} {u t1 t2 t3 t4 t5 t6 t7 t8 t9 t10 t11 t12 : Tok} {l : Addr} {value slice : PySem.Expr}
theorem item_sizes (hl : IsTup s.heap l [Value.int 31 t1, .int 28 t2, .int 31 t3, .int 30 t4, .int 31 t5, .int 30 t6, .int 31 t7, .int 31 t8, .int 30 t9, .int 31 t10, .int 30 t11, .int 31 t12].toArray)
    (h0 : 0 ≤ i) (h1 : i < 12) (h : ∀ t, Q (.int (sizesF i) t) s)
    (hs : subscripted slice false (.ref l) (.int i u) = operate [.ref l, .int i u] (getItem (.ref l) (.int i u)) := by with_unfolding_all rfl) :
    wpAny (model prog w) A (subscriptTail value slice (.ref l) (.int i u)) Q E s := by
  have hi : i = 0 ∨ i = 1 ∨ i = 2 ∨ i = 3 ∨ i = 4 ∨ i = 5 ∨ i = 6 ∨ i = 7 ∨ i = 8 ∨ i = 9 ∨ i = 10 ∨ i = 11 := by omega
  rcases hi with rfl | rfl | rfl | rfl | rfl | rfl | rfl | rfl | rfl | rfl | rfl | rfl
  all_goals exact item_tupleT hl (by decide) (by decide) rfl rfl (h _) hs
end
local macro_rules | `(tactic| walk_at "subscriptTail") => `(tactic| (k_here; (with_reducible show wpAny _ _ (subscriptTail (PySem.Expr.Name _ ⟨214, _, _, _⟩) _ (Value.ref _) (Value.int _ _)) _ _ _); k_dflt (refine' item_sizes (tupK ?kX ?kl) ?ka ?kb ?_ ?kc; (case kX => k_in); (case kl => k_is); (case ka => omega); (case kb => omega); (case kc => with_unfolding_all rfl); k_whole); intro u9))
theorem c_length (y m : Int) (t u : Tok) : Cl 1 144 [.int y t, .int m u] [] (1 ≤ m ∧ m ≤ 12) (fun t => .int (lenF y m) t) := by
  (first | unfold Cl | skip); w_on; k_fill; intro w p loose mean mg mb news dp un gd cn cs ac ccd cl outer A₀ base h₀ L mm s Q E B F X N T hk hpre hd hu hret
  k_with_none
  obtain ⟨h1, h2⟩ := hpre
  (refine wpAny_call ?_); k_dflt ((refine' code_def ?k1 ?k2 ?k3 ?k4 ?k5 ?kA ?kF ?kK ?k6 ?k7 ?k8 ?k9 ?kB ?_ ?c2 ?c3 ?c4 ?c5; (case kA => exact rfl); (case kF => exact rfl); (case kK => assumption); (case k1 => k_asm); (case k2 => k_asm); (case k3 => k_asm); (case k4 => k_asm); (case k5 => k_asm); (case k6 => k_is); (case k7 => k_is); (case k8 => ktr_room); (case k9 => first | exact BindsTo.of_eq rfl | exact binds_K (by k_in) rfl (by k_is) rfl rfl rfl); (case c5 => decide); (case kB => exact locs rfl); (case c2 => exact rfl); (case c3 => exact rfl); (case c4 => exact rfl); k_whole; intro g' L' h' FG' F' N' B' X' T'; (first | replace F' := fr_look1 F' | replace F' := fr_look2 F' | replace F' := fr_look3 F' | replace F' := fr_look4 F'); (try dsimp only); (try k_lift B'); (try k_fold)))
  k_steps
  all_goals ((refine' cb_retI (Q := Q) hret ?e1 ?e2 ?e3; (case e2 => k_asm); (case e3 => first | with_reducible assumption | (refine' cb_drop ?cbN ?cbS; (case cbN => with_reducible assumption); (case cbS => (intro p9 hp9; repeat (first | exact hp9 | refine List.Mem.tail _ ?_)))) | (refine' cb_drop ?cbN ?cbS; (case cbN => assumption); (case cbS => kcj_all))); (case e1 => (law_clear; first | exact sizes_len h1 h2 (by first | (left; omega) | (right; unfold isleapF; simp only [decide_eq_false_iff_not]; omega)) | (unfold lenF isleapF; rw [if_pos (by omega), if_pos (by simp only [decide_eq_true_eq]; omega)])))))
/-- what a call does that takes a made tuple of three ints (at D) and hands back a tuple of three ints -/
def Clu (n : Nat) (f : Addr) (vs : Addr → List Value) (a b c : Int) (pre : Prop) (x y z : Int) : Prop :=
  ∀ (D : Addr) (t1 t2 t3 : Tok) (cc : Nat) (w : World) (p : Program) (loose : List PySem.Str) (mean : ExcName → Option Value) (mg mb : PySem.Str → Option Value) (news : List (Addr × Obj))
    (dp un : Nat) (gd : Option (List Code)) (cn : PySem.Str) (cs : Scope) (ac : Addr) (ccd : Value) (cl : List (PySem.Str × Addr)) (outer : List Env) (A₀ : Around) (base h₀ : Heap) (L : Addr) (m : PySem.Str → Option Value) (s : Shared) (Q E : Value → Shared → Prop),
    (D, ({ cls := .type "tuple", data := .seq #[.int a t1, .int b t2, .int c t3] cc } : Obj)) ∈ news → Below A₀ base outer h₀ → Fr h₀ L s.heap m → (Bn.hd.heap_39 w.params).In h₀ → News h₀ L s.heap news → Top p loose mean mg mb h₀ → cs.kind = .function →
    pre → dp + n < recursionLimit → un + 8 * n < cLine →
    (∀ (D' : Addr) (t u v : Tok) (c' : Nat) (h' : Heap) (tk' : Nat), Fr h₀ L h' m → News h₀ L h' ((D', ({ cls := .type "tuple", data := .seq #[.int x t, .int y u, .int z v] c' } : Obj)) :: news) → AllLt D' news → Q (.ref D') { s with heap := h', toks := tk' }) →
    wpAny (model PySem.Challenge.rw_bn0009_01.row.prog w) (ktrTop dp un gd cn cs L ac ccd cl outer) (PySem.call (.ref f) (vs D)) Q E s
theorem use_clu {n : Nat} {f : Addr} {vs : Addr → List Value} {a b c : Int} {pre : Prop} {x y z : Int} (C : Clu n f vs a b c pre x y z) {D : Addr} {t1 t2 t3 : Tok} {cc : Nat} {w : World} {p : Program} {loose : List PySem.Str} {mean : ExcName → Option Value} {mg mb : PySem.Str → Option Value} {news : List (Addr × Obj)}
    {dp un : Nat} {gd : Option (List Code)} {cn : PySem.Str} {cs : Scope} {ac : Addr} {ccd : Value} {cl : List (PySem.Str × Addr)} {outer : List Env} {A₀ : Around} {base h₀ : Heap} {L : Addr} {m : PySem.Str → Option Value} {s : Shared} {Q E : Value → Shared → Prop}
    (hD : (D, ({ cls := .type "tuple", data := .seq #[.int a t1, .int b t2, .int c t3] cc } : Obj)) ∈ news) (B : Below A₀ base outer h₀) (F : Fr h₀ L s.heap m) (X : (Bn.hd.heap_39 w.params).In h₀) (N : News h₀ L s.heap news) (T : Top p loose mean mg mb h₀) (hk : cs.kind = .function)
    (hp : pre) (hd : dp + n < recursionLimit) (hu : un + 8 * n < cLine)
    (ret : (∀ (D' : Addr) (t u v : Tok) (c' : Nat) (h' : Heap) (tk' : Nat), Fr h₀ L h' m → News h₀ L h' ((D', ({ cls := .type "tuple", data := .seq #[.int x t, .int y u, .int z v] c' } : Obj)) :: news) → AllLt D' news → Q (.ref D') { s with heap := h', toks := tk' })) : wpAny (model PySem.Challenge.rw_bn0009_01.row.prog w) (ktrTop dp un gd cn cs L ac ccd cl outer) (PySem.call (.ref f) (vs D)) Q E s :=
  C _ _ _ _ _ _ _ _ _ _ _ _ _ _ _ _ _ _ _ _ _ _ _ _ _ _ _ _ _ hD B F X N T hk hp hd hu ret
theorem news_top {h₀ h : Heap} {L : Addr} {news : List (Addr × Obj)} {q : Addr × Obj} (N : News h₀ L h news) (hq : q ∈ news) : News h₀ L h (q :: news) := fun p hp => by
  rcases List.mem_cons.mp hp with rfl | hp
  · exact N _ hq
  · exact N p hp
local macro_rules | `(tactic| walk_at "call ref") => `(tactic| (k_here; k_dflt (first | refine' use_cl (c_sixth _ _ _ _) ?k1 ?k2 ?k3 ?k4 ?k5 ?kK ?kp ?kd ?ku ?_); (case k1 => k_asm); (case k2 => k_asm); (case k3 => k_asm); (case k4 => k_asm); (case k5 => k_asm); (case kK => first | exact rfl | assumption); (case kp => first | trivial | assumption | with_reducible exact ⟨eDF_nonneg _, by decide, by decide⟩ | with_reducible exact ⟨Int.emod_nonneg _ (by decide), by decide, by decide⟩ | omega | exact ⟨by decide, by have := lenF_pos ‹_› ‹_›; omega⟩ | (refine ⟨by decide, ?_⟩; exact Int.le_trans (by decide) (lenF_pos _ _).1) | l_fact); (case kd => ktr_room); (case ku => ktr_units); intro t9 h9 tk9 F9 N9; (try dsimp only); (try k_fold)))
theorem c_onward (k y m d : Int) (t : Tok) : Clu 2 137 (fun D => [.int k t, .ref D]) y m d True (onY k y m d) (onM k y m d) (onD k y m d) := by
  unfold Clu; w_on; k_fill
  intro D t1 t2 t3 cc w p loose mean mg mb news dp un gd cn cs ac ccd cl outer A₀ base h₀ L mm s Q E hD B F X N T hk hpre hd hu hret
  k_with_none
  replace N := news_top N hD
  (refine wpAny_call ?_); k_dflt ((refine' code_def ?k1 ?k2 ?k3 ?k4 ?k5 ?kA ?kF ?kK ?k6 ?k7 ?k8 ?k9 ?kB ?_ ?c2 ?c3 ?c4 ?c5; (case kA => exact rfl); (case kF => exact rfl); (case kK => assumption); (case k1 => k_asm); (case k2 => k_asm); (case k3 => k_asm); (case k4 => k_asm); (case k5 => k_asm); (case k6 => k_is); (case k7 => k_is); (case k8 => ktr_room); (case k9 => first | exact BindsTo.of_eq rfl | exact binds_K (by k_in) rfl (by k_is) rfl rfl rfl); (case c5 => decide); (case kB => exact locs rfl); (case c2 => exact rfl); (case c3 => exact rfl); (case c4 => exact rfl); k_whole; intro g' L' h' FG' F' N' B' X' T'; (first | replace F' := fr_look1 F' | replace F' := fr_look2 F' | replace F' := fr_look3 F' | replace F' := fr_look4 F'); (try dsimp only); (try k_lift B'); (try k_fold)))
  k_steps
  all_goals ((refine' clt_ret (Q := Q) hret ?e1 ?e2 ?e3 ?eF ?eN ?eD ?eS ?eL; (case eF => k_asm); (case eN => with_reducible assumption); (case eD => k_dflt k_mem); (case eS => (intro p9 hp9; repeat (first | exact hp9 | refine List.Mem.tail _ ?_))); (case eL => first | with_reducible assumption | exact allLt_of (by with_reducible assumption) | exact And.right (by with_reducible assumption) | exact And.right (And.right (by with_reducible assumption)) | exact And.right (And.right (And.right (by with_reducible assumption))) | exact And.right (And.right (And.right (And.right (by with_reducible assumption)))) | exact And.right (And.right (And.right (And.right (And.right (by with_reducible assumption))))) | exact And.right (And.right (And.right (And.right (And.right (And.right (by with_reducible assumption)))))) | exact And.right (And.right (And.right (And.right (And.right (And.right (And.right (by with_reducible assumption))))))) | exact And.right (And.right (And.right (And.right (And.right (And.right (And.right (And.right (by with_reducible assumption))))))))); (case e1 => (law_clear; simp only [onY, onM, onD, *, if_true, if_false, Bool.false_eq_true, true_or, or_true, false_or, or_false]; first | done | omega | ((repeat' split) <;> omega))); (case e2 => (law_clear; simp only [onY, onM, onD, *, if_true, if_false, Bool.false_eq_true, true_or, or_true, false_or, or_false]; first | done | omega | ((repeat' split) <;> omega))); (case e3 => (law_clear; simp only [onY, onM, onD, *, if_true, if_false, Bool.false_eq_true, true_or, or_true, false_or, or_false]; first | done | omega | ((repeat' split) <;> omega)))))
local macro_rules | `(tactic| walk_at "call ref") => `(tactic| (k_here; k_dflt (first | refine' use_cl (c_length _ _ _ _) ?k1 ?k2 ?k3 ?k4 ?k5 ?kK ?kp ?kd ?ku ?_); (case k1 => k_asm); (case k2 => k_asm); (case k3 => k_asm); (case k4 => k_asm); (case k5 => k_asm); (case kK => first | exact rfl | assumption); (case kp => first | trivial | assumption | with_reducible exact ⟨eDF_nonneg _, by decide, by decide⟩ | with_reducible exact ⟨Int.emod_nonneg _ (by decide), by decide, by decide⟩ | omega | exact ⟨by decide, by have := lenF_pos ‹_› ‹_›; omega⟩ | (refine ⟨by decide, ?_⟩; exact Int.le_trans (by decide) (lenF_pos _ _).1) | l_fact); (case kd => ktr_room); (case ku => ktr_units); intro t9 h9 tk9 F9 N9; (try dsimp only); (try k_fold)))
theorem c_morrow (y m d : Int) : Clu 2 158 (fun D => [.ref D]) y m d (1 ≤ m ∧ m ≤ 12) (moY y m d) (moM y m d) (moD y m d) := by
  unfold Clu; w_on; k_fill
  intro D t1 t2 t3 cc w p loose mean mg mb news dp un gd cn cs ac ccd cl outer A₀ base h₀ L mm s Q E hD B F X N T hk hpre hd hu hret
  k_with_none
  replace N := news_top N hD
  (refine wpAny_call ?_); k_dflt ((refine' code_def ?k1 ?k2 ?k3 ?k4 ?k5 ?kA ?kF ?kK ?k6 ?k7 ?k8 ?k9 ?kB ?_ ?c2 ?c3 ?c4 ?c5; (case kA => exact rfl); (case kF => exact rfl); (case kK => assumption); (case k1 => k_asm); (case k2 => k_asm); (case k3 => k_asm); (case k4 => k_asm); (case k5 => k_asm); (case k6 => k_is); (case k7 => k_is); (case k8 => ktr_room); (case k9 => first | exact BindsTo.of_eq rfl | exact binds_K (by k_in) rfl (by k_is) rfl rfl rfl); (case c5 => decide); (case kB => exact locs rfl); (case c2 => exact rfl); (case c3 => exact rfl); (case c4 => exact rfl); k_whole; intro g' L' h' FG' F' N' B' X' T'; (first | replace F' := fr_look1 F' | replace F' := fr_look2 F' | replace F' := fr_look3 F' | replace F' := fr_look4 F'); (try dsimp only); (try k_lift B'); (try k_fold)))
  k_steps
  all_goals ((refine' clt_ret (Q := Q) hret ?e1 ?e2 ?e3 ?eF ?eN ?eD ?eS ?eL; (case eF => k_asm); (case eN => with_reducible assumption); (case eD => k_dflt k_mem); (case eS => (intro p9 hp9; repeat (first | exact hp9 | refine List.Mem.tail _ ?_))); (case eL => first | with_reducible assumption | exact allLt_of (by with_reducible assumption) | exact And.right (by with_reducible assumption) | exact And.right (And.right (by with_reducible assumption)) | exact And.right (And.right (And.right (by with_reducible assumption))) | exact And.right (And.right (And.right (And.right (by with_reducible assumption)))) | exact And.right (And.right (And.right (And.right (And.right (by with_reducible assumption))))) | exact And.right (And.right (And.right (And.right (And.right (And.right (by with_reducible assumption)))))) | exact And.right (And.right (And.right (And.right (And.right (And.right (And.right (by with_reducible assumption))))))) | exact And.right (And.right (And.right (And.right (And.right (And.right (And.right (And.right (by with_reducible assumption))))))))); (case e1 => (law_clear; simp only [moY, moM, moD, *, if_true, if_false]; first | done | omega | ((repeat' split) <;> omega))); (case e2 => (law_clear; simp only [moY, moM, moD, *, if_true, if_false]; first | done | omega | ((repeat' split) <;> omega))); (case e3 => (law_clear; simp only [moY, moM, moD, *, if_true, if_false]; first | done | omega | ((repeat' split) <;> omega)))))
/-- what a call does of a def that catches: the frames below may be turned -/
def Clr (n : Nat) (f : Addr) (vs : List Value) (pre : Prop) : Prop :=
  ∀ (w : World) (p : Program) (loose : List PySem.Str) (mean : ExcName → Option Value) (mg mb : PySem.Str → Option Value) (news : List (Addr × Obj))
    (dp un : Nat) (gd : Option (List Code)) (cn : PySem.Str) (cs : Scope) (ac : Addr) (ccd : Value) (outer : List Env) (A₀ : Around) (base h₀ g₀ : Heap) (L : Addr) (m : PySem.Str → Option Value) (s : Shared) (Q E : Value → Shared → Prop),
    Below A₀ base outer h₀ → Fr h₀ L s.heap m → (Bn.hd.heap_39 w.params).In h₀ → News h₀ L s.heap news → Top p loose mean mg mb h₀ → cs.kind = .function →
    (Bn.hd.heap_39 w.params).In base → Top p loose mean mg mb base → KtsDicts (outer.filterMap (·.frame)) h₀ → KtsTurn (outer.filterMap (·.frame)) g₀ h₀ →
    pre → dp + n < recursionLimit → un + 8 * n < cLine →
    (∀ (h₀' h' : Heap) (tk' : Nat), KtsTurn (outer.filterMap (·.frame)) g₀ h₀' → Fr h₀' L h' m → News h₀' L h' news → Below A₀ base outer h₀' → (Bn.hd.heap_39 w.params).In h₀' → Top p loose mean mg mb h₀' → KtsDicts (outer.filterMap (·.frame)) h₀' → Q (.bool true) { s with heap := h', toks := tk' }) →
    wpAny (model PySem.Challenge.rw_bn0009_01.row.prog w) ({ handled := none, depth := dp, frames := some (envOf cn cs L ac ccd :: outer), guards := gd, units := un } : Around) (PySem.call (.ref f) vs []) Q E s
local macro_rules | `(tactic| walk_at "call ref") => `(tactic| (k_here; (refine wpAny_call ?_); k_dflt ((refine' code_def ?k1 ?k2 ?k3 ?k4 ?k5 ?kA ?kF ?kK ?k6 ?k7 ?k8 ?k9 ?kB ?_ ?c2 ?c3 ?c4 ?c5; (case kA => exact rfl); (case kF => exact rfl); (case kK => first | exact rfl | assumption); (case k1 => k_asm); (case k2 => k_asm); (case k3 => k_asm); (case k4 => k_asm); (case k5 => k_asm); (case k6 => k_is); (case k7 => k_is); (case k8 => ktr_room); (case k9 => first | exact BindsTo.of_eq rfl | exact binds_K (by k_in) rfl (by k_is) rfl rfl rfl); (case c5 => decide); (case kB => exact locs rfl); (case c2 => exact rfl); (case c3 => exact rfl); (case c4 => exact rfl); k_whole; intro g' L' h' FG' F' N' B' X' T'; (first | replace F' := fr_look1 F' | replace F' := fr_look2 F' | replace F' := fr_look3 F' | replace F' := fr_look4 F'); (try dsimp only); (try k_lift B'); (try k_fold)))))
/-- a date that to_jd refuses -/
def badF (k y m d : Int) : Prop := d < 1 ∨ 30 < d ∨ (1 ≤ d ∧ d ≤ 30 ∧ 13 < m) ∨ (5 < d ∧ d ≤ 30 ∧ m = 13 ∧ sixthF k y = false) ∨ (6 < d ∧ d ≤ 30 ∧ m = 13 ∧ sixthF k y = true)
local macro_rules | `(tactic| walk_at "call ref") => `(tactic| (k_here; k_dflt (first | refine' use_cl (c_leapk _ _ _ _) ?k1 ?k2 ?k3 ?k4 ?k5 ?kK ?kp ?kd ?ku ?_); (case k1 => k_asm); (case k2 => k_asm); (case k3 => k_asm); (case k4 => k_asm); (case k5 => k_asm); (case kK => first | exact rfl | assumption); (case kp => first | trivial | assumption | with_reducible exact ⟨eDF_nonneg _, by decide, by decide⟩ | with_reducible exact ⟨Int.emod_nonneg _ (by decide), by decide, by decide⟩ | omega | exact ⟨by decide, by have := lenF_pos ‹_› ‹_›; omega⟩ | (refine ⟨by decide, ?_⟩; exact Int.le_trans (by decide) (lenF_pos _ _).1) | l_fact); (case kd => ktr_room); (case ku => ktr_units); intro t9 h9 tk9 F9 N9; (try dsimp only); (try k_fold)))
local macro_rules | `(tactic| walk_at "call ref") => `(tactic| (k_here; k_dflt (first | refine' use_cl (c_leapkb _ _ _ _ _) ?k1 ?k2 ?k3 ?k4 ?k5 ?kK ?kp ?kd ?ku ?_); (case k1 => k_asm); (case k2 => k_asm); (case k3 => k_asm); (case k4 => k_asm); (case k5 => k_asm); (case kK => first | exact rfl | assumption); (case kp =>  exact ⟨by assumption, by assumption, by assumption⟩); (case kd => ktr_room); (case ku => ktr_units); intro t9 h9 tk9 F9 N9; (try dsimp only); (try k_fold)))
theorem c_refused (k y m d : Int) (t u v : Tok) (wy : Value) : Clr 8 165 [.int y t, .int m u, .int d v, wy] (1 ≤ y ∧ IsWay k wy ∧ badF k y m d) := by
  unfold Clr; w_on; k_fill
  intro w p loose mean mg mb news dp un gd cn cs ac ccd outer A₀ base h₀ g₀ L mm s Q E B F X N T hk XB TB D T0 hpre hd hu hret
  k_with_none
  obtain ⟨hy, hw, hb⟩ := hpre
  rcases hb with hb | hb | ⟨hb1, hb2, hb⟩ | ⟨hb1, hb2, hb, hs⟩ | ⟨hb1, hb2, hb, hs⟩
  all_goals (
    (refine wpAny_call ?_); k_dflt (refine' code_defS ?k1 ?k2 ?k3 ?k4 ?k5 ?XB ?TB ?D ?T0 ?kA ?k6 ?k7 ?k8 ?k9 ?kB ?_ ?cK ?c2 ?c3 ?c4 ?c5; (case kA => exact rfl); (case k2 => k_asm); (case k1 => k_asm); (case XB => assumption); (case TB => assumption); (case D => assumption); (case T0 => assumption); (case k3 => exact X); (case k4 => k_asm); (case k5 => exact T); (case k6 => k_is); (case k7 => k_is); (case k8 => ktr_room); (case k9 => first | exact binds_K (by k_in) rfl (by k_is) rfl rfl rfl | exact BindsTo.of_eq rfl); (case kB => exact locs rfl); (case cK => exact hk); (case c2 => exact rfl); (case c3 => exact rfl); (case c4 => exact rfl); (case c5 => decide); k_whole; intro g' L' h' FG' F' N' B' X' T' D'; (first | replace F' := fr_look1 F' | replace F' := fr_look2 F' | replace F' := fr_look3 F' | replace F' := fr_look4 F'); (try dsimp only); (try k_lift B'); (try k_fold))
    k_steps
    all_goals (refine' hret _ _ _ ?z1 ?z2 ?z3 ?z4 ?z5 ?z6 ?z7; (case z1 => with_reducible assumption); (case z2 => with_reducible assumption); (case z3 => first | with_reducible assumption | (refine' cb_drop ?cbN ?cbS; (case cbN => with_reducible assumption); (case cbS => (intro p9 hp9; repeat (first | exact hp9 | refine List.Mem.tail _ ?_))))); (case z4 => with_reducible assumption); (case z5 => with_reducible assumption); (case z6 => with_reducible assumption); (case z7 => with_reducible assumption)))
theorem c_unborn (k jd : Int) (t : Tok) (wy : Value) : Clr 8 172 [.int jd t, wy] (jd < 2375840 ∧ IsWay k wy) := by
  unfold Clr; w_on; k_fill
  intro w p loose mean mg mb news dp un gd cn cs ac ccd outer A₀ base h₀ g₀ L mm s Q E B F X N T hk XB TB D T0 hpre hd hu hret
  k_with_none
  obtain ⟨hj, hw⟩ := hpre
  (refine wpAny_call ?_); k_dflt (refine' code_defS ?k1 ?k2 ?k3 ?k4 ?k5 ?XB ?TB ?D ?T0 ?kA ?k6 ?k7 ?k8 ?k9 ?kB ?_ ?cK ?c2 ?c3 ?c4 ?c5; (case kA => exact rfl); (case k2 => k_asm); (case k1 => k_asm); (case XB => assumption); (case TB => assumption); (case D => assumption); (case T0 => assumption); (case k3 => exact X); (case k4 => k_asm); (case k5 => exact T); (case k6 => k_is); (case k7 => k_is); (case k8 => ktr_room); (case k9 => first | exact binds_K (by k_in) rfl (by k_is) rfl rfl rfl | exact BindsTo.of_eq rfl); (case kB => exact locs rfl); (case cK => exact hk); (case c2 => exact rfl); (case c3 => exact rfl); (case c4 => exact rfl); (case c5 => decide); k_whole; intro g' L' h' FG' F' N' B' X' T' D'; (first | replace F' := fr_look1 F' | replace F' := fr_look2 F' | replace F' := fr_look3 F' | replace F' := fr_look4 F'); (try dsimp only); (try k_lift B'); (try k_fold))
  k_steps
  all_goals (refine' hret _ _ _ ?z1 ?z2 ?z3 ?z4 ?z5 ?z6 ?z7; (case z1 => with_reducible assumption); (case z2 => with_reducible assumption); (case z3 => first | with_reducible assumption | (refine' cb_drop ?cbN ?cbS; (case cbN => with_reducible assumption); (case cbS => (intro p9 hp9; repeat (first | exact hp9 | refine List.Mem.tail _ ?_))))); (case z4 => with_reducible assumption); (case z5 => with_reducible assumption); (case z6 => with_reducible assumption); (case z7 => with_reducible assumption))
local macro_rules | `(tactic| walk_at "call ref") => `(tactic| (k_here; (refine wpAny_call ?_); k_dflt ((refine' code_def ?k1 ?k2 ?k3 ?k4 ?k5 ?kA ?kF ?kK ?k6 ?k7 ?k8 ?k9 ?kB ?_ ?c2 ?c3 ?c4 ?c5; (case kA => exact rfl); (case kF => exact rfl); (case kK => first | exact rfl | assumption); (case k1 => k_asm); (case k2 => k_asm); (case k3 => k_asm); (case k4 => k_asm); (case k5 => k_asm); (case k6 => k_is); (case k7 => k_is); (case k8 => ktr_room); (case k9 => first | exact BindsTo.of_eq rfl | exact binds_K (by k_in) rfl (by k_is) rfl rfl rfl); (case c5 => decide); (case kB => exact locs rfl); (case c2 => exact rfl); (case c3 => exact rfl); (case c4 => exact rfl); k_whole; intro g' L' h' FG' F' N' B' X' T'; (first | replace F' := fr_look1 F' | replace F' := fr_look2 F' | replace F' := fr_look3 F' | replace F' := fr_look4 F'); (try dsimp only); (try k_lift B'); (try k_fold)))))
theorem c_unbornn (n jd : Int) (t u : Tok) : Clr 8 172 [.int jd t, .int n u] (2375840 ≤ jd ∧ n < 0) := by
  unfold Clr; w_on; k_fill
  intro w p loose mean mg mb news dp un gd cn cs ac ccd outer A₀ base h₀ g₀ L mm s Q E B F X N T hk XB TB D T0 hpre hd hu hret
  k_with_none
  obtain ⟨hj, hw⟩ := hpre
  (refine wpAny_call ?_); k_dflt (refine' code_defS ?k1 ?k2 ?k3 ?k4 ?k5 ?XB ?TB ?D ?T0 ?kA ?k6 ?k7 ?k8 ?k9 ?kB ?_ ?cK ?c2 ?c3 ?c4 ?c5; (case kA => exact rfl); (case k2 => k_asm); (case k1 => k_asm); (case XB => assumption); (case TB => assumption); (case D => assumption); (case T0 => assumption); (case k3 => exact X); (case k4 => k_asm); (case k5 => exact T); (case k6 => k_is); (case k7 => k_is); (case k8 => ktr_room); (case k9 => first | exact binds_K (by k_in) rfl (by k_is) rfl rfl rfl | exact BindsTo.of_eq rfl); (case kB => exact locs rfl); (case cK => exact hk); (case c2 => exact rfl); (case c3 => exact rfl); (case c4 => exact rfl); (case c5 => decide); k_whole; intro g' L' h' FG' F' N' B' X' T' D'; (first | replace F' := fr_look1 F' | replace F' := fr_look2 F' | replace F' := fr_look3 F' | replace F' := fr_look4 F'); (try dsimp only); (try k_lift B'); (try k_fold))
  k_steps
  all_goals (refine' hret _ _ _ ?z1 ?z2 ?z3 ?z4 ?z5 ?z6 ?z7; (case z1 => with_reducible assumption); (case z2 => with_reducible assumption); (case z3 => first | with_reducible assumption | (refine' cb_drop ?cbN ?cbS; (case cbN => with_reducible assumption); (case cbS => (intro p9 hp9; repeat (first | exact hp9 | refine List.Mem.tail _ ?_))))); (case z4 => with_reducible assumption); (case z5 => with_reducible assumption); (case z6 => with_reducible assumption); (case z7 => with_reducible assumption))
theorem c_refusedn (n y m d : Int) (t u v z : Tok) : Clr 8 165 [.int y t, .int m u, .int d v, .int n z] (1 ≤ y ∧ n < 0 ∧ 1 ≤ d ∧ d ≤ 30 ∧ (m < 13 ∨ m = 13)) := by
  unfold Clr; w_on; k_fill
  intro w p loose mean mg mb news dp un gd cn cs ac ccd outer A₀ base h₀ g₀ L mm s Q E B F X N T hk XB TB D T0 hpre hd hu hret
  k_with_none
  obtain ⟨hy, hw, hb1, hb2, hb⟩ := hpre
  rcases hb with hb | hb
  all_goals (
    (refine wpAny_call ?_); k_dflt (refine' code_defS ?k1 ?k2 ?k3 ?k4 ?k5 ?XB ?TB ?D ?T0 ?kA ?k6 ?k7 ?k8 ?k9 ?kB ?_ ?cK ?c2 ?c3 ?c4 ?c5; (case kA => exact rfl); (case k2 => k_asm); (case k1 => k_asm); (case XB => assumption); (case TB => assumption); (case D => assumption); (case T0 => assumption); (case k3 => exact X); (case k4 => k_asm); (case k5 => exact T); (case k6 => k_is); (case k7 => k_is); (case k8 => ktr_room); (case k9 => first | exact binds_K (by k_in) rfl (by k_is) rfl rfl rfl | exact BindsTo.of_eq rfl); (case kB => exact locs rfl); (case cK => exact hk); (case c2 => exact rfl); (case c3 => exact rfl); (case c4 => exact rfl); (case c5 => decide); k_whole; intro g' L' h' FG' F' N' B' X' T' D'; (first | replace F' := fr_look1 F' | replace F' := fr_look2 F' | replace F' := fr_look3 F' | replace F' := fr_look4 F'); (try dsimp only); (try k_lift B'); (try k_fold))
    k_steps
    all_goals (refine' hret _ _ _ ?z1 ?z2 ?z3 ?z4 ?z5 ?z6 ?z7; (case z1 => with_reducible assumption); (case z2 => with_reducible assumption); (case z3 => first | with_reducible assumption | (refine' cb_drop ?cbN ?cbS; (case cbN => with_reducible assumption); (case cbS => (intro p9 hp9; repeat (first | exact hp9 | refine List.Mem.tail _ ?_))))); (case z4 => with_reducible assumption); (case z5 => with_reducible assumption); (case z6 => with_reducible assumption); (case z7 => with_reducible assumption)))
/-- a while's turn, or its end: two names hold ints -/
def Wh2 (h₀ : Heap) (L : Addr) (s : Shared) (x1 x2 : PySem.Str) (mm : PySem.Str → Option Value) (news : List (Addr × Obj)) (R : Int → Int → Prop) (s' : Shared) : Prop :=
  ∃ (a b : Int) (t u : Tok) (h' : Heap) (tk : Nat) (m' : PySem.Str → Option Value), s' = { s with heap := h', toks := tk } ∧ Fr h₀ L h' m' ∧ News h₀ L h' news ∧ m' x1 = some (.int a t) ∧ m' x2 = some (.int b u) ∧ (∀ z, z ≠ x1 → z ≠ x2 → m' z = mm z) ∧ R a b
def Wh2T (h₀ : Heap) (L : Addr) (s : Shared) (x1 x2 : PySem.Str) (mm : PySem.Str → Option Value) (news : List (Addr × Obj)) (R : Int → Int → Prop) (f : Flow) (s' : Shared) : Prop := f = .next ∧ Wh2 h₀ L s x1 x2 mm news R s'
def Wh3 (h₀ : Heap) (L : Addr) (s : Shared) (x1 x2 x3 : PySem.Str) (mm : PySem.Str → Option Value) (news : List (Addr × Obj)) (R : Int → Int → Int → Prop) (s' : Shared) : Prop :=
  ∃ (a b c : Int) (t u v : Tok) (h' : Heap) (tk : Nat) (m' : PySem.Str → Option Value), s' = { s with heap := h', toks := tk } ∧ Fr h₀ L h' m' ∧ News h₀ L h' news ∧ m' x1 = some (.int a t) ∧ m' x2 = some (.int b u) ∧ m' x3 = some (.int c v) ∧ (∀ z, z ≠ x1 → z ≠ x2 → z ≠ x3 → m' z = mm z) ∧ R a b c
def Wh3T (h₀ : Heap) (L : Addr) (s : Shared) (x1 x2 x3 : PySem.Str) (mm : PySem.Str → Option Value) (news : List (Addr × Obj)) (R : Int → Int → Int → Prop) (f : Flow) (s' : Shared) : Prop := f = .next ∧ Wh3 h₀ L s x1 x2 x3 mm news R s'
section
variable {prog : Program} {w : World} {A : Around} {E : Value → Shared → Prop} {Q : Flow → Shared → Prop} {s : Shared} {env : Env} {h₀ h' : Heap} {L : Addr} {mm m' : PySem.Str → Option Value} {news news' : List (Addr × Obj)} {x1 x2 x3 : PySem.Str} {a b c : Int} {t u v : Tok} {tk : Nat}
theorem wh2_end {R : Int → Int → Prop} (F : Fr h₀ L h' m') (N : News h₀ L h' news') (h1 : m' x1 = some (.int a t)) (h2 : m' x2 = some (.int b u)) (hz : ∀ z, z ≠ x1 → z ≠ x2 → m' z = mm z) (hs : ∀ p ∈ news, p ∈ news') (hR : R a b) :
    Wh2 h₀ L s x1 x2 mm news R { s with heap := h', toks := tk } := ⟨a, b, t, u, h', tk, m', rfl, F, fun p hp => N p (hs p hp), h1, h2, hz, hR⟩
theorem wh3_end {R : Int → Int → Int → Prop} (F : Fr h₀ L h' m') (N : News h₀ L h' news') (h1 : m' x1 = some (.int a t)) (h2 : m' x2 = some (.int b u)) (h3 : m' x3 = some (.int c v)) (hz : ∀ z, z ≠ x1 → z ≠ x2 → z ≠ x3 → m' z = mm z) (hs : ∀ p ∈ news, p ∈ news') (hR : R a b c) :
    Wh3 h₀ L s x1 x2 x3 mm news R { s with heap := h', toks := tk } := ⟨a, b, c, t, u, v, h', tk, m', rfl, F, fun p hp => N p (hs p hp), h1, h2, h3, hz, hR⟩
theorem wh2t {R : Int → Int → Prop} {s' : Shared} (h : Wh2 h₀ L s x1 x2 mm news R s') : Wh2T h₀ L s x1 x2 mm news R .next s' := ⟨rfl, h⟩
theorem wh3t {R : Int → Int → Int → Prop} {s' : Shared} (h : Wh3 h₀ L s x1 x2 x3 mm news R s') : Wh3T h₀ L s x1 x2 x3 mm news R .next s' := ⟨rfl, h⟩
theorem lay2_eq (h1 : m' x1 = some (.int a t)) (h2 : m' x2 = some (.int b u)) (hz : ∀ z, z ≠ x1 → z ≠ x2 → m' z = mm z) : m' = fun z => if z = x1 then some (.int a t) else if z = x2 then some (.int b u) else mm z := by
  funext z
  by_cases e1 : z = x1
  · rw [if_pos e1, e1]; exact h1
  · rw [if_neg e1]
    by_cases e2 : z = x2
    · rw [if_pos e2, e2]; exact h2
    · rw [if_neg e2]; exact hz z e1 e2
theorem lay3_eq (h1 : m' x1 = some (.int a t)) (h2 : m' x2 = some (.int b u)) (h3 : m' x3 = some (.int c v)) (hz : ∀ z, z ≠ x1 → z ≠ x2 → z ≠ x3 → m' z = mm z) : m' = fun z => if z = x1 then some (.int a t) else if z = x2 then some (.int b u) else if z = x3 then some (.int c v) else mm z := by
  funext z
  by_cases e1 : z = x1
  · rw [if_pos e1, e1]; exact h1
  · rw [if_neg e1]
    by_cases e2 : z = x2
    · rw [if_pos e2, e2]; exact h2
    · rw [if_neg e2]
      by_cases e3 : z = x3
      · rw [if_pos e3, e3]; exact h3
      · rw [if_neg e3]; exact hz z e1 e2 e3
theorem while_2 {test : Expr} {body : List Stmt} {pos : Pos} (x1 x2 : PySem.Str) (P R : Int → Int → Prop) (μ : Int → Int → Nat) {a₀ b₀ : Int} {t₀ u₀ : Tok}
    (h1 : mm x1 = some (.int a₀ t₀)) (h2 : mm x2 = some (.int b₀ u₀)) (F : Fr h₀ L s.heap mm) (N : News h₀ L s.heap news) (hp : P a₀ b₀)
    (turn : ∀ (a b : Int) (t u : Tok) (h : Heap) (tk : Nat), P a b → Fr h₀ L h (fun z => if z = x1 then some (.int a t) else if z = x2 then some (.int b u) else mm z) → News h₀ L h news →
      wpAny (model prog w) A (isTrue test env (eval test env)) (fun c s₂ =>
        if c = true then wpAny (model prog w) A (execs body env) (Wh2T h₀ L s x1 x2 mm news (fun a' b' => P a' b' ∧ μ a' b' < μ a b)) E s₂ else Wh2 h₀ L s x1 x2 mm news R s₂) E { s with heap := h, toks := tk })
    (ret : ∀ (a b : Int) (t u : Tok) (h : Heap) (tk : Nat), R a b → Fr h₀ L h (fun z => if z = x1 then some (.int a t) else if z = x2 then some (.int b u) else mm z) → News h₀ L h news → Q .next { s with heap := h, toks := tk })
    (hE : PassesOwn (model prog w) A env E) :
    wpAny (model prog w) A (exec (.While test body [] pos) env) Q E s := by
  have em := lay2_eq (mm := mm) h1 h2 fun _ _ _ => rfl
  refine While_inv2 (fun n m nx => ∃ (a b : Int) (t u : Tok), nx = news ∧ μ a b = n ∧ m = (fun z => if z = x1 then some (.int a t) else if z = x2 then some (.int b u) else mm z) ∧ P a b) F N ⟨a₀, b₀, t₀, u₀, rfl, rfl, em, hp⟩ ?_ hE
  rintro n m₁ nx h tk F₁ N₁ ⟨a, b, t, u, rfl, rfl, rfl, hP⟩
  refine wpAny_mono (turn a b t u h tk hP F₁ N₁) (fun c s₂ p => ?_) fun _ _ x => x
  cases c with
  | false =>
    simp only [Bool.false_eq_true, if_false] at p ⊢
    obtain ⟨a', b', t', u', h', tk', m', rfl, F', N', g1, g2, g3, hR⟩ := p
    rw [lay2_eq g1 g2 g3] at F'
    exact ret a' b' t' u' h' tk' hR F' N'
  | true =>
    simp only [if_true] at p ⊢
    refine wpAny_mono p (fun f s₃ q => ?_) fun _ _ x => x
    obtain ⟨rfl, a', b', t', u', h', tk', m', rfl, F', N', g1, g2, g3, hP', hm⟩ := q
    rw [lay2_eq g1 g2 g3] at F'
    exact ⟨h', tk', _, nx, μ a' b', rfl, F', N', hm, a', b', t', u', rfl, rfl, rfl, hP'⟩
theorem while_3 {test : Expr} {body : List Stmt} {pos : Pos} (x1 x2 x3 : PySem.Str) (P R : Int → Int → Int → Prop) (μ : Int → Int → Int → Nat) {a₀ b₀ c₀ : Int} {t₀ u₀ v₀ : Tok}
    (h1 : mm x1 = some (.int a₀ t₀)) (h2 : mm x2 = some (.int b₀ u₀)) (h3 : mm x3 = some (.int c₀ v₀)) (F : Fr h₀ L s.heap mm) (N : News h₀ L s.heap news) (hp : P a₀ b₀ c₀)
    (turn : ∀ (a b c : Int) (t u v : Tok) (h : Heap) (tk : Nat), P a b c → Fr h₀ L h (fun z => if z = x1 then some (.int a t) else if z = x2 then some (.int b u) else if z = x3 then some (.int c v) else mm z) → News h₀ L h news →
      wpAny (model prog w) A (isTrue test env (eval test env)) (fun c' s₂ =>
        if c' = true then wpAny (model prog w) A (execs body env) (Wh3T h₀ L s x1 x2 x3 mm news (fun a' b' c' => P a' b' c' ∧ μ a' b' c' < μ a b c)) E s₂ else Wh3 h₀ L s x1 x2 x3 mm news R s₂) E { s with heap := h, toks := tk })
    (ret : ∀ (a b c : Int) (t u v : Tok) (h : Heap) (tk : Nat), R a b c → Fr h₀ L h (fun z => if z = x1 then some (.int a t) else if z = x2 then some (.int b u) else if z = x3 then some (.int c v) else mm z) → News h₀ L h news → Q .next { s with heap := h, toks := tk })
    (hE : PassesOwn (model prog w) A env E) :
    wpAny (model prog w) A (exec (.While test body [] pos) env) Q E s := by
  have em := lay3_eq (mm := mm) h1 h2 h3 fun _ _ _ _ => rfl
  refine While_inv2 (fun n m nx => ∃ (a b c : Int) (t u v : Tok), nx = news ∧ μ a b c = n ∧ m = (fun z => if z = x1 then some (.int a t) else if z = x2 then some (.int b u) else if z = x3 then some (.int c v) else mm z) ∧ P a b c) F N ⟨a₀, b₀, c₀, t₀, u₀, v₀, rfl, rfl, em, hp⟩ ?_ hE
  rintro n m₁ nx h tk F₁ N₁ ⟨a, b, c, t, u, v, rfl, rfl, rfl, hP⟩
  refine wpAny_mono (turn a b c t u v h tk hP F₁ N₁) (fun c s₂ p => ?_) fun _ _ x => x
  cases c with
  | false =>
    simp only [Bool.false_eq_true, if_false] at p ⊢
    obtain ⟨a', b', c', t', u', v', h', tk', m', rfl, F', N', g1, g2, g3, g4, hR⟩ := p
    rw [lay3_eq g1 g2 g3 g4] at F'
    exact ret a' b' c' t' u' v' h' tk' hR F' N'
  | true =>
    simp only [if_true] at p ⊢
    refine wpAny_mono p (fun f s₃ q => ?_) fun _ _ x => x
    obtain ⟨rfl, a', b', c', t', u', v', h', tk', m', rfl, F', N', g1, g2, g3, g4, hP', hm⟩ := q
    rw [lay3_eq g1 g2 g3 g4] at F'
    exact ⟨h', tk', _, nx, μ a' b' c', rfl, F', N', hm, a', b', c', t', u', v', rfl, rfl, rfl, hP'⟩
end
/-- what a call does that hands back a tuple of three ints of which P holds -/
def Clx (n : Nat) (f : Addr) (vs : List Value) (kw : List (PySem.Str × Value)) (pre : Prop) (P : Int → Int → Int → Prop) : Prop :=
  ∀ (w : World) (p : Program) (loose : List PySem.Str) (mean : ExcName → Option Value) (mg mb : PySem.Str → Option Value) (news : List (Addr × Obj))
    (dp un : Nat) (gd : Option (List Code)) (cn : PySem.Str) (cs : Scope) (a : Addr) (ccd : Value) (cl : List (PySem.Str × Addr)) (outer : List Env) (A₀ : Around) (base h₀ : Heap) (L : Addr) (m : PySem.Str → Option Value) (s : Shared) (Q E : Value → Shared → Prop),
    Below A₀ base outer h₀ → Fr h₀ L s.heap m → (Bn.hd.heap_39 w.params).In h₀ → News h₀ L s.heap news → Top p loose mean mg mb h₀ → cs.kind = .function →
    pre → dp + n < recursionLimit → un + 8 * n < cLine →
    (∀ (x y z : Int) (D : Addr) (t u v : Tok) (c : Nat) (h' : Heap) (tk' : Nat), P x y z → Fr h₀ L h' m → News h₀ L h' ((D, ({ cls := .type "tuple", data := .seq #[.int x t, .int y u, .int z v] c } : Obj)) :: news) → AllLt D news → Q (.ref D) { s with heap := h', toks := tk' }) →
    wpAny (model PySem.Challenge.rw_bn0009_01.row.prog w) (ktrTop dp un gd cn cs L a ccd cl outer) (PySem.call (.ref f) vs kw) Q E s
theorem clx_ret {P : Int → Int → Int → Prop} {x y z : Int} {h₀ h' : Heap} {L D : Addr} {mm : PySem.Str → Option Value} {news news' : List (Addr × Obj)} {s : Shared} {Q : Value → Shared → Prop} {t u v : Tok} {c tk' : Nat}
    (hret : ∀ (x y z : Int) (D : Addr) (t u v : Tok) (c : Nat) (h' : Heap) (tk' : Nat), P x y z → Fr h₀ L h' mm → News h₀ L h' ((D, ({ cls := .type "tuple", data := .seq #[.int x t, .int y u, .int z v] c } : Obj)) :: news) → AllLt D news → Q (.ref D) { s with heap := h', toks := tk' })
    (hP : P x y z) (F : Fr h₀ L h' mm) (N : News h₀ L h' news') (hD : (D, ({ cls := .type "tuple", data := .seq #[.int x t, .int y u, .int z v] c } : Obj)) ∈ news') (hs : ∀ p ∈ news, p ∈ news') (hl : AllLt D news) :
    Q (.ref D) { s with heap := h', toks := tk' } := by
  refine hret x y z D t u v c h' tk' hP F (fun p hp => ?_) hl
  rcases List.mem_cons.mp hp with rfl | hp
  · exact N _ hD
  · exact N p (hs p hp)
theorem cv4_room {N y c m z : Int} (h : cv4 N y c m z) (hc : z ≤ c) : 1 ≤ m + 1 ∧ m + 1 ≤ 12 := by
  have h1 := cv4_bound h hc
  obtain ⟨_, h2, _⟩ := h
  omega
local macro_rules | `(tactic| walk_at "call ref") => `(tactic| (k_here; k_dflt (first | refine' use_cl (c_length _ _ _ _) ?k1 ?k2 ?k3 ?k4 ?k5 ?kK ?kp ?kd ?ku ?_); (case k1 => k_asm); (case k2 => k_asm); (case k3 => k_asm); (case k4 => k_asm); (case k5 => k_asm); (case kK => first | exact rfl | assumption); (case kp =>  first | exact ⟨by decide, by decide⟩ | exact cv4_room (by assumption) (by assumption) | omega); (case kd => ktr_room); (case ku => ktr_units); intro t9 h9 tk9 F9 N9; (try dsimp only); (try k_fold)))
theorem cv1_startf (n : Int) : cv1 (n + 1721426) (n.fmod 146097) (400 * n.fdiv 146097 + 1) := by
  rw [Int.fmod_eq_emod_of_nonneg n (by omega), Int.fdiv_eq_ediv_of_nonneg n (by omega)]
  exact cv1_start n
theorem c_civil (n : Int) (t : Tok) : Clx 3 151 [.int n t] [] True (fun y m d => okG y m d ∧ gregF y m d = n + 1721426) := by
  unfold Clx; (first | unfold Cl | skip); w_on; k_fill; intro w p loose mean mg mb news dp un gd cn cs ac ccd cl outer A₀ base h₀ L mm s Q E B F X N T hk hpre hd hu hret
  k_with_none
  k_with "exec While" => ((with_reducible show wpAny _ _ (exec (Stmt.While _ _ _ ⟨218, _, _, _⟩) _) _ _ _); k_dflt (refine' while_2 (PySem.Str.ofString "count") (PySem.Str.ofString "year") (cv1 (n + 1721426)) (cv2 (n + 1721426)) (fun c _ => c.toNat) ?w1 ?w2 ?wF ?wN ?wp ?wt ?_ ?wE; (case wF => k_asm); (case wN => k_asm); (case w1 => first | ((try dsimp only); simp only [ofs_inj, String.reduceEq, if_false, if_true]; exact rfl) | exact rfl); (case w2 => first | ((try dsimp only); simp only [ofs_inj, String.reduceEq, if_false, if_true]; exact rfl) | exact rfl); (case wE => with_unfolding_all passes_own)); (case wp => (exact cv1_startf n)); (case wt => (intro c1 y1 t90 t91 h9 tk9 P9 F9 N9; (try dsimp only); (try dsimp only at F9); (try k_sweep); k_steps; all_goals (first | (with_reducible refine wh2t ?_; (refine' wh2_end ?eF ?eN ?e1 ?e2 ?ez ?es ?eR; (case eF => k_asm); (case eN => with_reducible assumption); (case e1 => first | ((try dsimp only); simp only [ofs_inj, String.reduceEq, if_false, if_true]; exact rfl) | exact rfl); (case e2 => first | ((try dsimp only); simp only [ofs_inj, String.reduceEq, if_false, if_true]; exact rfl) | exact rfl); (case ez => (intro z9 q0 q1; first | rfl | (simp only [q0, q1, if_false]) | (simp only [q0, q1, if_false]; rfl) | (simp [q0, q1]))); (case es => (intro p9 hp9; repeat (first | exact hp9 | refine List.Mem.tail _ ?_))); (case eR => (refine cv1_turn P9 ?_; law_clear; unfold lim1; split <;> omega)))) | (refine' wh2_end ?eF ?eN ?e1 ?e2 ?ez ?es ?eR; (case eF => k_asm); (case eN => with_reducible assumption); (case e1 => first | ((try dsimp only); simp only [ofs_inj, String.reduceEq, if_false, if_true]; exact rfl) | exact rfl); (case e2 => first | ((try dsimp only); simp only [ofs_inj, String.reduceEq, if_false, if_true]; exact rfl) | exact rfl); (case ez => (intro z9 q0 q1; first | rfl | (simp only [q0, q1, if_false]) | (simp only [q0, q1, if_false]; rfl) | (simp [q0, q1]))); (case es => (intro p9 hp9; repeat (first | exact hp9 | refine List.Mem.tail _ ?_))); (case eR => (refine cv2_start P9 ?_; law_clear; unfold lim1; split <;> omega)))))); intro c1 y1 t90 t91 h9 tk9 R9 F9 N9; (try dsimp only); (try dsimp only at F9); (try k_sweep))
  k_with "exec While" => ((with_reducible show wpAny _ _ (exec (Stmt.While _ _ _ ⟨221, _, _, _⟩) _) _ _ _); k_dflt (refine' while_2 (PySem.Str.ofString "count") (PySem.Str.ofString "year") (cv2 (n + 1721426)) (cv3 (n + 1721426)) (fun c _ => c.toNat) ?w1 ?w2 ?wF ?wN ?wp ?wt ?_ ?wE; (case wF => k_asm); (case wN => k_asm); (case w1 => first | ((try dsimp only); simp only [ofs_inj, String.reduceEq, if_false, if_true]; exact rfl) | exact rfl); (case w2 => first | ((try dsimp only); simp only [ofs_inj, String.reduceEq, if_false, if_true]; exact rfl) | exact rfl); (case wE => with_unfolding_all passes_own)); (case wp => (assumption)); (case wt => (intro c2 y2 t90 t91 h9 tk9 P9 F9 N9; (try dsimp only); (try dsimp only at F9); (try k_sweep); k_steps; all_goals (first | (with_reducible refine wh2t ?_; (refine' wh2_end ?eF ?eN ?e1 ?e2 ?ez ?es ?eR; (case eF => k_asm); (case eN => with_reducible assumption); (case e1 => first | ((try dsimp only); simp only [ofs_inj, String.reduceEq, if_false, if_true]; exact rfl) | exact rfl); (case e2 => first | ((try dsimp only); simp only [ofs_inj, String.reduceEq, if_false, if_true]; exact rfl) | exact rfl); (case ez => (intro z9 q0 q1; first | rfl | (simp only [q0, q1, if_false]) | (simp only [q0, q1, if_false]; rfl) | (simp [q0, q1]))); (case es => (intro p9 hp9; repeat (first | exact hp9 | refine List.Mem.tail _ ?_))); (case eR => (refine cv2_turn P9 ?_; law_clear; omega)))) | (refine' wh2_end ?eF ?eN ?e1 ?e2 ?ez ?es ?eR; (case eF => k_asm); (case eN => with_reducible assumption); (case e1 => first | ((try dsimp only); simp only [ofs_inj, String.reduceEq, if_false, if_true]; exact rfl) | exact rfl); (case e2 => first | ((try dsimp only); simp only [ofs_inj, String.reduceEq, if_false, if_true]; exact rfl) | exact rfl); (case ez => (intro z9 q0 q1; first | rfl | (simp only [q0, q1, if_false]) | (simp only [q0, q1, if_false]; rfl) | (simp [q0, q1]))); (case es => (intro p9 hp9; repeat (first | exact hp9 | refine List.Mem.tail _ ?_))); (case eR => (refine cv3_start P9 ?_; law_clear; omega)))))); intro c2 y2 t90 t91 h9 tk9 R9 F9 N9; (try dsimp only); (try dsimp only at F9); (try k_sweep))
  k_with "exec While" => ((with_reducible show wpAny _ _ (exec (Stmt.While _ _ _ ⟨224, _, _, _⟩) _) _ _ _); k_dflt (refine' while_2 (PySem.Str.ofString "count") (PySem.Str.ofString "year") (cv3 (n + 1721426)) (fun c y => cv4 (n + 1721426) y c 1 31) (fun c _ => c.toNat) ?w1 ?w2 ?wF ?wN ?wp ?wt ?_ ?wE; (case wF => k_asm); (case wN => k_asm); (case w1 => first | ((try dsimp only); simp only [ofs_inj, String.reduceEq, if_false, if_true]; exact rfl) | exact rfl); (case w2 => first | ((try dsimp only); simp only [ofs_inj, String.reduceEq, if_false, if_true]; exact rfl) | exact rfl); (case wE => with_unfolding_all passes_own)); (case wp => (assumption)); (case wt => (intro c3 y3 t90 t91 h9 tk9 P9 F9 N9; (try dsimp only); (try dsimp only at F9); (try k_sweep); k_steps; all_goals (first | (with_reducible refine wh2t ?_; (refine' wh2_end ?eF ?eN ?e1 ?e2 ?ez ?es ?eR; (case eF => k_asm); (case eN => with_reducible assumption); (case e1 => first | ((try dsimp only); simp only [ofs_inj, String.reduceEq, if_false, if_true]; exact rfl) | exact rfl); (case e2 => first | ((try dsimp only); simp only [ofs_inj, String.reduceEq, if_false, if_true]; exact rfl) | exact rfl); (case ez => (intro z9 q0 q1; first | rfl | (simp only [q0, q1, if_false]) | (simp only [q0, q1, if_false]; rfl) | (simp [q0, q1]))); (case es => (intro p9 hp9; repeat (first | exact hp9 | refine List.Mem.tail _ ?_))); (case eR => (refine cv3_turn P9 ?_; law_clear; omega)))) | (refine' wh2_end ?eF ?eN ?e1 ?e2 ?ez ?es ?eR; (case eF => k_asm); (case eN => with_reducible assumption); (case e1 => first | ((try dsimp only); simp only [ofs_inj, String.reduceEq, if_false, if_true]; exact rfl) | exact rfl); (case e2 => first | ((try dsimp only); simp only [ofs_inj, String.reduceEq, if_false, if_true]; exact rfl) | exact rfl); (case ez => (intro z9 q0 q1; first | rfl | (simp only [q0, q1, if_false]) | (simp only [q0, q1, if_false]; rfl) | (simp [q0, q1]))); (case es => (intro p9 hp9; repeat (first | exact hp9 | refine List.Mem.tail _ ?_))); (case eR => (refine cv4_start P9 ?_; law_clear; omega)))))); intro c3 y3 t90 t91 h9 tk9 R9 F9 N9; (try dsimp only); (try dsimp only at F9); (try k_sweep))
  k_with "exec While" => ((with_reducible show wpAny _ _ (exec (Stmt.While _ _ _ ⟨229, _, _, _⟩) _) _ _ _); k_dflt (refine' while_3 (PySem.Str.ofString "count") (PySem.Str.ofString "month") (PySem.Str.ofString "size") (cv4 (n + 1721426) y3) (fun c m z => okG y3 m (c + 1) ∧ gregF y3 m (c + 1) = n + 1721426) (fun c _ _ => c.toNat) ?w1 ?w2 ?w3 ?wF ?wN ?wp ?wt ?_ ?wE; (case wF => k_asm); (case wN => k_asm); (case w1 => first | ((try dsimp only); simp only [ofs_inj, String.reduceEq, if_false, if_true]; exact rfl) | exact rfl); (case w2 => first | ((try dsimp only); simp only [ofs_inj, String.reduceEq, if_false, if_true]; exact rfl) | exact rfl); (case w3 => first | ((try dsimp only); simp only [ofs_inj, String.reduceEq, if_false, if_true]; exact rfl) | exact rfl); (case wE => with_unfolding_all passes_own)); (case wp => (assumption)); (case wt => (intro c4 m4 z4 t90 t91 t92 h9 tk9 P9 F9 N9; (try dsimp only); (try dsimp only at F9); (try k_sweep); k_steps; all_goals (first | (with_reducible refine wh3t ?_; (refine' wh3_end ?eF ?eN ?e1 ?e2 ?e3 ?ez ?es ?eR; (case eF => k_asm); (case eN => with_reducible assumption); (case e1 => first | ((try dsimp only); simp only [ofs_inj, String.reduceEq, if_false, if_true]; exact rfl) | exact rfl); (case e2 => first | ((try dsimp only); simp only [ofs_inj, String.reduceEq, if_false, if_true]; exact rfl) | exact rfl); (case e3 => first | ((try dsimp only); simp only [ofs_inj, String.reduceEq, if_false, if_true]; exact rfl) | exact rfl); (case ez => (intro z9 q0 q1 q2; first | rfl | (simp only [q0, q1, q2, if_false]) | (simp only [q0, q1, q2, if_false]; rfl) | (simp [q0, q1, q2]))); (case es => (intro p9 hp9; repeat (first | exact hp9 | refine List.Mem.tail _ ?_))); (case eR => (refine cv4_turn P9 ?_; law_clear; omega)))) | (refine' wh3_end ?eF ?eN ?e1 ?e2 ?e3 ?ez ?es ?eR; (case eF => k_asm); (case eN => with_reducible assumption); (case e1 => first | ((try dsimp only); simp only [ofs_inj, String.reduceEq, if_false, if_true]; exact rfl) | exact rfl); (case e2 => first | ((try dsimp only); simp only [ofs_inj, String.reduceEq, if_false, if_true]; exact rfl) | exact rfl); (case e3 => first | ((try dsimp only); simp only [ofs_inj, String.reduceEq, if_false, if_true]; exact rfl) | exact rfl); (case ez => (intro z9 q0 q1 q2; first | rfl | (simp only [q0, q1, q2, if_false]) | (simp only [q0, q1, q2, if_false]; rfl) | (simp [q0, q1, q2]))); (case es => (intro p9 hp9; repeat (first | exact hp9 | refine List.Mem.tail _ ?_))); (case eR => (refine cv4_end P9 ?_; law_clear; omega)))))); intro c4 m4 z4 t90 t91 t92 h9 tk9 R9 F9 N9; (try dsimp only); (try dsimp only at F9); (try k_sweep))
  (refine wpAny_call ?_); k_dflt ((refine' code_def ?k1 ?k2 ?k3 ?k4 ?k5 ?kA ?kF ?kK ?k6 ?k7 ?k8 ?k9 ?kB ?_ ?c2 ?c3 ?c4 ?c5; (case kA => exact rfl); (case kF => exact rfl); (case kK => assumption); (case k1 => k_asm); (case k2 => k_asm); (case k3 => k_asm); (case k4 => k_asm); (case k5 => k_asm); (case k6 => k_is); (case k7 => k_is); (case k8 => ktr_room); (case k9 => first | exact BindsTo.of_eq rfl | exact binds_K (by k_in) rfl (by k_is) rfl rfl rfl); (case c5 => decide); (case kB => exact locs rfl); (case c2 => exact rfl); (case c3 => exact rfl); (case c4 => exact rfl); k_whole; intro g' L' h' FG' F' N' B' X' T'; (first | replace F' := fr_look1 F' | replace F' := fr_look2 F' | replace F' := fr_look3 F' | replace F' := fr_look4 F'); (try dsimp only); (try k_lift B'); (try k_fold)))
  k_steps
  all_goals ((refine' clx_ret hret ?eP ?eF ?eN ?eD ?eS ?eL; (case eF => k_asm); (case eN => with_reducible assumption); (case eD => k_dflt k_mem); (case eS => (intro p9 hp9; repeat (first | exact hp9 | refine List.Mem.tail _ ?_))); (case eL => first | with_reducible assumption | exact allLt_of (by with_reducible assumption) | exact And.right (by with_reducible assumption) | exact And.right (And.right (by with_reducible assumption)) | exact And.right (And.right (And.right (by with_reducible assumption))) | exact And.right (And.right (And.right (And.right (by with_reducible assumption)))) | exact And.right (And.right (And.right (And.right (And.right (by with_reducible assumption))))) | exact And.right (And.right (And.right (And.right (And.right (And.right (by with_reducible assumption)))))) | exact And.right (And.right (And.right (And.right (And.right (And.right (And.right (by with_reducible assumption))))))) | exact And.right (And.right (And.right (And.right (And.right (And.right (And.right (And.right (by with_reducible assumption))))))))); (case eP => (exact R9))))
/-- the frame's state over a base that a catch may turn -/
def Sta (w : World) (p : Program) (loose : List PySem.Str) (mean : ExcName → Option Value) (mg mb : PySem.Str → Option Value) (A₀ : Around) (base g₀ : Heap) (outer : List Env) (L : Addr) (m : PySem.Str → Option Value) (news : List (Addr × Obj)) (h : Heap) : Prop :=
  ∃ g, KtsTurn (outer.filterMap (·.frame)) g₀ g ∧ Fr g L h m ∧ News g L h news ∧ Below A₀ base outer g ∧ (Bn.hd.heap_39 w.params).In g ∧ Top p loose mean mg mb g ∧ KtsDicts (outer.filterMap (·.frame)) g
section
variable {w : World} {p : Program} {loose : List PySem.Str} {mean : ExcName → Option Value} {mg mb : PySem.Str → Option Value} {A₀ : Around} {base g₀ : Heap} {outer : List Env} {L : Addr} {m : PySem.Str → Option Value} {news news' : List (Addr × Obj)} {h h' : Heap}
theorem Sta.sub (S : Sta w p loose mean mg mb A₀ base g₀ outer L m news h) (hs : ∀ q ∈ news', q ∈ news) : Sta w p loose mean mg mb A₀ base g₀ outer L m news' h := by
  obtain ⟨g, a, b, c, r⟩ := S
  exact ⟨g, a, b, fun q hq => c q (hs q hq), r⟩
theorem Sta.but {I : Addr} {o o' : Obj} (S : Sta w p loose mean mg mb A₀ base g₀ outer L m ((I, o) :: news) h) (off : ∀ q ∈ news, q.1 ≠ I) (hk : ∀ b x, b ∉ [I] → h.get? b = some x → h'.get? b = some x) (hI : h'.get? I = some o') :
    Sta w p loose mean mg mb A₀ base g₀ outer L m ((I, o') :: news) h' := by
  obtain ⟨g, a, F, N, r⟩ := S
  have N0 := N _ (List.mem_cons_self ..)
  refine ⟨g, a, ⟨F.ns.at' fun x e => hk _ x (by simpa using fun e : L = I => N0.2.1 e.symm) e, fun b x e => hk b x (fun hb => ?_) (F.keep b x e), F.above⟩, fun q hq => ?_, r⟩
  · rw [List.mem_singleton.mp hb, N0.2.2] at e
    cases e
  · rcases List.mem_cons.mp hq with rfl | hq
    · exact ⟨hI, N0.2⟩
    · have := N _ (List.mem_cons_of_mem _ hq)
      exact ⟨hk _ _ (by simpa using off q hq) this.1, this.2⟩
theorem Sta.lose {I : Addr} {o : Obj} (S : Sta w p loose mean mg mb A₀ base g₀ outer L m ((I, o) :: news) h) (off : ∀ q ∈ news, q.1 ≠ I) (hk : ∀ b x, b ∉ [I] → h.get? b = some x → h'.get? b = some x) :
    Sta w p loose mean mg mb A₀ base g₀ outer L m news h' := by
  obtain ⟨g, a, F, N, r⟩ := S
  have N0 := N _ (List.mem_cons_self ..)
  refine ⟨g, a, ⟨F.ns.at' fun x e => hk _ x (by simpa using fun e : L = I => N0.2.1 e.symm) e, fun b x e => hk b x (fun hb => ?_) (F.keep b x e), F.above⟩, fun q hq => ?_, r⟩
  · rw [List.mem_singleton.mp hb, N0.2.2] at e
    cases e
  · have := N _ (List.mem_cons_of_mem _ hq)
    exact ⟨hk _ _ (by simpa using off q hq) this.1, this.2⟩
end
/-- a turn's end -/
def TuEnd (w : World) (p : Program) (loose : List PySem.Str) (mean : ExcName → Option Value) (mg mb : PySem.Str → Option Value) (A₀ : Around) (base g₀ : Heap) (outer : List Env) (L : Addr) (I : Addr) (o : Obj) (J : (PySem.Str → Option Value) → List (Addr × Obj) → Prop) (s : Shared) (f : Flow) (s₃ : Shared) : Prop :=
  f = .next ∧ ∃ m' news' h' tk', s₃ = { s with heap := h', toks := tk' } ∧ Sta w p loose mean mg mb A₀ base g₀ outer L m' ((I, o) :: news') h' ∧ (∀ q ∈ news', q.1 ≠ I) ∧ J m' news'
theorem tu_end {w : World} {p : Program} {loose : List PySem.Str} {mean : ExcName → Option Value} {mg mb : PySem.Str → Option Value} {A₀ : Around} {base g₀ g' h' : Heap} {outer : List Env} {L I : Addr} {o : Obj} {J : (PySem.Str → Option Value) → List (Addr × Obj) → Prop} {s : Shared} {tk' : Nat} {m' : PySem.Str → Option Value} {big : List (Addr × Obj)} (news' : List (Addr × Obj))
    (T0 : KtsTurn (outer.filterMap (·.frame)) g₀ g') (F : Fr g' L h' m') (N : News g' L h' big) (hI : (I, o) ∈ big) (hs : ∀ q ∈ news', q ∈ big) (B : Below A₀ base outer g') (X : (Bn.hd.heap_39 w.params).In g') (T : Top p loose mean mg mb g') (D : KtsDicts (outer.filterMap (·.frame)) g') (off : ∀ q ∈ news', q.1 ≠ I) (hJ : J m' news') :
    TuEnd w p loose mean mg mb A₀ base g₀ outer L I o J s .next { s with heap := h', toks := tk' } :=
  ⟨rfl, m', news', h', tk', rfl, ⟨g', T0, F, fun q hq => by
    rcases List.mem_cons.mp hq with rfl | hq
    · exact N _ hI
    · exact N q (hs q hq), B, X, T, D⟩, off, hJ⟩
section
variable {prog : Program} {w : World} {A : Around} {E : Value → Shared → Prop} {Q : Flow → Shared → Prop} {s : Shared} {env : Env} {target : Expr} {body : List Stmt} {pos : Pos} {p : Program} {loose : List PySem.Str} {mean : ExcName → Option Value} {mg mb : PySem.Str → Option Value} {A₀ : Around} {base g₀ g : Heap} {outer : List Env}
theorem for_sta {I : Addr} {fp : List Addr} {n : Nat} {P : Nat → Value → Prop} {St : Nat → Heap → Prop} (W : Walks prog w A I fp [I] n P St) (need : List (Addr × Obj)) (hfp : ∀ b ∈ fp, b = I ∨ ∃ o, (b, o) ∈ need)
    (J : Nat → (PySem.Str → Option Value) → List (Addr × Obj) → Prop) (hneed : ∀ i m news, J i m news → ∀ q ∈ need, q ∈ news) {o0 : Obj} {m0 : PySem.Str → Option Value} {news0 : List (Addr × Obj)} (hst : St 0 s.heap)
    (hIo : ∀ i h, St i h → ∃ o, h.get? I = some o)
    (S : Sta w p loose mean mg mb A₀ base g₀ outer env.locals m0 ((I, o0) :: news0) s.heap) (hoff : ∀ q ∈ news0, q.1 ≠ I) (hJ : J 0 m0 news0)
    (hgo : ∀ i v (s' : Shared) (Q' : Unit → Shared → Prop) (E' : Value → Shared → Prop), St i s'.heap → P (i - 1) v → Q' () s' → wpAny (model prog w) A (letOwnedTupleGo target (.ref I) v) Q' E' s')
    (step : ∀ i v m₁ news₁ o₁ h₁ tk₁ g, i < n → P i v → J i m₁ news₁ → (∀ q ∈ news₁, q.1 ≠ I) → KtsTurn (outer.filterMap (·.frame)) g₀ g → Fr g env.locals h₁ m₁ → News g env.locals h₁ ((I, o₁) :: news₁) → Below A₀ base outer g → (Bn.hd.heap_39 w.params).In g → Top p loose mean mg mb g → KtsDicts (outer.filterMap (·.frame)) g →
      wpAny (model prog w) A (assign target env v) (fun _ s₂ => wpAny (model prog w) A (execs body env) (TuEnd w p loose mean mg mb A₀ base g₀ outer env.locals I o₁ (J (i + 1)) s) E s₂) E { s with heap := h₁, toks := tk₁ })
    (done : ∀ m' news' h' tk', Sta w p loose mean mg mb A₀ base g₀ outer env.locals m' news' h' → J n m' news' → Q .next { s with heap := h', toks := tk' })
    (hE : PassesOwn (model prog w) A env E) :
    codeAny (model prog w) A (.forLoop target (.ref I) body [] env) (fun r s' => match r with | .ok f => Q f s' | .error e => cameBackBy (model prog w) A env E e s') s := by
  refine codeAny_forLoop_any
    (fun k s' => ∃ h' tk m' news' o' i, s' = { s with heap := h', toks := tk } ∧ St i h' ∧ Sta w p loose mean mg mb A₀ base g₀ outer env.locals m' ((I, o') :: news') h' ∧ (∀ q ∈ news', q.1 ≠ I) ∧ J i m' news' ∧ i ≤ n ∧ k = n + 1 - i) ?_ (n + 1)
    ⟨s.heap, s.toks, m0, news0, o0, 0, rfl, hst, S, hoff, hJ, Nat.zero_le _, rfl⟩
  rintro k s' ⟨h', tk, m', news', o', i, rfl, hst', S', off', J', hi, rfl⟩
  by_cases hlt : i < n
  · refine W.item i _ _ _ hlt hst' fun v h₁ tk₁ hP hst₁ hk₁ => ?_
    obtain ⟨o₁, ho₁⟩ := hIo _ _ hst₁
    have S₁ := S'.but off' hk₁ ho₁
    refine hgo (i + 1) v _ _ _ hst₁ (by simpa using hP) ?_
    obtain ⟨g, a1, a2, a3, a4, a5, a6, a7⟩ := S₁
    have hst' := step i v m' news' o₁ h₁ tk₁ g hlt hP J' off' a1 a2 a3 a4 a5 a6 a7
    refine wpAny_mono hst' (fun _ s₂ h₂ => wpAny_mono h₂ (fun f s₃ h₃ => ?_) hE) hE
    obtain ⟨rfl, m2, news2, h2, tk2, rfl, S2, off2, J2⟩ := h₃
    refine ⟨n + 1 - (i + 1), by omega, h2, tk2, m2, news2, o₁, i + 1, rfl, ?_, S2, off2, J2, hlt, rfl⟩
    refine W.frame _ _ _ hst₁ fun b hb o e => ?_
    obtain ⟨g2, _, _, N2, _⟩ := S2
    rcases hfp b hb with rfl | ⟨o9, hb9⟩
    · rw [ho₁] at e
      cases e
      exact (N2 _ (List.mem_cons_self ..)).1
    · have e1 := (a3 _ (List.mem_cons_of_mem _ (hneed _ _ _ J' _ hb9))).1
      have e2 := (N2 _ (List.mem_cons_of_mem _ (hneed _ _ _ J2 _ hb9))).1
      have e3 := e1.symm.trans e
      cases e3
      exact e2
  · have hin : i = n := by omega
    subst hin
    exact W.done _ _ _ hst' fun h₁ tk₁ hk₁ => wpAny_execs_nil (done m' news' h₁ tk₁ (S'.lose off' hk₁) J')
theorem go_tupleiter {elts : List Expr} {x1} {I l T : Addr} {i : Nat} {Q : Unit → Shared → Prop} (hit : s.heap.IsTupleIter I l i) (hQ : Q () s) :
    wpAny (model prog w) A (letOwnedTupleGo (.Tuple elts x1 pos) (.ref I) (.ref T)) Q E s := by
  obtain ⟨o, ho, hc, hd⟩ := hit
  unfold letOwnedTupleGo
  refine wpAny_bind (wpAny_load ho ?_)
  rw [hc, hd]
  show wpAny _ A (if (["enumerate", "zip", "dict_itemiterator", "dict_reverseitemiterator", "odict_iterator", "itertools.zip_longest", "itertools.pairwise"].contains "tuple_iterator" &&
      (#[.ref l, .int i 0] : Array Value)[0]? == some (rawInt T)) = true then _ else _) Q E s
  rw [if_neg (by
    intro h
    rw [show (["enumerate", "zip", "dict_itemiterator", "dict_reverseitemiterator", "odict_iterator", "itertools.zip_longest", "itertools.pairwise"].contains "tuple_iterator") = false from by decide, Bool.false_and] at h
    cases h)]
  exact wpAny_pure hQ
/-- a for over a made tuple of tuples -/
theorem for_tupS {elts : List Expr} {x1} {ax : Addr} {Ts : List Addr} {c : Nat} {m : PySem.Str → Option Value} {news : List (Addr × Obj)} (hh : A.handled = none)
    (hax : (ax, ({ cls := .type "tuple", data := .seq (Ts.map Value.ref).toArray c } : Obj)) ∈ news)
    (T0 : KtsTurn (outer.filterMap (·.frame)) g₀ g) (F : Fr g env.locals s.heap m) (N : News g env.locals s.heap news) (B : Below A₀ base outer g) (X : (Bn.hd.heap_39 w.params).In g) (T : Top p loose mean mg mb g) (D : KtsDicts (outer.filterMap (·.frame)) g)
    (J : Nat → (PySem.Str → Option Value) → List (Addr × Obj) → Prop) (hneed : ∀ i m' news', J i m' news' → news' = news) (hJ : J 0 m news)
    (step : ∀ i v m₁ I o₁ h₁ tk₁ g, Ts[i]? = some v → J i m₁ news → (∀ q ∈ news, q.1 ≠ I) → KtsTurn (outer.filterMap (·.frame)) g₀ g → Fr g env.locals h₁ m₁ → News g env.locals h₁ ((I, o₁) :: news) → Below A₀ base outer g → (Bn.hd.heap_39 w.params).In g → Top p loose mean mg mb g → KtsDicts (outer.filterMap (·.frame)) g →
      wpAny (model prog w) A (assign (.Tuple elts x1 pos) env (.ref v)) (fun _ s₂ => wpAny (model prog w) A (execs body env) (TuEnd w p loose mean mg mb A₀ base g₀ outer env.locals I o₁ (J (i + 1)) s) E s₂) E { s with heap := h₁, toks := tk₁ })
    (done : ∀ m' h' tk' g', J Ts.length m' news → KtsTurn (outer.filterMap (·.frame)) g₀ g' → Fr g' env.locals h' m' → News g' env.locals h' news → Below A₀ base outer g' → (Bn.hd.heap_39 w.params).In g' → Top p loose mean mg mb g' → KtsDicts (outer.filterMap (·.frame)) g' → Q .next { s with heap := h', toks := tk' })
    (hE : PassesOwn (model prog w) A env E) :
    wpAny (model prog w) A (pyIter (.ref ax)) (fun it s₂ => codeAny (model prog w) A (.forLoop (.Tuple elts x1 pos) it body [] env) (fun r s' => match r with | .ok f => Q f s' | .error e => cameBackBy (model prog w) A env E e s') s₂) E s := by
  have ht : s.heap.IsTuple ax (Ts.map Value.ref).toArray := ⟨_, (N _ hax).1, rfl, c, rfl⟩
  have hlt : ax < s.heap.objs.size := Heap.lt_size (N _ hax).1
  have hne : ax ≠ s.heap.objs.size := Nat.ne_of_lt hlt
  refine wpAny_pyIter_tuple ht ?_
  have W := Walks.tuple (prog := prog) (w := w) hh s.heap.objs.size ax hne (Ts.map Value.ref).toArray
  have hsz : (Ts.map Value.ref).toArray.size = Ts.length := by simp
  rw [hsz] at W
  refine for_sta (p := p) (loose := loose) (mean := mean) (mg := mg) (mb := mb) (A₀ := A₀) (base := base) (g₀ := g₀) (outer := outer) (s := { s with heap := s.heap.push { cls := .type "tuple_iterator", data := .fields #[.ref ax, .int 0 0] } }) W [(ax, ({ cls := .type "tuple", data := .seq (Ts.map Value.ref).toArray c } : Obj))] (fun b hb => ?_) J (fun i m' news' hj q hq => ?_) (o0 := { cls := .type "tuple_iterator", data := .fields #[.ref ax, .int 0 0] }) (m0 := m) (news0 := news) ?_ (fun i h hs => ?_) ?_ (fun q hq => ?_) hJ (fun i v s' Q' E' hs hv hq => ?_) (fun i v m₁ news₁ o₁ h₁ tk₁ g hi hv hj off b1 b2 b3 b4 b5 b6 b7 => ?_) (fun m' news' h' tk' S hj => ?_) hE
  · rcases List.mem_cons.mp hb with rfl | hb
    · exact .inl rfl
    · rw [List.mem_singleton.mp hb]
      exact .inr ⟨_, List.mem_cons_self ..⟩
  · rw [List.mem_singleton.mp hq, hneed _ _ _ hj]
    exact hax
  · exact ⟨⟨_, Heap.get?_push_size _ rfl, rfl, rfl⟩, ht.push _⟩
  · obtain ⟨⟨o, ho, _⟩, _⟩ := hs
    exact ⟨o, ho⟩
  · exact ⟨g, T0, F.push _, News.push F N _, B, X, T, D⟩
  · exact Nat.ne_of_lt (Heap.lt_size (N q hq).1)
  · have hv' : ∃ a, v = Value.ref a := by
      have hv2 : (List.map Value.ref Ts)[i - 1]? = some v := by simpa using hv
      rw [List.getElem?_map] at hv2
      cases hq : Ts[i - 1]? with
      | none => rw [hq] at hv2; cases hv2
      | some a => rw [hq] at hv2; exact ⟨a, (Option.some.inj hv2).symm⟩
    obtain ⟨a, rfl⟩ := hv'
    exact go_tupleiter hs.1 hq
  · have e := hneed _ _ _ hj
    subst e
    have hv2 : (List.map Value.ref Ts)[i]? = some v := by simpa using hv
    rw [List.getElem?_map] at hv2
    cases hq : Ts[i]? with
    | none => rw [hq] at hv2; cases hv2
    | some a =>
      rw [hq] at hv2
      cases hv2
      exact step i a m₁ _ o₁ h₁ tk₁ g hq hj off b1 b2 b3 b4 b5 b6 b7
  · have e := hneed _ _ _ hj
    subst e
    obtain ⟨g', b1, b2, b3, b4, b5, b6, b7⟩ := S
    exact done m' h' tk' g' hj b1 b2 b3 b4 b5 b6 b7
/-- a for over a range, its target a name -/
theorem for_rangeS {x : PySem.Str} {px : Pos} {r : Addr} {a b c : Int} {t u v : Tok} {n : Nat} {m : PySem.Str → Option Value} {news news0 : List (Addr × Obj)} (hh : A.handled = none) (hr : IsRange s.heap r a b c t u v) (hsmall : Builtin.Range.small a b c = true) (hn : Builtin.Range.rangeSize a b c = (n : Int))
    (T0 : KtsTurn (outer.filterMap (·.frame)) g₀ g) (F : Fr g env.locals s.heap m) (N : News g env.locals s.heap news) (B : Below A₀ base outer g) (X : (Bn.hd.heap_39 w.params).In g) (T : Top p loose mean mg mb g) (D : KtsDicts (outer.filterMap (·.frame)) g)
    (J : Nat → (PySem.Str → Option Value) → List (Addr × Obj) → Prop) (hs : ∀ q ∈ news0, q ∈ news) (hJ : J 0 m news0)
    (step : ∀ i tv m₁ news₁ I o₁ h₁ tk₁ g, i < n → J i m₁ news₁ → (∀ q ∈ news₁, q.1 ≠ I) → KtsTurn (outer.filterMap (·.frame)) g₀ g → Fr g env.locals h₁ m₁ → News g env.locals h₁ ((I, o₁) :: news₁) → Below A₀ base outer g → (Bn.hd.heap_39 w.params).In g → Top p loose mean mg mb g → KtsDicts (outer.filterMap (·.frame)) g →
      wpAny (model prog w) A (assign (.Name x px) env (.int (a + (i : Int) * c) tv)) (fun _ s₂ => wpAny (model prog w) A (execs body env) (TuEnd w p loose mean mg mb A₀ base g₀ outer env.locals I o₁ (J (i + 1)) s) E s₂) E { s with heap := h₁, toks := tk₁ })
    (done : ∀ m' news' h' tk' g', J n m' news' → KtsTurn (outer.filterMap (·.frame)) g₀ g' → Fr g' env.locals h' m' → News g' env.locals h' news' → Below A₀ base outer g' → (Bn.hd.heap_39 w.params).In g' → Top p loose mean mg mb g' → KtsDicts (outer.filterMap (·.frame)) g' → Q .next { s with heap := h', toks := tk' })
    (hE : PassesOwn (model prog w) A env E) :
    wpAny (model prog w) A (pyIter (.ref r)) (fun it s₂ => codeAny (model prog w) A (.forLoop (.Name x px) it body [] env) (fun r s' => match r with | .ok f => Q f s' | .error e => cameBackBy (model prog w) A env E e s') s₂) E s := by
  refine wpAny_pyIter_range hr hsmall ?_
  have W : Walks prog w A s.heap.objs.size [s.heap.objs.size] [s.heap.objs.size] n (fun i v => ∃ t, v = .int (a + i * c) t)
      (fun i h => IsRangeIter h s.heap.objs.size (a + (i : Nat) * c) ((n : Int) - (i : Nat)) c) := Walks.range hh _ a c n
  refine for_sta (p := p) (loose := loose) (mean := mean) (mg := mg) (mb := mb) (A₀ := A₀) (base := base) (g₀ := g₀) (outer := outer) (s := { s with heap := s.heap.push { cls := .type "range_iterator", data := .fields #[rawInt a, rawInt (Builtin.Range.rangeSize a b c), rawInt c] } }) W [] (fun b hb => .inl (List.mem_singleton.mp hb)) J (fun _ _ _ _ q hq => nomatch hq) (o0 := { cls := .type "range_iterator", data := .fields #[rawInt a, rawInt (Builtin.Range.rangeSize a b c), rawInt c] }) (m0 := m) (news0 := news0) ?_ (fun i h hs => ⟨_, hs⟩) ?_ (fun q hq => ?_) hJ (fun i v s' Q' E' hs hv hq => ?_) (fun i v m₁ news₁ o₁ h₁ tk₁ g hi hv hj off b1 b2 b3 b4 b5 b6 b7 => ?_) (fun m' news' h' tk' S hj => ?_) hE
  · show IsRangeIter _ _ _ _ _
    rw [hn]
    simpa using Heap.get?_push_size _ rfl
  · exact ⟨g, T0, F.push _, fun q hq => (News.push F N _) q (by
      rcases List.mem_cons.mp hq with rfl | hq
      · exact List.mem_cons_self ..
      · exact List.mem_cons_of_mem _ (hs q hq)), B, X, T, D⟩
  · exact Nat.ne_of_lt (Heap.lt_size (N q (hs q hq)).1)
  · unfold letOwnedTupleGo
    exact wpAny_pure hq
  · obtain ⟨tv, rfl⟩ := hv
    exact step i tv m₁ news₁ _ o₁ h₁ tk₁ g hi hj off b1 b2 b3 b4 b5 b6 b7
  · obtain ⟨g', b1, b2, b3, b4, b5, b6, b7⟩ := S
    exact done m' news' h' tk' g' hj b1 b2 b3 b4 b5 b6 b7
end
/-- a map with written names laid over -/
def layL : List (PySem.Str × Value) → (PySem.Str → Option Value) → PySem.Str → Option Value
  | [], m => m
  | (x, v) :: r, m => fun z => if z = x then some v else layL r m z
theorem layL_eq {m : PySem.Str → Option Value} : ∀ {ps : List (PySem.Str × Value)}, (∀ q ∈ ps, m q.1 = some q.2) → m = layL ps m
  | [], _ => rfl
  | (x, v) :: r, h => by
    have ih := layL_eq (ps := r) fun q hq => h q (List.mem_cons_of_mem _ hq)
    funext z
    show m z = if z = x then some v else layL r m z
    by_cases e : z = x
    · rw [if_pos e, e]; exact h _ (List.mem_cons_self ..)
    · rw [if_neg e, ← ih]
theorem Cl.pre {n : Nat} {f : Addr} {vs : List Value} {kw : List (PySem.Str × Value)} {pre pre' : Prop} {R : Tok → Value} (C : Cl n f vs kw pre R) (h : pre' → pre) : Cl n f vs kw pre' R := by
  unfold Cl; intro w p loose mean mg mb news dp un gd cn cs a ccd cl outer A₀ base h₀ L m s Q E B F X N T hk hp
  exact C w p loose mean mg mb news dp un gd cn cs a ccd cl outer A₀ base h₀ L m s Q E B F X N T hk (h hp)
theorem Clt.pre {n : Nat} {f : Addr} {vs : List Value} {kw : List (PySem.Str × Value)} {pre pre' : Prop} {x y z x' y' z' : Int} (C : Clt n f vs kw pre x y z) (h : pre' → pre ∧ x = x' ∧ y = y' ∧ z = z') : Clt n f vs kw pre' x' y' z' := by
  unfold Clt; intro w p loose mean mg mb news dp un gd cn cs a ccd cl outer A₀ base h₀ L m s Q E B F X N T hk hp
  obtain ⟨h1, rfl, rfl, rfl⟩ := h hp
  exact C w p loose mean mg mb news dp un gd cn cs a ccd cl outer A₀ base h₀ L m s Q E B F X N T hk h1
section
variable {n : Nat} {f : Addr} {vs : List Value} {kw : List (PySem.Str × Value)} {pre : Prop} {P : Int → Int → Int → Prop}
    {w : World} {p : Program} {loose : List PySem.Str} {mean : ExcName → Option Value} {mg mb : PySem.Str → Option Value} {news : List (Addr × Obj)}
    {dp un : Nat} {gd : Option (List Code)} {cn : PySem.Str} {cs : Scope} {a : Addr} {ccd : Value} {cl : List (PySem.Str × Addr)} {outer : List Env} {A₀ : Around} {base h₀ g₀ : Heap} {L : Addr} {m : PySem.Str → Option Value} {s : Shared} {Q E : Value → Shared → Prop}
theorem use_clx (C : Clx n f vs kw pre P)
    (B : Below A₀ base outer h₀) (F : Fr h₀ L s.heap m) (X : (Bn.hd.heap_39 w.params).In h₀) (N : News h₀ L s.heap news) (T : Top p loose mean mg mb h₀) (hk : cs.kind = .function)
    (hp : pre) (hd : dp + n < recursionLimit) (hu : un + 8 * n < cLine)
    (ret : ∀ (x y z : Int) (D : Addr) (t u v : Tok) (c : Nat) (h' : Heap) (tk' : Nat), P x y z → Fr h₀ L h' m → News h₀ L h' ((D, ({ cls := .type "tuple", data := .seq #[.int x t, .int y u, .int z v] c } : Obj)) :: news) → AllLt D news → Q (.ref D) { s with heap := h', toks := tk' }) :
    wpAny (model PySem.Challenge.rw_bn0009_01.row.prog w) (ktrTop dp un gd cn cs L a ccd cl outer) (PySem.call (.ref f) vs kw) Q E s :=
  C _ _ _ _ _ _ _ _ _ _ _ _ _ _ _ _ _ _ _ _ _ _ _ _ B F X N T hk hp hd hu ret
theorem use_clr (C : Clr n f vs pre)
    (B : Below A₀ base outer h₀) (F : Fr h₀ L s.heap m) (X : (Bn.hd.heap_39 w.params).In h₀) (N : News h₀ L s.heap news) (T : Top p loose mean mg mb h₀) (hk : cs.kind = .function)
    (XB : (Bn.hd.heap_39 w.params).In base) (TB : Top p loose mean mg mb base) (D : KtsDicts (outer.filterMap (·.frame)) h₀) (T0 : KtsTurn (outer.filterMap (·.frame)) g₀ h₀)
    (hp : pre) (hd : dp + n < recursionLimit) (hu : un + 8 * n < cLine)
    (ret : ∀ (h₀' h' : Heap) (tk' : Nat), KtsTurn (outer.filterMap (·.frame)) g₀ h₀' → Fr h₀' L h' m → News h₀' L h' news → Below A₀ base outer h₀' → (Bn.hd.heap_39 w.params).In h₀' → Top p loose mean mg mb h₀' → KtsDicts (outer.filterMap (·.frame)) h₀' → Q (.bool true) { s with heap := h', toks := tk' }) :
    wpAny (model PySem.Challenge.rw_bn0009_01.row.prog w) ({ handled := none, depth := dp, frames := some (envOf cn cs L a ccd :: outer), guards := gd, units := un } : Around) (PySem.call (.ref f) vs []) Q E s :=
  C _ _ _ _ _ _ _ _ _ _ _ _ _ _ _ _ _ _ _ _ _ _ _ _ B F X N T hk XB TB D T0 hp hd hu ret
end
/-! contracts turned to the law -/
theorem d_tojd1 (k y : Int) (t u v : Tok) (wy : Value) : Cl 4 66 [.int y t, .int 1 u, .int 1 v, wy] [] (1 ≤ y ∧ IsWay k wy) (fun t => .int (frF k y 1 1) t) :=
  (c_tojd k y 1 1 t u v wy).pre fun ⟨h1, h2⟩ => ⟨h1, h2, by decide, by decide, .inl (by decide)⟩
theorem d_tojd (k y m d : Int) (t u v : Tok) (wy : Value) : Cl 4 66 [.int y t, .int m u, .int d v, wy] [] (dInv k y m d ∧ IsWay k wy) (fun t => .int (frF k y m d) t) :=
  (c_tojd k y m d t u v wy).pre fun ⟨h1, h2⟩ => ⟨h1.1, h2, h1.2.2⟩
/-- a date that comes home -/
def bkF (k y m d : Int) : Prop := m < 13 ∨ d < 6 ∨ (agreedF k y = true ∧ ¬ (k = 1 ∧ y % 400 = 12))
theorem d_fromfr (k y m d : Int) (t : Tok) (wy : Value) : Clt 4 81 [.int (frF k y m d) t, wy] [] (dInv k y m d ∧ IsWay k wy ∧ bkF k y m d) y m d :=
  (c_fromfr k (frF k y m d) t wy).pre fun ⟨h1, h2, h3⟩ => ⟨⟨fr_first h2.range h1, h2⟩, fr_back h2.range h1.1 h1.2.1 h1.2.2 h3⟩
theorem d_togreg (k y m d cy cm cd : Int) (t u v : Tok) (wy : Value) : Clt 6 104 [.int y t, .int m u, .int d v, wy] [] (dInv k y m d ∧ IsWay k wy ∧ okG cy cm cd ∧ gregF cy cm cd = frF k y m d) cy cm cd :=
  (c_togreg k y m d t u v wy).pre fun ⟨h1, h2, h3, h4⟩ => ⟨⟨h1.1, h2, h1.2.2⟩, by rw [← h4]; exact gy_back h3, by rw [← h4]; exact gm_back h3, by rw [← h4]; exact gd_back h3⟩
theorem d_fromgreg (k y m d cy cm cd : Int) (t u v : Tok) (wy : Value) : Clt 6 96 [.int cy t, .int cm u, .int cd v, wy] [] (dInv k y m d ∧ IsWay k wy ∧ okG cy cm cd ∧ gregF cy cm cd = frF k y m d ∧ bkF k y m d) y m d :=
  (c_fromgreg k cy cm cd t u v wy).pre fun ⟨h1, h2, h3, h4, h5⟩ => ⟨⟨⟨h3.2.2.1, h3.2.2.2⟩, by rw [h4]; exact fr_first h2.range h1, h2⟩, by
    rw [h4]; exact fr_back h2.range h1.1 h1.2.1 h1.2.2 h5⟩
/-! joins -/
def JIP (h₀ : Heap) (L : Addr) (mm : PySem.Str → Option Value) (news : List (Addr × Obj)) (s : Shared) (x : PySem.Str) (P : Int → Prop) (f : Flow) (s' : Shared) : Prop :=
  ∃ (v : Int) (t : Tok) (h' : Heap) (tk : Nat), P v ∧ f = .next ∧ s' = { s with heap := h', toks := tk } ∧ Fr h₀ L h' (fun y => if y = x then some (.int v t) else mm y) ∧ News h₀ L h' news
def JBP (h₀ : Heap) (L : Addr) (mm : PySem.Str → Option Value) (news : List (Addr × Obj)) (s : Shared) (x : PySem.Str) (P : Bool → Prop) (f : Flow) (s' : Shared) : Prop :=
  ∃ (b : Bool) (h' : Heap) (tk : Nat), P b ∧ f = .next ∧ s' = { s with heap := h', toks := tk } ∧ Fr h₀ L h' (fun y => if y = x then some (.bool b) else mm y) ∧ News h₀ L h' news
section
variable {M : Model} {A : Around} {E : Value → Shared → Prop} {Q : Flow → Shared → Prop} {s : Shared} {h₀ h' : Heap} {L : Addr} {mm : PySem.Str → Option Value} {news news' : List (Addr × Obj)} {x : PySem.Str} {v : Int} {b : Bool} {t : Tok} {tk : Nat} {c : Sem Flow}
theorem join_p (x : PySem.Str) (P : Int → Prop) (_F : Fr h₀ L s.heap mm) (_N : News h₀ L s.heap news) (hc : wpAny M A c (JIP h₀ L mm news s x P) E s)
    (hk : ∀ (v : Int) (t : Tok) (h' : Heap) (tk : Nat), P v → Fr h₀ L h' (fun y => if y = x then some (.int v t) else mm y) → News h₀ L h' news → Q .next { s with heap := h', toks := tk }) : wpAny M A c Q E s := by
  refine wpAny_mono hc (fun f s' hq => ?_) fun _ _ h => h
  obtain ⟨v, t, h', tk, hP, rfl, rfl, F, N⟩ := hq
  exact hk v t h' tk hP F N
theorem jip_new {P : Int → Prop} (hP : P v) (F : Fr h₀ L h' (fun y => if y = x then some (.int v t) else mm y)) (N : News h₀ L h' news') (hs : ∀ p ∈ news, p ∈ news') : JIP h₀ L mm news s x P .next { s with heap := h', toks := tk } :=
  ⟨v, t, h', tk, hP, rfl, rfl, F, fun p hp => N p (hs p hp)⟩
theorem join_b (x : PySem.Str) (P : Bool → Prop) (_F : Fr h₀ L s.heap mm) (_N : News h₀ L s.heap news) (hc : wpAny M A c (JBP h₀ L mm news s x P) E s)
    (hk : ∀ (v : Bool) (h' : Heap) (tk : Nat), P v → Fr h₀ L h' (fun y => if y = x then some (.bool v) else mm y) → News h₀ L h' news → Q .next { s with heap := h', toks := tk }) : wpAny M A c Q E s := by
  refine wpAny_mono hc (fun f s' hq => ?_) fun _ _ h => h
  obtain ⟨v, h', tk, hP, rfl, rfl, F, N⟩ := hq
  exact hk v h' tk hP F N
theorem jbp_new {P : Bool → Prop} (hP : P b) (F : Fr h₀ L h' (fun y => if y = x then some (.bool b) else mm y)) (N : News h₀ L h' news') (hs : ∀ p ∈ news, p ∈ news') : JBP h₀ L mm news s x P .next { s with heap := h', toks := tk } :=
  ⟨b, h', tk, hP, rfl, rfl, F, fun p hp => N p (hs p hp)⟩
end
section
variable {M : Model} {A : Around} {E : Value → Shared → Prop} {c : Sem Value} {Q : Value → Shared → Prop} {hp : Heap} {g : Array GenState} {d : Drawn} {X : Nat} {os : OsState}
/-- an expression whose ways meet in one int -/
def VJ (f : Int) (hp : Heap) (g : Array GenState) (d : Drawn) (os : OsState) (v : Value) (s' : Shared) : Prop := ∃ (t : Tok) (tk : Nat), v = .int f t ∧ s' = ⟨hp, g, d, tk, os⟩
theorem val_join (f : Int) (hc : wpAny M A c (VJ f hp g d os) E ⟨hp, g, d, X, os⟩) (hk : ∀ (t : Tok) (tk : Nat), Q (.int f t) ⟨hp, g, d, tk, os⟩) : wpAny M A c Q E ⟨hp, g, d, X, os⟩ := by
  refine wpAny_mono hc (fun v s' hq => ?_) fun _ _ h => h
  obtain ⟨t, tk, rfl, rfl⟩ := hq
  exact hk t tk
theorem vj_1 {b : Bool} {x z : Int} {t : Tok} {tk : Nat} (h : b = true) : VJ (if b = true then x else z) hp g d os (Value.int x t) ⟨hp, g, d, tk, os⟩ := ⟨t, tk, by rw [if_pos h], rfl⟩
theorem vj_2 {b : Bool} {x z : Int} {t : Tok} {tk : Nat} (h : b = false) : VJ (if b = true then x else z) hp g d os (Value.int z t) ⟨hp, g, d, tk, os⟩ := ⟨t, tk, by rw [h]; rfl, rfl⟩
theorem vj_3 {b : Bool} {x z : Int} {t : Tok} {tk : Nat} (h : ¬ b = true) : VJ (if b = true then x else z) hp g d os (Value.int z t) ⟨hp, g, d, tk, os⟩ := ⟨t, tk, by rw [if_neg h], rfl⟩
end
theorem min_p {prog : Program} {w : World} {A : Around} {E : Value → Shared → Prop} {Q : Value → Shared → Prop} {a b : Int} {t u : Tok} {hp : Heap} {g : Array GenState} {d : Drawn} {X : Nat} {os : OsState} {h₀ : Heap} {L : Addr} {m : PySem.Str → Option Value} {news : List (Addr × Obj)} (hh : A.handled = none) (F : Fr h₀ L hp m) (N : News h₀ L hp news)
    (h : ∀ (v : Int) (t : Tok) (h' : Heap) (tk : Nat), v ≤ a → v ≤ b → (v = a ∨ v = b) → Fr h₀ L h' m → News h₀ L h' news → Q (.int v t) ⟨h', g, d, tk, os⟩) :
    wpAny (model prog w) A (call (.builtin "min") [.int a t, .int b u]) Q E ⟨hp, g, d, X, os⟩ :=
  min_two_N (s := ⟨hp, g, d, X, os⟩) hh F N fun h' tk F' N' => by
    refine h _ _ h' tk ?_ ?_ ?_ F' N' <;> split <;> omega
/-! the table of the ways -/
def pickA (a0 a1 a2 : Addr) (k : Int) : Addr := if k = 0 then a0 else if k = 1 then a1 else a2
section
variable {prog : Program} {w : World} {A : Around} {E : Value → Shared → Prop} {s : Shared} {Q : Value → Shared → Prop} {i k : Int} {u t1 t2 t3 u1 u2 u3 : Tok} {l a0 a1 a2 : Addr} {value slice : PySem.Expr}
theorem ways_row (hl : IsTup s.heap l [Value.ref a0, .ref a1, .ref a2].toArray) (h0 : 0 ≤ k) (h1 : k ≤ 2) (h : Q (.ref (pickA a0 a1 a2 k)) s)
    (hs : subscripted slice false (.ref l) (.int k u) = operate [.ref l, .int k u] (getItem (.ref l) (.int k u)) := by with_unfolding_all rfl) :
    wpAny (model prog w) A (subscriptTail value slice (.ref l) (.int k u)) Q E s := by
  have hi : k = 0 ∨ k = 1 ∨ k = 2 := by omega
  rcases hi with rfl | rfl | rfl
  all_goals exact item_tupleT hl (by decide) (by decide) rfl rfl h hs
theorem ways_at (l0 : IsTup s.heap a0 [Value.int 4 t1, .str (Str.ofString "continuous") u1].toArray) (l1 : IsTup s.heap a1 [Value.int 100 t2, .str (Str.ofString "romme") u2].toArray) (l2 : IsTup s.heap a2 [Value.int 128 t3, .str (Str.ofString "madler") u3].toArray)
    (hk : 0 ≤ k ∧ k ≤ 2) (hi : 0 ≤ i ∧ i ≤ 1) (h : ∀ v, IsWay k v → Q v s)
    (hs : subscripted slice false (.ref (pickA a0 a1 a2 k)) (.int i u) = operate [.ref (pickA a0 a1 a2 k), .int i u] (getItem (.ref (pickA a0 a1 a2 k)) (.int i u)) := by with_unfolding_all rfl) :
    wpAny (model prog w) A (subscriptTail value slice (.ref (pickA a0 a1 a2 k)) (.int i u)) Q E s := by
  have hk' : k = 0 ∨ k = 1 ∨ k = 2 := by omega
  have hi' : i = 0 ∨ i = 1 := by omega
  rcases hk' with rfl | rfl | rfl <;> rcases hi' with rfl | rfl
  · exact item_tupleT l0 (by decide) (by decide) rfl rfl (h _ (.inl ⟨_, rfl, rfl⟩)) hs
  · exact item_tupleT l0 (by decide) (by decide) rfl rfl (h _ (.inr (.inl ⟨_, rfl, rfl⟩))) hs
  · exact item_tupleT l1 (by decide) (by decide) rfl rfl (h _ (.inr (.inr (.inl ⟨_, rfl, rfl⟩)))) hs
  · exact item_tupleT l1 (by decide) (by decide) rfl rfl (h _ (.inr (.inr (.inr (.inl ⟨_, rfl, rfl⟩))))) hs
  · exact item_tupleT l2 (by decide) (by decide) rfl rfl (h _ (.inr (.inr (.inr (.inr (.inl ⟨_, rfl, rfl⟩)))))) hs
  · exact item_tupleT l2 (by decide) (by decide) rfl rfl (h _ (.inr (.inr (.inr (.inr (.inr ⟨_, rfl, rfl⟩)))))) hs
end
/-! what a loop keeps of the names -/
def Keeps : List PySem.Str → (PySem.Str → Option Value) → (PySem.Str → Option Value) → Prop
  | [], _, _ => True
  | x :: r, m, m' => m' x = m x ∧ Keeps r m m'
def layK : List PySem.Str → (PySem.Str → Option Value) → (PySem.Str → Option Value) → PySem.Str → Option Value
  | [], _, m' => m'
  | x :: r, m, m' => fun z => if z = x then m x else layK r m m' z
theorem keeps_lay {m m' : PySem.Str → Option Value} : ∀ {ns : List PySem.Str}, Keeps ns m m' → m' = layK ns m m'
  | [], _ => rfl
  | x :: r, h => by
    have ih := keeps_lay (ns := r) h.2
    funext z
    show m' z = if z = x then m x else layK r m m' z
    by_cases e : z = x
    · rw [if_pos e, e]; exact h.1
    · rw [if_neg e, ← ih]
theorem for_tupK {prog : Program} {w : World} {A : Around} {E : Value → Shared → Prop} {Q : Flow → Shared → Prop} {s : Shared} {env : Env} {body : List Stmt} {pos : Pos} {p : Program} {loose : List PySem.Str} {mean : ExcName → Option Value} {mg mb : PySem.Str → Option Value} {A₀ : Around} {base g₀ g : Heap} {outer : List Env}
    {elts : List Expr} {x1} {ax : Addr} (Ts : List Addr) {items : Array Value} {c : Nat} {m : PySem.Str → Option Value} {news : List (Addr × Obj)} (ns : List PySem.Str) (hh : A.handled = none)
    (hax : (ax, ({ cls := .type "tuple", data := .seq items c } : Obj)) ∈ news) (he : items = (Ts.map Value.ref).toArray)
    (T0 : KtsTurn (outer.filterMap (·.frame)) g₀ g) (F : Fr g env.locals s.heap m) (N : News g env.locals s.heap news) (B : Below A₀ base outer g) (X : (Bn.hd.heap_39 w.params).In g) (T : Top p loose mean mg mb g) (D : KtsDicts (outer.filterMap (·.frame)) g)
    (step : ∀ (i : Nat) v m₁ I o₁ h₁ tk₁ g, Ts[i]? = some v → (∀ q ∈ news, q.1 ≠ I) → KtsTurn (outer.filterMap (·.frame)) g₀ g → Fr g env.locals h₁ (layK ns m m₁) → News g env.locals h₁ ((I, o₁) :: news) → Below A₀ base outer g → (Bn.hd.heap_39 w.params).In g → Top p loose mean mg mb g → KtsDicts (outer.filterMap (·.frame)) g →
      wpAny (model prog w) A (assign (.Tuple elts x1 pos) env (.ref v)) (fun _ s₂ => wpAny (model prog w) A (execs body env) (TuEnd w p loose mean mg mb A₀ base g₀ outer env.locals I o₁ (fun m' news' => news' = news ∧ Keeps ns m m') s) E s₂) E { s with heap := h₁, toks := tk₁ })
    (done : ∀ m' h' tk' g', KtsTurn (outer.filterMap (·.frame)) g₀ g' → Fr g' env.locals h' (layK ns m m') → News g' env.locals h' news → Below A₀ base outer g' → (Bn.hd.heap_39 w.params).In g' → Top p loose mean mg mb g' → KtsDicts (outer.filterMap (·.frame)) g' → Q .next { s with heap := h', toks := tk' })
    (hE : PassesOwn (model prog w) A env E) :
    wpAny (model prog w) A (pyIter (.ref ax)) (fun it s₂ => codeAny (model prog w) A (.forLoop (.Tuple elts x1 pos) it body [] env) (fun r s' => match r with | .ok f => Q f s' | .error e => cameBackBy (model prog w) A env E e s') s₂) E s := by
  subst he
  refine for_tupS (Ts := Ts) hh hax T0 F N B X T D (fun _ m' news' => news' = news ∧ Keeps ns m m') (fun _ _ _ h => h.1) ⟨rfl, ?_⟩ (fun i v m₁ I o₁ h₁ tk₁ g hv hj off b1 b2 b3 b4 b5 b6 b7 => ?_) (fun m' h' tk' g' hj b1 b2 b3 b4 b5 b6 b7 => ?_) hE
  · clear step done F N hax
    induction ns with
    | nil => exact trivial
    | cons x r ih => exact ⟨rfl, ih⟩
  · rw [keeps_lay hj.2] at b2
    exact step i v m₁ I o₁ h₁ tk₁ g hv off b1 b2 b3 b4 b5 b6 b7
  · rw [keeps_lay hj.2] at b2
    exact done m' h' tk' g' b1 b2 b3 b4 b5 b6 b7
theorem tu_endK {w : World} {p : Program} {loose : List PySem.Str} {mean : ExcName → Option Value} {mg mb : PySem.Str → Option Value} {A₀ : Around} {base g₀ g' h' : Heap} {outer : List Env} {L I : Addr} {o : Obj} {s : Shared} {tk' : Nat} {m m' : PySem.Str → Option Value} {news big : List (Addr × Obj)} {ns : List PySem.Str}
    (T0 : KtsTurn (outer.filterMap (·.frame)) g₀ g') (F : Fr g' L h' m') (N : News g' L h' big) (hI : (I, o) ∈ big) (hs : ∀ q ∈ news, q ∈ big) (B : Below A₀ base outer g') (X : (Bn.hd.heap_39 w.params).In g') (T : Top p loose mean mg mb g') (D : KtsDicts (outer.filterMap (·.frame)) g') (off : ∀ q ∈ news, q.1 ≠ I) (hK : Keeps ns m m') :
    TuEnd w p loose mean mg mb A₀ base g₀ outer L I o (fun m' news' => news' = news ∧ Keeps ns m m') s .next { s with heap := h', toks := tk' } :=
  tu_end news T0 F N hI hs B X T D off ⟨rfl, hK⟩
/-! the loop over three days -/
def J2 (k : Int) (ns : List PySem.Str) (nw : List (Addr × Obj)) (m₀ m' : PySem.Str → Option Value) (news' : List (Addr × Obj)) : Prop :=
  ∃ (y mo d cy cm cd : Int) (D Dc : Addr) (t1 t2 t3 t4 t5 t6 tn : Tok) (c1 c2 : Nat), news' = (D, ({ cls := .type "tuple", data := .seq #[.int y t1, .int mo t2, .int d t3] c1 } : Obj)) :: (Dc, ({ cls := .type "tuple", data := .seq #[.int cy t4, .int cm t5, .int cd t6] c2 } : Obj)) :: nw ∧
    dInv k y mo d ∧ okG cy cm cd ∧ gregF cy cm cd = nuF k y mo d ∧ m' (PySem.Str.ofString "date") = some (.ref D) ∧ m' (PySem.Str.ofString "civil") = some (.ref Dc) ∧ m' (PySem.Str.ofString "number") = some (.int (nuF k y mo d) tn) ∧ Keeps ns m₀ m'
theorem keeps_refl {m : PySem.Str → Option Value} : ∀ {ns : List PySem.Str}, Keeps ns m m
  | [] => trivial
  | _ :: _ => ⟨rfl, keeps_refl⟩
theorem tu_end2 {w : World} {p : Program} {loose : List PySem.Str} {mean : ExcName → Option Value} {mg mb : PySem.Str → Option Value} {A₀ : Around} {base g₀ g' h' : Heap} {outer : List Env} {L I D' Dc' : Addr} {o : Obj} {s : Shared} {tk' : Nat} {m m' : PySem.Str → Option Value} {big nw : List (Addr × Obj)} {ns : List PySem.Str} {k y mo d cy cm cd nn : Int} {t1 t2 t3 t4 t5 t6 tn : Tok} {c1 c2 : Nat}
    (T0 : KtsTurn (outer.filterMap (·.frame)) g₀ g') (F : Fr g' L h' m') (N : News g' L h' big) (B : Below A₀ base outer g') (X : (Bn.hd.heap_39 w.params).In g') (T : Top p loose mean mg mb g') (D : KtsDicts (outer.filterMap (·.frame)) g')
    (hd1 : m' (PySem.Str.ofString "date") = some (.ref D')) (hd2 : m' (PySem.Str.ofString "civil") = some (.ref Dc')) (hd3 : m' (PySem.Str.ofString "number") = some (.int nn tn)) (hI : (I, o) ∈ big)
    (hD : (D', ({ cls := .type "tuple", data := .seq #[.int y t1, .int mo t2, .int d t3] c1 } : Obj)) ∈ big) (hDc : (Dc', ({ cls := .type "tuple", data := .seq #[.int cy t4, .int cm t5, .int cd t6] c2 } : Obj)) ∈ big) (off1 : I < D') (off2 : I < Dc')
    (dI : dInv k y mo d) (oG : okG cy cm cd) (hg : gregF cy cm cd = nuF k y mo d) (hn : nn = nuF k y mo d) (hK : Keeps ns m m') (hnw : ∀ q ∈ nw, q ∈ big) (offw : ∀ q ∈ nw, q.1 ≠ I) :
    TuEnd w p loose mean mg mb A₀ base g₀ outer L I o (J2 k ns nw m) s .next { s with heap := h', toks := tk' } := by
  subst hn
  refine tu_end _ T0 F N hI (fun q hq => ?_) B X T D (fun q hq => ?_) ⟨y, mo, d, cy, cm, cd, D', Dc', t1, t2, t3, t4, t5, t6, tn, c1, c2, rfl, dI, oG, hg, hd1, hd2, hd3, hK⟩
  · rcases List.mem_cons.mp hq with rfl | hq
    · exact hD
    · rcases List.mem_cons.mp hq with rfl | hq
      · exact hDc
      · exact hnw q hq
  · rcases List.mem_cons.mp hq with rfl | hq
    · exact Nat.ne_of_gt off1
    · rcases List.mem_cons.mp hq with rfl | hq
      · exact Nat.ne_of_gt off2
      · exact offw q hq
theorem for_three {prog : Program} {w : World} {A : Around} {E : Value → Shared → Prop} {Q : Flow → Shared → Prop} {s : Shared} {env : Env} {body : List Stmt} {p : Program} {loose : List PySem.Str} {mean : ExcName → Option Value} {mg mb : PySem.Str → Option Value} {A₀ : Around} {base g₀ g : Heap} {outer : List Env}
    {x : PySem.Str} {px : Pos} {r : Addr} {a b c : Int} {t u v : Tok} {n : Nat} {m : PySem.Str → Option Value} {news : List (Addr × Obj)} (ns : List PySem.Str) (nw : List (Addr × Obj)) (k : Int) {y mo d cy cm cd nn : Int} {D0 Dc : Addr} {t1 t2 t3 t4 t5 t6 tn : Tok} {c1 c2 : Nat}
    (hh : A.handled = none) (hr : IsRange s.heap r a b c t u v) (hsmall : Builtin.Range.small a b c = true) (hn : Builtin.Range.rangeSize a b c = (n : Int))
    (T0 : KtsTurn (outer.filterMap (·.frame)) g₀ g) (F : Fr g env.locals s.heap m) (N : News g env.locals s.heap news) (B : Below A₀ base outer g) (X : (Bn.hd.heap_39 w.params).In g) (T : Top p loose mean mg mb g) (D : KtsDicts (outer.filterMap (·.frame)) g)
    (hd1 : m (PySem.Str.ofString "date") = some (.ref D0)) (hd2 : m (PySem.Str.ofString "civil") = some (.ref Dc)) (hd3 : m (PySem.Str.ofString "number") = some (.int nn tn))
    (hD : (D0, ({ cls := .type "tuple", data := .seq #[.int y t1, .int mo t2, .int d t3] c1 } : Obj)) ∈ news) (hDc : (Dc, ({ cls := .type "tuple", data := .seq #[.int cy t4, .int cm t5, .int cd t6] c2 } : Obj)) ∈ news)
    (dI : dInv k y mo d) (oG : okG cy cm cd) (hg : gregF cy cm cd = nuF k y mo d) (hnn : nn = nuF k y mo d) (hnw : ∀ q ∈ nw, q ∈ news)
    (step : ∀ (i : Nat) (tv : Tok) (y mo d cy cm cd : Int) (D Dc : Addr) (t1 t2 t3 t4 t5 t6 tn : Tok) (c1 c2 : Nat) m₁ I o₁ h₁ tk₁ g, i < n → dInv k y mo d → okG cy cm cd → gregF cy cm cd = nuF k y mo d → D ≠ I → Dc ≠ I → (∀ q ∈ nw, q.1 ≠ I) → KtsTurn (outer.filterMap (·.frame)) g₀ g →
      Fr g env.locals h₁ (fun z => if z = PySem.Str.ofString "date" then some (.ref D) else if z = PySem.Str.ofString "civil" then some (.ref Dc) else if z = PySem.Str.ofString "number" then some (.int (nuF k y mo d) tn) else layK ns m m₁ z) →
      News g env.locals h₁ ((I, o₁) :: (D, ({ cls := .type "tuple", data := .seq #[.int y t1, .int mo t2, .int d t3] c1 } : Obj)) :: (Dc, ({ cls := .type "tuple", data := .seq #[.int cy t4, .int cm t5, .int cd t6] c2 } : Obj)) :: nw) → Below A₀ base outer g → (Bn.hd.heap_39 w.params).In g → Top p loose mean mg mb g → KtsDicts (outer.filterMap (·.frame)) g →
      wpAny (model prog w) A (assign (.Name x px) env (.int (a + (i : Int) * c) tv)) (fun _ s₂ => wpAny (model prog w) A (execs body env) (TuEnd w p loose mean mg mb A₀ base g₀ outer env.locals I o₁ (J2 k ns nw m) s) E s₂) E { s with heap := h₁, toks := tk₁ })
    (done : ∀ m' h' tk' g', KtsTurn (outer.filterMap (·.frame)) g₀ g' → Fr g' env.locals h' m' → News g' env.locals h' nw → Below A₀ base outer g' → (Bn.hd.heap_39 w.params).In g' → Top p loose mean mg mb g' → KtsDicts (outer.filterMap (·.frame)) g' → Q .next { s with heap := h', toks := tk' })
    (hE : PassesOwn (model prog w) A env E) :
    wpAny (model prog w) A (pyIter (.ref r)) (fun it s₂ => codeAny (model prog w) A (.forLoop (.Name x px) it body [] env) (fun r s' => match r with | .ok f => Q f s' | .error e => cameBackBy (model prog w) A env E e s') s₂) E s := by
  subst hnn
  refine for_rangeS hh hr hsmall hn T0 F N B X T D (fun _ => J2 k ns nw m) (news0 := (D0, ({ cls := .type "tuple", data := .seq #[.int y t1, .int mo t2, .int d t3] c1 } : Obj)) :: (Dc, ({ cls := .type "tuple", data := .seq #[.int cy t4, .int cm t5, .int cd t6] c2 } : Obj)) :: nw) (fun q hq => ?_) ⟨y, mo, d, cy, cm, cd, D0, Dc, t1, t2, t3, t4, t5, t6, tn, c1, c2, rfl, dI, oG, hg, hd1, hd2, hd3, keeps_refl⟩ (fun i tv m₁ news₁ I o₁ h₁ tk₁ g hi hj off b1 b2 b3 b4 b5 b6 b7 => ?_) (fun m' news' h' tk' g' hj b1 b2 b3 b4 b5 b6 b7 => ?_) hE
  · rcases List.mem_cons.mp hq with rfl | hq
    · exact hD
    · rcases List.mem_cons.mp hq with rfl | hq
      · exact hDc
      · exact hnw q hq
  · obtain ⟨y, mo, d, cy, cm, cd, D9, Dc9, t1, t2, t3, t4, t5, t6, tn, c1, c2, rfl, dI, oG, hg, e1, e2, e3, hK⟩ := hj
    have em : m₁ = fun z => if z = PySem.Str.ofString "date" then some (.ref D9) else if z = PySem.Str.ofString "civil" then some (.ref Dc9) else if z = PySem.Str.ofString "number" then some (.int (nuF k y mo d) tn) else layK ns m m₁ z := by
      rw [← keeps_lay hK]
      funext z
      by_cases q1 : z = PySem.Str.ofString "date"
      · rw [if_pos q1, q1]; exact e1
      · rw [if_neg q1]
        by_cases q2 : z = PySem.Str.ofString "civil"
        · rw [if_pos q2, q2]; exact e2
        · rw [if_neg q2]
          by_cases q3 : z = PySem.Str.ofString "number"
          · rw [if_pos q3, q3]; exact e3
          · rw [if_neg q3]
    rw [em] at b2
    exact step i tv y mo d cy cm cd D9 Dc9 t1 t2 t3 t4 t5 t6 tn c1 c2 m₁ I o₁ h₁ tk₁ g hi dI oG hg (off _ (List.mem_cons_self ..)) (off _ (List.mem_cons_of_mem _ (List.mem_cons_self ..))) (fun q hq => off q (List.mem_cons_of_mem _ (List.mem_cons_of_mem _ hq))) b1 b2 b3 b4 b5 b6 b7
  · obtain ⟨y, mo, d, cy, cm, cd, D9, Dc9, t1, t2, t3, t4, t5, t6, tn, c1, c2, rfl, _⟩ := hj
    exact done m' h' tk' g' b1 b2 (fun q hq => b3 q (List.mem_cons_of_mem _ (List.mem_cons_of_mem _ hq))) b4 b5 b6 b7
theorem step_g {k y m d cy cm cd : Int} (hk : 0 ≤ k ∧ k ≤ 2) (h : dInv k y m d) (oG : okG cy cm cd) (hg : gregF cy cm cd = nuF k y m d) : gregF (moY cy cm cd) (moM cy cm cd) (moD cy cm cd) = nuF k (onY k y m d) (onM k y m d) (onD k y m d) := by
  rw [morrow_greg oG, onward_nu hk h, hg]
theorem step_n {k y m d : Int} (hk : 0 ≤ k ∧ k ≤ 2) (h : dInv k y m d) : nuF k y m d + 1 = nuF k (onY k y m d) (onM k y m d) (onD k y m d) := (onward_nu hk h).symm
theorem gfr {k y m d cy cm cd : Int} (hk : 0 ≤ k ∧ k ≤ 2) (h : dInv k y m d) (hg : gregF cy cm cd = nuF k y m d) (ha : agreedF k y = true) : gregF cy cm cd = frF k y m d := by
  rw [hg, fr_nu hk h.1 ha]
theorem bk_by {b : Bool} {k y m d : Int} (h : b = true → bkF k y m d) (hb : b = true) : bkF k y m d := h hb
theorem bk1 {k y m d : Int} (h : m < 13) : bkF k y m d := .inl h
theorem bk2 {k y m d : Int} (h : d < 6) : bkF k y m d := .inr (.inl h)
theorem bk3 {k y m d : Int} (ha : agreedF k y = true) (hb : (!y % 400 == 12) = true) : bkF k y m d := by
  have : y % 400 ≠ 12 := by simpa using hb
  exact .inr (.inr ⟨ha, fun h => this h.2⟩)
theorem bk4 {k y m d : Int} (ha : agreedF k y = true) (h : k ≠ 1) : bkF k y m d := .inr (.inr ⟨ha, fun q => h q.1⟩)
theorem bk5 {k y m d : Int} (h : agreedF k y = false) (hb : agreedF k y = true) : bkF k y m d := by rw [h] at hb; cases hb
theorem okG_m {y m d : Int} (h : okG y m d) : 1 ≤ m ∧ m ≤ 12 := ⟨h.1, h.2.1⟩
theorem num_ok {k y p : Int} (hk : 0 ≤ k ∧ k ≤ 2) (hy : 1 ≤ y) (hp : 0 ≤ p) : 2375840 ≤ 2375840 + 365 * (y - 1) + sixthsF k (y - 1) + p := by
  have := sixths_nonneg hk (show 0 ≤ y - 1 by omega)
  omega
section
variable {M : Model} {A : Around} {E : Value → Shared → Prop} {c : Sem Value} {Q : Value → Shared → Prop} {hp : Heap} {g : Array GenState} {d : Drawn} {X : Nat} {os : OsState}
/-- an expression whose ways meet in one bool -/
def VJB (P : Bool → Prop) (hp : Heap) (g : Array GenState) (d : Drawn) (os : OsState) (v : Value) (s' : Shared) : Prop := ∃ (b : Bool) (tk : Nat), P b ∧ v = .bool b ∧ s' = ⟨hp, g, d, tk, os⟩
theorem val_joinb (P : Bool → Prop) (hc : wpAny M A c (VJB P hp g d os) E ⟨hp, g, d, X, os⟩) (hk : ∀ (b : Bool) (tk : Nat), P b → Q (.bool b) ⟨hp, g, d, tk, os⟩) : wpAny M A c Q E ⟨hp, g, d, X, os⟩ := by
  refine wpAny_mono hc (fun v s' hq => ?_) fun _ _ h => h
  obtain ⟨b, tk, hP, rfl, rfl⟩ := hq
  exact hk b tk hP
theorem vjb {P : Bool → Prop} {b : Bool} {tk : Nat} (h : P b) : VJB P hp g d os (.bool b) ⟨hp, g, d, tk, os⟩ := ⟨b, tk, h, rfl, rfl⟩
end
theorem bad1 {k y m d : Int} (h : d < 1) : badF k y m d := .inl h
theorem bad2 {k y m d : Int} (h : 30 < d) : badF k y m d := .inr (.inl h)
theorem bad3 {k y m d : Int} (h : 1 ≤ d) (h2 : d ≤ 30) (h3 : 13 < m) : badF k y m d := .inr (.inr (.inl ⟨h, h2, h3⟩))
theorem bad4 {k y : Int} : badF k y 13 (if sixthF k y = true then 7 else 6) := by
  cases h : sixthF k y
  · exact .inr (.inr (.inr (.inl ⟨by decide, by decide, rfl, h⟩)))
  · exact .inr (.inr (.inr (.inr ⟨by decide, by decide, rfl, h⟩)))
/-- what a call of the law's three days does, in a lone frame -/
def Cl0 (n : Nat) (f : Addr) (vs : List Value) : Prop :=
  ∀ (w : World) (p : Program) (loose : List PySem.Str) (mean : ExcName → Option Value) (mg mb : PySem.Str → Option Value) (news : List (Addr × Obj))
    (dp un : Nat) (gd : Option (List Code)) (cn : PySem.Str) (cs : Scope) (ac : Addr) (ccd : Value) (A₀ : Around) (base h₀ : Heap) (L : Addr) (m : PySem.Str → Option Value) (s : Shared) (Q E : Value → Shared → Prop),
    Below A₀ base [] h₀ → Fr h₀ L s.heap m → (Bn.hd.heap_39 w.params).In h₀ → News h₀ L s.heap news → Top p loose mean mg mb h₀ → cs.kind = .function → (Bn.hd.heap_39 w.params).In base → Top p loose mean mg mb base →
    dp + n < recursionLimit → un + 8 * n < cLine →
    (∀ (h' : Heap) (tk' : Nat), Fr h₀ L h' m → News h₀ L h' news → Q (.bool true) { s with heap := h', toks := tk' }) →
    wpAny (model PySem.Challenge.rw_bn0009_01.row.prog w) ({ handled := none, depth := dp, frames := some [envOf cn cs L ac ccd], guards := gd, units := un } : Around) (PySem.call (.ref f) vs []) Q E s
local macro_rules | `(tactic| walk_at "call ref") => `(tactic| (k_here; k_dflt (first | (refine' use_clx (c_civil _ _) ?k1 ?k2 ?k3 ?k4 ?k5 ?kK ?kp ?kd ?ku ?_; (case k1 => k_asm); (case k2 => k_asm); (case k3 => k_asm); (case k4 => k_asm); (case k5 => k_asm); (case kK => first | exact rfl | assumption); (case kp => (trivial)); (case kd => ktr_room); (case ku => ktr_units); intro x9 y9 z9 D9 t9 u9 v9 c9 h9 tk9 P9 F9 N9 l9; (try dsimp only at P9); (try (obtain ⟨P9a, P9b⟩ := P9)); (try simp only [AllLt, and_true] at l9); (try dsimp only); (try k_fold)) | (refine' use_cl (c_sixth _ _ _ _) ?k1 ?k2 ?k3 ?k4 ?k5 ?kK ?kp ?kd ?ku ?_; (case k1 => k_asm); (case k2 => k_asm); (case k3 => k_asm); (case k4 => k_asm); (case k5 => k_asm); (case kK => first | exact rfl | assumption); (case kp => (trivial)); (case kd => ktr_room); (case ku => ktr_units); intro t9 h9 tk9 F9 N9; (try dsimp only); (try k_fold)) | (refine' use_cl (c_sixths _ _ _ _) ?k1 ?k2 ?k3 ?k4 ?k5 ?kK ?kp ?kd ?ku ?_; (case k1 => k_asm); (case k2 => k_asm); (case k3 => k_asm); (case k4 => k_asm); (case k5 => k_asm); (case kK => first | exact rfl | assumption); (case kp => (trivial)); (case kd => ktr_room); (case ku => ktr_units); intro t9 h9 tk9 F9 N9; (try dsimp only); (try k_fold)) | (refine' use_cl (c_agreed _ _ _ _) ?k1 ?k2 ?k3 ?k4 ?k5 ?kK ?kp ?kd ?ku ?_; (case k1 => k_asm); (case k2 => k_asm); (case k3 => k_asm); (case k4 => k_asm); (case k5 => k_asm); (case kK => first | exact rfl | assumption); (case kp => (trivial)); (case kd => ktr_room); (case ku => ktr_units); intro t9 h9 tk9 F9 N9; (try dsimp only); (try k_fold)) | (refine' use_cl (c_leap _ _ _ _) ?k1 ?k2 ?k3 ?k4 ?k5 ?kK ?kp ?kd ?ku ?_; (case k1 => k_asm); (case k2 => k_asm); (case k3 => k_asm); (case k4 => k_asm); (case k5 => k_asm); (case kK => first | exact rfl | assumption); (case kp => (exact ⟨by assumption, by assumption⟩)); (case kd => ktr_room); (case ku => ktr_units); intro t9 h9 tk9 F9 N9; (try dsimp only); (try k_fold)) | (refine' use_clt (d_fromfr _ _ _ _ _ _) ?k1 ?k2 ?k3 ?k4 ?k5 ?kK ?kp ?kd ?ku ?_; (case k1 => k_asm); (case k2 => k_asm); (case k3 => k_asm); (case k4 => k_asm); (case k5 => k_asm); (case kK => first | exact rfl | assumption); (case kp => (exact ⟨by assumption, by assumption, bk_by (by assumption) (by assumption)⟩)); (case kd => ktr_room); (case ku => ktr_units); intro D9 t9 u9 v9 c9 h9 tk9 F9 N9 l9; (try simp only [AllLt, and_true] at l9); (try dsimp only); (try k_fold)) | (refine' use_clt (d_togreg _ _ _ _ _ _ _ _ _ _ _) ?k1 ?k2 ?k3 ?k4 ?k5 ?kK ?kp ?kd ?ku ?_; (case k1 => k_asm); (case k2 => k_asm); (case k3 => k_asm); (case k4 => k_asm); (case k5 => k_asm); (case kK => first | exact rfl | assumption); (case kp => (exact ⟨by assumption, by assumption, by assumption, gfr ⟨by omega, by omega⟩ (by assumption) (by assumption) (by assumption)⟩)); (case kd => ktr_room); (case ku => ktr_units); intro D9 t9 u9 v9 c9 h9 tk9 F9 N9 l9; (try simp only [AllLt, and_true] at l9); (try dsimp only); (try k_fold)) | (refine' use_clt (d_fromgreg _ _ _ _ _ _ _ _ _ _ _) ?k1 ?k2 ?k3 ?k4 ?k5 ?kK ?kp ?kd ?ku ?_; (case k1 => k_asm); (case k2 => k_asm); (case k3 => k_asm); (case k4 => k_asm); (case k5 => k_asm); (case kK => first | exact rfl | assumption); (case kp => (exact ⟨by assumption, by assumption, by assumption, gfr ⟨by omega, by omega⟩ (by assumption) (by assumption) (by assumption), bk_by (by assumption) (by assumption)⟩)); (case kd => ktr_room); (case ku => ktr_units); intro D9 t9 u9 v9 c9 h9 tk9 F9 N9 l9; (try simp only [AllLt, and_true] at l9); (try dsimp only); (try k_fold)) | (refine' use_clu (c_onward _ _ _ _ _) ?kD ?k1 ?k2 ?k3 ?k4 ?k5 ?kK ?kp ?kd ?ku ?_; (case k1 => k_asm); (case k2 => k_asm); (case k3 => k_asm); (case k4 => k_asm); (case k5 => k_asm); (case kK => first | exact rfl | assumption); (case kD => k_dflt k_mem); (case kp => (trivial)); (case kd => ktr_room); (case ku => ktr_units); intro D9 t9 u9 v9 c9 h9 tk9 F9 N9 l9; (try simp only [AllLt, and_true] at l9); (try dsimp only); (try k_fold)) | (refine' use_clu (c_morrow _ _ _) ?kD ?k1 ?k2 ?k3 ?k4 ?k5 ?kK ?kp ?kd ?ku ?_; (case k1 => k_asm); (case k2 => k_asm); (case k3 => k_asm); (case k4 => k_asm); (case k5 => k_asm); (case kK => first | exact rfl | assumption); (case kD => k_dflt k_mem); (case kp => (exact okG_m (by assumption))); (case kd => ktr_room); (case ku => ktr_units); intro D9 t9 u9 v9 c9 h9 tk9 F9 N9 l9; (try simp only [AllLt, and_true] at l9); (try dsimp only); (try k_fold)) | (refine' use_cl (d_tojd1 _ _ _ _ _ _) ?k1 ?k2 ?k3 ?k4 ?k5 ?kK ?kp ?kd ?ku ?_; (case k1 => k_asm); (case k2 => k_asm); (case k3 => k_asm); (case k4 => k_asm); (case k5 => k_asm); (case kK => first | exact rfl | assumption); (case kp => (exact ⟨by first | assumption | omega | exact And.left (by assumption : dInv _ _ _ _), by assumption⟩)); (case kd => ktr_room); (case ku => ktr_units); intro t9 h9 tk9 F9 N9; (try dsimp only); (try k_fold)) | (refine' use_cl (d_tojd _ _ _ _ _ _ _ _) ?k1 ?k2 ?k3 ?k4 ?k5 ?kK ?kp ?kd ?ku ?_; (case k1 => k_asm); (case k2 => k_asm); (case k3 => k_asm); (case k4 => k_asm); (case k5 => k_asm); (case kK => first | exact rfl | assumption); (case kp => (exact ⟨by assumption, by assumption⟩)); (case kd => ktr_room); (case ku => ktr_units); intro t9 h9 tk9 F9 N9; (try dsimp only); (try k_fold)) | (refine' use_clr (c_refusedn _ _ _ _ _ _ _ _) ?k1 ?k2 ?k3 ?k4 ?k5 ?kK ?XB ?TB ?kD ?T0 ?kp ?kd ?ku ?_; (case k1 => k_asm); (case k2 => k_asm); (case k3 => k_asm); (case k4 => k_asm); (case k5 => k_asm); (case kK => first | exact rfl | assumption); (case XB => with_reducible assumption); (case TB => with_reducible assumption); (case kD => with_reducible assumption); (case T0 => first | with_reducible assumption | exact KtsTurn.refl); (case kp => (exact ⟨by assumption, by omega, by omega, by omega, by omega⟩)); (case kd => ktr_room); (case ku => ktr_units); intro g9 h9 tk9 T09 F9 N9 B9 X9 T9 D9; (try dsimp only at B9 D9 T09 ⊢); (try k_lift B9); (try k_fold)) | (refine' use_clr (c_unbornn _ _ _ _) ?k1 ?k2 ?k3 ?k4 ?k5 ?kK ?XB ?TB ?kD ?T0 ?kp ?kd ?ku ?_; (case k1 => k_asm); (case k2 => k_asm); (case k3 => k_asm); (case k4 => k_asm); (case k5 => k_asm); (case kK => first | exact rfl | assumption); (case XB => with_reducible assumption); (case TB => with_reducible assumption); (case kD => with_reducible assumption); (case T0 => first | with_reducible assumption | exact KtsTurn.refl); (case kp => (exact ⟨num_ok (by omega) (by assumption) (by assumption), by omega⟩)); (case kd => ktr_room); (case ku => ktr_units); intro g9 h9 tk9 T09 F9 N9 B9 X9 T9 D9; (try dsimp only at B9 D9 T09 ⊢); (try k_lift B9); (try k_fold)) | (refine' use_clr (c_unborn _ _ _ _) ?k1 ?k2 ?k3 ?k4 ?k5 ?kK ?XB ?TB ?kD ?T0 ?kp ?kd ?ku ?_; (case k1 => k_asm); (case k2 => k_asm); (case k3 => k_asm); (case k4 => k_asm); (case k5 => k_asm); (case kK => first | exact rfl | assumption); (case XB => with_reducible assumption); (case TB => with_reducible assumption); (case kD => with_reducible assumption); (case T0 => first | with_reducible assumption | exact KtsTurn.refl); (case kp => (exact ⟨by omega, by assumption⟩)); (case kd => ktr_room); (case ku => ktr_units); intro g9 h9 tk9 T09 F9 N9 B9 X9 T9 D9; (try dsimp only at B9 D9 T09 ⊢); (try k_lift B9); (try k_fold)) | (refine' use_clr (c_refused _ _ _ _ _ _ _ _) ?k1 ?k2 ?k3 ?k4 ?k5 ?kK ?XB ?TB ?kD ?T0 ?kp ?kd ?ku ?_; (case k1 => k_asm); (case k2 => k_asm); (case k3 => k_asm); (case k4 => k_asm); (case k5 => k_asm); (case kK => first | exact rfl | assumption); (case XB => with_reducible assumption); (case TB => with_reducible assumption); (case kD => with_reducible assumption); (case T0 => first | with_reducible assumption | exact KtsTurn.refl); (case kp => (first | exact ⟨by assumption, by assumption, bad1 (by omega)⟩ | exact ⟨by assumption, by assumption, bad2 (by omega)⟩ | exact ⟨by assumption, by assumption, bad3 (by omega) (by omega) (by omega)⟩ | exact ⟨by assumption, by assumption, bad4⟩)); (case kd => ktr_room); (case ku => ktr_units); intro g9 h9 tk9 T09 F9 N9 B9 X9 T9 D9; (try dsimp only at B9 D9 T09 ⊢); (try k_lift B9); (try k_fold)))))
local macro_rules | `(tactic| walk_at "subscriptTail") => `(tactic| (k_here; (first | (with_reducible show wpAny _ _ (subscriptTail (Expr.Name _ ⟨253, _, _, _⟩) _ (Value.ref _) (Value.int _ _)) _ _ _) | (with_reducible show wpAny _ _ (subscriptTail (Expr.Name _ ⟨254, _, _, _⟩) _ (Value.ref _) (Value.int _ _)) _ _ _) | (with_reducible show wpAny _ _ (subscriptTail (Expr.Subscript _ _ ⟨253, _, _, _⟩) _ (Value.ref _) (Value.int _ _)) _ _ _) | (with_reducible show wpAny _ _ (subscriptTail (Expr.Subscript _ _ ⟨254, _, _, _⟩) _ (Value.ref _) (Value.int _ _)) _ _ _)); k_dflt (first | (refine' ways_row (tupK ?kX ?kl) ?ka ?kb ?_ ?kc; (case kX => k_in); (case kl => k_is); (case ka => omega); (case kb => omega); (case kc => with_unfolding_all rfl); k_whole) | (refine' ways_at (tupK ?kX ?kl) (tupK ?kX1 ?kl1) (tupK ?kX2 ?kl2) ?ka ?kb ?_ ?kc; (case kX => k_in); (case kl => k_is); (case kX1 => k_in); (case kl1 => k_is); (case kX2 => k_in); (case kl2 => k_is); (case ka => omega); (case kb => omega); (case kc => with_unfolding_all rfl); k_whole; intro v9 W9))))
theorem ne_same {prog : Program} {w : World} {A : Around} {E : Value → Shared → Prop} {s : Shared} {Q : Value → Shared → Prop} {b : Bool} (h : Q (.bool false) s) : wpAny (model prog w) A (compareOp .NotEq (.bool b) (.bool b)) Q E s :=
  ne_bool (by rw [bne_self_eq_false]; exact h)
local macro_rules | `(tactic| walk_at "compareOp NotEq bool bool") => `(tactic| (k_here; with_reducible refine ne_same ?_))
theorem size_or {k y : Int} (hk : 0 ≤ k ∧ k ≤ 2) (hy : 1 ≤ y) : frF k (y + 1) 1 1 - frF k y 1 1 = 365 ∨ frF k (y + 1) 1 1 - frF k y 1 1 = 366 := by
  rw [fr_size]; exact year_step hk hy
theorem size_ag {k y : Int} (hk : 0 ≤ k ∧ k ≤ 2) (hy : 1 ≤ y) (ha : agreedF k y = true) (hb : agreedF k (y + 1) = true) : frF k (y + 1) 1 1 - frF k y 1 1 = if sixthF k y = true then 366 else 365 := by
  rw [fr_size]; exact year_size hk hy ha hb
theorem c_three (a b c : Int) (t u v : Tok) : Cl0 20 179 [.int a t, .int b u, .int c v] := by
  unfold Cl0; w_on; k_fill
  intro w p loose mean mg mb news dp un gd cn cs ac ccd A₀ base h₀ L mm s Q E B F X N T hk XB TB hd hu hret
  k_with_none
  k_with "exec If" => ((with_reducible show wpAny _ _ (exec (Stmt.If _ _ _ ⟨256, _, _, _⟩) _) _ _ _); k_dflt (refine' join_p (PySem.Str.ofString "year") (fun y => 1 ≤ y) ?jF ?jN ?jc ?_; (case jF => k_asm); (case jN => k_asm)); (case jc => (refine wpAny_If ?_; (try dsimp only); k_steps; all_goals (refine' jip_new ?e ?F ?N ?s; (case F => k_asm); (case N => with_reducible assumption); (case s => (intro p9 hp9; repeat (first | exact hp9 | refine List.Mem.tail _ ?_))); (case e => (law_clear; omega))))); intro y5 t5 h9 tk9 P5 F9 N9; (try dsimp only); (try dsimp only at F9); (try k_sweep))
  k_with "eval IfExp" => ((with_reducible show wpAny _ _ (eval (Expr.IfExp _ _ _ ⟨265, _, _, _⟩) _) _ _ _); k_dflt (refine' val_join (if sixthF (a % 3) y5 = true then 365 else 364) ?vc ?_); (case vc => (refine IfExp_ ?_; (try dsimp only); k_steps; all_goals (first | exact vj_1 (by assumption) | exact vj_2 (by assumption) | exact vj_3 (by assumption)))); intro t9 tk9; (try dsimp only))
  k_with "call builtin:min" => (k_dflt (refine' min_p ?m1 ?m2 ?m3 ?_; (case m1 => rfl); (case m2 => k_asm); (case m3 => k_asm)); intro p5 t9 h9 tk9 p5a p5b p5c F9 N9; (have p5d : 0 ≤ p5 := by rcases p5c with e | e <;> first | omega | (split at e <;> omega)); (have p5e : p5 ≤ 365 := by split at p5b <;> omega); (try dsimp only))
  k_with "exec While" => ((with_reducible show wpAny _ _ (exec (Stmt.While _ _ _ ⟨269, _, _, _⟩) _) _ _ _); k_dflt (refine' while_2 (PySem.Str.ofString "day") (PySem.Str.ofString "month") (fun d m => 30 * (m - 1) + d = p5 + 1 ∧ 1 ≤ d ∧ 1 ≤ m) (fun d m => 30 * (m - 1) + d = p5 + 1 ∧ 1 ≤ d ∧ 1 ≤ m ∧ d ≤ 30) (fun d _ => d.toNat) ?w1 ?w2 ?wF ?wN ?wp ?wt ?_ ?wE; (case wF => k_asm); (case wN => k_asm); (case w1 => first | ((try dsimp only); simp only [ofs_inj, String.reduceEq, if_false, if_true]; exact rfl) | exact rfl); (case w2 => first | ((try dsimp only); simp only [ofs_inj, String.reduceEq, if_false, if_true]; exact rfl) | exact rfl); (case wE => with_unfolding_all passes_own)); (case wp => (law_clear; omega)); (case wt => (intro d5 m5 t90 t91 h9 tk9 P9 F9 N9; (try dsimp only); (try dsimp only at F9); (try k_sweep); k_steps; all_goals (first | (with_reducible refine wh2t ?_; (refine' wh2_end ?eF ?eN ?e1 ?e2 ?ez ?es ?eR; (case eF => k_asm); (case eN => with_reducible assumption); (case e1 => first | ((try dsimp only); simp only [ofs_inj, String.reduceEq, if_false, if_true]; exact rfl) | exact rfl); (case e2 => first | ((try dsimp only); simp only [ofs_inj, String.reduceEq, if_false, if_true]; exact rfl) | exact rfl); (case ez => (intro z9 q0 q1; first | rfl | (simp only [q0, q1, if_false]) | (simp only [q0, q1, if_false]; rfl) | (simp [q0, q1]))); (case es => (intro p9 hp9; repeat (first | exact hp9 | refine List.Mem.tail _ ?_))); (case eR => (law_clear; omega)))) | (refine' wh2_end ?eF ?eN ?e1 ?e2 ?ez ?es ?eR; (case eF => k_asm); (case eN => with_reducible assumption); (case e1 => first | ((try dsimp only); simp only [ofs_inj, String.reduceEq, if_false, if_true]; exact rfl) | exact rfl); (case e2 => first | ((try dsimp only); simp only [ofs_inj, String.reduceEq, if_false, if_true]; exact rfl) | exact rfl); (case ez => (intro z9 q0 q1; first | rfl | (simp only [q0, q1, if_false]) | (simp only [q0, q1, if_false]; rfl) | (simp [q0, q1]))); (case es => (intro p9 hp9; repeat (first | exact hp9 | refine List.Mem.tail _ ?_))); (case eR => (law_clear; omega)))))); intro d5 m5 t90 t91 h9 tk9 R9 F9 N9; (try dsimp only); (try dsimp only at F9); (try k_sweep))
  k_with "exec If" => ((with_reducible show wpAny _ _ (exec (Stmt.If _ _ _ ⟨277, _, _, _⟩) _) _ _ _); k_dflt (refine' join_0 ?jF ?jN ?jc ?_; (case jF => k_asm); (case jN => k_asm)); (case jc => (have q9 := size_or (k := a % 3) (y := y5) ⟨by omega, by omega⟩ P5;(refine wpAny_If ?_); (try dsimp only); k_steps; all_goals (first | (refine' j0_end ?F ?N ?s; (case F => k_asm); (case N => with_reducible assumption); (case s => (intro p9 hp9; repeat (first | exact hp9 | refine List.Mem.tail _ ?_)))) | (exfalso; law_clear; (try simp only [List.any_cons, List.any_nil, Bool.or_false, Bool.or_eq_true, Bool.or_eq_false_iff, Bool.and_eq_true, Bool.and_eq_false_iff, beq_iff_eq, beq_eq_false_iff_ne, bne_iff_ne, decide_eq_true_eq, decide_eq_false_iff_not, ne_eq] at *); (try law_fm); omega)))); intro h9 tk9 F9 N9; (try dsimp only); (try dsimp only at F9); (try k_sweep))
  k_with "eval IfExp" => ((with_reducible show wpAny _ _ (eval (Expr.IfExp _ _ _ ⟨279, _, _, _⟩) _) _ _ _); k_dflt (refine' val_join (if sixthF (a % 3) y5 = true then 366 else 365) ?vc ?_); (case vc => (refine IfExp_ ?_; (try dsimp only); k_steps; all_goals (first | exact vj_1 (by assumption) | exact vj_2 (by assumption) | exact vj_3 (by assumption)))); intro t9 tk9; (try dsimp only))
  k_with "exec If" => ((with_reducible show wpAny _ _ (exec (Stmt.If _ _ _ ⟨279, _, _, _⟩) _) _ _ _); k_dflt (refine' join_0 ?jF ?jN ?jc ?_; (case jF => k_asm); (case jN => k_asm)); (case jc => (have q9 := size_ag (k := a % 3) (y := y5) ⟨by omega, by omega⟩ P5;(refine wpAny_If ?_); (try dsimp only); k_steps; all_goals (first | (refine' j0_end ?F ?N ?s; (case F => k_asm); (case N => with_reducible assumption); (case s => (intro p9 hp9; repeat (first | exact hp9 | refine List.Mem.tail _ ?_)))) | (exfalso; exact absurd (q9 (by assumption) (by assumption)) (by assumption))))); intro h9 tk9 F9 N9; (try dsimp only); (try dsimp only at F9); (try k_sweep))
  k_with "eval IfExp" => ((with_reducible show wpAny _ _ (eval (Expr.IfExp _ _ _ ⟨281, _, _, _⟩) _) _ _ _); k_dflt (refine' val_join (if sixthF (a % 3) y5 = true then 7 else 6) ?vc ?_); (case vc => (refine IfExp_ ?_; (try dsimp only); k_steps; all_goals (first | exact vj_1 (by assumption) | exact vj_2 (by assumption) | exact vj_3 (by assumption)))); intro t9 tk9; (try dsimp only))
  k_with "exec For" => ((with_reducible show wpAny _ _ (exec (Stmt.For _ _ _ _ ⟨281, _, _, _⟩) _) _ _ _); (refine wpAny_For ?_))
  k_with "exec For" => ((with_reducible show wpAny _ _ (exec (Stmt.For _ _ _ _ ⟨288, _, _, _⟩) _) _ _ _); (refine wpAny_For ?_))
  k_with "pyIter ref" => ((with_reducible show wpAny _ _ (pyIter _) (fun it s₂ => codeAny _ _ (Code.forLoop (Expr.Tuple _ _ _) it _ _ _) _ s₂) _ _); k_dflt (refine' for_tupK [_, _, _, _] [PySem.Str.ofString "a", PySem.Str.ofString "c", PySem.Str.ofString "kind", PySem.Str.ofString "way", PySem.Str.ofString "other", PySem.Str.ofString "year", PySem.Str.ofString "month", PySem.Str.ofString "day", PySem.Str.ofString "number", PySem.Str.ofString "date", PySem.Str.ofString "civil"] ?oh ?oa ?oe ?oT0 ?oF ?oN ?oB ?oX ?oT ?oD ?os ?_ ?oE; (case oh => rfl); (case oF => k_asm); (case oN => k_asm); (case oa => k_mem); (case oe => rfl); (case oB => with_reducible assumption); (case oX => with_reducible assumption); (case oT => with_reducible assumption); (case oD => with_reducible assumption); (case oT0 => first | with_reducible assumption | exact KtsTurn.refl); (case oE => with_unfolding_all passes_own)); (case os => (intro i9 v9 m9 I9 o9 h9 tk9 g9 hv9 off9 T09 F9 N9 B9 X9 T9 D9; simp only [layK, ofs_inj, String.reduceEq, if_false, if_true] at F9; rcases i9 with _ | _ | _ | _ | i9 <;> cases hv9 <;> (k_steps; all_goals (refine' tu_endK ?eT0 ?eF ?eN ?eI ?es ?eB ?eX ?eT ?eD ?eo ?eJ; (case eF => k_asm); (case eN => k_asm); (case eT0 => with_reducible assumption); (case eB => with_reducible assumption); (case eX => with_reducible assumption); (case eT => with_reducible assumption); (case eD => with_reducible assumption); (case eJ => (simp only [Keeps, ofs_inj, String.reduceEq, if_false, if_true, and_self])); (case eI => k_dflt k_mem); (case es => (intro p9 hp9; repeat (first | exact hp9 | refine List.Mem.tail _ ?_))); (case eo => with_reducible assumption))))); intro m9 h9 tk9 g9 T09 F9 N9 B9 X9 T9 D9; (try simp only [layK, ofs_inj, String.reduceEq, if_false, if_true] at F9); (try dsimp only))
  k_with "exec If" => ((with_reducible show wpAny _ _ (exec (Stmt.If _ _ _ ⟨292, _, _, _⟩) _) _ _ _); k_dflt (refine' join_0 ?jF ?jN ?jc ?_; (case jF => k_asm); (case jN => k_asm)); (case jc => (have q9 := fr_nu (k := a % 3) (y := y7) (m := m7) (d := d7) ⟨by omega, by omega⟩ dI7.1;(refine wpAny_If ?_); (try dsimp only); k_steps; all_goals (first | (refine' j0_end ?F ?N ?s; (case F => k_asm); (case N => with_reducible assumption); (case s => (intro p9 hp9; repeat (first | exact hp9 | refine List.Mem.tail _ ?_)))) | (exfalso; exact absurd (q9 (by assumption)) (by assumption))))); intro h9 tk9 F9 N9; (try dsimp only); (try dsimp only at F9); (try k_sweep))
  k_with "exec If" => ((with_reducible show wpAny _ _ (exec (Stmt.If _ _ _ ⟨294, _, _, _⟩) _) _ _ _); k_dflt (refine' join_0 ?jF ?jN ?jc ?_; (case jF => k_asm); (case jN => k_asm)); (case jc => (have q9 := fr_place (a % 3) y7 m7 d7;(refine wpAny_If ?_); (try dsimp only); k_steps; all_goals (first | (refine' j0_end ?F ?N ?s; (case F => k_asm); (case N => with_reducible assumption); (case s => (intro p9 hp9; repeat (first | exact hp9 | refine List.Mem.tail _ ?_)))) | (exfalso; exact absurd q9 (by assumption))))); intro h9 tk9 F9 N9; (try dsimp only); (try dsimp only at F9); (try k_sweep))
  k_with "eval BoolOp" => ((with_reducible show wpAny _ _ (eval (Expr.BoolOp _ _ ⟨296, 15, _, _⟩) _) _ _ _); (fail_if_success (with_reducible show wpAny _ _ _ (VJB _ _ _ _ _) _ _)); k_dflt (refine' val_joinb (fun b => b = true → bkF (a % 3) y7 m7 d7) ?vc ?_); (case vc => (k_steps; all_goals (refine vjb ?_; (intro hb; first | exact bk1 (by assumption) | exact bk2 (by assumption) | exact bk3 (by assumption) hb | exact bk4 (by assumption) (by assumption) | exact bk5 (by assumption) hb)))); intro b7 tk9 P7; (try dsimp only))
  k_with "exec If" => ((with_reducible show wpAny _ _ (exec (Stmt.If _ _ _ ⟨297, _, _, _⟩) _) _ _ _); k_dflt (refine' join_0 ?jF ?jN ?jc ?_; (case jF => k_asm); (case jN => k_asm)); (case jc => (skip;(refine wpAny_If ?_); (try dsimp only); k_steps; all_goals (first | (refine' j0_end ?F ?N ?s; (case F => k_asm); (case N => with_reducible assumption); (case s => (intro p9 hp9; repeat (first | exact hp9 | refine List.Mem.tail _ ?_)))) | (exfalso; fail "a way is left")))); intro h9 tk9 F9 N9; (try dsimp only); (try dsimp only at F9); (try k_sweep))
  k_with "exec If" => ((with_reducible show wpAny _ _ (exec (Stmt.If _ _ _ ⟨299, _, _, _⟩) _) _ _ _); k_dflt (refine' join_0 ?jF ?jN ?jc ?_; (case jF => k_asm); (case jN => k_asm)); (case jc => (skip;(refine wpAny_If ?_); (try dsimp only); k_steps; all_goals (first | (refine' j0_end ?F ?N ?s; (case F => k_asm); (case N => with_reducible assumption); (case s => (intro p9 hp9; repeat (first | exact hp9 | refine List.Mem.tail _ ?_)))) | (exfalso; fail "a way is left")))); intro h9 tk9 F9 N9; (try dsimp only); (try dsimp only at F9); (try k_sweep))
  k_with "pyIter ref" => ((with_reducible show wpAny _ _ (pyIter _) (fun it s₂ => codeAny _ _ (Code.forLoop (Expr.Name _ _) it _ _ _) _ s₂) _ _); k_dflt (refine' for_three (n := 3) [PySem.Str.ofString "kind", PySem.Str.ofString "way", PySem.Str.ofString "other"] news (a % 3) ?oh ?or ?osm ?on ?oT0 ?oF ?oN ?oB ?oX ?oT ?oD ?o1 ?o2 ?o3 ?oDa ?oDc ?odI ?ooG ?ohg ?ohn ?onw ?os ?_ ?oE; (case oh => rfl); (case or => assumption); (case osm => decide); (case on => decide); (case oF => k_asm); (case oN => k_asm); (case oB => with_reducible assumption); (case oX => with_reducible assumption); (case oT => with_reducible assumption); (case oD => with_reducible assumption); (case oT0 => with_reducible assumption); (case o1 => first | ((try dsimp only); simp only [ofs_inj, String.reduceEq, if_false, if_true]; exact rfl) | exact rfl); (case o2 => first | ((try dsimp only); simp only [ofs_inj, String.reduceEq, if_false, if_true]; exact rfl) | exact rfl); (case o3 => first | ((try dsimp only); simp only [ofs_inj, String.reduceEq, if_false, if_true]; exact rfl) | exact rfl); (case oDa => k_mem); (case oDc => k_mem); (case odI => exact start_inv P5 p5d p5b (by omega) ⟨by omega, by omega⟩ (by omega)); (case ooG => assumption); (case ohg => (refine Eq.trans (by assumption) ?_; unfold nuF; omega)); (case ohn => (unfold nuF; omega)); (case onw => (intro p9 hp9; repeat (first | exact hp9 | refine List.Mem.tail _ ?_))); (case oE => with_unfolding_all passes_own)); (case os => (intro i7 tv7 y7 m7 d7 cy7 cm7 cd7 D7 Dc7 u1 u2 u3 u4 u5 u6 u7 k1 k2 m9 I9 o9 h9 tk9 g9 hi7 dI7 oG7 hg7 off1 off2 off3 T09 F9 N9 B9 X9 T9 D9; simp only [layK, ofs_inj, String.reduceEq, if_false, if_true] at F9; replace F9 : Fr g9 L' h9 _ := F9; replace N9 : News g9 L' h9 _ := N9; (k_steps; all_goals (refine' tu_end2 ?eT0 ?eF ?eN ?eB ?eX ?eT ?eD ?e1 ?e2 ?e3 ?eI ?eDa ?eDc ?eo1 ?eo2 ?edI ?eoG ?ehg ?ehn ?eK ?enw ?eow; (case eF => k_asm); (case eN => k_asm); (case eT0 => with_reducible assumption); (case eB => with_reducible assumption); (case eX => with_reducible assumption); (case eT => with_reducible assumption); (case eD => with_reducible assumption); (case e1 => first | ((try dsimp only); simp only [ofs_inj, String.reduceEq, if_false, if_true]; exact rfl) | exact rfl); (case e2 => first | ((try dsimp only); simp only [ofs_inj, String.reduceEq, if_false, if_true]; exact rfl) | exact rfl); (case e3 => first | ((try dsimp only); simp only [ofs_inj, String.reduceEq, if_false, if_true]; exact rfl) | exact rfl); (case eI => k_dflt k_mem); (case eDa => k_dflt k_mem); (case eDc => k_dflt k_mem); (case eo1 => first | exact And.left (by assumption) | exact And.left (And.right (by assumption))); (case eo2 => first | exact And.left (And.right (by assumption)) | exact And.left (by assumption)); (case edI => exact onward_inv (by assumption)); (case eoG => exact morrow_ok (by assumption)); (case ehg => exact step_g ⟨by omega, by omega⟩ (by assumption) (by assumption) (by assumption)); (case ehn => exact step_n ⟨by omega, by omega⟩ (by assumption)); (case eK => (simp only [Keeps, ofs_inj, String.reduceEq, if_false, if_true, and_self])); (case enw => (intro p9 hp9; repeat (first | exact hp9 | refine List.Mem.tail _ ?_))); (case eow => with_reducible assumption))))); intro m9 h9 tk9 g9 T09 F9 N9 B9 X9 T9 D9; (try dsimp only))
  (refine wpAny_call ?_); k_dflt (refine' code_defS0 ?k1 ?k2 ?k3 ?k4 ?k5 ?kA ?k6 ?k7 ?k8 ?k9 ?kB ?_ ?cK ?c2 ?c3 ?c4 ?c5; (case kA => exact rfl); (case k2 => k_asm); (case k1 => k_asm); (case k3 => exact X); (case k4 => k_asm); (case k5 => exact T); (case k6 => k_is); (case k7 => k_is); (case k8 => ktr_room); (case k9 => first | exact binds_K (by k_in) rfl (by k_is) rfl rfl rfl | exact BindsTo.of_eq rfl); (case kB => exact locs rfl); (case cK => exact hk); (case c2 => exact rfl); (case c3 => exact rfl); (case c4 => exact rfl); (case c5 => decide); k_whole; intro g' L' h' FG' F' N' B' X' T' D'; (first | replace F' := fr_look1 F' | replace F' := fr_look2 F' | replace F' := fr_look3 F' | replace F' := fr_look4 F'); (try dsimp only); (try k_lift B'); (try k_fold))
  k_steps
  all_goals (refine' hret _ _ ?z1 ?z2; (case z1 => k_asm); (case z2 => first | with_reducible assumption | (refine' cb_drop ?cbN ?cbS; (case cbN => with_reducible assumption); (case cbS => (intro p9 hp9; repeat (first | exact hp9 | refine List.Mem.tail _ ?_))))))
section
variable {prog : Program} {w : World} {A : Around} {E : Value → Shared → Prop} {h₀ : Heap} {L l : Addr} {m : PySem.Str → Option Value} {news : List (Addr × Obj)} {value slice : PySem.Expr} {vs : List Value} {ns : List Int} {vl vu : Value} {lo hi : Option Int} {Q : Value → Shared → Prop} {hp : Heap} {g : Array GenState} {d : Drawn} {X : Nat} {os : OsState}
theorem slice_flat {ms : List Int} (F : Fr h₀ L hp m) (N : News h₀ L hp news) (hl : hp.IsList l vs.toArray) (pl : IsPart vl lo) (pu : IsPart vu hi) (hi' : IntsAre vs ns) (hm : IntsAre (slicePick vs.toArray lo hi none).toList ms)
    (h : ∀ D ws h', Fr h₀ L h' m → News h₀ L h' ((D, W.listOf (List.toArray ws) 0) :: news) → (∀ p ∈ news, p.1 < D) → IntsAre ws ms → Q (.ref D) ⟨h', g, d, X, os⟩)
    (hs : subscripted slice false (.ref l) (.ref hp.objs.size) = operate [.ref hp.objs.size, .ref l] (getItem (.ref l) (.ref hp.objs.size))) (hz : vs.toArray.size ≤ sizeLine) :
    wpAny (model prog w) A (subscriptTail value slice (.ref l) (.ref hp.objs.size)) Q E ⟨hp.push { cls := .type "slice", data := .fields #[vl, vu, .none] }, g, d, X, os⟩ :=
  kba_turn (value' := PySem.Expr.Name (PySem.Str.ofString "_") ⟨0, 0, 0, 0⟩) (fun _ => rfl)
    (kmk_slice_ints (s := ⟨hp, g, d, X, os⟩) F N hl pl pu hi' hm rfl (fun D ws h' F' N' l1 hI _ _ => h D ws h' F' N' l1 hI) hs (fun _ => rfl) hz)
end
theorem len_flat {prog : Program} {w : World} {A : Around} {E : Value → Shared → Prop} {l : Addr} {vs : List Value} {ns : List Int} {Q : Value → Shared → Prop} {hp : Heap} {g : Array GenState} {d : Drawn} {X : Nat} {os : OsState} (hl : hp.IsList l vs.toArray) (hi : IntsAre vs ns) (hb : ns.length ≤ 9)
    (h : ∀ (u : Tok) (tk : Nat), Q (.int (ns.length : Int) u) ⟨hp, g, d, tk, os⟩) : wpAny (model prog w) A (call (.builtin "len") [.ref l]) Q E ⟨hp, g, d, X, os⟩ := by
  have e : vs.toArray.size = ns.length := by simp [hi.length]
  refine len_list (s := ⟨hp, g, d, X, os⟩) hl (by rw [e]; omega) ?_
  rw [e]
  exact h _ _
theorem item_ints {prog : Program} {w : World} {A : Around} {E : Value → Shared → Prop} {s : Shared} {value slice : PySem.Expr} {l : Addr} {vs : List Value} {ns : List Int} {k : Int} {u : Tok} {Q : Value → Shared → Prop}
    (hl : s.heap.IsList l vs.toArray) (hi : IntsAre vs ns) (h0 : 0 ≤ k) (hlt : k < (ns.length : Int)) (hb : k < 2 ^ 63) (h : ∀ (v : Int) (t : Tok), Q (.int v t) s)
    (hs : subscripted slice false (.ref l) (.int k u) = operate [.ref l, .int k u] (getItem (.ref l) (.int k u)) := by with_unfolding_all rfl) :
    wpAny (model prog w) A (subscriptTail value slice (.ref l) (.int k u)) Q E s := by
  have hk : k.toNat < ns.length := by omega
  obtain ⟨t, ht⟩ := hi.get k.toNat ns[k.toNat] (by simp [hk])
  exact tail_any hl.typeIs slot_list_getitem.lookup (wpAny_getItem_list hl h0 hb (by simpa using ht) (h _ t)) hs
theorem range_flat {prog : Program} {w : World} {A : Around} {E : Value → Shared → Prop} {h₀ : Heap} {L : Addr} {m : PySem.Str → Option Value} {news : List (Addr × Obj)} {a b : Int} {t u v : Tok} {Q : Value → Shared → Prop} {hp : Heap} {g : Array GenState} {d : Drawn} {X : Nat} {os : OsState} (F : Fr h₀ L hp m) (N : News h₀ L hp news)
    (h : ∀ (h' : Heap) (tk : Nat) (r : Addr) (t₁ u₁ v₁ : Tok), IsRange h' r a b 3 t₁ u₁ v₁ → Fr h₀ L h' m → News h₀ L h' news → Q (.ref r) ⟨h', g, d, tk, os⟩) :
    wpAny (model prog w) A (call (.type "range") [.int a t, .int b u, .int 3 v]) Q E ⟨hp, g, d, X, os⟩ :=
  range3_rows (s := ⟨hp, g, d, X, os⟩) F N (by decide) (fun h' tk t₁ u₁ v₁ r F' N' _ => h h' tk _ t₁ u₁ v₁ r F' N') (Or.inl (PyProof.noPylong_small (by omega)))
theorem for_law {prog : Program} {w : World} {A : Around} {E : Value → Shared → Prop} {Q : Flow → Shared → Prop} {s : Shared} {env : Env} {body : List Stmt} {p : Program} {loose : List PySem.Str} {mean : ExcName → Option Value} {mg mb : PySem.Str → Option Value} {A₀ : Around} {base g₀ g : Heap} {outer : List Env}
    {x : PySem.Str} {px : Pos} {r : Addr} {a b c : Int} {t u v : Tok} {n : Nat} {m : PySem.Str → Option Value} {news : List (Addr × Obj)} (ns : List PySem.Str)
    (hh : A.handled = none) (hr : IsRange s.heap r a b c t u v) (hsmall : Builtin.Range.small a b c = true) (hn : Builtin.Range.rangeSize a b c = (n : Int))
    (T0 : KtsTurn (outer.filterMap (·.frame)) g₀ g) (F : Fr g env.locals s.heap m) (N : News g env.locals s.heap news) (B : Below A₀ base outer g) (X : (Bn.hd.heap_39 w.params).In g) (T : Top p loose mean mg mb g) (D : KtsDicts (outer.filterMap (·.frame)) g)
    (step : ∀ (i : Nat) (tv : Tok) m₁ I o₁ h₁ tk₁ g, i < n → (∀ q ∈ news, q.1 ≠ I) → KtsTurn (outer.filterMap (·.frame)) g₀ g → Fr g env.locals h₁ (layK ns m m₁) →
      News g env.locals h₁ ((I, o₁) :: news) → Below A₀ base outer g → (Bn.hd.heap_39 w.params).In g → Top p loose mean mg mb g → KtsDicts (outer.filterMap (·.frame)) g →
      wpAny (model prog w) A (assign (.Name x px) env (.int (a + (i : Int) * c) tv)) (fun _ s₂ => wpAny (model prog w) A (execs body env) (TuEnd w p loose mean mg mb A₀ base g₀ outer env.locals I o₁ (fun m' news' => news' = news ∧ Keeps ns m m') s) E s₂) E { s with heap := h₁, toks := tk₁ })
    (done : ∀ m' h' tk' g', KtsTurn (outer.filterMap (·.frame)) g₀ g' → Fr g' env.locals h' m' → News g' env.locals h' news → Below A₀ base outer g' → (Bn.hd.heap_39 w.params).In g' → Top p loose mean mg mb g' → KtsDicts (outer.filterMap (·.frame)) g' → Q .next { s with heap := h', toks := tk' })
    (hE : PassesOwn (model prog w) A env E) :
    wpAny (model prog w) A (pyIter (.ref r)) (fun it s₂ => codeAny (model prog w) A (.forLoop (.Name x px) it body [] env) (fun r s' => match r with | .ok f => Q f s' | .error e => cameBackBy (model prog w) A env E e s') s₂) E s := by
  refine for_rangeS hh hr hsmall hn T0 F N B X T D (fun _ m' news' => news' = news ∧ Keeps ns m m') (news0 := news) (fun _ hq => hq) ⟨rfl, keeps_refl⟩ (fun i tv m₁ news₁ I o₁ h₁ tk₁ g hi hj off b1 b2 b3 b4 b5 b6 b7 => ?_) (fun m' news' h' tk' g' hj b1 b2 b3 b4 b5 b6 b7 => ?_) hE
  · obtain ⟨rfl, hK⟩ := hj
    rw [keeps_lay hK] at b2
    exact step i tv m₁ I o₁ h₁ tk₁ g hi off b1 b2 b3 b4 b5 b6 b7
  · obtain ⟨rfl, hK⟩ := hj
    exact done m' h' tk' g' b1 b2 b3 b4 b5 b6 b7
theorem fr_of_nil {g₀ g h : Heap} {L : Addr} {m : PySem.Str → Option Value} (T : KtsTurn [] g₀ g) (F : Fr g L h m) : Fr g₀ L h m :=
  ⟨F.ns, fun b o e => F.keep b o (T.other b o e (by simp)), by rw [← T.size]; exact F.above⟩
theorem news_of_nil {g₀ g h : Heap} {L : Addr} {news : List (Addr × Obj)} (T : KtsTurn [] g₀ g) (N : News g L h news) : News g₀ L h news := fun q hq => by
  obtain ⟨h1, h2, h3⟩ := N q hq
  refine ⟨h1, h2, ?_⟩
  cases e : g₀.get? q.1 with
  | none => rfl
  | some o => rw [T.other _ _ e (by simp)] at h3; cases h3
theorem use_cl0 {n : Nat} {f : Addr} {vs : List Value} (C : Cl0 n f vs)
    {w : World} {p : Program} {loose : List PySem.Str} {mean : ExcName → Option Value} {mg mb : PySem.Str → Option Value} {news : List (Addr × Obj)}
    {dp un : Nat} {gd : Option (List Code)} {cn : PySem.Str} {cs : Scope} {ac : Addr} {ccd : Value} {A₀ : Around} {base h₀ : Heap} {L : Addr} {m : PySem.Str → Option Value} {s : Shared} {Q E : Value → Shared → Prop}
    (B : Below A₀ base [] h₀) (F : Fr h₀ L s.heap m) (X : (Bn.hd.heap_39 w.params).In h₀) (N : News h₀ L s.heap news) (T : Top p loose mean mg mb h₀) (hk : cs.kind = .function) (XB : (Bn.hd.heap_39 w.params).In base) (TB : Top p loose mean mg mb base)
    (hd : dp + n < recursionLimit) (hu : un + 8 * n < cLine)
    (ret : ∀ (h' : Heap) (tk' : Nat), Fr h₀ L h' m → News h₀ L h' news → Q (.bool true) { s with heap := h', toks := tk' }) :
    wpAny (model PySem.Challenge.rw_bn0009_01.row.prog w) ({ handled := none, depth := dp, frames := some [envOf cn cs L ac ccd], guards := gd, units := un } : Around) (PySem.call (.ref f) vs []) Q E s :=
  C _ _ _ _ _ _ _ _ _ _ _ _ _ _ _ _ _ _ _ _ _ _ B F X N T hk XB TB hd hu ret
theorem law_len (ns : List Int) : 3 ≤ ((ns ++ [0, 0, 0]).take 9).length ∧ ((ns ++ [0, 0, 0]).take 9).length ≤ 9 := by
  rw [List.length_take, List.length_append]
  simp only [List.length_cons, List.length_nil]
  omega
theorem law_range {c : Nat} (h : 3 ≤ c) (h2 : c ≤ 9) : Builtin.Range.rangeSize 0 ((c : Int) - 2) 3 = ((c / 3 : Nat) : Int) ∧ Builtin.Range.small 0 ((c : Int) - 2) 3 = true := by
  have : c = 3 ∨ c = 4 ∨ c = 5 ∨ c = 6 ∨ c = 7 ∨ c = 8 ∨ c = 9 := by omega
  rcases this with rfl | rfl | rfl | rfl | rfl | rfl | rfl <;> decide
local macro_rules | `(tactic| walk_at "subscriptTail") => `(tactic| (k_here; (with_reducible show wpAny _ _ (subscriptTail _ (PySem.Expr.Slice _ _ _ _) (Value.ref _) (Value.ref _)) _ _ _); (try dsimp only); k_dflt (refine' slice_flat ?zF ?zN ?zl ?zp ?zq ?zi ?zm ?_ ?zs ?zz; (case zF => k_asm); (case zN => k_asm); (case zl => kmk_list); (case zp => kmk_part); (case zq => kmk_part); (case zi => l_ints); (case zm => kmk_nums); (case zs => with_unfolding_all rfl); (case zz => kmk_size)); intro D' ws' h' F' N' l1 hI'; (try simp only [Int.reduceToNat] at hI')))
local macro_rules | `(tactic| walk_at "call builtin:len") => `(tactic| (k_here; k_dflt (refine' len_flat ?zl ?zi ?zb ?_; (case zl => kmk_list); (case zi => l_ints); (case zb => exact (law_len _).2)); intro u9 tk))
local macro_rules | `(tactic| walk_at "call type:range") => `(tactic| (k_here; k_dflt (refine' range_flat ?zF ?zN ?_; (case zF => k_asm); (case zN => k_asm)); intro h' tk r' t₁ u₁ v₁ R' F' N'))
local macro_rules | `(tactic| walk_at "subscriptTail") => `(tactic| (k_here; (with_reducible show wpAny _ _ (subscriptTail _ _ (Value.ref _) (Value.int _ _)) _ _ _); k_dflt (refine' item_ints ?zl ?zi ?z0 ?z1 ?z2 ?_ ?zs; (case zl => kmk_list); (case zi => l_ints); (case z0 => omega); (case z1 => omega); (case z2 => omega); (case zs => with_unfolding_all rfl)); intro v9 t9))
local macro_rules | `(tactic| walk_at "call ref") => `(tactic| (k_here; k_dflt (refine' use_cl0 (c_three _ _ _ _ _ _) ?k1 ?k2 ?k3 ?k4 ?k5 ?kK ?XB ?TB ?kd ?ku ?_; (case k2 => k_asm); (case k1 => assumption); (case k3 => assumption); (case k4 => k_asm); (case k5 => assumption); (case kK => rfl); (case XB => assumption); (case TB => assumption); (case kd => first | decide | ktr_room); (case ku => first | decide | ktr_units); intro h9 tk9 F9 N9; (try dsimp only); (try k_fold))))
theorem law_holds : PySem.Challenge.rw_bn0009_01.Holds := hd (by
  w_strict (
  k_go0
  all_goals (try k_fold)
  iterate 34 (first | (with_reducible show wpAny _ _ (exec (Stmt.For _ _ _ _ _) _) _ _ _) | walk1 | (dsimp only; walk1) | skip)
  refine wpAny_For ?_
  iterate 24 (first | (with_reducible show wpAny _ _ (pyIter _) _ _ _) | walk1 | (dsimp only; walk1) | skip)
  have hlen9 := law_len ‹List Int›
  have hr9 := law_range hlen9.1 hlen9.2
  refine' for_law (n := (List.take 9 (‹List Int› ++ [0, 0, 0])).length / 3) [PySem.Str.ofString "numbers"] ?oh ?or ?osm ?on ?oT0 ?oF ?oN ?oB ?oX ?oT ?oD ?os ?od ?oE
  case oh => rfl
  case oF => k_asm
  case oN => k_asm
  case or => assumption
  case osm => exact hr9.2
  case on => exact hr9.1
  case oB => assumption
  case oX => assumption
  case oT => assumption
  case oD => exact ktsDicts_nil
  case oT0 => exact KtsTurn.refl
  case oE => with_unfolding_all passes_own
  case os =>
    intro i7 tv7 m9 I9 o9 h9 tk9 g9 hi7 off9 T09 F9 N9 B9 X9 T9 D9
    simp only [layK, ofs_inj, String.reduceEq, if_false, if_true] at F9
    iterate 40 (first | walk1 | (dsimp only; walk1) | skip)
    all_goals (refine' tu_endK ?eT0 ?eF ?eN ?eI ?es ?eB ?eX ?eT ?eD ?eo ?eJ; (case eF => k_asm); (case eN => k_asm); (case eT0 => with_reducible assumption); (case eB => with_reducible assumption); (case eX => with_reducible assumption); (case eT => with_reducible assumption); (case eD => with_reducible assumption); (case eJ => (simp only [Keeps, ofs_inj, String.reduceEq, if_false, if_true, and_self])); (case eI => k_dflt k_mem); (case es => (intro p9 hp9; repeat (first | exact hp9 | refine List.Mem.tail _ ?_))); (case eo => with_reducible assumption))
  case od =>
    intro m9 h9 tk9 g9 T09 F9 N9 B9 X9 T9 D9
    replace F9 := fr_of_nil T09 F9
    replace N9 := news_of_nil T09 N9
    dsimp only [envOf] at F9 N9
    k_steps
    all_goals (dsimp only)
    all_goals k_steps
  ))
end Bn
theorem PySem.Challenge.cw_bn0009_01_holds : PySem.Challenge.rw_bn0009_01.Holds :=
  Bn.law_holds
