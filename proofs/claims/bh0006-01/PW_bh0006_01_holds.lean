import PyProof.Rows.All
import Wide.All
import OpenK.AllK
import Wide.FinOn
import PySem.Challenge.RW_bh0006_01
open PySem PySem.W PyProof.Rows
set_option Elab.async false
set_option maxRecDepth 100000
set_option maxHeartbeats 0
namespace Heb
/-! ## The head -/
open_top hd for PySem.Challenge.rw_bh0006_01

/-! ## The plain functions -/
def leap (y : Int) : Bool := decide ((y * 7 + 1).fmod 19 < 7)
def yearMonths (y : Int) : Int := if leap y = true then 13 else 12
def molads (y : Int) : Int := (235 * y - 234).fdiv 19
def day0 (m : Int) : Int := m * 29 + (12084 + 13753 * m).fdiv 25920
def bump (d : Int) : Int := if (3 * (d + 1)).fmod 7 < 3 then d + 1 else d
def delay1 (y : Int) : Int := bump (day0 (molads y))
def delay2 (y : Int) : Int := if delay1 (y + 1) - delay1 y = 356 then 2 else if delay1 y - delay1 (y - 1) = 382 then 1 else 0
def midnight (x : Int) : Int := if x > 0 then x else x + 1
def newYear (y : Int) : Int := midnight (347996 + delay1 y + delay2 y + 1 + 1)
def yearDays (y : Int) : Int := newYear (y + 1) - newYear y
def monthLength (y m : Int) : Int :=
  if m = 2 ∨ m = 4 ∨ m = 6 ∨ m = 10 ∨ m = 13 then 29
  else if m = 12 ∧ leap y = false then 29
  else if m = 8 ∧ (yearDays y).fmod 10 ≠ 5 then 29
  else if m = 9 ∧ (yearDays y).fmod 10 = 3 then 29
  else 30
def mlSum (y : Int) (ms : List Int) : Int := (ms.map (monthLength y)).sum
theorem mlSum_nil (y : Int) : mlSum y [] = 0 := rfl
theorem mlSum_snoc (y : Int) (ms : List Int) (k : Int) : mlSum y (ms ++ [k]) = mlSum y ms + monthLength y k := by
  simp [mlSum]
def toJd (y m d : Int) : Int :=
  midnight (347996 + delay1 y + delay2 y + d + 1 + if m < 7 then mlSum y (rangeKs 7 (yearMonths y + 1 - 7).toNat) + mlSum y (rangeKs 1 (m - 1).toNat) else mlSum y (rangeKs 7 (m - 7).toNat))
theorem toJd_lo {y m d j : Int} (h : m < 7) (e : j = 347996 + delay1 y + delay2 y + d + 1 + mlSum y (rangeKs 7 (yearMonths y + 1 - 7).toNat) + mlSum y (rangeKs 1 (m - 1).toNat)) : midnight j = toJd y m d := by
  unfold toJd; rw [if_pos h, e, Int.add_assoc (347996 + delay1 y + delay2 y + d + 1)]
theorem toJd_hi {y m d j : Int} (h : ¬ m < 7) (e : j = 347996 + delay1 y + delay2 y + d + 1 + mlSum y (rangeKs 7 (m - 7).toNat)) : midnight j = toJd y m d := by
  unfold toJd; rw [if_neg h, e]
theorem yearMonths_two (y : Int) : yearMonths y = 12 ∨ yearMonths y = 13 := by
  unfold yearMonths; split <;> simp

/-! ## The lengths of the years -/

def beta (w : Int) : Int := if w = 2 ∨ w = 4 ∨ w = 6 then 1 else 0
def shift (n : Int) : Int := if n = 354 then 9516 else if n = 355 then -16404 else if n = 383 then 23269 else -2651
def fr (m : Int) : Int := (12084 + 765433 * m) % 25920
def yd (w n1 n2 n3 : Int) : Int :=
  let B := beta w
  let C := n2 + beta ((w + n2) % 7)
  let A := -n1 + beta ((w - n1) % 7)
  let D := n2 + n3 + beta ((w + n2 + n3) % 7)
  let e0 : Int := if C - B = 356 then 2 else if B - A = 382 then 1 else 0
  let e1 : Int := if D - C = 356 then 2 else if C - B = 382 then 1 else 0
  C + e1 - B - e0
def fits (s : Int) : Bool := decide (-25920 < s) && decide (s < 25920)
theorem all_ok : ∀ w ∈ ([0, 1, 2, 3, 4, 5, 6] : List Int), ∀ n1 ∈ ([354, 355, 383, 384] : List Int), ∀ n2 ∈ ([354, 355, 383, 384] : List Int), ∀ n3 ∈ ([354, 355, 383, 384] : List Int),
    (fits (shift n1 + shift n2) && fits (shift n2 + shift n3) && fits (shift n1 + shift n2 + shift n3) && !(decide (360 ≤ n1) && decide (360 ≤ n2)) && !(decide (360 ≤ n2) && decide (360 ≤ n3))) = true →
    (if 360 ≤ n2 then yd w n1 n2 n3 = 383 ∨ yd w n1 n2 n3 = 384 ∨ yd w n1 n2 n3 = 385 else yd w n1 n2 n3 = 353 ∨ yd w n1 n2 n3 = 354 ∨ yd w n1 n2 n3 = 355) := by decide +kernel

theorem nineteen (y : Int) : ∃ q r : Int, y = 19 * q + r ∧ (r = 0 ∨ r = 1 ∨ r = 2 ∨ r = 3 ∨ r = 4 ∨ r = 5 ∨ r = 6 ∨ r = 7 ∨ r = 8 ∨ r = 9 ∨ r = 10 ∨ r = 11 ∨ r = 12 ∨ r = 13 ∨ r = 14 ∨ r = 15 ∨ r = 16 ∨ r = 17 ∨ r = 18) := ⟨y / 19, y % 19, by omega, by omega⟩
theorem leap_e (y : Int) : leap y = decide ((y * 7 + 1) % 19 < 7) := by
  unfold leap; rw [Int.fmod_eq_emod_of_nonneg _ (by decide)]
theorem leap_not (y : Int) (h : leap y = true) : leap (y + 1) = false := by
  rw [leap_e] at *; simp only [decide_eq_true_eq, decide_eq_false_iff_not] at *; obtain ⟨q, r, rfl, hr⟩ := nineteen y; rcases hr with rfl | rfl | rfl | rfl | rfl | rfl | rfl | rfl | rfl | rfl | rfl | rfl | rfl | rfl | rfl | rfl | rfl | rfl | rfl <;> omega
theorem molads_e (y : Int) : molads y = (235 * y - 234) / 19 := by
  unfold molads; rw [Int.fdiv_eq_ediv_of_nonneg _ (by decide)]
theorem molads_leap (y : Int) (h : leap y = true) : molads (y + 1) = molads y + 13 := by
  rw [leap_e] at h; rw [molads_e, molads_e]; simp only [decide_eq_true_eq] at h; obtain ⟨q, r, rfl, hr⟩ := nineteen y; rcases hr with rfl | rfl | rfl | rfl | rfl | rfl | rfl | rfl | rfl | rfl | rfl | rfl | rfl | rfl | rfl | rfl | rfl | rfl | rfl <;> omega
theorem molads_common (y : Int) (h : leap y = false) : molads (y + 1) = molads y + 12 := by
  rw [leap_e] at h; rw [molads_e, molads_e]; simp only [decide_eq_false_iff_not] at h; obtain ⟨q, r, rfl, hr⟩ := nineteen y; rcases hr with rfl | rfl | rfl | rfl | rfl | rfl | rfl | rfl | rfl | rfl | rfl | rfl | rfl | rfl | rfl | rfl | rfl | rfl | rfl <;> omega
theorem day0_e (m : Int) : day0 m = (12084 + 765433 * m) / 25920 := by
  unfold day0; rw [Int.fdiv_eq_ediv_of_nonneg _ (by decide)]; omega
theorem beta_two (w : Int) : beta w = 0 ∨ beta w = 1 := by unfold beta; split <;> simp
theorem bump_e (d : Int) : bump d = d + beta (d % 7) := by
  unfold bump beta; rw [Int.fmod_eq_emod_of_nonneg _ (by decide)]
  have h : d % 7 = 0 ∨ d % 7 = 1 ∨ d % 7 = 2 ∨ d % 7 = 3 ∨ d % 7 = 4 ∨ d % 7 = 5 ∨ d % 7 = 6 := by omega
  have e : d = 7 * (d / 7) + d % 7 := by omega
  generalize d / 7 = k at *
  rcases h with h | h | h | h | h | h | h <;> rw [h] at e ⊢ <;> subst e <;> simp only [Int.reduceEq, or_true, or_false, if_true, if_false] <;> split <;> omega

theorem day_step (y : Int) : ∃ n ∈ ([354, 355, 383, 384] : List Int), day0 (molads (y + 1)) = day0 (molads y) + n ∧ fr (molads (y + 1)) = fr (molads y) + shift n ∧ (leap y = true ↔ 360 ≤ n) := by
  cases h : leap y with
  | true =>
    rw [molads_leap y h]
    generalize molads y = m
    by_cases c : fr m + 23269 < 25920
    · refine ⟨383, by decide, ?_, ?_, by decide⟩
      · rw [day0_e, day0_e]; unfold fr at c; omega
      · show _ = fr m + 23269
        unfold fr at *; omega
    · refine ⟨384, by decide, ?_, ?_, by decide⟩
      · rw [day0_e, day0_e]; unfold fr at c; omega
      · show _ = fr m + -2651
        unfold fr at *; omega
  | false =>
    rw [molads_common y h]
    generalize molads y = m
    by_cases c : fr m + 9516 < 25920
    · refine ⟨354, by decide, ?_, ?_, by decide⟩
      · rw [day0_e, day0_e]; unfold fr at c; omega
      · show _ = fr m + 9516
        unfold fr at *; omega
    · refine ⟨355, by decide, ?_, ?_, by decide⟩
      · rw [day0_e, day0_e]; unfold fr at c; omega
      · show _ = fr m + -16404
        unfold fr at *; omega
theorem fr_range (m : Int) : 0 ≤ fr m ∧ fr m < 25920 := by unfold fr; omega

def yearLen (y : Int) : Int := delay1 (y + 1) + delay2 (y + 1) - (delay1 y + delay2 y)
theorem seven (b : Int) : b % 7 ∈ ([0, 1, 2, 3, 4, 5, 6] : List Int) := by
  simp only [List.mem_cons, List.not_mem_nil, or_false]; omega
theorem yearLen_yd (y n1 n2 n3 b : Int) (hb : day0 (molads y) = b) (h1 : day0 (molads y) = day0 (molads (y - 1)) + n1) (h2 : day0 (molads (y + 1)) = b + n2) (h3 : day0 (molads (y + 1 + 1)) = b + n2 + n3) :
    yearLen y = yd (b % 7) n1 n2 n3 := by
  have eB : delay1 y = b + beta (b % 7) := by unfold delay1; rw [hb, bump_e]
  have eC : delay1 (y + 1) = b + (n2 + beta ((b % 7 + n2) % 7)) := by
    unfold delay1; rw [h2, bump_e, show (b + n2) % 7 = (b % 7 + n2) % 7 by omega]; omega
  have eD : delay1 (y + 1 + 1) = b + (n2 + n3 + beta ((b % 7 + n2 + n3) % 7)) := by
    unfold delay1; rw [h3, bump_e, show (b + n2 + n3) % 7 = (b % 7 + n2 + n3) % 7 by omega]; omega
  have eA : delay1 (y - 1) = b + (-n1 + beta ((b % 7 - n1) % 7)) := by
    unfold delay1; rw [show day0 (molads (y - 1)) = b - n1 by omega, bump_e, show (b - n1) % 7 = (b % 7 - n1) % 7 by omega]; omega
  have eY : y + 1 - 1 = y := by omega
  have e0 : delay2 y = (if n2 + beta ((b % 7 + n2) % 7) - beta (b % 7) = 356 then 2 else if beta (b % 7) - (-n1 + beta ((b % 7 - n1) % 7)) = 382 then 1 else 0) := by
    unfold delay2
    rw [eB, eC, eA, Int.add_sub_add_left, Int.add_sub_add_left]
  have e1 : delay2 (y + 1) = (if n2 + n3 + beta ((b % 7 + n2 + n3) % 7) - (n2 + beta ((b % 7 + n2) % 7)) = 356 then 2 else if n2 + beta ((b % 7 + n2) % 7) - beta (b % 7) = 382 then 1 else 0) := by
    unfold delay2
    rw [eY, eB, eC, eD, Int.add_sub_add_left, Int.add_sub_add_left]
  unfold yearLen yd
  rw [e0, e1, eC, eB]
  dsimp only
  generalize (if n2 + beta ((b % 7 + n2) % 7) - beta (b % 7) = 356 then 2 else if beta (b % 7) - (-n1 + beta ((b % 7 - n1) % 7)) = 382 then 1 else 0) = x
  generalize (if n2 + n3 + beta ((b % 7 + n2 + n3) % 7) - (n2 + beta ((b % 7 + n2) % 7)) = 356 then 2 else if n2 + beta ((b % 7 + n2) % 7) - beta (b % 7) = 382 then 1 else 0) = z
  omega
theorem yearLen_ok (y : Int) : (leap y = true → yearLen y = 383 ∨ yearLen y = 384 ∨ yearLen y = 385) ∧ (leap y = false → yearLen y = 353 ∨ yearLen y = 354 ∨ yearLen y = 355) := by
  obtain ⟨n1, m1, a1, b1, c1⟩ := day_step (y - 1)
  obtain ⟨n2, m2, a2, b2, c2⟩ := day_step y
  obtain ⟨n3, m3, a3, b3, c3⟩ := day_step (y + 1)
  rw [show y - 1 + 1 = y by omega] at a1 b1
  have e := yearLen_yd y n1 n2 n3 (day0 (molads y)) rfl a1 a2 (by rw [a3, a2])
  have r0 := fr_range (molads (y - 1))
  have r1 := fr_range (molads y)
  have r2 := fr_range (molads (y + 1))
  have r3 := fr_range (molads (y + 1 + 1))
  have k := all_ok _ (seven (day0 (molads y))) n1 m1 n2 m2 n3 m3
  have l1 : ¬ (360 ≤ n1 ∧ 360 ≤ n2) := fun ⟨p, q⟩ => by
    have := leap_not _ (c1.mpr p)
    rw [show y - 1 + 1 = y by omega, c2.mpr q] at this
    cases this
  have l2 : ¬ (360 ≤ n2 ∧ 360 ≤ n3) := fun ⟨p, q⟩ => by
    have := leap_not _ (c2.mpr p)
    rw [c3.mpr q] at this
    cases this
  have k' := k (by
    simp only [fits, Bool.and_eq_true, Bool.not_eq_true', Bool.and_eq_false_iff, decide_eq_true_eq, decide_eq_false_iff_not]
    omega)
  rw [← e] at k'
  refine ⟨fun h => ?_, fun h => ?_⟩
  · rw [if_pos (c2.mp h)] at k'; exact k'
  · rw [if_neg (fun q => by rw [c2.mpr q] at h; cases h)] at k'; exact k'

/-! ## The first day of a year; sums over months -/

theorem molads_range (y : Int) : 19 * molads y ≤ 235 * y - 234 ∧ 235 * y - 252 ≤ 19 * molads y := by rw [molads_e]; omega
theorem day0_range (m : Int) : 25920 * day0 m ≤ 12084 + 765433 * m ∧ 12084 + 765433 * m < 25920 * day0 m + 25920 := by rw [day0_e]; omega
theorem delay1_range (y : Int) : day0 (molads y) ≤ delay1 y ∧ delay1 y ≤ day0 (molads y) + 1 := by
  unfold delay1; rw [bump_e]; have := beta_two (day0 (molads y) % 7); omega
theorem delay2_range (y : Int) : 0 ≤ delay2 y ∧ delay2 y ≤ 2 := by
  unfold delay2; split
  · omega
  · split <;> omega
theorem midnight_pos {x : Int} (h : 0 < x) : midnight x = x := by unfold midnight; rw [if_pos h]
theorem midnight_le (x : Int) : midnight x ≤ x + 1 := by unfold midnight; split <;> omega
theorem delay1_nonneg {y : Int} (h : 1 ≤ y) : 0 ≤ delay1 y := by
  have a := molads_range y
  have b := day0_range (molads y)
  have c := delay1_range y
  have d : 0 ≤ molads y := by omega
  omega
theorem newYear_e {y : Int} (h : 1 ≤ y) : newYear y = 347998 + delay1 y + delay2 y := by
  have a := delay1_nonneg h
  have b := delay2_range y
  unfold newYear
  rw [midnight_pos (by omega)]
  omega
theorem newYear_le (y : Int) : newYear y ≤ 348002 + day0 (molads y) := by
  have b := delay2_range y
  have c := delay1_range y
  unfold newYear
  have := midnight_le (347996 + delay1 y + delay2 y + 1 + 1)
  omega
theorem newYear_step {y : Int} (h : 1 ≤ y) : newYear (y + 1) = newYear y + yearLen y := by
  rw [newYear_e h, newYear_e (by omega : 1 ≤ y + 1)]; unfold yearLen; omega
theorem yearDays_e {y : Int} (h : 1 ≤ y) : yearDays y = yearLen y := by
  unfold yearDays; rw [newYear_step h]; omega
theorem yearDays_ok {y : Int} (h : 1 ≤ y) : (leap y = true → yearDays y = 383 ∨ yearDays y = 384 ∨ yearDays y = 385) ∧ (leap y = false → yearDays y = 353 ∨ yearDays y = 354 ∨ yearDays y = 355) := by
  rw [yearDays_e h]; exact yearLen_ok y
theorem newYear_lt {y : Int} (h : 1 ≤ y) : newYear y < newYear (y + 1) := by
  have a := yearDays_ok h
  have b := newYear_step h
  rw [← yearDays_e h] at b
  cases l : leap y with
  | true => have := a.1 l; omega
  | false => have := a.2 l; omega
theorem newYear_mono {y : Int} (h : 1 ≤ y) : ∀ n : Nat, newYear y ≤ newYear (y + n)
  | 0 => by simp
  | n + 1 => by
    have a := newYear_mono h n
    have b := newYear_lt (y := y + n) (by omega)
    rw [show y + ((n + 1 : Nat) : Int) = y + n + 1 by omega]
    omega
theorem newYear_le_of {y z : Int} (h : 1 ≤ y) (hz : y ≤ z) : newYear y ≤ newYear z := by
  have := newYear_mono h (z - y).toNat
  rwa [show y + ((z - y).toNat : Int) = z by omega] at this
theorem newYear_ge {i : Int} (h : 1 ≤ i) : i ≤ newYear i := by
  have a := molads_range i
  have b := day0_range (molads i)
  have c := delay1_range i
  have d := delay2_range i
  rw [newYear_e h]
  omega
theorem newYear_one : newYear 1 ≤ 348002 := by
  have a := molads_range 1
  have b := day0_range (molads 1)
  have c := newYear_le 1
  omega
theorem first_guess {jd : Int} (h : 348400 ≤ jd) : 1 ≤ ((jd - 347996) * 98496).fdiv 35975351 ∧ newYear (((jd - 347996) * 98496).fdiv 35975351 - 1) ≤ jd := by
  rw [Int.fdiv_eq_ediv_of_nonneg _ (by decide)]
  have e : 35975351 * (((jd - 347996) * 98496) / 35975351) ≤ (jd - 347996) * 98496 := by omega
  have e1 : 1 ≤ ((jd - 347996) * 98496) / 35975351 := by omega
  generalize ((jd - 347996) * 98496) / 35975351 = c at *
  refine ⟨e1, ?_⟩
  have a := molads_range (c - 1)
  have b := day0_range (molads (c - 1))
  have d := newYear_le (c - 1)
  omega

/-! months -/
theorem ml_range (y m : Int) : 29 ≤ monthLength y m ∧ monthLength y m ≤ 30 := by
  unfold monthLength
  split
  · omega
  · split
    · omega
    · split
      · omega
      · split <;> omega
theorem yM_leap {y : Int} (h : leap y = true) : yearMonths y = 13 := by unfold yearMonths; rw [if_pos h]
theorem yM_common {y : Int} (h : leap y = false) : yearMonths y = 12 := by unfold yearMonths; rw [if_neg (by rw [h]; decide)]

def s7 (y : Int) (n : Nat) : Int := mlSum y (rangeKs 7 n)
def s1 (y : Int) (n : Nat) : Int := mlSum y (rangeKs 1 n)
theorem rangeKs_succ (a : Int) (n : Nat) : rangeKs a (n + 1) = rangeKs a n ++ [a + n] := by
  simp [rangeKs, List.range_succ]
theorem s7_zero (y : Int) : s7 y 0 = 0 := rfl
theorem s1_zero (y : Int) : s1 y 0 = 0 := rfl
theorem s7_succ (y : Int) (n : Nat) : s7 y (n + 1) = s7 y n + monthLength y (7 + n) := by
  unfold s7; rw [rangeKs_succ, mlSum_snoc]
theorem s1_succ (y : Int) (n : Nat) : s1 y (n + 1) = s1 y n + monthLength y (1 + n) := by
  unfold s1; rw [rangeKs_succ, mlSum_snoc]
theorem s7_mono (y : Int) (n : Nat) : ∀ k : Nat, s7 y n ≤ s7 y (n + k)
  | 0 => Int.le_refl _
  | k + 1 => by
    have a := s7_mono y n k
    have b := ml_range y (7 + ((n + k : Nat) : Int))
    rw [show n + (k + 1) = (n + k) + 1 by omega, s7_succ]
    omega
theorem s1_mono (y : Int) (n : Nat) : ∀ k : Nat, s1 y n ≤ s1 y (n + k)
  | 0 => Int.le_refl _
  | k + 1 => by
    have a := s1_mono y n k
    have b := ml_range y (1 + ((n + k : Nat) : Int))
    rw [show n + (k + 1) = (n + k) + 1 by omega, s1_succ]
    omega
theorem s7_le (y : Int) {n k : Nat} (h : n ≤ k) : s7 y n ≤ s7 y k := by
  have := s7_mono y n (k - n)
  rwa [show n + (k - n) = k by omega] at this
theorem s1_le (y : Int) {n k : Nat} (h : n ≤ k) : s1 y n ≤ s1 y k := by
  have := s1_mono y n (k - n)
  rwa [show n + (k - n) = k by omega] at this
def off (y m : Int) : Int := if m < 7 then s7 y (yearMonths y + 1 - 7).toNat + s1 y (m - 1).toNat else s7 y (m - 7).toNat
theorem off_nonneg (y m : Int) : 0 ≤ off y m := by
  have a := s7_le y (Nat.zero_le (yearMonths y + 1 - 7).toNat)
  have b := s1_le y (Nat.zero_le (m - 1).toNat)
  have c := s7_le y (Nat.zero_le (m - 7).toNat)
  rw [s7_zero] at a c
  rw [s1_zero] at b
  unfold off
  split <;> omega
theorem toJd_e {y m d : Int} (hy : 1 ≤ y) (hd : 1 ≤ d) : toJd y m d = newYear y + off y m + d - 1 := by
  have a := delay1_nonneg hy
  have b := delay2_range y
  have c := off_nonneg y m
  have e : toJd y m d = midnight (347996 + delay1 y + delay2 y + d + 1 + off y m) := by unfold toJd off s7 s1; rfl
  rw [e, newYear_e hy, midnight_pos (by omega)]
  omega

/-! ## Dates; the loops' words -/

theorem ml_29 (y : Int) : monthLength y 2 = 29 ∧ monthLength y 4 = 29 ∧ monthLength y 6 = 29 ∧ monthLength y 10 = 29 ∧ monthLength y 13 = 29 := by
  unfold monthLength; simp
theorem ml_30 (y : Int) : monthLength y 1 = 30 ∧ monthLength y 3 = 30 ∧ monthLength y 5 = 30 ∧ monthLength y 7 = 30 ∧ monthLength y 11 = 30 := by
  unfold monthLength; simp
theorem ml_12t {y : Int} (h : leap y = true) : monthLength y 12 = 30 := by unfold monthLength; simp [h]
theorem ml_12f {y : Int} (h : leap y = false) : monthLength y 12 = 29 := by unfold monthLength; simp [h]
theorem ml_8 (y : Int) : (yearDays y % 10 = 5 → monthLength y 8 = 30) ∧ (yearDays y % 10 ≠ 5 → monthLength y 8 = 29) := by
  unfold monthLength
  rw [Int.fmod_eq_emod_of_nonneg _ (by decide)]
  constructor <;> intro h <;> simp [h]
theorem ml_9 (y : Int) : (yearDays y % 10 = 3 → monthLength y 9 = 29) ∧ (yearDays y % 10 ≠ 3 → monthLength y 9 = 30) := by
  unfold monthLength
  rw [Int.fmod_eq_emod_of_nonneg _ (by decide)]
  constructor <;> intro h <;> simp [h]
theorem s1_six (y : Int) : s1 y 6 = 177 := by
  have a := ml_29 y
  have b := ml_30 y
  have e0 := s1_zero y
  have e1 := s1_succ y 0
  have e2 := s1_succ y 1
  have e3 := s1_succ y 2
  have e4 := s1_succ y 3
  have e5 := s1_succ y 4
  have e6 := s1_succ y 5
  simp only [Int.add_zero, Nat.zero_add, Nat.reduceAdd, Int.reduceAdd, Int.cast_ofNat_Int] at e1 e2 e3 e4 e5 e6
  omega
theorem s7_six (y : Int) : s7 y 6 = 89 + monthLength y 8 + monthLength y 9 + monthLength y 12 := by
  have a := ml_29 y
  have b := ml_30 y
  have e0 := s7_zero y
  have e1 := s7_succ y 0
  have e2 := s7_succ y 1
  have e3 := s7_succ y 2
  have e4 := s7_succ y 3
  have e5 := s7_succ y 4
  have e6 := s7_succ y 5
  simp only [Int.add_zero, Nat.zero_add, Nat.reduceAdd, Int.reduceAdd, Int.cast_ofNat_Int] at e1 e2 e3 e4 e5 e6
  omega
theorem s7_seven (y : Int) : s7 y 7 = s7 y 6 + 29 := by
  have a := ml_29 y
  have e := s7_succ y 6
  simp only [Nat.reduceAdd, Int.reduceAdd, Int.cast_ofNat_Int] at e
  omega
/-- the months make the year -/
theorem total {y : Int} (h : 1 ≤ y) : s7 y (yearMonths y + 1 - 7).toNat + s1 y 6 = yearDays y := by
  have a := yearDays_ok h
  have b := ml_8 y
  have c := ml_9 y
  have d := s7_six y
  have e := s7_seven y
  rw [s1_six]
  cases l : leap y with
  | true =>
    have k := a.1 l
    have f := ml_12t l
    rw [yM_leap l, show ((13 : Int) + 1 - 7).toNat = 7 by decide]
    omega
  | false =>
    have k := a.2 l
    have f := ml_12f l
    rw [yM_common l, show ((12 : Int) + 1 - 7).toNat = 6 by decide]
    omega
theorem off_hi {y m : Int} (h : 7 ≤ m) : off y m = s7 y (m - 7).toNat := by unfold off; rw [if_neg (by omega)]
theorem off_lo {y m : Int} (h : m < 7) : off y m = s7 y (yearMonths y + 1 - 7).toNat + s1 y (m - 1).toNat := by unfold off; rw [if_pos h]
theorem off_hi' {y m : Int} (h : 7 ≤ m) : off y m + monthLength y m = s7 y ((m - 7).toNat + 1) := by
  rw [off_hi h, s7_succ, show (7 : Int) + ((m - 7).toNat : Int) = m by omega]
theorem off_lo' {y m : Int} (h0 : 1 ≤ m) (h : m < 7) : off y m + monthLength y m = s7 y (yearMonths y + 1 - 7).toNat + s1 y ((m - 1).toNat + 1) := by
  rw [off_lo h, s1_succ, show (1 : Int) + ((m - 1).toNat : Int) = m by omega]; omega
theorem off_seven (y : Int) : off y 7 = 0 := by rw [off_hi (by decide)]; exact s7_zero y
theorem off_next_hi {y m : Int} (h : 7 ≤ m) : off y (m + 1) = off y m + monthLength y m := by
  rw [off_hi' h, off_hi (by omega), show (m + 1 - 7).toNat = (m - 7).toNat + 1 by omega]
theorem off_next_lo {y m : Int} (h0 : 1 ≤ m) (h : m < 6) : off y (m + 1) = off y m + monthLength y m := by
  rw [off_lo' h0 (by omega), off_lo (by omega), show (m + 1 - 1).toNat = (m - 1).toNat + 1 by omega]
theorem yM_two (y : Int) : (leap y = false ∧ yearMonths y = 12) ∨ (leap y = true ∧ yearMonths y = 13) := by
  cases l : leap y with
  | true => exact .inr ⟨rfl, yM_leap l⟩
  | false => exact .inl ⟨rfl, yM_common l⟩
theorem off_one (y : Int) : off y 1 = off y (yearMonths y) + monthLength y (yearMonths y) := by
  have h := yM_two y
  rw [off_hi' (by omega), off_lo (by decide), show ((1 : Int) - 1).toNat = 0 by decide, s1_zero, show (yearMonths y + 1 - 7).toNat = (yearMonths y - 7).toNat + 1 by omega]
  omega
theorem off_end {y : Int} (h : 1 ≤ y) : off y 6 + monthLength y 6 = yearDays y := by
  rw [off_lo' (by decide) (by decide), ← total h]; rfl

theorem off_le_one {y m : Int} (h : 7 ≤ m ∧ m ≤ yearMonths y) : off y m + monthLength y m ≤ off y 1 := by
  rw [off_hi' h.1, off_lo (by decide), show ((1 : Int) - 1).toNat = 0 by decide, s1_zero]
  have := s7_le y (show (m - 7).toNat + 1 ≤ (yearMonths y + 1 - 7).toNat by omega)
  omega
theorem off_one_le {y m : Int} (h : m < 7) : off y 1 ≤ off y m := by
  rw [off_lo h, off_lo (by decide), show ((1 : Int) - 1).toNat = 0 by decide, s1_zero]
  have := s1_le y (Nat.zero_le (m - 1).toNat)
  rw [s1_zero] at this
  omega
theorem off_lt_hi {y m k : Int} (h : 7 ≤ m) (hk : m < k) : off y m + monthLength y m ≤ off y k := by
  rw [off_hi' h, off_hi (by omega)]
  exact s7_le y (by omega)
theorem off_lt_lo {y m k : Int} (h : 1 ≤ m) (hk : m < k) (h6 : k < 7) : off y m + monthLength y m ≤ off y k := by
  rw [off_lo' h (by omega), off_lo h6]
  have := s1_le y (show (m - 1).toNat + 1 ≤ (k - 1).toNat by omega)
  omega
def IsMonth (y m : Int) : Prop := (7 ≤ m ∧ m ≤ yearMonths y) ∨ (1 ≤ m ∧ m ≤ 6)
theorem apart {y m k : Int} (hm : IsMonth y m) (hk : IsMonth y k) (ne : m ≠ k) : off y m + monthLength y m ≤ off y k ∨ off y k + monthLength y k ≤ off y m := by
  rcases hm with hm | hm <;> rcases hk with hk | hk
  · by_cases c : m < k
    · exact .inl (off_lt_hi hm.1 c)
    · exact .inr (off_lt_hi hk.1 (by omega))
  · exact .inl (Int.le_trans (off_le_one hm) (off_one_le (by omega)))
  · exact .inr (Int.le_trans (off_le_one hk) (off_one_le (by omega)))
  · by_cases c : m < k
    · exact .inl (off_lt_lo hm.1 c (by omega))
    · exact .inr (off_lt_lo hk.1 (by omega) (by omega))
theorem off_within {y m : Int} (hy : 1 ≤ y) (hm : IsMonth y m) : off y m + monthLength y m ≤ yearDays y := by
  have e := off_end hy
  have f := ml_range y 6
  by_cases c : m = 6
  · rw [c, e]; exact Int.le_refl _
  · rcases hm with hm | hm
    · have a := off_le_one hm
      have b := off_one_le (y := y) (m := 6) (by decide)
      omega
    · have a := off_lt_lo (y := y) (k := 6) hm.1 (by omega) (by decide)
      omega

structure IsDate (jd y m d : Int) : Prop where
  y1 : 1 ≤ y
  mo : IsMonth y m
  d1 : 1 ≤ d
  dl : d ≤ monthLength y m
  jd : toJd y m d = jd
theorem date_mo {T y m d : Int} (h : IsDate T y m d) : 1 ≤ m ∧ m ≤ 13 := by
  have a := yM_two y
  rcases h.mo with b | b <;> omega
theorem date_jd {T y m d : Int} (h : IsDate T y m d) : newYear y + off y m + d - 1 = T := by
  rw [← toJd_e h.y1 h.d1]; exact h.jd
theorem newYear_days {y : Int} (h : 1 ≤ y) : newYear (y + 1) = newYear y + yearDays y := by rw [newYear_step h, yearDays_e h]
theorem date_year {T y m d : Int} (h : IsDate T y m d) : newYear y ≤ T ∧ T < newYear (y + 1) := by
  have a := date_jd h
  have b := off_nonneg y m
  have c := off_within h.y1 h.mo
  have d1 := h.d1
  have d2 := h.dl
  rw [newYear_days h.y1]
  omega
theorem date_one {T y m d y' m' d' : Int} (h : IsDate T y m d) (h' : IsDate T y' m' d') : y = y' ∧ m = m' ∧ d = d' := by
  have ey : y = y' := by
    have a := date_year h
    have b := date_year h'
    by_cases c : y < y'
    · have := newYear_le_of (y := y + 1) (z := y') (by have := h.y1; omega) (by omega)
      omega
    · by_cases c' : y' < y
      · have := newYear_le_of (y := y' + 1) (z := y) (by have := h'.y1; omega) (by omega)
        omega
      · omega
  subst ey
  have a := date_jd h
  have b := date_jd h'
  have em : m = m' := by
    by_cases c : m = m'
    · exact c
    · have := apart h.mo h'.mo c
      have := h.d1; have := h.dl; have := h'.d1; have := h'.dl
      omega
  subst em
  exact ⟨rfl, rfl, by omega⟩

structure W1 (jd i year : Int) : Prop where
  yi : year = i - 1
  i1 : 1 ≤ i
  le : newYear (i - 1) ≤ jd
structure W2 (jd y i month : Int) : Prop where
  mi : month = i
  y1 : 1 ≤ y
  le : toJd y i 1 ≤ jd
  lo : newYear y ≤ jd
  hi : jd < newYear (y + 1)
  mo : (7 ≤ i ∧ i ≤ yearMonths y ∧ jd < toJd y 1 1) ∨ (1 ≤ i ∧ i ≤ 6)
theorem w1_start {jd : Int} (h : 348400 ≤ jd) : W1 jd (((jd - 347996) * 98496).fdiv 35975351) (((jd - 347996) * 98496).fdiv 35975351 - 1) :=
  ⟨rfl, (first_guess h).1, (first_guess h).2⟩
theorem w1_turn {jd i year : Int} (h : W1 jd i year) (h1 : newYear i ≤ jd) : W1 jd (i + 1) (year + 1) :=
  ⟨by have := h.yi; omega, by have := h.i1; omega, by rw [show i + 1 - 1 = i by omega]; exact h1⟩
theorem w1_meas {jd i year : Int} (h : W1 jd i year) (h1 : newYear i ≤ jd) : (jd + 1 - (i + 1)).toNat < (jd + 1 - i).toNat := by
  have := newYear_ge h.i1
  omega
theorem w1_year {jd i year : Int} (h0 : 348400 ≤ jd) (h : W1 jd i year) (h1 : jd < newYear i) : 1 ≤ year ∧ newYear year ≤ jd ∧ jd < newYear (year + 1) := by
  have e := h.yi
  have a := h.i1
  have b := newYear_one
  have c : i ≠ 1 := fun q => by rw [q] at h1; omega
  refine ⟨by omega, ?_, ?_⟩
  · rw [e]; exact h.le
  · rw [show year + 1 = i by omega]; exact h1
theorem w2_hi {jd i year : Int} (h0 : 348400 ≤ jd) (h : W1 jd i year) (h1 : jd < newYear i) (h2 : jd < toJd year 1 1) : W2 jd year 7 7 ∧ (1 : Int) ≤ 7 ∧ (7 : Int) ≤ 13 ∧ (7 : Int) = 7 := by
  obtain ⟨a, b, c⟩ := w1_year h0 h h1
  have d := yM_two year
  refine ⟨⟨rfl, a, ?_, b, c, .inl ⟨by omega, by omega, h2⟩⟩, by decide, by decide, rfl⟩
  rw [toJd_e a (by decide), off_seven]; omega
theorem w2_lo {jd i year : Int} (h0 : 348400 ≤ jd) (h : W1 jd i year) (h1 : jd < newYear i) (h2 : toJd year 1 1 ≤ jd) : W2 jd year 1 1 ∧ (1 : Int) ≤ 1 ∧ (1 : Int) ≤ 13 ∧ (1 : Int) = 1 := by
  obtain ⟨a, b, c⟩ := w1_year h0 h h1
  exact ⟨⟨rfl, a, h2, b, c, .inr ⟨by omega, by omega⟩⟩, by decide, by decide, rfl⟩
theorem w2_turn {jd y i month : Int} (h : W2 jd y i month) (h1 : toJd y i (monthLength y i) < jd) : W2 jd y (i + 1) (month + 1) ∧ 1 ≤ i + 1 ∧ i + 1 ≤ 13 ∧ month + 1 = i + 1 := by
  have y1 := h.y1
  have m1 := ml_range y i
  have mi := h.mi
  have t := yM_two y
  rw [toJd_e y1 (by omega)] at h1
  rcases h.mo with ⟨a, b, c⟩ | ⟨a, b⟩
  · have ne : i ≠ yearMonths y := fun q => by
      have e := off_one y
      rw [← q] at e
      rw [toJd_e y1 (by decide), e] at c
      omega
    refine ⟨⟨by omega, y1, ?_, h.lo, h.hi, .inl ⟨by omega, by omega, c⟩⟩, by omega, by omega, by omega⟩
    rw [toJd_e y1 (by decide), off_next_hi a]; omega
  · have ne : i ≠ 6 := fun q => by
      have e := off_end y1
      have f := newYear_days y1
      have g := h.hi
      subst q
      omega
    refine ⟨⟨by omega, y1, ?_, h.lo, h.hi, .inr ⟨by omega, by omega⟩⟩, by omega, by omega, by omega⟩
    rw [toJd_e y1 (by decide), off_next_lo a (by omega)]; omega
theorem w2_end {jd y i month : Int} (h : W2 jd y i month) (h1 : jd ≤ toJd y i (monthLength y i)) : IsDate jd y month (jd - toJd y month 1 + 1) := by
  have y1 := h.y1
  have m1 := ml_range y i
  have mi := h.mi
  subst mi
  have le := h.le
  rw [toJd_e y1 (by omega)] at h1
  rw [toJd_e y1 (by decide)] at le
  have e := toJd_e (m := month) y1 (show (1 : Int) ≤ 1 by decide)
  refine ⟨y1, ?_, by omega, by omega, ?_⟩
  · rcases h.mo with ⟨a, b, _⟩ | ⟨a, b⟩
    · exact .inl ⟨a, b⟩
    · exact .inr ⟨a, b⟩
  · rw [toJd_e y1 (by omega), e]; omega

theorem from_ok (a : Int) : 348400 ≤ 348400 + if a < 0 then -a else a := by split <;> omega
theorem from_ok2 (a x : Int) : 348400 ≤ (348400 + if a < 0 then -a else a) + x.fmod 90 := by
  have := Int.emod_nonneg x (b := 90) (by decide)
  rw [Int.fmod_eq_emod_of_nonneg _ (by decide)]
  split <;> omega
theorem from_ok3 (a : Int) : 348400 ≤ (348400 + if a < 0 then -a else a) + 1 := by split <;> omega
theorem fmod90 (x : Int) : 0 ≤ x.fmod 90 := by
  have := Int.emod_nonneg x (b := 90) (by decide)
  rw [Int.fmod_eq_emod_of_nonneg _ (by decide)]
  exact this
structure W3 (T y m d left rest : Int) : Prop where
  y1 : 1 ≤ y
  mo : IsMonth y m
  d1 : 1 ≤ d
  l0 : 0 ≤ left
  re : rest = monthLength y m - d
  r0 : 0 ≤ rest
  jd : toJd y m d + left = T
theorem w3_jd {T y m d left rest : Int} (h : W3 T y m d left rest) : newYear y + off y m + d - 1 + left = T := by
  rw [← toJd_e h.y1 h.d1]; exact h.jd
theorem w3_start {n k y m d : Int} (h : IsDate n y m d) (h0 : 0 ≤ k) : W3 (n + k) y m d k (monthLength y m - d) ∧ 1 ≤ m ∧ m ≤ 13 :=
  ⟨⟨h.y1, h.mo, h.d1, h0, rfl, by have := h.dl; omega, by rw [h.jd]⟩, date_mo h⟩
theorem w3_a {T y m d left rest : Int} (h : W3 T y m d left rest) (h0 : rest < left) (h1 : m = 6) : W3 T (y + 1) 7 1 (left - (rest + 1)) (monthLength (y + 1) 7 - 1) ∧ (1 : Int) ≤ 7 ∧ (7 : Int) ≤ 13 := by
  have a := w3_jd h
  have b := h.re
  have c := ml_range (y + 1) 7
  have y1 := h.y1
  have t := yM_two (y + 1)
  subst h1
  have e := off_end y1
  have f := newYear_days y1
  refine ⟨⟨by omega, .inl ⟨by omega, by omega⟩, by omega, by omega, rfl, by omega, ?_⟩, by decide, by decide⟩
  rw [toJd_e (by omega) (by decide), off_seven]
  omega
theorem w3_b {T y m d left rest : Int} (h : W3 T y m d left rest) (h0 : rest < left) (h1 : m = 13 ∨ (m = 12 ∧ leap y = false)) : W3 T y 1 1 (left - (rest + 1)) (monthLength y 1 - 1) ∧ (1 : Int) ≤ 1 ∧ (1 : Int) ≤ 13 := by
  have a := w3_jd h
  have b := h.re
  have c := ml_range y 1
  have y1 := h.y1
  have e := off_one y
  have q : m = yearMonths y := by
    rcases h1 with h1 | ⟨h1, h2⟩
    · have t := yM_two y
      rcases h.mo with k | k <;> omega
    · rw [h1, yM_common h2]
  rw [← q] at e
  refine ⟨⟨y1, .inr ⟨by omega, by omega⟩, by omega, by omega, rfl, by omega, ?_⟩, by decide, by decide⟩
  rw [toJd_e y1 (by decide), e]
  omega
theorem w3_c {T y m d left rest : Int} (h : W3 T y m d left rest) (h0 : rest < left) (h1 : ¬ m = 6) (h2 : ¬ m = 13) (h3 : ¬ (m = 12 ∧ leap y = false)) : W3 T y (m + 1) 1 (left - (rest + 1)) (monthLength y (m + 1) - 1) ∧ 1 ≤ m + 1 ∧ m + 1 ≤ 13 := by
  have a := w3_jd h
  have b := h.re
  have c := ml_range y (m + 1)
  have y1 := h.y1
  rcases h.mo with k | k
  · have q : m < yearMonths y := by
      rcases yM_two y with ⟨l, t⟩ | ⟨l, t⟩
      · have : ¬ m = 12 := fun z => h3 ⟨z, l⟩
        omega
      · omega
    have t := yM_two y
    refine ⟨⟨y1, .inl ⟨by omega, by omega⟩, by omega, by omega, rfl, by omega, ?_⟩, by omega, by omega⟩
    rw [toJd_e y1 (by decide), off_next_hi k.1]
    omega
  · refine ⟨⟨y1, .inr ⟨by omega, by omega⟩, by omega, by omega, rfl, by omega, ?_⟩, by omega, by omega⟩
    rw [toJd_e y1 (by decide), off_next_lo k.1 (by omega)]
    omega
theorem w3_meas {T y m d left rest : Int} (h : W3 T y m d left rest) (h0 : rest < left) : (left - (rest + 1)).toNat < left.toNat := by
  have := h.r0; have := h.l0
  omega
theorem w3_end {T y m d left rest : Int} (h : W3 T y m d left rest) (h0 : left ≤ rest) : IsDate T y m (d + left) := by
  have a := w3_jd h
  have b := h.re
  have c := h.d1
  have e := h.l0
  refine ⟨h.y1, h.mo, by omega, by omega, ?_⟩
  rw [toJd_e h.y1 (by omega)]
  omega
theorem w3_b1 {T y m d left rest : Int} (h : W3 T y m d left rest) (h0 : rest < left) (h1 : m = 13) : W3 T y 1 1 (left - (rest + 1)) (monthLength y 1 - 1) ∧ (1 : Int) ≤ 1 ∧ (1 : Int) ≤ 13 := w3_b h h0 (.inl h1)
theorem w3_b2 {T y m d left rest : Int} (h : W3 T y m d left rest) (h0 : rest < left) (h1 : m = 12) (h2 : leap y = false) : W3 T y 1 1 (left - (rest + 1)) (monthLength y 1 - 1) ∧ (1 : Int) ≤ 1 ∧ (1 : Int) ≤ 13 := w3_b h h0 (.inr ⟨h1, h2⟩)
theorem w3_c1 {T y m d left rest : Int} (h : W3 T y m d left rest) (h0 : rest < left) (h1 : ¬ m = 6) (h2 : ¬ m = 13) (h3 : ¬ m = 12) : W3 T y (m + 1) 1 (left - (rest + 1)) (monthLength y (m + 1) - 1) ∧ 1 ≤ m + 1 ∧ m + 1 ≤ 13 := w3_c h h0 h1 h2 fun e => h3 e.1
theorem w3_c2 {T y m d left rest : Int} (h : W3 T y m d left rest) (h0 : rest < left) (h1 : ¬ m = 6) (h2 : ¬ m = 13) (h3 : leap y = true) : W3 T y (m + 1) 1 (left - (rest + 1)) (monthLength y (m + 1) - 1) ∧ 1 ≤ m + 1 ∧ m + 1 ≤ 13 := w3_c h h0 h1 h2 fun e => by rw [h3] at e; exact Bool.noConfusion e.2
theorem w3_eq {T y m d left rest : Int} (h : W3 T y m d left rest) : (toJd y m (d + left) == T) = true := by
  have a := w3_jd h
  have c := h.d1
  have e := h.l0
  rw [beq_iff_eq, toJd_e h.y1 (by omega)]
  omega
theorem end_no {T y m d left rest y' m' d' : Int} (h : W3 T y m d left rest) (h0 : ¬ rest < left) (h' : IsDate T y' m' d') (e : (y' == y && (m' == m && d' == d + left)) = false) : False := by
  obtain ⟨rfl, rfl, rfl⟩ := date_one h' (w3_end h (by omega))
  simp at e

/-! ## The walk: a contract for each def -/

/-- what a call of the def at f gives, where lvl frames have room -/
def Tells (f : Addr) (vs : List Value) (lvl : Nat) (pre : Prop) (R : Tok → Value) : Prop :=
  ∀ (w : World) (mean : ExcName → Option Value) (mg mb : Str → Option Value) (news : List (Addr × Obj))
    (dp un : Nat) (gd : Option (List Code)) (cn : Str) (cs : Scope) (a : Addr) (ccd : Value) (cl : List (Str × Addr)) (outer : List Env) (A₀ : Around) (base h₀ : Heap) (L : Addr) (m : Str → Option Value) (s : Shared) (Q E : Value → Shared → Prop),
    Below A₀ base outer h₀ → Fr h₀ L s.heap m → (hd.heap_39 w.params).In h₀ → News h₀ L s.heap news → Top hd.view_39 (looseW hd.view_39 []) mean mg mb h₀ → cs.kind = .function →
    pre → dp + lvl < recursionLimit → un + 8 * lvl < cLine →
    (∀ (t : Tok) (h' : Heap) (tk' : Nat), Fr h₀ L h' m → News h₀ L h' news → Q (R t) { s with heap := h', toks := tk' }) →
      wpAny (model PySem.Challenge.rw_bh0006_01.row.prog w) (ktrTop dp un gd cn cs L a ccd cl outer) (call (.ref f) vs) Q E s

theorem tells_use {f : Addr} {vs : List Value} {lvl : Nat} {pre : Prop} {R : Tok → Value} (C : Tells f vs lvl pre R)
    {w : World} {mean : ExcName → Option Value} {mg mb : Str → Option Value} {news : List (Addr × Obj)}
    {dp un : Nat} {gd : Option (List Code)} {cn : Str} {cs : Scope} {a : Addr} {ccd : Value} {cl : List (Str × Addr)} {outer : List Env} {A₀ : Around} {base h₀ : Heap} {L : Addr} {m : Str → Option Value} {s : Shared} {Q E : Value → Shared → Prop}
    (B : Below A₀ base outer h₀) (F : Fr h₀ L s.heap m) (X : (hd.heap_39 w.params).In h₀) (N : News h₀ L s.heap news) (T : Top hd.view_39 (looseW hd.view_39 []) mean mg mb h₀) (hk : cs.kind = .function)
    (hp : pre) (hd : dp + lvl < recursionLimit) (hu : un + 8 * lvl < cLine)
    (ret : ∀ (t : Tok) (h' : Heap) (tk' : Nat), Fr h₀ L h' m → News h₀ L h' news → Q (R t) { s with heap := h', toks := tk' }) :
      wpAny (model PySem.Challenge.rw_bh0006_01.row.prog w) (ktrTop dp un gd cn cs L a ccd cl outer) (call (.ref f) vs) Q E s :=
  C w mean mg mb news dp un gd cn cs a ccd cl outer A₀ base h₀ L m s Q E B F X N T hk hp hd hu ret

theorem tells_pre {f : Addr} {vs : List Value} {lvl : Nat} {pre : Prop} {R : Tok → Value} (C : pre → Tells f vs lvl True R) : Tells f vs lvl pre R :=
  fun w mean mg mb news dp un gd cn cs a ccd cl outer A₀ base h₀ L m s Q E B F X N T hk hp hd hu ret => C hp w mean mg mb news dp un gd cn cs a ccd cl outer A₀ base h₀ L m s Q E B F X N T hk trivial hd hu ret

local macro_rules | `(tactic| walk_at "call ref") => `(tactic| (k_here; tb_start))
local macro_rules | `(tactic| walk_at "execs cons") => `(tactic| ((with_reducible refine wpAny_execs_cons ?_); try dsimp only))
local macro_rules | `(tactic| walk_at "execs nil") => `(tactic| with_reducible refine wpAny_execs_nil ?_)
local macro_rules | `(tactic| walk_at "eval Call") => `(tactic| (k_here; (with_reducible show wpAny _ _ (eval (Expr.Call (Expr.Name _ _) _ [] _) _) _ _ _); k_dflt (refine PyProof.Rows.Call_ ?_)))

section
theorem t_leap (y : Int) (t : Tok) : Tells 28 [.int y t] 1 True (fun _ => .bool (leap y)) := by
  k_with_none
  k_with "tree" => simp only [leap]
  unfold Tells
  k_fill
  intros
  rename_i hret
  refine wpAny_call ?_
  k_dflt cell_enter
  k_steps
  all_goals cb_end hret

end

section
theorem t_midnight (y : Int) (t : Tok) : Tells 21 [.int y t] 1 True (fun t => .int (midnight y) t) := by
  k_with_none
  k_with "tree" => simp only [midnight]
  unfold Tells
  k_fill
  intros
  rename_i hret
  refine wpAny_call ?_
  k_dflt cell_enter
  k_steps
  all_goals cb_end hret

end

section
local macro_rules | `(tactic| tb_start) => `(tactic| ((with_reducible show wpAny _ _ (call (Value.ref 28) [Value.int _ _]) _ _ _); k_dflt (refine' tells_use (t_leap _ _) ?k1 ?k2 ?k3 ?k4 ?k5 ?kK ?kp ?kd ?ku ?kR; (case k1 => k_asm); (case k2 => k_asm); (case k3 => k_asm); (case k4 => k_asm); (case k5 => k_asm); (case kK => first | exact rfl | assumption); (case kp => first | trivial | ((try dsimp only); first | assumption | omega | l_fact)); (case kd => ktr_room); (case ku => ktr_units); intro t9 h9 tk9 F9 N9; (try dsimp only); (try k_fold))))

theorem t_year_months (y : Int) (t : Tok) : Tells 35 [.int y t] 2 True (fun t => .int (yearMonths y) t) := by
  k_with_none
  k_with "tree" => simp only [yearMonths]
  unfold Tells
  k_fill
  intros
  rename_i hret
  refine wpAny_call ?_
  k_dflt cell_enter
  k_steps
  all_goals cb_end hret

end

section
theorem t_delay_1 (y : Int) (t : Tok) : Tells 42 [.int y t] 1 True (fun t => .int (delay1 y) t) := by
  k_with_none
  k_with "tree" => simp only [delay1, bump, day0, molads]
  unfold Tells
  k_fill
  intros
  rename_i hret
  refine wpAny_call ?_
  k_dflt cell_enter
  k_steps
  all_goals cb_end hret

end

section
local macro_rules | `(tactic| tb_start) => `(tactic| ((with_reducible show wpAny _ _ (call (Value.ref 42) [Value.int _ _]) _ _ _); k_dflt (refine' tells_use (t_delay_1 _ _) ?k1 ?k2 ?k3 ?k4 ?k5 ?kK ?kp ?kd ?ku ?kR; (case k1 => k_asm); (case k2 => k_asm); (case k3 => k_asm); (case k4 => k_asm); (case k5 => k_asm); (case kK => first | exact rfl | assumption); (case kp => first | trivial | ((try dsimp only); first | assumption | omega | l_fact)); (case kd => ktr_room); (case ku => ktr_units); intro t9 h9 tk9 F9 N9; (try dsimp only); (try k_fold))))

theorem t_delay_2 (y : Int) (t : Tok) : Tells 49 [.int y t] 2 True (fun t => .int (delay2 y) t) := by
  k_with_none
  k_with "tree" => simp only [delay2]
  unfold Tells
  k_fill
  intros
  rename_i hret
  refine wpAny_call ?_
  k_dflt cell_enter
  k_steps
  all_goals cb_end hret

end

section
local macro_rules | `(tactic| tb_start) => `(tactic| ((with_reducible show wpAny _ _ (call (Value.ref 35) [Value.int _ _]) _ _ _); k_dflt (refine' tells_use (t_year_months _ _) ?k1 ?k2 ?k3 ?k4 ?k5 ?kK ?kp ?kd ?ku ?kR; (case k1 => k_asm); (case k2 => k_asm); (case k3 => k_asm); (case k4 => k_asm); (case k5 => k_asm); (case kK => first | exact rfl | assumption); (case kp => first | trivial | ((try dsimp only); first | assumption | omega | l_fact)); (case kd => ktr_room); (case ku => ktr_units); intro t9 h9 tk9 F9 N9; (try dsimp only); (try k_fold))))

local macro_rules | `(tactic| tb_start) => `(tactic| ((with_reducible show wpAny _ _ (call (Value.ref 42) [Value.int _ _]) _ _ _); k_dflt (refine' tells_use (t_delay_1 _ _) ?k1 ?k2 ?k3 ?k4 ?k5 ?kK ?kp ?kd ?ku ?kR; (case k1 => k_asm); (case k2 => k_asm); (case k3 => k_asm); (case k4 => k_asm); (case k5 => k_asm); (case kK => first | exact rfl | assumption); (case kp => first | trivial | ((try dsimp only); first | assumption | omega | l_fact)); (case kd => ktr_room); (case ku => ktr_units); intro t9 h9 tk9 F9 N9; (try dsimp only); (try k_fold))))

local macro_rules | `(tactic| tb_start) => `(tactic| ((with_reducible show wpAny _ _ (call (Value.ref 49) [Value.int _ _]) _ _ _); k_dflt (refine' tells_use (t_delay_2 _ _) ?k1 ?k2 ?k3 ?k4 ?k5 ?kK ?kp ?kd ?ku ?kR; (case k1 => k_asm); (case k2 => k_asm); (case k3 => k_asm); (case k4 => k_asm); (case k5 => k_asm); (case kK => first | exact rfl | assumption); (case kp => first | trivial | ((try dsimp only); first | assumption | omega | l_fact)); (case kd => ktr_room); (case ku => ktr_units); intro t9 h9 tk9 F9 N9; (try dsimp only); (try k_fold))))

local macro_rules | `(tactic| tb_start) => `(tactic| ((with_reducible show wpAny _ _ (call (Value.ref 21) [Value.int _ _]) _ _ _); k_dflt (refine' tells_use (t_midnight _ _) ?k1 ?k2 ?k3 ?k4 ?k5 ?kK ?kp ?kd ?ku ?kR; (case k1 => k_asm); (case k2 => k_asm); (case k3 => k_asm); (case k4 => k_asm); (case k5 => k_asm); (case kK => first | exact rfl | assumption); (case kp => first | trivial | ((try dsimp only); first | assumption | omega | l_fact)); (case kd => ktr_room); (case ku => ktr_units); intro t9 h9 tk9 F9 N9; (try dsimp only); (try k_fold))))

theorem t_new_year (y : Int) (t u v : Tok) : Tells 77 [.int y t, .int 7 u, .int 1 v] 3 True (fun t => .int (newYear y) t) := by
  k_with_none
  k_with "tree" => simp only [newYear]
  unfold Tells
  k_fill
  intros
  rename_i hret
  refine wpAny_call ?_
  k_dflt cell_enter
  k_steps
  all_goals cb_end hret

end

section
local macro_rules | `(tactic| tb_start) => `(tactic| ((with_reducible show wpAny _ _ (call (Value.ref 77) [Value.int _ _, Value.int 7 _, Value.int 1 _]) _ _ _); k_dflt (refine' tells_use (t_new_year _ _ _ _) ?k1 ?k2 ?k3 ?k4 ?k5 ?kK ?kp ?kd ?ku ?kR; (case k1 => k_asm); (case k2 => k_asm); (case k3 => k_asm); (case k4 => k_asm); (case k5 => k_asm); (case kK => first | exact rfl | assumption); (case kp => first | trivial | ((try dsimp only); first | assumption | omega | l_fact)); (case kd => ktr_room); (case ku => ktr_units); intro t9 h9 tk9 F9 N9; (try dsimp only); (try k_fold))))

theorem t_year_days (y : Int) (t : Tok) : Tells 56 [.int y t] 4 True (fun t => .int (yearDays y) t) := by
  k_with_none
  k_with "tree" => simp only [yearDays]
  unfold Tells
  k_fill
  intros
  rename_i hret
  refine wpAny_call ?_
  k_dflt cell_enter
  k_steps
  all_goals cb_end hret

end

section
local macro_rules | `(tactic| tb_start) => `(tactic| ((with_reducible show wpAny _ _ (call (Value.ref 28) [Value.int _ _]) _ _ _); k_dflt (refine' tells_use (t_leap _ _) ?k1 ?k2 ?k3 ?k4 ?k5 ?kK ?kp ?kd ?ku ?kR; (case k1 => k_asm); (case k2 => k_asm); (case k3 => k_asm); (case k4 => k_asm); (case k5 => k_asm); (case kK => first | exact rfl | assumption); (case kp => first | trivial | ((try dsimp only); first | assumption | omega | l_fact)); (case kd => ktr_room); (case ku => ktr_units); intro t9 h9 tk9 F9 N9; (try dsimp only); (try k_fold))))

local macro_rules | `(tactic| tb_start) => `(tactic| ((with_reducible show wpAny _ _ (call (Value.ref 56) [Value.int _ _]) _ _ _); k_dflt (refine' tells_use (t_year_days _ _) ?k1 ?k2 ?k3 ?k4 ?k5 ?kK ?kp ?kd ?ku ?kR; (case k1 => k_asm); (case k2 => k_asm); (case k3 => k_asm); (case k4 => k_asm); (case k5 => k_asm); (case kK => first | exact rfl | assumption); (case kp => first | trivial | ((try dsimp only); first | assumption | omega | l_fact)); (case kd => ktr_room); (case ku => ktr_units); intro t9 h9 tk9 F9 N9; (try dsimp only); (try k_fold))))

theorem t_month_length (y m : Int) (t u : Tok) : Tells 63 [.int y t, .int m u] 5 (m ≤ 13) (fun t => .int (monthLength y m) t) := by
  k_with_none
  k_with "tree" => simp only [monthLength]
  unfold Tells
  k_fill
  intros
  rename_i hret
  refine wpAny_call ?_
  k_dflt cell_enter
  k_steps
  all_goals cb_end hret

end

section
local macro_rules | `(tactic| tb_start) => `(tactic| ((with_reducible show wpAny _ _ (call (Value.ref 63) [Value.int _ _, Value.int _ _]) _ _ _); k_dflt (refine' tells_use (t_month_length _ _ _ _) ?k1 ?k2 ?k3 ?k4 ?k5 ?kK ?kp ?kd ?ku ?kR; (case k1 => k_asm); (case k2 => k_asm); (case k3 => k_asm); (case k4 => k_asm); (case k5 => k_asm); (case kK => first | exact rfl | assumption); (case kp => first | trivial | ((try dsimp only); first | assumption | omega | l_fact)); (case kd => ktr_room); (case ku => ktr_units); intro t9 h9 tk9 F9 N9; (try dsimp only); (try k_fold))))

theorem t_month_days (y m : Int) (t u : Tok) : Tells 70 [.int y t, .int m u] 6 (m ≤ 13) (fun t => .int (monthLength y m) t) := by
  k_with_none
  unfold Tells
  k_fill
  intros
  rename_i hret
  refine wpAny_call ?_
  k_dflt cell_enter
  k_steps
  all_goals cb_end hret

end

section
local macro_rules | `(tactic| tb_start) => `(tactic| ((with_reducible show wpAny _ _ (call (Value.ref 35) [Value.int _ _]) _ _ _); k_dflt (refine' tells_use (t_year_months _ _) ?k1 ?k2 ?k3 ?k4 ?k5 ?kK ?kp ?kd ?ku ?kR; (case k1 => k_asm); (case k2 => k_asm); (case k3 => k_asm); (case k4 => k_asm); (case k5 => k_asm); (case kK => first | exact rfl | assumption); (case kp => first | trivial | ((try dsimp only); first | assumption | omega | l_fact)); (case kd => ktr_room); (case ku => ktr_units); intro t9 h9 tk9 F9 N9; (try dsimp only); (try k_fold))))

local macro_rules | `(tactic| tb_start) => `(tactic| ((with_reducible show wpAny _ _ (call (Value.ref 42) [Value.int _ _]) _ _ _); k_dflt (refine' tells_use (t_delay_1 _ _) ?k1 ?k2 ?k3 ?k4 ?k5 ?kK ?kp ?kd ?ku ?kR; (case k1 => k_asm); (case k2 => k_asm); (case k3 => k_asm); (case k4 => k_asm); (case k5 => k_asm); (case kK => first | exact rfl | assumption); (case kp => first | trivial | ((try dsimp only); first | assumption | omega | l_fact)); (case kd => ktr_room); (case ku => ktr_units); intro t9 h9 tk9 F9 N9; (try dsimp only); (try k_fold))))

local macro_rules | `(tactic| tb_start) => `(tactic| ((with_reducible show wpAny _ _ (call (Value.ref 49) [Value.int _ _]) _ _ _); k_dflt (refine' tells_use (t_delay_2 _ _) ?k1 ?k2 ?k3 ?k4 ?k5 ?kK ?kp ?kd ?ku ?kR; (case k1 => k_asm); (case k2 => k_asm); (case k3 => k_asm); (case k4 => k_asm); (case k5 => k_asm); (case kK => first | exact rfl | assumption); (case kp => first | trivial | ((try dsimp only); first | assumption | omega | l_fact)); (case kd => ktr_room); (case ku => ktr_units); intro t9 h9 tk9 F9 N9; (try dsimp only); (try k_fold))))

local macro_rules | `(tactic| tb_start) => `(tactic| ((with_reducible show wpAny _ _ (call (Value.ref 21) [Value.int _ _]) _ _ _); k_dflt (refine' tells_use (t_midnight _ _) ?k1 ?k2 ?k3 ?k4 ?k5 ?kK ?kp ?kd ?ku ?kR; (case k1 => k_asm); (case k2 => k_asm); (case k3 => k_asm); (case k4 => k_asm); (case k5 => k_asm); (case kK => first | exact rfl | assumption); (case kp => first | trivial | ((try dsimp only); first | assumption | omega | l_fact)); (case kd => ktr_room); (case ku => ktr_units); intro t9 h9 tk9 F9 N9; (try dsimp only); (try k_fold))))

local macro_rules | `(tactic| tb_start) => `(tactic| ((with_reducible show wpAny _ _ (call (Value.ref 70) [Value.int _ _, Value.int _ _]) _ _ _); k_dflt (refine' tells_use (t_month_days _ _ _ _) ?k1 ?k2 ?k3 ?k4 ?k5 ?kK ?kp ?kd ?ku ?kR; (case k1 => k_asm); (case k2 => k_asm); (case k3 => k_asm); (case k4 => k_asm); (case k5 => k_asm); (case kK => first | exact rfl | assumption); (case kp => first | trivial | ((try dsimp only); first | assumption | omega | l_fact)); (case kd => ktr_room); (case ku => ktr_units); intro t9 h9 tk9 F9 N9; (try dsimp only); (try k_fold))))

theorem t_to_jd (y m d : Int) (t u v : Tok) : Tells 77 [.int y t, .int m u, .int d v] 7 (1 ≤ m ∧ m ≤ 13) (fun t => .int (toJd y m d) t) := by
  k_with_none
  have ymb := yearMonths_two y
  k_with "pyIter ref" => k_state_given ["year", "jd!"] (fun (year jd0 : Int) pre jd => jd = jd0 + mlSum year pre) "jd"
  k_with "state" => (simp only [mlSum_nil, mlSum_snoc] at *; omega)
  k_with "tree" => first | exact toJd_lo (by omega) (by omega) | exact toJd_hi (by omega) (by omega)
  unfold Tells
  k_fill
  intros
  rename_i hret
  refine wpAny_call ?_
  k_dflt cell_enter
  k_steps
  all_goals cb_end hret

end

section
local macro_rules | `(tactic| tb_start) => `(tactic| ((with_reducible show wpAny _ _ (call (Value.ref 70) [Value.int _ _, Value.int _ _]) _ _ _); k_dflt (refine' tells_use (t_month_days _ _ _ _) ?k1 ?k2 ?k3 ?k4 ?k5 ?kK ?kp ?kd ?ku ?kR; (case k1 => k_asm); (case k2 => k_asm); (case k3 => k_asm); (case k4 => k_asm); (case k5 => k_asm); (case kK => first | exact rfl | assumption); (case kp => first | trivial | ((try dsimp only); first | assumption | omega | l_fact)); (case kd => ktr_room); (case ku => ktr_units); intro t9 h9 tk9 F9 N9; (try dsimp only); (try k_fold))))

local macro_rules | `(tactic| tb_start) => `(tactic| ((with_reducible show wpAny _ _ (call (Value.ref 77) [Value.int _ _, Value.int _ _, Value.int _ _]) _ _ _); k_dflt (refine' tells_use (t_to_jd _ _ _ _ _ _) ?k1 ?k2 ?k3 ?k4 ?k5 ?kK ?kp ?kd ?ku ?kR; (case k1 => k_asm); (case k2 => k_asm); (case k3 => k_asm); (case k4 => k_asm); (case k5 => k_asm); (case kK => first | exact rfl | assumption); (case kp => first | trivial | ((try dsimp only); first | assumption | omega | l_fact)); (case kd => ktr_room); (case ku => ktr_units); intro t9 h9 tk9 F9 N9; (try dsimp only); (try k_fold))))

local macro_rules | `(tactic| tb_start) => `(tactic| ((with_reducible show wpAny _ _ (call (Value.ref 77) [Value.int _ _, Value.int 7 _, Value.int 1 _]) _ _ _); k_dflt (refine' tells_use (t_new_year _ _ _ _) ?k1 ?k2 ?k3 ?k4 ?k5 ?kK ?kp ?kd ?ku ?kR; (case k1 => k_asm); (case k2 => k_asm); (case k3 => k_asm); (case k4 => k_asm); (case k5 => k_asm); (case kK => first | exact rfl | assumption); (case kp => first | trivial | ((try dsimp only); first | assumption | omega | l_fact)); (case kd => ktr_room); (case ku => ktr_units); intro t9 h9 tk9 F9 N9; (try dsimp only); (try k_fold))))

/-- what from_jd gives: the date's tuple -/
def TellsDate (lvl : Nat) : Prop :=
  ∀ (w : World) (mean : ExcName → Option Value) (mg mb : Str → Option Value) (news : List (Addr × Obj)) (jd : Int) (t : Tok)
    (dp un : Nat) (gd : Option (List Code)) (cn : Str) (cs : Scope) (a : Addr) (ccd : Value) (cl : List (Str × Addr)) (outer : List Env) (A₀ : Around) (base h₀ : Heap) (L : Addr) (m : Str → Option Value) (s : Shared) (Q E : Value → Shared → Prop),
    Below A₀ base outer h₀ → Fr h₀ L s.heap m → (hd.heap_39 w.params).In h₀ → News h₀ L s.heap news → Top hd.view_39 (looseW hd.view_39 []) mean mg mb h₀ → cs.kind = .function →
    348400 ≤ jd → dp + lvl < recursionLimit → un + 8 * lvl < cLine →
    (∀ (Y M D : Int) (t1 t2 t3 : Tok) (x : Addr) (h' : Heap) (tk' : Nat), IsDate jd Y M D → Fr h₀ L h' m → News h₀ L h' ((x, ({ cls := .type "tuple", data := .seq #[.int Y t1, .int M t2, .int D t3] } : Obj)) :: news) → (∀ p ∈ news, p.1 < x) → Q (.ref x) { s with heap := h', toks := tk' }) →
      wpAny (model PySem.Challenge.rw_bh0006_01.row.prog w) (ktrTop dp un gd cn cs L a ccd cl outer) (call (.ref 84) [.int jd t]) Q E s

theorem date_use {lvl : Nat} (C : TellsDate lvl)
    {w : World} {mean : ExcName → Option Value} {mg mb : Str → Option Value} {news : List (Addr × Obj)} {jd : Int} {t : Tok}
    {dp un : Nat} {gd : Option (List Code)} {cn : Str} {cs : Scope} {a : Addr} {ccd : Value} {cl : List (Str × Addr)} {outer : List Env} {A₀ : Around} {base h₀ : Heap} {L : Addr} {m : Str → Option Value} {s : Shared} {Q E : Value → Shared → Prop}
    (B : Below A₀ base outer h₀) (F : Fr h₀ L s.heap m) (X : (hd.heap_39 w.params).In h₀) (N : News h₀ L s.heap news) (T : Top hd.view_39 (looseW hd.view_39 []) mean mg mb h₀) (hk : cs.kind = .function)
    (hp : 348400 ≤ jd) (hd : dp + lvl < recursionLimit) (hu : un + 8 * lvl < cLine)
    (ret : ∀ (Y M D : Int) (t1 t2 t3 : Tok) (x : Addr) (h' : Heap) (tk' : Nat), IsDate jd Y M D → Fr h₀ L h' m → News h₀ L h' ((x, ({ cls := .type "tuple", data := .seq #[.int Y t1, .int M t2, .int D t3] } : Obj)) :: news) → (∀ p ∈ news, p.1 < x) → Q (.ref x) { s with heap := h', toks := tk' }) :
      wpAny (model PySem.Challenge.rw_bh0006_01.row.prog w) (ktrTop dp un gd cn cs L a ccd cl outer) (call (.ref 84) [.int jd t]) Q E s :=
  C w mean mg mb news jd t dp un gd cn cs a ccd cl outer A₀ base h₀ L m s Q E B F X N T hk hp hd hu ret

theorem t_from_jd : TellsDate 8 := by
  k_with_none
  k_with "exec While Compare cons nil" => k_while_given ["jd", "year"] (fun (jd year : Int) script i month => W2 jd year i month ∧ 1 ≤ i ∧ i ≤ 13 ∧ month = i) (fun (jd year : Int) script i month => (14 - i).toNat) "i" "month"
  k_with "exec While Compare cons nil" => k_while_given ["jd"] (fun (jd : Int) script i year => W1 jd i year) (fun (jd : Int) script i year => (jd + 1 - i).toNat) "i" "year"
  k_with "state" => first | exact w1_start (by assumption) | exact w1_turn (by assumption) (by omega) | exact w2_hi (by assumption) (by assumption) (by omega) (by omega) | exact w2_lo (by assumption) (by assumption) (by omega) (by omega) | exact w2_turn (by assumption) (by omega)
  k_with "measure" => exact w1_meas (by assumption) (by omega)
  unfold TellsDate
  k_fill
  intros
  rename_i hret
  refine wpAny_call ?_
  k_dflt cell_enter
  k_steps
  all_goals exact hret _ _ _ _ _ _ _ _ _ (w2_end (by assumption) (by omega)) (by assumption) (by assumption) (by assumption)

end

/-! ## The law -/
section
local macro_rules | `(tactic| tb_start) => `(tactic| ((with_reducible show wpAny _ _ (call (Value.ref 28) [Value.int _ _]) _ _ _); k_dflt (refine' tells_use (t_leap _ _) ?k1 ?k2 ?k3 ?k4 ?k5 ?kK ?kp ?kd ?ku ?kR; (case k1 => k_asm); (case k2 => k_asm); (case k3 => k_asm); (case k4 => k_asm); (case k5 => k_asm); (case kK => first | exact rfl | assumption); (case kp => first | trivial | ((try dsimp only); first | assumption | omega | l_fact)); (case kd => ktr_room); (case ku => ktr_units); intro t9 h9 tk9 F9 N9; (try dsimp only); (try k_fold))))

local macro_rules | `(tactic| tb_start) => `(tactic| ((with_reducible show wpAny _ _ (call (Value.ref 63) [Value.int _ _, Value.int _ _]) _ _ _); k_dflt (refine' tells_use (t_month_length _ _ _ _) ?k1 ?k2 ?k3 ?k4 ?k5 ?kK ?kp ?kd ?ku ?kR; (case k1 => k_asm); (case k2 => k_asm); (case k3 => k_asm); (case k4 => k_asm); (case k5 => k_asm); (case kK => first | exact rfl | assumption); (case kp => first | trivial | ((try dsimp only); first | assumption | omega | l_fact)); (case kd => ktr_room); (case ku => ktr_units); intro t9 h9 tk9 F9 N9; (try dsimp only); (try k_fold))))

local macro_rules | `(tactic| tb_start) => `(tactic| ((with_reducible show wpAny _ _ (call (Value.ref 77) [Value.int _ _, Value.int _ _, Value.int _ _]) _ _ _); k_dflt (refine' tells_use (t_to_jd _ _ _ _ _ _) ?k1 ?k2 ?k3 ?k4 ?k5 ?kK ?kp ?kd ?ku ?kR; (case k1 => k_asm); (case k2 => k_asm); (case k3 => k_asm); (case k4 => k_asm); (case k5 => k_asm); (case kK => first | exact rfl | assumption); (case kp => first | trivial | ((try dsimp only); first | assumption | omega | l_fact)); (case kd => ktr_room); (case ku => ktr_units); intro t9 h9 tk9 F9 N9; (try dsimp only); (try k_fold))))

local macro_rules | `(tactic| tb_start) => `(tactic| ((with_reducible show wpAny _ _ (call (Value.ref 84) [Value.int _ _]) _ _ _); k_dflt (refine' date_use t_from_jd ?k1 ?k2 ?k3 ?k4 ?k5 ?kK ?kp ?kd ?ku ?_; (case k1 => k_asm); (case k2 => k_asm); (case k3 => k_asm); (case k4 => k_asm); (case k5 => k_asm); (case kK => first | exact rfl | assumption); (case kp => first | assumption | omega | exact from_ok _ | exact from_ok2 _ _ | exact from_ok3 _ | l_fact); (case kd => ktr_room); (case ku => ktr_units); intro Y9 M9 D9 t91 t92 t93 x9 h9 tk9 d9 F9 N9 l9; have dm9 := date_mo d9; (try k_lt l9); (try dsimp only); (try k_fold))))

local macro_rules | `(tactic| kc_close) => `(tactic| (exact (end_no (by assumption) (by assumption) (by assumption) (by assumption)).elim))
local macro_rules | `(tactic| kc_close) => `(tactic| ((have e9 := w3_eq ‹W3 _ _ _ _ _ _›); rw [e9]; kc_close))
theorem holds : PySem.Challenge.rw_bh0006_01.Holds := by
  k_with_none
  k_with "exec While Compare cons nil" => k_while_given ["number", "days"] (fun (number days : Int) script year month day left rest => W3 (number + days) year month day left rest ∧ 1 ≤ month ∧ month ≤ 13) (fun (number days : Int) script year month day left rest => left.toNat) "year" "month" "day" "left" "rest"
  k_with "state" => first | exact w3_a (by assumption) (by assumption) (by assumption) | exact w3_b1 (by assumption) (by assumption) (by assumption) | exact w3_b2 (by assumption) (by assumption) (by assumption) (by assumption) | exact w3_c1 (by assumption) (by assumption) (by assumption) (by assumption) (by assumption) | exact w3_c2 (by assumption) (by assumption) (by assumption) (by assumption) (by assumption) | exact w3_start (by assumption) (by first | decide | exact fmod90 _ | omega)
  k_with "measure" => exact w3_meas (by assumption) (by assumption)
  exact hd (by w_strict (k_go0; (all_goals try k_fold); k_steps))
end
end Heb

theorem PySem.Challenge.cw_bh0006_01_holds : PySem.Challenge.rw_bh0006_01.Holds := by
  exact Heb.holds
