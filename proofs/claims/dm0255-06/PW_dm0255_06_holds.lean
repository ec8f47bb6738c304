import PyProof.Rows.All
import Wide.All
import OpenK.AllK
import Wide.FinOn
import PySem.Challenge.RW_dm0255_06
open PySem PySem.W PyProof.Rows
set_option Elab.async false
namespace Mine
def leap (y : Int) : Bool := decide (y.fmod 4 = 0) && (!decide (y.fmod 100 = 0) || decide (y.fmod 400 = 0))
def dby (y : Int) : Int := (y - 1) * 365 + (y - 1).fdiv 4 - (y - 1).fdiv 100 + (y - 1).fdiv 400
def dim (y m : Int) : Int := if m = 2 ∧ leap y = true then 29 else [-1, 31, 28, 31, 30, 31, 30, 31, 31, 30, 31, 30, 31].getD m.toNat 0
def dbm (y m : Int) : Int := [-1, 0, 31, 59, 90, 120, 151, 181, 212, 243, 273, 304, 334].getD m.toNat 0 + (if 2 < m ∧ leap y = true then 1 else 0)
def ahead (y m : Int) : Int := dby y + dbm y m
def wd (y m : Int) : Int := if m < 3 then (6 + (13 * (m + 12 + 1)).fdiv 5 + (y - 1) + (y - 1).fdiv 4 - (y - 1).fdiv 100 + (y - 1).fdiv 400).fmod 7
  else (6 + (13 * (m + 1)).fdiv 5 + y + y.fdiv 4 - y.fdiv 100 + y.fdiv 400).fmod 7
/-- the leap days up to the end of the year -/
def lp (y : Int) : Int := y / 4 - y / 100 + y / 400
theorem lp_step (y : Int) : lp y - lp (y - 1) = if leap y = true then 1 else 0 := by
  unfold lp leap
  simp only [Int.fmod_eq_emod_of_nonneg _ (show (0:Int) ≤ 4 by decide), Int.fmod_eq_emod_of_nonneg _ (show (0:Int) ≤ 100 by decide), Int.fmod_eq_emod_of_nonneg _ (show (0:Int) ≤ 400 by decide), Bool.and_eq_true, Bool.or_eq_true, Bool.not_eq_true', decide_eq_true_eq, decide_eq_false_iff_not]
  split <;> omega
theorem dby_lp (y : Int) : dby y = (y - 1) * 365 + lp (y - 1) := by
  unfold dby lp
  simp only [Int.fdiv_eq_ediv_of_nonneg _ (show (0:Int) ≤ 4 by decide), Int.fdiv_eq_ediv_of_nonneg _ (show (0:Int) ≤ 100 by decide), Int.fdiv_eq_ediv_of_nonneg _ (show (0:Int) ≤ 400 by decide)]
  omega
theorem wd_lp (y m : Int) : wd y m = if m < 3 then (6 + 13 * (m + 12 + 1) / 5 + (y - 1) + lp (y - 1)) % 7 else (6 + 13 * (m + 1) / 5 + y + lp y) % 7 := by
  unfold wd lp
  simp only [Int.fdiv_eq_ediv_of_nonneg _ (show (0:Int) ≤ 4 by decide), Int.fdiv_eq_ediv_of_nonneg _ (show (0:Int) ≤ 100 by decide), Int.fdiv_eq_ediv_of_nonneg _ (show (0:Int) ≤ 400 by decide), Int.fdiv_eq_ediv_of_nonneg _ (show (0:Int) ≤ 5 by decide), Int.fmod_eq_emod_of_nonneg _ (show (0:Int) ≤ 7 by decide)]
  split <;> congr 1 <;> omega
theorem months {m : Int} (h1 : 1 ≤ m) (h2 : m ≤ 12) : m = 1 ∨ m = 2 ∨ m = 3 ∨ m = 4 ∨ m = 5 ∨ m = 6 ∨ m = 7 ∨ m = 8 ∨ m = 9 ∨ m = 10 ∨ m = 11 ∨ m = 12 := by omega
theorem ahead_wd {y m : Int} (h1 : 1 ≤ m) (h2 : m ≤ 12) : (ahead y m).fmod 7 = wd y m := by
  have hs := lp_step y
  rw [wd_lp, ahead, dby_lp, Int.fmod_eq_emod_of_nonneg _ (show (0:Int) ≤ 7 by decide)]
  unfold dbm
  generalize lp y = a at *
  generalize lp (y - 1) = b at *
  generalize leap y = l at *
  rcases months h1 h2 with rfl | rfl | rfl | rfl | rfl | rfl | rfl | rfl | rfl | rfl | rfl | rfl <;> cases l <;> simp at hs ⊢ <;> omega
/-- the month behind -/
theorem next_month (x : Int) : (x.fmod 12 + 1 = 12 ∧ (x + 1).fdiv 12 = x.fdiv 12 + 1 ∧ (x + 1).fmod 12 + 1 = 1) ∨ (x.fmod 12 + 1 < 12 ∧ (x + 1).fdiv 12 = x.fdiv 12 ∧ (x + 1).fmod 12 + 1 = x.fmod 12 + 1 + 1) := by
  simp only [Int.fdiv_eq_ediv_of_nonneg _ (show (0:Int) ≤ 12 by decide), Int.fmod_eq_emod_of_nonneg _ (show (0:Int) ≤ 12 by decide)]
  omega
theorem month_in (x : Int) : 1 ≤ x.fmod 12 + 1 ∧ x.fmod 12 + 1 ≤ 12 := by
  rw [Int.fmod_eq_emod_of_nonneg _ (show (0:Int) ≤ 12 by decide)]
  omega
theorem ahead_step (x : Int) : ahead ((x + 1).fdiv 12) ((x + 1).fmod 12 + 1) - ahead (x.fdiv 12) (x.fmod 12 + 1) = dim (x.fdiv 12) (x.fmod 12 + 1) := by
  obtain ⟨m1, m2⟩ := month_in x
  rcases next_month x with ⟨a, b, c⟩ | ⟨a, b, c⟩ <;> rw [b, c]
  · rw [a]
    have hs := lp_step (x.fdiv 12)
    simp only [ahead, dby_lp, dbm, dim, show x.fdiv 12 + 1 - 1 = x.fdiv 12 by omega]
    generalize lp (x.fdiv 12) = p at *
    generalize lp (x.fdiv 12 - 1) = q at *
    generalize leap (x.fdiv 12) = l at *
    cases l <;> simp at hs ⊢ <;> omega
  · generalize x.fmod 12 + 1 = m at *
    simp only [ahead, dbm, dim]
    generalize leap (x.fdiv 12) = l at *
    rcases months m1 m2 with rfl | rfl | rfl | rfl | rfl | rfl | rfl | rfl | rfl | rfl | rfl | rfl <;> cases l <;> simp at a ⊢ <;> omega
theorem dim_bounds {y m : Int} (h1 : 1 ≤ m) (h2 : m ≤ 12) : 28 ≤ dim y m ∧ dim y m ≤ 31 := by
  unfold dim
  generalize leap y = l
  rcases months h1 h2 with rfl | rfl | rfl | rfl | rfl | rfl | rfl | rfl | rfl | rfl | rfl | rfl <;> cases l <;> simp
theorem dim_wd (x : Int) : dim (x.fdiv 12) (x.fmod 12 + 1) = 28 + (wd ((x + 1).fdiv 12) ((x + 1).fmod 12 + 1) - wd (x.fdiv 12) (x.fmod 12 + 1)).fmod 7 := by
  obtain ⟨m1, m2⟩ := month_in x
  obtain ⟨n1, n2⟩ := month_in (x + 1)
  have hb := dim_bounds (y := x.fdiv 12) m1 m2
  have hd := ahead_step x
  have h1 := ahead_wd (y := x.fdiv 12) m1 m2
  have h2 := ahead_wd (y := (x + 1).fdiv 12) n1 n2
  rw [← h1, ← h2, ← hd]
  rw [← hd] at hb
  generalize ahead (x.fdiv 12) (x.fmod 12 + 1) = p at *
  generalize ahead ((x + 1).fdiv 12) ((x + 1).fmod 12 + 1) = q at *
  simp only [Int.fmod_eq_emod_of_nonneg _ (show (0:Int) ≤ 7 by decide)]
  omega
open PySem PySem.W
def wd3 (y m : Int) : Int := if m < 3 then ((13 * (m + 12 + 1)).fdiv 5 + (y - 1).fmod 100 + ((y - 1).fmod 100).fdiv 4 + ((y - 1).fdiv 100).fdiv 4 - 2 * (y - 1).fdiv 100).fmod 7
  else ((13 * (m + 1)).fdiv 5 + y.fmod 100 + (y.fmod 100).fdiv 4 + (y.fdiv 100).fdiv 4 - 2 * y.fdiv 100).fmod 7
theorem cent (z : Int) : z % 100 + z % 100 / 4 + z / 100 / 4 - 2 * (z / 100) = z + lp z - 126 * (z / 100) := by
  unfold lp
  omega
theorem wd3_lp (y m : Int) : wd3 y m = if m < 3 then (13 * (m + 12 + 1) / 5 + (y - 1) + lp (y - 1)) % 7 else (13 * (m + 1) / 5 + y + lp y) % 7 := by
  have h1 := cent y
  have h2 := cent (y - 1)
  unfold wd3
  simp only [Int.fdiv_eq_ediv_of_nonneg _ (show (0:Int) ≤ 4 by decide), Int.fdiv_eq_ediv_of_nonneg _ (show (0:Int) ≤ 100 by decide), Int.fmod_eq_emod_of_nonneg _ (show (0:Int) ≤ 100 by decide), Int.fdiv_eq_ediv_of_nonneg _ (show (0:Int) ≤ 5 by decide), Int.fmod_eq_emod_of_nonneg _ (show (0:Int) ≤ 7 by decide)]
  generalize lp y = a at *
  generalize lp (y - 1) = b at *
  split <;> omega
theorem first_wd3 {y m : Int} (h1 : 1 ≤ m) (h2 : m ≤ 12) : (dby y + dbm y m + 1).fmod 7 = wd3 y m := by
  have hs := lp_step y
  rw [wd3_lp, dby_lp, Int.fmod_eq_emod_of_nonneg _ (show (0:Int) ≤ 7 by decide)]
  unfold dbm
  generalize lp y = a at *
  generalize lp (y - 1) = b at *
  generalize leap y = l at *
  rcases months h1 h2 with rfl | rfl | rfl | rfl | rfl | rfl | rfl | rfl | rfl | rfl | rfl | rfl <;> cases l <;> simp at hs ⊢ <;> omega
theorem next_wd3 (x : Int) : (dby (x.fdiv 12) + dbm (x.fdiv 12) (x.fmod 12 + 1) + 1 + dim (x.fdiv 12) (x.fmod 12 + 1)).fmod 7 = wd3 ((x + 1).fdiv 12) ((x + 1).fmod 12 + 1) := by
  have h := ahead_step x
  rw [← first_wd3 (month_in (x + 1)).1 (month_in (x + 1)).2]
  unfold ahead at h
  congr 1
  omega
theorem step_wd3 {y m : Int} (h1 : 1 ≤ m) (h2 : m ≤ 12) : (wd3 y m - wd3 y 1).fmod 7 = (dbm y m).fmod 7 := by
  have e1 := first_wd3 (y := y) h1 h2
  have e2 := first_wd3 (y := y) (m := 1) (by decide) (by decide)
  have e3 : dbm y 1 = 0 := by simp [dbm]
  rw [← e1, ← e2, e3]
  simp only [Int.fmod_eq_emod_of_nonneg _ (show (0:Int) ≤ 7 by decide)]
  omega
theorem before {y m : Int} (h1 : 1 ≤ m) (h2 : m ≤ 12) : [dbm y m] = List.foldl (fun a k => if k.fmod 7 = (wd3 y m - wd3 y 1).fmod 7 then a ++ [k] else a) [] (rangeKs ((61 * (m - 1)).fdiv 2 - 3) ((61 * (m - 1)).fdiv 2 + 4 - ((61 * (m - 1)).fdiv 2 - 3)).toNat) := by
  rw [step_wd3 h1 h2]
  unfold dbm
  generalize leap y = l
  rcases months h1 h2 with rfl | rfl | rfl | rfl | rfl | rfl | rfl | rfl | rfl | rfl | rfl | rfl <;> cases l <;> decide
def lH (n : Int) : Int := (4 * n + 1223).fdiv 146097
def lP (n : Int) : Int := 2939745 * (((4 * n + 1223).fmod 146097).fdiv 4 * 4 + 3)
def lDay (n : Int) : Int := (((lP n).fmod 4294967296).fdiv 2939745).fdiv 4
def lLate (n : Int) : Int := if 305 < lDay n then 1 else 0
def lawY (n : Int) : Int := 100 * lH n + (lP n).fdiv 4294967296 + lLate n
def lawM (n : Int) : Int := (2141 * lDay n + 197913).fdiv 65536 - 12 * lLate n
def lawD (n : Int) : Int := ((2141 * lDay n + 197913).fmod 65536).fdiv 2141 + 1
def lawDay (y m d : Int) : Int := if m < 3 then (1461 * (y - 1)).fdiv 4 - (y - 1).fdiv 100 + ((y - 1).fdiv 100).fdiv 4 + (979 * (m + 12 * 1) - 2919).fdiv 32 + d - 306
  else (1461 * (y - 0)).fdiv 4 - (y - 0).fdiv 100 + ((y - 0).fdiv 100).fdiv 4 + (979 * (m + 12 * 0) - 2919).fdiv 32 + d - 306
def ordOf (y m d : Int) : Int := dby y + dbm y m + d
theorem ord_lawDay {y m d : Int} (h1 : 1 ≤ m) (h2 : m ≤ 12) : ordOf y m d = lawDay y m d := by
  have hs := lp_step y
  have k : ∀ z : Int, 1461 * z / 4 - z / 100 + z / 100 / 4 = 365 * z + lp z := fun z => by
    have a1 : 1461 * z / 4 = 365 * z + z / 4 := by omega
    have a2 : z / 100 / 4 = z / 400 := by omega
    rw [a1, a2]
    unfold lp
    omega
  have k1 := k y
  have k2 := k (y - 1)
  unfold ordOf lawDay
  rw [dby_lp]
  unfold dbm
  simp only [Int.fdiv_eq_ediv_of_nonneg _ (show (0:Int) ≤ 4 by decide), Int.fdiv_eq_ediv_of_nonneg _ (show (0:Int) ≤ 100 by decide), Int.fdiv_eq_ediv_of_nonneg _ (show (0:Int) ≤ 32 by decide), Int.sub_zero]
  rw [k1, k2]
  generalize lp y = a at *
  generalize lp (y - 1) = b at *
  generalize leap y = l at *
  rcases months h1 h2 with rfl | rfl | rfl | rfl | rfl | rfl | rfl | rfl | rfl | rfl | rfl | rfl <;> cases l <;> simp at hs ⊢ <;> omega
/-- the parts that the way of Neri and Schneider cuts the day into -/
theorem law_parts (n : Int) : ∃ c q s : Int, 0 ≤ q ∧ q ≤ 99 ∧ 0 ≤ s ∧ s ≤ 365 ∧ n + 305 = 365 * (100 * c + q) + lp (100 * c + q) + s ∧ (s = 365 → leap (100 * c + q + 1) = true) ∧ lDay n = s ∧ 100 * lH n + (lP n).fdiv 4294967296 = 100 * c + q := by
  have e : lP n = 2939745 * ((4 * n + 1223) % 146097 / 4 * 4 + 3) := by
    unfold lP
    simp only [Int.fdiv_eq_ediv_of_nonneg _ (show (0:Int) ≤ 4 by decide), Int.fmod_eq_emod_of_nonneg _ (show (0:Int) ≤ 146097 by decide)]
  have eh : lH n = (4 * n + 1223) / 146097 := Int.fdiv_eq_ediv_of_nonneg _ (by decide)
  have ed : lDay n = lP n % 4294967296 / 2939745 / 4 := by
    unfold lDay
    simp only [Int.fdiv_eq_ediv_of_nonneg _ (show (0:Int) ≤ 4 by decide), Int.fdiv_eq_ediv_of_nonneg _ (show (0:Int) ≤ 2939745 by decide), Int.fmod_eq_emod_of_nonneg _ (show (0:Int) ≤ 4294967296 by decide)]
  have ep : (lP n).fdiv 4294967296 = lP n / 4294967296 := Int.fdiv_eq_ediv_of_nonneg _ (by decide)
  -- the day of the hundred years, and its year and day
  have hr0 := Int.emod_nonneg (4 * n + 1223) (show (146097 : Int) ≠ 0 by decide)
  have hr1 := Int.emod_lt_of_pos (4 * n + 1223) (show (0 : Int) < 146097 by decide)
  have hq := Int.mul_ediv_add_emod (4 * n + 1223) 146097
  generalize (4 * n + 1223) / 146097 = c at *
  generalize (4 * n + 1223) % 146097 = r at *
  have hP0 := Int.mul_ediv_add_emod (r / 4 * 4 + 3) 1461
  have hs0 := Int.emod_nonneg (r / 4 * 4 + 3) (show (1461 : Int) ≠ 0 by decide)
  have hs1 := Int.emod_lt_of_pos (r / 4 * 4 + 3) (show (0 : Int) < 1461 by decide)
  generalize (r / 4 * 4 + 3) / 1461 = q at *
  generalize (r / 4 * 4 + 3) % 1461 = t at *
  have q0 : 0 ≤ q := by omega
  have q1 : q ≤ 99 := by omega
  have e2 : lP n = 4294967296 * q + (149 * q + 2939745 * t) := by rw [e]; omega
  have e3 : lP n / 4294967296 = q := by rw [e2]; omega
  have e4 : lP n % 4294967296 = 149 * q + 2939745 * t := by rw [e2]; omega
  have e5 : lP n % 4294967296 / 2939745 = t := by rw [e4]; omega
  have d1 : n + 305 = 36524 * c + c / 4 + r / 4 := by omega
  have d2 : r / 4 = 365 * q + q / 4 + t / 4 := by omega
  have f1 : (100 * c + q) / 4 = 25 * c + q / 4 := by omega
  have f2 : (100 * c + q) / 100 = c := by omega
  have f3 : (100 * c + q) / 400 = c / 4 := by omega
  refine ⟨c, q, t / 4, q0, q1, by omega, by omega, ?_, ?_, by rw [ed, e5], by rw [eh, ep, e3]⟩
  · unfold lp
    rw [f1, f2, f3, d1, d2]
    omega
  · intro h
    have g0 : t = 1460 := by omega
    have g1 : q % 4 = 3 := by omega
    have g2 : q = 99 → c % 4 = 3 := by omega
    have u1 : (100 * c + q + 1) % 4 = 0 := by omega
    have u2 : (100 * c + q + 1) % 100 = 0 → q = 99 := by omega
    have u3 : q = 99 → c % 4 = 3 → (100 * c + q + 1) % 400 = 0 := by omega
    unfold leap
    simp only [Int.fmod_eq_emod_of_nonneg _ (show (0:Int) ≤ 4 by decide), Int.fmod_eq_emod_of_nonneg _ (show (0:Int) ≤ 100 by decide), Int.fmod_eq_emod_of_nonneg _ (show (0:Int) ≤ 400 by decide), Bool.and_eq_true, Bool.or_eq_true, Bool.not_eq_true', decide_eq_true_eq, decide_eq_false_iff_not]
    refine ⟨u1, ?_⟩
    by_cases hq9 : (100 * c + q + 1) % 100 = 0
    · exact Or.inr (u3 (u2 hq9) (g2 (u2 hq9)))
    · exact Or.inl hq9
def dbmL (l : Bool) (m : Int) : Int := [-1, 0, 31, 59, 90, 120, 151, 181, 212, 243, 273, 304, 334].getD m.toNat 0 + (if 2 < m ∧ l = true then 1 else 0)
def dimL (l : Bool) (m : Int) : Int := if m = 2 ∧ l = true then 29 else [-1, 31, 28, 31, 30, 31, 30, 31, 31, 30, 31, 30, 31].getD m.toNat 0
theorem dbm_eq (y m : Int) : dbm y m = dbmL (leap y) m := rfl
theorem dim_eq (y m : Int) : dim y m = dimL (leap y) m := rfl
/-- the months follow each other -/
theorem months_apart : ∀ (l : Bool) (i j : Fin 13), 1 ≤ i.val → i.val < j.val → dbmL l (i.val : Int) + dimL l (i.val : Int) ≤ dbmL l (j.val : Int) := by decide +kernel
theorem months_in : ∀ (l : Bool) (i : Fin 13), 1 ≤ i.val → 0 ≤ dbmL l (i.val : Int) ∧ dbmL l (i.val : Int) + dimL l (i.val : Int) ≤ 365 + (if l = true then 1 else 0) := by decide +kernel
theorem apart {l : Bool} {m m' : Int} (h1 : 1 ≤ m) (h : m < m') (h2 : m' ≤ 12) : dbmL l m + dimL l m ≤ dbmL l m' := by
  have e1 : ((⟨m.toNat, by omega⟩ : Fin 13).val : Int) = m := by show ((m.toNat : Nat) : Int) = m; omega
  have e2 : ((⟨m'.toNat, by omega⟩ : Fin 13).val : Int) = m' := by show ((m'.toNat : Nat) : Int) = m'; omega
  have q := months_apart l ⟨m.toNat, by omega⟩ ⟨m'.toNat, by omega⟩ (by show 1 ≤ m.toNat; omega) (by show m.toNat < m'.toNat; omega)
  rw [e1, e2] at q
  exact q
theorem inYear {l : Bool} {m : Int} (h1 : 1 ≤ m) (h2 : m ≤ 12) : 0 ≤ dbmL l m ∧ dbmL l m + dimL l m ≤ 365 + (if l = true then 1 else 0) := by
  have e1 : ((⟨m.toNat, by omega⟩ : Fin 13).val : Int) = m := by show ((m.toNat : Nat) : Int) = m; omega
  have q := months_in l ⟨m.toNat, by omega⟩ (by show 1 ≤ m.toNat; omega)
  rw [e1] at q
  exact q
theorem dby_next (y : Int) : dby (y + 1) = dby y + 365 + (if leap y = true then 1 else 0) := by
  have h := lp_step y
  rw [dby_lp, dby_lp, show y + 1 - 1 = y by omega]
  rw [← h]
  omega
theorem lp_near {a b : Int} (h : a < b) : 365 * a + lp a ≤ 365 * b + lp b := by
  unfold lp
  omega
theorem dby_later {y z : Int} (h : y < z) : dby (y + 1) ≤ dby z := by
  rcases (show z = y + 1 ∨ y < z - 1 by omega) with rfl | h2
  · exact Int.le_refl _
  · have q := lp_near h2
    rw [dby_lp, dby_lp, show y + 1 - 1 = y by omega]
    omega
/-- a date -/
def Valid (y m d : Int) : Prop := 1 ≤ m ∧ m ≤ 12 ∧ 1 ≤ d ∧ d ≤ dim y m
theorem ord_between {y m d : Int} (h : Valid y m d) : dby y < ordOf y m d ∧ ordOf y m d ≤ dby (y + 1) := by
  obtain ⟨h1, h2, h3, h4⟩ := h
  have q := inYear (l := leap y) h1 h2
  rw [dim_eq] at h4
  rw [dby_next]
  unfold ordOf
  rw [dbm_eq]
  omega
theorem ord_unique {y m d y' m' d' : Int} (h : Valid y m d) (h' : Valid y' m' d') (e : ordOf y m d = ordOf y' m' d') : y = y' ∧ m = m' ∧ d = d' := by
  have b := ord_between h
  have b' := ord_between h'
  have ey : y = y' := by
    rcases Int.lt_trichotomy y y' with q | q | q
    · have z := dby_later q
      omega
    · exact q
    · have z := dby_later q
      omega
  subst ey
  obtain ⟨h1, h2, h3, h4⟩ := h
  obtain ⟨k1, k2, k3, k4⟩ := h'
  unfold ordOf at e
  rw [dim_eq] at h4 k4
  rw [dbm_eq, dbm_eq] at e
  have em : m = m' := by
    rcases Int.lt_trichotomy m m' with q | q | q
    · have z := apart (l := leap y) h1 q k2
      omega
    · exact q
    · have z := apart (l := leap y) k1 q h2
      omega
  subst em
  exact ⟨rfl, rfl, by omega⟩
def tabOk (s : Int) : Bool :=
  if s ≤ 305 then decide (3 ≤ (2141 * s + 197913) / 65536 ∧ (2141 * s + 197913) / 65536 ≤ 12 ∧ 1 ≤ (2141 * s + 197913) % 65536 / 2141 + 1 ∧ (2141 * s + 197913) % 65536 / 2141 + 1 ≤ dimL false ((2141 * s + 197913) / 65536) ∧ dbmL false ((2141 * s + 197913) / 65536) + ((2141 * s + 197913) % 65536 / 2141 + 1) = s + 60)
  else decide (1 ≤ (2141 * s + 197913) / 65536 - 12 ∧ (2141 * s + 197913) / 65536 - 12 ≤ 2 ∧ 1 ≤ (2141 * s + 197913) % 65536 / 2141 + 1 ∧ (2141 * s + 197913) % 65536 / 2141 + 1 ≤ dimL (decide (s = 365)) ((2141 * s + 197913) / 65536 - 12) ∧ dbmL false ((2141 * s + 197913) / 65536 - 12) + ((2141 * s + 197913) % 65536 / 2141 + 1) = s - 305)
theorem tab : ∀ k : Fin 366, tabOk (k.val : Int) = true := by decide +kernel
theorem tab_at {s : Int} (h0 : 0 ≤ s) (h1 : s ≤ 365) : tabOk s = true := by
  have e1 : ((⟨s.toNat, by omega⟩ : Fin 366).val : Int) = s := by show ((s.toNat : Nat) : Int) = s; omega
  have q := tab ⟨s.toNat, by omega⟩
  rw [e1] at q
  exact q
theorem dimL_late {m : Int} (h : 3 ≤ m) (l : Bool) : dimL l m = dimL false m := by
  unfold dimL
  rw [if_neg (by omega), if_neg (by omega)]
theorem dbmL_late {m : Int} (h : 3 ≤ m) (l : Bool) : dbmL l m = dbmL false m + (if l = true then 1 else 0) := by
  unfold dbmL
  cases l
  · simp
  · simp
    omega
theorem dbmL_early {m : Int} (h : m ≤ 2) (l : Bool) : dbmL l m = dbmL false m := by
  unfold dbmL
  rw [if_neg (by omega), if_neg (by omega)]
theorem dimL_more (m : Int) (l l' : Bool) (h : l = true → l' = true) (hm : 1 ≤ m) (hm2 : m ≤ 12) : dimL l m ≤ dimL l' m := by
  unfold dimL
  rcases months hm hm2 with rfl | rfl | rfl | rfl | rfl | rfl | rfl | rfl | rfl | rfl | rfl | rfl <;> cases l <;> cases l' <;> simp at h ⊢
theorem law_valid (n : Int) : Valid (lawY n) (lawM n) (lawD n) ∧ ordOf (lawY n) (lawM n) (lawD n) = n := by
  obtain ⟨c, q, s, q0, q1, s0, s1, hn, hl, hd, hy⟩ := law_parts n
  have ht := tab_at s0 s1
  have hs := lp_step (100 * c + q)
  unfold lawY lawM lawD lLate
  rw [hy, hd]
  simp only [Int.fdiv_eq_ediv_of_nonneg _ (show (0:Int) ≤ 65536 by decide), Int.fdiv_eq_ediv_of_nonneg _ (show (0:Int) ≤ 2141 by decide), Int.fmod_eq_emod_of_nonneg _ (show (0:Int) ≤ 65536 by decide)]
  unfold tabOk at ht
  generalize (2141 * s + 197913) / 65536 = m at *
  generalize (2141 * s + 197913) % 65536 / 2141 + 1 = d at *
  generalize 100 * c + q = Y at *
  by_cases h : s ≤ 305
  · rw [if_pos h, decide_eq_true_eq] at ht
    obtain ⟨t1, t2, t3, t4, t5⟩ := ht
    rw [if_neg (by omega), show Y + 0 = Y by omega, show m - 12 * 0 = m by omega]
    refine ⟨⟨by omega, t2, t3, ?_⟩, ?_⟩
    · rw [dim_eq, dimL_late t1]
      exact t4
    · unfold ordOf
      rw [dby_lp, dbm_eq, dbmL_late t1, ← hs]
      omega
  · rw [if_neg h, decide_eq_true_eq] at ht
    obtain ⟨t1, t2, t3, t4, t5⟩ := ht
    rw [if_pos (by omega), show m - 12 * 1 = m - 12 by omega]
    refine ⟨⟨t1, by omega, t3, ?_⟩, ?_⟩
    · rw [dim_eq]
      exact Int.le_trans t4 (dimL_more _ _ _ (fun h => hl (of_decide_eq_true h)) t1 (by omega))
    · unfold ordOf
      rw [dby_lp, dbm_eq, dbmL_early t2, show Y + 1 - 1 = Y by omega]
      omega
theorem law_is {y m d n : Int} (h : Valid y m d) (e : ordOf y m d = n) : lawY n = y ∧ lawM n = m ∧ lawD n = d := by
  obtain ⟨v, o⟩ := law_valid n
  exact ord_unique v h (o.trans e.symm)
/-- what _ord2ymd cuts the day into -/
structure Parts (n a b c d r r1 r2 r3 m : Int) : Prop where
  e1 : (n - 1).fdiv 146097 = a
  f1 : (n - 1).fmod 146097 = r1
  e2 : r1.fdiv 36524 = b
  f2 : r1.fmod 36524 = r2
  e3 : r2.fdiv 1461 = c
  f3 : r2.fmod 1461 = r3
  e4 : r3.fdiv 365 = d
  f4 : r3.fmod 365 = r
  eM : (r + 50).fdiv (2 ^ Int.toNat 5) = m
  rng : 0 ≤ r ∧ r < 365
  day : b ≠ 4 → d ≠ 4 → dby (a * 400 + 1 + (b * 100 + c * 4 + d)) + r + 1 = n
  last : b = 4 ∨ d = 4 → dby (a * 400 + 1 + (b * 100 + c * 4 + d)) = n
  leapIs : b ≠ 4 → d ≠ 4 → leap (a * 400 + 1 + (b * 100 + c * 4 + d)) = (decide (d = 3) && (decide (c ≠ 24) || decide (b = 3)))
theorem parts (n : Int) : ∃ a b c d r r1 r2 r3 m : Int, Parts n a b c d r r1 r2 r3 m ∧ 0 ≤ b ∧ b ≤ 4 ∧ 0 ≤ c ∧ c ≤ 24 ∧ 0 ≤ d ∧ d ≤ 4 ∧ 0 ≤ r ∧ r < 365 ∧ (d = 4 → r = 0) ∧ (b = 4 → r = 0) ∧ 1 ≤ m ∧ m ≤ 12 := by
  have x1 := Int.mul_ediv_add_emod (n - 1) 146097
  have x2 := Int.emod_nonneg (n - 1) (show (146097 : Int) ≠ 0 by decide)
  have x3 := Int.emod_lt_of_pos (n - 1) (show (0 : Int) < 146097 by decide)
  have eA : (n - 1).fdiv 146097 = (n - 1) / 146097 := Int.fdiv_eq_ediv_of_nonneg _ (by decide)
  have eA' : (n - 1).fmod 146097 = (n - 1) % 146097 := Int.fmod_eq_emod_of_nonneg _ (by decide)
  generalize (n - 1) / 146097 = a at *
  generalize (n - 1) % 146097 = r1 at *
  have x4 := Int.mul_ediv_add_emod r1 36524
  have x5 := Int.emod_nonneg r1 (show (36524 : Int) ≠ 0 by decide)
  have x6 := Int.emod_lt_of_pos r1 (show (0 : Int) < 36524 by decide)
  have eB : r1.fdiv 36524 = r1 / 36524 := Int.fdiv_eq_ediv_of_nonneg _ (by decide)
  have eB' : r1.fmod 36524 = r1 % 36524 := Int.fmod_eq_emod_of_nonneg _ (by decide)
  generalize r1 / 36524 = b at *
  generalize r1 % 36524 = r2 at *
  have x7 := Int.mul_ediv_add_emod r2 1461
  have x8 := Int.emod_nonneg r2 (show (1461 : Int) ≠ 0 by decide)
  have x9 := Int.emod_lt_of_pos r2 (show (0 : Int) < 1461 by decide)
  have eC : r2.fdiv 1461 = r2 / 1461 := Int.fdiv_eq_ediv_of_nonneg _ (by decide)
  have eC' : r2.fmod 1461 = r2 % 1461 := Int.fmod_eq_emod_of_nonneg _ (by decide)
  generalize r2 / 1461 = c at *
  generalize r2 % 1461 = r3 at *
  have y1 := Int.mul_ediv_add_emod r3 365
  have y2 := Int.emod_nonneg r3 (show (365 : Int) ≠ 0 by decide)
  have y3 := Int.emod_lt_of_pos r3 (show (0 : Int) < 365 by decide)
  have eD : r3.fdiv 365 = r3 / 365 := Int.fdiv_eq_ediv_of_nonneg _ (by decide)
  have eD' : r3.fmod 365 = r3 % 365 := Int.fmod_eq_emod_of_nonneg _ (by decide)
  generalize r3 / 365 = d at *
  generalize r3 % 365 = r at *
  have b0 : 0 ≤ b := by omega
  have b1 : b ≤ 4 := by omega
  have c0 : 0 ≤ c := by omega
  have c1 : c ≤ 24 := by omega
  have d0 : 0 ≤ d := by omega
  have d1 : d ≤ 4 := by omega
  have z1 : d = 4 → r = 0 := by omega
  have z2 : b = 4 → r2 = 0 := by omega
  have z3 : b = 4 → c = 0 := by omega
  have z4 : b = 4 → r3 = 0 := by omega
  have z5 : b = 4 → d = 0 := by omega
  have z6 : b = 4 → r = 0 := by omega
  have z7 : d = 4 → c ≤ 23 := by omega
  have eM : (r + 50).fdiv (2 ^ Int.toNat 5) = (r + 50) / 32 := Int.fdiv_eq_ediv_of_nonneg _ (by decide)
  have nE : n - 1 = 146097 * a + 36524 * b + 1461 * c + 365 * d + r := by omega
  refine ⟨a, b, c, d, r, r1, r2, r3, (r + 50) / 32, ⟨eA, eA', eB, eB', eC, eC', eD, eD', eM, ⟨y2, y3⟩, ?_, ?_, ?_⟩, b0, b1, c0, c1, d0, d1, y2, y3, z1, z6, by omega, by omega⟩
  · intro hb hd
    have l1 : (a * 400 + (b * 100 + c * 4 + d)) / 4 = 100 * a + 25 * b + c := by omega
    have l2 : (a * 400 + (b * 100 + c * 4 + d)) / 100 = 4 * a + b := by omega
    have l3 : (a * 400 + (b * 100 + c * 4 + d)) / 400 = a := by omega
    rw [dby_lp, show a * 400 + 1 + (b * 100 + c * 4 + d) - 1 = a * 400 + (b * 100 + c * 4 + d) by omega]
    unfold lp
    rw [l1, l2, l3]
    omega
  · intro h
    rw [dby_lp, show a * 400 + 1 + (b * 100 + c * 4 + d) - 1 = a * 400 + (b * 100 + c * 4 + d) by omega]
    unfold lp
    rcases h with h | h
    · have k1 := z3 h
      have k2 := z5 h
      have k3 := z6 h
      subst h k1 k2 k3
      have l1 : (a * 400 + (4 * 100 + 0 * 4 + 0)) / 4 = 100 * a + 100 := by omega
      have l2 : (a * 400 + (4 * 100 + 0 * 4 + 0)) / 100 = 4 * a + 4 := by omega
      have l3 : (a * 400 + (4 * 100 + 0 * 4 + 0)) / 400 = a + 1 := by omega
      rw [l1, l2, l3]
      omega
    · have k1 := z7 h
      have k2 := z1 h
      subst h k2
      have b3 : b ≤ 3 := by
        rcases (show b ≤ 3 ∨ b = 4 by omega) with q | q
        · exact q
        · have := z5 q
          omega
      have l1 : (a * 400 + (b * 100 + c * 4 + 4)) / 4 = 100 * a + 25 * b + c + 1 := by omega
      have l2 : (a * 400 + (b * 100 + c * 4 + 4)) / 100 = 4 * a + b := by omega
      have l3 : (a * 400 + (b * 100 + c * 4 + 4)) / 400 = a := by omega
      rw [l1, l2, l3]
      omega
  · intro hb hd
    have m1 : (a * 400 + 1 + (b * 100 + c * 4 + d)) % 4 = 0 ↔ d = 3 := by omega
    have m2 : d = 3 → ((a * 400 + 1 + (b * 100 + c * 4 + d)) % 100 = 0 ↔ c = 24) := by omega
    have m3 : d = 3 → c = 24 → ((a * 400 + 1 + (b * 100 + c * 4 + d)) % 400 = 0 ↔ b = 3) := by omega
    unfold leap
    simp only [Int.fmod_eq_emod_of_nonneg _ (show (0:Int) ≤ 4 by decide), Int.fmod_eq_emod_of_nonneg _ (show (0:Int) ≤ 100 by decide), Int.fmod_eq_emod_of_nonneg _ (show (0:Int) ≤ 400 by decide)]
    generalize a * 400 + 1 + (b * 100 + c * 4 + d) = Y at *
    by_cases h1 : d = 3
    · have m2' := m2 h1
      by_cases h2 : c = 24
      · have m3' := m3 h1 h2
        simp [m1, m2', m3', h1, h2]
      · simp [m1, m2', h1, h2]
    · simp [m1, h1]
def mdOk (l : Bool) (r : Int) : Bool :=
  if dbmL l ((r + 50) / 32) ≤ r then decide (1 ≤ (r + 50) / 32 ∧ (r + 50) / 32 ≤ 12 ∧ r - dbmL l ((r + 50) / 32) < dimL l ((r + 50) / 32))
  else decide (2 ≤ (r + 50) / 32 ∧ (r + 50) / 32 ≤ 12 ∧ dbmL l ((r + 50) / 32) - dimL l ((r + 50) / 32 - 1) = dbmL l ((r + 50) / 32 - 1) ∧ 0 ≤ r - dbmL l ((r + 50) / 32 - 1) ∧ r - dbmL l ((r + 50) / 32 - 1) < dimL l ((r + 50) / 32 - 1))
theorem md : ∀ (l : Bool) (k : Fin 365), mdOk l (k.val : Int) = true := by decide +kernel
theorem md_at (l : Bool) {r : Int} (h0 : 0 ≤ r) (h1 : r < 365) : mdOk l r = true := by
  have e1 : ((⟨r.toNat, by omega⟩ : Fin 365).val : Int) = r := by show ((r.toNat : Nat) : Int) = r; omega
  have q := md l ⟨r.toNat, by omega⟩
  rw [e1] at q
  exact q
abbrev bTab : List Int := [-1, 0, 31, 59, 90, 120, 151, 181, 212, 243, 273, 304, 334]
abbrev dTab : List Int := [-1, 31, 28, 31, 30, 31, 30, 31, 31, 30, 31, 30, 31]
theorem dimL_sum (l : Bool) {m : Int} : dimL l m = dTab.getD m.toNat 0 + (if m = 2 ∧ l = true then 1 else 0) := by
  unfold dimL
  by_cases h : m = 2 ∧ l = true
  · rw [if_pos h, if_pos h, h.1]
    decide
  · rw [if_neg h, if_neg h]
    exact (Int.add_zero _).symm
section
variable {n a b c d r r1 r2 r3 m x x2 : Int}
theorem date_last (P : Parts n a b c d r r1 r2 r3 m) (h : b = 4 ∨ d = 4) :
    lawY n = a * 400 + 1 + (b * 100 + c * 4 + d) - 1 ∧ lawM n = 12 ∧ lawD n = 31 := by
  have q := P.last h
  generalize a * 400 + 1 + (b * 100 + c * 4 + d) = Y at *
  refine law_is ⟨by decide, by decide, by decide, ?_⟩ ?_
  · simp [dim]
  · have k := dby_next (Y - 1)
    rw [show Y - 1 + 1 = Y by omega] at k
    unfold ordOf
    rw [dbm_eq, dbmL_late (by decide)]
    have k2 : dbmL false 12 = 334 := by decide
    rw [k2]
    omega
theorem date_same (P : Parts n a b c d r r1 r2 r3 m) (hb : b ≠ 4) (hd : d ≠ 4) (hx : x = if 2 < m ∧ leap (a * 400 + 1 + (b * 100 + c * 4 + d)) = true then 1 else 0) (hle : bTab.getD m.toNat 0 + x ≤ r) :
    (lawY n = a * 400 + 1 + (b * 100 + c * 4 + d) ∧ lawM n = m ∧ lawD n = r - (bTab.getD m.toNat 0 + x) + 1) ∧ 0 ≤ r - (bTab.getD m.toNat 0 + x) ∧ r - (bTab.getD m.toNat 0 + x) < dim (a * 400 + 1 + (b * 100 + c * 4 + d)) m := by
  have q := P.day hb hd
  have t := md_at (leap (a * 400 + 1 + (b * 100 + c * 4 + d))) P.rng.1 P.rng.2
  have eM : m = (r + 50) / 32 := P.eM.symm.trans (Int.fdiv_eq_ediv_of_nonneg _ (by decide))
  generalize a * 400 + 1 + (b * 100 + c * 4 + d) = Y at *
  have ed : bTab.getD m.toNat 0 + x = dbmL (leap Y) m := by rw [hx]; rfl
  unfold mdOk at t
  rw [← eM] at t
  rw [ed] at hle ⊢
  rw [if_pos hle, decide_eq_true_eq] at t
  obtain ⟨t1, t2, t3⟩ := t
  refine ⟨law_is ⟨t1, t2, by omega, by rw [dim_eq]; omega⟩ ?_, by omega, by rw [dim_eq]; exact t3⟩
  unfold ordOf
  rw [dbm_eq]
  omega
theorem date_less (P : Parts n a b c d r r1 r2 r3 m) (hb : b ≠ 4) (hd : d ≠ 4) (hx : x = if 2 < m ∧ leap (a * 400 + 1 + (b * 100 + c * 4 + d)) = true then 1 else 0) (hgt : r < bTab.getD m.toNat 0 + x) (hx2 : x2 = if m - 1 = 2 ∧ leap (a * 400 + 1 + (b * 100 + c * 4 + d)) = true then 1 else 0) :
    (lawY n = a * 400 + 1 + (b * 100 + c * 4 + d) ∧ lawM n = m - 1 ∧ lawD n = r - (bTab.getD m.toNat 0 + x - (dTab.getD (m - 1).toNat 0 + x2)) + 1) ∧ 0 ≤ r - (bTab.getD m.toNat 0 + x - (dTab.getD (m - 1).toNat 0 + x2)) ∧ r - (bTab.getD m.toNat 0 + x - (dTab.getD (m - 1).toNat 0 + x2)) < dim (a * 400 + 1 + (b * 100 + c * 4 + d)) (m - 1) := by
  have q := P.day hb hd
  have t := md_at (leap (a * 400 + 1 + (b * 100 + c * 4 + d))) P.rng.1 P.rng.2
  have eM : m = (r + 50) / 32 := P.eM.symm.trans (Int.fdiv_eq_ediv_of_nonneg _ (by decide))
  generalize a * 400 + 1 + (b * 100 + c * 4 + d) = Y at *
  have ed : bTab.getD m.toNat 0 + x = dbmL (leap Y) m := by rw [hx]; rfl
  have ed2 : dTab.getD (m - 1).toNat 0 + x2 = dimL (leap Y) (m - 1) := by rw [hx2, dimL_sum]
  unfold mdOk at t
  rw [← eM] at t
  rw [ed] at hgt ⊢
  rw [ed2]
  rw [if_neg (by omega), decide_eq_true_eq] at t
  obtain ⟨t1, t2, t3, t4, t5⟩ := t
  rw [t3]
  refine ⟨law_is ⟨by omega, by omega, by omega, by rw [dim_eq]; omega⟩ ?_, t4, by rw [dim_eq]; exact t5⟩
  unfold ordOf
  rw [dbm_eq]
  omega
theorem month_two (P : Parts n a b c d r r1 r2 r3 m) (hx : x = if 2 < m ∧ leap (a * 400 + 1 + (b * 100 + c * 4 + d)) = true then 1 else 0) (hgt : r < bTab.getD m.toNat 0 + x) : 2 ≤ m ∧ m ≤ 12 := by
  have t := md_at (leap (a * 400 + 1 + (b * 100 + c * 4 + d))) P.rng.1 P.rng.2
  have eM : m = (r + 50) / 32 := P.eM.symm.trans (Int.fdiv_eq_ediv_of_nonneg _ (by decide))
  generalize a * 400 + 1 + (b * 100 + c * 4 + d) = Y at *
  have ed : bTab.getD m.toNat 0 + x = dbmL (leap Y) m := by rw [hx]; rfl
  unfold mdOk at t
  rw [← eM] at t
  rw [ed] at hgt
  rw [if_neg (by omega), decide_eq_true_eq] at t
  exact ⟨t.1, t.2.1⟩
end
section
variable {n a b c d r r1 r2 r3 m Y : Int} {e : Bool}
theorem x_late (h : 2 < m) (hE : (e == leap Y) = true) : (if e = true then (1 : Int) else 0) = if 2 < m ∧ leap Y = true then 1 else 0 := by
  rw [eq_of_beq hE]
  simp [h]
theorem x_early (h : ¬ 2 < m) : (if decide (2 < m) = true then (1 : Int) else 0) = if 2 < m ∧ leap Y = true then 1 else 0 := by
  simp [h]
theorem x_feb (h : m - 1 = 2) (hE : (e == leap Y) = true) : (if e = true then (1 : Int) else 0) = if m - 1 = 2 ∧ leap Y = true then 1 else 0 := by
  rw [eq_of_beq hE]
  simp [h]
theorem x_other (h : m - 1 ≠ 2) : (if (m - 1 == 2) = true then (1 : Int) else 0) = if m - 1 = 2 ∧ leap Y = true then 1 else 0 := by
  simp [h]
theorem x_other' (h : m - 1 ≠ 2) : (if decide (m - 1 = 2) = true then (1 : Int) else 0) = if m - 1 = 2 ∧ leap Y = true then 1 else 0 := by
  simp [h]
theorem leap_a (P : Parts n a b c d r r1 r2 r3 m) (hb : b ≠ 4) (hd : d ≠ 4) (h : d ≠ 3) : ((d == 3) == leap (a * 400 + 1 + (b * 100 + c * 4 + d))) = true := by
  rw [P.leapIs hb hd]
  simp [h]
theorem leap_b (P : Parts n a b c d r r1 r2 r3 m) (hb : b ≠ 4) (hd : d ≠ 4) (h : d = 3) (h2 : c ≠ 24) : ((c != 24) == leap (a * 400 + 1 + (b * 100 + c * 4 + d))) = true := by
  rw [P.leapIs hb hd]
  simp [h, h2]
theorem leap_c (P : Parts n a b c d r r1 r2 r3 m) (hb : b ≠ 4) (hd : d ≠ 4) (h : d = 3) (h2 : c = 24) : ((b == 3) == leap (a * 400 + 1 + (b * 100 + c * 4 + d))) = true := by
  rw [P.leapIs hb hd]
  simp [h, h2]
  by_cases q : b = 3 <;> simp [q]
end
theorem ld_late {n : Int} (h : 305 < lDay n) : lawY n = 100 * lH n + (lP n).fdiv 4294967296 + 1 ∧ lawM n = (2141 * lDay n + 197913).fdiv 65536 - 12 * 1 ∧ lawD n = ((2141 * lDay n + 197913).fmod 65536).fdiv 2141 + 1 := by
  unfold lawY lawM lawD lLate
  rw [if_pos h]
  exact ⟨rfl, rfl, rfl⟩
theorem ld_soon {n : Int} (h : ¬ 305 < lDay n) : lawY n = 100 * lH n + (lP n).fdiv 4294967296 + 0 ∧ lawM n = (2141 * lDay n + 197913).fdiv 65536 - 12 * 0 ∧ lawD n = ((2141 * lDay n + 197913).fmod 65536).fdiv 2141 + 1 := by
  unfold lawY lawM lawD lLate
  rw [if_neg h]
  exact ⟨rfl, rfl, rfl⟩
open PySem PySem.W PyProof.Rows
theorem lawY_bits {n : Int} (h : Builtin.Int.intBits n ≤ 1100000) : Builtin.Int.intBits (lawY n) ≤ 1100020 := by
  have h1 : Builtin.Int.intBits (lH n) ≤ 1100005 := by
    unfold lH
    exact bits_fdiv (Nat.le_trans (bits_add (bits_mul (m := 3) (intBits_le_iff.mpr (by decide)) h) (PySem.intBits_le_64 (by decide) (by decide))) (by decide))
  have h2 : -10 ≤ (lP n).fdiv 4294967296 + lLate n ∧ (lP n).fdiv 4294967296 + lLate n ≤ 200 := by
    have a1 : (4 * n + 1223).fmod 146097 = (4 * n + 1223) % 146097 := Int.fmod_eq_emod_of_nonneg _ (by decide)
    have a2 : (lP n).fdiv 4294967296 = lP n / 4294967296 := Int.fdiv_eq_ediv_of_nonneg _ (by decide)
    have a3 : lP n = 2939745 * ((4 * n + 1223) % 146097 / 4 * 4 + 3) := by
      unfold lP
      rw [a1, Int.fdiv_eq_ediv_of_nonneg _ (show (0:Int) ≤ 4 by decide)]
    have a4 := Int.emod_nonneg (4 * n + 1223) (show (146097 : Int) ≠ 0 by decide)
    have a5 := Int.emod_lt_of_pos (4 * n + 1223) (show (0 : Int) < 146097 by decide)
    have a6 : 0 ≤ lLate n ∧ lLate n ≤ 1 := by
      unfold lLate
      split <;> omega
    rw [a2, a3]
    generalize (4 * n + 1223) % 146097 = r at *
    omega
  have h3 : Builtin.Int.intBits ((lP n).fdiv 4294967296 + lLate n) ≤ 64 := PySem.intBits_le_64 (by omega) (by omega)
  unfold lawY
  rw [Int.add_assoc]
  exact Nat.le_trans (bits_add (bits_mul (m := 7) (intBits_le_iff.mpr (by decide)) h1) h3) (by decide)
/-- the date's letters -/
theorem law_letters {n : Int} (h : Builtin.Int.intBits n ≤ 1100000) : ∃ y m d : Int, lawY n = y ∧ lawM n = m ∧ lawD n = d ∧ 1 ≤ m ∧ m ≤ 12 ∧ 1 ≤ d ∧ d ≤ dim y m ∧ Builtin.Int.intBits y ≤ 1100020 := by
  obtain ⟨⟨v1, v2, v3, v4⟩, _⟩ := law_valid n
  exact ⟨_, _, _, rfl, rfl, rfl, v1, v2, v3, v4, lawY_bits h⟩
theorem ld_lateY {n : Int} (h : 305 < (((2939745 * (((4 * n + 1223).fmod 146097).fdiv 4 * 4 + 3)).fmod 4294967296).fdiv 2939745).fdiv 4) :
    lawY n = 100 * (4 * n + 1223).fdiv 146097 + (2939745 * (((4 * n + 1223).fmod 146097).fdiv 4 * 4 + 3)).fdiv 4294967296 + 1 := (ld_late h).1
theorem ld_lateM {n : Int} (h : 305 < (((2939745 * (((4 * n + 1223).fmod 146097).fdiv 4 * 4 + 3)).fmod 4294967296).fdiv 2939745).fdiv 4) :
    lawM n = (2141 * (((2939745 * (((4 * n + 1223).fmod 146097).fdiv 4 * 4 + 3)).fmod 4294967296).fdiv 2939745).fdiv 4 + 197913).fdiv 65536 - 12 * 1 := (ld_late h).2.1
theorem ld_soonY {n : Int} (h : ¬ 305 < (((2939745 * (((4 * n + 1223).fmod 146097).fdiv 4 * 4 + 3)).fmod 4294967296).fdiv 2939745).fdiv 4) :
    lawY n = 100 * (4 * n + 1223).fdiv 146097 + (2939745 * (((4 * n + 1223).fmod 146097).fdiv 4 * 4 + 3)).fdiv 4294967296 + 0 := (ld_soon h).1
theorem ld_soonM {n : Int} (h : ¬ 305 < (((2939745 * (((4 * n + 1223).fmod 146097).fdiv 4 * 4 + 3)).fmod 4294967296).fdiv 2939745).fdiv 4) :
    lawM n = (2141 * (((2939745 * (((4 * n + 1223).fmod 146097).fdiv 4 * 4 + 3)).fmod 4294967296).fdiv 2939745).fdiv 4 + 197913).fdiv 65536 - 12 * 0 := (ld_soon h).2.1
theorem ld_D {n : Int} : lawD n = ((2141 * (((2939745 * (((4 * n + 1223).fmod 146097).fdiv 4 * 4 + 3)).fmod 4294967296).fdiv 2939745).fdiv 4 + 197913).fmod 65536).fdiv 2141 + 1 := rfl
theorem back_late {y m d : Int} (h1 : 1 ≤ m) (h2 : m ≤ 12) (h : m < 3) : dby y + dbm y m + d = (1461 * (y - 1)).fdiv 4 - (y - 1).fdiv 100 + ((y - 1).fdiv 100).fdiv 4 + (979 * (m + 12 * 1) - 2919).fdiv 32 + d - 306 := by
  have q := ord_lawDay (y := y) (d := d) h1 h2
  unfold lawDay ordOf at q
  rw [if_pos h] at q
  exact q
theorem back_soon {y m d : Int} (h1 : 1 ≤ m) (h2 : m ≤ 12) (h : ¬ m < 3) : dby y + dbm y m + d = (1461 * (y - 0)).fdiv 4 - (y - 0).fdiv 100 + ((y - 0).fdiv 100).fdiv 4 + (979 * (m + 12 * 0) - 2919).fdiv 32 + d - 306 := by
  have q := ord_lawDay (y := y) (d := d) h1 h2
  unfold lawDay ordOf at q
  rw [if_neg h] at q
  exact q
/-- a turn's end where the body leaves by its end alone -/
def CellPost (h₀ : Heap) (L : Addr) (J : (Str → Option Value) → List (Addr × Obj) → Prop) (own : List (Addr × Obj)) (adr : List Addr) (s₁ : Shared) (f : Flow) (s₂ : Shared) : Prop :=
  match f with
  | .next => InvEndN h₀ L J own adr s₁ s₂
  | _ => False
/-- what holds between the turns: the letters c of the ledger, the names that the turn stores left open -/
def CellInv {σ : Type} (Led : σ → List (Addr × Obj)) (Facts : σ → Prop) (stored : List Str) (m₀ : Str → Option Value) (P : List Int → σ → Prop) (pre : List Int) (m : Str → Option Value) (nx : List (Addr × Obj)) : Prop :=
  ∃ c : σ, nx = Led c ∧ Facts c ∧ P pre c ∧ ∀ z, stored.contains z = false → m z = m₀ z
section
variable {prog : Program} {w : World} {A : Around} {E : Value → Shared → Prop} {s : Shared} {env : Env} {h₀ : Heap} {body : List Stmt} {Q : Flow → Shared → Prop}
theorem cell_frame {L : Addr} {h : Heap} {stored : List Str} {m₀ m₁ : Str → Option Value} (h2 : ∀ z, stored.contains z = false → m₁ z = m₀ z) (F : Fr h₀ L h m₁) :
    Fr h₀ L h (fun z => if stored.contains z = true then m₁ z else m₀ z) := by
  have e : (fun z => if stored.contains z = true then m₁ z else m₀ z) = m₁ := by
    funext z
    cases q : stored.contains z with
    | true => rw [if_pos rfl]
    | false => rw [if_neg (by decide), h2 z q]
  rw [e]
  exact F
theorem take_snoc (ns : List Int) (i : Nat) (h : i < ns.length) : ns.take (i + 1) = ns.take i ++ [ns[i]] := by
  rw [List.take_add_one, List.getElem?_eq_getElem h]
  rfl
theorem take_cut (ns : List Int) (i : Nat) (h : i < ns.length) : ns = ns.take i ++ ns[i] :: ns.drop (i + 1) := by
  have ht := List.take_append_drop (i + 1) ns
  rw [take_snoc ns i h, List.append_assoc] at ht
  exact ht.symm
theorem mem_size {own : List (Addr × Obj)} {b : Addr} {p : Addr × Obj} (h : p ∈ own.filter fun p => decide (p.1 = b)) : p ∈ own ∧ p.1 = b := by
  have q := List.mem_filter.mp h
  exact ⟨q.1, of_decide_eq_true q.2⟩
/-- a loop over a list of ints that the call has made, its target a captured name: the turn begins with the store -/
theorem cell_loop {σ : Type} {x : Str} {px : Pos} {l : Addr} {vs : List Value} {ns : List Int} {nn : Nat} {m₀ : Str → Option Value} (Led : σ → List (Addr × Obj)) (Facts : σ → Prop) (stored : List Str) (P : List Int → σ → Prop) (c₀ : σ)
    (hh : A.handled = none) (hl : ∀ c : σ, (l, listOf vs.toArray nn) ∈ Led c) (hi : IntsAre vs ns) (F : Fr h₀ env.locals s.heap m₀) (N : News h₀ env.locals s.heap (Led c₀)) (hf : Facts c₀) (hp : P [] c₀)
    (turn : ∀ (c : σ) pre post n t (u : Str → Option Value) (s₁ : Shared) h tk own, ns = pre ++ n :: post → n ∈ ns → OwnOff own ((Led c₀).map (·.1)) → Facts c → P pre c →
      Fr h₀ env.locals h (fun z => if stored.contains z = true then u z else m₀ z) → News h₀ env.locals h (Led c ++ own) →
      wpAny (model prog w) A (storeName env x (.int n t)) (fun _ s₃ => wpAny (model prog w) A (execs body env) (CellPost h₀ env.locals (CellInv Led Facts stored m₀ P (pre ++ [n])) own ((Led c₀).map (·.1)) { s₁ with heap := h, toks := tk }) E s₃) E { s₁ with heap := h, toks := tk })
    (done : ∀ (c : σ) (u : Str → Option Value) h tk, Facts c → P ns c → Fr h₀ env.locals h (fun z => if stored.contains z = true then u z else m₀ z) → News h₀ env.locals h (Led c) → Q .next { s with heap := h, toks := tk }) :
    wpAny (model prog w) A (pyIter (.ref l)) (fun it s₂ => LoopAtT prog w A h₀ env (.Name x px) body Q E it s₂) E s := by
  have hol : s.heap.get? l = some (listOf vs.toArray nn) := (N _ (hl c₀)).1
  have hls : s.heap.IsList l vs.toArray := ⟨_, hol, rfl, nn, rfl⟩
  have hne : l ≠ s.heap.objs.size := Nat.ne_of_lt (Heap.lt_size hol)
  have hsz : ∀ q ∈ Led c₀, q.1 ≠ s.heap.objs.size := fun q hq => Nat.ne_of_lt (Heap.lt_size (N q hq).1)
  refine wpAny_pyIter_list hls ?_
  have W := Walks.list (prog := prog) (w := w) hh s.heap.objs.size l hne vs.toArray
  have hlen : vs.toArray.size = ns.length := List.size_toArray.trans hi.length
  rw [hlen] at W
  refine ⟨_, _, _, ns.length, _, _, m₀, Led c₀, (fun i m nx => nx.map (·.1) = (Led c₀).map (·.1) ∧ CellInv Led Facts stored m₀ P (ns.take i) m nx), rfl, W, ?_, ?_, ?_, ⟨⟨_, Heap.get?_push_size _ rfl, rfl, rfl⟩, hls.at fun o e => Heap.get?_push_of_some _ e⟩, F.push _, (fun p hp => ⟨Heap.get?_push_of_some _ (N p hp).1, (N p hp).2⟩), (fun i s' v Q' st hQ' => letGo_listiter st.1 hQ'), ⟨rfl, c₀, rfl, hf, hp, fun _ _ => rfl⟩, ?_, ?_⟩
  · intro hm
    rcases List.mem_cons.mp hm with e | hm
    · exact absurd F.ns.lt (e ▸ Nat.lt_irrefl _)
    · exact (N _ (hl c₀)).2.1 ((List.mem_singleton.mp hm).symm)
  · intro b hb
    rw [List.mem_singleton.mp hb]
    exact next_is_new F
  · intro p hp hI
    exact hsz p hp (List.mem_singleton.mp hI)
  · rintro i v m₁ news₁ s₁ own hin hP ⟨hadr, c, rfl, hf', hp', h2⟩ hoff hown hget hfp _ F₁ N₁
    have hlt : i < ns.length := hin
    obtain ⟨t, hx⟩ := hi.get i ns[i] (List.getElem?_eq_getElem hlt)
    have hv : v = .int ns[i] t := by
      have hP' : vs[i]? = some v := (List.getElem?_toArray).symm.trans hP
      rw [hx] at hP'
      exact (Option.some.inj hP').symm
    subst hv
    have hs := take_snoc ns i hlt
    have e := take_cut ns i hlt
    have hlo : s₁.heap.get? l = some (listOf vs.toArray nn) := (N₁ _ (List.mem_append_right _ (hl c))).1
    refine wpAny_assign_Name ?_
    have hsep : OwnOff (own.filter fun p => decide (p.1 = s.heap.objs.size)) ((Led c₀).map (·.1)) := by
      intro p hp b hb e
      obtain ⟨q, hq, rfl⟩ := List.mem_map.mp hb
      exact hsz q hq (e.symm.trans (mem_size hp).2)
    have N₂ : News h₀ env.locals s₁.heap (Led c ++ own.filter fun p => decide (p.1 = s.heap.objs.size)) := fun p hp => N₁ p ((List.mem_append.mp hp).elim (fun h => List.mem_append_right _ h) fun h => List.mem_append_left _ (mem_size h).1)
    refine wpAny_mono (turn c _ _ ns[i] t m₁ s₁ s₁.heap s₁.toks _ e (List.getElem_mem hlt) hsep hf' hp' (cell_frame h2 F₁) N₂) (fun _ s₃ h₃ => wpAny_mono h₃ (fun f s₄ h₄ => ?_) fun _ _ x => x) fun _ _ x => x
    cases f with
    | ret v => exact h₄.elim
    | brk => exact h₄.elim
    | cont => exact h₄.elim
    | next =>
      obtain ⟨h', tk, m', news', nx, e', F', N', hn, ho, ha, hS⟩ := h₄
      rw [← hs] at hS
      refine ⟨rfl, h', tk, m', nx, e', F', fun p hp => ?_, fun p hp hq => ?_, ha, hS⟩
      · rcases List.mem_append.mp hp with h | h
        · by_cases hI : p.1 = s.heap.objs.size
          · exact N' p (ho p (List.mem_filter.mpr ⟨h, decide_eq_true hI⟩))
          · have h1 : p.1 = l := by
              rcases List.mem_cons.mp (hown p h) with h2 | h2
              · exact absurd h2 hI
              · exact List.mem_singleton.mp h2
            have h3 := hget p h
            rw [h1, hlo] at h3
            have h4 : p = (l, listOf vs.toArray nn) := Prod.ext h1 (Option.some.inj h3).symm
            obtain ⟨c', rfl, _⟩ := hS
            rw [h4]
            exact N' _ (hn _ (hl c'))
        · exact N' p (hn p h)
      · have h1 : p.1 ∈ (Led c₀).map (·.1) := ha ▸ List.mem_map.mpr ⟨p, hp, rfl⟩
        obtain ⟨q, hq1, hq2⟩ := List.mem_map.mp h1
        exact hsz q hq1 (by rw [hq2]; exact List.mem_singleton.mp hq)
  · rintro h' tk m' news' F' N' _ ⟨_, c, rfl, hf', hp', h2⟩
    rw [List.take_length] at hp'
    exact done c m' h' tk hf' hp' (cell_frame h2 F') N'
def DaysOk (pre ks : List Int) : Prop := ks.length ≤ 33 * pre.length ∧ ∀ d ∈ ks, Builtin.Int.intBits d ≤ 1100000
abbrev DaysLed (D l2 D' ld lc : Addr) (oD o2 oD' : Obj) (c : Obj × List Value × List Int × Nat) : List (Addr × Obj) := [(D, oD), (l2, o2), (D', oD'), (ld, listOf c.2.1.toArray c.2.2.2), (lc, c.1)]
abbrev DaysFacts (c : Obj × List Value × List Int × Nat) : Prop := (∃ v, c.1.data = .cell v) ∧ IntsAre c.2.1 c.2.2.1
abbrev DaysInv (D l2 D' ld lc : Addr) (oD o2 oD' : Obj) (stored : List Str) (m₀ : Str → Option Value) (pre : List Int) (m : Str → Option Value) (nx : List (Addr × Obj)) : Prop :=
  CellInv (DaysLed D l2 D' ld lc oD o2 oD') DaysFacts stored m₀ (fun pre c => DaysOk pre c.2.2.1) pre m nx
/-- the loop that fills the list of days -/
theorem days_loop {x : Str} {px : Pos} {D l2 D' ld lc : Addr} {o2 oD' w₀ : Obj} {cv : Option Value} {vs : List Value} {ns : List Int} {nn : Nat} {m₀ : Str → Option Value} (stored : List Str)
    (hh : A.handled = none) (hi : IntsAre vs ns) (hlen : ns.length ≤ 65) (F : Fr h₀ env.locals s.heap m₀) (N : News h₀ env.locals s.heap [(D, listOf vs.toArray nn), (l2, o2), (D', oD'), (ld, listOf #[] 0), (lc, w₀)]) (hc : w₀.data = .cell cv)
    (turn : ∀ (o : Obj) (v₀ : Option Value) (us : List Value) (ks : List Int) (cap : Nat) pre post n t (u : Str → Option Value) (s₁ : Shared) h tk own, ns = pre ++ n :: post → n ∈ ns → OwnOff own [D, l2, D', ld, lc] → o.data = .cell v₀ → IntsAre us ks → DaysOk pre ks → ks.length ≤ 2112 →
      Fr h₀ env.locals h (fun z => if stored.contains z = true then u z else m₀ z) → News h₀ env.locals h ((D, listOf vs.toArray nn) :: (l2, o2) :: (D', oD') :: (ld, listOf us.toArray cap) :: (lc, o) :: own) →
      wpAny (model prog w) A (storeName env x (.int n t)) (fun _ s₃ => wpAny (model prog w) A (execs body env) (CellPost h₀ env.locals (DaysInv D l2 D' ld lc (listOf vs.toArray nn) o2 oD' stored m₀ (pre ++ [n])) own [D, l2, D', ld, lc] { s₁ with heap := h, toks := tk }) E s₃) E { s₁ with heap := h, toks := tk })
    (done : ∀ (o : Obj) (us : List Value) (ks : List Int) (cap : Nat) (u : Str → Option Value) h tk, IntsAre us ks → DaysOk ns ks → ks.length ≤ 2145 → Fr h₀ env.locals h (fun z => if stored.contains z = true then u z else m₀ z) → News h₀ env.locals h [(D, listOf vs.toArray nn), (l2, o2), (D', oD'), (ld, listOf us.toArray cap), (lc, o)] → Q .next { s with heap := h, toks := tk }) :
    wpAny (model prog w) A (pyIter (.ref D)) (fun it s₂ => LoopAtT prog w A h₀ env (.Name x px) body Q E it s₂) E s := by
  refine cell_loop (DaysLed D l2 D' ld lc (listOf vs.toArray nn) o2 oD') DaysFacts stored (fun pre c => DaysOk pre c.2.2.1) (w₀, [], [], 0) hh (fun c => List.mem_cons_self) hi F N ⟨⟨cv, hc⟩, .nil⟩ ⟨Nat.zero_le _, fun _ h => nomatch h⟩ ?_ ?_
  · rintro ⟨o, us, ks, cap⟩ pre post n t u s₁ h tk own e hm hoff ⟨⟨v₀, hv⟩, hi'⟩ hp F' N'
    have q := congrArg List.length e
    rw [List.length_append, List.length_cons] at q
    exact turn o v₀ us ks cap pre post n t u s₁ h tk own e hm hoff hv hi' hp (by have q1 := hp.1; dsimp only at q1; omega) F' N'
  · rintro ⟨o, us, ks, cap⟩ u h tk ⟨_, hi'⟩ hp F' N'
    exact done o us ks cap u h tk hi' hp (by have q1 := hp.1; dsimp only at q1; omega) F' N'
theorem days_end {L : Addr} {D l2 D' ld lc : Addr} {oD o2 oD' o : Obj} {cv : Option Value} {us : List Value} {ks : List Int} {cap : Nat} {stored : List Str} {m₀ m' : Str → Option Value} {pre : List Int} {own news' : List (Addr × Obj)} {s₁ : Shared} {h' : Heap} {tk : Nat}
    (F : Fr h₀ L h' m') (N : News h₀ L h' news') (hn : ∀ p ∈ [(D, oD), (l2, o2), (D', oD'), (ld, listOf us.toArray cap), (lc, o)], p ∈ news') (ho : ∀ p ∈ own, p ∈ news') (hc : o.data = .cell cv) (hi : IntsAre us ks) (hp : DaysOk pre ks) (same : ∀ z, stored.contains z = false → m' z = m₀ z) :
    InvEndN h₀ L (DaysInv D l2 D' ld lc oD o2 oD' stored m₀ pre) own [D, l2, D', ld, lc] s₁ { s₁ with heap := h', toks := tk } :=
  InvEndN.intro F N ⟨(o, us, ks, cap), rfl, ⟨⟨cv, hc⟩, hi⟩, hp, same⟩ rfl hn ho
theorem divmod_made {a b : Int} {ta tb : Tok} {L : Addr} {m : Str → Option Value} {news : List (Addr × Obj)} {Q : Value → Shared → Prop} (F : Fr h₀ L s.heap m) (N : News h₀ L s.heap news) (hb : b ≠ 0)
    (h : ∀ (D : Addr) (h' : Heap) (t1 t2 : Tok) (tk : Nat), Fr h₀ L h' m → News h₀ L h' ((D, ({ cls := .type "tuple", data := .seq #[.int (a.fdiv b) t1, .int (a.fmod b) t2] } : Obj)) :: news) → (∀ p ∈ news, p.1 < D) → Q (.ref D) { s with heap := h', toks := tk })
    (hp : Builtin.divisionGoesByPylong a b = false ∨ PySem.PylongRoom (model prog w) A s) :
    wpAny (model prog w) A (call (.builtin "divmod") [.int a ta, .int b tb]) Q E s :=
  divmod_N F N hb (fun h' F' N' => h _ h' _ _ _ F' N' fun p hq => Heap.lt_size (N p hq).1) hp
theorem divmod_to {a b q r : Int} {ta tb : Tok} {L : Addr} {m : Str → Option Value} {news : List (Addr × Obj)} {Q : Value → Shared → Prop} (e : a.fdiv b = q) (f : a.fmod b = r) (F : Fr h₀ L s.heap m) (N : News h₀ L s.heap news) (hb : b ≠ 0)
    (h : ∀ (D : Addr) (h' : Heap) (t1 t2 : Tok) (tk : Nat), Fr h₀ L h' m → News h₀ L h' ((D, ({ cls := .type "tuple", data := .seq #[.int q t1, .int r t2] } : Obj)) :: news) → (∀ p ∈ news, p.1 < D) → Q (.ref D) { s with heap := h', toks := tk })
    (hp : Builtin.divisionGoesByPylong a b = false ∨ PySem.PylongRoom (model prog w) A s) :
    wpAny (model prog w) A (call (.builtin "divmod") [.int a ta, .int b tb]) Q E s := by
  subst e f
  exact divmod_made F N hb h hp
theorem ext_ints {L D b : Addr} {m : Str → Option Value} {news news' : List (Addr × Obj)} {us vs : List Value} {ks js : List Int} {n n2 : Nat} {Q : Value → Shared → Prop} (F : Fr h₀ L s.heap m) (N : News h₀ L s.heap news) (hb : (b, listOf vs.toArray n2) ∈ news) (hi : IntsAre us ks) (hj : IntsAre vs js)
    (U : Upd D (listOf us.toArray n) (listOf (us ++ vs).toArray (n + 1)) news news') (hne : js.length ≠ 0) (hsz : ks.length + js.length ≤ 100000)
    (h : ∀ h', Fr h₀ L h' m → News h₀ L h' news' → IntsAre (us ++ vs) (ks ++ js) → Q .none { s with heap := h' }) : wpAny (model prog w) A (call (.builtin "list.extend") [.ref D, .ref b]) Q E s := by
  have e1 := hi.length
  have e2 := hj.length
  have hz := PySem.sizeLine_eq
  refine kl_extend F N hb (l := us ++ vs) rfl (by show vs.length ≠ 0; omega) U ?_ (by show us.length ≤ sizeLine; omega) (by show us.length + vs.length ≤ sizeLine + 1; omega) fun h' F' N' => h h' F' N' (IntsAre.append hi hj)
  intro q
  have q2 := (Bool.and_eq_true _ _ ▸ q).2
  have q4 : us.length + vs.length > sizeLine := of_decide_eq_true q2
  omega
end
theorem days_ok {pre ks js : List Int} {n a b c : Int} (h : DaysOk pre ks) (hl : js.length ≤ 30) (hj : ∀ d ∈ js, Builtin.Int.intBits d ≤ 1100000) (ha : Builtin.Int.intBits a ≤ 1100000) (hb : Builtin.Int.intBits b ≤ 1100000) (hc : Builtin.Int.intBits c ≤ 1100000) :
    DaysOk (pre ++ [n]) (ks ++ js ++ [a, b, c]) := by
  obtain ⟨h1, h2⟩ := h
  refine ⟨?_, ?_⟩
  · rw [List.length_append, List.length_append, List.length_append, List.length_cons, List.length_cons, List.length_cons, List.length_nil, List.length_cons, List.length_nil]
    omega
  · intro d hd
    rcases List.mem_append.mp hd with hd | hd
    · rcases List.mem_append.mp hd with hd | hd
      · exact h2 d hd
      · exact hj d hd
    · rcases List.mem_cons.mp hd with rfl | hd
      · exact ha
      · rcases List.mem_cons.mp hd with rfl | hd
        · exact hb
        · rw [List.mem_singleton.mp hd]
          exact hc
theorem run_ok {n : Int} (h : Builtin.Int.intBits n ≤ 1048576) : ∀ d ∈ List.map (fun k => n + 29 * k) (rangeKs 0 (30 - 0 : Int).toNat), Builtin.Int.intBits d ≤ 1100000 := by
  intro d hd
  obtain ⟨k, hk, rfl⟩ := List.mem_map.mp hd
  have q := mem_rangeKs hk
  have q2 : ((30 - 0 : Int).toNat : Int) = 30 := by decide
  rw [q2] at q
  refine Nat.le_trans (bits_add h (PySem.intBits_le_64 (by omega) (by omega))) (by decide)
theorem run_len {n : Int} : (List.map (fun k => n + 29 * k) (rangeKs 0 (30 - 0 : Int).toNat)).length ≤ 30 := by
  rw [List.length_map, rangeKs_length]
  decide
theorem off_stored {stored : List Str} {z v : Str} (hz : stored.contains z = false) (hv : stored.contains v = true) : z ≠ v := fun e => by
  rw [e, hv] at hz
  cases hz
theorem not_stored {stored : List Str} {z : Str} (hz : stored.contains z = false) : ¬ stored.contains z = true := by
  rw [hz]
  decide
/-- the tuple that the comprehension walks over lies in the ledger -/
def TySrc (ax : Addr) (its : Array Value) (news : List (Addr × Obj)) : Prop := ∃ o, (ax, o) ∈ news ∧ o.cls = .type "tuple" ∧ ∃ n, o.data = .seq its n
def TyEnd (h₀ : Heap) (L : Addr) (m : Str → Option Value) (s₁ : Shared) (led : List (Addr × Obj)) (y : Value) (s₂ : Shared) : Prop :=
  ∃ h' tk, s₂ = { s₁ with heap := h', toks := tk } ∧ Fr h₀ L h' m ∧ News h₀ L h' led ∧ y = .type "int"
theorem ty_end {h₀ : Heap} {L : Addr} {m : Str → Option Value} {s₁ : Shared} {led all : List (Addr × Obj)} {h' : Heap} {tk : Nat} (F : Fr h₀ L h' m) (N : News h₀ L h' all) (sub : ∀ p ∈ led, p ∈ all) :
    TyEnd h₀ L m s₁ led (.type "int") { s₁ with heap := h', toks := tk } := ⟨h', tk, rfl, F, fun p hp => N p (sub p hp), rfl⟩
def TupSrc (prog : Program) (w : World) (A : Around) (h₀ : Heap) (L : Addr) (m : Str → Option Value) (env : Env) (elt : Expr) (x : Str) (scope : Scope) (cl : List (Str × Addr)) (Fin : Shared → List Value → List (Addr × Obj) → Prop) (xv : Value) (s₁ : Shared) : Prop :=
  ∃ ax its news, xv = .ref ax ∧ A.handled = none ∧ Fr h₀ L s₁.heap m ∧ News h₀ L s₁.heap news ∧ TySrc ax its news ∧ its.size ≤ sizeLine ∧
    ∀ s₂ : Shared, (∃ h, s₂ = { s₁ with heap := h }) → LCg.CompRest prog w A h₀ L m env elt x scope cl s₂ (TySrc ax its) (fun i v => its[i]? = some v) (Fin s₂) its.size 0 [] news
section
variable {prog : Program} {w : World} {A : Around} {E : Value → Shared → Prop} {s : Shared} {h₀ : Heap} {L : Addr} {m : Str → Option Value} {env : Env} {elt iter : Expr} {x : Str} {px : Pos} {scope : Scope} {cl : List (Str × Addr)} {pos : Pos} {Q : Value → Shared → Prop}
theorem TySrc.tuple {h : Heap} {ax : Addr} {its : Array Value} {news : List (Addr × Obj)} (t : TySrc ax its news) (N : News h₀ L h news) : h.IsTuple ax its := by
  obtain ⟨o, hm, r⟩ := t
  exact ⟨o, (N _ hm).1, r⟩
theorem tuple_st {ax I : Addr} {its : Array Value} : ∀ i (h h' : Heap) (o : Obj) (nw : List (Addr × Obj)), (h.IsTupleIter I ax i ∧ h.IsTuple ax its) → h.get? I = some o → h'.get? I = some o → (∀ b o, h₀.get? b = some o → h'.get? b = some o) → News h₀ L h' nw → TySrc ax its nw → (h'.IsTupleIter I ax i ∧ h'.IsTuple ax its) :=
  fun i h h' o nw st e e' k N S => ⟨by obtain ⟨o', q, r⟩ := st.1; rw [e] at q; cases q; exact ⟨o, e', r⟩, S.tuple N⟩
/-- a comprehension over a tuple that the call has made -/
theorem comp_tuple (_F₀ : Fr h₀ L s.heap m)
    (hclos : closureFor scope env = pure cl) (hcell : ∀ y ∈ scope.names, y.2 ≠ .cell) (hkind : scope.kind = .function)
    (hnames : ∀ y ∈ scope.names, y.2 = .local → scope.names.lookup y.1 = some .local) (hx : scope.names.lookup x = some .local)
    (h : wpAny (model prog w) A (eval iter env) (TupSrc prog w A h₀ L m env elt x scope cl (fun s₂ => LCg.FinE h₀ L m s₂ Q)) E s)
    (hs : ∀ x, foldedSetIterable iter env x = pure x := by intro _; rfl) :
    wpAny (model prog w) A (eval (.ListComp elt [⟨.Name x px, iter, [], 0⟩] scope pos) env) Q E s := by
  rw [eval_ListComp]
  refine wpAny_comprehension_free (use := none) rfl hs hclos hkind hnames (wpAny_mono h (fun xv s₁ h₁ => ?_) fun _ _ e => e)
  obtain ⟨ax, its, news, rfl, hh, F, N, S, hsz, R⟩ := h₁
  have hl : s₁.heap.IsTuple ax its := S.tuple N
  have hlt : ax < s₁.heap.objs.size := by obtain ⟨_, e, _⟩ := hl; exact Heap.lt_size e
  refine wpAny_pyIter_tuple hl ?_
  have up : ∀ b o, s₁.heap.get? b = some o → (s₁.heap.push { cls := .type "tuple_iterator", data := .fields #[.ref ax, .int 0 0] }).get? b = some o := fun b o e => Heap.get?_push_of_some _ e
  refine LCg.block_U (Walks.tuple hh s₁.heap.objs.size ax (Nat.ne_of_lt hlt) its) hsz (fun i h st => by obtain ⟨o, e, _⟩ := st.1; exact ⟨o, e⟩) tuple_st hcell hkind hx ⟨⟨_, Heap.get?_push_size _ rfl, rfl, rfl⟩, hl.push _⟩ (fun b hb => ?_)
    (F.keeps up) (N.grown up) (Nat.ne_of_lt F.ns.lt) (next_is_new F) (fun p hp => Nat.ne_of_lt (Heap.lt_size (N p hp).1)) S (R _ ⟨_, rfl⟩) ?_
  · show b < (s₁.heap.push _).objs.size
    rw [Heap.size_push]
    rcases List.mem_cons.mp hb with rfl | hb
    · exact Nat.lt_succ_self _
    · rw [List.mem_singleton.mp hb]; exact Nat.lt_succ_of_lt hlt
  · intro D C h tk m' ys news' F' N' o1 hn hC₀ hD₀ hCL hDL hCD offC fin
    refine ⟨m', hn, fun h'' hs'' => fin D h'' tk (F'.change hs'' hCL hC₀) (fun p hp => ?_) o1⟩
    refine ⟨hs''.extBut _ _ ?_ (N' p hp).1, (N' p hp).2⟩
    rcases List.mem_cons.mp hp with rfl | hp
    · exact Ne.symm hCD
    · exact offC p hp
theorem ty_rest {S : List (Addr × Obj) → Prop} {P : Nat → Value → Prop} {Fin : List Value → List (Addr × Obj) → Prop} {news : List (Addr × Obj)} {n : Nat} (hS : S news) (hP : ∀ i v, i < n → P i v → ∃ k t, v = .int k t)
    (turn : ∀ k t I oI C oC D m₂ ys h tk (E' : Value → Shared → Prop), LCg.NsObj oC m₂ → m₂ x = some (.int k t) → Fr h₀ L h m → News h₀ L h ((I, oI) :: (C, oC) :: (D, LCg.lst ys) :: news) → LCg.Off3 I C D news → ((@Ne Nat I C) ∧ (@Ne Nat I D) ∧ (@Ne Nat C D)) →
      wpAny (model prog w) A (eval elt (compEnvC scope cl C env)) (TyEnd h₀ L m { s with heap := h, toks := tk } ((I, oI) :: (C, oC) :: (D, LCg.lst ys) :: news)) E' { s with heap := h, toks := tk })
    (fin : Fin (List.replicate n (.type "int")) news) : LCg.CompRest prog w A h₀ L m env elt x scope cl s S P Fin n 0 [] news := by
  have key : ∀ (j i : Nat), i + j = n → LCg.CompRest prog w A h₀ L m env elt x scope cl s S P Fin j i (List.replicate i (.type "int")) news := by
    intro j
    induction j with
    | zero =>
      intro i hi
      have e : i = n := by omega
      subst e
      exact LCg.CompRest.zero fin
    | succ j ih =>
      intro i hi
      refine LCg.CompRest.succ ?_
      intro v I oI C oC D m₂ h tk E' hv hC hx F N off ne
      obtain ⟨k, t, hv'⟩ := hP i v (by omega) hv
      rw [hv'] at hx
      refine wpAny_mono (turn k t I oI C oC D m₂ _ h tk E' hC hx F N off ne) (fun y s₂ hq => ?_) fun _ _ e => e
      obtain ⟨h', tk', e, F', N', hy⟩ := hq
      refine ⟨h', tk', news, e, F', N', off, hS, ?_⟩
      subst hy
      rw [show List.replicate i (Value.type "int") ++ [.type "int"] = List.replicate (i + 1) (.type "int") from (List.replicate_succ' ..).symm]
      exact ih (i + 1) (by omega)
  exact key n 0 (by omega)
theorem tup_src {ax : Addr} {a b c : Int} {ta tb tc : Tok} {n : Nat} {news : List (Addr × Obj)} (hh : A.handled = none) (F : Fr h₀ L s.heap m) (N : News h₀ L s.heap news)
    (hm : (ax, ({ cls := .type "tuple", data := .seq #[.int a ta, .int b tb, .int c tc] n } : Obj)) ∈ news)
    (turn : ∀ k t I oI C oC D m₂ ys h tk (E' : Value → Shared → Prop), LCg.NsObj oC m₂ → m₂ x = some (.int k t) → Fr h₀ L h m → News h₀ L h ((I, oI) :: (C, oC) :: (D, LCg.lst ys) :: news) → LCg.Off3 I C D news → ((@Ne Nat I C) ∧ (@Ne Nat I D) ∧ (@Ne Nat C D)) →
      wpAny (model prog w) A (eval elt (compEnvC scope cl C env)) (TyEnd h₀ L m { s with heap := h, toks := tk } ((I, oI) :: (C, oC) :: (D, LCg.lst ys) :: news)) E' { s with heap := h, toks := tk })
    (fin : ∀ D h tk, Fr h₀ L h m → News h₀ L h ((D, LCg.lst [.type "int", .type "int", .type "int"]) :: news) → Q (.ref D) { s with heap := h, toks := tk }) :
    TupSrc prog w A h₀ L m env elt x scope cl (fun s₂ => LCg.FinE h₀ L m s₂ Q) (.ref ax) s := by
  have S : TySrc ax #[.int a ta, .int b tb, .int c tc] news := ⟨_, hm, rfl, n, rfl⟩
  refine ⟨ax, _, news, rfl, hh, F, N, S, Nat.le_of_ble_eq_true rfl, ?_⟩
  rintro _ ⟨g, rfl⟩
  refine ty_rest S ?_ ?_ ?_
  · intro i v hi hv
    have hi' : i < 3 := hi
    rcases (show i = 0 ∨ i = 1 ∨ i = 2 by omega) with rfl | rfl | rfl
    · exact ⟨a, ta, (Option.some.inj hv).symm⟩
    · exact ⟨b, tb, (Option.some.inj hv).symm⟩
    · exact ⟨c, tc, (Option.some.inj hv).symm⟩
  · intro k t I oI C oC D m₂ ys h tk E' hC hx F' N' off ne
    exact turn k t I oI C oC D m₂ ys h tk E' hC hx F' N' off ne
  · intro D h tk F' N' _
    exact fin D h tk F' N'
/-- two made lists of the same three types are no different lists -/
theorem ne_types {a b : Addr} {n n2 : Nat} {oa ob : Obj} {v1 v2 v3 : Value} {news : List (Addr × Obj)} (N : News h₀ L s.heap news) (ha : (a, oa) ∈ news) (hb : (b, ob) ∈ news)
    (ca : oa.cls = .type "list") (da : oa.data = .seq #[v1, v2, v3] n) (cb : ob.cls = .type "list") (db : ob.data = .seq #[v1, v2, v3] n2) (hu : A.units + 64 < cLine) (h : Q (.bool false) s) :
    wpAny (model prog w) A (compareOp .NotEq (.ref a) (.ref b)) Q E s :=
  (PySem.SeqAt.RcNeAt.lists (e := fun _ => true) (items := #[v1, v2, v3]) (items2 := #[v1, v2, v3]) ⟨_, (N _ ha).1, ca, n, da⟩ ⟨_, (N _ hb).1, cb, n2, db⟩ rfl (Nat.lt_of_le_of_lt (Nat.le_add_right _ _) hu)
    fun _ _ _ => PySem.SeqAt.EqAt.same _) prog w E Q h
end
theorem bits_item2 {ns : List Int} {k : Nat} {c d n : Int} (h : PyData.layable0 (.list (ns.map .int)) = true) (hm : n ∈ ns.take k ++ [c, d]) (hc : c.natAbs < 2 ^ 64 := by decide) (hd : d.natAbs < 2 ^ 64 := by decide) : Builtin.Int.intBits n ≤ 1048576 := by
  rcases List.mem_append.mp hm with h1 | h1
  · exact intBits_le_of_item (List.mem_of_mem_take h1) h
  · rcases List.mem_cons.mp h1 with e | h2
    · rw [e]
      exact Nat.le_trans (intBits_le_iff.mpr hc) (by decide)
    · rw [List.mem_singleton.mp h2]
      exact Nat.le_trans (intBits_le_iff.mpr hd) (by decide)
inductive InDate : Prop
  | mk : InDate
theorem bits_pre1 {y : Int} (h : Builtin.Int.intBits y ≤ 1200000) : Builtin.Int.intBits y ≤ 1200000 := h
theorem parts_bits {n a b c d r r1 r2 r3 m : Int} (P : Parts n a b c d r r1 r2 r3 m) (h : Builtin.Int.intBits n ≤ 1100000) : Builtin.Int.intBits a ≤ 1100001 := by
  rw [← P.e1]
  exact bits_fdiv (Nat.le_trans (bits_sub h (PySem.intBits_le_64 (by decide) (by decide))) (by decide))
theorem topList {prog : Program} {w : World} {A : Around} {E : Value → Shared → Prop} {s : Shared} {K : Frag} {h₀ : Heap} {L a : Addr} {m : Str → Option Value} {n : Nat} {value slice : PySem.Expr} {l : List Value} {ns : List Int} {dd : Option Addr} {sl : Array (Option Value)} {k : Int} {u : Tok} {Q : Value → Shared → Prop}
    (F : Fr h₀ L s.heap m) (X : K.In h₀) (hl : K.lookup a = some ⟨.type "list", dd, .seq l.toArray n, sl⟩) (hi : IntsAre l ns) (h0 : 0 ≤ k) (h1 : k < ns.length) (hfit : k < 2 ^ 63) (h : ∀ t, Q (.int (ns.getD k.toNat 0) t) s)
    (hs : subscripted slice false (.ref a) (.int k u) = operate [.ref a, .int k u] (getItem (.ref a) (.int k u)) := by with_unfolding_all rfl) :
    wpAny (model prog w) A (subscriptTail value slice (.ref a) (.int k u)) Q E s :=
  item_anyK (lstK (X.keeps F.keep) hl) hi h0 h1 hfit h hs
theorem bits_day {ns ks : List Int} {n : Int} (h : DaysOk ns ks) (hm : n ∈ ks) : Builtin.Int.intBits n ≤ 1100000 := h.2 n hm
end Mine
open Mine
local macro_rules | `(tactic| bits_by_make) => `(tactic| first
  | (exact Mine.bits_item2 (by with_reducible assumption) (by with_reducible assumption)))
local macro_rules | `(tactic| walk_at "exec For Name BinOp cons nil") => `(tactic| (k_here; (rename Fr _ _ _ _ => lF'); (with_unfolding_all refine' For_invTF lF' ?_ ?k2; (case k2 => (intro _; rfl)); k_whole)))
local macro_rules | `(tactic| walk_at "pyIter ref") => `(tactic| (k_here; (with_reducible show wpAny _ _ (pyIter (Value.ref _)) (fun it s₂ => LoopAtT _ _ _ _ _ _ _ _ _ it s₂) _ _); (rename Fr _ _ _ _ => lF'); (rename News _ _ _ _ => lN'); (with_unfolding_all refine' Mine.days_loop [Str.ofString "turns", Str.ofString "rest", Str.ofString "last"] ?k1 ?k2 ?k4 lF' lN' ?k3 (fun kO kV kUs kKs kCap kPre kPost kN kT kU kS kH kTk kOwn kEq kMem kOff kCell kIs kInv kLen kFr kNews => ?_) (fun kO kUs kKs kCap kU kH kTk kIs kInv kLen kFr kNews => ?_); (case k1 => rfl); (case k2 => assumption); (case k4 => (simp only [List.length_append, List.length_cons, List.length_nil, List.length_take]; omega)); (case k3 => assumption)); (all_goals clear lF' lN'); (all_goals (have kMark : KstMark := kstMark)); (all_goals (try k_fold))))
local macro_rules | `(tactic| walk_at "call builtin:list.extend") => `(tactic| (k_here; (with_reducible show wpAny _ _ (call (Value.builtin _) [Value.ref _, Value.ref _]) _ _ _); k_dflt (refine' Mine.ext_ints ?F ?N ?b ?i ?j ?U ?ne ?sz ?_; (case F => k_asm); (case N => k_asm); (case b => k_mem); (case U => k_upd); (case i => assumption); (case j => first | assumption | l_ints); (case ne => ((try simp only [List.length_append, List.length_cons, List.length_nil, List.length_map, rangeKs_length]); (try omega))); (case sz => ((try simp only [List.length_append, List.length_cons, List.length_nil, List.length_map, rangeKs_length]); omega))); intro h' F' N' i'; (try dsimp only at N'); (try k_sweep)))
local macro_rules | `(tactic| walk_at "call builtin:divmod") => `(tactic| k_extra "call builtin:divmod")
local macro_rules | `(tactic| walk_at "binaryOp RShift int int") => `(tactic| k_extra "binaryOp RShift int int")
local macro_rules | `(tactic| walk_at "InvEndN") => `(tactic| (k_dflt (refine' Mine.days_end ?F ?N ?hn ?ho ?hc ?hi ?hp ?same; (case F => k_asm); (case N => k_asm); (case hn => kcf_all); (case ho => kcf_all); (case hc => assumption); (case hi => assumption); (case hp => (refine' Mine.days_ok ?q0 ?q1 ?q2 ?q3 ?q4 ?q5; (case q0 => assumption); (case q1 => exact Mine.run_len); (case q2 => exact Mine.run_ok (Mine.bits_item2 (by with_reducible assumption) (by with_reducible assumption))); (case q3 => (refine' Nat.le_trans ?b1 ?b2; (case b1 => bits_by_make); (case b2 => decide))); (case q4 => (refine' Nat.le_trans ?b1 ?b2; (case b1 => bits_by_make); (case b2 => decide))); (case q5 => (refine' Nat.le_trans ?b1 ?b2; (case b1 => bits_by_make); (case b2 => decide))))); (case same => (intro z hz; (rw [if_neg (Mine.off_stored (v := Str.ofString "last") hz (by decide)), if_neg (Mine.off_stored (v := Str.ofString "rest") hz (by decide)), if_neg (Mine.off_stored (v := Str.ofString "turns") hz (by decide)), if_neg (Mine.not_stored hz)]))))))
local macro_rules | `(tactic| walk_at "InvEndN") => `(tactic| k_dflt ksr_close)
local macro_rules | `(tactic| walk_at "CellPost") => `(tactic| (dsimp only [Mine.CellPost]))
local macro_rules | `(tactic| walk_at "eval ListComp") => `(tactic| (k_here; (with_reducible show wpAny _ _ (eval (Expr.ListComp (Expr.Call (Expr.Name (Str.ofString "type") _) _ _ _) [⟨_, Expr.Name (Str.ofString "told") _, _, _⟩] _ _) _) _ _ _); k_dflt (refine' Mine.comp_tuple ?tcF ?tc1 ?tc2 ?tc3 ?tc4 ?tc5 ?_; (case tcF => k_asm); (case tc1 => with_unfolding_all rfl); (case tc2 => decide); (case tc3 => rfl); (case tc4 => decide); (case tc5 => rfl))))
local macro_rules | `(tactic| walk_at "TupSrc") => `(tactic| (k_here; k_dflt (refine' Mine.tup_src ?tsh ?tsF ?tsN ?tsm (fun k' t' I' oI' C' oC' D' m' ys' h' tk' E' hC' hx' F' N' off' ne' => ?_) (fun D' h' tk' F' N' => ?_); (case tsh => rfl); (case tsF => k_asm); (case tsN => k_asm); (case tsm => k_mem)); (all_goals (try k_fold))))
local macro_rules | `(tactic| walk_at "TyEnd") => `(tactic| (refine' Mine.ty_end ?teF ?teN ?teS; (case teF => assumption); (case teN => assumption); (case teS => kcf_all)))
local macro_rules | `(tactic| walk_at "compareOp NotEq ref ref") => `(tactic| (k_here; (with_reducible show wpAny _ _ (compareOp CmpOp.NotEq (Value.ref _) (Value.ref _)) _ _ _); k_dflt (refine' Mine.ne_types (v1 := Value.type "int") (v2 := Value.type "int") (v3 := Value.type "int") ?ntN ?nta ?ntb ?ntc ?ntd ?nte ?ntf ?ntu ?_; (case ntN => k_asm); (case nta => k_mem); (case ntb => k_mem); (case ntc => rfl); (case ntd => rfl); (case nte => rfl); (case ntf => rfl); (case ntu => ke_room))))
local macro_rules | `(tactic| bits_by_make) => `(tactic| first
  | k_extra "bits"
  | ((with_reducible refine Mine.bits_pre1 ?_); with_reducible assumption)
  | (exact Mine.bits_day (by with_reducible assumption) (by with_reducible assumption)))
local macro_rules | `(tactic| trivial) => `(tactic| ((try dsimp only); (with_reducible show Builtin.Int.intBits _ ≤ _); (refine' Nat.le_trans ?kb1 ?kb2; (case kb1 => bits_by_make); (case kb2 => decide))))
local macro_rules | `(tactic| walk_at "subscriptTail Name Name ref int") => `(tactic| (k_here; (with_reducible show wpAny _ _ (subscriptTail _ _ (Value.ref _) (Value.int _ _)) _ _ _); (with_unfolding_all refine' Mine.topList ?F ?X ?l ?i ?k3 ?k4 ?k5 ?_; (case F => k_asm); (case X => k_asm); (case l => k_is); (case i => l_ints); (case k3 => l_idx); (case k4 => l_idx); (case k5 => l_idx); k_whole); intro _))
local macro_rules | `(tactic| walk_at "eval Call") => `(tactic| ((first | (with_reducible show wpAny _ _ (eval (Expr.Call (Expr.Name (Str.ofString "_is_leap") _) _ _ _) _) _ _ _) | (with_reducible show wpAny _ _ (eval (Expr.Call (Expr.Name (Str.ofString "_law_day") _) _ _ _) _) _ _ _) | (with_reducible show wpAny _ _ (eval (Expr.Call (Expr.Name (Str.ofString "_ymd2ord") _) _ _ _) _) _ _ _) | (with_reducible show wpAny _ _ (eval (Expr.Call (Expr.Name (Str.ofString "_days_in_month") _) _ _ _) _) _ _ _) | (with_reducible show wpAny _ _ (eval (Expr.Call (Expr.Name (Str.ofString "_days_before_month") _) _ _ _) _) _ _ _) | (with_reducible show wpAny _ _ (eval (Expr.Call (Expr.Name (Str.ofString "_days_before_year") _) _ _ _) _) _ _ _)); k_dflt (refine Call_ ?_)))
local macro_rules | `(tactic| walk_at "eval Call") => `(tactic| k_extra "eval Call")
local macro_rules | `(tactic| walk_at "KCt3") => `(tactic| k_extra "KCt3")
local macro_rules | `(tactic| walk_at "leaving ref") => `(tactic| k_extra "leaving ref")
local macro_rules | `(tactic| trivial) => `(tactic| ((try dsimp only); (with_reducible show _ ≤ _ ∧ _ ≤ (12 : Int)); first | omega | k_extra "months"))

namespace Mine
set_option maxRecDepth 100000 in
set_option maxHeartbeats 8000000 in
open_top hd06 for PySem.Challenge.rw_dm0255_06
end Mine
set_option maxRecDepth 100000 in
set_option maxHeartbeats 8000000 in
theorem PySem.Challenge.cw_dm0255_06_holds : PySem.Challenge.rw_dm0255_06.Holds := by
  k_with "tree" => first | simp only [ordOf] | simp only [dbm] | simp only [dim] | simp only [dby] | simp only [leap] | simp only [lawDay]
  k_with "call ref" => first
    | k_call_by "_is_leap" leap
    | k_call_by "_days_before_year" dby (fun (y : Int) => Builtin.Int.intBits y ≤ 1200000)
    | k_call_rec "_days_in_month" dim (fun (_ m : Int) => 1 ≤ m ∧ m ≤ 12) (fun (_ _ : Int) => 1)
    | k_call_rec "_days_before_month" dbm (fun (_ m : Int) => 1 ≤ m ∧ m ≤ 12) (fun (_ _ : Int) => 1)
  k_with "bits" => first | exact hbA | exact hbY
  k_with "months" => (have q9 := month_two hPt (by (first | exact x_late (by assumption) (by assumption) | exact x_early (by assumption))) (by assumption); omega)
  k_with "leaving ref" =>
    exfalso
    first
      | omega
      | exact absurd (date_same hPt (by assumption) (by assumption) (by (first | exact x_late (by assumption) (by assumption) | exact x_early (by assumption))) (Int.not_lt.mp (by assumption))).2.1 (by assumption)
      | exact absurd (date_same hPt (by assumption) (by assumption) (by (first | exact x_late (by assumption) (by assumption) | exact x_early (by assumption))) (Int.not_lt.mp (by assumption))).2.2 (by assumption)
      | exact absurd (date_less hPt (by assumption) (by assumption) (by (first | exact x_late (by assumption) (by assumption) | exact x_early (by assumption))) (by assumption) (by (first | exact x_feb (by assumption) (by assumption) | exact x_other (by assumption) | exact x_other' (by assumption)))).2.1 (by assumption)
      | exact absurd (date_less hPt (by assumption) (by assumption) (by (first | exact x_late (by assumption) (by assumption) | exact x_early (by assumption))) (by assumption) (by (first | exact x_feb (by assumption) (by assumption) | exact x_other (by assumption) | exact x_other' (by assumption)))).2.2 (by assumption)
      | exact Bool.noConfusion ((leap_a hPt (by assumption) (by assumption) (by assumption)).symm.trans (by assumption))
      | exact Bool.noConfusion ((leap_b hPt (by assumption) (by assumption) (by assumption) (by assumption)).symm.trans (by assumption))
      | exact Bool.noConfusion ((leap_c hPt (by assumption) (by assumption) (by assumption) (by assumption)).symm.trans (by assumption))
  k_with "call builtin:divmod" => (k_here; (with_reducible show wpAny _ _ (call (Value.builtin _) [Value.int _ _, Value.int _ _]) _ _ _); k_dflt ((first | refine' divmod_to hPt.e1 hPt.f1 ?dmF ?dmN ?dmB ?_ ?dmP | refine' divmod_to hPt.e2 hPt.f2 ?dmF ?dmN ?dmB ?_ ?dmP | refine' divmod_to hPt.e3 hPt.f3 ?dmF ?dmN ?dmB ?_ ?dmP | refine' divmod_to hPt.e4 hPt.f4 ?dmF ?dmN ?dmB ?_ ?dmP | refine' divmod_made ?dmF ?dmN ?dmB ?_ ?dmP); (case dmF => k_asm); (case dmN => k_asm); (case dmB => decide); (case dmP => first | exact Or.inl (PyProof.noPylong_of_log2 (by decide +kernel)) | exact Or.inr (PySem.PylongRoom.of (PySem.Heap.NoLimit.keeps (Top.nolimit (by assumption)) (Fr.keep (by assumption))) (of_decide_eq_true (by with_unfolding_all rfl))))); intro D' h' t1' t2' tk' F' N' l1; (try k_lt l1); (try k_sweep))
  k_with "binaryOp RShift int int" => (k_here; (with_reducible refine rshift_int ?shB ?_); (case shB => decide); rw [hPt.eM])
  k_with "eval Call" => first
    | ((with_reducible show wpAny _ _ (eval (Expr.Call (Expr.Name (Str.ofString "_ord2ymd") _) _ _ _) _) _ _ _); (fail_if_success (rename InDate => x9)); ((obtain ⟨nY, nMo, nDa, hY, hMo, hDa, hv1, hv2, hv3, hv4, hbY⟩ := law_letters (bits_day (n := kN) (by assumption) (by assumption))); (rename Fr _ _ _ _ => cF'); (rename News _ _ _ _ => cN'); (refine' kcu3 (fun (b : Int) (t : Tok) => Value.int b t) (fun (b : Int) (t : Tok) => Value.int b t) (fun (b : Int) (t : Tok) => Value.int b t) (fun _ => nY) (fun _ => nMo) (fun _ => nDa) cF' cN' (fun u' hMark' => ?hc) ?hk); (case' hc => (have hIn : InDate := InDate.mk; obtain ⟨nA, nB, nC, nD, nR, nR1, nR2, nR3, nM, hPt, hb0, hb1, hc0, hc1, hd0, hd1, hr0, hr1, hz1, hz2, hm1, hm2⟩ := parts kN; have hbA := parts_bits hPt (bits_day (by assumption) (by assumption)))); (all_goals (try k_fold))))
    | ((with_reducible show wpAny _ _ (eval (Expr.Call (Expr.Name (Str.ofString "_law_date") _) _ _ _) _) _ _ _); (fail_if_success (rename InDate => x9)); ((rename Fr _ _ _ _ => cF'); (rename News _ _ _ _ => cN'); (refine' kcu3 (fun (b : Int) (t : Tok) => Value.int b t) (fun (b : Int) (t : Tok) => Value.int b t) (fun (b : Int) (t : Tok) => Value.int b t) (fun _ => nY) (fun _ => nMo) (fun _ => nDa) cF' cN' (fun u' hMark' => ?ldc) ?ldk); (case' ldc => have hIn : InDate := InDate.mk); (all_goals (try k_fold))))
  k_with "KCt3" => (refine' kcu3_end ?kta ?ktb ?ktc ?ktv ?kts ?ktf ?ktn ?kth ?ktl; (case ktv => with_unfolding_all rfl); (case kts => rfl); (case ktf => k_dflt assumption); (case ktn => k_dflt kcu_news); (case kth => kcf_all); (case ktl => k_dflt ((try simp only [AllLt, and_true]); (rename (_ < _) ∧ _ => hq9); ((repeat' (refine And.intro ?_ ?_)) <;> first | omega | exact hq9.2.2.2.2.2.2.2.2.2 | exact hq9.2.2.2.2.2.2.2.2 | exact hq9.2.2.2.2.2.2.2 | exact hq9.2.2.2.2.2.2 | exact hq9.2.2.2.2.2 | exact hq9.2.2.2.2.2.2.2.2.2.2 | exact hq9.2.2.2.2.2.2.2.2.2.2.2))); (case kta => refine Eq.trans hY.symm ?_; first | exact (date_last hPt (Or.inl (by assumption))).1 | exact (date_last hPt (Or.inr (by assumption))).1 | exact (date_same hPt (by assumption) (by assumption) (by (first | exact x_late (by assumption) (by assumption) | exact x_early (by assumption))) (Int.not_lt.mp (by assumption))).1.1 | exact (date_less hPt (by assumption) (by assumption) (by (first | exact x_late (by assumption) (by assumption) | exact x_early (by assumption))) (by assumption) (by (first | exact x_feb (by assumption) (by assumption) | exact x_other (by assumption) | exact x_other' (by assumption)))).1.1 | exact ld_lateY (by assumption) | exact ld_soonY (by assumption)); (case ktb => refine Eq.trans hMo.symm ?_; first | exact (date_last hPt (Or.inl (by assumption))).2.1 | exact (date_last hPt (Or.inr (by assumption))).2.1 | exact (date_same hPt (by assumption) (by assumption) (by (first | exact x_late (by assumption) (by assumption) | exact x_early (by assumption))) (Int.not_lt.mp (by assumption))).1.2.1 | exact (date_less hPt (by assumption) (by assumption) (by (first | exact x_late (by assumption) (by assumption) | exact x_early (by assumption))) (by assumption) (by (first | exact x_feb (by assumption) (by assumption) | exact x_other (by assumption) | exact x_other' (by assumption)))).1.2.1 | exact ld_lateM (by assumption) | exact ld_soonM (by assumption)); (case ktc => refine Eq.trans hDa.symm ?_; first | exact (date_last hPt (Or.inl (by assumption))).2.2 | exact (date_last hPt (Or.inr (by assumption))).2.2 | exact (date_same hPt (by assumption) (by assumption) (by (first | exact x_late (by assumption) (by assumption) | exact x_early (by assumption))) (Int.not_lt.mp (by assumption))).1.2.2 | exact (date_less hPt (by assumption) (by assumption) (by (first | exact x_late (by assumption) (by assumption) | exact x_early (by assumption))) (by assumption) (by (first | exact x_feb (by assumption) (by assumption) | exact x_other (by assumption) | exact x_other' (by assumption)))).1.2.2 | exact ld_D); (all_goals exact (0 : Nat)))
  k_with "end" => first
    | exact absurd (back_late hv1 hv2 (by assumption)) (by assumption)
    | exact absurd (back_soon hv1 hv2 (by assumption)) (by assumption)
  k_with "pyIter ref" => k_search (fun _ => True)
  exact Mine.hd06 (by k_go)
