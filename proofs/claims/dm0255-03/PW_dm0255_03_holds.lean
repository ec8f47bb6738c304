import PyProof.Rows.All
import Wide.All
import OpenK.AllK
import Wide.FinOn
import PySem.Challenge.RW_dm0255_03
open PySem PySem.W PyProof.Rows
set_option Elab.async false
namespace Mine
def leap (y : Int) : Bool := decide (y.fmod 4 = 0) && (!decide (y.fmod 100 = 0) || decide (y.fmod 400 = 0))
def dby (y : Int) : Int := (y - 1) * 365 + (y - 1).fdiv 4 - (y - 1).fdiv 100 + (y - 1).fdiv 400
def dim (y m : Int) : Int := if m = 2 ∧ leap y = true then 29 else [-1, 31, 28, 31, 30, 31, 30, 31, 31, 30, 31, 30, 31].getD m.toNat 0
def dbm (y m : Int) : Int := [-1, 0, 31, 59, 90, 120, 151, 181, 212, 243, 273, 304, 334].getD m.toNat 0 + (if 2 < m ∧ leap y = true then 1 else 0)
def ahead (y m : Int) : Int := dby y + dbm y m
def wd (y m : Int) : Int := if m < 3 then (6 + (13 * (m + 12 + 1)).fdiv 5 + (y - 1) + (y - 1).fdiv 4 - (y - 1).fdiv 100 + (y - 1).fdiv 400).fmod 7
  else (6 + (13 * (m + 1)).fdiv 5 + y + y.fdiv 4 - y.fdiv 100 + y.fdiv 400).fmod 7
/-- the leap days up to the end of the year -/
def lp (y : Int) : Int := y / 4 - y / 100 + y / 400
theorem lp_step (y : Int) : lp y - lp (y - 1) = if leap y = true then 1 else 0 := by
  unfold lp leap
  simp only [Int.fmod_eq_emod_of_nonneg _ (show (0:Int) ≤ 4 by decide), Int.fmod_eq_emod_of_nonneg _ (show (0:Int) ≤ 100 by decide), Int.fmod_eq_emod_of_nonneg _ (show (0:Int) ≤ 400 by decide), Bool.and_eq_true, Bool.or_eq_true, Bool.not_eq_true', decide_eq_true_eq, decide_eq_false_iff_not]
  split <;> omega
theorem dby_lp (y : Int) : dby y = (y - 1) * 365 + lp (y - 1) := by
  unfold dby lp
  simp only [Int.fdiv_eq_ediv_of_nonneg _ (show (0:Int) ≤ 4 by decide), Int.fdiv_eq_ediv_of_nonneg _ (show (0:Int) ≤ 100 by decide), Int.fdiv_eq_ediv_of_nonneg _ (show (0:Int) ≤ 400 by decide)]
  omega
theorem wd_lp (y m : Int) : wd y m = if m < 3 then (6 + 13 * (m + 12 + 1) / 5 + (y - 1) + lp (y - 1)) % 7 else (6 + 13 * (m + 1) / 5 + y + lp y) % 7 := by
  unfold wd lp
  simp only [Int.fdiv_eq_ediv_of_nonneg _ (show (0:Int) ≤ 4 by decide), Int.fdiv_eq_ediv_of_nonneg _ (show (0:Int) ≤ 100 by decide), Int.fdiv_eq_ediv_of_nonneg _ (show (0:Int) ≤ 400 by decide), Int.fdiv_eq_ediv_of_nonneg _ (show (0:Int) ≤ 5 by decide), Int.fmod_eq_emod_of_nonneg _ (show (0:Int) ≤ 7 by decide)]
  split <;> congr 1 <;> omega
theorem months {m : Int} (h1 : 1 ≤ m) (h2 : m ≤ 12) : m = 1 ∨ m = 2 ∨ m = 3 ∨ m = 4 ∨ m = 5 ∨ m = 6 ∨ m = 7 ∨ m = 8 ∨ m = 9 ∨ m = 10 ∨ m = 11 ∨ m = 12 := by omega
theorem ahead_wd {y m : Int} (h1 : 1 ≤ m) (h2 : m ≤ 12) : (ahead y m).fmod 7 = wd y m := by
  have hs := lp_step y
  rw [wd_lp, ahead, dby_lp, Int.fmod_eq_emod_of_nonneg _ (show (0:Int) ≤ 7 by decide)]
  unfold dbm
  generalize lp y = a at *
  generalize lp (y - 1) = b at *
  generalize leap y = l at *
  rcases months h1 h2 with rfl | rfl | rfl | rfl | rfl | rfl | rfl | rfl | rfl | rfl | rfl | rfl <;> cases l <;> simp at hs ⊢ <;> omega
/-- the month behind -/
theorem next_month (x : Int) : (x.fmod 12 + 1 = 12 ∧ (x + 1).fdiv 12 = x.fdiv 12 + 1 ∧ (x + 1).fmod 12 + 1 = 1) ∨ (x.fmod 12 + 1 < 12 ∧ (x + 1).fdiv 12 = x.fdiv 12 ∧ (x + 1).fmod 12 + 1 = x.fmod 12 + 1 + 1) := by
  simp only [Int.fdiv_eq_ediv_of_nonneg _ (show (0:Int) ≤ 12 by decide), Int.fmod_eq_emod_of_nonneg _ (show (0:Int) ≤ 12 by decide)]
  omega
theorem month_in (x : Int) : 1 ≤ x.fmod 12 + 1 ∧ x.fmod 12 + 1 ≤ 12 := by
  rw [Int.fmod_eq_emod_of_nonneg _ (show (0:Int) ≤ 12 by decide)]
  omega
theorem ahead_step (x : Int) : ahead ((x + 1).fdiv 12) ((x + 1).fmod 12 + 1) - ahead (x.fdiv 12) (x.fmod 12 + 1) = dim (x.fdiv 12) (x.fmod 12 + 1) := by
  obtain ⟨m1, m2⟩ := month_in x
  rcases next_month x with ⟨a, b, c⟩ | ⟨a, b, c⟩ <;> rw [b, c]
  · rw [a]
    have hs := lp_step (x.fdiv 12)
    simp only [ahead, dby_lp, dbm, dim, show x.fdiv 12 + 1 - 1 = x.fdiv 12 by omega]
    generalize lp (x.fdiv 12) = p at *
    generalize lp (x.fdiv 12 - 1) = q at *
    generalize leap (x.fdiv 12) = l at *
    cases l <;> simp at hs ⊢ <;> omega
  · generalize x.fmod 12 + 1 = m at *
    simp only [ahead, dbm, dim]
    generalize leap (x.fdiv 12) = l at *
    rcases months m1 m2 with rfl | rfl | rfl | rfl | rfl | rfl | rfl | rfl | rfl | rfl | rfl | rfl <;> cases l <;> simp at a ⊢ <;> omega
theorem dim_bounds {y m : Int} (h1 : 1 ≤ m) (h2 : m ≤ 12) : 28 ≤ dim y m ∧ dim y m ≤ 31 := by
  unfold dim
  generalize leap y = l
  rcases months h1 h2 with rfl | rfl | rfl | rfl | rfl | rfl | rfl | rfl | rfl | rfl | rfl | rfl <;> cases l <;> simp
theorem dim_wd (x : Int) : dim (x.fdiv 12) (x.fmod 12 + 1) = 28 + (wd ((x + 1).fdiv 12) ((x + 1).fmod 12 + 1) - wd (x.fdiv 12) (x.fmod 12 + 1)).fmod 7 := by
  obtain ⟨m1, m2⟩ := month_in x
  obtain ⟨n1, n2⟩ := month_in (x + 1)
  have hb := dim_bounds (y := x.fdiv 12) m1 m2
  have hd := ahead_step x
  have h1 := ahead_wd (y := x.fdiv 12) m1 m2
  have h2 := ahead_wd (y := (x + 1).fdiv 12) n1 n2
  rw [← h1, ← h2, ← hd]
  rw [← hd] at hb
  generalize ahead (x.fdiv 12) (x.fmod 12 + 1) = p at *
  generalize ahead ((x + 1).fdiv 12) ((x + 1).fmod 12 + 1) = q at *
  simp only [Int.fmod_eq_emod_of_nonneg _ (show (0:Int) ≤ 7 by decide)]
  omega
open PySem PySem.W
def wd3 (y m : Int) : Int := if m < 3 then ((13 * (m + 12 + 1)).fdiv 5 + (y - 1).fmod 100 + ((y - 1).fmod 100).fdiv 4 + ((y - 1).fdiv 100).fdiv 4 - 2 * (y - 1).fdiv 100).fmod 7
  else ((13 * (m + 1)).fdiv 5 + y.fmod 100 + (y.fmod 100).fdiv 4 + (y.fdiv 100).fdiv 4 - 2 * y.fdiv 100).fmod 7
theorem cent (z : Int) : z % 100 + z % 100 / 4 + z / 100 / 4 - 2 * (z / 100) = z + lp z - 126 * (z / 100) := by
  unfold lp
  omega
theorem wd3_lp (y m : Int) : wd3 y m = if m < 3 then (13 * (m + 12 + 1) / 5 + (y - 1) + lp (y - 1)) % 7 else (13 * (m + 1) / 5 + y + lp y) % 7 := by
  have h1 := cent y
  have h2 := cent (y - 1)
  unfold wd3
  simp only [Int.fdiv_eq_ediv_of_nonneg _ (show (0:Int) ≤ 4 by decide), Int.fdiv_eq_ediv_of_nonneg _ (show (0:Int) ≤ 100 by decide), Int.fmod_eq_emod_of_nonneg _ (show (0:Int) ≤ 100 by decide), Int.fdiv_eq_ediv_of_nonneg _ (show (0:Int) ≤ 5 by decide), Int.fmod_eq_emod_of_nonneg _ (show (0:Int) ≤ 7 by decide)]
  generalize lp y = a at *
  generalize lp (y - 1) = b at *
  split <;> omega
theorem first_wd3 {y m : Int} (h1 : 1 ≤ m) (h2 : m ≤ 12) : (dby y + dbm y m + 1).fmod 7 = wd3 y m := by
  have hs := lp_step y
  rw [wd3_lp, dby_lp, Int.fmod_eq_emod_of_nonneg _ (show (0:Int) ≤ 7 by decide)]
  unfold dbm
  generalize lp y = a at *
  generalize lp (y - 1) = b at *
  generalize leap y = l at *
  rcases months h1 h2 with rfl | rfl | rfl | rfl | rfl | rfl | rfl | rfl | rfl | rfl | rfl | rfl <;> cases l <;> simp at hs ⊢ <;> omega
theorem next_wd3 (x : Int) : (dby (x.fdiv 12) + dbm (x.fdiv 12) (x.fmod 12 + 1) + 1 + dim (x.fdiv 12) (x.fmod 12 + 1)).fmod 7 = wd3 ((x + 1).fdiv 12) ((x + 1).fmod 12 + 1) := by
  have h := ahead_step x
  rw [← first_wd3 (month_in (x + 1)).1 (month_in (x + 1)).2]
  unfold ahead at h
  congr 1
  omega
theorem step_wd3 {y m : Int} (h1 : 1 ≤ m) (h2 : m ≤ 12) : (wd3 y m - wd3 y 1).fmod 7 = (dbm y m).fmod 7 := by
  have e1 := first_wd3 (y := y) h1 h2
  have e2 := first_wd3 (y := y) (m := 1) (by decide) (by decide)
  have e3 : dbm y 1 = 0 := by simp [dbm]
  rw [← e1, ← e2, e3]
  simp only [Int.fmod_eq_emod_of_nonneg _ (show (0:Int) ≤ 7 by decide)]
  omega
theorem before {y m : Int} (h1 : 1 ≤ m) (h2 : m ≤ 12) : [dbm y m] = List.foldl (fun a k => if k.fmod 7 = (wd3 y m - wd3 y 1).fmod 7 then a ++ [k] else a) [] (rangeKs ((61 * (m - 1)).fdiv 2 - 3) ((61 * (m - 1)).fdiv 2 + 4 - ((61 * (m - 1)).fdiv 2 - 3)).toNat) := by
  rw [step_wd3 h1 h2]
  unfold dbm
  generalize leap y = l
  rcases months h1 h2 with rfl | rfl | rfl | rfl | rfl | rfl | rfl | rfl | rfl | rfl | rfl | rfl <;> cases l <;> decide
theorem bits_pre1 {y : Int} (h : Builtin.Int.intBits y ≤ 1100000) : Builtin.Int.intBits y ≤ 1100000 := h
theorem bits_pre2 {y m : Int} (h : 1 ≤ m ∧ m ≤ 12 ∧ Builtin.Int.intBits y ≤ 1100000) : Builtin.Int.intBits y ≤ 1100000 := h.2.2
theorem bits_item {ns : List Int} {k : Nat} {c n : Int} (h : PyData.layable0 (.list (ns.map .int)) = true) (hm : n ∈ ns.take k ++ [c]) (hc : c.natAbs < 2 ^ 64 := by decide) : Builtin.Int.intBits n ≤ 1048576 := by
  rcases List.mem_append.mp hm with h1 | h1
  · exact intBits_le_of_item (List.mem_of_mem_take h1) h
  · rw [List.mem_singleton.mp h1]
    exact Nat.le_trans (intBits_le_iff.mpr hc) (by decide)
theorem topList {prog : Program} {w : World} {A : Around} {E : Value → Shared → Prop} {s : Shared} {K : Frag} {h₀ : Heap} {L a : Addr} {m : Str → Option Value} {n : Nat} {value slice : PySem.Expr} {l : List Value} {ns : List Int} {dd : Option Addr} {sl : Array (Option Value)} {k : Int} {u : Tok} {Q : Value → Shared → Prop}
    (F : Fr h₀ L s.heap m) (X : K.In h₀) (hl : K.lookup a = some ⟨.type "list", dd, .seq l.toArray n, sl⟩) (hi : IntsAre l ns) (h0 : 0 ≤ k) (h1 : k < ns.length) (hfit : k < 2 ^ 63) (h : ∀ t, Q (.int (ns.getD k.toNat 0) t) s)
    (hs : subscripted slice false (.ref a) (.int k u) = operate [.ref a, .int k u] (getItem (.ref a) (.int k u)) := by with_unfolding_all rfl) :
    wpAny (model prog w) A (subscriptTail value slice (.ref a) (.int k u)) Q E s :=
  item_anyK (lstK (X.keeps F.keep) hl) hi h0 h1 hfit h hs
theorem off_succ {L : Nat} {own : List (Addr × Obj)} (h : AllLt L own) : ∀ p ∈ own, p.1 ≠ L + 1 := fun p hp e => by
  have q := kst_ltOf h p hp
  rw [e] at q
  exact absurd q (Nat.not_lt.mpr (Nat.le_succ L))
theorem end_el {h₀ : Heap} {L I C D : Addr} {m : Str → Option Value} {s₁ : Shared} {oI oC oD : Obj} {S : List (Addr × Obj) → Prop} {y : Value} {h' : Heap} {tk : Nat} {all news : List (Addr × Obj)} {l r : List Int}
    (F : Fr h₀ L h' m) (N : News h₀ L h' all) (sub : ∀ p ∈ (I, oI) :: (C, oC) :: (D, oD) :: news, p ∈ all) (off : LCg.Off3 I C D news) (hS : S news) (q : KCiEl news l r y news) :
    LCg.CompEnd h₀ L m s₁ I oI C oC D oD S (fun y news' => KCiEl news l r y news') y { s₁ with heap := h', toks := tk } := LCg.CompEnd.intro F N news sub off hS q
theorem end_no {h₀ : Heap} {L I C D : Addr} {m : Str → Option Value} {s₁ : Shared} {oI oC oD : Obj} {S : List (Addr × Obj) → Prop} {y : Value} {h' : Heap} {tk : Nat} {all news : List (Addr × Obj)} {l r : List Int}
    (F : Fr h₀ L h' m) (N : News h₀ L h' all) (sub : ∀ p ∈ (I, oI) :: (C, oC) :: (D, oD) :: news, p ∈ all) (off : LCg.Off3 I C D news) (hS : S news) (q : KCiNo news l r news) :
    LCg.CompEnd h₀ L m s₁ I oI C oC D oD S (fun _ news' => KCiNo news l r news') y { s₁ with heap := h', toks := tk } := LCg.CompEnd.intro F N news sub off hS q
end Mine
open Mine
local macro_rules | `(tactic| k_all) => `(tactic| ((with_reducible show ∀ p ∈ _, Prod.fst p ≠ _ + 1); (rename (_ < _) ∧ _ => hq9); first | exact Mine.off_succ hq9.2 | exact Mine.off_succ hq9.2.2 | exact Mine.off_succ hq9.2.2.2 | exact Mine.off_succ hq9.2.2.2.2 | exact Mine.off_succ hq9.2.2.2.2.2))
local macro_rules | `(tactic| walk_at "CompEnd") => `(tactic| first
  | (refine Mine.end_el (by assumption) (by assumption) (by kcf_all) (by first | assumption | (simp only [LCg.Off3, and_true]; done) | (simp only [LCg.Off3, and_true]; assumption)) (by first | lcg_src | assumption) ?_)
  | (refine Mine.end_no (by assumption) (by assumption) (by kcf_all) (by first | assumption | (simp only [LCg.Off3, and_true]; done) | (simp only [LCg.Off3, and_true]; assumption)) (by first | lcg_src | assumption) ?_))
local macro_rules | `(tactic| bits_by_make) => `(tactic| first
  | ((with_reducible refine Mine.bits_pre1 ?_); with_reducible assumption)
  | ((with_reducible refine Mine.bits_pre2 ?_); with_reducible assumption)
  | (exact Mine.bits_item (by with_reducible assumption) (by with_reducible assumption)))
local macro_rules | `(tactic| trivial) => `(tactic| ((try dsimp only); (with_reducible show Builtin.Int.intBits _ ≤ _); (refine' Nat.le_trans ?kb1 ?kb2; (case kb1 => bits_by_make); (case kb2 => decide))))
local macro_rules | `(tactic| trivial) => `(tactic| ((try dsimp only); (with_reducible show _ ∧ _ ∧ Builtin.Int.intBits _ ≤ _); (refine' And.intro ?kb3 (And.intro ?kb4 (Nat.le_trans ?kb1 ?kb2)); (case kb3 => first | omega | l_fact); (case kb4 => first | omega | l_fact); (case kb1 => bits_by_make); (case kb2 => decide))))
local macro_rules | `(tactic| walk_at "exec For Name BinOp cons nil") => `(tactic| (kst_has; k_here; (rename Fr _ _ _ _ => lF'); (with_unfolding_all refine' For_invVF lF' ?k1 ?k2 ?_; (case k1 => exact rfl); (case k2 => exact rfl); k_whole)))
local macro_rules | `(tactic| walk_at "subscriptTail Name Name ref int") => `(tactic| (k_here; (with_reducible show wpAny _ _ (subscriptTail _ _ (Value.ref _) (Value.int _ _)) _ _ _); (with_unfolding_all refine' Mine.topList ?F ?X ?l ?i ?k3 ?k4 ?k5 ?_; (case F => k_asm); (case X => k_asm); (case l => k_is); (case i => l_ints); (case k3 => l_idx); (case k4 => l_idx); (case k5 => l_idx); k_whole); intro _))
set_option maxRecDepth 100000 in
set_option maxHeartbeats 8000000 in
theorem PySem.Challenge.cw_dm0255_03_holds : PySem.Challenge.rw_dm0255_03.Holds := by
  k_with "tree" => first | simp only [wd3] | simp only [dbm] | simp only [dim] | simp only [dby] | simp only [leap]
  k_with "call ref" => first
    | k_call_by "_is_leap" leap
    | k_call_by "_days_before_year" dby (fun (y : Int) => Builtin.Int.intBits y ≤ 1100000)
    | k_call_rec "_days_in_month" dim (fun (_ m : Int) => 1 ≤ m ∧ m ≤ 12) (fun (_ _ : Int) => 1)
    | k_call_rec "_days_before_month" dbm (fun (_ m : Int) => 1 ≤ m ∧ m ≤ 12) (fun (_ _ : Int) => 1)
    | k_call_by "_law_weekday" wd3 (fun (y m : Int) => 1 ≤ m ∧ m ≤ 12 ∧ Builtin.Int.intBits y ≤ 1100000)
  k_with "end" => first
    | exact absurd (first_wd3 (month_in kN).1 (month_in kN).2) (by assumption)
    | exact absurd (next_wd3 kN) (by assumption)
    | exact absurd (dim_bounds (month_in kN).1 (month_in kN).2).1 (by assumption)
    | exact absurd (dim_bounds (month_in kN).1 (month_in kN).2).2 (by assumption)
    | exact absurd (before (month_in kN).1 (month_in kN).2) (by assumption)
  k_with "pyIter ref" => k_search (fun _ => True)
  open_k
