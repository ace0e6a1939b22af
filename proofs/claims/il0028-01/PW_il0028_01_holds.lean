import PyProof.Rows.All
import Wide.All
import OpenK.AllK
import Wide.FinOn
import Lean
import PySem.Challenge.RW_il0028_01
set_option Elab.async false
set_option linter.all false
set_option linter.unusedVariables false
local macro_rules | `(tactic| walk_at $s:str) => `(tactic| k_extra $s)
section
open PySem PySem.W PyProof.Rows
set_option maxRecDepth 100000
set_option maxHeartbeats 8000000
namespace Mine
noncomputable def zeroObj : Obj := { cls := .type "datetime.timedelta", data := .fields #[.int 0 0, .int 0 0, .int 0 0] }
noncomputable def kHook2 (K : Params → Frag) (as : List Addr) (e : ∀ P, as = (K P).map (·.1)) : Hook :=
  ⟨List (Option Obj), fun s => (49 :: as).map s.heap.get?, fun w => some zeroObj :: (K w.params).map fun p => some p.2,
   fun w h => InK K w h ∧ h.get? 49 = some zeroObj,
   fun w s x => ⟨InK.of e w s (List.cons.inj x).2, (List.cons.inj x).1⟩,
   fun w h h' x k => ⟨InK.keeps w h h' x.1 k, k _ _ x.2⟩⟩
end Mine
local macro_rules | `(tactic| o_head (kHook $k $a $p)) => `(tactic| o_head (Mine.kHook2 $k $a $p))
namespace Mine
open_top hd for PySem.Challenge.rw_il0028_01
end Mine
end
section
open PySem
namespace Mine
open PySem.Builtin._datetime PySem.Builtin.Time

noncomputable def ahead (y : Int) : Int := 365 * (y - 1) + (y - 1) / 4 - (y - 1) / 100 + (y - 1) / 400
noncomputable abbrev leap (y : Int) : Prop := (y % 4 = 0 ∧ y % 100 ≠ 0) ∨ y % 400 = 0
noncomputable def mdays (y m : Int) : Int :=
  if m = 2 then (if (y % 4 = 0 ∧ y % 100 ≠ 0) ∨ y % 400 = 0 then 29 else 28)
  else if m = 4 ∨ m = 6 ∨ m = 9 ∨ m = 11 then 30 else 31
noncomputable def lp (y : Int) : Int := if (y % 4 = 0 ∧ y % 100 ≠ 0) ∨ y % 400 = 0 then 1 else 0
noncomputable def cum (y m : Int) : Int :=
  if m ≤ 1 then 0 else if m = 2 then 31 else lp y + (if m = 3 then 59 else if m = 4 then 90 else if m = 5 then 120 else if m = 6 then 151 else if m = 7 then 181
    else if m = 8 then 212 else if m = 9 then 243 else if m = 10 then 273 else if m = 11 then 304 else if m = 12 then 334 else 365)

theorem lp_cases (y : Int) : (lp y = 1 ∧ leap y) ∨ (lp y = 0 ∧ ¬ leap y) := by
  unfold lp
  split
  · exact .inl ⟨rfl, by assumption⟩
  · exact .inr ⟨rfl, by assumption⟩
theorem mdays_two (y : Int) : mdays y 2 = 28 + lp y := by
  unfold mdays lp
  by_cases h : (y % 4 = 0 ∧ y % 100 ≠ 0) ∨ y % 400 = 0
  · rw [if_pos rfl, if_pos h, if_pos h]; rfl
  · rw [if_pos rfl, if_neg h, if_neg h]; rfl
theorem twelve {m : Int} (h : 1 ≤ m ∧ m ≤ 12) : m = 1 ∨ m = 2 ∨ m = 3 ∨ m = 4 ∨ m = 5 ∨ m = 6 ∨ m = 7 ∨ m = 8 ∨ m = 9 ∨ m = 10 ∨ m = 11 ∨ m = 12 := by
  obtain ⟨k, rfl⟩ := Int.eq_ofNat_of_zero_le (Int.le_trans (by decide) h.1)
  exact (by decide : ∀ k : Nat, k < 13 → 1 ≤ (k : Int) → ((k : Int) = 1 ∨ (k : Int) = 2 ∨ (k : Int) = 3 ∨ (k : Int) = 4 ∨ (k : Int) = 5 ∨ (k : Int) = 6 ∨ (k : Int) = 7 ∨ (k : Int) = 8 ∨ (k : Int) = 9 ∨ (k : Int) = 10 ∨ (k : Int) = 11 ∨ (k : Int) = 12)) k (by omega) h.1
theorem mdays_one {y m : Int} (h : 1 ≤ m ∧ m ≤ 12) : cum y (m + 1) = cum y m + mdays y m := by
  rcases twelve h with rfl | rfl | rfl | rfl | rfl | rfl | rfl | rfl | rfl | rfl | rfl | rfl
  · rfl
  · rw [mdays_two]
    show lp y + 59 = 31 + (28 + lp y)
    rw [← Int.add_assoc, Int.add_comm]; rfl
  · exact (Int.add_assoc (lp y) 59 31).symm
  · exact (Int.add_assoc (lp y) 90 30).symm
  · exact (Int.add_assoc (lp y) 120 31).symm
  · exact (Int.add_assoc (lp y) 151 30).symm
  · exact (Int.add_assoc (lp y) 181 31).symm
  · exact (Int.add_assoc (lp y) 212 31).symm
  · exact (Int.add_assoc (lp y) 243 30).symm
  · exact (Int.add_assoc (lp y) 273 31).symm
  · exact (Int.add_assoc (lp y) 304 30).symm
  · exact (Int.add_assoc (lp y) 334 31).symm
theorem div_up {y k : Int} (hk : k = 4 ∨ k = 100 ∨ k = 400) : y / k = (y - 1) / k + (if y % k = 0 then 1 else 0) := by
  rcases hk with rfl | rfl | rfl <;> (split <;> omega)
theorem ahead_succ (y : Int) : ahead (y + 1) = ahead y + 365 + lp y := by
  have e4 := div_up (y := y) (k := 4) (by decide)
  have e100 := div_up (y := y) (k := 100) (by decide)
  have e400 := div_up (y := y) (k := 400) (by decide)
  have i1 : y % 400 = 0 → y % 100 = 0 := fun h => by omega
  have i2 : y % 100 = 0 → y % 4 = 0 := fun h => by omega
  unfold ahead lp
  rw [Int.add_sub_cancel, e4, e100, e400]
  clear e4 e100 e400
  by_cases h4 : y % 4 = 0
  · by_cases h1 : y % 100 = 0
    · by_cases h2 : y % 400 = 0
      · simp only [h4, h1, h2, if_true, ne_eq, not_true, and_false, or_true]; omega
      · simp only [h4, h1, h2, if_true, if_false, ne_eq, not_true, and_false, or_false]; omega
    · have h2 : ¬ y % 400 = 0 := fun h => h1 (i1 h)
      simp only [h4, h1, h2, if_true, if_false, ne_eq, not_false_eq_true, and_self, true_or]; omega
  · have h1 : ¬ y % 100 = 0 := fun h => h4 (i2 h)
    have h2 : ¬ y % 400 = 0 := fun h => h1 (i1 h)
    simp only [h4, h1, h2, if_false, false_and, or_false]; omega
theorem ahead_mono {y y' : Int} (h : y ≤ y') : ahead y ≤ ahead y' := by unfold ahead; omega
theorem cum_last (y : Int) : cum y 13 = 365 + lp y := by simp [cum]; omega
theorem mdays_pos {y m : Int} (h : 1 ≤ m ∧ m ≤ 12) : 28 ≤ mdays y m ∧ mdays y m ≤ 31 := by
  unfold mdays; (repeat' split) <;> omega
theorem cum_mono {y m m' : Int} (h1 : 1 ≤ m) (h : m ≤ m') (h2 : m' ≤ 13) : cum y m ≤ cum y m' := by
  have key : ∀ n : Nat, ∀ m' : Int, m' = m + n → m' ≤ 13 → cum y m ≤ cum y m' := by
    intro n
    induction n with
    | zero => intro m' e _; rw [e]; simp
    | succ n ih =>
      intro m' e h
      have := ih (m + n) rfl (by omega)
      have s := mdays_one (y := y) (m := m + n) (by omega)
      have p := mdays_pos (y := y) (m := m + n) (by omega)
      have e' : m' = m + n + 1 := by omega
      rw [e', s]; omega
  exact key (m' - m).toNat m' (by omega) h2

/-- a day of the calendar -/
noncomputable def Day (y mo d : Int) : Prop := 1 ≤ y ∧ 1 ≤ mo ∧ mo ≤ 12 ∧ 1 ≤ d ∧ d ≤ mdays y mo
noncomputable def ord (y mo d : Int) : Int := ahead y + cum y mo + d

theorem day_lo {y mo d : Int} (h : Day y mo d) : ahead y + 1 ≤ ord y mo d := by
  have := cum_mono (y := y) (m := 1) (m' := mo) (by omega) h.2.1 (by have := h.2.2.1; omega)
  have e : cum y 1 = 0 := by simp [cum]
  have := h.2.2.2.1
  unfold ord; omega
theorem day_hi {y mo d : Int} (h : Day y mo d) : ord y mo d ≤ ahead (y + 1) := by
  have a := mdays_one (y := y) (m := mo) ⟨h.2.1, h.2.2.1⟩
  have b := cum_mono (y := y) (m := mo + 1) (m' := 13) (by have := h.2.1; omega) (by have := h.2.2.1; omega) (by omega)
  rw [cum_last] at b
  rw [ahead_succ]
  have := h.2.2.2.2
  unfold ord; omega
theorem ord_inj {y mo d y' mo' d' : Int} (h : Day y mo d) (h' : Day y' mo' d') (e : ord y mo d = ord y' mo' d') : y = y' ∧ mo = mo' ∧ d = d' := by
  have hy : y = y' := by
    rcases Int.lt_trichotomy y y' with l | l | l
    · have := day_hi h; have := day_lo h'; have := ahead_mono (y := y + 1) (y' := y') (by omega); omega
    · exact l
    · have := day_hi h'; have := day_lo h; have := ahead_mono (y := y' + 1) (y' := y) (by omega); omega
  subst hy
  have hm : mo = mo' := by
    have s := mdays_one (y := y) (m := mo) ⟨h.2.1, h.2.2.1⟩
    have s' := mdays_one (y := y) (m := mo') ⟨h'.2.1, h'.2.2.1⟩
    have := h.2.2.2; have := h'.2.2.2
    have := h.2.1; have := h.2.2.1; have := h'.2.1; have := h'.2.2.1
    unfold ord at e
    rcases Int.lt_trichotomy mo mo' with l | l | l
    · have := cum_mono (y := y) (m := mo + 1) (m' := mo') (by omega) (by omega) (by omega); omega
    · exact l
    · have := cum_mono (y := y) (m := mo' + 1) (m' := mo) (by omega) (by omega) (by omega); omega
  subst hm
  refine ⟨rfl, rfl, ?_⟩
  unfold ord at e; omega

theorem leap_iff (y : Int) : timeIsLeap y = decide (leap y) := by
  unfold timeIsLeap leap
  by_cases h : (y % 4 = 0 ∧ y % 100 ≠ 0) ∨ y % 400 = 0
  · rw [decide_eq_true h]
    have h4 : y % 4 = 0 := by omega
    have h5 : y % 100 ≠ 0 ∨ y % 400 = 0 := by omega
    simpa [h4] using h5
  · rw [decide_eq_false h]
    by_cases h4 : y % 4 = 0
    · have h5 : y % 100 = 0 := by omega
      have h6 : ¬ y % 400 = 0 := by omega
      simp [h4, h5, h6]
    · simp [h4]
theorem daysInMonth_eq {y m : Int} (h : 1 ≤ m ∧ m ≤ 12) : daysInMonth y m = mdays y m := by
  have hm := twelve h
  unfold daysInMonth
  rw [leap_iff]
  rcases hm with rfl | rfl | rfl | rfl | rfl | rfl | rfl | rfl | rfl | rfl | rfl | rfl
  case inr.inl => rw [mdays_two]; rcases lp_cases y with ⟨a, b⟩ | ⟨a, b⟩ <;> simp [a, b]
  all_goals simp [mdays]
theorem toOrdinal_eq {y m d : Int} (h : 1 ≤ m ∧ m ≤ 12) : toOrdinal y m d = ord y m d := by
  have hm := twelve h
  unfold toOrdinal ord ahead timeDaysBefore
  rw [leap_iff]
  dsimp only
  rcases lp_cases y with ⟨a, b⟩ | ⟨a, b⟩ <;>
  rcases hm with rfl | rfl | rfl | rfl | rfl | rfl | rfl | rfl | rfl | rfl | rfl | rfl <;>
  simp [cum, a, b] <;> omega
end Mine
end
section
open PySem
namespace Mine
open PySem.Builtin._datetime PySem.Builtin.Time

theorem doe_split {doe : Int} (h0 : 0 ≤ doe) (h1 : doe ≤ 146096) :
    ∃ c r : Int, 0 ≤ c ∧ c ≤ 3 ∧ 0 ≤ r ∧ r ≤ 36524 ∧ doe = 36524 * c + r ∧ (c < 3 → r < 36524) := by
  by_cases h : doe = 146096
  · exact ⟨3, 36524, by omega, by omega, by omega, by omega, by omega, by omega⟩
  · refine ⟨doe / 36524, doe % 36524, ?_, ?_, ?_, ?_, ?_, ?_⟩ <;> omega
theorem r_split {r : Int} (h0 : 0 ≤ r) (h1 : r ≤ 36524) :
    ∃ q rr : Int, 0 ≤ q ∧ q ≤ 24 ∧ 0 ≤ rr ∧ rr ≤ 1460 ∧ r = 1461 * q + rr ∧ (q = 24 → rr = 1460 → r = 36524) := by
  refine ⟨r / 1461, r % 1461, ?_, ?_, ?_, ?_, ?_, ?_⟩ <;> omega
theorem rr_split {rr : Int} (h0 : 0 ≤ rr) (h1 : rr ≤ 1460) :
    ∃ k : Int, 0 ≤ k ∧ k ≤ 3 ∧ 365 * k ≤ rr ∧ rr ≤ 365 * k + 365 ∧ (k < 3 → rr < 365 * k + 365) := by
  by_cases h : rr = 1460
  · exact ⟨3, by omega, by omega, by omega, by omega, by omega⟩
  · refine ⟨rr / 365, ?_, ?_, ?_, ?_, ?_⟩ <;> omega
theorem yoe_calc {c q rr k : Int} (hc0 : 0 ≤ c) (hc3 : c ≤ 3) (hq0 : 0 ≤ q) (hq1 : q ≤ 24) (hk0 : 0 ≤ k) (hk3 : k ≤ 3) (h0 : 0 ≤ rr) (h1 : rr ≤ 1460) (k1 : 365 * k ≤ rr) (k2 : rr ≤ 365 * k + 365) (k3 : k < 3 → rr < 365 * k + 365)
    (hl : c < 3 → 1461 * q + rr < 36524) (hm : 1461 * q + rr ≤ 36524) {doe : Int} (hdoe : doe = 36524 * c + (1461 * q + rr)) :
    (doe - doe / 1460 + doe / 36524 - doe / 146096) / 365 = 100 * c + 4 * q + k := by
  by_cases hE : doe = 146096
  · have : c = 3 := by omega
    have : q = 24 := by omega
    have : k = 3 := by omega
    rw [hE]; subst c q k; decide
  · have e3 : doe / 36524 = c := by omega
    have e4 : doe / 146096 = 0 := by omega
    have e1 : doe / 1460 = 25 * c + q + (24 * c + q + rr) / 1460 := by omega
    have hw : ∃ e : Int, (24 * c + q + rr) / 1460 = e ∧ 0 ≤ e ∧ e ≤ 1 ∧ (e = 1 → 1364 ≤ rr) ∧ (rr = 1460 → e = 1) := by
      refine ⟨_, rfl, ?_, ?_, ?_, ?_⟩ <;> clear e1 e3 e4 hE hdoe <;> omega
    obtain ⟨e, he, he0, he1, he2, he3⟩ := hw
    rw [e1, e3, e4, he]
    clear e1 e3 e4 he hE
    have hX : doe - (25 * c + q + e) + c - 0 = 365 * (100 * c + 4 * q) + (rr - e) := by omega
    rw [hX]
    clear hX hdoe
    have hk : (rr - e) / 365 = k := by omega
    omega
theorem yoe_ok {doe : Int} (h0 : 0 ≤ doe) (h1 : doe ≤ 146096) {yoe doy : Int} (hy : (doe - doe / 1460 + doe / 36524 - doe / 146096) / 365 = yoe)
    (hd : doe - (365 * yoe + yoe / 4 - yoe / 100) = doy) :
    0 ≤ yoe ∧ yoe ≤ 399 ∧ 0 ≤ doy ∧ doy ≤ 365 ∧ (doy = 365 → ((yoe + 1) % 4 = 0 ∧ ((yoe + 1) % 100 ≠ 0 ∨ (yoe + 1) % 400 = 0))) := by
  obtain ⟨c, r, hc0, hc3, hr0, hr1, hdoe, hr2⟩ := doe_split h0 h1
  obtain ⟨q, rr, hq0, hq1, hrr0, hrr1, hr, hrq⟩ := r_split hr0 hr1
  obtain ⟨k, hk0, hk3, k1, k2, k3⟩ := rr_split hrr0 hrr1
  subst hr
  rw [yoe_calc hc0 hc3 hq0 hq1 hk0 hk3 hrr0 hrr1 k1 k2 k3 hr2 hr1 hdoe] at hy
  subst hy
  have e4 : (100 * c + 4 * q + k) / 4 = 25 * c + q := by clear hd hdoe; omega
  have e5 : (100 * c + 4 * q + k) / 100 = c := by clear hd hdoe; omega
  rw [e4, e5] at hd
  clear e4 e5
  have ed : doy = rr - 365 * k := by omega
  clear hd
  refine ⟨by omega, by omega, by omega, by omega, fun h => ?_⟩
  have hk : k = 3 := by omega
  have hrr : rr = 1460 := by omega
  subst hk
  subst hrr
  refine ⟨by omega, ?_⟩
  by_cases hq : q = 24
  · have : c = 3 := by
      have := hrq hq rfl
      by_cases h3 : c < 3
      · have := hr2 h3; omega
      · omega
    subst this hq
    right; decide
  · left; omega
theorem ahead_era {yoe era : Int} (h0 : 0 ≤ yoe) (h1 : yoe ≤ 399) : ahead (yoe + era * 400 + 1) = 146097 * era + 365 * yoe + yoe / 4 - yoe / 100 := by
  unfold ahead
  have e : yoe + era * 400 + 1 - 1 = yoe + era * 400 := by omega
  rw [e]
  have a : (yoe + era * 400) / 4 = yoe / 4 + 100 * era := by omega
  have b : (yoe + era * 400) / 100 = yoe / 100 + 4 * era := by omega
  have c : (yoe + era * 400) / 400 = era := by omega
  rw [a, b, c]; omega
theorem lp_of {y : Int} (h : y % 4 = 0 ∧ (y % 100 ≠ 0 ∨ y % 400 = 0)) : lp y = 1 := by
  rcases lp_cases y with ⟨a, b⟩ | ⟨a, b⟩
  · exact a
  · exact absurd (by omega) b
end Mine
end
section
open PySem
namespace Mine
open PySem.Builtin._datetime PySem.Builtin.Time

/-- the civil day of an ordinal, by the model's reckoning -/
noncomputable def civ (n : Int) : Int × Int × Int := ofOrdinal n

theorem mp_b {doy k : Int} (h : (5 * doy + 2) / 153 = k) : 153 * k ≤ 5 * doy + 2 ∧ 5 * doy + 2 < 153 * k + 153 := by omega
theorem lo_of {doy s K : Int} (h : K ≤ 5 * doy + 2) (hs : 5 * s - 3 < K) : s ≤ doy := by omega
theorem hi_of {doy e K : Int} (h : 5 * doy + 2 < K) (hs : K ≤ 5 * e + 7) : doy ≤ e := by omega
/-- a day of the months from March on -/
theorem core_mid {y n doy mo c s md : Int} (hn : n = ahead (y + 1) + doy - 305) (hS : ahead (y + 1) = ahead y + 365 + lp y) (hY : 1 ≤ y) (hZ : y ≤ 9999) (hmo : 1 ≤ mo ∧ mo ≤ 12) (hc : cum y mo = lp y + c) (hcs : c = 59 + s) (hmd : mdays y mo = md)
    (hlo : s ≤ doy) (hhi : doy ≤ s + md - 1) : Day y mo (doy - s + 1) ∧ ord y mo (doy - s + 1) = n ∧ y ≤ 9999 := by
  unfold Day ord
  rw [hmd, hc, hn, hS, hcs]
  clear hn hS hc hcs hmd
  exact ⟨⟨hY, hmo.1, hmo.2, by omega, by omega⟩, by omega, hZ⟩
theorem year_lo {n y doy : Int} (hn : n = ahead (y + 1) + doy - 305) (h1 : 1 ≤ n) (d1 : doy ≤ 365) : 1 ≤ y ∨ (y = 0 ∧ 306 ≤ doy) := by
  by_cases h : 1 ≤ y
  · exact .inl h
  · right
    by_cases h0 : y = 0
    · subst h0
      have : ahead (0 + 1) = 0 := by decide
      omega
    · have : ahead (y + 1) ≤ ahead 0 := ahead_mono (by omega)
      have : ahead 0 = -366 := by decide
      omega
theorem year_hi {n y doy : Int} (hn : n = ahead (y + 1) + doy - 305) (h2 : n ≤ 3652059) (d0 : 0 ≤ doy) : y + 1 ≤ 9999 ∨ (y = 9999 ∧ doy ≤ 305) := by
  by_cases h : y + 1 ≤ 9999
  · exact .inl h
  · right
    by_cases h0 : y = 9999
    · subst h0
      have : ahead (9999 + 1) = 3652059 := by decide
      omega
    · have : ahead 10001 ≤ ahead (y + 1) := ahead_mono (by omega)
      have : ahead 10001 = 3652425 := by decide
      omega
theorem mp_in {doy mp : Int} (d0 : 0 ≤ doy) (d1 : doy ≤ 365) (hmp : (5 * doy + 2) / 153 = mp) : mp = 0 ∨ mp = 1 ∨ mp = 2 ∨ mp = 3 ∨ mp = 4 ∨ mp = 5 ∨ mp = 6 ∨ mp = 7 ∨ mp = 8 ∨ mp = 9 ∨ mp = 10 ∨ mp = 11 := by
  have hm : 1 ≤ mp + 1 ∧ mp + 1 ≤ 12 := by omega
  clear hmp d0 d1
  have e : mp = mp + 1 - 1 := (Int.add_sub_cancel ..).symm
  rcases twelve hm with h | h | h | h | h | h | h | h | h | h | h | h <;> rw [h] at e <;> rw [e] <;> decide
theorem jan {n y doy : Int} (hn : n = ahead (y + 1) + doy - 305) (hY : 1 ≤ y ∨ (y = 0 ∧ 306 ≤ doy)) (hZ : y + 1 ≤ 9999) (lo : 306 ≤ doy) (hi : doy ≤ 336) : Day (y + 1) 1 (doy - 306 + 1) ∧ ord (y + 1) 1 (doy - 306 + 1) = n ∧ y + 1 ≤ 9999 := by
  unfold Day ord
  have e3 : cum (y + 1) 1 = 0 := by simp [cum]
  have e5 : mdays (y + 1) 1 = 31 := by simp [mdays]
  rw [e3, e5, hn]
  clear hn
  exact ⟨⟨by omega, by decide, by decide, by omega, by omega⟩, by omega, hZ⟩
theorem feb {n y doy : Int} (hn : n = ahead (y + 1) + doy - 305) (hY : 1 ≤ y ∨ (y = 0 ∧ 306 ≤ doy)) (hZ : y + 1 ≤ 9999) (lo : 337 ≤ doy) (d1 : doy ≤ 365) (hdl : doy = 365 → lp (y + 1) = 1) (hlp : 0 ≤ lp (y + 1)) :
    Day (y + 1) 2 (doy - 337 + 1) ∧ ord (y + 1) 2 (doy - 337 + 1) = n ∧ y + 1 ≤ 9999 := by
  unfold Day ord
  rw [mdays_two]
  have e3 : cum (y + 1) 2 = 31 := by simp [cum]
  rw [e3, hn]
  clear hn e3
  refine ⟨⟨by omega, by decide, by decide, by omega, ?_⟩, by omega, hZ⟩
  clear hY hZ
  by_cases h : doy = 365
  · rw [hdl h]; omega
  · omega
theorem civ_core {n y doy mp : Int} (hn : n = ahead (y + 1) + doy - 305) (h1 : 1 ≤ n) (h2 : n ≤ 3652059) (d0 : 0 ≤ doy) (d1 : doy ≤ 365)
    (hdl : doy = 365 → lp (y + 1) = 1) (hmp : (5 * doy + 2) / 153 = mp) :
    Day (y + (if (if mp < 10 then mp + 3 else mp - 9) ≤ 2 then 1 else 0)) (if mp < 10 then mp + 3 else mp - 9) (doy - (153 * mp + 2) / 5 + 1) ∧
    ord (y + (if (if mp < 10 then mp + 3 else mp - 9) ≤ 2 then 1 else 0)) (if mp < 10 then mp + 3 else mp - 9) (doy - (153 * mp + 2) / 5 + 1) = n ∧
    y + (if (if mp < 10 then mp + 3 else mp - 9) ≤ 2 then 1 else 0) ≤ 9999 := by
  have hS := ahead_succ y
  have hlp : 0 ≤ lp (y + 1) := by rcases lp_cases (y + 1) with ⟨a, _⟩ | ⟨a, _⟩ <;> rw [a] <;> decide
  have hY := year_lo hn h1 d1
  have hZ := year_hi hn h2 d0
  obtain ⟨b1, b2⟩ := mp_b hmp
  clear h1 h2
  have hy0 : ∀ e : Int, e ≤ 305 → doy ≤ e → 1 ≤ y ∧ y ≤ 9999 := fun e h h' => by
    clear hn hS hdl hmp b1 b2
    exact ⟨by omega, by omega⟩
  have hy1 : 306 ≤ doy → y + 1 ≤ 9999 := fun h => by
    clear hn hS hdl hmp b1 b2
    omega
  rcases mp_in d0 d1 hmp with rfl | rfl | rfl | rfl | rfl | rfl | rfl | rfl | rfl | rfl | rfl | rfl
  · show Day (y + 0) 3 (doy - 0 + 1) ∧ ord (y + 0) 3 (doy - 0 + 1) = n ∧ y + 0 ≤ 9999
    rw [Int.add_zero]
    have lo : 0 ≤ doy := lo_of b1 (by decide)
    have hi : doy ≤ 30 := hi_of b2 (by decide)
    exact core_mid (c := 59) (md := 31) hn hS (hy0 _ (by decide) hi).1 (hy0 _ (by decide) hi).2 (by decide) rfl (by decide) rfl lo hi
  · show Day (y + 0) 4 (doy - 31 + 1) ∧ ord (y + 0) 4 (doy - 31 + 1) = n ∧ y + 0 ≤ 9999
    rw [Int.add_zero]
    have lo : 31 ≤ doy := lo_of b1 (by decide)
    have hi : doy ≤ 60 := hi_of b2 (by decide)
    exact core_mid (c := 90) (md := 30) hn hS (hy0 _ (by decide) hi).1 (hy0 _ (by decide) hi).2 (by decide) rfl (by decide) rfl lo hi
  · show Day (y + 0) 5 (doy - 61 + 1) ∧ ord (y + 0) 5 (doy - 61 + 1) = n ∧ y + 0 ≤ 9999
    rw [Int.add_zero]
    have lo : 61 ≤ doy := lo_of b1 (by decide)
    have hi : doy ≤ 91 := hi_of b2 (by decide)
    exact core_mid (c := 120) (md := 31) hn hS (hy0 _ (by decide) hi).1 (hy0 _ (by decide) hi).2 (by decide) rfl (by decide) rfl lo hi
  · show Day (y + 0) 6 (doy - 92 + 1) ∧ ord (y + 0) 6 (doy - 92 + 1) = n ∧ y + 0 ≤ 9999
    rw [Int.add_zero]
    have lo : 92 ≤ doy := lo_of b1 (by decide)
    have hi : doy ≤ 121 := hi_of b2 (by decide)
    exact core_mid (c := 151) (md := 30) hn hS (hy0 _ (by decide) hi).1 (hy0 _ (by decide) hi).2 (by decide) rfl (by decide) rfl lo hi
  · show Day (y + 0) 7 (doy - 122 + 1) ∧ ord (y + 0) 7 (doy - 122 + 1) = n ∧ y + 0 ≤ 9999
    rw [Int.add_zero]
    have lo : 122 ≤ doy := lo_of b1 (by decide)
    have hi : doy ≤ 152 := hi_of b2 (by decide)
    exact core_mid (c := 181) (md := 31) hn hS (hy0 _ (by decide) hi).1 (hy0 _ (by decide) hi).2 (by decide) rfl (by decide) rfl lo hi
  · show Day (y + 0) 8 (doy - 153 + 1) ∧ ord (y + 0) 8 (doy - 153 + 1) = n ∧ y + 0 ≤ 9999
    rw [Int.add_zero]
    have lo : 153 ≤ doy := lo_of b1 (by decide)
    have hi : doy ≤ 183 := hi_of b2 (by decide)
    exact core_mid (c := 212) (md := 31) hn hS (hy0 _ (by decide) hi).1 (hy0 _ (by decide) hi).2 (by decide) rfl (by decide) rfl lo hi
  · show Day (y + 0) 9 (doy - 184 + 1) ∧ ord (y + 0) 9 (doy - 184 + 1) = n ∧ y + 0 ≤ 9999
    rw [Int.add_zero]
    have lo : 184 ≤ doy := lo_of b1 (by decide)
    have hi : doy ≤ 213 := hi_of b2 (by decide)
    exact core_mid (c := 243) (md := 30) hn hS (hy0 _ (by decide) hi).1 (hy0 _ (by decide) hi).2 (by decide) rfl (by decide) rfl lo hi
  · show Day (y + 0) 10 (doy - 214 + 1) ∧ ord (y + 0) 10 (doy - 214 + 1) = n ∧ y + 0 ≤ 9999
    rw [Int.add_zero]
    have lo : 214 ≤ doy := lo_of b1 (by decide)
    have hi : doy ≤ 244 := hi_of b2 (by decide)
    exact core_mid (c := 273) (md := 31) hn hS (hy0 _ (by decide) hi).1 (hy0 _ (by decide) hi).2 (by decide) rfl (by decide) rfl lo hi
  · show Day (y + 0) 11 (doy - 245 + 1) ∧ ord (y + 0) 11 (doy - 245 + 1) = n ∧ y + 0 ≤ 9999
    rw [Int.add_zero]
    have lo : 245 ≤ doy := lo_of b1 (by decide)
    have hi : doy ≤ 274 := hi_of b2 (by decide)
    exact core_mid (c := 304) (md := 30) hn hS (hy0 _ (by decide) hi).1 (hy0 _ (by decide) hi).2 (by decide) rfl (by decide) rfl lo hi
  · show Day (y + 0) 12 (doy - 275 + 1) ∧ ord (y + 0) 12 (doy - 275 + 1) = n ∧ y + 0 ≤ 9999
    rw [Int.add_zero]
    have lo : 275 ≤ doy := lo_of b1 (by decide)
    have hi : doy ≤ 305 := hi_of b2 (by decide)
    exact core_mid (c := 334) (md := 31) hn hS (hy0 _ (by decide) hi).1 (hy0 _ (by decide) hi).2 (by decide) rfl (by decide) rfl lo hi
  · exact jan hn hY (hy1 (lo_of b1 (by decide))) (lo_of b1 (by decide)) (hi_of b2 (by decide))
  · have lo : 337 ≤ doy := lo_of b1 (by decide)
    exact feb hn hY (hy1 (Int.le_trans (by decide) lo)) lo d1 hdl hlp

theorem civ_ok {n : Int} (h1 : 1 ≤ n) (h2 : n ≤ 3652059) : Day (civ n).1 (civ n).2.1 (civ n).2.2 ∧ ord (civ n).1 (civ n).2.1 (civ n).2.2 = n ∧ (civ n).1 ≤ 9999 := by
  have e : civ n = timeCivil (n - 719163) := rfl
  rw [e]
  unfold timeCivil
  have ez : n - 719163 + 719468 = n + 305 := by omega
  dsimp only
  rw [ez]
  have ef : (n + 305).fdiv 146097 = (n + 305) / 146097 := by rw [Int.fdiv_eq_ediv_of_nonneg _ (by omega)]
  rw [ef]
  generalize hera : (n + 305) / 146097 = era
  generalize hdoe : n + 305 - era * 146097 = doe
  have b0 : 0 ≤ doe := by omega
  have b1 : doe ≤ 146096 := by omega
  generalize hy : (doe - doe / 1460 + doe / 36524 - doe / 146096) / 365 = yoe
  generalize hd : doe - (365 * yoe + yoe / 4 - yoe / 100) = doy
  obtain ⟨y0, y1, d0, d1, dl⟩ := yoe_ok b0 b1 hy hd
  clear hy
  generalize hmp : (5 * doy + 2) / 153 = mp
  have hA := ahead_era (era := era) y0 y1
  exact civ_core (by rw [hA]; clear hmp dl hera; omega) h1 h2 d0 d1 (fun h => lp_of (by have := dl h; omega)) hmp
end Mine
namespace Mine
theorem fdiv_pos (a : Int) {b : Int} (h : 0 ≤ b) : a.fdiv b = a / b := Int.fdiv_eq_ediv_of_nonneg a h
theorem fmod_pos (a : Int) {b : Int} (h : 0 ≤ b) : a.fmod b = a % b := Int.fmod_eq_emod_of_nonneg a h
theorem ahead_f (v : Int) : 365 * (v - 1) + (v - 1).fdiv 4 - (v - 1).fdiv 100 + (v - 1).fdiv 400 = ahead v := by
  rw [fdiv_pos _ (by decide), fdiv_pos _ (by decide), fdiv_pos _ (by decide)]; rfl
end Mine
end
section
open PySem PySem.W PySem.Calls PyProof.Rows
set_option maxRecDepth 100000
set_option maxHeartbeats 1000000
namespace Mine
section
variable {prog : Program} {w : World} {A A₀ : Around} {s : Shared} {K : Frag} {L : Addr} {h₀ base : Heap} {m mg mb : PySem.Str → Option Value} {p : Program} {loose : List PySem.Str} {mean : ExcName → Option Value}

theorem leave0 {h₀ g : Heap} {L L' : Addr} {m m' : PySem.Str → Option Value} {s' : Shared} {tl : List (Addr × Obj)} (F : Fr h₀ L g m) (F' : Fr g L' s'.heap m') (N' : News g L' s'.heap tl) :
    Fr h₀ L s'.heap m ∧ News h₀ L s'.heap tl := by
  obtain ⟨oL, es, ep, hL, hLd, hLk, hLf⟩ := F.ns
  refine ⟨⟨⟨oL, es, ep, F'.keep L oL hL, hLd, hLk, hLf⟩, fun b o e => F'.keep b o (F.keep b o e), F.above⟩, fun q hq => ⟨(N' q hq).1, fun e => ?_, ?_⟩⟩
  · have := (N' q hq).2.2; rw [e, hL] at this; cases this
  · cases z : h₀.get? q.1 with
    | none => rfl
    | some o => have := (N' q hq).2.2; rw [F.keep _ _ z] at this; cases this

theorem news_keep {h₀ h h' : Heap} {L : Addr} {news : List (Addr × Obj)} (N : News h₀ L h news) (k : ∀ b o, h.get? b = some o → h'.get? b = some o) : News h₀ L h' news :=
  fun q hq => ⟨k _ _ (N q hq).1, (N q hq).2⟩
theorem news_join {h₀ h : Heap} {L : Addr} {a b : List (Addr × Obj)} (x : News h₀ L h a) (y : News h₀ L h b) : News h₀ L h (a ++ b) :=
  fun q hq => (List.mem_append.mp hq).elim (x q) (y q)

theorem code0 {env : Env} {outer : List Env} {R : Result → Shared → Prop} {name qual : PySem.Str} {params : Arguments} {body : List Stmt} {scope : Scope} {dV kV doc pm cdv ct oc : Value} {an od : Option Addr} {osl : Array (Option Value)} {f : Addr} {args : Args} {binds : List (PySem.Str × Value)}
    (B : Below A₀ base outer h₀) (F : Fr h₀ L s.heap m) (X₀ : K.In h₀) (T : Top p loose mean mg mb h₀) (hA : A.frames = some (env :: outer)) (hf : env.frame = some L) (hke : env.scope.kind = .function)
    (ho : K.lookup f = some ⟨oc, od, .func (fnOf name qual params body scope dV kV doc pm an cdv ct), osl⟩) (hcd : codeIn K cdv qual = true) (hroom : A.depth < recursionLimit)
    (hbind : BindsTo s (fnOf name qual params body scope dV kV doc pm an cdv ct) args binds) (hloc : ∀ y ∈ binds, scope.names.lookup y.1 = some .local)
    (h : ∀ L' h₁, Fr s.heap L' h₁ (fun y => binds.reverse.lookup y) → News s.heap L' h₁ [] → Below A base (env :: outer) s.heap → K.In s.heap → Top p loose mean mg mb s.heap →
      wpAny (model prog w) (A.deeper (envOf qual scope L' f cdv)) (execs body (envOf qual scope L' f cdv))
        (fun fl s' => LeaveK h₀ L m s.heap R (match fl with | .ret v => v | _ => .none) s')
        (fun e s' => wpAny (model prog w) (A.deeper (envOf qual scope L' f cdv)) (leaving (envOf qual scope L' f cdv) e) (fun _ s'' => R (.error e) s'') (fun e' s'' => R (.error e') s'') s')
        { s with heap := h₁, toks := s.toks + binds.length })
    (hco : scope.isCoroutine = false) (hgen : scope.isGenerator = false) (hk : scope.kind = .function)
    (hcell : ∀ x ∈ scope.names, x.2 ≠ .cell) : codeAny (model prog w) A (.call (.ref f) args) R s := by
  refine codeAny_call_def (fd := fnOf name qual params body scope dV kV doc pm an cdv ct) (body := body) (binds := binds) hroom ((X₀.keeps F.keep) _ _ ho) rfl (T.nolimit.keeps F.keep) (codeRec_of (X₀.keeps F.keep) hcd) rfl hbind hcell hloc (fun h₁ hns hk₁ => ?_) hco hgen hk
  have hnew : base.get? L = none := by
    cases hq : base.get? L with
    | none => rfl
    | some o => exact absurd (Nat.lt_of_lt_of_le (Heap.lt_size (B.stays L o hq)) F.above) (Nat.lt_irrefl _)
  have B₁ : Below A base (env :: outer) s.heap := ⟨hA, fun b o e => F.keep b o (B.stays b o e), .cons (by rw [hke]; decide) hf F.ns hnew (B.frames.of_keeps fun b o e _ => ⟨o, F.keep b o e, rfl⟩)⟩
  refine wpAny_mono (h s.heap.objs.size h₁ ⟨hns, hk₁, Nat.le_refl _⟩ News.nil B₁ (X₀.keeps F.keep) (T.keeps F.keep)) (fun fl s' hl => ?_) fun _ _ y => y
  obtain ⟨L', m', news', F', N', k⟩ := hl
  obtain ⟨a, b⟩ := leave0 F F' N'
  exact k a b
end
end Mine
namespace Mine
/-- a def's data, out of the written heap -/
noncomputable def fnd (P : Params) (f : Addr) : FuncData := match (hd.heap_39 P).lookup f with | some ⟨_, _, .func fd, _⟩ => fd | _ => { name := PySem.Str.empty, qualname := PySem.Str.empty, params := ⟨[], [], none, [], [], none, []⟩, body := .stmts [], scope := { kind := .function, names := [], isGenerator := false, isCoroutine := false, more := [] }, globals := 0, closure := [], defaults := .none, kwdefaults := .none, doc := .none, pyModule := .none, code := .none, builtins := 0 }
noncomputable def fb (P : Params) (f : Addr) : List Stmt := match (fnd P f).body with | .stmts b => b | _ => []
theorem fnd_of {P : Params} {f : Addr} {oc : Value} {od : Option Addr} {fd : FuncData} {osl : Array (Option Value)} (h : (hd.heap_39 P).lookup f = some ⟨oc, od, .func fd, osl⟩) : fnd P f = fd := by
  unfold fnd; rw [h]
end Mine
namespace Mine
noncomputable def forBody : Stmt → List Stmt
  | .For _ _ b _ _ => b
  | _ => []
noncomputable def whBody : Stmt → List Stmt
  | .While _ b _ _ => b
  | _ => []
noncomputable def stAt (l : List Stmt) (i : Nat) : Stmt := l.getD i (.Pass ⟨0, 0, 0, 0⟩)
end Mine
namespace Mine
theorem fr_dup {h₀ h : Heap} {L : Addr} {x : PySem.Str} {a b : Option Value} {r : PySem.Str → Option Value} (F : Fr h₀ L h (fun y => if y = x then a else if y = x then b else r y)) : Fr h₀ L h (fun y => if y = x then a else r y) := by
  have e : (fun y => if y = x then a else if y = x then b else r y) = (fun y => if y = x then a else r y) := by
    funext y
    by_cases q : y = x
    · simp [q]
    · simp [q]
  rw [e] at F; exact F
/-- one turn of the text's loop -/
noncomputable def putT (x : PySem.Str) (n sz : Int) (sg : PySem.Str) : PySem.Str :=
  x ++ Txt.mul (PySem.Str.ofString "0") (sz - ((PySem.Str.ofString (toString n)).length : Int)) ++ PySem.Str.ofString (toString n) ++ sg
end Mine
namespace Mine
theorem fr_c4 {h₀ h : Heap} {L : Addr} {m : PySem.Str → Option Value} (F : Fr h₀ L h m) (x1 x2 x3 x4 : PySem.Str) {v1 v2 v3 v4 : Value} (h1 : m x1 = some v1) (h2 : m x2 = some v2) (h3 : m x3 = some v3) (h4 : m x4 = some v4) :
    ∃ u : PySem.Str → Option Value, Fr h₀ L h (fun z => if z = x1 then some v1 else if z = x2 then some v2 else if z = x3 then some v3 else if z = x4 then some v4 else u z) := by
  refine ⟨m, ?_⟩
  have e : (fun z => if z = x1 then some v1 else if z = x2 then some v2 else if z = x3 then some v3 else if z = x4 then some v4 else m z) = m := by
    funext z
    (repeat' split) <;> simp_all
  rw [e]; exact F
end Mine
namespace Mine
theorem clk (v : Int) : (0 ≤ (v.fdiv 3600).fmod 24 ∧ (v.fdiv 3600).fmod 24 ≤ 9999) ∧ (0 ≤ (v.fdiv 60).fmod 60 ∧ (v.fdiv 60).fmod 60 ≤ 9999) ∧ (0 ≤ v.fmod 60 ∧ v.fmod 60 ≤ 9999) := by
  rw [fdiv_pos _ (by decide), fdiv_pos _ (by decide), fmod_pos _ (by decide), fmod_pos _ (by decide), fmod_pos _ (by decide)]
  omega
end Mine
namespace Mine
/-- the text as the law's loop lays it -/
noncomputable def rawText (y mo d h mi sc : Int) : PySem.Str :=
  putT (putT (putT (putT (putT (putT (PySem.Str.ofString "") y 4 (PySem.Str.ofString "-")) mo 2 (PySem.Str.ofString "-")) d 2 (PySem.Str.ofString "T")) h 2 (PySem.Str.ofString ":")) mi 2 (PySem.Str.ofString ":")) sc 2 (PySem.Str.ofString "Z")
end Mine
namespace Mine
theorem fr_c2 {h₀ h : Heap} {L : Addr} {m : PySem.Str → Option Value} (F : Fr h₀ L h m) (x1 x2 : PySem.Str) {v1 v2 : Value} (h1 : m x1 = some v1) (h2 : m x2 = some v2) :
    ∃ u : PySem.Str → Option Value, Fr h₀ L h (fun z => if z = x1 then some v1 else if z = x2 then some v2 else u z) := by
  refine ⟨m, ?_⟩
  have e : (fun z => if z = x1 then some v1 else if z = x2 then some v2 else m z) = m := by
    funext z
    (repeat' split) <;> simp_all
  rw [e]; exact F
end Mine
end
section
open PySem PySem.W PySem.Calls PyProof.Rows
set_option maxRecDepth 100000
set_option maxHeartbeats 1000000
namespace Mine
section
variable {prog : Program} {w : World} {A A₀ : Around} {s : Shared} {K : Frag} {L : Addr} {h₀ base : Heap} {m mg mb : PySem.Str → Option Value} {p : Program} {loose : List PySem.Str} {mean : ExcName → Option Value}
theorem code0C {env : Env} {outer : List Env} {R : Result → Shared → Prop} {name qual : PySem.Str} {params : Arguments} {body : List Stmt} {scope : Scope} {dV kV doc pm cdv ct oc : Value} {an od : Option Addr} {osl : Array (Option Value)} {f : Addr} {args : Args} {binds : List (PySem.Str × Value)}
    (B : Below A₀ base outer h₀) (F : Fr h₀ L s.heap m) (X₀ : K.In h₀) (T : Top p loose mean mg mb h₀) (hA : A.frames = some (env :: outer)) (hf : env.frame = some L) (hke : env.scope.kind = .function)
    (ho : K.lookup f = some ⟨oc, od, .func (fnOf name qual params body scope dV kV doc pm an cdv ct), osl⟩) (hcd : codeIn K cdv qual = true) (hroom : A.depth < recursionLimit)
    (hbind : BindsTo s (fnOf name qual params body scope dV kV doc pm an cdv ct) args binds) (hkind : (binds.all fun y => scope.names.lookup y.1 == some .local || scope.names.lookup y.1 == some .cell) = true)
    (hnd : ((cellsFrom 0 scope.names []).map (·.1)).Nodup)
    (h : ∀ L' h₁ tk cells, Fr s.heap L' h₁ (bindL (envOfC qual scope L' f cdv).kindOf binds fun _ => none) → News s.heap L' h₁ cells →
      CellsAre (bindC (envOfC qual scope L' f cdv).kindOf binds fun _ => none) (cellsFrom (L' + 1) scope.names []) cells → Below A base (env :: outer) s.heap → K.In s.heap → Top p loose mean mg mb s.heap →
      wpAny (model prog w) (A.deeper (envOfC qual scope L' f cdv)) (execs body (envOfC qual scope L' f cdv))
        (fun fl s' => LeaveK h₀ L m s.heap R (match fl with | .ret v => v | _ => .none) s')
        (fun e s' => wpAny (model prog w) (A.deeper (envOfC qual scope L' f cdv)) (leaving (envOfC qual scope L' f cdv) e) (fun _ s'' => R (.error e) s'') (fun e' s'' => R (.error e') s'') s')
        { s with heap := h₁, toks := tk })
    (hco : scope.isCoroutine = false) (hgen : scope.isGenerator = false) (hk : scope.kind = .function) : codeAny (model prog w) A (.call (.ref f) args) R s := by
  obtain ⟨_, BG, _, lv⟩ := groundX (R := R) (news := []) B F News.nil hA hf hke
  refine codeAny_call_function hroom ((X₀.keeps F.keep) _ _ ho) rfl hco hgen rfl (codeRec_of (X₀.keeps F.keep) hcd) (hbind _ _ _ _ ?_)
  refine wpAny_newFunctionEnv_cells hk (kindsX hkind _) fun env' he s' x => ?_
  subst he
  refine ⟨(T.nolimit.keeps F.keep).keeps x.toInCall.keep, codeAny_func ?_⟩
  obtain ⟨h₁, tk, rfl, _⟩ := x.done
  have hk₁ := x.toInCall.keep
  obtain ⟨cells, NC, Y⟩ := Cl.news (h₀ := s.heap) (Nat.le_refl _) fun n c hm => ⟨x.cell n c (lookup_of_mem_nodup (cellsFrom_names scope.names 0 (s.heap.objs.size + 1) [] [] rfl ▸ hnd) hm), x.above n c hm⟩
  exact wpAny_mono (h s.heap.objs.size h₁ tk cells ⟨x.toInCall.ns, fun b o e => hk₁ b o e, Nat.le_refl _⟩ NC Y BG (X₀.keeps F.keep) (T.keeps F.keep)) (fun fl s' hl => lv _ _ hl) fun _ _ y => y
end
end Mine
end
section
open PySem PySem.W PySem.Calls PyProof.Rows
set_option maxRecDepth 100000
set_option maxHeartbeats 1000000
namespace Mine
section
variable {prog : Program} {w : World} {A : Around} {E : Value → Shared → Prop} {s : Shared} {h₀ : Heap} {L a t : Addr} {m : PySem.Str → Option Value} {news : List (Addr × Obj)} {cn : PySem.Str} {cs : Scope} {ccd : Value} {cl : List (PySem.Str × Addr)} {Q : Unit → Shared → Prop} {va vb vc : Value} {x y z : PySem.Str} {px py pz pos : Pos} {k : Nat}
/-- a target of two names, in one step -/
theorem assign2 (F : Fr h₀ L s.heap m) (N : News h₀ L s.heap news) (ht : IsTup s.heap t #[va, vb]) (hh : A.handled = none) (hk : cs.kind = .function)
    (hx : (envX cn cs L a ccd cl).kindOf x = some .local) (hy : (envX cn cs L a ccd cl).kindOf y = some .local)
    (h : ∀ h' tk, Fr h₀ L h' (fun q => if q = y then some vb else if q = x then some va else m q) → News h₀ L h' news → Q () { s with heap := h', toks := tk }) :
    wpAny (model prog w) A (assign (.Tuple [.Name x px, .Name y py] k pos) (envX cn cs L a ccd cl) (.ref t)) Q E s := by
  refine unpackN_ F N ht hh rfl rfl fun h1 F1 N1 => ?_
  refine wpAny_assignInOrder_more (wpAny_assign_Name (storeX_L F1 N1 (fun h2 F2 N2 => ?_) hk hx))
  refine wpAny_assignInOrder_more (wpAny_assign_Name (storeX_L F2 N2 (fun h3 F3 N3 => ?_) hk hy))
  exact wpAny_assignInOrder_none (h h3 _ F3 N3)
theorem assign3 (F : Fr h₀ L s.heap m) (N : News h₀ L s.heap news) (ht : IsTup s.heap t #[va, vb, vc]) (hh : A.handled = none) (hk : cs.kind = .function)
    (hx : (envX cn cs L a ccd cl).kindOf x = some .local) (hy : (envX cn cs L a ccd cl).kindOf y = some .local) (hz : (envX cn cs L a ccd cl).kindOf z = some .local)
    (h : ∀ h' tk, Fr h₀ L h' (fun q => if q = z then some vc else if q = y then some vb else if q = x then some va else m q) → News h₀ L h' news → Q () { s with heap := h', toks := tk }) :
    wpAny (model prog w) A (assign (.Tuple [.Name x px, .Name y py, .Name z pz] k pos) (envX cn cs L a ccd cl) (.ref t)) Q E s := by
  refine unpackN_ F N ht hh rfl rfl fun h1 F1 N1 => ?_
  refine wpAny_assignInOrder_more (wpAny_assign_Name (storeX_L F1 N1 (fun h2 F2 N2 => ?_) hk hx))
  refine wpAny_assignInOrder_more (wpAny_assign_Name (storeX_L F2 N2 (fun h3 F3 N3 => ?_) hk hy))
  refine wpAny_assignInOrder_more (wpAny_assign_Name (storeX_L F3 N3 (fun h4 F4 N4 => ?_) hk hz))
  exact wpAny_assignInOrder_none (h h4 _ F4 N4)
theorem assign6 {t : Addr} {v0 v1 v2 v3 v4 v5 : Value} {x0 x1 x2 x3 x4 x5 : PySem.Str} {p0 p1 p2 p3 p4 p5 : Pos} {c : Addr} {o : Obj} {g : Obj → List (Addr × Obj)} {w₀ : Option Value} (F : Fr h₀ L s.heap m) (N : News h₀ L s.heap news) (ht : s.heap.IsList t #[v0, v1, v2, v3, v4, v5]) (hh : A.handled = none) (hk : cs.kind = .function)
    (hc : cl.lookup x0 = some c) (U : UpdF c o news g) (hd : o.data = .cell w₀) (k0 : (envX cn cs L a ccd cl).kindOf x0 = some .cell)
    (k1 : (envX cn cs L a ccd cl).kindOf x1 = some .local) (k2 : (envX cn cs L a ccd cl).kindOf x2 = some .local) (k3 : (envX cn cs L a ccd cl).kindOf x3 = some .local) (k4 : (envX cn cs L a ccd cl).kindOf x4 = some .local) (k5 : (envX cn cs L a ccd cl).kindOf x5 = some .local)
    (h : ∀ h' tk o', Fr h₀ L h' (fun q => if q = x5 then some v5 else if q = x4 then some v4 else if q = x3 then some v3 else if q = x2 then some v2 else if q = x1 then some v1 else m q) → News h₀ L h' (g o') → o'.data = .cell (some v0) → Q () { s with heap := h', toks := tk }) :
    wpAny (model prog w) A (assign (.Tuple [.Name x0 p0, .Name x1 p1, .Name x2 p2, .Name x3 p3, .Name x4 p4, .Name x5 p5] k pos) (envX cn cs L a ccd cl) (.ref t)) Q E s := by
  refine kun_list F N ht hh rfl rfl fun h1 F1 N1 => ?_
  refine wpAny_assignInOrder_more (wpAny_assign_Name (storeX_C F1 N1 hc U hd (fun h2 o2 F2 N2 d2 => ?_) hk k0))
  refine wpAny_assignInOrder_more (wpAny_assign_Name (storeX_L F2 N2 (fun h3 F3 N3 => ?_) hk k1))
  refine wpAny_assignInOrder_more (wpAny_assign_Name (storeX_L F3 N3 (fun h4 F4 N4 => ?_) hk k2))
  refine wpAny_assignInOrder_more (wpAny_assign_Name (storeX_L F4 N4 (fun h5 F5 N5 => ?_) hk k3))
  refine wpAny_assignInOrder_more (wpAny_assign_Name (storeX_L F5 N5 (fun h6 F6 N6 => ?_) hk k4))
  refine wpAny_assignInOrder_more (wpAny_assign_Name (storeX_L F6 N6 (fun h7 F7 N7 => ?_) hk k5))
  exact wpAny_assignInOrder_none (h h7 _ o2 F7 N7 d2)
end
end Mine
end
section
open PySem PySem.W PyProof.Rows
set_option maxRecDepth 100000
set_option maxHeartbeats 4000000
namespace Mine
theorem m29 {y mo : Int} (h : mo = 2) (l : leap y) : 29 = mdays y mo := by
  subst h
  unfold mdays
  rw [if_pos rfl, if_pos l]
theorem m28 {y mo : Int} (h : mo = 2) (l : ¬ leap y) : 28 = mdays y mo := by
  subst h
  unfold mdays
  rw [if_pos rfl, if_neg l]
theorem fm (y : Int) : y.fmod 4 = y % 4 ∧ y.fmod 100 = y % 100 ∧ y.fmod 400 = y % 400 := ⟨fmod_pos _ (by decide), fmod_pos _ (by decide), fmod_pos _ (by decide)⟩
theorem md1 {y mo : Int} (h : mo = 2) (h4 : y.fmod 4 = 0) (h1 : y.fmod 100 ≠ 0) : 29 = mdays y mo := m29 h (.inl ⟨(fm y).1 ▸ h4, (fm y).2.1 ▸ h1⟩)
theorem md2 {y mo : Int} (h : mo = 2) (h3 : y.fmod 400 = 0) : 29 = mdays y mo := m29 h (.inr ((fm y).2.2 ▸ h3))
theorem md3 {y mo : Int} (h : mo = 2) (h1 : y.fmod 100 = 0) (h3 : y.fmod 400 ≠ 0) : 28 = mdays y mo := m28 h fun l => l.elim (fun q => q.2 ((fm y).2.1 ▸ h1)) (fun q => h3 ((fm y).2.2 ▸ q))
theorem md4 {y mo : Int} (h : mo = 2) (h4 : y.fmod 4 ≠ 0) (h3 : y.fmod 400 ≠ 0) : 28 = mdays y mo := m28 h fun l => l.elim (fun q => h4 ((fm y).1 ▸ q.1)) (fun q => h3 ((fm y).2.2 ▸ q))
theorem md5 {y mo : Int} (h : mo ≠ 2) (h4 : ([4, 6, 9, 11].any fun x => x == mo) = true) : 30 = mdays y mo := by
  have q : mo = 4 ∨ mo = 6 ∨ mo = 9 ∨ mo = 11 := by
    simp only [List.any_cons, List.any_nil, Bool.or_false, Bool.or_eq_true, beq_iff_eq] at h4
    exact h4.imp Eq.symm (Or.imp Eq.symm (Or.imp Eq.symm Eq.symm))
  unfold mdays
  rw [if_neg h, if_pos q]
theorem md6 {y mo : Int} (h : mo ≠ 2) (h4 : ([4, 6, 9, 11].any fun x => x == mo) = false) : 31 = mdays y mo := by
  have q : ¬ (mo = 4 ∨ mo = 6 ∨ mo = 9 ∨ mo = 11) := fun q => by
    rcases q with rfl | rfl | rfl | rfl <;> exact absurd h4 (by decide)
  unfold mdays
  rw [if_neg h, if_neg q]
theorem ahead_spec {w : World} {mg mb : PySem.Str → Option Value} {loose : List PySem.Str} {mean : ExcName → Option Value} {news : List (Addr × Obj)} {dp un : Nat} {gd : Option (List Code)} {cn : PySem.Str} {cs : Scope} {a : Addr} {ccd : Value} {cl : List (PySem.Str × Addr)} {outer : List Env} {A₀ : Around} {base h₀ : Heap} {L : Addr} {m : PySem.Str → Option Value} {s : Shared} {Q E : Value → Shared → Prop} {v : Int} {t : Tok}
    (B : Below A₀ base outer h₀) (F : Fr h₀ L s.heap m) (X : (hd.heap_39 w.params).In h₀) (N : News h₀ L s.heap news) (T : Top hd.view_39 loose mean mg mb h₀) (hkf : cs.kind = .function) (hroom : dp + 1 < recursionLimit) (hunits : un + 8 < cLine)
    (hret : CbRet h₀ L m news s Q (fun t => .int (ahead v) t)) :
    wpAny (model PySem.Challenge.rw_il0028_01.row.prog w) (ktrTop dp un gd cn cs L a ccd cl outer) (call (.ref 87) [.int v t]) Q E s := by
  k_with_none
  w_on
  (revert X; k_fill; intro X)
  refine wpAny_call ?_
  w_strict (k_dflt (refine' Mine.code0 ?k1 ?k2 ?k3 ?k5 ?kA ?kF ?kK ?k6 ?k7 ?k8 ?k9 ?kB ?_ ?c2 ?c3 ?c4 ?c5; (case kA => exact rfl); (case kF => exact rfl); (case kK => assumption); (case k1 => k_asm); (case k2 => k_asm); (case k3 => k_asm); (case k5 => k_asm); (case k6 => k_is); (case k7 => k_is); (case k8 => ktr_room); (case k9 => exact BindsTo.of_eq rfl); (case c5 => decide); (case kB => exact locs rfl); (case c2 => exact rfl); (case c3 => exact rfl); (case c4 => exact rfl); k_whole; intro L' h' F' N' B' X' T'; (try dsimp only); (try k_lift B'); (try k_fold)); k_steps; all_goals (refine cb_retI hret ?_ (by assumption) (Mine.news_keep N (Fr.keep (by assumption)))); all_goals exact ahead_f _)
theorem days_spec {w : World} {mg mb : PySem.Str → Option Value} {loose : List PySem.Str} {mean : ExcName → Option Value} {news : List (Addr × Obj)} {dp un : Nat} {gd : Option (List Code)} {cn : PySem.Str} {cs : Scope} {a : Addr} {ccd : Value} {cl : List (PySem.Str × Addr)} {outer : List Env} {A₀ : Around} {base h₀ : Heap} {L : Addr} {m : PySem.Str → Option Value} {s : Shared} {Q E : Value → Shared → Prop} {y mo : Int} {t t' : Tok}
    (B : Below A₀ base outer h₀) (F : Fr h₀ L s.heap m) (X : (hd.heap_39 w.params).In h₀) (N : News h₀ L s.heap news) (T : Top hd.view_39 loose mean mg mb h₀) (hkf : cs.kind = .function) (hroom : dp + 1 < recursionLimit) (hunits : un + 8 < cLine)
    (hret : CbRet h₀ L m news s Q (fun t => .int (mdays y mo) t)) :
    wpAny (model PySem.Challenge.rw_il0028_01.row.prog w) (ktrTop dp un gd cn cs L a ccd cl outer) (call (.ref 80) [.int y t, .int mo t']) Q E s := by
  k_with_none
  w_on
  (revert X; k_fill; intro X)
  refine wpAny_call ?_
  k_with "tree" => simp only [mdays]
  w_strict (k_dflt (refine' Mine.code0 ?k1 ?k2 ?k3 ?k5 ?kA ?kF ?kK ?k6 ?k7 ?k8 ?k9 ?kB ?_ ?c2 ?c3 ?c4 ?c5; (case kA => exact rfl); (case kF => exact rfl); (case kK => assumption); (case k1 => k_asm); (case k2 => k_asm); (case k3 => k_asm); (case k5 => k_asm); (case k6 => k_is); (case k7 => k_is); (case k8 => ktr_room); (case k9 => exact BindsTo.of_eq rfl); (case c5 => decide); (case kB => exact locs rfl); (case c2 => exact rfl); (case c3 => exact rfl); (case c4 => exact rfl); k_whole; intro L' h' F' N' B' X' T'; (try dsimp only); (try k_lift B'); (try k_fold)); k_steps; all_goals (refine cb_retI hret ?_ (by assumption) (Mine.news_keep N (Fr.keep (by assumption)))); all_goals (first | exact Mine.md1 (by assumption) (by assumption) (by assumption) | exact Mine.md2 (by assumption) (by assumption) | exact Mine.md3 (by assumption) (by assumption) (by assumption) | exact Mine.md4 (by assumption) (by assumption) (by assumption) | exact Mine.md5 (by assumption) (by assumption) | exact Mine.md6 (by assumption) (by assumption)))
end Mine
end
section
open PySem PySem.W PyProof.Rows
set_option maxRecDepth 100000
set_option maxHeartbeats 4000000
local macro_rules | `(tactic| passes_own) => `(tactic| assumption)
namespace Mine
theorem text_turn {w : World} {mg mb : PySem.Str → Option Value} {loose : List PySem.Str} {mean : ExcName → Option Value} {dp un : Nat} {gd : Option (List Code)} {outer : List Env} {A₀ : Around} {base h₀ : Heap} {L : Addr}{u : PySem.Str → Option Value} {s : Shared} {Q : Flow → Shared → Prop} {E : Value → Shared → Prop} {news : List (Addr × Obj)} {x sg : PySem.Str} {n sz : Int} {k : Nat} {tx tn tz tg : Tok} (hn : 0 ≤ n ∧ n ≤ 9999) (hz : 0 ≤ sz ∧ sz ≤ 4) (hx : x.length ≤ k) (hk : k ≤ 60) (hg : sg.length ≤ 1)
    (F : Fr h₀ L s.heap (fun z => if z = PySem.Str.ofString "text" then some (.str x tx) else if z = PySem.Str.ofString "number" then some (.int n tn) else if z = PySem.Str.ofString "size" then some (.int sz tz) else if z = PySem.Str.ofString "sign" then some (.str sg tg) else u z))
    (B : Below A₀ base outer h₀) (X : (hd.heap_39 w.params).In h₀) (N : News h₀ L s.heap news) (T : Top hd.view_39 loose mean mg mb h₀) (hroom : dp + 2 < recursionLimit) (hunits : un + 16 < cLine)
    (hE : PassesOwn (model PySem.Challenge.rw_il0028_01.row.prog w) (ktrTop dp un gd (fnd w.params 94).qualname (fnd w.params 94).scope L 94 (fnd w.params 94).code [] outer) (envOf (fnd w.params 94).qualname (fnd w.params 94).scope L 94 (fnd w.params 94).code) E)
    (hret : ∀ x' t h' tk', x' = putT x n sz sg → x'.length ≤ k + 11 → Fr h₀ L h' (fun z => if z = PySem.Str.ofString "text" then some (.str x' t) else if z = PySem.Str.ofString "number" then some (.int n tn) else if z = PySem.Str.ofString "size" then some (.int sz tz) else if z = PySem.Str.ofString "sign" then some (.str sg tg) else u z) → News h₀ L h' news → Q .next { s with heap := h', toks := tk' }) :
    wpAny (model PySem.Challenge.rw_il0028_01.row.prog w) (ktrTop dp un gd (fnd w.params 94).qualname (fnd w.params 94).scope L 94 (fnd w.params 94).code [] outer) (execs (forBody (stAt (fb w.params 94) 8)) (envOf (fnd w.params 94).qualname (fnd w.params 94).scope L 94 (fnd w.params 94).code)) Q E s := by
  k_with_none
  k_with "eval Tuple" => (k_here; dsimp only; (try k_gentoks))
  k_with "eval Call" => (k_here; dsimp only; (try k_gentoks))
  k_with "eval Attribute" => (k_here; dsimp only; (try k_gentoks))
  k_with "exec Assign" => (k_here; dsimp only; (try k_gentoks))
  k_with "exec If" => (k_here; dsimp only; (try k_gentoks))
  k_with "exec For" => (k_here; dsimp only; (try k_gentoks))
  k_with "execs cons" => (k_here; dsimp only; (try k_gentoks))
  k_with "execs nil" => (k_here; dsimp only; (try k_gentoks))
  k_with "pyIter ref" => (k_here; dsimp only; (try k_gentoks))
  k_with "newTuple" => (k_here; dsimp only; (try k_gentoks))
  k_with "assign Tuple" => (k_here; dsimp only; (try k_gentoks))
  k_with "ItemsRest" => (dsimp only)
  k_with "UnrPostW" => (dsimp only)
  k_with "UnrEndW" => (dsimp only)
  w_on
  (revert X; k_fill; intro X)
  have efd := fnd_of (P := w.params) (f := 94) (by k_is)
  unfold fb
  rw [efd] at hE ⊢
  clear efd
  w_strict (dsimp only [forBody, stAt, List.getD, List.getElem?_cons_succ, List.getElem?_cons_zero, Option.getD_some] at hE ⊢; (try k_fold); k_steps; (refine hret _ _ _ _ rfl ?_ (fr_dup (by assumption)) (by assumption)); (unfold putT); omega)
end Mine
end
section
open PySem PySem.W PyProof.Rows
set_option maxRecDepth 100000
set_option maxHeartbeats 4000000
local macro_rules | `(tactic| passes_own) => `(tactic| assumption)
namespace Mine
end Mine
namespace Mine
theorem text_tail {w : World} {mg mb : PySem.Str → Option Value} {loose : List PySem.Str} {mean : ExcName → Option Value} {dp un : Nat} {gd : Option (List Code)} {outer : List Env} {A₀ : Around} {base h₀ : Heap} {L : Addr}{u : PySem.Str → Option Value} {s : Shared} {Q : Flow → Shared → Prop} {E : Value → Shared → Prop} {y mo l v : Int} {ty tm tl tv : Tok} (hy : 1 ≤ y ∧ y ≤ 9999) (hmo : 1 ≤ mo ∧ mo ≤ 12) (hl : 0 ≤ l ∧ l ≤ 30) (hv : 0 ≤ v ∧ v < 315537897600)
    (F : Fr h₀ L s.heap (fun z => if z = PySem.Str.ofString "moment" then some (.int v tv) else if z = PySem.Str.ofString "year" then some (.int y ty) else if z = PySem.Str.ofString "month" then some (.int mo tm) else if z = PySem.Str.ofString "left" then some (.int l tl) else u z))
    (B : Below A₀ base outer h₀) (X : (hd.heap_39 w.params).In h₀) (N : News h₀ L s.heap []) (T : Top hd.view_39 loose mean mg mb h₀) (hroom : dp + 2 < recursionLimit) (hunits : un + 16 < cLine)
    (hE : PassesOwn (model PySem.Challenge.rw_il0028_01.row.prog w) (ktrTop dp un gd (fnd w.params 94).qualname (fnd w.params 94).scope L 94 (fnd w.params 94).code [] outer) (envOf (fnd w.params 94).qualname (fnd w.params 94).scope L 94 (fnd w.params 94).code) E)
    (hret : ∀ x t u' h' tk', x = rawText y mo (l + 1) ((v.fdiv 3600).fmod 24) ((v.fdiv 60).fmod 60) (v.fmod 60) → Fr h₀ L h' u' → News h₀ L h' [] → Q (.ret (.str x t)) { s with heap := h', toks := tk' }) :
    wpAny (model PySem.Challenge.rw_il0028_01.row.prog w) (ktrTop dp un gd (fnd w.params 94).qualname (fnd w.params 94).scope L 94 (fnd w.params 94).code [] outer) (execs ((fb w.params 94).drop 7) (envOf (fnd w.params 94).qualname (fnd w.params 94).scope L 94 (fnd w.params 94).code)) Q E s := by
  k_with_none
  k_with "eval Tuple" => (k_here; dsimp only; (try k_gentoks))
  k_with "eval Call" => (k_here; dsimp only; (try k_gentoks))
  k_with "eval Attribute" => (k_here; dsimp only; (try k_gentoks))
  k_with "exec Assign" => (k_here; dsimp only; (try k_gentoks))
  k_with "exec If" => (k_here; dsimp only; (try k_gentoks))
  k_with "exec For" => (k_here; dsimp only; (try k_gentoks))
  k_with "execs cons" => (k_here; dsimp only; (try k_gentoks))
  k_with "execs nil" => (k_here; dsimp only; (try k_gentoks))
  k_with "pyIter ref" => (k_here; dsimp only; (try k_gentoks))
  k_with "newTuple" => (k_here; dsimp only; (try k_gentoks))
  k_with "assign Tuple" => (k_here; dsimp only; (try k_gentoks))
  k_with "ItemsRest" => (dsimp only)
  k_with "UnrPostW" => (dsimp only)
  k_with "UnrEndW" => (dsimp only)
  k_with "assign Tuple" => (k_here; k_dflt (refine' Mine.assign3 ?kF ?kN ?kT ?kh ?kk ?y0 ?y1 ?y2 ?_; (case kF => k_asm); (case kN => k_asm); (case kT => first | with_reducible assumption | (refine News.isTup (by k_asm) (by k_mem))); (case kh => exact rfl); (case kk => exact rfl); (case y0 => exact rfl); (case y1 => exact rfl); (case y2 => exact rfl)); intro h9 tk9 F9 N9; (try dsimp only))
  k_with "execs cons" => (k_here; k_dflt ((rename Fr _ _ _ _ => lF'); (refine Exists.elim (Mine.fr_c4 lF' (PySem.Str.ofString "text") (PySem.Str.ofString "number") (PySem.Str.ofString "size") (PySem.Str.ofString "sign") (by with_unfolding_all rfl) (by with_unfolding_all rfl) (by with_unfolding_all rfl) (by with_unfolding_all rfl)) ?_); intro u9 F9'; clear lF'; (try dsimp only); (refine' Mine.text_turn ?hn ?hz ?hx ?hk ?hg ?k2 ?k1 ?k3 ?k4 ?k5 ?kd ?ku ?kE ?_); (case k2 => k_asm); (case k1 => k_asm); (case k3 => k_asm); (case k4 => k_asm); (case k5 => k_asm); (case hn => first | assumption | (constructor <;> omega)); (case hz => constructor <;> decide); (case hx => first | assumption | exact Nat.le_refl 0); (case hk => decide); (case hg => decide); (case kd => omega); (case ku => omega); (case kE => first | assumption | passes_own); intro x9 t9 h9 tk9 hx9 hlen9 F9 N9; (try dsimp only); (try k_fold)))
  have h4 := (clk v).1
  have h5 := (clk v).2.1
  have h6 := (clk v).2.2
  w_on
  (revert X; k_fill; intro X)
  have efd := fnd_of (P := w.params) (f := 94) (by k_is)
  unfold fb
  rw [efd] at hE ⊢
  clear efd
  w_strict (dsimp only [List.drop] at hE ⊢; (try k_fold); k_steps; dsimp only; (refine hret _ _ _ _ _ ?_ (by assumption) News.nil); (unfold rawText); subst_vars; rfl)
end Mine
end
section
open PySem PySem.W PyProof.Rows
set_option maxRecDepth 100000
set_option maxHeartbeats 4000000
namespace Mine
/-- the day and the month of a moment, by the model's reckoning -/
noncomputable def cvt (m : Int) : Int × Int × Int := civ (m / 86400 + 1)
noncomputable def lawText (m : Int) : PySem.Str := rawText (cvt m).1 (cvt m).2.1 (cvt m).2.2 ((m.fdiv 3600).fmod 24) ((m.fdiv 60).fmod 60) (m.fmod 60)
theorem cvt_is {v y mo l : Int} (hv : 0 ≤ v ∧ v < 315537897600) (hy : 1 ≤ y) (hm : 1 ≤ mo) (hm' : mo ≤ 12) (hl : 0 ≤ l) (h : ¬ mdays y mo ≤ l) (e : l + cum y mo = v.fdiv 86400 - ahead y) : cvt v = (y, mo, l + 1) := by
  rw [fdiv_pos _ (by decide)] at e
  have h1 : 1 ≤ v / 86400 + 1 := by omega
  have h2 : v / 86400 + 1 ≤ 3652059 := by omega
  obtain ⟨a, b, _⟩ := civ_ok h1 h2
  have d : Day y mo (l + 1) := ⟨hy, hm, hm', by omega, by omega⟩
  have q := ord_inj a d (by rw [b]; unfold ord; omega)
  unfold cvt
  exact Prod.ext q.1 (Prod.ext q.2.1 q.2.2)
theorem text_end {v y mo l : Int} {x : PySem.Str} (hx : x = rawText y mo (l + 1) ((v.fdiv 3600).fmod 24) ((v.fdiv 60).fmod 60) (v.fmod 60)) (hv : 0 ≤ v ∧ v < 315537897600) (e : l + cum y mo = v.fdiv 86400 - ahead y) (h : ¬ mdays y mo ≤ l) (hy : 1 ≤ y) (hm : 1 ≤ mo) (hm' : mo ≤ 12) (hl : 0 ≤ l) : x = lawText v := by
  rw [hx, lawText, cvt_is hv hy hm hm' hl h e]
theorem left_in {l y mo : Int} (h1 : 1 ≤ mo) (h2 : mo ≤ 12) (h : 0 ≤ l) (h' : ¬ mdays y mo ≤ l) : 0 ≤ l ∧ l ≤ 30 := by
  have := mdays_pos (y := y) (m := mo) ⟨h1, h2⟩
  omega
theorem yr_start {v : Int} (h : 0 ≤ v ∧ v < 315537897600) : 1 ≤ (v.fdiv 86400 * 400).fdiv 146097 + 1 ∧ (v.fdiv 86400 * 400).fdiv 146097 + 1 ≤ 10000 ∧ 0 ≤ v.fdiv 86400 ∧ v.fdiv 86400 ≤ 3652058 := by
  rw [fdiv_pos _ (by decide), fdiv_pos _ (by decide)]; omega
theorem yr_dn {l y : Int} (h0 : 0 ≤ l) (h1 : l ≤ 3652058) (h2 : 1 ≤ y) (h3 : y ≤ 10000) (h : l < ahead y) : 0 ≤ l ∧ l ≤ 3652058 ∧ 1 ≤ y - 1 ∧ y - 1 ≤ 10000 := by
  refine ⟨h0, h1, ?_, by omega⟩
  by_cases e : y = 1
  · subst e; have : ahead 1 = 0 := by decide
    omega
  · omega
theorem yr_up {l y : Int} (h0 : 0 ≤ l) (h1 : l ≤ 3652058) (h2 : 1 ≤ y) (_h3 : y ≤ 10000) (h : ahead (y + 1) ≤ l) : 0 ≤ l ∧ l ≤ 3652058 ∧ 1 ≤ y + 1 ∧ y + 1 ≤ 10000 ∧ ahead (y + 1) ≤ l := by
  refine ⟨h0, h1, by omega, ?_, h⟩
  by_cases e : y + 1 ≤ 10000
  · exact e
  · have := ahead_mono (y := 10001) (y' := y + 1) (by omega)
    have : ahead 10001 = 3652425 := by decide
    omega
theorem mo_in {l y : Int} (h0 : 0 ≤ l) (h1 : l ≤ 3652058) (h2 : 1 ≤ y) (h3 : y ≤ 10000) (h : ahead y ≤ l) (h' : ¬ ahead (y + 1) ≤ l) :
    1 ≤ y ∧ y ≤ 9999 ∧ 0 ≤ l - ahead y ∧ l - ahead y < 365 + lp y ∧ (1 : Int) ≤ 1 ∧ (1 : Int) ≤ 12 ∧ 0 ≤ l - ahead y ∧ l - ahead y + cum y 1 = l - ahead y := by
  have e := ahead_succ y
  have c : cum y 1 = 0 := by simp [cum]
  refine ⟨h2, ?_, by omega, by omega, by omega, by omega, by omega, by omega⟩
  by_cases e : y ≤ 9999
  · exact e
  · have := ahead_mono (y := 10000) (y' := y) (by omega)
    have : ahead 10000 = 3652059 := by decide
    omega
theorem mo_up {l y L0 mo : Int} (h1 : 1 ≤ y) (h2 : y ≤ 9999) (h3 : 0 ≤ L0) (h4 : L0 < 365 + lp y) (h5 : 1 ≤ mo) (h6 : mo ≤ 12) (_h7 : 0 ≤ l) (h8 : l + cum y mo = L0) (h : mdays y mo ≤ l) :
    1 ≤ y ∧ y ≤ 9999 ∧ 0 ≤ L0 ∧ L0 < 365 + lp y ∧ 1 ≤ mo + 1 ∧ mo + 1 ≤ 12 ∧ 0 ≤ l - mdays y mo ∧ l - mdays y mo + cum y (mo + 1) = L0 := by
  have e := mdays_one (y := y) (m := mo) ⟨h5, h6⟩
  refine ⟨h1, h2, h3, h4, by omega, ?_, by omega, by omega⟩
  by_cases q : mo = 12
  · subst q
    have := cum_last y
    have e' : (12 : Int) + 1 = 13 := by decide
    rw [e', this] at e
    omega
  · omega
end Mine
namespace Mine
theorem text_spec {w : World} {mg mb : PySem.Str → Option Value} {loose : List PySem.Str} {mean : ExcName → Option Value} {news : List (Addr × Obj)} {dp un : Nat} {gd : Option (List Code)} {cn : PySem.Str} {cs : Scope} {a : Addr} {ccd : Value} {cl : List (PySem.Str × Addr)} {outer : List Env} {A₀ : Around} {base h₀ : Heap} {L : Addr} {m : PySem.Str → Option Value} {s : Shared} {Q E : Value → Shared → Prop} {v : Int} {t : Tok} (hpre : 0 ≤ v ∧ v < 315537897600)
    (B : Below A₀ base outer h₀) (F : Fr h₀ L s.heap m) (X : (hd.heap_39 w.params).In h₀) (N : News h₀ L s.heap news) (T : Top hd.view_39 loose mean mg mb h₀) (hkf : cs.kind = .function) (hroom : dp + 3 < recursionLimit) (hunits : un + 24 < cLine)
    (hret : CbRet h₀ L m news s Q (fun t => .str (lawText v) t)) :
    wpAny (model PySem.Challenge.rw_il0028_01.row.prog w) (ktrTop dp un gd cn cs L a ccd cl outer) (call (.ref 94) [.int v t]) Q E s := by
  k_with_none
  k_with "execs cons" => (k_here; k_dflt ((rename Fr _ _ _ _ => lF'); (refine Exists.elim (Mine.fr_c4 lF' (PySem.Str.ofString "moment") (PySem.Str.ofString "year") (PySem.Str.ofString "month") (PySem.Str.ofString "left") (by with_unfolding_all rfl) (by with_unfolding_all rfl) (by with_unfolding_all rfl) (by with_unfolding_all rfl)) ?_); intro u9 F9'; clear lF'; (try dsimp only); (refine' Mine.text_tail ?hy ?hmo ?hl ?hv ?k2 ?k1 ?k3 ?k4 ?k5 ?kd ?ku ?kE ?_); (case k2 => k_asm); (case k1 => k_asm); (case k3 => k_asm); (case k4 => k_asm); (case k5 => k_asm); (case hy => constructor <;> assumption); (case hmo => constructor <;> assumption); (case hl => exact Mine.left_in (by assumption) (by assumption) (by assumption) (by assumption)); (case hv => assumption); (case kd => ktr_room); (case ku => ktr_units); (case kE => passes_own); intro x9 t9 u9 h9 tk9 hx9 F9 N9; (try dsimp only); (try k_fold)))
  k_with "eval Tuple" => (k_here; dsimp only; (try k_gentoks))
  k_with "eval Call" => (k_here; dsimp only; (try k_gentoks))
  k_with "eval Attribute" => (k_here; dsimp only; (try k_gentoks))
  k_with "exec Assign" => (k_here; dsimp only; (try k_gentoks))
  k_with "exec If" => (k_here; dsimp only; (try k_gentoks))
  k_with "exec For" => (k_here; dsimp only; (try k_gentoks))
  k_with "execs cons" => (k_here; dsimp only; (try k_gentoks))
  k_with "execs nil" => (k_here; dsimp only; (try k_gentoks))
  k_with "pyIter ref" => (k_here; dsimp only; (try k_gentoks))
  k_with "newTuple" => (k_here; dsimp only; (try k_gentoks))
  k_with "assign Tuple" => (k_here; dsimp only; (try k_gentoks))
  k_with "ItemsRest" => (dsimp only)
  k_with "UnrPostW" => (dsimp only)
  k_with "UnrEndW" => (dsimp only)
  k_with "call ref" => (k_here; k_dflt (refine' Mine.ahead_spec ?k1 ?k2 ?k3 ?k4 ?k5 ?kK ?kd ?ku ?_); (case k1 => k_asm); (case k2 => k_asm); (case k3 => k_asm); (case k4 => k_asm); (case k5 => k_asm); (case kK => first | exact rfl | assumption); (case kd => ktr_room); (case ku => ktr_units); intro t9 h9 tk9 F9 N9; (try dsimp only); (try k_fold))
  k_with "call ref" => (k_here; k_dflt (refine' Mine.days_spec ?k1 ?k2 ?k3 ?k4 ?k5 ?kK ?kd ?ku ?_); (case k1 => k_asm); (case k2 => k_asm); (case k3 => k_asm); (case k4 => k_asm); (case k5 => k_asm); (case kK => first | exact rfl | assumption); (case kd => ktr_room); (case ku => ktr_units); intro t9 h9 tk9 F9 N9; (try dsimp only); (try k_fold))
  have hst := yr_start hpre
  w_on
  (revert X; k_fill; intro X)
  refine wpAny_call ?_
  (k_with "exec While Compare cons nil" => first
    | k_while_given ["year", "left!"] (fun year L0 _ left month => 1 ≤ year ∧ year ≤ 9999 ∧ 0 ≤ L0 ∧ L0 < 365 + lp year ∧ 1 ≤ month ∧ month ≤ 12 ∧ 0 ≤ left ∧ left + cum year month = L0) (fun year L0 _ left month => (13 - month).toNat) "left" "month"
    | k_while_given ["left"] (fun left _ year => 0 ≤ left ∧ left ≤ 3652058 ∧ 1 ≤ year ∧ year ≤ 10000 ∧ ahead year ≤ left) (fun left _ year => (20000 - year).toNat) "year"
    | k_while_given ["left"] (fun left _ year => 0 ≤ left ∧ left ≤ 3652058 ∧ 1 ≤ year ∧ year ≤ 10000) (fun left _ year => year.toNat) "year")
  (k_with "state" => first
    | exact yr_dn (by assumption) (by assumption) (by assumption) (by assumption) (by assumption)
    | exact yr_up (by assumption) (by assumption) (by assumption) (by assumption) (by assumption)
    | exact mo_in (by assumption) (by assumption) (by assumption) (by assumption) (by assumption) (by assumption)
    | exact mo_up (by assumption) (by assumption) (by assumption) (by assumption) (by assumption) (by assumption) (by assumption) (by assumption) (by assumption))
  w_strict (k_dflt (refine' Mine.code0 ?k1 ?k2 ?k3 ?k5 ?kA ?kF ?kK ?k6 ?k7 ?k8 ?k9 ?kB ?_ ?c2 ?c3 ?c4 ?c5; (case kA => exact rfl); (case kF => exact rfl); (case kK => assumption); (case k1 => k_asm); (case k2 => k_asm); (case k3 => k_asm); (case k5 => k_asm); (case k6 => k_is); (case k7 => k_is); (case k8 => ktr_room); (case k9 => exact BindsTo.of_eq rfl); (case c5 => decide); (case kB => exact locs rfl); (case c2 => exact rfl); (case c3 => exact rfl); (case c4 => exact rfl); k_whole; intro L' h' F' N' B' X' T'; (try dsimp only); (try k_lift B'); (try k_fold)); k_steps; all_goals (refine cb_retS hret ?_ (by assumption) (Mine.news_keep N (Fr.keep (by assumption)))); all_goals exact text_end (by assumption) hpre (by assumption) (by assumption) (by assumption) (by assumption) (by assumption) (by assumption))
end Mine
end
section
open PySem PySem.W PySem.Calls PyProof.Rows
set_option maxRecDepth 100000
set_option maxHeartbeats 1000000
namespace Mine
theorem slot_match : Slot "re.Pattern" "match" "re.Pattern.match" :=
  .of (owner := "re.Pattern") (n := "match") (by rw [typeLookup_type, builtinLookup_eq_fast]; kernel_rfl) (by decide +kernel) (by decide +kernel) (by decide +kernel)
    (by first | exact .inl (by decide +kernel) | exact .inr (by decide +kernel)) (by rw [isSubtype_type]; kernel_rfl)
theorem type_match : typeOf (.builtin "re.Pattern.match") = pure (.type "method_descriptor") := by show builtinType _ = _; rw [builtinType_eq_fast]; kernel_rfl
theorem entry_match : entryFor table "re.Pattern.match" = some Builtin.«re.Pattern.match» := entryFor_of_tree (by kernel_rfl)
theorem args_match_2 (a b : Value) : argsOk "re.Pattern.match" ⟨[a, b], []⟩ := by
  unfold argsOk; kernel_rfl
theorem plain_pattern : PlainAttrs "re.Pattern" where
  ga := ⟨"object.__getattribute__", by rw [typeLookup_type, builtinLookup_eq_fast]; kernel_rfl, by decide +kernel⟩
  noGetattr := by rw [typeLookup_type, builtinLookup_eq_fast]; kernel_rfl
end Mine
namespace Mine
theorem slot_groupdict : Slot "re.Match" "groupdict" "re.Match.groupdict" :=
  .of (owner := "re.Match") (n := "groupdict") (by rw [typeLookup_type, builtinLookup_eq_fast]; kernel_rfl) (by decide +kernel) (by decide +kernel) (by decide +kernel)
    (by first | exact .inl (by decide +kernel) | exact .inr (by decide +kernel)) (by rw [isSubtype_type]; kernel_rfl)
theorem type_groupdict : typeOf (.builtin "re.Match.groupdict") = pure (.type "method_descriptor") := by show builtinType _ = _; rw [builtinType_eq_fast]; kernel_rfl
theorem entry_groupdict : entryFor table "re.Match.groupdict" = some Builtin.«re.Match.groupdict» := entryFor_of_tree (by kernel_rfl)
theorem args_groupdict_1 (a : Value) : argsOk "re.Match.groupdict" ⟨[a], []⟩ := by
  unfold argsOk; kernel_rfl
theorem plain_matchobj : PlainAttrs "re.Match" where
  ga := ⟨"object.__getattribute__", by rw [typeLookup_type, builtinLookup_eq_fast]; kernel_rfl, by decide +kernel⟩
  noGetattr := by rw [typeLookup_type, builtinLookup_eq_fast]; kernel_rfl
theorem slot_dsub : Slot "datetime.datetime" "__sub__" "datetime.datetime.__sub__" :=
  .of (owner := "datetime.datetime") (n := "__sub__") (by rw [typeLookup_type, builtinLookup_eq_fast]; kernel_rfl) (by decide +kernel) (by decide +kernel) (by decide +kernel)
    (by first | exact .inl (by decide +kernel) | exact .inr (by decide +kernel)) (by rw [isSubtype_type]; kernel_rfl)
theorem slot_dadd : Slot "datetime.datetime" "__add__" "datetime.datetime.__add__" :=
  .of (owner := "datetime.datetime") (n := "__add__") (by rw [typeLookup_type, builtinLookup_eq_fast]; kernel_rfl) (by decide +kernel) (by decide +kernel) (by decide +kernel)
    (by first | exact .inl (by decide +kernel) | exact .inr (by decide +kernel)) (by rw [isSubtype_type]; kernel_rfl)
theorem slot_dne : Slot "datetime.datetime" "__ne__" "datetime.datetime.__ne__" :=
  .of (owner := "datetime.datetime") (n := "__ne__") (by rw [typeLookup_type, builtinLookup_eq_fast]; kernel_rfl) (by decide +kernel) (by decide +kernel) (by decide +kernel)
    (by first | exact .inl (by decide +kernel) | exact .inr (by decide +kernel)) (by rw [isSubtype_type]; kernel_rfl)
theorem slot_replace : Slot "datetime.datetime" "replace" "datetime.datetime.replace" :=
  .of (owner := "datetime.datetime") (n := "replace") (by rw [typeLookup_type, builtinLookup_eq_fast]; kernel_rfl) (by decide +kernel) (by decide +kernel) (by decide +kernel)
    (by first | exact .inl (by decide +kernel) | exact .inr (by decide +kernel)) (by rw [isSubtype_type]; kernel_rfl)
theorem entry_dsub : entryFor table "datetime.datetime.__sub__" = some Builtin.«datetime.datetime.__sub__» := entryFor_of_tree (by kernel_rfl)
theorem entry_dadd : entryFor table "datetime.datetime.__add__" = some Builtin.«datetime.datetime.__add__» := entryFor_of_tree (by kernel_rfl)
theorem entry_dne : entryFor table "datetime.datetime.__ne__" = some Builtin.«datetime.datetime.__ne__» := entryFor_of_tree (by kernel_rfl)
theorem entry_replace : entryFor table "datetime.datetime.replace" = some Builtin.«datetime.datetime.replace» := entryFor_of_tree (by kernel_rfl)
theorem fill_dsub : fillsNumberSlot (.type "datetime.datetime") "sub" = pure true := by
  refine fillsNumberSlot_of (id := "datetime.datetime.__sub__") (r := some (.builtin "datetime.datetime.__rsub__")) slot_dsub.lookup (by decide +kernel) ?_
  rw [typeLookup_type, builtinLookup_eq_fast]; kernel_rfl
theorem plain_dt : PlainAttrs "datetime.datetime" where
  ga := ⟨"object.__getattribute__", by rw [typeLookup_type, builtinLookup_eq_fast]; kernel_rfl, by decide +kernel⟩
  noGetattr := by rw [typeLookup_type, builtinLookup_eq_fast]; kernel_rfl
end Mine
namespace Mine
theorem plain_td : PlainAttrs "datetime.timedelta" where
  ga := ⟨"object.__getattribute__", by rw [typeLookup_type, builtinLookup_eq_fast]; kernel_rfl, by decide +kernel⟩
  noGetattr := by rw [typeLookup_type, builtinLookup_eq_fast]; kernel_rfl
end Mine
end
section
open PySem PySem.W PyProof.Rows
set_option maxRecDepth 100000
set_option maxHeartbeats 4000000
local macro_rules | `(tactic| passes_own) => `(tactic| assumption)
namespace Mine
theorem changed_tail {w : World} {mg mb : PySem.Str → Option Value} {loose : List PySem.Str} {mean : ExcName → Option Value} {dp un : Nat} {gd : Option (List Code)} {outer : List Env} {A₀ : Around} {base h₀ : Heap} {L : Addr}{u : PySem.Str → Option Value} {s : Shared} {Q : Flow → Shared → Prop} {E : Value → Shared → Prop} {x : PySem.Str} {y : Int} {tx ty : Tok} (hx : 1 ≤ x.length ∧ x.length ≤ 22) (hy : 0 ≤ y)
    (F : Fr h₀ L s.heap (fun z => if z = PySem.Str.ofString "text" then some (.str x tx) else if z = PySem.Str.ofString "y" then some (.int y ty) else u z))
    (B : Below A₀ base outer h₀) (X : (hd.heap_39 w.params).In h₀) (N : News h₀ L s.heap []) (T : Top hd.view_39 loose mean mg mb h₀) (hroom : dp + 2 < recursionLimit) (hunits : un + 16 < cLine)
    (hE : PassesOwn (model PySem.Challenge.rw_il0028_01.row.prog w) (ktrTop dp un gd (fnd w.params 101).qualname (fnd w.params 101).scope L 101 (fnd w.params 101).code [] outer) (envOf (fnd w.params 101).qualname (fnd w.params 101).scope L 101 (fnd w.params 101).code) E)
    (hret : ∀ x' t u' h' tk' tl, x'.length ≤ 60 → Fr h₀ L h' u' → News h₀ L h' tl → Q (.ret (.str x' t)) { s with heap := h', toks := tk' }) :
    wpAny (model PySem.Challenge.rw_il0028_01.row.prog w) (ktrTop dp un gd (fnd w.params 101).qualname (fnd w.params 101).scope L 101 (fnd w.params 101).code [] outer) (execs ((fb w.params 101).drop 1) (envOf (fnd w.params 101).qualname (fnd w.params 101).scope L 101 (fnd w.params 101).code)) Q E s := by
  k_with_none
  k_with "eval Tuple" => (k_here; dsimp only; (try k_gentoks))
  k_with "eval Call" => (k_here; dsimp only; (try k_gentoks))
  k_with "eval Attribute" => (k_here; dsimp only; (try k_gentoks))
  k_with "exec Assign" => (k_here; dsimp only; (try k_gentoks))
  k_with "exec If" => (k_here; dsimp only; (try k_gentoks))
  k_with "exec For" => (k_here; dsimp only; (try k_gentoks))
  k_with "execs cons" => (k_here; dsimp only; (try k_gentoks))
  k_with "execs nil" => (k_here; dsimp only; (try k_gentoks))
  k_with "pyIter ref" => (k_here; dsimp only; (try k_gentoks))
  k_with "newTuple" => (k_here; dsimp only; (try k_gentoks))
  k_with "assign Tuple" => (k_here; dsimp only; (try k_gentoks))
  k_with "ItemsRest" => (dsimp only)
  k_with "UnrPostW" => (dsimp only)
  k_with "UnrEndW" => (dsimp only)
  have hZ : (PySem.Str.ofString "Z").length = 1 := by decide +kernel
  w_on
  (revert X; k_fill; intro X)
  have efd := fnd_of (P := w.params) (f := 101) (by k_is)
  unfold fb
  rw [efd] at hE ⊢
  clear efd
  w_strict (dsimp only [List.drop] at hE ⊢; (try k_fold); k_steps; all_goals (dsimp only; (refine hret _ _ _ _ _ _ ?_ (by assumption) (by assumption)); omega))
end Mine
end
section
open PySem PySem.W PyProof.Rows
set_option maxRecDepth 100000
set_option maxHeartbeats 4000000
namespace Mine
theorem changed_spec {w : World} {mg mb : PySem.Str → Option Value} {loose : List PySem.Str} {mean : ExcName → Option Value} {news : List (Addr × Obj)} {dp un : Nat} {gd : Option (List Code)} {cn : PySem.Str} {cs : Scope} {a : Addr} {ccd : Value} {cl : List (PySem.Str × Addr)} {outer : List Env} {A₀ : Around} {base h₀ : Heap} {L : Addr} {m : PySem.Str → Option Value} {s : Shared} {Q E : Value → Shared → Prop} {x : PySem.Str} {y : Int} {t t' : Tok} (hx : x.length = 20) (hy : 0 ≤ y)
    (B : Below A₀ base outer h₀) (F : Fr h₀ L s.heap m) (X : (hd.heap_39 w.params).In h₀) (N : News h₀ L s.heap news) (T : Top hd.view_39 loose mean mg mb h₀) (hkf : cs.kind = .function) (hroom : dp + 3 < recursionLimit) (hunits : un + 24 < cLine)
    (hret : ∀ (x' : PySem.Str) (t : Tok) (h' : Heap) (tk' : Nat), x'.length ≤ 60 → Fr h₀ L h' m → News h₀ L h' news → Q (.str x' t) { s with heap := h', toks := tk' }) :
    wpAny (model PySem.Challenge.rw_il0028_01.row.prog w) (ktrTop dp un gd cn cs L a ccd cl outer) (call (.ref 101) [.str x t, .int y t']) Q E s := by
  k_with_none
  k_with "eval Tuple" => (k_here; dsimp only; (try k_gentoks))
  k_with "eval Call" => (k_here; dsimp only; (try k_gentoks))
  k_with "eval Attribute" => (k_here; dsimp only; (try k_gentoks))
  k_with "exec Assign" => (k_here; dsimp only; (try k_gentoks))
  k_with "exec If" => (k_here; dsimp only; (try k_gentoks))
  k_with "exec For" => (k_here; dsimp only; (try k_gentoks))
  k_with "execs cons" => (k_here; dsimp only; (try k_gentoks))
  k_with "execs nil" => (k_here; dsimp only; (try k_gentoks))
  k_with "pyIter ref" => (k_here; dsimp only; (try k_gentoks))
  k_with "newTuple" => (k_here; dsimp only; (try k_gentoks))
  k_with "assign Tuple" => (k_here; dsimp only; (try k_gentoks))
  k_with "ItemsRest" => (dsimp only)
  k_with "UnrPostW" => (dsimp only)
  k_with "UnrEndW" => (dsimp only)
  k_with "execs cons" => (k_here; k_dflt ((rename Fr _ _ _ _ => lF'); (refine Exists.elim (Mine.fr_c2 lF' (PySem.Str.ofString "text") (PySem.Str.ofString "y") (by with_unfolding_all rfl) (by with_unfolding_all rfl)) ?_); intro u9 F9'; clear lF'; (try dsimp only); (refine' Mine.changed_tail ?hx ?hy ?k2 ?k1 ?k3 ?k4 ?k5 ?kd ?ku ?kE ?_); (case k2 => k_asm); (case k1 => k_asm); (case k3 => k_asm); (case k4 => exact News.nil); (case k5 => k_asm); (case hx => constructor <;> omega); (case hy => assumption); (case kd => ktr_room); (case ku => ktr_units); (case kE => passes_own); intro x9 t9 u9 h9 tk9 tl9 hx9 F9 N9; (try dsimp only); (try k_fold)))
  have hZ : (PySem.Str.ofString "Z").length = 1 := by decide +kernel
  w_on
  (revert X; k_fill; intro X)
  refine wpAny_call ?_
  w_strict (k_dflt (refine' Mine.code0 ?k1 ?k2 ?k3 ?k5 ?kA ?kF ?kK ?k6 ?k7 ?k8 ?k9 ?kB ?_ ?c2 ?c3 ?c4 ?c5; (case kA => exact rfl); (case kF => exact rfl); (case kK => assumption); (case k1 => k_asm); (case k2 => k_asm); (case k3 => k_asm); (case k5 => k_asm); (case k6 => k_is); (case k7 => k_is); (case k8 => ktr_room); (case k9 => exact BindsTo.of_eq rfl); (case c5 => decide); (case kB => exact locs rfl); (case c2 => exact rfl); (case c3 => exact rfl); (case c4 => exact rfl); k_whole; intro L' h' F' N' B' X' T'; (try dsimp only); (try k_lift B'); (try k_fold)); k_steps; all_goals (exact hret _ _ _ _ (by assumption) (by assumption) (Mine.news_keep N (Fr.keep (by assumption)))))
end Mine
end
section
open PySem PySem.W PySem.Calls PyProof.Rows
set_option maxRecDepth 100000
set_option maxHeartbeats 1000000
namespace Mine
noncomputable def dtObj (y mo d h mi sc us : Int) : Obj := { cls := .type "datetime.datetime", data := .fields #[.int y 0, .int mo 0, .int d 0, .int h 0, .int mi 0, .int sc 0, .int us 0, .none, .int 0 0, .none] }
noncomputable def tdObj (d s us : Int) : Obj := { cls := .type "datetime.timedelta", data := .fields #[.int d 0, .int s 0, .int us 0] }
theorem slot_mb_get : Slot "member_descriptor" "__get__" "member_descriptor.__get__" :=
  .of (owner := "member_descriptor") (n := "__get__") (by rw [typeLookup_type, builtinLookup_eq_fast]; kernel_rfl) (by decide +kernel) (by decide +kernel) (by decide +kernel)
    (by first | exact .inl (by decide +kernel) | exact .inr (by decide +kernel)) (by rw [isSubtype_type]; kernel_rfl)
theorem slot_mb_set : Slot "member_descriptor" "__set__" "member_descriptor.__set__" :=
  .of (owner := "member_descriptor") (n := "__set__") (by rw [typeLookup_type, builtinLookup_eq_fast]; kernel_rfl) (by decide +kernel) (by decide +kernel) (by decide +kernel)
    (by first | exact .inl (by decide +kernel) | exact .inr (by decide +kernel)) (by rw [isSubtype_type]; kernel_rfl)
theorem entry_mb_get : entryFor table "member_descriptor.__get__" = some Builtin.«member_descriptor.__get__» := entryFor_of_tree (by kernel_rfl)
theorem args_mb_get (a b c : Value) : argsOk "member_descriptor.__get__" ⟨[a, b, c], []⟩ := by unfold argsOk; kernel_rfl
theorem entry_obj_ga : entryFor table "object.__getattribute__" = some Builtin.«object.__getattribute__» := entryFor_of_tree (by kernel_rfl)
theorem args_obj_ga (a b : Value) : argsOk "object.__getattribute__" ⟨[a, b], []⟩ := by unfold argsOk; kernel_rfl
/-- a type's attribute that a descriptor of type D gives -/
structure Getter (T D id : String) (nm : PySem.Str) (B : Builtin) : Prop where
  lk : typeLookup (.type T) nm = pure (some (.builtin id))
  ty : typeOf (.builtin id) = pure (.type D)
  own : isSubtype (.type T) (.type (".".intercalate (id.cutAt '.').dropLast)) = pure true
  ent : entryFor table id = some B
  plain : plainId id = true
theorem ga_dt : Slot "datetime.datetime" "__getattribute__" "object.__getattribute__" :=
  .of (owner := "object") (n := "__getattribute__") (by rw [typeLookup_type, builtinLookup_eq_fast]; kernel_rfl) (by decide +kernel) (by decide +kernel) (by decide +kernel)
    (by first | exact .inl (by decide +kernel) | exact .inr (by decide +kernel)) (by rw [isSubtype_type]; kernel_rfl)
theorem ga_td : Slot "datetime.timedelta" "__getattribute__" "object.__getattribute__" :=
  .of (owner := "object") (n := "__getattribute__") (by rw [typeLookup_type, builtinLookup_eq_fast]; kernel_rfl) (by decide +kernel) (by decide +kernel) (by decide +kernel)
    (by first | exact .inl (by decide +kernel) | exact .inr (by decide +kernel)) (by rw [isSubtype_type]; kernel_rfl)
section
variable {prog : Program} {w : World} {A : Around} {E : Value → Shared → Prop} {a : Addr} {ob : Obj} {h : Heap} {g : Array GenState} {d : Drawn} {t : Nat} {os : OsState} {T id : String} {nm : PySem.Str} {B : Builtin} {v : Value} {s' : Shared}
theorem getset_get {R : Result → Shared → Prop} (G : Getter T "getset_descriptor" id nm B) (hx : h.get? a = some ob) (hc : ob.cls = .type T)
    (hB : ∀ (A : Around) (E : Value → Shared → Prop) (Q : Fin → Shared → Prop), Q (.done (.ret v)) s' → wpAny (model prog w) A (B ⟨[.ref a], []⟩) Q E ⟨h, g, d, t, os⟩) (hq : R (.ok (.ret v)) s') :
    codeAny (model prog w) A (.call (.builtin "getset_descriptor.__get__") ⟨[.builtin id, .ref a, .type T], []⟩) R ⟨h, g, d, t, os⟩ := by
  have hT : (⟨h, g, d, t, os⟩ : Shared).TypeIs (.ref a) T := ⟨_, hx, hc⟩
  have hT5 : (⟨h, g, d, t, os⟩ : Shared).TypeIs (.builtin id) "getset_descriptor" := G.ty
  have f8 := G.own
  refine codeAny_call_builtin F.slot_gs_get.plain F.entry_gs_get (F.slot_gs_get.check _ _ _ _ _ _ _ _ hT5 (F.args_gs_get _ _ _) ?_)
  repeat (any_goals (first | assumption | wp_step))
  exact ⟨plainId_quiet G.plain _, codeAny_builtin G.ent (hB _ _ _ hq)⟩
theorem getset_entry {tk : Tok} {Q : Fin → Shared → Prop} (G : Getter T "getset_descriptor" id nm B) (hx : h.get? a = some ob) (hc : ob.cls = .type T)
    (hB : ∀ (A : Around) (E : Value → Shared → Prop) (Q : Fin → Shared → Prop), Q (.done (.ret v)) s' → wpAny (model prog w) A (B ⟨[.ref a], []⟩) Q E ⟨h, g, d, t, os⟩) (hq : Q (.done (.ret v)) s') :
    wpAny (model prog w) A (Builtin.«object.__getattribute__» ⟨[.ref a, .str nm tk], []⟩) Q E ⟨h, g, d, t, os⟩ := by
  have hT : (⟨h, g, d, t, os⟩ : Shared).TypeIs (.ref a) T := ⟨_, hx, hc⟩
  have hT5 : (⟨h, g, d, t, os⟩ : Shared).TypeIs (.builtin id) "getset_descriptor" := G.ty
  have f4 := G.lk
  have f5 := G.ty
  have f6 := F.slot_gs_get.lookup
  have f7 := F.slot_gs_set.lookup
  repeat (any_goals (first | assumption | wp_step))
  refine getset_get G hx hc hB ?_
  repeat (any_goals (first | assumption | wp_step))
theorem getset_attr {ex : Bool} {Q : Value → Shared → Prop} (ga : Slot T "__getattribute__" "object.__getattribute__") (G : Getter T "getset_descriptor" id nm B) (hx : h.get? a = some ob) (hc : ob.cls = .type T)
    (hB : ∀ (A : Around) (E : Value → Shared → Prop) (Q : Fin → Shared → Prop), Q (.done (.ret v)) s' → wpAny (model prog w) A (B ⟨[.ref a], []⟩) Q E ⟨h, g, d, t + 1, os⟩) (hv : handedOut v = pure v) (hq : Q v s') :
    wpAny (model prog w) A (getAttr (.ref a) nm ex) Q E ⟨h, g, d, t, os⟩ := by
  have hT : (⟨h, g, d, t + 1, os⟩ : Shared).TypeIs (.ref a) T := ⟨_, hx, hc⟩
  have f2 := ga.lookup
  have f3 := ga.bind (.ref a)
  have hx0 : (ex && onTheHeap (Value.builtin "object.__getattribute__")) = false := by cases ex <;> rfl
  unfold getAttr
  repeat (any_goals (first | assumption | wp_step))
  refine codeAny_call_builtin ga.plain entry_obj_ga (ga.check _ _ _ _ _ _ _ _ hT (args_obj_ga _ _) (getset_entry G hx hc hB ?_))
  repeat (any_goals (first | assumption | wp_step))
theorem member_get {R : Result → Shared → Prop} (G : Getter T "member_descriptor" id nm B) (hx : h.get? a = some ob) (hc : ob.cls = .type T)
    (hB : ∀ (A : Around) (E : Value → Shared → Prop) (Q : Fin → Shared → Prop), Q (.done (.ret v)) s' → wpAny (model prog w) A (B ⟨[.ref a], []⟩) Q E ⟨h, g, d, t, os⟩) (hq : R (.ok (.ret v)) s') :
    codeAny (model prog w) A (.call (.builtin "member_descriptor.__get__") ⟨[.builtin id, .ref a, .type T], []⟩) R ⟨h, g, d, t, os⟩ := by
  have hT : (⟨h, g, d, t, os⟩ : Shared).TypeIs (.ref a) T := ⟨_, hx, hc⟩
  have hT5 : (⟨h, g, d, t, os⟩ : Shared).TypeIs (.builtin id) "member_descriptor" := G.ty
  have f8 := G.own
  refine codeAny_call_builtin slot_mb_get.plain entry_mb_get (slot_mb_get.check _ _ _ _ _ _ _ _ hT5 (args_mb_get _ _ _) ?_)
  repeat (any_goals (first | assumption | wp_step))
  exact ⟨plainId_quiet G.plain _, codeAny_builtin G.ent (hB _ _ _ hq)⟩
theorem member_entry {tk : Tok} {Q : Fin → Shared → Prop} (G : Getter T "member_descriptor" id nm B) (hx : h.get? a = some ob) (hc : ob.cls = .type T)
    (hB : ∀ (A : Around) (E : Value → Shared → Prop) (Q : Fin → Shared → Prop), Q (.done (.ret v)) s' → wpAny (model prog w) A (B ⟨[.ref a], []⟩) Q E ⟨h, g, d, t, os⟩) (hq : Q (.done (.ret v)) s') :
    wpAny (model prog w) A (Builtin.«object.__getattribute__» ⟨[.ref a, .str nm tk], []⟩) Q E ⟨h, g, d, t, os⟩ := by
  have hT : (⟨h, g, d, t, os⟩ : Shared).TypeIs (.ref a) T := ⟨_, hx, hc⟩
  have hT5 : (⟨h, g, d, t, os⟩ : Shared).TypeIs (.builtin id) "member_descriptor" := G.ty
  have f4 := G.lk
  have f5 := G.ty
  have f6 := slot_mb_get.lookup
  have f7 := slot_mb_set.lookup
  repeat (any_goals (first | assumption | wp_step))
  refine member_get G hx hc hB ?_
  repeat (any_goals (first | assumption | wp_step))
theorem member_attr {ex : Bool} {Q : Value → Shared → Prop} (ga : Slot T "__getattribute__" "object.__getattribute__") (G : Getter T "member_descriptor" id nm B) (hx : h.get? a = some ob) (hc : ob.cls = .type T)
    (hB : ∀ (A : Around) (E : Value → Shared → Prop) (Q : Fin → Shared → Prop), Q (.done (.ret v)) s' → wpAny (model prog w) A (B ⟨[.ref a], []⟩) Q E ⟨h, g, d, t + 1, os⟩) (hv : handedOut v = pure v) (hq : Q v s') :
    wpAny (model prog w) A (getAttr (.ref a) nm ex) Q E ⟨h, g, d, t, os⟩ := by
  have hT : (⟨h, g, d, t + 1, os⟩ : Shared).TypeIs (.ref a) T := ⟨_, hx, hc⟩
  have f2 := ga.lookup
  have f3 := ga.bind (.ref a)
  have hx0 : (ex && onTheHeap (Value.builtin "object.__getattribute__")) = false := by cases ex <;> rfl
  unfold getAttr
  repeat (any_goals (first | assumption | wp_step))
  refine codeAny_call_builtin ga.plain entry_obj_ga (ga.check _ _ _ _ _ _ _ _ hT (args_obj_ga _ _) (member_entry G hx hc hB ?_))
  repeat (any_goals (first | assumption | wp_step))
theorem intAt {n : Int} {u : Tok} {i : Nat} {vs : Array Value} {Q : Fin → Shared → Prop} (hx : h.get? a = some ob) (hd : ob.data = .fields vs) (h0 : vs[i]? = some (.int n u)) (hq : Q (.done (.ret (.int n t))) ⟨h, g, d, t + 1, os⟩) :
    wpAny (model prog w) A (Builtin._datetime.dtIntAt i ⟨[.ref a], []⟩) Q E ⟨h, g, d, t, os⟩ := by
  repeat (any_goals (first | assumption | with_reducible refine wpAny_field hx hd h0 ?_ | wp_step))
theorem gt_dt_year : Getter "datetime.datetime" "getset_descriptor" "datetime.date.year" "year" Builtin.«datetime.date.year» where
  lk := by rw [typeLookup_type, builtinLookup_eq_fast]; kernel_rfl
  ty := by show builtinType _ = _; rw [builtinType_eq_fast]; kernel_rfl
  ent := entryFor_of_tree (by kernel_rfl)
  own := by
    have e0 : "datetime.date.year".cutAt '.' = ["datetime", "date", "year"] := by first | rfl | decide +kernel
    have e1 : (".".intercalate ["datetime", "date"]) = "datetime.date" := by decide +kernel
    rw [e0]; show isSubtype _ (.type (".".intercalate ["datetime", "date"])) = _
    rw [e1, isSubtype_type]; kernel_rfl
  plain := by decide +kernel
theorem attr_dt_year {ex : Bool} {Q : Value → Shared → Prop} {y mo dd hh mi sc us : Int} (hx : h.get? a = some (dtObj y mo dd hh mi sc us)) (hq : Q (.int y (t + 1)) ⟨h, g, d, t + 1 + 1, os⟩) :
    wpAny (model prog w) A (getAttr (.ref a) "year" ex) Q E ⟨h, g, d, t, os⟩ :=
  getset_attr ga_dt gt_dt_year hx rfl (fun _ _ _ hq => intAt hx rfl rfl hq) rfl hq
theorem gt_dt_month : Getter "datetime.datetime" "getset_descriptor" "datetime.date.month" "month" Builtin.«datetime.date.month» where
  lk := by rw [typeLookup_type, builtinLookup_eq_fast]; kernel_rfl
  ty := by show builtinType _ = _; rw [builtinType_eq_fast]; kernel_rfl
  ent := entryFor_of_tree (by kernel_rfl)
  own := by
    have e0 : "datetime.date.month".cutAt '.' = ["datetime", "date", "month"] := by first | rfl | decide +kernel
    have e1 : (".".intercalate ["datetime", "date"]) = "datetime.date" := by decide +kernel
    rw [e0]; show isSubtype _ (.type (".".intercalate ["datetime", "date"])) = _
    rw [e1, isSubtype_type]; kernel_rfl
  plain := by decide +kernel
theorem attr_dt_month {ex : Bool} {Q : Value → Shared → Prop} {y mo dd hh mi sc us : Int} (hx : h.get? a = some (dtObj y mo dd hh mi sc us)) (hq : Q (.int mo (t + 1)) ⟨h, g, d, t + 1 + 1, os⟩) :
    wpAny (model prog w) A (getAttr (.ref a) "month" ex) Q E ⟨h, g, d, t, os⟩ :=
  getset_attr ga_dt gt_dt_month hx rfl (fun _ _ _ hq => intAt hx rfl rfl hq) rfl hq
theorem gt_dt_day : Getter "datetime.datetime" "getset_descriptor" "datetime.date.day" "day" Builtin.«datetime.date.day» where
  lk := by rw [typeLookup_type, builtinLookup_eq_fast]; kernel_rfl
  ty := by show builtinType _ = _; rw [builtinType_eq_fast]; kernel_rfl
  ent := entryFor_of_tree (by kernel_rfl)
  own := by
    have e0 : "datetime.date.day".cutAt '.' = ["datetime", "date", "day"] := by first | rfl | decide +kernel
    have e1 : (".".intercalate ["datetime", "date"]) = "datetime.date" := by decide +kernel
    rw [e0]; show isSubtype _ (.type (".".intercalate ["datetime", "date"])) = _
    rw [e1, isSubtype_type]; kernel_rfl
  plain := by decide +kernel
theorem attr_dt_day {ex : Bool} {Q : Value → Shared → Prop} {y mo dd hh mi sc us : Int} (hx : h.get? a = some (dtObj y mo dd hh mi sc us)) (hq : Q (.int dd (t + 1)) ⟨h, g, d, t + 1 + 1, os⟩) :
    wpAny (model prog w) A (getAttr (.ref a) "day" ex) Q E ⟨h, g, d, t, os⟩ :=
  getset_attr ga_dt gt_dt_day hx rfl (fun _ _ _ hq => intAt hx rfl rfl hq) rfl hq
theorem gt_dt_hour : Getter "datetime.datetime" "getset_descriptor" "datetime.datetime.hour" "hour" Builtin.«datetime.datetime.hour» where
  lk := by rw [typeLookup_type, builtinLookup_eq_fast]; kernel_rfl
  ty := by show builtinType _ = _; rw [builtinType_eq_fast]; kernel_rfl
  ent := entryFor_of_tree (by kernel_rfl)
  own := by
    have e0 : "datetime.datetime.hour".cutAt '.' = ["datetime", "datetime", "hour"] := by first | rfl | decide +kernel
    have e1 : (".".intercalate ["datetime", "datetime"]) = "datetime.datetime" := by decide +kernel
    rw [e0]; show isSubtype _ (.type (".".intercalate ["datetime", "datetime"])) = _
    rw [e1, isSubtype_type]; kernel_rfl
  plain := by decide +kernel
theorem attr_dt_hour {ex : Bool} {Q : Value → Shared → Prop} {y mo dd hh mi sc us : Int} (hx : h.get? a = some (dtObj y mo dd hh mi sc us)) (hq : Q (.int hh (t + 1)) ⟨h, g, d, t + 1 + 1, os⟩) :
    wpAny (model prog w) A (getAttr (.ref a) "hour" ex) Q E ⟨h, g, d, t, os⟩ :=
  getset_attr ga_dt gt_dt_hour hx rfl (fun _ _ _ hq => intAt hx rfl rfl hq) rfl hq
theorem gt_dt_minute : Getter "datetime.datetime" "getset_descriptor" "datetime.datetime.minute" "minute" Builtin.«datetime.datetime.minute» where
  lk := by rw [typeLookup_type, builtinLookup_eq_fast]; kernel_rfl
  ty := by show builtinType _ = _; rw [builtinType_eq_fast]; kernel_rfl
  ent := entryFor_of_tree (by kernel_rfl)
  own := by
    have e0 : "datetime.datetime.minute".cutAt '.' = ["datetime", "datetime", "minute"] := by first | rfl | decide +kernel
    have e1 : (".".intercalate ["datetime", "datetime"]) = "datetime.datetime" := by decide +kernel
    rw [e0]; show isSubtype _ (.type (".".intercalate ["datetime", "datetime"])) = _
    rw [e1, isSubtype_type]; kernel_rfl
  plain := by decide +kernel
theorem attr_dt_minute {ex : Bool} {Q : Value → Shared → Prop} {y mo dd hh mi sc us : Int} (hx : h.get? a = some (dtObj y mo dd hh mi sc us)) (hq : Q (.int mi (t + 1)) ⟨h, g, d, t + 1 + 1, os⟩) :
    wpAny (model prog w) A (getAttr (.ref a) "minute" ex) Q E ⟨h, g, d, t, os⟩ :=
  getset_attr ga_dt gt_dt_minute hx rfl (fun _ _ _ hq => intAt hx rfl rfl hq) rfl hq
theorem gt_dt_second : Getter "datetime.datetime" "getset_descriptor" "datetime.datetime.second" "second" Builtin.«datetime.datetime.second» where
  lk := by rw [typeLookup_type, builtinLookup_eq_fast]; kernel_rfl
  ty := by show builtinType _ = _; rw [builtinType_eq_fast]; kernel_rfl
  ent := entryFor_of_tree (by kernel_rfl)
  own := by
    have e0 : "datetime.datetime.second".cutAt '.' = ["datetime", "datetime", "second"] := by first | rfl | decide +kernel
    have e1 : (".".intercalate ["datetime", "datetime"]) = "datetime.datetime" := by decide +kernel
    rw [e0]; show isSubtype _ (.type (".".intercalate ["datetime", "datetime"])) = _
    rw [e1, isSubtype_type]; kernel_rfl
  plain := by decide +kernel
theorem attr_dt_second {ex : Bool} {Q : Value → Shared → Prop} {y mo dd hh mi sc us : Int} (hx : h.get? a = some (dtObj y mo dd hh mi sc us)) (hq : Q (.int sc (t + 1)) ⟨h, g, d, t + 1 + 1, os⟩) :
    wpAny (model prog w) A (getAttr (.ref a) "second" ex) Q E ⟨h, g, d, t, os⟩ :=
  getset_attr ga_dt gt_dt_second hx rfl (fun _ _ _ hq => intAt hx rfl rfl hq) rfl hq
theorem gt_dt_microsecond : Getter "datetime.datetime" "getset_descriptor" "datetime.datetime.microsecond" "microsecond" Builtin.«datetime.datetime.microsecond» where
  lk := by rw [typeLookup_type, builtinLookup_eq_fast]; kernel_rfl
  ty := by show builtinType _ = _; rw [builtinType_eq_fast]; kernel_rfl
  ent := entryFor_of_tree (by kernel_rfl)
  own := by
    have e0 : "datetime.datetime.microsecond".cutAt '.' = ["datetime", "datetime", "microsecond"] := by first | rfl | decide +kernel
    have e1 : (".".intercalate ["datetime", "datetime"]) = "datetime.datetime" := by decide +kernel
    rw [e0]; show isSubtype _ (.type (".".intercalate ["datetime", "datetime"])) = _
    rw [e1, isSubtype_type]; kernel_rfl
  plain := by decide +kernel
theorem attr_dt_microsecond {ex : Bool} {Q : Value → Shared → Prop} {y mo dd hh mi sc us : Int} (hx : h.get? a = some (dtObj y mo dd hh mi sc us)) (hq : Q (.int us (t + 1)) ⟨h, g, d, t + 1 + 1, os⟩) :
    wpAny (model prog w) A (getAttr (.ref a) "microsecond" ex) Q E ⟨h, g, d, t, os⟩ :=
  getset_attr ga_dt gt_dt_microsecond hx rfl (fun _ _ _ hq => intAt hx rfl rfl hq) rfl hq
theorem gt_dt_tzinfo : Getter "datetime.datetime" "getset_descriptor" "datetime.datetime.tzinfo" "tzinfo" Builtin.«datetime.datetime.tzinfo» where
  lk := by rw [typeLookup_type, builtinLookup_eq_fast]; kernel_rfl
  ty := by show builtinType _ = _; rw [builtinType_eq_fast]; kernel_rfl
  ent := entryFor_of_tree (by kernel_rfl)
  own := by
    have e0 : "datetime.datetime.tzinfo".cutAt '.' = ["datetime", "datetime", "tzinfo"] := by first | rfl | decide +kernel
    have e1 : (".".intercalate ["datetime", "datetime"]) = "datetime.datetime" := by decide +kernel
    rw [e0]; show isSubtype _ (.type (".".intercalate ["datetime", "datetime"])) = _
    rw [e1, isSubtype_type]; kernel_rfl
  plain := by decide +kernel
theorem attr_dt_tzinfo {ex : Bool} {Q : Value → Shared → Prop} {y mo dd hh mi sc us : Int} (hx : h.get? a = some (dtObj y mo dd hh mi sc us)) (hq : Q .none ⟨h, g, d, t + 1, os⟩) :
    wpAny (model prog w) A (getAttr (.ref a) "tzinfo" ex) Q E ⟨h, g, d, t, os⟩ :=
  getset_attr (v := .none) ga_dt gt_dt_tzinfo hx rfl (fun A E Q hq => by
    unfold Builtin.«datetime.datetime.tzinfo»
    repeat (any_goals (first | assumption | with_reducible refine wpAny_field hx rfl rfl ?_ | wp_step))) rfl hq
theorem gt_td_days : Getter "datetime.timedelta" "member_descriptor" "datetime.timedelta.days" "days" Builtin.«datetime.timedelta.days» where
  lk := by rw [typeLookup_type, builtinLookup_eq_fast]; kernel_rfl
  ty := by show builtinType _ = _; rw [builtinType_eq_fast]; kernel_rfl
  ent := entryFor_of_tree (by kernel_rfl)
  own := by
    have e0 : "datetime.timedelta.days".cutAt '.' = ["datetime", "timedelta", "days"] := by first | rfl | decide +kernel
    have e1 : (".".intercalate ["datetime", "timedelta"]) = "datetime.timedelta" := by decide +kernel
    rw [e0]; show isSubtype _ (.type (".".intercalate ["datetime", "timedelta"])) = _
    rw [e1, isSubtype_type]; kernel_rfl
  plain := by decide +kernel
theorem attr_td_days {ex : Bool} {Q : Value → Shared → Prop} {dd sc us : Int} (hx : h.get? a = some (tdObj dd sc us)) (hq : Q (.int dd (t + 1)) ⟨h, g, d, t + 1 + 1, os⟩) :
    wpAny (model prog w) A (getAttr (.ref a) "days" ex) Q E ⟨h, g, d, t, os⟩ :=
  member_attr ga_td gt_td_days hx rfl (fun _ _ _ hq => intAt hx rfl rfl hq) rfl hq
theorem gt_td_seconds : Getter "datetime.timedelta" "member_descriptor" "datetime.timedelta.seconds" "seconds" Builtin.«datetime.timedelta.seconds» where
  lk := by rw [typeLookup_type, builtinLookup_eq_fast]; kernel_rfl
  ty := by show builtinType _ = _; rw [builtinType_eq_fast]; kernel_rfl
  ent := entryFor_of_tree (by kernel_rfl)
  own := by
    have e0 : "datetime.timedelta.seconds".cutAt '.' = ["datetime", "timedelta", "seconds"] := by first | rfl | decide +kernel
    have e1 : (".".intercalate ["datetime", "timedelta"]) = "datetime.timedelta" := by decide +kernel
    rw [e0]; show isSubtype _ (.type (".".intercalate ["datetime", "timedelta"])) = _
    rw [e1, isSubtype_type]; kernel_rfl
  plain := by decide +kernel
theorem attr_td_seconds {ex : Bool} {Q : Value → Shared → Prop} {dd sc us : Int} (hx : h.get? a = some (tdObj dd sc us)) (hq : Q (.int sc (t + 1)) ⟨h, g, d, t + 1 + 1, os⟩) :
    wpAny (model prog w) A (getAttr (.ref a) "seconds" ex) Q E ⟨h, g, d, t, os⟩ :=
  member_attr ga_td gt_td_seconds hx rfl (fun _ _ _ hq => intAt hx rfl rfl hq) rfl hq
end
end Mine
end
section
open PySem PySem.W PySem.Calls PyProof.Rows
set_option maxRecDepth 100000
set_option maxHeartbeats 1000000
namespace Mine
open PySem.Builtin._datetime
noncomputable abbrev stp (y mo d h mi sc us : Int) : Stamp := { y := y, mo := mo, d := d, c := { h := h, m := mi, s := sc, us := us, tz := .none, fold := 0 } }
theorem sub_dt_dt : isSubtype (.type "datetime.datetime") (.type "datetime.datetime") = pure true := by rw [isSubtype_type]; kernel_rfl
theorem sub_dt_date : isSubtype (.type "datetime.datetime") (.type "datetime.date") = pure true := by rw [isSubtype_type]; kernel_rfl
theorem sub_td_td : isSubtype (.type "datetime.timedelta") (.type "datetime.timedelta") = pure true := by rw [isSubtype_type]; kernel_rfl
theorem sub_td_dt : isSubtype (.type "datetime.timedelta") (.type "datetime.datetime") = pure false := by rw [isSubtype_type]; kernel_rfl
theorem sub_dt_td : isSubtype (.type "datetime.datetime") (.type "datetime.timedelta") = pure false := by rw [isSubtype_type]; kernel_rfl
theorem args_dsub (a b : Value) : argsOk "datetime.datetime.__sub__" ⟨[a, b], []⟩ := by unfold argsOk; kernel_rfl
theorem args_dadd (a b : Value) : argsOk "datetime.datetime.__add__" ⟨[a, b], []⟩ := by unfold argsOk; kernel_rfl
theorem args_dne (a b : Value) : argsOk "datetime.datetime.__ne__" ⟨[a, b], []⟩ := by unfold argsOk; kernel_rfl
section
variable {prog : Program} {w : World} {A : Around} {E : Value → Shared → Prop} {s : Shared} {a b : Addr}
theorem wp_fieldsOf {o : Obj} {vs : Array Value} {Q : Array Value → Shared → Prop} (ho : s.heap.get? a = some o) (hd : o.data = .fields vs) (h : Q vs s) : wpAny (model prog w) A (fieldsOf (.ref a)) Q E s := by
  unfold fieldsOf
  repeat (any_goals (first | assumption | wp_step))
  all_goals (try (rw [hd]))
  all_goals (repeat (any_goals (first | assumption | wp_step)))
theorem wp_stampOf? {y mo d h mi sc us : Int} {Q : Option Stamp → Shared → Prop} (ho : s.heap.get? a = some (dtObj y mo d h mi sc us)) (hq : Q (some (stp y mo d h mi sc us)) s) :
    wpAny (model prog w) A (stampOf? (.ref a)) Q E s := by
  have hT : s.TypeIs (.ref a) "datetime.datetime" := ⟨_, ho, rfl⟩
  have f1 := sub_dt_dt
  repeat (any_goals (first | assumption | with_reducible refine wp_fieldsOf ho rfl ?_ | wp_step))
theorem wp_stampOf {y mo d h mi sc us : Int} {Q : Stamp → Shared → Prop} (ho : s.heap.get? a = some (dtObj y mo d h mi sc us)) (hq : Q (stp y mo d h mi sc us) s) :
    wpAny (model prog w) A (stampOf (.ref a)) Q E s := by
  unfold stampOf
  exact wpAny_bind (wp_stampOf? ho (wpAny_pure hq))
theorem wp_deltaParts {d sc us : Int} {Q : Option (Int × Int × Int) → Shared → Prop} (ho : s.heap.get? a = some (tdObj d sc us)) (hq : Q (some (d, sc, us)) s) :
    wpAny (model prog w) A (deltaParts? (.ref a)) Q E s := by
  have hT : s.TypeIs (.ref a) "datetime.timedelta" := ⟨_, ho, rfl⟩
  have f1 := sub_td_td
  repeat (any_goals (first | assumption | with_reducible refine wp_fieldsOf ho rfl ?_ | wp_step))
theorem wp_newDelta_zero {mc : PySem.Str → Option Value} {z : Addr} {Q : Value → Shared → Prop} (hn : s.heap.Ns cStatics mc) (hz : mc "datetime.timedelta.zero" = some (.ref z)) (hq : Q (.ref z) s) :
    wpAny (model prog w) A (newDelta 0) Q E s := by
  unfold newDelta
  show wpAny _ _ (do rule "datetime.timedelta.the-zero"; zeroDelta) _ _ _
  refine wpAny_bind (wpAny_rule ?_)
  unfold zeroDelta
  refine wpAny_bind (wpAny_nsGet hn ?_)
  rw [hz]
  exact wpAny_pure hq
theorem wp_newDelta {u : Int} {Q : Value → Shared → Prop} (h0 : u ≠ 0) (h1 : -999999999 ≤ u.fdiv usPerDay) (h2 : u.fdiv usPerDay ≤ 999999999)
    (hq : Q (.ref s.heap.objs.size) { s with heap := s.heap.push (tdObj (u.fdiv usPerDay) (u.fmod usPerDay / usPerSecond) (u.fmod usPerDay % usPerSecond)) }) :
    wpAny (model prog w) A (newDelta u) Q E s := by
  have e0 : (u == 0) = false := by simpa using h0
  have e1 : (decide (u.fdiv usPerDay < -(2 ^ 31 : Int)) || decide (u.fdiv usPerDay ≥ 2 ^ 31)) = false := by
    simp only [Bool.or_eq_false_iff, decide_eq_false_iff_not]; omega
  have e2 : (decide (u.fdiv usPerDay < -999999999) || decide (u.fdiv usPerDay > 999999999)) = false := by
    simp only [Bool.or_eq_false_iff, decide_eq_false_iff_not]; omega
  unfold newDelta
  simp only [e0, e1, e2, Bool.false_and, Bool.false_eq_true, if_false]
  exact wpAny_newObj_type hq (show (3 : Nat) ≤ sizeLine + 2 by decide)
theorem day_bound {D : Int} (h : -315537897600000000 ≤ D) (h' : D ≤ 315537897600000000) : -999999999 ≤ D.fdiv usPerDay ∧ D.fdiv usPerDay ≤ 999999999 := by
  have e : usPerDay = 86400000000 := rfl
  rw [e, Int.fdiv_eq_ediv_of_nonneg _ (by decide)]
  omega
theorem wp_nd {D : Int} {Q : Value → Shared → Prop} {mc : PySem.Str → Option Value} {z : Addr} (hn : s.heap.Ns cStatics mc) (hz : mc "datetime.timedelta.zero" = some (.ref z))
    (lo : -315537897600000000 ≤ D) (hi : D ≤ 315537897600000000) (h0 : D = 0 → Q (.ref z) s)
    (h1 : D ≠ 0 → Q (.ref s.heap.objs.size) { s with heap := s.heap.push (tdObj (D.fdiv usPerDay) (D.fmod usPerDay / usPerSecond) (D.fmod usPerDay % usPerSecond)) }) :
    wpAny (model prog w) A (newDelta D) Q E s := by
  by_cases e : D = 0
  · subst e; exact wp_newDelta_zero hn hz (h0 rfl)
  · exact wp_newDelta e (day_bound lo hi).1 (day_bound lo hi).2 (h1 e)
theorem ref_ni (a : Addr) : Value.ref a ≠ Value.notImplemented := by intro h; cases h
theorem wp_sub {y mo d h mi sc us y' mo' d' h' mi' sc' us' : Int} {Q : Value → Shared → Prop} {mc : PySem.Str → Option Value} {z : Addr}
    (ha : s.heap.get? a = some (dtObj y mo d h mi sc us)) (hb : s.heap.get? b = some (dtObj y' mo' d' h' mi' sc' us')) (hn : s.heap.Ns cStatics mc) (hz : mc "datetime.timedelta.zero" = some (.ref z))
    {D : Int} (hD : (stp y mo d h mi sc us).us - (stp y' mo' d' h' mi' sc' us').us = D) (lo : -315537897600000000 ≤ D) (hi : D ≤ 315537897600000000)
    (h0 : D = 0 → Q (.ref z) s)
    (h1 : D ≠ 0 → Q (.ref s.heap.objs.size) { s with heap := s.heap.push (tdObj (D.fdiv usPerDay) (D.fmod usPerDay / usPerSecond) (D.fmod usPerDay % usPerSecond)) }) :
    wpAny (model prog w) A (binaryOp .Sub (.ref a) (.ref b)) Q E s := by
  have hT : s.TypeIs (.ref a) "datetime.datetime" := ⟨_, ha, rfl⟩
  have hT' : s.TypeIs (.ref b) "datetime.datetime" := ⟨_, hb, rfl⟩
  have f1 := sub_dt_dt
  refine wpAny_binaryOp_same hT hT' fill_dsub slot_dsub (wpAny_call (codeAny_call_builtin slot_dsub.plain entry_dsub (slot_dsub.check _ _ _ _ _ _ _ _ hT (args_dsub _ _) ?_)))
  subst hD
  repeat (any_goals (first | assumption | with_reducible refine wp_stampOf ha ?_ | with_reducible refine wp_stampOf hb ?_ | with_reducible refine wp_nd hn hz lo hi ?_ ?_ | wp_step))
  · intro e
    repeat (any_goals (first | assumption | wp_step))
    exact ⟨ref_ni _, h0 e⟩
  · intro e
    repeat (any_goals (first | assumption | wp_step))
    exact ⟨ref_ni _, h1 e⟩
end
section
variable {M : Model} {A : Around} {E : Value → Shared → Prop} {s : Shared}
/-- the left operand of another type takes the operation -/
theorem wp_op_left {a b : Value} {T U idl : String} {op : Operator} {Q : Value → Shared → Prop} (hTU : T ≠ U) (ha : s.TypeIs a T) (hb : s.TypeIs b U)
    (hfT : fillsNumberSlot (.type T) op.info.2 = pure true) (hfU : fillsNumberSlot (.type U) op.info.2 = pure true) (hsub : isSubtype (.type U) (.type T) = pure false)
    (hl : Slot T (dunder op.info.2) idl) (hc : wpAny M A (call (.builtin idl) [a, b]) (fun v s₁ => v ≠ .notImplemented ∧ Q v s₁) E s) : wpAny M A (binaryOp op a b) Q E s := by
  rcases hi : op.info with ⟨sym, nm⟩
  rw [hi] at hfT hfU hl
  have hne : (Value.type T == Value.type U) = false := by simpa using hTU
  have hpy : numberSlotInPython (.type T) nm = pure false := rfl
  simp only [binaryOp, hi]
  refine wpAny_holding (wpAny_bind ?_)
  unfold binaryOp1
  refine wpAny_bind (wpAny_typeOf ha (wpAny_bind (wpAny_typeOf hb (wpAny_bind (wpAny_of_eq hfT ?_)))))
  rw [hne, if_neg Bool.false_ne_true]
  refine wpAny_bind (wpAny_of_eq hfU ?_)
  simp only [Bool.and_self, if_true]
  refine wpAny_bind (wpAny_of_eq hsub ?_)
  simp only [Bool.false_eq_true, if_false, pure_bind, Bool.not_false, Bool.and_self, if_true, hpy, tryMethod]
  refine wpAny_bind (wpAny_bind (wpAny_callSpecial?_slot ha hl (wpAny_mono hc (fun v s₁ h₁ => ?_) fun _ _ x => x)))
  obtain ⟨hv, hq⟩ := h₁
  cases v <;> first | exact absurd rfl hv | exact wpAny_pure (wpAny_pure (wpAny_pure hq))
end
theorem fill_dadd : fillsNumberSlot (.type "datetime.datetime") "add" = pure true := by
  refine fillsNumberSlot_of (id := "datetime.datetime.__add__") (r := some (.builtin "datetime.datetime.__radd__")) slot_dadd.lookup (by decide +kernel) ?_
  rw [typeLookup_type, builtinLookup_eq_fast]; kernel_rfl
theorem slot_tadd : Slot "datetime.timedelta" "__add__" "datetime.timedelta.__add__" :=
  .of (owner := "datetime.timedelta") (n := "__add__") (by rw [typeLookup_type, builtinLookup_eq_fast]; kernel_rfl) (by decide +kernel) (by decide +kernel) (by decide +kernel)
    (by first | exact .inl (by decide +kernel) | exact .inr (by decide +kernel)) (by rw [isSubtype_type]; kernel_rfl)
theorem fill_tadd : fillsNumberSlot (.type "datetime.timedelta") "add" = pure true := by
  refine fillsNumberSlot_of (id := "datetime.timedelta.__add__") (r := some (.builtin "datetime.timedelta.__radd__")) slot_tadd.lookup (by decide +kernel) ?_
  rw [typeLookup_type, builtinLookup_eq_fast]; kernel_rfl
section
variable {prog : Program} {w : World} {A : Around} {E : Value → Shared → Prop} {s : Shared} {a b : Addr}
theorem sub_dt_tz : True := trivial
/-- the date that a moment in microseconds is -/
noncomputable def ofUs (u : Int) : Obj := dtObj (Stamp.ofUs u .none 0).y (Stamp.ofUs u .none 0).mo (Stamp.ofUs u .none 0).d (Stamp.ofUs u .none 0).c.h (Stamp.ofUs u .none 0).c.m (Stamp.ofUs u .none 0).c.s (Stamp.ofUs u .none 0).c.us
/-- the fields of a date within their ranges -/
structure Good7 (y mo d h mi sc us : Int) : Prop where
  y1 : 1 ≤ y
  y2 : y ≤ 9999
  m1 : 1 ≤ mo
  m2 : mo ≤ 12
  d1 : 1 ≤ d
  d2 : d ≤ daysInMonth y mo
  h1 : 0 ≤ h
  h2 : h ≤ 23
  i1 : 0 ≤ mi
  i2 : mi ≤ 59
  s1 : 0 ≤ sc
  s2 : sc ≤ 59
  u1 : 0 ≤ us
  u2 : us ≤ 999999
theorem wp_newStampRaw {t : Stamp} {Q : Value → Shared → Prop} (hg : Good7 t.y t.mo t.d t.c.h t.c.m t.c.s t.c.us) (htz : t.c.tz = .none) (hf : t.c.fold = 0)
    (hq : Q (.ref s.heap.objs.size) { s with heap := s.heap.push (dtObj t.y t.mo t.d t.c.h t.c.m t.c.s t.c.us) }) :
    wpAny (model prog w) A (newStampRaw (.type "datetime.datetime") t) Q E s := by
  obtain ⟨y, mo, d, ⟨h, m, sc, us, tz, f⟩⟩ := t
  dsimp only at hg htz hf hq
  subst htz hf
  have g1 : (decide (y < 1) || decide (y > 9999)) = false := by have := hg.y1; have := hg.y2; simp only [Bool.or_eq_false_iff, decide_eq_false_iff_not]; omega
  have g2 : (decide (mo < 1) || decide (mo > 12)) = false := by have := hg.m1; have := hg.m2; simp only [Bool.or_eq_false_iff, decide_eq_false_iff_not]; omega
  have g3 : (decide (d < 1) || decide (d > daysInMonth y mo)) = false := by have := hg.d1; have := hg.d2; simp only [Bool.or_eq_false_iff, decide_eq_false_iff_not]; omega
  have g4 : (decide (h < 0) || decide (h > 23)) = false := by have := hg.h1; have := hg.h2; simp only [Bool.or_eq_false_iff, decide_eq_false_iff_not]; omega
  have g5 : (decide (m < 0) || decide (m > 59)) = false := by have := hg.i1; have := hg.i2; simp only [Bool.or_eq_false_iff, decide_eq_false_iff_not]; omega
  have g6 : (decide (sc < 0) || decide (sc > 59)) = false := by have := hg.s1; have := hg.s2; simp only [Bool.or_eq_false_iff, decide_eq_false_iff_not]; omega
  have g7 : (decide (us < 0) || decide (us > 999999)) = false := by have := hg.u1; have := hg.u2; simp only [Bool.or_eq_false_iff, decide_eq_false_iff_not]; omega
  unfold newStampRaw checkDate checkTime checkTzinfo
  simp only [g1, g2, g3, g4, g5, g6, g7, Bool.false_eq_true, if_false]
  repeat (any_goals (first | assumption | with_reducible refine wpAny_newObj_type ?_ (show (10 : Nat) ≤ sizeLine + 2 by decide) | wp_step))
theorem wp_add {y mo d h mi sc us dd ss uu : Int} {Q : Value → Shared → Prop}
    (ha : s.heap.get? a = some (dtObj y mo d h mi sc us)) (hb : s.heap.get? b = some (tdObj dd ss uu)) {D : Int} (hD : (stp y mo d h mi sc us).us + ((dd * 86400 + ss) * usPerSecond + uu) = D)
    (lo : usPerDay ≤ D) (hi : D < 3652060 * usPerDay) (hg : Good7 (Stamp.ofUs D .none 0).y (Stamp.ofUs D .none 0).mo (Stamp.ofUs D .none 0).d (Stamp.ofUs D .none 0).c.h (Stamp.ofUs D .none 0).c.m (Stamp.ofUs D .none 0).c.s (Stamp.ofUs D .none 0).c.us)
    (h1 : Q (.ref s.heap.objs.size) { s with heap := s.heap.push (ofUs D) }) :
    wpAny (model prog w) A (binaryOp .Add (.ref a) (.ref b)) Q E s := by
  have hT : s.TypeIs (.ref a) "datetime.datetime" := ⟨_, ha, rfl⟩
  have hT' : s.TypeIs (.ref b) "datetime.timedelta" := ⟨_, hb, rfl⟩
  have f1 := sub_dt_dt
  refine wp_op_left (by decide) hT hT' fill_dadd fill_tadd sub_td_dt slot_dadd (wpAny_call (codeAny_call_builtin slot_dadd.plain entry_dadd (slot_dadd.check _ _ _ _ _ _ _ _ hT (args_dadd _ _) ?_)))
  subst hD
  have g1 : (decide ((stp y mo d h mi sc us).us + ((dd * 86400 + ss) * usPerSecond + uu) < usPerDay) || decide ((stp y mo d h mi sc us).us + ((dd * 86400 + ss) * usPerSecond + uu) ≥ 3652060 * usPerDay)) = false := by
    simp only [Bool.or_eq_false_iff, decide_eq_false_iff_not]; omega
  repeat (any_goals (first | assumption | with_reducible refine wp_stampOf ha ?_ | with_reducible refine wp_deltaParts hb ?_ | (with_reducible refine wpAny_ite_false g1 ?_) | (with_reducible refine wp_newStampRaw hg rfl rfl ?_) | wp_step))
  exact ⟨ref_ni _, h1⟩
end
end Mine
end
section
open PySem PySem.W PySem.Calls PyProof.Rows
set_option maxRecDepth 100000
set_option maxHeartbeats 1000000
namespace Mine
open PySem.Builtin._datetime
theorem typeOf_replace : typeOf (.builtin "datetime.datetime.replace") = pure (.type "method_descriptor") := by show builtinType _ = _; rw [builtinType_eq_fast]; kernel_rfl
theorem args_replace (a : Value) (u : Int) (t : Tok) : argsOk "datetime.datetime.replace" ⟨[a], [("microsecond", .int u t)]⟩ := by unfold argsOk; kernel_rfl
section
variable {prog : Program} {w : World} {A : Around} {E : Value → Shared → Prop} {s : Shared} {a b : Addr}
theorem wp_nsr {t t0 : Stamp} {Q : Value → Shared → Prop} (e : t = t0) (hg : Good7 t0.y t0.mo t0.d t0.c.h t0.c.m t0.c.s t0.c.us) (htz : t0.c.tz = .none) (hf : t0.c.fold = 0)
    (hq : Q (.ref s.heap.objs.size) { s with heap := s.heap.push (dtObj t0.y t0.mo t0.d t0.c.h t0.c.m t0.c.s t0.c.us) }) :
    wpAny (model prog w) A (newStampRaw (.type "datetime.datetime") t) Q E s := by subst e; exact wp_newStampRaw hg htz hf hq
theorem wp_dtAsInt {u : Int} {t : Tok} {Q : Int → Shared → Prop} (lo : 0 ≤ u) (hi : u ≤ 999999) (hq : Q u s) : wpAny (model prog w) A (dtAsInt (.int u t)) Q E s := by
  have hc : ¬ ((decide (u ≥ 2 ^ 31) || decide (u < -(2 ^ 31 : Int))) = true) := by
    simp only [Bool.or_eq_true, decide_eq_true_eq]; omega
  unfold dtAsInt
  repeat (any_goals (first | assumption | (refine wpAny_ite ?_; rw [if_neg hc]) | wp_step))
theorem wp_dtCInt {u : Int} {t : Tok} {Q : Int → Shared → Prop} (lo : 0 ≤ u) (hi : u ≤ 999999) (hq : Q u s) : wpAny (model prog w) A (dtCInt (.int u t)) Q E s := by
  have c1 : ¬ ((decide (u ≥ 2 ^ 63) || decide (u < -(2 ^ 63 : Int))) = true) := by
    simp only [Bool.or_eq_true, decide_eq_true_eq]; omega
  have c2 : ¬ (u ≥ 2 ^ 31) := by omega
  have c3 : ¬ (u < -(2 ^ 31 : Int)) := by omega
  unfold dtCInt
  repeat (any_goals (first | assumption | (refine wpAny_ite ?_; rw [if_neg c1]) | (refine wpAny_ite ?_; rw [if_neg c2]) | (refine wpAny_ite ?_; rw [if_neg c3]) | wp_step))
theorem wp_ne {y mo d h mi sc us y' mo' d' h' mi' sc' us' : Int} {Q : Value → Shared → Prop} {r : Bool} (hu : A.units < cLine)
    (ha : s.heap.get? a = some (dtObj y mo d h mi sc us)) (hb : s.heap.get? b = some (dtObj y' mo' d' h' mi' sc' us'))
    (hr : ((((((((y * 256 + mo) * 256 + d) * 256 + h) * 256 + mi) * 256 + sc) * 16777216 + us) - ((((((y' * 256 + mo') * 256 + d') * 256 + h') * 256 + mi') * 256 + sc') * 16777216 + us')) != 0) = r)
    (h1 : Q (.bool r) s) :
    wpAny (model prog w) A (richCompare .NotEq (.ref a) (.ref b)) Q E s := by
  have hT : s.TypeIs (.ref a) "datetime.datetime" := ⟨_, ha, rfl⟩
  have hT' : s.TypeIs (.ref b) "datetime.datetime" := ⟨_, hb, rfl⟩
  have f1 := sub_dt_dt
  refine wpAny_richCompare_same_room hT hT' slot_dne (wpAny_call (codeAny_call_builtin slot_dne.plain entry_dne (slot_dne.check _ _ _ _ _ _ _ _ hT (args_dne _ _) ?_))) hu
  repeat (any_goals (first | assumption | with_reducible refine wp_stampOf ha ?_ | with_reducible refine wp_stampOf? hb ?_ | wp_step))
  subst hr
  exact ⟨(by intro h; cases h), h1⟩
theorem wp_replace {y mo d h mi sc us u : Int} {t : Tok} {Q : Value → Shared → Prop}
    (ha : s.heap.get? a = some (dtObj y mo d h mi sc us)) (hg : Good7 y mo d h mi sc u)
    (h1 : Q (.ref s.heap.objs.size) { s with heap := s.heap.push (dtObj y mo d h mi sc u) }) :
    wpAny (model prog w) A (call (.builtin "datetime.datetime.replace") [.ref a] [("microsecond", .int u t)]) Q E s := by
  have hT : s.TypeIs (.ref a) "datetime.datetime" := ⟨_, ha, rfl⟩
  have f1 := sub_dt_dt
  refine wpAny_call (codeAny_call_builtin slot_replace.plain entry_replace (slot_replace.check _ _ _ _ _ _ _ _ hT (args_replace _ _ _) ?_))
  unfold Builtin.«datetime.datetime.replace»
  repeat (any_goals (first | assumption | with_reducible refine wp_stampOf ha ?_ | (with_reducible refine wp_dtAsInt hg.u1 hg.u2 ?_) | (with_reducible refine wp_nsr (t0 := stp y mo d h mi sc u) ?_ hg rfl rfl ?_) | (first | with_reducible (first | refine wpAny_pure ?_ | refine wpAny_bind ?_ | refine wpAny_rule ?_ | refine wpAny_holding ?_ | refine wpAny_typeOf (by assumption) ?_) | ((with_reducible apply wpAny_ite_false); focus (rfl; done)) | ((with_reducible apply wpAny_ite_true); focus (rfl; done)) | wp_delta)))
  all_goals rfl
end
end Mine
end
section
open PySem PySem.W PySem.Calls PyProof.Rows
set_option maxRecDepth 100000
set_option maxHeartbeats 1000000
namespace Mine
open PySem.Builtin._datetime
theorem slot_dt_init : Slot "datetime.datetime" "__init__" "object.__init__" :=
  .of (owner := "object") (n := "__init__") (by rw [typeLookup_type, builtinLookup_eq_fast]; kernel_rfl) (by decide +kernel) (by decide +kernel) (by decide +kernel)
    (by first | exact .inl (by decide +kernel) | exact .inr (by decide +kernel)) (by rw [isSubtype_type]; kernel_rfl)
theorem mro_dt : mroOf (.type "datetime.datetime") = pure [.type "datetime.datetime", .type "datetime.date", .type "object"] := by kernel_rfl
theorem lk_dt_new : typeLookup (.type "datetime.datetime") "__new__" = pure (some (.builtin "datetime.datetime.__new__")) := by rw [typeLookup_type, builtinLookup_eq_fast]; kernel_rfl
theorem called_dt : TypeCalled "datetime.datetime" "datetime.datetime.__new__" "object.__init__" :=
  ⟨by decide +kernel, by decide +kernel, ⟨_, _, mro_dt⟩, madeBy_type mro_dt lk_dt_new (by decide +kernel), by decide +kernel, by rw [isSubtype_type]; kernel_rfl, slot_dt_init⟩
theorem entry_dt_new : entryFor table "datetime.datetime.__new__" = some Builtin.«datetime.datetime.__new__» := entryFor_of_tree (by kernel_rfl)
theorem dt_new_ne : (some "datetime.datetime.__new__" != some "object.__new__") = true := by decide +kernel
theorem typeOf_dt : typeOf (.type "datetime.datetime") = pure (.type "type") := by kernel_rfl
theorem isType_dt : isType (.type "datetime.datetime") = pure true := by kernel_rfl
theorem sub_int_bytes : isSubtype (.type "int") (.type "bytes") = pure false := by rw [isSubtype_type]; kernel_rfl
theorem plainExc_V : PlainExc "ValueError" := ⟨fun args => by unfold ownMembersOf; split <;> first | rfl | (rename_i h; revert h; decide) | simp_all, by decide +kernel⟩
theorem plainExc_T : PlainExc "TypeError" := plainExc_TypeError
section
variable {prog : Program} {w : World} {A : Around} {E : Value → Shared → Prop} {s : Shared} {a b : Addr}
/-- the fields that do not make a date: a ValueError -/
theorem wp_nsr_bad {t : Stamp} {Q : Value → Shared → Prop} (hh : A.handled = none) (h0 : 0 ≤ t.y) (h1 : t.y ≤ 9999) (hus : t.c.us = 0) (htz : t.c.tz = .none) (hf : t.c.fold = 0)
    (hg : ¬ Good7 t.y t.mo t.d t.c.h t.c.m t.c.s t.c.us) (h : ∀ h' tk e, Heap.NewExc s.heap h' e "ValueError" → E (.ref e) { s with heap := h', toks := tk }) :
    wpAny (model prog w) A (newStampRaw (.type "datetime.datetime") t) Q E s := by
  obtain ⟨y, mo, d, ⟨h', m, sc, us, tz, f⟩⟩ := t
  dsimp only at h0 h1 hus htz hf hg
  subst htz hf hus
  unfold newStampRaw checkDate checkTime checkTzinfo
  dsimp only
  have hmsg : ((toString "year " ++ toString y ++ toString " is out of range" : String) : PySem.Str).length ≤ sizeLine := by
    have hy : (toString y).length ≤ 10 := by
      have := KT.len_num h0 (show y < 10 ^ 10 by omega)
      rw [PySem.ofString_length] at this
      exact this
    rw [PySem.ofString_length]
    simp only [String.length_append]
    have e0 : (toString (toString y)).length = (toString y).length := rfl
    have e1 : (toString "year ").length = 5 := by decide
    have e2 : (toString " is out of range").length = 16 := by decide
    have e3 : 100 ≤ sizeLine := by decide
    omega
  by_cases g1 : (decide (y < 1) || decide (y > 9999)) = true
  · simp only [g1, if_true]
    exact wpAny_bind (wpAny_bind (wpAny_rule (wpAny_bind (wpAny_raiseErrorMade plainExc_V hh h hmsg))))
  by_cases g2 : (decide (mo < 1) || decide (mo > 12)) = true
  · simp only [g1, g2, if_true, Bool.false_eq_true, if_false]
    exact wpAny_bind (wpAny_bind (wpAny_rule (wpAny_bind (wpAny_raiseErrorWords plainExc_V hh h))))
  by_cases g3 : (decide (d < 1) || decide (d > daysInMonth y mo)) = true
  · simp only [g1, g2, g3, if_true, Bool.false_eq_true, if_false]
    exact wpAny_bind (wpAny_bind (wpAny_rule (wpAny_raiseErrorWords plainExc_V hh h)))
  by_cases g4 : (decide (h' < 0) || decide (h' > 23)) = true
  · simp only [g1, g2, g3, g4, if_true, Bool.false_eq_true, if_false]
    exact wpAny_bind (wpAny_pure (wpAny_bind (wpAny_bind (wpAny_rule (wpAny_bind (wpAny_raiseErrorWords plainExc_V hh h))))))
  by_cases g5 : (decide (m < 0) || decide (m > 59)) = true
  · simp only [g1, g2, g3, g4, g5, if_true, Bool.false_eq_true, if_false]
    exact wpAny_bind (wpAny_pure (wpAny_bind (wpAny_bind (wpAny_rule (wpAny_bind (wpAny_raiseErrorWords plainExc_V hh h))))))
  by_cases g6 : (decide (sc < 0) || decide (sc > 59)) = true
  · simp only [g1, g2, g3, g4, g5, g6, if_true, Bool.false_eq_true, if_false]
    exact wpAny_bind (wpAny_pure (wpAny_bind (wpAny_bind (wpAny_rule (wpAny_bind (wpAny_raiseErrorWords plainExc_V hh h))))))
  exfalso
  simp only [Bool.or_eq_true, decide_eq_true_eq] at g1 g2 g3 g4 g5 g6
  exact hg ⟨by omega, by omega, by omega, by omega, by omega, by omega, by omega, by omega, by omega, by omega, by omega, by omega, by omega, by omega⟩
theorem wp_to {t t0 : Stamp} {Q : Value → Shared → Prop} (e : t = t0) (h : wpAny (model prog w) A (newStampRaw (.type "datetime.datetime") t0) Q E s) :
    wpAny (model prog w) A (newStampRaw (.type "datetime.datetime") t) Q E s := by subst e; exact h
/-- what the type's making of a date asks -/
noncomputable def dtSpec (t : Stamp) : PySem.Spec := fun A R s => ∀ (prog : Program) (w : World), wpAny (model prog w) A.in1 (newStampRaw (.type "datetime.datetime") t) (fun v s' => R (.ok (.ret v)) s') (fun e s' => R (.error e) s') s
theorem dt_meets {t : Stamp} {x : Sem Fin} (h : ∀ (prog : Program) (w : World) (A : Around) (E : Value → Shared → Prop) (s : Shared) (Q : Fin → Shared → Prop),
    wpAny (model prog w) A (newStampRaw (.type "datetime.datetime") t) (fun v s' => Q (.done (.ret v)) s') E s → wpAny (model prog w) A x Q E s) : Meets x (dtSpec t) :=
  fun prog w A R s hs => h _ _ _ _ _ _ (hs prog w)
theorem dtSpec_of {y mo d h mi sc : Int} {Q : Value → Shared → Prop} (hh : A.handled = none) (b0 : 0 ≤ y ∧ y ≤ 9999)
    (h1 : Good7 y mo d h mi sc 0 → Q (.ref s.heap.objs.size) { s with heap := s.heap.push (dtObj y mo d h mi sc 0) })
    (h2 : ¬ Good7 y mo d h mi sc 0 → ∀ h' tk e, Heap.NewExc s.heap h' e "ValueError" → E (.ref e) { s with heap := h', toks := tk }) :
    dtSpec (stp y mo d h mi sc 0) A.in1 (wants (fun obj s₁ => s₁.TypeIs obj "datetime.datetime" ∧ Q obj s₁) E) s := by
  intro prog w
  by_cases hg : Good7 y mo d h mi sc 0
  · exact wp_newStampRaw hg rfl rfl ⟨⟨_, Heap.get?_push_size _ rfl, rfl⟩, h1 hg⟩
  · exact wp_nsr_bad hh b0.1 b0.2 rfl rfl rfl hg (h2 hg)
theorem hct_all (v0 v1 v2 v3 v4 v5 : Value) : [checkTypeCall "datetime.datetime" ⟨[v0], []⟩, checkTypeCall "datetime.datetime" ⟨[v0, v1], []⟩, checkTypeCall "datetime.datetime" ⟨[v0, v1, v2], []⟩, checkTypeCall "datetime.datetime" ⟨[v0, v1, v2, v3], []⟩, checkTypeCall "datetime.datetime" ⟨[v0, v1, v2, v3, v4], []⟩, checkTypeCall "datetime.datetime" ⟨[v0, v1, v2, v3, v4, v5], []⟩] = [pure (), pure (), pure (), pure (), pure (), pure ()] := by kernel_rfl
theorem hcn_all (v0 v1 v2 v3 v4 v5 : Value) : [checkBuiltinCall "datetime.datetime.__new__" ⟨[.type "datetime.datetime", v0], []⟩, checkBuiltinCall "datetime.datetime.__new__" ⟨[.type "datetime.datetime", v0, v1], []⟩, checkBuiltinCall "datetime.datetime.__new__" ⟨[.type "datetime.datetime", v0, v1, v2], []⟩, checkBuiltinCall "datetime.datetime.__new__" ⟨[.type "datetime.datetime", v0, v1, v2, v3], []⟩, checkBuiltinCall "datetime.datetime.__new__" ⟨[.type "datetime.datetime", v0, v1, v2, v3, v4], []⟩, checkBuiltinCall "datetime.datetime.__new__" ⟨[.type "datetime.datetime", v0, v1, v2, v3, v4, v5], []⟩] = [pure (), pure (), pure (), pure (), pure (), pure ()] := by kernel_rfl
theorem hok_all (o v0 v1 v2 v3 v4 v5 : Value) : [(match Manifest.signature? "object.__init__" with | some sig => Bind.checkArgs "object.__init__" sig ⟨[o, v0], []⟩ | none => pure ()), (match Manifest.signature? "object.__init__" with | some sig => Bind.checkArgs "object.__init__" sig ⟨[o, v0, v1], []⟩ | none => pure ()), (match Manifest.signature? "object.__init__" with | some sig => Bind.checkArgs "object.__init__" sig ⟨[o, v0, v1, v2], []⟩ | none => pure ()), (match Manifest.signature? "object.__init__" with | some sig => Bind.checkArgs "object.__init__" sig ⟨[o, v0, v1, v2, v3], []⟩ | none => pure ()), (match Manifest.signature? "object.__init__" with | some sig => Bind.checkArgs "object.__init__" sig ⟨[o, v0, v1, v2, v3, v4], []⟩ | none => pure ()), (match Manifest.signature? "object.__init__" with | some sig => Bind.checkArgs "object.__init__" sig ⟨[o, v0, v1, v2, v3, v4, v5], []⟩ | none => pure ())] = [pure (), pure (), pure (), pure (), pure (), pure ()] := by kernel_rfl
theorem hct_1 (v0 : Value) : checkTypeCall "datetime.datetime" ⟨[v0], []⟩ = pure () := (List.cons.inj (hct_all v0 .none .none .none .none .none)).1
theorem hcn_1 (v0 : Value) : checkBuiltinCall "datetime.datetime.__new__" ⟨[.type "datetime.datetime", v0], []⟩ = pure () := (List.cons.inj (hcn_all v0 .none .none .none .none .none)).1
theorem hok_1 (v0 o : Value) : argsOk "object.__init__" ⟨[o, v0], []⟩ := (List.cons.inj (hok_all o v0 .none .none .none .none .none)).1
theorem new_1 {y : Int} {t0 : Tok} {Q : Fin → Shared → Prop} (hh : A.handled = none) (b0 : 0 ≤ y ∧ y ≤ 9999)
    (h2 : ∀ h' tk e, Heap.NewExc s.heap h' e "TypeError" → E (.ref e) { s with heap := h', toks := tk }) :
    wpAny (model prog w) A (Builtin.«datetime.datetime.__new__» ⟨[.type "datetime.datetime", .int y t0], []⟩) Q E s := by
  have f1 := sub_dt_dt
  have f2 := isType_dt
  have f3 := sub_int_bytes
  have g0 : s.TypeIs (.int y t0) "int" := rfl;
  repeat (any_goals (first | assumption | (with_reducible refine wp_dtCInt (u := y) b0.1 (Int.le_trans b0.2 (by decide)) ?_) | (with_reducible refine wpAny_raiseErrorMade plainExc_T hh h2 ?_) | (first | with_reducible (first | refine wpAny_pure ?_ | refine wpAny_bind ?_ | refine wpAny_rule ?_ | refine wpAny_holding ?_ | refine wpAny_typeOf (by assumption) ?_ | refine wpAny_of_eq (by assumption) ?_ | refine wpAny_isInstance (by assumption) (by assumption) ?_ | refine wpAny_isInstance_val (by assumption) (by assumption) ?_) | ((with_reducible apply wpAny_ite_false); focus (rfl; done)) | ((with_reducible apply wpAny_ite_true); focus (rfl; done)) | wp_delta)))
  all_goals decide +kernel
theorem date_1 {y : Int} {t0 : Tok} {Q : Value → Shared → Prop} (hh : A.handled = none) (b0 : 0 ≤ y ∧ y ≤ 9999)
    (h2 : ∀ h' tk e, Heap.NewExc s.heap h' e "TypeError" → E (.ref e) { s with heap := h', toks := tk }) :
    wpAny (model prog w) A (call (.type "datetime.datetime") [.int y t0]) Q E s := by
  refine callType_new (S := fun A R s => A.handled = none ∧ ∀ h' tk e, Heap.NewExc s.heap h' e "TypeError" → R (.error (.ref e)) { s with heap := h', toks := tk }) called_dt dt_new_ne (hct_1 _) (hcn_1 _) (hok_1 _) entry_dt_new ?_ ⟨hh, h2⟩
  exact fun prog w A R s h => new_1 h.1 b0 h.2
theorem hct_2 (v0 v1 : Value) : checkTypeCall "datetime.datetime" ⟨[v0, v1], []⟩ = pure () := (List.cons.inj (List.cons.inj (hct_all v0 v1 .none .none .none .none)).2).1
theorem hcn_2 (v0 v1 : Value) : checkBuiltinCall "datetime.datetime.__new__" ⟨[.type "datetime.datetime", v0, v1], []⟩ = pure () := (List.cons.inj (List.cons.inj (hcn_all v0 v1 .none .none .none .none)).2).1
theorem hok_2 (v0 v1 o : Value) : argsOk "object.__init__" ⟨[o, v0, v1], []⟩ := (List.cons.inj (List.cons.inj (hok_all o v0 v1 .none .none .none .none)).2).1
theorem new_2 {y mo : Int} {t0 t1 : Tok} {Q : Fin → Shared → Prop} (hh : A.handled = none) (b0 : 0 ≤ y ∧ y ≤ 9999) (b1 : 0 ≤ mo ∧ mo ≤ 9999)
    (h2 : ∀ h' tk e, Heap.NewExc s.heap h' e "TypeError" → E (.ref e) { s with heap := h', toks := tk }) :
    wpAny (model prog w) A (Builtin.«datetime.datetime.__new__» ⟨[.type "datetime.datetime", .int y t0, .int mo t1], []⟩) Q E s := by
  have f1 := sub_dt_dt
  have f2 := isType_dt
  have f3 := sub_int_bytes
  have g0 : s.TypeIs (.int y t0) "int" := rfl; have g1 : s.TypeIs (.int mo t1) "int" := rfl;
  repeat (any_goals (first | assumption | (with_reducible refine wp_dtCInt (u := y) b0.1 (Int.le_trans b0.2 (by decide)) ?_) | (with_reducible refine wp_dtCInt (u := mo) b1.1 (Int.le_trans b1.2 (by decide)) ?_) | (with_reducible refine wpAny_raiseErrorMade plainExc_T hh h2 ?_) | (first | with_reducible (first | refine wpAny_pure ?_ | refine wpAny_bind ?_ | refine wpAny_rule ?_ | refine wpAny_holding ?_ | refine wpAny_typeOf (by assumption) ?_ | refine wpAny_of_eq (by assumption) ?_ | refine wpAny_isInstance (by assumption) (by assumption) ?_ | refine wpAny_isInstance_val (by assumption) (by assumption) ?_) | ((with_reducible apply wpAny_ite_false); focus (rfl; done)) | ((with_reducible apply wpAny_ite_true); focus (rfl; done)) | wp_delta)))
  all_goals decide +kernel
theorem date_2 {y mo : Int} {t0 t1 : Tok} {Q : Value → Shared → Prop} (hh : A.handled = none) (b0 : 0 ≤ y ∧ y ≤ 9999) (b1 : 0 ≤ mo ∧ mo ≤ 9999)
    (h2 : ∀ h' tk e, Heap.NewExc s.heap h' e "TypeError" → E (.ref e) { s with heap := h', toks := tk }) :
    wpAny (model prog w) A (call (.type "datetime.datetime") [.int y t0, .int mo t1]) Q E s := by
  refine callType_new (S := fun A R s => A.handled = none ∧ ∀ h' tk e, Heap.NewExc s.heap h' e "TypeError" → R (.error (.ref e)) { s with heap := h', toks := tk }) called_dt dt_new_ne (hct_2 _ _) (hcn_2 _ _) (hok_2 _ _) entry_dt_new ?_ ⟨hh, h2⟩
  exact fun prog w A R s h => new_2 h.1 b0 b1 h.2
theorem hct_3 (v0 v1 v2 : Value) : checkTypeCall "datetime.datetime" ⟨[v0, v1, v2], []⟩ = pure () := (List.cons.inj (List.cons.inj (List.cons.inj (hct_all v0 v1 v2 .none .none .none)).2).2).1
theorem hcn_3 (v0 v1 v2 : Value) : checkBuiltinCall "datetime.datetime.__new__" ⟨[.type "datetime.datetime", v0, v1, v2], []⟩ = pure () := (List.cons.inj (List.cons.inj (List.cons.inj (hcn_all v0 v1 v2 .none .none .none)).2).2).1
theorem hok_3 (v0 v1 v2 o : Value) : argsOk "object.__init__" ⟨[o, v0, v1, v2], []⟩ := (List.cons.inj (List.cons.inj (List.cons.inj (hok_all o v0 v1 v2 .none .none .none)).2).2).1
theorem new_3 {y mo d : Int} {t0 t1 t2 : Tok} {Q : Fin → Shared → Prop} (b0 : 0 ≤ y ∧ y ≤ 9999) (b1 : 0 ≤ mo ∧ mo ≤ 9999) (b2 : 0 ≤ d ∧ d ≤ 9999)
    (h1 : wpAny (model prog w) A (newStampRaw (.type "datetime.datetime") (stp y mo d 0 0 0 0)) (fun v s' => Q (.done (.ret v)) s') E s) :
    wpAny (model prog w) A (Builtin.«datetime.datetime.__new__» ⟨[.type "datetime.datetime", .int y t0, .int mo t1, .int d t2], []⟩) Q E s := by
  have f1 := sub_dt_dt
  have f2 := isType_dt
  have f3 := sub_int_bytes
  skip
  have hK := KIN.Hid.mk h1
  clear h1
  repeat (any_goals (first | assumption | (with_reducible refine wp_dtCInt (u := y) b0.1 (Int.le_trans b0.2 (by decide)) ?_) | (with_reducible refine wp_dtCInt (u := mo) b1.1 (Int.le_trans b1.2 (by decide)) ?_) | (with_reducible refine wp_dtCInt (u := d) b2.1 (Int.le_trans b2.2 (by decide)) ?_) | (with_reducible refine wp_to (t0 := stp y mo d 0 0 0 0) ?_ (wpAny_mono hK.out ?_ ?_)) | (first | with_reducible (first | refine wpAny_pure ?_ | refine wpAny_bind ?_ | refine wpAny_rule ?_ | refine wpAny_holding ?_ | refine wpAny_typeOf (by assumption) ?_ | refine wpAny_of_eq (by assumption) ?_ | refine wpAny_isInstance (by assumption) (by assumption) ?_ | refine wpAny_isInstance_val (by assumption) (by assumption) ?_) | ((with_reducible apply wpAny_ite_false); focus (rfl; done)) | ((with_reducible apply wpAny_ite_true); focus (rfl; done)) | wp_delta)))
  · rfl
  · exact fun v s' hq => wpAny_pure hq
  · exact fun _ _ x => x
theorem date_3 {y mo d : Int} {t0 t1 t2 : Tok} {Q : Value → Shared → Prop} (hh : A.handled = none) (b0 : 0 ≤ y ∧ y ≤ 9999) (b1 : 0 ≤ mo ∧ mo ≤ 9999) (b2 : 0 ≤ d ∧ d ≤ 9999)
    (h1 : Good7 y mo d 0 0 0 0 → Q (.ref s.heap.objs.size) { s with heap := s.heap.push (dtObj y mo d 0 0 0 0) })
    (h2 : ¬ Good7 y mo d 0 0 0 0 → ∀ h' tk e, Heap.NewExc s.heap h' e "ValueError" → E (.ref e) { s with heap := h', toks := tk }) :
    wpAny (model prog w) A (call (.type "datetime.datetime") [.int y t0, .int mo t1, .int d t2]) Q E s := by
  refine callType_new (S := dtSpec (stp y mo d 0 0 0 0)) called_dt dt_new_ne (hct_3 _ _ _) (hcn_3 _ _ _) (hok_3 _ _ _) entry_dt_new (dt_meets fun _ _ _ _ _ _ h => new_3 b0 b1 b2 h) ?_
  exact dtSpec_of hh b0 h1 h2
theorem hct_4 (v0 v1 v2 v3 : Value) : checkTypeCall "datetime.datetime" ⟨[v0, v1, v2, v3], []⟩ = pure () := (List.cons.inj (List.cons.inj (List.cons.inj (List.cons.inj (hct_all v0 v1 v2 v3 .none .none)).2).2).2).1
theorem hcn_4 (v0 v1 v2 v3 : Value) : checkBuiltinCall "datetime.datetime.__new__" ⟨[.type "datetime.datetime", v0, v1, v2, v3], []⟩ = pure () := (List.cons.inj (List.cons.inj (List.cons.inj (List.cons.inj (hcn_all v0 v1 v2 v3 .none .none)).2).2).2).1
theorem hok_4 (v0 v1 v2 v3 o : Value) : argsOk "object.__init__" ⟨[o, v0, v1, v2, v3], []⟩ := (List.cons.inj (List.cons.inj (List.cons.inj (List.cons.inj (hok_all o v0 v1 v2 v3 .none .none)).2).2).2).1
theorem new_4 {y mo d h : Int} {t0 t1 t2 t3 : Tok} {Q : Fin → Shared → Prop} (b0 : 0 ≤ y ∧ y ≤ 9999) (b1 : 0 ≤ mo ∧ mo ≤ 9999) (b2 : 0 ≤ d ∧ d ≤ 9999) (b3 : 0 ≤ h ∧ h ≤ 9999)
    (h1 : wpAny (model prog w) A (newStampRaw (.type "datetime.datetime") (stp y mo d h 0 0 0)) (fun v s' => Q (.done (.ret v)) s') E s) :
    wpAny (model prog w) A (Builtin.«datetime.datetime.__new__» ⟨[.type "datetime.datetime", .int y t0, .int mo t1, .int d t2, .int h t3], []⟩) Q E s := by
  have f1 := sub_dt_dt
  have f2 := isType_dt
  have f3 := sub_int_bytes
  skip
  have hK := KIN.Hid.mk h1
  clear h1
  repeat (any_goals (first | assumption | (with_reducible refine wp_dtCInt (u := y) b0.1 (Int.le_trans b0.2 (by decide)) ?_) | (with_reducible refine wp_dtCInt (u := mo) b1.1 (Int.le_trans b1.2 (by decide)) ?_) | (with_reducible refine wp_dtCInt (u := d) b2.1 (Int.le_trans b2.2 (by decide)) ?_) | (with_reducible refine wp_dtCInt (u := h) b3.1 (Int.le_trans b3.2 (by decide)) ?_) | (with_reducible refine wp_to (t0 := stp y mo d h 0 0 0) ?_ (wpAny_mono hK.out ?_ ?_)) | (first | with_reducible (first | refine wpAny_pure ?_ | refine wpAny_bind ?_ | refine wpAny_rule ?_ | refine wpAny_holding ?_ | refine wpAny_typeOf (by assumption) ?_ | refine wpAny_of_eq (by assumption) ?_ | refine wpAny_isInstance (by assumption) (by assumption) ?_ | refine wpAny_isInstance_val (by assumption) (by assumption) ?_) | ((with_reducible apply wpAny_ite_false); focus (rfl; done)) | ((with_reducible apply wpAny_ite_true); focus (rfl; done)) | wp_delta)))
  · rfl
  · exact fun v s' hq => wpAny_pure hq
  · exact fun _ _ x => x
theorem date_4 {y mo d h : Int} {t0 t1 t2 t3 : Tok} {Q : Value → Shared → Prop} (hh : A.handled = none) (b0 : 0 ≤ y ∧ y ≤ 9999) (b1 : 0 ≤ mo ∧ mo ≤ 9999) (b2 : 0 ≤ d ∧ d ≤ 9999) (b3 : 0 ≤ h ∧ h ≤ 9999)
    (h1 : Good7 y mo d h 0 0 0 → Q (.ref s.heap.objs.size) { s with heap := s.heap.push (dtObj y mo d h 0 0 0) })
    (h2 : ¬ Good7 y mo d h 0 0 0 → ∀ h' tk e, Heap.NewExc s.heap h' e "ValueError" → E (.ref e) { s with heap := h', toks := tk }) :
    wpAny (model prog w) A (call (.type "datetime.datetime") [.int y t0, .int mo t1, .int d t2, .int h t3]) Q E s := by
  refine callType_new (S := dtSpec (stp y mo d h 0 0 0)) called_dt dt_new_ne (hct_4 _ _ _ _) (hcn_4 _ _ _ _) (hok_4 _ _ _ _) entry_dt_new (dt_meets fun _ _ _ _ _ _ h => new_4 b0 b1 b2 b3 h) ?_
  exact dtSpec_of hh b0 h1 h2
theorem hct_5 (v0 v1 v2 v3 v4 : Value) : checkTypeCall "datetime.datetime" ⟨[v0, v1, v2, v3, v4], []⟩ = pure () := (List.cons.inj (List.cons.inj (List.cons.inj (List.cons.inj (List.cons.inj (hct_all v0 v1 v2 v3 v4 .none)).2).2).2).2).1
theorem hcn_5 (v0 v1 v2 v3 v4 : Value) : checkBuiltinCall "datetime.datetime.__new__" ⟨[.type "datetime.datetime", v0, v1, v2, v3, v4], []⟩ = pure () := (List.cons.inj (List.cons.inj (List.cons.inj (List.cons.inj (List.cons.inj (hcn_all v0 v1 v2 v3 v4 .none)).2).2).2).2).1
theorem hok_5 (v0 v1 v2 v3 v4 o : Value) : argsOk "object.__init__" ⟨[o, v0, v1, v2, v3, v4], []⟩ := (List.cons.inj (List.cons.inj (List.cons.inj (List.cons.inj (List.cons.inj (hok_all o v0 v1 v2 v3 v4 .none)).2).2).2).2).1
theorem new_5 {y mo d h mi : Int} {t0 t1 t2 t3 t4 : Tok} {Q : Fin → Shared → Prop} (b0 : 0 ≤ y ∧ y ≤ 9999) (b1 : 0 ≤ mo ∧ mo ≤ 9999) (b2 : 0 ≤ d ∧ d ≤ 9999) (b3 : 0 ≤ h ∧ h ≤ 9999) (b4 : 0 ≤ mi ∧ mi ≤ 9999)
    (h1 : wpAny (model prog w) A (newStampRaw (.type "datetime.datetime") (stp y mo d h mi 0 0)) (fun v s' => Q (.done (.ret v)) s') E s) :
    wpAny (model prog w) A (Builtin.«datetime.datetime.__new__» ⟨[.type "datetime.datetime", .int y t0, .int mo t1, .int d t2, .int h t3, .int mi t4], []⟩) Q E s := by
  have f1 := sub_dt_dt
  have f2 := isType_dt
  have f3 := sub_int_bytes
  skip
  have hK := KIN.Hid.mk h1
  clear h1
  repeat (any_goals (first | assumption | (with_reducible refine wp_dtCInt (u := y) b0.1 (Int.le_trans b0.2 (by decide)) ?_) | (with_reducible refine wp_dtCInt (u := mo) b1.1 (Int.le_trans b1.2 (by decide)) ?_) | (with_reducible refine wp_dtCInt (u := d) b2.1 (Int.le_trans b2.2 (by decide)) ?_) | (with_reducible refine wp_dtCInt (u := h) b3.1 (Int.le_trans b3.2 (by decide)) ?_) | (with_reducible refine wp_dtCInt (u := mi) b4.1 (Int.le_trans b4.2 (by decide)) ?_) | (with_reducible refine wp_to (t0 := stp y mo d h mi 0 0) ?_ (wpAny_mono hK.out ?_ ?_)) | (first | with_reducible (first | refine wpAny_pure ?_ | refine wpAny_bind ?_ | refine wpAny_rule ?_ | refine wpAny_holding ?_ | refine wpAny_typeOf (by assumption) ?_ | refine wpAny_of_eq (by assumption) ?_ | refine wpAny_isInstance (by assumption) (by assumption) ?_ | refine wpAny_isInstance_val (by assumption) (by assumption) ?_) | ((with_reducible apply wpAny_ite_false); focus (rfl; done)) | ((with_reducible apply wpAny_ite_true); focus (rfl; done)) | wp_delta)))
  · rfl
  · exact fun v s' hq => wpAny_pure hq
  · exact fun _ _ x => x
theorem date_5 {y mo d h mi : Int} {t0 t1 t2 t3 t4 : Tok} {Q : Value → Shared → Prop} (hh : A.handled = none) (b0 : 0 ≤ y ∧ y ≤ 9999) (b1 : 0 ≤ mo ∧ mo ≤ 9999) (b2 : 0 ≤ d ∧ d ≤ 9999) (b3 : 0 ≤ h ∧ h ≤ 9999) (b4 : 0 ≤ mi ∧ mi ≤ 9999)
    (h1 : Good7 y mo d h mi 0 0 → Q (.ref s.heap.objs.size) { s with heap := s.heap.push (dtObj y mo d h mi 0 0) })
    (h2 : ¬ Good7 y mo d h mi 0 0 → ∀ h' tk e, Heap.NewExc s.heap h' e "ValueError" → E (.ref e) { s with heap := h', toks := tk }) :
    wpAny (model prog w) A (call (.type "datetime.datetime") [.int y t0, .int mo t1, .int d t2, .int h t3, .int mi t4]) Q E s := by
  refine callType_new (S := dtSpec (stp y mo d h mi 0 0)) called_dt dt_new_ne (hct_5 _ _ _ _ _) (hcn_5 _ _ _ _ _) (hok_5 _ _ _ _ _) entry_dt_new (dt_meets fun _ _ _ _ _ _ h => new_5 b0 b1 b2 b3 b4 h) ?_
  exact dtSpec_of hh b0 h1 h2
theorem hct_6 (v0 v1 v2 v3 v4 v5 : Value) : checkTypeCall "datetime.datetime" ⟨[v0, v1, v2, v3, v4, v5], []⟩ = pure () := (List.cons.inj (List.cons.inj (List.cons.inj (List.cons.inj (List.cons.inj (List.cons.inj (hct_all v0 v1 v2 v3 v4 v5)).2).2).2).2).2).1
theorem hcn_6 (v0 v1 v2 v3 v4 v5 : Value) : checkBuiltinCall "datetime.datetime.__new__" ⟨[.type "datetime.datetime", v0, v1, v2, v3, v4, v5], []⟩ = pure () := (List.cons.inj (List.cons.inj (List.cons.inj (List.cons.inj (List.cons.inj (List.cons.inj (hcn_all v0 v1 v2 v3 v4 v5)).2).2).2).2).2).1
theorem hok_6 (v0 v1 v2 v3 v4 v5 o : Value) : argsOk "object.__init__" ⟨[o, v0, v1, v2, v3, v4, v5], []⟩ := (List.cons.inj (List.cons.inj (List.cons.inj (List.cons.inj (List.cons.inj (List.cons.inj (hok_all o v0 v1 v2 v3 v4 v5)).2).2).2).2).2).1
theorem new_6 {y mo d h mi sc : Int} {t0 t1 t2 t3 t4 t5 : Tok} {Q : Fin → Shared → Prop} (b0 : 0 ≤ y ∧ y ≤ 9999) (b1 : 0 ≤ mo ∧ mo ≤ 9999) (b2 : 0 ≤ d ∧ d ≤ 9999) (b3 : 0 ≤ h ∧ h ≤ 9999) (b4 : 0 ≤ mi ∧ mi ≤ 9999) (b5 : 0 ≤ sc ∧ sc ≤ 9999)
    (h1 : wpAny (model prog w) A (newStampRaw (.type "datetime.datetime") (stp y mo d h mi sc 0)) (fun v s' => Q (.done (.ret v)) s') E s) :
    wpAny (model prog w) A (Builtin.«datetime.datetime.__new__» ⟨[.type "datetime.datetime", .int y t0, .int mo t1, .int d t2, .int h t3, .int mi t4, .int sc t5], []⟩) Q E s := by
  have f1 := sub_dt_dt
  have f2 := isType_dt
  have f3 := sub_int_bytes
  skip
  have hK := KIN.Hid.mk h1
  clear h1
  repeat (any_goals (first | assumption | (with_reducible refine wp_dtCInt (u := y) b0.1 (Int.le_trans b0.2 (by decide)) ?_) | (with_reducible refine wp_dtCInt (u := mo) b1.1 (Int.le_trans b1.2 (by decide)) ?_) | (with_reducible refine wp_dtCInt (u := d) b2.1 (Int.le_trans b2.2 (by decide)) ?_) | (with_reducible refine wp_dtCInt (u := h) b3.1 (Int.le_trans b3.2 (by decide)) ?_) | (with_reducible refine wp_dtCInt (u := mi) b4.1 (Int.le_trans b4.2 (by decide)) ?_) | (with_reducible refine wp_dtCInt (u := sc) b5.1 (Int.le_trans b5.2 (by decide)) ?_) | (with_reducible refine wp_to (t0 := stp y mo d h mi sc 0) ?_ (wpAny_mono hK.out ?_ ?_)) | (first | with_reducible (first | refine wpAny_pure ?_ | refine wpAny_bind ?_ | refine wpAny_rule ?_ | refine wpAny_holding ?_ | refine wpAny_typeOf (by assumption) ?_ | refine wpAny_of_eq (by assumption) ?_ | refine wpAny_isInstance (by assumption) (by assumption) ?_ | refine wpAny_isInstance_val (by assumption) (by assumption) ?_) | ((with_reducible apply wpAny_ite_false); focus (rfl; done)) | ((with_reducible apply wpAny_ite_true); focus (rfl; done)) | wp_delta)))
  · rfl
  · exact fun v s' hq => wpAny_pure hq
  · exact fun _ _ x => x
theorem date_6 {y mo d h mi sc : Int} {t0 t1 t2 t3 t4 t5 : Tok} {Q : Value → Shared → Prop} (hh : A.handled = none) (b0 : 0 ≤ y ∧ y ≤ 9999) (b1 : 0 ≤ mo ∧ mo ≤ 9999) (b2 : 0 ≤ d ∧ d ≤ 9999) (b3 : 0 ≤ h ∧ h ≤ 9999) (b4 : 0 ≤ mi ∧ mi ≤ 9999) (b5 : 0 ≤ sc ∧ sc ≤ 9999)
    (h1 : Good7 y mo d h mi sc 0 → Q (.ref s.heap.objs.size) { s with heap := s.heap.push (dtObj y mo d h mi sc 0) })
    (h2 : ¬ Good7 y mo d h mi sc 0 → ∀ h' tk e, Heap.NewExc s.heap h' e "ValueError" → E (.ref e) { s with heap := h', toks := tk }) :
    wpAny (model prog w) A (call (.type "datetime.datetime") [.int y t0, .int mo t1, .int d t2, .int h t3, .int mi t4, .int sc t5]) Q E s := by
  refine callType_new (S := dtSpec (stp y mo d h mi sc 0)) called_dt dt_new_ne (hct_6 _ _ _ _ _ _) (hcn_6 _ _ _ _ _ _) (hok_6 _ _ _ _ _ _) entry_dt_new (dt_meets fun _ _ _ _ _ _ h => new_6 b0 b1 b2 b3 b4 b5 h) ?_
  exact dtSpec_of hh b0 h1 h2
end
end Mine
end
section
open PySem
set_option maxRecDepth 100000
set_option maxHeartbeats 1000000
namespace Mine
open Sre
noncomputable def rxD : List Nat := [13, 4, 8, 0, 0]
noncomputable def rxM (n : Nat) : List Nat := [17, n]
noncomputable def rxP (k lead : Nat) : List Nat := [23, 124 - 21 * k, 0, 1, 16, lead] ++ rxM (2 * k) ++ rxD ++ rxD ++ rxM (2 * k + 1)
/-- the pattern's words, by a rule of our own -/
noncomputable def rxCode : Array Nat := (([14, 7, 4, 5, 20, 8, 0, 0] ++ rxM 0 ++ rxD ++ rxD ++ rxD ++ rxD ++ rxM 1) ++ (rxP 1 45 ++ rxP 2 45 ++ rxP 3 84 ++ rxP 4 58 ++ rxP 5 58) ++ [18, 18, 18, 18, 18, 16, 90, 1]).toArray
/-- the only questions that the pattern asks of a text: is there a figure (0), is there the sign w -/
noncomputable def ask (t : Array Nat) (w p : Nat) : Bool := decide (p < t.size) && (if w = 0 then isDigit (t.getD p 0) else t.getD p 0 == w)
noncomputable def swap (m : M) (t : Array Nat) (s : Seen) : M := { m with text := t, lim := t.size, seen := s }
/-- the question that the next step asks -/
noncomputable def query (m : M) : Option (Nat × Nat) :=
  if m.outcome.isSome then none else match m.answer with
  | some _ => none
  | none => match m.code.getD m.pc 0 with
    | 13 => some (0, m.pos)
    | 16 => some (m.code.getD (m.pc + 1) 0, m.pos)
    | _ => none
/-- the next step is of a kind that we know -/
noncomputable def plainStep (m : M) : Bool :=
  m.outcome.isSome || match m.answer, m.frames with
  | some _, [] => true
  | some _, f :: _ => (match f.wait with | .closeLoop => true | .maxMore => true | .maxTail => true | _ => false)
  | none, _ => decide (m.pc < m.code.size) && (match m.code.getD m.pc 0 with
    | 13 => decide (3 ≤ m.code.size) && m.code.getD (m.pc + 2) 0 == 8 && m.code.getD (m.pc + 3) 0 == 0 && m.code.getD (m.pc + 4) 0 == 0
    | 16 => m.code.getD (m.pc + 1) 0 != 0
    | 17 => true
    | 18 => true
    | 23 => true
    | 1 => !m.wholeText && !m.mustAdvance
    | _ => false)
theorem ops_1 : ops[1]? = some .SUCCESS := rfl
theorem ops_13 : ops[13]? = some .IN := rfl
theorem ops_16 : ops[16]? = some .LITERAL := rfl
theorem ops_17 : ops[17]? = some .MARK := rfl
theorem ops_18 : ops[18]? = some .MAX_UNTIL := rfl
theorem ops_23 : ops[23]? = some .REPEAT := rfl
theorem ops_8 : ops[8]? = some .CATEGORY := rfl
theorem ops_0 : ops[0]? = some .FAILURE := rfl
theorem accepts_in {code : Array Nat} {i c : Nat} {s : Seen} (h : code.getD i 0 = 13) (h2 : 3 ≤ code.size) (h3 : code.getD (i + 2) 0 = 8) (h4 : code.getD (i + 3) 0 = 0) (h5 : code.getD (i + 4) 0 = 0) :
    ∃ s', accepts code i c s = .ok (isDigit c, s') := by
  obtain ⟨n, hn⟩ : ∃ n, code.size = n + 2 := ⟨code.size - 2, by omega⟩
  unfold accepts
  simp only [h, ops_13, hn]
  unfold inSet
  simp only [Nat.add_zero, h3, ops_8, h4, show i + 2 + 1 = i + 3 from rfl]
  cases hd : isDigit c with
  | true => exact ⟨_, by simp [category, hd, Except.map]; rfl⟩
  | false =>
    refine ⟨((s.add 8).add (55 + 0)).add 0, ?_⟩
    unfold inSet
    simp [category, hd, Except.map, h5, ops_0, show i + 2 + 2 = i + 4 from rfl, Bind.bind, Except.bind]
theorem accepts_lit {code : Array Nat} {i c : Nat} {s : Seen} (h : code.getD i 0 = 16) : accepts code i c s = .ok (c == code.getD (i + 1) 0, s) := by
  unfold accepts
  simp only [h, ops_16]
theorem swap_attempt (m : M) (t : Array Nat) (s : Seen) (f : Sre.Frame) (x y : Nat) (o : Bool) : (swap m t s).attempt f x y o = swap (m.attempt f x y o) t s := by
  unfold M.attempt
  show (if m.weight + 1 + f.kept.marks.size > 16777216 then _ else _) = _
  split <;> rfl
theorem swap_setLoop (m : M) (t : Array Nat) (s : Seen) (i : Nat) (f : Loop → Loop) : (swap m t s).setLoop i f = swap (m.setLoop i f) t s := rfl
theorem swap_afterLoop (m : M) (t : Array Nat) (s : Seen) (w : Wait) (i : Nat) (c : Int) (f : Option Nat → Bool) : (swap m t s).afterLoop w i c f = swap (m.afterLoop w i c f) t s := by
  unfold M.afterLoop
  exact swap_attempt { m with inner := (m.loopAt i).outer } t s _ _ _ _
theorem swap_round (m : M) (t : Array Nat) (s : Seen) (w : Wait) (i : Nat) (c : Int) (g : Bool) (k : Sre.Kept) : (swap m t s).round w i c g k = swap (m.round w i c g k) t s := by
  unfold M.round
  exact swap_attempt (m.setLoop i fun l => { l with count := c, began := if g then some m.pos else l.began }) t s _ _ _ _
theorem swap_until (m : M) (t : Array Nat) (s : Seen) (g : Bool) : (swap m t s).until_ g = swap (m.until_ g) t s := by
  unfold M.until_
  show (match m.inner with | none => _ | some i => _) = _
  cases m.inner with
  | none => rfl
  | some i =>
    dsimp only
    show (if (m.loopAt i).count + 1 < ((m.code.getD ((m.loopAt i).pc + 2) 0 : Nat) : Int) then _ else _) = _
    split
    · exact swap_round ..
    · split
      · exact swap_afterLoop ..
      · show (if (((decide ((m.loopAt i).count + 1 < ((m.code.getD ((m.loopAt i).pc + 3) 0 : Nat) : Int)) || m.code.getD ((m.loopAt i).pc + 3) 0 == maxRepeat) && (m.loopAt i).began != some m.pos) = true) then _ else _) = _
        split
        · exact swap_round ..
        · exact swap_afterLoop ..
theorem swap_putBack (m : M) (t : Array Nat) (s : Seen) (k : Sre.Kept) : (swap m t s).putBack k = swap (m.putBack k) t s := rfl
theorem sim_item {m : M} {t : Array Nat} {s0 s s1 s2 : Seen} {b b' : Bool} {why why' : String → M} (hl : m.lim = m.text.size)
    (hq : (decide (m.pos < t.size) && b') = (decide (m.pos < m.text.size) && b)) :
    ∃ s', (if m.pos ≥ t.size then (swap m t s).say false else match (Except.ok (b', s2) : Except String (Bool × Seen)) with | .error w => why w | .ok (false, seen) => (swap m t seen).say false | .ok (true, seen) => { swap m t seen with pc := m.pc + itemWidth m.code m.pc, pos := m.pos + 1 }) =
      swap (if m.pos ≥ m.lim then M.say { m with seen := s0 } false else match (Except.ok (b, s1) : Except String (Bool × Seen)) with | .error w => why' w | .ok (false, seen) => M.say { m with seen := seen } false | .ok (true, seen) => { m with seen := seen, pc := m.pc + itemWidth m.code m.pc, pos := m.pos + 1 }) t s' := by
  by_cases g1 : m.pos ≥ t.size
  · by_cases g2 : m.pos ≥ m.lim
    · rw [if_pos g1, if_pos g2]; exact ⟨_, rfl⟩
    · rw [if_pos g1, if_neg g2]
      have e1 : decide (m.pos < t.size) = false := by simp; omega
      have e2 : decide (m.pos < m.text.size) = true := by simp; omega
      rw [e1, e2] at hq
      cases b with
      | false => exact ⟨_, rfl⟩
      | true => simp at hq
  · have e1 : decide (m.pos < t.size) = true := by simp; omega
    by_cases g2 : m.pos ≥ m.lim
    · rw [if_neg g1, if_pos g2]
      have e2 : decide (m.pos < m.text.size) = false := by simp; omega
      rw [e1, e2] at hq
      cases b' with
      | false => exact ⟨_, rfl⟩
      | true => simp at hq
    · rw [if_neg g1, if_neg g2]
      have e2 : decide (m.pos < m.text.size) = true := by simp; omega
      rw [e1, e2] at hq
      simp only [Bool.true_and] at hq
      subst hq
      cases b' with
      | false => exact ⟨_, rfl⟩
      | true => exact ⟨_, rfl⟩
theorem exec_sim {m : M} {t : Array Nat} {s : Seen} (hp : plainStep m = true) (ho : m.outcome = none) (ha : m.answer = none) (hl : m.lim = m.text.size)
    (hq : ∀ q ∈ query m, ask t q.1 q.2 = ask m.text q.1 q.2) : ∃ s', (swap m t s).exec = swap m.exec t s' := by
  unfold plainStep at hp
  unfold query at hq
  simp only [ho, ha, Option.isSome_none, Bool.false_or, Bool.and_eq_true, decide_eq_true_eq, Bool.false_eq_true, if_false] at hp hq
  obtain ⟨hpc, hp⟩ := hp
  have hw : m.word 0 = m.code.getD m.pc 0 := rfl
  have hw' : (swap m t s).word 0 = m.code.getD m.pc 0 := rfl
  generalize hc : m.code.getD m.pc 0 = c at hp hq hw hw'
  have h6 : c = 13 ∨ c = 16 ∨ c = 17 ∨ c = 18 ∨ c = 23 ∨ c = 1 := by
    revert hp
    split <;> simp
  rcases h6 with rfl | rfl | rfl | rfl | rfl | rfl
  · -- a figure
    simp only [Bool.and_eq_true, decide_eq_true_eq, beq_iff_eq] at hp
    obtain ⟨⟨⟨g1, g2⟩, g3⟩, g4⟩ := hp
    have hq' := hq (0, m.pos) rfl
    unfold ask at hq'
    simp only [if_true] at hq'
    obtain ⟨s1, e1⟩ := accepts_in (c := m.text.getD m.pos 0) (s := m.seen.add 13) hc g1 g2 g3 g4
    obtain ⟨s2, e2⟩ := accepts_in (c := t.getD m.pos 0) (s := s.add 13) hc g1 g2 g3 g4
    unfold M.exec
    simp only [hw, hw', ops_13]
    show ∃ s', (if m.pos ≥ t.size then (swap m t (s.add 13)).say false else
        match accepts m.code m.pc (t.getD m.pos 0) (s.add 13) with
        | .error why => (swap m t (s.add 13)).stick why
        | .ok (false, seen) => (swap m t seen).say false
        | .ok (true, seen) => { swap m t seen with pc := m.pc + itemWidth m.code m.pc, pos := m.pos + 1 }) =
      swap (if m.pos ≥ m.lim then M.say { m with seen := m.seen.add 13 } false else
        match accepts m.code m.pc (m.text.getD m.pos 0) (m.seen.add 13) with
        | .error why => M.stick { m with seen := m.seen.add 13 } why
        | .ok (false, seen) => M.say { m with seen := seen } false
        | .ok (true, seen) => { m with seen := seen, pc := m.pc + itemWidth m.code m.pc, pos := m.pos + 1 }) t s'
    rw [e1, e2]
    exact sim_item hl hq'
  · -- a sign
    simp only [bne_iff_ne, ne_eq] at hp
    have hq' := hq (m.code.getD (m.pc + 1) 0, m.pos) rfl
    unfold ask at hq'
    simp only [hp, if_false] at hq'
    have e1 := accepts_lit (c := m.text.getD m.pos 0) (s := m.seen.add 16) hc
    have e2 := accepts_lit (c := t.getD m.pos 0) (s := s.add 16) hc
    unfold M.exec
    simp only [hw, hw', ops_16]
    show ∃ s', (if m.pos ≥ t.size then (swap m t (s.add 16)).say false else
        match accepts m.code m.pc (t.getD m.pos 0) (s.add 16) with
        | .error why => (swap m t (s.add 16)).stick why
        | .ok (false, seen) => (swap m t seen).say false
        | .ok (true, seen) => { swap m t seen with pc := m.pc + itemWidth m.code m.pc, pos := m.pos + 1 }) =
      swap (if m.pos ≥ m.lim then M.say { m with seen := m.seen.add 16 } false else
        match accepts m.code m.pc (m.text.getD m.pos 0) (m.seen.add 16) with
        | .error why => M.stick { m with seen := m.seen.add 16 } why
        | .ok (false, seen) => M.say { m with seen := seen } false
        | .ok (true, seen) => { m with seen := seen, pc := m.pc + itemWidth m.code m.pc, pos := m.pos + 1 }) t s'
    rw [e1, e2]
    exact sim_item hl hq'
  · unfold M.exec
    simp only [hw, hw', ops_17]
    exact ⟨_, rfl⟩
  · unfold M.exec
    simp only [hw, hw', ops_18]
    exact ⟨_, swap_until { m with seen := m.seen.add 18, pc := m.pc + 1 } t (s.add 18) true⟩
  · unfold M.exec
    simp only [hw, hw', ops_23]
    exact ⟨_, swap_attempt { m with seen := m.seen.add 23, loops := m.loops.push { pc := m.pc, outer := m.inner }, inner := some m.loops.size } t (s.add 23) _ _ _ _⟩
  · simp only [Bool.and_eq_true, Bool.not_eq_true'] at hp
    unfold M.exec
    simp only [hw, hw', ops_1]
    have e : ∀ x : M, x.wholeText = false → x.mustAdvance = false → (x.outermost && ((x.wholeText && x.pos != x.lim) || (x.mustAdvance && x.pos == x.start))) = false := by
      intro x h1 h2
      rw [h1, h2]
      simp
    rw [if_neg (by intro q; rw [e (swap m t s) hp.1 hp.2] at q; cases q), if_neg (by intro q; rw [e m hp.1 hp.2] at q; cases q)]
    exact ⟨_, rfl⟩
theorem resume_sim {m : M} {t : Array Nat} {s : Seen} (f : Sre.Frame) (yes : Bool) (hw : (match f.wait with | .closeLoop => true | .maxMore => true | .maxTail => true | _ => false) = true) :
    (swap m t s).resume f yes = swap (m.resume f yes) t s := by
  unfold M.resume
  cases hf : f.wait <;> simp only [hf] at hw ⊢ <;> first | cases hw | skip
  · rfl
  · cases yes with
    | true => rfl
    | false =>
      simp only [Bool.false_eq_true, if_false]
      exact swap_afterLoop ((m.setLoop f.loop fun l => { l with began := f.began }).putBack f.kept |>.setLoop f.loop fun l => { l with count := f.count - 1 }) t s _ _ _ _
  · rfl
theorem step_sim {m : M} {t : Array Nat} {s : Seen} (hp : plainStep m = true) (hl : m.lim = m.text.size) (hq : ∀ q ∈ query m, ask t q.1 q.2 = ask m.text q.1 q.2) :
    ∃ s', (swap m t s).step = swap m.step t s' := by
  cases ho : m.outcome with
  | some o =>
    refine ⟨s, ?_⟩
    unfold M.step
    rw [if_pos (by show m.outcome.isSome = true; rw [ho]; rfl), if_pos (by rw [ho]; rfl)]
  | none =>
    cases ha : m.answer with
    | none =>
      have hpc : m.pc < m.code.size := by
        unfold plainStep at hp
        simp only [ho, ha, Option.isSome_none, Bool.false_or, Bool.and_eq_true, decide_eq_true_eq] at hp
        exact hp.1
      obtain ⟨s', e⟩ := exec_sim (s := s) hp ho ha hl hq
      refine ⟨s', ?_⟩
      have e1 : (swap m t s).step = (swap m t s).exec := by
        unfold M.step
        rw [if_neg (by show ¬ (m.outcome.isSome = true); rw [ho]; simp)]
        show (match m.answer, m.frames with | some yes, [] => _ | some yes, f :: rest => _ | none, _ => _) = _
        rw [ha]
        exact if_pos hpc
      have e2 : m.step = m.exec := by
        unfold M.step
        rw [if_neg (by rw [ho]; simp), ha]
        exact if_pos hpc
      rw [e1, e2, e]
    | some yes =>
      refine ⟨s, ?_⟩
      unfold plainStep at hp
      simp only [ho, ha, Option.isSome_none, Bool.false_or] at hp
      cases hf : m.frames with
      | nil =>
        have e1 : (swap m t s).step = { swap m t s with outcome := some (if yes then .matched else .failed) } := by
          unfold M.step
          rw [if_neg (by show ¬ (m.outcome.isSome = true); rw [ho]; simp)]
          show (match m.answer, m.frames with | some yes, [] => _ | some yes, f :: rest => _ | none, _ => _) = _
          rw [ha, hf]
        have e2 : m.step = { m with outcome := some (if yes then .matched else .failed) } := by
          unfold M.step
          rw [if_neg (by rw [ho]; simp), ha, hf]
        rw [e1, e2]
        rfl
      | cons f rest =>
        rw [hf] at hp
        have e1 : (swap m t s).step = (swap { m with answer := none, frames := rest, weight := m.weight - (1 + f.kept.marks.size), pc := f.pc, pos := f.pos, outermost := f.outermost } t s).resume f yes := by
          unfold M.step
          rw [if_neg (by show ¬ (m.outcome.isSome = true); rw [ho]; simp)]
          show (match m.answer, m.frames with | some yes, [] => _ | some yes, f :: rest => _ | none, _ => _) = _
          rw [ha, hf]
          rfl
        have e2 : m.step = M.resume { m with answer := none, frames := rest, weight := m.weight - (1 + f.kept.marks.size), pc := f.pc, pos := f.pos, outermost := f.outermost } f yes := by
          unfold M.step
          rw [if_neg (by rw [ho]; simp), ha, hf]
        rw [e1, e2]
        exact resume_sim f yes hp
/-- at most n steps of a known kind, whose questions all have the answers listed, to an end that is as e says -/
noncomputable def walkE (facts : List (Nat × Nat × Bool)) (e : M → Bool) : Nat → M → Bool
  | 0, _ => false
  | n + 1, m => if m.outcome.isSome then e m else plainStep m && m.lim == m.text.size && (match query m with | some q => facts.contains (q.1, q.2, ask m.text q.1 q.2) | none => true) && walkE facts e n m.step
theorem run_sim {t : Array Nat} {facts : List (Nat × Nat × Bool)} {e : M → Bool} (hf : ∀ q ∈ facts, ask t q.1 q.2.1 = q.2.2) :
    ∀ (n : Nat) (m : M) (s : Seen), walkE facts e n m = true → ∃ m₁ s', (swap m t s).runFor n = swap m₁ t s' ∧ e m₁ = true
  | 0, _, _, hw => by cases hw
  | n + 1, m, s, hw => by
    unfold walkE at hw
    unfold M.runFor
    cases ho : m.outcome with
    | some o =>
      rw [ho] at hw
      refine ⟨m, s, ?_, hw⟩
      rw [if_pos (by show m.outcome.isSome = true; rw [ho]; rfl)]
    | none =>
      simp only [ho, Option.isSome_none, Bool.false_eq_true, if_false, Bool.and_eq_true, beq_iff_eq] at hw
      obtain ⟨⟨⟨h1, h2⟩, h3⟩, h4⟩ := hw
      rw [if_neg (by show ¬ (m.outcome.isSome = true); rw [ho]; simp)]
      obtain ⟨s1, e1⟩ := step_sim (t := t) (s := s) h1 h2 (fun q hq => by
        have hq' : query m = some q := hq
        rw [hq'] at h3
        exact hf _ (List.contains_iff_mem.mp h3))
      rw [e1]
      exact run_sim hf n m.step s1 h4
end Mine
end
section
open PySem
set_option maxRecDepth 100000
set_option maxHeartbeats 1000000
namespace Mine
open Sre
noncomputable def rx0 (t : Array Nat) : Sre.M := Sre.forMatch rxCode t 6 0 t.size false false
noncomputable def leadAt (k : Nat) : Nat := [0, 45, 45, 84, 58, 58, 0].getD k 0
/-- does the k-th part stand in its place -/
noncomputable def fitAt (t : Array Nat) (k : Nat) : Bool :=
  if k = 0 then ask t 0 0 && ask t 0 1 && ask t 0 2 && ask t 0 3 else ask t (leadAt k) (3 * k + 1) && ask t 0 (3 * k + 2) && ask t 0 (3 * k + 3)
noncomputable def partsN (t : Array Nat) : Nat :=
  if fitAt t 0 = false then 0 else if fitAt t 1 = false then 1 else if fitAt t 2 = false then 2 else if fitAt t 3 = false then 3 else if fitAt t 4 = false then 4 else if fitAt t 5 = false then 5 else 6
noncomputable def fits (t : Array Nat) : Bool := decide (1 ≤ partsN t) && ask t 90 (3 * partsN t + 1)
noncomputable def preT (n : Nat) : List Nat := (List.range n).flatMap fun k => if k = 0 then [48, 48, 48, 48] else [leadAt k, 48, 48]
noncomputable def preF (n : Nat) : List (Nat × Nat × Bool) := (List.range n).flatMap fun k =>
  if k = 0 then [(0, 0, true), (0, 1, true), (0, 2, true), (0, 3, true)] else [(leadAt k, 3 * k + 1, true), (90, 3 * k + 1, false), (0, 3 * k + 2, true), (0, 3 * k + 3, true)]
noncomputable def padT (l : List Nat) : Array Nat := (l ++ [1, 1, 1, 1, 1]).toArray
noncomputable def rxMarks (n : Nat) : List (Option Nat) := (List.range 12).map fun i => if i < 2 * n then some (if i = 0 then 0 else if i = 1 then 4 else if i % 2 = 0 then 3 * (i / 2) + 2 else 3 * (i / 2) + 4) else none
noncomputable def endOk (n : Nat) (m : M) : Bool := (match m.outcome with | some .matched => true | _ => false) && m.start == 0 && m.handed == 3 * n + 2 && m.lastmark == 2 * n - 1 && m.lastindex == (n : Int) && m.marks.toList == rxMarks n
noncomputable def endBad (m : M) : Bool := match m.outcome with | some .failed => true | _ => false
noncomputable def okF (n : Nat) : List (Nat × Nat × Bool) := preF n ++ [(90, 3 * n + 1, true)] ++ (if n < 6 then [(leadAt n, 3 * n + 1, false)] else [])
noncomputable def leaf (r : Array Nat) (f : List (Nat × Nat × Bool)) : Bool := walkE f endBad 100 (rx0 r)
theorem leaves_ok : ([1, 2, 3, 4, 5, 6].all fun n => walkE (okF n) (endOk n) 100 (rx0 (padT (preT n ++ [90])))) = true := by decide +kernel
theorem leaves_0 : ([0, 1, 2, 3].all fun i => leaf (padT (List.replicate i 48 ++ [1])) ((preF 1).take i ++ [(0, i, false)])) = true := by decide +kernel
theorem leaves_n : ([1, 2, 3, 4, 5].all fun n => leaf (padT (preT n ++ [1])) (preF n ++ [(leadAt n, 3 * n + 1, false), (90, 3 * n + 1, false)])) = true := by decide +kernel
theorem leaves_a : ([1, 2, 3, 4, 5].all fun n => leaf (padT (preT n ++ [leadAt n, 1])) (preF n ++ [(leadAt n, 3 * n + 1, true), (90, 3 * n + 1, false), (0, 3 * n + 2, false)])) = true := by decide +kernel
theorem leaves_b : ([1, 2, 3, 4, 5].all fun n => leaf (padT (preT n ++ [leadAt n, 48, 1])) (preF n ++ [(leadAt n, 3 * n + 1, true), (90, 3 * n + 1, false), (0, 3 * n + 2, true), (0, 3 * n + 3, false)])) = true := by decide +kernel
theorem leaves_6 : leaf (padT (preT 6 ++ [1])) (preF 6 ++ [(90, 19, false)]) = true := by decide +kernel
theorem rx0_swap {t r : Array Nat} (h : 5 ≤ t.size) (h' : 5 ≤ r.size) : rx0 t = swap (rx0 r) t (rx0 r).seen := by
  have e : ∀ x : Array Nat, 5 ≤ x.size → rx0 x = { code := rxCode, text := x, lim := x.size, start := 0, pc := 8, pos := 0, handed := 0, marks := Array.replicate 12 none, mustAdvance := false, seen := ({} : Seen).add 14, wholeText := false } := by
    intro x hx
    unfold rx0 forMatch
    have h1 : header rxCode = (5, 8) := by decide +kernel
    dsimp only
    rw [if_neg]
    · kernel_rfl
    · rw [h1]
      simp
      omega
  rw [e t h, e r h']
  rfl
theorem end_of {t r : Array Nat} {facts : List (Nat × Nat × Bool)} {e : M → Bool} (h : 5 ≤ t.size) (h' : 5 ≤ r.size) (hw : walkE facts e 100 (rx0 r) = true) (hf : ∀ q ∈ facts, ask t q.1 q.2.1 = q.2.2) :
    ∃ m s, (rx0 t).runFor 100 = swap m t s ∧ e m = true := by
  rw [rx0_swap h h']
  exact run_sim hf 100 _ _ hw
theorem short_bad {t : Array Nat} (h : t.size < 5) : endBad ((rx0 t).runFor 100) = true := by
  have h1 : header rxCode = (5, 8) := by decide +kernel
  have e : rx0 t = M.say { code := rxCode, text := t, lim := t.size, start := 0, pc := 8, pos := 0, handed := 0, marks := Array.replicate 12 none, mustAdvance := false, seen := ({} : Seen).add 14, wholeText := false } false := by
    unfold rx0 forMatch
    dsimp only
    rw [if_pos]
    · kernel_rfl
    · rw [h1]
      simp
      omega
  rw [e]
  rfl
/-- the facts hold of the text -/
noncomputable def Holds (t : Array Nat) (f : List (Nat × Nat × Bool)) : Prop := ∀ q ∈ f, ask t q.1 q.2.1 = q.2.2
theorem Holds.nil {t : Array Nat} : Holds t [] := fun _ h => by cases h
theorem Holds.cons {t : Array Nat} {w p : Nat} {b : Bool} {f : List (Nat × Nat × Bool)} (h : ask t w p = b) (hf : Holds t f) : Holds t ((w, p, b) :: f) := fun q hq => by
  rcases List.mem_cons.mp hq with rfl | hq
  · exact h
  · exact hf q hq
theorem Holds.append {t : Array Nat} {f g : List (Nat × Nat × Bool)} (hf : Holds t f) (hg : Holds t g) : Holds t (f ++ g) := fun q hq => (List.mem_append.mp hq).elim (hf q) (hg q)
theorem ask_other {t : Array Nat} {v w p : Nat} (hv : v ≠ 0) (hw : w ≠ 0) (hne : v ≠ w) (h : ask t v p = true) : ask t w p = false := by
  unfold ask at *
  simp only [hv, hw, if_false, Bool.and_eq_true, decide_eq_true_eq, beq_iff_eq] at *
  rw [h.2]
  simp [hne]
theorem leadAt_ne (k : Nat) (h : 1 ≤ k) (h' : k ≤ 5) : leadAt k ≠ 0 ∧ leadAt k ≠ 90 := by
  have : k = 1 ∨ k = 2 ∨ k = 3 ∨ k = 4 ∨ k = 5 := by omega
  rcases this with rfl | rfl | rfl | rfl | rfl <;> decide
theorem pre_holds {t : Array Nat} : ∀ n, n ≤ 6 → (∀ k, k < n → fitAt t k = true) → Holds t (preF n)
  | 0, _, _ => Holds.nil
  | n + 1, hn, h => by
    have hp := pre_holds n (by omega) (fun k hk => h k (by omega))
    have hk := h n (by omega)
    unfold preF
    rw [List.range_succ, List.flatMap_append]
    refine Holds.append hp ?_
    simp only [List.flatMap_cons, List.flatMap_nil, List.append_nil]
    unfold fitAt at hk
    by_cases h0 : n = 0
    · rw [if_pos h0] at hk ⊢
      simp only [Bool.and_eq_true] at hk
      exact .cons hk.1.1.1 (.cons hk.1.1.2 (.cons hk.1.2 (.cons hk.2 .nil)))
    · rw [if_neg h0] at hk ⊢
      simp only [Bool.and_eq_true] at hk
      have hl := leadAt_ne n (by omega) (by omega)
      exact .cons hk.1.1 (.cons (ask_other hl.1 (by decide) hl.2 hk.1.1) (.cons hk.1.2 (.cons hk.2 .nil)))
theorem partsN_spec (t : Array Nat) : partsN t ≤ 6 ∧ (∀ k, k < partsN t → fitAt t k = true) ∧ (partsN t < 6 → fitAt t (partsN t) = false) := by
  unfold partsN
  cases h0 : fitAt t 0 with
  | false => refine ⟨by simp, fun k hk => ?_, fun _ => h0⟩; simp at hk
  | true =>
  cases h1 : fitAt t 1 with
  | false => refine ⟨by simp, fun k hk => ?_, fun _ => h1⟩; simp at hk; subst hk; exact h0
  | true =>
  cases h2 : fitAt t 2 with
  | false =>
    refine ⟨by simp, fun k hk => ?_, fun _ => h2⟩
    simp at hk
    have : k = 0 ∨ k = 1 := by omega
    rcases this with rfl | rfl <;> assumption
  | true =>
  cases h3 : fitAt t 3 with
  | false =>
    refine ⟨by simp, fun k hk => ?_, fun _ => h3⟩
    simp at hk
    have : k = 0 ∨ k = 1 ∨ k = 2 := by omega
    rcases this with rfl | rfl | rfl <;> assumption
  | true =>
  cases h4 : fitAt t 4 with
  | false =>
    refine ⟨by simp, fun k hk => ?_, fun _ => h4⟩
    simp at hk
    have : k = 0 ∨ k = 1 ∨ k = 2 ∨ k = 3 := by omega
    rcases this with rfl | rfl | rfl | rfl <;> assumption
  | true =>
  cases h5 : fitAt t 5 with
  | false =>
    refine ⟨by simp, fun k hk => ?_, fun _ => h5⟩
    simp at hk
    have : k = 0 ∨ k = 1 ∨ k = 2 ∨ k = 3 ∨ k = 4 := by omega
    rcases this with rfl | rfl | rfl | rfl | rfl <;> assumption
  | true =>
    refine ⟨by simp, fun k hk => ?_, fun h => absurd h (by simp)⟩
    simp at hk
    have : k = 0 ∨ k = 1 ∨ k = 2 ∨ k = 3 ∨ k = 4 ∨ k = 5 := by omega
    rcases this with rfl | rfl | rfl | rfl | rfl | rfl <;> assumption
theorem all_in {l : List Nat} {f : Nat → Bool} (h : l.all f = true) {n : Nat} (hn : n ∈ l) : f n = true := List.all_eq_true.mp h n hn
theorem padT_size (l : List Nat) : 5 ≤ (padT l).size := by simp [padT]
theorem bad_of {t r : Array Nat} {f : List (Nat × Nat × Bool)} (h : 5 ≤ t.size) (h' : 5 ≤ r.size) (hw : leaf r f = true) (hf : Holds t f) : endBad ((rx0 t).runFor 100) = true := by
  obtain ⟨m, s, e, he⟩ := end_of h h' hw hf
  rw [e]
  exact he
theorem rx_ok {t : Array Nat} (hf : fits t = true) : ∃ m s, (rx0 t).runFor 100 = swap m t s ∧ endOk (partsN t) m = true := by
  unfold fits at hf
  simp only [Bool.and_eq_true, decide_eq_true_eq] at hf
  obtain ⟨h1, hz⟩ := hf
  obtain ⟨h6, hall, hno⟩ := partsN_spec t
  generalize partsN t = n at *
  have hs : 5 ≤ t.size := by
    unfold ask at hz
    simp only [Bool.and_eq_true, decide_eq_true_eq] at hz
    omega
  have hm : n ∈ [1, 2, 3, 4, 5, 6] := by
    have : n = 1 ∨ n = 2 ∨ n = 3 ∨ n = 4 ∨ n = 5 ∨ n = 6 := by omega
    rcases this with rfl | rfl | rfl | rfl | rfl | rfl <;> decide
  refine end_of hs (padT_size _) (all_in leaves_ok hm) ?_
  unfold okF
  refine Holds.append (Holds.append (pre_holds n h6 hall) (.cons hz .nil)) ?_
  split
  · have hl := leadAt_ne n h1 (by omega)
    exact .cons (ask_other (by decide) hl.1 (Ne.symm hl.2) hz) .nil
  · exact .nil
theorem rx_bad {t : Array Nat} (hf : fits t = false) : endBad ((rx0 t).runFor 100) = true := by
  by_cases hs : t.size < 5
  · exact short_bad hs
  have hs' : 5 ≤ t.size := by omega
  unfold fits at hf
  obtain ⟨h6, hall, hno⟩ := partsN_spec t
  generalize partsN t = n at *
  by_cases h0 : n = 0
  · subst h0
    have h := hno (by decide)
    unfold fitAt at h
    rw [if_pos rfl] at h
    cases g0 : ask t 0 0 with
    | false => exact bad_of hs' (padT_size _) (all_in leaves_0 (n := 0) (by decide)) (.cons g0 .nil)
    | true =>
    cases g1 : ask t 0 1 with
    | false => exact bad_of hs' (padT_size _) (all_in leaves_0 (n := 1) (by decide)) (.cons g0 (.cons g1 .nil))
    | true =>
    cases g2 : ask t 0 2 with
    | false => exact bad_of hs' (padT_size _) (all_in leaves_0 (n := 2) (by decide)) (.cons g0 (.cons g1 (.cons g2 .nil)))
    | true =>
    cases g3 : ask t 0 3 with
    | false => exact bad_of hs' (padT_size _) (all_in leaves_0 (n := 3) (by decide)) (.cons g0 (.cons g1 (.cons g2 (.cons g3 .nil))))
    | true => rw [g0, g1, g2, g3] at h; cases h
  have h1 : 1 ≤ n := by omega
  have hz : ask t 90 (3 * n + 1) = false := by simpa [h1] using hf
  have hpre := pre_holds n h6 hall
  by_cases h5 : n = 6
  · subst h5
    exact bad_of hs' (padT_size _) leaves_6 (Holds.append hpre (.cons hz .nil))
  have hm : n ∈ [1, 2, 3, 4, 5] := by
    have : n = 1 ∨ n = 2 ∨ n = 3 ∨ n = 4 ∨ n = 5 := by omega
    rcases this with rfl | rfl | rfl | rfl | rfl <;> decide
  have h := hno (by omega)
  unfold fitAt at h
  rw [if_neg h0] at h
  cases g0 : ask t (leadAt n) (3 * n + 1) with
  | false => exact bad_of hs' (padT_size _) (all_in leaves_n hm) (Holds.append hpre (.cons g0 (.cons hz .nil)))
  | true =>
  cases g1 : ask t 0 (3 * n + 2) with
  | false => exact bad_of hs' (padT_size _) (all_in leaves_a hm) (Holds.append hpre (.cons g0 (.cons hz (.cons g1 .nil))))
  | true =>
  cases g2 : ask t 0 (3 * n + 3) with
  | false => exact bad_of hs' (padT_size _) (all_in leaves_b hm) (Holds.append hpre (.cons g0 (.cons hz (.cons g1 (.cons g2 .nil)))))
  | true => rw [g0, g1, g2] at h; cases h
end Mine
end
section
open PySem PySem.W PySem.Calls PyProof.Rows
set_option maxRecDepth 100000
set_option maxHeartbeats 1000000
namespace Mine
open PySem.Builtin.Re
theorem runFor_some {m : Sre.M} (h : m.outcome.isSome = true) : ∀ n, m.runFor n = m
  | 0 => rfl
  | n + 1 => by unfold Sre.M.runFor; rw [if_pos h]
theorem runFor_add {m : Sre.M} : ∀ a b, m.runFor (a + b) = (m.runFor a).runFor b := by
  intro a
  induction a generalizing m with
  | zero => intro b; rw [Nat.zero_add]; rfl
  | succ a ih =>
    intro b
    cases h : m.outcome.isSome with
    | true => rw [runFor_some h, runFor_some h, runFor_some h]
    | false =>
      have e : a + 1 + b = (a + b) + 1 := by omega
      rw [e]
      show (if m.outcome.isSome then m else m.step.runFor (a + b)) = (if m.outcome.isSome then m else m.step.runFor a).runFor b
      rw [h]
      exact ih b
section
variable {prog : Program} {w : World} {A : Around} {E : Value → Shared → Prop} {s : Shared} {a b : Addr}
theorem wp_drive {Q : Sre.M → Shared → Prop} : ∀ (k T : Nat) (m : Sre.M), k < T → (m.runFor (4 * k)).outcome.isSome = true → Q (m.runFor (4 * k)) s → wpAny (model prog w) A (reDrive T m) Q E s
  | k, 0, _, h, _, _ => absurd h (by omega)
  | 0, T + 1, m, _, ho, hq => by
    have ho' : m.outcome.isSome = true := ho
    have hq' : Q m s := hq
    unfold reDrive
    have e : m.runFor reTurnSteps = m := runFor_some ho' _
    dsimp only
    rw [e, ho', if_pos rfl]
    exact wpAny_pure hq'
  | k + 1, T + 1, m, h, ho, hq => by
    have e : m.runFor (4 * (k + 1)) = (m.runFor 4).runFor (4 * k) := by
      rw [show 4 * (k + 1) = 4 + 4 * k by omega]; exact runFor_add 4 (4 * k)
    rw [e] at ho hq
    unfold reDrive
    show wpAny _ _ (if (m.runFor 4).outcome.isSome then _ else _) _ _ _
    cases h' : (m.runFor 4).outcome.isSome with
    | true =>
      rw [runFor_some h'] at hq
      exact wpAny_pure hq
    | false => exact wpAny_bind (wpAny_rule (wp_drive k T _ (by omega) ho hq))
theorem wp_says {b : Nat → PUnit → Sem (ForInStep PUnit)} {Q : PUnit → Shared → Prop} (hb : ∀ (i : Nat) (Q' : ForInStep PUnit → Shared → Prop), Q' (ForInStep.yield PUnit.unit) s → wpAny (model prog w) A (b i PUnit.unit) Q' E s) :
    ∀ (l : List Nat), Q PUnit.unit s → wpAny (model prog w) A (forIn l PUnit.unit b) Q E s
  | [], hq => wpAny_pure hq
  | i :: l, hq => by
    rw [List.forIn_cons]
    exact wpAny_bind (hb i _ (wp_says hb l hq))
theorem wp_runToEnd_ok {m m' : Sre.M} {k : Nat} {Q : Option Sre.M → Shared → Prop} (hk : k < 2 ^ 64) (e : m.runFor (4 * k) = m') (ho : m'.outcome = some .matched) (hq : Q (some m') s) :
    wpAny (model prog w) A (reRunToEnd m) Q E s := by
  subst e
  unfold reRunToEnd
  refine wpAny_bind (wp_drive k _ m hk (by rw [ho]; rfl) ?_)
  refine wpAny_bind (wp_says (fun i Q' h => ?_) _ ?_)
  · split
    · exact wpAny_bind (wpAny_rule (wpAny_pure h))
    · exact wpAny_pure h
  rw [ho]
  exact wpAny_pure hq
theorem wp_runToEnd_no {m m' : Sre.M} {k : Nat} {Q : Option Sre.M → Shared → Prop} (hk : k < 2 ^ 64) (e : m.runFor (4 * k) = m') (ho : m'.outcome = some .failed) (hq : Q none s) :
    wpAny (model prog w) A (reRunToEnd m) Q E s := by
  subst e
  unfold reRunToEnd
  refine wpAny_bind (wp_drive k _ m hk (by rw [ho]; rfl) ?_)
  refine wpAny_bind (wp_says (fun i Q' h => ?_) _ ?_)
  · split
    · exact wpAny_bind (wpAny_rule (wpAny_pure h))
    · exact wpAny_pure h
  rw [ho]
  exact wpAny_pure hq
/-- the pattern object and its words -/
structure Pat (h : Heap) (p : Addr) (vs : Array Value) (c : Addr) (cs : Array Value) (cn : Option Nat) : Prop where
  at_ : ∃ o, h.get? p = some o ∧ o.cls = .type "re.Pattern" ∧ o.data = .fields vs ∧ o.dict = none
  f2 : vs.getD 2 .none = .int 6 0
  f5 : vs.getD 5 .none = .ref c
  f6 : vs.getD 6 .none = .int 0 0
  code : ∃ o d, h.get? c = some o ∧ o.data = .seq cs d
  words : (cs.map reRawOf).map (·.toNat) = rxCode
theorem wp_seq {o : Obj} {xs : Array Value} {n : Nat} {Q : Option (Array Value) → Shared → Prop} (ho : s.heap.get? a = some o) (hd : o.data = .seq xs n) (h : Q (some xs) s) : wpAny (model prog w) A (seqItems? (.ref a)) Q E s := by
  unfold seqItems?
  refine wpAny_bind (wpAny_load ho ?_)
  rw [hd]
  exact wpAny_pure h
theorem wp_target {x : PySem.Str} {t : Tok} {vs cs : Array Value} {c : Addr} {cn : Option Nat} {Q : ReTarget → Shared → Prop} (P : Pat s.heap a vs c cs cn) (hx : x.cps.size ≤ 1000)
    (hq : Q { pattern := .ref a, string := .str x t, code := rxCode, text := x.cps, kind := 0, groups := 6, pos := 0, lim := x.cps.size } s) :
    wpAny (model prog w) A (reTarget "re.Pattern.match" "match" ⟨[.ref a, .str x t], []⟩) Q E s := by
  obtain ⟨⟨o, ho, _, hd, _⟩, f2, f5, f6, ⟨oc, d, hc, hcd⟩, hw⟩ := P
  have hlim : min ((2 ^ 63 - 1 : Int).toNat) x.cps.size = x.cps.size := by
    have : (2 ^ 63 - 1 : Int).toNat = 9223372036854775807 := by decide
    omega
  unfold reTarget
  repeat (any_goals (first | assumption | (with_reducible refine wp_fieldsOf ho hd ?_) | (with_reducible refine wp_seq hc hcd ?_) | (first | with_reducible (first | refine wpAny_pure ?_ | refine wpAny_bind ?_ | refine wpAny_rule ?_ | refine wpAny_holding ?_ | refine wpAny_typeOf (by assumption) ?_ | refine wpAny_of_eq (by assumption) ?_ | refine wpAny_isInstance (by assumption) (by assumption) ?_) | ((with_reducible apply wpAny_ite_false); focus (rfl; done)) | ((with_reducible apply wpAny_ite_true); focus (rfl; done)) | wp_delta)))
  simp only [f6, f5, f2]
  repeat (any_goals (first | assumption | (with_reducible refine wp_fieldsOf ho hd ?_) | (with_reducible refine wp_seq hc hcd ?_) | (first | with_reducible (first | refine wpAny_pure ?_ | refine wpAny_bind ?_ | refine wpAny_rule ?_ | refine wpAny_holding ?_ | refine wpAny_typeOf (by assumption) ?_ | refine wpAny_of_eq (by assumption) ?_ | refine wpAny_isInstance (by assumption) (by assumption) ?_) | ((with_reducible apply wpAny_ite_false); focus (rfl; done)) | ((with_reducible apply wpAny_ite_true); focus (rfl; done)) | wp_delta)))
  dsimp only [Option.getD_some]
  rw [hw, hlim, show min (0 : Int).toNat x.cps.size = 0 from Nat.zero_min _]
  exact hq
theorem wp_match_no {x : PySem.Str} {t : Tok} {vs cs : Array Value} {c : Addr} {cn : Option Nat} {Q : Value → Shared → Prop} (P : Pat s.heap a vs c cs cn) (hx : x.cps.size ≤ 1000)
    (hf : fits x.cps = false) (hq : Q .none s) : wpAny (model prog w) A (call (.builtin "re.Pattern.match") [.ref a, .str x t]) Q E s := by
  have hT : s.TypeIs (.ref a) "re.Pattern" := by
    obtain ⟨⟨o, ho, hc, _⟩, _⟩ := P
    exact ⟨o, ho, hc⟩
  refine wpAny_call (codeAny_call_builtin slot_match.plain entry_match (slot_match.check _ _ _ _ _ _ _ _ hT (args_match_2 _ _) ?_))
  unfold Builtin.«re.Pattern.match»
  refine wpAny_bind (wp_target P hx ?_)
  unfold reAnswer
  have hb := rx_bad hf
  unfold endBad at hb
  refine wpAny_bind (wp_runToEnd_no (k := 25) (by decide) rfl ?_ (wpAny_pure hq))
  show ((rx0 x.cps).runFor 100).outcome = _
  split at hb
  · assumption
  · cases hb
/-- the match's tuple of places -/
noncomputable def spanL (n : Nat) : List Value := (List.range 6).flatMap fun g => if g < n then (if g = 0 then [.int 0 0, .int 4 0] else [.int ((3 * g + 2 : Nat) : Int) 0, .int ((3 * g + 4 : Nat) : Int) 0]) else [.int (-1) 0, .int (-1) 0]
noncomputable def spanObj (n : Nat) : Obj := { cls := .type "tuple", data := .seq (Value.int 0 0 :: .int ((3 * n + 2 : Nat) : Int) 0 :: spanL n).toArray }
noncomputable def matchObj (x : PySem.Str) (t : Tok) (p sp : Addr) (n : Nat) : Obj := { cls := .type "re.Match", data := .fields #[.str x t, .ref p, .int 0 0, .int (x.cps.size : Int) 0, .int (n : Int) 0, .ref sp] }
theorem spans_eq {m : Sre.M} {n : Nat} (hn : n ∈ [1, 2, 3, 4, 5, 6]) (h1 : m.lastmark = 2 * n - 1) (h2 : m.marks.toList = rxMarks n) :
    ((List.range 6).flatMap fun g => match if ((2 * g + 1 : Nat) : Int) ≤ m.lastmark then (m.marks.getD (2 * g) none, m.marks.getD (2 * g + 1) none) else (none, none) with
      | (some b, some e) => [rawInt b, rawInt e]
      | _ => [rawInt (-1), rawInt (-1)]) = spanL n ∧
    ((List.range 6).any (fun g => match m.marks.getD (2 * g) none, m.marks.getD (2 * g + 1) none with | some b, some e => decide (((2 * g + 1 : Nat) : Int) ≤ m.lastmark) && decide (e < b) | _, _ => false)) = false := by
  have e : m.marks = (rxMarks n).toArray := by rw [← h2]
  rw [h1, e]
  simp only [List.mem_cons, List.not_mem_nil, or_false] at hn
  rcases hn with rfl | rfl | rfl | rfl | rfl | rfl <;> exact ⟨by rfl, by rfl⟩
theorem wp_match_ok {x : PySem.Str} {t : Tok} {vs cs : Array Value} {c : Addr} {cn : Option Nat} {Q : Value → Shared → Prop} (P : Pat s.heap a vs c cs cn) (hx : x.cps.size ≤ 1000)
    (hf : fits x.cps = true) (hq : Q (.ref (s.heap.objs.size + 1)) { s with heap := (s.heap.push (spanObj (partsN x.cps))).push (matchObj x t a s.heap.objs.size (partsN x.cps)) }) :
    wpAny (model prog w) A (call (.builtin "re.Pattern.match") [.ref a, .str x t]) Q E s := by
  have hT : s.TypeIs (.ref a) "re.Pattern" := by
    obtain ⟨⟨o, ho, hc, _⟩, _⟩ := P
    exact ⟨o, ho, hc⟩
  refine wpAny_call (codeAny_call_builtin slot_match.plain entry_match (slot_match.check _ _ _ _ _ _ _ _ hT (args_match_2 _ _) ?_))
  unfold Builtin.«re.Pattern.match»
  refine wpAny_bind (wp_target P hx ?_)
  unfold reAnswer
  obtain ⟨m, sn, e, hb⟩ := rx_ok hf
  have hn : partsN x.cps ∈ [1, 2, 3, 4, 5, 6] := by
    unfold fits at hf
    simp only [Bool.and_eq_true, decide_eq_true_eq] at hf
    have := hf.1
    have := (partsN_spec x.cps).1
    have : partsN x.cps = 1 ∨ partsN x.cps = 2 ∨ partsN x.cps = 3 ∨ partsN x.cps = 4 ∨ partsN x.cps = 5 ∨ partsN x.cps = 6 := by omega
    rcases this with h | h | h | h | h | h <;> rw [h] <;> decide
  generalize partsN x.cps = n at *
  unfold endOk at hb
  simp only [Bool.and_eq_true, beq_iff_eq] at hb
  obtain ⟨⟨⟨⟨⟨h0, h1⟩, h2⟩, h3⟩, h4⟩, h5⟩ := hb
  refine wpAny_bind (wp_runToEnd_ok (k := 25) (m' := swap m x.cps sn) (by decide) e ?_ ?_)
  · show m.outcome = _
    split at h0
    · assumption
    · cases h0
  dsimp only
  obtain ⟨g1, g2⟩ := spans_eq hn h3 h5
  unfold reNewMatch
  dsimp only
  refine wpAny_bind ?_
  show wpAny _ _ (if ((List.range 6).any (fun g => match m.marks.getD (2 * g) none, m.marks.getD (2 * g + 1) none with | some b, some e => decide (((2 * g + 1 : Nat) : Int) ≤ m.lastmark) && decide (e < b) | _, _ => false)) = true then _ else _) _ _ _
  rw [g2, if_neg (by decide)]
  have key : ∀ (L : List Value) (Q' : Value → Shared → Prop), L = spanL n → Q' (.ref (s.heap.objs.size + 1)) { s with heap := (s.heap.push (spanObj n)).push (matchObj x t a s.heap.objs.size n) } →
      wpAny (model prog w) A.in1 (newTuple (rawInt ((swap m x.cps sn).start : Int) :: rawInt ((swap m x.cps sn).handed : Int) :: L) >>= fun tp =>
        newFields "re.Match" [.str x t, .ref a, rawInt ((0 : Nat) : Int), rawInt (x.cps.size : Int), rawInt (swap m x.cps sn).lastindex, tp]) Q' (fun e s' => E e s') s := by
    intro L Q' hL hq'
    subst hL
    have e1 : (swap m x.cps sn).start = 0 := h1
    have e2 : (swap m x.cps sn).handed = 3 * n + 2 := h2
    have e3 : (swap m x.cps sn).lastindex = n := h4
    rw [e1, e2, e3]
    have hsz : (spanL n).length = 12 := by
      simp only [List.mem_cons, List.not_mem_nil, or_false] at hn
      rcases hn with rfl | rfl | rfl | rfl | rfl | rfl <;> rfl
    unfold newTuple
    refine wpAny_bind (wpAny_newObj_type ?_ ?_)
    · unfold newFields
      refine wpAny_newObj_type ?_ (show (6 : Nat) ≤ sizeLine + 2 by decide)
      rw [Heap.size_push]
      exact hq'
    · show (rawInt _ :: rawInt _ :: spanL n).toArray.size ≤ sizeLine
      rw [List.size_toArray, List.length_cons, List.length_cons, hsz]
      decide
  exact key _ _ g1 (wpAny_pure hq)
end
end Mine
end
section
open PySem PySem.W PySem.Calls PyProof.Rows
set_option maxRecDepth 100000
set_option maxHeartbeats 1000000
namespace Mine
open PySem.Builtin.Re
/-- the names of the six parts -/
noncomputable def keyAt (i : Nat) : PySem.Str := ([PySem.Str.ofString "year", PySem.Str.ofString "month", PySem.Str.ofString "day", PySem.Str.ofString "hour", PySem.Str.ofString "minute", PySem.Str.ofString "second"] : List PySem.Str).getD i PySem.Str.empty
/-- the text of the i-th part, where n stand -/
noncomputable def partT (x : PySem.Str) (i : Nat) : PySem.Str := ⟨x.cps.extract (if i = 0 then 0 else 3 * i + 2) (3 * i + 4)⟩
noncomputable def gv (x : PySem.Str) (n i : Nat) (t : Tok) : Value := if i < n then .str (partT x i) t else .none
structure NameDict (prog : Program) (w : World) (h : Heap) (d : Addr) : Prop where
  ob : ∃ o es ep, h.get? d = some o ∧ o.data = .dict es ep ∧ ∃ ts : Nat → Tok, es.toList.map (·.key) = (List.range 6).map fun i => .str (keyAt i) (ts i)
  f : ∃ f, h.MapOf (strKind prog w) d f ∧ ∀ i, i < 6 → ∃ u, f (keyAt i) = some (.int ((i : Int) + 1) u)
theorem NameDict.keeps {prog : Program} {w : World} {h h' : Heap} {d : Addr} (N : NameDict prog w h d) (k : ∀ b o, h.get? b = some o → h'.get? b = some o) : NameDict prog w h' d := by
  obtain ⟨⟨o, es, ep, ho, r⟩, f, ⟨o', es', ep', ho', r'⟩, hf⟩ := N
  exact ⟨⟨o, es, ep, k _ _ ho, r⟩, f, ⟨o', es', ep', k _ _ ho', r'⟩, hf⟩
theorem lk_str_index : typeLookup (.type "str") "__index__" = pure none := by rw [typeLookup_type, builtinLookup_eq_fast]; kernel_rfl
theorem keyAt_inj : ∀ i, i < 6 → ∀ j, j < 6 → keyAt i = keyAt j → i = j := by decide +kernel
theorem span_tab : ∀ n, n < 7 → ∀ i, i < 6 → ((spanL n).map reRawOf).getD (2 * i) (-1) = (if i < n then (if i = 0 then 0 else ((3 * i + 2 : Nat) : Int)) else -1) ∧
    ((spanL n).map reRawOf).getD (2 * i + 1) (-1) = (if i < n then ((3 * i + 4 : Nat) : Int) else -1) := by decide +kernel
theorem getD_two {α β : Type} (f : α → β) (a b : α) (L : List α) (k : Nat) (d : β) : (((a :: b :: L).toArray).map f).getD (k + 2) d = (L.map f).getD k d := by
  simp [Array.getD_eq_getD_getElem?, List.getD_eq_getElem?_getD]
section
variable {prog : Program} {w : World} {A : Around} {E : Value → Shared → Prop} {s : Shared} {a b : Addr}
/-- what was found: the fields of the match and its places -/
noncomputable def foundOf (x : PySem.Str) (t : Tok) (p sp : Addr) (n : Nat) : ReFound := { fields := #[.str x t, .ref p, .int 0 0, .int (x.cps.size : Int) 0, .int (n : Int) 0, .ref sp], spans := ((Value.int 0 0 :: .int ((3 * n + 2 : Nat) : Int) 0 :: spanL n).toArray).map reRawOf }
theorem found_size {x : PySem.Str} {t : Tok} {p sp : Addr} {n : Nat} : (foundOf x t p sp n).spans.size = 14 := by
  show (((Value.int 0 0 :: .int ((3 * n + 2 : Nat) : Int) 0 :: spanL n).toArray).map reRawOf).size = 14
  rw [Array.size_map, List.size_toArray, List.length_cons, List.length_cons]
  have : (spanL n).length = 12 := by
    unfold spanL
    rw [List.length_flatMap]
    have e : ∀ i, (if i < n then (if i = 0 then [Value.int 0 0, .int 4 0] else [.int ((3 * i + 2 : Nat) : Int) 0, .int ((3 * i + 4 : Nat) : Int) 0]) else [.int (-1) 0, .int (-1) 0]).length = 2 := fun i => by
      split
      · split <;> rfl
      · rfl
    simp only [e]
    rfl
  omega
theorem wp_groupNumber {x : PySem.Str} {t u : Tok} {p sp nm : Addr} {n i : Nat} {op : Obj} {vs : Array Value} {Q : Nat → Shared → Prop} (hi : i < 6) (hp : s.heap.get? p = some op) (hd : op.data = .fields vs) (h3 : vs.getD 3 .none = .ref nm)
    (N : NameDict prog w s.heap nm) (hq : Q (i + 1) { s with toks := s.toks + 1 }) : wpAny (model prog w) A (reGroupNumber (foundOf x t p sp n) (.str (keyAt i) u)) Q E s := by
  obtain ⟨f, hm, hf⟩ := N.f
  obtain ⟨v, hv⟩ := hf i hi
  have f1 := lk_str_index
  have f2 : typeOf (.str (keyAt i) u) = pure (.type "str") := rfl
  unfold reGroupNumber
  refine wpAny_bind ?_
  refine wpAny_bind (wpAny_pure (wpAny_pure ?_))
  dsimp only
  rw [if_neg (by decide)]
  refine wpAny_bind (wpAny_specialOf_val f2 f1 ?_)
  rw [if_neg (by decide)]
  refine wpAny_bind (wp_fieldsOf hp hd ?_)
  rw [h3]
  refine wpAny_bind (wpAny_dictGet_of (knd := strKind prog w) (k := keyAt i) (by simp [PySem.strKind, Value.isStrOf]) hm ?_)
  rw [hv]
  refine wpAny_bind (wpAny_pure (wpAny_bind (wpAny_pure ?_)))
  show wpAny _ _ (if (decide (((i : Int) + 1) < 0) || decide (2 * ((i : Int) + 1) ≥ ((foundOf x t p sp n).spans.size : Int))) = true then _ else _) _ _ _
  rw [found_size, if_neg (by simp only [Bool.or_eq_true, decide_eq_true_eq]; omega)]
  exact wpAny_pure hq
theorem span_at {x : PySem.Str} {t : Tok} {p sp : Addr} {n i : Nat} (hn : n ≤ 6) (hi : i < 6) :
    (foundOf x t p sp n).spans.getD (2 * (i + 1)) (-1) = (if i < n then (if i = 0 then 0 else ((3 * i + 2 : Nat) : Int)) else -1) ∧
    (foundOf x t p sp n).spans.getD (2 * (i + 1) + 1) (-1) = (if i < n then ((3 * i + 4 : Nat) : Int) else -1) := by
  have key : ∀ k : Nat, (foundOf x t p sp n).spans.getD (k + 2) (-1) = ((spanL n).map reRawOf).getD k (-1) := by
    intro k
    exact getD_two _ _ _ _ _ _
  have e1 : 2 * (i + 1) = 2 * i + 2 := by omega
  have e2 : 2 * (i + 1) + 1 = (2 * i + 1) + 2 := by omega
  rw [e2, e1, key, key]
  exact span_tab n (by omega) i hi
theorem wp_groupText {x : PySem.Str} {t : Tok} {p sp : Addr} {n i : Nat} {Q : Value → Shared → Prop} (hn6 : n ≤ 6) (hi : i < 6) (hx : x.cps.size ≤ 1000)
    (hq : ∀ t' k, Q (gv x n i t') { s with toks := k }) : wpAny (model prog w) A (reGroupText (foundOf x t p sp n) (i + 1) .none) Q E s := by
  obtain ⟨e1, e2⟩ := span_at (x := x) (t := t) (p := p) (sp := sp) (n := n) hn6 hi
  unfold reGroupText
  rw [e1, e2]
  dsimp only
  by_cases hn : i < n
  · simp only [hn, if_true]
    rw [if_neg (by simp only [Bool.or_eq_true, decide_eq_true_eq]; split <;> omega)]
    refine wpAny_bind (wpAny_bind (wpAny_pure (wpAny_pure ?_)))
    show wpAny _ _ (reSlice x.cps 0 _ _) _ _ _
    unfold reSlice
    rw [if_pos (by decide)]
    refine wpAny_mkStr ?_ ?_
    · have := hq s.toks (s.toks + 1)
      unfold gv partT at this
      rw [if_pos hn] at this
      have e : (if i = 0 then (0 : Int) else ((3 * i + 2 : Nat) : Int)).toNat = (if i = 0 then 0 else 3 * i + 2) := by split <;> rfl
      rw [e]
      exact this
    · show (Array.extract _ _ _).size ≤ sizeLine
      rw [Array.size_extract]
      have : 1000 ≤ sizeLine := by decide
      omega
  · simp only [hn, if_false]
    rw [if_pos (by decide)]
    have := hq 0 s.toks
    unfold gv at this
    rw [if_neg hn] at this
    exact wpAny_pure this
end
end Mine
end
section
open PySem PySem.W PySem.Calls PyProof.Rows
set_option maxRecDepth 100000
set_option maxHeartbeats 1000000
namespace Mine
open PySem.Builtin.Re
section
variable {prog : Program} {w : World} {A : Around} {E : Value → Shared → Prop} {s : Shared} {a b : Addr}
theorem range_nodup (i : Nat) (hi : i ≤ 6) (x : PySem.Str) (n : Nat) (ts : Nat → Tok) : ¬ (((List.range i).map fun j => (keyAt j, gv x n j (ts j))).any fun kv => decide (kv.1 = keyAt i)) = true ∨ i = 6 := by
  by_cases h6 : i = 6
  · exact .inr h6
  · left
    intro h
    obtain ⟨kv, hm, he⟩ := List.any_eq_true.mp h
    obtain ⟨j, hj, rfl⟩ := List.mem_map.mp hm
    have hj' := List.mem_range.mp hj
    have := keyAt_inj j (by omega) i (by omega) (of_decide_eq_true he)
    omega
theorem wp_fill {x : PySem.Str} {n : Nat} {d : Addr} {h₀ : Heap} {body : DictEntry → PUnit → Sem (ForInStep PUnit)} {Q : PUnit → Shared → Prop}
    (hb : ∀ (s' : Shared) (e : DictEntry) (i : Nat) (u : Tok) (Q' : ForInStep PUnit → Shared → Prop), i < 6 → e.key = .str (keyAt i) u → (∀ b o, h₀.get? b = some o → s'.heap.get? b = some o) → 
      (∀ kvs, s'.heap.DictOf (PySem.strKind prog w) d kvs → kvs.length ≤ 6 → (∀ t' k h', h'.DictOf (PySem.strKind prog w) d (stored kvs (keyAt i) (gv x n i t')) → Heap.SameBut d s'.heap h' → Q' (.yield PUnit.unit) { s' with heap := h', toks := k }) →
      wpAny (model prog w) A (body e PUnit.unit) Q' E s')) (hd : h₀.get? d = none) :
    ∀ (l : List DictEntry) (i : Nat) (ts : Nat → Tok) (us : Nat → Tok) (s' : Shared), i + l.length = 6 → l.map (·.key) = (List.range' i l.length).map (fun j => Value.str (keyAt j) (us j)) →
      (∀ b o, h₀.get? b = some o → s'.heap.get? b = some o) → s'.heap.DictOf (PySem.strKind prog w) d ((List.range i).map fun j => (keyAt j, gv x n j (ts j))) →
      (∀ (h' : Heap) (k : Nat) (ts' : Nat → Tok), (∀ b o, h₀.get? b = some o → h'.get? b = some o) → h'.DictOf (PySem.strKind prog w) d ((List.range 6).map fun j => (keyAt j, gv x n j (ts' j))) → Q PUnit.unit { s' with heap := h', toks := k }) →
      wpAny (model prog w) A (forIn l PUnit.unit body) Q E s'
  | [], i, ts, us, s', hi, _, hk, hD, hq => by
    have : i = 6 := by simpa using hi
    subst this
    exact wpAny_pure (hq s'.heap s'.toks ts hk hD)
  | e :: l, i, ts, us, s', hi, hl, hk, hD, hq => by
    have hlen : (e :: l).length = l.length + 1 := rfl
    rw [hlen] at hi hl
    rw [List.range'_succ] at hl
    simp only [List.map_cons, List.cons.injEq] at hl
    rw [List.forIn_cons]
    refine wpAny_bind (hb s' e i (us i) _ (by omega) hl.1 hk _ hD (by simp; omega) fun t' k h' hD' hs' => ?_)
    refine wp_fill hb hd l (i + 1) (fun j => if j = i then t' else ts j) us _ (by omega) hl.2 (fun b o ho => ?_) ?_ ?_
    · rw [hs'.2 b (fun e => by rw [e, hd] at ho; cases ho)]
      exact hk b o ho
    · have hst : stored ((List.range i).map fun j => (keyAt j, gv x n j (ts j))) (keyAt i) (gv x n i t') = (List.range (i + 1)).map fun j => (keyAt j, gv x n j (if j = i then t' else ts j)) := by
        unfold stored
        rw [if_neg ((range_nodup i (by omega) x n ts).resolve_right (by omega)), List.range_succ, List.map_append]
        congr 1
        · refine List.map_congr_left fun j hj => ?_
          have := List.mem_range.mp hj
          rw [if_neg (by omega)]
        · simp
      rw [← hst]
      exact hD'
    · exact hq
theorem wp_groupdict {x : PySem.Str} {t : Tok} {p sp nm : Addr} {n : Nat} {op : Obj} {vs : Array Value} {Q : Value → Shared → Prop} (hn : n ≤ 6) (hx : x.cps.size ≤ 1000)
    (hmo : s.heap.get? a = some (matchObj x t p sp n)) (hsp : s.heap.get? sp = some (spanObj n)) (hp : s.heap.get? p = some op) (hd : op.data = .fields vs) (h3 : vs.getD 3 .none = .ref nm)
    (N : NameDict prog w s.heap nm)
    (hq : ∀ (h' : Heap) (k : Nat) (ts : Nat → Tok), (∀ b o, s.heap.get? b = some o → h'.get? b = some o) → h'.DictOf (PySem.strKind prog w) s.heap.objs.size ((List.range 6).map fun j => (keyAt j, gv x n j (ts j))) → Q (.ref s.heap.objs.size) { s with heap := h', toks := k }) :
    wpAny (model prog w) A (call (.builtin "re.Match.groupdict") [.ref a]) Q E s := by
  have hT : s.TypeIs (.ref a) "re.Match" := ⟨_, hmo, rfl⟩
  obtain ⟨⟨on, es, ep, hon, hes, us, hus⟩, hf⟩ := N
  refine wpAny_call (codeAny_call_builtin slot_groupdict.plain entry_groupdict (slot_groupdict.check _ _ _ _ _ _ _ _ hT (args_groupdict_1 _) ?_))
  unfold Builtin.«re.Match.groupdict» reWithDefault
  refine wpAny_bind ?_
  repeat (any_goals (first | assumption | (with_reducible refine wp_fieldsOf hmo rfl ?_) | (with_reducible refine wp_fieldsOf hsp rfl ?_) | (with_reducible refine wp_fieldsOf hp hd ?_) | (with_reducible refine wp_seq hsp rfl ?_) | (first | with_reducible (first | refine wpAny_pure ?_ | refine wpAny_bind ?_ | refine wpAny_rule ?_ | refine wpAny_holding ?_ | refine wpAny_typeOf (by assumption) ?_ | refine wpAny_of_eq (by assumption) ?_ | refine wpAny_isInstance (by assumption) (by assumption) ?_) | ((with_reducible apply wpAny_ite_false); focus (rfl; done)) | ((with_reducible apply wpAny_ite_true); focus (rfl; done)) | wp_delta)))
  refine wpAny_load hsp ?_
  refine wpAny_pure (wpAny_pure (wpAny_pure (wpAny_pure ?_)))
  show wpAny _ _ (newDict >>= _) _ _ _
  refine wpAny_bind ?_
  unfold newDict
  refine wpAny_newObj_type ?_ (show (0 : Nat) ≤ sizeLine + 1 by decide)
  refine wpAny_bind (wp_fieldsOf (Heap.get?_push_of_some _ hp) hd ?_)
  rw [h3]
  refine wpAny_bind (wpAny_dictEntries (Heap.get?_push_of_some _ hon) hes ?_)
  rw [← Array.forIn_toList]
  have hd0 : s.heap.get? s.heap.objs.size = none := Heap.get?_none_of_le (Nat.le_refl _)
  refine wpAny_bind (wp_fill (x := x) (n := n) (h₀ := s.heap) (d := s.heap.objs.size) (fun s' e i u Q' hi he hk kvs hD hl hQ => ?_) hd0 es.toList 0 (fun _ => 0) us _ ?_ ?_ (fun b o ho => Heap.get?_push_of_some _ ho) (Heap.DictOf.new _) (fun h' k ts hk hD => wpAny_pure (hq h' k ts hk hD)))
  · refine wpAny_bind (wpAny_holding ?_)
    rw [he]
    have N' : NameDict prog w s'.heap nm := NameDict.keeps ⟨⟨on, es, ep, hon, hes, us, hus⟩, hf⟩ hk
    refine wpAny_bind (wp_groupNumber (t := t) (p := p) (sp := sp) (n := n) (x := x) hi (hk _ _ hp) hd h3 N' ?_)
    refine wpAny_bind (wp_groupText hn hi hx fun t' k => ?_)
    exact wpAny_dictSet_pairs (knd := PySem.strKind prog w) (k := keyAt i) (by simp [PySem.strKind, Value.isStrOf]) hD (fun h' hD' hs' => wpAny_pure (hQ t' (k + 1) h' hD' hs')) (Nat.le_trans hl (by decide))
  · have := congrArg List.length hus
    simpa using this
  · have := congrArg List.length hus
    have e6 : es.toList.length = 6 := by simpa using this
    rw [e6, hus]
    rfl
end
end Mine
end
section
open PySem PySem.W PySem.Calls PyProof.Rows PySem.NumText
set_option maxRecDepth 100000
set_option maxHeartbeats 1000000
namespace Mine
/-- the i-th part's number -/
noncomputable def pv (x : PySem.Str) (i : Nat) : Int := ((digitsVal (partT x i).cps.toList : Nat) : Int)
noncomputable def fld (x : PySem.Str) (n i : Nat) : Int := if i < n then pv x i else 0
theorem digitsVal_lt : ∀ {cs : List Nat}, AllDigits cs → digitsVal cs < 10 ^ cs.length := by
  have key : ∀ (k : Nat) (cs : List Nat), cs.length = k → AllDigits cs → digitsVal cs < 10 ^ cs.length := by
    intro k
    induction k with
    | zero => intro cs hl _; rw [List.length_eq_zero_iff.mp hl]; decide
    | succ k ih =>
      intro cs hl h
      have hne : cs ≠ [] := by intro e; rw [e] at hl; cases hl
      have e := (List.dropLast_concat_getLast hne).symm
      have h1 : AllDigits cs.dropLast := fun c hc => h c ((List.dropLast_sublist cs).subset hc)
      have h2 := h (cs.getLast hne) (List.getLast_mem hne)
      have h3 : cs.dropLast.length = k := by rw [List.length_dropLast]; omega
      have := ih _ h3 h1
      rw [hl, e, digitsVal_snoc]
      rw [h3] at this
      have e2 : 10 ^ (k + 1) = 10 ^ k * 10 := Nat.pow_succ ..
      omega
  exact fun {cs} h => key cs.length cs rfl h
theorem ask_digit {t : Array Nat} {p : Nat} (h : ask t 0 p = true) : p < t.size ∧ 48 ≤ t.getD p 0 ∧ t.getD p 0 ≤ 57 := by
  unfold ask at h
  simp only [if_true, Bool.and_eq_true, decide_eq_true_eq] at h
  refine ⟨h.1, ?_⟩
  have := h.2
  unfold Sre.isDigit at this
  simpa using this
theorem slice_digits {t : Array Nat} {a b : Nat} (hab : a < b) (h : ∀ p, a ≤ p → p < b → ask t 0 p = true) :
    AllDigits (t.extract a b).toList ∧ (t.extract a b).toList.length = b - a := by
  have hb := (ask_digit (h (b - 1) (by omega) (by omega))).1
  have hs : (t.extract a b).size = b - a := by rw [Array.size_extract]; omega
  refine ⟨fun c hc => ?_, by rw [Array.length_toList]; exact hs⟩
  obtain ⟨i, hi, rfl⟩ := List.mem_iff_getElem.mp hc
  have hi' : i < (t.extract a b).size := by rw [Array.length_toList] at hi; exact hi
  have e : (t.extract a b).toList[i] = t.getD (a + i) 0 := by
    rw [Array.getElem_toList, Array.getElem_extract]
    have hlt : a + i < t.size := by omega
    simp [Array.getD_eq_getD_getElem?, hlt]
  rw [e]
  exact (ask_digit (h (a + i) (by omega) (by omega))).2
theorem part_digits {x : PySem.Str} {i : Nat} (hf : fitAt x.cps i = true) : AllDigits (partT x i).cps.toList ∧ (partT x i).cps.toList.length = (if i = 0 then 4 else 2) := by
  unfold fitAt at hf
  unfold partT
  by_cases h0 : i = 0
  · subst h0
    simp only [if_true, Bool.and_eq_true] at hf ⊢
    refine slice_digits (by decide) fun p _ hp => ?_
    have : p = 0 ∨ p = 1 ∨ p = 2 ∨ p = 3 := by omega
    rcases this with rfl | rfl | rfl | rfl
    · exact hf.1.1.1
    · exact hf.1.1.2
    · exact hf.1.2
    · exact hf.2
  · simp only [h0, if_false, Bool.and_eq_true] at hf ⊢
    have := slice_digits (t := x.cps) (a := 3 * i + 2) (b := 3 * i + 4) (by omega) fun p h1 hp => by
      have : p = 3 * i + 2 ∨ p = 3 * i + 3 := by omega
      rcases this with rfl | rfl
      · exact hf.1.2
      · exact hf.2
    refine ⟨this.1, this.2.trans ?_⟩
    omega
theorem part_int {x : PySem.Str} {i : Nat} (hf : fitAt x.cps i = true) : PySem.intText? (partT x i) = some (pv x i) := by
  obtain ⟨h1, h2⟩ := part_digits hf
  refine intText_digits h1 (fun e => ?_) ?_
  · rw [e] at h2
    revert h2
    split <;> intro h <;> cases h
  · show (partT x i).cps.size ≤ 4300
    rw [← Array.length_toList, h2]
    split <;> decide
theorem part_len {x : PySem.Str} {i : Nat} (hf : fitAt x.cps i = true) : (partT x i).length ≤ 640 := by
  show (partT x i).cps.size ≤ 640
  rw [← Array.length_toList, (part_digits hf).2]
  split <;> decide
theorem pv_bound {x : PySem.Str} {i : Nat} (hf : fitAt x.cps i = true) : 0 ≤ pv x i ∧ pv x i ≤ 9999 := by
  obtain ⟨h1, h2⟩ := part_digits hf
  have := digitsVal_lt h1
  rw [h2] at this
  unfold pv
  revert this
  split <;> intro h <;> omega
theorem pv_bound2 {x : PySem.Str} {i : Nat} (h0 : i ≠ 0) (hf : fitAt x.cps i = true) : pv x i ≤ 99 := by
  obtain ⟨h1, h2⟩ := part_digits hf
  have := digitsVal_lt h1
  rw [h2, if_neg h0] at this
  unfold pv
  omega
theorem fits_all {x : PySem.Str} {i : Nat} (h : i < partsN x.cps) : fitAt x.cps i = true := (partsN_spec x.cps).2.1 i h
end Mine
end
section
open PySem PySem.W PySem.Calls PyProof.Rows
set_option maxRecDepth 100000
set_option maxHeartbeats 1000000
namespace Mine
open PySem.Builtin.Re
theorem patK {P : Params} {h : Heap} (X : (hd.heap_39 P).In h) : ∃ vs cs, Pat h 59 vs 58 cs none ∧ vs.getD 3 .none = .ref 56 := by
  refine ⟨_, _, ⟨⟨_, X 59 _ (by with_unfolding_all rfl), rfl, rfl, rfl⟩, rfl, rfl, rfl, ⟨_, _, X 58 _ (by with_unfolding_all rfl), rfl⟩, ?_⟩, rfl⟩
  decide +kernel
theorem namesK {prog : Program} {w : World} {h : Heap} (X : (hd.heap_39 w.params).In h) : NameDict prog w h 56 := by
  have hl : ∃ o, (hd.heap_39 w.params).lookup 56 = some o ∧ o.ExactDict ∧ ∃ es ep, o.data = .dict es ep ∧ (∃ ts : Nat → Tok, es.toList.map (·.key) = (List.range 6).map fun i => .str (keyAt i) (ts i)) ∧
      KeysOf (PySem.strKind prog w) es ∧ ∀ i, i < 6 → ∃ u, findBy (PySem.strKind prog w).is es (keyAt i) = some (.int ((i : Int) + 1) u) := by
    refine ⟨_, by with_unfolding_all rfl, ⟨rfl, rfl, rfl⟩, _, _, rfl, ⟨fun i => 540 + 2 * i, rfl⟩, ?_, ?_⟩
    · intro e he
      simp only [List.mem_toArray, List.mem_cons, List.not_mem_nil, or_false] at he
      rcases he with rfl | rfl | rfl | rfl | rfl | rfl
      · exact ⟨PySem.Str.ofString "year", by simp [PySem.strKind, Value.isStrOf], rfl⟩
      · exact ⟨PySem.Str.ofString "month", by simp [PySem.strKind, Value.isStrOf], rfl⟩
      · exact ⟨PySem.Str.ofString "day", by simp [PySem.strKind, Value.isStrOf], rfl⟩
      · exact ⟨PySem.Str.ofString "hour", by simp [PySem.strKind, Value.isStrOf], rfl⟩
      · exact ⟨PySem.Str.ofString "minute", by simp [PySem.strKind, Value.isStrOf], rfl⟩
      · exact ⟨PySem.Str.ofString "second", by simp [PySem.strKind, Value.isStrOf], rfl⟩
    · intro i hi
      have h6 : i = 0 ∨ i = 1 ∨ i = 2 ∨ i = 3 ∨ i = 4 ∨ i = 5 := by omega
      rcases h6 with rfl | rfl | rfl | rfl | rfl | rfl
      · exact ⟨541, by rfl⟩
      · exact ⟨543, by rfl⟩
      · exact ⟨545, by rfl⟩
      · exact ⟨547, by rfl⟩
      · exact ⟨549, by rfl⟩
      · exact ⟨551, by rfl⟩
  obtain ⟨o, hlo, hex, es, ep, hd, hts, hk, hf⟩ := hl
  exact ⟨⟨o, es, ep, X _ _ hlo, hd, hts⟩, _, ⟨o, es, ep, X _ _ hlo, hex, hd, hk, fun _ => rfl⟩, hf⟩
end Mine
end
section
open PySem PySem.W PySem.Calls PyProof.Rows
set_option maxRecDepth 100000
set_option maxHeartbeats 1000000
namespace Mine
section
variable {prog : Program} {w : World} {A : Around} {E : Value → Shared → Prop} {s : Shared} {h₀ : Heap} {L : Addr} {m : PySem.Str → Option Value} {news : List (Addr × Obj)}
theorem news_of_keeps {h' : Heap} {o : Obj} (F : Fr h₀ L s.heap m) (N : News h₀ L s.heap news) (hk : ∀ b o, s.heap.get? b = some o → h'.get? b = some o) (hD : h'.get? s.heap.objs.size = some o) :
    News h₀ L h' ((s.heap.objs.size, o) :: news) := news_pushed F N hk hD rfl
theorem gm_pat {name : PySem.Str} {pl : Sem Bool} {Q : Value × List Value → Shared → Prop} (hn : name = "match") (F : Fr h₀ L s.heap m) (X : (hd.heap_39 w.params).In h₀) (h : Q (.builtin "re.Pattern.match", [.ref 59]) s) :
    wpAny (model prog w) A (getMethod (.ref 59) name pl) Q E s := by
  subst hn
  obtain ⟨vs, cs, P, _⟩ := patK (X.keeps F.keep)
  obtain ⟨o, ho, hc, _, hdi⟩ := P.at_
  exact getMethod_builtin (T := "re.Pattern") ⟨o, ho, hc⟩ plain_pattern slot_match type_match (fun a e => by cases e; exact ⟨o, ho, hdi⟩) h
theorem gm_mat {name : PySem.Str} {pl : Sem Bool} {Q : Value × List Value → Shared → Prop} {x : PySem.Str} {t : Tok} {p sp b : Addr} {n : Nat} (hn : name = "groupdict") (N : News h₀ L s.heap news) (hm : (b, matchObj x t p sp n) ∈ news) (h : Q (.builtin "re.Match.groupdict", [.ref b]) s) :
    wpAny (model prog w) A (getMethod (.ref b) name pl) Q E s := by
  subst hn
  have ho := N.get hm
  exact getMethod_builtin (T := "re.Match") ⟨_, ho, rfl⟩ plain_matchobj slot_groupdict type_groupdict (fun a e => by cases e; exact ⟨_, ho, rfl⟩) h
theorem call_match_no {x : PySem.Str} {t : Tok} {Q : Value → Shared → Prop} (F : Fr h₀ L s.heap m) (X : (hd.heap_39 w.params).In h₀) (hx : x.length ≤ 60) (hf : fits x.cps = false) (h : Q .none s) :
    wpAny (model prog w) A (call (.builtin "re.Pattern.match") [.ref 59, .str x t]) Q E s := by
  obtain ⟨vs, cs, P, _⟩ := patK (X.keeps F.keep)
  exact wp_match_no P (show x.cps.size ≤ 1000 from Nat.le_trans hx (by decide)) hf h
theorem call_match_ok {x : PySem.Str} {t : Tok} {Q : Value → Shared → Prop} (F : Fr h₀ L s.heap m) (N : News h₀ L s.heap news) (X : (hd.heap_39 w.params).In h₀) (hx : x.length ≤ 60) (hf : fits x.cps = true)
    (h : ∀ sp b h', Fr h₀ L h' m → News h₀ L h' ((b, matchObj x t 59 sp (partsN x.cps)) :: (sp, spanObj (partsN x.cps)) :: news) → Q (.ref b) { s with heap := h' }) :
    wpAny (model prog w) A (call (.builtin "re.Pattern.match") [.ref 59, .str x t]) Q E s := by
  obtain ⟨vs, cs, P, _⟩ := patK (X.keeps F.keep)
  refine wp_match_ok P (show x.cps.size ≤ 1000 from Nat.le_trans hx (by decide)) hf ?_
  have F1 := F.push (spanObj (partsN x.cps))
  have N1 := N.push F (spanObj (partsN x.cps))
  have N2 := N1.push F1 (matchObj x t 59 s.heap.objs.size (partsN x.cps))
  rw [Heap.size_push] at N2
  exact h _ _ _ (F1.push _) N2
theorem call_gd {x : PySem.Str} {t : Tok} {sp b : Addr} {n : Nat} {Q : Value → Shared → Prop} (F : Fr h₀ L s.heap m) (N : News h₀ L s.heap news) (X : (hd.heap_39 w.params).In h₀) (hx : x.length ≤ 60) (hn : n ≤ 6)
    (hm : (b, matchObj x t 59 sp n) ∈ news) (hs : (sp, spanObj n) ∈ news)
    (h : ∀ d o h' k (ts : Nat → Tok), Fr h₀ L h' m → News h₀ L h' ((d, o) :: news) → o.IsDictOf (PySem.strKind prog w) ((List.range 6).map fun j => (keyAt j, gv x n j (ts j))) → (∀ p ∈ news, p.1 < d) → Q (.ref d) { s with heap := h', toks := k }) :
    wpAny (model prog w) A (call (.builtin "re.Match.groupdict") [.ref b]) Q E s := by
  obtain ⟨vs, cs, P, h3⟩ := patK (X.keeps F.keep)
  obtain ⟨o, ho, hc, hd', hdi⟩ := P.at_
  refine wp_groupdict hn (show x.cps.size ≤ 1000 from Nat.le_trans hx (by decide)) (N.get hm) (N.get hs) ho hd' h3 (namesK (X.keeps F.keep)) fun h' k ts hk hD => ?_
  obtain ⟨od, hod, hio⟩ := Heap.dictOf_iff.mp hD
  exact h _ od h' k ts (F.keeps hk) (news_of_keeps F N hk hod) hio fun p hp => Heap.lt_size (N p hp).1
end
theorem lk_none_gd : typeLookup (.type "NoneType") "groupdict" = pure none := by rw [typeLookup_type, builtinLookup_eq_fast]; kernel_rfl
section
variable {prog : Program} {w : World} {A : Around} {E : Value → Shared → Prop} {s : Shared}
theorem ga_none {name : PySem.Str} {ex : Bool} {Q : Value → Shared → Prop} (hmiss : typeLookup (.type "NoneType") name = pure none) (hA : A.handled = none)
    (h : ∀ h' tk e, Heap.NewExcOf s.heap h' e "AttributeError" → E (.ref e) { s with heap := h', toks := tk }) (hsz : name.length + 100 ≤ sizeLine) :
    wpAny (model prog w) A (getAttr (.none) name false) Q E s := by
  obtain ⟨hp, g, d, tk, os⟩ := s
  have hT : ∀ s' : Shared, s'.TypeIs (.none) "NoneType" := fun _ => rfl
  have f1 := sub_AttributeError
  have f3 := F.slot_NoneType_getattribute.lookup
  have f4 := F.slot_NoneType_getattribute.bind (.none)
  have f5 := am_none_getattr_none
  unfold getAttr getAttrBy
  repeat (any_goals (first | assumption | ((with_reducible show wpAny _ _ (call (Value.builtin "object.__getattribute__") _ _) _ _ _); refine call_meets F.slot_NoneType_getattribute (hT _) F.entry_object_getattribute (F.args_object_getattribute_2 _ _) (meets_getattribute_miss_none name _ hmiss hsz) ⟨hA, fun h' tk' e hx => ?_⟩) | wp_step))
  obtain ⟨t', u', he⟩ := hx.there
  show wpAny _ _ (getattributeRaised _ _ _ _ _ _ _) _ _ _
  unfold getattributeRaised
  repeat (any_goals (first | assumption | wp_step))
  all_goals exact h _ _ _ hx.of
theorem gm_none {name : PySem.Str} {pl : Sem Bool} {Q : Value × List Value → Shared → Prop} (hn : name = "groupdict") (hA : A.handled = none)
    (h : ∀ h' tk e, Heap.NewExcOf s.heap h' e "AttributeError" → E (.ref e) { s with heap := h', toks := tk }) :
    wpAny (model prog w) A (getMethod .none name pl) Q E s := by
  subst hn
  have hT : s.TypeIs (.none) "NoneType" := rfl
  unfold getMethod
  refine wpAny_bind (wpAny_specialOf hT F.slot_NoneType_getattribute.lookup ?_)
  dsimp only
  rw [if_neg (by decide +kernel)]
  refine wpAny_bind (wpAny_specialOf hT am_none_getattr_none ?_)
  rw [if_neg (by decide)]
  refine wpAny_bind (wpAny_specialOf hT lk_none_gd ?_)
  dsimp only
  exact wpAny_bind (ga_none (ex := false) lk_none_gd hA h (by decide +kernel))
end
section
variable {M : Model} {A : Around} {E : Value → Shared → Prop} {s' : Shared} {base g h : Heap} {outer : List Env} {L a e : Addr} {m : PySem.Str → Option Value} {name : PySem.Str} {scope : Scope} {cd : Value} {Q : Unit → Shared → Prop} {news : List (Addr × Obj)}
theorem leave_ofK {cls : String} (K : Below A base outer g) (hx : Heap.NewExcOf h s'.heap e cls) (F : Fr g L h m)
    (hQ : ∀ h', RaisedN base outer e (.type cls) [] h' → g.UpToSlots h' → Q () { s' with heap := h' }) (hk : scope.kind = .function := by rfl) :
    wpAny M (A.deeper (envOf name scope L a cd)) (leaving (envOf name scope L a cd) (.ref e)) Q E s' := by
  have K' := K.push (name := name) (a := a) (cd := cd) F hk
  have hin : ∀ env ∈ (envOf name scope L a cd :: outer), ∀ b, env.frame = some b → b ∈ (envOf name scope L a cd :: outer).filterMap (·.frame) := fun env he b hb => List.mem_filterMap.mpr ⟨env, he, hb⟩
  have st : base.StaysIn (hideAll h ((envOf name scope L a cd :: outer).filterMap (·.frame))) := fun b o q => hideAll_get _ (K'.stays b o q) fun hm => by
    rw [(K'.frames.mem hm).1] at q; cases q
  obtain ⟨ob, vs, he, hcls, hd, h1⟩ := hx.there
  have h0 : vs[0]? = some vs[0]! := by
    have hlt : 1 < vs.size := (Array.getElem?_eq_some_iff.mp h1).1
    have h0 : 0 < vs.size := by omega
    simp [h0]
  have hen : (hideAll h ((envOf name scope L a cd :: outer).filterMap (·.frame))).get? e = none := by
    cases q : (hideAll h ((envOf name scope L a cd :: outer).filterMap (·.frame))).get? e with
    | none => rfl
    | some o => have := of_hideAll _ q; rw [hx.new] at this; cases this
  refine wpAny_leaving_firstW (a0 := vs[0]!) K'.stack ((funFrames_hide K'.frames hin).of_keeps fun b o hb _ => ⟨o, hx.keeps b o hb, rfl⟩) rfl he (fun b o hb => hx.keeps b o (of_hideAll _ hb)) hen hd h1 h0 fun h' hL => ?_
  obtain ⟨k1, ⟨_, _, k2⟩, k3, k4⟩ := hL
  exact hQ h' ⟨_, vs[0]!, st, (fun q hq => nomatch hq), k1, hen, k2, by rw [← hcls]; exact k3⟩ (((Heap.UpToSlots.of_keeps F.keep).trans (Heap.UpToSlots.of_keeps hx.keeps)).trans k4)
end
end Mine
end
section
open PySem PySem.W PySem.Calls PyProof.Rows
set_option maxRecDepth 100000
set_option maxHeartbeats 1000000
namespace Mine
section
variable {M : Model} {A : Around} {E : Value → Shared → Prop} {s' : Shared} {base g h : Heap} {outer : List Env} {L a e : Addr} {m : PySem.Str → Option Value} {name : PySem.Str} {scope : Scope} {cd : Value} {Q : Unit → Shared → Prop}
theorem leave_ofS {cls : String} (K : Below A base outer g) (hx : Heap.NewExcOf h s'.heap e cls) (F : Fr g L h m)
    (hQ : ∀ h', RaisedSN base g outer e (.type cls) [] h' → g.UpToSlots h' → Q () { s' with heap := h' }) (hk : scope.kind = .function := by rfl) :
    wpAny M (A.deeper (envOf name scope L a cd)) (leaving (envOf name scope L a cd) (.ref e)) Q E s' := by
  have K' := K.push (name := name) (a := a) (cd := cd) F hk
  have hin : ∀ env ∈ (envOf name scope L a cd :: outer), ∀ b, env.frame = some b → b ∈ (envOf name scope L a cd :: outer).filterMap (·.frame) := fun env he b hb => List.mem_filterMap.mpr ⟨env, he, hb⟩
  have st : base.StaysIn (hideAll h ((envOf name scope L a cd :: outer).filterMap (·.frame))) := fun b o q => hideAll_get _ (K'.stays b o q) fun hm => by
    rw [(K'.frames.mem hm).1] at q; cases q
  have sg : ∀ b o, g.get? b = some o → b ∉ outer.filterMap (·.frame) → (hideAll h ((envOf name scope L a cd :: outer).filterMap (·.frame))).get? b = some o := fun b o q nm => hideAll_get _ (F.keep b o q) fun hm => by
    rcases kts_mem hm with z | z
    · have := kts_self F
      rw [z, this] at q; cases q
    · exact nm z
  obtain ⟨ob, vs, he, hcls, hd, h1⟩ := hx.there
  have h0 : vs[0]? = some vs[0]! := by
    have hlt : 1 < vs.size := (Array.getElem?_eq_some_iff.mp h1).1
    have h0 : 0 < vs.size := by omega
    simp [h0]
  have hen : (hideAll h ((envOf name scope L a cd :: outer).filterMap (·.frame))).get? e = none := by
    cases q : (hideAll h ((envOf name scope L a cd :: outer).filterMap (·.frame))).get? e with
    | none => rfl
    | some o => have := of_hideAll _ q; rw [hx.new] at this; cases this
  refine wpAny_leaving_firstW (a0 := vs[0]!) K'.stack ((funFrames_hide K'.frames hin).of_keeps fun b o hb _ => ⟨o, hx.keeps b o hb, rfl⟩) rfl he (fun b o hb => hx.keeps b o (of_hideAll _ hb)) hen hd h1 h0 fun h' hL => ?_
  obtain ⟨k1, ⟨_, _, k2⟩, k3, k4⟩ := hL
  exact hQ h' ⟨_, vs[0]!, st, sg, (fun q hq => nomatch hq), k1, hen, k2, by rw [← hcls]; exact k3⟩ (((Heap.UpToSlots.of_keeps F.keep).trans (Heap.UpToSlots.of_keeps hx.keeps)).trans k4)
end
end Mine
end
section
open PySem PySem.W PySem.Calls PyProof.Rows
set_option maxRecDepth 100000
set_option maxHeartbeats 1000000
namespace Mine
section
variable {prog : Program} {w : World} {A : Around} {E : Value → Shared → Prop} {s : Shared} {h₀ : Heap} {L : Addr} {m : PySem.Str → Option Value} {news : List (Addr × Obj)}
theorem valueAt_gv {x : PySem.Str} {n i : Nat} {ts : Nat → Tok} (hi : i < 6) : valueAt ((List.range 6).map fun j => (keyAt j, gv x n j (ts j))) (keyAt i) = some (gv x n i (ts i)) := by
  unfold valueAt
  have key : ∀ k, k < 6 → decide (keyAt k = keyAt i) = decide (k = i) := by
    intro k hk
    by_cases e : k = i
    · subst e; simp
    · have : keyAt k ≠ keyAt i := fun q => e (keyAt_inj k hk i hi q)
      simp [e, this]
  simp only [List.range, List.range.loop, List.map_cons, List.map_nil, List.find?_cons, key 0 (by decide), key 1 (by decide), key 2 (by decide), key 3 (by decide), key 4 (by decide), key 5 (by decide)]
  have h6 : i = 0 ∨ i = 1 ∨ i = 2 ∨ i = 3 ∨ i = 4 ∨ i = 5 := by omega
  rcases h6 with rfl | rfl | rfl | rfl | rfl | rfl <;> rfl
theorem gd_item {x key : PySem.Str} {n : Nat} (i : Nat) {ts : Nat → Tok} {D : Addr} {od : Obj} {u : Tok} {value slice : PySem.Expr} {Q : Value → Shared → Prop} (hk : key = keyAt i) (hi : i < 6) (N : News h₀ L s.heap news) (hm : (D, od) ∈ news)
    (hod : od.IsDictOf (PySem.strKind prog w) ((List.range 6).map fun j => (keyAt j, gv x n j (ts j))))
    (h1 : i < n → Q (.str (partT x i) (ts i)) { s with toks := s.toks + 1 }) (h2 : ¬ i < n → Q .none { s with toks := s.toks + 1 })
    (hs : subscripted slice false (.ref D) (.str key u) = operate [.ref D, .str key u] (getItem (.ref D) (.str key u)) := by with_unfolding_all rfl) :
    wpAny (model prog w) A (subscriptTail value slice (.ref D) (.str key u)) Q E s := by
  subst hk
  have hD : s.heap.DictOf (PySem.strKind prog w) D ((List.range 6).map fun j => (keyAt j, gv x n j (ts j))) := Heap.dictOf_iff.mpr ⟨od, N.get hm, hod⟩
  have hex : s.TypeIs (.ref D) "dict" := by
    obtain ⟨es, ep, hx, _⟩ := hod
    exact ⟨od, N.get hm, hx.1⟩
  refine tail_any hex slot_dict_getitem.lookup (wpAny_getItem_of (knd := PySem.strKind prog w) (k := keyAt i) (by simp [PySem.strKind, Value.isStrOf]) hD.mapOf (valueAt_gv hi) ?_) hs
  unfold gv
  split
  · exact h1 (by assumption)
  · exact h2 (by assumption)
theorem int_part {x : PySem.Str} {i : Nat} {t : Tok} {Q : Value → Shared → Prop} (hi : i < partsN x.cps) (h : Q (.int (pv x i) s.toks) { s with toks := s.toks + 1 }) : wpAny (model prog w) A (call (.type "int") [.str (partT x i) t]) Q E s :=
  KIN.call_text (part_int (fits_all hi)) (part_len (fits_all hi)) h
end
section
variable {M : Model} {A : Around} {E : Value → Shared → Prop} {s : Shared} {env : Env} {pos p : Pos} {first : List Value} {Q : Value → Shared → Prop} {e : PySem.Expr} {T : String}
theorem callWith_T (h : wpAny M A (eval e env) (fun v s₁ => StarOf M A E v (fun vs s₂ => wpAny M A (call (.type T) (first ++ vs)) Q E s₂) s₁) E s)
    (he : starEach [.Starred e p] env = [(true, eval e env)] := by rfl) : wpAny M A (callWith pos (.type T) first (backTo pos (starEach [.Starred e p] env)) []) Q E s := by
  rw [he]
  refine ks_call (P := fun _ => True) rfl (fun _ _ => ⟨.machine, .inr (.inl rfl), Looks.of_pure rfl⟩) (ks_lone ?_)
  refine wpAny_mono h (fun v s₁ h₁ => ?_) fun _ _ x => x
  unfold StarOf at *
  exact wpAny_mono h₁ (fun b s₂ h₂ => ⟨h₂.1, wpAny_mono h₂.2 (fun vs s₃ h₃ => ⟨trivial, h₃⟩) fun _ _ x => x⟩) fun _ _ x => x
end
theorem fld_lt {x : PySem.Str} {n i : Nat} (h : i < n) : fld x n i = pv x i := if_pos h
theorem fld_ge {x : PySem.Str} {n i : Nat} (h : ¬ i < n) : fld x n i = 0 := if_neg h
section
variable {prog : Program} {w : World} {A : Around} {E : Value → Shared → Prop} {s : Shared} {h₀ : Heap} {L : Addr} {m : PySem.Str → Option Value} {news : List (Addr × Obj)}
theorem dateK_3 {y mo d : Int} {t0 t1 t2 : Tok} {Q : Value → Shared → Prop} (F : Fr h₀ L s.heap m) (N : News h₀ L s.heap news) (hh : A.handled = none) (b0 : 0 ≤ y ∧ y ≤ 9999) (b1 : 0 ≤ mo ∧ mo ≤ 9999) (b2 : 0 ≤ d ∧ d ≤ 9999)
    (h1 : Good7 y mo d 0 0 0 0 → ∀ b h', Fr h₀ L h' m → News h₀ L h' ((b, dtObj y mo d 0 0 0 0) :: news) → Q (.ref b) { s with heap := h' })
    (h2 : ¬ Good7 y mo d 0 0 0 0 → ∀ h' tk e, Heap.NewExc s.heap h' e "ValueError" → E (.ref e) { s with heap := h', toks := tk }) :
    wpAny (model prog w) A (call (.type "datetime.datetime") [.int y t0, .int mo t1, .int d t2]) Q E s :=
  date_3 hh b0 b1 b2 (fun g => h1 g _ _ (F.push _) (N.push F _)) h2
theorem dateK_4 {y mo d h : Int} {t0 t1 t2 t3 : Tok} {Q : Value → Shared → Prop} (F : Fr h₀ L s.heap m) (N : News h₀ L s.heap news) (hh : A.handled = none) (b0 : 0 ≤ y ∧ y ≤ 9999) (b1 : 0 ≤ mo ∧ mo ≤ 9999) (b2 : 0 ≤ d ∧ d ≤ 9999) (b3 : 0 ≤ h ∧ h ≤ 9999)
    (h1 : Good7 y mo d h 0 0 0 → ∀ b h', Fr h₀ L h' m → News h₀ L h' ((b, dtObj y mo d h 0 0 0) :: news) → Q (.ref b) { s with heap := h' })
    (h2 : ¬ Good7 y mo d h 0 0 0 → ∀ h' tk e, Heap.NewExc s.heap h' e "ValueError" → E (.ref e) { s with heap := h', toks := tk }) :
    wpAny (model prog w) A (call (.type "datetime.datetime") [.int y t0, .int mo t1, .int d t2, .int h t3]) Q E s :=
  date_4 hh b0 b1 b2 b3 (fun g => h1 g _ _ (F.push _) (N.push F _)) h2
theorem dateK_5 {y mo d h mi : Int} {t0 t1 t2 t3 t4 : Tok} {Q : Value → Shared → Prop} (F : Fr h₀ L s.heap m) (N : News h₀ L s.heap news) (hh : A.handled = none) (b0 : 0 ≤ y ∧ y ≤ 9999) (b1 : 0 ≤ mo ∧ mo ≤ 9999) (b2 : 0 ≤ d ∧ d ≤ 9999) (b3 : 0 ≤ h ∧ h ≤ 9999) (b4 : 0 ≤ mi ∧ mi ≤ 9999)
    (h1 : Good7 y mo d h mi 0 0 → ∀ b h', Fr h₀ L h' m → News h₀ L h' ((b, dtObj y mo d h mi 0 0) :: news) → Q (.ref b) { s with heap := h' })
    (h2 : ¬ Good7 y mo d h mi 0 0 → ∀ h' tk e, Heap.NewExc s.heap h' e "ValueError" → E (.ref e) { s with heap := h', toks := tk }) :
    wpAny (model prog w) A (call (.type "datetime.datetime") [.int y t0, .int mo t1, .int d t2, .int h t3, .int mi t4]) Q E s :=
  date_5 hh b0 b1 b2 b3 b4 (fun g => h1 g _ _ (F.push _) (N.push F _)) h2
theorem dateK_6 {y mo d h mi sc : Int} {t0 t1 t2 t3 t4 t5 : Tok} {Q : Value → Shared → Prop} (F : Fr h₀ L s.heap m) (N : News h₀ L s.heap news) (hh : A.handled = none) (b0 : 0 ≤ y ∧ y ≤ 9999) (b1 : 0 ≤ mo ∧ mo ≤ 9999) (b2 : 0 ≤ d ∧ d ≤ 9999) (b3 : 0 ≤ h ∧ h ≤ 9999) (b4 : 0 ≤ mi ∧ mi ≤ 9999) (b5 : 0 ≤ sc ∧ sc ≤ 9999)
    (h1 : Good7 y mo d h mi sc 0 → ∀ b h', Fr h₀ L h' m → News h₀ L h' ((b, dtObj y mo d h mi sc 0) :: news) → Q (.ref b) { s with heap := h' })
    (h2 : ¬ Good7 y mo d h mi sc 0 → ∀ h' tk e, Heap.NewExc s.heap h' e "ValueError" → E (.ref e) { s with heap := h', toks := tk }) :
    wpAny (model prog w) A (call (.type "datetime.datetime") [.int y t0, .int mo t1, .int d t2, .int h t3, .int mi t4, .int sc t5]) Q E s :=
  date_6 hh b0 b1 b2 b3 b4 b5 (fun g => h1 g _ _ (F.push _) (N.push F _)) h2
end
theorem f6_3 {x : PySem.Str} {n : Nat} (h : n = 3) : fld x n 0 = pv x 0 ∧ fld x n 1 = pv x 1 ∧ fld x n 2 = pv x 2 ∧ fld x n 3 = 0 ∧ fld x n 4 = 0 ∧ fld x n 5 = 0 := by
  subst h
  exact ⟨rfl, rfl, rfl, rfl, rfl, rfl⟩
theorem f6_4 {x : PySem.Str} {n : Nat} (h : n = 4) : fld x n 0 = pv x 0 ∧ fld x n 1 = pv x 1 ∧ fld x n 2 = pv x 2 ∧ fld x n 3 = pv x 3 ∧ fld x n 4 = 0 ∧ fld x n 5 = 0 := by
  subst h
  exact ⟨rfl, rfl, rfl, rfl, rfl, rfl⟩
theorem f6_5 {x : PySem.Str} {n : Nat} (h : n = 5) : fld x n 0 = pv x 0 ∧ fld x n 1 = pv x 1 ∧ fld x n 2 = pv x 2 ∧ fld x n 3 = pv x 3 ∧ fld x n 4 = pv x 4 ∧ fld x n 5 = 0 := by
  subst h
  exact ⟨rfl, rfl, rfl, rfl, rfl, rfl⟩
theorem f6_6 {x : PySem.Str} {n : Nat} (h : n = 6) : fld x n 0 = pv x 0 ∧ fld x n 1 = pv x 1 ∧ fld x n 2 = pv x 2 ∧ fld x n 3 = pv x 3 ∧ fld x n 4 = pv x 4 ∧ fld x n 5 = pv x 5 := by
  subst h
  exact ⟨rfl, rfl, rfl, rfl, rfl, rfl⟩
theorem news_cons {h₀ h : Heap} {L a : Addr} {o : Obj} {r news : List (Addr × Obj)} (x : News h₀ L h ((a, o) :: r)) (y : News h₀ L h news) : News h₀ L h ((a, o) :: news) := fun q hq => by
  rcases List.mem_cons.mp hq with rfl | hq
  · exact x _ (.head _)
  · exact y q hq
end Mine
end
section
open PySem PySem.W PyProof.Rows
set_option maxRecDepth 100000
set_option maxHeartbeats 4000000
namespace Mine
theorem dfs_no {w : World} {mg mb : PySem.Str → Option Value} {loose : List PySem.Str} {mean : ExcName → Option Value} {news : List (Addr × Obj)} {dp un : Nat} {gd : Option (List Code)} {cn : PySem.Str} {cs : Scope} {a : Addr} {ccd : Value} {cl : List (PySem.Str × Addr)} {outer : List Env} {A₀ : Around} {base h₀ : Heap} {L : Addr} {m : PySem.Str → Option Value} {s : Shared} {Q E : Value → Shared → Prop} {x : PySem.Str} {t : Tok} (hx : x.length ≤ 60) (hf : fits x.cps = false)
    (B : Below A₀ base outer h₀) (F : Fr h₀ L s.heap m) (X : (hd.heap_39 w.params).In h₀) (N : News h₀ L s.heap news) (T : Top hd.view_39 loose mean mg mb h₀) (hkf : cs.kind = .function) (hroom : dp + 2 < recursionLimit) (hunits : un + 16 < cLine)
    (hexc : ∀ (e : Addr) (h' : Heap) (tk' : Nat), RaisedSN base s.heap (envX cn cs L a ccd cl :: outer) e (.type "AttributeError") [] h' → s.heap.UpToSlots h' → E (.ref e) { s with heap := h', toks := tk' }) :
    wpAny (model PySem.Challenge.rw_il0028_01.row.prog w) (ktrTop dp un gd cn cs L a ccd cl outer) (call (.ref 66) [.str x t, .bool false]) Q E s := by
  k_with_none
  k_with "eval Tuple" => (k_here; dsimp only; (try k_gentoks))
  k_with "eval Call" => (k_here; dsimp only; (try k_gentoks))
  k_with "eval Attribute" => (k_here; dsimp only; (try k_gentoks))
  k_with "exec Assign" => (k_here; dsimp only; (try k_gentoks))
  k_with "exec If" => (k_here; dsimp only; (try k_gentoks))
  k_with "exec For" => (k_here; dsimp only; (try k_gentoks))
  k_with "execs cons" => (k_here; dsimp only; (try k_gentoks))
  k_with "execs nil" => (k_here; dsimp only; (try k_gentoks))
  k_with "pyIter ref" => (k_here; dsimp only; (try k_gentoks))
  k_with "newTuple" => (k_here; dsimp only; (try k_gentoks))
  k_with "assign Tuple" => (k_here; dsimp only; (try k_gentoks))
  k_with "ItemsRest" => (dsimp only)
  k_with "UnrPostW" => (dsimp only)
  k_with "UnrEndW" => (dsimp only)
  k_with "getMethod ref" => (k_here; k_dflt (refine' Mine.gm_pat ?k0 ?k1 ?k2 ?_; (case k0 => exact rfl); (case k1 => k_asm); (case k2 => k_asm); k_whole))
  k_with "call builtin:re.Pattern.match" => (k_here; k_dflt (refine' Mine.call_match_no ?k1 ?k2 ?k3 ?k4 ?_; (case k1 => k_asm); (case k2 => k_asm); (case k3 => assumption); (case k4 => assumption); k_whole))
  k_with "getMethod none" => (k_here; k_dflt (refine' Mine.gm_none ?k0 ?k1 ?_; (case k0 => exact rfl); (case k1 => exact rfl); k_whole; intro h' tk' e' hx'; (try dsimp only)))
  k_with "leaving ref" => (k_here; k_dflt (refine' Mine.leave_ofS ?k0 ?k1 ?k2 ?_; (case k0 => k_asm); (case k1 => first | assumption | exact Heap.NewExc.of (by assumption)); (case k2 => assumption); k_whole; intro h' R' U'; (try dsimp only)))
  w_on
  (revert X; k_fill; intro X)
  refine wpAny_call ?_
  w_strict (k_dflt (refine' Mine.code0 ?k1 ?k2 ?k3 ?k5 ?kA ?kF ?kK ?k6 ?k7 ?k8 ?k9 ?kB ?_ ?c2 ?c3 ?c4 ?c5; (case kA => exact rfl); (case kF => exact rfl); (case kK => assumption); (case k1 => k_asm); (case k2 => k_asm); (case k3 => k_asm); (case k5 => k_asm); (case k6 => k_is); (case k7 => k_is); (case k8 => ktr_room); (case k9 => exact BindsTo.of_eq rfl); (case c5 => decide); (case kB => exact locs rfl); (case c2 => exact rfl); (case c3 => exact rfl); (case c4 => exact rfl); k_whole; intro L' h' F' N' B' X' T'; (try dsimp only); (try k_lift B'); (try k_fold)); k_steps; all_goals (exact hexc _ _ _ (by assumption) (by assumption)))
end Mine
end
section
open PySem PySem.W PyProof.Rows
set_option maxRecDepth 100000
set_option maxHeartbeats 4000000
namespace Mine
theorem dfs_yes {w : World} {mg mb : PySem.Str → Option Value} {loose : List PySem.Str} {mean : ExcName → Option Value} {news : List (Addr × Obj)} {dp un : Nat} {gd : Option (List Code)} {cn : PySem.Str} {cs : Scope} {a : Addr} {ccd : Value} {cl : List (PySem.Str × Addr)} {outer : List Env} {A₀ : Around} {base h₀ : Heap} {L : Addr} {m : PySem.Str → Option Value} {s : Shared} {Q E : Value → Shared → Prop} {x : PySem.Str} {t : Tok} (hx : x.length ≤ 60) (hf : fits x.cps = true)
    (B : Below A₀ base outer h₀) (F : Fr h₀ L s.heap m) (X : (hd.heap_39 w.params).In h₀) (N : News h₀ L s.heap news) (T : Top hd.view_39 loose mean mg mb h₀) (hkf : cs.kind = .function) (hroom : dp + 2 < recursionLimit) (hunits : un + 16 < cLine)
    (hT : partsN x.cps < 3 → ∀ (e : Addr) (h' : Heap) (tk' : Nat), RaisedSN base s.heap (envX cn cs L a ccd cl :: outer) e (.type "TypeError") [] h' → s.heap.UpToSlots h' → E (.ref e) { s with heap := h', toks := tk' })
    (hV : 3 ≤ partsN x.cps → ¬ Good7 (fld x (partsN x.cps) 0) (fld x (partsN x.cps) 1) (fld x (partsN x.cps) 2) (fld x (partsN x.cps) 3) (fld x (partsN x.cps) 4) (fld x (partsN x.cps) 5) 0 → ∀ (e : Addr) (h' : Heap) (tk' : Nat), RaisedSN base s.heap (envX cn cs L a ccd cl :: outer) e (.type "ValueError") [] h' → s.heap.UpToSlots h' → E (.ref e) { s with heap := h', toks := tk' })
    (hret : 3 ≤ partsN x.cps → Good7 (fld x (partsN x.cps) 0) (fld x (partsN x.cps) 1) (fld x (partsN x.cps) 2) (fld x (partsN x.cps) 3) (fld x (partsN x.cps) 4) (fld x (partsN x.cps) 5) 0 → ∀ (b : Addr) (h' : Heap) (tk' : Nat), Fr h₀ L h' m → News h₀ L h' ((b, dtObj (fld x (partsN x.cps) 0) (fld x (partsN x.cps) 1) (fld x (partsN x.cps) 2) (fld x (partsN x.cps) 3) (fld x (partsN x.cps) 4) (fld x (partsN x.cps) 5) 0) :: news) → Q (.ref b) { s with heap := h', toks := tk' }) :
    wpAny (model PySem.Challenge.rw_il0028_01.row.prog w) (ktrTop dp un gd cn cs L a ccd cl outer) (call (.ref 66) [.str x t, .bool false]) Q E s := by
  k_with_none
  k_with "eval Tuple" => (k_here; dsimp only; (try k_gentoks))
  k_with "eval Call" => (k_here; dsimp only; (try k_gentoks))
  k_with "eval Attribute" => (k_here; dsimp only; (try k_gentoks))
  k_with "exec Assign" => (k_here; dsimp only; (try k_gentoks))
  k_with "exec If" => (k_here; dsimp only; (try k_gentoks))
  k_with "exec For" => (k_here; dsimp only; (try k_gentoks))
  k_with "execs cons" => (k_here; dsimp only; (try k_gentoks))
  k_with "execs nil" => (k_here; dsimp only; (try k_gentoks))
  k_with "pyIter ref" => (k_here; dsimp only; (try k_gentoks))
  k_with "newTuple" => (k_here; dsimp only; (try k_gentoks))
  k_with "assign Tuple" => (k_here; dsimp only; (try k_gentoks))
  k_with "ItemsRest" => (dsimp only)
  k_with "UnrPostW" => (dsimp only)
  k_with "UnrEndW" => (dsimp only)
  k_with "getMethod ref" => (k_here; k_dflt (refine' Mine.gm_mat ?k0 ?k1 ?k2 ?_; (case k0 => exact rfl); (case k1 => k_asm); (case k2 => k_mem); k_whole))
  k_with "getMethod ref" => (k_here; k_dflt (refine' Mine.gm_pat ?k0 ?k1 ?k2 ?_; (case k0 => exact rfl); (case k1 => k_asm); (case k2 => k_asm); k_whole))
  k_with "call builtin:re.Pattern.match" => (k_here; k_dflt (refine' Mine.call_match_ok ?k1 ?k2 ?k5 ?k3 ?k4 ?_; (case k1 => k_asm); (case k2 => k_asm); (case k5 => k_asm); (case k3 => assumption); (case k4 => assumption); k_whole; intro sp' b' h' F' N'; (try dsimp only)))
  k_with "call builtin:re.Match.groupdict" => (k_here; k_dflt (refine' Mine.call_gd ?k1 ?k2 ?k3 ?k4 ?k5 ?k6 ?k7 ?_; (case k1 => k_asm); (case k2 => k_asm); (case k3 => k_asm); (case k4 => assumption); (case k6 => k_mem); (case k7 => k_mem); (case k5 => exact (Mine.partsN_spec _).1); k_whole; intro D' o' h' tk' ts' F' N' I' l1; (try dsimp only)))
  k_with "call type:int" => (k_here; k_dflt (refine' Mine.int_part ?k1 ?_; (case k1 => assumption); k_whole))
  k_with "leaving ref" => (k_here; k_dflt (refine' Mine.leave_ofS ?k0 ?k1 ?k2 ?_; (case k0 => k_asm); (case k1 => first | assumption | exact Heap.NewExc.of (by assumption)); (case k2 => assumption); k_whole; intro h' R' U'; (try dsimp only)))
  k_with "call builtin:list.append" => (k_here; dsimp only [List.cons_append, List.nil_append])
  k_with "callWith type:datetime.datetime" => (k_here; k_dflt (refine' Mine.callWith_T ?_; k_whole))
  k_with "call type:datetime.datetime" => (k_here; (try dsimp only [List.cons_append, List.nil_append]); k_dflt (first | (refine' Mine.date_1 ?hh ?b0 ?_; (case hh => exact rfl); (case b0 => exact Mine.pv_bound (Mine.fits_all (by omega))); k_whole; intro h' tk' e' hx') | (refine' Mine.date_2 ?hh ?b0 ?b1 ?_; (case hh => exact rfl); (case b0 => exact Mine.pv_bound (Mine.fits_all (by omega))); (case b1 => exact Mine.pv_bound (Mine.fits_all (by omega))); k_whole; intro h' tk' e' hx') | (refine' Mine.dateK_3 ?kF ?kN ?hh ?b0 ?b1 ?b2 ?_ ?_; (case kF => k_asm); (case kN => k_asm); (case hh => exact rfl); (case b0 => exact Mine.pv_bound (Mine.fits_all (by omega))); (case b1 => exact Mine.pv_bound (Mine.fits_all (by omega))); (case b2 => exact Mine.pv_bound (Mine.fits_all (by omega))); all_goals (intro hg9 v9 w9 y9 z9; (try dsimp only))) | (refine' Mine.dateK_4 ?kF ?kN ?hh ?b0 ?b1 ?b2 ?b3 ?_ ?_; (case kF => k_asm); (case kN => k_asm); (case hh => exact rfl); (case b0 => exact Mine.pv_bound (Mine.fits_all (by omega))); (case b1 => exact Mine.pv_bound (Mine.fits_all (by omega))); (case b2 => exact Mine.pv_bound (Mine.fits_all (by omega))); (case b3 => exact Mine.pv_bound (Mine.fits_all (by omega))); all_goals (intro hg9 v9 w9 y9 z9; (try dsimp only))) | (refine' Mine.dateK_5 ?kF ?kN ?hh ?b0 ?b1 ?b2 ?b3 ?b4 ?_ ?_; (case kF => k_asm); (case kN => k_asm); (case hh => exact rfl); (case b0 => exact Mine.pv_bound (Mine.fits_all (by omega))); (case b1 => exact Mine.pv_bound (Mine.fits_all (by omega))); (case b2 => exact Mine.pv_bound (Mine.fits_all (by omega))); (case b3 => exact Mine.pv_bound (Mine.fits_all (by omega))); (case b4 => exact Mine.pv_bound (Mine.fits_all (by omega))); all_goals (intro hg9 v9 w9 y9 z9; (try dsimp only))) | (refine' Mine.dateK_6 ?kF ?kN ?hh ?b0 ?b1 ?b2 ?b3 ?b4 ?b5 ?_ ?_; (case kF => k_asm); (case kN => k_asm); (case hh => exact rfl); (case b0 => exact Mine.pv_bound (Mine.fits_all (by omega))); (case b1 => exact Mine.pv_bound (Mine.fits_all (by omega))); (case b2 => exact Mine.pv_bound (Mine.fits_all (by omega))); (case b3 => exact Mine.pv_bound (Mine.fits_all (by omega))); (case b4 => exact Mine.pv_bound (Mine.fits_all (by omega))); (case b5 => exact Mine.pv_bound (Mine.fits_all (by omega))); all_goals (intro hg9 v9 w9 y9 z9; (try dsimp only))) ))
  k_with "subscriptTail" => (k_here; k_dflt (first | (refine' Mine.gd_item 0 ?k0 ?k1 ?k2 ?k3 ?k4 ?_ ?_ ?k5; (case k0 => exact rfl); (case k1 => decide); (case k2 => k_asm); (case k4 => assumption); (case k3 => k_mem); (case k5 => with_unfolding_all rfl)) | (refine' Mine.gd_item 1 ?k0 ?k1 ?k2 ?k3 ?k4 ?_ ?_ ?k5; (case k0 => exact rfl); (case k1 => decide); (case k2 => k_asm); (case k4 => assumption); (case k3 => k_mem); (case k5 => with_unfolding_all rfl)) | (refine' Mine.gd_item 2 ?k0 ?k1 ?k2 ?k3 ?k4 ?_ ?_ ?k5; (case k0 => exact rfl); (case k1 => decide); (case k2 => k_asm); (case k4 => assumption); (case k3 => k_mem); (case k5 => with_unfolding_all rfl)) | (refine' Mine.gd_item 3 ?k0 ?k1 ?k2 ?k3 ?k4 ?_ ?_ ?k5; (case k0 => exact rfl); (case k1 => decide); (case k2 => k_asm); (case k4 => assumption); (case k3 => k_mem); (case k5 => with_unfolding_all rfl)) | (refine' Mine.gd_item 4 ?k0 ?k1 ?k2 ?k3 ?k4 ?_ ?_ ?k5; (case k0 => exact rfl); (case k1 => decide); (case k2 => k_asm); (case k4 => assumption); (case k3 => k_mem); (case k5 => with_unfolding_all rfl)) | (refine' Mine.gd_item 5 ?k0 ?k1 ?k2 ?k3 ?k4 ?_ ?_ ?k5; (case k0 => exact rfl); (case k1 => decide); (case k2 => k_asm); (case k4 => assumption); (case k3 => k_mem); (case k5 => with_unfolding_all rfl))); all_goals (intro hn9; (first | (exfalso; omega) | skip); (try dsimp only)))
  have hsix : partsN x.cps ≤ 6 := (partsN_spec _).1
  have hone : 1 ≤ partsN x.cps := by
    unfold fits at hf
    simp only [Bool.and_eq_true, decide_eq_true_eq] at hf
    exact hf.1
  w_on
  (revert X; k_fill; intro X)
  refine wpAny_call ?_
  w_strict (k_dflt (refine' Mine.code0 ?k1 ?k2 ?k3 ?k5 ?kA ?kF ?kK ?k6 ?k7 ?k8 ?k9 ?kB ?_ ?c2 ?c3 ?c4 ?c5; (case kA => exact rfl); (case kF => exact rfl); (case kK => assumption); (case k1 => k_asm); (case k2 => k_asm); (case k3 => k_asm); (case k5 => k_asm); (case k6 => k_is); (case k7 => k_is); (case k8 => ktr_room); (case k9 => exact BindsTo.of_eq rfl); (case c5 => decide); (case kB => exact locs rfl); (case c2 => exact rfl); (case c3 => exact rfl); (case c4 => exact rfl); k_whole; intro L' h' F' N' B' X' T'; (try dsimp only); (try k_lift B'); (try k_fold)); k_steps; all_goals (first | exact hT (by omega) _ _ _ (by assumption) (by assumption) | (have e9 : partsN x.cps = 3 := (by omega); obtain ⟨g0, g1, g2, g3, g4, g5⟩ := Mine.f6_3 (x := x) e9; rw [g0, g1, g2, g3, g4, g5] at hret hV; first | exact hret (by omega) (by assumption) _ _ _ (by assumption) (Mine.news_cons (by assumption) (Mine.news_keep N (Fr.keep (by assumption)))) | exact hV (by omega) (by assumption) _ _ _ (by assumption) (by assumption)) | (have e9 : partsN x.cps = 4 := (by omega); obtain ⟨g0, g1, g2, g3, g4, g5⟩ := Mine.f6_4 (x := x) e9; rw [g0, g1, g2, g3, g4, g5] at hret hV; first | exact hret (by omega) (by assumption) _ _ _ (by assumption) (Mine.news_cons (by assumption) (Mine.news_keep N (Fr.keep (by assumption)))) | exact hV (by omega) (by assumption) _ _ _ (by assumption) (by assumption)) | (have e9 : partsN x.cps = 5 := (by omega); obtain ⟨g0, g1, g2, g3, g4, g5⟩ := Mine.f6_5 (x := x) e9; rw [g0, g1, g2, g3, g4, g5] at hret hV; first | exact hret (by omega) (by assumption) _ _ _ (by assumption) (Mine.news_cons (by assumption) (Mine.news_keep N (Fr.keep (by assumption)))) | exact hV (by omega) (by assumption) _ _ _ (by assumption) (by assumption)) | (have e9 : partsN x.cps = 6 := (by omega); obtain ⟨g0, g1, g2, g3, g4, g5⟩ := Mine.f6_6 (x := x) e9; rw [g0, g1, g2, g3, g4, g5] at hret hV; first | exact hret (by omega) (by assumption) _ _ _ (by assumption) (Mine.news_cons (by assumption) (Mine.news_keep N (Fr.keep (by assumption)))) | exact hV (by omega) (by assumption) _ _ _ (by assumption) (by assumption))))
end Mine
end
section
open PySem PySem.W PySem.Calls PyProof.Rows
set_option maxRecDepth 100000
set_option maxHeartbeats 1000000
namespace Mine
section
variable {prog : Program} {w : World} {A : Around} {E : Value → Shared → Prop} {s : Shared} {h₀ : Heap} {L b : Addr} {m : PySem.Str → Option Value} {ex : Bool} {Q : Value → Shared → Prop} {y mo d h mi sc us : Int} {nm : PySem.Str}
theorem at_year (hn : nm = "year") (F : Fr h₀ L s.heap m) (hb : h₀.get? b = some (dtObj y mo d h mi sc us)) (k : ∀ t tk, Q (.int y t) { s with toks := tk }) : wpAny (model prog w) A (getAttr (.ref b) nm ex) Q E s := by
  subst hn; exact attr_dt_year (F.keep _ _ hb) (k _ _)
theorem at_month (hn : nm = "month") (F : Fr h₀ L s.heap m) (hb : h₀.get? b = some (dtObj y mo d h mi sc us)) (k : ∀ t tk, Q (.int mo t) { s with toks := tk }) : wpAny (model prog w) A (getAttr (.ref b) nm ex) Q E s := by
  subst hn; exact attr_dt_month (F.keep _ _ hb) (k _ _)
theorem at_day (hn : nm = "day") (F : Fr h₀ L s.heap m) (hb : h₀.get? b = some (dtObj y mo d h mi sc us)) (k : ∀ t tk, Q (.int d t) { s with toks := tk }) : wpAny (model prog w) A (getAttr (.ref b) nm ex) Q E s := by
  subst hn; exact attr_dt_day (F.keep _ _ hb) (k _ _)
theorem at_hour (hn : nm = "hour") (F : Fr h₀ L s.heap m) (hb : h₀.get? b = some (dtObj y mo d h mi sc us)) (k : ∀ t tk, Q (.int h t) { s with toks := tk }) : wpAny (model prog w) A (getAttr (.ref b) nm ex) Q E s := by
  subst hn; exact attr_dt_hour (F.keep _ _ hb) (k _ _)
theorem at_minute (hn : nm = "minute") (F : Fr h₀ L s.heap m) (hb : h₀.get? b = some (dtObj y mo d h mi sc us)) (k : ∀ t tk, Q (.int mi t) { s with toks := tk }) : wpAny (model prog w) A (getAttr (.ref b) nm ex) Q E s := by
  subst hn; exact attr_dt_minute (F.keep _ _ hb) (k _ _)
theorem at_second (hn : nm = "second") (F : Fr h₀ L s.heap m) (hb : h₀.get? b = some (dtObj y mo d h mi sc us)) (k : ∀ t tk, Q (.int sc t) { s with toks := tk }) : wpAny (model prog w) A (getAttr (.ref b) nm ex) Q E s := by
  subst hn; exact attr_dt_second (F.keep _ _ hb) (k _ _)
end
end Mine
end
section
open PySem PySem.W PySem.Calls PyProof.Rows
set_option maxRecDepth 100000
set_option maxHeartbeats 1000000
namespace Mine
open PySem.Builtin.Str
theorem field_pad {c : Percent} {W : Nat} {d : List Nat} (h1 : c.ljust = false) (h2 : c.sign = false) (h3 : c.blank = false) (h4 : c.alt = false) (h5 : c.zero = true) (h6 : c.width = some W) (h7 : c.prec = none) (h8 : c.type = 100)
    (hd : ∀ x ∈ d, 48 ≤ x) : percentField c true d = if W ≤ d.length then none else some (List.replicate (W - d.length) 48 ++ d) := by
  unfold percentField
  by_cases hW : W ≤ d.length
  · simp [h2, h3, h6, h7, hW]
  · simp only [h2, h3, h6, h7, h8, h4, h1, h5, Option.all_some, Option.all_none, decide_eq_true_eq]
    rw [if_neg (by simp; omega), if_neg hW]
    simp only [show ((100 : Nat) == 115 || (100 : Nat) == 114 || (100 : Nat) == 97) = false from rfl, Bool.not_true, Bool.false_eq_true, if_false, Bool.false_and, Bool.and_self, if_true]
    split
    · have := hd 45 (.head _); omega
    · have := hd 43 (.head _); omega
    · simp
theorem mul0 {k : Int} (h : k ≤ 4) : (Txt.mul (PySem.Str.ofString "0") k).cps = (List.replicate k.toNat 48).toArray := by
  by_cases h0 : k < 1
  · unfold Txt.mul
    rw [if_pos h0, show k.toNat = 0 by omega]
    rfl
  · have : k = 1 ∨ k = 2 ∨ k = 3 ∨ k = 4 := by omega
    rcases this with rfl | rfl | rfl | rfl <;> decide +kernel
theorem digits_of {n : Int} (hn : 0 ≤ n) : ∀ x ∈ (PySem.Str.ofString (toString n)).cps.toList, 48 ≤ x := by
  obtain ⟨m, rfl⟩ := Int.eq_ofNat_of_zero_le hn
  intro c hc
  rw [KIN.signs_num] at hc
  obtain ⟨ch, hch, e⟩ := List.mem_map.mp hc
  have r := digit_range (Nat.isDigit_of_mem_toDigits (by decide) (by decide) hch)
  rw [← e]
  exact r.1
section
variable {M : Model} {A : Around} {E : Value → Shared → Prop} {s : Shared} {l : List Nat} {p : List Value} {r : List Nat}
  {Q : ForInStep (List Value × Writer × List Nat) → Shared → Prop}
  {w : Writer} {T : PySem.Str} {N W : Nat} {o : Option Value}
theorem after_pad {c : Percent} {n : Int} {d : List Nat} (g : KPc.Good w T N) (h1 : c.ljust = false) (h2 : c.sign = false) (h3 : c.blank = false) (h4 : c.alt = false) (h5 : c.zero = true) (h6 : c.width = some W) (h7 : c.prec = none) (h8 : c.type = 100)
    (hW : W ≤ 4) (hn : 0 ≤ n) (hm : n < 10 ^ 10) (hd : d = (PySem.Str.ofString (toString ((n.natAbs : Nat) : Int))).cps.toList) (ho : o = none)
    (h : ∀ w', KPc.Good w' (T ++ Txt.mul (PySem.Str.ofString "0") ((W : Int) - ((PySem.Str.ofString (toString n)).length : Int)) ++ PySem.Str.ofString (toString n)) (N + 20) → Q (.yield (p, w', r)) s) :
    wpAny M A (match percentField c true (percentInt c (decide (n < 0)) d) with | none => pure (.yield (p, w.add ⟨(percentInt c (decide (n < 0)) d).toArray⟩ o, r)) | some laid => pure (.yield (p, w.add ⟨laid.toArray⟩, r))) Q E s := by
  have en : ((n.natAbs : Nat) : Int) = n := Int.natAbs_of_nonneg hn
  have hlen : (PySem.Str.ofString (toString n)).length ≤ 10 := toString_length_le (k := 10) hn (by decide) hm
  have hT : ∀ x y z : PySem.Str, x ++ y ++ z = x ++ (y ++ z) := fun x y z => congrArg PySem.Str.mk (by
    show (x ++ y).cps ++ z.cps = x.cps ++ (y ++ z).cps
    rw [PySem.Str.cps_append, PySem.Str.cps_append, Array.append_assoc])
  have hcl : (PySem.Str.ofString (toString n)).cps.toList.length = (PySem.Str.ofString (toString n)).length := Array.length_toList
  have fin : ∀ x : List Nat, (⟨x.toArray⟩ : PySem.Str) = Txt.mul (PySem.Str.ofString "0") ((W : Int) - ((PySem.Str.ofString (toString n)).length : Int)) ++ PySem.Str.ofString (toString n) → x.length ≤ 20 → ∀ o', o' = none →
      Q (.yield (p, w.add ⟨x.toArray⟩ o', r)) s := by
    intro x hx hxl o' ho'
    refine h _ ?_
    have g' := KPc.good_mono (KPc.good_add g (KPc.obj_none (x := (⟨x.toArray⟩ : PySem.Str)) ho')) (K := N + 20) (by
      show N + x.toArray.size ≤ N + 20
      rw [List.size_toArray]; omega)
    rw [hT, ← hx]
    exact g'
  rw [KPc.int_text c h4 (.inl h8) h7 hn, hd, en, field_pad h1 h2 h3 h4 h5 h6 h7 h8 (digits_of hn)]
  by_cases hc : W ≤ (PySem.Str.ofString (toString n)).cps.toList.length
  · rw [if_pos hc]
    refine wpAny_pure (fin _ ?_ (by omega) o ho)
    refine congrArg PySem.Str.mk ?_
    rw [mul0 (by omega), show ((W : Int) - ((PySem.Str.ofString (toString n)).length : Int)).toNat = 0 by omega]
    simp
  · rw [if_neg hc]
    refine wpAny_pure (fin _ ?_ (by rw [List.length_append, List.length_replicate]; omega) none rfl)
    refine congrArg PySem.Str.mk ?_
    rw [mul0 (by omega), show ((W : Int) - ((PySem.Str.ofString (toString n)).length : Int)).toNat = W - (PySem.Str.ofString (toString n)).cps.toList.length by omega]
    simp
end
/-- what a padded number's field asks -/
noncomputable def pc (W : Nat) : Percent := { zero := true, width := some W, type := 100 }
noncomputable def cvD1 (c : Percent) (n : Int) (_ : Unit) : Sem (List Nat × Option Value × Bool) :=
  mkInt ((n.natAbs : Nat) : Int) >>= fun a => call (.builtin "int.__repr__") [a] >>= fun b => asStr? b >>= fun x => match x with
    | some d => pure d.cps.toList >>= fun digits => pure (percentInt c (decide (n < 0)) digits, none, true)
    | _ => (unsupported "internal:str.__mod__" : Sem (List Nat)) >>= fun digits => pure (percentInt c (decide (n < 0)) digits, none, true)
noncomputable def cvD (c : Percent) (n : Int) : Sem (List Nat × Option Value × Bool) :=
  if tooLong 0 = true then (unsupported "str.__mod__:memory" : Sem Unit) >>= cvD1 c n else cvD1 c n ()
noncomputable def cvT1 (c : Percent) (n : Int) (t : Tok) (p : List Value) (w : Writer) (r : List Nat) (_ : Unit) : Sem (ForInStep (List Value × Writer × List Nat)) :=
  holding [.int n t] (cvD c n) >>= fun q => match percentField c q.2.2 q.1 with
    | none => pure (.yield (p, w.add ⟨q.1.toArray⟩ (if r.isEmpty then q.2.1 else none), r))
    | some laid => pure (.yield (p, w.add ⟨laid.toArray⟩ none, r))
noncomputable def cvT (W : Nat) (n : Int) (t : Tok) (p : List Value) (w : Writer) (r : List Nat) : Sem (ForInStep (List Value × Writer × List Nat)) :=
  if tooLong W = true then (unsupported "str.__mod__:memory" : Sem Unit) >>= cvT1 (pc W) n t p w r else cvT1 (pc W) n t p w r ()
theorem turn_y {β : Type} {M : Model} {A : Around} {E : Value → Shared → Prop} {s : Shared} {l : List Nat} {x : Nat} {b : β} {f : Nat → β → Sem (ForInStep β)} {Q : β → Shared → Prop}
    (h : wpAny M A (f x b) (fun r s' => ∃ b', r = .yield b' ∧ wpAny M A (forIn l b' f) Q E s') E s) : wpAny M A (forIn (x :: l) b f) Q E s :=
  KPc.turn (wpAny_mono h (fun r s' q => by obtain ⟨b', e, z⟩ := q; subst e; exact z) fun _ _ e => e)
theorem wp_eq {α : Type} {M : Model} {A : Around} {E : Value → Shared → Prop} {s : Shared} {t t' : Sem α} {Q : α → Shared → Prop} (e : t = t') (h : wpAny M A t' Q E s) : wpAny M A t Q E s := e ▸ h
section
variable {prog : Program} {wd : World} {A : Around} {E : Value → Shared → Prop} {s : Shared} {Q : ForInStep (List Value × Writer × List Nat) → Shared → Prop}
theorem cv_ok {W N : Nat} {n : Int} {t : Tok} {p : List Value} {w : Writer} {r : List Nat} {T : PySem.Str} (g : KPc.Good w T N) (hW : W ≤ 4) (hn : 0 ≤ n) (hm : n < 10 ^ 10)
    (h : ∀ w' k, KPc.Good w' (T ++ Txt.mul (PySem.Str.ofString "0") ((W : Int) - ((PySem.Str.ofString (toString n)).length : Int)) ++ PySem.Str.ofString (toString n)) (N + 20) → Q (.yield (p, w', r)) { s with toks := k }) :
    wpAny (model prog wd) A (cvT W n t p w r) Q E s := by
  have en : ((n.natAbs : Nat) : Int) = n := Int.natAbs_of_nonneg hn
  have hl : n.natAbs < 10 ^ 10 := by omega
  unfold cvT
  refine wpAny_ite (KPc.ite_no (KPc.short (by omega)) ?_)
  unfold cvT1
  refine wpAny_bind ?_
  refine wpAny_holding ?_
  unfold cvD
  refine wpAny_ite (KPc.ite_no (KPc.short (by omega)) ?_)
  unfold cvD1
  refine wpAny_bind (wpAny_mkInt ?_)
  refine wpAny_bind (call_gives F.slot_int_repr (typeIs_int _ _ _) F.entry_int_repr (F.args_int_repr_1 _) (gives_int_repr _ _ (KPt.hd2 (by kpt_hd))) ⟨int_text_fits (KPt.hd2 (by kpt_hd)), ?_⟩)
  refine wpAny_bind (wpAny_of_eq (a := some _) rfl ?_)
  dsimp only
  refine wpAny_bind (wpAny_pure ?_)
  refine wpAny_pure ?_
  refine Mine.after_pad g rfl rfl rfl rfl rfl rfl rfl rfl hW hn hm rfl (by kpc_none) ?_
  intro w' g'
  exact h w' _ g'
end
theorem fmt_meets {y mo d h mi sc : Int} {t0 t1 t2 t3 t4 t5 t : Tok} {b : Addr} (b0 : 0 ≤ y ∧ y ≤ 9999) (b1 : 0 ≤ mo ∧ mo ≤ 99) (b2 : 0 ≤ d ∧ d ≤ 99) (b3 : 0 ≤ h ∧ h ≤ 99) (b4 : 0 ≤ mi ∧ mi ≤ 99) (b5 : 0 ≤ sc ∧ sc ≤ 99) :
    Meets (Builtin.«str.__mod__» ⟨[.str ⟨#[37, 48, 52, 100, 45, 37, 48, 50, 100, 45, 37, 48, 50, 100, 84, 37, 48, 50, 100, 58, 37, 48, 50, 100, 58, 37, 48, 50, 100, 90]⟩ t, .ref b], []⟩)
      (fun _ R s => IsTup s.heap b #[.int y t0, .int mo t1, .int d t2, .int h t3, .int mi t4, .int sc t5] ∧ ∀ t' k, R (.ok (.ret (.str (rawText y mo d h mi sc) t'))) { s with toks := k }) := by
  apply KPt.meets_tup
  intro _ _ _ _ _ _ kptH _
  obtain ⟨kptO, kptG, kptC, kptN, kptD⟩ := kptH
  rw [KPt.entry_is_r]
  unfold Builtin.Str.percentFormat
  refine wpAny_bind (wpAny_isInstance (T := "tuple") ⟨kptO, kptG, kptC⟩ KPt.sub_tt ?_)
  refine wpAny_bind (KPt.asStr_ref kptG kptD ?_)
  refine wpAny_bind (KPt.fills_ref ⟨kptO, kptG, kptC⟩ ?_)
  intro _
  kpc_if
  refine wpAny_bind (wpAny_seqItems kptG kptD ?_)
  refine wpAny_bind (wpAny_pure ?_)
  refine wpAny_bind ?_
  rw [KPc.range_list]
  refine KPc.start ?_
  intro w0 g0
  refine turn_y ?_
  kpc_check
  refine wp_eq (t' := cvT 4 y t0 [.int mo t1, .int d t2, .int h t3, .int mi t4, .int sc t5] w0 [45, 37, 48, 50, 100, 45, 37, 48, 50, 100, 84, 37, 48, 50, 100, 58, 37, 48, 50, 100, 58, 37, 48, 50, 100, 90]) (by kernel_rfl) ?_
  refine cv_ok g0 (by decide) b0.1 (by omega) ?_
  intro w1 k1 g1
  refine ⟨_, rfl, ?_⟩
  refine turn_y ?_
  kpc_check
  refine wp_eq (t' := pure (.yield ([.int mo t1, .int d t2, .int h t3, .int mi t4, .int sc t5], Writer.add w1 ⟨#[45]⟩ none, [37, 48, 50, 100, 45, 37, 48, 50, 100, 84, 37, 48, 50, 100, 58, 37, 48, 50, 100, 58, 37, 48, 50, 100, 90]))) (by kernel_rfl) ?_
  refine wpAny_pure ?_
  refine ⟨_, rfl, ?_⟩
  refine KPc.after_add (y := PySem.Str.ofString "-") g1 (by decide +kernel) (KPc.obj_none rfl) ?_
  intro w2 g2
  refine turn_y ?_
  kpc_check
  refine wp_eq (t' := cvT 2 mo t1 [.int d t2, .int h t3, .int mi t4, .int sc t5] w2 [45, 37, 48, 50, 100, 84, 37, 48, 50, 100, 58, 37, 48, 50, 100, 58, 37, 48, 50, 100, 90]) (by kernel_rfl) ?_
  refine cv_ok g2 (by decide) b1.1 (by omega) ?_
  intro w3 k3 g3
  refine ⟨_, rfl, ?_⟩
  refine turn_y ?_
  kpc_check
  refine wp_eq (t' := pure (.yield ([.int d t2, .int h t3, .int mi t4, .int sc t5], Writer.add w3 ⟨#[45]⟩ none, [37, 48, 50, 100, 84, 37, 48, 50, 100, 58, 37, 48, 50, 100, 58, 37, 48, 50, 100, 90]))) (by kernel_rfl) ?_
  refine wpAny_pure ?_
  refine ⟨_, rfl, ?_⟩
  refine KPc.after_add (y := PySem.Str.ofString "-") g3 (by decide +kernel) (KPc.obj_none rfl) ?_
  intro w4 g4
  refine turn_y ?_
  kpc_check
  refine wp_eq (t' := cvT 2 d t2 [.int h t3, .int mi t4, .int sc t5] w4 [84, 37, 48, 50, 100, 58, 37, 48, 50, 100, 58, 37, 48, 50, 100, 90]) (by kernel_rfl) ?_
  refine cv_ok g4 (by decide) b2.1 (by omega) ?_
  intro w5 k5 g5
  refine ⟨_, rfl, ?_⟩
  refine turn_y ?_
  kpc_check
  refine wp_eq (t' := pure (.yield ([.int h t3, .int mi t4, .int sc t5], Writer.add w5 ⟨#[84]⟩ none, [37, 48, 50, 100, 58, 37, 48, 50, 100, 58, 37, 48, 50, 100, 90]))) (by kernel_rfl) ?_
  refine wpAny_pure ?_
  refine ⟨_, rfl, ?_⟩
  refine KPc.after_add (y := PySem.Str.ofString "T") g5 (by decide +kernel) (KPc.obj_none rfl) ?_
  intro w6 g6
  refine turn_y ?_
  kpc_check
  refine wp_eq (t' := cvT 2 h t3 [.int mi t4, .int sc t5] w6 [58, 37, 48, 50, 100, 58, 37, 48, 50, 100, 90]) (by kernel_rfl) ?_
  refine cv_ok g6 (by decide) b3.1 (by omega) ?_
  intro w7 k7 g7
  refine ⟨_, rfl, ?_⟩
  refine turn_y ?_
  kpc_check
  refine wp_eq (t' := pure (.yield ([.int mi t4, .int sc t5], Writer.add w7 ⟨#[58]⟩ none, [37, 48, 50, 100, 58, 37, 48, 50, 100, 90]))) (by kernel_rfl) ?_
  refine wpAny_pure ?_
  refine ⟨_, rfl, ?_⟩
  refine KPc.after_add (y := PySem.Str.ofString ":") g7 (by decide +kernel) (KPc.obj_none rfl) ?_
  intro w8 g8
  refine turn_y ?_
  kpc_check
  refine wp_eq (t' := cvT 2 mi t4 [.int sc t5] w8 [58, 37, 48, 50, 100, 90]) (by kernel_rfl) ?_
  refine cv_ok g8 (by decide) b4.1 (by omega) ?_
  intro w9 k9 g9
  refine ⟨_, rfl, ?_⟩
  refine turn_y ?_
  kpc_check
  refine wp_eq (t' := pure (.yield ([.int sc t5], Writer.add w9 ⟨#[58]⟩ none, [37, 48, 50, 100, 90]))) (by kernel_rfl) ?_
  refine wpAny_pure ?_
  refine ⟨_, rfl, ?_⟩
  refine KPc.after_add (y := PySem.Str.ofString ":") g9 (by decide +kernel) (KPc.obj_none rfl) ?_
  intro w10 g10
  refine turn_y ?_
  kpc_check
  refine wp_eq (t' := cvT 2 sc t5 [] w10 [90]) (by kernel_rfl) ?_
  refine cv_ok g10 (by decide) b5.1 (by omega) ?_
  intro w11 k11 g11
  refine ⟨_, rfl, ?_⟩
  refine turn_y ?_
  kpc_check
  refine wp_eq (t' := pure (.yield ([], Writer.add w11 ⟨#[90]⟩ none, ([] : List Nat)))) (by kernel_rfl) ?_
  refine wpAny_pure ?_
  refine ⟨_, rfl, ?_⟩
  refine KPc.after_add (y := PySem.Str.ofString "Z") g11 (by decide +kernel) (KPc.obj_none rfl) ?_
  intro w12 g12
  refine KPc.turn ?_
  kpc_check
  repeat kpc_if
  refine wpAny_pure ?_
  kpc_if
  refine KPc.finish_ok (T' := rawText y mo d h mi sc) (by kpc_g) (by decide +kernel) ?_ (by assumption)
  rfl
end Mine
end
section
open PySem PySem.W PyProof.Rows
set_option maxRecDepth 100000
set_option maxHeartbeats 4000000
namespace Mine
theorem dts_spec {w : World} {mg mb : PySem.Str → Option Value} {loose : List PySem.Str} {mean : ExcName → Option Value} {news : List (Addr × Obj)} {dp un : Nat} {gd : Option (List Code)} {cn : PySem.Str} {cs : Scope} {a : Addr} {ccd : Value} {cl : List (PySem.Str × Addr)} {outer : List Env} {A₀ : Around} {base h₀ : Heap} {L : Addr} {m : PySem.Str → Option Value} {s : Shared} {Q E : Value → Shared → Prop} {b : Addr} {y mo d h mi sc us : Int} (hb : s.heap.get? b = some (dtObj y mo d h mi sc us)) (h1 : 0 ≤ y ∧ y ≤ 9999) (h2 : 0 ≤ mo ∧ mo ≤ 99) (h3 : 0 ≤ d ∧ d ≤ 99) (h4 : 0 ≤ h ∧ h ≤ 99) (h5 : 0 ≤ mi ∧ mi ≤ 99) (h6 : 0 ≤ sc ∧ sc ≤ 99)
    (B : Below A₀ base outer h₀) (F : Fr h₀ L s.heap m) (X : (hd.heap_39 w.params).In h₀) (N : News h₀ L s.heap news) (T : Top hd.view_39 loose mean mg mb h₀) (hkf : cs.kind = .function) (hroom : dp + 2 < recursionLimit) (hunits : un + 16 < cLine)
    (hret : CbRet h₀ L m news s Q (fun t => .str (rawText y mo d h mi sc) t)) :
    wpAny (model PySem.Challenge.rw_il0028_01.row.prog w) (ktrTop dp un gd cn cs L a ccd cl outer) (call (.ref 73) [.ref b, .bool false]) Q E s := by
  k_with_none
  k_with "eval Tuple" => (k_here; dsimp only; (try k_gentoks))
  k_with "eval Call" => (k_here; dsimp only; (try k_gentoks))
  k_with "eval Attribute" => (k_here; dsimp only; (try k_gentoks))
  k_with "exec Assign" => (k_here; dsimp only; (try k_gentoks))
  k_with "exec If" => (k_here; dsimp only; (try k_gentoks))
  k_with "exec For" => (k_here; dsimp only; (try k_gentoks))
  k_with "execs cons" => (k_here; dsimp only; (try k_gentoks))
  k_with "execs nil" => (k_here; dsimp only; (try k_gentoks))
  k_with "pyIter ref" => (k_here; dsimp only; (try k_gentoks))
  k_with "newTuple" => (k_here; dsimp only; (try k_gentoks))
  k_with "assign Tuple" => (k_here; dsimp only; (try k_gentoks))
  k_with "ItemsRest" => (dsimp only)
  k_with "UnrPostW" => (dsimp only)
  k_with "UnrEndW" => (dsimp only)
  k_with "getAttr ref" => (k_here; k_dflt (first | (refine' Mine.at_year ?k0 ?k1 ?k2 ?_; (case k0 => exact rfl); (case k1 => k_asm); (case k2 => assumption); k_whole) | (refine' Mine.at_month ?k0 ?k1 ?k2 ?_; (case k0 => exact rfl); (case k1 => k_asm); (case k2 => assumption); k_whole) | (refine' Mine.at_day ?k0 ?k1 ?k2 ?_; (case k0 => exact rfl); (case k1 => k_asm); (case k2 => assumption); k_whole) | (refine' Mine.at_hour ?k0 ?k1 ?k2 ?_; (case k0 => exact rfl); (case k1 => k_asm); (case k2 => assumption); k_whole) | (refine' Mine.at_minute ?k0 ?k1 ?k2 ?_; (case k0 => exact rfl); (case k1 => k_asm); (case k2 => assumption); k_whole) | (refine' Mine.at_second ?k0 ?k1 ?k2 ?_; (case k0 => exact rfl); (case k1 => k_asm); (case k2 => assumption); k_whole)); intro t9 tk9; (try dsimp only))
  k_with "binaryOp Mod str ref" => (k_here; k_dflt (refine' KPt.mod_tuple (X' := ⟨#[37, 48, 52, 100, 45, 37, 48, 50, 100, 45, 37, 48, 50, 100, 84, 37, 48, 50, 100, 58, 37, 48, 50, 100, 58, 37, 48, 50, 100, 90]⟩) ?kN ?kb ?kF ?km ?_; (case kN => k_asm); (case kb => k_mem); (case kF => decide +kernel); (case km => refine' Mine.fmt_meets ?c0 ?c1 ?c2 ?c3 ?c4 ?c5; all_goals assumption); k_whole); intro t9 tk9; (try dsimp only))
  w_on
  (revert X; k_fill; intro X)
  refine wpAny_call ?_
  w_strict (k_dflt (refine' Mine.code0 ?k1 ?k2 ?k3 ?k5 ?kA ?kF ?kK ?k6 ?k7 ?k8 ?k9 ?kB ?_ ?c2 ?c3 ?c4 ?c5; (case kA => exact rfl); (case kF => exact rfl); (case kK => assumption); (case k1 => k_asm); (case k2 => k_asm); (case k3 => k_asm); (case k5 => k_asm); (case k6 => k_is); (case k7 => k_is); (case k8 => ktr_room); (case k9 => exact BindsTo.of_eq rfl); (case c5 => decide); (case kB => exact locs rfl); (case c2 => exact rfl); (case c3 => exact rfl); (case c4 => exact rfl); k_whole; intro L' h' F' N' B' X' T'; (try dsimp only); (try k_lift B'); (try k_fold)); k_steps; all_goals (exact cb_retS hret rfl (by assumption) (Mine.news_keep N (Fr.keep (by assumption)))))
end Mine
end
section
open PySem PySem.W PySem.Calls PyProof.Rows
set_option maxRecDepth 100000
set_option maxHeartbeats 1000000
namespace Mine
open LCg LCt
section
variable {prog : Program} {w : World} {A : Around} {E : Value → Shared → Prop} {s : Shared} {h₀ : Heap} {L : Addr} {m : PySem.Str → Option Value} {env : Env}
theorem str_st {I : Addr} {T : String} {tx : PySem.Str} {t : Tok} : ∀ i (h h' : Heap) (o : Obj) (nw : List (Addr × Obj)), h.IsStrIter I T tx t i → h.get? I = some o → h'.get? I = some o → (∀ b o, h₀.get? b = some o → h'.get? b = some o) → News h₀ L h' nw → True → h'.IsStrIter I T tx t i :=
  fun i h h' o nw st e e' _ _ _ => by obtain ⟨o', q, r⟩ := st; rw [e] at q; cases q; exact ⟨o, e', r⟩
theorem ListComp_S {ct elt iter : PySem.Expr} {x : PySem.Str} {px : Pos} {scope : Scope} {cl : List (PySem.Str × Addr)} {pos : Pos} {Q : Value → Shared → Prop}
    (hclos : closureFor scope env = pure cl) (hcell : ∀ y ∈ scope.names, y.2 ≠ .cell) (hkind : scope.kind = .function)
    (hnames : ∀ y ∈ scope.names, y.2 = .local → scope.names.lookup y.1 = some .local) (hx : scope.names.lookup x = some .local)
    (h : wpAny (model prog w) A (eval iter env) (fun xv s₁ => ∃ tx t news, xv = .str tx t ∧ A.handled = none ∧ Fr h₀ L s₁.heap m ∧ News h₀ L s₁.heap news ∧ tx.cps.size ≤ sizeLine ∧
      ∀ g : Heap, CompRestT prog w A h₀ L m env ct elt x scope cl { s₁ with heap := g } (fun _ => True) (SignAt tx) (FinE h₀ L m { s₁ with heap := g } Q) tx.cps.size 0 [] news) E s)
    (hs : ∀ x, foldedSetIterable iter env x = pure x) :
    wpAny (model prog w) A (eval (.ListComp elt [⟨.Name x px, iter, [ct], 0⟩] scope pos) env) Q E s := by
  rw [eval_ListComp]
  refine wpAny_comprehension_free (use := none) rfl hs hclos hkind hnames (wpAny_mono h (fun xv s₁ h₁ => ?_) fun _ _ e => e)
  obtain ⟨tx, t, news, rfl, hh, F, N, hsz, R⟩ := h₁
  cases ha : tx.cps.all (· < 128)
  · refine wpAny_pyIter_wide ha ?_
    refine block_T (Walks.strWide hh s₁.heap.objs.size tx t) hsz (fun i h st => by obtain ⟨o, e, _⟩ := st; exact ⟨o, e⟩) str_st hcell hkind hx ⟨_, Heap.get?_push_size _ rfl, rfl, rfl⟩ (fun b hb => ?_)
      (F.keeps fun _ _ e => Heap.get?_push_of_some _ e) (N.grown fun _ _ e => Heap.get?_push_of_some _ e) (Nat.ne_of_lt F.ns.lt) (next_is_new F) (fun p hp => Nat.ne_of_lt (Heap.lt_size (N p hp).1)) trivial (R _) ?_
    · rw [List.mem_singleton.mp hb]
      show s₁.heap.objs.size < (s₁.heap.push _).objs.size
      rw [Heap.size_push]; exact Nat.lt_succ_self _
    · intro D C h tk m' ys news' F' N' o1 hn hC₀ hD₀ hCL hDL hCD offC fin
      refine ⟨m', hn, fun h'' hs'' => fin D h'' tk (F'.change hs'' hCL hC₀) (fun p hp => ?_) o1⟩
      refine ⟨hs''.extBut _ _ ?_ (N' p hp).1, (N' p hp).2⟩
      rcases List.mem_cons.mp hp with rfl | hp
      · exact Ne.symm hCD
      · exact offC p hp
  · refine wpAny_pyIter_ascii ha ?_
    refine block_T (Walks.strAscii hh s₁.heap.objs.size tx t) hsz (fun i h st => by obtain ⟨o, e, _⟩ := st; exact ⟨o, e⟩) str_st hcell hkind hx ⟨_, Heap.get?_push_size _ rfl, rfl, rfl⟩ (fun b hb => ?_)
      (F.keeps fun _ _ e => Heap.get?_push_of_some _ e) (N.grown fun _ _ e => Heap.get?_push_of_some _ e) (Nat.ne_of_lt F.ns.lt) (next_is_new F) (fun p hp => Nat.ne_of_lt (Heap.lt_size (N p hp).1)) trivial (R _) ?_
    · rw [List.mem_singleton.mp hb]
      show s₁.heap.objs.size < (s₁.heap.push _).objs.size
      rw [Heap.size_push]; exact Nat.lt_succ_self _
    · intro D C h tk m' ys news' F' N' o1 hn hC₀ hD₀ hCL hDL hCD offC fin
      refine ⟨m', hn, fun h'' hs'' => fin D h'' tk (F'.change hs'' hCL hC₀) (fun p hp => ?_) o1⟩
      refine ⟨hs''.extBut _ _ ?_ (N' p hp).1, (N' p hp).2⟩
      rcases List.mem_cons.mp hp with rfl | hp
      · exact Ne.symm hCD
      · exact offC p hp
end
/-- how many figures stand in a text -/
noncomputable def figs (cs : List Nat) : Nat := (cs.filter Sre.isDigit).length
noncomputable def digs : PySem.Str := PySem.Str.ofString "0123456789"
theorem in_digs (c : Nat) : (!(Builtin.Str.occurrences digs ⟨#[c]⟩ 0 digs.length 1).isEmpty) = Sre.isDigit c := by
  rw [StrLaws.found_one]
  have e : digs.cps.toList = [48, 49, 50, 51, 52, 53, 54, 55, 56, 57] := by decide +kernel
  rw [e]
  unfold Sre.isDigit
  by_cases h : 48 ≤ c ∧ c ≤ 57
  · exact (by decide : ∀ c : Nat, c < 58 → 48 ≤ c → decide (c ∈ [48, 49, 50, 51, 52, 53, 54, 55, 56, 57]) = (decide (48 ≤ c) && decide (c ≤ 57))) c (by omega) h.1
  · have h2 : (decide (48 ≤ c) && decide (c ≤ 57)) = false := by
      rw [← Bool.decide_and]
      exact decide_eq_false h
    rw [h2]
    refine Bool.eq_false_iff.mpr fun q => h ?_
    have hm : c ∈ [48, 49, 50, 51, 52, 53, 54, 55, 56, 57] := of_decide_eq_true q
    exact (by decide : ∀ c ∈ [48, 49, 50, 51, 52, 53, 54, 55, 56, 57], 48 ≤ c ∧ c ≤ 57) c hm
section
variable {prog : Program} {w : World} {A : Around} {E : Value → Shared → Prop} {s : Shared} {h₀ : Heap} {L : Addr} {m : PySem.Str → Option Value} {env : Env}
theorem count_rest {x : PySem.Str} {p1 p2 p3 p4 : Pos} {k : Nat} {scope : Scope} {cl : List (PySem.Str × Addr)} {tx : PySem.Str} {Q : Value → Shared → Prop} {news : List (Addr × Obj)}
    (hkind : scope.kind = .function) (hx : scope.names.lookup x = some .local) (hd : (x == ("__debug__" : PySem.Str)) = false)
    (h : ∀ D ys h tk, Fr h₀ L h m → News h₀ L h ((D, lst ys) :: news) → ys.length = figs tx.cps.toList → Q (.ref D) { s with heap := h, toks := tk }) :
    CompRestT prog w A h₀ L m env (.Compare (.Name x p1) [.In] [.Constant (.str digs) k p2] p3) (.Name x p4) x scope cl s (fun _ => True) (SignAt tx) (FinE h₀ L m s Q) tx.cps.size 0 [] news := by
  have key : ∀ (j i : Nat) (ys : List Value), i + j = tx.cps.size → ys.length = figs (tx.cps.toList.take i) →
      CompRestT prog w A h₀ L m env (.Compare (.Name x p1) [.In] [.Constant (.str digs) k p2] p3) (.Name x p4) x scope cl s (fun _ => True) (SignAt tx) (FinE h₀ L m s Q) j i ys news := by
    intro j
    induction j with
    | zero =>
      intro i ys hi hy
      refine CompRestT.zero fun D h' tk F' N' _ => h D ys h' tk F' N' ?_
      rw [hy, List.take_of_length_le (by rw [Array.length_toList]; omega)]
    | succ j ih =>
      intro i ys hi hy
      refine CompRestT.succ ?_
      intro v I oI C oC D m₂ h' tk E' hv hC hx₂ F N off ne
      obtain ⟨c, u, hc, rfl⟩ := hv
      have hk : (compEnvC scope cl C env).kindOf x = some .local := lookup_relabel_local hx
      have hN : h'.Ns C m₂ := hC.ns (N.get (List.mem_cons_of_mem _ List.mem_cons_self))
      have htk : tx.cps.toList.take (i + 1) = tx.cps.toList.take i ++ [c] := by
        rw [List.take_add_one, Array.getElem?_toList, hc]; rfl
      have hfg : figs (tx.cps.toList.take (i + 1)) = figs (tx.cps.toList.take i) + (if Sre.isDigit c then 1 else 0) := by
        rw [htk]
        unfold figs
        rw [List.filter_append, List.length_append]
        congr 1
        cases hd' : Sre.isDigit c <;> simp [hd']
      refine wpAny_isTrue_Compare1 ?_ rfl
      refine wpAny_Name (wpAny_loadName_local (by exact hkind) hk hN hx₂ ?_) hd
      refine Calls.Constant_str ?_
      refine in_str ?_
      rw [in_digs]
      refine wpAny_truthy_bool ?_
      cases hd' : Sre.isDigit c with
      | true =>
        simp only [if_true]
        refine wpAny_Name (wpAny_loadName_local (by exact hkind) hk hN hx₂ ?_) hd
        refine ⟨_, _, news, rfl, F, N, off, trivial, ih (i + 1) _ (by omega) ?_⟩
        rw [List.length_append, List.length_singleton, hfg, hd', hy]; rfl
      | false =>
        simp only [Bool.false_eq_true, if_false]
        refine ⟨_, _, news, rfl, F, N, off, trivial, ih (i + 1) _ (by omega) ?_⟩
        rw [hfg, hd', hy]; rfl
  exact key tx.cps.size 0 [] (by omega) rfl
theorem comp_K {cn : PySem.Str} {cs : Scope} {a : Addr} {ccd : Value} {ce : List (PySem.Str × Addr)} {x fn : PySem.Str} {p1 p2 p3 p4 p5 px : Pos} {k : Nat} {scope : Scope} {cl : List (PySem.Str × Addr)} {tx : PySem.Str} {t : Tok} {pos : Pos} {Q : Value → Shared → Prop} {news : List (Addr × Obj)}
    (F : Fr h₀ L s.heap m) (N : News h₀ L s.heap news) (hv : m fn = some (.str tx t)) (hh : A.handled = none) (hsz : tx.length ≤ 100)
    (hclos : closureFor scope (envX cn cs L a ccd ce) = pure cl) (hcell : ∀ y ∈ scope.names, y.2 ≠ .cell) (hkind : scope.kind = .function)
    (hnames : ∀ y ∈ scope.names, y.2 = .local → scope.names.lookup y.1 = some .local) (hx : scope.names.lookup x = some .local) (hd : (x == ("__debug__" : PySem.Str)) = false)
    (hk : cs.kind = .function) (hl : (envX cn cs L a ccd ce).kindOf fn = some .local) (hd' : (fn == ("__debug__" : PySem.Str)) = false)
    (h : ∀ D ys h tk, Fr h₀ L h m → News h₀ L h ((D, LCg.lst ys) :: news) → ys.length = figs tx.cps.toList → ys.length ≤ 100 → Q (.ref D) { s with heap := h, toks := tk }) :
    wpAny (model prog w) A (eval (.ListComp (.Name x p4) [⟨.Name x px, .Name fn p5, [.Compare (.Name x p1) [.In] [.Constant (.str digs) k p2] p3], 0⟩] scope pos) (envX cn cs L a ccd ce)) Q E s := by
  refine ListComp_S (h₀ := h₀) (L := L) (m := m) hclos hcell hkind hnames hx ?_ (fun _ => rfl)
  refine wpAny_Name (wpAny_loadName_local (by exact hk) hl F.ns hv ?_) hd'
  refine ⟨tx, t, news, rfl, hh, F, N, Nat.le_trans hsz (by decide), fun g => count_rest hkind hx hd fun D ys h' tk F' N' hy => h D ys h' tk F' N' hy ?_⟩
  rw [hy]
  refine Nat.le_trans (List.length_filter_le ..) ?_
  rw [Array.length_toList]
  exact hsz
end
theorem fr_c1 {h₀ h : Heap} {L : Addr} {m : PySem.Str → Option Value} (F : Fr h₀ L h m) (x1 : PySem.Str) {v1 : Value} (h1 : m x1 = some v1) :
    ∃ u : PySem.Str → Option Value, Fr h₀ L h (fun z => if z = x1 then some v1 else u z) := by
  refine ⟨m, ?_⟩
  have e : (fun z => if z = x1 then some v1 else m z) = m := by
    funext z
    split <;> simp_all
  rw [e]; exact F
end Mine
end
section
open PySem PySem.W PySem.Calls PyProof.Rows PySem.NumText
set_option maxRecDepth 100000
set_option maxHeartbeats 1000000
namespace Mine
open PySem.Builtin.Str
theorem picked (x : PySem.Str) (a k : Nat) (h : a + k ≤ x.cps.size) : ((List.range k).map (a + ·)).filterMap (x.cps[·]?) = (x.cps.extract a (a + k)).toList := by
  induction k with
  | zero => simp
  | succ k ih =>
    rw [List.range_succ, List.map_append, List.filterMap_append, ih (by omega)]
    have hlt : a + k < x.cps.size := by omega
    have e : x.cps.extract a (a + (k + 1)) = (x.cps.extract a (a + k)).push x.cps[a + k] := by
      rw [← Nat.add_assoc]
      apply Array.ext
      · simp
        try omega
      · intro i h1 h2
        simp only [Array.getElem_extract, Array.getElem_push, Array.size_extract]
        split
        · rfl
        · have : a + i = a + k := by simp at h1; omega
          simp [this]
    rw [e, Array.toList_push]
    congr 1
    simp [hlt]
theorem max_min (k l : Nat) : max 0 (min (k : Int) (l : Int)) = ((min k l : Nat) : Int) := by
  rcases Nat.le_total k l with h | h
  · rw [Nat.min_eq_left h, Int.min_eq_left (Int.ofNat_le.mpr h), Int.max_eq_right (Int.natCast_nonneg k)]
  · rw [Nat.min_eq_right h, Int.min_eq_right (Int.ofNat_le.mpr h), Int.max_eq_right (Int.natCast_nonneg l)]
theorem ext_end (t : Array Nat) (i j : Nat) : t.extract i (min j t.size) = t.extract i j := by
  rcases Nat.le_total j t.size with h | h
  · rw [Nat.min_eq_left h]
  · rw [Nat.min_eq_right h]
    apply Array.ext
    · rw [Array.size_extract, Array.size_extract, Nat.min_self, Nat.min_eq_right h]
    · intro k h1 h2
      simp only [Array.getElem_extract]
theorem ext_none (t : Array Nat) (i j : Nat) (h : t.size ≤ i) : t.extract i j = #[] := by
  apply Array.eq_empty_of_size_eq_zero
  rw [Array.size_extract]
  exact Nat.sub_eq_zero_of_le (Nat.le_trans (Nat.min_le_right ..) h)
theorem ext_min (t : Array Nat) (i j : Nat) (h : i ≤ j) : t.extract (min i t.size) (min i t.size + (min j t.size - min i t.size)) = t.extract i j := by
  have hm : min i t.size ≤ min j t.size := by
    rcases Nat.le_total j t.size with q | q
    · rw [Nat.min_eq_left q]; exact Nat.le_trans (Nat.min_le_left ..) h
    · rw [Nat.min_eq_right q]; exact Nat.min_le_right ..
  rw [Nat.add_sub_cancel' hm, ext_end]
  rcases Nat.le_total i t.size with q | q
  · rw [Nat.min_eq_left q]
  · rw [Nat.min_eq_right q, ext_none t _ _ (Nat.le_refl _), ext_none t _ _ q]
theorem slice_nat (x : PySem.Str) (i j : Nat) (h : i ≤ j) : Txt.slice x (some (i : Int)) (some (j : Int)) = ⟨x.cps.extract i j⟩ := by
  have hidx : strSliceIndices (some (i : Int)) (some (j : Int)) 1 x.length = (List.range (min j x.length - min i x.length)).map (min i x.length + ·) := by
    unfold strSliceIndices
    have e : ∀ k : Nat, (if (1 : Int) > 0 then max 0 (min (if ((k : Nat) : Int) < 0 then (k : Int) + (x.length : Int) else (k : Int)) (x.length : Int)) else max (-1) (min (if ((k : Nat) : Int) < 0 then (k : Int) + (x.length : Int) else (k : Int)) ((x.length : Int) - 1))) = ((min k x.length : Nat) : Int) := by
      intro k
      rw [if_pos (by decide), if_neg (Int.not_lt.mpr (Int.natCast_nonneg k))]
      exact max_min _ _
    dsimp only
    rw [e i, e j]
    exact sliceRange_one _ _
  have he : x.cps.extract (min i x.length) (min i x.length + (min j x.length - min i x.length)) = x.cps.extract i j := ext_min _ _ _ h
  have hn : x.length = x.cps.size := rfl
  have hp := picked x (min i x.length) (min j x.length - min i x.length) (by
    have q := Nat.min_le_right i x.length
    have q2 := Nat.min_le_right j x.length
    rw [hn] at q q2 ⊢
    generalize min i x.cps.size = c at *
    generalize min j x.cps.size = d at *
    omega)
  unfold Txt.slice
  rw [hidx]
  split
  · rename_i hc
    simp only [List.length_map, List.length_range, Bool.and_eq_true, beq_iff_eq] at hc
    have hc2 := hc.2
    have : x.cps.extract i j = x.cps := by
      apply Array.ext
      · simp; omega
      · intro k h1 h2
        simp only [Array.getElem_extract]
        congr 1
        simp at h1
        omega
    rw [this]
  · rw [hp, he]
theorem ask_eq {t : Array Nat} {w p : Nat} (hw : w ≠ 0) : ask t w p = true ↔ t.extract p (p + 1) = #[w] := by
  unfold ask
  simp only [hw, if_false, Bool.and_eq_true, decide_eq_true_eq, beq_iff_eq]
  constructor
  · rintro ⟨h1, h2⟩
    apply Array.ext
    · simp; omega
    · intro i hi _
      simp at hi
      have : i = 0 := by omega
      subst this
      simp [Array.getD_eq_getD_getElem?, h1] at h2
      simp [h2]
  · intro h
    have hs := congrArg Array.size h
    simp at hs
    have hlt : p < t.size := by omega
    refine ⟨hlt, ?_⟩
    have h0 := congrArg (fun a : Array Nat => a[0]?) h
    simp [hlt] at h0
    simp [Array.getD_eq_getD_getElem?, hlt]
    have h2 := h0
    simp [Array.getElem?_extract] at h2
    have h3 := h2.2
    simp [hlt] at h3
    exact h3
theorem figs_all {l : List Nat} (h : figs l = l.length) : AllDigits l := by
  unfold figs at h
  have := List.length_filter_eq_length_iff.mp h
  intro c hc
  have := this c hc
  unfold Sre.isDigit at this
  simpa using this
theorem figs_of {l : List Nat} (h : ∀ c ∈ l, Sre.isDigit c = true) : figs l = l.length := List.length_filter_eq_length_iff.mpr h
theorem slice_at {x : PySem.Str} {a b : Int} (i j : Nat) (ha : a = (i : Int)) (hb : b = (j : Int)) (h : i ≤ j) : Txt.slice x (some a) (some b) = ⟨x.cps.extract i j⟩ := by
  subst ha hb; exact slice_nat x i j h
theorem str_one {w : Nat} {ld : PySem.Str} (h : ld.cps = #[w]) : ld = ⟨#[w]⟩ := by cases ld; cases h; rfl
theorem ask_lead {x ld : PySem.Str} {a b : Int} {i : Nat} (h1 : 1 ≤ i) (h5 : i ≤ 5) (ha : a = ((3 * i + 1 : Nat) : Int)) (hb : b = ((3 * i + 2 : Nat) : Int)) (hl : ld.cps = #[leadAt i]) : (Txt.slice x (some a) (some b) = ld) ↔ ask x.cps (leadAt i) (3 * i + 1) = true := by
  rw [slice_at _ _ ha hb (by omega), str_one hl, ask_eq (leadAt_ne i h1 h5).1]
  constructor
  · intro h; exact congrArg PySem.Str.cps h
  · intro h; exact congrArg PySem.Str.mk h
/-- the figures of the i-th part are all figures -/
theorem fx {t : Array Nat} {s e W : Nat} (hse : s + W = e) (hW : 0 < W) : figs (t.extract s e).toList = W ↔ ∀ p, s ≤ p → p < e → ask t 0 p = true := by
  have hsz : (t.extract s e).toList.length = min e t.size - s := by rw [Array.length_toList, Array.size_extract]
  constructor
  · intro h p h1 h2
    have hle : figs (t.extract s e).toList ≤ (t.extract s e).toList.length := List.length_filter_le ..
    have hm1 := Nat.min_le_left e t.size
    have hm2 := Nat.min_le_right e t.size
    have hlen : (t.extract s e).toList.length = W := by
      rw [h] at hle
      rw [hsz] at hle ⊢
      clear h hsz
      generalize min e t.size = z at *
      omega
    have hps : p < t.size := by
      rw [hsz] at hlen
      clear h hsz hle
      generalize min e t.size = z at *
      omega
    have hd := figs_all (h.trans hlen.symm)
    have hi : p - s < (t.extract s e).toList.length := by
      rw [hlen]
      clear h hsz hle hd hlen hm1 hm2
      omega
    have hm := hd _ (List.getElem_mem hi)
    have ev : (t.extract s e).toList[p - s] = t.getD p 0 := by
      rw [Array.getElem_toList, Array.getElem_extract]
      simp only [Nat.add_sub_cancel' h1]
      rw [Array.getD_eq_getD_getElem?, Array.getElem?_eq_getElem hps]
      rfl
    rw [ev] at hm
    unfold ask Sre.isDigit
    rw [decide_eq_true hps, if_pos rfl, decide_eq_true hm.1, decide_eq_true hm.2]
    rfl
  · intro h
    obtain ⟨hd, hl⟩ := slice_digits (t := t) (a := s) (b := e) (by omega) h
    rw [figs_of, hl]
    · omega
    · intro c hc
      have := hd c hc
      unfold Sre.isDigit
      simp [this]
theorem figs_iff {x : PySem.Str} {a b : Int} {i n : Nat} (ha : a = ((if i = 0 then 0 else 3 * i + 2 : Nat) : Int)) (hb : b = ((3 * i + 4 : Nat) : Int)) (hy : n = figs (Txt.slice x (some a) (some b)).cps.toList) :
    ((n : Int) = (if i = 0 then 4 else 2)) ↔ (∀ p, (if i = 0 then 0 else 3 * i + 2) ≤ p → p < 3 * i + 4 → ask x.cps 0 p = true) := by
  have hle : (if i = 0 then 0 else 3 * i + 2) ≤ 3 * i + 4 := by split <;> omega
  rw [slice_at _ _ ha hb hle] at hy
  subst hy
  by_cases h0 : i = 0
  · subst h0
    refine Iff.trans ?_ (fx (t := x.cps) (s := 0) (e := 4) (W := 4) rfl (by decide))
    exact Int.ofNat_inj
  · rw [if_neg h0, if_neg h0]
    refine Iff.trans ?_ (fx (t := x.cps) (s := 3 * i + 2) (e := 3 * i + 4) (W := 2) rfl (by decide))
    exact Int.ofNat_inj
theorem fit_iff0 {t : Array Nat} : fitAt t 0 = true ↔ ∀ p, 0 ≤ p → p < 4 → ask t 0 p = true := by
  unfold fitAt
  simp only [if_true, Bool.and_eq_true]
  constructor
  · rintro ⟨⟨⟨h0, h1⟩, h2⟩, h3⟩ p _ hp
    have : p = 0 ∨ p = 1 ∨ p = 2 ∨ p = 3 := by omega
    rcases this with rfl | rfl | rfl | rfl <;> assumption
  · intro h
    exact ⟨⟨⟨h 0 (by omega) (by omega), h 1 (by omega) (by omega)⟩, h 2 (by omega) (by omega)⟩, h 3 (by omega) (by omega)⟩
theorem fit_iff {t : Array Nat} {i : Nat} (h : 1 ≤ i) : fitAt t i = true ↔ ask t (leadAt i) (3 * i + 1) = true ∧ ∀ p, 3 * i + 2 ≤ p → p < 3 * i + 4 → ask t 0 p = true := by
  unfold fitAt
  rw [if_neg (by omega)]
  simp only [Bool.and_eq_true]
  constructor
  · rintro ⟨⟨h0, h1⟩, h2⟩
    refine ⟨h0, fun p _ hp => ?_⟩
    have : p = 3 * i + 2 ∨ p = 3 * i + 3 := by omega
    rcases this with rfl | rfl <;> assumption
  · rintro ⟨h0, h⟩
    exact ⟨⟨h0, h _ (by omega) (by omega)⟩, h _ (by omega) (by omega)⟩
theorem no_lead {x ld : PySem.Str} {a b : Int} {i : Nat} (h1 : 1 ≤ i) (h5 : i ≤ 5) (h : ¬ Txt.slice x (some a) (some b) = ld) (ha : a = ((3 * i + 1 : Nat) : Int)) (hb : b = ((3 * i + 2 : Nat) : Int)) (hl : ld.cps = #[leadAt i]) : fitAt x.cps i = false := by
  cases hf : fitAt x.cps i with
  | false => rfl
  | true => exact absurd ((ask_lead h1 h5 ha hb hl).mpr ((fit_iff h1).mp hf).1) h
theorem no_figs {x : PySem.Str} {a b : Int} {i n : Nat} (h : ¬ (n : Int) = (if i = 0 then 4 else 2)) (hy : n = figs (Txt.slice x (some a) (some b)).cps.toList) (ha : a = ((if i = 0 then 0 else 3 * i + 2 : Nat) : Int)) (hb : b = ((3 * i + 4 : Nat) : Int)) : fitAt x.cps i = false := by
  cases hf : fitAt x.cps i with
  | false => rfl
  | true =>
    refine absurd ((figs_iff ha hb hy).mpr ?_) h
    by_cases h0 : i = 0
    · subst h0; exact fit_iff0.mp hf
    · rw [if_neg h0]; exact ((fit_iff (by omega)).mp hf).2
theorem yes_fit0 {x : PySem.Str} {a b : Int} {n : Nat} (h : (n : Int) = 4) (hy : n = figs (Txt.slice x (some a) (some b)).cps.toList) (ha : a = 0) (hb : b = 4) : fitAt x.cps 0 = true :=
  fit_iff0.mpr ((figs_iff (i := 0) ha hb hy).mp h)
theorem yes_fit {x ld : PySem.Str} {a b c d : Int} {i n : Nat} (h1 : 1 ≤ i) (h5 : i ≤ 5) (hle : Txt.slice x (some c) (some d) = ld) (hc : c = ((3 * i + 1 : Nat) : Int)) (hd : d = ((3 * i + 2 : Nat) : Int)) (hl : ld.cps = #[leadAt i])
    (h : (n : Int) = 2) (hy : n = figs (Txt.slice x (some a) (some b)).cps.toList) (ha : a = ((3 * i + 2 : Nat) : Int)) (hb : b = ((3 * i + 4 : Nat) : Int)) : fitAt x.cps i = true := by
  refine (fit_iff h1).mpr ⟨(ask_lead h1 h5 hc hd hl).mp hle, ?_⟩
  have := (figs_iff (i := i) (by rw [if_neg (by omega)]; exact ha) hb hy).mp (by rw [if_neg (by omega)]; exact h)
  rw [if_neg (by omega)] at this
  exact this
theorem partsN_of {t : Array Nat} {n : Nat} (hn : n ≤ 6) (h : ∀ k, k < n → fitAt t k = true) (h' : n < 6 → fitAt t n = false) : partsN t = n := by
  obtain ⟨h6, hall, hno⟩ := partsN_spec t
  rcases Nat.lt_trichotomy (partsN t) n with hl | he | hg
  · have := h _ hl
    rw [hno (by omega)] at this
    cases this
  · exact he
  · have := hall n hg
    rw [h' (by omega)] at this
    cases this
section
variable {prog : Program} {w : World} {A : Around} {E : Value → Shared → Prop} {s : Shared} {h₀ : Heap} {L : Addr} {m : PySem.Str → Option Value} {news : List (Addr × Obj)}
theorem int_fig {x : PySem.Str} {i n : Nat} {a b : Int} {t : Tok} {Q : Value → Shared → Prop} (hy : n = figs (Txt.slice x (some a) (some b)).cps.toList) (hn : (n : Int) = (if i = 0 then 4 else 2))
    (ha : a = ((if i = 0 then 0 else 3 * i + 2 : Nat) : Int)) (hb : b = ((3 * i + 4 : Nat) : Int)) (h : Q (.int (pv x i) s.toks) { s with toks := s.toks + 1 }) :
    wpAny (model prog w) A (call (.type "int") [.str (Txt.slice x (some a) (some b)) t]) Q E s := by
  have hle : (if i = 0 then 0 else 3 * i + 2) ≤ 3 * i + 4 := by split <;> omega
  have hf := (figs_iff ha hb hy).mp hn
  have hs := slice_digits (t := x.cps) (a := if i = 0 then 0 else 3 * i + 2) (b := 3 * i + 4) (by split <;> omega) hf
  rw [slice_at _ _ ha hb hle]
  have hlen : (partT x i).cps.toList.length ≤ 4 := by
    show (x.cps.extract _ _).toList.length ≤ 4
    rw [hs.2]; split <;> omega
  refine KIN.call_text (n := pv x i) (intText_digits hs.1 ?_ ?_) ?_ h
  · intro e
    have := congrArg List.length e
    rw [hs.2] at this
    revert this
    simp only [List.length_nil]
    split <;> omega
  · show (partT x i).cps.size ≤ 4300
    rw [← Array.length_toList]; omega
  · show (partT x i).cps.size ≤ 640
    rw [← Array.length_toList]; omega
theorem len_lst {D : Addr} {ys : List Value} {Q : Value → Shared → Prop} (N : News h₀ L s.heap news) (hm : (D, LCg.lst ys) ∈ news) (hl : ys.length ≤ 100) (h : ∀ t k, Q (.int (ys.length : Int) t) { s with toks := k }) :
    wpAny (model prog w) A (call (.builtin "len") [.ref D]) Q E s := by
  refine Calls.call_len_list (items := ys.toArray) ⟨_, N.get hm, rfl, _, rfl⟩ (by rw [List.size_toArray]; omega) ?_
  rw [List.size_toArray]
  exact h _ _
end
end Mine
end
section
open PySem PySem.W PySem.Calls PyProof.Rows PySem.NumText
set_option maxRecDepth 100000
set_option maxHeartbeats 1000000
namespace Mine
section
variable {prog : Program} {w : World} {A : Around} {E : Value → Shared → Prop} {s : Shared} {h₀ : Heap} {L : Addr} {news : List (Addr × Obj)}
theorem len_drop {D : Addr} {ys : List Value} {Q : Value → Shared → Prop} (N : News h₀ L s.heap ((D, LCg.lst ys) :: news)) (hl : ys.length ≤ 100) (h : ∀ t k, News h₀ L s.heap news → Q (.int (ys.length : Int) t) { s with toks := k }) :
    wpAny (model prog w) A (call (.builtin "len") [.ref D]) Q E s :=
  len_lst N List.mem_cons_self hl fun t k => h t k fun p hp => N p (List.mem_cons_of_mem _ hp)
end
theorem no_lead0 {x ld : PySem.Str} {a b : Int} (h : (Txt.slice x (some a) (some b) != ld) = true) (ha : a = 0) (hb : b = 0) (hl : ld = ⟨#[]⟩) : False := by
  rw [slice_at 0 0 ha hb (Nat.le_refl _), hl] at h
  have e : (⟨x.cps.extract 0 0⟩ : PySem.Str) = ⟨#[]⟩ := by simp
  rw [e] at h
  simp at h
theorem no_leadB {x ld : PySem.Str} {a b : Int} {i : Nat} (h1 : 1 ≤ i) (h5 : i ≤ 5) (h : (Txt.slice x (some a) (some b) != ld) = true) (ha : a = ((3 * i + 1 : Nat) : Int)) (hb : b = ((3 * i + 2 : Nat) : Int)) (hl : ld.cps = #[leadAt i]) : fitAt x.cps i = false :=
  no_lead h1 h5 (by simpa using h) ha hb hl
theorem yes_fitB {x ld : PySem.Str} {a b c d : Int} {i n : Nat} (h1 : 1 ≤ i) (h5 : i ≤ 5) (hle : (Txt.slice x (some c) (some d) != ld) = false) (hc : c = ((3 * i + 1 : Nat) : Int)) (hd : d = ((3 * i + 2 : Nat) : Int)) (hl : ld.cps = #[leadAt i])
    (h : (n : Int) = 2) (hy : n = figs (Txt.slice x (some a) (some b)).cps.toList) (ha : a = ((3 * i + 2 : Nat) : Int)) (hb : b = ((3 * i + 4 : Nat) : Int)) : fitAt x.cps i = true :=
  yes_fit h1 h5 (by simpa using hle) hc hd hl h hy ha hb
theorem pn0 {t : Array Nat}  (g : fitAt t 0 = false) : partsN t = 0 :=
  partsN_of (by decide) (fun k hk => by
    omega) (fun h => g)
theorem pn1 {t : Array Nat} (f0 : fitAt t 0 = true) (g : fitAt t 1 = false) : partsN t = 1 :=
  partsN_of (by decide) (fun k hk => by
    have : k = 0 := by omega
    rcases this with rfl <;> assumption) (fun h => g)
theorem pn2 {t : Array Nat} (f0 : fitAt t 0 = true) (f1 : fitAt t 1 = true) (g : fitAt t 2 = false) : partsN t = 2 :=
  partsN_of (by decide) (fun k hk => by
    have : k = 0 ∨ k = 1 := by omega
    rcases this with rfl | rfl <;> assumption) (fun h => g)
theorem pn3 {t : Array Nat} (f0 : fitAt t 0 = true) (f1 : fitAt t 1 = true) (f2 : fitAt t 2 = true) (g : fitAt t 3 = false) : partsN t = 3 :=
  partsN_of (by decide) (fun k hk => by
    have : k = 0 ∨ k = 1 ∨ k = 2 := by omega
    rcases this with rfl | rfl | rfl <;> assumption) (fun h => g)
theorem pn4 {t : Array Nat} (f0 : fitAt t 0 = true) (f1 : fitAt t 1 = true) (f2 : fitAt t 2 = true) (f3 : fitAt t 3 = true) (g : fitAt t 4 = false) : partsN t = 4 :=
  partsN_of (by decide) (fun k hk => by
    have : k = 0 ∨ k = 1 ∨ k = 2 ∨ k = 3 := by omega
    rcases this with rfl | rfl | rfl | rfl <;> assumption) (fun h => g)
theorem pn5 {t : Array Nat} (f0 : fitAt t 0 = true) (f1 : fitAt t 1 = true) (f2 : fitAt t 2 = true) (f3 : fitAt t 3 = true) (f4 : fitAt t 4 = true) (g : fitAt t 5 = false) : partsN t = 5 :=
  partsN_of (by decide) (fun k hk => by
    have : k = 0 ∨ k = 1 ∨ k = 2 ∨ k = 3 ∨ k = 4 := by omega
    rcases this with rfl | rfl | rfl | rfl | rfl <;> assumption) (fun h => g)
theorem pn6 {t : Array Nat} (f0 : fitAt t 0 = true) (f1 : fitAt t 1 = true) (f2 : fitAt t 2 = true) (f3 : fitAt t 3 = true) (f4 : fitAt t 4 = true) (f5 : fitAt t 5 = true)  : partsN t = 6 :=
  partsN_of (by decide) (fun k hk => by
    have : k = 0 ∨ k = 1 ∨ k = 2 ∨ k = 3 ∨ k = 4 ∨ k = 5 := by omega
    rcases this with rfl | rfl | rfl | rfl | rfl | rfl <;> assumption) (fun h => absurd h (by decide))
end Mine
end
section
open PySem PySem.W PyProof.Rows
set_option maxRecDepth 100000
set_option maxHeartbeats 4000000
local macro_rules | `(tactic| passes_own) => `(tactic| assumption)
namespace Mine
theorem g7 {y mo d h mi sc : Int} (g : Good7 y mo d h mi sc 0) : 1 ≤ y ∧ 1 ≤ mo ∧ mo ≤ 12 ∧ h ≤ 23 ∧ mi ≤ 59 ∧ sc ≤ 59 ∧ 1 ≤ d ∧ d ≤ mdays y mo := by
  have := g.d2
  rw [daysInMonth_eq ⟨g.m1, g.m2⟩] at this
  exact ⟨g.y1, g.m1, g.m2, g.h2, g.i2, g.s2, g.d1, this⟩
theorem mk7 {y mo d h mi sc : Int} (y1 : 1 ≤ y) (y2 : y ≤ 9999) (m1 : 1 ≤ mo) (m2 : mo ≤ 12) (d1 : 1 ≤ d) (d2 : d ≤ mdays y mo) (h1 : 0 ≤ h ∧ h ≤ 23) (i1 : 0 ≤ mi) (i2 : mi ≤ 59) (s1 : 0 ≤ sc) (s2 : sc ≤ 59) : Good7 y mo d h mi sc 0 :=
  ⟨y1, y2, m1, m2, d1, by rw [daysInMonth_eq ⟨m1, m2⟩]; exact d2, h1.1, h1.2, i1, i2, s1, s2, by decide, by decide⟩
theorem sum_cum {y : Int} : ∀ n : Nat, n ≤ 11 → ((rangeKs 1 n).map (fun k' => mdays y k')).sum = cum y ((n : Int) + 1) := by
  intro n
  induction n with
  | zero => intro _; simp [rangeKs, cum]
  | succ n ih =>
    intro hn
    have e : rangeKs 1 (n + 1) = rangeKs 1 n ++ [1 + (n : Int)] := by
      unfold rangeKs
      rw [List.range_succ, List.map_append]; rfl
    rw [e, List.map_append, List.sum_append, ih (by omega)]
    have m := mdays_one (y := y) (m := (n : Int) + 1) (by omega)
    have e2 : ((n + 1 : Nat) : Int) + 1 = ((n : Int) + 1) + 1 := by omega
    rw [e2, m]
    simp
    rw [Int.add_comm 1 (n : Int)]
theorem sec_eq {y mo d h mi sc : Int} (m1 : 1 ≤ mo) (m2 : mo ≤ 12) : (ahead y + (List.map (fun k' => mdays y k') (rangeKs 1 (mo - 1).toNat)).sum + d - 1) * 86400 + h * 3600 + mi * 60 + sc = (ord y mo d - 1) * 86400 + h * 3600 + mi * 60 + sc := by
  rw [sum_cum _ (by omega)]
  have e : (((mo - 1).toNat : Nat) : Int) + 1 = mo := by omega
  rw [e]
  unfold ord
  omega
theorem due_last {w : World} {mg mb : PySem.Str → Option Value} {loose : List PySem.Str} {mean : ExcName → Option Value} {dp un : Nat} {gd : Option (List Code)} {outer : List Env} {A₀ : Around} {base h₀ : Heap} {L : Addr}{u : PySem.Str → Option Value} {s : Shared} {Q : Flow → Shared → Prop} {E : Value → Shared → Prop} {c : Addr} {co : Obj} {y mo d h mi sc : Int} {ty tm td th ti ts : Tok} (hy : 0 ≤ y ∧ y ≤ 9999) (hmo : 0 ≤ mo ∧ mo ≤ 99) (hdy : 0 ≤ d ∧ d ≤ 99) (hh : 0 ≤ h ∧ h ≤ 99) (hmi : 0 ≤ mi ∧ mi ≤ 99) (hsc : 0 ≤ sc ∧ sc ≤ 99) (hco : co.data = .cell (some (.int y ty)))
    (F : Fr h₀ L s.heap (fun z => if z = PySem.Str.ofString "month" then some (.int mo tm) else if z = PySem.Str.ofString "day" then some (.int d td) else if z = PySem.Str.ofString "hour" then some (.int h th) else if z = PySem.Str.ofString "minute" then some (.int mi ti) else if z = PySem.Str.ofString "second" then some (.int sc ts) else u z))
    (B : Below A₀ base outer h₀) (X : (hd.heap_39 w.params).In h₀) (N : News h₀ L s.heap [(c, co)]) (T : Top hd.view_39 loose mean mg mb h₀) (hroom : dp + 2 < recursionLimit) (hunits : un + 16 < cLine)
    (hE : PassesOwn (model PySem.Challenge.rw_il0028_01.row.prog w) (ktrTop dp un gd (fnd w.params 106).qualname (fnd w.params 106).scope L 106 (fnd w.params 106).code [(PySem.Str.ofString "year", c)] outer) (envX (fnd w.params 106).qualname (fnd w.params 106).scope L 106 (fnd w.params 106).code [(PySem.Str.ofString "year", c)]) E)
    (hV : ¬ Good7 y mo d h mi sc 0 → ∀ t u' h' tk' nw, Fr h₀ L h' u' → News h₀ L h' nw → Q (.ret (.str (PySem.Str.ofString "ValueError") t)) { s with heap := h', toks := tk' })
    (hG : Good7 y mo d h mi sc 0 → ∀ v t u' h' tk' nw, v = (ord y mo d - 1) * 86400 + h * 3600 + mi * 60 + sc → Fr h₀ L h' u' → News h₀ L h' nw → Q (.ret (.int v t)) { s with heap := h', toks := tk' }) :
    wpAny (model PySem.Challenge.rw_il0028_01.row.prog w) (ktrTop dp un gd (fnd w.params 106).qualname (fnd w.params 106).scope L 106 (fnd w.params 106).code [(PySem.Str.ofString "year", c)] outer) (execs ((fb w.params 106).drop 6) (envX (fnd w.params 106).qualname (fnd w.params 106).scope L 106 (fnd w.params 106).code [(PySem.Str.ofString "year", c)])) Q E s := by
  k_with_none
  k_with "eval Tuple" => (k_here; dsimp only; (try k_gentoks))
  k_with "eval Call" => (k_here; dsimp only; (try k_gentoks))
  k_with "eval Attribute" => (k_here; dsimp only; (try k_gentoks))
  k_with "exec Assign" => (k_here; dsimp only; (try k_gentoks))
  k_with "exec If" => (k_here; dsimp only; (try k_gentoks))
  k_with "exec For" => (k_here; dsimp only; (try k_gentoks))
  k_with "execs cons" => (k_here; dsimp only; (try k_gentoks))
  k_with "execs nil" => (k_here; dsimp only; (try k_gentoks))
  k_with "pyIter ref" => (k_here; dsimp only; (try k_gentoks))
  k_with "newTuple" => (k_here; dsimp only; (try k_gentoks))
  k_with "assign Tuple" => (k_here; dsimp only; (try k_gentoks))
  k_with "ItemsRest" => (dsimp only)
  k_with "UnrPostW" => (dsimp only)
  k_with "UnrEndW" => (dsimp only)
  k_with "call ref" => (k_here; k_dflt (refine' Mine.ahead_spec ?k1 ?k2 ?k3 ?k4 ?k5 ?kK ?kd ?ku ?_); (case k1 => k_asm); (case k2 => k_asm); (case k3 => k_asm); (case k4 => k_asm); (case k5 => k_asm); (case kK => first | exact rfl | assumption); (case kd => ktr_room); (case ku => ktr_units); intro t9 h9 tk9 F9 N9; (try dsimp only); (try k_fold))
  k_with "call ref" => (k_here; k_dflt (refine' Mine.days_spec ?k1 ?k2 ?k3 ?k4 ?k5 ?kK ?kd ?ku ?_); (case k1 => k_asm); (case k2 => k_asm); (case k3 => k_asm); (case k4 => k_asm); (case k5 => k_asm); (case kK => first | exact rfl | assumption); (case kd => ktr_room); (case ku => ktr_units); intro t9 h9 tk9 F9 N9; (try dsimp only); (try k_fold))
  w_on
  (revert X; k_fill; intro X)
  have efd := fnd_of (P := w.params) (f := 106) (by k_is)
  unfold fb
  rw [efd] at hE ⊢
  clear efd
  w_strict (dsimp only [List.drop] at hE ⊢; (try k_fold); k_steps; all_goals (dsimp only; first | (refine hV (fun g => ?_) _ _ _ _ _ (by assumption) (by assumption); (have g1 := Mine.g7 g); omega) | (refine hG (Mine.mk7 (by omega) (by omega) (by omega) (by omega) (by omega) (by omega) (by omega) (by omega) (by omega) (by omega) (by omega)) _ _ _ _ _ _ ?_ (by assumption) (by assumption); exact Mine.sec_eq (by omega) (by omega))))
end Mine
end
section
open PySem PySem.W PyProof.Rows
set_option maxRecDepth 100000
set_option maxHeartbeats 4000000
namespace Mine
theorem lk_eq {A B : Type} {a : A} {v : B} {r : Option B} {d : Decidable (a = a)} : (@ite _ (a = a) d (some v) r) = some v := if_pos rfl
theorem lk_n {A B : Type} {b a : A} {w r : Option B} {d : Decidable (b = a)} (h : b ≠ a) : (@ite _ (b = a) d w r) = r := if_neg h
theorem noB {x ld : PySem.Str} {a b : Int} {i : Nat} (h : (Txt.slice x (some a) (some b) != ld) = true) (hb : b = a + 1) (h1 : 1 ≤ i) (h5 : i ≤ 5) (hl : ld.cps = #[leadAt i]) (ha : a = ((3 * i + 1 : Nat) : Int)) : fitAt x.cps i = false :=
  no_leadB h1 h5 h ha (by omega) hl
theorem nofg {x : PySem.Str} {a b : Int} {i n : Nat} (h : ¬ (n : Int) = 2) (hy : n = figs (Txt.slice x (some a) (some b)).cps.toList) (h1 : 1 ≤ i) (ha : a = ((3 * i + 2 : Nat) : Int)) (hb : b = ((3 * i + 4 : Nat) : Int)) : fitAt x.cps i = false :=
  no_figs (by rw [if_neg (by omega)]; exact h) hy (by rw [if_neg (by omega)]; exact ha) hb
section
variable {prog : Program} {w : World} {A : Around} {E : Value → Shared → Prop} {s : Shared}
theorem int_figS {x : PySem.Str} {i n : Nat} {a b : Int} {t : Tok} {Q : Value → Shared → Prop} (h1 : 1 ≤ i) (hy : n = figs (Txt.slice x (some a) (some b)).cps.toList) (hn : (n : Int) = 2)
    (ha : a = ((3 * i + 2 : Nat) : Int)) (hb : b = ((3 * i + 4 : Nat) : Int)) (h : Q (.int (pv x i) s.toks) { s with toks := s.toks + 1 }) :
    wpAny (model prog w) A (call (.type "int") [.str (Txt.slice x (some a) (some b)) t]) Q E s :=
  int_fig hy (by rw [if_neg (by omega)]; exact hn) (by rw [if_neg (by omega)]; exact ha) hb h
end
end Mine
local macro_rules | `(tactic| passes_own) => `(tactic| assumption)
namespace Mine
theorem due_turn0 {w : World} {mg mb : PySem.Str → Option Value} {loose : List PySem.Str} {mean : ExcName → Option Value} {dp un : Nat} {gd : Option (List Code)} {outer : List Env} {A₀ : Around} {base h₀ : Heap} {L : Addr}{u : PySem.Str → Option Value} {s : Shared} {Q : Flow → Shared → Prop} {E : Value → Shared → Prop} {cl : List (PySem.Str × Addr)} {x : PySem.Str} {tx ta tl tz : Tok} {l : Addr} {news : List (Addr × Obj)} {arr : Array Value} {c : Nat} (hx : x.length ≤ 60) (hap : ∀ p ∈ news, p.1 ≠ l) (harr : arr.size ≤ 6) 
    (F : Fr h₀ L s.heap (fun z => if z = PySem.Str.ofString "text" then some (.str x tx) else if z = PySem.Str.ofString "parts" then some (.ref l) else if z = PySem.Str.ofString "at" then some (.int 0 ta) else if z = PySem.Str.ofString "lead" then some (.str (PySem.Str.ofString "") tl) else if z = PySem.Str.ofString "size" then some (.int 4 tz) else u z))
    (B : Below A₀ base outer h₀) (X : (hd.heap_39 w.params).In h₀) (N : News h₀ L s.heap ((l, W.listOf arr c) :: news)) (T : Top hd.view_39 loose mean mg mb h₀) (hroom : dp + 2 < recursionLimit) (hunits : un + 16 < cLine)
    (hE : PassesOwn (model PySem.Challenge.rw_il0028_01.row.prog w) (ktrTop dp un gd (fnd w.params 106).qualname (fnd w.params 106).scope L 106 (fnd w.params 106).code cl outer) (envX (fnd w.params 106).qualname (fnd w.params 106).scope L 106 (fnd w.params 106).code cl) E)
    (hbrk : fitAt x.cps 0 = false → ∀ (c' : Nat) (m' : PySem.Str → Option Value) (h' : Heap) (tk' : Nat), m' (PySem.Str.ofString "text") = some (.str x tx) → m' (PySem.Str.ofString "parts") = some (.ref l) → m' (PySem.Str.ofString "at") = some (.int 0 ta) → Fr h₀ L h' m' → News h₀ L h' ((l, W.listOf arr c') :: news) → Q .brk { s with heap := h', toks := tk' })
    (hnext : fitAt x.cps 0 = true → ∀ (t ta' : Tok) (a' : Int) (c' : Nat) (m' : PySem.Str → Option Value) (h' : Heap) (tk' : Nat), a' = 4 → m' (PySem.Str.ofString "text") = some (.str x tx) → m' (PySem.Str.ofString "parts") = some (.ref l) → m' (PySem.Str.ofString "at") = some (.int a' ta') → Fr h₀ L h' m' → News h₀ L h' ((l, W.listOf (arr.push (.int (pv x 0) t)) c') :: news) → Q .next { s with heap := h', toks := tk' }) :
    wpAny (model PySem.Challenge.rw_il0028_01.row.prog w) (ktrTop dp un gd (fnd w.params 106).qualname (fnd w.params 106).scope L 106 (fnd w.params 106).code cl outer) (execs (forBody (stAt (fb w.params 106) 2)) (envX (fnd w.params 106).qualname (fnd w.params 106).scope L 106 (fnd w.params 106).code cl)) Q E s := by
  k_with_none
  k_with "eval Tuple" => (k_here; dsimp only; (try k_gentoks))
  k_with "eval Call" => (k_here; dsimp only; (try k_gentoks))
  k_with "eval Attribute" => (k_here; dsimp only; (try k_gentoks))
  k_with "exec Assign" => (k_here; dsimp only; (try k_gentoks))
  k_with "exec If" => (k_here; dsimp only; (try k_gentoks))
  k_with "exec For" => (k_here; dsimp only; (try k_gentoks))
  k_with "execs cons" => (k_here; dsimp only; (try k_gentoks))
  k_with "execs nil" => (k_here; dsimp only; (try k_gentoks))
  k_with "pyIter ref" => (k_here; dsimp only; (try k_gentoks))
  k_with "newTuple" => (k_here; dsimp only; (try k_gentoks))
  k_with "assign Tuple" => (k_here; dsimp only; (try k_gentoks))
  k_with "ItemsRest" => (dsimp only)
  k_with "UnrPostW" => (dsimp only)
  k_with "UnrEndW" => (dsimp only)
  k_with "eval ListComp" => (k_here; k_dflt (refine' Mine.comp_K ?k1 ?k2 ?kv ?kh ?ks ?c1 ?c2 ?c3 ?c4 ?c5 ?c6 ?c7 ?c8 ?c9 ?_; (case k1 => k_asm); (case k2 => k_asm); (case kv => with_unfolding_all rfl); (case kh => exact rfl); (case c1 => rfl); (case c2 => decide); (case c3 => rfl); (case c4 => decide); (case c5 => rfl); (case c6 => decide); (case c7 => rfl); (case c8 => rfl); (case c9 => decide); (case ks => exact Nat.le_trans (Nat.le_trans (PySem.Txt.slice_le _ _ _) (by assumption)) (by decide)); k_whole; intro D9 ys9 h9 tk9 F9 N9 hy9 hl9; (try dsimp only)))
  k_with "call builtin:len" => (k_here; k_dflt (refine' Mine.len_drop ?k1 ?k3 ?_; (case k1 => assumption); (case k3 => assumption); k_whole; intro t9 tk9 N9; (try dsimp only)))
  k_with "call builtin:list.append" => (k_here; k_dflt (refine' append_K ?k1 ?k2 ?k3 ?_ ?z; (case k1 => k_asm); (case k2 => k_asm); (case k3 => exact Upd.head (by assumption)); (case z => exact Nat.le_trans (by assumption) (by decide)); k_whole); intro h' F' N'; (try dsimp only))
  k_with "call type:int" => (k_here; k_dflt (refine' Mine.int_fig (i := 0) ?k1 ?k2 ?k3 ?k4 ?_; (case k1 => assumption); (case k2 => first | assumption | omega); (case k3 => first | rfl | decide); (case k4 => first | rfl | decide); k_whole; have hf9 := Mine.yes_fit0 (by assumption) (by assumption) (by rfl) (by rfl)))
  w_on
  (revert X; k_fill; intro X)
  have efd := fnd_of (P := w.params) (f := 106) (by k_is)
  unfold fb
  rw [efd] at hE ⊢
  clear efd
  w_strict (dsimp only [forBody, stAt, List.getD, List.getElem?_cons_succ, List.getElem?_cons_zero, Option.getD_some] at hE ⊢; (try k_fold); k_steps; all_goals ((try dsimp only); first | (refine' hbrk ?hb _ _ _ _ ?h1 ?h2 ?h3 ?hF ?hN; (case hF => assumption); (case hN => assumption); (case h1 => ((try dsimp only); repeat (first | with_reducible exact Mine.lk_eq | with_reducible refine (Mine.lk_n (by decide)).trans ?_))); (case h2 => ((try dsimp only); repeat (first | with_reducible exact Mine.lk_eq | with_reducible refine (Mine.lk_n (by decide)).trans ?_))); (case h3 => ((try dsimp only); repeat (first | with_reducible exact Mine.lk_eq | with_reducible refine (Mine.lk_n (by decide)).trans ?_))); (case hb => first | (exfalso; exact Mine.no_lead0 (by assumption) (by rfl) (by rfl) (by decide)) | exact Mine.no_figs (i := 0) (by assumption) (by assumption) (by rfl) (by rfl))) | (refine' hnext (by assumption) _ _ _ _ _ _ _ ?ha ?h1 ?h2 ?h3 ?hF ?hN; (case hF => assumption); (case hN => assumption); (case h1 => ((try dsimp only); repeat (first | with_reducible exact Mine.lk_eq | with_reducible refine (Mine.lk_n (by decide)).trans ?_))); (case h2 => ((try dsimp only); repeat (first | with_reducible exact Mine.lk_eq | with_reducible refine (Mine.lk_n (by decide)).trans ?_))); (case h3 => ((try dsimp only); repeat (first | with_reducible exact Mine.lk_eq | with_reducible refine (Mine.lk_n (by decide)).trans ?_))); (case ha => rfl))))
end Mine
namespace Mine
theorem due_turn0U {w : World} {mg mb : PySem.Str → Option Value} {loose : List PySem.Str} {mean : ExcName → Option Value} {dp un : Nat} {gd : Option (List Code)} {outer : List Env} {A₀ : Around} {base h₀ : Heap} {L : Addr}{u : PySem.Str → Option Value} {s : Shared} {Q : Flow → Shared → Prop} {E : Value → Shared → Prop} {cl : List (PySem.Str × Addr)} {x : PySem.Str} {tx ta tl tz : Tok} {l : Addr} {news : List (Addr × Obj)} {g : Obj → List (Addr × Obj)} {arr : Array Value} {c : Nat} (hx : x.length ≤ 60) (U : UpdF l (W.listOf arr c) news g) (harr : arr.size ≤ 6) 
    (F : Fr h₀ L s.heap (fun z => if z = PySem.Str.ofString "text" then some (.str x tx) else if z = PySem.Str.ofString "parts" then some (.ref l) else if z = PySem.Str.ofString "at" then some (.int 0 ta) else if z = PySem.Str.ofString "lead" then some (.str (PySem.Str.ofString "") tl) else if z = PySem.Str.ofString "size" then some (.int 4 tz) else u z))
    (B : Below A₀ base outer h₀) (X : (hd.heap_39 w.params).In h₀) (N : News h₀ L s.heap news) (T : Top hd.view_39 loose mean mg mb h₀) (hroom : dp + 2 < recursionLimit) (hunits : un + 16 < cLine)
    (hE : PassesOwn (model PySem.Challenge.rw_il0028_01.row.prog w) (ktrTop dp un gd (fnd w.params 106).qualname (fnd w.params 106).scope L 106 (fnd w.params 106).code cl outer) (envX (fnd w.params 106).qualname (fnd w.params 106).scope L 106 (fnd w.params 106).code cl) E)
    (hbrk : fitAt x.cps 0 = false → ∀ (c' : Nat) (m' : PySem.Str → Option Value) (h' : Heap) (tk' : Nat), m' (PySem.Str.ofString "text") = some (.str x tx) → m' (PySem.Str.ofString "parts") = some (.ref l) → m' (PySem.Str.ofString "at") = some (.int 0 ta) → Fr h₀ L h' m' → News h₀ L h' (g (W.listOf arr c')) → Q .brk { s with heap := h', toks := tk' })
    (hnext : fitAt x.cps 0 = true → ∀ (t ta' : Tok) (a' : Int) (c' : Nat) (m' : PySem.Str → Option Value) (h' : Heap) (tk' : Nat), a' = 4 → m' (PySem.Str.ofString "text") = some (.str x tx) → m' (PySem.Str.ofString "parts") = some (.ref l) → m' (PySem.Str.ofString "at") = some (.int a' ta') → Fr h₀ L h' m' → News h₀ L h' (g (W.listOf (arr.push (.int (pv x 0) t)) c')) → Q .next { s with heap := h', toks := tk' }) :
    wpAny (model PySem.Challenge.rw_il0028_01.row.prog w) (ktrTop dp un gd (fnd w.params 106).qualname (fnd w.params 106).scope L 106 (fnd w.params 106).code cl outer) (execs (forBody (stAt (fb w.params 106) 2)) (envX (fnd w.params 106).qualname (fnd w.params 106).scope L 106 (fnd w.params 106).code cl)) Q E s := by
  obtain ⟨pre, post, e, eg, a1, a2⟩ := U.split
  subst e
  have hap' : ∀ p ∈ pre ++ post, p.1 ≠ l := fun p hp => (List.mem_append.mp hp).elim (a1 p) (a2 p)
  have N' : News h₀ L s.heap ((l, W.listOf arr c) :: (pre ++ post)) := fun q hq => N q (by
    simp only [List.mem_cons, List.mem_append] at hq ⊢
    rcases hq with h | h | h
    · exact .inr (.inl h)
    · exact .inl h
    · exact .inr (.inr h))
  have back : ∀ {h' : Heap} {o' : Obj}, News h₀ L h' ((l, o') :: (pre ++ post)) → News h₀ L h' (g o') := fun {h' o'} N q hq => N q (by
    rw [eg] at hq
    simp only [List.mem_cons, List.mem_append] at hq ⊢
    rcases hq with h | h | h
    · exact .inr (.inl h)
    · exact .inl h
    · exact .inr (.inr h))
  exact due_turn0 hx hap' harr F B X N' T hroom hunits hE (fun hf c' m' h' tk' e1 e2 e3 F N => hbrk hf c' m' h' tk' e1 e2 e3 F (back N)) (fun hf t ta' a' c' m' h' tk' ea e1 e2 e3 F N => hnext hf t ta' a' c' m' h' tk' ea e1 e2 e3 F (back N))
end Mine
namespace Mine
theorem due_turnS {w : World} {mg mb : PySem.Str → Option Value} {loose : List PySem.Str} {mean : ExcName → Option Value} {dp un : Nat} {gd : Option (List Code)} {outer : List Env} {A₀ : Around} {base h₀ : Heap} {L : Addr}{u : PySem.Str → Option Value} {s : Shared} {Q : Flow → Shared → Prop} {E : Value → Shared → Prop} {cl : List (PySem.Str × Addr)} {x : PySem.Str} {tx ta tl tz : Tok} {l : Addr} {news : List (Addr × Obj)} {arr : Array Value} {c : Nat} (hx : x.length ≤ 60) (hap : ∀ p ∈ news, p.1 ≠ l) (harr : arr.size ≤ 6) {i : Nat} {a : Int} {ld : PySem.Str} (h1 : 1 ≤ i) (h5 : i ≤ 5) (ha : a = ((3 * i + 1 : Nat) : Int)) (ha0 : 0 ≤ a) (ha1 : a ≤ 16) (hld : ld.cps = #[leadAt i]) (hll : ld.length = 1) (hll' : (ld.length : Int) = 1) 
    (F : Fr h₀ L s.heap (fun z => if z = PySem.Str.ofString "text" then some (.str x tx) else if z = PySem.Str.ofString "parts" then some (.ref l) else if z = PySem.Str.ofString "at" then some (.int a ta) else if z = PySem.Str.ofString "lead" then some (.str ld tl) else if z = PySem.Str.ofString "size" then some (.int 2 tz) else u z))
    (B : Below A₀ base outer h₀) (X : (hd.heap_39 w.params).In h₀) (N : News h₀ L s.heap ((l, W.listOf arr c) :: news)) (T : Top hd.view_39 loose mean mg mb h₀) (hroom : dp + 2 < recursionLimit) (hunits : un + 16 < cLine)
    (hE : PassesOwn (model PySem.Challenge.rw_il0028_01.row.prog w) (ktrTop dp un gd (fnd w.params 106).qualname (fnd w.params 106).scope L 106 (fnd w.params 106).code cl outer) (envX (fnd w.params 106).qualname (fnd w.params 106).scope L 106 (fnd w.params 106).code cl) E)
    (hbrk : fitAt x.cps i = false → ∀ (c' : Nat) (m' : PySem.Str → Option Value) (h' : Heap) (tk' : Nat), m' (PySem.Str.ofString "text") = some (.str x tx) → m' (PySem.Str.ofString "parts") = some (.ref l) → m' (PySem.Str.ofString "at") = some (.int a ta) → Fr h₀ L h' m' → News h₀ L h' ((l, W.listOf arr c') :: news) → Q .brk { s with heap := h', toks := tk' })
    (hnext : fitAt x.cps i = true → ∀ (t ta' : Tok) (a' : Int) (c' : Nat) (m' : PySem.Str → Option Value) (h' : Heap) (tk' : Nat), a' = a + 3 → m' (PySem.Str.ofString "text") = some (.str x tx) → m' (PySem.Str.ofString "parts") = some (.ref l) → m' (PySem.Str.ofString "at") = some (.int a' ta') → Fr h₀ L h' m' → News h₀ L h' ((l, W.listOf (arr.push (.int (pv x i) t)) c') :: news) → Q .next { s with heap := h', toks := tk' }) :
    wpAny (model PySem.Challenge.rw_il0028_01.row.prog w) (ktrTop dp un gd (fnd w.params 106).qualname (fnd w.params 106).scope L 106 (fnd w.params 106).code cl outer) (execs (forBody (stAt (fb w.params 106) 2)) (envX (fnd w.params 106).qualname (fnd w.params 106).scope L 106 (fnd w.params 106).code cl)) Q E s := by
  k_with_none
  k_with "eval Tuple" => (k_here; dsimp only; (try k_gentoks))
  k_with "eval Call" => (k_here; dsimp only; (try k_gentoks))
  k_with "eval Attribute" => (k_here; dsimp only; (try k_gentoks))
  k_with "exec Assign" => (k_here; dsimp only; (try k_gentoks))
  k_with "exec If" => (k_here; dsimp only; (try k_gentoks))
  k_with "exec For" => (k_here; dsimp only; (try k_gentoks))
  k_with "execs cons" => (k_here; dsimp only; (try k_gentoks))
  k_with "execs nil" => (k_here; dsimp only; (try k_gentoks))
  k_with "pyIter ref" => (k_here; dsimp only; (try k_gentoks))
  k_with "newTuple" => (k_here; dsimp only; (try k_gentoks))
  k_with "assign Tuple" => (k_here; dsimp only; (try k_gentoks))
  k_with "ItemsRest" => (dsimp only)
  k_with "UnrPostW" => (dsimp only)
  k_with "UnrEndW" => (dsimp only)
  k_with "eval ListComp" => (k_here; k_dflt (refine' Mine.comp_K ?k1 ?k2 ?kv ?kh ?ks ?c1 ?c2 ?c3 ?c4 ?c5 ?c6 ?c7 ?c8 ?c9 ?_; (case k1 => k_asm); (case k2 => k_asm); (case kv => with_unfolding_all rfl); (case kh => exact rfl); (case c1 => rfl); (case c2 => decide); (case c3 => rfl); (case c4 => decide); (case c5 => rfl); (case c6 => decide); (case c7 => rfl); (case c8 => rfl); (case c9 => decide); (case ks => exact Nat.le_trans (Nat.le_trans (PySem.Txt.slice_le _ _ _) (by assumption)) (by decide)); k_whole; intro D9 ys9 h9 tk9 F9 N9 hy9 hl9; (try dsimp only)))
  k_with "call builtin:len" => (k_here; k_dflt (refine' Mine.len_drop ?k1 ?k3 ?_; (case k1 => assumption); (case k3 => assumption); k_whole; intro t9 tk9 N9; (try dsimp only)))
  k_with "call builtin:list.append" => (k_here; k_dflt (refine' append_K ?k1 ?k2 ?k3 ?_ ?z; (case k1 => k_asm); (case k2 => k_asm); (case k3 => exact Upd.head (by assumption)); (case z => exact Nat.le_trans (by assumption) (by decide)); k_whole); intro h' F' N'; (try dsimp only))
  k_with "call type:int" => (k_here; k_dflt (refine' Mine.int_fig (i := 0) ?k1 ?k2 ?k3 ?k4 ?_; (case k1 => assumption); (case k2 => first | assumption | omega); (case k3 => first | rfl | decide); (case k4 => first | rfl | decide); k_whole; have hf9 := Mine.yes_fit0 (by assumption) (by assumption) (by rfl) (by rfl)))
  k_with "call type:int" => (k_here; k_dflt (refine' Mine.int_figS ?k0 ?k1 ?k2 ?k3 ?k4 ?_; (case k0 => assumption); (case k1 => assumption); (case k2 => assumption); (case k3 => omega); (case k4 => omega); k_whole; have hf9 := Mine.yes_fitB (by assumption) (by assumption) (by assumption) (by assumption) (by omega) (by assumption) (by assumption) (by assumption) (by omega) (by omega)))
  w_on
  (revert X; k_fill; intro X)
  have efd := fnd_of (P := w.params) (f := 106) (by k_is)
  unfold fb
  rw [efd] at hE ⊢
  clear efd
  w_strict (dsimp only [forBody, stAt, List.getD, List.getElem?_cons_succ, List.getElem?_cons_zero, Option.getD_some] at hE ⊢; (try k_fold); k_steps; all_goals ((try dsimp only); first | (refine' hbrk ?hb _ _ _ _ ?h1 ?h2 ?h3 ?hF ?hN; (case hF => assumption); (case hN => assumption); (case h1 => ((try dsimp only); repeat (first | with_reducible exact Mine.lk_eq | with_reducible refine (Mine.lk_n (by decide)).trans ?_))); (case h2 => ((try dsimp only); repeat (first | with_reducible exact Mine.lk_eq | with_reducible refine (Mine.lk_n (by decide)).trans ?_))); (case h3 => ((try dsimp only); repeat (first | with_reducible exact Mine.lk_eq | with_reducible refine (Mine.lk_n (by decide)).trans ?_))); (case hb => first | exact Mine.noB (by assumption) (by omega) (by assumption) (by assumption) (by assumption) (by assumption) | exact Mine.nofg (by assumption) (by assumption) (by assumption) (by omega) (by omega))) | (refine' hnext (by assumption) _ _ _ _ _ _ _ ?ha ?h1 ?h2 ?h3 ?hF ?hN; (case hF => assumption); (case hN => assumption); (case h1 => ((try dsimp only); repeat (first | with_reducible exact Mine.lk_eq | with_reducible refine (Mine.lk_n (by decide)).trans ?_))); (case h2 => ((try dsimp only); repeat (first | with_reducible exact Mine.lk_eq | with_reducible refine (Mine.lk_n (by decide)).trans ?_))); (case h3 => ((try dsimp only); repeat (first | with_reducible exact Mine.lk_eq | with_reducible refine (Mine.lk_n (by decide)).trans ?_))); (case ha => omega))))
end Mine
namespace Mine
theorem due_turnSU {w : World} {mg mb : PySem.Str → Option Value} {loose : List PySem.Str} {mean : ExcName → Option Value} {dp un : Nat} {gd : Option (List Code)} {outer : List Env} {A₀ : Around} {base h₀ : Heap} {L : Addr}{u : PySem.Str → Option Value} {s : Shared} {Q : Flow → Shared → Prop} {E : Value → Shared → Prop} {cl : List (PySem.Str × Addr)} {x : PySem.Str} {tx ta tl tz : Tok} {l : Addr} {news : List (Addr × Obj)} {g : Obj → List (Addr × Obj)} {arr : Array Value} {c : Nat} (hx : x.length ≤ 60) (U : UpdF l (W.listOf arr c) news g) (harr : arr.size ≤ 6) {i : Nat} {a : Int} {ld : PySem.Str} (h1 : 1 ≤ i) (h5 : i ≤ 5) (ha : a = ((3 * i + 1 : Nat) : Int)) (ha0 : 0 ≤ a) (ha1 : a ≤ 16) (hld : ld.cps = #[leadAt i]) (hll : ld.length = 1) (hll' : (ld.length : Int) = 1) 
    (F : Fr h₀ L s.heap (fun z => if z = PySem.Str.ofString "text" then some (.str x tx) else if z = PySem.Str.ofString "parts" then some (.ref l) else if z = PySem.Str.ofString "at" then some (.int a ta) else if z = PySem.Str.ofString "lead" then some (.str ld tl) else if z = PySem.Str.ofString "size" then some (.int 2 tz) else u z))
    (B : Below A₀ base outer h₀) (X : (hd.heap_39 w.params).In h₀) (N : News h₀ L s.heap news) (T : Top hd.view_39 loose mean mg mb h₀) (hroom : dp + 2 < recursionLimit) (hunits : un + 16 < cLine)
    (hE : PassesOwn (model PySem.Challenge.rw_il0028_01.row.prog w) (ktrTop dp un gd (fnd w.params 106).qualname (fnd w.params 106).scope L 106 (fnd w.params 106).code cl outer) (envX (fnd w.params 106).qualname (fnd w.params 106).scope L 106 (fnd w.params 106).code cl) E)
    (hbrk : fitAt x.cps i = false → ∀ (c' : Nat) (m' : PySem.Str → Option Value) (h' : Heap) (tk' : Nat), m' (PySem.Str.ofString "text") = some (.str x tx) → m' (PySem.Str.ofString "parts") = some (.ref l) → m' (PySem.Str.ofString "at") = some (.int a ta) → Fr h₀ L h' m' → News h₀ L h' (g (W.listOf arr c')) → Q .brk { s with heap := h', toks := tk' })
    (hnext : fitAt x.cps i = true → ∀ (t ta' : Tok) (a' : Int) (c' : Nat) (m' : PySem.Str → Option Value) (h' : Heap) (tk' : Nat), a' = a + 3 → m' (PySem.Str.ofString "text") = some (.str x tx) → m' (PySem.Str.ofString "parts") = some (.ref l) → m' (PySem.Str.ofString "at") = some (.int a' ta') → Fr h₀ L h' m' → News h₀ L h' (g (W.listOf (arr.push (.int (pv x i) t)) c')) → Q .next { s with heap := h', toks := tk' }) :
    wpAny (model PySem.Challenge.rw_il0028_01.row.prog w) (ktrTop dp un gd (fnd w.params 106).qualname (fnd w.params 106).scope L 106 (fnd w.params 106).code cl outer) (execs (forBody (stAt (fb w.params 106) 2)) (envX (fnd w.params 106).qualname (fnd w.params 106).scope L 106 (fnd w.params 106).code cl)) Q E s := by
  obtain ⟨pre, post, e, eg, a1, a2⟩ := U.split
  subst e
  have hap' : ∀ p ∈ pre ++ post, p.1 ≠ l := fun p hp => (List.mem_append.mp hp).elim (a1 p) (a2 p)
  have N' : News h₀ L s.heap ((l, W.listOf arr c) :: (pre ++ post)) := fun q hq => N q (by
    simp only [List.mem_cons, List.mem_append] at hq ⊢
    rcases hq with h | h | h
    · exact .inr (.inl h)
    · exact .inl h
    · exact .inr (.inr h))
  have back : ∀ {h' : Heap} {o' : Obj}, News h₀ L h' ((l, o') :: (pre ++ post)) → News h₀ L h' (g o') := fun {h' o'} N q hq => N q (by
    rw [eg] at hq
    simp only [List.mem_cons, List.mem_append] at hq ⊢
    rcases hq with h | h | h
    · exact .inr (.inl h)
    · exact .inl h
    · exact .inr (.inr h))
  exact due_turnS hx hap' harr h1 h5 ha ha0 ha1 hld hll hll' F B X N' T hroom hunits hE (fun hf c' m' h' tk' e1 e2 e3 F N => hbrk hf c' m' h' tk' e1 e2 e3 F (back N)) (fun hf t ta' a' c' m' h' tk' ea e1 e2 e3 F N => hnext hf t ta' a' c' m' h' tk' ea e1 e2 e3 F (back N))
end Mine
end
section
open PySem PySem.W PyProof.Rows
set_option maxRecDepth 100000
set_option maxHeartbeats 4000000
namespace Mine
section
variable {h₀ h : Heap} {L : Addr} {m : PySem.Str → Option Value}
theorem fr_c3 (F : Fr h₀ L h m) (x0 x1 x2 : PySem.Str) {v0 v1 v2 : Value} (h0 : m x0 = some v0) (h1 : m x1 = some v1) (h2 : m x2 = some v2) :
    ∃ u : PySem.Str → Option Value, Fr h₀ L h (fun z => if z = x0 then some v0 else if z = x1 then some v1 else if z = x2 then some v2 else u z) := by
  refine ⟨m, ?_⟩
  have e : (fun z => if z = x0 then some v0 else if z = x1 then some v1 else if z = x2 then some v2 else m z) = m := by
    funext z
    (repeat' split) <;> simp_all
  rw [e]; exact F
theorem fr_c5 (F : Fr h₀ L h m) (x0 x1 x2 x3 x4 : PySem.Str) {v0 v1 v2 v3 v4 : Value} (h0 : m x0 = some v0) (h1 : m x1 = some v1) (h2 : m x2 = some v2) (h3 : m x3 = some v3) (h4 : m x4 = some v4) :
    ∃ u : PySem.Str → Option Value, Fr h₀ L h (fun z => if z = x0 then some v0 else if z = x1 then some v1 else if z = x2 then some v2 else if z = x3 then some v3 else if z = x4 then some v4 else u z) := by
  refine ⟨m, ?_⟩
  have e : (fun z => if z = x0 then some v0 else if z = x1 then some v1 else if z = x2 then some v2 else if z = x3 then some v3 else if z = x4 then some v4 else m z) = m := by
    funext z
    (repeat' split) <;> simp_all
  rw [e]; exact F
end
end Mine
local macro_rules | `(tactic| passes_own) => `(tactic| assumption)
namespace Mine
theorem due_loop {w : World} {mg mb : PySem.Str → Option Value} {loose : List PySem.Str} {mean : ExcName → Option Value} {dp un : Nat} {gd : Option (List Code)} {outer : List Env} {A₀ : Around} {base h₀ : Heap} {L : Addr}{u : PySem.Str → Option Value} {s : Shared} {Q : Flow → Shared → Prop} {E : Value → Shared → Prop} {cl : List (PySem.Str × Addr)} {x : PySem.Str} {tx ta : Tok} {l ca : Addr} {co : Obj} (hx : x.length ≤ 60) (hlc : @LT.lt Nat _ ca l)
    (F : Fr h₀ L s.heap (fun z => if z = PySem.Str.ofString "text" then some (.str x tx) else if z = PySem.Str.ofString "parts" then some (.ref l) else if z = PySem.Str.ofString "at" then some (.int 0 ta) else u z))
    (B : Below A₀ base outer h₀) (X : (hd.heap_39 w.params).In h₀) (N : News h₀ L s.heap [(l, W.listOf #[] 0), (ca, co)]) (T : Top hd.view_39 loose mean mg mb h₀) (hroom : dp + 2 < recursionLimit) (hunits : un + 16 < cLine)
    (hE : PassesOwn (model PySem.Challenge.rw_il0028_01.row.prog w) (ktrTop dp un gd (fnd w.params 106).qualname (fnd w.params 106).scope L 106 (fnd w.params 106).code cl outer) (envX (fnd w.params 106).qualname (fnd w.params 106).scope L 106 (fnd w.params 106).code cl) E)
    (hret0 : partsN x.cps = 0 → ∀ (_tx : Tok) (c : Nat) (ta : Tok) (m' : PySem.Str → Option Value) (h' : Heap) (tk' : Nat) (a : Int) (arr : Array Value), arr = #[] → a = 0 → m' (PySem.Str.ofString "text") = some (.str x tx) → m' (PySem.Str.ofString "parts") = some (.ref l) → m' (PySem.Str.ofString "at") = some (.int a ta) → Fr h₀ L h' m' → News h₀ L h' [(l, W.listOf arr c), (ca, co)] → Q .next { s with heap := h', toks := tk' })
    (hret1 : partsN x.cps = 1 → ∀ (t0 : Tok) (c : Nat) (ta : Tok) (m' : PySem.Str → Option Value) (h' : Heap) (tk' : Nat) (a : Int) (arr : Array Value), arr = #[.int (pv x 0) t0] → a = 4 → m' (PySem.Str.ofString "text") = some (.str x tx) → m' (PySem.Str.ofString "parts") = some (.ref l) → m' (PySem.Str.ofString "at") = some (.int a ta) → Fr h₀ L h' m' → News h₀ L h' [(l, W.listOf arr c), (ca, co)] → Q .next { s with heap := h', toks := tk' })
    (hret2 : partsN x.cps = 2 → ∀ (t0 t1 : Tok) (c : Nat) (ta : Tok) (m' : PySem.Str → Option Value) (h' : Heap) (tk' : Nat) (a : Int) (arr : Array Value), arr = #[.int (pv x 0) t0, .int (pv x 1) t1] → a = 7 → m' (PySem.Str.ofString "text") = some (.str x tx) → m' (PySem.Str.ofString "parts") = some (.ref l) → m' (PySem.Str.ofString "at") = some (.int a ta) → Fr h₀ L h' m' → News h₀ L h' [(l, W.listOf arr c), (ca, co)] → Q .next { s with heap := h', toks := tk' })
    (hret3 : partsN x.cps = 3 → ∀ (t0 t1 t2 : Tok) (c : Nat) (ta : Tok) (m' : PySem.Str → Option Value) (h' : Heap) (tk' : Nat) (a : Int) (arr : Array Value), arr = #[.int (pv x 0) t0, .int (pv x 1) t1, .int (pv x 2) t2] → a = 10 → m' (PySem.Str.ofString "text") = some (.str x tx) → m' (PySem.Str.ofString "parts") = some (.ref l) → m' (PySem.Str.ofString "at") = some (.int a ta) → Fr h₀ L h' m' → News h₀ L h' [(l, W.listOf arr c), (ca, co)] → Q .next { s with heap := h', toks := tk' })
    (hret4 : partsN x.cps = 4 → ∀ (t0 t1 t2 t3 : Tok) (c : Nat) (ta : Tok) (m' : PySem.Str → Option Value) (h' : Heap) (tk' : Nat) (a : Int) (arr : Array Value), arr = #[.int (pv x 0) t0, .int (pv x 1) t1, .int (pv x 2) t2, .int (pv x 3) t3] → a = 13 → m' (PySem.Str.ofString "text") = some (.str x tx) → m' (PySem.Str.ofString "parts") = some (.ref l) → m' (PySem.Str.ofString "at") = some (.int a ta) → Fr h₀ L h' m' → News h₀ L h' [(l, W.listOf arr c), (ca, co)] → Q .next { s with heap := h', toks := tk' })
    (hret5 : partsN x.cps = 5 → ∀ (t0 t1 t2 t3 t4 : Tok) (c : Nat) (ta : Tok) (m' : PySem.Str → Option Value) (h' : Heap) (tk' : Nat) (a : Int) (arr : Array Value), arr = #[.int (pv x 0) t0, .int (pv x 1) t1, .int (pv x 2) t2, .int (pv x 3) t3, .int (pv x 4) t4] → a = 16 → m' (PySem.Str.ofString "text") = some (.str x tx) → m' (PySem.Str.ofString "parts") = some (.ref l) → m' (PySem.Str.ofString "at") = some (.int a ta) → Fr h₀ L h' m' → News h₀ L h' [(l, W.listOf arr c), (ca, co)] → Q .next { s with heap := h', toks := tk' })
    (hret6 : partsN x.cps = 6 → ∀ (t0 t1 t2 t3 t4 t5 : Tok) (c : Nat) (ta : Tok) (m' : PySem.Str → Option Value) (h' : Heap) (tk' : Nat) (a : Int) (arr : Array Value), arr = #[.int (pv x 0) t0, .int (pv x 1) t1, .int (pv x 2) t2, .int (pv x 3) t3, .int (pv x 4) t4, .int (pv x 5) t5] → a = 19 → m' (PySem.Str.ofString "text") = some (.str x tx) → m' (PySem.Str.ofString "parts") = some (.ref l) → m' (PySem.Str.ofString "at") = some (.int a ta) → Fr h₀ L h' m' → News h₀ L h' [(l, W.listOf arr c), (ca, co)] → Q .next { s with heap := h', toks := tk' }) :
    wpAny (model PySem.Challenge.rw_il0028_01.row.prog w) (ktrTop dp un gd (fnd w.params 106).qualname (fnd w.params 106).scope L 106 (fnd w.params 106).code cl outer) (exec (stAt (fb w.params 106) 2) (envX (fnd w.params 106).qualname (fnd w.params 106).scope L 106 (fnd w.params 106).code cl)) Q E s := by
  k_with_none
  k_with "eval Tuple" => (k_here; dsimp only; (try k_gentoks))
  k_with "eval Call" => (k_here; dsimp only; (try k_gentoks))
  k_with "eval Attribute" => (k_here; dsimp only; (try k_gentoks))
  k_with "exec Assign" => (k_here; dsimp only; (try k_gentoks))
  k_with "exec If" => (k_here; dsimp only; (try k_gentoks))
  k_with "exec For" => (k_here; dsimp only; (try k_gentoks))
  k_with "execs cons" => (k_here; dsimp only; (try k_gentoks))
  k_with "execs nil" => (k_here; dsimp only; (try k_gentoks))
  k_with "pyIter ref" => (k_here; dsimp only; (try k_gentoks))
  k_with "newTuple" => (k_here; dsimp only; (try k_gentoks))
  k_with "assign Tuple" => (k_here; dsimp only; (try k_gentoks))
  k_with "ItemsRest" => (dsimp only)
  k_with "UnrPostW" => (dsimp only)
  k_with "UnrEndW" => (dsimp only)
  k_with "assign Tuple" => (k_here; k_dflt (refine' Mine.assign2 ?kF ?kN ?kT ?kh ?kk ?y0 ?y1 ?_; (case kF => k_asm); (case kN => k_asm); (case kT => first | with_reducible assumption | (refine News.isTup (by k_asm) (by k_mem))); (case kh => exact rfl); (case kk => exact rfl); (case y0 => exact rfl); (case y1 => exact rfl)); intro h9 tk9 F9 N9; (try dsimp only))
  k_with "exec For Tuple Tuple cons nil" => (k_here; (rename Fr _ _ _ _ => lF'); k_dflt (refine' For_turns ?kF ?_ ?hs ?hE; (case kF => exact lF'); (case hs => (intro _; rfl)); (case hE => assumption); k_whole))
  k_with "execs cons" => (k_here; k_dflt ((rename Fr _ _ _ _ => lF'); (refine Exists.elim (Mine.fr_c5 lF' (PySem.Str.ofString "text") (PySem.Str.ofString "parts") (PySem.Str.ofString "at") (PySem.Str.ofString "lead") (PySem.Str.ofString "size") (by ((try dsimp only); repeat (first | with_reducible exact Mine.lk_eq | with_reducible refine (Mine.lk_n (by decide)).trans ?_))) (by ((try dsimp only); repeat (first | with_reducible exact Mine.lk_eq | with_reducible refine (Mine.lk_n (by decide)).trans ?_))) (by ((try dsimp only); repeat (first | with_reducible exact Mine.lk_eq | with_reducible refine (Mine.lk_n (by decide)).trans ?_))) (by ((try dsimp only); repeat (first | with_reducible exact Mine.lk_eq | with_reducible refine (Mine.lk_n (by decide)).trans ?_))) (by ((try dsimp only); repeat (first | with_reducible exact Mine.lk_eq | with_reducible refine (Mine.lk_n (by decide)).trans ?_)))) ?_); intro u9 F9'; clear lF'; (try dsimp only); first | (refine' Mine.due_turn0U ?hx ?hU ?harr ?kF ?kB ?kX ?kN ?kT ?kd ?ku ?kE ?_ ?_; (case kF => k_asm); (case kB => k_asm); (case kX => k_asm); (case kN => k_asm); (case kT => k_asm); (case kd => omega); (case ku => omega); (case kE => assumption); (case hx => assumption); (case hU => k_updF); (case harr => first | decide | (simp; done)); all_goals (first | (intro (hf9 : Mine.fitAt _ _ = true) t9 ta9 a9 c9 m9 h9 tk9 ha9 e1 e2 e3 lF' N9; (refine Exists.elim (Mine.fr_c3 lF' (PySem.Str.ofString "text") (PySem.Str.ofString "parts") (PySem.Str.ofString "at") e1 e2 e3) ?_); intro u9 F9'; clear lF' e1 e2 e3; (try dsimp only); (try k_fold)) | (intro hf9 c9 m9 h9 tk9 e1 e2 e3 lF' N9; (try dsimp only)))) | (refine' Mine.due_turnSU (i := 1) ?hx ?hU ?harr (by decide) (by decide) ?ha ?ha0 ?ha1 ?hld ?hll ?hll' ?kF ?kB ?kX ?kN ?kT ?kd ?ku ?kE ?_ ?_; (case kF => k_asm); (case ha => omega); (case ha0 => omega); (case ha1 => omega); (case hld => decide +kernel); (case hll => decide +kernel); (case hll' => decide +kernel); (case kB => k_asm); (case kX => k_asm); (case kN => k_asm); (case kT => k_asm); (case kd => omega); (case ku => omega); (case kE => assumption); (case hx => assumption); (case hU => k_updF); (case harr => first | decide | (simp; done)); all_goals (first | (intro (hf9 : Mine.fitAt _ _ = true) t9 ta9 a9 c9 m9 h9 tk9 ha9 e1 e2 e3 lF' N9; (refine Exists.elim (Mine.fr_c3 lF' (PySem.Str.ofString "text") (PySem.Str.ofString "parts") (PySem.Str.ofString "at") e1 e2 e3) ?_); intro u9 F9'; clear lF' e1 e2 e3; (try dsimp only); (try k_fold)) | (intro hf9 c9 m9 h9 tk9 e1 e2 e3 lF' N9; (try dsimp only)))) | (refine' Mine.due_turnSU (i := 2) ?hx ?hU ?harr (by decide) (by decide) ?ha ?ha0 ?ha1 ?hld ?hll ?hll' ?kF ?kB ?kX ?kN ?kT ?kd ?ku ?kE ?_ ?_; (case kF => k_asm); (case ha => omega); (case ha0 => omega); (case ha1 => omega); (case hld => decide +kernel); (case hll => decide +kernel); (case hll' => decide +kernel); (case kB => k_asm); (case kX => k_asm); (case kN => k_asm); (case kT => k_asm); (case kd => omega); (case ku => omega); (case kE => assumption); (case hx => assumption); (case hU => k_updF); (case harr => first | decide | (simp; done)); all_goals (first | (intro (hf9 : Mine.fitAt _ _ = true) t9 ta9 a9 c9 m9 h9 tk9 ha9 e1 e2 e3 lF' N9; (refine Exists.elim (Mine.fr_c3 lF' (PySem.Str.ofString "text") (PySem.Str.ofString "parts") (PySem.Str.ofString "at") e1 e2 e3) ?_); intro u9 F9'; clear lF' e1 e2 e3; (try dsimp only); (try k_fold)) | (intro hf9 c9 m9 h9 tk9 e1 e2 e3 lF' N9; (try dsimp only)))) | (refine' Mine.due_turnSU (i := 3) ?hx ?hU ?harr (by decide) (by decide) ?ha ?ha0 ?ha1 ?hld ?hll ?hll' ?kF ?kB ?kX ?kN ?kT ?kd ?ku ?kE ?_ ?_; (case kF => k_asm); (case ha => omega); (case ha0 => omega); (case ha1 => omega); (case hld => decide +kernel); (case hll => decide +kernel); (case hll' => decide +kernel); (case kB => k_asm); (case kX => k_asm); (case kN => k_asm); (case kT => k_asm); (case kd => omega); (case ku => omega); (case kE => assumption); (case hx => assumption); (case hU => k_updF); (case harr => first | decide | (simp; done)); all_goals (first | (intro (hf9 : Mine.fitAt _ _ = true) t9 ta9 a9 c9 m9 h9 tk9 ha9 e1 e2 e3 lF' N9; (refine Exists.elim (Mine.fr_c3 lF' (PySem.Str.ofString "text") (PySem.Str.ofString "parts") (PySem.Str.ofString "at") e1 e2 e3) ?_); intro u9 F9'; clear lF' e1 e2 e3; (try dsimp only); (try k_fold)) | (intro hf9 c9 m9 h9 tk9 e1 e2 e3 lF' N9; (try dsimp only)))) | (refine' Mine.due_turnSU (i := 4) ?hx ?hU ?harr (by decide) (by decide) ?ha ?ha0 ?ha1 ?hld ?hll ?hll' ?kF ?kB ?kX ?kN ?kT ?kd ?ku ?kE ?_ ?_; (case kF => k_asm); (case ha => omega); (case ha0 => omega); (case ha1 => omega); (case hld => decide +kernel); (case hll => decide +kernel); (case hll' => decide +kernel); (case kB => k_asm); (case kX => k_asm); (case kN => k_asm); (case kT => k_asm); (case kd => omega); (case ku => omega); (case kE => assumption); (case hx => assumption); (case hU => k_updF); (case harr => first | decide | (simp; done)); all_goals (first | (intro (hf9 : Mine.fitAt _ _ = true) t9 ta9 a9 c9 m9 h9 tk9 ha9 e1 e2 e3 lF' N9; (refine Exists.elim (Mine.fr_c3 lF' (PySem.Str.ofString "text") (PySem.Str.ofString "parts") (PySem.Str.ofString "at") e1 e2 e3) ?_); intro u9 F9'; clear lF' e1 e2 e3; (try dsimp only); (try k_fold)) | (intro hf9 c9 m9 h9 tk9 e1 e2 e3 lF' N9; (try dsimp only)))) | (refine' Mine.due_turnSU (i := 5) ?hx ?hU ?harr (by decide) (by decide) ?ha ?ha0 ?ha1 ?hld ?hll ?hll' ?kF ?kB ?kX ?kN ?kT ?kd ?ku ?kE ?_ ?_; (case kF => k_asm); (case ha => omega); (case ha0 => omega); (case ha1 => omega); (case hld => decide +kernel); (case hll => decide +kernel); (case hll' => decide +kernel); (case kB => k_asm); (case kX => k_asm); (case kN => k_asm); (case kT => k_asm); (case kd => omega); (case ku => omega); (case kE => assumption); (case hx => assumption); (case hU => k_updF); (case harr => first | decide | (simp; done)); all_goals (first | (intro (hf9 : Mine.fitAt _ _ = true) t9 ta9 a9 c9 m9 h9 tk9 ha9 e1 e2 e3 lF' N9; (refine Exists.elim (Mine.fr_c3 lF' (PySem.Str.ofString "text") (PySem.Str.ofString "parts") (PySem.Str.ofString "at") e1 e2 e3) ?_); intro u9 F9'; clear lF' e1 e2 e3; (try dsimp only); (try k_fold)) | (intro hf9 c9 m9 h9 tk9 e1 e2 e3 lF' N9; (try dsimp only))))))
  w_on
  (revert X; k_fill; intro X)
  have efd := fnd_of (P := w.params) (f := 106) (by k_is)
  unfold fb
  rw [efd] at hE ⊢
  clear efd
  w_strict (dsimp only [stAt, List.getD, List.getElem?_cons_succ, List.getElem?_cons_zero, Option.getD_some] at hE ⊢; (try k_fold); k_steps; all_goals ((try dsimp only); first | (refine' hret0 (Mine.pn0 (by assumption)) 0 _ _ _ _ _ _ _ ?hr ?ha ?h1 ?h2 ?h3 ?hF ?hN; (case hF => assumption); (case hN => first | assumption | (refine' cb_drop ?cbN ?cbS; (case cbN => assumption); (case cbS => kcj_all))); (case h1 => first | assumption | ((try dsimp only); repeat (first | with_reducible exact Mine.lk_eq | with_reducible refine (Mine.lk_n (by decide)).trans ?_))); (case h2 => first | assumption | ((try dsimp only); repeat (first | with_reducible exact Mine.lk_eq | with_reducible refine (Mine.lk_n (by decide)).trans ?_))); (case h3 => first | assumption | ((try dsimp only); repeat (first | with_reducible exact Mine.lk_eq | with_reducible refine (Mine.lk_n (by decide)).trans ?_))); (case ha => first | rfl | omega); (case hr => rfl)) | (refine' hret1 (Mine.pn1 (by assumption) (by assumption)) _ _ _ _ _ _ _ _ ?hr ?ha ?h1 ?h2 ?h3 ?hF ?hN; (case hF => assumption); (case hN => first | assumption | (refine' cb_drop ?cbN ?cbS; (case cbN => assumption); (case cbS => kcj_all))); (case h1 => first | assumption | ((try dsimp only); repeat (first | with_reducible exact Mine.lk_eq | with_reducible refine (Mine.lk_n (by decide)).trans ?_))); (case h2 => first | assumption | ((try dsimp only); repeat (first | with_reducible exact Mine.lk_eq | with_reducible refine (Mine.lk_n (by decide)).trans ?_))); (case h3 => first | assumption | ((try dsimp only); repeat (first | with_reducible exact Mine.lk_eq | with_reducible refine (Mine.lk_n (by decide)).trans ?_))); (case ha => first | rfl | omega); (case hr => rfl)) | (refine' hret2 (Mine.pn2 (by assumption) (by assumption) (by assumption)) _ _ _ _ _ _ _ _ _ ?hr ?ha ?h1 ?h2 ?h3 ?hF ?hN; (case hF => assumption); (case hN => first | assumption | (refine' cb_drop ?cbN ?cbS; (case cbN => assumption); (case cbS => kcj_all))); (case h1 => first | assumption | ((try dsimp only); repeat (first | with_reducible exact Mine.lk_eq | with_reducible refine (Mine.lk_n (by decide)).trans ?_))); (case h2 => first | assumption | ((try dsimp only); repeat (first | with_reducible exact Mine.lk_eq | with_reducible refine (Mine.lk_n (by decide)).trans ?_))); (case h3 => first | assumption | ((try dsimp only); repeat (first | with_reducible exact Mine.lk_eq | with_reducible refine (Mine.lk_n (by decide)).trans ?_))); (case ha => first | rfl | omega); (case hr => rfl)) | (refine' hret3 (Mine.pn3 (by assumption) (by assumption) (by assumption) (by assumption)) _ _ _ _ _ _ _ _ _ _ ?hr ?ha ?h1 ?h2 ?h3 ?hF ?hN; (case hF => assumption); (case hN => first | assumption | (refine' cb_drop ?cbN ?cbS; (case cbN => assumption); (case cbS => kcj_all))); (case h1 => first | assumption | ((try dsimp only); repeat (first | with_reducible exact Mine.lk_eq | with_reducible refine (Mine.lk_n (by decide)).trans ?_))); (case h2 => first | assumption | ((try dsimp only); repeat (first | with_reducible exact Mine.lk_eq | with_reducible refine (Mine.lk_n (by decide)).trans ?_))); (case h3 => first | assumption | ((try dsimp only); repeat (first | with_reducible exact Mine.lk_eq | with_reducible refine (Mine.lk_n (by decide)).trans ?_))); (case ha => first | rfl | omega); (case hr => rfl)) | (refine' hret4 (Mine.pn4 (by assumption) (by assumption) (by assumption) (by assumption) (by assumption)) _ _ _ _ _ _ _ _ _ _ _ ?hr ?ha ?h1 ?h2 ?h3 ?hF ?hN; (case hF => assumption); (case hN => first | assumption | (refine' cb_drop ?cbN ?cbS; (case cbN => assumption); (case cbS => kcj_all))); (case h1 => first | assumption | ((try dsimp only); repeat (first | with_reducible exact Mine.lk_eq | with_reducible refine (Mine.lk_n (by decide)).trans ?_))); (case h2 => first | assumption | ((try dsimp only); repeat (first | with_reducible exact Mine.lk_eq | with_reducible refine (Mine.lk_n (by decide)).trans ?_))); (case h3 => first | assumption | ((try dsimp only); repeat (first | with_reducible exact Mine.lk_eq | with_reducible refine (Mine.lk_n (by decide)).trans ?_))); (case ha => first | rfl | omega); (case hr => rfl)) | (refine' hret5 (Mine.pn5 (by assumption) (by assumption) (by assumption) (by assumption) (by assumption) (by assumption)) _ _ _ _ _ _ _ _ _ _ _ _ ?hr ?ha ?h1 ?h2 ?h3 ?hF ?hN; (case hF => assumption); (case hN => first | assumption | (refine' cb_drop ?cbN ?cbS; (case cbN => assumption); (case cbS => kcj_all))); (case h1 => first | assumption | ((try dsimp only); repeat (first | with_reducible exact Mine.lk_eq | with_reducible refine (Mine.lk_n (by decide)).trans ?_))); (case h2 => first | assumption | ((try dsimp only); repeat (first | with_reducible exact Mine.lk_eq | with_reducible refine (Mine.lk_n (by decide)).trans ?_))); (case h3 => first | assumption | ((try dsimp only); repeat (first | with_reducible exact Mine.lk_eq | with_reducible refine (Mine.lk_n (by decide)).trans ?_))); (case ha => first | rfl | omega); (case hr => rfl)) | (refine' hret6 (Mine.pn6 (by assumption) (by assumption) (by assumption) (by assumption) (by assumption) (by assumption)) _ _ _ _ _ _ _ _ _ _ _ _ _ ?hr ?ha ?h1 ?h2 ?h3 ?hF ?hN; (case hF => assumption); (case hN => first | assumption | (refine' cb_drop ?cbN ?cbS; (case cbN => assumption); (case cbS => kcj_all))); (case h1 => first | assumption | ((try dsimp only); repeat (first | with_reducible exact Mine.lk_eq | with_reducible refine (Mine.lk_n (by decide)).trans ?_))); (case h2 => first | assumption | ((try dsimp only); repeat (first | with_reducible exact Mine.lk_eq | with_reducible refine (Mine.lk_n (by decide)).trans ?_))); (case h3 => first | assumption | ((try dsimp only); repeat (first | with_reducible exact Mine.lk_eq | with_reducible refine (Mine.lk_n (by decide)).trans ?_))); (case ha => first | rfl | omega); (case hr => rfl))))
end Mine
end
section
open PySem PySem.W PyProof.Rows
set_option maxRecDepth 100000
set_option maxHeartbeats 4000000
namespace Mine
section
variable {prog : Program} {w : World} {A : Around} {E : Value → Shared → Prop} {s : Shared}
theorem eq_nil {l b : Addr} {Q : Value → Shared → Prop} (hl : s.heap.IsList l #[]) (hb : s.heap.IsList b #[]) (hu : A.units < cLine) (h : Q (.bool true) s) : wpAny (model prog w) A (compareOp .Eq (.ref l) (.ref b)) Q E s :=
  PySem.SeqAt.eq_listAt (e := fun _ => true) hl hb rfl hu (fun j h1 => absurd h1 (Nat.not_lt_zero j)) h
end
theorem fits_zero {x : PySem.Str} (h : partsN x.cps = 0) : fits x.cps = false := by unfold fits; rw [h]; rfl
theorem z_iff {x : PySem.Str} {a b : Int} {n : Nat} (hn : partsN x.cps = n) (h1 : 1 ≤ n) (ha : a = ((3 * n + 1 : Nat) : Int)) (hb : b = ((3 * n + 2 : Nat) : Int)) : (Txt.slice x (some a) (some b) != PySem.Str.ofString "Z") = !fits x.cps := by
  have hz : PySem.Str.ofString "Z" = ⟨#[90]⟩ := by decide +kernel
  rw [slice_at _ _ ha hb (by omega), hz]
  unfold fits
  rw [hn, decide_eq_true h1, Bool.true_and]
  have q := ask_eq (t := x.cps) (w := 90) (p := 3 * n + 1) (by decide)
  cases e : ask x.cps 90 (3 * n + 1) with
  | true => rw [q.mp e]; simp
  | false =>
    have : x.cps.extract (3 * n + 1) (3 * n + 1 + 1) ≠ #[90] := fun z => by rw [q.mpr z] at e; cases e
    simp only [bne, Bool.not_false]
    simp
    exact this
theorem z_no {x : PySem.Str} {a b : Int} (n : Nat) (h : (Txt.slice x (some a) (some b) != PySem.Str.ofString "Z") = true) (hn : partsN x.cps = n) (h1 : 1 ≤ n) (ha : a = ((3 * n + 1 : Nat) : Int)) (hb : b = ((3 * n + 2 : Nat) : Int)) : fits x.cps = false := by
  rw [z_iff hn h1 ha hb] at h; simpa using h
theorem z_yes {x : PySem.Str} {a b : Int} (n : Nat) (h : (Txt.slice x (some a) (some b) != PySem.Str.ofString "Z") = false) (hn : partsN x.cps = n) (h1 : 1 ≤ n) (ha : a = ((3 * n + 1 : Nat) : Int)) (hb : b = ((3 * n + 2 : Nat) : Int)) : fits x.cps = true := by
  rw [z_iff hn h1 ha hb] at h; simpa using h
end Mine
local macro_rules | `(tactic| passes_own) => `(tactic| assumption)
namespace Mine
theorem due_rest0 {w : World} {mg mb : PySem.Str → Option Value} {loose : List PySem.Str} {mean : ExcName → Option Value} {dp un : Nat} {gd : Option (List Code)} {outer : List Env} {A₀ : Around} {base h₀ : Heap} {L : Addr}{u : PySem.Str → Option Value} {s : Shared} {Q : Flow → Shared → Prop} {E : Value → Shared → Prop} {c : Addr} {co : Obj} {x : PySem.Str} {tx ta : Tok} {l : Addr} {cc : Nat} (hx : x.length ≤ 60) (hco : co.data = .cell none) (hn : partsN x.cps = 0) (hlc : @LT.lt Nat _ c l)
    (F : Fr h₀ L s.heap (fun z => if z = PySem.Str.ofString "text" then some (.str x tx) else if z = PySem.Str.ofString "parts" then some (.ref l) else if z = PySem.Str.ofString "at" then some (.int 0 ta) else u z))
    (B : Below A₀ base outer h₀) (X : (hd.heap_39 w.params).In h₀) (N : News h₀ L s.heap [(l, W.listOf #[] cc), (c, co)]) (T : Top hd.view_39 loose mean mg mb h₀) (hroom : dp + 2 < recursionLimit) (hunits : un + 16 < cLine)
    (hE : PassesOwn (model PySem.Challenge.rw_il0028_01.row.prog w) (ktrTop dp un gd (fnd w.params 106).qualname (fnd w.params 106).scope L 106 (fnd w.params 106).code [((PySem.Str.ofString "year"), c)] outer) (envX (fnd w.params 106).qualname (fnd w.params 106).scope L 106 (fnd w.params 106).code [((PySem.Str.ofString "year"), c)]) E)
    (hA : fits x.cps = false → ∀ (t : Tok) (u' : PySem.Str → Option Value) (h' : Heap) (tk' : Nat) (nw : List (Addr × Obj)), Fr h₀ L h' u' → News h₀ L h' nw → Q (.ret (.str (PySem.Str.ofString "AttributeError") t)) { s with heap := h', toks := tk' }) :
    wpAny (model PySem.Challenge.rw_il0028_01.row.prog w) (ktrTop dp un gd (fnd w.params 106).qualname (fnd w.params 106).scope L 106 (fnd w.params 106).code [((PySem.Str.ofString "year"), c)] outer) (execs ((fb w.params 106).drop 3) (envX (fnd w.params 106).qualname (fnd w.params 106).scope L 106 (fnd w.params 106).code [((PySem.Str.ofString "year"), c)])) Q E s := by
  k_with_none
  k_with "eval Tuple" => (k_here; dsimp only; (try k_gentoks))
  k_with "eval Call" => (k_here; dsimp only; (try k_gentoks))
  k_with "eval Attribute" => (k_here; dsimp only; (try k_gentoks))
  k_with "exec Assign" => (k_here; dsimp only; (try k_gentoks))
  k_with "exec If" => (k_here; dsimp only; (try k_gentoks))
  k_with "exec For" => (k_here; dsimp only; (try k_gentoks))
  k_with "execs cons" => (k_here; dsimp only; (try k_gentoks))
  k_with "execs nil" => (k_here; dsimp only; (try k_gentoks))
  k_with "pyIter ref" => (k_here; dsimp only; (try k_gentoks))
  k_with "newTuple" => (k_here; dsimp only; (try k_gentoks))
  k_with "assign Tuple" => (k_here; dsimp only; (try k_gentoks))
  k_with "ItemsRest" => (dsimp only)
  k_with "UnrPostW" => (dsimp only)
  k_with "UnrEndW" => (dsimp only)
  k_with "assign Tuple" => (k_here; k_dflt (refine' Mine.assign6 ?kF ?kN ?kT ?kh ?kk ?kc ?kU ?kd ?y0 ?y1 ?y2 ?y3 ?y4 ?y5 ?_; (case kF => k_asm); (case kN => k_asm); (case kT => is_list); (case kh => exact rfl); (case kk => exact rfl); (case kc => exact rfl); (case kU => k_updF); (case kd => assumption); (case y0 => exact rfl); (case y1 => exact rfl); (case y2 => exact rfl); (case y3 => exact rfl); (case y4 => exact rfl); (case y5 => exact rfl)); intro h9 tk9 o9 F9 N9 d9; (try dsimp only))
  k_with "compareOp Eq ref ref" => (k_here; k_dflt (first | (refine' PySem.SeqAt.eq_list_lengthsAt ?k1 ?k2 ?k3 ?k4 ?_; (case k1 => is_list); (case k2 => is_list); (case k3 => exact rfl); (case k4 => ktr_units)) | (refine' Mine.eq_nil ?k1 ?k2 ?k4 ?_; (case k1 => is_list); (case k2 => is_list); (case k4 => ktr_units))))
  k_with "execs cons" => (k_here; (with_reducible show wpAny _ _ (execs (Stmt.If (Expr.BoolOp _ (Expr.Compare (Expr.Name (PySem.Str.ofString "year") _) _ _ _ :: _) _) _ _ _ :: _) _) _ _ _); k_dflt ((rename Fr _ _ _ _ => lF'); (refine Exists.elim (Mine.fr_c5 lF' (PySem.Str.ofString "month") (PySem.Str.ofString "day") (PySem.Str.ofString "hour") (PySem.Str.ofString "minute") (PySem.Str.ofString "second") (by ((try dsimp only); repeat (first | with_reducible exact Mine.lk_eq | with_reducible refine (Mine.lk_n (by decide)).trans ?_))) (by ((try dsimp only); repeat (first | with_reducible exact Mine.lk_eq | with_reducible refine (Mine.lk_n (by decide)).trans ?_))) (by ((try dsimp only); repeat (first | with_reducible exact Mine.lk_eq | with_reducible refine (Mine.lk_n (by decide)).trans ?_))) (by ((try dsimp only); repeat (first | with_reducible exact Mine.lk_eq | with_reducible refine (Mine.lk_n (by decide)).trans ?_))) (by ((try dsimp only); repeat (first | with_reducible exact Mine.lk_eq | with_reducible refine (Mine.lk_n (by decide)).trans ?_)))) ?_); intro u9 F9'; clear lF'; (try dsimp only); (refine' Mine.due_last ?hy ?hmo ?hdy ?hh ?hmi ?hsc ?hco ?kF ?kB ?kX ?kN ?kT ?kr ?ku ?kE ?_ ?_); (case kF => k_asm); (case kB => k_asm); (case kX => k_asm); (case kN => refine' cb_drop ?cbN ?cbS; (case cbN => k_asm); (case cbS => kcj_all)); (case hco => assumption); (case kT => k_asm); (case kr => ktr_room); (case ku => ktr_units); (case kE => assumption); (case hy => exact Mine.pv_bound (Mine.fits_all (by omega))); (case hmo => first | exact ⟨(Mine.pv_bound (Mine.fits_all (by omega))).1, Mine.pv_bound2 (by decide) (Mine.fits_all (by omega))⟩ | (constructor <;> decide)); (case hdy => first | exact ⟨(Mine.pv_bound (Mine.fits_all (by omega))).1, Mine.pv_bound2 (by decide) (Mine.fits_all (by omega))⟩ | (constructor <;> decide)); (case hh => first | exact ⟨(Mine.pv_bound (Mine.fits_all (by omega))).1, Mine.pv_bound2 (by decide) (Mine.fits_all (by omega))⟩ | (constructor <;> decide)); (case hmi => first | exact ⟨(Mine.pv_bound (Mine.fits_all (by omega))).1, Mine.pv_bound2 (by decide) (Mine.fits_all (by omega))⟩ | (constructor <;> decide)); (case hsc => first | exact ⟨(Mine.pv_bound (Mine.fits_all (by omega))).1, Mine.pv_bound2 (by decide) (Mine.fits_all (by omega))⟩ | (constructor <;> decide)); all_goals (intro hg9; intros; (try dsimp only); (try k_fold))))
  w_on
  (revert X; k_fill; intro X)
  have efd := fnd_of (P := w.params) (f := 106) (by k_is)
  unfold fb
  rw [efd] at hE ⊢
  clear efd
  w_strict (dsimp only [List.drop] at hE ⊢; (try k_fold); k_steps; all_goals ((try dsimp only); first | exact hA (by first | exact Mine.fits_zero (by assumption) | exact Mine.z_no 0 (by assumption) (by assumption) (by decide) (by decide) (by decide)) _ _ _ _ _ (by assumption) (by assumption)))
end Mine
namespace Mine
theorem due_rest1 {w : World} {mg mb : PySem.Str → Option Value} {loose : List PySem.Str} {mean : ExcName → Option Value} {dp un : Nat} {gd : Option (List Code)} {outer : List Env} {A₀ : Around} {base h₀ : Heap} {L : Addr}{u : PySem.Str → Option Value} {s : Shared} {Q : Flow → Shared → Prop} {E : Value → Shared → Prop} {c : Addr} {co : Obj} {x : PySem.Str} {tx ta t0 : Tok} {l : Addr} {cc : Nat} (hx : x.length ≤ 60) (hco : co.data = .cell none) (hn : partsN x.cps = 1) (hlc : @LT.lt Nat _ c l)
    (F : Fr h₀ L s.heap (fun z => if z = PySem.Str.ofString "text" then some (.str x tx) else if z = PySem.Str.ofString "parts" then some (.ref l) else if z = PySem.Str.ofString "at" then some (.int 4 ta) else u z))
    (B : Below A₀ base outer h₀) (X : (hd.heap_39 w.params).In h₀) (N : News h₀ L s.heap [(l, W.listOf #[.int (pv x 0) t0] cc), (c, co)]) (T : Top hd.view_39 loose mean mg mb h₀) (hroom : dp + 2 < recursionLimit) (hunits : un + 16 < cLine)
    (hE : PassesOwn (model PySem.Challenge.rw_il0028_01.row.prog w) (ktrTop dp un gd (fnd w.params 106).qualname (fnd w.params 106).scope L 106 (fnd w.params 106).code [((PySem.Str.ofString "year"), c)] outer) (envX (fnd w.params 106).qualname (fnd w.params 106).scope L 106 (fnd w.params 106).code [((PySem.Str.ofString "year"), c)]) E)
    (hA : fits x.cps = false → ∀ (t : Tok) (u' : PySem.Str → Option Value) (h' : Heap) (tk' : Nat) (nw : List (Addr × Obj)), Fr h₀ L h' u' → News h₀ L h' nw → Q (.ret (.str (PySem.Str.ofString "AttributeError") t)) { s with heap := h', toks := tk' })
    (hT : fits x.cps = true → ∀ (t : Tok) (u' : PySem.Str → Option Value) (h' : Heap) (tk' : Nat) (nw : List (Addr × Obj)), Fr h₀ L h' u' → News h₀ L h' nw → Q (.ret (.str (PySem.Str.ofString "TypeError") t)) { s with heap := h', toks := tk' }) :
    wpAny (model PySem.Challenge.rw_il0028_01.row.prog w) (ktrTop dp un gd (fnd w.params 106).qualname (fnd w.params 106).scope L 106 (fnd w.params 106).code [((PySem.Str.ofString "year"), c)] outer) (execs ((fb w.params 106).drop 3) (envX (fnd w.params 106).qualname (fnd w.params 106).scope L 106 (fnd w.params 106).code [((PySem.Str.ofString "year"), c)])) Q E s := by
  k_with_none
  k_with "eval Tuple" => (k_here; dsimp only; (try k_gentoks))
  k_with "eval Call" => (k_here; dsimp only; (try k_gentoks))
  k_with "eval Attribute" => (k_here; dsimp only; (try k_gentoks))
  k_with "exec Assign" => (k_here; dsimp only; (try k_gentoks))
  k_with "exec If" => (k_here; dsimp only; (try k_gentoks))
  k_with "exec For" => (k_here; dsimp only; (try k_gentoks))
  k_with "execs cons" => (k_here; dsimp only; (try k_gentoks))
  k_with "execs nil" => (k_here; dsimp only; (try k_gentoks))
  k_with "pyIter ref" => (k_here; dsimp only; (try k_gentoks))
  k_with "newTuple" => (k_here; dsimp only; (try k_gentoks))
  k_with "assign Tuple" => (k_here; dsimp only; (try k_gentoks))
  k_with "ItemsRest" => (dsimp only)
  k_with "UnrPostW" => (dsimp only)
  k_with "UnrEndW" => (dsimp only)
  k_with "assign Tuple" => (k_here; k_dflt (refine' Mine.assign6 ?kF ?kN ?kT ?kh ?kk ?kc ?kU ?kd ?y0 ?y1 ?y2 ?y3 ?y4 ?y5 ?_; (case kF => k_asm); (case kN => k_asm); (case kT => is_list); (case kh => exact rfl); (case kk => exact rfl); (case kc => exact rfl); (case kU => k_updF); (case kd => assumption); (case y0 => exact rfl); (case y1 => exact rfl); (case y2 => exact rfl); (case y3 => exact rfl); (case y4 => exact rfl); (case y5 => exact rfl)); intro h9 tk9 o9 F9 N9 d9; (try dsimp only))
  k_with "compareOp Eq ref ref" => (k_here; k_dflt (first | (refine' PySem.SeqAt.eq_list_lengthsAt ?k1 ?k2 ?k3 ?k4 ?_; (case k1 => is_list); (case k2 => is_list); (case k3 => exact rfl); (case k4 => ktr_units)) | (refine' Mine.eq_nil ?k1 ?k2 ?k4 ?_; (case k1 => is_list); (case k2 => is_list); (case k4 => ktr_units))))
  k_with "execs cons" => (k_here; (with_reducible show wpAny _ _ (execs (Stmt.If (Expr.BoolOp _ (Expr.Compare (Expr.Name (PySem.Str.ofString "year") _) _ _ _ :: _) _) _ _ _ :: _) _) _ _ _); k_dflt ((rename Fr _ _ _ _ => lF'); (refine Exists.elim (Mine.fr_c5 lF' (PySem.Str.ofString "month") (PySem.Str.ofString "day") (PySem.Str.ofString "hour") (PySem.Str.ofString "minute") (PySem.Str.ofString "second") (by ((try dsimp only); repeat (first | with_reducible exact Mine.lk_eq | with_reducible refine (Mine.lk_n (by decide)).trans ?_))) (by ((try dsimp only); repeat (first | with_reducible exact Mine.lk_eq | with_reducible refine (Mine.lk_n (by decide)).trans ?_))) (by ((try dsimp only); repeat (first | with_reducible exact Mine.lk_eq | with_reducible refine (Mine.lk_n (by decide)).trans ?_))) (by ((try dsimp only); repeat (first | with_reducible exact Mine.lk_eq | with_reducible refine (Mine.lk_n (by decide)).trans ?_))) (by ((try dsimp only); repeat (first | with_reducible exact Mine.lk_eq | with_reducible refine (Mine.lk_n (by decide)).trans ?_)))) ?_); intro u9 F9'; clear lF'; (try dsimp only); (refine' Mine.due_last ?hy ?hmo ?hdy ?hh ?hmi ?hsc ?hco ?kF ?kB ?kX ?kN ?kT ?kr ?ku ?kE ?_ ?_); (case kF => k_asm); (case kB => k_asm); (case kX => k_asm); (case kN => refine' cb_drop ?cbN ?cbS; (case cbN => k_asm); (case cbS => kcj_all)); (case hco => assumption); (case kT => k_asm); (case kr => ktr_room); (case ku => ktr_units); (case kE => assumption); (case hy => exact Mine.pv_bound (Mine.fits_all (by omega))); (case hmo => first | exact ⟨(Mine.pv_bound (Mine.fits_all (by omega))).1, Mine.pv_bound2 (by decide) (Mine.fits_all (by omega))⟩ | (constructor <;> decide)); (case hdy => first | exact ⟨(Mine.pv_bound (Mine.fits_all (by omega))).1, Mine.pv_bound2 (by decide) (Mine.fits_all (by omega))⟩ | (constructor <;> decide)); (case hh => first | exact ⟨(Mine.pv_bound (Mine.fits_all (by omega))).1, Mine.pv_bound2 (by decide) (Mine.fits_all (by omega))⟩ | (constructor <;> decide)); (case hmi => first | exact ⟨(Mine.pv_bound (Mine.fits_all (by omega))).1, Mine.pv_bound2 (by decide) (Mine.fits_all (by omega))⟩ | (constructor <;> decide)); (case hsc => first | exact ⟨(Mine.pv_bound (Mine.fits_all (by omega))).1, Mine.pv_bound2 (by decide) (Mine.fits_all (by omega))⟩ | (constructor <;> decide)); all_goals (intro hg9; intros; (try dsimp only); (try k_fold))))
  have hb0 := pv_bound (fits_all (x := x) (i := 0) (by omega))
  w_on
  (revert X; k_fill; intro X)
  have efd := fnd_of (P := w.params) (f := 106) (by k_is)
  unfold fb
  rw [efd] at hE ⊢
  clear efd
  w_strict (dsimp only [List.drop] at hE ⊢; (try k_fold); k_steps; all_goals ((try dsimp only); first | exact hA (by first | exact Mine.fits_zero (by assumption) | exact Mine.z_no 1 (by assumption) (by assumption) (by decide) (by decide) (by decide)) _ _ _ _ _ (by assumption) (by assumption) | exact hT (Mine.z_yes 1 (by assumption) (by assumption) (by decide) (by decide) (by decide)) _ _ _ _ _ (by assumption) (by assumption)))
end Mine
namespace Mine
theorem due_rest2 {w : World} {mg mb : PySem.Str → Option Value} {loose : List PySem.Str} {mean : ExcName → Option Value} {dp un : Nat} {gd : Option (List Code)} {outer : List Env} {A₀ : Around} {base h₀ : Heap} {L : Addr}{u : PySem.Str → Option Value} {s : Shared} {Q : Flow → Shared → Prop} {E : Value → Shared → Prop} {c : Addr} {co : Obj} {x : PySem.Str} {tx ta t0 t1 : Tok} {l : Addr} {cc : Nat} (hx : x.length ≤ 60) (hco : co.data = .cell none) (hn : partsN x.cps = 2) (hlc : @LT.lt Nat _ c l)
    (F : Fr h₀ L s.heap (fun z => if z = PySem.Str.ofString "text" then some (.str x tx) else if z = PySem.Str.ofString "parts" then some (.ref l) else if z = PySem.Str.ofString "at" then some (.int 7 ta) else u z))
    (B : Below A₀ base outer h₀) (X : (hd.heap_39 w.params).In h₀) (N : News h₀ L s.heap [(l, W.listOf #[.int (pv x 0) t0, .int (pv x 1) t1] cc), (c, co)]) (T : Top hd.view_39 loose mean mg mb h₀) (hroom : dp + 2 < recursionLimit) (hunits : un + 16 < cLine)
    (hE : PassesOwn (model PySem.Challenge.rw_il0028_01.row.prog w) (ktrTop dp un gd (fnd w.params 106).qualname (fnd w.params 106).scope L 106 (fnd w.params 106).code [((PySem.Str.ofString "year"), c)] outer) (envX (fnd w.params 106).qualname (fnd w.params 106).scope L 106 (fnd w.params 106).code [((PySem.Str.ofString "year"), c)]) E)
    (hA : fits x.cps = false → ∀ (t : Tok) (u' : PySem.Str → Option Value) (h' : Heap) (tk' : Nat) (nw : List (Addr × Obj)), Fr h₀ L h' u' → News h₀ L h' nw → Q (.ret (.str (PySem.Str.ofString "AttributeError") t)) { s with heap := h', toks := tk' })
    (hT : fits x.cps = true → ∀ (t : Tok) (u' : PySem.Str → Option Value) (h' : Heap) (tk' : Nat) (nw : List (Addr × Obj)), Fr h₀ L h' u' → News h₀ L h' nw → Q (.ret (.str (PySem.Str.ofString "TypeError") t)) { s with heap := h', toks := tk' }) :
    wpAny (model PySem.Challenge.rw_il0028_01.row.prog w) (ktrTop dp un gd (fnd w.params 106).qualname (fnd w.params 106).scope L 106 (fnd w.params 106).code [((PySem.Str.ofString "year"), c)] outer) (execs ((fb w.params 106).drop 3) (envX (fnd w.params 106).qualname (fnd w.params 106).scope L 106 (fnd w.params 106).code [((PySem.Str.ofString "year"), c)])) Q E s := by
  k_with_none
  k_with "eval Tuple" => (k_here; dsimp only; (try k_gentoks))
  k_with "eval Call" => (k_here; dsimp only; (try k_gentoks))
  k_with "eval Attribute" => (k_here; dsimp only; (try k_gentoks))
  k_with "exec Assign" => (k_here; dsimp only; (try k_gentoks))
  k_with "exec If" => (k_here; dsimp only; (try k_gentoks))
  k_with "exec For" => (k_here; dsimp only; (try k_gentoks))
  k_with "execs cons" => (k_here; dsimp only; (try k_gentoks))
  k_with "execs nil" => (k_here; dsimp only; (try k_gentoks))
  k_with "pyIter ref" => (k_here; dsimp only; (try k_gentoks))
  k_with "newTuple" => (k_here; dsimp only; (try k_gentoks))
  k_with "assign Tuple" => (k_here; dsimp only; (try k_gentoks))
  k_with "ItemsRest" => (dsimp only)
  k_with "UnrPostW" => (dsimp only)
  k_with "UnrEndW" => (dsimp only)
  k_with "assign Tuple" => (k_here; k_dflt (refine' Mine.assign6 ?kF ?kN ?kT ?kh ?kk ?kc ?kU ?kd ?y0 ?y1 ?y2 ?y3 ?y4 ?y5 ?_; (case kF => k_asm); (case kN => k_asm); (case kT => is_list); (case kh => exact rfl); (case kk => exact rfl); (case kc => exact rfl); (case kU => k_updF); (case kd => assumption); (case y0 => exact rfl); (case y1 => exact rfl); (case y2 => exact rfl); (case y3 => exact rfl); (case y4 => exact rfl); (case y5 => exact rfl)); intro h9 tk9 o9 F9 N9 d9; (try dsimp only))
  k_with "compareOp Eq ref ref" => (k_here; k_dflt (first | (refine' PySem.SeqAt.eq_list_lengthsAt ?k1 ?k2 ?k3 ?k4 ?_; (case k1 => is_list); (case k2 => is_list); (case k3 => exact rfl); (case k4 => ktr_units)) | (refine' Mine.eq_nil ?k1 ?k2 ?k4 ?_; (case k1 => is_list); (case k2 => is_list); (case k4 => ktr_units))))
  k_with "execs cons" => (k_here; (with_reducible show wpAny _ _ (execs (Stmt.If (Expr.BoolOp _ (Expr.Compare (Expr.Name (PySem.Str.ofString "year") _) _ _ _ :: _) _) _ _ _ :: _) _) _ _ _); k_dflt ((rename Fr _ _ _ _ => lF'); (refine Exists.elim (Mine.fr_c5 lF' (PySem.Str.ofString "month") (PySem.Str.ofString "day") (PySem.Str.ofString "hour") (PySem.Str.ofString "minute") (PySem.Str.ofString "second") (by ((try dsimp only); repeat (first | with_reducible exact Mine.lk_eq | with_reducible refine (Mine.lk_n (by decide)).trans ?_))) (by ((try dsimp only); repeat (first | with_reducible exact Mine.lk_eq | with_reducible refine (Mine.lk_n (by decide)).trans ?_))) (by ((try dsimp only); repeat (first | with_reducible exact Mine.lk_eq | with_reducible refine (Mine.lk_n (by decide)).trans ?_))) (by ((try dsimp only); repeat (first | with_reducible exact Mine.lk_eq | with_reducible refine (Mine.lk_n (by decide)).trans ?_))) (by ((try dsimp only); repeat (first | with_reducible exact Mine.lk_eq | with_reducible refine (Mine.lk_n (by decide)).trans ?_)))) ?_); intro u9 F9'; clear lF'; (try dsimp only); (refine' Mine.due_last ?hy ?hmo ?hdy ?hh ?hmi ?hsc ?hco ?kF ?kB ?kX ?kN ?kT ?kr ?ku ?kE ?_ ?_); (case kF => k_asm); (case kB => k_asm); (case kX => k_asm); (case kN => refine' cb_drop ?cbN ?cbS; (case cbN => k_asm); (case cbS => kcj_all)); (case hco => assumption); (case kT => k_asm); (case kr => ktr_room); (case ku => ktr_units); (case kE => assumption); (case hy => exact Mine.pv_bound (Mine.fits_all (by omega))); (case hmo => first | exact ⟨(Mine.pv_bound (Mine.fits_all (by omega))).1, Mine.pv_bound2 (by decide) (Mine.fits_all (by omega))⟩ | (constructor <;> decide)); (case hdy => first | exact ⟨(Mine.pv_bound (Mine.fits_all (by omega))).1, Mine.pv_bound2 (by decide) (Mine.fits_all (by omega))⟩ | (constructor <;> decide)); (case hh => first | exact ⟨(Mine.pv_bound (Mine.fits_all (by omega))).1, Mine.pv_bound2 (by decide) (Mine.fits_all (by omega))⟩ | (constructor <;> decide)); (case hmi => first | exact ⟨(Mine.pv_bound (Mine.fits_all (by omega))).1, Mine.pv_bound2 (by decide) (Mine.fits_all (by omega))⟩ | (constructor <;> decide)); (case hsc => first | exact ⟨(Mine.pv_bound (Mine.fits_all (by omega))).1, Mine.pv_bound2 (by decide) (Mine.fits_all (by omega))⟩ | (constructor <;> decide)); all_goals (intro hg9; intros; (try dsimp only); (try k_fold))))
  have hb0 := pv_bound (fits_all (x := x) (i := 0) (by omega))
  have hb1 := pv_bound2 (by decide) (fits_all (x := x) (i := 1) (by omega))
  w_on
  (revert X; k_fill; intro X)
  have efd := fnd_of (P := w.params) (f := 106) (by k_is)
  unfold fb
  rw [efd] at hE ⊢
  clear efd
  w_strict (dsimp only [List.drop] at hE ⊢; (try k_fold); k_steps; all_goals ((try dsimp only); first | exact hA (by first | exact Mine.fits_zero (by assumption) | exact Mine.z_no 2 (by assumption) (by assumption) (by decide) (by decide) (by decide)) _ _ _ _ _ (by assumption) (by assumption) | exact hT (Mine.z_yes 2 (by assumption) (by assumption) (by decide) (by decide) (by decide)) _ _ _ _ _ (by assumption) (by assumption)))
end Mine
namespace Mine
theorem due_rest3 {w : World} {mg mb : PySem.Str → Option Value} {loose : List PySem.Str} {mean : ExcName → Option Value} {dp un : Nat} {gd : Option (List Code)} {outer : List Env} {A₀ : Around} {base h₀ : Heap} {L : Addr}{u : PySem.Str → Option Value} {s : Shared} {Q : Flow → Shared → Prop} {E : Value → Shared → Prop} {c : Addr} {co : Obj} {x : PySem.Str} {tx ta t0 t1 t2 : Tok} {l : Addr} {cc : Nat} (hx : x.length ≤ 60) (hco : co.data = .cell none) (hn : partsN x.cps = 3) (hlc : @LT.lt Nat _ c l)
    (F : Fr h₀ L s.heap (fun z => if z = PySem.Str.ofString "text" then some (.str x tx) else if z = PySem.Str.ofString "parts" then some (.ref l) else if z = PySem.Str.ofString "at" then some (.int 10 ta) else u z))
    (B : Below A₀ base outer h₀) (X : (hd.heap_39 w.params).In h₀) (N : News h₀ L s.heap [(l, W.listOf #[.int (pv x 0) t0, .int (pv x 1) t1, .int (pv x 2) t2] cc), (c, co)]) (T : Top hd.view_39 loose mean mg mb h₀) (hroom : dp + 2 < recursionLimit) (hunits : un + 16 < cLine)
    (hE : PassesOwn (model PySem.Challenge.rw_il0028_01.row.prog w) (ktrTop dp un gd (fnd w.params 106).qualname (fnd w.params 106).scope L 106 (fnd w.params 106).code [((PySem.Str.ofString "year"), c)] outer) (envX (fnd w.params 106).qualname (fnd w.params 106).scope L 106 (fnd w.params 106).code [((PySem.Str.ofString "year"), c)]) E)
    (hA : fits x.cps = false → ∀ (t : Tok) (u' : PySem.Str → Option Value) (h' : Heap) (tk' : Nat) (nw : List (Addr × Obj)), Fr h₀ L h' u' → News h₀ L h' nw → Q (.ret (.str (PySem.Str.ofString "AttributeError") t)) { s with heap := h', toks := tk' })
    (hV : fits x.cps = true → ¬ Good7 (pv x 0) (pv x 1) (pv x 2) 0 0 0 0 → ∀ (t : Tok) (u' : PySem.Str → Option Value) (h' : Heap) (tk' : Nat) (nw : List (Addr × Obj)), Fr h₀ L h' u' → News h₀ L h' nw → Q (.ret (.str (PySem.Str.ofString "ValueError") t)) { s with heap := h', toks := tk' })
    (hG : fits x.cps = true → Good7 (pv x 0) (pv x 1) (pv x 2) 0 0 0 0 → ∀ (t : Tok) (u' : PySem.Str → Option Value) (h' : Heap) (tk' : Nat) (nw : List (Addr × Obj)), Fr h₀ L h' u' → News h₀ L h' nw → Q (.ret (.int ((ord (pv x 0) (pv x 1) (pv x 2) - 1) * 86400 + 0 * 3600 + 0 * 60 + 0) t)) { s with heap := h', toks := tk' }) :
    wpAny (model PySem.Challenge.rw_il0028_01.row.prog w) (ktrTop dp un gd (fnd w.params 106).qualname (fnd w.params 106).scope L 106 (fnd w.params 106).code [((PySem.Str.ofString "year"), c)] outer) (execs ((fb w.params 106).drop 3) (envX (fnd w.params 106).qualname (fnd w.params 106).scope L 106 (fnd w.params 106).code [((PySem.Str.ofString "year"), c)])) Q E s := by
  k_with_none
  k_with "eval Tuple" => (k_here; dsimp only; (try k_gentoks))
  k_with "eval Call" => (k_here; dsimp only; (try k_gentoks))
  k_with "eval Attribute" => (k_here; dsimp only; (try k_gentoks))
  k_with "exec Assign" => (k_here; dsimp only; (try k_gentoks))
  k_with "exec If" => (k_here; dsimp only; (try k_gentoks))
  k_with "exec For" => (k_here; dsimp only; (try k_gentoks))
  k_with "execs cons" => (k_here; dsimp only; (try k_gentoks))
  k_with "execs nil" => (k_here; dsimp only; (try k_gentoks))
  k_with "pyIter ref" => (k_here; dsimp only; (try k_gentoks))
  k_with "newTuple" => (k_here; dsimp only; (try k_gentoks))
  k_with "assign Tuple" => (k_here; dsimp only; (try k_gentoks))
  k_with "ItemsRest" => (dsimp only)
  k_with "UnrPostW" => (dsimp only)
  k_with "UnrEndW" => (dsimp only)
  k_with "assign Tuple" => (k_here; k_dflt (refine' Mine.assign6 ?kF ?kN ?kT ?kh ?kk ?kc ?kU ?kd ?y0 ?y1 ?y2 ?y3 ?y4 ?y5 ?_; (case kF => k_asm); (case kN => k_asm); (case kT => is_list); (case kh => exact rfl); (case kk => exact rfl); (case kc => exact rfl); (case kU => k_updF); (case kd => assumption); (case y0 => exact rfl); (case y1 => exact rfl); (case y2 => exact rfl); (case y3 => exact rfl); (case y4 => exact rfl); (case y5 => exact rfl)); intro h9 tk9 o9 F9 N9 d9; (try dsimp only))
  k_with "compareOp Eq ref ref" => (k_here; k_dflt (first | (refine' PySem.SeqAt.eq_list_lengthsAt ?k1 ?k2 ?k3 ?k4 ?_; (case k1 => is_list); (case k2 => is_list); (case k3 => exact rfl); (case k4 => ktr_units)) | (refine' Mine.eq_nil ?k1 ?k2 ?k4 ?_; (case k1 => is_list); (case k2 => is_list); (case k4 => ktr_units))))
  k_with "execs cons" => (k_here; (with_reducible show wpAny _ _ (execs (Stmt.If (Expr.BoolOp _ (Expr.Compare (Expr.Name (PySem.Str.ofString "year") _) _ _ _ :: _) _) _ _ _ :: _) _) _ _ _); k_dflt ((rename Fr _ _ _ _ => lF'); (refine Exists.elim (Mine.fr_c5 lF' (PySem.Str.ofString "month") (PySem.Str.ofString "day") (PySem.Str.ofString "hour") (PySem.Str.ofString "minute") (PySem.Str.ofString "second") (by ((try dsimp only); repeat (first | with_reducible exact Mine.lk_eq | with_reducible refine (Mine.lk_n (by decide)).trans ?_))) (by ((try dsimp only); repeat (first | with_reducible exact Mine.lk_eq | with_reducible refine (Mine.lk_n (by decide)).trans ?_))) (by ((try dsimp only); repeat (first | with_reducible exact Mine.lk_eq | with_reducible refine (Mine.lk_n (by decide)).trans ?_))) (by ((try dsimp only); repeat (first | with_reducible exact Mine.lk_eq | with_reducible refine (Mine.lk_n (by decide)).trans ?_))) (by ((try dsimp only); repeat (first | with_reducible exact Mine.lk_eq | with_reducible refine (Mine.lk_n (by decide)).trans ?_)))) ?_); intro u9 F9'; clear lF'; (try dsimp only); (refine' Mine.due_last ?hy ?hmo ?hdy ?hh ?hmi ?hsc ?hco ?kF ?kB ?kX ?kN ?kT ?kr ?ku ?kE ?_ ?_); (case kF => k_asm); (case kB => k_asm); (case kX => k_asm); (case kN => refine' cb_drop ?cbN ?cbS; (case cbN => k_asm); (case cbS => kcj_all)); (case hco => assumption); (case kT => k_asm); (case kr => ktr_room); (case ku => ktr_units); (case kE => assumption); (case hy => exact Mine.pv_bound (Mine.fits_all (by omega))); (case hmo => first | exact ⟨(Mine.pv_bound (Mine.fits_all (by omega))).1, Mine.pv_bound2 (by decide) (Mine.fits_all (by omega))⟩ | (constructor <;> decide)); (case hdy => first | exact ⟨(Mine.pv_bound (Mine.fits_all (by omega))).1, Mine.pv_bound2 (by decide) (Mine.fits_all (by omega))⟩ | (constructor <;> decide)); (case hh => first | exact ⟨(Mine.pv_bound (Mine.fits_all (by omega))).1, Mine.pv_bound2 (by decide) (Mine.fits_all (by omega))⟩ | (constructor <;> decide)); (case hmi => first | exact ⟨(Mine.pv_bound (Mine.fits_all (by omega))).1, Mine.pv_bound2 (by decide) (Mine.fits_all (by omega))⟩ | (constructor <;> decide)); (case hsc => first | exact ⟨(Mine.pv_bound (Mine.fits_all (by omega))).1, Mine.pv_bound2 (by decide) (Mine.fits_all (by omega))⟩ | (constructor <;> decide)); all_goals (intro hg9; intros; (try dsimp only); (try k_fold))))
  have hb0 := pv_bound (fits_all (x := x) (i := 0) (by omega))
  have hb1 := pv_bound2 (by decide) (fits_all (x := x) (i := 1) (by omega))
  have hb2 := pv_bound2 (by decide) (fits_all (x := x) (i := 2) (by omega))
  w_on
  (revert X; k_fill; intro X)
  have efd := fnd_of (P := w.params) (f := 106) (by k_is)
  unfold fb
  rw [efd] at hE ⊢
  clear efd
  w_strict (dsimp only [List.drop] at hE ⊢; (try k_fold); k_steps; all_goals ((try dsimp only); first | exact hA (by first | exact Mine.fits_zero (by assumption) | exact Mine.z_no 3 (by assumption) (by assumption) (by decide) (by decide) (by decide)) _ _ _ _ _ (by assumption) (by assumption) | exact hV (Mine.z_yes 3 (by assumption) (by assumption) (by decide) (by decide) (by decide)) (by assumption) _ _ _ _ _ (by assumption) (by assumption) | ((have ev := ‹_ = (ord _ _ _ - 1) * 86400 + _ * 3600 + _ * 60 + _›); subst ev; exact hG (Mine.z_yes 3 (by assumption) (by assumption) (by decide) (by decide) (by decide)) (by assumption) _ _ _ _ _ (by assumption) (by assumption))))
end Mine
namespace Mine
theorem due_rest4 {w : World} {mg mb : PySem.Str → Option Value} {loose : List PySem.Str} {mean : ExcName → Option Value} {dp un : Nat} {gd : Option (List Code)} {outer : List Env} {A₀ : Around} {base h₀ : Heap} {L : Addr}{u : PySem.Str → Option Value} {s : Shared} {Q : Flow → Shared → Prop} {E : Value → Shared → Prop} {c : Addr} {co : Obj} {x : PySem.Str} {tx ta t0 t1 t2 t3 : Tok} {l : Addr} {cc : Nat} (hx : x.length ≤ 60) (hco : co.data = .cell none) (hn : partsN x.cps = 4) (hlc : @LT.lt Nat _ c l)
    (F : Fr h₀ L s.heap (fun z => if z = PySem.Str.ofString "text" then some (.str x tx) else if z = PySem.Str.ofString "parts" then some (.ref l) else if z = PySem.Str.ofString "at" then some (.int 13 ta) else u z))
    (B : Below A₀ base outer h₀) (X : (hd.heap_39 w.params).In h₀) (N : News h₀ L s.heap [(l, W.listOf #[.int (pv x 0) t0, .int (pv x 1) t1, .int (pv x 2) t2, .int (pv x 3) t3] cc), (c, co)]) (T : Top hd.view_39 loose mean mg mb h₀) (hroom : dp + 2 < recursionLimit) (hunits : un + 16 < cLine)
    (hE : PassesOwn (model PySem.Challenge.rw_il0028_01.row.prog w) (ktrTop dp un gd (fnd w.params 106).qualname (fnd w.params 106).scope L 106 (fnd w.params 106).code [((PySem.Str.ofString "year"), c)] outer) (envX (fnd w.params 106).qualname (fnd w.params 106).scope L 106 (fnd w.params 106).code [((PySem.Str.ofString "year"), c)]) E)
    (hA : fits x.cps = false → ∀ (t : Tok) (u' : PySem.Str → Option Value) (h' : Heap) (tk' : Nat) (nw : List (Addr × Obj)), Fr h₀ L h' u' → News h₀ L h' nw → Q (.ret (.str (PySem.Str.ofString "AttributeError") t)) { s with heap := h', toks := tk' })
    (hV : fits x.cps = true → ¬ Good7 (pv x 0) (pv x 1) (pv x 2) (pv x 3) 0 0 0 → ∀ (t : Tok) (u' : PySem.Str → Option Value) (h' : Heap) (tk' : Nat) (nw : List (Addr × Obj)), Fr h₀ L h' u' → News h₀ L h' nw → Q (.ret (.str (PySem.Str.ofString "ValueError") t)) { s with heap := h', toks := tk' })
    (hG : fits x.cps = true → Good7 (pv x 0) (pv x 1) (pv x 2) (pv x 3) 0 0 0 → ∀ (t : Tok) (u' : PySem.Str → Option Value) (h' : Heap) (tk' : Nat) (nw : List (Addr × Obj)), Fr h₀ L h' u' → News h₀ L h' nw → Q (.ret (.int ((ord (pv x 0) (pv x 1) (pv x 2) - 1) * 86400 + (pv x 3) * 3600 + 0 * 60 + 0) t)) { s with heap := h', toks := tk' }) :
    wpAny (model PySem.Challenge.rw_il0028_01.row.prog w) (ktrTop dp un gd (fnd w.params 106).qualname (fnd w.params 106).scope L 106 (fnd w.params 106).code [((PySem.Str.ofString "year"), c)] outer) (execs ((fb w.params 106).drop 3) (envX (fnd w.params 106).qualname (fnd w.params 106).scope L 106 (fnd w.params 106).code [((PySem.Str.ofString "year"), c)])) Q E s := by
  k_with_none
  k_with "eval Tuple" => (k_here; dsimp only; (try k_gentoks))
  k_with "eval Call" => (k_here; dsimp only; (try k_gentoks))
  k_with "eval Attribute" => (k_here; dsimp only; (try k_gentoks))
  k_with "exec Assign" => (k_here; dsimp only; (try k_gentoks))
  k_with "exec If" => (k_here; dsimp only; (try k_gentoks))
  k_with "exec For" => (k_here; dsimp only; (try k_gentoks))
  k_with "execs cons" => (k_here; dsimp only; (try k_gentoks))
  k_with "execs nil" => (k_here; dsimp only; (try k_gentoks))
  k_with "pyIter ref" => (k_here; dsimp only; (try k_gentoks))
  k_with "newTuple" => (k_here; dsimp only; (try k_gentoks))
  k_with "assign Tuple" => (k_here; dsimp only; (try k_gentoks))
  k_with "ItemsRest" => (dsimp only)
  k_with "UnrPostW" => (dsimp only)
  k_with "UnrEndW" => (dsimp only)
  k_with "assign Tuple" => (k_here; k_dflt (refine' Mine.assign6 ?kF ?kN ?kT ?kh ?kk ?kc ?kU ?kd ?y0 ?y1 ?y2 ?y3 ?y4 ?y5 ?_; (case kF => k_asm); (case kN => k_asm); (case kT => is_list); (case kh => exact rfl); (case kk => exact rfl); (case kc => exact rfl); (case kU => k_updF); (case kd => assumption); (case y0 => exact rfl); (case y1 => exact rfl); (case y2 => exact rfl); (case y3 => exact rfl); (case y4 => exact rfl); (case y5 => exact rfl)); intro h9 tk9 o9 F9 N9 d9; (try dsimp only))
  k_with "compareOp Eq ref ref" => (k_here; k_dflt (first | (refine' PySem.SeqAt.eq_list_lengthsAt ?k1 ?k2 ?k3 ?k4 ?_; (case k1 => is_list); (case k2 => is_list); (case k3 => exact rfl); (case k4 => ktr_units)) | (refine' Mine.eq_nil ?k1 ?k2 ?k4 ?_; (case k1 => is_list); (case k2 => is_list); (case k4 => ktr_units))))
  k_with "execs cons" => (k_here; (with_reducible show wpAny _ _ (execs (Stmt.If (Expr.BoolOp _ (Expr.Compare (Expr.Name (PySem.Str.ofString "year") _) _ _ _ :: _) _) _ _ _ :: _) _) _ _ _); k_dflt ((rename Fr _ _ _ _ => lF'); (refine Exists.elim (Mine.fr_c5 lF' (PySem.Str.ofString "month") (PySem.Str.ofString "day") (PySem.Str.ofString "hour") (PySem.Str.ofString "minute") (PySem.Str.ofString "second") (by ((try dsimp only); repeat (first | with_reducible exact Mine.lk_eq | with_reducible refine (Mine.lk_n (by decide)).trans ?_))) (by ((try dsimp only); repeat (first | with_reducible exact Mine.lk_eq | with_reducible refine (Mine.lk_n (by decide)).trans ?_))) (by ((try dsimp only); repeat (first | with_reducible exact Mine.lk_eq | with_reducible refine (Mine.lk_n (by decide)).trans ?_))) (by ((try dsimp only); repeat (first | with_reducible exact Mine.lk_eq | with_reducible refine (Mine.lk_n (by decide)).trans ?_))) (by ((try dsimp only); repeat (first | with_reducible exact Mine.lk_eq | with_reducible refine (Mine.lk_n (by decide)).trans ?_)))) ?_); intro u9 F9'; clear lF'; (try dsimp only); (refine' Mine.due_last ?hy ?hmo ?hdy ?hh ?hmi ?hsc ?hco ?kF ?kB ?kX ?kN ?kT ?kr ?ku ?kE ?_ ?_); (case kF => k_asm); (case kB => k_asm); (case kX => k_asm); (case kN => refine' cb_drop ?cbN ?cbS; (case cbN => k_asm); (case cbS => kcj_all)); (case hco => assumption); (case kT => k_asm); (case kr => ktr_room); (case ku => ktr_units); (case kE => assumption); (case hy => exact Mine.pv_bound (Mine.fits_all (by omega))); (case hmo => first | exact ⟨(Mine.pv_bound (Mine.fits_all (by omega))).1, Mine.pv_bound2 (by decide) (Mine.fits_all (by omega))⟩ | (constructor <;> decide)); (case hdy => first | exact ⟨(Mine.pv_bound (Mine.fits_all (by omega))).1, Mine.pv_bound2 (by decide) (Mine.fits_all (by omega))⟩ | (constructor <;> decide)); (case hh => first | exact ⟨(Mine.pv_bound (Mine.fits_all (by omega))).1, Mine.pv_bound2 (by decide) (Mine.fits_all (by omega))⟩ | (constructor <;> decide)); (case hmi => first | exact ⟨(Mine.pv_bound (Mine.fits_all (by omega))).1, Mine.pv_bound2 (by decide) (Mine.fits_all (by omega))⟩ | (constructor <;> decide)); (case hsc => first | exact ⟨(Mine.pv_bound (Mine.fits_all (by omega))).1, Mine.pv_bound2 (by decide) (Mine.fits_all (by omega))⟩ | (constructor <;> decide)); all_goals (intro hg9; intros; (try dsimp only); (try k_fold))))
  have hb0 := pv_bound (fits_all (x := x) (i := 0) (by omega))
  have hb1 := pv_bound2 (by decide) (fits_all (x := x) (i := 1) (by omega))
  have hb2 := pv_bound2 (by decide) (fits_all (x := x) (i := 2) (by omega))
  have hb3 := pv_bound2 (by decide) (fits_all (x := x) (i := 3) (by omega))
  w_on
  (revert X; k_fill; intro X)
  have efd := fnd_of (P := w.params) (f := 106) (by k_is)
  unfold fb
  rw [efd] at hE ⊢
  clear efd
  w_strict (dsimp only [List.drop] at hE ⊢; (try k_fold); k_steps; all_goals ((try dsimp only); first | exact hA (by first | exact Mine.fits_zero (by assumption) | exact Mine.z_no 4 (by assumption) (by assumption) (by decide) (by decide) (by decide)) _ _ _ _ _ (by assumption) (by assumption) | exact hV (Mine.z_yes 4 (by assumption) (by assumption) (by decide) (by decide) (by decide)) (by assumption) _ _ _ _ _ (by assumption) (by assumption) | ((have ev := ‹_ = (ord _ _ _ - 1) * 86400 + _ * 3600 + _ * 60 + _›); subst ev; exact hG (Mine.z_yes 4 (by assumption) (by assumption) (by decide) (by decide) (by decide)) (by assumption) _ _ _ _ _ (by assumption) (by assumption))))
end Mine
namespace Mine
theorem due_rest5 {w : World} {mg mb : PySem.Str → Option Value} {loose : List PySem.Str} {mean : ExcName → Option Value} {dp un : Nat} {gd : Option (List Code)} {outer : List Env} {A₀ : Around} {base h₀ : Heap} {L : Addr}{u : PySem.Str → Option Value} {s : Shared} {Q : Flow → Shared → Prop} {E : Value → Shared → Prop} {c : Addr} {co : Obj} {x : PySem.Str} {tx ta t0 t1 t2 t3 t4 : Tok} {l : Addr} {cc : Nat} (hx : x.length ≤ 60) (hco : co.data = .cell none) (hn : partsN x.cps = 5) (hlc : @LT.lt Nat _ c l)
    (F : Fr h₀ L s.heap (fun z => if z = PySem.Str.ofString "text" then some (.str x tx) else if z = PySem.Str.ofString "parts" then some (.ref l) else if z = PySem.Str.ofString "at" then some (.int 16 ta) else u z))
    (B : Below A₀ base outer h₀) (X : (hd.heap_39 w.params).In h₀) (N : News h₀ L s.heap [(l, W.listOf #[.int (pv x 0) t0, .int (pv x 1) t1, .int (pv x 2) t2, .int (pv x 3) t3, .int (pv x 4) t4] cc), (c, co)]) (T : Top hd.view_39 loose mean mg mb h₀) (hroom : dp + 2 < recursionLimit) (hunits : un + 16 < cLine)
    (hE : PassesOwn (model PySem.Challenge.rw_il0028_01.row.prog w) (ktrTop dp un gd (fnd w.params 106).qualname (fnd w.params 106).scope L 106 (fnd w.params 106).code [((PySem.Str.ofString "year"), c)] outer) (envX (fnd w.params 106).qualname (fnd w.params 106).scope L 106 (fnd w.params 106).code [((PySem.Str.ofString "year"), c)]) E)
    (hA : fits x.cps = false → ∀ (t : Tok) (u' : PySem.Str → Option Value) (h' : Heap) (tk' : Nat) (nw : List (Addr × Obj)), Fr h₀ L h' u' → News h₀ L h' nw → Q (.ret (.str (PySem.Str.ofString "AttributeError") t)) { s with heap := h', toks := tk' })
    (hV : fits x.cps = true → ¬ Good7 (pv x 0) (pv x 1) (pv x 2) (pv x 3) (pv x 4) 0 0 → ∀ (t : Tok) (u' : PySem.Str → Option Value) (h' : Heap) (tk' : Nat) (nw : List (Addr × Obj)), Fr h₀ L h' u' → News h₀ L h' nw → Q (.ret (.str (PySem.Str.ofString "ValueError") t)) { s with heap := h', toks := tk' })
    (hG : fits x.cps = true → Good7 (pv x 0) (pv x 1) (pv x 2) (pv x 3) (pv x 4) 0 0 → ∀ (t : Tok) (u' : PySem.Str → Option Value) (h' : Heap) (tk' : Nat) (nw : List (Addr × Obj)), Fr h₀ L h' u' → News h₀ L h' nw → Q (.ret (.int ((ord (pv x 0) (pv x 1) (pv x 2) - 1) * 86400 + (pv x 3) * 3600 + (pv x 4) * 60 + 0) t)) { s with heap := h', toks := tk' }) :
    wpAny (model PySem.Challenge.rw_il0028_01.row.prog w) (ktrTop dp un gd (fnd w.params 106).qualname (fnd w.params 106).scope L 106 (fnd w.params 106).code [((PySem.Str.ofString "year"), c)] outer) (execs ((fb w.params 106).drop 3) (envX (fnd w.params 106).qualname (fnd w.params 106).scope L 106 (fnd w.params 106).code [((PySem.Str.ofString "year"), c)])) Q E s := by
  k_with_none
  k_with "eval Tuple" => (k_here; dsimp only; (try k_gentoks))
  k_with "eval Call" => (k_here; dsimp only; (try k_gentoks))
  k_with "eval Attribute" => (k_here; dsimp only; (try k_gentoks))
  k_with "exec Assign" => (k_here; dsimp only; (try k_gentoks))
  k_with "exec If" => (k_here; dsimp only; (try k_gentoks))
  k_with "exec For" => (k_here; dsimp only; (try k_gentoks))
  k_with "execs cons" => (k_here; dsimp only; (try k_gentoks))
  k_with "execs nil" => (k_here; dsimp only; (try k_gentoks))
  k_with "pyIter ref" => (k_here; dsimp only; (try k_gentoks))
  k_with "newTuple" => (k_here; dsimp only; (try k_gentoks))
  k_with "assign Tuple" => (k_here; dsimp only; (try k_gentoks))
  k_with "ItemsRest" => (dsimp only)
  k_with "UnrPostW" => (dsimp only)
  k_with "UnrEndW" => (dsimp only)
  k_with "assign Tuple" => (k_here; k_dflt (refine' Mine.assign6 ?kF ?kN ?kT ?kh ?kk ?kc ?kU ?kd ?y0 ?y1 ?y2 ?y3 ?y4 ?y5 ?_; (case kF => k_asm); (case kN => k_asm); (case kT => is_list); (case kh => exact rfl); (case kk => exact rfl); (case kc => exact rfl); (case kU => k_updF); (case kd => assumption); (case y0 => exact rfl); (case y1 => exact rfl); (case y2 => exact rfl); (case y3 => exact rfl); (case y4 => exact rfl); (case y5 => exact rfl)); intro h9 tk9 o9 F9 N9 d9; (try dsimp only))
  k_with "compareOp Eq ref ref" => (k_here; k_dflt (first | (refine' PySem.SeqAt.eq_list_lengthsAt ?k1 ?k2 ?k3 ?k4 ?_; (case k1 => is_list); (case k2 => is_list); (case k3 => exact rfl); (case k4 => ktr_units)) | (refine' Mine.eq_nil ?k1 ?k2 ?k4 ?_; (case k1 => is_list); (case k2 => is_list); (case k4 => ktr_units))))
  k_with "execs cons" => (k_here; (with_reducible show wpAny _ _ (execs (Stmt.If (Expr.BoolOp _ (Expr.Compare (Expr.Name (PySem.Str.ofString "year") _) _ _ _ :: _) _) _ _ _ :: _) _) _ _ _); k_dflt ((rename Fr _ _ _ _ => lF'); (refine Exists.elim (Mine.fr_c5 lF' (PySem.Str.ofString "month") (PySem.Str.ofString "day") (PySem.Str.ofString "hour") (PySem.Str.ofString "minute") (PySem.Str.ofString "second") (by ((try dsimp only); repeat (first | with_reducible exact Mine.lk_eq | with_reducible refine (Mine.lk_n (by decide)).trans ?_))) (by ((try dsimp only); repeat (first | with_reducible exact Mine.lk_eq | with_reducible refine (Mine.lk_n (by decide)).trans ?_))) (by ((try dsimp only); repeat (first | with_reducible exact Mine.lk_eq | with_reducible refine (Mine.lk_n (by decide)).trans ?_))) (by ((try dsimp only); repeat (first | with_reducible exact Mine.lk_eq | with_reducible refine (Mine.lk_n (by decide)).trans ?_))) (by ((try dsimp only); repeat (first | with_reducible exact Mine.lk_eq | with_reducible refine (Mine.lk_n (by decide)).trans ?_)))) ?_); intro u9 F9'; clear lF'; (try dsimp only); (refine' Mine.due_last ?hy ?hmo ?hdy ?hh ?hmi ?hsc ?hco ?kF ?kB ?kX ?kN ?kT ?kr ?ku ?kE ?_ ?_); (case kF => k_asm); (case kB => k_asm); (case kX => k_asm); (case kN => refine' cb_drop ?cbN ?cbS; (case cbN => k_asm); (case cbS => kcj_all)); (case hco => assumption); (case kT => k_asm); (case kr => ktr_room); (case ku => ktr_units); (case kE => assumption); (case hy => exact Mine.pv_bound (Mine.fits_all (by omega))); (case hmo => first | exact ⟨(Mine.pv_bound (Mine.fits_all (by omega))).1, Mine.pv_bound2 (by decide) (Mine.fits_all (by omega))⟩ | (constructor <;> decide)); (case hdy => first | exact ⟨(Mine.pv_bound (Mine.fits_all (by omega))).1, Mine.pv_bound2 (by decide) (Mine.fits_all (by omega))⟩ | (constructor <;> decide)); (case hh => first | exact ⟨(Mine.pv_bound (Mine.fits_all (by omega))).1, Mine.pv_bound2 (by decide) (Mine.fits_all (by omega))⟩ | (constructor <;> decide)); (case hmi => first | exact ⟨(Mine.pv_bound (Mine.fits_all (by omega))).1, Mine.pv_bound2 (by decide) (Mine.fits_all (by omega))⟩ | (constructor <;> decide)); (case hsc => first | exact ⟨(Mine.pv_bound (Mine.fits_all (by omega))).1, Mine.pv_bound2 (by decide) (Mine.fits_all (by omega))⟩ | (constructor <;> decide)); all_goals (intro hg9; intros; (try dsimp only); (try k_fold))))
  have hb0 := pv_bound (fits_all (x := x) (i := 0) (by omega))
  have hb1 := pv_bound2 (by decide) (fits_all (x := x) (i := 1) (by omega))
  have hb2 := pv_bound2 (by decide) (fits_all (x := x) (i := 2) (by omega))
  have hb3 := pv_bound2 (by decide) (fits_all (x := x) (i := 3) (by omega))
  have hb4 := pv_bound2 (by decide) (fits_all (x := x) (i := 4) (by omega))
  w_on
  (revert X; k_fill; intro X)
  have efd := fnd_of (P := w.params) (f := 106) (by k_is)
  unfold fb
  rw [efd] at hE ⊢
  clear efd
  w_strict (dsimp only [List.drop] at hE ⊢; (try k_fold); k_steps; all_goals ((try dsimp only); first | exact hA (by first | exact Mine.fits_zero (by assumption) | exact Mine.z_no 5 (by assumption) (by assumption) (by decide) (by decide) (by decide)) _ _ _ _ _ (by assumption) (by assumption) | exact hV (Mine.z_yes 5 (by assumption) (by assumption) (by decide) (by decide) (by decide)) (by assumption) _ _ _ _ _ (by assumption) (by assumption) | ((have ev := ‹_ = (ord _ _ _ - 1) * 86400 + _ * 3600 + _ * 60 + _›); subst ev; exact hG (Mine.z_yes 5 (by assumption) (by assumption) (by decide) (by decide) (by decide)) (by assumption) _ _ _ _ _ (by assumption) (by assumption))))
end Mine
namespace Mine
theorem due_rest6 {w : World} {mg mb : PySem.Str → Option Value} {loose : List PySem.Str} {mean : ExcName → Option Value} {dp un : Nat} {gd : Option (List Code)} {outer : List Env} {A₀ : Around} {base h₀ : Heap} {L : Addr}{u : PySem.Str → Option Value} {s : Shared} {Q : Flow → Shared → Prop} {E : Value → Shared → Prop} {c : Addr} {co : Obj} {x : PySem.Str} {tx ta t0 t1 t2 t3 t4 t5 : Tok} {l : Addr} {cc : Nat} (hx : x.length ≤ 60) (hco : co.data = .cell none) (hn : partsN x.cps = 6) (hlc : @LT.lt Nat _ c l)
    (F : Fr h₀ L s.heap (fun z => if z = PySem.Str.ofString "text" then some (.str x tx) else if z = PySem.Str.ofString "parts" then some (.ref l) else if z = PySem.Str.ofString "at" then some (.int 19 ta) else u z))
    (B : Below A₀ base outer h₀) (X : (hd.heap_39 w.params).In h₀) (N : News h₀ L s.heap [(l, W.listOf #[.int (pv x 0) t0, .int (pv x 1) t1, .int (pv x 2) t2, .int (pv x 3) t3, .int (pv x 4) t4, .int (pv x 5) t5] cc), (c, co)]) (T : Top hd.view_39 loose mean mg mb h₀) (hroom : dp + 2 < recursionLimit) (hunits : un + 16 < cLine)
    (hE : PassesOwn (model PySem.Challenge.rw_il0028_01.row.prog w) (ktrTop dp un gd (fnd w.params 106).qualname (fnd w.params 106).scope L 106 (fnd w.params 106).code [((PySem.Str.ofString "year"), c)] outer) (envX (fnd w.params 106).qualname (fnd w.params 106).scope L 106 (fnd w.params 106).code [((PySem.Str.ofString "year"), c)]) E)
    (hA : fits x.cps = false → ∀ (t : Tok) (u' : PySem.Str → Option Value) (h' : Heap) (tk' : Nat) (nw : List (Addr × Obj)), Fr h₀ L h' u' → News h₀ L h' nw → Q (.ret (.str (PySem.Str.ofString "AttributeError") t)) { s with heap := h', toks := tk' })
    (hV : fits x.cps = true → ¬ Good7 (pv x 0) (pv x 1) (pv x 2) (pv x 3) (pv x 4) (pv x 5) 0 → ∀ (t : Tok) (u' : PySem.Str → Option Value) (h' : Heap) (tk' : Nat) (nw : List (Addr × Obj)), Fr h₀ L h' u' → News h₀ L h' nw → Q (.ret (.str (PySem.Str.ofString "ValueError") t)) { s with heap := h', toks := tk' })
    (hG : fits x.cps = true → Good7 (pv x 0) (pv x 1) (pv x 2) (pv x 3) (pv x 4) (pv x 5) 0 → ∀ (t : Tok) (u' : PySem.Str → Option Value) (h' : Heap) (tk' : Nat) (nw : List (Addr × Obj)), Fr h₀ L h' u' → News h₀ L h' nw → Q (.ret (.int ((ord (pv x 0) (pv x 1) (pv x 2) - 1) * 86400 + (pv x 3) * 3600 + (pv x 4) * 60 + (pv x 5)) t)) { s with heap := h', toks := tk' }) :
    wpAny (model PySem.Challenge.rw_il0028_01.row.prog w) (ktrTop dp un gd (fnd w.params 106).qualname (fnd w.params 106).scope L 106 (fnd w.params 106).code [((PySem.Str.ofString "year"), c)] outer) (execs ((fb w.params 106).drop 3) (envX (fnd w.params 106).qualname (fnd w.params 106).scope L 106 (fnd w.params 106).code [((PySem.Str.ofString "year"), c)])) Q E s := by
  k_with_none
  k_with "eval Tuple" => (k_here; dsimp only; (try k_gentoks))
  k_with "eval Call" => (k_here; dsimp only; (try k_gentoks))
  k_with "eval Attribute" => (k_here; dsimp only; (try k_gentoks))
  k_with "exec Assign" => (k_here; dsimp only; (try k_gentoks))
  k_with "exec If" => (k_here; dsimp only; (try k_gentoks))
  k_with "exec For" => (k_here; dsimp only; (try k_gentoks))
  k_with "execs cons" => (k_here; dsimp only; (try k_gentoks))
  k_with "execs nil" => (k_here; dsimp only; (try k_gentoks))
  k_with "pyIter ref" => (k_here; dsimp only; (try k_gentoks))
  k_with "newTuple" => (k_here; dsimp only; (try k_gentoks))
  k_with "assign Tuple" => (k_here; dsimp only; (try k_gentoks))
  k_with "ItemsRest" => (dsimp only)
  k_with "UnrPostW" => (dsimp only)
  k_with "UnrEndW" => (dsimp only)
  k_with "assign Tuple" => (k_here; k_dflt (refine' Mine.assign6 ?kF ?kN ?kT ?kh ?kk ?kc ?kU ?kd ?y0 ?y1 ?y2 ?y3 ?y4 ?y5 ?_; (case kF => k_asm); (case kN => k_asm); (case kT => is_list); (case kh => exact rfl); (case kk => exact rfl); (case kc => exact rfl); (case kU => k_updF); (case kd => assumption); (case y0 => exact rfl); (case y1 => exact rfl); (case y2 => exact rfl); (case y3 => exact rfl); (case y4 => exact rfl); (case y5 => exact rfl)); intro h9 tk9 o9 F9 N9 d9; (try dsimp only))
  k_with "compareOp Eq ref ref" => (k_here; k_dflt (first | (refine' PySem.SeqAt.eq_list_lengthsAt ?k1 ?k2 ?k3 ?k4 ?_; (case k1 => is_list); (case k2 => is_list); (case k3 => exact rfl); (case k4 => ktr_units)) | (refine' Mine.eq_nil ?k1 ?k2 ?k4 ?_; (case k1 => is_list); (case k2 => is_list); (case k4 => ktr_units))))
  k_with "execs cons" => (k_here; (with_reducible show wpAny _ _ (execs (Stmt.If (Expr.BoolOp _ (Expr.Compare (Expr.Name (PySem.Str.ofString "year") _) _ _ _ :: _) _) _ _ _ :: _) _) _ _ _); k_dflt ((rename Fr _ _ _ _ => lF'); (refine Exists.elim (Mine.fr_c5 lF' (PySem.Str.ofString "month") (PySem.Str.ofString "day") (PySem.Str.ofString "hour") (PySem.Str.ofString "minute") (PySem.Str.ofString "second") (by ((try dsimp only); repeat (first | with_reducible exact Mine.lk_eq | with_reducible refine (Mine.lk_n (by decide)).trans ?_))) (by ((try dsimp only); repeat (first | with_reducible exact Mine.lk_eq | with_reducible refine (Mine.lk_n (by decide)).trans ?_))) (by ((try dsimp only); repeat (first | with_reducible exact Mine.lk_eq | with_reducible refine (Mine.lk_n (by decide)).trans ?_))) (by ((try dsimp only); repeat (first | with_reducible exact Mine.lk_eq | with_reducible refine (Mine.lk_n (by decide)).trans ?_))) (by ((try dsimp only); repeat (first | with_reducible exact Mine.lk_eq | with_reducible refine (Mine.lk_n (by decide)).trans ?_)))) ?_); intro u9 F9'; clear lF'; (try dsimp only); (refine' Mine.due_last ?hy ?hmo ?hdy ?hh ?hmi ?hsc ?hco ?kF ?kB ?kX ?kN ?kT ?kr ?ku ?kE ?_ ?_); (case kF => k_asm); (case kB => k_asm); (case kX => k_asm); (case kN => refine' cb_drop ?cbN ?cbS; (case cbN => k_asm); (case cbS => kcj_all)); (case hco => assumption); (case kT => k_asm); (case kr => ktr_room); (case ku => ktr_units); (case kE => assumption); (case hy => exact Mine.pv_bound (Mine.fits_all (by omega))); (case hmo => first | exact ⟨(Mine.pv_bound (Mine.fits_all (by omega))).1, Mine.pv_bound2 (by decide) (Mine.fits_all (by omega))⟩ | (constructor <;> decide)); (case hdy => first | exact ⟨(Mine.pv_bound (Mine.fits_all (by omega))).1, Mine.pv_bound2 (by decide) (Mine.fits_all (by omega))⟩ | (constructor <;> decide)); (case hh => first | exact ⟨(Mine.pv_bound (Mine.fits_all (by omega))).1, Mine.pv_bound2 (by decide) (Mine.fits_all (by omega))⟩ | (constructor <;> decide)); (case hmi => first | exact ⟨(Mine.pv_bound (Mine.fits_all (by omega))).1, Mine.pv_bound2 (by decide) (Mine.fits_all (by omega))⟩ | (constructor <;> decide)); (case hsc => first | exact ⟨(Mine.pv_bound (Mine.fits_all (by omega))).1, Mine.pv_bound2 (by decide) (Mine.fits_all (by omega))⟩ | (constructor <;> decide)); all_goals (intro hg9; intros; (try dsimp only); (try k_fold))))
  have hb0 := pv_bound (fits_all (x := x) (i := 0) (by omega))
  have hb1 := pv_bound2 (by decide) (fits_all (x := x) (i := 1) (by omega))
  have hb2 := pv_bound2 (by decide) (fits_all (x := x) (i := 2) (by omega))
  have hb3 := pv_bound2 (by decide) (fits_all (x := x) (i := 3) (by omega))
  have hb4 := pv_bound2 (by decide) (fits_all (x := x) (i := 4) (by omega))
  have hb5 := pv_bound2 (by decide) (fits_all (x := x) (i := 5) (by omega))
  w_on
  (revert X; k_fill; intro X)
  have efd := fnd_of (P := w.params) (f := 106) (by k_is)
  unfold fb
  rw [efd] at hE ⊢
  clear efd
  w_strict (dsimp only [List.drop] at hE ⊢; (try k_fold); k_steps; all_goals ((try dsimp only); first | exact hA (by first | exact Mine.fits_zero (by assumption) | exact Mine.z_no 6 (by assumption) (by assumption) (by decide) (by decide) (by decide)) _ _ _ _ _ (by assumption) (by assumption) | exact hV (Mine.z_yes 6 (by assumption) (by assumption) (by decide) (by decide) (by decide)) (by assumption) _ _ _ _ _ (by assumption) (by assumption) | ((have ev := ‹_ = (ord _ _ _ - 1) * 86400 + _ * 3600 + _ * 60 + _›); subst ev; exact hG (Mine.z_yes 6 (by assumption) (by assumption) (by decide) (by decide) (by decide)) (by assumption) _ _ _ _ _ (by assumption) (by assumption))))
end Mine
end
section
open PySem PySem.W PyProof.Rows
set_option maxRecDepth 100000
set_option maxHeartbeats 4000000
local macro_rules | `(tactic| passes_own) => `(tactic| assumption)
namespace Mine
section
variable {M : Model} {A : Around} {E : Value → Shared → Prop} {env : Env}
theorem execs_two {Q : Flow → Shared → Prop} {a b : Stmt} {r : List Stmt} {s : Shared} (h : wpAny M A (execs [a, b] env) (fun f s' => match f with | .next => wpAny M A (execs r env) Q E s' | f => Q f s') E s) : wpAny M A (execs (a :: b :: r) env) Q E s := fun Γ p hΓ => by
  have h' := h Γ p hΓ
  rw [execs_cons, Sem.wp_bind'] at h' ⊢
  refine Sem.wp_mono M Γ _ (fun f p' s' h1 => ?_) (fun _ _ _ h1 => h1) _ _ h'
  cases f <;> try exact h1
  dsimp only at h1 ⊢
  rw [execs_cons, Sem.wp_bind'] at h1 ⊢
  refine Sem.wp_mono M Γ _ (fun f p' s' h2 => ?_) (fun _ _ _ h2 => h2) _ _ h1
  cases f <;> try exact h2
  exact h2 Γ _ hΓ
end
theorem split3 {l : List Stmt} (h : 3 ≤ l.length) : l = stAt l 0 :: stAt l 1 :: stAt l 2 :: l.drop 3 := by
  match l, h with
  | a :: b :: c :: r, _ => rfl
end Mine
namespace Mine
theorem due_first {w : World} {mg mb : PySem.Str → Option Value} {loose : List PySem.Str} {mean : ExcName → Option Value} {dp un : Nat} {gd : Option (List Code)} {outer : List Env} {A₀ : Around} {base h₀ : Heap} {L : Addr}{u : PySem.Str → Option Value} {s : Shared} {Q : Flow → Shared → Prop} {E : Value → Shared → Prop} {c : Addr} {co : Obj} {x : PySem.Str} {tx : Tok}
    (F : Fr h₀ L s.heap (fun z => if z = PySem.Str.ofString "text" then some (.str x tx) else u z))
    (B : Below A₀ base outer h₀) (X : (hd.heap_39 w.params).In h₀) (N : News h₀ L s.heap [(c, co)]) (T : Top hd.view_39 loose mean mg mb h₀) (hroom : dp + 2 < recursionLimit) (hunits : un + 16 < cLine)
    (hE : PassesOwn (model PySem.Challenge.rw_il0028_01.row.prog w) (ktrTop dp un gd (fnd w.params 106).qualname (fnd w.params 106).scope L 106 (fnd w.params 106).code [((PySem.Str.ofString "year"), c)] outer) (envX (fnd w.params 106).qualname (fnd w.params 106).scope L 106 (fnd w.params 106).code [((PySem.Str.ofString "year"), c)]) E)
    (hret : ∀ (l : Addr) (m' : PySem.Str → Option Value) (ta : Tok) (h' : Heap) (tk' : Nat), @LT.lt Nat _ c l → m' (PySem.Str.ofString "text") = some (.str x tx) → m' (PySem.Str.ofString "parts") = some (.ref l) → m' (PySem.Str.ofString "at") = some (.int 0 ta) → Fr h₀ L h' m' → News h₀ L h' [(l, W.listOf #[] 0), (c, co)] → Q .next { s with heap := h', toks := tk' }) :
    wpAny (model PySem.Challenge.rw_il0028_01.row.prog w) (ktrTop dp un gd (fnd w.params 106).qualname (fnd w.params 106).scope L 106 (fnd w.params 106).code [((PySem.Str.ofString "year"), c)] outer) (execs [stAt (fb w.params 106) 0, stAt (fb w.params 106) 1] (envX (fnd w.params 106).qualname (fnd w.params 106).scope L 106 (fnd w.params 106).code [((PySem.Str.ofString "year"), c)])) Q E s := by
  k_with_none
  k_with "eval Tuple" => (k_here; dsimp only; (try k_gentoks))
  k_with "eval Call" => (k_here; dsimp only; (try k_gentoks))
  k_with "eval Attribute" => (k_here; dsimp only; (try k_gentoks))
  k_with "exec Assign" => (k_here; dsimp only; (try k_gentoks))
  k_with "exec If" => (k_here; dsimp only; (try k_gentoks))
  k_with "exec For" => (k_here; dsimp only; (try k_gentoks))
  k_with "execs cons" => (k_here; dsimp only; (try k_gentoks))
  k_with "execs nil" => (k_here; dsimp only; (try k_gentoks))
  k_with "pyIter ref" => (k_here; dsimp only; (try k_gentoks))
  k_with "newTuple" => (k_here; dsimp only; (try k_gentoks))
  k_with "assign Tuple" => (k_here; dsimp only; (try k_gentoks))
  k_with "ItemsRest" => (dsimp only)
  k_with "UnrPostW" => (dsimp only)
  k_with "UnrEndW" => (dsimp only)
  w_on
  (revert X; k_fill; intro X)
  have efd := fnd_of (P := w.params) (f := 106) (by k_is)
  unfold fb
  rw [efd] at hE ⊢
  clear efd
  w_strict (dsimp only [stAt, List.getD, List.getElem?_cons_succ, List.getElem?_cons_zero, Option.getD_some] at hE ⊢; (try k_fold); k_steps; all_goals ((try dsimp only); refine' hret _ _ _ _ _ (by omega) ?h1 ?h2 ?h3 ?hF ?hN; (case hF => assumption); (case hN => assumption); (case h1 => ((try dsimp only); repeat (first | with_reducible exact Mine.lk_eq | with_reducible refine (Mine.lk_n (by decide)).trans ?_))); (case h2 => ((try dsimp only); repeat (first | with_reducible exact Mine.lk_eq | with_reducible refine (Mine.lk_n (by decide)).trans ?_))); (case h3 => ((try dsimp only); repeat (first | with_reducible exact Mine.lk_eq | with_reducible refine (Mine.lk_n (by decide)).trans ?_)))))
end Mine
namespace Mine
theorem due_body {w : World} {mg mb : PySem.Str → Option Value} {loose : List PySem.Str} {mean : ExcName → Option Value} {dp un : Nat} {gd : Option (List Code)} {outer : List Env} {A₀ : Around} {base h₀ : Heap} {L : Addr}{u : PySem.Str → Option Value} {s : Shared} {Q : Flow → Shared → Prop} {E : Value → Shared → Prop} {c : Addr} {co : Obj} {x : PySem.Str} {tx : Tok} (hx : x.length ≤ 60) (hco : co.data = .cell none)
    (F : Fr h₀ L s.heap (fun z => if z = PySem.Str.ofString "text" then some (.str x tx) else u z))
    (B : Below A₀ base outer h₀) (X : (hd.heap_39 w.params).In h₀) (N : News h₀ L s.heap [(c, co)]) (T : Top hd.view_39 loose mean mg mb h₀) (hroom : dp + 2 < recursionLimit) (hunits : un + 16 < cLine)
    (hE : PassesOwn (model PySem.Challenge.rw_il0028_01.row.prog w) (ktrTop dp un gd (fnd w.params 106).qualname (fnd w.params 106).scope L 106 (fnd w.params 106).code [((PySem.Str.ofString "year"), c)] outer) (envX (fnd w.params 106).qualname (fnd w.params 106).scope L 106 (fnd w.params 106).code [((PySem.Str.ofString "year"), c)]) E)
    (hA : fits x.cps = false → ∀ (t : Tok) (u' : PySem.Str → Option Value) (h' : Heap) (tk' : Nat) (nw : List (Addr × Obj)), Fr h₀ L h' u' → News h₀ L h' nw → Q (.ret (.str (PySem.Str.ofString "AttributeError") t)) { s with heap := h', toks := tk' })
    (hT : fits x.cps = true → partsN x.cps < 3 → ∀ (t : Tok) (u' : PySem.Str → Option Value) (h' : Heap) (tk' : Nat) (nw : List (Addr × Obj)), Fr h₀ L h' u' → News h₀ L h' nw → Q (.ret (.str (PySem.Str.ofString "TypeError") t)) { s with heap := h', toks := tk' })
    (hV : fits x.cps = true → 3 ≤ partsN x.cps → ¬ Good7 (fld x (partsN x.cps) 0) (fld x (partsN x.cps) 1) (fld x (partsN x.cps) 2) (fld x (partsN x.cps) 3) (fld x (partsN x.cps) 4) (fld x (partsN x.cps) 5) 0 → ∀ (t : Tok) (u' : PySem.Str → Option Value) (h' : Heap) (tk' : Nat) (nw : List (Addr × Obj)), Fr h₀ L h' u' → News h₀ L h' nw → Q (.ret (.str (PySem.Str.ofString "ValueError") t)) { s with heap := h', toks := tk' })
    (hG : fits x.cps = true → 3 ≤ partsN x.cps → Good7 (fld x (partsN x.cps) 0) (fld x (partsN x.cps) 1) (fld x (partsN x.cps) 2) (fld x (partsN x.cps) 3) (fld x (partsN x.cps) 4) (fld x (partsN x.cps) 5) 0 → ∀ (t : Tok) (u' : PySem.Str → Option Value) (h' : Heap) (tk' : Nat) (nw : List (Addr × Obj)), Fr h₀ L h' u' → News h₀ L h' nw → Q (.ret (.int ((ord (fld x (partsN x.cps) 0) (fld x (partsN x.cps) 1) (fld x (partsN x.cps) 2) - 1) * 86400 + (fld x (partsN x.cps) 3) * 3600 + (fld x (partsN x.cps) 4) * 60 + (fld x (partsN x.cps) 5)) t)) { s with heap := h', toks := tk' }) :
    wpAny (model PySem.Challenge.rw_il0028_01.row.prog w) (ktrTop dp un gd (fnd w.params 106).qualname (fnd w.params 106).scope L 106 (fnd w.params 106).code [((PySem.Str.ofString "year"), c)] outer) (execs (fb w.params 106) (envX (fnd w.params 106).qualname (fnd w.params 106).scope L 106 (fnd w.params 106).code [((PySem.Str.ofString "year"), c)])) Q E s := by
  have hlen : 3 ≤ (fb w.params 106).length := by
    (revert X; k_fill; intro X)
    have efd := fnd_of (P := w.params) (f := 106) (by k_is)
    unfold fb
    rw [efd]
    decide
  rw [split3 hlen]
  refine execs_two ?_
  refine due_first F B X N T hroom hunits hE fun l m' ta h' tk' hlt e1 e2 e3 F1 N1 => ?_
  obtain ⟨u1, F2⟩ := fr_c3 F1 _ _ _ e1 e2 e3
  show wpAny _ _ (execs (stAt (fb w.params 106) 2 :: (fb w.params 106).drop 3) _) Q E _
  refine wpAny_execs_cons ?_
  refine @due_loop w mg mb loose mean dp un gd outer A₀ base h₀ L u1 { s with heap := h', toks := tk' } _ E [(PySem.Str.ofString "year", c)] x tx ta l c co hx hlt F2 B X N1 T hroom hunits hE ?_ ?_ ?_ ?_ ?_ ?_ ?_
  · intro hn _t c' ta' m2 h2 tk2 a arr ear ea e1 e2 e3 F3 N3
    subst ear ea
    show wpAny _ _ (execs ((fb w.params 106).drop 3) _) Q E _
    obtain ⟨u3, F4⟩ := fr_c3 F3 _ _ _ e1 e2 e3
    exact @due_rest0 w mg mb loose mean dp un gd outer A₀ base h₀ L u3 { s with heap := h2, toks := tk2 } Q E c co x tx ta'  l c' hx hco hn hlt F4 B X N3 T hroom hunits hE hA
  · intro hn t0 c' ta' m2 h2 tk2 a arr ear ea e1 e2 e3 F3 N3
    subst ear ea
    show wpAny _ _ (execs ((fb w.params 106).drop 3) _) Q E _
    obtain ⟨u3, F4⟩ := fr_c3 F3 _ _ _ e1 e2 e3
    exact @due_rest1 w mg mb loose mean dp un gd outer A₀ base h₀ L u3 { s with heap := h2, toks := tk2 } Q E c co x tx ta' t0 l c' hx hco hn hlt F4 B X N3 T hroom hunits hE hA (fun hf => hT hf (by omega))
  · intro hn t0 t1 c' ta' m2 h2 tk2 a arr ear ea e1 e2 e3 F3 N3
    subst ear ea
    show wpAny _ _ (execs ((fb w.params 106).drop 3) _) Q E _
    obtain ⟨u3, F4⟩ := fr_c3 F3 _ _ _ e1 e2 e3
    exact @due_rest2 w mg mb loose mean dp un gd outer A₀ base h₀ L u3 { s with heap := h2, toks := tk2 } Q E c co x tx ta' t0 t1 l c' hx hco hn hlt F4 B X N3 T hroom hunits hE hA (fun hf => hT hf (by omega))
  · intro hn t0 t1 t2 c' ta' m2 h2 tk2 a arr ear ea e1 e2 e3 F3 N3
    subst ear ea
    show wpAny _ _ (execs ((fb w.params 106).drop 3) _) Q E _
    obtain ⟨u3, F4⟩ := fr_c3 F3 _ _ _ e1 e2 e3
    obtain ⟨g0, g1, g2, g3, g4, g5⟩ := f6_3 (x := x) hn
    exact @due_rest3 w mg mb loose mean dp un gd outer A₀ base h₀ L u3 { s with heap := h2, toks := tk2 } Q E c co x tx ta' t0 t1 t2 l c' hx hco hn hlt F4 B X N3 T hroom hunits hE hA (fun hf hg => hV hf (by omega) (by rw [g0, g1, g2, g3, g4, g5]; exact hg)) (fun hf hg => by have q := hG hf (by omega) (by rw [g0, g1, g2, g3, g4, g5]; exact hg); rw [g0, g1, g2, g3, g4, g5] at q; exact q)
  · intro hn t0 t1 t2 t3 c' ta' m2 h2 tk2 a arr ear ea e1 e2 e3 F3 N3
    subst ear ea
    show wpAny _ _ (execs ((fb w.params 106).drop 3) _) Q E _
    obtain ⟨u3, F4⟩ := fr_c3 F3 _ _ _ e1 e2 e3
    obtain ⟨g0, g1, g2, g3, g4, g5⟩ := f6_4 (x := x) hn
    exact @due_rest4 w mg mb loose mean dp un gd outer A₀ base h₀ L u3 { s with heap := h2, toks := tk2 } Q E c co x tx ta' t0 t1 t2 t3 l c' hx hco hn hlt F4 B X N3 T hroom hunits hE hA (fun hf hg => hV hf (by omega) (by rw [g0, g1, g2, g3, g4, g5]; exact hg)) (fun hf hg => by have q := hG hf (by omega) (by rw [g0, g1, g2, g3, g4, g5]; exact hg); rw [g0, g1, g2, g3, g4, g5] at q; exact q)
  · intro hn t0 t1 t2 t3 t4 c' ta' m2 h2 tk2 a arr ear ea e1 e2 e3 F3 N3
    subst ear ea
    show wpAny _ _ (execs ((fb w.params 106).drop 3) _) Q E _
    obtain ⟨u3, F4⟩ := fr_c3 F3 _ _ _ e1 e2 e3
    obtain ⟨g0, g1, g2, g3, g4, g5⟩ := f6_5 (x := x) hn
    exact @due_rest5 w mg mb loose mean dp un gd outer A₀ base h₀ L u3 { s with heap := h2, toks := tk2 } Q E c co x tx ta' t0 t1 t2 t3 t4 l c' hx hco hn hlt F4 B X N3 T hroom hunits hE hA (fun hf hg => hV hf (by omega) (by rw [g0, g1, g2, g3, g4, g5]; exact hg)) (fun hf hg => by have q := hG hf (by omega) (by rw [g0, g1, g2, g3, g4, g5]; exact hg); rw [g0, g1, g2, g3, g4, g5] at q; exact q)
  · intro hn t0 t1 t2 t3 t4 t5 c' ta' m2 h2 tk2 a arr ear ea e1 e2 e3 F3 N3
    subst ear ea
    show wpAny _ _ (execs ((fb w.params 106).drop 3) _) Q E _
    obtain ⟨u3, F4⟩ := fr_c3 F3 _ _ _ e1 e2 e3
    obtain ⟨g0, g1, g2, g3, g4, g5⟩ := f6_6 (x := x) hn
    exact @due_rest6 w mg mb loose mean dp un gd outer A₀ base h₀ L u3 { s with heap := h2, toks := tk2 } Q E c co x tx ta' t0 t1 t2 t3 t4 t5 l c' hx hco hn hlt F4 B X N3 T hroom hunits hE hA (fun hf hg => hV hf (by omega) (by rw [g0, g1, g2, g3, g4, g5]; exact hg)) (fun hf hg => by have q := hG hf (by omega) (by rw [g0, g1, g2, g3, g4, g5]; exact hg); rw [g0, g1, g2, g3, g4, g5] at q; exact q)
end Mine
end
section
open PySem PySem.W PyProof.Rows
set_option maxRecDepth 100000
set_option maxHeartbeats 4000000
local macro_rules | `(tactic| passes_own) => `(tactic| exact PySem.PassesOwn.leaving)
namespace Mine
theorem due_spec {w : World} {mg mb : PySem.Str → Option Value} {loose : List PySem.Str} {mean : ExcName → Option Value} {news : List (Addr × Obj)} {dp un : Nat} {gd : Option (List Code)} {cn : PySem.Str} {cs : Scope} {a : Addr} {ccd : Value} {cl : List (PySem.Str × Addr)} {outer : List Env} {A₀ : Around} {base h₀ : Heap} {L : Addr} {m : PySem.Str → Option Value} {s : Shared} {Q E : Value → Shared → Prop} {x : PySem.Str} {t : Tok} (hx : x.length ≤ 60)
    (B : Below A₀ base outer h₀) (F : Fr h₀ L s.heap m) (X : (hd.heap_39 w.params).In h₀) (N : News h₀ L s.heap news) (T : Top hd.view_39 loose mean mg mb h₀) (hkf : cs.kind = .function) (hroom : dp + 3 < recursionLimit) (hunits : un + 24 < cLine)
    (hA : fits x.cps = false → ∀ (t : Tok) (h' : Heap) (tk' : Nat), Fr h₀ L h' m → News h₀ L h' news → Q (.str (PySem.Str.ofString "AttributeError") t) { s with heap := h', toks := tk' })
    (hT : fits x.cps = true → partsN x.cps < 3 → ∀ (t : Tok) (h' : Heap) (tk' : Nat), Fr h₀ L h' m → News h₀ L h' news → Q (.str (PySem.Str.ofString "TypeError") t) { s with heap := h', toks := tk' })
    (hV : fits x.cps = true → 3 ≤ partsN x.cps → ¬ Good7 (fld x (partsN x.cps) 0) (fld x (partsN x.cps) 1) (fld x (partsN x.cps) 2) (fld x (partsN x.cps) 3) (fld x (partsN x.cps) 4) (fld x (partsN x.cps) 5) 0 → ∀ (t : Tok) (h' : Heap) (tk' : Nat), Fr h₀ L h' m → News h₀ L h' news → Q (.str (PySem.Str.ofString "ValueError") t) { s with heap := h', toks := tk' })
    (hret : fits x.cps = true → 3 ≤ partsN x.cps → Good7 (fld x (partsN x.cps) 0) (fld x (partsN x.cps) 1) (fld x (partsN x.cps) 2) (fld x (partsN x.cps) 3) (fld x (partsN x.cps) 4) (fld x (partsN x.cps) 5) 0 → ∀ (t : Tok) (h' : Heap) (tk' : Nat), Fr h₀ L h' m → News h₀ L h' news → Q (.int ((ord (fld x (partsN x.cps) 0) (fld x (partsN x.cps) 1) (fld x (partsN x.cps) 2) - 1) * 86400 + (fld x (partsN x.cps) 3) * 3600 + (fld x (partsN x.cps) 4) * 60 + (fld x (partsN x.cps) 5)) t) { s with heap := h', toks := tk' }) :
    wpAny (model PySem.Challenge.rw_il0028_01.row.prog w) (ktrTop dp un gd cn cs L a ccd cl outer) (call (.ref 106) [.str x t]) Q E s := by
  k_with_none
  k_with "eval Tuple" => (k_here; dsimp only; (try k_gentoks))
  k_with "eval Call" => (k_here; dsimp only; (try k_gentoks))
  k_with "eval Attribute" => (k_here; dsimp only; (try k_gentoks))
  k_with "exec Assign" => (k_here; dsimp only; (try k_gentoks))
  k_with "exec If" => (k_here; dsimp only; (try k_gentoks))
  k_with "exec For" => (k_here; dsimp only; (try k_gentoks))
  k_with "execs cons" => (k_here; dsimp only; (try k_gentoks))
  k_with "execs nil" => (k_here; dsimp only; (try k_gentoks))
  k_with "pyIter ref" => (k_here; dsimp only; (try k_gentoks))
  k_with "newTuple" => (k_here; dsimp only; (try k_gentoks))
  k_with "assign Tuple" => (k_here; dsimp only; (try k_gentoks))
  k_with "ItemsRest" => (dsimp only)
  k_with "UnrPostW" => (dsimp only)
  k_with "UnrEndW" => (dsimp only)
  w_on
  (revert X; k_fill; intro X)
  refine wpAny_call ?_
  w_strict (k_dflt (refine' Mine.code0C ?k1 ?k2 ?k3 ?k5 ?kA ?kF ?kK ?k6 ?k7 ?k8 ?k9 ?kB ?kD ?_ ?c2 ?c3 ?c4; (case kA => exact rfl); (case kF => exact rfl); (case kK => assumption); (case k1 => k_asm); (case k2 => k_asm); (case k3 => k_asm); (case k5 => k_asm); (case k6 => k_is); (case k7 => k_is); (case k8 => ktr_room); (case k9 => exact BindsTo.of_eq rfl); (case kB => exact rfl); (case kD => decide +kernel); (case c2 => exact rfl); (case c3 => exact rfl); (case c4 => exact rfl); k_whole; intro L' h' tk' cells' F' N' Y' B' X' T'; k_cells Y'; (try simp only [List.cons_append, List.nil_append] at N'); (try dsimp only); (try k_lift B'); (try k_fold); (refine Exists.elim (Mine.fr_c1 F' (PySem.Str.ofString "text") (by with_unfolding_all rfl)) ?_); intro u9 F9'; clear F'); have efd := fnd_of (P := w.params) (f := 106) (by k_is); have db := fun co hco QQ EE => @due_body w mg mb loose mean (dp + 1) (un + 3) gd (envX cn cs L a ccd cl :: outer) _ base s.heap L' u9 { s with heap := h', toks := tk' } QQ EE (L' + 1) co x t hx hco F9' B' X'; unfold fb at db; rw [efd] at db; dsimp only at db; (refine db _ (by assumption) _ _ N' T' (by omega) (by omega) PySem.PassesOwn.leaving ?_ ?_ ?_ ?_); (intro hf t2 u2 h2 tk2 nw F2 N2; exact ⟨L', u2, nw, F2, N2, fun Fm _ => hA hf t2 h2 tk2 Fm (Mine.news_keep N F2.keep)⟩); (intro hf hp t2 u2 h2 tk2 nw F2 N2; exact ⟨L', u2, nw, F2, N2, fun Fm _ => hT hf hp t2 h2 tk2 Fm (Mine.news_keep N F2.keep)⟩); (intro hf hp hg t2 u2 h2 tk2 nw F2 N2; exact ⟨L', u2, nw, F2, N2, fun Fm _ => hV hf hp hg t2 h2 tk2 Fm (Mine.news_keep N F2.keep)⟩); (intro hf hp hg t2 u2 h2 tk2 nw F2 N2; exact ⟨L', u2, nw, F2, N2, fun Fm _ => hret hf hp hg t2 h2 tk2 Fm (Mine.news_keep N F2.keep)⟩))
end Mine
end
section
open PySem PySem.W PySem.Calls PyProof.Rows PySem.NumText
set_option maxRecDepth 100000
set_option maxHeartbeats 1000000
namespace Mine
theorem zeros_of : ∀ {cs : List Nat}, cs.dropWhile (· == 48) = [] → cs = List.replicate cs.length 48
  | [], _ => rfl
  | c :: cs, h => by
    rw [List.dropWhile_cons] at h
    by_cases e : c = 48
    · subst e
      rw [if_pos (show ((48 : Nat) == 48) = true from rfl)] at h
      rw [List.length_cons, List.replicate_succ, ← zeros_of h]
    · rw [if_neg (by simpa using e)] at h
      cases h
theorem zeros_ahead : ∀ (cs : List Nat), cs = List.replicate (cs.length - (cs.dropWhile (· == 48)).length) 48 ++ cs.dropWhile (· == 48)
  | [] => rfl
  | c :: cs => by
    rw [List.dropWhile_cons]
    by_cases e : c = 48
    · subst e
      rw [if_pos (show ((48 : Nat) == 48) = true from rfl)]
      have h := zeros_ahead cs
      have hl : (cs.dropWhile (· == 48)).length ≤ cs.length := (List.dropWhile_sublist _).length_le
      rw [List.length_cons, show cs.length + 1 - (cs.dropWhile (· == 48)).length = (cs.length - (cs.dropWhile (· == 48)).length) + 1 by omega, List.replicate_succ, List.cons_append, ← h]
    · rw [if_neg (by simpa using e)]
      simp
theorem back_sign {cs : List Nat} (h : AllDigits cs) : (cs.map Char.ofNat).map Char.toNat = cs := by
  rw [List.map_map]
  refine (List.map_congr_left fun c hc => ?_).trans (List.map_id cs)
  have hq := h c hc
  exact (by decide : ∀ c : Nat, c < 58 → 48 ≤ c → (Char.ofNat c).toNat = c) c (by omega) hq.1
theorem pad_cs {cs : List Nat} (h : AllDigits cs) (hne : cs ≠ []) (h4 : cs.length ≤ 4) :
    (Txt.mul (PySem.Str.ofString "0") ((cs.length : Int) - ((PySem.Str.ofString (toString ((digitsVal cs : Nat) : Int))).length : Int)) ++ PySem.Str.ofString (toString ((digitsVal cs : Nat) : Int))).cps.toList = cs := by
  have e : (PySem.Str.ofString (toString ((digitsVal cs : Nat) : Int))).cps.toList = (match cs.dropWhile (· == 48) with | [] => [48] | c :: r => c :: r) := by
    rw [KIN.signs_num, toDigits_all cs h]
    cases q : cs.dropWhile (· == 48) with
    | nil => rfl
    | cons c r =>
      refine back_sign fun d hd => h d ?_
      have : d ∈ cs.dropWhile (· == 48) := by rw [q]; exact hd
      exact (List.dropWhile_sublist _).subset this
  have hl : (PySem.Str.ofString (toString ((digitsVal cs : Nat) : Int))).length = (match cs.dropWhile (· == 48) with | [] => [48] | c :: r => c :: r).length := by
    rw [← e]; exact Array.length_toList.symm
  rw [PySem.Str.cps_append, Array.toList_append, mul0 (by omega), e, hl]
  have hp : 0 < cs.length := List.length_pos_iff.mpr hne
  cases q : cs.dropWhile (· == 48) with
  | nil =>
    have := zeros_of q
    dsimp only
    rw [show ((cs.length : Int) - (([48] : List Nat).length : Int)).toNat = cs.length - 1 by simp]
    conv => rhs; rw [this]
    show List.replicate (cs.length - 1) 48 ++ [48] = _
    rw [← List.replicate_succ', show cs.length - 1 + 1 = cs.length by omega]
  | cons c r =>
    have := zeros_ahead cs
    rw [q] at this
    dsimp only
    have hlen : (c :: r).length ≤ cs.length := by rw [← q]; exact (List.dropWhile_sublist _).length_le
    rw [show ((cs.length : Int) - ((c :: r).length : Int)).toNat = cs.length - (c :: r).length by omega]
    show List.replicate _ 48 ++ _ = _
    exact this.symm
noncomputable def cs4 (n : Nat) : List Nat := [48 + n / 1000, 48 + n / 100 % 10, 48 + n / 10 % 10, 48 + n % 10]
noncomputable def cs2 (n : Nat) : List Nat := [48 + n / 10, 48 + n % 10]
theorem all4 {n : Nat} (h : n ≤ 9999) : AllDigits (cs4 n) := by
  intro c hc
  simp only [cs4, List.mem_cons, List.not_mem_nil, or_false] at hc
  rcases hc with rfl | rfl | rfl | rfl <;> omega
theorem all2 {n : Nat} (h : n ≤ 99) : AllDigits (cs2 n) := by
  intro c hc
  simp only [cs2, List.mem_cons, List.not_mem_nil, or_false] at hc
  rcases hc with rfl | rfl <;> omega
theorem val4 {n : Nat} (h : n ≤ 9999) : digitsVal (cs4 n) = n := by
  simp only [digitsVal, cs4, List.foldl_cons, List.foldl_nil]; omega
theorem val2 {n : Nat} (h : n ≤ 99) : digitsVal (cs2 n) = n := by
  simp only [digitsVal, cs2, List.foldl_cons, List.foldl_nil]; omega
theorem put_cs {x sg : PySem.Str} {cs : List Nat} (h : AllDigits cs) (hne : cs ≠ []) (h4 : cs.length ≤ 4) : (putT x ((digitsVal cs : Nat) : Int) (cs.length : Int) sg).cps.toList = x.cps.toList ++ cs ++ sg.cps.toList := by
  have := pad_cs h hne h4
  unfold putT
  rw [PySem.Str.cps_append, Array.toList_append] at this
  simp only [PySem.Str.cps_append, Array.toList_append, List.append_assoc]
  rw [← List.append_assoc (Txt.mul _ _).cps.toList, this]
theorem put4 {x sg : PySem.Str} {n : Int} (h : 0 ≤ n ∧ n ≤ 9999) : (putT x n 4 sg).cps.toList = x.cps.toList ++ cs4 n.toNat ++ sg.cps.toList := by
  have := put_cs (x := x) (sg := sg) (cs := cs4 n.toNat) (all4 (by omega)) (by simp [cs4]) (by simp [cs4])
  rw [val4 (by omega), show ((n.toNat : Nat) : Int) = n by omega] at this
  exact this
theorem put2 {x sg : PySem.Str} {n : Int} (h : 0 ≤ n ∧ n ≤ 99) : (putT x n 2 sg).cps.toList = x.cps.toList ++ cs2 n.toNat ++ sg.cps.toList := by
  have := put_cs (x := x) (sg := sg) (cs := cs2 n.toNat) (all2 (by omega)) (by simp [cs2]) (by simp [cs2])
  rw [val2 (by omega), show ((n.toNat : Nat) : Int) = n by omega] at this
  exact this
noncomputable def csK (y mo d h mi sc : Nat) (k : Nat) : List Nat := if k = 0 then cs4 y else if k = 1 then cs2 mo else if k = 2 then cs2 d else if k = 3 then cs2 h else if k = 4 then cs2 mi else cs2 sc
/-- the twenty signs -/
noncomputable def signs (y mo d h mi sc : Nat) : List Nat := cs4 y ++ 45 :: cs2 mo ++ 45 :: cs2 d ++ 84 :: cs2 h ++ 58 :: cs2 mi ++ 58 :: cs2 sc ++ [90]
theorem raw_signs {y mo d h mi sc : Int} (b0 : 0 ≤ y ∧ y ≤ 9999) (b1 : 0 ≤ mo ∧ mo ≤ 99) (b2 : 0 ≤ d ∧ d ≤ 99) (b3 : 0 ≤ h ∧ h ≤ 99) (b4 : 0 ≤ mi ∧ mi ≤ 99) (b5 : 0 ≤ sc ∧ sc ≤ 99) :
    (rawText y mo d h mi sc).cps = (signs y.toNat mo.toNat d.toNat h.toNat mi.toNat sc.toNat).toArray := by
  refine Array.ext' ?_
  unfold rawText
  rw [put2 b5, put2 b4, put2 b3, put2 b2, put2 b1, put4 b0]
  have e0 : (PySem.Str.ofString "").cps.toList = [] := by decide +kernel
  have e1 : (PySem.Str.ofString "-").cps.toList = [45] := by decide +kernel
  have e2 : (PySem.Str.ofString "T").cps.toList = [84] := by decide +kernel
  have e3 : (PySem.Str.ofString ":").cps.toList = [58] := by decide +kernel
  have e4 : (PySem.Str.ofString "Z").cps.toList = [90] := by decide +kernel
  rw [e0, e1, e2, e3, e4]
  simp [signs, cs4, cs2]
theorem digit_is {n : Nat} (h : n ≤ 9) : Sre.isDigit (48 + n) = true := (by decide : ∀ n : Nat, n < 10 → Sre.isDigit (48 + n) = true) n (by omega)
section
variable {y mo d h mi sc : Nat} (b0 : y ≤ 9999) (b1 : mo ≤ 99) (b2 : d ≤ 99) (b3 : h ≤ 99) (b4 : mi ≤ 99) (b5 : sc ≤ 99)
include b0 b1 b2 b3 b4 b5
theorem signs_fit : ∀ k, k < 6 → fitAt (signs y mo d h mi sc).toArray k = true := by
  have a1 := digit_is (n := y / 1000) (by omega)
  have a2 := digit_is (n := y / 100 % 10) (by omega)
  have a3 := digit_is (n := y / 10 % 10) (by omega)
  have a4 := digit_is (n := y % 10) (by omega)
  have c1 := digit_is (n := mo / 10) (by omega)
  have c2 := digit_is (n := mo % 10) (by omega)
  have d1 := digit_is (n := d / 10) (by omega)
  have d2 := digit_is (n := d % 10) (by omega)
  have e1 := digit_is (n := h / 10) (by omega)
  have e2 := digit_is (n := h % 10) (by omega)
  have f1 := digit_is (n := mi / 10) (by omega)
  have f2 := digit_is (n := mi % 10) (by omega)
  have g1 := digit_is (n := sc / 10) (by omega)
  have g2 := digit_is (n := sc % 10) (by omega)
  intro k hk
  have : k = 0 ∨ k = 1 ∨ k = 2 ∨ k = 3 ∨ k = 4 ∨ k = 5 := by omega
  rcases this with rfl | rfl | rfl | rfl | rfl | rfl <;> simp [fitAt, ask, signs, cs4, cs2, leadAt, a1, a2, a3, a4, c1, c2, d1, d2, e1, e2, f1, f2, g1, g2]
omit b0 b1 b2 b3 b4 b5 in
theorem signs_z : ask (signs y mo d h mi sc).toArray 90 19 = true := by simp [ask, signs, cs4, cs2]
omit b0 b1 b2 b3 b4 b5 in
theorem signs_part : ∀ k, k < 6 → ((signs y mo d h mi sc).toArray.extract (if k = 0 then 0 else 3 * k + 2) (3 * k + 4)).toList = csK y mo d h mi sc k := by
  intro k hk
  have : k = 0 ∨ k = 1 ∨ k = 2 ∨ k = 3 ∨ k = 4 ∨ k = 5 := by omega
  rcases this with rfl | rfl | rfl | rfl | rfl | rfl <;> simp [signs, cs4, cs2, csK]
end
/-- what the reader finds in a text -/
structure Reads (x : PySem.Str) (y mo d h mi sc : Int) : Prop where
  fit : fits x.cps = true
  three : 3 ≤ partsN x.cps
  e0 : fld x (partsN x.cps) 0 = y
  e1 : fld x (partsN x.cps) 1 = mo
  e2 : fld x (partsN x.cps) 2 = d
  e3 : fld x (partsN x.cps) 3 = h
  e4 : fld x (partsN x.cps) 4 = mi
  e5 : fld x (partsN x.cps) 5 = sc
theorem raw_reads {y mo d h mi sc : Int} (b0 : 0 ≤ y ∧ y ≤ 9999) (b1 : 0 ≤ mo ∧ mo ≤ 99) (b2 : 0 ≤ d ∧ d ≤ 99) (b3 : 0 ≤ h ∧ h ≤ 99) (b4 : 0 ≤ mi ∧ mi ≤ 99) (b5 : 0 ≤ sc ∧ sc ≤ 99) :
    Reads (rawText y mo d h mi sc) y mo d h mi sc := by
  have ec := raw_signs b0 b1 b2 b3 b4 b5
  have hf := signs_fit (y := y.toNat) (mo := mo.toNat) (d := d.toNat) (h := h.toNat) (mi := mi.toNat) (sc := sc.toNat) (by omega) (by omega) (by omega) (by omega) (by omega) (by omega)
  have hn : partsN (rawText y mo d h mi sc).cps = 6 := by
    rw [ec]
    unfold partsN
    rw [hf 0 (by decide), hf 1 (by decide), hf 2 (by decide), hf 3 (by decide), hf 4 (by decide), hf 5 (by decide)]
    rfl
  have hp := signs_part (y := y.toNat) (mo := mo.toNat) (d := d.toNat) (h := h.toNat) (mi := mi.toNat) (sc := sc.toNat)
  have pk : ∀ k (hk : k < 6), pv (rawText y mo d h mi sc) k = ((digitsVal (csK y.toNat mo.toNat d.toNat h.toNat mi.toNat sc.toNat k) : Nat) : Int) := fun k hk => by
    unfold pv partT
    rw [ec]
    exact congrArg (fun l => ((digitsVal l : Nat) : Int)) (hp k hk)
  refine ⟨?_, by rw [hn]; decide, ?_, ?_, ?_, ?_, ?_, ?_⟩
  · unfold fits
    rw [hn, ec]
    exact (by rw [signs_z]; rfl)
  · rw [hn, show fld (rawText y mo d h mi sc) 6 0 = pv _ 0 from rfl, pk 0 (by decide), show csK y.toNat mo.toNat d.toNat h.toNat mi.toNat sc.toNat 0 = cs4 y.toNat from rfl, val4 (by omega)]
    omega
  · rw [hn, show fld (rawText y mo d h mi sc) 6 1 = pv _ 1 from rfl, pk 1 (by decide), show csK y.toNat mo.toNat d.toNat h.toNat mi.toNat sc.toNat 1 = cs2 mo.toNat from rfl, val2 (by omega)]
    omega
  · rw [hn, show fld (rawText y mo d h mi sc) 6 2 = pv _ 2 from rfl, pk 2 (by decide), show csK y.toNat mo.toNat d.toNat h.toNat mi.toNat sc.toNat 2 = cs2 d.toNat from rfl, val2 (by omega)]
    omega
  · rw [hn, show fld (rawText y mo d h mi sc) 6 3 = pv _ 3 from rfl, pk 3 (by decide), show csK y.toNat mo.toNat d.toNat h.toNat mi.toNat sc.toNat 3 = cs2 h.toNat from rfl, val2 (by omega)]
    omega
  · rw [hn, show fld (rawText y mo d h mi sc) 6 4 = pv _ 4 from rfl, pk 4 (by decide), show csK y.toNat mo.toNat d.toNat h.toNat mi.toNat sc.toNat 4 = cs2 mi.toNat from rfl, val2 (by omega)]
    omega
  · rw [hn, show fld (rawText y mo d h mi sc) 6 5 = pv _ 5 from rfl, pk 5 (by decide), show csK y.toNat mo.toNat d.toNat h.toNat mi.toNat sc.toNat 5 = cs2 sc.toNat from rfl, val2 (by omega)]
    omega
theorem raw_length {y mo d h mi sc : Int} (b0 : 0 ≤ y ∧ y ≤ 9999) (b1 : 0 ≤ mo ∧ mo ≤ 99) (b2 : 0 ≤ d ∧ d ≤ 99) (b3 : 0 ≤ h ∧ h ≤ 99) (b4 : 0 ≤ mi ∧ mi ≤ 99) (b5 : 0 ≤ sc ∧ sc ≤ 99) :
    (rawText y mo d h mi sc).length = 20 := by
  show (rawText y mo d h mi sc).cps.size = 20
  rw [raw_signs b0 b1 b2 b3 b4 b5]
  rfl
end Mine
end
section
open PySem PySem.W PySem.Calls PyProof.Rows PySem.NumText
set_option maxRecDepth 100000
set_option maxHeartbeats 1000000
namespace Mine
open PySem.Builtin._datetime
/-- the date of a moment, with so many microseconds -/
noncomputable def dtOf (v us : Int) : Obj := dtObj (cvt v).1 (cvt v).2.1 (cvt v).2.2 ((v.fdiv 3600).fmod 24) ((v.fdiv 60).fmod 60) (v.fmod 60) us
/-- a moment of the calendar -/
noncomputable def Mom (v : Int) : Prop := 0 ≤ v ∧ v < 315537897600
noncomputable def secs (y mo d h mi sc : Int) : Int := (ord y mo d - 1) * 86400 + h * 3600 + mi * 60 + sc
theorem clk_is {v : Int} (h : 0 ≤ v) : (v.fdiv 3600).fmod 24 = v / 3600 % 24 ∧ (v.fdiv 60).fmod 60 = v / 60 % 60 ∧ v.fmod 60 = v % 60 := by
  rw [fdiv_pos _ (by decide), fdiv_pos _ (by decide), fmod_pos _ (by decide), fmod_pos _ (by decide), fmod_pos _ (by decide)]
  exact ⟨rfl, rfl, rfl⟩
theorem good_of {v us : Int} (hv : Mom v) (hu : 0 ≤ us ∧ us ≤ 999999) : Good7 (cvt v).1 (cvt v).2.1 (cvt v).2.2 ((v.fdiv 3600).fmod 24) ((v.fdiv 60).fmod 60) (v.fmod 60) us := by
  obtain ⟨c1, c2, c3⟩ := clk_is hv.1
  obtain ⟨a, b, c⟩ := civ_ok (n := v / 86400 + 1) (by have := hv.1; omega) (by have := hv.2; omega)
  obtain ⟨q1, q2, q3, q4, q5⟩ := a
  refine ⟨q1, c, q2, q3, q4, ?_, ?_, ?_, ?_, ?_, ?_, ?_, hu.1, hu.2⟩
  · show (civ (v / 86400 + 1)).2.2 ≤ daysInMonth (civ (v / 86400 + 1)).1 (civ (v / 86400 + 1)).2.1
    rw [daysInMonth_eq ⟨q2, q3⟩]; exact q5
  all_goals (first | rw [c1] | rw [c2] | rw [c3]); omega
theorem secs_of {v : Int} (hv : Mom v) : secs (cvt v).1 (cvt v).2.1 (cvt v).2.2 ((v.fdiv 3600).fmod 24) ((v.fdiv 60).fmod 60) (v.fmod 60) = v := by
  obtain ⟨c1, c2, c3⟩ := clk_is hv.1
  obtain ⟨_, b, _⟩ := civ_ok (n := v / 86400 + 1) (by have := hv.1; omega) (by have := hv.2; omega)
  unfold secs
  rw [c1, c2, c3, show ord (cvt v).1 (cvt v).2.1 (cvt v).2.2 = v / 86400 + 1 from b]
  omega
theorem good_day {y mo d h mi sc us : Int} (g : Good7 y mo d h mi sc us) : Day y mo d := by
  have := g.d2
  rw [daysInMonth_eq ⟨g.m1, g.m2⟩] at this
  exact ⟨g.y1, g.m1, g.m2, g.d1, this⟩
theorem ahead_9999 : ahead 10000 = 3652059 := by decide
theorem ahead_1 : ahead 1 = 0 := by decide
theorem ord_range {y mo d : Int} (h : Day y mo d) (hy : y ≤ 9999) : 1 ≤ ord y mo d ∧ ord y mo d ≤ 3652059 := by
  have a := day_lo h
  have b := day_hi h
  have c := ahead_mono (y := 1) (y' := y) h.1
  have e := ahead_mono (y := y + 1) (y' := 10000) (by omega)
  rw [ahead_1] at c
  rw [ahead_9999] at e
  omega
theorem secs_mom {y mo d h mi sc us : Int} (g : Good7 y mo d h mi sc us) : Mom (secs y mo d h mi sc) := by
  have o := ord_range (good_day g) g.y2
  have := g.h1; have := g.h2; have := g.i1; have := g.i2; have := g.s1; have := g.s2
  unfold Mom secs
  omega
theorem dt_secs {y mo d h mi sc us : Int} (g : Good7 y mo d h mi sc us) : (cvt (secs y mo d h mi sc)).1 = y ∧ (cvt (secs y mo d h mi sc)).2.1 = mo ∧ (cvt (secs y mo d h mi sc)).2.2 = d ∧
    ((secs y mo d h mi sc).fdiv 3600).fmod 24 = h ∧ ((secs y mo d h mi sc).fdiv 60).fmod 60 = mi ∧ (secs y mo d h mi sc).fmod 60 = sc := by
  have o := ord_range (good_day g) g.y2
  have q1 := g.h1; have q2 := g.h2; have q3 := g.i1; have q4 := g.i2; have q5 := g.s1; have q6 := g.s2
  obtain ⟨c1, c2, c3⟩ := clk_is (secs_mom g).1
  have e : secs y mo d h mi sc / 86400 + 1 = ord y mo d := by unfold secs; omega
  obtain ⟨a, b, _⟩ := civ_ok (n := ord y mo d) o.1 o.2
  obtain ⟨x1, x2, x3⟩ := ord_inj a (good_day g) b
  unfold cvt
  rw [e, c1, c2, c3]
  refine ⟨x1, x2, x3, ?_, ?_, ?_⟩ <;> (unfold secs; omega)
theorem dtOf_secs {y mo d h mi sc us : Int} (g : Good7 y mo d h mi sc us) (u : Int) : dtOf (secs y mo d h mi sc) u = dtObj y mo d h mi sc u := by
  obtain ⟨a, b, c, e, f, k⟩ := dt_secs g
  unfold dtOf
  rw [a, b, c, e, f, k]
theorem lawText_secs {y mo d h mi sc us : Int} (g : Good7 y mo d h mi sc us) : lawText (secs y mo d h mi sc) = rawText y mo d h mi sc := by
  obtain ⟨a, b, c, e, f, k⟩ := dt_secs g
  unfold lawText
  rw [a, b, c, e, f, k]
theorem good_b {y mo d h mi sc us : Int} (g : Good7 y mo d h mi sc us) : (0 ≤ y ∧ y ≤ 9999) ∧ (0 ≤ mo ∧ mo ≤ 99) ∧ (0 ≤ d ∧ d ≤ 99) ∧ (0 ≤ h ∧ h ≤ 99) ∧ (0 ≤ mi ∧ mi ≤ 99) ∧ (0 ≤ sc ∧ sc ≤ 99) := by
  have := g.y1; have := g.y2; have := g.m1; have := g.m2; have := g.d1; have k := (good_day g).2.2.2.2
  have := (mdays_pos (y := y) (m := mo) ⟨g.m1, g.m2⟩).2
  have := g.h1; have := g.h2; have := g.i1; have := g.i2; have := g.s1; have := g.s2
  refine ⟨?_, ?_, ?_, ?_, ?_, ?_⟩ <;> constructor <;> omega
/-- a text that tells a moment -/
structure Tells (x : PySem.Str) (v : Int) : Prop where
  fit : fits x.cps = true
  three : 3 ≤ partsN x.cps
  good : Good7 (fld x (partsN x.cps) 0) (fld x (partsN x.cps) 1) (fld x (partsN x.cps) 2) (fld x (partsN x.cps) 3) (fld x (partsN x.cps) 4) (fld x (partsN x.cps) 5) 0
  val : secs (fld x (partsN x.cps) 0) (fld x (partsN x.cps) 1) (fld x (partsN x.cps) 2) (fld x (partsN x.cps) 3) (fld x (partsN x.cps) 4) (fld x (partsN x.cps) 5) = v
theorem Tells.mom {x : PySem.Str} {v : Int} (t : Tells x v) : Mom v := t.val ▸ secs_mom t.good
theorem Tells.obj {x : PySem.Str} {v : Int} (t : Tells x v) : dtObj (fld x (partsN x.cps) 0) (fld x (partsN x.cps) 1) (fld x (partsN x.cps) 2) (fld x (partsN x.cps) 3) (fld x (partsN x.cps) 4) (fld x (partsN x.cps) 5) 0 = dtOf v 0 := by
  rw [← t.val]; exact (dtOf_secs t.good 0).symm
theorem tells_raw {y mo d h mi sc : Int} (g : Good7 y mo d h mi sc 0) : Tells (rawText y mo d h mi sc) (secs y mo d h mi sc) := by
  obtain ⟨b0, b1, b2, b3, b4, b5⟩ := good_b g
  have r := raw_reads b0 b1 b2 b3 b4 b5
  refine ⟨r.fit, r.three, ?_, ?_⟩
  · rw [r.e0, r.e1, r.e2, r.e3, r.e4, r.e5]; exact g
  · rw [r.e0, r.e1, r.e2, r.e3, r.e4, r.e5]
theorem tells_law {v : Int} (hv : Mom v) : Tells (lawText v) v := by
  have g := good_of (us := 0) hv (by decide)
  have t := tells_raw g
  rw [secs_of hv] at t
  exact t
theorem law_length {v : Int} (hv : Mom v) : (lawText v).length = 20 := by
  obtain ⟨b0, b1, b2, b3, b4, b5⟩ := good_b (good_of (us := 0) hv (by decide))
  exact raw_length b0 b1 b2 b3 b4 b5
theorem us_of {v us : Int} (hv : Mom v) : (stp (cvt v).1 (cvt v).2.1 (cvt v).2.2 ((v.fdiv 3600).fmod 24) ((v.fdiv 60).fmod 60) (v.fmod 60) us).us = (v + 86400) * 1000000 + us := by
  have g := good_of (us := 0) hv (by decide)
  have e := secs_of hv
  unfold secs at e
  unfold Stamp.us usPerSecond
  dsimp only
  rw [toOrdinal_eq ⟨g.m1, g.m2⟩]
  omega
theorem ofUs_of {v : Int} (hv : Mom v) : ofUs ((v + 86400) * 1000000) = dtOf v 0 := by
  obtain ⟨c1, c2, c3⟩ := clk_is hv.1
  have h1 := hv.1
  have ed : ((v + 86400) * 1000000).fdiv usPerDay = v / 86400 + 1 := by
    unfold usPerDay
    rw [fdiv_pos _ (by decide)]; omega
  have er : ((v + 86400) * 1000000).fmod usPerDay = v % 86400 * 1000000 := by
    unfold usPerDay
    rw [fmod_pos _ (by decide)]; omega
  unfold ofUs dtOf Stamp.ofUs
  dsimp only
  rw [ed, er, c1, c2, c3]
  have e1 : v % 86400 * 1000000 / 3600000000 = v / 3600 % 24 := by omega
  have e2 : v % 86400 * 1000000 / 60000000 % 60 = v / 60 % 60 := by omega
  have e3 : v % 86400 * 1000000 / 1000000 % 60 = v % 60 := by omega
  have e4 : v % 86400 * 1000000 % 1000000 = 0 := by omega
  rw [e1, e2, e3, e4]
  rfl
theorem good_ofUs {v : Int} (hv : Mom v) : Good7 (Stamp.ofUs ((v + 86400) * 1000000) .none 0).y (Stamp.ofUs ((v + 86400) * 1000000) .none 0).mo (Stamp.ofUs ((v + 86400) * 1000000) .none 0).d (Stamp.ofUs ((v + 86400) * 1000000) .none 0).c.h (Stamp.ofUs ((v + 86400) * 1000000) .none 0).c.m (Stamp.ofUs ((v + 86400) * 1000000) .none 0).c.s (Stamp.ofUs ((v + 86400) * 1000000) .none 0).c.us := by
  have e := ofUs_of hv
  unfold ofUs dtOf dtObj at e
  simp only [Obj.mk.injEq, Data.fields.injEq, Array.mk.injEq, List.cons.injEq, Value.int.injEq, and_true, true_and] at e
  obtain ⟨a, b, c, f, k, l, n⟩ := e
  rw [a, b, c, f, k, l, n]
  exact good_of hv (by decide)
end Mine
end
section
open PySem PySem.W PySem.Calls PyProof.Rows
set_option maxRecDepth 100000
set_option maxHeartbeats 1000000
namespace Mine
open PySem.Builtin._datetime
theorem staticsK {P : Params} {h : Heap} (X : (hd.heap_39 P).In h) : ∃ mc, h.Ns cStatics mc ∧ mc "datetime.timedelta.zero" = some (.ref 49) := by
  have e : nsOkIn (hd.heap_39 P) cStatics = true := by with_unfolding_all rfl
  obtain ⟨o, es, ep, ho, hd', hk, hf⟩ := Heap.Ns.of_isNs (isNs_of_in X e)
  have hx : ∃ o' es' ep', (hd.heap_39 P).lookup cStatics = some o' ∧ o'.data = .dict es' ep' ∧ nsFind es' "datetime.timedelta.zero" = some (.ref 49) := ⟨_, _, _, by with_unfolding_all rfl, rfl, by with_unfolding_all rfl⟩
  obtain ⟨o', es', ep', hl, hd2, hz⟩ := hx
  have := X _ _ hl
  rw [ho] at this
  cases this
  rw [hd'] at hd2
  cases hd2
  exact ⟨_, ⟨o, es, ep, ho, hd', hk, hf⟩, (hf _).symm.trans hz⟩
/-- the span of so many seconds -/
noncomputable def tdV (D : Int) : Obj := tdObj (D.fdiv 86400) (D.fmod 86400) 0
theorem tdV_zero : zeroObj = tdV 0 := rfl
section
variable {prog : Program} {w : World} {A : Around} {E : Value → Shared → Prop} {s : Shared} {h₀ : Heap} {L a b c : Addr} {m : PySem.Str → Option Value} {news : List (Addr × Obj)} {u v D us : Int} {nm : PySem.Str} {ex : Bool} {Q : Value → Shared → Prop}
theorem sub_V (X : (hd.heap_39 w.params).In h₀) (Z : h₀.get? 49 = some zeroObj) (F : Fr h₀ L s.heap m) (N : News h₀ L s.heap news) (ha : s.heap.get? a = some (dtOf u 0)) (hb : s.heap.get? b = some (dtOf v 0)) (hu : Mom u) (hv : Mom v)
    (k : ∀ c h', Fr h₀ L h' m → News h₀ L h' news → (∀ b o, s.heap.get? b = some o → h'.get? b = some o) → h'.get? c = some (tdV (u - v)) → Q (.ref c) { s with heap := h' }) :
    wpAny (model prog w) A (binaryOp .Sub (.ref a) (.ref b)) Q E s := by
  obtain ⟨mc, hn, hz⟩ := staticsK (X.keeps F.keep)
  have e : (stp (cvt u).1 (cvt u).2.1 (cvt u).2.2 ((u.fdiv 3600).fmod 24) ((u.fdiv 60).fmod 60) (u.fmod 60) 0).us - (stp (cvt v).1 (cvt v).2.1 (cvt v).2.2 ((v.fdiv 3600).fmod 24) ((v.fdiv 60).fmod 60) (v.fmod 60) 0).us = (u - v) * 1000000 := by
    rw [us_of hu, us_of hv]; omega
  have b1 := hu.1; have b2 := hu.2; have b3 := hv.1; have b4 := hv.2
  refine wp_sub ha hb hn hz e (by omega) (by omega) (fun z => ?_) (fun z => ?_)
  · have : u - v = 0 := by omega
    refine k 49 s.heap F N (fun _ _ x => x) ?_
    rw [this, ← tdV_zero]
    exact F.keep _ _ Z
  · have e1 : ((u - v) * 1000000).fdiv usPerDay = (u - v).fdiv 86400 := by
      unfold usPerDay
      rw [fdiv_pos _ (by decide), fdiv_pos _ (by decide)]; omega
    have e2 : ((u - v) * 1000000).fmod usPerDay / usPerSecond = (u - v).fmod 86400 := by
      unfold usPerDay usPerSecond
      rw [fmod_pos _ (by decide), fmod_pos _ (by decide)]; omega
    have e3 : ((u - v) * 1000000).fmod usPerDay % usPerSecond = 0 := by
      unfold usPerDay usPerSecond
      rw [fmod_pos _ (by decide)]; omega
    rw [e1, e2, e3]
    exact k _ _ (F.push _) (fun p hp => ⟨Heap.get?_push_of_some _ (N p hp).1, (N p hp).2⟩) (fun b o x => Heap.get?_push_of_some _ x) (Heap.get?_push_size _ rfl)
theorem add_V (F : Fr h₀ L s.heap m) (N : News h₀ L s.heap news) (ha : s.heap.get? a = some (dtOf u 0)) (hb : s.heap.get? b = some (tdV D)) (hu : Mom u) (hv : Mom (u + D))
    (k : ∀ c h', Fr h₀ L h' m → News h₀ L h' ((c, dtOf (u + D) 0) :: news) → (∀ p ∈ news, p.1 < c) → Q (.ref c) { s with heap := h' }) :
    wpAny (model prog w) A (binaryOp .Add (.ref a) (.ref b)) Q E s := by
  have e : (stp (cvt u).1 (cvt u).2.1 (cvt u).2.2 ((u.fdiv 3600).fmod 24) ((u.fdiv 60).fmod 60) (u.fmod 60) 0).us + ((D.fdiv 86400 * 86400 + D.fmod 86400) * usPerSecond + 0) = (u + D + 86400) * 1000000 := by
    rw [us_of hu]
    unfold usPerSecond
    rw [fdiv_pos _ (by decide), fmod_pos _ (by decide)]; omega
  have b1 := hv.1; have b2 := hv.2
  refine wp_add ha hb e (by unfold usPerDay; omega) (by unfold usPerDay; omega) (good_ofUs hv) ?_
  rw [ofUs_of hv]
  exact k _ _ (F.push _) (N.push F _) fun p hp => Heap.lt_size (N p hp).1
theorem ne_V (hU : A.units < cLine) (ha : s.heap.get? a = some (dtOf u 0)) (hb : s.heap.get? b = some (dtOf u 0)) (k : Q (.bool false) s) : wpAny (model prog w) A (richCompare .NotEq (.ref a) (.ref b)) Q E s :=
  wp_ne hU ha hb (by simp) k
theorem rep_V {t : Tok} (F : Fr h₀ L s.heap m) (N : News h₀ L s.heap news) (ha : s.heap.get? a = some (dtOf u 0)) (hu : Mom u) (h0 : 0 ≤ us) (h1 : us ≤ 999999)
    (k : ∀ c h', Fr h₀ L h' m → News h₀ L h' ((c, dtOf u us) :: news) → (∀ p ∈ news, p.1 < c) → Q (.ref c) { s with heap := h' }) :
    wpAny (model prog w) A (call (.builtin "datetime.datetime.replace") [.ref a] [("microsecond", .int us t)]) Q E s :=
  wp_replace ha (good_of hu ⟨h0, h1⟩) (k _ _ (F.push _) (N.push F _) fun p hp => Heap.lt_size (N p hp).1)
theorem gm_rep {pl : Sem Bool} {Q : Value × List Value → Shared → Prop} (hn : nm = "replace") (ha : s.heap.get? a = some (dtOf u 0)) (h : Q (.builtin "datetime.datetime.replace", [.ref a]) s) :
    wpAny (model prog w) A (getMethod (.ref a) nm pl) Q E s := by
  subst hn
  exact getMethod_builtin (T := "datetime.datetime") ⟨_, ha, rfl⟩ plain_dt slot_replace typeOf_replace (fun _ e => by cases e; exact ⟨_, ha, rfl⟩) h
theorem at_days (hn : nm = "days") (hb : s.heap.get? b = some (tdV D)) (k : ∀ t tk, Q (.int (D.fdiv 86400) t) { s with toks := tk }) : wpAny (model prog w) A (getAttr (.ref b) nm ex) Q E s := by
  subst hn; exact attr_td_days hb (k _ _)
theorem at_seconds (hn : nm = "seconds") (hb : s.heap.get? b = some (tdV D)) (k : ∀ t tk, Q (.int (D.fmod 86400) t) { s with toks := tk }) : wpAny (model prog w) A (getAttr (.ref b) nm ex) Q E s := by
  subst hn; exact attr_td_seconds hb (k _ _)
theorem at_tz (hn : nm = "tzinfo") (hb : s.heap.get? b = some (dtOf u us)) (k : ∀ tk, Q .none { s with toks := tk }) : wpAny (model prog w) A (getAttr (.ref b) nm ex) Q E s := by
  subst hn; exact attr_dt_tzinfo hb (k _)
theorem at_us (hn : nm = "microsecond") (hb : s.heap.get? b = some (dtOf u us)) (k : ∀ t tk, Q (.int us t) { s with toks := tk }) : wpAny (model prog w) A (getAttr (.ref b) nm ex) Q E s := by
  subst hn; exact attr_dt_microsecond hb (k _ _)
end
theorem span_back {D : Int} : D.fdiv 86400 * 86400 + D.fmod 86400 = D := by
  rw [fdiv_pos _ (by decide), fmod_pos _ (by decide)]; omega
end Mine
end
section
open PySem PySem.W PySem.Calls PyProof.Rows
set_option maxRecDepth 100000
set_option maxHeartbeats 4000000
namespace Mine
theorem dfs_T {w : World} {mg mb : PySem.Str → Option Value} {loose : List PySem.Str} {mean : ExcName → Option Value} {news : List (Addr × Obj)} {dp un : Nat} {gd : Option (List Code)} {cn : PySem.Str} {cs : Scope} {a : Addr} {ccd : Value} {cl : List (PySem.Str × Addr)} {outer : List Env} {A₀ : Around} {base h₀ : Heap} {L : Addr} {m : PySem.Str → Option Value} {s : Shared} {Q E : Value → Shared → Prop} {x : PySem.Str} {t : Tok} (hx : x.length ≤ 60) (hf : fits x.cps = true) (h3 : partsN x.cps < 3)
    (B : Below A₀ base outer h₀) (F : Fr h₀ L s.heap m) (X : (hd.heap_39 w.params).In h₀) (N : News h₀ L s.heap news) (T : Top hd.view_39 loose mean mg mb h₀) (hkf : cs.kind = .function) (hroom : dp + 2 < recursionLimit) (hunits : un + 16 < cLine)
    (hexc : ∀ (e : Addr) (h' : Heap) (tk' : Nat), RaisedSN base s.heap (envX cn cs L a ccd cl :: outer) e (.type "TypeError") [] h' → s.heap.UpToSlots h' → E (.ref e) { s with heap := h', toks := tk' }) :
    wpAny (model PySem.Challenge.rw_il0028_01.row.prog w) (ktrTop dp un gd cn cs L a ccd cl outer) (call (.ref 66) [.str x t, .bool false]) Q E s := by
  exact dfs_yes hx hf B F X N T hkf hroom hunits (fun _ => hexc) (fun h => absurd h (by omega)) (fun h => absurd h (by omega))
theorem dfs_V {w : World} {mg mb : PySem.Str → Option Value} {loose : List PySem.Str} {mean : ExcName → Option Value} {news : List (Addr × Obj)} {dp un : Nat} {gd : Option (List Code)} {cn : PySem.Str} {cs : Scope} {a : Addr} {ccd : Value} {cl : List (PySem.Str × Addr)} {outer : List Env} {A₀ : Around} {base h₀ : Heap} {L : Addr} {m : PySem.Str → Option Value} {s : Shared} {Q E : Value → Shared → Prop} {x : PySem.Str} {t : Tok} (hx : x.length ≤ 60) (hf : fits x.cps = true) (h3 : 3 ≤ partsN x.cps) (hg : ¬ Good7 (fld x (partsN x.cps) 0) (fld x (partsN x.cps) 1) (fld x (partsN x.cps) 2) (fld x (partsN x.cps) 3) (fld x (partsN x.cps) 4) (fld x (partsN x.cps) 5) 0)
    (B : Below A₀ base outer h₀) (F : Fr h₀ L s.heap m) (X : (hd.heap_39 w.params).In h₀) (N : News h₀ L s.heap news) (T : Top hd.view_39 loose mean mg mb h₀) (hkf : cs.kind = .function) (hroom : dp + 2 < recursionLimit) (hunits : un + 16 < cLine)
    (hexc : ∀ (e : Addr) (h' : Heap) (tk' : Nat), RaisedSN base s.heap (envX cn cs L a ccd cl :: outer) e (.type "ValueError") [] h' → s.heap.UpToSlots h' → E (.ref e) { s with heap := h', toks := tk' }) :
    wpAny (model PySem.Challenge.rw_il0028_01.row.prog w) (ktrTop dp un gd cn cs L a ccd cl outer) (call (.ref 66) [.str x t, .bool false]) Q E s := by
  exact dfs_yes hx hf B F X N T hkf hroom hunits (fun h => absurd h (by omega)) (fun _ _ => hexc) (fun _ g => absurd g hg)
theorem dfs_G {w : World} {mg mb : PySem.Str → Option Value} {loose : List PySem.Str} {mean : ExcName → Option Value} {news : List (Addr × Obj)} {dp un : Nat} {gd : Option (List Code)} {cn : PySem.Str} {cs : Scope} {a : Addr} {ccd : Value} {cl : List (PySem.Str × Addr)} {outer : List Env} {A₀ : Around} {base h₀ : Heap} {L : Addr} {m : PySem.Str → Option Value} {s : Shared} {Q E : Value → Shared → Prop} {x : PySem.Str} {t : Tok} {v : Int} (hx : x.length ≤ 60) (hv : Tells x v)
    (B : Below A₀ base outer h₀) (F : Fr h₀ L s.heap m) (X : (hd.heap_39 w.params).In h₀) (N : News h₀ L s.heap news) (T : Top hd.view_39 loose mean mg mb h₀) (hkf : cs.kind = .function) (hroom : dp + 2 < recursionLimit) (hunits : un + 16 < cLine)
    (hret : ∀ (b : Addr) (h' : Heap) (tk' : Nat), Fr h₀ L h' m → News h₀ L h' ((b, dtOf v 0) :: news) → Q (.ref b) { s with heap := h', toks := tk' }) :
    wpAny (model PySem.Challenge.rw_il0028_01.row.prog w) (ktrTop dp un gd cn cs L a ccd cl outer) (call (.ref 66) [.str x t, .bool false]) Q E s := by
  exact dfs_yes hx hv.fit B F X N T hkf hroom hunits (fun h => absurd hv.three (by omega)) (fun _ g => absurd hv.good g) (fun _ _ b h' tk' F' N' => hret b h' tk' F' (by rw [hv.obj] at N'; exact N'))
theorem dts_V {w : World} {mg mb : PySem.Str → Option Value} {loose : List PySem.Str} {mean : ExcName → Option Value} {news : List (Addr × Obj)} {dp un : Nat} {gd : Option (List Code)} {cn : PySem.Str} {cs : Scope} {a : Addr} {ccd : Value} {cl : List (PySem.Str × Addr)} {outer : List Env} {A₀ : Around} {base h₀ : Heap} {L : Addr} {m : PySem.Str → Option Value} {s : Shared} {Q E : Value → Shared → Prop} {b : Addr} {v us : Int} (hb : s.heap.get? b = some (dtOf v us)) (hv : Mom v)
    (B : Below A₀ base outer h₀) (F : Fr h₀ L s.heap m) (X : (hd.heap_39 w.params).In h₀) (N : News h₀ L s.heap news) (T : Top hd.view_39 loose mean mg mb h₀) (hkf : cs.kind = .function) (hroom : dp + 2 < recursionLimit) (hunits : un + 16 < cLine)
    (hret : CbRet h₀ L m news s Q (fun t => .str (lawText v) t)) :
    wpAny (model PySem.Challenge.rw_il0028_01.row.prog w) (ktrTop dp un gd cn cs L a ccd cl outer) (call (.ref 73) [.ref b, .bool false]) Q E s := by
  obtain ⟨b0, b1, b2, b3, b4, b5⟩ := good_b (good_of (us := 0) hv (by decide))
  exact dts_spec hb b0 b1 b2 b3 b4 b5 B F X N T hkf hroom hunits hret
theorem due_G {w : World} {mg mb : PySem.Str → Option Value} {loose : List PySem.Str} {mean : ExcName → Option Value} {news : List (Addr × Obj)} {dp un : Nat} {gd : Option (List Code)} {cn : PySem.Str} {cs : Scope} {a : Addr} {ccd : Value} {cl : List (PySem.Str × Addr)} {outer : List Env} {A₀ : Around} {base h₀ : Heap} {L : Addr} {m : PySem.Str → Option Value} {s : Shared} {Q E : Value → Shared → Prop} {x : PySem.Str} {t : Tok} {v : Int} (hx : x.length ≤ 60) (hv : Tells x v)
    (B : Below A₀ base outer h₀) (F : Fr h₀ L s.heap m) (X : (hd.heap_39 w.params).In h₀) (N : News h₀ L s.heap news) (T : Top hd.view_39 loose mean mg mb h₀) (hkf : cs.kind = .function) (hroom : dp + 3 < recursionLimit) (hunits : un + 24 < cLine)
    (hret : ∀ (t : Tok) (h' : Heap) (tk' : Nat), Fr h₀ L h' m → News h₀ L h' news → Q (.int v t) { s with heap := h', toks := tk' }) :
    wpAny (model PySem.Challenge.rw_il0028_01.row.prog w) (ktrTop dp un gd cn cs L a ccd cl outer) (call (.ref 106) [.str x t]) Q E s := by
  refine due_spec hx B F X N T hkf hroom hunits (fun h => by rw [hv.fit] at h; cases h) (fun _ h => absurd hv.three (by omega)) (fun _ _ g => absurd hv.good g) (fun _ _ _ t h' tk' F' N' => ?_)
  have e : (ord (fld x (partsN x.cps) 0) (fld x (partsN x.cps) 1) (fld x (partsN x.cps) 2) - 1) * 86400 + (fld x (partsN x.cps) 3) * 3600 + (fld x (partsN x.cps) 4) * 60 + (fld x (partsN x.cps) 5) = v := hv.val
  rw [e]
  exact hret t h' tk' F' N'
theorem due_A {w : World} {mg mb : PySem.Str → Option Value} {loose : List PySem.Str} {mean : ExcName → Option Value} {news : List (Addr × Obj)} {dp un : Nat} {gd : Option (List Code)} {cn : PySem.Str} {cs : Scope} {a : Addr} {ccd : Value} {cl : List (PySem.Str × Addr)} {outer : List Env} {A₀ : Around} {base h₀ : Heap} {L : Addr} {m : PySem.Str → Option Value} {s : Shared} {Q E : Value → Shared → Prop} {x : PySem.Str} {t : Tok} (hx : x.length ≤ 60) (hf : fits x.cps = false)
    (B : Below A₀ base outer h₀) (F : Fr h₀ L s.heap m) (X : (hd.heap_39 w.params).In h₀) (N : News h₀ L s.heap news) (T : Top hd.view_39 loose mean mg mb h₀) (hkf : cs.kind = .function) (hroom : dp + 3 < recursionLimit) (hunits : un + 24 < cLine)
    (hret : ∀ (t : Tok) (h' : Heap) (tk' : Nat), Fr h₀ L h' m → News h₀ L h' news → Q (.str (PySem.Str.ofString "AttributeError") t) { s with heap := h', toks := tk' }) :
    wpAny (model PySem.Challenge.rw_il0028_01.row.prog w) (ktrTop dp un gd cn cs L a ccd cl outer) (call (.ref 106) [.str x t]) Q E s := by
  exact due_spec hx B F X N T hkf hroom hunits (fun _ => hret) (fun h => by rw [hf] at h; cases h) (fun h => by rw [hf] at h; cases h) (fun h => by rw [hf] at h; cases h)
theorem due_T {w : World} {mg mb : PySem.Str → Option Value} {loose : List PySem.Str} {mean : ExcName → Option Value} {news : List (Addr × Obj)} {dp un : Nat} {gd : Option (List Code)} {cn : PySem.Str} {cs : Scope} {a : Addr} {ccd : Value} {cl : List (PySem.Str × Addr)} {outer : List Env} {A₀ : Around} {base h₀ : Heap} {L : Addr} {m : PySem.Str → Option Value} {s : Shared} {Q E : Value → Shared → Prop} {x : PySem.Str} {t : Tok} (hx : x.length ≤ 60) (hf : fits x.cps = true) (h3 : partsN x.cps < 3)
    (B : Below A₀ base outer h₀) (F : Fr h₀ L s.heap m) (X : (hd.heap_39 w.params).In h₀) (N : News h₀ L s.heap news) (T : Top hd.view_39 loose mean mg mb h₀) (hkf : cs.kind = .function) (hroom : dp + 3 < recursionLimit) (hunits : un + 24 < cLine)
    (hret : ∀ (t : Tok) (h' : Heap) (tk' : Nat), Fr h₀ L h' m → News h₀ L h' news → Q (.str (PySem.Str.ofString "TypeError") t) { s with heap := h', toks := tk' }) :
    wpAny (model PySem.Challenge.rw_il0028_01.row.prog w) (ktrTop dp un gd cn cs L a ccd cl outer) (call (.ref 106) [.str x t]) Q E s := by
  exact due_spec hx B F X N T hkf hroom hunits (fun h => by rw [hf] at h; cases h) (fun _ _ => hret) (fun _ h => absurd h (by omega)) (fun _ h => absurd h (by omega))
theorem due_V {w : World} {mg mb : PySem.Str → Option Value} {loose : List PySem.Str} {mean : ExcName → Option Value} {news : List (Addr × Obj)} {dp un : Nat} {gd : Option (List Code)} {cn : PySem.Str} {cs : Scope} {a : Addr} {ccd : Value} {cl : List (PySem.Str × Addr)} {outer : List Env} {A₀ : Around} {base h₀ : Heap} {L : Addr} {m : PySem.Str → Option Value} {s : Shared} {Q E : Value → Shared → Prop} {x : PySem.Str} {t : Tok} (hx : x.length ≤ 60) (hf : fits x.cps = true) (h3 : 3 ≤ partsN x.cps) (hg : ¬ Good7 (fld x (partsN x.cps) 0) (fld x (partsN x.cps) 1) (fld x (partsN x.cps) 2) (fld x (partsN x.cps) 3) (fld x (partsN x.cps) 4) (fld x (partsN x.cps) 5) 0)
    (B : Below A₀ base outer h₀) (F : Fr h₀ L s.heap m) (X : (hd.heap_39 w.params).In h₀) (N : News h₀ L s.heap news) (T : Top hd.view_39 loose mean mg mb h₀) (hkf : cs.kind = .function) (hroom : dp + 3 < recursionLimit) (hunits : un + 24 < cLine)
    (hret : ∀ (t : Tok) (h' : Heap) (tk' : Nat), Fr h₀ L h' m → News h₀ L h' news → Q (.str (PySem.Str.ofString "ValueError") t) { s with heap := h', toks := tk' }) :
    wpAny (model PySem.Challenge.rw_il0028_01.row.prog w) (ktrTop dp un gd cn cs L a ccd cl outer) (call (.ref 106) [.str x t]) Q E s := by
  exact due_spec hx B F X N T hkf hroom hunits (fun h => by rw [hf] at h; cases h) (fun _ h => absurd h (by omega)) (fun _ _ _ => hret) (fun _ _ g => absurd g hg)
section
variable {prog : Program} {w : World} {A A₀ : Around} {s : Shared} {K : Frag} {L a : Addr} {h₀ base : Heap} {m mg mb : PySem.Str → Option Value} {p : Program} {loose : List PySem.Str} {mean : ExcName → Option Value} {cn : PySem.Str} {cs : Scope} {ccd : Value}
/-- a def that catches leaves: the caller's frame may have been looked at, nothing else is changed -/
theorem leaveS {g g' h : Heap} {L' : Addr} {m' : PySem.Str → Option Value} {tl news : List (Addr × Obj)} (F : Fr h₀ L g m) (N : News h₀ L g news) (T : KtsTurn [L] g g') (F' : Fr g' L' h m') (N' : News g' L' h tl) :
    Fr h₀ L h m ∧ News h₀ L h (tl ++ news) := by
  obtain ⟨oL, es, ep, hL, hLd, hLk, hLf⟩ := F.ns
  obtain ⟨sl, hs⟩ := T.up hL
  have nL := kts_self F
  have ne : ∀ b o, h₀.get? b = some o → b ∉ [L] := fun b o e hm => by
    rw [List.mem_singleton.mp hm, nL] at e; cases e
  refine ⟨⟨⟨_, es, ep, F'.keep _ _ hs, hLd, hLk, hLf⟩, fun b o e => F'.keep _ _ (T.other b o (F.keep b o e) (ne b o e)), F.above⟩, fun q hq => ?_⟩
  rcases List.mem_append.mp hq with hq | hq
  · refine ⟨(N' q hq).1, fun e => ?_, ?_⟩
    · have := (N' q hq).2.2; rw [e, hs] at this; cases this
    · cases z : h₀.get? q.1 with
      | none => rfl
      | some o =>
        obtain ⟨sl', hs'⟩ := T.up (F.keep _ _ z)
        have := (N' q hq).2.2; rw [hs'] at this; cases this
  · exact ⟨F'.keep _ _ (T.other _ _ (N q hq).1 fun hm => (N q hq).2.1 (List.mem_singleton.mp hm)), (N q hq).2⟩
theorem code0S {R : Result → Shared → Prop} {name qual : PySem.Str} {params : Arguments} {body : List Stmt} {scope : Scope} {dV kV doc pm cdv ct oc : Value} {an od : Option Addr} {osl : Array (Option Value)} {f : Addr} {args : Args} {binds : List (PySem.Str × Value)}
    (B : Below A₀ base [] h₀) (F : Fr h₀ L s.heap m) (X₀ : K.In h₀) (T : Top p loose mean mg mb h₀) (hA : A.frames = some [envOf cn cs L a ccd]) (hke : cs.kind = .function)
    (ho : K.lookup f = some ⟨oc, od, .func (fnOf name qual params body scope dV kV doc pm an cdv ct), osl⟩) (hcd : codeIn K cdv qual = true) (hroom : A.depth < recursionLimit)
    (hbind : BindsTo s (fnOf name qual params body scope dV kV doc pm an cdv ct) args binds) (hloc : ∀ y ∈ binds, scope.names.lookup y.1 = some .local)
    (h : ∀ L' h₁, Fr s.heap L' h₁ (fun y => binds.reverse.lookup y) → News s.heap L' h₁ [] → Below A base [envOf cn cs L a ccd] s.heap → K.In s.heap → Top p loose mean mg mb s.heap → KtsDicts ([envOf cn cs L a ccd].filterMap (·.frame)) s.heap →
      wpAny (model prog w) (A.deeper (envOf qual scope L' f cdv)) (execs body (envOf qual scope L' f cdv))
        (fun fl s' => LeaveS0 ([envOf cn cs L a ccd].filterMap (·.frame)) h₀ L m s.heap R (match fl with | .ret v => v | _ => .none) s')
        (fun e s' => wpAny (model prog w) (A.deeper (envOf qual scope L' f cdv)) (leaving (envOf qual scope L' f cdv) e) (fun _ s'' => R (.error e) s'') (fun e' s'' => R (.error e') s'') s')
        { s with heap := h₁, toks := s.toks + binds.length })
    (hco : scope.isCoroutine = false) (hgen : scope.isGenerator = false) (hk : scope.kind = .function)
    (hcell : ∀ x ∈ scope.names, x.2 ≠ .cell) : codeAny (model prog w) A (.call (.ref f) args) R s := by
  refine codeAny_call_def (fd := fnOf name qual params body scope dV kV doc pm an cdv ct) (body := body) (binds := binds) hroom ((X₀.keeps F.keep) _ _ ho) rfl (T.nolimit.keeps F.keep) (codeRec_of (X₀.keeps F.keep) hcd) rfl hbind hcell hloc (fun h₁ hns hk₁ => ?_) hco hgen hk
  have hnew : base.get? L = none := by
    cases hq : base.get? L with
    | none => rfl
    | some o => exact absurd (Nat.lt_of_lt_of_le (Heap.lt_size (B.stays L o hq)) F.above) (Nat.lt_irrefl _)
  have B₁ : Below A base [envOf cn cs L a ccd] s.heap := ⟨hA, fun b o e => F.keep b o (B.stays b o e), .cons (by show cs.kind ≠ _; rw [hke]; decide) rfl F.ns hnew (B.frames.of_keeps fun b o e _ => ⟨o, F.keep b o e, rfl⟩)⟩
  have D₁ : KtsDicts ([envOf cn cs L a ccd].filterMap (·.frame)) s.heap := fun b hb => by
    obtain ⟨oL, es, ep, hL, hLd, _⟩ := F.ns
    rw [show b = L from List.mem_singleton.mp hb]
    exact ⟨oL, es, ep, hL, hLd⟩
  refine wpAny_mono (h s.heap.objs.size h₁ ⟨hns, hk₁, Nat.le_refl _⟩ News.nil B₁ (X₀.keeps F.keep) (T.keeps F.keep) D₁) (fun fl s' hl => ?_) fun _ _ y => y
  obtain ⟨g', L', m', news', T', F', N', k⟩ := hl
  obtain ⟨a, b⟩ := leaveS (news := []) F News.nil T' F' N'
  rw [List.append_nil] at b
  exact k a b
end
end Mine
end
section
open PySem PySem.W PyProof.Rows
set_option maxRecDepth 100000
set_option maxHeartbeats 4000000
namespace Mine
theorem leaveS1 {L : Addr} {h₀ : Heap} {m : PySem.Str → Option Value} {g g' h : Heap} {L' : Addr} {m' : PySem.Str → Option Value} {q : Addr × Obj} {tl news : List (Addr × Obj)} (F : Fr h₀ L g m) (N : News h₀ L g news) (T : KtsTurn [L] g g') (F' : Fr g' L' h m') (N' : News g' L' h (q :: tl)) :
    News h₀ L h (q :: news) := fun p hp => by
  rcases List.mem_cons.mp hp with rfl | hp
  · exact (leaveS F N T F' N').2 _ (List.mem_append.mpr (.inl (.head _)))
  · exact (leaveS F N T F' N').2 _ (List.mem_append.mpr (.inr hp))
end Mine
namespace Mine
theorem met_A {w : World} {mg mb : PySem.Str → Option Value} {loose : List PySem.Str} {mean : ExcName → Option Value} {news : List (Addr × Obj)} {dp un : Nat} {gd : Option (List Code)} {cn : PySem.Str} {cs : Scope} {a : Addr} {ccd : Value} {A₀ : Around} {base h₀ : Heap} {L : Addr} {m : PySem.Str → Option Value} {s : Shared} {Q E : Value → Shared → Prop} {b₀ : Addr} {x : PySem.Str} {t : Tok} (hx : x.length ≤ 60) (hf : fits x.cps = false)
    (B : Below A₀ base [] h₀) (F : Fr h₀ L s.heap m) (X : (hd.heap_39 w.params).In h₀) (N : News h₀ L s.heap news) (T : Top hd.view_39 loose mean mg mb h₀) (hkf : cs.kind = .function) (XB : (hd.heap_39 w.params).In base) (TB : Top hd.view_39 loose mean mg mb base) (Z : h₀.get? 49 = some zeroObj) (hroom : dp + 3 < recursionLimit) (hunits : un + 24 < cLine)
    (hret : ∀ (tup : Addr) (t : Tok) (h' : Heap) (tk' : Nat), Fr h₀ L h' m → News h₀ L h' ((tup, { cls := .type "tuple", data := .seq #[.str (PySem.Str.ofString "AttributeError") t, .none] }) :: news) → Q (.ref tup) { s with heap := h', toks := tk' }) :
    wpAny (model PySem.Challenge.rw_il0028_01.row.prog w) (ktrTop dp un gd cn cs L a ccd [] []) (call (.ref 113) [.str x t, .ref b₀]) Q E s := by
  k_with_none
  k_with "eval Tuple" => (k_here; dsimp only; (try k_gentoks))
  k_with "eval Call" => (k_here; dsimp only; (try k_gentoks))
  k_with "eval Attribute" => (k_here; dsimp only; (try k_gentoks))
  k_with "exec Assign" => (k_here; dsimp only; (try k_gentoks))
  k_with "exec If" => (k_here; dsimp only; (try k_gentoks))
  k_with "exec For" => (k_here; dsimp only; (try k_gentoks))
  k_with "execs cons" => (k_here; dsimp only; (try k_gentoks))
  k_with "execs nil" => (k_here; dsimp only; (try k_gentoks))
  k_with "pyIter ref" => (k_here; dsimp only; (try k_gentoks))
  k_with "newTuple" => (k_here; dsimp only; (try k_gentoks))
  k_with "assign Tuple" => (k_here; dsimp only; (try k_gentoks))
  k_with "ItemsRest" => (dsimp only)
  k_with "UnrPostW" => (dsimp only)
  k_with "UnrEndW" => (dsimp only)
  k_with "call ref" => (k_here; k_dflt (refine' Mine.dfs_no ?hx ?x0 ?k1 ?k2 ?k3 ?k4 ?k5 ?kK ?kd ?ku ?_); (case hx => assumption); (case x0 => assumption); (case k1 => k_asm); (case k2 => k_asm); (case k3 => k_asm); (case k4 => k_asm); (case k5 => k_asm); (case kK => exact rfl); (case kd => ktr_room); (case ku => ktr_units); intro e9 h9 tk9 R9 U9; (try dsimp only))
  w_on
  (revert X; k_fill; intro X)
  refine wpAny_call ?_
  w_strict (k_dflt (refine' Mine.code0S ?k1 ?k2 ?k3 ?k5 ?kA ?kK ?k6 ?k7 ?k8 ?k9 ?kB ?_ ?c2 ?c3 ?c4 ?c5; (case kA => exact rfl); (case kK => assumption); (case k1 => k_asm); (case k2 => k_asm); (case k3 => k_asm); (case k5 => k_asm); (case k6 => k_is); (case k7 => k_is); (case k8 => ktr_room); (case k9 => exact BindsTo.of_eq rfl); (case c5 => decide); (case kB => exact locs rfl); (case c2 => exact rfl); (case c3 => exact rfl); (case c4 => exact rfl); k_whole; intro L' h' F' N' B' X' T' D'; (try dsimp only); (try k_lift B'); (try k_fold)); k_steps; all_goals (exact hret _ _ _ _ (by assumption) (Mine.leaveS1 (tl := []) F N (by assumption) (by assumption) (by assumption))))
end Mine
namespace Mine
theorem met_T {w : World} {mg mb : PySem.Str → Option Value} {loose : List PySem.Str} {mean : ExcName → Option Value} {news : List (Addr × Obj)} {dp un : Nat} {gd : Option (List Code)} {cn : PySem.Str} {cs : Scope} {a : Addr} {ccd : Value} {A₀ : Around} {base h₀ : Heap} {L : Addr} {m : PySem.Str → Option Value} {s : Shared} {Q E : Value → Shared → Prop} {b₀ : Addr} {x : PySem.Str} {t : Tok} (hx : x.length ≤ 60) (hf : fits x.cps = true) (h3 : partsN x.cps < 3)
    (B : Below A₀ base [] h₀) (F : Fr h₀ L s.heap m) (X : (hd.heap_39 w.params).In h₀) (N : News h₀ L s.heap news) (T : Top hd.view_39 loose mean mg mb h₀) (hkf : cs.kind = .function) (XB : (hd.heap_39 w.params).In base) (TB : Top hd.view_39 loose mean mg mb base) (Z : h₀.get? 49 = some zeroObj) (hroom : dp + 3 < recursionLimit) (hunits : un + 24 < cLine)
    (hret : ∀ (tup : Addr) (t : Tok) (h' : Heap) (tk' : Nat), Fr h₀ L h' m → News h₀ L h' ((tup, { cls := .type "tuple", data := .seq #[.str (PySem.Str.ofString "TypeError") t, .none] }) :: news) → Q (.ref tup) { s with heap := h', toks := tk' }) :
    wpAny (model PySem.Challenge.rw_il0028_01.row.prog w) (ktrTop dp un gd cn cs L a ccd [] []) (call (.ref 113) [.str x t, .ref b₀]) Q E s := by
  k_with_none
  k_with "eval Tuple" => (k_here; dsimp only; (try k_gentoks))
  k_with "eval Call" => (k_here; dsimp only; (try k_gentoks))
  k_with "eval Attribute" => (k_here; dsimp only; (try k_gentoks))
  k_with "exec Assign" => (k_here; dsimp only; (try k_gentoks))
  k_with "exec If" => (k_here; dsimp only; (try k_gentoks))
  k_with "exec For" => (k_here; dsimp only; (try k_gentoks))
  k_with "execs cons" => (k_here; dsimp only; (try k_gentoks))
  k_with "execs nil" => (k_here; dsimp only; (try k_gentoks))
  k_with "pyIter ref" => (k_here; dsimp only; (try k_gentoks))
  k_with "newTuple" => (k_here; dsimp only; (try k_gentoks))
  k_with "assign Tuple" => (k_here; dsimp only; (try k_gentoks))
  k_with "ItemsRest" => (dsimp only)
  k_with "UnrPostW" => (dsimp only)
  k_with "UnrEndW" => (dsimp only)
  k_with "call ref" => (k_here; k_dflt (refine' Mine.dfs_no ?hx ?x0 ?k1 ?k2 ?k3 ?k4 ?k5 ?kK ?kd ?ku ?_); (case hx => assumption); (case x0 => assumption); (case k1 => k_asm); (case k2 => k_asm); (case k3 => k_asm); (case k4 => k_asm); (case k5 => k_asm); (case kK => exact rfl); (case kd => ktr_room); (case ku => ktr_units); intro e9 h9 tk9 R9 U9; (try dsimp only))
  k_with "call ref" => (k_here; k_dflt (refine' Mine.dfs_T ?hx ?x0 ?x1 ?k1 ?k2 ?k3 ?k4 ?k5 ?kK ?kd ?ku ?_); (case hx => assumption); (case x0 => assumption); (case x1 => assumption); (case k1 => k_asm); (case k2 => k_asm); (case k3 => k_asm); (case k4 => k_asm); (case k5 => k_asm); (case kK => exact rfl); (case kd => ktr_room); (case ku => ktr_units); intro e9 h9 tk9 R9 U9; (try dsimp only))
  w_on
  (revert X; k_fill; intro X)
  refine wpAny_call ?_
  w_strict (k_dflt (refine' Mine.code0S ?k1 ?k2 ?k3 ?k5 ?kA ?kK ?k6 ?k7 ?k8 ?k9 ?kB ?_ ?c2 ?c3 ?c4 ?c5; (case kA => exact rfl); (case kK => assumption); (case k1 => k_asm); (case k2 => k_asm); (case k3 => k_asm); (case k5 => k_asm); (case k6 => k_is); (case k7 => k_is); (case k8 => ktr_room); (case k9 => exact BindsTo.of_eq rfl); (case c5 => decide); (case kB => exact locs rfl); (case c2 => exact rfl); (case c3 => exact rfl); (case c4 => exact rfl); k_whole; intro L' h' F' N' B' X' T' D'; (try dsimp only); (try k_lift B'); (try k_fold)); k_steps; all_goals (exact hret _ _ _ _ (by assumption) (Mine.leaveS1 (tl := []) F N (by assumption) (by assumption) (by assumption))))
end Mine
namespace Mine
theorem met_V {w : World} {mg mb : PySem.Str → Option Value} {loose : List PySem.Str} {mean : ExcName → Option Value} {news : List (Addr × Obj)} {dp un : Nat} {gd : Option (List Code)} {cn : PySem.Str} {cs : Scope} {a : Addr} {ccd : Value} {A₀ : Around} {base h₀ : Heap} {L : Addr} {m : PySem.Str → Option Value} {s : Shared} {Q E : Value → Shared → Prop} {b₀ : Addr} {x : PySem.Str} {t : Tok} (hx : x.length ≤ 60) (hf : fits x.cps = true) (h3 : 3 ≤ partsN x.cps) (hg : ¬ Good7 (fld x (partsN x.cps) 0) (fld x (partsN x.cps) 1) (fld x (partsN x.cps) 2) (fld x (partsN x.cps) 3) (fld x (partsN x.cps) 4) (fld x (partsN x.cps) 5) 0)
    (B : Below A₀ base [] h₀) (F : Fr h₀ L s.heap m) (X : (hd.heap_39 w.params).In h₀) (N : News h₀ L s.heap news) (T : Top hd.view_39 loose mean mg mb h₀) (hkf : cs.kind = .function) (XB : (hd.heap_39 w.params).In base) (TB : Top hd.view_39 loose mean mg mb base) (Z : h₀.get? 49 = some zeroObj) (hroom : dp + 3 < recursionLimit) (hunits : un + 24 < cLine)
    (hret : ∀ (tup : Addr) (t : Tok) (h' : Heap) (tk' : Nat), Fr h₀ L h' m → News h₀ L h' ((tup, { cls := .type "tuple", data := .seq #[.str (PySem.Str.ofString "ValueError") t, .none] }) :: news) → Q (.ref tup) { s with heap := h', toks := tk' }) :
    wpAny (model PySem.Challenge.rw_il0028_01.row.prog w) (ktrTop dp un gd cn cs L a ccd [] []) (call (.ref 113) [.str x t, .ref b₀]) Q E s := by
  k_with_none
  k_with "eval Tuple" => (k_here; dsimp only; (try k_gentoks))
  k_with "eval Call" => (k_here; dsimp only; (try k_gentoks))
  k_with "eval Attribute" => (k_here; dsimp only; (try k_gentoks))
  k_with "exec Assign" => (k_here; dsimp only; (try k_gentoks))
  k_with "exec If" => (k_here; dsimp only; (try k_gentoks))
  k_with "exec For" => (k_here; dsimp only; (try k_gentoks))
  k_with "execs cons" => (k_here; dsimp only; (try k_gentoks))
  k_with "execs nil" => (k_here; dsimp only; (try k_gentoks))
  k_with "pyIter ref" => (k_here; dsimp only; (try k_gentoks))
  k_with "newTuple" => (k_here; dsimp only; (try k_gentoks))
  k_with "assign Tuple" => (k_here; dsimp only; (try k_gentoks))
  k_with "ItemsRest" => (dsimp only)
  k_with "UnrPostW" => (dsimp only)
  k_with "UnrEndW" => (dsimp only)
  k_with "call ref" => (k_here; k_dflt (refine' Mine.dfs_no ?hx ?x0 ?k1 ?k2 ?k3 ?k4 ?k5 ?kK ?kd ?ku ?_); (case hx => assumption); (case x0 => assumption); (case k1 => k_asm); (case k2 => k_asm); (case k3 => k_asm); (case k4 => k_asm); (case k5 => k_asm); (case kK => exact rfl); (case kd => ktr_room); (case ku => ktr_units); intro e9 h9 tk9 R9 U9; (try dsimp only))
  k_with "call ref" => (k_here; k_dflt (refine' Mine.dfs_T ?hx ?x0 ?x1 ?k1 ?k2 ?k3 ?k4 ?k5 ?kK ?kd ?ku ?_); (case hx => assumption); (case x0 => assumption); (case x1 => assumption); (case k1 => k_asm); (case k2 => k_asm); (case k3 => k_asm); (case k4 => k_asm); (case k5 => k_asm); (case kK => exact rfl); (case kd => ktr_room); (case ku => ktr_units); intro e9 h9 tk9 R9 U9; (try dsimp only))
  k_with "call ref" => (k_here; k_dflt (refine' Mine.dfs_V ?hx ?x0 ?x1 ?x2 ?k1 ?k2 ?k3 ?k4 ?k5 ?kK ?kd ?ku ?_); (case hx => assumption); (case x0 => assumption); (case x1 => assumption); (case x2 => assumption); (case k1 => k_asm); (case k2 => k_asm); (case k3 => k_asm); (case k4 => k_asm); (case k5 => k_asm); (case kK => exact rfl); (case kd => ktr_room); (case ku => ktr_units); intro e9 h9 tk9 R9 U9; (try dsimp only))
  w_on
  (revert X; k_fill; intro X)
  refine wpAny_call ?_
  w_strict (k_dflt (refine' Mine.code0S ?k1 ?k2 ?k3 ?k5 ?kA ?kK ?k6 ?k7 ?k8 ?k9 ?kB ?_ ?c2 ?c3 ?c4 ?c5; (case kA => exact rfl); (case kK => assumption); (case k1 => k_asm); (case k2 => k_asm); (case k3 => k_asm); (case k5 => k_asm); (case k6 => k_is); (case k7 => k_is); (case k8 => ktr_room); (case k9 => exact BindsTo.of_eq rfl); (case c5 => decide); (case kB => exact locs rfl); (case c2 => exact rfl); (case c3 => exact rfl); (case c4 => exact rfl); k_whole; intro L' h' F' N' B' X' T' D'; (try dsimp only); (try k_lift B'); (try k_fold)); k_steps; all_goals (exact hret _ _ _ _ (by assumption) (Mine.leaveS1 (tl := []) F N (by assumption) (by assumption) (by assumption))))
end Mine
end
section
open PySem PySem.W PyProof.Rows
set_option maxRecDepth 100000
set_option maxHeartbeats 4000000
namespace Mine
theorem news_two {h₀ h : Heap} {L : Addr} {p q : Addr × Obj} {r news : List (Addr × Obj)} (x : News h₀ L h (p :: q :: r)) (y : News h₀ L h news) : News h₀ L h (p :: q :: news) := fun k hk => by
  rcases List.mem_cons.mp hk with rfl | hk
  · exact x _ (.head _)
  · rcases List.mem_cons.mp hk with rfl | hk
    · exact x _ (.tail _ (.head _))
    · exact y k hk
theorem span_is {D v : Int} (h : D = v) : D.fdiv 86400 * 86400 + D.fmod 86400 = v := span_back.trans h
end Mine
namespace Mine
theorem met_G {w : World} {mg mb : PySem.Str → Option Value} {loose : List PySem.Str} {mean : ExcName → Option Value} {news : List (Addr × Obj)} {dp un : Nat} {gd : Option (List Code)} {cn : PySem.Str} {cs : Scope} {a : Addr} {ccd : Value} {A₀ : Around} {base h₀ : Heap} {L : Addr} {m : PySem.Str → Option Value} {s : Shared} {Q E : Value → Shared → Prop} {b₀ : Addr} {x : PySem.Str} {t : Tok} {v : Int} (hx : x.length ≤ 60) (hv : Tells x v) (hb : s.heap.get? b₀ = some (dtOf 0 0))
    (B : Below A₀ base [] h₀) (F : Fr h₀ L s.heap m) (X : (hd.heap_39 w.params).In h₀) (N : News h₀ L s.heap news) (T : Top hd.view_39 loose mean mg mb h₀) (hkf : cs.kind = .function) (XB : (hd.heap_39 w.params).In base) (TB : Top hd.view_39 loose mean mg mb base) (Z : h₀.get? 49 = some zeroObj) (hroom : dp + 3 < recursionLimit) (hunits : un + 24 < cLine)
    (hret : ∀ (tup b : Addr) (V : Int) (t : Tok) (h' : Heap) (tk' : Nat), V = v → Fr h₀ L h' m → News h₀ L h' ((tup, { cls := .type "tuple", data := .seq #[.int V t, .ref b] }) :: (b, dtOf v 0) :: news) → Q (.ref tup) { s with heap := h', toks := tk' }) :
    wpAny (model PySem.Challenge.rw_il0028_01.row.prog w) (ktrTop dp un gd cn cs L a ccd [] []) (call (.ref 113) [.str x t, .ref b₀]) Q E s := by
  k_with_none
  k_with "eval Tuple" => (k_here; dsimp only; (try k_gentoks))
  k_with "eval Call" => (k_here; dsimp only; (try k_gentoks))
  k_with "eval Attribute" => (k_here; dsimp only; (try k_gentoks))
  k_with "exec Assign" => (k_here; dsimp only; (try k_gentoks))
  k_with "exec If" => (k_here; dsimp only; (try k_gentoks))
  k_with "exec For" => (k_here; dsimp only; (try k_gentoks))
  k_with "execs cons" => (k_here; dsimp only; (try k_gentoks))
  k_with "execs nil" => (k_here; dsimp only; (try k_gentoks))
  k_with "pyIter ref" => (k_here; dsimp only; (try k_gentoks))
  k_with "newTuple" => (k_here; dsimp only; (try k_gentoks))
  k_with "assign Tuple" => (k_here; dsimp only; (try k_gentoks))
  k_with "ItemsRest" => (dsimp only)
  k_with "UnrPostW" => (dsimp only)
  k_with "UnrEndW" => (dsimp only)
  k_with "call ref" => (k_here; k_dflt (refine' Mine.dfs_G ?hx ?hv ?k1 ?k2 ?k3 ?k4 ?k5 ?kK ?kd ?ku ?_); (case hx => assumption); (case hv => assumption); (case k1 => k_asm); (case k2 => k_asm); (case k3 => k_asm); (case k4 => k_asm); (case k5 => k_asm); (case kK => exact rfl); (case kd => ktr_room); (case ku => ktr_units); intro b9 h9 tk9 F9 N9; (try dsimp only))
  k_with "getAttr ref" => (k_here; k_dflt (first | (refine' Mine.at_tz ?k0 ?k1 ?_; (case k0 => exact rfl); (case k1 => first | exact News.get (by assumption) (by k_mem) | (exact Fr.keep (by assumption) _ _ (by assumption)) | assumption); intro tk9) | (refine' Mine.at_us ?k0 ?k1 ?_; (case k0 => exact rfl); (case k1 => first | exact News.get (by assumption) (by k_mem) | (exact Fr.keep (by assumption) _ _ (by assumption)) | assumption); intro t9 tk9) | (refine' Mine.at_days ?k0 ?k1 ?_; (case k0 => exact rfl); (case k1 => assumption); intro t9 tk9) | (refine' Mine.at_seconds ?k0 ?k1 ?_; (case k0 => exact rfl); (case k1 => assumption); intro t9 tk9)); (try dsimp only))
  k_with "binaryOp Sub ref ref" => (k_here; k_dflt (refine' Mine.sub_V ?kX ?kZ ?kF ?kN ?ka ?kb ?ku ?kv ?_; (case kX => k_asm); (case kZ => assumption); (case kF => k_asm); (case kN => k_asm); (case ka => first | exact News.get (by assumption) (by k_mem) | (exact Fr.keep (by assumption) _ _ (by assumption)) | assumption); (case kb => first | exact News.get (by assumption) (by k_mem) | (exact Fr.keep (by assumption) _ _ (by assumption)) | assumption); (case ku => assumption); (case kv => assumption)); intro c9 h9 F9 N9 g9 q9; (try dsimp only))
  have hm := hv.mom
  have hm0 : Mom 0 := ⟨by decide, by decide⟩
  have Z2 := F.keep _ _ Z
  w_on
  (revert X; k_fill; intro X)
  refine wpAny_call ?_
  w_strict (k_dflt (refine' Mine.code0S ?k1 ?k2 ?k3 ?k5 ?kA ?kK ?k6 ?k7 ?k8 ?k9 ?kB ?_ ?c2 ?c3 ?c4 ?c5; (case kA => exact rfl); (case kK => assumption); (case k1 => k_asm); (case k2 => k_asm); (case k3 => k_asm); (case k5 => k_asm); (case k6 => k_is); (case k7 => k_is); (case k8 => ktr_room); (case k9 => exact BindsTo.of_eq rfl); (case c5 => decide); (case kB => exact locs rfl); (case c2 => exact rfl); (case c3 => exact rfl); (case c4 => exact rfl); k_whole; intro L' h' F' N' B' X' T' D'; (try dsimp only); (try k_lift B'); (try k_fold)); k_steps; all_goals (refine' hret _ _ _ _ _ _ ?hV (by assumption) (Mine.news_two (by assumption) (Mine.news_keep N (Fr.keep (by assumption)))); (case hV => exact Mine.span_is (by omega))))
end Mine
end
section
open PySem PySem.W PySem.Calls PyProof.Rows
set_option maxRecDepth 100000
set_option maxHeartbeats 4000000
namespace Mine
section
variable {h₀ h : Heap} {L : Addr} {m : PySem.Str → Option Value}
theorem fr_c6 (F : Fr h₀ L h m) (x0 x1 x2 x3 x4 x5 : PySem.Str) {v0 v1 v2 v3 v4 v5 : Value} (h0 : m x0 = some v0) (h1 : m x1 = some v1) (h2 : m x2 = some v2) (h3 : m x3 = some v3) (h4 : m x4 = some v4) (h5 : m x5 = some v5) :
    ∃ u : PySem.Str → Option Value, Fr h₀ L h (fun z => if z = x0 then some v0 else if z = x1 then some v1 else if z = x2 then some v2 else if z = x3 then some v3 else if z = x4 then some v4 else if z = x5 then some v5 else u z) := by
  refine ⟨m, ?_⟩
  have e : (fun z => if z = x0 then some v0 else if z = x1 then some v1 else if z = x2 then some v2 else if z = x3 then some v3 else if z = x4 then some v4 else if z = x5 then some v5 else m z) = m := by
    funext z
    (repeat' split) <;> simp_all
  rw [e]; exact F
theorem fr_c8 (F : Fr h₀ L h m) (x0 x1 x2 x3 x4 x5 x6 x7 : PySem.Str) {v0 v1 v2 v3 v4 v5 v6 v7 : Value} (h0 : m x0 = some v0) (h1 : m x1 = some v1) (h2 : m x2 = some v2) (h3 : m x3 = some v3) (h4 : m x4 = some v4) (h5 : m x5 = some v5) (h6 : m x6 = some v6) (h7 : m x7 = some v7) :
    ∃ u : PySem.Str → Option Value, Fr h₀ L h (fun z => if z = x0 then some v0 else if z = x1 then some v1 else if z = x2 then some v2 else if z = x3 then some v3 else if z = x4 then some v4 else if z = x5 then some v5 else if z = x6 then some v6 else if z = x7 then some v7 else u z) := by
  refine ⟨m, ?_⟩
  have e : (fun z => if z = x0 then some v0 else if z = x1 then some v1 else if z = x2 then some v2 else if z = x3 then some v3 else if z = x4 then some v4 else if z = x5 then some v5 else if z = x6 then some v6 else if z = x7 then some v7 else m z) = m := by
    funext z
    (repeat' split) <;> simp_all
  rw [e]; exact F
theorem fr_c9 (F : Fr h₀ L h m) (x0 x1 x2 x3 x4 x5 x6 x7 x8 : PySem.Str) {v0 v1 v2 v3 v4 v5 v6 v7 v8 : Value} (h0 : m x0 = some v0) (h1 : m x1 = some v1) (h2 : m x2 = some v2) (h3 : m x3 = some v3) (h4 : m x4 = some v4) (h5 : m x5 = some v5) (h6 : m x6 = some v6) (h7 : m x7 = some v7) (h8 : m x8 = some v8) :
    ∃ u : PySem.Str → Option Value, Fr h₀ L h (fun z => if z = x0 then some v0 else if z = x1 then some v1 else if z = x2 then some v2 else if z = x3 then some v3 else if z = x4 then some v4 else if z = x5 then some v5 else if z = x6 then some v6 else if z = x7 then some v7 else if z = x8 then some v8 else u z) := by
  refine ⟨m, ?_⟩
  have e : (fun z => if z = x0 then some v0 else if z = x1 then some v1 else if z = x2 then some v2 else if z = x3 then some v3 else if z = x4 then some v4 else if z = x5 then some v5 else if z = x6 then some v6 else if z = x7 then some v7 else if z = x8 then some v8 else m z) = m := by
    funext z
    (repeat' split) <;> simp_all
  rw [e]; exact F
end
section
variable {M : Model} {A : Around} {E : Value → Shared → Prop} {env : Env}
theorem execs_take_wp {Q : Flow → Shared → Prop} {Γ : Ctx} (hΓ : Γ.In A) : ∀ (n : Nat) (l : List Stmt) (s : Shared) (p : Pos),
    Sem.wp M Γ (execs (l.take n) env) (fun f _ s' => match f with | .next => wpAny M A (execs (l.drop n) env) Q E s' | f => Q f s') (fun e _ s' => E e s') p s →
    Sem.wp M Γ (execs l env) (fun f _ s' => Q f s') (fun e _ s' => E e s') p s
  | 0, l, s, p, h => (show wpAny M A (execs l env) Q E s from h) Γ p hΓ
  | n + 1, [], s, p, h => (show wpAny M A (execs [] env) Q E s from h) Γ p hΓ
  | n + 1, a :: r, s, p, h => by
    rw [List.take_succ_cons, execs_cons, Sem.wp_bind'] at h
    rw [execs_cons, Sem.wp_bind']
    refine Sem.wp_mono M Γ _ (fun f p' s' h1 => ?_) (fun _ _ _ h1 => h1) _ _ h
    cases f <;> try exact h1
    exact execs_take_wp hΓ n r s' p' h1
theorem execs_take {Q : Flow → Shared → Prop} (n : Nat) {l : List Stmt} {s : Shared} (h : wpAny M A (execs (l.take n) env) (fun f s' => match f with | .next => wpAny M A (execs (l.drop n) env) Q E s' | f => Q f s') E s) : wpAny M A (execs l env) Q E s :=
  fun Γ p hΓ => execs_take_wp hΓ n l s p (h Γ p hΓ)
end
theorem mom_fmod (v : Int) : Mom (v.fmod 315537897600) := by
  rw [fmod_pos _ (by decide)]; exact ⟨by omega, by omega⟩
theorem ne_self {a : Int} (h : a ≠ a) : False := h rfl
theorem news_tl {h₀ h : Heap} {L : Addr} {p : Addr × Obj} {r : List (Addr × Obj)} (x : News h₀ L h (p :: r)) : News h₀ L h r := fun q hq => x q (.tail _ hq)
theorem bool_ne {x : PySem.Str} (h : (x != x) = true) : False := by simp at h
/-- the row: ints below a bound -/
noncomputable def RowOk (arr : Array Value) : Prop := arr.size ≤ 65 ∧ ∀ i (h : i < arr.size), ∃ v t, arr[i] = .int v t ∧ 0 ≤ v ∧ v < 1000000000000
section
variable {prog : Program} {w : World} {A : Around} {E : Value → Shared → Prop} {s : Shared} {h₀ : Heap} {L r : Addr} {arr : Array Value} {c : Nat} {news : List (Addr × Obj)} {k : Int}
theorem row_item {value slice : PySem.Expr} {u : Tok} {Q : Value → Shared → Prop} (N : News h₀ L s.heap news) (hm : (r, W.listOf arr c) ∈ news) (hr : RowOk arr) (h0 : 0 ≤ k) (h1 : k < (arr.size : Int)) (h : ∀ v t, 0 ≤ v → v < 1000000000000 → Q (.int v t) s)
    (hs : subscripted slice false (.ref r) (.int k u) = operate [.ref r, .int k u] (getItem (.ref r) (.int k u)) := by with_unfolding_all rfl) :
    wpAny (model prog w) A (subscriptTail value slice (.ref r) (.int k u)) Q E s := by
  have hl : s.heap.IsList r arr := ⟨_, N.get hm, rfl, _, rfl⟩
  have hlt : k.toNat < arr.size := by omega
  obtain ⟨v, t, e, v0, v1⟩ := hr.2 _ hlt
  refine tail_any hl.typeIs slot_list_getitem.lookup (wpAny_getItem_list hl h0 (by have := hr.1; omega) ?_ (h v t v0 v1)) hs
  rw [Array.getElem?_eq_getElem hlt, e]
theorem row_len {Q : Value → Shared → Prop} (N : News h₀ L s.heap news) (hm : (r, W.listOf arr c) ∈ news) (hr : RowOk arr) (h : ∀ t k, Q (.int (arr.size : Int) t) { s with toks := k }) :
    wpAny (model prog w) A (call (.builtin "len") [.ref r]) Q E s :=
  Calls.call_len_list (items := arr) ⟨_, N.get hm, rfl, _, rfl⟩ (by have := hr.1; omega) (h _ _)
end
end Mine
end
section
open PySem PySem.W PyProof.Rows
set_option maxRecDepth 100000
set_option maxHeartbeats 4000000
local macro_rules | `(tactic| passes_own) => `(tactic| assumption)
namespace Mine
theorem turn_1 {w : World} {mg mb : PySem.Str → Option Value} {loose : List PySem.Str} {mean : ExcName → Option Value} {dp un : Nat} {gd : Option (List Code)} {a : Addr} {ccd : Value} {A₀ : Around} {base h₀ : Heap} {L : Addr} {u : PySem.Str → Option Value} {s : Shared} {Q : Flow → Shared → Prop} {E : Value → Shared → Prop} {news : List (Addr × Obj)} {f l r db : Addr} {k bef : Int} {tk0 tb : Tok} {arr : Array Value} {c : Nat} (hf : (f, dtOf 0 0) ∈ news) (hr : (r, W.listOf arr c) ∈ news) (hrow : RowOk arr) (hk0 : 0 ≤ k) (hk1 : k < (arr.size : Int))
    (F : Fr h₀ L s.heap (fun z => if z = PySem.Str.ofString "k" then some (.int k tk0) else if z = PySem.Str.ofString "first" then some (.ref f) else if z = PySem.Str.ofString "last" then some (.ref l) else if z = PySem.Str.ofString "row" then some (.ref r) else if z = PySem.Str.ofString "before" then some (.int bef tb) else if z = PySem.Str.ofString "date_before" then some (.ref db) else u z))
    (B : Below A₀ base [] h₀) (X : (hd.heap_39 w.params).In h₀) (N : News h₀ L s.heap news) (T : Top hd.view_39 loose mean mg mb h₀) (XB : (hd.heap_39 w.params).In base) (TB : Top hd.view_39 loose mean mg mb base) (Z : h₀.get? 49 = some zeroObj) (hroom : dp + 6 < recursionLimit) (hunits : un + 48 < cLine)
    (hE : PassesOwn (model PySem.Challenge.rw_il0028_01.row.prog w) (ktrTop dp un gd (fnd w.params 118).qualname (fnd w.params 118).scope L a ccd [] []) (envX (fnd w.params 118).qualname (fnd w.params 118).scope L a ccd []) E)
    (hret : ∀ (v mo : Int) (tm tx : Tok) (b : Addr) (x' : PySem.Str) (m' : PySem.Str → Option Value) (h' : Heap) (tk' : Nat), mo = v.fmod 315537897600 → Mom mo → x'.length ≤ 60 → m' (PySem.Str.ofString "k") = some (.int k tk0) → m' (PySem.Str.ofString "first") = some (.ref f) → m' (PySem.Str.ofString "last") = some (.ref l) → m' (PySem.Str.ofString "row") = some (.ref r) → m' (PySem.Str.ofString "before") = some (.int bef tb) → m' (PySem.Str.ofString "date_before") = some (.ref db) → m' (PySem.Str.ofString "moment") = some (.int mo tm) → m' (PySem.Str.ofString "date") = some (.ref b) → m' (PySem.Str.ofString "changed") = some (.str x' tx) → Fr h₀ L h' m' → News h₀ L h' ((b, dtOf mo 0) :: news) → Q .next { s with heap := h', toks := tk' }) :
    wpAny (model PySem.Challenge.rw_il0028_01.row.prog w) (ktrTop dp un gd (fnd w.params 118).qualname (fnd w.params 118).scope L a ccd [] []) (execs ((forBody (stAt (fb w.params 118) 5)).take 5) (envX (fnd w.params 118).qualname (fnd w.params 118).scope L a ccd [])) Q E s := by
  k_with_none
  k_with "eval Tuple" => (k_here; dsimp only; (try k_gentoks))
  k_with "eval Call" => (k_here; dsimp only; (try k_gentoks))
  k_with "eval Attribute" => (k_here; dsimp only; (try k_gentoks))
  k_with "exec Assign" => (k_here; dsimp only; (try k_gentoks))
  k_with "exec If" => (k_here; dsimp only; (try k_gentoks))
  k_with "exec For" => (k_here; dsimp only; (try k_gentoks))
  k_with "execs cons" => (k_here; dsimp only; (try k_gentoks))
  k_with "execs nil" => (k_here; dsimp only; (try k_gentoks))
  k_with "pyIter ref" => (k_here; dsimp only; (try k_gentoks))
  k_with "newTuple" => (k_here; dsimp only; (try k_gentoks))
  k_with "assign Tuple" => (k_here; dsimp only; (try k_gentoks))
  k_with "ItemsRest" => (dsimp only)
  k_with "UnrPostW" => (dsimp only)
  k_with "UnrEndW" => (dsimp only)
  k_with "call ref" => (k_here; k_dflt (refine' Mine.text_spec ?hp ?k1 ?k2 ?k3 ?k4 ?k5 ?kK ?kd ?ku ?_); (case hp => first | assumption | exact Mine.mom_fmod _); (case k1 => k_asm); (case k2 => k_asm); (case k3 => k_asm); (case k4 => k_asm); (case k5 => k_asm); (case kK => exact rfl); (case kd => ktr_room); (case ku => ktr_units); intro t9 h9 tk9 F9 N9; (try dsimp only))
  k_with "call ref" => (k_here; k_dflt (refine' Mine.met_G ?hx ?hv ?hb ?k1 ?k2 ?k3 ?k4 ?k5 ?kK ?kXB ?kTB ?kZ ?kd ?ku ?_); (case hx => (exact Nat.le_trans (Nat.le_of_eq (Mine.law_length (by first | assumption | exact Mine.mom_fmod _))) (by decide))); (case hv => exact Mine.tells_law (by first | assumption | exact Mine.mom_fmod _)); (case hb => first | exact News.get (by assumption) (by k_mem) | exact News.get (by assumption) (by assumption) | exact News.get (by assumption) (List.mem_cons_of_mem _ (by assumption)) | exact News.get (by assumption) (List.mem_cons_of_mem _ (List.mem_cons_of_mem _ (by assumption))) | exact News.get (by assumption) (List.mem_cons_of_mem _ (List.mem_cons_of_mem _ (List.mem_cons_of_mem _ (by assumption))))); (case k1 => k_asm); (case k2 => k_asm); (case k3 => k_asm); (case k4 => k_asm); (case k5 => k_asm); (case kK => exact rfl); (case kXB => assumption); (case kTB => assumption); (case kZ => assumption); (case kd => ktr_room); (case ku => ktr_units); intro tup9 b9 V9 t9 h9 tk9 e9 F9 N9; subst e9; (try dsimp only))
  k_with "call ref" => (k_here; k_dflt (refine' Mine.dts_V ?hb ?hv ?k1 ?k2 ?k3 ?k4 ?k5 ?kK ?kd ?ku ?_); (case hb => first | exact News.get (by assumption) (by k_mem) | exact News.get (by assumption) (by assumption) | exact News.get (by assumption) (List.mem_cons_of_mem _ (by assumption)) | exact News.get (by assumption) (List.mem_cons_of_mem _ (List.mem_cons_of_mem _ (by assumption))) | exact News.get (by assumption) (List.mem_cons_of_mem _ (List.mem_cons_of_mem _ (List.mem_cons_of_mem _ (by assumption))))); (case hv => first | assumption | exact Mine.mom_fmod _); (case k1 => k_asm); (case k2 => k_asm); (case k3 => k_asm); (case k4 => k_asm); (case k5 => k_asm); (case kK => exact rfl); (case kd => ktr_room); (case ku => ktr_units); intro t9 h9 tk9 F9 N9; (try dsimp only))
  k_with "call ref" => (k_here; k_dflt (refine' Mine.changed_spec ?hx ?hy ?k1 ?k2 ?k3 ?k4 ?k5 ?kK ?kd ?ku ?_); (case hx => exact Mine.law_length (by first | assumption | exact Mine.mom_fmod _)); (case hy => assumption); (case k1 => k_asm); (case k2 => k_asm); (case k3 => k_asm); (case k4 => k_asm); (case k5 => k_asm); (case kK => exact rfl); (case kd => ktr_room); (case ku => ktr_units); intro x9 t9 h9 tk9 hx9 F9 N9; (try dsimp only))
  k_with "subscriptTail" => (k_here; k_dflt (refine' Mine.row_item ?k1 ?k2 ?k3 ?k4 ?k5 ?_ ?k6; (case k1 => k_asm); (case k2 => first | assumption | exact List.mem_cons_of_mem _ (by assumption) | exact List.mem_cons_of_mem _ (List.mem_cons_of_mem _ (by assumption)) | exact List.mem_cons_of_mem _ (List.mem_cons_of_mem _ (List.mem_cons_of_mem _ (by assumption)))); (case k3 => assumption); (case k4 => omega); (case k5 => omega); (case k6 => with_unfolding_all rfl)); intro v9 t9 lo9 hi9; (try dsimp only))
  k_with "call builtin:len" => (k_here; k_dflt (refine' Mine.row_len ?k1 ?k2 ?k3 ?_; (case k1 => k_asm); (case k2 => first | assumption | exact List.mem_cons_of_mem _ (by assumption) | exact List.mem_cons_of_mem _ (List.mem_cons_of_mem _ (by assumption)) | exact List.mem_cons_of_mem _ (List.mem_cons_of_mem _ (List.mem_cons_of_mem _ (by assumption)))); (case k3 => assumption)); intro t9 tk9; (try dsimp only))
  w_on
  (revert X; k_fill; intro X)
  have efd := fnd_of (P := w.params) (f := 118) (by k_is)
  unfold fb
  rw [efd] at hE ⊢
  clear efd
  w_strict (dsimp only [List.take, forBody, stAt, List.getD, List.getElem?_cons_succ, List.getElem?_cons_zero, Option.getD_some] at hE ⊢; (try k_fold); k_steps; all_goals ((try dsimp only); first | (exfalso; exact Mine.ne_self (by assumption)) | (exfalso; exact Mine.bool_ne (by assumption)) | (refine' hret _ _ _ _ _ _ _ _ _ ?hv ?hm ?hx ?e0 ?e1 ?e2 ?e3 ?e4 ?e5 ?e6 ?e7 ?e8 ?hF ?hN; (case hF => assumption); (case e0 => ((try dsimp only); repeat (first | with_reducible exact Mine.lk_eq | with_reducible refine (Mine.lk_n (by decide)).trans ?_))); (case e1 => ((try dsimp only); repeat (first | with_reducible exact Mine.lk_eq | with_reducible refine (Mine.lk_n (by decide)).trans ?_))); (case e2 => ((try dsimp only); repeat (first | with_reducible exact Mine.lk_eq | with_reducible refine (Mine.lk_n (by decide)).trans ?_))); (case e3 => ((try dsimp only); repeat (first | with_reducible exact Mine.lk_eq | with_reducible refine (Mine.lk_n (by decide)).trans ?_))); (case e4 => ((try dsimp only); repeat (first | with_reducible exact Mine.lk_eq | with_reducible refine (Mine.lk_n (by decide)).trans ?_))); (case e5 => ((try dsimp only); repeat (first | with_reducible exact Mine.lk_eq | with_reducible refine (Mine.lk_n (by decide)).trans ?_))); (case e6 => ((try dsimp only); repeat (first | with_reducible exact Mine.lk_eq | with_reducible refine (Mine.lk_n (by decide)).trans ?_))); (case e7 => ((try dsimp only); repeat (first | with_reducible exact Mine.lk_eq | with_reducible refine (Mine.lk_n (by decide)).trans ?_))); (case e8 => ((try dsimp only); repeat (first | with_reducible exact Mine.lk_eq | with_reducible refine (Mine.lk_n (by decide)).trans ?_))); (case hN => first | assumption | exact Mine.news_tl (by assumption)); (case hv => rfl); (case hm => exact Mine.mom_fmod _); (case hx => assumption))))
end Mine
end
section
open PySem PySem.W PyProof.Rows
set_option maxRecDepth 100000
set_option maxHeartbeats 4000000
local macro_rules | `(tactic| passes_own) => `(tactic| assumption)
namespace Mine
theorem turn_2A {w : World} {mg mb : PySem.Str → Option Value} {loose : List PySem.Str} {mean : ExcName → Option Value} {dp un : Nat} {gd : Option (List Code)} {a : Addr} {ccd : Value} {A₀ : Around} {base h₀ : Heap} {L : Addr} {u : PySem.Str → Option Value} {s : Shared} {Q : Flow → Shared → Prop} {E : Value → Shared → Prop} {news : List (Addr × Obj)} {f l r db b : Addr} {k bef mo : Int} {tk0 tb tm tx : Tok} {x' : PySem.Str} (hf0 : (f, dtOf 0 0) ∈ news) (hx : x'.length ≤ 60) (hf : fits x'.cps = false)
    (F : Fr h₀ L s.heap (fun z => if z = PySem.Str.ofString "k" then some (.int k tk0) else if z = PySem.Str.ofString "first" then some (.ref f) else if z = PySem.Str.ofString "last" then some (.ref l) else if z = PySem.Str.ofString "row" then some (.ref r) else if z = PySem.Str.ofString "before" then some (.int bef tb) else if z = PySem.Str.ofString "date_before" then some (.ref db) else if z = PySem.Str.ofString "moment" then some (.int mo tm) else if z = PySem.Str.ofString "date" then some (.ref b) else if z = PySem.Str.ofString "changed" then some (.str x' tx) else u z))
    (B : Below A₀ base [] h₀) (X : (hd.heap_39 w.params).In h₀) (N : News h₀ L s.heap news) (T : Top hd.view_39 loose mean mg mb h₀) (XB : (hd.heap_39 w.params).In base) (TB : Top hd.view_39 loose mean mg mb base) (Z : h₀.get? 49 = some zeroObj) (hroom : dp + 6 < recursionLimit) (hunits : un + 48 < cLine)
    (hE : PassesOwn (model PySem.Challenge.rw_il0028_01.row.prog w) (ktrTop dp un gd (fnd w.params 118).qualname (fnd w.params 118).scope L a ccd [] []) (envX (fnd w.params 118).qualname (fnd w.params 118).scope L a ccd []) E)
    (hret : ∀ (m' : PySem.Str → Option Value) (h' : Heap) (tk' : Nat), m' (PySem.Str.ofString "k") = some (.int k tk0) → m' (PySem.Str.ofString "first") = some (.ref f) → m' (PySem.Str.ofString "last") = some (.ref l) → m' (PySem.Str.ofString "row") = some (.ref r) → m' (PySem.Str.ofString "before") = some (.int bef tb) → m' (PySem.Str.ofString "date_before") = some (.ref db) → m' (PySem.Str.ofString "moment") = some (.int mo tm) → m' (PySem.Str.ofString "date") = some (.ref b) → Fr h₀ L h' m' → News h₀ L h' news → Q .next { s with heap := h', toks := tk' }) :
    wpAny (model PySem.Challenge.rw_il0028_01.row.prog w) (ktrTop dp un gd (fnd w.params 118).qualname (fnd w.params 118).scope L a ccd [] []) (execs (((forBody (stAt (fb w.params 118) 5)).drop 5).take 4) (envX (fnd w.params 118).qualname (fnd w.params 118).scope L a ccd [])) Q E s := by
  k_with_none
  k_with "eval Tuple" => (k_here; dsimp only; (try k_gentoks))
  k_with "eval Call" => (k_here; dsimp only; (try k_gentoks))
  k_with "eval Attribute" => (k_here; dsimp only; (try k_gentoks))
  k_with "exec Assign" => (k_here; dsimp only; (try k_gentoks))
  k_with "exec If" => (k_here; dsimp only; (try k_gentoks))
  k_with "exec For" => (k_here; dsimp only; (try k_gentoks))
  k_with "execs cons" => (k_here; dsimp only; (try k_gentoks))
  k_with "execs nil" => (k_here; dsimp only; (try k_gentoks))
  k_with "pyIter ref" => (k_here; dsimp only; (try k_gentoks))
  k_with "newTuple" => (k_here; dsimp only; (try k_gentoks))
  k_with "assign Tuple" => (k_here; dsimp only; (try k_gentoks))
  k_with "ItemsRest" => (dsimp only)
  k_with "UnrPostW" => (dsimp only)
  k_with "UnrEndW" => (dsimp only)
  k_with "call ref" => (k_here; k_dflt (refine' Mine.due_A ?hx ?x0 ?k1 ?k2 ?k3 ?k4 ?k5 ?kK ?kd ?ku ?_); (case hx => assumption); (case x0 => assumption); (case k1 => k_asm); (case k2 => k_asm); (case k3 => k_asm); (case k4 => k_asm); (case k5 => k_asm); (case kK => exact rfl); (case kd => ktr_room); (case ku => ktr_units); intro t9 h9 tk9 F9 N9; (try dsimp only))
  k_with "call ref" => (k_here; k_dflt (refine' Mine.met_A ?hx ?x0 ?k1 ?k2 ?k3 ?k4 ?k5 ?kK ?kXB ?kTB ?kZ ?kd ?ku ?_); (case hx => assumption); (case x0 => assumption); (case k1 => k_asm); (case k2 => k_asm); (case k3 => k_asm); (case k4 => k_asm); (case k5 => k_asm); (case kK => exact rfl); (case kXB => assumption); (case kTB => assumption); (case kZ => assumption); (case kd => ktr_room); (case ku => ktr_units); intro tup9 t9 h9 tk9 F9 N9; (try dsimp only))
  w_on
  (revert X; k_fill; intro X)
  have efd := fnd_of (P := w.params) (f := 118) (by k_is)
  unfold fb
  rw [efd] at hE ⊢
  clear efd
  w_strict (dsimp only [List.take, List.drop, forBody, stAt, List.getD, List.getElem?_cons_succ, List.getElem?_cons_zero, Option.getD_some] at hE ⊢; (try k_fold); k_steps; all_goals ((try dsimp only); first | (exfalso; exact Mine.ne_self (by assumption)) | (exfalso; exact Mine.bool_ne (by assumption)) | (refine' hret _ _ _ ?e0 ?e1 ?e2 ?e3 ?e4 ?e5 ?e6 ?e7 ?hF ?hN; (case hF => assumption); (case e0 => ((try dsimp only); repeat (first | with_reducible exact Mine.lk_eq | with_reducible refine (Mine.lk_n (by decide)).trans ?_))); (case e1 => ((try dsimp only); repeat (first | with_reducible exact Mine.lk_eq | with_reducible refine (Mine.lk_n (by decide)).trans ?_))); (case e2 => ((try dsimp only); repeat (first | with_reducible exact Mine.lk_eq | with_reducible refine (Mine.lk_n (by decide)).trans ?_))); (case e3 => ((try dsimp only); repeat (first | with_reducible exact Mine.lk_eq | with_reducible refine (Mine.lk_n (by decide)).trans ?_))); (case e4 => ((try dsimp only); repeat (first | with_reducible exact Mine.lk_eq | with_reducible refine (Mine.lk_n (by decide)).trans ?_))); (case e5 => ((try dsimp only); repeat (first | with_reducible exact Mine.lk_eq | with_reducible refine (Mine.lk_n (by decide)).trans ?_))); (case e6 => ((try dsimp only); repeat (first | with_reducible exact Mine.lk_eq | with_reducible refine (Mine.lk_n (by decide)).trans ?_))); (case e7 => ((try dsimp only); repeat (first | with_reducible exact Mine.lk_eq | with_reducible refine (Mine.lk_n (by decide)).trans ?_))); (case hN => first | assumption | exact Mine.news_tl (by assumption) | exact Mine.news_tl (Mine.news_tl (by assumption))))))
end Mine
namespace Mine
theorem turn_2T {w : World} {mg mb : PySem.Str → Option Value} {loose : List PySem.Str} {mean : ExcName → Option Value} {dp un : Nat} {gd : Option (List Code)} {a : Addr} {ccd : Value} {A₀ : Around} {base h₀ : Heap} {L : Addr} {u : PySem.Str → Option Value} {s : Shared} {Q : Flow → Shared → Prop} {E : Value → Shared → Prop} {news : List (Addr × Obj)} {f l r db b : Addr} {k bef mo : Int} {tk0 tb tm tx : Tok} {x' : PySem.Str} (hf0 : (f, dtOf 0 0) ∈ news) (hx : x'.length ≤ 60) (hf : fits x'.cps = true) (h3 : partsN x'.cps < 3)
    (F : Fr h₀ L s.heap (fun z => if z = PySem.Str.ofString "k" then some (.int k tk0) else if z = PySem.Str.ofString "first" then some (.ref f) else if z = PySem.Str.ofString "last" then some (.ref l) else if z = PySem.Str.ofString "row" then some (.ref r) else if z = PySem.Str.ofString "before" then some (.int bef tb) else if z = PySem.Str.ofString "date_before" then some (.ref db) else if z = PySem.Str.ofString "moment" then some (.int mo tm) else if z = PySem.Str.ofString "date" then some (.ref b) else if z = PySem.Str.ofString "changed" then some (.str x' tx) else u z))
    (B : Below A₀ base [] h₀) (X : (hd.heap_39 w.params).In h₀) (N : News h₀ L s.heap news) (T : Top hd.view_39 loose mean mg mb h₀) (XB : (hd.heap_39 w.params).In base) (TB : Top hd.view_39 loose mean mg mb base) (Z : h₀.get? 49 = some zeroObj) (hroom : dp + 6 < recursionLimit) (hunits : un + 48 < cLine)
    (hE : PassesOwn (model PySem.Challenge.rw_il0028_01.row.prog w) (ktrTop dp un gd (fnd w.params 118).qualname (fnd w.params 118).scope L a ccd [] []) (envX (fnd w.params 118).qualname (fnd w.params 118).scope L a ccd []) E)
    (hret : ∀ (m' : PySem.Str → Option Value) (h' : Heap) (tk' : Nat), m' (PySem.Str.ofString "k") = some (.int k tk0) → m' (PySem.Str.ofString "first") = some (.ref f) → m' (PySem.Str.ofString "last") = some (.ref l) → m' (PySem.Str.ofString "row") = some (.ref r) → m' (PySem.Str.ofString "before") = some (.int bef tb) → m' (PySem.Str.ofString "date_before") = some (.ref db) → m' (PySem.Str.ofString "moment") = some (.int mo tm) → m' (PySem.Str.ofString "date") = some (.ref b) → Fr h₀ L h' m' → News h₀ L h' news → Q .next { s with heap := h', toks := tk' }) :
    wpAny (model PySem.Challenge.rw_il0028_01.row.prog w) (ktrTop dp un gd (fnd w.params 118).qualname (fnd w.params 118).scope L a ccd [] []) (execs (((forBody (stAt (fb w.params 118) 5)).drop 5).take 4) (envX (fnd w.params 118).qualname (fnd w.params 118).scope L a ccd [])) Q E s := by
  k_with_none
  k_with "eval Tuple" => (k_here; dsimp only; (try k_gentoks))
  k_with "eval Call" => (k_here; dsimp only; (try k_gentoks))
  k_with "eval Attribute" => (k_here; dsimp only; (try k_gentoks))
  k_with "exec Assign" => (k_here; dsimp only; (try k_gentoks))
  k_with "exec If" => (k_here; dsimp only; (try k_gentoks))
  k_with "exec For" => (k_here; dsimp only; (try k_gentoks))
  k_with "execs cons" => (k_here; dsimp only; (try k_gentoks))
  k_with "execs nil" => (k_here; dsimp only; (try k_gentoks))
  k_with "pyIter ref" => (k_here; dsimp only; (try k_gentoks))
  k_with "newTuple" => (k_here; dsimp only; (try k_gentoks))
  k_with "assign Tuple" => (k_here; dsimp only; (try k_gentoks))
  k_with "ItemsRest" => (dsimp only)
  k_with "UnrPostW" => (dsimp only)
  k_with "UnrEndW" => (dsimp only)
  k_with "call ref" => (k_here; k_dflt (refine' Mine.due_A ?hx ?x0 ?k1 ?k2 ?k3 ?k4 ?k5 ?kK ?kd ?ku ?_); (case hx => assumption); (case x0 => assumption); (case k1 => k_asm); (case k2 => k_asm); (case k3 => k_asm); (case k4 => k_asm); (case k5 => k_asm); (case kK => exact rfl); (case kd => ktr_room); (case ku => ktr_units); intro t9 h9 tk9 F9 N9; (try dsimp only))
  k_with "call ref" => (k_here; k_dflt (refine' Mine.met_A ?hx ?x0 ?k1 ?k2 ?k3 ?k4 ?k5 ?kK ?kXB ?kTB ?kZ ?kd ?ku ?_); (case hx => assumption); (case x0 => assumption); (case k1 => k_asm); (case k2 => k_asm); (case k3 => k_asm); (case k4 => k_asm); (case k5 => k_asm); (case kK => exact rfl); (case kXB => assumption); (case kTB => assumption); (case kZ => assumption); (case kd => ktr_room); (case ku => ktr_units); intro tup9 t9 h9 tk9 F9 N9; (try dsimp only))
  k_with "call ref" => (k_here; k_dflt (refine' Mine.due_T ?hx ?x0 ?x1 ?k1 ?k2 ?k3 ?k4 ?k5 ?kK ?kd ?ku ?_); (case hx => assumption); (case x0 => assumption); (case x1 => assumption); (case k1 => k_asm); (case k2 => k_asm); (case k3 => k_asm); (case k4 => k_asm); (case k5 => k_asm); (case kK => exact rfl); (case kd => ktr_room); (case ku => ktr_units); intro t9 h9 tk9 F9 N9; (try dsimp only))
  k_with "call ref" => (k_here; k_dflt (refine' Mine.met_T ?hx ?x0 ?x1 ?k1 ?k2 ?k3 ?k4 ?k5 ?kK ?kXB ?kTB ?kZ ?kd ?ku ?_); (case hx => assumption); (case x0 => assumption); (case x1 => assumption); (case k1 => k_asm); (case k2 => k_asm); (case k3 => k_asm); (case k4 => k_asm); (case k5 => k_asm); (case kK => exact rfl); (case kXB => assumption); (case kTB => assumption); (case kZ => assumption); (case kd => ktr_room); (case ku => ktr_units); intro tup9 t9 h9 tk9 F9 N9; (try dsimp only))
  w_on
  (revert X; k_fill; intro X)
  have efd := fnd_of (P := w.params) (f := 118) (by k_is)
  unfold fb
  rw [efd] at hE ⊢
  clear efd
  w_strict (dsimp only [List.take, List.drop, forBody, stAt, List.getD, List.getElem?_cons_succ, List.getElem?_cons_zero, Option.getD_some] at hE ⊢; (try k_fold); k_steps; all_goals ((try dsimp only); first | (exfalso; exact Mine.ne_self (by assumption)) | (exfalso; exact Mine.bool_ne (by assumption)) | (refine' hret _ _ _ ?e0 ?e1 ?e2 ?e3 ?e4 ?e5 ?e6 ?e7 ?hF ?hN; (case hF => assumption); (case e0 => ((try dsimp only); repeat (first | with_reducible exact Mine.lk_eq | with_reducible refine (Mine.lk_n (by decide)).trans ?_))); (case e1 => ((try dsimp only); repeat (first | with_reducible exact Mine.lk_eq | with_reducible refine (Mine.lk_n (by decide)).trans ?_))); (case e2 => ((try dsimp only); repeat (first | with_reducible exact Mine.lk_eq | with_reducible refine (Mine.lk_n (by decide)).trans ?_))); (case e3 => ((try dsimp only); repeat (first | with_reducible exact Mine.lk_eq | with_reducible refine (Mine.lk_n (by decide)).trans ?_))); (case e4 => ((try dsimp only); repeat (first | with_reducible exact Mine.lk_eq | with_reducible refine (Mine.lk_n (by decide)).trans ?_))); (case e5 => ((try dsimp only); repeat (first | with_reducible exact Mine.lk_eq | with_reducible refine (Mine.lk_n (by decide)).trans ?_))); (case e6 => ((try dsimp only); repeat (first | with_reducible exact Mine.lk_eq | with_reducible refine (Mine.lk_n (by decide)).trans ?_))); (case e7 => ((try dsimp only); repeat (first | with_reducible exact Mine.lk_eq | with_reducible refine (Mine.lk_n (by decide)).trans ?_))); (case hN => first | assumption | exact Mine.news_tl (by assumption) | exact Mine.news_tl (Mine.news_tl (by assumption))))))
end Mine
namespace Mine
theorem turn_2V {w : World} {mg mb : PySem.Str → Option Value} {loose : List PySem.Str} {mean : ExcName → Option Value} {dp un : Nat} {gd : Option (List Code)} {a : Addr} {ccd : Value} {A₀ : Around} {base h₀ : Heap} {L : Addr} {u : PySem.Str → Option Value} {s : Shared} {Q : Flow → Shared → Prop} {E : Value → Shared → Prop} {news : List (Addr × Obj)} {f l r db b : Addr} {k bef mo : Int} {tk0 tb tm tx : Tok} {x' : PySem.Str} (hf0 : (f, dtOf 0 0) ∈ news) (hx : x'.length ≤ 60) (hf : fits x'.cps = true) (h3 : 3 ≤ partsN x'.cps) (hg : ¬ Good7 (fld x' (partsN x'.cps) 0) (fld x' (partsN x'.cps) 1) (fld x' (partsN x'.cps) 2) (fld x' (partsN x'.cps) 3) (fld x' (partsN x'.cps) 4) (fld x' (partsN x'.cps) 5) 0)
    (F : Fr h₀ L s.heap (fun z => if z = PySem.Str.ofString "k" then some (.int k tk0) else if z = PySem.Str.ofString "first" then some (.ref f) else if z = PySem.Str.ofString "last" then some (.ref l) else if z = PySem.Str.ofString "row" then some (.ref r) else if z = PySem.Str.ofString "before" then some (.int bef tb) else if z = PySem.Str.ofString "date_before" then some (.ref db) else if z = PySem.Str.ofString "moment" then some (.int mo tm) else if z = PySem.Str.ofString "date" then some (.ref b) else if z = PySem.Str.ofString "changed" then some (.str x' tx) else u z))
    (B : Below A₀ base [] h₀) (X : (hd.heap_39 w.params).In h₀) (N : News h₀ L s.heap news) (T : Top hd.view_39 loose mean mg mb h₀) (XB : (hd.heap_39 w.params).In base) (TB : Top hd.view_39 loose mean mg mb base) (Z : h₀.get? 49 = some zeroObj) (hroom : dp + 6 < recursionLimit) (hunits : un + 48 < cLine)
    (hE : PassesOwn (model PySem.Challenge.rw_il0028_01.row.prog w) (ktrTop dp un gd (fnd w.params 118).qualname (fnd w.params 118).scope L a ccd [] []) (envX (fnd w.params 118).qualname (fnd w.params 118).scope L a ccd []) E)
    (hret : ∀ (m' : PySem.Str → Option Value) (h' : Heap) (tk' : Nat), m' (PySem.Str.ofString "k") = some (.int k tk0) → m' (PySem.Str.ofString "first") = some (.ref f) → m' (PySem.Str.ofString "last") = some (.ref l) → m' (PySem.Str.ofString "row") = some (.ref r) → m' (PySem.Str.ofString "before") = some (.int bef tb) → m' (PySem.Str.ofString "date_before") = some (.ref db) → m' (PySem.Str.ofString "moment") = some (.int mo tm) → m' (PySem.Str.ofString "date") = some (.ref b) → Fr h₀ L h' m' → News h₀ L h' news → Q .next { s with heap := h', toks := tk' }) :
    wpAny (model PySem.Challenge.rw_il0028_01.row.prog w) (ktrTop dp un gd (fnd w.params 118).qualname (fnd w.params 118).scope L a ccd [] []) (execs (((forBody (stAt (fb w.params 118) 5)).drop 5).take 4) (envX (fnd w.params 118).qualname (fnd w.params 118).scope L a ccd [])) Q E s := by
  k_with_none
  k_with "eval Tuple" => (k_here; dsimp only; (try k_gentoks))
  k_with "eval Call" => (k_here; dsimp only; (try k_gentoks))
  k_with "eval Attribute" => (k_here; dsimp only; (try k_gentoks))
  k_with "exec Assign" => (k_here; dsimp only; (try k_gentoks))
  k_with "exec If" => (k_here; dsimp only; (try k_gentoks))
  k_with "exec For" => (k_here; dsimp only; (try k_gentoks))
  k_with "execs cons" => (k_here; dsimp only; (try k_gentoks))
  k_with "execs nil" => (k_here; dsimp only; (try k_gentoks))
  k_with "pyIter ref" => (k_here; dsimp only; (try k_gentoks))
  k_with "newTuple" => (k_here; dsimp only; (try k_gentoks))
  k_with "assign Tuple" => (k_here; dsimp only; (try k_gentoks))
  k_with "ItemsRest" => (dsimp only)
  k_with "UnrPostW" => (dsimp only)
  k_with "UnrEndW" => (dsimp only)
  k_with "call ref" => (k_here; k_dflt (refine' Mine.due_A ?hx ?x0 ?k1 ?k2 ?k3 ?k4 ?k5 ?kK ?kd ?ku ?_); (case hx => assumption); (case x0 => assumption); (case k1 => k_asm); (case k2 => k_asm); (case k3 => k_asm); (case k4 => k_asm); (case k5 => k_asm); (case kK => exact rfl); (case kd => ktr_room); (case ku => ktr_units); intro t9 h9 tk9 F9 N9; (try dsimp only))
  k_with "call ref" => (k_here; k_dflt (refine' Mine.met_A ?hx ?x0 ?k1 ?k2 ?k3 ?k4 ?k5 ?kK ?kXB ?kTB ?kZ ?kd ?ku ?_); (case hx => assumption); (case x0 => assumption); (case k1 => k_asm); (case k2 => k_asm); (case k3 => k_asm); (case k4 => k_asm); (case k5 => k_asm); (case kK => exact rfl); (case kXB => assumption); (case kTB => assumption); (case kZ => assumption); (case kd => ktr_room); (case ku => ktr_units); intro tup9 t9 h9 tk9 F9 N9; (try dsimp only))
  k_with "call ref" => (k_here; k_dflt (refine' Mine.due_T ?hx ?x0 ?x1 ?k1 ?k2 ?k3 ?k4 ?k5 ?kK ?kd ?ku ?_); (case hx => assumption); (case x0 => assumption); (case x1 => assumption); (case k1 => k_asm); (case k2 => k_asm); (case k3 => k_asm); (case k4 => k_asm); (case k5 => k_asm); (case kK => exact rfl); (case kd => ktr_room); (case ku => ktr_units); intro t9 h9 tk9 F9 N9; (try dsimp only))
  k_with "call ref" => (k_here; k_dflt (refine' Mine.met_T ?hx ?x0 ?x1 ?k1 ?k2 ?k3 ?k4 ?k5 ?kK ?kXB ?kTB ?kZ ?kd ?ku ?_); (case hx => assumption); (case x0 => assumption); (case x1 => assumption); (case k1 => k_asm); (case k2 => k_asm); (case k3 => k_asm); (case k4 => k_asm); (case k5 => k_asm); (case kK => exact rfl); (case kXB => assumption); (case kTB => assumption); (case kZ => assumption); (case kd => ktr_room); (case ku => ktr_units); intro tup9 t9 h9 tk9 F9 N9; (try dsimp only))
  k_with "call ref" => (k_here; k_dflt (refine' Mine.due_V ?hx ?x0 ?x1 ?x2 ?k1 ?k2 ?k3 ?k4 ?k5 ?kK ?kd ?ku ?_); (case hx => assumption); (case x0 => assumption); (case x1 => assumption); (case x2 => assumption); (case k1 => k_asm); (case k2 => k_asm); (case k3 => k_asm); (case k4 => k_asm); (case k5 => k_asm); (case kK => exact rfl); (case kd => ktr_room); (case ku => ktr_units); intro t9 h9 tk9 F9 N9; (try dsimp only))
  k_with "call ref" => (k_here; k_dflt (refine' Mine.met_V ?hx ?x0 ?x1 ?x2 ?k1 ?k2 ?k3 ?k4 ?k5 ?kK ?kXB ?kTB ?kZ ?kd ?ku ?_); (case hx => assumption); (case x0 => assumption); (case x1 => assumption); (case x2 => assumption); (case k1 => k_asm); (case k2 => k_asm); (case k3 => k_asm); (case k4 => k_asm); (case k5 => k_asm); (case kK => exact rfl); (case kXB => assumption); (case kTB => assumption); (case kZ => assumption); (case kd => ktr_room); (case ku => ktr_units); intro tup9 t9 h9 tk9 F9 N9; (try dsimp only))
  w_on
  (revert X; k_fill; intro X)
  have efd := fnd_of (P := w.params) (f := 118) (by k_is)
  unfold fb
  rw [efd] at hE ⊢
  clear efd
  w_strict (dsimp only [List.take, List.drop, forBody, stAt, List.getD, List.getElem?_cons_succ, List.getElem?_cons_zero, Option.getD_some] at hE ⊢; (try k_fold); k_steps; all_goals ((try dsimp only); first | (exfalso; exact Mine.ne_self (by assumption)) | (exfalso; exact Mine.bool_ne (by assumption)) | (refine' hret _ _ _ ?e0 ?e1 ?e2 ?e3 ?e4 ?e5 ?e6 ?e7 ?hF ?hN; (case hF => assumption); (case e0 => ((try dsimp only); repeat (first | with_reducible exact Mine.lk_eq | with_reducible refine (Mine.lk_n (by decide)).trans ?_))); (case e1 => ((try dsimp only); repeat (first | with_reducible exact Mine.lk_eq | with_reducible refine (Mine.lk_n (by decide)).trans ?_))); (case e2 => ((try dsimp only); repeat (first | with_reducible exact Mine.lk_eq | with_reducible refine (Mine.lk_n (by decide)).trans ?_))); (case e3 => ((try dsimp only); repeat (first | with_reducible exact Mine.lk_eq | with_reducible refine (Mine.lk_n (by decide)).trans ?_))); (case e4 => ((try dsimp only); repeat (first | with_reducible exact Mine.lk_eq | with_reducible refine (Mine.lk_n (by decide)).trans ?_))); (case e5 => ((try dsimp only); repeat (first | with_reducible exact Mine.lk_eq | with_reducible refine (Mine.lk_n (by decide)).trans ?_))); (case e6 => ((try dsimp only); repeat (first | with_reducible exact Mine.lk_eq | with_reducible refine (Mine.lk_n (by decide)).trans ?_))); (case e7 => ((try dsimp only); repeat (first | with_reducible exact Mine.lk_eq | with_reducible refine (Mine.lk_n (by decide)).trans ?_))); (case hN => first | assumption | exact Mine.news_tl (by assumption) | exact Mine.news_tl (Mine.news_tl (by assumption))))))
end Mine
namespace Mine
theorem turn_2G {w : World} {mg mb : PySem.Str → Option Value} {loose : List PySem.Str} {mean : ExcName → Option Value} {dp un : Nat} {gd : Option (List Code)} {a : Addr} {ccd : Value} {A₀ : Around} {base h₀ : Heap} {L : Addr} {u : PySem.Str → Option Value} {s : Shared} {Q : Flow → Shared → Prop} {E : Value → Shared → Prop} {news : List (Addr × Obj)} {f l r db b : Addr} {k bef mo : Int} {tk0 tb tm tx : Tok} {x' : PySem.Str} (hf0 : (f, dtOf 0 0) ∈ news) (hx : x'.length ≤ 60) {v' : Int} (hv : Tells x' v')
    (F : Fr h₀ L s.heap (fun z => if z = PySem.Str.ofString "k" then some (.int k tk0) else if z = PySem.Str.ofString "first" then some (.ref f) else if z = PySem.Str.ofString "last" then some (.ref l) else if z = PySem.Str.ofString "row" then some (.ref r) else if z = PySem.Str.ofString "before" then some (.int bef tb) else if z = PySem.Str.ofString "date_before" then some (.ref db) else if z = PySem.Str.ofString "moment" then some (.int mo tm) else if z = PySem.Str.ofString "date" then some (.ref b) else if z = PySem.Str.ofString "changed" then some (.str x' tx) else u z))
    (B : Below A₀ base [] h₀) (X : (hd.heap_39 w.params).In h₀) (N : News h₀ L s.heap news) (T : Top hd.view_39 loose mean mg mb h₀) (XB : (hd.heap_39 w.params).In base) (TB : Top hd.view_39 loose mean mg mb base) (Z : h₀.get? 49 = some zeroObj) (hroom : dp + 6 < recursionLimit) (hunits : un + 48 < cLine)
    (hE : PassesOwn (model PySem.Challenge.rw_il0028_01.row.prog w) (ktrTop dp un gd (fnd w.params 118).qualname (fnd w.params 118).scope L a ccd [] []) (envX (fnd w.params 118).qualname (fnd w.params 118).scope L a ccd []) E)
    (hret : ∀ (m' : PySem.Str → Option Value) (h' : Heap) (tk' : Nat), m' (PySem.Str.ofString "k") = some (.int k tk0) → m' (PySem.Str.ofString "first") = some (.ref f) → m' (PySem.Str.ofString "last") = some (.ref l) → m' (PySem.Str.ofString "row") = some (.ref r) → m' (PySem.Str.ofString "before") = some (.int bef tb) → m' (PySem.Str.ofString "date_before") = some (.ref db) → m' (PySem.Str.ofString "moment") = some (.int mo tm) → m' (PySem.Str.ofString "date") = some (.ref b) → Fr h₀ L h' m' → News h₀ L h' news → Q .next { s with heap := h', toks := tk' }) :
    wpAny (model PySem.Challenge.rw_il0028_01.row.prog w) (ktrTop dp un gd (fnd w.params 118).qualname (fnd w.params 118).scope L a ccd [] []) (execs (((forBody (stAt (fb w.params 118) 5)).drop 5).take 4) (envX (fnd w.params 118).qualname (fnd w.params 118).scope L a ccd [])) Q E s := by
  k_with_none
  k_with "eval Tuple" => (k_here; dsimp only; (try k_gentoks))
  k_with "eval Call" => (k_here; dsimp only; (try k_gentoks))
  k_with "eval Attribute" => (k_here; dsimp only; (try k_gentoks))
  k_with "exec Assign" => (k_here; dsimp only; (try k_gentoks))
  k_with "exec If" => (k_here; dsimp only; (try k_gentoks))
  k_with "exec For" => (k_here; dsimp only; (try k_gentoks))
  k_with "execs cons" => (k_here; dsimp only; (try k_gentoks))
  k_with "execs nil" => (k_here; dsimp only; (try k_gentoks))
  k_with "pyIter ref" => (k_here; dsimp only; (try k_gentoks))
  k_with "newTuple" => (k_here; dsimp only; (try k_gentoks))
  k_with "assign Tuple" => (k_here; dsimp only; (try k_gentoks))
  k_with "ItemsRest" => (dsimp only)
  k_with "UnrPostW" => (dsimp only)
  k_with "UnrEndW" => (dsimp only)
  k_with "call ref" => (k_here; k_dflt (refine' Mine.due_A ?hx ?x0 ?k1 ?k2 ?k3 ?k4 ?k5 ?kK ?kd ?ku ?_); (case hx => assumption); (case x0 => assumption); (case k1 => k_asm); (case k2 => k_asm); (case k3 => k_asm); (case k4 => k_asm); (case k5 => k_asm); (case kK => exact rfl); (case kd => ktr_room); (case ku => ktr_units); intro t9 h9 tk9 F9 N9; (try dsimp only))
  k_with "call ref" => (k_here; k_dflt (refine' Mine.met_A ?hx ?x0 ?k1 ?k2 ?k3 ?k4 ?k5 ?kK ?kXB ?kTB ?kZ ?kd ?ku ?_); (case hx => assumption); (case x0 => assumption); (case k1 => k_asm); (case k2 => k_asm); (case k3 => k_asm); (case k4 => k_asm); (case k5 => k_asm); (case kK => exact rfl); (case kXB => assumption); (case kTB => assumption); (case kZ => assumption); (case kd => ktr_room); (case ku => ktr_units); intro tup9 t9 h9 tk9 F9 N9; (try dsimp only))
  k_with "call ref" => (k_here; k_dflt (refine' Mine.due_T ?hx ?x0 ?x1 ?k1 ?k2 ?k3 ?k4 ?k5 ?kK ?kd ?ku ?_); (case hx => assumption); (case x0 => assumption); (case x1 => assumption); (case k1 => k_asm); (case k2 => k_asm); (case k3 => k_asm); (case k4 => k_asm); (case k5 => k_asm); (case kK => exact rfl); (case kd => ktr_room); (case ku => ktr_units); intro t9 h9 tk9 F9 N9; (try dsimp only))
  k_with "call ref" => (k_here; k_dflt (refine' Mine.met_T ?hx ?x0 ?x1 ?k1 ?k2 ?k3 ?k4 ?k5 ?kK ?kXB ?kTB ?kZ ?kd ?ku ?_); (case hx => assumption); (case x0 => assumption); (case x1 => assumption); (case k1 => k_asm); (case k2 => k_asm); (case k3 => k_asm); (case k4 => k_asm); (case k5 => k_asm); (case kK => exact rfl); (case kXB => assumption); (case kTB => assumption); (case kZ => assumption); (case kd => ktr_room); (case ku => ktr_units); intro tup9 t9 h9 tk9 F9 N9; (try dsimp only))
  k_with "call ref" => (k_here; k_dflt (refine' Mine.due_V ?hx ?x0 ?x1 ?x2 ?k1 ?k2 ?k3 ?k4 ?k5 ?kK ?kd ?ku ?_); (case hx => assumption); (case x0 => assumption); (case x1 => assumption); (case x2 => assumption); (case k1 => k_asm); (case k2 => k_asm); (case k3 => k_asm); (case k4 => k_asm); (case k5 => k_asm); (case kK => exact rfl); (case kd => ktr_room); (case ku => ktr_units); intro t9 h9 tk9 F9 N9; (try dsimp only))
  k_with "call ref" => (k_here; k_dflt (refine' Mine.met_V ?hx ?x0 ?x1 ?x2 ?k1 ?k2 ?k3 ?k4 ?k5 ?kK ?kXB ?kTB ?kZ ?kd ?ku ?_); (case hx => assumption); (case x0 => assumption); (case x1 => assumption); (case x2 => assumption); (case k1 => k_asm); (case k2 => k_asm); (case k3 => k_asm); (case k4 => k_asm); (case k5 => k_asm); (case kK => exact rfl); (case kXB => assumption); (case kTB => assumption); (case kZ => assumption); (case kd => ktr_room); (case ku => ktr_units); intro tup9 t9 h9 tk9 F9 N9; (try dsimp only))
  k_with "call ref" => (k_here; k_dflt (refine' Mine.due_G ?hx ?x0 ?k1 ?k2 ?k3 ?k4 ?k5 ?kK ?kd ?ku ?_); (case hx => assumption); (case x0 => assumption); (case k1 => k_asm); (case k2 => k_asm); (case k3 => k_asm); (case k4 => k_asm); (case k5 => k_asm); (case kK => exact rfl); (case kd => ktr_room); (case ku => ktr_units); intro t9 h9 tk9 F9 N9; (try dsimp only))
  k_with "call ref" => (k_here; k_dflt (refine' Mine.met_G ?hx ?x0 ?hb ?k1 ?k2 ?k3 ?k4 ?k5 ?kK ?kXB ?kTB ?kZ ?kd ?ku ?_); (case hx => assumption); (case x0 => assumption); (case hb => first | exact News.get (by assumption) (by k_mem) | exact News.get (by assumption) (by assumption) | exact News.get (by assumption) (List.mem_cons_of_mem _ (by assumption)) | exact News.get (by assumption) (List.mem_cons_of_mem _ (List.mem_cons_of_mem _ (by assumption))) | exact News.get (by assumption) (List.mem_cons_of_mem _ (List.mem_cons_of_mem _ (List.mem_cons_of_mem _ (by assumption))))); (case k1 => k_asm); (case k2 => k_asm); (case k3 => k_asm); (case k4 => k_asm); (case k5 => k_asm); (case kK => exact rfl); (case kXB => assumption); (case kTB => assumption); (case kZ => assumption); (case kd => ktr_room); (case ku => ktr_units); intro tup9 b9 V9 t9 h9 tk9 e9 F9 N9; subst e9; (try dsimp only))
  k_with "call ref" => (k_here; k_dflt (refine' Mine.text_spec ?hp ?k1 ?k2 ?k3 ?k4 ?k5 ?kK ?kd ?ku ?_); (case hp => first | assumption | exact Mine.mom_fmod _); (case k1 => k_asm); (case k2 => k_asm); (case k3 => k_asm); (case k4 => k_asm); (case k5 => k_asm); (case kK => exact rfl); (case kd => ktr_room); (case ku => ktr_units); intro t9 h9 tk9 F9 N9; (try dsimp only))
  k_with "call ref" => (k_here; k_dflt (refine' Mine.dts_V ?hb ?hv ?k1 ?k2 ?k3 ?k4 ?k5 ?kK ?kd ?ku ?_); (case hb => first | exact News.get (by assumption) (by k_mem) | exact News.get (by assumption) (by assumption) | exact News.get (by assumption) (List.mem_cons_of_mem _ (by assumption)) | exact News.get (by assumption) (List.mem_cons_of_mem _ (List.mem_cons_of_mem _ (by assumption))) | exact News.get (by assumption) (List.mem_cons_of_mem _ (List.mem_cons_of_mem _ (List.mem_cons_of_mem _ (by assumption))))); (case hv => assumption); (case k1 => k_asm); (case k2 => k_asm); (case k3 => k_asm); (case k4 => k_asm); (case k5 => k_asm); (case kK => exact rfl); (case kd => ktr_room); (case ku => ktr_units); intro t9 h9 tk9 F9 N9; (try dsimp only))
  have hmv := hv.mom
  w_on
  (revert X; k_fill; intro X)
  have efd := fnd_of (P := w.params) (f := 118) (by k_is)
  unfold fb
  rw [efd] at hE ⊢
  clear efd
  w_strict (dsimp only [List.take, List.drop, forBody, stAt, List.getD, List.getElem?_cons_succ, List.getElem?_cons_zero, Option.getD_some] at hE ⊢; (try k_fold); k_steps; all_goals ((try dsimp only); first | (exfalso; exact Mine.ne_self (by assumption)) | (exfalso; exact Mine.bool_ne (by assumption)) | (refine' hret _ _ _ ?e0 ?e1 ?e2 ?e3 ?e4 ?e5 ?e6 ?e7 ?hF ?hN; (case hF => assumption); (case e0 => ((try dsimp only); repeat (first | with_reducible exact Mine.lk_eq | with_reducible refine (Mine.lk_n (by decide)).trans ?_))); (case e1 => ((try dsimp only); repeat (first | with_reducible exact Mine.lk_eq | with_reducible refine (Mine.lk_n (by decide)).trans ?_))); (case e2 => ((try dsimp only); repeat (first | with_reducible exact Mine.lk_eq | with_reducible refine (Mine.lk_n (by decide)).trans ?_))); (case e3 => ((try dsimp only); repeat (first | with_reducible exact Mine.lk_eq | with_reducible refine (Mine.lk_n (by decide)).trans ?_))); (case e4 => ((try dsimp only); repeat (first | with_reducible exact Mine.lk_eq | with_reducible refine (Mine.lk_n (by decide)).trans ?_))); (case e5 => ((try dsimp only); repeat (first | with_reducible exact Mine.lk_eq | with_reducible refine (Mine.lk_n (by decide)).trans ?_))); (case e6 => ((try dsimp only); repeat (first | with_reducible exact Mine.lk_eq | with_reducible refine (Mine.lk_n (by decide)).trans ?_))); (case e7 => ((try dsimp only); repeat (first | with_reducible exact Mine.lk_eq | with_reducible refine (Mine.lk_n (by decide)).trans ?_))); (case hN => first | assumption | exact Mine.news_tl (by assumption) | exact Mine.news_tl (Mine.news_tl (by assumption))))))
end Mine
end
section
open PySem PySem.W PyProof.Rows
set_option maxRecDepth 100000
set_option maxHeartbeats 4000000
namespace Mine
/-- the moment that is reached -/
noncomputable def IsR (R : Int) : Prop := Mom R
section
variable {prog : Program} {w : World} {A : Around} {E : Value → Shared → Prop} {s : Shared} {h₀ : Heap} {L a b : Addr} {m : PySem.Str → Option Value} {news : List (Addr × Obj)} {u v D R : Int} {Q : Value → Shared → Prop}
theorem add_R (hR : IsR R) (F : Fr h₀ L s.heap m) (N : News h₀ L s.heap news) (ha : s.heap.get? a = some (dtOf u 0)) (hb : s.heap.get? b = some (tdV D)) (hu : Mom u) (e : u + D = R)
    (k : ∀ c h', Fr h₀ L h' m → News h₀ L h' ((c, dtOf R 0) :: news) → Q (.ref c) { s with heap := h' }) :
    wpAny (model prog w) A (binaryOp .Add (.ref a) (.ref b)) Q E s := by
  subst e
  exact add_V F N ha hb hu hR fun c h' F' N' _ => k c h' F' N'
theorem callWith_rep {M : Model} {env : Env} {pos : Pos} {id : String} {first : List Value} {kws : List Keyword}
    (h : wpAny M A (evalAll ((backToKw pos (keywordEach kws env)).map (·.2))) (fun ks s₂ => wpAny M A (call (.builtin id) (first ++ []) (((backToKw pos (keywordEach kws env)).filterMap (·.1)).zip ks)) Q E s₂) E s)
    (hall : (backToKw pos (keywordEach kws env)).all (·.1.isSome) = true := by rfl) (hplain : ((backTo pos (starEach [] env)).any (·.1) || (backToKw pos (keywordEach kws env)).any (·.1.isNone)) = false := by rfl) :
    wpAny M A (callWith pos (.builtin id) first (backTo pos (starEach [] env)) (backToKw pos (keywordEach kws env))) Q E s :=
  callWith_of (P := fun _ => True) hplain (fun _ _ => ⟨.machine, .inr (.inl rfl), Looks.of_pure rfl⟩) (evalArgs_kw2_nil hall (wpAny_mono h (fun _ _ x => ⟨trivial, x⟩) fun _ _ x => x))
theorem micro_b (v : Int) : 0 ≤ v.fmod 1000000 ∧ v.fmod 1000000 ≤ 999999 := by
  rw [fmod_pos _ (by decide)]; omega
theorem ne_R (hU : A.units < cLine) (ha : s.heap.get? a = some (dtOf u 0)) (hb : s.heap.get? b = some (dtOf u 0)) (k : Q (.bool false) s) : wpAny (model prog w) A (compareOp .NotEq (.ref a) (.ref b)) Q E s :=
  ne_V hU ha hb k
end
theorem text_R {w : World} {mg mb : PySem.Str → Option Value} {loose : List PySem.Str} {mean : ExcName → Option Value} {news : List (Addr × Obj)} {dp un : Nat} {gd : Option (List Code)} {cn : PySem.Str} {cs : Scope} {a : Addr} {ccd : Value} {cl : List (PySem.Str × Addr)} {outer : List Env} {A₀ : Around} {base h₀ : Heap} {L : Addr} {m : PySem.Str → Option Value} {s : Shared} {Q E : Value → Shared → Prop} {v R : Int} {t : Tok} (hR : IsR R) (e : v = R)
    (B : Below A₀ base outer h₀) (F : Fr h₀ L s.heap m) (X : (hd.heap_39 w.params).In h₀) (N : News h₀ L s.heap news) (T : Top hd.view_39 loose mean mg mb h₀) (hkf : cs.kind = .function) (hroom : dp + 3 < recursionLimit) (hunits : un + 24 < cLine)
    (hret : CbRet h₀ L m news s Q (fun t => .str (lawText R) t)) :
    wpAny (model PySem.Challenge.rw_il0028_01.row.prog w) (ktrTop dp un gd cn cs L a ccd cl outer) (call (.ref 94) [.int v t]) Q E s := by
  subst e
  exact text_spec hR B F X N T hkf hroom hunits hret
end Mine
local macro_rules | `(tactic| passes_own) => `(tactic| assumption)
namespace Mine
theorem turn_3a {w : World} {mg mb : PySem.Str → Option Value} {loose : List PySem.Str} {mean : ExcName → Option Value} {dp un : Nat} {gd : Option (List Code)} {a : Addr} {ccd : Value} {A₀ : Around} {base h₀ : Heap} {L : Addr} {u : PySem.Str → Option Value} {s : Shared} {Q : Flow → Shared → Prop} {E : Value → Shared → Prop} {f l r db b ia : Addr} {io : Obj} {k bef mo R : Int} {tk0 tb tm : Tok} {arr : Array Value} {c : Nat} (hbef : Mom bef) (hmo : Mom mo) (hR : IsR R) (hcmp : bef ≤ mo) (eR : R = mo - bef)
    (F : Fr h₀ L s.heap (fun z => if z = PySem.Str.ofString "k" then some (.int k tk0) else if z = PySem.Str.ofString "first" then some (.ref f) else if z = PySem.Str.ofString "last" then some (.ref l) else if z = PySem.Str.ofString "row" then some (.ref r) else if z = PySem.Str.ofString "before" then some (.int bef tb) else if z = PySem.Str.ofString "date_before" then some (.ref db) else if z = PySem.Str.ofString "moment" then some (.int mo tm) else if z = PySem.Str.ofString "date" then some (.ref b) else u z))
    (B : Below A₀ base [] h₀) (X : (hd.heap_39 w.params).In h₀) (N : News h₀ L s.heap [(b, dtOf mo 0), (db, dtOf bef 0), (r, W.listOf arr c), (l, dtOf 315537897599 0), (f, dtOf 0 0), (ia, io)]) (T : Top hd.view_39 loose mean mg mb h₀) (XB : (hd.heap_39 w.params).In base) (TB : Top hd.view_39 loose mean mg mb base) (Z : h₀.get? 49 = some zeroObj) (hroom : dp + 6 < recursionLimit) (hunits : un + 48 < cLine)
    (hE : PassesOwn (model PySem.Challenge.rw_il0028_01.row.prog w) (ktrTop dp un gd (fnd w.params 118).qualname (fnd w.params 118).scope L a ccd [] []) (envX (fnd w.params 118).qualname (fnd w.params 118).scope L a ccd []) E)
    (hret : ∀ (rc : Addr) (tt : Tok) (m' : PySem.Str → Option Value) (h' : Heap) (tk' : Nat), m' (PySem.Str.ofString "k") = some (.int k tk0) → m' (PySem.Str.ofString "first") = some (.ref f) → m' (PySem.Str.ofString "last") = some (.ref l) → m' (PySem.Str.ofString "row") = some (.ref r) → m' (PySem.Str.ofString "moment") = some (.int mo tm) → m' (PySem.Str.ofString "date") = some (.ref b) → m' (PySem.Str.ofString "reached") = some (.ref rc) → m' (PySem.Str.ofString "text") = some (.str (lawText R) tt) → Fr h₀ L h' m' → News h₀ L h' [(rc, dtOf R 0), (b, dtOf mo 0), (r, W.listOf arr c), (l, dtOf 315537897599 0), (f, dtOf 0 0), (ia, io)] → Q .next { s with heap := h', toks := tk' }) :
    wpAny (model PySem.Challenge.rw_il0028_01.row.prog w) (ktrTop dp un gd (fnd w.params 118).qualname (fnd w.params 118).scope L a ccd [] []) (execs (((forBody (stAt (fb w.params 118) 5)).drop 9).take 2) (envX (fnd w.params 118).qualname (fnd w.params 118).scope L a ccd [])) Q E s := by
  k_with_none
  k_with "eval Tuple" => (k_here; dsimp only; (try k_gentoks))
  k_with "eval Call" => (k_here; dsimp only; (try k_gentoks))
  k_with "eval Attribute" => (k_here; dsimp only; (try k_gentoks))
  k_with "exec Assign" => (k_here; dsimp only; (try k_gentoks))
  k_with "exec If" => (k_here; dsimp only; (try k_gentoks))
  k_with "exec For" => (k_here; dsimp only; (try k_gentoks))
  k_with "execs cons" => (k_here; dsimp only; (try k_gentoks))
  k_with "execs nil" => (k_here; dsimp only; (try k_gentoks))
  k_with "pyIter ref" => (k_here; dsimp only; (try k_gentoks))
  k_with "newTuple" => (k_here; dsimp only; (try k_gentoks))
  k_with "assign Tuple" => (k_here; dsimp only; (try k_gentoks))
  k_with "ItemsRest" => (dsimp only)
  k_with "UnrPostW" => (dsimp only)
  k_with "UnrEndW" => (dsimp only)
  k_with "binaryOp Sub ref ref" => (k_here; k_dflt (refine' Mine.sub_V ?kX ?kZ ?kF ?kN ?ka ?kb ?ku ?kv ?_; (case kX => k_asm); (case kZ => assumption); (case kF => k_asm); (case kN => k_asm); (case ka => first | exact News.get (by assumption) (by k_mem) | exact News.get (by assumption) (by assumption) | exact News.get (by assumption) (List.mem_cons_of_mem _ (by assumption)) | exact News.get (by assumption) (List.mem_cons_of_mem _ (List.mem_cons_of_mem _ (by assumption))) | exact News.get (by assumption) (List.mem_cons_of_mem _ (List.mem_cons_of_mem _ (List.mem_cons_of_mem _ (by assumption))))); (case kb => first | exact News.get (by assumption) (by k_mem) | exact News.get (by assumption) (by assumption) | exact News.get (by assumption) (List.mem_cons_of_mem _ (by assumption)) | exact News.get (by assumption) (List.mem_cons_of_mem _ (List.mem_cons_of_mem _ (by assumption))) | exact News.get (by assumption) (List.mem_cons_of_mem _ (List.mem_cons_of_mem _ (List.mem_cons_of_mem _ (by assumption))))); (case ku => assumption); (case kv => assumption)); intro c9 h9 F9 N9 g9 q9; (try dsimp only))
  k_with "binaryOp Add ref ref" => (k_here; k_dflt (refine' Mine.add_R ?kR ?kF ?kN ?ka ?kb ?ku ?ke ?_; (case kR => assumption); (case kF => k_asm); (case kN => k_asm); (case ka => first | exact News.get (by assumption) (by k_mem) | exact News.get (by assumption) (by assumption) | exact News.get (by assumption) (List.mem_cons_of_mem _ (by assumption)) | exact News.get (by assumption) (List.mem_cons_of_mem _ (List.mem_cons_of_mem _ (by assumption))) | exact News.get (by assumption) (List.mem_cons_of_mem _ (List.mem_cons_of_mem _ (List.mem_cons_of_mem _ (by assumption))))); (case kb => assumption); (case ku => assumption); (case ke => omega)); intro c9 h9 F9 N9; (try dsimp only))
  k_with "call ref" => (k_here; k_dflt (refine' Mine.text_R ?hR ?he ?k1 ?k2 ?k3 ?k4 ?k5 ?kK ?kd ?ku ?_); (case hR => assumption); (case he => omega); (case k1 => k_asm); (case k2 => k_asm); (case k3 => k_asm); (case k4 => k_asm); (case k5 => k_asm); (case kK => exact rfl); (case kd => ktr_room); (case ku => ktr_units); intro t9 h9 tk9 F9 N9; (try dsimp only))
  k_with "call ref" => (k_here; k_dflt (refine' Mine.dts_V ?hb ?hv ?k1 ?k2 ?k3 ?k4 ?k5 ?kK ?kd ?ku ?_); (case hb => first | exact News.get (by assumption) (by k_mem) | exact News.get (by assumption) (by assumption) | exact News.get (by assumption) (List.mem_cons_of_mem _ (by assumption)) | exact News.get (by assumption) (List.mem_cons_of_mem _ (List.mem_cons_of_mem _ (by assumption))) | exact News.get (by assumption) (List.mem_cons_of_mem _ (List.mem_cons_of_mem _ (List.mem_cons_of_mem _ (by assumption))))); (case hv => assumption); (case k1 => k_asm); (case k2 => k_asm); (case k3 => k_asm); (case k4 => k_asm); (case k5 => k_asm); (case kK => exact rfl); (case kd => ktr_room); (case ku => ktr_units); intro t9 h9 tk9 F9 N9; (try dsimp only))
  k_with "call ref" => (k_here; k_dflt (refine' Mine.dfs_G ?hx ?hv ?k1 ?k2 ?k3 ?k4 ?k5 ?kK ?kd ?ku ?_); (case hx => exact Nat.le_trans (Nat.le_of_eq (Mine.law_length (by assumption))) (by decide)); (case hv => exact Mine.tells_law (by assumption)); (case k1 => k_asm); (case k2 => k_asm); (case k3 => k_asm); (case k4 => k_asm); (case k5 => k_asm); (case kK => exact rfl); (case kd => ktr_room); (case ku => ktr_units); intro b9 h9 tk9 F9 N9; (try dsimp only))
  k_with "subscriptTail" => (k_here; k_dflt (refine' Mine.row_item ?k1 ?k2 ?k3 ?k4 ?k5 ?_ ?k6; (case k1 => k_asm); (case k2 => k_mem); (case k3 => assumption); (case k4 => omega); (case k5 => omega); (case k6 => with_unfolding_all rfl)); intro v9 t9 lo9 hi9; (try dsimp only))
  k_with "getMethod ref" => (k_here; k_dflt (refine' Mine.gm_rep ?k0 ?k1 ?_; (case k0 => exact rfl); (case k1 => first | exact News.get (by assumption) (by k_mem) | exact News.get (by assumption) (by assumption) | exact News.get (by assumption) (List.mem_cons_of_mem _ (by assumption)) | exact News.get (by assumption) (List.mem_cons_of_mem _ (List.mem_cons_of_mem _ (by assumption))) | exact News.get (by assumption) (List.mem_cons_of_mem _ (List.mem_cons_of_mem _ (List.mem_cons_of_mem _ (by assumption)))))); (try dsimp only))
  k_with "call builtin:datetime.datetime.replace" => (k_here; k_dflt (refine' Mine.rep_V ?kF ?kN ?ka ?ku ?k0 ?k1 ?_; (case kF => k_asm); (case kN => k_asm); (case ka => first | exact News.get (by assumption) (by k_mem) | exact News.get (by assumption) (by assumption) | exact News.get (by assumption) (List.mem_cons_of_mem _ (by assumption)) | exact News.get (by assumption) (List.mem_cons_of_mem _ (List.mem_cons_of_mem _ (by assumption))) | exact News.get (by assumption) (List.mem_cons_of_mem _ (List.mem_cons_of_mem _ (List.mem_cons_of_mem _ (by assumption))))); (case ku => assumption); (case k0 => first | decide | exact (Mine.micro_b _).1); (case k1 => first | decide | exact (Mine.micro_b _).2)); intro c9 h9 F9 N9 l9; (try dsimp only))
  k_with "compareOp NotEq ref ref" => (k_here; k_dflt (refine' Mine.ne_R ?kU ?ka ?kb ?_; (case kU => ktr_units); (case ka => first | exact News.get (by assumption) (by k_mem) | exact News.get (by assumption) (by assumption) | exact News.get (by assumption) (List.mem_cons_of_mem _ (by assumption)) | exact News.get (by assumption) (List.mem_cons_of_mem _ (List.mem_cons_of_mem _ (by assumption))) | exact News.get (by assumption) (List.mem_cons_of_mem _ (List.mem_cons_of_mem _ (List.mem_cons_of_mem _ (by assumption))))); (case kb => first | exact News.get (by assumption) (by k_mem) | exact News.get (by assumption) (by assumption) | exact News.get (by assumption) (List.mem_cons_of_mem _ (by assumption)) | exact News.get (by assumption) (List.mem_cons_of_mem _ (List.mem_cons_of_mem _ (by assumption))) | exact News.get (by assumption) (List.mem_cons_of_mem _ (List.mem_cons_of_mem _ (List.mem_cons_of_mem _ (by assumption)))))); (try dsimp only))
  k_with "callWith" => (k_here; (with_reducible show wpAny _ _ (callWith _ (Value.builtin _) [Value.ref _] _ (backToKw _ (keywordEach (_ :: _) _))) _ _ _); k_dflt (refine' Mine.callWith_rep ?_))
  have hm0 : Mom 0 := ⟨by decide, by decide⟩
  have hm1 : Mom 315537897599 := ⟨by decide, by decide⟩
  have hmR : Mom R := hR
  w_on
  (revert X; k_fill; intro X)
  have efd := fnd_of (P := w.params) (f := 118) (by k_is)
  unfold fb
  rw [efd] at hE ⊢
  clear efd
  w_strict (dsimp only [List.drop, List.take, forBody, stAt, List.getD, List.getElem?_cons_succ, List.getElem?_cons_zero, Option.getD_some] at hE ⊢; (try k_fold); k_steps; all_goals ((try dsimp only); first | (exfalso; exact Mine.bool_ne (by assumption)) | (refine' hret _ _ _ _ _ ?e0 ?e1 ?e2 ?e3 ?e4 ?e5 ?e6 ?e7 ?hF ?hN; (case hF => assumption); (case e0 => ((try dsimp only); repeat (first | with_reducible exact Mine.lk_eq | with_reducible refine (Mine.lk_n (by decide)).trans ?_))); (case e1 => ((try dsimp only); repeat (first | with_reducible exact Mine.lk_eq | with_reducible refine (Mine.lk_n (by decide)).trans ?_))); (case e2 => ((try dsimp only); repeat (first | with_reducible exact Mine.lk_eq | with_reducible refine (Mine.lk_n (by decide)).trans ?_))); (case e3 => ((try dsimp only); repeat (first | with_reducible exact Mine.lk_eq | with_reducible refine (Mine.lk_n (by decide)).trans ?_))); (case e4 => ((try dsimp only); repeat (first | with_reducible exact Mine.lk_eq | with_reducible refine (Mine.lk_n (by decide)).trans ?_))); (case e5 => ((try dsimp only); repeat (first | with_reducible exact Mine.lk_eq | with_reducible refine (Mine.lk_n (by decide)).trans ?_))); (case e6 => ((try dsimp only); repeat (first | with_reducible exact Mine.lk_eq | with_reducible refine (Mine.lk_n (by decide)).trans ?_))); (case e7 => ((try dsimp only); repeat (first | with_reducible exact Mine.lk_eq | with_reducible refine (Mine.lk_n (by decide)).trans ?_))); (case hN => refine' cb_drop ?cbN ?cbS; (case cbN => assumption); (case cbS => kcj_all)))))
end Mine
namespace Mine
theorem turn_3b {w : World} {mg mb : PySem.Str → Option Value} {loose : List PySem.Str} {mean : ExcName → Option Value} {dp un : Nat} {gd : Option (List Code)} {a : Addr} {ccd : Value} {A₀ : Around} {base h₀ : Heap} {L : Addr} {u : PySem.Str → Option Value} {s : Shared} {Q : Flow → Shared → Prop} {E : Value → Shared → Prop} {f l r db b ia : Addr} {io : Obj} {k bef mo R : Int} {tk0 tb tm : Tok} {arr : Array Value} {c : Nat} (hbef : Mom bef) (hmo : Mom mo) (hR : IsR R) (hcmp : mo < bef) (eR : R = 315537897599 + mo - bef)
    (F : Fr h₀ L s.heap (fun z => if z = PySem.Str.ofString "k" then some (.int k tk0) else if z = PySem.Str.ofString "first" then some (.ref f) else if z = PySem.Str.ofString "last" then some (.ref l) else if z = PySem.Str.ofString "row" then some (.ref r) else if z = PySem.Str.ofString "before" then some (.int bef tb) else if z = PySem.Str.ofString "date_before" then some (.ref db) else if z = PySem.Str.ofString "moment" then some (.int mo tm) else if z = PySem.Str.ofString "date" then some (.ref b) else u z))
    (B : Below A₀ base [] h₀) (X : (hd.heap_39 w.params).In h₀) (N : News h₀ L s.heap [(b, dtOf mo 0), (db, dtOf bef 0), (r, W.listOf arr c), (l, dtOf 315537897599 0), (f, dtOf 0 0), (ia, io)]) (T : Top hd.view_39 loose mean mg mb h₀) (XB : (hd.heap_39 w.params).In base) (TB : Top hd.view_39 loose mean mg mb base) (Z : h₀.get? 49 = some zeroObj) (hroom : dp + 6 < recursionLimit) (hunits : un + 48 < cLine)
    (hE : PassesOwn (model PySem.Challenge.rw_il0028_01.row.prog w) (ktrTop dp un gd (fnd w.params 118).qualname (fnd w.params 118).scope L a ccd [] []) (envX (fnd w.params 118).qualname (fnd w.params 118).scope L a ccd []) E)
    (hret : ∀ (rc : Addr) (tt : Tok) (m' : PySem.Str → Option Value) (h' : Heap) (tk' : Nat), m' (PySem.Str.ofString "k") = some (.int k tk0) → m' (PySem.Str.ofString "first") = some (.ref f) → m' (PySem.Str.ofString "last") = some (.ref l) → m' (PySem.Str.ofString "row") = some (.ref r) → m' (PySem.Str.ofString "moment") = some (.int mo tm) → m' (PySem.Str.ofString "date") = some (.ref b) → m' (PySem.Str.ofString "reached") = some (.ref rc) → m' (PySem.Str.ofString "text") = some (.str (lawText R) tt) → Fr h₀ L h' m' → News h₀ L h' [(rc, dtOf R 0), (b, dtOf mo 0), (r, W.listOf arr c), (l, dtOf 315537897599 0), (f, dtOf 0 0), (ia, io)] → Q .next { s with heap := h', toks := tk' }) :
    wpAny (model PySem.Challenge.rw_il0028_01.row.prog w) (ktrTop dp un gd (fnd w.params 118).qualname (fnd w.params 118).scope L a ccd [] []) (execs (((forBody (stAt (fb w.params 118) 5)).drop 9).take 2) (envX (fnd w.params 118).qualname (fnd w.params 118).scope L a ccd [])) Q E s := by
  k_with_none
  k_with "eval Tuple" => (k_here; dsimp only; (try k_gentoks))
  k_with "eval Call" => (k_here; dsimp only; (try k_gentoks))
  k_with "eval Attribute" => (k_here; dsimp only; (try k_gentoks))
  k_with "exec Assign" => (k_here; dsimp only; (try k_gentoks))
  k_with "exec If" => (k_here; dsimp only; (try k_gentoks))
  k_with "exec For" => (k_here; dsimp only; (try k_gentoks))
  k_with "execs cons" => (k_here; dsimp only; (try k_gentoks))
  k_with "execs nil" => (k_here; dsimp only; (try k_gentoks))
  k_with "pyIter ref" => (k_here; dsimp only; (try k_gentoks))
  k_with "newTuple" => (k_here; dsimp only; (try k_gentoks))
  k_with "assign Tuple" => (k_here; dsimp only; (try k_gentoks))
  k_with "ItemsRest" => (dsimp only)
  k_with "UnrPostW" => (dsimp only)
  k_with "UnrEndW" => (dsimp only)
  k_with "binaryOp Sub ref ref" => (k_here; k_dflt (refine' Mine.sub_V ?kX ?kZ ?kF ?kN ?ka ?kb ?ku ?kv ?_; (case kX => k_asm); (case kZ => assumption); (case kF => k_asm); (case kN => k_asm); (case ka => first | exact News.get (by assumption) (by k_mem) | exact News.get (by assumption) (by assumption) | exact News.get (by assumption) (List.mem_cons_of_mem _ (by assumption)) | exact News.get (by assumption) (List.mem_cons_of_mem _ (List.mem_cons_of_mem _ (by assumption))) | exact News.get (by assumption) (List.mem_cons_of_mem _ (List.mem_cons_of_mem _ (List.mem_cons_of_mem _ (by assumption))))); (case kb => first | exact News.get (by assumption) (by k_mem) | exact News.get (by assumption) (by assumption) | exact News.get (by assumption) (List.mem_cons_of_mem _ (by assumption)) | exact News.get (by assumption) (List.mem_cons_of_mem _ (List.mem_cons_of_mem _ (by assumption))) | exact News.get (by assumption) (List.mem_cons_of_mem _ (List.mem_cons_of_mem _ (List.mem_cons_of_mem _ (by assumption))))); (case ku => assumption); (case kv => assumption)); intro c9 h9 F9 N9 g9 q9; (try dsimp only))
  k_with "binaryOp Add ref ref" => (k_here; k_dflt (refine' Mine.add_R ?kR ?kF ?kN ?ka ?kb ?ku ?ke ?_; (case kR => assumption); (case kF => k_asm); (case kN => k_asm); (case ka => first | exact News.get (by assumption) (by k_mem) | exact News.get (by assumption) (by assumption) | exact News.get (by assumption) (List.mem_cons_of_mem _ (by assumption)) | exact News.get (by assumption) (List.mem_cons_of_mem _ (List.mem_cons_of_mem _ (by assumption))) | exact News.get (by assumption) (List.mem_cons_of_mem _ (List.mem_cons_of_mem _ (List.mem_cons_of_mem _ (by assumption))))); (case kb => assumption); (case ku => assumption); (case ke => omega)); intro c9 h9 F9 N9; (try dsimp only))
  k_with "call ref" => (k_here; k_dflt (refine' Mine.text_R ?hR ?he ?k1 ?k2 ?k3 ?k4 ?k5 ?kK ?kd ?ku ?_); (case hR => assumption); (case he => omega); (case k1 => k_asm); (case k2 => k_asm); (case k3 => k_asm); (case k4 => k_asm); (case k5 => k_asm); (case kK => exact rfl); (case kd => ktr_room); (case ku => ktr_units); intro t9 h9 tk9 F9 N9; (try dsimp only))
  k_with "call ref" => (k_here; k_dflt (refine' Mine.dts_V ?hb ?hv ?k1 ?k2 ?k3 ?k4 ?k5 ?kK ?kd ?ku ?_); (case hb => first | exact News.get (by assumption) (by k_mem) | exact News.get (by assumption) (by assumption) | exact News.get (by assumption) (List.mem_cons_of_mem _ (by assumption)) | exact News.get (by assumption) (List.mem_cons_of_mem _ (List.mem_cons_of_mem _ (by assumption))) | exact News.get (by assumption) (List.mem_cons_of_mem _ (List.mem_cons_of_mem _ (List.mem_cons_of_mem _ (by assumption))))); (case hv => assumption); (case k1 => k_asm); (case k2 => k_asm); (case k3 => k_asm); (case k4 => k_asm); (case k5 => k_asm); (case kK => exact rfl); (case kd => ktr_room); (case ku => ktr_units); intro t9 h9 tk9 F9 N9; (try dsimp only))
  k_with "call ref" => (k_here; k_dflt (refine' Mine.dfs_G ?hx ?hv ?k1 ?k2 ?k3 ?k4 ?k5 ?kK ?kd ?ku ?_); (case hx => exact Nat.le_trans (Nat.le_of_eq (Mine.law_length (by assumption))) (by decide)); (case hv => exact Mine.tells_law (by assumption)); (case k1 => k_asm); (case k2 => k_asm); (case k3 => k_asm); (case k4 => k_asm); (case k5 => k_asm); (case kK => exact rfl); (case kd => ktr_room); (case ku => ktr_units); intro b9 h9 tk9 F9 N9; (try dsimp only))
  k_with "subscriptTail" => (k_here; k_dflt (refine' Mine.row_item ?k1 ?k2 ?k3 ?k4 ?k5 ?_ ?k6; (case k1 => k_asm); (case k2 => k_mem); (case k3 => assumption); (case k4 => omega); (case k5 => omega); (case k6 => with_unfolding_all rfl)); intro v9 t9 lo9 hi9; (try dsimp only))
  k_with "getMethod ref" => (k_here; k_dflt (refine' Mine.gm_rep ?k0 ?k1 ?_; (case k0 => exact rfl); (case k1 => first | exact News.get (by assumption) (by k_mem) | exact News.get (by assumption) (by assumption) | exact News.get (by assumption) (List.mem_cons_of_mem _ (by assumption)) | exact News.get (by assumption) (List.mem_cons_of_mem _ (List.mem_cons_of_mem _ (by assumption))) | exact News.get (by assumption) (List.mem_cons_of_mem _ (List.mem_cons_of_mem _ (List.mem_cons_of_mem _ (by assumption)))))); (try dsimp only))
  k_with "call builtin:datetime.datetime.replace" => (k_here; k_dflt (refine' Mine.rep_V ?kF ?kN ?ka ?ku ?k0 ?k1 ?_; (case kF => k_asm); (case kN => k_asm); (case ka => first | exact News.get (by assumption) (by k_mem) | exact News.get (by assumption) (by assumption) | exact News.get (by assumption) (List.mem_cons_of_mem _ (by assumption)) | exact News.get (by assumption) (List.mem_cons_of_mem _ (List.mem_cons_of_mem _ (by assumption))) | exact News.get (by assumption) (List.mem_cons_of_mem _ (List.mem_cons_of_mem _ (List.mem_cons_of_mem _ (by assumption))))); (case ku => assumption); (case k0 => first | decide | exact (Mine.micro_b _).1); (case k1 => first | decide | exact (Mine.micro_b _).2)); intro c9 h9 F9 N9 l9; (try dsimp only))
  k_with "compareOp NotEq ref ref" => (k_here; k_dflt (refine' Mine.ne_R ?kU ?ka ?kb ?_; (case kU => ktr_units); (case ka => first | exact News.get (by assumption) (by k_mem) | exact News.get (by assumption) (by assumption) | exact News.get (by assumption) (List.mem_cons_of_mem _ (by assumption)) | exact News.get (by assumption) (List.mem_cons_of_mem _ (List.mem_cons_of_mem _ (by assumption))) | exact News.get (by assumption) (List.mem_cons_of_mem _ (List.mem_cons_of_mem _ (List.mem_cons_of_mem _ (by assumption))))); (case kb => first | exact News.get (by assumption) (by k_mem) | exact News.get (by assumption) (by assumption) | exact News.get (by assumption) (List.mem_cons_of_mem _ (by assumption)) | exact News.get (by assumption) (List.mem_cons_of_mem _ (List.mem_cons_of_mem _ (by assumption))) | exact News.get (by assumption) (List.mem_cons_of_mem _ (List.mem_cons_of_mem _ (List.mem_cons_of_mem _ (by assumption)))))); (try dsimp only))
  k_with "callWith" => (k_here; (with_reducible show wpAny _ _ (callWith _ (Value.builtin _) [Value.ref _] _ (backToKw _ (keywordEach (_ :: _) _))) _ _ _); k_dflt (refine' Mine.callWith_rep ?_))
  have hm0 : Mom 0 := ⟨by decide, by decide⟩
  have hm1 : Mom 315537897599 := ⟨by decide, by decide⟩
  have hmR : Mom R := hR
  w_on
  (revert X; k_fill; intro X)
  have efd := fnd_of (P := w.params) (f := 118) (by k_is)
  unfold fb
  rw [efd] at hE ⊢
  clear efd
  w_strict (dsimp only [List.drop, List.take, forBody, stAt, List.getD, List.getElem?_cons_succ, List.getElem?_cons_zero, Option.getD_some] at hE ⊢; (try k_fold); k_steps; all_goals ((try dsimp only); first | (exfalso; exact Mine.bool_ne (by assumption)) | (refine' hret _ _ _ _ _ ?e0 ?e1 ?e2 ?e3 ?e4 ?e5 ?e6 ?e7 ?hF ?hN; (case hF => assumption); (case e0 => ((try dsimp only); repeat (first | with_reducible exact Mine.lk_eq | with_reducible refine (Mine.lk_n (by decide)).trans ?_))); (case e1 => ((try dsimp only); repeat (first | with_reducible exact Mine.lk_eq | with_reducible refine (Mine.lk_n (by decide)).trans ?_))); (case e2 => ((try dsimp only); repeat (first | with_reducible exact Mine.lk_eq | with_reducible refine (Mine.lk_n (by decide)).trans ?_))); (case e3 => ((try dsimp only); repeat (first | with_reducible exact Mine.lk_eq | with_reducible refine (Mine.lk_n (by decide)).trans ?_))); (case e4 => ((try dsimp only); repeat (first | with_reducible exact Mine.lk_eq | with_reducible refine (Mine.lk_n (by decide)).trans ?_))); (case e5 => ((try dsimp only); repeat (first | with_reducible exact Mine.lk_eq | with_reducible refine (Mine.lk_n (by decide)).trans ?_))); (case e6 => ((try dsimp only); repeat (first | with_reducible exact Mine.lk_eq | with_reducible refine (Mine.lk_n (by decide)).trans ?_))); (case e7 => ((try dsimp only); repeat (first | with_reducible exact Mine.lk_eq | with_reducible refine (Mine.lk_n (by decide)).trans ?_))); (case hN => refine' cb_drop ?cbN ?cbS; (case cbN => assumption); (case cbS => kcj_all)))))
end Mine
namespace Mine
theorem turn_3c {w : World} {mg mb : PySem.Str → Option Value} {loose : List PySem.Str} {mean : ExcName → Option Value} {dp un : Nat} {gd : Option (List Code)} {a : Addr} {ccd : Value} {A₀ : Around} {base h₀ : Heap} {L : Addr} {u : PySem.Str → Option Value} {s : Shared} {Q : Flow → Shared → Prop} {E : Value → Shared → Prop} {f l r b ia rc : Addr} {io : Obj} {k mo R : Int} {tk0 tm tt : Tok} {arr : Array Value} {c : Nat} (hrow : RowOk arr) (hk0 : 0 ≤ k) (hk1 : k < (arr.size : Int)) (hR : IsR R)
    (F : Fr h₀ L s.heap (fun z => if z = PySem.Str.ofString "k" then some (.int k tk0) else if z = PySem.Str.ofString "first" then some (.ref f) else if z = PySem.Str.ofString "last" then some (.ref l) else if z = PySem.Str.ofString "row" then some (.ref r) else if z = PySem.Str.ofString "moment" then some (.int mo tm) else if z = PySem.Str.ofString "date" then some (.ref b) else if z = PySem.Str.ofString "reached" then some (.ref rc) else if z = PySem.Str.ofString "text" then some (.str (lawText R) tt) else u z))
    (B : Below A₀ base [] h₀) (X : (hd.heap_39 w.params).In h₀) (N : News h₀ L s.heap [(rc, dtOf R 0), (b, dtOf mo 0), (r, W.listOf arr c), (l, dtOf 315537897599 0), (f, dtOf 0 0), (ia, io)]) (T : Top hd.view_39 loose mean mg mb h₀) (XB : (hd.heap_39 w.params).In base) (TB : Top hd.view_39 loose mean mg mb base) (Z : h₀.get? 49 = some zeroObj) (hroom : dp + 6 < recursionLimit) (hunits : un + 48 < cLine)
    (hE : PassesOwn (model PySem.Challenge.rw_il0028_01.row.prog w) (ktrTop dp un gd (fnd w.params 118).qualname (fnd w.params 118).scope L a ccd [] []) (envX (fnd w.params 118).qualname (fnd w.params 118).scope L a ccd []) E)
    (hret : ∀ (m' : PySem.Str → Option Value) (h' : Heap) (tk' : Nat), m' (PySem.Str.ofString "first") = some (.ref f) → m' (PySem.Str.ofString "last") = some (.ref l) → m' (PySem.Str.ofString "row") = some (.ref r) → m' (PySem.Str.ofString "before") = some (.int mo tm) → m' (PySem.Str.ofString "date_before") = some (.ref b) → Fr h₀ L h' m' → News h₀ L h' [(b, dtOf mo 0), (r, W.listOf arr c), (l, dtOf 315537897599 0), (f, dtOf 0 0), (ia, io)] → Q .next { s with heap := h', toks := tk' }) :
    wpAny (model PySem.Challenge.rw_il0028_01.row.prog w) (ktrTop dp un gd (fnd w.params 118).qualname (fnd w.params 118).scope L a ccd [] []) (execs ((forBody (stAt (fb w.params 118) 5)).drop 11) (envX (fnd w.params 118).qualname (fnd w.params 118).scope L a ccd [])) Q E s := by
  k_with_none
  k_with "eval Tuple" => (k_here; dsimp only; (try k_gentoks))
  k_with "eval Call" => (k_here; dsimp only; (try k_gentoks))
  k_with "eval Attribute" => (k_here; dsimp only; (try k_gentoks))
  k_with "exec Assign" => (k_here; dsimp only; (try k_gentoks))
  k_with "exec If" => (k_here; dsimp only; (try k_gentoks))
  k_with "exec For" => (k_here; dsimp only; (try k_gentoks))
  k_with "execs cons" => (k_here; dsimp only; (try k_gentoks))
  k_with "execs nil" => (k_here; dsimp only; (try k_gentoks))
  k_with "pyIter ref" => (k_here; dsimp only; (try k_gentoks))
  k_with "newTuple" => (k_here; dsimp only; (try k_gentoks))
  k_with "assign Tuple" => (k_here; dsimp only; (try k_gentoks))
  k_with "ItemsRest" => (dsimp only)
  k_with "UnrPostW" => (dsimp only)
  k_with "UnrEndW" => (dsimp only)
  k_with "binaryOp Sub ref ref" => (k_here; k_dflt (refine' Mine.sub_V ?kX ?kZ ?kF ?kN ?ka ?kb ?ku ?kv ?_; (case kX => k_asm); (case kZ => assumption); (case kF => k_asm); (case kN => k_asm); (case ka => first | exact News.get (by assumption) (by k_mem) | exact News.get (by assumption) (by assumption) | exact News.get (by assumption) (List.mem_cons_of_mem _ (by assumption)) | exact News.get (by assumption) (List.mem_cons_of_mem _ (List.mem_cons_of_mem _ (by assumption))) | exact News.get (by assumption) (List.mem_cons_of_mem _ (List.mem_cons_of_mem _ (List.mem_cons_of_mem _ (by assumption))))); (case kb => first | exact News.get (by assumption) (by k_mem) | exact News.get (by assumption) (by assumption) | exact News.get (by assumption) (List.mem_cons_of_mem _ (by assumption)) | exact News.get (by assumption) (List.mem_cons_of_mem _ (List.mem_cons_of_mem _ (by assumption))) | exact News.get (by assumption) (List.mem_cons_of_mem _ (List.mem_cons_of_mem _ (List.mem_cons_of_mem _ (by assumption))))); (case ku => assumption); (case kv => assumption)); intro c9 h9 F9 N9 g9 q9; (try dsimp only))
  k_with "binaryOp Add ref ref" => (k_here; k_dflt (refine' Mine.add_R ?kR ?kF ?kN ?ka ?kb ?ku ?ke ?_; (case kR => assumption); (case kF => k_asm); (case kN => k_asm); (case ka => first | exact News.get (by assumption) (by k_mem) | exact News.get (by assumption) (by assumption) | exact News.get (by assumption) (List.mem_cons_of_mem _ (by assumption)) | exact News.get (by assumption) (List.mem_cons_of_mem _ (List.mem_cons_of_mem _ (by assumption))) | exact News.get (by assumption) (List.mem_cons_of_mem _ (List.mem_cons_of_mem _ (List.mem_cons_of_mem _ (by assumption))))); (case kb => assumption); (case ku => assumption); (case ke => omega)); intro c9 h9 F9 N9; (try dsimp only))
  k_with "call ref" => (k_here; k_dflt (refine' Mine.text_R ?hR ?he ?k1 ?k2 ?k3 ?k4 ?k5 ?kK ?kd ?ku ?_); (case hR => assumption); (case he => omega); (case k1 => k_asm); (case k2 => k_asm); (case k3 => k_asm); (case k4 => k_asm); (case k5 => k_asm); (case kK => exact rfl); (case kd => ktr_room); (case ku => ktr_units); intro t9 h9 tk9 F9 N9; (try dsimp only))
  k_with "call ref" => (k_here; k_dflt (refine' Mine.dts_V ?hb ?hv ?k1 ?k2 ?k3 ?k4 ?k5 ?kK ?kd ?ku ?_); (case hb => first | exact News.get (by assumption) (by k_mem) | exact News.get (by assumption) (by assumption) | exact News.get (by assumption) (List.mem_cons_of_mem _ (by assumption)) | exact News.get (by assumption) (List.mem_cons_of_mem _ (List.mem_cons_of_mem _ (by assumption))) | exact News.get (by assumption) (List.mem_cons_of_mem _ (List.mem_cons_of_mem _ (List.mem_cons_of_mem _ (by assumption))))); (case hv => assumption); (case k1 => k_asm); (case k2 => k_asm); (case k3 => k_asm); (case k4 => k_asm); (case k5 => k_asm); (case kK => exact rfl); (case kd => ktr_room); (case ku => ktr_units); intro t9 h9 tk9 F9 N9; (try dsimp only))
  k_with "call ref" => (k_here; k_dflt (refine' Mine.dfs_G ?hx ?hv ?k1 ?k2 ?k3 ?k4 ?k5 ?kK ?kd ?ku ?_); (case hx => exact Nat.le_trans (Nat.le_of_eq (Mine.law_length (by assumption))) (by decide)); (case hv => exact Mine.tells_law (by assumption)); (case k1 => k_asm); (case k2 => k_asm); (case k3 => k_asm); (case k4 => k_asm); (case k5 => k_asm); (case kK => exact rfl); (case kd => ktr_room); (case ku => ktr_units); intro b9 h9 tk9 F9 N9; (try dsimp only))
  k_with "subscriptTail" => (k_here; k_dflt (refine' Mine.row_item ?k1 ?k2 ?k3 ?k4 ?k5 ?_ ?k6; (case k1 => k_asm); (case k2 => k_mem); (case k3 => assumption); (case k4 => omega); (case k5 => omega); (case k6 => with_unfolding_all rfl)); intro v9 t9 lo9 hi9; (try dsimp only))
  k_with "getMethod ref" => (k_here; k_dflt (refine' Mine.gm_rep ?k0 ?k1 ?_; (case k0 => exact rfl); (case k1 => first | exact News.get (by assumption) (by k_mem) | exact News.get (by assumption) (by assumption) | exact News.get (by assumption) (List.mem_cons_of_mem _ (by assumption)) | exact News.get (by assumption) (List.mem_cons_of_mem _ (List.mem_cons_of_mem _ (by assumption))) | exact News.get (by assumption) (List.mem_cons_of_mem _ (List.mem_cons_of_mem _ (List.mem_cons_of_mem _ (by assumption)))))); (try dsimp only))
  k_with "call builtin:datetime.datetime.replace" => (k_here; k_dflt (refine' Mine.rep_V ?kF ?kN ?ka ?ku ?k0 ?k1 ?_; (case kF => k_asm); (case kN => k_asm); (case ka => first | exact News.get (by assumption) (by k_mem) | exact News.get (by assumption) (by assumption) | exact News.get (by assumption) (List.mem_cons_of_mem _ (by assumption)) | exact News.get (by assumption) (List.mem_cons_of_mem _ (List.mem_cons_of_mem _ (by assumption))) | exact News.get (by assumption) (List.mem_cons_of_mem _ (List.mem_cons_of_mem _ (List.mem_cons_of_mem _ (by assumption))))); (case ku => assumption); (case k0 => first | decide | exact (Mine.micro_b _).1); (case k1 => first | decide | exact (Mine.micro_b _).2)); intro c9 h9 F9 N9 l9; (try dsimp only))
  k_with "compareOp NotEq ref ref" => (k_here; k_dflt (refine' Mine.ne_R ?kU ?ka ?kb ?_; (case kU => ktr_units); (case ka => first | exact News.get (by assumption) (by k_mem) | exact News.get (by assumption) (by assumption) | exact News.get (by assumption) (List.mem_cons_of_mem _ (by assumption)) | exact News.get (by assumption) (List.mem_cons_of_mem _ (List.mem_cons_of_mem _ (by assumption))) | exact News.get (by assumption) (List.mem_cons_of_mem _ (List.mem_cons_of_mem _ (List.mem_cons_of_mem _ (by assumption))))); (case kb => first | exact News.get (by assumption) (by k_mem) | exact News.get (by assumption) (by assumption) | exact News.get (by assumption) (List.mem_cons_of_mem _ (by assumption)) | exact News.get (by assumption) (List.mem_cons_of_mem _ (List.mem_cons_of_mem _ (by assumption))) | exact News.get (by assumption) (List.mem_cons_of_mem _ (List.mem_cons_of_mem _ (List.mem_cons_of_mem _ (by assumption)))))); (try dsimp only))
  k_with "callWith" => (k_here; (with_reducible show wpAny _ _ (callWith _ (Value.builtin _) [Value.ref _] _ (backToKw _ (keywordEach (_ :: _) _))) _ _ _); k_dflt (refine' Mine.callWith_rep ?_))
  have hmR : Mom R := hR
  w_on
  (revert X; k_fill; intro X)
  have efd := fnd_of (P := w.params) (f := 118) (by k_is)
  unfold fb
  rw [efd] at hE ⊢
  clear efd
  w_strict (dsimp only [List.drop, List.take, forBody, stAt, List.getD, List.getElem?_cons_succ, List.getElem?_cons_zero, Option.getD_some] at hE ⊢; (try k_fold); k_steps; all_goals ((try dsimp only); first | (exfalso; exact Mine.bool_ne (by assumption)) | (refine' hret _ _ _ ?e0 ?e1 ?e2 ?e3 ?e4 ?hF ?hN; (case hF => assumption); (case e0 => ((try dsimp only); repeat (first | with_reducible exact Mine.lk_eq | with_reducible refine (Mine.lk_n (by decide)).trans ?_))); (case e1 => ((try dsimp only); repeat (first | with_reducible exact Mine.lk_eq | with_reducible refine (Mine.lk_n (by decide)).trans ?_))); (case e2 => ((try dsimp only); repeat (first | with_reducible exact Mine.lk_eq | with_reducible refine (Mine.lk_n (by decide)).trans ?_))); (case e3 => ((try dsimp only); repeat (first | with_reducible exact Mine.lk_eq | with_reducible refine (Mine.lk_n (by decide)).trans ?_))); (case e4 => ((try dsimp only); repeat (first | with_reducible exact Mine.lk_eq | with_reducible refine (Mine.lk_n (by decide)).trans ?_))); (case hN => refine' cb_drop ?cbN ?cbS; (case cbN => assumption); (case cbS => kcj_all)))))
end Mine
end
section
open PySem PySem.W PyProof.Rows
set_option maxRecDepth 100000
set_option maxHeartbeats 4000000
namespace Mine
theorem turn {w : World} {mg mb : PySem.Str → Option Value} {loose : List PySem.Str} {mean : ExcName → Option Value} {dp un : Nat} {gd : Option (List Code)} {a : Addr} {ccd : Value} {A₀ : Around} {base h₀ : Heap} {L : Addr} {u : PySem.Str → Option Value} {s : Shared} {Q : Flow → Shared → Prop} {E : Value → Shared → Prop} {f l r db ia : Addr} {io : Obj} {k bef : Int} {tk0 tb : Tok} {arr : Array Value} {c : Nat} (hrow : RowOk arr) (hk0 : 0 ≤ k) (hk1 : k < (arr.size : Int)) (hbef : Mom bef)
    (F : Fr h₀ L s.heap (fun z => if z = PySem.Str.ofString "k" then some (.int k tk0) else if z = PySem.Str.ofString "first" then some (.ref f) else if z = PySem.Str.ofString "last" then some (.ref l) else if z = PySem.Str.ofString "row" then some (.ref r) else if z = PySem.Str.ofString "before" then some (.int bef tb) else if z = PySem.Str.ofString "date_before" then some (.ref db) else u z))
    (B : Below A₀ base [] h₀) (X : (hd.heap_39 w.params).In h₀) (N : News h₀ L s.heap [(db, dtOf bef 0), (r, W.listOf arr c), (l, dtOf 315537897599 0), (f, dtOf 0 0), (ia, io)]) (T : Top hd.view_39 loose mean mg mb h₀) (XB : (hd.heap_39 w.params).In base) (TB : Top hd.view_39 loose mean mg mb base) (Z : h₀.get? 49 = some zeroObj) (hroom : dp + 6 < recursionLimit) (hunits : un + 48 < cLine)
    (hE : PassesOwn (model PySem.Challenge.rw_il0028_01.row.prog w) (ktrTop dp un gd (fnd w.params 118).qualname (fnd w.params 118).scope L a ccd [] []) (envX (fnd w.params 118).qualname (fnd w.params 118).scope L a ccd []) E)
    (hret : ∀ (mo : Int) (b : Addr) (tm : Tok) (m' : PySem.Str → Option Value) (h' : Heap) (tk' : Nat), Mom mo → m' (PySem.Str.ofString "first") = some (.ref f) → m' (PySem.Str.ofString "last") = some (.ref l) → m' (PySem.Str.ofString "row") = some (.ref r) → m' (PySem.Str.ofString "before") = some (.int mo tm) → m' (PySem.Str.ofString "date_before") = some (.ref b) → Fr h₀ L h' m' → News h₀ L h' [(b, dtOf mo 0), (r, W.listOf arr c), (l, dtOf 315537897599 0), (f, dtOf 0 0), (ia, io)] → Q .next { s with heap := h', toks := tk' }) :
    wpAny (model PySem.Challenge.rw_il0028_01.row.prog w) (ktrTop dp un gd (fnd w.params 118).qualname (fnd w.params 118).scope L a ccd [] []) (execs (forBody (stAt (fb w.params 118) 5)) (envX (fnd w.params 118).qualname (fnd w.params 118).scope L a ccd [])) Q E s := by
  refine execs_take 5 ?_
  refine @turn_1 w mg mb loose mean dp un gd a ccd A₀ base h₀ L u s _ E _ f l r db k bef tk0 tb arr c (by k_mem) (by k_mem) hrow hk0 hk1 F B X N T XB TB Z hroom hunits hE (fun v mo tm tx b x' m1 h1 tk1 _ hmo hx e0 e1 e2 e3 e4 e5 e6 e7 e8 F1 N1 => ?_)
  show wpAny _ _ (execs ((forBody (stAt (fb w.params 118) 5)).drop 5) _) Q E _
  obtain ⟨u1, F2⟩ := fr_c9 F1 _ _ _ _ _ _ _ _ _ e0 e1 e2 e3 e4 e5 e6 e7 e8
  refine execs_take 4 ?_
  have next : ∀ (m2 : PySem.Str → Option Value) (h2 : Heap) (tk2 : Nat), m2 (PySem.Str.ofString "k") = some (.int k tk0) → m2 (PySem.Str.ofString "first") = some (.ref f) → m2 (PySem.Str.ofString "last") = some (.ref l) → m2 (PySem.Str.ofString "row") = some (.ref r) → m2 (PySem.Str.ofString "before") = some (.int bef tb) → m2 (PySem.Str.ofString "date_before") = some (.ref db) → m2 (PySem.Str.ofString "moment") = some (.int mo tm) → m2 (PySem.Str.ofString "date") = some (.ref b) → Fr h₀ L h2 m2 → News h₀ L h2 [(b, dtOf mo 0), (db, dtOf bef 0), (r, W.listOf arr c), (l, dtOf 315537897599 0), (f, dtOf 0 0), (ia, io)] → wpAny (model PySem.Challenge.rw_il0028_01.row.prog w) (ktrTop dp un gd (fnd w.params 118).qualname (fnd w.params 118).scope L a ccd [] []) (execs (((forBody (stAt (fb w.params 118) 5)).drop 5).drop 4) (envX (fnd w.params 118).qualname (fnd w.params 118).scope L a ccd [])) Q E { s with heap := h2, toks := tk2 } := by
    intro m2 h2 tk2 g0 g1 g2 g3 g4 g5 g6 g7 F3 N3
    obtain ⟨u3, F4⟩ := fr_c8 F3 _ _ _ _ _ _ _ _ g0 g1 g2 g3 g4 g5 g6 g7
    rw [List.drop_drop]
    have b1 := hbef.1
    have b2 := hbef.2
    have b3 := hmo.1
    have b4 := hmo.2
    have fin : ∀ (m' : PySem.Str → Option Value) (h' : Heap) (tk' : Nat), m' (PySem.Str.ofString "first") = some (.ref f) → m' (PySem.Str.ofString "last") = some (.ref l) → m' (PySem.Str.ofString "row") = some (.ref r) → m' (PySem.Str.ofString "before") = some (.int mo tm) → m' (PySem.Str.ofString "date_before") = some (.ref b) → Fr h₀ L h' m' → News h₀ L h' [(b, dtOf mo 0), (r, W.listOf arr c), (l, dtOf 315537897599 0), (f, dtOf 0 0), (ia, io)] → Q .next { s with heap := h', toks := tk' } := fun m' h' tk' q0 q1 q2 q3 q4 F5 N5 => hret mo b tm m' h' tk' hmo q0 q1 q2 q3 q4 F5 N5
    have rest : ∀ (R : Int), IsR R → ∀ (rc : Addr) (tt : Tok) (m4 : PySem.Str → Option Value) (h4 : Heap) (tk4 : Nat), m4 (PySem.Str.ofString "k") = some (.int k tk0) → m4 (PySem.Str.ofString "first") = some (.ref f) → m4 (PySem.Str.ofString "last") = some (.ref l) → m4 (PySem.Str.ofString "row") = some (.ref r) → m4 (PySem.Str.ofString "moment") = some (.int mo tm) → m4 (PySem.Str.ofString "date") = some (.ref b) → m4 (PySem.Str.ofString "reached") = some (.ref rc) → m4 (PySem.Str.ofString "text") = some (.str (lawText R) tt) → Fr h₀ L h4 m4 → News h₀ L h4 [(rc, dtOf R 0), (b, dtOf mo 0), (r, W.listOf arr c), (l, dtOf 315537897599 0), (f, dtOf 0 0), (ia, io)] → wpAny (model PySem.Challenge.rw_il0028_01.row.prog w) (ktrTop dp un gd (fnd w.params 118).qualname (fnd w.params 118).scope L a ccd [] []) (execs (((forBody (stAt (fb w.params 118) 5)).drop 9).drop 2) (envX (fnd w.params 118).qualname (fnd w.params 118).scope L a ccd [])) Q E { s with heap := h4, toks := tk4 } := by
      intro R hR rc tt m4 h4 tk4 q0 q1 q2 q3 q4 q5 q6 q7 F6 N6
      obtain ⟨u5, F7⟩ := fr_c8 F6 _ _ _ _ _ _ _ _ q0 q1 q2 q3 q4 q5 q6 q7
      rw [List.drop_drop]
      exact @turn_3c w mg mb loose mean dp un gd a ccd A₀ base h₀ L u5 { s with heap := h4, toks := tk4 } Q E f l r b ia rc io k mo R tk0 tm tt arr c hrow hk0 hk1 hR F7 B X N6 T XB TB Z hroom hunits hE fin
    refine execs_take 2 ?_
    by_cases hc : bef ≤ mo
    · exact @turn_3a w mg mb loose mean dp un gd a ccd A₀ base h₀ L u3 { s with heap := h2, toks := tk2 } _ E f l r db b ia io k bef mo (mo - bef) tk0 tb tm arr c hbef hmo ⟨by omega, by omega⟩ hc rfl F4 B X N3 T XB TB Z hroom hunits hE (rest _ ⟨by omega, by omega⟩)
    · exact @turn_3b w mg mb loose mean dp un gd a ccd A₀ base h₀ L u3 { s with heap := h2, toks := tk2 } _ E f l r db b ia io k bef mo (315537897599 + mo - bef) tk0 tb tm arr c hbef hmo ⟨by omega, by omega⟩ (by omega) rfl F4 B X N3 T XB TB Z hroom hunits hE (rest _ ⟨by omega, by omega⟩)
  by_cases hf : fits x'.cps = true
  · by_cases h3 : 3 ≤ partsN x'.cps
    · by_cases hg : Good7 (fld x' (partsN x'.cps) 0) (fld x' (partsN x'.cps) 1) (fld x' (partsN x'.cps) 2) (fld x' (partsN x'.cps) 3) (fld x' (partsN x'.cps) 4) (fld x' (partsN x'.cps) 5) 0
      · exact @turn_2G w mg mb loose mean dp un gd a ccd A₀ base h₀ L u1 { s with heap := h1, toks := tk1 } _ E _ f l r db b k bef mo tk0 tb tm tx x' (by k_mem) hx _ ⟨hf, h3, hg, rfl⟩ F2 B X N1 T XB TB Z hroom hunits hE next
      · exact @turn_2V w mg mb loose mean dp un gd a ccd A₀ base h₀ L u1 { s with heap := h1, toks := tk1 } _ E _ f l r db b k bef mo tk0 tb tm tx x' (by k_mem) hx hf h3 hg F2 B X N1 T XB TB Z hroom hunits hE next
    · exact @turn_2T w mg mb loose mean dp un gd a ccd A₀ base h₀ L u1 { s with heap := h1, toks := tk1 } _ E _ f l r db b k bef mo tk0 tb tm tx x' (by k_mem) hx hf (by omega) F2 B X N1 T XB TB Z hroom hunits hE next
  · exact @turn_2A w mg mb loose mean dp un gd a ccd A₀ base h₀ L u1 { s with heap := h1, toks := tk1 } _ E _ f l r db b k bef mo tk0 tb tm tx x' (by k_mem) hx (by simpa using hf) F2 B X N1 T XB TB Z hroom hunits hE next
end Mine
end
section
open PySem PySem.W PyProof.Rows
set_option maxRecDepth 100000
set_option maxHeartbeats 4000000
namespace Mine
noncomputable def forIter : Stmt → PySem.Expr
  | .For _ i _ _ _ => i
  | _ => .Name (PySem.Str.ofString "") ⟨0, 0, 0, 0⟩
noncomputable def forPx : Stmt → Pos
  | .For (.Name _ p) _ _ _ _ => p
  | _ => ⟨0, 0, 0, 0⟩
noncomputable def forPos : Stmt → Pos
  | .For _ _ _ _ p => p
  | _ => ⟨0, 0, 0, 0⟩
/-- what holds between the turns -/
noncomputable def JL (f l r : Addr) (arr : Array Value) (c : Nat) (m : PySem.Str → Option Value) (news : List (Addr × Obj)) : Prop :=
  ∃ (bef : Int) (db : Addr) (tb : Tok), Mom bef ∧ m (PySem.Str.ofString "first") = some (.ref f) ∧ m (PySem.Str.ofString "last") = some (.ref l) ∧ m (PySem.Str.ofString "row") = some (.ref r) ∧ m (PySem.Str.ofString "before") = some (.int bef tb) ∧ m (PySem.Str.ofString "date_before") = some (.ref db) ∧ news = [(db, dtOf bef 0), (r, W.listOf arr c), (l, dtOf 315537897599 0), (f, dtOf 0 0)]
section
variable {prog : Program} {w : World} {A : Around} {E : Value → Shared → Prop} {s : Shared} {env : Env} {h₀ : Heap} {x : PySem.Str} {body : List Stmt} {Q : Flow → Shared → Prop}
theorem size_one (n : Nat) : Builtin.Range.rangeSize 0 (n : Int) 1 = (n : Int) := by
  rw [rangeSize_nat]; simp
theorem small_of {n : Int} (h0 : 0 ≤ n) (h1 : n ≤ 65) : Builtin.Range.small 0 n 1 = true := by
  have hn : n = ((n.toNat : Nat) : Int) := by omega
  unfold Builtin.Range.small
  rw [hn, size_one]
  simp [Builtin.Range.rangeFitsLong]
  omega
theorem iter_J {rg : Addr} {t₀ u₀ v₀ : Tok} {n : Nat} {m₀ : PySem.Str → Option Value} {news : List (Addr × Obj)} (J : (PySem.Str → Option Value) → List (Addr × Obj) → Prop)
    (hh : A.handled = none) (hr : IsRange s.heap rg 0 (n : Int) 1 t₀ u₀ v₀) (hsmall : Builtin.Range.small 0 (n : Int) 1 = true) (F : Fr h₀ env.locals s.heap m₀) (N : News h₀ env.locals s.heap news) (hJ : J m₀ news)
    (turn : ∀ (k : Int) (t : Tok) m₁ news₁ h tk ia io, 0 ≤ k → k < (n : Int) → J m₁ news₁ → io.cls = .type "range_iterator" → Fr h₀ env.locals h (fun y => if y = x then some (.int k t) else m₁ y) → News h₀ env.locals h (news₁ ++ [(ia, io)]) →
      wpAny (model prog w) A (execs body env) (fun fl s₂ => fl = .next ∧ ∃ h' tk' m' news', s₂ = { s with heap := h', toks := tk' } ∧ Fr h₀ env.locals h' m' ∧ News h₀ env.locals h' (news' ++ [(ia, io)]) ∧ J m' news' ∧ ∀ p ∈ news', p.2.cls ≠ .type "range_iterator") E { s with heap := h, toks := tk })
    (done : ∀ h' tk' m' news', Fr h₀ env.locals h' m' → News h₀ env.locals h' news' → J m' news' → Q .next { s with heap := h', toks := tk' }) :
    wpAny (model prog w) A (pyIter (.ref rg)) (fun it s₂ => LoopAtV prog w A h₀ env x body Q E it s₂) E s := by
  refine wpAny_pyIter_range hr hsmall ?_
  have W : Walks prog w A s.heap.objs.size [s.heap.objs.size] [s.heap.objs.size] n (fun i v => i < n ∧ ∃ t, v = .int (0 + i * 1) t)
      (fun i h => IsRangeIter h s.heap.objs.size (0 + (i : Nat) * 1) ((n : Int) - (i : Nat)) 1) := (Walks.range hh _ 0 1 n).bound
  refine ⟨_, _, _, n, _, _, m₀, news, fun _ => J, rfl, W, ?_, ?_, ?_, ?_, F.push _, (fun p hp => ⟨Heap.get?_push_of_some _ (N p hp).1, (N p hp).2⟩), hJ, ?_, ?_⟩
  · intro hm
    exact absurd F.ns.lt ((List.mem_singleton.mp hm) ▸ Nat.lt_irrefl _)
  · intro b hb
    rw [List.mem_singleton.mp hb]
    exact next_is_new F
  · intro p hp hI
    exact absurd (Heap.lt_size (N p hp).1) ((List.mem_singleton.mp hI) ▸ Nat.lt_irrefl _)
  · show IsRangeIter _ _ _ _ _
    rw [size_one]
    simpa using Heap.get?_push_size _ rfl
  · rintro i v m₁ news₁ s₁ own ⟨h, tk, rfl⟩ hin ⟨_, t, rfl⟩ hJ₁ hoff hfp hown hall hst F₁ N₁
    have hI : h.get? s.heap.objs.size = some _ := hst
    have hmem : (s.heap.objs.size, _) ∈ own := hall _ (.head _) (next_is_new F) _ hI
    have N₂ : News h₀ env.locals h (news₁ ++ [(s.heap.objs.size, _)]) := fun p hp => by
      rcases List.mem_append.mp hp with h1 | h1
      · exact N₁ p (List.mem_append_right _ h1)
      · rw [List.mem_singleton.mp h1]
        exact N₁ _ (List.mem_append_left _ hmem)
    refine wpAny_mono (turn (0 + (i : Int) * 1) t m₁ news₁ h tk _ _ (by omega) (by omega) hJ₁ (by rfl) F₁ N₂) (fun fl s₂ p => ?_) fun _ _ e => e
    obtain ⟨rfl, h', tk', m', news', rfl, F', N', hJ', hcl⟩ := p
    have hI' := (N' _ (List.mem_append_right _ (.head _))).1
    refine .next ⟨rfl, h', tk', m', news', rfl, F', fun p hp => ?_, fun p hp hw => ?_, hJ'⟩
    · rcases List.mem_append.mp hp with h1 | h1
      · have e1 : p.1 = s.heap.objs.size := List.mem_singleton.mp (hfp p h1)
        have e2 := hown p h1
        rw [e1, hI] at e2
        have e3 : p = (s.heap.objs.size, _) := Prod.ext e1 (Option.some.inj e2).symm
        rw [e3]
        exact N' _ (List.mem_append_right _ (.head _))
      · exact N' p (List.mem_append_left _ h1)
    · have e1 : p.1 = s.heap.objs.size := List.mem_singleton.mp hw
      have e2 := (N' p (List.mem_append_left _ hp)).1
      rw [e1, hI'] at e2
      refine hcl p hp ?_
      rw [← Option.some.inj e2]
  · intro h' tk m' news' F' N' _ hJ'
    exact done h' tk m' news' F' N' hJ'
end
end Mine
local macro_rules | `(tactic| passes_own) => `(tactic| assumption)
namespace Mine
theorem loop_head {w : World} {mg mb : PySem.Str → Option Value} {loose : List PySem.Str} {mean : ExcName → Option Value} {dp un : Nat} {gd : Option (List Code)} {a : Addr} {ccd : Value} {A₀ : Around} {base h₀ : Heap} {L : Addr} {u : PySem.Str → Option Value} {s : Shared} {Q : Flow → Shared → Prop} {E : Value → Shared → Prop} {f l r db : Addr} {bef : Int} {tb : Tok} {arr : Array Value} {c : Nat} (hrow : RowOk arr)
    (F : Fr h₀ L s.heap (fun z => if z = PySem.Str.ofString "first" then some (.ref f) else if z = PySem.Str.ofString "last" then some (.ref l) else if z = PySem.Str.ofString "row" then some (.ref r) else if z = PySem.Str.ofString "before" then some (.int bef tb) else if z = PySem.Str.ofString "date_before" then some (.ref db) else u z))
    (B : Below A₀ base [] h₀) (X : (hd.heap_39 w.params).In h₀) (N : News h₀ L s.heap [(db, dtOf bef 0), (r, W.listOf arr c), (l, dtOf 315537897599 0), (f, dtOf 0 0)]) (T : Top hd.view_39 loose mean mg mb h₀) (XB : (hd.heap_39 w.params).In base) (TB : Top hd.view_39 loose mean mg mb base) (Z : h₀.get? 49 = some zeroObj) (hroom : dp + 6 < recursionLimit) (hunits : un + 48 < cLine)
    (hE : PassesOwn (model PySem.Challenge.rw_il0028_01.row.prog w) (ktrTop dp un gd (fnd w.params 118).qualname (fnd w.params 118).scope L a ccd [] []) (envX (fnd w.params 118).qualname (fnd w.params 118).scope L a ccd []) E)
    {Qv : Value → Shared → Prop} (hret : ∀ (rg : Addr) (t u' v : Tok) (m' : PySem.Str → Option Value) (h' : Heap) (tk' : Nat), IsRange h' rg 0 (arr.size : Int) 1 t u' v → m' (PySem.Str.ofString "first") = some (.ref f) → m' (PySem.Str.ofString "last") = some (.ref l) → m' (PySem.Str.ofString "row") = some (.ref r) → m' (PySem.Str.ofString "before") = some (.int bef tb) → m' (PySem.Str.ofString "date_before") = some (.ref db) → Fr h₀ L h' m' → News h₀ L h' [(db, dtOf bef 0), (r, W.listOf arr c), (l, dtOf 315537897599 0), (f, dtOf 0 0)] → Qv (.ref rg) { s with heap := h', toks := tk' }) :
    wpAny (model PySem.Challenge.rw_il0028_01.row.prog w) (ktrTop dp un gd (fnd w.params 118).qualname (fnd w.params 118).scope L a ccd [] []) (eval (forIter (stAt (fb w.params 118) 5)) (envX (fnd w.params 118).qualname (fnd w.params 118).scope L a ccd [])) Qv E s := by
  k_with_none
  k_with "eval Tuple" => (k_here; dsimp only; (try k_gentoks))
  k_with "eval Call" => (k_here; dsimp only; (try k_gentoks))
  k_with "eval Attribute" => (k_here; dsimp only; (try k_gentoks))
  k_with "exec Assign" => (k_here; dsimp only; (try k_gentoks))
  k_with "exec If" => (k_here; dsimp only; (try k_gentoks))
  k_with "exec For" => (k_here; dsimp only; (try k_gentoks))
  k_with "execs cons" => (k_here; dsimp only; (try k_gentoks))
  k_with "execs nil" => (k_here; dsimp only; (try k_gentoks))
  k_with "pyIter ref" => (k_here; dsimp only; (try k_gentoks))
  k_with "newTuple" => (k_here; dsimp only; (try k_gentoks))
  k_with "assign Tuple" => (k_here; dsimp only; (try k_gentoks))
  k_with "ItemsRest" => (dsimp only)
  k_with "UnrPostW" => (dsimp only)
  k_with "UnrEndW" => (dsimp only)
  k_with "call builtin:len" => (k_here; k_dflt (refine' Mine.row_len ?k1 ?k2 ?k3 ?_; (case k1 => k_asm); (case k2 => k_mem); (case k3 => assumption)); intro t9 tk9; (try dsimp only))
  k_with "call type:range" => (k_here; k_dflt (refine' range1_rows ?kF ?kN ?_; (case kF => k_asm); (case kN => k_asm)); intro h9 tk9 t9 u9 v9 r9 F9 N9 g9; (try dsimp only))
  w_on
  (revert X; k_fill; intro X)
  have efd := fnd_of (P := w.params) (f := 118) (by k_is)
  unfold fb
  rw [efd] at hE ⊢
  clear efd
  w_strict (dsimp only [forIter, stAt, List.getD, List.getElem?_cons_succ, List.getElem?_cons_zero, Option.getD_some] at hE ⊢; (try k_fold); k_steps; all_goals ((try dsimp only); (refine' hret _ _ _ _ _ _ _ ?hr ?e0 ?e1 ?e2 ?e3 ?e4 ?hF ?hN; (case hr => assumption); (case hF => assumption); (case e0 => ((try dsimp only); repeat (first | with_reducible exact Mine.lk_eq | with_reducible refine (Mine.lk_n (by decide)).trans ?_))); (case e1 => ((try dsimp only); repeat (first | with_reducible exact Mine.lk_eq | with_reducible refine (Mine.lk_n (by decide)).trans ?_))); (case e2 => ((try dsimp only); repeat (first | with_reducible exact Mine.lk_eq | with_reducible refine (Mine.lk_n (by decide)).trans ?_))); (case e3 => ((try dsimp only); repeat (first | with_reducible exact Mine.lk_eq | with_reducible refine (Mine.lk_n (by decide)).trans ?_))); (case e4 => ((try dsimp only); repeat (first | with_reducible exact Mine.lk_eq | with_reducible refine (Mine.lk_n (by decide)).trans ?_))); (case hN => assumption))))
end Mine
namespace Mine
theorem for_is {P : Params} : stAt (fb P 118) 5 = .For (.Name (PySem.Str.ofString "k") (forPx (stAt (fb P 118) 5))) (forIter (stAt (fb P 118) 5)) (forBody (stAt (fb P 118) 5)) [] (forPos (stAt (fb P 118) 5)) ∧
    (∀ env x, foldedSetIterable (forIter (stAt (fb P 118) 5)) env x = pure x) ∧ (fnd P 118).scope.kind = .function ∧ (fnd P 118).scope.names.lookup (PySem.Str.ofString "k") = some .local := by
  have h : ∃ o, (hd.heap_39 P).lookup 118 = some o ∧ ∃ fd, o.data = .func fd ∧ ∃ b, fd.body = .stmts b ∧ stAt b 5 = .For (.Name (PySem.Str.ofString "k") (forPx (stAt b 5))) (forIter (stAt b 5)) (forBody (stAt b 5)) [] (forPos (stAt b 5)) ∧
    (∀ env x, foldedSetIterable (forIter (stAt b 5)) env x = pure x) ∧ fd.scope.kind = .function ∧ fd.scope.names.lookup (PySem.Str.ofString "k") = some .local :=
    ⟨_, by with_unfolding_all rfl, _, rfl, _, rfl, rfl, fun _ _ => rfl, rfl, by with_unfolding_all rfl⟩
  obtain ⟨o, ho, fd, hfd, b, hb, h1, h2, h3, h4⟩ := h
  have e : fnd P 118 = fd := by
    obtain ⟨a1, a2, a3, a4⟩ := o
    cases hfd
    exact fnd_of ho
  have e2 : fb P 118 = b := by
    unfold fb
    rw [e, hb]
  rw [e, e2]
  exact ⟨h1, h2, h3, h4⟩
theorem law_loop {w : World} {mg mb : PySem.Str → Option Value} {loose : List PySem.Str} {mean : ExcName → Option Value} {dp un : Nat} {gd : Option (List Code)} {a : Addr} {ccd : Value} {A₀ : Around} {base h₀ : Heap} {L : Addr} {u : PySem.Str → Option Value} {s : Shared} {Q : Flow → Shared → Prop} {E : Value → Shared → Prop} {f l r db : Addr} {bef : Int} {tb : Tok} {arr : Array Value} {c : Nat} (hrow : RowOk arr) (hbef : Mom bef)
    (F : Fr h₀ L s.heap (fun z => if z = PySem.Str.ofString "first" then some (.ref f) else if z = PySem.Str.ofString "last" then some (.ref l) else if z = PySem.Str.ofString "row" then some (.ref r) else if z = PySem.Str.ofString "before" then some (.int bef tb) else if z = PySem.Str.ofString "date_before" then some (.ref db) else u z))
    (B : Below A₀ base [] h₀) (X : (hd.heap_39 w.params).In h₀) (N : News h₀ L s.heap [(db, dtOf bef 0), (r, W.listOf arr c), (l, dtOf 315537897599 0), (f, dtOf 0 0)]) (T : Top hd.view_39 loose mean mg mb h₀) (XB : (hd.heap_39 w.params).In base) (TB : Top hd.view_39 loose mean mg mb base) (Z : h₀.get? 49 = some zeroObj) (hroom : dp + 6 < recursionLimit) (hunits : un + 48 < cLine)
    (hE : PassesOwn (model PySem.Challenge.rw_il0028_01.row.prog w) (ktrTop dp un gd (fnd w.params 118).qualname (fnd w.params 118).scope L a ccd [] []) (envX (fnd w.params 118).qualname (fnd w.params 118).scope L a ccd []) E)
    (hret : ∀ (m' : PySem.Str → Option Value) (h' : Heap) (tk' : Nat) (nw : List (Addr × Obj)), Fr h₀ L h' m' → News h₀ L h' nw → Q .next { s with heap := h', toks := tk' }) :
    wpAny (model PySem.Challenge.rw_il0028_01.row.prog w) (ktrTop dp un gd (fnd w.params 118).qualname (fnd w.params 118).scope L a ccd [] []) (exec (stAt (fb w.params 118) 5) (envX (fnd w.params 118).qualname (fnd w.params 118).scope L a ccd [])) Q E s := by
  obtain ⟨e, hs, hk, hl⟩ := for_is (P := w.params)
  rw [e]
  refine For_invV h₀ ?_ ?_ ?_ (hs _) hE
  · exact hl
  · show ((fnd w.params 118).scope.kind == .class || ((fnd w.params 118).scope.kind == .module && _)) = false
    rw [hk]; rfl
  refine @loop_head w mg mb loose mean dp un gd a ccd A₀ base h₀ L u s Q E f l r db bef tb arr c hrow F B X N T XB TB Z hroom hunits hE _ (fun rg t u' v m' h' tk' hr e0 e1 e2 e3 e4 F1 N1 => ?_)
  refine iter_J (J := JL f l r arr c) rfl hr ?_ F1 N1 ⟨bef, db, tb, hbef, e0, e1, e2, e3, e4, rfl⟩ ?_ ?_
  · have := hrow.1
    exact small_of (by omega) (by omega)
  · rintro k t m₁ news₁ h tk ia io k0 k1 ⟨bef', db', tb', hbef', q0, q1, q2, q3, q4, rfl⟩ hio F2 N2
    obtain ⟨u2, F3⟩ := fr_c6 F2 (PySem.Str.ofString "k") (PySem.Str.ofString "first") (PySem.Str.ofString "last") (PySem.Str.ofString "row") (PySem.Str.ofString "before") (PySem.Str.ofString "date_before") (by exact if_pos rfl) (by exact (if_neg (by decide)).trans q0) (by exact (if_neg (by decide)).trans q1) (by exact (if_neg (by decide)).trans q2) (by exact (if_neg (by decide)).trans q3) (by exact (if_neg (by decide)).trans q4)
    refine @turn w mg mb loose mean dp un gd a ccd A₀ base h₀ L u2 { s with heap := h, toks := tk } _ E f l r db' ia io k bef' t tb' arr c hrow k0 k1 hbef' F3 B X N2 T XB TB Z hroom hunits ?_ (fun mo b tm m2 h2 tk2 hmo g0 g1 g2 g3 g4 F4 N4 => ?_)
    · exact hE
    · refine ⟨rfl, h2, tk2, m2, [(b, dtOf mo 0), (r, W.listOf arr c), (l, dtOf 315537897599 0), (f, dtOf 0 0)], rfl, F4, N4, ⟨mo, b, tm, hmo, g0, g1, g2, g3, g4, rfl⟩, ?_⟩
      intro p hp
      simp only [List.mem_cons, List.not_mem_nil, or_false] at hp
      rcases hp with rfl | rfl | rfl | rfl <;> exact fun q => absurd (Value.type.inj q) (by decide)
  · intro h2 tk2 m2 nw F2 N2 _
    exact hret m2 h2 tk2 nw F2 N2
end Mine
end
section
open PySem PySem.W PyProof.Rows
set_option maxRecDepth 100000
set_option maxHeartbeats 4000000
namespace Mine
theorem ints_mem {P : Int → Prop} : ∀ {vs : List Value} {ns : List Int}, IntsAre vs ns → (∀ n ∈ ns, P n) → ∀ v ∈ vs, ∃ n t, v = .int n t ∧ P n
  | _, _, .nil, _, v, hv => nomatch hv
  | _, _, .cons n t r, h, v, hv => by
    rcases List.mem_cons.mp hv with rfl | hv
    · exact ⟨n, t, rfl, h n (.head _)⟩
    · exact ints_mem r (fun n hn => h n (.tail _ hn)) v hv
section
variable {prog : Program} {w : World} {A : Around} {E : Value → Shared → Prop} {s : Shared} {h₀ : Heap} {L a b : Addr} {m : PySem.Str → Option Value} {news : List (Addr × Obj)} {ys : List Value} {t1 t2 : Tok} {g : Int → Int} {l : List Int} {Q : Value → Shared → Prop}
theorem row_add (F : Fr h₀ L s.heap m) (N : News h₀ L s.heap news) (ha : s.heap.IsList a #[.int 63087465599 t1, .int 0 t2]) (hb : s.heap.IsList b ys.toArray) (hc : CarriedAll ys (l.map fun a => PyData.int (g a))) (hg : ∀ a, 0 ≤ g a ∧ g a < 1000000000000) (hl : l.length ≤ 63)
    (k : ∀ D arr c h', RowOk arr → Fr h₀ L h' m → News h₀ L h' ((D, W.listOf arr c) :: news) → Q (.ref D) { s with heap := h' }) : wpAny (model prog w) A (binaryOp .Add (.ref a) (.ref b)) Q E s := by
  have hi := hc.intsOf
  have hlen : ys.length = l.length := by rw [hi.length, List.length_map]
  refine add_arrays F N ha hb (fun h' F' N' => k _ _ _ h' ⟨?_, fun i hi' => ?_⟩ F' N') ?_
  · simp [hlen]; omega
  · have hm : (((#[.int 63087465599 t1, .int 0 t2] : Array Value).toList ++ ys.toArray.toList).toArray)[i] ∈ [Value.int 63087465599 t1, .int 0 t2] ++ ys := by
      have := Array.getElem_mem hi'
      simpa using this
    rcases List.mem_append.mp hm with hm | hm
    · rcases List.mem_cons.mp hm with e | hm
      · exact ⟨_, _, e, by decide, by decide⟩
      · exact ⟨_, _, List.mem_singleton.mp hm, by decide, by decide⟩
    · obtain ⟨n, t, e, h⟩ := ints_mem (P := fun n => 0 ≤ n ∧ n < 1000000000000) hi (fun n hn => by
        obtain ⟨a, _, rfl⟩ := List.mem_map.mp hn
        exact hg a) _ hm
      exact ⟨n, t, e, h⟩
  · have : ys.toArray.size ≤ 63 := by rw [List.size_toArray]; omega
    refine Nat.le_trans (Nat.add_le_add_left this _) ?_
    show 2 + 63 ≤ sizeLine
    decide +kernel
theorem mod12 (a : Int) : 0 ≤ a.fmod (10 ^ Int.toNat 12) ∧ a.fmod (10 ^ Int.toNat 12) < 1000000000000 := by
  have e : (10 : Int) ^ Int.toNat 12 = 1000000000000 := by decide
  rw [e, fmod_pos _ (by decide)]
  omega
end
theorem tells_last : Tells (PySem.Str.ofString "9999-12-31T23:59:59Z") 315537897599 := by
  have g : Good7 9999 12 31 23 59 59 0 := ⟨by decide, by decide, by decide, by decide, by decide, by decide, by decide, by decide, by decide, by decide, by decide, by decide, by decide, by decide⟩
  have t := tells_raw g
  have e : rawText 9999 12 31 23 59 59 = PySem.Str.ofString "9999-12-31T23:59:59Z" := by decide +kernel
  have e2 : secs 9999 12 31 23 59 59 = 315537897599 := by decide +kernel
  rw [e, e2] at t
  exact t
theorem tells_first : Tells (PySem.Str.ofString "0001-01-01Z") 0 := by
  have e : partsN (PySem.Str.ofString "0001-01-01Z").cps = 3 := by decide +kernel
  have e0 : pv (PySem.Str.ofString "0001-01-01Z") 0 = 1 := by decide +kernel
  have e1 : pv (PySem.Str.ofString "0001-01-01Z") 1 = 1 := by decide +kernel
  have e2 : pv (PySem.Str.ofString "0001-01-01Z") 2 = 1 := by decide +kernel
  obtain ⟨g0, g1, g2, g3, g4, g5⟩ := f6_3 (x := PySem.Str.ofString "0001-01-01Z") e
  refine ⟨by decide +kernel, by rw [e]; decide, ?_, ?_⟩
  · rw [g0, g1, g2, g3, g4, g5, e0, e1, e2]
    exact ⟨by decide, by decide, by decide, by decide, by decide, by decide, by decide, by decide, by decide, by decide, by decide, by decide, by decide, by decide⟩
  · rw [g0, g1, g2, g3, g4, g5, e0, e1, e2]
    decide +kernel
end Mine
local macro_rules | `(tactic| passes_own) => `(tactic| assumption)
namespace Mine
theorem law_first {w : World} {mg mb : PySem.Str → Option Value} {loose : List PySem.Str} {mean : ExcName → Option Value} {dp un : Nat} {gd : Option (List Code)} {a : Addr} {ccd : Value} {A₀ : Around} {base h₀ : Heap} {L : Addr} {u : PySem.Str → Option Value} {s : Shared} {Q : Flow → Shared → Prop} {E : Value → Shared → Prop} {sl : Addr} {vs : List Value} {ns : List Int} (hL : h₀.IsList sl vs.toArray) (hI : IntsAre vs ns) (hlen : ns.length ≤ 63)
    (F : Fr h₀ L s.heap (fun z => if z = PySem.Str.ofString "script" then some (.ref sl) else u z))
    (B : Below A₀ base [] h₀) (X : (hd.heap_39 w.params).In h₀) (N : News h₀ L s.heap []) (T : Top hd.view_39 loose mean mg mb h₀) (XB : (hd.heap_39 w.params).In base) (TB : Top hd.view_39 loose mean mg mb base) (Z : h₀.get? 49 = some zeroObj) (hroom : dp + 6 < recursionLimit) (hunits : un + 48 < cLine)
    (hE : PassesOwn (model PySem.Challenge.rw_il0028_01.row.prog w) (ktrTop dp un gd (fnd w.params 118).qualname (fnd w.params 118).scope L a ccd [] []) (envX (fnd w.params 118).qualname (fnd w.params 118).scope L a ccd []) E)
    (hret : ∀ (f l r : Addr) (arr : Array Value) (c : Nat) (tb : Tok) (m' : PySem.Str → Option Value) (h' : Heap) (tk' : Nat), RowOk arr → m' (PySem.Str.ofString "first") = some (.ref f) → m' (PySem.Str.ofString "last") = some (.ref l) → m' (PySem.Str.ofString "row") = some (.ref r) → m' (PySem.Str.ofString "before") = some (.int 0 tb) → m' (PySem.Str.ofString "date_before") = some (.ref f) → Fr h₀ L h' m' → News h₀ L h' [(r, W.listOf arr c), (l, dtOf 315537897599 0), (f, dtOf 0 0)] → Q .next { s with heap := h', toks := tk' }) :
    wpAny (model PySem.Challenge.rw_il0028_01.row.prog w) (ktrTop dp un gd (fnd w.params 118).qualname (fnd w.params 118).scope L a ccd [] []) (execs ((fb w.params 118).take 5) (envX (fnd w.params 118).qualname (fnd w.params 118).scope L a ccd [])) Q E s := by
  k_with_none
  k_with "eval Tuple" => (k_here; dsimp only; (try k_gentoks))
  k_with "eval Call" => (k_here; dsimp only; (try k_gentoks))
  k_with "eval Attribute" => (k_here; dsimp only; (try k_gentoks))
  k_with "exec Assign" => (k_here; dsimp only; (try k_gentoks))
  k_with "exec If" => (k_here; dsimp only; (try k_gentoks))
  k_with "exec For" => (k_here; dsimp only; (try k_gentoks))
  k_with "execs cons" => (k_here; dsimp only; (try k_gentoks))
  k_with "execs nil" => (k_here; dsimp only; (try k_gentoks))
  k_with "pyIter ref" => (k_here; dsimp only; (try k_gentoks))
  k_with "newTuple" => (k_here; dsimp only; (try k_gentoks))
  k_with "assign Tuple" => (k_here; dsimp only; (try k_gentoks))
  k_with "ItemsRest" => (dsimp only)
  k_with "UnrPostW" => (dsimp only)
  k_with "UnrEndW" => (dsimp only)
  k_with "call ref" => (k_here; k_dflt (refine' Mine.dfs_G ?hx ?hv ?k1 ?k2 ?k3 ?k4 ?k5 ?kK ?kd ?ku ?_); (case hx => decide +kernel); (case hv => first | exact Mine.tells_first | exact Mine.tells_last); (case k1 => k_asm); (case k2 => k_asm); (case k3 => k_asm); (case k4 => k_asm); (case k5 => k_asm); (case kK => exact rfl); (case kd => ktr_room); (case ku => ktr_units); intro b9 h9 tk9 F9 N9; (try dsimp only))
  k_with "binaryOp Add ref ref" => (k_here; k_dflt (refine' Mine.row_add ?kF ?kN ?ka ?kb ?kc ?kg ?kl ?_; (case kF => k_asm); (case kN => k_asm); (case ka => is_list); (case kb => assumption); (case kc => assumption); (case kg => exact fun a => Mine.mod12 a); (case kl => (refine Nat.le_trans (List.length_filter_le ..) ?_; rw [List.length_take]; omega))); intro r9 arr9 c9 h9 ok9 F9 N9; (try dsimp only))
  w_on
  (revert X; k_fill; intro X)
  have efd := fnd_of (P := w.params) (f := 118) (by k_is)
  unfold fb
  rw [efd] at hE ⊢
  clear efd
  w_strict (dsimp only [List.take] at hE ⊢; (try k_fold); k_steps; all_goals ((try dsimp only); (refine' hret _ _ _ _ _ _ _ _ _ (by assumption) ?e0 ?e1 ?e2 ?e3 ?e4 ?hF ?hN; (case hF => assumption); (case e0 => ((try dsimp only); repeat (first | with_reducible exact Mine.lk_eq | with_reducible refine (Mine.lk_n (by decide)).trans ?_))); (case e1 => ((try dsimp only); repeat (first | with_reducible exact Mine.lk_eq | with_reducible refine (Mine.lk_n (by decide)).trans ?_))); (case e2 => ((try dsimp only); repeat (first | with_reducible exact Mine.lk_eq | with_reducible refine (Mine.lk_n (by decide)).trans ?_))); (case e3 => ((try dsimp only); repeat (first | with_reducible exact Mine.lk_eq | with_reducible refine (Mine.lk_n (by decide)).trans ?_))); (case e4 => ((try dsimp only); repeat (first | with_reducible exact Mine.lk_eq | with_reducible refine (Mine.lk_n (by decide)).trans ?_))); (case hN => refine' cb_drop ?cbN ?cbS; (case cbN => assumption); (case cbS => kcj_all)))))
end Mine
end
section
open PySem PySem.W PyProof.Rows
set_option maxRecDepth 100000
set_option maxHeartbeats 4000000
local macro_rules | `(tactic| passes_own) => `(tactic| assumption)
namespace Mine
theorem law_last {w : World} {mg mb : PySem.Str → Option Value} {loose : List PySem.Str} {mean : ExcName → Option Value} {dp un : Nat} {gd : Option (List Code)} {a : Addr} {ccd : Value} {A₀ : Around} {base h₀ : Heap} {L : Addr} {u : PySem.Str → Option Value} {s : Shared} {Q : Flow → Shared → Prop} {E : Value → Shared → Prop} {news : List (Addr × Obj)} 
    (F : Fr h₀ L s.heap u)
    (B : Below A₀ base [] h₀) (X : (hd.heap_39 w.params).In h₀) (N : News h₀ L s.heap news) (T : Top hd.view_39 loose mean mg mb h₀) (XB : (hd.heap_39 w.params).In base) (TB : Top hd.view_39 loose mean mg mb base) (Z : h₀.get? 49 = some zeroObj) (hroom : dp + 6 < recursionLimit) (hunits : un + 48 < cLine)
    (hE : PassesOwn (model PySem.Challenge.rw_il0028_01.row.prog w) (ktrTop dp un gd (fnd w.params 118).qualname (fnd w.params 118).scope L a ccd [] []) (envX (fnd w.params 118).qualname (fnd w.params 118).scope L a ccd []) E)
    (hret : ∀ (m' : PySem.Str → Option Value) (h' : Heap) (tk' : Nat) (nw : List (Addr × Obj)), Fr h₀ L h' m' → News h₀ L h' nw → Q (.ret (.bool true)) { s with heap := h', toks := tk' }) :
    wpAny (model PySem.Challenge.rw_il0028_01.row.prog w) (ktrTop dp un gd (fnd w.params 118).qualname (fnd w.params 118).scope L a ccd [] []) (execs ((fb w.params 118).drop 6) (envX (fnd w.params 118).qualname (fnd w.params 118).scope L a ccd [])) Q E s := by
  k_with_none
  k_with "eval Tuple" => (k_here; dsimp only; (try k_gentoks))
  k_with "eval Call" => (k_here; dsimp only; (try k_gentoks))
  k_with "eval Attribute" => (k_here; dsimp only; (try k_gentoks))
  k_with "exec Assign" => (k_here; dsimp only; (try k_gentoks))
  k_with "exec If" => (k_here; dsimp only; (try k_gentoks))
  k_with "exec For" => (k_here; dsimp only; (try k_gentoks))
  k_with "execs cons" => (k_here; dsimp only; (try k_gentoks))
  k_with "execs nil" => (k_here; dsimp only; (try k_gentoks))
  k_with "pyIter ref" => (k_here; dsimp only; (try k_gentoks))
  k_with "newTuple" => (k_here; dsimp only; (try k_gentoks))
  k_with "assign Tuple" => (k_here; dsimp only; (try k_gentoks))
  k_with "ItemsRest" => (dsimp only)
  k_with "UnrPostW" => (dsimp only)
  k_with "UnrEndW" => (dsimp only)
  w_on
  (revert X; k_fill; intro X)
  have efd := fnd_of (P := w.params) (f := 118) (by k_is)
  unfold fb
  rw [efd] at hE ⊢
  clear efd
  w_strict (dsimp only [List.drop] at hE ⊢; (try k_fold); k_steps; all_goals ((try dsimp only); exact hret _ _ _ _ F N))
end Mine
namespace Mine
theorem drop_is {P : Params} : (fb P 118).drop 5 = stAt (fb P 118) 5 :: (fb P 118).drop 6 := by
  have h : ∃ o, (hd.heap_39 P).lookup 118 = some o ∧ ∃ fd, o.data = .func fd ∧ ∃ b, fd.body = .stmts b ∧ b.drop 5 = stAt b 5 :: b.drop 6 := ⟨_, by with_unfolding_all rfl, _, rfl, _, rfl, rfl⟩
  obtain ⟨o, ho, fd, hfd, b, hb, h1⟩ := h
  have e : fnd P 118 = fd := by
    obtain ⟨a1, a2, a3, a4⟩ := o
    cases hfd
    exact fnd_of ho
  have e2 : fb P 118 = b := by
    unfold fb
    rw [e, hb]
  rw [e2]
  exact h1
theorem law_body {w : World} {mg mb : PySem.Str → Option Value} {loose : List PySem.Str} {mean : ExcName → Option Value} {dp un : Nat} {gd : Option (List Code)} {a : Addr} {ccd : Value} {A₀ : Around} {base h₀ : Heap} {L : Addr} {u : PySem.Str → Option Value} {s : Shared} {Q : Flow → Shared → Prop} {E : Value → Shared → Prop} {sl : Addr} {vs : List Value} {ns : List Int} (hL : h₀.IsList sl vs.toArray) (hI : IntsAre vs ns) (hlen : ns.length ≤ 63)
    (F : Fr h₀ L s.heap (fun z => if z = PySem.Str.ofString "script" then some (.ref sl) else u z))
    (B : Below A₀ base [] h₀) (X : (hd.heap_39 w.params).In h₀) (N : News h₀ L s.heap []) (T : Top hd.view_39 loose mean mg mb h₀) (XB : (hd.heap_39 w.params).In base) (TB : Top hd.view_39 loose mean mg mb base) (Z : h₀.get? 49 = some zeroObj) (hroom : dp + 6 < recursionLimit) (hunits : un + 48 < cLine)
    (hE : PassesOwn (model PySem.Challenge.rw_il0028_01.row.prog w) (ktrTop dp un gd (fnd w.params 118).qualname (fnd w.params 118).scope L a ccd [] []) (envX (fnd w.params 118).qualname (fnd w.params 118).scope L a ccd []) E)
    (hret : ∀ (m' : PySem.Str → Option Value) (h' : Heap) (tk' : Nat) (nw : List (Addr × Obj)), Fr h₀ L h' m' → News h₀ L h' nw → Q (.ret (.bool true)) { s with heap := h', toks := tk' }) :
    wpAny (model PySem.Challenge.rw_il0028_01.row.prog w) (ktrTop dp un gd (fnd w.params 118).qualname (fnd w.params 118).scope L a ccd [] []) (execs (fb w.params 118) (envX (fnd w.params 118).qualname (fnd w.params 118).scope L a ccd [])) Q E s := by
  refine execs_take 5 ?_
  refine @law_first w mg mb loose mean dp un gd a ccd A₀ base h₀ L u s _ E sl vs ns hL hI hlen F B X N T XB TB Z hroom hunits hE (fun f l r arr c tb m' h' tk' hrow e0 e1 e2 e3 e4 F1 N1 => ?_)
  show wpAny _ _ (execs ((fb w.params 118).drop 5) _) Q E _
  obtain ⟨u1, F2⟩ := fr_c5 F1 _ _ _ _ _ e0 e1 e2 e3 e4
  rw [drop_is]
  refine wpAny_execs_cons ?_
  have N2 : News h₀ L h' [(f, dtOf 0 0), (r, W.listOf arr c), (l, dtOf 315537897599 0), (f, dtOf 0 0)] := fun p hp => N1 p (by
    simp only [List.mem_cons, List.not_mem_nil, or_false] at hp ⊢
    rcases hp with rfl | rfl | rfl | rfl
    · exact .inr (.inr rfl)
    · exact .inl rfl
    · exact .inr (.inl rfl)
    · exact .inr (.inr rfl))
  refine @law_loop w mg mb loose mean dp un gd a ccd A₀ base h₀ L u1 { s with heap := h', toks := tk' } _ E f l r f 0 tb arr c hrow ⟨by decide, by decide⟩ F2 B X N2 T XB TB Z hroom hunits hE (fun m2 h2 tk2 nw F3 N3 => ?_)
  show wpAny _ _ (execs ((fb w.params 118).drop 6) _) Q E _
  exact @law_last w mg mb loose mean dp un gd a ccd A₀ base h₀ L m2 { s with heap := h2, toks := tk2 } Q E nw F3 B X N3 T XB TB Z hroom hunits hE (fun m3 h3 tk3 nw F4 N4 => hret m3 h3 tk3 nw F4 N4)
theorem law_go {qn : PySem.Str} {sc : Scope} {bd : List Stmt} {w : World} {mg mb : PySem.Str → Option Value} {loose : List PySem.Str} {mean : ExcName → Option Value} {dp un : Nat} {gd : Option (List Code)} {a : Addr} {ccd : Value} {A₀ : Around} {base h₀ : Heap} {L : Addr} {u : PySem.Str → Option Value} {s : Shared} {Q : Flow → Shared → Prop} {E : Value → Shared → Prop} {sl : Addr} {vs : List Value} {ns : List Int} (e1 : (fnd w.params 118).qualname = qn) (e2 : (fnd w.params 118).scope = sc) (e3 : fb w.params 118 = bd) (hL : h₀.IsList sl vs.toArray) (hI : IntsAre vs ns) (hlen : ns.length ≤ 63)
    (F : Fr h₀ L s.heap (fun z => if z = PySem.Str.ofString "script" then some (.ref sl) else u z))
    (B : Below A₀ base [] h₀) (X : (hd.heap_39 w.params).In h₀) (N : News h₀ L s.heap []) (T : Top hd.view_39 loose mean mg mb h₀) (XB : (hd.heap_39 w.params).In base) (TB : Top hd.view_39 loose mean mg mb base) (Z : h₀.get? 49 = some zeroObj) (hroom : dp + 6 < recursionLimit) (hunits : un + 48 < cLine) (hE : PassesOwn (model PySem.Challenge.rw_il0028_01.row.prog w) (ktrTop dp un gd qn sc L a ccd [] []) (envX qn sc L a ccd []) E)
    (hret : ∀ (m' : PySem.Str → Option Value) (h' : Heap) (tk' : Nat) (nw : List (Addr × Obj)), Fr h₀ L h' m' → News h₀ L h' nw → Q (.ret (.bool true)) { s with heap := h', toks := tk' }) :
    wpAny (model PySem.Challenge.rw_il0028_01.row.prog w) (ktrTop dp un gd qn sc L a ccd [] []) (execs bd (envX qn sc L a ccd [])) Q E s := by
  subst e1 e2 e3
  exact law_body hL hI hlen F B X N T XB TB Z hroom hunits hE hret
theorem main : PySem.Challenge.rw_il0028_01.Holds := hd (by
  k_with_none
  k_with "eval Tuple" => (k_here; dsimp only; (try k_gentoks))
  k_with "eval Call" => (k_here; dsimp only; (try k_gentoks))
  k_with "eval Attribute" => (k_here; dsimp only; (try k_gentoks))
  k_with "exec Assign" => (k_here; dsimp only; (try k_gentoks))
  k_with "exec If" => (k_here; dsimp only; (try k_gentoks))
  k_with "exec For" => (k_here; dsimp only; (try k_gentoks))
  k_with "execs cons" => (k_here; dsimp only; (try k_gentoks))
  k_with "execs nil" => (k_here; dsimp only; (try k_gentoks))
  k_with "pyIter ref" => (k_here; dsimp only; (try k_gentoks))
  k_with "newTuple" => (k_here; dsimp only; (try k_gentoks))
  k_with "assign Tuple" => (k_here; dsimp only; (try k_gentoks))
  k_with "ItemsRest" => (dsimp only)
  k_with "UnrPostW" => (dsimp only)
  k_with "UnrEndW" => (dsimp only)
  w_strict (k_fill; intro w s₀ s₁ mg mb G Y fa o pm cd doc dV kV ho hdd hcd hD hmg hg args vals as hpre hlay hrd hwl hlo; have KX := Y.1; have KZ := Y.2; (have X := (Ground.X G).1); (have V := (Ground.X G).2); (refine Ground.open G ?_); intro T B D TE TW; (try (refine guard_noD D (by decide +kernel) ?_; clear D)); (obtain ⟨_, _, M⟩ := bmod_of_top T); (have TA := at_of_top T); (try (obtain ⟨_, _, he, B0⟩ := based_of_top T rfl hmg ho hdd; have he' : cd = _ := he; subst he'; clear he)); clear hmg; wrow_args hpre hlay hrd hwl hlo; (all_goals ((first | refine callC_kw (enter_call ?_) | refine enter_call ?_); w_top on; (try refine codeAny_mono ?_ (fun _ _ g => GoodW.toG g)); have K0 := below_caller (Top.heap T); w_call any ho hdd hcd hD T F; clear hdd TA; k_drop)); (all_goals try k_fold); (rename Fr _ _ _ _ => lF'); (refine Exists.elim (Mine.fr_c1 lF' (PySem.Str.ofString "script") (by with_unfolding_all rfl)) ?_); intro u9 F9'; clear lF'; have efd := fnd_of (P := w.params) (f := 118) (by k_is); have e3 : fb w.params 118 = _ := (by unfold fb; rw [efd]); refine' law_go (gd := callerA.guards) (dp := callerA.depth + 1) (un := callerA.units + 3) (by rw [efd]) (by rw [efd]) e3 ?hL ?hI ?hlen F9' ?kB ?kX ?kN ?kT ?kXB ?kTB KZ ?kr ?ku ?kE ?kret; (case hL => assumption); (case hI => assumption); (case hlen => omega); (case kB => assumption); (case kX => exact KX); (case kN => assumption); (case kT => assumption); (case kXB => exact KX); (case kTB => assumption); (case kr => decide); (case ku => decide); (case kE => exact PySem.PassesOwn.leaving); (case kret => (intro m8 h8 tk8 nw8 F8 N8; (try dsimp only); k_steps))))
end Mine
end
set_option maxRecDepth 100000 in
theorem PySem.Challenge.cw_il0028_01_holds : PySem.Challenge.rw_il0028_01.Holds := by
  exact Mine.main
