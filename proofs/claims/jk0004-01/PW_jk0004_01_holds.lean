import PyProof.Rows.All
import Wide.All
import OpenK.AllK
import Wide.FinOn
import Lean
import PySem.Challenge.RW_jk0004_01
set_option Elab.async false
set_option linter.unusedSimpArgs false
set_option linter.unusedVariables false
set_option rowWalk.seconds 0
section
open PySem PySem.W PyProof.Rows
set_option Elab.async false
set_option maxRecDepth 100000
set_option maxHeartbeats 8000000
namespace Mine
open_top hd for PySem.Challenge.rw_jk0004_01
end Mine
end
section
namespace Mine
def leapY (y : Int) : Bool := y.fmod 4 == 0 && (y.fmod 100 != 0 || y.fmod 400 == 0)
def jan (y : Int) : Int := 2451545 + 146097 * (y - 2000).fdiv 400 + 365 * (y - 2000).fmod 400 + ((y - 2000).fmod 400 + 3).fdiv 4 - (max 0 ((y - 2000).fmod 400 - 1)).fdiv 100
def dimG (y m : Int) : Int := if m = 2 then (if leapY y = true then 29 else 28) else (if ([4, 6, 9, 11].any fun x => x == m) = true then 30 else 31)
def jdG (y m d : Int) : Int := 1721426 - 1 + 365 * (y - 1) + (y - 1).fdiv 4 + -((y - 1).fdiv 100) + (y - 1).fdiv 400 + ((367 * m - 362).fdiv 12 + (if m ≤ 2 then 0 else if leapY y = true then -1 else -2) + d)
def cumG (l : Bool) (m : Int) : Int := (367 * m - 362) / 12 + (if m ≤ 2 then 0 else if l = true then -1 else -2)
/-- day number yd (from 0) of a year is day d of month m -/
def MD (l : Bool) (yd m d : Int) : Prop := 1 ≤ m ∧ m ≤ 12 ∧ 1 ≤ d ∧ d ≤ cumG l (m + 1) - cumG l m ∧ yd = cumG l m + d - 1
def jan2 (y : Int) : Int := 1721426 + 365 * (y - 1) + (y - 1) / 4 - (y - 1) / 100 + (y - 1) / 400

theorem fd {a b : Int} (h : 0 ≤ b) : a.fdiv b = a / b := Int.fdiv_eq_ediv_of_nonneg a h
theorem fm {a b : Int} (h : 0 ≤ b) : a.fmod b = a % b := Int.fmod_eq_emod_of_nonneg a h

theorem fin_int {P : Int → Prop} (n : Nat) (h : ∀ k : Fin n, P (k.val : Int)) {x : Int} (h0 : 0 ≤ x) (h1 : x < n) : P x := by
  obtain ⟨k, rfl⟩ := Int.eq_ofNat_of_zero_le h0
  exact h ⟨k, by omega⟩
theorem jan_eq (y : Int) : jan y = jan2 y := by
  unfold jan jan2
  simp only [fd (show (0:Int) ≤ 400 by decide), fm (show (0:Int) ≤ 400 by decide), fd (show (0:Int) ≤ 4 by decide), fd (show (0:Int) ≤ 100 by decide)]
  omega
theorem leapY_iff (y : Int) : leapY y = true ↔ (y % 4 = 0 ∧ (y % 100 ≠ 0 ∨ y % 400 = 0)) := by
  unfold leapY
  simp only [fm (show (0:Int) ≤ 400 by decide), fm (show (0:Int) ≤ 4 by decide), fm (show (0:Int) ≤ 100 by decide)]
  simp
theorem div_succ {z n : Int} (h : 0 < n) : (z + 1) / n = z / n + (if (z + 1) % n = 0 then 1 else 0) := by
  have e := Int.emod_add_mul_ediv z n
  have a := Int.emod_nonneg z (Int.ne_of_gt h)
  have b := Int.emod_lt_of_pos z h
  by_cases q : z % n + 1 = n
  · have u := (Int.ediv_emod_unique (a := z + 1) (b := n) (r := 0) (q := z / n + 1) h).mpr ⟨by rw [Int.mul_add, Int.mul_one]; omega, Int.le_refl 0, h⟩
    rw [u.1, u.2, if_pos rfl]
  · have u := (Int.ediv_emod_unique (a := z + 1) (b := n) (r := z % n + 1) (q := z / n) h).mpr ⟨by omega, by omega, by omega⟩
    rw [u.1, u.2, if_neg (by omega), Int.add_zero]
theorem jan2_step (y : Int) : jan2 (y + 1) - jan2 y = if leapY y = true then 366 else 365 := by
  have h := leapY_iff y
  unfold jan2
  have e4 := @div_succ (y - 1) 4 (by decide)
  have e100 := @div_succ (y - 1) 100 (by decide)
  have e400 := @div_succ (y - 1) 400 (by decide)
  rw [Int.sub_add_cancel] at e4 e100 e400
  rw [Int.add_sub_cancel, e4, e100, e400]
  clear e4 e100 e400
  generalize (y - 1) / 4 = a
  generalize (y - 1) / 100 = b
  generalize (y - 1) / 400 = c
  by_cases h4 : y % 4 = 0
  · by_cases h100 : y % 100 = 0
    · by_cases h400 : y % 400 = 0
      · rw [if_pos h4, if_pos h100, if_pos h400, if_pos (h.mpr ⟨h4, .inr h400⟩)]; clear h h4 h100 h400; omega
      · rw [if_pos h4, if_pos h100, if_neg h400, if_neg (fun q => (h.mp q).2.elim (fun e => e h100) h400)]; clear h h4 h100 h400; omega
    · have h400 : y % 400 ≠ 0 := by clear h h4; omega
      rw [if_pos h4, if_neg h100, if_neg h400, if_pos (h.mpr ⟨h4, .inl h100⟩)]; clear h h4 h100 h400; omega
  · have h100 : y % 100 ≠ 0 := by clear h; omega
    have h400 : y % 400 ≠ 0 := by clear h h100; omega
    rw [if_neg h4, if_neg h100, if_neg h400, if_neg (fun q => h4 (h.mp q).1)]; clear h h4 h100 h400; omega
theorem jan2_lt (y : Int) : jan2 y + 365 ≤ jan2 (y + 1) ∧ jan2 (y + 1) ≤ jan2 y + 366 := by
  have := jan2_step y
  split at this <;> omega
theorem jan2_add (y : Int) (n : Nat) : jan2 y + 365 * n ≤ jan2 (y + n) := by
  induction n with
  | zero => simp
  | succ n ih =>
    have := jan2_lt (y + n)
    have e : y + ((n + 1 : Nat) : Int) = y + n + 1 := by omega
    rw [e]; omega
theorem jan2_mono {a b : Int} (h : a ≤ b) : jan2 a + 365 * (b - a) ≤ jan2 b := by
  have := jan2_add a (b - a).toNat
  have e : a + ((b - a).toNat : Int) = b := by omega
  rw [e] at this
  omega
theorem jan_uniq {a b n : Int} (h1 : jan2 a ≤ n) (h2 : n < jan2 (a + 1)) (h3 : jan2 b ≤ n) (h4 : n < jan2 (b + 1)) : a = b := by
  rcases Int.lt_trichotomy a b with h | h | h
  · have := @jan2_mono (a + 1) b (by omega); omega
  · exact h
  · have := @jan2_mono (b + 1) a (by omega); omega
theorem jan2_of {q c k i : Int} (hc : 0 ≤ c) (hc' : c ≤ 3) (hk : 0 ≤ k) (hk' : k ≤ 24) (hi : 0 ≤ i) (hi' : i ≤ 3) : jan2 (400 * q + 100 * c + 4 * k + i + 1) = 1721426 + 146097 * q + 36524 * c + 1461 * k + 365 * i := by
  unfold jan2
  have e1 : (400 * q + 100 * c + 4 * k + i + 1 - 1) / 4 = 100 * q + 25 * c + k := by omega
  have e2 : (400 * q + 100 * c + 4 * k + i + 1 - 1) / 100 = 4 * q + c := by omega
  have e3 : (400 * q + 100 * c + 4 * k + i + 1 - 1) / 400 = q := by omega
  rw [e1, e2, e3]; omega
def yG (jd : Int) : Int := (jd - 1721426).fdiv 146097 * 400 + ((jd - 1721426).fmod 146097).fdiv 36524 * 100 + (((jd - 1721426).fmod 146097).fmod 36524).fdiv 1461 * 4 + ((((jd - 1721426).fmod 146097).fmod 36524).fmod 1461).fdiv 365
theorem dmf {a b : Int} (hb : 0 < b) : a = b * a.fdiv b + a.fmod b ∧ 0 ≤ a.fmod b ∧ a.fmod b < b := by
  rw [fd (Int.le_of_lt hb), fm (Int.le_of_lt hb)]
  exact ⟨(Int.mul_ediv_add_emod a b).symm, Int.emod_nonneg _ (Int.ne_of_gt hb), Int.emod_lt_of_pos _ hb⟩
theorem yG_eq (jd : Int) : ∃ q c k i r rc rk ri : Int, yG jd = q * 400 + c * 100 + k * 4 + i ∧ ((jd - 1721426).fmod 146097).fdiv 36524 = c ∧ ((((jd - 1721426).fmod 146097).fmod 36524).fmod 1461).fdiv 365 = i ∧ (jd - 1721426 = 146097 * q + r ∧ 0 ≤ r ∧ r < 146097) ∧ (r = 36524 * c + rc ∧ 0 ≤ rc ∧ rc < 36524) ∧ (rc = 1461 * k + rk ∧ 0 ≤ rk ∧ rk < 1461) ∧ (rk = 365 * i + ri ∧ 0 ≤ ri ∧ ri < 365) :=
  ⟨_, _, _, _, _, _, _, _, rfl, rfl, rfl, dmf (by decide), dmf (by decide), dmf (by decide), dmf (by decide)⟩
theorem yG_bd {q c k i r rc rk ri e : Int} (a : e = 146097 * q + r ∧ 0 ≤ r ∧ r < 146097) (b : r = 36524 * c + rc ∧ 0 ≤ rc ∧ rc < 36524) (d : rc = 1461 * k + rk ∧ 0 ≤ rk ∧ rk < 1461) (f : rk = 365 * i + ri ∧ 0 ≤ ri ∧ ri < 365) : (0 ≤ c ∧ c ≤ 4) ∧ (0 ≤ k ∧ k ≤ 24) ∧ (0 ≤ i ∧ i ≤ 4) := by
  refine ⟨?_, ?_, ?_⟩
  · clear d f; omega
  · clear a f; omega
  · clear a b; omega
theorem yG_4 {q c k i r rc rk ri e : Int} (a : e = 146097 * q + r ∧ 0 ≤ r ∧ r < 146097) (b : r = 36524 * c + rc ∧ 0 ≤ rc ∧ rc < 36524) (d : rc = 1461 * k + rk ∧ 0 ≤ rk ∧ rk < 1461) (f : rk = 365 * i + ri ∧ 0 ≤ ri ∧ ri < 365) (hb : (0 ≤ c ∧ c ≤ 4) ∧ (0 ≤ k ∧ k ≤ 24) ∧ (0 ≤ i ∧ i ≤ 4)) (h4 : c = 4) : k = 0 ∧ i = 0 ∧ e = 146097 * q + 146096 := by
  subst h4
  have z : rc = 0 := by clear d f hb; omega
  have k0 : k = 0 ∧ rk = 0 := by clear a b f; omega
  have i0 : i = 0 := by clear a b d; omega
  refine ⟨k0.1, i0, ?_⟩
  clear d f hb k0 i0
  omega
theorem yG_i {q c k i r rc rk ri e : Int} (a : e = 146097 * q + r ∧ 0 ≤ r ∧ r < 146097) (b : r = 36524 * c + rc ∧ 0 ≤ rc ∧ rc < 36524) (d : rc = 1461 * k + rk ∧ 0 ≤ rk ∧ rk < 1461) (f : rk = 365 * i + ri ∧ 0 ≤ ri ∧ ri < 365) (h4 : i = 4) : k + 1 ≤ 24 ∧ e = 146097 * q + 36524 * c + 1461 * k + 1460 := by
  subst h4
  have z : rk = 1460 := by clear a b; omega
  subst z
  refine ⟨by clear a f; omega, ?_⟩
  rw [a.1, b.1, d.1]
  clear a b d f
  omega
theorem yG_a {jd y : Int} (h1 : jan y ≤ jd) (h2 : jd < jan (y + 1)) (h : ((jd - 1721426).fmod 146097).fdiv 36524 = 4 ∨ ((((jd - 1721426).fmod 146097).fmod 36524).fmod 1461).fdiv 365 = 4) : yG jd = y := by
  rw [jan_eq] at h1 h2
  obtain ⟨q, c, k, i, r, rc, rk, ri, e, hc, hi, a, b, d, f⟩ := yG_eq jd
  rw [hc, hi] at h
  rw [e]
  clear e hc hi
  have hb := yG_bd a b d f
  by_cases h4 : c = 4
  · obtain ⟨rfl, rfl, z⟩ := yG_4 a b d f hb h4
    subst h4
    clear a b d f hb h
    have e1 := @jan2_of q 3 24 3 (by decide) (by decide) (by decide) (by decide) (by decide) (by decide)
    have e2 := @jan2_of (q + 1) 0 0 0 (by decide) (by decide) (by decide) (by decide) (by decide) (by decide)
    rw [show 400 * q + 100 * 3 + 4 * 24 + 3 + 1 = q * 400 + 4 * 100 + 0 * 4 + 0 by clear e1 e2 z h1 h2; omega] at e1
    rw [show 400 * (q + 1) + 100 * 0 + 4 * 0 + 0 + 1 = q * 400 + 4 * 100 + 0 * 4 + 0 + 1 by clear e1 e2 z h1 h2; omega] at e2
    refine jan_uniq (n := jd) ?_ ?_ h1 h2 <;> clear h1 h2
    · rw [e1]; clear e1 e2; omega
    · rw [e2]; clear e1 e2; omega
  · have hc3 : c ≤ 3 := by clear a b d f h; omega
    obtain ⟨hk, z⟩ := yG_i a b d f (h.resolve_left h4)
    have h4' := h.resolve_left h4
    subst h4'
    clear a b d f h
    have e1 := @jan2_of q c k 3 hb.1.1 hc3 hb.2.1.1 hb.2.1.2 (by decide) (by decide)
    have e2 := @jan2_of q c (k + 1) 0 hb.1.1 hc3 (by clear e1 h1 h2 z; omega) hk (by decide) (by decide)
    clear hb hk hc3 h4
    rw [show 400 * q + 100 * c + 4 * k + 3 + 1 = q * 400 + c * 100 + k * 4 + 4 by clear e1 e2 z h1 h2; omega] at e1
    rw [show 400 * q + 100 * c + 4 * (k + 1) + 0 + 1 = q * 400 + c * 100 + k * 4 + 4 + 1 by clear e1 e2 z h1 h2; omega] at e2
    refine jan_uniq (n := jd) ?_ ?_ h1 h2 <;> clear h1 h2
    · rw [e1]; clear e1 e2; omega
    · rw [e2]; clear e1 e2; omega
theorem yG_b {jd y : Int} (h1 : jan y ≤ jd) (h2 : jd < jan (y + 1)) (h : ((jd - 1721426).fmod 146097).fdiv 36524 ≠ 4) (h' : ((((jd - 1721426).fmod 146097).fmod 36524).fmod 1461).fdiv 365 ≠ 4) : yG jd + 1 = y := by
  rw [jan_eq] at h1 h2
  obtain ⟨q, c, k, i, r, rc, rk, ri, e, hc, hi, a, b, d, f⟩ := yG_eq jd
  rw [hc] at h
  rw [hi] at h'
  rw [e]
  clear e hc hi
  have hb := yG_bd a b d f
  have e := @jan2_of q c k i hb.1.1 (by clear a b d f h'; omega) hb.2.1.1 hb.2.1.2 hb.2.2.1 (by clear a b d f h; omega)
  have st := jan2_lt (400 * q + 100 * c + 4 * k + i + 1)
  have e0 : q * 400 + c * 100 + k * 4 + i + 1 = 400 * q + 100 * c + 4 * k + i + 1 := by clear e st a b d f h h' h1 h2 hb; omega
  rw [e0]
  refine jan_uniq (n := jd) ?_ ?_ h1 h2 <;> clear h1 h2 h h' hb e0
  · rw [e]; clear st e; omega
  · omega
theorem jdG_eq {y m d : Int} : jdG y m d = jan y + cumG (leapY y) m + d - 1 := by
  rw [jan_eq]
  unfold jdG jan2 cumG
  simp only [fd (show (0:Int) ≤ 400 by decide), fd (show (0:Int) ≤ 4 by decide), fd (show (0:Int) ≤ 100 by decide), fd (show (0:Int) ≤ 12 by decide)]
  omega
theorem jdG_11 {y : Int} : jdG y 1 1 = jan y := by
  rw [jdG_eq]; unfold cumG; simp
theorem dim_fin (l : Bool) : ∀ k : Fin 13, 1 ≤ (k.val : Int) → (if (k.val : Int) = 2 then (if l = true then (29 : Int) else 28) else (if ([4, 6, 9, 11].any fun x : Int => x == (k.val : Int)) = true then 30 else 31)) = cumG l ((k.val : Int) + 1) - cumG l (k.val : Int) := by
  cases l <;> decide +kernel
theorem dim_eq {y m : Int} (h1 : 1 ≤ m) (h2 : m ≤ 12) : dimG y m = cumG (leapY y) (m + 1) - cumG (leapY y) m := by
  unfold dimG
  generalize leapY y = l
  exact fin_int (P := fun m => 1 ≤ m → (if m = 2 then (if l = true then (29 : Int) else 28) else (if ([4, 6, 9, 11].any fun x : Int => x == m) = true then 30 else 31)) = cumG l (m + 1) - cumG l m) 13 (dim_fin l) (by omega) (by omega) h1
theorem cum_le (l : Bool) : ∀ k : Fin 13, 1 ≤ (k.val : Int) → cumG l ((k.val : Int) + 1) - cumG l (k.val : Int) ≤ 31 := by
  cases l <;> decide +kernel
theorem md_fin (l : Bool) : ∀ k : Fin 13, ∀ e : Fin 32, 1 ≤ (k.val : Int) → 1 ≤ (e.val : Int) → (e.val : Int) ≤ cumG l ((k.val : Int) + 1) - cumG l (k.val : Int) →
    ((cumG l (k.val : Int) + (e.val : Int) - 1 + (if cumG l (k.val : Int) + (e.val : Int) - 1 < 58 + (if l = true then 1 else 0) then 0 else if l = true then 1 else 2)) * 12 + 373).fdiv 367 = (k.val : Int) := by
  cases l <;> decide +kernel
theorem md_month {l : Bool} {yd m d adj : Int} (h : MD l yd m d) (ha : (yd < 58 + (if l = true then 1 else 0) → adj = 0) ∧ (¬ yd < 58 + (if l = true then 1 else 0) → adj = if l = true then 1 else 2)) : ((yd + adj) * 12 + 373).fdiv 367 = m := by
  obtain ⟨h1, h2, h3, h4, h5⟩ := h
  have hd : d ≤ 31 := Int.le_trans h4 (fin_int (P := fun m => 1 ≤ m → cumG l (m + 1) - cumG l m ≤ 31) 13 (cum_le l) (by omega) (by omega) h1)
  have e : adj = if yd < 58 + (if l = true then 1 else 0) then 0 else if l = true then 1 else 2 := by
    by_cases q : yd < 58 + (if l = true then 1 else 0)
    · rw [if_pos q]; exact ha.1 q
    · rw [if_neg q]; exact ha.2 q
  rw [e, h5]
  exact fin_int (P := fun d => 1 ≤ m → 1 ≤ d → d ≤ cumG l (m + 1) - cumG l m → ((cumG l m + d - 1 + (if cumG l m + d - 1 < 58 + (if l = true then 1 else 0) then 0 else if l = true then 1 else 2)) * 12 + 373).fdiv 367 = m) 32
    (fun e => fin_int (P := fun m => 1 ≤ m → 1 ≤ (e.val : Int) → (e.val : Int) ≤ cumG l (m + 1) - cumG l m → ((cumG l m + (e.val : Int) - 1 + (if cumG l m + (e.val : Int) - 1 < 58 + (if l = true then 1 else 0) then 0 else if l = true then 1 else 2)) * 12 + 373).fdiv 367 = m) 13 (fun k => md_fin l k e) (by omega) (by omega)) (by omega) (by omega) h1 h3 h4
theorem jan2_ex (n : Int) : ∃ y, jan2 y ≤ n ∧ n < jan2 (y + 1) := by
  have up : ∀ k : Nat, ∀ y, jan2 y ≤ n → n < jan2 y + k → ∃ y, jan2 y ≤ n ∧ n < jan2 (y + 1) := by
    intro k
    induction k with
    | zero => intro y h1 h2; omega
    | succ k ih =>
      intro y h1 h2
      by_cases h : n < jan2 (y + 1)
      · exact ⟨y, h1, h⟩
      · have := jan2_lt y
        exact ih (y + 1) (by omega) (by omega)
  have down : ∃ y, jan2 y ≤ n := by
    refine ⟨-(n.natAbs : Int) - 10000, ?_⟩
    have := @jan2_mono (-(n.natAbs : Int) - 10000) 1 (by omega)
    have e : jan2 1 = 1721426 := by decide
    rw [e] at this
    omega
  obtain ⟨y, hy⟩ := down
  exact up (n - jan2 y + 1).toNat y hy (by omega)
theorem md_ex (y n : Int) (h1 : jan2 y ≤ n) (h2 : n < jan2 (y + 1)) : ∃ m d, MD (leapY y) (n - jan2 y) m d := by
  have st := jan2_step y
  generalize hk : n - jan2 y = k
  have hk0 : 0 ≤ k := by omega
  have hk1 : k < (if leapY y = true then 366 else 365) := by omega
  have c1 : ∀ l, cumG l 1 = 0 := by decide
  have c13 : ∀ l, cumG l 13 = if l = true then 366 else 365 := by decide
  have go : ∀ j : Nat, j ≤ 12 → cumG (leapY y) (j + 1) ≤ k ∨ ∃ m d, MD (leapY y) k m d := by
    intro j
    induction j with
    | zero => intro _; exact .inl (by have := c1 (leapY y); simp only [Int.ofNat_eq_natCast, Int.natCast_zero, Int.zero_add] at *; omega)
    | succ j ih =>
      intro hj
      rcases ih (by omega) with h | h
      · by_cases q : cumG (leapY y) ((j + 1 : Nat) + 1) ≤ k
        · exact .inl q
        · have e : ((j + 1 : Nat) : Int) + 1 = (j : Int) + 1 + 1 := by omega
          rw [e] at q
          exact .inr ⟨j + 1, k - cumG (leapY y) (j + 1) + 1, by omega, by omega, by omega, by omega, by omega⟩
      · exact .inr h
  rcases go 12 (by omega) with h | h
  · have e : ((12 : Nat) : Int) + 1 = 13 := by omega
    rw [e, c13] at h; omega
  · exact h
theorem greg_ex (n : Int) : ∃ y m d, jan y ≤ n ∧ n < jan (y + 1) ∧ MD (leapY y) (n - jan y) m d := by
  obtain ⟨y, h1, h2⟩ := jan2_ex n
  obtain ⟨m, d, h3⟩ := md_ex y n h1 h2
  exact ⟨y, m, d, by rw [jan_eq]; exact h1, by rw [jan_eq]; exact h2, by rw [jan_eq]; exact h3⟩
theorem jan_le {a b : Int} (h : a ≤ b) : jan a ≤ jan b := by
  rw [jan_eq, jan_eq]; have := jan2_mono h; omega
def Mono (Ef : Int → Int) : Prop := ∀ a b, a < b → Ef a < Ef b
theorem dim_pos (y m : Int) : 1 ≤ dimG y m := by unfold dimG; split <;> split <;> omega
theorem fromG_end {Y jd y mo da adj : Int} (hY : Y = y) (h3 : MD (leapY y) (jd - jan y) mo da)
    (ha : (jd - jdG Y 1 1 < 58 + (if leapY Y = true then 1 else 0) ∧ adj = 0) ∨ (¬ jd - jdG Y 1 1 < 58 + (if leapY Y = true then 1 else 0) ∧ leapY Y = true ∧ adj = 1) ∨ (¬ jd - jdG Y 1 1 < 58 + (if leapY Y = true then 1 else 0) ∧ leapY Y = false ∧ adj = 2)) :
    ((jd - jdG Y 1 1 + adj) * 12 + 373).fdiv 367 = mo ∧ jd - jdG Y mo 1 + 1 = da := by
  subst hY
  rw [jdG_11] at ha ⊢
  refine ⟨md_month h3 ?_, ?_⟩
  · rcases ha with ⟨a, b⟩ | ⟨a, b, c⟩ | ⟨a, b, c⟩
    · exact ⟨fun _ => b, fun q => absurd a q⟩
    · exact ⟨fun q => absurd q a, fun _ => by rw [if_pos b]; exact c⟩
    · exact ⟨fun q => absurd q a, fun _ => by rw [if_neg (by rw [b]; decide)]; exact c⟩
  · rw [jdG_eq]
    have := h3.2.2.2.2
    omega
end Mine
end
section
namespace Mine
def pyr (l : Int) : Int := ((2 * (l - 1948321) - 1) * 100000000 + 36524219878).fdiv (2 * 36524219878) + 1
structure Good (Ef : Int → Int) (Y : Int) : Prop where
  mono : Mono Ef
  lo : ∀ z, Ef z + 365 ≤ Ef (z + 1)
  hi : ∀ z, Y - 2 ≤ z → z ≤ Y → Ef (z + 1) ≤ Ef z + 366
  jan : ∀ z, Y - 2 ≤ z → z ≤ Y → jan z ≤ Ef z
  pyr : ∀ z, Y - 2 ≤ z → z ≤ Y → pyr (Ef z - 1) = z - 621
  g1 : Ef (Y - 2) ≤ 1948321 - 1 + (36524219878 * (Y - 621 - 1 - 1)).fdiv 100000000
  g2 : 1948321 - 1 + (36524219878 * (Y - 621 - 1 - 1)).fdiv 100000000 < Ef Y
def firstF (year start : Int) (odds : List Int) (x : Int) : Int :=
  if x - year ≥ 0 then start + 365 * (x - year) + (odds.take (if 8 < x - year then 8 else x - year).toNat).sum + (if x - year - 8 > 0 then x - year - 8 else 0).fdiv 4
  else start + 365 * (x - year) - ((odds.drop 8).take (min (8 + if 8 < -(x - year) then 8 else -(x - year)).toNat odds.length - 8)).sum - (if -(x - year) - 8 > 0 then -(x - year) - 8 else 0).fdiv 4

/-- the list of odd numbers: sixteen or more, each 0 or 1 -/
def Odds (l : List Int) : Prop := 16 ≤ l.length ∧ ∀ v ∈ l, v = 0 ∨ v = 1

theorem take_succ_sum : ∀ (l : List Int) (k : Nat), k < l.length → (∀ v ∈ l, v = 0 ∨ v = 1) → (l.take k).sum ≤ (l.take (k + 1)).sum ∧ (l.take (k + 1)).sum ≤ (l.take k).sum + 1
  | [], _, h, _ => absurd h (Nat.not_lt_zero _)
  | a :: r, 0, _, hv => by
    have := hv a (.head _)
    simp only [List.take_zero, List.take_succ_cons, List.sum_nil, List.sum_cons]
    omega
  | a :: r, k + 1, h, hv => by
    have ih := take_succ_sum r k (Nat.lt_of_succ_lt_succ h) fun v hm => hv v (.tail _ hm)
    simp only [List.take_succ_cons, List.sum_cons]
    omega
def wS (l : List Int) (n : Nat) : Int := (l.take (min n 8)).sum + (((n - 8) / 4 : Nat) : Int)
theorem wS_zero (l : List Int) : wS l 0 = 0 := by simp [wS]
theorem div4 (m : Nat) : m / 4 ≤ (m + 1) / 4 ∧ (m + 1) / 4 ≤ m / 4 + 1 := by omega
theorem wS_step {l : List Int} (h : 8 ≤ l.length) (hv : ∀ v ∈ l, v = 0 ∨ v = 1) (n : Nat) : wS l n ≤ wS l (n + 1) ∧ wS l (n + 1) ≤ wS l n + 1 := by
  unfold wS
  by_cases q : n < 8
  · have t := take_succ_sum l n (by omega) hv
    rw [Nat.min_eq_left (by omega), Nat.min_eq_left (by omega), Nat.sub_eq_zero_of_le (by omega), Nat.sub_eq_zero_of_le (by omega)]
    show _ + 0 ≤ _ + 0 ∧ _ + 0 ≤ _ + 0 + 1
    rw [Int.add_zero, Int.add_zero]; exact t
  · have t := div4 (n - 8)
    rw [Nat.min_eq_right (by omega), Nat.min_eq_right (by omega), show n + 1 - 8 = n - 8 + 1 by omega]
    generalize (n - 8) / 4 = a at t
    generalize (n - 8 + 1) / 4 = b at t
    clear q h hv
    omega
theorem if8 (n : Nat) : (if 8 < (n : Int) then 8 else (n : Int)).toNat = min n 8 := by split <;> omega
theorem if84 (n : Nat) : (if (n : Int) - 8 > 0 then (n : Int) - 8 else 0) / 4 = (((n - 8) / 4 : Nat) : Int) := by split <;> omega
section
variable {Y S : Int} {odds : List Int}
theorem first_up (n : Nat) : firstF Y S odds (Y + n) = S + 365 * n + wS odds n := by
  unfold firstF wS
  rw [show Y + (n : Int) - Y = n by omega, if_pos (by omega), fd (by decide), if8, if84]
  exact Int.add_assoc _ _ _
theorem first_down (hO : Odds odds) (n : Nat) : firstF Y S odds (Y - n) = S - 365 * n - wS (odds.drop 8) n := by
  by_cases h0 : n = 0
  · subst h0
    have := @first_up Y S odds 0
    rw [wS_zero] at this ⊢
    simpa using this
  · unfold firstF wS
    have h16 := hO.1
    have e : (8 + if 8 < (n : Int) then 8 else (n : Int)).toNat = 8 + min n 8 := by
      rw [← if8]; clear h16 hO h0; split <;> omega
    rw [show Y - (n : Int) - Y = -n by omega, if_neg (by clear h16 e; omega), fd (by decide), Int.neg_neg, e, if84]
    rw [show min (8 + min n 8) odds.length - 8 = min n 8 by clear e h0; omega]
    clear e h16 h0
    generalize (((odds.drop 8).take (min n 8)).sum) = a
    generalize (((n - 8) / 4 : Nat) : Int) = b
    omega
theorem first_zero : firstF Y S odds Y = S := by
  have := @first_up Y S odds 0
  rw [wS_zero] at this
  simpa using this
theorem first_step (hO : Odds odds) (z : Int) : firstF Y S odds z + 365 ≤ firstF Y S odds (z + 1) ∧ firstF Y S odds (z + 1) ≤ firstF Y S odds z + 366 := by
  have h16 := hO.1
  by_cases h : Y ≤ z
  · obtain ⟨n, rfl⟩ : ∃ n : Nat, z = Y + n := ⟨(z - Y).toNat, by clear h16; omega⟩
    have w := @wS_step odds (by clear h; omega) hO.2 n
    have e2 := @first_up Y S odds (n + 1)
    rw [show Y + ((n + 1 : Nat) : Int) = Y + n + 1 by clear w e2 h h16; omega] at e2
    rw [first_up, e2]
    clear e2 h h16
    omega
  · obtain ⟨n, rfl⟩ : ∃ n : Nat, z = Y - ((n + 1 : Nat) : Int) := ⟨(Y - z).toNat - 1, by clear h16; omega⟩
    have w := @wS_step (odds.drop 8) (by rw [List.length_drop]; clear h; omega) (fun v hv => hO.2 v (List.mem_of_mem_drop hv)) n
    have e2 := @first_down Y S odds hO n
    rw [show Y - ((n + 1 : Nat) : Int) + 1 = Y - n by clear w e2 h h16; omega, first_down hO, e2]
    clear e2 h h16
    omega
end
theorem mono_of {Ef : Int → Int} (h : ∀ z, Ef z + 365 ≤ Ef (z + 1)) : Mono Ef := by
  intro a b hab
  have go : ∀ n : Nat, Ef a + 365 * (n + 1) ≤ Ef (a + (n + 1)) := by
    intro n
    induction n with
    | zero => have := h a; simpa using this
    | succ n ih =>
      have := h (a + (n + 1))
      rw [show a + ((n + 1 : Nat) + 1 : Int) = a + (n + 1) + 1 by omega]
      omega
  have := go (b - a - 1).toNat
  rw [show a + (((b - a - 1).toNat : Int) + 1) = b by omega] at this
  omega
theorem jan_near (y : Int) : 146097 * (y - 1) - 699 ≤ 400 * (jan y - 1721426) ∧ 400 * (jan y - 1721426) ≤ 146097 * (y - 1) + 396 := by
  rw [jan_eq]; unfold jan2; omega
/-- what the walk asks of first days: S is that of the year Y -/
structure Near (Ef : Int → Int) (Y S : Int) : Prop where
  y1 : -2000 ≤ Y
  y2 : Y ≤ 10000
  s1 : jan (Y + 1) - 293 ≤ S
  s2 : S ≤ jan (Y + 1) - 278
  at0 : Ef Y = S
  lo : ∀ z, Ef z + 365 ≤ Ef (z + 1)
  hi : ∀ z, Ef (z + 1) ≤ Ef z + 366
section
variable {Ef : Int → Int} {Y S : Int}
theorem Near.run (N : Near Ef Y S) (a : Int) : ∀ n : Nat, Ef a + 365 * n ≤ Ef (a + n) ∧ Ef (a + n) ≤ Ef a + 366 * n
  | 0 => by rw [show a + ((0 : Nat) : Int) = a by omega]; omega
  | n + 1 => by
    have ih := Near.run N a n
    have l := N.lo (a + n)
    have u := N.hi (a + n)
    rw [show a + ((n + 1 : Nat) : Int) = a + n + 1 by omega]
    omega
theorem Near.around (N : Near Ef Y S) {k : Int} (_h1 : -3 ≤ k) (_h2 : k ≤ 2) : (0 ≤ k → S + 365 * k ≤ Ef (Y + k) ∧ Ef (Y + k) ≤ S + 366 * k) ∧ (k ≤ 0 → S + 366 * k ≤ Ef (Y + k) ∧ Ef (Y + k) ≤ S + 365 * k) := by
  have a0 := N.at0
  refine ⟨fun h => ?_, fun h => ?_⟩
  · have r := N.run Y k.toNat
    rw [Int.toNat_of_nonneg h] at r
    omega
  · have r := N.run (Y + k) (-k).toNat
    rw [Int.toNat_of_nonneg (by omega), show Y + k + -k = Y by omega] at r
    omega
theorem Near.pyr (N : Near Ef Y S) {k : Int} (h1 : -3 ≤ k) (h2 : k ≤ 2) : Mine.pyr (Ef (Y + k) - 1) = Y + k - 621 := by
  have a := N.around h1 h2
  have j := jan_near (Y + 1)
  have y1 := N.y1; have y2 := N.y2; have s1 := N.s1; have s2 := N.s2
  unfold Mine.pyr
  rw [fd (by decide)]
  generalize Ef (Y + k) = e at a
  generalize jan (Y + 1) = J at j s1 s2
  have b : S - 1098 ≤ e - 365 * k - 365 * 0 + 1098 := by omega
  have b1 : S + 365 * k - 3 ≤ e := by omega
  have b2 : e ≤ S + 365 * k + 3 := by omega
  clear a b
  have c : ((2 * (e - 1 - 1948321) - 1) * 100000000 + 36524219878) / (2 * 36524219878) = Y + k - 622 := by
    omega
  rw [c]; omega
theorem Near.mono (N : Near Ef Y S) : Mono Ef := mono_of N.lo
theorem jan_step_le (y : Int) : jan y + 365 ≤ jan (y + 1) ∧ jan (y + 1) ≤ jan y + 366 := by
  rw [jan_eq, jan_eq]; exact jan2_lt y
theorem jan_mono {a b : Int} (h : a ≤ b) : Mine.jan a + 365 * (b - a) ≤ Mine.jan b := by
  rw [jan_eq, jan_eq]; exact jan2_mono h
theorem Near.jan (N : Near Ef Y S) {k : Int} (h1 : -3 ≤ k) (h2 : k ≤ 2) : Mine.jan (Y + k) ≤ Ef (Y + k) := by
  have a := N.around h1 h2
  have s1 := N.s1
  by_cases hk : k = 2
  · subst hk
    have j := (jan_step_le (Y + 1)).2
    rw [show Y + 1 + 1 = Y + 2 by omega] at j
    have a := a.1 (by decide)
    omega
  · have j := jan_mono (show Y + k ≤ Y + 1 by omega)
    by_cases h0 : 0 ≤ k
    · have a := (a.1 h0).1
      omega
    · have a := (a.2 (by omega)).1
      omega
theorem Near.g (N : Near Ef Y S) {k : Int} (h1 : 0 ≤ k) (h2 : k ≤ 1) : Ef (Y + k - 2) ≤ 1948321 - 1 + (36524219878 * (Y + k - 621 - 1 - 1)).fdiv 100000000 ∧ 1948321 - 1 + (36524219878 * (Y + k - 621 - 1 - 1)).fdiv 100000000 < Ef (Y + k) := by
  have a := N.around (k := k - 2) (by omega) (by omega)
  have b := N.around (k := k) (by omega) (by omega)
  rw [show Y + (k - 2) = Y + k - 2 by omega] at a
  have j := jan_near (Y + 1)
  have y1 := N.y1; have y2 := N.y2; have s1 := N.s1; have s2 := N.s2
  rw [fd (by decide)]
  generalize Ef (Y + k) = e at b ⊢
  generalize Ef (Y + k - 2) = e' at a ⊢
  generalize Mine.jan (Y + 1) = J at j s1 s2
  have b1 : S + 365 * k ≤ e := by omega
  have b2 : e' ≤ S + 365 * (k - 2) + 3 := by omega
  clear a b
  have c1 : 36524219878 * (Y + k - 621 - 1 - 1) / 100000000 ≤ e - 1948321 := by omega
  have c2 : e' - 1948320 ≤ 36524219878 * (Y + k - 621 - 1 - 1) / 100000000 := by omega
  omega
theorem Near.good (N : Near Ef Y S) {k : Int} (h1 : 0 ≤ k) (h2 : k ≤ 1) : Good Ef (Y + k) where
  mono := N.mono
  lo := N.lo
  hi := fun z _ _ => N.hi z
  jan := fun z a b => by
    have := N.jan (k := z - Y) (by omega) (by omega)
    rwa [show Y + (z - Y) = z by omega] at this
  pyr := fun z a b => by
    have := N.pyr (k := z - Y) (by omega) (by omega)
    rwa [show Y + (z - Y) = z by omega] at this
  g1 := (N.g h1 h2).1
  g2 := (N.g h1 h2).2
theorem Near.good0 (N : Near Ef Y S) : Good Ef Y := by
  have := N.good (k := 0) (by omega) (by omega)
  rwa [show Y + 0 = Y by omega] at this
end
theorem near_first {Y S : Int} {odds : List Int} (hO : Odds odds) (y1 : -2000 ≤ Y) (y2 : Y ≤ 10000) (s1 : jan (Y + 1) - 293 ≤ S) (s2 : S ≤ jan (Y + 1) - 279) : Near (firstF Y S odds) Y S where
  y1 := y1
  y2 := y2
  s1 := s1
  s2 := by omega
  at0 := first_zero
  lo := fun z => (first_step hO z).1
  hi := fun z => (first_step hO z).2
theorem near_later {Y S : Int} {odds : List Int} (hO : Odds odds) (y1 : -2000 ≤ Y) (y2 : Y ≤ 10000) (s1 : jan (Y + 1) - 293 ≤ S) (s2 : S ≤ jan (Y + 1) - 279) : Near (fun x => firstF Y S odds x + 1) Y (S + 1) where
  y1 := y1
  y2 := y2
  s1 := by omega
  s2 := by omega
  at0 := by show firstF Y S odds Y + 1 = S + 1; rw [first_zero]
  lo := fun z => by have := (@first_step Y S odds hO z).1; show _ + 1 + 365 ≤ _ + 1; omega
  hi := fun z => by have := (@first_step Y S odds hO z).2; show _ + 1 ≤ _ + 1 + 366; omega
end Mine
end
-- one line of one's own for the walk: at each key it asks the k_with rows that are named "o KEY"
local macro_rules | `(tactic| walk_at $s:str) => do let t := Lean.Syntax.mkStrLit ("o " ++ s.getString); `(tactic| k_extra $t)
section
theorem Mine.fresh3 : True ∧ True := by
  first | (walk1; fail) | skip
  w_top off
  k_with_none
  exact ⟨True.intro, True.intro⟩
open PySem PySem.W PySem.Spec PySem.Calls PyProof.Rows
set_option Elab.async false
set_option maxRecDepth 100000
set_option maxHeartbeats 1000000
namespace Mine

abbrev CB (w : World) (f : Addr) (n : Nat) (news : List (Addr × Obj)) (vs : List Value) (Ret : Heap → Addr → (Str → Option Value) → Shared → (Value → Shared → Prop) → Prop) : Prop :=
  ∀ {p : Program} {loose : List Str} {mean : ExcName → Option Value} {mg mb : Str → Option Value} {dp un : Nat} {gd : Option (List Code)} {cn : Str} {cs : Scope} {a : Addr} {ccd : Value} {cl : List (Str × Addr)} {outer : List Env} {A₀ : Around} {base h₀ : Heap} {L : Addr} {m : Str → Option Value} {s : Shared} {Q E : Value → Shared → Prop},
    Below A₀ base outer h₀ → Fr h₀ L s.heap m → (hd.heap_39 w.params).In h₀ → News h₀ L s.heap news → Top p loose mean mg mb h₀ → cs.kind = .function → dp + n < recursionLimit → un + 8 * n < cLine →
    Ret h₀ L m s Q →
    wpAny (model PySem.Challenge.rw_jk0004_01.row.prog w) (ktrTop dp un gd cn cs L a ccd cl outer) (call (.ref f) vs) Q E s

/-- a call that gives back a plain value -/
abbrev CV (w : World) (f : Addr) (n : Nat) (news : List (Addr × Obj)) (vs : List Value) (R : Tok → Value) : Prop :=
  CB w f n news vs fun h₀ L m s Q => ∀ (t : Tok) (h' : Heap) (tk' : Nat), Fr h₀ L h' m → News h₀ L h' news → Q (R t) { s with heap := h', toks := tk' }

abbrev tup2 (x : Int) (t1 : Tok) (y : Int) (t2 : Tok) : Obj := { cls := .type "tuple", data := .seq #[.int x t1, .int y t2] }
abbrev tup3 (x : Int) (t1 : Tok) (y : Int) (t2 : Tok) (z : Int) (t3 : Tok) : Obj := { cls := .type "tuple", data := .seq #[.int x t1, .int y t2, .int z t3] }

abbrev CT2 (w : World) (f : Addr) (n : Nat) (news : List (Addr × Obj)) (vs : List Value) (x y : Int) : Prop :=
  CB w f n news vs fun h₀ L m s Q => ∀ (D : Addr) (t1 t2 : Tok) (h' : Heap) (tk' : Nat), Fr h₀ L h' m → News h₀ L h' ((D, tup2 x t1 y t2) :: news) → Q (.ref D) { s with heap := h', toks := tk' }
abbrev CT3 (w : World) (f : Addr) (n : Nat) (news : List (Addr × Obj)) (vs : List Value) (x y z : Int) : Prop :=
  CB w f n news vs fun h₀ L m s Q => ∀ (D : Addr) (t1 t2 t3 : Tok) (h' : Heap) (tk' : Nat), Fr h₀ L h' m → News h₀ L h' ((D, tup3 x t1 y t2 z t3) :: news) → Q (.ref D) { s with heap := h', toks := tk' }

section
variable {h₀ h' : Heap} {L : Addr} {m : Str → Option Value} {news news' : List (Addr × Obj)} {s : Shared} {Q : Value → Shared → Prop} {t : Tok} {tk' : Nat}
theorem retI {x y : Int} (hret : ∀ (t : Tok) (h' : Heap) (tk' : Nat), Fr h₀ L h' m → News h₀ L h' news → Q (.int x t) { s with heap := h', toks := tk' }) (F : Fr h₀ L h' m) (N : News h₀ L h' news') (hs : ∀ p ∈ news, p ∈ news') (e : y = x) : Q (.int y t) { s with heap := h', toks := tk' } := by
  subst e
  exact hret t h' tk' F (fun p hp => N p (hs p hp))
theorem retB {x y : Bool} (hret : ∀ (t : Tok) (h' : Heap) (tk' : Nat), Fr h₀ L h' m → News h₀ L h' news → Q (.bool x) { s with heap := h', toks := tk' }) (F : Fr h₀ L h' m) (N : News h₀ L h' news') (hs : ∀ p ∈ news, p ∈ news') (e : y = x) : Q (.bool y) { s with heap := h', toks := tk' } := by
  subst e
  exact hret 0 h' tk' F (fun p hp => N p (hs p hp))
theorem ret2 {x y x' y' : Int} {D : Addr} {t1 t2 : Tok} (hret : ∀ (D : Addr) (t1 t2 : Tok) (h' : Heap) (tk' : Nat), Fr h₀ L h' m → News h₀ L h' ((D, tup2 x t1 y t2) :: news) → Q (.ref D) { s with heap := h', toks := tk' })
    (F : Fr h₀ L h' m) (N : News h₀ L h' news') (hm : (D, tup2 x' t1 y' t2) ∈ news') (hs : ∀ p ∈ news, p ∈ news') (e1 : x' = x) (e2 : y' = y) : Q (.ref D) { s with heap := h', toks := tk' } := by
  subst e1 e2
  exact hret D t1 t2 h' tk' F (fun p hp => by
    rcases List.mem_cons.mp hp with rfl | hp
    · exact N _ hm
    · exact N p (hs p hp))
theorem ret3 {x y z x' y' z' : Int} {D : Addr} {t1 t2 t3 : Tok} (hret : ∀ (D : Addr) (t1 t2 t3 : Tok) (h' : Heap) (tk' : Nat), Fr h₀ L h' m → News h₀ L h' ((D, tup3 x t1 y t2 z t3) :: news) → Q (.ref D) { s with heap := h', toks := tk' })
    (F : Fr h₀ L h' m) (N : News h₀ L h' news') (hm : (D, tup3 x' t1 y' t2 z' t3) ∈ news') (hs : ∀ p ∈ news, p ∈ news') (e1 : x' = x) (e2 : y' = y) (e3 : z' = z) : Q (.ref D) { s with heap := h', toks := tk' } := by
  subst e1 e2 e3
  exact hret D t1 t2 t3 h' tk' F (fun p hp => by
    rcases List.mem_cons.mp hp with rfl | hp
    · exact N _ hm
    · exact N p (hs p hp))
end
theorem sub_self {news : List (Addr × Obj)} : ∀ p ∈ news, p ∈ news := fun _ h => h
theorem sub_cons {q : Addr × Obj} {news news' : List (Addr × Obj)} (h : ∀ p ∈ news, p ∈ news') : ∀ p ∈ news, p ∈ q :: news' := fun p hp => .tail _ (h p hp)


/-- the end of a statement that leaves x an int of the same worth on all its ways -/
def CutEnd (h₀ : Heap) (L : Addr) (m : Str → Option Value) (news : List (Addr × Obj)) (x : Str) (V : Int) (s : Shared) (fl : Flow) (s' : Shared) : Prop :=
  fl = .next ∧ ∃ t h' tk', s' = { s with heap := h', toks := tk' } ∧ Fr h₀ L h' (fun z => if z = x then some (.int V t) else m z) ∧ News h₀ L h' news
section
variable {M : Model} {A : Around} {c : Sem Flow} {Q : Flow → Shared → Prop} {E : Value → Shared → Prop} {s : Shared} {h₀ h' : Heap} {L : Addr} {m : Str → Option Value} {news : List (Addr × Obj)} {V V' : Int} {t : Tok} {tk' : Nat}
theorem cut_if (x : Str) (V : Int) (F : Fr h₀ L s.heap m) (N : News h₀ L s.heap news) (h1 : wpAny M A c (CutEnd h₀ L m news x V s) E s)
    (h2 : ∀ t h' tk', Fr h₀ L h' (fun z => if z = x then some (.int V t) else m z) → News h₀ L h' news → Q .next { s with heap := h', toks := tk' }) : wpAny M A c Q E s :=
  wpAny_mono h1 (fun _ _ ⟨e, t, h', tk', e2, F', N'⟩ => by subst e e2; exact h2 t h' tk' F' N') fun _ _ e => e
theorem cut_same {x : Str} (F : Fr h₀ L h' m) (N : News h₀ L h' news) (e : m x = some (.int V' t)) (hV : V' = V) : CutEnd h₀ L m news x V s .next { s with heap := h', toks := tk' } := by
  subst hV
  refine ⟨rfl, t, h', tk', rfl, ?_, N⟩
  have q : (fun z => if z = x then some (Value.int V' t) else m z) = m := by
    funext z
    by_cases h : z = x
    · rw [if_pos h, h, e]
    · rw [if_neg h]
  rw [q]; exact F
theorem cut_store {x : Str} (F : Fr h₀ L h' (fun z => if z = x then some (.int V' t) else m z)) (N : News h₀ L h' news) (hV : V' = V) : CutEnd h₀ L m news x V s .next { s with heap := h', toks := tk' } := by
  subst hV; exact ⟨rfl, t, h', tk', rfl, F, N⟩
end
theorem c_isleap {w : World} {news : List (Addr × Obj)} {y : Int} {t : Tok} : CV w 21 1 news [.int y t] (fun _ => .bool (leapY y)) := by
  unfold CV CB; k_fill
  intro p loose mean mg mb dp un gd cn cs a ccd cl outer A₀ base h₀ L m s Q E hB hF hX hN hT hk hd hu hret
  refine wpAny_call ?_
  k_dflt cell_enter
  k_steps
  all_goals (refine retB hret (by k_asm) (by k_asm) sub_self ?_; unfold leapY; simp_all)

theorem c_jan {w : World} {news : List (Addr × Obj)} {y : Int} {t : Tok} : CV w 127 1 news [.int y t] (fun t => .int (jan y) t) := by
  unfold CV CB; k_fill
  intro p loose mean mg mb dp un gd cn cs a ccd cl outer A₀ base h₀ L m s Q E hB hF hX hN hT hk hd hu hret
  refine wpAny_call ?_
  k_dflt cell_enter
  k_steps
  all_goals (refine retI hret (by k_asm) (by k_asm) (sub_cons sub_self) ?_; unfold jan; congr 2; split <;> omega)
theorem c_jwday {w : World} {news : List (Addr × Obj)} {y : Int} {t : Tok} : CV w 28 1 news [.int y t] (fun t => .int (y.fmod 7) t) := by
  unfold CV CB; k_fill
  intro p loose mean mg mb dp un gd cn cs a ccd cl outer A₀ base h₀ L m s Q E hB hF hX hN hT hk hd hu hret
  refine wpAny_call ?_
  k_dflt cell_enter
  k_steps
  all_goals (refine retI hret (by k_asm) (by k_asm) sub_self ?_; rfl)
end Mine
end
section
theorem Mine.fresh4 : True ∧ True := by
  first | (walk1; fail) | skip
  w_top off
  k_with_none
  exact ⟨True.intro, True.intro⟩
open PySem PySem.W PySem.Spec PySem.Calls PyProof.Rows
set_option Elab.async false
set_option maxRecDepth 100000
set_option maxHeartbeats 1000000
namespace Mine
theorem inTup {prog : Program} {w : World} {A : Around} {E : Value → Shared → Prop} {s : Shared} {K : Frag} {h₀ : Heap} {L a : Addr} {m : Str → Option Value} {l : List Value} {ns : List Int} {dd : Option Addr} {sl : Array (Option Value)} {n : Nat} {x : Int} {u : Tok} {Q : Value → Shared → Prop}
    (F : Fr h₀ L s.heap m) (X₀ : K.In h₀) (hl : K.lookup a = some ⟨.type "tuple", dd, .seq l.toArray n, sl⟩) (hi : IntsAre l ns) (h : Q (.bool (ns.any (· == x))) s) :
    wpAny (model prog w) A (compareOp .In (.int x u) (.ref a)) Q E s := in_tuple_ints (tupK (X₀.keeps F.keep) hl) hi h
theorem no_raise {y m d : Int} (q : d ≤ dimG y m) : (m = 2 → leapY y = true → ¬ d ≤ 29 → False) ∧ (m = 2 → leapY y = false → ¬ d ≤ 28 → False) ∧ (m ≠ 2 → ([4, 6, 9, 11].any fun x => x == m) = true → ¬ d ≤ 30 → False) ∧ (m ≠ 2 → ([4, 6, 9, 11].any fun x => x == m) = false → ¬ d ≤ 31 → False) := by
  unfold dimG at q
  refine ⟨fun a b => ?_, fun a b => ?_, fun a b => ?_, fun a b => ?_⟩
  · rw [if_pos a, if_pos b] at q; exact fun h => h q
  · rw [if_pos a, if_neg (by rw [b]; decide)] at q; exact fun h => h q
  · rw [if_neg a, if_pos b] at q; exact fun h => h q
  · rw [if_neg a, if_neg (by rw [b]; decide)] at q; exact fun h => h q
theorem c_legal {w : World} {news : List (Addr × Obj)} {y m d : Int} {t t' t'' : Tok} (h1 : 0 < d) (h2 : d ≤ dimG y m) : CV w 41 2 news [.int y t, .int m t', .int d t''] (fun _ => .bool true) := by
  k_with_none
  k_with "o eval Call" => ((with_reducible show wpAny _ _ (eval (Expr.Call (Expr.Name _ _) (_ :: _) [] _) _) _ _ _); refine Call_ ?_)
  k_with "o compareOp In int ref" => (k_here; k_dflt (refine' inTup ?F ?X ?l ?i ?_; (case F => k_asm); (case X => k_asm); (case l => k_is); (case i => l_intsW)); (try dsimp only))
  k_with "o call ref" => (k_here; (with_reducible show wpAny _ _ (call (Value.ref 21) _) _ _ _); k_dflt (refine' c_isleap ?k1 ?k2 ?k3 ?k4 ?k5 ?k6 ?k7 ?k8 ?_); (case k1 => k_asm); (case k2 => k_asm); (case k3 => k_asm); (case k4 => k_asm); (case k5 => k_asm); (case k6 => first | exact rfl | assumption); (case k7 => ktr_room); (case k8 => ktr_units); intro t9 h9 tk9 F9 N9; (try dsimp only))
  k_with "o exec Raise some none" => (exfalso; (rename _ ≤ dimG _ _ => q); first | exact (no_raise q).1 (by assumption) (by assumption) (by assumption) | exact (no_raise q).2.1 (by assumption) (by assumption) (by assumption) | exact (no_raise q).2.2.1 (by assumption) (by assumption) (by assumption) | exact (no_raise q).2.2.2 (by assumption) (by assumption) (by assumption))
  unfold CV CB; k_fill
  intro p loose mean mg mb dp un gd cn cs a ccd cl outer A₀ base h₀ L m s Q E hB hF hX hN hT hk hd hu hret
  refine wpAny_call ?_
  k_dflt cell_enter
  k_steps
  all_goals exact retB hret (by k_asm) (by k_asm) sub_self rfl
  k_with_none
theorem c_tojdG {w : World} {news : List (Addr × Obj)} {y mm d : Int} {t t' t'' : Tok} (h1 : 0 < d) (h2 : d ≤ dimG y mm) : CV w 48 3 news [.int y t, .int mm t', .int d t''] (fun t => .int (jdG y mm d) t) := by
  k_with_none
  k_with "o eval Call" => ((with_reducible show wpAny _ _ (eval (Expr.Call (Expr.Name _ _) (_ :: _) [] _) _) _ _ _); refine Call_ ?_)
  k_with "o compareOp In int ref" => (k_here; k_dflt (refine' inTup ?F ?X ?l ?i ?_; (case F => k_asm); (case X => k_asm); (case l => k_is); (case i => l_intsW)); (try dsimp only))
  k_with "o call ref" => (k_here; (with_reducible show wpAny _ _ (call (Value.ref 21) _) _ _ _); k_dflt (refine' c_isleap ?k1 ?k2 ?k3 ?k4 ?k5 ?k6 ?k7 ?k8 ?_); (case k1 => k_asm); (case k2 => k_asm); (case k3 => k_asm); (case k4 => k_asm); (case k5 => k_asm); (case k6 => first | exact rfl | assumption); (case k7 => ktr_room); (case k8 => ktr_units); intro t9 h9 tk9 F9 N9; (try dsimp only))
  k_with "o exec Raise some none" => (exfalso; (rename _ ≤ dimG _ _ => q); first | exact (no_raise q).1 (by assumption) (by assumption) (by assumption) | exact (no_raise q).2.1 (by assumption) (by assumption) (by assumption) | exact (no_raise q).2.2.1 (by assumption) (by assumption) (by assumption) | exact (no_raise q).2.2.2 (by assumption) (by assumption) (by assumption))
  k_with "o call ref" => (k_here; (with_reducible show wpAny _ _ (call (Value.ref 41) _) _ _ _); k_dflt (refine' c_legal ?h1 ?h2 ?k1 ?k2 ?k3 ?k4 ?k5 ?k6 ?k7 ?k8 ?_); (case k1 => k_asm); (case k2 => k_asm); (case k3 => k_asm); (case k4 => k_asm); (case k5 => k_asm); (case k6 => first | exact rfl | assumption); (case k7 => ktr_room); (case k8 => ktr_units); (case h1 => first | with_reducible assumption | decide | omega); (case h2 => first | exact dim_pos _ _ | with_reducible assumption); intro t9 h9 tk9 F9 N9; (try dsimp only))
  k_with "o exec If" => (k_here; (with_reducible show wpAny _ _ (exec (Stmt.If (Expr.Compare _ _ _ _) _ _ _) _) _ _ _); k_dflt (k_extra "cutL"))
  unfold CV CB; k_fill
  intro p loose mean mg mb dp un gd cn cs a ccd cl outer A₀ base h₀ L m s Q E hB hF hX hN hT hk hd hu hret
  refine wpAny_call ?_
  k_dflt cell_enter
  k_with "cutL" => ((fail_if_success (with_reducible show wpAny _ _ _ (CutEnd _ _ _ _ _ _ _) _ _)); (rename Fr _ _ _ _ => fF); (rename News _ _ _ _ => fN); (refine' cut_if (Str.ofString "leap_adj") (if mm ≤ 2 then 0 else if leapY y = true then -1 else -2) fF fN ?_ ?_); rotate_left; (intro tY h9 tk9 F9 N9; (try dsimp only)); rotate_right)
  k_steps
  all_goals first
    | exact cut_store (by k_asm) (by k_asm) (if_pos (by assumption)).symm
    | exact cut_store (by k_asm) (by k_asm) (by rw [if_neg (by assumption), if_pos (by assumption)])
    | exact cut_store (by k_asm) (by k_asm) (by have q : ¬ (leapY y = true) := by (rw [Bool.not_eq_true]; assumption)
                                                rw [if_neg (by assumption), if_neg q])
    | exact retI hret (by k_asm) (by k_asm) sub_self rfl
  k_with_none
theorem adj_join {c : Prop} [Decidable c] {l : Bool} {r : Int} (h : (c ∧ r = 0) ∨ (¬ c ∧ l = true ∧ r = 1) ∨ (¬ c ∧ l = false ∧ r = 2)) : r = if c then 0 else if l = true then 1 else 2 := by
  rcases h with ⟨a, b⟩ | ⟨a, b, d⟩ | ⟨a, b, d⟩
  · rw [if_pos a]; exact b
  · rw [if_neg a, if_pos b]; exact d
  · rw [if_neg a, if_neg (by rw [b]; decide)]; exact d
theorem adj_is {c : Prop} [Decidable c] {l : Bool} : (c ∧ (if c then 0 else if l = true then 1 else 2) = (0 : Int)) ∨ (¬ c ∧ l = true ∧ (if c then 0 else if l = true then 1 else 2) = (1 : Int)) ∨ (¬ c ∧ l = false ∧ (if c then 0 else if l = true then 1 else 2) = (2 : Int)) := by
  by_cases h : c
  · exact .inl ⟨h, if_pos h⟩
  · cases l
    · exact .inr (.inr ⟨h, rfl, by rw [if_neg h]; rfl⟩)
    · exact .inr (.inl ⟨h, rfl, by rw [if_neg h]; rfl⟩)
theorem c_fromjdG {w : World} {news : List (Addr × Obj)} {jd y mo da : Int} {t : Tok} (h1 : jan y ≤ jd) (h2 : jd < jan (y + 1)) (h3 : MD (leapY y) (jd - jan y) mo da) : CT3 w 55 4 news [.int jd t] y mo da := by
  k_with_none
  k_with "o eval Call" => ((with_reducible show wpAny _ _ (eval (Expr.Call (Expr.Name _ _) (_ :: _) [] _) _) _ _ _); refine Call_ ?_)
  k_with "o compareOp In int ref" => (k_here; k_dflt (refine' inTup ?F ?X ?l ?i ?_; (case F => k_asm); (case X => k_asm); (case l => k_is); (case i => l_intsW)); (try dsimp only))
  k_with "o call ref" => (k_here; (with_reducible show wpAny _ _ (call (Value.ref 21) _) _ _ _); k_dflt (refine' c_isleap ?k1 ?k2 ?k3 ?k4 ?k5 ?k6 ?k7 ?k8 ?_); (case k1 => k_asm); (case k2 => k_asm); (case k3 => k_asm); (case k4 => k_asm); (case k5 => k_asm); (case k6 => first | exact rfl | assumption); (case k7 => ktr_room); (case k8 => ktr_units); intro t9 h9 tk9 F9 N9; (try dsimp only))
  k_with "o exec Raise some none" => (exfalso; (rename _ ≤ dimG _ _ => q); first | exact (no_raise q).1 (by assumption) (by assumption) (by assumption) | exact (no_raise q).2.1 (by assumption) (by assumption) (by assumption) | exact (no_raise q).2.2.1 (by assumption) (by assumption) (by assumption) | exact (no_raise q).2.2.2 (by assumption) (by assumption) (by assumption))
  k_with "o call ref" => (k_here; (with_reducible show wpAny _ _ (call (Value.ref 41) _) _ _ _); k_dflt (refine' c_legal ?h1 ?h2 ?k1 ?k2 ?k3 ?k4 ?k5 ?k6 ?k7 ?k8 ?_); (case k1 => k_asm); (case k2 => k_asm); (case k3 => k_asm); (case k4 => k_asm); (case k5 => k_asm); (case k6 => first | exact rfl | assumption); (case k7 => ktr_room); (case k8 => ktr_units); (case h1 => first | with_reducible assumption | decide | omega); (case h2 => first | exact dim_pos _ _ | with_reducible assumption); intro t9 h9 tk9 F9 N9; (try dsimp only))
  k_with "o exec If" => (k_here; (with_reducible show wpAny _ _ (exec (Stmt.If (Expr.Compare _ _ _ _) _ _ _) _) _ _ _); k_dflt (k_extra "cutL"))
  k_with "o call ref" => (k_here; (with_reducible show wpAny _ _ (call (Value.ref 48) _) _ _ _); k_dflt (refine' c_tojdG ?h1 ?h2 ?k1 ?k2 ?k3 ?k4 ?k5 ?k6 ?k7 ?k8 ?_); (case k1 => k_asm); (case k2 => k_asm); (case k3 => k_asm); (case k4 => k_asm); (case k5 => k_asm); (case k6 => first | exact rfl | assumption); (case k7 => ktr_room); (case k8 => ktr_units); (case h1 => first | with_reducible assumption | decide | omega); (case h2 => first | exact dim_pos _ _ | with_reducible assumption); intro t9 h9 tk9 F9 N9; (try dsimp only))
  k_with "o exec If" => (k_here; (with_reducible show wpAny _ _ (exec (Stmt.If (Expr.UnaryOp _ _ _) _ _ _) _) _ _ _); k_dflt (k_extra "cutY"))
  unfold CT3 CB; k_fill
  intro p loose mean mg mb dp un gd cn cs a ccd cl outer A₀ base h₀ L m s Q E hB hF hX hN hT hk hd hu hret
  refine wpAny_call ?_
  k_dflt cell_enter
  k_with "cutY" => ((fail_if_success (with_reducible show wpAny _ _ _ (CutEnd _ _ _ _ _ _ _) _ _)); (rename Fr _ _ _ _ => fF); (rename News _ _ _ _ => fN); (refine' cut_if (Str.ofString "year") y fF fN ?_ ?_); rotate_left; (intro tY h9 tk9 F9 N9; (try dsimp only)); rotate_right)
  k_with "cutL" => ((fail_if_success (with_reducible show wpAny _ _ _ (CutEnd _ _ _ _ _ _ _) _ _)); (rename Fr _ _ _ _ => fF); (rename News _ _ _ _ => fN); (refine' cut_if (Str.ofString "leap_adj") (if jd - jdG y 1 1 < 58 + (if leapY y = true then 1 else 0) then 0 else if leapY y = true then 1 else 2) fF fN ?_ ?_); rotate_left; (intro tY h9 tk9 F9 N9; (try dsimp only)); rotate_right)
  k_steps
  all_goals first
    | exact cut_same (by k_asm) (by k_asm) rfl (yG_a h1 h2 (.inl (by assumption)))
    | exact cut_same (by k_asm) (by k_asm) rfl (yG_a h1 h2 (.inr (by assumption)))
    | exact cut_store (by k_asm) (by k_asm) (yG_b h1 h2 (by assumption) (by assumption))
    | ((rename _ ∨ _ => hr9); exact cut_store (by k_asm) (by k_asm) (adj_join hr9))
    | exact cut_store (by k_asm) (by k_asm) (if_pos (by assumption)).symm
    | exact cut_store (by k_asm) (by k_asm) (by rw [if_neg (by assumption), if_pos (by assumption)])
    | exact cut_store (by k_asm) (by k_asm) (by have q : ¬ (leapY y = true) := by (rw [Bool.not_eq_true]; assumption)
                                                rw [if_neg (by assumption), if_neg q])
    | (have q := fromG_end (rfl : y = y) h3 adj_is; exact ret3 hret (by k_asm) (by k_asm) (by k_mem) (sub_cons sub_self) rfl q.1 (Eq.trans (congrArg (fun M => jd - jdG y M 1 + 1) q.1) q.2))
  k_with_none
end Mine
end
section
theorem Mine.fresh5 : True ∧ True := by
  first | (walk1; fail) | skip
  w_top off
  k_with_none
  exact ⟨True.intro, True.intro⟩
open PySem PySem.W PySem.Spec PySem.Calls PyProof.Rows
set_option Elab.async false
set_option maxRecDepth 100000
set_option maxHeartbeats 1000000
namespace Mine
/-- a closure that, whatever int it is handed, gives back Ef of it; own: the made objects that it lives by -/
structure CF (w : World) (fa : Addr) (own : List (Addr × Obj)) (Ef : Int → Int) (n : Nat := 4) : Prop where
  fn : ∀ {h₀ h : Heap} {L : Addr}, News h₀ L h own → FnAt fa h
  call : ∀ {news : List (Addr × Obj)}, (∀ p ∈ own, p ∈ news) → ∀ (x : Int) (t : Tok), CV w fa n news [.int x t] (fun t => .int (Ef x) t)
theorem CF.mono {w : World} {fa : Addr} {own own' : List (Addr × Obj)} {Ef : Int → Int} {n : Nat} (h : CF w fa own Ef n) (s : ∀ p ∈ own, p ∈ own') : CF w fa own' Ef n :=
  ⟨fun N => h.fn (fun p hp => N p (s p hp)), fun s' => h.call (fun p hp => s' p (s p hp))⟩
theorem CF.fnAt {w : World} {fa : Addr} {own news : List (Addr × Obj)} {Ef : Int → Int} {n : Nat} (q : CF w fa own Ef n) {h₀ h : Heap} {L : Addr} (N : News h₀ L h news) (s : ∀ p ∈ own, p ∈ news) : FnAt fa h := q.fn (fun p hp => N p (s p hp))
theorem CF.up {w : World} {fa : Addr} {own : List (Addr × Obj)} {Ef : Int → Int} {n n' : Nat} (h : CF w fa own Ef n) (l : n ≤ n') : CF w fa own Ef n' :=
  ⟨h.fn, fun s x t => fun {_ _ _ _ _ _ _ _ _ _ _ _ _ _ _ _ _ _ _ _ _ _} a b c d e f g k r => h.call s x t a b c d e f (by omega) (by omega) r⟩
theorem drop1 {h₀ h : Heap} {L : Addr} {q : Addr × Obj} {news : List (Addr × Obj)} (N : News h₀ L h (q :: news)) : News h₀ L h news := fun p hp => N p (.tail _ hp)
section
variable {Ef : Int → Int} {jd y gy : Int}
theorem la_start (hm : Mono Ef) (hy : y ≤ gy) (h5 : jd < Ef (y + 1)) : y ≤ gy ∧ Ef gy = Ef gy ∧ jd < Ef (gy + 1) := by
  refine ⟨hy, rfl, ?_⟩
  rcases Int.lt_or_eq_of_le hy with h | h
  · have := hm (y + 1) (gy + 1) (by omega); omega
  · rw [← h]; exact h5
theorem la_turn {g e : Int} (h4 : Ef y ≤ jd) (hg : y ≤ g) (he : e = Ef g) (ht : jd < e) : y ≤ g - 1 ∧ Ef (g - 1) = Ef (g - 1) ∧ jd < Ef (g - 1 + 1) := by
  subst he
  have h : g ≠ y := fun q => by subst q; omega
  exact ⟨by omega, rfl, by rw [show g - 1 + 1 = g by omega]; exact ht⟩
theorem la_meas {g e : Int} (h4 : Ef y ≤ jd) (hg : y ≤ g) (he : e = Ef g) (ht : jd < e) : (g - 1 - y).toNat < (g - y).toNat := by
  have := (la_turn h4 hg he ht).1
  omega
theorem lb_start {g e : Int} (hm : Mono Ef) (h5 : jd < Ef (y + 1)) (hg : y ≤ g) (he : e = Ef g) (ht : ¬ jd < e) : (e = Ef y ∧ e - 1 = Ef y - 1 ∧ g = y) ∨ (e = Ef y - 1 ∧ e - 1 = Ef (y + 1) ∧ g = y + 1) := by
  subst he
  have h : g = y := by
    rcases Int.lt_or_eq_of_le hg with h | h
    · by_cases q : y + 1 = g
      · subst q; omega
      · have := hm (y + 1) g (by omega); omega
    · exact h.symm
  subst h
  exact .inl ⟨rfl, rfl, rfl⟩
theorem lb_turn {g l n : Int} (h4 : Ef y ≤ jd) (h5 : jd < Ef (y + 1)) (hp : (l = Ef y ∧ n = Ef y - 1 ∧ g = y) ∨ (l = Ef y - 1 ∧ n = Ef (y + 1) ∧ g = y + 1)) (ht : ¬ l ≤ jd ∨ ¬ jd < n) : (n = Ef y ∧ Ef (g + 1) = Ef y - 1 ∧ g + 1 = y) ∨ (n = Ef y - 1 ∧ Ef (g + 1) = Ef (y + 1) ∧ g + 1 = y + 1) := by
  rcases hp with ⟨a, b, c⟩ | ⟨a, b, c⟩
  · subst c; exact .inr ⟨b, rfl, rfl⟩
  · omega
theorem lb_meas {g l n : Int} (h4 : Ef y ≤ jd) (h5 : jd < Ef (y + 1)) (hp : (l = Ef y ∧ n = Ef y - 1 ∧ g = y) ∨ (l = Ef y - 1 ∧ n = Ef (y + 1) ∧ g = y + 1)) (ht : ¬ l ≤ jd ∨ ¬ jd < n) : (y + 1 - (g + 1)).toNat < (y + 1 - g).toNat := by
  rcases hp with ⟨a, b, c⟩ | ⟨a, b, c⟩ <;> omega
theorem lb_end {g l n : Int} (h4 : Ef y ≤ jd) (hp : (l = Ef y ∧ n = Ef y - 1 ∧ g = y) ∨ (l = Ef y - 1 ∧ n = Ef (y + 1) ∧ g = y + 1)) (h2 : jd < n) : l = Ef y - 1 := by
  rcases hp with ⟨a, b, c⟩ | ⟨a, b, c⟩ <;> omega
end
theorem c_lasteq {w : World} {news : List (Addr × Obj)} {fa : Addr} {Ef : Int → Int} (hE : CF w fa news Ef) (hm : Mono Ef) {jd y : Int} {t : Tok} (h0 : jan y ≤ Ef y) (h4 : Ef y ≤ jd) (h5 : jd < Ef (y + 1)) : CV w 71 6 news [.int jd t, .ref fa] (fun t => .int (Ef y - 1) t) := by
  k_with_none
  k_with "o eval Call" => ((with_reducible show wpAny _ _ (eval (Expr.Call (Expr.Name _ _) (_ :: _) [] _) _) _ _ _); refine Call_ ?_)
  k_with "o callWith ref" => (k_here; (with_reducible rename CF _ _ _ _ => q); k_dflt (refine' callWith_F ?k1 ?_; (case k1 => refine' CF.fnAt q ?f1 ?f2; (case f1 => k_asm); (case f2 => first | exact sub_self | exact sub_cons sub_self | exact sub_cons (sub_cons sub_self) | exact sub_cons (sub_cons (sub_cons sub_self)))); k_whole))
  k_with "o And" => ((with_reducible show FnAt _ _ ∧ _); (with_reducible rename CF _ _ _ _ => q); k_dflt (refine' ⟨CF.fnAt q ?f1 ?f2, ?_⟩; (case f1 => k_asm); (case f2 => first | exact sub_self | exact sub_cons sub_self | exact sub_cons (sub_cons sub_self) | exact sub_cons (sub_cons (sub_cons sub_self)))); (try dsimp only [List.nil_append, List.cons_append]))
  k_with "o call ref" => (k_here; (with_reducible show wpAny _ _ (call (Value.ref _) [Value.int _ _]) _ _ _); (with_reducible rename CF _ _ _ _ => q); k_dflt (refine' CF.call q ?k0 _ _ ?k1 ?k2 ?k3 ?k4 ?k5 ?k6 ?k7 ?k8 ?_); (case k1 => k_asm); (case k2 => k_asm); (case k3 => k_asm); (case k4 => k_asm); (case k0 => first | exact sub_self | exact sub_cons sub_self | exact sub_cons (sub_cons sub_self) | exact sub_cons (sub_cons (sub_cons sub_self))); (case k5 => k_asm); (case k6 => first | exact rfl | assumption); (case k7 => ktr_room); (case k8 => ktr_units); intro t9 h9 tk9 F9 N9; (try dsimp only))
  k_with "o call ref" => (k_here; (with_reducible show wpAny _ _ (call (Value.ref 55) _) _ _ _); k_dflt (refine' c_fromjdG ?h1 ?h2 ?h3 ?k1 ?k2 ?k3 ?k4 ?k5 ?k6 ?k7 ?k8 ?_); (case k1 => k_asm); (case k2 => k_asm); (case k3 => k_asm); (case k4 => k_asm); (case k5 => k_asm); (case k6 => first | exact rfl | assumption); (case k7 => ktr_room); (case k8 => ktr_units); (case h1 => with_reducible assumption); (case h2 => with_reducible assumption); (case h3 => with_reducible assumption); intro D9 t9 t9b t9c h9 tk9 F9 N9; (try dsimp only))
  obtain ⟨gy, mo, da, h1, h2, h3⟩ := greg_ex jd
  have hy : y ≤ gy := by
    apply Int.not_lt.mp; intro q; have := @jan_le (gy + 1) y (by omega); omega
  unfold CV CB; k_fill
  intro p loose mean mg mb dp un gd cn cs a ccd cl outer A₀ base h₀ L m s Q E hB hF hX hN hT hk hd hu hret
  refine wpAny_call ?_
  k_dflt cell_enter
  k_with "exec While Compare cons nil" => (try k_fold); k_while_given ["jd"] (fun jd _ g e => y ≤ g ∧ e = Ef g ∧ jd < Ef (g + 1)) (fun jd _ g e => (g - y).toNat) "guessyear" "last_equinox"
  k_with "exec While UnaryOp cons nil" => (try k_fold); k_while_given ["jd"] (fun jd _ g l n => (l = Ef y ∧ n = Ef y - 1 ∧ g = y) ∨ (l = Ef y - 1 ∧ n = Ef (y + 1) ∧ g = y + 1)) (fun jd _ g l n => (y + 1 - g).toNat) "guessyear" "last_equinox" "next_equinox"
  k_with "state" => first | exact la_start hm hy h5 | exact la_turn h4 (by assumption) (by assumption) (by assumption) | exact lb_start hm h5 (by assumption) (by assumption) (by assumption) | exact lb_turn h4 h5 (by assumption) (by first | exact .inl (by assumption) | exact .inr (by assumption))
  k_with "measure" => first | exact la_meas h4 (by assumption) (by assumption) (by assumption) | exact lb_meas h4 h5 (by assumption) (by first | exact .inl (by assumption) | exact .inr (by assumption))
  k_steps
  all_goals (refine retI hret (by k_asm) (by k_asm) (sub_cons sub_self) (lb_end h4 (by assumption) (by assumption)))
  k_with_none
end Mine
end
section
theorem Mine.fresh6 : True ∧ True := by
  first | (walk1; fail) | skip
  w_top off
  k_with_none
  exact ⟨True.intro, True.intro⟩
open PySem PySem.W PySem.Spec PySem.Calls PyProof.Rows
set_option Elab.async false
set_option maxRecDepth 100000
set_option maxHeartbeats 1000000
namespace Mine
theorem c_jd2py {w : World} {news : List (Addr × Obj)} {fa : Addr} {Ef : Int → Int} (hE : CF w fa news Ef) (hm : Mono Ef) {jd y : Int} {t : Tok} (h0 : jan y ≤ Ef y) (h4 : Ef y ≤ jd) (h5 : jd < Ef (y + 1)) : CT2 w 78 7 news [.int jd t, .ref fa] (pyr (Ef y - 1)) (Ef y - 1) := by
  k_with_none
  k_with "o eval Call" => ((with_reducible show wpAny _ _ (eval (Expr.Call (Expr.Name _ _) (_ :: _) [] _) _) _ _ _); refine Call_ ?_)
  k_with "o call ref" => (k_here; (with_reducible show wpAny _ _ (call (Value.ref 71) _) _ _ _); k_dflt (refine' c_lasteq ?e1 ?e2 ?e3 ?e4 ?e5 ?k1 ?k2 ?k3 ?k4 ?k5 ?k6 ?k7 ?k8 ?_); (case k1 => k_asm); (case k2 => k_asm); (case k3 => k_asm); (case k4 => k_asm); (case k5 => k_asm); (case k6 => first | exact rfl | assumption); (case k7 => ktr_room); (case k8 => ktr_units); (case e1 => (with_reducible rename CF _ _ _ _ => q); refine' CF.mono q ?f2; (case f2 => first | exact sub_self | exact sub_cons sub_self | exact sub_cons (sub_cons sub_self) | exact sub_cons (sub_cons (sub_cons sub_self)))); (case e2 => with_reducible assumption); (case e3 => with_reducible assumption); (case e4 => with_reducible assumption); (case e5 => with_reducible assumption); intro t9 h9 tk9 F9 N9; (try dsimp only))
  unfold CT2 CB; k_fill
  intro p loose mean mg mb dp un gd cn cs a ccd cl outer A₀ base h₀ L m s Q E hB hF hX hN hT hk hd hu hret
  refine wpAny_call ?_
  k_dflt cell_enter
  k_steps
  all_goals exact ret2 hret (by k_asm) (by k_asm) (by k_mem) (sub_cons sub_self) rfl rfl
  k_with_none
def TP (Ef : Int → Int) (Y y0 eq gu : Int) : Prop := (y0 = Y - 621 - 1 ∧ gu = 1948321 - 1 + (36524219878 * (Y - 621 - 1 - 1)).fdiv 100000000) ∨ ∃ z, Y - 2 ≤ z ∧ z ≤ Y ∧ y0 = z - 621 ∧ eq = Ef z - 1 ∧ gu = Ef z - 1 + 365 + 2
theorem tp_start {Ef : Int → Int} {Y eq : Int} : TP Ef Y (Y - 621 - 1) eq (1948321 - 1 + (36524219878 * (Y - 621 - 1 - 1)).fdiv 100000000) := .inl ⟨rfl, rfl⟩
theorem tp_turn {Ef : Int → Int} {Y y0 eq gu : Int} (G : Good Ef Y) (h : TP Ef Y y0 eq gu) (ht : y0 < Y - 621) : ∃ z, Y - 2 ≤ z ∧ z ≤ Y ∧ jan z ≤ Ef z ∧ Ef z ≤ gu ∧ gu < Ef (z + 1) ∧ pyr (Ef z - 1) = z - 621 := by
  rcases h with ⟨a, b⟩ | ⟨z, a, b, c, d, e⟩
  · by_cases h : Ef (Y - 1) ≤ gu
    · exact ⟨Y - 1, by omega, by omega, G.jan _ (by omega) (by omega), h, by rw [show Y - 1 + 1 = Y by omega, b]; exact G.g2, G.pyr _ (by omega) (by omega)⟩
    · exact ⟨Y - 2, by omega, by omega, G.jan _ (by omega) (by omega), by rw [b]; exact G.g1, by rw [show Y - 2 + 1 = Y - 1 by omega]; omega, G.pyr _ (by omega) (by omega)⟩
  · have h1 := G.hi z a b
    have h2 := G.lo z
    have h3 := G.lo (z + 1)
    exact ⟨z + 1, by omega, by omega, G.jan _ (by omega) (by omega), by omega, by omega, G.pyr _ (by omega) (by omega)⟩
theorem tp_end {Ef : Int → Int} {Y z : Int} (h1 : Y - 2 ≤ z) (h2 : z ≤ Y) (h3 : pyr (Ef z - 1) = z - 621) : TP Ef Y (pyr (Ef z - 1)) (Ef z - 1) (Ef z - 1 + (36524219878 : Int).fdiv 100000000 + 2) :=
  .inr ⟨z, h1, h2, h3, rfl, by rw [show (36524219878 : Int).fdiv 100000000 = 365 by decide]⟩
theorem tp_meas {Ef : Int → Int} {Y z gu : Int} (G : Good Ef Y) (h1 : Y - 2 ≤ z) (h2 : z ≤ Y) (h3 : gu < Ef (z + 1)) : (Ef Y + 400 - (Ef z - 1 + (36524219878 : Int).fdiv 100000000 + 2)).toNat < (Ef Y + 400 - gu).toNat := by
  rw [show (36524219878 : Int).fdiv 100000000 = 365 by decide]
  have h4 := G.hi z h1 h2
  have h5 : Ef z ≤ Ef Y := by
    rcases Int.lt_or_eq_of_le h2 with h | h
    · exact Int.le_of_lt (G.mono _ _ h)
    · rw [h]; exact Int.le_refl _
  omega
theorem tp_last {Ef : Int → Int} {Y y0 eq gu : Int} (h : TP Ef Y y0 eq gu) (ht : ¬ y0 < Y - 621) : eq = Ef Y - 1 := by
  rcases h with ⟨a, b⟩ | ⟨z, a, b, c, d, e⟩
  · omega
  · have : z = Y := by omega
    subst this; exact d
def mP (m : Int) : Int := if m ≤ 7 then (m - 1) * 31 else (m - 1) * 30 + 6
theorem c_tojdP {w : World} {news : List (Addr × Obj)} {fa : Addr} {Ef : Int → Int} (hE : CF w fa news Ef) {py Y mo da : Int} (hp : py = Y - 621) (G : Good Ef Y) {t t' t'' : Tok} : CV w 85 8 news [.int py t, .int mo t', .int da t'', .ref fa] (fun t => .int (Ef Y - 1 + mP mo + da) t) := by
  k_with_none
  k_with "o eval Call" => ((with_reducible show wpAny _ _ (eval (Expr.Call (Expr.Name _ _) (_ :: _) [] _) _) _ _ _); refine Call_ ?_)
  k_with "o call ref" => (k_here; (with_reducible show wpAny _ _ (call (Value.ref 71) _) _ _ _); k_dflt (refine' c_lasteq ?e1 ?e2 ?e3 ?e4 ?e5 ?k1 ?k2 ?k3 ?k4 ?k5 ?k6 ?k7 ?k8 ?_); (case k1 => k_asm); (case k2 => k_asm); (case k3 => k_asm); (case k4 => k_asm); (case k5 => k_asm); (case k6 => first | exact rfl | assumption); (case k7 => ktr_room); (case k8 => ktr_units); (case e1 => (with_reducible rename CF _ _ _ _ => q); refine' CF.mono q ?f2; (case f2 => first | exact sub_self | exact sub_cons sub_self | exact sub_cons (sub_cons sub_self) | exact sub_cons (sub_cons (sub_cons sub_self)))); (case e2 => with_reducible assumption); (case e3 => with_reducible assumption); (case e4 => with_reducible assumption); (case e5 => with_reducible assumption); intro t9 h9 tk9 F9 N9; (try dsimp only))
  k_with "o call ref" => (k_here; (with_reducible show wpAny _ _ (call (Value.ref 78) _) _ _ _); k_dflt (k_extra "c78"))
  subst hp
  unfold CV CB; k_fill
  intro p loose mean mg mb dp un gd cn cs a ccd cl outer A₀ base h₀ L m s Q E hB hF hX hN hT hk hd hu hret
  refine wpAny_call ?_
  k_dflt cell_enter
  k_with "exec While Compare cons nil" => (try k_fold); k_while (fun _ y0 eq gu => TP Ef Y y0 eq gu) (fun _ y0 eq gu => (Ef Y + 400 - gu).toNat) "y0" "equinox" "guess"
  k_with "c78" => (obtain ⟨z, z1, z2, z4, z5, z6, z7⟩ := tp_turn G (by assumption) (by assumption)); (refine' c_jd2py (CF.mono hE ?k0) G.mono z4 z5 z6 ?k1 ?k2 ?k3 ?k4 ?k5 ?k6 ?k7 ?k8 ?_); (case k1 => k_asm); (case k2 => k_asm); (case k3 => k_asm); (case k4 => k_asm); (case k0 => first | exact sub_self | exact sub_cons sub_self | exact sub_cons (sub_cons sub_self) | exact sub_cons (sub_cons (sub_cons sub_self))); (case k5 => k_asm); (case k6 => first | exact rfl | assumption); (case k7 => ktr_room); (case k8 => ktr_units); intro D9 t9 t9b h9 tk9 F9 N9; (try dsimp only)
  k_with "state" => first | exact tp_start | exact tp_end (by assumption) (by assumption) (by assumption) | (trace_state; fail)
  k_with "measure" => first | exact tp_meas G (by assumption) (by assumption) (by assumption) | (trace_state; fail)
  k_steps
  all_goals (
    have e := tp_last (by assumption) (by assumption)
    refine retI hret (by k_asm) (by k_asm) (sub_cons sub_self) ?_
    unfold mP
    first
    | (rw [if_pos (by assumption), e])
    | (rw [if_neg (by assumption), e]))
  k_with_none
end Mine
end
section
theorem Mine.fresh7 : True ∧ True := by
  first | (walk1; fail) | skip
  w_top off
  k_with_none
  exact ⟨True.intro, True.intro⟩
open PySem PySem.W PySem.Spec PySem.Calls PyProof.Rows
set_option Elab.async false
set_option maxRecDepth 100000
set_option maxHeartbeats 1000000
namespace Mine
theorem c_leap {w : World} {news : List (Addr × Obj)} {fa : Addr} {Ef : Int → Int} (hE : CF w fa news Ef) {py Y : Int} (hp : py = Y - 621) (G : Good Ef Y) (G' : Good Ef (Y + 1)) {t : Tok} : CV w 64 9 news [.int py t, .ref fa] (fun _ => .bool (decide (Ef (Y + 1) - Ef Y > 365))) := by
  k_with_none
  k_with "o eval Call" => ((with_reducible show wpAny _ _ (eval (Expr.Call (Expr.Name _ _) (_ :: _) [] _) _) _ _ _); refine Call_ ?_)
  k_with "o call ref" => (k_here; (with_reducible show wpAny _ _ (call (Value.ref 48) _) _ _ _); k_dflt (k_extra "c48"))
  k_with "o call ref" => (k_here; (with_reducible show wpAny _ _ (call (Value.ref 55) _) _ _ _); k_dflt (k_extra "c55"))
  k_with "o call ref" => (k_here; (with_reducible show wpAny _ _ (call (Value.ref 64) _) _ _ _); k_dflt (k_extra "c64"))
  k_with "o call ref" => (k_here; (with_reducible show wpAny _ _ (call (Value.ref 71) _) _ _ _); k_dflt (k_extra "c71"))
  k_with "o call ref" => (k_here; (with_reducible show wpAny _ _ (call (Value.ref 85) _) _ _ _); k_dflt (k_extra "c85"))
  k_with "o call ref" => (k_here; (with_reducible show wpAny _ _ (call (Value.ref 92) _) _ _ _); k_dflt (k_extra "c92"))
  subst hp
  unfold CV CB; k_fill
  intro p loose mean mg mb dp un gd cn cs a ccd cl outer A₀ base h₀ L m s Q E hB hF hX hN hT hk hd hu hret
  refine wpAny_call ?_
  k_dflt cell_enter
  k_with "c85" => first
    | (refine' c_tojdP (CF.mono hE ?k0) (show Y - 621 + 1 = Y + 1 - 621 by omega) G' ?k1 ?k2 ?k3 ?k4 ?k5 ?k6 ?k7 ?k8 ?_; (case k1 => k_asm); (case k2 => k_asm); (case k3 => k_asm); (case k4 => k_asm); (case k0 => first | exact sub_self | exact sub_cons sub_self | exact sub_cons (sub_cons sub_self) | exact sub_cons (sub_cons (sub_cons sub_self))); (case k5 => k_asm); (case k6 => first | exact rfl | assumption); (case k7 => ktr_room); (case k8 => ktr_units); intro t9 h9 tk9 F9 N9; (try dsimp only))
    | (refine' c_tojdP (CF.mono hE ?k0) (rfl : Y - 621 = Y - 621) G ?k1 ?k2 ?k3 ?k4 ?k5 ?k6 ?k7 ?k8 ?_; (case k1 => k_asm); (case k2 => k_asm); (case k3 => k_asm); (case k4 => k_asm); (case k0 => first | exact sub_self | exact sub_cons sub_self | exact sub_cons (sub_cons sub_self) | exact sub_cons (sub_cons (sub_cons sub_self))); (case k5 => k_asm); (case k6 => first | exact rfl | assumption); (case k7 => ktr_room); (case k8 => ktr_units); intro t9 h9 tk9 F9 N9; (try dsimp only))
  k_steps
  all_goals (refine retB hret (by k_asm) (by k_asm) sub_self ?_; unfold mP; simp only [decide_eq_decide]; omega)
  k_with_none
/-- day yd (from 1) of a Persian year is day d of month m -/
def PM (yd mo da : Int) : Prop := 1 ≤ mo ∧ mo ≤ 12 ∧ 1 ≤ da ∧ da ≤ (if mo ≤ 6 then 31 else 30) ∧ yd = mP mo + da
theorem pm_fin : ∀ k : Fin 13, ∀ e : Fin 32, 1 ≤ (k.val : Int) → 1 ≤ (e.val : Int) → (e.val : Int) ≤ (if (k.val : Int) ≤ 6 then 31 else 30) →
    (mP (k.val : Int) + (e.val : Int) ≤ 186 → -((-(mP (k.val : Int) + (e.val : Int))).fdiv 31) = (k.val : Int) ∧ mP (k.val : Int) + (e.val : Int) - ((k.val : Int) - 1) * 31 = (e.val : Int)) ∧
    (¬ mP (k.val : Int) + (e.val : Int) ≤ 186 → -((-(mP (k.val : Int) + (e.val : Int) - 6)).fdiv 30) = (k.val : Int) ∧ mP (k.val : Int) + (e.val : Int) - ((k.val : Int) - 1) * 30 - 6 = (e.val : Int)) := by decide +kernel
theorem pm_ab {yd mo da : Int} (h : PM yd mo da) : (yd ≤ 186 → -((-yd).fdiv 31) = mo ∧ yd - (mo - 1) * 31 = da) ∧ (¬ yd ≤ 186 → -((-(yd - 6)).fdiv 30) = mo ∧ yd - (mo - 1) * 30 - 6 = da) := by
  obtain ⟨h1, h2, h3, h4, h5⟩ := h
  have hd : da ≤ 31 := Int.le_trans h4 (by split <;> decide)
  subst h5
  exact fin_int (P := fun da => 1 ≤ mo → 1 ≤ da → da ≤ (if mo ≤ 6 then 31 else 30) → (mP mo + da ≤ 186 → -((-(mP mo + da)).fdiv 31) = mo ∧ mP mo + da - (mo - 1) * 31 = da) ∧ (¬ mP mo + da ≤ 186 → -((-(mP mo + da - 6)).fdiv 30) = mo ∧ mP mo + da - (mo - 1) * 30 - 6 = da)) 32
    (fun e => fin_int (P := fun mo => 1 ≤ mo → 1 ≤ (e.val : Int) → (e.val : Int) ≤ (if mo ≤ 6 then 31 else 30) → (mP mo + (e.val : Int) ≤ 186 → -((-(mP mo + (e.val : Int))).fdiv 31) = mo ∧ mP mo + (e.val : Int) - (mo - 1) * 31 = (e.val : Int)) ∧ (¬ mP mo + (e.val : Int) ≤ 186 → -((-(mP mo + (e.val : Int) - 6)).fdiv 30) = mo ∧ mP mo + (e.val : Int) - (mo - 1) * 30 - 6 = (e.val : Int))) 13 (fun k => pm_fin k e) (by omega) (by omega)) (by omega) (by omega) h1 h3 h4
theorem pm_a {yd mo da : Int} (h : PM yd mo da) (a : yd ≤ 186) : -((-yd).fdiv 31) = mo ∧ yd - (mo - 1) * 31 = da := (pm_ab h).1 a
theorem pm_b {yd mo da : Int} (h : PM yd mo da) (a : ¬ yd ≤ 186) : -((-(yd - 6)).fdiv 30) = mo ∧ yd - (mo - 1) * 30 - 6 = da := (pm_ab h).2 a
theorem c_fromjdP {w : World} {news : List (Addr × Obj)} {fa : Addr} {Ef : Int → Int} (hE : CF w fa news Ef) (hm : Mono Ef) {jd y py mo da : Int} {t : Tok} (h0 : jan y ≤ Ef y) (h4 : Ef y ≤ jd) (h5 : jd < Ef (y + 1)) (hp : pyr (Ef y - 1) = py) (hd : PM (jd - (Ef y - 1)) mo da) : CT3 w 92 8 news [.int jd t, .ref fa] py mo da := by
  k_with_none
  k_with "o eval Call" => ((with_reducible show wpAny _ _ (eval (Expr.Call (Expr.Name _ _) (_ :: _) [] _) _) _ _ _); refine Call_ ?_)
  k_with "o call ref" => (k_here; (with_reducible show wpAny _ _ (call (Value.ref 48) _) _ _ _); k_dflt (k_extra "c48"))
  k_with "o call ref" => (k_here; (with_reducible show wpAny _ _ (call (Value.ref 55) _) _ _ _); k_dflt (k_extra "c55"))
  k_with "o call ref" => (k_here; (with_reducible show wpAny _ _ (call (Value.ref 64) _) _ _ _); k_dflt (k_extra "c64"))
  k_with "o call ref" => (k_here; (with_reducible show wpAny _ _ (call (Value.ref 71) _) _ _ _); k_dflt (k_extra "c71"))
  k_with "o call ref" => (k_here; (with_reducible show wpAny _ _ (call (Value.ref 85) _) _ _ _); k_dflt (k_extra "c85"))
  k_with "o call ref" => (k_here; (with_reducible show wpAny _ _ (call (Value.ref 92) _) _ _ _); k_dflt (k_extra "c92"))
  unfold CT3 CB; k_fill
  intro p loose mean mg mb dp un gd cn cs a ccd cl outer A₀ base h₀ L m s Q E hB hF hX hN hT hk hdp hu hret
  refine wpAny_call ?_
  k_dflt cell_enter
  k_with "c71" => (refine' c_lasteq (CF.mono hE ?k0) hm h0 h4 h5 ?k1 ?k2 ?k3 ?k4 ?k5 ?k6 ?k7 ?k8 ?_; (case k1 => k_asm); (case k2 => k_asm); (case k3 => k_asm); (case k4 => k_asm); (case k0 => first | exact sub_self | exact sub_cons sub_self | exact sub_cons (sub_cons sub_self) | exact sub_cons (sub_cons (sub_cons sub_self))); (case k5 => k_asm); (case k6 => first | exact rfl | assumption); (case k7 => ktr_room); (case k8 => ktr_units); intro t9 h9 tk9 F9 N9; (try dsimp only))
  k_steps
  all_goals first
    | (have e := pm_a hd (by assumption)
       exact ret3 hret (by k_asm) (by k_asm) (by k_mem) (sub_cons sub_self) hp e.1 ((congrArg (fun m => jd - (Ef y - 1) - (m - 1) * 31) e.1).trans e.2))
    | (have e := pm_b hd (by assumption)
       exact ret3 hret (by k_asm) (by k_asm) (by k_mem) (sub_cons sub_self) hp e.1 ((congrArg (fun m => jd - (Ef y - 1) - (m - 1) * 30 - 6) e.1).trans e.2))
    | trace_state
  k_with_none
end Mine
end
section
theorem Mine.fresh8 : True ∧ True := by
  first | (walk1; fail) | skip
  w_top off
  k_with_none
  exact ⟨True.intro, True.intro⟩
open PySem PySem.W PySem.Spec PySem.Calls PyProof.Rows
set_option Elab.async false
set_option maxRecDepth 100000
set_option maxHeartbeats 1000000
namespace Mine
theorem c_fromG {w : World} {news : List (Addr × Obj)} {fa : Addr} {Ef : Int → Int} (hE : CF w fa news Ef) (hm : Mono Ef) {gy gm gd jd y py mo da : Int} {t t' t'' : Tok} (g1 : 0 < gd) (g2 : gd ≤ dimG gy gm) (hj : jdG gy gm gd = jd) (h0 : jan y ≤ Ef y) (h4 : Ef y ≤ jd) (h5 : jd < Ef (y + 1)) (hp : pyr (Ef y - 1) = py) (hd : PM (jd - (Ef y - 1)) mo da) : CT3 w 99 9 news [.int gy t, .int gm t', .int gd t'', .ref fa] py mo da := by
  k_with_none
  k_with "o eval Call" => ((with_reducible show wpAny _ _ (eval (Expr.Call (Expr.Name _ _) (_ :: _) [] _) _) _ _ _); refine Call_ ?_)
  k_with "o compareOp In int ref" => (k_here; k_dflt (refine' inTup ?F ?X ?l ?i ?_; (case F => k_asm); (case X => k_asm); (case l => k_is); (case i => l_intsW)); (try dsimp only))
  k_with "o call ref" => (k_here; (with_reducible show wpAny _ _ (call (Value.ref 28) _) _ _ _); k_dflt (k_extra "c28"))
  k_with "o call ref" => (k_here; (with_reducible show wpAny _ _ (call (Value.ref 48) _) _ _ _); k_dflt (k_extra "c48"))
  k_with "o call ref" => (k_here; (with_reducible show wpAny _ _ (call (Value.ref 55) _) _ _ _); k_dflt (k_extra "c55"))
  k_with "o call ref" => (k_here; (with_reducible show wpAny _ _ (call (Value.ref 64) _) _ _ _); k_dflt (k_extra "c64"))
  k_with "o call ref" => (k_here; (with_reducible show wpAny _ _ (call (Value.ref 71) _) _ _ _); k_dflt (k_extra "c71"))
  k_with "o call ref" => (k_here; (with_reducible show wpAny _ _ (call (Value.ref 85) _) _ _ _); k_dflt (k_extra "c85"))
  k_with "o call ref" => (k_here; (with_reducible show wpAny _ _ (call (Value.ref 92) _) _ _ _); k_dflt (k_extra "c92"))
  subst hj
  unfold CT3 CB; k_fill
  intro p loose mean mg mb dp un gd cn cs a ccd cl outer A₀ base h₀ L m s Q E hB hF hX hN hT hk hdp hu hret
  refine wpAny_call ?_
  k_dflt cell_enter
  k_with "c48" => (refine' c_tojdG g1 g2 ?k1 ?k2 ?k3 ?k4 ?k5 ?k6 ?k7 ?k8 ?_; (case k1 => k_asm); (case k2 => k_asm); (case k3 => k_asm); (case k4 => k_asm); (case k5 => k_asm); (case k6 => first | exact rfl | assumption); (case k7 => ktr_room); (case k8 => ktr_units); intro t9 h9 tk9 F9 N9; (try dsimp only))
  k_with "c92" => (refine' c_fromjdP (CF.mono hE ?k0) hm h0 h4 h5 hp hd ?k1 ?k2 ?k3 ?k4 ?k5 ?k6 ?k7 ?k8 ?_; (case k1 => k_asm); (case k2 => k_asm); (case k3 => k_asm); (case k4 => k_asm); (case k0 => first | exact sub_self | exact sub_cons sub_self | exact sub_cons (sub_cons sub_self) | exact sub_cons (sub_cons (sub_cons sub_self))); (case k5 => k_asm); (case k6 => first | exact rfl | assumption); (case k7 => ktr_room); (case k8 => ktr_units); intro D9 t9 t9b t9c h9 tk9 F9 N9; (try dsimp only))
  k_steps
  all_goals first
    | exact ret3 hret (by k_asm) (by k_asm) (by k_mem) (sub_cons sub_self) rfl rfl rfl
    | trace_state
  k_with_none
theorem c_toG {w : World} {news : List (Addr × Obj)} {fa : Addr} {Ef : Int → Int} (hE : CF w fa news Ef) {py Y mo da jd gy gm gd : Int} {t t' t'' : Tok} (hp : py = Y - 621) (G : Good Ef Y) (hj : Ef Y - 1 + mP mo + da = jd) (h1 : jan gy ≤ jd) (h2 : jd < jan (gy + 1)) (h3 : MD (leapY gy) (jd - jan gy) gm gd) : CT3 w 106 9 news [.int py t, .int mo t', .int da t'', .ref fa] gy gm gd := by
  k_with_none
  k_with "o eval Call" => ((with_reducible show wpAny _ _ (eval (Expr.Call (Expr.Name _ _) (_ :: _) [] _) _) _ _ _); refine Call_ ?_)
  k_with "o compareOp In int ref" => (k_here; k_dflt (refine' inTup ?F ?X ?l ?i ?_; (case F => k_asm); (case X => k_asm); (case l => k_is); (case i => l_intsW)); (try dsimp only))
  k_with "o call ref" => (k_here; (with_reducible show wpAny _ _ (call (Value.ref 28) _) _ _ _); k_dflt (k_extra "c28"))
  k_with "o call ref" => (k_here; (with_reducible show wpAny _ _ (call (Value.ref 48) _) _ _ _); k_dflt (k_extra "c48"))
  k_with "o call ref" => (k_here; (with_reducible show wpAny _ _ (call (Value.ref 55) _) _ _ _); k_dflt (k_extra "c55"))
  k_with "o call ref" => (k_here; (with_reducible show wpAny _ _ (call (Value.ref 64) _) _ _ _); k_dflt (k_extra "c64"))
  k_with "o call ref" => (k_here; (with_reducible show wpAny _ _ (call (Value.ref 71) _) _ _ _); k_dflt (k_extra "c71"))
  k_with "o call ref" => (k_here; (with_reducible show wpAny _ _ (call (Value.ref 85) _) _ _ _); k_dflt (k_extra "c85"))
  k_with "o call ref" => (k_here; (with_reducible show wpAny _ _ (call (Value.ref 92) _) _ _ _); k_dflt (k_extra "c92"))
  subst hj
  unfold CT3 CB; k_fill
  intro p loose mean mg mb dp un gd cn cs a ccd cl outer A₀ base h₀ L m s Q E hB hF hX hN hT hk hdp hu hret
  refine wpAny_call ?_
  k_dflt cell_enter
  k_with "c85" => (refine' c_tojdP (CF.mono hE ?k0) hp G ?k1 ?k2 ?k3 ?k4 ?k5 ?k6 ?k7 ?k8 ?_; (case k1 => k_asm); (case k2 => k_asm); (case k3 => k_asm); (case k4 => k_asm); (case k0 => first | exact sub_self | exact sub_cons sub_self | exact sub_cons (sub_cons sub_self) | exact sub_cons (sub_cons (sub_cons sub_self))); (case k5 => k_asm); (case k6 => first | exact rfl | assumption); (case k7 => ktr_room); (case k8 => ktr_units); intro t9 h9 tk9 F9 N9; (try dsimp only))
  k_with "c55" => (refine' c_fromjdG h1 h2 h3 ?k1 ?k2 ?k3 ?k4 ?k5 ?k6 ?k7 ?k8 ?_; (case k1 => k_asm); (case k2 => k_asm); (case k3 => k_asm); (case k4 => k_asm); (case k5 => k_asm); (case k6 => first | exact rfl | assumption); (case k7 => ktr_room); (case k8 => ktr_units); intro D9 t9 t9b t9c h9 tk9 F9 N9; (try dsimp only))
  k_steps
  all_goals first
    | exact ret3 hret (by k_asm) (by k_asm) (by k_mem) (sub_cons sub_self) rfl rfl rfl
    | trace_state
  k_with_none
def plen (Ef : Int → Int) (Y mo : Int) : Int := if mo ≤ 6 then 31 else if mo ≤ 11 then 30 else if Ef (Y + 1) - Ef Y > 365 then 30 else 29
theorem any30 {mo : Int} {b : Bool} (h : ([7, 8, 9, 10, 11].any fun x => x == mo) = b) : (b = true → 7 ≤ mo ∧ mo ≤ 11) ∧ (b = false → ¬ (7 ≤ mo ∧ mo ≤ 11)) := by
  simp only [List.any_cons, List.any_nil, Bool.or_false] at h
  refine ⟨fun q => ?_, fun q => ?_⟩ <;> rw [q] at h <;> simp only [Bool.or_eq_true, Bool.or_eq_false_iff, beq_iff_eq, beq_eq_false_iff_ne] at h <;> omega
theorem any31 {mo : Int} {b : Bool} (h : ([1, 2, 3, 4, 5, 6].any fun x => x == mo) = b) : (b = true → 1 ≤ mo ∧ mo ≤ 6) ∧ (b = false → ¬ (1 ≤ mo ∧ mo ≤ 6)) := by
  simp only [List.any_cons, List.any_nil, Bool.or_false] at h
  refine ⟨fun q => ?_, fun q => ?_⟩ <;> rw [q] at h <;> simp only [Bool.or_eq_true, Bool.or_eq_false_iff, beq_iff_eq, beq_eq_false_iff_ne] at h <;> omega
theorem plen_a {Ef : Int → Int} {Y mo : Int} (a : ([7, 8, 9, 10, 11].any fun x => x == mo) = true) : 30 = plen Ef Y mo := by
  have := (any30 a).1 rfl
  unfold plen; rw [if_neg (by omega), if_pos (by omega)]
theorem plen_b {Ef : Int → Int} {Y mo : Int} (b : mo = 12) (c : Ef (Y + 1) - Ef Y > 365) : 30 = plen Ef Y mo := by
  unfold plen; rw [if_neg (by omega), if_neg (by omega), if_pos c]
theorem plen_c {Ef : Int → Int} {Y mo : Int} (b : mo = 12) (c : ¬ Ef (Y + 1) - Ef Y > 365) : 29 = plen Ef Y mo := by
  unfold plen; rw [if_neg (by omega), if_neg (by omega), if_neg c]
theorem plen_d {Ef : Int → Int} {Y mo : Int} (a : ([1, 2, 3, 4, 5, 6].any fun x => x == mo) = true) : 31 = plen Ef Y mo := by
  have := (any31 a).1 rfl
  unfold plen; rw [if_pos (by omega)]
theorem plen_e {mo : Int} (m1 : 1 ≤ mo) (m2 : mo ≤ 12) (a : ([7, 8, 9, 10, 11].any fun x => x == mo) = false) (b : mo ≠ 12) (c : ([1, 2, 3, 4, 5, 6].any fun x => x == mo) = false) : False := by
  have h1 := (any30 a).2 rfl
  have h2 := (any31 c).2 rfl
  omega
theorem plen_f {mo : Int} (b : mo = 12) (a : ([1, 2, 3, 4, 5, 6].any fun x => x == mo) = true) : False := by
  have := (any31 a).1 rfl
  omega
theorem c_mlen {w : World} {news : List (Addr × Obj)} {fa : Addr} {Ef : Int → Int} (hE : CF w fa news Ef) {py Y mo : Int} {t t' : Tok} (hp : py = Y - 621) (G : Good Ef Y) (G' : Good Ef (Y + 1)) (m1 : 1 ≤ mo) (m2 : mo ≤ 12) : CV w 113 10 news [.int py t, .int mo t', .ref fa] (fun t => .int (plen Ef Y mo) t) := by
  k_with_none
  k_with "o eval Call" => ((with_reducible show wpAny _ _ (eval (Expr.Call (Expr.Name _ _) (_ :: _) [] _) _) _ _ _); refine Call_ ?_)
  k_with "o compareOp In int ref" => (k_here; k_dflt (refine' inTup ?F ?X ?l ?i ?_; (case F => k_asm); (case X => k_asm); (case l => k_is); (case i => l_intsW)); (try dsimp only))
  k_with "o call ref" => (k_here; (with_reducible show wpAny _ _ (call (Value.ref 28) _) _ _ _); k_dflt (k_extra "c28"))
  k_with "o call ref" => (k_here; (with_reducible show wpAny _ _ (call (Value.ref 48) _) _ _ _); k_dflt (k_extra "c48"))
  k_with "o call ref" => (k_here; (with_reducible show wpAny _ _ (call (Value.ref 55) _) _ _ _); k_dflt (k_extra "c55"))
  k_with "o call ref" => (k_here; (with_reducible show wpAny _ _ (call (Value.ref 64) _) _ _ _); k_dflt (k_extra "c64"))
  k_with "o call ref" => (k_here; (with_reducible show wpAny _ _ (call (Value.ref 71) _) _ _ _); k_dflt (k_extra "c71"))
  k_with "o call ref" => (k_here; (with_reducible show wpAny _ _ (call (Value.ref 85) _) _ _ _); k_dflt (k_extra "c85"))
  k_with "o call ref" => (k_here; (with_reducible show wpAny _ _ (call (Value.ref 92) _) _ _ _); k_dflt (k_extra "c92"))
  unfold CV CB; k_fill
  intro p loose mean mg mb dp un gd cn cs a ccd cl outer A₀ base h₀ L m s Q E hB hF hX hN hT hk hdp hu hret
  refine wpAny_call ?_
  k_dflt cell_enter
  k_with "c64" => (refine' c_leap (CF.mono hE ?k0) hp G G' ?k1 ?k2 ?k3 ?k4 ?k5 ?k6 ?k7 ?k8 ?_; (case k1 => k_asm); (case k2 => k_asm); (case k3 => k_asm); (case k4 => k_asm); (case k0 => first | exact sub_self | exact sub_cons sub_self | exact sub_cons (sub_cons sub_self) | exact sub_cons (sub_cons (sub_cons sub_self))); (case k5 => k_asm); (case k6 => first | exact rfl | assumption); (case k7 => ktr_room); (case k8 => ktr_units); intro t9 h9 tk9 F9 N9; (try dsimp only))
  k_steps
  all_goals first
    | exact absurd (plen_e m1 m2 (by assumption) (by assumption) (by assumption)) id
    | exact absurd (plen_f (by assumption) (by assumption)) id
    | (refine retI hret (by k_asm) (by k_asm) sub_self ?_; first | exact plen_a (by assumption) | exact plen_b (by assumption) (by assumption) | exact plen_d (by assumption) | exact plen_c (by assumption) (by assumption))
    | trace_state
  k_with_none
end Mine
end
section
theorem Mine.fresh9 : True ∧ True := by
  first | (walk1; fail) | skip
  w_top off
  k_with_none
  exact ⟨True.intro, True.intro⟩
open PySem PySem.W PySem.Spec PySem.Calls PyProof.Rows
set_option Elab.async false
set_option maxRecDepth 100000
set_option maxHeartbeats 1000000
namespace Mine
theorem jan_lt {a b : Int} (h : jan a < jan b) : a < b := by
  apply Int.not_le.mp; intro q
  rcases Int.lt_or_eq_of_le q with e | e
  · rw [jan_eq, jan_eq] at h; have := @jan2_mono b a (by omega); omega
  · rw [e] at h; omega
theorem jan_is {y y' n : Int} (h1 : jan y ≤ n) (h2 : n < jan (y + 1)) (h3 : jan y' ≤ n) (h4 : n < jan (y' + 1)) : y = y' := by
  rw [jan_eq] at h1 h2 h3 h4; exact jan_uniq h1 h2 h3 h4
theorem l1_meas {y y' n : Int} (h1 : jan y ≤ n) (h : n < jan y') : (y' - 1 - y).toNat < (y' - y).toNat := by
  have := @jan_lt y y' (by omega); omega
theorem l2_meas {y y' n : Int} (h2 : n < jan (y + 1)) (h : jan (y' + 1) ≤ n) : (y - (y' + 1)).toNat < (y - y').toNat := by
  have := @jan_lt (y' + 1) (y + 1) (by omega); omega
theorem glen_fin (l : Bool) : ∀ k : Fin 13, 1 ≤ (k.val : Int) → [31, (if l = true then (366 : Int) else 365) - 337, 31, 30, 31, 30, 31, 31, 30, 31, 30, 31].getD ((k.val : Int) - 1).toNat 0 = cumG l ((k.val : Int) + 1) - cumG l (k.val : Int) := by
  cases l <;> decide +kernel
theorem glen_eq {y m : Int} (h1 : 1 ≤ m) (h2 : m ≤ 12) : [31, jan (y + 1) - jan y - 337, 31, 30, 31, 30, 31, 31, 30, 31, 30, 31].getD (m - 1).toNat 0 = cumG (leapY y) (m + 1) - cumG (leapY y) m := by
  have st := jan2_step y
  rw [← jan_eq, ← jan_eq] at st
  rw [st]
  generalize leapY y = l
  exact fin_int (P := fun m => 1 ≤ m → [31, (if l = true then (366 : Int) else 365) - 337, 31, 30, 31, 30, 31, 31, 30, 31, 30, 31].getD (m - 1).toNat 0 = cumG l (m + 1) - cumG l m) 13 (glen_fin l) (by omega) (by omega) h1
theorem cum13 (l : Bool) : cumG l 13 = if l = true then 366 else 365 := by cases l <;> decide
theorem cum_mono {l : Bool} {m m' : Int} (h1 : 1 ≤ m) (h : m < m') (h2 : m' ≤ 12) : cumG l (m + 1) ≤ cumG l m' := by
  unfold cumG
  cases l <;> simp <;> (repeat' split) <;> omega
theorem md_uniq {l : Bool} {k m d m' d' : Int} (h : MD l k m d) (h' : MD l k m' d') : m = m' ∧ d = d' := by
  obtain ⟨a1, a2, a3, a4, a5⟩ := h
  obtain ⟨b1, b2, b3, b4, b5⟩ := h'
  rcases Int.lt_trichotomy m m' with h | h | h
  · have := @cum_mono l m m' a1 h b2; omega
  · subst h; exact ⟨rfl, by omega⟩
  · have := @cum_mono l m' m b1 h a2; omega
theorem l3_turn {y n m d : Int} (h2 : n < jan (y + 1)) (m1 : 1 ≤ m) (m2 : m ≤ 12) (hn : n - jan y = cumG (leapY y) m + d - 1) (ht : [31, jan (y + 1) - jan y - 337, 31, 30, 31, 30, 31, 31, 30, 31, 30, 31].getD (m - 1).toNat 0 < d) :
    1 ≤ m + 1 ∧ m + 1 ≤ 12 ∧ 1 ≤ d - [31, jan (y + 1) - jan y - 337, 31, 30, 31, 30, 31, 31, 30, 31, 30, 31].getD (m - 1).toNat 0 ∧ n - jan y = cumG (leapY y) (m + 1) + (d - [31, jan (y + 1) - jan y - 337, 31, 30, 31, 30, 31, 31, 30, 31, 30, 31].getD (m - 1).toNat 0) - 1 := by
  rw [glen_eq m1 m2] at ht ⊢
  refine ⟨by omega, ?_, by omega, by omega⟩
  apply Int.not_lt.mp
  intro q
  have e : m = 12 := by omega
  subst e
  have st := jan2_step y
  rw [← jan_eq, ← jan_eq] at st
  rw [show (12 : Int) + 1 = 13 by decide, cum13] at ht
  omega
theorem l3_meas {y n m d : Int} (h2 : n < jan (y + 1)) (m1 : 1 ≤ m) (m2 : m ≤ 12) (hn : n - jan y = cumG (leapY y) m + d - 1) (ht : [31, jan (y + 1) - jan y - 337, 31, 30, 31, 30, 31, 31, 30, 31, 30, 31].getD (m - 1).toNat 0 < d) : (12 - (m + 1)).toNat < (12 - m).toNat := by
  have := (l3_turn h2 m1 m2 hn ht).2.1
  omega
theorem l3_end {y n m d gm gd : Int} (h3 : MD (leapY y) (n - jan y) gm gd) (hn : n - jan y = cumG (leapY y) m + d - 1) (ht : ¬ [31, jan (y + 1) - jan y - 337, 31, 30, 31, 30, 31, 31, 30, 31, 30, 31].getD (m - 1).toNat 0 < d) (m1 : 1 ≤ m) (m2 : m ≤ 12) (d1 : 1 ≤ d) : m = gm ∧ d = gd := by
  rw [glen_eq m1 m2] at ht
  exact md_uniq ⟨m1, m2, d1, by omega, hn⟩ h3
theorem l3_start {y n : Int} (h1 : jan y ≤ n) : 1 ≤ (1 : Int) ∧ (1 : Int) ≤ 12 ∧ 1 ≤ n - jan y + 1 ∧ n - jan y = cumG (leapY y) 1 + (n - jan y + 1) - 1 := by
  have c1 : ∀ l, cumG l 1 = 0 := by decide
  rw [c1]; omega
theorem c_lawdate {w : World} {news : List (Addr × Obj)} {n gy gm gd : Int} {t : Tok} (h1 : jan gy ≤ n) (h2 : n < jan (gy + 1)) (h3 : MD (leapY gy) (n - jan gy) gm gd) : CT3 w 134 2 news [.int n t] gy gm gd := by
  k_with_none
  k_with "o eval Call" => ((with_reducible show wpAny _ _ (eval (Expr.Call (Expr.Name _ _) (_ :: _) [] _) _) _ _ _); refine Call_ ?_)
  k_with "o call ref" => (k_here; (with_reducible show wpAny _ _ (call (Value.ref 127) _) _ _ _); k_dflt (k_extra "c127"))
  unfold CT3 CB; k_fill
  intro p loose mean mg mb dp un gd cn cs a ccd cl outer A₀ base h₀ L m s Q E hB hF hX hN hT hk hdp hu hret
  refine wpAny_call ?_
  k_dflt cell_enter
  k_with "c127" => (refine' c_jan ?k1 ?k2 ?k3 ?k4 ?k5 ?k6 ?k7 ?k8 ?_; (case k1 => k_asm); (case k2 => k_asm); (case k3 => k_asm); (case k4 => k_asm); (case k5 => k_asm); (case k6 => first | exact rfl | assumption); (case k7 => ktr_room); (case k8 => ktr_units); intro t9 h9 tk9 F9 N9; (try dsimp only))
  k_with "exec While Compare cons nil" => (try k_fold); (show wpAny _ _ (exec (Stmt.While (Expr.Compare (Expr.Call _ _ _ _) [CmpOp.Gt] _ _) _ _ _) _) _ _ _); k_while (fun _ y => True) (fun _ y => (y - gy).toNat) "year"
  k_with "exec While Compare cons nil" => (try k_fold); (show wpAny _ _ (exec (Stmt.While (Expr.Compare (Expr.Call _ _ _ _) [CmpOp.LtE] _ _) _ _ _) _) _ _ _); k_while (fun _ y => jan y ≤ n) (fun _ y => (gy - y).toNat) "year"
  k_with "exec While Compare cons nil" => (try k_fold); (show wpAny _ _ (exec (Stmt.While (Expr.Compare (Expr.Name _ _) [CmpOp.Gt] _ _) _ _ _) _) _ _ _); (have e := jan_is h1 h2 (by assumption) (Int.not_le.mp (by assumption))); subst e; k_while (fun _ d m => 1 ≤ m ∧ m ≤ 12 ∧ 1 ≤ d ∧ n - jan gy = cumG (leapY gy) m + d - 1) (fun _ d m => (12 - m).toNat) "day" "month"
  k_with "state" => first | assumption | exact True.intro | exact Int.not_lt.mp (by assumption) | exact l3_start h1 | exact l3_turn h2 (by assumption) (by assumption) (by assumption) (by assumption) | (trace_state; fail)
  k_with "measure" => first | exact l1_meas h1 (by assumption) | exact l2_meas h2 (by assumption) | exact l3_meas h2 (by assumption) (by assumption) (by assumption) (by assumption) | (trace_state; fail)
  k_steps
  all_goals (
    have e := l3_end h3 (by assumption) (by assumption) (by assumption) (by assumption) (by assumption)
    exact ret3 hret (by k_asm) (by k_asm) (by k_mem) (by exact sub_cons (sub_cons sub_self)) rfl e.1 e.2)
  k_with_none
end Mine
end
section
theorem Mine.fresh10 : True ∧ True := by
  first | (walk1; fail) | skip
  w_top off
  k_with_none
  exact ⟨True.intro, True.intro⟩
open PySem PySem.W PySem.Spec PySem.Calls PyProof.Rows
set_option Elab.async false
set_option maxRecDepth 100000
set_option maxHeartbeats 1000000
namespace Mine
section
variable {prog : Program} {w : World} {A : Around} {E : Value → Shared → Prop} {s : Shared} {h₀ : Heap} {L : Addr} {m : Str → Option Value} {env : Env}
/-- what the source of a list comprehension over a range of any step hands on -/
def SrcS (prog : Program) (w : World) (A : Around) (h₀ : Heap) (L : Addr) (m : Str → Option Value) (env : Env) (elt : Expr) (x : Str) (scope : Scope) (cl : List (Str × Addr)) (Fin : Shared → List Value → List (Addr × Obj) → Prop) (xv : Value) (s₁ : Shared) : Prop :=
  ∃ r a b c t u v n news, xv = .ref r ∧ A.handled = none ∧ Fr h₀ L s₁.heap m ∧ News h₀ L s₁.heap news ∧ IsRange s₁.heap r a b c t u v ∧ Builtin.Range.small a b c = true ∧ Builtin.Range.rangeSize a b c = ((n : Nat) : Int) ∧ n ≤ sizeLine ∧
    ∀ s₂ : Shared, (∃ h, s₂ = { s₁ with heap := h }) → LCg.CompRest prog w A h₀ L m env elt x scope cl s₂ (fun _ => True) (fun i v => i < n ∧ ∃ t, v = .int (a + (i : Int) * c) t) (Fin s₂) n 0 [] news
theorem ListComp_S {elt iter : Expr} {x : Str} {px : Pos} {scope : Scope} {cl : List (Str × Addr)} {pos : Pos} {Q : Value → Shared → Prop} (_F₀ : Fr h₀ L s.heap m)
    (hclos : closureFor scope env = pure cl) (hcell : ∀ y ∈ scope.names, y.2 ≠ .cell) (hkind : scope.kind = .function)
    (hnames : ∀ y ∈ scope.names, y.2 = .local → scope.names.lookup y.1 = some .local) (hx : scope.names.lookup x = some .local)
    (h : wpAny (model prog w) A (eval iter env) (SrcS prog w A h₀ L m env elt x scope cl (fun s₂ => LCg.FinE h₀ L m s₂ Q)) E s)
    (hs : ∀ x, foldedSetIterable iter env x = pure x := by intro _; rfl) :
    wpAny (model prog w) A (eval (.ListComp elt [⟨.Name x px, iter, [], 0⟩] scope pos) env) Q E s := by
  rw [eval_ListComp]
  refine wpAny_comprehension_free (use := none) rfl hs hclos hkind hnames (wpAny_mono h (fun xv s₁ h₁ => ?_) fun _ _ e => e)
  obtain ⟨r, a, b, c, t, u, v, n, news, rfl, hh, F, N, hr, hsm, hn, hsz, R⟩ := h₁
  refine wpAny_pyIter_range hr hsm ?_
  have W : Walks prog w A s₁.heap.objs.size [s₁.heap.objs.size] [s₁.heap.objs.size] n (fun i v => i < n ∧ ∃ t, v = .int (a + i * c) t) (fun i h => IsRangeIter h s₁.heap.objs.size (a + (i : Nat) * c) ((n : Int) - (i : Nat)) c) := (Walks.range hh _ a c n).bound
  refine LCg.block_U W hsz (fun i h st => ⟨_, st⟩) (fun i h h' o nw st e e' _ _ _ => ?_) hcell hkind hx (by show IsRangeIter _ _ _ _ _; rw [hn]; simpa using Heap.get?_push_size _ rfl) (fun b hb => ?_)
    (F.keeps fun _ _ e => Heap.get?_push_of_some _ e) (N.grown fun _ _ e => Heap.get?_push_of_some _ e) (Nat.ne_of_lt F.ns.lt) (next_is_new F) (fun p hp => Nat.ne_of_lt (Heap.lt_size (N p hp).1)) trivial (R _ ⟨_, rfl⟩) ?_
  · have st' : h.get? _ = some _ := st
    show h'.get? _ = some _
    rw [e', ← e]; exact st'
  · rw [List.mem_singleton.mp hb]
    show s₁.heap.objs.size < (s₁.heap.push _).objs.size
    rw [Heap.size_push]; exact Nat.lt_succ_self _
  · intro D C h tk m' ys news' F' N' o1 hn' hC₀ hD₀ hCL hDL hCD offC fin
    refine ⟨m', hn', fun h'' hs'' => fin D h'' tk (F'.change hs'' hCL hC₀) (fun p hp => ?_) o1⟩
    refine ⟨hs''.extBut _ _ ?_ (N' p hp).1, (N' p hp).2⟩
    rcases List.mem_cons.mp hp with rfl | hp
    · exact Ne.symm hCD
    · exact offC p hp
theorem compEnd_mono {I C D : Addr} {oI oC oD : Obj} {S : List (Addr × Obj) → Prop} {rest rest' : Value → List (Addr × Obj) → Prop} {s₁ s₂ : Shared} {y : Value} (h : LCg.CompEnd h₀ L m s₁ I oI C oC D oD S rest y s₂) (k : ∀ y nw, rest y nw → rest' y nw) : LCg.CompEnd h₀ L m s₁ I oI C oC D oD S rest' y s₂ :=
  let ⟨h', tk, nw, e, F, N, o, hS, r⟩ := h; ⟨h', tk, nw, e, F, N, o, hS, k _ _ r⟩
theorem compEnd_new {I C D D9 : Addr} {oI oC oD o9 : Obj} {nw : List (Addr × Obj)} {rest : Value → List (Addr × Obj) → Prop} {s₁ : Shared} {h' : Heap} {tk : Nat} {y : Value} (F : Fr h₀ L h' m) (N : News h₀ L h' ((D9, o9) :: (I, oI) :: (C, oC) :: (D, oD) :: nw)) (l9 : ∀ p ∈ (I, oI) :: (C, oC) :: (D, oD) :: nw, p.1 < D9)
    (off : LCg.Off3 I C D nw) (r : rest y ((D9, o9) :: nw)) : LCg.CompEnd h₀ L m s₁ I oI C oC D oD (fun _ => True) rest y { s₁ with heap := h', toks := tk } := by
  refine LCg.CompEnd.intro F N ((D9, o9) :: nw) (fun p hp => ?_) ⟨⟨?_, ?_, ?_⟩, off⟩ trivial r
  · rcases List.mem_cons.mp hp with e | hp
    · exact e ▸ .tail _ (.head _)
    rcases List.mem_cons.mp hp with e | hp
    · exact e ▸ .tail _ (.tail _ (.head _))
    rcases List.mem_cons.mp hp with e | hp
    · exact e ▸ .tail _ (.tail _ (.tail _ (.head _)))
    rcases List.mem_cons.mp hp with e | hp
    · exact e ▸ .head _
    · exact .tail _ (.tail _ (.tail _ (.tail _ hp)))
  · exact (Nat.ne_of_lt (l9 _ (.head _))).symm
  · exact (Nat.ne_of_lt (l9 _ (.tail _ (.head _)))).symm
  · exact (Nat.ne_of_lt (l9 _ (.tail _ (.tail _ (.head _))))).symm
theorem rest_of {elt : Expr} {x : Str} {scope : Scope} {cl : List (Str × Addr)} {S : List (Addr × Obj) → Prop} {P : Nat → Value → Prop} {Fin : List Value → List (Addr × Obj) → Prop} {n : Nat} (J : Nat → List Value → List (Addr × Obj) → Prop)
    (turn : ∀ i ys news v I oI C oC D m₂ h tk (E' : Value → Shared → Prop), i < n → J i ys news → P i v → LCg.NsObj oC m₂ → m₂ x = some v → Fr h₀ L h m → News h₀ L h ((I, oI) :: (C, oC) :: (D, LCg.lst ys) :: news) → LCg.Off3 I C D news → ((@Ne Nat I C) ∧ (@Ne Nat I D) ∧ (@Ne Nat C D)) →
      wpAny (model prog w) A (eval elt (compEnvC scope cl C env)) (LCg.CompEnd h₀ L m { s with heap := h, toks := tk } I oI C oC D (LCg.lst ys) S (fun y news' => J (i + 1) (ys ++ [y]) news')) E' { s with heap := h, toks := tk })
    (fin : ∀ ys news, J n ys news → Fin ys news) : ∀ k i ys news, i + k = n → J i ys news → LCg.CompRest prog w A h₀ L m env elt x scope cl s S P Fin k i ys news
  | 0, i, ys, news, e, hj => fin ys news (by rw [← e]; exact hj)
  | k + 1, i, ys, news, e, hj => fun v I oI C oC D m₂ h tk E' hP hn hx F N off hne =>
    wpAny_mono (turn i ys news v I oI C oC D m₂ h tk E' (by omega) hj hP hn hx F N off hne) (fun _ _ q => compEnd_mono q fun y nw hj' => rest_of J turn fin k (i + 1) (ys ++ [y]) nw (by omega) hj') fun _ _ q => q
end
end Mine
end
section
theorem Mine.fresh11 : True ∧ True := by
  first | (walk1; fail) | skip
  w_top off
  k_with_none
  exact ⟨True.intro, True.intro⟩
open PySem PySem.W PySem.Spec PySem.Calls PyProof.Rows
set_option Elab.async false
set_option maxRecDepth 100000
set_option maxHeartbeats 400000
namespace Mine
theorem abs_store {M : Model} {A : Around} {env : Env} {x : Str} {V : Int} {t : Tok} {Q : Unit → Shared → Prop} {E : Value → Shared → Prop} {s : Shared} (φ : Int → Prop) (h0 : φ V) (h : ∀ Y, φ Y → wpAny M A (storeName env x (.int Y t)) Q E s) : wpAny M A (storeName env x (.int V t)) Q E s := h V h0
theorem ne_lt {news : List (Addr × Obj)} {L c : Addr} (h : ∀ p ∈ news, p.1 < L) (hc : L ≤ c) : ∀ p ∈ news, p.1 ≠ c := fun p hp e => by have := h p hp; rw [e] at this; exact absurd hc (Nat.not_le.mpr this)
local macro_rules | `(tactic| k_all) => `(tactic| k_extra "kall")
abbrev CTL (w : World) (f : Addr) (n : Nat) (news : List (Addr × Obj)) (vs : List Value) (ds : List Dat) : Prop :=
  CB w f n news vs fun h₀ L m s Q => ∀ (D : Addr) (ys : List Value) (c : Nat) (tl : List (Addr × Obj)) (h' : Heap) (tk' : Nat), Fr h₀ L h' m → News h₀ L h' ((D, ({ cls := .type "list", data := .seq ys.toArray c } : Obj)) :: tl) → (∀ p ∈ news, p ∈ tl) → DatAll tl ys ds → Q (.ref D) { s with heap := h', toks := tk' }
def calD (lp ml : Nat) : List Dat := List.replicate lp Dat.none ++ (List.range ml).map (fun (i : Nat) => Dat.int (1 + (i : Int))) ++ List.replicate 7 Dat.none
def calRow (lp ml k : Nat) : Dat := .list (((calD lp ml).drop (7 * k)).take 7)
def calRows (lp ml : Nat) : List Dat := (List.range ((lp + ml + 6) / 7)).map (calRow lp ml)
theorem dat_ints {nw : List (Addr × Obj)} {vs : List Value} {ns : List Int} (h : IntsAre vs ns) : DatAll nw vs (ns.map Dat.int) := by
  induction h with
  | nil => exact .nil
  | cons n t _ ih => exact .cons (.int n t) ih
theorem dat_range {nw : List (Addr × Obj)} {vs : List Value} {n : Nat} (h : IntsAre vs (rangeKs 1 n)) : DatAll nw vs ((List.range n).map (fun (i : Nat) => Dat.int (1 + (i : Int)))) := by
  have q := dat_ints (nw := nw) h
  rw [rangeKs, List.map_map] at q
  exact q
theorem dat_none {nw : List (Addr × Obj)} : ∀ n : Nat, DatAll nw (List.replicate n Value.none) (List.replicate n Dat.none)
  | 0 => .nil
  | n + 1 => .cons .none (dat_none n)
theorem dat_drop {nw : List (Addr × Obj)} : ∀ {vs : List Value} {ds : List Dat} (k : Nat), DatAll nw vs ds → DatAll nw (vs.drop k) (ds.drop k)
  | _, _, 0, h => h
  | _, _, _ + 1, .nil => .nil
  | _, _, k + 1, .cons _ r => dat_drop k r
theorem dat_take {nw : List (Addr × Obj)} : ∀ {vs : List Value} {ds : List Dat} (k : Nat), DatAll nw vs ds → DatAll nw (vs.take k) (ds.take k)
  | _, _, 0, _ => .nil
  | _, _, _ + 1, .nil => .nil
  | _, _, k + 1, .cons d r => .cons d (dat_take k r)
theorem dat_days {nw : List (Addr × Obj)} {vs : List Value} {lp n : Nat} (h : IntsAre vs (rangeKs 1 n)) : DatAll nw (List.replicate lp Value.none ++ vs ++ List.replicate (Int.toNat 7) Value.none) (calD lp n) :=
  ((dat_none lp).append (dat_range h)).append (dat_none 7)
theorem slice7 {l : List Value} {i : Nat} (h : 7 * i + 7 ≤ l.length) : (slicePick l.toArray (some (0 + (i : Int) * 7)) (some (0 + (i : Int) * 7 + 7)) none).toList = (l.drop (7 * i)).take 7 := by
  have e : sliceBounds (some (0 + (i : Int) * 7)) (some (0 + (i : Int) * 7 + 7)) none l.toArray.size = (((7 * i : Nat) : Int), ((7 * i + 7 : Nat) : Int), 1) := by
    simp only [sliceBounds, Option.getD_none, show (1 : Int) > 0 by decide, if_true, List.size_toArray]
    rw [if_neg (by omega), if_neg (by omega)]
    congr 1
    · omega
    · congr 1; omega
  rw [kmk_pick_nat _ e]
  simp
theorem small_fin : ∀ k : Fin 38, 29 ≤ (k.val : Int) → Builtin.Range.small 0 (k.val : Int) 7 = true ∧ Builtin.Range.rangeSize 0 (k.val : Int) 7 = ((((k.val : Int) + 6) / 7).toNat : Int) := by decide +kernel
theorem small7 {b : Int} (h0 : 29 ≤ b) (h1 : b ≤ 37) : Builtin.Range.small 0 b 7 = true ∧ Builtin.Range.rangeSize 0 b 7 = (((b + 6) / 7).toNat : Int) :=
  fin_int (P := fun b => 29 ≤ b → Builtin.Range.small 0 b 7 = true ∧ Builtin.Range.rangeSize 0 b 7 = (((b + 6) / 7).toNat : Int)) 38 small_fin (by omega) (by omega) h0
theorem days_len {vs : List Value} {lp n i : Nat} (h : IntsAre vs (rangeKs 1 n)) (hi : 7 * i ≤ lp + n) : 7 * i + 7 ≤ (List.replicate lp Value.none ++ vs ++ List.replicate (Int.toNat 7) Value.none).length := by
  have e := h.length
  rw [rangeKs_length] at e
  simp only [List.length_append, List.length_replicate, e]
  have : Int.toNat 7 = 7 := rfl
  omega
theorem days_size {vs : List Value} {lp n : Nat} (h : IntsAre vs (rangeKs 1 n)) (hi : lp + n ≤ 100) : (List.replicate lp Value.none ++ vs ++ List.replicate (Int.toNat 7) Value.none).toArray.size ≤ sizeLine := by
  have e := h.length
  rw [rangeKs_length] at e
  rw [List.size_toArray, sizeLine_eq]
  simp only [List.length_append, List.length_replicate, e]
  have : Int.toNat 7 = 7 := rfl
  omega
theorem sz1 {vs : List Value} {a n : Nat} (h : IntsAre vs (rangeKs 1 n)) (hi : a + n ≤ 100) : (List.replicate a Value.none).length + vs.length ≤ sizeLine := by
  have e := h.length
  rw [rangeKs_length] at e
  rw [e, List.length_replicate, sizeLine_eq]
  omega
theorem sz2 {vs : List Value} {a n : Nat} (h : IntsAre vs (rangeKs 1 n)) (hi : a + n ≤ 100) : (List.replicate a Value.none ++ vs).length + (List.replicate (Int.toNat 7) Value.none).length ≤ sizeLine := by
  have e := h.length
  rw [rangeKs_length] at e
  rw [List.length_append, e, List.length_replicate, List.length_replicate, sizeLine_eq]
  have : Int.toNat 7 = 7 := rfl
  omega
theorem rep1 (n : Nat) (v : Value) : (List.replicate n [v]).flatten = List.replicate n v := by
  induction n with
  | zero => rfl
  | succ n ih => rw [List.replicate_succ, List.flatten_cons, ih]; rfl
section
variable {prog : Program} {w : World} {A : Around} {E : Value → Shared → Prop} {s : Shared} {h₀ : Heap} {L : Addr} {m : Str → Option Value} {news : List (Addr × Obj)} {l : Addr} {vs ws : List Value} {x : Int} {u : Tok} {Q : Value → Shared → Prop}
theorem mul_left (Fm : Fr h₀ L s.heap m) (N : News h₀ L s.heap news) (hl : s.heap.IsList l vs.toArray) (h0 : 0 ≤ x) (h1 : x ≤ 256) (hz : vs.length * x.toNat ≤ 256) (e : (List.replicate x.toNat vs).flatten = ws)
    (h : ∀ D h', Fr h₀ L h' m → News h₀ L h' ((D, W.listOf ws.toArray 0) :: news) → (∀ p ∈ news, p.1 < D) → Q (.ref D) { s with heap := h' }) : wpAny (model prog w) A (binaryOp .Mult (.int x u) (.ref l)) Q E s := by
  subst e
  obtain ⟨o, ho, hc, k, hd⟩ := id hl
  obtain ⟨cls, d, data, sl⟩ := o
  simp only at hc hd
  subst hc hd
  have hz' : vs.toArray.size * x.toNat ≤ 256 := by simpa using hz
  have N' := News.push Fm N { cls := Value.type "list", data := Data.seq (List.foldl (fun x1 x2 => x1 ++ x2) #[] (List.replicate (if vs.toArray.isEmpty = true then 0 else x.toNat) vs.toArray)) }
  have hend := h _ _ (Fm.push _) (by rw [listMul_foldl_if] at N'; exact N') (fun p hp => Heap.lt_size (N p hp).1)
  exact lm_binaryOp_repeat_right (T := "list") (U := "int") (by decide) (fun s' => typeIs_int s' x u) ⟨_, ho, rfl⟩ F.fills_int_mul noFill_list_mul F.slot_int_mul lm_noRepeat_int repeat_list F.slot_int_index.lookup
    (call_meets F.slot_int_mul (typeIs_int s x u) F.entry_int_mul (F.args_int_mul_2 _ _) (lm_int_mul_list_any x u l vs.toArray k d sl)
      ⟨ho, rfl, ⟨_, ho, rfl⟩, call_meets F.slot_list_mul ⟨_, ho, rfl⟩ F.entry_list_mul (F.args_list_mul_2 _ _)
        (lm_list_mul_any l vs.toArray k d sl x u (by simp [Builtin.List.listFitsIndex]; omega) (by omega) (by simp [Builtin.List.listTooLong, sizeLine]; omega)) ⟨ho, by rw [listMul_foldl_if]; exact hend⟩⟩)
end
theorem c_mch {w : World} {news : List (Addr × Obj)} {sw ml : Int} {t t' : Tok} (h1 : 29 ≤ ml) (h2 : ml ≤ 31) : CTL w 33 1 news [.int sw t, .int ml t'] (calRows ((sw + 1).fmod 7).toNat ml.toNat) := by
  k_with_none
  k_with "o eval ListComp" => (k_here; k_dflt (refine ListComp_S (_F₀ := by k_asm) (by with_unfolding_all rfl) (by decide) (by rfl) (by decide) (by rfl) ?_))
  k_with "o eval Name" => (k_here; (with_reducible show wpAny _ _ (eval (Expr.Name (Str.ofString "days") _) (compEnvC _ _ _ _)) _ _ _); k_dflt (k_extra "daysName"))
  unfold CTL CB; k_fill
  intro p loose mean mg mb dp un gd cn cs a ccd cl outer A₀ base h₀ L m s Q E hB hF hX hN hT hk hdp hu hret
  refine wpAny_call ?_
  k_dflt ((refine' code_defC ?k1 ?k2 ?k3 ?k4 ?k5 ?kA ?kF ?kK ?k6 ?k7 ?k8 ?k9 ?kB ?kD ?_ ?c2 ?c3 ?c4; (case kA => exact rfl); (case kF => exact rfl); (case kK => assumption); (case k1 => k_asm); (case k2 => k_asm); (case k3 => k_asm); (case k4 => k_asm); (case k5 => k_asm); (case k6 => k_is); (case k7 => k_is); (case k8 => ktr_room); (case k9 => exact BindsTo.of_eq rfl); (case kB => exact rfl); (case kD => decide +kernel); (case c2 => exact rfl); (case c3 => exact rfl); (case c4 => exact rfl)); intro g' L' h' tk' cells' FG' F' N' Y' B' X' T' lN; k_cells Y'; (try simp only [List.cons_append, List.nil_append] at N'); (try dsimp only); (try k_lift B'); (try k_fold))
  k_with "kall" => exact ne_lt lN (Nat.le_succ _)
  k_with "storeName int" => (with_reducible show wpAny _ _ (storeName _ (Str.ofString "lpad") _) _ _ _); k_dflt ((refine' Mine.abs_store (fun V => 0 ≤ V ∧ V < 7 ∧ V = (sw + 1).fmod 7) ?qh0 ?_); (case qh0 => (show 0 ≤ (sw + 1).fmod 7 ∧ (sw + 1).fmod 7 < 7 ∧ _); refine ⟨?_, ?_, rfl⟩ <;> rw [fm (by decide)] <;> omega); intro V hV; (refine' storeX_L ?qF ?qN ?_ ?qa ?qb); (case qF => k_asm); (case qN => k_asm); (case qa => rfl); (case qb => rfl); intro h' F' N'; (try k_sweep))
  k_with "binaryOp Mult ref int" => k_dflt ((refine' KMa.mul ?qF ?qN ?ql ?qlo ?qhi ?qz (rep1 _ _) ?_); (case qF => k_asm); (case qN => k_asm); (case ql => is_list); (case qlo => omega); (case qhi => omega); (case qz => (simp only [List.length_cons, List.length_nil]; omega)); intro D' h' F' N' l1; (try k_lt l1))
  k_with "binaryOp Add ref ref" => k_dflt ((refine' kmk_add_lit ?qF ?qN ?qa ?qb rfl ?_ ?qz); (case qF => k_asm); (case qN => k_asm); (case qa => is_list); (case qb => is_list); (case qz => ((rename IntsAre _ _ => hIz); first | exact sz1 hIz (by omega) | exact sz2 hIz (by omega))); intro D' h' F' N' l1; (try k_lt l1))
  k_with "binaryOp Mult int ref" => k_dflt ((refine' mul_left ?qF ?qN ?ql ?qlo ?qhi ?qz (rep1 _ _) ?_); (case qF => k_asm); (case qN => k_asm); (case ql => is_list); (case qlo => omega); (case qhi => omega); (case qz => (simp only [List.length_cons, List.length_nil]; omega)); intro D' h' F' N' l1; (try k_lt l1))
  k_steps
  (rename IsRange _ _ _ _ _ _ _ _ => rg)
  (rename News _ _ _ _ => nN)
  refine ⟨_, _, _, _, _, _, _, ((V + ml + 6) / 7).toNat, _, rfl, rfl, by k_asm, nN, rg, ?_, ?_, ?_, ?_⟩
  · exact (small7 (by omega) (by omega)).1
  · exact (small7 (by omega) (by omega)).2
  · rw [sizeLine_eq]; omega
  · rintro s₂ ⟨hh, rfl⟩
    (rename IntsAre _ _ => hI)
    rw [show (1 + ml - 1).toNat = ml.toNat by omega] at hI
    refine rest_of (n := ((V + ml + 6) / 7).toNat) (fun i ys nw => (∀ p ∈ _, p ∈ nw) ∧ DatAll nw ys ((List.range i).map (calRow V.toNat ml.toNat))) ?turn ?fin _ 0 [] _ (by omega) ⟨sub_self, .nil⟩
    case turn =>
      intro i ys nw v I oI C oC D m₂ h tk E' hi hJ hP hn hx F N off hne
      obtain ⟨hb, hda⟩ := hJ
      obtain ⟨_, tv, rfl⟩ := hP
      have mD := hb _ (List.Mem.head _)
      have mC := hb _ (.tail _ (.tail _ (.tail _ (.tail _ (.tail _ (.tail _ (.tail _ (List.Mem.head _))))))))
      k_with "daysName" => (refine' lcf_cell ?qN ?qc (.tail _ (.tail _ (.tail _ mC))) ?qd ?_ ?qa ?qb); (case qa => rfl); (case qb => rfl); (case qN => k_asm); (case qc => rfl); (case qd => k_asm)
      have hlen := days_len (lp := V.toNat) (i := i) hI (by omega)
      k_with "subscriptTail Name Slice ref ref" => k_dflt ((refine' kmk_slice_lit ?qF ?qN ?ql ?qp ?qq (slice7 hlen) ?_ ?qs ?qt ?qz); (case qF => k_asm); (case qN => k_asm); (case ql => exact News.isList N (.tail _ (.tail _ (.tail _ mD)))); (case qp => exact IsPart.int _ _); (case qq => exact IsPart.int _ _); (case qs => with_unfolding_all rfl); (case qt => kmk_pure); (case qz => exact days_size hI (by omega)); intro D9 h9 F9 N9 l9)
      k_steps
      refine compEnd_new F9 N9 l9 off ⟨fun p hp => .tail _ (hb p hp), ?_⟩
      rw [List.range_succ, List.map_append]
      exact (hda.mono fun p hp => .tail _ hp).append (.one (.list (.head _) (dat_take 7 (dat_drop (7 * i) (dat_days hI)))))
    case fin =>
      rintro ys nw ⟨hb, hda⟩ D h tk F N O
      k_steps
      refine hret D ys ys.length nw h tk (by k_asm) (by k_asm) (fun p hp => hb p (.tail _ (.tail _ (.tail _ (.tail _ (.tail _ (.tail _ (.tail _ (.tail _ hp))))))))) ?_
      unfold calRows
      rw [← hV.2.2, show (V.toNat + ml.toNat + 6) / 7 = ((V + ml + 6) / 7).toNat by omega]
      exact hda
  k_with_none
end Mine
end
section
theorem Mine.fresh12 : True ∧ True := by
  first | (walk1; fail) | skip
  w_top off
  k_with_none
  exact ⟨True.intro, True.intro⟩
open PySem PySem.W PySem.Spec PySem.Calls PyProof.Rows
set_option Elab.async false
set_option maxRecDepth 100000
set_option maxHeartbeats 1000000
namespace Mine
section
variable {w : World} {news : List (Addr × Obj)} {fa : Addr} {Ef : Int → Int}
theorem c_tojdP_r {py Y mo da r : Int} (hE : CF w fa news Ef) (hp : py = Y - 621) (G : Good Ef Y) (hr : Ef Y - 1 + mP mo + da = r) {t t' t'' : Tok} : CV w 85 8 news [.int py t, .int mo t', .int da t'', .ref fa] (fun t => .int r t) := by
  subst hr; exact c_tojdP hE hp G
theorem c_mlen_r {py Y mo r : Int} (hE : CF w fa news Ef) {t t' : Tok} (hp : py = Y - 621) (G : Good Ef Y) (G' : Good Ef (Y + 1)) (m1 : 1 ≤ mo) (m2 : mo ≤ 12) (hr : plen Ef Y mo = r) : CV w 113 10 news [.int py t, .int mo t', .ref fa] (fun t => .int r t) := by
  subst hr; exact c_mlen hE hp G G' m1 m2
theorem c_jd2py_r {jd y a b : Int} {t : Tok} (hE : CF w fa news Ef) (hm : Mono Ef) (h0 : jan y ≤ Ef y) (h4 : Ef y ≤ jd) (h5 : jd < Ef (y + 1)) (ha : pyr (Ef y - 1) = a) (hb : Ef y - 1 = b) : CT2 w 78 7 news [.int jd t, .ref fa] a b := by
  subst ha hb; exact c_jd2py hE hm h0 h4 h5
theorem c_leap_r {py Y : Int} {r : Bool} (hE : CF w fa news Ef) (hp : py = Y - 621) (G : Good Ef Y) (G' : Good Ef (Y + 1)) {t : Tok} (hr : decide (Ef (Y + 1) - Ef Y > 365) = r) : CV w 64 9 news [.int py t, .ref fa] (fun _ => .bool r) := by
  subst hr; exact c_leap hE hp G G'
end
theorem c_mcal {w : World} {news : List (Addr × Obj)} {fa : Addr} {Ef : Int → Int} (hE : CF w fa news Ef) {py Y mo b r : Int} {t t' : Tok} (hp : py = Y - 621) (G : Good Ef Y) (G' : Good Ef (Y + 1)) (m1 : 1 ≤ mo) (m2 : mo ≤ 12) (hb : Ef Y - 1 + mP mo + 1 = b) (hr : plen Ef Y mo = r) (r1 : 29 ≤ r) (r2 : r ≤ 31) :
    CTL w 120 11 news [.int py t, .int mo t', .ref fa] (calRows ((b.fmod 7 + 1).fmod 7).toNat r.toNat) := by
  k_with_none
  k_with "o eval Call" => ((with_reducible show wpAny _ _ (eval (Expr.Call (Expr.Name _ _) (_ :: _) [] _) _) _ _ _); refine Call_ ?_)
  k_with "o call ref" => (k_here; (with_reducible show wpAny _ _ (call (Value.ref 28) _) _ _ _); k_dflt (k_extra "c28"))
  k_with "o call ref" => (k_here; (with_reducible show wpAny _ _ (call (Value.ref 33) _) _ _ _); k_dflt (k_extra "c33"))
  k_with "o call ref" => (k_here; (with_reducible show wpAny _ _ (call (Value.ref 85) _) _ _ _); k_dflt (k_extra "c85"))
  k_with "o call ref" => (k_here; (with_reducible show wpAny _ _ (call (Value.ref 113) _) _ _ _); k_dflt (k_extra "c113"))
  unfold CTL CB; k_fill
  intro p loose mean mg mb dp un gd cn cs a ccd cl outer A₀ base h₀ L m s Q E hB hF hX hN hT hk hdp hu hret
  refine wpAny_call ?_
  k_dflt cell_enter
  k_with "c85" => (refine' c_tojdP_r (CF.mono hE ?k0) hp G hb ?k1 ?k2 ?k3 ?k4 ?k5 ?k6 ?k7 ?k8 ?_; (case k1 => k_asm); (case k2 => k_asm); (case k3 => k_asm); (case k4 => k_asm); (case k0 => first | exact sub_self | exact sub_cons sub_self | exact sub_cons (sub_cons sub_self) | exact sub_cons (sub_cons (sub_cons sub_self))); (case k5 => k_asm); (case k6 => first | exact rfl | assumption); (case k7 => ktr_room); (case k8 => ktr_units); intro t9 h9 tk9 F9 N9; (try dsimp only))
  k_with "c28" => (refine' c_jwday ?k1 ?k2 ?k3 ?k4 ?k5 ?k6 ?k7 ?k8 ?_; (case k1 => k_asm); (case k2 => k_asm); (case k3 => k_asm); (case k4 => k_asm); (case k5 => k_asm); (case k6 => first | exact rfl | assumption); (case k7 => ktr_room); (case k8 => ktr_units); intro t9 h9 tk9 F9 N9; (try dsimp only))
  k_with "c113" => (refine' c_mlen_r (CF.mono hE ?k0) hp G G' m1 m2 hr ?k1 ?k2 ?k3 ?k4 ?k5 ?k6 ?k7 ?k8 ?_; (case k1 => k_asm); (case k2 => k_asm); (case k3 => k_asm); (case k4 => k_asm); (case k0 => first | exact sub_self | exact sub_cons sub_self | exact sub_cons (sub_cons sub_self) | exact sub_cons (sub_cons (sub_cons sub_self))); (case k5 => k_asm); (case k6 => first | exact rfl | assumption); (case k7 => ktr_room); (case k8 => ktr_units); intro t9 h9 tk9 F9 N9; (try dsimp only))
  k_with "c33" => (refine' c_mch r1 r2 ?k1 ?k2 ?k3 ?k4 ?k5 ?k6 ?k7 ?k8 ?_; (case k1 => k_asm); (case k2 => k_asm); (case k3 => k_asm); (case k4 => k_asm); (case k5 => k_asm); (case k6 => first | exact rfl | assumption); (case k7 => ktr_room); (case k8 => ktr_units); intro D9 ys9 c9 tl9 h9 tk9 F9 N9 s9 d9; (try dsimp only))
  k_steps
  exact hret _ _ _ _ _ _ (by k_asm) (by k_asm) (by assumption) (by assumption)
  k_with_none
end Mine
end
section
theorem Mine.fresh13 : True ∧ True := by
  first | (walk1; fail) | skip
  w_top off
  k_with_none
  exact ⟨True.intro, True.intro⟩
open PySem PySem.W PySem.Spec PySem.Calls PyProof.Rows
set_option Elab.async false
set_option maxRecDepth 100000
set_option maxHeartbeats 1000000
namespace Mine
def cellD (lp n idx : Nat) : Dat := if lp ≤ idx ∧ idx < lp + n then .int (1 + ((idx - lp : Nat) : Int)) else .none
def rowAt (lp n k : Nat) : List Dat := (List.range 7).map fun c => cellD lp n (7 * k + c)
theorem calD_get (lp L idx : Nat) : (calD lp L)[idx]? = if idx < lp + L + 7 then some (cellD lp L idx) else none := by
  unfold calD cellD
  rw [List.getElem?_append, List.getElem?_append]
  simp only [List.length_append, List.length_replicate, List.length_map, List.length_range, List.getElem?_replicate, List.getElem?_map]
  by_cases h1 : idx < lp
  · rw [if_pos (by omega), if_pos h1, if_pos h1, if_pos (by omega), if_neg (by omega)]
  · by_cases h2 : idx < lp + L
    · rw [if_pos h2, if_neg h1, List.getElem?_range (by omega), if_pos (by omega), if_pos ⟨by omega, h2⟩]
      rfl
    · rw [if_neg h2]
      by_cases h3 : idx < lp + L + 7
      · rw [if_pos (by omega), if_pos h3, if_neg (by omega)]
      · rw [if_neg (by omega), if_neg h3]
theorem calRow_eq {lp L k : Nat} (h : 7 * k ≤ lp + L) : calRow lp L k = .list (rowAt lp L k) := by
  unfold calRow rowAt
  congr 1
  apply List.ext_getElem?
  intro c
  rw [List.getElem?_take, List.getElem?_map]
  by_cases hc : c < 7
  · rw [if_pos hc, List.getElem?_drop, calD_get, if_pos (by omega), List.getElem?_range hc]
    rfl
  · rw [if_neg hc, List.getElem?_eq_none (by simp; omega)]
    rfl
theorem row_set {lp i : Nat} : (rowAt lp i ((lp + i) / 7)).set ((lp + i) % 7) (.int (1 + (i : Int))) = rowAt lp (i + 1) ((lp + i) / 7) := by
  apply List.ext_getElem?
  intro c
  unfold rowAt
  rw [List.getElem?_set, List.getElem?_map, List.getElem?_map, List.length_map, List.length_range]
  by_cases hc : c < 7
  · rw [List.getElem?_range hc]
    by_cases e : (lp + i) % 7 = c
    · rw [if_pos e, if_pos (by omega)]
      show some _ = some (cellD _ _ _)
      have e2 : 7 * ((lp + i) / 7) + c = lp + i := by omega
      rw [e2]
      unfold cellD
      rw [if_pos (by omega)]
      congr 2
      omega
    · rw [if_neg e]
      show some (cellD _ _ _) = some (cellD _ _ _)
      unfold cellD
      congr 1
      by_cases q : lp ≤ 7 * ((lp + i) / 7) + c ∧ 7 * ((lp + i) / 7) + c < lp + i
      · rw [if_pos q, if_pos (by omega)]
      · rw [if_neg q, if_neg (by omega)]
  · rw [List.getElem?_eq_none (l := List.range 7) (by simp; omega), if_neg (by omega)]
    rfl
theorem row_full {lp i L : Nat} (h : (lp + i) % 7 = 6) (hi : i < L) : rowAt lp (i + 1) ((lp + i) / 7) = rowAt lp L ((lp + i) / 7) := by
  unfold rowAt
  apply List.map_congr_left
  intro c hc
  have hc' := List.mem_range.mp hc
  unfold cellD
  by_cases q : lp ≤ 7 * ((lp + i) / 7) + c
  · rw [if_pos (by omega), if_pos (by omega)]
  · rw [if_neg (by omega), if_neg (by omega)]
theorem row_new {lp i : Nat} (h : (lp + i) % 7 = 6) : rowAt lp (i + 1) ((lp + (i + 1)) / 7) = List.replicate 7 Dat.none := by
  unfold rowAt cellD
  apply List.ext_getElem?
  intro c
  rw [List.getElem?_map, List.getElem?_replicate]
  by_cases hc : c < 7
  · rw [List.getElem?_range hc, if_pos hc]
    show some (if _ then _ else _) = _
    rw [if_neg (by omega)]
  · rw [List.getElem?_eq_none (l := List.range 7) (by simp; omega), if_neg hc]
    rfl
theorem row_zero {lp : Nat} (h : lp < 7) : rowAt lp 0 ((lp + 0) / 7) = List.replicate 7 Dat.none := by
  unfold rowAt cellD
  apply List.ext_getElem?
  intro c
  rw [List.getElem?_map, List.getElem?_replicate]
  by_cases hc : c < 7
  · rw [List.getElem?_range hc, if_pos hc]
    show some (if _ then _ else _) = _
    rw [if_neg (by omega)]
  · rw [List.getElem?_eq_none (l := List.range 7) (by simp; omega), if_neg hc]
    rfl
theorem dat_set {nw : List (Addr × Obj)} {v : Value} {d : Dat} (hv : DatIn nw v d) : ∀ {vs : List Value} {ds : List Dat} (k : Nat), DatAll nw vs ds → DatAll nw (vs.set k v) (ds.set k d)
  | _, _, _, .nil => .nil
  | _, _, 0, .cons _ r => .cons hv r
  | _, _, k + 1, .cons q r => .cons q (dat_set hv k r)
section
variable {prog : Program} {w : World} {A : Around} {E : Value → Shared → Prop} {s : Shared} {h₀ : Heap} {L D : Addr} {m : Str → Option Value} {rest : List (Addr × Obj)} {vs : List Value} {n : Nat} {k : Int} {t : Tok} {v : Value}
theorem set_any {Q : Unit → Shared → Prop} (F : Fr h₀ L s.heap m) (N : News h₀ L s.heap ((D, W.listOf vs.toArray n) :: rest)) (off : ∀ p ∈ rest, p.1 ≠ D) (h0 : 0 ≤ k) (h1 : k < vs.length) (hfit : k < 2 ^ 63)
    (h : ∀ h', Fr h₀ L h' m → News h₀ L h' ((D, W.listOf (vs.set k.toNat v).toArray n) :: rest) → Q () { s with heap := h' }) : wpAny (model prog w) A (setItem (.ref D) (.int k t) v) Q E s := by
  have z := N _ (.head _)
  refine ki_setAt z.1 h0 hfit (by rw [List.size_toArray]; exact h1) (h _ (F.change (Heap.SameBut.update ..) z.2.1 z.2.2) (ki_turn (pre := []) _ N (fun _ q => nomatch q) off ?_ ?_))
  · apply Array.toList_inj.mp
    simp
  · simp
end
def RowsM (m₀ : Str → Option Value) (rA lA : Addr) (u : Str → Option Value) : Str → Option Value := fun z =>
  if z = Str.ofString "one" then u z else if z = Str.ofString "column" then u z else if z = Str.ofString "row" then some (.ref rA) else if z = Str.ofString "rows" then some (.ref lA) else m₀ z
def qR (lp L i : Nat) : Nat := if i = L then (lp + L + 6) / 7 else (lp + i) / 7
def RowsJ (base : List (Addr × Obj)) (m₀ : Str → Option Value) (lp L i : Nat) (m : Str → Option Value) (nx : List (Addr × Obj)) : Prop :=
  ∃ (rA lA : Addr) (refs cur : List Value) (c1 c2 : Nat) (tl : List (Addr × Obj)) (u : Str → Option Value),
    nx = (rA, W.listOf cur.toArray c1) :: (lA, W.listOf refs.toArray c2) :: tl ∧ (∀ p ∈ base, p ∈ tl) ∧ (∀ p ∈ tl, p.1 ≠ rA) ∧ (∀ p ∈ tl, p.1 ≠ lA) ∧ rA ≠ lA ∧ m = RowsM m₀ rA lA u ∧
    DatAll tl refs ((List.range (qR lp L i)).map (calRow lp L)) ∧ refs.length ≤ i ∧ cur.length = 7 ∧ (i < L → ∀ nw, DatAll nw cur (rowAt lp i ((lp + i) / 7)))
section
variable {h₀ h' : Heap} {L₀ : Addr} {m₀ m' : Str → Option Value} {base tl own : List (Addr × Obj)} {lp L i : Nat} {rA lA rN : Addr} {refs cur : List Value} {c1 c2 c3 : Nat} {s₁ : Shared} {tk : Nat} {u : Str → Option Value}
theorem rows_stay (F : Fr h₀ L₀ h' m') (N : News h₀ L₀ h' ((rA, W.listOf cur.toArray c1) :: (lA, W.listOf refs.toArray c2) :: (tl ++ own))) (hm : m' = RowsM m₀ rA lA u)
    (hb : ∀ p ∈ base, p ∈ tl) (h1 : ∀ p ∈ tl, p.1 ≠ rA) (h2 : ∀ p ∈ tl, p.1 ≠ lA) (h3 : rA ≠ lA) (ho : TbOff own ((rA, W.listOf cur.toArray c1) :: (lA, W.listOf refs.toArray c2) :: tl))
    (hd : DatAll tl refs ((List.range (qR lp L i)).map (calRow lp L))) (hl : refs.length ≤ i) (hc : cur.length = 7) (hr : i < L → ∀ nw, DatAll nw cur (rowAt lp i ((lp + i) / 7))) :
    TbEnd h₀ L₀ (RowsJ base m₀ lp L i) own s₁ { s₁ with heap := h', toks := tk } := by
  refine ⟨h', tk, m', _, (rA, W.listOf cur.toArray c1) :: (lA, W.listOf refs.toArray c2) :: tl, rfl, F, N, fun p hp => ?_, fun p hp => .tail _ (.tail _ (List.mem_append_right _ hp)), ho, rA, lA, refs, cur, c1, c2, tl, u, rfl, hb, h1, h2, h3, hm, hd, hl, hc, hr⟩
  rcases List.mem_cons.mp hp with e | hp
  · exact e ▸ .head _
  rcases List.mem_cons.mp hp with e | hp
  · exact e ▸ .tail _ (.head _)
  · exact .tail _ (.tail _ (List.mem_append_left _ hp))
theorem rows_grow {new : List Value} (F : Fr h₀ L₀ h' m') (N : News h₀ L₀ h' ((rN, W.listOf new.toArray c3) :: (rA, W.listOf cur.toArray c1) :: (lA, W.listOf (refs ++ [Value.ref rA]).toArray c2) :: (tl ++ own))) (hm : m' = RowsM m₀ rN lA u)
    (lN : ∀ p ∈ (rA, W.listOf cur.toArray c1) :: (lA, W.listOf (refs ++ [Value.ref rA]).toArray c2) :: (tl ++ own), p.1 < rN)
    (hb : ∀ p ∈ base, p ∈ tl) (h2 : ∀ p ∈ tl, p.1 ≠ lA) (h3 : rA ≠ lA) (ho : ∀ p ∈ own, p.1 ≠ rA ∧ p.1 ≠ lA) (ho' : ∀ p ∈ own, ∀ q ∈ tl, p.1 ≠ q.1)
    (hd : DatAll ((rA, W.listOf cur.toArray c1) :: tl) (refs ++ [Value.ref rA]) ((List.range (qR lp L i)).map (calRow lp L))) (hl : refs.length + 1 ≤ i) (hc : new.length = 7) (hr : i < L → ∀ nw, DatAll nw new (rowAt lp i ((lp + i) / 7))) :
    TbEnd h₀ L₀ (RowsJ base m₀ lp L i) own s₁ { s₁ with heap := h', toks := tk } := by
  have gt : ∀ p ∈ tl, p.1 ≠ rN := fun p hp => Nat.ne_of_lt (lN p (.tail _ (.tail _ (List.mem_append_left _ hp))))
  refine ⟨h', tk, m', _, (rN, W.listOf new.toArray c3) :: (lA, W.listOf (refs ++ [Value.ref rA]).toArray c2) :: (rA, W.listOf cur.toArray c1) :: tl, rfl, F, N, fun p hp => ?_, fun p hp => .tail _ (.tail _ (.tail _ (List.mem_append_right _ hp))), fun p hp q hq => ?_,
    rN, lA, refs ++ [Value.ref rA], new, c3, c2, (rA, W.listOf cur.toArray c1) :: tl, u, rfl, fun p hp => .tail _ (hb p hp), fun p hp => ?_, fun p hp => ?_, ?_, hm, hd, by rw [List.length_append]; exact hl, hc, hr⟩
  · rcases List.mem_cons.mp hp with e | hp
    · exact e ▸ .head _
    rcases List.mem_cons.mp hp with e | hp
    · exact e ▸ .tail _ (.tail _ (.head _))
    rcases List.mem_cons.mp hp with e | hp
    · exact e ▸ .tail _ (.head _)
    · exact .tail _ (.tail _ (.tail _ (List.mem_append_left _ hp)))
  · rcases List.mem_cons.mp hq with e | hq
    · rw [e]; exact Nat.ne_of_lt (lN p (.tail _ (.tail _ (List.mem_append_right _ hp))))
    rcases List.mem_cons.mp hq with e | hq
    · rw [e]; exact (ho p hp).2
    rcases List.mem_cons.mp hq with e | hq
    · rw [e]; exact (ho p hp).1
    · exact ho' p hp q hq
  · rcases List.mem_cons.mp hp with e | hp
    · rw [e]; exact Nat.ne_of_lt (lN _ (.head _))
    · exact gt p hp
  · rcases List.mem_cons.mp hp with e | hp
    · rw [e]; exact h3
    · exact h2 p hp
  · exact (Nat.ne_of_lt (lN _ (.tail _ (.head _)))).symm
end
theorem cur_next {lp L i : Nat} {cur : List Value} {t : Tok} (hi : i < L) (hr : i < L → ∀ nw, DatAll nw cur (rowAt lp i ((lp + i) / 7))) (nw : List (Addr × Obj)) : DatAll nw (cur.set ((lp + i) % 7) (.int (1 + (i : Int)) t)) (rowAt lp (i + 1) ((lp + i) / 7)) := by
  rw [← row_set]
  exact dat_set (.int _ t) _ (hr hi nw)
theorem q_stay {lp L i : Nat} (hi : i < L) (h6 : (lp + i) % 7 ≠ 6) (hL : i + 1 ≠ L) : qR lp L (i + 1) = qR lp L i ∧ (lp + (i + 1)) / 7 = (lp + i) / 7 := by
  unfold qR
  rw [if_neg hL, if_neg (by omega)]
  omega
theorem q_grow {lp L i : Nat} (hi : i < L) (h : (lp + i) % 7 = 6 ∨ i + 1 = L) : qR lp L (i + 1) = qR lp L i + 1 ∧ qR lp L i = (lp + i) / 7 := by
  unfold qR
  rw [if_neg (show ¬ i = L by omega)]
  by_cases hL : i + 1 = L
  · rw [if_pos hL]; omega
  · rw [if_neg hL]
    have := h.resolve_right hL
    omega
theorem row_done {lp L i : Nat} (hi : i < L) (h : (lp + i) % 7 = 6 ∨ i + 1 = L) : Dat.list (rowAt lp (i + 1) ((lp + i) / 7)) = calRow lp L ((lp + i) / 7) := by
  rw [calRow_eq (by omega)]
  rcases h with h | h
  · rw [row_full h hi]
  · rw [h]
theorem d_grow {lp L i : Nat} {rA : Addr} {c1 : Nat} {cur refs : List Value} {tl : List (Addr × Obj)} (hi : i < L) (h : (lp + i) % 7 = 6 ∨ i + 1 = L) (hd : DatAll tl refs ((List.range (qR lp L i)).map (calRow lp L))) (hc : ∀ nw, DatAll nw cur (rowAt lp (i + 1) ((lp + i) / 7))) :
    DatAll ((rA, W.listOf cur.toArray c1) :: tl) (refs ++ [Value.ref rA]) ((List.range (qR lp L (i + 1))).map (calRow lp L)) := by
  obtain ⟨e1, e2⟩ := q_grow hi h
  rw [e1, List.range_succ, List.map_append]
  refine (hd.mono fun p hp => .tail _ hp).append (.one ?_)
  rw [e2, ← row_done hi h]
  exact .list (.head _) (hc _)
theorem new_row {lp L i : Nat} (h : (lp + i) % 7 = 6 ∨ i + 1 = L) : i + 1 < L → ∀ nw, DatAll nw [Value.none, .none, .none, .none, .none, .none, .none] (rowAt lp (i + 1) ((lp + (i + 1)) / 7)) := by
  intro hL nw
  rw [row_new (h.resolve_right (by omega))]
  exact dat_none 7
theorem rows_start {base : List (Addr × Obj)} {m₀ : Str → Option Value} {lp L : Nat} {rA lA : Addr} {c1 c2 : Nat} (hlp : lp < 7) (hL : 0 < L) (hm1 : m₀ (Str.ofString "row") = some (.ref rA)) (hm2 : m₀ (Str.ofString "rows") = some (.ref lA)) (h1 : ∀ p ∈ base, p.1 ≠ rA) (h2 : ∀ p ∈ base, p.1 ≠ lA) (h3 : rA ≠ lA) :
    RowsJ base m₀ lp L 0 m₀ ((rA, W.listOf #[Value.none, .none, .none, .none, .none, .none, .none] c1) :: (lA, W.listOf #[] c2) :: base) := by
  refine ⟨rA, lA, [], [Value.none, .none, .none, .none, .none, .none, .none], c1, c2, base, m₀, rfl, fun _ h => h, h1, h2, h3, ?_, ?_, Nat.le_refl _, rfl, fun _ nw => ?_⟩
  · funext z
    unfold RowsM
    by_cases a : z = Str.ofString "one"
    · rw [if_pos a]
    rw [if_neg a]
    by_cases b : z = Str.ofString "column"
    · rw [if_pos b]
    rw [if_neg b]
    by_cases c : z = Str.ofString "row"
    · rw [if_pos c, c, hm1]
    rw [if_neg c]
    by_cases d : z = Str.ofString "rows"
    · rw [if_pos d, d, hm2]
    rw [if_neg d]
  · have : qR lp L 0 = 0 := by unfold qR; rw [if_neg (by omega)]; omega
    rw [this]
    exact .nil
  · rw [row_zero hlp]
    exact dat_none 7
theorem col_eq {b i : Int} (h : 0 ≤ i) : (b + (1 + i)).fmod 7 = ((((b.fmod 7 + 1).fmod 7).toNat + i.toNat) % 7 : Nat) := by
  simp only [fm (show (0 : Int) ≤ 7 by decide)]
  omega
section
variable {prog : Program} {w : World} {A : Around} {E : Value → Shared → Prop} {s : Shared} {h₀ : Heap} {L D : Addr} {m : Str → Option Value} {q : Addr × Obj} {rest : List (Addr × Obj)} {vs : List Value} {n : Nat} {x : Value}
theorem app_row {Q : Value → Shared → Prop} (F : Fr h₀ L s.heap m) (N : News h₀ L s.heap (q :: (D, W.listOf vs.toArray n) :: rest)) (hq : q.1 ≠ D) (off : ∀ p ∈ rest, p.1 ≠ D) (hsz : vs.length ≤ 100)
    (h : ∀ h', Fr h₀ L h' m → News h₀ L h' (q :: (D, W.listOf (vs ++ [x]).toArray (n + 1)) :: rest) → Q .none { s with heap := h' }) : wpAny (model prog w) A (call (.builtin "list.append") [.ref D, x]) Q E s := by
  refine append_K F N (.tail hq (.head off)) (fun h' F' N' => h h' F' ?_) (by rw [List.size_toArray, sizeLine_eq]; omega)
  rw [List.push_toArray] at N'
  exact N'
end
theorem lens_ints {x : Int} {t0 t1 t2 t3 t4 t5 t6 t7 t8 t9 t10 t11 : Tok} : IntsAre [Value.int 31 t0, Value.int 31 t1, Value.int 31 t2, Value.int 31 t3, Value.int 31 t4, Value.int 31 t5, Value.int 30 t6, Value.int 30 t7, Value.int 30 t8, Value.int 30 t9, Value.int 30 t10, Value.int x t11] [31, 31, 31, 31, 31, 31, 30, 30, 30, 30, 30, x] := by
  repeat' (first | exact .nil | refine .cons _ _ ?_)
theorem rs_ne : Str.ofString "one" ≠ Str.ofString "row" ∧ Str.ofString "one" ≠ Str.ofString "column" ∧ Str.ofString "column" ≠ Str.ofString "row" ∧ Str.ofString "row" ≠ Str.ofString "column" ∧ Str.ofString "rows" ≠ Str.ofString "row" := by decide +kernel
section
variable {rA rN lA : Addr} {u m₀ : Str → Option Value} {v1 v2 : Value}
theorem map_grow : (fun y => if y = Str.ofString "row" then some (Value.ref rN) else if y = Str.ofString "column" then some v2 else if y = Str.ofString "one" then some v1 else if y = Str.ofString "one" then u y else if y = Str.ofString "column" then u y else if y = Str.ofString "row" then some (.ref rA) else if y = Str.ofString "rows" then some (.ref lA) else m₀ y) =
    RowsM m₀ rN lA (fun z => if z = Str.ofString "one" then some v1 else some v2) := by
  obtain ⟨n1, n2, n3, n4, n5⟩ := rs_ne
  funext z
  unfold RowsM
  by_cases a : z = Str.ofString "one"
  · rw [if_neg (by rw [a]; exact n1), if_neg (by rw [a]; exact n2), if_pos a, if_pos a]; exact (if_pos a).symm
  by_cases b : z = Str.ofString "column"
  · rw [if_neg (by rw [b]; exact n3), if_pos b, if_neg a, if_pos b]; exact (if_neg a).symm
  by_cases c : z = Str.ofString "row"
  · rw [if_pos c, if_neg a, if_neg b, if_pos c]
  rw [if_neg c, if_neg b, if_neg a, if_neg a, if_neg b, if_neg c, if_neg a, if_neg b, if_neg c]
theorem map_stay : (fun y => if y = Str.ofString "column" then some v2 else if y = Str.ofString "one" then some v1 else if y = Str.ofString "one" then u y else if y = Str.ofString "column" then u y else if y = Str.ofString "row" then some (.ref rA) else if y = Str.ofString "rows" then some (.ref lA) else m₀ y) =
    RowsM m₀ rA lA (fun z => if z = Str.ofString "one" then some v1 else some v2) := by
  obtain ⟨n1, n2, n3, n4, n5⟩ := rs_ne
  funext z
  unfold RowsM
  by_cases a : z = Str.ofString "one"
  · rw [if_neg (by rw [a]; exact n2), if_pos a, if_pos a]; exact (if_pos a).symm
  by_cases b : z = Str.ofString "column"
  · rw [if_pos b, if_neg a, if_pos b]; exact (if_neg a).symm
  rw [if_neg b, if_neg a, if_neg a, if_neg b, if_neg a, if_neg b]
end
section
variable {h₀ h' : Heap} {L₀ : Addr} {m₀ m' : Str → Option Value} {base tl own : List (Addr × Obj)} {lp L i : Nat} {rA lA rN : Addr} {refs cur : List Value} {c1 c2 c3 : Nat} {s₁ : Shared} {tk : Nat} {u : Str → Option Value} {t : Tok}
theorem end_grow (hi : i < L) (h : (lp + i) % 7 = 6 ∨ i + 1 = L) (F : Fr h₀ L₀ h' m')
    (N : News h₀ L₀ h' ((rN, W.listOf #[Value.none, .none, .none, .none, .none, .none, .none] c3) :: (rA, W.listOf (cur.set ((((lp + i) % 7 : Nat) : Int)).toNat (.int (1 + (i : Int)) t)).toArray c1) :: (lA, W.listOf (refs ++ [Value.ref rA]).toArray c2) :: (tl ++ own)))
    (lN : ∀ p ∈ (rA, W.listOf (cur.set ((((lp + i) % 7 : Nat) : Int)).toNat (.int (1 + (i : Int)) t)).toArray c1) :: (lA, W.listOf (refs ++ [Value.ref rA]).toArray c2) :: (tl ++ own), p.1 < rN)
    (hm : m' = RowsM m₀ rN lA u) (hb : ∀ p ∈ base, p ∈ tl) (o2 : ∀ p ∈ tl, p.1 ≠ lA) (o3 : rA ≠ lA)
    (hrest : (∀ p ∈ tl ++ own, p.1 ≠ rA) ∧ (∀ p ∈ tl ++ own, p.1 ≠ lA) ∧ (∀ p ∈ own, p.1 ≠ rA ∧ p.1 ≠ lA) ∧ (∀ p ∈ own, ∀ q ∈ tl, p.1 ≠ q.1))
    (hd : DatAll tl refs ((List.range (qR lp L i)).map (calRow lp L))) (hl : refs.length ≤ i) (hr : i < L → ∀ nw, DatAll nw cur (rowAt lp i ((lp + i) / 7))) :
    TbEnd h₀ L₀ (RowsJ base m₀ lp L (i + 1)) own s₁ { s₁ with heap := h', toks := tk } := by
  rw [Int.toNat_natCast] at N lN
  exact rows_grow (new := [Value.none, .none, .none, .none, .none, .none, .none]) F N hm lN hb o2 o3 hrest.2.2.1 hrest.2.2.2 (d_grow hi h hd (cur_next hi hr)) (by omega) rfl (new_row h)
theorem end_stay (hi : i < L) (h6 : (lp + i) % 7 ≠ 6) (hL : i + 1 ≠ L) (F : Fr h₀ L₀ h' m')
    (N : News h₀ L₀ h' ((rA, W.listOf (cur.set ((((lp + i) % 7 : Nat) : Int)).toNat (.int (1 + (i : Int)) t)).toArray c1) :: (lA, W.listOf refs.toArray c2) :: (tl ++ own)))
    (hm : m' = RowsM m₀ rA lA u) (hb : ∀ p ∈ base, p ∈ tl) (o1 : ∀ p ∈ tl, p.1 ≠ rA) (o2 : ∀ p ∈ tl, p.1 ≠ lA) (o3 : rA ≠ lA)
    (hrest : (∀ p ∈ tl ++ own, p.1 ≠ rA) ∧ (∀ p ∈ tl ++ own, p.1 ≠ lA) ∧ (∀ p ∈ own, p.1 ≠ rA ∧ p.1 ≠ lA) ∧ (∀ p ∈ own, ∀ q ∈ tl, p.1 ≠ q.1))
    (hd : DatAll tl refs ((List.range (qR lp L i)).map (calRow lp L))) (hl : refs.length ≤ i) (hc : cur.length = 7) (hr : i < L → ∀ nw, DatAll nw cur (rowAt lp i ((lp + i) / 7))) :
    TbEnd h₀ L₀ (RowsJ base m₀ lp L (i + 1)) own s₁ { s₁ with heap := h', toks := tk } := by
  rw [Int.toNat_natCast] at N
  obtain ⟨q1, q2⟩ := q_stay (lp := lp) hi h6 hL
  refine rows_stay F N hm hb o1 o2 o3 (fun p hp q hq => ?_) (by rw [q1]; exact hd) (by omega) (by rw [List.length_set]; exact hc) (fun _ nw => by rw [q2]; exact cur_next hi hr nw)
  rcases List.mem_cons.mp hq with e | hq
  · rw [e]; exact (hrest.2.2.1 p hp).1
  rcases List.mem_cons.mp hq with e | hq
  · rw [e]; exact (hrest.2.2.1 p hp).2
  · exact hrest.2.2.2 p hp q hq
end
theorem news_join {h₀ h : Heap} {L : Addr} {q1 q2 : Addr × Obj} {base tl : List (Addr × Obj)} (N : News h₀ L h (q1 :: q2 :: tl)) (hb : ∀ p ∈ base, p ∈ tl) : News h₀ L h (q2 :: (base ++ tl)) := fun p hp => by
  rcases List.mem_cons.mp hp with e | hp
  · exact N p (e ▸ .tail _ (.head _))
  · exact N p (.tail _ (.tail _ ((List.mem_append.mp hp).elim (hb p) fun h => h)))
theorem calD_ok {lp L : Nat} : ∀ d ∈ calD lp L, kqdOk 7 d = true := by
  intro d hd
  unfold calD at hd
  rcases List.mem_append.mp hd with h | h
  · rcases List.mem_append.mp h with h | h
    · rw [List.eq_of_mem_replicate h]; rfl
    · obtain ⟨k, _, rfl⟩ := List.mem_map.mp h; rfl
  · rw [List.eq_of_mem_replicate h]; rfl
theorem calRows_ok {lp L : Nat} : ∀ d ∈ calRows lp L, kqdOk 8 d = true := by
  intro d hd
  unfold calRows at hd
  obtain ⟨k, _, rfl⟩ := List.mem_map.mp hd
  unfold calRow
  show List.all _ (kqdOk 7) = true
  rw [List.all_eq_true]
  exact fun x hx => calD_ok x (List.mem_of_mem_drop (List.mem_of_mem_take hx))
theorem rows_all {tl : List (Addr × Obj)} {refs : List Value} {lp L : Nat} (hd : DatAll tl refs ((List.range (qR lp L L)).map (calRow lp L))) : DatAll tl refs (calRows lp L) := by
  unfold qR at hd
  rw [if_pos rfl] at hd
  exact hd
section
variable {prog : Program} {w : World} {A : Around} {E : Value → Shared → Prop} {s : Shared} {h₀ : Heap} {L D lA : Addr} {tl tl9 news : List (Addr × Obj)} {ys refs : List Value} {c c2 : Nat} {ds : List Dat} {Q : Value → Shared → Prop}
theorem eq_rows (N : News h₀ L s.heap ((D, ({ cls := .type "list", data := .seq ys.toArray c } : Obj)) :: tl9)) (sub : ∀ p ∈ news, p ∈ tl9) (mb : (lA, W.listOf refs.toArray c2) ∈ news) (st : ∀ p ∈ tl, p ∈ news)
    (d9 : DatAll tl9 ys ds) (hd : DatAll tl refs ds) (hk : ∀ d ∈ ds, kqdOk 8 d = true) (hu : A.units + 64 < cLine) (h : Q (.bool true) s) : wpAny (model prog w) A (compareOp .Eq (.ref D) (.ref lA)) Q E s :=
  kqd_eq N (.head _) rfl rfl d9 (fun p hp => .tail _ hp) (.tail _ (sub _ mb)) rfl rfl hd (fun p hp => .tail _ (sub _ (st p hp))) hk hk hu (by
    have e : ∀ i : Decidable (ds = ds), @decide (ds = ds) i = true := fun i => @decide_eq_true _ i rfl
    rw [e]; exact h)
end
theorem fr_at {h₀ h h2 : Heap} {L L' : Addr} {m m2 : Str → Option Value} (_ : Fr h₀ L h2 m2) (F : Fr h₀ L' h m) (e : L' = L) : Fr h₀ L h m := e ▸ F
theorem nw_at {h₀ h h2 : Heap} {L L' : Addr} {m m2 : List (Addr × Obj)} (_ : News h₀ L h2 m2) (F : News h₀ L' h m) (e : L' = L) : News h₀ L h m := e ▸ F
theorem rows_elim {P : Prop} {base : List (Addr × Obj)} {m₀ m₁ : Str → Option Value} {lp L n i : Nat} {nx own : List (Addr × Obj)} {k : Int} {t : Tok} {h₀ h : Heap} {L₀ L₁ : Addr} (hk : (rangeKs 1 n)[i]? = some k) (ho : TbOff own nx) (hJ : RowsJ base m₀ lp L i m₁ nx)
    (F : Fr h₀ L₁ h (fun y => if y = Str.ofString "one" then some (.int k t) else m₁ y)) (N : News h₀ L₁ h (nx ++ own)) (eL : L₁ = L₀)
    (body : ∀ (rA lA : Addr) (refs cur : List Value) (c1 c2 : Nat) (tl : List (Addr × Obj)) (u : Str → Option Value), i < n → (∀ p ∈ base, p ∈ tl) → (∀ p ∈ tl, p.1 ≠ rA) → (∀ p ∈ tl, p.1 ≠ lA) → rA ≠ lA →
      ((∀ p ∈ tl ++ own, p.1 ≠ rA) ∧ (∀ p ∈ tl ++ own, p.1 ≠ lA) ∧ (∀ p ∈ own, p.1 ≠ rA ∧ p.1 ≠ lA) ∧ (∀ p ∈ own, ∀ q ∈ tl, p.1 ≠ q.1)) →
      DatAll tl refs ((List.range (qR lp L i)).map (calRow lp L)) → refs.length ≤ i → cur.length = 7 → (i < L → ∀ nw, DatAll nw cur (rowAt lp i ((lp + i) / 7))) →
      Fr h₀ L₀ h (fun y => if y = Str.ofString "one" then some (.int (1 + (i : Int)) t) else if y = Str.ofString "one" then u y else if y = Str.ofString "column" then u y else if y = Str.ofString "row" then some (.ref rA) else if y = Str.ofString "rows" then some (.ref lA) else m₀ y) →
      News h₀ L₀ h ((rA, W.listOf cur.toArray c1) :: (lA, W.listOf refs.toArray c2) :: (tl ++ own)) → P) : P := by
  subst eL
  obtain ⟨rA, lA, refs, cur, c1, c2, tl, u, rfl, hbs, o1, o2, o3, rfl, hd, hl, hc, hr⟩ := hJ
  obtain ⟨hi, rfl⟩ : i < n ∧ k = 1 + (i : Int) := by
    unfold rangeKs at hk
    rw [List.getElem?_map] at hk
    by_cases q : i < n
    · rw [List.getElem?_range q] at hk
      exact ⟨q, (Option.some.inj hk).symm⟩
    · rw [List.getElem?_eq_none (by simp; omega)] at hk
      cases hk
  exact body rA lA refs cur c1 c2 tl u hi hbs o1 o2 o3
    ⟨fun p hp => (List.mem_append.mp hp).elim (o1 p) fun h => ho p h _ (.head _), fun p hp => (List.mem_append.mp hp).elim (o2 p) fun h => ho p h _ (.tail _ (.head _)),
    fun p hp => ⟨ho p hp _ (.head _), ho p hp _ (.tail _ (.head _))⟩, fun p hp q hq => ho p hp q (.tail _ (.tail _ hq))⟩ hd hl hc hr F N
theorem rows_fin {P : Prop} {base : List (Addr × Obj)} {m₀ m₁ : Str → Option Value} {lp L : Nat} {nx : List (Addr × Obj)} {h₀ h : Heap} {L₀ L₁ : Addr} (hJ : RowsJ base m₀ lp L L m₁ nx) (F : Fr h₀ L₁ h m₁) (N : News h₀ L₁ h nx) (eL : L₁ = L₀)
    (body : ∀ (rA lA : Addr) (refs : List Value) (c2 : Nat) (tl : List (Addr × Obj)) (u : Str → Option Value), DatAll tl refs (calRows lp L) →
      Fr h₀ L₀ h (fun y => if y = Str.ofString "one" then u y else if y = Str.ofString "column" then u y else if y = Str.ofString "row" then some (.ref rA) else if y = Str.ofString "rows" then some (.ref lA) else m₀ y) →
      News h₀ L₀ h ((lA, W.listOf refs.toArray c2) :: (base ++ tl)) → P) : P := by
  subst eL
  obtain ⟨rA, lA, refs, cur, c1, c2, tl, u, rfl, hbs, o1, o2, o3, rfl, hd, hl, hc, hr⟩ := hJ
  exact body rA lA refs c2 tl u (rows_all hd) F (news_join N hbs)
end Mine
end
section
theorem Mine.fresh14 : True ∧ True := by
  first | (walk1; fail) | skip
  w_top off
  k_with_none
  exact ⟨True.intro, True.intro⟩
open PySem PySem.W PySem.Spec PySem.Calls PyProof.Rows
set_option Elab.async false
set_option maxRecDepth 100000
set_option maxHeartbeats 4000000
set_option pp.deepTerms false
set_option pp.deepTerms.threshold 6
set_option pp.proofs false
namespace Mine
theorem with_first {P : Prop} {w : World} {h₀ h : Heap} {L f1 c1 D1 ay az ao af : Addr} {q1 q2 g1 g2 g3 g4 g5 g6 : Addr × Obj} {of1 oc1 oy oz oo og : Obj} {ws : List Value} {odds : List Int} {year start : Int} {ty tz : Tok} {rest : List (Addr × Obj)}
    (_N : News h₀ L h (q1 :: q2 :: (f1, of1) :: (c1, oc1) :: (D1, W.listOf ws.toArray 0) :: g1 :: g2 :: g3 :: g4 :: g5 :: g6 :: (ay, oy) :: (az, oz) :: (ao, oo) :: (af, og) :: rest))
    (_hy : oy.data = .cell (some (.int year ty))) (_hz : oz.data = .cell (some (.int start tz))) (_ho : oo.data = .cell (some (.ref D1))) (_hi : IntsAre ws odds)
    (h : CF w f1 [(f1, of1), (c1, oc1), (D1, W.listOf ws.toArray 0), (ay, oy), (az, oz), (ao, oo)] (firstF year start odds) 2)
    (k : CF w f1 [(f1, of1), (c1, oc1), (D1, W.listOf ws.toArray 0), (ay, oy), (az, oz), (ao, oo)] (firstF year start odds) 2 → P) : P := k h
theorem with_later {P : Prop} {w : World} {h₀ h : Heap} {L f1 c1 D1 ay az ao af f2 c2 b1 b2 b3 b4 b5 b6 : Addr} {of1 oc1 oD oy oz oo og of2 oc2 p1 p2 p3 p4 p5 p6 : Obj} {Ef : Int → Int} {rest : List (Addr × Obj)}
    (N : News h₀ L h ((f2, of2) :: (c2, oc2) :: (f1, of1) :: (c1, oc1) :: (D1, oD) :: (b1, p1) :: (b2, p2) :: (b3, p3) :: (b4, p4) :: (b5, p5) :: (b6, p6) :: (ay, oy) :: (az, oz) :: (ao, oo) :: (af, og) :: rest))
    (hF : CF w f1 [(f1, of1), (c1, oc1), (D1, oD), (ay, oy), (az, oz), (ao, oo)] Ef 2)
    (hh : CF w f2 [(f2, of2), (c2, oc2), (af, og), (f1, of1), (c1, oc1), (D1, oD), (ay, oy), (az, oz), (ao, oo)] (fun x => Ef x + 1))
    (k : ∀ of2 oc2 of1 oc1 oD p1 p2 p3 p5 p6 : Obj, News h₀ L h ((f2, of2) :: (c2, oc2) :: (f1, of1) :: (c1, oc1) :: (D1, oD) :: (b1, p1) :: (b2, p2) :: (b3, p3) :: (b4, p4) :: (b5, p5) :: (b6, p6) :: (ay, oy) :: (az, oz) :: (ao, oo) :: (af, og) :: rest) → CF w f1 ((f2, of2) :: (c2, oc2) :: (f1, of1) :: (c1, oc1) :: (D1, oD) :: (b1, p1) :: (b2, p2) :: (b3, p3) :: (b4, p4) :: (b5, p5) :: (b6, p6) :: (ay, oy) :: (az, oz) :: (ao, oo) :: (af, og) :: rest) Ef 4 → CF w f2 ((f2, of2) :: (c2, oc2) :: (f1, of1) :: (c1, oc1) :: (D1, oD) :: (b1, p1) :: (b2, p2) :: (b3, p3) :: (b4, p4) :: (b5, p5) :: (b6, p6) :: (ay, oy) :: (az, oz) :: (ao, oo) :: (af, og) :: rest) (fun x => Ef x + 1) 4 → P) : P := by
  exact k of2 oc2 of1 oc1 oD p1 p2 p3 p5 p6 N ((hF.up (by decide)).mono (List.forall_mem_cons.mpr ⟨(.tail _ (.tail _ (.head _))), (List.forall_mem_cons.mpr ⟨(.tail _ (.tail _ (.tail _ (.head _)))), (List.forall_mem_cons.mpr ⟨(.tail _ (.tail _ (.tail _ (.tail _ (.head _))))), (List.forall_mem_cons.mpr ⟨(.tail _ (.tail _ (.tail _ (.tail _ (.tail _ (.tail _ (.tail _ (.tail _ (.tail _ (.tail _ (.tail _ (.head _)))))))))))), (List.forall_mem_cons.mpr ⟨(.tail _ (.tail _ (.tail _ (.tail _ (.tail _ (.tail _ (.tail _ (.tail _ (.tail _ (.tail _ (.tail _ (.tail _ (.head _))))))))))))), (List.forall_mem_cons.mpr ⟨(.tail _ (.tail _ (.tail _ (.tail _ (.tail _ (.tail _ (.tail _ (.tail _ (.tail _ (.tail _ (.tail _ (.tail _ (.tail _ (.head _)))))))))))))), (List.forall_mem_nil _)⟩)⟩)⟩)⟩)⟩)⟩)) (hh.mono (List.forall_mem_cons.mpr ⟨(.head _), (List.forall_mem_cons.mpr ⟨(.tail _ (.head _)), (List.forall_mem_cons.mpr ⟨(.tail _ (.tail _ (.tail _ (.tail _ (.tail _ (.tail _ (.tail _ (.tail _ (.tail _ (.tail _ (.tail _ (.tail _ (.tail _ (.tail _ (.head _))))))))))))))), (List.forall_mem_cons.mpr ⟨(.tail _ (.tail _ (.head _))), (List.forall_mem_cons.mpr ⟨(.tail _ (.tail _ (.tail _ (.head _)))), (List.forall_mem_cons.mpr ⟨(.tail _ (.tail _ (.tail _ (.tail _ (.head _))))), (List.forall_mem_cons.mpr ⟨(.tail _ (.tail _ (.tail _ (.tail _ (.tail _ (.tail _ (.tail _ (.tail _ (.tail _ (.tail _ (.tail _ (.head _)))))))))))), (List.forall_mem_cons.mpr ⟨(.tail _ (.tail _ (.tail _ (.tail _ (.tail _ (.tail _ (.tail _ (.tail _ (.tail _ (.tail _ (.tail _ (.tail _ (.head _))))))))))))), (List.forall_mem_cons.mpr ⟨(.tail _ (.tail _ (.tail _ (.tail _ (.tail _ (.tail _ (.tail _ (.tail _ (.tail _ (.tail _ (.tail _ (.tail _ (.tail _ (.head _)))))))))))))), (List.forall_mem_nil _)⟩)⟩)⟩)⟩)⟩)⟩)⟩)⟩)⟩))
theorem abs_toks {α : Type} {M : Model} {A : Around} {c : Sem α} {Q : α → Shared → Prop} {E : Value → Shared → Prop} {s : Shared} (k : ∀ tk : Nat, wpAny M A c Q E { s with toks := tk }) : wpAny M A c Q E s := k s.toks
theorem abs_tok {M : Model} {A : Around} {env : Env} {x : Str} {V : Int} {t : Tok} {Q : Unit → Shared → Prop} {E : Value → Shared → Prop} {s : Shared} (h : ∀ t, wpAny M A (storeName env x (.int V t)) Q E s) : wpAny M A (storeName env x (.int V t)) Q E s := h t
theorem abs_storeT {M : Model} {A : Around} {env : Env} {x : Str} {V : Int} {t : Tok} {Q : Unit → Shared → Prop} {E : Value → Shared → Prop} {s : Shared} (φ : Int → Prop) (h0 : φ V) (h : ∀ Y, φ Y → ∀ t, wpAny M A (storeName env x (.int Y t)) Q E s) : wpAny M A (storeName env x (.int V t)) Q E s := h V h0 t
theorem abs_lens {P : Prop} {h₀ h : Heap} {L D : Addr} {vs : List Value} {ns : List Int} {rest : List (Addr × Obj)} (N : News h₀ L h ((D, W.listOf vs.toArray 0) :: rest)) (hi : IntsAre vs ns) (k : ∀ vs, IntsAre vs ns → News h₀ L h ((D, W.listOf vs.toArray 0) :: rest) → P) : P := k vs hi N
theorem sub_of {w : World} {f : Addr} {own news : List (Addr × Obj)} {Ef : Int → Int} {n : Nat} {a b c : Addr × Obj} (_h : CF w f own Ef n) (s : ∀ p ∈ a :: b :: c :: own, p ∈ news) : ∀ p ∈ own, p ∈ news := fun p hp => s p (.tail _ (.tail _ (.tail _ hp)))
def Stopped (P : Prop) : Prop := P
theorem stopped {P : Prop} (h : Stopped P) : P := h
theorem odds_ok (l : List Int) : Odds (l.map (fun k' => k'.fmod 2) ++ [0, 0, 0, 1, 0, 0, 0, 1, 0, 0, 0, 1, 0, 0, 0, 1]) := by
  refine ⟨by simp, fun v hv => ?_⟩
  rcases List.mem_append.mp hv with h | h
  · obtain ⟨k, _, rfl⟩ := List.mem_map.mp h
    rw [fm (by decide)]; omega
  · have : ∀ v ∈ ([0, 0, 0, 1, 0, 0, 0, 1, 0, 0, 0, 1, 0, 0, 0, 1] : List Int), v = 0 ∨ v = 1 := by decide
    exact this v h
theorem odds_len (l : List Int) (n : Nat) : ((List.take (min 19 n - 3) l).map (fun k' : Int => k'.fmod 2) ++ [0, 0, 0, 1, 0, 0, 0, 1, 0, 0, 0, 1, 0, 0, 0, 1]).length ≤ 100 := by
  simp only [List.length_append, List.length_map, List.length_take, List.length_cons, List.length_nil]
  omega
theorem odd_size {ws : List Value} {ns : List Int} (h : IntsAre ws ns) (hl : ns.length ≤ 100) : ws.toArray.size ≤ sizeLine := by
  rw [List.size_toArray, h.length, sizeLine_eq]; omega
theorem year_ok (a : Int) : -2000 ≤ a.fmod 12001 - 2000 ∧ a.fmod 12001 - 2000 ≤ 10000 := by rw [fm (by decide)]; omega
theorem start_ok (J a : Int) : J - 293 ≤ J - 306 + 13 + a.fmod 15 ∧ J - 306 + 13 + a.fmod 15 ≤ J - 279 := by rw [fm (by decide)]; omega
def mLen (Len m : Int) : Int := [31, 31, 31, 31, 31, 31, 30, 30, 30, 30, 30, Len - 336].getD (m - 1).toNat 0
theorem mLen_fin : ∀ k : Fin 12, 1 ≤ (k.val : Int) → [31, 31, 31, 31, 31, 31, 30, 30, 30, 30, (30 : Int)][((k.val : Int) - 1).toNat]?.getD 0 = mP ((k.val : Int) + 1) - mP (k.val : Int) := by decide +kernel
theorem mLen_eq {Len m : Int} (h1 : 1 ≤ m) (h2 : m ≤ 12) : mLen Len m = if m = 12 then Len - 336 else mP (m + 1) - mP m := by
  unfold mLen
  by_cases q : m = 12
  · subst q; rw [if_pos rfl]; rfl
  · rw [if_neg q, List.getD_eq_getElem?_getD]
    have e : [31, 31, 31, 31, 31, 31, 30, 30, 30, 30, 30, Len - 336][(m - 1).toNat]? = [31, 31, 31, 31, 31, 31, 30, 30, 30, 30, (30 : Int)][(m - 1).toNat]? :=
      List.getElem?_append_left (l₁ := [31, 31, 31, 31, 31, 31, 30, 30, 30, 30, (30 : Int)]) (l₂ := [Len - 336]) (by show _ < 11; omega)
    rw [e]
    exact fin_int (P := fun m => 1 ≤ m → [31, 31, 31, 31, 31, 31, 30, 30, 30, 30, (30 : Int)][(m - 1).toNat]?.getD 0 = mP (m + 1) - mP m) 12 mLen_fin (by omega) (by omega) h1
theorem place_ok {Len a : Int} (h : Len = 365 ∨ Len = 366) : 0 ≤ a.fmod Len ∧ a.fmod Len < Len := by
  rcases h with h | h <;> subst h <;> rw [fm (by decide)] <;> omega
theorem pw_start {P : Int} (h : 0 ≤ P) : 1 ≤ (1 : Int) ∧ (1 : Int) ≤ 12 ∧ 1 ≤ P + 1 ∧ P + 1 = mP 1 + (P + 1) := by
  refine ⟨by decide, by decide, by omega, ?_⟩
  rw [show mP 1 = 0 by decide]; omega
theorem pw_turn {Len P m d : Int} (hP : P < Len) (m1 : 1 ≤ m) (m2 : m ≤ 12) (hn : P + 1 = mP m + d) (ht : [31, 31, 31, 31, 31, 31, 30, 30, 30, 30, 30, Len - 336].getD (m - 1).toNat 0 < d) :
    1 ≤ m + 1 ∧ m + 1 ≤ 12 ∧ 1 ≤ d - [31, 31, 31, 31, 31, 31, 30, 30, 30, 30, 30, Len - 336].getD (m - 1).toNat 0 ∧ P + 1 = mP (m + 1) + (d - [31, 31, 31, 31, 31, 31, 30, 30, 30, 30, 30, Len - 336].getD (m - 1).toNat 0) := by
  have e := @mLen_eq Len m m1 m2
  unfold mLen at e
  rw [e] at ht ⊢
  by_cases q : m = 12
  · subst q
    rw [if_pos rfl] at ht
    rw [show mP 12 = 336 by decide] at hn
    omega
  · rw [if_neg q] at ht ⊢
    omega
theorem pw_meas {Len P m d : Int} (hP : P < Len) (m1 : 1 ≤ m) (m2 : m ≤ 12) (hn : P + 1 = mP m + d) (ht : [31, 31, 31, 31, 31, 31, 30, 30, 30, 30, 30, Len - 336].getD (m - 1).toNat 0 < d) : (12 - (m + 1)).toNat < (12 - m).toNat := by
  have := (pw_turn hP m1 m2 hn ht).2.1
  omega
theorem pw_pm {Len P m d : Int} (hl : Len = 365 ∨ Len = 366) (hn : P + 1 = mP m + d) (m1 : 1 ≤ m) (m2 : m ≤ 12) (d1 : 1 ≤ d) (ht : ¬ [31, 31, 31, 31, 31, 31, 30, 30, 30, 30, 30, Len - 336].getD (m - 1).toNat 0 < d) : PM (P + 1) m d := by
  have e := @mLen_eq Len m m1 m2
  unfold mLen at e
  rw [e] at ht
  refine ⟨m1, m2, d1, ?_, hn⟩
  unfold mP at ht
  by_cases q : m = 12
  · subst q; rw [if_pos rfl] at ht; rw [if_neg (by decide)]; omega
  · rw [if_neg q] at ht
    split <;> (repeat' split at ht) <;> omega
theorem plen_r {Y S Len mo da P : Int} {odds : List Int} (N : Near (firstF Y S odds) Y S) (hl : Len = firstF Y S odds (Y + 1) - S ∧ (Len = 365 ∨ Len = 366)) (h : PM P mo da) : plen (firstF Y S odds) Y mo = [31, 31, 31, 31, 31, 31, 30, 30, 30, 30, 30, Len - 336].getD (mo - 1).toNat 0 := by
  have e := @mLen_eq Len mo h.1 h.2.1
  have a0 := N.at0
  obtain ⟨l1, l2⟩ := hl
  have m1 := h.1; have m2 := h.2.1
  unfold mLen at e
  rw [e]
  unfold plen mP
  by_cases q : mo = 12
  · subst q; rw [if_neg (by decide), if_neg (by decide), if_pos rfl, a0]; split <;> omega
  · rw [if_neg q]; (repeat' split) <;> omega
theorem len_ok {Len P mo da : Int} (hl : Len = 365 ∨ Len = 366) (h : PM P mo da) : 29 ≤ [31, 31, 31, 31, 31, 31, 30, 30, 30, 30, 30, Len - 336].getD (mo - 1).toNat 0 ∧ [31, 31, 31, 31, 31, 31, 30, 30, 30, 30, 30, Len - 336].getD (mo - 1).toNat 0 ≤ 31 := by
  have e := @mLen_eq Len mo h.1 h.2.1
  have m1 := h.1; have m2 := h.2.1
  unfold mLen at e
  rw [e]
  unfold mP
  (repeat' split) <;> omega
theorem tb_range {r : Int} (h : 29 ≤ r ∧ r ≤ 31) : Builtin.Range.small 1 (r + 1) 1 = true ∧ Builtin.Range.rangeSize 1 (r + 1) 1 = ((r.toNat : Nat) : Int) := by
  have : r = 29 ∨ r = 30 ∨ r = 31 := by omega
  rcases this with h | h | h <;> subst h <;> decide
theorem len_ex {Len P mo da : Int} (hl : Len = 365 ∨ Len = 366) (h : PM P mo da) : ∃ r, [31, 31, 31, 31, 31, 31, 30, 30, 30, 30, 30, Len - 336].getD (mo - 1).toNat 0 = r ∧ 29 ≤ r ∧ r ≤ 31 := ⟨_, rfl, len_ok hl h⟩
theorem range_at {n i : Nat} {k : Int} (h : (rangeKs 1 n)[i]? = some k) : i < n ∧ k = 1 + (i : Int) := by
  unfold rangeKs at h
  rw [List.getElem?_map] at h
  by_cases q : i < n
  · rw [List.getElem?_range q] at h
    exact ⟨q, (Option.some.inj h).symm⟩
  · rw [List.getElem?_eq_none (by simp; omega)] at h
    cases h
theorem rest_off {own tl : List (Addr × Obj)} {rA lA : Addr} {oR oL : Obj} (ho : TbOff own ((rA, oR) :: (lA, oL) :: tl)) (o1 : ∀ p ∈ tl, p.1 ≠ rA) (o2 : ∀ p ∈ tl, p.1 ≠ lA) : (∀ p ∈ tl ++ own, p.1 ≠ rA) ∧ (∀ p ∈ tl ++ own, p.1 ≠ lA) ∧ (∀ p ∈ own, p.1 ≠ rA ∧ p.1 ≠ lA) ∧ (∀ p ∈ own, ∀ q ∈ tl, p.1 ≠ q.1) :=
  ⟨fun p hp => (List.mem_append.mp hp).elim (o1 p) fun h => ho p h _ (.head _), fun p hp => (List.mem_append.mp hp).elim (o2 p) fun h => ho p h _ (.tail _ (.head _)),
    fun p hp => ⟨ho p hp _ (.head _), ho p hp _ (.tail _ (.head _))⟩, fun p hp q hq => ho p hp q (.tail _ (.tail _ hq))⟩
theorem col_at {b c : Int} {i : Nat} (hb : c = b) : (c + (1 + (i : Int))).fmod 7 = (((((b.fmod 7 + 1).fmod 7).toNat + i) % 7 : Nat) : Int) := by
  rw [hb, col_eq (by omega)]; rfl
theorem lp_lt (a : Int) : (a.fmod 7).toNat < 7 := by rw [fm (by decide)]; omega
theorem len_pos {r : Int} (h : 29 ≤ r ∧ r ≤ 31) : 0 < r.toNat := by omega
structure Facts (Y S P Len gy gm gd mo da : Int) (odds : List Int) : Prop where
  a1 : jan Y ≤ firstF Y S odds Y
  a2 : firstF Y S odds Y ≤ S + P
  a3 : S + P < firstF Y S odds (Y + 1)
  a4 : pyr (firstF Y S odds Y - 1) = Y - 621
  a5 : PM (S + P - (firstF Y S odds Y - 1)) mo da
  b1 : jan Y ≤ firstF Y S odds Y + 1
  b2 : firstF Y S odds Y + 1 ≤ S + P + 1
  b3 : S + P + 1 < firstF Y S odds (Y + 1) + 1
  b4 : pyr (firstF Y S odds Y + 1 - 1) = Y - 621
  b5 : PM (S + P + 1 - (firstF Y S odds Y + 1 - 1)) mo da
  c1 : firstF Y S odds Y - 1 + mP mo + da = S + P
  d1 : 0 < gd
  d2 : gd ≤ dimG gy gm
  d3 : jdG gy gm gd = S + P
  e1 : firstF Y S odds Y - 1 = S - 1
  f1 : decide (firstF Y S odds (Y + 1) - firstF Y S odds Y > 365) = (Len == 366)
theorem b_ex {Y S P Len gy gm gd mo da : Int} {odds : List Int} (h : Facts Y S P Len gy gm gd mo da odds) : ∃ b, S + P - da + 1 = b ∧ firstF Y S odds Y - 1 + mP mo + 1 = b := ⟨_, rfl, by have := h.c1; omega⟩
theorem facts {Y S P Len gy gm gd mo da : Int} {odds : List Int} (NF : Near (firstF Y S odds) Y S) (NL : Near (fun x => firstF Y S odds x + 1) Y (S + 1)) (hP : 0 ≤ P ∧ P < Len) (hl : Len = firstF Y S odds (Y + 1) - S ∧ (Len = 365 ∨ Len = 366))
    (h : PM (P + 1) mo da) (_g1 : jan gy ≤ S + P) (_g2 : S + P < jan (gy + 1)) (g3 : MD (leapY gy) (S + P - jan gy) gm gd) : Facts Y S P Len gy gm gd mo da odds := by
  have a0 := NF.at0
  have j := NF.jan (k := 0) (by omega) (by omega)
  have p := NF.pyr (k := 0) (by omega) (by omega)
  have p' := NL.pyr (k := 0) (by omega) (by omega)
  rw [show Y + 0 = Y by omega] at j p p'
  have e := h.2.2.2.2
  exact {
    a1 := j
    a2 := by omega
    a3 := by omega
    a4 := p
    a5 := by rw [a0, show S + P - (S - 1) = P + 1 by omega]; exact h
    b1 := by omega
    b2 := by omega
    b3 := by omega
    b4 := p'
    b5 := by rw [a0, show S + P + 1 - (S + 1 - 1) = P + 1 by omega]; exact h
    c1 := by omega
    d1 := by have := g3.2.2.1; omega
    d2 := by rw [dim_eq g3.1 g3.2.1]; exact g3.2.2.2.1
    d3 := by rw [jdG_eq]; have := g3.2.2.2.2; omega
    e1 := by omega
    f1 := by
      rw [a0, ← hl.1]
      rcases hl.2 with q | q <;> rw [q] <;> decide }
end Mine

theorem Mine.law_all : PySem.Challenge.rw_jk0004_01.Holds := Mine.hd (by
  k_with_none
  k_with "o eval Call" => ((with_reducible show wpAny _ _ (eval (Expr.Call (Expr.Name _ _) (_ :: _) [] _) _) _ _ _); refine Call_ ?_)
  k_with "o call ref" => (k_here; (with_reducible show wpAny _ _ (call (Value.ref 64) _) _ _ _); k_dflt (k_extra "c64"))
  k_with "o call ref" => (k_here; (with_reducible show wpAny _ _ (call (Value.ref 78) _) _ _ _); k_dflt (k_extra "c78"))
  k_with "o call ref" => (k_here; (with_reducible show wpAny _ _ (call (Value.ref 85) _) _ _ _); k_dflt (k_extra "c85"))
  k_with "o call ref" => (k_here; (with_reducible show wpAny _ _ (call (Value.ref 92) _) _ _ _); k_dflt (k_extra "c92"))
  k_with "o call ref" => (k_here; (with_reducible show wpAny _ _ (call (Value.ref 99) _) _ _ _); k_dflt (k_extra "c99"))
  k_with "o call ref" => (k_here; (with_reducible show wpAny _ _ (call (Value.ref 106) _) _ _ _); k_dflt (k_extra "c106"))
  k_with "o call ref" => (k_here; (with_reducible show wpAny _ _ (call (Value.ref 113) _) _ _ _); k_dflt (k_extra "c113"))
  k_with "o call ref" => (k_here; (with_reducible show wpAny _ _ (call (Value.ref 120) _) _ _ _); k_dflt (k_extra "c120"))
  k_with "o call ref" => (k_here; (with_reducible show wpAny _ _ (call (Value.ref 127) _) _ _ _); k_dflt (k_extra "c127"))
  k_with "o call ref" => (k_here; (with_reducible show wpAny _ _ (call (Value.ref 134) _) _ _ _); k_dflt (k_extra "c134"))
  k_with "o setItem ref int" => (k_here; k_dflt (k_extra "setRow"))
  k_with "o exec For Name Call cons nil" => (k_here; (rename Fr _ _ _ _ => lF'); (with_unfolding_all refine' For_invVF lF' ?k1 ?k2 ?_; (case k1 => exact rfl); (case k2 => exact rfl)))
  k_with "o pyIter ref" => k_extra "rowsIter"
  k_with "o execs cons" => (k_here; k_extra "stm")
  k_with "o eval Name" => (k_here; k_dflt (refine' nameX_L ?nmF ?nmv ?_ ?nma ?nmb; (case nmF => k_asm); (case nma => rfl); (case nmb => rfl); (case nmv => exact Eq.refl (some _)); k_whole))
  k_with "o exec Assign" => ((with_reducible show wpAny _ _ (exec (Stmt.Assign [Expr.Name (Str.ofString "row") _] _ _) _) _ _ _); k_extra "row1")
  k_with "o callWith ref" => (k_here; k_extra "cwF")
  k_with "o And" => (k_extra "andF")
  k_with "o exec Assign" => ((with_reducible show wpAny _ _ (exec (Stmt.Assign [Expr.Name (Str.ofString "length") _] _ _) _) _ _ _); k_extra "length")
  k_with "o exec Assign" => ((with_reducible show wpAny _ _ (exec (Stmt.Assign [Expr.Name (Str.ofString "numbers") _] _ _) _) _ _ _); k_extra "numbers")
  k_with "o exec Assign" => ((with_reducible show wpAny _ _ (exec (Stmt.Assign [Expr.Name (Str.ofString "due") _] _ _) _) _ _ _); k_extra "due")
  k_with "o exec Assign" => ((with_reducible show wpAny _ _ (exec (Stmt.Assign [Expr.Name (Str.ofString "rows") _] _ _) _) _ _ _); k_extra "rows")
  k_with "o call ref" => (k_here; (with_reducible show wpAny _ _ (call (Value.ref _) [Value.int _ _]) _ _ _); k_dflt (k_extra "cF"))
  k_with "o subscriptTail Name Slice ref ref" => (k_here; k_dflt (k_extra "sliceOdd"))
  k_with "o subscriptTail" => (k_here; (with_reducible show wpAny _ _ (subscriptTail _ _ (Value.ref _) (Value.int _ _)) _ _ _); k_dflt (k_extra "lens"))
  k_with "o call builtin:list.append" => (k_here; (with_reducible show wpAny _ _ (call (Value.builtin _) [Value.ref _, _]) _ _ _); k_dflt (k_extra "appRow"))
  k_with "o newList" => (k_here; k_dflt (k_extra "newRow"))
  k_with "o compareOp Eq ref ref" => (k_here; (with_reducible show wpAny _ _ (compareOp CmpOp.Eq (Value.ref _) (Value.ref _)) _ _ _); k_dflt (k_extra "eqRows"))
  k_with "o GrownAll" => k_dflt (k_extra "grown")
  k_with "stm" => (refine wpAny_execs_cons ?_; (try k_fold); refine Mine.abs_toks ?_; intro tkS)
  k_with "storeName int" => k_dflt ((refine' Mine.abs_tok ?_); intro tZ; (refine' storeX_L ?qF ?qN ?_ ?qa ?qb); (case qF => k_asm); (case qN => k_asm); (case qa => rfl); (case qb => rfl); intro h' F' N'; (try k_sweep))
  k_with "numbers" => refine Mine.stopped ?_
  k_go0; (all_goals try k_fold); k_steps
  unfold Mine.Stopped
  (try k_fold)
  k_with_none
  k_with "o eval Call" => ((with_reducible show wpAny _ _ (eval (Expr.Call (Expr.Name _ _) (_ :: _) [] _) _) _ _ _); refine Call_ ?_)
  k_with "o call ref" => (k_here; (with_reducible show wpAny _ _ (call (Value.ref 64) _) _ _ _); k_dflt (k_extra "c64"))
  k_with "o call ref" => (k_here; (with_reducible show wpAny _ _ (call (Value.ref 78) _) _ _ _); k_dflt (k_extra "c78"))
  k_with "o call ref" => (k_here; (with_reducible show wpAny _ _ (call (Value.ref 85) _) _ _ _); k_dflt (k_extra "c85"))
  k_with "o call ref" => (k_here; (with_reducible show wpAny _ _ (call (Value.ref 92) _) _ _ _); k_dflt (k_extra "c92"))
  k_with "o call ref" => (k_here; (with_reducible show wpAny _ _ (call (Value.ref 99) _) _ _ _); k_dflt (k_extra "c99"))
  k_with "o call ref" => (k_here; (with_reducible show wpAny _ _ (call (Value.ref 106) _) _ _ _); k_dflt (k_extra "c106"))
  k_with "o call ref" => (k_here; (with_reducible show wpAny _ _ (call (Value.ref 113) _) _ _ _); k_dflt (k_extra "c113"))
  k_with "o call ref" => (k_here; (with_reducible show wpAny _ _ (call (Value.ref 120) _) _ _ _); k_dflt (k_extra "c120"))
  k_with "o call ref" => (k_here; (with_reducible show wpAny _ _ (call (Value.ref 127) _) _ _ _); k_dflt (k_extra "c127"))
  k_with "o call ref" => (k_here; (with_reducible show wpAny _ _ (call (Value.ref 134) _) _ _ _); k_dflt (k_extra "c134"))
  k_with "o setItem ref int" => (k_here; k_dflt (k_extra "setRow"))
  k_with "o exec For Name Call cons nil" => (k_here; (rename Fr _ _ _ _ => lF'); (with_unfolding_all refine' For_invVF lF' ?k1 ?k2 ?_; (case k1 => exact rfl); (case k2 => exact rfl)))
  k_with "o pyIter ref" => k_extra "rowsIter"
  k_with "o execs cons" => (k_here; k_extra "stm")
  k_with "o eval Name" => (k_here; k_dflt (refine' nameX_L ?nmF ?nmv ?_ ?nma ?nmb; (case nmF => k_asm); (case nma => rfl); (case nmb => rfl); (case nmv => exact Eq.refl (some _)); k_whole))
  k_with "o exec Assign" => ((with_reducible show wpAny _ _ (exec (Stmt.Assign [Expr.Name (Str.ofString "row") _] _ _) _) _ _ _); k_extra "row1")
  k_with "o callWith ref" => (k_here; k_extra "cwF")
  k_with "o And" => (k_extra "andF")
  k_with "o exec Assign" => ((with_reducible show wpAny _ _ (exec (Stmt.Assign [Expr.Name (Str.ofString "length") _] _ _) _) _ _ _); k_extra "length")
  k_with "o exec Assign" => ((with_reducible show wpAny _ _ (exec (Stmt.Assign [Expr.Name (Str.ofString "numbers") _] _ _) _) _ _ _); k_extra "numbers")
  k_with "o exec Assign" => ((with_reducible show wpAny _ _ (exec (Stmt.Assign [Expr.Name (Str.ofString "due") _] _ _) _) _ _ _); k_extra "due")
  k_with "o exec Assign" => ((with_reducible show wpAny _ _ (exec (Stmt.Assign [Expr.Name (Str.ofString "rows") _] _ _) _) _ _ _); k_extra "rows")
  k_with "o call ref" => (k_here; (with_reducible show wpAny _ _ (call (Value.ref _) [Value.int _ _]) _ _ _); k_dflt (k_extra "cF"))
  k_with "o subscriptTail Name Slice ref ref" => (k_here; k_dflt (k_extra "sliceOdd"))
  k_with "o subscriptTail" => (k_here; (with_reducible show wpAny _ _ (subscriptTail _ _ (Value.ref _) (Value.int _ _)) _ _ _); k_dflt (k_extra "lens"))
  k_with "o call builtin:list.append" => (k_here; (with_reducible show wpAny _ _ (call (Value.builtin _) [Value.ref _, _]) _ _ _); k_dflt (k_extra "appRow"))
  k_with "o newList" => (k_here; k_dflt (k_extra "newRow"))
  k_with "o compareOp Eq ref ref" => (k_here; (with_reducible show wpAny _ _ (compareOp CmpOp.Eq (Value.ref _) (Value.ref _)) _ _ _); k_dflt (k_extra "eqRows"))
  k_with "o GrownAll" => k_dflt (k_extra "grown")
  k_with "stm" => (refine wpAny_execs_cons ?_; (try k_fold); refine Mine.abs_toks ?_; intro tkS)
  k_with "storeName int" => k_dflt ((refine' Mine.abs_tok ?_); intro tZ; (refine' storeX_L ?qF ?qN ?_ ?qa ?qb); (case qF => k_asm); (case qN => k_asm); (case qa => rfl); (case qb => rfl); intro h' F' N'; (try k_sweep))
  k_with "c127" => (refine' Mine.c_jan ?k1 ?k2 ?k3 ?k4 ?k5 ?k6 ?k7 ?k8 ?_; (case k1 => k_asm); (case k2 => k_asm); (case k3 => k_asm); (case k4 => k_asm); (case k5 => k_asm); (case k6 => first | exact rfl | assumption); (case k7 => first | exact Nat.le_of_ble_eq_true rfl | ktr_room); (case k8 => first | exact Nat.le_of_ble_eq_true rfl | ktr_units); intro t9 h9 tk9 F9 N9; (try dsimp only))
  k_with "length" => refine Mine.stopped ?_
  k_with "storeName int" => (with_reducible show wpAny _ _ (storeName _ (Str.ofString "year") _) _ _ _); k_dflt ((refine' Mine.abs_storeT (fun V => -2000 ≤ V ∧ V ≤ 10000) ?qh0 ?_); (case qh0 => exact Mine.year_ok _); intro Y hY tY; (refine' storeX_C ?qF ?qN ?qc ?qU ?qd ?_ ?qa ?qb); (case qa => rfl); (case qb => rfl); (case qF => k_asm); (case qN => k_asm); (case qc => rfl); (case qU => k_updF); (case qd => k_asm); intro h' o' F' N' d'; (try dsimp only at N'); (try k_sweep))
  k_with "storeName int" => (with_reducible show wpAny _ _ (storeName _ (Str.ofString "start") _) _ _ _); k_dflt ((refine' Mine.abs_storeT (fun V => Mine.jan (Y + 1) - 293 ≤ V ∧ V ≤ Mine.jan (Y + 1) - 279) ?qh0 ?_); (case qh0 => exact Mine.start_ok _ _); intro S hS tS; (refine' storeX_C ?qF ?qN ?qc ?qU ?qd ?_ ?qa ?qb); (case qa => rfl); (case qb => rfl); (case qF => k_asm); (case qN => k_asm); (case qc => rfl); (case qU => k_updF); (case qd => k_asm); intro h' o' F' N' d'; (try dsimp only at N'); (try k_sweep))
  k_with "storeName ref" => (with_reducible show wpAny _ _ (storeName _ (Str.ofString "odd") _) _ _ _); k_dflt ((rename IntsAre _ (List.map _ _ ++ _) => hI); (obtain ⟨odds, hO, hI2, hOL⟩ : ∃ odds, Mine.Odds odds ∧ IntsAre _ odds ∧ odds.length ≤ 100 := ⟨_, Mine.odds_ok _, hI, Mine.odds_len _ _⟩); clear hI; (refine' storeX_C ?qF ?qN ?qc ?qU ?qd ?_ ?qa ?qb); (case qa => rfl); (case qb => rfl); (case qF => k_asm); (case qN => k_asm); (case qc => rfl); (case qU => k_updF); (case qd => k_asm); intro h' o' F' N' d'; (try dsimp only at N'); (try k_sweep))
  k_steps
  unfold Mine.Stopped
  (try k_fold)
  (rename News _ _ _ _ => nN)
  (refine Mine.with_first (w := by assumption) nN (by assumption) (by assumption) (by assumption) (by assumption) ?hh ?kk)
  case hh =>
    refine ⟨fun N => FnAt.of N (by exact List.Mem.head _), ?_⟩
    intro news sub x t
    have m1 := sub _ (List.Mem.head _)
    have m2 := sub _ (.tail _ (List.Mem.head _))
    have m3 := sub _ (.tail _ (.tail _ (List.Mem.head _)))
    have m4 := sub _ (.tail _ (.tail _ (.tail _ (List.Mem.head _))))
    have m5 := sub _ (.tail _ (.tail _ (.tail _ (.tail _ (List.Mem.head _)))))
    have m6 := sub _ (.tail _ (.tail _ (.tail _ (.tail _ (.tail _ (List.Mem.head _))))))
    clear sub
    intro p loose mean mg mb dp un gd cn cs a ccd cl outer A₀ base h₀ L m s Q E hB hF' hX hN hT hk hdp hu hret
    refine wpAny_call ?_
    k_dflt ((refine' code_nest ?k1 ?k2 ?k3 ?k4 ?k5 ?kA ?kF ?kK ?k6 ?k7 ?k8 ?k9 ?kB ?_ ?c2 ?c3 ?c4 ?c5); (case kA => exact rfl); (case kF => exact rfl); (case kK => assumption); (case k1 => k_asm); (case k2 => k_asm); (case k3 => k_asm); (case k4 => k_asm); (case k5 => k_asm); (case k6 => assumption); (case k7 => exact codeRec_news (by k_asm) (by assumption) (by assumption) (by assumption)); (case k8 => ktr_room); (case k9 => exact BindsTo.of_eq rfl); (case c5 => decide); (case kB => exact locs rfl); (case c2 => exact rfl); (case c3 => exact rfl); (case c4 => exact rfl); intro g' L' h' FG' F' N' B' X' T'; (try dsimp only); (try k_lift B'); (try k_fold))
    k_with "sliceOdd" => (refine' kmk_slice_ints ?zF ?zN ?zl ?zp ?zq ?zi ?zm ?zc ?_ ?zs ?zt ?zz); (case zF => k_asm); (case zN => k_asm); (case zl => kmk_list); (case zp => kmk_part); (case zq => kmk_part); (case zi => exact hI2); (case zm => kmk_nums); (case zc => kmk_len); (case zs => with_unfolding_all rfl); (case zt => kmk_pure); (case zz => exact Mine.odd_size hI2 hOL); intro D' ws' h' F' N' l1 hI' hC' hL'; (try simp only [Int.reduceNeg, Int.neg_neg, Int.reduceToNat] at hI' hC' hL'); (try k_lt l1)
    k_steps
    all_goals (refine Mine.retI hret (by k_asm) (by k_asm) (by first | exact Mine.sub_self | exact Mine.sub_cons Mine.sub_self | exact Mine.sub_cons (Mine.sub_cons Mine.sub_self) | exact Mine.sub_cons (Mine.sub_cons (Mine.sub_cons Mine.sub_self))) ?_; unfold Mine.firstF; first | exact (if_pos (by assumption)).symm | exact (if_neg (by assumption)).symm)
  intro hF
  (refine Mine.with_later nN hF ?hh2 ?kk2)
  case hh2 =>
    refine ⟨fun N => FnAt.of N (by exact List.Mem.head _), ?_⟩
    intro news sub x t
    have m1 := sub _ (List.Mem.head _)
    have m2 := sub _ (.tail _ (List.Mem.head _))
    have m3 := sub _ (.tail _ (.tail _ (List.Mem.head _)))
    have m4 := sub _ (.tail _ (.tail _ (.tail _ (List.Mem.head _))))
    have m5 := sub _ (.tail _ (.tail _ (.tail _ (.tail _ (List.Mem.head _)))))
    have m6 := sub _ (.tail _ (.tail _ (.tail _ (.tail _ (.tail _ (List.Mem.head _))))))
    have m7 := sub _ (.tail _ (.tail _ (.tail _ (.tail _ (.tail _ (.tail _ (List.Mem.head _)))))))
    have m8 := sub _ (.tail _ (.tail _ (.tail _ (.tail _ (.tail _ (.tail _ (.tail _ (List.Mem.head _))))))))
    have m9 := sub _ (.tail _ (.tail _ (.tail _ (.tail _ (.tail _ (.tail _ (.tail _ (.tail _ (List.Mem.head _)))))))))
    have sF := Mine.sub_of hF sub
    clear sub
    intro p loose mean mg mb dp un gd cn cs a ccd cl outer A₀ base h₀ L m s Q E hB hF' hX hN hT hk hdp hu hret
    refine wpAny_call ?_
    k_with "callWith ref" => k_dflt (refine' callWith_F ?k1 ?_; (case k1 => exact Mine.CF.fnAt hF (by k_asm) sF))
    k_with "And" => k_dflt ((show FnAt _ _ ∧ _); (refine' ⟨Mine.CF.fnAt hF (by k_asm) sF, ?_⟩); (try dsimp only [List.nil_append, List.cons_append]))
    k_with "cF" => (refine' Mine.CF.call hF sF _ _ ?k1 ?k2 ?k3 ?k4 ?k5 ?k6 ?k7 ?k8 ?_; (case k1 => k_asm); (case k2 => k_asm); (case k3 => k_asm); (case k4 => k_asm); (case k5 => k_asm); (case k6 => first | exact rfl | assumption); (case k7 => first | exact Nat.le_of_ble_eq_true rfl | ktr_room); (case k8 => first | exact Nat.le_of_ble_eq_true rfl | ktr_units); intro t9 h9 tk9 F9 N9; (try dsimp only))
    k_dflt ((refine' code_nest ?k1 ?k2 ?k3 ?k4 ?k5 ?kA ?kF ?kK ?k6 ?k7 ?k8 ?k9 ?kB ?_ ?c2 ?c3 ?c4 ?c5); (case kA => exact rfl); (case kF => exact rfl); (case kK => assumption); (case k1 => k_asm); (case k2 => k_asm); (case k3 => k_asm); (case k4 => k_asm); (case k5 => k_asm); (case k6 => assumption); (case k7 => exact codeRec_news (by k_asm) (by assumption) (by assumption) (by assumption)); (case k8 => ktr_room); (case k9 => exact BindsTo.of_eq rfl); (case c5 => decide); (case kB => exact locs rfl); (case c2 => exact rfl); (case c3 => exact rfl); (case c4 => exact rfl); intro g' L' h' FG' F' N' B' X' T'; (try dsimp only); (try k_lift B'); (try k_fold))
    k_steps
    all_goals (exact Mine.retI hret (by k_asm) (by k_asm) (by first | exact Mine.sub_self | exact Mine.sub_cons Mine.sub_self | exact Mine.sub_cons (Mine.sub_cons Mine.sub_self) | exact Mine.sub_cons (Mine.sub_cons (Mine.sub_cons Mine.sub_self))) rfl)
  clear hF nN
  intro of2 oc2 of1 oc1 oD p1 p2 p3 p5 p6 nL hF4 hL
  have NF := Mine.near_first hO hY.1 hY.2 hS.1 hS.2
  have NL := Mine.near_later hO hY.1 hY.2 hS.1 hS.2
  k_with_none
  k_with "o eval Call" => ((with_reducible show wpAny _ _ (eval (Expr.Call (Expr.Name _ _) (_ :: _) [] _) _) _ _ _); refine Call_ ?_)
  k_with "o call ref" => (k_here; (with_reducible show wpAny _ _ (call (Value.ref 64) _) _ _ _); k_dflt (k_extra "c64"))
  k_with "o call ref" => (k_here; (with_reducible show wpAny _ _ (call (Value.ref 78) _) _ _ _); k_dflt (k_extra "c78"))
  k_with "o call ref" => (k_here; (with_reducible show wpAny _ _ (call (Value.ref 85) _) _ _ _); k_dflt (k_extra "c85"))
  k_with "o call ref" => (k_here; (with_reducible show wpAny _ _ (call (Value.ref 92) _) _ _ _); k_dflt (k_extra "c92"))
  k_with "o call ref" => (k_here; (with_reducible show wpAny _ _ (call (Value.ref 99) _) _ _ _); k_dflt (k_extra "c99"))
  k_with "o call ref" => (k_here; (with_reducible show wpAny _ _ (call (Value.ref 106) _) _ _ _); k_dflt (k_extra "c106"))
  k_with "o call ref" => (k_here; (with_reducible show wpAny _ _ (call (Value.ref 113) _) _ _ _); k_dflt (k_extra "c113"))
  k_with "o call ref" => (k_here; (with_reducible show wpAny _ _ (call (Value.ref 120) _) _ _ _); k_dflt (k_extra "c120"))
  k_with "o call ref" => (k_here; (with_reducible show wpAny _ _ (call (Value.ref 127) _) _ _ _); k_dflt (k_extra "c127"))
  k_with "o call ref" => (k_here; (with_reducible show wpAny _ _ (call (Value.ref 134) _) _ _ _); k_dflt (k_extra "c134"))
  k_with "o setItem ref int" => (k_here; k_dflt (k_extra "setRow"))
  k_with "o exec For Name Call cons nil" => (k_here; (rename Fr _ _ _ _ => lF'); (with_unfolding_all refine' For_invVF lF' ?k1 ?k2 ?_; (case k1 => exact rfl); (case k2 => exact rfl)))
  k_with "o pyIter ref" => k_extra "rowsIter"
  k_with "o execs cons" => (k_here; k_extra "stm")
  k_with "o eval Name" => (k_here; k_dflt (refine' nameX_L ?nmF ?nmv ?_ ?nma ?nmb; (case nmF => k_asm); (case nma => rfl); (case nmb => rfl); (case nmv => exact Eq.refl (some _)); k_whole))
  k_with "o exec Assign" => ((with_reducible show wpAny _ _ (exec (Stmt.Assign [Expr.Name (Str.ofString "row") _] _ _) _) _ _ _); k_extra "row1")
  k_with "o callWith ref" => (k_here; k_extra "cwF")
  k_with "o And" => (k_extra "andF")
  k_with "o exec Assign" => ((with_reducible show wpAny _ _ (exec (Stmt.Assign [Expr.Name (Str.ofString "length") _] _ _) _) _ _ _); k_extra "length")
  k_with "o exec Assign" => ((with_reducible show wpAny _ _ (exec (Stmt.Assign [Expr.Name (Str.ofString "numbers") _] _ _) _) _ _ _); k_extra "numbers")
  k_with "o exec Assign" => ((with_reducible show wpAny _ _ (exec (Stmt.Assign [Expr.Name (Str.ofString "due") _] _ _) _) _ _ _); k_extra "due")
  k_with "o exec Assign" => ((with_reducible show wpAny _ _ (exec (Stmt.Assign [Expr.Name (Str.ofString "rows") _] _ _) _) _ _ _); k_extra "rows")
  k_with "o call ref" => (k_here; (with_reducible show wpAny _ _ (call (Value.ref _) [Value.int _ _]) _ _ _); k_dflt (k_extra "cF"))
  k_with "o subscriptTail Name Slice ref ref" => (k_here; k_dflt (k_extra "sliceOdd"))
  k_with "o subscriptTail" => (k_here; (with_reducible show wpAny _ _ (subscriptTail _ _ (Value.ref _) (Value.int _ _)) _ _ _); k_dflt (k_extra "lens"))
  k_with "o call builtin:list.append" => (k_here; (with_reducible show wpAny _ _ (call (Value.builtin _) [Value.ref _, _]) _ _ _); k_dflt (k_extra "appRow"))
  k_with "o newList" => (k_here; k_dflt (k_extra "newRow"))
  k_with "o compareOp Eq ref ref" => (k_here; (with_reducible show wpAny _ _ (compareOp CmpOp.Eq (Value.ref _) (Value.ref _)) _ _ _); k_dflt (k_extra "eqRows"))
  k_with "o GrownAll" => k_dflt (k_extra "grown")
  k_with "stm" => (refine wpAny_execs_cons ?_; (try k_fold); refine Mine.abs_toks ?_; intro tkS)
  k_with "storeName int" => k_dflt ((refine' Mine.abs_tok ?_); intro tZ; (refine' storeX_L ?qF ?qN ?_ ?qa ?qb); (case qF => k_asm); (case qN => k_asm); (case qa => rfl); (case qb => rfl); intro h' F' N'; (try k_sweep))
  k_with "cwF" => k_dflt (refine' callWith_F ?k1 ?_; (case k1 => exact Mine.CF.fnAt hF4 (by k_asm) (by repeat' (first | exact Mine.sub_self | refine Mine.sub_cons ?_))))
  k_with "andF" => k_dflt ((show FnAt _ _ ∧ _); (refine' ⟨Mine.CF.fnAt hF4 (by k_asm) (by repeat' (first | exact Mine.sub_self | refine Mine.sub_cons ?_)), ?_⟩); (try dsimp only [List.nil_append, List.cons_append]))
  k_with "cF" => (refine' Mine.CF.call hF4 ?k0 _ _ ?k1 ?k2 ?k3 ?k4 ?k5 ?k6 ?k7 ?k8 ?_; (case k1 => k_asm); (case k2 => k_asm); (case k3 => k_asm); (case k4 => k_asm); (case k5 => k_asm); (case k6 => first | exact rfl | assumption); (case k7 => first | exact Nat.le_of_ble_eq_true rfl | ktr_room); (case k8 => first | exact Nat.le_of_ble_eq_true rfl | ktr_units); (case k0 => repeat' (first | exact Mine.sub_self | refine Mine.sub_cons ?_)); intro t9 h9 tk9 F9 N9; (try dsimp only))
  k_with "storeName int" => (with_reducible show wpAny _ _ (storeName _ (Str.ofString "length") _) _ _ _); k_dflt ((refine' Mine.abs_storeT (fun V => V = Mine.firstF Y S odds (Y + 1) - S ∧ (V = 365 ∨ V = 366)) ?qh0 ?_); (case qh0 => exact ⟨rfl, by have a := NF.lo Y; have b := NF.hi Y; have c := NF.at0; omega⟩); intro Len hLen tZ; (refine' storeX_L ?qF ?qN ?_ ?qa ?qb); (case qF => k_asm); (case qN => k_asm); (case qa => rfl); (case qb => rfl); intro h' F' N'; (try k_sweep))
  k_with "storeName int" => (with_reducible show wpAny _ _ (storeName _ (Str.ofString "place") _) _ _ _); k_dflt ((refine' Mine.abs_storeT (fun V => 0 ≤ V ∧ V < Len) ?qh0 ?_); (case qh0 => exact Mine.place_ok hLen.2); intro P hP tZ; (refine' storeX_L ?qF ?qN ?_ ?qa ?qb); (case qF => k_asm); (case qN => k_asm); (case qa => rfl); (case qb => rfl); intro h' F' N'; (try k_sweep))
  k_with "exec While Compare cons nil" => k_while (fun _ d m => 1 ≤ m ∧ m ≤ 12 ∧ 1 ≤ d ∧ P + 1 = Mine.mP m + d) (fun _ d m => (12 - m).toNat) "day" "month"
  k_with "state" => first | exact Mine.pw_start hP.1 | exact Mine.pw_turn hP.2 (by assumption) (by assumption) (by assumption) (by assumption) | (trace_state; fail)
  k_with "measure" => first | exact Mine.pw_meas hP.2 (by assumption) (by assumption) (by assumption) (by assumption) | (trace_state; fail)
  k_with "storeName ref" => (with_reducible show wpAny _ _ (storeName _ (Str.ofString "lengths") _) _ _ _); k_dflt ((rename News _ _ _ _ => nZ); (refine' Mine.abs_lens nZ Mine.lens_ints ?_); clear nZ; intro vsL hIL nZ; (refine' storeX_L ?qF ?qN ?_ ?qa ?qb); (case qF => k_asm); (case qN => k_asm); (case qa => rfl); (case qb => rfl); intro h' F' N'; (try k_sweep))
  k_with "due" => refine Mine.stopped ?_
  k_steps
  unfold Mine.Stopped
  (try k_fold)
  (rename (P + 1 = Mine.mP _ + _) => hmd)
  have hPM := Mine.pw_pm hLen.2 hmd (by assumption) (by assumption) (by assumption) (by assumption)
  obtain ⟨gy, gm, gd, G1, G2, G3⟩ := Mine.greg_ex (S + P)
  have FA := Mine.facts NF NL hP hLen hPM G1 G2 G3
  have PL := Mine.plen_r NF hLen hPM
  k_with_none
  k_with "o eval Call" => ((with_reducible show wpAny _ _ (eval (Expr.Call (Expr.Name _ _) (_ :: _) [] _) _) _ _ _); refine Call_ ?_)
  k_with "o call ref" => (k_here; (with_reducible show wpAny _ _ (call (Value.ref 64) _) _ _ _); k_dflt (k_extra "c64"))
  k_with "o call ref" => (k_here; (with_reducible show wpAny _ _ (call (Value.ref 78) _) _ _ _); k_dflt (k_extra "c78"))
  k_with "o call ref" => (k_here; (with_reducible show wpAny _ _ (call (Value.ref 85) _) _ _ _); k_dflt (k_extra "c85"))
  k_with "o call ref" => (k_here; (with_reducible show wpAny _ _ (call (Value.ref 92) _) _ _ _); k_dflt (k_extra "c92"))
  k_with "o call ref" => (k_here; (with_reducible show wpAny _ _ (call (Value.ref 99) _) _ _ _); k_dflt (k_extra "c99"))
  k_with "o call ref" => (k_here; (with_reducible show wpAny _ _ (call (Value.ref 106) _) _ _ _); k_dflt (k_extra "c106"))
  k_with "o call ref" => (k_here; (with_reducible show wpAny _ _ (call (Value.ref 113) _) _ _ _); k_dflt (k_extra "c113"))
  k_with "o call ref" => (k_here; (with_reducible show wpAny _ _ (call (Value.ref 120) _) _ _ _); k_dflt (k_extra "c120"))
  k_with "o call ref" => (k_here; (with_reducible show wpAny _ _ (call (Value.ref 127) _) _ _ _); k_dflt (k_extra "c127"))
  k_with "o call ref" => (k_here; (with_reducible show wpAny _ _ (call (Value.ref 134) _) _ _ _); k_dflt (k_extra "c134"))
  k_with "o setItem ref int" => (k_here; k_dflt (k_extra "setRow"))
  k_with "o exec For Name Call cons nil" => (k_here; (rename Fr _ _ _ _ => lF'); (with_unfolding_all refine' For_invVF lF' ?k1 ?k2 ?_; (case k1 => exact rfl); (case k2 => exact rfl)))
  k_with "o pyIter ref" => k_extra "rowsIter"
  k_with "o execs cons" => (k_here; k_extra "stm")
  k_with "o eval Name" => (k_here; k_dflt (refine' nameX_L ?nmF ?nmv ?_ ?nma ?nmb; (case nmF => k_asm); (case nma => rfl); (case nmb => rfl); (case nmv => exact Eq.refl (some _)); k_whole))
  k_with "o exec Assign" => ((with_reducible show wpAny _ _ (exec (Stmt.Assign [Expr.Name (Str.ofString "row") _] _ _) _) _ _ _); k_extra "row1")
  k_with "o callWith ref" => (k_here; k_extra "cwF")
  k_with "o And" => (k_extra "andF")
  k_with "o exec Assign" => ((with_reducible show wpAny _ _ (exec (Stmt.Assign [Expr.Name (Str.ofString "length") _] _ _) _) _ _ _); k_extra "length")
  k_with "o exec Assign" => ((with_reducible show wpAny _ _ (exec (Stmt.Assign [Expr.Name (Str.ofString "numbers") _] _ _) _) _ _ _); k_extra "numbers")
  k_with "o exec Assign" => ((with_reducible show wpAny _ _ (exec (Stmt.Assign [Expr.Name (Str.ofString "due") _] _ _) _) _ _ _); k_extra "due")
  k_with "o exec Assign" => ((with_reducible show wpAny _ _ (exec (Stmt.Assign [Expr.Name (Str.ofString "rows") _] _ _) _) _ _ _); k_extra "rows")
  k_with "o call ref" => (k_here; (with_reducible show wpAny _ _ (call (Value.ref _) [Value.int _ _]) _ _ _); k_dflt (k_extra "cF"))
  k_with "o subscriptTail Name Slice ref ref" => (k_here; k_dflt (k_extra "sliceOdd"))
  k_with "o subscriptTail" => (k_here; (with_reducible show wpAny _ _ (subscriptTail _ _ (Value.ref _) (Value.int _ _)) _ _ _); k_dflt (k_extra "lens"))
  k_with "o call builtin:list.append" => (k_here; (with_reducible show wpAny _ _ (call (Value.builtin _) [Value.ref _, _]) _ _ _); k_dflt (k_extra "appRow"))
  k_with "o newList" => (k_here; k_dflt (k_extra "newRow"))
  k_with "o compareOp Eq ref ref" => (k_here; (with_reducible show wpAny _ _ (compareOp CmpOp.Eq (Value.ref _) (Value.ref _)) _ _ _); k_dflt (k_extra "eqRows"))
  k_with "o GrownAll" => k_dflt (k_extra "grown")
  k_with "stm" => (refine wpAny_execs_cons ?_; (try k_fold); refine Mine.abs_toks ?_; intro tkS)
  k_with "storeName int" => k_dflt ((refine' Mine.abs_tok ?_); intro tZ; (refine' storeX_L ?qF ?qN ?_ ?qa ?qb); (case qF => k_asm); (case qN => k_asm); (case qa => rfl); (case qb => rfl); intro h' F' N'; (try k_sweep))
  k_with "c134" => (refine' Mine.c_lawdate G1 G2 G3 ?k1 ?k2 ?k3 ?k4 ?k5 ?k6 ?k7 ?k8 ?_; (case k1 => k_asm); (case k2 => k_asm); (case k3 => k_asm); (case k4 => k_asm); (case k5 => k_asm); (case k6 => first | exact rfl | assumption); (case k7 => first | exact Nat.le_of_ble_eq_true rfl | ktr_room); (case k8 => first | exact Nat.le_of_ble_eq_true rfl | ktr_units); intro D9 t9 t9b t9c h9 tk9 F9 N9; (try dsimp only))
  k_with "c92" => first
    | (refine' Mine.c_fromjdP (Mine.CF.mono hF4 ?k0) NF.mono FA.a1 FA.a2 FA.a3 FA.a4 FA.a5 ?k1 ?k2 ?k3 ?k4 ?k5 ?k6 ?k7 ?k8 ?_; (case k1 => k_asm); (case k2 => k_asm); (case k3 => k_asm); (case k4 => k_asm); (case k5 => k_asm); (case k6 => first | exact rfl | assumption); (case k7 => first | exact Nat.le_of_ble_eq_true rfl | ktr_room); (case k8 => first | exact Nat.le_of_ble_eq_true rfl | ktr_units); (case k0 => repeat' (first | exact Mine.sub_self | refine Mine.sub_cons ?_)); intro D9 t9 t9b t9c h9 tk9 F9 N9; (try dsimp only))
    | (refine' Mine.c_fromjdP (Mine.CF.mono hL ?k0) NL.mono FA.b1 FA.b2 FA.b3 FA.b4 FA.b5 ?k1 ?k2 ?k3 ?k4 ?k5 ?k6 ?k7 ?k8 ?_; (case k1 => k_asm); (case k2 => k_asm); (case k3 => k_asm); (case k4 => k_asm); (case k5 => k_asm); (case k6 => first | exact rfl | assumption); (case k7 => first | exact Nat.le_of_ble_eq_true rfl | ktr_room); (case k8 => first | exact Nat.le_of_ble_eq_true rfl | ktr_units); (case k0 => repeat' (first | exact Mine.sub_self | refine Mine.sub_cons ?_)); intro D9 t9 t9b t9c h9 tk9 F9 N9; (try dsimp only))
  k_with "c85" => (refine' Mine.c_tojdP_r (Mine.CF.mono hF4 ?k0) (rfl : Y - 621 = Y - 621) NF.good0 FA.c1 ?k1 ?k2 ?k3 ?k4 ?k5 ?k6 ?k7 ?k8 ?_; (case k1 => k_asm); (case k2 => k_asm); (case k3 => k_asm); (case k4 => k_asm); (case k5 => k_asm); (case k6 => first | exact rfl | assumption); (case k7 => first | exact Nat.le_of_ble_eq_true rfl | ktr_room); (case k8 => first | exact Nat.le_of_ble_eq_true rfl | ktr_units); (case k0 => repeat' (first | exact Mine.sub_self | refine Mine.sub_cons ?_)); intro t9 h9 tk9 F9 N9; (try dsimp only))
  k_with "c64" => (refine' Mine.c_leap_r (Mine.CF.mono hF4 ?k0) (rfl : Y - 621 = Y - 621) NF.good0 (NF.good (by decide) (by decide)) FA.f1 ?k1 ?k2 ?k3 ?k4 ?k5 ?k6 ?k7 ?k8 ?_; (case k1 => k_asm); (case k2 => k_asm); (case k3 => k_asm); (case k4 => k_asm); (case k5 => k_asm); (case k6 => first | exact rfl | assumption); (case k7 => first | exact Nat.le_of_ble_eq_true rfl | ktr_room); (case k8 => first | exact Nat.le_of_ble_eq_true rfl | ktr_units); (case k0 => repeat' (first | exact Mine.sub_self | refine Mine.sub_cons ?_)); intro t9 h9 tk9 F9 N9; (try dsimp only))
  k_with "c99" => (refine' Mine.c_fromG (Mine.CF.mono hF4 ?k0) NF.mono FA.d1 FA.d2 FA.d3 FA.a1 FA.a2 FA.a3 FA.a4 FA.a5 ?k1 ?k2 ?k3 ?k4 ?k5 ?k6 ?k7 ?k8 ?_; (case k1 => k_asm); (case k2 => k_asm); (case k3 => k_asm); (case k4 => k_asm); (case k5 => k_asm); (case k6 => first | exact rfl | assumption); (case k7 => first | exact Nat.le_of_ble_eq_true rfl | ktr_room); (case k8 => first | exact Nat.le_of_ble_eq_true rfl | ktr_units); (case k0 => repeat' (first | exact Mine.sub_self | refine Mine.sub_cons ?_)); intro D9 t9 t9b t9c h9 tk9 F9 N9; (try dsimp only))
  k_with "c106" => (refine' Mine.c_toG (Mine.CF.mono hF4 ?k0) (rfl : Y - 621 = Y - 621) NF.good0 FA.c1 G1 G2 G3 ?k1 ?k2 ?k3 ?k4 ?k5 ?k6 ?k7 ?k8 ?_; (case k1 => k_asm); (case k2 => k_asm); (case k3 => k_asm); (case k4 => k_asm); (case k5 => k_asm); (case k6 => first | exact rfl | assumption); (case k7 => first | exact Nat.le_of_ble_eq_true rfl | ktr_room); (case k8 => first | exact Nat.le_of_ble_eq_true rfl | ktr_units); (case k0 => repeat' (first | exact Mine.sub_self | refine Mine.sub_cons ?_)); intro D9 t9 t9b t9c h9 tk9 F9 N9; (try dsimp only))
  k_with "c113" => (refine' Mine.c_mlen_r (Mine.CF.mono hF4 ?k0) (rfl : Y - 621 = Y - 621) NF.good0 (NF.good (by decide) (by decide)) hPM.1 hPM.2.1 PL ?k1 ?k2 ?k3 ?k4 ?k5 ?k6 ?k7 ?k8 ?_; (case k1 => k_asm); (case k2 => k_asm); (case k3 => k_asm); (case k4 => k_asm); (case k5 => k_asm); (case k6 => first | exact rfl | assumption); (case k7 => first | exact Nat.le_of_ble_eq_true rfl | ktr_room); (case k8 => first | exact Nat.le_of_ble_eq_true rfl | ktr_units); (case k0 => repeat' (first | exact Mine.sub_self | refine Mine.sub_cons ?_)); intro t9 h9 tk9 F9 N9; (try dsimp only))
  k_with "c78" => (refine' Mine.c_jd2py_r (Mine.CF.mono hF4 ?k0) NF.mono FA.a1 FA.a2 FA.a3 FA.a4 FA.e1 ?k1 ?k2 ?k3 ?k4 ?k5 ?k6 ?k7 ?k8 ?_; (case k1 => k_asm); (case k2 => k_asm); (case k3 => k_asm); (case k4 => k_asm); (case k5 => k_asm); (case k6 => first | exact rfl | assumption); (case k7 => first | exact Nat.le_of_ble_eq_true rfl | ktr_room); (case k8 => first | exact Nat.le_of_ble_eq_true rfl | ktr_units); (case k0 => repeat' (first | exact Mine.sub_self | refine Mine.sub_cons ?_)); intro D9 t9 t9b h9 tk9 F9 N9; (try dsimp only))
  k_with "rows" => refine Mine.stopped ?_
  k_steps
  unfold Mine.Stopped
  (try k_fold)
  k_with_none
  k_with "o eval Call" => ((with_reducible show wpAny _ _ (eval (Expr.Call (Expr.Name _ _) (_ :: _) [] _) _) _ _ _); refine Call_ ?_)
  k_with "o call ref" => (k_here; (with_reducible show wpAny _ _ (call (Value.ref 64) _) _ _ _); k_dflt (k_extra "c64"))
  k_with "o call ref" => (k_here; (with_reducible show wpAny _ _ (call (Value.ref 78) _) _ _ _); k_dflt (k_extra "c78"))
  k_with "o call ref" => (k_here; (with_reducible show wpAny _ _ (call (Value.ref 85) _) _ _ _); k_dflt (k_extra "c85"))
  k_with "o call ref" => (k_here; (with_reducible show wpAny _ _ (call (Value.ref 92) _) _ _ _); k_dflt (k_extra "c92"))
  k_with "o call ref" => (k_here; (with_reducible show wpAny _ _ (call (Value.ref 99) _) _ _ _); k_dflt (k_extra "c99"))
  k_with "o call ref" => (k_here; (with_reducible show wpAny _ _ (call (Value.ref 106) _) _ _ _); k_dflt (k_extra "c106"))
  k_with "o call ref" => (k_here; (with_reducible show wpAny _ _ (call (Value.ref 113) _) _ _ _); k_dflt (k_extra "c113"))
  k_with "o call ref" => (k_here; (with_reducible show wpAny _ _ (call (Value.ref 120) _) _ _ _); k_dflt (k_extra "c120"))
  k_with "o call ref" => (k_here; (with_reducible show wpAny _ _ (call (Value.ref 127) _) _ _ _); k_dflt (k_extra "c127"))
  k_with "o call ref" => (k_here; (with_reducible show wpAny _ _ (call (Value.ref 134) _) _ _ _); k_dflt (k_extra "c134"))
  k_with "o setItem ref int" => (k_here; k_dflt (k_extra "setRow"))
  k_with "o exec For Name Call cons nil" => (k_here; (rename Fr _ _ _ _ => lF'); (with_unfolding_all refine' For_invVF lF' ?k1 ?k2 ?_; (case k1 => exact rfl); (case k2 => exact rfl)))
  k_with "o pyIter ref" => k_extra "rowsIter"
  k_with "o execs cons" => (k_here; k_extra "stm")
  k_with "o eval Name" => (k_here; k_dflt (refine' nameX_L ?nmF ?nmv ?_ ?nma ?nmb; (case nmF => k_asm); (case nma => rfl); (case nmb => rfl); (case nmv => exact Eq.refl (some _)); k_whole))
  k_with "o exec Assign" => ((with_reducible show wpAny _ _ (exec (Stmt.Assign [Expr.Name (Str.ofString "row") _] _ _) _) _ _ _); k_extra "row1")
  k_with "o callWith ref" => (k_here; k_extra "cwF")
  k_with "o And" => (k_extra "andF")
  k_with "o exec Assign" => ((with_reducible show wpAny _ _ (exec (Stmt.Assign [Expr.Name (Str.ofString "length") _] _ _) _) _ _ _); k_extra "length")
  k_with "o exec Assign" => ((with_reducible show wpAny _ _ (exec (Stmt.Assign [Expr.Name (Str.ofString "numbers") _] _ _) _) _ _ _); k_extra "numbers")
  k_with "o exec Assign" => ((with_reducible show wpAny _ _ (exec (Stmt.Assign [Expr.Name (Str.ofString "due") _] _ _) _) _ _ _); k_extra "due")
  k_with "o exec Assign" => ((with_reducible show wpAny _ _ (exec (Stmt.Assign [Expr.Name (Str.ofString "rows") _] _ _) _) _ _ _); k_extra "rows")
  k_with "o call ref" => (k_here; (with_reducible show wpAny _ _ (call (Value.ref _) [Value.int _ _]) _ _ _); k_dflt (k_extra "cF"))
  k_with "o subscriptTail Name Slice ref ref" => (k_here; k_dflt (k_extra "sliceOdd"))
  k_with "o subscriptTail" => (k_here; (with_reducible show wpAny _ _ (subscriptTail _ _ (Value.ref _) (Value.int _ _)) _ _ _); k_dflt (k_extra "lens"))
  k_with "o call builtin:list.append" => (k_here; (with_reducible show wpAny _ _ (call (Value.builtin _) [Value.ref _, _]) _ _ _); k_dflt (k_extra "appRow"))
  k_with "o newList" => (k_here; k_dflt (k_extra "newRow"))
  k_with "o compareOp Eq ref ref" => (k_here; (with_reducible show wpAny _ _ (compareOp CmpOp.Eq (Value.ref _) (Value.ref _)) _ _ _); k_dflt (k_extra "eqRows"))
  k_with "o GrownAll" => k_dflt (k_extra "grown")
  k_with "stm" => (refine wpAny_execs_cons ?_; (try k_fold); refine Mine.abs_toks ?_; intro tkS)
  k_with "storeName int" => k_dflt ((refine' Mine.abs_tok ?_); intro tZ; (refine' storeX_L ?qF ?qN ?_ ?qa ?qb); (case qF => k_asm); (case qN => k_asm); (case qa => rfl); (case qb => rfl); intro h' F' N'; (try k_sweep))
  k_with "newRow" => (refine' newList_K ?k1 ?k2 ?_); (case k1 => k_asm); (case k2 => k_asm); intro l' h' F' N' lNew
  k_with "row1" => refine Mine.stopped ?_
  k_steps
  unfold Mine.Stopped
  have lRows := lNew
  clear lNew
  k_with_none
  k_with "o eval Call" => ((with_reducible show wpAny _ _ (eval (Expr.Call (Expr.Name _ _) (_ :: _) [] _) _) _ _ _); refine Call_ ?_)
  k_with "o call ref" => (k_here; (with_reducible show wpAny _ _ (call (Value.ref 64) _) _ _ _); k_dflt (k_extra "c64"))
  k_with "o call ref" => (k_here; (with_reducible show wpAny _ _ (call (Value.ref 78) _) _ _ _); k_dflt (k_extra "c78"))
  k_with "o call ref" => (k_here; (with_reducible show wpAny _ _ (call (Value.ref 85) _) _ _ _); k_dflt (k_extra "c85"))
  k_with "o call ref" => (k_here; (with_reducible show wpAny _ _ (call (Value.ref 92) _) _ _ _); k_dflt (k_extra "c92"))
  k_with "o call ref" => (k_here; (with_reducible show wpAny _ _ (call (Value.ref 99) _) _ _ _); k_dflt (k_extra "c99"))
  k_with "o call ref" => (k_here; (with_reducible show wpAny _ _ (call (Value.ref 106) _) _ _ _); k_dflt (k_extra "c106"))
  k_with "o call ref" => (k_here; (with_reducible show wpAny _ _ (call (Value.ref 113) _) _ _ _); k_dflt (k_extra "c113"))
  k_with "o call ref" => (k_here; (with_reducible show wpAny _ _ (call (Value.ref 120) _) _ _ _); k_dflt (k_extra "c120"))
  k_with "o call ref" => (k_here; (with_reducible show wpAny _ _ (call (Value.ref 127) _) _ _ _); k_dflt (k_extra "c127"))
  k_with "o call ref" => (k_here; (with_reducible show wpAny _ _ (call (Value.ref 134) _) _ _ _); k_dflt (k_extra "c134"))
  k_with "o setItem ref int" => (k_here; k_dflt (k_extra "setRow"))
  k_with "o exec For Name Call cons nil" => (k_here; (rename Fr _ _ _ _ => lF'); (with_unfolding_all refine' For_invVF lF' ?k1 ?k2 ?_; (case k1 => exact rfl); (case k2 => exact rfl)))
  k_with "o pyIter ref" => k_extra "rowsIter"
  k_with "o execs cons" => (k_here; k_extra "stm")
  k_with "o eval Name" => (k_here; k_dflt (refine' nameX_L ?nmF ?nmv ?_ ?nma ?nmb; (case nmF => k_asm); (case nma => rfl); (case nmb => rfl); (case nmv => exact Eq.refl (some _)); k_whole))
  k_with "o exec Assign" => ((with_reducible show wpAny _ _ (exec (Stmt.Assign [Expr.Name (Str.ofString "row") _] _ _) _) _ _ _); k_extra "row1")
  k_with "o callWith ref" => (k_here; k_extra "cwF")
  k_with "o And" => (k_extra "andF")
  k_with "o exec Assign" => ((with_reducible show wpAny _ _ (exec (Stmt.Assign [Expr.Name (Str.ofString "length") _] _ _) _) _ _ _); k_extra "length")
  k_with "o exec Assign" => ((with_reducible show wpAny _ _ (exec (Stmt.Assign [Expr.Name (Str.ofString "numbers") _] _ _) _) _ _ _); k_extra "numbers")
  k_with "o exec Assign" => ((with_reducible show wpAny _ _ (exec (Stmt.Assign [Expr.Name (Str.ofString "due") _] _ _) _) _ _ _); k_extra "due")
  k_with "o exec Assign" => ((with_reducible show wpAny _ _ (exec (Stmt.Assign [Expr.Name (Str.ofString "rows") _] _ _) _) _ _ _); k_extra "rows")
  k_with "o call ref" => (k_here; (with_reducible show wpAny _ _ (call (Value.ref _) [Value.int _ _]) _ _ _); k_dflt (k_extra "cF"))
  k_with "o subscriptTail Name Slice ref ref" => (k_here; k_dflt (k_extra "sliceOdd"))
  k_with "o subscriptTail" => (k_here; (with_reducible show wpAny _ _ (subscriptTail _ _ (Value.ref _) (Value.int _ _)) _ _ _); k_dflt (k_extra "lens"))
  k_with "o call builtin:list.append" => (k_here; (with_reducible show wpAny _ _ (call (Value.builtin _) [Value.ref _, _]) _ _ _); k_dflt (k_extra "appRow"))
  k_with "o newList" => (k_here; k_dflt (k_extra "newRow"))
  k_with "o compareOp Eq ref ref" => (k_here; (with_reducible show wpAny _ _ (compareOp CmpOp.Eq (Value.ref _) (Value.ref _)) _ _ _); k_dflt (k_extra "eqRows"))
  k_with "o GrownAll" => k_dflt (k_extra "grown")
  k_with "stm" => (refine wpAny_execs_cons ?_; (try k_fold); refine Mine.abs_toks ?_; intro tkS)
  k_with "newRow" => (refine' newList_K ?k1 ?k2 ?_); (case k1 => k_asm); (case k2 => k_asm); intro l' h' F' N' lNew
  k_with "rowsIter" => refine Mine.stopped ?_
  k_steps
  unfold Mine.Stopped
  (try k_fold)
  (rename IsRange _ _ _ _ _ _ _ _ => rg)
  (rename Fr _ _ _ _ => lF)
  (rename News _ _ _ _ => lN)
  obtain ⟨r, hr0, hLr⟩ := Mine.len_ex hLen.2 hPM
  obtain ⟨b, hb1, hb2⟩ := Mine.b_ex FA
  rw [hr0] at rg
  have sub := Mine.tb_range hLr
  refine tbr_invG (Mine.RowsJ _ _ ((b.fmod 7 + 1).fmod 7).toNat r.toNat) rfl rg sub.1 sub.2 lF lN (Mine.rows_start (by exact Mine.lp_lt _) (by exact Mine.len_pos hLr) rfl rfl ?o1 ?o2 ?o3) ?turn ?done
  case o1 => exact fun p hp => Nat.ne_of_lt (lNew p (.tail _ hp))
  case o2 => exact fun p hp => Nat.ne_of_lt (lRows p hp)
  case o3 => exact (Nat.ne_of_lt (lNew _ (.head _))).symm
  case done =>
    intro m₁ nx h tk hJ F N
    refine Mine.rows_fin hJ F N rfl ?_
    clear hJ F N
    intro rA lA refs c2 tl u hdA F2 N2
    (try dsimp only [List.cons_append, List.nil_append] at N2)
    (try k_fold)
    k_with_none
    k_with "o eval Call" => ((with_reducible show wpAny _ _ (eval (Expr.Call (Expr.Name _ _) (_ :: _) [] _) _) _ _ _); refine Call_ ?_)
    k_with "o call ref" => (k_here; (with_reducible show wpAny _ _ (call (Value.ref 64) _) _ _ _); k_dflt (k_extra "c64"))
    k_with "o call ref" => (k_here; (with_reducible show wpAny _ _ (call (Value.ref 78) _) _ _ _); k_dflt (k_extra "c78"))
    k_with "o call ref" => (k_here; (with_reducible show wpAny _ _ (call (Value.ref 85) _) _ _ _); k_dflt (k_extra "c85"))
    k_with "o call ref" => (k_here; (with_reducible show wpAny _ _ (call (Value.ref 92) _) _ _ _); k_dflt (k_extra "c92"))
    k_with "o call ref" => (k_here; (with_reducible show wpAny _ _ (call (Value.ref 99) _) _ _ _); k_dflt (k_extra "c99"))
    k_with "o call ref" => (k_here; (with_reducible show wpAny _ _ (call (Value.ref 106) _) _ _ _); k_dflt (k_extra "c106"))
    k_with "o call ref" => (k_here; (with_reducible show wpAny _ _ (call (Value.ref 113) _) _ _ _); k_dflt (k_extra "c113"))
    k_with "o call ref" => (k_here; (with_reducible show wpAny _ _ (call (Value.ref 120) _) _ _ _); k_dflt (k_extra "c120"))
    k_with "o call ref" => (k_here; (with_reducible show wpAny _ _ (call (Value.ref 127) _) _ _ _); k_dflt (k_extra "c127"))
    k_with "o call ref" => (k_here; (with_reducible show wpAny _ _ (call (Value.ref 134) _) _ _ _); k_dflt (k_extra "c134"))
    k_with "o setItem ref int" => (k_here; k_dflt (k_extra "setRow"))
    k_with "o exec For Name Call cons nil" => (k_here; (rename Fr _ _ _ _ => lF'); (with_unfolding_all refine' For_invVF lF' ?k1 ?k2 ?_; (case k1 => exact rfl); (case k2 => exact rfl)))
    k_with "o pyIter ref" => k_extra "rowsIter"
    k_with "o execs cons" => (k_here; k_extra "stm")
    k_with "o eval Name" => (k_here; k_dflt (refine' nameX_L ?nmF ?nmv ?_ ?nma ?nmb; (case nmF => k_asm); (case nma => rfl); (case nmb => rfl); (case nmv => exact Eq.refl (some _)); k_whole))
    k_with "o exec Assign" => ((with_reducible show wpAny _ _ (exec (Stmt.Assign [Expr.Name (Str.ofString "row") _] _ _) _) _ _ _); k_extra "row1")
    k_with "o callWith ref" => (k_here; k_extra "cwF")
    k_with "o And" => (k_extra "andF")
    k_with "o exec Assign" => ((with_reducible show wpAny _ _ (exec (Stmt.Assign [Expr.Name (Str.ofString "length") _] _ _) _) _ _ _); k_extra "length")
    k_with "o exec Assign" => ((with_reducible show wpAny _ _ (exec (Stmt.Assign [Expr.Name (Str.ofString "numbers") _] _ _) _) _ _ _); k_extra "numbers")
    k_with "o exec Assign" => ((with_reducible show wpAny _ _ (exec (Stmt.Assign [Expr.Name (Str.ofString "due") _] _ _) _) _ _ _); k_extra "due")
    k_with "o exec Assign" => ((with_reducible show wpAny _ _ (exec (Stmt.Assign [Expr.Name (Str.ofString "rows") _] _ _) _) _ _ _); k_extra "rows")
    k_with "o call ref" => (k_here; (with_reducible show wpAny _ _ (call (Value.ref _) [Value.int _ _]) _ _ _); k_dflt (k_extra "cF"))
    k_with "o subscriptTail Name Slice ref ref" => (k_here; k_dflt (k_extra "sliceOdd"))
    k_with "o subscriptTail" => (k_here; (with_reducible show wpAny _ _ (subscriptTail _ _ (Value.ref _) (Value.int _ _)) _ _ _); k_dflt (k_extra "lens"))
    k_with "o call builtin:list.append" => (k_here; (with_reducible show wpAny _ _ (call (Value.builtin _) [Value.ref _, _]) _ _ _); k_dflt (k_extra "appRow"))
    k_with "o newList" => (k_here; k_dflt (k_extra "newRow"))
    k_with "o compareOp Eq ref ref" => (k_here; (with_reducible show wpAny _ _ (compareOp CmpOp.Eq (Value.ref _) (Value.ref _)) _ _ _); k_dflt (k_extra "eqRows"))
    k_with "o GrownAll" => k_dflt (k_extra "grown")
    k_with "stm" => (refine wpAny_execs_cons ?_; (try k_fold); refine Mine.abs_toks ?_; intro tkS)
    k_with "c120" => (refine' Mine.c_mcal (Mine.CF.mono hF4 ?k0) (rfl : Y - 621 = Y - 621) NF.good0 (NF.good (by decide) (by decide)) hPM.1 hPM.2.1 hb2 (PL.trans hr0) hLr.1 hLr.2 ?k1 ?k2 ?k3 ?k4 ?k5 ?k6 ?k7 ?k8 ?_; (case k1 => k_asm); (case k2 => k_asm); (case k3 => k_asm); (case k4 => k_asm); (case k5 => k_asm); (case k6 => first | exact rfl | assumption); (case k7 => first | exact Nat.le_of_ble_eq_true rfl | ktr_room); (case k8 => first | exact Nat.le_of_ble_eq_true rfl | ktr_units); (case k0 => repeat' (first | exact fun p hp => List.mem_append_left tl hp | refine Mine.sub_cons ?_)); intro D9 ys9 c9 tl9 h9 tk9 F9 N9 s9 d9; (try dsimp only))
    k_with "eqRows" => (refine' Mine.eq_rows ?qN s9 ?qm ?qs d9 hdA Mine.calRows_ok ?qu ?_); (case qN => k_asm); (case qm => k_mem); (case qs => (intro p9 h9; kst_mem)); (case qu => ke_room)
    k_with "grown" => exact ⟨GrownAt.of (by k_asm) (.tail _ (s9 _ (by k_mem))), True.intro⟩
    k_steps
  case turn =>
    intro i k t m₁ nx h tk own hk ho hJ F N
    refine Mine.rows_elim hk ho hJ F N rfl ?_
    clear hJ F N hk ho
    intro rA lA refs cur c1 c2 tl u hi hbs o1 o2 o3 hrest hd hl hc hr F N9
    have mL := List.mem_append_left own (hbs _ (.tail _ (.tail _ (.tail _ (.tail _ (.tail _ (.tail _ (.tail _ (.tail _ (List.Mem.head _))))))))))
    (try k_fold)
    k_with_none
    k_with "o eval Call" => ((with_reducible show wpAny _ _ (eval (Expr.Call (Expr.Name _ _) (_ :: _) [] _) _) _ _ _); refine Call_ ?_)
    k_with "o call ref" => (k_here; (with_reducible show wpAny _ _ (call (Value.ref 64) _) _ _ _); k_dflt (k_extra "c64"))
    k_with "o call ref" => (k_here; (with_reducible show wpAny _ _ (call (Value.ref 78) _) _ _ _); k_dflt (k_extra "c78"))
    k_with "o call ref" => (k_here; (with_reducible show wpAny _ _ (call (Value.ref 85) _) _ _ _); k_dflt (k_extra "c85"))
    k_with "o call ref" => (k_here; (with_reducible show wpAny _ _ (call (Value.ref 92) _) _ _ _); k_dflt (k_extra "c92"))
    k_with "o call ref" => (k_here; (with_reducible show wpAny _ _ (call (Value.ref 99) _) _ _ _); k_dflt (k_extra "c99"))
    k_with "o call ref" => (k_here; (with_reducible show wpAny _ _ (call (Value.ref 106) _) _ _ _); k_dflt (k_extra "c106"))
    k_with "o call ref" => (k_here; (with_reducible show wpAny _ _ (call (Value.ref 113) _) _ _ _); k_dflt (k_extra "c113"))
    k_with "o call ref" => (k_here; (with_reducible show wpAny _ _ (call (Value.ref 120) _) _ _ _); k_dflt (k_extra "c120"))
    k_with "o call ref" => (k_here; (with_reducible show wpAny _ _ (call (Value.ref 127) _) _ _ _); k_dflt (k_extra "c127"))
    k_with "o call ref" => (k_here; (with_reducible show wpAny _ _ (call (Value.ref 134) _) _ _ _); k_dflt (k_extra "c134"))
    k_with "o setItem ref int" => (k_here; k_dflt (k_extra "setRow"))
    k_with "o exec For Name Call cons nil" => (k_here; (rename Fr _ _ _ _ => lF'); (with_unfolding_all refine' For_invVF lF' ?k1 ?k2 ?_; (case k1 => exact rfl); (case k2 => exact rfl)))
    k_with "o pyIter ref" => k_extra "rowsIter"
    k_with "o execs cons" => (k_here; k_extra "stm")
    k_with "o eval Name" => (k_here; k_dflt (refine' nameX_L ?nmF ?nmv ?_ ?nma ?nmb; (case nmF => k_asm); (case nma => rfl); (case nmb => rfl); (case nmv => exact Eq.refl (some _)); k_whole))
    k_with "o exec Assign" => ((with_reducible show wpAny _ _ (exec (Stmt.Assign [Expr.Name (Str.ofString "row") _] _ _) _) _ _ _); k_extra "row1")
    k_with "o callWith ref" => (k_here; k_extra "cwF")
    k_with "o And" => (k_extra "andF")
    k_with "o exec Assign" => ((with_reducible show wpAny _ _ (exec (Stmt.Assign [Expr.Name (Str.ofString "length") _] _ _) _) _ _ _); k_extra "length")
    k_with "o exec Assign" => ((with_reducible show wpAny _ _ (exec (Stmt.Assign [Expr.Name (Str.ofString "numbers") _] _ _) _) _ _ _); k_extra "numbers")
    k_with "o exec Assign" => ((with_reducible show wpAny _ _ (exec (Stmt.Assign [Expr.Name (Str.ofString "due") _] _ _) _) _ _ _); k_extra "due")
    k_with "o exec Assign" => ((with_reducible show wpAny _ _ (exec (Stmt.Assign [Expr.Name (Str.ofString "rows") _] _ _) _) _ _ _); k_extra "rows")
    k_with "o call ref" => (k_here; (with_reducible show wpAny _ _ (call (Value.ref _) [Value.int _ _]) _ _ _); k_dflt (k_extra "cF"))
    k_with "o subscriptTail Name Slice ref ref" => (k_here; k_dflt (k_extra "sliceOdd"))
    k_with "o subscriptTail" => (k_here; (with_reducible show wpAny _ _ (subscriptTail _ _ (Value.ref _) (Value.int _ _)) _ _ _); k_dflt (k_extra "lens"))
    k_with "o call builtin:list.append" => (k_here; (with_reducible show wpAny _ _ (call (Value.builtin _) [Value.ref _, _]) _ _ _); k_dflt (k_extra "appRow"))
    k_with "o newList" => (k_here; k_dflt (k_extra "newRow"))
    k_with "o compareOp Eq ref ref" => (k_here; (with_reducible show wpAny _ _ (compareOp CmpOp.Eq (Value.ref _) (Value.ref _)) _ _ _); k_dflt (k_extra "eqRows"))
    k_with "o GrownAll" => k_dflt (k_extra "grown")
    k_with "stm" => (refine wpAny_execs_cons ?_; (try k_fold); refine Mine.abs_toks ?_; intro tkS)
    k_with "storeName int" => (with_reducible show wpAny _ _ (storeName _ (Str.ofString "column") _) _ _ _); k_dflt ((refine' Mine.abs_storeT (fun V => V = (((((b.fmod 7 + 1).fmod 7).toNat + i) % 7 : Nat) : Int)) ?qh0 ?_); (case qh0 => exact Mine.col_at hb1); intro V hV tV; subst hV; (refine' storeX_L ?qF ?qN ?_ ?qa ?qb); (case qF => k_asm); (case qN => k_asm); (case qa => rfl); (case qb => rfl); intro h' F' N'; (try k_sweep))
    k_with "setRow" => (refine' Mine.set_any ?qF ?qN ?qo ?qx ?qy ?qz ?_); (case qF => k_asm); (case qN => k_asm); (case qo => exact List.forall_mem_cons.mpr ⟨Ne.symm o3, hrest.1⟩); (case qx => omega); (case qy => rw [hc]; omega); (case qz => omega); intro h8 F8 N8
    k_with "lens" => (refine' ksa_sub ?qF ?qm ?qi ?q0 ?q1 ?qf ?_ ?qs); (case qF => k_asm); (case qm => exact .tail _ (.tail _ mL)); (case qi => exact hIL); (case q0 => omega); (case q1 => (simp only [List.length_cons, List.length_nil]; omega)); (case qf => omega); (case qs => with_unfolding_all rfl); intro t7; rw [hr0]
    k_with "appRow" => (refine' Mine.app_row ?qF ?qN ?qq ?qo ?qz ?_); (case qF => k_asm); (case qN => k_asm); (case qq => exact o3); (case qo => exact hrest.2.1); (case qz => omega); intro h8 F8 N8
    k_with "newRow" => (refine' newList_K ?k1 ?k2 ?_); (case k1 => k_asm); (case k2 => k_asm); intro l' h' F' N' lNew
    k_steps
    · (rename Fr _ _ _ _ => eF); (rename News _ _ _ _ => eN)
      exact Mine.end_grow hi (.inl (by omega)) eF eN lNew Mine.map_grow hbs o2 o3 hrest hd hl hr
    · (rename Fr _ _ _ _ => eF); (rename News _ _ _ _ => eN)
      exact Mine.end_grow hi (.inr (by omega)) eF eN lNew Mine.map_grow hbs o2 o3 hrest hd hl hr
    · (rename Fr _ _ _ _ => eF); (rename News _ _ _ _ => eN)
      exact Mine.end_stay hi (by omega) (by omega) eF eN Mine.map_stay hbs o1 o2 o3 hrest hd hl hc hr)
end
theorem PySem.Challenge.cw_jk0004_01_holds : PySem.Challenge.rw_jk0004_01.Holds := by
  exact Mine.law_all
