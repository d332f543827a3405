/- Plain facts on decimal digits: the last k digits of a number, the number that a reader of digits gathers, and the shape of a decimal numeral. No program in sight. -/
import Derived.Lib.ItoaNum
import Derived.Lib.ItoaLen
namespace Go.Proofs.YtpkgpeoleidglaaGreatFmt
open Go.Lib

/-- The last k decimal digits of m. -/
def low (m : Nat) : Nat → List UInt8
  | 0 => []
  | k + 1 => UInt8.ofNat (48 + m / 10 ^ k % 10) :: low m k

theorem low_length (m k : Nat) : (low m k).length = k := by
  induction k with
  | zero => rfl
  | succ k ih => simp [low, ih]

theorem low_eq (m k : Nat) : low m k = (List.range k).map fun t => dg m (k - 1 - t) := by
  induction k with
  | zero => rfl
  | succ k ih =>
    rw [low, ih, List.range_succ_eq_map, List.map_cons, List.map_map]
    congr 1
    refine List.map_congr_left fun t _ => ?_
    simp only [Function.comp_apply]
    congr 1
    omega

theorem low_all (m : Nat) : low m (nDigits m) = decDigits m := by rw [low_eq, decDigits_eq]

/-- What a reader of digits gathers. -/
def val (ds : List UInt8) : Nat := ds.foldl (fun a d => a * 10 + (d.toNat - 48)) 0

theorem val_snoc (ds : List UInt8) (d : UInt8) : val (ds ++ [d]) = val ds * 10 + (d.toNat - 48) := by simp [val]

theorem val_take (ds : List UInt8) (j : Nat) (h : j < ds.length) : val (ds.take (j + 1)) = val (ds.take j) * 10 + (ds[j].toNat - 48) := by
  rw [List.take_succ_eq_append_getElem h, val_snoc]

theorem toNat_digit (d : Nat) (h : d < 10) : (UInt8.ofNat (48 + d)).toNat = 48 + d := by
  rw [UInt8.toNat_ofNat']
  omega

/-- All are digits. -/
def AllDig (ds : List UInt8) : Prop := ∀ d ∈ ds, 48 ≤ d.toNat ∧ d.toNat ≤ 57

theorem allDig_dec (m : Nat) : AllDig (decDigits m) := by
  induction m using Nat.strongRecOn with
  | _ m ih =>
    intro d hd
    by_cases h : m < 10
    · rw [decDigits, dif_pos h] at hd
      rw [List.mem_singleton] at hd
      subst hd
      rw [toNat_digit m h]
      omega
    · rw [decDigits, dif_neg h, List.mem_append] at hd
      rcases hd with hd | hd
      · exact ih (m / 10) (by omega) d hd
      · rw [List.mem_singleton] at hd
        subst hd
        rw [toNat_digit _ (by omega)]
        omega

theorem fold_lt (ds : List UInt8) (h : AllDig ds) : ∀ a : Nat, ds.foldl (fun a d => a * 10 + (d.toNat - 48)) a < (a + 1) * 10 ^ ds.length := by
  induction ds with
  | nil => intro a; simp
  | cons d ds ih =>
    intro a
    rw [List.foldl_cons, List.length_cons, Nat.pow_succ]
    have h1 := ih (fun x hx => h x (List.mem_cons_of_mem _ hx)) (a * 10 + (d.toNat - 48))
    have h2 := h d (by simp)
    refine Nat.lt_of_lt_of_le h1 ?_
    rw [Nat.mul_comm (10 ^ ds.length) 10, ← Nat.mul_assoc]
    exact Nat.mul_le_mul_right _ (by omega)

theorem val_lt (ds : List UInt8) (h : AllDig ds) : val ds < 10 ^ ds.length := by
  have := fold_lt ds h 0
  simpa [val] using this

/-- The first digit of a number that is not nought is not nought. -/
theorem head_dec (m : Nat) (hm : 0 < m) : ∃ d ds, decDigits m = d :: ds ∧ d.toNat ≠ 48 := by
  induction m using Nat.strongRecOn with
  | _ m ih =>
    by_cases h : m < 10
    · refine ⟨_, [], by rw [decDigits, dif_pos h], ?_⟩
      rw [toNat_digit m h]
      omega
    · obtain ⟨d, ds, e, hd⟩ := ih (m / 10) (by omega) (by omega)
      exact ⟨d, ds ++ [UInt8.ofNat (48 + m % 10)], by rw [decDigits, dif_neg h, e]; rfl, hd⟩

theorem dec_zero : decDigits 0 = [48] := by rw [decDigits, dif_pos (by decide)]; rfl

theorem nDigits_le (k : Nat) : ∀ m : Nat, m < 10 ^ (k + 1) → nDigits m ≤ k + 1 := by
  induction k with
  | zero => intro m h; rw [nDigits_small (by simpa using h)]; omega
  | succ k ih =>
    intro m h
    by_cases h10 : m < 10
    · rw [nDigits_small h10]; omega
    · rw [nDigits_big h10]
      have := ih (m / 10) (by rw [Nat.pow_succ] at h; omega)
      omega

theorem dec_len (m : Nat) (h : m < 10 ^ 18) : 1 ≤ (decDigits m).length ∧ (decDigits m).length ≤ 18 := by
  rw [decDigits_length]
  exact ⟨nDigits_pos m, nDigits_le 17 m h⟩

end Go.Proofs.YtpkgpeoleidglaaGreatFmt
