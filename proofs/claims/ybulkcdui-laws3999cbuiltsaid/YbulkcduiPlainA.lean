/- The plain side of the two laws on appendF: lists of numbers, no Go in sight. -/
namespace Go.Proofs.Ybulkcdui.LawA

/-- The digit at place p, '0' off either end. -/
def digAt (ds : List Int) (p : Int) : Int := if p < 0 ∨ (ds.length : Int) ≤ p then 48 else ds.getD p.toNat 0

theorem digAt_in (ds : List Int) (i : Nat) (h : i < ds.length) : digAt ds (i : Int) = ds.getD i 0 := by
  unfold digAt
  rw [if_neg (by omega)]
  rfl

theorem digAt_out (ds : List Int) (p : Int) (h : p < 0 ∨ (ds.length : Int) ≤ p) : digAt ds p = 48 := by
  unfold digAt
  rw [if_pos h]

/-- The places from p on, k of them. -/
def places (ds : List Int) (p : Int) : Nat → List Int
  | 0 => []
  | k + 1 => places ds p k ++ [digAt ds (p + (k : Int))]

theorem places_length (ds : List Int) (p : Int) (k : Nat) : (places ds p k).length = k := by
  induction k with
  | zero => rfl
  | succ k ih => simp [places, ih]

theorem places_add (ds : List Int) (p : Int) (j k : Nat) : places ds p (j + k) = places ds p j ++ places ds (p + (j : Int)) k := by
  induction k with
  | zero => simp [places]
  | succ k ih =>
    show places ds p (j + k) ++ [digAt ds (p + ((j + k : Nat) : Int))] = _
    rw [ih]
    show _ = places ds p j ++ (places ds (p + (j : Int)) k ++ [digAt ds (p + (j : Int) + (k : Int))])
    rw [List.append_assoc, show p + ((j + k : Nat) : Int) = p + (j : Int) + (k : Int) by omega]

theorem places_out (ds : List Int) (p : Int) (k : Nat) (h : p + (k : Int) ≤ 0 ∨ (ds.length : Int) ≤ p) : places ds p k = List.replicate k 48 := by
  induction k with
  | zero => rfl
  | succ k ih =>
    show places ds p k ++ [digAt ds (p + (k : Int))] = _
    rw [ih (by omega), digAt_out ds _ (by omega), List.replicate_succ']

theorem places_in (ds : List Int) (i k : Nat) (h : i + k ≤ ds.length) : places ds (i : Int) k = (ds.drop i).take k := by
  induction k with
  | zero => simp [places]
  | succ k ih =>
    show places ds (i : Int) k ++ [digAt ds ((i : Int) + (k : Int))] = _
    rw [ih (by omega), show (i : Int) + (k : Int) = ((i + k : Nat) : Int) by omega, digAt_in ds _ (by omega), List.take_add_one, List.getElem?_drop, List.getD_eq_getElem?_getD, List.getElem?_eq_getElem (by omega)]
    rfl

theorem places_out' (ds : List Int) (p : Int) (k : Nat) (h : k = 0 ∨ p + (k : Int) ≤ 0 ∨ (ds.length : Int) ≤ p) : places ds p k = List.replicate k 48 := by
  rcases h with rfl | h
  · rfl
  · exact places_out ds p k h

/-- How many places behind the point. -/
def precOf (n : Nat) (dp prec : Int) : Int := if prec < 0 then (n : Int) - dp else prec

/-- What stands ahead of the point, as appendF lays it. -/
def intPart (ds : List Int) (dp : Int) : List Int := if dp ≤ 0 then [48] else ds.take dp.toNat ++ List.replicate (dp.toNat - ds.length) 48

def leadOf (dp pp : Int) : Nat := min (-dp).toNat pp.toNat

/-- What stands from the point on, as appendF lays it. -/
def fracPart (ds : List Int) (dp pp : Int) : List Int :=
  if pp ≤ 0 then [] else [46] ++ List.replicate (leadOf dp pp) 48 ++ (ds.drop dp.toNat).take (pp.toNat - leadOf dp pp) ++ List.replicate (pp.toNat - leadOf dp pp - (ds.length - dp.toNat)) 48

def appPart (ds : List Int) (dp prec : Int) : List Int := intPart ds dp ++ fracPart ds dp (precOf ds.length dp prec)

/-- The same, as the model lays it. -/
def intModel (ds : List Int) (dp : Int) : List Int := if dp ≤ 0 then [48] else places ds 0 dp.toNat
def fracModel (ds : List Int) (dp pp : Int) : List Int := if pp ≤ 0 then [] else [46] ++ places ds dp pp.toNat
def modPart (ds : List Int) (dp prec : Int) : List Int := intModel ds dp ++ fracModel ds dp (precOf ds.length dp prec)

theorem int_eq (ds : List Int) (dp : Int) : intPart ds dp = intModel ds dp := by
  unfold intPart intModel
  split
  · rfl
  · rename_i h
    by_cases hd : dp.toNat ≤ ds.length
    · have := places_in ds 0 dp.toNat (by omega)
      rw [show ((0 : Nat) : Int) = 0 from rfl] at this
      rw [this, show dp.toNat - ds.length = 0 by omega]
      simp
    · have e : dp.toNat = ds.length + (dp.toNat - ds.length) := by omega
      have h1 := places_in ds 0 ds.length (by omega)
      rw [show ((0 : Nat) : Int) = 0 from rfl] at h1
      rw [List.take_of_length_le (by omega)]
      conv => rhs; rw [e]
      rw [places_add, h1, places_out ds _ _ (.inr (by omega))]
      simp

theorem frac_eq (ds : List Int) (dp pp : Int) : fracPart ds dp pp = fracModel ds dp pp := by
  unfold fracPart fracModel
  split
  · rfl
  · rename_i hp
    rw [List.append_assoc, List.append_assoc]
    congr 1
    have hl : leadOf dp pp ≤ pp.toNat := by unfold leadOf; omega
    have e : pp.toNat = leadOf dp pp + (pp.toNat - leadOf dp pp) := by omega
    conv => rhs; rw [e]
    rw [places_add, places_out' ds dp (leadOf dp pp) (by unfold leadOf; omega)]
    congr 1
    by_cases hr : pp.toNat - leadOf dp pp = 0
    · rw [hr]; simp [places]
    · have hd : dp + (leadOf dp pp : Int) = ((dp.toNat : Nat) : Int) := by unfold leadOf at hr ⊢; omega
      rw [hd]
      by_cases hn : dp.toNat + (pp.toNat - leadOf dp pp) ≤ ds.length
      · rw [places_in ds _ _ hn, show pp.toNat - leadOf dp pp - (ds.length - dp.toNat) = 0 by omega]
        simp
      · have e2 : pp.toNat - leadOf dp pp = (ds.length - dp.toNat) + (pp.toNat - leadOf dp pp - (ds.length - dp.toNat)) := by omega
        conv => rhs; rw [e2]
        rw [List.take_of_length_le (by simp; omega), places_add]
        by_cases hlen : dp.toNat ≤ ds.length
        · rw [places_in ds _ _ (by omega), places_out ds _ _ (.inr (by omega)), List.take_of_length_le (by simp)]
        · rw [show ds.length - dp.toNat = 0 by omega, List.drop_eq_nil_of_le (by omega), places_out ds _ 0 (.inr (by omega)), places_out ds _ _ (.inr (by omega))]
          rfl

/-- THE PLAIN LAW. -/
theorem app_eq_mod (ds : List Int) (dp prec : Int) : appPart ds dp prec = modPart ds dp prec := by
  unfold appPart modPart
  rw [int_eq, frac_eq]

theorem intPart_length (ds : List Int) (dp : Int) (h : dp ≤ 400) : (intPart ds dp).length ≤ 400 := by
  rw [int_eq]
  unfold intModel
  split
  · simp
  · rw [places_length]; omega

theorem fracPart_length (ds : List Int) (dp pp : Int) : (fracPart ds dp pp).length ≤ pp.toNat + 1 := by
  rw [frac_eq]
  unfold fracModel
  split
  · simp
  · simp [places_length]

end Go.Proofs.Ybulkcdui.LawA
