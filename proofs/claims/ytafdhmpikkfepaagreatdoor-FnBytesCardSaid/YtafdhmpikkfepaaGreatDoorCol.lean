import Derived.Lib.Atoi
import Derived.Lib.ItoaMem
namespace Go.Proofs.YtafdhmpikkfepaaGreatDoor

/-- the letters of a column -/
def colL (n : Nat) : List UInt8 := if _h : n = 0 then [] else colL ((n - 1) / 26) ++ [UInt8.ofNat (65 + (n - 1) % 26)]
termination_by n
decreasing_by omega

theorem colL_zero : colL 0 = [] := by rw [colL, dif_pos rfl]
theorem colL_pos (n : Nat) (h : n ≠ 0) : colL n = colL ((n - 1) / 26) ++ [UInt8.ofNat (65 + (n - 1) % 26)] := by rw [colL, dif_neg h]
theorem colL_len_pos (n : Nat) (h : n ≠ 0) : (colL n).length = (colL ((n - 1) / 26)).length + 1 := by rw [colL_pos n h]; simp

def colVal (l : List UInt8) : Nat := l.foldl (fun a c => a * 26 + (c.toNat - 64)) 0

theorem colVal_acc (l : List UInt8) : ∀ a : Nat, l.foldl (fun a c => a * 26 + (c.toNat - 64)) a = a * 26 ^ l.length + colVal l := by
  induction l with
  | nil => intro a; simp [colVal]
  | cons c t ih =>
    intro a
    simp only [List.foldl_cons, List.length_cons]
    rw [ih, show colVal (c :: t) = t.foldl (fun a c => a * 26 + (c.toNat - 64)) (0 * 26 + (c.toNat - 64)) from rfl, ih]
    rw [Nat.zero_mul, Nat.zero_add, Nat.add_mul, Nat.pow_succ, Nat.mul_assoc, Nat.mul_comm 26, Nat.add_assoc]

theorem colVal_cons (c : UInt8) (t : List UInt8) : colVal (c :: t) = (c.toNat - 64) * 26 ^ t.length + colVal t := by
  rw [show colVal (c :: t) = t.foldl (fun a c => a * 26 + (c.toNat - 64)) (0 * 26 + (c.toNat - 64)) from rfl, colVal_acc]
  simp

theorem colVal_snoc (l : List UInt8) (c : UInt8) : colVal (l ++ [c]) = colVal l * 26 + (c.toNat - 64) := by
  unfold colVal
  rw [List.foldl_append]
  rfl

theorem letter_nat (k : Nat) : (UInt8.ofNat (65 + k % 26)).toNat = 65 + k % 26 := by
  rw [UInt8.toNat_ofNat_of_lt']
  show 65 + k % 26 < 256
  have := Nat.mod_lt k (show 0 < 26 by decide)
  omega

theorem colVal_colL (n : Nat) : colVal (colL n) = n := by
  induction n using Nat.strongRecOn with
  | _ n ih =>
    by_cases h : n = 0
    · subst h; rw [colL_zero]; rfl
    · rw [colL_pos n h, colVal_snoc, ih _ (by omega), letter_nat]
      omega

theorem colL_letter (n : Nat) : ∀ c ∈ colL n, 65 ≤ c.toNat ∧ c.toNat ≤ 90 := by
  induction n using Nat.strongRecOn with
  | _ n ih =>
    by_cases h : n = 0
    · subst h; rw [colL_zero]; intro c hc; cases hc
    · rw [colL_pos n h]
      intro c hc
      rcases List.mem_append.1 hc with hc | hc
      · exact ih _ (by omega) c hc
      · obtain rfl := List.mem_singleton.1 hc
        rw [letter_nat]
        have := Nat.mod_lt (n - 1) (show 0 < 26 by decide)
        omega

theorem colL_pow (n : Nat) (h : n ≠ 0) : 26 ^ ((colL n).length - 1) ≤ n := by
  induction n using Nat.strongRecOn with
  | _ n ih =>
    rw [colL_len_pos n h, Nat.add_sub_cancel]
    by_cases hq : (n - 1) / 26 = 0
    · rw [hq, colL_zero]; simp; omega
    · have h1 := ih _ (by omega) hq
      have h2 := colL_len_pos _ hq
      rw [h2] at h1 ⊢
      rw [Nat.add_sub_cancel] at h1
      rw [Nat.pow_succ]
      omega

theorem colL_len (n : Nat) (h : n ≤ 16384) : (colL n).length ≤ 3 := by
  by_cases h0 : n = 0
  · subst h0; rw [colL_zero]; exact Nat.zero_le _
  · have := colL_pow n h0
    refine Nat.le_of_not_lt fun h4 => ?_
    have h5 : 26 ^ 3 ≤ 26 ^ ((colL n).length - 1) := Nat.pow_le_pow_right (by decide) (by omega)
    have h6 : (26 : Nat) ^ 3 = 17576 := by decide
    omega

theorem colL_ne (n : Nat) (h : n ≠ 0) : 1 ≤ (colL n).length := by rw [colL_len_pos n h]; omega

theorem colVal_drop_le (l : List UInt8) (k : Nat) : colVal (l.drop k) ≤ colVal l := by
  induction k generalizing l with
  | zero => simp
  | succ k ih =>
    cases l with
    | nil => simp
    | cons c t =>
      rw [List.drop_succ_cons, colVal_cons]
      have := ih t
      omega

theorem colVal_step (l : List UInt8) (i : Nat) (h : i < l.length) : colVal (l.drop i) = (l[i].toNat - 64) * 26 ^ (l.length - 1 - i) + colVal (l.drop (i + 1)) := by
  rw [List.drop_eq_getElem_cons h, colVal_cons, List.length_drop]
  congr 3
  omega

/-- the digits of a number read back -/
theorem decFrom_append (l m : List UInt8) : ∀ acc : Nat, Lib.decFrom acc (l ++ m) = (Lib.decFrom acc l).bind fun a => Lib.decFrom a m := by
  induction l with
  | nil => intro acc; rfl
  | cons c t ih =>
    intro acc
    simp only [List.cons_append, Lib.decFrom]
    cases Lib.digitVal c with
    | none => rfl
    | some d => exact ih _

theorem digit_nat (k : Nat) : (UInt8.ofNat (48 + k % 10)).toNat = 48 + k % 10 := by
  rw [UInt8.toNat_ofNat_of_lt']
  show 48 + k % 10 < 256
  have := Nat.mod_lt k (show 0 < 10 by decide)
  omega

theorem digitVal_digit (k : Nat) : Lib.digitVal (UInt8.ofNat (48 + k % 10)) = some (k % 10) := by
  unfold Lib.digitVal
  rw [digit_nat]
  have := Nat.mod_lt k (show 0 < 10 by decide)
  rw [if_pos (by omega)]
  congr 1
  omega

theorem decDigits_small (u : Nat) (h : u < 10) : Lib.decDigits u = [UInt8.ofNat (48 + u)] := by rw [Lib.decDigits, dif_pos h]
theorem decDigits_big (u : Nat) (h : ¬ u < 10) : Lib.decDigits u = Lib.decDigits (u / 10) ++ [UInt8.ofNat (48 + u % 10)] := by rw [Lib.decDigits, dif_neg h]

theorem decFrom_digits (u : Nat) : Lib.decFrom 0 (Lib.decDigits u) = some u := by
  induction u using Nat.strongRecOn with
  | _ u ih =>
    by_cases h : u < 10
    · rw [decDigits_small u h]
      have := digitVal_digit u
      rw [Nat.mod_eq_of_lt h] at this
      simp only [Lib.decFrom, this, Nat.zero_mul, Nat.zero_add]
    · rw [decDigits_big u h, decFrom_append, ih _ (by omega)]
      simp only [Option.bind_some, Lib.decFrom, digitVal_digit]
      congr 1
      omega

theorem digits_digit (u : Nat) : ∀ c ∈ Lib.decDigits u, 48 ≤ c.toNat ∧ c.toNat ≤ 57 := by
  induction u using Nat.strongRecOn with
  | _ u ih =>
    by_cases h : u < 10
    · rw [decDigits_small u h]
      intro c hc
      obtain rfl := List.mem_singleton.1 hc
      have := digit_nat u
      rw [Nat.mod_eq_of_lt h] at this
      omega
    · rw [decDigits_big u h]
      intro c hc
      rcases List.mem_append.1 hc with hc | hc
      · exact ih _ (by omega) c hc
      · obtain rfl := List.mem_singleton.1 hc
        rw [digit_nat]
        have := Nat.mod_lt u (show 0 < 10 by decide)
        omega

theorem digits_ne (u : Nat) : 1 ≤ (Lib.decDigits u).length := by
  by_cases h : u < 10
  · rw [decDigits_small u h]; exact Nat.le_refl _
  · rw [decDigits_big u h]; simp

theorem digits_len (k u : Nat) (h : u < 10 ^ (k + 1)) : (Lib.decDigits u).length ≤ k + 1 := by
  induction k generalizing u with
  | zero => rw [decDigits_small u (by simpa using h)]; simp
  | succ k ih =>
    by_cases h1 : u < 10
    · rw [decDigits_small u h1]; simp
    · rw [decDigits_big u h1, List.length_append]
      have := ih (u / 10) (by rw [Nat.pow_succ] at h; omega)
      simp only [List.length_singleton]
      omega

theorem atoi_digits (u : Nat) : Lib.atoi (Lib.decDigits u) = some (u : Int) := by
  have hne := digits_ne u
  have hd := digits_digit u
  have hv := decFrom_digits u
  match hl : Lib.decDigits u, hne, hd, hv with
  | c :: t, _, hd, hv =>
    have hc := hd c (List.mem_cons_self)
    have h45 : (c == 45) = false := by
      apply beq_eq_false_iff_ne.2
      intro e; subst e
      have : (45 : UInt8).toNat = 45 := rfl
      omega
    have h43 : (c == 43) = false := by
      apply beq_eq_false_iff_ne.2
      intro e; subst e
      have : (43 : UInt8).toNat = 43 := rfl
      omega
    simp [Lib.atoi, h45, h43, Lib.decNat, hv]

end Go.Proofs.YtafdhmpikkfepaaGreatDoor
