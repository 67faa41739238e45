import Derived.Test.YtafdhmpikkfepaaGreatDoorList
namespace Go.Proofs.YtafdhmpikkfepaaGreatDoor
open Go.RowKit

abbrev emp : ByteArray := ⟨#[]⟩
/-- a value of the package: its number, text, truth, error, type -/
abbrev fArg (n : Nat) (s : ByteArray) (b : Bool) (err : ByteArray) (ty : Int) : Value :=
  .agg #[.string ⟨#[]⟩, .float .f64 n, .string s, .slice none 0 0, .slice none 0 0, .bool b, .string err, .int .u8 ty, .pointer none, .pointer none]
abbrev fBox (n : Nat) (s : ByteArray) (b : Bool) (err : ByteArray) (ty : Int) : Obj :=
  .cells #[.string ⟨#[]⟩, .float .f64 n, .string s, .slice none 0 0, .slice none 0 0, .bool b, .string err, .int .u8 ty, .pointer none, .pointer none] 67
abbrev fNum (n : Nat) : Value := fArg (fl n) ⟨#[]⟩ false ⟨#[]⟩ 1
abbrev fStr (s : ByteArray) : Value := fArg 0 s false ⟨#[]⟩ 2

theorem ord_self (n : Nat) (h : n < 9007199254740992) : (FloatKind.f64.format.order (fl n) (fl n) != some .eq) = false := by
  have := order_eq n n h h
  simp only [decide_true] at this
  simp [bne, this]
theorem ord_zero (n : Nat) (h : n < 9007199254740992) : (FloatKind.f64.format.order (fl n) 0 == some .eq) = decide (n = 0) := by
  have := order_eq n 0 h (by omega)
  rw [fl_zero] at this
  exact this

section
attribute [local go_sem] run_store_flt

theorem nan_any (n : Nat) (w : World) (h : n < 9007199254740992) :
    Calls Tryz.prog 79 #[.float .f64 (fl n)] w fun e w' => e = .returned (.bool false) ∧ w = w' := by
  have ho := ord_self n h
  go_enter Tryz.func79, Tryz.ntmps79
  go_wp2
  go_ret
  exact ⟨rfl, rfl⟩

theorem num_any (n : Nat) (w : World) (h : n < 9007199254740992) :
    Calls Tryz.prog 55 #[.float .f64 (fl n)] w fun e w' => e = .returned (fNum n) ∧ w' = w.alloc (fBox (fl n) ⟨#[]⟩ false ⟨#[]⟩ 1) := by
  by_cases h0 : n = 0
  · subst h0
    have hz : (FloatKind.f64.format.order (fl 0) 0 == some .eq) = true := by rw [ord_zero 0 h]; rfl
    have hf := fl_zero
    go_enter Tryz.func55, Tryz.ntmps55
    go_wp2_with (go_at_call 79; refine (nan_any _ _ h).mono ?_; rintro e w' ⟨rfl, rfl⟩)
    exact bodyPost_ret (v := fNum 0) (by simp [results, Tryz.results55, go_sem, hf]) rfl ⟨rfl, by rw [hf]⟩
  · have hz : (FloatKind.f64.format.order (fl n) 0 == some .eq) = false := by rw [ord_zero n h]; simpa using h0
    go_enter Tryz.func55, Tryz.ntmps55
    go_wp2_with (go_at_call 79; refine (nan_any _ _ h).mono ?_; rintro e w' ⟨rfl, rfl⟩)
    exact bodyPost_ret (v := fNum n) (by simp [results, Tryz.results55, go_sem]) rfl ⟨rfl, rfl⟩

theorem strf_any (s : ByteArray) (w : World) :
    Calls Tryz.prog 61 #[.string s] w fun e w' => e = .returned (fStr s) ∧ w' = w.alloc (fBox 0 s false ⟨#[]⟩ 2) := by
  go_enter Tryz.func61, Tryz.ntmps61
  go_wp2
  exact bodyPost_ret (v := fStr s) (by simp [results, Tryz.results61, go_sem]) rfl ⟨rfl, rfl⟩

theorem boolf_true (w : World) :
    Calls Tryz.prog 56 #[.bool true] w fun e w' => e = .returned (fArg 4607182418800017408 ⟨#[]⟩ true ⟨#[]⟩ 1) ∧ w' = w.alloc (fBox 4607182418800017408 ⟨#[]⟩ true ⟨#[]⟩ 1) := by
  go_enter Tryz.func56, Tryz.ntmps56
  go_wp2
  exact bodyPost_ret (v := fArg 4607182418800017408 ⟨#[]⟩ true ⟨#[]⟩ 1) (by simp [results, Tryz.results56, go_sem]) rfl ⟨rfl, rfl⟩

theorem toNum_any (n : Nat) (w : World) (h : n < 9007199254740992) :
    Calls Tryz.prog 53 #[fNum n] w fun e w' => e = .returned (fNum n) ∧ Below w.heap.size w w' := by
  go_enter Tryz.func53, Tryz.ntmps53
  go_wp2_with (go_at_call 55; refine (num_any _ _ h).mono ?_; rintro e w1 ⟨rfl, rfl⟩)
  exact bodyPost_ret (v := fNum n) (by simp [results, Tryz.results53, go_sem]) rfl ⟨rfl, bal (bal (bal (Below.refl _ _) _) _) _⟩

theorem val_str (s : ByteArray) (w : World) :
    Calls Tryz.prog 59 #[fStr s] w fun e w' => e = .returned (.string s) ∧ Below w.heap.size w w' := by
  go_enter Tryz.func59, Tryz.ntmps59
  go_wp2
  go_ret
  exact ⟨rfl, bal (Below.refl _ _) _⟩

theorem val_true (w : World) :
    Calls Tryz.prog 59 #[fArg 4607182418800017408 ⟨#[]⟩ true ⟨#[]⟩ 1] w fun e w' => e = .returned (.string ⟨#[84, 82, 85, 69]⟩) ∧ Below w.heap.size w w' := by
  have hz : (FloatKind.f64.format.order 4607182418800017408 0 == some .eq) = false := by decide
  go_enter Tryz.func59, Tryz.ntmps59
  go_wp2
  go_ret
  exact ⟨rfl, bal (Below.refl _ _) _⟩

theorem inner_num (n : Nat) (w : World) (h : n < 9007199254740992) :
    Calls Tryz.prog 64 #[vVal 1 (fl n) ⟨#[]⟩] w fun e w' => e = .returned (fNum n) ∧ Below w.heap.size w w' := by
  go_enter Tryz.func64, Tryz.ntmps64
  go_wp2_with (go_at_call 55; refine (num_any _ _ h).mono ?_; rintro e w1 ⟨rfl, rfl⟩)
  exact bodyPost_ret (v := fNum n) (by simp [results, Tryz.results64, go_sem]) rfl ⟨rfl, bal (bal (bal (Below.refl _ _) _) _) _⟩

theorem inner_str (s : ByteArray) (w : World) :
    Calls Tryz.prog 64 #[vVal 2 0 s] w fun e w' => e = .returned (fStr s) ∧ Below w.heap.size w w' := by
  go_enter Tryz.func64, Tryz.ntmps64
  go_wp2_with (go_at_call 61; refine (strf_any _ _).mono ?_; rintro e w1 ⟨rfl, rfl⟩)
  exact bodyPost_ret (v := fStr s) (by simp [results, Tryz.results64, go_sem]) rfl ⟨rfl, bal (bal (bal (Below.refl _ _) _) _) _⟩

theorem door_num (n : Nat) (w : World) :
    Calls Tryz.prog 36 #[fNum n] w fun e w' => e = .returned (vVal 1 (fl n) ⟨#[]⟩) ∧ Below w.heap.size w w' := by
  go_enter Tryz.func36, Tryz.ntmps36
  go_wp2
  exact bodyPost_ret (v := vVal 1 (fl n) ⟨#[]⟩) (by simp [results, Tryz.results36, go_sem]) rfl ⟨rfl, bal (bal (Below.refl _ _) _) _⟩

theorem door_str (s : ByteArray) (w : World) :
    Calls Tryz.prog 36 #[fStr s] w fun e w' => e = .returned (vVal 2 0 s) ∧ Below w.heap.size w w' := by
  go_enter Tryz.func36, Tryz.ntmps36
  go_wp2
  exact bodyPost_ret (v := vVal 2 0 s) (by simp [results, Tryz.results36, go_sem]) rfl ⟨rfl, bal (bal (Below.refl _ _) _) _⟩

theorem out_any (k : Int) (n : Nat) (s : ByteArray) (w : World) :
    Calls Tryz.prog 24 #[vVal k n s] w fun e w' => e = .returned (vVal k n s) ∧ Below w.heap.size w w' := by
  go_enter Tryz.func24, Tryz.ntmps24
  go_wp2
  refine wp_loop_rounds 1 ?_
  rw [rounds_succ]
  go_wp2
  exact bodyPost_ret (v := vVal k n s) (by simp [results, Tryz.results24, go_sem]) rfl ⟨rfl, bal (bal (bal (Below.refl _ _) _) _) _⟩

theorem funcs_any (w : World) :
    Calls Tryz.prog 37 #[] w fun e w' => (∃ b, e = .returned (ptr b)) ∧ Below w.heap.size w w' := by
  go_enter Tryz.func37, Tryz.ntmps37
  go_wp2
  go_ret
  exact ⟨⟨_, rfl⟩, bal (Below.refl _ _) _⟩
end

end Go.Proofs.YtafdhmpikkfepaaGreatDoor
