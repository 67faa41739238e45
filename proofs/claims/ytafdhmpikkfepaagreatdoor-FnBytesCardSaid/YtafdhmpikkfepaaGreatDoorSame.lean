import Derived.Test.YtafdhmpikkfepaaGreatDoorVal
namespace Go.Proofs.YtafdhmpikkfepaaGreatDoor
open Go.RowKit

section
attribute [local go_sem] run_store_flt

abbrev sBox (k n d : Int) (s : ByteArray) : Obj := .cells #[.int .i64 k, .int .i64 n, .int .i64 d, .string s, .slice none 0 0] 32
abbrev vBox (k : Int) (n : Nat) (s : ByteArray) : Obj := .cells #[.int .i64 k, .float .f64 n, .string s, .slice none 0 0] 26

theorem of_str_x (s : ByteArray) (w : World) :
    Calls Tryz.prog 18 #[sVal 2 0 0 s] w fun e w' => e = .returned (vVal 2 0 s) ∧ w' = ((w.alloc (sBox 2 0 0 s)).alloc (vBox 2 0 s)).alloc (vBox 2 0 s) := by
  go_enter Tryz.func18, Tryz.ntmps18
  go_wp2
  exact bodyPost_ret (v := vVal 2 0 s) (by simp [results, Tryz.results18, go_sem]) rfl ⟨rfl, rfl⟩

theorem of_num_x (n : Nat) (w : World) (h : n < 9007199254740992) :
    Calls Tryz.prog 18 #[sVal 1 n 1 ⟨#[]⟩] w fun e w' => e = .returned (vVal 1 (fl n) ⟨#[]⟩) ∧ w' = ((w.alloc (sBox 1 n 1 ⟨#[]⟩)).alloc (vBox 1 (fl n) ⟨#[]⟩)).alloc (vBox 1 (fl n) ⟨#[]⟩) := by
  have hd := fun W => run_div_one W n h
  go_enter Tryz.func18, Tryz.ntmps18
  go_wp2
  exact bodyPost_ret (v := vVal 1 (fl n) ⟨#[]⟩) (by simp [results, Tryz.results18, go_sem]) rfl ⟨rfl, rfl⟩

set_option maxHeartbeats 400000 in
theorem same_num (n : Nat) (w : World) (h : n < 9007199254740992) :
    Calls Tryz.prog 6 #[vVal 1 (fl n) ⟨#[]⟩, sVal 1 n 1 ⟨#[]⟩] w fun e w' => e = .returned (.bool true) ∧ Below w.heap.size w w' := by
  have ho := ord_self n h
  go_enter Tryz.func6, Tryz.ntmps6
  go_wp2_with (go_at_call 18; refine (of_num_x _ _ h).mono ?_; rintro e w1 ⟨rfl, rfl⟩)
  refine wp_loop_rounds 1 ?_
  rw [rounds_succ]
  go_wp2
  go_ret
  exact ⟨rfl, bal (bal (bal (bal (bal (bal (Below.refl _ _) _) _) _) _) _) _⟩

set_option maxHeartbeats 400000 in
theorem same_str (s : ByteArray) (w : World) :
    Calls Tryz.prog 6 #[vVal 2 0 s, sVal 2 0 0 s] w fun e w' => e = .returned (.bool true) ∧ Below w.heap.size w w' := by
  have ho : (FloatKind.f64.format.order 0 0 != some .eq) = false := by decide
  go_enter Tryz.func6, Tryz.ntmps6
  go_wp2_with (go_at_call 18; refine (of_str_x _ _).mono ?_; rintro e w1 ⟨rfl, rfl⟩)
  refine wp_loop_rounds 1 ?_
  rw [rounds_succ]
  go_wp2
  go_ret
  exact ⟨rfl, bal (bal (bal (bal (bal (bal (Below.refl _ _) _) _) _) _) _) _⟩
end

end Go.Proofs.YtafdhmpikkfepaaGreatDoor
