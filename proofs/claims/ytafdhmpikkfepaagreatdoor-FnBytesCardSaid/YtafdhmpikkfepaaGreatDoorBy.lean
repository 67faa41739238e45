import Derived.Test.YtafdhmpikkfepaaGreatDoorLawB
import Derived.Test.YtafdhmpikkfepaaGreatDoorMb
import Derived.Test.YtafdhmpikkfepaaGreatDoorLr
import Derived.Deep.DeepCutAuto
namespace Go.Proofs.YtafdhmpikkfepaaGreatDoor
open Go.RowKit Go.Sort

/-- the first n of a text, or all of it -/
def leftOf (s : ByteArray) (n : Nat) : ByteArray := if n < s.size then s.extract 0 n else s
/-- the last n of a text, or all of it -/
def rightOf (s : ByteArray) (n : Nat) : ByteArray := if n < s.size then s.extract (s.size - n) s.size else s

theorem leftb_any (pf lb e0 e1 n : Nat) (s : ByteArray) (w : World) (hn : n ≤ 1000) (hs : s.size ≤ 1000) (ha : Plain s) (hv : View w lb [e0, e1] [fStr s, fNum n]) :
    Calls Tryz.prog 76 #[ptr pf, .string ⟨#[76, 69, 70, 84, 66]⟩, ptr lb] w fun e w' => e = .returned (fStr (leftOf s n)) ∧ Below w.heap.size w w' := by
  unfold leftOf
  by_cases h : n < s.size
  · rw [if_pos h]
    exact leftb_lt pf lb e0 e1 n s w hn hs ha hv h
  · rw [if_neg h]
    exact leftb_ge pf lb e0 e1 n s w hn hs ha hv (by omega)

theorem rightb_any (pf lb e0 e1 n : Nat) (s : ByteArray) (w : World) (hn : n ≤ 1000) (hs : s.size ≤ 1000) (ha : Plain s) (hv : View w lb [e0, e1] [fStr s, fNum n]) :
    Calls Tryz.prog 76 #[ptr pf, .string ⟨#[82, 73, 71, 72, 84, 66]⟩, ptr lb] w fun e w' => e = .returned (fStr (rightOf s n)) ∧ Below w.heap.size w w' := by
  unfold rightOf
  by_cases h : n < s.size
  · rw [if_pos h]
    rcases Nat.eq_zero_or_pos n with h0 | h0
    · exact rightb_zero pf lb e0 e1 n s w hn hs ha hv h (Lib.hid h0)
    · exact rightb_lt pf lb e0 e1 n s w hn hs ha hv h h0
  · rw [if_neg h]
    exact rightb_ge pf lb e0 e1 n s w hn hs ha hv (by omega)

theorem lenbOf_any (g cap base : Nat) (s : ByteArray) (w : World) (hs : s.size ≤ 1000) (ha : Plain s)
    (hown : w.ownsRow base 26 4 (.slice (some ⟨g, 0, none⟩) 1 cap) 1 (rowOf ([s].map tArg))) :
    Calls Tryz.prog 21 #[.slice (some ⟨g, 0, none⟩) 1 cap] w fun e w' => e = .returned (vVal 1 (fl s.size) ⟨#[]⟩) ∧ Below w.heap.size w w' := by
  refine impl21 base g cap 1 [.inr s] (.inl s.size) w rfl (by omega) (by omega) ?_ hown ?_
  · intro a ha
    simp only [List.mem_cons, List.mem_nil_iff, or_false] at ha
    subst ha
    trivial
  · intro pf lb es W hW hV
    have hl : es.length = 1 := hV.len
    match es, hl, hV with
    | [e0], _, hV => exact lenb_any pf lb e0 s W hs ha hV

theorem leftbOf_any (g cap base n : Nat) (s : ByteArray) (w : World) (hn : n ≤ 1000) (hs : s.size ≤ 1000) (ha : Plain s)
    (hown : w.ownsRow base 26 4 (.slice (some ⟨g, 0, none⟩) 2 cap) 2 (rowOf [tArg s, nArg n])) :
    Calls Tryz.prog 22 #[.slice (some ⟨g, 0, none⟩) 2 cap] w fun e w' => e = .returned (vVal 2 0 (leftOf s n)) ∧ Below w.heap.size w w' := by
  refine impl22 base g cap 2 [.inr s, .inl n] (.inr (leftOf s n)) w rfl (by omega) (by omega) ?_ hown ?_
  · intro a ha
    simp only [List.mem_cons, List.mem_nil_iff, or_false] at ha
    rcases ha with rfl | rfl
    · trivial
    · show n < _; omega
  · intro pf lb es W hW hV
    have hl : es.length = 2 := hV.len
    match es, hl, hV with
    | [e0, e1], _, hV => exact LEFTB_any pf lb (leftOf s n) W (leftb_any pf lb e0 e1 n s _ hn hs ha (hV.below (bal (Below.refl _ _) _)))

theorem rightbOf_any (g cap base n : Nat) (s : ByteArray) (w : World) (hn : n ≤ 1000) (hs : s.size ≤ 1000) (ha : Plain s)
    (hown : w.ownsRow base 26 4 (.slice (some ⟨g, 0, none⟩) 2 cap) 2 (rowOf [tArg s, nArg n])) :
    Calls Tryz.prog 23 #[.slice (some ⟨g, 0, none⟩) 2 cap] w fun e w' => e = .returned (vVal 2 0 (rightOf s n)) ∧ Below w.heap.size w w' := by
  refine impl23 base g cap 2 [.inr s, .inl n] (.inr (rightOf s n)) w rfl (by omega) (by omega) ?_ hown ?_
  · intro a ha
    simp only [List.mem_cons, List.mem_nil_iff, or_false] at ha
    rcases ha with rfl | rfl
    · trivial
    · show n < _; omega
  · intro pf lb es W hW hV
    have hl : es.length = 2 := hV.len
    match es, hl, hV with
    | [e0, e1], _, hV => exact RIGHTB_any pf lb (rightOf s n) W (rightb_any pf lb e0 e1 n s _ hn hs ha (hV.below (bal (Below.refl _ _) _)))

theorem midbOf_any (g cap base f m : Nat) (s : ByteArray) (w : World) (hf : 1 ≤ f) (hf2 : f ≤ 1000) (hm : m ≤ 1000) (hs : s.size ≤ 1000) (ha : Plain s)
    (hown : w.ownsRow base 26 4 (.slice (some ⟨g, 0, none⟩) 3 cap) 3 (rowOf [tArg s, nArg f, nArg m])) :
    Calls Tryz.prog 20 #[.slice (some ⟨g, 0, none⟩) 3 cap] w fun e w' => e = .returned (vVal 2 0 (s.extract (f - 1) (f - 1 + m))) ∧ Below w.heap.size w w' := by
  obtain ⟨p, rfl⟩ : ∃ p, f = p + 1 := ⟨f - 1, by omega⟩
  rw [Nat.add_sub_cancel]
  refine impl20 base g cap 3 [.inr s, .inl (p + 1), .inl m] (.inr (s.extract p (p + m))) w rfl (by omega) (by omega) ?_ hown ?_
  · intro a ha
    simp only [List.mem_cons, List.mem_nil_iff, or_false] at ha
    rcases ha with rfl | rfl | rfl
    · trivial
    · show p + 1 < _; omega
    · show m < _; omega
  · intro pf lb es W hW hV
    have hl : es.length = 3 := hV.len
    match es, hl, hV with
    | [e0, e1, e2], _, hV => exact MIDB_any pf lb (s.extract p (p + m)) W (midb_any pf lb e0 e1 e2 p m s _ (by omega) hm hs ha (hV.below (bal (Below.refl _ _) _)))

theorem one_v1 (a : Int × Nat × ByteArray) : ∀ u ∈ vCells a, u.oneCell' = true := by
  intro u hu
  simp [vCells] at hu
  rcases hu with rfl | rfl | rfl | rfl <;> rfl

/-- what the law's kept count holds -/
def C4 (p n : Nat) (W : World) : Prop :=
  W.cell? ⟨p, 0, none⟩ = some (.int .i64 1) ∧ W.cell? ⟨p, 1, none⟩ = some (.float .f64 n) ∧ W.cell? ⟨p, 2, none⟩ = some (.string ⟨#[]⟩) ∧ W.cell? ⟨p, 3, none⟩ = some (.slice none 0 0)

theorem keep4 {w w' : World} {p n : Nat} (hb : Below w.heap.size w w') (m : p < w.heap.size) (h : C4 p n w) : C4 p n w' := by
  obtain ⟨h0, h1, h2, h3⟩ := h
  exact ⟨(hb.cell (p := ⟨p, 0, none⟩) m).trans h0, (hb.cell (p := ⟨p, 1, none⟩) m).trans h1, (hb.cell (p := ⟨p, 2, none⟩) m).trans h2, (hb.cell (p := ⟨p, 3, none⟩) m).trans h3⟩

/-- the beginning of an ending -/
theorem ext_ext (s : ByteArray) (p n : Nat) (h : p + n ≤ s.size) : (s.extract p s.size).extract 0 n = s.extract p (p + n) := by
  have h1 := mk_of_list (ext_list (s.extract p s.size) 0 n)
  have h2 := mk_of_list (ext_list s p (p + n))
  rw [h1, h2, ext_list, List.drop_zero, Nat.sub_zero, Nat.add_sub_cancel_left, List.take_take, Nat.min_eq_left (by omega)]
theorem ext_over (s : ByteArray) (p n : Nat) (h : s.size ≤ p + n) : s.extract p s.size = s.extract p (p + n) := by
  have h1 := mk_of_list (ext_list s p s.size)
  have h2 := mk_of_list (ext_list s p (p + n))
  rw [h1, h2, List.take_of_length_le (by rw [List.length_drop, size_data]; omega), List.take_of_length_le (by rw [List.length_drop, size_data]; omega)]
theorem ext_past (s : ByteArray) (p n : Nat) (h : s.size ≤ p) : (⟨#[]⟩ : ByteArray) = s.extract p (p + n) := by
  have h2 := mk_of_list (ext_list s p (p + n))
  rw [h2, List.drop_of_length_le (by rw [size_data]; omega), List.take_nil]

section
attribute [local go_sem] run_store_flt

theorem law5_big (s : ByteArray) (a b : Int) (w : World) (h : 2147483647 < s.size) :
    Calls Tryz.prog 5 #[.string s, .int .i64 a, .int .i64 b] w fun e w' => e = .returned (.bool true) ∧ Below w.heap.size w w' := by
  go_enter Tryz.func5, Tryz.ntmps5
  go_wp2_with fail
  go_ret
  exact ⟨rfl, Below.refl _ _⟩

set_option maxRecDepth 100000 in
set_option maxHeartbeats 1000000 in
theorem law5_out (s : ByteArray) (a b : Int) (w : World) (hs : s.size ≤ 2147483647) (h : 500 < s.size ∨ a < 1 ∨ 1000 < a ∨ b < 0 ∨ 1000 < b) :
    Calls Tryz.prog 5 #[.string s, .int .i64 a, .int .i64 b] w fun e w' => e = .returned (.bool true) ∧ Below w.heap.size w w' := by
  have h' : 500 < s.size ∨ (s.size ≤ 500 ∧ a < 1) ∨ (s.size ≤ 500 ∧ 1 ≤ a ∧ 1000 < a) ∨ (s.size ≤ 500 ∧ 1 ≤ a ∧ a ≤ 1000 ∧ b < 0) ∨ (s.size ≤ 500 ∧ 1 ≤ a ∧ a ≤ 1000 ∧ 0 ≤ b ∧ 1000 < b) := by omega
  clear h
  go_enter Tryz.func5, Tryz.ntmps5
  go_wp2_with fail
  refine (ascii_any s _ (by omega)).mono ?_
  rintro e w1 ⟨⟨r, rfl, hr⟩, rfl⟩
  clear hr
  cases r
  · go_wp2_with fail
    refine (lives_any _).mono ?_
    rintro e w2 ⟨rfl, hb2⟩
    go_wp2_with fail
    go_ret
    exact ⟨rfl, hb2⟩
  rcases h' with a1 | ⟨a0, a1⟩ | ⟨a0, a1, a2⟩ | ⟨a0, a1, a2, a3⟩ | ⟨a0, a1, a2, a3, a4⟩
  all_goals
    go_wp2_with fail
    refine (lives_any _).mono ?_
    rintro e w2 ⟨rfl, hb2⟩
    go_wp2_with fail
    go_ret
    exact ⟨rfl, hb2⟩
end

end Go.Proofs.YtafdhmpikkfepaaGreatDoor
