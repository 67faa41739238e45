import Derived.Test.YtafdhmpikkfepaaGreatDoorFm
import Derived.Test.YtafdhmpikkfepaaGreatDoorD2
import Derived.Test.YtafdhmpikkfepaaGreatDoorSame
import Derived.Deep.RegionWith
import Derived.Deep.Cut
import Derived.Deep.CutRange
import Derived.Deep.QuietTactic
import Derived.BigQuiet
import Derived.Deep.RegionHeld3
import Derived.Deep.AppendLies
namespace Go.Proofs.YtafdhmpikkfepaaGreatDoor
open Go.RowKit Go.Sort

theorem mem_all {s : ByteArray} {p : UInt8 → Prop} (h : ∀ i (hi : i < s.size), p s[i]) : ∀ c ∈ s.data.toList, p c := by
  intro c hc
  obtain ⟨i, hi, rfl⟩ := List.getElem_of_mem hc
  have hs : i < s.size := by rw [← size_data]; exact hi
  rw [get_data s i hs]
  exact h i hs

theorem all_mem {s : ByteArray} {p : UInt8 → Prop} (h : ∀ c ∈ s.data.toList, p c) : ∀ i (hi : i < s.size), p s[i] := by
  intro i hi
  rw [← get_data s i hi]
  exact h _ (List.getElem_mem _)

theorem two_new (w : World) (a b : Value) (t : TypeId) : (w.alloc (.cells #[a, b] t)).cell? ⟨w.heap.size, 0, none⟩ = some a ∧ (w.alloc (.cells #[a, b] t)).cell? ⟨w.heap.size, 1, none⟩ = some b := by
  simp

theorem one_new (w : World) (a : Value) (t : TypeId) : (w.alloc (.cells #[a] t)).cell? ⟨w.heap.size, 0, none⟩ = some a := by
  simp

theorem textArgs2 (a b : ByteArray) (w : World) :
    Calls Tryz.prog 15 #[.slice (some ⟨w.heap.size, 0, none⟩) 2 2] (w.alloc (.cells #[.string a, .string b] 9)) fun e w' =>
      ∃ g cap, e = .returned (.slice (some ⟨g, 0, none⟩) 2 cap) ∧ w'.ownsRow (w.heap.size + 1) 26 4 (.slice (some ⟨g, 0, none⟩) 2 cap) 2 (rowOf ([a, b].map tArg)) ∧ Below w.heap.size w w' := by
  refine (textArgs_any w.heap.size 2 [a, b] (w.alloc (.cells #[.string a, .string b] 9)) (by show 2 ≤ _; omega) (by simp) ?_).mono ?_
  · intro k hk
    match k, hk with
    | 0, _ => exact (two_new w _ _ 9).1
    | 1, _ => exact (two_new w _ _ 9).2
    | k + 2, hk => exact absurd hk (by simp)
  · rintro e w1 ⟨v, he, hown, hb1⟩
    obtain ⟨g, cap, hv, -, -⟩ := hown.form (by show 0 < 2; omega)
    subst hv
    have hsz : (w.alloc (.cells #[.string a, .string b] 9)).heap.size = w.heap.size + 1 := by simp
    rw [hsz] at hown
    exact ⟨g, cap, he, hown, btr (bal (Below.refl _ _) _) hb1⟩

theorem textArgs1 (a : ByteArray) (w : World) :
    Calls Tryz.prog 15 #[.slice (some ⟨w.heap.size, 0, none⟩) 1 1] (w.alloc (.cells #[.string a] 9)) fun e w' =>
      ∃ g cap, e = .returned (.slice (some ⟨g, 0, none⟩) 1 cap) ∧ w'.ownsRow (w.heap.size + 1) 26 4 (.slice (some ⟨g, 0, none⟩) 1 cap) 1 (rowOf ([a].map tArg)) ∧ Below w.heap.size w w' := by
  refine (textArgs_any w.heap.size 1 [a] (w.alloc (.cells #[.string a] 9)) (by show 1 ≤ _; omega) (by simp) ?_).mono ?_
  · intro k hk
    match k, hk with
    | 0, _ => exact one_new w _ 9
    | k + 1, hk => exact absurd hk (by simp)
  · rintro e w1 ⟨v, he, hown, hb1⟩
    obtain ⟨g, cap, hv, -, -⟩ := hown.form (by show 0 < 1; omega)
    subst hv
    have hsz : (w.alloc (.cells #[.string a] 9)).heap.size = w.heap.size + 1 := by simp
    rw [hsz] at hown
    exact ⟨g, cap, he, hown, btr (bal (Below.refl _ _) _) hb1⟩

/-- FIND of a part that stands in a text -/
theorem findOf_any (g cap base p : Nat) (sub s : ByteArray) (w : World) (hp0 : 0 < sub.size) (hm : s.size ≤ 1000) (hm2 : sub.size ≤ 1000) (ha : Plain s) (ht : Tame sub) (hf : FirstAt sub.data.toList s.data.toList 0 p)
    (hown : w.ownsRow base 26 4 (.slice (some ⟨g, 0, none⟩) 2 cap) 2 (rowOf ([sub, s].map tArg))) :
    Calls Tryz.prog 14 #[.slice (some ⟨g, 0, none⟩) 2 cap] w fun e w' => e = .returned (vVal 1 (fl (p + 1)) ⟨#[]⟩) ∧ Below w.heap.size w w' := by
  refine impl14 base g cap 2 [.inr sub, .inr s] (.inl (p + 1)) w rfl (by omega) (by omega) ?_ hown ?_
  · intro a ha
    simp only [List.mem_cons, List.mem_nil_iff, or_false] at ha
    rcases ha with rfl | rfl
    · trivial
    · trivial
  · intro pf lb es W hW hV
    have hl : es.length = 2 := hV.len
    match es, hl, hV with
    | [e0, e1], _, hV => exact FIND_any pf lb e0 e1 p sub s W hp0 hm hm2 ha ht hf hV

/-- MID of a text -/
theorem midOf_any (g cap base p m : Nat) (s : ByteArray) (w : World) (hp : p + m ≤ s.size) (hm1 : 1 ≤ m) (hm : s.size ≤ 1000) (ha : Plain s)
    (hown : w.ownsRow base 26 4 (.slice (some ⟨g, 0, none⟩) 3 cap) 3 (rowOf [tArg s, nArg (p + 1), nArg m])) :
    Calls Tryz.prog 17 #[.slice (some ⟨g, 0, none⟩) 3 cap] w fun e w' => e = .returned (vVal 2 0 (s.extract p (p + m))) ∧ Below w.heap.size w w' := by
  refine impl17 base g cap 3 [.inr s, .inl (p + 1), .inl m] (.inr (s.extract p (p + m))) w rfl (by omega) (by omega) ?_ hown ?_
  · intro a ha
    simp only [List.mem_cons, List.mem_nil_iff, or_false] at ha
    rcases ha with rfl | rfl | rfl
    · trivial
    · show p + 1 < _; omega
    · show m < _; omega
  · intro pf lb es W hW hV
    have hl : es.length = 3 := hV.len
    match es, hl, hV with
    | [e0, e1, e2], _, hV =>
      exact MID_any pf lb (s.extract p (p + m)) W (mid_any pf lb e0 e1 e2 p m s _ hp hm1 hm ha (hV.below (bal (Below.refl _ _) _)))

theorem first_b : FirstAt [98] [97, 98, 98] 0 1 :=
  .inr ⟨1, rfl, by decide, by decide, by decide, fun i _ hi => (by decide : ∀ i < 1, ¬ At [98] [97, 98, 98] i) i hi⟩

section
attribute [local go_sem] run_store_flt

theorem lives_any (w : World) : Calls Tryz.prog 13 #[] w fun e w' => e = .returned (.bool true) ∧ Below w.heap.size w w' := by
  have F := fun g cap base W => findOf_any g cap base 1 ⟨#[98]⟩ ⟨#[97, 98, 98]⟩ W (by decide) (by decide) (by decide) (by decide) (by decide) first_b
  have HF := Lib.hid F
  clear F
  go_enter Tryz.func13, Tryz.ntmps13
  go_wp2_with fail
  refine (textArgs2 ⟨#[98]⟩ ⟨#[97, 98, 98]⟩ w).mono ?_
  rintro e w1 ⟨g, cap, rfl, hown, hb1⟩
  have HO := Lib.hid hown
  clear hown
  go_wp2_with fail
  refine (HF.out g cap _ _ HO.out).mono ?_
  rintro e w2 ⟨rfl, hb2⟩
  have B2 := btr hb1 hb2
  go_wp2_with fail
  refine (int_any 2 _ (by omega) (by omega)).mono ?_
  rintro e w3 ⟨rfl, hb3⟩
  have B3 := btr B2 hb3
  go_wp2_with fail
  refine (same_num 2 _ (by omega)).mono ?_
  rintro e w4 ⟨rfl, hb4⟩
  go_wp2_with fail
  go_ret
  exact ⟨rfl, btr B3 hb4⟩
end

section
attribute [local go_sem] run_store_flt

theorem law4_big (a b c : ByteArray) (w : World) (h : 2147483647 < a.size ∨ 2147483647 < b.size ∨ 2147483647 < c.size) :
    Calls Tryz.prog 4 #[.string a, .string b, .string c] w fun e w' => e = .returned (.bool true) ∧ Below w.heap.size w w' := by
  have h' : 2147483647 < a.size ∨ (a.size ≤ 2147483647 ∧ 2147483647 < b.size) ∨ (a.size ≤ 2147483647 ∧ b.size ≤ 2147483647 ∧ 2147483647 < c.size) := by omega
  clear h
  rcases h' with a1 | ⟨a1, a2⟩ | ⟨a1, a2, a3⟩
  all_goals
    go_enter Tryz.func4, Tryz.ntmps4
    go_wp2_with fail
    go_ret
    exact ⟨rfl, Below.refl _ _⟩

theorem same_num_z (n : Nat) (z : Int) (w : World) (h : n < 9007199254740992) (hz : z = (n : Int)) :
    Calls Tryz.prog 6 #[vVal 1 (fl n) ⟨#[]⟩, sVal 1 z 1 ⟨#[]⟩] w fun e w' => e = .returned (.bool true) ∧ Below w.heap.size w w' := by
  subst hz
  exact same_num n w h

/-- what the law's two kept variables hold -/
def C9 (p q n : Nat) (t : ByteArray) (W : World) : Prop :=
  W.cell? ⟨p, 0, none⟩ = some (.int .i64 1) ∧ W.cell? ⟨p, 1, none⟩ = some (.float .f64 n) ∧ W.cell? ⟨p, 2, none⟩ = some (.string ⟨#[]⟩) ∧ W.cell? ⟨p, 3, none⟩ = some (.slice none 0 0) ∧
  W.cell? ⟨q, 0, none⟩ = some (.int .i64 2) ∧ W.cell? ⟨q, 1, none⟩ = some (.int .i64 0) ∧ W.cell? ⟨q, 2, none⟩ = some (.int .i64 0) ∧ W.cell? ⟨q, 3, none⟩ = some (.string t) ∧ W.cell? ⟨q, 4, none⟩ = some (.slice none 0 0)

theorem keep9 {w w' : World} {p q n : Nat} {t : ByteArray} (hb : Below w.heap.size w w') (m : p < w.heap.size) (k : q < w.heap.size) (h : C9 p q n t w) : C9 p q n t w' := by
  obtain ⟨h0, h1, h2, h3, h4, h5, h6, h7, h8⟩ := h
  exact ⟨(hb.cell (p := ⟨p, 0, none⟩) m).trans h0, (hb.cell (p := ⟨p, 1, none⟩) m).trans h1, (hb.cell (p := ⟨p, 2, none⟩) m).trans h2, (hb.cell (p := ⟨p, 3, none⟩) m).trans h3,
    (hb.cell (p := ⟨q, 0, none⟩) k).trans h4, (hb.cell (p := ⟨q, 1, none⟩) k).trans h5, (hb.cell (p := ⟨q, 2, none⟩) k).trans h6, (hb.cell (p := ⟨q, 3, none⟩) k).trans h7, (hb.cell (p := ⟨q, 4, none⟩) k).trans h8⟩

theorem of_num_z (n : Nat) (z : Int) (w : World) (h : n < 9007199254740992) (hz : z = (n : Int)) :
    Calls Tryz.prog 18 #[sVal 1 z 1 ⟨#[]⟩] w fun e w' => e = .returned (vVal 1 (fl n) ⟨#[]⟩) ∧ Below w.heap.size w w' := by
  subst hz
  exact of_num n w h

theorem one_v2 (a b : Int × Nat × ByteArray) : ∀ u ∈ vCells a ++ vCells b, u.oneCell' = true := by
  intro u hu
  simp [vCells] at hu
  rcases hu with rfl | rfl | rfl | rfl | rfl | rfl | rfl | rfl <;> rfl

/-- an append that a guard may hold back, at a step of a region that draws its order -/
theorem step_append_g {P : Program} {w : World} {ops : Array Oper} {o : Oper} {a : Act} {K : Act → World → Prop} {Q : Exit → Act → World → Prop} {E : Prop} (hw : Region.wanted o (yielded ops a.tmps) = true) (s x : Operand) (t : TypeId)
    (ho : o.op = .call { callee := .builtin .append, args := #[s, x], argTypes := #[t, t] })
    (base : Nat) (e : TypeId) (i : TypeInfo) (z : Value) (size bytes : Nat) (ht : P.underlying t = some (.slice e)) (hi : P.info? e = some i) (hz : i.zero = some z)
    (hsize : i.size = size) (hby : i.bytes = bytes) (hzs : z.cells.size = size) (hsz : 0 < size)
    (v : Value) (n : Nat) (xs : List Value) (hs : a.eval s = v) (hown : w.ownsRow base e size v n xs)
    (ad : Addr) (m c : Nat) (news : List Value) (hx : a.eval x = .slice (some ad) m c) (hl : news.length = m * size) (hnews : ∀ j u, news[j]? = some u → w.cell? (ad.add j) = some u) (h1 : ∀ u ∈ news, u.oneCell' = true)
    (hm : 0 < m) (h63 : n + m ≤ maxLen) (hbytes : (n + m) * bytes ≤ 140737488355328) (hbase : base ≤ w.heap.size) (H : Nat) (hH : w.heap.size = H)
    (h : ∀ g cap w', w'.ownsRow base e size (.slice (some ⟨g, 0, none⟩) (n + m) cap) (n + m) (xs ++ news) → w.grownBy w' v.ownBlock → (v.ownBlock = some g ∨ g = H) → g < w'.heap.size → K (a.put o.dst (.slice (some ⟨g, 0, none⟩) (n + m) cap)) w') :
    if Region.wanted o (yielded ops a.tmps) = true then Oper.wp P o a w K Q else E := by
  rw [if_pos hw]
  exact wp_append_lies w s x t ho base e i z size bytes ht hi hz hsize hby hzs hsz v n xs hs hown ad m c news hx hl hnews h1 hm h63 hbytes hbase H hH h

theorem size_app (a b : ByteArray) : (a ++ b).size = a.size + b.size := by simp

set_option maxRecDepth 100000 in
set_option maxHeartbeats 1000000 in
theorem law4_in (a b c : ByteArray) (w : World) (h1 : a.size ≤ 2147483647) (h2 : b.size ≤ 2147483647) (h3 : c.size ≤ 2147483647) :
    Calls Tryz.prog 4 #[.string a, .string b, .string c] w fun e w' => e = .returned (.bool true) ∧ Below w.heap.size w w' := by
  have n1 : ¬ 9223372036854775807 < a.size + b.size := by omega
  have n2 : ¬ 9223372036854775807 < (a ++ b).size + c.size := by rw [size_app]; omega
  have n3 : ¬ 9223372036854775807 < a.size + b.size + c.size := by omega
  have hsz : (a ++ b ++ c).size = a.size + b.size + c.size := by rw [size_app, size_app]
  have HF := Lib.hid (at_mid a.data.toList b.data.toList c.data.toList)
  obtain ⟨s, hs⟩ : ∃ s, a ++ b ++ c = s := ⟨_, rfl⟩
  have hsm : s.size ≤ 6442450941 := by rw [← hs, hsz]; omega
  go_enter Tryz.func4, Tryz.ntmps4
  go_wp2_with fail
  refine (plain_any s _ (by omega)).mono ?_
  rintro e w1 ⟨⟨r, rfl, hr⟩, rfl⟩
  have HRr := Lib.hid hr
  clear hr
  cases r
  · go_wp2_with fail
    refine (lives_any _).mono ?_
    rintro e w2 ⟨rfl, hb2⟩
    go_wp2_with fail
    go_ret
    exact ⟨rfl, hb2⟩
  obtain ⟨hT, h200, hA⟩ := HRr.out rfl
  have HT : Hid (Tame b) := Lib.hid (all_mem (s := b) (p := fun c => c.toNat ≠ 42 ∧ c.toNat ≠ 63 ∧ c.toNat ≠ 126) (fun x hx => mem_all (s := s) (p := fun c => c.toNat ≠ 42 ∧ c.toNat ≠ 63 ∧ c.toNat ≠ 126) hT x (by rw [← hs]; simp [hx])))
  have HP : Hid (Plain s) := Lib.hid (fun i hi => by have := hA i hi; omega)
  clear hT hA HRr
  rcases Nat.eq_zero_or_pos b.size with hb0 | hb0
  · have hbe : b.toList.isEmpty = true := by
      rw [bytes_toList]
      have : b.data.toList = [] := List.eq_nil_of_length_eq_zero (by rw [size_data]; exact hb0)
      rw [this]
      rfl
    go_wp2_with fail
    refine (lives_any _).mono ?_
    rintro e w2 ⟨rfl, hb2⟩
    go_wp2_with fail
    go_ret
    exact ⟨rfl, hb2⟩
  have hbe := eq_nonempty b hb0
  have hbs : b.size ≤ s.size := by rw [← hs, hsz]; omega
  go_wp2_with fail
  refine (findAt_any s b _ (by omega) (by omega)).mono ?_
  rintro e w2 ⟨⟨n, rfl, hn⟩, rfl⟩
  have HN := Lib.hid hn
  clear hn
  by_cases hna : n = a.size
  · subst hna
    have hq : ((a.size : Int) != (a.size : Int)) = false := by simp
    go_wp2_with fail
    refine (textArgs2 b s w).mono ?_
    rintro e w1 ⟨g, cap, rfl, hown, hb1⟩
    have HO := Lib.hid hown
    clear hown
    go_wp2_with fail
    refine (findOf_any g cap _ a.size b s _ hb0 (by omega) (by omega) HP.out HT.out HN.out HO.out).mono ?_
    rintro e w2 ⟨rfl, hb2⟩
    have B2 := btr hb1 hb2
    go_wp2_with fail
    refine (str_any _ _).mono ?_
    rintro e w3 ⟨rfl, hb3⟩
    have B3 := btr (bal B2 _) hb3
    rcases Nat.eq_zero_or_pos c.size with hc0 | hc0
    · have hce : c.toList.isEmpty = true := by
        rw [bytes_toList]
        have : c.data.toList = [] := List.eq_nil_of_length_eq_zero (by rw [size_data]; exact hc0)
        rw [this]
        rfl
      go_wp2_with fail
      have h8 := keep_al (keep_blk hb3 (heap_alloc_new w2 _)) (sBox 2 0 0 b)
      have h9 := heap_alloc_new w3 (sBox 2 0 0 b)
      have l8 := heap_lt h8
      have l9 := heap_lt h9
      have a0 := cell_at h8 0
      have a1 := cell_at h8 1
      have a2 := cell_at h8 2
      have a3 := cell_at h8 3
      have d0 := cell_at h9 0
      have d1 := cell_at h9 1
      have d2 := cell_at h9 2
      have d3 := cell_at h9 3
      have d4 := cell_at h9 4
      have BV := bal B3 (sBox 2 0 0 b)
      obtain ⟨V, hV⟩ : ∃ V, w3.alloc (sBox 2 0 0 b) = V := ⟨_, rfl⟩
      rw [hV] at a0 a1 a2 a3 l8 BV ⊢
      clear h8 h9 d0 d1 d2 d3 d4 l9 hV
      have x1 : IntKind.i64.wrap ((a.size : Int) + 1) = (a.size : Int) + 1 := by rw [IntKind.wrap_i64]; omega
      go_region_held3 (fun W => W.cell? ⟨w2.heap.size, 0, none⟩ = some (.int .i64 1) ∧ W.cell? ⟨w2.heap.size, 1, none⟩ = some (.float .f64 (fl (a.size + 1))) ∧ W.cell? ⟨w2.heap.size, 2, none⟩ = some (.string ⟨#[]⟩) ∧ W.cell? ⟨w2.heap.size, 3, none⟩ = some (.slice none 0 0))
        (first
          | exact ⟨a0, a1, a2, a3⟩
          | assumption
          | (refine ⟨?_, ?_, ?_, ?_⟩ <;> assumption)
          | (go_split_ands
             refine ⟨?_, ?_, ?_, ?_⟩ <;> assumption)
          | (go_split_ands
             refine ⟨?_, ?_, ?_, ?_⟩ <;> (refine (hbA.cell (p := ⟨w2.heap.size, _, none⟩) (show w2.heap.size < _ from l8)).trans ?_; assumption))
          | (go_split_ands
             refine ⟨?_, ?_, ?_, ?_⟩ <;> (refine (hbB.cell (p := ⟨w2.heap.size, _, none⟩) (show w2.heap.size < _ from Nat.lt_of_lt_of_le l8 lA)).trans ?_; assumption))
          | (go_split_ands
             refine ⟨?_, ?_, ?_, ?_⟩ <;> (refine (hbC.cell (p := ⟨w2.heap.size, _, none⟩) (show w2.heap.size < _ from Nat.lt_of_lt_of_le (Nat.lt_of_lt_of_le l8 lA) lB)).trans ?_; assumption)))
        (first
          | (go_at_call 16; refine (int_any _ _ (by omega) (by omega)).mono ?_; rintro e wA ⟨rfl, hbA⟩; have lA : V.heap.size ≤ wA.heap.size := hbA.size)
          | (go_at_call 6; refine (same_num_z (a.size + 1) _ _ (by omega) (by omega)).mono ?_; rintro e wB ⟨rfl, hbB⟩; have lB : wA.heap.size ≤ wB.heap.size := hbB.size)
          | (go_at_call 13; refine (lives_any _).mono ?_; rintro e wC ⟨rfl, hbC⟩))
      clear x1
      go_wp2_with fail
      go_ret
      exact ⟨rfl, btr (btr (btr BV (below_ofdrew hbA)) hbB) hbC⟩
    · have hce := eq_nonempty c hc0
      go_wp2_with fail
      have h8 := keep_al (keep_blk hb3 (heap_alloc_new w2 _)) (sBox 2 0 0 b)
      have h9 := heap_alloc_new w3 (sBox 2 0 0 b)
      have l8 := heap_lt h8
      have l9 := heap_lt h9
      have a0 := cell_at h8 0
      have a1 := cell_at h8 1
      have a2 := cell_at h8 2
      have a3 := cell_at h8 3
      have d0 := cell_at h9 0
      have d1 := cell_at h9 1
      have d2 := cell_at h9 2
      have d3 := cell_at h9 3
      have d4 := cell_at h9 4
      have BV := bal B3 (sBox 2 0 0 b)
      obtain ⟨V, hV⟩ : ∃ V, w3.alloc (sBox 2 0 0 b) = V := ⟨_, rfl⟩
      rw [hV] at a0 a1 a2 a3 d0 d1 d2 d3 d4 l8 l9 BV ⊢
      clear h8 h9 hV
      obtain ⟨i0, hi, hz0, hz1, hz2⟩ := info_parts Tryz.info26
      have hat : s.extract a.size (a.size + b.size) = b := by
        have h := HF.out
        unfold At at h
        have e := mk_of_list (ext_list s a.size (a.size + b.size))
        rw [e, Nat.add_sub_cancel_left]
        have e2 : s.data.toList = a.data.toList ++ b.data.toList ++ c.data.toList := by rw [← hs]; simp
        rw [size_data, size_data] at h
        rw [e2, h]
      have hbn : a.size + b.size ≤ s.size := by rw [← hs, hsz]; omega
      have S0 : Hid (C9 w2.heap.size w3.heap.size (fl (a.size + 1)) b V) := ⟨a0, a1, a2, a3, d0, d1, d2, d3, d4⟩
      clear a0 a1 a2 a3 d0 d1 d2 d3 d4
      have x1 : IntKind.i64.wrap ((a.size : Int) + 1) = (a.size : Int) + 1 := by rw [IntKind.wrap_i64]; omega
      go_region_held3 (fun W => W.cell? ⟨w2.heap.size, 0, none⟩ = some (.int .i64 1) ∧ W.cell? ⟨w2.heap.size, 1, none⟩ = some (.float .f64 (fl (a.size + 1))) ∧ W.cell? ⟨w2.heap.size, 2, none⟩ = some (.string ⟨#[]⟩) ∧ W.cell? ⟨w2.heap.size, 3, none⟩ = some (.slice none 0 0) ∧
          W.cell? ⟨w3.heap.size, 0, none⟩ = some (.int .i64 2) ∧ W.cell? ⟨w3.heap.size, 1, none⟩ = some (.int .i64 0) ∧ W.cell? ⟨w3.heap.size, 2, none⟩ = some (.int .i64 0) ∧ W.cell? ⟨w3.heap.size, 3, none⟩ = some (.string b) ∧ W.cell? ⟨w3.heap.size, 4, none⟩ = some (.slice none 0 0))
        (first
          | exact S0.out
          | exact SA.out
          | exact SB.out
          | exact keep9 (bal (Below.refl _ wB) _) mB kB SB.out
          | exact SC.out
          | exact SD.out
          | exact SE.out
          | exact keep9 (bal (Below.refl _ wE) _) mE kE SE.out
          | exact SF.out
          | exact SG.out
          | exact SH.out
          | exact SI.out)
        (first
          | (go_at_call 16; have _ := HO1; refine (int_any _ _ (by omega) (by omega)).mono ?_; rintro e wD ⟨rfl, hbD⟩
             have SD := Lib.hid (keep9 hbD mC kC SC.out)
             have mD := Nat.lt_of_lt_of_le mC hbD.size
             have kD := Nat.lt_of_lt_of_le kC hbD.size)
          | (go_at_call 16; refine (int_any _ _ (by omega) (by omega)).mono ?_; rintro e wA ⟨rfl, hbA'⟩
             have hbA : Below V.heap.size V wA := below_ofdrew hbA'
             have SA := Lib.hid (keep9 hbA l8 l9 S0.out)
             have mA := Nat.lt_of_lt_of_le l8 hbA.size
             have kA := Nat.lt_of_lt_of_le l9 hbA.size)
          | (go_at_call 6; have _ := HO3; (try rw [hat]); refine (same_str b _).mono ?_; rintro e wH ⟨rfl, hbH⟩
             have SH := Lib.hid (keep9 hbH mG kG SG.out)
             have mH := Nat.lt_of_lt_of_le mG hbH.size
             have kH := Nat.lt_of_lt_of_le kG hbH.size)
          | (go_at_call 6; refine (same_num_z (a.size + 1) _ _ (by omega) (by omega)).mono ?_; rintro e wB ⟨rfl, hbB⟩
             have SB := Lib.hid (keep9 hbB mA kA SA.out)
             have mB := Nat.lt_of_lt_of_le mA hbB.size
             have kB := Nat.lt_of_lt_of_le kA hbB.size)
          | (go_at_call 15; refine (textArgs1 s wB).mono ?_; rintro e wC ⟨g1, cap1, rfl, hown1, hbC⟩
             have HO1 := Lib.hid hown1
             clear hown1
             have SC := Lib.hid (keep9 hbC mB kB SB.out)
             have mC := Nat.lt_of_lt_of_le mB hbC.size
             have kC := Nat.lt_of_lt_of_le kB hbC.size)
          | (go_at_call 18; refine (of_num_z b.size _ _ (by omega) rfl).mono ?_; rintro e wE ⟨rfl, hbE⟩
             have SE := Lib.hid (keep9 hbE mD kD SD.out)
             have mE := Nat.lt_of_lt_of_le mD hbE.size
             have kE := Nat.lt_of_lt_of_le kD hbE.size
             have BE : Below wB.heap.size wB wE := btr (btr hbC hbD) hbE
             have HO2 := Lib.hid (own_below (own_below HO1.out hbD) hbE))
          | (refine step_append_g (by rfl) _ _ 28 (by rfl) (wB.heap.size + 1) 26 i0 _ 4 56 Tryz.underlying28 hi hz0 hz1 hz2 rfl (by omega) _ 1 _ (by rfl) (HO2.out.alloc _)
               ⟨wE.heap.size, 0, none⟩ 2 2 (vCells (1, fl (a.size + 1), ⟨#[]⟩) ++ vCells (1, fl b.size, ⟨#[]⟩)) (by rfl) (by rfl) (World.news_of_block (heap_alloc_new wE _)) (one_v2 _ _) (by omega) (by decide) (by decide) (by rw [hsz_alloc]; have := BE.size; omega) _ rfl ?_
             intro g2 cap2 wF hown2 hgF _ _
             have HO3 := Lib.hid hown2
             have hbF : Below wB.heap.size wB wF := grown_below (bal BE _) (HO2.out.alloc _) hgF (Nat.le_succ _)
             clear hown2 hgF
             have SF := Lib.hid (keep9 hbF mB kB SB.out)
             have mF := Nat.lt_of_lt_of_le mB hbF.size
             have kF := Nat.lt_of_lt_of_le kB hbF.size)
          | (go_at_call 17; refine (midOf_any g2 cap2 _ a.size b.size s _ hbn hb0 (by omega) HP.out HO3.out).mono ?_; rintro e wG ⟨rfl, hbG⟩
             have SG := Lib.hid (keep9 hbG mF kF SF.out)
             have mG := Nat.lt_of_lt_of_le mF hbG.size
             have kG := Nat.lt_of_lt_of_le kF hbG.size)
          | (go_at_call 13; refine (lives_any _).mono ?_; rintro e wI ⟨rfl, hbI⟩
             have SI := Lib.hid (keep9 hbI mH kH SH.out)))
      clear x1
      go_wp2_with fail
      go_ret
      exact ⟨rfl, btr (btr (btr (btr (btr (btr BV hbA) hbB) hbF) hbG) hbH) hbI⟩
  · have hq : (n != (a.size : Int)) = true := by simpa using hna
    go_wp2_with fail
    refine (lives_any _).mono ?_
    rintro e w2 ⟨rfl, hb2⟩
    go_wp2_with fail
    go_ret
    exact ⟨rfl, hb2⟩

theorem law4_any (a b c : ByteArray) (w : World) :
    Calls Tryz.prog 4 #[.string a, .string b, .string c] w fun e w' => e = .returned (.bool true) ∧ Below w.heap.size w w' := by
  by_cases h : 2147483647 < a.size ∨ 2147483647 < b.size ∨ 2147483647 < c.size
  · exact law4_big a b c w h
  · exact law4_in a b c w (by omega) (by omega) (by omega)
end

end Go.Proofs.YtafdhmpikkfepaaGreatDoor
