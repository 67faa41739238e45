import Derived.Test.YtafdhmpikkfepaaGreatDoorFa
namespace Go.Proofs.YtafdhmpikkfepaaGreatDoor
open Go.RowKit Go.Sort

section
attribute [local go_sem] run_store_flt run_assert

theorem eq_nonempty (a : ByteArray) (h : 0 < a.size) : a.toList.isEmpty = false := by
  rw [bytes_toList]
  rw [← size_data] at h
  cases hl : a.data.toList with
  | nil => rw [hl] at h; exact absurd h (Nat.lt_irrefl 0)
  | cons x l => rfl

set_option maxRecDepth 100000 in
theorem find1_any (sub s : ByteArray) (p b1 b2 b3 b4 : Nat) (w : World) (hp0 : 0 < sub.size) (hm : s.size ≤ 1000) (hm2 : sub.size ≤ 1000) (ha : Plain s) (ht : Tame sub) (hf : FirstAt sub.data.toList s.data.toList 0 p)
    (c1 : w.cell? ⟨b1, 0, none⟩ = some (.int .i64 1)) (c2 : w.cell? ⟨b2, 0, none⟩ = some (.bool false)) (c3 : w.cell? ⟨b3, 0, none⟩ = some (.string s)) (c4 : w.cell? ⟨b4, 0, none⟩ = some (.bool false))
    (l1 : b1 < w.heap.size) (l2 : b2 < w.heap.size) (l3 : b3 < w.heap.size) (l4 : b4 < w.heap.size) :
    Calls Tryz.prog 96 #[.string sub, ptr b1, ptr b2, ptr b3, ptr b4] w fun e w' => e = .returned (fNum (p + 1)) ∧ Below w.heap.size w w' := by
  have he := eq_nonempty sub hp0
  have hpl : p ≤ s.size := by
    rcases hf with ⟨h, _⟩ | ⟨m, h, _, h2, h3, h4⟩
    · omega
    · rw [size_data, size_data] at h2; omega
  have C1 := fun W => match_any sub s p W hp0 hm hm2 ha ht hf
  have D1 := Lib.hid C1
  clear C1 ha ht hf
  go_enter Tryz.func96, Tryz.ntmps96
  go_wp2_with fail
  refine (D1.out _).mono ?_
  rintro e w1 ⟨rfl, hb1⟩
  have B1 := btr (bal (Below.refl _ w) _) hb1
  have c41 : w1.cell? ⟨b4, 0, none⟩ = some (.bool false) := (B1.cell (p := ⟨b4, 0, none⟩) l4).trans c4
  have l41 : b4 < w1.heap.size := by have := hb1.size; simp at this; omega
  have hR : w1.heap[w.heap.size]? = some (fBox 0 ⟨#[]⟩ false ⟨#[]⟩ 0) := keep_blk hb1 (heap_alloc_new w _)
  have lR : w.heap.size < w1.heap.size := heap_lt hR
  have cR := fun o => cell_at hR o
  have fR := fun o => free_at hR o
  clear c1 c2 c3 c4
  go_wp2_with fail
  rw [show ((p : Int) + 1) = ((p + 1 : Nat) : Int) by omega, fl_int]
  refine (num_any (p + 1) _ (by omega)).mono ?_
  rintro e w2 ⟨rfl, rfl⟩
  go_wp2_with fail
  have HC := Lib.hid hR
  clear hR
  refine bodyPost_ret (v := fNum (p + 1)) ?_ rfl ⟨rfl, ?_⟩
  · have hT : ((setTen w1 w.heap.size (fl (p + 1)) ⟨#[]⟩ false ⟨#[]⟩ 1).alloc (nBox (p + 1))).heap[w.heap.size]? = some (nBox (p + 1)) := keep_al (setTen_heap HC.out) _
    change Sem.run Tryz.prog (results Tryz.f96 _) ((setTen w1 w.heap.size (fl (p + 1)) ⟨#[]⟩ false ⟨#[]⟩ 1).alloc (nBox (p + 1))) = Result.ok _ ((setTen w1 w.heap.size (fl (p + 1)) ⟨#[]⟩ false ⟨#[]⟩ 1).alloc (nBox (p + 1)))
    generalize (setTen w1 w.heap.size (fl (p + 1)) ⟨#[]⟩ false ⟨#[]⟩ 1).alloc (nBox (p + 1)) = W at hT ⊢
    have cT := fun o => cell_at hT o
    clear hT
    simp [results, Tryz.results96, go_sem, cT]
  · exact bal (B1.trans (setTen_below w1 w.heap.size w.heap.size (fl (p + 1)) ⟨#[]⟩ false ⟨#[]⟩ 1 (Nat.le_refl _))) _
end

theorem hsz_alloc (w : World) (o : Obj) : (w.alloc o).heap.size = w.heap.size + 1 := by simp

section
attribute [local go_sem] run_store_flt run_assert

set_option maxRecDepth 100000 in
set_option maxHeartbeats 1000000 in
theorem find_any (pf lb e0 e1 p : Nat) (sub s : ByteArray) (w : World) (hp0 : 0 < sub.size) (hm : s.size ≤ 1000) (hm2 : sub.size ≤ 1000) (ha : Plain s) (ht : Tame sub) (hf : FirstAt sub.data.toList s.data.toList 0 p) (hv : View w lb [e0, e1] [fStr sub, fStr s]) :
    Calls Tryz.prog 73 #[ptr pf, .string ⟨#[70, 73, 78, 68]⟩, ptr lb] w fun e w' => e = .returned (fNum (p + 1)) ∧ Below w.heap.size w w' := by
  have k0 : w.cell? ⟨e0, 3, none⟩ = some (.iface 67 (fStr sub)) := (hv.cell 0 e0 rfl).1
  have k1 : w.cell? ⟨e1, 3, none⟩ = some (.iface 67 (fStr s)) := (hv.cell 1 e1 rfl).1
  have l0 := (hv.cell 0 e0 rfl).2
  have l1 := (hv.cell 1 e1 rfl).2
  have HV := Lib.hid hv
  have hpl : p ≤ s.size := by
    rcases hf with ⟨h, _⟩ | ⟨m, h, _, h2, h3, h4⟩
    · omega
    · rw [size_data, size_data] at h2; omega
  have D1 := Lib.hid (fun b1 b2 b3 b4 W => find1_any sub s p b1 b2 b3 b4 W hp0 hm hm2 ha ht hf)
  clear hv ha ht hf
  have cv1 : ∀ W, (convert 23 3 (.float .f64 4607182418800017408)).run Tryz.prog W = .ok (.int .i64 1) W := by
    have := conv_fl 1 (by omega)
    rw [fl_one] at this
    exact this
  go_enter Tryz.func73, Tryz.ntmps73
  go_wp2_with fail
  refine (prepFind_any pf lb e0 e1 sub s _ (HV.out.below (bal (Below.refl _ _) _))).mono ?_
  rintro e w1 ⟨⟨g, rfl, hg⟩, hb1⟩
  have B1 := btr (bal (Below.refl _ w) _) hb1
  have q0 : w1.cell? ⟨e0, 3, none⟩ = some (.iface 67 (fStr sub)) := (B1.cell (p := ⟨e0, 3, none⟩) l0).trans k0
  have q1 : w1.cell? ⟨e1, 3, none⟩ = some (.iface 67 (fStr s)) := (B1.cell (p := ⟨e1, 3, none⟩) l1).trans k1
  have n0 : e0 < w1.heap.size := Nat.lt_of_lt_of_le l0 B1.size
  have n1 : e1 < w1.heap.size := Nat.lt_of_lt_of_le l1 B1.size
  clear k0 k1
  have HR := Lib.hid (keep_blk hb1 (heap_alloc_new w _))
  have HG := Lib.hid hg
  have lg := heap_lt hg
  clear hg
  go_wp2_with fail
  refine (front_any lb _ _ _ _ (HV.out.below (bal B1 _))).mono ?_
  rintro e w2 ⟨rfl, rfl⟩
  go_wp2_with fail
  refine (front_any lb _ _ _ _ (HV.out.below (bal (bal B1 _) _))).mono ?_
  rintro e w2 ⟨rfl, rfl⟩
  go_wp2_with fail
  refine (next_any lb 0 e0 e1 _ _ _ (HV.out.below (bal (bal B1 _) _)) rfl rfl).mono ?_
  rintro e w2 ⟨rfl, rfl⟩
  go_wp2_with fail
  refine (val_str _ _).mono ?_
  rintro e w2 ⟨rfl, hb2⟩
  have B2 := btr (bal (bal B1 _) _) hb2
  have h7 : w2.heap[w1.heap.size]? = some (lBox g) := keep_blk hb2 (keep_al (heap_alloc_new w1 _) _)
  have h8 : w2.heap[w1.heap.size + 1]? = some (fBox 0 sub false ⟨#[]⟩ 2) := keep_blk hb2 (by have := heap_alloc_new (w1.alloc (lBox g)) (fBox 0 sub false ⟨#[]⟩ 2); simpa using this)
  have hg : w2.heap[g]? = some (.cells #[.string ⟨#[]⟩, .float .f64 4607182418800017408, .string ⟨#[]⟩, .slice none 0 0, .slice none 0 0, .bool false, .string ⟨#[]⟩, .int .u8 1, .pointer none, .pointer none] 67) := keep_blk hb2 (keep_al (keep_al HG.out _) _)
  have HR := Lib.hid (keep_blk hb2 (keep_al (keep_al HR.out _) _))
  have c7 := fun o => cell_at h7 o
  have c8 := fun o => cell_at h8 o
  have cg := fun o => cell_at hg o
  have l7 := heap_lt h7
  have l8 := heap_lt h8
  have lg2 := heap_lt hg
  have l71 : w1.heap.size < w2.heap.size + 1 := by omega
  have lg1 : g < w2.heap.size + 1 := by omega
  have l81 : w1.heap.size + 1 < w2.heap.size + 1 := by omega
  have l82 : w1.heap.size + 1 < w2.heap.size + 1 + 1 := by omega
  have l83 : w1.heap.size + 1 < w2.heap.size + 1 + 1 + 1 := by omega
  have l84 : w1.heap.size + 1 < w2.heap.size + 1 + 1 + 1 + 1 := by omega
  clear h7 h8 hg q0 q1 n0 n1 lg
  go_wp2_with fail
  refine (val_str _ _).mono ?_
  rintro e w3 ⟨rfl, hb3⟩
  obtain ⟨z, hz⟩ : ∃ z, w2.heap.size = z := ⟨_, rfl⟩
  have hsz : z + 4 ≤ w3.heap.size := by have := hb3.size; simp at this; omega
  have B3 := btr (bal (bal (bal (bal B2 _) _) _) _) hb3
  have HR := Lib.hid (keep_blk hb3 (keep_al (keep_al (keep_al (keep_al HR.out _) _) _) _))
  have a9 : w3.cell? ⟨z, 0, none⟩ = some (.string s) := by
    rw [← hz]
    exact cell_at (keep_blk hb3 (keep_al (keep_al (keep_al (heap_alloc_new w2 _) _) _) _)) 0
  have a10 : w3.cell? ⟨z + 1, 0, none⟩ = some (.int .i64 1) := by
    have h := heap_alloc_new (w2.alloc (.cells #[.string s] 9)) (.cells #[.int .i64 1] 3)
    rw [hsz_alloc, hz] at h
    exact cell_at (keep_blk hb3 (keep_al (keep_al h _) _)) 0
  have a11 : w3.cell? ⟨z + 1 + 1, 0, none⟩ = some (.bool false) := by
    have h := heap_alloc_new ((w2.alloc (.cells #[.string s] 9)).alloc (.cells #[.int .i64 1] 3)) (.cells #[.bool false] 4)
    rw [hsz_alloc, hsz_alloc, hz] at h
    exact cell_at (keep_blk hb3 (keep_al h _)) 0
  have a12 : w3.cell? ⟨z + 1 + 1 + 1, 0, none⟩ = some (.bool false) := by
    have h := heap_alloc_new (((w2.alloc (.cells #[.string s] 9)).alloc (.cells #[.int .i64 1] 3)).alloc (.cells #[.bool false] 4)) (.cells #[.bool false] 4)
    rw [hsz_alloc, hsz_alloc, hsz_alloc, hz] at h
    exact cell_at (keep_blk hb3 h) 0
  clear hb3 l71 lg1 l81 l82 l83 l84 c7 c8 cg
  rw [hz]
  go_wp2_with fail
  refine (D1.out (z + 1) (z + 1 + 1 + 1) z (z + 1 + 1) w3 a10 a12 a9 a11 (by omega) (by omega) (by omega) (by omega)).mono ?_
  rintro e w4 ⟨rfl, hb4⟩
  have B4 := btr B3 hb4
  have hR := keep_blk hb4 HR.out
  have cR := fun o => cell_at hR o
  have fR := fun o => free_at hR o
  have lR := heap_lt hR
  have HC := Lib.hid hR
  clear hR a9 a10 a11 a12
  go_wp2_with fail
  refine bodyPost_ret (v := fNum (p + 1)) ?_ rfl ⟨rfl, ?_⟩
  · have hT : (setTen w4 w.heap.size (fl (p + 1)) ⟨#[]⟩ false ⟨#[]⟩ 1).heap[w.heap.size]? = some (nBox (p + 1)) := setTen_heap HC.out
    change Sem.run Tryz.prog (results Tryz.f73 _) (setTen w4 w.heap.size (fl (p + 1)) ⟨#[]⟩ false ⟨#[]⟩ 1) = Result.ok _ (setTen w4 w.heap.size (fl (p + 1)) ⟨#[]⟩ false ⟨#[]⟩ 1)
    generalize setTen w4 w.heap.size (fl (p + 1)) ⟨#[]⟩ false ⟨#[]⟩ 1 = W at hT ⊢
    have cT := fun o => cell_at hT o
    clear hT
    simp [results, Tryz.results73, go_sem, cT]
  · exact B4.trans (setTen_below w4 w.heap.size w.heap.size (fl (p + 1)) ⟨#[]⟩ false ⟨#[]⟩ 1 (Nat.le_refl _))

theorem FIND_any (pf lb e0 e1 p : Nat) (sub s : ByteArray) (w : World) (hp0 : 0 < sub.size) (hm : s.size ≤ 1000) (hm2 : sub.size ≤ 1000) (ha : Plain s) (ht : Tame sub) (hf : FirstAt sub.data.toList s.data.toList 0 p) (hv : View w lb [e0, e1] [fStr sub, fStr s]) :
    Calls Tryz.prog 43 #[ptr pf, ptr lb] w fun e w' => e = .returned (fNum (p + 1)) ∧ Below w.heap.size w w' := by
  have D1 := Lib.hid (find_any pf lb e0 e1 p sub s (w.alloc (fBox 0 ⟨#[]⟩ false ⟨#[]⟩ 0)) hp0 hm hm2 ha ht hf (hv.below (bal (Below.refl _ _) _)))
  clear hv ha ht hf
  go_enter Tryz.func43, Tryz.ntmps43
  go_wp2_with fail
  refine D1.out.mono ?_
  rintro e w1 ⟨rfl, hb1⟩
  have B1 := btr (bal (Below.refl _ w) _) hb1
  have hR := keep_blk hb1 (heap_alloc_new w _)
  have cR := fun o => cell_at hR o
  have fR := fun o => free_at hR o
  have lR := heap_lt hR
  have HC := Lib.hid hR
  clear hR
  go_wp2_with fail
  refine bodyPost_ret (v := fNum (p + 1)) ?_ rfl ⟨rfl, ?_⟩
  · have hT : (setTen w1 w.heap.size (fl (p + 1)) ⟨#[]⟩ false ⟨#[]⟩ 1).heap[w.heap.size]? = some (nBox (p + 1)) := setTen_heap HC.out
    change Sem.run Tryz.prog (results Tryz.f43 _) (setTen w1 w.heap.size (fl (p + 1)) ⟨#[]⟩ false ⟨#[]⟩ 1) = Result.ok _ (setTen w1 w.heap.size (fl (p + 1)) ⟨#[]⟩ false ⟨#[]⟩ 1)
    generalize setTen w1 w.heap.size (fl (p + 1)) ⟨#[]⟩ false ⟨#[]⟩ 1 = W at hT ⊢
    have cT := fun o => cell_at hT o
    clear hT
    simp [results, Tryz.results43, go_sem, cT]
  · exact B1.trans (setTen_below w1 w.heap.size w.heap.size (fl (p + 1)) ⟨#[]⟩ false ⟨#[]⟩ 1 (Nat.le_refl _))

end

end Go.Proofs.YtafdhmpikkfepaaGreatDoor
