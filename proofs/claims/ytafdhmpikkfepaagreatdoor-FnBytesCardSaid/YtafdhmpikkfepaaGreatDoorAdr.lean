import Derived.Test.YtafdhmpikkfepaaGreatDoorAddr
import Derived.Deep.RegionWith
import Derived.Deep.Cut
import Derived.Deep.CutRange
import Derived.Deep.DeepFit
import Derived.Deep.RegionHeld3
namespace Go.Proofs.YtafdhmpikkfepaaGreatDoor
open Go.RowKit Go.Sort

theorem fl_one : fl 1 = 4607182418800017408 := by decide
theorem fl_four : fl 4 = 4616189618054758400 := by decide
theorem fl_rows : fl 1048576 = 4697254411347427328 := by decide

theorem num_one (w : World) :
    Calls Tryz.prog 55 #[.float .f64 4607182418800017408] w fun e w' => e = .returned (fArg 4607182418800017408 ⟨#[]⟩ false ⟨#[]⟩ 1) ∧ w' = w.alloc (fBox 4607182418800017408 ⟨#[]⟩ false ⟨#[]⟩ 1) := by
  have h := num_any 1 w (by omega)
  rw [fl_one] at h
  exact h

theorem num_one_b (w : World) :
    Calls Tryz.prog 55 #[.float .f64 4607182418800017408] w fun e w' => e = .returned (fArg 4607182418800017408 ⟨#[]⟩ false ⟨#[]⟩ 1) ∧ Below w.heap.size w w' :=
  (num_one w).mono fun e w' ⟨he, hw⟩ => by subst hw; exact ⟨he, bal (Below.refl _ _) _⟩

theorem run_assert (v : Value) (W : World) : (Instr.typeAssert (.iface 67 v) 20 67 false).run Tryz.prog W = .ok v W := by
  simp [Instr.typeAssert, run_underlying Tryz.underlying67]

/-- a value written over a variable of the package's type -/
def setTen (w : World) (b n : Nat) (s : ByteArray) (bo : Bool) (err : ByteArray) (ty : Int) : World :=
  ((((((((((w.setCell ⟨b, 0, none⟩ (.string ⟨#[]⟩)).setCell ⟨b, 1, none⟩ (.float .f64 n)).setCell ⟨b, 2, none⟩ (.string s)).setCell ⟨b, 3, none⟩ (.slice none 0 0)).setCell ⟨b, 4, none⟩ (.slice none 0 0)).setCell
    ⟨b, 5, none⟩ (.bool bo)).setCell ⟨b, 6, none⟩ (.string err)).setCell ⟨b, 7, none⟩ (.int .u8 ty)).setCell ⟨b, 8, none⟩ (.pointer none)).setCell ⟨b, 9, none⟩ (.pointer none))

theorem setTen_heap {w : World} {b n : Nat} {s : ByteArray} {bo : Bool} {err : ByteArray} {ty : Int} {n0 : Nat} {s0 : ByteArray} {bo0 : Bool} {err0 : ByteArray} {ty0 : Int} (h : w.heap[b]? = some (fBox n0 s0 bo0 err0 ty0)) :
    (setTen w b n s bo err ty).heap[b]? = some (fBox n s bo err ty) := by
  obtain ⟨w0, e0⟩ : ∃ x, x = (w).setCell ⟨b, 0, none⟩ (.string ⟨#[]⟩) := ⟨_, rfl⟩
  have g0 : w0.heap[b]? = some (.cells #[.string ⟨#[]⟩, .float .f64 n0, .string s0, .slice none 0 0, .slice none 0 0, .bool bo0, .string err0, .int .u8 ty0, .pointer none, .pointer none] 67) := by rw [e0, heap_set_same h]; rfl
  obtain ⟨w1, e1⟩ : ∃ x, x = (w0).setCell ⟨b, 1, none⟩ (.float .f64 n) := ⟨_, rfl⟩
  have g1 : w1.heap[b]? = some (.cells #[.string ⟨#[]⟩, .float .f64 n, .string s0, .slice none 0 0, .slice none 0 0, .bool bo0, .string err0, .int .u8 ty0, .pointer none, .pointer none] 67) := by rw [e1, heap_set_same g0]; rfl
  obtain ⟨w2, e2⟩ : ∃ x, x = (w1).setCell ⟨b, 2, none⟩ (.string s) := ⟨_, rfl⟩
  have g2 : w2.heap[b]? = some (.cells #[.string ⟨#[]⟩, .float .f64 n, .string s, .slice none 0 0, .slice none 0 0, .bool bo0, .string err0, .int .u8 ty0, .pointer none, .pointer none] 67) := by rw [e2, heap_set_same g1]; rfl
  obtain ⟨w3, e3⟩ : ∃ x, x = (w2).setCell ⟨b, 3, none⟩ (.slice none 0 0) := ⟨_, rfl⟩
  have g3 : w3.heap[b]? = some (.cells #[.string ⟨#[]⟩, .float .f64 n, .string s, .slice none 0 0, .slice none 0 0, .bool bo0, .string err0, .int .u8 ty0, .pointer none, .pointer none] 67) := by rw [e3, heap_set_same g2]; rfl
  obtain ⟨w4, e4⟩ : ∃ x, x = (w3).setCell ⟨b, 4, none⟩ (.slice none 0 0) := ⟨_, rfl⟩
  have g4 : w4.heap[b]? = some (.cells #[.string ⟨#[]⟩, .float .f64 n, .string s, .slice none 0 0, .slice none 0 0, .bool bo0, .string err0, .int .u8 ty0, .pointer none, .pointer none] 67) := by rw [e4, heap_set_same g3]; rfl
  obtain ⟨w5, e5⟩ : ∃ x, x = (w4).setCell ⟨b, 5, none⟩ (.bool bo) := ⟨_, rfl⟩
  have g5 : w5.heap[b]? = some (.cells #[.string ⟨#[]⟩, .float .f64 n, .string s, .slice none 0 0, .slice none 0 0, .bool bo, .string err0, .int .u8 ty0, .pointer none, .pointer none] 67) := by rw [e5, heap_set_same g4]; rfl
  obtain ⟨w6, e6⟩ : ∃ x, x = (w5).setCell ⟨b, 6, none⟩ (.string err) := ⟨_, rfl⟩
  have g6 : w6.heap[b]? = some (.cells #[.string ⟨#[]⟩, .float .f64 n, .string s, .slice none 0 0, .slice none 0 0, .bool bo, .string err, .int .u8 ty0, .pointer none, .pointer none] 67) := by rw [e6, heap_set_same g5]; rfl
  obtain ⟨w7, e7⟩ : ∃ x, x = (w6).setCell ⟨b, 7, none⟩ (.int .u8 ty) := ⟨_, rfl⟩
  have g7 : w7.heap[b]? = some (.cells #[.string ⟨#[]⟩, .float .f64 n, .string s, .slice none 0 0, .slice none 0 0, .bool bo, .string err, .int .u8 ty, .pointer none, .pointer none] 67) := by rw [e7, heap_set_same g6]; rfl
  obtain ⟨w8, e8⟩ : ∃ x, x = (w7).setCell ⟨b, 8, none⟩ (.pointer none) := ⟨_, rfl⟩
  have g8 : w8.heap[b]? = some (.cells #[.string ⟨#[]⟩, .float .f64 n, .string s, .slice none 0 0, .slice none 0 0, .bool bo, .string err, .int .u8 ty, .pointer none, .pointer none] 67) := by rw [e8, heap_set_same g7]; rfl
  obtain ⟨w9, e9⟩ : ∃ x, x = (w8).setCell ⟨b, 9, none⟩ (.pointer none) := ⟨_, rfl⟩
  have g9 : w9.heap[b]? = some (.cells #[.string ⟨#[]⟩, .float .f64 n, .string s, .slice none 0 0, .slice none 0 0, .bool bo, .string err, .int .u8 ty, .pointer none, .pointer none] 67) := by rw [e9, heap_set_same g8]; rfl
  unfold setTen
  rw [← e0, ← e1, ← e2, ← e3, ← e4, ← e5, ← e6, ← e7, ← e8, ← e9]
  exact g9

theorem setTen_other {w : World} {b n : Nat} {s : ByteArray} {bo : Bool} {err : ByteArray} {ty : Int} {k : Nat} (h : k ≠ b) : (setTen w b n s bo err ty).heap[k]? = w.heap[k]? := by
  unfold setTen
  rw [heap_set_other h, heap_set_other h, heap_set_other h, heap_set_other h, heap_set_other h, heap_set_other h, heap_set_other h, heap_set_other h, heap_set_other h, heap_set_other h]
theorem setTen_size (w : World) (b n : Nat) (s : ByteArray) (bo : Bool) (err : ByteArray) (ty : Int) : (setTen w b n s bo err ty).heap.size = w.heap.size := by simp [setTen, World.setCell]
theorem setTen_below (w : World) (B b n : Nat) (s : ByteArray) (bo : Bool) (err : ByteArray) (ty : Int) (h : B ≤ b) : Below B w (setTen w b n s bo err ty) := by
  unfold setTen
  refine Below.setCell (p := ⟨b, 9, none⟩) ?_ h _
  refine Below.setCell (p := ⟨b, 8, none⟩) ?_ h _
  refine Below.setCell (p := ⟨b, 7, none⟩) ?_ h _
  refine Below.setCell (p := ⟨b, 6, none⟩) ?_ h _
  refine Below.setCell (p := ⟨b, 5, none⟩) ?_ h _
  refine Below.setCell (p := ⟨b, 4, none⟩) ?_ h _
  refine Below.setCell (p := ⟨b, 3, none⟩) ?_ h _
  refine Below.setCell (p := ⟨b, 2, none⟩) ?_ h _
  refine Below.setCell (p := ⟨b, 1, none⟩) ?_ h _
  exact Below.setCell (p := ⟨b, 0, none⟩) (Below.refl _ _) h _

theorem boolf_b (w : World) :
    Calls Tryz.prog 56 #[.bool true] w fun e w' => e = .returned (fArg 4607182418800017408 ⟨#[]⟩ true ⟨#[]⟩ 1) ∧ Below w.heap.size w w' :=
  (boolf_true w).mono fun e w' ⟨he, hw⟩ => by subst hw; exact ⟨he, bal (Below.refl _ _) _⟩

theorem conv_fl (n : Nat) (h : n < 9007199254740992) (W : World) : (convert 23 3 (.float .f64 (fl n))).run Tryz.prog W = .ok (.int .i64 (n : Int)) W :=
  run_convert_float_int W 23 3 .f64 .i64 _ _ (by rw [Tryz.underlying23]; rfl) Tryz.underlying3 (toInt_fl n h)

/-- a block keeps what it holds over a call -/
theorem keep_blk {w w' : World} {b : Nat} {o : Obj} (hb : Below w.heap.size w w') (h : w.heap[b]? = some o) : w'.heap[b]? = some o := by rw [hb.block b (heap_lt h)]; exact h
theorem keep_al {w : World} {b : Nat} {o : Obj} (h : w.heap[b]? = some o) (x : Obj) : (w.alloc x).heap[b]? = some o := by rw [Below.heap_alloc w x b (heap_lt h)]; exact h

section
attribute [local go_sem] run_store_flt run_assert
abbrev nBox (n : Nat) : Obj := fBox (fl n) ⟨#[]⟩ false ⟨#[]⟩ 1
theorem toNum_x (n : Nat) (w : World) (h : n < 9007199254740992) :
    Calls Tryz.prog 53 #[fNum n] w fun e w' => e = .returned (fNum n) ∧ w' = ((w.alloc (nBox n)).alloc (nBox n)).alloc (nBox n) := by
  go_enter Tryz.func53, Tryz.ntmps53
  go_wp2_with (go_at_call 55; refine (num_any _ _ h).mono ?_; rintro e w1 ⟨rfl, rfl⟩)
  exact bodyPost_ret (v := fNum n) (by simp [results, Tryz.results53, go_sem]) rfl ⟨rfl, rfl⟩

theorem val_true_x (w : World) :
    Calls Tryz.prog 59 #[fArg 4607182418800017408 ⟨#[]⟩ true ⟨#[]⟩ 1] w fun e w' => e = .returned (.string ⟨#[84, 82, 85, 69]⟩) ∧ w' = w.alloc (fBox 4607182418800017408 ⟨#[]⟩ true ⟨#[]⟩ 1) := by
  have hz : (FloatKind.f64.format.order 4607182418800017408 0 == some .eq) = false := by decide
  go_enter Tryz.func59, Tryz.ntmps59
  go_wp2
  go_ret
  exact ⟨rfl, rfl⟩

set_option maxRecDepth 100000 in
set_option maxHeartbeats 1000000 in
theorem address_any (pf lb e0 e1 e2 col row : Nat) (w : World) (h0 : 1 ≤ col) (h1 : col ≤ 16384) (r0 : 1 ≤ row) (r1 : row ≤ 1048576) (ht : Tab w) (hv : View w lb [e0, e1, e2] [fNum row, fNum col, fNum 4]) :
    Calls Tryz.prog 38 #[ptr pf, ptr lb] w fun e w' => e = .returned (fStr ⟨(cellL col row).toArray⟩) ∧ Below w.heap.size w w' := by
  have k0 : w.cell? ⟨e0, 3, none⟩ = some (.iface 67 (fNum row)) := (hv.cell 0 e0 rfl).1
  have k1 : w.cell? ⟨e1, 3, none⟩ = some (.iface 67 (fNum col)) := (hv.cell 1 e1 rfl).1
  have k2 : w.cell? ⟨e2, 3, none⟩ = some (.iface 67 (fNum 4)) := (hv.cell 2 e2 rfl).1
  have l0 := (hv.cell 0 e0 rfl).2
  have l1 := (hv.cell 1 e1 rfl).2
  have l2 := (hv.cell 2 e2 rfl).2
  have HV := Lib.hid hv
  have HT := Lib.hid ht
  clear hv ht
  have og : (FloatKind.f64.format.order (fl row) 4697254411347427328 == some .gt) = false := by
    have := order_gt row 1048576 (by omega) (by omega)
    rw [fl_rows] at this
    rw [this]
    simp; omega
  go_enter Tryz.func38, Tryz.ntmps38
  go_wp2_with fail
  refine (len_any lb _ _ _ (HV.out.below (bal (Below.refl _ _) _))).mono ?_
  rintro e w1 ⟨rfl, rfl⟩
  go_wp2_with fail
  refine (len_any lb _ _ _ (HV.out.below (bal (Below.refl _ _) _))).mono ?_
  rintro e w1 ⟨rfl, rfl⟩
  go_wp2_with fail
  refine (front_any lb _ _ _ _ (HV.out.below (bal (Below.refl _ _) _))).mono ?_
  rintro e w1 ⟨rfl, rfl⟩
  go_wp2_with fail
  refine (toNum_any row _ (by omega)).mono ?_
  rintro e w1 ⟨rfl, hb1⟩
  have B1 := btr (bal (Below.refl _ w) _) hb1
  have q1 : w1.cell? ⟨e1, 3, none⟩ = some (.iface 67 (fNum col)) := (B1.cell (p := ⟨e1, 3, none⟩) l1).trans k1
  have n1 : e1 < w1.heap.size := Nat.lt_of_lt_of_le l1 B1.size
  have rlt : w.heap.size < w1.heap.size := by have := hb1.size; simp at this; omega
  clear k0 k1
  have hR : w1.heap[w.heap.size]? = some (fBox 0 ⟨#[]⟩ false ⟨#[]⟩ 0) := keep_blk hb1 (heap_alloc_new w _)
  have HR := Lib.hid hR
  clear hR
  go_wp2_with fail
  refine (front_any lb _ _ _ _ (HV.out.below (bal B1 _))).mono ?_
  rintro e w2 ⟨rfl, rfl⟩
  go_wp2_with fail
  refine (next_any lb 0 e0 e1 _ _ _ (HV.out.below (bal B1 _)) rfl rfl).mono ?_
  rintro e w2 ⟨rfl, rfl⟩
  go_wp2_with fail
  refine (toNum_any col _ (by omega)).mono ?_
  rintro e w2 ⟨rfl, hb2⟩
  have B2 := btr (bal B1 _) hb2
  have h5 : w2.heap[w1.heap.size]? = some (nBox row) := keep_blk hb2 (heap_alloc_new w1 _)
  have HR := Lib.hid (keep_blk hb2 (keep_al HR.out _))
  have t5l : w1.heap.size < w2.heap.size := by have := hb2.size; simp at this; omega
  clear q1 n1
  go_wp2_with fail
  refine (num_one_b _).mono ?_
  rintro e w3 ⟨rfl, hb3⟩
  have B3 := btr (bal B2 _) hb3
  have h5 := keep_blk hb3 (keep_al h5 _)
  have h6 : w3.heap[w2.heap.size]? = some (nBox col) := keep_blk hb3 (heap_alloc_new w2 _)
  have HR := Lib.hid (keep_blk hb3 (keep_al HR.out _))
  have t6l : w2.heap.size < w3.heap.size := by have := hb3.size; simp at this; omega
  have q2 : w3.cell? ⟨e2, 3, none⟩ = some (.iface 67 (fNum 4)) := (B3.cell (p := ⟨e2, 3, none⟩) l2).trans k2
  have n2 : e2 < w3.heap.size := Nat.lt_of_lt_of_le l2 B3.size
  clear k2
  go_wp2_with fail
  refine (len_any lb _ _ _ (HV.out.below (bal B3 _))).mono ?_
  rintro e w4 ⟨rfl, rfl⟩
  go_wp2_with fail
  refine (front_any lb _ _ _ _ (HV.out.below (bal B3 _))).mono ?_
  rintro e w4 ⟨rfl, rfl⟩
  go_wp2_with fail
  refine (next_any lb 0 e0 e1 _ _ _ (HV.out.below (bal B3 _)) rfl rfl).mono ?_
  rintro e w4 ⟨rfl, rfl⟩
  go_wp2_with fail
  refine (next_any lb 1 e1 e2 _ _ _ (HV.out.below (bal B3 _)) rfl rfl).mono ?_
  rintro e w4 ⟨rfl, rfl⟩
  go_wp2_with fail
  refine (toNum_any 4 _ (by omega)).mono ?_
  rintro e w4 ⟨rfl, hb4⟩
  have h5 := keep_blk hb4 (keep_al h5 _)
  have h6 := keep_blk hb4 (keep_al h6 _)
  have h7 : w4.heap[w3.heap.size]? = some (fBox 4607182418800017408 ⟨#[]⟩ false ⟨#[]⟩ 1) := keep_blk hb4 (heap_alloc_new w3 _)
  have c7 := fun o => cell_at h7 o
  have f7 := fun o => free_at h7 o
  have HR := Lib.hid (keep_blk hb4 (keep_al HR.out _))
  have t7l : w3.heap.size < w4.heap.size := by have := hb4.size; simp at this; omega
  clear q2 n2
  have o1 : (FloatKind.f64.format.order (fl 4) 4607182418800017408 == some .lt) = false := by decide
  have o2 : (FloatKind.f64.format.order (fl 4) 4616189618054758400 == some .gt) = false := by decide
  have HH : Hid (w4.heap[w1.heap.size]? = some (nBox row) ∧ w4.heap[w2.heap.size]? = some (nBox col) ∧ w4.heap[w3.heap.size]? = some (fBox 4607182418800017408 ⟨#[]⟩ false ⟨#[]⟩ 1)) := ⟨h5, h6, h7⟩
  clear h5 h6 h7
  go_wp2_with fail
  refine (boolf_b (setTen w4 w3.heap.size (fl 4) ⟨#[]⟩ false ⟨#[]⟩ 1)).mono ?_
  rintro e w6 ⟨rfl, hb6⟩
  have B4 := btr (bal B3 _) hb4
  have B6 : Below w.heap.size w w6 := btr (B4.trans (setTen_below w4 w.heap.size w3.heap.size _ _ _ _ _ B3.size)) hb6
  have h5 : w6.heap[w1.heap.size]? = some (nBox row) := keep_blk hb6 (by rw [setTen_other (by omega)]; exact HH.out.1)
  have h6 : w6.heap[w2.heap.size]? = some (nBox col) := keep_blk hb6 (by rw [setTen_other (by omega)]; exact HH.out.2.1)
  have h7 : w6.heap[w3.heap.size]? = some (nBox 4) := keep_blk hb6 (setTen_heap HH.out.2.2)
  have hR6 : w6.heap[w.heap.size]? = some (fBox 0 ⟨#[]⟩ false ⟨#[]⟩ 0) := keep_blk hb6 (by rw [setTen_other (by omega)]; exact HR.out)
  have HR := Lib.hid hR6
  clear hR6
  have d5 : w6.cell? ⟨w1.heap.size, 1, none⟩ = some (.float .f64 (fl row)) := cell_at h5 1
  have d6 : w6.cell? ⟨w2.heap.size, 1, none⟩ = some (.float .f64 (fl col)) := cell_at h6 1
  have d7 : w6.cell? ⟨w3.heap.size, 1, none⟩ = some (.float .f64 (fl 4)) := cell_at h7 1
  have m5 := heap_lt h5
  have m6 := heap_lt h6
  have m7 := heap_lt h7
  clear h5 h6 h7 c7 f7 HH
  go_wp2_with fail
  refine (len_any lb _ _ _ (HV.out.below (bal B6 _))).mono ?_
  rintro e w7 ⟨rfl, rfl⟩
  go_wp2_with fail
  refine (len_any lb _ _ _ (HV.out.below (bal B6 _))).mono ?_
  rintro e w7 ⟨rfl, rfl⟩
  go_wp2_with fail
  have cv4 : ∀ W, (convert 23 3 (.float .f64 (fl 4))).run Tryz.prog W = .ok (.int .i64 4) W := conv_fl 4 (by omega)
  have cvc := conv_fl col (by omega)
  have cvr := conv_fl row (by omega)
  go_cut [10, 11] from 103 to 124 (fun s er wx => s = .string ⟨(cellL col row).toArray⟩ ∧ er = .nilIface ∧ Below w6.heap.size w6 wx)
  case first =>
    go_region_held3 (fun W => W.cell? ⟨w6.heap.size, 0, none⟩ = some (.string ⟨#[]⟩) ∧ W.cell? ⟨w6.heap.size, 1, none⟩ = some (.float .f64 4607182418800017408) ∧ W.cell? ⟨w6.heap.size, 2, none⟩ = some (.string ⟨#[]⟩) ∧ W.cell? ⟨w6.heap.size, 3, none⟩ = some (.slice none 0 0) ∧
        W.cell? ⟨w6.heap.size, 4, none⟩ = some (.slice none 0 0) ∧ W.cell? ⟨w6.heap.size, 5, none⟩ = some (.bool true) ∧ W.cell? ⟨w6.heap.size, 6, none⟩ = some (.string ⟨#[]⟩) ∧ W.cell? ⟨w6.heap.size, 7, none⟩ = some (.int .u8 1) ∧ W.cell? ⟨w6.heap.size, 8, none⟩ = some (.pointer none) ∧ W.cell? ⟨w6.heap.size, 9, none⟩ = some (.pointer none) ∧
        W.cell? ⟨w1.heap.size, 1, none⟩ = some (.float .f64 (fl row)) ∧ W.cell? ⟨w2.heap.size, 1, none⟩ = some (.float .f64 (fl col)) ∧ W.cell? ⟨w3.heap.size, 1, none⟩ = some (.float .f64 (fl 4)))
      (first
        | go_keep
        | (go_split_ands
           refine ⟨?_, ?_, ?_, ?_, ?_, ?_, ?_, ?_, ?_, ?_, ?_, ?_, ?_⟩ <;> (refine (hb8.cell (p := ⟨_, _, none⟩) (by simp; omega)).trans ?_; assumption)))
      (first
        | (go_at_call 59; refine (val_true_x _).mono ?_; rintro e w' ⟨rfl, rfl⟩)
        | (go_at_call 60; refine (zzAddr_any col row _ h0 h1 r0 r1 (HT.out.below (bal (bal B6 _).drew _))).mono ?_; rintro e w8 ⟨rfl, hb8⟩))
    try go_wp2_with fail
    go_meet
    exact ⟨rfl, rfl, btr (bal (bal (Below.refl _ _) _).drew _) hb8⟩
  case rest =>
    obtain ⟨rfl, rfl, hb8⟩ := hcut
    have hR := keep_blk hb8 HR.out
    have cR := fun o => cell_at hR o
    have fR := fun o => free_at hR o
    have lR := heap_lt hR
    have hn : ¬ 9223372036854775807 < (cellL col row).length := by unfold cellL; have := colL_len col h1; have := digits_len 6 row (by omega); rw [List.length_append]; omega
    have HC := Lib.hid hR
    clear hR d5 d6 d7
    go_wp2_with fail
    rw [show (⟨#[]⟩ : ByteArray) ++ ⟨(cellL col row).toArray⟩ = ⟨(cellL col row).toArray⟩ from mk_append [] _]
    refine (strf_any _ _).mono ?_
    rintro e w9 ⟨rfl, rfl⟩
    go_wp2_with fail
    have B8 : Below w.heap.size w wc := btr B6 hb8
    refine bodyPost_ret (v := fStr ⟨(cellL col row).toArray⟩) ?_ rfl ⟨rfl, ?_⟩
    · have hT : ((setTen wc w.heap.size 0 ⟨(cellL col row).toArray⟩ false ⟨#[]⟩ 2).alloc (fBox 0 ⟨(cellL col row).toArray⟩ false ⟨#[]⟩ 2)).heap[w.heap.size]? = some (fBox 0 ⟨(cellL col row).toArray⟩ false ⟨#[]⟩ 2) := keep_al (setTen_heap HC.out) _
      change Sem.run Tryz.prog (results Tryz.f38 _) ((setTen wc w.heap.size 0 ⟨(cellL col row).toArray⟩ false ⟨#[]⟩ 2).alloc (fBox 0 ⟨(cellL col row).toArray⟩ false ⟨#[]⟩ 2)) = Result.ok _ ((setTen wc w.heap.size 0 ⟨(cellL col row).toArray⟩ false ⟨#[]⟩ 2).alloc (fBox 0 ⟨(cellL col row).toArray⟩ false ⟨#[]⟩ 2))
      generalize (setTen wc w.heap.size 0 ⟨(cellL col row).toArray⟩ false ⟨#[]⟩ 2).alloc (fBox 0 ⟨(cellL col row).toArray⟩ false ⟨#[]⟩ 2) = W at hT ⊢
      have cT := fun o => cell_at hT o
      clear hT
      simp [results, Tryz.results38, go_sem, cT]
    · exact bal (B8.trans (setTen_below wc w.heap.size w.heap.size 0 ⟨(cellL col row).toArray⟩ false ⟨#[]⟩ 2 (Nat.le_refl _))) _
end

end Go.Proofs.YtafdhmpikkfepaaGreatDoor
