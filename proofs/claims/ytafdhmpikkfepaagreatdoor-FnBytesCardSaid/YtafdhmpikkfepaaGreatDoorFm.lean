import Derived.Test.YtafdhmpikkfepaaGreatDoorFb
import Derived.Deep.LoopGhost
namespace Go.Proofs.YtafdhmpikkfepaaGreatDoor
open Go.RowKit Go.Sort

theorem plain_asc (s : ByteArray) (h : Plain s) : Asc s.data.toList := by
  intro c hc
  obtain ⟨i, hi, rfl⟩ := List.getElem_of_mem hc
  have hs : i < s.size := by rw [← size_data]; exact hi
  rw [get_data s i hs]
  exact h i hs

/-- the room of a plain text's runes -/
def runeCap (w : World) (s : ByteArray) : Nat := grownCap w s.size 0 21
/-- the world in which a plain text's runes are laid -/
def runeW (w : World) (s : ByteArray) : World :=
  w.drew.alloc (.cells (((runeV s.data.toList).map (Value.int .i32)).toArray ++ Array.replicate (runeCap w s - s.size) (.int .i32 0)) 21)

theorem runeW_size (w : World) (s : ByteArray) : (runeW w s).heap.size = w.heap.size + 1 := by
  unfold runeW
  simp

theorem runeW_below (w : World) (s : ByteArray) : Below w.heap.size w (runeW w s) := bal (Below.refl w.heap.size w).drew _

theorem conv_to (s : ByteArray) (ha : Asc s.data.toList) (hm : s.size ≤ 1000) (w : World) :
    (convert 9 133 (.string s)).run Tryz.prog w = .ok (.slice (some ⟨w.heap.size, 0, none⟩) s.size (runeCap w s)) (runeW w s) := by
  have hz : (Conv.runesFrom s s.size 0 #[]).size = s.size := by
    rw [runes_asc s ha]
    simp [runeV_length]
  have h := run_runes_of_string (P := Tryz.prog) w 9 133 21 s Tryz.underlying9 Tryz.underlying133 Tryz.underlying21 (by rw [hz]; omega)
  rw [hz] at h
  rw [h, runes_asc s ha]
  rfl

theorem runeCap_ge (w : World) (s : ByteArray) : s.size ≤ runeCap w s := grownCap_ge w s.size 0 21

theorem rune_cell (w : World) (s : ByteArray) (j : Nat) (h : j < s.size) : (runeW w s).cell? ⟨w.heap.size, j, none⟩ = some (.int .i32 ((runeV s.data.toList).getD j 0)) := by
  have hh : (runeW w s).heap[w.heap.size]? = _ := heap_alloc_new w.drew _
  rw [cell_at hh j]
  have hj : j < (runeV s.data.toList).length := by rw [runeV_length, size_data]; exact h
  rw [Array.getElem?_append_left (by simpa using hj)]
  simp [List.getD, List.getElem?_eq_getElem hj]

theorem addr_at (b o j : Nat) : Addr.add ⟨b, o, none⟩ j = ⟨b, o + j, none⟩ := by
  unfold Addr.add
  split
  · next h => subst h; rfl
  · rfl

theorem conv_back (s : ByteArray) (ha : Asc s.data.toList) (w : World) (a b : Nat) (hab : a ≤ b) (hb : b ≤ s.size) (c : Nat) :
    (convert 133 9 (.slice (some ⟨w.heap.size, a, none⟩) (b - a) c)).run Tryz.prog (runeW w s) = .ok (.string (s.extract a b)) (runeW w s) := by
  have hl : ((runeV s.data.toList).drop a).length = s.size - a := by rw [List.length_drop, runeV_length, size_data]
  rw [run_convert_runes (P := Tryz.prog) (runeW w s) 133 9 21 ⟨w.heap.size, a, none⟩ (b - a) c ((runeV s.data.toList).drop a) (by rw [hl]; omega) Tryz.underlying133 Tryz.underlying21 Tryz.underlying9 (fun j hj => by
    rw [hl] at hj
    have := rune_cell w s (a + j) (by omega)
    rw [show (Addr.add ⟨w.heap.size, a, none⟩ j) = ⟨w.heap.size, a + j, none⟩ from addr_at _ _ _, this]
    simp [List.getD])]
  rw [runeV_drop, runeV_take, runesBytes_asc _ ((ha.drop a).take _)]
  have := mk_of_list (ext_list s a b)
  rw [← this]

section
attribute [local go_sem] run_store_flt run_assert

set_option maxRecDepth 100000 in
set_option maxHeartbeats 1000000 in
theorem mid_any (pf lb e0 e1 e2 p m : Nat) (s : ByteArray) (w : World) (hp : p + m ≤ s.size) (hm1 : 1 ≤ m) (hm : s.size ≤ 1000) (ha : Plain s) (hv : View w lb [e0, e1, e2] [fStr s, fNum (p + 1), fNum m]) :
    Calls Tryz.prog 74 #[ptr pf, .string ⟨#[77, 73, 68]⟩, ptr lb] w fun e w' => e = .returned (fStr (s.extract p (p + m))) ∧ Below w.heap.size w w' := by
  have k0 : w.cell? ⟨e0, 3, none⟩ = some (.iface 67 (fStr s)) := (hv.cell 0 e0 rfl).1
  have k1 : w.cell? ⟨e1, 3, none⟩ = some (.iface 67 (fNum (p + 1))) := (hv.cell 1 e1 rfl).1
  have k2 : w.cell? ⟨e2, 3, none⟩ = some (.iface 67 (fNum m)) := (hv.cell 2 e2 rfl).1
  have l0 := (hv.cell 0 e0 rfl).2
  have l1 := (hv.cell 1 e1 rfl).2
  have l2 := (hv.cell 2 e2 rfl).2
  have HV := Lib.hid hv
  have HA := Lib.hid ha
  clear hv ha
  go_enter Tryz.func74, Tryz.ntmps74
  go_wp2_with fail
  refine (len_any lb _ _ _ (HV.out.below (bal (Below.refl _ _) _))).mono ?_
  rintro e w1 ⟨rfl, rfl⟩
  go_wp2_with fail
  refine (front_any lb _ _ _ _ (HV.out.below (bal (Below.refl _ _) _))).mono ?_
  rintro e w1 ⟨rfl, rfl⟩
  go_wp2_with fail
  refine (val_str _ _).mono ?_
  rintro e w1 ⟨rfl, hb1⟩
  have B1 := btr (bal (Below.refl _ w) _) hb1
  have q1 : w1.cell? ⟨e1, 3, none⟩ = some (.iface 67 (fNum (p + 1))) := (B1.cell (p := ⟨e1, 3, none⟩) l1).trans k1
  have n1 : e1 < w1.heap.size := Nat.lt_of_lt_of_le l1 B1.size
  have HR := Lib.hid (keep_blk hb1 (heap_alloc_new w _))
  clear k0 k1
  go_wp2_with fail
  refine (front_any lb _ _ _ _ (HV.out.below B1)).mono ?_
  rintro e w2 ⟨rfl, rfl⟩
  go_wp2_with fail
  refine (next_any lb 0 e0 e1 _ _ _ (HV.out.below B1) rfl rfl).mono ?_
  rintro e w2 ⟨rfl, rfl⟩
  go_wp2_with fail
  refine (toNum_any (p + 1) _ (by omega)).mono ?_
  rintro e w2 ⟨rfl, hb2⟩
  have B2 := btr B1 hb2
  have HR := Lib.hid (keep_blk hb2 HR.out)
  have q2 : w2.cell? ⟨e2, 3, none⟩ = some (.iface 67 (fNum m)) := (B2.cell (p := ⟨e2, 3, none⟩) l2).trans k2
  have n2 : e2 < w2.heap.size := Nat.lt_of_lt_of_le l2 B2.size
  clear k2 q1 n1
  go_wp2_with fail
  refine (front_any lb _ _ _ _ (HV.out.below B2)).mono ?_
  rintro e w3 ⟨rfl, rfl⟩
  go_wp2_with fail
  refine (next_any lb 0 e0 e1 _ _ _ (HV.out.below B2) rfl rfl).mono ?_
  rintro e w3 ⟨rfl, rfl⟩
  go_wp2_with fail
  refine (next_any lb 1 e1 e2 _ _ _ (HV.out.below B2) rfl rfl).mono ?_
  rintro e w3 ⟨rfl, rfl⟩
  go_wp2_with fail
  refine (toNum_any m _ (by omega)).mono ?_
  rintro e w3 ⟨rfl, hb3⟩
  have B3 := btr B2 hb3
  have HR := Lib.hid (keep_blk hb3 HR.out)
  have cv1 := conv_fl (p + 1) (by omega)
  have cv2 := conv_fl m (by omega)
  have ol : (FloatKind.f64.format.order (fl m) 0 == some .lt) = false := by
    have := order_lt m 0 (by omega) (by omega)
    rw [fl_zero] at this
    rw [this]
    simp
  clear q2 n2
  have x0 : IntKind.i64.wrap ((p + 1 : Nat) : Int) = ((p : Int) + 1) := by rw [IntKind.wrap_i64]; omega
  go_wp2_with fail
  refine (count16_any s _ (by omega) HA.out).mono ?_
  rintro e w4 ⟨rfl, hb4⟩
  have B4 := btr (bal (bal B3 _) _) hb4
  have HR := Lib.hid (keep_blk hb4 (keep_al (keep_al HR.out _) _))
  have h9 : w4.heap[w3.heap.size + 1]? = some (nBox m) := keep_blk hb4 (by have := heap_alloc_new (w3.alloc (nBox (p + 1))) (nBox m); rw [hsz_alloc] at this; exact this)
  have c9 := fun o => cell_at h9 o
  have l9 := heap_lt h9
  clear h9
  have hto := conv_to s (plain_asc s HA.out) (by omega) w4
  have hbk : ∀ c, (convert 133 9 (.slice (some ⟨w4.heap.size, p, none⟩) m c)).run Tryz.prog (runeW w4 s) = .ok (.string (s.extract p (p + m))) (runeW w4 s) := fun c => by
    have := conv_back s (plain_asc s HA.out) w4 p (p + m) (by omega) hp c
    rwa [Nat.add_sub_cancel_left] at this
  have hcap := runeCap_ge w4 s
  obtain ⟨C, hC⟩ : ∃ C, runeCap w4 s = C := ⟨_, rfl⟩
  rw [hC] at hto hcap
  clear hC
  have hpC : p + m ≤ C := by omega
  go_wp2_with fail
  refine (strf_any _ _).mono ?_
  rintro e w5 ⟨rfl, rfl⟩
  have hR : (runeW w4 s).heap[w.heap.size]? = some (fBox 0 ⟨#[]⟩ false ⟨#[]⟩ 0) := keep_blk (runeW_below w4 s) HR.out
  have B5 := btr B4 (runeW_below w4 s)
  have cR := fun o => cell_at hR o
  have fR := fun o => free_at hR o
  have lR := heap_lt hR
  have HC := Lib.hid hR
  clear hR hto hbk
  obtain ⟨W, hW⟩ : ∃ W, runeW w4 s = W := ⟨_, rfl⟩
  rw [hW] at B5 cR fR lR HC ⊢
  clear hW
  obtain ⟨t, ht⟩ : ∃ t, s.extract p (p + m) = t := ⟨_, rfl⟩
  rw [ht]
  go_wp2_with fail
  refine bodyPost_ret (v := fStr t) ?_ rfl ⟨by rw [ht], ?_⟩
  · have hT : ((setTen W w.heap.size 0 t false ⟨#[]⟩ 2).alloc (fBox 0 t false ⟨#[]⟩ 2)).heap[w.heap.size]? = some (fBox 0 t false ⟨#[]⟩ 2) := keep_al (setTen_heap HC.out) _
    change Sem.run Tryz.prog (results Tryz.f74 _) ((setTen W w.heap.size 0 t false ⟨#[]⟩ 2).alloc (fBox 0 t false ⟨#[]⟩ 2)) = Result.ok _ ((setTen W w.heap.size 0 t false ⟨#[]⟩ 2).alloc (fBox 0 t false ⟨#[]⟩ 2))
    generalize (setTen W w.heap.size 0 t false ⟨#[]⟩ 2).alloc (fBox 0 t false ⟨#[]⟩ 2) = V at hT ⊢
    have cT := fun o => cell_at hT o
    clear hT
    simp [results, Tryz.results74, go_sem, cT]
  · exact bal (B5.trans (setTen_below W w.heap.size w.heap.size 0 t false ⟨#[]⟩ 2 (Nat.le_refl _))) _
end
section
attribute [local go_sem] run_store_flt run_assert

theorem MID_any (pf lb : Nat) (t : ByteArray) (w : World)
    (hI : Calls Tryz.prog 74 #[ptr pf, .string ⟨#[77, 73, 68]⟩, ptr lb] (w.alloc (fBox 0 ⟨#[]⟩ false ⟨#[]⟩ 0)) fun e w' => e = .returned (fStr t) ∧ Below (w.alloc (fBox 0 ⟨#[]⟩ false ⟨#[]⟩ 0)).heap.size (w.alloc (fBox 0 ⟨#[]⟩ false ⟨#[]⟩ 0)) w') :
    Calls Tryz.prog 44 #[ptr pf, ptr lb] w fun e w' => e = .returned (fStr t) ∧ Below w.heap.size w w' := by
  have HI := Lib.hid hI
  clear hI
  go_enter Tryz.func44, Tryz.ntmps44
  go_wp2_with fail
  refine HI.out.mono ?_
  rintro e w1 ⟨rfl, hb1⟩
  have B1 := btr (bal (Below.refl _ w) _) hb1
  have hR := keep_blk hb1 (heap_alloc_new w _)
  have cR := fun o => cell_at hR o
  have fR := fun o => free_at hR o
  have lR := heap_lt hR
  have HC := Lib.hid hR
  clear hR
  go_wp2_with fail
  refine bodyPost_ret (v := fStr t) ?_ rfl ⟨rfl, ?_⟩
  · have hT : (setTen w1 w.heap.size 0 t false ⟨#[]⟩ 2).heap[w.heap.size]? = some (fBox 0 t false ⟨#[]⟩ 2) := setTen_heap HC.out
    change Sem.run Tryz.prog (results Tryz.f44 _) (setTen w1 w.heap.size 0 t false ⟨#[]⟩ 2) = Result.ok _ (setTen w1 w.heap.size 0 t false ⟨#[]⟩ 2)
    generalize setTen w1 w.heap.size 0 t false ⟨#[]⟩ 2 = W at hT ⊢
    have cT := fun o => cell_at hT o
    clear hT
    simp [results, Tryz.results44, go_sem, cT]
  · exact B1.trans (setTen_below w1 w.heap.size w.heap.size 0 t false ⟨#[]⟩ 2 (Nat.le_refl _))


theorem MIDB_any (pf lb : Nat) (t : ByteArray) (w : World)
    (hI : Calls Tryz.prog 74 #[ptr pf, .string ⟨#[77, 73, 68, 66]⟩, ptr lb] (w.alloc (fBox 0 ⟨#[]⟩ false ⟨#[]⟩ 0)) fun e w' => e = .returned (fStr t) ∧ Below (w.alloc (fBox 0 ⟨#[]⟩ false ⟨#[]⟩ 0)).heap.size (w.alloc (fBox 0 ⟨#[]⟩ false ⟨#[]⟩ 0)) w') :
    Calls Tryz.prog 45 #[ptr pf, ptr lb] w fun e w' => e = .returned (fStr t) ∧ Below w.heap.size w w' := by
  have HI := Lib.hid hI
  clear hI
  go_enter Tryz.func45, Tryz.ntmps45
  go_wp2_with fail
  refine HI.out.mono ?_
  rintro e w1 ⟨rfl, hb1⟩
  have B1 := btr (bal (Below.refl _ w) _) hb1
  have hR := keep_blk hb1 (heap_alloc_new w _)
  have cR := fun o => cell_at hR o
  have fR := fun o => free_at hR o
  have lR := heap_lt hR
  have HC := Lib.hid hR
  clear hR
  go_wp2_with fail
  refine bodyPost_ret (v := fStr t) ?_ rfl ⟨rfl, ?_⟩
  · have hT : (setTen w1 w.heap.size 0 t false ⟨#[]⟩ 2).heap[w.heap.size]? = some (fBox 0 t false ⟨#[]⟩ 2) := setTen_heap HC.out
    change Sem.run Tryz.prog (results Tryz.f45 _) (setTen w1 w.heap.size 0 t false ⟨#[]⟩ 2) = Result.ok _ (setTen w1 w.heap.size 0 t false ⟨#[]⟩ 2)
    generalize setTen w1 w.heap.size 0 t false ⟨#[]⟩ 2 = W at hT ⊢
    have cT := fun o => cell_at hT o
    clear hT
    simp [results, Tryz.results45, go_sem, cT]
  · exact B1.trans (setTen_below w1 w.heap.size w.heap.size 0 t false ⟨#[]⟩ 2 (Nat.le_refl _))


theorem LEFTB_any (pf lb : Nat) (t : ByteArray) (w : World)
    (hI : Calls Tryz.prog 76 #[ptr pf, .string ⟨#[76, 69, 70, 84, 66]⟩, ptr lb] (w.alloc (fBox 0 ⟨#[]⟩ false ⟨#[]⟩ 0)) fun e w' => e = .returned (fStr t) ∧ Below (w.alloc (fBox 0 ⟨#[]⟩ false ⟨#[]⟩ 0)).heap.size (w.alloc (fBox 0 ⟨#[]⟩ false ⟨#[]⟩ 0)) w') :
    Calls Tryz.prog 47 #[ptr pf, ptr lb] w fun e w' => e = .returned (fStr t) ∧ Below w.heap.size w w' := by
  have HI := Lib.hid hI
  clear hI
  go_enter Tryz.func47, Tryz.ntmps47
  go_wp2_with fail
  refine HI.out.mono ?_
  rintro e w1 ⟨rfl, hb1⟩
  have B1 := btr (bal (Below.refl _ w) _) hb1
  have hR := keep_blk hb1 (heap_alloc_new w _)
  have cR := fun o => cell_at hR o
  have fR := fun o => free_at hR o
  have lR := heap_lt hR
  have HC := Lib.hid hR
  clear hR
  go_wp2_with fail
  refine bodyPost_ret (v := fStr t) ?_ rfl ⟨rfl, ?_⟩
  · have hT : (setTen w1 w.heap.size 0 t false ⟨#[]⟩ 2).heap[w.heap.size]? = some (fBox 0 t false ⟨#[]⟩ 2) := setTen_heap HC.out
    change Sem.run Tryz.prog (results Tryz.f47 _) (setTen w1 w.heap.size 0 t false ⟨#[]⟩ 2) = Result.ok _ (setTen w1 w.heap.size 0 t false ⟨#[]⟩ 2)
    generalize setTen w1 w.heap.size 0 t false ⟨#[]⟩ 2 = W at hT ⊢
    have cT := fun o => cell_at hT o
    clear hT
    simp [results, Tryz.results47, go_sem, cT]
  · exact B1.trans (setTen_below w1 w.heap.size w.heap.size 0 t false ⟨#[]⟩ 2 (Nat.le_refl _))


theorem RIGHTB_any (pf lb : Nat) (t : ByteArray) (w : World)
    (hI : Calls Tryz.prog 76 #[ptr pf, .string ⟨#[82, 73, 71, 72, 84, 66]⟩, ptr lb] (w.alloc (fBox 0 ⟨#[]⟩ false ⟨#[]⟩ 0)) fun e w' => e = .returned (fStr t) ∧ Below (w.alloc (fBox 0 ⟨#[]⟩ false ⟨#[]⟩ 0)).heap.size (w.alloc (fBox 0 ⟨#[]⟩ false ⟨#[]⟩ 0)) w') :
    Calls Tryz.prog 48 #[ptr pf, ptr lb] w fun e w' => e = .returned (fStr t) ∧ Below w.heap.size w w' := by
  have HI := Lib.hid hI
  clear hI
  go_enter Tryz.func48, Tryz.ntmps48
  go_wp2_with fail
  refine HI.out.mono ?_
  rintro e w1 ⟨rfl, hb1⟩
  have B1 := btr (bal (Below.refl _ w) _) hb1
  have hR := keep_blk hb1 (heap_alloc_new w _)
  have cR := fun o => cell_at hR o
  have fR := fun o => free_at hR o
  have lR := heap_lt hR
  have HC := Lib.hid hR
  clear hR
  go_wp2_with fail
  refine bodyPost_ret (v := fStr t) ?_ rfl ⟨rfl, ?_⟩
  · have hT : (setTen w1 w.heap.size 0 t false ⟨#[]⟩ 2).heap[w.heap.size]? = some (fBox 0 t false ⟨#[]⟩ 2) := setTen_heap HC.out
    change Sem.run Tryz.prog (results Tryz.f48 _) (setTen w1 w.heap.size 0 t false ⟨#[]⟩ 2) = Result.ok _ (setTen w1 w.heap.size 0 t false ⟨#[]⟩ 2)
    generalize setTen w1 w.heap.size 0 t false ⟨#[]⟩ 2 = W at hT ⊢
    have cT := fun o => cell_at hT o
    clear hT
    simp [results, Tryz.results48, go_sem, cT]
  · exact B1.trans (setTen_below w1 w.heap.size w.heap.size 0 t false ⟨#[]⟩ 2 (Nat.le_refl _))

end

end Go.Proofs.YtafdhmpikkfepaaGreatDoor
