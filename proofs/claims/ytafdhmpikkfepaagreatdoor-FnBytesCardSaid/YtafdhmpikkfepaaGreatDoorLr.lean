import Derived.Test.YtafdhmpikkfepaaGreatDoorFm
import Derived.Laws.Externs
namespace Go.Proofs.YtafdhmpikkfepaaGreatDoor
open Go.RowKit Go.Sort


theorem pick_min (a b : Nat) (ha : a < 9007199254740992) (hb : b < 9007199254740992) (W : World) :
    (Extern.MathDim.pick "math.archMin" true .lt #[.float .f64 (fl a), .float .f64 (fl b)]).run Tryz.prog W = .ok (.float .f64 (fl (min a b))) W := by
  obtain ⟨m, d, hr, hm, hx⟩ := read_fl a ha
  obtain ⟨m2, d2, hr2, hm2, hx2⟩ := read_fl b hb
  have e1 : FloatKind.f64.decode (fl a) = .number false m (-(d : Int)) := hr
  have e2 : FloatKind.f64.decode (fl b) = .number false m2 (-(d2 : Int)) := hr2
  have ho := order_lt a b ha hb
  have ho' : ((Ieee.Datum.number false m (-(d : Int))).order (.number false m2 (-(d2 : Int))) == some .lt) = decide (a < b) := by
    rw [← e1, ← e2]
    exact ho
  change Sem.run Tryz.prog (pure (Value.float .f64 (
    if FloatKind.f64.decode (fl a) == .infinity true || FloatKind.f64.decode (fl b) == .infinity true then FloatKind.f64.encode (.infinity true)
    else if (FloatKind.f64.decode (fl a)).isNaN || (FloatKind.f64.decode (fl b)).isNaN then 0x7FF8000000000001
    else if (FloatKind.f64.decode (fl a)).isZero && (FloatKind.f64.decode (fl b)).isZero then (if (FloatKind.f64.decode (fl a)).neg == true then fl a else fl b)
    else if (FloatKind.f64.decode (fl a)).order (FloatKind.f64.decode (fl b)) == some .lt then fl a else fl b))) W = _
  rw [e1, e2, ho', Sem.run_pure]
  by_cases h0 : a = 0 ∧ b = 0
  · obtain ⟨rfl, rfl⟩ := h0
    have h1 : m = 0 := by rw [hm, Nat.zero_mul]
    have h2 : m2 = 0 := by rw [hm2, Nat.zero_mul]
    subst h1 h2
    simp [Ieee.Datum.isNaN, Ieee.Datum.isZero, Ieee.Datum.neg]
  · have hz : ((Ieee.Datum.number false m (-(d : Int))).isZero && (Ieee.Datum.number false m2 (-(d2 : Int))).isZero) = false := by
      rcases Nat.eq_zero_or_pos a with h | h
      · have hb0 : b ≠ 0 := fun hh => h0 ⟨h, hh⟩
        obtain ⟨h3, _, _⟩ := hx2 hb0
        have : (Ieee.Datum.number false m2 (-(d2 : Int))).isZero = false := by
          cases m2 with
          | zero => exact absurd h3 (by decide)
          | succ k => rfl
        rw [this, Bool.and_false]
      · obtain ⟨h3, _, _⟩ := hx (by omega)
        have : (Ieee.Datum.number false m (-(d : Int))).isZero = false := by
          cases m with
          | zero => exact absurd h3 (by decide)
          | succ k => rfl
        rw [this, Bool.false_and]
    rw [if_neg (by simp), if_neg (by simp [Ieee.Datum.isNaN]), hz]
    by_cases hab : a < b
    · rw [if_neg (by simp), if_pos (by simpa using hab), Nat.min_eq_left (by omega)]
    · rw [if_neg (by simp), if_neg (by simpa using hab), Nat.min_eq_right (by omega)]

theorem arch_min (a b : Nat) (ha : a < 9007199254740992) (hb : b < 9007199254740992) (W : World) :
    (callFunc 124 #[.float .f64 (fl a), .float .f64 (fl b)]).run Tryz.prog W = .ok (.value (.float .f64 (fl (min a b)))) W := by
  rw [run_callFunc_extern Tryz.func124 (by kernel_rfl) (by kernel_rfl) (by kernel_rfl) (e := Extern.MathDim.pick "math.archMin" true .lt) (by kernel_rfl), pick_min a b ha hb]
  rfl

set_option maxRecDepth 100000 in
theorem min_fl (a b : Nat) (w : World) (ha : a < 9007199254740992) (hb : b < 9007199254740992) :
    Calls Tryz.prog 100 #[.float .f64 (fl a), .float .f64 (fl b)] w fun e w' => e = .returned (.float .f64 (fl (min a b))) ∧ w = w' := by
  have hm := arch_min a b ha hb
  go_enter Tryz.func100, Tryz.ntmps100
  go_wp2_with fail
  go_ret
  exact ⟨rfl, rfl⟩

theorem conv_cells (s : ByteArray) (ha : Asc s.data.toList) (W : World) (g : Nat) (hc : ∀ j, j < s.size → W.cell? ⟨g, j, none⟩ = some (.int .i32 ((runeV s.data.toList).getD j 0))) (a b : Nat) (hab : a ≤ b) (hb : b ≤ s.size) (c : Nat) :
    (convert 133 9 (.slice (some ⟨g, a, none⟩) (b - a) c)).run Tryz.prog W = .ok (.string (s.extract a b)) W := by
  have hl : ((runeV s.data.toList).drop a).length = s.size - a := by rw [List.length_drop, runeV_length, size_data]
  rw [run_convert_runes (P := Tryz.prog) W 133 9 21 ⟨g, a, none⟩ (b - a) c ((runeV s.data.toList).drop a) (by rw [hl]; omega) Tryz.underlying133 Tryz.underlying21 Tryz.underlying9 (fun j hj => by
    rw [hl] at hj
    have := hc (a + j) (by omega)
    rw [show (Addr.add ⟨g, a, none⟩ j) = ⟨g, a + j, none⟩ from addr_at _ _ _, this]
    simp [List.getD])]
  rw [runeV_drop, runeV_take, runesBytes_asc _ ((ha.drop a).take _)]
  have := mk_of_list (ext_list s a b)
  rw [← this]

theorem ext_all (s : ByteArray) : s.extract 0 s.size = s := by
  have h := mk_of_list (ext_list s 0 s.size)
  rw [h, List.drop_zero, List.take_of_length_le (by rw [size_data]; omega)]

theorem ext_same (s : ByteArray) (a : Nat) : s.extract a a = ⟨#[]⟩ := by
  have h := mk_of_list (ext_list s a a)
  rw [h, Nat.sub_self, List.take_zero]

section
attribute [local go_sem] run_store_flt run_assert

set_option maxRecDepth 100000 in
set_option maxHeartbeats 1000000 in
theorem leftb_lt (pf lb e0 e1 n : Nat) (s : ByteArray) (w : World) (hn : n ≤ 1000) (hs : s.size ≤ 1000) (ha : Plain s) (hv : View w lb [e0, e1] [fStr s, fNum n]) (hlt : n < s.size) :
    Calls Tryz.prog 76 #[ptr pf, .string ⟨#[76, 69, 70, 84, 66]⟩, ptr lb] w fun e w' => e = .returned (fStr (s.extract 0 n)) ∧ Below w.heap.size w w' := by
  have k0 : w.cell? ⟨e0, 3, none⟩ = some (.iface 67 (fStr s)) := (hv.cell 0 e0 rfl).1
  have k1 : w.cell? ⟨e1, 3, none⟩ = some (.iface 67 (fNum n)) := (hv.cell 1 e1 rfl).1
  have l0 := (hv.cell 0 e0 rfl).2
  have l1 := (hv.cell 1 e1 rfl).2
  have HV := Lib.hid hv
  have HA := Lib.hid (plain_asc s ha)
  clear hv ha
  have hto := conv_to s HA.out hs
  go_enter Tryz.func76, Tryz.ntmps76
  go_wp2_with fail
  refine (len_any lb _ _ _ (HV.out.below (bal (Below.refl _ _) _))).mono ?_
  rintro e w1 ⟨rfl, rfl⟩
  go_wp2_with fail
  refine (len_any lb _ _ _ (HV.out.below (bal (Below.refl _ _) _))).mono ?_
  rintro e w1 ⟨rfl, rfl⟩
  go_wp2_with fail
  refine (front_any lb _ _ _ _ (HV.out.below (bal (Below.refl _ _) _))).mono ?_
  rintro e w1 ⟨rfl, rfl⟩
  go_wp2_with fail
  refine (val_str _ _).mono ?_
  rintro e w1 ⟨rfl, hb1⟩
  have B1 := btr (bal (Below.refl _ w) _) hb1
  have HR := Lib.hid (keep_blk hb1 (heap_alloc_new w _))
  clear k0
  go_wp2_with fail
  have B2 := btr B1 (runeW_below w1 s)
  have HR := Lib.hid (keep_blk (runeW_below w1 s) HR.out)
  have rc := rune_cell w1 s
  have rz := runeW_size w1 s
  obtain ⟨g, hg⟩ : ∃ g, w1.heap.size = g := ⟨_, rfl⟩
  obtain ⟨C, hC⟩ : ∃ C, runeCap w1 s = C := ⟨_, rfl⟩
  have hCs := runeCap_ge w1 s
  obtain ⟨V, hV⟩ : ∃ V, runeW w1 s = V := ⟨_, rfl⟩
  rw [hg, hV] at rc rz
  rw [hV] at B2 HR
  rw [hC] at hCs
  rw [hg, hC, hV]
  clear hg hC hV hto
  have RC := Lib.hid rc
  clear rc
  refine (len_any lb _ _ _ (HV.out.below B2)).mono ?_
  rintro e w2 ⟨rfl, rfl⟩
  go_wp2_with fail
  refine (back_any lb e1 _ _ _ (HV.out.below B2) rfl (by simp)).mono ?_
  rintro e w2 ⟨rfl, rfl⟩
  have q1 : V.cell? ⟨e1, 3, none⟩ = some (.iface 67 (fNum n)) := (B2.cell (p := ⟨e1, 3, none⟩) l1).trans k1
  have n1 : e1 < V.heap.size := Nat.lt_of_lt_of_le l1 B2.size
  clear k1
  go_wp2_with fail
  refine (toNum_any n _ (by omega)).mono ?_
  rintro e w2 ⟨rfl, hb2⟩
  have B3 := btr B2 hb2
  have HR := Lib.hid (keep_blk hb2 HR.out)
  have RC2 : Hid (∀ j, j < s.size → w2.cell? ⟨g, j, none⟩ = some (.int .i32 ((runeV s.data.toList).getD j 0))) := Lib.hid (fun j hj => (hb2.cell (p := ⟨g, j, none⟩) (by show g < _; omega)).trans (RC.out j hj))
  have g2 : g < w2.heap.size := by have := hb2.size; omega
  have ol : (FloatKind.f64.format.order (fl n) 0 == some .lt) = false := by
    have := order_lt n 0 (by omega) (by omega)
    rw [fl_zero] at this
    rw [this]
    simp
  clear q1 n1 RC
  go_wp2_with fail
  rw [fl_int]
  refine (min_fl n s.size _ (by omega) (by omega)).mono ?_
  rintro e w3 ⟨rfl, rfl⟩
  have cv := conv_fl (min n s.size) (by omega)
  have RC3 : Hid (∀ j, j < s.size → (w2.alloc (nBox n)).cell? ⟨g, j, none⟩ = some (.int .i32 ((runeV s.data.toList).getD j 0))) := Lib.hid (fun j hj => ((bal (Below.refl _ w2) (nBox n)).cell (p := ⟨g, j, none⟩) g2).trans (RC2.out j hj))
  have B4 := bal B3 (nBox n)
  have HR := Lib.hid (keep_al HR.out (nBox n))
  obtain ⟨W, hW⟩ : ∃ W, w2.alloc (nBox n) = W := ⟨_, rfl⟩
  rw [hW] at RC3 B4 HR ⊢
  clear hW RC2
  have hmin : min n s.size = n := Nat.min_eq_left (by omega)
  rw [hmin] at cv ⊢
  have hnC : n ≤ C := by omega
  have hbk : ∀ c, (convert 133 9 (.slice (some ⟨g, 0, none⟩) n c)).run Tryz.prog W = .ok (.string (s.extract 0 n)) W := fun c => conv_cells s HA.out W g RC3.out 0 n (Nat.zero_le _) (by omega) c
  go_wp2_with fail
  refine (strf_any _ _).mono ?_
  rintro e w5 ⟨rfl, rfl⟩
  have hR := HR.out
  have cR := fun o => cell_at hR o
  have fR := fun o => free_at hR o
  have lR := heap_lt hR
  clear hR hbk
  go_wp2_with fail
  obtain ⟨t, ht⟩ : ∃ t, s.extract 0 n = t := ⟨_, rfl⟩
  rw [ht]
  refine bodyPost_ret (v := fStr t) ?_ rfl ⟨by rw [← ht], ?_⟩
  · have hT : ((setTen W w.heap.size 0 t false ⟨#[]⟩ 2).alloc (fBox 0 t false ⟨#[]⟩ 2)).heap[w.heap.size]? = some (fBox 0 t false ⟨#[]⟩ 2) := keep_al (setTen_heap HR.out) _
    change Sem.run Tryz.prog (results Tryz.f76 _) ((setTen W w.heap.size 0 t false ⟨#[]⟩ 2).alloc (fBox 0 t false ⟨#[]⟩ 2)) = Result.ok _ ((setTen W w.heap.size 0 t false ⟨#[]⟩ 2).alloc (fBox 0 t false ⟨#[]⟩ 2))
    generalize (setTen W w.heap.size 0 t false ⟨#[]⟩ 2).alloc (fBox 0 t false ⟨#[]⟩ 2) = X at hT ⊢
    have cT := fun o => cell_at hT o
    clear hT
    simp [results, Tryz.results76, go_sem, cT]
  · exact bal (B4.trans (setTen_below W w.heap.size w.heap.size 0 t false ⟨#[]⟩ 2 (Nat.le_refl _))) _

set_option maxRecDepth 100000 in
set_option maxHeartbeats 1000000 in
theorem leftb_ge (pf lb e0 e1 n : Nat) (s : ByteArray) (w : World) (hn : n ≤ 1000) (hs : s.size ≤ 1000) (ha : Plain s) (hv : View w lb [e0, e1] [fStr s, fNum n]) (hge : s.size ≤ n) :
    Calls Tryz.prog 76 #[ptr pf, .string ⟨#[76, 69, 70, 84, 66]⟩, ptr lb] w fun e w' => e = .returned (fStr (s)) ∧ Below w.heap.size w w' := by
  have k0 : w.cell? ⟨e0, 3, none⟩ = some (.iface 67 (fStr s)) := (hv.cell 0 e0 rfl).1
  have k1 : w.cell? ⟨e1, 3, none⟩ = some (.iface 67 (fNum n)) := (hv.cell 1 e1 rfl).1
  have l0 := (hv.cell 0 e0 rfl).2
  have l1 := (hv.cell 1 e1 rfl).2
  have HV := Lib.hid hv
  have HA := Lib.hid (plain_asc s ha)
  clear hv ha
  have hto := conv_to s HA.out hs
  go_enter Tryz.func76, Tryz.ntmps76
  go_wp2_with fail
  refine (len_any lb _ _ _ (HV.out.below (bal (Below.refl _ _) _))).mono ?_
  rintro e w1 ⟨rfl, rfl⟩
  go_wp2_with fail
  refine (len_any lb _ _ _ (HV.out.below (bal (Below.refl _ _) _))).mono ?_
  rintro e w1 ⟨rfl, rfl⟩
  go_wp2_with fail
  refine (front_any lb _ _ _ _ (HV.out.below (bal (Below.refl _ _) _))).mono ?_
  rintro e w1 ⟨rfl, rfl⟩
  go_wp2_with fail
  refine (val_str _ _).mono ?_
  rintro e w1 ⟨rfl, hb1⟩
  have B1 := btr (bal (Below.refl _ w) _) hb1
  have HR := Lib.hid (keep_blk hb1 (heap_alloc_new w _))
  clear k0
  go_wp2_with fail
  have B2 := btr B1 (runeW_below w1 s)
  have HR := Lib.hid (keep_blk (runeW_below w1 s) HR.out)
  have rc := rune_cell w1 s
  have rz := runeW_size w1 s
  obtain ⟨g, hg⟩ : ∃ g, w1.heap.size = g := ⟨_, rfl⟩
  obtain ⟨C, hC⟩ : ∃ C, runeCap w1 s = C := ⟨_, rfl⟩
  have hCs := runeCap_ge w1 s
  obtain ⟨V, hV⟩ : ∃ V, runeW w1 s = V := ⟨_, rfl⟩
  rw [hg, hV] at rc rz
  rw [hV] at B2 HR
  rw [hC] at hCs
  rw [hg, hC, hV]
  clear hg hC hV hto
  have RC := Lib.hid rc
  clear rc
  refine (len_any lb _ _ _ (HV.out.below B2)).mono ?_
  rintro e w2 ⟨rfl, rfl⟩
  go_wp2_with fail
  refine (back_any lb e1 _ _ _ (HV.out.below B2) rfl (by simp)).mono ?_
  rintro e w2 ⟨rfl, rfl⟩
  have q1 : V.cell? ⟨e1, 3, none⟩ = some (.iface 67 (fNum n)) := (B2.cell (p := ⟨e1, 3, none⟩) l1).trans k1
  have n1 : e1 < V.heap.size := Nat.lt_of_lt_of_le l1 B2.size
  clear k1
  go_wp2_with fail
  refine (toNum_any n _ (by omega)).mono ?_
  rintro e w2 ⟨rfl, hb2⟩
  have B3 := btr B2 hb2
  have HR := Lib.hid (keep_blk hb2 HR.out)
  have RC2 : Hid (∀ j, j < s.size → w2.cell? ⟨g, j, none⟩ = some (.int .i32 ((runeV s.data.toList).getD j 0))) := Lib.hid (fun j hj => (hb2.cell (p := ⟨g, j, none⟩) (by show g < _; omega)).trans (RC.out j hj))
  have g2 : g < w2.heap.size := by have := hb2.size; omega
  have ol : (FloatKind.f64.format.order (fl n) 0 == some .lt) = false := by
    have := order_lt n 0 (by omega) (by omega)
    rw [fl_zero] at this
    rw [this]
    simp
  clear q1 n1 RC
  go_wp2_with fail
  rw [fl_int]
  refine (min_fl n s.size _ (by omega) (by omega)).mono ?_
  rintro e w3 ⟨rfl, rfl⟩
  have cv := conv_fl (min n s.size) (by omega)
  have RC3 : Hid (∀ j, j < s.size → (w2.alloc (nBox n)).cell? ⟨g, j, none⟩ = some (.int .i32 ((runeV s.data.toList).getD j 0))) := Lib.hid (fun j hj => ((bal (Below.refl _ w2) (nBox n)).cell (p := ⟨g, j, none⟩) g2).trans (RC2.out j hj))
  have B4 := bal B3 (nBox n)
  have HR := Lib.hid (keep_al HR.out (nBox n))
  obtain ⟨W, hW⟩ : ∃ W, w2.alloc (nBox n) = W := ⟨_, rfl⟩
  rw [hW] at RC3 B4 HR ⊢
  clear hW RC2
  have hmin : min n s.size = s.size := Nat.min_eq_right (by omega)
  rw [hmin] at cv ⊢
  have hbk : ∀ c, (convert 133 9 (.slice (some ⟨g, 0, none⟩) s.size c)).run Tryz.prog W = .ok (.string s) W := fun c => by
    have := conv_cells s HA.out W g RC3.out 0 s.size (Nat.zero_le _) (by omega) c
    rwa [ext_all] at this
  go_wp2_with fail
  refine (strf_any _ _).mono ?_
  rintro e w5 ⟨rfl, rfl⟩
  have hR := HR.out
  have cR := fun o => cell_at hR o
  have fR := fun o => free_at hR o
  have lR := heap_lt hR
  clear hR hbk
  go_wp2_with fail
  obtain ⟨t, ht⟩ : ∃ t, s = t := ⟨_, rfl⟩
  rw [ht]
  refine bodyPost_ret (v := fStr t) ?_ rfl ⟨by rw [← ht], ?_⟩
  · have hT : ((setTen W w.heap.size 0 t false ⟨#[]⟩ 2).alloc (fBox 0 t false ⟨#[]⟩ 2)).heap[w.heap.size]? = some (fBox 0 t false ⟨#[]⟩ 2) := keep_al (setTen_heap HR.out) _
    change Sem.run Tryz.prog (results Tryz.f76 _) ((setTen W w.heap.size 0 t false ⟨#[]⟩ 2).alloc (fBox 0 t false ⟨#[]⟩ 2)) = Result.ok _ ((setTen W w.heap.size 0 t false ⟨#[]⟩ 2).alloc (fBox 0 t false ⟨#[]⟩ 2))
    generalize (setTen W w.heap.size 0 t false ⟨#[]⟩ 2).alloc (fBox 0 t false ⟨#[]⟩ 2) = X at hT ⊢
    have cT := fun o => cell_at hT o
    clear hT
    simp [results, Tryz.results76, go_sem, cT]
  · exact bal (B4.trans (setTen_below W w.heap.size w.heap.size 0 t false ⟨#[]⟩ 2 (Nat.le_refl _))) _

set_option maxRecDepth 100000 in
set_option maxHeartbeats 1000000 in
theorem rightb_ge (pf lb e0 e1 n : Nat) (s : ByteArray) (w : World) (hn : n ≤ 1000) (hs : s.size ≤ 1000) (ha : Plain s) (hv : View w lb [e0, e1] [fStr s, fNum n]) (hge : s.size ≤ n) :
    Calls Tryz.prog 76 #[ptr pf, .string ⟨#[82, 73, 71, 72, 84, 66]⟩, ptr lb] w fun e w' => e = .returned (fStr (s)) ∧ Below w.heap.size w w' := by
  have k0 : w.cell? ⟨e0, 3, none⟩ = some (.iface 67 (fStr s)) := (hv.cell 0 e0 rfl).1
  have k1 : w.cell? ⟨e1, 3, none⟩ = some (.iface 67 (fNum n)) := (hv.cell 1 e1 rfl).1
  have l0 := (hv.cell 0 e0 rfl).2
  have l1 := (hv.cell 1 e1 rfl).2
  have HV := Lib.hid hv
  have HA := Lib.hid (plain_asc s ha)
  clear hv ha
  have hto := conv_to s HA.out hs
  go_enter Tryz.func76, Tryz.ntmps76
  go_wp2_with fail
  refine (len_any lb _ _ _ (HV.out.below (bal (Below.refl _ _) _))).mono ?_
  rintro e w1 ⟨rfl, rfl⟩
  go_wp2_with fail
  refine (len_any lb _ _ _ (HV.out.below (bal (Below.refl _ _) _))).mono ?_
  rintro e w1 ⟨rfl, rfl⟩
  go_wp2_with fail
  refine (front_any lb _ _ _ _ (HV.out.below (bal (Below.refl _ _) _))).mono ?_
  rintro e w1 ⟨rfl, rfl⟩
  go_wp2_with fail
  refine (val_str _ _).mono ?_
  rintro e w1 ⟨rfl, hb1⟩
  have B1 := btr (bal (Below.refl _ w) _) hb1
  have HR := Lib.hid (keep_blk hb1 (heap_alloc_new w _))
  clear k0
  go_wp2_with fail
  have B2 := btr B1 (runeW_below w1 s)
  have HR := Lib.hid (keep_blk (runeW_below w1 s) HR.out)
  have rc := rune_cell w1 s
  have rz := runeW_size w1 s
  obtain ⟨g, hg⟩ : ∃ g, w1.heap.size = g := ⟨_, rfl⟩
  obtain ⟨C, hC⟩ : ∃ C, runeCap w1 s = C := ⟨_, rfl⟩
  have hCs := runeCap_ge w1 s
  obtain ⟨V, hV⟩ : ∃ V, runeW w1 s = V := ⟨_, rfl⟩
  rw [hg, hV] at rc rz
  rw [hV] at B2 HR
  rw [hC] at hCs
  rw [hg, hC, hV]
  clear hg hC hV hto
  have RC := Lib.hid rc
  clear rc
  refine (len_any lb _ _ _ (HV.out.below B2)).mono ?_
  rintro e w2 ⟨rfl, rfl⟩
  go_wp2_with fail
  refine (back_any lb e1 _ _ _ (HV.out.below B2) rfl (by simp)).mono ?_
  rintro e w2 ⟨rfl, rfl⟩
  have q1 : V.cell? ⟨e1, 3, none⟩ = some (.iface 67 (fNum n)) := (B2.cell (p := ⟨e1, 3, none⟩) l1).trans k1
  have n1 : e1 < V.heap.size := Nat.lt_of_lt_of_le l1 B2.size
  clear k1
  go_wp2_with fail
  refine (toNum_any n _ (by omega)).mono ?_
  rintro e w2 ⟨rfl, hb2⟩
  have B3 := btr B2 hb2
  have HR := Lib.hid (keep_blk hb2 HR.out)
  have RC2 : Hid (∀ j, j < s.size → w2.cell? ⟨g, j, none⟩ = some (.int .i32 ((runeV s.data.toList).getD j 0))) := Lib.hid (fun j hj => (hb2.cell (p := ⟨g, j, none⟩) (by show g < _; omega)).trans (RC.out j hj))
  have g2 : g < w2.heap.size := by have := hb2.size; omega
  have ol : (FloatKind.f64.format.order (fl n) 0 == some .lt) = false := by
    have := order_lt n 0 (by omega) (by omega)
    rw [fl_zero] at this
    rw [this]
    simp
  clear q1 n1 RC
  go_wp2_with fail
  rw [fl_int]
  refine (min_fl n s.size _ (by omega) (by omega)).mono ?_
  rintro e w3 ⟨rfl, rfl⟩
  have cv := conv_fl (min n s.size) (by omega)
  have RC3 : Hid (∀ j, j < s.size → (w2.alloc (nBox n)).cell? ⟨g, j, none⟩ = some (.int .i32 ((runeV s.data.toList).getD j 0))) := Lib.hid (fun j hj => ((bal (Below.refl _ w2) (nBox n)).cell (p := ⟨g, j, none⟩) g2).trans (RC2.out j hj))
  have B4 := bal B3 (nBox n)
  have HR := Lib.hid (keep_al HR.out (nBox n))
  obtain ⟨W, hW⟩ : ∃ W, w2.alloc (nBox n) = W := ⟨_, rfl⟩
  rw [hW] at RC3 B4 HR ⊢
  clear hW RC2
  have hmin : min n s.size = s.size := Nat.min_eq_right (by omega)
  rw [hmin] at cv ⊢
  have hbk : ∀ c, (convert 133 9 (.slice (some ⟨g, 0, none⟩) s.size c)).run Tryz.prog W = .ok (.string s) W := fun c => by
    have := conv_cells s HA.out W g RC3.out 0 s.size (Nat.zero_le _) (by omega) c
    rwa [ext_all] at this
  go_wp2_with fail
  refine (strf_any _ _).mono ?_
  rintro e w5 ⟨rfl, rfl⟩
  have hR := HR.out
  have cR := fun o => cell_at hR o
  have fR := fun o => free_at hR o
  have lR := heap_lt hR
  clear hR hbk
  go_wp2_with fail
  obtain ⟨t, ht⟩ : ∃ t, s = t := ⟨_, rfl⟩
  rw [ht]
  refine bodyPost_ret (v := fStr t) ?_ rfl ⟨by rw [← ht], ?_⟩
  · have hT : ((setTen W w.heap.size 0 t false ⟨#[]⟩ 2).alloc (fBox 0 t false ⟨#[]⟩ 2)).heap[w.heap.size]? = some (fBox 0 t false ⟨#[]⟩ 2) := keep_al (setTen_heap HR.out) _
    change Sem.run Tryz.prog (results Tryz.f76 _) ((setTen W w.heap.size 0 t false ⟨#[]⟩ 2).alloc (fBox 0 t false ⟨#[]⟩ 2)) = Result.ok _ ((setTen W w.heap.size 0 t false ⟨#[]⟩ 2).alloc (fBox 0 t false ⟨#[]⟩ 2))
    generalize (setTen W w.heap.size 0 t false ⟨#[]⟩ 2).alloc (fBox 0 t false ⟨#[]⟩ 2) = X at hT ⊢
    have cT := fun o => cell_at hT o
    clear hT
    simp [results, Tryz.results76, go_sem, cT]
  · exact bal (B4.trans (setTen_below W w.heap.size w.heap.size 0 t false ⟨#[]⟩ 2 (Nat.le_refl _))) _

set_option maxRecDepth 100000 in
set_option maxHeartbeats 1000000 in
theorem rightb_lt (pf lb e0 e1 n : Nat) (s : ByteArray) (w : World) (hn : n ≤ 1000) (hs : s.size ≤ 1000) (ha : Plain s) (hv : View w lb [e0, e1] [fStr s, fNum n]) (hlt : n < s.size) (h0 : 0 < n) :
    Calls Tryz.prog 76 #[ptr pf, .string ⟨#[82, 73, 71, 72, 84, 66]⟩, ptr lb] w fun e w' => e = .returned (fStr (s.extract (s.size - n) s.size)) ∧ Below w.heap.size w w' := by
  have k0 : w.cell? ⟨e0, 3, none⟩ = some (.iface 67 (fStr s)) := (hv.cell 0 e0 rfl).1
  have k1 : w.cell? ⟨e1, 3, none⟩ = some (.iface 67 (fNum n)) := (hv.cell 1 e1 rfl).1
  have l0 := (hv.cell 0 e0 rfl).2
  have l1 := (hv.cell 1 e1 rfl).2
  have HV := Lib.hid hv
  have HA := Lib.hid (plain_asc s ha)
  clear hv ha
  have hto := conv_to s HA.out hs
  go_enter Tryz.func76, Tryz.ntmps76
  go_wp2_with fail
  refine (len_any lb _ _ _ (HV.out.below (bal (Below.refl _ _) _))).mono ?_
  rintro e w1 ⟨rfl, rfl⟩
  go_wp2_with fail
  refine (len_any lb _ _ _ (HV.out.below (bal (Below.refl _ _) _))).mono ?_
  rintro e w1 ⟨rfl, rfl⟩
  go_wp2_with fail
  refine (front_any lb _ _ _ _ (HV.out.below (bal (Below.refl _ _) _))).mono ?_
  rintro e w1 ⟨rfl, rfl⟩
  go_wp2_with fail
  refine (val_str _ _).mono ?_
  rintro e w1 ⟨rfl, hb1⟩
  have B1 := btr (bal (Below.refl _ w) _) hb1
  have HR := Lib.hid (keep_blk hb1 (heap_alloc_new w _))
  clear k0
  go_wp2_with fail
  have B2 := btr B1 (runeW_below w1 s)
  have HR := Lib.hid (keep_blk (runeW_below w1 s) HR.out)
  have rc := rune_cell w1 s
  have rz := runeW_size w1 s
  obtain ⟨g, hg⟩ : ∃ g, w1.heap.size = g := ⟨_, rfl⟩
  obtain ⟨C, hC⟩ : ∃ C, runeCap w1 s = C := ⟨_, rfl⟩
  have hCs := runeCap_ge w1 s
  obtain ⟨V, hV⟩ : ∃ V, runeW w1 s = V := ⟨_, rfl⟩
  rw [hg, hV] at rc rz
  rw [hV] at B2 HR
  rw [hC] at hCs
  rw [hg, hC, hV]
  clear hg hC hV hto
  have RC := Lib.hid rc
  clear rc
  refine (len_any lb _ _ _ (HV.out.below B2)).mono ?_
  rintro e w2 ⟨rfl, rfl⟩
  go_wp2_with fail
  refine (back_any lb e1 _ _ _ (HV.out.below B2) rfl (by simp)).mono ?_
  rintro e w2 ⟨rfl, rfl⟩
  have q1 : V.cell? ⟨e1, 3, none⟩ = some (.iface 67 (fNum n)) := (B2.cell (p := ⟨e1, 3, none⟩) l1).trans k1
  have n1 : e1 < V.heap.size := Nat.lt_of_lt_of_le l1 B2.size
  clear k1
  go_wp2_with fail
  refine (toNum_any n _ (by omega)).mono ?_
  rintro e w2 ⟨rfl, hb2⟩
  have B3 := btr B2 hb2
  have HR := Lib.hid (keep_blk hb2 HR.out)
  have RC2 : Hid (∀ j, j < s.size → w2.cell? ⟨g, j, none⟩ = some (.int .i32 ((runeV s.data.toList).getD j 0))) := Lib.hid (fun j hj => (hb2.cell (p := ⟨g, j, none⟩) (by show g < _; omega)).trans (RC.out j hj))
  have g2 : g < w2.heap.size := by have := hb2.size; omega
  have ol : (FloatKind.f64.format.order (fl n) 0 == some .lt) = false := by
    have := order_lt n 0 (by omega) (by omega)
    rw [fl_zero] at this
    rw [this]
    simp
  clear q1 n1 RC
  go_wp2_with fail
  rw [fl_int]
  refine (min_fl n s.size _ (by omega) (by omega)).mono ?_
  rintro e w3 ⟨rfl, rfl⟩
  have cv := conv_fl (min n s.size) (by omega)
  have RC3 : Hid (∀ j, j < s.size → (w2.alloc (nBox n)).cell? ⟨g, j, none⟩ = some (.int .i32 ((runeV s.data.toList).getD j 0))) := Lib.hid (fun j hj => ((bal (Below.refl _ w2) (nBox n)).cell (p := ⟨g, j, none⟩) g2).trans (RC2.out j hj))
  have B4 := bal B3 (nBox n)
  have HR := Lib.hid (keep_al HR.out (nBox n))
  obtain ⟨W, hW⟩ : ∃ W, w2.alloc (nBox n) = W := ⟨_, rfl⟩
  rw [hW] at RC3 B4 HR ⊢
  clear hW RC2
  have hmin : min n s.size = n := Nat.min_eq_left (by omega)
  rw [hmin] at cv ⊢
  have hnC : n ≤ C := by omega
  obtain ⟨j, hj⟩ : ∃ j, s.size - n = j := ⟨_, rfl⟩
  have hjs : s.size = n + j := by omega
  have hjC : n + j ≤ C := by omega
  have hCj : C ≠ j := by omega
  have hbk : ∀ c, (convert 133 9 (.slice (some ⟨g, j, none⟩) n c)).run Tryz.prog W = .ok (.string (s.extract j (n + j))) W := fun c => by
    have := conv_cells s HA.out W g RC3.out j (n + j) (by omega) (by omega) c
    rwa [Nat.add_sub_cancel] at this
  go_wp2_with fail
  refine (strf_any _ _).mono ?_
  rintro e w5 ⟨rfl, rfl⟩
  have hR := HR.out
  have cR := fun o => cell_at hR o
  have fR := fun o => free_at hR o
  have lR := heap_lt hR
  clear hR hbk
  go_wp2_with fail
  obtain ⟨t, ht⟩ : ∃ t, s.extract j (n + j) = t := ⟨_, rfl⟩
  rw [ht]
  refine bodyPost_ret (v := fStr t) ?_ rfl ⟨by rw [← ht, hj, hjs], ?_⟩
  · have hT : ((setTen W w.heap.size 0 t false ⟨#[]⟩ 2).alloc (fBox 0 t false ⟨#[]⟩ 2)).heap[w.heap.size]? = some (fBox 0 t false ⟨#[]⟩ 2) := keep_al (setTen_heap HR.out) _
    change Sem.run Tryz.prog (results Tryz.f76 _) ((setTen W w.heap.size 0 t false ⟨#[]⟩ 2).alloc (fBox 0 t false ⟨#[]⟩ 2)) = Result.ok _ ((setTen W w.heap.size 0 t false ⟨#[]⟩ 2).alloc (fBox 0 t false ⟨#[]⟩ 2))
    generalize (setTen W w.heap.size 0 t false ⟨#[]⟩ 2).alloc (fBox 0 t false ⟨#[]⟩ 2) = X at hT ⊢
    have cT := fun o => cell_at hT o
    clear hT
    simp [results, Tryz.results76, go_sem, cT]
  · exact bal (B4.trans (setTen_below W w.heap.size w.heap.size 0 t false ⟨#[]⟩ 2 (Nat.le_refl _))) _

set_option maxRecDepth 100000 in
set_option maxHeartbeats 1000000 in
theorem rightb_zero (pf lb e0 e1 n : Nat) (s : ByteArray) (w : World) (hn : n ≤ 1000) (hs : s.size ≤ 1000) (ha : Plain s) (hv : View w lb [e0, e1] [fStr s, fNum n]) (hlt : n < s.size) (h00 : Hid (n = 0)) :
    Calls Tryz.prog 76 #[ptr pf, .string ⟨#[82, 73, 71, 72, 84, 66]⟩, ptr lb] w fun e w' => e = .returned (fStr (s.extract (s.size - n) s.size)) ∧ Below w.heap.size w w' := by
  have k0 : w.cell? ⟨e0, 3, none⟩ = some (.iface 67 (fStr s)) := (hv.cell 0 e0 rfl).1
  have k1 : w.cell? ⟨e1, 3, none⟩ = some (.iface 67 (fNum n)) := (hv.cell 1 e1 rfl).1
  have l0 := (hv.cell 0 e0 rfl).2
  have l1 := (hv.cell 1 e1 rfl).2
  have HV := Lib.hid hv
  have HA := Lib.hid (plain_asc s ha)
  clear hv ha
  have hto := conv_to s HA.out hs
  go_enter Tryz.func76, Tryz.ntmps76
  go_wp2_with fail
  refine (len_any lb _ _ _ (HV.out.below (bal (Below.refl _ _) _))).mono ?_
  rintro e w1 ⟨rfl, rfl⟩
  go_wp2_with fail
  refine (len_any lb _ _ _ (HV.out.below (bal (Below.refl _ _) _))).mono ?_
  rintro e w1 ⟨rfl, rfl⟩
  go_wp2_with fail
  refine (front_any lb _ _ _ _ (HV.out.below (bal (Below.refl _ _) _))).mono ?_
  rintro e w1 ⟨rfl, rfl⟩
  go_wp2_with fail
  refine (val_str _ _).mono ?_
  rintro e w1 ⟨rfl, hb1⟩
  have B1 := btr (bal (Below.refl _ w) _) hb1
  have HR := Lib.hid (keep_blk hb1 (heap_alloc_new w _))
  clear k0
  go_wp2_with fail
  have B2 := btr B1 (runeW_below w1 s)
  have HR := Lib.hid (keep_blk (runeW_below w1 s) HR.out)
  have rc := rune_cell w1 s
  have rz := runeW_size w1 s
  obtain ⟨g, hg⟩ : ∃ g, w1.heap.size = g := ⟨_, rfl⟩
  obtain ⟨C, hC⟩ : ∃ C, runeCap w1 s = C := ⟨_, rfl⟩
  have hCs := runeCap_ge w1 s
  obtain ⟨V, hV⟩ : ∃ V, runeW w1 s = V := ⟨_, rfl⟩
  rw [hg, hV] at rc rz
  rw [hV] at B2 HR
  rw [hC] at hCs
  rw [hg, hC, hV]
  clear hg hC hV hto
  have RC := Lib.hid rc
  clear rc
  refine (len_any lb _ _ _ (HV.out.below B2)).mono ?_
  rintro e w2 ⟨rfl, rfl⟩
  go_wp2_with fail
  refine (back_any lb e1 _ _ _ (HV.out.below B2) rfl (by simp)).mono ?_
  rintro e w2 ⟨rfl, rfl⟩
  have q1 : V.cell? ⟨e1, 3, none⟩ = some (.iface 67 (fNum n)) := (B2.cell (p := ⟨e1, 3, none⟩) l1).trans k1
  have n1 : e1 < V.heap.size := Nat.lt_of_lt_of_le l1 B2.size
  clear k1
  go_wp2_with fail
  refine (toNum_any n _ (by omega)).mono ?_
  rintro e w2 ⟨rfl, hb2⟩
  have B3 := btr B2 hb2
  have HR := Lib.hid (keep_blk hb2 HR.out)
  have RC2 : Hid (∀ j, j < s.size → w2.cell? ⟨g, j, none⟩ = some (.int .i32 ((runeV s.data.toList).getD j 0))) := Lib.hid (fun j hj => (hb2.cell (p := ⟨g, j, none⟩) (by show g < _; omega)).trans (RC.out j hj))
  have g2 : g < w2.heap.size := by have := hb2.size; omega
  have ol : (FloatKind.f64.format.order (fl n) 0 == some .lt) = false := by
    have := order_lt n 0 (by omega) (by omega)
    rw [fl_zero] at this
    rw [this]
    simp
  clear q1 n1 RC
  go_wp2_with fail
  rw [fl_int]
  refine (min_fl n s.size _ (by omega) (by omega)).mono ?_
  rintro e w3 ⟨rfl, rfl⟩
  have cv := conv_fl (min n s.size) (by omega)
  have RC3 : Hid (∀ j, j < s.size → (w2.alloc (nBox n)).cell? ⟨g, j, none⟩ = some (.int .i32 ((runeV s.data.toList).getD j 0))) := Lib.hid (fun j hj => ((bal (Below.refl _ w2) (nBox n)).cell (p := ⟨g, j, none⟩) g2).trans (RC2.out j hj))
  have B4 := bal B3 (nBox n)
  have HR := Lib.hid (keep_al HR.out (nBox n))
  obtain ⟨W, hW⟩ : ∃ W, w2.alloc (nBox n) = W := ⟨_, rfl⟩
  rw [hW] at RC3 B4 HR ⊢
  clear hW RC2
  have hmin : min n s.size = n := Nat.min_eq_left (by omega)
  rw [hmin] at cv ⊢
  have hnC : n ≤ C := by omega
  obtain ⟨j, hj⟩ : ∃ j, s.size - n = j := ⟨_, rfl⟩
  have hjs : s.size = n + j := by omega
  have hjC : n + j ≤ C := by omega
  have hbk : ∀ c, (convert 133 9 (.slice (some ⟨g, j, none⟩) n c)).run Tryz.prog W = .ok (.string (s.extract j (n + j))) W := fun c => by
    have := conv_cells s HA.out W g RC3.out j (n + j) (by omega) (by omega) c
    rwa [Nat.add_sub_cancel] at this
  have hbk0 : ∀ c, (convert 133 9 (.slice (some ⟨g, 0, none⟩) n c)).run Tryz.prog W = .ok (.string (s.extract j (n + j))) W := fun c => by
    have := conv_cells s HA.out W g RC3.out 0 0 (by omega) (by omega) c
    rw [h00.out, Nat.zero_add, ext_same]
    rwa [ext_same] at this
  by_cases hCj : C = j
  · go_wp2_with fail
    refine (strf_any _ _).mono ?_
    rintro e w5 ⟨rfl, rfl⟩
    have hR := HR.out
    have cR := fun o => cell_at hR o
    have fR := fun o => free_at hR o
    have lR := heap_lt hR
    clear hR hbk
    go_wp2_with fail
    obtain ⟨t, ht⟩ : ∃ t, s.extract j (n + j) = t := ⟨_, rfl⟩
    rw [ht]
    refine bodyPost_ret (v := fStr t) ?_ rfl ⟨by rw [← ht, hj, hjs], ?_⟩
    · have hT : ((setTen W w.heap.size 0 t false ⟨#[]⟩ 2).alloc (fBox 0 t false ⟨#[]⟩ 2)).heap[w.heap.size]? = some (fBox 0 t false ⟨#[]⟩ 2) := keep_al (setTen_heap HR.out) _
      change Sem.run Tryz.prog (results Tryz.f76 _) ((setTen W w.heap.size 0 t false ⟨#[]⟩ 2).alloc (fBox 0 t false ⟨#[]⟩ 2)) = Result.ok _ ((setTen W w.heap.size 0 t false ⟨#[]⟩ 2).alloc (fBox 0 t false ⟨#[]⟩ 2))
      generalize (setTen W w.heap.size 0 t false ⟨#[]⟩ 2).alloc (fBox 0 t false ⟨#[]⟩ 2) = X at hT ⊢
      have cT := fun o => cell_at hT o
      clear hT
      simp [results, Tryz.results76, go_sem, cT]
    · exact bal (B4.trans (setTen_below W w.heap.size w.heap.size 0 t false ⟨#[]⟩ 2 (Nat.le_refl _))) _
  · go_wp2_with fail
    refine (strf_any _ _).mono ?_
    rintro e w5 ⟨rfl, rfl⟩
    have hR := HR.out
    have cR := fun o => cell_at hR o
    have fR := fun o => free_at hR o
    have lR := heap_lt hR
    clear hR hbk
    go_wp2_with fail
    obtain ⟨t, ht⟩ : ∃ t, s.extract j (n + j) = t := ⟨_, rfl⟩
    rw [ht]
    refine bodyPost_ret (v := fStr t) ?_ rfl ⟨by rw [← ht, hj, hjs], ?_⟩
    · have hT : ((setTen W w.heap.size 0 t false ⟨#[]⟩ 2).alloc (fBox 0 t false ⟨#[]⟩ 2)).heap[w.heap.size]? = some (fBox 0 t false ⟨#[]⟩ 2) := keep_al (setTen_heap HR.out) _
      change Sem.run Tryz.prog (results Tryz.f76 _) ((setTen W w.heap.size 0 t false ⟨#[]⟩ 2).alloc (fBox 0 t false ⟨#[]⟩ 2)) = Result.ok _ ((setTen W w.heap.size 0 t false ⟨#[]⟩ 2).alloc (fBox 0 t false ⟨#[]⟩ 2))
      generalize (setTen W w.heap.size 0 t false ⟨#[]⟩ 2).alloc (fBox 0 t false ⟨#[]⟩ 2) = X at hT ⊢
      have cT := fun o => cell_at hT o
      clear hT
      simp [results, Tryz.results76, go_sem, cT]
    · exact bal (B4.trans (setTen_below W w.heap.size w.heap.size 0 t false ⟨#[]⟩ 2 (Nat.le_refl _))) _
end

end Go.Proofs.YtafdhmpikkfepaaGreatDoor
