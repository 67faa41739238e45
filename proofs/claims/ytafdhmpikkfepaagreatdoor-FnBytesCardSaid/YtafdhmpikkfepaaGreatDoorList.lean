import Derived.Test.YtafdhmpikkfepaaGreatDoorArgs
import Derived.LaidEqlPtr
namespace Go.Proofs.YtafdhmpikkfepaaGreatDoor
open Go.RowKit

abbrev ptr (b : Nat) : Value := .pointer (some ⟨b, 0, none⟩)

set_option maxHeartbeats 400000 in
theorem list_new (w : World) :
    Calls Tryz.prog 62 #[] w fun e w' => e = .returned (ptr w.heap.size) ∧ w' = w.alloc (.cells #[ptr w.heap.size, ptr w.heap.size, .pointer none, .nilIface, .int .i64 0] 105) := by
  go_enter Tryz.func62, Tryz.ntmps62
  go_wp2
  go_ret
  exact ⟨rfl, rfl⟩

theorem lazy_any (lb x : Nat) (w : World) (c0 : w.cell? ⟨lb, 0, none⟩ = some (ptr x)) :
    Calls Tryz.prog 86 #[ptr lb] w fun e w' => e = .returned (.tuple #[]) ∧ w = w' := by
  go_enter Tryz.func86, Tryz.ntmps86
  go_wp2
  go_end0
  exact ⟨rfl, rfl⟩

/-- the world behind a push -/
def pushed (w : World) (lb ab n : Nat) (v : Value) : World :=
  (((w.setCell ⟨ab, 0, none⟩ (ptr w.heap.size)).setCell ⟨lb, 1, none⟩ (ptr w.heap.size)).setCell ⟨lb, 4, none⟩ (.int .i64 ((n : Int) + 1))).alloc (.cells #[ptr lb, ptr ab, ptr lb, .iface 67 v] 86)

set_option maxHeartbeats 400000 in
theorem insv_raw (lb ab n : Nat) (v : Value) (w : World) (hn : n < 1000) (c1 : w.cell? ⟨lb, 1, none⟩ = some (ptr ab)) (c4 : w.cell? ⟨lb, 4, none⟩ = some (.int .i64 (n : Int)))
    (ca : w.cell? ⟨ab, 0, none⟩ = some (ptr lb)) (f1 : w.frozen? ⟨lb, 1, none⟩ = false) (f4 : w.frozen? ⟨lb, 4, none⟩ = false) (fa : w.frozen? ⟨ab, 0, none⟩ = false) (hlb : lb < w.heap.size) (hab : ab < w.heap.size) :
    Calls Tryz.prog 87 #[ptr lb, .iface 67 v, ptr ab] w fun e w' => e = .returned (ptr w.heap.size) ∧ w' = pushed w lb ab n v := by
  go_enter Tryz.func87, Tryz.ntmps87
  go_wp2
  go_ret
  exact ⟨rfl, rfl⟩

theorem push_raw (lb ab x n : Nat) (v : Value) (w : World) (hn : n < 1000) (c0 : w.cell? ⟨lb, 0, none⟩ = some (ptr x)) (c1 : w.cell? ⟨lb, 1, none⟩ = some (ptr ab)) (c4 : w.cell? ⟨lb, 4, none⟩ = some (.int .i64 (n : Int)))
    (ca : w.cell? ⟨ab, 0, none⟩ = some (ptr lb)) (f1 : w.frozen? ⟨lb, 1, none⟩ = false) (f4 : w.frozen? ⟨lb, 4, none⟩ = false) (fa : w.frozen? ⟨ab, 0, none⟩ = false) (hlb : lb < w.heap.size) (hab : ab < w.heap.size) :
    Calls Tryz.prog 63 #[ptr lb, .iface 67 v] w fun e w' => e = .returned (ptr w.heap.size) ∧ w' = pushed w lb ab n v := by
  go_enter Tryz.func63, Tryz.ntmps63
  go_wp2_with (first | (go_at_call 86; refine (lazy_any lb x _ (by assumption)).mono ?_; rintro e w' ⟨rfl, rfl⟩) | (go_at_call 87; refine (insv_raw lb ab n v _ hn c1 c4 ca f1 f4 fa hlb hab).mono ?_; rintro e w' ⟨rfl, rfl⟩))
  go_ret
  exact ⟨rfl, rfl⟩

/-- a list of the package container/list that a call has made -/
def ListAt (w : World) (base lb : Nat) (vs : List Value) : Prop :=
  ∃ es : List Nat, es.length = vs.length ∧ base ≤ lb ∧ (∀ e ∈ es, base ≤ e ∧ e ≠ lb ∧ e < w.heap.size) ∧ es.Nodup ∧
    w.heap[lb]? = some (.cells #[ptr (es.headD lb), ptr (es.getLastD lb), .pointer none, .nilIface, .int .i64 (vs.length : Nat)] 105) ∧
    ∀ i (h : i < es.length), ∃ pv, w.heap[es[i]]? = some (.cells #[ptr (es.getD (i + 1) lb), pv, ptr lb, .iface 67 (vs.getD i undef)] 86)

theorem heap_set_same {w : World} {b o : Nat} {u : Value} {cs : Array Value} {t : TypeId} (h : w.heap[b]? = some (.cells cs t)) : (w.setCell ⟨b, o, none⟩ u).heap[b]? = some (.cells (cs.setIfInBounds o u) t) := by
  simp [World.setCell, Array.getElem?_modify, h]
theorem heap_set_other {w : World} {b o k : Nat} {u : Value} (h : k ≠ b) : (w.setCell ⟨b, o, none⟩ u).heap[k]? = w.heap[k]? := Below.heap_setCell w ⟨b, o, none⟩ u k h
theorem heap_lt {w : World} {b : Nat} {o : Obj} (h : w.heap[b]? = some o) : b < w.heap.size := (Array.getElem?_eq_some_iff.1 h).1
theorem cell_at {w : World} {b : Nat} {cs : Array Value} {t : TypeId} (h : w.heap[b]? = some (.cells cs t)) (i : Nat) : w.cell? ⟨b, i, none⟩ = cs[i]? := cell_of_row w b i cs t (0, 0) h
theorem free_at {w : World} {b : Nat} {cs : Array Value} {t : TypeId} (h : w.heap[b]? = some (.cells cs t)) (i : Nat) : w.frozen? ⟨b, i, none⟩ = false := by simp [World.frozen?, h]

theorem pushed_size (w : World) (lb ab n : Nat) (v : Value) : (pushed w lb ab n v).heap.size = w.heap.size + 1 := by simp [pushed, World.setCell]

theorem pushed_new (w : World) (lb ab n : Nat) (v : Value) : (pushed w lb ab n v).heap[w.heap.size]? = some (.cells #[ptr lb, ptr ab, ptr lb, .iface 67 v] 86) := by
  have h := heap_alloc_new (((w.setCell ⟨ab, 0, none⟩ (ptr w.heap.size)).setCell ⟨lb, 1, none⟩ (ptr w.heap.size)).setCell ⟨lb, 4, none⟩ (.int .i64 ((n : Int) + 1))) (.cells #[ptr lb, ptr ab, ptr lb, .iface 67 v] 86)
  have e : (((w.setCell ⟨ab, 0, none⟩ (ptr w.heap.size)).setCell ⟨lb, 1, none⟩ (ptr w.heap.size)).setCell ⟨lb, 4, none⟩ (.int .i64 ((n : Int) + 1))).heap.size = w.heap.size := by simp [World.setCell]
  rw [e] at h
  exact h

theorem pushed_old (w : World) (lb ab n k : Nat) (v : Value) (hk : k < w.heap.size) : (pushed w lb ab n v).heap[k]? = (((w.setCell ⟨ab, 0, none⟩ (ptr w.heap.size)).setCell ⟨lb, 1, none⟩ (ptr w.heap.size)).setCell ⟨lb, 4, none⟩ (.int .i64 ((n : Int) + 1))).heap[k]? :=
  Below.heap_alloc _ _ _ (by simpa [World.setCell] using hk)

theorem pushed_far (w : World) (lb ab n k : Nat) (v : Value) (hk : k < w.heap.size) (h1 : k ≠ lb) (h2 : k ≠ ab) : (pushed w lb ab n v).heap[k]? = w.heap[k]? := by
  rw [pushed_old w lb ab n k v hk, heap_set_other h1, heap_set_other h1, heap_set_other h2]

theorem pushed_below (w : World) (B lb ab n : Nat) (v : Value) (h1 : B ≤ lb) (h2 : B ≤ ab) (hB : B ≤ w.heap.size) : Below B w (pushed w lb ab n v) :=
  ((((Below.refl B w).setCell (p := ⟨ab, 0, none⟩) h2 _).setCell (p := ⟨lb, 1, none⟩) h1 _).setCell (p := ⟨lb, 4, none⟩) h1 _).alloc (by simpa [World.setCell] using hB) _

theorem ListAt.below {w w' : World} {base lb : Nat} {vs : List Value} (h : ListAt w base lb vs) (hb : Below w.heap.size w w') : ListAt w' base lb vs := by
  obtain ⟨es, h1, h2, h3, h4, h5, h6⟩ := h
  refine ⟨es, h1, h2, fun e he => ⟨(h3 e he).1, (h3 e he).2.1, Nat.lt_of_lt_of_le (h3 e he).2.2 hb.size⟩, h4, ?_, fun i hi => ?_⟩
  · rw [hb.block lb (heap_lt h5)]; exact h5
  · obtain ⟨pv, h⟩ := h6 i hi
    exact ⟨pv, by rw [hb.block _ (heap_lt h)]; exact h⟩

theorem getD_snoc_lt (es : List Nat) (e d : Nat) (j : Nat) (h : j < es.length) : (es ++ [e]).getD j d = es.getD j d := by
  simp [List.getD, List.getElem?_append_left h]

theorem ListAt.push {w : World} {base lb : Nat} {vs : List Value} (h : ListAt w base lb vs) (hbase : base ≤ w.heap.size) :
    ∃ ab x : Nat, w.cell? ⟨lb, 0, none⟩ = some (ptr x) ∧ w.cell? ⟨lb, 1, none⟩ = some (ptr ab) ∧ w.cell? ⟨lb, 4, none⟩ = some (.int .i64 ((vs.length : Nat) : Int)) ∧ w.cell? ⟨ab, 0, none⟩ = some (ptr lb) ∧
      w.frozen? ⟨lb, 1, none⟩ = false ∧ w.frozen? ⟨lb, 4, none⟩ = false ∧ w.frozen? ⟨ab, 0, none⟩ = false ∧ lb < w.heap.size ∧ ab < w.heap.size ∧ base ≤ ab ∧ base ≤ lb ∧
      ∀ v, ListAt (pushed w lb ab vs.length v) base lb (vs ++ [v]) := by
  obtain ⟨es, h1, h2, h3, h4, h5, h6⟩ := h
  have hlb := heap_lt h5
  rcases List.eq_nil_or_concat es with rfl | ⟨l, a, rfl⟩
  · -- an empty list
    have hv : vs = [] := List.eq_nil_of_length_eq_zero (by simpa using h1.symm)
    subst hv
    refine ⟨lb, lb, by rw [cell_at h5]; rfl, by rw [cell_at h5]; rfl, by rw [cell_at h5]; rfl, by rw [cell_at h5]; rfl, free_at h5 _, free_at h5 _, free_at h5 _, hlb, hlb, h2, h2, fun v => ?_⟩
    refine ⟨[w.heap.size], rfl, h2, fun e he => ?_, by simp, ?_, fun i hi => ?_⟩
    · obtain rfl := List.mem_singleton.1 he
      exact ⟨hbase, by omega, by rw [pushed_size]; omega⟩
    · rw [pushed_old _ _ _ _ _ _ hlb, heap_set_same (heap_set_same (heap_set_same h5))]
      rfl
    · obtain rfl : i = 0 := by simpa using hi
      exact ⟨_, pushed_new _ _ _ _ _⟩
  · -- behind the last element
    rw [List.concat_eq_append] at *
    have hal : a ∈ l ++ [a] := List.mem_append_right _ (List.mem_singleton.2 rfl)
    obtain ⟨ha1, ha2, ha3⟩ := h3 a hal
    obtain ⟨pv, hla⟩ := h6 l.length (by simp)
    have e0 : (l ++ [a])[l.length]'(by simp) = a := by simp
    have e1 : (l ++ [a]).getD (l.length + 1) lb = lb := by simp [List.getD]
    have e2 : (l ++ [a]).getLastD lb = a := by simp
    rw [e0, e1] at hla
    rw [e2] at h5
    have hvl : vs.length = l.length + 1 := by rw [← h1]; simp
    refine ⟨a, (l ++ [a]).headD lb, by rw [cell_at h5]; rfl, by rw [cell_at h5]; rfl, by rw [cell_at h5]; rfl, by rw [cell_at hla]; rfl, free_at h5 _, free_at h5 _, free_at hla _, hlb, ha3, ha1, h2, fun v => ?_⟩
    refine ⟨l ++ [a] ++ [w.heap.size], by simp [hvl], h2, fun e he => ?_, ?_, ?_, fun i hi => ?_⟩
    · rcases List.mem_append.1 he with he | he
      · obtain ⟨x1, x2, x3⟩ := h3 e he
        exact ⟨x1, x2, by rw [pushed_size]; omega⟩
      · obtain rfl := List.mem_singleton.1 he
        exact ⟨hbase, by omega, by rw [pushed_size]; omega⟩
    · refine List.nodup_append.2 ⟨h4, by simp, fun x hx y hy => ?_⟩
      obtain rfl := List.mem_singleton.1 hy
      have := (h3 x hx).2.2
      omega
    · rw [pushed_old _ _ _ _ _ _ hlb, heap_set_same (heap_set_same (show (w.setCell ⟨a, 0, none⟩ (ptr w.heap.size)).heap[lb]? = _ by rw [heap_set_other (Ne.symm ha2)]; exact h5))]
      have e3 : (l ++ [a] ++ [w.heap.size]).headD lb = (l ++ [a]).headD lb := by cases l <;> rfl
      have e4 : (l ++ [a] ++ [w.heap.size]).getLastD lb = w.heap.size := by simp
      rw [e3, e4]
      simp
    · have hlen : (l ++ [a]).length = l.length + 1 := by simp
      rcases Nat.lt_trichotomy i l.length with hi1 | hi1 | hi1
      · -- an element before the last one
        have hi2 : i < (l ++ [a]).length := by omega
        obtain ⟨pv', h⟩ := h6 i hi2
        have g0 : (l ++ [a] ++ [w.heap.size])[i] = (l ++ [a])[i] := List.getElem_append_left hi2
        have g1 : (l ++ [a] ++ [w.heap.size]).getD (i + 1) lb = (l ++ [a]).getD (i + 1) lb := getD_snoc_lt _ _ _ _ (by omega)
        have g2 : (vs ++ [v]).getD i undef = vs.getD i undef := by simp [List.getD, List.getElem?_append_left (show i < vs.length by omega)]
        rw [g0, g1, g2]
        have hm : (l ++ [a])[i] ∈ l ++ [a] := List.getElem_mem hi2
        obtain ⟨x1, x2, x3⟩ := h3 _ hm
        refine ⟨pv', ?_⟩
        rw [pushed_far _ _ _ _ _ _ x3 x2 (fun he => ?_)]
        · exact h
        · have hx : (l ++ [a])[i] = (l ++ [a])[l.length]'(by simp) := by rw [he, e0]
          have := (List.getElem_inj h4).1 hx
          omega
      · subst hi1
        have g0 : (l ++ [a] ++ [w.heap.size])[l.length] = a := by simp
        have g1 : (l ++ [a] ++ [w.heap.size]).getD (l.length + 1) lb = w.heap.size := by simp [List.getD]
        have g2 : (vs ++ [v]).getD l.length undef = vs.getD l.length undef := by simp [List.getD, List.getElem?_append_left (show l.length < vs.length by omega)]
        rw [g0, g1, g2]
        refine ⟨pv, ?_⟩
        rw [pushed_old _ _ _ _ _ _ ha3, heap_set_other ha2, heap_set_other ha2, heap_set_same hla]
        rfl
      · have hi3 : i = l.length + 1 := by simp at hi; omega
        subst hi3
        have g0 : (l ++ [a] ++ [w.heap.size])[l.length + 1] = w.heap.size := by simp
        have g1 : (l ++ [a] ++ [w.heap.size]).getD (l.length + 1 + 1) lb = lb := by simp [List.getD]
        have g2 : (vs ++ [v]).getD (l.length + 1) undef = v := by rw [← hvl]; simp [List.getD]
        rw [g0, g1, g2]
        exact ⟨_, pushed_new _ _ _ _ _⟩

theorem push_any (base lb : Nat) (vs : List Value) (v : Value) (w : World) (h : ListAt w base lb vs) (hn : vs.length < 1000) (hbase : base ≤ w.heap.size) :
    Calls Tryz.prog 63 #[ptr lb, .iface 67 v] w fun e w' => (∃ p, e = .returned p) ∧ ListAt w' base lb (vs ++ [v]) ∧ Below base w w' := by
  obtain ⟨ab, x, c0, c1, c4, ca, f1, f4, fa, hlb, hab, b1, b2, hp⟩ := h.push hbase
  exact (push_raw lb ab x vs.length v w hn c0 c1 c4 ca f1 f4 fa hlb hab).mono fun e w' ⟨he, hw⟩ => by
    subst hw
    exact ⟨⟨_, he⟩, hp v, pushed_below w base lb ab _ v b2 b1 hbase⟩

/-- what is read of a list -/
structure View (w : World) (lb : Nat) (es : List Nat) (vs : List Value) : Prop where
  len : es.length = vs.length
  head : w.heap[lb]? = some (.cells #[ptr (es.headD lb), ptr (es.getLastD lb), .pointer none, .nilIface, .int .i64 (vs.length : Nat)] 105)
  node : ∀ i e, es[i]? = some e → e ≠ lb ∧ ∃ pv, w.heap[e]? = some (.cells #[ptr (es.getD (i + 1) lb), pv, ptr lb, .iface 67 (vs.getD i undef)] 86)

theorem ListAt.view {w : World} {base lb : Nat} {vs : List Value} (h : ListAt w base lb vs) : ∃ es, View w lb es vs := by
  obtain ⟨es, h1, h2, h3, h4, h5, h6⟩ := h
  refine ⟨es, h1, h5, fun i e he => ?_⟩
  obtain ⟨hi, rfl⟩ := List.getElem?_eq_some_iff.1 he
  exact ⟨(h3 _ (List.getElem_mem hi)).2.1, h6 i hi⟩

theorem View.below {w w' : World} {lb : Nat} {es : List Nat} {vs : List Value} (h : View w lb es vs) (hb : Below w.heap.size w w') : View w' lb es vs :=
  ⟨h.len, by rw [hb.block lb (heap_lt h.head)]; exact h.head, fun i e he => by
    obtain ⟨h1, pv, h2⟩ := h.node i e he
    exact ⟨h1, pv, by rw [hb.block e (heap_lt h2)]; exact h2⟩⟩

theorem View.cell {w : World} {lb : Nat} {es : List Nat} {vs : List Value} (h : View w lb es vs) (i e : Nat) (he : es[i]? = some e) : w.cell? ⟨e, 3, none⟩ = some (.iface 67 (vs.getD i undef)) ∧ e < w.heap.size := by
  obtain ⟨h1, pv, h2⟩ := h.node i e he
  exact ⟨by rw [cell_at h2]; rfl, heap_lt h2⟩

theorem len_any (lb : Nat) (es : List Nat) (vs : List Value) (w : World) (h : View w lb es vs) :
    Calls Tryz.prog 50 #[ptr lb] w fun e w' => e = .returned (.int .i64 (vs.length : Nat)) ∧ w = w' := by
  have c4 : w.cell? ⟨lb, 4, none⟩ = some (.int .i64 (vs.length : Nat)) := by rw [cell_at h.head]; rfl
  clear h
  go_enter Tryz.func50, Tryz.ntmps50
  go_wp2
  go_ret
  exact ⟨rfl, rfl⟩

theorem front_any (lb e0 : Nat) (es : List Nat) (vs : List Value) (w : World) (h : View w lb (e0 :: es) vs) :
    Calls Tryz.prog 52 #[ptr lb] w fun e w' => e = .returned (ptr e0) ∧ w = w' := by
  have c4 : w.cell? ⟨lb, 4, none⟩ = some (.int .i64 (vs.length : Nat)) := by rw [cell_at h.head]; rfl
  have c0 : w.cell? ⟨lb, 0, none⟩ = some (ptr e0) := by rw [cell_at h.head]; rfl
  have hl : 0 < vs.length := by rw [← h.len]; simp
  clear h
  go_enter Tryz.func52, Tryz.ntmps52
  go_wp2
  go_ret
  exact ⟨rfl, rfl⟩

theorem back_any (lb e0 : Nat) (es : List Nat) (vs : List Value) (w : World) (h : View w lb es vs) (hl0 : es.getLastD lb = e0) (hl : 0 < vs.length) :
    Calls Tryz.prog 58 #[ptr lb] w fun e w' => e = .returned (ptr e0) ∧ w = w' := by
  have c4 : w.cell? ⟨lb, 4, none⟩ = some (.int .i64 (vs.length : Nat)) := by rw [cell_at h.head]; rfl
  have c0 : w.cell? ⟨lb, 1, none⟩ = some (ptr e0) := by rw [cell_at h.head, hl0]; rfl
  clear h hl0
  go_enter Tryz.func58, Tryz.ntmps58
  go_wp2
  go_ret
  exact ⟨rfl, rfl⟩

theorem Tryz.info86 : (Tryz.prog.info? 86).map (fun i => i.size) = some 4 := by kernel_rfl

theorem run_neq_nodes {w : World} {a b : Nat} {ca cb : Array Value} {ta tb : TypeId} (hne : a ≠ b) (ha : w.heap[a]? = some (.cells ca ta)) (hb : w.heap[b]? = some (.cells cb tb)) :
    (binOp .neq 84 (ptr a) (ptr b)).run Tryz.prog w = .ok (.bool true) w := by
  obtain ⟨j, hj, hs⟩ := Option.map_eq_some_iff.1 Tryz.info86
  have hn : (⟨a, 0, none⟩ : Addr) ≠ ⟨b, 0, none⟩ := fun h => hne (by injection h)
  have h : ∀ d : Nat, (Op.equalIn (d + 1) 84 (ptr a) (ptr b)).run Tryz.prog w = .ok false w := fun d => by
    simp [Op.equalIn, run_underlying Tryz.underlying84, sizeOf, typeInfo, hj, hs, run_sameAddr_other w hn ha hb]
  simp only [binOp]
  simp [Op.equal, Op.maxDepth, h 9999]

theorem next_any (lb i e e' : Nat) (es : List Nat) (vs : List Value) (w : World) (h : View w lb es vs) (he : es[i]? = some e) (he' : es[i + 1]? = some e') :
    Calls Tryz.prog 54 #[ptr e] w fun r w' => r = .returned (ptr e') ∧ w = w' := by
  obtain ⟨n1, pv, h1⟩ := h.node i e he
  obtain ⟨n2, pv', h2⟩ := h.node (i + 1) e' he'
  have hd : es.getD (i + 1) lb = e' := by simp [List.getD, he']
  rw [hd] at h1
  have c0 : w.cell? ⟨e, 0, none⟩ = some (ptr e') := by rw [cell_at h1]; rfl
  have c2 : w.cell? ⟨e, 2, none⟩ = some (ptr lb) := by rw [cell_at h1]; rfl
  have hr := run_neq_nodes n2 h2 h.head
  clear h he he' h1 h2 hd n1 n2
  go_enter Tryz.func54, Tryz.ntmps54
  go_wp2
  go_ret
  exact ⟨rfl, rfl⟩

end Go.Proofs.YtafdhmpikkfepaaGreatDoor
