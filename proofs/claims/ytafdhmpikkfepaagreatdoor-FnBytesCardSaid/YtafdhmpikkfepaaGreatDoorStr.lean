import Derived.Laws.RangeString
import Derived.Laws.Cover4
import Derived.Laws.IdiomStrings
namespace Go.Proofs.YtafdhmpikkfepaaGreatDoor

/-- every byte is below 128 -/
def Asc (l : List UInt8) : Prop := ∀ c ∈ l, c.toNat < 128

def runeV (l : List UInt8) : List Int := l.map fun c => (c.toNat : Int)

theorem runeV_length (l : List UInt8) : (runeV l).length = l.length := by simp [runeV]

theorem size_data (s : ByteArray) : s.data.toList.length = s.size := by rw [Array.length_toList]; rfl

theorem get_data (s : ByteArray) (i : Nat) (h : i < s.size) : s.data.toList[i]'(by rw [size_data]; exact h) = s[i] := rfl

theorem runesFrom_asc (s : ByteArray) (ha : Asc s.data.toList) : ∀ (bound i : Nat) (acc : Array Value), s.size ≤ i + bound →
    Conv.runesFrom s bound i acc = acc ++ ((runeV (s.data.toList.drop i)).map (Value.int .i32)).toArray := by
  intro bound
  induction bound with
  | zero =>
    intro i acc h
    rw [List.drop_of_length_le (by rw [size_data]; omega)]
    simp [Conv.runesFrom, runeV]
  | succ b ih =>
    intro i acc h
    by_cases hi : i < s.size
    · have hl : i < s.data.toList.length := by rw [size_data]; exact hi
      have hd := decode_ascii s i hi (ha _ (by rw [← get_data s i hi]; exact List.getElem_mem hl))
      rw [List.drop_eq_getElem_cons hl]
      unfold Conv.runesFrom
      rw [if_pos hi, hd]
      simp only
      rw [ih (i + 1) _ (by omega)]
      simp [runeV, get_data s i hi]
    · rw [List.drop_of_length_le (by rw [size_data]; omega)]
      unfold Conv.runesFrom
      rw [if_neg hi]
      simp [runeV]

theorem runes_asc (s : ByteArray) (ha : Asc s.data.toList) : Conv.runesFrom s s.size 0 #[] = ((runeV s.data.toList).map (Value.int .i32)).toArray := by
  rw [runesFrom_asc s ha s.size 0 #[] (by omega)]
  simp

theorem encode_asc (c : UInt8) (h : c.toNat < 128) : Utf8.encode (c.toNat : Int) = ⟨#[c]⟩ := by
  unfold Utf8.encode
  have hv : Utf8.valid (c.toNat : Int) = true := by simp [Utf8.valid]; omega
  simp only [hv, if_true, Int.toNat_natCast]
  rw [if_pos (by omega)]
  simp

theorem mk_append (a b : List UInt8) : (⟨a.toArray⟩ : ByteArray) ++ ⟨b.toArray⟩ = ⟨(a ++ b).toArray⟩ := by
  apply ByteArray.ext
  simp

theorem fold_encode (l : List UInt8) (ha : Asc l) : ∀ a : List UInt8, (runeV l).foldl (fun r n => r ++ Utf8.encode n) (⟨a.toArray⟩ : ByteArray) = ⟨(a ++ l).toArray⟩ := by
  induction l with
  | nil => intro a; simp [runeV]
  | cons c t ih =>
    intro a
    have hc := encode_asc c (ha c (List.mem_cons_self))
    have := ih (fun x hx => ha x (List.mem_cons_of_mem _ hx)) (a ++ [c])
    simp only [runeV, List.map_cons, List.foldl_cons]
    rw [hc, show (⟨#[c]⟩ : ByteArray) = ⟨[c].toArray⟩ from rfl, mk_append]
    simp only [runeV] at this
    rw [this]
    simp

theorem runesBytes_asc (l : List UInt8) (ha : Asc l) : runesBytes (runeV l) = ⟨l.toArray⟩ := by
  unfold runesBytes
  exact fold_encode l ha []

theorem Asc.take {l : List UInt8} (h : Asc l) (n : Nat) : Asc (l.take n) := fun c hc => h c (List.mem_of_mem_take hc)
theorem Asc.drop {l : List UInt8} (h : Asc l) (n : Nat) : Asc (l.drop n) := fun c hc => h c (List.mem_of_mem_drop hc)
theorem Asc.app {l m : List UInt8} (h : Asc l) (h' : Asc m) : Asc (l ++ m) := fun c hc => (List.mem_append.1 hc).elim (h c) (h' c)

theorem runeV_take (l : List UInt8) (n : Nat) : (runeV l).take n = runeV (l.take n) := by simp [runeV, List.map_take]
theorem runeV_drop (l : List UInt8) (n : Nat) : (runeV l).drop n = runeV (l.drop n) := by simp [runeV, List.map_drop]

/-- a part occurs at a place -/
def At (sub s : List UInt8) (i : Nat) : Prop := (s.drop i).take sub.length = sub

instance (sub s : List UInt8) (i : Nat) : Decidable (At sub s i) := inferInstanceAs (Decidable (_ = _))

/-- n is the first place from a place on, or -1 -/
def FirstAt (sub s : List UInt8) (start : Nat) (n : Int) : Prop :=
  ((n = -1 ∧ ∀ i, start ≤ i → i + sub.length ≤ s.length → ¬ At sub s i) ∨
   ∃ m : Nat, n = m ∧ start ≤ m ∧ m + sub.length ≤ s.length ∧ At sub s m ∧ ∀ i, start ≤ i → i < m → ¬ At sub s i)

theorem At.len {sub s : List UInt8} {i : Nat} (h : At sub s i) (hne : sub ≠ []) : i + sub.length ≤ s.length := by
  have e := congrArg List.length h
  rw [List.length_take, List.length_drop] at e
  have : 0 < sub.length := List.length_pos_iff.2 hne
  omega

theorem FirstAt.same {sub s : List UInt8} {n k : Nat} (h : FirstAt sub s 0 n) (hk : At sub s k) (hl : k + sub.length ≤ s.length) (hb : ∀ i, i < k → ¬ At sub s i) : n = k := by
  rcases h with ⟨_, h⟩ | ⟨m, hm, _, _, h1, h2⟩
  · exact absurd hk (h k (Nat.zero_le _) hl)
  · obtain rfl : n = m := by omega
    rcases Nat.lt_trichotomy n k with h | h | h
    · exact absurd h1 (hb n h)
    · exact h
    · exact absurd hk (h2 k (Nat.zero_le _) h)

theorem FirstAt.zero {sub s : List UInt8} {n : Int} (h : FirstAt sub s 0 n) (hz : At sub s 0) (hl : sub.length ≤ s.length) : n = 0 := by
  rcases h with ⟨_, h⟩ | ⟨m, hm, _, _, h1, h2⟩
  · exact absurd hz (h 0 (Nat.le_refl _) (by omega))
  · rcases Nat.eq_zero_or_pos m with h | h
    · subst h; simpa using hm
    · exact absurd hz (h2 0 (Nat.le_refl _) h)

theorem FirstAt.nonzero {sub s : List UInt8} {n : Int} (h : FirstAt sub s 0 n) (hz : ¬ At sub s 0) : n ≠ 0 := by
  rcases h with ⟨h, _⟩ | ⟨m, hm, _, _, h1, h2⟩
  · omega
  · intro e
    have : m = 0 := by omega
    subst this
    exact hz h1

theorem At.drop {sub s : List UInt8} {i : Nat} : At sub (s.drop i) 0 ↔ At sub s i := by
  unfold At
  simp

theorem at_mid (a b c : List UInt8) : At b (a ++ b ++ c) a.length := by
  unfold At
  rw [List.append_assoc, List.drop_left, List.take_left]

end Go.Proofs.YtafdhmpikkfepaaGreatDoor
