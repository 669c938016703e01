/-
  Plain laws on the bytes of attributes read one behind the other. No Go here, no statement of the seat.
-/
import Derived.Test.YtgijhgonpgidiaaAttrB
namespace Go.Proofs.Ytgijhgonpgidiaa

/-- Where the k-th attribute lies. -/
def pos (l : List (Int × List Int)) (k : Nat) : Nat := (attrsB (l.take k)).length
theorem pos_zero (l : List (Int × List Int)) : pos l 0 = 0 := by simp [pos, attrsB]
theorem pos_succ {l : List (Int × List Int)} {k : Nat} {a : Int × List Int} (h : l[k]? = some a) : pos l (k + 1) = pos l k + (4 + padn a.2.length) := by
  unfold pos; rw [attrsB_take_succ l k a h, List.length_append, attrB_length]
theorem pos_all (l : List (Int × List Int)) : pos l l.length = (attrsB l).length := by unfold pos; rw [List.take_length]
theorem pos_le (l : List (Int × List Int)) (k : Nat) : pos l k ≤ (attrsB l).length := attrsB_take_le l k
theorem pos_mono (l : List (Int × List Int)) {i j : Nat} (h : i ≤ j) : pos l i ≤ pos l j := by
  unfold pos
  have : l.take j = l.take i ++ (l.take j).drop i := by rw [show l.take i = (l.take j).take i by rw [List.take_take, Nat.min_eq_left h], List.take_append_drop]
  rw [this, attrsB_append, List.length_append]; omega
theorem attrs_at {l : List (Int × List Int)} {k : Nat} {a : Int × List Int} (h : l[k]? = some a) : (attrsB l).drop (pos l k) = attrB a ++ attrsB (l.drop (k + 1)) := by
  have hk : k < l.length := (List.getElem?_eq_some_iff.1 h).1
  have he : l[k] = a := (List.getElem?_eq_some_iff.1 h).2
  have e : attrsB l = attrsB (l.take k) ++ attrsB (l.drop k) := by rw [← attrsB_append, List.take_append_drop]
  unfold pos
  rw [e, List.drop_left' rfl, List.drop_eq_getElem_cons hk, he, attrsB_cons]
theorem attrB_list (a : Int × List Int) (ht : 0 ≤ a.1 ∧ a.1 < 65536) (hl : a.2.length ≤ 65531) :
    attrB a = (4 + (a.2.length : Int)) % 256 :: (4 + (a.2.length : Int)) / 256 :: a.1 % 256 :: a.1 / 256 :: (a.2 ++ List.replicate (padn a.2.length - a.2.length) 0) := by
  unfold attrB
  rw [putB2 (4 + a.2.length) (by omega) (by omega), putB2 a.1 ht.1 ht.2]; rfl
/-- The head of what is left at the k-th attribute, of bytes that may be cut off at m. -/
theorem cut_head {l : List (Int × List Int)} {k m : Nat} {a : Int × List Int} (h : l[k]? = some a) (ht : 0 ≤ a.1 ∧ a.1 < 65536) (hl : a.2.length ≤ 65531) (hm : m ≤ (attrsB l).length) (h4 : pos l k + 4 ≤ m) :
    ((attrsB l).take m).length = m ∧ (((attrsB l).take m).drop (pos l k)).length = m - pos l k ∧
    g2 (((attrsB l).take m).drop (pos l k)) = 4 + a.2.length ∧ g2 (((attrsB l).take m).drop (pos l k + 2)) = a.1 ∧
    (pos l k + (4 + a.2.length) ≤ m → ((((attrsB l).take m).drop (pos l k)).take (4 + a.2.length)).drop 4 = a.2) := by
  have e1 : ((attrsB l).take m).length = m := by rw [List.length_take]; omega
  have e2 : ((attrsB l).take m).drop (pos l k) = (attrB a ++ attrsB (l.drop (k + 1))).take (m - pos l k) := by rw [List.drop_take, attrs_at h]
  obtain ⟨j, hj⟩ : ∃ j, m - pos l k = j + 4 := ⟨m - pos l k - 4, by omega⟩
  have e3 : ((attrsB l).take m).drop (pos l k) = (4 + (a.2.length : Int)) % 256 :: (4 + (a.2.length : Int)) / 256 :: a.1 % 256 :: a.1 / 256 :: ((a.2 ++ List.replicate (padn a.2.length - a.2.length) 0) ++ attrsB (l.drop (k + 1))).take j := by
    rw [e2, hj, attrB_list a ht hl]; rfl
  refine ⟨e1, by rw [List.length_drop, e1], ?_, ?_, fun hf => ?_⟩
  · rw [e3]; show (4 + (a.2.length : Int)) % 256 + 256 * ((4 + a.2.length) / 256) = _; omega
  · rw [← List.drop_drop, e3]; show a.1 % 256 + 256 * (a.1 / 256) = _; omega
  · rw [e3, Nat.add_comm 4]
    show (((a.2 ++ List.replicate (padn a.2.length - a.2.length) 0) ++ attrsB (l.drop (k + 1))).take j).take a.2.length = a.2
    rw [List.take_take, Nat.min_eq_left (by omega), List.append_assoc, List.take_left' rfl]
theorem attrsB_isB {l : List (Int × List Int)} (h : ∀ a ∈ l, IsB a.2) : IsB (attrsB l) := fun y hy => by
  simp only [attrsB, List.mem_flatMap] at hy
  obtain ⟨a, ha, hy⟩ := hy
  exact ((((putB_isB 2 _).append (putB_isB 2 _)).append (h a ha)).append (IsB.zeros _)) y hy
/-- Attributes of two bytes' types and data that fit. -/
theorem AOk.at_ {l : List (Int × List Int)} (h : AOk l) {k : Nat} {a : Int × List Int} (hk : l[k]? = some a) : (0 ≤ a.1 ∧ a.1 < 65536) ∧ a.2.length ≤ 65531 := h a (List.mem_of_getElem? hk)
theorem padn_add4 (n : Nat) : padn (4 + n) = 4 + padn n := by unfold padn; omega
end Go.Proofs.Ytgijhgonpgidiaa
