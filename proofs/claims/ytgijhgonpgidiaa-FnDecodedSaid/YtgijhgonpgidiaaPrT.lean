/-
  Contract of ProperField at a text. No statement of the seat is proved here.
-/
import Derived.Test.YtgijhgonpgidiaaKind
import Derived.Test.YtgijhgonpgidiaaFld
namespace Go.Proofs.Ytgijhgonpgidiaa
open Go.RowKit Go.Proofs.YtgijhgonpgidiaaW.PrintWords

/-- A text without bytes of 0. -/
def txZ (text : ByteArray) (k : Nat) : Bool := ((bytesOf text).take k).all fun x => x != 0
def txOk (text : ByteArray) : Bool := txZ text text.size && decide (text.size ≤ 100)
theorem bytesOf_at (s : ByteArray) {k : Nat} (h : k < s.size) : (bytesOf s)[k]? = some (s[k].toNat : Int) := by
  have h2 : k < s.data.toList.length := h
  simp only [bytesOf, List.getElem?_map, List.getElem?_eq_getElem h2]
  rfl
theorem txZ_go {text : ByteArray} {k : Nat} (h : k < text.size) (hz : ¬ (bytesOf text)[k]? = some 0) (ha : txZ text k = true) : txZ text (k + 1) = true := by
  have h2 := bytesOf_at text h
  rw [h2] at hz
  simp only [txZ, List.take_add_one, h2, List.all_append, Option.toList_some, List.all_cons, List.all_nil, Bool.and_true, Bool.and_eq_true]
  refine ⟨ha, ?_⟩
  simp only [bne_iff_ne, ne_eq]
  intro h0
  exact hz (by rw [h0])
theorem txZ_no {text : ByteArray} {k : Nat} (hz : (bytesOf text)[k]? = some 0) : txOk text = false := by
  have hl : (bytesOf text).length = text.size := bytesOf_length _
  have : txZ text text.size = false := by
    simp only [txZ, List.take_of_length_le (Nat.le_of_eq hl), List.all_eq_false]
    exact ⟨0, List.mem_of_getElem? hz, by simp⟩
  simp [txOk, this]
set_option maxRecDepth 100000 in
set_option maxHeartbeats 3200000 in
theorem text40 (ty deep : Int) (text : ByteArray) (w : World) (hd : ¬ deep = 0) (ht : 0 ≤ ty ∧ ty < 16384) (hsz : text.size ≤ 9223372036854775807) :
    Calls Try.prog 40 #[.agg #[.int .i64 ty, .int .i64 8, .int .i64 0, .int .i64 0, .string text, .slice none 0 0, .slice none 0 0], .int .i64 deep] w fun e w' => e = .returned (.bool (txOk text)) ∧ Hid (Below w.heap.size w w') := by
  obtain ⟨q, hq⟩ : ∃ q, q = w.heap.size := ⟨_, rfl⟩
  obtain ⟨W, hW⟩ : ∃ W, W = w.alloc (.cells #[.int .i64 ty, .int .i64 8, .int .i64 0, .int .i64 0, .string text, .slice none 0 0, .slice none 0 0] 65) := ⟨_, rfl⟩
  have hB : Below w.heap.size w W := by rw [hW]; exact (Below.refl _ _).alloc (Nat.le_refl _) _
  have k0 : W.heap[q]? = some (.cells #[.int .i64 ty, .int .i64 8, .int .i64 0, .int .i64 0, .string text, .slice none 0 0, .slice none 0 0] 65) := by rw [hW, hq]; exact heap_alloc_new _ _
  have a1 : W.cell? ⟨q, 1, none⟩ = some (.int .i64 8) := blk_cell k0 1
  have a2 : W.cell? ⟨q, 2, none⟩ = some (.int .i64 0) := blk_cell k0 2
  have a3 : W.cell? ⟨q, 3, none⟩ = some (.int .i64 0) := blk_cell k0 3
  have a4 : W.cell? ⟨q, 4, none⟩ = some (.string text) := blk_cell k0 4
  have a5 : W.cell? ⟨q, 5, none⟩ = some (.slice none 0 0) := blk_cell k0 5
  have a6 : W.cell? ⟨q, 6, none⟩ = some (.slice none 0 0) := blk_cell k0 6
  have hib : inBits ty 14 = true := (inBits_iff _ _).2 ⟨ht.1, by simpa using ht.2⟩
  have hdb : (deep == 0) = false := by simpa using hd
  have K0 := Lib.hid k0
  have HW := Lib.hid hW
  have HB := Lib.hid hB
  clear hB hW k0
  go_enter Try.func40, Try.ntmps40
  go_wp2_with fail
  rw [← hq, ← HW.out]
  clear hq
  refine (within60_14 ty _).mono ?_
  rintro e w' ⟨rfl, rfl⟩
  rw [hib]
  go_wp2_with fail
  go_loopw [83] (fun i wr => ∃ k : Nat, k ≤ text.size ∧ i = .int .i64 k ∧ Hid (txZ text k = true ∧ Below W.heap.size W wr)) (fun i _ => text.size - (intOf i).toNat)
  case atStart => exact ⟨0, Nat.zero_le _, rfl, Lib.hid ⟨rfl, Below.refl _ _⟩⟩
  case round =>
    obtain ⟨k, hk, rfl, HL⟩ := hrel
    have c4 : wr.cell? ⟨q, 4, none⟩ = some (.string text) := blk_cell (blk_below K0.out HL.out.2) 4
    by_cases hlt : k < text.size
    · by_cases hz : (bytesOf text)[k]? = some 0
      · have hby : (text[k].toNat : Int) = 0 := by have := bytesOf_at text hlt; rw [hz] at this; exact (Option.some.inj this).symm
        have hno := txZ_no hz
        clear hz
        go_wp2_with fail
        go_ret
        exact ⟨by rw [hno]; rfl, Lib.hid (below_then HB.out HB.out.size HL.out.2)⟩
      · have hby : ¬ (text[k].toNat : Int) = 0 := fun h => hz (by rw [bytesOf_at text hlt, h])
        have HT := Lib.hid (txZ_go hlt hz HL.out.1)
        clear hz
        go_wp2_with fail
        go_roundw
        case rel => exact ⟨k + 1, by omega, int_eq (by omega), Lib.hid ⟨HT.out, HL.out.2⟩⟩
        case measure => simp [intOf]; omega
    · obtain rfl : k = text.size := by omega
      go_wp2_with fail
      go_ret
      exact ⟨by rw [txOk, HL.out.1]; simp; omega, Lib.hid (below_then HB.out HB.out.size HL.out.2)⟩
end Go.Proofs.Ytgijhgonpgidiaa
