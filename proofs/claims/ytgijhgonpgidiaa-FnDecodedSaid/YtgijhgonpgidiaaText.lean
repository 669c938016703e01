/-
  A text as bytes with a byte of 0 behind it ('append([]byte(s), 0)'), and what the encoder's String, Bytes and Flag do. No statement of the seat is proved here.
-/
import Derived.Test.YtgijhgonpgidiaaEnc
namespace Go.Proofs.Ytgijhgonpgidiaa
open Go.RowKit Go.Proofs.YtgijhgonpgidiaaW.PrintWords

theorem bytesOf_isB (s : ByteArray) : IsB (bytesOf s) := fun x hx => by
  simp only [bytesOf, List.mem_map] at hx
  obtain ⟨b, _, rfl⟩ := hx
  have := b.toNat_lt
  omega
theorem bytesOf_getD (s : ByteArray) (j : Nat) : ((s.data.toList.getD j 0).toNat : Int) = (bytesOf s).getD j 0 := by
  simp only [bytesOf, List.getD_eq_getElem?_getD, List.getElem?_map]
  cases s.data.toList[j]? <;> simp

theorem text_law {w : World} {s : ByteArray} {ops : Array Oper} {rest : List Oper} {o : Oper} {a : Act} {Q : Exit → Act → World → Prop} (hsz : s.size ≤ 140737488355327)
    (hgd : o.guard = none) (sO xO : Operand) (ho : o.op = .call { callee := .builtin .append, args := #[sO, xO], argTypes := #[28, 28] })
    (hs : a.eval sO = .slice (some ⟨w.heap.size, 0, none⟩) s.size (grownCap w s.size 0 5)) (H : Nat) (hH : (Lib.bytesWorld w 5 s).heap.size = H) (hx : a.eval xO = .slice (some ⟨H, 0, none⟩) 1 1)
    (h : ∀ A c w1, Hid (Sl (fun k => w.heap.size ≤ k) w1 (.slice A (s.size + 1) c) (bytesOf s ++ [0]) ∧ Below w.heap.size w w1) → wpList Try.prog ops Q rest (a.put o.dst (.slice A (s.size + 1) c)) w1) :
    wpList Try.prog ops Q (o :: rest) a ((Lib.bytesWorld w 5 s).alloc (.cells #[.int .u8 0] 5)) := by
  obtain ⟨i0, hi, hz0, hz1, hz2⟩ := info_parts info5
  have hbs := Lib.bytesWorld_size w 5 s
  have hcap := grownCap_ge w s.size 0 5
  have hcapM := grownCap_le_maxLen w s.size 0 5 (by simp only [maxLen]; omega)
  have hnew : ((Lib.bytesWorld w 5 s).alloc (.cells #[.int .u8 0] 5)).heap[w.heap.size]? = _ := blk_alloc (Lib.bytesWorld_at_new w 5 s) _
  have hB : Below w.heap.size w ((Lib.bytesWorld w 5 s).alloc (.cells #[.int .u8 0] 5)) := (bytes_below (Below.refl _ _) (Nat.le_refl _) 5 s).alloc (by omega) _
  have hcell : ∀ j, j < s.size → ((Lib.bytesWorld w 5 s).alloc (.cells #[.int .u8 0] 5)).cell? ⟨w.heap.size, j, none⟩ = some (.int .u8 ((bytesOf s).getD j 0)) := fun j hj => by
    rw [World.cell?_alloc_past _ _ _ (by show w.heap.size < _; omega), Lib.bytesWorld_cell w 5 s j hj, bytesOf_getD]
  have hlen : (bytesOf s ++ [0]).length = s.size + 1 := by rw [List.length_append, bytesOf_length]; rfl
  have hspare : s.size + 1 ≤ grownCap w s.size 0 5 → (((Lib.bytesWorld w 5 s).alloc (.cells #[.int .u8 0] 5)).cell? ⟨w.heap.size, s.size, none⟩).isSome = true := fun hroom => by
    have hd : s.data.size = s.size := rfl
    rw [World.cell?, hnew]
    simp [Lib.bytesCells]
    omega
  refine wpList_append_arg _ hgd sO xO 28 ho 5 i0 (.int .u8 0) 1 1 Try.underlying28 hi hz0 hz1 hz2 rfl (by omega) w.heap.size 0 s.size (grownCap w s.size 0 5) (nums .u8 (bytesOf s)) hs (by rw [nums_length, bytesOf_length]; omega)
    (fun j u hu => ?_) ⟨H, 0, none⟩ 1 1 [.int .u8 0] hx rfl (fun j u hu => ?_) (by simp [Value.oneCell']) (fun hroom j hj => ?_) (by simp only [maxLen]; omega) (by omega) (fun hroom => ?_) (fun hfull v' w' hown hg => ?_)
  · have hj : j < s.size := by
      rcases Nat.lt_or_ge j s.size with h | h
      · exact h
      · rw [List.getElem?_eq_none (by rw [nums_length, bytesOf_length]; omega)] at hu; cases hu
    rw [Nat.zero_add, hcell j hj]
    simp only [nums, List.getElem?_map] at hu
    rw [List.getElem?_eq_getElem (by rw [bytesOf_length]; omega)] at hu
    simp only [Option.map_some, Option.some.injEq] at hu
    rw [← hu, List.getD_eq_getElem?_getD, List.getElem?_eq_getElem (by rw [bytesOf_length]; omega)]; rfl
  · cases j with
    | zero =>
      simp only [List.getElem?_cons_zero, Option.some.injEq] at hu
      subst hu
      rw [← hH]
      exact cell_one_new _ _ _ 0 _ rfl
    | succ j => simp at hu
  · simp only [List.length_cons, List.length_nil] at hj
    obtain rfl : j = 0 := by omega
    have e : 0 + s.size * 1 + 0 = s.size := by omega
    rw [e]
    constructor
    · exact hspare hroom
    · rw [World.frozen?, hnew]
      simp [Lib.bytesCells]
      intro hle
      have hd : s.data.size = s.size := rfl
      omega
  · refine h _ _ _ (Lib.hid ⟨⟨_, _, by rw [hlen], by rw [hlen]; omega, by simpa [maxLen] using hcapM, fun _ => ⟨w.heap.size, 0, rfl, Nat.le_refl _, fun j hj => ?_⟩⟩, ?_⟩)
    · rw [hlen] at hj
      show World.cell? (World.setCell _ ⟨w.heap.size, 0 + s.size * 1, none⟩ (.int .u8 0)) _ = _
      rw [Nat.mul_one, Nat.zero_add, Nat.zero_add]
      by_cases hjs : j = s.size
      · subst hjs
        obtain ⟨u, hu⟩ := Option.isSome_iff_exists.1 (hspare hroom)
        rw [World.cell?_setCell_same _ _ _ hu]
        rw [List.getD_eq_getElem?_getD, List.getElem?_append_right (by rw [bytesOf_length]; exact Nat.le_refl _)]
        simp [bytesOf_length]
      · rw [World.cell?_setCell_other _ _ _ _ (by intro e; injection e with _ e; omega), hcell j (by omega)]
        rw [List.getD_eq_getElem?_getD, List.getD_eq_getElem?_getD, List.getElem?_append_left (by rw [bytesOf_length]; omega)]
    · exact hB.setCell (Nat.le_refl _) _
  · obtain ⟨A, c, rfl⟩ := own_slice hown
    refine h A c w' (Lib.hid ⟨?_, hB.grown hg (Nat.le_trans hB.size (Nat.le_refl _)) (fun k hk => by cases hk)⟩)
    have hown' : w'.ownsRow ((Lib.bytesWorld w 5 s).alloc (.cells #[.int .u8 0] 5)).heap.size 5 1 (.slice A (s.size + 1) c) (bytesOf s ++ [0]).length (nums .u8 (bytesOf s ++ [0])) := by
      rw [hlen, nums_append]; exact hown
    refine Sl.of_own hown' fun k hk => ?_
    have := own_base hown' k hk
    have := hB.size
    omega

set_option maxHeartbeats 400000 in
theorem bytes124 (s : ByteArray) (w : World) (hsz : s.size ≤ 140737488355327) :
    Calls Try.prog 124 #[.string s] w fun e w' => ∃ A c, e = .returned (.slice A (s.size + 1) c) ∧ Hid (Sl (fun k => w.heap.size ≤ k) w' (.slice A (s.size + 1) c) (bytesOf s ++ [0]) ∧ Below w.heap.size w w') := by
  have hcv := fun W => print_bytes (P := Try.prog) 9 28 5 Try.underlying9 Try.underlying28 Try.underlying5 s W
  have hbs := Lib.bytesWorld_size w 5 s
  go_enter Try.func124, Try.ntmps124
  go_wp2_with (at_builtin; go_must (refine text_law (w := w) hsz rfl (.tmp 4) (.tmp 5) rfl rfl (w.heap.size + 1) (by exact hbs) rfl ?_); intro A c w1 HT)
  go_ret
  exact ⟨A, c, rfl, HT⟩
end Go.Proofs.Ytgijhgonpgidiaa
