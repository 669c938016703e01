/-
  Contracts: an attribute laid as bytes, and a slice of attributes. No statement of the seat is proved here.
-/
import Derived.Test.YtgijhgonpgidiaaCopy
namespace Go.Proofs.Ytgijhgonpgidiaa
open Go.RowKit Go.Proofs.YtgijhgonpgidiaaW.PrintWords

set_option maxRecDepth 100000 in
set_option maxHeartbeats 1600000 in
theorem marshal95 (p g off n : Nat) (L t : Int) (dv : Value) (data xs : List Int) (w : World) (hL : L = 4 + data.length) (ht : 0 ≤ t ∧ t < 65536) (hd : data.length ≤ 65531) (hP : w.heap[p]? = some (.cells #[.int .u16 L, .int .u16 t, dv] 102 (0, 0))) (hne : p ≠ g)
    (hB : Buf w g xs) (hS : Sl (fun k => k ≠ g) w dv data) (hoff : off + n ≤ xs.length) (hfit : 4 + data.length ≤ n) :
    Calls Try.prog 95 #[.pointer (some ⟨p, 0, none⟩), .slice (some ⟨g, off, none⟩) n n] w fun e w' => e = .returned (.tuple #[.int .i64 (4 + padn data.length), .nilIface]) ∧
      Buf w' g (wr xs off (putB L 2 ++ putB t 2 ++ data)) ∧ w.grownBy w' (some g) := by
  have c0 : w.cell? ⟨p, 0, none⟩ = some (.int .u16 L) := blk_cell hP 0
  have c1 : w.cell? ⟨p, 1, none⟩ = some (.int .u16 t) := blk_cell hP 1
  have c2 : w.cell? ⟨p, 2, none⟩ = some dv := blk_cell hP 2
  have hL1 : 4 ≤ L := by omega
  have hL2 : L < 65536 := by omega
  have HP := Lib.hid hP
  have HB := Lib.hid hB
  have HS := Lib.hid hS
  have HL := Lib.hid hL
  have h2n : (2 : Int) ≤ (n : Int) := by omega
  have h4n : (4 : Int) ≤ (n : Int) := by omega
  have hn2 : ¬ n = 2 := by omega
  have hn4i : 2 ≤ n := by omega
  obtain ⟨A, dc, hdv, _⟩ := hS.form
  have HDV := Lib.hid hdv
  clear hP hB hS hL hdv
  go_enter Try.func95, Try.ntmps95
  go_wp2_with fail
  go_region_held3 (fun w' => w'.cell? ⟨p, 0, none⟩ = some (.int .u16 L)) (first | exact c0 | exact c0b | go_keep)
    (first | (go_at_call 98; refine (put98 g off n n L xs _ (by exact HB.out) (by omega) (by omega) (by omega)).mono ?_; rintro e w1 ⟨rfl, hb1, hg1⟩; have c0b := (World.cell?_of_block (hg1.block p (World.block_lt_of_cell? w _ c0) (by simpa using hne))).trans c0))
  have hgr1 := grown_undrew hg1
  have hP1 := (hgr1.block p (World.block_lt_of_cell? w _ c0) (by simpa using hne)).trans HP.out
  have c1b : w1.cell? ⟨p, 1, none⟩ = some (.int .u16 t) := blk_cell hP1 1
  have c2b : w1.cell? ⟨p, 2, none⟩ = some dv := blk_cell hP1 2
  have HP1 := Lib.hid hP1
  have HB1 := Lib.hid hb1
  have HG1 := Lib.hid hgr1
  have HS1 := Lib.hid (HS.out.step fun k hk hlt => hgr1.block k hlt (by simpa using hk))
  have l1 := wr_length (putB L 2) xs off
  have HL1 := Lib.hid l1
  clear hb1 hg1 hgr1 hP1 c0 c1 c2 c0b l1
  go_wp2_with fail
  go_region_held3 (fun w' => w'.cell? ⟨p, 1, none⟩ = some (.int .u16 t)) (first | exact c1b | exact c1c | go_keep)
    (first | (go_at_call 98; refine (put98 g (off + 2) (n - 2) (n - 2) t _ _ (by exact HB1.out) (by omega) (by rw [HL1.out]; omega) (by omega)).mono ?_; rintro e w2 ⟨rfl, hb2, hg2⟩; have c1c := (World.cell?_of_block (hg2.block p (World.block_lt_of_cell? w1 _ c1b) (by simpa using hne))).trans c1b))
  have hgr2 := grown_undrew hg2
  have hP2 := (hgr2.block p (World.block_lt_of_cell? w1 _ c1b) (by simpa using hne)).trans HP1.out
  have c2c : w2.cell? ⟨p, 2, none⟩ = some dv := blk_cell hP2 2
  have HB2 := Lib.hid hb2
  have HG2 := Lib.hid (grown_trans HG1.out hgr2)
  have HS2 := Lib.hid (HS1.out.step fun k hk hlt => hgr2.block k hlt (by simpa using hk))
  have HL2 := Lib.hid (wr_length (putB t 2) (wr xs off (putB L 2)) (off + 2))
  clear hb2 hg2 hgr2 hP2 c1b c2b c1c
  have HDR : Hid (w2.drew.heap = w2.heap) := rfl
  have hn4 : 4 ≤ n := by omega
  have CC : Hid (∀ w', w'.heap = w2.heap → Sl (fun k => k ≠ g) w' dv data ∧ Buf w' g (wr (wr xs off (putB L 2)) (off + 2) (putB t 2))) := fun w' hw => ⟨HS2.out.step fun k _ _ => by rw [hw], by unfold Buf; rw [hw]; exact HB2.out⟩
  go_wp2_with fail
  have HIF : Hid (0 < data.length → (if n = 4 then (some ⟨g, off, none⟩ : Option Addr) else some ⟨g, off + 4, none⟩) = some ⟨g, off + 4, none⟩) := fun h => if_neg (by omega)
  have HX : Hid (off + 4 + data.length ≤ (wr (wr xs off (putB L 2)) (off + 2) (putB t 2)).length) := by show _ ≤ _; rw [HL2.out, HL1.out]; omega
  have HF : Hid (data.length ≤ n - 4) := by show _ ≤ _; omega
  go_region_law (refine copy_step (off := off + 4) (dLen := n - 4) (dCap := n - 4) (CC.out w2.drew rfl).1 (CC.out w2.drew rfl).2 HX.out HF.out HIF.out (by rfl) (.tmp 29) (.tmp 33) (by rfl) (by rfl) (by rfl) (by rfl) ?_; intro w3 hb3 hg3)
  have hpl : padn data.length < data.length + 4 := (padn_le data.length).2.1
  go_wp2_with fail
  all_goals
    refine (align94 data.length w3 (by omega)).mono ?_
    rintro e w4 ⟨rfl, rfl⟩
    go_wp2_with fail
    go_ret2
    refine ⟨rfl, ?_, grown_trans HG2.out (grown_undrew hg3.out)⟩
    have h3 := hb3.out
    rw [wr_append, wr_append, putB_length, List.length_append, putB_length, putB_length]
    exact h3

/-! ### A slice of attributes -/
theorem Buf.made (w : World) (n : Nat) : Buf (w.alloc (.cells (madeCells #[.int .u8 0] n) 5)) w.heap.size (List.replicate n 0) := by
  unfold Buf
  rw [heap_alloc_new]
  congr 2
  apply Array.ext
  · simp [nums, madeCells]
  · intro i h1 h2
    simp [nums, madeCells, Nat.mod_one]
theorem wr_fill (pre ys : List Int) (m : Nat) (h : ys.length ≤ m) : wr (pre ++ List.replicate m 0) pre.length ys = pre ++ ys ++ List.replicate (m - ys.length) 0 := by
  rw [wr_eq _ _ _ (by simp; omega), List.take_left' rfl, List.drop_append, List.drop_eq_nil_of_le (by omega)]
  simp
theorem wr_attr (pre : List Int) (a : Int × List Int) (m : Nat) (h : 4 + padn a.2.length ≤ m) :
    wr (pre ++ List.replicate m 0) pre.length (putB (4 + a.2.length) 2 ++ putB a.1 2 ++ a.2) = (pre ++ attrB a) ++ List.replicate (m - (4 + padn a.2.length)) 0 := by
  have hp := padn_le a.2.length
  rw [wr_fill _ _ _ (by simp [putB_length]; omega)]
  unfold attrB
  simp only [List.append_assoc, List.length_append, putB_length]
  congr 4
  rw [List.replicate_append_replicate]
  congr 1
  omega
theorem attrsB_take_succ (l : List (Int × List Int)) (k : Nat) (a : Int × List Int) (h : l[k]? = some a) : attrsB (l.take (k + 1)) = attrsB (l.take k) ++ attrB a := by
  have hk : k < l.length := (List.getElem?_eq_some_iff.1 h).1
  have he : l[k] = a := (List.getElem?_eq_some_iff.1 h).2
  rw [List.take_succ_eq_append_getElem hk, attrsB_append, he]
  simp [attrsB]
theorem attrsB_take_le (l : List (Int × List Int)) (k : Nat) : (attrsB (l.take k)).length ≤ (attrsB l).length := by
  have h : attrsB l = attrsB (l.take k) ++ attrsB (l.drop k) := by rw [← attrsB_append, List.take_append_drop]
  rw [h, List.length_append]; omega
theorem int_eq {k : IntKind} {a b : Int} (h : a = b) : Value.int k a = Value.int k b := by rw [h]
/-- Attributes that can be laid: types of two bytes, data of at most 65531 bytes. -/
def AOk (l : List (Int × List Int)) : Prop := ∀ a ∈ l, (0 ≤ a.1 ∧ a.1 < 65536) ∧ a.2.length ≤ 65531

set_option maxRecDepth 100000 in
set_option maxHeartbeats 3200000 in
theorem marshal58 (w : World) (v : Value) (l : List (Int × List Int)) (ok : Nat → Prop) (hR : elA.Rd ok w v l) (hl : AOk l) (hT : (attrsB l).length ≤ 140737488355328) :
    Calls Try.prog 58 #[v] w fun e w' => ∃ u, e = .returned (.tuple #[u, .nilIface]) ∧ Hid (Sl (fun k => w.heap.size ≤ k) w' u (attrsB l) ∧ Below w.heap.size w w') := by
  obtain ⟨A, c, rfl, hlc, hcm⟩ := hR.form
  have hlen : l.length ≤ 9223372036854775807 := hR.len_
  have HR := Lib.hid hR
  have HT := Lib.hid hT
  have HA := Lib.hid hl
  clear hR hT hl
  go_enter Try.func58, Try.ntmps58
  go_wp2_with fail
  go_loopw [4, 15] (fun cc i wr => ∃ k : Nat, k ≤ l.length ∧ i = .int .i64 k ∧ cc = .int .i64 ((attrsB (l.take k)).length) ∧ Hid (Below w.heap.size w wr)) (fun _ i _ => l.length - (intOf i).toNat)
  case atStart => exact ⟨0, Nat.zero_le _, rfl, by simp [attrsB], Lib.hid (Below.refl _ _)⟩
  case round =>
    obtain ⟨k, hk, rfl, rfl, HB⟩ := hrel
    by_cases hlt : k < l.length
    · obtain ⟨b, off, c2, hv, _, _, _, hbl, hcell⟩ := (HR.out.below HB.out).at_ (by omega)
      simp only [Value.slice.injEq, true_and] at hv
      obtain ⟨rfl, rfl⟩ := hv
      obtain ⟨a, ha⟩ : ∃ a, l[k]? = some a := ⟨_, List.getElem?_eq_getElem hlt⟩
      obtain ⟨cs, hcs, dv, rfl, hSl⟩ := hcell k a ha
      have e0 : wr.cell? ⟨b, off + k * 3, none⟩ = some (.int .u16 0) := hcs 0 _ rfl
      have e1 : wr.cell? ⟨b, off + k * 3 + 1, none⟩ = some (.int .u16 a.1) := hcs 1 _ rfl
      have e2 : wr.cell? ⟨b, off + k * 3 + 2, none⟩ = some dv := hcs 2 _ rfl
      obtain ⟨dA, dc, rfl, _, _, _⟩ := hSl.form
      have hal := HA.out a (List.mem_of_getElem? ha)
      have hal2 : a.2.length ≤ 65531 := hal.2
      have hT := HT.out
      have hpl : padn a.2.length < a.2.length + 4 := (padn_le a.2.length).2.1
      have hle := attrsB_take_le l k
      have hsum : (attrsB (l.take (k + 1))).length = (attrsB (l.take k)).length + (4 + padn a.2.length) := by rw [attrsB_take_succ l k a ha, List.length_append, attrB_length]
      generalize hX : (attrsB (l.take k)).length = X at *
      generalize hY : (attrsB (l.take (k + 1))).length = Y at *
      have HX := Lib.hid hX
      have HY := Lib.hid hY
      have HS := Lib.hid hsum
      have HA2 := Lib.hid ha
      clear hX hY hsum ha hcs hcell hSl hal
      go_wp2_with fail
      refine (align94 a.2.length _ (by omega)).mono ?_
      rintro e w1 ⟨rfl, rfl⟩
      go_wp2_with fail
      go_roundw
      case rel => exact ⟨k + 1, by omega, int_eq (by omega), int_eq (by rw [HY.out, HS.out]; omega), Lib.hid (HB.out.alloc HB.out.size _)⟩
      case measure => simp [intOf]; omega
    · obtain rfl : k = l.length := by omega
      rw [List.take_length]
      obtain ⟨T, hTe⟩ : ∃ T, (attrsB l).length = T := ⟨_, rfl⟩
      rw [hTe]
      have HTE := Lib.hid hTe
      have hT2 : T ≤ 140737488355328 := by rw [← hTe]; exact HT.out
      have hmk := print_make (P := Try.prog) 28 5 .u8 1 Try.underlying28 info5 (by decide) T (by omega)
      have HM := Lib.hid hmk
      clear hTe hlt hk
      go_wp2_with fail
      obtain ⟨W2, hW2⟩ : ∃ W2, W2 = wr.alloc (.cells (madeCells #[.int .u8 0] T) 5) := ⟨_, rfl⟩
      obtain ⟨g, hg⟩ : ∃ g, g = wr.heap.size := ⟨_, rfl⟩
      have hB2 : Buf W2 g (List.replicate T 0) := by rw [hW2, hg]; exact Buf.made wr T
      have hbw : Below w.heap.size w W2 := by rw [hW2]; exact HB.out.alloc HB.out.size _
      have hgs : w.heap.size ≤ g := by rw [hg]; exact HB.out.size
      have HB2 := Lib.hid hB2
      have HBW := Lib.hid hbw
      rw [← hg, ← hW2]
      have HG := Lib.hid hg
      clear hB2 hbw hW2 hmk hg
      go_loopw [7, 31] (fun cc i wr => ∃ k : Nat, k ≤ l.length ∧ i = .int .i64 k ∧ cc = .int .i64 ((attrsB (l.take k)).length) ∧ Hid (Below w.heap.size w wr ∧ Buf wr g (attrsB (l.take k) ++ List.replicate (T - (attrsB (l.take k)).length) 0))) (fun _ i _ => l.length - (intOf i).toNat)
      case atStart => exact ⟨0, Nat.zero_le _, rfl, by simp [attrsB], Lib.hid ⟨HBW.out, by simpa [attrsB] using HB2.out⟩⟩
      case round =>
        obtain ⟨k, hk, rfl, rfl, HL⟩ := hrel
        by_cases hlt : k < l.length
        · obtain ⟨b, off, c2, hv, _, _, hbok, hbl, hcell⟩ := (HR.out.bound.below HL.out.1).at_ (by omega)
          simp only [Value.slice.injEq, true_and] at hv
          obtain ⟨rfl, rfl⟩ := hv
          obtain ⟨a, ha⟩ : ∃ a, l[k]? = some a := ⟨_, List.getElem?_eq_getElem hlt⟩
          obtain ⟨cs, hcs, dv, rfl, hSl⟩ := hcell k a ha
          have e0 : wr.cell? ⟨b, off + k * 3, none⟩ = some (.int .u16 0) := hcs 0 _ rfl
          have e1 : wr.cell? ⟨b, off + k * 3 + 1, none⟩ = some (.int .u16 a.1) := hcs 1 _ rfl
          have e2 : wr.cell? ⟨b, off + k * 3 + 2, none⟩ = some dv := hcs 2 _ rfl
          have hal := HA.out a (List.mem_of_getElem? ha)
          have hal2 : a.2.length ≤ 65531 := hal.2
          have hpl : padn a.2.length < a.2.length + 4 := (padn_le a.2.length).2.1
          have hpl2 : a.2.length ≤ padn a.2.length := (padn_le a.2.length).1
          have hle := attrsB_take_le l (k + 1)
          rw [HTE.out] at hle
          have hsum : (attrsB (l.take (k + 1))).length = (attrsB (l.take k)).length + (4 + padn a.2.length) := by rw [attrsB_take_succ l k a ha, List.length_append, attrB_length]
          have hSl2 : Sl (fun k => k ≠ g) (wr.alloc (.cells #[.int .u16 (4 + a.2.length), .int .u16 a.1, dv] 102)) dv a.2 := ((hSl.mono fun k hk => by omega).below ((Below.refl _ _).alloc (Nat.le_refl _) _))
          have hP := heap_alloc_new wr (.cells #[.int .u16 (4 + a.2.length), .int .u16 a.1, dv] 102)
          have hBf := HL.out.2.alloc (.cells #[.int .u16 (4 + a.2.length), .int .u16 a.1, dv] 102)
          have hgl := HL.out.2.lt
          have hfin := wr_attr (attrsB (l.take k)) a (T - (attrsB (l.take k)).length) (by omega)
          rw [← attrsB_take_succ l k a ha] at hfin
          generalize hX : (attrsB (l.take k)).length = X at *
          generalize hY : (attrsB (l.take (k + 1))).length = Y at *
          have hdrop : T - X - (4 + padn a.2.length) = T - Y := by omega
          rw [hdrop] at hfin
          obtain ⟨dA, dc, rfl, _, _, _⟩ := hSl.form
          have HX := Lib.hid hX
          have HY := Lib.hid hY
          have HS := Lib.hid hsum
          have HSl := Lib.hid hSl2
          have HP := Lib.hid hP
          have HBF := Lib.hid hBf
          have HF := Lib.hid hfin
          have hne : ¬ T = X := by omega
          have hXT : X ≤ T := by omega
          clear hX hY hsum ha hcs hcell hSl hSl2 hP hBf hfin hdrop
          go_wp2_with fail
          refine (marshal95 wr.heap.size g X (T - X) _ a.1 _ a.2 _ _ rfl hal.1 hal.2 HP.out (by omega) HBF.out HSl.out ?_ ?_).mono ?_
          · rw [List.length_append, HX.out, List.length_replicate]; omega
          · have := HS.out; omega
          rintro e w1 ⟨rfl, hb1, hg1⟩
          rw [HF.out] at hb1
          have HB1 := Lib.hid hb1
          have hbw1 := (HL.out.1.alloc HL.out.1.size _).grown hg1 (by have := HL.out.1.size; simp; omega) (fun k hk => by injection hk with hk; omega)
          have HBW1 := Lib.hid hbw1
          clear hb1 hg1 hbw1
          go_wp2_with fail
          go_roundw
          case rel => exact ⟨k + 1, by omega, int_eq (by omega), int_eq (by rw [HY.out, HS.out]; omega), Lib.hid ⟨HBW1.out, by rw [HY.out]; exact HB1.out⟩⟩
          case measure => simp [intOf]; omega
        · obtain rfl : k = l.length := by omega
          rw [List.take_length] at HL
          go_wp2_with fail
          go_ret2
          refine ⟨_, rfl, Lib.hid ⟨?_, HL.out.1⟩⟩
          have h1 := HL.out.2
          have h2 : T - (attrsB l).length = 0 := by rw [HTE.out]; omega
          rw [h2, List.replicate_zero, List.append_nil] at h1
          have h3 := h1.sl hgs (by rw [HTE.out]; omega)
          rw [HTE.out] at h3
          exact h3
end Go.Proofs.Ytgijhgonpgidiaa
