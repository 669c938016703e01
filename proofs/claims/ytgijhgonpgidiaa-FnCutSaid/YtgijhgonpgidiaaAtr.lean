/-
  Contracts of the functions that FnAttributes reaches. No statement of the seat is proved here.
-/
import Derived.Test.YtgijhgonpgidiaaImplE
import Derived.Test.YtgijhgonpgidiaaAttrB
import Derived.Deep.RegionHeld3
namespace Go.Proofs.Ytgijhgonpgidiaa
open Go.RowKit Go.Proofs.YtgijhgonpgidiaaW.PrintWords

theorem info61' : (Try.prog.info? 61).map (fun i => (i.zero, i.size, i.bytes)) = some (some (.agg #[.int .i64 0, .slice none 0 0]), 2, 32) := by kernel_rfl

set_option maxHeartbeats 1600000 in
theorem fits54 (t : Int) (A : Option Addr) (n c : Nat) (w : World) (hn : n ≤ 9223372036854775807) : Calls Try.prog 54 #[.agg #[.int .i64 t, .slice A n c]] w fun e w' => ∃ b, e = .returned (.bool b) ∧ Below w.heap.size w w' := by
  by_cases h : n ≤ 2147483647
  · go_enter Try.func54, Try.ntmps54
    go_wp2
    go_ret
    exact ⟨_, rfl, (Below.refl _ _).alloc (Nat.le_refl _) _⟩
  · go_enter Try.func54, Try.ntmps54
    go_wp2
    go_ret
    exact ⟨_, rfl, (Below.refl _ _).alloc (Nat.le_refl _) _⟩

set_option maxHeartbeats 1600000 in
theorem proper55 (t : Int) (A : Option Addr) (n c : Nat) (w : World) (hn : n ≤ 9223372036854775807) :
    Calls Try.prog 55 #[.agg #[.int .i64 t, .slice A n c]] w fun e w' => e = .returned (.bool (inBits t 16 && decide (n ≤ 200))) ∧ Below w.heap.size w w' := by
  by_cases h : n ≤ 200
  all_goals
    go_enter Try.func55, Try.ntmps55
    go_wp2_with fail
    refine (within60_16 t _).mono ?_
    rintro e w' ⟨rfl, rfl⟩
    cases hb : inBits t 16
    all_goals
      go_wp2_with fail
      go_ret
      exact ⟨by simp [hb] <;> omega, (Below.refl _ _).alloc (Nat.le_refl _) _⟩

/-- A row of such elements: its k-th element's cells. -/
theorem rowS {ok : Nat → Prop} {w : World} {A : Option Addr} {c0 : Nat} {l : List (Int × List Int)} (h : elS.Rd ok w (.slice A l.length c0) l) {k : Nat} {x : Int × List Int} (hx : l[k]? = some x) :
    ∃ b off dA dc, A = some ⟨b, off, none⟩ ∧ b < w.heap.size ∧ ok b ∧
      w.cell? ⟨b, off + k * 2, none⟩ = some (.int .i64 x.1) ∧ w.cell? ⟨b, off + k * 2 + 1, none⟩ = some (.slice dA x.2.length dc) ∧
      Sl ok w (.slice dA x.2.length dc) x.2 := by
  have hk : k < l.length := (List.getElem?_eq_some_iff.1 hx).1
  obtain ⟨b, off, c, hv, hl, hc, hb, hbl, hcell⟩ := h.at_ (by omega)
  obtain ⟨cs, hcs, dv, rfl, hd⟩ := hcell k x hx
  obtain ⟨dA, dc, rfl, _⟩ := hd.form
  simp only [Value.slice.injEq, true_and] at hv
  exact ⟨b, off, dA, dc, hv.1, hbl, hb, hcs 0 _ rfl, hcs 1 _ rfl, hd⟩

set_option maxRecDepth 100000 in
set_option maxHeartbeats 1600000 in
theorem fits25 (w : World) (v : Value) (l : List (Int × List Int)) (ok : Nat → Prop) (hR : elS.Rd ok w v l) :
    Calls Try.prog 25 #[v] w fun e w' => ∃ b, e = .returned (.bool b) ∧ Hid (Below w.heap.size w w' ∧ (b = true → l.length ≤ 2147483647)) := by
  obtain ⟨A, c, rfl, hlc, hcm⟩ := hR.form
  have hlen : l.length ≤ 9223372036854775807 := by omega
  have HR := Lib.hid hR.bound
  clear hR
  by_cases hbig : l.length ≤ 2147483647
  · go_enter Try.func25, Try.ntmps25
    go_wp2_with fail
    go_loopw [10] (fun i wr => ∃ k : Nat, k ≤ l.length ∧ i = .int .i64 k ∧ Hid (Below w.heap.size w wr)) (fun i _ => l.length - (intOf i).toNat)
    case atStart => exact ⟨0, Nat.zero_le _, rfl, Lib.hid (Below.refl _ _)⟩
    case round =>
      obtain ⟨k, hk, rfl, HL⟩ := hrel
      by_cases hlt : k < l.length
      · obtain ⟨x, hx⟩ : ∃ x, l[k]? = some x := ⟨_, List.getElem?_eq_getElem hlt⟩
        obtain ⟨b, off, dA, dc, rfl, hbl, hbok, e0, e1, hd⟩ := rowS (HR.out.below HL.out) hx
        have hdl := hd.len
        have HB1 := Lib.hid ((Below.refl wr.heap.size wr).alloc (Nat.le_refl _) (.cells #[.int .i64 x.1, .slice dA x.2.length dc] 60))
        clear hx hd
        go_wp2_with fail
        refine (fits54 x.1 dA x.2.length dc _ hdl).mono ?_
        rintro e w1 ⟨q, rfl, hb2⟩
        have HB2 := Lib.hid (HL.out.trans ((HB1.out.trans (hb2.mono (by simp))).mono HL.out.size))
        clear hb2
        cases q
        · go_wp2_with fail
          go_ret
          exact ⟨_, rfl, Lib.hid ⟨HB2.out, fun _ => hbig⟩⟩
        · go_wp2_with fail
          go_roundw
          case rel => exact ⟨k + 1, by omega, int_eq (by omega), HB2⟩
          case measure => simp [intOf]; omega
      · obtain rfl : k = l.length := by omega
        go_wp2_with fail
        go_ret
        exact ⟨_, rfl, Lib.hid ⟨HL.out, fun _ => hbig⟩⟩
  · go_enter Try.func25, Try.ntmps25
    go_wp2_with fail
    go_ret
    exact ⟨_, rfl, Lib.hid ⟨Below.refl _ _, fun h => by cases h⟩⟩

/-- Attributes as the laws take them. -/
def AP (a : Int × List Int) : Prop := (0 ≤ a.1 ∧ a.1 < 65536) ∧ a.2.length ≤ 200
theorem AP.of {a : Int × List Int} (h : (inBits a.1 16 && decide (a.2.length ≤ 200)) = true) : AP a := by
  simp only [Bool.and_eq_true, decide_eq_true_eq, inBits_iff] at h
  exact ⟨h.1, h.2⟩

set_option maxRecDepth 100000 in
set_option maxHeartbeats 1600000 in
theorem attributes26 (w : World) (v : Value) (l : List (Int × List Int)) (ok : Nat → Prop) (hR : elS.Rd ok w v l) (hbig : l.length ≤ 2147483647) :
    Calls Try.prog 26 #[v] w fun e w' => ∃ u b, e = .returned (.tuple #[u, .bool b]) ∧ Hid (Below w.heap.size w w' ∧ (b = true → elS.Ow 61 (fun _ => True) w' w.heap.size u l ∧ l.length ≤ 20 ∧ ∀ a ∈ l, AP a)) := by
  obtain ⟨A, c, rfl, hlc, hcm⟩ := hR.form
  have HR := Lib.hid hR.bound
  clear hR
  go_enter Try.func26, Try.ntmps26
  go_wp2_with fail
  go_loopw [4, 9] (fun b i wr => ∃ k : Nat, k ≤ l.length ∧ i = .int .i64 k ∧ Hid (elS.Ow 61 (fun _ => True) wr w.heap.size b (l.take k) ∧ Below w.heap.size w wr ∧ ∀ a ∈ l.take k, AP a)) (fun _ i _ => l.length - (intOf i).toNat)
  case atStart => exact ⟨0, Nat.zero_le _, rfl, Lib.hid ⟨El.Ow.nil elS 61 _ w _, Below.refl _ _, by simp⟩⟩
  case round =>
    obtain ⟨k, hk, rfl, HL⟩ := hrel
    by_cases hlt : k < l.length
    · obtain ⟨x, hx⟩ : ∃ x, l[k]? = some x := ⟨_, List.getElem?_eq_getElem hlt⟩
      obtain ⟨b, off, dA, dc, rfl, hbl, hbok, e0, e1, hd⟩ := rowS (HR.out.below HL.out.2.1) hx
      have hdl := hd.len
      have hsn : l.take (k + 1) = l.take k ++ [x] := by
        rw [List.take_succ_eq_append_getElem hlt]; congr 1
        rw [List.getElem?_eq_getElem hlt] at hx; injection hx with hx; rw [hx]
      obtain ⟨W1, hW1⟩ : ∃ W, W = wr.alloc (.cells #[.int .i64 x.1, .slice dA x.2.length dc] 60) := ⟨_, rfl⟩
      have hB1 : Below wr.heap.size wr W1 := by rw [hW1]; exact (Below.refl _ _).alloc (Nat.le_refl _) _
      have hs1 : W1.heap.size = wr.heap.size + 1 := by rw [hW1]; simp
      have hblk : W1.heap[wr.heap.size]? = some (.cells #[.int .i64 x.1, .slice dA x.2.length dc] 60) := by rw [hW1]; exact heap_alloc_new _ _
      have hO1 := HL.out.1.below hB1
      have hlow := HL.out.2.1.size
      have hp : elS.E (fun k => True ∧ some k ≠ u4.ownBlock) W1 x [.int .i64 x.1, .slice dA x.2.length dc] := ⟨_, rfl, (hd.below hB1).mono fun k hk => ⟨trivial, fun he => by have := (HL.out.1.lt k he.symm).1; omega⟩⟩
      have hl2 : ((l.take k).length + 1) * 32 ≤ 140737488355328 := by rw [List.length_take]; omega
      have hnb : some wr.heap.size ≠ u4.ownBlock := fun he => by have := (HL.out.1.lt _ he.symm).2; omega
      have hB1w := HL.out.2.1.trans (hB1.mono hlow)
      have hlo1 : w.heap.size ≤ W1.heap.size := by omega
      subst hW1
      have HSN := Lib.hid hsn
      have HBL := Lib.hid hblk
      have HO := Lib.hid hO1
      have HP := Lib.hid hp
      have HB := Lib.hid hB1w
      have HS1 := Lib.hid hs1
      have HN := Lib.hid hnb
      have HLO := Lib.hid hlo1
      clear hsn hx hB1 hs1 hblk hO1 hp hd hnb hlo1 hB1w
      go_wp2_with (at_builtin; go_must (refine El.Ow.append elS (W := wr.alloc (.cells #[.int .i64 x.1, .slice dA x.2.length dc] 60)) w.heap.size rfl (.tmp 13) (.tmp 15) 35 61 _ 32 rfl Try.underlying35 info61' rfl (by decide) (by decide) u4 _ x [.int .i64 x.1, .slice dA x.2.length dc] rfl (wr.heap.size + 1) HS1.out rfl HP.out HO.out HLO.out (fun _ _ => trivial) hl2 ?_); intro v1 w1 hO2 hg2 hat2; have HO2 := Lib.hid hO2; have HB2 := Lib.hid (HB.out.grown hg2 HLO.out fun k hk => (HO.out.lt k hk).1); have z0 : w1.heap[wr.heap.size]? = some (.cells #[.int .i64 x.1, .slice dA x.2.length dc] 60) := blk_grown HBL.out hg2 HN.out; have z1 : w1.cell? ⟨wr.heap.size, 0, none⟩ = some (.int .i64 x.1) := blk_cell z0 0; have z2 : w1.cell? ⟨wr.heap.size, 1, none⟩ = some (.slice dA x.2.length dc) := blk_cell z0 1; clear z0 hO2 hg2 hat2)
      rw [← HSN.out] at HO2
      refine (proper55 x.1 dA x.2.length dc _ hdl).mono ?_
      rintro e w2 ⟨rfl, hb3⟩
      have hO3 := HO2.out.below hb3
      have hB3 := HB2.out.trans (hb3.mono HB2.out.size)
      cases hpr : (inBits x.1 16 && decide (x.2.length ≤ 200))
      · have HB3 := Lib.hid hB3
        clear hb3 hO3 hB3
        go_wp2_with fail
        go_ret2
        exact ⟨_, _, rfl, Lib.hid ⟨HB3.out, fun h => by cases h⟩⟩
      · have HF := Lib.hid (show elS.Ow 61 (fun _ => True) w2 w.heap.size v1 (l.take (k + 1)) ∧ Below w.heap.size w w2 ∧ ∀ a ∈ l.take (k + 1), AP a from ⟨hO3, hB3, fun a ha => by
          rw [HSN.out, List.mem_append, List.mem_singleton] at ha
          rcases ha with ha | rfl
          · exact HL.out.2.2 a ha
          · exact AP.of hpr⟩)
        clear hb3 hO3 hB3
        obtain ⟨A1, c1, hv1, _⟩ := HF.out.1.slice_
        rw [List.length_take, Nat.min_eq_left (by omega)] at hv1
        subst hv1
        go_wp2_with fail
        go_roundw
        case rel => exact ⟨k + 1, by omega, int_eq (by omega), HF⟩
        case measure => simp [intOf]; omega
    · obtain rfl : k = l.length := by omega
      rw [List.take_length] at HL
      obtain ⟨A1, c1, rfl, _⟩ := HL.out.1.slice_
      by_cases h20 : l.length ≤ 20
      · go_wp2_with fail
        go_ret2
        exact ⟨_, _, rfl, Lib.hid ⟨HL.out.2.1, fun _ => ⟨HL.out.1, h20, HL.out.2.2⟩⟩⟩
      · go_wp2_with fail
        go_ret2
        exact ⟨_, _, rfl, Lib.hid ⟨HL.out.2.1, fun h => absurd h (by simp; omega)⟩⟩

/-! ### FormatAttributes -/
def toA (l : List (Int × List Int)) : List (Int × List Int) := l

set_option maxRecDepth 100000 in
set_option maxHeartbeats 3200000 in
theorem format27 (w : World) (v : Value) (l : List (Int × List Int)) (ok : Nat → Prop) (hR : elS.Rd ok w v l) (hA : ∀ a ∈ l, AP a) (hl : l.length ≤ 20) :
    Calls Try.prog 27 #[v] w fun e w' => ∃ u, e = .returned (.tuple #[u, .bool true]) ∧ Hid (Sl (fun k => w.heap.size ≤ k) w' u (attrsB l) ∧ Below w.heap.size w w') := by
  have hmf : ∀ (fn : Fn) (first cap : Array Value) (w : World), (Instr.makeFunc fn first cap).run Try.prog w = .ok (.func fn first cap) w := fun _ _ _ _ => rfl
  obtain ⟨A, c, rfl, hlc, hcm⟩ := hR.form
  have hT : (attrsB l).length ≤ 140737488355328 := by have := attrsB_length_le 200 l (fun a ha => (hA a ha).2); omega
  obtain ⟨W, hW⟩ : ∃ W, W = (w.alloc (.cells #[.slice none 0 0] 28)).alloc (.cells #[.bool false] 4) := ⟨_, rfl⟩
  have hB : Below w.heap.size w W := by rw [hW]; exact ((Below.refl _ _).alloc (Nat.le_refl _) _).alloc (by simp) _
  have hsz : W.heap.size = w.heap.size + 2 := by rw [hW]; simp
  have hq0 : W.heap[w.heap.size]? = some (.cells #[.slice none 0 0] 28) := by rw [hW]; exact blk_alloc (heap_alloc_new _ _) _
  have hq1 : W.heap[w.heap.size + 1]? = some (.cells #[.bool false] 4) := by rw [hW]; have := heap_alloc_new (w.alloc (.cells #[.slice none 0 0] 28)) (.cells #[.bool false] 4); simpa using this
  have HR := Lib.hid (hR.bound.below hB)
  have HW := Lib.hid hW
  have HB := Lib.hid hB
  have HS := Lib.hid hsz
  have HQ0 := Lib.hid hq0
  have HQ1 := Lib.hid hq1
  have HA := Lib.hid hA
  have HT := Lib.hid hT
  have hw2 : w.heap.size < W.heap.size := by omega
  have hw3 : w.heap.size + 1 < W.heap.size := by omega
  clear hR hA hT hW hB hsz hq0 hq1
  go_enter_defers Try.func27, Try.ntmps27
  go_wp2_with fail
  rw [← HW.out]
  go_loopw [4, 11] (fun b i wr => ∃ k : Nat, k ≤ l.length ∧ i = .int .i64 k ∧ Hid (elA.Ow 102 (fun _ => True) wr W.heap.size b (l.take k) ∧ Below W.heap.size W wr)) (fun _ i _ => l.length - (intOf i).toNat)
  case atStart => exact ⟨0, Nat.zero_le _, rfl, Lib.hid ⟨El.Ow.nil elA 102 _ W _, Below.refl _ _⟩⟩
  case round =>
    obtain ⟨k, hk, rfl, HL⟩ := hrel
    by_cases hlt : k < l.length
    · obtain ⟨x, hx⟩ : ∃ x, l[k]? = some x := ⟨_, List.getElem?_eq_getElem hlt⟩
      obtain ⟨b, off, dA, dc, rfl, hbl, hbok, e0, e1, hd⟩ := rowS (HR.out.below HL.out.2) hx
      obtain ⟨⟨hx0, hx1⟩, hx2⟩ := HA.out x (List.mem_of_getElem? hx)
      have hdl := hd.len
      have hsn : l.take (k + 1) = l.take k ++ [x] := by
        rw [List.take_succ_eq_append_getElem hlt]; congr 1
        rw [List.getElem?_eq_getElem hlt] at hx; injection hx with hx; rw [hx]
      obtain ⟨W1, hW1⟩ : ∃ W, W = wr.alloc (.cells #[.int .i64 x.1, .slice dA x.2.length dc] 60) := ⟨_, rfl⟩
      have hB1 : Below wr.heap.size wr W1 := by rw [hW1]; exact (Below.refl _ _).alloc (Nat.le_refl _) _
      have hs1 : W1.heap.size = wr.heap.size + 1 := by rw [hW1]; simp
      have hblk : W1.heap[wr.heap.size]? = some (.cells #[.int .i64 x.1, .slice dA x.2.length dc] 60) := by rw [hW1]; exact heap_alloc_new _ _
      have hO1 := HL.out.1.below hB1
      have hlow := HL.out.2.size
      have m0 : W1.cell? ⟨wr.heap.size, 0, none⟩ = some (.int .i64 x.1) := blk_cell hblk 0
      have m1 : W1.cell? ⟨wr.heap.size, 1, none⟩ = some (.slice dA x.2.length dc) := blk_cell hblk 1
      have hl2 : ((l.take k).length + 1) * 32 ≤ 140737488355328 := by rw [List.length_take]; omega
      have HSN := Lib.hid hsn
      have HW1 := Lib.hid hW1
      have HBL := Lib.hid hblk
      have HO := Lib.hid hO1
      have HD := Lib.hid (hd.below hB1)
      have HB1 := Lib.hid (HL.out.2.trans (hB1.mono hlow))
      have HS1 := Lib.hid hs1
      clear hsn hx hW1 hB1 hs1 hblk hO1 hd
      go_wp2_with fail
      rw [← HW1.out]
      refine (within57 x.1 0 65535 _ (by omega) (by omega)).mono ?_
      rintro e w' ⟨rfl, rfl⟩
      go_wp2_with fail
      have HD2 : Hid (Sl (fun k => (ok k ∧ k < w.heap.size) ∧ k < W.heap.size) W1.drew (.slice dA x.2.length dc) x.2) := Lib.hid (HD.out.mono fun k hk => ⟨hk, by have := HB.out.size; omega⟩)
      have HO1 : Hid (elA.Ow 102 (fun _ => True) W1.drew W.heap.size u4 (l.take k)) := HO
      have HBLd : Hid (W1.drew.heap[wr.heap.size]? = some (.cells #[.int .i64 x.1, .slice dA x.2.length dc] 60)) := HBL
      have HB1d : Hid (Below W.heap.size W W1.drew) := Lib.hid HB1.out.drew
      have HWR : Hid (∀ dv : Value, ([.int .u16 0, .int .u16 (IntKind.u16.wrap x.1), dv] : List Value) = [.int .u16 0, .int .u16 x.1, dv]) := Lib.hid fun dv => by rw [show IntKind.u16.wrap x.1 = x.1 by rw [IntKind.wrap_u16]; omega]
      refine wp_region_noPanic ?_
      go_region_law (first
        | (refine El.Ow.append_step elA (W := w2) W.heap.size (by rfl) (.tmp 19) (.tmp 27) 87 102 _ 32 (by rfl) Try.underlying87 info102 rfl (by decide) (by decide) u4 _ x [.int .u16 0, .int .u16 (IntKind.u16.wrap x.1), .slice A2 x.2.length c2] (by rfl) w2.heap.size rfl (by rfl) HP.out HO2.out HLO.out (fun _ _ => trivial) hl2 ?_; intro v1 w3 hO3 hg3 hat3
           have HO3 := Lib.hid hO3
           have HB3 := Lib.hid (HB2.out.grown hg3 HLO.out fun k hk => (HO2.out.lt k hk).1)
           clear hO3 hg3 hat3)
        | (refine dup_step HD2.out (by omega) (by rfl) (.const (.slice none 0 0)) (.tmp 24) (by rfl) (by rfl) (by rfl) ?_; intro A2 c2 w2 H2
           have q0 : w2.cell? ⟨wr.heap.size, 0, none⟩ = some (.int .i64 x.1) := blk_cell (blk_below HBLd.out H2.out.2) 0
           have HO2 := Lib.hid (HO1.out.below H2.out.2)
           have HP : Hid (elA.E (fun k => True ∧ some k ≠ u4.ownBlock) w2 x [.int .u16 0, .int .u16 (IntKind.u16.wrap x.1), .slice A2 x.2.length c2]) := Lib.hid ⟨.slice A2 x.2.length c2, HWR.out _, H2.out.1.mono fun k hk => ⟨trivial, fun he => by have := (HO1.out.lt k he.symm).2; omega⟩⟩
           have HB2 : Hid (Below W.heap.size W w2) := Lib.hid (below_then HB1d.out HB1d.out.size H2.out.2)
           have HLO : Hid (W.heap.size ≤ w2.heap.size) := Lib.hid HB2.out.size))
      all_goals refine NoPanic.normal ?_
      all_goals
        rw [← HSN.out] at HO3
        obtain ⟨A1, c1, hv1, _⟩ := HO3.out.slice_
        rw [List.length_take, Nat.min_eq_left (by omega)] at hv1
        subst hv1
        go_wp2_with fail
        go_roundw
        case rel => exact ⟨k + 1, by omega, int_eq (by omega), Lib.hid ⟨HO3.out, HB3.out⟩⟩
        case measure => simp [intOf]; omega
    · obtain rfl : k = l.length := by omega
      rw [List.take_length] at HL
      obtain ⟨A1, c1, rfl, _⟩ := HL.out.1.slice_
      go_wp2_with fail
      refine (marshal58 wr _ l _ HL.out.1.rd (fun a ha => ⟨(HA.out a ha).1, by have := (HA.out a ha).2; omega⟩) HT.out).mono ?_
      rintro e w3 ⟨u, rfl, HU⟩
      have hB3 : Below W.heap.size W w3 := below_then HL.out.2 HL.out.2.size HU.out.2
      have hz0 := (hB3.block w.heap.size hw2).trans HQ0.out
      have hz1 := (hB3.block (w.heap.size + 1) hw3).trans HQ1.out
      have z0 : w3.cell? ⟨w.heap.size, 0, none⟩ = some (.slice none 0 0) := blk_cell hz0 0
      have z1 : w3.cell? ⟨w.heap.size + 1, 0, none⟩ = some (.bool false) := blk_cell hz1 0
      have y0 : w3.frozen? ⟨w.heap.size, 0, none⟩ = false := blk_frozen hz0 0
      have y1 : w3.frozen? ⟨w.heap.size + 1, 0, none⟩ = false := blk_frozen hz1 0
      obtain ⟨A, c, rfl, _⟩ := HU.out.1.form
      have hs2 := HL.out.2.size
      have HU2 := Lib.hid (HU.out.1.mono (ok' := fun k => W.heap.size ≤ k) fun k hk => by omega)
      have HB3 := Lib.hid (below_then HB.out HB.out.size hB3)
      clear hB3 hz0 hz1 hs2
      go_wp2_with fail
      refine leaves_cons (f := 56) (args := #[.pointer (some ⟨w.heap.size, 0, none⟩), .pointer (some ⟨w.heap.size + 1, 0, none⟩)]) (by simp) (by simp [go_sem]) ?_
      refine (idle56 _ _ _).mono ?_
      rintro e u' w'' ⟨rfl, rfl, rfl⟩
      simp [Leaves, settle, results, Try.results27, go_sem, z0, z1]
      refine Lib.hid ⟨(HU2.out.step fun k hk _ => ?_).mono fun k hk => by omega, ((HB3.out.setCell (Nat.le_refl _) _).setCell (Nat.le_refl _) _).setCell (by simp) _⟩
      rw [Below.heap_setCell _ _ _ _ (by show k ≠ w.heap.size + 1; omega), Below.heap_setCell _ _ _ _ (by show k ≠ w.heap.size; omega), Below.heap_setCell _ _ _ _ (by show k ≠ w.heap.size; omega)]
end Go.Proofs.Ytgijhgonpgidiaa
