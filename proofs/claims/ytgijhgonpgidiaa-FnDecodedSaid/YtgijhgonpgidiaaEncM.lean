/-
  Contracts of the encoder's methods: each adds one attribute. No statement of the seat is proved here. (Printed in part by gen_encm.py.)
-/
import Derived.Test.YtgijhgonpgidiaaEnc
namespace Go.Proofs.Ytgijhgonpgidiaa
open Go.RowKit Go.Proofs.YtgijhgonpgidiaaW.PrintWords


set_option maxRecDepth 100000 in
set_option maxHeartbeats 400000 in
theorem enc81 (w : World) (base g : Nat) (big : Bool) (l : List (Int × List Int)) (t n : Int) (h : Enc w base g big l) (hb : base ≤ w.heap.size) (hl : l.length < 1000000) :
    Calls Try.prog 81 #[.pointer (some ⟨g, 0, none⟩), .int .u16 t, .int .u8 n] w fun e w' => e = .returned (.tuple #[]) ∧ Enc w' base g big (l ++ [(t, [n])]) ∧ Below base w w' := by
  obtain ⟨v, _, c1, c2, hlt, h2, H1, H3⟩ := h.open_
  have HW := Lib.hid ((Below.refl w.heap.size w).alloc (Nat.le_refl _) (.cells #[.int .u8 (n)] 5))
  have HD := Lib.hid (Sl.lit w [n] (by simp))
  have hz : (w.alloc (.cells #[.int .u8 (n)] 5)).heap.size = w.heap.size + 1 := by simp
  have HZ := Lib.hid hz
  clear h hz
  go_enter Try.func81, Try.ntmps81
  go_wp2_with (at_builtin; go_must (refine Enc.law (W := w.alloc (.cells #[.int .u8 (n)] 5)) H1.out h2 H3.out hb HW.out HD.out hl rfl (.tmp 15) (.tmp 20) rfl rfl (w.heap.size + 1) HZ.out rfl ?_); intro A c w1 c1' f1' HE)
  go_end0
  exact ⟨rfl, HE.out⟩

set_option maxRecDepth 100000 in
set_option maxHeartbeats 400000 in
theorem enc85 (w : World) (base g : Nat) (big : Bool) (l : List (Int × List Int)) (t n : Int) (h : Enc w base g big l) (hb : base ≤ w.heap.size) (hl : l.length < 1000000) :
    Calls Try.prog 85 #[.pointer (some ⟨g, 0, none⟩), .int .u16 t, .int .i8 n] w fun e w' => e = .returned (.tuple #[]) ∧ Enc w' base g big (l ++ [(t, [n % 256])]) ∧ Below base w w' := by
  obtain ⟨v, _, c1, c2, hlt, h2, H1, H3⟩ := h.open_
  have HW := Lib.hid ((Below.refl w.heap.size w).alloc (Nat.le_refl _) (.cells #[.int .u8 (n % 256)] 5))
  have HD := Lib.hid (Sl.lit w [n % 256] (by simp))
  have hz : (w.alloc (.cells #[.int .u8 (n % 256)] 5)).heap.size = w.heap.size + 1 := by simp
  have HZ := Lib.hid hz
  clear h hz
  go_enter Try.func85, Try.ntmps85
  go_wp2_with (at_builtin; go_must (refine Enc.law (W := w.alloc (.cells #[.int .u8 (n % 256)] 5)) H1.out h2 H3.out hb HW.out HD.out hl rfl (.tmp 15) (.tmp 21) rfl rfl (w.heap.size + 1) HZ.out rfl ?_); intro A c w1 c1' f1' HE)
  go_end0
  exact ⟨rfl, HE.out⟩

theorem made2 (w : World) : (Instr.makeSlice 28 (.int .i64 2) (.int .i64 2)).run Try.prog w = .ok (.slice (some ⟨w.heap.size, 0, none⟩) 2 2) (w.alloc (.cells #[.int .u8 0, .int .u8 0] 5)) := by kernel_rfl

theorem made4 (w : World) : (Instr.makeSlice 28 (.int .i64 4) (.int .i64 4)).run Try.prog w = .ok (.slice (some ⟨w.heap.size, 0, none⟩) 4 4) (w.alloc (.cells #[.int .u8 0, .int .u8 0, .int .u8 0, .int .u8 0] 5)) := by kernel_rfl

theorem made8 (w : World) : (Instr.makeSlice 28 (.int .i64 8) (.int .i64 8)).run Try.prog w = .ok (.slice (some ⟨w.heap.size, 0, none⟩) 8 8) (w.alloc (.cells #[.int .u8 0, .int .u8 0, .int .u8 0, .int .u8 0, .int .u8 0, .int .u8 0, .int .u8 0, .int .u8 0] 5)) := by kernel_rfl

set_option maxRecDepth 100000 in
set_option maxHeartbeats 800000 in
theorem enc82_le (w : World) (base g : Nat) (l : List (Int × List Int)) (t n : Int) (hn : 0 ≤ n ∧ n < 65536) (h : Enc w base g false l) (hb : base ≤ w.heap.size) (hl : l.length < 1000000) :
    Calls Try.prog 82 #[.pointer (some ⟨g, 0, none⟩), .int .u16 t, .int .u16 n] w fun e w' => e = .returned (.tuple #[]) ∧ Enc w' base g false (l ++ [(t, putO false (n) 2)]) ∧ Below base w w' := by
  obtain ⟨v, c0, c1, c2, hlt, h2, H1, H3⟩ := h.open_
  rw [boV_false] at c0
  have hmk := made2
  have HB0 : Hid (Buf (w.alloc (.cells #[.int .u8 0, .int .u8 0] 5)) w.heap.size [0, 0]) := heap_alloc_new w _
  have HW0 := Lib.hid ((Below.refl w.heap.size w).alloc (Nat.le_refl _) (.cells #[.int .u8 0, .int .u8 0] 5))
  clear h
  go_enter Try.func82, Try.ntmps82
  go_wp2_with fail
  refine (put153 w.heap.size 0 2 2 (n) [0, 0] _ HB0.out (by omega) (by simp) (by omega)).mono ?_
  rintro e w2 ⟨rfl, hB2, hg2⟩
  rw [wr_full _ _ (by simp [putB_length])] at hB2
  have hw2 := below_grown_new HW0.out hg2 (Nat.le_refl _)
  have hS : Sl (fun k => w.heap.size ≤ k) w2 (.slice (some ⟨w.heap.size, 0, none⟩) 2 2) (putO false (n) 2) := by
    have := hB2.sl (B := w.heap.size) (Nat.le_refl _) (by simp [putB_length])
    simpa [putO, putB_length] using this
  have c1b := (hw2.cell (p := ⟨g, 1, none⟩) hlt).trans c1
  have c2b := (hw2.cell (p := ⟨g, 2, none⟩) hlt).trans c2
  have HW2 := Lib.hid hw2
  have HS := Lib.hid hS
  clear hB2 hg2 hw2 hS
  go_wp2_with (at_builtin; go_must (refine Enc.law (W := w2) H1.out h2 H3.out hb HW2.out HS.out hl rfl (.tmp 24) (.tmp 28) rfl rfl w2.heap.size rfl rfl ?_); intro A c w1 c1' f1' HE)
  go_end0
  exact ⟨rfl, HE.out⟩

set_option maxRecDepth 100000 in
set_option maxHeartbeats 800000 in
theorem enc82_be (w : World) (base g : Nat) (l : List (Int × List Int)) (t n : Int) (hn : 0 ≤ n ∧ n < 65536) (h : Enc w base g true l) (hb : base ≤ w.heap.size) (hl : l.length < 1000000) :
    Calls Try.prog 82 #[.pointer (some ⟨g, 0, none⟩), .int .u16 t, .int .u16 n] w fun e w' => e = .returned (.tuple #[]) ∧ Enc w' base g true (l ++ [(t, putO true (n) 2)]) ∧ Below base w w' := by
  obtain ⟨v, c0, c1, c2, hlt, h2, H1, H3⟩ := h.open_
  rw [boV_true] at c0
  have hmk := made2
  have HB0 : Hid (Buf (w.alloc (.cells #[.int .u8 0, .int .u8 0] 5)) w.heap.size [0, 0]) := heap_alloc_new w _
  have HW0 := Lib.hid ((Below.refl w.heap.size w).alloc (Nat.le_refl _) (.cells #[.int .u8 0, .int .u8 0] 5))
  clear h
  go_enter Try.func82, Try.ntmps82
  go_wp2_with fail
  refine (put161 w.heap.size 0 2 2 (n) [0, 0] _ HB0.out (by omega) (by simp) (by omega)).mono ?_
  rintro e w2 ⟨rfl, hB2, hg2⟩
  rw [wr_full _ _ (by simp [putB_length])] at hB2
  have hw2 := below_grown_new HW0.out hg2 (Nat.le_refl _)
  have hS : Sl (fun k => w.heap.size ≤ k) w2 (.slice (some ⟨w.heap.size, 0, none⟩) 2 2) (putO true (n) 2) := by
    have := hB2.sl (B := w.heap.size) (Nat.le_refl _) (by simp [putB_length])
    simpa [putO, putB_length] using this
  have c1b := (hw2.cell (p := ⟨g, 1, none⟩) hlt).trans c1
  have c2b := (hw2.cell (p := ⟨g, 2, none⟩) hlt).trans c2
  have HW2 := Lib.hid hw2
  have HS := Lib.hid hS
  clear hB2 hg2 hw2 hS
  go_wp2_with (at_builtin; go_must (refine Enc.law (W := w2) H1.out h2 H3.out hb HW2.out HS.out hl rfl (.tmp 24) (.tmp 28) rfl rfl w2.heap.size rfl rfl ?_); intro A c w1 c1' f1' HE)
  go_end0
  exact ⟨rfl, HE.out⟩

set_option maxRecDepth 100000 in
set_option maxHeartbeats 800000 in
theorem enc83_le (w : World) (base g : Nat) (l : List (Int × List Int)) (t n : Int) (hn : 0 ≤ n ∧ n < 4294967296) (h : Enc w base g false l) (hb : base ≤ w.heap.size) (hl : l.length < 1000000) :
    Calls Try.prog 83 #[.pointer (some ⟨g, 0, none⟩), .int .u16 t, .int .u32 n] w fun e w' => e = .returned (.tuple #[]) ∧ Enc w' base g false (l ++ [(t, putO false (n) 4)]) ∧ Below base w w' := by
  obtain ⟨v, c0, c1, c2, hlt, h2, H1, H3⟩ := h.open_
  rw [boV_false] at c0
  have hmk := made4
  have HB0 : Hid (Buf (w.alloc (.cells #[.int .u8 0, .int .u8 0, .int .u8 0, .int .u8 0] 5)) w.heap.size [0, 0, 0, 0]) := heap_alloc_new w _
  have HW0 := Lib.hid ((Below.refl w.heap.size w).alloc (Nat.le_refl _) (.cells #[.int .u8 0, .int .u8 0, .int .u8 0, .int .u8 0] 5))
  clear h
  go_enter Try.func83, Try.ntmps83
  go_wp2_with fail
  refine (put154 w.heap.size 0 4 4 (n) [0, 0, 0, 0] _ HB0.out (by omega) (by simp) (by omega)).mono ?_
  rintro e w2 ⟨rfl, hB2, hg2⟩
  rw [wr_full _ _ (by simp [putB_length])] at hB2
  have hw2 := below_grown_new HW0.out hg2 (Nat.le_refl _)
  have hS : Sl (fun k => w.heap.size ≤ k) w2 (.slice (some ⟨w.heap.size, 0, none⟩) 4 4) (putO false (n) 4) := by
    have := hB2.sl (B := w.heap.size) (Nat.le_refl _) (by simp [putB_length])
    simpa [putO, putB_length] using this
  have c1b := (hw2.cell (p := ⟨g, 1, none⟩) hlt).trans c1
  have c2b := (hw2.cell (p := ⟨g, 2, none⟩) hlt).trans c2
  have HW2 := Lib.hid hw2
  have HS := Lib.hid hS
  clear hB2 hg2 hw2 hS
  go_wp2_with (at_builtin; go_must (refine Enc.law (W := w2) H1.out h2 H3.out hb HW2.out HS.out hl rfl (.tmp 24) (.tmp 28) rfl rfl w2.heap.size rfl rfl ?_); intro A c w1 c1' f1' HE)
  go_end0
  exact ⟨rfl, HE.out⟩

set_option maxRecDepth 100000 in
set_option maxHeartbeats 800000 in
theorem enc83_be (w : World) (base g : Nat) (l : List (Int × List Int)) (t n : Int) (hn : 0 ≤ n ∧ n < 4294967296) (h : Enc w base g true l) (hb : base ≤ w.heap.size) (hl : l.length < 1000000) :
    Calls Try.prog 83 #[.pointer (some ⟨g, 0, none⟩), .int .u16 t, .int .u32 n] w fun e w' => e = .returned (.tuple #[]) ∧ Enc w' base g true (l ++ [(t, putO true (n) 4)]) ∧ Below base w w' := by
  obtain ⟨v, c0, c1, c2, hlt, h2, H1, H3⟩ := h.open_
  rw [boV_true] at c0
  have hmk := made4
  have HB0 : Hid (Buf (w.alloc (.cells #[.int .u8 0, .int .u8 0, .int .u8 0, .int .u8 0] 5)) w.heap.size [0, 0, 0, 0]) := heap_alloc_new w _
  have HW0 := Lib.hid ((Below.refl w.heap.size w).alloc (Nat.le_refl _) (.cells #[.int .u8 0, .int .u8 0, .int .u8 0, .int .u8 0] 5))
  clear h
  go_enter Try.func83, Try.ntmps83
  go_wp2_with fail
  refine (put162 w.heap.size 0 4 4 (n) [0, 0, 0, 0] _ HB0.out (by omega) (by simp) (by omega)).mono ?_
  rintro e w2 ⟨rfl, hB2, hg2⟩
  rw [wr_full _ _ (by simp [putB_length])] at hB2
  have hw2 := below_grown_new HW0.out hg2 (Nat.le_refl _)
  have hS : Sl (fun k => w.heap.size ≤ k) w2 (.slice (some ⟨w.heap.size, 0, none⟩) 4 4) (putO true (n) 4) := by
    have := hB2.sl (B := w.heap.size) (Nat.le_refl _) (by simp [putB_length])
    simpa [putO, putB_length] using this
  have c1b := (hw2.cell (p := ⟨g, 1, none⟩) hlt).trans c1
  have c2b := (hw2.cell (p := ⟨g, 2, none⟩) hlt).trans c2
  have HW2 := Lib.hid hw2
  have HS := Lib.hid hS
  clear hB2 hg2 hw2 hS
  go_wp2_with (at_builtin; go_must (refine Enc.law (W := w2) H1.out h2 H3.out hb HW2.out HS.out hl rfl (.tmp 24) (.tmp 28) rfl rfl w2.heap.size rfl rfl ?_); intro A c w1 c1' f1' HE)
  go_end0
  exact ⟨rfl, HE.out⟩

set_option maxRecDepth 100000 in
set_option maxHeartbeats 800000 in
theorem enc84_le (w : World) (base g : Nat) (l : List (Int × List Int)) (t n : Int) (hn : 0 ≤ n ∧ n < 18446744073709551616) (h : Enc w base g false l) (hb : base ≤ w.heap.size) (hl : l.length < 1000000) :
    Calls Try.prog 84 #[.pointer (some ⟨g, 0, none⟩), .int .u16 t, .int .u64 n] w fun e w' => e = .returned (.tuple #[]) ∧ Enc w' base g false (l ++ [(t, putO false (n) 8)]) ∧ Below base w w' := by
  obtain ⟨v, c0, c1, c2, hlt, h2, H1, H3⟩ := h.open_
  rw [boV_false] at c0
  have hmk := made8
  have HB0 : Hid (Buf (w.alloc (.cells #[.int .u8 0, .int .u8 0, .int .u8 0, .int .u8 0, .int .u8 0, .int .u8 0, .int .u8 0, .int .u8 0] 5)) w.heap.size [0, 0, 0, 0, 0, 0, 0, 0]) := heap_alloc_new w _
  have HW0 := Lib.hid ((Below.refl w.heap.size w).alloc (Nat.le_refl _) (.cells #[.int .u8 0, .int .u8 0, .int .u8 0, .int .u8 0, .int .u8 0, .int .u8 0, .int .u8 0, .int .u8 0] 5))
  clear h
  go_enter Try.func84, Try.ntmps84
  go_wp2_with fail
  refine (put155 w.heap.size 8 8 (n) [0, 0, 0, 0, 0, 0, 0, 0] _ HB0.out (by omega) (by omega) (by simp) (by omega)).mono ?_
  rintro e w2 ⟨rfl, hB2, hg2⟩
  rw [wr_full _ _ (by simp [putB_length])] at hB2
  have hw2 := below_grown_new HW0.out hg2 (Nat.le_refl _)
  have hS : Sl (fun k => w.heap.size ≤ k) w2 (.slice (some ⟨w.heap.size, 0, none⟩) 8 8) (putO false (n) 8) := by
    have := hB2.sl (B := w.heap.size) (Nat.le_refl _) (by simp [putB_length])
    simpa [putO, putB_length] using this
  have c1b := (hw2.cell (p := ⟨g, 1, none⟩) hlt).trans c1
  have c2b := (hw2.cell (p := ⟨g, 2, none⟩) hlt).trans c2
  have HW2 := Lib.hid hw2
  have HS := Lib.hid hS
  clear hB2 hg2 hw2 hS
  go_wp2_with (at_builtin; go_must (refine Enc.law (W := w2) H1.out h2 H3.out hb HW2.out HS.out hl rfl (.tmp 24) (.tmp 28) rfl rfl w2.heap.size rfl rfl ?_); intro A c w1 c1' f1' HE)
  go_end0
  exact ⟨rfl, HE.out⟩

set_option maxRecDepth 100000 in
set_option maxHeartbeats 800000 in
theorem enc84_be (w : World) (base g : Nat) (l : List (Int × List Int)) (t n : Int) (hn : 0 ≤ n ∧ n < 18446744073709551616) (h : Enc w base g true l) (hb : base ≤ w.heap.size) (hl : l.length < 1000000) :
    Calls Try.prog 84 #[.pointer (some ⟨g, 0, none⟩), .int .u16 t, .int .u64 n] w fun e w' => e = .returned (.tuple #[]) ∧ Enc w' base g true (l ++ [(t, putO true (n) 8)]) ∧ Below base w w' := by
  obtain ⟨v, c0, c1, c2, hlt, h2, H1, H3⟩ := h.open_
  rw [boV_true] at c0
  have hmk := made8
  have HB0 : Hid (Buf (w.alloc (.cells #[.int .u8 0, .int .u8 0, .int .u8 0, .int .u8 0, .int .u8 0, .int .u8 0, .int .u8 0, .int .u8 0] 5)) w.heap.size [0, 0, 0, 0, 0, 0, 0, 0]) := heap_alloc_new w _
  have HW0 := Lib.hid ((Below.refl w.heap.size w).alloc (Nat.le_refl _) (.cells #[.int .u8 0, .int .u8 0, .int .u8 0, .int .u8 0, .int .u8 0, .int .u8 0, .int .u8 0, .int .u8 0] 5))
  clear h
  go_enter Try.func84, Try.ntmps84
  go_wp2_with fail
  refine (put163 w.heap.size 8 8 (n) [0, 0, 0, 0, 0, 0, 0, 0] _ HB0.out (by omega) (by omega) (by simp) (by omega)).mono ?_
  rintro e w2 ⟨rfl, hB2, hg2⟩
  rw [wr_full _ _ (by simp [putB_length])] at hB2
  have hw2 := below_grown_new HW0.out hg2 (Nat.le_refl _)
  have hS : Sl (fun k => w.heap.size ≤ k) w2 (.slice (some ⟨w.heap.size, 0, none⟩) 8 8) (putO true (n) 8) := by
    have := hB2.sl (B := w.heap.size) (Nat.le_refl _) (by simp [putB_length])
    simpa [putO, putB_length] using this
  have c1b := (hw2.cell (p := ⟨g, 1, none⟩) hlt).trans c1
  have c2b := (hw2.cell (p := ⟨g, 2, none⟩) hlt).trans c2
  have HW2 := Lib.hid hw2
  have HS := Lib.hid hS
  clear hB2 hg2 hw2 hS
  go_wp2_with (at_builtin; go_must (refine Enc.law (W := w2) H1.out h2 H3.out hb HW2.out HS.out hl rfl (.tmp 24) (.tmp 28) rfl rfl w2.heap.size rfl rfl ?_); intro A c w1 c1' f1' HE)
  go_end0
  exact ⟨rfl, HE.out⟩

set_option maxRecDepth 100000 in
set_option maxHeartbeats 800000 in
theorem enc86_le (w : World) (base g : Nat) (l : List (Int × List Int)) (t n : Int) (h : Enc w base g false l) (hb : base ≤ w.heap.size) (hl : l.length < 1000000) :
    Calls Try.prog 86 #[.pointer (some ⟨g, 0, none⟩), .int .u16 t, .int .i16 n] w fun e w' => e = .returned (.tuple #[]) ∧ Enc w' base g false (l ++ [(t, putO false (n % 65536) 2)]) ∧ Below base w w' := by
  obtain ⟨v, c0, c1, c2, hlt, h2, H1, H3⟩ := h.open_
  rw [boV_false] at c0
  have hmk := made2
  have HB0 : Hid (Buf (w.alloc (.cells #[.int .u8 0, .int .u8 0] 5)) w.heap.size [0, 0]) := heap_alloc_new w _
  have HW0 := Lib.hid ((Below.refl w.heap.size w).alloc (Nat.le_refl _) (.cells #[.int .u8 0, .int .u8 0] 5))
  clear h
  go_enter Try.func86, Try.ntmps86
  go_wp2_with fail
  refine (put153 w.heap.size 0 2 2 (n % 65536) [0, 0] _ HB0.out (by omega) (by simp) (by omega)).mono ?_
  rintro e w2 ⟨rfl, hB2, hg2⟩
  rw [wr_full _ _ (by simp [putB_length])] at hB2
  have hw2 := below_grown_new HW0.out hg2 (Nat.le_refl _)
  have hS : Sl (fun k => w.heap.size ≤ k) w2 (.slice (some ⟨w.heap.size, 0, none⟩) 2 2) (putO false (n % 65536) 2) := by
    have := hB2.sl (B := w.heap.size) (Nat.le_refl _) (by simp [putB_length])
    simpa [putO, putB_length] using this
  have c1b := (hw2.cell (p := ⟨g, 1, none⟩) hlt).trans c1
  have c2b := (hw2.cell (p := ⟨g, 2, none⟩) hlt).trans c2
  have HW2 := Lib.hid hw2
  have HS := Lib.hid hS
  clear hB2 hg2 hw2 hS
  go_wp2_with (at_builtin; go_must (refine Enc.law (W := w2) H1.out h2 H3.out hb HW2.out HS.out hl rfl (.tmp 25) (.tmp 29) rfl rfl w2.heap.size rfl rfl ?_); intro A c w1 c1' f1' HE)
  go_end0
  exact ⟨rfl, HE.out⟩

set_option maxRecDepth 100000 in
set_option maxHeartbeats 800000 in
theorem enc86_be (w : World) (base g : Nat) (l : List (Int × List Int)) (t n : Int) (h : Enc w base g true l) (hb : base ≤ w.heap.size) (hl : l.length < 1000000) :
    Calls Try.prog 86 #[.pointer (some ⟨g, 0, none⟩), .int .u16 t, .int .i16 n] w fun e w' => e = .returned (.tuple #[]) ∧ Enc w' base g true (l ++ [(t, putO true (n % 65536) 2)]) ∧ Below base w w' := by
  obtain ⟨v, c0, c1, c2, hlt, h2, H1, H3⟩ := h.open_
  rw [boV_true] at c0
  have hmk := made2
  have HB0 : Hid (Buf (w.alloc (.cells #[.int .u8 0, .int .u8 0] 5)) w.heap.size [0, 0]) := heap_alloc_new w _
  have HW0 := Lib.hid ((Below.refl w.heap.size w).alloc (Nat.le_refl _) (.cells #[.int .u8 0, .int .u8 0] 5))
  clear h
  go_enter Try.func86, Try.ntmps86
  go_wp2_with fail
  refine (put161 w.heap.size 0 2 2 (n % 65536) [0, 0] _ HB0.out (by omega) (by simp) (by omega)).mono ?_
  rintro e w2 ⟨rfl, hB2, hg2⟩
  rw [wr_full _ _ (by simp [putB_length])] at hB2
  have hw2 := below_grown_new HW0.out hg2 (Nat.le_refl _)
  have hS : Sl (fun k => w.heap.size ≤ k) w2 (.slice (some ⟨w.heap.size, 0, none⟩) 2 2) (putO true (n % 65536) 2) := by
    have := hB2.sl (B := w.heap.size) (Nat.le_refl _) (by simp [putB_length])
    simpa [putO, putB_length] using this
  have c1b := (hw2.cell (p := ⟨g, 1, none⟩) hlt).trans c1
  have c2b := (hw2.cell (p := ⟨g, 2, none⟩) hlt).trans c2
  have HW2 := Lib.hid hw2
  have HS := Lib.hid hS
  clear hB2 hg2 hw2 hS
  go_wp2_with (at_builtin; go_must (refine Enc.law (W := w2) H1.out h2 H3.out hb HW2.out HS.out hl rfl (.tmp 25) (.tmp 29) rfl rfl w2.heap.size rfl rfl ?_); intro A c w1 c1' f1' HE)
  go_end0
  exact ⟨rfl, HE.out⟩

set_option maxRecDepth 100000 in
set_option maxHeartbeats 800000 in
theorem enc87_le (w : World) (base g : Nat) (l : List (Int × List Int)) (t n : Int) (h : Enc w base g false l) (hb : base ≤ w.heap.size) (hl : l.length < 1000000) :
    Calls Try.prog 87 #[.pointer (some ⟨g, 0, none⟩), .int .u16 t, .int .i32 n] w fun e w' => e = .returned (.tuple #[]) ∧ Enc w' base g false (l ++ [(t, putO false (n % 4294967296) 4)]) ∧ Below base w w' := by
  obtain ⟨v, c0, c1, c2, hlt, h2, H1, H3⟩ := h.open_
  rw [boV_false] at c0
  have hmk := made4
  have HB0 : Hid (Buf (w.alloc (.cells #[.int .u8 0, .int .u8 0, .int .u8 0, .int .u8 0] 5)) w.heap.size [0, 0, 0, 0]) := heap_alloc_new w _
  have HW0 := Lib.hid ((Below.refl w.heap.size w).alloc (Nat.le_refl _) (.cells #[.int .u8 0, .int .u8 0, .int .u8 0, .int .u8 0] 5))
  clear h
  go_enter Try.func87, Try.ntmps87
  go_wp2_with fail
  refine (put154 w.heap.size 0 4 4 (n % 4294967296) [0, 0, 0, 0] _ HB0.out (by omega) (by simp) (by omega)).mono ?_
  rintro e w2 ⟨rfl, hB2, hg2⟩
  rw [wr_full _ _ (by simp [putB_length])] at hB2
  have hw2 := below_grown_new HW0.out hg2 (Nat.le_refl _)
  have hS : Sl (fun k => w.heap.size ≤ k) w2 (.slice (some ⟨w.heap.size, 0, none⟩) 4 4) (putO false (n % 4294967296) 4) := by
    have := hB2.sl (B := w.heap.size) (Nat.le_refl _) (by simp [putB_length])
    simpa [putO, putB_length] using this
  have c1b := (hw2.cell (p := ⟨g, 1, none⟩) hlt).trans c1
  have c2b := (hw2.cell (p := ⟨g, 2, none⟩) hlt).trans c2
  have HW2 := Lib.hid hw2
  have HS := Lib.hid hS
  clear hB2 hg2 hw2 hS
  go_wp2_with (at_builtin; go_must (refine Enc.law (W := w2) H1.out h2 H3.out hb HW2.out HS.out hl rfl (.tmp 25) (.tmp 29) rfl rfl w2.heap.size rfl rfl ?_); intro A c w1 c1' f1' HE)
  go_end0
  exact ⟨rfl, HE.out⟩

set_option maxRecDepth 100000 in
set_option maxHeartbeats 800000 in
theorem enc87_be (w : World) (base g : Nat) (l : List (Int × List Int)) (t n : Int) (h : Enc w base g true l) (hb : base ≤ w.heap.size) (hl : l.length < 1000000) :
    Calls Try.prog 87 #[.pointer (some ⟨g, 0, none⟩), .int .u16 t, .int .i32 n] w fun e w' => e = .returned (.tuple #[]) ∧ Enc w' base g true (l ++ [(t, putO true (n % 4294967296) 4)]) ∧ Below base w w' := by
  obtain ⟨v, c0, c1, c2, hlt, h2, H1, H3⟩ := h.open_
  rw [boV_true] at c0
  have hmk := made4
  have HB0 : Hid (Buf (w.alloc (.cells #[.int .u8 0, .int .u8 0, .int .u8 0, .int .u8 0] 5)) w.heap.size [0, 0, 0, 0]) := heap_alloc_new w _
  have HW0 := Lib.hid ((Below.refl w.heap.size w).alloc (Nat.le_refl _) (.cells #[.int .u8 0, .int .u8 0, .int .u8 0, .int .u8 0] 5))
  clear h
  go_enter Try.func87, Try.ntmps87
  go_wp2_with fail
  refine (put162 w.heap.size 0 4 4 (n % 4294967296) [0, 0, 0, 0] _ HB0.out (by omega) (by simp) (by omega)).mono ?_
  rintro e w2 ⟨rfl, hB2, hg2⟩
  rw [wr_full _ _ (by simp [putB_length])] at hB2
  have hw2 := below_grown_new HW0.out hg2 (Nat.le_refl _)
  have hS : Sl (fun k => w.heap.size ≤ k) w2 (.slice (some ⟨w.heap.size, 0, none⟩) 4 4) (putO true (n % 4294967296) 4) := by
    have := hB2.sl (B := w.heap.size) (Nat.le_refl _) (by simp [putB_length])
    simpa [putO, putB_length] using this
  have c1b := (hw2.cell (p := ⟨g, 1, none⟩) hlt).trans c1
  have c2b := (hw2.cell (p := ⟨g, 2, none⟩) hlt).trans c2
  have HW2 := Lib.hid hw2
  have HS := Lib.hid hS
  clear hB2 hg2 hw2 hS
  go_wp2_with (at_builtin; go_must (refine Enc.law (W := w2) H1.out h2 H3.out hb HW2.out HS.out hl rfl (.tmp 25) (.tmp 29) rfl rfl w2.heap.size rfl rfl ?_); intro A c w1 c1' f1' HE)
  go_end0
  exact ⟨rfl, HE.out⟩

set_option maxRecDepth 100000 in
set_option maxHeartbeats 800000 in
theorem enc88_le (w : World) (base g : Nat) (l : List (Int × List Int)) (t n : Int) (h : Enc w base g false l) (hb : base ≤ w.heap.size) (hl : l.length < 1000000) :
    Calls Try.prog 88 #[.pointer (some ⟨g, 0, none⟩), .int .u16 t, .int .i64 n] w fun e w' => e = .returned (.tuple #[]) ∧ Enc w' base g false (l ++ [(t, putO false (n % 18446744073709551616) 8)]) ∧ Below base w w' := by
  obtain ⟨v, c0, c1, c2, hlt, h2, H1, H3⟩ := h.open_
  rw [boV_false] at c0
  have hmk := made8
  have HB0 : Hid (Buf (w.alloc (.cells #[.int .u8 0, .int .u8 0, .int .u8 0, .int .u8 0, .int .u8 0, .int .u8 0, .int .u8 0, .int .u8 0] 5)) w.heap.size [0, 0, 0, 0, 0, 0, 0, 0]) := heap_alloc_new w _
  have HW0 := Lib.hid ((Below.refl w.heap.size w).alloc (Nat.le_refl _) (.cells #[.int .u8 0, .int .u8 0, .int .u8 0, .int .u8 0, .int .u8 0, .int .u8 0, .int .u8 0, .int .u8 0] 5))
  clear h
  go_enter Try.func88, Try.ntmps88
  go_wp2_with fail
  refine (put155 w.heap.size 8 8 (n % 18446744073709551616) [0, 0, 0, 0, 0, 0, 0, 0] _ HB0.out (by omega) (by omega) (by simp) (by omega)).mono ?_
  rintro e w2 ⟨rfl, hB2, hg2⟩
  rw [wr_full _ _ (by simp [putB_length])] at hB2
  have hw2 := below_grown_new HW0.out hg2 (Nat.le_refl _)
  have hS : Sl (fun k => w.heap.size ≤ k) w2 (.slice (some ⟨w.heap.size, 0, none⟩) 8 8) (putO false (n % 18446744073709551616) 8) := by
    have := hB2.sl (B := w.heap.size) (Nat.le_refl _) (by simp [putB_length])
    simpa [putO, putB_length] using this
  have c1b := (hw2.cell (p := ⟨g, 1, none⟩) hlt).trans c1
  have c2b := (hw2.cell (p := ⟨g, 2, none⟩) hlt).trans c2
  have HW2 := Lib.hid hw2
  have HS := Lib.hid hS
  clear hB2 hg2 hw2 hS
  go_wp2_with (at_builtin; go_must (refine Enc.law (W := w2) H1.out h2 H3.out hb HW2.out HS.out hl rfl (.tmp 25) (.tmp 29) rfl rfl w2.heap.size rfl rfl ?_); intro A c w1 c1' f1' HE)
  go_end0
  exact ⟨rfl, HE.out⟩

set_option maxRecDepth 100000 in
set_option maxHeartbeats 800000 in
theorem enc88_be (w : World) (base g : Nat) (l : List (Int × List Int)) (t n : Int) (h : Enc w base g true l) (hb : base ≤ w.heap.size) (hl : l.length < 1000000) :
    Calls Try.prog 88 #[.pointer (some ⟨g, 0, none⟩), .int .u16 t, .int .i64 n] w fun e w' => e = .returned (.tuple #[]) ∧ Enc w' base g true (l ++ [(t, putO true (n % 18446744073709551616) 8)]) ∧ Below base w w' := by
  obtain ⟨v, c0, c1, c2, hlt, h2, H1, H3⟩ := h.open_
  rw [boV_true] at c0
  have hmk := made8
  have HB0 : Hid (Buf (w.alloc (.cells #[.int .u8 0, .int .u8 0, .int .u8 0, .int .u8 0, .int .u8 0, .int .u8 0, .int .u8 0, .int .u8 0] 5)) w.heap.size [0, 0, 0, 0, 0, 0, 0, 0]) := heap_alloc_new w _
  have HW0 := Lib.hid ((Below.refl w.heap.size w).alloc (Nat.le_refl _) (.cells #[.int .u8 0, .int .u8 0, .int .u8 0, .int .u8 0, .int .u8 0, .int .u8 0, .int .u8 0, .int .u8 0] 5))
  clear h
  go_enter Try.func88, Try.ntmps88
  go_wp2_with fail
  refine (put163 w.heap.size 8 8 (n % 18446744073709551616) [0, 0, 0, 0, 0, 0, 0, 0] _ HB0.out (by omega) (by omega) (by simp) (by omega)).mono ?_
  rintro e w2 ⟨rfl, hB2, hg2⟩
  rw [wr_full _ _ (by simp [putB_length])] at hB2
  have hw2 := below_grown_new HW0.out hg2 (Nat.le_refl _)
  have hS : Sl (fun k => w.heap.size ≤ k) w2 (.slice (some ⟨w.heap.size, 0, none⟩) 8 8) (putO true (n % 18446744073709551616) 8) := by
    have := hB2.sl (B := w.heap.size) (Nat.le_refl _) (by simp [putB_length])
    simpa [putO, putB_length] using this
  have c1b := (hw2.cell (p := ⟨g, 1, none⟩) hlt).trans c1
  have c2b := (hw2.cell (p := ⟨g, 2, none⟩) hlt).trans c2
  have HW2 := Lib.hid hw2
  have HS := Lib.hid hS
  clear hB2 hg2 hw2 hS
  go_wp2_with (at_builtin; go_must (refine Enc.law (W := w2) H1.out h2 H3.out hb HW2.out HS.out hl rfl (.tmp 25) (.tmp 29) rfl rfl w2.heap.size rfl rfl ?_); intro A c w1 c1' f1' HE)
  go_end0
  exact ⟨rfl, HE.out⟩

theorem enc82 (w : World) (base g : Nat) (big : Bool) (l : List (Int × List Int)) (t n : Int) (hn : 0 ≤ n ∧ n < 65536) (h : Enc w base g big l) (hb : base ≤ w.heap.size) (hl : l.length < 1000000) :
    Calls Try.prog 82 #[.pointer (some ⟨g, 0, none⟩), .int .u16 t, .int .u16 n] w fun e w' => e = .returned (.tuple #[]) ∧ Enc w' base g big (l ++ [(t, putO big (n) 2)]) ∧ Below base w w' := by
  cases big
  · exact enc82_le w base g l t n hn h hb hl
  · exact enc82_be w base g l t n hn h hb hl

theorem enc83 (w : World) (base g : Nat) (big : Bool) (l : List (Int × List Int)) (t n : Int) (hn : 0 ≤ n ∧ n < 4294967296) (h : Enc w base g big l) (hb : base ≤ w.heap.size) (hl : l.length < 1000000) :
    Calls Try.prog 83 #[.pointer (some ⟨g, 0, none⟩), .int .u16 t, .int .u32 n] w fun e w' => e = .returned (.tuple #[]) ∧ Enc w' base g big (l ++ [(t, putO big (n) 4)]) ∧ Below base w w' := by
  cases big
  · exact enc83_le w base g l t n hn h hb hl
  · exact enc83_be w base g l t n hn h hb hl

theorem enc84 (w : World) (base g : Nat) (big : Bool) (l : List (Int × List Int)) (t n : Int) (hn : 0 ≤ n ∧ n < 18446744073709551616) (h : Enc w base g big l) (hb : base ≤ w.heap.size) (hl : l.length < 1000000) :
    Calls Try.prog 84 #[.pointer (some ⟨g, 0, none⟩), .int .u16 t, .int .u64 n] w fun e w' => e = .returned (.tuple #[]) ∧ Enc w' base g big (l ++ [(t, putO big (n) 8)]) ∧ Below base w w' := by
  cases big
  · exact enc84_le w base g l t n hn h hb hl
  · exact enc84_be w base g l t n hn h hb hl

theorem enc86 (w : World) (base g : Nat) (big : Bool) (l : List (Int × List Int)) (t n : Int) (h : Enc w base g big l) (hb : base ≤ w.heap.size) (hl : l.length < 1000000) :
    Calls Try.prog 86 #[.pointer (some ⟨g, 0, none⟩), .int .u16 t, .int .i16 n] w fun e w' => e = .returned (.tuple #[]) ∧ Enc w' base g big (l ++ [(t, putO big (n % 65536) 2)]) ∧ Below base w w' := by
  cases big
  · exact enc86_le w base g l t n h hb hl
  · exact enc86_be w base g l t n h hb hl

theorem enc87 (w : World) (base g : Nat) (big : Bool) (l : List (Int × List Int)) (t n : Int) (h : Enc w base g big l) (hb : base ≤ w.heap.size) (hl : l.length < 1000000) :
    Calls Try.prog 87 #[.pointer (some ⟨g, 0, none⟩), .int .u16 t, .int .i32 n] w fun e w' => e = .returned (.tuple #[]) ∧ Enc w' base g big (l ++ [(t, putO big (n % 4294967296) 4)]) ∧ Below base w w' := by
  cases big
  · exact enc87_le w base g l t n h hb hl
  · exact enc87_be w base g l t n h hb hl

theorem enc88 (w : World) (base g : Nat) (big : Bool) (l : List (Int × List Int)) (t n : Int) (h : Enc w base g big l) (hb : base ≤ w.heap.size) (hl : l.length < 1000000) :
    Calls Try.prog 88 #[.pointer (some ⟨g, 0, none⟩), .int .u16 t, .int .i64 n] w fun e w' => e = .returned (.tuple #[]) ∧ Enc w' base g big (l ++ [(t, putO big (n % 18446744073709551616) 8)]) ∧ Below base w w' := by
  cases big
  · exact enc88_le w base g l t n h hb hl
  · exact enc88_be w base g l t n h hb hl

end Go.Proofs.Ytgijhgonpgidiaa
