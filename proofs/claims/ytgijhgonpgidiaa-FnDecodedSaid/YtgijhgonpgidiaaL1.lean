/-
  Contracts of the small functions: within, align, the numbers laid as bytes and read. No statement of the seat is proved here.
-/
import Derived.Test.YtgijhgonpgidiaaBase
import Derived.Test.YtgijhgonpgidiaaPure
namespace Go.Proofs.Ytgijhgonpgidiaa
open Go.RowKit Go.Proofs.YtgijhgonpgidiaaW.PrintWords

/-! ### A block of bytes that is written -/
def Buf (w : World) (g : Nat) (xs : List Int) : Prop := w.heap[g]? = some (.cells (nums .u8 xs).toArray 5 (0, 0))
section
variable {w w1 : World} {g : Nat} {xs : List Int}
theorem Buf.cell (h : Buf w g xs) (j : Nat) (hj : j < xs.length) : w.cell? ⟨g, j, none⟩ = some (.int .u8 (xs.getD j 0)) := by
  rw [blk_cell h]; simp [nums, List.getElem?_eq_getElem hj, List.getD_eq_getElem?_getD]
theorem Buf.free (h : Buf w g xs) (j : Nat) : w.frozen? ⟨g, j, none⟩ = false := blk_frozen h j
theorem Buf.set (h : Buf w g xs) (j : Nat) (x : Int) : Buf (w.setCell ⟨g, j, none⟩ (.int .u8 x)) g (xs.set j x) := by
  have := blk_set h j (.int .u8 x)
  unfold Buf
  rw [this]
  simp [nums, List.map_set]
theorem Buf.lt (h : Buf w g xs) : g < w.heap.size := blk_lt h
theorem grown_set (w : World) (g j : Nat) (v : Value) : w.grownBy (w.setCell ⟨g, j, none⟩ v) (some g) :=
  ⟨rfl, rfl, rfl, by simp [World.setCell], fun k _ hk => Below.heap_setCell w _ v k (fun e => hk (by rw [e]))⟩
theorem grown_trans {a b c : World} {row : Option Nat} (h : a.grownBy b row) (k : b.grownBy c row) : a.grownBy c row := h.trans k
theorem grown_drewN {a b : World} {row : Option Nat} (h : a.grownBy b row) (n : Nat) : a.grownBy (b.drewN n) row := ⟨h.os, h.tape, h.output, h.size, h.block⟩
theorem grown_refl (a : World) (row : Option Nat) : a.grownBy a row := ⟨rfl, rfl, rfl, Nat.le_refl _, fun _ _ _ => rfl⟩
theorem grown_alloc (w : World) (o : Obj) (row : Option Nat) : w.grownBy (w.alloc o) row := World.grownBy_alloc w o row
theorem Buf.alloc (h : Buf w g xs) (o : Obj) : Buf (w.alloc o) g xs := blk_alloc h o
theorem Buf.drewN (h : Buf w g xs) (n : Nat) : Buf (w.drewN n) g xs := h
theorem Buf.own (h : Buf w g xs) {base : Nat} (hb : base ≤ g) (hl : xs.length ≤ 9223372036854775807) : w.ownsRow base 5 1 (.slice (some ⟨g, 0, none⟩) xs.length xs.length) xs.length (nums .u8 xs) :=
  ⟨by simp [nums], .inr ⟨g, _, _, rfl, hb, h, Nat.le_refl _, by simpa [maxLen] using hl, by simp [nums], by simp only [nums, Nat.mul_one]; exact List.take_of_length_le (by simp)⟩⟩
end

/-! ### Tests -/
set_option maxHeartbeats 400000 in
theorem within57 (n lo hi : Int) (w : World) (hn : lo ≤ n) (hm : n ≤ hi) :
    Calls Try.prog 57 #[.int .i64 n, .int .i64 lo, .int .i64 hi] w fun e w' => e = .returned (.bool true) ∧ w = w' := by
  go_enter Try.func57, Try.ntmps57
  go_wp2
  go_ret
  exact ⟨by simp, rfl⟩

def inBits (n : Int) (b : Nat) : Bool := decide (0 ≤ n ∧ n < 2 ^ b)
theorem inBits_iff (n : Int) (b : Nat) : inBits n b = true ↔ 0 ≤ n ∧ n < 2 ^ b := by simp [inBits]

set_option maxHeartbeats 400000 in
theorem within60_16 (n : Int) (w : World) :
    Calls Try.prog 60 #[.int .i64 n, .int .i64 16] w fun e w' => e = .returned (.bool (inBits n 16)) ∧ w = w' := by
  have e : inBits n 16 = (decide (0 ≤ n) && decide (n < 65536)) := by simp [inBits]
  rw [e]; clear e
  go_enter Try.func60, Try.ntmps60
  go_wp2
  · go_ret
    exact ⟨by simp; omega, rfl⟩
  · go_ret
    exact ⟨by simp; omega, rfl⟩
set_option maxHeartbeats 400000 in
theorem within60_14 (n : Int) (w : World) :
    Calls Try.prog 60 #[.int .i64 n, .int .i64 14] w fun e w' => e = .returned (.bool (inBits n 14)) ∧ w = w' := by
  have e : inBits n 14 = (decide (0 ≤ n) && decide (n < 16384)) := by simp [inBits]
  rw [e]; clear e
  go_enter Try.func60, Try.ntmps60
  go_wp2
  · go_ret
    exact ⟨by simp; omega, rfl⟩
  · go_ret
    exact ⟨by simp; omega, rfl⟩
set_option maxHeartbeats 400000 in
theorem within60_32 (n : Int) (w : World) :
    Calls Try.prog 60 #[.int .i64 n, .int .i64 32] w fun e w' => e = .returned (.bool (inBits n 32)) ∧ w = w' := by
  have e : inBits n 32 = (decide (0 ≤ n) && decide (n < 4294967296)) := by simp [inBits]
  rw [e]; clear e
  go_enter Try.func60, Try.ntmps60
  go_wp2
  · go_ret
    exact ⟨by simp; omega, rfl⟩
  · go_ret
    exact ⟨by simp; omega, rfl⟩

/-! ### Up to a multiple of four -/
set_option maxHeartbeats 400000 in
theorem align94 (n : Nat) (w : World) (h1 : n < 4611686018427387904) :
    Calls Try.prog 94 #[.int .i64 n] w fun e w' => e = .returned (.int .i64 (padn n)) ∧ w = w' := by
  have e := align_bits n (by omega) (by omega)
  have e2 : ((n : Int) + 3) / 4 * 4 = (padn n : Nat) := by unfold padn; omega
  rw [e2] at e
  rw [← e]; clear e e2
  go_enter Try.func94, Try.ntmps94
  go_wp2
  go_ret
  exact ⟨rfl, rfl⟩
set_option maxHeartbeats 400000 in
theorem align96 (n : Nat) (w : World) (h1 : n < 4611686018427387904) :
    Calls Try.prog 96 #[.int .i64 n] w fun e w' => e = .returned (.int .i64 (padn n)) ∧ w = w' := by
  have e := align_bits n (by omega) (by omega)
  have e2 : ((n : Int) + 3) / 4 * 4 = (padn n : Nat) := by unfold padn; omega
  rw [e2] at e
  rw [← e]; clear e e2
  go_enter Try.func96, Try.ntmps96
  go_wp2
  go_ret
  exact ⟨rfl, rfl⟩

/-! ### Numbers laid, the lowest byte first -/
set_option maxHeartbeats 400000 in
theorem lp16 (b off c n : Nat) (v x0 x1 : Int) (w : World) (hn : 2 ≤ n) (hv : 0 ≤ v ∧ v < 65536) (h0 : w.cell? ⟨b, off, none⟩ = some (.int .u8 x0)) (h1 : w.cell? ⟨b, off + 1, none⟩ = some (.int .u8 x1))
   (f0 : w.frozen? ⟨b, off, none⟩ = false) (f1 : w.frozen? ⟨b, off + 1, none⟩ = false) :
    Calls Try.prog 98 #[.slice (some ⟨b, off, none⟩) n c, .int .u16 v] w fun e w' => e = .returned (.tuple #[]) ∧ (w.setCell ⟨b, off, none⟩ (.int .u8 (v % 256))).setCell ⟨b, off + 1, none⟩ (.int .u8 (v / 256)) = w' := by
  go_enter Try.func98, Try.ntmps98
  go_wp2
  go_end0
  exact ⟨rfl, rfl⟩
theorem put98 (g off n c : Nat) (v : Int) (xs : List Int) (w : World) (hB : Buf w g xs) (hn : 2 ≤ n) (hx : off + n ≤ xs.length) (hv : 0 ≤ v ∧ v < 65536) :
    Calls Try.prog 98 #[.slice (some ⟨g, off, none⟩) n c, .int .u16 v] w fun e w' => e = .returned (.tuple #[]) ∧ Buf w' g (wr xs off (putB v 2)) ∧ w.grownBy w' (some g) := by
  refine (lp16 g off c n v _ _ w hn hv (hB.cell off (by omega)) (hB.cell (off + 1) (by omega)) (hB.free _) (hB.free _)).mono ?_
  rintro e w' ⟨rfl, rfl⟩
  refine ⟨rfl, ?_, grown_trans (grown_set _ _ _ _) (grown_set _ _ _ _)⟩
  rw [putB2 v (by omega) (by omega)]
  exact (hB.set off _).set (off + 1) _

set_option maxHeartbeats 400000 in
theorem lp32 (b off c n : Nat) (v x0 x1 x2 x3 : Int) (w : World) (hn : 4 ≤ n) (hv : 0 ≤ v ∧ v < 4294967296) (h0 : w.cell? ⟨b, off, none⟩ = some (.int .u8 x0)) (h1 : w.cell? ⟨b, off + 1, none⟩ = some (.int .u8 x1))
   (h2 : w.cell? ⟨b, off + 2, none⟩ = some (.int .u8 x2)) (h3 : w.cell? ⟨b, off + 3, none⟩ = some (.int .u8 x3)) (f0 : w.frozen? ⟨b, off, none⟩ = false) (f1 : w.frozen? ⟨b, off + 1, none⟩ = false)
   (f2 : w.frozen? ⟨b, off + 2, none⟩ = false) (f3 : w.frozen? ⟨b, off + 3, none⟩ = false) :
    Calls Try.prog 97 #[.slice (some ⟨b, off, none⟩) n c, .int .u32 v] w fun e w' => e = .returned (.tuple #[]) ∧
      (((w.setCell ⟨b, off, none⟩ (.int .u8 (v % 256))).setCell ⟨b, off + 1, none⟩ (.int .u8 (v / 256 % 256))).setCell ⟨b, off + 2, none⟩ (.int .u8 (v / 65536 % 256))).setCell ⟨b, off + 3, none⟩ (.int .u8 (v / 16777216)) = w' := by
  go_enter Try.func97, Try.ntmps97
  go_wp2
  go_end0
  exact ⟨rfl, rfl⟩
theorem put97 (g off n c : Nat) (v : Int) (xs : List Int) (w : World) (hB : Buf w g xs) (hn : 4 ≤ n) (hx : off + n ≤ xs.length) (hv : 0 ≤ v ∧ v < 4294967296) :
    Calls Try.prog 97 #[.slice (some ⟨g, off, none⟩) n c, .int .u32 v] w fun e w' => e = .returned (.tuple #[]) ∧ Buf w' g (wr xs off (putB v 4)) ∧ w.grownBy w' (some g) := by
  refine (lp32 g off c n v _ _ _ _ w hn hv (hB.cell off (by omega)) (hB.cell (off + 1) (by omega)) (hB.cell (off + 2) (by omega)) (hB.cell (off + 3) (by omega)) (hB.free _) (hB.free _) (hB.free _) (hB.free _)).mono ?_
  rintro e w' ⟨rfl, rfl⟩
  refine ⟨rfl, ?_, grown_trans (grown_trans (grown_trans (grown_set _ _ _ _) (grown_set _ _ _ _)) (grown_set _ _ _ _)) (grown_set _ _ _ _)⟩
  rw [putB4 v (by omega) (by omega)]
  exact (((hB.set off _).set (off + 1) _).set (off + 2) _).set (off + 3) _

/-! ### Numbers read, the lowest byte first -/
set_option maxHeartbeats 400000 in
theorem lg16 (b off c n : Nat) (x0 x1 : Int) (w : World) (hn : 2 ≤ n) (hv0 : 0 ≤ x0 ∧ x0 < 256) (hv1 : 0 ≤ x1 ∧ x1 < 256) (h0 : w.cell? ⟨b, off, none⟩ = some (.int .u8 x0)) (h1 : w.cell? ⟨b, off + 1, none⟩ = some (.int .u8 x1)) :
    Calls Try.prog 100 #[.slice (some ⟨b, off, none⟩) n c] w fun e w' => e = .returned (.int .u16 (bits .or .u16 x0 (x1 * 256))) ∧ ∃ n, w' = w.drewN n := by
  go_enter Try.func100, Try.ntmps100
  go_wp2
  go_quiet (fail)
  go_wp2
  go_ret
  exact ⟨rfl, _, rfl⟩
set_option maxHeartbeats 400000 in
theorem lg32 (b off c n : Nat) (x0 x1 x2 x3 : Int) (w : World) (hn : 4 ≤ n) (hv0 : 0 ≤ x0 ∧ x0 < 256) (hv1 : 0 ≤ x1 ∧ x1 < 256) (hv2 : 0 ≤ x2 ∧ x2 < 256) (hv3 : 0 ≤ x3 ∧ x3 < 256)
    (h0 : w.cell? ⟨b, off, none⟩ = some (.int .u8 x0)) (h1 : w.cell? ⟨b, off + 1, none⟩ = some (.int .u8 x1)) (h2 : w.cell? ⟨b, off + 2, none⟩ = some (.int .u8 x2)) (h3 : w.cell? ⟨b, off + 3, none⟩ = some (.int .u8 x3)) :
    Calls Try.prog 99 #[.slice (some ⟨b, off, none⟩) n c] w fun e w' => e = .returned (.int .u32 (bits .or .u32 (bits .or .u32 (bits .or .u32 x0 (x1 * 256)) (x2 * 65536)) (x3 * 16777216))) ∧ ∃ n, w' = w.drewN n := by
  go_enter Try.func99, Try.ntmps99
  go_wp2
  go_quiet (fail)
  go_wp2
  go_ret
  exact ⟨rfl, _, rfl⟩
theorem sum32 (x0 x1 x2 x3 : Int) (hv0 : 0 ≤ x0 ∧ x0 < 256) (hv1 : 0 ≤ x1 ∧ x1 < 256) (hv2 : 0 ≤ x2 ∧ x2 < 256) (hv3 : 0 ≤ x3 ∧ x3 < 256) :
    bits .or .u32 (bits .or .u32 (bits .or .u32 x0 (x1 * 256)) (x2 * 65536)) (x3 * 16777216) = x0 + 256 * x1 + 65536 * x2 + 16777216 * x3 := by
  have h1 := u32_or_at 8 x0 x1 (by omega) (by omega) (by omega)
  have h2 := u32_or_at 16 (x0 + x1 * 256) x2 (by omega) (by omega) (by omega)
  have h3 := u32_or_at 24 (x0 + x1 * 256 + x2 * 65536) x3 (by omega) (by omega) (by omega)
  simp only [Int.reducePow] at h1 h2 h3
  rw [h1, h2, h3]; omega
def g2 (xs : List Int) : Int := xs.getD 0 0 + 256 * xs.getD 1 0
def g4 (xs : List Int) : Int := xs.getD 0 0 + 256 * xs.getD 1 0 + 65536 * xs.getD 2 0 + 16777216 * xs.getD 3 0
theorem g2_range {xs : List Int} (h : IsB xs) : 0 ≤ g2 xs ∧ g2 xs < 65536 := by have := h.at_ 0; have := h.at_ 1; unfold g2; omega
theorem g4_range {xs : List Int} (h : IsB xs) : 0 ≤ g4 xs ∧ g4 xs < 4294967296 := by have := h.at_ 0; have := h.at_ 1; have := h.at_ 2; have := h.at_ 3; unfold g4; omega
theorem get100 {ok : Nat → Prop} {v : Value} {xs : List Int} {w : World} (h : Sl ok w v xs) (hl : 2 ≤ xs.length) (hb : IsB xs) :
    Calls Try.prog 100 #[v] w fun e w' => e = .returned (.int .u16 (g2 xs)) ∧ ∃ n, w' = w.drewN n := by
  obtain ⟨b, off, c, rfl, _, _, _, _, hc⟩ := h.at_ (by omega)
  have h0 := hb.at_ 0
  have h1 := hb.at_ 1
  refine (lg16 b off c xs.length _ _ w hl h0 h1 (hc 0 (by omega)) (hc 1 (by omega))).mono ?_
  rintro e w' ⟨rfl, hw⟩
  exact ⟨by rw [u16_or8 _ _ h0 h1]; rfl, hw⟩
theorem get99 {ok : Nat → Prop} {v : Value} {xs : List Int} {w : World} (h : Sl ok w v xs) (hl : 4 ≤ xs.length) (hb : IsB xs) :
    Calls Try.prog 99 #[v] w fun e w' => e = .returned (.int .u32 (g4 xs)) ∧ ∃ n, w' = w.drewN n := by
  obtain ⟨b, off, c, rfl, _, _, _, _, hc⟩ := h.at_ (by omega)
  refine (lg32 b off c xs.length _ _ _ _ w hl (hb.at_ 0) (hb.at_ 1) (hb.at_ 2) (hb.at_ 3) (hc 0 (by omega)) (hc 1 (by omega)) (hc 2 (by omega)) (hc 3 (by omega))).mono ?_
  rintro e w' ⟨rfl, hw⟩
  exact ⟨by rw [sum32 _ _ _ _ (hb.at_ 0) (hb.at_ 1) (hb.at_ 2) (hb.at_ 3)]; rfl, hw⟩
end Go.Proofs.Ytgijhgonpgidiaa
