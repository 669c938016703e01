/-
  Contracts: numbers of 16, 32 and 64 bits laid in an order of bytes, and read. No statement of the seat is proved here.
-/
import Derived.Test.YtgijhgonpgidiaaL1
namespace Go.Proofs.Ytgijhgonpgidiaa
open Go.RowKit Go.Proofs.YtgijhgonpgidiaaW.PrintWords

theorem below_grown_new {w a b : World} {g : Nat} (h : Below w.heap.size w a) (hg : a.grownBy b (some g)) (hn : w.heap.size ≤ g) : Below w.heap.size w b :=
  h.grown hg h.size fun k hk => by injection hk with hk; omega
theorem Buf.sl {w : World} {g : Nat} {xs : List Int} (h : Buf w g xs) {B : Nat} (hB : B ≤ g) (hl : xs.length ≤ 9223372036854775807) : Sl (fun k => B ≤ k) w (.slice (some ⟨g, 0, none⟩) xs.length xs.length) xs :=
  Sl.of_own (h.own hB hl) fun k hk => by
    have : g = k := by simpa [Value.ownBlock] using hk
    omega
theorem grown_undrew {a b : World} {row : Option Nat} (h : a.drew.grownBy b row) : a.grownBy b row := ⟨h.os, h.tape, h.output, h.size, h.block⟩
theorem wr_full (xs ys : List Int) (h : xs.length = ys.length) : wr xs 0 ys = ys := by
  rw [wr_eq _ _ _ (by omega)]; simp [List.drop_eq_nil_of_le (show xs.length ≤ ys.length by omega)]
theorem rev4 (v : Int) (h : 0 ≤ v ∧ v < 4294967296) : (putB v 4).reverse = [v / 16777216, v / 65536 % 256, v / 256 % 256, v % 256] := by rw [putB4 v h.1 h.2]; rfl
theorem rev2 (v : Int) (h : 0 ≤ v ∧ v < 65536) : (putB v 2).reverse = [v / 256, v % 256] := by rw [putB2 v h.1 h.2]; rfl

set_option maxHeartbeats 400000 in
theorem put153 (g off n c : Nat) (v : Int) (xs : List Int) (w : World) (hB : Buf w g xs) (hn : 2 ≤ n) (hx : off + n ≤ xs.length) (hv : 0 ≤ v ∧ v < 65536) :
    Calls Try.prog 153 #[.agg #[], .slice (some ⟨g, off, none⟩) n c, .int .u16 v] w fun e w' => e = .returned (.tuple #[]) ∧ Buf w' g (wr xs off (putB v 2)) ∧ w.grownBy w' (some g) := by
  have H := Lib.hid (hB.alloc (.cells #[] 140))
  clear hB
  go_enter Try.func153, Try.ntmps153
  go_wp2_with fail
  refine (put98 g off n c v xs _ H.out hn hx hv).mono ?_
  rintro e w1 ⟨rfl, hb, hg⟩
  have HB := Lib.hid hb
  have HG := Lib.hid hg
  clear hb hg
  go_wp2_with fail
  go_end0
  exact ⟨rfl, HB.out, grown_trans (grown_alloc _ _ _) HG.out⟩
set_option maxHeartbeats 400000 in
theorem put154 (g off n c : Nat) (v : Int) (xs : List Int) (w : World) (hB : Buf w g xs) (hn : 4 ≤ n) (hx : off + n ≤ xs.length) (hv : 0 ≤ v ∧ v < 4294967296) :
    Calls Try.prog 154 #[.agg #[], .slice (some ⟨g, off, none⟩) n c, .int .u32 v] w fun e w' => e = .returned (.tuple #[]) ∧ Buf w' g (wr xs off (putB v 4)) ∧ w.grownBy w' (some g) := by
  have H := Lib.hid (hB.alloc (.cells #[] 140))
  clear hB
  go_enter Try.func154, Try.ntmps154
  go_wp2_with fail
  refine (put97 g off n c v xs _ H.out hn hx hv).mono ?_
  rintro e w1 ⟨rfl, hb, hg⟩
  have HB := Lib.hid hb
  have HG := Lib.hid hg
  clear hb hg
  go_wp2_with fail
  go_end0
  exact ⟨rfl, HB.out, grown_trans (grown_alloc _ _ _) HG.out⟩
set_option maxHeartbeats 400000 in
theorem put159 (g n c : Nat) (v : Int) (xs : List Int) (w : World) (hB : Buf w g xs) (hn : 8 ≤ n) (hnc : n ≤ c) (hx : n ≤ xs.length) (hv : 0 ≤ v ∧ v < 18446744073709551616) :
    Calls Try.prog 159 #[.slice (some ⟨g, 0, none⟩) n c, .int .u64 v] w fun e w' => e = .returned (.tuple #[]) ∧ Buf w' g (wr xs 0 (putB v 8)) ∧ w.grownBy w' (some g) := by
  have c7 := hB.cell 7 (by omega)
  have H := Lib.hid hB
  clear hB
  have hc4 : ¬ c = 4 := by omega
  go_enter Try.func159, Try.ntmps159
  go_wp2_with fail
  refine (put97 g 0 n c (v % 4294967296) xs _ H.out (by omega) (by omega) (by omega)).mono ?_
  rintro e w1 ⟨rfl, hb, hg⟩
  have HB := Lib.hid hb
  have HG := Lib.hid hg
  clear hb hg c7
  go_wp2_with fail
  refine (put97 g 4 (n - 4) (c - 4) (v / 4294967296) _ _ HB.out (by omega) (by rw [wr_length]; omega) (by omega)).mono ?_
  rintro e w2 ⟨rfl, hb, hg⟩
  have HB2 := Lib.hid hb
  have HG2 := Lib.hid hg
  clear hb hg
  go_wp2_with fail
  go_end0
  refine ⟨rfl, ?_, grown_trans HG.out HG2.out⟩
  have h1 := HB2.out
  rw [putB8, wr_append, putB_length]
  exact h1
set_option maxHeartbeats 400000 in
theorem put155 (g n c : Nat) (v : Int) (xs : List Int) (w : World) (hB : Buf w g xs) (hn : 8 ≤ n) (hnc : n ≤ c) (hx : n ≤ xs.length) (hv : 0 ≤ v ∧ v < 18446744073709551616) :
    Calls Try.prog 155 #[.agg #[], .slice (some ⟨g, 0, none⟩) n c, .int .u64 v] w fun e w' => e = .returned (.tuple #[]) ∧ Buf w' g (wr xs 0 (putB v 8)) ∧ w.grownBy w' (some g) := by
  have H := Lib.hid (hB.alloc (.cells #[] 140))
  clear hB
  go_enter Try.func155, Try.ntmps155
  go_wp2_with fail
  refine (put159 g n c v xs _ H.out hn hnc hx hv).mono ?_
  rintro e w1 ⟨rfl, hb, hg⟩
  have HB := Lib.hid hb
  have HG := Lib.hid hg
  clear hb hg
  go_wp2_with fail
  go_end0
  exact ⟨rfl, HB.out, grown_trans (grown_alloc _ _ _) HG.out⟩

/-! ### The highest byte first -/
set_option maxHeartbeats 400000 in
theorem put161 (g off n c : Nat) (v : Int) (xs : List Int) (w : World) (hB : Buf w g xs) (hn : 2 ≤ n) (hx : off + n ≤ xs.length) (hv : 0 ≤ v ∧ v < 65536) :
    Calls Try.prog 161 #[.agg #[], .slice (some ⟨g, off, none⟩) n c, .int .u16 v] w fun e w' => e = .returned (.tuple #[]) ∧ Buf w' g (wr xs off (putB v 2).reverse) ∧ w.grownBy w' (some g) := by
  have hA := hB.alloc (.cells #[] 141)
  have c0 := hA.cell off (by omega)
  have c1 := hA.cell (off + 1) (by omega)
  have f0 := hA.free off
  have f1 := hA.free (off + 1)
  have H := Lib.hid hA
  have e := Lib.hid (rev2 v hv)
  clear hB hA
  go_enter Try.func161, Try.ntmps161
  go_wp2
  go_end0
  refine ⟨rfl, ?_, grown_trans (grown_trans (grown_alloc _ _ _) (grown_set _ _ _ _)) (grown_set _ _ _ _)⟩
  rw [e.out]
  exact (H.out.set off _).set (off + 1) _
set_option maxHeartbeats 400000 in
theorem put162 (g off n c : Nat) (v : Int) (xs : List Int) (w : World) (hB : Buf w g xs) (hn : 4 ≤ n) (hx : off + n ≤ xs.length) (hv : 0 ≤ v ∧ v < 4294967296) :
    Calls Try.prog 162 #[.agg #[], .slice (some ⟨g, off, none⟩) n c, .int .u32 v] w fun e w' => e = .returned (.tuple #[]) ∧ Buf w' g (wr xs off (putB v 4).reverse) ∧ w.grownBy w' (some g) := by
  have hA := hB.alloc (.cells #[] 141)
  have c0 := hA.cell off (by omega)
  have c1 := hA.cell (off + 1) (by omega)
  have c2 := hA.cell (off + 2) (by omega)
  have c3 := hA.cell (off + 3) (by omega)
  have f0 := hA.free off
  have f1 := hA.free (off + 1)
  have f2 := hA.free (off + 2)
  have f3 := hA.free (off + 3)
  have H := Lib.hid hA
  have e := Lib.hid (rev4 v hv)
  clear hB hA
  go_enter Try.func162, Try.ntmps162
  go_wp2
  go_end0
  refine ⟨rfl, ?_, grown_trans (grown_trans (grown_trans (grown_trans (grown_alloc _ _ _) (grown_set _ _ _ _)) (grown_set _ _ _ _)) (grown_set _ _ _ _)) (grown_set _ _ _ _)⟩
  rw [e.out]
  exact (((H.out.set off _).set (off + 1) _).set (off + 2) _).set (off + 3) _
set_option maxHeartbeats 800000 in
theorem put163 (g n c : Nat) (v : Int) (xs : List Int) (w : World) (hB : Buf w g xs) (hn : 8 ≤ n) (hnc : n ≤ c) (hx : n ≤ xs.length) (hv : 0 ≤ v ∧ v < 18446744073709551616) :
    Calls Try.prog 163 #[.agg #[], .slice (some ⟨g, 0, none⟩) n c, .int .u64 v] w fun e w' => e = .returned (.tuple #[]) ∧ Buf w' g (wr xs 0 (putB v 8).reverse) ∧ w.grownBy w' (some g) := by
  have hA := hB.alloc (.cells #[] 141)
  have c7 := hA.cell 7 (by omega)
  have H := Lib.hid hA
  clear hB hA
  have hc4 : ¬ c = 4 := by omega
  go_enter Try.func163, Try.ntmps163
  go_wp2_with fail
  refine (put162 g 0 n c (v / 4294967296) xs _ H.out (by omega) (by omega) (by omega)).mono ?_
  rintro e w1 ⟨rfl, hb, hg⟩
  have HB := Lib.hid hb
  have HG := Lib.hid hg
  clear hb hg c7
  go_wp2_with fail
  have hs : 4 < n := by omega
  have hi : (4 : Int) ≤ (n : Int) := by omega
  have hl2 : (wr xs 0 (putB (v / 4294967296) 4).reverse).length = xs.length := wr_length _ _ _
  have HL := Lib.hid hl2
  clear hl2
  go_region_held3 (fun _ => True) (exact trivial) (first | (go_at_call 162; refine (put162 g 4 (n - 4) (c - 4) (v % 4294967296) _ _ (by exact HB.out) (by omega) (by rw [HL.out]; omega) (by omega)).mono ?_; rintro e w2 ⟨rfl, hb, hg⟩))
  have HB2 := Lib.hid hb
  have HG2 := Lib.hid hg
  clear hb hg
  go_wp2_with fail
  go_end0
  refine ⟨rfl, ?_, grown_trans (grown_trans (grown_alloc _ _ _) HG.out) (grown_undrew HG2.out)⟩
  have h1 := HB2.out
  rw [putB8, List.reverse_append, wr_append, List.length_reverse, putB_length]
  exact h1

/-! ### Numbers read -/
theorem Sl.drop {ok : Nat → Prop} {w : World} {b off c : Nat} {xs : List Int} (h : Sl ok w (.slice (some ⟨b, off, none⟩) xs.length c) xs) (i : Nat) (hi : i < xs.length) : Sl ok w (.slice (some ⟨b, off + i, none⟩) (xs.length - i) (c - i)) (xs.drop i) := by
  obtain ⟨b', off', c', hv, hl, hc, hb, _, hcell⟩ := h.at_ (by omega)
  simp only [Value.slice.injEq, Option.some.injEq, Addr.mk.injEq, true_and, and_true] at hv
  obtain ⟨⟨rfl, rfl⟩, rfl⟩ := hv
  refine ⟨some ⟨b, off + i, none⟩, c - i, by rw [List.length_drop], by rw [List.length_drop]; omega, by omega, fun _ => ⟨b, off + i, rfl, hb, fun j hj => ?_⟩⟩
  rw [List.length_drop] at hj
  rw [Nat.add_assoc, hcell (i + j) (by omega)]
  simp [List.getD_eq_getElem?_getD, List.getElem?_drop]
theorem len2 {xs : List Int} (h : xs.length = 2) : xs = [xs.getD 0 0, xs.getD 1 0] := by
  match xs, h with
  | [a, b], _ => rfl
theorem len4 {xs : List Int} (h : xs.length = 4) : xs = [xs.getD 0 0, xs.getD 1 0, xs.getD 2 0, xs.getD 3 0] := by
  match xs, h with
  | [a, b, c, d], _ => rfl
theorem len8 {xs : List Int} (h : xs.length = 8) : xs = [xs.getD 0 0, xs.getD 1 0, xs.getD 2 0, xs.getD 3 0, xs.getD 4 0, xs.getD 5 0, xs.getD 6 0, xs.getD 7 0] := by
  match xs, h with
  | [a, b, c, d, e, f, g, i], _ => rfl
theorem g2_getB {xs : List Int} (h : xs.length = 2) : g2 xs = getB xs := by
  have e := len2 h
  unfold g2; rw [e]; simp [getB]
theorem g4_getB {xs : List Int} (h : xs.length = 4) : g4 xs = getB xs := by
  have e := len4 h
  unfold g4; rw [e]; simp [getB]; omega
theorem g8_getB {xs : List Int} (h : xs.length = 8) : g4 xs + g4 (xs.drop 4) * 4294967296 = getB xs := by
  have e := len8 h
  unfold g4; rw [e]; simp [getB]; omega

set_option maxHeartbeats 400000 in
theorem get156 {ok : Nat → Prop} {v : Value} {xs : List Int} {w : World} (h : Sl ok w v xs) (hl : 2 ≤ xs.length) (hb : IsB xs) :
    Calls Try.prog 156 #[.agg #[], v] w fun e w' => e = .returned (.int .u16 (g2 xs)) ∧ Below w.heap.size w w' := by
  have H := Lib.hid (h.below ((Below.refl _ _).alloc (Nat.le_refl _) (.cells #[] 140)))
  have B := Lib.hid hb
  clear h hb
  go_enter Try.func156, Try.ntmps156
  go_wp2_with fail
  refine (get100 H.out hl B.out).mono ?_
  rintro e w1 ⟨rfl, n, rfl⟩
  go_wp2_with fail
  go_ret
  exact ⟨rfl, pw_below_drewN ((Below.refl _ _).alloc (Nat.le_refl _) _) _⟩
set_option maxHeartbeats 400000 in
theorem get157 {ok : Nat → Prop} {v : Value} {xs : List Int} {w : World} (h : Sl ok w v xs) (hl : 4 ≤ xs.length) (hb : IsB xs) :
    Calls Try.prog 157 #[.agg #[], v] w fun e w' => e = .returned (.int .u32 (g4 xs)) ∧ Below w.heap.size w w' := by
  have H := Lib.hid (h.below ((Below.refl _ _).alloc (Nat.le_refl _) (.cells #[] 140)))
  have B := Lib.hid hb
  clear h hb
  go_enter Try.func157, Try.ntmps157
  go_wp2_with fail
  refine (get99 H.out hl B.out).mono ?_
  rintro e w1 ⟨rfl, n, rfl⟩
  go_wp2_with fail
  go_ret
  exact ⟨rfl, pw_below_drewN ((Below.refl _ _).alloc (Nat.le_refl _) _) _⟩
set_option maxHeartbeats 400000 in
theorem get160 {ok : Nat → Prop} {v : Value} {xs : List Int} {w : World} (h : Sl ok w v xs) (hl : xs.length = 8) (hb : IsB xs) :
    Calls Try.prog 160 #[v] w fun e w' => e = .returned (.int .u64 (bits .or .u64 (g4 xs) (g4 (xs.drop 4) * 4294967296))) ∧ ∃ n, w' = w.drewN n := by
  obtain ⟨b, off, c, rfl, hc, hc2, _, _, hcell⟩ := h.at_ (by omega)
  have c7 := hcell 7 (by omega)
  have hd := h.drop 4 (by omega)
  have r1 := g4_range hb
  have r2 := g4_range (hb.drop 4)
  have hl4 : (xs.drop 4).length = 4 := by rw [List.length_drop]; omega
  generalize hx : xs.getD 7 0 = x7 at c7
  generalize hg : g4 xs = G at r1 ⊢
  generalize hg4 : g4 (xs.drop 4) = G4 at r2 ⊢
  have A1 : ∀ nq, Calls Try.prog 99 #[.slice (some ⟨b, off, none⟩) 8 c] (w.drewN nq) fun e w' => e = .returned (.int .u32 G) ∧ ∃ n, w' = (w.drewN nq).drewN n := fun nq => by
    have := get99 (w := w.drewN nq) (h.below (pw_below_drewN (Below.refl _ _) nq)) (by omega) hb
    rw [hl, hg] at this; exact this
  have A2 : ∀ nq, Calls Try.prog 99 #[.slice (some ⟨b, off + 4, none⟩) 4 (c - 4)] (w.drewN nq) fun e w' => e = .returned (.int .u32 G4) ∧ ∃ n, w' = (w.drewN nq).drewN n := fun nq => by
    have := get99 (w := w.drewN nq) (hd.below (pw_below_drewN (Below.refl _ _) nq)) (by omega) (hb.drop 4)
    rw [hl, hg4] at this; exact this
  have HA1 := Lib.hid A1
  have HA2 := Lib.hid A2
  rw [hl]
  have hne : ¬ c = 4 := by omega
  have hle : 8 ≤ c := by omega
  clear h hb hd hcell A1 A2 hg hg4 hl4 hc hc2 hl hx
  go_enter Try.func160, Try.ntmps160
  go_wp2_with fail
  go_quiet ((first | (go_at_call 99; with_reducible exact Calls.quiet_of (HA1.out _)) | (go_at_call 99; with_reducible exact Calls.quiet_of (HA2.out _))))
  go_wp2
  go_ret
  exact ⟨rfl, _, rfl⟩
theorem or8 {xs : List Int} (hl : xs.length = 8) (hb : IsB xs) : bits .or .u64 (g4 xs) (g4 (xs.drop 4) * 4294967296) = getB xs := by
  have r1 := g4_range hb
  have r2 := g4_range (hb.drop 4)
  have h := u64_or_at 32 (g4 xs) (g4 (xs.drop 4)) (by omega) (by omega) (by omega)
  simp only [Int.reducePow] at h
  rw [h, g8_getB hl]
set_option maxHeartbeats 400000 in
theorem get158 {ok : Nat → Prop} {v : Value} {xs : List Int} {w : World} (h : Sl ok w v xs) (hl : xs.length = 8) (hb : IsB xs) :
    Calls Try.prog 158 #[.agg #[], v] w fun e w' => e = .returned (.int .u64 (getB xs)) ∧ Below w.heap.size w w' := by
  have H := Lib.hid (h.below ((Below.refl _ _).alloc (Nat.le_refl _) (.cells #[] 140)))
  have B := Lib.hid hb
  have L := Lib.hid hl
  clear h hb hl
  go_enter Try.func158, Try.ntmps158
  go_wp2_with fail
  refine (get160 H.out L.out B.out).mono ?_
  rintro e w1 ⟨rfl, n, rfl⟩
  rw [or8 L.out B.out]
  go_wp2_with fail
  go_ret
  exact ⟨rfl, pw_below_drewN ((Below.refl _ _).alloc (Nat.le_refl _) _) _⟩
set_option maxHeartbeats 400000 in
theorem bg16 (b off c n : Nat) (x0 x1 : Int) (w : World) (hn : 2 ≤ n) (hv0 : 0 ≤ x0 ∧ x0 < 256) (hv1 : 0 ≤ x1 ∧ x1 < 256) (h0 : (w.alloc (.cells #[] 141)).cell? ⟨b, off, none⟩ = some (.int .u8 x0)) (h1 : (w.alloc (.cells #[] 141)).cell? ⟨b, off + 1, none⟩ = some (.int .u8 x1)) :
    Calls Try.prog 164 #[.agg #[], .slice (some ⟨b, off, none⟩) n c] w fun e w' => e = .returned (.int .u16 (bits .or .u16 x1 (x0 * 256))) ∧ ∃ n, w' = (w.alloc (.cells #[] 141)).drewN n := by
  go_enter Try.func164, Try.ntmps164
  go_wp2
  go_quiet (fail)
  go_wp2
  go_ret
  exact ⟨rfl, _, rfl⟩
set_option maxHeartbeats 400000 in
theorem bg32 (b off c n : Nat) (x0 x1 x2 x3 : Int) (w : World) (hn : 4 ≤ n) (hv0 : 0 ≤ x0 ∧ x0 < 256) (hv1 : 0 ≤ x1 ∧ x1 < 256) (hv2 : 0 ≤ x2 ∧ x2 < 256) (hv3 : 0 ≤ x3 ∧ x3 < 256)
    (h0 : (w.alloc (.cells #[] 141)).cell? ⟨b, off, none⟩ = some (.int .u8 x0)) (h1 : (w.alloc (.cells #[] 141)).cell? ⟨b, off + 1, none⟩ = some (.int .u8 x1)) (h2 : (w.alloc (.cells #[] 141)).cell? ⟨b, off + 2, none⟩ = some (.int .u8 x2)) (h3 : (w.alloc (.cells #[] 141)).cell? ⟨b, off + 3, none⟩ = some (.int .u8 x3)) :
    Calls Try.prog 165 #[.agg #[], .slice (some ⟨b, off, none⟩) n c] w fun e w' => e = .returned (.int .u32 (bits .or .u32 (bits .or .u32 (bits .or .u32 x3 (x2 * 256)) (x1 * 65536)) (x0 * 16777216))) ∧ ∃ n, w' = (w.alloc (.cells #[] 141)).drewN n := by
  go_enter Try.func165, Try.ntmps165
  go_wp2
  go_quiet (fail)
  go_wp2
  go_ret
  exact ⟨rfl, _, rfl⟩
theorem get164 {ok : Nat → Prop} {v : Value} {xs : List Int} {w : World} (h : Sl ok w v xs) (hl : xs.length = 2) (hb : IsB xs) :
    Calls Try.prog 164 #[.agg #[], v] w fun e w' => e = .returned (.int .u16 (getB xs.reverse)) ∧ Below w.heap.size w w' := by
  obtain ⟨b, off, c, rfl, _, _, _, _, hc⟩ := (h.below ((Below.refl _ _).alloc (Nat.le_refl _) (.cells #[] 141))).at_ (by omega)
  refine (bg16 b off c xs.length _ _ w (by omega) (hb.at_ 0) (hb.at_ 1) (hc 0 (by omega)) (hc 1 (by omega))).mono ?_
  rintro e w' ⟨rfl, n, rfl⟩
  refine ⟨?_, pw_below_drewN ((Below.refl _ _).alloc (Nat.le_refl _) _) _⟩
  rw [u16_or8 _ _ (hb.at_ 1) (hb.at_ 0), len2 hl]; simp [getB]
def g4r (xs : List Int) : Int := g4 [xs.getD 3 0, xs.getD 2 0, xs.getD 1 0, xs.getD 0 0]
theorem g4r_range {xs : List Int} (h : IsB xs) : 0 ≤ g4r xs ∧ g4r xs < 4294967296 := by have := h.at_ 0; have := h.at_ 1; have := h.at_ 2; have := h.at_ 3; unfold g4r g4; simp only [List.getD_cons_zero, List.getD_cons_succ]; omega
theorem get165 {ok : Nat → Prop} {v : Value} {xs : List Int} {w : World} (h : Sl ok w v xs) (hl : 4 ≤ xs.length) (hb : IsB xs) :
    Calls Try.prog 165 #[.agg #[], v] w fun e w' => e = .returned (.int .u32 (g4r xs)) ∧ ∃ n, w' = (w.alloc (.cells #[] 141)).drewN n := by
  obtain ⟨b, off, c, rfl, _, _, _, _, hc⟩ := (h.below ((Below.refl _ _).alloc (Nat.le_refl _) (.cells #[] 141))).at_ (by omega)
  refine (bg32 b off c xs.length _ _ _ _ w (by omega) (hb.at_ 0) (hb.at_ 1) (hb.at_ 2) (hb.at_ 3) (hc 0 (by omega)) (hc 1 (by omega)) (hc 2 (by omega)) (hc 3 (by omega))).mono ?_
  rintro e w' ⟨rfl, hw⟩
  refine ⟨?_, hw⟩
  rw [sum32 _ _ _ _ (hb.at_ 3) (hb.at_ 2) (hb.at_ 1) (hb.at_ 0)]; rfl
theorem g4r_getB {xs : List Int} (h : xs.length = 4) : g4r xs = getB xs.reverse := by
  have e := len4 h
  unfold g4r g4; rw [e]; simp [getB]; omega
theorem g8r_getB {xs : List Int} (h : xs.length = 8) : g4r (xs.drop 4) + g4r xs * 4294967296 = getB xs.reverse := by
  have e := len8 h
  unfold g4r g4; rw [e]; simp [getB]; omega
theorem or8r {xs : List Int} (hl : xs.length = 8) (hb : IsB xs) : bits .or .u64 (g4r (xs.drop 4)) (g4r xs * 4294967296) = getB xs.reverse := by
  have r1 := g4r_range hb
  have r2 := g4r_range (hb.drop 4)
  have h := u64_or_at 32 (g4r (xs.drop 4)) (g4r xs) (by omega) (by omega) (by omega)
  simp only [Int.reducePow] at h
  rw [h, g8r_getB hl]
set_option maxHeartbeats 800000 in
theorem get166' {ok : Nat → Prop} {v : Value} {xs : List Int} {w : World} (h : Sl ok w v xs) (hl : xs.length = 8) (hb : IsB xs) :
    Calls Try.prog 166 #[.agg #[], v] w fun e w' => e = .returned (.int .u64 (bits .or .u64 (g4r (xs.drop 4)) (g4r xs * 4294967296))) ∧ Below w.heap.size w w' := by
  obtain ⟨b, off, c, rfl, hc, hc2, _, _, hcell⟩ := (h.below ((Below.refl _ _).alloc (Nat.le_refl _) (.cells #[] 141))).at_ (by omega)
  have c7 := hcell 7 (by omega)
  have hd := h.drop 4 (by omega)
  have r1 := g4r_range hb
  have r2 := g4r_range (hb.drop 4)
  have hl4 : (xs.drop 4).length = 4 := by rw [List.length_drop]; omega
  generalize hx : xs.getD 7 0 = x7 at c7
  generalize hg : g4r xs = G at r1 ⊢
  generalize hg4 : g4r (xs.drop 4) = G4 at r2 ⊢
  have A1 : ∀ W, Below w.heap.size w W → Calls Try.prog 165 #[.agg #[], .slice (some ⟨b, off, none⟩) 8 c] W fun e w' => e = .returned (.int .u32 G) ∧ Below w.heap.size w w' := fun W hW => by
    have h1 := get165 (w := W) (h.below hW) (by omega) hb
    rw [hl, hg] at h1
    refine h1.mono ?_
    rintro e w' ⟨rfl, n, rfl⟩
    exact ⟨rfl, pw_below_drewN (hW.alloc hW.size _) _⟩
  have A2 : ∀ W, Below w.heap.size w W → Calls Try.prog 165 #[.agg #[], .slice (some ⟨b, off + 4, none⟩) 4 (c - 4)] W fun e w' => e = .returned (.int .u32 G4) ∧ Below w.heap.size w w' := fun W hW => by
    have h1 := get165 (w := W) (hd.below hW) (by omega) (hb.drop 4)
    rw [hl, hg4] at h1
    refine h1.mono ?_
    rintro e w' ⟨rfl, n, rfl⟩
    exact ⟨rfl, pw_below_drewN (hW.alloc hW.size _) _⟩
  have HA1 := Lib.hid A1
  have HA2 := Lib.hid A2
  have HW := Lib.hid ((Below.refl w.heap.size w).alloc (Nat.le_refl _) (.cells #[] 141)).drew
  rw [hl]
  have hne : ¬ c = 4 := by omega
  have hle : 8 ≤ c := by omega
  clear h hb hd hcell A1 A2 hg hg4 hl4 hc hc2 hl hx
  go_enter Try.func166, Try.ntmps166
  go_wp2_with fail
  go_region_held3 (fun w' => Below w.heap.size w w') (first | exact HW.out | assumption) (first | (go_at_call 165; (with_reducible refine (HA2.out _ (by assumption)).mono ?_); rintro e w2 ⟨rfl, hb2⟩) | (go_at_call 165; (with_reducible refine (HA1.out _ (by assumption)).mono ?_); rintro e w3 ⟨rfl, hb3⟩))
  have e1 : IntKind.u64.wrap G4 = G4 := by rw [IntKind.wrap_u64]; omega
  have e2 : IntKind.u64.wrap G = G := by rw [IntKind.wrap_u64]; omega
  have e3 : IntKind.u64.wrap (G * 4294967296) = G * 4294967296 := by rw [IntKind.wrap_u64]; omega
  have E : bits .or .u64 (IntKind.u64.wrap G4) (IntKind.u64.wrap (IntKind.u64.wrap G * 4294967296)) = bits .or .u64 G4 (G * 4294967296) := by rw [e2, e3, e1]
  clear e1 e2 e3
  have E' := Lib.hid E
  clear E
  go_wp2_with fail
  go_ret
  exact ⟨congrArg (fun x => Ending.returned (.int .u64 x)) E'.out, by assumption⟩
theorem get166 {ok : Nat → Prop} {v : Value} {xs : List Int} {w : World} (h : Sl ok w v xs) (hl : xs.length = 8) (hb : IsB xs) :
    Calls Try.prog 166 #[.agg #[], v] w fun e w' => e = .returned (.int .u64 (getB xs.reverse)) ∧ Below w.heap.size w w' := by
  rw [← or8r hl hb]; exact get166' h hl hb
end Go.Proofs.Ytgijhgonpgidiaa
