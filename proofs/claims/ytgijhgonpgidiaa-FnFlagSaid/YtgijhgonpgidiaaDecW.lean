/-
  decode at one attribute whose bytes do not fit its kind. No statement of the seat is proved here.
-/
import Derived.Test.YtgijhgonpgidiaaKind
import Derived.Test.YtgijhgonpgidiaaNx2
import Derived.Test.YtgijhgonpgidiaaFb
namespace Go.Proofs.Ytgijhgonpgidiaa
open Go.RowKit Go.Proofs.YtgijhgonpgidiaaW.PrintWords

theorem info78 : (Try.prog.info? 78).map (fun i => (i.zero, i.size, i.bytes)) = some (some (.agg #[.int .i64 0, .int .i64 0, .int .i64 0, .int .i64 0, .string ⟨#[]⟩, .slice none 0 0, .slice none 0 0]), 7, 96) := by kernel_rfl
def fldO (t k f n : Int) (text : ByteArray) (dv kv : Value) : Obj := .cells #[.int .i64 t, .int .i64 k, .int .i64 f, .int .i64 n, .string text, dv, kv] 78
theorem fldO_n {w : World} {z : Nat} {t k f n : Int} {text : ByteArray} {dv kv : Value} (h : w.heap[z]? = some (fldO t k f n text dv kv)) (n' : Int) : (w.setCell ⟨z, 3, none⟩ (.int .i64 n')).heap[z]? = some (fldO t k f n' text dv kv) := by
  have := blk_set h 3 (.int .i64 n')
  simpa [fldO] using this
theorem fldO_text {w : World} {z : Nat} {t k f n : Int} {text : ByteArray} {dv kv : Value} (h : w.heap[z]? = some (fldO t k f n text dv kv)) (text' : ByteArray) : (w.setCell ⟨z, 4, none⟩ (.string text')).heap[z]? = some (fldO t k f n text' dv kv) := by
  have := blk_set h 4 (.string text')
  simpa [fldO] using this
theorem fldO_data {w : World} {z : Nat} {t k f n : Int} {text : ByteArray} {dv kv : Value} (h : w.heap[z]? = some (fldO t k f n text dv kv)) (dv' : Value) : (w.setCell ⟨z, 5, none⟩ dv').heap[z]? = some (fldO t k f n text dv' kv) := by
  have := blk_set h 5 dv'
  simpa [fldO] using this
theorem fldO_kids {w : World} {z : Nat} {t k f n : Int} {text : ByteArray} {dv kv : Value} (h : w.heap[z]? = some (fldO t k f n text dv kv)) (kv' : Value) : (w.setCell ⟨z, 6, none⟩ kv').heap[z]? = some (fldO t k f n text dv kv') := by
  have := blk_set h 6 kv'
  simpa [fldO] using this

theorem El.Ow.fresh {α : Type} (d : El α) {e : TypeId} {w : World} {base : Nat} {v : Value} {ok : Nat → Prop} (h : w.ownsRow base e d.sz v 0 []) (hk : ∀ k, v.ownBlock = some k → ok k) : d.Ow e ok w base v [] :=
  ⟨hk, [], h, Reps.none _ _⟩
theorem ow_nil (d : Nat) (w : World) (B : Nat) : (elF d).Ow 78 (fun _ => True) w B (.slice none 0 0) [] := El.Ow.fresh (elF d) (own_nil _ _ _ _) (fun k hk => by cases hk)
theorem gap {w a b : World} {g : Nat} (h : w.grownBy a (some g)) (k : a.grownBy b (some g)) : w.grownBy b (some g) :=
  ⟨k.os.trans h.os, k.tape.trans h.tape, k.output.trans h.output, Nat.le_trans h.size k.size, fun i hi hne => (k.block i (Nat.lt_of_lt_of_le hi h.size) hne).trans (h.block i hi hne)⟩
theorem grown_put {w a : World} {row : Option Nat} (h : w.grownBy a row) {p : Addr} (hp : w.heap.size ≤ p.block) (u : Value) : w.grownBy (a.setCell p u) row :=
  ⟨h.os, h.tape, h.output, by simpa [World.setCell] using h.size, fun i hi hne => (Below.heap_setCell _ _ _ _ (by omega)).trans (h.block i hi hne)⟩
theorem DecErr.far {w : World} {g : Nat} (h : DecErr w g) {p : Addr} (hp : g ≠ p.block) (u : Value) : DecErr (w.setCell p u) g := by
  obtain ⟨o, L, T, dv, bv, i, n, ty, y, h⟩ := h
  exact ⟨o, L, T, dv, bv, i, n, ty, y, (Below.heap_setCell _ _ _ _ hp).trans h⟩
theorem DecErr.grown {w a : World} {g : Nat} (h : DecErr w g) (hg : w.grownBy a none) : DecErr a g := by
  obtain ⟨o, L, T, dv, bv, i, n, ty, y, h⟩ := h
  exact ⟨o, L, T, dv, bv, i, n, ty, y, (hg.block g (blk_lt h) (by intro he; cases he)).trans h⟩

theorem after {w a b : World} {g : Nat} (h : a.grownBy b none) (k : w.grownBy a (some g)) (e : DecErr a g) : w.grownBy b (some g) ∧ DecErr b g := ⟨grown_over k h (fun j hj => by cases hj), e.grown h⟩

/-- What several orders of one region end in, walked on from once. -/
theorem via {A B : Prop} (f : Hid A → B) (a : A) : B := f (Lib.hid a)

set_option maxRecDepth 100000 in
set_option maxHeartbeats 6400000 in
theorem dec78_bad (w : World) (g b off c : Nat) (kind : Int) (o bv : Value) (data : List Int) (ok : Nat → Prop) (hG : w.heap[g]? = some (decO o 0 0 (.slice none 0 0) bv 0 1 .nilIface)) (hS : Sl ok w bv (attrsB [(1, data)])) (hok : ∀ k, ok k → k ≠ g)
    (hb : IsB data) (hdl : data.length ≤ 100) (hbg : b ≠ g) (hbl : b < w.heap.size)
    (e0 : w.cell? ⟨b, off, none⟩ = some (.int .i64 0)) (e1 : w.cell? ⟨b, off + 1, none⟩ = some (.int .i64 kind)) (e2 : w.cell? ⟨b, off + 2, none⟩ = some (.int .i64 0)) (e3 : w.cell? ⟨b, off + 3, none⟩ = some (.int .i64 0)) (e4 : w.cell? ⟨b, off + 4, none⟩ = some (.string ⟨#[]⟩)) (e5 : w.cell? ⟨b, off + 5, none⟩ = some (.slice none 0 0)) (e6 : w.cell? ⟨b, off + 6, none⟩ = some (.slice none 0 0))
    (hk : (0 ≤ kind ∧ kind ≤ 7 ∧ (data.length : Int) ≠ widthK kind) ∨ (kind = 10 ∧ data.length ≠ 0)) :
    Calls Try.prog 78 #[.pointer (some ⟨g, 0, none⟩), .slice (some ⟨b, off, none⟩) 1 c] w fun e w' => ∃ A6 c6 ty y, e = .returned (.tuple #[.slice A6 1 c6, .iface ty y]) ∧ Hid (w.grownBy w' (some g)) := by
  have hA : AOk [(1, data)] := fun a ha => by simp only [List.mem_cons, List.not_mem_nil, or_false] at ha; subst ha; exact ⟨by omega, by simp; omega⟩
  have hpl : pos [(1, data)] 1 = (attrsB [(1, data)]).length := pos_all [(1, data)]
  have hN := next_at w g o (.slice none 0 0) bv 0 0 1 [(1, data)] (attrsB [(1, data)]).length 0 (1, data) ok (by rw [pos_zero]; exact hG) (by rw [List.take_length]; exact hS) hok hA (fun a ha => by simp only [List.mem_cons, List.not_mem_nil, or_false] at ha; subst ha; exact hb) (Nat.le_refl _) rfl (by rw [pos_zero]; simp [attrB_length, attrsB]; have := padn_le (data.length); omega) (by simp [attrB_length, attrsB]; have := padn_le (data.length); omega)
  have HN := Lib.hid hN
  have HS := Lib.hid hS
  have HOK := Lib.hid hok
  have HIB := Lib.hid hb
  have HE := Lib.hid (And.intro e0 (And.intro e1 (And.intro e2 (And.intro e3 (And.intro e4 (And.intro e5 e6))))))
  have HK := Lib.hid hk
  clear hN hS hok hb e0 e1 e2 e3 e4 e5 e6 hk hA hpl hG
  go_enter Try.func78, Try.ntmps78
  go_wp2_with fail
  go_loopw [6] (fun u wr => (u = .slice none 0 0 ∧ wr = w) ∨ (∃ A c, u = .slice A 1 c ∧ Hid (w.grownBy wr (some g) ∧ DecErr wr g))) (fun u _ => 1 - lenV u)
  case atStart => exact .inl ⟨rfl, rfl⟩
  case round =>
    rcases hrel with ⟨rfl, hww⟩ | HL
    · rw [hww]
      clear hww
      go_wp2_with fail
      refine HN.out.mono ?_
      rintro e w1 ⟨rfl, H1⟩
      obtain ⟨A1, c1, hk1, hs1, hg1⟩ := H1.out
      have cell : ∀ j v, w.cell? ⟨b, j, none⟩ = some v → w1.cell? ⟨b, j, none⟩ = some v := fun j v h => (World.cell?_of_block (hg1.block b hbl (by intro he; injection he with he; exact hbg he))).trans h
      have a0 := cell _ _ HE.out.1
      have a1 := cell _ _ HE.out.2.1
      have a2 := cell _ _ HE.out.2.2.1
      have a3 := cell _ _ HE.out.2.2.2.1
      have a4 := cell _ _ HE.out.2.2.2.2.1
      have a5 := cell _ _ HE.out.2.2.2.2.2.1
      have a6 := cell _ _ HE.out.2.2.2.2.2.2
      have HK1 := Lib.hid hk1
      have HS1 := Lib.hid hs1
      have HG1 := Lib.hid hg1
      have hbl1 : b < w1.heap.size := Nat.lt_of_lt_of_le hbl hg1.size
      obtain ⟨x, hx⟩ : ∃ x, x = w1.heap.size := ⟨_, rfl⟩
      obtain ⟨W, hW⟩ : ∃ W, W = w1.alloc (.cells #[.int .i64 0, .int .i64 kind, .int .i64 0, .int .i64 0, .string ⟨#[]⟩, .slice none 0 0, .slice none 0 0] 78) := ⟨_, rfl⟩
      have kx : W.heap[x]? = some (.cells #[.int .i64 0, .int .i64 kind, .int .i64 0, .int .i64 0, .string ⟨#[]⟩, .slice none 0 0, .slice none 0 0] 78) := by rw [hW, hx]; exact heap_alloc_new _ _
      have hxl : W.heap.size = x + 1 := by rw [hW, hx]; simp
      have x1 : W.cell? ⟨x, 1, none⟩ = some (.int .i64 kind) := blk_cell kx 1
      have HB2 : Hid (Below w1.heap.size w1 W) := Lib.hid (by rw [hW]; exact (Below.refl _ _).alloc (Nat.le_refl _) _)
      have hkw := blk_below HK1.out HB2.out
      have HKW := Lib.hid hkw
      have HT := Lib.hid (type108 W.drew g _ _ _ _ _ _ _ _ hkw)
      have HF2 := Lib.hid (flags109 W.drew g _ _ _ _ _ _ _ _ hkw)
      have HT2 := Lib.hid (type108 (W.alloc (.cells #[.int .i64 0, .int .i64 0, .int .i64 0, .int .i64 0, .string ⟨#[]⟩, .slice none 0 0, .slice none 0 0] 78)).drew g _ _ _ _ _ _ _ _ (blk_alloc hkw _))
      have HF := Lib.hid (flags109 (W.alloc (.cells #[.int .i64 0, .int .i64 0, .int .i64 0, .int .i64 0, .string ⟨#[]⟩, .slice none 0 0, .slice none 0 0] 78)).drew g _ _ _ _ _ _ _ _ (blk_alloc hkw _))
      have HX := Lib.hid hx
      have HW := Lib.hid hW
      have hxl1 : x < W.heap.size := by omega
      clear hkw cell hk1 hs1 hg1 H1 hx hW kx
      go_wp2_with fail
      rw [← HW.out, ← HX.out]
      apply via
      · intro key
        go_region_law (first
          | (go_simp; go_at_call 108; (with_reducible first | refine HT.out.mono ?_ | refine HT2.out.mono ?_); rintro e w10 ⟨rfl, rfl⟩)
          | (go_simp; go_at_call 109; (with_reducible first | refine HF.out.mono ?_ | refine HF2.out.mono ?_); rintro e w10 ⟨rfl, rfl⟩))
        all_goals exact key.out
      rw [show IntKind.i64.wrap (bits .and .u16 1 16383) = 1 by decide, show IntKind.i64.wrap (bits .and .u16 1 49152) = 0 by decide]
      obtain ⟨y, hy⟩ : ∃ y, y = x + 1 := ⟨_, rfl⟩
      rw [← hy]
      obtain ⟨W4, hW4⟩ : ∃ X, X = (W.alloc (.cells #[.int .i64 1, .int .i64 kind, .int .i64 0, .int .i64 0, .string ⟨#[]⟩, .slice none 0 0, .slice none 0 0] 78)).drew := ⟨_, rfl⟩
      rw [← hW4]
      have hB4 : Below W.heap.size W W4 := by rw [hW4]; exact ((Below.refl _ _).alloc (Nat.le_refl _) _).drew
      have ky : W4.heap[y]? = some (fldO 1 kind 0 0 ⟨#[]⟩ (.slice none 0 0) (.slice none 0 0)) := by rw [hW4, hy, ← hxl]; exact heap_alloc_new _ _
      have hkg := blk_below HKW.out hB4
      have hgy : g ≠ y := by have := blk_lt HKW.out; omega
      have hxy : x ≠ y := by omega
      have x1 : W4.cell? ⟨x, 1, none⟩ = some (.int .i64 kind) := (hB4.cell (p := ⟨x, 1, none⟩) hxl1).trans x1
      have HG4 : Hid (w.grownBy W4 (some g)) := Lib.hid (grown_over (grown_over HG1.out (below_grows (row := none) HB2.out rfl) (fun j hj => by cases hj)) (below_grows (row := none) hB4 rfl) (fun j hj => by cases hj))
      have HKY := Lib.hid ky
      have HKG := Lib.hid hkg
      have HY := Lib.hid hy
      have HW4 := Lib.hid hW4
      have hyw : w.heap.size ≤ y := by have := HB2.out.size; have := HG1.out.size; have := HX.out; omega
      clear a0 a1 a2 a3 a4 a5 a6 hB4 ky hkg hy hW4 hxl hbl1
      have hc : kind = 0 ∨ kind = 1 ∨ kind = 2 ∨ kind = 3 ∨ kind = 4 ∨ kind = 5 ∨ kind = 6 ∨ kind = 7 ∨ kind = 10 := by have := HK.out; omega
      rcases hc with rfl | rfl | rfl | rfl | rfl | rfl | rfl | rfl | rfl
      · have hl : data.length ≠ 1 := (by have h := HK.out; simp [widthK] at h; omega)
        go_wp2_with fail
        refine (kind110_bad W4 g _ _ _ _ _ _ _ _ _ HKG.out hl).mono ?_
        rintro e w4 ⟨rfl, H4⟩
        have ky5 := blk_grown HKY.out H4.out.2 (by intro he; injection he with he; exact hgy he.symm)
        have y0 : w4.cell? ⟨y, 0, none⟩ = some (.int .i64 1) := blk_cell ky5 0
        have y1 : w4.cell? ⟨y, 1, none⟩ = some (.int .i64 0) := blk_cell ky5 1
        have y2 : w4.cell? ⟨y, 2, none⟩ = some (.int .i64 0) := blk_cell ky5 2
        have y3 : w4.cell? ⟨y, 3, none⟩ = some (.int .i64 0) := blk_cell ky5 3
        have y4 : w4.cell? ⟨y, 4, none⟩ = some (.string ⟨#[]⟩) := blk_cell ky5 4
        have y5 : w4.cell? ⟨y, 5, none⟩ = some (.slice none 0 0) := blk_cell ky5 5
        have y6 : w4.cell? ⟨y, 6, none⟩ = some (.slice none 0 0) := blk_cell ky5 6
        have yf : w4.frozen? ⟨y, 3, none⟩ = false := blk_frozen ky5 3
        have hg5 : w.grownBy (w4.setCell ⟨y, 3, none⟩ (.int .i64 0)) (some g) := grown_put (gap HG4.out H4.out.2) hyw _
        have he5 : DecErr (w4.setCell ⟨y, 3, none⟩ (.int .i64 0)) g := DecErr.far H4.out.1 hgy _
        have HP5 : Hid ((elF 1).E (fun k => True ∧ some k ≠ (Value.slice none 0 0).ownBlock) (w4.setCell ⟨y, 3, none⟩ (.int .i64 0)) ⟨1, 0, 0, 0, ⟨#[]⟩, [], []⟩ [.int .i64 1, .int .i64 0, .int .i64 0, .int .i64 0, .string ⟨#[]⟩, .slice none 0 0, .slice none 0 0]) := Lib.hid ⟨_, _, rfl, Sl.nil _ _, El.Rd.nil _ _ _⟩
        have HON := Lib.hid (ow_nil 1 (w4.setCell ⟨y, 3, none⟩ (.int .i64 0)) w4.heap.size)
        have HSZ : Hid ((w4.setCell ⟨y, 3, none⟩ (.int .i64 0)).heap.size = w4.heap.size) := Lib.hid (by simp [World.setCell])
        have HG5 := Lib.hid hg5
        have HE5 := Lib.hid he5
        clear ky5 hg5 he5 H4 HK HG4 HKY HKG
        go_wp2_with (at_builtin; go_must (refine El.Ow.append (elF 1) (W := w4.setCell ⟨y, 3, none⟩ (.int .i64 0)) w4.heap.size rfl (.tmp 102) (.tmp 104) 22 78 _ 96 rfl Try.underlying22 info78 rfl (by decide) (by decide) (.slice none 0 0) [] ⟨1, 0, 0, 0, ⟨#[]⟩, [], []⟩ [.int .i64 1, .int .i64 0, .int .i64 0, .int .i64 0, .string ⟨#[]⟩, .slice none 0 0, .slice none 0 0] rfl w4.heap.size HSZ.out rfl HP5.out HON.out (Nat.le_of_eq HSZ.out.symm) (fun _ _ => trivial) (by simp) ?_); intro v1 w6 hO6 hg6 hat6; have HO6 := Lib.hid hO6; have HR6 := Lib.hid (after hg6 HG5.out HE5.out); clear hO6 hg6 hat6)
        obtain ⟨A6, c6, hv6, _⟩ := HO6.out.slice_
        have hv7 : v1 = .slice A6 1 c6 := hv6
        subst hv7
        go_roundw
        case rel => exact .inr ⟨A6, c6, rfl, HR6⟩
        case measure => simp [lenV]
      · have hl : data.length ≠ 2 := (by have h := HK.out; simp [widthK] at h; omega)
        go_wp2_with fail
        refine (kind111_bad W4 g _ _ _ _ _ _ _ _ _ HKG.out hl).mono ?_
        rintro e w4 ⟨rfl, H4⟩
        have ky5 := blk_grown HKY.out H4.out.2 (by intro he; injection he with he; exact hgy he.symm)
        have y0 : w4.cell? ⟨y, 0, none⟩ = some (.int .i64 1) := blk_cell ky5 0
        have y1 : w4.cell? ⟨y, 1, none⟩ = some (.int .i64 1) := blk_cell ky5 1
        have y2 : w4.cell? ⟨y, 2, none⟩ = some (.int .i64 0) := blk_cell ky5 2
        have y3 : w4.cell? ⟨y, 3, none⟩ = some (.int .i64 0) := blk_cell ky5 3
        have y4 : w4.cell? ⟨y, 4, none⟩ = some (.string ⟨#[]⟩) := blk_cell ky5 4
        have y5 : w4.cell? ⟨y, 5, none⟩ = some (.slice none 0 0) := blk_cell ky5 5
        have y6 : w4.cell? ⟨y, 6, none⟩ = some (.slice none 0 0) := blk_cell ky5 6
        have yf : w4.frozen? ⟨y, 3, none⟩ = false := blk_frozen ky5 3
        have hg5 : w.grownBy (w4.setCell ⟨y, 3, none⟩ (.int .i64 0)) (some g) := grown_put (gap HG4.out H4.out.2) hyw _
        have he5 : DecErr (w4.setCell ⟨y, 3, none⟩ (.int .i64 0)) g := DecErr.far H4.out.1 hgy _
        have HP5 : Hid ((elF 1).E (fun k => True ∧ some k ≠ (Value.slice none 0 0).ownBlock) (w4.setCell ⟨y, 3, none⟩ (.int .i64 0)) ⟨1, 1, 0, 0, ⟨#[]⟩, [], []⟩ [.int .i64 1, .int .i64 1, .int .i64 0, .int .i64 0, .string ⟨#[]⟩, .slice none 0 0, .slice none 0 0]) := Lib.hid ⟨_, _, rfl, Sl.nil _ _, El.Rd.nil _ _ _⟩
        have HON := Lib.hid (ow_nil 1 (w4.setCell ⟨y, 3, none⟩ (.int .i64 0)) w4.heap.size)
        have HSZ : Hid ((w4.setCell ⟨y, 3, none⟩ (.int .i64 0)).heap.size = w4.heap.size) := Lib.hid (by simp [World.setCell])
        have HG5 := Lib.hid hg5
        have HE5 := Lib.hid he5
        clear ky5 hg5 he5 H4 HK HG4 HKY HKG
        go_wp2_with (at_builtin; go_must (refine El.Ow.append (elF 1) (W := w4.setCell ⟨y, 3, none⟩ (.int .i64 0)) w4.heap.size rfl (.tmp 102) (.tmp 104) 22 78 _ 96 rfl Try.underlying22 info78 rfl (by decide) (by decide) (.slice none 0 0) [] ⟨1, 1, 0, 0, ⟨#[]⟩, [], []⟩ [.int .i64 1, .int .i64 1, .int .i64 0, .int .i64 0, .string ⟨#[]⟩, .slice none 0 0, .slice none 0 0] rfl w4.heap.size HSZ.out rfl HP5.out HON.out (Nat.le_of_eq HSZ.out.symm) (fun _ _ => trivial) (by simp) ?_); intro v1 w6 hO6 hg6 hat6; have HO6 := Lib.hid hO6; have HR6 := Lib.hid (after hg6 HG5.out HE5.out); clear hO6 hg6 hat6)
        obtain ⟨A6, c6, hv6, _⟩ := HO6.out.slice_
        have hv7 : v1 = .slice A6 1 c6 := hv6
        subst hv7
        go_roundw
        case rel => exact .inr ⟨A6, c6, rfl, HR6⟩
        case measure => simp [lenV]
      · have hl : data.length ≠ 4 := (by have h := HK.out; simp [widthK] at h; omega)
        go_wp2_with fail
        refine (kind112_bad W4 g _ _ _ _ _ _ _ _ _ HKG.out hl).mono ?_
        rintro e w4 ⟨rfl, H4⟩
        have ky5 := blk_grown HKY.out H4.out.2 (by intro he; injection he with he; exact hgy he.symm)
        have y0 : w4.cell? ⟨y, 0, none⟩ = some (.int .i64 1) := blk_cell ky5 0
        have y1 : w4.cell? ⟨y, 1, none⟩ = some (.int .i64 2) := blk_cell ky5 1
        have y2 : w4.cell? ⟨y, 2, none⟩ = some (.int .i64 0) := blk_cell ky5 2
        have y3 : w4.cell? ⟨y, 3, none⟩ = some (.int .i64 0) := blk_cell ky5 3
        have y4 : w4.cell? ⟨y, 4, none⟩ = some (.string ⟨#[]⟩) := blk_cell ky5 4
        have y5 : w4.cell? ⟨y, 5, none⟩ = some (.slice none 0 0) := blk_cell ky5 5
        have y6 : w4.cell? ⟨y, 6, none⟩ = some (.slice none 0 0) := blk_cell ky5 6
        have yf : w4.frozen? ⟨y, 3, none⟩ = false := blk_frozen ky5 3
        have hg5 : w.grownBy (w4.setCell ⟨y, 3, none⟩ (.int .i64 0)) (some g) := grown_put (gap HG4.out H4.out.2) hyw _
        have he5 : DecErr (w4.setCell ⟨y, 3, none⟩ (.int .i64 0)) g := DecErr.far H4.out.1 hgy _
        have HP5 : Hid ((elF 1).E (fun k => True ∧ some k ≠ (Value.slice none 0 0).ownBlock) (w4.setCell ⟨y, 3, none⟩ (.int .i64 0)) ⟨1, 2, 0, 0, ⟨#[]⟩, [], []⟩ [.int .i64 1, .int .i64 2, .int .i64 0, .int .i64 0, .string ⟨#[]⟩, .slice none 0 0, .slice none 0 0]) := Lib.hid ⟨_, _, rfl, Sl.nil _ _, El.Rd.nil _ _ _⟩
        have HON := Lib.hid (ow_nil 1 (w4.setCell ⟨y, 3, none⟩ (.int .i64 0)) w4.heap.size)
        have HSZ : Hid ((w4.setCell ⟨y, 3, none⟩ (.int .i64 0)).heap.size = w4.heap.size) := Lib.hid (by simp [World.setCell])
        have HG5 := Lib.hid hg5
        have HE5 := Lib.hid he5
        clear ky5 hg5 he5 H4 HK HG4 HKY HKG
        go_wp2_with (at_builtin; go_must (refine El.Ow.append (elF 1) (W := w4.setCell ⟨y, 3, none⟩ (.int .i64 0)) w4.heap.size rfl (.tmp 102) (.tmp 104) 22 78 _ 96 rfl Try.underlying22 info78 rfl (by decide) (by decide) (.slice none 0 0) [] ⟨1, 2, 0, 0, ⟨#[]⟩, [], []⟩ [.int .i64 1, .int .i64 2, .int .i64 0, .int .i64 0, .string ⟨#[]⟩, .slice none 0 0, .slice none 0 0] rfl w4.heap.size HSZ.out rfl HP5.out HON.out (Nat.le_of_eq HSZ.out.symm) (fun _ _ => trivial) (by simp) ?_); intro v1 w6 hO6 hg6 hat6; have HO6 := Lib.hid hO6; have HR6 := Lib.hid (after hg6 HG5.out HE5.out); clear hO6 hg6 hat6)
        obtain ⟨A6, c6, hv6, _⟩ := HO6.out.slice_
        have hv7 : v1 = .slice A6 1 c6 := hv6
        subst hv7
        go_roundw
        case rel => exact .inr ⟨A6, c6, rfl, HR6⟩
        case measure => simp [lenV]
      · have hl : data.length ≠ 8 := (by have h := HK.out; simp [widthK] at h; omega)
        go_wp2_with fail
        refine (kind113_bad W4 g _ _ _ _ _ _ _ _ _ HKG.out hl).mono ?_
        rintro e w4 ⟨rfl, H4⟩
        have ky5 := blk_grown HKY.out H4.out.2 (by intro he; injection he with he; exact hgy he.symm)
        have y0 : w4.cell? ⟨y, 0, none⟩ = some (.int .i64 1) := blk_cell ky5 0
        have y1 : w4.cell? ⟨y, 1, none⟩ = some (.int .i64 3) := blk_cell ky5 1
        have y2 : w4.cell? ⟨y, 2, none⟩ = some (.int .i64 0) := blk_cell ky5 2
        have y3 : w4.cell? ⟨y, 3, none⟩ = some (.int .i64 0) := blk_cell ky5 3
        have y4 : w4.cell? ⟨y, 4, none⟩ = some (.string ⟨#[]⟩) := blk_cell ky5 4
        have y5 : w4.cell? ⟨y, 5, none⟩ = some (.slice none 0 0) := blk_cell ky5 5
        have y6 : w4.cell? ⟨y, 6, none⟩ = some (.slice none 0 0) := blk_cell ky5 6
        have yf : w4.frozen? ⟨y, 3, none⟩ = false := blk_frozen ky5 3
        have hg5 : w.grownBy (w4.setCell ⟨y, 3, none⟩ (.int .i64 0)) (some g) := grown_put (gap HG4.out H4.out.2) hyw _
        have he5 : DecErr (w4.setCell ⟨y, 3, none⟩ (.int .i64 0)) g := DecErr.far H4.out.1 hgy _
        have HP5 : Hid ((elF 1).E (fun k => True ∧ some k ≠ (Value.slice none 0 0).ownBlock) (w4.setCell ⟨y, 3, none⟩ (.int .i64 0)) ⟨1, 3, 0, 0, ⟨#[]⟩, [], []⟩ [.int .i64 1, .int .i64 3, .int .i64 0, .int .i64 0, .string ⟨#[]⟩, .slice none 0 0, .slice none 0 0]) := Lib.hid ⟨_, _, rfl, Sl.nil _ _, El.Rd.nil _ _ _⟩
        have HON := Lib.hid (ow_nil 1 (w4.setCell ⟨y, 3, none⟩ (.int .i64 0)) w4.heap.size)
        have HSZ : Hid ((w4.setCell ⟨y, 3, none⟩ (.int .i64 0)).heap.size = w4.heap.size) := Lib.hid (by simp [World.setCell])
        have HG5 := Lib.hid hg5
        have HE5 := Lib.hid he5
        clear ky5 hg5 he5 H4 HK HG4 HKY HKG
        go_wp2_with (at_builtin; go_must (refine El.Ow.append (elF 1) (W := w4.setCell ⟨y, 3, none⟩ (.int .i64 0)) w4.heap.size rfl (.tmp 102) (.tmp 104) 22 78 _ 96 rfl Try.underlying22 info78 rfl (by decide) (by decide) (.slice none 0 0) [] ⟨1, 3, 0, 0, ⟨#[]⟩, [], []⟩ [.int .i64 1, .int .i64 3, .int .i64 0, .int .i64 0, .string ⟨#[]⟩, .slice none 0 0, .slice none 0 0] rfl w4.heap.size HSZ.out rfl HP5.out HON.out (Nat.le_of_eq HSZ.out.symm) (fun _ _ => trivial) (by simp) ?_); intro v1 w6 hO6 hg6 hat6; have HO6 := Lib.hid hO6; have HR6 := Lib.hid (after hg6 HG5.out HE5.out); clear hO6 hg6 hat6)
        obtain ⟨A6, c6, hv6, _⟩ := HO6.out.slice_
        have hv7 : v1 = .slice A6 1 c6 := hv6
        subst hv7
        go_roundw
        case rel => exact .inr ⟨A6, c6, rfl, HR6⟩
        case measure => simp [lenV]
      · have hl : data.length ≠ 1 := (by have h := HK.out; simp [widthK] at h; omega)
        go_wp2_with fail
        refine (kind114_bad W4 g _ _ _ _ _ _ _ _ _ HKG.out hl).mono ?_
        rintro e w4 ⟨rfl, H4⟩
        have ky5 := blk_grown HKY.out H4.out.2 (by intro he; injection he with he; exact hgy he.symm)
        have y0 : w4.cell? ⟨y, 0, none⟩ = some (.int .i64 1) := blk_cell ky5 0
        have y1 : w4.cell? ⟨y, 1, none⟩ = some (.int .i64 4) := blk_cell ky5 1
        have y2 : w4.cell? ⟨y, 2, none⟩ = some (.int .i64 0) := blk_cell ky5 2
        have y3 : w4.cell? ⟨y, 3, none⟩ = some (.int .i64 0) := blk_cell ky5 3
        have y4 : w4.cell? ⟨y, 4, none⟩ = some (.string ⟨#[]⟩) := blk_cell ky5 4
        have y5 : w4.cell? ⟨y, 5, none⟩ = some (.slice none 0 0) := blk_cell ky5 5
        have y6 : w4.cell? ⟨y, 6, none⟩ = some (.slice none 0 0) := blk_cell ky5 6
        have yf : w4.frozen? ⟨y, 3, none⟩ = false := blk_frozen ky5 3
        have hg5 : w.grownBy (w4.setCell ⟨y, 3, none⟩ (.int .i64 0)) (some g) := grown_put (gap HG4.out H4.out.2) hyw _
        have he5 : DecErr (w4.setCell ⟨y, 3, none⟩ (.int .i64 0)) g := DecErr.far H4.out.1 hgy _
        have HP5 : Hid ((elF 1).E (fun k => True ∧ some k ≠ (Value.slice none 0 0).ownBlock) (w4.setCell ⟨y, 3, none⟩ (.int .i64 0)) ⟨1, 4, 0, 0, ⟨#[]⟩, [], []⟩ [.int .i64 1, .int .i64 4, .int .i64 0, .int .i64 0, .string ⟨#[]⟩, .slice none 0 0, .slice none 0 0]) := Lib.hid ⟨_, _, rfl, Sl.nil _ _, El.Rd.nil _ _ _⟩
        have HON := Lib.hid (ow_nil 1 (w4.setCell ⟨y, 3, none⟩ (.int .i64 0)) w4.heap.size)
        have HSZ : Hid ((w4.setCell ⟨y, 3, none⟩ (.int .i64 0)).heap.size = w4.heap.size) := Lib.hid (by simp [World.setCell])
        have HG5 := Lib.hid hg5
        have HE5 := Lib.hid he5
        clear ky5 hg5 he5 H4 HK HG4 HKY HKG
        go_wp2_with (at_builtin; go_must (refine El.Ow.append (elF 1) (W := w4.setCell ⟨y, 3, none⟩ (.int .i64 0)) w4.heap.size rfl (.tmp 102) (.tmp 104) 22 78 _ 96 rfl Try.underlying22 info78 rfl (by decide) (by decide) (.slice none 0 0) [] ⟨1, 4, 0, 0, ⟨#[]⟩, [], []⟩ [.int .i64 1, .int .i64 4, .int .i64 0, .int .i64 0, .string ⟨#[]⟩, .slice none 0 0, .slice none 0 0] rfl w4.heap.size HSZ.out rfl HP5.out HON.out (Nat.le_of_eq HSZ.out.symm) (fun _ _ => trivial) (by simp) ?_); intro v1 w6 hO6 hg6 hat6; have HO6 := Lib.hid hO6; have HR6 := Lib.hid (after hg6 HG5.out HE5.out); clear hO6 hg6 hat6)
        obtain ⟨A6, c6, hv6, _⟩ := HO6.out.slice_
        have hv7 : v1 = .slice A6 1 c6 := hv6
        subst hv7
        go_roundw
        case rel => exact .inr ⟨A6, c6, rfl, HR6⟩
        case measure => simp [lenV]
      · have hl : data.length ≠ 2 := (by have h := HK.out; simp [widthK] at h; omega)
        go_wp2_with fail
        refine (kind115_bad W4 g _ _ _ _ _ _ _ _ _ HKG.out hl).mono ?_
        rintro e w4 ⟨rfl, H4⟩
        have ky5 := blk_grown HKY.out H4.out.2 (by intro he; injection he with he; exact hgy he.symm)
        have y0 : w4.cell? ⟨y, 0, none⟩ = some (.int .i64 1) := blk_cell ky5 0
        have y1 : w4.cell? ⟨y, 1, none⟩ = some (.int .i64 5) := blk_cell ky5 1
        have y2 : w4.cell? ⟨y, 2, none⟩ = some (.int .i64 0) := blk_cell ky5 2
        have y3 : w4.cell? ⟨y, 3, none⟩ = some (.int .i64 0) := blk_cell ky5 3
        have y4 : w4.cell? ⟨y, 4, none⟩ = some (.string ⟨#[]⟩) := blk_cell ky5 4
        have y5 : w4.cell? ⟨y, 5, none⟩ = some (.slice none 0 0) := blk_cell ky5 5
        have y6 : w4.cell? ⟨y, 6, none⟩ = some (.slice none 0 0) := blk_cell ky5 6
        have yf : w4.frozen? ⟨y, 3, none⟩ = false := blk_frozen ky5 3
        have hg5 : w.grownBy (w4.setCell ⟨y, 3, none⟩ (.int .i64 0)) (some g) := grown_put (gap HG4.out H4.out.2) hyw _
        have he5 : DecErr (w4.setCell ⟨y, 3, none⟩ (.int .i64 0)) g := DecErr.far H4.out.1 hgy _
        have HP5 : Hid ((elF 1).E (fun k => True ∧ some k ≠ (Value.slice none 0 0).ownBlock) (w4.setCell ⟨y, 3, none⟩ (.int .i64 0)) ⟨1, 5, 0, 0, ⟨#[]⟩, [], []⟩ [.int .i64 1, .int .i64 5, .int .i64 0, .int .i64 0, .string ⟨#[]⟩, .slice none 0 0, .slice none 0 0]) := Lib.hid ⟨_, _, rfl, Sl.nil _ _, El.Rd.nil _ _ _⟩
        have HON := Lib.hid (ow_nil 1 (w4.setCell ⟨y, 3, none⟩ (.int .i64 0)) w4.heap.size)
        have HSZ : Hid ((w4.setCell ⟨y, 3, none⟩ (.int .i64 0)).heap.size = w4.heap.size) := Lib.hid (by simp [World.setCell])
        have HG5 := Lib.hid hg5
        have HE5 := Lib.hid he5
        clear ky5 hg5 he5 H4 HK HG4 HKY HKG
        go_wp2_with (at_builtin; go_must (refine El.Ow.append (elF 1) (W := w4.setCell ⟨y, 3, none⟩ (.int .i64 0)) w4.heap.size rfl (.tmp 102) (.tmp 104) 22 78 _ 96 rfl Try.underlying22 info78 rfl (by decide) (by decide) (.slice none 0 0) [] ⟨1, 5, 0, 0, ⟨#[]⟩, [], []⟩ [.int .i64 1, .int .i64 5, .int .i64 0, .int .i64 0, .string ⟨#[]⟩, .slice none 0 0, .slice none 0 0] rfl w4.heap.size HSZ.out rfl HP5.out HON.out (Nat.le_of_eq HSZ.out.symm) (fun _ _ => trivial) (by simp) ?_); intro v1 w6 hO6 hg6 hat6; have HO6 := Lib.hid hO6; have HR6 := Lib.hid (after hg6 HG5.out HE5.out); clear hO6 hg6 hat6)
        obtain ⟨A6, c6, hv6, _⟩ := HO6.out.slice_
        have hv7 : v1 = .slice A6 1 c6 := hv6
        subst hv7
        go_roundw
        case rel => exact .inr ⟨A6, c6, rfl, HR6⟩
        case measure => simp [lenV]
      · have hl : data.length ≠ 4 := (by have h := HK.out; simp [widthK] at h; omega)
        go_wp2_with fail
        refine (kind116_bad W4 g _ _ _ _ _ _ _ _ _ HKG.out hl).mono ?_
        rintro e w4 ⟨rfl, H4⟩
        have ky5 := blk_grown HKY.out H4.out.2 (by intro he; injection he with he; exact hgy he.symm)
        have y0 : w4.cell? ⟨y, 0, none⟩ = some (.int .i64 1) := blk_cell ky5 0
        have y1 : w4.cell? ⟨y, 1, none⟩ = some (.int .i64 6) := blk_cell ky5 1
        have y2 : w4.cell? ⟨y, 2, none⟩ = some (.int .i64 0) := blk_cell ky5 2
        have y3 : w4.cell? ⟨y, 3, none⟩ = some (.int .i64 0) := blk_cell ky5 3
        have y4 : w4.cell? ⟨y, 4, none⟩ = some (.string ⟨#[]⟩) := blk_cell ky5 4
        have y5 : w4.cell? ⟨y, 5, none⟩ = some (.slice none 0 0) := blk_cell ky5 5
        have y6 : w4.cell? ⟨y, 6, none⟩ = some (.slice none 0 0) := blk_cell ky5 6
        have yf : w4.frozen? ⟨y, 3, none⟩ = false := blk_frozen ky5 3
        have hg5 : w.grownBy (w4.setCell ⟨y, 3, none⟩ (.int .i64 0)) (some g) := grown_put (gap HG4.out H4.out.2) hyw _
        have he5 : DecErr (w4.setCell ⟨y, 3, none⟩ (.int .i64 0)) g := DecErr.far H4.out.1 hgy _
        have HP5 : Hid ((elF 1).E (fun k => True ∧ some k ≠ (Value.slice none 0 0).ownBlock) (w4.setCell ⟨y, 3, none⟩ (.int .i64 0)) ⟨1, 6, 0, 0, ⟨#[]⟩, [], []⟩ [.int .i64 1, .int .i64 6, .int .i64 0, .int .i64 0, .string ⟨#[]⟩, .slice none 0 0, .slice none 0 0]) := Lib.hid ⟨_, _, rfl, Sl.nil _ _, El.Rd.nil _ _ _⟩
        have HON := Lib.hid (ow_nil 1 (w4.setCell ⟨y, 3, none⟩ (.int .i64 0)) w4.heap.size)
        have HSZ : Hid ((w4.setCell ⟨y, 3, none⟩ (.int .i64 0)).heap.size = w4.heap.size) := Lib.hid (by simp [World.setCell])
        have HG5 := Lib.hid hg5
        have HE5 := Lib.hid he5
        clear ky5 hg5 he5 H4 HK HG4 HKY HKG
        go_wp2_with (at_builtin; go_must (refine El.Ow.append (elF 1) (W := w4.setCell ⟨y, 3, none⟩ (.int .i64 0)) w4.heap.size rfl (.tmp 102) (.tmp 104) 22 78 _ 96 rfl Try.underlying22 info78 rfl (by decide) (by decide) (.slice none 0 0) [] ⟨1, 6, 0, 0, ⟨#[]⟩, [], []⟩ [.int .i64 1, .int .i64 6, .int .i64 0, .int .i64 0, .string ⟨#[]⟩, .slice none 0 0, .slice none 0 0] rfl w4.heap.size HSZ.out rfl HP5.out HON.out (Nat.le_of_eq HSZ.out.symm) (fun _ _ => trivial) (by simp) ?_); intro v1 w6 hO6 hg6 hat6; have HO6 := Lib.hid hO6; have HR6 := Lib.hid (after hg6 HG5.out HE5.out); clear hO6 hg6 hat6)
        obtain ⟨A6, c6, hv6, _⟩ := HO6.out.slice_
        have hv7 : v1 = .slice A6 1 c6 := hv6
        subst hv7
        go_roundw
        case rel => exact .inr ⟨A6, c6, rfl, HR6⟩
        case measure => simp [lenV]
      · have hl : data.length ≠ 8 := (by have h := HK.out; simp [widthK] at h; omega)
        go_wp2_with fail
        refine (kind117_bad W4 g _ _ _ _ _ _ _ _ _ HKG.out hl).mono ?_
        rintro e w4 ⟨rfl, H4⟩
        have ky5 := blk_grown HKY.out H4.out.2 (by intro he; injection he with he; exact hgy he.symm)
        have y0 : w4.cell? ⟨y, 0, none⟩ = some (.int .i64 1) := blk_cell ky5 0
        have y1 : w4.cell? ⟨y, 1, none⟩ = some (.int .i64 7) := blk_cell ky5 1
        have y2 : w4.cell? ⟨y, 2, none⟩ = some (.int .i64 0) := blk_cell ky5 2
        have y3 : w4.cell? ⟨y, 3, none⟩ = some (.int .i64 0) := blk_cell ky5 3
        have y4 : w4.cell? ⟨y, 4, none⟩ = some (.string ⟨#[]⟩) := blk_cell ky5 4
        have y5 : w4.cell? ⟨y, 5, none⟩ = some (.slice none 0 0) := blk_cell ky5 5
        have y6 : w4.cell? ⟨y, 6, none⟩ = some (.slice none 0 0) := blk_cell ky5 6
        have yf : w4.frozen? ⟨y, 3, none⟩ = false := blk_frozen ky5 3
        have hg5 : w.grownBy (w4.setCell ⟨y, 3, none⟩ (.int .i64 0)) (some g) := grown_put (gap HG4.out H4.out.2) hyw _
        have he5 : DecErr (w4.setCell ⟨y, 3, none⟩ (.int .i64 0)) g := DecErr.far H4.out.1 hgy _
        have HP5 : Hid ((elF 1).E (fun k => True ∧ some k ≠ (Value.slice none 0 0).ownBlock) (w4.setCell ⟨y, 3, none⟩ (.int .i64 0)) ⟨1, 7, 0, 0, ⟨#[]⟩, [], []⟩ [.int .i64 1, .int .i64 7, .int .i64 0, .int .i64 0, .string ⟨#[]⟩, .slice none 0 0, .slice none 0 0]) := Lib.hid ⟨_, _, rfl, Sl.nil _ _, El.Rd.nil _ _ _⟩
        have HON := Lib.hid (ow_nil 1 (w4.setCell ⟨y, 3, none⟩ (.int .i64 0)) w4.heap.size)
        have HSZ : Hid ((w4.setCell ⟨y, 3, none⟩ (.int .i64 0)).heap.size = w4.heap.size) := Lib.hid (by simp [World.setCell])
        have HG5 := Lib.hid hg5
        have HE5 := Lib.hid he5
        clear ky5 hg5 he5 H4 HK HG4 HKY HKG
        go_wp2_with (at_builtin; go_must (refine El.Ow.append (elF 1) (W := w4.setCell ⟨y, 3, none⟩ (.int .i64 0)) w4.heap.size rfl (.tmp 102) (.tmp 104) 22 78 _ 96 rfl Try.underlying22 info78 rfl (by decide) (by decide) (.slice none 0 0) [] ⟨1, 7, 0, 0, ⟨#[]⟩, [], []⟩ [.int .i64 1, .int .i64 7, .int .i64 0, .int .i64 0, .string ⟨#[]⟩, .slice none 0 0, .slice none 0 0] rfl w4.heap.size HSZ.out rfl HP5.out HON.out (Nat.le_of_eq HSZ.out.symm) (fun _ _ => trivial) (by simp) ?_); intro v1 w6 hO6 hg6 hat6; have HO6 := Lib.hid hO6; have HR6 := Lib.hid (after hg6 HG5.out HE5.out); clear hO6 hg6 hat6)
        obtain ⟨A6, c6, hv6, _⟩ := HO6.out.slice_
        have hv7 : v1 = .slice A6 1 c6 := hv6
        subst hv7
        go_roundw
        case rel => exact .inr ⟨A6, c6, rfl, HR6⟩
        case measure => simp [lenV]
      · have hl : data.length ≠ 0 := (by rcases HK.out with h | h <;> omega)
        go_wp2_with fail
        refine (kind120_bad W4 g _ _ _ _ _ _ _ _ _ HKG.out hl).mono ?_
        rintro e w4 ⟨rfl, H4⟩
        have ky5 := blk_grown HKY.out H4.out.2 (by intro he; injection he with he; exact hgy he.symm)
        have y0 : w4.cell? ⟨y, 0, none⟩ = some (.int .i64 1) := blk_cell ky5 0
        have y1 : w4.cell? ⟨y, 1, none⟩ = some (.int .i64 10) := blk_cell ky5 1
        have y2 : w4.cell? ⟨y, 2, none⟩ = some (.int .i64 0) := blk_cell ky5 2
        have y3 : w4.cell? ⟨y, 3, none⟩ = some (.int .i64 0) := blk_cell ky5 3
        have y4 : w4.cell? ⟨y, 4, none⟩ = some (.string ⟨#[]⟩) := blk_cell ky5 4
        have y5 : w4.cell? ⟨y, 5, none⟩ = some (.slice none 0 0) := blk_cell ky5 5
        have y6 : w4.cell? ⟨y, 6, none⟩ = some (.slice none 0 0) := blk_cell ky5 6
        have yf : w4.frozen? ⟨y, 3, none⟩ = false := blk_frozen ky5 3
        have hg5 : w.grownBy (w4) (some g) := gap HG4.out H4.out.2
        have he5 : DecErr (w4) g := H4.out.1
        have HP5 : Hid ((elF 1).E (fun k => True ∧ some k ≠ (Value.slice none 0 0).ownBlock) (w4) ⟨1, 10, 0, 0, ⟨#[]⟩, [], []⟩ [.int .i64 1, .int .i64 10, .int .i64 0, .int .i64 0, .string ⟨#[]⟩, .slice none 0 0, .slice none 0 0]) := Lib.hid ⟨_, _, rfl, Sl.nil _ _, El.Rd.nil _ _ _⟩
        have HON := Lib.hid (ow_nil 1 (w4) w4.heap.size)
        have HG5 := Lib.hid hg5
        have HE5 := Lib.hid he5
        clear ky5 hg5 he5 H4 HK HG4 HKY HKG
        go_wp2_with (at_builtin; go_must (refine El.Ow.append (elF 1) (W := w4) w4.heap.size rfl (.tmp 102) (.tmp 104) 22 78 _ 96 rfl Try.underlying22 info78 rfl (by decide) (by decide) (.slice none 0 0) [] ⟨1, 10, 0, 0, ⟨#[]⟩, [], []⟩ [.int .i64 1, .int .i64 10, .int .i64 0, .int .i64 0, .string ⟨#[]⟩, .slice none 0 0, .slice none 0 0] rfl w4.heap.size rfl rfl HP5.out HON.out (Nat.le_refl _) (fun _ _ => trivial) (by simp) ?_); intro v1 w6 hO6 hg6 hat6; have HO6 := Lib.hid hO6; have HR6 := Lib.hid (after hg6 HG5.out HE5.out); clear hO6 hg6 hat6)
        obtain ⟨A6, c6, hv6, _⟩ := HO6.out.slice_
        have hv7 : v1 = .slice A6 1 c6 := hv6
        subst hv7
        go_roundw
        case rel => exact .inr ⟨A6, c6, rfl, HR6⟩
        case measure => simp [lenV]
    · obtain ⟨A, c0, rfl, HL⟩ := HL
      obtain ⟨o1, L, T, dv, bv1, i, n, ty, yv, he⟩ := HL.out.2
      have HEE := Lib.hid he
      clear he
      go_wp2_with fail
      refine (next104_err _ g _ _ _ _ _ _ _ _ _ HEE.out).mono ?_
      rintro e w1 ⟨rfl, rfl⟩
      go_wp2_with fail
      refine (err105_some _ g _ _ _ _ _ _ _ _ _ HEE.out).mono ?_
      rintro e w1 ⟨rfl, rfl⟩
      go_wp2_with fail
      go_ret2
      exact ⟨_, _, _, _, rfl, Lib.hid HL.out.1⟩
end Go.Proofs.Ytgijhgonpgidiaa
