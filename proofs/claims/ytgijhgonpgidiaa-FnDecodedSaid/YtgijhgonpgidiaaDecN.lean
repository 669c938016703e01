/-
  Fields read within fields: the closures of the decoder. No statement of the seat is proved here.
-/
import Derived.Test.YtgijhgonpgidiaaDecX
import Derived.Test.YtgijhgonpgidiaaTrim
import Derived.Test.YtgijhgonpgidiaaShp
import Derived.Test.YtgijhgonpgidiaaNx2
import Derived.Deep.DeepCutAuto
namespace Go.Proofs.Ytgijhgonpgidiaa
open Go.RowKit Go.Proofs.YtgijhgonpgidiaaW.PrintWords

/-- The fields that are read, so deep. -/
def gotF : Nat → List Fld → List Fld
  | 0, _ => []
  | d + 1, fs => (fs.filter isKept).map fun f => { f with fl := if f.kind = 11 then 32768 else 0, kids := gotF d f.kids }
theorem gotF_length (d : Nat) (l : List Fld) : (gotF d l).length ≤ l.length := by
  cases d with
  | zero => simp [gotF]
  | succ d => simp only [gotF, List.length_map]; exact List.length_filter_le _ _
/-- A field that is being filled: by value in its box. -/
def fldV (t k f n : Int) (text : ByteArray) (dv kv : Value) : Obj := .cells #[.int .i64 t, .int .i64 k, .int .i64 f, .int .i64 n, .string text, dv, kv] 78
theorem fldV_n {w : World} {z : Nat} {t k f n : Int} {text : ByteArray} {dv kv : Value} (h : w.heap[z]? = some (fldV t k f n text dv kv)) (n' : Int) : (w.setCell ⟨z, 3, none⟩ (.int .i64 n')).heap[z]? = some (fldV t k f n' text dv kv) := by
  have := blk_set h 3 (.int .i64 n')
  simpa [fldV] using this
theorem fldV_text {w : World} {z : Nat} {t k f n : Int} {text : ByteArray} {dv kv : Value} (h : w.heap[z]? = some (fldV t k f n text dv kv)) (text' : ByteArray) : (w.setCell ⟨z, 4, none⟩ (.string text')).heap[z]? = some (fldV t k f n text' dv kv) := by
  have := blk_set h 4 (.string text')
  simpa [fldV] using this
theorem fldV_data {w : World} {z : Nat} {t k f n : Int} {text : ByteArray} {dv kv : Value} (h : w.heap[z]? = some (fldV t k f n text dv kv)) (dv' : Value) : (w.setCell ⟨z, 5, none⟩ dv').heap[z]? = some (fldV t k f n text dv' kv) := by
  have := blk_set h 5 dv'
  simpa [fldV] using this
theorem fldV_kids {w : World} {z : Nat} {t k f n : Int} {text : ByteArray} {dv kv : Value} (h : w.heap[z]? = some (fldV t k f n text dv kv)) (kv' : Value) : (w.setCell ⟨z, 6, none⟩ kv').heap[z]? = some (fldV t k f n text dv kv') := by
  have := blk_set h 6 kv'
  simpa [fldV] using this

set_option maxRecDepth 100000 in
set_option maxHeartbeats 1600000 in
theorem bytes119 (w : World) (g : Nat) (o bv e : Value) (A : Option Addr) (c : Nat) (L T i n : Int) (data : List Int) (ok : Nat → Prop) (hG : w.heap[g]? = some (decO o L T (.slice A data.length c) bv i n e)) (hS : Sl ok w (.slice A data.length c) data) (hm : data.length ≤ 140737488355328) :
    Calls Try.prog 119 #[.pointer (some ⟨g, 0, none⟩)] w fun e w' => ∃ A' c', e = .returned (.slice A' data.length c') ∧ Hid (Sl (fun k => w.heap.size ≤ k) w' (.slice A' data.length c') data ∧ Below w.heap.size w w') := by
  have hmk := print_make (P := Try.prog) 28 5 .u8 1 Try.underlying28 info5 (by decide) data.length (by omega)
  obtain ⟨h, hh⟩ : ∃ h, h = w.heap.size := ⟨_, rfl⟩
  obtain ⟨W, hW⟩ : ∃ W, W = w.alloc (.cells (madeCells #[.int .u8 0] data.length) 5) := ⟨_, rfl⟩
  have hB : Below w.heap.size w W := by rw [hW]; exact (Below.refl _ _).alloc (Nat.le_refl _) _
  have hbuf : Buf W h (List.replicate data.length 0) := by rw [hW, hh]; exact Buf.made w data.length
  have HS := Lib.hid (hS.bound.below hB)
  have HBUF := Lib.hid hbuf
  have HW := Lib.hid hW
  have HB := Lib.hid hB
  have HH := Lib.hid hh
  have HX0 : Hid (0 + data.length ≤ (List.replicate data.length (0 : Int)).length) := Lib.hid (by rw [List.length_replicate]; omega)
  clear hS hbuf hW hB
  go_enter Try.func119, Try.ntmps119
  go_wp2_with fail
  refine (data129 w g _ _ _ _ _ _ _ _ _ _ hG).mono ?_
  rintro r w1 ⟨rfl, rfl⟩
  clear hG
  go_upto_region 3 with (fail)
  rw [← HW.out, ← hh]
  clear hh
  go_wp2_with (refine copy_list (dp := some ⟨h, 0, none⟩) (off := 0) (dLen := data.length) (dCap := data.length) HS.out HBUF.out HX0.out (Nat.le_refl _) (fun _ => rfl) rfl (.tmp 10) (.tmp 11) rfl rfl rfl rfl ?_; intro w3 hb3 hg3)
  go_ret
  have h1 := hb3.out
  rw [wr_full _ _ (by rw [List.length_replicate])] at h1
  have hhw := HH.out
  exact ⟨_, _, rfl, Lib.hid ⟨h1.sl (by omega) (by omega), HB.out.grown hg3.out HB.out.size fun j hj => by injection hj with hj; omega⟩⟩

/-- What decode is owed to do, at fields nested at most d deep. -/
def DecSpec (d : Nat) : Prop := ∀ (big : Bool) (w : World) (g : Nat) (bv sv : Value) (N : Int) (fs : List Fld) (okb oks : Nat → Prop),
  w.heap[g]? = some (decO (boV big) 0 0 (.slice none 0 0) bv 0 N .nilIface) → Sl okb w bv (fbytes big d fs) → (∀ k, okb k → k ≠ g) → (elF d).Rd oks w sv (shpF d (keptF d fs)) → (∀ k, oks k → k ≠ g) →
  fs.length ≤ 10 → (∀ x ∈ fs, PR d x) → (∀ x ∈ fs, NR d x) → (fbytes big d fs).length ≤ 65531 →
  Calls Try.prog 78 #[.pointer (some ⟨g, 0, none⟩), sv] w fun e w' => ∃ A c, e = .returned (.tuple #[.slice A (gotF d fs).length c, .nilIface]) ∧ Hid ((elF d).Rd (fun k => w.heap.size ≤ k) w' (.slice A (gotF d fs).length c) (gotF d fs) ∧ w.grownBy w' (some g) ∧ ∃ L T dv i, w'.heap[g]? = some (decO (boV big) L T dv bv i N .nilIface))

theorem PR.ib {big : Bool} {d : Nat} {x : Fld} (hn : IsB x.data) (ih : IsB (fbytes big d x.kids)) : IsB (fattr big (fbytes big d) x).2 := by
  unfold fattr
  repeat' split
  · refine IsB.append (fun y hy => ?_) (fun y hy => ?_)
    · simp only [bytesOf, List.mem_map] at hy
      obtain ⟨b, _, rfl⟩ := hy
      have := b.toNat_lt
      omega
    · simp only [List.mem_cons, List.not_mem_nil, or_false] at hy
      subst hy; omega
  · exact hn
  · exact IsB.nil
  · exact ih
  · exact putO_isB _ _ _
theorem fbytes_ib (big : Bool) (d : Nat) : ∀ {fs : List Fld}, (∀ x ∈ fs, PR d x) → (∀ x ∈ fs, NR d x) → IsB (fbytes big d fs) ∧ ∀ a ∈ fat big d fs, IsB a.2 := by
  induction d with
  | zero => intro fs _ _; exact ⟨by simp [fbytes]; exact IsB.nil, fun a ha => by simp [fat] at ha⟩
  | succ d ih =>
    intro fs hp hn
    have h2 : ∀ a ∈ fat big (d + 1) fs, IsB a.2 := by
      intro a ha
      simp only [fat, List.mem_map, List.mem_filter] at ha
      obtain ⟨x, ⟨hx, _⟩, rfl⟩ := ha
      exact PR.ib (hn x hx).here.2.1 (ih (hp x hx).kid ((hn x hx).kids_ rfl)).1
    refine ⟨?_, h2⟩
    rw [← attrsB_fat]
    exact attrsB_isB h2
theorem heads_of {l : List (Int × List Int)} : Heads l (attrsB l).length := by
  refine ⟨Nat.le_refl _, fun k hk => ?_⟩
  have h := pos_succ (List.getElem?_eq_getElem hk)
  have h2 := pos_le l (k + 1)
  omega

set_option maxRecDepth 100000 in
set_option maxHeartbeats 800000 in
theorem closure122 {d : Nat} (H : DecSpec d) (big : Bool) (w : World) (g x y : Nat) (bv sv : Value) (N : Int) (fs : List Fld) (okb oks : Nat → Prop) (ty kd fl n : Int) (text : ByteArray) (dv kv : Value)
    (hG : w.heap[g]? = some (decO (boV big) 0 0 (.slice none 0 0) bv 0 N .nilIface)) (hS : Sl okb w bv (fbytes big d fs)) (hok : ∀ k, okb k → k ≠ g) (hR : (elF d).Rd oks w sv (shpF d (keptF d fs))) (hoks : ∀ k, oks k → k ≠ g)
    (hl : fs.length ≤ 10) (hP : ∀ x ∈ fs, PR d x) (hN : ∀ x ∈ fs, NR d x) (hT : (fbytes big d fs).length ≤ 65531) (hx : w.cell? ⟨x, 6, none⟩ = some sv) (hy : w.heap[y]? = some (fldV ty kd fl n text dv kv)) (hyg : y ≠ g) :
    Calls Try.prog 122 #[.pointer (some ⟨g, 0, none⟩), .pointer (some ⟨x, 0, none⟩), .pointer (some ⟨y, 0, none⟩)] w fun e w' => e = .returned .nilIface ∧
      Hid (∃ (u : Value) (w2 : World), (elF d).Rd (fun k => w.heap.size ≤ k) w2 u (gotF d fs) ∧ w.grownBy w2 (some g) ∧ (∃ L T dv i, w2.heap[g]? = some (decO (boV big) L T dv bv i N .nilIface)) ∧ w2.heap[y]? = some (fldV ty kd fl n text dv kv) ∧ w' = w2.setCell ⟨y, 6, none⟩ u) := by
  have HC := Lib.hid (H big w g bv sv N fs okb oks hG hS hok hR hoks hl hP hN hT)
  have HY := Lib.hid hy
  obtain ⟨A, c, rfl, _⟩ := hR.form
  clear H hS hR hok hoks hP hN hG hy
  go_enter Try.func122, Try.ntmps122
  go_wp2_with fail
  refine HC.out.mono ?_
  rintro e w2 ⟨A2, c2, rfl, H2⟩
  have hy2 := blk_grown HY.out H2.out.2.1 (by intro he; injection he with he; exact hyg he)
  have y6 : w2.cell? ⟨y, 6, none⟩ = some kv := blk_cell hy2 6
  have yf : w2.frozen? ⟨y, 6, none⟩ = false := blk_frozen hy2 6
  have HY2 := Lib.hid hy2
  clear hy2
  go_wp2_with fail
  go_ret
  exact ⟨rfl, Lib.hid ⟨_, w2, H2.out.1, H2.out.2.1, H2.out.2.2, HY2.out, rfl⟩⟩

theorem order_cell {w : World} {g : Nat} {o dv bv e : Value} {L T i n : Int} (h : w.heap[g]? = some (decO o L T dv bv i n e)) : w.cell? ⟨g, 0, none⟩ = some o := blk_cell h 0
set_option maxRecDepth 100000 in
set_option maxHeartbeats 1600000 in
theorem closure132 {d : Nat} (H : DecSpec d) (big : Bool) (w : World) (g x y b1 b2 : Nat) (bv sv : Value) (fs : List Fld) (okb oks : Nat → Prop) (ty kd fl n : Int) (text : ByteArray) (dv kv : Value)
    (hg : w.cell? ⟨g, 0, none⟩ = some (boV big)) (hS : Sl okb w bv (fbytes big d fs)) (hR : (elF d).Rd oks w sv (shpF d (keptF d fs)))
    (hl : fs.length ≤ 10) (hP : ∀ x ∈ fs, PR d x) (hN : ∀ x ∈ fs, NR d x) (hA : AOk (fat big d fs)) (hT : (fbytes big d fs).length ≤ 65531) (hx : w.cell? ⟨x, 6, none⟩ = some sv) (hy : w.heap[y]? = some (fldV ty kd fl n text dv kv))
    (h1 : w.cell? ⟨b1, 0, none⟩ = some (.pointer (some ⟨g, 0, none⟩))) (h2 : w.cell? ⟨b2, 0, none⟩ = some (.func (.func 122) #[] #[.pointer (some ⟨x, 0, none⟩), .pointer (some ⟨y, 0, none⟩)])) :
    Calls Try.prog 132 #[bv, .pointer (some ⟨b1, 0, none⟩), .pointer (some ⟨b2, 0, none⟩)] w fun e w' => e = .returned .nilIface ∧
      Hid (∃ u, (elF d).Rd (fun k => w.heap.size ≤ k) w' u (gotF d fs) ∧ w'.heap[y]? = some (fldV ty kd fl n text dv u) ∧ w.grownBy w' (some y)) := by
  have hib := (fbytes_ib big d hP hN).2
  have hS' : Sl okb w bv ((attrsB (fat big d fs)).take (attrsB (fat big d fs)).length) := by rw [List.take_length, attrsB_fat]; exact hS
  have HN77 := Lib.hid (new77 w bv okb (fat big d fs) (attrsB (fat big d fs)).length hS' hA heads_of hib (by rw [attrsB_fat]; omega))
  have HC0 := Lib.hid (fun W G (hG : W.heap[G]? = some (decO (boV big) 0 0 (.slice none 0 0) bv 0 ((fat big d fs).length : Nat) .nilIface)) (hS : Sl (fun k => okb k ∧ k < w.heap.size) W bv (fbytes big d fs)) (hok : ∀ k, (okb k ∧ k < w.heap.size) → k ≠ G) (hR : (elF d).Rd (fun k => oks k ∧ k < w.heap.size) W sv (shpF d (keptF d fs))) (hoks : ∀ k, (oks k ∧ k < w.heap.size) → k ≠ G) hx hy hyg =>
    closure122 H big W G x y bv sv _ fs _ _ ty kd fl n text dv kv hG hS hok hR hoks hl hP hN hT hx hy hyg)
  have HS := Lib.hid hS
  have HR := Lib.hid hR
  have HY := Lib.hid hy
  have HXC := Lib.hid hx
  have lg := World.block_lt_of_cell? w _ hg
  have lx := World.block_lt_of_cell? w _ hx
  have ly := blk_lt hy
  have l1 := World.block_lt_of_cell? w _ h1
  have l2 := World.block_lt_of_cell? w _ h2
  obtain ⟨A, c, hbv, _⟩ := hS.form
  obtain ⟨bl, hbl⟩ : ∃ bl, bl = (fbytes big d fs).length := ⟨_, rfl⟩
  rw [← hbl] at hbv
  clear H hS hR hP hN hA hib hS' hx hy hl hT hbl
  go_enter Try.func132, Try.ntmps132
  subst hbv
  go_wp2_with fail
  refine HN77.out.mono ?_
  rintro e w1 ⟨rfl, H1⟩
  obtain ⟨G, hG⟩ : ∃ G, G = w.heap.size := ⟨_, rfl⟩
  have hk1 := H1.out.1
  have hb1 := H1.out.2
  rw [← hG] at hk1 ⊢
  have c1 : w1.cell? ⟨b1, 0, none⟩ = some (.pointer (some ⟨g, 0, none⟩)) := (hb1.cell (p := ⟨b1, 0, none⟩) l1).trans h1
  have cg : w1.cell? ⟨g, 0, none⟩ = some (boV big) := (hb1.cell (p := ⟨g, 0, none⟩) lg).trans hg
  have g0 : w1.cell? ⟨G, 0, none⟩ = some (.iface 140 (.agg #[])) := blk_cell hk1 0
  have gf : w1.frozen? ⟨G, 0, none⟩ = false := blk_frozen hk1 0
  obtain ⟨ot, ov, hov⟩ : ∃ ty v, boV big = .iface ty v := by cases big <;> exact ⟨_, _, rfl⟩
  rw [hov] at cg
  obtain ⟨X, hX⟩ : ∃ X, X = w1.setCell ⟨G, 0, none⟩ (.iface ot ov) := ⟨_, rfl⟩
  have hkX : X.heap[G]? = some (decO (.iface ot ov) 0 0 (.slice none 0 0) (.slice A bl c) 0 ((fat big d fs).length : Nat) .nilIface) := by rw [hX]; exact decO_order hk1 _
  have hbX : Below w.heap.size w X := by rw [hX]; exact hb1.setCell (by show _ ≤ G; omega) _
  have c2 : X.cell? ⟨b2, 0, none⟩ = some (.func (.func 122) #[] #[.pointer (some ⟨x, 0, none⟩), .pointer (some ⟨y, 0, none⟩)]) := (hbX.cell (p := ⟨b2, 0, none⟩) l2).trans h2
  have hGy : y ≠ G := by omega
  have HC := Lib.hid (HC0.out X G (by rw [hov]; exact hkX) (HS.out.bound.below hbX) (fun k hk => by have := hk.2; omega) (HR.out.bound.below hbX) (fun k hk => by have := hk.2; omega) ((hbX.cell (p := ⟨x, 6, none⟩) lx).trans HXC.out) (blk_below HY.out hbX) hGy)
  have HX := Lib.hid hX
  have HBX := Lib.hid hbX
  have HGG := Lib.hid hG
  have hsX : w.heap.size ≤ X.heap.size := hbX.size
  have hGs0 := hG
  clear hk1 hb1 hX hkX hbX HC0 HN77 H1 hg h1 h2 hG hGs0
  go_upto_region 5 with (fail)
  rw [← HX.out]
  go_wp2_with fail
  refine HC.out.mono ?_
  rintro e w2 ⟨rfl, H2⟩
  obtain ⟨u, w3, r1, r2, ⟨L, T, dvv, i, r3⟩, r4, rfl⟩ := H2.out
  have hk3 : (w3.setCell ⟨y, 6, none⟩ u).heap[G]? = some (decO (boV big) L T dvv (.slice A bl c) i ((fat big d fs).length : Nat) .nilIface) := (Below.heap_setCell _ _ _ _ (by show G ≠ y; exact fun h => hGy h.symm)).trans r3
  have HE := Lib.hid (err105_nil _ G _ _ _ _ _ _ _ hk3)
  have hfin : Hid (∃ u', (elF d).Rd (fun k => w.heap.size ≤ k) (w3.setCell ⟨y, 6, none⟩ u) u' (gotF d fs) ∧ (w3.setCell ⟨y, 6, none⟩ u).heap[y]? = some (fldV ty kd fl n text dv u') ∧ w.grownBy (w3.setCell ⟨y, 6, none⟩ u) (some y)) := by
    refine Lib.hid ⟨u, (r1.step fun k hk _ => Below.heap_setCell _ _ _ _ (by show k ≠ y; omega)).mono fun k hk => by omega, fldV_kids r4 _, ?_⟩
    have hGs := HGG.out
    have q1 : w.grownBy w3 (some y) := grown_over (below_grows (row := some y) HBX.out rfl) r2 (fun j hj => by injection hj with hj; omega)
    exact grown_trans q1 (grown_set _ _ _ _)
  clear H2 r1 r2 r3 r4 hk3
  go_wp2_with fail
  refine HE.out.mono ?_
  rintro e w5 ⟨rfl, rfl⟩
  go_wp2_with fail
  go_ret
  exact ⟨rfl, hfin⟩

set_option maxRecDepth 100000 in
set_option maxHeartbeats 1600000 in
theorem do131 (w : World) (g b1 b2 : Nat) (o bv : Value) (A : Option Addr) (m c : Nat) (L T i n : Int) (R : World → Prop) (hG : w.heap[g]? = some (decO o L T (.slice A m c) bv i n .nilIface))
    (HF : Calls Try.prog 132 #[.slice A m c, .pointer (some ⟨b1, 0, none⟩), .pointer (some ⟨b2, 0, none⟩)] w fun e w' => e = .returned .nilIface ∧ Hid (R w')) :
    Calls Try.prog 131 #[.pointer (some ⟨g, 0, none⟩), .func (.func 132) #[] #[.pointer (some ⟨b1, 0, none⟩), .pointer (some ⟨b2, 0, none⟩)]] w fun e w' => e = .returned (.tuple #[]) ∧ Hid (R w') := by
  have c7 : w.cell? ⟨g, 7, none⟩ = some .nilIface := blk_cell hG 7
  have HC := Lib.hid HF
  have HG := Lib.hid hG
  clear HF hG
  go_enter Try.func131, Try.ntmps131
  go_wp2_with fail
  refine (data129 w g _ _ _ _ _ _ _ _ _ _ HG.out).mono ?_
  rintro e w1 ⟨rfl, rfl⟩
  go_wp2_with fail
  refine HC.out.mono ?_
  rintro e w2 ⟨rfl, H2⟩
  go_wp2_with fail
  go_end0
  exact ⟨rfl, H2⟩

set_option maxRecDepth 100000 in
set_option maxHeartbeats 1600000 in
theorem nested121 {d : Nat} (H : DecSpec d) (big : Bool) (w : World) (g x y : Nat) (bv sv : Value) (A : Option Addr) (c : Nat) (L T i N : Int) (fs : List Fld) (okb oks : Nat → Prop) (ty kd fl n : Int) (text : ByteArray) (dv kv : Value)
    (hG : w.heap[g]? = some (decO (boV big) L T (.slice A (fbytes big d fs).length c) bv i N .nilIface)) (hS : Sl okb w (.slice A (fbytes big d fs).length c) (fbytes big d fs)) (hR : (elF d).Rd oks w sv (shpF d (keptF d fs)))
    (hl : fs.length ≤ 10) (hP : ∀ x ∈ fs, PR d x) (hN : ∀ x ∈ fs, NR d x) (hA : AOk (fat big d fs)) (hT : (fbytes big d fs).length ≤ 65531) (hx : w.cell? ⟨x, 6, none⟩ = some sv) (hy : w.heap[y]? = some (fldV ty kd fl n text dv kv)) :
    Calls Try.prog 121 #[.pointer (some ⟨g, 0, none⟩), .func (.func 122) #[] #[.pointer (some ⟨x, 0, none⟩), .pointer (some ⟨y, 0, none⟩)]] w fun e w' => e = .returned (.tuple #[]) ∧
      Hid (∃ u, (elF d).Rd (fun k => w.heap.size ≤ k) w' u (gotF d fs) ∧ w'.heap[y]? = some (fldV ty kd fl n text dv u) ∧ w.grownBy w' (some y)) := by
  have hmf : ∀ (fn : Fn) (first cap : Array Value) (w : World), (Instr.makeFunc fn first cap).run Try.prog w = .ok (.func fn first cap) w := fun _ _ _ _ => rfl
  obtain ⟨W, hW⟩ : ∃ W, W = (w.alloc (.cells #[.pointer (some ⟨g, 0, none⟩)] 132)).alloc (.cells #[.func (.func 122) #[] #[.pointer (some ⟨x, 0, none⟩), .pointer (some ⟨y, 0, none⟩)]] 181) := ⟨_, rfl⟩
  have hB : Below w.heap.size w W := by rw [hW]; exact ((Below.refl _ _).alloc (Nat.le_refl _) _).alloc (by simp) _
  have hb1 : W.cell? ⟨w.heap.size, 0, none⟩ = some (.pointer (some ⟨g, 0, none⟩)) := by
    rw [hW, World.cell?_alloc_past _ _ _ (by simp), World.cell?_alloc_at _ _ _ _ rfl]; rfl
  have hb2 : W.cell? ⟨w.heap.size + 1, 0, none⟩ = some (.func (.func 122) #[] #[.pointer (some ⟨x, 0, none⟩), .pointer (some ⟨y, 0, none⟩)]) := by
    rw [hW, World.cell?_alloc_at _ _ _ _ (by simp)]; rfl
  have lx := World.block_lt_of_cell? w _ hx
  have hGW := blk_below hG hB
  have hC := closure132 H big W g x y w.heap.size (w.heap.size + 1) _ sv fs okb oks ty kd fl n text dv kv (blk_cell hGW 0) (hS.below hB) (hR.below hB) hl hP hN hA hT ((hB.cell (p := ⟨x, 6, none⟩) lx).trans hx) (blk_below hy hB) hb1 hb2
  have HD := Lib.hid (do131 W g w.heap.size (w.heap.size + 1) _ bv A _ c L T i N _ hGW hC)
  have HB := Lib.hid hB
  have HW := Lib.hid hW
  rw [hW] at HD
  clear H hG hS hR hP hN hA hx hy hB hb1 hb2 hGW hC hW hT hl
  go_enter Try.func121, Try.ntmps121
  go_wp2_with fail
  refine HD.out.mono ?_
  rintro e w2 ⟨rfl, H2⟩
  go_wp2_with fail
  go_end0
  rw [← HW.out] at H2
  obtain ⟨u, r1, r2, r3⟩ := H2.out
  exact ⟨rfl, Lib.hid ⟨u, r1.mono fun k hk => by have := HB.out.size; omega, r2, grown_trans (below_grows (row := some y) HB.out rfl) r3⟩⟩
end Go.Proofs.Ytgijhgonpgidiaa
