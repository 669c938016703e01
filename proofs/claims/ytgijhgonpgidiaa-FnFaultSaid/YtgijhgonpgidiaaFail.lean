/-
  Contract of the reference's Failure. No statement of the seat is proved here.
-/
import Derived.Test.YtgijhgonpgidiaaRead
import Derived.Test.YtgijhgonpgidiaaFb2
import Derived.Test.YtgijhgonpgidiaaGrow
import Derived.Deep.RegionLaw
namespace Go.Proofs.Ytgijhgonpgidiaa
open Go.RowKit Go.Proofs.YtgijhgonpgidiaaW.PrintWords

/-! ### append of bytes to a row of bytes, as a law for the walk -/
theorem row_run {W : World} {ok : Nat → Prop} {base : Nat} {v dv : Value} {xs data : List Int} (ty : TypeId) (hO : Ob W base v xs) (hS : Sl ok W dv data) (h0 : 0 < data.length) (hb : base ≤ W.heap.size) (hl : xs.length + data.length ≤ 140737488355328) :
    ∃ A c w1, (Builtin.append_ #[28, 28] ty #[v, dv]).run Try.prog W = .ok (.slice A (xs.length + data.length) c) w1 ∧ Ob w1 base (.slice A (xs.length + data.length) c) (xs ++ data) ∧ W.grownBy w1 v.ownBlock ∧
      ((Value.slice A (xs.length + data.length) c).ownBlock = v.ownBlock ∨ ∃ b, (Value.slice A (xs.length + data.length) c).ownBlock = some b ∧ W.heap.size ≤ b) := by
  obtain ⟨i0, hi, hz0, hz1, hz2⟩ := info_parts info5
  obtain ⟨b, off, c, rfl, hlc, hc, _, _, hcell⟩ := hS.at_ h0
  have hcells : ∀ j u, (nums .u8 data)[j]? = some u → W.cell? ((⟨b, off, none⟩ : Addr).add j) = some u := by
    intro j u hu
    have hj : j < data.length := by
      rcases Nat.lt_or_ge j data.length with h | h
      · exact h
      · simp [nums, List.getElem?_eq_none h] at hu
    have ha : (⟨b, off, none⟩ : Addr).add j = ⟨b, off + j, none⟩ := by unfold Addr.add; split <;> simp_all
    rw [ha, hcell j hj]
    refine Eq.trans ?_ hu
    simp [nums, List.getElem?_eq_getElem hj, List.getD_eq_getElem?_getD]
  obtain ⟨v1, w1, hrun, hown, hg, _, hat⟩ := run_append_own_at (P := Try.prog) W base 28 ty 5 i0 (.int .u8 0) 1 1 Try.underlying28 hi hz0 hz1 hz2 rfl (by omega) v xs.length (nums .u8 xs) hO ⟨b, off, none⟩ data.length c (nums .u8 data) (by simp [nums]) hcells
    (by intro u hu; simp only [nums, List.mem_map] at hu; obtain ⟨q, _, rfl⟩ := hu; rfl) (by simp only [maxLen]; omega) (by omega) hb
  obtain ⟨A1, c1, rfl⟩ := own_slice hown
  refine ⟨A1, c1, w1, hrun, ?_, hg, hat.imp id fun h => ⟨_, h, Nat.le_refl _⟩⟩
  unfold Ob
  rw [List.length_append, nums_append]
  exact hown
section
variable {W : World} {ok : Nat → Prop} {base : Nat} {v dv : Value} {xs data : List Int} {ops : Array Oper} {o : Oper} {a : Act} {Q : Exit → Act → World → Prop}
theorem row_list {rest : List Oper} (hO : Ob W base v xs) (hS : Sl ok W dv data) (h0 : 0 < data.length) (hb : base ≤ W.heap.size) (hl : xs.length + data.length ≤ 140737488355328) (hgd : o.guard = none) (s x : Operand) (ho : o.op = .call { callee := .builtin .append, args := #[s, x], argTypes := #[28, 28] })
    (hs : a.eval s = v) (hx : a.eval x = dv) (h : ∀ A c w1, Hid (Ob w1 base (.slice A (xs.length + data.length) c) (xs ++ data) ∧ W.grownBy w1 v.ownBlock ∧ ((Value.slice A (xs.length + data.length) c).ownBlock = v.ownBlock ∨ ∃ b, (Value.slice A (xs.length + data.length) c).ownBlock = some b ∧ W.heap.size ≤ b)) → wpList Try.prog ops Q rest (a.put o.dst (.slice A (xs.length + data.length) c)) w1) :
    wpList Try.prog ops Q (o :: rest) a W := by
  obtain ⟨A, c, w1, hrun, h1, h2, h3⟩ := row_run o.type hO hS h0 hb hl
  refine wpList_plain hgd fun K hK => ?_
  unfold Oper.wp
  simp [execOp, ho, resolve, invoke, builtin, hs, hx, hrun, Result.andThen]
  exact hK _ _ (h A c w1 ⟨h1, h2, h3⟩)
theorem row_step {K : Act → World → Prop} {E : Prop} (hO : Ob W base v xs) (hS : Sl ok W dv data) (h0 : 0 < data.length) (hb : base ≤ W.heap.size) (hl : xs.length + data.length ≤ 140737488355328) (hw : Region.wanted o (yielded ops a.tmps) = true) (s x : Operand) (ho : o.op = .call { callee := .builtin .append, args := #[s, x], argTypes := #[28, 28] })
    (hs : a.eval s = v) (hx : a.eval x = dv) (h : ∀ A c w1, Hid (Ob w1 base (.slice A (xs.length + data.length) c) (xs ++ data) ∧ W.grownBy w1 v.ownBlock ∧ ((Value.slice A (xs.length + data.length) c).ownBlock = v.ownBlock ∨ ∃ b, (Value.slice A (xs.length + data.length) c).ownBlock = some b ∧ W.heap.size ≤ b)) → K (a.put o.dst (.slice A (xs.length + data.length) c)) w1) :
    if Region.wanted o (yielded ops a.tmps) = true then Oper.wp Try.prog o a W K Q else E := by
  obtain ⟨A, c, w1, hrun, h1, h2, h3⟩ := row_run o.type hO hS h0 hb hl
  rw [if_pos hw]
  unfold Oper.wp
  simp [execOp, ho, resolve, invoke, builtin, hs, hx, hrun, Result.andThen]
  exact h A c w1 ⟨h1, h2, h3⟩
end

/-- The text and the place that a message of an error tells, as fields. -/
def toldF (text : ByteArray) (off : Int) : List Fld := [⟨1, 8, 0, 0, text, [], []⟩, ⟨2, 2, 0, off, ⟨#[]⟩, [], []⟩]
def toldA (text : ByteArray) (off : Int) : List (Int × List Int) := [(1, bytesOf text ++ [0]), (2, putB off 4)]
theorem told_bytes (text : ByteArray) (off : Int) (h : 0 ≤ off ∧ off < 4294967296) : fbytes false 1 (toldF text off) = attrsB (toldA text off) := by
  have e : off % 4294967296 = off := by omega
  simp [fbytes, toldF, toldA, isKept, fattr, widthK, putO, e]
/-- The data of a message of an error. -/
def failD (num : Int) (L t f s p : Int) (data : List Int) (capped told : Bool) (text : ByteArray) (off : Int) : List Int :=
  putB (-num) 4 ++ (if capped then (msgB L t f s p data).take 16 else msgB L t f s p data) ++ (if told then attrsB (toldA text off) else [])
def failF (capped told : Bool) : Int := (if capped then 256 else 0) + (if told then 512 else 0)
theorem neg_bytes (num : Int) : putO false (IntKind.u64.wrap (-num)) 4 = putB (-num) 4 := by
  have h := putB_mod 4 (-num) (256 ^ 4) (by decide)
  rw [IntKind.wrap_u64]
  exact h
theorem told_len (text : ByteArray) (off : Int) (h : text.size ≤ 100) : 0 < (attrsB (toldA text off)).length ∧ (attrsB (toldA text off)).length ≤ 300 := by
  have h1 := attrsB_length_le 101 (toldA text off) (by
    intro a ha
    simp only [toldA, List.mem_cons, List.not_mem_nil, or_false] at ha
    rcases ha with rfl | rfl
    · simp [bytesOf_length]; omega
    · simp [putB_length])
  have h2 : (toldA text off).length = 2 := rfl
  constructor
  · simp only [toldA, attrsB_cons, List.length_append, attrB_length]; omega
  · rw [h2] at h1; omega

theorem told_rd {w : World} {b : Nat} {text : ByteArray} {off : Int} (h : w.heap[b]? = some (.cells #[.int .i64 1, .int .i64 8, .int .i64 0, .int .i64 0, .string text, .slice none 0 0, .slice none 0 0, .int .i64 2, .int .i64 2, .int .i64 0, .int .i64 off, .string ⟨#[]⟩, .slice none 0 0, .slice none 0 0] 65)) :
    (elF 1).Rd (fun _ => True) w (.slice (some ⟨b, 0, none⟩) 2 2) (toldF text off) := by
  refine ⟨_, 2, rfl, Nat.le_refl _, by omega, fun _ => ⟨b, 0, rfl, trivial, fun i x hx => ?_⟩⟩
  match i, hx with
  | 0, hx =>
    simp only [toldF, List.getElem?_cons_zero, Option.some.injEq] at hx
    subst hx
    refine ⟨[.int .i64 1, .int .i64 8, .int .i64 0, .int .i64 0, .string text, .slice none 0 0, .slice none 0 0], fun j u hu => ?_, blk_lt h, _, _, rfl, Sl.nil _ _, El.Rd.nil _ _ _⟩
    have hj : j < 7 := (List.getElem?_eq_some_iff.1 hu).1
    rw [blk_cell h]
    match j, hj, hu with
    | 0, _, hu | 1, _, hu | 2, _, hu | 3, _, hu | 4, _, hu | 5, _, hu | 6, _, hu => simpa using hu
  | 1, hx =>
    simp only [toldF, List.getElem?_cons_succ, List.getElem?_cons_zero, Option.some.injEq] at hx
    subst hx
    refine ⟨[.int .i64 2, .int .i64 2, .int .i64 0, .int .i64 off, .string ⟨#[]⟩, .slice none 0 0, .slice none 0 0], fun j u hu => ?_, blk_lt h, _, _, rfl, Sl.nil _ _, El.Rd.nil _ _ _⟩
    have hj : j < 7 := (List.getElem?_eq_some_iff.1 hu).1
    rw [blk_cell h]
    match j, hj, hu with
    | 0, _, hu | 1, _, hu | 2, _, hu | 3, _, hu | 4, _, hu | 5, _, hu | 6, _, hu => simpa [elF_sz] using hu
  | i + 2, hx => simp [toldF] at hx
theorem told_pf (text : ByteArray) (off : Int) (ht : text.size ≤ 100) (ho : 0 ≤ off ∧ off < 2147483648) : ∀ x ∈ toldF text off, PF 1 x := by
  intro x hx
  have h0 : (⟨#[]⟩ : ByteArray).size = 0 := rfl
  simp only [toldF, List.mem_cons, List.not_mem_nil, or_false] at hx
  rcases hx with rfl | rfl
  · simp [PF, numOk]; omega
  · simp [PF, numOk]; omega
/-- Block z is the message that is being made. -/
def mk6 (L t f s p : Int) (v : Value) : Obj := .cells #[.int .i64 L, .int .i64 t, .int .i64 f, .int .i64 s, .int .i64 p, v] 43
theorem mk6_set {W : World} {z : Nat} {L t f s p : Int} {v : Value} (h : W.heap[z]? = some (mk6 L t f s p v)) (v' : Value) : (W.setCell ⟨z, 5, none⟩ v').heap[z]? = some (mk6 L t f s p v') := by
  have := blk_set h 5 v'
  simpa [mk6] using this
theorem mk6_flag {W : World} {z : Nat} {L t f s p : Int} {v : Value} (h : W.heap[z]? = some (mk6 L t f s p v)) (f' : Int) : (W.setCell ⟨z, 2, none⟩ (.int .i64 f')).heap[z]? = some (mk6 L t f' s p v) := by
  have := blk_set h 2 (.int .i64 f')
  simpa [mk6] using this

set_option maxRecDepth 100000 in
set_option maxHeartbeats 6400000 in
theorem failure42 (sq num L t f s p off : Int) (dv : Value) (data : List Int) (capped told : Bool) (text : ByteArray) (ok : Nat → Prop) (w : World) (hS : Sl ok w dv data) (hM : MP L t f s p data.length) (hnum : 0 ≤ num ∧ num ≤ 4095) (htext : text.size ≤ 100) (hoff : 0 ≤ off ∧ off < 2147483648) :
    Calls Try.prog 42 #[.int .i64 sq, .int .i64 num, .agg #[.int .i64 L, .int .i64 t, .int .i64 f, .int .i64 s, .int .i64 p, dv], .bool capped, .bool told, .string text, .int .i64 off] w fun e w' => ∃ u, e = .returned (.agg #[.int .i64 (16 + (failD num L t f s p data capped told text off).length), .int .i64 2, .int .i64 (failF capped told), .int .i64 sq, .int .i64 p, u]) ∧
      Hid (Sl (fun k => w.heap.size ≤ k) w' u (failD num L t f s p data capped told text off) ∧ Below w.heap.size w w') := by
  obtain ⟨A, c, rfl, _⟩ := hS.form
  obtain ⟨q, hq⟩ : ∃ q, q = w.heap.size := ⟨_, rfl⟩
  obtain ⟨W, hW⟩ : ∃ W, W = ((w.alloc (.cells #[.int .i64 L, .int .i64 t, .int .i64 f, .int .i64 s, .int .i64 p, .slice A data.length c] 43)).alloc (.cells #[.int .i64 0, .int .i64 0, .int .i64 0, .int .i64 0, .int .i64 0, .slice none 0 0] 43)).alloc (.cells #[.int .i64 0, .int .i64 2, .int .i64 0, .int .i64 sq, .int .i64 p, .slice none 0 0] 43) := ⟨_, rfl⟩
  have hB : Below w.heap.size w W := by rw [hW]; exact (((Below.refl _ _).alloc (Nat.le_refl _) _).alloc (by simp) _).alloc (by simp; omega) _
  have hsz : W.heap.size = q + 3 := by rw [hW, hq]; simp
  have k0 : W.heap[q]? = some (mk6 L t f s p (.slice A data.length c)) := by rw [hW, hq]; exact blk_alloc (blk_alloc (heap_alloc_new _ _) _) _
  have k1 : W.heap[q + 1]? = some (mk6 0 0 0 0 0 (.slice none 0 0)) := by
    have := heap_alloc_new (w.alloc (.cells #[.int .i64 L, .int .i64 t, .int .i64 f, .int .i64 s, .int .i64 p, .slice A data.length c] 43)) (.cells #[.int .i64 0, .int .i64 0, .int .i64 0, .int .i64 0, .int .i64 0, .slice none 0 0] 43)
    rw [hW, hq]; exact blk_alloc (by simpa [mk6] using this) _
  have k2 : W.heap[q + 1 + 1]? = some (mk6 0 2 0 sq p (.slice none 0 0)) := by
    have := heap_alloc_new ((w.alloc (.cells #[.int .i64 L, .int .i64 t, .int .i64 f, .int .i64 s, .int .i64 p, .slice A data.length c] 43)).alloc (.cells #[.int .i64 0, .int .i64 0, .int .i64 0, .int .i64 0, .int .i64 0, .slice none 0 0] 43)) (.cells #[.int .i64 0, .int .i64 2, .int .i64 0, .int .i64 sq, .int .i64 p, .slice none 0 0] 43)
    rw [hW, hq]; simpa [mk6] using this
  have c4 : W.cell? ⟨q, 4, none⟩ = some (.int .i64 p) := blk_cell k0 4
  have hMn := hM.2.2.1
  have HS := Lib.hid (hS.bound.below hB)
  have HM := Lib.hid hM
  have HW := Lib.hid hW
  have HB := Lib.hid hB
  have HZ := Lib.hid hsz
  have HQ := Lib.hid hq
  have K0 := Lib.hid k0
  have K1 := Lib.hid k1
  have K2 := Lib.hid k2
  clear hS hM hW hB hsz k0 k1 k2
  go_enter Try.func42, Try.ntmps42
  go_wp2_with fail
  rw [← hq, ← HW.out]
  have hor1 : bits .or .i64 0 256 = 256 := by decide
  have hor2 : bits .or .i64 0 512 = 512 := by decide
  have hor3 : bits .or .i64 256 512 = 768 := by decide
  clear hq c4
  refine (put59 W W.heap.size (.slice none 0 0) [] _ 4 false (own_nil _ _ _ _) (Nat.le_refl _) (by omega) (by simp)).mono ?_
  rintro e w1 ⟨u1, rfl, H1⟩
  have hO1 : Ob w1 W.heap.size u1 (putB (-num) 4) := by have := H1.out.1; rw [List.nil_append, neg_bytes] at this; exact this
  obtain ⟨A1, c1, hu1, _⟩ := Ob.form hO1
  rw [putB_length] at hu1
  subst hu1
  have hg1 := H1.out.2.1
  have hq0 := blk_grown K0.out hg1 (by simp [Value.ownBlock])
  have hq1 := blk_grown K1.out hg1 (by simp [Value.ownBlock])
  have hq2 := blk_grown K2.out hg1 (by simp [Value.ownBlock])
  have a0 : w1.cell? ⟨q, 0, none⟩ = some (.int .i64 L) := blk_cell hq0 0
  have a1 : w1.cell? ⟨q, 1, none⟩ = some (.int .i64 t) := blk_cell hq0 1
  have a2 : w1.cell? ⟨q, 2, none⟩ = some (.int .i64 f) := blk_cell hq0 2
  have a3 : w1.cell? ⟨q, 3, none⟩ = some (.int .i64 s) := blk_cell hq0 3
  have a4 : w1.cell? ⟨q, 4, none⟩ = some (.int .i64 p) := blk_cell hq0 4
  have a5 : w1.cell? ⟨q, 5, none⟩ = some (.slice A data.length c) := blk_cell hq0 5
  have z5 : w1.cell? ⟨q + 1 + 1, 5, none⟩ = some (.slice none 0 0) := blk_cell hq2 5
  have z5f : w1.frozen? ⟨q + 1 + 1, 5, none⟩ = false := blk_frozen hq2 5
  obtain ⟨X1, hX1⟩ : ∃ X, X = w1.setCell ⟨q + 1 + 1, 5, none⟩ (.slice A1 4 c1) := ⟨_, rfl⟩
  have hzz := HZ.out
  have hqq := HQ.out
  have j0 : X1.heap[q]? = some (mk6 L t f s p (.slice A data.length c)) := by rw [hX1]; exact blk_far hq0 (by show q ≠ q + 1 + 1; omega) _
  have j1 : X1.heap[q + 1]? = some (mk6 0 0 0 0 0 (.slice none 0 0)) := by rw [hX1]; exact blk_far hq1 (by show q + 1 ≠ q + 1 + 1; omega) _
  have j2 : X1.heap[q + 1 + 1]? = some (mk6 0 2 0 sq p (.slice A1 4 c1)) := by rw [hX1]; exact mk6_set hq2 _
  have jO : Ob X1 W.heap.size (.slice A1 4 c1) (putB (-num) 4) := by rw [hX1]; exact own_move hO1 fun k hk => Below.heap_setCell _ _ _ _ (by have := own_base hO1 k hk; show k ≠ q + 1 + 1; omega)
  have jB : Below w.heap.size w X1 := by rw [hX1]; exact (HB.out.grown hg1 HB.out.size (fun k hk => by cases hk)).setCell (by show _ ≤ q + 1 + 1; omega) _
  have hWX : W.heap.size ≤ X1.heap.size := by rw [hX1]; have := hg1.size; simpa [World.setCell] using this
  have jS : Sl (fun k => ok k ∧ k < w.heap.size) X1 (.slice A data.length c) data := HS.out.step fun k hk _ => (jB.block k hk.2).trans (HB.out.block k hk.2).symm
  have HJ0 := Lib.hid j0
  have HJ1 := Lib.hid j1
  have HJ2 := Lib.hid j2
  have HJO := Lib.hid jO
  have HJB := Lib.hid jB
  have HWX := Lib.hid hWX
  have HX1 := Lib.hid hX1
  have HC := Lib.hid (bytes33 L t f s p _ data _ X1 jS HM.out)
  clear hO1 hg1 hq0 hq1 hq2 hX1 hzz hqq j0 j1 j2 jO jB hWX jS
  go_wp2_with fail
  rw [← HX1.out]
  refine HC.out.mono ?_
  rintro e w2 ⟨u2, rfl, H2⟩
  have hmb : (msgB L t f s p data).length = 16 + data.length := msgB_length L t f s p data
  obtain ⟨b2, off2, c2, rfl, hc2, hc2m, _, _, _⟩ := (Ob.sl H2.out.1).at_ (by omega)
  have hk2 := blk_below HJ2.out H2.out.2
  have hk1 := blk_below HJ1.out H2.out.2
  have HO2 := Lib.hid (HJO.out.below H2.out.2)
  have HB2 := Lib.hid (below_then HJB.out HJB.out.size H2.out.2)
  have HW2 : Hid (W.heap.size ≤ w2.heap.size) := Lib.hid (Nat.le_trans HWX.out H2.out.2.size)
  have HK2 := Lib.hid hk2
  have HK1 := Lib.hid hk1
  have HS2 := Lib.hid (Ob.sl H2.out.1)
  have hc16 : (16 : Int) ≤ (c2 : Int) := by omega
  have hc16n : 16 ≤ c2 := by omega
  have hc0 : ¬ c2 = 0 := by omega
  have z0 : w2.cell? ⟨q + 1 + 1, 0, none⟩ = some (.int .i64 0) := blk_cell hk2 0
  have z1 : w2.cell? ⟨q + 1 + 1, 1, none⟩ = some (.int .i64 2) := blk_cell hk2 1
  have z2 : w2.cell? ⟨q + 1 + 1, 2, none⟩ = some (.int .i64 0) := blk_cell hk2 2
  have z3 : w2.cell? ⟨q + 1 + 1, 3, none⟩ = some (.int .i64 sq) := blk_cell hk2 3
  have z4 : w2.cell? ⟨q + 1 + 1, 4, none⟩ = some (.int .i64 p) := blk_cell hk2 4
  have z5 : w2.cell? ⟨q + 1 + 1, 5, none⟩ = some (.slice A1 4 c1) := blk_cell hk2 5
  have zf0 : w2.frozen? ⟨q + 1 + 1, 0, none⟩ = false := blk_frozen hk2 0
  have zf1 : w2.frozen? ⟨q + 1 + 1, 1, none⟩ = false := blk_frozen hk2 1
  have zf2 : w2.frozen? ⟨q + 1 + 1, 2, none⟩ = false := blk_frozen hk2 2
  have zf3 : w2.frozen? ⟨q + 1 + 1, 3, none⟩ = false := blk_frozen hk2 3
  have zf4 : w2.frozen? ⟨q + 1 + 1, 4, none⟩ = false := blk_frozen hk2 4
  have zf5 : w2.frozen? ⟨q + 1 + 1, 5, none⟩ = false := blk_frozen hk2 5
  clear hk1 hk2 hc2
  have HLM : Hid ((msgB L t f s p data).length = 16 + data.length) := Lib.hid hmb
  have HT16 : Hid (((msgB L t f s p data).take 16).length = 16) := Lib.hid (by rw [List.length_take, hmb]; omega)
  have HTD := Lib.hid (told_len text off htext)
  obtain ⟨TL, hTL⟩ : ∃ n, n = (attrsB (toldA text off)).length := ⟨_, rfl⟩
  have HTL := Lib.hid hTL
  have hTLb : TL ≤ 300 := by rw [hTL]; exact HTD.out.2
  clear hTL
  have HTB := Lib.hid (told_bytes text off ⟨hoff.1, by omega⟩)
  have hMb : (msgB L t f s p data).length ≤ 1016 := by rw [hmb]; omega
  clear hmb
  cases capped
  · cases told
    · skip
      have HSM : Hid (Sl (fun k => X1.heap.size ≤ k) w2 (.slice (some ⟨b2, off2, none⟩) (msgB L t f s p data).length c2) (msgB L t f s p data)) := HS2
      have h0 : 0 < (msgB L t f s p data).length := by rw [HLM.out]; omega
      have hlim : (putB (-num) 4).length + (msgB L t f s p data).length ≤ 140737488355328 := by rw [HLM.out, putB_length]; omega
      have H0 := Lib.hid h0
      have HLIM := Lib.hid hlim
      clear h0 hlim
      go_wp2_with (at_builtin; go_must (refine row_list (v := .slice A1 4 c1) HO2.out HSM.out H0.out HW2.out HLIM.out rfl (.tmp 36) (.tmp 37) rfl rfl rfl ?_; intro A3 c3 w3 H3; have hL3 : (putB (-num) 4).length + (msgB L t f s p data).length = 4 + (msgB L t f s p data).length := (by rw [putB_length]); have H3 := (show Hid (Ob w3 W.heap.size (.slice A3 (4 + (msgB L t f s p data).length) c3) (putB (-num) 4 ++ (msgB L t f s p data)) ∧ w2.grownBy w3 (Value.slice A1 4 c1).ownBlock ∧ ((Value.slice A3 (4 + (msgB L t f s p data).length) c3).ownBlock = (Value.slice A1 4 c1).ownBlock ∨ ∃ b, (Value.slice A3 (4 + (msgB L t f s p data).length) c3).ownBlock = some b ∧ w2.heap.size ≤ b)) from by rw [← hL3]; exact H3); rw [hL3]; clear hL3; have hzn : ∀ i, W.heap.size > i → some i ≠ (Value.slice A1 4 c1).ownBlock := (fun i hi he => by have := own_base HO2.out i he.symm; omega); have kz3 := blk_grown HK2.out H3.out.2.1 (hzn (q + 1 + 1) (by have := HZ.out; omega)); have kk3 := blk_grown HK1.out H3.out.2.1 (hzn (q + 1) (by have := HZ.out; omega)); have HB3 : Hid (Below w.heap.size w w3) := Lib.hid (HB2.out.grown H3.out.2.1 HB2.out.size fun k hk => by have := own_base HO2.out k hk; have := HB.out.size; omega); have KZ3 := Lib.hid kz3; have KK3 := Lib.hid kk3; have HW3 : Hid (W.heap.size ≤ w3.heap.size) := Lib.hid (Nat.le_trans HW2.out H3.out.2.1.size); have y0 : w3.cell? ⟨q + 1 + 1, 0, none⟩ = some (.int .i64 0) := blk_cell kz3 0; have y1 : w3.cell? ⟨q + 1 + 1, 1, none⟩ = some (.int .i64 2) := blk_cell kz3 1; have y2 : w3.cell? ⟨q + 1 + 1, 2, none⟩ = some (.int .i64 0) := blk_cell kz3 2; have y3 : w3.cell? ⟨q + 1 + 1, 3, none⟩ = some (.int .i64 sq) := blk_cell kz3 3; have y4 : w3.cell? ⟨q + 1 + 1, 4, none⟩ = some (.int .i64 p) := blk_cell kz3 4; have y5 : w3.cell? ⟨q + 1 + 1, 5, none⟩ = some (.slice A1 4 c1) := blk_cell kz3 5; have yf0 : w3.frozen? ⟨q + 1 + 1, 0, none⟩ = false := blk_frozen kz3 0; have yf1 : w3.frozen? ⟨q + 1 + 1, 1, none⟩ = false := blk_frozen kz3 1; have yf2 : w3.frozen? ⟨q + 1 + 1, 2, none⟩ = false := blk_frozen kz3 2; have yf3 : w3.frozen? ⟨q + 1 + 1, 3, none⟩ = false := blk_frozen kz3 3; have yf4 : w3.frozen? ⟨q + 1 + 1, 4, none⟩ = false := blk_frozen kz3 4; have yf5 : w3.frozen? ⟨q + 1 + 1, 5, none⟩ = false := blk_frozen kz3 5; have x0 : w3.cell? ⟨q + 1, 0, none⟩ = some (.int .i64 0) := blk_cell kk3 0; have x1 : w3.cell? ⟨q + 1, 1, none⟩ = some (.int .i64 0) := blk_cell kk3 1; have x2 : w3.cell? ⟨q + 1, 2, none⟩ = some (.int .i64 0) := blk_cell kk3 2; have x3 : w3.cell? ⟨q + 1, 3, none⟩ = some (.int .i64 0) := blk_cell kk3 3; have x4 : w3.cell? ⟨q + 1, 4, none⟩ = some (.int .i64 0) := blk_cell kk3 4; have x5 : w3.cell? ⟨q + 1, 5, none⟩ = some (.slice none 0 0) := blk_cell kk3 5; have xf0 : w3.frozen? ⟨q + 1, 0, none⟩ = false := blk_frozen kk3 0; have xf1 : w3.frozen? ⟨q + 1, 1, none⟩ = false := blk_frozen kk3 1; have xf2 : w3.frozen? ⟨q + 1, 2, none⟩ = false := blk_frozen kk3 2; have xf3 : w3.frozen? ⟨q + 1, 3, none⟩ = false := blk_frozen kk3 3; have xf4 : w3.frozen? ⟨q + 1, 4, none⟩ = false := blk_frozen kk3 4; have xf5 : w3.frozen? ⟨q + 1, 5, none⟩ = false := blk_frozen kk3 5; clear hzn kz3 kk3))
      have hD : failD num L t f s p data false false text off = putB (-num) 4 ++ (msgB L t f s p data) := by simp [failD]
      have hDl : (putB (-num) 4 ++ (msgB L t f s p data)).length = (4 + (msgB L t f s p data).length) := by rw [List.length_append, putB_length]
      have hqq := HQ.out
      have hzz := HZ.out
      refine bodyPost_ret (results_cell_row Try.results42 _ _ (q + 1) 43 #[.int .i64 (16 + (((4 + (msgB L t f s p data).length) : Nat) : Int)), .int .i64 2, .int .i64 0, .int .i64 sq, .int .i64 p, .slice A3 (4 + (msgB L t f s p data).length) c3] (0, 0) _ rfl ?_ Try.underlying43 rfl (by rw [size43]; rfl)) rfl ?_
      · have h0 := blk_far (blk_far KK3.out (p := ⟨q + 1 + 1, 5, none⟩) (by show q + 1 ≠ q + 1 + 1; omega) (.slice A3 (4 + (msgB L t f s p data).length) c3)) (p := ⟨q + 1 + 1, 0, none⟩) (by show q + 1 ≠ q + 1 + 1; omega) (.int .i64 (16 + (((4 + (msgB L t f s p data).length) : Nat) : Int)))
        have h1 := blk_set (blk_set (blk_set (blk_set (blk_set (blk_set h0 0 (.int .i64 (16 + (((4 + (msgB L t f s p data).length) : Nat) : Int)))) 1 (.int .i64 2)) 2 (.int .i64 0)) 3 (.int .i64 sq)) 4 (.int .i64 p)) 5 (.slice A3 (4 + (msgB L t f s p data).length) c3)
        simpa using h1
      · refine ⟨.slice A3 (4 + (msgB L t f s p data).length) c3, ?_, Lib.hid ⟨?_, ?_⟩⟩
        · rw [hD, hDl]; rfl
        · rw [hD]
          have h1 := Ob.sl H3.out.1
          refine (h1.step fun k hk _ => ?_).mono fun k hk => by omega
          rw [Below.heap_setCell _ _ _ _ (by show k ≠ q + 1; omega), Below.heap_setCell _ _ _ _ (by show k ≠ q + 1; omega), Below.heap_setCell _ _ _ _ (by show k ≠ q + 1; omega), Below.heap_setCell _ _ _ _ (by show k ≠ q + 1; omega), Below.heap_setCell _ _ _ _ (by show k ≠ q + 1; omega), Below.heap_setCell _ _ _ _ (by show k ≠ q + 1; omega), Below.heap_setCell _ _ _ _ (by show k ≠ q + 1 + 1; omega), Below.heap_setCell _ _ _ _ (by show k ≠ q + 1 + 1; omega)]
        · exact (((((((HB3.out.setCell (by show _ ≤ q + 1 + 1; omega) _).setCell (by show _ ≤ q + 1 + 1; omega) _).setCell (by show _ ≤ q + 1; omega) _).setCell (by show _ ≤ q + 1; omega) _).setCell (by show _ ≤ q + 1; omega) _).setCell (by show _ ≤ q + 1; omega) _).setCell (by show _ ≤ q + 1; omega) _).setCell (by show _ ≤ q + 1; omega) _
    · skip
      have HSM : Hid (Sl (fun k => X1.heap.size ≤ k) w2 (.slice (some ⟨b2, off2, none⟩) (msgB L t f s p data).length c2) (msgB L t f s p data)) := HS2
      have h0 : 0 < (msgB L t f s p data).length := by rw [HLM.out]; omega
      have hlim : (putB (-num) 4).length + (msgB L t f s p data).length ≤ 140737488355328 := by rw [HLM.out, putB_length]; omega
      have H0 := Lib.hid h0
      have HLIM := Lib.hid hlim
      clear h0 hlim
      go_wp2_with (at_builtin; go_must (refine row_list (v := .slice A1 4 c1) HO2.out HSM.out H0.out HW2.out HLIM.out rfl (.tmp 36) (.tmp 37) rfl rfl rfl ?_; intro A3 c3 w3 H3; have hL3 : (putB (-num) 4).length + (msgB L t f s p data).length = 4 + (msgB L t f s p data).length := (by rw [putB_length]); have H3 := (show Hid (Ob w3 W.heap.size (.slice A3 (4 + (msgB L t f s p data).length) c3) (putB (-num) 4 ++ (msgB L t f s p data)) ∧ w2.grownBy w3 (Value.slice A1 4 c1).ownBlock ∧ ((Value.slice A3 (4 + (msgB L t f s p data).length) c3).ownBlock = (Value.slice A1 4 c1).ownBlock ∨ ∃ b, (Value.slice A3 (4 + (msgB L t f s p data).length) c3).ownBlock = some b ∧ w2.heap.size ≤ b)) from by rw [← hL3]; exact H3); rw [hL3]; clear hL3; have hzn : ∀ i, W.heap.size > i → some i ≠ (Value.slice A1 4 c1).ownBlock := (fun i hi he => by have := own_base HO2.out i he.symm; omega); have kz3 := blk_grown HK2.out H3.out.2.1 (hzn (q + 1 + 1) (by have := HZ.out; omega)); have kk3 := blk_grown HK1.out H3.out.2.1 (hzn (q + 1) (by have := HZ.out; omega)); have HB3 : Hid (Below w.heap.size w w3) := Lib.hid (HB2.out.grown H3.out.2.1 HB2.out.size fun k hk => by have := own_base HO2.out k hk; have := HB.out.size; omega); have KZ3 := Lib.hid kz3; have KK3 := Lib.hid kk3; have HW3 : Hid (W.heap.size ≤ w3.heap.size) := Lib.hid (Nat.le_trans HW2.out H3.out.2.1.size); have y0 : w3.cell? ⟨q + 1 + 1, 0, none⟩ = some (.int .i64 0) := blk_cell kz3 0; have y1 : w3.cell? ⟨q + 1 + 1, 1, none⟩ = some (.int .i64 2) := blk_cell kz3 1; have y2 : w3.cell? ⟨q + 1 + 1, 2, none⟩ = some (.int .i64 0) := blk_cell kz3 2; have y3 : w3.cell? ⟨q + 1 + 1, 3, none⟩ = some (.int .i64 sq) := blk_cell kz3 3; have y4 : w3.cell? ⟨q + 1 + 1, 4, none⟩ = some (.int .i64 p) := blk_cell kz3 4; have y5 : w3.cell? ⟨q + 1 + 1, 5, none⟩ = some (.slice A1 4 c1) := blk_cell kz3 5; have yf0 : w3.frozen? ⟨q + 1 + 1, 0, none⟩ = false := blk_frozen kz3 0; have yf1 : w3.frozen? ⟨q + 1 + 1, 1, none⟩ = false := blk_frozen kz3 1; have yf2 : w3.frozen? ⟨q + 1 + 1, 2, none⟩ = false := blk_frozen kz3 2; have yf3 : w3.frozen? ⟨q + 1 + 1, 3, none⟩ = false := blk_frozen kz3 3; have yf4 : w3.frozen? ⟨q + 1 + 1, 4, none⟩ = false := blk_frozen kz3 4; have yf5 : w3.frozen? ⟨q + 1 + 1, 5, none⟩ = false := blk_frozen kz3 5; have x0 : w3.cell? ⟨q + 1, 0, none⟩ = some (.int .i64 0) := blk_cell kk3 0; have x1 : w3.cell? ⟨q + 1, 1, none⟩ = some (.int .i64 0) := blk_cell kk3 1; have x2 : w3.cell? ⟨q + 1, 2, none⟩ = some (.int .i64 0) := blk_cell kk3 2; have x3 : w3.cell? ⟨q + 1, 3, none⟩ = some (.int .i64 0) := blk_cell kk3 3; have x4 : w3.cell? ⟨q + 1, 4, none⟩ = some (.int .i64 0) := blk_cell kk3 4; have x5 : w3.cell? ⟨q + 1, 5, none⟩ = some (.slice none 0 0) := blk_cell kk3 5; have xf0 : w3.frozen? ⟨q + 1, 0, none⟩ = false := blk_frozen kk3 0; have xf1 : w3.frozen? ⟨q + 1, 1, none⟩ = false := blk_frozen kk3 1; have xf2 : w3.frozen? ⟨q + 1, 2, none⟩ = false := blk_frozen kk3 2; have xf3 : w3.frozen? ⟨q + 1, 3, none⟩ = false := blk_frozen kk3 3; have xf4 : w3.frozen? ⟨q + 1, 4, none⟩ = false := blk_frozen kk3 4; have xf5 : w3.frozen? ⟨q + 1, 5, none⟩ = false := blk_frozen kk3 5; clear hzn kz3 kk3))
      have hqq := HQ.out
      have hzz := HZ.out
      obtain ⟨Y, hY⟩ : ∃ X, X = (w3.setCell ⟨q + 1 + 1, 5, none⟩ (.slice A3 (4 + (msgB L t f s p data).length) c3)).setCell ⟨q + 1 + 1, 2, none⟩ (.int .i64 512) := ⟨_, rfl⟩
      have gz : Y.heap[q + 1 + 1]? = some (mk6 0 2 512 sq p (.slice A3 (4 + (msgB L t f s p data).length) c3)) := by rw [hY]; exact mk6_flag (mk6_set KZ3.out _) 512
      have gk : Y.heap[q + 1]? = some (mk6 0 0 0 0 0 (.slice none 0 0)) := by rw [hY]; exact blk_far (blk_far KK3.out (by show q + 1 ≠ q + 1 + 1; omega) _) (by show q + 1 ≠ q + 1 + 1; omega) _
      have gO : Ob Y W.heap.size (.slice A3 (4 + (msgB L t f s p data).length) c3) (putB (-num) 4 ++ (msgB L t f s p data)) := by rw [hY]; exact own_move H3.out.1 fun k hk => by rw [Below.heap_setCell _ _ _ _ (by have := own_base H3.out.1 k hk; show k ≠ q + 1 + 1; omega), Below.heap_setCell _ _ _ _ (by have := own_base H3.out.1 k hk; show k ≠ q + 1 + 1; omega)]
      have gB : Below w.heap.size w Y := by rw [hY]; exact (HB3.out.setCell (by show _ ≤ q + 1 + 1; omega) _).setCell (by show _ ≤ q + 1 + 1; omega) _
      have gW : W.heap.size ≤ Y.heap.size := by rw [hY]; have := HW3.out; simpa [World.setCell] using this
      have hYs : Y.heap.size = w3.heap.size := by rw [hY]; simp [World.setCell]
      obtain ⟨V2, hV2⟩ : ∃ X, X = (Y.alloc (.cells #[.int .i64 1, .int .i64 8, .int .i64 0, .int .i64 0, .string text, .slice none 0 0, .slice none 0 0, .int .i64 2, .int .i64 2, .int .i64 0, .int .i64 off, .string ⟨#[]⟩, .slice none 0 0, .slice none 0 0] 65)).drew := ⟨_, rfl⟩
      have hbV : Below Y.heap.size Y V2 := by rw [hV2]; exact ((Below.refl _ _).alloc (Nat.le_refl _) _).drew
      have hnew : V2.heap[Y.heap.size]? = some (.cells #[.int .i64 1, .int .i64 8, .int .i64 0, .int .i64 0, .string text, .slice none 0 0, .slice none 0 0, .int .i64 2, .int .i64 2, .int .i64 0, .int .i64 off, .string ⟨#[]⟩, .slice none 0 0, .slice none 0 0] 65) := by rw [hV2]; exact heap_alloc_new Y _
      have HC4 := Lib.hid (fb24 1 false V2 (fun _ => True) (.slice (some ⟨Y.heap.size, 0, none⟩) 2 2) (toldF text off) (told_rd hnew) (told_pf text off htext hoff) (by simp [toldF]) (by decide))
      have gz2 := blk_below gz hbV
      have gk2 := blk_below gk hbV
      have gO2 := gO.below hbV
      have gB2 := below_then gB gB.size hbV
      have gW2 : W.heap.size ≤ V2.heap.size := Nat.le_trans gW hbV.size
      have n5 : Y.cell? ⟨q + 1 + 1, 5, none⟩ = some (.slice A3 (4 + (msgB L t f s p data).length) c3) := blk_cell gz 5
      have hzY : q + 1 + 1 < Y.heap.size := blk_lt gz
      have HGZ := Lib.hid gz2
      have HGK := Lib.hid gk2
      have HGO := Lib.hid gO2
      have HGB := Lib.hid gB2
      have HGW := Lib.hid gW2
      have HY := Lib.hid hY
      have HYS := Lib.hid hYs
      have HV2 := Lib.hid hV2
      have hD1l : ((putB (-num) 4 ++ (msgB L t f s p data))).length = (4 + (msgB L t f s p data).length) := by rw [List.length_append, putB_length]
      have HD1L := Lib.hid hD1l
      clear gz gk gO gB gW hbV hnew gz2 gk2 gO2 gB2 gW2 hV2 hD1l
      rw [← hY]
      clear hqq hzz hY hYs
      go_region_law (first
        | (go_simp; go_at_call 24; rw [← HV2.out]; refine HC4.out.mono ?_; rintro e w4 ⟨u4, rfl, H4⟩
           have hb4 := H4.out.1
           rw [HTB.out] at hb4
           obtain ⟨A4, c4, rfl, _⟩ := Ob.form hb4
           have HB4 := Lib.hid hb4
           have gz4 := blk_below HGZ.out H4.out.2
           have n5b : w4.cell? ⟨q + 1 + 1, 5, none⟩ = some (.slice A3 (4 + (msgB L t f s p data).length) c3) := blk_cell gz4 5
           have HGZ4 := Lib.hid gz4
           have HGK4 := Lib.hid (blk_below HGK.out H4.out.2)
           have HGO4 := Lib.hid (HGO.out.below H4.out.2)
           have HGB4 := Lib.hid (below_then HGB.out HGB.out.size H4.out.2)
           have HGW4 : Hid (W.heap.size ≤ w4.heap.size) := Lib.hid (Nat.le_trans HGW.out H4.out.2.size)
           clear gz4 hb4)
        | (refine row_step (v := .slice A3 (4 + (msgB L t f s p data).length) c3) HGO4.out (Ob.sl HB4.out) HTD.out.1 HGW4.out (by rw [HD1L.out]; have := HTD.out.2; omega) (by rfl) (.tmp 46) (.tmp 52) (by rfl) (by rfl) (by rfl) ?_; intro A5 c5 w5 H5
           have hL5 : (putB (-num) 4 ++ (msgB L t f s p data)).length + (attrsB (toldA text off)).length = (4 + (msgB L t f s p data).length) + TL := (by rw [HD1L.out, HTL.out])
           have H5 := (show Hid (Ob w5 W.heap.size (.slice A5 ((4 + (msgB L t f s p data).length) + TL) c5) ((putB (-num) 4 ++ (msgB L t f s p data)) ++ attrsB (toldA text off)) ∧ w4.grownBy w5 (Value.slice A3 (4 + (msgB L t f s p data).length) c3).ownBlock ∧ ((Value.slice A5 ((4 + (msgB L t f s p data).length) + TL) c5).ownBlock = (Value.slice A3 (4 + (msgB L t f s p data).length) c3).ownBlock ∨ ∃ b, (Value.slice A5 ((4 + (msgB L t f s p data).length) + TL) c5).ownBlock = some b ∧ w4.heap.size ≤ b)) from (by rw [← hL5]; exact H5))
           rw [hL5]
           clear hL5
           have hzn : ∀ i, W.heap.size > i → some i ≠ (Value.slice A3 (4 + (msgB L t f s p data).length) c3).ownBlock := (fun i hi he => by have := own_base HGO4.out i he.symm; omega)
           have kz5 := blk_grown HGZ4.out H5.out.2.1 (hzn (q + 1 + 1) (by have := HZ.out; omega))
           have kk5 := blk_grown HGK4.out H5.out.2.1 (hzn (q + 1) (by have := HZ.out; omega))
           have HB5 : Hid (Below w.heap.size w w5) := Lib.hid (HGB4.out.grown H5.out.2.1 HGB4.out.size fun k hk => by have := own_base HGO4.out k hk; have := HB.out.size; omega)
           have r0 : w5.cell? ⟨q + 1 + 1, 0, none⟩ = some (.int .i64 0) := blk_cell kz5 0
           have r1 : w5.cell? ⟨q + 1 + 1, 1, none⟩ = some (.int .i64 2) := blk_cell kz5 1
           have r2 : w5.cell? ⟨q + 1 + 1, 2, none⟩ = some (.int .i64 512) := blk_cell kz5 2
           have r3 : w5.cell? ⟨q + 1 + 1, 3, none⟩ = some (.int .i64 sq) := blk_cell kz5 3
           have r4 : w5.cell? ⟨q + 1 + 1, 4, none⟩ = some (.int .i64 p) := blk_cell kz5 4
           have r5 : w5.cell? ⟨q + 1 + 1, 5, none⟩ = some (.slice A3 (4 + (msgB L t f s p data).length) c3) := blk_cell kz5 5
           have rf0 : w5.frozen? ⟨q + 1 + 1, 0, none⟩ = false := blk_frozen kz5 0
           have rf1 : w5.frozen? ⟨q + 1 + 1, 1, none⟩ = false := blk_frozen kz5 1
           have rf2 : w5.frozen? ⟨q + 1 + 1, 2, none⟩ = false := blk_frozen kz5 2
           have rf3 : w5.frozen? ⟨q + 1 + 1, 3, none⟩ = false := blk_frozen kz5 3
           have rf4 : w5.frozen? ⟨q + 1 + 1, 4, none⟩ = false := blk_frozen kz5 4
           have rf5 : w5.frozen? ⟨q + 1 + 1, 5, none⟩ = false := blk_frozen kz5 5
           have l0 : w5.cell? ⟨q + 1, 0, none⟩ = some (.int .i64 0) := blk_cell kk5 0
           have l1 : w5.cell? ⟨q + 1, 1, none⟩ = some (.int .i64 0) := blk_cell kk5 1
           have l2 : w5.cell? ⟨q + 1, 2, none⟩ = some (.int .i64 0) := blk_cell kk5 2
           have l3 : w5.cell? ⟨q + 1, 3, none⟩ = some (.int .i64 0) := blk_cell kk5 3
           have l4 : w5.cell? ⟨q + 1, 4, none⟩ = some (.int .i64 0) := blk_cell kk5 4
           have l5 : w5.cell? ⟨q + 1, 5, none⟩ = some (.slice none 0 0) := blk_cell kk5 5
           have lf0 : w5.frozen? ⟨q + 1, 0, none⟩ = false := blk_frozen kk5 0
           have lf1 : w5.frozen? ⟨q + 1, 1, none⟩ = false := blk_frozen kk5 1
           have lf2 : w5.frozen? ⟨q + 1, 2, none⟩ = false := blk_frozen kk5 2
           have lf3 : w5.frozen? ⟨q + 1, 3, none⟩ = false := blk_frozen kk5 3
           have lf4 : w5.frozen? ⟨q + 1, 4, none⟩ = false := blk_frozen kk5 4
           have lf5 : w5.frozen? ⟨q + 1, 5, none⟩ = false := blk_frozen kk5 5
           have HKK5 := Lib.hid kk5
           clear hzn kz5 kk5))
      all_goals
        go_wp2_with fail
        have hD : failD num L t f s p data false true text off = (putB (-num) 4 ++ (msgB L t f s p data)) ++ attrsB (toldA text off) := by simp [failD]
        have hDl : ((putB (-num) 4 ++ (msgB L t f s p data)) ++ attrsB (toldA text off)).length = ((4 + (msgB L t f s p data).length) + TL) := by rw [List.length_append, HD1L.out, HTL.out]
        have hqq := HQ.out
        have hzz := HZ.out
        refine bodyPost_ret (results_cell_row Try.results42 _ _ (q + 1) 43 #[.int .i64 (16 + ((((4 + (msgB L t f s p data).length) + TL) : Nat) : Int)), .int .i64 2, .int .i64 512, .int .i64 sq, .int .i64 p, .slice A5 ((4 + (msgB L t f s p data).length) + TL) c5] (0, 0) _ rfl ?_ Try.underlying43 rfl (by rw [size43]; rfl)) rfl ?_
        · have h0 := blk_far (blk_far HKK5.out (p := ⟨q + 1 + 1, 5, none⟩) (by show q + 1 ≠ q + 1 + 1; omega) (.slice A5 ((4 + (msgB L t f s p data).length) + TL) c5)) (p := ⟨q + 1 + 1, 0, none⟩) (by show q + 1 ≠ q + 1 + 1; omega) (.int .i64 (16 + ((((4 + (msgB L t f s p data).length) + TL) : Nat) : Int)))
          have h1 := blk_set (blk_set (blk_set (blk_set (blk_set (blk_set h0 0 (.int .i64 (16 + ((((4 + (msgB L t f s p data).length) + TL) : Nat) : Int)))) 1 (.int .i64 2)) 2 (.int .i64 512)) 3 (.int .i64 sq)) 4 (.int .i64 p)) 5 (.slice A5 ((4 + (msgB L t f s p data).length) + TL) c5)
          simpa using h1
        · refine ⟨.slice A5 ((4 + (msgB L t f s p data).length) + TL) c5, ?_, Lib.hid ⟨?_, ?_⟩⟩
          · rw [hD, hDl]; rfl
          · rw [hD]
            have h1 := Ob.sl H5.out.1
            refine (h1.step fun k hk _ => ?_).mono fun k hk => by omega
            rw [Below.heap_setCell _ _ _ _ (by show k ≠ q + 1; omega), Below.heap_setCell _ _ _ _ (by show k ≠ q + 1; omega), Below.heap_setCell _ _ _ _ (by show k ≠ q + 1; omega), Below.heap_setCell _ _ _ _ (by show k ≠ q + 1; omega), Below.heap_setCell _ _ _ _ (by show k ≠ q + 1; omega), Below.heap_setCell _ _ _ _ (by show k ≠ q + 1; omega), Below.heap_setCell _ _ _ _ (by show k ≠ q + 1 + 1; omega), Below.heap_setCell _ _ _ _ (by show k ≠ q + 1 + 1; omega)]
          · exact (((((((HB5.out.setCell (by show _ ≤ q + 1 + 1; omega) _).setCell (by show _ ≤ q + 1 + 1; omega) _).setCell (by show _ ≤ q + 1; omega) _).setCell (by show _ ≤ q + 1; omega) _).setCell (by show _ ≤ q + 1; omega) _).setCell (by show _ ≤ q + 1; omega) _).setCell (by show _ ≤ q + 1; omega) _).setCell (by show _ ≤ q + 1; omega) _
  · cases told
    · skip
      obtain ⟨V, hV⟩ : ∃ X, X = w2.setCell ⟨q + 1 + 1, 2, none⟩ (.int .i64 256) := ⟨_, rfl⟩
      have hqz := HZ.out
      have HVZ : Hid (V.heap[q + 1 + 1]? = some (mk6 0 2 256 sq p (.slice A1 4 c1))) := Lib.hid (by rw [hV]; exact mk6_flag HK2.out 256)
      have HVK1 : Hid (V.heap[q + 1]? = some (mk6 0 0 0 0 0 (.slice none 0 0))) := Lib.hid (by rw [hV]; exact blk_far HK1.out (by show q + 1 ≠ q + 1 + 1; omega) _)
      have HVO : Hid (Ob V W.heap.size (.slice A1 4 c1) (putB (-num) 4)) := Lib.hid (by rw [hV]; exact own_move HO2.out fun k hk => Below.heap_setCell _ _ _ _ (by have := own_base HO2.out k hk; show k ≠ q + 1 + 1; omega))
      have HVB : Hid (Below w.heap.size w V) := Lib.hid (by rw [hV]; exact HB2.out.setCell (by have := HQ.out; show _ ≤ q + 1 + 1; omega) _)
      have HVW : Hid (W.heap.size ≤ V.heap.size) := Lib.hid (by rw [hV]; have := HW2.out; simpa [World.setCell] using this)
      have HVS : Hid (Sl (fun k => X1.heap.size ≤ k) V (.slice (some ⟨b2, off2, none⟩) 16 c2) ((msgB L t f s p data).take 16)) := Lib.hid (by
        rw [hV]
        have h1 := HS2.out
        have h2 := h1.sub 0 16 (by omega) (by rw [HLM.out]; omega) (some ⟨b2, off2, none⟩) (fun _ => rfl)
        simp only [Nat.sub_zero, List.drop_zero] at h2
        exact h2.step fun k hk _ => Below.heap_setCell _ _ _ _ (by have := HWX.out; show k ≠ q + 1 + 1; omega))
      have HV := Lib.hid hV
      clear hV hqz
      have h0 : 0 < ((msgB L t f s p data).take 16).length := by rw [HT16.out]; omega
      have hlim : (putB (-num) 4).length + ((msgB L t f s p data).take 16).length ≤ 140737488355328 := by rw [HT16.out, putB_length]; omega
      have H0 := Lib.hid h0
      have HLIM := Lib.hid hlim
      clear h0 hlim
      go_wp2_with (at_builtin; rw [← HV.out]; go_must (refine row_list (v := .slice A1 4 c1) HVO.out HVS.out H0.out HVW.out HLIM.out rfl (.tmp 36) (.tmp 37) rfl rfl rfl ?_; intro A3 c3 w3 H3; have hL3 : (putB (-num) 4).length + ((msgB L t f s p data).take 16).length = 4 + 16 := (by rw [putB_length]; rw [HT16.out]); have H3 := (show Hid (Ob w3 W.heap.size (.slice A3 (4 + 16) c3) (putB (-num) 4 ++ ((msgB L t f s p data).take 16)) ∧ V.grownBy w3 (Value.slice A1 4 c1).ownBlock ∧ ((Value.slice A3 (4 + 16) c3).ownBlock = (Value.slice A1 4 c1).ownBlock ∨ ∃ b, (Value.slice A3 (4 + 16) c3).ownBlock = some b ∧ V.heap.size ≤ b)) from by rw [← hL3]; exact H3); rw [hL3]; clear hL3; have hzn : ∀ i, W.heap.size > i → some i ≠ (Value.slice A1 4 c1).ownBlock := (fun i hi he => by have := own_base HVO.out i he.symm; omega); have kz3 := blk_grown HVZ.out H3.out.2.1 (hzn (q + 1 + 1) (by have := HZ.out; omega)); have kk3 := blk_grown HVK1.out H3.out.2.1 (hzn (q + 1) (by have := HZ.out; omega)); have HB3 : Hid (Below w.heap.size w w3) := Lib.hid (HVB.out.grown H3.out.2.1 HVB.out.size fun k hk => by have := own_base HVO.out k hk; have := HB.out.size; omega); have KZ3 := Lib.hid kz3; have KK3 := Lib.hid kk3; have HW3 : Hid (W.heap.size ≤ w3.heap.size) := Lib.hid (Nat.le_trans HVW.out H3.out.2.1.size); have y0 : w3.cell? ⟨q + 1 + 1, 0, none⟩ = some (.int .i64 0) := blk_cell kz3 0; have y1 : w3.cell? ⟨q + 1 + 1, 1, none⟩ = some (.int .i64 2) := blk_cell kz3 1; have y2 : w3.cell? ⟨q + 1 + 1, 2, none⟩ = some (.int .i64 256) := blk_cell kz3 2; have y3 : w3.cell? ⟨q + 1 + 1, 3, none⟩ = some (.int .i64 sq) := blk_cell kz3 3; have y4 : w3.cell? ⟨q + 1 + 1, 4, none⟩ = some (.int .i64 p) := blk_cell kz3 4; have y5 : w3.cell? ⟨q + 1 + 1, 5, none⟩ = some (.slice A1 4 c1) := blk_cell kz3 5; have yf0 : w3.frozen? ⟨q + 1 + 1, 0, none⟩ = false := blk_frozen kz3 0; have yf1 : w3.frozen? ⟨q + 1 + 1, 1, none⟩ = false := blk_frozen kz3 1; have yf2 : w3.frozen? ⟨q + 1 + 1, 2, none⟩ = false := blk_frozen kz3 2; have yf3 : w3.frozen? ⟨q + 1 + 1, 3, none⟩ = false := blk_frozen kz3 3; have yf4 : w3.frozen? ⟨q + 1 + 1, 4, none⟩ = false := blk_frozen kz3 4; have yf5 : w3.frozen? ⟨q + 1 + 1, 5, none⟩ = false := blk_frozen kz3 5; have x0 : w3.cell? ⟨q + 1, 0, none⟩ = some (.int .i64 0) := blk_cell kk3 0; have x1 : w3.cell? ⟨q + 1, 1, none⟩ = some (.int .i64 0) := blk_cell kk3 1; have x2 : w3.cell? ⟨q + 1, 2, none⟩ = some (.int .i64 0) := blk_cell kk3 2; have x3 : w3.cell? ⟨q + 1, 3, none⟩ = some (.int .i64 0) := blk_cell kk3 3; have x4 : w3.cell? ⟨q + 1, 4, none⟩ = some (.int .i64 0) := blk_cell kk3 4; have x5 : w3.cell? ⟨q + 1, 5, none⟩ = some (.slice none 0 0) := blk_cell kk3 5; have xf0 : w3.frozen? ⟨q + 1, 0, none⟩ = false := blk_frozen kk3 0; have xf1 : w3.frozen? ⟨q + 1, 1, none⟩ = false := blk_frozen kk3 1; have xf2 : w3.frozen? ⟨q + 1, 2, none⟩ = false := blk_frozen kk3 2; have xf3 : w3.frozen? ⟨q + 1, 3, none⟩ = false := blk_frozen kk3 3; have xf4 : w3.frozen? ⟨q + 1, 4, none⟩ = false := blk_frozen kk3 4; have xf5 : w3.frozen? ⟨q + 1, 5, none⟩ = false := blk_frozen kk3 5; clear hzn kz3 kk3))
      have hD : failD num L t f s p data true false text off = putB (-num) 4 ++ ((msgB L t f s p data).take 16) := by simp [failD]
      have hDl : (putB (-num) 4 ++ ((msgB L t f s p data).take 16)).length = (4 + 16) := by rw [List.length_append, putB_length]; rw [HT16.out]
      have hqq := HQ.out
      have hzz := HZ.out
      refine bodyPost_ret (results_cell_row Try.results42 _ _ (q + 1) 43 #[.int .i64 (16 + (((4 + 16) : Nat) : Int)), .int .i64 2, .int .i64 256, .int .i64 sq, .int .i64 p, .slice A3 (4 + 16) c3] (0, 0) _ rfl ?_ Try.underlying43 rfl (by rw [size43]; rfl)) rfl ?_
      · have h0 := blk_far (blk_far KK3.out (p := ⟨q + 1 + 1, 5, none⟩) (by show q + 1 ≠ q + 1 + 1; omega) (.slice A3 (4 + 16) c3)) (p := ⟨q + 1 + 1, 0, none⟩) (by show q + 1 ≠ q + 1 + 1; omega) (.int .i64 (16 + (((4 + 16) : Nat) : Int)))
        have h1 := blk_set (blk_set (blk_set (blk_set (blk_set (blk_set h0 0 (.int .i64 (16 + (((4 + 16) : Nat) : Int)))) 1 (.int .i64 2)) 2 (.int .i64 256)) 3 (.int .i64 sq)) 4 (.int .i64 p)) 5 (.slice A3 (4 + 16) c3)
        simpa using h1
      · refine ⟨.slice A3 (4 + 16) c3, ?_, Lib.hid ⟨?_, ?_⟩⟩
        · rw [hD, hDl]; rfl
        · rw [hD]
          have h1 := Ob.sl H3.out.1
          refine (h1.step fun k hk _ => ?_).mono fun k hk => by omega
          rw [Below.heap_setCell _ _ _ _ (by show k ≠ q + 1; omega), Below.heap_setCell _ _ _ _ (by show k ≠ q + 1; omega), Below.heap_setCell _ _ _ _ (by show k ≠ q + 1; omega), Below.heap_setCell _ _ _ _ (by show k ≠ q + 1; omega), Below.heap_setCell _ _ _ _ (by show k ≠ q + 1; omega), Below.heap_setCell _ _ _ _ (by show k ≠ q + 1; omega), Below.heap_setCell _ _ _ _ (by show k ≠ q + 1 + 1; omega), Below.heap_setCell _ _ _ _ (by show k ≠ q + 1 + 1; omega)]
        · exact (((((((HB3.out.setCell (by show _ ≤ q + 1 + 1; omega) _).setCell (by show _ ≤ q + 1 + 1; omega) _).setCell (by show _ ≤ q + 1; omega) _).setCell (by show _ ≤ q + 1; omega) _).setCell (by show _ ≤ q + 1; omega) _).setCell (by show _ ≤ q + 1; omega) _).setCell (by show _ ≤ q + 1; omega) _).setCell (by show _ ≤ q + 1; omega) _
    · skip
      obtain ⟨V, hV⟩ : ∃ X, X = w2.setCell ⟨q + 1 + 1, 2, none⟩ (.int .i64 256) := ⟨_, rfl⟩
      have hqz := HZ.out
      have HVZ : Hid (V.heap[q + 1 + 1]? = some (mk6 0 2 256 sq p (.slice A1 4 c1))) := Lib.hid (by rw [hV]; exact mk6_flag HK2.out 256)
      have HVK1 : Hid (V.heap[q + 1]? = some (mk6 0 0 0 0 0 (.slice none 0 0))) := Lib.hid (by rw [hV]; exact blk_far HK1.out (by show q + 1 ≠ q + 1 + 1; omega) _)
      have HVO : Hid (Ob V W.heap.size (.slice A1 4 c1) (putB (-num) 4)) := Lib.hid (by rw [hV]; exact own_move HO2.out fun k hk => Below.heap_setCell _ _ _ _ (by have := own_base HO2.out k hk; show k ≠ q + 1 + 1; omega))
      have HVB : Hid (Below w.heap.size w V) := Lib.hid (by rw [hV]; exact HB2.out.setCell (by have := HQ.out; show _ ≤ q + 1 + 1; omega) _)
      have HVW : Hid (W.heap.size ≤ V.heap.size) := Lib.hid (by rw [hV]; have := HW2.out; simpa [World.setCell] using this)
      have HVS : Hid (Sl (fun k => X1.heap.size ≤ k) V (.slice (some ⟨b2, off2, none⟩) 16 c2) ((msgB L t f s p data).take 16)) := Lib.hid (by
        rw [hV]
        have h1 := HS2.out
        have h2 := h1.sub 0 16 (by omega) (by rw [HLM.out]; omega) (some ⟨b2, off2, none⟩) (fun _ => rfl)
        simp only [Nat.sub_zero, List.drop_zero] at h2
        exact h2.step fun k hk _ => Below.heap_setCell _ _ _ _ (by have := HWX.out; show k ≠ q + 1 + 1; omega))
      have HV := Lib.hid hV
      clear hV hqz
      have h0 : 0 < ((msgB L t f s p data).take 16).length := by rw [HT16.out]; omega
      have hlim : (putB (-num) 4).length + ((msgB L t f s p data).take 16).length ≤ 140737488355328 := by rw [HT16.out, putB_length]; omega
      have H0 := Lib.hid h0
      have HLIM := Lib.hid hlim
      clear h0 hlim
      go_wp2_with (at_builtin; rw [← HV.out]; go_must (refine row_list (v := .slice A1 4 c1) HVO.out HVS.out H0.out HVW.out HLIM.out rfl (.tmp 36) (.tmp 37) rfl rfl rfl ?_; intro A3 c3 w3 H3; have hL3 : (putB (-num) 4).length + ((msgB L t f s p data).take 16).length = 4 + 16 := (by rw [putB_length]; rw [HT16.out]); have H3 := (show Hid (Ob w3 W.heap.size (.slice A3 (4 + 16) c3) (putB (-num) 4 ++ ((msgB L t f s p data).take 16)) ∧ V.grownBy w3 (Value.slice A1 4 c1).ownBlock ∧ ((Value.slice A3 (4 + 16) c3).ownBlock = (Value.slice A1 4 c1).ownBlock ∨ ∃ b, (Value.slice A3 (4 + 16) c3).ownBlock = some b ∧ V.heap.size ≤ b)) from by rw [← hL3]; exact H3); rw [hL3]; clear hL3; have hzn : ∀ i, W.heap.size > i → some i ≠ (Value.slice A1 4 c1).ownBlock := (fun i hi he => by have := own_base HVO.out i he.symm; omega); have kz3 := blk_grown HVZ.out H3.out.2.1 (hzn (q + 1 + 1) (by have := HZ.out; omega)); have kk3 := blk_grown HVK1.out H3.out.2.1 (hzn (q + 1) (by have := HZ.out; omega)); have HB3 : Hid (Below w.heap.size w w3) := Lib.hid (HVB.out.grown H3.out.2.1 HVB.out.size fun k hk => by have := own_base HVO.out k hk; have := HB.out.size; omega); have KZ3 := Lib.hid kz3; have KK3 := Lib.hid kk3; have HW3 : Hid (W.heap.size ≤ w3.heap.size) := Lib.hid (Nat.le_trans HVW.out H3.out.2.1.size); have y0 : w3.cell? ⟨q + 1 + 1, 0, none⟩ = some (.int .i64 0) := blk_cell kz3 0; have y1 : w3.cell? ⟨q + 1 + 1, 1, none⟩ = some (.int .i64 2) := blk_cell kz3 1; have y2 : w3.cell? ⟨q + 1 + 1, 2, none⟩ = some (.int .i64 256) := blk_cell kz3 2; have y3 : w3.cell? ⟨q + 1 + 1, 3, none⟩ = some (.int .i64 sq) := blk_cell kz3 3; have y4 : w3.cell? ⟨q + 1 + 1, 4, none⟩ = some (.int .i64 p) := blk_cell kz3 4; have y5 : w3.cell? ⟨q + 1 + 1, 5, none⟩ = some (.slice A1 4 c1) := blk_cell kz3 5; have yf0 : w3.frozen? ⟨q + 1 + 1, 0, none⟩ = false := blk_frozen kz3 0; have yf1 : w3.frozen? ⟨q + 1 + 1, 1, none⟩ = false := blk_frozen kz3 1; have yf2 : w3.frozen? ⟨q + 1 + 1, 2, none⟩ = false := blk_frozen kz3 2; have yf3 : w3.frozen? ⟨q + 1 + 1, 3, none⟩ = false := blk_frozen kz3 3; have yf4 : w3.frozen? ⟨q + 1 + 1, 4, none⟩ = false := blk_frozen kz3 4; have yf5 : w3.frozen? ⟨q + 1 + 1, 5, none⟩ = false := blk_frozen kz3 5; have x0 : w3.cell? ⟨q + 1, 0, none⟩ = some (.int .i64 0) := blk_cell kk3 0; have x1 : w3.cell? ⟨q + 1, 1, none⟩ = some (.int .i64 0) := blk_cell kk3 1; have x2 : w3.cell? ⟨q + 1, 2, none⟩ = some (.int .i64 0) := blk_cell kk3 2; have x3 : w3.cell? ⟨q + 1, 3, none⟩ = some (.int .i64 0) := blk_cell kk3 3; have x4 : w3.cell? ⟨q + 1, 4, none⟩ = some (.int .i64 0) := blk_cell kk3 4; have x5 : w3.cell? ⟨q + 1, 5, none⟩ = some (.slice none 0 0) := blk_cell kk3 5; have xf0 : w3.frozen? ⟨q + 1, 0, none⟩ = false := blk_frozen kk3 0; have xf1 : w3.frozen? ⟨q + 1, 1, none⟩ = false := blk_frozen kk3 1; have xf2 : w3.frozen? ⟨q + 1, 2, none⟩ = false := blk_frozen kk3 2; have xf3 : w3.frozen? ⟨q + 1, 3, none⟩ = false := blk_frozen kk3 3; have xf4 : w3.frozen? ⟨q + 1, 4, none⟩ = false := blk_frozen kk3 4; have xf5 : w3.frozen? ⟨q + 1, 5, none⟩ = false := blk_frozen kk3 5; clear hzn kz3 kk3))
      have hqq := HQ.out
      have hzz := HZ.out
      obtain ⟨Y, hY⟩ : ∃ X, X = (w3.setCell ⟨q + 1 + 1, 5, none⟩ (.slice A3 (4 + 16) c3)).setCell ⟨q + 1 + 1, 2, none⟩ (.int .i64 768) := ⟨_, rfl⟩
      have gz : Y.heap[q + 1 + 1]? = some (mk6 0 2 768 sq p (.slice A3 (4 + 16) c3)) := by rw [hY]; exact mk6_flag (mk6_set KZ3.out _) 768
      have gk : Y.heap[q + 1]? = some (mk6 0 0 0 0 0 (.slice none 0 0)) := by rw [hY]; exact blk_far (blk_far KK3.out (by show q + 1 ≠ q + 1 + 1; omega) _) (by show q + 1 ≠ q + 1 + 1; omega) _
      have gO : Ob Y W.heap.size (.slice A3 (4 + 16) c3) (putB (-num) 4 ++ ((msgB L t f s p data).take 16)) := by rw [hY]; exact own_move H3.out.1 fun k hk => by rw [Below.heap_setCell _ _ _ _ (by have := own_base H3.out.1 k hk; show k ≠ q + 1 + 1; omega), Below.heap_setCell _ _ _ _ (by have := own_base H3.out.1 k hk; show k ≠ q + 1 + 1; omega)]
      have gB : Below w.heap.size w Y := by rw [hY]; exact (HB3.out.setCell (by show _ ≤ q + 1 + 1; omega) _).setCell (by show _ ≤ q + 1 + 1; omega) _
      have gW : W.heap.size ≤ Y.heap.size := by rw [hY]; have := HW3.out; simpa [World.setCell] using this
      have hYs : Y.heap.size = w3.heap.size := by rw [hY]; simp [World.setCell]
      obtain ⟨V2, hV2⟩ : ∃ X, X = (Y.alloc (.cells #[.int .i64 1, .int .i64 8, .int .i64 0, .int .i64 0, .string text, .slice none 0 0, .slice none 0 0, .int .i64 2, .int .i64 2, .int .i64 0, .int .i64 off, .string ⟨#[]⟩, .slice none 0 0, .slice none 0 0] 65)).drew := ⟨_, rfl⟩
      have hbV : Below Y.heap.size Y V2 := by rw [hV2]; exact ((Below.refl _ _).alloc (Nat.le_refl _) _).drew
      have hnew : V2.heap[Y.heap.size]? = some (.cells #[.int .i64 1, .int .i64 8, .int .i64 0, .int .i64 0, .string text, .slice none 0 0, .slice none 0 0, .int .i64 2, .int .i64 2, .int .i64 0, .int .i64 off, .string ⟨#[]⟩, .slice none 0 0, .slice none 0 0] 65) := by rw [hV2]; exact heap_alloc_new Y _
      have HC4 := Lib.hid (fb24 1 false V2 (fun _ => True) (.slice (some ⟨Y.heap.size, 0, none⟩) 2 2) (toldF text off) (told_rd hnew) (told_pf text off htext hoff) (by simp [toldF]) (by decide))
      have gz2 := blk_below gz hbV
      have gk2 := blk_below gk hbV
      have gO2 := gO.below hbV
      have gB2 := below_then gB gB.size hbV
      have gW2 : W.heap.size ≤ V2.heap.size := Nat.le_trans gW hbV.size
      have n5 : Y.cell? ⟨q + 1 + 1, 5, none⟩ = some (.slice A3 (4 + 16) c3) := blk_cell gz 5
      have hzY : q + 1 + 1 < Y.heap.size := blk_lt gz
      have HGZ := Lib.hid gz2
      have HGK := Lib.hid gk2
      have HGO := Lib.hid gO2
      have HGB := Lib.hid gB2
      have HGW := Lib.hid gW2
      have HY := Lib.hid hY
      have HYS := Lib.hid hYs
      have HV2 := Lib.hid hV2
      have hD1l : ((putB (-num) 4 ++ ((msgB L t f s p data).take 16))).length = (4 + 16) := by rw [List.length_append, putB_length]; rw [HT16.out]
      have HD1L := Lib.hid hD1l
      clear gz gk gO gB gW hbV hnew gz2 gk2 gO2 gB2 gW2 hV2 hD1l
      rw [← hY]
      clear hqq hzz hY hYs
      go_region_law (first
        | (go_simp; go_at_call 24; rw [← HV2.out]; refine HC4.out.mono ?_; rintro e w4 ⟨u4, rfl, H4⟩
           have hb4 := H4.out.1
           rw [HTB.out] at hb4
           obtain ⟨A4, c4, rfl, _⟩ := Ob.form hb4
           have HB4 := Lib.hid hb4
           have gz4 := blk_below HGZ.out H4.out.2
           have n5b : w4.cell? ⟨q + 1 + 1, 5, none⟩ = some (.slice A3 (4 + 16) c3) := blk_cell gz4 5
           have HGZ4 := Lib.hid gz4
           have HGK4 := Lib.hid (blk_below HGK.out H4.out.2)
           have HGO4 := Lib.hid (HGO.out.below H4.out.2)
           have HGB4 := Lib.hid (below_then HGB.out HGB.out.size H4.out.2)
           have HGW4 : Hid (W.heap.size ≤ w4.heap.size) := Lib.hid (Nat.le_trans HGW.out H4.out.2.size)
           clear gz4 hb4)
        | (refine row_step (v := .slice A3 (4 + 16) c3) HGO4.out (Ob.sl HB4.out) HTD.out.1 HGW4.out (by rw [HD1L.out]; have := HTD.out.2; omega) (by rfl) (.tmp 46) (.tmp 52) (by rfl) (by rfl) (by rfl) ?_; intro A5 c5 w5 H5
           have hL5 : (putB (-num) 4 ++ ((msgB L t f s p data).take 16)).length + (attrsB (toldA text off)).length = (4 + 16) + TL := (by rw [HD1L.out, HTL.out])
           have H5 := (show Hid (Ob w5 W.heap.size (.slice A5 ((4 + 16) + TL) c5) ((putB (-num) 4 ++ ((msgB L t f s p data).take 16)) ++ attrsB (toldA text off)) ∧ w4.grownBy w5 (Value.slice A3 (4 + 16) c3).ownBlock ∧ ((Value.slice A5 ((4 + 16) + TL) c5).ownBlock = (Value.slice A3 (4 + 16) c3).ownBlock ∨ ∃ b, (Value.slice A5 ((4 + 16) + TL) c5).ownBlock = some b ∧ w4.heap.size ≤ b)) from (by rw [← hL5]; exact H5))
           rw [hL5]
           clear hL5
           have hzn : ∀ i, W.heap.size > i → some i ≠ (Value.slice A3 (4 + 16) c3).ownBlock := (fun i hi he => by have := own_base HGO4.out i he.symm; omega)
           have kz5 := blk_grown HGZ4.out H5.out.2.1 (hzn (q + 1 + 1) (by have := HZ.out; omega))
           have kk5 := blk_grown HGK4.out H5.out.2.1 (hzn (q + 1) (by have := HZ.out; omega))
           have HB5 : Hid (Below w.heap.size w w5) := Lib.hid (HGB4.out.grown H5.out.2.1 HGB4.out.size fun k hk => by have := own_base HGO4.out k hk; have := HB.out.size; omega)
           have r0 : w5.cell? ⟨q + 1 + 1, 0, none⟩ = some (.int .i64 0) := blk_cell kz5 0
           have r1 : w5.cell? ⟨q + 1 + 1, 1, none⟩ = some (.int .i64 2) := blk_cell kz5 1
           have r2 : w5.cell? ⟨q + 1 + 1, 2, none⟩ = some (.int .i64 768) := blk_cell kz5 2
           have r3 : w5.cell? ⟨q + 1 + 1, 3, none⟩ = some (.int .i64 sq) := blk_cell kz5 3
           have r4 : w5.cell? ⟨q + 1 + 1, 4, none⟩ = some (.int .i64 p) := blk_cell kz5 4
           have r5 : w5.cell? ⟨q + 1 + 1, 5, none⟩ = some (.slice A3 (4 + 16) c3) := blk_cell kz5 5
           have rf0 : w5.frozen? ⟨q + 1 + 1, 0, none⟩ = false := blk_frozen kz5 0
           have rf1 : w5.frozen? ⟨q + 1 + 1, 1, none⟩ = false := blk_frozen kz5 1
           have rf2 : w5.frozen? ⟨q + 1 + 1, 2, none⟩ = false := blk_frozen kz5 2
           have rf3 : w5.frozen? ⟨q + 1 + 1, 3, none⟩ = false := blk_frozen kz5 3
           have rf4 : w5.frozen? ⟨q + 1 + 1, 4, none⟩ = false := blk_frozen kz5 4
           have rf5 : w5.frozen? ⟨q + 1 + 1, 5, none⟩ = false := blk_frozen kz5 5
           have l0 : w5.cell? ⟨q + 1, 0, none⟩ = some (.int .i64 0) := blk_cell kk5 0
           have l1 : w5.cell? ⟨q + 1, 1, none⟩ = some (.int .i64 0) := blk_cell kk5 1
           have l2 : w5.cell? ⟨q + 1, 2, none⟩ = some (.int .i64 0) := blk_cell kk5 2
           have l3 : w5.cell? ⟨q + 1, 3, none⟩ = some (.int .i64 0) := blk_cell kk5 3
           have l4 : w5.cell? ⟨q + 1, 4, none⟩ = some (.int .i64 0) := blk_cell kk5 4
           have l5 : w5.cell? ⟨q + 1, 5, none⟩ = some (.slice none 0 0) := blk_cell kk5 5
           have lf0 : w5.frozen? ⟨q + 1, 0, none⟩ = false := blk_frozen kk5 0
           have lf1 : w5.frozen? ⟨q + 1, 1, none⟩ = false := blk_frozen kk5 1
           have lf2 : w5.frozen? ⟨q + 1, 2, none⟩ = false := blk_frozen kk5 2
           have lf3 : w5.frozen? ⟨q + 1, 3, none⟩ = false := blk_frozen kk5 3
           have lf4 : w5.frozen? ⟨q + 1, 4, none⟩ = false := blk_frozen kk5 4
           have lf5 : w5.frozen? ⟨q + 1, 5, none⟩ = false := blk_frozen kk5 5
           have HKK5 := Lib.hid kk5
           clear hzn kz5 kk5))
      all_goals
        go_wp2_with fail
        have hD : failD num L t f s p data true true text off = (putB (-num) 4 ++ ((msgB L t f s p data).take 16)) ++ attrsB (toldA text off) := by simp [failD]
        have hDl : ((putB (-num) 4 ++ ((msgB L t f s p data).take 16)) ++ attrsB (toldA text off)).length = ((4 + 16) + TL) := by rw [List.length_append, HD1L.out, HTL.out]
        have hqq := HQ.out
        have hzz := HZ.out
        refine bodyPost_ret (results_cell_row Try.results42 _ _ (q + 1) 43 #[.int .i64 (16 + ((((4 + 16) + TL) : Nat) : Int)), .int .i64 2, .int .i64 768, .int .i64 sq, .int .i64 p, .slice A5 ((4 + 16) + TL) c5] (0, 0) _ rfl ?_ Try.underlying43 rfl (by rw [size43]; rfl)) rfl ?_
        · have h0 := blk_far (blk_far HKK5.out (p := ⟨q + 1 + 1, 5, none⟩) (by show q + 1 ≠ q + 1 + 1; omega) (.slice A5 ((4 + 16) + TL) c5)) (p := ⟨q + 1 + 1, 0, none⟩) (by show q + 1 ≠ q + 1 + 1; omega) (.int .i64 (16 + ((((4 + 16) + TL) : Nat) : Int)))
          have h1 := blk_set (blk_set (blk_set (blk_set (blk_set (blk_set h0 0 (.int .i64 (16 + ((((4 + 16) + TL) : Nat) : Int)))) 1 (.int .i64 2)) 2 (.int .i64 768)) 3 (.int .i64 sq)) 4 (.int .i64 p)) 5 (.slice A5 ((4 + 16) + TL) c5)
          simpa using h1
        · refine ⟨.slice A5 ((4 + 16) + TL) c5, ?_, Lib.hid ⟨?_, ?_⟩⟩
          · rw [hD, hDl]; rfl
          · rw [hD]
            have h1 := Ob.sl H5.out.1
            refine (h1.step fun k hk _ => ?_).mono fun k hk => by omega
            rw [Below.heap_setCell _ _ _ _ (by show k ≠ q + 1; omega), Below.heap_setCell _ _ _ _ (by show k ≠ q + 1; omega), Below.heap_setCell _ _ _ _ (by show k ≠ q + 1; omega), Below.heap_setCell _ _ _ _ (by show k ≠ q + 1; omega), Below.heap_setCell _ _ _ _ (by show k ≠ q + 1; omega), Below.heap_setCell _ _ _ _ (by show k ≠ q + 1; omega), Below.heap_setCell _ _ _ _ (by show k ≠ q + 1 + 1; omega), Below.heap_setCell _ _ _ _ (by show k ≠ q + 1 + 1; omega)]
          · exact (((((((HB5.out.setCell (by show _ ≤ q + 1 + 1; omega) _).setCell (by show _ ≤ q + 1 + 1; omega) _).setCell (by show _ ≤ q + 1; omega) _).setCell (by show _ ≤ q + 1; omega) _).setCell (by show _ ≤ q + 1; omega) _).setCell (by show _ ≤ q + 1; omega) _).setCell (by show _ ≤ q + 1; omega) _).setCell (by show _ ≤ q + 1; omega) _
end Go.Proofs.Ytgijhgonpgidiaa
