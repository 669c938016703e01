/-
  The walks of FnFlag and FnWidth. No statement of the seat is proved here.
-/
import Derived.Test.YtgijhgonpgidiaaDecW
import Derived.Test.YtgijhgonpgidiaaDecX
import Derived.Test.YtgijhgonpgidiaaImplE
namespace Go.Proofs.Ytgijhgonpgidiaa
open Go.RowKit Go.Proofs.YtgijhgonpgidiaaW.PrintWords

theorem one_ok {data : List Int} (hl : data.length ≤ 100) : AOk [(1, data)] := fun a ha => by simp only [List.mem_cons, List.not_mem_nil, or_false] at ha; subst ha; exact ⟨by omega, by simp; omega⟩
theorem one_len {data : List Int} (hl : data.length ≤ 100) : (attrsB [(1, data)]).length ≤ 200 := by simp [attrB_length, attrsB]; have := padn_le data.length; omega
theorem one44 (kind : Int) (x : Nat) (dv : Value) (data : List Int) (ok : Nat → Prop) (w : World) (hK : w.heap[x]? = some (fldO 0 kind 0 0 ⟨#[]⟩ (.slice none 0 0) (.slice none 0 0))) (hS : Sl ok w dv (attrsB [(1, data)])) (hb : IsB data) (hdl : data.length ≤ 100)
    (hk : (0 ≤ kind ∧ kind ≤ 7 ∧ (data.length : Int) ≠ widthK kind) ∨ (kind = 10 ∧ data.length ≠ 0)) :
    Calls Try.prog 44 #[dv, .slice (some ⟨x, 0, none⟩) 1 1, .bool false] w fun e w' => e = .returned (.tuple #[.slice none 0 0, .bool false]) ∧ Hid (Below w.heap.size w w') := by
  have hib : ∀ a ∈ [((1 : Int), data)], IsB a.2 := fun a ha => by simp only [List.mem_cons, List.not_mem_nil, or_false] at ha; subst ha; exact hb
  refine decode44_bad false dv _ 1 1 [(1, data)] ok w hS (one_ok hdl) ⟨Nat.le_refl _, fun k hk => ?_⟩ hib (by have := one_len hdl; omega) (fun W1 g bv hB hg hkg hs => ?_)
  · have h0 : k = 0 := by simpa using hk
    subst h0
    rw [pos_zero]; simp [attrB_length, attrsB]
  · have k1 := blk_below hK hB
    have hx := blk_lt hK
    refine (dec78_bad W1 g x 0 1 kind _ bv data _ hkg hs (fun k hk => hk.2) hb hdl (by omega) (by have := hB.size; omega) (blk_cell k1 0) (blk_cell k1 1) (blk_cell k1 2) (blk_cell k1 3) (blk_cell k1 4) (blk_cell k1 5) (blk_cell k1 6) hk).mono ?_
    rintro e w' ⟨A6, c6, ty, y, rfl, h⟩
    exact ⟨_, _, _, _, _, rfl, h⟩

theorem one_rd {w : World} {b : Nat} {A : Option Addr} {c : Nat} {data : List Int} {ok : Nat → Prop} (h : w.heap[b]? = some (.cells #[.int .i64 1, .slice A data.length c] 61)) (hS : Sl ok w (.slice A data.length c) data) :
    elS.Rd (fun _ => True) w (.slice (some ⟨b, 0, none⟩) 1 1) [(1, data)] := by
  refine ⟨_, 1, rfl, Nat.le_refl _, by omega, fun _ => ⟨b, 0, rfl, trivial, fun i x hx => ?_⟩⟩
  cases i with
  | zero =>
    simp only [List.getElem?_cons_zero, Option.some.injEq] at hx
    subst hx
    refine ⟨[.int .i64 1, .slice A data.length c], fun j u hu => ?_, blk_lt h, _, rfl, hS.mono fun _ _ => trivial⟩
    rw [show (0 + (0 * elS.sz + j)) = j by simp, blk_cell h]
    simpa using hu
  | succ i => simp at hx

set_option maxRecDepth 100000 in
set_option maxHeartbeats 3200000 in
theorem walk16 (dv : Value) (data : List Int) (ok : Nat → Prop) (w : World) (hS : Sl ok w dv data) (hb : IsB data) :
    Calls Try.prog 16 #[dv] w fun e w' => e = .returned (.bool true) ∧ Below w.heap.size w w' := by
  have hdl0 := hS.len
  obtain ⟨A, c, rfl, _⟩ := hS.form
  have HS := Lib.hid hS
  have HIB := Lib.hid hb
  clear hS hb
  by_cases h1 : 2147483647 < data.length
  · go_enter Try.func16, Try.ntmps16
    go_wp2_with fail
    go_ret
    exact ⟨rfl, Below.refl _ _⟩
  by_cases h2 : data.length = 0
  · have h2b : ((data.length : Int) == 0) = true := by simp [h2]
    go_enter Try.func16, Try.ntmps16
    go_wp2_with fail
    refine (works22 w).mono ?_
    rintro e w4 ⟨rfl, H4⟩
    go_wp2_with fail
    go_ret
    exact ⟨rfl, H4.out⟩
  have h2b : ((data.length : Int) == 0) = false := by simpa using h2
  by_cases h3 : 100 < data.length
  · go_enter Try.func16, Try.ntmps16
    go_wp2_with fail
    refine (works22 w).mono ?_
    rintro e w4 ⟨rfl, H4⟩
    go_wp2_with fail
    go_ret
    exact ⟨rfl, H4.out⟩
  go_enter Try.func16, Try.ntmps16
  go_wp2_with fail
  obtain ⟨W, hW⟩ : ∃ X, X = w.alloc (.cells #[.int .i64 1, .slice A data.length c] 61) := ⟨_, rfl⟩
  have hB : Below w.heap.size w W := by rw [hW]; exact (Below.refl _ _).alloc (Nat.le_refl _) _
  have k0 : W.heap[w.heap.size]? = some (.cells #[.int .i64 1, .slice A data.length c] 61) := by rw [hW]; exact heap_alloc_new _ _
  have hdl : data.length ≤ 100 := by omega
  have HR := Lib.hid (one_rd k0 (HS.out.below hB))
  have HW := Lib.hid hW
  have HB := Lib.hid hB
  clear hW hB k0
  rw [← HW.out]
  refine (attrBytes28 W _ [(1, data)] _ HR.out (fun a ha => by simp only [List.mem_cons, List.not_mem_nil, or_false] at ha; subst ha; exact ⟨by omega, by simp; omega⟩) (by have := one_len hdl; omega)).mono ?_
  rintro e w1 ⟨u1, rfl, H1⟩
  obtain ⟨A1, c1, rfl, _⟩ := Ob.form H1.out.1
  have hB1 := below_then HB.out HB.out.size H1.out.2
  obtain ⟨x, hx⟩ : ∃ x, x = w1.heap.size := ⟨_, rfl⟩
  obtain ⟨W2, hW2⟩ : ∃ X, X = w1.alloc (.cells #[.int .i64 0, .int .i64 10, .int .i64 0, .int .i64 0, .string ⟨#[]⟩, .slice none 0 0, .slice none 0 0] 78) := ⟨_, rfl⟩
  have hb2 : Below w1.heap.size w1 W2 := by rw [hW2]; exact (Below.refl _ _).alloc (Nat.le_refl _) _
  have kx : W2.heap[x]? = some (fldO 0 10 0 0 ⟨#[]⟩ (.slice none 0 0) (.slice none 0 0)) := by rw [hW2, hx]; exact heap_alloc_new _ _
  have HC := Lib.hid (one44 10 x _ data _ W2 kx ((Ob.sl H1.out.1).bound.below hb2) HIB.out hdl (.inr ⟨rfl, h2⟩))
  have HB2 := Lib.hid (below_then hB1 hB1.size hb2)
  have HX := Lib.hid hx
  have HW2 := Lib.hid hW2
  clear hB1 hb2 kx hx hW2 H1
  go_wp2_with fail
  rw [← HW2.out, ← HX.out]
  refine HC.out.mono ?_
  rintro e w3 ⟨rfl, H3⟩
  have HB3 := Lib.hid (below_then HB2.out HB2.out.size H3.out)
  go_wp2_with fail
  refine (works22 w3).mono ?_
  rintro e w4 ⟨rfl, H4⟩
  go_wp2_with fail
  go_ret
  exact ⟨rfl, below_then HB3.out HB3.out.size H4.out⟩
end Go.Proofs.Ytgijhgonpgidiaa
