/-
  Contracts of the encoder's String, Bytes and Flag. No statement of the seat is proved here.
-/
import Derived.Test.YtgijhgonpgidiaaText
import Derived.Deep.RegionLaw
namespace Go.Proofs.Ytgijhgonpgidiaa
open Go.RowKit Go.Proofs.YtgijhgonpgidiaaW.PrintWords

set_option maxRecDepth 100000 in
set_option maxHeartbeats 800000 in
theorem enc89 (w : World) (base g : Nat) (big : Bool) (l : List (Int × List Int)) (t : Int) (s : ByteArray) (hs : s.size ≤ 65531) (h : Enc w base g big l) (hb : base ≤ w.heap.size) (hl : l.length < 1000000) :
    Calls Try.prog 89 #[.pointer (some ⟨g, 0, none⟩), .int .u16 t, .string s] w fun e w' => e = .returned (.tuple #[]) ∧ Enc w' base g big (l ++ [(t, bytesOf s ++ [0])]) ∧ Below base w w' := by
  obtain ⟨v, _, c1, c2, hlt, h2, H1, H3⟩ := h.open_
  have f1 : w.frozen? ⟨g, 1, none⟩ = false := blk_frozen H1.out 1
  clear h
  go_enter Try.func89, Try.ntmps89
  go_wp2_with fail
  go_region_law (first
      | (refine Enc.law_step (W := w2) H1.out h2 H3.out hb HW2.out HS2.out hl (by rfl) (.tmp 22) (.tmp 27) (by rfl) (by rfl) w2.heap.size rfl (by rfl) ?_; intro A c w1 c1' f1' HE)
      | (go_simp; go_at_call 124; refine (bytes124 s _ (by omega)).mono ?_; rintro e w2 ⟨A2, cc, rfl, HT⟩
         have hw2 : Below w.heap.size w w2 := (Below.refl _ _).drew.trans HT.out.2
         have c1b := (hw2.cell (p := ⟨g, 1, none⟩) hlt).trans c1
         have f1b := (hw2.frozen (p := ⟨g, 1, none⟩) hlt).trans f1
         have c1c : ∀ o, (w2.alloc o).cell? ⟨g, 1, none⟩ = some v := fun o => (((Below.refl _ _).alloc (Nat.le_refl _) o).cell (p := ⟨g, 1, none⟩) (by have := hw2.size; show g < w2.heap.size; omega)).trans c1b
         have HW2 := Lib.hid hw2
         have HS2 := Lib.hid HT.out.1
         clear hw2))
  all_goals (go_end0; exact ⟨rfl, HE.out⟩)

set_option maxRecDepth 100000 in
set_option maxHeartbeats 400000 in
theorem enc90 (w : World) (base g : Nat) (big : Bool) (l : List (Int × List Int)) (t : Int) (dv : Value) (xs : List Int) (hx : xs.length ≤ 65531) (h : Enc w base g big l) (hb : base ≤ w.heap.size) (hl : l.length < 1000000)
    (hd : Sl (fun k => base ≤ k ∧ k ≠ g ∧ ∀ v, w.cell? ⟨g, 1, none⟩ = some v → v.ownBlock ≠ some k) w dv xs) :
    Calls Try.prog 90 #[.pointer (some ⟨g, 0, none⟩), .int .u16 t, dv] w fun e w' => e = .returned (.tuple #[]) ∧ Enc w' base g big (l ++ [(t, xs)]) ∧ Below base w w' := by
  obtain ⟨v, _, c1, c2, hlt, h2, H1, H3⟩ := h.open_
  have HD := Lib.hid hd
  obtain ⟨A, c, rfl, _⟩ := hd.form
  clear h hd
  go_enter Try.func90, Try.ntmps90
  go_wp2_with (at_builtin; go_must (refine Enc.law2 (W := w) H1.out h2 H3.out hb (Below.refl _ _) (HD.out.mono (fun k hk => ⟨⟨hk.1, hk.2.1⟩, fun he => hk.2.2 v c1 he.symm⟩)) hl rfl (.tmp 22) (.tmp 26) rfl rfl w.heap.size rfl rfl ?_); intro A c w1 c1' f1' HE)
  go_end0
  exact ⟨rfl, HE.out⟩

set_option maxRecDepth 100000 in
set_option maxHeartbeats 400000 in
theorem enc91_true (w : World) (base g : Nat) (big : Bool) (l : List (Int × List Int)) (t : Int) (h : Enc w base g big l) (hb : base ≤ w.heap.size) (hl : l.length < 1000000) :
    Calls Try.prog 91 #[.pointer (some ⟨g, 0, none⟩), .int .u16 t, .bool true] w fun e w' => e = .returned (.tuple #[]) ∧ Enc w' base g big (l ++ [(t, [])]) ∧ Below base w w' := by
  obtain ⟨v, _, c1, c2, hlt, h2, H1, H3⟩ := h.open_
  clear h
  go_enter Try.func91, Try.ntmps91
  go_wp2_with (at_builtin; go_must (refine Enc.law (W := w) H1.out h2 H3.out hb (Below.refl _ _) (Sl.nil _ _) hl rfl (.tmp 19) (.tmp 22) rfl rfl w.heap.size rfl rfl ?_); intro A c w1 c1' f1' HE)
  go_end0
  exact ⟨rfl, HE.out⟩
set_option maxRecDepth 100000 in
set_option maxHeartbeats 400000 in
theorem enc91_false (w : World) (base g : Nat) (big : Bool) (l : List (Int × List Int)) (t : Int) (h : Enc w base g big l) :
    Calls Try.prog 91 #[.pointer (some ⟨g, 0, none⟩), .int .u16 t, .bool false] w fun e w' => e = .returned (.tuple #[]) ∧ w = w' := by
  obtain ⟨v, _, c1, c2, hlt, h2, H1, H3⟩ := h.open_
  clear h
  go_enter Try.func91, Try.ntmps91
  go_wp2_with fail
  refine bodyPost_ret (results_none rfl _ _ _) rfl ?_
  exact ⟨rfl, rfl⟩
end Go.Proofs.Ytgijhgonpgidiaa
