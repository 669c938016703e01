/-
  Contracts of the decoder's methods, one a kind. No statement of the seat is proved here. (Printed by gen_kind.py.)
-/
import Derived.Test.YtgijhgonpgidiaaTrim
import Derived.Test.YtgijhgonpgidiaaText
namespace Go.Proofs.Ytgijhgonpgidiaa
open Go.RowKit Go.Proofs.YtgijhgonpgidiaaW.PrintWords

set_option maxHeartbeats 400000 in
theorem new123 (s : ByteArray) (w : World) : Calls Try.prog 123 #[.string s] w fun e w' => e = .returned (.iface 192 (.pointer (some ⟨w.heap.size, 0, none⟩))) ∧ Below w.heap.size w w' := by
  go_enter Try.func123, Try.ntmps123
  go_wp2_with fail
  go_ret
  exact ⟨rfl, (Below.refl _ _).alloc (Nat.le_refl _) _⟩
theorem getO_one (big : Bool) (x : Int) : getO big [x] = x := by cases big <;> simp [getO, getB]
theorem getO_range (big : Bool) {xs : List Int} (h : IsB xs) : 0 ≤ getO big xs ∧ getO big xs < 256 ^ xs.length := by
  have key : ∀ ys : List Int, IsB ys → 0 ≤ getB ys ∧ getB ys < 256 ^ ys.length := by
    intro ys
    induction ys with
    | nil => intro _; simp [getB]
    | cons y ys ih =>
      intro hy
      have h1 := hy y (by simp)
      have h2 := ih fun z hz => hy z (List.mem_cons_of_mem _ hz)
      rw [getB, List.length_cons, Int.pow_succ]
      omega
  cases big
  · exact key xs h
  · have := key xs.reverse (fun y hy => h y (List.mem_reverse.1 hy))
    rw [List.length_reverse] at this
    exact this
/-- A decoder whose error is told goes no further. -/
def DecErr (w : World) (g : Nat) : Prop := ∃ o L T dv bv i n ty y, w.heap[g]? = some (decO o L T dv bv i n (.iface ty y))
theorem DecErr.below {w w1 : World} {g : Nat} (h : DecErr w g) (hb : Below w.heap.size w w1) : DecErr w1 g := by
  obtain ⟨o, L, T, dv, bv, i, n, ty, y, h⟩ := h
  exact ⟨o, L, T, dv, bv, i, n, ty, y, blk_below h hb⟩
theorem dec_set {w : World} {g : Nat} {o dv bv : Value} {L T i n : Int} (h : w.heap[g]? = some (decO o L T dv bv i n .nilIface)) (u : Value) : (w.setCell ⟨g, 7, none⟩ u).heap[g]? = some (decO o L T dv bv i n u) := by
  have := blk_set h 7 u
  simpa [decO] using this

section
variable {ok : Nat → Prop} {v : Value} {xs : List Int} {w : World}
theorem kget156 (h : Sl ok w v xs) (hl : xs.length = 2) (hb : IsB xs) : Calls Try.prog 156 #[.agg #[], v] w fun e w' => e = .returned (.int .u16 (getB xs)) ∧ Below w.heap.size w w' := by
  rw [← g2_getB hl]; exact get156 h (by omega) hb
theorem kget157 (h : Sl ok w v xs) (hl : xs.length = 4) (hb : IsB xs) : Calls Try.prog 157 #[.agg #[], v] w fun e w' => e = .returned (.int .u32 (getB xs)) ∧ Below w.heap.size w w' := by
  rw [← g4_getB hl]; exact get157 h (by omega) hb
theorem kget158 (h : Sl ok w v xs) (hl : xs.length = 8) (hb : IsB xs) : Calls Try.prog 158 #[.agg #[], v] w fun e w' => e = .returned (.int .u64 (getB xs)) ∧ Below w.heap.size w w' := get158 h hl hb
theorem kget164 (h : Sl ok w v xs) (hl : xs.length = 2) (hb : IsB xs) : Calls Try.prog 164 #[.agg #[], v] w fun e w' => e = .returned (.int .u16 (getB xs.reverse)) ∧ Below w.heap.size w w' := get164 h hl hb
theorem kget165 (h : Sl ok w v xs) (hl : xs.length = 4) (hb : IsB xs) : Calls Try.prog 165 #[.agg #[], v] w fun e w' => e = .returned (.int .u32 (getB xs.reverse)) ∧ Below w.heap.size w w' := by
  rw [← g4r_getB hl]
  refine (get165 h (by omega) hb).mono ?_
  rintro e w' ⟨rfl, n, rfl⟩
  exact ⟨rfl, pw_below_drewN ((Below.refl _ _).alloc (Nat.le_refl _) _) _⟩
theorem kget166 (h : Sl ok w v xs) (hl : xs.length = 8) (hb : IsB xs) : Calls Try.prog 166 #[.agg #[], v] w fun e w' => e = .returned (.int .u64 (getB xs.reverse)) ∧ Below w.heap.size w w' := get166 h hl hb
end

set_option maxRecDepth 100000 in
set_option maxHeartbeats 800000 in
theorem kind110 (w : World) (g : Nat) (big : Bool) (o bv : Value) (A : Option Addr) (c : Nat) (L T i n : Int) (data : List Int) (ok : Nat → Prop) (hG : w.heap[g]? = some (decO o L T (.slice A data.length c) bv i n .nilIface)) (hS : Sl ok w (.slice A data.length c) data) (hb : IsB data) (hl : data.length = 1) :
    Calls Try.prog 110 #[.pointer (some ⟨g, 0, none⟩)] w fun e w' => e = .returned (.int .u8 (getO big data)) ∧ Below w.heap.size w w' := by
  obtain ⟨b, off, c2, hv, _, _, _, _, hcell⟩ := hS.at_ (by omega)
  simp only [Value.slice.injEq, true_and] at hv
  obtain ⟨rfl, rfl⟩ := hv
  have h0 := hcell 0 (by omega)
  obtain ⟨x, rfl⟩ : ∃ x, data = [x] := by
    match data, hl with
    | [x], _ => exact ⟨x, rfl⟩
  rw [getO_one]
  have hx := hb x (by simp)
  have hx0 : 0 ≤ x := hx.1
  have hx1 : x < 256 := hx.2
  simp only [List.getD_cons_zero, Nat.add_zero, List.length_singleton] at *
  have h0' : w.cell? ⟨b, off, none⟩ = some (.int .u8 x) := h0
  have c7 : w.cell? ⟨g, 7, none⟩ = some .nilIface := blk_cell hG 7
  have HG := Lib.hid hG
  clear hG hS hb hcell hx h0
  go_enter Try.func110, Try.ntmps110
  go_wp2_with fail
  refine (data129 w g _ _ _ _ _ _ _ _ _ _ HG.out).mono ?_
  rintro e w1 ⟨rfl, rfl⟩
  go_wp2_with fail
  go_ret
  exact ⟨rfl, Below.refl _ _⟩

set_option maxRecDepth 100000 in
set_option maxHeartbeats 800000 in
theorem kind111_false (w : World) (g : Nat) (bv : Value) (A : Option Addr) (c : Nat) (L T i n : Int) (data : List Int) (ok : Nat → Prop) (hG : w.heap[g]? = some (decO (boV false) L T (.slice A data.length c) bv i n .nilIface)) (hS : Sl ok w (.slice A data.length c) data) (hb : IsB data) (hl : data.length = 2) :
    Calls Try.prog 111 #[.pointer (some ⟨g, 0, none⟩)] w fun e w' => e = .returned (.int .u16 (getB data)) ∧ Below w.heap.size w w' := by
  have c7 : w.cell? ⟨g, 7, none⟩ = some .nilIface := blk_cell hG 7
  have c0 : w.cell? ⟨g, 0, none⟩ = some (.iface 140 (.agg #[])) := blk_cell hG 0
  have HG := Lib.hid hG
  have HC := Lib.hid (kget156 hS hl hb)
  have hr : 0 ≤ getB data ∧ getB data < 256 ^ 2 := by have h := getO_range false hb; rw [hl] at h; exact h
  obtain ⟨N, hN⟩ : ∃ N, N = getB data := ⟨_, rfl⟩
  rw [← hN] at HC hr ⊢
  obtain ⟨hr0, hr1⟩ := hr
  rw [hl] at HC HG
  clear hG hS hb hN hl
  go_enter Try.func111, Try.ntmps111
  go_wp2_with fail
  refine (data129 w g _ _ _ _ _ _ _ _ _ _ HG.out).mono ?_
  rintro e w1 ⟨rfl, rfl⟩
  go_wp2_with fail
  refine HC.out.mono ?_
  rintro e w2 ⟨rfl, hb2⟩
  have HB2 := Lib.hid hb2
  clear hb2
  go_wp2_with fail
  go_ret
  exact ⟨rfl, HB2.out⟩

set_option maxRecDepth 100000 in
set_option maxHeartbeats 800000 in
theorem kind111_true (w : World) (g : Nat) (bv : Value) (A : Option Addr) (c : Nat) (L T i n : Int) (data : List Int) (ok : Nat → Prop) (hG : w.heap[g]? = some (decO (boV true) L T (.slice A data.length c) bv i n .nilIface)) (hS : Sl ok w (.slice A data.length c) data) (hb : IsB data) (hl : data.length = 2) :
    Calls Try.prog 111 #[.pointer (some ⟨g, 0, none⟩)] w fun e w' => e = .returned (.int .u16 (getB data.reverse)) ∧ Below w.heap.size w w' := by
  have c7 : w.cell? ⟨g, 7, none⟩ = some .nilIface := blk_cell hG 7
  have c0 : w.cell? ⟨g, 0, none⟩ = some (.iface 141 (.agg #[])) := blk_cell hG 0
  have HG := Lib.hid hG
  have HC := Lib.hid (kget164 hS hl hb)
  have hr : 0 ≤ getB data.reverse ∧ getB data.reverse < 256 ^ 2 := by have h := getO_range true hb; rw [hl] at h; exact h
  obtain ⟨N, hN⟩ : ∃ N, N = getB data.reverse := ⟨_, rfl⟩
  rw [← hN] at HC hr ⊢
  obtain ⟨hr0, hr1⟩ := hr
  rw [hl] at HC HG
  clear hG hS hb hN hl
  go_enter Try.func111, Try.ntmps111
  go_wp2_with fail
  refine (data129 w g _ _ _ _ _ _ _ _ _ _ HG.out).mono ?_
  rintro e w1 ⟨rfl, rfl⟩
  go_wp2_with fail
  refine HC.out.mono ?_
  rintro e w2 ⟨rfl, hb2⟩
  have HB2 := Lib.hid hb2
  clear hb2
  go_wp2_with fail
  go_ret
  exact ⟨rfl, HB2.out⟩

theorem kind111 (w : World) (g : Nat) (big : Bool) (bv : Value) (A : Option Addr) (c : Nat) (L T i n : Int) (data : List Int) (ok : Nat → Prop) (hG : w.heap[g]? = some (decO (boV big) L T (.slice A data.length c) bv i n .nilIface)) (hS : Sl ok w (.slice A data.length c) data) (hb : IsB data) (hl : data.length = 2) :
    Calls Try.prog 111 #[.pointer (some ⟨g, 0, none⟩)] w fun e w' => e = .returned (.int .u16 (getO big data)) ∧ Below w.heap.size w w' := by
  cases big
  · simpa [getO] using kind111_false w g bv A c L T i n data ok hG hS hb hl
  · simpa [getO] using kind111_true w g bv A c L T i n data ok hG hS hb hl

set_option maxRecDepth 100000 in
set_option maxHeartbeats 800000 in
theorem kind112_false (w : World) (g : Nat) (bv : Value) (A : Option Addr) (c : Nat) (L T i n : Int) (data : List Int) (ok : Nat → Prop) (hG : w.heap[g]? = some (decO (boV false) L T (.slice A data.length c) bv i n .nilIface)) (hS : Sl ok w (.slice A data.length c) data) (hb : IsB data) (hl : data.length = 4) :
    Calls Try.prog 112 #[.pointer (some ⟨g, 0, none⟩)] w fun e w' => e = .returned (.int .u32 (getB data)) ∧ Below w.heap.size w w' := by
  have c7 : w.cell? ⟨g, 7, none⟩ = some .nilIface := blk_cell hG 7
  have c0 : w.cell? ⟨g, 0, none⟩ = some (.iface 140 (.agg #[])) := blk_cell hG 0
  have HG := Lib.hid hG
  have HC := Lib.hid (kget157 hS hl hb)
  have hr : 0 ≤ getB data ∧ getB data < 256 ^ 4 := by have h := getO_range false hb; rw [hl] at h; exact h
  obtain ⟨N, hN⟩ : ∃ N, N = getB data := ⟨_, rfl⟩
  rw [← hN] at HC hr ⊢
  obtain ⟨hr0, hr1⟩ := hr
  rw [hl] at HC HG
  clear hG hS hb hN hl
  go_enter Try.func112, Try.ntmps112
  go_wp2_with fail
  refine (data129 w g _ _ _ _ _ _ _ _ _ _ HG.out).mono ?_
  rintro e w1 ⟨rfl, rfl⟩
  go_wp2_with fail
  refine HC.out.mono ?_
  rintro e w2 ⟨rfl, hb2⟩
  have HB2 := Lib.hid hb2
  clear hb2
  go_wp2_with fail
  go_ret
  exact ⟨rfl, HB2.out⟩

set_option maxRecDepth 100000 in
set_option maxHeartbeats 800000 in
theorem kind112_true (w : World) (g : Nat) (bv : Value) (A : Option Addr) (c : Nat) (L T i n : Int) (data : List Int) (ok : Nat → Prop) (hG : w.heap[g]? = some (decO (boV true) L T (.slice A data.length c) bv i n .nilIface)) (hS : Sl ok w (.slice A data.length c) data) (hb : IsB data) (hl : data.length = 4) :
    Calls Try.prog 112 #[.pointer (some ⟨g, 0, none⟩)] w fun e w' => e = .returned (.int .u32 (getB data.reverse)) ∧ Below w.heap.size w w' := by
  have c7 : w.cell? ⟨g, 7, none⟩ = some .nilIface := blk_cell hG 7
  have c0 : w.cell? ⟨g, 0, none⟩ = some (.iface 141 (.agg #[])) := blk_cell hG 0
  have HG := Lib.hid hG
  have HC := Lib.hid (kget165 hS hl hb)
  have hr : 0 ≤ getB data.reverse ∧ getB data.reverse < 256 ^ 4 := by have h := getO_range true hb; rw [hl] at h; exact h
  obtain ⟨N, hN⟩ : ∃ N, N = getB data.reverse := ⟨_, rfl⟩
  rw [← hN] at HC hr ⊢
  obtain ⟨hr0, hr1⟩ := hr
  rw [hl] at HC HG
  clear hG hS hb hN hl
  go_enter Try.func112, Try.ntmps112
  go_wp2_with fail
  refine (data129 w g _ _ _ _ _ _ _ _ _ _ HG.out).mono ?_
  rintro e w1 ⟨rfl, rfl⟩
  go_wp2_with fail
  refine HC.out.mono ?_
  rintro e w2 ⟨rfl, hb2⟩
  have HB2 := Lib.hid hb2
  clear hb2
  go_wp2_with fail
  go_ret
  exact ⟨rfl, HB2.out⟩

theorem kind112 (w : World) (g : Nat) (big : Bool) (bv : Value) (A : Option Addr) (c : Nat) (L T i n : Int) (data : List Int) (ok : Nat → Prop) (hG : w.heap[g]? = some (decO (boV big) L T (.slice A data.length c) bv i n .nilIface)) (hS : Sl ok w (.slice A data.length c) data) (hb : IsB data) (hl : data.length = 4) :
    Calls Try.prog 112 #[.pointer (some ⟨g, 0, none⟩)] w fun e w' => e = .returned (.int .u32 (getO big data)) ∧ Below w.heap.size w w' := by
  cases big
  · simpa [getO] using kind112_false w g bv A c L T i n data ok hG hS hb hl
  · simpa [getO] using kind112_true w g bv A c L T i n data ok hG hS hb hl

set_option maxRecDepth 100000 in
set_option maxHeartbeats 800000 in
theorem kind113_false (w : World) (g : Nat) (bv : Value) (A : Option Addr) (c : Nat) (L T i n : Int) (data : List Int) (ok : Nat → Prop) (hG : w.heap[g]? = some (decO (boV false) L T (.slice A data.length c) bv i n .nilIface)) (hS : Sl ok w (.slice A data.length c) data) (hb : IsB data) (hl : data.length = 8) :
    Calls Try.prog 113 #[.pointer (some ⟨g, 0, none⟩)] w fun e w' => e = .returned (.int .u64 (getB data)) ∧ Below w.heap.size w w' := by
  have c7 : w.cell? ⟨g, 7, none⟩ = some .nilIface := blk_cell hG 7
  have c0 : w.cell? ⟨g, 0, none⟩ = some (.iface 140 (.agg #[])) := blk_cell hG 0
  have HG := Lib.hid hG
  have HC := Lib.hid (kget158 hS hl hb)
  have hr : 0 ≤ getB data ∧ getB data < 256 ^ 8 := by have h := getO_range false hb; rw [hl] at h; exact h
  obtain ⟨N, hN⟩ : ∃ N, N = getB data := ⟨_, rfl⟩
  rw [← hN] at HC hr ⊢
  obtain ⟨hr0, hr1⟩ := hr
  rw [hl] at HC HG
  clear hG hS hb hN hl
  go_enter Try.func113, Try.ntmps113
  go_wp2_with fail
  refine (data129 w g _ _ _ _ _ _ _ _ _ _ HG.out).mono ?_
  rintro e w1 ⟨rfl, rfl⟩
  go_wp2_with fail
  refine HC.out.mono ?_
  rintro e w2 ⟨rfl, hb2⟩
  have HB2 := Lib.hid hb2
  clear hb2
  go_wp2_with fail
  go_ret
  exact ⟨rfl, HB2.out⟩

set_option maxRecDepth 100000 in
set_option maxHeartbeats 800000 in
theorem kind113_true (w : World) (g : Nat) (bv : Value) (A : Option Addr) (c : Nat) (L T i n : Int) (data : List Int) (ok : Nat → Prop) (hG : w.heap[g]? = some (decO (boV true) L T (.slice A data.length c) bv i n .nilIface)) (hS : Sl ok w (.slice A data.length c) data) (hb : IsB data) (hl : data.length = 8) :
    Calls Try.prog 113 #[.pointer (some ⟨g, 0, none⟩)] w fun e w' => e = .returned (.int .u64 (getB data.reverse)) ∧ Below w.heap.size w w' := by
  have c7 : w.cell? ⟨g, 7, none⟩ = some .nilIface := blk_cell hG 7
  have c0 : w.cell? ⟨g, 0, none⟩ = some (.iface 141 (.agg #[])) := blk_cell hG 0
  have HG := Lib.hid hG
  have HC := Lib.hid (kget166 hS hl hb)
  have hr : 0 ≤ getB data.reverse ∧ getB data.reverse < 256 ^ 8 := by have h := getO_range true hb; rw [hl] at h; exact h
  obtain ⟨N, hN⟩ : ∃ N, N = getB data.reverse := ⟨_, rfl⟩
  rw [← hN] at HC hr ⊢
  obtain ⟨hr0, hr1⟩ := hr
  rw [hl] at HC HG
  clear hG hS hb hN hl
  go_enter Try.func113, Try.ntmps113
  go_wp2_with fail
  refine (data129 w g _ _ _ _ _ _ _ _ _ _ HG.out).mono ?_
  rintro e w1 ⟨rfl, rfl⟩
  go_wp2_with fail
  refine HC.out.mono ?_
  rintro e w2 ⟨rfl, hb2⟩
  have HB2 := Lib.hid hb2
  clear hb2
  go_wp2_with fail
  go_ret
  exact ⟨rfl, HB2.out⟩

theorem kind113 (w : World) (g : Nat) (big : Bool) (bv : Value) (A : Option Addr) (c : Nat) (L T i n : Int) (data : List Int) (ok : Nat → Prop) (hG : w.heap[g]? = some (decO (boV big) L T (.slice A data.length c) bv i n .nilIface)) (hS : Sl ok w (.slice A data.length c) data) (hb : IsB data) (hl : data.length = 8) :
    Calls Try.prog 113 #[.pointer (some ⟨g, 0, none⟩)] w fun e w' => e = .returned (.int .u64 (getO big data)) ∧ Below w.heap.size w w' := by
  cases big
  · simpa [getO] using kind113_false w g bv A c L T i n data ok hG hS hb hl
  · simpa [getO] using kind113_true w g bv A c L T i n data ok hG hS hb hl

set_option maxRecDepth 100000 in
set_option maxHeartbeats 800000 in
theorem kind114 (w : World) (g : Nat) (big : Bool) (o bv : Value) (A : Option Addr) (c : Nat) (L T i n : Int) (data : List Int) (ok : Nat → Prop) (hG : w.heap[g]? = some (decO o L T (.slice A data.length c) bv i n .nilIface)) (hS : Sl ok w (.slice A data.length c) data) (hb : IsB data) (hl : data.length = 1) :
    Calls Try.prog 114 #[.pointer (some ⟨g, 0, none⟩)] w fun e w' => e = .returned (.int .i8 (IntKind.i8.wrap (getO big data))) ∧ Below w.heap.size w w' := by
  obtain ⟨b, off, c2, hv, _, _, _, _, hcell⟩ := hS.at_ (by omega)
  simp only [Value.slice.injEq, true_and] at hv
  obtain ⟨rfl, rfl⟩ := hv
  have h0 := hcell 0 (by omega)
  obtain ⟨x, rfl⟩ : ∃ x, data = [x] := by
    match data, hl with
    | [x], _ => exact ⟨x, rfl⟩
  rw [getO_one]
  have hx := hb x (by simp)
  have hx0 : 0 ≤ x := hx.1
  have hx1 : x < 256 := hx.2
  simp only [List.getD_cons_zero, Nat.add_zero, List.length_singleton] at *
  have h0' : w.cell? ⟨b, off, none⟩ = some (.int .u8 x) := h0
  have c7 : w.cell? ⟨g, 7, none⟩ = some .nilIface := blk_cell hG 7
  have HG := Lib.hid hG
  clear hG hS hb hcell hx h0
  go_enter Try.func114, Try.ntmps114
  go_wp2_with fail
  refine (data129 w g _ _ _ _ _ _ _ _ _ _ HG.out).mono ?_
  rintro e w1 ⟨rfl, rfl⟩
  go_wp2_with fail
  go_ret
  exact ⟨rfl, Below.refl _ _⟩

set_option maxRecDepth 100000 in
set_option maxHeartbeats 800000 in
theorem kind115_false (w : World) (g : Nat) (bv : Value) (A : Option Addr) (c : Nat) (L T i n : Int) (data : List Int) (ok : Nat → Prop) (hG : w.heap[g]? = some (decO (boV false) L T (.slice A data.length c) bv i n .nilIface)) (hS : Sl ok w (.slice A data.length c) data) (hb : IsB data) (hl : data.length = 2) :
    Calls Try.prog 115 #[.pointer (some ⟨g, 0, none⟩)] w fun e w' => e = .returned (.int .i16 (IntKind.i16.wrap (getB data))) ∧ Below w.heap.size w w' := by
  have c7 : w.cell? ⟨g, 7, none⟩ = some .nilIface := blk_cell hG 7
  have c0 : w.cell? ⟨g, 0, none⟩ = some (.iface 140 (.agg #[])) := blk_cell hG 0
  have HG := Lib.hid hG
  have HC := Lib.hid (kget156 hS hl hb)
  have hr : 0 ≤ getB data ∧ getB data < 256 ^ 2 := by have h := getO_range false hb; rw [hl] at h; exact h
  obtain ⟨N, hN⟩ : ∃ N, N = getB data := ⟨_, rfl⟩
  rw [← hN] at HC hr ⊢
  obtain ⟨hr0, hr1⟩ := hr
  rw [hl] at HC HG
  clear hG hS hb hN hl
  go_enter Try.func115, Try.ntmps115
  go_wp2_with fail
  refine (data129 w g _ _ _ _ _ _ _ _ _ _ HG.out).mono ?_
  rintro e w1 ⟨rfl, rfl⟩
  go_wp2_with fail
  refine HC.out.mono ?_
  rintro e w2 ⟨rfl, hb2⟩
  have HB2 := Lib.hid hb2
  clear hb2
  go_wp2_with fail
  go_ret
  exact ⟨rfl, HB2.out⟩

set_option maxRecDepth 100000 in
set_option maxHeartbeats 800000 in
theorem kind115_true (w : World) (g : Nat) (bv : Value) (A : Option Addr) (c : Nat) (L T i n : Int) (data : List Int) (ok : Nat → Prop) (hG : w.heap[g]? = some (decO (boV true) L T (.slice A data.length c) bv i n .nilIface)) (hS : Sl ok w (.slice A data.length c) data) (hb : IsB data) (hl : data.length = 2) :
    Calls Try.prog 115 #[.pointer (some ⟨g, 0, none⟩)] w fun e w' => e = .returned (.int .i16 (IntKind.i16.wrap (getB data.reverse))) ∧ Below w.heap.size w w' := by
  have c7 : w.cell? ⟨g, 7, none⟩ = some .nilIface := blk_cell hG 7
  have c0 : w.cell? ⟨g, 0, none⟩ = some (.iface 141 (.agg #[])) := blk_cell hG 0
  have HG := Lib.hid hG
  have HC := Lib.hid (kget164 hS hl hb)
  have hr : 0 ≤ getB data.reverse ∧ getB data.reverse < 256 ^ 2 := by have h := getO_range true hb; rw [hl] at h; exact h
  obtain ⟨N, hN⟩ : ∃ N, N = getB data.reverse := ⟨_, rfl⟩
  rw [← hN] at HC hr ⊢
  obtain ⟨hr0, hr1⟩ := hr
  rw [hl] at HC HG
  clear hG hS hb hN hl
  go_enter Try.func115, Try.ntmps115
  go_wp2_with fail
  refine (data129 w g _ _ _ _ _ _ _ _ _ _ HG.out).mono ?_
  rintro e w1 ⟨rfl, rfl⟩
  go_wp2_with fail
  refine HC.out.mono ?_
  rintro e w2 ⟨rfl, hb2⟩
  have HB2 := Lib.hid hb2
  clear hb2
  go_wp2_with fail
  go_ret
  exact ⟨rfl, HB2.out⟩

theorem kind115 (w : World) (g : Nat) (big : Bool) (bv : Value) (A : Option Addr) (c : Nat) (L T i n : Int) (data : List Int) (ok : Nat → Prop) (hG : w.heap[g]? = some (decO (boV big) L T (.slice A data.length c) bv i n .nilIface)) (hS : Sl ok w (.slice A data.length c) data) (hb : IsB data) (hl : data.length = 2) :
    Calls Try.prog 115 #[.pointer (some ⟨g, 0, none⟩)] w fun e w' => e = .returned (.int .i16 (IntKind.i16.wrap (getO big data))) ∧ Below w.heap.size w w' := by
  cases big
  · simpa [getO] using kind115_false w g bv A c L T i n data ok hG hS hb hl
  · simpa [getO] using kind115_true w g bv A c L T i n data ok hG hS hb hl

set_option maxRecDepth 100000 in
set_option maxHeartbeats 800000 in
theorem kind116_false (w : World) (g : Nat) (bv : Value) (A : Option Addr) (c : Nat) (L T i n : Int) (data : List Int) (ok : Nat → Prop) (hG : w.heap[g]? = some (decO (boV false) L T (.slice A data.length c) bv i n .nilIface)) (hS : Sl ok w (.slice A data.length c) data) (hb : IsB data) (hl : data.length = 4) :
    Calls Try.prog 116 #[.pointer (some ⟨g, 0, none⟩)] w fun e w' => e = .returned (.int .i32 (IntKind.i32.wrap (getB data))) ∧ Below w.heap.size w w' := by
  have c7 : w.cell? ⟨g, 7, none⟩ = some .nilIface := blk_cell hG 7
  have c0 : w.cell? ⟨g, 0, none⟩ = some (.iface 140 (.agg #[])) := blk_cell hG 0
  have HG := Lib.hid hG
  have HC := Lib.hid (kget157 hS hl hb)
  have hr : 0 ≤ getB data ∧ getB data < 256 ^ 4 := by have h := getO_range false hb; rw [hl] at h; exact h
  obtain ⟨N, hN⟩ : ∃ N, N = getB data := ⟨_, rfl⟩
  rw [← hN] at HC hr ⊢
  rw [show IntKind.i32.wrap N = wrap32 N from IntWalk.i32_left N]
  obtain ⟨hr0, hr1⟩ := hr
  rw [hl] at HC HG
  clear hG hS hb hN hl
  go_enter Try.func116, Try.ntmps116
  go_wp2_with fail
  refine (data129 w g _ _ _ _ _ _ _ _ _ _ HG.out).mono ?_
  rintro e w1 ⟨rfl, rfl⟩
  go_wp2_with fail
  refine HC.out.mono ?_
  rintro e w2 ⟨rfl, hb2⟩
  have HB2 := Lib.hid hb2
  clear hb2
  go_wp2_with fail
  go_ret
  exact ⟨rfl, HB2.out⟩

set_option maxRecDepth 100000 in
set_option maxHeartbeats 800000 in
theorem kind116_true (w : World) (g : Nat) (bv : Value) (A : Option Addr) (c : Nat) (L T i n : Int) (data : List Int) (ok : Nat → Prop) (hG : w.heap[g]? = some (decO (boV true) L T (.slice A data.length c) bv i n .nilIface)) (hS : Sl ok w (.slice A data.length c) data) (hb : IsB data) (hl : data.length = 4) :
    Calls Try.prog 116 #[.pointer (some ⟨g, 0, none⟩)] w fun e w' => e = .returned (.int .i32 (IntKind.i32.wrap (getB data.reverse))) ∧ Below w.heap.size w w' := by
  have c7 : w.cell? ⟨g, 7, none⟩ = some .nilIface := blk_cell hG 7
  have c0 : w.cell? ⟨g, 0, none⟩ = some (.iface 141 (.agg #[])) := blk_cell hG 0
  have HG := Lib.hid hG
  have HC := Lib.hid (kget165 hS hl hb)
  have hr : 0 ≤ getB data.reverse ∧ getB data.reverse < 256 ^ 4 := by have h := getO_range true hb; rw [hl] at h; exact h
  obtain ⟨N, hN⟩ : ∃ N, N = getB data.reverse := ⟨_, rfl⟩
  rw [← hN] at HC hr ⊢
  rw [show IntKind.i32.wrap N = wrap32 N from IntWalk.i32_left N]
  obtain ⟨hr0, hr1⟩ := hr
  rw [hl] at HC HG
  clear hG hS hb hN hl
  go_enter Try.func116, Try.ntmps116
  go_wp2_with fail
  refine (data129 w g _ _ _ _ _ _ _ _ _ _ HG.out).mono ?_
  rintro e w1 ⟨rfl, rfl⟩
  go_wp2_with fail
  refine HC.out.mono ?_
  rintro e w2 ⟨rfl, hb2⟩
  have HB2 := Lib.hid hb2
  clear hb2
  go_wp2_with fail
  go_ret
  exact ⟨rfl, HB2.out⟩

theorem kind116 (w : World) (g : Nat) (big : Bool) (bv : Value) (A : Option Addr) (c : Nat) (L T i n : Int) (data : List Int) (ok : Nat → Prop) (hG : w.heap[g]? = some (decO (boV big) L T (.slice A data.length c) bv i n .nilIface)) (hS : Sl ok w (.slice A data.length c) data) (hb : IsB data) (hl : data.length = 4) :
    Calls Try.prog 116 #[.pointer (some ⟨g, 0, none⟩)] w fun e w' => e = .returned (.int .i32 (IntKind.i32.wrap (getO big data))) ∧ Below w.heap.size w w' := by
  cases big
  · simpa [getO] using kind116_false w g bv A c L T i n data ok hG hS hb hl
  · simpa [getO] using kind116_true w g bv A c L T i n data ok hG hS hb hl

set_option maxRecDepth 100000 in
set_option maxHeartbeats 800000 in
theorem kind117_false (w : World) (g : Nat) (bv : Value) (A : Option Addr) (c : Nat) (L T i n : Int) (data : List Int) (ok : Nat → Prop) (hG : w.heap[g]? = some (decO (boV false) L T (.slice A data.length c) bv i n .nilIface)) (hS : Sl ok w (.slice A data.length c) data) (hb : IsB data) (hl : data.length = 8) :
    Calls Try.prog 117 #[.pointer (some ⟨g, 0, none⟩)] w fun e w' => e = .returned (.int .i64 (IntKind.i64.wrap (getB data))) ∧ Below w.heap.size w w' := by
  have c7 : w.cell? ⟨g, 7, none⟩ = some .nilIface := blk_cell hG 7
  have c0 : w.cell? ⟨g, 0, none⟩ = some (.iface 140 (.agg #[])) := blk_cell hG 0
  have HG := Lib.hid hG
  have HC := Lib.hid (kget158 hS hl hb)
  have hr : 0 ≤ getB data ∧ getB data < 256 ^ 8 := by have h := getO_range false hb; rw [hl] at h; exact h
  obtain ⟨N, hN⟩ : ∃ N, N = getB data := ⟨_, rfl⟩
  rw [← hN] at HC hr ⊢
  rw [show IntKind.i64.wrap N = wrap64 N from IntWalk.i64_left N]
  obtain ⟨hr0, hr1⟩ := hr
  rw [hl] at HC HG
  clear hG hS hb hN hl
  go_enter Try.func117, Try.ntmps117
  go_wp2_with fail
  refine (data129 w g _ _ _ _ _ _ _ _ _ _ HG.out).mono ?_
  rintro e w1 ⟨rfl, rfl⟩
  go_wp2_with fail
  refine HC.out.mono ?_
  rintro e w2 ⟨rfl, hb2⟩
  have HB2 := Lib.hid hb2
  clear hb2
  go_wp2_with fail
  go_ret
  exact ⟨rfl, HB2.out⟩

set_option maxRecDepth 100000 in
set_option maxHeartbeats 800000 in
theorem kind117_true (w : World) (g : Nat) (bv : Value) (A : Option Addr) (c : Nat) (L T i n : Int) (data : List Int) (ok : Nat → Prop) (hG : w.heap[g]? = some (decO (boV true) L T (.slice A data.length c) bv i n .nilIface)) (hS : Sl ok w (.slice A data.length c) data) (hb : IsB data) (hl : data.length = 8) :
    Calls Try.prog 117 #[.pointer (some ⟨g, 0, none⟩)] w fun e w' => e = .returned (.int .i64 (IntKind.i64.wrap (getB data.reverse))) ∧ Below w.heap.size w w' := by
  have c7 : w.cell? ⟨g, 7, none⟩ = some .nilIface := blk_cell hG 7
  have c0 : w.cell? ⟨g, 0, none⟩ = some (.iface 141 (.agg #[])) := blk_cell hG 0
  have HG := Lib.hid hG
  have HC := Lib.hid (kget166 hS hl hb)
  have hr : 0 ≤ getB data.reverse ∧ getB data.reverse < 256 ^ 8 := by have h := getO_range true hb; rw [hl] at h; exact h
  obtain ⟨N, hN⟩ : ∃ N, N = getB data.reverse := ⟨_, rfl⟩
  rw [← hN] at HC hr ⊢
  rw [show IntKind.i64.wrap N = wrap64 N from IntWalk.i64_left N]
  obtain ⟨hr0, hr1⟩ := hr
  rw [hl] at HC HG
  clear hG hS hb hN hl
  go_enter Try.func117, Try.ntmps117
  go_wp2_with fail
  refine (data129 w g _ _ _ _ _ _ _ _ _ _ HG.out).mono ?_
  rintro e w1 ⟨rfl, rfl⟩
  go_wp2_with fail
  refine HC.out.mono ?_
  rintro e w2 ⟨rfl, hb2⟩
  have HB2 := Lib.hid hb2
  clear hb2
  go_wp2_with fail
  go_ret
  exact ⟨rfl, HB2.out⟩

theorem kind117 (w : World) (g : Nat) (big : Bool) (bv : Value) (A : Option Addr) (c : Nat) (L T i n : Int) (data : List Int) (ok : Nat → Prop) (hG : w.heap[g]? = some (decO (boV big) L T (.slice A data.length c) bv i n .nilIface)) (hS : Sl ok w (.slice A data.length c) data) (hb : IsB data) (hl : data.length = 8) :
    Calls Try.prog 117 #[.pointer (some ⟨g, 0, none⟩)] w fun e w' => e = .returned (.int .i64 (IntKind.i64.wrap (getO big data))) ∧ Below w.heap.size w w' := by
  cases big
  · simpa [getO] using kind117_false w g bv A c L T i n data ok hG hS hb hl
  · simpa [getO] using kind117_true w g bv A c L T i n data ok hG hS hb hl

set_option maxRecDepth 100000 in
set_option maxHeartbeats 800000 in
theorem kind110_bad (w : World) (g : Nat) (o bv : Value) (A : Option Addr) (m c : Nat) (L T i n : Int) (hG : w.heap[g]? = some (decO o L T (.slice A m c) bv i n .nilIface)) (hl : m ≠ 1) :
    Calls Try.prog 110 #[.pointer (some ⟨g, 0, none⟩)] w fun e w' => e = .returned (.int .u8 0) ∧ Hid (DecErr w' g ∧ w.grownBy w' (some g)) := by
  have c7 : w.cell? ⟨g, 7, none⟩ = some .nilIface := blk_cell hG 7
  have HG := Lib.hid hG
  have hlb : ((m : Int) != 1) = true := by simp; omega
  have hgl := blk_lt hG
  clear hG hl
  go_enter Try.func110, Try.ntmps110
  go_wp2_with fail
  refine (data129 w g _ _ _ _ _ _ _ _ _ _ HG.out).mono ?_
  rintro e w1 ⟨rfl, rfl⟩
  go_wp2_with fail
  refine (new123 _ w).mono ?_
  rintro e w2 ⟨rfl, hb2⟩
  have hk2 := blk_below HG.out hb2
  have d7 : w2.cell? ⟨g, 7, none⟩ = some .nilIface := blk_cell hk2 7
  have f7 : w2.frozen? ⟨g, 7, none⟩ = false := blk_frozen hk2 7
  have HK2 := Lib.hid hk2
  have HB2 := Lib.hid hb2
  clear hk2 hb2
  go_wp2_with fail
  go_ret
  exact ⟨rfl, Lib.hid ⟨⟨_, _, _, _, _, _, _, _, _, dec_set HK2.out _⟩, grown_trans (below_grows HB2.out rfl) (grown_set _ _ _ _)⟩⟩

set_option maxRecDepth 100000 in
set_option maxHeartbeats 800000 in
theorem kind111_bad (w : World) (g : Nat) (o bv : Value) (A : Option Addr) (m c : Nat) (L T i n : Int) (hG : w.heap[g]? = some (decO o L T (.slice A m c) bv i n .nilIface)) (hl : m ≠ 2) :
    Calls Try.prog 111 #[.pointer (some ⟨g, 0, none⟩)] w fun e w' => e = .returned (.int .u16 0) ∧ Hid (DecErr w' g ∧ w.grownBy w' (some g)) := by
  have c7 : w.cell? ⟨g, 7, none⟩ = some .nilIface := blk_cell hG 7
  have HG := Lib.hid hG
  have hlb : ((m : Int) != 2) = true := by simp; omega
  have hgl := blk_lt hG
  clear hG hl
  go_enter Try.func111, Try.ntmps111
  go_wp2_with fail
  refine (data129 w g _ _ _ _ _ _ _ _ _ _ HG.out).mono ?_
  rintro e w1 ⟨rfl, rfl⟩
  go_wp2_with fail
  refine (new123 _ w).mono ?_
  rintro e w2 ⟨rfl, hb2⟩
  have hk2 := blk_below HG.out hb2
  have d7 : w2.cell? ⟨g, 7, none⟩ = some .nilIface := blk_cell hk2 7
  have f7 : w2.frozen? ⟨g, 7, none⟩ = false := blk_frozen hk2 7
  have HK2 := Lib.hid hk2
  have HB2 := Lib.hid hb2
  clear hk2 hb2
  go_wp2_with fail
  go_ret
  exact ⟨rfl, Lib.hid ⟨⟨_, _, _, _, _, _, _, _, _, dec_set HK2.out _⟩, grown_trans (below_grows HB2.out rfl) (grown_set _ _ _ _)⟩⟩

set_option maxRecDepth 100000 in
set_option maxHeartbeats 800000 in
theorem kind112_bad (w : World) (g : Nat) (o bv : Value) (A : Option Addr) (m c : Nat) (L T i n : Int) (hG : w.heap[g]? = some (decO o L T (.slice A m c) bv i n .nilIface)) (hl : m ≠ 4) :
    Calls Try.prog 112 #[.pointer (some ⟨g, 0, none⟩)] w fun e w' => e = .returned (.int .u32 0) ∧ Hid (DecErr w' g ∧ w.grownBy w' (some g)) := by
  have c7 : w.cell? ⟨g, 7, none⟩ = some .nilIface := blk_cell hG 7
  have HG := Lib.hid hG
  have hlb : ((m : Int) != 4) = true := by simp; omega
  have hgl := blk_lt hG
  clear hG hl
  go_enter Try.func112, Try.ntmps112
  go_wp2_with fail
  refine (data129 w g _ _ _ _ _ _ _ _ _ _ HG.out).mono ?_
  rintro e w1 ⟨rfl, rfl⟩
  go_wp2_with fail
  refine (new123 _ w).mono ?_
  rintro e w2 ⟨rfl, hb2⟩
  have hk2 := blk_below HG.out hb2
  have d7 : w2.cell? ⟨g, 7, none⟩ = some .nilIface := blk_cell hk2 7
  have f7 : w2.frozen? ⟨g, 7, none⟩ = false := blk_frozen hk2 7
  have HK2 := Lib.hid hk2
  have HB2 := Lib.hid hb2
  clear hk2 hb2
  go_wp2_with fail
  go_ret
  exact ⟨rfl, Lib.hid ⟨⟨_, _, _, _, _, _, _, _, _, dec_set HK2.out _⟩, grown_trans (below_grows HB2.out rfl) (grown_set _ _ _ _)⟩⟩

set_option maxRecDepth 100000 in
set_option maxHeartbeats 800000 in
theorem kind113_bad (w : World) (g : Nat) (o bv : Value) (A : Option Addr) (m c : Nat) (L T i n : Int) (hG : w.heap[g]? = some (decO o L T (.slice A m c) bv i n .nilIface)) (hl : m ≠ 8) :
    Calls Try.prog 113 #[.pointer (some ⟨g, 0, none⟩)] w fun e w' => e = .returned (.int .u64 0) ∧ Hid (DecErr w' g ∧ w.grownBy w' (some g)) := by
  have c7 : w.cell? ⟨g, 7, none⟩ = some .nilIface := blk_cell hG 7
  have HG := Lib.hid hG
  have hlb : ((m : Int) != 8) = true := by simp; omega
  have hgl := blk_lt hG
  clear hG hl
  go_enter Try.func113, Try.ntmps113
  go_wp2_with fail
  refine (data129 w g _ _ _ _ _ _ _ _ _ _ HG.out).mono ?_
  rintro e w1 ⟨rfl, rfl⟩
  go_wp2_with fail
  refine (new123 _ w).mono ?_
  rintro e w2 ⟨rfl, hb2⟩
  have hk2 := blk_below HG.out hb2
  have d7 : w2.cell? ⟨g, 7, none⟩ = some .nilIface := blk_cell hk2 7
  have f7 : w2.frozen? ⟨g, 7, none⟩ = false := blk_frozen hk2 7
  have HK2 := Lib.hid hk2
  have HB2 := Lib.hid hb2
  clear hk2 hb2
  go_wp2_with fail
  go_ret
  exact ⟨rfl, Lib.hid ⟨⟨_, _, _, _, _, _, _, _, _, dec_set HK2.out _⟩, grown_trans (below_grows HB2.out rfl) (grown_set _ _ _ _)⟩⟩

set_option maxRecDepth 100000 in
set_option maxHeartbeats 800000 in
theorem kind114_bad (w : World) (g : Nat) (o bv : Value) (A : Option Addr) (m c : Nat) (L T i n : Int) (hG : w.heap[g]? = some (decO o L T (.slice A m c) bv i n .nilIface)) (hl : m ≠ 1) :
    Calls Try.prog 114 #[.pointer (some ⟨g, 0, none⟩)] w fun e w' => e = .returned (.int .i8 0) ∧ Hid (DecErr w' g ∧ w.grownBy w' (some g)) := by
  have c7 : w.cell? ⟨g, 7, none⟩ = some .nilIface := blk_cell hG 7
  have HG := Lib.hid hG
  have hlb : ((m : Int) != 1) = true := by simp; omega
  have hgl := blk_lt hG
  clear hG hl
  go_enter Try.func114, Try.ntmps114
  go_wp2_with fail
  refine (data129 w g _ _ _ _ _ _ _ _ _ _ HG.out).mono ?_
  rintro e w1 ⟨rfl, rfl⟩
  go_wp2_with fail
  refine (new123 _ w).mono ?_
  rintro e w2 ⟨rfl, hb2⟩
  have hk2 := blk_below HG.out hb2
  have d7 : w2.cell? ⟨g, 7, none⟩ = some .nilIface := blk_cell hk2 7
  have f7 : w2.frozen? ⟨g, 7, none⟩ = false := blk_frozen hk2 7
  have HK2 := Lib.hid hk2
  have HB2 := Lib.hid hb2
  clear hk2 hb2
  go_wp2_with fail
  go_ret
  exact ⟨rfl, Lib.hid ⟨⟨_, _, _, _, _, _, _, _, _, dec_set HK2.out _⟩, grown_trans (below_grows HB2.out rfl) (grown_set _ _ _ _)⟩⟩

set_option maxRecDepth 100000 in
set_option maxHeartbeats 800000 in
theorem kind115_bad (w : World) (g : Nat) (o bv : Value) (A : Option Addr) (m c : Nat) (L T i n : Int) (hG : w.heap[g]? = some (decO o L T (.slice A m c) bv i n .nilIface)) (hl : m ≠ 2) :
    Calls Try.prog 115 #[.pointer (some ⟨g, 0, none⟩)] w fun e w' => e = .returned (.int .i16 0) ∧ Hid (DecErr w' g ∧ w.grownBy w' (some g)) := by
  have c7 : w.cell? ⟨g, 7, none⟩ = some .nilIface := blk_cell hG 7
  have HG := Lib.hid hG
  have hlb : ((m : Int) != 2) = true := by simp; omega
  have hgl := blk_lt hG
  clear hG hl
  go_enter Try.func115, Try.ntmps115
  go_wp2_with fail
  refine (data129 w g _ _ _ _ _ _ _ _ _ _ HG.out).mono ?_
  rintro e w1 ⟨rfl, rfl⟩
  go_wp2_with fail
  refine (new123 _ w).mono ?_
  rintro e w2 ⟨rfl, hb2⟩
  have hk2 := blk_below HG.out hb2
  have d7 : w2.cell? ⟨g, 7, none⟩ = some .nilIface := blk_cell hk2 7
  have f7 : w2.frozen? ⟨g, 7, none⟩ = false := blk_frozen hk2 7
  have HK2 := Lib.hid hk2
  have HB2 := Lib.hid hb2
  clear hk2 hb2
  go_wp2_with fail
  go_ret
  exact ⟨rfl, Lib.hid ⟨⟨_, _, _, _, _, _, _, _, _, dec_set HK2.out _⟩, grown_trans (below_grows HB2.out rfl) (grown_set _ _ _ _)⟩⟩

set_option maxRecDepth 100000 in
set_option maxHeartbeats 800000 in
theorem kind116_bad (w : World) (g : Nat) (o bv : Value) (A : Option Addr) (m c : Nat) (L T i n : Int) (hG : w.heap[g]? = some (decO o L T (.slice A m c) bv i n .nilIface)) (hl : m ≠ 4) :
    Calls Try.prog 116 #[.pointer (some ⟨g, 0, none⟩)] w fun e w' => e = .returned (.int .i32 0) ∧ Hid (DecErr w' g ∧ w.grownBy w' (some g)) := by
  have c7 : w.cell? ⟨g, 7, none⟩ = some .nilIface := blk_cell hG 7
  have HG := Lib.hid hG
  have hlb : ((m : Int) != 4) = true := by simp; omega
  have hgl := blk_lt hG
  clear hG hl
  go_enter Try.func116, Try.ntmps116
  go_wp2_with fail
  refine (data129 w g _ _ _ _ _ _ _ _ _ _ HG.out).mono ?_
  rintro e w1 ⟨rfl, rfl⟩
  go_wp2_with fail
  refine (new123 _ w).mono ?_
  rintro e w2 ⟨rfl, hb2⟩
  have hk2 := blk_below HG.out hb2
  have d7 : w2.cell? ⟨g, 7, none⟩ = some .nilIface := blk_cell hk2 7
  have f7 : w2.frozen? ⟨g, 7, none⟩ = false := blk_frozen hk2 7
  have HK2 := Lib.hid hk2
  have HB2 := Lib.hid hb2
  clear hk2 hb2
  go_wp2_with fail
  go_ret
  exact ⟨rfl, Lib.hid ⟨⟨_, _, _, _, _, _, _, _, _, dec_set HK2.out _⟩, grown_trans (below_grows HB2.out rfl) (grown_set _ _ _ _)⟩⟩

set_option maxRecDepth 100000 in
set_option maxHeartbeats 800000 in
theorem kind117_bad (w : World) (g : Nat) (o bv : Value) (A : Option Addr) (m c : Nat) (L T i n : Int) (hG : w.heap[g]? = some (decO o L T (.slice A m c) bv i n .nilIface)) (hl : m ≠ 8) :
    Calls Try.prog 117 #[.pointer (some ⟨g, 0, none⟩)] w fun e w' => e = .returned (.int .i64 0) ∧ Hid (DecErr w' g ∧ w.grownBy w' (some g)) := by
  have c7 : w.cell? ⟨g, 7, none⟩ = some .nilIface := blk_cell hG 7
  have HG := Lib.hid hG
  have hlb : ((m : Int) != 8) = true := by simp; omega
  have hgl := blk_lt hG
  clear hG hl
  go_enter Try.func117, Try.ntmps117
  go_wp2_with fail
  refine (data129 w g _ _ _ _ _ _ _ _ _ _ HG.out).mono ?_
  rintro e w1 ⟨rfl, rfl⟩
  go_wp2_with fail
  refine (new123 _ w).mono ?_
  rintro e w2 ⟨rfl, hb2⟩
  have hk2 := blk_below HG.out hb2
  have d7 : w2.cell? ⟨g, 7, none⟩ = some .nilIface := blk_cell hk2 7
  have f7 : w2.frozen? ⟨g, 7, none⟩ = false := blk_frozen hk2 7
  have HK2 := Lib.hid hk2
  have HB2 := Lib.hid hb2
  clear hk2 hb2
  go_wp2_with fail
  go_ret
  exact ⟨rfl, Lib.hid ⟨⟨_, _, _, _, _, _, _, _, _, dec_set HK2.out _⟩, grown_trans (below_grows HB2.out rfl) (grown_set _ _ _ _)⟩⟩

set_option maxRecDepth 100000 in
set_option maxHeartbeats 800000 in
theorem kind120_bad (w : World) (g : Nat) (o bv : Value) (A : Option Addr) (m c : Nat) (L T i n : Int) (hG : w.heap[g]? = some (decO o L T (.slice A m c) bv i n .nilIface)) (hl : m ≠ 0) :
    Calls Try.prog 120 #[.pointer (some ⟨g, 0, none⟩)] w fun e w' => e = .returned (.bool false) ∧ Hid (DecErr w' g ∧ w.grownBy w' (some g)) := by
  have c7 : w.cell? ⟨g, 7, none⟩ = some .nilIface := blk_cell hG 7
  have HG := Lib.hid hG
  have hlb : ((m : Int) != 0) = true := by simp; omega
  have hgl := blk_lt hG
  clear hG hl
  go_enter Try.func120, Try.ntmps120
  go_wp2_with fail
  refine (data129 w g _ _ _ _ _ _ _ _ _ _ HG.out).mono ?_
  rintro e w1 ⟨rfl, rfl⟩
  go_wp2_with fail
  refine (new123 _ w).mono ?_
  rintro e w2 ⟨rfl, hb2⟩
  have hk2 := blk_below HG.out hb2
  have d7 : w2.cell? ⟨g, 7, none⟩ = some .nilIface := blk_cell hk2 7
  have f7 : w2.frozen? ⟨g, 7, none⟩ = false := blk_frozen hk2 7
  have HK2 := Lib.hid hk2
  have HB2 := Lib.hid hb2
  clear hk2 hb2
  go_wp2_with fail
  go_ret
  exact ⟨rfl, Lib.hid ⟨⟨_, _, _, _, _, _, _, _, _, dec_set HK2.out _⟩, grown_trans (below_grows HB2.out rfl) (grown_set _ _ _ _)⟩⟩

set_option maxRecDepth 100000 in
set_option maxHeartbeats 800000 in
theorem kind120 (w : World) (g : Nat) (o bv : Value) (A : Option Addr) (c : Nat) (L T i n : Int) (hG : w.heap[g]? = some (decO o L T (.slice A 0 c) bv i n .nilIface)) :
    Calls Try.prog 120 #[.pointer (some ⟨g, 0, none⟩)] w fun e w' => e = .returned (.bool true) ∧ Below w.heap.size w w' := by
  have c7 : w.cell? ⟨g, 7, none⟩ = some .nilIface := blk_cell hG 7
  have HG := Lib.hid hG
  clear hG
  go_enter Try.func120, Try.ntmps120
  go_wp2_with fail
  refine (data129 w g _ _ _ _ _ _ _ _ _ _ HG.out).mono ?_
  rintro e w1 ⟨rfl, rfl⟩
  go_wp2_with fail
  go_ret
  exact ⟨rfl, Below.refl _ _⟩

set_option maxRecDepth 100000 in
set_option maxHeartbeats 800000 in
theorem kind118 (w : World) (g : Nat) (o bv : Value) (A : Option Addr) (c : Nat) (L T i n : Int) (ys : List Int) (ok : Nat → Prop) (hG : w.heap[g]? = some (decO o L T (.slice A (ys ++ [0]).length c) bv i n .nilIface)) (hS : Sl ok w (.slice A (ys ++ [0]).length c) (ys ++ [0])) (hz : NoZ ys) (hm : ys.length ≤ 140737488355328) :
    Calls Try.prog 118 #[.pointer (some ⟨g, 0, none⟩)] w fun e w' => e = .returned (.string (strOfNums ys)) ∧ Below w.heap.size w w' := by
  have c7 : w.cell? ⟨g, 7, none⟩ = some .nilIface := blk_cell hG 7
  have HG := Lib.hid hG
  have HT := Lib.hid (trim133 w _ ys ok hS hz hm)
  generalize (ys ++ [0]).length = m at *
  clear hG hS hz hm
  go_enter Try.func118, Try.ntmps118
  go_wp2_with fail
  refine (data129 w g _ _ _ _ _ _ _ _ _ _ HG.out).mono ?_
  rintro e w1 ⟨rfl, rfl⟩
  go_wp2_with fail
  refine (show Calls Try.prog 130 #[.slice A m c] w fun e w' => e = .returned (.string (strOfNums ys)) ∧ w = w' from ?_).mono ?_
  · go_enter Try.func130, Try.ntmps130
    go_wp2_with fail
    refine HT.out.mono ?_
    rintro e w1 ⟨rfl, rfl⟩
    go_wp2_with fail
    go_ret
    exact ⟨rfl, rfl⟩
  rintro e w1 ⟨rfl, rfl⟩
  go_wp2_with fail
  go_ret
  exact ⟨rfl, Below.refl _ _⟩
set_option maxHeartbeats 800000 in
theorem flags109 (w : World) (g : Nat) (o dv bv e : Value) (L T i n : Int) (hG : w.heap[g]? = some (decO o L T dv bv i n e)) : Calls Try.prog 109 #[.pointer (some ⟨g, 0, none⟩)] w fun e w' => e = .returned (.int .u16 (bits .and .u16 T 49152)) ∧ w = w' := by
  have c2 : w.cell? ⟨g, 2, none⟩ = some (.int .u16 T) := blk_cell hG 2
  clear hG
  go_enter Try.func109, Try.ntmps109
  go_wp2_with fail
  go_ret
  exact ⟨rfl, rfl⟩
end Go.Proofs.Ytgijhgonpgidiaa
