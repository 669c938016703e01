/-
  Contracts of the functions that FnMessage and FnLength reach. No statement of the seat is proved here.
-/
import Derived.Test.YtgijhgonpgidiaaImplE
import Derived.Test.YtgijhgonpgidiaaAttrB
import Derived.Deep.RegionHeld3
namespace Go.Proofs.Ytgijhgonpgidiaa
open Go.RowKit Go.Proofs.YtgijhgonpgidiaaW.PrintWords

theorem size43 : (Try.prog.info? 43).map (·.size) = some 6 := by kernel_rfl
theorem size113 : (Try.prog.info? 113).map (·.size) = some 6 := by kernel_rfl

set_option maxHeartbeats 1600000 in
theorem fits29 (L t f s p : Int) (A : Option Addr) (n c : Nat) (w : World) (hn : n ≤ 9223372036854775807) : Calls Try.prog 29 #[.agg #[.int .i64 L, .int .i64 t, .int .i64 f, .int .i64 s, .int .i64 p, .slice A n c]] w fun e w' => ∃ b, e = .returned (.bool b) ∧ Below w.heap.size w w' ∧ (b = true → n ≤ 2147483647) := by
  by_cases h : n ≤ 2147483647
  all_goals
    go_enter Try.func29, Try.ntmps29
    go_wp2
    go_ret
    exact ⟨_, rfl, (Below.refl _ _).alloc (Nat.le_refl _) _, fun hb => by first | exact h | cases hb⟩

set_option maxHeartbeats 1600000 in
theorem message30 (L t f s p : Int) (A : Option Addr) (n c : Nat) (w : World) : Calls Try.prog 30 #[.agg #[.int .i64 L, .int .i64 t, .int .i64 f, .int .i64 s, .int .i64 p, .slice A n c]] w fun e w' => e = .returned (.agg #[.int .i64 L, .int .i64 t, .int .i64 f, .int .i64 s, .int .i64 p, .slice A n c]) ∧ Below w.heap.size w w' := by
  go_enter Try.func30, Try.ntmps30
  go_wp2_with fail
  refine bodyPost_ret (results_cell_row Try.results30 _ _ (w.heap.size + 1) 43 #[.int .i64 L, .int .i64 t, .int .i64 f, .int .i64 s, .int .i64 p, .slice A n c] (0, 0) _ rfl ?_ Try.underlying43 rfl (by rw [size43]; rfl)) rfl ?_
  · have := heap_alloc_new (w.alloc (.cells #[.int .i64 L, .int .i64 t, .int .i64 f, .int .i64 s, .int .i64 p, .slice A n c] 41)) (.cells #[.int .i64 L, .int .i64 t, .int .i64 f, .int .i64 s, .int .i64 p, .slice A n c] 43)
    simpa using this
  · exact ⟨rfl, ((Below.refl _ _).alloc (Nat.le_refl _) _).alloc (by simp) _⟩

/-- A message that can be read again. -/
def MP (L t f s p : Int) (n : Nat) : Prop := L = 16 + n ∧ n % 4 = 0 ∧ n ≤ 1000 ∧ (0 ≤ t ∧ t < 65536) ∧ (0 ≤ f ∧ f < 65536) ∧ (0 ≤ s ∧ s < 4294967296) ∧ (0 ≤ p ∧ p < 4294967296)
def mpB (L t f s p : Int) (n : Nat) : Bool := decide (L = 16 + n) && decide (n % 4 = 0) && decide (n ≤ 1000) && inBits t 16 && inBits f 16 && inBits s 32 && inBits p 32
theorem mpB_iff {L t f s p : Int} {n : Nat} : mpB L t f s p n = true ↔ MP L t f s p n := by
  simp [mpB, MP, inBits, and_assoc]

set_option maxRecDepth 100000 in
set_option maxHeartbeats 3200000 in
theorem proper31 (L t f s p : Int) (A : Option Addr) (n c : Nat) (w : World) (hn : n ≤ 9223372036854775000) : Calls Try.prog 31 #[.agg #[.int .i64 L, .int .i64 t, .int .i64 f, .int .i64 s, .int .i64 p, .slice A n c]] w fun e w' => e = .returned (.bool (mpB L t f s p n)) ∧ Below w.heap.size w w' := by
  by_cases h1 : L = 16 + n
  · by_cases h2 : n % 4 = 0
    · by_cases h3 : n ≤ 1000
      · have hm : mpB L t f s p n = (inBits t 16 && inBits f 16 && inBits s 32 && inBits p 32) := by simp [mpB, h1, h2, h3]
        rw [hm]
        clear hm
        go_enter Try.func31, Try.ntmps31
        go_wp2_with fail
        refine (within60_16 t _).mono ?_
        rintro e w' ⟨rfl, rfl⟩
        cases hb1 : inBits t 16
        · go_wp2_with fail
          go_ret
          exact ⟨by simp [*], (Below.refl _ _).alloc (Nat.le_refl _) _⟩
        go_wp2_with fail
        refine (within60_16 f _).mono ?_
        rintro e w' ⟨rfl, rfl⟩
        cases hb2 : inBits f 16
        · go_wp2_with fail
          go_ret
          exact ⟨by simp [*], (Below.refl _ _).alloc (Nat.le_refl _) _⟩
        go_wp2_with fail
        refine (within60_32 s _).mono ?_
        rintro e w' ⟨rfl, rfl⟩
        cases hb3 : inBits s 32
        · go_wp2_with fail
          go_ret
          exact ⟨by simp [*], (Below.refl _ _).alloc (Nat.le_refl _) _⟩
        go_wp2_with fail
        refine (within60_32 p _).mono ?_
        rintro e w' ⟨rfl, rfl⟩
        cases hb4 : inBits p 32
        all_goals
          go_wp2_with fail
          go_ret
          exact ⟨by simp [*], (Below.refl _ _).alloc (Nat.le_refl _) _⟩
      · go_enter Try.func31, Try.ntmps31
        go_wp2_with fail
        go_ret
        exact ⟨by simp [mpB, h3], (Below.refl _ _).alloc (Nat.le_refl _) _⟩
    · have h5 : mpB L t f s p n = false := by simp [mpB, h2]
      rw [h5]
      clear h5
      have h6 : ¬ (n : Int) % 4 = 0 := by omega
      go_enter Try.func31, Try.ntmps31
      go_wp2_with fail
      go_ret
      exact ⟨rfl, (Below.refl _ _).alloc (Nat.le_refl _) _⟩
  · have h5 : mpB L t f s p n = false := by simp [mpB, h1]
    rw [h5]
    clear h5
    go_enter Try.func31, Try.ntmps31
    go_wp2_with fail
    go_ret
    exact ⟨rfl, (Below.refl _ _).alloc (Nat.le_refl _) _⟩

theorem nxM {w W a b : World} {q : Nat} {cs : Array Value} {ty : TypeId} {v : Value} {xs : List Int} (hq : q = w.heap.size) (hW : W.heap.size = q + 1) (h : Hid (a.heap[q]? = some (.cells cs ty) ∧ Below w.heap.size w a)) (hg : a.grownBy b v.ownBlock) (hO : Ob a W.heap.size v xs) :
    Hid (b.heap[q]? = some (.cells cs ty) ∧ Below w.heap.size w b) :=
  Lib.hid ⟨blk_grown h.out.1 hg fun he => by have := own_base hO q he.symm; omega, h.out.2.grown hg h.out.2.size fun k hk => by have := own_base hO k hk; omega⟩
theorem hiM {w W a : World} {q : Nat} {cs : Array Value} {ty : TypeId} (hW : W.heap.size = q + 1) (h : Hid (a.heap[q]? = some (.cells cs ty) ∧ Below w.heap.size w a)) : W.heap.size ≤ a.heap.size := by have := blk_lt h.out.1; omega
/-- The bytes of a message. -/
def msgB (L t f s p : Int) (data : List Int) : List Int := putB L 4 ++ putB t 2 ++ putB f 2 ++ putB s 4 ++ putB p 4 ++ data

set_option maxRecDepth 100000 in
set_option maxHeartbeats 3200000 in
theorem bytes33 (L t f s p : Int) (dv : Value) (data : List Int) (ok : Nat → Prop) (w : World) (hS : Sl ok w dv data) (hM : MP L t f s p data.length) :
    Calls Try.prog 33 #[.agg #[.int .i64 L, .int .i64 t, .int .i64 f, .int .i64 s, .int .i64 p, dv]] w fun e w' => ∃ u, e = .returned u ∧ Hid (Ob w' w.heap.size u (msgB L t f s p data) ∧ Below w.heap.size w w') := by
  obtain ⟨hL, h4, hn, ⟨ht0, ht1⟩, ⟨hf0, hf1⟩, ⟨hs0, hs1⟩, hp0, hp1⟩ := hM
  have hL0 : 0 ≤ L := by omega
  have hL1 : L < 2000 := by omega
  obtain ⟨A, c, rfl, _⟩ := hS.form
  have HL := Lib.hid hL
  obtain ⟨q, hq⟩ : ∃ q, q = w.heap.size := ⟨_, rfl⟩
  obtain ⟨W, hW⟩ : ∃ W, W = w.alloc (.cells #[.int .i64 L, .int .i64 t, .int .i64 f, .int .i64 s, .int .i64 p, .slice A data.length c] 43) := ⟨_, rfl⟩
  have hB : Below w.heap.size w W := by rw [hW]; exact (Below.refl _ _).alloc (Nat.le_refl _) _
  have hP : W.heap[q]? = some (.cells #[.int .i64 L, .int .i64 t, .int .i64 f, .int .i64 s, .int .i64 p, .slice A data.length c] 43) := by rw [hW, hq]; exact heap_alloc_new _ _
  have hsz : W.heap.size = q + 1 := by rw [hW, hq]; simp
  have c0 : W.cell? ⟨q, 0, none⟩ = some (.int .i64 L) := blk_cell hP 0
  have HS := Lib.hid (hS.bound.below hB)
  have HW := Lib.hid hW
  have HB := Lib.hid hB
  have HP := Lib.hid hP
  have HQ := Lib.hid hq
  have HSZ := Lib.hid hsz
  clear hS hL hW hB hP hsz
  go_enter Try.func33, Try.ntmps33
  go_wp2_with fail
  rw [← hq, ← HW.out]
  clear hq
  have K0 : Hid (W.heap[q]? = some (.cells #[.int .i64 L, .int .i64 t, .int .i64 f, .int .i64 s, .int .i64 p, .slice A data.length c] 43) ∧ Below w.heap.size w W) := Lib.hid ⟨HP.out, HB.out⟩
  refine (put59 W W.heap.size (.slice none 0 0) [] L 4 false (own_nil _ _ _ _) (Nat.le_refl _) (by omega) (by simp)).mono ?_
  rintro e w1 ⟨u1, rfl, H1⟩
  have K1 := nxM (v := .slice none 0 0) (xs := []) HQ.out HSZ.out K0 H1.out.2.1 (own_nil _ _ _ _)
  have c1 : w1.cell? ⟨q, 1, none⟩ = some (.int .i64 t) := blk_cell K1.out.1 1
  go_wp2_with fail
  refine (put59 w1 W.heap.size _ _ t 2 false H1.out.1 (hiM HSZ.out K1) (by omega) (by simp only [List.length_append, putO_length, List.length_nil]; omega)).mono ?_
  rintro e w2 ⟨u2, rfl, H2⟩
  have K2 := nxM HQ.out HSZ.out K1 H2.out.2.1 H1.out.1
  have c2 : w2.cell? ⟨q, 2, none⟩ = some (.int .i64 f) := blk_cell K2.out.1 2
  clear c1
  go_wp2_with fail
  refine (put59 w2 W.heap.size _ _ f 2 false H2.out.1 (hiM HSZ.out K2) (by omega) (by simp only [List.length_append, putO_length, List.length_nil]; omega)).mono ?_
  rintro e w3 ⟨u3, rfl, H3⟩
  have K3 := nxM HQ.out HSZ.out K2 H3.out.2.1 H2.out.1
  have c3 : w3.cell? ⟨q, 3, none⟩ = some (.int .i64 s) := blk_cell K3.out.1 3
  clear c2
  go_wp2_with fail
  refine (put59 w3 W.heap.size _ _ s 4 false H3.out.1 (hiM HSZ.out K3) (by omega) (by simp only [List.length_append, putO_length, List.length_nil]; omega)).mono ?_
  rintro e w4 ⟨u4, rfl, H4⟩
  have K4 := nxM HQ.out HSZ.out K3 H4.out.2.1 H3.out.1
  have c4 : w4.cell? ⟨q, 4, none⟩ = some (.int .i64 p) := blk_cell K4.out.1 4
  clear c3
  go_wp2_with fail
  refine (put59 w4 W.heap.size _ _ p 4 false H4.out.1 (hiM HSZ.out K4) (by omega) (by simp only [List.length_append, putO_length, List.length_nil]; omega)).mono ?_
  rintro e w5 ⟨u5, rfl, H5⟩
  have K5 := nxM HQ.out HSZ.out K4 H5.out.2.1 H4.out.1
  have c5 : w5.cell? ⟨q, 5, none⟩ = some (.slice A data.length c) := blk_cell K5.out.1 5
  clear c4
  have hS5 : Sl (fun k => k < w.heap.size) w5 (.slice A data.length c) data := (HS.out.mono fun k hk => hk.2).step fun k hk _ => (K5.out.2.block k hk).trans (HB.out.block k hk).symm
  obtain ⟨A2, c2', hf2, _, _, hrd⟩ := hS5.form
  simp only [Value.slice.injEq, true_and] at hf2
  obtain ⟨rfl, rfl⟩ := hf2
  have HRD := Lib.hid hrd
  have hlim2 : ((([] ++ putO false L 4 ++ putO false t 2 ++ putO false f 2 ++ putO false s 4 ++ putO false p 4) : List Int).length + data.length) * 1 ≤ 140737488355328 := by
    simp only [List.length_append, putO_length, List.length_nil]; omega
  have HLI := Lib.hid hlim2
  have H6 := hiM HSZ.out K5
  clear hS5 hrd hlim2
  go_wp2_with (at_builtin; go_must (refine print_append_row (w0 := w5) W.heap.size rfl (.tmp 28) (.tmp 30) 28 5 .u8 1 rfl Try.underlying28 info5 (by decide) u5 _ data _ _ _ rfl rfl H5.out.1 HRD.out (Below.refl _ _) H6 HLI.out ?_); intro v6 w6 ho6 hb6 hg6 hat6; have HO6 := Lib.hid ho6; have K6 := Lib.hid (nxM HQ.out HSZ.out K5 hg6 H5.out.1).out.2; clear ho6 hb6 hg6 hat6)
  go_ret
  refine ⟨_, rfl, Lib.hid ⟨?_, K6.out⟩⟩
  have h1 := HO6.out
  have h2 := HSZ.out
  have h3 := HQ.out
  refine own_weaken ?_ (show w.heap.size ≤ W.heap.size by omega)
  simpa [msgB, putO] using h1

/-! ### The package's message -/
set_option maxRecDepth 100000 in
set_option maxHeartbeats 3200000 in
theorem made62 (L t f s p : Int) (dv : Value) (data : List Int) (ok : Nat → Prop) (w : World) (hS : Sl ok w dv data) (hdl : data.length ≤ 1000000) (hL : 0 ≤ L ∧ L < 4294967296) (ht : 0 ≤ t ∧ t < 65536) (hf : 0 ≤ f ∧ f < 65536) (hs : 0 ≤ s ∧ s < 4294967296) (hp : 0 ≤ p ∧ p < 4294967296) :
    Calls Try.prog 62 #[.agg #[.int .i64 L, .int .i64 t, .int .i64 f, .int .i64 s, .int .i64 p, dv]] w fun e w' => ∃ u, e = .returned (.tuple #[.agg #[.int .u32 L, .int .u16 t, .int .u16 f, .int .u32 s, .int .u32 p, u], .bool true]) ∧ Hid (Sl (fun k => w.heap.size ≤ k) w' u data ∧ Below w.heap.size w w') := by
  obtain ⟨A, c, rfl, _⟩ := hS.form
  obtain ⟨W, hW⟩ : ∃ W, W = (w.alloc (.cells #[.int .i64 L, .int .i64 t, .int .i64 f, .int .i64 s, .int .i64 p, .slice A data.length c] 41)).alloc (.cells #[.int .u32 0, .int .u16 0, .int .u16 0, .int .u32 0, .int .u32 0, .slice none 0 0] 113) := ⟨_, rfl⟩
  have hB : Below w.heap.size w W := by rw [hW]; exact ((Below.refl _ _).alloc (Nat.le_refl _) _).alloc (by simp) _
  have HS := Lib.hid (hS.bound.below hB)
  have HB := Lib.hid hB
  have HW := Lib.hid hW
  obtain ⟨hL0, hL1⟩ := hL
  obtain ⟨ht0, ht1⟩ := ht
  obtain ⟨hf0, hf1⟩ := hf
  obtain ⟨hs0, hs1⟩ := hs
  obtain ⟨hp0, hp1⟩ := hp
  clear hS hB hW
  go_enter Try.func62, Try.ntmps62
  go_wp2_with fail
  refine (within57 L 0 4294967295 _ (by omega) (by omega)).mono ?_
  rintro e w' ⟨rfl, rfl⟩
  go_wp2_with fail
  refine (within57 s 0 4294967295 _ (by omega) (by omega)).mono ?_
  rintro e w' ⟨rfl, rfl⟩
  go_wp2_with fail
  refine (within57 p 0 4294967295 _ (by omega) (by omega)).mono ?_
  rintro e w' ⟨rfl, rfl⟩
  go_wp2_with fail
  refine (within57 t 0 65535 _ (by omega) (by omega)).mono ?_
  rintro e w' ⟨rfl, rfl⟩
  go_wp2_with fail
  refine (within57 f 0 65535 _ (by omega) (by omega)).mono ?_
  rintro e w' ⟨rfl, rfl⟩
  go_wp2_with fail
  rw [← HW.out]
  obtain ⟨q, hq⟩ : ∃ q, q = w.heap.size := ⟨_, rfl⟩
  rw [← hq]
  obtain ⟨W3, hW3⟩ : ∃ X, X = W.alloc (.cells #[.int .u32 L, .int .u16 t, .int .u16 f, .int .u32 s, .int .u32 p] 111) := ⟨_, rfl⟩
  rw [← hW3]
  have hsz : W.heap.size = q + 2 := by rw [HW.out, hq]; simp
  have k0 : W.heap[q]? = some (.cells #[.int .i64 L, .int .i64 t, .int .i64 f, .int .i64 s, .int .i64 p, .slice A data.length c] 41) := by rw [HW.out, hq]; exact blk_alloc (heap_alloc_new _ _) _
  have k1 : W.heap[q + 1]? = some (.cells #[.int .u32 0, .int .u16 0, .int .u16 0, .int .u32 0, .int .u32 0, .slice none 0 0] 113) := by
    have := heap_alloc_new (w.alloc (.cells #[.int .i64 L, .int .i64 t, .int .i64 f, .int .i64 s, .int .i64 p, .slice A data.length c] 41)) (.cells #[.int .u32 0, .int .u16 0, .int .u16 0, .int .u32 0, .int .u32 0, .slice none 0 0] 113)
    rw [HW.out, hq]; simpa using this
  have j0 : W3.drew.heap[q]? = some (.cells #[.int .i64 L, .int .i64 t, .int .i64 f, .int .i64 s, .int .i64 p, .slice A data.length c] 41) := by rw [hW3]; exact blk_alloc k0 _
  have j1 : W3.drew.heap[q + 1]? = some (.cells #[.int .u32 0, .int .u16 0, .int .u16 0, .int .u32 0, .int .u32 0, .slice none 0 0] 113) := by rw [hW3]; exact blk_alloc k1 _
  have j2 : W3.drew.heap[q + 1 + 1]? = some (.cells #[.int .u32 L, .int .u16 t, .int .u16 f, .int .u32 s, .int .u32 p] 111) := by
    have := heap_alloc_new W (.cells #[.int .u32 L, .int .u16 t, .int .u16 f, .int .u32 s, .int .u32 p] 111)
    rw [hsz] at this
    rw [hW3]; exact this
  have hB3 : Below w.heap.size w W3.drew := by rw [hW3]; exact (HB.out.alloc HB.out.size _).drew
  have a5 : W3.cell? ⟨q, 5, none⟩ = some (.slice A data.length c) := blk_cell (w := W3) j0 5
  have a0b : W3.cell? ⟨q + 1 + 1, 0, none⟩ = some (.int .u32 L) := blk_cell (w := W3) j2 0
  have a1b : W3.cell? ⟨q + 1 + 1, 1, none⟩ = some (.int .u16 t) := blk_cell (w := W3) j2 1
  have a2b : W3.cell? ⟨q + 1 + 1, 2, none⟩ = some (.int .u16 f) := blk_cell (w := W3) j2 2
  have a3b : W3.cell? ⟨q + 1 + 1, 3, none⟩ = some (.int .u32 s) := blk_cell (w := W3) j2 3
  have a4b : W3.cell? ⟨q + 1 + 1, 4, none⟩ = some (.int .u32 p) := blk_cell (w := W3) j2 4
  have hS3 : Sl (fun k => ok k ∧ k < w.heap.size) W3.drew (.slice A data.length c) data := by rw [hW3]; exact HS.out.below (((Below.refl _ _).alloc (Nat.le_refl _) _).drew)
  have HS3 := Lib.hid hS3
  have J1 := Lib.hid j1
  have J2 := Lib.hid j2
  have HB3 := Lib.hid hB3
  have HQ := Lib.hid hq
  have HZ : Hid (W3.drew.heap.size = q + 3) := by show W3.heap.size = q + 3; rw [hW3]; simp [hsz]
  clear hS3 j0 j1 j2 k0 k1 hB3 hW3 hsz hq
  go_region_law (first
    | (refine dup_step HS3.out (by omega) (by rfl) (.const (.slice none 0 0)) (.tmp 52) (by rfl) (by rfl) (by rfl) ?_; intro A2 c2 w2 H2
       have z1 := blk_below J1.out H2.out.2
       have z2 := blk_below J2.out H2.out.2
       have Z1 := Lib.hid z1
       have b0 : w2.cell? ⟨q + 1 + 1, 0, none⟩ = some (.int .u32 L) := blk_cell z2 0
       have b1 : w2.cell? ⟨q + 1 + 1, 1, none⟩ = some (.int .u16 t) := blk_cell z2 1
       have b2 : w2.cell? ⟨q + 1 + 1, 2, none⟩ = some (.int .u16 f) := blk_cell z2 2
       have b3 : w2.cell? ⟨q + 1 + 1, 3, none⟩ = some (.int .u32 s) := blk_cell z2 3
       have b4 : w2.cell? ⟨q + 1 + 1, 4, none⟩ = some (.int .u32 p) := blk_cell z2 4
       have d0 : w2.cell? ⟨q + 1, 0, none⟩ = some (.int .u32 0) := blk_cell z1 0
       have e0 : w2.frozen? ⟨q + 1, 0, none⟩ = false := blk_frozen z1 0
       have d1 : w2.cell? ⟨q + 1, 1, none⟩ = some (.int .u16 0) := blk_cell z1 1
       have e1 : w2.frozen? ⟨q + 1, 1, none⟩ = false := blk_frozen z1 1
       have d2 : w2.cell? ⟨q + 1, 2, none⟩ = some (.int .u16 0) := blk_cell z1 2
       have e2 : w2.frozen? ⟨q + 1, 2, none⟩ = false := blk_frozen z1 2
       have d3 : w2.cell? ⟨q + 1, 3, none⟩ = some (.int .u32 0) := blk_cell z1 3
       have e3 : w2.frozen? ⟨q + 1, 3, none⟩ = false := blk_frozen z1 3
       have d4 : w2.cell? ⟨q + 1, 4, none⟩ = some (.int .u32 0) := blk_cell z1 4
       have e4 : w2.frozen? ⟨q + 1, 4, none⟩ = false := blk_frozen z1 4
       have d5 : w2.cell? ⟨q + 1, 5, none⟩ = some (.slice none 0 0) := blk_cell z1 5
       have e5 : w2.frozen? ⟨q + 1, 5, none⟩ = false := blk_frozen z1 5
       clear z1 z2))
  all_goals
    go_wp2_with fail
    refine bodyPost_ret (results_ct Try.results62 _ _ (q + 1) 113 #[.int .u32 L, .int .u16 t, .int .u16 f, .int .u32 s, .int .u32 p, .slice A2 data.length c2] (0, 0) _ rfl ?_ Try.underlying113 rfl (by rw [size113]; rfl)) rfl ?_
    · have h0 := blk_set Z1.out 0 (.int .u32 L)
      have h1 := blk_set h0 1 (.int .u16 t)
      have h2 := blk_set h1 2 (.int .u16 f)
      have h3 := blk_set h2 3 (.int .u32 s)
      have h4 := blk_set h3 4 (.int .u32 p)
      have h5 := blk_set h4 5 (.slice A2 data.length c2)
      simpa using h5
    · refine ⟨_, rfl, Lib.hid ⟨?_, ?_⟩⟩
      · have hz := HZ.out
        have hqq := HQ.out
        refine (H2.out.1.step fun k hk _ => ?_).mono fun k hk => by omega
        rw [Below.heap_setCell _ _ _ _ (by show k ≠ q + 1; omega), Below.heap_setCell _ _ _ _ (by show k ≠ q + 1; omega), Below.heap_setCell _ _ _ _ (by show k ≠ q + 1; omega), Below.heap_setCell _ _ _ _ (by show k ≠ q + 1; omega), Below.heap_setCell _ _ _ _ (by show k ≠ q + 1; omega), Below.heap_setCell _ _ _ _ (by show k ≠ q + 1; omega)]
      · have hqq := HQ.out
        have h := below_then HB3.out HB3.out.size H2.out.2
        exact (((((h.setCell (by show _ ≤ q + 1; omega) _).setCell (by show _ ≤ q + 1; omega) _).setCell (by show _ ≤ q + 1; omega) _).setCell (by show _ ≤ q + 1; omega) _).setCell (by show _ ≤ q + 1; omega) _).setCell (by show _ ≤ q + 1; omega) _

end Go.Proofs.Ytgijhgonpgidiaa
