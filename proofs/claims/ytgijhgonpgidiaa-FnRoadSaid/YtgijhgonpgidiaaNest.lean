/-
  The encoder of fields: new encoders, the encoder's Encode, and a field with fields within, given that encode serves these. No statement of the seat is proved here.
-/
import Derived.Test.YtgijhgonpgidiaaMar
import Derived.Test.YtgijhgonpgidiaaFld
namespace Go.Proofs.Ytgijhgonpgidiaa
open Go.RowKit Go.Proofs.YtgijhgonpgidiaaW.PrintWords

set_option maxHeartbeats 400000 in
theorem new49 (w : World) : Calls Try.prog 49 #[] w fun e w' => e = .returned (.pointer (some ⟨w.heap.size, 0, none⟩)) ∧ w.alloc (.cells #[.iface 140 (.agg #[]), .slice none 0 0, .nilIface] 91) = w' := by
  go_enter Try.func49, Try.ntmps49
  go_wp2
  go_ret
  exact ⟨rfl, rfl⟩
set_option maxHeartbeats 400000 in
theorem order50 (big : Bool) (w : World) : Calls Try.prog 50 #[.bool big] w fun e w' => e = .returned (boV big) ∧ w = w' := by
  cases big
  · go_enter Try.func50, Try.ntmps50
    go_wp2
    go_ret
    exact ⟨rfl, rfl⟩
  · go_enter Try.func50, Try.ntmps50
    go_wp2
    go_ret
    exact ⟨rfl, rfl⟩
theorem Enc.new (w : World) (big : Bool) : Enc (w.alloc (.cells #[boV big, .slice none 0 0, .nilIface] 91)) w.heap.size w.heap.size big [] :=
  ⟨_, heap_alloc_new _ _, Nat.le_refl _, El.Ow.nil _ _ _ _ _⟩

set_option maxRecDepth 100000 in
set_option maxHeartbeats 400000 in
theorem encode52 (w : World) (base g : Nat) (big : Bool) (l : List (Int × List Int)) (h : Enc w base g big l) (hl : AOk l) (hT : (attrsB l).length ≤ 140737488355328) :
    Calls Try.prog 52 #[.pointer (some ⟨g, 0, none⟩)] w fun e w' => ∃ u, e = .returned (.tuple #[u, .nilIface]) ∧ Hid (Sl (fun k => w.heap.size ≤ k) w' u (attrsB l) ∧ Below w.heap.size w w') := by
  obtain ⟨v, c0, c1, c2, hlt, h2, H1, H3⟩ := h.open_
  have HA := Lib.hid hl
  have HT := Lib.hid hT
  clear h hl hT
  go_enter Try.func52, Try.ntmps52
  go_wp2_with fail
  refine (marshal58 w v l _ H3.out.rd HA.out HT.out).mono ?_
  rintro e w1 ⟨u, rfl, HM⟩
  go_wp2_with fail
  go_ret2
  exact ⟨u, rfl, HM⟩

/-- What encode is owed to do, at fields nested at most d deep. -/
def EncSpec (d : Nat) : Prop := ∀ (big : Bool) (w : World) (base g : Nat) (l0 : List (Int × List Int)) (v : Value) (fs : List Fld), Enc w base g big l0 → base ≤ w.heap.size → (elF d).Rd (fun k => k < base) w v fs → (∀ x ∈ fs, FOk big d x) →
  l0.length + fs.length < 1000000 → Calls Try.prog 51 #[.pointer (some ⟨g, 0, none⟩), v] w fun e w' => e = .returned .nilIface ∧ Hid (Enc w' base g big (l0 ++ fat big d fs) ∧ Below base w w')

theorem fattr_AOk {big : Bool} {d : Nat} {x : Fld} (h : FOk big (d + 1) x) : (0 ≤ (fattr big (fbytes big d) x).1 ∧ (fattr big (fbytes big d) x).1 < 65536) ∧ (fattr big (fbytes big d) x).2.length ≤ 65531 := by
  obtain ⟨h1, h2, h3, h4, h5, h6, h7, h8⟩ := h
  unfold fattr
  split
  · refine ⟨by simp; omega, ?_⟩
    simp [bytesOf_length]; omega
  · split
    · exact ⟨by simp; omega, by simp; omega⟩
    · split
      · exact ⟨by simp; omega, by simp⟩
      · split
        · rename_i h11
          exact ⟨by simp; omega, (h8 h11).2⟩
        · refine ⟨by simp; omega, ?_⟩
          simp only [putO_length]
          unfold widthK
          repeat' split
          all_goals omega
theorem fat_AOk {big : Bool} {d : Nat} {fs : List Fld} (h : ∀ x ∈ fs, FOk big d x) : AOk (fat big d fs) := by
  cases d with
  | zero => intro a ha; simp [fat] at ha
  | succ d =>
    intro a ha
    simp only [fat, List.mem_map, List.mem_filter] at ha
    obtain ⟨x, ⟨hx, _⟩, rfl⟩ := ha
    exact fattr_AOk (h x hx)

set_option maxRecDepth 100000 in
set_option maxHeartbeats 400000 in
theorem closure93 {d : Nat} (H : EncSpec d) (big : Bool) (w : World) (base g f : Nat) (l0 : List (Int × List Int)) (kv : Value) (kids : List Fld) (hE : Enc w base g big l0) (hb : base ≤ w.heap.size) (hc : w.cell? ⟨f, 6, none⟩ = some kv) (hR : (elF d).Rd (fun k => k < base) w kv kids)
    (hF : ∀ x ∈ kids, FOk big d x) (hl : l0.length + kids.length < 1000000) :
    Calls Try.prog 93 #[.pointer (some ⟨g, 0, none⟩), .pointer (some ⟨f, 0, none⟩)] w fun e w' => e = .returned .nilIface ∧ Hid (Enc w' base g big (l0 ++ fat big d kids) ∧ Below base w w') := by
  have HC := Lib.hid (H big w base g l0 kv kids hE hb hR hF hl)
  clear H hE hR hF
  go_enter Try.func93, Try.ntmps93
  go_wp2_with fail
  refine HC.out.mono ?_
  rintro e w1 ⟨rfl, HM⟩
  go_wp2_with fail
  go_ret
  exact ⟨rfl, HM⟩

set_option maxRecDepth 100000 in
set_option maxHeartbeats 800000 in
theorem closure126 {d : Nat} (H : EncSpec d) (big : Bool) (w : World) (g f b1 b2 : Nat) (kv : Value) (kids : List Fld) (hc0 : w.cell? ⟨g, 0, none⟩ = some (boV big)) (hc : w.cell? ⟨f, 6, none⟩ = some kv) (h1 : w.cell? ⟨b1, 0, none⟩ = some (.pointer (some ⟨g, 0, none⟩)))
    (h2 : w.cell? ⟨b2, 0, none⟩ = some (.func (.func 93) #[] #[.pointer (some ⟨f, 0, none⟩)])) (hR : (elF d).Rd (fun k => k < w.heap.size) w kv kids) (hF : ∀ x ∈ kids, FOk big d x) (hl : kids.length < 1000000) (hT : (fbytes big d kids).length ≤ 140737488355328) :
    Calls Try.prog 126 #[.pointer (some ⟨b1, 0, none⟩), .pointer (some ⟨b2, 0, none⟩)] w fun e w' => ∃ u, e = .returned (.tuple #[u, .nilIface]) ∧ Hid (Sl (fun k => w.heap.size ≤ k) w' u (fbytes big d kids) ∧ Below w.heap.size w w') := by
  have hbel : ∀ o, Below w.heap.size w (w.alloc o) := fun o => (Below.refl _ _).alloc (Nat.le_refl _) o
  have lg := World.block_lt_of_cell? w _ hc0
  have l1 := World.block_lt_of_cell? w _ h1
  have l2 := World.block_lt_of_cell? w _ h2
  have a0 : ∀ o, (w.alloc o).cell? ⟨g, 0, none⟩ = some (boV big) := fun o => ((hbel o).cell lg).trans hc0
  have a1 : ∀ o, (w.alloc o).cell? ⟨b1, 0, none⟩ = _ := fun o => ((hbel o).cell l1).trans h1
  have a2 : ∀ o, (w.alloc o).cell? ⟨b2, 0, none⟩ = _ := fun o => ((hbel o).cell l2).trans h2
  have HC := Lib.hid (closure93 H big (w.alloc (.cells #[boV big, .slice none 0 0, .nilIface] 91)) w.heap.size w.heap.size f [] kv kids (Enc.new w big) (by simp) (((hbel _).cell (World.block_lt_of_cell? w _ hc)).trans hc) (hR.below (hbel _)) hF (by simpa using hl))
  have HA := Lib.hid (fat_AOk hF)
  have HT := Lib.hid hT
  have HBB := Lib.hid hbel
  clear H hR hF hc hbel hT
  cases big
  all_goals
    simp only [boV_true, boV_false] at *
    go_enter Try.func126, Try.ntmps126
    go_wp2_with fail
    refine (new49 w).mono ?_
    rintro e w1 ⟨rfl, rfl⟩
    go_wp2_with fail
    refine HC.out.mono ?_
    rintro e w1 ⟨rfl, HM⟩
    rw [List.nil_append] at HM
    go_wp2_with fail
    refine (encode52 w1 w.heap.size w.heap.size _ _ HM.out.1 HA.out (by rw [attrsB_fat]; exact HT.out)).mono ?_
    rintro e w2 ⟨u, rfl, HS⟩
    rw [attrsB_fat] at HS
    have hB2 := (HBB.out _).trans HM.out.2
    have hs1 := hB2.size
    have hfin := Lib.hid (HS.out.1.mono (ok' := fun k => w.heap.size ≤ k) fun k hk => by omega)
    have hfin2 := Lib.hid (below_then hB2 hB2.size HS.out.2)
    clear hB2 hs1
    go_wp2_with fail
    go_ret2
    exact ⟨u, rfl, Lib.hid ⟨hfin.out, hfin2.out⟩⟩

theorem or_inner (t : Int) (h : 0 ≤ t ∧ t < 16384) : bits .or .u16 32768 t = t + 32768 := by
  rw [u16_or _ _ (by omega) (by omega) (by omega) (by omega)]
  have h1 := or_sum t.toNat 1 15 (by omega)
  have h2 : (32768 : Int).toNat = 1 * 2 ^ 15 := by decide
  rw [h2, Nat.or_comm, h1]
  omega

set_option maxRecDepth 100000 in
set_option maxHeartbeats 800000 in
theorem do125 (w : World) (base g b1 b2 : Nat) (big : Bool) (l : List (Int × List Int)) (t : Int) (data : List Int) (h : Enc w base g big l) (hb : base ≤ w.heap.size) (hl : l.length < 1000000) (hd : data.length ≤ 65531)
    (HF : Calls Try.prog 126 #[.pointer (some ⟨b1, 0, none⟩), .pointer (some ⟨b2, 0, none⟩)] w fun e w' => ∃ u, e = .returned (.tuple #[u, .nilIface]) ∧ Hid (Sl (fun k => w.heap.size ≤ k) w' u data ∧ Below w.heap.size w w')) :
    Calls Try.prog 125 #[.pointer (some ⟨g, 0, none⟩), .int .u16 t, .func (.func 126) #[] #[.pointer (some ⟨b1, 0, none⟩), .pointer (some ⟨b2, 0, none⟩)]] w fun e w' => e = .returned (.tuple #[]) ∧ Enc w' base g big (l ++ [(t, data)]) ∧ Below base w w' := by
  obtain ⟨v, c0, c1, c2, hlt, h2, H1, H3⟩ := h.open_
  have HC := Lib.hid HF
  clear h HF
  go_enter Try.func125, Try.ntmps125
  go_wp2_with fail
  refine HC.out.mono ?_
  rintro e w2 ⟨u, rfl, HS⟩
  obtain ⟨A, c, rfl, _⟩ := HS.out.1.form
  have c1b := (HS.out.2.cell (p := ⟨g, 1, none⟩) hlt).trans c1
  have c2b := (HS.out.2.cell (p := ⟨g, 2, none⟩) hlt).trans c2
  go_wp2_with (at_builtin; go_must (refine Enc.law (W := w2) H1.out h2 H3.out hb HS.out.2 HS.out.1 hl rfl (.tmp 35) (.tmp 39) rfl rfl w2.heap.size rfl rfl ?_); intro A' c' w1 c1' f1' HE)
  go_end0
  exact ⟨rfl, HE.out⟩

set_option maxRecDepth 100000 in
set_option maxHeartbeats 800000 in
theorem nested92 {d : Nat} (H : EncSpec d) (w : World) (base g f : Nat) (big : Bool) (l : List (Int × List Int)) (t : Int) (kv : Value) (kids : List Fld) (h : Enc w base g big l) (hb : base ≤ w.heap.size) (hl : l.length < 1000000) (ht : 0 ≤ t ∧ t < 16384) (hc : w.cell? ⟨f, 6, none⟩ = some kv)
    (hR : (elF d).Rd (fun k => k < w.heap.size) w kv kids) (hF : ∀ x ∈ kids, FOk big d x) (hk : kids.length < 1000000) (hT : (fbytes big d kids).length ≤ 65531) :
    Calls Try.prog 92 #[.pointer (some ⟨g, 0, none⟩), .int .u16 t, .func (.func 93) #[] #[.pointer (some ⟨f, 0, none⟩)]] w fun e w' => e = .returned (.tuple #[]) ∧ Enc w' base g big (l ++ [(t + 32768, fbytes big d kids)]) ∧ Below base w w' := by
  have hmf : ∀ (fn : Fn) (first cap : Array Value) (w : World), (Instr.makeFunc fn first cap).run Try.prog w = .ok (.func fn first cap) w := fun _ _ _ _ => rfl
  obtain ⟨W, hW⟩ : ∃ W, W = (w.alloc (.cells #[.pointer (some ⟨g, 0, none⟩)] 82)).alloc (.cells #[.func (.func 93) #[] #[.pointer (some ⟨f, 0, none⟩)]] 158) := ⟨_, rfl⟩
  have hB : Below w.heap.size w W := by rw [hW]; exact ((Below.refl _ _).alloc (Nat.le_refl _) _).alloc (by simp) _
  have hsz : W.heap.size = w.heap.size + 2 := by rw [hW]; simp
  have hb1 : W.cell? ⟨w.heap.size, 0, none⟩ = some (.pointer (some ⟨g, 0, none⟩)) := by
    rw [hW, World.cell?_alloc_past _ _ _ (by simp), World.cell?_alloc_at _ _ _ _ rfl]; rfl
  have hb2 : W.cell? ⟨w.heap.size + 1, 0, none⟩ = some (.func (.func 93) #[] #[.pointer (some ⟨f, 0, none⟩)]) := by
    rw [hW, World.cell?_alloc_at _ _ _ _ (by simp)]; rfl
  obtain ⟨v, c0, _, _, hlt, _, _, _⟩ := h.open_
  have hEW := h.below hB
  have hc126 := closure126 H big W g f w.heap.size (w.heap.size + 1) kv kids ((hB.cell hlt).trans c0) ((hB.cell (World.block_lt_of_cell? w _ hc)).trans hc) hb1 hb2 ((hR.below hB).mono (fun k hk => by omega)) hF hk (by omega)
  have HD := Lib.hid (do125 W base g w.heap.size (w.heap.size + 1) big l (t + 32768) (fbytes big d kids) hEW (by omega) hl hT hc126)
  have HO := Lib.hid (or_inner t ht)
  have HBW := Lib.hid (hB.mono hb)
  rw [hW] at HD HBW
  have hor := or_inner t ht
  clear H h hR hF hc hW hB hsz hb1 hb2 hEW hc126 c0
  go_enter Try.func92, Try.ntmps92
  go_wp2_with fail
  refine HD.out.mono ?_
  rintro e w2 ⟨rfl, hE2, hB2⟩
  have HE2 := Lib.hid hE2
  have HB2 := Lib.hid (HBW.out.trans hB2)
  clear hE2 hB2
  go_wp2_with fail
  go_end0
  exact ⟨rfl, HE2.out, HB2.out⟩
end Go.Proofs.Ytgijhgonpgidiaa
