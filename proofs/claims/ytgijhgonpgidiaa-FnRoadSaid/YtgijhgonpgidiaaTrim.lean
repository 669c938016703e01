/-
  Contracts of the decoder's data, Type, TypeFlags, String: a text without the zero byte behind it. No statement of the seat is proved here.
-/
import Derived.Test.YtgijhgonpgidiaaNx2
import Derived.Test.YtgijhgonpgidiaaImplE
namespace Go.Proofs.Ytgijhgonpgidiaa
open Go.RowKit Go.Proofs.YtgijhgonpgidiaaW.PrintWords

set_option maxHeartbeats 800000 in
theorem data129 (w : World) (g : Nat) (o bv e : Value) (A : Option Addr) (m c : Nat) (L T i n : Int) (hG : w.heap[g]? = some (decO o L T (.slice A m c) bv i n e)) : Calls Try.prog 129 #[.pointer (some ⟨g, 0, none⟩)] w fun e w' => e = .returned (.slice A m c) ∧ w = w' := by
  have c3 : w.cell? ⟨g, 3, none⟩ = some (.slice A m c) := blk_cell hG 3
  clear hG
  go_enter Try.func129, Try.ntmps129
  go_wp2_with fail
  go_ret
  exact ⟨rfl, rfl⟩

theorem mask14 (t : Int) (h : 0 ≤ t ∧ t < 16384) : bits .and .u16 t 16383 = t := by
  obtain ⟨n, rfl⟩ := Int.eq_ofNat_of_zero_le h.1
  show IntKind.u16.wrap ((BitVec.ofInt 16 (n : Int) &&& BitVec.ofInt 16 16383).toNat : Int) = _
  have e1 : (BitVec.ofInt 16 (n : Int)).toNat = n := by rw [BitVec.toNat_ofInt]; omega
  have e2 : (BitVec.ofInt 16 16383).toNat = 2 ^ 14 - 1 := by decide
  rw [BitVec.toNat_and, e1, e2, Nat.and_two_pow_sub_one_of_lt_two_pow (by omega), IntKind.wrap_u16]
  omega
theorem mask14_in (t : Int) (h : 0 ≤ t ∧ t < 16384) : bits .and .u16 (t + 32768) 16383 = t := by
  obtain ⟨n, rfl⟩ := Int.eq_ofNat_of_zero_le h.1
  show IntKind.u16.wrap ((BitVec.ofInt 16 ((n : Int) + 32768) &&& BitVec.ofInt 16 16383).toNat : Int) = _
  have e1 : (BitVec.ofInt 16 ((n : Int) + 32768)).toNat = n + 32768 := by rw [BitVec.toNat_ofInt]; omega
  have e2 : (BitVec.ofInt 16 16383).toNat = 2 ^ 14 - 1 := by decide
  rw [BitVec.toNat_and, e1, e2, Nat.and_two_pow_sub_one_eq_mod, IntKind.wrap_u16]
  omega

set_option maxHeartbeats 800000 in
theorem type108 (w : World) (g : Nat) (o dv bv e : Value) (L T i n : Int) (hG : w.heap[g]? = some (decO o L T dv bv i n e)) : Calls Try.prog 108 #[.pointer (some ⟨g, 0, none⟩)] w fun e w' => e = .returned (.int .u16 (bits .and .u16 T 16383)) ∧ w = w' := by
  have c2 : w.cell? ⟨g, 2, none⟩ = some (.int .u16 T) := blk_cell hG 2
  clear hG
  go_enter Try.func108, Try.ntmps108
  go_wp2_with fail
  go_ret
  exact ⟨rfl, rfl⟩

/-- No byte of 0. -/
def NoZ (ys : List Int) : Prop := ∀ y ∈ ys, y ≠ 0

set_option maxRecDepth 100000 in
set_option maxHeartbeats 1600000 in
theorem trim133 (w : World) (v : Value) (ys : List Int) (ok : Nat → Prop) (hS : Sl ok w v (ys ++ [0])) (hz : NoZ ys) (hm : ys.length ≤ 140737488355328) :
    Calls Try.prog 133 #[v] w fun e w' => e = .returned (.string (strOfNums ys)) ∧ w = w' := by
  obtain ⟨b, off, c, hv, hc, hcm, _, _, hcell⟩ := hS.at_ (by simp)
  have hlen : (ys ++ [0]).length = ys.length + 1 := by simp
  rw [hlen] at hv hc hcell
  subst hv
  have h0 : w.cell? ⟨b, off + ys.length, none⟩ = some (.int .u8 0) := by
    rw [hcell ys.length (by omega), List.getD_eq_getElem?_getD, List.getElem?_append_right (Nat.le_refl _)]; simp
  have hS2 : Sl ok w (.slice (some ⟨b, off, none⟩) ys.length c) ys := by
    have h := (show Sl ok w (.slice (some ⟨b, off, none⟩) (ys ++ [0]).length c) (ys ++ [0]) from by rw [hlen]; exact hS).sub 0 ys.length (Nat.zero_le _) (by omega) (some ⟨b, off, none⟩) (fun _ => rfl)
    simpa using h
  have hcv := str_of hS2
  obtain ⟨N, hN⟩ : ∃ N, N = ys.length := ⟨_, rfl⟩
  have hlast : ∀ K, N = K + 1 → w.cell? ⟨b, off + K, none⟩ = some (.int .u8 (ys.getD K 0)) ∧ (ys.getD K 0 == 0) = false := fun K hK => by
    refine ⟨by rw [hcell K (by omega), List.getD_eq_getElem?_getD, List.getD_eq_getElem?_getD, List.getElem?_append_left (by omega)], ?_⟩
    have : ys.getD K 0 ≠ 0 := by
      rw [List.getD_eq_getElem?_getD, List.getElem?_eq_getElem (by omega)]
      exact hz _ (List.getElem_mem _)
    simpa using this
  rw [← hN] at h0 hcv hm hc ⊢
  have HCV := Lib.hid hcv
  have H0 := Lib.hid h0
  have HLA := Lib.hid hlast
  have hNi : (N : Int) + 1 ≤ 140737488355329 := by omega
  have hNc : (N : Int) + 1 ≤ (c : Int) := by omega
  have hNc2 : (N : Int) ≤ (c : Int) := by omega
  clear hS hS2 hcell hz hlen hN hcv h0 hlast hm hc
  go_enter Try.func133, Try.ntmps133
  go_wp2_with fail
  go_loop [0] (fun v => v = .slice (some ⟨b, off, none⟩) (N + 1) c ∨ v = .slice (some ⟨b, off, none⟩) N c) (fun v => lenV v)
  case atStart => exact .inl rfl
  case round =>
    rcases hrel with rfl | rfl
    · have h0 := H0.out
      go_wp2_with fail
      exact ⟨.inr rfl, by simp [lenV]⟩
    · rcases Nat.eq_zero_or_pos N with h | h
      · subst h
        have hcv := HCV.out
        go_wp2_with fail
        go_ret
        exact ⟨rfl, rfl⟩
      · obtain ⟨K, rfl⟩ : ∃ K, N = K + 1 := ⟨N - 1, by omega⟩
        obtain ⟨h1, h2⟩ := HLA.out K rfl
        have hKb : (K : Int) + 1 ≤ 140737488355328 := by omega
        have hcv := HCV.out
        generalize ys.getD K 0 = x at h1 h2
        clear hNi hNc hNc2 h
        go_wp2_with fail
        go_ret
        exact ⟨rfl, rfl⟩
end Go.Proofs.Ytgijhgonpgidiaa
