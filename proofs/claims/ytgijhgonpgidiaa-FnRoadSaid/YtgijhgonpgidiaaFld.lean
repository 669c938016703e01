/-
  Fields: trees of them, how they lie in memory, what bytes they are. No statement of the seat is proved here.
-/
import Derived.Test.YtgijhgonpgidiaaBase
import Derived.Test.YtgijhgonpgidiaaPure
namespace Go.Proofs.Ytgijhgonpgidiaa
open Go.RowKit Go.Proofs.YtgijhgonpgidiaaW.PrintWords

structure Fld where
  ty : Int
  kind : Int
  fl : Int
  n : Int
  text : ByteArray
  data : List Int
  kids : List Fld

/-- Seven cells: type, kind, flags, number, text, bytes, fields within (nested at most d deep). -/
def elF : Nat → El Fld
  | 0 => { sz := 7, E := fun _ _ _ _ => False, len := fun h => h.elim, one := fun h => h.elim, mono := fun _ h => h.elim, bound := fun h => h.elim, step := fun _ h => h.elim }
  | d + 1 => {
      sz := 7
      E := fun ok w x cs => ∃ dv kv, cs = [.int .i64 x.ty, .int .i64 x.kind, .int .i64 x.fl, .int .i64 x.n, .string x.text, dv, kv] ∧ Sl ok w dv x.data ∧ (elF d).Rd ok w kv x.kids
      len := by rintro ok w x cs ⟨dv, kv, rfl, _⟩; rfl
      one := by
        rintro ok w x cs ⟨dv, kv, rfl, h, k⟩ u hu
        obtain ⟨A, c, rfl, _⟩ := h
        obtain ⟨A', c', rfl, _⟩ := k
        simp only [List.mem_cons, List.not_mem_nil, or_false] at hu
        rcases hu with rfl | rfl | rfl | rfl | rfl | rfl | rfl <;> rfl
      mono := by rintro ok ok' w x cs hk ⟨dv, kv, h, k, l⟩; exact ⟨dv, kv, h, k.mono hk, l.mono hk⟩
      bound := by rintro ok w x cs ⟨dv, kv, h, k, l⟩; exact ⟨dv, kv, h, k.bound, l.bound⟩
      step := by rintro ok w w1 x cs hm ⟨dv, kv, h, k, l⟩; exact ⟨dv, kv, h, k.step hm, l.step hm⟩ }
theorem elF_sz (d : Nat) : (elF d).sz = 7 := by cases d <;> rfl
/-- Deeper trees are let in, too. -/
theorem elF_rd_up {d : Nat} (hE : ∀ ok w x cs, (elF d).E ok w x cs → (elF (d + 1)).E ok w x cs) {ok : Nat → Prop} {w : World} {v : Value} {xs : List Fld} (h : (elF d).Rd ok w v xs) : (elF (d + 1)).Rd ok w v xs := by
  obtain ⟨A, c, hv, hl, hc, hr⟩ := h
  refine ⟨A, c, hv, hl, hc, fun h0 => ?_⟩
  obtain ⟨b, off, hA, hb, hc⟩ := hr h0
  refine ⟨b, off, hA, hb, fun i x hx => ?_⟩
  obtain ⟨cs, h1, h2, h3⟩ := hc i x hx
  rw [elF_sz] at h1
  exact ⟨cs, by rw [elF_sz]; exact h1, h2, hE _ _ _ _ h3⟩
theorem elF_up (d : Nat) : ∀ ok w x cs, (elF d).E ok w x cs → (elF (d + 1)).E ok w x cs := by
  induction d with
  | zero => intro ok w x cs h; exact h.elim
  | succ d ih =>
    rintro ok w x cs ⟨dv, kv, h, k, l⟩
    exact ⟨dv, kv, h, k, elF_rd_up ih l⟩
theorem elF_rd_le {d d' : Nat} (h : d ≤ d') {ok : Nat → Prop} {w : World} {v : Value} {xs : List Fld} (hr : (elF d).Rd ok w v xs) : (elF d').Rd ok w v xs := by
  induction h with
  | refl => exact hr
  | step _ ih => exact elF_rd_up (elF_up _) ih

/-! ### What they are as bytes -/
def widthK (k : Int) : Nat := if k = 0 ∨ k = 4 then 1 else if k = 1 ∨ k = 5 then 2 else if k = 2 ∨ k = 6 then 4 else if k = 3 ∨ k = 7 then 8 else 0
def isKept (f : Fld) : Bool := !(f.kind == 10 && f.n == 0)
def fattr (big : Bool) (rec : List Fld → List Int) (f : Fld) : Int × List Int :=
  if f.kind = 8 then (f.ty, bytesOf f.text ++ [0]) else if f.kind = 9 then (f.ty, f.data) else if f.kind = 10 then (f.ty, []) else if f.kind = 11 then (f.ty + 32768, rec f.kids)
  else (f.ty, putO big (f.n % 256 ^ widthK f.kind) (widthK f.kind))
/-- The bytes of fields, d deep. -/
def fbytes (big : Bool) : Nat → List Fld → List Int
  | 0, _ => []
  | d + 1, l => attrsB ((l.filter isKept).map (fattr big (fbytes big d)))
/-- The attributes that fields are, d deep. -/
def fat (big : Bool) : Nat → List Fld → List (Int × List Int)
  | 0, _ => []
  | d + 1, l => (l.filter isKept).map (fattr big (fbytes big d))
theorem attrsB_fat (big : Bool) (d : Nat) (l : List Fld) : attrsB (fat big d l) = fbytes big d l := by cases d <;> rfl
theorem fat_nil (big : Bool) (d : Nat) : fat big d [] = [] := by cases d <;> rfl
theorem fat_snoc (big : Bool) (d : Nat) (l : List Fld) (x : Fld) : fat big (d + 1) (l ++ [x]) = fat big (d + 1) l ++ (if isKept x then [fattr big (fbytes big d) x] else []) := by
  simp only [fat, List.filter_append, List.map_append]
  congr 1
  by_cases h : isKept x <;> simp [h]
theorem fat_length (big : Bool) (d : Nat) (l : List Fld) : (fat big d l).length ≤ l.length := by
  cases d with
  | zero => simp [fat]
  | succ d => simp only [fat, List.length_map]; exact List.length_filter_le _ _

/-! ### Which ones are proper -/
def numOk (k n : Int) : Prop :=
  (k = 0 → 0 ≤ n ∧ n < 256) ∧ (k = 1 → 0 ≤ n ∧ n < 65536) ∧ (k = 2 → 0 ≤ n ∧ n < 4294967296) ∧ (k = 4 → -128 ≤ n ∧ n < 128) ∧ (k = 5 → -32768 ≤ n ∧ n < 32768) ∧ (k = 6 → -2147483648 ≤ n ∧ n < 2147483648) ∧ (k = 10 → n = 0 ∨ n = 1)
/-- A field that can be written: nested at most d deep, its data of at most 65531 bytes. -/
def FOk (big : Bool) : Nat → Fld → Prop
  | 0, _ => False
  | d + 1, f => (0 ≤ f.ty ∧ f.ty < 16384) ∧ (0 ≤ f.kind ∧ f.kind ≤ 11) ∧ (-9223372036854775808 ≤ f.n ∧ f.n < 9223372036854775808) ∧ numOk f.kind f.n ∧ f.text.size ≤ 100 ∧ f.data.length ≤ 100 ∧ f.kids.length ≤ 10 ∧
      (f.kind = 11 → (∀ x ∈ f.kids, FOk big d x) ∧ (fbytes big d f.kids).length ≤ 65531)

section
variable (big : Bool) (r : List Fld → List Int) (ty fl n : Int) (text : ByteArray) (data : List Int) (kids : List Fld)
theorem fk0 (h : 0 ≤ n ∧ n < 256) : fattr big r ⟨ty, 0, fl, n, text, data, kids⟩ = (ty, [n]) := by
  have e : putO big (n % 256) 1 = [n] := by cases big <;> simp [putO, putB] <;> omega
  simp [fattr, widthK, e]
theorem fk1 (h : 0 ≤ n ∧ n < 65536) : fattr big r ⟨ty, 1, fl, n, text, data, kids⟩ = (ty, putO big n 2) := by
  have e : n % 65536 = n := by omega
  simp [fattr, widthK, e]
theorem fk2 (h : 0 ≤ n ∧ n < 4294967296) : fattr big r ⟨ty, 2, fl, n, text, data, kids⟩ = (ty, putO big n 4) := by
  have e : n % 4294967296 = n := by omega
  simp [fattr, widthK, e]
theorem fk3 : fattr big r ⟨ty, 3, fl, n, text, data, kids⟩ = (ty, putO big (n % 18446744073709551616) 8) := by simp [fattr, widthK]
theorem fk4 : fattr big r ⟨ty, 4, fl, n, text, data, kids⟩ = (ty, [n % 256]) := by
  have e : putO big (n % 256) 1 = [n % 256] := by cases big <;> simp [putO, putB]
  simp [fattr, widthK, e]
theorem fk5 : fattr big r ⟨ty, 5, fl, n, text, data, kids⟩ = (ty, putO big (n % 65536) 2) := by simp [fattr, widthK]
theorem fk6 : fattr big r ⟨ty, 6, fl, n, text, data, kids⟩ = (ty, putO big (n % 4294967296) 4) := by simp [fattr, widthK]
theorem fk7 : fattr big r ⟨ty, 7, fl, n, text, data, kids⟩ = (ty, putO big (n % 18446744073709551616) 8) := by simp [fattr, widthK]
theorem fk8 : fattr big r ⟨ty, 8, fl, n, text, data, kids⟩ = (ty, bytesOf text ++ [0]) := by simp [fattr]
theorem fk9 : fattr big r ⟨ty, 9, fl, n, text, data, kids⟩ = (ty, data) := by simp [fattr]
theorem fk10 : fattr big r ⟨ty, 10, fl, n, text, data, kids⟩ = (ty, []) := by simp [fattr]
theorem fk11 : fattr big r ⟨ty, 11, fl, n, text, data, kids⟩ = (ty + 32768, r kids) := by simp [fattr]
end
/-- A proper field, nested at most d deep. -/
def PF : Nat → Fld → Prop
  | 0, _ => False
  | d + 1, f => (0 ≤ f.ty ∧ f.ty < 16384) ∧ (0 ≤ f.kind ∧ f.kind ≤ 11) ∧ (-9223372036854775808 ≤ f.n ∧ f.n < 9223372036854775808) ∧ numOk f.kind f.n ∧ f.text.size ≤ 100 ∧ f.data.length ≤ 100 ∧ f.kids.length ≤ 10 ∧ (f.kind = 11 → ∀ x ∈ f.kids, PF d x)
/-- So many bytes at the most. -/
def bnd : Nat → Nat
  | 0 => 0
  | d + 1 => 10 * (108 + bnd d)
theorem bnd_mono {d d' : Nat} (h : d ≤ d') : bnd d ≤ bnd d' := by
  induction h with
  | refl => exact Nat.le_refl _
  | step _ ih => exact Nat.le_trans ih (by simp only [bnd]; omega)
theorem widthK_le (k : Int) : widthK k ≤ 8 := by unfold widthK; repeat' split
                                                 all_goals omega
theorem attrsB_length_le (B : Nat) (l : List (Int × List Int)) (h : ∀ a ∈ l, a.2.length ≤ B) : (attrsB l).length ≤ l.length * (7 + B) := by
  induction l with
  | nil => simp [attrsB]
  | cons a l ih =>
    have h1 := h a (by simp)
    have h2 := ih fun x hx => h x (List.mem_cons_of_mem _ hx)
    have h3 := padn_le a.2.length
    rw [attrsB_cons, List.length_append, attrB_length, List.length_cons, Nat.succ_mul]
    omega
theorem fattr_le {big : Bool} {d : Nat} {x : Fld} (h : PF (d + 1) x) (hk : (fbytes big d x.kids).length ≤ bnd d) : (0 ≤ (fattr big (fbytes big d) x).1 ∧ (fattr big (fbytes big d) x).1 < 65536) ∧ (fattr big (fbytes big d) x).2.length ≤ 101 + bnd d := by
  obtain ⟨h1, h2, h3, h4, h5, h6, h7, h8⟩ := h
  have hw := widthK_le x.kind
  unfold fattr
  split
  · exact ⟨by simp; omega, by simp [bytesOf_length]; omega⟩
  · split
    · exact ⟨by simp; omega, by simp; omega⟩
    · split
      · exact ⟨by simp; omega, by simp⟩
      · split
        · exact ⟨by simp; omega, by simp; omega⟩
        · exact ⟨by simp; omega, by simp only [putO_length]; omega⟩
theorem fbytes_le (big : Bool) (d : Nat) : ∀ fs : List Fld, fs.length ≤ 10 → (∀ x ∈ fs, PF d x) → (fbytes big d fs).length ≤ bnd d ∧ ∀ a ∈ fat big d fs, (0 ≤ a.1 ∧ a.1 < 65536) ∧ a.2.length ≤ 101 + bnd d := by
  induction d with
  | zero => intro fs _ _; exact ⟨by simp [fbytes], fun a ha => by simp [fat] at ha⟩
  | succ d ih =>
    intro fs hl hp
    have key : ∀ a ∈ fat big (d + 1) fs, (0 ≤ a.1 ∧ a.1 < 65536) ∧ a.2.length ≤ 101 + bnd d := by
      intro a ha
      simp only [fat, List.mem_map, List.mem_filter] at ha
      obtain ⟨x, ⟨hx, _⟩, rfl⟩ := ha
      have hpx := hp x hx
      by_cases h11 : x.kind = 11
      · exact fattr_le hpx (ih x.kids hpx.2.2.2.2.2.2.1 (hpx.2.2.2.2.2.2.2 h11)).1
      · have h8 := fattr_le (big := big) (d := d) (x := { x with kids := [] }) ⟨hpx.1, hpx.2.1, hpx.2.2.1, hpx.2.2.2.1, hpx.2.2.2.2.1, hpx.2.2.2.2.2.1, by simp, fun h => absurd h h11⟩ (by
            have := (ih [] (by simp) (fun x hx => by cases hx)).1
            exact this)
        have he : fattr big (fbytes big d) x = fattr big (fbytes big d) { x with kids := [] } := by simp [fattr, h11]
        rw [he]; exact h8
    refine ⟨?_, fun a ha => ?_⟩
    · rw [← attrsB_fat]
      have h1 := attrsB_length_le (101 + bnd d) (fat big (d + 1) fs) fun a ha => (key a ha).2
      have h2 := fat_length big (d + 1) fs
      have h3 : (fat big (d + 1) fs).length * (7 + (101 + bnd d)) ≤ 10 * (7 + (101 + bnd d)) := Nat.mul_le_mul_right _ (by omega)
      simp only [bnd]
      omega
    · have := key a ha
      refine ⟨this.1, ?_⟩
      simp only [bnd]
      omega
theorem putB_mod (k : Nat) : ∀ (n m : Int), 0 < m → putB (n % (256 ^ k * m)) k = putB n k := by
  induction k with
  | zero => intro n m _; rfl
  | succ k ih =>
    intro n m hm
    have hp : (0 : Int) < 256 ^ k := Int.pow_pos (by omega)
    have e : (256 : Int) ^ (k + 1) * m = 256 * (256 ^ k * m) := by rw [Int.pow_succ]; rw [Int.mul_comm (256 ^ k) 256, Int.mul_assoc]
    have hq : (0 : Int) < 256 ^ k * m := Int.mul_pos hp hm
    have ih' := ih (n / 256) m hm
    rw [putB, putB, e]
    generalize 256 ^ k * m = Q at *
    have h1 : n % (256 * Q) % 256 = n % 256 := Int.emod_emod_of_dvd n ⟨Q, rfl⟩
    have h2 : n % (256 * Q) / 256 = n / 256 % Q := by
      rw [Int.emod_def, Int.emod_def, ← Int.ediv_ediv_of_nonneg (by omega)]
      have : n - 256 * Q * (n / 256 / Q) = n + (-(Q * (n / 256 / Q))) * 256 := by rw [Int.mul_assoc, Int.neg_mul, Int.mul_comm 256]; omega
      rw [this, Int.add_mul_ediv_right _ _ (by omega)]
      omega
    rw [h1, h2, ih']
end Go.Proofs.Ytgijhgonpgidiaa
