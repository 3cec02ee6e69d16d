/- The amount's text: its bytes, and what zzReadAmount (7) reads out of it. -/
import Derived.Test.Qxb6617870aDoorClone
namespace Go.Proofs.Qxb6617870aDoor
open Go.RowKit Go.Sort Go.Lib

def tb (l : List UInt8) (i : Nat) : Nat := (l.getD i 0).toNat
theorem tb_left {l r : List UInt8} {i : Nat} (h : i < l.length) : tb (l ++ r) i = tb l i := by
  unfold tb
  rw [List.getD_eq_getElem?_getD, List.getD_eq_getElem?_getD, List.getElem?_append_left h]
theorem tb_right {l r : List UInt8} {i : Nat} : tb (l ++ r) (l.length + i) = tb r i := by
  unfold tb
  rw [List.getD_eq_getElem?_getD, List.getD_eq_getElem?_getD, List.getElem?_append_right (by omega), Nat.add_sub_cancel_left]
theorem tb_dig {U t : Nat} (h : t < Lib.nDigits U) : tb (Lib.decDigits U) t = 48 + U / 10 ^ (Lib.nDigits U - 1 - t) % 10 := by
  unfold tb
  rw [Lib.decDigits_eq, List.getD_eq_getElem?_getD, List.getElem?_map, List.getElem?_range h]
  simp only [Option.map_some, Option.getD_some, Lib.dg, UInt8.toNat_ofNat']
  omega
theorem pow_le_digits (U : Nat) (h : 1 ≤ U) : 10 ^ (Lib.nDigits U - 1) ≤ U := by
  induction U using Nat.strongRecOn with
  | _ U ih =>
    by_cases h1 : U < 10
    · rw [Lib.nDigits_small h1]; simpa using h
    · rw [Lib.nDigits_big h1]
      have := ih (U / 10) (by omega) (by omega)
      have hp := Lib.nDigits_pos (U / 10)
      obtain ⟨k, hk⟩ : ∃ k, Lib.nDigits (U / 10) = k + 1 := ⟨Lib.nDigits (U / 10) - 1, by omega⟩
      rw [hk] at this ⊢
      simp only [Nat.add_sub_cancel] at this ⊢
      rw [Nat.pow_succ]
      omega
theorem digs (U : Nat) (hU : U < 100000000000000000) : Digs (Lib.nDigits U) (tb (Lib.decDigits U)) (fun k => U / 10 ^ (Lib.nDigits U - k)) where
  pos := Lib.nDigits_pos U
  le := by
    by_cases h : 1 ≤ U
    · have h1 : 10 ^ (Lib.nDigits U - 1) < 10 ^ 17 := Nat.lt_of_le_of_lt (pow_le_digits U h) hU
      have := (Nat.pow_lt_pow_iff_right (a := 10) (by decide)).1 h1
      omega
    · rw [Lib.nDigits_small (by omega)]; omega
  lo := fun t h => by rw [tb_dig h]; omega
  hi := fun t h => by rw [tb_dig h]; omega
  v0 := by
    have := Lib.lt_pow_nDigits U
    simp only [Nat.sub_zero]
    exact Nat.div_eq_of_lt this
  vs := fun t h => by
    rw [tb_dig h]
    obtain ⟨m, hm⟩ : ∃ m, m = Lib.nDigits U - 1 - t := ⟨_, rfl⟩
    rw [← hm]
    show U / 10 ^ (Lib.nDigits U - (t + 1)) = U / 10 ^ (Lib.nDigits U - t) * 10 + _
    rw [show Lib.nDigits U - (t + 1) = m by omega, show Lib.nDigits U - t = m + 1 by omega, Nat.pow_succ, ← Nat.div_div_eq_div_mul]
    omega
  vb := fun t _ => Nat.lt_of_le_of_lt (Nat.div_le_self _ _) hU
  lead := fun h => by
    rw [tb_dig (by omega)]
    have h10 : ¬ U < 10 := fun h' => by rw [Lib.nDigits_small h'] at h; omega
    have h1 := pow_le_digits U (by omega)
    have h2 := Lib.lt_pow_nDigits U
    obtain ⟨k, hk⟩ : ∃ k, Lib.nDigits U = k + 1 := ⟨Lib.nDigits U - 1, by omega⟩
    rw [hk] at h1 h2 ⊢
    simp only [Nat.add_sub_cancel, Nat.sub_zero] at h1 ⊢
    rw [Nat.pow_succ] at h2
    have hp : 0 < 10 ^ k := Nat.pow_pos (by decide)
    have h3 : 1 ≤ U / 10 ^ k := by rw [Nat.le_div_iff_mul_le hp]; omega
    have h4 : U / 10 ^ k < 10 := by rw [Nat.div_lt_iff_lt_mul hp]; omega
    omega

theorem byte_ofNat {x : Nat} (h : x < 256) : (UInt8.ofNat x).toNat = x := by rw [UInt8.toNat_ofNat']; omega

theorem txt_len (a : Int) : 4 ≤ (txt a).length := by
  have h := Lib.nDigits_pos (a.natAbs / 100)
  have h2 := Lib.decDigits_length (a.natAbs / 100)
  unfold txt
  simp
  split <;> simp <;> omega

/-- The digits, the point and the decimals, wherever they lie. -/
theorem body_cells {w : World} {g o U x y : Nat} (hx : x < 256) (hy : y < 256) (hc : ∀ j, j < Lib.nDigits U + 3 → w.cell? ⟨g, o + j, none⟩ = some (.int .u8 (tb (Lib.decDigits U ++ [46, UInt8.ofNat x, UInt8.ofNat y]) j))) :
    (∀ t, t < Lib.nDigits U → w.cell? ⟨g, o + t, none⟩ = some (.int .u8 (tb (Lib.decDigits U) t))) ∧ w.cell? ⟨g, o + Lib.nDigits U, none⟩ = some (.int .u8 46) ∧ w.cell? ⟨g, o + (Lib.nDigits U + 1), none⟩ = some (.int .u8 x) ∧ w.cell? ⟨g, o + (Lib.nDigits U + 2), none⟩ = some (.int .u8 y) := by
  have hl := Lib.decDigits_length U
  have hr : ∀ i, tb (Lib.decDigits U ++ [46, UInt8.ofNat x, UInt8.ofNat y]) (Lib.nDigits U + i) = tb [46, UInt8.ofNat x, UInt8.ofNat y] i := fun i => by rw [← hl]; exact tb_right
  refine ⟨fun t ht => ?_, ?_, ?_, ?_⟩
  · rw [hc t (by omega), tb_left (by omega)]
  · have := hc (Lib.nDigits U + 0) (by omega)
    rw [hr] at this
    exact this
  · rw [hc (Lib.nDigits U + 1) (by omega), hr]
    show some (Value.int .u8 ((UInt8.ofNat x).toNat : Int)) = _
    rw [byte_ofNat hx]
  · rw [hc (Lib.nDigits U + 2) (by omega), hr]
    show some (Value.int .u8 ((UInt8.ofNat y).toNat : Int)) = _
    rw [byte_ofNat hy]

theorem read_txt (a : Int) (h1 : -9223372036854775808 ≤ a) (h2 : a ≤ 9223372036854775807) (g cap : Nat) (w : World) (hc : ∀ i, i < (txt a).length → w.cell? ⟨g, i, none⟩ = some (.int .u8 (tb (txt a) i))) :
    Calls Tryd.prog 7 #[.slice (some ⟨g, 0, none⟩) (txt a).length cap] w fun e w' => e = .returned (.tuple #[.bool (decide (a < 0)), .int .u64 (a.natAbs : Int), .bool true]) ∧ w = w' := by
  have hD := digs (a.natAbs / 100) (by omega)
  have hl := Lib.decDigits_length (a.natAbs / 100)
  have hval : a.natAbs / 100 / 10 ^ (Lib.nDigits (a.natAbs / 100) - Lib.nDigits (a.natAbs / 100)) * 100 + (48 + a.natAbs % 100 / 10 - 48) * 10 + (48 + a.natAbs % 10 - 48) = a.natAbs := by
    rw [Nat.sub_self, Nat.pow_zero, Nat.div_one]
    omega
  by_cases h : a < 0
  · have e : txt a = [45] ++ (Lib.decDigits (a.natAbs / 100) ++ [46, UInt8.ofNat (48 + a.natAbs % 100 / 10), UInt8.ofNat (48 + a.natAbs % 10)]) := by unfold txt; rw [if_pos h]
    have el : (txt a).length = Lib.nDigits (a.natAbs / 100) + 4 := by rw [e]; simp [hl]
    rw [el] at hc ⊢
    rw [e] at hc
    obtain ⟨c1, c2, c3, c4⟩ := body_cells (w := w) (g := g) (o := 1) (U := a.natAbs / 100) (x := 48 + a.natAbs % 100 / 10) (y := 48 + a.natAbs % 10) (by omega) (by omega) (fun j hj => by
      rw [hc (1 + j) (by omega)]
      have := tb_right (l := [45]) (r := Lib.decDigits (a.natAbs / 100) ++ [46, UInt8.ofNat (48 + a.natAbs % 100 / 10), UInt8.ofNat (48 + a.natAbs % 10)]) (i := j)
      simp only [List.length_singleton] at this
      rw [this])
    have c0 := hc 0 (by omega)
    have hr := read_neg (Lib.nDigits (a.natAbs / 100)) (tb (Lib.decDigits (a.natAbs / 100))) _ (48 + a.natAbs % 100 / 10) (48 + a.natAbs % 10) g 0 cap w hD (by omega) (by omega) (by omega) (by omega) c0 (by rw [hval]; omega)
      (fun t ht => by have := c1 t ht; rwa [Nat.add_comm 1 t, ← Nat.zero_add (t + 1)] at this) (by rw [Nat.add_comm 1] at c2; simpa using c2) (by simpa [show 1 + (Lib.nDigits (a.natAbs / 100) + 1) = Lib.nDigits (a.natAbs / 100) + 2 by omega] using c3) (by simpa [show 1 + (Lib.nDigits (a.natAbs / 100) + 2) = Lib.nDigits (a.natAbs / 100) + 3 by omega] using c4)
    rw [hval] at hr
    rw [decide_eq_true h]
    exact hr
  · have e : txt a = Lib.decDigits (a.natAbs / 100) ++ [46, UInt8.ofNat (48 + a.natAbs % 100 / 10), UInt8.ofNat (48 + a.natAbs % 10)] := by unfold txt; rw [if_neg h]; rfl
    have el : (txt a).length = Lib.nDigits (a.natAbs / 100) + 3 := by rw [e]; simp [hl]
    rw [el] at hc ⊢
    rw [e] at hc
    obtain ⟨c1, c2, c3, c4⟩ := body_cells (w := w) (g := g) (o := 0) (U := a.natAbs / 100) (x := 48 + a.natAbs % 100 / 10) (y := 48 + a.natAbs % 10) (by omega) (by omega) (fun j hj => by rw [Nat.zero_add]; exact hc j (by omega))
    have hr := read_pos (Lib.nDigits (a.natAbs / 100)) (tb (Lib.decDigits (a.natAbs / 100))) _ (48 + a.natAbs % 100 / 10) (48 + a.natAbs % 10) g 0 cap w hD (by omega) (by omega) (by omega) (by omega) c1 c2 c3 c4
    rw [hval] at hr
    rw [decide_eq_false h]
    exact hr

/-- An owned row's cells, by the index. -/
theorem owned_cells {w : World} {B n m : Nat} {v : Value} {F : Nat → Int} {l : List UInt8} (ho : w.ownsRow B 5 1 v (n + l.length) (fcells n F ++ Lib.byteCells l)) (hm : 0 < l.length) (hml : m = l.length) :
    ∃ g cap, v = .slice (some ⟨g, 0, none⟩) (n + m) cap ∧ (∀ i, i < n → w.cell? ⟨g, i, none⟩ = some (.int .u8 (F i))) ∧ ∀ i, i < m → w.cell? ⟨g, n + i, none⟩ = some (.int .u8 (tb l i)) := by
  subst hml
  have hv : ∃ g cap, v = .slice (some ⟨g, 0, none⟩) (n + l.length) cap := by
    rcases ho.2 with ⟨_, h0⟩ | ⟨g, cap, cur, h, _⟩
    · omega
    · exact ⟨g, cap, h⟩
  obtain ⟨g, cap, rfl⟩ := hv
  have hc := ho.cells (g := g) rfl
  have hadd : ∀ j, (⟨g, 0, none⟩ : Addr).add j = ⟨g, j, none⟩ := fun j => by rw [Lib.add_plain]; simp
  refine ⟨g, cap, rfl, fun i hi => ?_, fun i hi => ?_⟩
  · rw [← hadd]
    refine hc i _ ?_
    rw [List.getElem?_append_left (by simp [fcells, hi])]
    simp [fcells, hi]
  · rw [← hadd]
    refine hc (n + i) _ ?_
    rw [List.getElem?_append_right (by simp [fcells])]
    simp [fcells, Lib.byteCells, tb, hi]
end Go.Proofs.Qxb6617870aDoor
