/- Magnitude (8), Amount.Append (6). -/
import Derived.Test.Qxb6617870aDoorFull
namespace Go.Proofs.Qxb6617870aDoor
open Go.RowKit Go.Sort Go.Lib

/-- The amount's text. -/
def txt (a : Int) : List UInt8 := (if a < 0 then [45] else []) ++ (Lib.decDigits (a.natAbs / 100) ++ [46, UInt8.ofNat (48 + a.natAbs % 100 / 10), UInt8.ofNat (48 + a.natAbs % 10)])

theorem magnitude_any (a : Int) (h1 : -9223372036854775808 ≤ a) (h2 : a ≤ 9223372036854775807) (w : World) :
    Calls Tryd.prog 8 #[.int .i64 a] w fun e w' => e = .returned (.int .u64 (a.natAbs : Int)) ∧ w = w' := by
  by_cases h : a < 0
  · obtain ⟨u, rfl⟩ : ∃ u : Nat, a = -(u : Int) := ⟨a.natAbs, by omega⟩
    have e1 : IntKind.u64.wrap (-(u : Int)) = 18446744073709551616 - (u : Int) := by rw [IntKind.wrap_u64]; omega
    have e2 : IntKind.u64.wrap (-(18446744073709551616 - (u : Int))) = (u : Int) := by rw [IntKind.wrap_u64]; omega
    have e3 : ((-(u : Int)).natAbs : Int) = (u : Int) := by omega
    rw [e3]
    go_enter Tryd.func8, Tryd.ntmps8
    go_wp2
    go_ret
    exact ⟨rfl, rfl⟩
  · obtain ⟨u, rfl⟩ : ∃ u : Nat, a = (u : Int) := ⟨a.natAbs, by omega⟩
    have e3 : ((u : Int).natAbs : Int) = (u : Int) := by omega
    rw [e3]
    go_enter Tryd.func8, Tryd.ntmps8
    go_wp2
    go_ret
    exact ⟨rfl, rfl⟩
theorem bcells_new (w : World) (xs : List UInt8) (t : TypeId) : ∀ j u, (Lib.byteCells xs)[j]? = some u → (w.alloc (.cells (Lib.byteCells xs).toArray t)).cell? ((⟨w.heap.size, 0, none⟩ : Addr).add j) = some u := by
  intro j u hj
  have h : (Lib.byteCells xs).toArray[j]? = some u := by simpa using hj
  rcases j with _ | j
  · simpa [Addr.add] using h
  · simpa [Addr.add] using h
theorem bcells_one (xs : List UInt8) : ∀ u ∈ Lib.byteCells xs, u.oneCell' = true := by
  intro u' hu'; simp only [Lib.byteCells, List.mem_map] at hu'; obtain ⟨b, _, rfl⟩ := hu'; rfl

theorem owns_alloc {w : World} {B n : Nat} {sv : Value} {xs : List Value} (h : w.ownsRow B 5 1 sv n xs) (o : Obj) : (w.alloc o).ownsRow B 5 1 sv n xs := by
  have hb := (Below.refl w.heap.size w).alloc (Nat.le_refl _) o
  exact h.kept (row := none) ⟨hb.os, hb.tape, hb.output, hb.size, fun k hk _ => hb.block k hk⟩ (by cases hv : sv.ownBlock <;> simp)
theorem three_cells (d1 d2 : Nat) (h1 : d1 < 10) (h2 : d2 < 10) : Lib.byteCells [46, UInt8.ofNat (48 + d1), UInt8.ofNat (48 + d2)] = [.int .u8 46, .int .u8 (48 + (d1 : Int)), .int .u8 (48 + (d2 : Int))] := by
  simp only [Lib.byteCells, List.map_cons, List.map_nil, UInt8.toNat_ofNat']
  congr 1
  rw [Nat.mod_eq_of_lt (by omega), Nat.mod_eq_of_lt (by omega)]
  rfl

set_option maxHeartbeats 1600000 in
set_option maxRecDepth 100000 in
theorem amount_neg (u : Nat) (hu : 0 < u) (h2 : u ≤ 9223372036854775808) (n : Nat) (sv : Value) (xs : List Value) (w : World) (hF : Full w sv n xs) (hlim : n ≤ 1048576)
    (htab : Lib.TabIs Tryd.prog w Tryd.tabName .u64 Lib.pow10Tab) :
    Calls Tryd.prog 6 #[.int .i64 (-(u : Int)), sv] w fun e w' => ∃ v', e = .returned v' ∧ w'.ownsRow w.heap.size 5 1 v' (n + (txt (-(u : Int))).length) (xs ++ Lib.byteCells (txt (-(u : Int)))) ∧ Below w.heap.size w w' := by
  have hm := fun W => magnitude_any (-(u : Int)) (by omega) (by omega) W
  have e3 : (-(u : Int)).natAbs = u := by omega
  rw [e3] at hm
  have HM : Hid _ := ⟨hm⟩
  have hT : txt (-(u : Int)) = [45] ++ (Lib.decDigits (u / 100) ++ [46, UInt8.ofNat (48 + u % 100 / 10), UInt8.ofNat (48 + u % 10)]) := by
    unfold txt
    rw [e3, if_pos (by omega)]
  obtain ⟨T, hTT⟩ : ∃ T, T = txt (-(u : Int)) := ⟨_, rfl⟩
  rw [← hTT] at hT ⊢
  have HT : Hid _ := ⟨hT⟩
  have HTAB : Hid _ := ⟨Lib.tabBelow_of_tabIs htab⟩
  have HDL : Hid _ := ⟨digits_len (u / 100) (by omega)⟩
  have HQ : Hid ((u : Int) / 100 = ((u / 100 : Nat) : Int)) := ⟨rfl⟩
  have HF : Hid (Full w sv n xs) := ⟨hF⟩
  obtain ⟨c, hc⟩ : ∃ c, c = u / 100 := ⟨_, rfl⟩
  obtain ⟨d, hd⟩ : ∃ d, d = u % 100 := ⟨_, rfl⟩
  obtain ⟨d1, hd1⟩ : ∃ d1, d1 = d / 10 := ⟨_, rfl⟩
  obtain ⟨d2, hd2⟩ : ∃ d2, d2 = u % 10 := ⟨_, rfl⟩
  have k1 : d1 < 10 := by omega
  have k2 : d2 < 10 := by omega
  have K : Hid (d1 < 10 ∧ d2 < 10 ∧ c < 18446744073709551616 ∧ n ≤ 1048576) := ⟨k1, k2, by omega, hlim⟩
  rw [← hc] at HQ HT HDL
  rw [← hd] at HT
  rw [← hd1] at HT
  rw [← hd2] at HT
  have HC : Hid _ := ⟨three_cells d1 d2 k1 k2⟩
  have HLL : Hid ((Lib.byteCells [46, UInt8.ofNat (48 + d1), UInt8.ofNat (48 + d2)]).length = 3) := ⟨rfl⟩
  obtain ⟨L, hL⟩ : ∃ L, L = [46, UInt8.ofNat (48 + d1), UInt8.ofNat (48 + d2)] := ⟨_, rfl⟩
  rw [← hL] at HT HC HLL
  have HD : Hid ((u : Int) % 100 / 10 = (d1 : Int) ∧ (u : Int) % 10 = (d2 : Int)) := ⟨by omega, by omega⟩
  clear hL hc hd hd1 hd2 hT htab e3 hm hF k1 k2 hlim hTT
  have HI : Hid _ := ⟨info_parts Tryd.info5⟩
  go_enter Tryd.func6, Tryd.ntmps6
  go_wp2_with (at_builtin; refine wpList_append_full _ rfl _ _ rfl _ _ _ rfl (HF.out.later ((Below.refl _ _).alloc (Nat.le_refl _) _)) ⟨w.heap.size, 0, none⟩ 1 1 (Lib.byteCells [45]) rfl rfl (bcells_new _ _ _) (bcells_one _) (by decide) (by have := K.out; omega) ?_)
  intro v1 w1 ho1 hg1
  have hB1 : Below w.heap.size w w1 := ((Below.refl _ _).alloc (Nat.le_refl _) _).grown hg1 (by simp) (fun k h => by cases h)
  have hO1 : w1.ownsRow w.heap.size 5 1 v1 (n + 1) (xs ++ Lib.byteCells [45]) := ho1.mono (by simp)
  have HB1 : Hid _ := ⟨hB1⟩
  have HO1 : Hid _ := ⟨hO1⟩
  clear ho1 hg1 hB1 hO1 HF
  go_wp2_with fail
  refine (HM.out _).mono ?_
  rintro e w' ⟨rfl, rfl⟩
  clear HM
  go_wp2_with fail
  rw [HQ.out]
  refine (appU_any w.heap.size (n + 1) c K.out.2.2.1 v1 _ w1 HO1.out HB1.out.size (by have := K.out; omega) (HTAB.out _ HB1.out)).mono ?_
  rintro e w2 ⟨v2, rfl, ho2, hg2⟩
  have HB2 : Hid _ := ⟨HB1.out.grown hg2 HB1.out.size (fun k h => (HO1.out.lt k h).1)⟩
  have HO2 : Hid _ := ⟨ho2⟩
  clear ho2 hg2 HB1 HO1 HTAB
  obtain ⟨i0, hi, hz0, hz1, hz2⟩ := HI.out
  go_wp2_with (at_builtin; rw [HD.out.1, HD.out.2]; refine wpList_append_own _ rfl _ _ 22 rfl w.heap.size 5 i0 (.int .u8 0) 1 1 Tryd.underlying22 hi hz0 hz1 hz2 rfl (by decide) _ _ _ rfl (owns_alloc HO2.out _) ⟨w2.heap.size, 0, none⟩ 3 3 (Lib.byteCells L) rfl HLL.out ?c1 (bcells_one _) ?c3 ?c4 ?c5 ?_)
  case c1 => have := bcells_new w2 L 5; rw [HC.out] at this ⊢; exact this
  case c3 => have := HDL.out; have := K.out; unfold maxLen; omega
  case c4 => have := HDL.out; have := K.out; omega
  case c5 => have := HB2.out.size; simp; omega
  intro v3 w3 ho3 hg3 _
  have hB3 : Below w.heap.size w w3 := (HB2.out.alloc HB2.out.size _).grown hg3 (by have := HB2.out.size; simp; omega) (fun k h => (HO2.out.lt k h).1)
  have hO3 : w3.ownsRow w.heap.size 5 1 v3 (n + T.length) (xs ++ Lib.byteCells T) := by
    rw [HT.out]
    have e1 : n + ([45] ++ (Lib.decDigits c ++ L)).length = n + 1 + (Lib.decDigits c).length + 3 := by have := HLL.out; simp [Lib.byteCells] at this ⊢; omega
    have e2 : xs ++ Lib.byteCells ([45] ++ (Lib.decDigits c ++ L)) = xs ++ Lib.byteCells [45] ++ Lib.byteCells (Lib.decDigits c) ++ Lib.byteCells L := by simp [Lib.byteCells]
    rw [e1, e2]
    simpa using ho3
  have HB3 : Hid _ := ⟨hB3⟩
  have HO3 : Hid _ := ⟨hO3⟩
  clear ho3 hg3 hB3 hO3 HC hi hz0 hz1 hz2
  go_wp2
  go_ret
  exact ⟨v3, rfl, HO3.out, HB3.out⟩

set_option maxHeartbeats 1600000 in
set_option maxRecDepth 100000 in
theorem amount_pos (u : Nat) (h2 : u ≤ 9223372036854775807) (n : Nat) (sv : Value) (xs : List Value) (w : World) (hF : Full w sv n xs) (hlim : n ≤ 1048576)
    (htab : Lib.TabIs Tryd.prog w Tryd.tabName .u64 Lib.pow10Tab) :
    Calls Tryd.prog 6 #[.int .i64 (u : Int), sv] w fun e w' => ∃ v', e = .returned v' ∧ w'.ownsRow w.heap.size 5 1 v' (n + (txt (u : Int)).length) (xs ++ Lib.byteCells (txt (u : Int))) ∧ Below w.heap.size w w' := by
  have hm := fun W => magnitude_any (u : Int) (by omega) (by omega) W
  have e3 : (u : Int).natAbs = u := by omega
  rw [e3] at hm
  have HM : Hid _ := ⟨hm⟩
  have hT : txt (u : Int) = Lib.decDigits (u / 100) ++ [46, UInt8.ofNat (48 + u % 100 / 10), UInt8.ofNat (48 + u % 10)] := by
    unfold txt
    rw [e3, if_neg (by omega)]; rfl
  obtain ⟨T, hTT⟩ : ∃ T, T = txt (u : Int) := ⟨_, rfl⟩
  rw [← hTT] at hT ⊢
  have HT : Hid _ := ⟨hT⟩
  have HTAB : Hid _ := ⟨Lib.tabBelow_of_tabIs htab⟩
  have HDL : Hid _ := ⟨digits_len (u / 100) (by omega)⟩
  have HQ : Hid ((u : Int) / 100 = ((u / 100 : Nat) : Int)) := ⟨rfl⟩
  have HF : Hid (Full w sv n xs) := ⟨hF⟩
  obtain ⟨c, hc⟩ : ∃ c, c = u / 100 := ⟨_, rfl⟩
  obtain ⟨d, hd⟩ : ∃ d, d = u % 100 := ⟨_, rfl⟩
  obtain ⟨d1, hd1⟩ : ∃ d1, d1 = d / 10 := ⟨_, rfl⟩
  obtain ⟨d2, hd2⟩ : ∃ d2, d2 = u % 10 := ⟨_, rfl⟩
  have k1 : d1 < 10 := by omega
  have k2 : d2 < 10 := by omega
  have K : Hid (d1 < 10 ∧ d2 < 10 ∧ c < 18446744073709551616 ∧ n ≤ 1048576) := ⟨k1, k2, by omega, hlim⟩
  rw [← hc] at HQ HT HDL
  rw [← hd] at HT
  rw [← hd1] at HT
  rw [← hd2] at HT
  have HC : Hid _ := ⟨three_cells d1 d2 k1 k2⟩
  have HLL : Hid ((Lib.byteCells [46, UInt8.ofNat (48 + d1), UInt8.ofNat (48 + d2)]).length = 3) := ⟨rfl⟩
  obtain ⟨L, hL⟩ : ∃ L, L = [46, UInt8.ofNat (48 + d1), UInt8.ofNat (48 + d2)] := ⟨_, rfl⟩
  rw [← hL] at HT HC HLL
  have HD : Hid ((u : Int) % 100 / 10 = (d1 : Int) ∧ (u : Int) % 10 = (d2 : Int)) := ⟨by omega, by omega⟩
  clear hL hc hd hd1 hd2 hT htab e3 hm hF k1 k2 hlim hTT
  have HI : Hid _ := ⟨info_parts Tryd.info5⟩
  go_enter Tryd.func6, Tryd.ntmps6
  go_wp2_with fail
  refine (HM.out _).mono ?_
  rintro e w' ⟨rfl, rfl⟩
  clear HM
  go_wp2_with fail
  rw [HQ.out]
  refine (appF_any n c K.out.2.2.1 sv xs _ HF.out (by have := K.out; omega) (HTAB.out _ (Below.refl _ _))).mono ?_
  rintro e w2 ⟨v2, rfl, ho2, hg2⟩
  have HB2 : Hid _ := ⟨hg2⟩
  have HO2 : Hid _ := ⟨ho2⟩
  clear ho2 hg2 HF HTAB
  obtain ⟨i0, hi, hz0, hz1, hz2⟩ := HI.out
  go_wp2_with (at_builtin; rw [HD.out.1, HD.out.2]; refine wpList_append_own _ rfl _ _ 22 rfl w.heap.size 5 i0 (.int .u8 0) 1 1 Tryd.underlying22 hi hz0 hz1 hz2 rfl (by decide) _ _ _ rfl (owns_alloc HO2.out _) ⟨w2.heap.size, 0, none⟩ 3 3 (Lib.byteCells L) rfl HLL.out ?c1 (bcells_one _) ?c3 ?c4 ?c5 ?_)
  case c1 => have := bcells_new w2 L 5; rw [HC.out] at this ⊢; exact this
  case c3 => have := HDL.out; have := K.out; unfold maxLen; omega
  case c4 => have := HDL.out; have := K.out; omega
  case c5 => have := HB2.out.size; simp; omega
  intro v3 w3 ho3 hg3 _
  have hB3 : Below w.heap.size w w3 := (HB2.out.alloc HB2.out.size _).grown hg3 (by have := HB2.out.size; simp; omega) (fun k h => (HO2.out.lt k h).1)
  have hO3 : w3.ownsRow w.heap.size 5 1 v3 (n + T.length) (xs ++ Lib.byteCells T) := by
    rw [HT.out]
    have e1 : n + (Lib.decDigits c ++ L).length = n + (Lib.decDigits c).length + 3 := by have := HLL.out; simp [Lib.byteCells] at this ⊢; omega
    have e2 : xs ++ Lib.byteCells (Lib.decDigits c ++ L) = xs ++ Lib.byteCells (Lib.decDigits c) ++ Lib.byteCells L := by simp [Lib.byteCells]
    rw [e1, e2]
    simpa using ho3
  have HB3 : Hid _ := ⟨hB3⟩
  have HO3 : Hid _ := ⟨hO3⟩
  clear ho3 hg3 hB3 hO3 HC hi hz0 hz1 hz2
  go_wp2
  go_ret
  exact ⟨v3, rfl, HO3.out, HB3.out⟩

end Go.Proofs.Qxb6617870aDoor
