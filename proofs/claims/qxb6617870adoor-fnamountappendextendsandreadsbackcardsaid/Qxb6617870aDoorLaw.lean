/- The law (3). -/
import Derived.Test.Qxb6617870aDoorDig
namespace Go.Proofs.Qxb6617870aDoor
open Go.RowKit Go.Sort Go.Lib

theorem amount_any (a : Int) (h1 : -9223372036854775808 ≤ a) (h2 : a ≤ 9223372036854775807) (n : Nat) (sv : Value) (xs : List Value) (w : World) (hF : Full w sv n xs) (hlim : n ≤ 1048576)
    (htab : Lib.TabIs Tryd.prog w Tryd.tabName .u64 Lib.pow10Tab) :
    Calls Tryd.prog 6 #[.int .i64 a, sv] w fun e w' => ∃ v', e = .returned v' ∧ w'.ownsRow w.heap.size 5 1 v' (n + (txt a).length) (xs ++ Lib.byteCells (txt a)) ∧ Below w.heap.size w w' := by
  by_cases h : a < 0
  · obtain ⟨u, rfl⟩ : ∃ u : Nat, a = -(u : Int) := ⟨a.natAbs, by omega⟩
    exact amount_neg u (by omega) (by omega) n sv xs w hF hlim htab
  · obtain ⟨u, rfl⟩ : ∃ u : Nat, a = (u : Int) := ⟨a.natAbs, by omega⟩
    exact amount_pos u (by omega) n sv xs w hF hlim htab

theorem txt_short (a : Int) (h1 : -9223372036854775808 ≤ a) (h2 : a ≤ 9223372036854775807) : (txt a).length ≤ 24 := by
  have h := digits_len (a.natAbs / 100) (by omega)
  unfold txt
  simp
  split <;> simp <;> omega

/-- What lies before the checks: the wanted bytes, the row, the text alone. -/
structure Laid (w : World) (a2 : Option Addr) (g3 g4 n m : Nat) (F T : Nat → Int) : Prop where
  want : ByteSl w a2 n F
  out1 : ∀ i, i < n → w.cell? ⟨g3, i, none⟩ = some (.int .u8 (F i))
  out2 : ∀ i, i < m → w.cell? ⟨g3, n + i, none⟩ = some (.int .u8 (T i))
  alone : ∀ i, i < m → w.cell? ⟨g4, i, none⟩ = some (.int .u8 (T i))

theorem law_out (v : Value) (a : Option Addr) (n cap : Nat) (hn : 1048576 < n) (w : World) : Calls Tryd.prog 3 #[v, .slice a n cap] w fun e w' => e = .returned (.bool true) ∧ w = w' := by
  have HB := bytes_out v a n cap hn
  clear hn
  go_enter Tryd.func3, Tryd.ntmps3
  go_wp2_with (go_at_call 4; refine (HB _).mono ?_; rintro e w' ⟨rfl, rfl⟩)
  go_ret
  exact ⟨rfl, rfl⟩

set_option maxHeartbeats 1600000 in
set_option maxRecDepth 100000 in
theorem law_in (a : Int) (h1 : -9223372036854775808 ≤ a) (h2 : a ≤ 9223372036854775807) (b : Option Addr) (n cap : Nat) (F : Nat → Int) (w : World) (hn : n ≤ 1048576) (hnil : b = none → n = 0) (hs : ByteSl w b n F)
    (htab : Lib.TabIs Tryd.prog w Tryd.tabName .u64 Lib.pow10Tab) :
    Calls Tryd.prog 3 #[.int .i64 a, .slice b n cap] w fun e w' => e = .returned (.bool true) ∧ Below w.heap.size w w' := by
  have HBY : Hid _ := ⟨bytes_in (.int .i64 a) b n cap hn w⟩
  have HC1 : Hid _ := ⟨clone_any b n cap F w hn hnil hs⟩
  have HTAB : Hid _ := ⟨Lib.tabBelow_of_tabIs htab⟩
  have HA : Hid _ := ⟨fun sv n xs w => amount_any a h1 h2 n sv xs w⟩
  have HN : Hid (n ≤ 1048576 ∧ -9223372036854775808 ≤ a ∧ a ≤ 9223372036854775807) := ⟨hn, h1, h2⟩
  have hn' : (n : Int) ≤ 1048576 := by omega
  clear hs htab hnil hn h1 h2
  go_enter Tryd.func3, Tryd.ntmps3
  go_wp2_with fail
  refine HBY.out.mono ?_
  rintro e w' ⟨rfl, rfl⟩
  clear HBY
  go_wp2_with fail
  refine HC1.out.mono ?_
  rintro e w1 ⟨a1, rfl, hb1, hF1, hn1, hs1⟩
  have HC2 : Hid _ := ⟨clone_any a1 n n F w1 HN.out.1 hn1 hs1⟩
  have HB1 : Hid _ := ⟨hb1⟩
  have HF1 : Hid _ := ⟨hF1⟩
  clear hb1 hF1 hn1 hs1 HC1
  go_wp2_with fail
  refine HC2.out.mono ?_
  rintro e w2 ⟨a2, rfl, hb2, hF2, hn2, hs2⟩
  have HF2 : Hid (Full w2 (.slice a1 n n) n (fcells n F)) := ⟨HF1.out.later hb2⟩
  have HB2 : Hid (Below w.heap.size w w2) := ⟨HB1.out.trans (hb2.mono HB1.out.size)⟩
  have HS2 : Hid _ := ⟨hs2⟩
  clear hb2 hF2 hn2 hs2 HC2 HB1 HF1
  go_wp2_with fail
  refine (HA.out _ _ _ w2 HF2.out HN.out.1 (HTAB.out _ HB2.out)).mono ?_
  rintro e w3 ⟨v3, rfl, ho3, hb3⟩
  have HO3 : Hid _ := ⟨ho3⟩
  have HB3 : Hid (Below w.heap.size w w3) := ⟨HB2.out.trans (hb3.mono HB2.out.size)⟩
  have HS3 : Hid _ := ⟨HS2.out.later hb3⟩
  clear ho3 hb3 HB2 HS2 HF2
  go_wp2_with fail
  refine (HA.out _ 0 [] w3 (.inl ⟨rfl, rfl, rfl⟩) (Nat.zero_le _) (HTAB.out _ HB3.out)).mono ?_
  rintro e w4 ⟨v4, rfl, ho4, hb4⟩
  have HL : ∃ g3 c3 g4 c4, v3 = .slice (some ⟨g3, 0, none⟩) (n + (txt a).length) c3 ∧ v4 = .slice (some ⟨g4, 0, none⟩) (txt a).length c4 ∧ Hid (Laid w4 a2 g3 g4 n (txt a).length F (fun i => (tb (txt a) i : Int))) := by
    have hp := txt_len a
    obtain ⟨g3, c3, rfl, p1, p2⟩ := owned_cells HO3.out (by omega) rfl
    obtain ⟨g4, c4, rfl, _, q2⟩ := owned_cells (n := 0) (F := F) (l := txt a) ho4 (by omega) rfl
    refine ⟨g3, c3, g4, c4, rfl, by rw [Nat.zero_add], ⟨HS3.out.later hb4, fun i hi => ?_, fun i hi => ?_, fun i hi => ?_⟩⟩
    · exact (hb4.cell (p := ⟨g3, i, none⟩) (World.block_lt_of_cell? w3 _ (p1 i hi))).trans (p1 i hi)
    · exact (hb4.cell (p := ⟨g3, n + i, none⟩) (World.block_lt_of_cell? w3 _ (p2 i hi))).trans (p2 i hi)
    · have := q2 i hi; rwa [Nat.zero_add] at this
  obtain ⟨g3, c3, g4, c4, rfl, rfl, HL⟩ := HL
  have HB4 : Hid (Below w.heap.size w w4) := ⟨HB3.out.trans (hb4.mono HB3.out.size)⟩
  clear ho4 hb4 HB3 HS3 HO3 HA HTAB
  have HR : Hid _ := ⟨fun j => read_txt a HN.out.2.1 HN.out.2.2 g4 c4 (w4.drewN j) (fun i hi => by rw [World.cell?_drewN]; exact HL.out.alone i hi)⟩
  have HM : Hid ((txt a).length ≤ 24) := ⟨txt_short a HN.out.2.1 HN.out.2.2⟩
  obtain ⟨T, hT⟩ : ∃ T : Nat → Int, T = fun i => (tb (txt a) i : Int) := ⟨_, rfl⟩
  rw [← hT] at HL
  clear hT
  obtain ⟨m, hm⟩ : ∃ m, m = (txt a).length := ⟨_, rfl⟩
  rw [← hm] at HL HR HM ⊢
  clear hm
  have hm24 : (m : Int) ≤ 24 := by have := HM.out; omega
  have hnm : ((n + m : Nat) : Int) = (n : Int) + (m : Int) := by omega
  go_wp2
  go_loopw [8] (fun i wr => ∃ k j : Nat, k ≤ n ∧ i = .int .i64 k ∧ wr = w4.drewN j) (fun i _ => n - (RowKit.intOf i).toNat)
  case atStart => exact ⟨0, 0, Nat.zero_le _, rfl, rfl⟩
  case round =>
    obtain ⟨k, j, hk, rfl, rfl⟩ := hrel
    by_cases hlt : k < n
    · obtain ⟨b2, o2, hx, hc⟩ := HL.out.want.pos (by omega)
      obtain rfl := hx
      have d0 := hc k hlt
      have d1 := HL.out.out1 k hlt
      obtain ⟨x, hx⟩ : ∃ x, x = F k := ⟨_, rfl⟩
      rw [← hx] at d0 d1
      have hkn : (k : Int) < (n : Int) := by omega
      have hkm : (k : Int) < (n : Int) + (m : Int) := by omega
      clear hx hc HL HR HB4
      go_wp2
      go_quiet (fail)
      go_wp2
      go_roundw
      case rel => exact ⟨k + 1, _, by omega, by go_num, rfl⟩
      case measure => simp [RowKit.intOf]; omega
    · obtain rfl : k = n := by omega
      clear hlt hk
      go_wp2
      go_loopw [9] (fun i wr => ∃ t j : Nat, t ≤ m ∧ i = .int .i64 t ∧ wr = w4.drewN j) (fun i _ => m - (RowKit.intOf i).toNat)
      case atStart => exact ⟨0, j, Nat.zero_le _, rfl, rfl⟩
      case round =>
        obtain ⟨t, j', ht, rfl, rfl⟩ := hrel
        by_cases hlt : t < m
        · have d0 := HL.out.out2 t hlt
          have d1 := HL.out.alone t hlt
          obtain ⟨x, hx⟩ : ∃ x, x = T t := ⟨_, rfl⟩
          rw [← hx] at d0 d1
          have htm : (t : Int) < (m : Int) := by omega
          have hktm : (k : Int) + (t : Int) < (k : Int) + (m : Int) := by omega
          clear hx HL HR HB4
          go_wp2
          go_quiet (fail)
          go_wp2
          go_roundw
          case rel => exact ⟨t + 1, _, by omega, by go_num, rfl⟩
          case measure => simp [RowKit.intOf]; omega
        · obtain rfl : t = m := by omega
          clear hlt ht HL
          go_wp2_with fail
          refine (HR.out _).mono ?_
          rintro e w' ⟨rfl, rfl⟩
          clear HR
          have HB5 : Hid (∀ j, Below w.heap.size w (w4.drewN j)) := ⟨fun j => ⟨HB4.out.os, HB4.out.tape, HB4.out.output, HB4.out.size, HB4.out.block⟩⟩
          clear HB4
          by_cases hneg : a < 0
          · obtain ⟨u, rfl⟩ : ∃ u : Nat, a = -(u : Int) := ⟨a.natAbs, by omega⟩
            have hu := HN.out
            have e0 : decide (-(u : Int) < 0) = true := decide_eq_true hneg
            have e1 : IntKind.u64.wrap (-(u : Int)) = 18446744073709551616 - (u : Int) := by rw [IntKind.wrap_u64]; omega
            have e2 : IntKind.u64.wrap (-(18446744073709551616 - (u : Int))) = (u : Int) := by rw [IntKind.wrap_u64]; omega
            have e3 : ((-(u : Int)).natAbs : Int) = (u : Int) := by omega
            rw [e3, e0]
            clear hu HN
            go_wp2
            go_ret
            exact ⟨rfl, HB5.out _⟩
          · obtain ⟨u, rfl⟩ : ∃ u : Nat, a = (u : Int) := ⟨a.natAbs, by omega⟩
            have hu := HN.out.2.2
            have e0 : decide ((u : Int) < 0) = false := decide_eq_false hneg
            have e3 : ((u : Int).natAbs : Int) = (u : Int) := by omega
            rw [e3, e0]
            clear HN
            go_wp2
            go_ret
            exact ⟨rfl, HB5.out _⟩
end Go.Proofs.Qxb6617870aDoor
