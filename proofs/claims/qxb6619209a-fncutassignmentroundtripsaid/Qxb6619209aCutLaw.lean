/- FnCutAssignmentRoundTrip (3): the law's own walk. -/
import Derived.Test.Qxb6619209aCutPlain
namespace Go.Proofs.Qxb6619209a
open Go.RowKit

set_option maxHeartbeats 3200000 in
theorem law_yes (k v : ByteArray) (w : World) (h : (k.size : Int) + v.size ≤ 1048576) :
    Calls Try.prog 3 #[.string k, .string v] w fun e w' => e = .returned (.bool true) ∧ Below w.heap.size w w' := by
  by_cases g1 : (k.size : Int) ≤ 524288
  rotate_left
  · go_enter Try.func3, Try.ntmps3
    go_wp2_with (go_at_call 6; refine (bytes_ok k v _ h).mono ?_; rintro e w' ⟨rfl, rfl⟩)
    go_ret
    exact ⟨rfl, Below.refl _ _⟩
  by_cases g2 : (v.size : Int) ≤ 524288
  rotate_left
  · go_enter Try.func3, Try.ntmps3
    go_wp2_with (go_at_call 6; refine (bytes_ok k v _ h).mono ?_; rintro e w' ⟨rfl, rfl⟩)
    go_ret
    exact ⟨rfl, Below.refl _ _⟩
  by_cases g3 : (k.size : Int) = 0
  · have g4 : ((k.size : Int) == 0) = true := by simpa using g3
    clear g3
    go_enter Try.func3, Try.ntmps3
    go_wp2_with (go_at_call 6; refine (bytes_ok k v _ h).mono ?_; rintro e w' ⟨rfl, rfl⟩)
    go_ret
    exact ⟨rfl, Below.refl _ _⟩
  have g4 : ((k.size : Int) == 0) = false := by simpa using g3
  clear g3
  obtain ⟨i0, hi, hz0, hz1, hz2⟩ := info_parts Try.info5
  go_enter Try.func3, Try.ntmps3
  go_wp2_with (go_at_call 6; refine (bytes_ok k v _ h).mono ?_; rintro e w' ⟨rfl, rfl⟩)
  go_loop [5] (fun i => ∃ n : Nat, n ≤ k.size ∧ i = .int .i64 n ∧ ∀ j (hj : j < n) (h : j < k.size), (k[j].toNat : Int) ≠ 32 ∧ (k[j].toNat : Int) ≠ 9 ∧ (k[j].toNat : Int) ≠ 61) (fun i => k.size - (intOf i).toNat)
  case atStart => exact ⟨0, Nat.zero_le _, rfl, fun j hj => by omega⟩
  case round =>
    obtain ⟨n, hn, rfl, hns⟩ := hrel
    by_cases hlt : n < k.size
    · by_cases hsep : (k[n].toNat : Int) = 32 ∨ (k[n].toNat : Int) = 9 ∨ (k[n].toNat : Int) = 61
      · have C := sep_yes (k[n].toNat : Int) w hsep
        clear hns hsep
        go_wp2_with (go_at_call 7; refine C.mono ?_; rintro e w' ⟨rfl, rfl⟩)
        go_ret
        exact ⟨rfl, Below.refl _ _⟩
      · have C := sep_no (k[n].toNat : Int) w (by simp; omega) (by simp; omega) (by simp; omega)
        have HN : Hid (∀ j (hj : j < n + 1) (h : j < k.size), (k[j].toNat : Int) ≠ 32 ∧ (k[j].toNat : Int) ≠ 9 ∧ (k[j].toNat : Int) ≠ 61) := by
          intro j hj hjk
          by_cases e : j < n
          · exact hns j e hjk
          · obtain rfl : j = n := by omega
            omega
        clear hns hsep
        go_wp2_with (go_at_call 7; refine C.mono ?_; rintro e w' ⟨rfl, rfl⟩)
        go_round
        case rel => exact ⟨n + 1, by omega, by go_num, HN.out⟩
        case measure => simp [intOf]; omega
    · obtain rfl : n = k.size := by omega
      have HN : Hid (∀ j (h : j < k.size), (k[j].toNat : Int) ≠ 32 ∧ (k[j].toNat : Int) ≠ 9 ∧ (k[j].toNat : Int) ≠ 61) := fun j hj => hns j hj hj
      clear hns
      go_wp2_with (at_make; refine wpList_make_own _ rfl _ _ 24 rfl w.heap.size 5 i0 (.int .u8 0) 1 Try.underlying24 hi hz0 hz1 _ _ _ (k.size + 3 + v.size) rfl rfl (by omega) ?b2 ?b3 (Nat.le_refl _) ?_)
      case b2 => omega
      case b3 => unfold maxLen; omega
      intro w0 hown0 hgrow0
      have hb0 : Below w.heap.size w w0 := (Below.refl _ _).grown hgrow0 (Nat.le_refl _) (fun k h => by cases h)
      clear hgrow0
      go_wp2
      go_loopw [6, 7] (fun out si wr => ∃ n : Nat, n ≤ k.size ∧ si = .int .i64 n ∧ out = .slice (some ⟨w.heap.size, 0, none⟩) n (k.size + 3 + v.size) ∧
          wr.ownsRow w.heap.size 5 1 (.slice (some ⟨w.heap.size, 0, none⟩) n (k.size + 3 + v.size)) n (bv (k.data.toList.take n)) ∧ Below w.heap.size w wr)
        (fun _ si _ => k.size - (intOf si).toNat)
      case atStart => exact ⟨0, Nat.zero_le _, rfl, rfl, hown0, hb0⟩
      case round =>
        clear hown0 hb0
        obtain ⟨n, hnk, rfl, rfl, hown, hb⟩ := hrel
        by_cases hlt : n < k.size
        · go_wp2_with (at_builtin; refine wpList_append_fits _ rfl (.tmp 55) (.tmp 59) 24 rfl w.heap.size 5 i0 1 Try.underlying24 hi hz1 w.heap.size n (k.size + 3 + v.size) _ rfl (hown.alloc _) ⟨wr.heap.size, 0, none⟩ 1 1 [.int .u8 (k[n].toNat : Int)] rfl rfl (cell_one_new _ _ _) (by intro u hu; simp at hu; subst hu; rfl) (by omega) ?_; intro w1 hown1 hgrow1)
          have hb1 : Below w.heap.size w w1 := (hb.alloc hb.size _).grown hgrow1 (by simp; have := hb.size; omega) (fun k hk => by cases hk; exact Nat.le_refl _)
          have R : w1.ownsRow w.heap.size 5 1 (.slice (some ⟨w.heap.size, 0, none⟩) (n + 1) (k.size + 3 + v.size)) (n + 1) (bv (k.data.toList.take (n + 1))) := by
            rw [take_snoc k n hlt, bv_append]; exact hown1
          clear hown hb hown1 hgrow1
          go_roundw
          case rel => exact ⟨n + 1, by omega, by go_num, rfl, R, hb1⟩
          case measure => simp [intOf]; omega
        · obtain rfl : n = k.size := by omega
          go_wp2_with (at_builtin; refine wpList_append_fits _ rfl (.tmp 61) (.tmp 62) 24 rfl w.heap.size 5 i0 1 Try.underlying24 hi hz1 w.heap.size k.size (k.size + 3 + v.size) _ rfl (hown.alloc _) ⟨wr.heap.size, 0, none⟩ 3 3 [.int .u8 32, .int .u8 61, .int .u8 32] rfl rfl ?c1 ?c2 ?c3 ?_)
          case c1 => exact cells_new _ _ _
          case c2 => intro u hu; simp at hu; rcases hu with rfl | rfl | rfl <;> rfl
          case c3 => omega
          intro w1 hown1 hgrow1
          have hb1 : Below w.heap.size w w1 := (hb.alloc hb.size _).grown hgrow1 (by simp; have := hb.size; omega) (fun k hk => by cases hk; exact Nat.le_refl _)
          have R : w1.ownsRow w.heap.size 5 1 (.slice (some ⟨w.heap.size, 0, none⟩) (k.size + 3) (k.size + 3 + v.size)) (k.size + 3) (bv (k.data.toList ++ [32, 61, 32])) := by
            rw [bv_append]; rw [take_full] at hown1; exact hown1
          clear hown hb hown1 hgrow1
          go_wp2
          go_loopw [6, 8] (fun out si wr => ∃ n : Nat, n ≤ v.size ∧ si = .int .i64 n ∧ out = .slice (some ⟨w.heap.size, 0, none⟩) (k.size + 3 + n) (k.size + 3 + v.size) ∧
              wr.ownsRow w.heap.size 5 1 (.slice (some ⟨w.heap.size, 0, none⟩) (k.size + 3 + n) (k.size + 3 + v.size)) (k.size + 3 + n) (bv (k.data.toList ++ [32, 61, 32] ++ v.data.toList.take n)) ∧ Below w.heap.size w wr)
            (fun _ si _ => v.size - (intOf si).toNat)
          case atStart => exact ⟨0, Nat.zero_le _, rfl, rfl, by simpa using R, hb1⟩
          case round =>
            clear R hb1
            rename_i wr0 _
            obtain ⟨n, hnv, rfl, rfl, hown, hb⟩ := hrel
            by_cases hlt : n < v.size
            · go_wp2_with (at_builtin; refine wpList_append_fits _ rfl (.tmp 70) (.tmp 74) 24 rfl w.heap.size 5 i0 1 Try.underlying24 hi hz1 w.heap.size (k.size + 3 + n) (k.size + 3 + v.size) _ rfl (hown.alloc _) ⟨wr.heap.size, 0, none⟩ 1 1 [.int .u8 (v[n].toNat : Int)] rfl rfl (cell_one_new _ _ _) (by intro u hu; simp at hu; subst hu; rfl) (by omega) ?_; intro w1 hown1 hgrow1)
              have hb1 : Below w.heap.size w w1 := (hb.alloc hb.size _).grown hgrow1 (by simp; have := hb.size; omega) (fun k hk => by cases hk; exact Nat.le_refl _)
              have R : w1.ownsRow w.heap.size 5 1 (.slice (some ⟨w.heap.size, 0, none⟩) (k.size + 3 + (n + 1)) (k.size + 3 + v.size)) (k.size + 3 + (n + 1)) (bv (k.data.toList ++ [32, 61, 32] ++ v.data.toList.take (n + 1))) := by
                rw [take_snoc v n hlt, ← List.append_assoc, bv_append]; exact hown1
              clear hown hb hown1 hgrow1
              go_roundw
              case rel => exact ⟨n + 1, by omega, by go_num, rfl, R, hb1⟩
              case measure => simp [intOf]; omega
            · obtain rfl : n = v.size := by omega
              obtain ⟨w3, hw3⟩ : ∃ x, x = wr := ⟨_, rfl⟩
              subst hw3
              obtain ⟨_, hBN, hF⟩ : (line k v).length = k.size + 3 + v.size ∧ w.heap.size < w3.heap.size ∧ ∀ i, i < k.size + 3 + v.size → w3.cell? ⟨w.heap.size, i, none⟩ = some (.int .u8 (byteAt (line k v) i)) :=
                row_cells (l := line k v) (by rw [take_full] at hown; exact hown)
              have HF : Hid (∀ i, i < k.size + 3 + v.size → w3.cell? ⟨w.heap.size, i, none⟩ = some (.int .u8 (byteAt (line k v) i))) := hF
              clear hown hF
              go_wp2_with (at_make; refine wpList_make_own _ rfl _ _ 24 rfl w3.heap.size 5 i0 (.int .u8 0) 1 Try.underlying24 hi hz0 hz1 _ _ _ (k.size + 2) rfl rfl (by omega) ?d2 ?d3 (Nat.le_refl _) ?_)
              case d2 => first | omega | (rw [hz2]; omega)
              case d3 => unfold maxLen; omega
              intro w2 hown2 hgrow2
              have hb2 : Below w3.heap.size w3 w2 := (Below.refl _ _).grown hgrow2 (Nat.le_refl _) (fun k h => by cases h)
              clear hgrow2
              go_wp2
              go_loopw [9, 10] (fun out si wq => ∃ n : Nat, n ≤ k.size ∧ si = .int .i64 n ∧ out = .slice (some ⟨w3.heap.size, 0, none⟩) n (k.size + 2) ∧
                  wq.ownsRow w3.heap.size 5 1 (.slice (some ⟨w3.heap.size, 0, none⟩) n (k.size + 2)) n (bv (k.data.toList.take n)) ∧ Below w3.heap.size w3 wq)
                (fun _ si _ => k.size - (intOf si).toNat)
              case atStart => exact ⟨0, Nat.zero_le _, rfl, rfl, hown2, hb2⟩
              case round =>
                clear hown2 hb2
                obtain ⟨n, hnk, rfl, rfl, hown, hb'⟩ := hrel
                by_cases hlt : n < k.size
                · go_wp2_with (at_builtin; refine wpList_append_fits _ rfl (.tmp 86) (.tmp 90) 24 rfl w3.heap.size 5 i0 1 Try.underlying24 hi hz1 w3.heap.size n (k.size + 2) _ rfl (hown.alloc _) ⟨wr.heap.size, 0, none⟩ 1 1 [.int .u8 (k[n].toNat : Int)] rfl rfl (cell_one_new _ _ _) (by intro u hu; simp at hu; subst hu; rfl) (by omega) ?_; intro w1 hown1 hgrow1)
                  have hb1 : Below w3.heap.size w3 w1 := (hb'.alloc hb'.size _).grown hgrow1 (by simp; have := hb'.size; omega) (fun k hk => by cases hk; exact Nat.le_refl _)
                  have R : w1.ownsRow w3.heap.size 5 1 (.slice (some ⟨w3.heap.size, 0, none⟩) (n + 1) (k.size + 2)) (n + 1) (bv (k.data.toList.take (n + 1))) := by
                    rw [take_snoc k n hlt, bv_append]; exact hown1
                  clear hown hb' hown1 hgrow1
                  go_roundw
                  case rel => exact ⟨n + 1, by omega, by go_num, rfl, R, hb1⟩
                  case measure => simp [intOf]; omega
                · obtain rfl : n = k.size := by omega
                  go_wp2_with (at_builtin; refine wpList_append_fits _ rfl (.tmp 92) (.tmp 93) 24 rfl w3.heap.size 5 i0 1 Try.underlying24 hi hz1 w3.heap.size k.size (k.size + 2) _ rfl (hown.alloc _) ⟨wr.heap.size, 0, none⟩ 2 2 [.int .u8 32, .int .u8 61] rfl rfl ?f1 ?f2 ?f3 ?_)
                  case f1 => exact cells_new _ _ _
                  case f2 => intro u hu; simp at hu; rcases hu with rfl | rfl <;> rfl
                  case f3 => omega
                  intro w4 hown1 hgrow1
                  have hb4 : Below w3.heap.size w3 w4 := (hb'.alloc hb'.size _).grown hgrow1 (by simp; have := hb'.size; omega) (fun k hk => by cases hk; exact Nat.le_refl _)
                  have hbw : Below w.heap.size w w4 := hb.trans (hb4.mono (by omega))
                  obtain ⟨_, _, hG⟩ : (lineB k).length = k.size + 2 ∧ w3.heap.size < w4.heap.size ∧ ∀ i, i < k.size + 2 → w4.cell? ⟨w3.heap.size, i, none⟩ = some (.int .u8 (byteAt (lineB k) i)) :=
                    row_cells (l := lineB k) (by rw [take_full] at hown1; rw [lineB, bv_append]; exact hown1)
                  have hF4 : ∀ i, i < k.size + 3 + v.size → w4.cell? ⟨w.heap.size, i, none⟩ = some (.int .u8 (byteAt (line k v) i)) := fun i h => (hb4.cell (p := ⟨w.heap.size, i, none⟩) hBN).trans (HF.out i h)
                  have C1 := fun W (hW : ∀ a, W.cell? a = w4.cell? a) => zcut_full w.heap.size k.size v.size (byteAt (line k v)) W (by omega) (fun i h => (hW _).trans (hF4 i h)) (fun i h => by rw [line_key k v i h]; exact HN.out i h) (line_0 k v) (line_1 k v) (line_2 k v)
                  have C2 := fun W (hW : ∀ a, W.cell? a = w4.cell? a) => zcut_bare w3.heap.size k.size (byteAt (lineB k)) W (by omega) (fun i h => (hW _).trans (hG i h)) (fun i h => by rw [lineB_key k i h]; exact HN.out i h) (lineB_0 k) (lineB_1 k)
                  have E1 := fun W cap (hW : ∀ a, W.cell? a = w4.cell? a) => eqstr w.heap.size 0 cap k W (by unfold maxLen; omega) (fun i h => by rw [hW, Nat.zero_add, hF4 i (by omega), line_key k v i h])
                  have E2 := fun W cap off (ho : 0 < v.size → off = k.size + 3) (hW : ∀ a, W.cell? a = w4.cell? a) => eqstr w.heap.size off cap v W (by unfold maxLen; omega) (fun i h => by rw [hW, ho (by omega), hF4 (k.size + 3 + i) (by omega), line_val k v i h])
                  have E3 := fun W cap (hW : ∀ a, W.cell? a = w4.cell? a) => eqstr w3.heap.size 0 cap k W (by unfold maxLen; omega) (fun i h => by rw [hW, Nat.zero_add, hG i (by omega), lineB_key k i h])
                  clear hown hown1 hgrow1 hb' hb hb4 hG hF4 HF HN
                  have qn : ∀ (W : World) (a : Option Addr) (n c n' c' : Nat), (binOp .neq 24 (.slice a n c) (.slice none n' c')).run Try.prog W = .ok (.bool (!a.isNone)) W := fun W a n c n' c' => run_neq_slice_nil_any W _ _ a n c n' c' Try.underlying24
                  have qe : ∀ (W : World) (a : Option Addr) (n c n' c' : Nat), (binOp .eql 24 (.slice a n c) (.slice none n' c')).run Try.prog W = .ok (.bool a.isNone) W := fun W a n c n' c' => Lib.run_eql_slice_nil W _ _ a n c n' c' Try.underlying24
                  go_wp2_with fail
                  refine (C1 _ (fun _ => rfl)).mono ?_
                  rintro e w' ⟨off, rfl, ho, m1, rfl⟩
                  have HO : Hid (0 < v.size → off = k.size + 3) := ho
                  clear ho C1
                  go_wp2_with fail
                  refine (C2 _ (fun _ => by simp)).mono ?_
                  rintro e w' ⟨rfl, m2, rfl⟩
                  clear C2
                  go_wp2_with fail
                  refine (E1 _ _ (fun _ => by simp)).mono ?_
                  rintro e w' ⟨rfl, m3, rfl⟩
                  clear E1
                  go_wp2_with fail
                  refine (E2 _ _ off HO.out (fun _ => by simp)).mono ?_
                  rintro e w' ⟨rfl, m4, rfl⟩
                  clear E2
                  go_wp2_with fail
                  refine (E3 _ _ (fun _ => by simp)).mono ?_
                  rintro e w' ⟨rfl, m5, rfl⟩
                  clear E3
                  go_wp2_with fail
                  go_ret
                  exact ⟨rfl, hbw.os, hbw.tape, hbw.output, hbw.size, hbw.block⟩

theorem law_no (k v : ByteArray) (w : World) (hk : k.size ≤ maxLen) (hv : v.size ≤ maxLen) (h : 1048576 < (k.size : Int) + v.size) :
    Calls Try.prog 3 #[.string k, .string v] w fun e w' => e = .returned (.bool true) ∧ Below w.heap.size w w' := by
  have C := bytes_no k v w hk hv h
  clear hk hv h
  go_enter Try.func3, Try.ntmps3
  go_wp2_with (go_at_call 6; refine C.mono ?_; rintro e w' ⟨rfl, rfl⟩)
  go_ret
  exact ⟨rfl, Below.refl _ _⟩
end Go.Proofs.Qxb6619209a
