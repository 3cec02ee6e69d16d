/- FnSectionsJoinFiles (5): the law's own walk, no argument too long. -/
import Derived.Test.Qxb6619209aSecJoinA
import Derived.Test.Qxb6619209aSecJoinL
import Derived.Deep.RegionHeld3
import Derived.Deep.CutRange
namespace Go.Proofs.Qxb6619209a
open Go.RowKit

set_option maxHeartbeats 12800000 in
set_option maxRecDepth 1000000 in
theorem joinMain (a : Option Addr) (n cap : Nat) (L : Nat → Asg) (ha : Option Addr) (hn hcap : Nat) (HA : Nat → Int) (b : Option Addr) (n' cap' : Nat) (L' : Nat → Asg) (hb : Option Addr) (hn' hcap' : Nat) (HB : Nat → Int) (sa : Option Addr) (sn scap : Nat) (S : Nat → Sec) (w : World) (A : ArgsJ w a n L ha hn HA b n' L' hb hn' HB sa sn S)
    (h1 : n ≤ 65536) (h2 : hn ≤ 65536) (h3 : n' ≤ 65536) (h4 : hn' ≤ 65536) (h5 : sn ≤ 65536) :
    Calls Try.prog 5 #[.slice a n cap, .slice ha hn hcap, .slice b n' cap', .slice hb hn' hcap', .slice sa sn scap] w fun e w' => e = .returned (.bool true) ∧ Below w.heap.size w w' := by
  have C18 := bytesJ_any a n cap L ha hn hcap b n' cap' L' hb hn' hcap' sa sn scap S w A.bn A.bn' A.bs A.l A.l' A.s
  have C19 := joinSizeOK_any a n cap L ha hn hcap b n' cap' L' hb hn' hcap' sa sn scap S w A.bn A.bn' A.bs A.l A.l' A.s
  have C12 := headsValid_any ha hn hcap n HA w A.bh A.h
  have C12b := headsValid_any hb hn' hcap' n' HB w A.bh' A.h'
  have qn : ∀ (W : World) (a : Option Addr) (n c n' c' : Nat), (binOp .neq 29 (.slice a n c) (.slice none n' c')).run Try.prog W = .ok (.bool (!a.isNone)) W := fun W a n c n' c' => run_neq_slice_nil_any W _ _ a n c n' c' Try.underlying29
  have AH : Hid (ArgsJ w a n L ha hn HA b n' L' hb hn' HB sa sn S) := A
  clear A
  obtain ⟨i0, hi, hz0, hz1, hz2⟩ := info_parts Try.infoInt
  go_enter Try.func5, Try.ntmps5
  go_wp2_with fail
  refine C18.mono ?_
  rintro e w' ⟨⟨b1, rfl, hb1⟩, rfl⟩
  cases b1
  · go_wp2
    go_ret; exact ⟨rfl, Below.refl _ _⟩
  have HI : Hid (∀ i, i < sn → (S i).n ≤ 1048576) := hb1 rfl
  clear hb1 C18
  go_wp2_with fail
  refine C19.mono ?_
  rintro e w' ⟨⟨b1, rfl⟩, rfl⟩
  cases b1
  · go_wp2
    go_ret; exact ⟨rfl, Below.refl _ _⟩
  clear C19
  go_wp2_with fail
  refine C12.mono ?_
  rintro e w' ⟨⟨b1, rfl, hb1⟩, rfl⟩
  cases b1
  · go_wp2
    go_ret; exact ⟨rfl, Below.refl _ _⟩
  have HV : Hid (ValidH hn n HA) := hb1 rfl
  clear hb1 C12
  go_wp2_with fail
  refine C12b.mono ?_
  rintro e w' ⟨⟨b1, rfl, hb1⟩, rfl⟩
  cases b1
  · go_wp2
    go_ret; exact ⟨rfl, Below.refl _ _⟩
  have HV' : Hid (ValidH hn' n' HB) := hb1 rfl
  clear hb1 C12b
  -- the copy of a's heads
  go_upto_if 76 with (fail)
  go_cut [1] from 26 to 83 (fun s1 wx => ∃ (ha2 : Option Addr) (c2 : Nat), s1 = .slice ha2 hn c2 ∧ IntSl wx ha2 hn HA ∧ Below w.heap.size w wx)
  case first =>
    cases ha with
    | none =>
      go_wp2
      go_meet
      case rel => exact ⟨none, hcap, rfl, AH.out.h, Below.refl _ _⟩
    | some x =>
      go_wp2_with (at_make; refine wpList_make_full _ rfl _ _ 29 rfl w.heap.size 3 i0 (.int .i64 0) 1 Try.underlying29 hi hz0 hz1 _ _ _ _ hn rfl rfl rfl rfl ?b2 ?b3 (Nat.le_refl _) ?_)
      case b2 => first | omega | (rw [hz2]; omega)
      case b3 => unfold maxLen; omega
      intro w0 hown0 hgrow0
      have hb0 : Below w.heap.size w w0 := (Below.refl _ _).grown hgrow0 (Nat.le_refl _) (fun k h => by cases h)
      obtain ⟨cur, hcg, hcs⟩ : ∃ cur, w0.heap[w.heap.size]? = some (.cells cur 3 (0, 0)) ∧ cur.size = hn := by
        rcases hown0.2 with ⟨h', _⟩ | ⟨g', cap', cur, h', _, hg, _, _, hsz, _⟩
        · simp at h'
        · simp at h'
          obtain ⟨rfl, rfl⟩ := h'
          exact ⟨cur, hg, by omega⟩
      clear hown0 hgrow0 hi hz0 hz1 hz2 qn
      obtain ⟨w1, hrun, hI1, hb1, hs1⟩ := copiedI (cap := hcap) hcg hcs hb0 (icells_src (H := HA) (AH.out.h.later hb0))
      have HW1 : Hid (IntSl w1 (some ⟨w.heap.size, 0, none⟩) hn HA ∧ Below w.heap.size w w1) := ⟨hI1, hb1⟩
      clear hb0 hcg hcs hI1 hb1 hs1
      go_wp2
      go_meet
      case rel => exact ⟨_, _, rfl, HW1.out.1, HW1.out.2⟩
  case rest =>
    obtain ⟨ha2, hc2, rfl, hI2, hb2⟩ := hcut
    have HA2 : Hid (IntSl wc ha2 hn HA ∧ Below w.heap.size w wc) := ⟨hI2, hb2⟩
    clear hI2 hb2
    obtain ⟨w1, hw1⟩ : ∃ x, x = wc := ⟨_, rfl⟩
    subst hw1
    go_upto_if 85 with (fail)
    go_cut [3] from 84 to 92 (fun s3 wx => ∃ (hb2 : Option Addr) (c3 : Nat), s3 = .slice hb2 hn' c3 ∧ IntSl wx hb2 hn' HB ∧ Below w1.heap.size w1 wx)
    case first =>
      cases hb with
      | none =>
        go_wp2
        go_meet
        case rel => exact ⟨none, hcap', rfl, AH.out.h'.later HA2.out.2, Below.refl _ _⟩
      | some x =>
        go_wp2_with (at_make; refine wpList_make_full _ rfl _ _ 29 rfl w1.heap.size 3 i0 (.int .i64 0) 1 Try.underlying29 hi hz0 hz1 _ _ _ _ hn' rfl rfl rfl rfl ?b2 ?b3 (Nat.le_refl _) ?_)
        case b2 => first | omega | (rw [hz2]; omega)
        case b3 => unfold maxLen; omega
        intro w0 hown0 hgrow0
        have hb0 : Below w1.heap.size w1 w0 := (Below.refl _ _).grown hgrow0 (Nat.le_refl _) (fun k h => by cases h)
        obtain ⟨cur, hcg, hcs⟩ : ∃ cur, w0.heap[w1.heap.size]? = some (.cells cur 3 (0, 0)) ∧ cur.size = hn' := by
          rcases hown0.2 with ⟨h', _⟩ | ⟨g', cap', cur, h', _, hg, _, _, hsz, _⟩
          · simp at h'
          · simp at h'
            obtain ⟨rfl, rfl⟩ := h'
            exact ⟨cur, hg, by omega⟩
        clear hown0 hgrow0 hi hz0 hz1 hz2 qn
        obtain ⟨w2, hrun, hI1, hb1, hs1⟩ := copiedI (cap := hcap') hcg hcs hb0 (icells_src (H := HB) ((AH.out.h'.later HA2.out.2).later hb0))
        have HW1 : Hid (IntSl w2 (some ⟨w1.heap.size, 0, none⟩) hn' HB ∧ Below w1.heap.size w1 w2) := ⟨hI1, hb1⟩
        clear hb0 hcg hcs hI1 hb1 hs1
        go_wp2
        go_meet
        case rel => exact ⟨_, _, rfl, HW1.out.1, HW1.out.2⟩
    case rest =>
      clear qn
      obtain ⟨hb2, hc3, rfl, hI3, hb3⟩ := hcut
      have HB2 : Hid (IntSl wc hb2 hn' HB ∧ Below w1.heap.size w1 wc) := ⟨hI3, hb3⟩
      clear hI3 hb3
      obtain ⟨w2, hw2⟩ : ∃ x, x = wc := ⟨_, rfl⟩
      subst hw2
      have HW2 : Hid (Below w.heap.size w w2) := HA2.out.2.trans (HB2.out.2.mono HA2.out.2.size)
      have HA3 : Hid (IntSl w2 ha2 hn HA) := HA2.out.1.later HB2.out.2
      have HB3 : Hid (IntSl w2 hb2 hn' HB) := HB2.out.1
      clear HA2 HB2
      -- no heads, or the first head of b is 0
      go_upto_if 95 with (fail)
      go_cut [] from 93 to 102 (fun wx => w2 = wx ∧ (0 < hn' → HB 0 = 0) ∧ (hn' = 0 → n' = 0))
      case first =>
        by_cases z1 : hn' = 0
        · subst z1
          by_cases z2 : n' = 0
          · subst z2
            go_wp2
            go_meet
            case rel => exact ⟨rfl, fun h => by omega, by simp⟩
          · have z3 : ((n' : Int) == 0) = false := by simpa using z2
            go_wp2
            go_ret
            exact ⟨rfl, HW2.out⟩
        · have z3 : ((hn' : Int) == 0) = false := by simpa using z1
          have hpos : 0 < hn' := by omega
          obtain ⟨q, o, rfl, hc⟩ := HB3.out.pos hpos
          have c0 := hc 0 hpos; rw [Nat.add_zero] at c0
          have hp' : (0 : Int) < (hn' : Int) := by omega
          clear hc
          obtain ⟨z, hz⟩ : ∃ z, z = HB 0 := ⟨_, rfl⟩
          rw [← hz] at c0
          by_cases z4 : z = 0
          · subst z4
            have HZ : Hid (HB 0 = 0) := hz.symm
            clear hz
            go_wp2
            go_meet
            case rel => exact ⟨rfl, fun h => HZ.out, fun h => by omega⟩
          · have z5 : (z == 0) = false := by simpa using z4
            clear hz
            go_wp2
            go_ret
            exact ⟨rfl, HW2.out⟩
      case rest =>
        obtain ⟨rfl, hz0', hz1'⟩ := hcut
        have HZ : Hid ((0 < hn' → HB 0 = 0) ∧ (hn' = 0 → n' = 0)) := ⟨hz0', hz1'⟩
        clear hz0' hz1'

        obtain ⟨j0, hj, hy0, hy1, hy2⟩ := info_parts Try.info40
        go_wp2_with (at_make; refine wpList_make_own _ rfl _ _ 35 rfl w2.heap.size 40 j0 _ 4 Try.underlying35 hj hy0 hy1 _ _ _ (n + n') rfl rfl ?b1 ?b2 ?b3 (Nat.le_refl _) ?_)
        case b1 => first | rfl | omega
        case b2 => first | omega | (rw [hy2]; omega)
        case b3 => unfold maxLen; omega
        intro w3 hown3 hgrow3
        have HO3 : Hid (w3.ownsRow w2.heap.size 40 4 (.slice (some ⟨w2.heap.size, 0, none⟩) 0 (n + n')) 0 (rowA (LAB n L L') 0) ∧ Below w2.heap.size w2 w3) := ⟨hown3, (Below.refl _ _).grown hgrow3 (Nat.le_refl _) (fun k h => by cases h)⟩
        clear hown3 hgrow3 hy0 hy2
        go_wp2
        go_loopw [13, 14] (fun s i wr => ∃ k : Nat, k ≤ n ∧ i = .int .i64 k ∧ s = .slice (some ⟨w2.heap.size, 0, none⟩) k (n + n') ∧ wr.ownsRow w2.heap.size 40 4 (.slice (some ⟨w2.heap.size, 0, none⟩) k (n + n')) k (rowA (LAB n L L') k) ∧ Below w2.heap.size w2 wr) (fun _ i _ => n - (intOf i).toNat)
        case atStart => exact ⟨0, Nat.zero_le _, rfl, rfl, HO3.out.1, HO3.out.2⟩
        case round =>
          clear HO3
          obtain ⟨k, hk, rfl, rfl, ho, hb⟩ := hrel
          by_cases hlt : k < n
          · obtain ⟨bb, off, rfl, hc⟩ := AH.out.l.pos (by omega)
            obtain ⟨c0, c1, c2, c3⟩ := (hc k hlt).later (HW2.out.trans (hb.mono HW2.out.size))
            obtain ⟨q, hq⟩ : ∃ q, q = L k := ⟨_, rfl⟩
            rw [← hq] at c0 c1 c2 c3
            have hltk : (k : Int) < (n : Int) := by omega
            have HQ : Hid (LAB n L L' k = q) := by show _ = _; rw [LAB_left hlt, hq]
            have HO : Hid (wr.ownsRow w2.heap.size 40 4 (.slice (some ⟨w2.heap.size, 0, none⟩) k (n + n')) k (rowA (LAB n L L') k) ∧ Below w2.heap.size w2 wr) := ⟨ho, hb⟩
            clear hc ho hb hq
            go_wp2_with fail
            refine (toAsg_any q.k q.v q.l q.c wr).mono ?_
            rintro e w5 ⟨rfl, hb5⟩
            have HO5 : Hid (w5.ownsRow w2.heap.size 40 4 (.slice (some ⟨w2.heap.size, 0, none⟩) k (n + n')) k (rowA (LAB n L L') k) ∧ Below w2.heap.size w2 w5) := ⟨owns_later HO.out.1 hb5, HO.out.2.trans (hb5.mono HO.out.2.size)⟩
            clear HO hb5 c0 c1 c2 c3
            go_wp2_with (at_builtin; refine wpList_append_fits _ rfl (.tmp 115) (.tmp 121) 35 rfl w2.heap.size 40 j0 4 Try.underlying35 hj hy1 w2.heap.size k (n + n') (rowA (LAB n L L') k) rfl (HO5.out.1.alloc _) ⟨w5.heap.size, 0, none⟩ 1 1 (acells q) rfl rfl (acells_new _ _ _) (acells_one _) (by omega) ?_)
            intro w6 ho6 hg6
            have HO6 : Hid (w6.ownsRow w2.heap.size 40 4 (.slice (some ⟨w2.heap.size, 0, none⟩) (k + 1) (n + n')) (k + 1) (rowA (LAB n L L') (k + 1)) ∧ Below w2.heap.size w2 w6) := ⟨by rw [rowA_succ, HQ.out]; exact ho6, (HO5.out.2.alloc HO5.out.2.size _).grown hg6 (Nat.le_trans HO5.out.2.size (by simp)) (fun k h => by cases h; exact Nat.le_refl _)⟩
            clear ho6 hg6 HO5 HQ
            go_wp2
            go_roundw
            case rel => exact ⟨k + 1, by omega, by go_num, rfl, HO6.out.1, HO6.out.2⟩
            case measure => simp [intOf]; omega
          · obtain rfl : k = n := by omega
            clear hlt hk
            obtain ⟨w4, hw4⟩ : ∃ x, x = wr := ⟨_, rfl⟩
            subst hw4
            have HO4 : Hid (w4.ownsRow w2.heap.size 40 4 (.slice (some ⟨w2.heap.size, 0, none⟩) (k + 0) (k + n')) (k + 0) (rowA (LAB k L L') (k + 0)) ∧ Below w2.heap.size w2 w4) := ⟨ho, hb⟩
            clear ho hb
            go_wp2
            go_loopw [13, 15] (fun s i wr => ∃ j : Nat, j ≤ n' ∧ i = .int .i64 j ∧ s = .slice (some ⟨w2.heap.size, 0, none⟩) (k + j) (k + n') ∧ wr.ownsRow w2.heap.size 40 4 (.slice (some ⟨w2.heap.size, 0, none⟩) (k + j) (k + n')) (k + j) (rowA (LAB k L L') (k + j)) ∧ Below w2.heap.size w2 wr) (fun _ i _ => n' - (intOf i).toNat)
            case atStart => exact ⟨0, Nat.zero_le _, rfl, rfl, HO4.out.1, HO4.out.2⟩
            case round =>
              clear HO4
              obtain ⟨j, hjn, rfl, rfl, ho, hb⟩ := hrel
              by_cases hlt : j < n'
              · obtain ⟨bb, off, rfl, hc⟩ := AH.out.l'.pos (by omega)
                obtain ⟨c0, c1, c2, c3⟩ := (hc j hlt).later (HW2.out.trans (hb.mono HW2.out.size))
                obtain ⟨q, hq⟩ : ∃ q, q = L' j := ⟨_, rfl⟩
                rw [← hq] at c0 c1 c2 c3
                have hltk : (j : Int) < (n' : Int) := by omega
                have HQ : Hid (LAB k L L' (k + j) = q) := by show _ = _; rw [LAB_right, hq]
                have HO : Hid (wr.ownsRow w2.heap.size 40 4 (.slice (some ⟨w2.heap.size, 0, none⟩) (k + j) (k + n')) (k + j) (rowA (LAB k L L') (k + j)) ∧ Below w2.heap.size w2 wr) := ⟨ho, hb⟩
                clear hc ho hb hq
                go_wp2_with fail
                refine (toAsg_any q.k q.v q.l q.c wr).mono ?_
                rintro e w5 ⟨rfl, hb5⟩
                have HO5 : Hid (w5.ownsRow w2.heap.size 40 4 (.slice (some ⟨w2.heap.size, 0, none⟩) (k + j) (k + n')) (k + j) (rowA (LAB k L L') (k + j)) ∧ Below w2.heap.size w2 w5) := ⟨owns_later HO.out.1 hb5, HO.out.2.trans (hb5.mono HO.out.2.size)⟩
                clear HO hb5 c0 c1 c2 c3
                go_wp2_with (at_builtin; refine wpList_append_fits _ rfl (.tmp 129) (.tmp 135) 35 rfl w2.heap.size 40 j0 4 Try.underlying35 hj hy1 w2.heap.size (k + j) (k + n') (rowA (LAB k L L') (k + j)) rfl (HO5.out.1.alloc _) ⟨w5.heap.size, 0, none⟩ 1 1 (acells q) rfl rfl (acells_new _ _ _) (acells_one _) (by omega) ?_)
                intro w6 ho6 hg6
                have HO6 : Hid (w6.ownsRow w2.heap.size 40 4 (.slice (some ⟨w2.heap.size, 0, none⟩) (k + (j + 1)) (k + n')) (k + (j + 1)) (rowA (LAB k L L') (k + (j + 1))) ∧ Below w2.heap.size w2 w6) := ⟨by rw [← Nat.add_assoc, rowA_succ, HQ.out]; exact ho6, (HO5.out.2.alloc HO5.out.2.size _).grown hg6 (Nat.le_trans HO5.out.2.size (by simp)) (fun k h => by cases h; exact Nat.le_refl _)⟩
                clear ho6 hg6 HO5 HQ
                go_wp2
                go_roundw
                case rel => exact ⟨j + 1, by omega, by go_num, rfl, HO6.out.1, HO6.out.2⟩
                case measure => simp [intOf]; omega
              · obtain rfl : j = n' := by omega
                clear hlt hjn
                obtain ⟨w5, hw5⟩ : ∃ x, x = wr := ⟨_, rfl⟩
                subst hw5
                have HAB5 : Hid (AsgSl w5 (some ⟨w2.heap.size, 0, none⟩) (k + j) (LAB k L L') ∧ Below w2.heap.size w2 w5 ∧ w2.heap.size < w5.heap.size) := ⟨asgSl_of_owns ho, hb, (ho.lt _ rfl).2⟩
                clear ho hb hj hy1
                have HA5 : Hid (IntSl w5 ha2 hn HA ∧ IntSl w5 hb2 hn' HB) := ⟨HA3.out.later HAB5.out.2.1, HB3.out.later HAB5.out.2.1⟩
                clear HA3 HB3
                go_wp2_with (at_make; refine wpList_make_own _ rfl _ _ 29 rfl w5.heap.size 3 i0 _ 1 Try.underlying29 hi hz0 hz1 _ _ _ (hn + hn') rfl rfl ?b1 ?b2 ?b3 (Nat.le_refl _) ?_)
                case b1 => first | rfl | omega
                case b2 => first | omega | (rw [hz2]; omega)
                case b3 => unfold maxLen; omega
                intro w6 hown6 hgrow6
                have HO6 : Hid (w6.ownsRow w5.heap.size 3 1 (.slice (some ⟨w5.heap.size, 0, none⟩) 0 (hn + hn')) 0 (rowZ 0 (HAB hn k HA HB)) ∧ Below w5.heap.size w5 w6) := ⟨hown6, (Below.refl _ _).grown hgrow6 (Nat.le_refl _) (fun k h => by cases h)⟩
                clear hown6 hgrow6 hz0 hz2
                go_wp2
                go_loopw [16, 17] (fun s i wr => ∃ p : Nat, p ≤ hn ∧ i = .int .i64 p ∧ s = .slice (some ⟨w5.heap.size, 0, none⟩) p (hn + hn') ∧ wr.ownsRow w5.heap.size 3 1 (.slice (some ⟨w5.heap.size, 0, none⟩) p (hn + hn')) p (rowZ p (HAB hn k HA HB)) ∧ Below w5.heap.size w5 wr) (fun _ i _ => hn - (intOf i).toNat)
                case atStart => exact ⟨0, Nat.zero_le _, rfl, rfl, HO6.out.1, HO6.out.2⟩
                case round =>
                  clear HO6
                  obtain ⟨p, hp, rfl, rfl, ho, hb⟩ := hrel
                  by_cases hlt : p < hn
                  · obtain ⟨bb, off, rfl, hc⟩ := (HA5.out.1.later hb).pos (by omega)
                    have c0 := hc p hlt
                    obtain ⟨z, hz⟩ : ∃ z, z = HA p := ⟨_, rfl⟩
                    rw [← hz] at c0
                    have hltk : (p : Int) < (hn : Int) := by omega
                    have HQ : Hid (HAB hn k HA HB p = z) := by show _ = _; rw [HAB_left hlt, hz]
                    have HO : Hid (wr.ownsRow w5.heap.size 3 1 (.slice (some ⟨w5.heap.size, 0, none⟩) p (hn + hn')) p (rowZ p (HAB hn k HA HB)) ∧ Below w5.heap.size w5 wr) := ⟨ho, hb⟩
                    clear hc ho hb hz
                    go_wp2_with (at_builtin; refine wpList_append_fits _ rfl (.tmp 149) (.tmp 154) 29 rfl w5.heap.size 3 i0 1 Try.underlying29 hi hz1 w5.heap.size p (hn + hn') (rowZ p (HAB hn k HA HB)) rfl (HO.out.1.alloc _) ⟨wr.heap.size, 0, none⟩ 1 1 [.int .i64 z] rfl rfl (icell_new _ _ _) (icell_one _) (by omega) ?_)
                    intro w7 ho7 hg7
                    have HO7 : Hid (w7.ownsRow w5.heap.size 3 1 (.slice (some ⟨w5.heap.size, 0, none⟩) (p + 1) (hn + hn')) (p + 1) (rowZ (p + 1) (HAB hn k HA HB)) ∧ Below w5.heap.size w5 w7) := ⟨by rw [rowZ_succ, HQ.out]; exact ho7, (HO.out.2.alloc HO.out.2.size _).grown hg7 (Nat.le_trans HO.out.2.size (by simp)) (fun k h => by cases h; exact Nat.le_refl _)⟩
                    clear ho7 hg7 HO HQ c0
                    go_wp2
                    go_roundw
                    case rel => exact ⟨p + 1, by omega, by go_num, rfl, HO7.out.1, HO7.out.2⟩
                    case measure => simp [intOf]; omega
                  · obtain rfl : p = hn := by omega
                    clear hlt hp
                    obtain ⟨w6', hw6⟩ : ∃ x, x = wr := ⟨_, rfl⟩
                    subst hw6
                    have HO6 : Hid (w6'.ownsRow w5.heap.size 3 1 (.slice (some ⟨w5.heap.size, 0, none⟩) (p + 0) (p + hn')) (p + 0) (rowZ (p + 0) (HAB p k HA HB)) ∧ Below w5.heap.size w5 w6') := ⟨ho, hb⟩
                    clear ho hb
                    go_wp2
                    go_loopw [16, 18] (fun s i wr => ∃ r : Nat, r ≤ hn' ∧ i = .int .i64 r ∧ s = .slice (some ⟨w5.heap.size, 0, none⟩) (p + r) (p + hn') ∧ wr.ownsRow w5.heap.size 3 1 (.slice (some ⟨w5.heap.size, 0, none⟩) (p + r) (p + hn')) (p + r) (rowZ (p + r) (HAB p k HA HB)) ∧ Below w5.heap.size w5 wr) (fun _ i _ => hn' - (intOf i).toNat)
                    case atStart => exact ⟨0, Nat.zero_le _, rfl, rfl, HO6.out.1, HO6.out.2⟩
                    case round =>
                      clear HO6
                      obtain ⟨r, hr, rfl, rfl, ho, hb⟩ := hrel
                      by_cases hlt : r < hn'
                      · obtain ⟨bb, off, rfl, hc⟩ := (HA5.out.2.later hb).pos (by omega)
                        have c0 := hc r hlt
                        have v1 := valid_ge HV'.out r hlt
                        have v2 := (HV'.out r hlt).1
                        obtain ⟨z, hz⟩ : ∃ z, z = HB r := ⟨_, rfl⟩
                        rw [← hz] at c0 v1 v2
                        have hltk : (r : Int) < (hn' : Int) := by omega
                        have HQ : Hid (HAB p k HA HB (p + r) = z + k) := by show _ = _; rw [HAB_right, hz]
                        have HO : Hid (wr.ownsRow w5.heap.size 3 1 (.slice (some ⟨w5.heap.size, 0, none⟩) (p + r) (p + hn')) (p + r) (rowZ (p + r) (HAB p k HA HB)) ∧ Below w5.heap.size w5 wr) := ⟨ho, hb⟩
                        clear hc ho hb hz
                        go_wp2_with (at_builtin; refine wpList_append_fits _ rfl (.tmp 162) (.tmp 170) 29 rfl w5.heap.size 3 i0 1 Try.underlying29 hi hz1 w5.heap.size (p + r) (p + hn') (rowZ (p + r) (HAB p k HA HB)) rfl (HO.out.1.alloc _) ⟨wr.heap.size, 0, none⟩ 1 1 [.int .i64 (z + k)] rfl rfl (icell_new _ _ _) (icell_one _) (by omega) ?_)
                        intro w7 ho7 hg7
                        have HO7 : Hid (w7.ownsRow w5.heap.size 3 1 (.slice (some ⟨w5.heap.size, 0, none⟩) (p + (r + 1)) (p + hn')) (p + (r + 1)) (rowZ (p + (r + 1)) (HAB p k HA HB)) ∧ Below w5.heap.size w5 w7) := ⟨by rw [← Nat.add_assoc, rowZ_succ, HQ.out]; exact ho7, (HO.out.2.alloc HO.out.2.size _).grown hg7 (Nat.le_trans HO.out.2.size (by simp)) (fun k h => by cases h; exact Nat.le_refl _)⟩
                        clear ho7 hg7 HO HQ c0 v1 v2
                        go_wp2
                        go_roundw
                        case rel => exact ⟨r + 1, by omega, by go_num, rfl, HO7.out.1, HO7.out.2⟩
                        case measure => simp [intOf]; omega
                      · obtain rfl : r = hn' := by omega
                        clear hlt hr
                        obtain ⟨w7, hw7⟩ : ∃ x, x = wr := ⟨_, rfl⟩
                        subst hw7
                        have HB7 : Hid (Below w5.heap.size w5 w7) := hb
                        have HH7 : Hid (IntSl w7 (some ⟨w5.heap.size, 0, none⟩) (p + r) (HAB p k HA HB) ∧ w5.heap.size < w7.heap.size) := ⟨intSl_of_owns ho, (ho.lt _ rfl).2⟩
                        clear ho hb hi hz1
                        have HW7 : Hid (Below w.heap.size w w7) := (HW2.out.trans (HAB5.out.2.1.mono HW2.out.size)).trans (HB7.out.mono (Nat.le_trans HW2.out.size HAB5.out.2.1.size))
                        have HL7 : Hid (AsgSl w7 (some ⟨w2.heap.size, 0, none⟩) (k + j) (LAB k L L')) := HAB5.out.1.later HB7.out
                        have HA7 : Hid (IntSl w7 ha2 p HA ∧ IntSl w7 hb2 r HB) := ⟨HA5.out.1.later HB7.out, HA5.out.2.later HB7.out⟩
                        clear HW2 HAB5 HB7 HA5
                        -- joined
                        have C15 := toSecs_any sa sn scap S w7 (by omega) HI.out AH.out.ns (AH.out.s.later HW7.out)
                        go_wp2_with fail
                        refine C15.mono ?_
                        rintro e w8 ⟨v0, xs0, rfl, hbB, hsB, hrB⟩
                        clear C15
                        have C13 := zsections_any (some ⟨w2.heap.size, 0, none⟩) (k + j) (LAB k L L') (some ⟨w5.heap.size, 0, none⟩) (p + r) (p + r) (HAB p k HA HB) v0 sn xs0 S w7.heap.size w8 (by omega) (by omega) (by omega) (asgSlN_before HL7.out hbB) (intSlN_before HH7.out.1 hbB) (valid_join HV.out HV'.out HZ.out.1) hsB hrB
                        have HB8 : Hid (Below w7.heap.size w7 w8) := hbB
                        clear hbB hsB hrB HL7 HH7
                        go_wp2_with fail
                        refine C13.mono ?_
                        rintro e w9 ⟨v9, xs9, rfl, hk9, hs9, hr9⟩
                        clear C13
                        have HB9 : Hid (Below w7.heap.size w7 w9) := HB8.out.trans (hk9.below HB8.out.size (Nat.le_refl _))
                        have HW9 : Hid (Below w.heap.size w w9) := HW7.out.trans (HB9.out.mono HW7.out.size)
                        have HA9 : Hid (IntSl w9 ha2 p HA ∧ IntSl w9 hb2 r HB) := ⟨HA7.out.1.later HB9.out, HA7.out.2.later HB9.out⟩
                        obtain ⟨N, hN⟩ : ∃ N, N = sn + (p + r) := ⟨_, rfl⟩
                        rw [← hN] at hs9 hr9
                        have HNN : Hid (N = sn + (p + r)) := hN
                        clear hN
                        obtain ⟨o9, cap9, rfl, hg9⟩ := secs_sl hs9 hr9
                        have HG9 : Hid (GotSl w9 o9 N (allSec sn S (p + r) (k + j) (LAB k L L') (HAB p k HA HB))) := hg9
                        clear hg9 hs9 hr9 hk9 HB8 HB9 HA7 HW7
                        -- first
                        have C14 := toAsgs_any a k cap L w9 (by omega) AH.out.nl (AH.out.l.later HW9.out)
                        go_wp2_with fail
                        refine C14.mono ?_
                        rintro e w10 ⟨la, rfl, hbA, hlA, _, _⟩
                        clear C14
                        have HL10 : Hid (AsgSl w10 la k L ∧ Below w9.heap.size w9 w10) := ⟨hlA, hbA⟩
                        have HW10 : Hid (Below w.heap.size w w10) := HW9.out.trans (hbA.mono HW9.out.size)
                        clear hlA hbA
                        have C15 := toSecs_any sa sn scap S w10 (by omega) HI.out AH.out.ns (AH.out.s.later HW10.out)
                        go_wp2_with fail
                        refine C15.mono ?_
                        rintro e w11 ⟨v1, xs1, rfl, hbB, hsB, hrB⟩
                        clear C15
                        have C13 := zsections_any la k L ha2 p hc2 HA v1 sn xs1 S w10.heap.size w11 (by omega) (by omega) (by omega) (asgSlN_before HL10.out.1 hbB) (intSlN_before (HA9.out.1.later HL10.out.2) hbB) HV.out hsB hrB
                        have HB11 : Hid (Below w10.heap.size w10 w11) := hbB
                        clear hbB hsB hrB
                        go_wp2_with fail
                        refine C13.mono ?_
                        rintro e w12 ⟨v12, xs12, rfl, hk12, hs12, hr12⟩
                        clear C13
                        have HB12 : Hid (Below w9.heap.size w9 w12 ∧ w9.heap.size ≤ w10.heap.size ∧ w10.heap.size ≤ w11.heap.size) := ⟨HL10.out.2.trans ((HB11.out.trans (hk12.below HB11.out.size (Nat.le_refl _))).mono HL10.out.2.size), HL10.out.2.size, HB11.out.size⟩
                        have HS12 : Hid (Secs w12 w11.heap.size w10.heap.size v12 (sn + p) xs12 ∧ SecsAre w12 (v12.ownBlock.getD w10.heap.size) xs12 (sn + p) (allSec sn S p k L HA)) := ⟨hs12, hr12⟩
                        have HW12 : Hid (Below w.heap.size w w12) := HW9.out.trans (HB12.out.1.mono HW9.out.size)
                        clear hk12 hs12 hr12 HB11 HL10 HW10
                        -- apart
                        have C14 := toAsgs_any b j cap' L' w12 (by omega) AH.out.nl' (AH.out.l'.later HW12.out)
                        go_wp2_with fail
                        refine C14.mono ?_
                        rintro e w13 ⟨lb, rfl, hbA, hlA, _, hxA⟩
                        clear C14
                        have HB13 : Hid (Below w9.heap.size w9 w13) := HB12.out.1.trans (hbA.mono HB12.out.1.size)
                        have hGge : Hid (w9.heap.size ≤ newG v12 w13) := newG_ge HS12.out.1 HB12.out.2.1 (Nat.le_trans HB12.out.2.1 HB12.out.2.2) HB13.out.size
                        obtain ⟨hsM, hrM⟩ := secs_move HS12.out.1 HS12.out.2 hbA
                        have C13 := zsections_any lb j L' hb2 r hc3 HB v12 (sn + p) xs12 (allSec sn S p k L HA) (newG v12 w13) w13 (by omega) (by omega) (by omega)
                          (asgSlN_of hlA (fun bb oo e _ => by
                            obtain ⟨h1, h2⟩ := hxA _ e
                            injection h1 with h1 _ _
                            have := newG_lt (w' := w13) HS12.out.1
                            omega))
                          (intSlN_of (HA9.out.2.later HB13.out) (fun bb oo e hr0 => by
                            obtain ⟨b', o', e', hc⟩ := HA9.out.2.pos hr0
                            rw [e] at e'
                            cases e'
                            have h2 : bb < w9.heap.size := World.block_lt_of_cell? w9 _ (hc 0 hr0)
                            have := hGge.out
                            omega)) HV'.out hsM hrM
                        clear hbA hlA hxA hsM hrM HS12 HB12 HW12
                        go_wp2_with fail
                        refine C13.mono ?_
                        rintro e w14 ⟨v14, xs14, rfl, hk14, hs14, hr14⟩
                        clear C13
                        have HB14 : Hid (Below w9.heap.size w9 w14) := HB13.out.trans (hk14.below HB13.out.size hGge.out)
                        have hN2 : sn + p + r = N := by have := HNN.out; omega
                        rw [hN2] at hs14 hr14
                        obtain ⟨o14, cap14, rfl, hg14⟩ := secs_sl hs14 hr14
                        have HG14 : Hid (GotSl w14 o9 N (allSec sn S (p + r) (k + j) (LAB k L L') (HAB p k HA HB)) ∧ GotSl w14 o14 N (allSec (sn + p) (allSec sn S p k L HA) r j L' HB)) := ⟨HG9.out.later HB14.out, hg14⟩
                        have HA14 : Hid (IntSl w14 ha2 p HA ∧ IntSl w14 hb2 r HB) := ⟨HA9.out.1.later HB14.out, HA9.out.2.later HB14.out⟩
                        have HW14 : Hid (Below w.heap.size w w14) := HW9.out.trans (HB14.out.mono HW9.out.size)
                        clear hg14 hs14 hr14 hk14 HG9 HA9 HW9 HB13 HB14 hGge
                        have hN := HNN.out
                        have hNi : (N : Int) = (sn : Int) + (p : Int) + (r : Int) := by omega
                        have hNb : ((N : Int) != (sn : Int) + (p : Int) + (r : Int)) = false := by rw [hNi]; simp
                        have hNc : N ≤ 196608 := by omega
                        clear hN hN2 hNi
                        go_wp2
                        go_loopw [22] (fun x wr => ∃ i : Nat, i ≤ p ∧ x = .int .i64 i ∧ Below w14.heap.size w14 wr) (fun x _ => p - (intOf x).toNat)
                        case atStart => exact ⟨0, Nat.zero_le _, rfl, Below.refl _ _⟩
                        case round =>
                          obtain ⟨i, hip, rfl, hb⟩ := hrel
                          by_cases hlt : i < p
                          · obtain ⟨g, rfl, hG⟩ := HG14.out.1.pos (by have := HNN.out; omega)
                            obtain ⟨g0, g1, g2, g3⟩ := got_head_a (hG.later hb) HNN.out HV.out HZ.out.1 HZ.out.2 hlt
                            obtain ⟨hq, ho, rfl, hc⟩ := (HA14.out.1.later hb).pos (by omega)
                            have ek := hc i hlt
                            have v1 := valid_ge HV.out i hlt
                            have v2 := (HV.out i hlt).1
                            obtain ⟨z, hz⟩ : ∃ z, z = HA i := ⟨_, rfl⟩
                            rw [← hz] at ek v1 v2 g0 g1 g2 g3
                            clear hc hG hz
                            have lw : hq < wr.heap.size := World.block_lt_of_cell? wr _ ek
                            have lg : g < wr.heap.size := World.block_lt_of_cell? wr _ g0
                            have ek' : ∀ ob, (wr.alloc ob).cell? ⟨hq, ho + i, none⟩ = some (.int .i64 z) := fun ob => (World.cell?_alloc_lt _ _ _ (by exact lw)).trans ek
                            have hlti : (i : Int) < (p : Int) := by omega
                            have hltN : (sn : Int) + (i : Int) < (N : Int) := by have := HNN.out; omega
                            have HBR : Hid (Below w14.heap.size w14 wr) := hb
                            clear hb
                            by_cases hneg : z < 0
                            · rw [head_neg hneg] at g0 g1 g2 g3
                              simp only [zeroA] at g0 g1 g2 g3
                              obtain rfl : z = -1 := by omega
                              clear hneg v1 v2
                              go_wp2
                              go_roundw
                              case rel => exact ⟨i + 1, by omega, by go_num, HBR.out.trans (((Below.refl _ _).alloc (Nat.le_refl _) _).mono HBR.out.size)⟩
                              case measure => simp [intOf]; omega
                            · obtain ⟨q, rfl⟩ := Int.eq_ofNat_of_zero_le (show 0 ≤ z by omega)
                              rw [head_pos] at g0 g1 g2 g3
                              obtain ⟨lb, lf, rfl, lc⟩ := AH.out.l.pos (by omega)
                              obtain ⟨d0, d1, d2, d3⟩ := (lc q (by omega)).later2 HW14.out HBR.out
                              have ll : lb < wr.heap.size := World.block_lt_of_cell? wr _ d0
                              have kd : ∀ b o ob, b < wr.heap.size → (wr.alloc ob).cell? ⟨b, o, none⟩ = wr.cell? ⟨b, o, none⟩ := fun b o ob h => World.cell?_alloc_lt _ _ _ (by exact h)
                              have hqn : (q : Int) < (k : Int) := by omega
                              clear lc hneg v1 v2
                              go_wp2
                              go_region_held3 (fun W => W.cell? ⟨hq, ho + i, none⟩ = some (.int .i64 q) ∧ W.cell? ⟨wr.heap.size, 0, none⟩ = some (.string (L q).k) ∧ W.cell? ⟨wr.heap.size, 1, none⟩ = some (.string (L q).v) ∧ W.cell? ⟨wr.heap.size, 2, none⟩ = some (.int .i64 (L q).l) ∧ W.cell? ⟨wr.heap.size, 3, none⟩ = some (.int .i64 (L q).c) ∧ W.cell? ⟨lb, lf + q * 4, none⟩ = some (.string (L q).k) ∧ W.cell? ⟨lb, lf + q * 4 + 1, none⟩ = some (.string (L q).v) ∧ W.cell? ⟨lb, lf + q * 4 + 2, none⟩ = some (.int .i64 (L q).l) ∧ W.cell? ⟨lb, lf + q * 4 + 3, none⟩ = some (.int .i64 (L q).c)) (simp [*]) (first | (go_at_call 17; refine (sameAsg_yes _ _ _ _ _).mono ?_; rintro e w15 ⟨rfl, hb6⟩; have hb6' := below_undrew hb6; clear hb6; have hk6 := fun b o h => hb6'.cell (p := ⟨b, o, none⟩) h; have ls : wr.heap.size < wr.heap.size + 1 := Nat.lt_succ_self _; have lw' : hq < wr.heap.size + 1 := Nat.lt_succ_of_lt lw; have ll' : lb < wr.heap.size + 1 := Nat.lt_succ_of_lt ll; simp only [World.size_alloc] at hk6))
                              have HX : Hid (Below wr.heap.size wr w15) := ((Below.refl wr.heap.size wr).alloc (Nat.le_refl _) _).trans (hb6'.mono (by simp))
                              clear hb6' hk6 ls lw' ll' kd ek ek' g0 g1 g2 g3 d0 d1 d2 d3 ll lw lg
                              go_wp2
                              go_roundw
                              case rel => exact ⟨i + 1, by omega, by go_num, HBR.out.trans (HX.out.mono HBR.out.size)⟩
                              case measure => simp [intOf]; omega
                          · obtain rfl : i = p := by omega
                            clear hlt hip
                            obtain ⟨w15, hw15⟩ : ∃ x, x = wr := ⟨_, rfl⟩
                            subst hw15
                            have HG15 : Hid (GotSl w15 o9 N (allSec sn S (i + r) (k + j) (LAB k L L') (HAB i k HA HB)) ∧ GotSl w15 o14 N (allSec (sn + i) (allSec sn S i k L HA) r j L' HB)) := ⟨HG14.out.1.later hb, HG14.out.2.later hb⟩
                            have HB15 : Hid (IntSl w15 hb2 r HB) := HA14.out.2.later hb
                            have HW15 : Hid (Below w.heap.size w w15) := HW14.out.trans (hb.mono HW14.out.size)
                            clear hb HG14 HA14 HW14
                            go_wp2
                            go_loopw [24] (fun x wr => ∃ q : Nat, q ≤ r ∧ x = .int .i64 q ∧ Below w15.heap.size w15 wr) (fun x _ => r - (intOf x).toNat)
                            case atStart => exact ⟨0, Nat.zero_le _, rfl, Below.refl _ _⟩
                            case round =>
                              obtain ⟨q, hqr, rfl, hb⟩ := hrel
                              by_cases hlt : q < r
                              · obtain ⟨g, rfl, hG⟩ := HG15.out.1.pos (by have := HNN.out; omega)
                                obtain ⟨g0, g1, g2, g3⟩ := got_head_b (hG.later hb) HNN.out HV'.out HZ.out.1 hlt
                                obtain ⟨hq, ho, rfl, hc⟩ := (HB15.out.later hb).pos (by omega)
                                have ek := hc q hlt
                                have v1 := heads_pos HV'.out HZ.out.1 hlt
                                have v2 := (HV'.out q hlt).1
                                obtain ⟨t, ht⟩ := Int.eq_ofNat_of_zero_le v1
                                rw [ht] at ek v2 g0 g1 g2 g3
                                rw [head_pos] at g0 g1 g2 g3
                                obtain ⟨lb, lf, rfl, lc⟩ := AH.out.l'.pos (by omega)
                                obtain ⟨d0, d1, d2, d3⟩ := (lc t (by omega)).later2 HW15.out hb
                                obtain ⟨P, hP⟩ : ∃ P, P = sn + i + q := ⟨_, rfl⟩
                                rw [← hP] at g0 g1 g2 g3
                                have lw : hq < wr.heap.size := World.block_lt_of_cell? wr _ ek
                                have lg : g < wr.heap.size := World.block_lt_of_cell? wr _ g0
                                have ll : lb < wr.heap.size := World.block_lt_of_cell? wr _ d0
                                have hltq : (q : Int) < (r : Int) := by omega
                                have htj : (t : Int) < (j : Int) := by omega
                                have hPi : (sn : Int) + (i : Int) + (q : Int) = (P : Int) := by omega
                                have hw1 : IntKind.i64.wrap ((sn : Int) + (i : Int)) = (sn : Int) + (i : Int) := by rw [IntKind.wrap_i64]; omega
                                have hw2 : IntKind.i64.wrap ((sn : Int) + (i : Int) + (q : Int)) = (P : Int) := by rw [IntKind.wrap_i64]; omega
                                have hw3 : IntKind.i64.wrap (P : Int) = (P : Int) := by rw [IntKind.wrap_i64]; omega
                                have hPN : (P : Int) < (N : Int) := by have := HNN.out; omega
                                have HBR : Hid (Below w15.heap.size w15 wr) := hb
                                clear hb hc hG v1 v2 ht lc hP
                                go_wp2
                                go_region_held3 (fun W => W.cell? ⟨hq, ho + q, none⟩ = some (.int .i64 t) ∧ W.cell? ⟨g, P * 5, none⟩ = some (.string (L' t).k) ∧ W.cell? ⟨g, P * 5 + 1, none⟩ = some (.string (L' t).v) ∧ W.cell? ⟨g, P * 5 + 2, none⟩ = some (.int .i64 (L' t).l) ∧ W.cell? ⟨g, P * 5 + 3, none⟩ = some (.int .i64 (L' t).c) ∧ W.cell? ⟨lb, lf + t * 4, none⟩ = some (.string (L' t).k) ∧ W.cell? ⟨lb, lf + t * 4 + 1, none⟩ = some (.string (L' t).v) ∧ W.cell? ⟨lb, lf + t * 4 + 2, none⟩ = some (.int .i64 (L' t).l) ∧ W.cell? ⟨lb, lf + t * 4 + 3, none⟩ = some (.int .i64 (L' t).c)) (simp [*]) (first | (go_at_call 17; refine (sameAsg_yes _ _ _ _ _).mono ?_; rintro e w16 ⟨rfl, hb6⟩; have hb6' : Below wr.heap.size wr w16 := below_undrew hb6; clear hb6; have hk6 : ∀ b o, b < wr.heap.size → w16.cell? ⟨b, o, none⟩ = wr.cell? ⟨b, o, none⟩ := fun b o h => hb6'.cell (p := ⟨b, o, none⟩) h))
                                have HX : Hid (Below w15.heap.size w15 w16) := HBR.out.trans (hb6'.mono HBR.out.size)
                                clear HBR hb6' hk6 ek g0 g1 g2 g3 d0 d1 d2 d3 ll lw lg
                                go_wp2
                                go_roundw
                                case rel => exact ⟨q + 1, by omega, by go_num, HX.out⟩
                                case measure => simp [intOf]; omega
                              · obtain rfl : q = r := by omega
                                clear hlt hqr
                                obtain ⟨w16, hw16⟩ : ∃ x, x = wr := ⟨_, rfl⟩
                                subst hw16
                                have HG16 : Hid (GotSl w16 o9 N (allSec sn S (i + q) (k + j) (LAB k L L') (HAB i k HA HB)) ∧ GotSl w16 o14 N (allSec (sn + i) (allSec sn S i k L HA) q j L' HB)) := ⟨HG15.out.1.later hb, HG15.out.2.later hb⟩
                                have HW16 : Hid (Below w.heap.size w w16) := HW15.out.trans (hb.mono HW15.out.size)
                                have HJ : Hid (∀ y, y < N → SecEq (allSec sn S (i + q) (k + j) (LAB k L L') (HAB i k HA HB) y) (allSec (sn + i) (allSec sn S i k L HA) q j L' HB y) ∧ (allSec sn S (i + q) (k + j) (LAB k L L') (HAB i k HA HB) y).n ≤ 1048576) := by
                                  intro y hy
                                  have := HNN.out
                                  exact ⟨join_secs HV.out HV'.out HZ.out.1 HZ.out.2 y (by omega), allSec_n_le (valid_join HV.out HV'.out HZ.out.1) HI.out (by omega) (by omega)⟩
                                clear hb HG15 HB15 HW15
                                go_wp2
                                go_loopw [25] (fun x wr => ∃ y : Nat, y ≤ N ∧ x = .int .i64 y ∧ Below w16.heap.size w16 wr) (fun x _ => N - (intOf x).toNat)
                                case atStart => exact ⟨0, Nat.zero_le _, rfl, Below.refl _ _⟩
                                case round =>
                                  obtain ⟨y, hyN, rfl, hb⟩ := hrel
                                  by_cases hlt : y < N
                                  · obtain ⟨e1, rfl, hG1⟩ := HG16.out.1.pos (by omega)
                                    obtain ⟨e2, rfl, hG2⟩ := HG16.out.2.pos (by omega)
                                    obtain ⟨hd, nn, a1, a2, hnn, ⟨c0, c1, c2, c3⟩, c4, ⟨d0, d1, d2, d3⟩, d4, r1, r2, r3, r4, r5⟩ := got_pair (hG1.later hb) (hG2.later hb) (HJ.out y hlt).1 hlt
                                    have hle : nn ≤ 1048576 := by rw [hnn]; exact (HJ.out y hlt).2
                                    obtain ⟨L1, hL1⟩ : ∃ x, x = (allSec sn S (i + q) (k + j) (LAB k L L') (HAB i k HA HB) y).L := ⟨_, rfl⟩
                                    obtain ⟨L2, hL2⟩ : ∃ x, x = (allSec (sn + i) (allSec sn S i k L HA) q j L' HB y).L := ⟨_, rfl⟩
                                    rw [← hL1] at r1 r5
                                    rw [← hL2] at r2 r5
                                    have HR : Hid (AsgSl wr a1 nn L1 ∧ AsgSl wr a2 nn L2 ∧ (a1 = none ↔ a2 = none) ∧ (a2 = none → nn = 0) ∧ ∀ j, j < nn → L1 j = L2 j) := ⟨r1, r2, r3, r4, r5⟩
                                    have l1 : e1 < wr.heap.size := World.block_lt_of_cell? wr _ c0
                                    have l2 : e2 < wr.heap.size := World.block_lt_of_cell? wr _ d0
                                    have hlty : (y : Int) < (N : Int) := by omega
                                    have HB : Hid (Below w16.heap.size w16 wr) := hb
                                    clear r1 r2 r3 r4 r5 hb hG1 hG2 hL1 hL2 hnn
                                    go_wp2
                                    go_region_held3 (fun W => W.cell? ⟨e1, y * 5, none⟩ = some (.string hd.k) ∧ W.cell? ⟨e1, y * 5 + 1, none⟩ = some (.string hd.v) ∧ W.cell? ⟨e1, y * 5 + 2, none⟩ = some (.int .i64 hd.l) ∧ W.cell? ⟨e1, y * 5 + 3, none⟩ = some (.int .i64 hd.c) ∧ W.cell? ⟨e1, y * 5 + 4, none⟩ = some (.slice a1 nn nn) ∧ W.cell? ⟨e2, y * 5, none⟩ = some (.string hd.k) ∧ W.cell? ⟨e2, y * 5 + 1, none⟩ = some (.string hd.v) ∧ W.cell? ⟨e2, y * 5 + 2, none⟩ = some (.int .i64 hd.l) ∧ W.cell? ⟨e2, y * 5 + 3, none⟩ = some (.int .i64 hd.c) ∧ W.cell? ⟨e2, y * 5 + 4, none⟩ = some (.slice a2 nn nn)) (simp [*]) (first | (go_at_call 21; refine (eqSec_any hd a1 nn nn a2 nn L1 L2 _ hle HR.out.2.2.1 HR.out.2.2.2.1 (HR.out.1.later (Below.refl _ wr).drew) (HR.out.2.1.later (Below.refl _ wr).drew) HR.out.2.2.2.2).mono ?_; rintro e w17 ⟨rfl, hb6⟩; have hb6' : Below wr.heap.size wr w17 := below_undrew hb6; clear hb6; have hk6 : ∀ b o, b < wr.heap.size → w17.cell? ⟨b, o, none⟩ = wr.cell? ⟨b, o, none⟩ := fun b o h => hb6'.cell (p := ⟨b, o, none⟩) h))
                                    have HX : Hid (Below w16.heap.size w16 w17) := HB.out.trans (hb6'.mono HB.out.size)
                                    clear HB hb6' hk6 c0 c1 c2 c3 c4 d0 d1 d2 d3 d4 l1 l2 HR hle
                                    go_wp2
                                    go_roundw
                                    case rel => exact ⟨y + 1, by omega, by go_num, HX.out⟩
                                    case measure => simp [intOf]; omega
                                  · obtain rfl : y = N := by omega
                                    have HWE : Hid (Below w.heap.size w wr) := HW16.out.trans (hb.mono HW16.out.size)
                                    clear hb
                                    go_wp2
                                    go_ret
                                    exact ⟨rfl, HWE.out⟩
end Go.Proofs.Qxb6619209a
