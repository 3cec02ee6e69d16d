/- FnSectionsPartitionLines (4): no heads (nil). -/
import Derived.Test.Qxb6619209aSecPartA
namespace Go.Proofs.Qxb6619209a
open Go.RowKit

set_option maxHeartbeats 3200000 in
set_option maxRecDepth 1000000 in
theorem partNil (a : Option Addr) (n cap : Nat) (L : Nat → Asg) (hcap : Nat) (H : Nat → Int) (sa : Option Addr) (sn scap : Nat) (S : Nat → Sec) (w : World) (A : ArgsP w a n L none 0 H sa sn S)
    (h1 : n ≤ 65536) (h3 : sn ≤ 65536) :
    Calls Try.prog 4 #[.slice a n cap, .slice none 0 hcap, .slice sa sn scap] w fun e w' => e = .returned (.bool true) ∧ Below w.heap.size w w' := by
  have C10 := bytesP_any a n cap L none 0 hcap sa sn scap S w A.bn A.bs A.l A.s
  have C11 := sizeOK_any a n cap L none 0 hcap sa sn scap S w A.bn A.bs A.l A.s
  have C12 := headsValid_any none 0 hcap n H w A.bh A.h
  have C14 := toAsgs_any a n cap L w (by omega) A.nl A.l
  have qn : ∀ (W : World) (a : Option Addr) (n c n' c' : Nat), (binOp .neq 29 (.slice a n c) (.slice none n' c')).run Try.prog W = .ok (.bool (!a.isNone)) W := fun W a n c n' c' => run_neq_slice_nil_any W _ _ a n c n' c' Try.underlying29
  have HA : Hid (ArgsP w a n L none 0 H sa sn S) := A
  clear A
  go_enter Try.func4, Try.ntmps4
  go_wp2_with fail
  refine C10.mono ?_
  rintro e w' ⟨⟨b1, rfl, hb1⟩, rfl⟩
  cases b1
  · go_wp2
    go_ret; exact ⟨rfl, Below.refl _ _⟩
  have HI : Hid (∀ i, i < sn → (S i).n ≤ 1048576) := hb1 rfl
  clear hb1 C10
  go_wp2_with fail
  refine C11.mono ?_
  rintro e w' ⟨⟨b1, rfl⟩, rfl⟩
  cases b1
  · go_wp2
    go_ret; exact ⟨rfl, Below.refl _ _⟩
  clear C11
  go_wp2_with fail
  refine C12.mono ?_
  rintro e w' ⟨⟨b1, rfl, hb1⟩, rfl⟩
  cases b1
  · go_wp2
    go_ret; exact ⟨rfl, Below.refl _ _⟩
  have HV : Hid (ValidH 0 n H) := hb1 rfl
  clear hb1 C12
  go_wp2_with fail
  refine C14.mono ?_
  rintro e w1 ⟨la, rfl, hbA, hlA, _, hxA⟩
  have HLA : Hid (Below w.heap.size w w1 ∧ AsgSl w1 la n L ∧ ∀ x, la = some x → x = ⟨w.heap.size, 0, none⟩ ∧ w.heap.size < w1.heap.size) := ⟨hbA, hlA, hxA⟩
  clear C14 hbA hlA hxA
  have C15 := toSecs_any sa sn scap S w1 (by omega) HI.out HA.out.ns (HA.out.s.later HLA.out.1)
  go_wp2_with fail
  refine C15.mono ?_
  rintro e w2 ⟨v0, xs0, rfl, hbB, hsB, hrB⟩
  have HSB : Hid (Below w1.heap.size w1 w2 ∧ Secs w2 w2.heap.size w1.heap.size v0 sn xs0 ∧ SecsAre w2 (v0.ownBlock.getD w1.heap.size) xs0 sn S) := ⟨hbB, hsB, hrB⟩
  clear C15 hbB hsB hrB
  have C13 := zsections_any la n L none 0 hcap H v0 sn xs0 S w1.heap.size w2 (by omega) (by omega) (by omega)
    (asgSlN_of (HLA.out.2.1.later HSB.out.1) (fun b o e _ => by have := HLA.out.2.2 _ e; have h := this.1; injection h; omega))
    (.inl rfl) HV.out HSB.out.2.1 HSB.out.2.2
  go_wp2_with fail
  refine C13.mono ?_
  rintro e w3 ⟨v, xs, rfl, hk3, hs3, hr3⟩
  have HBW : Hid (Below w.heap.size w w3) := (HLA.out.1.trans (HSB.out.1.mono HLA.out.1.size)).trans (hk3.below (Nat.le_trans HLA.out.1.size HSB.out.1.size) HLA.out.1.size)
  clear C13 HSB HLA hk3
  rcases secs_shape hs3 hr3 with ⟨rfl, h0⟩ | ⟨g, gcap, rfl, hgot⟩
  · obtain rfl : sn = 0 := by omega
    clear hs3 hr3 h0
    go_wp2
    refine wp_loop_rounds 1 ?_
    rw [rounds_succ]
    go_wp2
    go_ret
    exact ⟨rfl, HBW.out⟩
  · have HG : Hid (GotAt w3 g sn S) := by
      intro i hi
      have := hgot i hi
      unfold allSec at this
      rw [if_pos hi] at this
      exact this
    clear hs3 hr3 hgot
    go_wp2
    go_loopw [9] (fun i wr => ∃ k : Nat, k ≤ sn ∧ i = .int .i64 k ∧ Below w3.heap.size w3 wr) (fun i _ => sn - (intOf i).toNat)
    case atStart => exact ⟨0, Nat.zero_le _, rfl, Below.refl _ _⟩
    case round =>
      obtain ⟨k, hk, rfl, hb⟩ := hrel
      by_cases hlt : k < sn
      · obtain ⟨b, off, rfl, hc⟩ := HA.out.s.pos (by omega)
        obtain ⟨⟨d0, d1, d2, d3⟩, d4, hr, hle, hnil⟩ := (hc k hlt).later (HBW.out.trans (hb.mono HBW.out.size))
        obtain ⟨a2, ⟨c0, c1, c2, c3⟩, c4, hr2, hn2⟩ := HG.out.later hb k (by omega)
        have hik := HI.out k hlt
        obtain ⟨hd, hhd⟩ : ∃ x, x = (S k).h := ⟨_, rfl⟩
        obtain ⟨ia, hia⟩ : ∃ x, x = (S k).a := ⟨_, rfl⟩
        obtain ⟨nn, hnn⟩ : ∃ x, x = (S k).n := ⟨_, rfl⟩
        obtain ⟨cc, hcc⟩ : ∃ x, x = (S k).cap := ⟨_, rfl⟩
        rw [← hhd] at c0 c1 c2 c3 d0 d1 d2 d3
        rw [← hia, ← hnn, ← hcc] at d4
        rw [← hnn] at c4 hr2 hik
        rw [← hia, ← hnn] at hr
        rw [← hia] at hn2
        rw [← hia, ← hnn, ← hcc] at hnil
        have HR : Hid (AsgSl wr a2 nn (S k).L ∧ AsgSl wr ia nn (S k).L ∧ (a2 = none ↔ ia = none) ∧ (ia = none → nn = 0 ∧ cc = 0)) := ⟨hr2, hr, hn2, hnil⟩
        have l1 : b < wr.heap.size := World.block_lt_of_cell? wr _ d0
        have l2 : g < wr.heap.size := World.block_lt_of_cell? wr _ c0
        have hltk : (k : Int) < (sn : Int) := by omega
        have hlt2 : (k : Int) < (sn : Int) := by omega
        have HB : Hid (Below w3.heap.size w3 wr) := hb
        clear hc hr hr2 hle hnil hn2 hhd hia hnn hcc hb
        go_wp2
        go_region_held3 (fun W => W.cell? ⟨g, k * 5, none⟩ = some (.string hd.k) ∧ W.cell? ⟨g, k * 5 + 1, none⟩ = some (.string hd.v) ∧ W.cell? ⟨g, k * 5 + 2, none⟩ = some (.int .i64 hd.l) ∧ W.cell? ⟨g, k * 5 + 3, none⟩ = some (.int .i64 hd.c) ∧ W.cell? ⟨g, k * 5 + 4, none⟩ = some (.slice a2 nn nn) ∧ W.cell? ⟨b, off + k * 5, none⟩ = some (.string hd.k) ∧ W.cell? ⟨b, off + k * 5 + 1, none⟩ = some (.string hd.v) ∧ W.cell? ⟨b, off + k * 5 + 2, none⟩ = some (.int .i64 hd.l) ∧ W.cell? ⟨b, off + k * 5 + 3, none⟩ = some (.int .i64 hd.c) ∧ W.cell? ⟨b, off + k * 5 + 4, none⟩ = some (.slice ia nn cc)) (simp [*]) (first | (go_at_call 16; refine (sameSec_any hd a2 nn nn ia cc (S k).L _ hik HR.out.2.2.1 (fun h => (HR.out.2.2.2 h).1) (HR.out.1.later (Below.refl _ wr).drew) (HR.out.2.1.later (Below.refl _ wr).drew)).mono ?_; rintro e w5 ⟨rfl, hb5⟩; have hb5' : Below wr.heap.size wr w5 := below_undrew hb5; clear hb5; have hk5 : ∀ b o, b < wr.heap.size → w5.cell? ⟨b, o, none⟩ = wr.cell? ⟨b, o, none⟩ := fun b o h => hb5'.cell (p := ⟨b, o, none⟩) h))
        have HB5 : Hid (Below w3.heap.size w3 w5) := HB.out.trans (hb5'.mono HB.out.size)
        clear HB hb5' hk5 c0 c1 c2 c3 c4 d0 d1 d2 d3 d4 l1 l2 HR hik
        go_wp2
        go_roundw
        case rel => exact ⟨k + 1, by omega, by go_num, HB5.out⟩
        case measure => simp [intOf]; omega
      · have HB : Hid (Below w.heap.size w wr) := HBW.out.trans (hb.mono HBW.out.size)
        clear hb
        go_wp2
        go_ret
        exact ⟨rfl, HB.out⟩
end Go.Proofs.Qxb6619209a
