/- FnSectionsPartitionLines (4): heads that are not nil. -/
import Derived.Test.Qxb6619209aSecPos
namespace Go.Proofs.Qxb6619209a
open Go.RowKit

theorem Try.info3 : (Try.prog.info? 3).map (fun i => (i.zero, i.size, i.bytes)) = some (some (.int .i64 0), 1, 8) := by kernel_rfl
theorem Try.size3 : (Try.prog.info? 3).map (·.size) = some 1 := by kernel_rfl
def hcells (n : Nat) (H : Nat → Int) : List Value := (List.range n).map fun i => .int .i64 (H i)
theorem hcells_len (n : Nat) (H : Nat → Int) : (hcells n H).length = n := by simp [hcells]
theorem hcells_at {n : Nat} {H : Nat → Int} {j : Nat} {v : Value} (h : (hcells n H)[j]? = some v) : j < n ∧ v = .int .i64 (H j) := by
  unfold hcells at h
  rw [List.getElem?_map, Option.map_eq_some_iff] at h
  obtain ⟨i, hi, rfl⟩ := h
  obtain ⟨h1, h2⟩ := List.getElem?_eq_some_iff.1 hi
  simp at h1 h2
  exact ⟨h1, by rw [h2]⟩
theorem hcells_one (n : Nat) (H : Nat → Int) : ∀ v ∈ hcells n H, v.oneCell' = true := by
  intro v hv
  simp [hcells] at hv
  obtain ⟨i, _, rfl⟩ := hv
  rfl
theorem hcells_src {w : World} {x : Addr} {n : Nat} {H : Nat → Int} (h : IntSl w (some x) n H) : ∀ j v, (hcells n H)[j]? = some v → w.cell? (x.add j) = some v := by
  intro j v hj
  obtain ⟨h1, rfl⟩ := hcells_at hj
  obtain ⟨b, off, hx, hc⟩ := h.pos (by omega)
  cases hx
  have := hc j h1
  rcases j with _ | j
  · simpa [Addr.add] using this
  · simpa [Addr.add] using this
/-- What 'make' and 'copy' lay. -/
theorem copied {w w0 : World} {g n cap : Nat} {x : Addr} {H : Nat → Int} {cur : Array Value} (hg : w0.heap[g]? = some (.cells cur 3 (0, 0))) (hs : cur.size = n) (hb : Below g w w0) (hsrc : ∀ j v, (hcells n H)[j]? = some v → w0.cell? (x.add j) = some v) :
    ∃ w1, (Builtin.copy_ #[29, 29] 3 #[.slice (some ⟨g, 0, none⟩) n n, .slice (some x) n cap]).run Try.prog w0 = .ok (.int .i64 n) w1 ∧ IntSl w1 (some ⟨g, 0, none⟩) n H ∧ Below g w w1 ∧ g < w1.heap.size := by
  have hr := run_copy_row (P := Try.prog) w0 29 29 3 3 g 0 n n x n cap cur 3 (hcells n H) Try.underlying29 Try.size3 hg (by rw [hcells_len]; exact (Nat.min_self _).symm) hsrc (by rw [hcells_len, hs]; omega) (hcells_one _ _)
  rw [hcells_len] at hr
  have hh := setRow_heap w0 g cur (cur.toList.take 0 ++ hcells n H ++ cur.toList.drop (0 + n)).toArray 3 (0, 0) hg
  refine ⟨_, hr, .inr ⟨g, 0, rfl, fun i hi => ?_⟩, below_setRow hb (Nat.le_refl _) _, (Array.getElem?_eq_some_iff.1 hh).1⟩
  rw [cell_of_row _ g (0 + i) _ 3 (0, 0) hh]
  simp only [List.take_zero, List.nil_append, Nat.zero_add, List.getElem?_toArray]
  rw [List.getElem?_append_left (by rw [hcells_len]; exact hi)]
  simp [hcells, hi]

set_option maxHeartbeats 6400000 in
set_option maxRecDepth 1000000 in
theorem partSome (a : Option Addr) (n cap : Nat) (L : Nat → Asg) (x : Addr) (hn hcap : Nat) (H : Nat → Int) (sa : Option Addr) (sn scap : Nat) (S : Nat → Sec) (w : World) (A : ArgsP w a n L (some x) hn H sa sn S)
    (h1 : n ≤ 65536) (h2 : hn ≤ 65536) (h3 : sn ≤ 65536) :
    Calls Try.prog 4 #[.slice a n cap, .slice (some x) hn hcap, .slice sa sn scap] w fun e w' => e = .returned (.bool true) ∧ Below w.heap.size w w' := by
  have C10 := bytesP_any a n cap L (some x) hn hcap sa sn scap S w A.bn A.bs A.l A.s
  have C11 := sizeOK_any a n cap L (some x) hn hcap sa sn scap S w A.bn A.bs A.l A.s
  have C12 := headsValid_any (some x) hn hcap n H w A.bh A.h
  have qn : ∀ (W : World) (a : Option Addr) (n c n' c' : Nat), (binOp .neq 29 (.slice a n c) (.slice none n' c')).run Try.prog W = .ok (.bool (!a.isNone)) W := fun W a n c n' c' => run_neq_slice_nil_any W _ _ a n c n' c' Try.underlying29
  have HA : Hid (ArgsP w a n L (some x) hn H sa sn S) := A
  clear A
  obtain ⟨i0, hi, hz0, hz1, hz2⟩ := info_parts Try.info3
  go_enter Try.func4, Try.ntmps4
  go_wp2_with fail
  refine C10.mono ?_
  rintro e w' ⟨⟨b1, rfl, hb1⟩, rfl⟩
  cases b1
  · go_wp2
    go_ret; exact ⟨rfl, Below.refl _ _⟩
  have HI : Hid (∀ i, i < sn → (S i).n ≤ 1048576) := hb1 rfl
  clear hb1 C10
  go_wp2_with fail
  refine C11.mono ?_
  rintro e w' ⟨⟨b1, rfl⟩, rfl⟩
  cases b1
  · go_wp2
    go_ret; exact ⟨rfl, Below.refl _ _⟩
  clear C11
  go_wp2_with fail
  refine C12.mono ?_
  rintro e w' ⟨⟨b1, rfl, hb1⟩, rfl⟩
  cases b1
  · go_wp2
    go_ret; exact ⟨rfl, Below.refl _ _⟩
  have HV : Hid (ValidH hn n H) := hb1 rfl
  clear hb1 C12
  -- the copy of the heads
  go_wp2_with (at_make; refine wpList_make_full _ rfl _ _ 29 rfl w.heap.size 3 i0 (.int .i64 0) 1 Try.underlying29 hi hz0 hz1 _ _ _ _ hn rfl rfl rfl rfl ?b2 ?b3 (Nat.le_refl _) ?_)
  case b2 => first | omega | (rw [hz2]; omega)
  case b3 => unfold maxLen; omega
  intro w0 hown0 hgrow0
  have hb0 : Below w.heap.size w w0 := (Below.refl _ _).grown hgrow0 (Nat.le_refl _) (fun k h => by cases h)
  obtain ⟨cur, hcg, hcs⟩ : ∃ cur, w0.heap[w.heap.size]? = some (.cells cur 3 (0, 0)) ∧ cur.size = hn := by
    rcases hown0.2 with ⟨h', _⟩ | ⟨g', cap', cur, h', _, hg, _, _, hsz, _⟩
    · simp at h'
    · simp at h'
      obtain ⟨rfl, rfl⟩ := h'
      exact ⟨cur, hg, by omega⟩
  clear hown0 hgrow0 qn hi hz0 hz1 hz2
  obtain ⟨w1, hrun, hI1, hb1, hs1⟩ := copied (cap := hcap) hcg hcs hb0 (hcells_src (H := H) (HA.out.h.later hb0))
  have HW1 : Hid (IntSl w1 (some ⟨w.heap.size, 0, none⟩) hn H ∧ Below w.heap.size w w1 ∧ w.heap.size < w1.heap.size) := ⟨hI1, hb1, hs1⟩
  clear hb0 hcg hcs hI1 hb1 hs1
  have C14 := toAsgs_any a n cap L w1 (by omega) HA.out.nl (HA.out.l.later HW1.out.2.1)
  go_wp2_with fail
  clear hrun
  refine C14.mono ?_
  rintro e w2 ⟨la, rfl, hbA, hlA, _, hxA⟩
  have HLA : Hid (Below w1.heap.size w1 w2 ∧ AsgSl w2 la n L ∧ ∀ x, la = some x → x = ⟨w1.heap.size, 0, none⟩ ∧ w1.heap.size < w2.heap.size) := ⟨hbA, hlA, hxA⟩
  clear C14 hbA hlA hxA
  have HW2 : Hid (Below w.heap.size w w2) := HW1.out.2.1.trans (HLA.out.1.mono HW1.out.2.1.size)
  have C15 := toSecs_any sa sn scap S w2 (by omega) HI.out HA.out.ns (HA.out.s.later HW2.out)
  go_wp2_with fail
  refine C15.mono ?_
  rintro e w3 ⟨v0, xs0, rfl, hbB, hsB, hrB⟩
  have HSB : Hid (Below w2.heap.size w2 w3 ∧ Secs w3 w3.heap.size w2.heap.size v0 sn xs0 ∧ SecsAre w3 (v0.ownBlock.getD w2.heap.size) xs0 sn S) := ⟨hbB, hsB, hrB⟩
  clear C15 hbB hsB hrB
  have C13 := zsections_any la n L (some ⟨w.heap.size, 0, none⟩) hn hn H v0 sn xs0 S w2.heap.size w3 (by omega) (by omega) (by omega)
    (asgSlN_of (HLA.out.2.1.later HSB.out.1) (fun b o e _ => by have := HLA.out.2.2 _ e; have h := this.1; injection h; omega))
    (intSlN_of ((HW1.out.1.later HLA.out.1).later HSB.out.1) (fun b o e _ => by have h1 := HW1.out.2.2; have h2 := HLA.out.1.size; simp at e; omega)) HV.out HSB.out.2.1 HSB.out.2.2
  go_wp2_with fail
  refine C13.mono ?_
  rintro e w4 ⟨v, xs, rfl, hk4, hs4, hr4⟩
  have HB4 : Hid (Below w2.heap.size w2 w4) := HSB.out.1.trans (hk4.below HSB.out.1.size (Nat.le_refl _))
  have HBW : Hid (Below w.heap.size w w4) := HW2.out.trans (HB4.out.mono HW2.out.size)
  have HH4 : Hid (IntSl w4 (some ⟨w.heap.size, 0, none⟩) hn H) := (HW1.out.1.later HLA.out.1).later HB4.out
  clear C13 HSB HLA hk4 HW1 HW2 HB4
  rcases secs_shape hs4 hr4 with ⟨rfl, h0⟩ | ⟨g, gcap, rfl, hgot⟩
  · obtain rfl : sn = 0 := by omega
    obtain rfl : hn = 0 := by omega
    clear hs4 hr4 h0
    go_wp2
    refine wp_loop_rounds 1 ?_
    rw [rounds_succ]
    go_wp2
    go_ret
    exact ⟨rfl, HBW.out⟩
  · have HG : Hid (GotAt w4 g (sn + hn) (allSec sn S hn n L H)) := hgot
    clear hs4 hr4 hgot
    go_wp2
    go_loopw [9] (fun i wr => ∃ k : Nat, k ≤ sn ∧ i = .int .i64 k ∧ Below w4.heap.size w4 wr) (fun i _ => sn - (intOf i).toNat)
    case atStart => exact ⟨0, Nat.zero_le _, rfl, Below.refl _ _⟩
    case round =>
      obtain ⟨k, hk, rfl, hb⟩ := hrel
      by_cases hlt : k < sn
      · obtain ⟨b, off, rfl, hc⟩ := HA.out.s.pos (by omega)
        obtain ⟨⟨d0, d1, d2, d3⟩, d4, hr, hle, hnil⟩ := (hc k hlt).later (HBW.out.trans (hb.mono HBW.out.size))
        obtain ⟨a2, ⟨c0, c1, c2, c3⟩, c4, hr2, hn2⟩ := (got_old HG.out).later hb k (by omega)
        have hik := HI.out k hlt
        obtain ⟨hd, hhd⟩ : ∃ x, x = (S k).h := ⟨_, rfl⟩
        obtain ⟨ia, hia⟩ : ∃ x, x = (S k).a := ⟨_, rfl⟩
        obtain ⟨nn, hnn⟩ : ∃ x, x = (S k).n := ⟨_, rfl⟩
        obtain ⟨cc, hcc⟩ : ∃ x, x = (S k).cap := ⟨_, rfl⟩
        rw [← hhd] at c0 c1 c2 c3 d0 d1 d2 d3
        rw [← hia, ← hnn, ← hcc] at d4
        rw [← hnn] at c4 hr2 hik
        rw [← hia, ← hnn] at hr
        rw [← hia] at hn2
        rw [← hia, ← hnn, ← hcc] at hnil
        have HR : Hid (AsgSl wr a2 nn (S k).L ∧ AsgSl wr ia nn (S k).L ∧ (a2 = none ↔ ia = none) ∧ (ia = none → nn = 0 ∧ cc = 0)) := ⟨hr2, hr, hn2, hnil⟩
        have l1 : b < wr.heap.size := World.block_lt_of_cell? wr _ d0
        have l2 : g < wr.heap.size := World.block_lt_of_cell? wr _ c0
        have hltk : (k : Int) < (sn : Int) := by omega
        have hlt2 : (k : Int) < (sn + hn : Int) := by omega
        have HB : Hid (Below w4.heap.size w4 wr) := hb
        clear hc hr hr2 hle hnil hn2 hhd hia hnn hcc hb
        go_wp2
        go_region_held3 (fun W => W.cell? ⟨g, k * 5, none⟩ = some (.string hd.k) ∧ W.cell? ⟨g, k * 5 + 1, none⟩ = some (.string hd.v) ∧ W.cell? ⟨g, k * 5 + 2, none⟩ = some (.int .i64 hd.l) ∧ W.cell? ⟨g, k * 5 + 3, none⟩ = some (.int .i64 hd.c) ∧ W.cell? ⟨g, k * 5 + 4, none⟩ = some (.slice a2 nn nn) ∧ W.cell? ⟨b, off + k * 5, none⟩ = some (.string hd.k) ∧ W.cell? ⟨b, off + k * 5 + 1, none⟩ = some (.string hd.v) ∧ W.cell? ⟨b, off + k * 5 + 2, none⟩ = some (.int .i64 hd.l) ∧ W.cell? ⟨b, off + k * 5 + 3, none⟩ = some (.int .i64 hd.c) ∧ W.cell? ⟨b, off + k * 5 + 4, none⟩ = some (.slice ia nn cc)) (simp [*]) (first | (go_at_call 16; refine (sameSec_any hd a2 nn nn ia cc (S k).L _ hik HR.out.2.2.1 (fun h => (HR.out.2.2.2 h).1) (HR.out.1.later (Below.refl _ wr).drew) (HR.out.2.1.later (Below.refl _ wr).drew)).mono ?_; rintro e w5 ⟨rfl, hb5⟩; have hb5' : Below wr.heap.size wr w5 := below_undrew hb5; clear hb5; have hk5 : ∀ b o, b < wr.heap.size → w5.cell? ⟨b, o, none⟩ = wr.cell? ⟨b, o, none⟩ := fun b o h => hb5'.cell (p := ⟨b, o, none⟩) h))
        have HB5 : Hid (Below w4.heap.size w4 w5) := HB.out.trans (hb5'.mono HB.out.size)
        clear HB hb5' hk5 c0 c1 c2 c3 c4 d0 d1 d2 d3 d4 l1 l2 HR hik
        go_wp2
        go_roundw
        case rel => exact ⟨k + 1, by omega, by go_num, HB5.out⟩
        case measure => simp [intOf]; omega
      · obtain ⟨w5, hw5⟩ : ∃ x, x = wr := ⟨_, rfl⟩
        subst hw5
        have HB5 : Hid (Below w4.heap.size w4 w5) := hb
        clear hb
        by_cases hh0 : hn = 0
        · subst hh0
          go_wp2
          go_ret
          exact ⟨rfl, HBW.out.trans (HB5.out.mono HBW.out.size)⟩
        · have hnz : ((hn : Int) == 0) = false := by simpa using hh0
          have hpos : 0 < hn := by omega
          have HC5 : Hid (∀ i, i < hn → w5.cell? ⟨w.heap.size, i, none⟩ = some (.int .i64 (H i))) := by
            obtain ⟨b, off, hx, hc⟩ := (HH4.out.later HB5.out).pos hpos
            cases hx
            intro i hi
            simpa using hc i hi
          have HG5 : Hid (GotAt w5 g (sn + hn) (allSec sn S hn n L H)) := HG.out.later HB5.out
          have HB5w : Hid (Below w.heap.size w w5) := HBW.out.trans (HB5.out.mono HBW.out.size)
          clear HB5 HG HH4 HBW HI
          have e0 := HC5.out 0 hpos
          have HP0 : Hid (posAt hn n H 0 = (H 0).toNat) := by show posAt hn n H 0 = _; unfold posAt; rw [if_pos hpos]
          have hv0 := (HV.out 0 hpos).2.1 rfl
          obtain ⟨z, hz⟩ : ∃ z, z = H 0 := ⟨_, rfl⟩
          have HZ : Hid (z = H 0) := hz
          rw [← hz] at e0 hv0
          clear hz
          obtain ⟨pz, hpz⟩ : ∃ pz : Nat, pz = z.toNat := ⟨_, rfl⟩
          by_cases hzp : 0 < z
          · obtain ⟨y, rfl⟩ : ∃ y : Nat, z = (y : Int) + 1 := ⟨(z - 1).toNat, by omega⟩
            go_wp2
            clear hzp hv0
            go_loopw [10, 11] (fun s10 i wr => ∃ k pp : Nat, k ≤ hn ∧ pp = posAt hn n H k ∧ s10 = .int .i64 pp ∧ i = .int .i64 k ∧ Below w5.heap.size w5 wr) (fun _ i _ => hn - (intOf i).toNat)
            case atStart => exact ⟨0, y + 1, Nat.zero_le _, by rw [HP0.out, ← HZ.out]; omega, by go_num, rfl, Below.refl _ _⟩
            case round =>
              clear e0 HZ hpz HP0
              obtain ⟨k, pp, hk, hpp, rfl, rfl, hb⟩ := hrel
              by_cases hlt : k < hn
              · obtain ⟨lo, nn, a2, hlo, hsum, hnext, ⟨g0, g1, g2, g3⟩, g4, hga, ha2⟩ := got_new (HG5.out.later hb) HV.out hlt
                have HNX : Hid (posAt hn n H (k + 1) = lo + nn) := hnext
                have HGA : Hid (AsgSl wr a2 nn (fun j => L (lo + j))) := hga
                have HA2 : Hid (a2 = none ↔ nn = 0) := ha2
                have ek := (hb.cell (p := ⟨w.heap.size, k, none⟩) (World.block_lt_of_cell? w5 _ (HC5.out k hlt))).trans (HC5.out k hlt)
                have HBR : Hid (Below w5.heap.size w5 wr) := hb
                have hltk : (k : Int) < (hn : Int) := by omega
                have hpk : posAt hn n H k = (H k).toNat := by unfold posAt; rw [if_pos hlt]
                rw [hpk] at hpp
                obtain ⟨h, hh⟩ : ∃ h, h = H k := ⟨_, rfl⟩
                rw [← hh] at hlo hpp ek g0 g1 g2 g3
                clear hnext hga ha2 hb hpk hh
                have lw : w.heap.size < wr.heap.size := World.block_lt_of_cell? wr _ ek
                have lg : g < wr.heap.size := World.block_lt_of_cell? wr _ g0
                have ek' : ∀ ob, (wr.alloc ob).cell? ⟨w.heap.size, k, none⟩ = some (.int .i64 h) := fun ob => (World.cell?_alloc_lt _ _ _ (by exact lw)).trans ek
                have qe : ∀ (W : World) (a : Option Addr) (n c n' c' : Nat), (binOp .eql 35 (.slice a n c) (.slice none n' c')).run Try.prog W = .ok (.bool a.isNone) W := fun W a n c n' c' => Lib.run_eql_slice_nil W _ _ a n c n' c' Try.underlying35
                by_cases hneg : h < 0
                · obtain rfl : h = -1 := by omega
                  obtain rfl : lo = 0 := by omega
                  obtain rfl : pp = 0 := by omega
                  have hz : headOf L (-1) = zeroA := by unfold headOf; rw [if_neg (by omega)]
                  rw [hz] at g0 g1 g2 g3
                  clear hpp hlo hz hneg
                  simp only [zeroA] at g0 g1 g2 g3
                  rw [show ((0 : Nat) : Int) = 0 from rfl]
                  have hlosum : 0 + nn ≤ n := by omega
                  by_cases hnn : nn = 0
                  · obtain rfl : a2 = none := HA2.out.2 hnn
                    subst hnn
                    have HEND : Hid (posAt hn n H (k + 1) = 0) := HNX.out
                    go_wp2
                    refine wp_loop_rounds 1 ?_
                    rw [rounds_succ]
                    go_wp2
                    go_roundw
                    case rel => exact ⟨k + 1, 0, by omega, HEND.out.symm, by go_num, by go_num, HBR.out.trans (((Below.refl _ _).alloc (Nat.le_refl _) _).mono HBR.out.size)⟩
                    case measure => simp [intOf]; omega
                  · have hnp : 0 < nn := by omega
                    obtain ⟨eb, eo, rfl, ec⟩ := HGA.out.pos hnp
                    obtain ⟨lb, lf, rfl, lc⟩ := HA.out.l.pos (by omega)
                    have HEC : Hid (∀ i, i < nn → AsgAt wr eb (eo + i * 4) (L (0 + i)) ∧ AsgAt wr lb (lf + (0 + i) * 4) (L (0 + i))) := fun i hi => ⟨ec i hi, (lc (0 + i) (by omega)).later2 HB5w.out HBR.out⟩
                    have hnz2 : ((nn : Int) == 0) = false := by simp; omega
                    have hd1 : decide ((n : Int) < (nn : Int)) = false := by simp; omega
                    have hd2 : decide (n < nn) = false := by simp; omega
                    clear ec lc
                    go_wp2
                    clear qe
                    obtain ⟨wo, hwo⟩ : ∃ x, x = wr := ⟨_, rfl⟩
                    subst hwo
                    go_loopw [10, 14] (fun s10 i wq => ∃ j P : Nat, j ≤ nn ∧ P = 0 + j ∧ s10 = .int .i64 P ∧ i = .int .i64 j ∧ Below wo.heap.size wo wq) (fun _ i _ => nn - (intOf i).toNat)
                    case atStart => exact ⟨0, 0, Nat.zero_le _, rfl, by go_num, rfl, (Below.refl _ _).alloc (Nat.le_refl _) _⟩
                    case round =>
                      obtain ⟨j, P, hj, hP, rfl, rfl, hbq⟩ := hrel
                      by_cases hltj : j < nn
                      · have hec := HEC.out j hltj
                        rw [← hP] at hec
                        obtain ⟨⟨c0, c1, c2, c3⟩, ⟨d0, d1, d2, d3⟩⟩ := hec
                        have hk := fun b o h => hbq.cell (p := ⟨b, o, none⟩) h
                        have c0 := (hk eb (eo + j * 4) (World.block_lt_of_cell? wo _ c0)).trans c0
                        have c1 := (hk eb (eo + j * 4 + 1) (World.block_lt_of_cell? wo _ c1)).trans c1
                        have c2 := (hk eb (eo + j * 4 + 2) (World.block_lt_of_cell? wo _ c2)).trans c2
                        have c3 := (hk eb (eo + j * 4 + 3) (World.block_lt_of_cell? wo _ c3)).trans c3
                        have d0 := (hk lb (lf + P * 4) (World.block_lt_of_cell? wo _ d0)).trans d0
                        have d1 := (hk lb (lf + P * 4 + 1) (World.block_lt_of_cell? wo _ d1)).trans d1
                        have d2 := (hk lb (lf + P * 4 + 2) (World.block_lt_of_cell? wo _ d2)).trans d2
                        have d3 := (hk lb (lf + P * 4 + 3) (World.block_lt_of_cell? wo _ d3)).trans d3
                        have l1 : eb < wr.heap.size := World.block_lt_of_cell? wr _ c0
                        have l2 : lb < wr.heap.size := World.block_lt_of_cell? wr _ d0
                        have hltj' : (j : Int) < (nn : Int) := by omega
                        have hltp : (P : Int) < (n : Int) := by omega
                        have HPP : Hid (P = 0 + j) := hP
                        clear hP
                        have HBQ : Hid (Below wo.heap.size wo wr) := hbq
                        clear hk hbq
                        go_wp2
                        go_region_held3 (fun W => W.cell? ⟨eb, eo + j * 4, none⟩ = some (.string (L P).k) ∧ W.cell? ⟨eb, eo + j * 4 + 1, none⟩ = some (.string (L P).v) ∧ W.cell? ⟨eb, eo + j * 4 + 2, none⟩ = some (.int .i64 (L P).l) ∧ W.cell? ⟨eb, eo + j * 4 + 3, none⟩ = some (.int .i64 (L P).c) ∧ W.cell? ⟨lb, lf + P * 4, none⟩ = some (.string (L P).k) ∧ W.cell? ⟨lb, lf + P * 4 + 1, none⟩ = some (.string (L P).v) ∧ W.cell? ⟨lb, lf + P * 4 + 2, none⟩ = some (.int .i64 (L P).l) ∧ W.cell? ⟨lb, lf + P * 4 + 3, none⟩ = some (.int .i64 (L P).c)) (simp [*]) (first | (go_at_call 17; refine (sameAsg_yes _ _ _ _ _).mono ?_; rintro e w7 ⟨rfl, hb7⟩; have hb7' : Below wr.heap.size wr w7 := below_undrew hb7; clear hb7; have hk7 : ∀ b o, b < wr.heap.size → w7.cell? ⟨b, o, none⟩ = wr.cell? ⟨b, o, none⟩ := fun b o h => hb7'.cell (p := ⟨b, o, none⟩) h))
                        have HB7 : Hid (Below wo.heap.size wo w7) := HBQ.out.trans (hb7'.mono HBQ.out.size)
                        clear HBQ hb7' hk7 c0 c1 c2 c3 d0 d1 d2 d3 l1 l2
                        go_wp2
                        go_roundw
                        case rel => exact ⟨j + 1, P + 1, by omega, by rw [HPP.out]; rfl, by go_num, by go_num, HB7.out⟩
                        case measure => simp [intOf]; omega
                      · obtain rfl : j = nn := by omega
                        have HBQ : Hid (Below w5.heap.size w5 wr) := HBR.out.trans (hbq.mono HBR.out.size)
                        have HEND : Hid (posAt hn n H (k + 1) = P) := by rw [hP]; exact HNX.out
                        clear hbq hP
                        go_wp2
                        go_roundw
                        case rel => exact ⟨k + 1, P, by omega, HEND.out.symm, by go_num, by go_num, HBQ.out⟩
                        case measure => simp [intOf]; omega
                · obtain ⟨p, rfl⟩ := Int.eq_ofNat_of_zero_le (show 0 ≤ h by omega)
                  obtain rfl : pp = p := by omega
                  obtain rfl : lo = pp + 1 := by omega
                  have hz : headOf L (pp : Int) = L pp := by unfold headOf; rw [if_pos (by omega)]; rfl
                  rw [hz] at g0 g1 g2 g3
                  clear hpp hlo hz hneg
                  obtain ⟨lb, lf, rfl, lc⟩ := HA.out.l.pos (by omega)
                  obtain ⟨d0, d1, d2, d3⟩ := (lc pp (by omega)).later2 HB5w.out HBR.out
                  have ll : lb < wr.heap.size := World.block_lt_of_cell? wr _ d0
                  have kd : ∀ b o ob, b < wr.heap.size → (wr.alloc ob).cell? ⟨b, o, none⟩ = wr.cell? ⟨b, o, none⟩ := fun b o ob h => World.cell?_alloc_lt _ _ _ (by exact h)
                  have hppn : (pp : Int) < (n : Int) := by omega
                  have LC : Hid (∀ i, i < n → AsgAt w lb (lf + i * 4) (L i)) := lc
                  clear lc
                  go_wp2
                  go_region_held3 (fun W => W.cell? ⟨w.heap.size, k, none⟩ = some (.int .i64 pp) ∧ W.cell? ⟨wr.heap.size, 0, none⟩ = some (.string (L pp).k) ∧ W.cell? ⟨wr.heap.size, 1, none⟩ = some (.string (L pp).v) ∧ W.cell? ⟨wr.heap.size, 2, none⟩ = some (.int .i64 (L pp).l) ∧ W.cell? ⟨wr.heap.size, 3, none⟩ = some (.int .i64 (L pp).c) ∧ W.cell? ⟨wr.heap.size, 4, none⟩ = some (.slice a2 nn nn) ∧ W.cell? ⟨lb, lf + pp * 4, none⟩ = some (.string (L pp).k) ∧ W.cell? ⟨lb, lf + pp * 4 + 1, none⟩ = some (.string (L pp).v) ∧ W.cell? ⟨lb, lf + pp * 4 + 2, none⟩ = some (.int .i64 (L pp).l) ∧ W.cell? ⟨lb, lf + pp * 4 + 3, none⟩ = some (.int .i64 (L pp).c)) (simp [*]) (first | (go_at_call 17; refine (sameAsg_yes _ _ _ _ _).mono ?_; rintro e w6 ⟨rfl, hb6⟩; have hb6' := below_undrew hb6; clear hb6; have hk6 := fun b o h => hb6'.cell (p := ⟨b, o, none⟩) h; have ls : wr.heap.size < wr.heap.size + 1 := Nat.lt_succ_self _; have lw' : w.heap.size < wr.heap.size + 1 := Nat.lt_succ_of_lt lw; have ll' : lb < wr.heap.size + 1 := Nat.lt_succ_of_lt ll; simp only [World.size_alloc] at hk6))
                  have HX : Hid (Below wr.heap.size wr w6) := ((Below.refl wr.heap.size wr).alloc (Nat.le_refl _) _).trans (hb6'.mono (by simp))
                  have bx : w6.cell? ⟨wr.heap.size, 4, none⟩ = some (.slice a2 nn nn) := by rw [hk6 _ _ ls]; simp
                  have lc := LC.out
                  clear LC hb6' hk6 ls lw' ll' kd ek ek' g0 g1 g2 g3 g4 d0 d1 d2 d3 ll lw lg
                  have hlosum : (pp + 1) + nn ≤ n := by omega
                  by_cases hnn : nn = 0
                  · obtain rfl : a2 = none := HA2.out.2 hnn
                    subst hnn
                    have HEND : Hid (posAt hn n H (k + 1) = (pp + 1)) := HNX.out
                    go_wp2
                    refine wp_loop_rounds 1 ?_
                    rw [rounds_succ]
                    go_wp2
                    go_roundw
                    case rel => exact ⟨k + 1, (pp + 1), by omega, HEND.out.symm, by go_num, by go_num, HBR.out.trans ((HX.out).mono HBR.out.size)⟩
                    case measure => simp [intOf]; omega
                  · have hnp : 0 < nn := by omega
                    obtain ⟨eb, eo, rfl, ec⟩ := HGA.out.pos hnp
                    have HEC : Hid (∀ i, i < nn → AsgAt wr eb (eo + i * 4) (L ((pp + 1) + i)) ∧ AsgAt wr lb (lf + ((pp + 1) + i) * 4) (L ((pp + 1) + i))) := fun i hi => ⟨ec i hi, (lc ((pp + 1) + i) (by omega)).later2 HB5w.out HBR.out⟩
                    have hnz2 : ((nn : Int) == 0) = false := by simp; omega
                    have hd1 : decide ((n : Int) < (nn : Int)) = false := by simp; omega
                    have hd2 : decide (n < nn) = false := by simp; omega
                    clear ec lc
                    go_wp2
                    clear qe
                    obtain ⟨wo, hwo⟩ : ∃ x, x = wr := ⟨_, rfl⟩
                    subst hwo
                    go_loopw [10, 14] (fun s10 i wq => ∃ j P : Nat, j ≤ nn ∧ P = (pp + 1) + j ∧ s10 = .int .i64 P ∧ i = .int .i64 j ∧ Below wo.heap.size wo wq) (fun _ i _ => nn - (intOf i).toNat)
                    case atStart => exact ⟨0, (pp + 1), Nat.zero_le _, rfl, by go_num, rfl, HX.out⟩
                    case round =>
                      obtain ⟨j, P, hj, hP, rfl, rfl, hbq⟩ := hrel
                      by_cases hltj : j < nn
                      · have hec := HEC.out j hltj
                        rw [← hP] at hec
                        obtain ⟨⟨c0, c1, c2, c3⟩, ⟨d0, d1, d2, d3⟩⟩ := hec
                        have hk := fun b o h => hbq.cell (p := ⟨b, o, none⟩) h
                        have c0 := (hk eb (eo + j * 4) (World.block_lt_of_cell? wo _ c0)).trans c0
                        have c1 := (hk eb (eo + j * 4 + 1) (World.block_lt_of_cell? wo _ c1)).trans c1
                        have c2 := (hk eb (eo + j * 4 + 2) (World.block_lt_of_cell? wo _ c2)).trans c2
                        have c3 := (hk eb (eo + j * 4 + 3) (World.block_lt_of_cell? wo _ c3)).trans c3
                        have d0 := (hk lb (lf + P * 4) (World.block_lt_of_cell? wo _ d0)).trans d0
                        have d1 := (hk lb (lf + P * 4 + 1) (World.block_lt_of_cell? wo _ d1)).trans d1
                        have d2 := (hk lb (lf + P * 4 + 2) (World.block_lt_of_cell? wo _ d2)).trans d2
                        have d3 := (hk lb (lf + P * 4 + 3) (World.block_lt_of_cell? wo _ d3)).trans d3
                        have l1 : eb < wr.heap.size := World.block_lt_of_cell? wr _ c0
                        have l2 : lb < wr.heap.size := World.block_lt_of_cell? wr _ d0
                        have hltj' : (j : Int) < (nn : Int) := by omega
                        have hltp : (P : Int) < (n : Int) := by omega
                        have HPP : Hid (P = (pp + 1) + j) := hP
                        clear hP
                        have HBQ : Hid (Below wo.heap.size wo wr) := hbq
                        clear hk hbq
                        go_wp2
                        go_region_held3 (fun W => W.cell? ⟨eb, eo + j * 4, none⟩ = some (.string (L P).k) ∧ W.cell? ⟨eb, eo + j * 4 + 1, none⟩ = some (.string (L P).v) ∧ W.cell? ⟨eb, eo + j * 4 + 2, none⟩ = some (.int .i64 (L P).l) ∧ W.cell? ⟨eb, eo + j * 4 + 3, none⟩ = some (.int .i64 (L P).c) ∧ W.cell? ⟨lb, lf + P * 4, none⟩ = some (.string (L P).k) ∧ W.cell? ⟨lb, lf + P * 4 + 1, none⟩ = some (.string (L P).v) ∧ W.cell? ⟨lb, lf + P * 4 + 2, none⟩ = some (.int .i64 (L P).l) ∧ W.cell? ⟨lb, lf + P * 4 + 3, none⟩ = some (.int .i64 (L P).c)) (simp [*]) (first | (go_at_call 17; refine (sameAsg_yes _ _ _ _ _).mono ?_; rintro e w7 ⟨rfl, hb7⟩; have hb7' : Below wr.heap.size wr w7 := below_undrew hb7; clear hb7; have hk7 : ∀ b o, b < wr.heap.size → w7.cell? ⟨b, o, none⟩ = wr.cell? ⟨b, o, none⟩ := fun b o h => hb7'.cell (p := ⟨b, o, none⟩) h))
                        have HB7 : Hid (Below wo.heap.size wo w7) := HBQ.out.trans (hb7'.mono HBQ.out.size)
                        clear HBQ hb7' hk7 c0 c1 c2 c3 d0 d1 d2 d3 l1 l2
                        go_wp2
                        go_roundw
                        case rel => exact ⟨j + 1, P + 1, by omega, by rw [HPP.out]; rfl, by go_num, by go_num, HB7.out⟩
                        case measure => simp [intOf]; omega
                      · obtain rfl : j = nn := by omega
                        have HBQ : Hid (Below w5.heap.size w5 wr) := HBR.out.trans (hbq.mono HBR.out.size)
                        have HEND : Hid (posAt hn n H (k + 1) = P) := by rw [hP]; exact HNX.out
                        clear hbq hP
                        go_wp2
                        go_roundw
                        case rel => exact ⟨k + 1, P, by omega, HEND.out.symm, by go_num, by go_num, HBQ.out⟩
                        case measure => simp [intOf]; omega
              · obtain rfl : k = hn := by omega
                have hpe : posAt k n H k = n := by unfold posAt; rw [if_neg (by omega)]
                rw [hpe] at hpp
                subst hpp
                have HBE : Hid (Below w.heap.size w wr) := HB5w.out.trans (hb.mono HB5w.out.size)
                clear hb
                go_wp2
                go_ret
                exact ⟨rfl, HBE.out⟩
          · go_wp2
            have hz0 : z.toNat = 0 := by omega
            have HZ0 : Hid (z.toNat = 0) := hz0
            clear hzp hv0 hz0
            go_loopw [10, 11] (fun s10 i wr => ∃ k pp : Nat, k ≤ hn ∧ pp = posAt hn n H k ∧ s10 = .int .i64 pp ∧ i = .int .i64 k ∧ Below w5.heap.size w5 wr) (fun _ i _ => hn - (intOf i).toNat)
            case atStart => exact ⟨0, 0, Nat.zero_le _, by rw [HP0.out, ← HZ.out]; exact HZ0.out.symm, by go_num, rfl, Below.refl _ _⟩
            case round =>
              clear e0 HZ hpz HP0
              obtain ⟨k, pp, hk, hpp, rfl, rfl, hb⟩ := hrel
              by_cases hlt : k < hn
              · obtain ⟨lo, nn, a2, hlo, hsum, hnext, ⟨g0, g1, g2, g3⟩, g4, hga, ha2⟩ := got_new (HG5.out.later hb) HV.out hlt
                have HNX : Hid (posAt hn n H (k + 1) = lo + nn) := hnext
                have HGA : Hid (AsgSl wr a2 nn (fun j => L (lo + j))) := hga
                have HA2 : Hid (a2 = none ↔ nn = 0) := ha2
                have ek := (hb.cell (p := ⟨w.heap.size, k, none⟩) (World.block_lt_of_cell? w5 _ (HC5.out k hlt))).trans (HC5.out k hlt)
                have HBR : Hid (Below w5.heap.size w5 wr) := hb
                have hltk : (k : Int) < (hn : Int) := by omega
                have hpk : posAt hn n H k = (H k).toNat := by unfold posAt; rw [if_pos hlt]
                rw [hpk] at hpp
                obtain ⟨h, hh⟩ : ∃ h, h = H k := ⟨_, rfl⟩
                rw [← hh] at hlo hpp ek g0 g1 g2 g3
                clear hnext hga ha2 hb hpk hh
                have lw : w.heap.size < wr.heap.size := World.block_lt_of_cell? wr _ ek
                have lg : g < wr.heap.size := World.block_lt_of_cell? wr _ g0
                have ek' : ∀ ob, (wr.alloc ob).cell? ⟨w.heap.size, k, none⟩ = some (.int .i64 h) := fun ob => (World.cell?_alloc_lt _ _ _ (by exact lw)).trans ek
                have qe : ∀ (W : World) (a : Option Addr) (n c n' c' : Nat), (binOp .eql 35 (.slice a n c) (.slice none n' c')).run Try.prog W = .ok (.bool a.isNone) W := fun W a n c n' c' => Lib.run_eql_slice_nil W _ _ a n c n' c' Try.underlying35
                by_cases hneg : h < 0
                · obtain rfl : h = -1 := by omega
                  obtain rfl : lo = 0 := by omega
                  obtain rfl : pp = 0 := by omega
                  have hz : headOf L (-1) = zeroA := by unfold headOf; rw [if_neg (by omega)]
                  rw [hz] at g0 g1 g2 g3
                  clear hpp hlo hz hneg
                  simp only [zeroA] at g0 g1 g2 g3
                  rw [show ((0 : Nat) : Int) = 0 from rfl]
                  have hlosum : 0 + nn ≤ n := by omega
                  by_cases hnn : nn = 0
                  · obtain rfl : a2 = none := HA2.out.2 hnn
                    subst hnn
                    have HEND : Hid (posAt hn n H (k + 1) = 0) := HNX.out
                    go_wp2
                    refine wp_loop_rounds 1 ?_
                    rw [rounds_succ]
                    go_wp2
                    go_roundw
                    case rel => exact ⟨k + 1, 0, by omega, HEND.out.symm, by go_num, by go_num, HBR.out.trans (((Below.refl _ _).alloc (Nat.le_refl _) _).mono HBR.out.size)⟩
                    case measure => simp [intOf]; omega
                  · have hnp : 0 < nn := by omega
                    obtain ⟨eb, eo, rfl, ec⟩ := HGA.out.pos hnp
                    obtain ⟨lb, lf, rfl, lc⟩ := HA.out.l.pos (by omega)
                    have HEC : Hid (∀ i, i < nn → AsgAt wr eb (eo + i * 4) (L (0 + i)) ∧ AsgAt wr lb (lf + (0 + i) * 4) (L (0 + i))) := fun i hi => ⟨ec i hi, (lc (0 + i) (by omega)).later2 HB5w.out HBR.out⟩
                    have hnz2 : ((nn : Int) == 0) = false := by simp; omega
                    have hd1 : decide ((n : Int) < (nn : Int)) = false := by simp; omega
                    have hd2 : decide (n < nn) = false := by simp; omega
                    clear ec lc
                    go_wp2
                    clear qe
                    obtain ⟨wo, hwo⟩ : ∃ x, x = wr := ⟨_, rfl⟩
                    subst hwo
                    go_loopw [10, 14] (fun s10 i wq => ∃ j P : Nat, j ≤ nn ∧ P = 0 + j ∧ s10 = .int .i64 P ∧ i = .int .i64 j ∧ Below wo.heap.size wo wq) (fun _ i _ => nn - (intOf i).toNat)
                    case atStart => exact ⟨0, 0, Nat.zero_le _, rfl, by go_num, rfl, (Below.refl _ _).alloc (Nat.le_refl _) _⟩
                    case round =>
                      obtain ⟨j, P, hj, hP, rfl, rfl, hbq⟩ := hrel
                      by_cases hltj : j < nn
                      · have hec := HEC.out j hltj
                        rw [← hP] at hec
                        obtain ⟨⟨c0, c1, c2, c3⟩, ⟨d0, d1, d2, d3⟩⟩ := hec
                        have hk := fun b o h => hbq.cell (p := ⟨b, o, none⟩) h
                        have c0 := (hk eb (eo + j * 4) (World.block_lt_of_cell? wo _ c0)).trans c0
                        have c1 := (hk eb (eo + j * 4 + 1) (World.block_lt_of_cell? wo _ c1)).trans c1
                        have c2 := (hk eb (eo + j * 4 + 2) (World.block_lt_of_cell? wo _ c2)).trans c2
                        have c3 := (hk eb (eo + j * 4 + 3) (World.block_lt_of_cell? wo _ c3)).trans c3
                        have d0 := (hk lb (lf + P * 4) (World.block_lt_of_cell? wo _ d0)).trans d0
                        have d1 := (hk lb (lf + P * 4 + 1) (World.block_lt_of_cell? wo _ d1)).trans d1
                        have d2 := (hk lb (lf + P * 4 + 2) (World.block_lt_of_cell? wo _ d2)).trans d2
                        have d3 := (hk lb (lf + P * 4 + 3) (World.block_lt_of_cell? wo _ d3)).trans d3
                        have l1 : eb < wr.heap.size := World.block_lt_of_cell? wr _ c0
                        have l2 : lb < wr.heap.size := World.block_lt_of_cell? wr _ d0
                        have hltj' : (j : Int) < (nn : Int) := by omega
                        have hltp : (P : Int) < (n : Int) := by omega
                        have HPP : Hid (P = 0 + j) := hP
                        clear hP
                        have HBQ : Hid (Below wo.heap.size wo wr) := hbq
                        clear hk hbq
                        go_wp2
                        go_region_held3 (fun W => W.cell? ⟨eb, eo + j * 4, none⟩ = some (.string (L P).k) ∧ W.cell? ⟨eb, eo + j * 4 + 1, none⟩ = some (.string (L P).v) ∧ W.cell? ⟨eb, eo + j * 4 + 2, none⟩ = some (.int .i64 (L P).l) ∧ W.cell? ⟨eb, eo + j * 4 + 3, none⟩ = some (.int .i64 (L P).c) ∧ W.cell? ⟨lb, lf + P * 4, none⟩ = some (.string (L P).k) ∧ W.cell? ⟨lb, lf + P * 4 + 1, none⟩ = some (.string (L P).v) ∧ W.cell? ⟨lb, lf + P * 4 + 2, none⟩ = some (.int .i64 (L P).l) ∧ W.cell? ⟨lb, lf + P * 4 + 3, none⟩ = some (.int .i64 (L P).c)) (simp [*]) (first | (go_at_call 17; refine (sameAsg_yes _ _ _ _ _).mono ?_; rintro e w7 ⟨rfl, hb7⟩; have hb7' : Below wr.heap.size wr w7 := below_undrew hb7; clear hb7; have hk7 : ∀ b o, b < wr.heap.size → w7.cell? ⟨b, o, none⟩ = wr.cell? ⟨b, o, none⟩ := fun b o h => hb7'.cell (p := ⟨b, o, none⟩) h))
                        have HB7 : Hid (Below wo.heap.size wo w7) := HBQ.out.trans (hb7'.mono HBQ.out.size)
                        clear HBQ hb7' hk7 c0 c1 c2 c3 d0 d1 d2 d3 l1 l2
                        go_wp2
                        go_roundw
                        case rel => exact ⟨j + 1, P + 1, by omega, by rw [HPP.out]; rfl, by go_num, by go_num, HB7.out⟩
                        case measure => simp [intOf]; omega
                      · obtain rfl : j = nn := by omega
                        have HBQ : Hid (Below w5.heap.size w5 wr) := HBR.out.trans (hbq.mono HBR.out.size)
                        have HEND : Hid (posAt hn n H (k + 1) = P) := by rw [hP]; exact HNX.out
                        clear hbq hP
                        go_wp2
                        go_roundw
                        case rel => exact ⟨k + 1, P, by omega, HEND.out.symm, by go_num, by go_num, HBQ.out⟩
                        case measure => simp [intOf]; omega
                · obtain ⟨p, rfl⟩ := Int.eq_ofNat_of_zero_le (show 0 ≤ h by omega)
                  obtain rfl : pp = p := by omega
                  obtain rfl : lo = pp + 1 := by omega
                  have hz : headOf L (pp : Int) = L pp := by unfold headOf; rw [if_pos (by omega)]; rfl
                  rw [hz] at g0 g1 g2 g3
                  clear hpp hlo hz hneg
                  obtain ⟨lb, lf, rfl, lc⟩ := HA.out.l.pos (by omega)
                  obtain ⟨d0, d1, d2, d3⟩ := (lc pp (by omega)).later2 HB5w.out HBR.out
                  have ll : lb < wr.heap.size := World.block_lt_of_cell? wr _ d0
                  have kd : ∀ b o ob, b < wr.heap.size → (wr.alloc ob).cell? ⟨b, o, none⟩ = wr.cell? ⟨b, o, none⟩ := fun b o ob h => World.cell?_alloc_lt _ _ _ (by exact h)
                  have hppn : (pp : Int) < (n : Int) := by omega
                  have LC : Hid (∀ i, i < n → AsgAt w lb (lf + i * 4) (L i)) := lc
                  clear lc
                  go_wp2
                  go_region_held3 (fun W => W.cell? ⟨w.heap.size, k, none⟩ = some (.int .i64 pp) ∧ W.cell? ⟨wr.heap.size, 0, none⟩ = some (.string (L pp).k) ∧ W.cell? ⟨wr.heap.size, 1, none⟩ = some (.string (L pp).v) ∧ W.cell? ⟨wr.heap.size, 2, none⟩ = some (.int .i64 (L pp).l) ∧ W.cell? ⟨wr.heap.size, 3, none⟩ = some (.int .i64 (L pp).c) ∧ W.cell? ⟨wr.heap.size, 4, none⟩ = some (.slice a2 nn nn) ∧ W.cell? ⟨lb, lf + pp * 4, none⟩ = some (.string (L pp).k) ∧ W.cell? ⟨lb, lf + pp * 4 + 1, none⟩ = some (.string (L pp).v) ∧ W.cell? ⟨lb, lf + pp * 4 + 2, none⟩ = some (.int .i64 (L pp).l) ∧ W.cell? ⟨lb, lf + pp * 4 + 3, none⟩ = some (.int .i64 (L pp).c)) (simp [*]) (first | (go_at_call 17; refine (sameAsg_yes _ _ _ _ _).mono ?_; rintro e w6 ⟨rfl, hb6⟩; have hb6' := below_undrew hb6; clear hb6; have hk6 := fun b o h => hb6'.cell (p := ⟨b, o, none⟩) h; have ls : wr.heap.size < wr.heap.size + 1 := Nat.lt_succ_self _; have lw' : w.heap.size < wr.heap.size + 1 := Nat.lt_succ_of_lt lw; have ll' : lb < wr.heap.size + 1 := Nat.lt_succ_of_lt ll; simp only [World.size_alloc] at hk6))
                  have HX : Hid (Below wr.heap.size wr w6) := ((Below.refl wr.heap.size wr).alloc (Nat.le_refl _) _).trans (hb6'.mono (by simp))
                  have bx : w6.cell? ⟨wr.heap.size, 4, none⟩ = some (.slice a2 nn nn) := by rw [hk6 _ _ ls]; simp
                  have lc := LC.out
                  clear LC hb6' hk6 ls lw' ll' kd ek ek' g0 g1 g2 g3 g4 d0 d1 d2 d3 ll lw lg
                  have hlosum : (pp + 1) + nn ≤ n := by omega
                  by_cases hnn : nn = 0
                  · obtain rfl : a2 = none := HA2.out.2 hnn
                    subst hnn
                    have HEND : Hid (posAt hn n H (k + 1) = (pp + 1)) := HNX.out
                    go_wp2
                    refine wp_loop_rounds 1 ?_
                    rw [rounds_succ]
                    go_wp2
                    go_roundw
                    case rel => exact ⟨k + 1, (pp + 1), by omega, HEND.out.symm, by go_num, by go_num, HBR.out.trans ((HX.out).mono HBR.out.size)⟩
                    case measure => simp [intOf]; omega
                  · have hnp : 0 < nn := by omega
                    obtain ⟨eb, eo, rfl, ec⟩ := HGA.out.pos hnp
                    have HEC : Hid (∀ i, i < nn → AsgAt wr eb (eo + i * 4) (L ((pp + 1) + i)) ∧ AsgAt wr lb (lf + ((pp + 1) + i) * 4) (L ((pp + 1) + i))) := fun i hi => ⟨ec i hi, (lc ((pp + 1) + i) (by omega)).later2 HB5w.out HBR.out⟩
                    have hnz2 : ((nn : Int) == 0) = false := by simp; omega
                    have hd1 : decide ((n : Int) < (nn : Int)) = false := by simp; omega
                    have hd2 : decide (n < nn) = false := by simp; omega
                    clear ec lc
                    go_wp2
                    clear qe
                    obtain ⟨wo, hwo⟩ : ∃ x, x = wr := ⟨_, rfl⟩
                    subst hwo
                    go_loopw [10, 14] (fun s10 i wq => ∃ j P : Nat, j ≤ nn ∧ P = (pp + 1) + j ∧ s10 = .int .i64 P ∧ i = .int .i64 j ∧ Below wo.heap.size wo wq) (fun _ i _ => nn - (intOf i).toNat)
                    case atStart => exact ⟨0, (pp + 1), Nat.zero_le _, rfl, by go_num, rfl, HX.out⟩
                    case round =>
                      obtain ⟨j, P, hj, hP, rfl, rfl, hbq⟩ := hrel
                      by_cases hltj : j < nn
                      · have hec := HEC.out j hltj
                        rw [← hP] at hec
                        obtain ⟨⟨c0, c1, c2, c3⟩, ⟨d0, d1, d2, d3⟩⟩ := hec
                        have hk := fun b o h => hbq.cell (p := ⟨b, o, none⟩) h
                        have c0 := (hk eb (eo + j * 4) (World.block_lt_of_cell? wo _ c0)).trans c0
                        have c1 := (hk eb (eo + j * 4 + 1) (World.block_lt_of_cell? wo _ c1)).trans c1
                        have c2 := (hk eb (eo + j * 4 + 2) (World.block_lt_of_cell? wo _ c2)).trans c2
                        have c3 := (hk eb (eo + j * 4 + 3) (World.block_lt_of_cell? wo _ c3)).trans c3
                        have d0 := (hk lb (lf + P * 4) (World.block_lt_of_cell? wo _ d0)).trans d0
                        have d1 := (hk lb (lf + P * 4 + 1) (World.block_lt_of_cell? wo _ d1)).trans d1
                        have d2 := (hk lb (lf + P * 4 + 2) (World.block_lt_of_cell? wo _ d2)).trans d2
                        have d3 := (hk lb (lf + P * 4 + 3) (World.block_lt_of_cell? wo _ d3)).trans d3
                        have l1 : eb < wr.heap.size := World.block_lt_of_cell? wr _ c0
                        have l2 : lb < wr.heap.size := World.block_lt_of_cell? wr _ d0
                        have hltj' : (j : Int) < (nn : Int) := by omega
                        have hltp : (P : Int) < (n : Int) := by omega
                        have HPP : Hid (P = (pp + 1) + j) := hP
                        clear hP
                        have HBQ : Hid (Below wo.heap.size wo wr) := hbq
                        clear hk hbq
                        go_wp2
                        go_region_held3 (fun W => W.cell? ⟨eb, eo + j * 4, none⟩ = some (.string (L P).k) ∧ W.cell? ⟨eb, eo + j * 4 + 1, none⟩ = some (.string (L P).v) ∧ W.cell? ⟨eb, eo + j * 4 + 2, none⟩ = some (.int .i64 (L P).l) ∧ W.cell? ⟨eb, eo + j * 4 + 3, none⟩ = some (.int .i64 (L P).c) ∧ W.cell? ⟨lb, lf + P * 4, none⟩ = some (.string (L P).k) ∧ W.cell? ⟨lb, lf + P * 4 + 1, none⟩ = some (.string (L P).v) ∧ W.cell? ⟨lb, lf + P * 4 + 2, none⟩ = some (.int .i64 (L P).l) ∧ W.cell? ⟨lb, lf + P * 4 + 3, none⟩ = some (.int .i64 (L P).c)) (simp [*]) (first | (go_at_call 17; refine (sameAsg_yes _ _ _ _ _).mono ?_; rintro e w7 ⟨rfl, hb7⟩; have hb7' : Below wr.heap.size wr w7 := below_undrew hb7; clear hb7; have hk7 : ∀ b o, b < wr.heap.size → w7.cell? ⟨b, o, none⟩ = wr.cell? ⟨b, o, none⟩ := fun b o h => hb7'.cell (p := ⟨b, o, none⟩) h))
                        have HB7 : Hid (Below wo.heap.size wo w7) := HBQ.out.trans (hb7'.mono HBQ.out.size)
                        clear HBQ hb7' hk7 c0 c1 c2 c3 d0 d1 d2 d3 l1 l2
                        go_wp2
                        go_roundw
                        case rel => exact ⟨j + 1, P + 1, by omega, by rw [HPP.out]; rfl, by go_num, by go_num, HB7.out⟩
                        case measure => simp [intOf]; omega
                      · obtain rfl : j = nn := by omega
                        have HBQ : Hid (Below w5.heap.size w5 wr) := HBR.out.trans (hbq.mono HBR.out.size)
                        have HEND : Hid (posAt hn n H (k + 1) = P) := by rw [hP]; exact HNX.out
                        clear hbq hP
                        go_wp2
                        go_roundw
                        case rel => exact ⟨k + 1, P, by omega, HEND.out.symm, by go_num, by go_num, HBQ.out⟩
                        case measure => simp [intOf]; omega
              · obtain rfl : k = hn := by omega
                have hpe : posAt k n H k = n := by unfold posAt; rw [if_neg (by omega)]
                rw [hpe] at hpp
                subst hpp
                have HBE : Hid (Below w.heap.size w wr) := HB5w.out.trans (hb.mono HB5w.out.size)
                clear hb
                go_wp2
                go_ret
                exact ⟨rfl, HBE.out⟩
end Go.Proofs.Qxb6619209a
