/- FnSections..: srcinfo.sections (26), srcinfo.ZZsections (13). -/
import Derived.Test.Qxb6619209aSecStep
namespace Go.Proofs.Qxb6619209a
open Go.RowKit

/-- A slice of ints that does not lie in block g. -/
def IntSlN (w : World) (g : Nat) (a : Option Addr) (n : Nat) (Z : Nat → Int) : Prop :=
  n = 0 ∨ ∃ b off, a = some ⟨b, off, none⟩ ∧ b ≠ g ∧ ∀ i, i < n → w.cell? ⟨b, off + i, none⟩ = some (.int .i64 (Z i))
theorem IntSlN.pos {w : World} {g : Nat} {a : Option Addr} {n : Nat} {Z : Nat → Int} (h : IntSlN w g a n Z) (hn : 0 < n) : ∃ b off, a = some ⟨b, off, none⟩ ∧ b ≠ g ∧ b < w.heap.size ∧ ∀ i, i < n → w.cell? ⟨b, off + i, none⟩ = some (.int .i64 (Z i)) := by
  rcases h with rfl | ⟨b, off, rfl, hg, hc⟩
  · omega
  · exact ⟨b, off, rfl, hg, World.block_lt_of_cell? w _ (hc 0 hn), hc⟩
theorem AsgSlN.pos {w : World} {g : Nat} {a : Option Addr} {n : Nat} {L : Nat → Asg} (h : AsgSlN w g a n L) (hn : 0 < n) : ∃ b off, a = some ⟨b, off, none⟩ ∧ b ≠ g ∧ b < w.heap.size ∧ ∀ i, i < n → AsgAt w b (off + i * 4) (L i) := by
  rcases h with rfl | ⟨b, off, rfl, hg, hc⟩
  · omega
  · exact ⟨b, off, rfl, hg, (hc 0 hn).lt, hc⟩

/-- A part of the lines, as a slice of its own. -/
theorem part_of {w : World} {g b off n lo m : Nat} {L : Nat → Asg} (hg : b ≠ g) (hc : ∀ i, i < n → AsgAt w b (off + i * 4) (L i)) (h : lo + m ≤ n) : AsgSlN w g (some ⟨b, off + lo * 4, none⟩) m (fun j => L (lo + j)) := by
  refine .inr ⟨b, _, rfl, hg, fun i hi => ?_⟩
  rw [show off + lo * 4 + i * 4 = off + (lo + i) * 4 from by omega]
  exact hc _ (by omega)

theorem new_cells (w : World) (xs : Array Value) (t : TypeId) : ∀ j u, xs.toList[j]? = some u → (w.alloc (.cells xs t)).cell? ((⟨w.heap.size, 0, none⟩ : Addr).add j) = some u := by
  intro j u hj
  have h : xs[j]? = some u := by simpa using hj
  rcases j with _ | j
  · simpa [Addr.add] using h
  · simpa [Addr.add] using h
theorem new_cells2 (w : World) (o : Obj) (xs : Array Value) (t : TypeId) : ∀ j u, xs.toList[j]? = some u → ((w.alloc o).alloc (.cells xs t)).cell? ((⟨w.heap.size + 1, 0, none⟩ : Addr).add j) = some u := by
  have h := new_cells (w.alloc o) xs t
  rw [show (w.alloc o).heap.size = w.heap.size + 1 from by simp] at h
  exact h
theorem one_cells (a b : ByteArray) (l c : Int) (x : Option Addr) (n k : Nat) : ∀ u ∈ [Value.string a, .string b, .int .i64 l, .int .i64 c, .slice x n k], u.oneCell' = true := by
  intro u hu
  simp at hu
  rcases hu with rfl | rfl | rfl | rfl | rfl <;> rfl

set_option maxHeartbeats 3200000 in
set_option maxRecDepth 1000000 in
theorem sections_any (la : Option Addr) (ln : Nat) (L : Nat → Asg) (ha : Option Addr) (hn hcap : Nat) (H : Nat → Int) (v0 : Value) (m : Nat) (xs0 : List Value) (S : Nat → Sec) (g0 : Nat) (w : World)
    (bl : ln ≤ 1048576) (bh : hn ≤ 131072) (bm : m ≤ 524288) (hL : AsgSlN w g0 la ln L) (hH : IntSlN w g0 ha hn H) (hV : ValidH hn ln H)
    (hS : Secs w w.heap.size g0 v0 m xs0) (hT : SecsAre w (v0.ownBlock.getD g0) xs0 m S) :
    Calls Try.prog 26 #[.slice la ln ln, .slice ha hn hcap, v0] w fun e w' => ∃ v xs, e = .returned v ∧ KeptBut w w' g0 ∧ Secs w' w.heap.size g0 v (m + hn) xs ∧ SecsAre w' (v.ownBlock.getD g0) xs (m + hn) (allSec m S hn ln L H) := by
  have HL : Hid (AsgSlN w g0 la ln L) := hL
  have HH : Hid (IntSlN w g0 ha hn H) := hH
  have HV : Hid (ValidH hn ln H) := hV
  have HS : Hid (Secs w w.heap.size g0 v0 m xs0 ∧ SecsAre w (v0.ownBlock.getD g0) xs0 m S) := ⟨hS, hT⟩
  clear hL hH hV hS hT
  go_enter Try.func26, Try.ntmps26
  go_wp2
  go_loopw [2, 13] (fun v i wr => ∃ k : Nat, k ≤ hn ∧ i = .int .i64 k ∧ KeptBut w wr g0 ∧ ∃ xs, Secs wr w.heap.size g0 v (m + k) xs ∧ SecsAre wr (v.ownBlock.getD g0) xs (m + k) (allSec m S hn ln L H)) (fun _ i _ => hn - (intOf i).toNat)
  case atStart =>
    refine ⟨0, Nat.zero_le _, rfl, KeptBut.refl _ _, xs0, HS.out.1, fun i hi => ?_⟩
    have : allSec m S hn ln L H i = S i := by unfold allSec; rw [if_pos (by omega)]
    rw [this]; exact HS.out.2 i (by omega)
  case round =>
    clear HS
    obtain ⟨k, hk, rfl, hkb, xs, hsec, hare⟩ := hrel
    by_cases hlt : k < hn
    rotate_left
    · obtain rfl : k = hn := by omega
      go_wp2
      go_ret
      exact ⟨_, xs, rfl, hkb, hsec, hare⟩
    have HR : Hid (KeptBut w wr g0 ∧ Secs wr w.heap.size g0 u2 (m + k) xs ∧ SecsAre wr (u2.ownBlock.getD g0) xs (m + k) (allSec m S hn ln L H)) := ⟨hkb, hsec, hare⟩
    have hsz := hkb.size
    clear hkb hare
    obtain ⟨hb, ho, rfl, hbg, hbl, hc⟩ := HH.out.pos (by omega)
    have kc : ∀ b o, b < w.heap.size → b ≠ g0 → wr.cell? ⟨b, o, none⟩ = w.cell? ⟨b, o, none⟩ := fun b o h1 h2 => World.cell?_of_block (w := w) (a := ⟨b, o, none⟩) (HR.out.1.block b h1 h2)
    have kd : ∀ b o, b < w.heap.size → b ≠ g0 → ∀ ob, (wr.alloc ob).cell? ⟨b, o, none⟩ = w.cell? ⟨b, o, none⟩ := fun b o h1 h2 ob => (World.cell?_alloc_lt _ _ _ (by exact Nat.lt_of_lt_of_le h1 hsz)).trans (kc b o h1 h2)
    have ck := (kc hb (ho + k) hbl hbg).trans (hc k hlt)
    obtain ⟨v1, v2, v3⟩ := HV.out k hlt
    have vg := valid_ge HV.out k hlt
    obtain ⟨h, HHk⟩ : ∃ h, h = H k := ⟨_, rfl⟩
    rw [← HHk] at ck v1 v2 v3 vg
    clear v2 v3
    have ce : endOf hn ln H k = if k + 1 < hn then H (k + 1) else ln := rfl
    have CE : Hid (endOf hn ln H k = if k + 1 < hn then H (k + 1) else ln) := ce
    clear ce
    -- where the section ends: q; the heads' next cell, where there is one
    obtain ⟨q, HQ, hq1, hq2, ck1⟩ : ∃ q : Nat, Hid ((q : Int) = endOf hn ln H k) ∧ h + 1 ≤ (q : Int) ∧ q ≤ ln ∧ (k + 1 < hn → ∀ ob, (wr.alloc ob).cell? ⟨hb, ho + (k + 1), none⟩ = some (.int .i64 (q : Int))) := by
      by_cases hlast : k + 1 < hn
      · have x1 := (HV.out (k + 1) hlast).1
        have x2 := (HV.out (k + 1) hlast).2.2 (by omega)
        simp only [Nat.add_sub_cancel] at x2
        rw [← HHk] at x2
        obtain ⟨q, hq⟩ := Int.eq_ofNat_of_zero_le (show 0 ≤ H (k + 1) by omega)
        refine ⟨q, ?_, by omega, by omega, fun _ ob => ?_⟩
        · show (q : Int) = _
          rw [CE.out, if_pos hlast, hq]
        · rw [kd hb (ho + (k + 1)) hbl hbg ob, hc (k + 1) hlast, hq]
      · refine ⟨ln, ?_, by omega, Nat.le_refl _, fun h => absurd h hlast⟩
        show (ln : Int) = _
        rw [CE.out, if_neg hlast]
    have HX : Hid (h = H k) := HHk
    have HLast : Hid (¬ k + 1 < hn → q = ln) := by
      intro hl
      have := HQ.out
      rw [CE.out, if_neg hl] at this
      omega
    clear HHk hc kc CE
    by_cases hneg : h < 0
    · obtain rfl : h = -1 := by omega
      clear hneg
      by_cases hrun : 0 < q
      · obtain ⟨lb, lo, rfl, lg, lbl, lc⟩ := HL.out.pos (by omega)
        have HA : Hid (AsgSlN w g0 (some ⟨lb, lo, none⟩) q (fun j => L (0 + j))) := by
          have := part_of (lo := 0) (m := q) lg lc (by omega)
          rw [Nat.zero_mul, Nat.add_zero] at this
          exact this
        have hrun' : (0 : Int) < (q : Int) := by omega
        clear kd lc
        by_cases hlast : k + 1 < hn
        · have hlast' : (k : Int) + 1 < (hn : Int) := by omega
          have ck1' := ck1 hlast
          clear ck1
          go_wp2_with (at_builtin; refine wpList_append_sec _ rfl (.tmp 48) (.tmp 50) rfl w.heap.size g0 u2 (m + k) xs rfl ((hsec.alloc _).alloc _) (Nat.le_trans hsz (size_alloc2 _ _ _)) ⟨wr.heap.size + 1, 0, none⟩ 1 [.string ⟨#[]⟩, .string ⟨#[]⟩, .int .i64 0, .int .i64 0, .slice (some ⟨lb, lo, none⟩) q q] rfl rfl (new_cells2 _ _ _ _) (one_cells _ _ _ _ _ _ _) (by omega) ?_)
          intro g cap w1 hsec1 hgr hg
          have RR := sec_round HR.out (newSec_neg_run HX.out HQ.out hrun) hsec1 hgr hg HA.out (by simp)
          clear hsec hsec1 hgr hg HR HX ck HA HQ 
          go_wp2
          go_roundw
          case rel => exact ⟨k + 1, by omega, by go_num, RR⟩
          case measure => simp [intOf]; omega
        · have hlast' : ¬ (k : Int) + 1 < (hn : Int) := by omega
          obtain rfl : q = ln := HLast.out hlast
          clear ck1
          go_wp2_with (at_builtin; refine wpList_append_sec _ rfl (.tmp 48) (.tmp 50) rfl w.heap.size g0 u2 (m + k) xs rfl ((hsec.alloc _).alloc _) (Nat.le_trans hsz (size_alloc2 _ _ _)) ⟨wr.heap.size + 1, 0, none⟩ 1 [.string ⟨#[]⟩, .string ⟨#[]⟩, .int .i64 0, .int .i64 0, .slice (some ⟨lb, lo, none⟩) q q] rfl rfl (new_cells2 _ _ _ _) (one_cells _ _ _ _ _ _ _) (by omega) ?_)
          intro g cap w1 hsec1 hgr hg
          have RR := sec_round HR.out (newSec_neg_run HX.out HQ.out hrun) hsec1 hgr hg HA.out (by simp)
          clear hsec hsec1 hgr hg HR HX ck HA HQ 
          go_wp2
          go_roundw
          case rel => exact ⟨k + 1, by omega, by go_num, RR⟩
          case measure => simp [intOf]; omega
      · obtain rfl : q = 0 := by omega
        have HA : Hid (AsgSlN w g0 none 0 (fun j => L (0 + j))) := .inl rfl
        clear kd
        by_cases hlast : k + 1 < hn
        · have hlast' : (k : Int) + 1 < (hn : Int) := by omega
          have ck1' := ck1 hlast
          clear ck1
          go_wp2_with (at_builtin; refine wpList_append_sec _ rfl (.tmp 48) (.tmp 50) rfl w.heap.size g0 u2 (m + k) xs rfl ((hsec.alloc _).alloc _) (Nat.le_trans hsz (size_alloc2 _ _ _)) ⟨wr.heap.size + 1, 0, none⟩ 1 [.string ⟨#[]⟩, .string ⟨#[]⟩, .int .i64 0, .int .i64 0, .slice none 0 0] rfl rfl (new_cells2 _ _ _ _) (one_cells _ _ _ _ _ _ _) (by omega) ?_)
          intro g cap w1 hsec1 hgr hg
          have RR := sec_round HR.out (newSec_neg_nil HX.out HQ.out) hsec1 hgr hg HA.out (by simp)
          clear hsec hsec1 hgr hg HR HX ck HA HQ 
          go_wp2
          go_roundw
          case rel => exact ⟨k + 1, by omega, by go_num, RR⟩
          case measure => simp [intOf]; omega
        · have hlast' : ¬ (k : Int) + 1 < (hn : Int) := by omega
          have hz := HLast.out hlast
          obtain rfl : ln = 0 := by omega
          clear ck1
          go_wp2_with (at_builtin; refine wpList_append_sec _ rfl (.tmp 48) (.tmp 50) rfl w.heap.size g0 u2 (m + k) xs rfl ((hsec.alloc _).alloc _) (Nat.le_trans hsz (size_alloc2 _ _ _)) ⟨wr.heap.size + 1, 0, none⟩ 1 [.string ⟨#[]⟩, .string ⟨#[]⟩, .int .i64 0, .int .i64 0, .slice none 0 0] rfl rfl (new_cells2 _ _ _ _) (one_cells _ _ _ _ _ _ _) (by omega) ?_)
          intro g cap w1 hsec1 hgr hg
          have RR := sec_round HR.out (newSec_neg_nil HX.out HQ.out) hsec1 hgr hg HA.out (by simp)
          clear hsec hsec1 hgr hg HR HX ck HA HQ 
          go_wp2
          go_roundw
          case rel => exact ⟨k + 1, by omega, by go_num, RR⟩
          case measure => simp [intOf]; omega
    · obtain ⟨p, rfl⟩ := Int.eq_ofNat_of_zero_le (show 0 ≤ h by omega)
      have hpl : p < ln := by omega
      obtain ⟨lb, lo, rfl, lg, lbl, lc⟩ := HL.out.pos (by omega)
      obtain ⟨d0, d1, d2, d3⟩ := lc p hpl
      have c0 := fun ob => (kd lb (lo + p * 4) lbl lg ob).trans d0
      have c1 := fun ob => (kd lb (lo + p * 4 + 1) lbl lg ob).trans d1
      have c2 := fun ob => (kd lb (lo + p * 4 + 2) lbl lg ob).trans d2
      have c3 := fun ob => (kd lb (lo + p * 4 + 3) lbl lg ob).trans d3
      clear d0 d1 d2 d3 kd
      by_cases hrun : p + 1 < q
      · have hrun' : (p : Int) + 1 < (q : Int) := by omega
        have HA : Hid (AsgSlN w g0 (some ⟨lb, lo + (p + 1) * 4, none⟩) (q - (p + 1)) (fun j => L (p + 1 + j))) := part_of lg lc (by omega)
        clear lc
        by_cases hlast : k + 1 < hn
        · have hlast' : (k : Int) + 1 < (hn : Int) := by omega
          have ck1' := ck1 hlast
          clear ck1
          go_wp2_with (at_builtin; refine wpList_append_sec _ rfl (.tmp 48) (.tmp 50) rfl w.heap.size g0 u2 (m + k) xs rfl ((hsec.alloc _).alloc _) (Nat.le_trans hsz (size_alloc2 _ _ _)) ⟨wr.heap.size + 1, 0, none⟩ 1 [.string (L p).k, .string (L p).v, .int .i64 (L p).l, .int .i64 (L p).c, .slice (some ⟨lb, lo + (p + 1) * 4, none⟩) (q - (p + 1)) (q - (p + 1))] rfl rfl (new_cells2 _ _ _ _) (one_cells _ _ _ _ _ _ _) (by omega) ?_)
          intro g cap w1 hsec1 hgr hg
          have RR := sec_round HR.out (newSec_pos_run HX.out HQ.out hrun) hsec1 hgr hg HA.out (by simp)
          clear hsec hsec1 hgr hg HR HX ck HA HQ c0 c1 c2 c3
          go_wp2
          go_roundw
          case rel => exact ⟨k + 1, by omega, by go_num, RR⟩
          case measure => simp [intOf]; omega
        · have hlast' : ¬ (k : Int) + 1 < (hn : Int) := by omega
          obtain rfl : q = ln := HLast.out hlast
          clear ck1
          go_wp2_with (at_builtin; refine wpList_append_sec _ rfl (.tmp 48) (.tmp 50) rfl w.heap.size g0 u2 (m + k) xs rfl ((hsec.alloc _).alloc _) (Nat.le_trans hsz (size_alloc2 _ _ _)) ⟨wr.heap.size + 1, 0, none⟩ 1 [.string (L p).k, .string (L p).v, .int .i64 (L p).l, .int .i64 (L p).c, .slice (some ⟨lb, lo + (p + 1) * 4, none⟩) (q - (p + 1)) (q - (p + 1))] rfl rfl (new_cells2 _ _ _ _) (one_cells _ _ _ _ _ _ _) (by omega) ?_)
          intro g cap w1 hsec1 hgr hg
          have RR := sec_round HR.out (newSec_pos_run HX.out HQ.out hrun) hsec1 hgr hg HA.out (by simp)
          clear hsec hsec1 hgr hg HR HX ck HA HQ c0 c1 c2 c3
          go_wp2
          go_roundw
          case rel => exact ⟨k + 1, by omega, by go_num, RR⟩
          case measure => simp [intOf]; omega
      · obtain rfl : q = p + 1 := by omega
        have HA : Hid (AsgSlN w g0 none 0 (fun j => L (p + 1 + j))) := .inl rfl
        clear lc
        by_cases hlast : k + 1 < hn
        · have hlast' : (k : Int) + 1 < (hn : Int) := by omega
          have ck1' := ck1 hlast
          clear ck1
          go_wp2_with (at_builtin; refine wpList_append_sec _ rfl (.tmp 48) (.tmp 50) rfl w.heap.size g0 u2 (m + k) xs rfl ((hsec.alloc _).alloc _) (Nat.le_trans hsz (size_alloc2 _ _ _)) ⟨wr.heap.size + 1, 0, none⟩ 1 [.string (L p).k, .string (L p).v, .int .i64 (L p).l, .int .i64 (L p).c, .slice none 0 0] rfl rfl (new_cells2 _ _ _ _) (one_cells _ _ _ _ _ _ _) (by omega) ?_)
          intro g cap w1 hsec1 hgr hg
          have RR := sec_round HR.out (newSec_pos_nil HX.out HQ.out rfl) hsec1 hgr hg HA.out (by simp)
          clear hsec hsec1 hgr hg HR HX ck HA HQ c0 c1 c2 c3
          go_wp2
          go_roundw
          case rel => exact ⟨k + 1, by omega, by go_num, RR⟩
          case measure => simp [intOf]; omega
        · have hlast' : ¬ (k : Int) + 1 < (hn : Int) := by omega
          have hz := HLast.out hlast
          obtain rfl : ln = p + 1 := by omega
          clear ck1
          go_wp2_with (at_builtin; refine wpList_append_sec _ rfl (.tmp 48) (.tmp 50) rfl w.heap.size g0 u2 (m + k) xs rfl ((hsec.alloc _).alloc _) (Nat.le_trans hsz (size_alloc2 _ _ _)) ⟨wr.heap.size + 1, 0, none⟩ 1 [.string (L p).k, .string (L p).v, .int .i64 (L p).l, .int .i64 (L p).c, .slice none 0 0] rfl rfl (new_cells2 _ _ _ _) (one_cells _ _ _ _ _ _ _) (by omega) ?_)
          intro g cap w1 hsec1 hgr hg
          have RR := sec_round HR.out (newSec_pos_nil HX.out HQ.out rfl) hsec1 hgr hg HA.out (by simp)
          clear hsec hsec1 hgr hg HR HX ck HA HQ c0 c1 c2 c3
          go_wp2
          go_roundw
          case rel => exact ⟨k + 1, by omega, by go_num, RR⟩
          case measure => simp [intOf]; omega

set_option maxHeartbeats 400000 in
theorem zsections_any (la : Option Addr) (ln : Nat) (L : Nat → Asg) (ha : Option Addr) (hn hcap : Nat) (H : Nat → Int) (v0 : Value) (m : Nat) (xs0 : List Value) (S : Nat → Sec) (g0 : Nat) (w : World)
    (bl : ln ≤ 1048576) (bh : hn ≤ 131072) (bm : m ≤ 524288) (hL : AsgSlN w g0 la ln L) (hH : IntSlN w g0 ha hn H) (hV : ValidH hn ln H)
    (hS : Secs w w.heap.size g0 v0 m xs0) (hT : SecsAre w (v0.ownBlock.getD g0) xs0 m S) :
    Calls Try.prog 13 #[.slice la ln ln, .slice ha hn hcap, v0] w fun e w' => ∃ v xs, e = .returned v ∧ KeptBut w w' g0 ∧ Secs w' w.heap.size g0 v (m + hn) xs ∧ SecsAre w' (v.ownBlock.getD g0) xs (m + hn) (allSec m S hn ln L H) := by
  have C := sections_any la ln L ha hn hcap H v0 m xs0 S g0 w bl bh bm hL hH hV hS hT
  clear hL hH hV hS hT
  go_enter Try.func13, Try.ntmps13
  go_wp2_with (go_at_call 26; refine C.mono ?_; rintro e w' ⟨v, xs, rfl, h1, h2, h3⟩)
  go_ret
  exact ⟨v, xs, rfl, h1, h2, h3⟩
end Go.Proofs.Qxb6619209a
