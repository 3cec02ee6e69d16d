/- FnSections..: zzB1SameAsg (17), zzB1SameSection (16). -/
import Derived.Test.Qxb6619209aSecToSec
import Derived.Deep.RegionHeld3
namespace Go.Proofs.Qxb6619209a
open Go.RowKit

set_option maxHeartbeats 800000 in
theorem sameAsg_yes (k v : ByteArray) (l c : Int) (w : World) :
    Calls Try.prog 17 #[.agg #[.string k, .string v, .int .i64 l, .int .i64 c], .agg #[.string k, .string v, .int .i64 l, .int .i64 c]] w fun e w' => e = .returned (.bool true) ∧ Below w.heap.size w w' := by
  go_enter Try.func17, Try.ntmps17
  go_wp2
  go_ret
  exact ⟨rfl, ((Below.refl _ _).alloc (Nat.le_refl _) _).alloc (by simp) _⟩

theorem box1 (w : World) (xs ys : Array Value) (t t' : TypeId) (j : Nat) : ((w.alloc (.cells xs t)).alloc (.cells ys t')).cell? ⟨w.heap.size, j, none⟩ = xs[j]? := by
  rw [World.cell?_alloc_lt _ _ _ (by simp)]
  simp
theorem box2 (w : World) (xs ys : Array Value) (t t' : TypeId) (j : Nat) : ((w.alloc (.cells xs t)).alloc (.cells ys t')).cell? ⟨w.heap.size + 1, j, none⟩ = ys[j]? := by
  have e : w.heap.size + 1 = (w.alloc (.cells xs t)).heap.size := by simp
  rw [e]
  simp
theorem below_box2 (w : World) (o o' : Obj) : Below w.heap.size w ((w.alloc o).alloc o') := ((Below.refl _ _).alloc (Nat.le_refl _) _).alloc (by simp) _

/-- What 'sameSection' keeps of the world in its loop: its two boxes' slices, and all that was there. -/
structure Boxed (w wr : World) (a : Option Addr) (n cap : Nat) (a' : Option Addr) (n' cap' : Nat) : Prop where
  b : Below w.heap.size w wr
  sz : w.heap.size + 2 ≤ wr.heap.size
  x : wr.cell? ⟨w.heap.size, 4, none⟩ = some (.slice a n cap)
  y : wr.cell? ⟨w.heap.size + 1, 4, none⟩ = some (.slice a' n' cap')
theorem Boxed.later {w wr w1 : World} {a : Option Addr} {n cap : Nat} {a' : Option Addr} {n' cap' : Nat} (h : Boxed w wr a n cap a' n' cap') (hb : Below wr.heap.size wr w1) : Boxed w w1 a n cap a' n' cap' :=
  ⟨h.b.trans (hb.mono h.b.size), Nat.le_trans h.sz hb.size, (hb.cell (p := ⟨w.heap.size, 4, none⟩) (by have := h.sz; simp; omega)).trans h.x, (hb.cell (p := ⟨w.heap.size + 1, 4, none⟩) (by have := h.sz; simp; omega)).trans h.y⟩
theorem boxed_new (w : World) {k v : ByteArray} {l c : Int} {k' v' : ByteArray} {l' c' : Int} {a : Option Addr} {n cap : Nat} {a' : Option Addr} {n' cap' : Nat} {t t' : TypeId} :
    Boxed w ((w.alloc (.cells #[.string k, .string v, .int .i64 l, .int .i64 c, .slice a n cap] t)).alloc (.cells #[.string k', .string v', .int .i64 l', .int .i64 c', .slice a' n' cap'] t')) a n cap a' n' cap' :=
  ⟨below_box2 _ _ _, by simp, by rw [box1]; rfl, by rw [box2]; rfl⟩

theorem sameSec_nil (h : Asg) (cap cap' : Nat) (w : World) :
    Calls Try.prog 16 #[.agg #[.string h.k, .string h.v, .int .i64 h.l, .int .i64 h.c, .slice none 0 cap], .agg #[.string h.k, .string h.v, .int .i64 h.l, .int .i64 h.c, .slice none 0 cap']] w fun e w' => e = .returned (.bool true) ∧ Below w.heap.size w w' := by
  have qe : ∀ (W : World) (a : Option Addr) (n c n' c' : Nat), (binOp .eql 35 (.slice a n c) (.slice none n' c')).run Try.prog W = .ok (.bool a.isNone) W := fun W a n c n' c' => Lib.run_eql_slice_nil W _ _ a n c n' c' Try.underlying35
  have qe' : ∀ (W : World) (a : Option Addr) (n c n' c' : Nat), (binOp .eql 28 (.slice a n c) (.slice none n' c')).run Try.prog W = .ok (.bool a.isNone) W := fun W a n c n' c' => Lib.run_eql_slice_nil W _ _ a n c n' c' Try.underlying28
  go_enter Try.func16, Try.ntmps16
  go_wp2_with fail
  refine (sameAsg_yes _ _ _ _ _).mono ?_
  rintro e w1 ⟨rfl, hb1⟩
  have hbx : Boxed w w1 none 0 cap none 0 cap' := (boxed_new w).later hb1
  clear hb1
  obtain ⟨hb, _, x, y⟩ := hbx
  go_wp2
  refine wp_loop_rounds 1 ?_
  rw [rounds_succ]
  go_wp2
  go_ret
  exact ⟨rfl, hb⟩

set_option maxHeartbeats 1600000 in
theorem sameSec_some (h : Asg) (p : Addr) (n cap : Nat) (p' : Addr) (cap' : Nat) (L : Nat → Asg) (w : World) (bn : n ≤ 1048576) (hs : AsgSl w (some p) n L) (hs' : AsgSl w (some p') n L) :
    Calls Try.prog 16 #[.agg #[.string h.k, .string h.v, .int .i64 h.l, .int .i64 h.c, .slice (some p) n cap], .agg #[.string h.k, .string h.v, .int .i64 h.l, .int .i64 h.c, .slice (some p') n cap']] w fun e w' => e = .returned (.bool true) ∧ Below w.heap.size w w' := by
  have qe : ∀ (W : World) (a : Option Addr) (n c n' c' : Nat), (binOp .eql 35 (.slice a n c) (.slice none n' c')).run Try.prog W = .ok (.bool a.isNone) W := fun W a n c n' c' => Lib.run_eql_slice_nil W _ _ a n c n' c' Try.underlying35
  have qe' : ∀ (W : World) (a : Option Addr) (n c n' c' : Nat), (binOp .eql 28 (.slice a n c) (.slice none n' c')).run Try.prog W = .ok (.bool a.isNone) W := fun W a n c n' c' => Lib.run_eql_slice_nil W _ _ a n c n' c' Try.underlying28
  have HS : Hid (AsgSl w (some p) n L ∧ AsgSl w (some p') n L) := ⟨hs, hs'⟩
  clear hs hs'
  go_enter Try.func16, Try.ntmps16
  go_wp2_with fail
  refine (sameAsg_yes _ _ _ _ _).mono ?_
  rintro e w1 ⟨rfl, hb1⟩
  have hbx : Boxed w w1 (some p) n cap (some p') n cap' := (boxed_new w).later hb1
  clear hb1
  have HB : Hid (Boxed w w1 (some p) n cap (some p') n cap') := hbx
  obtain ⟨_, _, x, y⟩ := hbx
  go_wp2
  clear x y qe qe'
  go_loopw [5] (fun i wr => ∃ k : Nat, k ≤ n ∧ i = .int .i64 k ∧ Boxed w wr (some p) n cap (some p') n cap') (fun i _ => n - (intOf i).toNat)
  case atStart => exact ⟨0, Nat.zero_le _, rfl, HB.out⟩
  case round =>
    clear HB
    obtain ⟨k, hk, rfl, hbx⟩ := hrel
    have HB : Hid (Boxed w wr (some p) n cap (some p') n cap') := hbx
    obtain ⟨hb, _, x, y⟩ := hbx
    by_cases hlt : k < n
    · obtain ⟨b, off, hx, hc⟩ := HS.out.1.pos (by omega)
      obtain ⟨b', off', hx', hc'⟩ := HS.out.2.pos (by omega)
      obtain rfl : p = ⟨b, off, none⟩ := by simpa using hx
      obtain rfl : p' = ⟨b', off', none⟩ := by simpa using hx'
      obtain ⟨c0, c1, c2, c3⟩ := (hc k hlt).below hb (hc k hlt).lt
      obtain ⟨d0, d1, d2, d3⟩ := (hc' k hlt).below hb (hc' k hlt).lt
      have hltk : (k : Int) < (n : Int) := by omega
      have l1 : b < wr.heap.size := World.block_lt_of_cell? wr _ c0
      have l2 : b' < wr.heap.size := World.block_lt_of_cell? wr _ d0
      have l3 : w.heap.size < wr.heap.size := World.block_lt_of_cell? wr _ x
      have l4 : w.heap.size + 1 < wr.heap.size := World.block_lt_of_cell? wr _ y
      clear hc hc' hx hx' HS hb
      go_wp2
      go_region_held3 (fun W => W.cell? ⟨w.heap.size, 4, none⟩ = some (.slice (some ⟨b, off, none⟩) n cap) ∧ W.cell? ⟨w.heap.size + 1, 4, none⟩ = some (.slice (some ⟨b', off', none⟩) n cap') ∧ W.cell? ⟨b, off + k * 4, none⟩ = some (.string (L k).k) ∧ W.cell? ⟨b, off + k * 4 + 1, none⟩ = some (.string (L k).v) ∧ W.cell? ⟨b, off + k * 4 + 2, none⟩ = some (.int .i64 (L k).l) ∧ W.cell? ⟨b, off + k * 4 + 3, none⟩ = some (.int .i64 (L k).c) ∧ W.cell? ⟨b', off' + k * 4, none⟩ = some (.string (L k).k) ∧ W.cell? ⟨b', off' + k * 4 + 1, none⟩ = some (.string (L k).v) ∧ W.cell? ⟨b', off' + k * 4 + 2, none⟩ = some (.int .i64 (L k).l) ∧ W.cell? ⟨b', off' + k * 4 + 3, none⟩ = some (.int .i64 (L k).c)) (simp [*]) (first | (go_at_call 17; refine (sameAsg_yes _ _ _ _ _).mono ?_; rintro e w2 ⟨rfl, hb2⟩; have hb2' : Below wr.heap.size wr w2 := below_undrew hb2; clear hb2; have hk2 : ∀ b o, b < wr.heap.size → w2.cell? ⟨b, o, none⟩ = wr.cell? ⟨b, o, none⟩ := fun b o h => hb2'.cell (p := ⟨b, o, none⟩) h))
      have HB2 : Hid (Boxed w w2 (some ⟨b, off, none⟩) n cap (some ⟨b', off', none⟩) n cap') := HB.out.later hb2'
      clear HB hb2' hk2 x y c0 c1 c2 c3 d0 d1 d2 d3 l1 l2 l3 l4
      go_wp2
      go_roundw
      case rel => exact ⟨k + 1, by omega, by go_num, HB2.out⟩
      case measure => simp [intOf]; omega
    · go_wp2
      go_ret
      exact ⟨rfl, hb⟩

theorem sameSec_any (h : Asg) (a : Option Addr) (n cap : Nat) (a' : Option Addr) (cap' : Nat) (L : Nat → Asg) (w : World) (bn : n ≤ 1048576) (hnil : a = none ↔ a' = none) (hz : a' = none → n = 0) (hs : AsgSl w a n L) (hs' : AsgSl w a' n L) :
    Calls Try.prog 16 #[.agg #[.string h.k, .string h.v, .int .i64 h.l, .int .i64 h.c, .slice a n cap], .agg #[.string h.k, .string h.v, .int .i64 h.l, .int .i64 h.c, .slice a' n cap']] w fun e w' => e = .returned (.bool true) ∧ Below w.heap.size w w' := by
  cases a with
  | none =>
    obtain rfl := hnil.1 rfl
    obtain rfl := hz rfl
    exact sameSec_nil h cap cap' w
  | some p =>
    cases a' with
    | none => exact absurd (hnil.2 rfl) (by simp)
    | some p' => exact sameSec_some h p n cap p' cap' L w bn hs hs'
end Go.Proofs.Qxb6619209a
