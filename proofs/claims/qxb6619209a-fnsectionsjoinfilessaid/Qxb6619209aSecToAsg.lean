/- FnSections..: zzB1ToAssignment (20), zzB1ToAssignments (14). -/
import Derived.Test.Qxb6619209aSecHeads
import Derived.Laws.Pointers
import Derived.RowKit3
import Derived.Deep.OwnRows
namespace Go.Proofs.Qxb6619209a
open Go.RowKit

def Asg.val (a : Asg) : Value := .agg #[.string a.k, .string a.v, .int .i64 a.l, .int .i64 a.c]

set_option maxHeartbeats 400000 in
theorem toAsg_any (k v : ByteArray) (l c : Int) (w : World) :
    Calls Try.prog 20 #[.agg #[.string k, .string v, .int .i64 l, .int .i64 c]] w fun e w' => e = .returned (.agg #[.string k, .string v, .int .i64 l, .int .i64 c]) ∧ Below w.heap.size w w' := by
  go_enter Try.func20, Try.ntmps20
  go_wp2
  simp [bodyPost, results, Try.results20, go_sem]
  exact ((Below.refl _ _).alloc (Nat.le_refl _) _).alloc (by simp) _

theorem Try.info40 : (Try.prog.info? 40).map (fun i => (i.zero, i.size, i.bytes)) = some (some (.agg #[.string ByteArray.empty, .string ByteArray.empty, .int .i64 0, .int .i64 0]), 4, 48) := by kernel_rfl

theorem toAsgs_nil (n cap : Nat) (w : World) :
    Calls Try.prog 14 #[.slice none n cap] w fun e w' => e = .returned (.slice none 0 0) ∧ w = w' := by
  have qe : ∀ (W : World) (a : Option Addr) (n c n' c' : Nat), (binOp .eql 28 (.slice a n c) (.slice none n' c')).run Try.prog W = .ok (.bool a.isNone) W := fun W a n c n' c' => Lib.run_eql_slice_nil W _ _ a n c n' c' Try.underlying28
  go_enter Try.func14, Try.ntmps14
  go_wp2
  go_ret
  exact ⟨rfl, rfl⟩

def acells (a : Asg) : List Value := [.string a.k, .string a.v, .int .i64 a.l, .int .i64 a.c]
def zeroA : Asg := ⟨ByteArray.empty, ByteArray.empty, 0, 0⟩

theorem rowIs_of_owns {w : World} {base e size g n cap : Nat} {xs : List Value} (h : w.ownsRow base e size (.slice (some ⟨g, 0, none⟩) n cap) n xs) : ∃ f, w.rowIs g e (cap * size) f := by
  rcases h.2 with ⟨h', _⟩ | ⟨g', cap', cur, h', _, hg, _, _, hsz, _⟩
  · simp at h'
  · simp at h'
    obtain ⟨rfl, rfl⟩ := h'
    refine ⟨fun i => cur[i]?.getD (.bool false), cur, hg, hsz, fun i hi => ?_⟩
    have e := Array.getElem?_eq_getElem (xs := cur) (i := i) (by omega)
    simp [e]
theorem rowIs_below {w w' : World} {B b e n : Nat} {f : Nat → Value} (h : w.rowIs b e n f) (hb : Below B w w') (hB : b < B) : w'.rowIs b e n f := h.of_block (hb.block b hB)

/-- The first k elements of a row of assignments (four cells each) are as L says. -/
def AsgsIn (f : Nat → Value) (k : Nat) (L : Nat → Asg) : Prop := ∀ i, i < k → f (i * 4) = .string (L i).k ∧ f (i * 4 + 1) = .string (L i).v ∧ f (i * 4 + 2) = .int .i64 (L i).l ∧ f (i * 4 + 3) = .int .i64 (L i).c

theorem asgs_store {w : World} {g e m k : Nat} {f : Nat → Value} {L : Nat → Asg} (h : w.rowIs g e m f) (hin : AsgsIn f k L) :
    ∃ f', ((((w.setCell ⟨g, k * 4, none⟩ (.string (L k).k)).setCell ⟨g, k * 4 + 1, none⟩ (.string (L k).v)).setCell ⟨g, k * 4 + 2, none⟩ (.int .i64 (L k).l)).setCell ⟨g, k * 4 + 3, none⟩ (.int .i64 (L k).c)).rowIs g e m f' ∧ AsgsIn f' (k + 1) L := by
  refine ⟨_, (((h.set _ _).set _ _).set _ _).set _ _, fun i hi => ?_⟩
  by_cases e : i = k
  · subst e
    refine ⟨?_, ?_, ?_, ?_⟩
    · rw [if_neg (by omega), if_neg (by omega), if_neg (by omega), if_pos rfl]
    · rw [if_neg (by omega), if_neg (by omega), if_pos rfl]
    · rw [if_neg (by omega), if_pos rfl]
    · rw [if_pos rfl]
  · obtain ⟨a0, a1, a2, a3⟩ := hin i (by omega)
    refine ⟨?_, ?_, ?_, ?_⟩ <;> rw [if_neg (by omega), if_neg (by omega), if_neg (by omega), if_neg (by omega)] <;> assumption

set_option maxHeartbeats 800000 in
theorem toAsgs_some (x : Addr) (n cap : Nat) (L : Nat → Asg) (w : World) (hn : n ≤ 1048576) (hs : AsgSl w (some x) n L) :
    Calls Try.prog 14 #[.slice (some x) n cap] w fun e w' => e = .returned (.slice (some ⟨w.heap.size, 0, none⟩) n n) ∧ Below w.heap.size w w' ∧ ∃ f, w'.rowIs w.heap.size 40 (n * 4) f ∧ AsgsIn f n L := by
  have qe : ∀ (W : World) (a : Option Addr) (n c n' c' : Nat), (binOp .eql 28 (.slice a n c) (.slice none n' c')).run Try.prog W = .ok (.bool a.isNone) W := fun W a n c n' c' => Lib.run_eql_slice_nil W _ _ a n c n' c' Try.underlying28
  have HS : Hid (AsgSl w (some x) n L) := hs
  clear hs
  obtain ⟨i0, hi, hz0, hz1, hz2⟩ := info_parts Try.info40
  go_enter Try.func14, Try.ntmps14
  go_wp2_with (at_make; refine wpList_make_full _ rfl _ _ 35 rfl w.heap.size 40 i0 (.agg #[.string ByteArray.empty, .string ByteArray.empty, .int .i64 0, .int .i64 0]) 4 Try.underlying35 hi hz0 hz1 _ _ _ _ n rfl rfl rfl rfl ?b2 ?b3 (Nat.le_refl _) ?_)
  case b2 => first | omega | (rw [hz2]; omega)
  case b3 => unfold maxLen; omega
  intro w0 hown hgrow
  have hb0 : Below w.heap.size w w0 := (Below.refl _ _).grown hgrow (Nat.le_refl _) (fun k h => by cases h)
  obtain ⟨f0, hf0⟩ := rowIs_of_owns hown
  clear hown hgrow qe hi hz0 hz1 hz2
  go_wp2
  go_loopw [4] (fun i wr => ∃ k : Nat, k ≤ n ∧ i = .int .i64 k ∧ Below w.heap.size w wr ∧ ∃ f, wr.rowIs w.heap.size 40 (n * 4) f ∧ AsgsIn f k L) (fun i _ => n - (intOf i).toNat)
  case atStart => exact ⟨0, Nat.zero_le _, rfl, hb0, f0, hf0, fun i hi => by omega⟩
  case round =>
    clear hb0 hf0
    obtain ⟨k, hk, rfl, hb, f, hf, hin⟩ := hrel
    have HIN : Hid (AsgsIn f k L) := hin
    clear hin
    by_cases hlt : k < n
    · obtain ⟨b, off, hx, hc⟩ := HS.out.pos (by omega)
      obtain rfl : x = ⟨b, off, none⟩ := by simpa using hx
      obtain ⟨d0, d1, d2, d3⟩ := hc k hlt
      have hbl : b < w.heap.size := World.block_lt_of_cell? w _ d0
      clear hc hx HS
      have c0 := (hb.cell (p := ⟨b, off + k * 4, none⟩) hbl).trans d0
      have c1 := (hb.cell (p := ⟨b, off + k * 4 + 1, none⟩) hbl).trans d1
      have c2 := (hb.cell (p := ⟨b, off + k * 4 + 2, none⟩) hbl).trans d2
      have c3 := (hb.cell (p := ⟨b, off + k * 4 + 3, none⟩) hbl).trans d3
      clear d0 d1 d2 d3
      go_wp2_with fail
      refine (toAsg_any _ _ _ _ _).mono ?_
      rintro e w1 ⟨rfl, hb1⟩
      have hlt1 : w.heap.size < wr.heap.size := hf.lt
      have hf1 : w1.rowIs w.heap.size 40 (n * 4) f := rowIs_below hf hb1 hlt1
      have e0 := hf1.cell (i := k * 4) (by omega)
      have e1 := hf1.cell (i := k * 4 + 1) (by omega)
      have e2 := hf1.cell (i := k * 4 + 2) (by omega)
      have e3 := hf1.cell (i := k * 4 + 3) (by omega)
      have z0 := hf1.frozen (k * 4)
      have z1 := hf1.frozen (k * 4 + 1)
      have z2 := hf1.frozen (k * 4 + 2)
      have z3 := hf1.frozen (k * 4 + 3)
      have hbw : Below w.heap.size w w1 := hb.trans (hb1.mono hb.size)
      clear hb hb1 c0 c1 c2 c3 hf
      go_wp2
      go_roundw
      case rel => exact ⟨k + 1, by omega, by go_num, (((hbw.setCell (Nat.le_refl _) _).setCell (Nat.le_refl _) _).setCell (Nat.le_refl _) _).setCell (Nat.le_refl _) _, asgs_store hf1 HIN.out⟩
      case measure => simp [intOf]; omega
    · obtain rfl : k = n := by omega
      go_wp2
      go_ret
      exact ⟨rfl, hb, f, hf, HIN.out⟩
theorem asgSl_of_row {w : World} {g e m n : Nat} {f : Nat → Value} {L : Nat → Asg} (h : w.rowIs g e m f) (hm : n * 4 ≤ m) (hin : AsgsIn f n L) : AsgSl w (some ⟨g, 0, none⟩) n L := by
  refine .inr ⟨g, 0, rfl, fun i hi => ?_⟩
  obtain ⟨a0, a1, a2, a3⟩ := hin i hi
  rw [Nat.zero_add]
  exact ⟨by rw [h.cell (by omega), a0], by rw [h.cell (by omega), a1], by rw [h.cell (by omega), a2], by rw [h.cell (by omega), a3]⟩

theorem AsgAt.below {w w' : World} {B b o : Nat} {a : Asg} (h : AsgAt w b o a) (hb : Below B w w') (hB : b < B) : AsgAt w' b o a :=
  ⟨(hb.cell (p := ⟨b, o, none⟩) hB).trans h.c0, (hb.cell (p := ⟨b, o + 1, none⟩) hB).trans h.c1, (hb.cell (p := ⟨b, o + 2, none⟩) hB).trans h.c2, (hb.cell (p := ⟨b, o + 3, none⟩) hB).trans h.c3⟩
theorem AsgAt.lt {w : World} {b o : Nat} {a : Asg} (h : AsgAt w b o a) : b < w.heap.size := World.block_lt_of_cell? w _ h.c0
/-- What lay there still lies there behind a call that writes nothing old. -/
theorem AsgSl.later {w w' : World} {a : Option Addr} {n : Nat} {L : Nat → Asg} (h : AsgSl w a n L) (hb : Below w.heap.size w w') : AsgSl w' a n L := by
  rcases h with h | ⟨b, off, rfl, hc⟩
  · exact .inl h
  · exact .inr ⟨b, off, rfl, fun i hi => (hc i hi).below hb (hc i hi).lt⟩

/-- zzB1ToAssignments, nil or not: the copy reads as the original; it is nil just where that is. -/
theorem toAsgs_any (a : Option Addr) (n cap : Nat) (L : Nat → Asg) (w : World) (hn : n ≤ 1048576) (hnil : a = none → n = 0) (hs : AsgSl w a n L) :
    Calls Try.prog 14 #[.slice a n cap] w fun e w' => ∃ a', e = .returned (.slice a' n n) ∧ Below w.heap.size w w' ∧ AsgSl w' a' n L ∧ (a' = none ↔ a = none) ∧ ∀ x, a' = some x → x = ⟨w.heap.size, 0, none⟩ ∧ w.heap.size < w'.heap.size := by
  cases a with
  | none =>
    obtain rfl := hnil rfl
    refine (toAsgs_nil 0 cap w).mono ?_
    rintro e w' ⟨rfl, rfl⟩
    exact ⟨none, rfl, Below.refl _ _, .inl rfl, by simp, fun x h => by cases h⟩
  | some x =>
    refine (toAsgs_some x n cap L w hn hs).mono ?_
    rintro e w' ⟨rfl, hb, f, hf, hin⟩
    exact ⟨_, rfl, hb, asgSl_of_row hf (Nat.le_refl _) hin, by simp, fun x h => ⟨by simpa using h.symm, hf.lt⟩⟩
end Go.Proofs.Qxb6619209a
