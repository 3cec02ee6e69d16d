/- FnSections..: zzB1ToSections (15). -/
import Derived.Test.Qxb6619209aSecToAsg
import Derived.Deep.RegionHeld3
namespace Go.Proofs.Qxb6619209a
open Go.RowKit

theorem Try.info42 : (Try.prog.info? 42).map (fun i => (i.zero, i.size, i.bytes)) = some (some (.agg #[.string ByteArray.empty, .string ByteArray.empty, .int .i64 0, .int .i64 0, .slice none 0 0]), 5, 72) := by kernel_rfl

/-- A slice of assignments that does not lie in block g. -/
def AsgSlN (w : World) (g : Nat) (a : Option Addr) (n : Nat) (L : Nat → Asg) : Prop :=
  n = 0 ∨ ∃ b off, a = some ⟨b, off, none⟩ ∧ b ≠ g ∧ ∀ i, i < n → AsgAt w b (off + i * 4) (L i)

/-- Five cells of a row of sections: the header's four, and a copy of the assignments. -/
def SecIn (w : World) (g : Nat) (f : Nat → Value) (o : Nat) (s : Sec) : Prop :=
  f o = .string s.h.k ∧ f (o + 1) = .string s.h.v ∧ f (o + 2) = .int .i64 s.h.l ∧ f (o + 3) = .int .i64 s.h.c ∧
    ∃ a', f (o + 4) = .slice a' s.n s.n ∧ AsgSlN w g a' s.n s.L ∧ (a' = none ↔ s.a = none)
def SecsIn (w : World) (g : Nat) (f : Nat → Value) (k : Nat) (S : Nat → Sec) : Prop := ∀ i, i < k → SecIn w g f (i * 5) (S i)

/-- No block of w but g has turned. -/
structure KeptBut (w w' : World) (g : Nat) : Prop where
  os : w'.os = w.os
  tape : w'.tape = w.tape
  output : w'.output = w.output
  size : w.heap.size ≤ w'.heap.size
  block : ∀ b, b < w.heap.size → b ≠ g → w'.heap[b]? = w.heap[b]?
theorem KeptBut.refl (w : World) (g : Nat) : KeptBut w w g := ⟨rfl, rfl, rfl, Nat.le_refl _, fun _ _ _ => rfl⟩
theorem KeptBut.of_below {w w' : World} (g : Nat) (h : Below w.heap.size w w') : KeptBut w w' g := ⟨h.os, h.tape, h.output, h.size, fun b hb _ => h.block b hb⟩
theorem KeptBut.trans {a b c : World} {g : Nat} (h : KeptBut a b g) (k : KeptBut b c g) : KeptBut a c g :=
  ⟨k.os.trans h.os, k.tape.trans h.tape, k.output.trans h.output, Nat.le_trans h.size k.size, fun x hx hg => (k.block x (Nat.lt_of_lt_of_le hx h.size) hg).trans (h.block x hx hg)⟩
theorem KeptBut.setCell {w w' : World} {g : Nat} (h : KeptBut w w' g) (o : Nat) (v : Value) : KeptBut w (w'.setCell ⟨g, o, none⟩ v) g :=
  h.trans ⟨rfl, rfl, rfl, by simp [World.setCell], fun b _ hg => Below.heap_setCell _ _ _ _ (by simpa using hg)⟩
/-- Blocks below B, and g not below B: nothing below B has turned. -/
theorem KeptBut.below {w w' : World} {g B : Nat} (h : KeptBut w w' g) (hB : B ≤ w.heap.size) (hg : B ≤ g) : Below B w w' := ⟨h.os, h.tape, h.output, h.size, fun k hk => h.block k (by omega) (by omega)⟩

theorem AsgAt.of_block {w w' : World} {b o : Nat} {a : Asg} (h : AsgAt w b o a) (e : w'.heap[b]? = w.heap[b]?) : AsgAt w' b o a :=
  ⟨(World.cell?_of_block (w := w) (w' := w') (a := ⟨b, o, none⟩) e).trans h.c0, (World.cell?_of_block (w := w) (w' := w') (a := ⟨b, o + 1, none⟩) e).trans h.c1, (World.cell?_of_block (w := w) (w' := w') (a := ⟨b, o + 2, none⟩) e).trans h.c2, (World.cell?_of_block (w := w) (w' := w') (a := ⟨b, o + 3, none⟩) e).trans h.c3⟩
theorem AsgSlN.kept {w w' : World} {g : Nat} {a : Option Addr} {n : Nat} {L : Nat → Asg} (h : AsgSlN w g a n L) (hk : KeptBut w w' g) : AsgSlN w' g a n L := by
  rcases h with h | ⟨b, off, rfl, hg, hc⟩
  · exact .inl h
  · exact .inr ⟨b, off, rfl, hg, fun i hi => (hc i hi).of_block (hk.block b (hc i hi).lt hg)⟩
theorem AsgSlN.plain {w : World} {g : Nat} {a : Option Addr} {n : Nat} {L : Nat → Asg} (h : AsgSlN w g a n L) : AsgSl w a n L := by
  rcases h with h | ⟨b, off, rfl, _, hc⟩
  · exact .inl h
  · exact .inr ⟨b, off, rfl, hc⟩

theorem secs_store {wr w2 : World} {g e m k : Nat} {f : Nat → Value} {S : Nat → Sec} {a' : Option Addr} (hk : KeptBut wr w2 g) (h : w2.rowIs g e m f) (hin : SecsIn wr g f k S)
    (hr : AsgSlN w2 g a' (S k).n (S k).L) (hn : a' = none ↔ (S k).a = none) :
    ∃ f', (((((w2.setCell ⟨g, k * 5, none⟩ (.string (S k).h.k)).setCell ⟨g, k * 5 + 1, none⟩ (.string (S k).h.v)).setCell ⟨g, k * 5 + 2, none⟩ (.int .i64 (S k).h.l)).setCell ⟨g, k * 5 + 3, none⟩ (.int .i64 (S k).h.c)).setCell ⟨g, k * 5 + 4, none⟩ (.slice a' (S k).n (S k).n)).rowIs g e m f' ∧
      SecsIn (((((w2.setCell ⟨g, k * 5, none⟩ (.string (S k).h.k)).setCell ⟨g, k * 5 + 1, none⟩ (.string (S k).h.v)).setCell ⟨g, k * 5 + 2, none⟩ (.int .i64 (S k).h.l)).setCell ⟨g, k * 5 + 3, none⟩ (.int .i64 (S k).h.c)).setCell ⟨g, k * 5 + 4, none⟩ (.slice a' (S k).n (S k).n)) g f' (k + 1) S := by
  have hk2 := (((((KeptBut.refl w2 g).setCell (k * 5) (.string (S k).h.k)).setCell (k * 5 + 1) (.string (S k).h.v)).setCell (k * 5 + 2) (.int .i64 (S k).h.l)).setCell (k * 5 + 3) (.int .i64 (S k).h.c)).setCell (k * 5 + 4) (.slice a' (S k).n (S k).n)
  refine ⟨_, ((((h.set _ _).set _ _).set _ _).set _ _).set _ _, fun i hi => ?_⟩
  by_cases e : i = k
  · subst e
    refine ⟨?_, ?_, ?_, ?_, a', ?_, hr.kept hk2, hn⟩
    · dsimp only; rw [if_neg (by omega), if_neg (by omega), if_neg (by omega), if_neg (by omega), if_pos rfl]
    · dsimp only; rw [if_neg (by omega), if_neg (by omega), if_neg (by omega), if_pos rfl]
    · dsimp only; rw [if_neg (by omega), if_neg (by omega), if_pos rfl]
    · dsimp only; rw [if_neg (by omega), if_pos rfl]
    · dsimp only; rw [if_pos rfl]
  · obtain ⟨a0, a1, a2, a3, x, a4, ax, an⟩ := hin i (by omega)
    refine ⟨?_, ?_, ?_, ?_, x, ?_, ax.kept (hk.trans hk2), an⟩ <;> dsimp only <;> rw [if_neg (by omega), if_neg (by omega), if_neg (by omega), if_neg (by omega), if_neg (by omega)] <;> assumption

theorem below_undrew {w w' : World} (h : Below w.drew.heap.size w.drew w') : Below w.heap.size w w' := ⟨h.os, h.tape, h.output, h.size, h.block⟩

set_option maxHeartbeats 1600000 in
theorem toSecs_some (x : Addr) (n cap : Nat) (S : Nat → Sec) (w : World) (hn : n ≤ 1048576) (hi : ∀ i, i < n → (S i).n ≤ 1048576) (hs : SecSl w (some x) n S) :
    Calls Try.prog 15 #[.slice (some x) n cap] w fun e w' => e = .returned (.slice (some ⟨w.heap.size, 0, none⟩) n n) ∧ Below w.heap.size w w' ∧ ∃ f, w'.rowIs w.heap.size 42 (n * 5) f ∧ SecsIn w' w.heap.size f n S := by
  have qe : ∀ (W : World) (a : Option Addr) (n c n' c' : Nat), (binOp .eql 30 (.slice a n c) (.slice none n' c')).run Try.prog W = .ok (.bool a.isNone) W := fun W a n c n' c' => Lib.run_eql_slice_nil W _ _ a n c n' c' Try.underlying30
  have HS : Hid (SecSl w (some x) n S) := hs
  have HI : Hid (∀ i, i < n → (S i).n ≤ 1048576) := hi
  clear hs hi
  obtain ⟨i0, hi, hz0, hz1, hz2⟩ := info_parts Try.info42
  go_enter Try.func15, Try.ntmps15
  go_wp2_with (at_make; refine wpList_make_full _ rfl _ _ 33 rfl w.heap.size 42 i0 (.agg #[.string ByteArray.empty, .string ByteArray.empty, .int .i64 0, .int .i64 0, .slice none 0 0]) 5 Try.underlying33 hi hz0 hz1 _ _ _ _ n rfl rfl rfl rfl ?b2 ?b3 (Nat.le_refl _) ?_)
  case b2 => first | omega | (rw [hz2]; omega)
  case b3 => unfold maxLen; omega
  intro w0 hown hgrow
  have hb0 : Below w.heap.size w w0 := (Below.refl _ _).grown hgrow (Nat.le_refl _) (fun k h => by cases h)
  obtain ⟨f0, hf0⟩ := rowIs_of_owns hown
  clear hown hgrow qe hi hz0 hz1 hz2
  go_wp2
  go_loopw [4] (fun i wr => ∃ k : Nat, k ≤ n ∧ i = .int .i64 k ∧ Below w.heap.size w wr ∧ ∃ f, wr.rowIs w.heap.size 42 (n * 5) f ∧ SecsIn wr w.heap.size f k S) (fun i _ => n - (intOf i).toNat)
  case atStart => exact ⟨0, Nat.zero_le _, rfl, hb0, f0, hf0, fun i hi => by omega⟩
  case round =>
    clear hb0 hf0
    obtain ⟨k, hk, rfl, hb, f, hf, hin⟩ := hrel
    have HIN : Hid (SecsIn wr w.heap.size f k S) := hin
    clear hin
    by_cases hlt : k < n
    · obtain ⟨b, off, hx, hc⟩ := HS.out.pos (by omega)
      obtain rfl : x = ⟨b, off, none⟩ := by simpa using hx
      obtain ⟨⟨d0, d1, d2, d3⟩, d4, hr, hle, hnil⟩ := hc k hlt
      have hbl : b < w.heap.size := World.block_lt_of_cell? w _ d0
      have hik := HI.out k hlt
      clear hc hx HS HI
      have c0 := (hb.cell (p := ⟨b, off + k * 5, none⟩) hbl).trans d0
      have c1 := (hb.cell (p := ⟨b, off + k * 5 + 1, none⟩) hbl).trans d1
      have c2 := (hb.cell (p := ⟨b, off + k * 5 + 2, none⟩) hbl).trans d2
      have c3 := (hb.cell (p := ⟨b, off + k * 5 + 3, none⟩) hbl).trans d3
      have c4 := (hb.cell (p := ⟨b, off + k * 5 + 4, none⟩) hbl).trans d4
      clear d0 d1 d2 d3 d4
      have hltk : (k : Int) < (n : Int) := by omega
      have hk0 : (0 : Int) ≤ (k : Int) := by omega
      obtain ⟨ia, hia⟩ : ∃ x, x = (S k).a := ⟨_, rfl⟩
      obtain ⟨nn, hnn⟩ : ∃ x, x = (S k).n := ⟨_, rfl⟩
      obtain ⟨cc, hcc⟩ : ∃ x, x = (S k).cap := ⟨_, rfl⟩
      rw [← hia, ← hnn] at hr
      rw [← hia, ← hnn, ← hcc] at c4
      rw [← hnn] at hle hik
      rw [← hia, ← hnn, ← hcc] at hnil
      have HR : Hid (AsgSl w ia nn (S k).L) := hr
      have HNL : Hid (ia = none → nn = 0 ∧ cc = 0) := hnil
      have HE : Hid (ia = (S k).a ∧ nn = (S k).n) := ⟨hia, hnn⟩
      clear hr hnil hia hnn hcc
      have hlt1 : w.heap.size < wr.heap.size := hf.lt
      go_wp2
      go_region_with (first | (go_at_call 20; refine (toAsg_any _ _ _ _ _).mono ?_; rintro e w1 ⟨rfl, hb1⟩; have hb1' : Below wr.heap.size wr w1 := below_undrew hb1; clear hb1; have c4' : w1.cell? ⟨b, off + k * 5 + 4, none⟩ = some (.slice ia nn cc) := (hb1'.cell (p := ⟨b, off + k * 5 + 4, none⟩) (Nat.lt_trans hbl hlt1)).trans c4) | (go_at_call 14; refine (toAsgs_any ia nn cc (S k).L _ hik (fun h => (HNL.out h).1) (HR.out.later (hb.trans (hb1'.mono hb.size)))).mono ?_; rintro e w2 ⟨a', rfl, hb2, hr2, hn2, hx2⟩; have hf2 : w2.rowIs w.heap.size 42 (n * 5) f := rowIs_below (rowIs_below hf hb1' hlt1) hb2 (Nat.lt_of_lt_of_le hlt1 hb1'.size); have R2 : Hid (AsgSl w2 a' nn (S k).L ∧ (a' = none ↔ ia = none) ∧ ∀ x, a' = some x → x = ⟨w1.heap.size, 0, none⟩ ∧ w1.heap.size < w2.heap.size) := ⟨hr2, hn2, hx2⟩; clear hr2 hn2 hx2; have e0 := hf2.cell (i := k * 5) (by omega); have e1 := hf2.cell (i := k * 5 + 1) (by omega); have e2 := hf2.cell (i := k * 5 + 2) (by omega); have e3 := hf2.cell (i := k * 5 + 3) (by omega); have e4 := hf2.cell (i := k * 5 + 4) (by omega); have z0 := hf2.frozen (k * 5); have z1 := hf2.frozen (k * 5 + 1); have z2 := hf2.frozen (k * 5 + 2); have z3 := hf2.frozen (k * 5 + 3); have z4 := hf2.frozen (k * 5 + 4)))
      all_goals
        have hbw : Below w.heap.size w w2 := (hb.trans (hb1'.mono hb.size)).trans (hb2.mono (Nat.le_trans hb.size hb1'.size))
        have RR : Hid (KeptBut wr w2 w.heap.size ∧ AsgSlN w2 w.heap.size a' (S k).n (S k).L ∧ (a' = none ↔ (S k).a = none)) := by
          obtain ⟨hr2, hn2, hx2⟩ := R2.out
          obtain ⟨rfl, rfl⟩ := HE.out
          refine ⟨(KeptBut.of_below _ hb1').trans (KeptBut.of_below _ hb2), ?_, hn2⟩
          rcases hr2 with h0 | ⟨b', o', rfl, hc'⟩
          · exact .inl h0
          · obtain ⟨hxx, _⟩ := hx2 _ rfl
            refine .inr ⟨b', o', rfl, ?_, hc'⟩
            have : b' = w1.heap.size := by injection hxx
            have := hb1'.size
            omega
        clear hb hf R2 hb1' hb2 c0 c1 c2 c3 c4 c4' HR HNL e0 e1 e2 e3 e4 z0 z1 z2 z3 z4
        go_wp2
        go_roundw
        case rel =>
          obtain ⟨hkk, hr, hnn⟩ := RR.out
          obtain ⟨rfl, rfl⟩ := HE.out
          exact ⟨k + 1, by omega, by go_num, ((((hbw.setCell (Nat.le_refl _) _).setCell (Nat.le_refl _) _).setCell (Nat.le_refl _) _).setCell (Nat.le_refl _) _).setCell (Nat.le_refl _) _, secs_store hkk hf2 HIN.out hr hnn⟩
        case measure => simp [intOf]; omega
    · obtain rfl : k = n := by omega
      go_wp2
      go_ret
      exact ⟨rfl, hb, f, hf, HIN.out⟩
end Go.Proofs.Qxb6619209a
