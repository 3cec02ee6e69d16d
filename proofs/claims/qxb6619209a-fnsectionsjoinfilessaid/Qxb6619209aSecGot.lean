/- FnSections..: what the caller of 'sections' reads of its answer; zzB1ToSections, nil or not. -/
import Derived.Test.Qxb6619209aSecSections
import Derived.Test.Qxb6619209aSecSame
namespace Go.Proofs.Qxb6619209a
open Go.RowKit

/-- The n sections from block g's head on are as T says. -/
def GotAt (w : World) (g n : Nat) (T : Nat → Sec) : Prop :=
  ∀ i, i < n → ∃ a, AsgAt w g (i * 5) (T i).h ∧ w.cell? ⟨g, i * 5 + 4, none⟩ = some (.slice a (T i).n (T i).n) ∧ AsgSl w a (T i).n (T i).L ∧ (a = none ↔ (T i).a = none)

theorem GotAt.later {w w' : World} {g n : Nat} {T : Nat → Sec} (h : GotAt w g n T) (hb : Below w.heap.size w w') : GotAt w' g n T := by
  intro i hi
  obtain ⟨a, h1, h2, h3, h4⟩ := h i hi
  exact ⟨a, h1.below hb h1.lt, (hb.cell (p := ⟨g, i * 5 + 4, none⟩) h1.lt).trans h2, h3.later hb, h4⟩

theorem got_at {w : World} {N g0 g n cap : Nat} {xs : List Value} {T : Nat → Sec} (h : Secs w N g0 (.slice (some ⟨g, 0, none⟩) n cap) n xs) (hT : SecsAre w g xs n T) : GotAt w g n T := by
  have hl : xs.length = n * 5 := h.1.1
  have cell : ∀ j, j < n * 5 → w.cell? ⟨g, j, none⟩ = some (fx xs j) := by
    intro j hj
    rw [h.1.cellAt j hj]
    unfold fx
    rw [List.getElem?_eq_getElem (by omega)]
    rfl
  intro i hi
  obtain ⟨f0, f1, f2, f3, a, f4, fr, fn⟩ := hT i hi
  exact ⟨a, ⟨by rw [cell _ (by omega), f0], by rw [cell _ (by omega), f1], by rw [cell _ (by omega), f2], by rw [cell _ (by omega), f3]⟩, by rw [cell _ (by omega), f4], fr.plain, fn⟩

/-- The answer's shape: nil and nothing, or a row. -/
theorem secs_shape {w : World} {N g0 : Nat} {v : Value} {n : Nat} {xs : List Value} {T : Nat → Sec} (h : Secs w N g0 v n xs) (hT : SecsAre w (v.ownBlock.getD g0) xs n T) :
    (v = .slice none 0 0 ∧ n = 0) ∨ ∃ g cap, v = .slice (some ⟨g, 0, none⟩) n cap ∧ GotAt w g n T := by
  rcases h.1.2 with h' | ⟨g, cap, cur, rfl, _⟩
  · exact .inl h'
  · exact .inr ⟨g, cap, rfl, got_at h hT⟩

theorem owns_of_row {w : World} {g n : Nat} {f : Nat → Value} (h : w.rowIs g 42 (n * 5) f) (hn : n ≤ maxLen) : ∃ xs, w.ownsRow 0 42 5 (.slice (some ⟨g, 0, none⟩) n n) n xs ∧ ∀ j, j < n * 5 → fx xs j = f j := by
  obtain ⟨c, hb, hs, hc⟩ := h
  refine ⟨c.toList, ⟨by simp [hs], .inr ⟨g, n, c, rfl, Nat.zero_le _, hb, Nat.le_refl _, hn, hs, ?_⟩⟩, fun j hj => ?_⟩
  · exact List.take_of_length_le (by simp [hs])
  · unfold fx
    have := hc j hj
    rw [Array.getElem?_toList, this]
    rfl

/-- zzB1ToSections, nil or not. -/
theorem toSecs_any (a : Option Addr) (n cap : Nat) (S : Nat → Sec) (w : World) (hn : n ≤ 1048576) (hi : ∀ i, i < n → (S i).n ≤ 1048576) (hnil : a = none → n = 0) (hs : SecSl w a n S) :
    Calls Try.prog 15 #[.slice a n cap] w fun e w' => ∃ v xs, e = .returned v ∧ Below w.heap.size w w' ∧ Secs w' w'.heap.size w.heap.size v n xs ∧ SecsAre w' (v.ownBlock.getD w.heap.size) xs n S := by
  cases a with
  | none =>
    obtain rfl := hnil rfl
    have C : Calls Try.prog 15 #[.slice none 0 cap] w fun e w' => e = .returned (.slice none 0 0) ∧ w = w' := by
      have qe : ∀ (W : World) (a : Option Addr) (n c n' c' : Nat), (binOp .eql 30 (.slice a n c) (.slice none n' c')).run Try.prog W = .ok (.bool a.isNone) W := fun W a n c n' c' => Lib.run_eql_slice_nil W _ _ a n c n' c' Try.underlying30
      go_enter Try.func15, Try.ntmps15
      go_wp2
      go_ret
      exact ⟨rfl, rfl⟩
    refine C.mono ?_
    rintro e w' ⟨rfl, rfl⟩
    exact ⟨_, [], rfl, Below.refl _ _, ⟨World.ownsRow_nil _ _ _ _, fun g h => by simp [Value.ownBlock] at h⟩, fun i hi => by omega⟩
  | some x =>
    refine (toSecs_some x n cap S w hn hi hs).mono ?_
    rintro e w' ⟨rfl, hb, f, hf, hin⟩
    obtain ⟨xs, hown, hfx⟩ := owns_of_row hf (by unfold maxLen; omega)
    refine ⟨_, xs, rfl, hb, ⟨hown, fun g h => ?_⟩, fun i hi => ?_⟩
    · simp [Value.ownBlock] at h
      exact .inl h.symm
    · obtain ⟨f0, f1, f2, f3, a', f4, r⟩ := hin i hi
      exact ⟨by rw [hfx _ (by omega), f0], by rw [hfx _ (by omega), f1], by rw [hfx _ (by omega), f2], by rw [hfx _ (by omega), f3], a', by rw [hfx _ (by omega), f4], r⟩

/-- A slice of assignments that came about below g. -/
theorem asgSlN_of {w : World} {g : Nat} {a : Option Addr} {n : Nat} {L : Nat → Asg} (h : AsgSl w a n L) (hg : ∀ b o, a = some ⟨b, o, none⟩ → 0 < n → b ≠ g) : AsgSlN w g a n L := by
  rcases h with h | ⟨b, off, rfl, hc⟩
  · exact .inl h
  · by_cases h0 : n = 0
    · exact .inl h0
    · exact .inr ⟨b, off, rfl, hg b off rfl (by omega), hc⟩
theorem intSlN_of {w : World} {g : Nat} {a : Option Addr} {n : Nat} {Z : Nat → Int} (h : IntSl w a n Z) (hg : ∀ b o, a = some ⟨b, o, none⟩ → 0 < n → b ≠ g) : IntSlN w g a n Z := by
  rcases h with h | ⟨b, off, rfl, hc⟩
  · exact .inl h
  · by_cases h0 : n = 0
    · exact .inl h0
    · exact .inr ⟨b, off, rfl, hg b off rfl (by omega), hc⟩
theorem IntSl.later {w w' : World} {a : Option Addr} {n : Nat} {Z : Nat → Int} (h : IntSl w a n Z) (hb : Below w.heap.size w w') : IntSl w' a n Z := by
  rcases h with h | ⟨b, off, rfl, hc⟩
  · exact .inl h
  · exact .inr ⟨b, off, rfl, fun i hi => (hb.cell (p := ⟨b, off + i, none⟩) (World.block_lt_of_cell? w _ (hc i hi))).trans (hc i hi)⟩
theorem SecAt.later {w w' : World} {b o : Nat} {s : Sec} (h : SecAt w b o s) (hb : Below w.heap.size w w') : SecAt w' b o s :=
  ⟨h.hd.below hb h.hd.lt, (hb.cell (p := ⟨b, o + 4, none⟩) h.hd.lt).trans h.sl, h.row.later hb, h.le, h.nil⟩
theorem SecSl.later {w w' : World} {a : Option Addr} {n : Nat} {S : Nat → Sec} (h : SecSl w a n S) (hb : Below w.heap.size w w') : SecSl w' a n S := by
  rcases h with h | ⟨b, off, rfl, hc⟩
  · exact .inl h
  · exact .inr ⟨b, off, rfl, fun i hi => (hc i hi).later hb⟩
end Go.Proofs.Qxb6619209a
