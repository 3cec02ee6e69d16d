/- FnSectionsJoinFiles: what the law reads of the answers of 'sections': plain facts. -/
import Derived.Test.Qxb6619209aSecJoin
import Derived.Test.Qxb6619209aSecEq
import Derived.Test.Qxb6619209aSecCopy
namespace Go.Proofs.Qxb6619209a
open Go.RowKit

/-- An answer of 'sections', nil or not. -/
def GotSl (w : World) (o : Option Addr) (n : Nat) (T : Nat → Sec) : Prop := n = 0 ∨ ∃ g, o = some ⟨g, 0, none⟩ ∧ GotAt w g n T
theorem GotSl.pos {w : World} {o : Option Addr} {n : Nat} {T : Nat → Sec} (h : GotSl w o n T) (hn : 0 < n) : ∃ g, o = some ⟨g, 0, none⟩ ∧ GotAt w g n T := by
  rcases h with h | h
  · omega
  · exact h
theorem GotSl.later {w w' : World} {o : Option Addr} {n : Nat} {T : Nat → Sec} (h : GotSl w o n T) (hb : Below w.heap.size w w') : GotSl w' o n T := by
  rcases h with h | ⟨g, rfl, h⟩
  · exact .inl h
  · exact .inr ⟨g, rfl, h.later hb⟩
theorem secs_sl {w : World} {N g0 : Nat} {v : Value} {n : Nat} {xs : List Value} {T : Nat → Sec} (h : Secs w N g0 v n xs) (hT : SecsAre w (v.ownBlock.getD g0) xs n T) : ∃ o cap, v = .slice o n cap ∧ GotSl w o n T := by
  rcases secs_shape h hT with ⟨rfl, rfl⟩ | ⟨g, cap, rfl, hg⟩
  · exact ⟨none, 0, rfl, .inl rfl⟩
  · exact ⟨_, cap, rfl, .inr ⟨g, rfl, hg⟩⟩

theorem owns_later {w w' : World} {base e size : Nat} {v : Value} {n : Nat} {xs : List Value} (h : w.ownsRow base e size v n xs) (hb : Below w.heap.size w w') : w'.ownsRow base e size v n xs :=
  h.kept (row := none) ⟨hb.os, hb.tape, hb.output, hb.size, fun k hk _ => hb.block k hk⟩ (by cases hv : v.ownBlock <;> simp)
theorem acells_new (w : World) (q : Asg) (t : TypeId) : ∀ j u, (acells q)[j]? = some u → (w.alloc (.cells #[.string q.k, .string q.v, .int .i64 q.l, .int .i64 q.c] t)).cell? ((⟨w.heap.size, 0, none⟩ : Addr).add j) = some u :=
  fun j u h => new_cells w _ t j u h
theorem icell_new (w : World) (z : Int) (t : TypeId) : ∀ j u, [Value.int .i64 z][j]? = some u → (w.alloc (.cells #[.int .i64 z] t)).cell? ((⟨w.heap.size, 0, none⟩ : Addr).add j) = some u :=
  fun j u h => new_cells w _ t j u h
theorem icell_one (z : Int) : ∀ u ∈ [Value.int .i64 z], u.oneCell' = true := by
  intro u hu
  simp at hu
  subst hu
  rfl

theorem AsgSlN.later {w w' : World} {g : Nat} {a : Option Addr} {n : Nat} {L : Nat → Asg} (h : AsgSlN w g a n L) (hb : Below w.heap.size w w') : AsgSlN w' g a n L := h.kept (KeptBut.of_below g hb)
/-- The block of an answer, or one that is not there yet. -/
def newG (v : Value) (w : World) : Nat := v.ownBlock.getD w.heap.size
/-- An answer is handed to the next call. -/
theorem secs_move {w w' : World} {N g0 : Nat} {v : Value} {n : Nat} {xs : List Value} {T : Nat → Sec} (h : Secs w N g0 v n xs) (hT : SecsAre w (v.ownBlock.getD g0) xs n T) (hb : Below w.heap.size w w') :
    Secs w' w'.heap.size (newG v w') v n xs ∧ SecsAre w' (v.ownBlock.getD (newG v w')) xs n T := by
  refine ⟨⟨owns_later h.1 hb, fun g hg => .inl (by unfold newG; rw [hg]; rfl)⟩, ?_⟩
  intro i hi
  rcases h.1.2 with ⟨rfl, h0⟩ | ⟨g, cap, cur, rfl, _⟩
  · omega
  · obtain ⟨f0, f1, f2, f3, a, f4, fr, fn⟩ := hT i hi
    exact ⟨f0, f1, f2, f3, a, f4, fr.later hb, fn⟩
theorem newG_ge {w w' : World} {N g0 B : Nat} {v : Value} {n : Nat} {xs : List Value} (h : Secs w N g0 v n xs) (h1 : B ≤ g0) (h2 : B ≤ N) (h3 : B ≤ w'.heap.size) : B ≤ newG v w' := by
  unfold newG
  cases hv : v.ownBlock with
  | none => exact h3
  | some g => rcases h.2 g hv with rfl | h' <;> simp <;> omega
theorem newG_lt {w w' : World} {N g0 : Nat} {v : Value} {n : Nat} {xs : List Value} (h : Secs w N g0 v n xs) : newG v w' < w.heap.size ∨ newG v w' = w'.heap.size := by
  unfold newG
  rcases owns_block h.1 with hv | ⟨g, hv, _, hg⟩
  · rw [hv]; exact .inr rfl
  · rw [hv]; exact .inl hg

theorem newSec_n_le {hn n k : Nat} {L : Nat → Asg} {H : Nat → Int} (hv : ValidH hn n H) (hk : k < hn) : (newSec hn n L H k).n ≤ n := by
  obtain ⟨q, hq, h1, h2, h3, _⟩ := end_num hv hk
  unfold newSec
  dsimp only
  rw [← hq]; omega
theorem allSec_n_le {sn hn n i : Nat} {S : Nat → Sec} {L : Nat → Asg} {H : Nat → Int} (hv : ValidH hn n H) (hS : ∀ i, i < sn → (S i).n ≤ 1048576) (hn' : n ≤ 1048576) (hi : i < sn + hn) : (allSec sn S hn n L H i).n ≤ 1048576 := by
  unfold allSec
  split
  · rename_i h; exact hS i h
  · exact Nat.le_trans (newSec_n_le hv (by omega)) hn'

theorem got_head_a {w : World} {g N sn hn n hn' n' i : Nat} {S : Nat → Sec} {L L' : Nat → Asg} {HA HB : Nat → Int} (hG : GotAt w g N (allSec sn S (hn + hn') (n + n') (LAB n L L') (HAB hn n HA HB))) (hN : N = sn + (hn + hn')) (hA : ValidH hn n HA) (h0 : 0 < hn' → HB 0 = 0) (hz : hn' = 0 → n' = 0) (hi : i < hn) :
    AsgAt w g ((sn + i) * 5) (headOf L (HA i)) := by
  obtain ⟨a, h1, _⟩ := hG (sn + i) (by omega)
  have e : allSec sn S (hn + hn') (n + n') (LAB n L L') (HAB hn n HA HB) (sn + i) = newSec (hn + hn') (n + n') (LAB n L L') (HAB hn n HA HB) i := by
    unfold allSec; rw [if_neg (by omega), Nat.add_sub_cancel_left]
  rw [e, (newSec_a hA h0 hz hi).h] at h1
  exact h1
theorem got_head_b {w : World} {g N sn hn n hn' n' i : Nat} {S : Nat → Sec} {L L' : Nat → Asg} {HA HB : Nat → Int} (hG : GotAt w g N (allSec sn S (hn + hn') (n + n') (LAB n L L') (HAB hn n HA HB))) (hN : N = sn + (hn + hn')) (hB : ValidH hn' n' HB) (h0 : 0 < hn' → HB 0 = 0) (hi : i < hn') :
    AsgAt w g ((sn + hn + i) * 5) (headOf L' (HB i)) := by
  obtain ⟨a, h1, _⟩ := hG (sn + hn + i) (by omega)
  have e : allSec sn S (hn + hn') (n + n') (LAB n L L') (HAB hn n HA HB) (sn + hn + i) = newSec (hn + hn') (n + n') (LAB n L L') (HAB hn n HA HB) (hn + i) := by
    unfold allSec; rw [if_neg (by omega), show sn + hn + i - sn = hn + i from by omega]
  rw [e, (newSec_b hB h0 hi).h] at h1
  exact h1
theorem head_pos {L : Nat → Asg} (q : Nat) : headOf L (q : Int) = L q := by unfold headOf; rw [if_pos (by omega)]; rfl
theorem head_neg {L : Nat → Asg} {z : Int} (h : z < 0) : headOf L z = zeroA := by unfold headOf; rw [if_neg (by omega)]
theorem heads_pos {hn n i : Nat} {H : Nat → Int} (hv : ValidH hn n H) (h0 : 0 < hn → H 0 = 0) (hi : i < hn) : 0 ≤ H i := by
  by_cases c : i = 0
  · subst c; rw [h0 hi]; exact Int.le_refl _
  · obtain ⟨_, _, h3⟩ := hv i hi
    have h4 := h3 (by omega)
    have := valid_ge hv (i - 1) (by omega)
    omega

/-- Two answers side by side. -/
theorem got_pair {w : World} {g1 g2 n i : Nat} {T1 T2 : Nat → Sec} (h1 : GotAt w g1 n T1) (h2 : GotAt w g2 n T2) (he : SecEq (T1 i) (T2 i)) (hi : i < n) :
    ∃ (hd : Asg) (nn : Nat) (a1 a2 : Option Addr), nn = (T1 i).n ∧ AsgAt w g1 (i * 5) hd ∧ w.cell? ⟨g1, i * 5 + 4, none⟩ = some (.slice a1 nn nn) ∧ AsgAt w g2 (i * 5) hd ∧ w.cell? ⟨g2, i * 5 + 4, none⟩ = some (.slice a2 nn nn) ∧
      AsgSl w a1 nn (T1 i).L ∧ AsgSl w a2 nn (T2 i).L ∧ (a1 = none ↔ a2 = none) ∧ (a2 = none → nn = 0) ∧ ∀ j, j < nn → (T1 i).L j = (T2 i).L j := by
  obtain ⟨a1, p1, p2, p3, p4⟩ := h1 i hi
  obtain ⟨a2, q1, q2, q3, q4⟩ := h2 i hi
  rw [← he.h] at q1
  rw [← he.n] at q2 q3
  refine ⟨_, _, a1, a2, rfl, p1, p2, q1, q2, p3, q3, p4.trans (he.a.trans q4.symm), fun h => ?_, he.L⟩
  rcases q3 with h' | ⟨b, off, h', _⟩
  · exact h'
  · rw [h] at h'; cases h'
end Go.Proofs.Qxb6619209a
