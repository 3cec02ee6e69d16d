/- FnSections..: 'secs = append(secs, sec)': one law for a slice of sections that the call owns: in place or grown. -/
import Derived.Test.Qxb6619209aSecToSec
namespace Go.Proofs.Qxb6619209a
open Go.RowKit

/-- The slice v of n sections owns the cells xs; its block is g0, or one that is not below N. -/
def Secs (w : World) (N g0 : Nat) (v : Value) (n : Nat) (xs : List Value) : Prop :=
  w.ownsRow 0 42 5 v n xs ∧ ∀ g, v.ownBlock = some g → g = g0 ∨ N ≤ g

theorem Secs.alloc {w : World} {N g0 : Nat} {v : Value} {n : Nat} {xs : List Value} (h : Secs w N g0 v n xs) (o : Obj) : Secs (w.alloc o) N g0 v n xs := ⟨h.1.alloc o, h.2⟩

theorem owns_block {w : World} {base e size : Nat} {v : Value} {n : Nat} {xs : List Value} (h : w.ownsRow base e size v n xs) : v.ownBlock = none ∨ ∃ g, v.ownBlock = some g ∧ base ≤ g ∧ g < w.heap.size := by
  rcases h.2 with ⟨rfl, _⟩ | ⟨g, cap, cur, rfl, hb, hg, _⟩
  · exact .inl rfl
  · exact .inr ⟨g, rfl, hb, (Array.getElem?_eq_some_iff.1 hg).1⟩

theorem owns_base {w : World} {base base' e size : Nat} {v : Value} {n : Nat} {xs : List Value} (h : w.ownsRow base e size v n xs) (hb : base' ≤ base) : w.ownsRow base' e size v n xs := by
  refine ⟨h.1, ?_⟩
  rcases h.2 with h' | ⟨g, cap, cur, hv, hg, r⟩
  · exact .inl h'
  · exact .inr ⟨g, cap, cur, hv, by omega, r⟩

theorem wpList_append_sec (w : World) {ops : Array Oper} {rest : List Oper} {o : Oper} {a : Act} {Q : Exit → Act → World → Prop}
    (hg : o.guard = none) (s x : Operand) (hop : o.op = Op.call { callee := Callee.builtin Builtin.append, args := #[s, x], argTypes := #[33, 33] })
    (N g0 : Nat) (v : Value) (n : Nat) (xs : List Value) (hs : a.eval s = v) (hown : Secs w N g0 v n xs) (hN : N ≤ w.heap.size)
    (ad : Addr) (c : Nat) (news : List Value) (hx : a.eval x = .slice (some ad) 1 c) (hn : news.length = 5)
    (hc : ∀ j u, news[j]? = some u → w.cell? (ad.add j) = some u) (h1c : ∀ u ∈ news, u.oneCell' = true) (b1 : n ≤ 1048576)
    (hK : ∀ g cap w', Secs w' N g0 (.slice (some ⟨g, 0, none⟩) (n + 1) cap) (n + 1) (xs ++ news) → w.grownBy w' v.ownBlock → (v.ownBlock = some g ∨ w.heap.size ≤ g) → wpList Try.prog ops Q rest (a.put o.dst (.slice (some ⟨g, 0, none⟩) (n + 1) cap)) w') :
    wpList Try.prog ops Q (o :: rest) a w := by
  obtain ⟨i0, hi, hz0, hz1, hz2⟩ := info_parts Try.info42
  -- what the law on growth leaves
  have fin : ∀ v' w', w'.ownsRow w.heap.size 42 5 v' (n + 1) (xs ++ news) → w.grownBy w' none → wpList Try.prog ops Q rest (a.put o.dst v') w' := by
    intro v' w' h' hgr
    have hnn : 0 < n + 1 := by omega
    rcases h'.2 with ⟨_, h0⟩ | ⟨g, cap, cur, rfl, hb, hgg, r⟩
    · omega
    · refine hK g cap w' ⟨owns_base h' (Nat.zero_le _), ?_⟩ ⟨hgr.os, hgr.tape, hgr.output, hgr.size, fun k hk _ => hgr.block k hk (by simp)⟩ (.inr hb)
      intro g' hg'
      simp [Value.ownBlock] at hg'
      subst hg'
      exact .inr (Nat.le_trans hN hb)
  rcases hown.1.2 with ⟨hv, h0⟩ | ⟨g, cap, cur, hv, hb, hgg, hle, hml, hsz, htk⟩
  · have hx0 : xs = [] := List.eq_nil_of_length_eq_zero (by rw [hown.1.1, h0])
    refine wpList_append_grows w hg s x 33 hop 42 i0 _ 5 72 Try.underlying33 hi hz0 hz1 hz2 rfl (by decide) none n 0 xs (by rw [hs, hv, h0]) (fun _ => ⟨h0, rfl⟩) (hown.1.1) (fun b h => by cases h) ad 1 c news hx (by rw [hn]) hc h1c (by omega) (by unfold maxLen; omega) (by omega) fin
  · subst hv
    by_cases hfit : n + 1 ≤ cap
    · refine wpList_append_fits w hg s x 33 hop 0 42 i0 5 Try.underlying33 hi hz1 g n cap xs hs hown.1 ad 1 c news hx (by rw [hn]) hc h1c hfit ?_
      intro w' h' hgr
      exact hK g cap w' ⟨h', fun g' hg' => hown.2 g' (by simpa [Value.ownBlock] using hg')⟩ hgr (.inl rfl)
    · refine wpList_append_grows w hg s x 33 hop 42 i0 _ 5 72 Try.underlying33 hi hz0 hz1 hz2 rfl (by decide) (some ⟨g, 0, none⟩) n cap xs hs (fun h => by cases h) (hown.1.1) ?_ ad 1 c news hx (by rw [hn]) hc h1c (by omega) (by unfold maxLen; omega) (by omega) fin
      intro b hb' j u hj
      cases hb'
      have hjl : j < n * 5 := by
        have := (List.getElem?_eq_some_iff.1 hj).1
        rw [hown.1.1] at this; exact this
      have := hown.1.cellAt j hjl
      rw [hj] at this
      rcases j with _ | j
      · simpa [Addr.add] using this
      · simpa [Addr.add] using this
end Go.Proofs.Qxb6619209a
