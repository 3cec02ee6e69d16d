/- FnSections..: what one round of 'sections' does to the sections that the call owns: plain facts on worlds and lists. -/
import Derived.Test.Qxb6619209aSecAppend
namespace Go.Proofs.Qxb6619209a
open Go.RowKit

/-- The list's cells as a function of the index. -/
def fx (xs : List Value) (j : Nat) : Value := xs[j]?.getD (.bool false)
theorem fx_left {xs ys : List Value} {j : Nat} (h : j < xs.length) : fx (xs ++ ys) j = fx xs j := by
  unfold fx; rw [List.getElem?_append_left h]
theorem fx_right {xs ys : List Value} {j : Nat} : fx (xs ++ ys) (xs.length + j) = fx ys j := by
  unfold fx; rw [List.getElem?_append_right (by omega)]; congr 2; omega

/-- The header that a head names: the line, or the zero assignment. -/
def headOf (L : Nat → Asg) (h : Int) : Asg := if 0 ≤ h then L h.toNat else zeroA
/-- Where the section of head i ends. -/
def endOf (hn ln : Nat) (H : Nat → Int) (i : Nat) : Int := if i + 1 < hn then H (i + 1) else ln
/-- The section of head i (its address tells nil from not nil, no more). -/
def newSec (hn ln : Nat) (L : Nat → Asg) (H : Nat → Int) (i : Nat) : Sec :=
  { h := headOf L (H i), a := if H i + 1 < endOf hn ln H i then some ⟨0, 0, none⟩ else none, n := (endOf hn ln H i - (H i + 1)).toNat, cap := (endOf hn ln H i - (H i + 1)).toNat, L := fun j => L ((H i + 1).toNat + j) }
/-- The sections behind the call: those that were there, then one a head. -/
def allSec (m : Nat) (S : Nat → Sec) (hn ln : Nat) (L : Nat → Asg) (H : Nat → Int) (i : Nat) : Sec := if i < m then S i else newSec hn ln L H (i - m)

theorem valid_ge {n m : Nat} {H : Nat → Int} (h : ValidH n m H) : ∀ i, i < n → (i : Int) - 1 ≤ H i := by
  intro i
  induction i with
  | zero => intro hi; have := (h 0 hi).2.1 rfl; omega
  | succ i ih => intro hi; have h1 := ih (by omega); have h2 := (h (i + 1) hi).2.2 (by omega); simp at h2; omega

def SecsAre (w : World) (g : Nat) (xs : List Value) (n : Nat) (T : Nat → Sec) : Prop := ∀ i, i < n → SecIn w g (fx xs) (i * 5) (T i)

theorem sec_step {w wr W w1 : World} {g0 : Nat} {v : Value} {n : Nat} {xs : List Value} {T : Nat → Sec} {g cap : Nat} {s : Sec} {a' : Option Addr}
    (hN : KeptBut w wr g0) (hS : Secs wr w.heap.size g0 v n xs) (hT : SecsAre wr (v.ownBlock.getD g0) xs n T)
    (hW : ∀ b, b < wr.heap.size → W.heap[b]? = wr.heap[b]?) (hWs : wr.heap.size ≤ W.heap.size) (hWo : W.os = wr.os ∧ W.tape = wr.tape ∧ W.output = wr.output) (hs : T n = s)
    (hS1 : Secs w1 w.heap.size g0 (.slice (some ⟨g, 0, none⟩) (n + 1) cap) (n + 1) (xs ++ [.string s.h.k, .string s.h.v, .int .i64 s.h.l, .int .i64 s.h.c, .slice a' s.n s.n])) (hgr : W.grownBy w1 v.ownBlock) (hg : v.ownBlock = some g ∨ W.heap.size ≤ g)
    (ha : AsgSlN w g0 a' s.n s.L) (hn : a' = none ↔ s.a = none) :
    KeptBut w w1 g0 ∧ SecsAre w1 g (xs ++ [.string s.h.k, .string s.h.v, .int .i64 s.h.l, .int .i64 s.h.c, .slice a' s.n s.n]) (n + 1) T := by
  have hlen : xs.length = n * 5 := hS.1.1
  have keep : ∀ b, b < wr.heap.size → some b ≠ v.ownBlock → w1.heap[b]? = wr.heap[b]? := fun b hb hne => (hgr.block b (by omega) hne).trans (hW b hb)
  have hk1 : KeptBut w w1 g0 := by
    refine ⟨(hgr.os.trans hWo.1).trans hN.os, (hgr.tape.trans hWo.2.1).trans hN.tape, (hgr.output.trans hWo.2.2).trans hN.output, Nat.le_trans hN.size (Nat.le_trans hWs hgr.size), fun b hb hne => ?_⟩
    refine (keep b (Nat.lt_of_lt_of_le hb hN.size) ?_).trans (hN.block b hb hne)
    intro e
    rcases hS.2 b e.symm with h | h
    · exact hne h
    · omega
  -- an address that is not the old slice's block is not the new one's
  have other : ∀ b, b < wr.heap.size → some b ≠ v.ownBlock → b ≠ g := by
    intro b hb hne e
    subst e
    rcases hg with h | h
    · exact hne h.symm
    · omega
  refine ⟨hk1, fun i hi => ?_⟩
  by_cases e : i = n
  · subst e
    rw [hs, show i * 5 = xs.length + 0 from by omega]
    refine ⟨by rw [fx_right]; rfl, by rw [Nat.add_assoc, fx_right]; rfl, by rw [Nat.add_assoc, fx_right]; rfl, by rw [Nat.add_assoc, fx_right]; rfl, a', by rw [Nat.add_assoc, fx_right]; rfl, ?_, hn⟩
    rcases ha.kept hk1 with h | ⟨b, off, rfl, hb, hc⟩
    · exact .inl h
    · rcases ha with h | ⟨b', off', hab, _, hc'⟩
      · exact .inl h
      · cases hab
        by_cases h0 : s.n = 0
        · exact .inl h0
        have hbl : b < w.heap.size := (hc' 0 (by omega)).lt
        refine .inr ⟨b, off, rfl, ?_, hc⟩
        refine other b (Nat.lt_of_lt_of_le hbl hN.size) ?_
        intro e
        rcases hS.2 b e.symm with h | h
        · exact hb h
        · omega
  · obtain ⟨f0, f1, f2, f3, x, f4, fr, fn⟩ := hT i (by omega)
    refine ⟨by rw [fx_left (by omega)]; exact f0, by rw [fx_left (by omega)]; exact f1, by rw [fx_left (by omega)]; exact f2, by rw [fx_left (by omega)]; exact f3, x, by rw [fx_left (by omega)]; exact f4, ?_, fn⟩
    rcases fr with h | ⟨b, off, rfl, hb, hc⟩
    · exact .inl h
    · by_cases h0 : (T i).n = 0
      · exact .inl h0
      have hbl : b < wr.heap.size := (hc 0 (by omega)).lt
      have hne : some b ≠ v.ownBlock := by
        intro e
        rw [← e] at hb
        exact hb rfl
      exact .inr ⟨b, off, rfl, other b hbl hne, fun j hj => (hc j hj).of_block (keep b hbl hne)⟩

theorem newSec_pos_run {hn ln : Nat} {L : Nat → Asg} {H : Nat → Int} {k p q : Nat} (hk : (p : Int) = H k) (he : (q : Int) = endOf hn ln H k) (h : p + 1 < q) :
    newSec hn ln L H k = ⟨L p, some ⟨0, 0, none⟩, q - (p + 1), q - (p + 1), fun j => L (p + 1 + j)⟩ := by
  have e1 : ((q : Int) - ((p : Int) + 1)).toNat = q - (p + 1) := by omega
  have e2 : ((p : Int) + 1).toNat = p + 1 := by omega
  have e3 : (p : Int) + 1 < (q : Int) := by omega
  unfold newSec headOf
  rw [← hk, ← he, e1, e2, if_pos (by omega), if_pos e3]; rfl
theorem newSec_pos_nil {hn ln : Nat} {L : Nat → Asg} {H : Nat → Int} {k p q : Nat} (hk : (p : Int) = H k) (he : (q : Int) = endOf hn ln H k) (h : q = p + 1) :
    newSec hn ln L H k = ⟨L p, none, 0, 0, fun j => L (p + 1 + j)⟩ := by
  have e1 : ((q : Int) - ((p : Int) + 1)).toNat = 0 := by omega
  have e2 : ((p : Int) + 1).toNat = p + 1 := by omega
  unfold newSec headOf
  rw [← hk, ← he, e1, e2, if_pos (by omega), if_neg (by omega)]; rfl
theorem newSec_neg_run {hn ln : Nat} {L : Nat → Asg} {H : Nat → Int} {k q : Nat} (hk : (-1 : Int) = H k) (he : (q : Int) = endOf hn ln H k) (h : 0 < q) :
    newSec hn ln L H k = ⟨zeroA, some ⟨0, 0, none⟩, q, q, fun j => L (0 + j)⟩ := by
  have e1 : ((q : Int) - ((-1 : Int) + 1)).toNat = q := by omega
  have e2 : ((-1 : Int) + 1).toNat = 0 := by omega
  unfold newSec headOf
  rw [← hk, ← he, e1, e2, if_neg (by omega), if_pos (by omega)]
theorem newSec_neg_nil {hn ln : Nat} {L : Nat → Asg} {H : Nat → Int} {k : Nat} (hk : (-1 : Int) = H k) (he : (0 : Int) = endOf hn ln H k) :
    newSec hn ln L H k = ⟨zeroA, none, 0, 0, fun j => L (0 + j)⟩ := by
  have e1 : ((0 : Int) - ((-1 : Int) + 1)).toNat = 0 := by omega
  have e2 : ((-1 : Int) + 1).toNat = 0 := by omega
  unfold newSec headOf
  rw [← hk, ← he, e1, e2, if_neg (by omega), if_neg (by omega)]

theorem heap_alloc2 (w : World) (o o' : Obj) (b : Nat) (h : b < w.heap.size) : ((w.alloc o).alloc o').heap[b]? = w.heap[b]? := by
  rw [Below.heap_alloc _ _ _ (by simp; omega), Below.heap_alloc _ _ _ h]
theorem size_alloc2 (w : World) (o o' : Obj) : w.heap.size ≤ ((w.alloc o).alloc o').heap.size := by simp; omega

theorem sec_round {w wr w1 : World} {g0 m k hn ln : Nat} {L : Nat → Asg} {H : Nat → Int} {S : Nat → Sec} {v : Value} {xs : List Value} {g cap : Nat} {s : Sec} {a' : Option Addr} {o o' : Obj}
    (hR : KeptBut w wr g0 ∧ Secs wr w.heap.size g0 v (m + k) xs ∧ SecsAre wr (v.ownBlock.getD g0) xs (m + k) (allSec m S hn ln L H)) (hs : newSec hn ln L H k = s)
    (hS1 : Secs w1 w.heap.size g0 (.slice (some ⟨g, 0, none⟩) (m + k + 1) cap) (m + k + 1) (xs ++ [.string s.h.k, .string s.h.v, .int .i64 s.h.l, .int .i64 s.h.c, .slice a' s.n s.n])) (hgr : ((wr.alloc o).alloc o').grownBy w1 v.ownBlock) (hg : v.ownBlock = some g ∨ wr.heap.size + 1 + 1 ≤ g)
    (ha : AsgSlN w g0 a' s.n s.L) (hn' : a' = none ↔ s.a = none) :
    KeptBut w w1 g0 ∧ ∃ xs', Secs w1 w.heap.size g0 (.slice (some ⟨g, 0, none⟩) (m + k + 1) cap) (m + (k + 1)) xs' ∧ SecsAre w1 ((Value.slice (some ⟨g, 0, none⟩) (m + k + 1) cap).ownBlock.getD g0) xs' (m + (k + 1)) (allSec m S hn ln L H) := by
  have hT : allSec m S hn ln L H (m + k) = s := by
    unfold allSec
    rw [if_neg (by omega), Nat.add_sub_cancel_left]
    exact hs
  have hg' : v.ownBlock = some g ∨ ((wr.alloc o).alloc o').heap.size ≤ g := by
    rcases hg with h | h
    · exact .inl h
    · exact .inr (by simpa using h)
  obtain ⟨h1, h2⟩ := sec_step hR.1 hR.2.1 hR.2.2 (fun b hb => heap_alloc2 wr o o' b hb) (size_alloc2 _ _ _) ⟨rfl, rfl, rfl⟩ hT hS1 hgr hg' ha hn'
  exact ⟨h1, _, hS1, h2⟩
end Go.Proofs.Qxb6619209a
