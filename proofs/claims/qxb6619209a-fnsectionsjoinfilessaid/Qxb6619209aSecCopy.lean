/- FnSections..: 'zzc := make([]int, len(heads)); copy(zzc, heads)'. -/
import Derived.Test.Qxb6619209aSecHeads
import Derived.Test.Qxb6619209aSecGot
import Derived.Laws.CopyOwn
namespace Go.Proofs.Qxb6619209a
open Go.RowKit

theorem Try.infoInt : (Try.prog.info? 3).map (fun i => (i.zero, i.size, i.bytes)) = some (some (.int .i64 0), 1, 8) := by kernel_rfl
theorem Try.sizeInt : (Try.prog.info? 3).map (·.size) = some 1 := by kernel_rfl
def icells (n : Nat) (H : Nat → Int) : List Value := (List.range n).map fun i => .int .i64 (H i)
theorem icells_len (n : Nat) (H : Nat → Int) : (icells n H).length = n := by simp [icells]
theorem icells_at {n : Nat} {H : Nat → Int} {j : Nat} {v : Value} (h : (icells n H)[j]? = some v) : j < n ∧ v = .int .i64 (H j) := by
  unfold icells at h
  rw [List.getElem?_map, Option.map_eq_some_iff] at h
  obtain ⟨i, hi, rfl⟩ := h
  obtain ⟨h1, h2⟩ := List.getElem?_eq_some_iff.1 hi
  simp at h1 h2
  exact ⟨h1, by rw [h2]⟩
theorem icells_one (n : Nat) (H : Nat → Int) : ∀ v ∈ icells n H, v.oneCell' = true := by
  intro v hv
  simp [icells] at hv
  obtain ⟨i, _, rfl⟩ := hv
  rfl
theorem icells_src {w : World} {x : Addr} {n : Nat} {H : Nat → Int} (h : IntSl w (some x) n H) : ∀ j v, (icells n H)[j]? = some v → w.cell? (x.add j) = some v := by
  intro j v hj
  obtain ⟨h1, rfl⟩ := icells_at hj
  obtain ⟨b, off, hx, hc⟩ := h.pos (by omega)
  cases hx
  have := hc j h1
  rcases j with _ | j
  · simpa [Addr.add] using this
  · simpa [Addr.add] using this
/-- What 'make' and 'copy' lay. -/
theorem copiedI {w w0 : World} {g n cap : Nat} {x : Addr} {H : Nat → Int} {cur : Array Value} (hg : w0.heap[g]? = some (.cells cur 3 (0, 0))) (hs : cur.size = n) (hb : Below g w w0) (hsrc : ∀ j v, (icells n H)[j]? = some v → w0.cell? (x.add j) = some v) :
    ∃ w1, (Builtin.copy_ #[29, 29] 3 #[.slice (some ⟨g, 0, none⟩) n n, .slice (some x) n cap]).run Try.prog w0 = .ok (.int .i64 n) w1 ∧ IntSl w1 (some ⟨g, 0, none⟩) n H ∧ Below g w w1 ∧ g < w1.heap.size := by
  have hr := run_copy_row (P := Try.prog) w0 29 29 3 3 g 0 n n x n cap cur 3 (icells n H) Try.underlying29 Try.sizeInt hg (by rw [icells_len]; exact (Nat.min_self _).symm) hsrc (by rw [icells_len, hs]; omega) (icells_one _ _)
  rw [icells_len] at hr
  have hh := setRow_heap w0 g cur (cur.toList.take 0 ++ icells n H ++ cur.toList.drop (0 + n)).toArray 3 (0, 0) hg
  refine ⟨_, hr, .inr ⟨g, 0, rfl, fun i hi => ?_⟩, below_setRow hb (Nat.le_refl _) _, (Array.getElem?_eq_some_iff.1 hh).1⟩
  rw [cell_of_row _ g (0 + i) _ 3 (0, 0) hh]
  simp only [List.take_zero, List.nil_append, Nat.zero_add, List.getElem?_toArray]
  rw [List.getElem?_append_left (by rw [icells_len]; exact hi)]
  simp [icells, hi]

/-- What lay in w2 does not lie in the block that comes next. -/
theorem asgSlN_before {w2 w3 : World} {a : Option Addr} {n : Nat} {L : Nat → Asg} (h : AsgSl w2 a n L) (hb : Below w2.heap.size w2 w3) : AsgSlN w3 w2.heap.size a n L := by
  refine asgSlN_of (h.later hb) ?_
  intro b o e hn
  obtain ⟨b', o', e', hc⟩ := h.pos hn
  rw [e] at e'
  cases e'
  have := (hc 0 hn).lt
  omega
theorem intSlN_before {w2 w3 : World} {a : Option Addr} {n : Nat} {Z : Nat → Int} (h : IntSl w2 a n Z) (hb : Below w2.heap.size w2 w3) : IntSlN w3 w2.heap.size a n Z := by
  refine intSlN_of (h.later hb) ?_
  intro b o e hn
  obtain ⟨b', o', e', hc⟩ := h.pos hn
  rw [e] at e'
  cases e'
  have := World.block_lt_of_cell? w2 _ (hc 0 hn)
  have h2 : b < w2.heap.size := this
  omega
end Go.Proofs.Qxb6619209a
