/- FnCutAssignmentRoundTrip: the plain facts on bytes, lines and owned rows. -/
import Derived.Test.Qxb6619209aCutWalk
namespace Go.Proofs.Qxb6619209a
open Go.RowKit

def bv (l : List UInt8) : List Value := l.map fun c => .int .u8 (c.toNat : Int)
theorem bv_append (a b : List UInt8) : bv (a ++ b) = bv a ++ bv b := by simp [bv]
theorem bv_length (a : List UInt8) : (bv a).length = a.length := by simp [bv]
theorem bv_one (l : List UInt8) : ∀ u ∈ bv l, u.oneCell' = true := by
  intro u hu; simp [bv] at hu; obtain ⟨c, _, rfl⟩ := hu; rfl
theorem bv_at (l : List UInt8) (i : Nat) (h : i < l.length) : (bv l)[i]? = some (.int .u8 ((l.getD i 0).toNat : Int)) := by
  simp [bv, h]
theorem take_snoc (s : ByteArray) (k : Nat) (h : k < s.size) : s.data.toList.take (k + 1) = s.data.toList.take k ++ [s[k]] := by
  rw [List.take_succ_eq_append_getElem (by simpa using h)]; rfl
theorem take_full (s : ByteArray) : s.data.toList.take s.size = s.data.toList := List.take_of_length_le (by simp)
theorem data_len (s : ByteArray) : s.data.toList.length = s.size := by simp
theorem data_getD (s : ByteArray) (i : Nat) (h : i < s.size) : s.data.toList.getD i 0 = s[i] := by
  rw [List.getD_eq_getElem?_getD, List.getElem?_eq_getElem (by simpa using h)]; rfl

theorem Try.info5 : (Try.prog.info? 5).map (fun i => (i.zero, i.size, i.bytes)) = some (some (.int .u8 0), 1, 1) := by kernel_rfl

theorem cells_new (w : World) (xs : Array Value) (t : TypeId) : ∀ j u, xs.toList[j]? = some u → (w.alloc (.cells xs t)).cell? ((⟨w.heap.size, 0, none⟩ : Addr).add j) = some u := by
  intro j u hj
  have h : xs[j]? = some u := by simpa using hj
  rcases j with _ | j
  · simpa [Addr.add] using h
  · simpa [Addr.add] using h

/-- The whole line: keyword, three bytes, value. -/
def line (k v : ByteArray) : List UInt8 := k.data.toList ++ [32, 61, 32] ++ v.data.toList
def lineB (k : ByteArray) : List UInt8 := k.data.toList ++ [32, 61]
def byteAt (l : List UInt8) (i : Nat) : Int := ((l.getD i 0).toNat : Int)

theorem row_cells {w : World} {base g n cap : Nat} {l : List UInt8} (h : w.ownsRow base 5 1 (.slice (some ⟨g, 0, none⟩) n cap) n (bv l)) :
    l.length = n ∧ g < w.heap.size ∧ ∀ i, i < n → w.cell? ⟨g, i, none⟩ = some (.int .u8 (byteAt l i)) := by
  have hl : l.length = n := by have := h.1; simpa [bv_length] using this
  refine ⟨hl, ?_, fun i hi => ?_⟩
  · rcases h.2 with ⟨h', _⟩ | ⟨g', cap', cur, h', _, hg, _⟩
    · simp at h'
    · simp at h'
      obtain ⟨rfl, _⟩ := h'
      exact (Array.getElem?_eq_some_iff.1 hg).1
  · rw [h.cellAt i (by omega), bv_at l i (by omega)]; rfl

theorem getD_left (a b : List UInt8) (i : Nat) (h : i < a.length) : (a ++ b).getD i 0 = a.getD i 0 := by
  simp only [List.getD_eq_getElem?_getD, List.getElem?_append_left h]
theorem getD_right (a b : List UInt8) (i : Nat) (h : a.length ≤ i) : (a ++ b).getD i 0 = b.getD (i - a.length) 0 := by
  simp only [List.getD_eq_getElem?_getD, List.getElem?_append_right h]

theorem line_len (k v : ByteArray) : (line k v).length = k.size + 3 + v.size := by simp [line]; omega
theorem line_key (k v : ByteArray) (i : Nat) (h : i < k.size) : byteAt (line k v) i = (k[i].toNat : Int) := by
  unfold byteAt line
  rw [List.append_assoc, getD_left _ _ _ (by simpa using h), data_getD k i h]
theorem line_0 (k v : ByteArray) : byteAt (line k v) k.size = 32 := by
  unfold byteAt line
  rw [List.append_assoc, getD_right _ _ _ (by simp)]; simp
theorem line_1 (k v : ByteArray) : byteAt (line k v) (k.size + 1) = 61 := by
  unfold byteAt line
  rw [List.append_assoc, getD_right _ _ _ (by simp)]; simp
theorem line_2 (k v : ByteArray) : byteAt (line k v) (k.size + 2) = 32 := by
  unfold byteAt line
  rw [List.append_assoc, getD_right _ _ _ (by simp)]; simp
theorem line_val (k v : ByteArray) (i : Nat) (h : i < v.size) : byteAt (line k v) (k.size + 3 + i) = (v[i].toNat : Int) := by
  unfold byteAt line
  have e : k.size + 3 + i - (k.data.toList ++ [32, 61, 32]).length = i := by simp
  rw [getD_right _ _ _ (by simp), e, data_getD v i h]
theorem lineB_len (k : ByteArray) : (lineB k).length = k.size + 2 := by simp [lineB]
theorem lineB_key (k : ByteArray) (i : Nat) (h : i < k.size) : byteAt (lineB k) i = (k[i].toNat : Int) := by
  unfold byteAt lineB
  rw [getD_left _ _ _ (by simpa using h), data_getD k i h]
theorem lineB_0 (k : ByteArray) : byteAt (lineB k) k.size = 32 := by
  unfold byteAt lineB
  rw [getD_right _ _ _ (by simp)]; simp
theorem lineB_1 (k : ByteArray) : byteAt (lineB k) (k.size + 1) = 61 := by
  unfold byteAt lineB
  rw [getD_right _ _ _ (by simp)]; simp

end Go.Proofs.Qxb6619209a
