/- zzCloneBytes (5), zzBytes_.. (4). -/
import Derived.Test.Qxb6617870aDoorAmt
import Derived.Deep.OwnRows
import Derived.RowKit3
namespace Go.Proofs.Qxb6617870aDoor
open Go.RowKit Go.Sort Go.Lib

/-- n bytes lie at a; nothing is said where there are none. -/
def ByteSl (w : World) (a : Option Addr) (n : Nat) (F : Nat → Int) : Prop :=
  n = 0 ∨ ∃ b off, a = some ⟨b, off, none⟩ ∧ ∀ i, i < n → w.cell? ⟨b, off + i, none⟩ = some (.int .u8 (F i))
theorem ByteSl.later {w w' : World} {a : Option Addr} {n : Nat} {F : Nat → Int} (h : ByteSl w a n F) (hb : Below w.heap.size w w') : ByteSl w' a n F := by
  rcases h with h | ⟨b, off, rfl, hc⟩
  · exact .inl h
  · exact .inr ⟨b, off, rfl, fun i hi => (hb.cell (p := ⟨b, off + i, none⟩) (World.block_lt_of_cell? w _ (hc i hi))).trans (hc i hi)⟩
theorem ByteSl.pos {w : World} {a : Option Addr} {n : Nat} {F : Nat → Int} (h : ByteSl w a n F) (hn : 0 < n) : ∃ b off, a = some ⟨b, off, none⟩ ∧ ∀ i, i < n → w.cell? ⟨b, off + i, none⟩ = some (.int .u8 (F i)) := by
  rcases h with h | h
  · omega
  · exact h
def fcells (n : Nat) (F : Nat → Int) : List Value := (List.range n).map fun i => .int .u8 (F i)

theorem rowIs_of_owns {w : World} {base e size g n cap : Nat} {xs : List Value} (h : w.ownsRow base e size (.slice (some ⟨g, 0, none⟩) n cap) n xs) : ∃ f, w.rowIs g e (cap * size) f := by
  rcases h.2 with ⟨h', _⟩ | ⟨g', cap', cur, h', _, hg, _, _, hsz, _⟩
  · simp at h'
  · simp at h'
    obtain ⟨rfl, rfl⟩ := h'
    refine ⟨fun i => cur[i]?.getD (.bool false), cur, hg, hsz, fun i hi => ?_⟩
    have e := Array.getElem?_eq_getElem (xs := cur) (i := i) (by omega)
    simp [e]
theorem full_of_row {w : World} {g n : Nat} {f : Nat → Value} {F : Nat → Int} (h : w.rowIs g 5 n f) (hn : n ≤ maxLen) (hf : ∀ i, i < n → f i = .int .u8 (F i)) : Full w (.slice (some ⟨g, 0, none⟩) n n) n (fcells n F) := by
  obtain ⟨c, hb, hs, hc⟩ := h
  refine .inr ⟨g, rfl, ⟨by simp [fcells], .inr ⟨g, n, c, rfl, Nat.zero_le _, hb, Nat.le_refl _, hn, by omega, ?_⟩⟩⟩
  rw [List.take_of_length_le (by simp [hs])]
  refine List.ext_getElem? fun i => ?_
  by_cases hi : i < n
  · rw [Array.getElem?_toList, hc i hi, hf i hi]
    simp [fcells, hi]
  · rw [List.getElem?_eq_none (by simp [hs]; omega), List.getElem?_eq_none (by simp [fcells]; omega)]
theorem fill_store {w : World} {g m k : Nat} {f : Nat → Value} {F : Nat → Int} (h : w.rowIs g 5 m f) (hin : ∀ i, i < k → f i = .int .u8 (F i)) :
    ∃ f', (w.setCell ⟨g, k, none⟩ (.int .u8 (F k))).rowIs g 5 m f' ∧ ∀ i, i < k + 1 → f' i = .int .u8 (F i) := by
  refine ⟨_, h.set k _, fun i hi => ?_⟩
  show (if i = k then _ else _) = _
  by_cases e : i = k
  · rw [if_pos e, e]
  · rw [if_neg e]; exact hin i (by omega)

theorem qeq22 (W : World) (a : Option Addr) (n c n' c' : Nat) : (binOp .eql 22 (.slice a n c) (.slice none n' c')).run Tryd.prog W = .ok (.bool a.isNone) W := Lib.run_eql_slice_nil W _ _ a n c n' c' Tryd.underlying22

theorem clone_nil (n cap : Nat) (w : World) : Calls Tryd.prog 5 #[.slice none n cap] w fun e w' => e = .returned (.slice none 0 0) ∧ w = w' := by
  have qe := qeq22
  go_enter Tryd.func5, Tryd.ntmps5
  go_wp2
  go_ret
  exact ⟨rfl, rfl⟩

set_option maxHeartbeats 800000 in
theorem clone_some (x : Addr) (n cap : Nat) (F : Nat → Int) (w : World) (hn : n ≤ 1048576) (hs : ByteSl w (some x) n F) :
    Calls Tryd.prog 5 #[.slice (some x) n cap] w fun e w' => e = .returned (.slice (some ⟨w.heap.size, 0, none⟩) n n) ∧ Below w.heap.size w w' ∧ ∃ f, w'.rowIs w.heap.size 5 n f ∧ ∀ i, i < n → f i = .int .u8 (F i) := by
  have qe := qeq22
  have HS : Hid (ByteSl w (some x) n F) := ⟨hs⟩
  clear hs
  obtain ⟨i0, hi, hz0, hz1, hz2⟩ := info_parts Tryd.info5
  go_enter Tryd.func5, Tryd.ntmps5
  go_wp2_with (at_make; refine wpList_make_full _ rfl _ _ 22 rfl w.heap.size 5 i0 (.int .u8 0) 1 Tryd.underlying22 hi hz0 hz1 _ _ _ _ n rfl rfl rfl rfl ?b2 ?b3 (Nat.le_refl _) ?_)
  case b2 => rw [hz2]; omega
  case b3 => unfold maxLen; omega
  intro w0 hown hgrow
  have hb0 : Below w.heap.size w w0 := (Below.refl _ _).grown hgrow (Nat.le_refl _) (fun k h => by cases h)
  obtain ⟨f0, hf0⟩ := rowIs_of_owns hown
  rw [Nat.mul_one] at hf0
  clear hown hgrow qe hi hz0 hz1 hz2
  go_wp2
  go_loopw [4] (fun i wr => ∃ k : Nat, k ≤ n ∧ i = .int .i64 k ∧ Below w.heap.size w wr ∧ ∃ f, wr.rowIs w.heap.size 5 n f ∧ ∀ i, i < k → f i = .int .u8 (F i)) (fun i _ => n - (RowKit.intOf i).toNat)
  case atStart => exact ⟨0, Nat.zero_le _, rfl, hb0, f0, hf0, fun i hi => by omega⟩
  case round =>
    clear hb0 hf0
    obtain ⟨k, hk, rfl, hb, f, hf, hin⟩ := hrel
    have HIN : Hid (∀ i, i < k → f i = .int .u8 (F i)) := ⟨hin⟩
    clear hin
    by_cases hlt : k < n
    · obtain ⟨b, off, hx, hc⟩ := HS.out.pos (by omega)
      obtain rfl : x = ⟨b, off, none⟩ := by simpa using hx
      have d0 := hc k hlt
      have hbl : b < w.heap.size := World.block_lt_of_cell? w _ d0
      clear hc hx HS
      have c0 := (hb.cell (p := ⟨b, off + k, none⟩) hbl).trans d0
      clear d0
      have e0 := hf.cell (i := k) hlt
      have z0 := hf.frozen k
      have HB : Hid _ := ⟨hb⟩
      have HF : Hid _ := ⟨hf⟩
      clear hb hf
      go_wp2
      go_roundw
      case rel => exact ⟨k + 1, by omega, by go_num, HB.out.setCell (Nat.le_refl _) _, fill_store HF.out HIN.out⟩
      case measure => simp [RowKit.intOf]; omega
    · obtain rfl : k = n := by omega
      go_wp2
      go_ret
      exact ⟨rfl, hb, f, hf, HIN.out⟩

/-- zzCloneBytes. -/
theorem clone_any (a : Option Addr) (n cap : Nat) (F : Nat → Int) (w : World) (hn : n ≤ 1048576) (hnil : a = none → n = 0) (hs : ByteSl w a n F) :
    Calls Tryd.prog 5 #[.slice a n cap] w fun e w' => ∃ a', e = .returned (.slice a' n n) ∧ Below w.heap.size w w' ∧ Full w' (.slice a' n n) n (fcells n F) ∧ (a' = none → n = 0) ∧ ByteSl w' a' n F := by
  cases a with
  | none =>
    obtain rfl := hnil rfl
    refine (clone_nil 0 cap w).mono ?_
    rintro e w' ⟨rfl, rfl⟩
    exact ⟨none, rfl, Below.refl _ _, .inl ⟨rfl, rfl, rfl⟩, fun _ => rfl, .inl rfl⟩
  | some x =>
    refine (clone_some x n cap F w hn hs).mono ?_
    rintro e w' ⟨rfl, hb, f, hf, hin⟩
    exact ⟨_, rfl, hb, full_of_row hf (by unfold maxLen; omega) hin, (fun h => by cases h), .inr ⟨_, 0, rfl, fun i hi => by rw [Nat.zero_add, hf.cell hi, hin i hi]⟩⟩

theorem bytes_in (v : Value) (a : Option Addr) (n cap : Nat) (hn : n ≤ 1048576) (w : World) : Calls Tryd.prog 4 #[v, .slice a n cap] w fun e w' => e = .returned (.bool true) ∧ w = w' := by
  have hn' : (n : Int) ≤ 1048576 := by omega
  go_enter Tryd.func4, Tryd.ntmps4
  go_wp2
  go_ret
  exact ⟨rfl, rfl⟩
theorem bytes_out (v : Value) (a : Option Addr) (n cap : Nat) (hn : 1048576 < n) (w : World) : Calls Tryd.prog 4 #[v, .slice a n cap] w fun e w' => e = .returned (.bool false) ∧ w = w' := by
  have hn' : (1048576 : Int) < (n : Int) := by omega
  go_enter Tryd.func4, Tryd.ntmps4
  go_wp2
  go_ret
  exact ⟨rfl, rfl⟩
end Go.Proofs.Qxb6617870aDoor
