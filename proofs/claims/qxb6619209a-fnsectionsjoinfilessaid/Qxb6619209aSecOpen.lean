/- FnSections..: what the arguments' readings tell of memory. -/
import Derived.Test.Qxb6619209aSecSize
import Derived.Test.Qxb6619209aSecHeads
import Derived.ProofKit
import Derived.Deep.Slices
namespace Go.Proofs.Qxb6619209a
open Go.ChangeShapes Go.WideShapes Go.ChangeAt Go.RowKit Go.Deep

theorem Try.cells9 : Try.prog.cellsOf 9 = 1 := by kernel_rfl
theorem Try.cells3 : Try.prog.cellsOf 3 = 1 := by kernel_rfl
theorem Try.cells28 : Try.prog.cellsOf 28 = 1 := by kernel_rfl
theorem Try.cells43 : Try.prog.cellsOf 43 = 4 := by kernel_rfl
theorem Try.cells45 : Try.prog.cellsOf 45 = 5 := by kernel_rfl

section
variable {Hh : Type} {enc : TypeId × Value → Hh} {w : World} {base : Nat} {spare : Nat → Bool} {held : Bool}

/-- One assignment's four cells. -/
theorem open_asg {fuel : Nat} {cs : List Value} {x : DataW Hh × List MemPlace} (h : DataW.trod enc Try.prog w base spare held fuel 43 cs = some x) :
    ∃ a : Asg, cs = [.string a.k, .string a.v, .int .i64 a.l, .int .i64 a.c] := by
  obtain ⟨xs, n, _, _, hl, hxl, hf⟩ := DataW.trod_struct Try.underlying43 h
  rw [Try.cells43] at hl
  match cs, hl, xs, hxl with
  | [c0, c1, c2, c3], _, [y0, y1, y2, y3], _ =>
    have f0 : DataW.trod enc Try.prog w base spare held n 9 [c0] = some y0 := by simpa [Try.cells9] using hf 0 _ rfl
    have f1 : DataW.trod enc Try.prog w base spare held n 9 [c1] = some y1 := by simpa [Try.cells9] using hf 1 _ rfl
    have f2 : DataW.trod enc Try.prog w base spare held n 3 [c2] = some y2 := by simpa [Try.cells3] using hf 2 _ rfl
    have f3 : DataW.trod enc Try.prog w base spare held n 3 [c3] = some y3 := by simpa [Try.cells3] using hf 3 _ rfl
    obtain ⟨s0, e0, _⟩ := DataW.trod_string Try.underlying9 f0
    obtain ⟨s1, e1, _⟩ := DataW.trod_string Try.underlying9 f1
    obtain ⟨n2, e2, _⟩ := DataW.trod_int Try.underlying3 f2
    obtain ⟨n3, e3, _⟩ := DataW.trod_int Try.underlying3 f3
    simp only [List.cons.injEq, and_true] at e0 e1 e2 e3
    subst e0 e1 e2 e3
    exact ⟨⟨s0, s1, n2, n3⟩, rfl⟩

theorem addr_of {a : Addr} {v : Value} (h : w.cell? (a.add 0) = some v) : ∃ b off, a = ⟨b, off, none⟩ := by
  obtain ⟨b, off, spot⟩ := a
  have : spot = none := by
    simpa [Addr.add] using World.cell?_spot h
  subst this
  exact ⟨b, off, rfl⟩
theorem add_none (b off j : Nat) : (⟨b, off, none⟩ : Addr).add j = ⟨b, off + j, none⟩ := by
  unfold Addr.add
  split
  · subst_vars; rfl
  · rfl

/-- A slice of assignments. -/
theorem open_asgs {fuel : Nat} {a : Option Addr} {len cap : Nat} {x : DataW Hh × List MemPlace} (h : DataW.trod enc Try.prog w base spare held fuel 28 [.slice a len cap] = some x) :
    ∃ L, AsgSl w a len L ∧ len ≤ 9223372036854775807 ∧ (a = none → len = 0 ∧ cap = 0) := by
  rcases open_slice Try.underlying28 h with ⟨hcs, _⟩ | ⟨p, l, c, m, n, D, Pl, hcs, _, hlc, hml, hm, _, hel⟩
  · simp at hcs
    obtain ⟨rfl, rfl, rfl⟩ := hcs
    exact ⟨fun _ => ⟨ByteArray.empty, ByteArray.empty, 0, 0⟩, .inl rfl, by omega, fun _ => ⟨rfl, rfl⟩⟩
  · simp at hcs
    obtain ⟨rfl, rfl, rfl⟩ := hcs
    have hlm : len ≤ m := by rw [hm]; split <;> omega
    have each : ∀ i, i < len → ∃ a : Asg, ∀ j, j < 4 → w.cell? (p.add (i * 4 + j)) = [Value.string a.k, .string a.v, .int .i64 a.l, .int .i64 a.c][j]? := by
      intro i hi
      obtain ⟨cs', h1, h2⟩ := hel i (by omega)
      rw [Try.cells43] at h1
      obtain ⟨a, rfl⟩ := open_asg h2
      obtain ⟨_, _, hc⟩ := World.cells?_some h1
      exact ⟨a, fun j hj => by rw [← add_add]; exact hc j hj⟩
    have : Inhabited Asg := ⟨⟨ByteArray.empty, ByteArray.empty, 0, 0⟩⟩
    obtain ⟨L, hL⟩ := choose_lt each
    refine ⟨L, ?_, by unfold maxLen at hml; omega, fun h => by cases h⟩
    by_cases h0 : len = 0
    · exact .inl h0
    · have c00 := hL 0 (by omega) 0 (by omega)
      obtain ⟨b, off, rfl⟩ := addr_of (v := .string (L 0).k) (by simpa using c00)
      refine .inr ⟨b, off, rfl, fun i hi => ?_⟩
      have e := hL i hi
      have e0 := e 0 (by omega)
      have e1 := e 1 (by omega)
      have e2 := e 2 (by omega)
      have e3 := e 3 (by omega)
      rw [add_none] at e0 e1 e2 e3
      exact ⟨by simpa using e0, by simpa [Nat.add_assoc] using e1, by simpa [Nat.add_assoc] using e2, by simpa [Nat.add_assoc] using e3⟩

/-- One section's five cells. -/
theorem open_sec {fuel : Nat} {cs : List Value} {x : DataW Hh × List MemPlace} (h : DataW.trod enc Try.prog w base spare held fuel 45 cs = some x) :
    ∃ s : Sec, cs = [.string s.h.k, .string s.h.v, .int .i64 s.h.l, .int .i64 s.h.c, .slice s.a s.n s.cap] ∧ AsgSl w s.a s.n s.L ∧ s.n ≤ 9223372036854775807 ∧ (s.a = none → s.n = 0 ∧ s.cap = 0) := by
  obtain ⟨xs, n, _, _, hl, hxl, hf⟩ := DataW.trod_struct Try.underlying45 h
  rw [Try.cells45] at hl
  match cs, hl, xs, hxl with
  | [c0, c1, c2, c3, c4], _, [y0, y1], _ =>
    have f0 : DataW.trod enc Try.prog w base spare held n 43 [c0, c1, c2, c3] = some y0 := by simpa [Try.cells43] using hf 0 _ rfl
    have f1 : DataW.trod enc Try.prog w base spare held n 28 [c4] = some y1 := by simpa [Try.cells28] using hf 1 _ rfl
    obtain ⟨a, e0⟩ := open_asg f0
    simp only [List.cons.injEq, and_true] at e0
    obtain ⟨rfl, rfl, rfl, rfl⟩ := e0
    have hsl : ∃ a' l' c', c4 = .slice a' l' c' := by
      rcases open_slice Try.underlying28 f1 with ⟨hcs, _⟩ | ⟨p, l, c, m, n, D, Pl, hcs, _⟩
      · simp at hcs; exact ⟨_, _, _, hcs⟩
      · simp at hcs; exact ⟨_, _, _, hcs⟩
    obtain ⟨a', l', c', rfl⟩ := hsl
    obtain ⟨L, h1, h2, h3⟩ := open_asgs f1
    exact ⟨⟨a, a', l', c', L⟩, rfl, h1, h2, h3⟩

/-- A slice of sections. -/
theorem open_secs {fuel : Nat} {a : Option Addr} {len cap : Nat} {x : DataW Hh × List MemPlace} (h : DataW.trod enc Try.prog w base spare held fuel 30 [.slice a len cap] = some x) :
    ∃ S, SecSl w a len S ∧ len ≤ 9223372036854775807 ∧ (a = none → len = 0 ∧ cap = 0) := by
  rcases open_slice Try.underlying30 h with ⟨hcs, _⟩ | ⟨p, l, c, m, n, D, Pl, hcs, _, hlc, hml, hm, _, hel⟩
  · simp at hcs
    obtain ⟨rfl, rfl, rfl⟩ := hcs
    exact ⟨fun _ => ⟨⟨ByteArray.empty, ByteArray.empty, 0, 0⟩, none, 0, 0, fun _ => ⟨ByteArray.empty, ByteArray.empty, 0, 0⟩⟩, .inl rfl, by omega, fun _ => ⟨rfl, rfl⟩⟩
  · simp at hcs
    obtain ⟨rfl, rfl, rfl⟩ := hcs
    have hlm : len ≤ m := by rw [hm]; split <;> omega
    have each : ∀ i, i < len → ∃ s : Sec, (∀ j, j < 5 → w.cell? (p.add (i * 5 + j)) = [Value.string s.h.k, .string s.h.v, .int .i64 s.h.l, .int .i64 s.h.c, .slice s.a s.n s.cap][j]?) ∧ AsgSl w s.a s.n s.L ∧ s.n ≤ 9223372036854775807 ∧ (s.a = none → s.n = 0 ∧ s.cap = 0) := by
      intro i hi
      obtain ⟨cs', h1, h2⟩ := hel i (by omega)
      rw [Try.cells45] at h1
      obtain ⟨s, rfl, r⟩ := open_sec h2
      obtain ⟨_, _, hc⟩ := World.cells?_some h1
      exact ⟨s, fun j hj => by rw [← add_add]; exact hc j hj, r⟩
    have : Inhabited Sec := ⟨⟨⟨ByteArray.empty, ByteArray.empty, 0, 0⟩, none, 0, 0, fun _ => ⟨ByteArray.empty, ByteArray.empty, 0, 0⟩⟩⟩
    obtain ⟨S, hS⟩ := choose_lt each
    refine ⟨S, ?_, by unfold maxLen at hml; omega, fun h => by cases h⟩
    by_cases h0 : len = 0
    · exact .inl h0
    · have c00 := (hS 0 (by omega)).1 0 (by omega)
      obtain ⟨b, off, rfl⟩ := addr_of (v := .string (S 0).h.k) (by simpa using c00)
      refine .inr ⟨b, off, rfl, fun i hi => ?_⟩
      obtain ⟨e, r1, r2, r3⟩ := hS i hi
      have e0 := e 0 (by omega)
      have e1 := e 1 (by omega)
      have e2 := e 2 (by omega)
      have e3 := e 3 (by omega)
      have e4 := e 4 (by omega)
      rw [add_none] at e0 e1 e2 e3 e4
      exact ⟨⟨by simpa using e0, by simpa [Nat.add_assoc] using e1, by simpa [Nat.add_assoc] using e2, by simpa [Nat.add_assoc] using e3⟩, by simpa [Nat.add_assoc] using e4, r1, r2, r3⟩

/-- A slice of ints. -/
theorem open_heads {fuel : Nat} {a : Option Addr} {len cap : Nat} {x : DataW Hh × List MemPlace} (h : DataW.trod enc Try.prog w base spare held fuel 29 [.slice a len cap] = some x) :
    ∃ Z, IntSl w a len Z ∧ len ≤ 9223372036854775807 ∧ (a = none → len = 0 ∧ cap = 0) := by
  rcases open_slice Try.underlying29 h with ⟨hcs, _⟩ | ⟨p, l, c, m, n, D, Pl, hcs, _, hlc, hml, hm, _, hel⟩
  · simp at hcs
    obtain ⟨rfl, rfl, rfl⟩ := hcs
    exact ⟨fun _ => 0, .inl rfl, by omega, fun _ => ⟨rfl, rfl⟩⟩
  · simp at hcs
    obtain ⟨rfl, rfl, rfl⟩ := hcs
    have hlm : len ≤ m := by rw [hm]; split <;> omega
    have each : ∀ i, i < len → ∃ z : Int, w.cell? (p.add i) = some (.int .i64 z) := by
      intro i hi
      obtain ⟨cs', h1, h2⟩ := hel i (by omega)
      rw [Try.cells3] at h1
      obtain ⟨z, rfl, _⟩ := DataW.trod_int Try.underlying3 h2
      obtain ⟨_, _, hc⟩ := World.cells?_some h1
      have := hc 0 (by omega)
      rw [add_add] at this
      exact ⟨z, by simpa using this⟩
    obtain ⟨Z, hZ⟩ := choose_lt each
    refine ⟨Z, ?_, by unfold maxLen at hml; omega, fun h => by cases h⟩
    by_cases h0 : len = 0
    · exact .inl h0
    · obtain ⟨b, off, rfl⟩ := addr_of (hZ 0 (by omega))
      refine .inr ⟨b, off, rfl, fun i hi => ?_⟩
      have := hZ i hi
      rw [add_none] at this
      exact this
end
end Go.Proofs.Qxb6619209a
