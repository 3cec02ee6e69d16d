/- strconv.AppendUint (9, 10) at base 10 where the row is full (or nil): what comes back lies in a block of its own. -/
import Derived.Test.Qxb6617870aDoorApp
import Derived.ArgAppend
import Derived.Deep.Onto
namespace Go.Proofs.Qxb6617870aDoor
open Go.RowKit Go.Sort Go.Lib

/-- A row of bytes without room behind it, or nil. -/
def Full (w : World) (sv : Value) (n : Nat) (xs : List Value) : Prop :=
  (sv = .slice none 0 0 ∧ n = 0 ∧ xs = []) ∨ ∃ g, sv = .slice (some ⟨g, 0, none⟩) n n ∧ w.ownsRow 0 5 1 sv n xs
theorem Full.later {w w' : World} {sv : Value} {n : Nat} {xs : List Value} (h : Full w sv n xs) (hb : Below w.heap.size w w') : Full w' sv n xs := by
  rcases h with h | ⟨g, hs, ho⟩
  · exact .inl h
  · exact .inr ⟨g, hs, ho.kept (row := none) ⟨hb.os, hb.tape, hb.output, hb.size, fun k hk _ => hb.block k hk⟩ (by cases hv : sv.ownBlock <;> simp)⟩
theorem owns_rebase {w : World} {B B' : Nat} {e size g n cap m : Nat} {xs : List Value} (h : w.ownsRow B e size (.slice (some ⟨g, 0, none⟩) n cap) m xs) (hg : B' ≤ g) : w.ownsRow B' e size (.slice (some ⟨g, 0, none⟩) n cap) m xs := by
  refine ⟨h.1, ?_⟩
  rcases h.2 with ⟨h', _⟩ | ⟨g', cap', cur, hv, _, r⟩
  · simp at h'
  · refine .inr ⟨g', cap', cur, hv, ?_, r⟩
    simp at hv
    omega
theorem grown_below {w w' : World} (h : w.grownBy w' none) : Below w.heap.size w w' := (Below.refl _ _).grown h (Nat.le_refl _) (fun k h => by cases h)

theorem wpList_append_full (w : World) {ops : Array Oper} {rest : List Oper} {o : Oper} {a : Act} {Q : Exit → Act → World → Prop}
    (hg : o.guard = none) (s x : Operand) (hop : o.op = Op.call { callee := Callee.builtin Builtin.append, args := #[s, x], argTypes := #[22, 22] })
    (sv : Value) (n : Nat) (xs : List Value) (hs : a.eval s = sv) (hF : Full w sv n xs)
    (ad : Addr) (m c : Nat) (news : List Value) (hx : a.eval x = .slice (some ad) m c) (hn : news.length = m) (hc : ∀ j u, news[j]? = some u → w.cell? (ad.add j) = some u) (h1c : ∀ u ∈ news, u.oneCell' = true)
    (hm : 0 < m) (b2 : n + m ≤ 140737488355328)
    (hK : ∀ v' w', w'.ownsRow w.heap.size 5 1 v' (n + m) (xs ++ news) → w.grownBy w' none → wpList Tryd.prog ops Q rest (a.put o.dst v') w') :
    wpList Tryd.prog ops Q (o :: rest) a w := by
  obtain ⟨i0, hi, hz0, hz1, hz2⟩ := info_parts Tryd.info5
  rcases hF with ⟨rfl, rfl, rfl⟩ | ⟨g, rfl, ho⟩
  · exact wpList_append_grows w hg s x 22 hop 5 i0 _ 1 1 Tryd.underlying22 hi hz0 hz1 hz2 rfl (by decide) none 0 0 [] hs (fun _ => ⟨rfl, rfl⟩) rfl (fun b h => by cases h) ad m c news hx (by omega) hc h1c (by omega) (by unfold maxLen; omega) (by omega) hK
  · exact wpList_append_grows w hg s x 22 hop 5 i0 _ 1 1 Tryd.underlying22 hi hz0 hz1 hz2 rfl (by decide) (some ⟨g, 0, none⟩) n n xs hs (fun h => by cases h) ho.1 (fun b h => by cases h; exact ho.cells (g := g) rfl) ad m c news hx (by omega) hc h1c (by omega) (by unfold maxLen; omega) (by omega) hK

theorem wpList_append_full_string (w : World) {ops : Array Oper} {rest : List Oper} {o : Oper} {a : Act} {Q : Exit → Act → World → Prop}
    (hg : o.guard = none) (sl x : Operand) (hop : o.op = .call { callee := .builtin .append, args := #[sl, x], argTypes := #[22, 9] })
    (sv : Value) (n : Nat) (xs : List Value) (hs : a.eval sl = sv) (hF : Full w sv n xs) (s : ByteArray) (hx : a.eval x = .string s) (hm : 0 < s.size) (b2 : n + s.size ≤ 140737488355328)
    (hK : ∀ v' w', w'.ownsRow w.heap.size 5 1 v' (n + s.size) (xs ++ strCells s) → w.grownBy w' none → wpList Tryd.prog ops Q rest (a.put o.dst v') w') :
    wpList Tryd.prog ops Q (o :: rest) a w := by
  obtain ⟨i0, hi, hz0, hz1, hz2⟩ := info_parts Tryd.info5
  rcases hF with ⟨rfl, rfl, rfl⟩ | ⟨g, rfl, ho⟩
  · exact Lib.wpList_append_own_string w hg sl x 22 9 hop w.heap.size 5 i0 Tryd.underlying22 Tryd.underlying9 hi hz0 hz1 hz2 _ 0 [] hs (World.ownsRow_nil _ _ _ _) s hx (by unfold maxLen; omega) b2 (Nat.le_refl _) (fun v' w' h1 h2 _ => hK v' w' h1 h2)
  · refine wpList_plain hg fun K hK' => ?_
    obtain ⟨v', w', hr, h2, h3, h4⟩ := run_append_own_string (P := Tryd.prog) w 0 22 9 o.type 5 i0 Tryd.underlying22 Tryd.underlying9 hi hz0 hz1 hz2 _ n xs ho s (by unfold maxLen; omega) b2 (Nat.zero_le _)
    have hr' := run_append_grow_string (P := Tryd.prog) w 22 9 o.type 5 i0 (.int .u8 0) Tryd.underlying22 Tryd.underlying9 hi hz0 ⟨g, 0, none⟩ n n xs (by rw [hz1]; exact ho.1) (ho.cells (g := g) rfl) s (by omega) (by omega) (by rw [hz2]; exact growslice_fits (by omega) (by omega))
    rw [hr] at hr'
    injection hr' with e1 e2
    subst e1
    unfold Oper.wp execOp
    simp only [hop, resolve, invoke, builtin, Sem.run_bind, Sem.run_pure, Result.andThen_ok, List.map_toArray, List.map_cons, List.map_nil, hs, hx, hr]
    refine hK' _ _ (hK _ w' (owns_rebase h2 (Nat.le_refl _)) ?_)
    rw [e2]
    exact ⟨rfl, rfl, rfl, by simp, fun k hk _ => Below.heap_alloc w.drew _ k hk⟩
set_option maxHeartbeats 6400000 in
set_option maxRecDepth 100000 in
theorem appF_small (n u : Nat) (hu : u < 100) (sv : Value) (xs : List Value) (w : World) (hFu : Full w sv n xs) (hlim : n + 20 ≤ 140737488355328) :
    Calls Tryd.prog 10 #[sv, .int .u64 u, .int .i64 10] w fun e w' => ∃ v', e = .returned v' ∧ w'.ownsRow w.heap.size 5 1 v' (n + (Lib.decDigits u).length) (xs ++ Lib.byteCells (Lib.decDigits u)) ∧ Below w.heap.size w w' := by
  obtain ⟨i0, hi, hz0, hz1, hz2⟩ := info_parts Tryd.info5
  have hlen := digits_len u (by omega)
  have hsz : (⟨(Lib.decDigits u).toArray⟩ : ByteArray).size = (Lib.decDigits u).length := by simp [ByteArray.size]
  have iu : (u : Int) < 100 := by omega
  have hpos : 0 < (Lib.decDigits u).length := by rw [Lib.decDigits_length]; exact Lib.nDigits_pos u
  go_enter Tryd.func10, Tryd.ntmps10
  go_wp2_with (first
    | (go_at_call 11; refine (Tryd.internal_strconv_small u hu _).mono ?_; rintro e w' ⟨rfl, rfl⟩)
    | (at_builtin; refine wpList_append_full_string _ rfl _ _ rfl _ _ _ rfl hFu ⟨(Lib.decDigits u).toArray⟩ rfl (by rw [hsz]; omega) (by rw [hsz]; omega) ?_))
  intro v' w1 hown' hgrow
  go_wp2
  go_ret
  exact ⟨v', rfl, hown', grown_below hgrow⟩

set_option maxHeartbeats 12800000 in
set_option maxRecDepth 100000 in
theorem appF_big (n u : Nat) (hu : 100 ≤ u) (hu64 : u < 18446744073709551616) (sv : Value) (xs : List Value) (w : World) (hFu : Full w sv n xs) (hlim : n + 20 ≤ 140737488355328)
    (htab : Lib.TabIs Tryd.prog w Tryd.tabName .u64 Lib.pow10Tab) :
    Calls Tryd.prog 10 #[sv, .int .u64 u, .int .i64 10] w fun e w' => ∃ v', e = .returned v' ∧ w'.ownsRow w.heap.size 5 1 v' (n + (Lib.decDigits u).length) (xs ++ Lib.byteCells (Lib.decDigits u)) ∧ Below w.heap.size w w' := by
  obtain ⟨i0, hi, hz0, hz1, hz2⟩ := info_parts Tryd.info5
  have hu1 : 1 ≤ u := by omega
  have hnd20 : Lib.nDigits u ≤ 20 := by have := digits_len u hu64; rw [Lib.decDigits_length] at this; exact this
  have hal : Tryd.prog.arrayLen 32 = 24 := by kernel_rfl
  have hsl : ∀ W, (Instr.sliceAt 32 (.pointer (some ⟨w.heap.size, 0, none⟩)) none (some (.int .i64 (Lib.nDigits u : Int))) none).run Tryd.prog W = .ok (.slice (some ⟨w.heap.size, 0, none⟩) (Lib.nDigits u) 24) W := fun W => by
    rw [run_sliceAt_array_h W 32 ⟨w.heap.size, 0, none⟩ (by kernel_rfl) .i64 (Lib.nDigits u : Int) (by omega) (by rw [hal]; omega)]
    rw [hal]
    go_simp
  have hH0 := Lib.holds_zero0 w 32 (Lib.nDigits u) (by omega)
  have hfmt := Tryd.internal_strconv_formatBase10 w.heap.size 0 24 u (Array.replicate (Lib.nDigits u) 0) (w.alloc (.cells Lib.zeros24 32)) hH0 (by rw [Array.size_replicate]; exact Lib.lt_pow_nDigits u) hu64 (by rw [Array.size_replicate]; omega)
  rw [Array.size_replicate] at hfmt
  have HH0 := Lib.hid hH0
  have iu : (100 : Int) ≤ (u : Int) := by omega
  clear hH0 hal
  go_enter Tryd.func10, Tryd.ntmps10
  go_wp2_with (first
    | (go_at_call 12; refine (Tryd.internal_strconv_numDigits u hu1 hu64 _ (Lib.tabIs_alloc htab _)).mono ?_; rintro e w' ⟨rfl, rfl⟩))
  refine hfmt.mono ?_
  rintro e w' ⟨rfl, k, v', dk, rfl, hF⟩
  have hcells : ∀ j u', (Lib.byteCells (Lib.decDigits u))[j]? = some u' → ((putRow (fun (b : UInt8) => Value.int .u8 (b.toNat : Int)) (w.alloc (.cells Lib.zeros24 32)) w.heap.size 0 dk).drewN k).cell? ((⟨w.heap.size, 0, none⟩ : Addr).add j) = some u' := by
    intro j u' hj
    have hjl : j < (Lib.decDigits u).length := by
      have h5 := (List.getElem?_eq_some_iff.1 hj).1
      rwa [Lib.byteCells_length] at h5
    have e5 : (Lib.byteCells (Lib.decDigits u))[j]? = some (Value.int .u8 ((Lib.decDigits u)[j].toNat : Int)) := by simp [Lib.byteCells, hjl]
    rw [e5] at hj
    cases hj
    rw [Lib.row_is_numeral hF j hjl, Lib.add_plain, World.cell?_drewN]
    exact cell?_putRow (fun (b : UInt8) => Value.int .u8 (b.toNat : Int)) _ w.heap.size 0 _ dk HH0.out (by rw [hF.size, Array.size_replicate]) j (by rw [hF.size]; rw [Lib.decDigits_length] at hjl; exact hjl)
  obtain ⟨os, eo⟩ := Lib.fin_at w (.cells Lib.zeros24 32) dk k 0
  have hnx2 : Below w.heap.size w ((putRow (fun (b : UInt8) => Value.int .u8 (b.toNat : Int)) (w.alloc (.cells Lib.zeros24 32)) w.heap.size 0 dk).drewN k) := by rw [eo]; exact Lib.below_grow _ w (Nat.le_refl _) k os
  generalize (putRow (fun (b : UInt8) => Value.int .u8 (b.toNat : Int)) (w.alloc (.cells Lib.zeros24 32)) w.heap.size 0 dk).drewN k = W2 at hcells hnx2 ⊢
  clear eo HH0 hfmt
  have hsz2 := hnx2.size
  go_wp2_with (at_builtin; refine wpList_append_full _ rfl _ _ rfl _ _ _ rfl (hFu.later hnx2) ⟨w.heap.size, 0, none⟩ (Lib.nDigits u) 24 (Lib.byteCells (Lib.decDigits u)) rfl ?c0 hcells ?c2 ?c3 ?c4 ?_)
  case c0 => rw [Lib.byteCells_length, Lib.decDigits_length]
  case c2 => intro u' hu'; simp only [Lib.byteCells, List.mem_map] at hu'; obtain ⟨b, _, rfl⟩ := hu'; rfl
  case c3 => have := Lib.nDigits_pos u; omega
  case c4 => omega
  intro v2 w3 hown' hgrow
  go_wp2
  go_ret
  refine ⟨v2, rfl, ?_, hnx2.trans ((grown_below hgrow).mono hsz2)⟩
  rw [Lib.decDigits_length]
  exact hown'.mono hsz2

/-- strconv.AppendUint, at base 10, where the row is full. -/
theorem appF_any (n u : Nat) (hu64 : u < 18446744073709551616) (sv : Value) (xs : List Value) (w : World) (hF : Full w sv n xs) (hlim : n + 20 ≤ 140737488355328)
    (htab : Lib.TabIs Tryd.prog w Tryd.tabName .u64 Lib.pow10Tab) :
    Calls Tryd.prog 9 #[sv, .int .u64 u, .int .i64 10] w fun e w' => ∃ v', e = .returned v' ∧ w'.ownsRow w.heap.size 5 1 v' (n + (Lib.decDigits u).length) (xs ++ Lib.byteCells (Lib.decDigits u)) ∧ Below w.heap.size w w' := by
  have C : Calls Tryd.prog 10 #[sv, .int .u64 u, .int .i64 10] w fun e w' => ∃ v', e = .returned v' ∧ w'.ownsRow w.heap.size 5 1 v' (n + (Lib.decDigits u).length) (xs ++ Lib.byteCells (Lib.decDigits u)) ∧ Below w.heap.size w w' := by
    by_cases h : u < 100
    · exact appF_small n u h sv xs w hF hlim
    · exact appF_big n u (by omega) hu64 sv xs w hF hlim htab
  clear hF htab
  go_enter Tryd.func9, Tryd.ntmps9
  go_wp2_with (go_at_call 10; refine C.mono ?_; rintro e w' ⟨v', rfl, h1, h2⟩)
  go_ret
  exact ⟨v', rfl, h1, h2⟩
end Go.Proofs.Qxb6617870aDoor
