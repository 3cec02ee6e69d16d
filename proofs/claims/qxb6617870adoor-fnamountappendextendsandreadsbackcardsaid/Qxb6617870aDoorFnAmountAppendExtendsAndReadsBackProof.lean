/-
  THE PROOF OF the tied card FnAmountAppendExtendsAndReadsBackCard (zzlaws_money_b1). The walk: Qxb6617870aDoorLaw; the callees' contracts: Qxb6617870aDoor{Read, App, Full, Amt, Clone, Dig}. The row's frame: the guide's for a row with 'laid'.
-/
import Derived.Test.Qxb6617870aDoorRows
import Derived.Test.Qxb6617870aDoorTie
import Derived.Test.Qxb6617870aDoorCards
import Derived.Test.Qxb6617870aDoorLaw
import Derived.WalkKit
import Derived.ProofKit
import Derived.LaidMore
import Derived.OpenShut
import Derived.ShutString
import Derived.ChangeOld
import Derived.Below
import Derived.Stop.Joined
import Derived.Lib.LaidTab
import Derived.Deep.Slices
import Derived.SevenTiedAt
namespace Go.Proofs.Qxb6617870aDoor.fnAmountAppendExtendsAndReadsBack
open Go.ChangeShapes Go.WideShapes Go.ChangeAt Go.RowKit

theorem own : ownKnob Tryd.prog.godebug = none := by kernel_rfl
theorem laidOut : laidOutB Tryd.prog = true := by kernel_rfl
theorem cells5 : Tryd.prog.cellsOf 5 = 1 := by kernel_rfl
theorem cells26 : Tryd.prog.cellsOf 26 = 1 := by kernel_rfl
theorem cells39 : Tryd.prog.cellsOf 39 = 20 := by kernel_rfl
theorem gTab : Tryd.prog.globalNamed Tryd.tabName = some 0 := by kernel_rfl
theorem tTab : (Tryd.prog.globals[0]?).map (·.type) = some 39 := by kernel_rfl
theorem tabDatum : (Rows.laid_internal_strconv_uint64pow10 : DataW Unit) = Lib.tabData .u64 Lib.pow10Tab := by kernel_rfl

/-- What the row's condition gives the walk: the table of the powers of ten. -/
theorem tab_of_laid {W : World} (h : laidMetH Tryd.prog Rows.fnAmountAppendExtendsAndReadsBackRow.laid W) : Lib.TabIs Tryd.prog W Tryd.tabName .u64 Lib.pow10Tab := by
  rw [MakeChecks.laidMetH_plain _ _ _ (by kernel_rfl)] at h
  obtain ⟨ps, ⟨g0, t0, cs0, f0, p0, q0, _, _, _, _, ⟨g1, t1, cs1, f1, p1, q1, _, _, _, _, ⟨g2, t2, cs2, f2, p2, q2, hg2, ht2, hv2, hd2, _, _⟩, _⟩, _⟩, _, _⟩ := h
  obtain rfl := Option.some.inj (gTab.symm.trans hg2)
  obtain rfl := Option.some.inj (tTab.symm.trans ht2)
  rw [tabDatum] at hd2
  unfold Lib.TabIs
  refine Eq.trans hv2 ?_
  rw [← Lib.cells_of_tab Tryd.underlying39 Tryd.underlying26 cells26 cells39 hd2]

/-- The door's own heap meets the condition. -/
theorem door_met (os : Os) (args : Array Value) : laidMetH Tryd.prog Rows.fnAmountAppendExtendsAndReadsBackRow.laid ((World.doorLaid Tryd.prog 24 os).forCall (fun _ _ => 0) ⟨#[], args, []⟩).memory :=
  laidMetH_of_parts3 (fuel := 8) (laidMet_of_run' 8 (by kernel_rfl) (by kernel_rfl)) (by kernel_rfl) (by kernel_rfl)

/-- A []byte that came in. -/
theorem open_bytes {Hh : Type} {enc : TypeId × Value → Hh} {w : World} {base : Nat} {spare : Nat → Bool} {held : Bool} {fuel : Nat} {a : Option Addr} {len cap : Nat} {x : DataW Hh × List MemPlace} (h : DataW.trod enc Tryd.prog w base spare held fuel 22 [.slice a len cap] = some x) :
    ∃ F, ByteSl w a len F ∧ (a = none → len = 0) := by
  rcases open_ints Tryd.underlying22 Tryd.underlying5 cells5 h with ⟨hcs, _⟩ | ⟨p, l, c, zs, hcs, _, hlc, _, hz, _, hc, _⟩
  · simp at hcs
    obtain ⟨rfl, rfl, rfl⟩ := hcs
    exact ⟨fun _ => 0, .inl rfl, fun _ => rfl⟩
  · simp at hcs
    obtain ⟨rfl, rfl, rfl⟩ := hcs
    have hlm : len ≤ zs.length := by rw [hz]; split <;> omega
    refine ⟨fun i => zs.getD i 0, ?_, fun h => by cases h⟩
    by_cases h0 : len = 0
    · exact .inl h0
    · obtain ⟨b, off, spot⟩ := p
      have c0 := hc 0 (by omega)
      obtain rfl : spot = none := by simpa [Addr.add] using World.cell?_spot c0
      refine .inr ⟨b, off, rfl, fun i hi => ?_⟩
      have := hc i (by omega)
      rwa [Lib.add_plain] at this

/-! ### STEP 1: THE WALK -/
theorem walk (a0 : Int) (w0 : (Lit.int .i64 a0).wf = true) (b : Option Addr) (n cap : Nat) (F : Nat → Int) (w : World) (hnil : b = none → n = 0) (hs : ByteSl w b n F)
    (htab : Lib.TabIs Tryd.prog w Tryd.tabName .u64 Lib.pow10Tab) :
    Calls Tryd.prog 3 #[.int .i64 a0, .slice b n cap] w fun e w' => e = .returned (.bool true) ∧ Below w.heap.size w w' := by
  obtain ⟨l0, u0⟩ := bounds_i64 w0
  by_cases h : n ≤ 1048576
  · exact law_in a0 l0 u0 b n cap F w h hnil hs htab
  · refine (law_out (.int .i64 a0) b n cap (by omega) w).mono ?_
    rintro e w' ⟨rfl, rfl⟩
    exact ⟨rfl, Below.refl _ _⟩

/-! ### THE ROW's STEP -/
set_option maxRecDepth 100000 in
theorem lifted (os : Os) (started : os.Started) (H : Type) (enc : TypeId × Value → H) :
    ReturnsInHanded {} Tryd.checked os 3 .any (fun w args => (Rows.fnAmountAppendExtendsAndReadsBackSpec.pre enc Tryd.prog Tryd.f3 [] false w args ∧ laidMetH Tryd.prog Rows.fnAmountAppendExtendsAndReadsBackRow.laid w) ∧ sizedMet enc Tryd.prog Tryd.f3 (OpenSpec.ofChange Rows.fnAmountAppendExtendsAndReadsBackSpec) false w args)
      (Rows.fnAmountAppendExtendsAndReadsBackSpec.post enc Tryd.prog Tryd.f3 false true false false) := by
  refine returnsInHanded_of_change_and (C := Tryd.checked) (X := fun w _ => laidMetH Tryd.prog Rows.fnAmountAppendExtendsAndReadsBackRow.laid w) (fun _ _ _ hh h => h.of_heap hh) own started (by kernel_rfl) Tryd.func3
    (ChangeSpec.witness_shaped (enc := enc) (C := Tryd.checked) (os := os) (X := fun w _ => laidMetH Tryd.prog Rows.fnAmountAppendExtendsAndReadsBackRow.laid w) false (World.doorLaid Tryd.prog 24 os) #[.int .i64 0, .slice none 0 0] 8 rfl (World.shaped_of_RefB (by kernel_rfl) (by kernel_rfl)) (by kernel_rfl) (by kernel_rfl) (by kernel_rfl) (door_met os _)) ?_
  intro W base args ds gs before hval0 hW _ _ hL _
  have hval : ∀ (j : Nat) t v, Tryd.f3.params[j]? = some t → args[j]? = some v → Value.okWide Tryd.prog W .any base t v := hval0
  have hW' := hW
  obtain ⟨p, q, hA0, hV, rfl, hfz, hnd⟩ := hW
  have hA : DataW.TrodAll enc Tryd.prog W 0 (fun _ => true) true Tryd.f3.params.toList args.toList ds p := hA0
  rw [Tryd.params3] at hA hval
  obtain ⟨v0, vs0, d0, ds0, p0, q0, hargs, rfl, rfl, h0, r0⟩ := trodAll_cons hA
  obtain ⟨v1, vs1, d1, ds1, p1, q1, rfl, rfl, rfl, h1, r1⟩ := trodAll_cons r0
  obtain ⟨rfl, rfl, rfl⟩ := trodAll_nil r1
  obtain rfl : args = #[v0, v1] := by cases args; simp_all
  obtain ⟨rfl, rfl⟩ := trodVars_none hV
  obtain ⟨a0, rfl, rfl, rfl, w0⟩ := open_int Tryd.underlying2 (hval 0 2 v0 rfl rfl) h0
  obtain ⟨a1, len1, cap1, rfl⟩ := okWide_slice Tryd.underlying22 (hval 1 22 v1 rfl rfl)
  have k1 := h1
  have lt1 : ∀ x ∈ p1, x.block < W.heap.size := by obtain ⟨m, hm⟩ := k1; exact DataW.trod_lt m _ _ _ hm
  obtain ⟨m1, f1⟩ := h1
  obtain ⟨F, hF, nF⟩ := open_bytes (by simpa [Value.cells] using f1)
  have htab := tab_of_laid hL
  clear hA0 hval0
  refine (walk a0 w0 a1 len1 cap1 F W nF hF htab).mono fun e W' ⟨he, bel⟩ => ?_
  subst he
  exact ⟨_, rfl, _, _, _, [], _, [], hW', trodAll_mk1 (shut_bool Tryd.underlying4 _), (trodAll_cons_mk (shut_int Tryd.underlying2 w0) (trodAll_cons_mk (Below.trod laidOut (by kernel_rfl) (of_decide_eq_true (by kernel_rfl)) k1 bel lt1) trodAll_mk0)), rfl, bel.frame _, fun h => by cases h⟩

theorem over : Rows.FnAmountAppendExtendsAndReadsBackSaid :=
  OpenClaim.holds_of_wide 3 Tryd.f3 rfl rfl rfl rfl rfl rfl rfl ⟨rfl, rfl, rfl, rfl, rfl⟩ rfl rfl rfl rfl rfl (by kernel_rfl) Tryd.func3 (by kernel_rfl)
    (of_decide_eq_true (by kernel_rfl)) (by unfold Func.isWrapper; first | (rw [if_pos (by decide +kernel)]; kernel_rfl) | (rw [if_neg (by decide +kernel)]; exact ⟨rfl, rfl⟩))
    (fun os started H enc _ => lifted os started H enc)

/-- THE STATEMENT: the tied card. -/
theorem proved : Rows.FnAmountAppendExtendsAndReadsBackCardSaid :=
  Claim7.holds_tied_plain_at .later [] [.data, .data, .data] true (true, "e6265a5abbe033c99311a8641c137a0153377703669944eb729b5656e4679785") false
    over (fun _ h => by cases h) (by kernel_rfl) (fun _ h => by cases h) fnAmountAppendExtendsAndReadsBack_row_tie rfl ⟨rfl, rfl⟩ (by kernel_rfl) rfl
    (fun f fn hf hfn => by
      obtain rfl : f = 3 := Option.some.inj ((show Tryd.prog.funcNamed Rows.fnAmountAppendExtendsAndReadsBackRow.func = some 3 by kernel_rfl).symm.trans hf) |>.symm
      obtain rfl : fn = Tryd.f3 := (Option.some.inj (Tryd.func3.symm.trans hfn)).symm
      exact ⟨by kernel_rfl, fun j t ht => by
        rw [Tryd.params3] at ht
        have hm : t ∈ [2, 22] := by simpa using Array.mem_of_getElem? ht
        have hall : ([2, 22].all fun u => !Tryd.prog.wantsStandIn u) = true := by kernel_rfl
        exact (show Tryd.prog.wantsStandIn t = false by simpa using List.all_eq_true.1 hall t hm)⟩)
    (by kernel_rfl)
end Go.Proofs.Qxb6617870aDoor.fnAmountAppendExtendsAndReadsBack
