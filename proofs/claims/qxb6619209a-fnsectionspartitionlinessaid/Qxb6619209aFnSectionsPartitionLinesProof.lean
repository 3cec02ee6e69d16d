/-
  THE PROOF OF the law FnSectionsPartitionLines (zzlaws_srcinfo_b1). The walk: Qxb6619209aSecPartA, B, C; the callees' contracts: Qxb6619209aSec*. The frame is the guide's template for arguments that lead to memory (its closing line by 'Below').
-/
import Derived.Test.Qxb6619209aRows
import Derived.Test.Qxb6619209aSecPartC
import Derived.Test.Qxb6619209aSecOpen
import Derived.WalkKit
import Derived.ProofKit
import Derived.OpenShut
import Derived.ShutString
import Derived.ChangeOld
import Derived.Below
namespace Go.Proofs.Qxb6619209a.fnSectionsPartitionLines
open Go.ChangeShapes Go.WideShapes Go.ChangeAt Go.RowKit
set_option linter.unusedVariables false

theorem own : ownKnob Try.prog.godebug = none := by kernel_rfl
theorem laidOut : laidOutB Try.prog = true := by kernel_rfl

/-! ### STEP 1: THE WALK -/
theorem walk (a : Option Addr) (n cap : Nat) (L : Nat → Asg) (ha : Option Addr) (hn hcap : Nat) (H : Nat → Int) (sa : Option Addr) (sn scap : Nat) (S : Nat → Sec) (w : World) (A : ArgsP w a n L ha hn H sa sn S) (hc : ha = none → hn = 0) :
    Calls Try.prog 4 #[.slice a n cap, .slice ha hn hcap, .slice sa sn scap] w fun e w' => e = .returned (.bool true) ∧ Below w.heap.size w w' := by
  by_cases hb : n ≤ 65536 ∧ hn ≤ 65536 ∧ sn ≤ 65536
  · cases ha with
    | none =>
      obtain rfl := hc rfl
      exact partNil a n cap L hcap H sa sn scap S w A hb.1 hb.2.2
    | some x => exact partSome a n cap L x hn hcap H sa sn scap S w A hb.1 hb.2.1 hb.2.2
  · exact partOut a n cap L ha hn hcap H sa sn scap S w A hb

/-! ### THE ROW's STEP -/
set_option maxRecDepth 100000 in
theorem lifted (os : Os) (started : os.Started) (H : Type) (enc : TypeId × Value → H) :
    ReturnsInHanded {} Try.checked os 4 .any (Rows.fnSectionsPartitionLinesSpec.pre6 enc Try.prog Try.f4 Rows.fnSectionsPartitionLinesRow.domain false) (Rows.fnSectionsPartitionLinesSpec.post enc Try.prog Try.f4 false true false false) := by
  refine returnsInHanded_of_change (C := Try.checked) own started (by kernel_rfl) Try.func4
    (ChangeSpec.witness6 (enc := enc) (C := Try.checked) false ⟨#[], #[.slice none 0 0, .slice none 0 0, .slice none 0 0], []⟩ 8 (by kernel_rfl) (by kernel_rfl) (by kernel_rfl) (by kernel_rfl)) ?_
  intro W base args ds gs before hval0 hW hcnd _
  have hval : ∀ (j : Nat) t v, Try.f4.params[j]? = some t → args[j]? = some v → Value.okWide Try.prog W .any base t v := hval0
  have hW' := hW
  obtain ⟨p, q, hA0, hV, rfl, hfz, hnd⟩ := hW
  have hA : DataW.TrodAll enc Try.prog W 0 (fun _ => true) true Try.f4.params.toList args.toList ds p := hA0
  rw [Try.params4] at hA hval
  obtain ⟨v0, vs0, d0, ds0, p0, q0, hargs, rfl, rfl, h0, r0⟩ := trodAll_cons hA
  obtain ⟨v1, vs1, d1, ds1, p1, q1, rfl, rfl, rfl, h1, r1⟩ := trodAll_cons r0
  obtain ⟨v2, vs2, d2, ds2, p2, q2, rfl, rfl, rfl, h2, r2⟩ := trodAll_cons r1
  obtain ⟨rfl, rfl, rfl⟩ := trodAll_nil r2
  obtain rfl : args = #[v0, v1, v2] := by cases args; simp_all
  obtain ⟨rfl, rfl⟩ := trodVars_none hV
  obtain ⟨a0, len0, cap0, rfl⟩ := okWide_slice Try.underlying28 (hval 0 28 v0 rfl rfl)
  obtain ⟨a1, len1, cap1, rfl⟩ := okWide_slice Try.underlying29 (hval 1 29 v1 rfl rfl)
  obtain ⟨a2, len2, cap2, rfl⟩ := okWide_slice Try.underlying30 (hval 2 30 v2 rfl rfl)
  have k0 := h0
  have k1 := h1
  have k2 := h2
  have lt0 : ∀ x ∈ p0, x.block < W.heap.size := by obtain ⟨m, hm⟩ := k0; exact DataW.trod_lt m _ _ _ hm
  have lt1 : ∀ x ∈ p1, x.block < W.heap.size := by obtain ⟨m, hm⟩ := k1; exact DataW.trod_lt m _ _ _ hm
  have lt2 : ∀ x ∈ p2, x.block < W.heap.size := by obtain ⟨m, hm⟩ := k2; exact DataW.trod_lt m _ _ _ hm
  obtain ⟨m0, f0⟩ := h0
  obtain ⟨m1, f1⟩ := h1
  obtain ⟨m2, f2⟩ := h2
  obtain ⟨L, hL, bL, nL⟩ := open_asgs (by simpa [Value.cells] using f0)
  obtain ⟨Z, hZ, bZ, nZ⟩ := open_heads (by simpa [Value.cells] using f1)
  obtain ⟨S, hS, bS, nS⟩ := open_secs (by simpa [Value.cells] using f2)
  clear hA0 hval0
  refine (walk a0 len0 cap0 L a1 len1 cap1 Z a2 len2 cap2 S W ⟨bL, bZ, bS, hL, hZ, hS, fun h => (nL h).1, fun h => (nZ h).1, fun h => (nS h).1⟩ (fun h => (nZ h).1)).mono fun e W' ⟨he, bel⟩ => ?_
  subst he
  exact ⟨_, rfl, _, _, _, [], _, [], hW', trodAll_mk1 (shut_bool Try.underlying4 _), (trodAll_cons_mk (Below.trod laidOut (by kernel_rfl) (of_decide_eq_true (by kernel_rfl)) k0 bel lt0) (trodAll_cons_mk (Below.trod laidOut (by kernel_rfl) (of_decide_eq_true (by kernel_rfl)) k1 bel lt1) (trodAll_cons_mk (Below.trod laidOut (by kernel_rfl) (of_decide_eq_true (by kernel_rfl)) k2 bel lt2) trodAll_mk0))), rfl, bel.frame _, fun h => by cases h⟩

theorem over : Rows.fnSectionsPartitionLinesRow.holds Try.pinned (OpenSpec.ofChange Rows.fnSectionsPartitionLinesSpec) :=
  OpenClaim.holds_of_wide 4 Try.f4 rfl rfl rfl rfl rfl rfl rfl ⟨rfl, rfl, rfl, rfl, rfl⟩ rfl rfl rfl rfl rfl (by kernel_rfl) Try.func4 (by kernel_rfl)
    (of_decide_eq_true (by kernel_rfl)) (by unfold Func.isWrapper; first | (rw [if_pos (by decide +kernel)]; kernel_rfl) | (rw [if_neg (by decide +kernel)]; exact ⟨rfl, rfl⟩))
    (fun os started H enc _ => lifted os started H enc)

/-- THE STATEMENT. -/
theorem proved : Rows.FnSectionsPartitionLinesSaid := over
end Go.Proofs.Qxb6619209a.fnSectionsPartitionLines
