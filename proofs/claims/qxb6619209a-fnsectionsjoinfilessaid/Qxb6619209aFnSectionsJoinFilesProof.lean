/-
  THE PROOF OF the law FnSectionsJoinFiles (zzlaws_srcinfo_b1). The walk: Qxb6619209aSecJoinA, B; the callees' contracts: Qxb6619209aSec*. The frame is the guide's template for arguments that lead to memory (its closing line by 'Below').
-/
import Derived.Test.Qxb6619209aRows
import Derived.Test.Qxb6619209aSecJoinB
import Derived.Test.Qxb6619209aSecOpen
import Derived.WalkKit
import Derived.ProofKit
import Derived.OpenShut
import Derived.ShutString
import Derived.ChangeOld
import Derived.Below
namespace Go.Proofs.Qxb6619209a.fnSectionsJoinFiles
open Go.ChangeShapes Go.WideShapes Go.ChangeAt Go.RowKit
set_option linter.unusedVariables false

theorem own : ownKnob Try.prog.godebug = none := by kernel_rfl
theorem laidOut : laidOutB Try.prog = true := by kernel_rfl

/-! ### STEP 1: THE WALK -/
theorem walk (a : Option Addr) (n cap : Nat) (L : Nat → Asg) (ha : Option Addr) (hn hcap : Nat) (HA : Nat → Int) (b : Option Addr) (n' cap' : Nat) (L' : Nat → Asg) (hb : Option Addr) (hn' hcap' : Nat) (HB : Nat → Int) (sa : Option Addr) (sn scap : Nat) (S : Nat → Sec) (w : World) (A : ArgsJ w a n L ha hn HA b n' L' hb hn' HB sa sn S) :
    Calls Try.prog 5 #[.slice a n cap, .slice ha hn hcap, .slice b n' cap', .slice hb hn' hcap', .slice sa sn scap] w fun e w' => e = .returned (.bool true) ∧ Below w.heap.size w w' := by
  by_cases h1 : n ≤ 65536
  · by_cases h2 : hn ≤ 65536
    · by_cases h3 : n' ≤ 65536
      · by_cases h4 : hn' ≤ 65536
        · by_cases h5 : sn ≤ 65536
          · exact joinMain a n cap L ha hn hcap HA b n' cap' L' hb hn' hcap' HB sa sn scap S w A h1 h2 h3 h4 h5
          · exact joinOut a n cap L ha hn hcap HA b n' cap' L' hb hn' hcap' HB sa sn scap S w A (.inr (.inr (.inr (.inr ⟨h1, h2, h3, h4, h5⟩))))
        · exact joinOut a n cap L ha hn hcap HA b n' cap' L' hb hn' hcap' HB sa sn scap S w A (.inr (.inr (.inr (.inl ⟨h1, h2, h3, h4⟩))))
      · exact joinOut a n cap L ha hn hcap HA b n' cap' L' hb hn' hcap' HB sa sn scap S w A (.inr (.inr (.inl ⟨h1, h2, h3⟩)))
    · exact joinOut a n cap L ha hn hcap HA b n' cap' L' hb hn' hcap' HB sa sn scap S w A (.inr (.inl ⟨h1, h2⟩))
  · exact joinOut a n cap L ha hn hcap HA b n' cap' L' hb hn' hcap' HB sa sn scap S w A (.inl h1)

/-! ### THE ROW's STEP -/
set_option maxRecDepth 100000 in
theorem lifted (os : Os) (started : os.Started) (H : Type) (enc : TypeId × Value → H) :
    ReturnsInHanded {} Try.checked os 5 .any (Rows.fnSectionsJoinFilesSpec.pre6 enc Try.prog Try.f5 Rows.fnSectionsJoinFilesRow.domain false) (Rows.fnSectionsJoinFilesSpec.post enc Try.prog Try.f5 false true false false) := by
  refine returnsInHanded_of_change (C := Try.checked) own started (by kernel_rfl) Try.func5
    (ChangeSpec.witness6 (enc := enc) (C := Try.checked) false ⟨#[], #[.slice none 0 0, .slice none 0 0, .slice none 0 0, .slice none 0 0, .slice none 0 0], []⟩ 8 (by kernel_rfl) (by kernel_rfl) (by kernel_rfl) (by kernel_rfl)) ?_
  intro W base args ds gs before hval0 hW hcnd _
  have hval : ∀ (j : Nat) t v, Try.f5.params[j]? = some t → args[j]? = some v → Value.okWide Try.prog W .any base t v := hval0
  have hW' := hW
  obtain ⟨p, q, hA0, hV, rfl, hfz, hnd⟩ := hW
  have hA : DataW.TrodAll enc Try.prog W 0 (fun _ => true) true Try.f5.params.toList args.toList ds p := hA0
  rw [Try.params5] at hA hval
  obtain ⟨v0, vs0, d0, ds0, p0, q0, hargs, rfl, rfl, h0, r0⟩ := trodAll_cons hA
  obtain ⟨v1, vs1, d1, ds1, p1, q1, rfl, rfl, rfl, h1, r1⟩ := trodAll_cons r0
  obtain ⟨v2, vs2, d2, ds2, p2, q2, rfl, rfl, rfl, h2, r2⟩ := trodAll_cons r1
  obtain ⟨v3, vs3, d3, ds3, p3, q3, rfl, rfl, rfl, h3, r3⟩ := trodAll_cons r2
  obtain ⟨v4, vs4, d4, ds4, p4, q4, rfl, rfl, rfl, h4, r4⟩ := trodAll_cons r3
  obtain ⟨rfl, rfl, rfl⟩ := trodAll_nil r4
  obtain rfl : args = #[v0, v1, v2, v3, v4] := by cases args; simp_all
  obtain ⟨rfl, rfl⟩ := trodVars_none hV
  obtain ⟨a0, len0, cap0, rfl⟩ := okWide_slice Try.underlying28 (hval 0 28 v0 rfl rfl)
  obtain ⟨a1, len1, cap1, rfl⟩ := okWide_slice Try.underlying29 (hval 1 29 v1 rfl rfl)
  obtain ⟨a2, len2, cap2, rfl⟩ := okWide_slice Try.underlying28 (hval 2 28 v2 rfl rfl)
  obtain ⟨a3, len3, cap3, rfl⟩ := okWide_slice Try.underlying29 (hval 3 29 v3 rfl rfl)
  obtain ⟨a4, len4, cap4, rfl⟩ := okWide_slice Try.underlying30 (hval 4 30 v4 rfl rfl)
  have k0 := h0
  have k1 := h1
  have k2 := h2
  have k3 := h3
  have k4 := h4
  have lt0 : ∀ x ∈ p0, x.block < W.heap.size := by obtain ⟨m, hm⟩ := k0; exact DataW.trod_lt m _ _ _ hm
  have lt1 : ∀ x ∈ p1, x.block < W.heap.size := by obtain ⟨m, hm⟩ := k1; exact DataW.trod_lt m _ _ _ hm
  have lt2 : ∀ x ∈ p2, x.block < W.heap.size := by obtain ⟨m, hm⟩ := k2; exact DataW.trod_lt m _ _ _ hm
  have lt3 : ∀ x ∈ p3, x.block < W.heap.size := by obtain ⟨m, hm⟩ := k3; exact DataW.trod_lt m _ _ _ hm
  have lt4 : ∀ x ∈ p4, x.block < W.heap.size := by obtain ⟨m, hm⟩ := k4; exact DataW.trod_lt m _ _ _ hm
  obtain ⟨m0, f0⟩ := h0
  obtain ⟨m1, f1⟩ := h1
  obtain ⟨m2, f2⟩ := h2
  obtain ⟨m3, f3⟩ := h3
  obtain ⟨m4, f4⟩ := h4
  obtain ⟨L, hL, bL, nL⟩ := open_asgs (by simpa [Value.cells] using f0)
  obtain ⟨Z, hZ, bZ, nZ⟩ := open_heads (by simpa [Value.cells] using f1)
  obtain ⟨L', hL', bL', nL'⟩ := open_asgs (by simpa [Value.cells] using f2)
  obtain ⟨Z', hZ', bZ', nZ'⟩ := open_heads (by simpa [Value.cells] using f3)
  obtain ⟨S, hS, bS, nS⟩ := open_secs (by simpa [Value.cells] using f4)
  clear hA0 hval0
  refine (walk a0 len0 cap0 L a1 len1 cap1 Z a2 len2 cap2 L' a3 len3 cap3 Z' a4 len4 cap4 S W ⟨bL, bL', bZ, bZ', bS, hL, hL', hZ, hZ', hS, fun h => (nL h).1, fun h => (nL' h).1, fun h => (nZ h).1, fun h => (nZ' h).1, fun h => (nS h).1⟩).mono fun e W' ⟨he, bel⟩ => ?_
  subst he
  exact ⟨_, rfl, _, _, _, [], _, [], hW', trodAll_mk1 (shut_bool Try.underlying4 _), (trodAll_cons_mk (Below.trod laidOut (by kernel_rfl) (of_decide_eq_true (by kernel_rfl)) k0 bel lt0) (trodAll_cons_mk (Below.trod laidOut (by kernel_rfl) (of_decide_eq_true (by kernel_rfl)) k1 bel lt1) (trodAll_cons_mk (Below.trod laidOut (by kernel_rfl) (of_decide_eq_true (by kernel_rfl)) k2 bel lt2) (trodAll_cons_mk (Below.trod laidOut (by kernel_rfl) (of_decide_eq_true (by kernel_rfl)) k3 bel lt3) (trodAll_cons_mk (Below.trod laidOut (by kernel_rfl) (of_decide_eq_true (by kernel_rfl)) k4 bel lt4) trodAll_mk0))))), rfl, bel.frame _, fun h => by cases h⟩

theorem over : Rows.fnSectionsJoinFilesRow.holds Try.pinned (OpenSpec.ofChange Rows.fnSectionsJoinFilesSpec) :=
  OpenClaim.holds_of_wide 5 Try.f5 rfl rfl rfl rfl rfl rfl rfl ⟨rfl, rfl, rfl, rfl, rfl⟩ rfl rfl rfl rfl rfl (by kernel_rfl) Try.func5 (by kernel_rfl)
    (of_decide_eq_true (by kernel_rfl)) (by unfold Func.isWrapper; first | (rw [if_pos (by decide +kernel)]; kernel_rfl) | (rw [if_neg (by decide +kernel)]; exact ⟨rfl, rfl⟩))
    (fun os started H enc _ => lifted os started H enc)

/-- THE STATEMENT. -/
theorem proved : Rows.FnSectionsJoinFilesSaid := over
end Go.Proofs.Qxb6619209a.fnSectionsJoinFiles
