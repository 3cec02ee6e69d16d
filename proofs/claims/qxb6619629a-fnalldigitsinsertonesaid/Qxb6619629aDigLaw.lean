/- FnAllDigitsInsertOne (5): the law's own walk. -/
import Derived.Test.Qxb6619629aDig
import Derived.RegionTactic
import Derived.Laws.IdiomStrings
namespace Go.Proofs.Qxb6619629a
open Go.RowKit

theorem data_put (s : ByteArray) (i : Nat) (c : UInt8) : (s.extract 0 i ++ ⟨#[c]⟩ ++ s.extract i s.size).data.toList = s.data.toList.take i ++ [c] ++ s.data.toList.drop i := by
  have hl : s.data.toList.length = s.size := by simp
  simp only [ByteArray.data_append, ByteArray.data_extract, Array.toList_append, Array.toList_extract]
  simp
  exact List.take_of_length_le (by rw [List.length_drop, hl]; exact Nat.le_refl _)
theorem size_put (s : ByteArray) (i : Nat) (c : UInt8) (h : i ≤ s.size) : (s.extract 0 i ++ ⟨#[c]⟩ ++ s.extract i s.size).size = s.size + 1 := by
  have hl : s.data.toList.length = s.size := by simp
  have e := congrArg List.length (data_put s i c)
  have e2 : (s.extract 0 i ++ ⟨#[c]⟩ ++ s.extract i s.size).data.toList.length = (s.extract 0 i ++ ⟨#[c]⟩ ++ s.extract i s.size).size := rfl
  rw [e2] at e
  rw [e]
  simp only [List.length_append, List.length_take, List.length_drop, hl, List.length_cons, List.length_nil]
  omega

theorem digLaw_out (s : ByteArray) (i c : Int) (w : World) (h : (s.size : Int) ≤ 1048576) (hb : 65536 < (s.size : Int) ∨ i < 0 ∨ (s.size : Int) < i) :
    Calls Try.prog 5 #[.string s, .int .i64 i, .int .u8 c] w fun e w' => e = .returned (.bool true) ∧ w = w' := by
  have C := bytes_ok s i c w h
  rcases hb with hb | hb | hb
  all_goals
    go_enter Try.func5, Try.ntmps5
    go_wp2_with (go_at_call 9; refine C.mono ?_; rintro e w' ⟨rfl, rfl⟩)
    all_goals (go_ret; exact ⟨rfl, rfl⟩)
theorem digLaw_big (s : ByteArray) (i c : Int) (w : World) (h : 1048576 < (s.size : Int)) :
    Calls Try.prog 5 #[.string s, .int .i64 i, .int .u8 c] w fun e w' => e = .returned (.bool true) ∧ w = w' := by
  have C := bytes_no s i c w h
  go_enter Try.func5, Try.ntmps5
  go_wp2_with (go_at_call 9; refine C.mono ?_; rintro e w' ⟨rfl, rfl⟩)
  go_ret; exact ⟨rfl, rfl⟩

set_option maxHeartbeats 800000 in
theorem digLaw (s : ByteArray) (i : Nat) (c : UInt8) (w : World) (h : (s.size : Int) ≤ 65536) (hi : i ≤ s.size) :
    Calls Try.prog 5 #[.string s, .int .i64 i, .int .u8 (c.toNat : Int)] w fun e w' => e = .returned (.bool true) ∧ Below w.heap.size w w' := by
  have C := bytes_ok s i c.toNat w (by omega)
  have hi' : (i : Int) ≤ (s.size : Int) := by omega
  go_enter Try.func5, Try.ntmps5
  go_wp2_with (go_at_call 9; refine C.mono ?_; rintro e w' ⟨rfl, rfl⟩)
  clear C
  have hcv : ∀ W, W.cell? ⟨w.heap.size, 0, none⟩ = some (.int .u8 (c.toNat : Int)) → (convert 30 9 (.slice (some ⟨w.heap.size, 0, none⟩) 1 1)).run Try.prog W = .ok (.string ⟨#[c]⟩) W := fun W hW => run_convert_bytes_back W 30 9 5 ⟨w.heap.size, 0, none⟩ 1 [c] Try.underlying30 Try.underlying5 Try.underlying9 (fun j hj => by
    have hj0 : j = 0 := by simpa using hj
    subst hj0
    simpa [Addr.add] using hW)
  go_region
  clear hcv
  have D1 := allDigits_any s
  have D2 := allDigits_any (s.extract 0 i ++ ⟨#[c]⟩ ++ s.extract i s.size)
  have D3 := allDigits_any ⟨#[]⟩
  rw [data_put s i c, allDig_insert] at D2
  have hB : s.data.toList.isEmpty = true → allDig s.data.toList = false := by
    intro h; unfold allDig; rw [h]; rfl
  have hE : s.toList.isEmpty = s.data.toList.isEmpty := by rw [ByteArray.toList_eq]
  have hsz := size_put s i c hi
  obtain ⟨E, hEe⟩ : ∃ E, E = s.data.toList.isEmpty := ⟨_, rfl⟩
  obtain ⟨B, hBe⟩ : ∃ B, B = allDig s.data.toList := ⟨_, rfl⟩
  obtain ⟨I, hIe⟩ : ∃ I, I = isDig c := ⟨_, rfl⟩
  have D4 := isDigit_any c
  rw [← hEe, ← hBe, ← hIe] at D2
  rw [← hBe] at D1
  rw [← hIe] at D4
  rw [← hEe, ← hBe] at hB
  rw [← hEe] at hE
  clear hEe hBe hIe
  go_wp2_with fail
  refine (D1 _ (by omega)).mono ?_
  rintro e w1 ⟨rfl, rfl⟩
  clear D1
  go_wp2_with fail
  refine (D2 _ (by omega)).mono ?_
  rintro e w1 ⟨rfl, rfl⟩
  clear D2
  go_wp2_with fail
  refine (D3 _ (Nat.zero_le _)).mono ?_
  rintro e w1 ⟨rfl, rfl⟩
  clear D3
  have h3 : allDig ([] : List UInt8) = false := rfl
  go_wp2_with fail
  all_goals try (refine (D4 _).mono ?_; rintro e w2 ⟨rfl, rfl⟩)
  all_goals clear D4
  all_goals go_wp2
  all_goals
    go_ret
    exact ⟨rfl, ((Below.refl _ _).alloc (Nat.le_refl _) _).drew⟩
end Go.Proofs.Qxb6619629a
