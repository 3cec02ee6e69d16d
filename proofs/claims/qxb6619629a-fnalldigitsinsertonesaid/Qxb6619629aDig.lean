/- allDigits (13), ZZallDigits (10), zzIsDigit (11), zzBytes.. (9). -/
import Derived.Test.Qxb6619629aRows
import Derived.WalkKit
import Derived.WalkSpells
import Derived.WalkLawsBesides
import Derived.Deep.QuietTactic
import Derived.BigQuiet
namespace Go.Proofs.Qxb6619629a
open Go.RowKit

def isDig (c : UInt8) : Bool := decide (48 ≤ c.toNat ∧ c.toNat ≤ 57)
/-- All digits, and at least one. -/
def allDig (l : List UInt8) : Bool := !l.isEmpty && l.all isDig

theorem data_at (s : ByteArray) (i : Nat) (h : i < s.size) : s.data.toList[i]? = some s[i] := by
  rw [List.getElem?_eq_getElem (by simpa using h)]; rfl
theorem not_empty {s : ByteArray} (h : 0 < s.size) : s.data.toList.isEmpty = false := by
  have hlen : s.data.toList.length = s.size := by simp
  cases hl : s.data.toList with
  | nil => rw [hl] at hlen; simp at hlen; omega
  | cons => rfl
theorem allDig_no {s : ByteArray} {i : Nat} (h : i < s.size) (hc : isDig s[i] = false) : allDig s.data.toList = false := by
  unfold allDig
  have : s.data.toList.all isDig = false := by
    rw [List.all_eq_false]
    exact ⟨s[i], List.mem_of_getElem? (data_at s i h), by simp [hc]⟩
  rw [this]; simp
theorem allDig_yes {s : ByteArray} (hn : 0 < s.size) (h : ∀ i (hi : i < s.size), isDig s[i] = true) : allDig s.data.toList = true := by
  unfold allDig
  have h1 : s.data.toList.all isDig = true := by
    rw [List.all_eq_true]
    intro c hc
    obtain ⟨i, hi, rfl⟩ := List.mem_iff_getElem.1 hc
    exact h i (by simpa using hi)
  rw [h1, not_empty hn]; rfl

theorem bytes_ok (s : ByteArray) (i c : Int) (w : World) (h : (s.size : Int) ≤ 1048576) :
    Calls Try.prog 9 #[.string s, .int .i64 i, .int .u8 c] w fun e w' => e = .returned (.bool true) ∧ w = w' := by
  go_enter Try.func9, Try.ntmps9
  go_wp2
  go_ret
  exact ⟨rfl, rfl⟩
theorem bytes_no (s : ByteArray) (i c : Int) (w : World) (h : 1048576 < (s.size : Int)) :
    Calls Try.prog 9 #[.string s, .int .i64 i, .int .u8 c] w fun e w' => e = .returned (.bool false) ∧ w = w' := by
  go_enter Try.func9, Try.ntmps9
  go_wp2
  go_ret
  exact ⟨rfl, rfl⟩

theorem isDigit_any (c : UInt8) (w : World) :
    Calls Try.prog 11 #[.int .u8 (c.toNat : Int)] w fun e w' => e = .returned (.bool (isDig c)) ∧ w = w' := by
  by_cases h1 : 48 ≤ (c.toNat : Int)
  · by_cases h2 : (c.toNat : Int) ≤ 57
    · have e : isDig c = true := by unfold isDig; simp; omega
      rw [e]
      go_enter Try.func11, Try.ntmps11
      go_wp2
      go_ret
      exact ⟨rfl, rfl⟩
    · have e : isDig c = false := by unfold isDig; simp; omega
      rw [e]
      go_enter Try.func11, Try.ntmps11
      go_wp2
      go_ret
      exact ⟨rfl, rfl⟩
  · have e : isDig c = false := by unfold isDig; simp; omega
    rw [e]
    go_enter Try.func11, Try.ntmps11
    go_wp2
    go_ret
    exact ⟨rfl, rfl⟩

set_option maxHeartbeats 400000 in
theorem allDigits_any (s : ByteArray) (w : World) (hs : s.size ≤ 4611686018427387904) :
    Calls Try.prog 10 #[.string s] w fun e w' => e = .returned (.bool (allDig s.data.toList)) ∧ w = w' := by
  by_cases h0 : s.size = 0
  · have e : allDig s.data.toList = false := by
      have : s.data.toList = [] := List.eq_nil_of_length_eq_zero (by simpa using h0)
      rw [this]; rfl
    have hem : s.toList.isEmpty = true := by
      rw [ByteArray.toList_eq]; have : s.data.toList = [] := List.eq_nil_of_length_eq_zero (by simpa using h0)
      rw [this]; rfl
    rw [e]
    clear e
    go_enter Try.func10, Try.ntmps10
    go_wp2
    go_ret
    exact ⟨rfl, rfl⟩
  · have hem : s.toList.isEmpty = false := by
      rw [ByteArray.toList_eq]
      exact not_empty (by omega)
    go_enter Try.func10, Try.ntmps10
    go_wp2
    go_loop [3] (fun i => ∃ k : Nat, k ≤ s.size ∧ (∀ j (hj : j < s.size), j < k → isDig s[j] = true) ∧ i = .int .i64 k) (fun i => s.size - (intOf i).toNat)
    case atStart => exact ⟨0, Nat.zero_le _, fun j _ h => by omega, rfl⟩
    case round =>
      obtain ⟨k, hk, hd, rfl⟩ := hrel
      have HD : Hid (∀ j (hj : j < s.size), j < k → isDig s[j] = true) := hd
      clear hd
      by_cases hlt : k < s.size
      · by_cases h1 : 48 ≤ (s[k].toNat : Int)
        · by_cases h2 : (s[k].toNat : Int) ≤ 57
          · have HN : Hid (∀ j (hj : j < s.size), j < k + 1 → isDig s[j] = true) := by
              intro j hj hjk
              by_cases e : j = k
              · subst e; unfold isDig; simp; omega
              · exact HD.out j hj (by omega)
            clear HD
            go_wp2
            go_round
            case rel => exact ⟨k + 1, by omega, HN.out, by go_num⟩
            case measure => simp [intOf]; omega
          · have HN : Hid (allDig s.data.toList = false) := allDig_no hlt (by unfold isDig; simp; omega)
            clear HD
            go_wp2
            go_ret
            exact ⟨by rw [HN.out]; rfl, rfl⟩
        · have HN : Hid (allDig s.data.toList = false) := allDig_no hlt (by unfold isDig; simp; omega)
          clear HD
          go_wp2
          go_ret
          exact ⟨by rw [HN.out]; rfl, rfl⟩
      · have HN : Hid (allDig s.data.toList = true) := allDig_yes (by omega) (fun i hi => HD.out i hi (by omega))
        clear HD
        go_wp2
        go_ret
        exact ⟨by rw [HN.out]; rfl, rfl⟩

/-! ### The plain law: one byte put in -/
theorem allDig_insert (l : List UInt8) (i : Nat) (c : UInt8) : allDig (l.take i ++ [c] ++ l.drop i) = ((l.isEmpty || allDig l) && isDig c) := by
  unfold allDig
  have h1 : (l.take i ++ [c] ++ l.drop i).isEmpty = false := by simp
  have h2 : (l.take i ++ [c] ++ l.drop i).all isDig = (l.all isDig && isDig c) := by
    conv => rhs; rw [← List.take_append_drop i l]
    simp only [List.all_append, List.all_cons, List.all_nil, Bool.and_true]
    cases (l.take i).all isDig <;> cases isDig c <;> cases (l.drop i).all isDig <;> rfl
  rw [h1, h2]
  cases l with
  | nil => simp
  | cons a t => simp
end Go.Proofs.Qxb6619629a
