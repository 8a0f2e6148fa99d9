import Derived.Test.Qxb6000790aModsRows
import Derived.Test.Qxb6000790aModsShelf
import Derived.WalkKit
import Derived.ProofKit
import Derived.WalkLawsBesides
import Derived.RowKit3
namespace Go.Proofs.Qxb6000790aMods.Holds
open Go.RowKit

/-- holds, plainly. -/
def holdsP (d n : ByteArray) : Bool :=
  if d.toList.isEmpty = true then !n.toList.isEmpty
  else if h : d.size < n.size then (if ((n[d.size].toNat : Nat) : Int) = 47 then Lib.hasPrefix n.data.toList d.data.toList else false) else false

theorem empty_iff (s : ByteArray) : s.toList.isEmpty = true ↔ s.size = 0 := by
  rw [ByteArray.toList_eq, List.isEmpty_iff, ← List.length_eq_zero_iff]
  simp
theorem empty_false (s : ByteArray) : s.toList.isEmpty = false ↔ 0 < s.size := by
  rw [← Bool.not_eq_true, empty_iff]; omega

theorem holds_any (d n : ByteArray) (w : World) :
    Calls Trym.prog 19 #[.string d, .string n] w fun e w' => e = .returned (.bool (holdsP d n)) ∧ w' = w := by
  unfold holdsP
  go_enter Trym.func19, Trym.ntmps19
  go_wp2_with (go_at_call 21; refine (Trym.strings_HasPrefix _ _ _).mono ?_; rintro e w' ⟨rfl, rfl⟩)
  all_goals (go_ret; exact ⟨by simp [*], rfl⟩)

theorem zzHolds_any (d n : ByteArray) (w : World) :
    Calls Trym.prog 9 #[.string d, .string n] w fun e w' => e = .returned (.bool (holdsP d n)) ∧ w = w' := by
  go_enter Trym.func9, Trym.ntmps9
  go_wp2_with (go_at_call 19; refine (holds_any d n _).mono ?_; rintro e w' ⟨rfl, rfl⟩)
  go_ret
  exact ⟨rfl, rfl⟩

theorem holds_self (a : ByteArray) : holdsP a a = false := by
  unfold holdsP
  by_cases h : a.toList.isEmpty = true
  · rw [if_pos h, h]; rfl
  · rw [if_neg h, dif_neg (Nat.lt_irrefl _)]
theorem holds_top (a : ByteArray) : holdsP ⟨#[]⟩ a = !a.toList.isEmpty := by
  unfold holdsP
  rw [if_pos ((empty_iff _).2 rfl)]
theorem holds_lt (a b : ByteArray) (h : holdsP a b = true) : a.size < b.size := by
  unfold holdsP at h
  by_cases g : a.toList.isEmpty = true
  · rw [if_pos g] at h
    have ha := (empty_iff a).1 g
    have hb := (empty_false b).1 (by simpa using h)
    omega
  · rw [if_neg g] at h
    by_cases l : a.size < b.size
    · exact l
    · rw [dif_neg l] at h; cases h
theorem holds_short (a b : ByteArray) (h : b.size ≤ a.size) : holdsP a b = false := by
  cases e : holdsP a b
  · rfl
  · have := holds_lt a b e; omega

theorem bytes10 (a b : ByteArray) (c1 : ¬ 1048576 < (a.size : Int)) (c2 : ¬ 1048576 < (b.size : Int)) (c3 : ¬ 1048576 < (a.size : Int) + b.size) (w : World) :
    Calls Trym.prog 10 #[.string a, .string b] w fun e w' => e = .returned (.bool true) ∧ w = w' := by
  go_enter Trym.func10, Trym.ntmps10
  go_wp2
  go_ret
  exact ⟨rfl, rfl⟩

set_option maxHeartbeats 1000000 in
set_option maxRecDepth 100000 in
theorem strict (a b : ByteArray) (ha : a.size ≤ maxLen) (hb : b.size ≤ maxLen) (w : World) :
    Calls Trym.prog 4 #[.string a, .string b] w fun e w' => e = .returned (.bool true) ∧ Grown w w' := by
  have ha' : a.size ≤ 9223372036854775807 := ha
  have hb' : b.size ≤ 9223372036854775807 := hb
  clear ha hb
  by_cases c1 : 1048576 < (a.size : Int)
  · go_enter Trym.func4, Trym.ntmps4
    go_wp2
    go_ret
    exact ⟨rfl, Grown.refl _⟩
  by_cases c2 : 1048576 < (b.size : Int)
  · go_enter Trym.func4, Trym.ntmps4
    go_wp2
    go_ret
    exact ⟨rfl, Grown.refl _⟩
  by_cases c3 : 1048576 < (a.size : Int) + b.size
  · go_enter Trym.func4, Trym.ntmps4
    go_wp2
    go_ret
    exact ⟨rfl, Grown.refl _⟩
  have HB : ∀ w, Hid (Calls Trym.prog 10 #[.string a, .string b] w fun e w' => e = .returned (.bool true) ∧ w = w') := fun w => bytes10 a b c1 c2 c3 w
  have hs := holds_self a
  have ht := holds_top a
  cases hab : holdsP a b
  · go_enter Trym.func4, Trym.ntmps4
    go_wp2_with (first
      | (go_at_call 10; refine (HB _).out.mono ?_; rintro e w' ⟨rfl, rfl⟩)
      | (go_at_call 9; refine (zzHolds_any _ _ _).mono ?_; rintro e w' ⟨rfl, rfl⟩))
    all_goals (go_ret; exact ⟨rfl, Grown.refl _⟩)
  · have hlt := holds_lt a b hab
    have hba := holds_short b a (by omega)
    have hlt' : ¬ (b.size : Int) ≤ a.size := by omega
    go_enter Trym.func4, Trym.ntmps4
    go_wp2_with (first
      | (go_at_call 10; refine (HB _).out.mono ?_; rintro e w' ⟨rfl, rfl⟩)
      | (go_at_call 9; refine (zzHolds_any _ _ _).mono ?_; rintro e w' ⟨rfl, rfl⟩))
    all_goals (go_ret; exact ⟨rfl, Grown.refl _⟩)
end Go.Proofs.Qxb6000790aMods.Holds
