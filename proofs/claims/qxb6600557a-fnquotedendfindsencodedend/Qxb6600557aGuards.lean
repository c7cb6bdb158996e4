/-
  CONTRACTS of the bounds that were laid ahead of each law ('zzBytes_..'): do the lengths add up to at most 1<<20?
-/
import Derived.Test.Qxb6600557aRows
import Derived.WalkKit
import Derived.WalkSpells
namespace Go.Proofs.Qxb6600557a
open Go.RowKit

/-! one string -/
theorem g10_yes (s : ByteArray) (a b : Int) (c : Bool) (w : World) (h : s.size ≤ 1048576) :
    Calls Try.prog 10 #[.string s, .int .i64 a, .int .u8 b, .bool c] w fun e w' => e = .returned (.bool true) ∧ w' = w := by
  go_enter Try.func10, Try.ntmps10
  go_wp2
  go_ret
  exact ⟨rfl, rfl⟩
theorem g10_no (s : ByteArray) (a b : Int) (c : Bool) (w : World) (hm : s.size ≤ maxLen) (h : ¬ s.size ≤ 1048576) :
    Calls Try.prog 10 #[.string s, .int .i64 a, .int .u8 b, .bool c] w fun e w' => e = .returned (.bool false) ∧ w' = w := by
  unfold maxLen at hm
  go_enter Try.func10, Try.ntmps10
  go_wp2
  go_ret
  exact ⟨rfl, rfl⟩
theorem g15_yes (s : ByteArray) (a : Int) (w : World) (h : s.size ≤ 1048576) :
    Calls Try.prog 15 #[.string s, .int .i64 a] w fun e w' => e = .returned (.bool true) ∧ w' = w := by
  go_enter Try.func15, Try.ntmps15
  go_wp2
  go_ret
  exact ⟨rfl, rfl⟩
theorem g15_no (s : ByteArray) (a : Int) (w : World) (hm : s.size ≤ maxLen) (h : ¬ s.size ≤ 1048576) :
    Calls Try.prog 15 #[.string s, .int .i64 a] w fun e w' => e = .returned (.bool false) ∧ w' = w := by
  unfold maxLen at hm
  go_enter Try.func15, Try.ntmps15
  go_wp2
  go_ret
  exact ⟨rfl, rfl⟩

/-! two strings -/
theorem g14_yes (s t : ByteArray) (a b : Int) (c : Bool) (w : World) (h : s.size + t.size ≤ 1048576) :
    Calls Try.prog 14 #[.string s, .string t, .int .i64 a, .int .u8 b, .bool c] w fun e w' => e = .returned (.bool true) ∧ w' = w := by
  go_enter Try.func14, Try.ntmps14
  go_wp2
  go_ret
  exact ⟨rfl, rfl⟩
theorem g14_no (s t : ByteArray) (a b : Int) (c : Bool) (w : World) (hm : s.size ≤ maxLen) (hn : t.size ≤ maxLen) (h : ¬ s.size + t.size ≤ 1048576) :
    Calls Try.prog 14 #[.string s, .string t, .int .i64 a, .int .u8 b, .bool c] w fun e w' => e = .returned (.bool false) ∧ w' = w := by
  unfold maxLen at hm hn
  by_cases h1 : s.size ≤ 1048576
  · by_cases h2 : t.size ≤ 1048576
    all_goals
      go_enter Try.func14, Try.ntmps14
      go_wp2
      go_ret
      exact ⟨rfl, rfl⟩
  · go_enter Try.func14, Try.ntmps14
    go_wp2
    go_ret
    exact ⟨rfl, rfl⟩
theorem g18_yes (s t : ByteArray) (a : Int) (w : World) (h : s.size + t.size ≤ 1048576) :
    Calls Try.prog 18 #[.string s, .string t, .int .i64 a] w fun e w' => e = .returned (.bool true) ∧ w' = w := by
  go_enter Try.func18, Try.ntmps18
  go_wp2
  go_ret
  exact ⟨rfl, rfl⟩
theorem g18_no (s t : ByteArray) (a : Int) (w : World) (hm : s.size ≤ maxLen) (hn : t.size ≤ maxLen) (h : ¬ s.size + t.size ≤ 1048576) :
    Calls Try.prog 18 #[.string s, .string t, .int .i64 a] w fun e w' => e = .returned (.bool false) ∧ w' = w := by
  unfold maxLen at hm hn
  by_cases h1 : s.size ≤ 1048576
  · by_cases h2 : t.size ≤ 1048576
    all_goals
      go_enter Try.func18, Try.ntmps18
      go_wp2
      go_ret
      exact ⟨rfl, rfl⟩
  · go_enter Try.func18, Try.ntmps18
    go_wp2
    go_ret
    exact ⟨rfl, rfl⟩
theorem g19_yes (s t : ByteArray) (w : World) (h : s.size + t.size ≤ 1048576) :
    Calls Try.prog 19 #[.string s, .string t] w fun e w' => e = .returned (.bool true) ∧ w' = w := by
  go_enter Try.func19, Try.ntmps19
  go_wp2
  go_ret
  exact ⟨rfl, rfl⟩
theorem g19_no (s t : ByteArray) (w : World) (hm : s.size ≤ maxLen) (hn : t.size ≤ maxLen) (h : ¬ s.size + t.size ≤ 1048576) :
    Calls Try.prog 19 #[.string s, .string t] w fun e w' => e = .returned (.bool false) ∧ w' = w := by
  unfold maxLen at hm hn
  by_cases h1 : s.size ≤ 1048576
  · by_cases h2 : t.size ≤ 1048576
    all_goals
      go_enter Try.func19, Try.ntmps19
      go_wp2
      go_ret
      exact ⟨rfl, rfl⟩
  · go_enter Try.func19, Try.ntmps19
    go_wp2
    go_ret
    exact ⟨rfl, rfl⟩

/-! three strings -/
theorem g13_yes (s t u : ByteArray) (a : Int) (b c : Bool) (w : World) (h : s.size + t.size + u.size ≤ 1048576) :
    Calls Try.prog 13 #[.string s, .string t, .string u, .int .u8 a, .bool b, .bool c] w fun e w' => e = .returned (.bool true) ∧ w' = w := by
  go_enter Try.func13, Try.ntmps13
  go_wp2
  go_ret
  exact ⟨rfl, rfl⟩
theorem g13_no (s t u : ByteArray) (a : Int) (b c : Bool) (w : World) (hm : s.size ≤ maxLen) (hn : t.size ≤ maxLen) (hp : u.size ≤ maxLen) (h : ¬ s.size + t.size + u.size ≤ 1048576) :
    Calls Try.prog 13 #[.string s, .string t, .string u, .int .u8 a, .bool b, .bool c] w fun e w' => e = .returned (.bool false) ∧ w' = w := by
  unfold maxLen at hm hn hp
  by_cases h1 : s.size ≤ 1048576
  · by_cases h2 : t.size ≤ 1048576
    · by_cases h3 : s.size + t.size ≤ 1048576
      · by_cases h4 : u.size ≤ 1048576
        all_goals
          go_enter Try.func13, Try.ntmps13
          go_wp2
          go_ret
          exact ⟨rfl, rfl⟩
      · go_enter Try.func13, Try.ntmps13
        go_wp2
        go_ret
        exact ⟨rfl, rfl⟩
    · go_enter Try.func13, Try.ntmps13
      go_wp2
      go_ret
      exact ⟨rfl, rfl⟩
  · go_enter Try.func13, Try.ntmps13
    go_wp2
    go_ret
    exact ⟨rfl, rfl⟩
end Go.Proofs.Qxb6600557a
