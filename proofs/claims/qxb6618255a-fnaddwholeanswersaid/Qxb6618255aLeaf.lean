/-
  THE LEAVES: white space, and the bounds on lengths that a program laid ahead of each law.
-/
import Derived.Test.Qxb6618255aRows
import Derived.WalkKit
import Derived.WalkSpells
import Derived.StillTactics
import Derived.RegionTactic
import Derived.Deep.QuietTactic
import Derived.BigQuiet
namespace Go.Proofs.Qxb6618255a
open Go.RowKit

/-- Is this byte JSON white space? -/
def spB (c : Int) : Bool := c == 32 || c == 9 || c == 13 || c == 10

theorem isSpace_any (c : Int) (w : World) :
    Calls Try.prog 23 #[.int .u8 c] w fun e w' => e = .returned (.bool (spB c)) ∧ w' = w := by
  by_cases h1 : c = 32
  · subst h1
    go_enter Try.func23, Try.ntmps23
    go_wp2
    go_ret
    exact ⟨rfl, rfl⟩
  have e1 : (c == 32) = false := by simpa using h1
  by_cases h2 : c = 9
  · subst h2
    go_enter Try.func23, Try.ntmps23
    go_wp2
    go_ret
    exact ⟨rfl, rfl⟩
  have e2 : (c == 9) = false := by simpa using h2
  by_cases h3 : c = 13
  · subst h3
    go_enter Try.func23, Try.ntmps23
    go_wp2
    go_ret
    exact ⟨rfl, rfl⟩
  have e3 : (c == 13) = false := by simpa using h3
  clear h1 h2 h3
  go_enter Try.func23, Try.ntmps23
  go_wp2
  go_ret
  exact ⟨by simp [spB, e1, e2, e3], rfl⟩

theorem isJSONSpace_any (c : Int) (w : World) :
    Calls Try.prog 9 #[.int .u8 c] w fun e w' => e = .returned (.bool (spB c)) ∧ w' = w := by
  by_cases h1 : c = 32
  · subst h1
    go_enter Try.func9, Try.ntmps9
    go_wp2
    go_ret
    exact ⟨rfl, rfl⟩
  have e1 : (c == 32) = false := by simpa using h1
  by_cases h2 : c = 9
  · subst h2
    go_enter Try.func9, Try.ntmps9
    go_wp2
    go_ret
    exact ⟨rfl, rfl⟩
  have e2 : (c == 9) = false := by simpa using h2
  by_cases h3 : c = 10
  · subst h3
    go_enter Try.func9, Try.ntmps9
    go_wp2
    go_ret
    exact ⟨rfl, rfl⟩
  have e3 : (c == 10) = false := by simpa using h3
  clear h1 h2 h3
  go_enter Try.func9, Try.ntmps9
  go_wp2
  go_ret
  exact ⟨by simp [spB, e1, e2, e3], rfl⟩

/-- Short enough: true. -/
theorem bytes7_yes (a : Option Addr) (n c : Nat) (x y : Int) (hn : n ≤ 1048576) (w : World) :
    Calls Try.prog 7 #[.slice a n c, .int .i64 x, .int .i64 y] w fun e w' => e = .returned (.bool true) ∧ w' = w := by
  go_enter Try.func7, Try.ntmps7
  go_wp2
  go_ret
  exact ⟨rfl, rfl⟩
theorem bytes7_no (a : Option Addr) (n c : Nat) (x y : Int) (hn : 1048576 < n) (w : World) :
    Calls Try.prog 7 #[.slice a n c, .int .i64 x, .int .i64 y] w fun e w' => e = .returned (.bool false) ∧ w' = w := by
  go_enter Try.func7, Try.ntmps7
  go_wp2
  go_ret
  exact ⟨rfl, rfl⟩

theorem bytes10_yes (a d : Option Addr) (n c m k : Nat) (x : Int) (hn : n + m ≤ 1048576) (w : World) :
    Calls Try.prog 10 #[.slice a n c, .int .i64 x, .slice d m k] w fun e w' => e = .returned (.bool true) ∧ w' = w := by
  go_enter Try.func10, Try.ntmps10
  go_wp2
  go_ret
  exact ⟨rfl, rfl⟩
theorem bytes10_no (a d : Option Addr) (n c m k : Nat) (x : Int) (hn : 1048576 < n + m) (w : World) :
    Calls Try.prog 10 #[.slice a n c, .int .i64 x, .slice d m k] w fun e w' => e = .returned (.bool false) ∧ w' = w := by
  by_cases h1 : 1048576 < n
  · go_enter Try.func10, Try.ntmps10
    go_wp2
    go_ret
    exact ⟨rfl, rfl⟩
  by_cases h2 : 1048576 < m
  · go_enter Try.func10, Try.ntmps10
    go_wp2
    go_ret
    exact ⟨rfl, rfl⟩
  go_enter Try.func10, Try.ntmps10
  go_wp2
  go_ret
  exact ⟨rfl, rfl⟩
end Go.Proofs.Qxb6618255a
