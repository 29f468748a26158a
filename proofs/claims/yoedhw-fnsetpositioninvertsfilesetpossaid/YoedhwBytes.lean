/-
  The bounds on total length: zzBytes_...
-/
import Derived.Test.YoedhwFile
namespace Go.Proofs.Yoedhw
open Go.RowKit

set_option maxHeartbeats 400000 in
theorem bytes29_yes (a0 : Option Addr) (l0 c0 : Nat) (a1 : Option Addr) (l1 c1 : Nat) (w : World) (h : l0 + l1 ≤ 1048576) :
    Calls Edhg.prog 29 #[.slice a0 l0 c0, .slice a1 l1 c1] w fun e w' => e = .returned (.bool true) ∧ w' = w := by
  go_enter Edhg.func29, Edhg.ntmps29
  go_wp2
  go_ret
  exact ⟨rfl, rfl⟩
set_option maxHeartbeats 400000 in
theorem bytes29_no (a0 : Option Addr) (l0 c0 : Nat) (a1 : Option Addr) (l1 c1 : Nat) (w : World) (h0 : l0 ≤ maxLen) (h1 : l1 ≤ maxLen) (h : 1048576 < l0 + l1) :
    Calls Edhg.prog 29 #[.slice a0 l0 c0, .slice a1 l1 c1] w fun e w' => e = .returned (.bool false) ∧ w' = w := by
  unfold maxLen at h0 h1
  by_cases q0 : 1048576 < l0
  · go_enter Edhg.func29, Edhg.ntmps29
    go_wp2
    go_ret
    exact ⟨rfl, rfl⟩
  by_cases q1 : 1048576 < l1
  · go_enter Edhg.func29, Edhg.ntmps29
    go_wp2
    go_ret
    exact ⟨rfl, rfl⟩
  go_enter Edhg.func29, Edhg.ntmps29
  go_wp2
  go_ret
  exact ⟨rfl, rfl⟩

set_option maxHeartbeats 400000 in
theorem bytes33_yes (a0 : Option Addr) (l0 c0 : Nat) (a1 : Option Addr) (l1 c1 : Nat) (w : World) (h : l0 + l1 ≤ 1048576) :
    Calls Edhg.prog 33 #[.slice a0 l0 c0, .slice a1 l1 c1] w fun e w' => e = .returned (.bool true) ∧ w' = w := by
  go_enter Edhg.func33, Edhg.ntmps33
  go_wp2
  go_ret
  exact ⟨rfl, rfl⟩
set_option maxHeartbeats 400000 in
theorem bytes33_no (a0 : Option Addr) (l0 c0 : Nat) (a1 : Option Addr) (l1 c1 : Nat) (w : World) (h0 : l0 ≤ maxLen) (h1 : l1 ≤ maxLen) (h : 1048576 < l0 + l1) :
    Calls Edhg.prog 33 #[.slice a0 l0 c0, .slice a1 l1 c1] w fun e w' => e = .returned (.bool false) ∧ w' = w := by
  unfold maxLen at h0 h1
  by_cases q0 : 1048576 < l0
  · go_enter Edhg.func33, Edhg.ntmps33
    go_wp2
    go_ret
    exact ⟨rfl, rfl⟩
  by_cases q1 : 1048576 < l1
  · go_enter Edhg.func33, Edhg.ntmps33
    go_wp2
    go_ret
    exact ⟨rfl, rfl⟩
  go_enter Edhg.func33, Edhg.ntmps33
  go_wp2
  go_ret
  exact ⟨rfl, rfl⟩

set_option maxHeartbeats 400000 in
theorem bytes26_yes (a0 : Option Addr) (l0 c0 : Nat) (a1 : Option Addr) (l1 c1 : Nat) (x2 : Int) (w : World) (h : l0 + l1 ≤ 1048576) :
    Calls Edhg.prog 26 #[.slice a0 l0 c0, .slice a1 l1 c1, .int .i64 x2] w fun e w' => e = .returned (.bool true) ∧ w' = w := by
  go_enter Edhg.func26, Edhg.ntmps26
  go_wp2
  go_ret
  exact ⟨rfl, rfl⟩
set_option maxHeartbeats 400000 in
theorem bytes26_no (a0 : Option Addr) (l0 c0 : Nat) (a1 : Option Addr) (l1 c1 : Nat) (x2 : Int) (w : World) (h0 : l0 ≤ maxLen) (h1 : l1 ≤ maxLen) (h : 1048576 < l0 + l1) :
    Calls Edhg.prog 26 #[.slice a0 l0 c0, .slice a1 l1 c1, .int .i64 x2] w fun e w' => e = .returned (.bool false) ∧ w' = w := by
  unfold maxLen at h0 h1
  by_cases q0 : 1048576 < l0
  · go_enter Edhg.func26, Edhg.ntmps26
    go_wp2
    go_ret
    exact ⟨rfl, rfl⟩
  by_cases q1 : 1048576 < l1
  · go_enter Edhg.func26, Edhg.ntmps26
    go_wp2
    go_ret
    exact ⟨rfl, rfl⟩
  go_enter Edhg.func26, Edhg.ntmps26
  go_wp2
  go_ret
  exact ⟨rfl, rfl⟩

set_option maxHeartbeats 400000 in
theorem bytes28_yes (a0 : Option Addr) (l0 c0 : Nat) (a1 : Option Addr) (l1 c1 : Nat) (x2 : Int) (x3 : Int) (w : World) (h : l0 + l1 ≤ 1048576) :
    Calls Edhg.prog 28 #[.slice a0 l0 c0, .slice a1 l1 c1, .int .i64 x2, .int .i64 x3] w fun e w' => e = .returned (.bool true) ∧ w' = w := by
  go_enter Edhg.func28, Edhg.ntmps28
  go_wp2
  go_ret
  exact ⟨rfl, rfl⟩
set_option maxHeartbeats 400000 in
theorem bytes28_no (a0 : Option Addr) (l0 c0 : Nat) (a1 : Option Addr) (l1 c1 : Nat) (x2 : Int) (x3 : Int) (w : World) (h0 : l0 ≤ maxLen) (h1 : l1 ≤ maxLen) (h : 1048576 < l0 + l1) :
    Calls Edhg.prog 28 #[.slice a0 l0 c0, .slice a1 l1 c1, .int .i64 x2, .int .i64 x3] w fun e w' => e = .returned (.bool false) ∧ w' = w := by
  unfold maxLen at h0 h1
  by_cases q0 : 1048576 < l0
  · go_enter Edhg.func28, Edhg.ntmps28
    go_wp2
    go_ret
    exact ⟨rfl, rfl⟩
  by_cases q1 : 1048576 < l1
  · go_enter Edhg.func28, Edhg.ntmps28
    go_wp2
    go_ret
    exact ⟨rfl, rfl⟩
  go_enter Edhg.func28, Edhg.ntmps28
  go_wp2
  go_ret
  exact ⟨rfl, rfl⟩

set_option maxHeartbeats 400000 in
theorem bytes22_yes (a0 : Option Addr) (l0 c0 : Nat) (a1 : Option Addr) (l1 c1 : Nat) (a2 : Option Addr) (l2 c2 : Nat) (w : World) (h : l0 + l1 + l2 ≤ 1048576) :
    Calls Edhg.prog 22 #[.slice a0 l0 c0, .slice a1 l1 c1, .slice a2 l2 c2] w fun e w' => e = .returned (.bool true) ∧ w' = w := by
  go_enter Edhg.func22, Edhg.ntmps22
  go_wp2
  go_ret
  exact ⟨rfl, rfl⟩
set_option maxHeartbeats 400000 in
theorem bytes22_no (a0 : Option Addr) (l0 c0 : Nat) (a1 : Option Addr) (l1 c1 : Nat) (a2 : Option Addr) (l2 c2 : Nat) (w : World) (h0 : l0 ≤ maxLen) (h1 : l1 ≤ maxLen) (h2 : l2 ≤ maxLen) (h : 1048576 < l0 + l1 + l2) :
    Calls Edhg.prog 22 #[.slice a0 l0 c0, .slice a1 l1 c1, .slice a2 l2 c2] w fun e w' => e = .returned (.bool false) ∧ w' = w := by
  unfold maxLen at h0 h1 h2
  by_cases q0 : 1048576 < l0
  · go_enter Edhg.func22, Edhg.ntmps22
    go_wp2
    go_ret
    exact ⟨rfl, rfl⟩
  by_cases q1 : 1048576 < l1
  · go_enter Edhg.func22, Edhg.ntmps22
    go_wp2
    go_ret
    exact ⟨rfl, rfl⟩
  by_cases q2 : 1048576 < l0 + l1
  · go_enter Edhg.func22, Edhg.ntmps22
    go_wp2
    go_ret
    exact ⟨rfl, rfl⟩
  by_cases q3 : 1048576 < l2
  · go_enter Edhg.func22, Edhg.ntmps22
    go_wp2
    go_ret
    exact ⟨rfl, rfl⟩
  go_enter Edhg.func22, Edhg.ntmps22
  go_wp2
  go_ret
  exact ⟨rfl, rfl⟩

set_option maxHeartbeats 400000 in
theorem bytes25_yes (a0 : Option Addr) (l0 c0 : Nat) (a1 : Option Addr) (l1 c1 : Nat) (a2 : Option Addr) (l2 c2 : Nat) (w : World) (h : l0 + l1 + l2 ≤ 1048576) :
    Calls Edhg.prog 25 #[.slice a0 l0 c0, .slice a1 l1 c1, .slice a2 l2 c2] w fun e w' => e = .returned (.bool true) ∧ w' = w := by
  go_enter Edhg.func25, Edhg.ntmps25
  go_wp2
  go_ret
  exact ⟨rfl, rfl⟩
set_option maxHeartbeats 400000 in
theorem bytes25_no (a0 : Option Addr) (l0 c0 : Nat) (a1 : Option Addr) (l1 c1 : Nat) (a2 : Option Addr) (l2 c2 : Nat) (w : World) (h0 : l0 ≤ maxLen) (h1 : l1 ≤ maxLen) (h2 : l2 ≤ maxLen) (h : 1048576 < l0 + l1 + l2) :
    Calls Edhg.prog 25 #[.slice a0 l0 c0, .slice a1 l1 c1, .slice a2 l2 c2] w fun e w' => e = .returned (.bool false) ∧ w' = w := by
  unfold maxLen at h0 h1 h2
  by_cases q0 : 1048576 < l0
  · go_enter Edhg.func25, Edhg.ntmps25
    go_wp2
    go_ret
    exact ⟨rfl, rfl⟩
  by_cases q1 : 1048576 < l1
  · go_enter Edhg.func25, Edhg.ntmps25
    go_wp2
    go_ret
    exact ⟨rfl, rfl⟩
  by_cases q2 : 1048576 < l0 + l1
  · go_enter Edhg.func25, Edhg.ntmps25
    go_wp2
    go_ret
    exact ⟨rfl, rfl⟩
  by_cases q3 : 1048576 < l2
  · go_enter Edhg.func25, Edhg.ntmps25
    go_wp2
    go_ret
    exact ⟨rfl, rfl⟩
  go_enter Edhg.func25, Edhg.ntmps25
  go_wp2
  go_ret
  exact ⟨rfl, rfl⟩

set_option maxHeartbeats 400000 in
theorem bytes11_yes (a0 : Option Addr) (l0 c0 : Nat) (x1 : Int) (a2 : Option Addr) (l2 c2 : Nat) (w : World) (h : l0 + l2 ≤ 1048576) :
    Calls Edhg.prog 11 #[.slice a0 l0 c0, .int .i64 x1, .slice a2 l2 c2] w fun e w' => e = .returned (.bool true) ∧ w' = w := by
  go_enter Edhg.func11, Edhg.ntmps11
  go_wp2
  go_ret
  exact ⟨rfl, rfl⟩
set_option maxHeartbeats 400000 in
theorem bytes11_no (a0 : Option Addr) (l0 c0 : Nat) (x1 : Int) (a2 : Option Addr) (l2 c2 : Nat) (w : World) (h0 : l0 ≤ maxLen) (h2 : l2 ≤ maxLen) (h : 1048576 < l0 + l2) :
    Calls Edhg.prog 11 #[.slice a0 l0 c0, .int .i64 x1, .slice a2 l2 c2] w fun e w' => e = .returned (.bool false) ∧ w' = w := by
  unfold maxLen at h0 h2
  by_cases q0 : 1048576 < l0
  · go_enter Edhg.func11, Edhg.ntmps11
    go_wp2
    go_ret
    exact ⟨rfl, rfl⟩
  by_cases q1 : 1048576 < l2
  · go_enter Edhg.func11, Edhg.ntmps11
    go_wp2
    go_ret
    exact ⟨rfl, rfl⟩
  go_enter Edhg.func11, Edhg.ntmps11
  go_wp2
  go_ret
  exact ⟨rfl, rfl⟩

set_option maxHeartbeats 400000 in
theorem bytes17_yes (a0 : Option Addr) (l0 c0 : Nat) (x1 : Int) (w : World) (h : l0 ≤ 1048576) :
    Calls Edhg.prog 17 #[.slice a0 l0 c0, .int .i64 x1] w fun e w' => e = .returned (.bool true) ∧ w' = w := by
  go_enter Edhg.func17, Edhg.ntmps17
  go_wp2
  go_ret
  exact ⟨rfl, rfl⟩
set_option maxHeartbeats 400000 in
theorem bytes17_no (a0 : Option Addr) (l0 c0 : Nat) (x1 : Int) (w : World) (h0 : l0 ≤ maxLen) (h : 1048576 < l0) :
    Calls Edhg.prog 17 #[.slice a0 l0 c0, .int .i64 x1] w fun e w' => e = .returned (.bool false) ∧ w' = w := by
  unfold maxLen at h0
  go_enter Edhg.func17, Edhg.ntmps17
  go_wp2
  go_ret
  exact ⟨rfl, rfl⟩

end Go.Proofs.Yoedhw
