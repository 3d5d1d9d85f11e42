/-
  THE BOUNDS ON TOTAL LENGTH (zzBytes_..): each answers a bool and turns nothing.
-/
import Derived.Test.Qxb6600130aProg
import Derived.WalkKit
namespace Go.Proofs.Qxb6600130a
open Go.RowKit

theorem bytes11 (a0 a1 : Option Addr) (n0 c0 n1 c1 : Nat) (u v : Int) (w : World) (h0 : n0 ≤ maxLen) (h1 : n1 ≤ maxLen) :
    Calls Try.prog 11 #[.slice a0 n0 c0, .slice a1 n1 c1, .int .i64 u, .int .i64 v] w fun e w' => ∃ b, e = .returned (.bool b) ∧ w = w' := by
  unfold maxLen at h0 h1
  go_enter Try.func11, Try.ntmps11
  go_wp2
  all_goals (go_ret; exact ⟨_, rfl, rfl⟩)

theorem bytes18 (a0 a1 : Option Addr) (n0 c0 n1 c1 : Nat) (u v : Int) (w : World) (h0 : n0 ≤ maxLen) (h1 : n1 ≤ maxLen) :
    Calls Try.prog 18 #[.slice a0 n0 c0, .slice a1 n1 c1, .int .i64 u, .int .i64 v] w fun e w' => ∃ b, e = .returned (.bool b) ∧ w = w' := by
  unfold maxLen at h0 h1
  go_enter Try.func18, Try.ntmps18
  go_wp2
  all_goals (go_ret; exact ⟨_, rfl, rfl⟩)

theorem bytes19 (a0 a1 : Option Addr) (n0 c0 n1 c1 : Nat) (u v : Int) (w : World) (h0 : n0 ≤ maxLen) (h1 : n1 ≤ maxLen) :
    Calls Try.prog 19 #[.slice a0 n0 c0, .slice a1 n1 c1, .int .i64 u, .int .i64 v] w fun e w' => ∃ b, e = .returned (.bool b) ∧ w = w' := by
  unfold maxLen at h0 h1
  go_enter Try.func19, Try.ntmps19
  go_wp2
  all_goals (go_ret; exact ⟨_, rfl, rfl⟩)

theorem bytes21 (s : Int) (a1 a2 a3 a4 a5 : Option Addr) (n1 c1 n2 c2 n3 c3 n4 c4 n5 c5 : Nat) (w : World) (h1 : n1 ≤ maxLen) (h2 : n2 ≤ maxLen) (h3 : n3 ≤ maxLen) (h4 : n4 ≤ maxLen) (h5 : n5 ≤ maxLen) :
    Calls Try.prog 21 #[.int .i32 s, .slice a1 n1 c1, .slice a2 n2 c2, .slice a3 n3 c3, .slice a4 n4 c4, .slice a5 n5 c5] w fun e w' => ∃ b, e = .returned (.bool b) ∧ w = w' := by
  unfold maxLen at h1 h2 h3 h4 h5
  go_enter Try.func21, Try.ntmps21
  go_wp2
  all_goals (go_ret; exact ⟨_, rfl, rfl⟩)

theorem bytes30 (s : Int) (a1 a2 a3 a4 a5 : Option Addr) (n1 c1 n2 c2 n3 c3 n4 c4 n5 c5 : Nat) (w : World) (h1 : n1 ≤ maxLen) (h2 : n2 ≤ maxLen) (h3 : n3 ≤ maxLen) (h4 : n4 ≤ maxLen) (h5 : n5 ≤ maxLen) :
    Calls Try.prog 30 #[.int .i32 s, .slice a1 n1 c1, .slice a2 n2 c2, .slice a3 n3 c3, .slice a4 n4 c4, .slice a5 n5 c5] w fun e w' => ∃ b, e = .returned (.bool b) ∧ w = w' := by
  unfold maxLen at h1 h2 h3 h4 h5
  go_enter Try.func30, Try.ntmps30
  go_wp2
  all_goals (go_ret; exact ⟨_, rfl, rfl⟩)

theorem bytes31 (s : Int) (a1 a2 a3 a4 a5 : Option Addr) (n1 c1 n2 c2 n3 c3 n4 c4 n5 c5 : Nat) (w : World) (h1 : n1 ≤ maxLen) (h2 : n2 ≤ maxLen) (h3 : n3 ≤ maxLen) (h4 : n4 ≤ maxLen) (h5 : n5 ≤ maxLen) :
    Calls Try.prog 31 #[.int .i32 s, .slice a1 n1 c1, .slice a2 n2 c2, .slice a3 n3 c3, .slice a4 n4 c4, .slice a5 n5 c5] w fun e w' => ∃ b, e = .returned (.bool b) ∧ w = w' := by
  unfold maxLen at h1 h2 h3 h4 h5
  go_enter Try.func31, Try.ntmps31
  go_wp2
  all_goals (go_ret; exact ⟨_, rfl, rfl⟩)

end Go.Proofs.Qxb6600130a
