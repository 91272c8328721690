/-
  The walk of 'FnErrorEqualsRefusesOtherTypes' (function 4): contracts of the length test (7) and of '(*Int).Equals' at an *Error (8), then the law: a string beyond 2^20 bytes returns at once; else call by call.
-/
import Derived.Test.YoefowEq
namespace Go.Proofs.Yoefow
open Go.RowKit

set_option maxHeartbeats 400000 in
theorem bytes_yes (n : Int) (f : Nat) (s : ByteArray) (w : World) (h : s.size ≤ 1048576) :
    Calls Efog.prog 7 #[.int .i64 n, .float .f64 f, .string s] w fun e w' => e = .returned (.bool true) ∧ w' = w := by
  have h1 : ¬ (1048576 : Int) < s.size := by omega
  go_enter Efog.func7, Efog.ntmps7
  go_wp2
  go_ret
  exact ⟨rfl, rfl⟩

set_option maxHeartbeats 400000 in
theorem bytes_no (n : Int) (f : Nat) (s : ByteArray) (w : World) (h : ¬ s.size ≤ 1048576) :
    Calls Efog.prog 7 #[.int .i64 n, .float .f64 f, .string s] w fun e w' => e = .returned (.bool false) ∧ w' = w := by
  have h1 : (1048576 : Int) < s.size := by omega
  go_enter Efog.func7, Efog.ntmps7
  go_wp2
  go_ret
  exact ⟨rfl, rfl⟩

/-- 'x, ok := e.(*Int)', e holds an *Error: (nil, false). -/
theorem assertInt_err (v : Value) (w : World) : (Instr.typeAssert (.iface 22 v) 29 23 true).run Efog.prog w = .ok (.tuple #[.pointer none, .bool false]) w := by
  have hz : ∃ j, Efog.prog.info? 23 = some j ∧ j.zero = some (.pointer none) := ⟨_, rfl, rfl⟩
  obtain ⟨j, hj, hz⟩ := hz
  simp [Instr.typeAssert, run_underlying Efog.underlying23, zeroValue, typeInfo, hj, hz]

set_option maxHeartbeats 400000 in
theorem intEquals_err (a b : Addr) (w : World) :
    Calls Efog.prog 8 #[.pointer (some a), .iface 22 (.pointer (some b))] w fun e w' => e = .returned (.bool false) ∧ w' = w := by
  have he := assertInt_err (.pointer (some b)) w
  go_enter Efog.func8, Efog.ntmps8
  go_wp2
  go_ret
  exact ⟨rfl, rfl⟩


set_option maxHeartbeats 400000 in
theorem law4_long (n : Int) (f : Nat) (s : ByteArray) (w : World) (h : ¬ s.size ≤ 1048576) :
    Calls Efog.prog 4 #[.int .i64 n, .float .f64 f, .string s] w fun e w' => e = .returned (.bool true) ∧ Grown w w' := by
  go_enter Efog.func4, Efog.ntmps4
  go_wp2_with fail
  refine (bytes_no _ _ _ _ h).mono ?_
  rintro e w' ⟨rfl, rfl⟩
  go_wp2_with fail
  go_ret
  exact ⟨rfl, by repeat (first | exact Grown.refl _ | apply Grown.drew | apply Grown.alloc)⟩

set_option maxHeartbeats 800000 in
theorem law4_short (n : Int) (f : Nat) (s : ByteArray) (w : World) (h : s.size ≤ 1048576) :
    Calls Efog.prog 4 #[.int .i64 n, .float .f64 f, .string s] w fun e w' => e = .returned (.bool true) ∧ Grown w w' := by
  have h1 : ¬ (1048576 : Int) < s.size := by omega
  go_enter Efog.func4, Efog.ntmps4
  go_wp2_with fail
  refine (bytes_yes _ _ _ _ h).mono ?_
  rintro e w' ⟨rfl, rfl⟩
  go_wp2_with fail
  refine (equals_nil _ _).mono ?_
  rintro e w' ⟨rfl, rfl⟩
  go_wp2_with fail
  refine (equals_type _ _ _ _ (by decide)).mono ?_
  rintro e w' ⟨rfl, rfl⟩
  go_wp2_with fail
  refine (equals_type _ _ _ _ (by decide)).mono ?_
  rintro e w' ⟨rfl, rfl⟩
  go_wp2_with fail
  refine (intEquals_err _ _ _).mono ?_
  rintro e w' ⟨rfl, rfl⟩
  go_wp2_with fail
  refine (equals_type _ _ _ _ (by decide)).mono ?_
  rintro e w' ⟨rfl, rfl⟩
  go_wp2_with fail
  refine (equals_type _ _ _ _ (by decide)).mono ?_
  rintro e w' ⟨rfl, rfl⟩
  go_wp2_with fail
  refine (equals_type _ _ _ _ (by decide)).mono ?_
  rintro e w' ⟨rfl, rfl⟩
  go_wp2_with fail
  refine (equals_type _ _ _ _ (by decide)).mono ?_
  rintro e w' ⟨rfl, rfl⟩
  go_wp2_with fail
  go_ret
  exact ⟨rfl, by repeat (first | exact Grown.refl _ | apply Grown.drew | apply Grown.alloc)⟩

theorem law4 (n : Int) (f : Nat) (s : ByteArray) (w : World) :
    Calls Efog.prog 4 #[.int .i64 n, .float .f64 f, .string s] w fun e w' => e = .returned (.bool true) ∧ Grown w w' := by
  by_cases h : s.size ≤ 1048576
  · exact law4_short n f s w h
  · exact law4_long n f s w h

end Go.Proofs.Yoefow
