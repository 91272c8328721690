/-
  The walk of 'FnErrorEqualsIsIdentity' (function 3): contracts of '(*Int).Copy' (26) and '(*Error).Copy' (6), then the law, call by call.
-/
import Derived.Test.YoefowEq
import Derived.Handy
namespace Go.Proofs.Yoefow
open Go.RowKit

set_option maxHeartbeats 400000 in
theorem intCopy (a : Addr) (n : Int) (w : World) (h : w.cell? a = some (.int .i64 n)) :
    Calls Efog.prog 26 #[.pointer (some a)] w fun e w' => e = .returned (.iface 23 (.pointer (some ⟨w.heap.size, 0, none⟩))) ∧ w' = w.alloc (.cells #[.int .i64 n] 27) := by
  go_enter Efog.func26, Efog.ntmps26
  go_wp2
  go_ret
  exact ⟨rfl, rfl⟩

set_option maxHeartbeats 400000 in
theorem errCopy (a b : Addr) (n : Int) (w : World) (ha : w.cell? a = some (.iface 23 (.pointer (some b)))) (hb : w.cell? b = some (.int .i64 n)) :
    Calls Efog.prog 6 #[.pointer (some a)] w fun e w' => e = .returned (.iface 22 (.pointer (some ⟨w.heap.size + 1, 0, none⟩))) ∧ w' = (w.alloc (.cells #[.int .i64 n] 27)).alloc (.cells #[.iface 23 (.pointer (some ⟨w.heap.size, 0, none⟩))] 31) := by
  go_enter Efog.func6, Efog.ntmps6
  go_wp2_with (go_at_call 26; refine (intCopy _ n _ hb).mono ?_; rintro e w' ⟨rfl, rfl⟩)
  go_ret
  exact ⟨rfl, rfl⟩

set_option maxHeartbeats 800000 in
theorem law3 (x y : Int) (w : World) :
    Calls Efog.prog 3 #[.int .i64 x, .int .i64 y] w fun e w' => e = .returned (.bool true) ∧ Grown w w' := by
  go_enter Efog.func3, Efog.ntmps3
  go_wp2_with fail
  refine (equals_same _ _).mono ?_
  rintro e w' ⟨rfl, rfl⟩
  go_wp2_with fail
  refine (equals_same _ _).mono ?_
  rintro e w' ⟨rfl, rfl⟩
  go_wp2_with fail
  refine (equals_other _ _ _ ?hN ?hA ?hB).mono ?_
  case hN => simp
  case hA => repeat (first | (refine boxed_new ?_ _ _; simp; done) | refine boxed_more ?_ _)
  case hB => repeat (first | (refine boxed_new ?_ _ _; simp; done) | refine boxed_more ?_ _)
  rintro e w' ⟨rfl, rfl⟩
  go_wp2_with fail
  refine (equals_other _ _ _ ?hN ?hA ?hB).mono ?_
  case hN => simp
  case hA => repeat (first | (refine boxed_new ?_ _ _; simp; done) | refine boxed_more ?_ _)
  case hB => repeat (first | (refine boxed_new ?_ _ _; simp; done) | refine boxed_more ?_ _)
  rintro e w' ⟨rfl, rfl⟩
  go_wp2_with fail
  refine (equals_other _ _ _ ?hN ?hA ?hB).mono ?_
  case hN => simp
  case hA => repeat (first | (refine boxed_new ?_ _ _; simp; done) | refine boxed_more ?_ _)
  case hB => repeat (first | (refine boxed_new ?_ _ _; simp; done) | refine boxed_more ?_ _)
  rintro e w' ⟨rfl, rfl⟩
  go_wp2_with fail
  refine (equals_other _ _ _ ?hN ?hA ?hB).mono ?_
  case hN => simp
  case hA => repeat (first | (refine boxed_new ?_ _ _; simp; done) | refine boxed_more ?_ _)
  case hB => repeat (first | (refine boxed_new ?_ _ _; simp; done) | refine boxed_more ?_ _)
  rintro e w' ⟨rfl, rfl⟩
  go_wp2_with fail
  refine (errCopy _ ⟨w.heap.size, 0, none⟩ x _ (by go_cell) (by go_cell)).mono ?_
  rintro e w' ⟨rfl, rfl⟩
  go_wp2_with fail
  refine (equals_other _ _ _ ?hN ?hA ?hB).mono ?_
  case hN => simp
  case hA => repeat (first | (refine boxed_new ?_ _ _; simp; done) | refine boxed_more ?_ _)
  case hB => repeat (first | (refine boxed_new ?_ _ _; simp; done) | refine boxed_more ?_ _)
  rintro e w' ⟨rfl, rfl⟩
  go_wp2_with fail
  go_ret
  exact ⟨rfl, by repeat (first | exact Grown.refl _ | apply Grown.drew | apply Grown.alloc)⟩
end Go.Proofs.Yoefow
