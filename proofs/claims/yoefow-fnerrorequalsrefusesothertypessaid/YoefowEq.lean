/-
  '(*Error).Equals' (function 5): four contracts: the very same pointer; another pointer to an Error; a value of another type; nil.
-/
import Derived.Test.YoefowRows
import Derived.WalkKit
import Derived.LaidEql
import Derived.Stop.Asserts
namespace Go.Proofs.Yoefow
open Go.RowKit

theorem info22 : ∃ i, Efog.prog.info? 22 = some i ∧ i.comparable = true := ⟨_, rfl, rfl⟩
theorem info31 : ∃ j, Efog.prog.info? 31 = some j ∧ j.size ≠ 0 := ⟨_, rfl, by decide⟩

set_option maxHeartbeats 400000 in
theorem equals_same (a : Addr) (w : World) :
    Calls Efog.prog 5 #[.pointer (some a), .iface 22 (.pointer (some a))] w fun e w' => e = .returned (.bool true) ∧ w' = w := by
  obtain ⟨i, hi, hc⟩ := info22
  obtain ⟨j, hj, hz⟩ := info31
  have he := run_eql_iface_ptr_same (P := Efog.prog) w a Efog.underlying29 Efog.underlying22 hi hc hj
  clear hi hc hj hz
  go_enter Efog.func5, Efog.ntmps5
  go_wp2
  go_ret
  exact ⟨rfl, rfl⟩

/-- Block k is a block of cells, none of them frozen. -/
def Boxed (w : World) (k : Nat) : Prop := ∃ c t, w.heap[k]? = some (.cells c t (0, 0))
theorem boxed_new {w : World} {k : Nat} (h : k = w.heap.size) (c : Array Value) (t : TypeId) : Boxed (w.alloc (.cells c t)) k := ⟨c, t, h ▸ (MapKept.heap_alloc w _).1⟩
theorem boxed_more {w : World} {k : Nat} (h : Boxed w k) (o : Obj) : Boxed (w.alloc o) k := by
  obtain ⟨c, t, h⟩ := h
  refine ⟨c, t, ?_⟩
  have hk : k < w.heap.size := by
    rw [Array.getElem?_eq_some_iff] at h
    exact h.1
  rw [Below.heap_alloc w o k hk]
  exact h

set_option maxHeartbeats 400000 in
theorem equals_other (a b : Addr) (w : World) (hne : a ≠ b) (ha : Boxed w a.block) (hb : Boxed w b.block) :
    Calls Efog.prog 5 #[.pointer (some a), .iface 22 (.pointer (some b))] w fun e w' => e = .returned (.bool false) ∧ w' = w := by
  obtain ⟨ca, ta, ha⟩ := ha
  obtain ⟨cb, tb, hb⟩ := hb
  obtain ⟨i, hi, hc⟩ := info22
  obtain ⟨j, hj, hz⟩ := info31
  have he := run_eql_iface_ptr_other (P := Efog.prog) w Efog.underlying29 Efog.underlying22 hi hc hj hz hne ha hb
  clear hi hc hj hz ha hb
  go_enter Efog.func5, Efog.ntmps5
  go_wp2
  go_ret
  exact ⟨rfl, rfl⟩

set_option maxHeartbeats 400000 in
theorem equals_type (a : Addr) (t : TypeId) (v : Value) (w : World) (hne : 22 ≠ t) :
    Calls Efog.prog 5 #[.pointer (some a), .iface t v] w fun e w' => e = .returned (.bool false) ∧ w' = w := by
  have he := run_eql_iface_types (P := Efog.prog) 22 t (.pointer (some a)) v Efog.underlying29 hne w
  go_enter Efog.func5, Efog.ntmps5
  go_wp2
  go_ret
  exact ⟨rfl, rfl⟩

set_option maxHeartbeats 400000 in
theorem equals_nil (a : Addr) (w : World) :
    Calls Efog.prog 5 #[.pointer (some a), .nilIface] w fun e w' => e = .returned (.bool false) ∧ w' = w := by
  have he := run_eql_held_nil (P := Efog.prog) w 29 22 (.pointer (some a)) rfl
  go_enter Efog.func5, Efog.ntmps5
  go_wp2
  go_ret
  exact ⟨rfl, rfl⟩

end Go.Proofs.Yoefow
