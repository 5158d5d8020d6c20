/-
  THE SHARED WALKS: the leaves on the four laws' roads: zzPtr, (*ObjectPtr).String, TypeName, Equals, Copy, (*Int).TypeName.
-/
import Derived.Test.YoeekwRows
import Derived.WalkKit
import Derived.ProofKit
import Derived.LaidEql
namespace Go.Proofs.Yoeekw
open Go.RowKit

set_option maxHeartbeats 400000 in
theorem string_any (a : Value) (w : World) :
    Calls Eekg.prog 9 #[a] w fun e w' => e = .returned (.string ⟨#[102, 114, 101, 101, 45, 118, 97, 114]⟩) ∧ w' = w := by
  go_enter Eekg.func9, Eekg.ntmps9
  go_wp2
  go_ret
  exact ⟨rfl, rfl⟩

set_option maxHeartbeats 400000 in
theorem typeName_any (a : Value) (w : World) :
    Calls Eekg.prog 10 #[a] w fun e w' => e = .returned (.string ⟨#[60, 102, 114, 101, 101, 45, 118, 97, 114, 62]⟩) ∧ w' = w := by
  go_enter Eekg.func10, Eekg.ntmps10
  go_wp2
  go_ret
  exact ⟨rfl, rfl⟩

set_option maxHeartbeats 400000 in
theorem intTypeName_any (a : Value) (w : World) :
    Calls Eekg.prog 12 #[a] w fun e w' => e = .returned (.string ⟨#[105, 110, 116]⟩) ∧ w' = w := by
  go_enter Eekg.func12, Eekg.ntmps12
  go_wp2
  go_ret
  exact ⟨rfl, rfl⟩

set_option maxHeartbeats 400000 in
theorem copy_any (a : Value) (w : World) :
    Calls Eekg.prog 13 #[a] w fun e w' => e = .returned (.iface 22 a) ∧ w' = w := by
  go_enter Eekg.func13, Eekg.ntmps13
  go_wp2
  go_ret
  exact ⟨rfl, rfl⟩

set_option maxHeartbeats 400000 in
theorem zzPtr_false (v : Int) (w : World) :
    Calls Eekg.prog 8 #[.bool false, .int .i64 v] w fun e w' => e = .returned (.pointer (some ⟨w.heap.size, 0, none⟩)) ∧ w' = w.alloc (.cells #[.pointer none] 29) := by
  go_enter Eekg.func8, Eekg.ntmps8
  go_wp2
  go_ret
  exact ⟨rfl, rfl⟩

set_option maxHeartbeats 400000 in
theorem zzPtr_true (v : Int) (w : World) :
    Calls Eekg.prog 8 #[.bool true, .int .i64 v] w fun e w' => e = .returned (.pointer (some ⟨w.heap.size, 0, none⟩)) ∧
      w' = ((w.alloc (.cells #[.pointer (some ⟨w.heap.size + 1 + 1, 0, none⟩)] 29)).alloc (.cells #[.int .i64 v] 32)).alloc (.cells #[.iface 30 (.pointer (some ⟨w.heap.size + 1, 0, none⟩))] 34) := by
  go_enter Eekg.func8, Eekg.ntmps8
  go_wp2
  go_ret
  exact ⟨rfl, rfl⟩

theorem Eekg.isComp : (Eekg.prog.info? 22).map (·.comparable) = some true := by kernel_rfl
theorem Eekg.isSize : (Eekg.prog.info? 29).map (·.size) = some 1 := by kernel_rfl

/-- Block b of the world is a plain row of cells, none of them frozen (what a 'new', a '&T{..}' makes). -/
def IsRow (w : World) (b : Nat) : Prop := ∃ c t, w.heap[b]? = some (.cells c t (0, 0))

theorem IsRow.new (w : World) (c : Array Value) (t : TypeId) {b : Nat} (h : b = w.heap.size) : IsRow (w.alloc (.cells c t)) b := by
  subst h; exact ⟨c, t, (MapKept.heap_alloc w _).1⟩
theorem IsRow.old {w : World} {b : Nat} (h : IsRow w b) (o : Obj) : IsRow (w.alloc o) b := by
  obtain ⟨c, t, h⟩ := h
  have hlt : b < w.heap.size := by
    by_cases hb : b < w.heap.size
    · exact hb
    · rw [Array.getElem?_eq_none (by omega)] at h; cases h
  exact ⟨c, t, by rw [(MapKept.heap_alloc w o).2 b hlt]; exact h⟩

/-- 'o == x' between two *ObjectPtr to rows of cells: by the block. -/
theorem eql_ptr (w : World) (a b : Nat) (ha : IsRow w a) (hb : IsRow w b) :
    (binOp .eql 34 (.iface 22 (.pointer (some ⟨a, 0, none⟩))) (.iface 22 (.pointer (some ⟨b, 0, none⟩)))).run Eekg.prog w = .ok (.bool (decide (a = b))) w := by
  obtain ⟨i, hi, hcmp⟩ := Option.map_eq_some_iff.1 Eekg.isComp
  obtain ⟨j, hj, hjs⟩ := Option.map_eq_some_iff.1 Eekg.isSize
  obtain ⟨ca, ta, ha⟩ := ha
  obtain ⟨cb, tb, hb⟩ := hb
  by_cases h : a = b
  · subst h
    simpa using run_eql_iface_ptr_same (P := Eekg.prog) w ⟨a, 0, none⟩ Eekg.underlying34 Eekg.underlying22 hi hcmp hj
  · have hne : (⟨a, 0, none⟩ : Addr) ≠ ⟨b, 0, none⟩ := fun e => h (congrArg Addr.block e)
    simpa [h] using run_eql_iface_ptr_other (P := Eekg.prog) w Eekg.underlying34 Eekg.underlying22 hi hcmp hj (by rw [hjs]; decide) hne ha hb

set_option maxHeartbeats 400000 in
theorem equals_any (w : World) (a b : Nat) (ha : IsRow w a) (hb : IsRow w b) :
    Calls Eekg.prog 11 #[.pointer (some ⟨a, 0, none⟩), .iface 22 (.pointer (some ⟨b, 0, none⟩))] w fun e w' => e = .returned (.bool (decide (a = b))) ∧ w' = w := by
  have he := eql_ptr w a b ha hb
  clear ha hb
  go_enter Eekg.func11, Eekg.ntmps11
  go_wp2
  go_ret
  exact ⟨rfl, rfl⟩
end Go.Proofs.Yoeekw
