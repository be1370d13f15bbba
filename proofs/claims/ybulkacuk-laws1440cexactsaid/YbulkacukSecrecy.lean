/-
  The contracts of newSecrecy and (*snapshot).secrecy.
-/
import Derived.Test.YbulkacukRows
import Derived.WalkKit
import Derived.WalkSpells
import Derived.WalkLawsBesides
import Derived.RegionTactic
import Derived.Deep.RegionWith
namespace Go.Proofs.Ybulkacuk
open Go.RowKit

/-- newSecrecy where the schema is nil. -/
theorem new_nil (r : Option Addr) (w : World) :
    Calls Yba.prog 6 #[.pointer r, .pointer none] w fun e w' => e = .returned (.pointer none) ∧ w = w' := by
  go_enter Yba.func6, Yba.ntmps6
  go_wp2
  go_ret
  exact ⟨rfl, rfl⟩

/-- newSecrecy where the schema declares no secret. -/
theorem new_none (r : Option Addr) (b : Nat) (w : World) (h : w.cell? ⟨b, 3, none⟩ = some (.bool false)) :
    Calls Yba.prog 6 #[.pointer r, .pointer (some ⟨b, 0, none⟩)] w fun e w' => e = .returned (.pointer none) ∧ w = w' := by
  go_enter Yba.func6, Yba.ntmps6
  go_wp2
  go_ret
  exact ⟨rfl, rfl⟩

/-- newSecrecy where the schema declares a secret. -/
theorem new_some (r : Option Addr) (b : Nat) (w : World) (h : w.cell? ⟨b, 3, none⟩ = some (.bool true)) :
    Calls Yba.prog 6 #[.pointer r, .pointer (some ⟨b, 0, none⟩)] w fun e w' => e = .returned (.pointer (some ⟨w.heap.size, 0, none⟩)) ∧ w.alloc (.cells #[.pointer r, .pointer (some ⟨b, 0, none⟩), .map none] 65) = w' := by
  go_enter Yba.func6, Yba.ntmps6
  go_wp2
  go_ret
  exact ⟨rfl, rfl⟩

/-- secrecy where secrets are shown. -/
theorem sec_shown (p : Value) (k : Int) (w : World) (hk : (bits .and .u8 k 2 != 0) = true) :
    Calls Yba.prog 5 #[p, .int .u8 k] w fun e w' => e = .returned (.pointer none) ∧ w = w' := by
  go_enter Yba.func5, Yba.ntmps5
  go_wp2
  go_ret
  exact ⟨rfl, rfl⟩

set_option maxHeartbeats 1000000 in
theorem sec_nil (s : Nat) (r : Option Addr) (k : Int) (w : World) (hk : (bits .and .u8 k 2 != 0) = false)
    (h0 : w.cell? ⟨s, 0, none⟩ = some (.pointer r)) (h2 : w.cell? ⟨s, 2, none⟩ = some (.pointer none)) :
    Calls Yba.prog 5 #[.pointer (some ⟨s, 0, none⟩), .int .u8 k] w fun e w' => e = .returned (.pointer none) ∧ w' = w.drew := by
  go_enter Yba.func5, Yba.ntmps5
  go_wp2
  go_region_with (go_at_call 6; refine (new_nil _ _).mono ?_; rintro e w' ⟨rfl, rfl⟩)
  all_goals
    go_wp2
    go_ret
    exact ⟨rfl, rfl⟩

set_option maxHeartbeats 1000000 in
theorem sec_none (s b : Nat) (r : Option Addr) (k : Int) (w : World) (hk : (bits .and .u8 k 2 != 0) = false)
    (h0 : w.cell? ⟨s, 0, none⟩ = some (.pointer r)) (h2 : w.cell? ⟨s, 2, none⟩ = some (.pointer (some ⟨b, 0, none⟩))) (h3 : w.cell? ⟨b, 3, none⟩ = some (.bool false)) :
    Calls Yba.prog 5 #[.pointer (some ⟨s, 0, none⟩), .int .u8 k] w fun e w' => e = .returned (.pointer none) ∧ w' = w.drew := by
  have hc := new_none r b w.drew h3
  go_enter Yba.func5, Yba.ntmps5
  go_wp2
  go_region_with (go_at_call 6; refine hc.mono ?_; rintro e w' ⟨rfl, rfl⟩)
  all_goals
    go_wp2
    go_ret
    exact ⟨rfl, rfl⟩

set_option maxHeartbeats 1000000 in
theorem sec_some (s b : Nat) (r : Option Addr) (k : Int) (w : World) (hk : (bits .and .u8 k 2 != 0) = false)
    (h0 : w.cell? ⟨s, 0, none⟩ = some (.pointer r)) (h2 : w.cell? ⟨s, 2, none⟩ = some (.pointer (some ⟨b, 0, none⟩))) (h3 : w.cell? ⟨b, 3, none⟩ = some (.bool true)) :
    Calls Yba.prog 5 #[.pointer (some ⟨s, 0, none⟩), .int .u8 k] w fun e w' => e = .returned (.pointer (some ⟨w.heap.size, 0, none⟩)) ∧ w' = (w.alloc (.cells #[.pointer r, .pointer (some ⟨b, 0, none⟩), .map none] 65)).drew := by
  have hc := new_some r b w.drew h3
  go_enter Yba.func5, Yba.ntmps5
  go_wp2
  go_region_with (go_at_call 6; refine hc.mono ?_; rintro e w' ⟨rfl, rfl⟩)
  all_goals
    go_wp2
    go_ret
    exact ⟨rfl, rfl⟩

end Go.Proofs.Ybulkacuk
