import Derived.Test.Qxb6628366aW1
import Derived.Deep.RegionWith
import Derived.BigQuiet
import Derived.Deep.QuietTactic
import Derived.Laws.LoneSync
namespace Go.Proofs.Qxb6628366a
open Go.RowKit

theorem b32 (b : Bool) (w : World) : Calls Try.prog 24 #[.bool b] w fun e w' => e = .returned (.int .u32 b.toInt) ∧ w' = w := by
  cases b
  · go_enter Try.func24, Try.ntmps24
    go_wp2
    go_ret
    exact ⟨rfl, rfl⟩
  · go_enter Try.func24, Try.ntmps24
    go_wp2
    go_ret
    exact ⟨rfl, rfl⟩

theorem boolStore (b o : Nat) (v : Bool) (u : Value) (w : World) (hc : w.cell? ⟨b, o, none⟩ = some u) (hz : w.frozen? ⟨b, o, none⟩ = false) :
    Calls Try.prog 20 #[.pointer (some ⟨b, o, none⟩), .bool v] w fun e w' => e = .returned (.tuple #[]) ∧ w' = (w.setCell ⟨b, o, none⟩ (.int .u32 v.toInt)).drew := by
  have hs := run_call_store (P := Try.prog) Try.func23 (by kernel_rfl) (by kernel_rfl) (by kernel_rfl) (by kernel_rfl) (k := .u32) (y := v.toInt) (w := w.drew) (a := ⟨b, o, none⟩) hc hz
  go_enter Try.func20, Try.ntmps20
  go_region_with (go_at_call 24; refine (b32 _ _).mono ?_; rintro e w' ⟨rfl, rfl⟩)
  all_goals (go_end0; exact ⟨rfl, rfl⟩)

theorem newOwner (b : Bool) (w : World) : Calls Try.prog 16 #[.bool b] w fun e w' => e = .returned (.pointer (some ⟨w.heap.size, 0, none⟩)) ∧ w' = (w.alloc (.cells #[.int .u32 b.toInt] 64)).drew := by
  have c0 : (w.alloc (.cells #[.int .u32 0] 64)).cell? ⟨w.heap.size, 0, none⟩ = some (.int .u32 0) := by simp
  have z0 : (w.alloc (.cells #[.int .u32 0] 64)).frozen? ⟨w.heap.size, 0, none⟩ = false := by simp
  go_enter Try.func16, Try.ntmps16
  go_wp2_with (go_at_call 20; refine (boolStore w.heap.size 0 b (.int .u32 0) _ c0 z0).mono ?_; rintro e w' ⟨rfl, rfl⟩)
  go_ret
  exact ⟨rfl, by simp⟩

theorem boolLoad (b o : Nat) (v : Bool) (w : World) (hc : w.cell? ⟨b, o, none⟩ = some (.int .u32 v.toInt)) :
    Calls Try.prog 22 #[.pointer (some ⟨b, o, none⟩)] w fun e w' => e = .returned (.bool v) ∧ w' = w := by
  have hs := run_call_load (P := Try.prog) Try.func25 (by kernel_rfl) (by kernel_rfl) (by kernel_rfl) .u32 (by kernel_rfl) (w := w) (a := ⟨b, o, none⟩) hc
  cases v
  · go_enter Try.func22, Try.ntmps22
    go_wp2
    go_ret
    exact ⟨rfl, rfl⟩
  · go_enter Try.func22, Try.ntmps22
    go_wp2
    go_ret
    exact ⟨rfl, rfl⟩
end Go.Proofs.Qxb6628366a
