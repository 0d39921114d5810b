/-
  Seat b2444a: the contracts of the three small callees: (*Keys).Len, (*Overlay).bucketSize, NewKeys.
-/
import Derived.Test.YbulkaxpaRows
import Derived.Test.YbulkaxpaPlain
import Derived.WalkKit
import Derived.WalkSpells
import Derived.WalkLawsBesides
namespace Go.Proofs.Ybulkaxpa
open Go.RowKit

set_option maxRecDepth 100000 in
set_option maxHeartbeats 400000 in
theorem len_any (b off : Nat) (n : Int) (w : World) (h : w.cell? ⟨b, off + 2, none⟩ = some (.int .i64 n)) :
    Calls Yba.prog 6 #[.pointer (some ⟨b, off, none⟩)] w fun e w' => e = .returned (.int .i64 n) ∧ w' = w := by
  go_enter Yba.func6, Yba.ntmps6
  go_wp2
  go_ret
  exact ⟨rfl, rfl⟩

set_option maxRecDepth 100000 in
set_option maxHeartbeats 400000 in
theorem size_any (o : Value) (b : Nat) (a : Option Addr) (m c : Nat) (w : World) (h : w.cell? ⟨b, 31, none⟩ = some (.slice a m c)) :
    Calls Yba.prog 7 #[o, .pointer (some ⟨b, 0, none⟩)] w fun e w' => e = .returned (.int .i64 m) ∧ w' = w := by
  go_enter Yba.func7, Yba.ntmps7
  go_wp2
  go_ret
  exact ⟨rfl, rfl⟩

set_option maxRecDepth 100000 in
set_option maxHeartbeats 400000 in
/-- NewKeys: the window is the slice itself, or nothing where it is empty; the count is its length. -/
theorem keys_any (K n : Nat) (w : World) (hn : n ≤ 5) (h : 0 < n → ∃ s, w.cell? ⟨K, 0, none⟩ = some (.string s)) :
    Calls Yba.prog 4 #[.slice (some ⟨K, 0, none⟩) n n] w fun e w' => ∃ ao l c s, e = .returned (.agg #[.slice none 0 0, .slice ao l c, .int .i64 n, .string s, .pointer none]) ∧ Below w.heap.size w w' := by
  by_cases h0 : 0 < n
  · obtain ⟨s, hs⟩ := h h0
    clear h
    have hK : K < w.heap.size := World.block_lt_of_cell? _ _ hs
    have hK1 : K < w.heap.size + 1 := by omega
    go_enter Yba.func4, Yba.ntmps4
    go_wp2
    refine bodyPost_ret (v := .agg #[.slice none 0 0, .slice (some ⟨K, 0, none⟩) n n, .int .i64 n, .string s, .pointer none]) (by simp [results, Yba.results4, go_sem]) rfl ⟨_, _, _, _, rfl, ?_⟩
    exact ((Below.refl _ _).alloc (Nat.le_refl _) _).alloc (by simp) _
  · obtain rfl : n = 0 := by omega
    clear h
    go_enter Yba.func4, Yba.ntmps4
    go_wp2
    refine bodyPost_ret (v := .agg #[.slice none 0 0, .slice none 0 0, .int .i64 0, .string ⟨#[]⟩, .pointer none]) (by simp [results, Yba.results4, go_sem]) rfl ⟨_, _, _, _, rfl, ?_⟩
    exact ((Below.refl _ _).alloc (Nat.le_refl _) _).alloc (by simp) _

end Go.Proofs.Ybulkaxpa
