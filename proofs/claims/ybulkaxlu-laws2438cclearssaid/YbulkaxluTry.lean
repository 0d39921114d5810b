/-
  Seat b2438a: the contracts of '(*sync.Mutex).TryLock' (the lock free) and of '(*Pins).Forget' (the lock free), one goroutine.
-/
import Derived.Test.YbulkaxluRows
import Derived.Test.YbulkaxluLocks
import Derived.Conc.MuLone
import Derived.Maps.OwnSet
import Derived.WalkKit
import Derived.WalkSpells
namespace Go.Proofs.Ybulkaxlu
open Go.RowKit Go.Maps
open Go.MuLone

/-- The conversion of the lock's address for the race detector's mark: what the model runs there, written out (the kernel compares the two). -/
theorem conv_run (a : Addr) (w : World) : (convert 75 79 (.pointer (some a))).run Yba.prog w = Sem.run Yba.prog (do
    let s ← Conv.seenAt a
    let nothing := match ← cellsIn s.block with
      | some cells => s.off ≥ cells && s.spot.isNone
      | none => false
    if (← sizeOf 46) = 0 || nothing then pure (.pointer (some ⟨← newObj (.view s 46), 0, none⟩)) else
    pure (.pointer (some s))) w := by kernel_rfl
/-- .. where a cell stands at the address: the same address; nothing is made. -/
theorem conv_up {a : Addr} {v : Value} {w : World} (hc : w.cell? a = some v) : (convert 75 79 (.pointer (some a))).run Yba.prog w = .ok (.pointer (some a)) w := by
  obtain ⟨e, n, hsh, hlt, hsp⟩ := World.shape?_of_cell? hc
  obtain ⟨i, hi, hz0⟩ := Option.map_eq_some_iff.1 Yba.muLib.room_tIMutex
  have hz : i.size ≠ 0 := by simpa using hz0
  have hge : ¬ (n ≤ a.off) := by omega
  rw [conv_run]
  simp [Conv.seenAt, viewAt, cellsIn, sizeOf, typeInfo, hi, hz, hsh, hge, Result.andThen]

set_option maxRecDepth 100000 in
set_option maxHeartbeats 800000 in
/-- '(*internal/sync.Mutex).TryLock', free and nobody waiting (state 0): state 1, true. -/
theorem itry_free (a : Addr) (w : World) (hc : w.cell? a = some (.int .i32 0)) (hz : w.frozen? a = false) :
    Calls Yba.prog 13 #[.pointer (some a)] w fun e w' => e = .returned (.bool true) ∧ w' = w.setCell a (.int .i32 1) := by
  have H := Yba.muLib
  have hd := disable H
  have he := enable H
  have ha := acquire H
  have hcas := run_call_cas_hit (P := Yba.prog) H.f_cas32 (by kernel_rfl) (by kernel_rfl) (by kernel_rfl) .i32 (by kernel_rfl) (y := 1) hc hz
  have hc' : (w.setCell a (.int .i32 1)).cell? a = some (.int .i32 1) := by simp [go_sem, hc]
  have hcv := conv_up hc'
  have hb1 : bits .and .i32 0 5 = 0 := by decide
  have hb2 : bits .or .i32 0 1 = 1 := by decide
  clear H
  go_enter Yba.func13, Yba.ntmps13
  go_wp2
  go_ret
  exact ⟨rfl, rfl⟩

set_option maxRecDepth 100000 in
set_option maxHeartbeats 800000 in
/-- '(*sync.Mutex).TryLock', the lock free and nobody waiting: it is taken, true. -/
theorem try_free (a : Addr) (w : World) (hc : w.cell? a = some (.int .i32 0)) (hz : w.frozen? a = false) :
    Calls Yba.prog 7 #[.pointer (some a)] w fun e w' => e = .returned (.bool true) ∧ w' = w.setCell a (.int .i32 1) := by
  go_enter Yba.func7, Yba.ntmps7
  go_wp2_with (go_at_call 13; refine (itry_free a _ hc hz).mono ?_; rintro e w' ⟨rfl, rfl⟩)
  go_ret
  exact ⟨rfl, rfl⟩

/-- WHAT 'Forget' LEAVES: the pins' cells but for the lock's word (let go again) and 'listed' (a new, empty map) as they were; no other block has turned. -/
structure Forgot (pb : Nat) (w w' : World) : Prop where
  mu : w'.cell? ⟨pb, 2, none⟩ = some (.int .i32 0)
  muFree : w'.frozen? ⟨pb, 2, none⟩ = false
  listed : w'.cell? ⟨pb, 4, none⟩ = some (.map (some w.heap.size))
  rest : ∀ o, o ≠ 2 → o ≠ 4 → w'.cell? ⟨pb, o, none⟩ = w.cell? ⟨pb, o, none⟩
  fresh : w'.ownsMap Yba.prog 9 (plainElem (H := Unit) Yba.prog 9) w.heap.size 0 (.map [])
  size : w.heap.size < w'.heap.size
  grown : w.grownBy w' (some pb)

theorem forgot_mk (pb : Nat) (v4 : Value) (w : World) (c2 : w.cell? ⟨pb, 2, none⟩ = some (.int .i32 0)) (c4 : w.cell? ⟨pb, 4, none⟩ = some v4) (f2 : w.frozen? ⟨pb, 2, none⟩ = false) :
    Forgot pb w ((((w.setCell ⟨pb, 2, none⟩ (.int .i32 1)).setCell ⟨pb, 4, none⟩ (.map (some w.heap.size))).alloc (.map #[] 0)).setCell ⟨pb, 2, none⟩ (.int .i32 0)) := by
  have hb : pb < w.heap.size := World.block_lt_of_cell? _ _ c2
  have k2 : (((w.setCell ⟨pb, 2, none⟩ (.int .i32 1)).setCell ⟨pb, 4, none⟩ (.map (some w.heap.size))).alloc (.map #[] 0)).cell? ⟨pb, 2, none⟩ = some (.int .i32 1) := by
    rw [World.cell?_alloc_past _ _ _ (by simpa using hb), World.cell?_setCell_other _ _ _ _ (by simp)]
    exact World.cell?_setCell_same w ⟨pb, 2, none⟩ (.int .i32 1) c2
  have e1 : (w.setCell ⟨pb, 2, none⟩ (.int .i32 1)).cell? ⟨pb, 4, none⟩ = some v4 := by rw [World.cell?_setCell_other _ _ _ _ (by simp)]; exact c4
  refine ⟨World.cell?_setCell_same _ _ _ k2, ?_, ?_, ?_, ?_, by simp, ?_⟩
  · rw [World.frozen?_setCell, World.frozen?_alloc_old _ _ _ (by simp; omega), World.frozen?_setCell, World.frozen?_setCell]; exact f2
  · rw [World.cell?_setCell_other _ _ _ _ (by simp), World.cell?_alloc_past _ _ _ (by simpa using hb)]
    exact World.cell?_setCell_same _ _ _ e1
  · intro o h2 h4
    rw [World.cell?_setCell_other _ _ _ _ (fun e => h2 (congrArg Addr.off e).symm), World.cell?_alloc_past _ _ _ (by simpa using hb), World.cell?_setCell_other _ _ _ _ (fun e => h4 (congrArg Addr.off e).symm), World.cell?_setCell_other _ _ _ _ (fun e => h2 (congrArg Addr.off e).symm)]
  · have := World.ownsMap_made (H := Unit) ((w.setCell ⟨pb, 2, none⟩ (.int .i32 1)).setCell ⟨pb, 4, none⟩ (.map (some w.heap.size))) Yba.prog 9 (plainElem Yba.prog 9)
    simp only [World.size_setCell] at this
    exact this.setCell (by simp; omega) _
  · refine ⟨rfl, rfl, rfl, by simp, fun k hk hne => ?_⟩
    have hk' : k ≠ pb := fun e => hne (by rw [e])
    rw [Below.heap_setCell _ _ _ _ hk', Below.heap_alloc _ _ _ (by simpa using hk), Below.heap_setCell _ _ _ _ hk', Below.heap_setCell _ _ _ _ hk']

set_option maxRecDepth 100000 in
set_option maxHeartbeats 800000 in
/-- '(*Pins).Forget' at a pins whose lock is free: a new, empty map in the field 'listed'; the lock taken and let go. -/
theorem forget_run (pb : Nat) (v4 : Value) (w : World) (c2 : w.cell? ⟨pb, 2, none⟩ = some (.int .i32 0)) (c4 : w.cell? ⟨pb, 4, none⟩ = some v4) (f2 : w.frozen? ⟨pb, 2, none⟩ = false) (f4 : w.frozen? ⟨pb, 4, none⟩ = false) :
    Calls Yba.prog 9 #[.pointer (some ⟨pb, 0, none⟩)] w fun e w' => e = .returned (.tuple #[]) ∧ Forgot pb w w' := by
  have hmm := @run_makeMap Yba.prog
  have hb : pb < w.heap.size := World.block_lt_of_cell? _ _ c2
  have hF := forgot_mk pb v4 w c2 c4 f2
  have k4 : ((w.setCell ⟨pb, 2, none⟩ (.int .i32 1)).alloc (.map #[] 0)).cell? ⟨pb, 4, none⟩ = some v4 := by
    rw [World.cell?_alloc_past _ _ _ (by simpa using hb), World.cell?_setCell_other _ _ _ _ (by simp)]; exact c4
  have z4 : ((w.setCell ⟨pb, 2, none⟩ (.int .i32 1)).alloc (.map #[] 0)).frozen? ⟨pb, 4, none⟩ = false := by
    rw [World.frozen?_alloc_old _ _ _ (by simp; omega), World.frozen?_setCell]; exact f4
  have HF : Hid (Forgot _ _ _) := hF
  clear hF
  go_enter_defers Yba.func9, Yba.ntmps9
  go_wp2_with (go_at_call 10; refine (lock_free Yba.muLib ⟨pb, 2, none⟩ _ c2 f2).mono ?_; rintro e w' ⟨rfl, rfl⟩)
  refine leaves_cons (f := 8) (args := #[.pointer (some ⟨pb, 2, none⟩)]) (by simp) (by simp [go_sem]) ?_
  refine (unlock_deferred Yba.muLib ⟨pb, 2, none⟩ .returning _ ?_ ?_).mono ?_
  · rw [World.cell?_alloc_past _ _ _ (by simpa using hb), World.cell?_setCell_other _ _ _ _ (by simp)]
    exact World.cell?_setCell_same w ⟨pb, 2, none⟩ (.int .i32 1) c2
  · rw [World.frozen?_alloc_old _ _ _ (by simp; omega), World.frozen?_setCell, World.frozen?_setCell]; exact f2
  rintro e u' w'' ⟨rfl, rfl, rfl⟩
  exact ⟨_, results_none rfl _ _ _, rfl, HF.out⟩

end Go.Proofs.Ybulkaxlu
