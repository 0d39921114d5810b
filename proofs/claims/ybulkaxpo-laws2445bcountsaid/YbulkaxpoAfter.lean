/-
  Seat b2445a: the contracts of AfterFunc and of the function that arms another timer.
-/
import Derived.Test.YbulkaxpoClock
namespace Go.Proofs.Ybulkaxpo
open Go.RowKit
open Go.MuLone

theorem blks_snoc (T : List Tm) (t : Tm) : blks (T ++ [t]) = blks T ++ [tv t.blk] := by simp [blks]

/-- WHAT AfterFunc LEAVES, from the worlds that its walk comes through. -/
theorem after_clock {w w3 : World} {B : Nat} {T : List Tm} {cnt ran κ : Nat} (H : Clock w B 0 T cnt ran) {ao : Option Addr} {c0 g cap : Nat} (hown0 : w.ownsRow (B + 1 + 1 + 1) 41 1 (.slice ao T.length c0) T.length (blks T))
    (hg : ((((w.setCell ⟨B, 0, none⟩ (.int .i32 1)).setCell ⟨B, 3, none⟩ (.int .u64 ((cnt : Int) + 1))).alloc (.cells #[.pointer (some ⟨B, 0, none⟩), .int .u64 ((cnt : Int) + 1), fnOf B κ] 43)).alloc (.cells #[.pointer (some ⟨w.heap.size, 0, none⟩)] 41)).grownBy w3 (Value.slice ao T.length c0).ownBlock)
    (hown : w3.ownsRow (B + 1 + 1 + 1) 41 1 (.slice (some ⟨g, 0, none⟩) (T.length + 1) cap) (T.length + 1) (blks T ++ [.pointer (some ⟨w.heap.size, 0, none⟩)])) :
    Clock ((w3.setCell ⟨B, 2, none⟩ (.slice (some ⟨g, 0, none⟩) (T.length + 1) cap)).setCell ⟨B, 0, none⟩ (.int .i32 0)) B 0 (T ++ [⟨w.heap.size, cnt + 1, κ⟩]) (cnt + 1) ran ∧
      Below B w ((w3.setCell ⟨B, 2, none⟩ (.slice (some ⟨g, 0, none⟩) (T.length + 1) cap)).setCell ⟨B, 0, none⟩ (.int .i32 0)) ∧
      w3.cell? ⟨B, 0, none⟩ = some (.int .i32 1) ∧ (∃ v, w3.cell? ⟨B, 2, none⟩ = some v) ∧ ∀ o, w3.frozen? ⟨B, o, none⟩ = false := by
  have hs := H.size
  have H2 := (((H.setMu 1).setCnt (cnt + 1)).alloc (.cells #[.pointer (some ⟨B, 0, none⟩), .int .u64 ((cnt : Int) + 1), fnOf B κ] 43)).alloc (.cells #[.pointer (some ⟨w.heap.size, 0, none⟩)] 41)
  rw [show ((cnt + 1 : Nat) : Int) = (cnt : Int) + 1 by omega] at H2
  generalize hW : (((w.setCell ⟨B, 0, none⟩ (.int .i32 1)).setCell ⟨B, 3, none⟩ (.int .u64 ((cnt : Int) + 1))).alloc (.cells #[.pointer (some ⟨B, 0, none⟩), .int .u64 ((cnt : Int) + 1), fnOf B κ] 43)).alloc (.cells #[.pointer (some ⟨w.heap.size, 0, none⟩)] 41) = W at *
  have hbW : Below B w W := by
    rw [← hW]
    exact ((((Below.refl _ _).setCell (by exact Nat.le_refl _) _).setCell (by exact Nat.le_refl _) _).alloc (by simp; omega) _).alloc (by simp; omega) _
  have hownW : W.ownsRow (B + 1 + 1 + 1) 41 1 (.slice ao T.length c0) T.length (blks T) := by
    rw [← hW]
    exact ((ownsRow_setCell_below (ownsRow_setCell_below hown0 (by simp; omega) _) (by simp; omega) _).alloc _).alloc _
  have hnew : W.heap[w.heap.size]? = some (.cells (tmCells B ⟨w.heap.size, cnt + 1, κ⟩) 43 (0, 0)) := by
    rw [← hW, Below.heap_alloc _ _ _ (by simp)]
    have e : w.heap.size = ((w.setCell ⟨B, 0, none⟩ (.int .i32 1)).setCell ⟨B, 3, none⟩ (.int .u64 ((cnt : Int) + 1))).heap.size := by simp
    rw [e]
    rw [heap_alloc_new]
    simp [tmCells]
  have hrow : ∀ k, (Value.slice ao T.length c0).ownBlock = some k → B + 1 + 1 + 1 ≤ k := fun k hk => (hownW.lt k hk).1
  have hT : (T ++ [⟨w.heap.size, cnt + 1, κ⟩] : List Tm).length = T.length + 1 := by simp
  have hC := H2.turn (T' := T ++ [⟨w.heap.size, cnt + 1, κ⟩]) (ao := some ⟨g, 0, none⟩) (cap := cap) hg hrow (by rw [hT, blks_snoc]; exact hown) (fun t ht => by
    have hsz := hbW.size
    rcases List.mem_append.1 ht with ht | ht
    · have h := H2.tm t ht
      exact ⟨(hg.block _ (Array.getElem?_eq_some_iff.1 h.1).1 (row_ne hownW h.1)).trans h.1, h.2⟩
    · obtain rfl := List.mem_singleton.1 ht
      exact ⟨(hg.block _ (Array.getElem?_eq_some_iff.1 hnew).1 (row_ne hownW hnew)).trans hnew, by simp; omega⟩)
  rw [hT] at hC
  have hkb : w3.heap[B]? = W.heap[B]? := hg.block B (by have := hbW.size; omega) (fun e => by have := hrow B e.symm; omega)
  have kc : ∀ o, w3.cell? ⟨B, o, none⟩ = W.cell? ⟨B, o, none⟩ := fun o => World.cell?_of_block hkb
  obtain ⟨a', c', e2, _⟩ := H2.arm
  refine ⟨hC.setMu 0, ?_, (kc 0).trans H2.mu, ⟨_, (kc 2).trans e2⟩, fun o => (World.frozen?_of_block hkb).trans (H2.fz o)⟩
  exact (((hbW.grown hg (by have := hbW.size; omega) (fun k hk => by have := hrow k hk; omega))).setCell (by exact Nat.le_refl _) _).setCell (by exact Nat.le_refl _) _

set_option maxRecDepth 100000 in
set_option maxHeartbeats 1600000 in
theorem after_any (B : Nat) (T : List Tm) (cnt ran κ : Nat) (w : World) (H : Clock w B 0 T cnt ran) (hκ : κ ≤ 2) (hc : cnt ≤ 100000) (hT : T.length ≤ 100000) :
    Calls Yba.prog 5 #[.pointer (some ⟨B, 0, none⟩), .int .i64 0, fnOf B κ] w fun e w' => ∃ r nb, e = .returned r ∧ Clock w' B 0 (T ++ [⟨nb, cnt + 1, κ⟩]) (cnt + 1) ran ∧ Below B w w' := by
  obtain ⟨i0, hi0, hz0, hz1, hz2⟩ := info_parts info41
  obtain ⟨ao, c0, c2, hown0⟩ := H.arm
  have HH : Hid (Clock w B 0 T cnt ran) := H
  have hs := H.size
  have m0 := H.mu
  have m3 := H.cnt
  have f := H.fz
  have hB : B < w.heap.size := by omega
  have hB1 : B < w.heap.size + 1 := by omega
  have hown2 : ∀ o1 o2, ((((w.setCell ⟨B, 0, none⟩ (.int .i32 1)).setCell ⟨B, 3, none⟩ (.int .u64 ((cnt : Int) + 1))).alloc o1).alloc o2).ownsRow (B + 1 + 1 + 1) 41 1 (.slice ao T.length c0) T.length (blks T) :=
    fun o1 o2 => ((ownsRow_setCell_below (ownsRow_setCell_below hown0 (by simp; omega) _) (by simp; omega) _).alloc _).alloc _
  clear H
  have hk : κ = 0 ∨ κ = 1 ∨ κ = 2 := by omega
  rcases hk with rfl | rfl | rfl
  · simp only [fnOf]
    go_enter_defers Yba.func5, Yba.ntmps5
    go_wp2_with (first
      | (go_at_call 10; refine (lock_free Yba.muLib ⟨B, 0, none⟩ _ m0 (f 0)).mono ?_; rintro e w' ⟨rfl, rfl⟩)
      | (at_builtin; refine wpList_append_one _ rfl _ _ 31 rfl (B + 1 + 1 + 1) 41 i0 (.pointer none) 8 Yba.underlying31 hi0 hz0 hz1 hz2 rfl _ T.length (blks T) rfl (hown2 _ _) ⟨w.heap.size + 1, 0, none⟩ 1 (.pointer (some ⟨w.heap.size, 0, none⟩)) rfl ?_ ?_ ?_ ?_ ?_ ?_))
    · intro j u hj
      match j, hj with
      | 0, hj => simp at hj; subst hj; simp [go_sem, Addr.add]
    · intro u hu; simp at hu; subst hu; rfl
    · unfold maxLen; omega
    · omega
    · simp; omega
    intro g cap w3 hown3 hg3
    obtain ⟨hF, hb3, h0, ⟨v2, h2⟩, hf3⟩ := after_clock HH.out hown0 (κ := 0) hg3 hown3
    have HF : Hid _ := hF
    clear hF hown3 hg3 hown2
    go_wp2
    refine leaves_cons (f := 11) (args := #[.pointer (some ⟨B, 0, none⟩)]) (by simp) (by simp [go_sem]) ?_
    refine (unlock_deferred Yba.muLib ⟨B, 0, none⟩ .returning _ ?_ ?_).mono ?_
    · rw [World.cell?_setCell_other _ _ _ _ (by simp)]; exact h0
    · simp [hf3]
    rintro e u' w'' ⟨rfl, rfl, rfl⟩
    exact ⟨_, results_tmp rfl _ _ _, _, _, rfl, HF.out, hb3⟩
  · simp only [fnOf]
    go_enter_defers Yba.func5, Yba.ntmps5
    go_wp2_with (first
      | (go_at_call 10; refine (lock_free Yba.muLib ⟨B, 0, none⟩ _ m0 (f 0)).mono ?_; rintro e w' ⟨rfl, rfl⟩)
      | (at_builtin; refine wpList_append_one _ rfl _ _ 31 rfl (B + 1 + 1 + 1) 41 i0 (.pointer none) 8 Yba.underlying31 hi0 hz0 hz1 hz2 rfl _ T.length (blks T) rfl (hown2 _ _) ⟨w.heap.size + 1, 0, none⟩ 1 (.pointer (some ⟨w.heap.size, 0, none⟩)) rfl ?_ ?_ ?_ ?_ ?_ ?_))
    · intro j u hj
      match j, hj with
      | 0, hj => simp at hj; subst hj; simp [go_sem, Addr.add]
    · intro u hu; simp at hu; subst hu; rfl
    · unfold maxLen; omega
    · omega
    · simp; omega
    intro g cap w3 hown3 hg3
    obtain ⟨hF, hb3, h0, ⟨v2, h2⟩, hf3⟩ := after_clock HH.out hown0 (κ := 1) hg3 hown3
    have HF : Hid _ := hF
    clear hF hown3 hg3 hown2
    go_wp2
    refine leaves_cons (f := 11) (args := #[.pointer (some ⟨B, 0, none⟩)]) (by simp) (by simp [go_sem]) ?_
    refine (unlock_deferred Yba.muLib ⟨B, 0, none⟩ .returning _ ?_ ?_).mono ?_
    · rw [World.cell?_setCell_other _ _ _ _ (by simp)]; exact h0
    · simp [hf3]
    rintro e u' w'' ⟨rfl, rfl, rfl⟩
    exact ⟨_, results_tmp rfl _ _ _, _, _, rfl, HF.out, hb3⟩
  · simp only [fnOf]
    go_enter_defers Yba.func5, Yba.ntmps5
    go_wp2_with (first
      | (go_at_call 10; refine (lock_free Yba.muLib ⟨B, 0, none⟩ _ m0 (f 0)).mono ?_; rintro e w' ⟨rfl, rfl⟩)
      | (at_builtin; refine wpList_append_one _ rfl _ _ 31 rfl (B + 1 + 1 + 1) 41 i0 (.pointer none) 8 Yba.underlying31 hi0 hz0 hz1 hz2 rfl _ T.length (blks T) rfl (hown2 _ _) ⟨w.heap.size + 1, 0, none⟩ 1 (.pointer (some ⟨w.heap.size, 0, none⟩)) rfl ?_ ?_ ?_ ?_ ?_ ?_))
    · intro j u hj
      match j, hj with
      | 0, hj => simp at hj; subst hj; simp [go_sem, Addr.add]
    · intro u hu; simp at hu; subst hu; rfl
    · unfold maxLen; omega
    · omega
    · simp; omega
    intro g cap w3 hown3 hg3
    obtain ⟨hF, hb3, h0, ⟨v2, h2⟩, hf3⟩ := after_clock HH.out hown0 (κ := 2) hg3 hown3
    have HF : Hid _ := hF
    clear hF hown3 hg3 hown2
    go_wp2
    refine leaves_cons (f := 11) (args := #[.pointer (some ⟨B, 0, none⟩)]) (by simp) (by simp [go_sem]) ?_
    refine (unlock_deferred Yba.muLib ⟨B, 0, none⟩ .returning _ ?_ ?_).mono ?_
    · rw [World.cell?_setCell_other _ _ _ _ (by simp)]; exact h0
    · simp [hf3]
    rintro e u' w'' ⟨rfl, rfl, rfl⟩
    exact ⟨_, results_tmp rfl _ _ _, _, _, rfl, HF.out, hb3⟩

end Go.Proofs.Ybulkaxpo
