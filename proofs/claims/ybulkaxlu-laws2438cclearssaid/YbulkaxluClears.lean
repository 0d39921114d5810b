/-
  Seat b2438a: THE WALK of 'LawS2438CClears'.
-/
import Derived.Test.YbulkaxluTry
import Derived.Test.YbulkaxluParts
namespace Go.Proofs.Ybulkaxlu
open Go.RowKit Go.Maps Go.WideMaps
open Go.MuLone

theorem law9 : Keyed Yba.prog 9 := string_keyed Yba.underlying9
theorem zero4 (w : World) : (zeroValue 4).run Yba.prog w = .ok (.bool false) w := by kernel_rfl

theorem isSome60 : (Yba.prog.info? 60).isSome = true := by kernel_rfl
theorem key_ok {ss : List ByteArray} {k : Nat} (h : (ss.getD k ByteArray.empty).size ≤ maxLen) : keyOf Yba.prog 9 (.string (ss.getD k ByteArray.empty)) = some (keyAt ss k) :=
  keyOf_string_mk Yba.underlying9 h

set_option maxRecDepth 100000 in
set_option maxHeartbeats 1000000 in
theorem clears_main (a0 a1 a2 : Option Addr) (l0 l1 l2 c0 c1 c2 : Nat) (s0 s1 s2 : List ByteArray) (w : World) (h0 : StrRow w a0 l0 c0 s0) (h1 : StrRow w a1 l1 c1 s1) (h2 : StrRow w a2 l2 c2 s2)
    (b0 : l0 ≤ 1024) (b1 : l1 ≤ 1024) (b2 : l2 ≤ 1024) :
    Calls Yba.prog 4 #[.slice a0 l0 c0, .slice a1 l1 c1, .slice a2 l2 c2] w fun e w' => e = .returned (.bool true) ∧ Below w.heap.size w w' := by
  have hmm := @run_makeMap Yba.prog
  obtain ⟨n0, h0⟩ := h0
  obtain ⟨n1, h1⟩ := h1
  obtain ⟨n2, h2⟩ := h2
  have H0 : Hid _ := h0
  have H1 : Hid _ := h1
  have H2 : Hid _ := h2
  clear h0 h1 h2
  go_enter Yba.func4, Yba.ntmps4
  go_wp2
  go_loopw [35] (fun i wr => ∃ (k : Nat) (D : DataW Unit), k ≤ l0 ∧ i = .int .i64 k ∧ wr.ownsMap Yba.prog 9 (plainElem Yba.prog 9) w.heap.size k D ∧ Below w.heap.size w wr)
    (fun i _ => l0 - (intOf i).toNat)
  case atStart => exact ⟨0, .map [], Nat.zero_le _, rfl, World.ownsMap_made _ _ _ _, (Below.refl _ _).alloc (Nat.le_refl _) _⟩
  case round =>
    obtain ⟨k, D, hk, rfl, hown, hnx⟩ := hrel
    by_cases hlt : k < l0
    · obtain ⟨p, hp, hidx, hcell, hsz⟩ := H0.out k hlt
      have hkey := key_ok hsz
      have hcx := (hnx.cell hp).trans hcell
      clear hcell
      by_cases hl1 : k < l1
      · obtain ⟨p', hp', hidx', hcell', hsz'⟩ := H1.out k hl1
        have hcx' := (hnx.cell hp').trans hcell'
        clear hcell'
        go_wp2_with (first
          | (at_mapUpdate; refine wpList_mapUpdate_own _ rfl _ _ _ 57 rfl 9 9 law9 Yba.underlying57 (plainElem (H := Unit) Yba.prog 9) w.heap.size k D rfl hown (by unfold maxLen; omega) _ _ _ rfl rfl hkey _ [] (plainElem_string Yba.underlying9 hsz') ?_; intro w1 hown1 hgrow1)
          | go_in)
        go_roundw
        case rel => exact ⟨k + 1, _, by omega, by go_num, hown1, hnx.grown hgrow1 hnx.size (fun j hj => by cases hj; exact Nat.le_refl _)⟩
        case measure => simp [intOf]; omega
      · go_wp2_with (first
          | (at_mapUpdate; refine wpList_mapUpdate_own _ rfl _ _ _ 57 rfl 9 9 law9 Yba.underlying57 (plainElem (H := Unit) Yba.prog 9) w.heap.size k D rfl hown (by unfold maxLen; omega) _ _ _ rfl rfl hkey _ [] (plainElem_string Yba.underlying9 (by decide)) ?_; intro w1 hown1 hgrow1)
          | go_in)
        go_roundw
        case rel => exact ⟨k + 1, _, by omega, by go_num, hown1, hnx.grown hgrow1 hnx.size (fun j hj => by cases hj; exact Nat.le_refl _)⟩
        case measure => simp [intOf]; omega
    · go_wp2
      rename World => wo
      have hz0 : w.heap.size < wo.heap.size := hown.lt
      clear hown hlt hk H0 H1
      go_loopw [11, 55] (fun d i w2 => ∃ k : Nat, k ≤ l2 ∧ i = .int .i64 k ∧ d = .int .i64 (Maps.size (Sn (H := Unit) s2 k)) ∧ Maps.size (Sn (H := Unit) s2 k) ≤ k ∧ w2.ownsMap Yba.prog 9 (plainElem Yba.prog 4) wo.heap.size k (Sn (H := Unit) s2 k) ∧ Below w.heap.size w w2 ∧ wo.heap.size < w2.heap.size)
        (fun _ i _ => l2 - (intOf i).toNat)
      case atStart => exact ⟨0, Nat.zero_le _, rfl, by rw [Sn_zero]; rfl, by rw [Sn_zero]; exact Nat.le_refl _, by rw [Sn_zero]; exact World.ownsMap_made _ _ _ _, hnx.alloc (by omega) _, by simp⟩
      case round =>
        obtain ⟨k, hk, rfl, rfl, hsz, hown, hnx2, hz2⟩ := hrel
        clear hnx
        by_cases hlt : k < l2
        · obtain ⟨p, hp, hidx, hcell, hsz'⟩ := H2.out k hlt
          have hkey := key_ok hsz'
          have hcx := (hnx2.cell hp).trans hcell
          clear hcell
          have hat := Sn_at (H := Unit) s2 k k
          cases hin : inB s2 k k
          all_goals
            rw [hin] at hat
            go_wp2_with (first
              | (at_lookup; refine wpList_lookup_own_bool _ rfl _ _ 58 rfl 9 4 law9 Yba.underlying58 Yba.underlying4 (zero4 _) wo.heap.size k _ rfl hown _ _ rfl hkey _ hat ?_)
              | (at_mapUpdate; refine wpList_mapUpdate_own _ rfl _ _ _ 58 rfl 9 4 law9 Yba.underlying58 (plainElem (H := Unit) Yba.prog 4) wo.heap.size k _ rfl hown (by unfold maxLen; omega) _ _ _ rfl rfl hkey _ [] (plainElem_bool Yba.underlying4 true) ?_; intro w1 hown1 hgrow1)
              | go_in)
          · go_roundw
            case rel =>
              have e1 := Sn_size_new (H := Unit) s2 k (by omega) hin
              exact ⟨k + 1, by omega, by go_num, by rw [e1]; go_num, by omega, (Sn_succ s2 k (by omega)).symm ▸ hown1, hnx2.grown hgrow1 hnx2.size (fun j hj => by cases hj; omega), Nat.lt_of_lt_of_le hz2 hgrow1.size⟩
            case measure => simp [intOf]; omega
          · go_roundw
            case rel =>
              have e1 := Sn_size_old (H := Unit) s2 k (by omega) hin
              exact ⟨k + 1, by omega, by go_num, by rw [e1], by omega, (Sn_succ s2 k (by omega)).symm ▸ hown1, hnx2.grown hgrow1 hnx2.size (fun j hj => by cases hj; omega), Nat.lt_of_lt_of_le hz2 hgrow1.size⟩
            case measure => simp [intOf]; omega
        · have hkl : k = l2 := by omega
          subst hkl
          go_wp2_with fail
          rename World => wp
          refine (forget_run (wp.heap.size + 1) (.map (some w.heap.size)) _ ?_ ?_ ?_ ?_).mono ?_
          · simp [go_sem]
          · simp [go_sem]
          · simp [go_sem]
          · simp [go_sem]
          rintro e w3 ⟨rfl, hF⟩
          have k0 := hF.rest 0 (by omega) (by omega)
          have k1 := hF.rest 1 (by omega) (by omega)
          have k5 := hF.rest 5 (by omega) (by omega)
          have k4 := hF.listed
          have kf := hF.fresh
          simp [go_sem] at k0 k1 k5 k4 kf
          have km := hF.mu
          have kz := hF.muFree
          have hown3 := ((hown.alloc (.cells #[.map none] 60)).alloc _).kept hF.grown (by simp; omega)
          have hb3 : Below w.heap.size w w3 := ((hnx2.alloc (by omega) (.cells #[.map none] 60)).alloc (by simp; omega) _).grown hF.grown (by simp; omega) (fun j hj => by cases hj; have := hnx2.size; omega)
          have hs3 : wp.heap.size + 1 + 1 < w3.heap.size := kf.lt
          clear hF hown hnx2
          have q57 : ∀ (w : World) (r : Option Nat), (binOp .eql 57 (.map r) (.map none)).run Yba.prog w = .ok (.bool r.isNone) w := fun w r => run_eql_map_nil w _ _ _ r Yba.underlying57
          have hl57 : ∀ ty, (Builtin.len_ #[57] ty #[.map (some (wp.heap.size + 1 + 1))]).run Yba.prog w3 = .ok (.int .i64 0) w3 := fun ty => kf.len Yba.underlying57 ty
          have hl58 := fun ty => hown3.len Yba.underlying58 ty
          obtain ⟨i60, ih60⟩ := Option.isSome_iff_exists.1 isSome60
          have q33 : ∀ (w : World) (a : Addr), (binOp .neq 33 (.pointer (some a)) (.pointer (some a))).run Yba.prog w = .ok (.bool false) w := fun w a => run_neq_ptr_same w a Yba.underlying33 ih60
          go_wp2
          clear hl57 hl58 q57 q33 ih60
          go_loop [112] (fun i => ∃ j : Nat, j ≤ k ∧ i = .int .i64 j) (fun i => k - (intOf i).toNat)
          case atStart => exact ⟨0, Nat.zero_le _, rfl⟩
          case round =>
            obtain ⟨j, hj, rfl⟩ := hrel
            by_cases hlt : j < k
            · obtain ⟨p, hp, hidx, hcell, hsz'⟩ := H2.out j hlt
              have hkey := key_ok hsz'
              have hcx := (hb3.cell hp).trans hcell
              clear hcell
              have hat := Sn_at (H := Unit) s2 k j
              rw [inB_of_lt s2 k j hlt n2] at hat
              go_wp2_with (first
                | (at_lookup; refine wpList_lookup_own_bool _ rfl _ _ 58 rfl 9 4 law9 Yba.underlying58 Yba.underlying4 (zero4 _) wo.heap.size k _ rfl hown3 _ _ rfl hkey _ hat ?_)
                | go_in)
              go_round
              case rel => exact ⟨j + 1, by omega, by go_num⟩
              case measure => simp [intOf]; omega
            · go_wp2_with fail
              refine (try_free ⟨wp.heap.size + 1, 2, none⟩ _ km kz).mono ?_
              rintro e w4 ⟨rfl, rfl⟩
              go_wp2_with fail
              refine (unlock_held Yba.muLib ⟨wp.heap.size + 1, 2, none⟩ _ (World.cell?_setCell_same _ _ _ km) (by simpa using kz)).mono ?_
              rintro e w4 ⟨rfl, hw4⟩
              have c4 : w4.cell? ⟨wp.heap.size + 1, 4, none⟩ = some (.map (some (wp.heap.size + 1 + 1))) := by
                rw [hw4, World.cell?_setCell_other _ _ _ _ (by simp), World.cell?_setCell_other _ _ _ _ (by simp)]; exact k4
              have hown4 : w4.ownsMap Yba.prog 9 (plainElem (H := Unit) Yba.prog 9) (wp.heap.size + 1 + 1) 0 (.map []) := by
                rw [hw4]; exact (kf.setCell (by simp) _).setCell (by simp) _
              have hb4 : Below w.heap.size w w4 := by
                rw [hw4]; exact (hb3.setCell (by simp; omega) _).setCell (by simp; omega) _
              clear hw4 km kz k0 k1 k4 k5 kf hown3 H2 hb3
              have hkx : keyOf Yba.prog 9 (.string ⟨#[120]⟩) = some (.string [120]) := keyOf_string_mk Yba.underlying9 (by decide)
              go_wp2_with (first
                | (at_mapUpdate; refine wpList_mapUpdate_own _ rfl _ _ _ 57 rfl 9 9 law9 Yba.underlying57 (plainElem (H := Unit) Yba.prog 9) (wp.heap.size + 1 + 1) 0 _ rfl hown4 (by decide) _ _ _ rfl rfl hkx _ [] (plainElem_string Yba.underlying9 (by decide)) ?_; intro w5 hown5 hgrow5; have c5 : w5.cell? ⟨wp.heap.size + 1, 4, none⟩ = some (.map (some (wp.heap.size + 1 + 1))) := (World.cell?_of_block (hgrow5.block _ (World.block_lt_of_cell? _ _ c4) (by simp))).trans c4; have hl5 : ∀ ty, (Builtin.len_ #[57] ty #[.map (some (wp.heap.size + 1 + 1))]).run Yba.prog w5 = .ok (.int .i64 1) w5 := fun ty => hown5.len Yba.underlying57 ty)
                | go_in)
              go_ret
              exact ⟨rfl, hb4.grown hgrow5 hb4.size (fun j hj => by cases hj; omega)⟩

end Go.Proofs.Ybulkaxlu
