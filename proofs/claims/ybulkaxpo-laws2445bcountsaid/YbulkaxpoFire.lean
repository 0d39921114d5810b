/-
  Seat b2445a: the contract of Fire.
-/
import Derived.Test.YbulkaxpoAfter
namespace Go.Proofs.Ybulkaxpo
open Go.RowKit
open Go.MuLone

set_option maxRecDepth 100000 in
set_option maxHeartbeats 800000 in
/-- The function of a timer that arms another ($2). -/
theorem tick7 (B : Nat) (T : List Tm) (cnt ran : Nat) (w : World) (H : Clock w B 0 T cnt ran) (hr : ran ≤ 100000) (hc : cnt ≤ 100000) (hT : T.length ≤ 100000) :
    Calls Yba.prog 7 #[.pointer (some ⟨B + 1 + 1, 0, none⟩), .pointer (some ⟨B + 1, 0, none⟩)] w fun e w' => ∃ nb, e = .returned (.tuple #[]) ∧ Clock w' B 0 (T ++ [⟨nb, cnt + 1, 2⟩]) (cnt + 1) (ran + 1) ∧ Below B w w' := by
  have HC : Clock (w.setCell ⟨B + 1 + 1, 0, none⟩ (.int .i64 ((ran : Int) + 1))) B 0 T cnt (ran + 1) := by
    have := H.setRan (ran + 1); rwa [show ((ran + 1 : Nat) : Int) = (ran : Int) + 1 by omega] at this
  have HA := after_any B T cnt (ran + 1) 2 _ HC (by omega) hc hT
  have hfn : fnOf B 2 = .func (.func 8) #[] #[.pointer (some ⟨B + 1 + 1, 0, none⟩)] := rfl
  rw [hfn] at HA
  have HHA : Hid _ := HA
  have c := H.ran
  have f := H.rfz
  have x := H.box
  clear H HC HA
  go_enter Yba.func7, Yba.ntmps7
  go_wp2_with fail
  refine Calls.mono HHA.out ?_
  rintro e w' ⟨r, nb, rfl, hC, hb⟩
  go_wp2
  go_end0
  exact ⟨nb, rfl, hC, ((Below.refl _ _).setCell (by simp; omega) _).trans hb⟩

/-- How many of the timers arm another. -/
def rc : List Tm → Nat
  | [] => 0
  | t :: r => (if t.kind = 1 then 1 else 0) + rc r

theorem rc_append (a b : List Tm) : rc (a ++ b) = rc a + rc b := by
  induction a with
  | nil => simp [rc]
  | cons t r ih => simp [rc, ih]; omega

theorem rc_le (a : List Tm) : rc a ≤ a.length := by
  induction a with
  | nil => simp [rc]
  | cons t r ih => simp only [rc, List.length_cons]; split <;> omega

theorem take_next {T : List Tm} {k : Nat} {t : Tm} {r : List Tm} (h : T.drop k = t :: r) : T.take (k + 1) = T.take k ++ [t] ∧ T.drop (k + 1) = r ∧ k < T.length := by
  have hk : k < T.length := by
    rcases Nat.lt_or_ge k T.length with h' | h'
    · exact h'
    · rw [List.drop_eq_nil_of_le h'] at h; cases h
  rw [List.drop_eq_getElem_cons hk] at h
  simp only [List.cons.injEq] at h
  refine ⟨?_, h.2, hk⟩
  rw [List.take_succ_eq_append_getElem hk, h.1]

/-- What the first of the armed timers is in memory. -/
theorem Clock.first {w : World} {B : Nat} {μ : Int} {t : Tm} {L : List Tm} {cnt ran : Nat} (H : Clock w B μ (t :: L) cnt ran) :
    ∃ g cap, w.cell? ⟨B, 2, none⟩ = some (.slice (some ⟨g, 0, none⟩) (L.length + 1) cap) ∧ w.ownsRow (B + 1 + 1 + 1) 41 1 (.slice (some ⟨g, 0, none⟩) (L.length + 1) cap) (L.length + 1) (blks (t :: L)) ∧ B + 1 + 1 + 1 ≤ g ∧ L.length + 1 ≤ cap ∧ cap ≤ maxLen ∧
      w.cell? ⟨g, 0, none⟩ = some (.pointer (some ⟨t.blk, 0, none⟩)) ∧ w.cell? ⟨t.blk, 1, none⟩ = some (.int .u64 (t.seq : Int)) ∧ w.cell? ⟨t.blk, 2, none⟩ = some (fnOf B t.kind) := by
  obtain ⟨ao, cap, h2, hown⟩ := H.arm
  have hown' := hown
  obtain ⟨ht, hl⟩ := H.tm t (List.mem_cons_self ..)
  rcases hown.2 with ⟨_, h0⟩ | ⟨g, cap', cur, hv, hg, _, hn, hcm, _⟩
  · simp at h0
  · simp only [Value.slice.injEq] at hv
    obtain ⟨rfl, _, rfl⟩ := hv
    refine ⟨g, cap, h2, hown', hg, by simpa using hn, hcm, ?_, ?_, ?_⟩
    · have := World.ownsRow.cellAt hown' 0 (by simp)
      rw [this]; simp [blks, tv]
    · simp [World.cell?, ht, tmCells]
    · simp [World.cell?, ht, tmCells]

/-- THE FIRST TIMER TAKEN OUT AND THE LOCK LET GO. -/
theorem Clock.popped {w w2 : World} {B : Nat} {t : Tm} {L : List Tm} {cnt ran g cap : Nat} (H : Clock w B 1 (t :: L) cnt ran)
    (hown : w.ownsRow (B + 1 + 1 + 1) 41 1 (.slice (some ⟨g, 0, none⟩) (L.length + 1) cap) (L.length + 1) (blks (t :: L))) (hgB : B + 1 + 1 + 1 ≤ g)
    (hown2 : w2.ownsRow (B + 1 + 1 + 1) 41 1 (.slice (some ⟨g, 0, none⟩) L.length cap) L.length (blks L)) (hg : w.grownBy w2 (some g)) :
    Clock ((w2.setCell ⟨B, 2, none⟩ (.slice (some ⟨g, 0, none⟩) L.length cap)).setCell ⟨B, 0, none⟩ (.int .i32 0)) B 0 L cnt ran ∧
      Below B w ((w2.setCell ⟨B, 2, none⟩ (.slice (some ⟨g, 0, none⟩) L.length cap)).setCell ⟨B, 0, none⟩ (.int .i32 0)) ∧
      ((w2.setCell ⟨B, 2, none⟩ (.slice (some ⟨g, 0, none⟩) L.length cap)).setCell ⟨B, 0, none⟩ (.int .i32 0)).cell? ⟨t.blk, 2, none⟩ = some (fnOf B t.kind) ∧
      w2.cell? ⟨B, 0, none⟩ = some (.int .i32 1) ∧ (∃ v, w2.cell? ⟨B, 2, none⟩ = some v) ∧ ∀ o, w2.frozen? ⟨B, o, none⟩ = false := by
  have hs := H.size
  have hne : ∀ b, b < w.heap.size → b ≠ g → w2.heap[b]? = w.heap[b]? := fun b hb hn => hg.block b hb (fun e => hn (Option.some.inj e))
  have htm : ∀ t' ∈ t :: L, w2.heap[t'.blk]? = some (.cells (tmCells B t') 43 (0, 0)) ∧ B + 1 + 1 + 1 ≤ t'.blk := fun t' ht' => by
    have h := H.tm t' ht'
    exact ⟨(hg.block _ (Array.getElem?_eq_some_iff.1 h.1).1 (row_ne hown h.1)).trans h.1, h.2⟩
  have hC := H.turn (T' := L) (ao := some ⟨g, 0, none⟩) (cap := cap) hg (fun k hk => by cases hk; exact hgB) hown2 (fun t' ht' => htm t' (List.mem_cons_of_mem _ ht'))
  have hkB := hne B (by omega) (by omega)
  have kc : ∀ o, w2.cell? ⟨B, o, none⟩ = w.cell? ⟨B, o, none⟩ := fun o => World.cell?_of_block hkB
  obtain ⟨a', c', e2, _⟩ := H.arm
  have ht := htm t (List.mem_cons_self ..)
  refine ⟨hC.setMu 0, ?_, ?_, (kc 0).trans H.mu, ⟨_, (kc 2).trans e2⟩, fun o => (World.frozen?_of_block hkB).trans (H.fz o)⟩
  · exact ((below_grown hg (by omega) (fun k hk => by cases hk; omega)).setCell (by exact Nat.le_refl _) _).setCell (by exact Nat.le_refl _) _
  · rw [World.cell?_setCell_other _ ⟨B, 0, none⟩ ⟨t.blk, 2, none⟩ _ (by simp), World.cell?_setCell_other _ ⟨B, 2, none⟩ ⟨t.blk, 2, none⟩ _ (fun e => by have h1 : B = t.blk := congrArg Addr.block e; have := ht.2; omega)]
    simp [World.cell?, ht.1, tmCells]

set_option maxRecDepth 100000 in
set_option maxHeartbeats 2000000 in
theorem fire_any (B : Nat) (T : List Tm) (cnt ran : Nat) (w : World) (H : Clock w B 0 T cnt ran) (hT : ∀ t ∈ T, t.seq ≤ cnt ∧ t.kind ≤ 2) (hr : ran ≤ 10000) (hc : cnt ≤ 10000) (hl : T.length ≤ 10000) :
    Calls Yba.prog 9 #[.pointer (some ⟨B, 0, none⟩)] w fun e w' => ∃ new, e = .returned (.int .i64 T.length) ∧ Clock w' B 0 new (cnt + rc T) (ran + T.length) ∧ (∀ t ∈ new, t.kind = 2 ∧ cnt < t.seq ∧ t.seq ≤ cnt + rc T) ∧ new.length = rc T ∧ Below B w w' := by
  have HT : Hid _ := hT
  have H0 : Hid _ := (H.setMu 1).setMu 0
  have m0 := H.mu
  have m3 := H.cnt
  have f := H.fz
  have hb0 : Below B w ((w.setCell ⟨B, 0, none⟩ (.int .i32 1)).setCell ⟨B, 0, none⟩ (.int .i32 0)) := ((Below.refl _ _).setCell (by exact Nat.le_refl _) _).setCell (by exact Nat.le_refl _) _
  have hrl := rc_le T
  clear H hT
  go_enter Yba.func9, Yba.ntmps9
  go_wp2_with fail
  refine (lock_free Yba.muLib ⟨B, 0, none⟩ _ m0 (f 0)).mono ?_
  rintro e w1 ⟨rfl, rfl⟩
  go_wp2_with fail
  refine (unlock_held Yba.muLib ⟨B, 0, none⟩ _ (World.cell?_setCell_same _ _ _ m0) (by simp [f])).mono ?_
  rintro e w1 ⟨rfl, hw1⟩
  have HC : Hid (Clock w1 B 0 T cnt ran) := by rw [hw1]; exact H0.out
  have hb1 : Below B w w1 := by rw [hw1]; exact hb0
  clear hw1 H0 hb0 m0 m3 f
  go_wp2
  go_loopw [4] (fun i wr => ∃ (k : Nat) (new : List Tm), k ≤ T.length ∧ i = .int .i64 k ∧ Clock wr B 0 (T.drop k ++ new) (cnt + rc (T.take k)) (ran + k) ∧ (∀ t ∈ new, t.kind = 2 ∧ cnt < t.seq ∧ t.seq ≤ cnt + rc (T.take k)) ∧ new.length = rc (T.take k) ∧ Below B w wr)
    (fun i _ => T.length - (intOf i).toNat)
  case atStart => exact ⟨0, [], Nat.zero_le _, rfl, by simpa [rc] using HC.out, fun t ht => (by cases ht), by simp [rc], hb1⟩
  case round =>
    clear HC hb1
    obtain ⟨k, new, hk, rfl, hC, hnew, hnl, hnx⟩ := hrel
    have m0 := hC.mu
    have f0 := hC.fz 0
    have HC1 := hC.setMu 1
    rcases hd : T.drop k with _ | ⟨t, rest⟩
    · -- none of the timers that were armed at the call is left
      have hkl : T.length ≤ k := List.drop_eq_nil_iff.1 hd
      have hkk : k = T.length := by omega
      rw [hd, List.nil_append] at hC HC1
      have hfin : Hid (∀ w', Below B wr w' → Clock w' B 0 new (cnt + rc (T.take k)) (ran + k) → (Ending.returned (.int .i64 (k : Int)) = .returned (.int .i64 T.length)) ∧ Clock w' B 0 new (cnt + rc T) (ran + T.length) ∧ (∀ t ∈ new, t.kind = 2 ∧ cnt < t.seq ∧ t.seq ≤ cnt + rc T) ∧ new.length = rc T ∧ Below B w w') := by
        intro w' hb hCl
        have e1 : T.take k = T := List.take_of_length_le hkl
        rw [e1] at hCl hnew hnl
        rw [hkk] at hCl
        exact ⟨by rw [hkk], hCl, hnew, hnl, hnx.trans hb⟩
      have hbb : Below B wr ((wr.setCell ⟨B, 0, none⟩ (.int .i32 1)).setCell ⟨B, 0, none⟩ (.int .i32 0)) := ((Below.refl _ _).setCell (by exact Nat.le_refl _) _).setCell (by exact Nat.le_refl _) _
      have HF : Hid _ := hfin.out _ hbb (HC1.setMu 0)
      clear hfin hbb hd hkl hnx
      rcases new with _ | ⟨t, new⟩
      · obtain ⟨ao, cap, c2, _⟩ := HC1.arm
        simp only [List.length_nil] at c2
        clear HC1 hC hnew hnl
        go_wp2_with fail
        refine (lock_free Yba.muLib ⟨B, 0, none⟩ _ m0 f0).mono ?_
        rintro e w2 ⟨rfl, rfl⟩
        go_wp2_with fail
        refine (unlock_held Yba.muLib ⟨B, 0, none⟩ _ (World.cell?_setCell_same _ _ _ m0) (by simp [f0])).mono ?_
        rintro e w2 ⟨rfl, rfl⟩
        go_wp2
        go_ret
        exact ⟨_, rfl, HF.out.2⟩
      · have hseq : (cnt : Int) < (t.seq : Int) := by have := (hnew t (List.mem_cons_self ..)).2.1; omega
        obtain ⟨g, cap, c2, _, hgB, hcap, hcm, cg, cs, _⟩ := HC1.first
        unfold maxLen at hcm
        clear HC1 hC hnew hnl
        go_wp2_with fail
        refine (lock_free Yba.muLib ⟨B, 0, none⟩ _ m0 f0).mono ?_
        rintro e w2 ⟨rfl, rfl⟩
        go_wp2_with fail
        refine (unlock_held Yba.muLib ⟨B, 0, none⟩ _ (World.cell?_setCell_same _ _ _ m0) (by simp [f0])).mono ?_
        rintro e w2 ⟨rfl, rfl⟩
        go_wp2
        go_ret
        exact ⟨_, rfl, HF.out.2⟩
    · obtain ⟨ht1, ht2, hkl⟩ := take_next hd
      have htm := HT.out t (by have : t ∈ T.drop k := by rw [hd]; exact List.mem_cons_self ..
                               exact List.mem_of_mem_drop this)
      have hseq : ¬ (cnt : Int) < (t.seq : Int) := by omega
      have hsd : decide ((cnt : Int) < (t.seq : Int)) = false := by simpa using hseq
      rw [hd, List.cons_append] at hC HC1
      have hrk := rc_le (T.take k)
      have hlk : (T.take k).length ≤ k := List.length_take_le _ _
      have hrest : (rest ++ new).length ≤ T.length := by
        have e := congrArg List.length hd
        simp only [List.length_drop, List.length_cons] at e
        rw [List.length_append, hnl]; omega
      obtain ⟨g, cap, c2, hown, hgB, hcap, hcm, cg, cs, cf⟩ := HC1.first
      have hown' : (wr.setCell ⟨B, 0, none⟩ (.int .i32 1)).ownsRow (B + 1 + 1 + 1) 41 1 (.slice (some ⟨g, 0, none⟩) (((rest ++ new).map Tm.blk).length + 1) cap) (((rest ++ new).map Tm.blk).length + 1) ((t.blk :: (rest ++ new).map Tm.blk).map tv) := by
        rw [List.length_map]; exact hown
      have hdel := delete_first (B + 1 + 1 + 1) g cap t.blk ((rest ++ new).map Tm.blk) _ hown' (by rw [List.length_map]; exact hcap) (by unfold maxLen at hcm; omega)
      rw [List.length_map] at hdel
      have HD : Hid _ := hdel
      have HO : Hid _ := hown
      have HC2 : Hid _ := HC1
      unfold maxLen at hcm
      have hnz : (((rest ++ new).length : Int) + 1 == 0) = false := by rw [beq_eq_false_iff_ne]; omega
      generalize hLL : rest ++ new = L at *
      clear hdel hown hown' HC1 hseq
      go_wp2_with fail
      refine (lock_free Yba.muLib ⟨B, 0, none⟩ _ m0 f0).mono ?_
      rintro e w2 ⟨rfl, rfl⟩
      go_wp2_with fail
      refine Calls.mono HD.out ?_
      rintro e w2 ⟨rfl, hown2, hg2⟩
      obtain ⟨hCp, hbp, hfn, p0, ⟨v2, p2⟩, pf⟩ := Clock.popped HC2.out HO.out hgB hown2 hg2
      clear hown2 hg2
      go_wp2_with fail
      refine (unlock_held Yba.muLib ⟨B, 0, none⟩ _ (by rw [World.cell?_setCell_other _ _ _ _ (by simp)]; exact p0) (by simp [pf])).mono ?_
      rintro e w3 ⟨rfl, hw3⟩
      rw [← hw3] at hCp hbp hfn
      have hb3 : Below B w w3 := (hnx.trans ((Below.refl _ _).setCell (by exact Nat.le_refl _) _)).trans hbp
      have htl : T.take (k + 1) = T.take k ++ [t] := ht1
      have HTL : Hid _ := htl
      have HDR : Hid (T.drop (k + 1) = rest) := ht2
      have HLL : Hid (rest ++ new = L) := hLL
      have HCp : Hid _ := hCp
      clear hw3 hbp p0 p2 pf hnx hC HC2 HO HD c2 cg cs cf m0 f0 ht1 ht2 hd hLL htl hCp hsd hnz
      have hkd : t.kind = 0 ∨ t.kind = 1 ∨ t.kind = 2 := by omega
      rcases hkd with hkd | hkd | hkd
      · rw [hkd] at hfn
        simp only [fnOf] at hfn
        go_wp2_with fail
        refine (tick6 B L _ _ w3 HCp.out (by omega)).mono ?_
        rintro e w4 ⟨rfl, hC4, hb4⟩
        go_wp2
        go_roundw
        case rel =>
          have e1 : rc (T.take (k + 1)) = rc (T.take k) := by rw [HTL.out, rc_append]; simp [rc, hkd]
          exact ⟨k + 1, new, by omega, by go_num, by rw [HDR.out, HLL.out, e1]; exact hC4, by rw [e1]; exact hnew, by rw [e1]; exact hnl, hb3.trans hb4⟩
        case measure => simp [intOf]; omega
      · rw [hkd] at hfn
        simp [fnOf] at hfn
        go_wp2_with fail
        refine (tick7 B L _ _ w3 HCp.out (by omega) (by omega) (by omega)).mono ?_
        rintro e w4 ⟨nb, rfl, hC4, hb4⟩
        go_wp2
        go_roundw
        case rel =>
          have e1 : rc (T.take (k + 1)) = rc (T.take k) + 1 := by rw [HTL.out, rc_append]; simp [rc, hkd]
          refine ⟨k + 1, new ++ [⟨nb, cnt + rc (T.take k) + 1, 2⟩], by omega, by go_num, ?_, ?_, by rw [e1, List.length_append, hnl]; rfl, hb3.trans hb4⟩
          · rw [HDR.out, ← List.append_assoc, HLL.out, e1]; exact hC4
          · intro t' ht'
            rcases List.mem_append.1 ht' with h | h
            · have := hnew t' h; exact ⟨this.1, this.2.1, by omega⟩
            · obtain rfl := List.mem_singleton.1 h
              exact ⟨rfl, by simp only; omega, by simp only; omega⟩
        case measure => simp [intOf]; omega
      · rw [hkd] at hfn
        simp [fnOf] at hfn
        go_wp2_with fail
        refine (tick8 B L _ _ w3 HCp.out (by omega)).mono ?_
        rintro e w4 ⟨rfl, hC4, hb4⟩
        go_wp2
        go_roundw
        case rel =>
          have e1 : rc (T.take (k + 1)) = rc (T.take k) := by rw [HTL.out, rc_append]; simp [rc, hkd]
          exact ⟨k + 1, new, by omega, by go_num, by rw [HDR.out, HLL.out, e1]; exact hC4, by rw [e1]; exact hnew, by rw [e1]; exact hnl, hb3.trans hb4⟩
        case measure => simp [intOf]; omega

end Go.Proofs.Ybulkaxpo
