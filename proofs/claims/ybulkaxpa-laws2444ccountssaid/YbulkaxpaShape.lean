/-
  Seat b2444a: THE WALK of '(*Overlay).Shape'.
-/
import Derived.Test.YbulkaxpaSmall
import Derived.Deep.RegionWith
namespace Go.Proofs.Ybulkaxpa
open Go.RowKit

/-- A peer in memory: its struct lies from the block's head on. -/
structure PeerAt (w : World) (b : Nat) (q : Pr) : Prop where
  role : w.cell? ⟨b, 11, none⟩ = some (.int .i64 q.role)
  level : w.cell? ⟨b, 12, none⟩ = some (.int .i64 q.level)
  table : ∃ a m c, q.table = ((m : Nat) : Int) ∧ w.cell? ⟨b, 31, none⟩ = some (.slice a m c)
  held : w.cell? ⟨b, 3, none⟩ = some (.int .i64 q.held)

/-- A shape in memory. -/
structure ShapeAt (w : World) (b : Nat) (n : Nat) (s : St) : Prop where
  c0 : w.cell? ⟨b, 0, none⟩ = some (.int .i64 n)
  c1 : w.cell? ⟨b, 1, none⟩ = some (.int .i64 s.height)
  c2 : w.cell? ⟨b, 2, none⟩ = some (.int .i64 s.tree)
  c3 : w.cell? ⟨b, 3, none⟩ = some (.int .i64 s.bucks)
  c4 : w.cell? ⟨b, 4, none⟩ = some (.int .i64 s.bmin)
  c5 : w.cell? ⟨b, 5, none⟩ = some (.int .i64 s.bmax)
  c6 : w.cell? ⟨b, 6, none⟩ = some (.int .i64 s.elems)
  fz : ∀ o, w.frozen? ⟨b, o, none⟩ = false

theorem ShapeAt.set1 {w : World} {b n : Nat} {s : St} (h : ShapeAt w b n s) (e : Int) : ShapeAt (w.setCell ⟨b, 1, none⟩ (.int .i64 e)) b n { s with height := e } := by
  refine ⟨?_, World.cell?_setCell_same _ _ _ h.c1, ?_, ?_, ?_, ?_, ?_, fun o => by rw [World.frozen?_setCell]; exact h.fz o⟩ <;> rw [World.cell?_setCell_other _ _ _ _ (by simp)]
  · exact h.c0
  · exact h.c2
  · exact h.c3
  · exact h.c4
  · exact h.c5
  · exact h.c6
theorem ShapeAt.set2 {w : World} {b n : Nat} {s : St} (h : ShapeAt w b n s) (e : Int) : ShapeAt (w.setCell ⟨b, 2, none⟩ (.int .i64 e)) b n { s with tree := e } := by
  refine ⟨?_, ?_, World.cell?_setCell_same _ _ _ h.c2, ?_, ?_, ?_, ?_, fun o => by rw [World.frozen?_setCell]; exact h.fz o⟩ <;> rw [World.cell?_setCell_other _ _ _ _ (by simp)]
  · exact h.c0
  · exact h.c1
  · exact h.c3
  · exact h.c4
  · exact h.c5
  · exact h.c6
theorem ShapeAt.set3 {w : World} {b n : Nat} {s : St} (h : ShapeAt w b n s) (e : Int) : ShapeAt (w.setCell ⟨b, 3, none⟩ (.int .i64 e)) b n { s with bucks := e } := by
  refine ⟨?_, ?_, ?_, World.cell?_setCell_same _ _ _ h.c3, ?_, ?_, ?_, fun o => by rw [World.frozen?_setCell]; exact h.fz o⟩ <;> rw [World.cell?_setCell_other _ _ _ _ (by simp)]
  · exact h.c0
  · exact h.c1
  · exact h.c2
  · exact h.c4
  · exact h.c5
  · exact h.c6
theorem ShapeAt.set4 {w : World} {b n : Nat} {s : St} (h : ShapeAt w b n s) (e : Int) : ShapeAt (w.setCell ⟨b, 4, none⟩ (.int .i64 e)) b n { s with bmin := e } := by
  refine ⟨?_, ?_, ?_, ?_, World.cell?_setCell_same _ _ _ h.c4, ?_, ?_, fun o => by rw [World.frozen?_setCell]; exact h.fz o⟩ <;> rw [World.cell?_setCell_other _ _ _ _ (by simp)]
  · exact h.c0
  · exact h.c1
  · exact h.c2
  · exact h.c3
  · exact h.c5
  · exact h.c6
theorem ShapeAt.set5 {w : World} {b n : Nat} {s : St} (h : ShapeAt w b n s) (e : Int) : ShapeAt (w.setCell ⟨b, 5, none⟩ (.int .i64 e)) b n { s with bmax := e } := by
  refine ⟨?_, ?_, ?_, ?_, ?_, World.cell?_setCell_same _ _ _ h.c5, ?_, fun o => by rw [World.frozen?_setCell]; exact h.fz o⟩ <;> rw [World.cell?_setCell_other _ _ _ _ (by simp)]
  · exact h.c0
  · exact h.c1
  · exact h.c2
  · exact h.c3
  · exact h.c4
  · exact h.c6
theorem ShapeAt.set6 {w : World} {b n : Nat} {s : St} (h : ShapeAt w b n s) (e : Int) : ShapeAt (w.setCell ⟨b, 6, none⟩ (.int .i64 e)) b n { s with elems := e } := by
  refine ⟨?_, ?_, ?_, ?_, ?_, ?_, World.cell?_setCell_same _ _ _ h.c6, fun o => by rw [World.frozen?_setCell]; exact h.fz o⟩ <;> rw [World.cell?_setCell_other _ _ _ _ (by simp)]
  · exact h.c0
  · exact h.c1
  · exact h.c2
  · exact h.c3
  · exact h.c4
  · exact h.c5
theorem ShapeAt.other {w : World} {b n : Nat} {s : St} (h : ShapeAt w b n s) {a : Addr} (hne : a.block ≠ b) (v : Value) : ShapeAt (w.setCell a v) b n s := by
  have k : ∀ o, (w.setCell a v).cell? ⟨b, o, none⟩ = w.cell? ⟨b, o, none⟩ := fun o => World.cell?_setCell_other _ _ _ _ (fun e => hne (by rw [e]))
  exact ⟨(k 0).trans h.c0, (k 1).trans h.c1, (k 2).trans h.c2, (k 3).trans h.c3, (k 4).trans h.c4, (k 5).trans h.c5, (k 6).trans h.c6, fun o => by rw [World.frozen?_setCell]; exact h.fz o⟩
theorem ShapeAt.drew {w : World} {b n : Nat} {s : St} (h : ShapeAt w b n s) : ShapeAt w.drew b n s := ⟨h.c0, h.c1, h.c2, h.c3, h.c4, h.c5, h.c6, h.fz⟩

def shapeCells (n : Nat) (s : St) : Array Value := #[.int .i64 n, .int .i64 s.height, .int .i64 s.tree, .int .i64 s.bucks, .int .i64 s.bmin, .int .i64 s.bmax, .int .i64 s.elems]
def zero7 : Array Value := #[.int .i64 0, .int .i64 0, .int .i64 0, .int .i64 0, .int .i64 0, .int .i64 0, .int .i64 0]

/-- What 'Shape' reads: the overlay's two fields, the order, the peers. -/
structure Laid (w : World) (ob PS OB n0 n1 c1 : Nat) (X pb : Nat → Nat) (Q : Nat → Pr) : Prop where
  peers : w.cell? ⟨ob, 6, none⟩ = some (.slice (some ⟨PS, 0, none⟩) n0 n0)
  order : w.cell? ⟨ob, 7, none⟩ = some (.slice (some ⟨OB, 0, none⟩) n1 c1)
  at_ : ∀ j, j < n1 → w.cell? ⟨OB, j, none⟩ = some (.int .i64 (X j)) ∧ X j < n0
  peer : ∀ i, i < n0 → w.cell? ⟨PS, i, none⟩ = some (.pointer (some ⟨pb i, 0, none⟩)) ∧ PeerAt w (pb i) (Q i) ∧ 0 ≤ (Q i).held ∧ (Q i).held ≤ 5

set_option maxRecDepth 100000 in
set_option maxHeartbeats 4000000 in
theorem shape_any (ob PS OB n0 n1 c1 : Nat) (X pb : Nat → Nat) (Q : Nat → Pr) (w : World) (_hn0 : n0 ≤ 300) (hn1 : n1 ≤ 1024) (H : Laid w ob PS OB n0 n1 c1 X pb Q) :
    Calls Yba.prog 5 #[.pointer (some ⟨ob, 0, none⟩)] w fun e w' => e = .returned (.agg (shapeCells n1 (stTo (fun j => Q (X j)) n1))) ∧ Below w.heap.size w w' := by
  have hbd := st_bd (fun j => Q (X j)) n1 (fun j hj => (H.peer _ (H.at_ j hj).2).2.2)
  have HB : Hid _ := hbd
  have HH : Hid _ := H
  have ho6 := H.peers
  have ho7 := H.order
  have hob : ob < w.heap.size := World.block_lt_of_cell? _ _ ho6
  clear hbd H
  go_enter Yba.func5, Yba.ntmps5
  go_wp2
  go_loopw [19] (fun i wr => ∃ k : Nat, k ≤ n1 ∧ i = .int .i64 k ∧ ShapeAt wr (w.heap.size + 1) n1 (stTo (fun j => Q (X j)) k) ∧ ShapeAt wr w.heap.size 0 ⟨0, 0, 0, 0, 0, 0⟩ ∧ Below w.heap.size w wr)
    (fun i _ => n1 - (intOf i).toNat)
  case atStart =>
    refine ⟨0, Nat.zero_le _, rfl, ⟨?_, ?_, ?_, ?_, ?_, ?_, ?_, ?_⟩, ⟨?_, ?_, ?_, ?_, ?_, ?_, ?_, ?_⟩, ((Below.refl _ _).alloc (Nat.le_refl _) _).alloc (by simp) _⟩
    all_goals simp [stTo, go_sem]
  case round =>
    obtain ⟨k, hk, rfl, hS, hZ, hnx⟩ := hrel
    by_cases hlt : k < n1
    · obtain ⟨hx, hxl⟩ := HH.out.at_ k hlt
      obtain ⟨hp, hP, hh0, hh1⟩ := HH.out.peer _ hxl
      have hst : stTo (fun j => Q (X j)) (k + 1) = step (stTo (fun j => Q (X j)) k) (Q (X k)) := rfl
      have hb := HB.out k hk
      generalize stTo (fun j => Q (X j)) k = st at *
      generalize X k = x at *
      generalize pb x = b at *
      generalize Q x = q at *
      obtain ⟨ht, tr, bk, mn, mx, el⟩ := st
      obtain ⟨r, lv, tb, hd⟩ := q
      have s1 : wr.cell? ⟨w.heap.size + 1, 1, none⟩ = some (.int .i64 ht) := hS.c1
      have s2 : wr.cell? ⟨w.heap.size + 1, 2, none⟩ = some (.int .i64 tr) := hS.c2
      have s3 : wr.cell? ⟨w.heap.size + 1, 3, none⟩ = some (.int .i64 bk) := hS.c3
      have s4 : wr.cell? ⟨w.heap.size + 1, 4, none⟩ = some (.int .i64 mn) := hS.c4
      have s5 : wr.cell? ⟨w.heap.size + 1, 5, none⟩ = some (.int .i64 mx) := hS.c5
      have s6 : wr.cell? ⟨w.heap.size + 1, 6, none⟩ = some (.int .i64 el) := hS.c6
      have sf := hS.fz
      obtain ⟨ta, m, tc, htb, htc⟩ := hP.table
      have htb' : tb = (m : Int) := htb
      subst htb'
      have hb0 : b < w.heap.size := World.block_lt_of_cell? _ _ hP.role
      have hOB : OB < w.heap.size := World.block_lt_of_cell? _ _ hx
      have hPS : PS < w.heap.size := World.block_lt_of_cell? _ _ hp
      have p11 : wr.cell? ⟨b, 11, none⟩ = some (.int .i64 r) := (hnx.cell hb0).trans hP.role
      have p12 : wr.cell? ⟨b, 12, none⟩ = some (.int .i64 lv) := (hnx.cell hb0).trans hP.level
      have p31 : wr.cell? ⟨b, 31, none⟩ = some (.slice ta m tc) := (hnx.cell hb0).trans htc
      have p3 : wr.cell? ⟨b, 3, none⟩ = some (.int .i64 hd) := (hnx.cell hb0).trans hP.held
      have hx' := (hnx.cell (p := ⟨OB, k, none⟩) hOB).trans hx
      have hp' := (hnx.cell (p := ⟨PS, x, none⟩) hPS).trans hp
      have ho6' := (hnx.cell (p := ⟨ob, 6, none⟩) hob).trans ho6
      have hb1 : 0 ≤ el ∧ el ≤ 5 * k := ⟨hb.e0, hb.e1⟩
      have hb2 : 0 ≤ tr ∧ tr ≤ k := ⟨hb.t0, hb.t1⟩
      have hb3 : 0 ≤ bk ∧ bk ≤ k := ⟨hb.b0, hb.b1⟩
      obtain ⟨hb1a, hb1b⟩ := hb1
      obtain ⟨hb2a, hb2b⟩ := hb2
      obtain ⟨hb3a, hb3b⟩ := hb3
      simp only at hh0 hh1
      have HST : Hid _ := hst
      have hwr : IntKind.i64.wrap (el + hd) = el + hd := by rw [IntKind.wrap_i64]; omega
      have HS : Hid _ := hS
      clear hst hb htb htc hP hx hp ho6 ho7 hS
      go_wp2
      go_region_with (go_at_call 6; refine (len_any b 1 hd _ ?_).mono ?_; simp [go_sem, p3]; rintro e w' ⟨rfl, rfl⟩)
      all_goals
        clear hwr
        by_cases hr2 : r = 2
        · subst hr2
          go_wp2
          go_roundw
          case rel =>
            refine ⟨k + 1, by omega, by go_num, ?_, ?_, ?_⟩
            · rw [HST.out, st_role2 rfl]
              exact (HS.out.set6 _).drew
            · exact (hZ.other (by simp) _).drew
            · exact (hnx.setCell (by simp) _).drew
          case measure => simp [intOf]; omega
        · by_cases hr1 : r = 1
          · subst hr1
            by_cases hz : bk = 0
            · subst hz
              by_cases hmx : mx < (m : Int)
              · go_wp2_with (go_at_call 7; refine (size_any _ b ta m tc _ (by simp [go_sem, p31])).mono ?_; rintro e w' ⟨rfl, rfl⟩)
                go_roundw
                case rel =>
                  refine ⟨k + 1, by omega, by go_num, ?_, ?_, ?_⟩
                  · rw [HST.out, st_role1 rfl]; unfold stepBucks; rw [if_pos (Or.inl rfl), if_pos hmx]; exact ((((((HS.out.set6 _).set2 _).set3 _).set1 _).set4 _).set5 _).drew
                  · exact ((((((hZ.other (by simp) _).other (by simp) _).other (by simp) _).other (by simp) _).other (by simp) _).other (by simp) _).drew
                  · exact ((((((hnx.setCell (by simp) _).setCell (by simp) _).setCell (by simp) _).setCell (by simp) _).setCell (by simp) _).setCell (by simp) _).drew
                case measure => simp [intOf]; omega
              · go_wp2_with (go_at_call 7; refine (size_any _ b ta m tc _ (by simp [go_sem, p31])).mono ?_; rintro e w' ⟨rfl, rfl⟩)
                go_roundw
                case rel =>
                  refine ⟨k + 1, by omega, by go_num, ?_, ?_, ?_⟩
                  · rw [HST.out, st_role1 rfl]; unfold stepBucks; rw [if_pos (Or.inl rfl), if_neg (show ¬ mx < (m : Int) by omega)]; exact ((((((HS.out.set6 _).set2 _).set3 _).set1 _).set4 _).set5 _).drew
                  · exact ((((((hZ.other (by simp) _).other (by simp) _).other (by simp) _).other (by simp) _).other (by simp) _).other (by simp) _).drew
                  · exact ((((((hnx.setCell (by simp) _).setCell (by simp) _).setCell (by simp) _).setCell (by simp) _).setCell (by simp) _).setCell (by simp) _).drew
                case measure => simp [intOf]; omega
            · have hq : (bk + 1 == (1 : Int)) = false := by rw [beq_eq_false_iff_ne]; omega
              by_cases hm : (m : Int) < mn
              · by_cases hmx : mx < (m : Int)
                · go_wp2_with (go_at_call 7; refine (size_any _ b ta m tc _ (by simp [go_sem, p31])).mono ?_; rintro e w' ⟨rfl, rfl⟩)
                  go_roundw
                  case rel =>
                    refine ⟨k + 1, by omega, by go_num, ?_, ?_, ?_⟩
                    · rw [HST.out, st_role1 rfl]; unfold stepBucks; rw [if_pos (Or.inr hm), if_pos hmx]; exact ((((((HS.out.set6 _).set2 _).set3 _).set1 _).set4 _).set5 _).drew
                    · exact ((((((hZ.other (by simp) _).other (by simp) _).other (by simp) _).other (by simp) _).other (by simp) _).other (by simp) _).drew
                    · exact ((((((hnx.setCell (by simp) _).setCell (by simp) _).setCell (by simp) _).setCell (by simp) _).setCell (by simp) _).setCell (by simp) _).drew
                  case measure => simp [intOf]; omega
                · go_wp2_with (go_at_call 7; refine (size_any _ b ta m tc _ (by simp [go_sem, p31])).mono ?_; rintro e w' ⟨rfl, rfl⟩)
                  go_roundw
                  case rel =>
                    refine ⟨k + 1, by omega, by go_num, ?_, ?_, ?_⟩
                    · rw [HST.out, st_role1 rfl]; unfold stepBucks; rw [if_pos (Or.inr hm), if_neg (show ¬ mx < (m : Int) by omega)]; exact ((((((HS.out.set6 _).set2 _).set3 _).set1 _).set4 _).set5 _).drew
                    · exact ((((((hZ.other (by simp) _).other (by simp) _).other (by simp) _).other (by simp) _).other (by simp) _).other (by simp) _).drew
                    · exact ((((((hnx.setCell (by simp) _).setCell (by simp) _).setCell (by simp) _).setCell (by simp) _).setCell (by simp) _).setCell (by simp) _).drew
                  case measure => simp [intOf]; omega
              · have hmd : decide ((m : Int) < mn) = false := by simpa using hm
                by_cases hmx : mx < (m : Int)
                · go_wp2_with (go_at_call 7; refine (size_any _ b ta m tc _ (by simp [go_sem, p31])).mono ?_; rintro e w' ⟨rfl, rfl⟩)
                  go_roundw
                  case rel =>
                    refine ⟨k + 1, by omega, by go_num, ?_, ?_, ?_⟩
                    · rw [HST.out, st_role1 rfl]; unfold stepBucks; rw [if_neg (show ¬ (bk = 0 ∨ (m : Int) < mn) by omega), if_pos hmx]; exact (((((HS.out.set6 _).set2 _).set3 _).set1 _).set5 _).drew
                    · exact (((((hZ.other (by simp) _).other (by simp) _).other (by simp) _).other (by simp) _).other (by simp) _).drew
                    · exact (((((hnx.setCell (by simp) _).setCell (by simp) _).setCell (by simp) _).setCell (by simp) _).setCell (by simp) _).drew
                  case measure => simp [intOf]; omega
                · go_wp2_with (go_at_call 7; refine (size_any _ b ta m tc _ (by simp [go_sem, p31])).mono ?_; rintro e w' ⟨rfl, rfl⟩)
                  go_roundw
                  case rel =>
                    refine ⟨k + 1, by omega, by go_num, ?_, ?_, ?_⟩
                    · rw [HST.out, st_role1 rfl]; unfold stepBucks; rw [if_neg (show ¬ (bk = 0 ∨ (m : Int) < mn) by omega), if_neg (show ¬ mx < (m : Int) by omega)]; exact (((((HS.out.set6 _).set2 _).set3 _).set1 _).set5 _).drew
                    · exact (((((hZ.other (by simp) _).other (by simp) _).other (by simp) _).other (by simp) _).other (by simp) _).drew
                    · exact (((((hnx.setCell (by simp) _).setCell (by simp) _).setCell (by simp) _).setCell (by simp) _).setCell (by simp) _).drew
                  case measure => simp [intOf]; omega
          · go_wp2
            go_roundw
            case rel =>
              refine ⟨k + 1, by omega, by go_num, ?_, ?_, ?_⟩
              · rw [HST.out, st_role0 hr2 hr1]
                exact ((HS.out.set6 _).set2 _).drew
              · exact ((hZ.other (by simp) _).other (by simp) _).drew
              · exact ((hnx.setCell (by simp) _).setCell (by simp) _).drew
            case measure => simp [intOf]; omega
    · have hkn : k = n1 := by omega
      subst hkn
      have z0 := hZ.c0
      have z1 := hZ.c1
      have z2 := hZ.c2
      have z3 := hZ.c3
      have z4 := hZ.c4
      have z5 := hZ.c5
      have z6 := hZ.c6
      have zf := hZ.fz
      have s0 := hS.c0
      have s1 := hS.c1
      have s2 := hS.c2
      have s3 := hS.c3
      have s4 := hS.c4
      have s5 := hS.c5
      have s6 := hS.c6
      clear hZ hS
      go_wp2
      refine bodyPost_ret (v := .agg (shapeCells k (stTo (fun j => Q (X j)) k))) (by simp [results, Yba.results5, go_sem, shapeCells, z0, z1, z2, z3, z4, z5, z6]) rfl ⟨rfl, ?_⟩
      exact ((((((hnx.setCell (by simp) _).setCell (by simp) _).setCell (by simp) _).setCell (by simp) _).setCell (by simp) _).setCell (by simp) _).setCell (by simp) _

end Go.Proofs.Ybulkaxpa
