/-
  Seat b2444a: THE WALK of 'LawS2444CCounts'.
-/
import Derived.Test.YbulkaxpaShape
import Derived.Deep.OwnRows
namespace Go.Proofs.Ybulkaxpa
open Go.RowKit

theorem info30 : (Yba.prog.info? 30).map (fun i => (i.zero, i.size, i.bytes)) = some (some (.pointer none), 1, 8) := by kernel_rfl
theorem info9 : (Yba.prog.info? 9).map (fun i => (i.zero, i.size, i.bytes)) = some (some (.string ⟨#[]⟩), 1, 16) := by kernel_rfl
theorem info31 : (Yba.prog.info? 31).map (fun i => (i.zero, i.size, i.bytes)) = some (some (.int .i64 0), 1, 8) := by kernel_rfl
theorem info99 : (Yba.prog.info? 99).map (fun i => (i.zero, i.size, i.bytes)) = some (some (.agg #[.int .i64 0, .string ⟨#[]⟩, .bool false, .bool false]), 4, 40) := by kernel_rfl

/-- WHAT THE WALK IS TOLD OF THE PEERS THAT CAME IN, nil or not. -/
def PeerRow (W : World) (a : Option Addr) (n c : Nat) (R L Bk Ks : Nat → Int) : Prop :=
  ∀ k : Nat, k < n → ∃ b o : Nat, b < W.heap.size ∧ (∀ w : World, (Instr.indexAt 22 (.slice a n c) (.int .i64 (k : Int))).run Yba.prog w = .ok (.pointer (some ⟨b, o, none⟩)) w) ∧
    W.cell? ⟨b, o, none⟩ = some (.int .u8 (R k)) ∧ W.cell? ⟨b, o + 1, none⟩ = some (.int .i64 (L k)) ∧ W.cell? ⟨b, o + 2, none⟩ = some (.int .u8 (Bk k)) ∧ W.cell? ⟨b, o + 3, none⟩ = some (.int .u8 (Ks k)) ∧
    0 ≤ R k ∧ R k ≤ 255 ∧ 0 ≤ Bk k ∧ Bk k ≤ 255 ∧ 0 ≤ Ks k ∧ Ks k ≤ 255

/-- .. of the order. -/
def OrdRow (W : World) (a : Option Addr) (n c : Nat) (O : Nat → Int) : Prop :=
  ∀ k : Nat, k < n → ∃ p : Addr, p.block < W.heap.size ∧ (∀ w : World, (Instr.indexAt 23 (.slice a n c) (.int .i64 (k : Int))).run Yba.prog w = .ok (.pointer (some p)) w) ∧
    W.cell? p = some (.int .u16 (O k)) ∧ 0 ≤ O k ∧ O k ≤ 65535

def nameCells : Array Value := #[.string ⟨#[97]⟩, .string ⟨#[98]⟩, .string ⟨#[99]⟩, .string ⟨#[100]⟩, .string ⟨#[101]⟩, .string ⟨#[102]⟩, .string ⟨#[103]⟩, .string ⟨#[104]⟩]
def roleCells : Array Value := #[.int .i64 0, .int .i64 1, .int .i64 2]

def prOf (R L Bk Ks : Nat → Int) (i : Nat) : Pr := ⟨R i % 3, L i, Bk i % 6, Ks i % 6⟩

/-- What the first loop has laid after k rounds: the names, the roles, the slice of peers, and k peers in it. -/
structure Built (w : World) (B n0 k : Nat) (Q : Nat → Pr) : Prop where
  names : ∀ j, j < 8 → ∃ s, w.cell? ⟨B, j, none⟩ = some (.string s)
  roles : ∀ j : Nat, j < 3 → w.cell? ⟨B + 1, j, none⟩ = some (.int .i64 (j : Int))
  ps : ∀ i, i < n0 → ∃ v, w.cell? ⟨B + 1 + 1, i, none⟩ = some v
  psf : ∀ i, w.frozen? ⟨B + 1 + 1, i, none⟩ = false
  done : ∀ i, i < k → ∃ b, B + 1 + 1 < b ∧ w.cell? ⟨B + 1 + 1, i, none⟩ = some (.pointer (some ⟨b, 0, none⟩)) ∧ PeerAt w b (Q i)
  size : B + 1 + 1 < w.heap.size

theorem PeerAt.kept {w w' : World} {b : Nat} {q : Pr} (h : PeerAt w b q) (hb : w'.heap[b]? = w.heap[b]?) : PeerAt w' b q := by
  have k : ∀ o, w'.cell? ⟨b, o, none⟩ = w.cell? ⟨b, o, none⟩ := fun o => World.cell?_of_block hb
  obtain ⟨a, m, c, h1, h2⟩ := h.table
  exact ⟨(k _).trans h.role, (k _).trans h.level, ⟨a, m, c, h1, (k _).trans h2⟩, (k _).trans h.held⟩

theorem PeerAt.lt {w : World} {b : Nat} {q : Pr} (h : PeerAt w b q) : b < w.heap.size := World.block_lt_of_cell? _ _ h.role

theorem Built.grown {w w1 : World} {B n0 k : Nat} {Q : Nat → Pr} (h : Built w B n0 k Q) (hg : w.grownBy w1 none) : Built w1 B n0 k Q := by
  have hs := h.size
  have kb : ∀ b, b < w.heap.size → w1.heap[b]? = w.heap[b]? := fun b hb => hg.block b hb (by simp)
  have kc : ∀ b o, b < w.heap.size → w1.cell? ⟨b, o, none⟩ = w.cell? ⟨b, o, none⟩ := fun b o hb => World.cell?_of_block (kb b hb)
  have kf : ∀ b o, b < w.heap.size → w1.frozen? ⟨b, o, none⟩ = w.frozen? ⟨b, o, none⟩ := fun b o hb => World.frozen?_of_block (kb b hb)
  refine ⟨fun j hj => ?_, fun j hj => ?_, fun i hi => ?_, fun i => ?_, fun i hi => ?_, Nat.lt_of_lt_of_le hs hg.size⟩
  · rw [kc _ _ (by omega)]; exact h.names j hj
  · rw [kc _ _ (by omega)]; exact h.roles j hj
  · rw [kc _ _ (by omega)]; exact h.ps i hi
  · rw [kf _ _ (by omega)]; exact h.psf i
  · obtain ⟨b, h1, h2, h3⟩ := h.done i hi
    exact ⟨b, h1, by rw [kc _ _ (by omega)]; exact h2, h3.kept (kb b h3.lt)⟩

/-- THE ROUND's LAST STEP: the new peer goes into the slice. -/
theorem Built.step {w w1 : World} {B n0 k b : Nat} {Q : Nat → Pr} (h : Built w B n0 k Q) (hg : w.grownBy w1 none) (hb : B + 1 + 1 < b) (hP : PeerAt w1 b (Q k)) (hk : k < n0) :
    Built (w1.setCell ⟨B + 1 + 1, k, none⟩ (.pointer (some ⟨b, 0, none⟩))) B n0 (k + 1) Q := by
  have h1 := h.grown hg
  obtain ⟨v, hv⟩ := h1.ps k hk
  refine ⟨fun j hj => ?_, fun j hj => ?_, fun i hi => ?_, fun i => ?_, fun i hi => ?_, by simpa using h1.size⟩
  · rw [World.cell?_setCell_other _ _ _ _ (by simp)]; exact h1.names j hj
  · rw [World.cell?_setCell_other _ _ _ _ (by simp)]; exact h1.roles j hj
  · by_cases e : i = k
    · subst e; exact ⟨_, World.cell?_setCell_same _ _ _ hv⟩
    · rw [World.cell?_setCell_other _ _ _ _ (fun e' => e (congrArg Addr.off e').symm)]; exact h1.ps i hi
  · rw [World.frozen?_setCell]; exact h1.psf i
  · by_cases e : i = k
    · subst e
      exact ⟨b, hb, World.cell?_setCell_same _ _ _ hv, hP.kept (Below.heap_setCell _ _ _ _ (by simp; omega))⟩
    · obtain ⟨b', e1, e2, e3⟩ := h1.done i (by omega)
      exact ⟨b', e1, by rw [World.cell?_setCell_other _ _ _ _ (fun e' => e (congrArg Addr.off e').symm)]; exact e2, e3.kept (Below.heap_setCell _ _ _ _ (by simp; omega))⟩

theorem make42 (n : Nat) (h5 : n ≤ 5) : ∃ X, ∀ w : World, (Instr.makeSlice 42 (.int .i64 (n : Int)) (.int .i64 (n : Int))).run Yba.prog w = .ok (.slice (some ⟨w.heap.size, 0, none⟩) n n) (w.alloc (.cells X 99)) := by
  obtain ⟨i, hi, hz0, hz1, hz2⟩ := info_parts info99
  exact ⟨_, fun w => run_make w 42 99 i _ Yba.underlying42 hi hz0 .i64 .i64 n n (by omega) (Int.le_refl _) (by rw [hz2]; omega) (by omega)⟩

theorem madeCells_at (v : Value) (n i : Nat) (h : i < n) : (madeCells #[v] n)[i]? = some v := by
  simp [madeCells, h, Nat.mod_one]

theorem make33 (n : Nat) (h5 : n ≤ 5) : ∃ Y : Array Value, (∀ i, i < n → ∃ s, Y[i]? = some (.string s)) ∧ ∀ w : World, (Instr.makeSlice 33 (.int .i64 (n : Int)) (.int .i64 (n : Int))).run Yba.prog w = .ok (.slice (some ⟨w.heap.size, 0, none⟩) n n) (w.alloc (.cells Y 9)) := by
  have h := run_make_row' (P := Yba.prog) 33 9 (.string ⟨#[]⟩) 16 Yba.underlying33 info9 rfl .i64 .i64 n (by omega) (by omega)
  exact ⟨_, fun i hi => ⟨_, madeCells_at _ _ _ hi⟩, h⟩

/-- A peer in the making: its keys are not yet laid. -/
structure Half (w : World) (b : Nat) (r lv : Int) (a : Option Addr) (n c : Nat) : Prop where
  c1 : w.cell? ⟨b, 1, none⟩ = some (.slice none 0 0)
  c2 : w.cell? ⟨b, 2, none⟩ = some (.slice none 0 0)
  c3 : w.cell? ⟨b, 3, none⟩ = some (.int .i64 0)
  c4 : w.cell? ⟨b, 4, none⟩ = some (.string ⟨#[]⟩)
  c5 : w.cell? ⟨b, 5, none⟩ = some (.pointer none)
  c11 : w.cell? ⟨b, 11, none⟩ = some (.int .i64 r)
  c12 : w.cell? ⟨b, 12, none⟩ = some (.int .i64 lv)
  c31 : w.cell? ⟨b, 31, none⟩ = some (.slice a n c)
  fz : ∀ o, w.frozen? ⟨b, o, none⟩ = false

theorem Half.kept {w w' : World} {b : Nat} {r lv : Int} {a : Option Addr} {n c : Nat} (h : Half w b r lv a n c) (hb : w'.heap[b]? = w.heap[b]?) : Half w' b r lv a n c := by
  have k : ∀ o, w'.cell? ⟨b, o, none⟩ = w.cell? ⟨b, o, none⟩ := fun o => World.cell?_of_block hb
  exact ⟨(k _).trans h.c1, (k _).trans h.c2, (k _).trans h.c3, (k _).trans h.c4, (k _).trans h.c5, (k _).trans h.c11, (k _).trans h.c12, (k _).trans h.c31, fun o => (World.frozen?_of_block hb).trans (h.fz o)⟩

theorem Half.lt {w : World} {b : Nat} {r lv : Int} {a : Option Addr} {n c : Nat} (h : Half w b r lv a n c) : b < w.heap.size := World.block_lt_of_cell? _ _ h.c1

/-- THE KEYS STORED: the peer stands. -/
theorem Half.done {w : World} {b : Nat} {r lv : Int} {a : Option Addr} {n c : Nat} (h : Half w b r lv a n c) (v1 v2 v4 v5 : Value) (m : Int) :
    PeerAt (((((w.setCell ⟨b, 1, none⟩ v1).setCell ⟨b, 2, none⟩ v2).setCell ⟨b, 3, none⟩ (.int .i64 m)).setCell ⟨b, 4, none⟩ v4).setCell ⟨b, 5, none⟩ v5) b ⟨r, lv, (n : Int), m⟩ := by
  refine ⟨?_, ?_, ⟨a, n, c, rfl, ?_⟩, ?_⟩
  · rw [World.cell?_setCell_other _ _ _ _ (by simp), World.cell?_setCell_other _ _ _ _ (by simp), World.cell?_setCell_other _ _ _ _ (by simp), World.cell?_setCell_other _ _ _ _ (by simp), World.cell?_setCell_other _ _ _ _ (by simp)]
    exact h.c11
  · rw [World.cell?_setCell_other _ _ _ _ (by simp), World.cell?_setCell_other _ _ _ _ (by simp), World.cell?_setCell_other _ _ _ _ (by simp), World.cell?_setCell_other _ _ _ _ (by simp), World.cell?_setCell_other _ _ _ _ (by simp)]
    exact h.c12
  · rw [World.cell?_setCell_other _ _ _ _ (by simp), World.cell?_setCell_other _ _ _ _ (by simp), World.cell?_setCell_other _ _ _ _ (by simp), World.cell?_setCell_other _ _ _ _ (by simp), World.cell?_setCell_other _ _ _ _ (by simp)]
    exact h.c31
  · rw [World.cell?_setCell_other _ _ _ _ (by simp), World.cell?_setCell_other _ _ _ _ (by simp)]
    refine World.cell?_setCell_same _ _ _ (u := .int .i64 0) ?_
    rw [World.cell?_setCell_other _ _ _ _ (by simp), World.cell?_setCell_other _ _ _ _ (by simp)]
    exact h.c3

/-- The row of keys in the making. -/
structure KeysAt (w : World) (K m : Nat) : Prop where
  cell : ∀ i, i < m → ∃ s, w.cell? ⟨K, i, none⟩ = some (.string s)
  fz : ∀ o, w.frozen? ⟨K, o, none⟩ = false

theorem KeysAt.set {w : World} {K m : Nat} (h : KeysAt w K m) (j : Nat) (hj : j < m) (s : ByteArray) : KeysAt (w.setCell ⟨K, j, none⟩ (.string s)) K m := by
  refine ⟨fun i hi => ?_, fun o => by rw [World.frozen?_setCell]; exact h.fz o⟩
  by_cases e : i = j
  · subst e
    obtain ⟨t, ht⟩ := h.cell i hi
    exact ⟨s, World.cell?_setCell_same _ _ _ ht⟩
  · rw [World.cell?_setCell_other _ _ _ _ (fun e' => e (congrArg Addr.off e').symm)]
    exact h.cell i hi

theorem grown_set {w wi : World} {K o : Nat} (hg : w.grownBy wi none) (hK : w.heap.size ≤ K) (v : Value) : w.grownBy (wi.setCell ⟨K, o, none⟩ v) none :=
  ⟨hg.os, hg.tape, hg.output, by simpa using hg.size, fun b hb _ => by rw [Below.heap_setCell _ _ _ _ (by simp; omega)]; exact hg.block b hb (by simp)⟩

theorem grown_below {w wi wj : World} (hg : w.grownBy wi none) (hb : Below wi.heap.size wi wj) : w.grownBy wj none :=
  ⟨hb.os.trans hg.os, hb.tape.trans hg.tape, hb.output.trans hg.output, Nat.le_trans hg.size hb.size, fun b h _ => (hb.block b (Nat.lt_of_lt_of_le h hg.size)).trans (hg.block b h (by simp))⟩

theorem Built.below {w w1 : World} {B n0 k : Nat} {Q : Nat → Pr} (h : Built w B n0 k Q) (hb : Below w.heap.size w w1) : Built w1 B n0 k Q :=
  h.grown ⟨hb.os, hb.tape, hb.output, hb.size, fun b hlt _ => hb.block b hlt⟩

theorem Built.fam {w : World} {B n0 : Nat} {Q : Nat → Pr} (h : Built w B n0 n0 Q) : ∃ pb : Nat → Nat, ∀ i, i < n0 → w.cell? ⟨B + 1 + 1, i, none⟩ = some (.pointer (some ⟨pb i, 0, none⟩)) ∧ PeerAt w (pb i) (Q i) := by
  refine ⟨fun i => if hi : i < n0 then Classical.choose (h.done i hi) else 0, fun i hi => ?_⟩
  have := Classical.choose_spec (h.done i hi)
  simp only [hi, dif_pos]
  exact this.2

theorem ShapeAt.alloc {w : World} {b n : Nat} {s : St} (h : ShapeAt w b n s) (o : Obj) : ShapeAt (w.alloc o) b n s := by
  have hb : b < w.heap.size := World.block_lt_of_cell? _ _ h.c0
  have k : ∀ i, (w.alloc o).cell? ⟨b, i, none⟩ = w.cell? ⟨b, i, none⟩ := fun i => World.cell?_alloc_past _ _ _ hb
  exact ⟨(k 0).trans h.c0, (k 1).trans h.c1, (k 2).trans h.c2, (k 3).trans h.c3, (k 4).trans h.c4, (k 5).trans h.c5, (k 6).trans h.c6, fun i => by rw [World.frozen?_alloc_old _ _ _ (by simp; omega)]; exact h.fz i⟩

/-- Where in the slice of peers the j-th of the order leads. -/
def atX (O : Nat → Int) (n0 : Nat) (j : Nat) : Nat := (O j % (n0 : Int)).toNat
def ordCells (O : Nat → Int) (n0 k : Nat) : List Value := ((List.range k).map fun j => ((atX O n0 j : Nat) : Int)).map (Value.int .i64)
theorem ordCells_succ (O : Nat → Int) (n0 k : Nat) : ordCells O n0 (k + 1) = ordCells O n0 k ++ [.int .i64 (atX O n0 k : Int)] := by
  unfold ordCells; rw [List.range_succ]; simp
theorem ordCells_at (O : Nat → Int) (n0 k j : Nat) (h : j < k) : (ordCells O n0 k)[j]? = some (.int .i64 (atX O n0 j : Int)) := by
  unfold ordCells; simp [h]

set_option maxRecDepth 100000 in
set_option maxHeartbeats 4000000 in
theorem counts_main (a0 a1 : Option Addr) (n0 n1 c0 c1 : Nat) (R L Bk Ks O : Nat → Int) (w : World) (h0 : PeerRow w a0 n0 c0 R L Bk Ks) (h1 : OrdRow w a1 n1 c1 O) (b0 : n0 ≤ 300) (b1 : n1 ≤ 1024) :
    Calls Yba.prog 3 #[.slice a0 n0 c0, .slice a1 n1 c1] w fun e w' => e = .returned (.bool true) ∧ Below w.heap.size w w' := by
  have hm27 := run_make_row' (P := Yba.prog) 27 30 (.pointer none) 8 Yba.underlying27 info30 rfl .i64 .i64 n0 (by omega) (by omega)
  have H0 : Hid _ := h0
  have H1 : Hid _ := h1
  clear h0 h1
  go_enter Yba.func3, Yba.ntmps3
  go_wp2
  go_loopw [40] (fun i wr => ∃ k : Nat, k ≤ n0 ∧ i = .int .i64 k ∧ Built wr w.heap.size n0 k (prOf R L Bk Ks) ∧ Below w.heap.size w wr)
    (fun i _ => n0 - (intOf i).toNat)
  case atStart =>
    refine ⟨0, Nat.zero_le _, rfl, ⟨?_, ?_, ?_, ?_, ?_, by simp⟩, (((Below.refl _ _).alloc (Nat.le_refl _) _).alloc (by simp) _).alloc (by simp; omega) _⟩
    · intro j hj
      match j, hj with
      | 0, _ => exact ⟨_, by simp [go_sem]; rfl⟩
      | 1, _ => exact ⟨_, by simp [go_sem]; rfl⟩
      | 2, _ => exact ⟨_, by simp [go_sem]; rfl⟩
      | 3, _ => exact ⟨_, by simp [go_sem]; rfl⟩
      | 4, _ => exact ⟨_, by simp [go_sem]; rfl⟩
      | 5, _ => exact ⟨_, by simp [go_sem]; rfl⟩
      | 6, _ => exact ⟨_, by simp [go_sem]; rfl⟩
      | 7, _ => exact ⟨_, by simp [go_sem]; rfl⟩
    · intro j hj
      match j, hj with
      | 0, _ => simp [go_sem]
      | 1, _ => simp [go_sem]
      | 2, _ => simp [go_sem]
    · intro i hi
      exact ⟨.pointer none, by simp [go_sem, madeCells_at _ _ _ hi]⟩
    · intro i; simp [go_sem]
    · intro i hi; exact absurd hi (Nat.not_lt_zero _)
  case round =>
    obtain ⟨k, hk, rfl, hB, hnx⟩ := hrel
    by_cases hlt : k < n0
    · obtain ⟨qb, qo, hqb, hidx, q0, q1, q2, q3, r0, r1, t0, t1, k0, k1⟩ := H0.out k hlt
      have q0' := (hnx.cell (p := ⟨qb, qo, none⟩) hqb).trans q0
      have q1' := (hnx.cell (p := ⟨qb, qo + 1, none⟩) hqb).trans q1
      have q2' := (hnx.cell (p := ⟨qb, qo + 2, none⟩) hqb).trans q2
      have q3' := (hnx.cell (p := ⟨qb, qo + 3, none⟩) hqb).trans q3
      have hr3 := hB.roles (R k % 3).toNat (by omega)
      rw [show (((R k % 3).toNat : Nat) : Int) = R k % 3 by omega] at hr3
      have hsz := hB.size
      have hqk : prOf R L Bk Ks k = ⟨R k % 3, L k, Bk k % 6, Ks k % 6⟩ := rfl
      have HB : Hid _ := hB
      have HQ : Hid _ := hqk
      clear q0 q1 q2 q3 hB hqk
      generalize R k = r at *
      generalize L k = lv at *
      generalize Bk k = bk at *
      generalize Ks k = ks at *
      have e1 : w.heap.size + 1 < wr.heap.size := by omega
      have e2 : w.heap.size + 1 < wr.heap.size + 1 := by omega
      obtain ⟨n, hn⟩ : ∃ n : Nat, bk % 6 = (n : Int) := ⟨(bk % 6).toNat, by omega⟩
      obtain ⟨m, hm⟩ : ∃ m : Nat, ks % 6 = (m : Int) := ⟨(ks % 6).toNat, by omega⟩
      have hn5 : n ≤ 5 := by omega
      have hm5 : m ≤ 5 := by omega
      obtain ⟨X, hm42⟩ := make42 n hn5
      obtain ⟨Y, hY, hm33⟩ := make33 m hm5
      have HY : Hid _ := hY
      clear hY
      go_wp2
      rename World => wo
      go_loopw [80] (fun i wi => ∃ j : Nat, j ≤ m ∧ i = .int .i64 j ∧ wo.grownBy wi none ∧ Half wi (wo.heap.size + 1) (r % 3) lv (some ⟨wo.heap.size + 1 + 1, 0, none⟩) n n ∧ KeysAt wi (wo.heap.size + 1 + 1 + 1) m ∧ wo.heap.size + 1 + 1 + 1 < wi.heap.size)
        (fun i _ => m - (intOf i).toNat)
      case atStart =>
        refine ⟨0, Nat.zero_le _, rfl, ?_, ⟨?_, ?_, ?_, ?_, ?_, ?_, ?_, ?_, ?_⟩, ⟨?_, ?_⟩, by simp⟩
        · exact (((World.grownBy_alloc _ _ none).trans (World.grownBy_alloc _ _ none)).trans (World.grownBy_alloc _ _ none)).trans (World.grownBy_alloc _ _ none)
        · simp [go_sem]
        · simp [go_sem]
        · simp [go_sem]
        · simp [go_sem]
        · simp [go_sem]
        · simp [go_sem]
        · simp [go_sem]
        · simp [go_sem]
        · intro o; simp [go_sem]
        · intro i hi
          obtain ⟨s, hs⟩ := HY.out i hi
          exact ⟨s, by simp [go_sem, hs]⟩
        · intro o; simp [go_sem]
      case round =>
        obtain ⟨j, hj, rfl, hg, hH, hK, hs3⟩ := hrel
        by_cases hjl : j < m
        · obtain ⟨s, hs⟩ := (HB.out.grown hg).names j (by omega)
          obtain ⟨t, ht⟩ := hK.cell j hjl
          have hf := hK.fz j
          have HG : Hid _ := hg
          have HH : Hid _ := hH
          have HK : Hid _ := hK
          clear hg hH hK
          go_wp2
          go_roundw
          case rel =>
            exact ⟨j + 1, by omega, by go_num, grown_set HG.out (by omega) _, HH.out.kept (Below.heap_setCell _ _ _ _ (by simp)), HK.out.set j hjl s, by simpa using hs3⟩
          case measure => simp [intOf]; omega
        · go_wp2_with fail
          refine (keys_any (wo.heap.size + 1 + 1 + 1) m _ hm5 (fun h => hK.cell 0 h)).mono ?_
          rintro e w5 ⟨ao, l, c, s, rfl, hb5⟩
          have hg5 := grown_below hg hb5
          have hH5 := hH.kept (hb5.block _ hH.lt)
          have hB5 := HB.out.grown hg5
          obtain ⟨pv, hpv⟩ := hB5.ps k hlt
          have f1 := hH5.fz
          have d1 := hH5.c1
          have d2 := hH5.c2
          have d3 := hH5.c3
          have d4 := hH5.c4
          have d5 := hH5.c5
          have f2 := hB5.psf
          have HG : Hid _ := hg5
          have HH : Hid _ := hH5
          clear hg5 hH5 hB5 hg hH hK hb5 hs3
          go_wp2
          go_roundw
          case rel =>
            have hP := HH.out.done (.slice none 0 0) (.slice ao l c) (.string s) (.pointer none) (m : Int)
            have hQ : prOf R L Bk Ks k = ⟨r % 3, lv, (n : Int), (m : Int)⟩ := by rw [HQ.out, hn, hm]
            have hW := grown_set (grown_set (grown_set (grown_set (grown_set HG.out (K := wo.heap.size + 1) (o := 1) (by omega) (.slice none 0 0)) (K := wo.heap.size + 1) (o := 2) (by omega) (.slice ao l c)) (K := wo.heap.size + 1) (o := 3) (by omega) (.int .i64 m)) (K := wo.heap.size + 1) (o := 4) (by omega) (.string s)) (K := wo.heap.size + 1) (o := 5) (by omega) (.pointer none)
            rw [← hQ] at hP
            exact ⟨k + 1, by omega, by go_num, HB.out.step hW (by omega) hP hlt, (hnx.grown hW hnx.size (fun j hj => by cases hj)).setCell (by simp; omega) _⟩
          case measure => simp [intOf]; omega
    · have hkn : n0 = k := by omega
      subst hkn
      rename World => wo
      obtain ⟨i31, hi31, hz0, hz1, hz2⟩ := info_parts info31
      have HB : Hid _ := hB
      have hsz := hB.size
      clear hB
      by_cases hz : n0 = 0
      · subst hz
        go_wp2_with (at_make; refine wpList_make_own _ rfl _ _ 60 rfl wo.heap.size 31 i31 (.int .i64 0) 1 Yba.underlying60 hi31 hz0 hz1 _ _ _ n1 rfl rfl rfl (by rw [hz2]; omega) (by unfold maxLen; omega) (Nat.le_refl _) ?_; intro w2 hown hg2)
        have hb2 : Below w.heap.size w w2 := hnx.grown hg2 hnx.size (fun j hj => by cases hj)
        have hl2 := (hown.lt _ rfl).2
        refine (shape_any w2.heap.size (w.heap.size + 1 + 1) wo.heap.size 0 0 n1 (fun _ => 0) (fun _ => 0) (prOf R L Bk Ks) _ (by omega) (by omega) ⟨?_, ?_, fun j hj => absurd hj (Nat.not_lt_zero _), fun j hj => absurd hj (Nat.not_lt_zero _)⟩).mono ?_
        · simp [go_sem]
        · simp [go_sem]
        rintro e w5 ⟨rfl, hb5⟩
        have hb5w : Below w.heap.size w w5 := (hb2.alloc hb2.size _).trans (hb5.mono (by have := hb2.size; simp; omega))
        simp only [shapeCells, stTo]
        clear hb5 hb2 hown hg2 hnx
        go_wp2
        go_ret
        exact ⟨by simp, (hb5w.alloc hb5w.size _).alloc (by have := hb5w.size; simp; omega) _⟩
      · have hpos : 0 < n0 := by omega
        go_wp2_with (at_make; refine wpList_make_own _ rfl _ _ 60 rfl wo.heap.size 31 i31 (.int .i64 0) 1 Yba.underlying60 hi31 hz0 hz1 _ _ _ n1 rfl rfl rfl (by rw [hz2]; omega) (by unfold maxLen; omega) (Nat.le_refl _) ?_; intro w2 hown hg2)
        have hb2 : Below wo.heap.size wo w2 := (Below.refl _ _).grown hg2 (Nat.le_refl _) (fun j hj => by cases hj)
        clear hg2
        go_loopw [13, 108] (fun v i w3 => ∃ k : Nat, k ≤ n1 ∧ i = .int .i64 k ∧ v = .slice (some ⟨wo.heap.size, 0, none⟩) k n1 ∧ w3.ownsRow wo.heap.size 31 1 (.slice (some ⟨wo.heap.size, 0, none⟩) k n1) k (ordCells O n0 k) ∧ Below wo.heap.size wo w3)
          (fun _ i _ => n1 - (intOf i).toNat)
        case atStart => exact ⟨0, Nat.zero_le _, rfl, rfl, hown, hb2⟩
        case round =>
          obtain ⟨k, hk, rfl, rfl, hown3, hb3⟩ := hrel
          clear hown hb2
          have hb3w : Below w.heap.size w wr := hnx.trans (hb3.mono hnx.size)
          by_cases hlt3 : k < n1
          · obtain ⟨p, hp, hidx, hcell, o0, o1⟩ := H1.out k hlt3
            have hcx := (hb3w.cell hp).trans hcell
            have hx : O k % (n0 : Int) = (atX O n0 k : Int) := by
              have := Int.emod_nonneg (O k) (show (n0 : Int) ≠ 0 by omega)
              unfold atX; omega
            clear hcell
            go_wp2_with (at_builtin; refine wpList_append_fits _ rfl _ _ 60 rfl wo.heap.size 31 i31 1 Yba.underlying60 hi31 hz1 wo.heap.size k n1 _ rfl (hown3.alloc _) ⟨wr.heap.size, 0, none⟩ 1 1 [.int .i64 (atX O n0 k : Int)] rfl rfl (cell_one_new _ _ _) (ints_oneCell .i64 [(atX O n0 k : Int)]) (by omega) ?_; intro w4 hown4 hg4)
            go_roundw
            case rel =>
              refine ⟨k + 1, by omega, by go_num, rfl, by rw [ordCells_succ]; exact hown4, ?_⟩
              exact (hb3.alloc hb3.size _).grown hg4 (by have := hb3.size; simp; omega) (fun j hj => by cases hj; exact Nat.le_refl _)
            case measure => simp [intOf]; omega
          · have hkn : n1 = k := by omega
            subst hkn
            rename World => wq
            obtain ⟨pb, hpb⟩ := (HB.out.below hb3).fam
            have HP : Hid _ := hpb
            have hsq := hb3.size
            have hlq : wo.heap.size < wq.heap.size := (hown3.lt _ rfl).2
            have HO : Hid _ := hown3
            clear hpb hown3 hb3 hk hlt3
            go_wp2_with fail
            refine (shape_any wq.heap.size (w.heap.size + 1 + 1) wo.heap.size n0 n1 n1 (atX O n0) pb (prOf R L Bk Ks) _ b0 b1 ⟨?_, ?_, ?_, ?_⟩).mono ?_
            · simp [go_sem]
            · simp [go_sem]
            · intro j hj
              rw [World.cell?_alloc_past _ _ _ hlq]
              refine ⟨by rw [World.ownsRow.cellAt HO.out j (by omega)]; exact ordCells_at O n0 n1 j hj, ?_⟩
              have := Int.emod_nonneg (O j) (show (n0 : Int) ≠ 0 by omega)
              have := Int.emod_lt_of_pos (O j) (show (0 : Int) < n0 by omega)
              unfold atX; omega
            · intro i hi
              obtain ⟨e1, e2⟩ := HP.out i hi
              refine ⟨by rw [World.cell?_alloc_past _ _ _ (by omega)]; exact e1, e2.kept (Below.heap_alloc _ _ _ e2.lt), ?_, ?_⟩
              · simp only [prOf]; omega
              · simp only [prOf]; omega
            rintro e w5 ⟨rfl, hb5⟩
            have hb5w : Below w.heap.size w w5 := (hb3w.alloc hb3w.size _).trans (hb5.mono (by have := hb3w.size; simp; omega))
            simp only [shapeCells]
            clear hb5 HP HO hb3w
            go_wp2
            go_loopw [19, 135] (fun f i w6 => ∃ k : Nat, k ≤ n1 ∧ i = .int .i64 k ∧ f = .bool (decide ((stTo (fun j => prOf R L Bk Ks (atX O n0 j)) k).bucks = 0)) ∧ ShapeAt w6 (w5.heap.size + 1) n1 (stTo (fun j => prOf R L Bk Ks (atX O n0 j)) k) ∧ ShapeAt w6 w5.heap.size n1 (stTo (fun j => prOf R L Bk Ks (atX O n0 j)) n1) ∧ Below w.heap.size w w6)
              (fun _ i _ => n1 - (intOf i).toNat)
            case atStart =>
              refine ⟨0, Nat.zero_le _, rfl, rfl, ⟨?_, ?_, ?_, ?_, ?_, ?_, ?_, ?_⟩, ⟨?_, ?_, ?_, ?_, ?_, ?_, ?_, ?_⟩, (hb5w.alloc hb5w.size _).alloc (by have := hb5w.size; simp; omega) _⟩
              all_goals simp [stTo, go_sem]
            case round =>
              obtain ⟨k, hk, rfl, rfl, hS, hG, hnx6⟩ := hrel
              have hz5 : w.heap.size ≤ w5.heap.size := hb5w.size
              clear hb5w hnx
              by_cases hlt6 : k < n1
              · obtain ⟨p, hp, hidx, hcell, o0, o1⟩ := H1.out k hlt6
                have hcx := (hnx6.cell hp).trans hcell
                have hxn := Int.emod_nonneg (O k) (show (n0 : Int) ≠ 0 by omega)
                have hxl := Int.emod_lt_of_pos (O k) (show (0 : Int) < n0 by omega)
                have hx : O k % (n0 : Int) = (atX O n0 k : Int) := by unfold atX; omega
                have hxl' : atX O n0 k < n0 := by omega
                obtain ⟨qb, qo, hqb, hidx0, q0, q1, q2, q3, r0, r1, t0, t1, k0, k1⟩ := H0.out _ hxl'
                have q0' := (hnx6.cell (p := ⟨qb, qo, none⟩) hqb).trans q0
                have q1' := (hnx6.cell (p := ⟨qb, qo + 1, none⟩) hqb).trans q1
                have q2' := (hnx6.cell (p := ⟨qb, qo + 2, none⟩) hqb).trans q2
                have q3' := (hnx6.cell (p := ⟨qb, qo + 3, none⟩) hqb).trans q3
                have hst : stTo (fun j => prOf R L Bk Ks (atX O n0 j)) (k + 1) = step (stTo (fun j => prOf R L Bk Ks (atX O n0 j)) k) (prOf R L Bk Ks (atX O n0 k)) := rfl
                have hb := st_bd (fun j => prOf R L Bk Ks (atX O n0 j)) k (fun j hj => by simp only [prOf]; omega) k (Nat.le_refl _)
                have hqk : prOf R L Bk Ks (atX O n0 k) = ⟨R (atX O n0 k) % 3, L (atX O n0 k), Bk (atX O n0 k) % 6, Ks (atX O n0 k) % 6⟩ := rfl
                rw [hqk] at hst
                clear q0 q1 q2 q3 hcell hqk hxn hxl
                have HST : Hid _ := hst
                clear hst
                generalize stTo (fun j => prOf R L Bk Ks (atX O n0 j)) k = st at *
                generalize atX O n0 k = x at *
                generalize R x = r at *
                generalize L x = lv at *
                generalize Bk x = bk at *
                generalize Ks x = ks at *
                obtain ⟨ht, tr, bc, mn, mx, el⟩ := st
                have s2 : wr.cell? ⟨w5.heap.size + 1, 2, none⟩ = some (.int .i64 tr) := hS.c2
                have s1 : wr.cell? ⟨w5.heap.size + 1, 1, none⟩ = some (.int .i64 ht) := hS.c1
                have s3 : wr.cell? ⟨w5.heap.size + 1, 3, none⟩ = some (.int .i64 bc) := hS.c3
                have s4 : wr.cell? ⟨w5.heap.size + 1, 4, none⟩ = some (.int .i64 mn) := hS.c4
                have s5 : wr.cell? ⟨w5.heap.size + 1, 5, none⟩ = some (.int .i64 mx) := hS.c5
                have s6 : wr.cell? ⟨w5.heap.size + 1, 6, none⟩ = some (.int .i64 el) := hS.c6
                have hGs : w5.heap.size + 1 < wr.heap.size := World.block_lt_of_cell? _ _ s2
                have sf : ∀ (W : World) o x, w5.heap.size + 1 < W.heap.size → (W.alloc x).frozen? ⟨w5.heap.size + 1, o, none⟩ = W.frozen? ⟨w5.heap.size + 1, o, none⟩ := fun W o x h => World.frozen?_alloc_old _ _ _ (by simp; omega)
                have sf0 := hS.fz
                have hb1a : 0 ≤ el := hb.e0
                have hb1b : el ≤ 5 * k := hb.e1
                have hb2a : 0 ≤ tr := hb.t0
                have hb2b : tr ≤ k := hb.t1
                have hb3a : 0 ≤ bc := hb.b0
                have hb3b : bc ≤ k := hb.b1
                have HS : Hid _ := hS
                have HG : Hid _ := hG
                clear hb hS hG
                simp only
                by_cases hr2 : r % 3 = 2
                · go_wp2
                  go_roundw
                  case rel =>
                    refine ⟨k + 1, by omega, by go_num, ?_, ?_, ?_, ?_⟩
                    · rw [HST.out, st_role2 (by exact hr2)]
                    · rw [HST.out, st_role2 (by exact hr2)]; exact (HS.out.set6 _).alloc _
                    · exact (HG.out.other (by simp) _).alloc _
                    · exact (hnx6.setCell (by simp; omega) _).alloc (by have := hnx6.size; simp; omega) _
                  case measure => simp [intOf]; omega
                · by_cases hr1 : r % 3 = 1
                  · by_cases hz6 : bc = 0
                    · have hzd : decide (bc = 0) = true := by simpa using hz6
                      have hz6' : bc ≤ 0 := by omega
                      clear hz6
                      by_cases hmx : mx < bk % 6
                      · go_wp2
                        go_roundw
                        case rel =>
                          refine ⟨k + 1, by omega, by go_num, ?_, ?_, ?_, ?_⟩
                          · rw [HST.out, st_role1 (by exact hr1)]; simp only [stepBucks]; rw [decide_eq_false (by omega)]
                          · rw [HST.out, st_role1 (by exact hr1)]; unfold stepBucks; rw [if_pos (Or.inl (show bc = 0 by omega)), if_pos hmx]; exact ((((((HS.out.set6 _).set2 _).set3 _).set1 _).set4 _).set5 _).alloc _
                          · exact ((((((HG.out.other (by simp) _).other (by simp) _).other (by simp) _).other (by simp) _).other (by simp) _).other (by simp) _).alloc _
                          · exact ((((((hnx6.setCell (by simp; omega) _).setCell (by simp; omega) _).setCell (by simp; omega) _).setCell (by simp; omega) _).setCell (by simp; omega) _).setCell (by simp; omega) _).alloc (by have := hnx6.size; simp; omega) _
                        case measure => simp [intOf]; omega
                      · go_wp2
                        go_roundw
                        case rel =>
                          refine ⟨k + 1, by omega, by go_num, ?_, ?_, ?_, ?_⟩
                          · rw [HST.out, st_role1 (by exact hr1)]; simp only [stepBucks]; rw [decide_eq_false (by omega)]
                          · rw [HST.out, st_role1 (by exact hr1)]; unfold stepBucks; rw [if_pos (Or.inl (show bc = 0 by omega)), if_neg (show ¬ mx < bk % 6 by omega)]; exact (((((HS.out.set6 _).set2 _).set3 _).set1 _).set4 _).alloc _
                          · exact (((((HG.out.other (by simp) _).other (by simp) _).other (by simp) _).other (by simp) _).other (by simp) _).alloc _
                          · exact (((((hnx6.setCell (by simp; omega) _).setCell (by simp; omega) _).setCell (by simp; omega) _).setCell (by simp; omega) _).setCell (by simp; omega) _).alloc (by have := hnx6.size; simp; omega) _
                        case measure => simp [intOf]; omega
                    · have hzd : decide (bc = 0) = false := by simpa using hz6
                      by_cases hm6 : bk % 6 < mn
                      · by_cases hmx : mx < bk % 6
                        · go_wp2
                          go_roundw
                          case rel =>
                            refine ⟨k + 1, by omega, by go_num, ?_, ?_, ?_, ?_⟩
                            · rw [HST.out, st_role1 (by exact hr1)]; simp only [stepBucks]; rw [decide_eq_false (by omega)]
                            · rw [HST.out, st_role1 (by exact hr1)]; unfold stepBucks; rw [if_pos (Or.inr hm6), if_pos hmx]; exact ((((((HS.out.set6 _).set2 _).set3 _).set1 _).set4 _).set5 _).alloc _
                            · exact ((((((HG.out.other (by simp) _).other (by simp) _).other (by simp) _).other (by simp) _).other (by simp) _).other (by simp) _).alloc _
                            · exact ((((((hnx6.setCell (by simp; omega) _).setCell (by simp; omega) _).setCell (by simp; omega) _).setCell (by simp; omega) _).setCell (by simp; omega) _).setCell (by simp; omega) _).alloc (by have := hnx6.size; simp; omega) _
                          case measure => simp [intOf]; omega
                        · go_wp2
                          go_roundw
                          case rel =>
                            refine ⟨k + 1, by omega, by go_num, ?_, ?_, ?_, ?_⟩
                            · rw [HST.out, st_role1 (by exact hr1)]; simp only [stepBucks]; rw [decide_eq_false (by omega)]
                            · rw [HST.out, st_role1 (by exact hr1)]; unfold stepBucks; rw [if_pos (Or.inr hm6), if_neg (show ¬ mx < bk % 6 by omega)]; exact (((((HS.out.set6 _).set2 _).set3 _).set1 _).set4 _).alloc _
                            · exact (((((HG.out.other (by simp) _).other (by simp) _).other (by simp) _).other (by simp) _).other (by simp) _).alloc _
                            · exact (((((hnx6.setCell (by simp; omega) _).setCell (by simp; omega) _).setCell (by simp; omega) _).setCell (by simp; omega) _).setCell (by simp; omega) _).alloc (by have := hnx6.size; simp; omega) _
                          case measure => simp [intOf]; omega
                      · have hmd : decide (bk % 6 < mn) = false := by simpa using hm6
                        by_cases hmx : mx < bk % 6
                        · go_wp2
                          go_roundw
                          case rel =>
                            refine ⟨k + 1, by omega, by go_num, ?_, ?_, ?_, ?_⟩
                            · rw [HST.out, st_role1 (by exact hr1)]; simp only [stepBucks]; rw [decide_eq_false (by omega)]
                            · rw [HST.out, st_role1 (by exact hr1)]; unfold stepBucks; rw [if_neg (show ¬ (bc = 0 ∨ bk % 6 < mn) by omega), if_pos hmx]; exact (((((HS.out.set6 _).set2 _).set3 _).set1 _).set5 _).alloc _
                            · exact (((((HG.out.other (by simp) _).other (by simp) _).other (by simp) _).other (by simp) _).other (by simp) _).alloc _
                            · exact (((((hnx6.setCell (by simp; omega) _).setCell (by simp; omega) _).setCell (by simp; omega) _).setCell (by simp; omega) _).setCell (by simp; omega) _).alloc (by have := hnx6.size; simp; omega) _
                          case measure => simp [intOf]; omega
                        · go_wp2
                          go_roundw
                          case rel =>
                            refine ⟨k + 1, by omega, by go_num, ?_, ?_, ?_, ?_⟩
                            · rw [HST.out, st_role1 (by exact hr1)]; simp only [stepBucks]; rw [decide_eq_false (by omega)]
                            · rw [HST.out, st_role1 (by exact hr1)]; unfold stepBucks; rw [if_neg (show ¬ (bc = 0 ∨ bk % 6 < mn) by omega), if_neg (show ¬ mx < bk % 6 by omega)]; exact ((((HS.out.set6 _).set2 _).set3 _).set1 _).alloc _
                            · exact ((((HG.out.other (by simp) _).other (by simp) _).other (by simp) _).other (by simp) _).alloc _
                            · exact ((((hnx6.setCell (by simp; omega) _).setCell (by simp; omega) _).setCell (by simp; omega) _).setCell (by simp; omega) _).alloc (by have := hnx6.size; simp; omega) _
                          case measure => simp [intOf]; omega
                  · go_wp2
                    go_roundw
                    case rel =>
                      refine ⟨k + 1, by omega, by go_num, ?_, ?_, ?_, ?_⟩
                      · rw [HST.out, st_role0 (by exact hr2) (by exact hr1)]
                      · rw [HST.out, st_role0 (by exact hr2) (by exact hr1)]; exact ((HS.out.set6 _).set2 _).alloc _
                      · exact ((HG.out.other (by simp) _).other (by simp) _).alloc _
                      · exact ((hnx6.setCell (by simp; omega) _).setCell (by simp; omega) _).alloc (by have := hnx6.size; simp; omega) _
                    case measure => simp [intOf]; omega
              · have hkn : n1 = k := by omega
                subst hkn
                generalize stTo (fun j => prOf R L Bk Ks (atX O n0 j)) n1 = sg at *
                have g0 := hG.c0
                have g1 := hG.c1
                have g2 := hG.c2
                have g3 := hG.c3
                have g4 := hG.c4
                have g5 := hG.c5
                have g6 := hG.c6
                have s0 := hS.c0
                have s1 := hS.c1
                have s2 := hS.c2
                have s3 := hS.c3
                have s4 := hS.c4
                have s5 := hS.c5
                have s6 := hS.c6
                clear hG hS
                go_wp2
                go_ret
                exact ⟨by simp, hnx6⟩

end Go.Proofs.Ybulkaxpa
