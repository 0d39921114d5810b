/-
  Seat b2445a: the clock in memory, and the contracts of Armed, AfterFunc and of the timers' functions, one goroutine, the lock free.
-/
import Derived.Test.YbulkaxpoDelete
import Derived.Test.YbulkaxpoLocks
import Derived.Conc.MuLone
import Derived.Maps.AppendAt
import Derived.Laws.EntriesVeiled
namespace Go.Proofs.Ybulkaxpo
open Go.RowKit
open Go.MuLone

/-- A timer: its block, its number, what its function is (0: a plain one; 1: one that arms another; 2: such another). -/
structure Tm where
  blk : Nat
  seq : Nat
  kind : Nat

/-- The timer's function as a value: the variable 'ran' lies in block B + 2, the variable 'c' in block B + 1. -/
def fnOf (B : Nat) (k : Nat) : Value :=
  if k = 0 then .func (.func 6) #[] #[.pointer (some ⟨B + 1 + 1, 0, none⟩)]
  else if k = 1 then .func (.func 7) #[] #[.pointer (some ⟨B + 1 + 1, 0, none⟩), .pointer (some ⟨B + 1, 0, none⟩)]
  else .func (.func 8) #[] #[.pointer (some ⟨B + 1 + 1, 0, none⟩)]

def tmCells (B : Nat) (t : Tm) : Array Value := #[.pointer (some ⟨B, 0, none⟩), .int .u64 t.seq, fnOf B t.kind]

def blks (T : List Tm) : List Value := (T.map Tm.blk).map tv

/-- THE CLOCK AND THE LAW's TWO VARIABLES, in blocks B, B + 1, B + 2: the lock's word, the timers that are armed, how many were armed so far, how many have run. -/
structure Clock (w : World) (B : Nat) (μ : Int) (T : List Tm) (cnt ran : Nat) : Prop where
  mu : w.cell? ⟨B, 0, none⟩ = some (.int .i32 μ)
  arm : ∃ ao cap, w.cell? ⟨B, 2, none⟩ = some (.slice ao T.length cap) ∧ w.ownsRow (B + 1 + 1 + 1) 41 1 (.slice ao T.length cap) T.length (blks T)
  cnt : w.cell? ⟨B, 3, none⟩ = some (.int .u64 (cnt : Int))
  fz : ∀ o, w.frozen? ⟨B, o, none⟩ = false
  ran : w.cell? ⟨B + 1 + 1, 0, none⟩ = some (.int .i64 (ran : Int))
  rfz : w.frozen? ⟨B + 1 + 1, 0, none⟩ = false
  box : w.cell? ⟨B + 1, 0, none⟩ = some (.pointer (some ⟨B, 0, none⟩))
  tm : ∀ t ∈ T, w.heap[t.blk]? = some (.cells (tmCells B t) 43 (0, 0)) ∧ B + 1 + 1 + 1 ≤ t.blk
  size : B + 1 + 1 < w.heap.size

section
variable {w : World} {B : Nat} {μ : Int} {T : List Tm} {cnt ran : Nat}

/-- A store into one of the three blocks, told by what it leaves. -/
theorem Clock.store (H : Clock w B μ T cnt ran) {b o : Nat} {v : Value} (hb : b < B + 1 + 1 + 1) {μ' : Int} {cnt' ran' : Nat}
    (h0 : (w.setCell ⟨b, o, none⟩ v).cell? ⟨B, 0, none⟩ = some (.int .i32 μ')) (h2 : (w.setCell ⟨b, o, none⟩ v).cell? ⟨B, 2, none⟩ = w.cell? ⟨B, 2, none⟩)
    (h3 : (w.setCell ⟨b, o, none⟩ v).cell? ⟨B, 3, none⟩ = some (.int .u64 (cnt' : Int))) (hr : (w.setCell ⟨b, o, none⟩ v).cell? ⟨B + 1 + 1, 0, none⟩ = some (.int .i64 (ran' : Int)))
    (hx : (w.setCell ⟨b, o, none⟩ v).cell? ⟨B + 1, 0, none⟩ = w.cell? ⟨B + 1, 0, none⟩) : Clock (w.setCell ⟨b, o, none⟩ v) B μ' T cnt' ran' := by
  obtain ⟨ao, cap, ha, hown⟩ := H.arm
  refine ⟨h0, ⟨ao, cap, h2.trans ha, ownsRow_setCell_below hown hb _⟩, h3, fun i => by rw [World.frozen?_setCell]; exact H.fz i, hr, by rw [World.frozen?_setCell]; exact H.rfz, hx.trans H.box, fun t ht => ⟨?_, (H.tm t ht).2⟩, by simpa using H.size⟩
  rw [Below.heap_setCell _ _ _ _ (by have := (H.tm t ht).2; simp; omega)]
  exact (H.tm t ht).1

theorem Clock.setMu (H : Clock w B μ T cnt ran) (μ' : Int) : Clock (w.setCell ⟨B, 0, none⟩ (.int .i32 μ')) B μ' T cnt ran :=
  H.store (by omega) (World.cell?_setCell_same _ _ _ H.mu) (World.cell?_setCell_other _ _ _ _ (by simp)) ((World.cell?_setCell_other _ _ _ _ (by simp)).trans H.cnt) ((World.cell?_setCell_other _ _ _ _ (by simp)).trans H.ran) (World.cell?_setCell_other _ _ _ _ (by simp))

theorem Clock.setCnt (H : Clock w B μ T cnt ran) (c : Nat) : Clock (w.setCell ⟨B, 3, none⟩ (.int .u64 (c : Int))) B μ T c ran :=
  H.store (by omega) ((World.cell?_setCell_other _ _ _ _ (by simp)).trans H.mu) (World.cell?_setCell_other _ _ _ _ (by simp)) (World.cell?_setCell_same _ _ _ H.cnt) ((World.cell?_setCell_other _ _ _ _ (by simp)).trans H.ran) (World.cell?_setCell_other _ _ _ _ (by simp))

theorem Clock.setRan (H : Clock w B μ T cnt ran) (r : Nat) : Clock (w.setCell ⟨B + 1 + 1, 0, none⟩ (.int .i64 (r : Int))) B μ T cnt r :=
  H.store (by omega) ((World.cell?_setCell_other _ _ _ _ (by simp)).trans H.mu) (World.cell?_setCell_other _ _ _ _ (by simp)) ((World.cell?_setCell_other _ _ _ _ (by simp)).trans H.cnt) (World.cell?_setCell_same _ _ _ H.ran) (World.cell?_setCell_other _ _ _ _ (by simp))

theorem Clock.alloc (H : Clock w B μ T cnt ran) (o : Obj) : Clock (w.alloc o) B μ T cnt ran := by
  have hs := H.size
  have k : ∀ b i, b < w.heap.size → (w.alloc o).cell? ⟨b, i, none⟩ = w.cell? ⟨b, i, none⟩ := fun b i hb => World.cell?_alloc_past _ _ _ hb
  have kf : ∀ b i, b < w.heap.size → (w.alloc o).frozen? ⟨b, i, none⟩ = w.frozen? ⟨b, i, none⟩ := fun b i hb => World.frozen?_alloc_old _ _ _ (by simp; omega)
  obtain ⟨ao, cap, ha, hown⟩ := H.arm
  refine ⟨(k _ _ (by omega)).trans H.mu, ⟨ao, cap, (k _ _ (by omega)).trans ha, hown.alloc _⟩, (k _ _ (by omega)).trans H.cnt, fun i => (kf _ _ (by omega)).trans (H.fz i), (k _ _ (by omega)).trans H.ran, (kf _ _ (by omega)).trans H.rfz, (k _ _ (by omega)).trans H.box, fun t ht => ⟨?_, (H.tm t ht).2⟩, by simp; omega⟩
  rw [Below.heap_alloc _ _ _ (Array.getElem?_eq_some_iff.1 (H.tm t ht).1).1]
  exact (H.tm t ht).1

/-- The armed timers turned: an append, a Delete, then the store into the field. -/
theorem Clock.turn {w' : World} (H : Clock w B μ T cnt ran) {row : Option Nat} (hg : w.grownBy w' row) (hrow : ∀ k, row = some k → B + 1 + 1 + 1 ≤ k) {T' : List Tm} {ao : Option Addr} {cap : Nat}
    (hown : w'.ownsRow (B + 1 + 1 + 1) 41 1 (.slice ao T'.length cap) T'.length (blks T')) (ht : ∀ t ∈ T', w'.heap[t.blk]? = some (.cells (tmCells B t) 43 (0, 0)) ∧ B + 1 + 1 + 1 ≤ t.blk) :
    Clock (w'.setCell ⟨B, 2, none⟩ (.slice ao T'.length cap)) B μ T' cnt ran := by
  have hs := H.size
  have kb : ∀ b, b < B + 1 + 1 + 1 → w'.heap[b]? = w.heap[b]? := fun b hb => hg.block b (by omega) (fun e => by have := hrow b e.symm; omega)
  have k : ∀ b i, b < B + 1 + 1 + 1 → w'.cell? ⟨b, i, none⟩ = w.cell? ⟨b, i, none⟩ := fun b i hb => World.cell?_of_block (kb b hb)
  have kf : ∀ b i, b < B + 1 + 1 + 1 → w'.frozen? ⟨b, i, none⟩ = w.frozen? ⟨b, i, none⟩ := fun b i hb => World.frozen?_of_block (kb b hb)
  obtain ⟨ao0, cap0, ha, _⟩ := H.arm
  refine ⟨?_, ⟨ao, cap, World.cell?_setCell_same _ _ _ ((k _ _ (by omega)).trans ha), ownsRow_setCell_below hown (by simp; omega) _⟩, ?_, fun i => ?_, ?_, ?_, ?_, fun t h => ⟨?_, (ht t h).2⟩, ?_⟩
  · rw [World.cell?_setCell_other _ _ _ _ (by simp), k _ _ (by omega)]; exact H.mu
  · rw [World.cell?_setCell_other _ _ _ _ (by simp), k _ _ (by omega)]; exact H.cnt
  · rw [World.frozen?_setCell, kf _ _ (by omega)]; exact H.fz i
  · rw [World.cell?_setCell_other _ _ _ _ (by simp), k _ _ (by omega)]; exact H.ran
  · rw [World.frozen?_setCell, kf _ _ (by omega)]; exact H.rfz
  · rw [World.cell?_setCell_other _ _ _ _ (by simp), k _ _ (by omega)]; exact H.box
  · rw [Below.heap_setCell _ _ _ _ (by have := (ht t h).2; simp; omega)]; exact (ht t h).1
  · have := hg.size; simp; omega

/-- The row of armed timers is no timer's block. -/
theorem row_ne {base b n : Nat} {v : Value} {xs : List Value} {c : Array Value} (h : w.ownsRow base 41 1 v n xs) (ht : w.heap[b]? = some (.cells c 43 (0, 0))) : some b ≠ v.ownBlock := by
  intro e
  rcases h.2 with ⟨rfl, _⟩ | ⟨g, cap, cur, rfl, _, hg, _⟩
  · simp [Value.ownBlock] at e
  · simp [Value.ownBlock] at e
    subst e
    rw [hg] at ht
    simp at ht

theorem below_grown {w' : World} {row : Option Nat} (hg : w.grownBy w' row) (hB : B ≤ w.heap.size) (hr : ∀ k, row = some k → B ≤ k) : Below B w w' := (Below.refl _ _).grown hg hB hr

end

/-- append of one element onto a slice that the call owns, the value's shape written out. -/
theorem wpList_append_one {P : Program} (w : World) {ops : Array Oper} {rest : List Oper} {o : Oper} {a : Act} {Q : Exit → Act → World → Prop} (hgd : o.guard = none) (s x : Operand) (t : TypeId)
    (ho : o.op = .call { callee := .builtin .append, args := #[s, x], argTypes := #[t, t] })
    (base : Nat) (e : TypeId) (i : TypeInfo) (z : Value) (bytes : Nat) (ht : P.underlying t = some (.slice e)) (hi : P.info? e = some i) (hz : i.zero = some z)
    (hsize : i.size = 1) (hby : i.bytes = bytes) (hzs : z.cells.size = 1)
    (v : Value) (n : Nat) (xs : List Value) (hs : a.eval s = v) (hown : w.ownsRow base e 1 v n xs)
    (ad : Addr) (c : Nat) (y : Value) (hx : a.eval x = .slice (some ad) 1 c) (hnews : ∀ j u, [y][j]? = some u → w.cell? (ad.add j) = some u) (h1 : ∀ u ∈ [y], u.oneCell' = true)
    (h63 : n + 1 ≤ maxLen) (hbytes : (n + 1) * bytes ≤ 140737488355328) (hbase : base ≤ w.heap.size)
    (h : ∀ g cap w', w'.ownsRow base e 1 (.slice (some ⟨g, 0, none⟩) (n + 1) cap) (n + 1) (xs ++ [y]) → w.grownBy w' v.ownBlock → wpList P ops Q rest (a.put o.dst (.slice (some ⟨g, 0, none⟩) (n + 1) cap)) w') : wpList P ops Q (o :: rest) a w :=
  wpList_append_own w hgd s x t ho base e i z 1 bytes ht hi hz hsize hby hzs (by decide) v n xs hs hown ad 1 c [y] hx rfl hnews h1 h63 hbytes hbase (fun v' w' h2 h3 _ => by
    have h2' := h2
    rcases h2.2 with ⟨_, h0⟩ | ⟨g, cap, _, rfl, _⟩
    · omega
    · exact h g cap w' h2' h3)

set_option maxRecDepth 100000 in
set_option maxHeartbeats 800000 in
theorem armed_any (B : Nat) (T : List Tm) (cnt ran : Nat) (w : World) (H : Clock w B 0 T cnt ran) :
    Calls Yba.prog 4 #[.pointer (some ⟨B, 0, none⟩)] w fun e w' => e = .returned (.int .i64 T.length) ∧ Clock w' B 0 T cnt ran ∧ Below B w w' := by
  have HC : Hid _ := (H.setMu 1).setMu 0
  have c0 := H.mu
  obtain ⟨ao, cap, c2, _⟩ := H.arm
  have f0 := H.fz 0
  clear H
  go_enter_defers Yba.func4, Yba.ntmps4
  go_wp2_with (go_at_call 10; refine (lock_free Yba.muLib ⟨B, 0, none⟩ _ c0 f0).mono ?_; rintro e w' ⟨rfl, rfl⟩)
  refine leaves_cons (f := 11) (args := #[.pointer (some ⟨B, 0, none⟩)]) (by simp) (by simp [go_sem]) ?_
  refine (unlock_deferred Yba.muLib ⟨B, 0, none⟩ .returning _ ?_ ?_).mono ?_
  · exact World.cell?_setCell_same w ⟨B, 0, none⟩ (.int .i32 1) c0
  · simp [f0]
  rintro e u' w'' ⟨rfl, rfl, rfl⟩
  exact ⟨_, results_tmp rfl _ _ _, rfl, HC.out, ((Below.refl _ _).setCell (by exact Nat.le_refl _) _).setCell (by exact Nat.le_refl _) _⟩

set_option maxRecDepth 100000 in
set_option maxHeartbeats 800000 in
/-- The function of a plain timer ($1). -/
theorem tick6 (B : Nat) (T : List Tm) (cnt ran : Nat) (w : World) (H : Clock w B 0 T cnt ran) (hr : ran ≤ 100000) :
    Calls Yba.prog 6 #[.pointer (some ⟨B + 1 + 1, 0, none⟩)] w fun e w' => e = .returned (.tuple #[]) ∧ Clock w' B 0 T cnt (ran + 1) ∧ Below B w w' := by
  have HC : Hid (Clock (w.setCell ⟨B + 1 + 1, 0, none⟩ (.int .i64 ((ran : Int) + 1))) B 0 T cnt (ran + 1)) := by
    have := H.setRan (ran + 1); rwa [show ((ran + 1 : Nat) : Int) = (ran : Int) + 1 by omega] at this
  have c := H.ran
  have f := H.rfz
  clear H
  go_enter Yba.func6, Yba.ntmps6
  go_wp2
  go_end0
  exact ⟨rfl, HC.out, (Below.refl _ _).setCell (by simp; omega) _⟩

set_option maxRecDepth 100000 in
set_option maxHeartbeats 800000 in
/-- The function of a timer that another has armed ($2$1). -/
theorem tick8 (B : Nat) (T : List Tm) (cnt ran : Nat) (w : World) (H : Clock w B 0 T cnt ran) (hr : ran ≤ 100000) :
    Calls Yba.prog 8 #[.pointer (some ⟨B + 1 + 1, 0, none⟩)] w fun e w' => e = .returned (.tuple #[]) ∧ Clock w' B 0 T cnt (ran + 1) ∧ Below B w w' := by
  have HC : Hid (Clock (w.setCell ⟨B + 1 + 1, 0, none⟩ (.int .i64 ((ran : Int) + 1))) B 0 T cnt (ran + 1)) := by
    have := H.setRan (ran + 1); rwa [show ((ran + 1 : Nat) : Int) = (ran : Int) + 1 by omega] at this
  have c := H.ran
  have f := H.rfz
  clear H
  go_enter Yba.func8, Yba.ntmps8
  go_wp2
  go_end0
  exact ⟨rfl, HC.out, (Below.refl _ _).setCell (by simp; omega) _⟩

end Go.Proofs.Ybulkaxpo
