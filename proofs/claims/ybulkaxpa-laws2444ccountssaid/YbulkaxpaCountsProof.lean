/-
  Seat b2444a: THE ROW of 'LawS2444CCounts', out of its walk.
-/
import Derived.Test.YbulkaxpaLaw
import Derived.ProofKit
import Derived.OpenShut
import Derived.ShutString
import Derived.ChangeOld
import Derived.Deep.Slices
import Derived.Lib.SmallJoins
namespace Go.Proofs.Ybulkaxpa
open Go.ChangeShapes Go.WideShapes Go.ChangeAt Go.RowKit
set_option linter.unusedVariables false

theorem own : ownKnob Yba.prog.godebug = none := by kernel_rfl
theorem laidOut : laidOutB Yba.prog = true := by kernel_rfl
theorem cells29 : Yba.prog.cellsOf 29 = 4 := by kernel_rfl
theorem cells5 : Yba.prog.cellsOf 5 = 1 := by kernel_rfl
theorem cells3 : Yba.prog.cellsOf 3 = 1 := by kernel_rfl

set_option maxRecDepth 100000 in
set_option maxHeartbeats 400000 in
theorem counts_any (a0 a1 : Option Addr) (n0 n1 c0 c1 : Nat) (R L Bk Ks O : Nat → Int) (w : World) (h0 : PeerRow w a0 n0 c0 R L Bk Ks) (h1 : OrdRow w a1 n1 c1 O) :
    Calls Yba.prog 3 #[.slice a0 n0 c0, .slice a1 n1 c1] w fun e w' => e = .returned (.bool true) ∧ Below w.heap.size w w' := by
  by_cases b0 : n0 ≤ 300
  · by_cases b1 : n1 ≤ 1024
    · exact counts_main a0 a1 n0 n1 c0 c1 R L Bk Ks O w h0 h1 b0 b1
    · clear h0 h1
      go_enter Yba.func3, Yba.ntmps3
      go_wp2
      go_ret
      exact ⟨rfl, Below.refl _ _⟩
  · clear h0 h1
    go_enter Yba.func3, Yba.ntmps3
    go_wp2
    go_ret
    exact ⟨rfl, Below.refl _ _⟩

theorem addr_plain {w : World} {a : Addr} {v : Value} (h : w.cell? a = some v) : a = ⟨a.block, a.off, none⟩ := by
  obtain ⟨e, n, _, _, hsp⟩ := World.shape?_of_cell? h
  cases a
  simp at hsp
  rw [hsp]

theorem add_plain (b o i : Nat) : (⟨b, o, none⟩ : Addr).add i = ⟨b, o + i, none⟩ := by
  unfold Addr.add
  split
  · subst_vars; rfl
  · rfl

theorem run_index22 (a : Addr) (len cap k : Nat) (hk : k < len) (w : World) : (Instr.indexAt 22 (.slice (some a) len cap) (.int .i64 (k : Int))).run Yba.prog w = .ok (.pointer (some (a.add (k * 4)))) w := by
  have h1 : (0 : Int) ≤ (k : Int) ∧ (k : Int) < (len : Int) := by omega
  have e : Yba.prog.elem 22 = 29 := by simp [Program.elem, Yba.underlying22]
  rw [run_indexAt_slice _ _ _ _ _ _ _ (by rw [e]; exact Yba.underlying22), if_pos h1, e, Yba.sizeOf29]
  simp [Result.andThen]

theorem run_index23 (a : Addr) (len cap k : Nat) (hk : k < len) (w : World) : (Instr.indexAt 23 (.slice (some a) len cap) (.int .i64 (k : Int))).run Yba.prog w = .ok (.pointer (some (a.add k))) w := by
  have h1 : (0 : Int) ≤ (k : Int) ∧ (k : Int) < (len : Int) := by omega
  have e : Yba.prog.elem 23 = 61 := by simp [Program.elem, Yba.underlying23]
  rw [run_indexAt_slice _ _ _ _ _ _ _ (by rw [e]; exact Yba.underlying23), if_pos h1, e, Yba.sizeOf61]
  simp [Result.andThen]

theorem list4 {l : List Value} (h : l.length = 4) : ∃ a b c d, l = [a, b, c, d] := by
  match l, h with
  | [a, b, c, d], _ => exact ⟨a, b, c, d, rfl⟩

/-- One peer among the arguments: its four cells. -/
theorem open_peer {H : Type} {enc : TypeId × Value → H} {W : World} {fuel : Nat} {cs : List Value} {x : DataW H × List MemPlace}
    (h : DataW.trod enc Yba.prog W 0 (fun _ => true) true fuel 29 cs = some x) : ∃ r lv bk ks, cs = [.int .u8 r, .int .i64 lv, .int .u8 bk, .int .u8 ks] ∧ 0 ≤ r ∧ r ≤ 255 ∧ 0 ≤ bk ∧ bk ≤ 255 ∧ 0 ≤ ks ∧ ks ≤ 255 := by
  obtain ⟨y0, y1, y2, y3, n, _, hl, h0, h1, h2, h3⟩ := Joins.trod_struct4 Yba.underlying29 h
  rw [cells29] at hl
  obtain ⟨v0, v1, v2, v3, rfl⟩ := list4 hl
  rw [cells5] at h0 h2 h3
  rw [cells3] at h1
  obtain ⟨r, e0, _, w0⟩ := DataW.trod_int Yba.underlying5 h0
  obtain ⟨lv, e1, _, w1⟩ := DataW.trod_int Yba.underlying3 h1
  obtain ⟨bk, e2, _, w2⟩ := DataW.trod_int Yba.underlying5 h2
  obtain ⟨ks, e3, _, w3⟩ := DataW.trod_int Yba.underlying5 h3
  simp at e0 e1 e2 e3
  subst e0 e1 e2 e3
  have := bounds_u8 w0
  have := bounds_u8 w2
  have := bounds_u8 w3
  exact ⟨r, lv, bk, ks, rfl, by omega, by omega, by omega, by omega, by omega, by omega⟩

theorem open_peers {H : Type} {enc : TypeId × Value → H} {W : World} {a : Option Addr} {len cap : Nat} {d : DataW H} {p : List MemPlace}
    (h : DataW.Trod enc Yba.prog W 0 (fun _ => true) true 22 (.slice a len cap) d p) : ∃ R L Bk Ks, PeerRow W a len cap R L Bk Ks := by
  obtain ⟨fuel, hf⟩ := h
  rcases Deep.open_slice Yba.underlying22 hf with ⟨hcs, _⟩ | ⟨x, l, c, m, n, D, Pl, hcs, _, hl, hm, hmm, _, hel⟩
  · simp [Value.cells] at hcs
    obtain ⟨rfl, rfl, rfl⟩ := hcs
    exact ⟨fun _ => 0, fun _ => 0, fun _ => 0, fun _ => 0, fun k hk => absurd hk (Nat.not_lt_zero _)⟩
  · simp [Value.cells] at hcs
    obtain ⟨rfl, rfl, rfl⟩ := hcs
    simp at hmm
    have each : ∀ k, k < len → ∃ q : Int × Int × Int × Int, ∃ b o : Nat, b < W.heap.size ∧ x.add (k * 4) = ⟨b, o, none⟩ ∧
        W.cell? ⟨b, o, none⟩ = some (.int .u8 q.1) ∧ W.cell? ⟨b, o + 1, none⟩ = some (.int .i64 q.2.1) ∧ W.cell? ⟨b, o + 2, none⟩ = some (.int .u8 q.2.2.1) ∧ W.cell? ⟨b, o + 3, none⟩ = some (.int .u8 q.2.2.2) ∧
        0 ≤ q.1 ∧ q.1 ≤ 255 ∧ 0 ≤ q.2.2.1 ∧ q.2.2.1 ≤ 255 ∧ 0 ≤ q.2.2.2 ∧ q.2.2.2 ≤ 255 := by
      intro k hk
      obtain ⟨cs', h1, h2⟩ := hel k (by omega)
      rw [cells29] at h1
      obtain ⟨r, lv, bk, ks, rfl, hb⟩ := open_peer h2
      obtain ⟨_, _, hc⟩ := World.cells?_some h1
      have hc0 : W.cell? (x.add (k * 4)) = some (.int .u8 r) := by simpa [Addr.add] using hc 0 (by omega)
      have hc1 := hc 1 (by omega)
      have hc2 := hc 2 (by omega)
      have hc3 := hc 3 (by omega)
      have hp := addr_plain hc0
      have hlt := World.block_lt_of_cell? _ _ hc0
      rw [hp] at hc0 hc1 hc2 hc3
      rw [add_plain] at hc1 hc2 hc3
      exact ⟨(r, lv, bk, ks), _, _, hlt, hp, hc0, hc1, hc2, hc3, hb⟩
    refine ⟨fun k => if h : k < len then (Classical.choose (each k h)).1 else 0, fun k => if h : k < len then (Classical.choose (each k h)).2.1 else 0,
      fun k => if h : k < len then (Classical.choose (each k h)).2.2.1 else 0, fun k => if h : k < len then (Classical.choose (each k h)).2.2.2 else 0, fun k hk => ?_⟩
    obtain ⟨b, o, hlt, hp, e⟩ := Classical.choose_spec (each k hk)
    simp only [hk, dif_pos]
    exact ⟨b, o, hlt, fun w => by rw [run_index22 _ _ _ _ hk, hp], e⟩

theorem open_ord {H : Type} {enc : TypeId × Value → H} {W : World} {a : Option Addr} {len cap : Nat} {d : DataW H} {p : List MemPlace}
    (h : DataW.Trod enc Yba.prog W 0 (fun _ => true) true 23 (.slice a len cap) d p) : ∃ O, OrdRow W a len cap O := by
  obtain ⟨fuel, hf⟩ := h
  rcases open_ints Yba.underlying23 Yba.underlying61 (by kernel_rfl) hf with ⟨hcs, _⟩ | ⟨x, l, c, zs, hcs, _, hl, hm, hz, _, hcell, hwz⟩
  · simp [Value.cells] at hcs
    obtain ⟨rfl, rfl, rfl⟩ := hcs
    exact ⟨fun _ => 0, fun k hk => absurd hk (Nat.not_lt_zero _)⟩
  · simp [Value.cells] at hcs
    obtain ⟨rfl, rfl, rfl⟩ := hcs
    simp at hz
    refine ⟨fun k => zs.getD k 0, fun k hk => ⟨x.add k, World.block_lt_of_cell? _ _ (hcell k (by omega)), fun w => run_index23 _ _ _ _ hk w, hcell k (by omega), ?_⟩⟩
    have := range_u16 hwz k
    simpa [List.getD] using this

set_option maxRecDepth 100000 in
theorem lifted (os : Os) (started : os.Started) (H : Type) (enc : TypeId × Value → H) :
    ReturnsInHanded {} Yba.checked os 3 .any (Rows.lawS2444CCountsSpec.pre6 enc Yba.prog Yba.f3 Rows.lawS2444CCountsRow.domain false) (Rows.lawS2444CCountsSpec.post enc Yba.prog Yba.f3 false true false false) := by
  refine returnsInHanded_of_change (C := Yba.checked) own started (by kernel_rfl) Yba.func3
    (ChangeSpec.witness6 (enc := enc) (C := Yba.checked) false ⟨#[], #[.slice none 0 0, .slice none 0 0], []⟩ 8 (by kernel_rfl) (by kernel_rfl) (by kernel_rfl) (by kernel_rfl)) ?_
  intro W base args ds gs before hval0 hW hcnd _
  have hval : ∀ (j : Nat) t v, Yba.f3.params[j]? = some t → args[j]? = some v → Value.okWide Yba.prog W .any base t v := hval0
  have hW' := hW
  obtain ⟨p, q, hA0, hV, rfl, hfz, hnd⟩ := hW
  have hA : DataW.TrodAll enc Yba.prog W 0 (fun _ => true) true Yba.f3.params.toList args.toList ds p := hA0
  rw [Yba.params3] at hA hval
  obtain ⟨v0, vs0, d0, ds0, p0, q0, hargs, rfl, rfl, h0, r0⟩ := trodAll_cons hA
  obtain ⟨v1, vs1, d1, ds1, p1, q1, rfl, rfl, rfl, h1, r1⟩ := trodAll_cons r0
  obtain ⟨rfl, rfl, rfl⟩ := trodAll_nil r1
  obtain rfl : args = #[v0, v1] := by cases args; simp_all
  obtain ⟨rfl, rfl⟩ := trodVars_none hV
  obtain ⟨a0, len0, cap0, rfl⟩ := okWide_slice Yba.underlying22 (hval 0 22 v0 rfl rfl)
  obtain ⟨a1, len1, cap1, rfl⟩ := okWide_slice Yba.underlying23 (hval 1 23 v1 rfl rfl)
  have lt0 : ∀ x ∈ p0, x.block < W.heap.size := by obtain ⟨m, hm⟩ := h0; exact DataW.trod_lt m _ _ _ hm
  have lt1 : ∀ x ∈ p1, x.block < W.heap.size := by obtain ⟨m, hm⟩ := h1; exact DataW.trod_lt m _ _ _ hm
  obtain ⟨R, L, Bk, Ks, w0⟩ := open_peers h0
  obtain ⟨O, w1⟩ := open_ord h1
  clear hA0 hval0
  refine (counts_any a0 a1 len0 len1 cap0 cap1 R L Bk Ks O W w0 w1).mono fun e W' ⟨he, bel⟩ => ?_
  subst he
  exact ⟨_, rfl, _, _, _, [], _, [], hW', trodAll_mk1 (shut_bool Yba.underlying4 _),
    (trodAll_cons_mk (Below.trod laidOut (by kernel_rfl) (of_decide_eq_true (by kernel_rfl)) h0 bel lt0)
      (trodAll_cons_mk (Below.trod laidOut (by kernel_rfl) (of_decide_eq_true (by kernel_rfl)) h1 bel lt1) trodAll_mk0)), rfl, bel.frame _, fun h => by cases h⟩

theorem counts_over : Rows.lawS2444CCountsRow.holds Yba.pinned (OpenSpec.ofChange Rows.lawS2444CCountsSpec) :=
  OpenClaim.holds_of_wide 3 Yba.f3 rfl rfl rfl rfl rfl rfl rfl ⟨rfl, rfl, rfl, rfl, rfl⟩ rfl rfl rfl rfl rfl (by kernel_rfl) Yba.func3 (by kernel_rfl)
    (of_decide_eq_true (by kernel_rfl)) (by unfold Func.isWrapper; first | (rw [if_pos (by decide +kernel)]; kernel_rfl) | (rw [if_neg (by decide +kernel)]; exact ⟨rfl, rfl⟩))
    (fun os started H enc _ => lifted os started H enc)

/-- THE STATEMENT -/
theorem counts_proved : Rows.LawS2444CCountsSaid := counts_over
end Go.Proofs.Ybulkaxpa
