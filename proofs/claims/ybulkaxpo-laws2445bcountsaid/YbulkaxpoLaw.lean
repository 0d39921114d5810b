/-
  Seat b2445a: THE WALK of 'LawS2445BCount'.
-/
import Derived.Test.YbulkaxpoFire
namespace Go.Proofs.Ybulkaxpo
open Go.RowKit
open Go.MuLone

/-- WHAT THE WALK IS TOLD OF A SLICE OF BYTES THAT CAME IN, nil or not. -/
def ByteRow (W : World) (a : Option Addr) (n c : Nat) (z : Nat → Int) : Prop :=
  ∀ k : Nat, k < n → ∃ p : Addr, p.block < W.heap.size ∧ (∀ w : World, (Instr.indexAt 22 (.slice a n c) (.int .i64 (k : Int))).run Yba.prog w = .ok (.pointer (some p)) w) ∧
    W.cell? p = some (.int .u8 (z k)) ∧ 0 ≤ z k ∧ z k ≤ 255

theorem rc_snoc (T : List Tm) (t : Tm) : rc (T ++ [t]) = rc T + if t.kind = 1 then 1 else 0 := by rw [rc_append]; simp [rc]

theorem rc_two : ∀ (T : List Tm), (∀ t ∈ T, t.kind = 2) → rc T = 0
  | [], _ => rfl
  | t :: r, h => by
    have h1 := h t (List.mem_cons_self ..)
    simp [rc, h1, rc_two r (fun x hx => h x (List.mem_cons_of_mem _ hx))]

/-- What the loop carries, beside the clock: the timers' numbers and kinds, the counts. -/
structure Told (T : List Tm) (cnt ran p q k : Nat) : Prop where
  tms : ∀ t ∈ T, t.seq ≤ cnt ∧ t.kind ≤ 2
  rearm : q = rc T
  plain : p + q = T.length
  bound : cnt + q ≤ 2 * k
  fired : ran + T.length = cnt

theorem Told.plainer {T : List Tm} {cnt ran p q k : Nat} (h : Told T cnt ran p q k) (nb : Nat) : Told (T ++ [⟨nb, cnt + 1, 0⟩]) (cnt + 1) ran (p + 1) q (k + 1) := by
  have h1 := h.rearm; have h2 := h.plain; have h3 := h.bound; have h4 := h.fired
  refine ⟨fun t ht => ?_, by rw [rc_snoc]; simpa using h1, by simp; omega, by omega, by simp; omega⟩
  rcases List.mem_append.1 ht with ht | ht
  · have := h.tms t ht; omega
  · obtain rfl := List.mem_singleton.1 ht; simp

theorem Told.rearmed {T : List Tm} {cnt ran p q k : Nat} (h : Told T cnt ran p q k) (nb : Nat) : Told (T ++ [⟨nb, cnt + 1, 1⟩]) (cnt + 1) ran p (q + 1) (k + 1) := by
  have h1 := h.rearm; have h2 := h.plain; have h3 := h.bound; have h4 := h.fired
  refine ⟨fun t ht => ?_, by rw [rc_snoc]; simp; omega, by simp; omega, by omega, by simp; omega⟩
  rcases List.mem_append.1 ht with ht | ht
  · have := h.tms t ht; omega
  · obtain rfl := List.mem_singleton.1 ht; simp

theorem Told.fire {T new : List Tm} {cnt ran p q k : Nat} (h : Told T cnt ran p q k) (hn : ∀ t ∈ new, t.kind = 2 ∧ cnt < t.seq ∧ t.seq ≤ cnt + rc T) (hl : new.length = rc T) : Told new (cnt + rc T) (ran + T.length) q 0 (k + 1) := by
  have h1 := h.rearm; have h2 := h.plain; have h3 := h.bound; have h4 := h.fired
  refine ⟨fun t ht => ?_, (rc_two new (fun t ht => (hn t ht).1)).symm, by omega, by omega, by omega⟩
  have := hn t ht; omega

set_option maxRecDepth 100000 in
set_option maxHeartbeats 2000000 in
theorem count_main (a : Option Addr) (n c : Nat) (z : Nat → Int) (w : World) (h : ByteRow w a n c z) (hn : n ≤ 1024) :
    Calls Yba.prog 3 #[.slice a n c] w fun e w' => e = .returned (.bool true) ∧ Below w.heap.size w w' := by
  have H : Hid _ := h
  clear h
  go_enter Yba.func3, Yba.ntmps3
  go_wp2_with fail
  have hC0 : Clock (((w.alloc (.cells #[.int .i32 0, .int .u32 0, .slice none 0 0, .int .u64 0] 34)).alloc (.cells #[.pointer (some ⟨w.heap.size, 0, none⟩)] 23)).alloc (.cells #[.int .i64 0] 3)) w.heap.size 0 [] 0 0 := by
    refine ⟨?_, ⟨none, 0, ?_, World.ownsRow_nil _ _ _ _⟩, ?_, fun o => ?_, ?_, ?_, ?_, fun t ht => (by cases ht), by simp⟩
    · simp [go_sem]
    · simp [go_sem]
    · simp [go_sem]
    · simp [go_sem]
    · simp [go_sem]
    · simp [go_sem]
    · simp [go_sem]
  refine (armed_any w.heap.size [] 0 0 _ hC0).mono ?_
  rintro e w1 ⟨rfl, hC1, hb1⟩
  have hb1w : Below w.heap.size w w1 := ((((Below.refl _ _).alloc (Nat.le_refl _) _).alloc (by simp) _).alloc (by simp; omega) _).trans hb1
  clear hC0 hb1
  go_wp2
  go_loopw [5, 6, 7] (fun vp vq i wr => ∃ (k : Nat) (T : List Tm) (cnt ran p q : Nat), k ≤ n ∧ i = .int .i64 k ∧ vp = .int .i64 p ∧ vq = .int .i64 q ∧ Clock wr w.heap.size 0 T cnt ran ∧ Told T cnt ran p q k ∧ Below w.heap.size w wr)
    (fun _ _ i _ => n - (intOf i).toNat)
  case atStart => exact ⟨0, [], 0, 0, 0, 0, Nat.zero_le _, rfl, rfl, rfl, hC1, ⟨fun t ht => (by cases ht), rfl, rfl, Nat.zero_le _, rfl⟩, hb1w⟩
  case round =>
    clear hC1 hb1w
    obtain ⟨k, T, cnt, ran, p, q, hk, rfl, rfl, rfl, hC, hT, hnx⟩ := hrel
    by_cases hlt : k < n
    · obtain ⟨pa, hpa, hidx, hcell, z0, z1⟩ := H.out k hlt
      have hcx := (hnx.cell hpa).trans hcell
      clear hcell
      generalize z k = zk at *
      have hbox := hC.box
      have hran := hC.ran
      have hbd := hT.bound
      have hpl := hT.plain
      have hfi := hT.fired
      have HC : Hid _ := hC
      have HT : Hid _ := hT
      have b1 : cnt ≤ 2048 := by omega
      have b2 : T.length ≤ 2048 := by omega
      have b3 : ran ≤ 2048 := by omega
      have b4 : p ≤ 2048 := by omega
      have b5 : q ≤ 2048 := by omega
      clear hC hT hbd hpl hfi
      have hm : zk % 3 = 0 ∨ zk % 3 = 1 ∨ zk % 3 = 2 := by omega
      rcases hm with hm | hm | hm
      · have HA : Hid _ := after_any w.heap.size T cnt ran 0 wr HC.out (by omega) (by omega) (by omega)
        go_wp2_with fail
        refine Calls.mono HA.out ?_
        rintro e w2 ⟨r, nb, rfl, hC2, hb2⟩
        have hbox2 := hC2.box
        have hT2 := HT.out.plainer nb
        have hl2 : Hid ((T ++ [⟨nb, cnt + 1, 0⟩] : List Tm).length = p + 1 + q) := hT2.plain.symm
        generalize T ++ [⟨nb, cnt + 1, 0⟩] = T2 at *
        have HC2 : Hid _ := hC2
        have HT2 : Hid _ := hT2
        clear hC2 hT2 hbox hran HA HC HT
        go_wp2_with fail
        refine Calls.mono (armed_any w.heap.size T2 _ _ w2 HC2.out) ?_
        rintro e w3 ⟨rfl, hC3, hb3⟩
        rw [hl2.out]
        go_wp2
        go_roundw
        case rel => exact ⟨k + 1, T2, cnt + 1, ran, p + 1, q, by omega, by go_num, by go_num, rfl, hC3, HT2.out, (hnx.trans hb2).trans hb3⟩
        case measure => simp [intOf]; omega
      · have HA : Hid _ := after_any w.heap.size T cnt ran 1 wr HC.out (by omega) (by omega) (by omega)
        go_wp2_with fail
        refine Calls.mono HA.out ?_
        rintro e w2 ⟨r, nb, rfl, hC2, hb2⟩
        have hbox2 := hC2.box
        have hT2 := HT.out.rearmed nb
        have hl2 : Hid ((T ++ [⟨nb, cnt + 1, 1⟩] : List Tm).length = p + (q + 1)) := hT2.plain.symm
        generalize T ++ [⟨nb, cnt + 1, 1⟩] = T2 at *
        have HC2 : Hid _ := hC2
        have HT2 : Hid _ := hT2
        clear hC2 hT2 hbox hran HA HC HT
        go_wp2_with fail
        refine Calls.mono (armed_any w.heap.size T2 _ _ w2 HC2.out) ?_
        rintro e w3 ⟨rfl, hC3, hb3⟩
        rw [hl2.out]
        go_wp2
        go_roundw
        case rel => exact ⟨k + 1, T2, cnt + 1, ran, p, q + 1, by omega, by go_num, rfl, by go_num, hC3, HT2.out, (hnx.trans hb2).trans hb3⟩
        case measure => simp [intOf]; omega
      · have HA : Hid _ := fire_any w.heap.size T cnt ran wr HC.out HT.out.tms (by omega) (by omega) (by omega)
        have hpq : Hid (T.length = p + q) := HT.out.plain.symm
        go_wp2_with fail
        refine Calls.mono HA.out ?_
        rintro e w2 ⟨new, rfl, hC2, hnew, hnl, hb2⟩
        have hbox2 := hC2.box
        have hran2 := hC2.ran
        have hT2 := HT.out.fire hnew hnl
        have hl2 : Hid (new.length = q + 0) := hT2.plain.symm
        have HC2 : Hid _ := hC2
        have HT2 : Hid _ := hT2
        rw [hpq.out] at hran2 ⊢
        clear hC2 hT2 hbox hran HA HC HT hnew hnl
        go_wp2_with fail
        refine Calls.mono (armed_any w.heap.size new _ _ w2 HC2.out) ?_
        rintro e w3 ⟨rfl, hC3, hb3⟩
        rw [hl2.out]
        go_wp2
        go_roundw
        case rel => exact ⟨k + 1, new, cnt + rc T, ran + T.length, q, 0, by omega, by go_num, by go_num, by go_num, hC3, HT2.out, (hnx.trans hb2).trans hb3⟩
        case measure => simp [intOf]; omega
    · go_wp2
      go_ret
      exact ⟨rfl, hnx⟩

end Go.Proofs.Ybulkaxpo
