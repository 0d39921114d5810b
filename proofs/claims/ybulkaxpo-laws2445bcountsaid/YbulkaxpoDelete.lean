/-
  Seat b2445a: slices.Delete(s, 0, 1) at a slice of pointers that the call owns.
-/
import Derived.Test.YbulkaxpoRows
import Derived.Deep.RegionLaw
import Derived.Lib.SliceRun
import Derived.WalkSmall
import Derived.WalkKit
import Derived.WalkSpells
import Derived.WalkLawsBesides
namespace Go.Proofs.Ybulkaxpo
open Go.RowKit

/-- A list overwritten from place o on. -/
def over (xs : List Value) : Nat → List Value → List Value
  | _, [] => xs
  | o, v :: r => over (xs.set o v) (o + 1) r

theorem over_get : ∀ (vs : List Value) (o : Nat) (xs : List Value) (j : Nat), (over xs o vs)[j]? = if o ≤ j ∧ j < o + vs.length ∧ j < xs.length then vs[j - o]? else xs[j]?
  | [], o, xs, j => by
    unfold over
    rw [if_neg (by simp; omega)]
  | v :: r, o, xs, j => by
    unfold over
    rw [over_get r (o + 1) (xs.set o v) j]
    by_cases h1 : o + 1 ≤ j ∧ j < o + 1 + r.length ∧ j < xs.length
    · rw [if_pos (by simpa using h1), if_pos (by simp; omega)]
      rw [show j - o = (j - (o + 1)) + 1 by omega, List.getElem?_cons_succ]
    · rw [if_neg (by simpa using h1)]
      by_cases h2 : j = o
      · subst h2
        by_cases h3 : j < xs.length
        · rw [if_pos (by simp; omega)]
          simp [h3]
        · rw [if_neg (by omega)]
          simp [h3]
      · rw [if_neg (by simp; omega), List.getElem?_set_ne (fun e => h2 e.symm)]

theorem owns_setCells {base e g n cap : Nat} : ∀ (vs : List Value) (o : Nat) (w : World) (xs : List Value), w.ownsRow base e 1 (.slice (some ⟨g, 0, none⟩) n cap) n xs →
    (w.setCells g o vs).ownsRow base e 1 (.slice (some ⟨g, 0, none⟩) n cap) n (over xs o vs) ∧ w.grownBy (w.setCells g o vs) (some g)
  | [], _, w, _, h => ⟨h, World.grownBy.refl w _⟩
  | v :: r, o, w, xs, h => by
    obtain ⟨h1, g1⟩ := h.stored o v
    obtain ⟨h2, g2⟩ := owns_setCells r (o + 1) _ _ h1
    exact ⟨h2, g1.trans g2⟩

/-- The first gone, the rest moved to the left, the last place nil. -/
theorem over_tail (x z : Value) (r : List Value) : over (over (x :: r) 0 r) r.length [z] = r ++ [z] := by
  apply List.ext_getElem?
  intro j
  rw [over_get, over_get]
  have hl : ∀ xs : List Value, ∀ vs o, (over xs o vs).length = xs.length := by
    intro xs vs
    induction vs generalizing xs with
    | nil => intro o; rfl
    | cons v r ih => intro o; unfold over; rw [ih]; simp
  rw [hl]
  by_cases h : j < r.length
  · rw [if_neg (by simp; omega), if_pos (by simp; omega), List.getElem?_append_left h]
    simp
  · by_cases h2 : j = r.length
    · subst h2
      rw [if_pos (by simp)]
      simp
    · rw [if_neg (by simp; omega), if_neg (by simp; omega), List.getElem?_eq_none (by simp; omega), List.getElem?_eq_none (by simp; omega)]

theorem info41 : (Yba.prog.info? 41).map (fun i => (i.zero, i.size, i.bytes)) = some (some (.pointer none), 1, 8) := by kernel_rfl
theorem zero41 (w : World) : (zeroValue 41).run Yba.prog w = .ok (.pointer none) w := by kernel_rfl

/-- A timer's pointer. -/
def tv (b : Nat) : Value := .pointer (some ⟨b, 0, none⟩)

set_option maxRecDepth 100000 in
set_option maxHeartbeats 1000000 in
theorem delete_first (base g cap b : Nat) (bs : List Nat) (w : World) (hown : w.ownsRow base 41 1 (.slice (some ⟨g, 0, none⟩) (bs.length + 1) cap) (bs.length + 1) ((b :: bs).map tv)) (hc : bs.length + 1 ≤ cap) (hm : cap ≤ 9223372036854775807) :
    Calls Yba.prog 12 #[.slice (some ⟨g, 0, none⟩) (bs.length + 1) cap, .int .i64 0, .int .i64 1] w fun e w' => e = .returned (.slice (some ⟨g, 0, none⟩) bs.length cap) ∧ w'.ownsRow base 41 1 (.slice (some ⟨g, 0, none⟩) bs.length cap) bs.length (bs.map tv) ∧ w.grownBy w' (some g) := by
  obtain ⟨i0, hi0, hz0, hz1, hz2⟩ := info_parts info41
  obtain ⟨m, hmm⟩ : ∃ m, m = bs.length := ⟨_, rfl⟩
  obtain ⟨news, hnews⟩ : ∃ news, news = bs.map tv := ⟨_, rfl⟩
  have hlen : news.length = m := by rw [hnews, hmm]; simp
  rw [List.map_cons, ← hnews, ← hmm] at hown
  rw [← hnews, ← hmm]
  rw [← hmm] at hc
  have hcell : ∀ j, j < m + 1 → w.cell? ⟨g, j, none⟩ = (tv b :: news)[j]? := fun j hj => hown.cellAt j (by omega)
  have hfz : ∀ j, w.frozen? ⟨g, j, none⟩ = false := fun j => hown.frozenAt j
  obtain ⟨A, hA, hsrc⟩ : ∃ A : Addr, (if cap = 1 then some (⟨g, 0, none⟩ : Addr) else some ⟨g, 1, none⟩) = some A ∧ Hid (∀ t u, news[t]? = some u → w.drew.cell? (A.add t) = some u) := by
    by_cases h : cap = 1
    · refine ⟨⟨g, 0, none⟩, by simp [h], fun t u hu => ?_⟩
      have h0 : news.length = 0 := by omega
      rw [List.length_eq_zero_iff.1 h0] at hu
      simp at hu
    · refine ⟨⟨g, 1, none⟩, by simp [h], fun t u hu => ?_⟩
      have ht : t < m := by have := (List.getElem?_eq_some_iff.1 hu).1; omega
      have e : (⟨g, 1, none⟩ : Addr).add t = ⟨g, t + 1, none⟩ := by
        unfold Addr.add
        split
        · subst_vars; rfl
        · simp; omega
      rw [e]
      exact (hcell (t + 1) (by omega)).trans (by simpa using hu)
  have s1 : Hid (news.length = m * 1) := by rw [Nat.mul_one]; exact hlen
  have s2 : Hid (∀ u ∈ news, u.oneCell' = true) := by
    intro u hu
    rw [hnews] at hu
    obtain ⟨x, _, rfl⟩ := List.mem_map.1 hu
    rfl
  have s3 : Hid (∀ t, t < news.length → (w.drew.cell? ⟨g, 0 + 0 * 1 + t, none⟩).isSome = true ∧ w.drew.frozen? ⟨g, 0 + 0 * 1 + t, none⟩ = false) := by
    intro t ht
    rw [show 0 + 0 * 1 + t = t by omega]
    refine ⟨?_, hfz t⟩
    show (w.cell? _).isSome = true
    rw [hcell t (by omega), List.getElem?_eq_getElem (by simp; omega)]
    rfl
  obtain ⟨W1, hW1⟩ : ∃ W1, W1 = w.drew.setCells g (0 + 0 * 1) news := ⟨_, rfl⟩
  obtain ⟨hown1, hg1⟩ := owns_setCells news (0 + 0 * 1) w.drew _ hown.drew
  rw [← hW1] at hown1 hg1
  have hcl : ∀ ty, (Builtin.clear_ #[31] ty #[.slice (some ⟨g, m, none⟩) 1 (cap - m)]).run Yba.prog W1 = .ok (.tuple #[]) (W1.setCells g m (List.replicate 1 (.pointer none))) :=
    fun ty => Lib.run_clear_slice W1 31 41 ty (.pointer none) Yba.underlying31 zero41 rfl rfl g m 1 _ (by omega) (fun t ht => by
      have hl : ((over (tv b :: news) (0 + 0 * 1) news)[m + t]?).isSome = true := by rw [over_get, if_neg (by simp; omega), List.getElem?_eq_getElem (by simp; omega)]; rfl
      rw [World.ownsRow.cellAt hown1 (m + t) (by omega)]; exact hl) (fun t ht => World.ownsRow.frozenAt hown1 (m + t))
  obtain ⟨hown2, hg2⟩ := owns_setCells (List.replicate 1 (.pointer none)) m W1 _ hown1
  have hfin : Hid ((W1.setCells g m (List.replicate 1 (.pointer none))).ownsRow base 41 1 (.slice (some ⟨g, 0, none⟩) m cap) m news ∧ w.grownBy (W1.setCells g m (List.replicate 1 (.pointer none))) (some g)) := by
    refine ⟨ownsRow_pop (last := [.pointer none]) (by omega) ?_, ?_⟩
    · rw [← over_tail (tv b) (.pointer none) news, hlen]
      exact hown2
    · exact (show w.grownBy W1 (some g) from ⟨hg1.os, hg1.tape, hg1.output, hg1.size, hg1.block⟩).trans hg2
  have hW : Hid (W1 = w.drew.setCells g (0 + 0 * 1) news) := hW1
  have hc1 : (1 : Nat) ≤ cap := by omega
  have hmc : m ≤ cap := by omega
  have h1m : (1 : Int) ≤ (m : Int) + 1 := by omega
  clear hW1 hown1 hown2 hg1 hg2 hcell hfz hnews hlen hmm hown
  go_enter Yba.func12, Yba.ntmps12
  go_wp2_with fail
  go_region_law (refine step_append_room rfl (.tmp 22) (.tmp 25) 31 rfl 41 i0 1 Yba.underlying31 hi0 hz1 g 0 0 cap (by simp [Act.eval, Act.put]) A m (cap - 1) news (by simp [Act.eval, Act.put]) s1.out hsrc.out s2.out (by omega) s3.out ?_; rw [← hW.out])
  go_wp2
  go_ret
  exact ⟨rfl, hfin.out⟩

end Go.Proofs.Ybulkaxpo
