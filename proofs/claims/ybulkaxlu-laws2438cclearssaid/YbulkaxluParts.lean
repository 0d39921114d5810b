/-
  Seat b2438a: the plain part: a set 'map[string]bool' as a fold of stores, and the look-up in such a map that the call made.
-/
import Derived.Test.YbulkaxluRows
import Derived.Maps.OwnSet
import Derived.Maps.StringElems
import Derived.LaidEqlPtr
import Derived.WalkKit
namespace Go.Proofs.Ybulkaxlu
open Go.RowKit Go.Maps

theorem plainElem_bool_inv {H : Type} {P : Program} {e : TypeId} (he : P.underlying e = some .bool) {v : Value} {z : DataW H × List MemPlace} (h : plainElem P e v = some z) : ∃ x, v = .bool x ∧ z = (.lit (.bool x), []) := by
  unfold plainElem at h
  rw [he] at h
  cases v <;> simp at h
  exact ⟨_, rfl, h.symm⟩

/-- 'm[k]' (without 'ok') AT ELEMENTS OF TYPE bool, in a map that the call owns. -/
theorem wpList_lookup_own_bool {H : Type} {P : Program} (w : World) {ops : Array Oper} {rest : List Oper} {o : Oper} {a : Act} {Q : Exit → Act → World → Prop}
    (hg : o.guard = none) (m x : Operand) (t : TypeId) (hop : o.op = Op.lookup t m x false)
    (k e : TypeId) (K : Keyed P k) (ht : P.underlying t = some (.map k e)) (he : P.underlying e = some .bool) (hz : (zeroValue e).run P w = .ok (.bool false) w) (b n : Nat) (D : DataW H)
    (hm : a.eval m = .map (some b)) (hown : w.ownsMap P k (plainElem P e) b n D) (key : Value) (kl : Lit) (hx : a.eval x = key) (hkey : keyOf P k key = some kl) (c : Bool)
    (hat : D.atKey kl (.lit (.bool false)) = .lit (.bool c))
    (hK : wpList P ops Q rest (a.put o.dst (.bool c)) w) :
    wpList P ops Q (o :: rest) a w := by
  refine wpList_plain hg fun K' hK' => ?_
  obtain ⟨v, ps, hrun, hv⟩ := hown.lookup K ht hz (plainElem_bool he false) hkey
  obtain ⟨c', rfl, hc⟩ := plainElem_bool_inv he hv
  rw [hat] at hc
  simp only [Prod.mk.injEq, DataW.lit.injEq, Lit.bool.injEq] at hc
  obtain ⟨rfl, _⟩ := hc
  unfold Oper.wp
  simp [execOp, hop, hm, hx, hrun, Result.andThen]
  exact hK' _ _ hK

theorem run_neq_ptr_same {P : Program} (w : World) {tp te : TypeId} {j : TypeInfo} (a : Addr) (hp : P.underlying tp = some (.pointer te)) (hte : P.info? te = some j) :
    (binOp .neq tp (.pointer (some a)) (.pointer (some a))).run P w = .ok (.bool false) w := by
  have h : ∀ d : Nat, (Op.equalIn (d + 1) tp (.pointer (some a)) (.pointer (some a))).run P w = .ok true w := fun d => by
    simp [Op.equalIn, run_underlying hp, sizeOf, typeInfo, hte, run_sameAddr_same]
  simp only [binOp]
  simp [Op.equal, Op.maxDepth, h 9999]

section
variable {H : Type}

theorem atKey_fold (u : DataW H) (k : Lit) (z : DataW H) : ∀ (acc : List Lit) (m : DataW H), IsMap m → (∀ x ∈ acc, WideAt.IsKeyLit x) →
    (acc.foldl (fun m x => m.put x u) m).atKey k z = if acc.any (fun x => x.sameKey k) then u else m.atKey k z
  | [], m, _, _ => by simp
  | x :: r, m, hm, h => by
    rw [List.foldl_cons, atKey_fold u k z r (m.put x u) (hm.put x u) (fun y hy => h y (by simp [hy])), List.any_cons]
    by_cases e : k = x
    · subst e
      rw [atKey_put_same hm (h k (by simp)), WideAt.sameKey_self (h k (by simp))]
      simp
    · rw [atKey_put_other e, sameKey_ne (fun e' => e e'.symm)]
      simp

def keyAt (ss : List ByteArray) (k : Nat) : Lit := .string (ss.getD k ByteArray.empty).data.toList
def keys (ss : List ByteArray) (k : Nat) : List Lit := (ss.take k).map fun s => .string s.data.toList
/-- THE SET AFTER k ROUNDS. -/
def Sn (ss : List ByteArray) (k : Nat) : DataW H := setOf (.lit (.bool true)) (keys ss k)
/-- IS THE KEY AT j AMONG THE FIRST k? -/
def inB (ss : List ByteArray) (k j : Nat) : Bool := (keys ss k).any fun x => x.sameKey (keyAt ss j)

theorem keys_key (ss : List ByteArray) (k : Nat) : ∀ x ∈ keys ss k, WideAt.IsKeyLit x := by
  intro x hx
  unfold keys at hx
  obtain ⟨s, _, rfl⟩ := List.mem_map.1 hx
  trivial

theorem keys_succ (ss : List ByteArray) (k : Nat) (hk : k < ss.length) : keys ss (k + 1) = keys ss k ++ [keyAt ss k] := by
  unfold keys keyAt
  rw [List.take_add_one, List.map_append]
  simp [List.getD, List.getElem?_eq_getElem hk]

theorem Sn_zero (ss : List ByteArray) : Sn (H := H) ss 0 = .map [] := by simp [Sn, keys, setOf]

theorem Sn_succ (ss : List ByteArray) (k : Nat) (hk : k < ss.length) : Sn (H := H) ss (k + 1) = (Sn ss k).put (keyAt ss k) (.lit (.bool true)) := by
  unfold Sn
  rw [keys_succ ss k hk, setOf_snoc]

theorem Sn_at (ss : List ByteArray) (k j : Nat) : (Sn (H := H) ss k).atKey (keyAt ss j) (.lit (.bool false)) = .lit (.bool (inB ss k j)) := by
  unfold Sn setOf
  rw [atKey_fold _ _ _ _ _ isMap_empty (keys_key ss k)]
  unfold inB
  cases (keys ss k).any fun x => x.sameKey (keyAt ss j)
  · rfl
  · rfl

theorem inB_of_lt (ss : List ByteArray) (n j : Nat) (hj : j < n) (hn : n ≤ ss.length) : inB ss n j = true := by
  unfold inB
  rw [List.any_eq_true]
  refine ⟨keyAt ss j, ?_, WideAt.sameKey_self (by trivial)⟩
  unfold keys keyAt
  rw [List.mem_map]
  refine ⟨ss.getD j ByteArray.empty, ?_, rfl⟩
  have e : ss.getD j ByteArray.empty = (ss.take n)[j]'(by simp; omega) := by simp [List.getD, List.getElem?_eq_getElem (show j < ss.length by omega)]
  rw [e]
  exact List.getElem_mem _

theorem Sn_size (ss : List ByteArray) (k : Nat) (hk : k < ss.length) : Maps.size (Sn (H := H) ss (k + 1)) = Maps.size (Sn (H := H) ss k) + if inB ss k k then 0 else 1 := by
  have hh : Maps.has (Sn (H := H) ss k) (keyAt ss k) = inB ss k k := has_setOf _ _ _ (keys_key ss k)
  have ht : Tidy (Sn (H := H) ss k) := tidy_setOf _ _ (keys_key ss k)
  rw [Sn_succ ss k hk, size_put ht, hh]
  split <;> rfl

theorem Sn_size_new (ss : List ByteArray) (k : Nat) (hk : k < ss.length) (h : inB ss k k = false) : Maps.size (Sn (H := H) ss (k + 1)) = Maps.size (Sn (H := H) ss k) + 1 := by
  rw [Sn_size ss k hk, h]; rfl
theorem Sn_size_old (ss : List ByteArray) (k : Nat) (hk : k < ss.length) (h : inB ss k k = true) : Maps.size (Sn (H := H) ss (k + 1)) = Maps.size (Sn (H := H) ss k) := by
  rw [Sn_size ss k hk, h]; rfl

end

/-- WHAT THE WALK IS TOLD OF A SLICE OF STRINGS THAT CAME IN, nil or not: at each index below its length the operation gives an address of old memory, at which the string lies. -/
def StrRow (W : World) (a : Option Addr) (len cap : Nat) (ss : List ByteArray) : Prop :=
  len ≤ ss.length ∧ ∀ k : Nat, k < len → ∃ p : Addr, p.block < W.heap.size ∧ (∀ w : World, (Instr.indexAt 56 (.slice a len cap) (.int .i64 (k : Int))).run Yba.prog w = .ok (.pointer (some p)) w) ∧
    W.cell? p = some (.string (ss.getD k ByteArray.empty)) ∧ (ss.getD k ByteArray.empty).size ≤ maxLen

theorem strRow_nil (W : World) (ss : List ByteArray) : StrRow W none 0 0 ss := ⟨Nat.zero_le _, fun _ h => absurd h (Nat.not_lt_zero _)⟩

theorem strRow_some {W : World} {a : Addr} {len cap : Nat} {ss : List ByteArray} (hl : len ≤ ss.length) (hc : ∀ i, i < ss.length → W.cell? (a.add i) = some (.string (ss.getD i ByteArray.empty))) (hs : ∀ s ∈ ss, s.size ≤ maxLen) :
    StrRow W (some a) len cap ss := by
  refine ⟨hl, fun k hk => ⟨a.add k, ?_, fun w => ?_, hc k (by omega), ?_⟩⟩
  · exact World.block_lt_of_cell? _ _ (hc k (by omega))
  · have h1 : (0 : Int) ≤ (k : Int) ∧ (k : Int) < (len : Int) := by omega
    have e9 : Yba.prog.elem 56 = 9 := by simp [Program.elem, Yba.underlying56]
    rw [run_indexAt_slice _ _ _ _ _ _ _ (by rw [e9]; exact Yba.underlying56), if_pos h1, e9, Yba.sizeOf9]
    simp [Result.andThen]
  · rw [List.getD, List.getElem?_eq_getElem (show k < ss.length by omega)]
    exact hs _ (List.getElem_mem _)

end Go.Proofs.Ybulkaxlu
