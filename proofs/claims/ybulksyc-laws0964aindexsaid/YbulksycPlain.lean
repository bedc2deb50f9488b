/-
  THE PLAIN PART: the index that a list of names makes, as the datum of a map; what the map has, and what it holds at each name.
-/
import Derived.Maps.Views
namespace Go.Proofs.Ybulksyc
open Go Go.Maps

/-- A name as a map's key. -/
def kl (s : ByteArray) : Lit := .string s.data.toList
/-- A number as a datum. -/
def num (k : Nat) : DataW Unit := .lit (.int .i64 (k : Int))
/-- The index over the first k names: each at its last place. -/
def ixTo (L : List ByteArray) : Nat → DataW Unit
  | 0 => .map []
  | k + 1 => (ixTo L k).put (kl (L.getD k ByteArray.empty)) (num k)

theorem kl_inj {s t : ByteArray} (h : kl s = kl t) : s = t := by
  unfold kl at h
  have h1 : s.data.toList = t.data.toList := by injection h
  cases s; cases t
  simp at h1
  simp [h1]
theorem isKey_kl (s : ByteArray) : WideAt.IsKeyLit (kl s) := by unfold kl; trivial

theorem isMap_ixTo (L : List ByteArray) : ∀ k, IsMap (ixTo L k)
  | 0 => isMap_empty
  | k + 1 => (isMap_ixTo L k).put _ _

theorem ixTo_snoc (L : List ByteArray) (s : ByteArray) : ∀ k, k ≤ L.length → ixTo (L ++ [s]) k = ixTo L k
  | 0, _ => rfl
  | k + 1, h => by
    have e : (L ++ [s]).getD k ByteArray.empty = L.getD k ByteArray.empty := by
      simp [List.getD, List.getElem?_append_left (show k < L.length by omega)]
    rw [ixTo, ixTo, ixTo_snoc L s k (by omega), e]

/-- Is the name on the list? -/
def inL (L : List ByteArray) (s : ByteArray) : Bool := L.any fun t => t.data.toList == s.data.toList
theorem inL_snoc (L : List ByteArray) (t s : ByteArray) : inL (L ++ [t]) s = (inL L s || (t.data.toList == s.data.toList)) := by simp [inL]

/-- The index over all of L. -/
def ix (L : List ByteArray) : DataW Unit := ixTo L L.length

theorem ix_snoc (L : List ByteArray) (s : ByteArray) : ix (L ++ [s]) = (ix L).put (kl s) (num L.length) := by
  unfold ix
  rw [List.length_append, List.length_singleton, ixTo, ixTo_snoc L s _ (Nat.le_refl _)]
  have e : (L ++ [s]).getD L.length ByteArray.empty = s := by simp [List.getD]
  rw [e]

theorem has_ixTo (L : List ByteArray) (s : ByteArray) : ∀ k, k ≤ L.length → Maps.has (ixTo L k) (kl s) = inL (L.take k) s
  | 0, _ => by simp [ixTo, Maps.has, inL]
  | k + 1, h => by
    have hk : k < L.length := by omega
    have e : L.getD k ByteArray.empty = L[k] := by simp [List.getD, hk]
    rw [ixTo, e, List.take_succ_eq_append_getElem hk, inL_snoc]
    by_cases hs : kl s = kl L[k]
    · rw [hs, has_put_same (isMap_ixTo L k) (isKey_kl _)]
      have : (L[k].data.toList == s.data.toList) = true := by rw [kl_inj hs]; simp
      rw [this, Bool.or_true]
    · rw [has_put_other hs, has_ixTo L s k (by omega)]
      have : (L[k].data.toList == s.data.toList) = false := by
        rw [beq_eq_false_iff_ne]
        intro e1
        exact hs (by unfold kl; rw [e1])
      rw [this, Bool.or_false]

theorem has_ix (L : List ByteArray) (s : ByteArray) : Maps.has (ix L) (kl s) = inL L s := by
  unfold ix
  rw [has_ixTo L s _ (Nat.le_refl _), List.take_length]

/-- The last place before k (from j on) at which the name that stands at j stands. -/
def lastTo (L : List ByteArray) (j : Nat) : Nat → Nat
  | 0 => j
  | k + 1 => if j < k ∧ L.getD k ByteArray.empty = L.getD j ByteArray.empty then k else lastTo L j k

theorem lastTo_start (L : List ByteArray) (j : Nat) : ∀ k, k ≤ j + 1 → lastTo L j k = j
  | 0, _ => rfl
  | k + 1, h => by rw [lastTo, if_neg (by omega), lastTo_start L j k (by omega)]

theorem lastTo_hit (L : List ByteArray) (j k : Nat) (h : j < k) (e : L.getD k ByteArray.empty = L.getD j ByteArray.empty) : lastTo L j (k + 1) = k := by rw [lastTo, if_pos ⟨h, e⟩]
theorem lastTo_miss (L : List ByteArray) (j k : Nat) (e : L.getD k ByteArray.empty ≠ L.getD j ByteArray.empty) : lastTo L j (k + 1) = lastTo L j k := by rw [lastTo, if_neg (fun h => e h.2)]
theorem lastTo_lt (L : List ByteArray) (j : Nat) : ∀ k, j < k → lastTo L j k < k
  | 0, h => by omega
  | k + 1, h => by
    rw [lastTo]
    split
    · omega
    · by_cases e : j < k
      · have := lastTo_lt L j k e; omega
      · rw [lastTo_start L j k (by omega)]; omega

theorem at_ixTo (L : List ByteArray) (j : Nat) (z : DataW Unit) : ∀ k, j < k → (ixTo L k).atKey (kl (L.getD j ByteArray.empty)) z = num (lastTo L j k)
  | 0, h => by omega
  | k + 1, h => by
    rw [ixTo, lastTo]
    by_cases hs : L.getD k ByteArray.empty = L.getD j ByteArray.empty
    · rw [hs, atKey_put_same (isMap_ixTo L k) (isKey_kl _)]
      by_cases hj : j < k
      · rw [if_pos ⟨hj, rfl⟩]
      · rw [if_neg (fun h => hj h.1), lastTo_start L j k (by omega)]
        congr 1; omega
    · rw [atKey_put_other (fun h => hs (kl_inj h).symm), if_neg (fun h => hs h.2)]
      have hj : j < k := by
        rcases Nat.lt_or_ge j k with h1 | h1
        · exact h1
        · exact absurd (by rw [show k = j by omega]) hs
      exact at_ixTo L j z k hj

theorem at_ix (L : List ByteArray) (j : Nat) (h : j < L.length) (z : DataW Unit) : (ix L).atKey (kl (L.getD j ByteArray.empty)) z = num (lastTo L j L.length) := at_ixTo L j z _ h
end Go.Proofs.Ybulksyc
