/-
  The law's own small functions: zzs0964acopy, zzs0964apick, zzs0964acontains.
-/
import Derived.Test.YbulksycAdd
import Derived.Laws.CopyOwn
namespace Go.Proofs.Ybulksyc
open Go Go.RowKit Go.Maps Go.WideMaps

theorem info9s : (Yba.prog.info? 9).map (·.size) = some 1 := by kernel_rfl

theorem nil22 (w : World) (a : Option Addr) (n c : Nat) : (binOp .eql 22 (.slice a n c) (.slice none 0 0)).run Yba.prog w = .ok (.bool a.isNone) w := Lib.run_eql_slice_nil w 22 9 a n c 0 0 Yba.underlying22

theorem inL_step (K : List ByteArray) (s : ByteArray) (k : Nat) (h : k < K.length) : inL (K.take (k + 1)) s = (inL (K.take k) s || ((K.getD k ByteArray.empty).data.toList == s.data.toList)) := by
  have e : K.getD k ByteArray.empty = K[k] := by simp [List.getD, h]
  rw [List.take_succ_eq_append_getElem h, inL_snoc, e]
theorem inL_hit (K : List ByteArray) (s : ByteArray) (k : Nat) (h : k < K.length) (e : (K.getD k ByteArray.empty).data.toList = s.data.toList) : inL K s = true := by
  unfold inL
  rw [List.any_eq_true]
  exact ⟨K[k], List.getElem_mem h, by rw [← e]; simp [List.getD, h]⟩

set_option maxHeartbeats 400000 in
theorem copy_nil (w : World) : Calls Yba.prog 5 #[.slice none 0 0] w fun e w' => e = .returned (.slice none 0 0) ∧ w' = w := by
  have hnl := nil22
  go_enter Yba.func5, Yba.ntmps5
  go_wp2
  go_ret
  exact ⟨rfl, rfl⟩

theorem made_block {w : World} {B g n : Nat} {xs : List Value} (h : w.ownsRow B 9 1 (.slice (some ⟨g, 0, none⟩) n n) n xs) : ∃ cur : List Value, w.heap[g]? = some (.cells cur.toArray 9 (0, 0)) ∧ cur.length = n := by
  obtain ⟨_, h2⟩ := h
  rcases h2 with ⟨e, _⟩ | ⟨g', cap, cur, e, _, hh, _, _, hs, _⟩
  · simp at e
  · simp at e
    obtain ⟨rfl, rfl⟩ := e
    exact ⟨cur.toList, by simpa using hh, by simpa using hs⟩
theorem below_of_grown {w w' : World} (h : w.grownBy w' none) : Below w.heap.size w w' := ⟨h.os, h.tape, h.output, h.size, fun k hk => h.block k hk (by simp)⟩
theorem grown_of_below {w w' : World} (h : Below w.heap.size w w') : w.grownBy w' none := ⟨h.os, h.tape, h.output, h.size, fun k hk _ => h.block k hk⟩
theorem addr_lt {w : World} {a : Addr} {v : Value} (h : w.cell? a = some v) : a.block < w.heap.size := block_lt_of_cell h

theorem hposL (ss : List ByteArray) (w w1 : World) (a : Addr) (len : Nat) (hss : ss.length = len) (hc : ∀ i, i < len → w.cell? (a.add i) = some (.string (ss.getD i ByteArray.empty))) (b1 : Below w.heap.size w w1) :
    0 < (ss.map Value.string).length → some (⟨w.heap.size, 0, none⟩ : Addr) = some ⟨w.heap.size, 0, none⟩ ∧ ∃ ad, some a = some ad ∧ ∀ j v, (ss.map Value.string)[j]? = some v → w1.cell? (ad.add j) = some v := by
  intro _
  refine ⟨rfl, a, rfl, fun j v hj => ?_⟩
  have hjl : j < ss.length := by
    have := (List.getElem?_eq_some_iff.1 hj).1
    simpa using this
  have e := hc j (by omega)
  rw [b1.cell (addr_lt e), e]
  simp [List.getD, hjl] at hj ⊢
  exact hj

set_option maxHeartbeats 800000 in
theorem copy_some (a : Addr) (len cap : Nat) (ss : List ByteArray) (w : World) (hl : len ≤ 256) (hss : ss.length = len) (hc : ∀ i, i < len → w.cell? (a.add i) = some (.string (ss.getD i ByteArray.empty))) :
    Calls Yba.prog 5 #[.slice (some a) len cap] w fun e w' => ∃ v, e = .returned v ∧ w'.ownsRow w.heap.size 9 1 v ss.length (ss.map Value.string) ∧ Below w.heap.size w w' := by
  obtain ⟨i0, hi, hz0, hz1, hz2⟩ := info_parts info9
  have hnl := nil22
  go_enter Yba.func5, Yba.ntmps5
  go_wp2_with (first | (at_make; refine wpList_make_full _ rfl _ _ 22 rfl w.heap.size 9 i0 (.string ⟨#[]⟩) 1 Yba.underlying22 hi hz0 hz1 .i64 .i64 _ _ len rfl rfl rfl rfl (by rw [hz2]; omega) (by unfold maxLen; omega) (Nat.le_refl _) ?_; intro w1 r1 g1; have b1 := below_of_grown g1; obtain ⟨cur, hg1, hcl⟩ := made_block r1; have hpos : 0 < (ss.map Value.string).length → some (⟨w.heap.size, 0, none⟩ : Addr) = some ⟨w.heap.size, 0, none⟩ ∧ ∃ ad, some a = some ad ∧ ∀ j v, (ss.map Value.string)[j]? = some v → w1.cell? (ad.add j) = some v := hposL ss w w1 a len hss hc b1) | (refine wpList_copy_splice rfl (.tmp 9) (.tmp 10) 22 22 rfl 9 Yba.underlying22 info9s _ _ _ _ _ _ rfl rfl w.heap.size 0 cur 9 hg1 (ss.map Value.string) (by simp [hss]) hpos (by simp; omega) (fun v hv => by obtain ⟨x, _, rfl⟩ := List.mem_map.1 hv; rfl) w.heap.size w b1 (Nat.le_refl _) ?_; intro w2 HG hB))
  go_ret
  refine ⟨_, rfl, ?_, hB⟩
  have hg2 := HG.out
  have es : splice cur 0 (ss.map Value.string) = ss.map Value.string := by
    unfold splice
    simp
    omega
  rw [es] at hg2
  exact ⟨by simp [hss], Or.inr ⟨w.heap.size, len, (ss.map Value.string).toArray, rfl, Nat.le_refl _, hg2, Nat.le_refl _, by unfold maxLen; omega, by simp [hss], by rw [List.take_of_length_le (by simp [hss])]⟩⟩

set_option maxHeartbeats 800000 in
theorem contains_any {B : Nat} {w : World} {v : Value} {K : List ByteArray} {s : ByteArray} (h : w.ownsRow B 9 1 v K.length (K.map Value.string)) (hK : K.length ≤ 100000) :
    Calls Yba.prog 8 #[v, .string s] w fun e w' => e = .returned (.bool (inL K s)) ∧ w' = w := by
  obtain ⟨ao, cap, rfl, hn, hcap, hao⟩ := row_form h
  unfold maxLen at hcap
  go_enter Yba.func8, Yba.ntmps8
  go_wp2
  go_loop [5] (fun i => ∃ k : Nat, k ≤ K.length ∧ i = .int .i64 k ∧ inL (K.take k) s = false) (fun i => K.length - (intOf i).toNat)
  case atStart => exact ⟨0, Nat.zero_le _, rfl, by simp [inL]⟩
  case round =>
    obtain ⟨k, hk, rfl, hno⟩ := hrel
    by_cases hlt : k < K.length
    · obtain ⟨g, rfl⟩ := hao (by omega)
      obtain ⟨t, ht⟩ : ∃ t, t = K.getD k ByteArray.empty := ⟨_, rfl⟩
      have hgk : w.cell? ⟨g, k, none⟩ = some (.string t) := by
        have := h.cellAt k (by omega)
        rw [this, ht]
        simp [List.getD, hlt]
      have HT : Hid (t = K.getD k ByteArray.empty) := ht
      have HN : Hid (inL (K.take k) s = false) := hno
      clear ht hno
      by_cases he : t.data.toList = s.data.toList
      · have he' : (t.toList == s.toList) = true := by rw [ByteArray.toList_eq, ByteArray.toList_eq, he]; simp
        have HE : Hid (t.data.toList = s.data.toList) := he
        clear he
        go_wp2
        go_ret
        exact ⟨by rw [inL_hit K s k hlt (by rw [← HT.out]; exact HE.out)]; rfl, rfl⟩
      · have he' : (t.toList == s.toList) = false := by rw [ByteArray.toList_eq, ByteArray.toList_eq]; simpa using he
        have HE : Hid (¬ t.data.toList = s.data.toList) := he
        clear he
        go_wp2
        go_round
        case rel => exact ⟨k + 1, by omega, by go_num, by rw [inL_step K s k hlt, HN.out, ← HT.out]; simpa using HE.out⟩
        case measure => simp [intOf]; omega
    · obtain rfl : k = K.length := by omega
      have HN : Hid (inL K s = false) := by
        rw [List.take_length] at hno
        exact hno
      clear hno
      go_wp2
      go_ret
      exact ⟨by rw [HN.out]; rfl, rfl⟩

set_option maxHeartbeats 800000 in
/-- zzs0964apick: some name. -/
theorem pick_any (a : Option Addr) (len cap : Nat) (ss : List ByteArray) (p : Nat) (w : World) (hl : len ≤ 256) (hp : p ≤ 255) (hss : ss.length = len) (hsz : ∀ s ∈ ss, s.size ≤ maxLen)
    (hc : ∀ i, i < len → ∃ b off, a = some ⟨b, off, none⟩ ∧ b < w.heap.size ∧ w.cell? ⟨b, off + i, none⟩ = some (.string (ss.getD i ByteArray.empty))) :
    Calls Yba.prog 6 #[.slice a len cap, .int .u8 p] w fun e w' => ∃ s, e = .returned (.string s) ∧ s.size ≤ maxLen ∧ Below w.heap.size w w' := by
  have hm : p % (len + 4) < len + 4 := Nat.mod_lt _ (by omega)
  obtain ⟨k, hk⟩ : ∃ k, p % (len + 4) = k := ⟨_, rfl⟩
  rw [hk] at hm
  have hI : (p : Int) % ((len : Int) + 4) = (k : Int) := by
    rw [← hk]
    simp
  clear hk
  by_cases hlt : k < len
  · obtain ⟨b, off, rfl, hb, hkc⟩ := hc _ hlt
    obtain ⟨s, hs⟩ : ∃ s, s = ss.getD k ByteArray.empty := ⟨_, rfl⟩
    have hsm : s.size ≤ maxLen := hsz s (by rw [hs]; simp [List.getD, hss, hlt])
    rw [← hs] at hkc
    clear hs hc hsz hss
    go_enter Yba.func6, Yba.ntmps6
    go_wp2
    go_ret
    exact ⟨s, rfl, hsm, (Below.refl _ _).alloc (Nat.le_refl _) _⟩
  · have hj : k = len ∨ k = len + 1 ∨ k = len + 2 ∨ k = len + 3 := by omega
    clear hc hsz hss hm hlt
    rcases hj with rfl | rfl | rfl | rfl
    all_goals
      go_enter Yba.func6, Yba.ntmps6
      go_wp2
      go_ret
      refine ⟨_, rfl, ?_, (Below.refl _ _).alloc (Nat.le_refl _) _⟩
      unfold maxLen
      decide
end Go.Proofs.Ybulksyc
