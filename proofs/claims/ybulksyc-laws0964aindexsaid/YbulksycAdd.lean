/-
  AddState: a name that is there already; a new name.
-/
import Derived.Test.YbulksycOnce
import Derived.Maps.AppendAt
namespace Go.Proofs.Ybulksyc
open Go Go.RowKit Go.Maps Go.WideMaps

theorem info9 : (Yba.prog.info? 9).map (fun i => (i.zero, i.size, i.bytes)) = some (some (.string ⟨#[]⟩), 1, 16) := by kernel_rfl

set_option maxHeartbeats 800000 in
theorem add_old {B : Nat} {w : World} {mb : Nat} {S X : Value} {L K : List ByteArray} {s : ByteArray} (h : Ix B w mb S L X K) (hL : ∀ s ∈ L, s.size ≤ maxLen) (hlen : L.length ≤ 100000) (hs : s.size ≤ maxLen) (hin : inL L s = true) :
    Calls Yba.prog 7 #[.pointer (some ⟨mb, 0, none⟩), .string s] w fun e w' => e = .returned (.tuple #[.int .i64 0, .bool false]) ∧ Ix B w' mb S L X K ∧ Below B w w' := by
  have HN := byName_any h hL hlen
  have hhas : Maps.has (ix L) (kl s) = true := by rw [has_ix]; exact hin
  have hkey : keyOf Yba.prog 9 (.string s) = some (kl s) := keyOf_string_mk Yba.underlying9 hs
  clear hin h
  go_enter Yba.func7, Yba.ntmps7
  go_wp2_with (first | (go_at_call 9; refine HN.mono ?_; rintro e w1 ⟨bm, rfl, hbm, h1, m1, b1⟩) | (at_lookup; refine wpList_lookup_own_ok_int _ rfl _ _ 30 rfl 9 3 .i64 law Yba.underlying30 Yba.underlying3 (zero3 _) bm _ _ rfl m1 _ _ rfl hkey ?_; intro c hat hwc))
  go_ret2
  exact ⟨rfl, Or.inr ⟨bm, hbm, h1, m1⟩, b1⟩

theorem cell_kept {B : Nat} {w w' : World} {mb : Nat} {S X M : Value} {L K : List ByteArray} {d mu : Int} (h : St B w mb S L X K M d mu) (hg : w.grownBy w' S.ownBlock) : w'.cell? ⟨mb, 0, none⟩ = some S :=
  hg.cell h.c0 (fun e => h.s_ne e.symm)
theorem free_kept {B : Nat} {w w' : World} {mb : Nat} {S X M : Value} {L K : List ByteArray} {d mu : Int} (h : St B w mb S L X K M d mu) (hg : w.grownBy w' S.ownBlock) : w'.frozen? ⟨mb, 0, none⟩ = false :=
  (World.frozen?_of_block (a := ⟨mb, 0, none⟩) (hg.block mb h.lt (fun e => h.s_ne e.symm))).trans (h.free 0)

set_option maxHeartbeats 1600000 in
theorem add_new {B : Nat} {w : World} {mb : Nat} {S X : Value} {L K : List ByteArray} {s : ByteArray} (h : Ix B w mb S L X K) (hL : ∀ s ∈ L, s.size ≤ maxLen) (hlen : L.length ≤ 100000) (hs : s.size ≤ maxLen) (hin : inL L s = false) :
    Calls Yba.prog 7 #[.pointer (some ⟨mb, 0, none⟩), .string s] w fun e w' => e = .returned (.tuple #[.int .i64 L.length, .bool true]) ∧ (∃ S', Ix B w' mb S' (L ++ [s]) X K) ∧ Below B w w' := by
  have HN := byName_any h hL hlen
  have hhas : Maps.has (ix L) (kl s) = false := by rw [has_ix]; exact hin
  have hkey : keyOf Yba.prog 9 (.string s) = some (kl s) := keyOf_string_mk Yba.underlying9 hs
  obtain ⟨i0, hi, hz0, hz1, hz2⟩ := info_parts info9
  obtain ⟨ao, cap, rfl, hn, hcap, hao⟩ : ∃ ao cap, S = .slice ao L.length cap ∧ L.length ≤ cap ∧ cap ≤ maxLen ∧ (0 < L.length → ∃ g, ao = some ⟨g, 0, none⟩) := by
    rcases h with ⟨M, h⟩ | ⟨bm, hbm, h, hm⟩
    · exact row_form h.row
    · exact row_form h.row
  unfold maxLen at hcap
  clear hin h hao
  go_enter Yba.func7, Yba.ntmps7
  go_wp2_with (first | (go_at_call 9; refine HN.mono ?_; rintro e w1 ⟨bm, rfl, hbm, h1, m1, b1⟩; have d0 := h1.c0) | (at_lookup; refine wpList_lookup_own_ok_int _ rfl _ _ 30 rfl 9 3 .i64 law Yba.underlying30 Yba.underlying3 (zero3 _) bm _ _ rfl m1 _ _ rfl hkey ?_; intro c hat hwc) | (at_mapUpdate; refine wpList_mapUpdate_own _ rfl _ _ _ 30 rfl 9 3 law Yba.underlying30 _ bm _ _ rfl m1 (by unfold maxLen; omega) _ _ _ rfl rfl hkey _ [] (plainElem_int Yba.underlying3 (WalkArith.wf_i64 (by omega))) ?_; intro w2 m2 g2; have h2 := (h1.mapped m1 g2).alloc (.cells #[.string s] 9); have d02 := (h1.mapped m1 g2).c0; have hl2 := (h1.mapped m1 g2).lt; have hB2 := (h1.mapped m1 g2).le) | (at_builtin; refine wpList_append_own_at _ rfl _ _ 22 rfl B 9 i0 (.string ⟨#[]⟩) 1 16 Yba.underlying22 hi hz0 hz1 hz2 rfl (by decide) _ _ _ rfl h2.row ⟨w2.heap.size, 0, none⟩ 1 1 [.string s] rfl rfl (cell_one_new _ _ _) (fun u hu => by rw [List.mem_singleton.1 hu]; rfl) (by unfold maxLen; omega) (by omega) (by simp; omega) ?_; intro v' w3 r3 g3 hn3 hat3; obtain ⟨ao', cap', rfl, hc1', hc2', _⟩ := row_form r3; have hc3' : cap' ≤ 2 ^ 63 - 1 := hc2'; have d03 := cell_kept h2 g3; have f03 := free_kept h2 g3))
  go_ret2
  have hP := h2.pushed g3 r3 hat3
  have hbb : bm ≠ mb := fun e => by
    obtain ⟨es, clock, hb, _⟩ := m1
    have := h1.blk
    rw [← e, hb] at this
    cases this
  have m3 := (map_kept (m2.alloc (.cells #[.string s] 9)) g3 (fun g hg => by
    obtain ⟨cur, hc⟩ := row_block h2.row hg
    exact ⟨cur, 9, (0, 0), hc⟩)).setCell (a := ⟨mb, 0, none⟩) hbb (.slice ao' (L.length + 1) cap')
  refine ⟨rfl, ⟨_, Or.inr ⟨bm, hbm, hP, ?_⟩⟩, ?_⟩
  · rw [ix_snoc, List.length_append, List.length_singleton]
    exact m3
  · refine (((b1.grown g2 h1.le (fun k hk => by cases hk; exact hbm)).alloc hB2 _).grown g3 h2.le (fun k hk => ?_)).setCell h1.base _
    exact (h2.row.lt k hk).1
end Go.Proofs.Ybulksyc
