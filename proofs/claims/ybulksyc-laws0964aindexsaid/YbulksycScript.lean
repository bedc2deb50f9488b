/-
  THE WALK OF LawS0964AScript.
-/
import Derived.Test.YbulksycSmall
import Derived.OpenShut
namespace Go.Proofs.Ybulksyc
open Go Go.RowKit Go.Maps Go.WideMaps

/-- A slice of strings that came in: nil; or a row of 'cap' strings, of which the first 'len' are its elements. -/
def IsStrs (w : World) (a : Option Addr) (len cap : Nat) (ss : List ByteArray) : Prop :=
  (a = none ∧ len = 0 ∧ cap = 0 ∧ ss = []) ∨
  ∃ x, a = some x ∧ len ≤ cap ∧ cap ≤ maxLen ∧ ss.length = cap ∧ (∀ i, i < ss.length → w.cell? (x.add i) = some (.string (ss.getD i ByteArray.empty))) ∧ ∀ s ∈ ss, s.size ≤ maxLen
/-- A slice of integers that came in. -/
def IsRow (k : IntKind) (w : World) (a : Option Addr) (len cap : Nat) (zs : List Int) : Prop :=
  (a = none ∧ len = 0 ∧ cap = 0 ∧ zs = []) ∨
  ∃ x, a = some x ∧ len ≤ cap ∧ cap ≤ maxLen ∧ zs.length = cap ∧ (∀ i, i < zs.length → w.cell? (x.add i) = some (.int k (zs.getD i 0))) ∧ ∀ n ∈ zs, (Lit.int k n).wf = true

/-- copy, of whatever slice came in: its elements, in a row of the call's own. -/
theorem copy_any {w : World} {a : Option Addr} {len cap : Nat} {ss : List ByteArray} (h : IsStrs w a len cap ss) (hl : len ≤ 256) (w1 : World) (hb : Below w.heap.size w w1) :
    Calls Yba.prog 5 #[.slice a len cap] w1 fun e w' => ∃ v, e = .returned v ∧ w'.ownsRow w1.heap.size 9 1 v (ss.take len).length ((ss.take len).map Value.string) ∧ Below w1.heap.size w1 w' := by
  rcases h with ⟨rfl, rfl, rfl, rfl⟩ | ⟨x, rfl, hlc, hm, hz, hc, _⟩
  · refine (copy_nil w1).mono ?_
    rintro e w' ⟨rfl, rfl⟩
    exact ⟨_, rfl, World.ownsRow_nil _ _ _ _, Below.refl _ _⟩
  · have hlen : (ss.take len).length = len := by simp; omega
    refine (copy_some x len cap (ss.take len) w1 hl hlen (fun i hi => ?_)).mono ?_
    · have e := hc i (by omega)
      rw [hb.cell (addr_lt e), e]
      simp [List.getD, hi]
    · rintro e w' ⟨v, rfl, h1, h2⟩
      exact ⟨v, rfl, h1, h2⟩

/-- pick, of whatever slice came in. -/
theorem pick_in {w : World} {a : Option Addr} {len cap : Nat} {ss : List ByteArray} (h : IsStrs w a len cap ss) (hl : len ≤ 256) (p : Int) (h0 : 0 ≤ p) (hp : p ≤ 255) (w1 : World) (hb : Below w.heap.size w w1) :
    Calls Yba.prog 6 #[.slice a len cap, .int .u8 p] w1 fun e w' => ∃ s, e = .returned (.string s) ∧ s.size ≤ maxLen ∧ Below w1.heap.size w1 w' := by
  obtain ⟨n, rfl⟩ := Int.eq_ofNat_of_zero_le h0
  rcases h with ⟨rfl, rfl, rfl, rfl⟩ | ⟨x, rfl, hlc, hm, hz, hc, hsz⟩
  · exact pick_any none 0 0 [] n w1 (by omega) (by omega) rfl (fun s hs => by simp at hs) (fun i hi => by omega)
  · have hlen : (ss.take len).length = len := by simp; omega
    refine pick_any (some x) len cap (ss.take len) n w1 hl (by omega) hlen (fun s hs => hsz s (List.mem_of_mem_take hs)) (fun i hi => ?_)
    have e := hc i (by omega)
    obtain ⟨b, off, spot⟩ := x
    have hspot : spot = none := by simpa [Addr.add] using World.cell?_spot (hc 0 (by omega))
    subst hspot
    have hlt : b < w.heap.size := by
      have := addr_lt (hc 0 (by omega))
      simpa [Addr.add] using this
    refine ⟨b, off, rfl, Nat.lt_of_lt_of_le hlt hb.size, ?_⟩
    rw [WideShapes.add_plain, ← hb.cell (p := ⟨b, off + i, none⟩) hlt, ← WideShapes.add_plain] at e
    rw [show (⟨b, off + i, none⟩ : Addr) = (⟨b, off, none⟩ : Addr).add i from (WideShapes.add_plain b off i).symm, e]
    simp [List.getD, hi]

theorem Ix.more {B : Nat} {w w' : World} {mb : Nat} {S X : Value} {L K : List ByteArray} (h : Ix B w mb S L X K) (hg : w.grownBy w' none) : Ix B w' mb S L X K := by
  rcases h with ⟨M, h⟩ | ⟨bm, hbm, h, hm⟩
  · exact Or.inl ⟨M, h.more hg⟩
  · exact Or.inr ⟨bm, hbm, h.more hg, hm.kept hg (by simp)⟩
theorem Ix.st {B : Nat} {w : World} {mb : Nat} {S X : Value} {L K : List ByteArray} (h : Ix B w mb S L X K) : ∃ M d, St B w mb S L X K M d 0 := by
  rcases h with ⟨M, h⟩ | ⟨bm, hbm, h, hm⟩
  · exact ⟨M, 0, h⟩
  · exact ⟨_, 1, h⟩
theorem Ix.pushedX {B : Nat} {w w' : World} {mb : Nat} {S X X' : Value} {L K : List ByteArray} {s : ByteArray} (h : Ix B w mb S L X K) (hg : w.grownBy w' X.ownBlock) (hr : w'.ownsRow B 9 1 X' (K.length + 1) (K.map Value.string ++ [.string s])) (hat : X'.ownBlock = X.ownBlock ∨ X'.ownBlock = some w.heap.size) :
    Ix B w' mb S L X' (K ++ [s]) := by
  rcases h with ⟨M, h⟩ | ⟨bm, hbm, h, hm⟩
  · exact Or.inl ⟨M, h.pushedX hg hr hat⟩
  · refine Or.inr ⟨bm, hbm, h.pushedX hg hr hat, map_kept hm hg fun g e => ?_⟩
    obtain ⟨cur, hc⟩ := row_block h.oth e
    exact ⟨cur, 9, (0, 0), hc⟩

theorem row_at {w : World} {a : Option Addr} {len cap : Nat} {z : List Int} (h : IsRow .u8 w a len cap z) (i : Nat) (hi : i < len) : ∃ b off v, a = some ⟨b, off, none⟩ ∧ b < w.heap.size ∧ w.cell? ⟨b, off + i, none⟩ = some (.int .u8 v) ∧ 0 ≤ v ∧ v ≤ 255 := by
  rcases h with ⟨rfl, rfl, rfl, rfl⟩ | ⟨x, rfl, hlc, hm, hz, hc, hw⟩
  · omega
  · obtain ⟨b, off, spot⟩ := x
    have hspot : spot = none := by simpa [Addr.add] using World.cell?_spot (hc 0 (by omega))
    subst hspot
    have hlt : b < w.heap.size := by
      have := addr_lt (hc 0 (by omega))
      simpa [Addr.add] using this
    have e := hc i (by omega)
    rw [WideShapes.add_plain] at e
    have hb : (Lit.int .u8 (z.getD i 0)).wf = true := by
      have hiz : i < z.length := by omega
      refine hw _ ?_
      simp [List.getD, hiz]
    exact ⟨b, off, z.getD i 0, rfl, hlt, e, bounds_u8 hb⟩

theorem script_long (a1 : Option Addr) (len1 cap1 : Nat) (a2 : Option Addr) (len2 cap2 : Nat) (w : World) (h : 256 < len1 ∨ 256 < len2) :
    Calls Yba.prog 3 #[.slice a1 len1 cap1, .slice a2 len2 cap2] w fun e w' => e = .returned (.bool true) ∧ Below w.heap.size w w' := by
  by_cases h1 : 256 < len1
  · have d1 : decide ((256 : Int) < (len1 : Int)) = true := by simp; omega
    go_enter Yba.func3, Yba.ntmps3
    go_wp2
    go_ret
    exact ⟨rfl, Below.refl _ _⟩
  · have d1 : decide ((256 : Int) < (len1 : Int)) = false := by simp; omega
    have d2 : decide ((256 : Int) < (len2 : Int)) = true := by simp; omega
    go_enter Yba.func3, Yba.ntmps3
    go_wp2
    go_ret
    exact ⟨rfl, Below.refl _ _⟩

set_option maxHeartbeats 1600000 in
theorem script_walk (a1 : Option Addr) (len1 cap1 : Nat) (ss : List ByteArray) (a2 : Option Addr) (len2 cap2 : Nat) (z2 : List Int) (w : World) (hs : IsStrs w a1 len1 cap1 ss) (hz : IsRow .u8 w a2 len2 cap2 z2) (hl1 : len1 ≤ 256) (hl2 : len2 ≤ 256) :
    Calls Yba.prog 3 #[.slice a1 len1 cap1, .slice a2 len2 cap2] w fun e w' => e = .returned (.bool true) ∧ Below w.heap.size w w' := by
  have HS : Hid (IsStrs w a1 len1 cap1 ss) := hs
  have HZ : Hid (IsRow .u8 w a2 len2 cap2 z2) := hz
  have d1 : decide ((256 : Int) < (len1 : Int)) = false := by simp; omega
  have d2 : decide ((256 : Int) < (len2 : Int)) = false := by simp; omega
  obtain ⟨L0, hn0, hs0, HC⟩ : ∃ L0 : List ByteArray, L0.length ≤ 256 ∧ (∀ s ∈ L0, s.size ≤ maxLen) ∧ Hid (∀ w1, Below w.heap.size w w1 → Calls Yba.prog 5 #[.slice a1 len1 cap1] w1 fun e w' => ∃ v, e = .returned v ∧ w'.ownsRow w1.heap.size 9 1 v L0.length (L0.map Value.string) ∧ Below w1.heap.size w1 w') := by
    refine ⟨ss.take len1, by simp; omega, ?_, fun w1 hb => copy_any hs hl1 w1 hb⟩
    rcases hs with ⟨_, _, _, rfl⟩ | ⟨x, _, _, _, _, _, hsz⟩
    · intro s hs; simp at hs
    · exact fun s hs => hsz s (List.mem_of_mem_take hs)
  clear hs hz
  go_enter Yba.func3, Yba.ntmps3
  go_wp2_with fail
  refine (HC.out w (Below.refl _ _)).mono ?_
  rintro e w1 ⟨v1, rfl, r1, b1⟩
  obtain ⟨ao1, c1, rfl, hn1, hc1, hao1⟩ := row_form r1
  go_wp2_with fail
  have b2 : Below w.heap.size w (w1.alloc (.cells (mdl (.slice ao1 L0.length c1) (.map none) 0 0) 44)) := b1.alloc b1.size _
  refine (HC.out (w1.alloc (.cells (mdl (.slice ao1 L0.length c1) (.map none) 0 0) 44)) b2).mono ?_
  rintro e w3 ⟨v2, rfl, r3, b3⟩
  obtain ⟨ao2, c2, rfl, hn2, hc2, hao2⟩ := row_form r3
  have hst : St w.heap.size w3 w1.heap.size (.slice ao1 L0.length c1) L0 (.slice ao2 L0.length c2) L0 (.map none) 0 0 := by
    have e2 : (w1.alloc (.cells (mdl (.slice ao1 L0.length c1) (.map none) 0 0) 44)).heap.size = w1.heap.size + 1 := by simp
    refine ⟨b1.size, (b3.block _ (by rw [e2]; omega)).trans (MapKept.heap_alloc w1 _).1, (r1.alloc _).kept (grown_of_below b3) ne_none_or, ?_, ?_⟩
    · obtain ⟨q1, q2⟩ := r3
      refine ⟨q1, ?_⟩
      rcases q2 with q2 | ⟨g, cap, cur, q3, q4, q5⟩
      · exact Or.inl q2
      · exact Or.inr ⟨g, cap, cur, q3, by have := b1.size; omega, q5⟩
    · rcases hx : Value.ownBlock (.slice ao2 L0.length c2) with _ | g
      · exact Or.inl rfl
      · refine Or.inr fun e => ?_
        have h1 := (r3.lt g hx).1
        have h2 := (r1.lt g e.symm).2
        omega
  have b4 : Below w.heap.size w w3 := b2.trans (b3.mono (by have := b1.size; simp; omega))
  generalize hmb : w1.heap.size = mb at hst
  go_wp2_with fail
  clear hmb r1 b1 b2 r3 b3 hn1 hc1 hao1 hn2 hc2 hao2
  go_loopw [6, 29] (fun X i wr => ∃ (k : Nat) (L : List ByteArray) (S : Value), k ≤ len2 ∧ i = .int .i64 k ∧ Ix w.heap.size wr mb S L X L ∧ (∀ s ∈ L, s.size ≤ maxLen) ∧ L.length ≤ 256 + k ∧ Below w.heap.size w wr) (fun _ i _ => len2 - (intOf i).toNat)
  case atStart => exact ⟨0, L0, _, Nat.zero_le _, rfl, Or.inl ⟨_, hst⟩, hs0, by omega, b4⟩
  case round =>
    obtain ⟨k, L, S, hk, rfl, hix, hL, hlen, hbel⟩ := hrel
    clear hst b4
    obtain ⟨aoX, cX, rfl, hnX, hcX, haoX⟩ : ∃ ao cap, u6 = .slice ao L.length cap ∧ L.length ≤ cap ∧ cap ≤ maxLen ∧ (0 < L.length → ∃ g, ao = some ⟨g, 0, none⟩) := by
      obtain ⟨M, d, h⟩ := hix.st
      exact row_form h.oth
    unfold maxLen at hcX
    by_cases hlt : k < len2
    · obtain ⟨b, off, v, rfl, hb, hv, hv0, hv1⟩ := row_at HZ.out k hlt
      have hv' : wr.cell? ⟨b, off + k, none⟩ = some (.int .u8 v) := (hbel.cell (p := ⟨b, off + k, none⟩) hb).trans hv
      have HB : Hid (Below w.heap.size w wr) := hbel
      have HI : Hid (Ix w.heap.size wr mb S L (.slice aoX L.length cX) L) := hix
      have HL : Hid (∀ s ∈ L, s.size ≤ maxLen) := hL
      clear hbel hix hL hv
      go_wp2_with fail
      refine (pick_in HS.out hl1 v hv0 hv1 wr HB.out).mono ?_
      rintro e w5 ⟨s, rfl, hss, b5⟩
      have HI5 : Hid (Ix w.heap.size w5 mb S L (.slice aoX L.length cX) L) := HI.out.more (grown_of_below b5)
      have HB5 : Hid (Below w.heap.size w w5) := HB.out.trans (b5.mono HB.out.size)
      clear b5 hv'
      go_wp2_with fail
      by_cases hin : inL L s = true
      · refine (add_old HI5.out HL.out (by omega) hss hin).mono ?_
        rintro e w6 ⟨rfl, hix6, b6⟩
        obtain ⟨M6, d6, h6⟩ := hix6.st
        have HI6 : Hid (Ix w.heap.size w6 mb S L (.slice aoX L.length cX) L) := hix6
        have HB6 : Hid (Below w.heap.size w w6) := HB5.out.trans b6
        have HCt := contains_any (s := s) h6.oth (by omega)
        rw [hin] at HCt
        clear hix6 b6 h6 hin
        go_wp2_with fail
        refine HCt.mono ?_
        rintro e w7 ⟨rfl, rfl⟩
        go_wp2
        go_roundw
        case rel => exact ⟨k + 1, L, S, by omega, by go_num, HI6.out, HL.out, by omega, HB6.out⟩
        case measure => simp [intOf]; omega
      · have hin' : inL L s = false := by simpa using hin
        refine (add_new HI5.out HL.out (by omega) hss hin').mono ?_
        rintro e w6 ⟨rfl, ⟨S', hix6⟩, b6⟩
        obtain ⟨M6, d6, h6⟩ := hix6.st
        have HI6 : Hid (Ix w.heap.size w6 mb S' (L ++ [s]) (.slice aoX L.length cX) L) := hix6
        have HB6 : Hid (Below w.heap.size w w6) := HB5.out.trans b6
        have HCt := contains_any (s := s) h6.oth (by omega)
        rw [hin'] at HCt
        have r6 := h6.oth.alloc (.cells #[.string s] 9)
        have hBs : w.heap.size ≤ w6.heap.size := h6.le
        clear hix6 b6 h6 hin hin'
        obtain ⟨i0, hi, hz0, hz1, hz2⟩ := info_parts info9
        go_wp2_with (first | (go_at_call 8; refine HCt.mono ?_; rintro e w7 ⟨rfl, rfl⟩) | (at_builtin; refine wpList_append_own_at _ rfl _ _ 22 rfl w.heap.size 9 i0 (.string ⟨#[]⟩) 1 16 Yba.underlying22 hi hz0 hz1 hz2 rfl (by decide) _ _ _ rfl r6 ⟨_, 0, none⟩ 1 1 [.string s] rfl rfl (cell_one_new _ _ _) (fun u hu => by rw [List.mem_singleton.1 hu]; rfl) (by unfold maxLen; omega) (by omega) (by simp; omega) ?_; intro X' w8 r8 g8 hn8 hat8))
        have HX := (HI6.out.more (World.grownBy_alloc _ (.cells #[.string s] 9) none)).pushedX g8 r8 hat8
        go_roundw
        case rel =>
          refine ⟨k + 1, L ++ [s], S', by omega, by go_num, HX, fun t ht => ?_, by simp; omega, (HB6.out.alloc hBs _).grown g8 (by simp; omega) (fun j hj => (r6.lt j hj).1)⟩
          rcases List.mem_append.1 ht with h | h
          · exact HL.out t h
          · rw [List.mem_singleton.1 h]; exact hss
        case measure => simp [intOf]; omega
    · obtain rfl : k = len2 := by omega
      obtain ⟨M, d, hst⟩ := hix.st
      obtain ⟨aoS, cS, rfl, hnS, hcS, haoS⟩ := row_form hst.row
      unfold maxLen at hcS
      have c0 := hst.c0
      clear hix
      go_wp2
      clear c0
      go_loopw [12] (fun i wx => ∃ j : Nat, j ≤ L.length ∧ i = .int .i64 j ∧ St w.heap.size wx mb (.slice aoS L.length cS) L (.slice aoX L.length cX) L M d 0 ∧ Below w.heap.size w wx) (fun i _ => L.length - (intOf i).toNat)
      case atStart => exact ⟨0, Nat.zero_le _, rfl, hst, hbel⟩
      case round =>
        obtain ⟨j, hj, rfl, hsx, hbx⟩ := hrel
        clear hst hbel
        by_cases hjl : j < L.length
        · obtain ⟨gS, rfl⟩ := haoS (by omega)
          obtain ⟨gX, rfl⟩ := haoX (by omega)
          obtain ⟨t, ht⟩ : ∃ t, t = L.getD j ByteArray.empty := ⟨_, rfl⟩
          have k1 : wr.cell? ⟨gS, j, none⟩ = some (.string t) := by
            rw [hsx.row.cellAt j (by omega), ht]
            simp [List.getD, hjl]
          have k2 : wr.cell? ⟨gX, j, none⟩ = some (.string t) := by
            rw [hsx.oth.cellAt j (by omega), ht]
            simp [List.getD, hjl]
          have c0 := hsx.c0
          have HSx : Hid (St w.heap.size wr mb (.slice (some ⟨gS, 0, none⟩) L.length cS) L (.slice (some ⟨gX, 0, none⟩) L.length cX) L M d 0) := hsx
          have HBx : Hid (Below w.heap.size w wr) := hbx
          have hji : (j : Int) < (L.length : Int) := by omega
          clear ht hsx hbx
          go_wp2
          go_quiet (fail)
          go_wp2
          go_roundw
          case rel => exact ⟨j + 1, by omega, by go_num, HSx.out.drewN _, below_drewN HBx.out _⟩
          case measure => simp [intOf]; omega
        · obtain rfl : j = L.length := by omega
          go_wp2
          go_ret
          exact ⟨rfl, hbx⟩
end Go.Proofs.Ybulksyc
