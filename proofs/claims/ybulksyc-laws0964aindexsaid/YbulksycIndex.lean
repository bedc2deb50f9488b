/-
  THE WALK OF LawS0964AIndex.
-/
import Derived.Test.YbulksycScript
namespace Go.Proofs.Ybulksyc
open Go Go.RowKit Go.Maps Go.WideMaps

theorem index_long (a1 : Option Addr) (len1 cap1 : Nat) (a2 : Option Addr) (len2 cap2 : Nat) (w : World) (h : 256 < len1 ∨ 256 < len2) :
    Calls Yba.prog 4 #[.slice a1 len1 cap1, .slice a2 len2 cap2] w fun e w' => e = .returned (.bool true) ∧ Below w.heap.size w w' := by
  by_cases h1 : 256 < len1
  · have d1 : decide ((256 : Int) < (len1 : Int)) = true := by simp; omega
    go_enter Yba.func4, Yba.ntmps4
    go_wp2
    go_ret
    exact ⟨rfl, Below.refl _ _⟩
  · have d1 : decide ((256 : Int) < (len1 : Int)) = false := by simp; omega
    have d2 : decide ((256 : Int) < (len2 : Int)) = true := by simp; omega
    go_enter Yba.func4, Yba.ntmps4
    go_wp2
    go_ret
    exact ⟨rfl, Below.refl _ _⟩

/-- What the last loops of the law read, and nobody writes. -/
def Rd (B : Nat) (w wr : World) (S : Value) (L : List ByteArray) (bm : Nat) : Prop :=
  wr.ownsRow B 9 1 S L.length (L.map Value.string) ∧ wr.ownsMap Yba.prog 9 (plainElem Yba.prog 3) bm L.length (ix L) ∧ Below B w wr
theorem Rd.drewN {B : Nat} {w wr : World} {S : Value} {L : List ByteArray} {bm : Nat} (h : Rd B w wr S L bm) (n : Nat) : Rd B w (wr.drewN n) S L bm := ⟨h.1, h.2.1, below_drewN h.2.2 n⟩
theorem Rd.cellOf {B : Nat} {w wr : World} {g cap : Nat} {L : List ByteArray} {bm : Nat} (h : Rd B w wr (.slice (some ⟨g, 0, none⟩) L.length cap) L bm) (j : Nat) (hj : j < L.length) : wr.cell? ⟨g, j, none⟩ = some (.string (L.getD j ByteArray.empty)) := by
  rw [h.1.cellAt j (by omega)]
  simp [List.getD, hj]
theorem num_is {c : Int} {T : Nat} {D : DataW Unit} (h1 : D = .lit (.int .i64 c)) (h2 : D = num T) : c = (T : Int) := by
  rw [h1] at h2
  unfold num at h2
  injection h2 with h3
  injection h3

set_option maxHeartbeats 1600000 in
theorem index_walk (a1 : Option Addr) (len1 cap1 : Nat) (ss : List ByteArray) (a2 : Option Addr) (len2 cap2 : Nat) (z2 : List Int) (w : World) (hs : IsStrs w a1 len1 cap1 ss) (hz : IsRow .u8 w a2 len2 cap2 z2) (hl1 : len1 ≤ 256) (hl2 : len2 ≤ 256) :
    Calls Yba.prog 4 #[.slice a1 len1 cap1, .slice a2 len2 cap2] w fun e w' => e = .returned (.bool true) ∧ Below w.heap.size w w' := by
  have HS : Hid (IsStrs w a1 len1 cap1 ss) := hs
  have HZ : Hid (IsRow .u8 w a2 len2 cap2 z2) := hz
  have d1 : decide ((256 : Int) < (len1 : Int)) = false := by simp; omega
  have d2 : decide ((256 : Int) < (len2 : Int)) = false := by simp; omega
  obtain ⟨L0, hn0, hs0, HC⟩ : ∃ L0 : List ByteArray, L0.length ≤ 256 ∧ (∀ s ∈ L0, s.size ≤ maxLen) ∧ Hid (∀ w1, Below w.heap.size w w1 → Calls Yba.prog 5 #[.slice a1 len1 cap1] w1 fun e w' => ∃ v, e = .returned v ∧ w'.ownsRow w1.heap.size 9 1 v L0.length (L0.map Value.string) ∧ Below w1.heap.size w1 w') := by
    refine ⟨ss.take len1, by simp; omega, ?_, fun w1 hb => copy_any hs hl1 w1 hb⟩
    rcases hs with ⟨_, _, _, rfl⟩ | ⟨x, _, _, _, _, _, hsz⟩
    · intro s hs; simp at hs
    · exact fun s hs => hsz s (List.mem_of_mem_take hs)
  clear hs hz
  go_enter Yba.func4, Yba.ntmps4
  go_wp2_with fail
  refine (HC.out w (Below.refl _ _)).mono ?_
  rintro e w1 ⟨v1, rfl, r1, b1⟩
  obtain ⟨ao1, c1, rfl, hn1, hc1, hao1⟩ := row_form r1
  go_wp2_with fail
  have hst : St w.heap.size (w1.alloc (.cells (mdl (.slice ao1 L0.length c1) (.map none) 0 0) 44)) w1.heap.size (.slice ao1 L0.length c1) L0 (.slice none 0 0) [] (.map none) 0 0 :=
    ⟨b1.size, (MapKept.heap_alloc w1 _).1, r1.alloc _, World.ownsRow_nil _ _ _ _, Or.inl rfl⟩
  have b4 : Below w.heap.size w (w1.alloc (.cells (mdl (.slice ao1 L0.length c1) (.map none) 0 0) 44)) := b1.alloc b1.size _
  clear r1 b1 hn1 hc1 hao1
  go_loopw [29] (fun i wr => ∃ (k : Nat) (L : List ByteArray) (S : Value), k ≤ len2 ∧ i = .int .i64 k ∧ Ix w.heap.size wr w1.heap.size S L (.slice none 0 0) [] ∧ (∀ s ∈ L, s.size ≤ maxLen) ∧ L.length ≤ 256 + k ∧ Below w.heap.size w wr) (fun i _ => len2 - (intOf i).toNat)
  case atStart => exact ⟨0, L0, _, Nat.zero_le _, rfl, Or.inl ⟨_, hst⟩, hs0, by omega, b4⟩
  case round =>
    obtain ⟨k, L, S, hk, rfl, hix, hL, hlen, hbel⟩ := hrel
    clear hst b4
    by_cases hlt : k < len2
    · obtain ⟨b, off, v, rfl, hb, hv, hv0, hv1⟩ := row_at HZ.out k hlt
      have hv' : wr.cell? ⟨b, off + k, none⟩ = some (.int .u8 v) := (hbel.cell (p := ⟨b, off + k, none⟩) hb).trans hv
      have HB : Hid (Below w.heap.size w wr) := hbel
      have HI : Hid (Ix w.heap.size wr w1.heap.size S L (.slice none 0 0) []) := hix
      have HL : Hid (∀ s ∈ L, s.size ≤ maxLen) := hL
      clear hbel hix hL hv
      go_wp2_with fail
      refine (pick_in HS.out hl1 v hv0 hv1 wr HB.out).mono ?_
      rintro e w5 ⟨s, rfl, hss, b5⟩
      have HI5 : Hid (Ix w.heap.size w5 w1.heap.size S L (.slice none 0 0) []) := HI.out.more (grown_of_below b5)
      have HB5 : Hid (Below w.heap.size w w5) := HB.out.trans (b5.mono HB.out.size)
      clear b5 hv'
      go_wp2_with fail
      by_cases hin : inL L s = true
      · refine (add_old HI5.out HL.out (by omega) hss hin).mono ?_
        rintro e w6 ⟨rfl, hix6, b6⟩
        have HI6 : Hid (Ix w.heap.size w6 w1.heap.size S L (.slice none 0 0) []) := hix6
        have HB6 : Hid (Below w.heap.size w w6) := HB5.out.trans b6
        clear hix6 b6 hin
        go_wp2
        go_roundw
        case rel => exact ⟨k + 1, L, S, by omega, by go_num, HI6.out, HL.out, by omega, HB6.out⟩
        case measure => simp [intOf]; omega
      · have hin' : inL L s = false := by simpa using hin
        refine (add_new HI5.out HL.out (by omega) hss hin').mono ?_
        rintro e w6 ⟨rfl, ⟨S', hix6⟩, b6⟩
        have HI6 : Hid (Ix w.heap.size w6 w1.heap.size S' (L ++ [s]) (.slice none 0 0) []) := hix6
        have HB6 : Hid (Below w.heap.size w w6) := HB5.out.trans b6
        clear hix6 b6 hin hin'
        go_wp2
        go_roundw
        case rel =>
          refine ⟨k + 1, L ++ [s], S', by omega, by go_num, HI6.out, fun t ht => ?_, by simp; omega, HB6.out⟩
          rcases List.mem_append.1 ht with h | h
          · exact HL.out t h
          · rw [List.mem_singleton.1 h]; exact hss
        case measure => simp [intOf]; omega
    · obtain rfl : k = len2 := by omega
      obtain ⟨M, d, hst⟩ := hix.st
      obtain ⟨aoS, cS, rfl, hnS, hcS, haoS⟩ := row_form hst.row
      unfold maxLen at hcS
      have c0 := hst.c0
      have HN := byName_any hix hL (by omega)
      clear hix hst
      go_wp2_with (go_at_call 9; refine HN.mono ?_; rintro e w5 ⟨bm, rfl, hbm, h5, m5, b5⟩)
      have HR : Rd w.heap.size w w5 (.slice aoS L.length cS) L bm := ⟨h5.row, m5, hbel.trans b5⟩
      have HL : Hid (∀ s ∈ L, s.size ≤ maxLen) := hL
      clear h5 m5 b5 hbel hL c0 HN
      go_loopw [10] (fun i wr => ∃ j : Nat, j ≤ L.length ∧ i = .int .i64 j ∧ Rd w.heap.size w wr (.slice aoS L.length cS) L bm) (fun i _ => L.length - (intOf i).toNat)
      case atStart => exact ⟨0, Nat.zero_le _, rfl, HR⟩
      case round =>
        obtain ⟨j, hj, rfl, hr⟩ := hrel
        clear HR
        by_cases hjl : j < L.length
        · obtain ⟨gS, rfl⟩ := haoS (by omega)
          clear haoS
          go_wp2
          go_loopw [11, 12] (fun l i wr => ∃ q : Nat, q ≤ L.length ∧ j + 1 ≤ q ∧ i = .int .i64 q ∧ l = .int .i64 (lastTo L j q) ∧ Rd w.heap.size w wr (.slice (some ⟨gS, 0, none⟩) L.length cS) L bm) (fun _ i _ => L.length - (intOf i).toNat)
          case atStart => exact ⟨j + 1, by omega, Nat.le_refl _, by go_num, by rw [lastTo_start L j (j + 1) (Nat.le_refl _)], hr⟩
          case round =>
            obtain ⟨q, hq, hjq, rfl, rfl, hr2⟩ := hrel
            clear hr
            obtain ⟨tj, htj⟩ : ∃ t, t = L.getD j ByteArray.empty := ⟨_, rfl⟩
            have kj := hr2.cellOf j hjl
            rw [← htj] at kj
            by_cases hql : q < L.length
            · obtain ⟨tq, htq⟩ : ∃ t, t = L.getD q ByteArray.empty := ⟨_, rfl⟩
              have kq := hr2.cellOf q hql
              rw [← htq] at kq
              have i1 : (j : Int) < (L.length : Int) := by omega
              have i2 : (q : Int) < (L.length : Int) := by omega
              have HR2 : Hid (Rd w.heap.size w wr (.slice (some ⟨gS, 0, none⟩) L.length cS) L bm) := hr2
              by_cases he : tq.data.toList = tj.data.toList
              · have he' : (tq.toList == tj.toList) = true := by rw [ByteArray.toList_eq, ByteArray.toList_eq, he]; simp
                have HE : Hid (lastTo L j (q + 1) = q) := lastTo_hit L j q (by omega) (by rw [← htq, ← htj]; exact WideShapes.bytes_inj he)
                clear he htj htq hr2
                go_wp2
                go_quiet (fail)
                go_wp2
                go_roundw
                case rel => exact ⟨q + 1, by omega, by omega, by go_num, by rw [HE.out], HR2.out.drewN _⟩
                case measure => simp [intOf]; omega
              · have he' : (tq.toList == tj.toList) = false := by rw [ByteArray.toList_eq, ByteArray.toList_eq]; simpa using he
                have HE : Hid (lastTo L j (q + 1) = lastTo L j q) := lastTo_miss L j q (by rw [← htq, ← htj]; exact fun e => he (by rw [e]))
                clear he htj htq hr2
                go_wp2
                go_quiet (fail)
                go_wp2
                go_roundw
                case rel => exact ⟨q + 1, by omega, by omega, by go_num, by rw [HE.out], HR2.out.drewN _⟩
                case measure => simp [intOf]; omega
            · obtain rfl : q = L.length := by omega
              have HR2 : Hid (Rd w.heap.size w wr (.slice (some ⟨gS, 0, none⟩) L.length cS) L bm) := hr2
              have m2 := hr2.2.1
              have hat0 : Hid (∀ z, (ix L).atKey (kl tj) z = num (lastTo L j L.length)) := fun z => by rw [htj]; exact at_ix L j hjl z
              have hhas : Maps.has (ix L) (kl tj) = true := by rw [has_ix]; exact inL_hit L tj j hjl (by rw [← htj])
              have hkey : keyOf Yba.prog 9 (.string tj) = some (kl tj) := keyOf_string_mk Yba.underlying9 (HL.out tj (by rw [htj]; simp [List.getD, hjl]))
              generalize lastTo L j L.length = T at *
              clear htj hr2
              go_wp2_with (at_lookup; refine wpList_lookup_own_ok_int _ rfl _ _ 30 rfl 9 3 .i64 law Yba.underlying30 Yba.underlying3 (zero3 _) bm _ _ rfl m2 _ _ rfl hkey ?_; intro c hat hwc; have hcT := num_is hat (hat0.out _); subst hcT)
              go_roundw
              case rel => exact ⟨j + 1, by omega, by go_num, HR2.out⟩
              case measure => simp [intOf]; omega
        · obtain rfl : j = L.length := by omega
          go_wp2
          go_ret
          exact ⟨rfl, hr.2.2⟩
end Go.Proofs.Ybulksyc
