/-
  THE WALK OF LawS0982CLists, a graph with a node or more.
-/
import Derived.Test.YbulkthuLaw
namespace Go.Proofs.Ybulkthu
open Go Go.RowKit

theorem Fr.cell {w w' : World} (h : Fr w w' []) {p : Addr} (hp : p.block < w.heap.size) : w'.cell? p = w.cell? p := World.cell?_of_block (w := w) (h.block p.block hp (by simp))

/-- A row while the law fills it: the first k places are laid. -/
def fillS (z : List Int) (n k : Nat) : Nat → Int := fun j => if j < k then (endOf z n j : Int) else 0
theorem fillS_step (z : List Int) (n k j : Nat) : upd (fillS z n k) k (endOf z n k : Int) j = fillS z n (k + 1) j := by
  unfold upd fillS
  by_cases h : j = k
  · subst h; rw [if_pos rfl, if_pos (by omega)]
  · rw [if_neg h]
    by_cases h1 : j < k
    · rw [if_pos h1, if_pos (by omega)]
    · rw [if_neg h1, if_neg (by omega)]

set_option maxRecDepth 100000 in
set_option maxHeartbeats 4000000 in
theorem law_core (a0 : Int) (n m : Nat) (a1 : Option Addr) (len1 cap1 : Nat) (z1 : List Int) (a2 : Option Addr) (len2 cap2 : Nat) (z2 : List Int) (w : World) (h0 : 0 ≤ a0) (h255 : a0 ≤ 255) (hn : a0 % 48 = (n : Int)) (hn0 : 0 < n)
    (w1 : IsRow .u16 w a1 len1 cap1 z1) (w2 : IsRow .u16 w a2 len2 cap2 z2) (hl1 : len1 ≤ 1024) (hl2 : len2 ≤ 1024) (hcase : (len2 < len1 ∧ m = len2) ∨ (len1 ≤ len2 ∧ m = len1)) :
    Calls Yba.prog 3 #[.int .u8 a0, .slice a1 len1 cap1, .slice a2 len2 cap2] w fun e w' => e = .returned (.bool true) ∧ Below w.heap.size w w' := by
  have hn48 : n < 48 := by omega
  have hne0 : ((n : Int) == 0) = false := by simp; omega
  have hm1 : m ≤ len1 := by omega
  have hm2 : m ≤ len2 := by omega
  have HW1 : Hid (IsRow .u16 w a1 len1 cap1 z1) := w1
  have HW2 : Hid (IsRow .u16 w a2 len2 cap2 z2) := w2
  obtain ⟨i0, hi, hz0, hz1, hz2⟩ := info_parts info21
  have d1 : decide ((1024 : Int) < (len1 : Int)) = false := by simp; omega
  have d2 : decide ((1024 : Int) < (len2 : Int)) = false := by simp; omega
  clear w1 w2
  rcases hcase with ⟨hc, rfl⟩ | ⟨hc, rfl⟩
  all_goals
    go_enter Yba.func3, Yba.ntmps3
    go_wp2_with (first | (at_make; refine wpList_make_full _ rfl (.tmp 42) (.tmp 42) 23 rfl w.heap.size 21 i0 (.int .i32 0) 1 Yba.underlying23 hi hz0 hz1 .i64 .i64 _ _ m rfl rfl rfl rfl (by rw [hz2]; omega) (by unfold maxLen; omega) (Nat.le_refl _) ?_; intro w1 r1 g1) | (at_make; refine wpList_make_full _ rfl (.tmp 44) (.tmp 44) 23 rfl w1.heap.size 21 i0 (.int .i32 0) 1 Yba.underlying23 hi hz0 hz1 .i64 .i64 _ _ m rfl rfl rfl rfl (by rw [hz2]; omega) (by unfold maxLen; omega) (Nat.le_refl _) ?_; intro w2 r2 g2))
    have BF0 := blk_made r1 rfl
    have lF := BF0.lt
    have BF := BF0.kept (Fr.of_grown (S := []) g2) (by simp)
    have BT := blk_made r2 rfl
    have F2 : Fr w w2 [] := (Fr.of_grown (S := []) g1).trans (Fr.of_grown (S := []) g2) (fun x h => by simp at h) (fun x h => by simp at h)
    have hFT : w.heap.size ≠ w1.heap.size := by omega
    clear r1 r2 g1 g2 BF0
    go_loopw [11] (fun i wr => ∃ k : Nat, k ≤ m ∧ i = .int .i64 k ∧ Blk wr w.heap.size m (fillS z1 n k) ∧ Blk wr w1.heap.size m (fillS z2 n k) ∧ Fr w wr []) (fun i _ => m - (intOf i).toNat)
    case atStart => exact ⟨0, Nat.zero_le _, rfl, BF.congr (fun j _ => by simp [fillS]), BT.congr (fun j _ => by simp [fillS]), F2⟩
    case round =>
      obtain ⟨k, hk, rfl, hbF, hbT, hfr⟩ := hrel
      clear BF BT F2
      by_cases hlt : k < m
      · obtain ⟨b1, off1, rfl, hb1, hc1, hv10, hv11⟩ := row_at HW1.out k (by omega)
        obtain ⟨b2, off2, rfl, hb2, hc2, hv20, hv21⟩ := row_at HW2.out k (by omega)
        have e1 := endOf_is z1 n k hv10
        have e2 := endOf_is z2 n k hv20
        have x1 := endOf_lt z1 n k hn0
        have x2 := endOf_lt z2 n k hn0
        have k1 : wr.cell? ⟨b1, off1 + k, none⟩ = some (.int .u16 (z1.getD k 0)) := (hfr.cell hb1).trans hc1
        have k2 : wr.cell? ⟨b2, off2 + k, none⟩ = some (.int .u16 (z2.getD k 0)) := (hfr.cell hb2).trans hc2
        have k2' : (wr.setCell ⟨w.heap.size, k, none⟩ (.int .i32 (endOf z1 n k))).cell? ⟨b2, off2 + k, none⟩ = some (.int .u16 (z2.getD k 0)) := (World.cell?_setCell_other _ ⟨w.heap.size, k, none⟩ ⟨b2, off2 + k, none⟩ _ (fun e => by have e3 := congrArg Addr.block e; simp only at e3; omega)).trans k2
        have cF := hbF.cell hlt
        have fF := hbF.free k
        have hbT' := hbT.other (a := ⟨w.heap.size, k, none⟩) (.int .i32 (endOf z1 n k)) (Ne.symm hFT)
        have cT := hbT'.cell hlt
        have fT := hbT'.free k
        have N1 : Hid (Blk ((wr.setCell ⟨w.heap.size, k, none⟩ (.int .i32 (endOf z1 n k))).setCell ⟨w1.heap.size, k, none⟩ (.int .i32 (endOf z2 n k))) w.heap.size m (fillS z1 n (k + 1))) := ((hbF.set k _).other _ hFT).congr (fun j _ => fillS_step z1 n k j)
        have N2 : Hid (Blk ((wr.setCell ⟨w.heap.size, k, none⟩ (.int .i32 (endOf z1 n k))).setCell ⟨w1.heap.size, k, none⟩ (.int .i32 (endOf z2 n k))) w1.heap.size m (fillS z2 n (k + 1))) := (hbT'.set k _).congr (fun j _ => fillS_step z2 n k j)
        have NF : Hid (Fr w ((wr.setCell ⟨w.heap.size, k, none⟩ (.int .i32 (endOf z1 n k))).setCell ⟨w1.heap.size, k, none⟩ (.int .i32 (endOf z2 n k))) []) := (hfr.setCell _ (fun h => absurd h (Nat.lt_irrefl _))).setCell _ (fun h => absurd h (Nat.not_lt.2 (Nat.le_of_lt lF)))
        generalize z1.getD k 0 = v1 at *
        generalize z2.getD k 0 = v2 at *
        generalize endOf z1 n k = u1 at *
        generalize endOf z2 n k = u2 at *
        generalize fillS z1 n k k = o1 at *
        generalize fillS z2 n k k = o2 at *
        clear hbF hbT hbT' hfr hc1 hc2 hb1 hb2
        go_wp2
        go_roundw
        case rel => exact ⟨k + 1, by omega, by go_num, N1.out, N2.out, NF.out⟩
        case measure => simp [intOf]; omega
      · obtain rfl : m = k := by omega
        have CA := newAdj_any (n := n) (f := endOf z1 n) (t := endOf z2 n) (hbF.congr (fun j hj => by simp [fillS, hj])) (hbT.congr (fun j hj => by simp [fillS, hj])) (by omega) (by omega) (fun i _ => endOf_lt z1 n i hn0) (fun i _ => endOf_lt z2 n i hn0)
        have bF2 : Blk wr w.heap.size m (fun j => (endOf z1 n j : Int)) := hbF.congr (fun j hj => by simp [fillS, hj])
        have bT2 : Blk wr w1.heap.size m (fun j => (endOf z2 n j : Int)) := hbT.congr (fun j hj => by simp [fillS, hj])
        go_wp2_with fail
        refine CA.mono ?_
        rintro e w4 ⟨sb1, ab1, sb2, ab2, rfl, q1, q3, q2, q4, f4⟩
        have HD : Wd w (w4.alloc (.cells #[.slice (some ⟨sb1, 0, none⟩) (n + 1) (n + 2), .slice (some ⟨ab1, 0, none⟩) m m, .slice (some ⟨sb2, 0, none⟩) (n + 1) (n + 2), .slice (some ⟨ab2, 0, none⟩) m m] 28)) w4.heap.size w.heap.size w1.heap.size sb1 ab1 sb2 ab2 n m (endOf z1 n) (endOf z2 n) :=
          ⟨(MapKept.heap_alloc w4 _).1, (bF2.kept f4 (by simp)).alloc _, (bT2.kept f4 (by simp)).alloc _, q1.alloc _, q3.alloc _, q2.alloc _, q4.alloc _, (hfr.trans f4 (fun x h => by simp at h) (fun x h => by simp at h)).alloc _⟩
        clear CA hbF hbT bF2 bT2 hfr q1 q2 q3 q4 f4
        go_wp2_with fail
        generalize endOf z1 n = f at *
        generalize endOf z2 n = t at *
        go_loopw [13] (fun i wr => ∃ q : Nat, q ≤ n ∧ i = .int .i64 q ∧ Wd w wr w4.heap.size w.heap.size w1.heap.size sb1 ab1 sb2 ab2 n m f t) (fun i _ => n - (intOf i).toNat)
        case atStart => exact ⟨0, Nat.zero_le _, rfl, HD⟩
        case round =>
          obtain ⟨q, hq, rfl, hr⟩ := hrel
          clear HD
          by_cases hlt : q < n
          · have c0 : wr.cell? ⟨w4.heap.size, 0, none⟩ = some (.slice (some ⟨sb1, 0, none⟩) (n + 1) (n + 2)) := by simp [World.cell?, hr.adj]
            have c1 : wr.cell? ⟨w4.heap.size, 1, none⟩ = some (.slice (some ⟨ab1, 0, none⟩) m m) := by simp [World.cell?, hr.adj]
            have C5 := list_any (ab := ab1) (m := m) q (ltc f q m) (ltc f (q + 1) m) hr.s1 hlt (by omega) (by omega) rfl rfl (ltc_mono f m q (q + 1) (by omega)) (ltc_le f (q + 1) m) (eqc f q m) (by rw [ltc_succ]; omega)
            go_wp2_with fail
            refine C5.mono ?_
            rintro e w6 ⟨ao1, cp1, rfl, h6, f6⟩
            have hr6 := hr.later f6
            have c2 : w6.cell? ⟨w4.heap.size, 2, none⟩ = some (.slice (some ⟨sb2, 0, none⟩) (n + 1) (n + 2)) := by simp [World.cell?, hr6.adj]
            have c3 : w6.cell? ⟨w4.heap.size, 3, none⟩ = some (.slice (some ⟨ab2, 0, none⟩) m m) := by simp [World.cell?, hr6.adj]
            have C6 := list_any (ab := ab2) (m := m) q (ltc t q m) (ltc t (q + 1) m) hr6.s2 hlt (by omega) (by omega) rfl rfl (ltc_mono t m q (q + 1) (by omega)) (ltc_le t (q + 1) m) (eqc t q m) (by rw [ltc_succ]; omega)
            clear hr c0 c1 C5 f6
            go_wp2_with fail
            refine C6.mono ?_
            rintro e w7 ⟨ao2, cp2, rfl, h7, f7⟩
            have hr7 := hr6.later f7
            clear hr6 c2 c3 C6 f7
            have lE1 := eqc_le f q m
            have lE2 := eqc_le t q m
            have H6 : Hid (0 < eqc f q m → ao1 = some ⟨ab1, ltc f q m, none⟩) := h6
            have H7 : Hid (0 < eqc t q m → ao2 = some ⟨ab2, ltc t q m, none⟩) := h7
            clear h6 h7
            go_wp2
            go_loopw [18, 19] (fun j i wr => ∃ k : Nat, k ≤ m ∧ i = .int .i64 k ∧ j = .int .i64 (eqc f q k) ∧ Wd w wr w4.heap.size w.heap.size w1.heap.size sb1 ab1 sb2 ab2 n m f t) (fun _ i _ => m - (intOf i).toNat)
            case atStart => exact ⟨0, Nat.zero_le _, rfl, rfl, hr7⟩
            case round =>
              obtain ⟨k, hk, rfl, rfl, hr2⟩ := hrel
              clear hr7
              by_cases hkm : k < m
              · have cK := hr2.rf.cell hkm
                by_cases hq : f k = q
                · have hJ := eqc_lt f k m hkm
                  rw [hq] at hJ
                  obtain rfl := H6.out (by omega)
                  have hpm := pos_lt f m k hkm
                  have cS := hr2.a1.cell hpm
                  rw [atS_at f _ m k m hkm (Nat.le_refl _)] at cS
                  have hpos : pos f m k = ltc f q m + eqc f q k := by unfold pos; rw [hq]
                  rw [hpos] at cS
                  have cV := hr2.rt.cell hkm
                  have tst : (((f k : Nat) : Int) == ((q : Nat) : Int)) = true := by rw [hq]; simp
                  have HE : Hid (eqc f q (k + 1) = eqc f q k + 1) := eqc_at f q k hq
                  have HR2 : Hid (Wd w wr w4.heap.size w.heap.size w1.heap.size sb1 ab1 sb2 ab2 n m f t) := hr2
                  have lE := eqc_le f q m
                  have lL := ltc_le f q m
                  have gd : decide ((eqc f q m : Int) ≤ (eqc f q k : Int)) = false := by simp; omega
                  have hjm : (eqc f q k : Int) < (eqc f q m : Int) := by omega
                  have hki : (k : Int) < (m : Int) := by omega
                  clear hr2 hq hpos hpm
                  generalize eqc f q k = J at *
                  generalize eqc f q m = C at *
                  generalize ltc f q m = A at *
                  generalize f k = x at *
                  generalize t k = y at *
                  go_wp2
                  go_quiet (fail)
                  go_wp2
                  go_roundw
                  case rel => exact ⟨k + 1, by omega, by go_num, by rw [HE.out]; go_num, HR2.out.drewN _⟩
                  case measure => simp [intOf]; omega
                · have tst : (((f k : Nat) : Int) == ((q : Nat) : Int)) = false := by simp; omega
                  have HE : Hid (eqc f q (k + 1) = eqc f q k) := eqc_miss f q k hq
                  have HR2 : Hid (Wd w wr w4.heap.size w.heap.size w1.heap.size sb1 ab1 sb2 ab2 n m f t) := hr2
                  clear hr2 hq
                  generalize f k = x at *
                  go_wp2
                  go_roundw
                  case rel => exact ⟨k + 1, by omega, by go_num, by rw [HE.out], HR2.out⟩
                  case measure => simp [intOf]; omega
              · obtain rfl : m = k := by omega
                have hr8 := hr2
                clear hr2
                go_wp2
                go_loopw [18, 20] (fun j i wr => ∃ k : Nat, k ≤ m ∧ i = .int .i64 k ∧ j = .int .i64 (eqc t q k) ∧ Wd w wr w4.heap.size w.heap.size w1.heap.size sb1 ab1 sb2 ab2 n m f t) (fun _ i _ => m - (intOf i).toNat)
                case atStart => exact ⟨0, Nat.zero_le _, rfl, rfl, hr8⟩
                case round =>
                  obtain ⟨k, hk, rfl, rfl, hr2⟩ := hrel
                  clear hr8
                  by_cases hkm : k < m
                  · have cK := hr2.rt.cell hkm
                    by_cases hq : t k = q
                    · have hJ := eqc_lt t k m hkm
                      rw [hq] at hJ
                      obtain rfl := H7.out (by omega)
                      have hpm := pos_lt t m k hkm
                      have cS := hr2.a2.cell hpm
                      rw [atS_at t _ m k m hkm (Nat.le_refl _)] at cS
                      have hpos : pos t m k = ltc t q m + eqc t q k := by unfold pos; rw [hq]
                      rw [hpos] at cS
                      have cV := hr2.rf.cell hkm
                      have tst : (((t k : Nat) : Int) == ((q : Nat) : Int)) = true := by rw [hq]; simp
                      have HE : Hid (eqc t q (k + 1) = eqc t q k + 1) := eqc_at t q k hq
                      have HR2 : Hid (Wd w wr w4.heap.size w.heap.size w1.heap.size sb1 ab1 sb2 ab2 n m f t) := hr2
                      have lE := eqc_le t q m
                      have lL := ltc_le t q m
                      have gd : decide ((eqc t q m : Int) ≤ (eqc t q k : Int)) = false := by simp; omega
                      have hjm : (eqc t q k : Int) < (eqc t q m : Int) := by omega
                      have hki : (k : Int) < (m : Int) := by omega
                      clear hr2 hq hpos hpm
                      generalize eqc t q k = J at *
                      generalize eqc t q m = C at *
                      generalize ltc t q m = A at *
                      generalize t k = x at *
                      generalize f k = y at *
                      go_wp2
                      go_quiet (fail)
                      go_wp2
                      go_roundw
                      case rel => exact ⟨k + 1, by omega, by go_num, by rw [HE.out]; go_num, HR2.out.drewN _⟩
                      case measure => simp [intOf]; omega
                    · have tst : (((t k : Nat) : Int) == ((q : Nat) : Int)) = false := by simp; omega
                      have HE : Hid (eqc t q (k + 1) = eqc t q k) := eqc_miss t q k hq
                      have HR2 : Hid (Wd w wr w4.heap.size w.heap.size w1.heap.size sb1 ab1 sb2 ab2 n m f t) := hr2
                      clear hr2 hq
                      generalize t k = x at *
                      go_wp2
                      go_roundw
                      case rel => exact ⟨k + 1, by omega, by go_num, by rw [HE.out], HR2.out⟩
                      case measure => simp [intOf]; omega
                  · obtain rfl : m = k := by omega
                    have HR9 : Hid (Wd w wr w4.heap.size w.heap.size w1.heap.size sb1 ab1 sb2 ab2 n m f t) := hr2
                    clear hr2
                    go_wp2
                    go_roundw
                    case rel => exact ⟨q + 1, by omega, by go_num, HR9.out⟩
                    case measure => simp [intOf]; omega
          · obtain rfl : n = q := by omega
            go_wp2
            go_ret
            exact ⟨rfl, hr.fr.below (Nat.le_refl _) (fun x h => by simp at h)⟩
end Go.Proofs.Ybulkthu
