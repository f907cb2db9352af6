/-
  THE WALK of FnNegatedRatesMirror.
-/
import Derived.Test.Qxb6629104aBlocks
import Derived.Test.Qxb6629104aInts
namespace Go.Proofs.Qxb6629104a
open Go.RowKit
set_option linter.unusedVariables false
set_option linter.unusedSimpArgs false

/-- the row of negatives, filled up to k. -/
def mirTo (xs : List Nat) (n k : Nat) : List Nat := (xs.take k).map ng ++ List.replicate (n - k) 0
theorem mirTo_zero (xs : List Nat) (n : Nat) : mirTo xs n 0 = List.replicate n 0 := by simp [mirTo]
theorem mirTo_length (xs : List Nat) (n k : Nat) (h : xs.length = n) (hk : k ≤ n) : (mirTo xs n k).length = n := by simp [mirTo, h]; omega
theorem mirTo_end (xs : List Nat) (n : Nat) (h : xs.length = n) : mirTo xs n n = xs.map ng := by
  simp [mirTo, List.take_of_length_le (Nat.le_of_eq h)]
theorem mirTo_set (xs : List Nat) (n k : Nat) (h : xs.length = n) (hk : k < n) : (mirTo xs n k).set k (ng (xs.getD k 0)) = mirTo xs n (k + 1) := by
  have e : xs.getD k 0 = xs[k] := by simp [List.getD_eq_getElem?_getD, h, hk]
  have hr : List.replicate (n - k) 0 = 0 :: List.replicate (n - (k + 1)) 0 := by
    rw [← List.replicate_succ]; congr 1; omega
  unfold mirTo
  rw [List.take_succ_eq_append_getElem (by omega), List.set_append_right _ _ (by simp; omega), hr, e]
  simp only [List.length_map, List.length_take, h, Nat.min_eq_left (Nat.le_of_lt hk), Nat.sub_self, List.set_cons_zero, List.map_append, List.map_cons, List.map_nil, List.append_assoc, List.cons_append, List.nil_append]

theorem FRow.below {W w : World} {a : Option Addr} {len : Nat} {xs : List Nat} (h : FRow W a len xs) (hb : Below W.heap.size W w) : FRow w a len xs := by
  refine ⟨h.1, h.2.1, fun hp => ?_⟩
  obtain ⟨b, off, rfl, hlt, hc⟩ := h.2.2 hp
  exact ⟨b, off, rfl, Nat.lt_of_lt_of_le hlt hb.size, fun i hi => (hb.cell (by exact hlt)).trans (hc i hi)⟩

/-- Block g is a record of two floats. -/
structure PB (w : World) (g s m : Nat) : Prop where
  at_ : w.heap[g]? = some (.cells #[.float .f64 s, .float .f64 m] 26 (0, 0))
theorem PB.lt {w : World} {g s m : Nat} (h : PB w g s m) : g < w.heap.size := (Array.getElem?_eq_some_iff.1 h.at_).1
theorem PB.c0 {w : World} {g s m : Nat} (h : PB w g s m) : w.cell? ⟨g, 0, none⟩ = some (.float .f64 s) := cell_of_row w _ 0 _ _ _ h.at_
theorem PB.c1 {w : World} {g s m : Nat} (h : PB w g s m) : w.cell? ⟨g, 1, none⟩ = some (.float .f64 m) := cell_of_row w _ 1 _ _ _ h.at_
theorem PB.keep {w w' : World} {g s m : Nat} (h : PB w g s m) (hb : Below w.heap.size w w') : PB w' g s m := ⟨(hb.block g h.lt).trans h.at_⟩

structure MRel (xs : List Nat) (n g1 g2 : Nat) (w wr : World) (k : Nat) : Prop where
  le : k ≤ n
  src : FB wr g1 xs
  dst : FB wr g2 (mirTo xs n k)
  below : Below w.heap.size w wr

set_option maxRecDepth 100000 in
set_option maxHeartbeats 4000000 in
theorem mirror_any (a : Option Addr) (len cap : Nat) (xs : List Nat) (w : World) (hlen : len < 9223372036854775808) (hr : FRow w a len xs) :
    Calls Try.prog 4 #[.slice a len cap] w fun e w' => e = .returned (.bool true) ∧ Below w.heap.size w w' := by
  have HR : Hid (FRow w a len xs) := hr
  clear hr
  go_enter Try.func4, Try.ntmps4
  go_wp2_with fail
  refine (bytes1_any a len cap w hlen).mono ?_
  rintro e w' ⟨rfl, rfl⟩
  by_cases h1 : len ≤ 1048576
  · rw [decide_eq_true h1]
    by_cases h2 : len ≤ 65536
    · by_cases h3 : len = 0
      · subst h3
        go_wp2
        go_ret
        exact ⟨rfl, Below.refl _ _⟩
      · obtain ⟨b, off, rfl, hb, hc⟩ := HR.out.2.2 (by omega)
        clear hc
        go_wp2_with (first
          | (refine wpList_make24 rfl (.tmp 20) rfl len (by omega) rfl ?_; intro w1 F1 B1)
          | (refine wpList_copy24 rfl (.tmp 22) (.tmp 23) rfl len _ cap _ xs (by omega) rfl rfl F1.out (FRow.below HR.out B1.out) ?_; intro w2 F2 B2)
          | (refine wpList_make24 rfl (.tmp 27) rfl len (by omega) rfl ?_; intro w3 F3 B3))
        have hg12 : w'.heap.size < w2.heap.size := F2.out.lt
        have HI : Hid (MRel xs len w'.heap.size w2.heap.size w' w3 0) := by
          refine ⟨Nat.zero_le _, F2.out.keep B3.out, by rw [mirTo_zero]; exact F3.out, ?_⟩
          exact (B1.out.trans B2.out).trans (B3.out.mono (by omega))
        have HL : Hid (xs.length = len) := HR.out.1
        clear F1 B1 F2 B2 F3 B3 HR
        generalize hg2 : w2.heap.size = g2 at *
        clear hg2
        go_loopw [5] (fun i wr => ∃ k : Nat, i = .int .i64 k ∧ MRel xs len w'.heap.size g2 w' wr k) (fun i _ => len - (intOf i).toNat)
        case atStart => exact ⟨0, rfl, HI.out⟩
        case round =>
          clear HI
          obtain ⟨k, rfl, hrel⟩ := hrel
          have HN : Hid (MRel xs len w'.heap.size g2 w' wr k) := hrel
          have hk := hrel.le
          by_cases hlt : k < len
          · have c1 := hrel.src.cell k (by rw [HL.out]; exact hlt)
            have c2 := hrel.dst.cell k (by rw [mirTo_length xs len k HL.out hk]; exact hlt)
            have f2 := hrel.dst.free k
            have hx : xs.getD k 0 < 18446744073709551616 := hrel.src.fits _ (getD_mem (by rw [HL.out]; exact hlt))
            have HS : Hid ((mirTo xs len k).set k (ng (xs.getD k 0)) = mirTo xs len (k + 1)) := mirTo_set xs len k HL.out hlt
            generalize (mirTo xs len k).getD k 0 = z at c2
            generalize xs.getD k 0 = x at c1 hx HS
            clear hrel
            go_wp2
            go_roundw
            case rel =>
              refine ⟨k + 1, by go_num, by omega, HN.out.src.other _ _ (by simp; omega), ?_, Below.setCell HN.out.below (by simp; omega) _⟩
              have := HN.out.dst.set k (ng x) (ng_fits x hx)
              rw [HS.out] at this
              exact this
            case measure => simp [intOf]; omega
          · have hkl : k = len := by omega
            subst hkl
            clear hrel
            have hge : ¬ (k : Int) < k := by omega
            have F1 : Hid (FB wr w'.heap.size xs) := HN.out.src
            have F2 : Hid (FB wr g2 (xs.map ng)) := by rw [← mirTo_end xs k HL.out]; exact HN.out.dst
            have B0 : Hid (Below w'.heap.size w' wr) := HN.out.below
            clear HN
            go_wp2_with fail
            refine (upOf_any _ k k xs wr (F1.out.row k HL.out) (by omega) (by omega)).mono ?_
            rintro e w4 ⟨s, m, rfl, U4, b4⟩
            have hU4 : Hid (UpR xs s m) := U4
            have B4 : Hid (Below wr.heap.size wr w4) := b4
            clear U4 b4
            go_wp2_with (first
              | (refine wpList_store26 rfl (.tmp 6) (.tmp 44) rfl w4.heap.size s m 0 0 (heap_alloc_new w4 _) rfl rfl ?_; intro w5 hs5 hb5 ho5 hB5
                 have P5 : Hid (PB w5 w4.heap.size s m) := ⟨hb5⟩
                 have B5 : Hid (Below wr.heap.size wr w5) := (B4.out.alloc B4.out.size _).trans (hB5 _ B4.out.size)
                 clear hs5 hb5 ho5 hB5)
              | fail)
            have G1 : Hid (FB w5 w'.heap.size xs) := F1.out.keep B5.out
            have G2 : Hid (FB w5 g2 (xs.map ng)) := F2.out.keep B5.out
            have C0 : Hid (Below w'.heap.size w' w5) := B0.out.trans (B5.out.mono B0.out.size)
            clear F1 F2 B0 B4 B5
            generalize w4.heap.size = g3 at *
            refine (upOf_any _ k k (xs.map ng) w5 (G2.out.row k (by rw [List.length_map]; exact HL.out)) (by omega) (by omega)).mono ?_
            rintro e w6 ⟨s', m', rfl, U6, b6⟩
            have hU6 : Hid (UpR (xs.map ng) s' m') := U6
            have B6 : Hid (Below w5.heap.size w5 w6) := b6
            clear U6 b6
            go_wp2_with (first
              | (refine wpList_store26 rfl (.tmp 7) (.tmp 46) rfl w6.heap.size s' m' 0 0 (heap_alloc_new w6 _) rfl rfl ?_; intro w7 hs7 hb7 ho7 hB7
                 have P7 : Hid (PB w7 w6.heap.size s' m') := ⟨hb7⟩
                 have B7 : Hid (Below w5.heap.size w5 w7) := (B6.out.alloc B6.out.size _).trans (hB7 _ B6.out.size)
                 have c30 := (P5.out.keep B7.out).c0
                 have c31 := (P5.out.keep B7.out).c1
                 have c40 := P7.out.c0
                 have c41 := P7.out.c1
                 clear hs7 hb7 ho7 hB7)
              | fail)
            have FR : Hid (FRow w7 (some ⟨w'.heap.size, 0, none⟩) k xs) := (G1.out.keep B7.out).row k HL.out
            have D0 : Hid (Below w'.heap.size w' w7) := C0.out.trans (B7.out.mono C0.out.size)
            have HF : Hid (∀ x ∈ xs, x < 18446744073709551616) := G1.out.fits
            clear G1 G2 C0 P5 P7 B6 B7
            generalize w6.heap.size = g4 at *
            refine (least_any s _ k k xs w7 FR.out (by omega) hU4.out.1).mono ?_
            rintro e w8 ⟨rfl, hw8⟩
            have HW8 : Hid (∃ n, w8 = w7.drewN n) := hw8
            have c30' : w8.cell? ⟨g3, 0, none⟩ = some (.float .f64 s) := by obtain ⟨n, rfl⟩ := hw8; exact c30
            have c31' : w8.cell? ⟨g3, 1, none⟩ = some (.float .f64 m) := by obtain ⟨n, rfl⟩ := hw8; exact c31
            have c40' : w8.cell? ⟨g4, 0, none⟩ = some (.float .f64 s') := by obtain ⟨n, rfl⟩ := hw8; exact c40
            have c41' : w8.cell? ⟨g4, 1, none⟩ = some (.float .f64 m') := by obtain ⟨n, rfl⟩ := hw8; exact c41
            have FR8 : Hid (FRow w8 (some ⟨w'.heap.size, 0, none⟩) k xs) := by obtain ⟨n, rfl⟩ := hw8; exact FR.out
            have D8 : Hid (Below w'.heap.size w' w8) := by obtain ⟨n, rfl⟩ := hw8; exact below_drewN D0.out n
            clear hw8 c30 c31 c40 c41 FR D0
            go_wp2_with fail
            refine (greatest_any (ng s') _ k k xs w8 FR8.out (by omega) (least_mirror HF.out hU6.out.1)).mono ?_
            rintro e w9 ⟨rfl, hw9⟩
            have c30 : w9.cell? ⟨g3, 0, none⟩ = some (.float .f64 s) := by obtain ⟨n, rfl⟩ := hw9; exact c30'
            have c31 : w9.cell? ⟨g3, 1, none⟩ = some (.float .f64 m) := by obtain ⟨n, rfl⟩ := hw9; exact c31'
            have c40 : w9.cell? ⟨g4, 0, none⟩ = some (.float .f64 s') := by obtain ⟨n, rfl⟩ := hw9; exact c40'
            have c41 : w9.cell? ⟨g4, 1, none⟩ = some (.float .f64 m') := by obtain ⟨n, rfl⟩ := hw9; exact c41'
            have D9 : Hid (Below w'.heap.size w' w9) := by obtain ⟨n, rfl⟩ := hw9; exact below_drewN D8.out n
            clear hw9 c30' c31' c40' c41' FR8 D8
            have hm64 : m < 18446744073709551616 := by obtain ⟨_, t, _, hd⟩ := hU4.out; exact hd.1
            have n1 := self_neq m
            have n2 := self_neq m'
            rcases mir_test hm64 (means_mir HF.out (by rw [HL.out]; omega) (by rw [HL.out]; omega) hU4.out hU6.out) with ⟨q1, q2⟩ | ⟨q1, q2, q3⟩
            · rw [q1] at n1
              rw [q2] at n2
              clear q1 q2
              go_wp2
              go_ret
              exact ⟨rfl, D9.out⟩
            · have n3 := c_eql m' (ng m) q2 (by rw [ng_nan]; exact q1)
              rw [decide_eq_true q3] at n3
              rw [q1] at n1
              rw [q2] at n2
              clear q1 q2 q3
              go_wp2
              go_ret
              exact ⟨rfl, D9.out⟩
    · have h2' : 65536 < len := by omega
      go_wp2
      go_ret
      exact ⟨rfl, Below.refl _ _⟩
  · rw [decide_eq_false h1]
    go_wp2
    go_ret
    exact ⟨rfl, Below.refl _ _⟩
end Go.Proofs.Qxb6629104a
