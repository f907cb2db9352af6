/-
  THE WALK of FnSteadiestJoinsAtAnyCut.
-/
import Derived.Test.Qxb6629104aMirrorWalk
namespace Go.Proofs.Qxb6629104a
open Go.RowKit
set_option linter.unusedVariables false
set_option linter.unusedSimpArgs false

/-- Block g is a row of n floats that begins with out. -/
structure AB (w : World) (g n : Nat) (out : List Nat) : Prop where
  at_ : ∃ cur : Array Value, w.heap[g]? = some (.cells cur 24 (0, 0)) ∧ cur.size = n ∧ out.length ≤ n ∧ ∀ i, i < out.length → cur[i]? = some (.float .f64 (out.getD i 0))
  fits : ∀ x ∈ out, x < 18446744073709551616
theorem AB.lt {w : World} {g n : Nat} {out : List Nat} (h : AB w g n out) : g < w.heap.size := by
  obtain ⟨cur, hh, _⟩ := h.at_; exact (Array.getElem?_eq_some_iff.1 hh).1
theorem AB.room {w : World} {g n : Nat} {out : List Nat} (h : AB w g n out) (i : Nat) (hi : i < n) : (∃ u, w.cell? ⟨g, i, none⟩ = some u) ∧ w.frozen? ⟨g, i, none⟩ = false := by
  obtain ⟨cur, hh, hs, _, hc⟩ := h.at_
  refine ⟨?_, frozen_of_row w g i cur 24 hh⟩
  rw [cell_of_row w g i cur 24 (0, 0) hh]
  exact ⟨_, Array.getElem?_eq_getElem (by omega)⟩
theorem AB.row {w : World} {g n : Nat} {out : List Nat} (h : AB w g n out) (k : Nat) (hk : out.length = k) : FRow w (some ⟨g, 0, none⟩) k out := by
  refine ⟨hk, h.fits, fun _ => ⟨g, 0, rfl, h.lt, fun i hi => ?_⟩⟩
  obtain ⟨cur, hh, _, _, hc⟩ := h.at_
  rw [Nat.zero_add, cell_of_row w g i cur 24 (0, 0) hh, hc i (by omega)]
theorem AB.keep {w w' : World} {g n : Nat} {out : List Nat} (h : AB w g n out) (hb : Below w.heap.size w w') : AB w' g n out := by
  have hl := h.lt
  obtain ⟨⟨cur, hh, r⟩, hf⟩ := h
  exact ⟨⟨cur, (hb.block g hl).trans hh, r⟩, hf⟩
theorem AB.push {w : World} {g n : Nat} {out : List Nat} (h : AB w g n out) (s : Nat) (hs64 : s < 18446744073709551616) (hl : out.length < n) (L : Nat) (hL : L = out.length) : AB (w.setCell ⟨g, L, none⟩ (.float .f64 s)) g n (out ++ [s]) := by
  subst hL
  obtain ⟨⟨cur, hh, hs, hle, hc⟩, hf⟩ := h
  refine ⟨⟨cur.setIfInBounds out.length (.float .f64 s), heap_setCell_same w g _ cur 24 _ hh, by simpa using hs, by simp; omega, fun i hi => ?_⟩, fun x hx => ?_⟩
  · by_cases e : i = out.length
    · subst e
      have : out.length < cur.size := by omega
      simp [this, List.getD_eq_getElem?_getD]
    · have hi2 : i < out.length := by simp at hi; omega
      have e2 : ¬ out.length = i := fun h => e h.symm
      have h3 := hc i hi2
      simp [Array.getElem?_setIfInBounds, e2, h3, List.getD_eq_getElem?_getD, List.getElem?_append, hi2]
  · rcases List.mem_append.1 hx with h | h
    · exact hf x h
    · rw [List.mem_singleton.1 h]; exact hs64

section
variable {ops : Array Oper} {rest : List Oper} {o : Oper} {a : Act} {w : World} {Q : Exit → Act → World → Prop}
/-- 'make([]float64, 0, n)'. -/
theorem wpList_make0 (hgd : o.guard = none) (l c : Operand) (ho : o.op = .makeSlice 22 l c) (n : Nat) (hn : n ≤ 1048576) (C : Int) (hl : a.eval l = .int .i64 0) (hc : a.eval c = .int .i64 C) (hC : C = (n : Int))
    (h : ∀ w1, Hid (AB w1 w.heap.size n []) → Hid (Below w.heap.size w w1) → wpList Try.prog ops Q rest (a.put o.dst (.slice (some ⟨w.heap.size, 0, none⟩) 0 n)) w1) : wpList Try.prog ops Q (o :: rest) a w := by
  obtain ⟨i0, hi, hz0, hz1, hz2⟩ := info24_parts
  refine wpList_make_own w hgd l c 22 ho w.heap.size 24 i0 _ 1 Try.underlying22 hi hz0 hz1 .i64 .i64 _ n hl hc hC (by rw [hz2]; omega) (by unfold maxLen; omega) (Nat.le_refl _) ?_
  intro w1 hown hgrow
  refine h w1 (show AB _ _ _ _ from ⟨?_, fun x hx => by cases hx⟩) (show Below _ _ _ from (Below.refl _ _).grown hgrow (Nat.le_refl _) (fun _ h => by cases h))
  rcases hown.2 with ⟨h', _⟩ | ⟨g', cap', cur, h', _, hg, _, _, hs, _⟩
  · simp at h'
  · simp only [Value.slice.injEq, Option.some.injEq, Addr.mk.injEq, and_true, true_and] at h'
    obtain ⟨rfl, rfl⟩ := h'
    exact ⟨cur, hg, by omega, by simp, fun i hi => by simp at hi⟩
end

/-- where ab stands: its first j floats are those of zs. -/
structure SRel (xs ys zs : List Nat) (g1 g2 g3 : Nat) (w wr : World) (j : Nat) : Prop where
  le : j ≤ zs.length
  a_ : FB wr g1 xs
  b_ : FB wr g2 ys
  ab : AB wr g3 zs.length (zs.take j)
  below : Below w.heap.size w wr
theorem FB.alloc {w : World} {g : Nat} {xs : List Nat} (h : FB w g xs) (o : Obj) : FB (w.alloc o) g xs := h.keep ((Below.refl _ _).alloc (Nat.le_refl _) _)
theorem AB.alloc {w : World} {g n : Nat} {xs : List Nat} (h : AB w g n xs) (o : Obj) : AB (w.alloc o) g n xs := h.keep ((Below.refl _ _).alloc (Nat.le_refl _) _)
theorem SRel.step {xs ys zs : List Nat} {g1 g2 g3 : Nat} {w wr : World} {j : Nat} (h : SRel xs ys zs g1 g2 g3 w wr j) (hg1 : w.heap.size ≤ g1) (h12 : g1 < g2) (h23 : g2 < g3) (hj : j < zs.length) (v : Nat) (hv : zs.getD j 0 = v) (hv64 : v < 18446744073709551616) (o : Obj) :
    SRel xs ys zs g1 g2 g3 w ((wr.setCell ⟨g3, j, none⟩ (.float .f64 v)).alloc o) (j + 1) := by
  refine ⟨hj, (h.a_.other _ _ (by simp; omega)).alloc o, (h.b_.other _ _ (by simp; omega)).alloc o, ?_, ?_⟩
  · have e : zs[j] = v := by rw [← hv]; simp [List.getD_eq_getElem?_getD, hj]
    rw [List.take_succ_eq_append_getElem hj, e]
    exact (h.ab.push v hv64 (by simp; omega) j (by simp; omega)).alloc o
  · exact (h.below.setCell (by simp; omega) _).alloc (by simp [World.setCell]; exact h.below.size) o

theorem frow_alloc1 (w : World) (x : Nat) (hx : x < 18446744073709551616) : FRow (w.alloc (.cells #[.float .f64 x] 24 (0, 0))) (some ⟨w.heap.size, 0, none⟩) 1 [x] := by
  refine ⟨rfl, fun y hy => by rw [List.mem_singleton.1 hy]; exact hx, fun _ => ⟨_, 0, rfl, by simp, fun i hi => ?_⟩⟩
  obtain rfl : i = 0 := by omega
  rw [cell_of_row _ _ _ _ _ _ (heap_alloc_new w _)]
  rfl
theorem frow_alloc2 (w : World) (x y : Nat) (hx : x < 18446744073709551616) (hy : y < 18446744073709551616) : FRow (w.alloc (.cells #[.float .f64 x, .float .f64 y] 24 (0, 0))) (some ⟨w.heap.size, 0, none⟩) 2 [x, y] := by
  refine ⟨rfl, fun z hz => ?_, fun _ => ⟨_, 0, rfl, by simp, fun i hi => ?_⟩⟩
  · simp only [List.mem_cons, List.not_mem_nil, or_false] at hz
    rcases hz with rfl | rfl
    · exact hx
    · exact hy
  · rw [cell_of_row _ _ _ _ _ _ (heap_alloc_new w _)]
    obtain rfl | rfl : i = 0 ∨ i = 1 := by omega
    · rfl
    · rfl
theorem same_one {s x : Nat} (h : Least s [x]) : sameB s x = true := by
  unfold sameB
  cases hx : isN x
  · obtain ⟨h1, ⟨y, hy, e⟩, _⟩ := h.num (fun y hy => by rw [List.mem_singleton.1 hy]; exact hx)
    rw [List.mem_singleton.1 hy] at e
    rw [h1]
    simp [e]
  · rw [h.nan ⟨x, by simp, hx⟩]
    rfl
theorem one_mean {s m x : Nat} (hx : x < 18446744073709551616) (h : UpR [x] s m) : (isN x = true → isN m = true) ∧ (isN x = false → isN m = false ∧ key m = key x) := by
  obtain ⟨_, t, h1, h2⟩ := h
  have e : floatOfInt .f64 (([x].length : Nat) : Int) = one := float_one
  rw [e] at h2
  exact mean_one hx h1 h2

set_option maxRecDepth 100000 in
set_option maxHeartbeats 4000000 in
theorem joins_any (a a' : Option Addr) (len cap len' cap' : Nat) (xs ys : List Nat) (w : World) (hlen : len < 9223372036854775808) (hlen' : len' < 9223372036854775808) (hr : FRow w a len xs) (hr' : FRow w a' len' ys) :
    Calls Try.prog 3 #[.slice a len cap, .slice a' len' cap'] w fun e w' => e = .returned (.bool true) ∧ Below w.heap.size w w' := by
  have HR : Hid (FRow w a len xs) := hr
  have HR' : Hid (FRow w a' len' ys) := hr'
  clear hr hr'
  go_enter Try.func3, Try.ntmps3
  go_wp2_with fail
  refine (bytes2_any a a' len cap len' cap' w hlen hlen').mono ?_
  rintro e w' ⟨rfl, rfl⟩
  cases h1 : bytes2 len len'
  · go_wp2
    go_ret
    exact ⟨rfl, Below.refl _ _⟩
  by_cases h2 : len ≤ 65536
  · by_cases h2' : len' ≤ 65536
    · by_cases h3 : len = 0
      · subst h3
        go_wp2
        go_ret
        exact ⟨rfl, Below.refl _ _⟩
      · by_cases h3' : len' = 0
        · subst h3'
          go_wp2
          go_ret
          exact ⟨rfl, Below.refl _ _⟩
        · obtain ⟨b, off, rfl, hb, hc⟩ := HR.out.2.2 (by omega)
          obtain ⟨b', off', rfl, hb', hc'⟩ := HR'.out.2.2 (by omega)
          clear hc hc'
          have hz : ((len : Int) == 0) = false := by simp; omega
          have hz' : ((len' : Int) == 0) = false := by simp; omega
          go_wp2_with (first
            | (refine wpList_make24 rfl (.tmp 37) rfl len (by omega) rfl ?_; intro w1 F1 B1)
            | (refine wpList_copy24 rfl (.tmp 39) (.tmp 40) rfl len _ cap _ xs (by omega) rfl rfl F1.out (FRow.below HR.out B1.out) ?_; intro w2 F2 B2)
            | (refine wpList_make24 rfl (.tmp 46) rfl len' (by omega) rfl ?_; intro w3 F3 B3)
            | (refine wpList_copy24 rfl (.tmp 48) (.tmp 49) rfl len' _ cap' _ ys (by omega) rfl rfl F3.out (FRow.below HR'.out ((B1.out.trans B2.out).trans (B3.out.mono (Nat.le_of_lt F2.out.lt)))) ?_; intro w4 F4 B4)
            | (refine wpList_make0 rfl _ (.tmp 56) rfl (len + len') (by omega) _ rfl rfl (by go_num) ?_; intro w5 F5 B5))
          have HL : Hid (xs.length = len) := HR.out.1
          have HL' : Hid (ys.length = len') := HR'.out.1
          have hg12 : w'.heap.size < w2.heap.size := F2.out.lt
          have hg23 : w2.heap.size < w4.heap.size := F4.out.lt
          obtain ⟨zs, hzs⟩ : ∃ zs, zs = xs ++ ys := ⟨_, rfl⟩
          have HZ : Hid (zs = xs ++ ys) := hzs
          clear hzs
          have HZL : Hid (zs.length = len + len') := by rw [HZ.out, List.length_append, HL.out, HL'.out]; exact rfl
          have HI : Hid (SRel xs ys zs w'.heap.size w2.heap.size w4.heap.size w' w5 0) := by
            have b24 : Below w2.heap.size w2 w4 := B3.out.trans B4.out
            refine ⟨Nat.zero_le _, (F2.out.keep b24).keep B5.out, F4.out.keep B5.out, ?_, ?_⟩
            · rw [HZL.out]; exact F5.out
            · exact ((B1.out.trans B2.out).trans (b24.mono (by omega))).trans (B5.out.mono (by omega))
          clear F1 B1 F2 B2 F3 B3 F4 B4 F5 B5 HR HR'
          generalize hg2 : w2.heap.size = g2 at *
          generalize hg3 : w4.heap.size = g3 at *
          clear hg2 hg3
          go_loopw [7, 8] (fun v i wr => ∃ k : Nat, k ≤ len ∧ i = .int .i64 k ∧ v = .slice (some ⟨g3, 0, none⟩) k (len + len') ∧ SRel xs ys zs w'.heap.size g2 g3 w' wr k) (fun _ i _ => len - (intOf i).toNat)
          case atStart => exact ⟨0, Nat.zero_le _, rfl, rfl, HI.out⟩
          case round =>
            clear HI
            obtain ⟨k, hk, rfl, rfl, hrel⟩ := hrel
            have HN : Hid (SRel xs ys zs w'.heap.size g2 g3 w' wr k) := hrel
            by_cases hlt : k < len
            · have hkx : k < xs.length := by rw [HL.out]; exact hlt
              have c1 := hrel.a_.cell k hkx
              obtain ⟨⟨u, hu⟩, hfz⟩ := hrel.ab.room k (by rw [HZL.out]; omega)
              have hx : xs.getD k 0 < 18446744073709551616 := hrel.a_.fits _ (getD_mem hkx)
              have HE : Hid (zs.getD k 0 = xs.getD k 0) := by
                rw [HZ.out]
                exact (by simp [List.getD_eq_getElem?_getD, List.getElem?_append, hkx] : (xs ++ ys).getD k 0 = xs.getD k 0)
              have hl1 := hrel.a_.lt
              have hl3 := hrel.ab.lt
              generalize xs.getD k 0 = x at c1 hx HE
              clear hrel hkx
              go_wp2
              go_roundw
              case rel =>
                exact ⟨k + 1, by omega, by go_num, by go_num, HN.out.step (Nat.le_refl _) hg12 hg23 (by rw [HZL.out]; omega) x HE.out hx _⟩
              case measure => simp [intOf]; omega
            · have hkl : k = len := by omega
              subst hkl
              clear hrel
              have hge : ¬ (k : Int) < k := by omega
              go_wp2
              go_loopw [7, 9] (fun v i wr => ∃ j : Nat, j ≤ len' ∧ i = .int .i64 j ∧ v = .slice (some ⟨g3, 0, none⟩) (k + j) (k + len') ∧ SRel xs ys zs w'.heap.size g2 g3 w' wr (k + j)) (fun _ i _ => len' - (intOf i).toNat)
              case atStart => exact ⟨0, Nat.zero_le _, rfl, rfl, HN.out⟩
              case round =>
                clear HN
                obtain ⟨j, hj, rfl, rfl, hrel⟩ := hrel
                have HN : Hid (SRel xs ys zs w'.heap.size g2 g3 w' wr (k + j)) := hrel
                by_cases hlt2 : j < len'
                · have hjy : j < ys.length := by rw [HL'.out]; exact hlt2
                  have c1 := hrel.b_.cell j hjy
                  obtain ⟨⟨u, hu⟩, hfz⟩ := hrel.ab.room (k + j) (by rw [HZL.out]; omega)
                  have hx : ys.getD j 0 < 18446744073709551616 := hrel.b_.fits _ (getD_mem hjy)
                  have HE : Hid (zs.getD (k + j) 0 = ys.getD j 0) := by
                    rw [HZ.out, ← HL.out]
                    have hn : ¬ xs.length + j < xs.length := by omega
                    exact (by simp [List.getD_eq_getElem?_getD, List.getElem?_append, hn] : (xs ++ ys).getD (xs.length + j) 0 = ys.getD j 0)
                  have hl1 := hrel.b_.lt
                  have hl3 := hrel.ab.lt
                  generalize ys.getD j 0 = x at c1 hx HE
                  clear hrel hjy
                  go_wp2
                  go_roundw
                  case rel =>
                    exact ⟨j + 1, by omega, by go_num, by go_num, HN.out.step (Nat.le_refl _) hg12 hg23 (by rw [HZL.out]; omega) x HE.out hx _⟩
                  case measure => simp [intOf]; omega
                · have hjl : j = len' := by omega
                  subst hjl
                  clear hrel
                  have hge2 : ¬ (j : Int) < j := by omega
                  have FA : Hid (FB wr w'.heap.size xs) := HN.out.a_
                  have FY : Hid (FB wr g2 ys) := HN.out.b_
                  have FZ : Hid (AB wr g3 (k + j) zs) := by
                    have h := HN.out.ab
                    rw [List.take_of_length_le (by rw [HZL.out]; exact Nat.le_refl _), HZL.out] at h
                    exact h
                  have B0 : Hid (Below w'.heap.size w' wr) := HN.out.below
                  have c1 := FA.out.cell 0 (by rw [HL.out]; omega)
                  have hx0 : xs.getD 0 0 < 18446744073709551616 := FA.out.fits _ (getD_mem (by rw [HL.out]; omega))
                  generalize xs.getD 0 0 = x0 at c1 hx0
                  clear HN
                  go_wp2_with fail
                  refine (upOf_any _ k k xs wr (FA.out.row k HL.out) (by omega) (by omega)).mono ?_
                  rintro e w6 ⟨sa, ma, rfl, U, b6⟩
                  have UA : Hid (UpR xs sa ma) := U
                  have B6 : Hid (Below wr.heap.size wr w6) := b6
                  clear U b6
                  go_wp2_with (first
                    | (refine wpList_store26 rfl (.tmp 11) (.tmp 88) rfl w6.heap.size sa ma 0 0 (heap_alloc_new w6 _) rfl rfl ?_; intro w7 hs hb ho hB
                       have PA : Hid (PB w7 w6.heap.size sa ma) := ⟨hb⟩
                       have B7 : Hid (Below wr.heap.size wr w7) := (B6.out.alloc B6.out.size _).trans (hB _ B6.out.size)
                       clear hs hb ho hB)
                    | fail)
                  have FY7 : Hid (FB w7 g2 ys) := FY.out.keep B7.out
                  have FZ7 : Hid (AB w7 g3 (k + j) zs) := FZ.out.keep B7.out
                  have C7 : Hid (Below w'.heap.size w' w7) := B0.out.trans (B7.out.mono B0.out.size)
                  clear FA FY FZ B0 B6 B7 c1
                  generalize w6.heap.size = ga at *
                  refine (upOf_any _ j j ys w7 (FY7.out.row j HL'.out) (by omega) (by omega)).mono ?_
                  rintro e w8 ⟨sb, mb, rfl, U, b8⟩
                  have UB : Hid (UpR ys sb mb) := U
                  have B8 : Hid (Below w7.heap.size w7 w8) := b8
                  clear U b8
                  go_wp2_with (first
                    | (refine wpList_store26 rfl (.tmp 12) (.tmp 90) rfl w8.heap.size sb mb 0 0 (heap_alloc_new w8 _) rfl rfl ?_; intro w9 hs hb ho hB
                       have PY : Hid (PB w9 w8.heap.size sb mb) := ⟨hb⟩
                       have B9 : Hid (Below w7.heap.size w7 w9) := (B8.out.alloc B8.out.size _).trans (hB _ B8.out.size)
                       clear hs hb ho hB)
                    | fail)
                  have PA9 : Hid (PB w9 ga sa ma) := PA.out.keep B9.out
                  have FZ9 : Hid (AB w9 g3 (k + j) zs) := FZ7.out.keep B9.out
                  have C9 : Hid (Below w'.heap.size w' w9) := C7.out.trans (B9.out.mono C7.out.size)
                  clear PA FY7 FZ7 C7 B8 B9
                  generalize w8.heap.size = gb at *
                  refine (upOf_any _ (k + j) (k + j) zs w9 (FZ9.out.row (k + j) HZL.out) (by omega) (by omega)).mono ?_
                  rintro e w10 ⟨sc, mc, rfl, U, b10⟩
                  have UC : Hid (UpR zs sc mc) := U
                  have B10 : Hid (Below w9.heap.size w9 w10) := b10
                  clear U b10
                  go_wp2_with (first
                    | (refine wpList_store26 rfl (.tmp 13) (.tmp 92) rfl w10.heap.size sc mc 0 0 (heap_alloc_new w10 _) rfl rfl ?_; intro w11 hs hb ho hB
                       have PC : Hid (PB w11 w10.heap.size sc mc) := ⟨hb⟩
                       have B11 : Hid (Below w9.heap.size w9 w11) := (B10.out.alloc B10.out.size _).trans (hB _ B10.out.size)
                       clear hs hb ho hB)
                    | fail)
                  have PA11 : Hid (PB w11 ga sa ma) := PA9.out.keep B11.out
                  have PB11 : Hid (PB w11 gb sb mb) := PY.out.keep B11.out
                  have FZ11 : Hid (AB w11 g3 (k + j) zs) := FZ9.out.keep B11.out
                  have C11 : Hid (Below w'.heap.size w' w11) := C9.out.trans (B11.out.mono C9.out.size)
                  clear PA9 PY FZ9 C9 B10 B11
                  generalize w10.heap.size = gc at *
                  refine (upOf_any _ 1 1 [x0] _ (frow_alloc1 w11 x0 hx0) (by omega) (by omega)).mono ?_
                  rintro e w12 ⟨so, mo, rfl, U, b12⟩
                  have UO : Hid (UpR [x0] so mo) := U
                  have B12 : Hid (Below w11.heap.size w11 w12) := ((Below.refl _ _).alloc (Nat.le_refl _) _).trans (b12.mono (by simp))
                  clear U b12
                  go_wp2_with (first
                    | (refine wpList_store26 rfl (.tmp 14) (.tmp 95) rfl w12.heap.size so mo 0 0 (heap_alloc_new w12 _) rfl rfl ?_; intro w13 hs hb ho hB
                       have PO : Hid (PB w13 w12.heap.size so mo) := ⟨hb⟩
                       have B13 : Hid (Below w11.heap.size w11 w13) := (B12.out.alloc B12.out.size _).trans (hB _ B12.out.size)
                       have ca := (PA11.out.keep B13.out).c0
                       have cb := (PB11.out.keep B13.out).c0
                       have cc := (PC.out.keep B13.out).c0
                       have lc := (PC.out.keep B13.out).lt
                       have co := PO.out.c0
                       have cm := PO.out.c1
                       have lo := PO.out.lt
                       clear hs hb ho hB)
                    | fail)
                  have B14 : Hid (Below w11.heap.size w11 (w13.alloc (.cells #[.float .f64 sa, .float .f64 sb] 24 (0, 0)))) := B13.out.alloc B13.out.size _
                  have FP : Hid (FRow (w13.alloc (.cells #[.float .f64 sa, .float .f64 sb] 24 (0, 0))) (some ⟨w13.heap.size, 0, none⟩) 2 [sa, sb]) := frow_alloc2 w13 sa sb UA.out.1.fits UB.out.1.fits
                  have FZ14 : Hid (AB (w13.alloc (.cells #[.float .f64 sa, .float .f64 sb] 24 (0, 0))) g3 (k + j) zs) := FZ11.out.keep B14.out
                  have PC14 : Hid (PB (w13.alloc (.cells #[.float .f64 sa, .float .f64 sb] 24 (0, 0))) gc sc mc) := PC.out.keep B14.out
                  have PO14 : Hid (PB (w13.alloc (.cells #[.float .f64 sa, .float .f64 sb] 24 (0, 0))) w12.heap.size so mo) := PO.out.keep ((Below.refl _ _).alloc (Nat.le_refl _) _)
                  have C14 : Hid (Below w'.heap.size w' (w13.alloc (.cells #[.float .f64 sa, .float .f64 sb] 24 (0, 0)))) := C11.out.trans (B14.out.mono C11.out.size)
                  clear PA11 PB11 FZ11 C11 PC PO B12 B13 B14 ca cb cc lc co cm lo
                  generalize w13.alloc (.cells #[.float .f64 sa, .float .f64 sb] 24 (0, 0)) = w14 at *
                  generalize w12.heap.size = go at *
                  generalize w13.heap.size = gp at *
                  refine (least_any sc _ (k + j) (k + j) zs w14 (FZ14.out.row (k + j) HZL.out) (by omega) UC.out.1).mono ?_
                  rintro e w15 ⟨rfl, hw⟩
                  have FP15 : Hid (FRow w15 (some ⟨gp, 0, none⟩) 2 [sa, sb]) := by obtain ⟨n, rfl⟩ := hw; exact FP.out
                  have PC15 : Hid (PB w15 gc sc mc) := by obtain ⟨n, rfl⟩ := hw; exact ⟨PC14.out.at_⟩
                  have PO15 : Hid (PB w15 go so mo) := by obtain ⟨n, rfl⟩ := hw; exact ⟨PO14.out.at_⟩
                  have C15 : Hid (Below w'.heap.size w' w15) := by obtain ⟨n, rfl⟩ := hw; exact below_drewN C14.out n
                  clear hw FP PC14 PO14 C14 FZ14
                  have cc := PC15.out.c0
                  go_wp2_with fail
                  refine (least_any sc _ 2 2 [sa, sb] w15 FP15.out (by omega) (least_join (by rw [← HZ.out]; exact UC.out.1) UA.out.1 UB.out.1)).mono ?_
                  rintro e w16 ⟨rfl, hw⟩
                  have PO16 : Hid (PB w16 go so mo) := by obtain ⟨n, rfl⟩ := hw; exact ⟨PO15.out.at_⟩
                  have C16 : Hid (Below w'.heap.size w' w16) := by obtain ⟨n, rfl⟩ := hw; exact below_drewN C15.out n
                  clear hw cc FP15 PC15 PO15 C15
                  have co := PO16.out.c0
                  have cm := PO16.out.c1
                  go_wp2_with fail
                  refine (same_any so x0 UO.out.1.fits hx0 w16).mono ?_
                  rintro e w17 ⟨rfl, rfl⟩
                  rw [same_one UO.out.1]
                  obtain ⟨om1, om2⟩ := one_mean hx0 UO.out
                  have n1 := self_neq x0
                  cases hn : isN x0
                  · obtain ⟨q1, q2⟩ := om2 hn
                    have n3 := c_eql mo x0 q1 hn
                    rw [decide_eq_true q2] at n3
                    rw [hn] at n1
                    clear om1 om2 q1 q2 hn
                    go_wp2
                    go_ret
                    exact ⟨rfl, C16.out⟩
                  · have n2 := self_neq mo
                    rw [om1 hn] at n2
                    rw [hn] at n1
                    clear om1 om2 hn
                    go_wp2
                    go_ret
                    exact ⟨rfl, C16.out⟩
    · have h2'' : 65536 < len' := by omega
      go_wp2
      go_ret
      exact ⟨rfl, Below.refl _ _⟩
  · have h2' : 65536 < len := by omega
    go_wp2
    go_ret
    exact ⟨rfl, Below.refl _ _⟩
end Go.Proofs.Qxb6629104a
