/-
  FnNamesSplitsAtEvenPairRun: the walk.
-/
import Derived.Test.Qxb6629080aBytes2
namespace Go.Proofs.Qxb6629080a
open Go.RowKit
set_option linter.unusedVariables false
set_option linter.unusedSimpArgs false

/-- A row of structs that is being filled: block G holds len structs, those below k are the first of rs; all that lay below G is as in w. -/
structure Fill (w wr : World) (G len : Nat) (rs : List Par) (k : Nat) : Prop where
  owns : ∃ xs, wr.ownsRow G 37 6 (.slice (some ⟨G, 0, none⟩) len len) len xs ∧ ∀ i, i < k → InList xs (i * 6) (rs.getD i blank)
  below : Below G w wr

theorem Fill.room {w wr : World} {G len k : Nat} {rs : List Par} (h : Fill w wr G len rs k) (o : Nat) (ho : o < len) : (∀ j, j < 6 → ∃ u, wr.cell? ⟨G, o * 6 + j, none⟩ = some u) ∧ ∀ j, wr.frozen? ⟨G, j, none⟩ = false := by
  obtain ⟨xs, hown, _⟩ := h.owns
  refine ⟨fun j hj => ?_, fun j => hown.frozenAt j⟩
  have := hown.1
  rw [hown.cellAt (o * 6 + j) (by omega)]
  exact ⟨_, List.getElem?_eq_getElem (by omega)⟩
theorem Fill.step {w wr : World} {G len k : Nat} {rs : List Par} (h : Fill w wr G len rs k) (hk : k < len) (p : Par) (hp : rs.getD k blank = p) : Fill w (setW6 wr G (k * 6) p) G len rs (k + 1) := by
  obtain ⟨xs, hown, hin⟩ := h.owns
  have hl := hown.1
  refine ⟨⟨set6 xs (k * 6) p, owns_set6 hown (k * 6) p, fun i hi => ?_⟩, below_set6 h.below (Nat.le_refl _) (k * 6) p⟩
  by_cases e : i = k
  · subst e
    rw [hp]
    exact set6_in xs _ p (by omega)
  · have h := hin i (by omega)
    have ho : ∀ j, j < 6 → (set6 xs (k * 6) p)[i * 6 + j]? = xs[i * 6 + j]? := fun j hj => set6_other xs _ _ p (by omega)
    exact ⟨(ho 0 (by omega)).trans h.name, (ho 1 (by omega)).trans h.ty, (ho 2 (by omega)).trans h.req, (ho 3 (by omega)).trans h.paired, (ho 4 (by omega)).trans h.opt, (ho 5 (by omega)).trans h.framing⟩
theorem Fill.row {w wr : World} {G len : Nat} {rs : List Par} (h : Fill w wr G len rs len) (hl : rs.length = len) : PRow wr (some ⟨G, 0, none⟩) len rs := by
  obtain ⟨xs, hown, hin⟩ := h.owns
  exact prow_own hown hin hl
theorem PRow.at {W w : World} {a : Option Addr} {len G : Nat} {ps : List Par} (h : PRow W a len ps) (hG : W.heap.size ≤ G) (hb : Below G W w) : PRow w a len ps := h.below (hb.mono hG)

theorem getD_left (ps qs : List Par) (i : Nat) (h : i < ps.length) : (ps ++ qs).getD i blank = ps.getD i blank := by
  simp [List.getD_eq_getElem?_getD, List.getElem?_append, h]
theorem getD_right (ps qs : List Par) (i : Nat) : (ps ++ qs).getD (ps.length + i) blank = qs.getD i blank := by
  have : ¬ ps.length + i < ps.length := by omega
  simp [List.getD_eq_getElem?_getD, List.getElem?_append, this]

/-- 'anyPaired' after k places of ps; after all of ps and k places of qs. -/
def AnyTo (ps : List Par) (k : Nat) (v : Value) : Prop := ∃ x, v = .bool x ∧ (x = false → ∀ i, i < k → (ps.getD i blank).paired = false)
def AnyTo2 (ps : List Par) (len : Nat) (qs : List Par) (k : Nat) (v : Value) : Prop := ∃ y, v = .bool y ∧ (y = false → (∀ i, i < len → (ps.getD i blank).paired = false) ∧ ∀ i, i < k → (qs.getD i blank).paired = false)

set_option maxRecDepth 100000 in
set_option maxHeartbeats 8000000 in
theorem law2 (a : Option Addr) (len cap : Nat) (ps : List Par) (a' : Option Addr) (len' cap' : Nat) (qs : List Par) (w : World) (hr : PRow w a len ps) (hr' : PRow w a' len' qs) (hlen : len ≤ maxLen) (hlen' : len' ≤ maxLen) :
    Calls Try.prog 4 #[.slice a len cap, .slice a' len' cap'] w fun e w' => e = .returned (.bool true) ∧ Below w.heap.size w w' := by
  have HR : Hid (PRow w a len ps) := hr
  have HQ : Hid (PRow w a' len' qs) := hr'
  clear hr hr'
  go_enter Try.func4, Try.ntmps4
  go_wp2_with fail
  refine (bytes2_any a len cap ps a' len' cap' qs w HR.out HQ.out hlen hlen').mono ?_
  rintro e w1 ⟨r, rfl, rfl, hq⟩
  unfold maxLen at hlen hlen'
  cases r
  · clear hq
    go_wp2
    go_ret
    exact ⟨rfl, Below.refl _ _⟩
  obtain ⟨hsh, hsh'⟩ := hq rfl
  have HS : Hid (Short ps) := hsh
  have HS' : Hid (Short qs) := hsh'
  clear hq hsh hsh'
  by_cases g1 : 16384 < len
  · go_wp2
    go_ret
    exact ⟨rfl, Below.refl _ _⟩
  by_cases g1' : 16384 < len'
  · go_wp2
    go_ret
    exact ⟨rfl, Below.refl _ _⟩
  go_wp2_with fail
  refine (paramsBytes_any a len cap ps w1 HR.out (by omega) HS.out).mono ?_
  rintro e w2 ⟨t, rfl, ht, n, rfl⟩
  go_wp2_with fail
  refine (paramsBytes_any a' len' cap' qs _ (HQ.out.below (below_drewN (Below.refl _ _) n)) (by omega) HS'.out).mono ?_
  rintro e w2 ⟨t', rfl, ht', n', rfl⟩
  have B2 : Hid (Below w1.heap.size w1 ((w1.drewN n).drewN n')) := below_drewN (below_drewN (Below.refl _ _) n) n'
  have P2 : Hid (PRow ((w1.drewN n).drewN n') a len ps) := HR.out.below B2.out
  have Q2 : Hid (PRow ((w1.drewN n).drewN n') a' len' qs) := HQ.out.below B2.out
  have Z2 : Hid (((w1.drewN n).drewN n').heap.size = w1.heap.size) := rfl
  generalize (w1.drewN n).drewN n' = w2 at *
  by_cases g2 : 1048576 < t + t'
  · go_wp2
    go_ret
    exact ⟨rfl, B2.out⟩
  go_wp2
  go_loop [5, 6] (fun r i => ∃ j : Nat, j ≤ len ∧ i = .int .i64 ((len : Int) - 1 - j) ∧ r = .int .i64 j ∧ ∀ i, len - j ≤ i → i < len → (ps.getD i blank).paired = true) (fun _ i => (intOf i + 1).toNat)
  case atStart => exact ⟨0, Nat.zero_le _, by go_num, rfl, fun i h1 h2 => by omega⟩
  case round =>
    obtain ⟨j, hj, rfl, rfl, hall⟩ := hrel
    have HALL : Hid (∀ i, len - j ≤ i → i < len → (ps.getD i blank).paired = true) := hall
    clear hall
    by_cases hc : j < len ∧ (ps.getD (len - 1 - j) blank).paired = true
    · obtain ⟨hlt, hp⟩ := hc
      obtain ⟨m, hm⟩ : ∃ m, len - 1 - j = m := ⟨_, rfl⟩
      have em : (len : Int) - 1 - j = (m : Int) := by omega
      have HE : Hid ((len : Int) - 1 - j = (m : Int)) := em
      obtain ⟨b, off, rfl, hb, hcc⟩ := HR.out.2 (by omega)
      have c3 : w2.cell? ⟨b, off + m * 6 + 3, none⟩ = _ := (B2.out.cell (by exact hb)).trans (hcc m (by omega)).paired
      rw [← hm, hp] at c3
      rw [hm] at c3
      have HP : Hid ((ps.getD m blank).paired = true) := by show (ps.getD m blank).paired = true; rw [← hm]; exact hp
      have hml : m < len := by omega
      rw [em]
      clear em hcc hp hm
      go_wp2
      go_round
      case rel => exact ⟨j + 1, by omega, by have := HE.out; go_num, by go_num, fun i h1 h2 => by
        by_cases e : len - j ≤ i
        · exact HALL.out i e h2
        · have h3 := HE.out
          have h4 : i = m := by omega
          rw [h4]; exact HP.out⟩
      case measure => simp [intOf]
    · have HT : Hid (tail ps = j) := by
        show tail ps = j
        have hl := HR.out.1
        refine tail_stop ps j (by omega) (fun i h1 h2 => HALL.out i (by omega) (by omega)) ?_
        by_cases e : j = len
        · left; omega
        · right
          have : ps.length - j - 1 = len - 1 - j := by omega
          rw [this]
          have h1 : ¬ (ps.getD (len - 1 - j) blank).paired = true := fun h => hc ⟨by omega, h⟩
          simpa using h1
      have hex : ((len : Int) - 1 - j = -1) ∨ ∃ m b off, (len : Int) - 1 - j = (m : Nat) ∧ a = some ⟨b, off, none⟩ ∧ m < len ∧ w2.cell? ⟨b, off + m * 6 + 3, none⟩ = some (.bool false) := by
        by_cases e : j = len
        · left; omega
        · right
          obtain ⟨b, off, ha, hb, hcc⟩ := HR.out.2 (by omega)
          refine ⟨len - 1 - j, b, off, by omega, ha, by omega, ?_⟩
          rw [B2.out.cell (by exact hb), (hcc (len - 1 - j) (by omega)).paired]
          have h1 : ¬ (ps.getD (len - 1 - j) blank).paired = true := fun h => hc ⟨by omega, h⟩
          have h2 : (ps.getD (len - 1 - j) blank).paired = false := by simpa using h1
          rw [h2]
      clear hc HALL
      rcases hex with em | ⟨m, b, off, em, rfl, hm, c3⟩
      all_goals
        rw [em]
        clear em
        by_cases hodd : j % 2 = 1
        · have hoddI : ((j : Int) % 2 == 1) = true := by simp; omega
          go_wp2
          go_ret
          exact ⟨rfl, B2.out⟩
        have hoddI : ((j : Int) % 2 == 1) = false := by simp; omega
        have HEV : Hid (tail ps % 2 = 0) := by show tail ps % 2 = 0; rw [HT.out]; omega
        go_wp2_with fail
        refine (toParams_any _ len cap ps w2 P2.out (by omega)).mono ?_
        rintro e w3 ⟨rfl, ⟨xs, hown, hin⟩, hb3⟩
        have P3 : Hid (PRow w3 (some ⟨w2.heap.size, 0, none⟩) len ps) := prow_own hown hin HR.out.1
        have B3 : Hid (Below w1.heap.size w1 w3) := B2.out.trans (hb3.mono B2.out.size)
        clear hown hin hb3 hoddI
        go_wp2_with fail
        refine (toParams_any _ len' cap' qs w3 (HQ.out.below B3.out) (by omega)).mono ?_
        rintro e w4 ⟨rfl, ⟨xs', hown, hin⟩, hb4⟩
        have P4 : Hid (PRow w4 (some ⟨w2.heap.size, 0, none⟩) len ps) := P3.out.below hb4
        have Q4 : Hid (PRow w4 (some ⟨w3.heap.size, 0, none⟩) len' qs) := prow_own hown hin HQ.out.1
        have B4 : Hid (Below w1.heap.size w1 w4) := B3.out.trans (hb4.mono B3.out.size)
        clear hown hin hb4 P3 B3
        generalize w2.heap.size = GA at *
        generalize w3.heap.size = GB at *
        obtain ⟨i0, hi, hz0, hz1, hz2⟩ := info_parts Try.info37
        go_wp2_with (first
          | (at_make; refine wpList_make_full _ rfl _ _ 25 rfl w4.heap.size 37 i0 _ 6 Try.underlying25 hi hz0 hz1 .i64 .i64 _ _ (len + len') rfl rfl (by omega) (by omega) (by rw [hz2]; omega) (by unfold maxLen; omega) (Nat.le_refl _) ?_; intro w5 hown hgrow))
        have F5 : Hid (Fill w4 w5 w4.heap.size (len + len') (ps ++ qs) 0) := ⟨⟨_, hown, fun i hi => by omega⟩, (Below.refl _ _).grown hgrow (Nat.le_refl _) (fun _ h => by cases h)⟩
        clear hown hgrow hi hz0 hz1 hz2
        obtain ⟨G, hG⟩ : ∃ G, w4.heap.size = G := ⟨_, rfl⟩
        have HG4 : Hid (w4.heap.size = G) := hG
        rw [hG] at F5
        rw [hG]
        clear hG
        go_loopw [10] (fun i wr => ∃ k : Nat, k ≤ len ∧ i = .int .i64 k ∧ Fill w4 wr G (len + len') (ps ++ qs) k) (fun i _ => len - (intOf i).toNat)
        case atStart => exact ⟨0, Nat.zero_le _, rfl, F5.out⟩
        case round =>
          obtain ⟨k, hk, rfl, hF⟩ := hrel
          have F : Hid (Fill w4 wr G (len + len') (ps ++ qs) k) := hF
          clear hF F5
          have HP : Hid (PRow w4 (some ⟨GA, 0, none⟩) len ps) := P4
          by_cases hlt : k < len
          · have SRC : Hid (PRow wr (some ⟨GA, 0, none⟩) len ps) := P4.out.at (Nat.le_of_eq HG4.out) F.out.below
            obtain ⟨b0, off0, e0, hb0, hcc⟩ := SRC.out.2 (by omega)
            cases e0
            have c := hcc k (by omega)
            have c0 := c.name
            have c1 := c.ty
            have c2 := c.req
            have c3' := c.paired
            have c4 := c.opt
            have c5 := c.framing
            simp only [Nat.zero_add] at c0 c1 c2 c3' c4 c5
            obtain ⟨ex, hfz⟩ := F.out.room (k) (by omega)
            obtain ⟨u0, e0⟩ := ex 0 (by omega)
            obtain ⟨u1, e1⟩ := ex 1 (by omega)
            obtain ⟨u2, e2⟩ := ex 2 (by omega)
            obtain ⟨u3, e3⟩ := ex 3 (by omega)
            obtain ⟨u4, e4⟩ := ex 4 (by omega)
            obtain ⟨u5, e5⟩ := ex 5 (by omega)
            simp only [Nat.add_zero] at e0
            have f0 := hfz ((k) * 6)
            have f1 := hfz ((k) * 6 + 1)
            have f2 := hfz ((k) * 6 + 2)
            have f3 := hfz ((k) * 6 + 3)
            have f4 := hfz ((k) * 6 + 4)
            have f5 := hfz ((k) * 6 + 5)
            clear ex hfz c hcc hb0
            have HPK : Hid ((ps ++ qs).getD k blank = ps.getD k blank) := getD_left ps qs k (by rw [HR.out.1]; exact hlt)
            generalize ps.getD k blank = p at *
            have hkI : (k : Int) < (len : Int) + len' := by omega
            go_wp2
            go_roundw
            case rel => exact ⟨k + 1, by omega, by go_num, F.out.step (by omega) p HPK.out⟩
            case measure => simp [intOf]; omega
          · have hke : len = k := by omega
            subst hke
            have hgeI : ¬ (len : Int) < len := by omega
            go_wp2
            go_loopw [11] (fun i wq => ∃ k : Nat, k ≤ len' ∧ i = .int .i64 k ∧ Fill w4 wq G (len + len') (ps ++ qs) (len + k)) (fun i _ => len' - (intOf i).toNat)
            case atStart => exact ⟨0, Nat.zero_le _, rfl, F.out⟩
            case round =>
              obtain ⟨k, hk2, rfl, hF⟩ := hrel
              clear F
              have F : Hid (Fill w4 wr G (len + len') (ps ++ qs) (len + k)) := hF
              clear hF
              by_cases hlt2 : k < len'
              · have SRC : Hid (PRow wr (some ⟨GB, 0, none⟩) len' qs) := Q4.out.at (Nat.le_of_eq HG4.out) F.out.below
                obtain ⟨b0, off0, e0, hb0, hcc⟩ := SRC.out.2 (by omega)
                cases e0
                have c := hcc k (by omega)
                have c0 := c.name
                have c1 := c.ty
                have c2 := c.req
                have c3' := c.paired
                have c4 := c.opt
                have c5 := c.framing
                simp only [Nat.zero_add] at c0 c1 c2 c3' c4 c5
                obtain ⟨ex, hfz⟩ := F.out.room (len + k) (by omega)
                obtain ⟨u0, e0⟩ := ex 0 (by omega)
                obtain ⟨u1, e1⟩ := ex 1 (by omega)
                obtain ⟨u2, e2⟩ := ex 2 (by omega)
                obtain ⟨u3, e3⟩ := ex 3 (by omega)
                obtain ⟨u4, e4⟩ := ex 4 (by omega)
                obtain ⟨u5, e5⟩ := ex 5 (by omega)
                simp only [Nat.add_zero] at e0
                have f0 := hfz ((len + k) * 6)
                have f1 := hfz ((len + k) * 6 + 1)
                have f2 := hfz ((len + k) * 6 + 2)
                have f3 := hfz ((len + k) * 6 + 3)
                have f4 := hfz ((len + k) * 6 + 4)
                have f5 := hfz ((len + k) * 6 + 5)
                clear ex hfz c hcc hb0
                have HPK : Hid ((ps ++ qs).getD (len + k) blank = qs.getD k blank) := by
                  show (ps ++ qs).getD (len + k) blank = qs.getD k blank
                  rw [← HR.out.1]; exact getD_right ps qs k
                generalize qs.getD k blank = p at *
                have hkI : (len : Int) + k < (len : Int) + len' := by omega
                go_wp2
                go_roundw
                case rel => exact ⟨k + 1, by omega, by go_num, F.out.step (by omega) p HPK.out⟩
                case measure => simp [intOf]; omega
              · have hke : len' = k := by omega
                subst hke
                have hgeI2 : ¬ (len' : Int) < len' := by omega
                have P5 : Hid (PRow wr (some ⟨GA, 0, none⟩) len ps) := P4.out.at (Nat.le_of_eq HG4.out) F.out.below
                have Q5 : Hid (PRow wr (some ⟨GB, 0, none⟩) len' qs) := Q4.out.at (Nat.le_of_eq HG4.out) F.out.below
                have R5 : Hid (PRow wr (some ⟨G, 0, none⟩) (len + len') (ps ++ qs)) := F.out.row (by simp [HR.out.1, HQ.out.1])
                have B5 : Hid (Below w1.heap.size w1 wr) := B4.out.trans (F.out.below.mono (by rw [← HG4.out]; exact B4.out.size))
                have HS5 : Hid (Short (ps ++ qs)) := fun p hp => by
                  rcases List.mem_append.1 hp with h | h
                  · exact HS.out p h
                  · exact HS'.out p h
                clear F P4 Q4 HG4 B4 HP P2 Q2 Z2
                go_wp2_with fail
                refine (names_any _ _ _ _ _ _ _ len len ps wr P5.out (by omega) HS.out).mono ?_
                rintro e w6 ⟨ga, rfl, ta, hga, hb6⟩
                have A6 : Hid (Strs w6 ga len (names ps)) := ta
                have B6 : Hid (Below w1.heap.size w1 w6) := B5.out.trans (hb6.mono B5.out.size)
                have Q6 : Hid (PRow w6 (some ⟨GB, 0, none⟩) len' qs) := Q5.out.below hb6
                have R6 : Hid (PRow w6 (some ⟨G, 0, none⟩) (len + len') (ps ++ qs)) := R5.out.below hb6
                clear ta hga hb6 P5 Q5 R5 B5
                go_wp2_with fail
                refine (names_any _ _ _ _ _ _ _ len' len' qs w6 Q6.out (by omega) HS'.out).mono ?_
                rintro e w7 ⟨gb, rfl, tb, hgb, hb7⟩
                have A7 : Hid (Strs w7 ga len (names ps)) := A6.out.kept (hb7.block ga A6.out.lt)
                have T7 : Hid (Strs w7 gb len' (names qs)) := tb
                have B7 : Hid (Below w1.heap.size w1 w7) := B6.out.trans (hb7.mono B6.out.size)
                have R7 : Hid (PRow w7 (some ⟨G, 0, none⟩) (len + len') (ps ++ qs)) := R6.out.below hb7
                clear tb hgb hb7 A6 B6 Q6 R6
                go_wp2_with fail
                refine (names_any _ _ _ _ _ _ _ (len + len') (len + len') (ps ++ qs) w7 R7.out (by omega) HS5.out).mono ?_
                rintro e w8 ⟨gc, rfl, tc, hgc, hb8⟩
                have A8 : Hid (Strs w8 ga len (names ps)) := A7.out.kept (hb8.block ga A7.out.lt)
                have T8 : Hid (Strs w8 gb len' (names qs)) := T7.out.kept (hb8.block gb T7.out.lt)
                have C8 : Hid (Strs w8 gc (len + len') (names (ps ++ qs))) := tc
                have B8 : Hid (Below w1.heap.size w1 w8) := B7.out.trans (hb8.mono B7.out.size)
                clear tc hgc hb8 A7 T7 B7 R7 HS5
                have happ := names_append ps qs HEV.out
                have HAP : Hid (names (ps ++ qs) = names ps ++ names qs) := happ
                have hle := names_len_le (ps ++ qs)
                have hge := names_len_ge (ps ++ qs)
                have hnone := names_len_none (ps ++ qs)
                have hlen2 : (ps ++ qs).length = len + len' := by simp [HR.out.1, HQ.out.1]
                rw [hlen2] at hle hge hnone
                have hsum : (names (ps ++ qs)).length = (names ps).length + (names qs).length := by rw [happ]; simp
                have HNONE : Hid ((∀ p ∈ ps ++ qs, p.paired = false) → (names (ps ++ qs)).length = len + len') := hnone
                clear happ hnone hlen2
                have K1 : Hid (∀ i, i < (names ps).length → ∃ s, w8.cell? ⟨gc, i, none⟩ = some (.string s) ∧ w8.cell? ⟨ga, i, none⟩ = some (.string s)) := fun i hi => by
                  refine ⟨_, C8.out.cell i (by omega), ?_⟩
                  rw [A8.out.cell i hi, HAP.out]
                  simp [List.getD_eq_getElem?_getD, List.getElem?_append, hi]
                have K2 : Hid (∀ i, i < (names qs).length → ∃ s, w8.cell? ⟨gc, (names ps).length + i, none⟩ = some (.string s) ∧ w8.cell? ⟨gb, i, none⟩ = some (.string s)) := fun i hi => by
                  refine ⟨_, C8.out.cell ((names ps).length + i) (by omega), ?_⟩
                  have hn : ¬ (names ps).length + i < (names ps).length := by omega
                  rw [T8.out.cell i hi, HAP.out]
                  simp [List.getD_eq_getElem?_getD, List.getElem?_append, hn]
                rw [hsum] at hle hge HNONE
                rw [hsum]
                clear hsum HAP A8 T8 C8 HEV HT
                generalize (names ps).length = LA at *
                generalize (names qs).length = LB at *
                go_wp2
                go_loopw [15] (fun i wq => ∃ k n : Nat, k ≤ LA ∧ i = .int .i64 k ∧ wq = w8.drewN n) (fun i _ => LA - (intOf i).toNat)
                case atStart => exact ⟨0, 0, Nat.zero_le _, rfl, rfl⟩
                case round =>
                  obtain ⟨k, nn, hk3, rfl, rfl⟩ := hrel
                  by_cases hlt3 : k < LA
                  · obtain ⟨s, d1, d2⟩ := K1.out k hlt3
                    have hkI : (k : Int) < (LA : Int) + LB := by omega
                    go_wp2
                    go_quiet (fail)
                    go_wp2
                    go_roundw
                    case rel => exact ⟨k + 1, nn + nq, by omega, by go_num, by simp [World.drewN]⟩
                    case measure => simp [intOf]; omega
                  · have hge3 : ¬ (k : Int) < LA := by omega
                    go_wp2
                    go_loopw [16] (fun i wq => ∃ k n : Nat, k ≤ LB ∧ i = .int .i64 k ∧ wq = w8.drewN n) (fun i _ => LB - (intOf i).toNat)
                    case atStart => exact ⟨0, nn, Nat.zero_le _, rfl, rfl⟩
                    case round =>
                      obtain ⟨k2, n2, hk4, rfl, rfl⟩ := hrel
                      by_cases hlt4 : k2 < LB
                      · obtain ⟨s, d1, d2⟩ := K2.out k2 hlt4
                        have hkI : (LA : Int) + k2 < (LA : Int) + LB := by omega
                        go_wp2
                        go_quiet (fail)
                        go_wp2
                        go_roundw
                        case rel => exact ⟨k2 + 1, n2 + nq, by omega, by go_num, by simp [World.drewN]⟩
                        case measure => simp [intOf]; omega
                      · have hge4 : ¬ (k2 : Int) < LB := by omega
                        have i1 : ¬ (len : Int) + len' < (LA : Int) + LB := by omega
                        have i2 : ¬ (2 : Int) * ((LA : Int) + LB) < (len : Int) + len' := by omega
                        go_wp2
                        have B9 : Hid (Below w1.heap.size w1 (w8.drewN n2)) := below_drewN B8.out n2
                        generalize w8.drewN n2 = w9 at *
                        clear K1 K2 B8
                        go_loop [18, 19] (fun x i => ∃ k : Nat, k ≤ len ∧ i = .int .i64 k ∧ AnyTo ps k x) (fun _ i => len - (intOf i).toNat)
                        case atStart => exact ⟨0, Nat.zero_le _, rfl, false, rfl, fun _ i hi => by omega⟩
                        case round =>
                          obtain ⟨k3, hk5, rfl, x, rfl, hany⟩ := hrel
                          have HANY : Hid (x = false → ∀ i, i < k3 → (ps.getD i blank).paired = false) := hany
                          clear hany
                          by_cases hlt5 : k3 < len
                          · obtain ⟨b7, off7, e7, hb7, hcc⟩ := HR.out.2 (by omega)
                            have c7 : w9.cell? ⟨b7, off7 + k3 * 6 + 3, none⟩ = _ := (B9.out.cell (by exact hb7)).trans (hcc k3 hlt5).paired
                            clear hcc
                            cases e7
                            cases gp : (ps.getD k3 blank).paired
                            · rw [gp] at c7
                              have HP3 : Hid ((ps.getD k3 blank).paired = false) := gp
                              clear gp
                              go_wp2
                              go_round
                              case rel => exact ⟨k3 + 1, by omega, by go_num, x, rfl, fun h i hi => by
                                by_cases e : i = k3
                                · rw [e]; exact HP3.out
                                · exact HANY.out h i (by omega)⟩
                              case measure => simp [intOf]; omega
                            · rw [gp] at c7
                              clear gp
                              go_wp2
                              go_round
                              case rel => exact ⟨k3 + 1, by omega, by go_num, true, rfl, fun h => by cases h⟩
                              case measure => simp [intOf]; omega
                          · have hge5 : ¬ (k3 : Int) < len := by omega
                            have HA1 : Hid (x = false → ∀ i, i < len → (ps.getD i blank).paired = false) := fun h i hi => HANY.out h i (by omega)
                            clear HANY
                            go_wp2
                            go_loop [18, 20] (fun y i => ∃ k : Nat, k ≤ len' ∧ i = .int .i64 k ∧ AnyTo2 ps len qs k y) (fun _ i => len' - (intOf i).toNat)
                            case atStart => exact ⟨0, Nat.zero_le _, rfl, x, rfl, fun h => ⟨HA1.out h, fun i hi => by omega⟩⟩
                            case round =>
                              obtain ⟨k4, hk6, rfl, y, rfl, hany⟩ := hrel
                              have HANY : Hid (y = false → (∀ i, i < len → (ps.getD i blank).paired = false) ∧ ∀ i, i < k4 → (qs.getD i blank).paired = false) := hany
                              clear hany
                              by_cases hlt6 : k4 < len'
                              · obtain ⟨b7, off7, rfl, hb7, hcc⟩ := HQ.out.2 (by omega)
                                have c7 : w9.cell? ⟨b7, off7 + k4 * 6 + 3, none⟩ = _ := (B9.out.cell (by exact hb7)).trans (hcc k4 hlt6).paired
                                clear hcc
                                cases gp : (qs.getD k4 blank).paired
                                · rw [gp] at c7
                                  have HP3 : Hid ((qs.getD k4 blank).paired = false) := gp
                                  clear gp
                                  go_wp2
                                  go_round
                                  case rel => exact ⟨k4 + 1, by omega, by go_num, y, rfl, fun h => ⟨(HANY.out h).1, fun i hi => by
                                    by_cases e : i = k4
                                    · rw [e]; exact HP3.out
                                    · exact (HANY.out h).2 i (by omega)⟩⟩
                                  case measure => simp [intOf]; omega
                                · rw [gp] at c7
                                  clear gp
                                  go_wp2
                                  go_round
                                  case rel => exact ⟨k4 + 1, by omega, by go_num, true, rfl, fun h => by cases h⟩
                                  case measure => simp [intOf]; omega
                              · have hge6 : ¬ (k4 : Int) < len' := by omega
                                cases y
                                · have heq : LA + LB = len + len' := HNONE.out (fun p hp => by
                                    obtain ⟨h1, h2⟩ := HANY.out rfl
                                    rcases List.mem_append.1 hp with h | h
                                    · obtain ⟨i, hi, rfl⟩ := List.getElem_of_mem h
                                      have := h1 i (by rw [← HR.out.1]; exact hi)
                                      rw [List.getD_eq_getElem?_getD, List.getElem?_eq_getElem hi] at this
                                      exact this
                                    · obtain ⟨i, hi, rfl⟩ := List.getElem_of_mem h
                                      have := h2 i (by have := HQ.out.1; omega)
                                      rw [List.getD_eq_getElem?_getD, List.getElem?_eq_getElem hi] at this
                                      exact this)
                                  have hneq : ((LA : Int) + LB != (len : Int) + len') = false := by simp; omega
                                  clear heq HANY HNONE
                                  go_wp2
                                  go_ret
                                  exact ⟨rfl, B9.out⟩
                                · clear HANY HNONE
                                  go_wp2
                                  go_ret
                                  exact ⟨rfl, B9.out⟩
end Go.Proofs.Qxb6629080a
