/-
  FnNamesMatchesPairRunParityModel: the walk.
-/
import Derived.Test.Qxb6629080aNames
namespace Go.Proofs.Qxb6629080a
open Go.RowKit
set_option linter.unusedVariables false
set_option linter.unusedSimpArgs false

theorem Try.info4 : (Try.prog.info? 4).map (fun i => (i.zero, i.size, i.bytes)) = some (some (.bool false), 1, 1) := by kernel_rfl

/-- Block g is a row of the bools ss, the call's own. -/
def BRow (w : World) (g : Nat) (ss : List Bool) : Prop := w.heap[g]? = some (.cells (ss.map Value.bool).toArray 4 (0, 0))
theorem BRow.lt {w : World} {g : Nat} {ss : List Bool} (h : BRow w g ss) : g < w.heap.size := (Array.getElem?_eq_some_iff.1 h).1
theorem BRow.cell {w : World} {g : Nat} {ss : List Bool} (h : BRow w g ss) (i : Nat) (hi : i < ss.length) : w.cell? ⟨g, i, none⟩ = some (.bool (ss.getD i false)) := by
  rw [cell_of_row w g i _ 4 (0, 0) h]
  simp [List.getD_eq_getElem?_getD, hi]
theorem BRow.free {w : World} {g : Nat} {ss : List Bool} (h : BRow w g ss) (i : Nat) : w.frozen? ⟨g, i, none⟩ = false := frozen_of_row w g i _ 4 h
theorem BRow.store {w : World} {g : Nat} {ss : List Bool} (h : BRow w g ss) (i : Nat) (x : Bool) : BRow (w.setCell ⟨g, i, none⟩ (.bool x)) g (ss.set i x) := by
  unfold BRow
  rw [heap_setCell_same w g i _ 4 _ h]
  simp [List.map_set]
theorem BRow.made {w : World} {base g n : Nat} (h : w.ownsRow base 4 1 (.slice (some ⟨g, 0, none⟩) n n) n (madeCells (Value.bool false).cells (n * 1)).toList) : BRow w g (List.replicate n false) := by
  rw [Nat.mul_one, show (Value.bool false).cells = #[.bool false] from rfl, toList_madeCells_one] at h
  rcases h.2 with ⟨h', _⟩ | ⟨g', cap', cur, h', _, hg, _, _, hs, ht⟩
  · simp at h'
  · simp only [Value.slice.injEq, Option.some.injEq, Addr.mk.injEq, and_true, true_and] at h'
    obtain ⟨rfl, rfl⟩ := h'
    unfold BRow
    rw [hg]
    congr 2
    apply Array.toList_inj.1
    rw [List.take_of_length_le (by simp; omega)] at ht
    rw [ht]
    simp

/-- the model's slice after the places below k are filled. -/
def secTo (ps : List Par) (k : Nat) : List Bool := (List.range (ps.length + 1)).map fun i => decide (i < k) && second ps i
theorem secTo_one (ps : List Par) : secTo ps 1 = List.replicate (ps.length + 1) false := by
  unfold secTo
  apply List.ext_getElem?
  intro i
  by_cases h : i < ps.length + 1
  · simp [h, List.getElem?_replicate]
    intro h1
    subst h1
    exact second_zero ps
  · rw [List.getElem?_eq_none (by simp; omega), List.getElem?_eq_none (by simp; omega)]
theorem secTo_len (ps : List Par) (k : Nat) : (secTo ps k).length = ps.length + 1 := by simp [secTo]
theorem secTo_step (ps : List Par) (k : Nat) (hk : k < ps.length) : (secTo ps k).set k (run ps k % 2 == 1) = secTo ps (k + 1) := by
  apply List.ext_getElem?
  intro i
  unfold secTo
  rw [List.getElem?_set]
  by_cases e : k = i
  · subst e
    have h1 : k < ps.length + 1 := by omega
    simp [h1, second, hk]
  · by_cases h : i < ps.length + 1
    · have : (i < k) ↔ (i < k + 1) := by omega
      simp [e, h, this]
    · simp [e, h]
theorem secTo_end (ps : List Par) (k : Nat) (hk : ps.length ≤ k) (i : Nat) (hi : i ≤ ps.length) : (secTo ps k).getD i false = second ps i := by
  unfold secTo
  have h1 : i < ps.length + 1 := by omega
  simp [List.getD_eq_getElem?_getD, h1]
  intro h2
  by_cases h3 : i < k
  · exact h3
  · have : i = ps.length := by omega
    rw [this, second_end ps _ (Nat.le_refl _)] at h2
    cases h2
theorem drop_head {α : Type} {l : List α} {c : Nat} {x e : α} {r : List α} (h : l.drop c = x :: r) : c < l.length ∧ l.getD c e = x ∧ l.drop (c + 1) = r := by
  have hc : c < l.length := by
    apply Decidable.byContradiction
    intro hn
    rw [List.drop_eq_nil_of_le (by omega)] at h
    cases h
  rw [List.drop_eq_getElem_cons hc] at h
  simp only [List.cons.injEq] at h
  exact ⟨hc, by simp [List.getD_eq_getElem?_getD, hc, h.1], h.2⟩

theorem par_cast (n : Nat) : ((n + 1) % 2 == 1) = (((n : Int) + 1) % 2 == 1) := by
  rw [Bool.eq_iff_iff]; simp; omega

set_option maxRecDepth 100000 in
set_option maxHeartbeats 4000000 in
theorem law1 (nm sm : ByteArray) (a : Option Addr) (len cap : Nat) (ps : List Par) (b1 b2 b3 b4 : Bool) (w : World) (hr : PRow w a len ps) (hnm : nm.size ≤ maxLen) (hsm : sm.size ≤ maxLen) (hlen : len ≤ maxLen) :
    Calls Try.prog 3 #[.string nm, .string sm, .slice a len cap, .bool b1, .bool b2, .bool b3, .bool b4] w fun e w' => e = .returned (.bool true) ∧ Below w.heap.size w w' := by
  have HR : Hid (PRow w a len ps) := hr
  clear hr
  go_enter Try.func3, Try.ntmps3
  go_wp2_with fail
  refine (bytes1_any nm sm a len cap ps b1 b2 b3 b4 w HR.out hnm hsm hlen).mono ?_
  rintro e w1 ⟨r, rfl, rfl, hq⟩
  unfold maxLen at hlen hnm hsm
  cases r
  · clear hq
    go_wp2
    go_ret
    exact ⟨rfl, Below.refl _ _⟩
  obtain ⟨hsh, hn1, hs1⟩ := hq rfl
  have HS : Hid (Short ps) := hsh
  clear hq hsh
  by_cases g1 : 16384 < len
  · go_wp2
    go_ret
    exact ⟨rfl, Below.refl _ _⟩
  go_wp2_with fail
  refine (paramsBytes_any a len cap ps w1 HR.out (by omega) HS.out).mono ?_
  rintro e w2 ⟨t, rfl, ht, n, rfl⟩
  by_cases g2 : 1048576 < nm.size + sm.size + t
  · go_wp2
    go_ret
    exact ⟨rfl, below_drewN (Below.refl _ _) n⟩
  go_wp2_with fail
  have B2 : Hid (Below w1.heap.size w1 (w1.drewN n)) := below_drewN (Below.refl _ _) n
  have P2 : Hid (PRow (w1.drewN n) a len ps) := HR.out.below B2.out
  generalize w1.drewN n = w2 at B2 P2
  refine (toParams_any a len cap ps w2 P2.out (by omega)).mono ?_
  rintro e w3 ⟨rfl, ⟨xs, hown, hin⟩, hb3⟩
  have P3 : Hid (PRow w3 (some ⟨w2.heap.size, 0, none⟩) len ps) := prow_own hown hin HR.out.1
  have B3 : Hid (Below w1.heap.size w1 w3) := B2.out.trans (hb3.mono B2.out.size)
  clear hown hin hb3 P2 B2
  go_wp2_with fail
  refine (names_any nm sm b1 b2 b3 b4 _ len len ps _ (P3.out.below ((Below.refl _ _).alloc (Nat.le_refl _) _)) (by omega) HS.out).mono ?_
  rintro e w4 ⟨g, rfl, hst, hg, hb4⟩
  have B4 : Hid (Below w1.heap.size w1 w4) := (B3.out.alloc B3.out.size _).trans (hb4.mono (Nat.le_trans B3.out.size (by simp)))
  have ST : Hid (Strs w4 g len (names ps)) := hst
  have hlt4 := hst.lt
  clear hst hb4 hg
  obtain ⟨i0, hi, hz0, hz1, hz2⟩ := info_parts Try.info4
  go_wp2_with (first
    | (at_make; refine wpList_make_full _ rfl _ _ 31 rfl w4.heap.size 4 i0 _ 1 Try.underlying31 hi hz0 hz1 .i64 .i64 _ _ (len + 1) rfl rfl (by omega) (by omega) (by rw [hz2]; omega) (by unfold maxLen; omega) (Nat.le_refl _) ?_; intro w5 hown hgrow))
  have R5 : Hid (BRow w5 w4.heap.size (secTo ps 1)) := by
    show BRow w5 w4.heap.size (secTo ps 1)
    rw [secTo_one, HR.out.1]
    exact BRow.made hown
  have T5 : Hid (Strs w5 g len (names ps)) := ST.out.kept (hgrow.block g hlt4 (by simp))
  have B5 : Hid (Below w1.heap.size w1 w5) := B4.out.grown hgrow B4.out.size (fun _ h => by cases h)
  have HG : Hid (g < w4.heap.size) := hlt4
  have HGB : Hid (w1.heap.size ≤ w4.heap.size) := B4.out.size
  clear hown hgrow ST B4 B3 P3 hi hz0 hz1 hz2 hlt4
  generalize w4.heap.size = G at *
  go_loopw [19, 20] (fun r i wr => ∃ j : Nat, j ≤ len ∧ i = .int .i64 ((j : Int) + 1) ∧ r = .int .i64 (run ps j : Nat) ∧ BRow wr G (secTo ps (j + 1)) ∧ Strs wr g len (names ps) ∧ Below w1.heap.size w1 wr) (fun _ i _ => len + 1 - (intOf i).toNat)
  case atStart => exact ⟨0, Nat.zero_le _, rfl, rfl, R5.out, T5.out, B5.out⟩
  case round =>
    clear R5 T5 B5
    obtain ⟨j, hj, rfl, rfl, hrow, hst, hbel⟩ := hrel
    have R5 : Hid (BRow wr G (secTo ps (j + 1))) := hrow
    have T5 : Hid (Strs wr g len (names ps)) := hst
    have B5 : Hid (Below w1.heap.size w1 wr) := hbel
    clear hrow hst hbel
    by_cases hlt : j + 1 < len
    · obtain ⟨b, off, rfl, hb, hc⟩ := HR.out.2 (by omega)
      have c3 : wr.cell? ⟨b, off + j * 6 + 3, none⟩ = _ := (B5.out.cell (by exact hb)).trans (hc j (by omega)).paired
      have cs := R5.out.cell (j + 1) (by rw [secTo_len, HR.out.1]; omega)
      have fs := R5.out.free (j + 1)
      have hrl := run_le ps j
      have HT : Hid ((secTo ps (j + 1)).set (j + 1) (run ps (j + 1) % 2 == 1) = secTo ps (j + 1 + 1)) := secTo_step ps (j + 1) (by rw [HR.out.1]; exact hlt)
      have hltI : (j : Int) + 1 < len := by omega
      generalize (secTo ps (j + 1)).getD (j + 1) false = x0 at cs
      clear hc
      by_cases gp : (ps.getD j blank).paired = true
      · have HRU : Hid (run ps (j + 1) = run ps j + 1) := by show run ps (j + 1) = run ps j + 1; rw [run, if_pos gp]
        rw [gp] at c3
        generalize run ps j = rj at *
        go_wp2
        go_roundw
        case rel => exact ⟨j + 1, by omega, by go_num, by rw [HRU.out]; go_num, by rw [← HT.out, HRU.out, par_cast]; exact R5.out.store (j + 1) _, T5.out.kept (Below.heap_setCell _ _ _ _ (Nat.ne_of_lt HG.out)), B5.out.setCell HGB.out _⟩
        case measure => simp [intOf]; omega
      · have gp' : (ps.getD j blank).paired = false := by simpa using gp
        have HRU : Hid (run ps (j + 1) = 0) := by show run ps (j + 1) = 0; rw [run, if_neg gp]
        rw [gp'] at c3
        generalize run ps j = rj at *
        go_wp2
        go_roundw
        case rel => exact ⟨j + 1, by omega, by go_num, by rw [HRU.out]; rfl, by rw [← HT.out, HRU.out]; exact R5.out.store (j + 1) _, T5.out.kept (Below.heap_setCell _ _ _ _ (Nat.ne_of_lt HG.out)), B5.out.setCell HGB.out _⟩
        case measure => simp [intOf]; omega
    · have hge : ¬ (j : Int) + 1 < len := by omega
      have hSec : ∀ i, i ≤ len → wr.cell? ⟨G, i, none⟩ = some (.bool (second ps i)) := fun i hi => by
        rw [R5.out.cell i (by rw [secTo_len, HR.out.1]; omega), secTo_end ps (j + 1) (by rw [HR.out.1]; omega) i (by rw [HR.out.1]; exact hi)]
      have HSec : Hid (∀ i, i ≤ len → wr.cell? ⟨G, i, none⟩ = some (.bool (second ps i))) := hSec
      have hnl : (names ps).length ≤ len := by have := names_len_le ps; rw [HR.out.1] at this; exact this
      clear hSec R5
      go_wp2
      go_loopw [21, 22] (fun c i wq => ∃ k cc : Nat, k ≤ len ∧ i = .int .i64 k ∧ c = .int .i64 cc ∧ (names ps).drop cc = ahead ps k ∧ cc ≤ (names ps).length ∧ ∃ n, wq = wr.drewN n) (fun _ i _ => len - (intOf i).toNat)
      case atStart => exact ⟨0, 0, Nat.zero_le _, rfl, rfl, by rw [ahead_zero]; rfl, Nat.zero_le _, 0, rfl⟩
      case round =>
        obtain ⟨k, cc, hk, rfl, rfl, hah, hcc, nn, rfl⟩ := hrel
        have HA : Hid ((names ps).drop cc = ahead ps k) := hah
        clear hah
        by_cases hlt : k < len
        · obtain ⟨b, off, rfl, hb, hc⟩ := HR.out.2 (by omega)
          have s0 := HSec.out k (by omega)
          have s1 := HSec.out (k + 1) (by omega)
          cases gs : second ps k
          · rw [gs] at s0
            have hw := ahead_want ps k (by rw [HR.out.1]; exact hlt) gs
            rw [← HA.out] at hw
            obtain ⟨h1, h2, h3⟩ := drop_head (e := ByteArray.empty) hw
            have hgot := T5.out.cell cc h1
            rw [h2] at hgot
            have HD : Hid ((names ps).drop (cc + 1) = ahead ps (k + 1)) := h3
            unfold want at hgot
            have c := hc k hlt
            have bb := B5.out
            have c0 : wr.cell? ⟨b, off + k * 6, none⟩ = _ := (bb.cell (by exact hb)).trans c.name
            have c1 : wr.cell? ⟨b, off + k * 6 + 1, none⟩ = _ := (bb.cell (by exact hb)).trans c.ty
            have c4 : wr.cell? ⟨b, off + k * 6 + 4, none⟩ = _ := (bb.cell (by exact hb)).trans c.opt
            have hpm : ps.getD k blank ∈ ps := by
              have : k < ps.length := by rw [HR.out.1]; exact hlt
              rw [List.getD_eq_getElem?_getD, List.getElem?_eq_getElem this]
              exact List.getElem_mem this
            have hsn := (HS.out _ hpm).1
            have hltI : (k : Int) + 1 ≤ len := by omega
            clear hw h2 h3 c bb hpm gs
            cases gt : second ps (k + 1)
            · rw [gt] at s1 hgot
              simp only [Bool.false_eq_true, if_false] at hgot
              unfold single at hgot
              generalize ps.getD k blank = p at *
              clear hc gt
              by_cases g3 : p.opt = true
              · rw [if_pos g3] at hgot
                rw [g3] at c4
                go_wp2
                go_roundw
                case rel => exact ⟨k + 1, cc + 1, by omega, by go_num, by go_num, HD.out, by omega, nn, rfl⟩
                case measure => simp [intOf]; omega
              · have g3' : p.opt = false := by simpa using g3
                rw [if_neg g3] at hgot
                rw [g3'] at c4
                by_cases g4 : (p.ty.toList == [97, 114, 114, 97, 121]) = true
                · rw [if_pos g4] at hgot
                  go_wp2
                  go_roundw
                  case rel => exact ⟨k + 1, cc + 1, by omega, by go_num, by go_num, HD.out, by omega, nn, rfl⟩
                  case measure => simp [intOf]; omega
                · rw [if_neg g4] at hgot
                  have g4' : (p.ty.toList == [97, 114, 114, 97, 121]) = false := by simpa using g4
                  clear g4
                  go_wp2
                  go_roundw
                  case rel => exact ⟨k + 1, cc + 1, by omega, by go_num, by go_num, HD.out, by omega, nn, rfl⟩
                  case measure => simp [intOf]; omega
            · have hk1 : k + 1 < len := by
                have := gt
                simp [second] at this
                have h4 := HR.out.1
                omega
              rw [gt] at s1 hgot
              simp only [if_true] at hgot
              unfold pair at hgot
              have d0 : wr.cell? ⟨b, off + (k + 1) * 6, none⟩ = _ := (B5.out.cell (by exact hb)).trans (hc (k + 1) hk1).name
              have hqm : ps.getD (k + 1) blank ∈ ps := by
                have : k + 1 < ps.length := by rw [HR.out.1]; exact hk1
                rw [List.getD_eq_getElem?_getD, List.getElem?_eq_getElem this]
                exact List.getElem_mem this
              have hsq := (HS.out _ hqm).1
              clear hqm hc gt
              generalize ps.getD (k + 1) blank = q at d0 hsq hgot
              generalize ps.getD k blank = p at *
              have hk1I : (k : Int) + 1 < len := by omega
              go_wp2
              go_quiet (fail)
              go_wp2
              go_roundw
              case rel => exact ⟨k + 1, cc + 1, by omega, by go_num, by go_num, HD.out, by omega, nn + nq, by simp [World.drewN]⟩
              case measure => simp [intOf]; omega
          · rw [gs] at s0
            have HD : Hid ((names ps).drop cc = ahead ps (k + 1)) := by
              show (names ps).drop cc = ahead ps (k + 1)
              rw [HA.out]; exact ahead_skip ps k (by rw [HR.out.1]; exact hlt) gs
            clear hc gs
            go_wp2
            go_roundw
            case rel => exact ⟨k + 1, cc, by omega, by go_num, by go_num, HD.out, hcc, nn, rfl⟩
            case measure => simp [intOf]; omega
        · have hge2 : ¬ (k : Int) < len := by omega
          have hcl : cc = (names ps).length := by
            have h5 := HA.out
            have h6 : k = ps.length := by rw [HR.out.1]; omega
            rw [h6, ahead_end] at h5
            have := List.drop_eq_nil_iff.1 h5
            omega
          subst hcl
          go_wp2
          go_ret
          exact ⟨rfl, below_drewN B5.out nn⟩
end Go.Proofs.Qxb6629080a
