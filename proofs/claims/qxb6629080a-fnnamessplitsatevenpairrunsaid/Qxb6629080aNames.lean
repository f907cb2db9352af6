/-
  THE WALK of Command.Names.
-/
import Derived.Test.Qxb6629080aToParams
namespace Go.Proofs.Qxb6629080a
open Go.RowKit
set_option linter.unusedVariables false
set_option linter.unusedSimpArgs false

theorem Try.info9 : (Try.prog.info? 9).map (fun i => (i.zero, i.size, i.bytes)) = some (some (.string ByteArray.empty), 1, 16) := by kernel_rfl

/-- Block g, a row of n strings of the call's own, begins with out. -/
def Strs (w : World) (g n : Nat) (out : List ByteArray) : Prop :=
  ∃ cur : Array Value, w.heap[g]? = some (.cells cur 9 (0, 0)) ∧ cur.size = n ∧ out.length ≤ n ∧ ∀ i, i < out.length → cur[i]? = some (.string (out.getD i ByteArray.empty))
theorem Strs.lt {w : World} {g n : Nat} {out : List ByteArray} (h : Strs w g n out) : g < w.heap.size := by
  obtain ⟨cur, hh, _⟩ := h; exact (Array.getElem?_eq_some_iff.1 hh).1
theorem Strs.cell {w : World} {g n : Nat} {out : List ByteArray} (h : Strs w g n out) (i : Nat) (hi : i < out.length) : w.cell? ⟨g, i, none⟩ = some (.string (out.getD i ByteArray.empty)) := by
  obtain ⟨cur, hh, _, _, hc⟩ := h
  rw [cell_of_row w g i cur 9 (0, 0) hh, hc i hi]
theorem Strs.room {w : World} {g n : Nat} {out : List ByteArray} (h : Strs w g n out) (i : Nat) (hi : i < n) : (∃ u, w.cell? ⟨g, i, none⟩ = some u) ∧ w.frozen? ⟨g, i, none⟩ = false := by
  obtain ⟨cur, hh, hs, _, hc⟩ := h
  refine ⟨?_, frozen_of_row w g i cur 9 hh⟩
  rw [cell_of_row w g i cur 9 (0, 0) hh]
  exact ⟨_, Array.getElem?_eq_getElem (by omega)⟩
theorem Strs.start {w : World} {base g n : Nat} (h : w.ownsRow base 9 1 (.slice (some ⟨g, 0, none⟩) 0 n) 0 []) : Strs w g n [] := by
  rcases h.2 with ⟨h', _⟩ | ⟨g', cap', cur, h', _, hg, _, _, hs, _⟩
  · simp at h'
  · simp only [Value.slice.injEq, Option.some.injEq, Addr.mk.injEq, and_true, true_and] at h'
    obtain ⟨rfl, rfl⟩ := h'
    exact ⟨cur, hg, by omega, by simp, fun i hi => by simp at hi⟩
theorem Strs.kept {w w' : World} {g n : Nat} {out : List ByteArray} (h : Strs w g n out) (he : w'.heap[g]? = w.heap[g]?) : Strs w' g n out := by
  obtain ⟨cur, hh, r⟩ := h; exact ⟨cur, by rw [he]; exact hh, r⟩
theorem Strs.alloc {w : World} {g n : Nat} {out : List ByteArray} (h : Strs w g n out) (o : Obj) : Strs (w.alloc o) g n out := h.kept (Below.heap_alloc _ _ _ h.lt)
theorem Strs.push {w : World} {g n : Nat} {out : List ByteArray} (h : Strs w g n out) (s : ByteArray) (hl : out.length < n) (L : Nat) (hL : L = out.length) : Strs (w.setCell ⟨g, L, none⟩ (.string s)) g n (out ++ [s]) := by
  subst hL
  obtain ⟨cur, hh, hs, hle, hc⟩ := h
  refine ⟨cur.setIfInBounds out.length (.string s), heap_setCell_same w g _ cur 9 _ hh, by simpa using hs, by simp; omega, fun i hi => ?_⟩
  by_cases e : i = out.length
  · subst e
    have : out.length < cur.size := by omega
    simp [this, List.getD_eq_getElem?_getD]
  · have hi2 : i < out.length := by simp at hi; omega
    have e2 : ¬ out.length = i := fun h => e h.symm
    have h3 := hc i hi2
    simp [Array.getElem?_setIfInBounds, e2, h3, List.getD_eq_getElem?_getD, List.getElem?_append, hi2]

theorem prow_own {w : World} {base g len cap : Nat} {xs : List Value} {ps : List Par} (h : w.ownsRow base 37 6 (.slice (some ⟨g, 0, none⟩) len cap) len xs) (hi : ∀ i, i < len → InList xs (i * 6) (ps.getD i blank)) (hl : ps.length = len) : PRow w (some ⟨g, 0, none⟩) len ps := by
  refine ⟨hl, fun hp => ⟨g, 0, rfl, (h.lt g rfl).2, fun i hlt => ?_⟩⟩
  have hx := hi i hlt
  have c : ∀ j, j < 6 → w.cell? ⟨g, 0 + i * 6 + j, none⟩ = xs[i * 6 + j]? := fun j hj => by rw [Nat.zero_add]; exact h.cellAt _ (by omega)
  exact ⟨(c 0 (by omega)).trans hx.name, (c 1 (by omega)).trans hx.ty, (c 2 (by omega)).trans hx.req, (c 3 (by omega)).trans hx.paired, (c 4 (by omega)).trans hx.opt, (c 5 (by omega)).trans hx.framing⟩
theorem PRow.below {W w : World} {a : Option Addr} {len : Nat} {ps : List Par} (h : PRow W a len ps) (hb : Below W.heap.size W w) : PRow w a len ps := by
  refine ⟨h.1, fun hp => ?_⟩
  obtain ⟨b, off, rfl, hlt, hc⟩ := h.2 hp
  refine ⟨b, off, rfl, Nat.lt_of_lt_of_le hlt hb.size, fun i hi => ?_⟩
  have c := hc i hi
  exact ⟨(hb.cell (by exact hlt)).trans c.name, (hb.cell (by exact hlt)).trans c.ty, (hb.cell (by exact hlt)).trans c.req, (hb.cell (by exact hlt)).trans c.paired, (hb.cell (by exact hlt)).trans c.opt, (hb.cell (by exact hlt)).trans c.framing⟩

/-- The loop's relation: at place k the words 'out' have been gathered. -/
structure NRel (ps : List Par) (a : Option Addr) (len cap : Nat) (w wr : World) (k : Nat) (out : List ByteArray) : Prop where
  le : k ≤ len
  ahead : out ++ names (ps.drop k) = names ps
  few : out.length ≤ k
  strs : Strs wr (w.heap.size + 1) len out
  cell : wr.cell? ⟨w.heap.size, 2, none⟩ = some (.slice a len cap)
  below : Below w.heap.size w wr
  size : w.heap.size + 1 < wr.heap.size

/-- One word more: p's own block, the word's block, the store. -/
theorem NRel.step {ps : List Par} {a : Option Addr} {len cap : Nat} {w wr : World} {k : Nat} {out : List ByteArray} (h : NRel ps a len cap w wr k out) (k' : Nat) (s : ByteArray) (o1 o2 : Obj) (hk : k < k') (hk' : k' ≤ len) (ha : names (ps.drop k) = s :: names (ps.drop k')) :
    NRel ps a len cap w (((wr.setCell ⟨w.heap.size + 1, out.length, none⟩ (.string s)).alloc o1).alloc o2) k' (out ++ [s]) := by
  have hf := h.few
  have hl := h.le
  have hsz := h.size
  have hs1 : (wr.setCell ⟨w.heap.size + 1, out.length, none⟩ (.string s)).heap.size = wr.heap.size := by simp [World.setCell]
  refine ⟨hk', ?_, by simp; omega, ((h.strs.push s (by omega) _ rfl).alloc o1).alloc o2, ?_, ?_, ?_⟩
  · have := h.ahead
    rw [ha] at this
    simpa using this
  · rw [World.cell?_alloc_past (hn := by simp [hs1]; omega), World.cell?_alloc_past (hn := by rw [hs1]; omega), World.cell?_setCell_other _ _ _ _ (by simp)]
    exact h.cell
  · have hb := h.below.setCell (p := ⟨w.heap.size + 1, out.length, none⟩) (by simp) (.string s)
    exact (hb.alloc (by rw [hs1]; omega) o1).alloc (by simp [hs1]; omega) o2
  · simp [hs1]; omega
theorem NRel.draw {ps : List Par} {a : Option Addr} {len cap : Nat} {w wr : World} {k : Nat} {out : List ByteArray} (h : NRel ps a len cap w wr k out) : NRel ps a len cap w wr.drew k out :=
  ⟨h.le, h.ahead, h.few, h.strs, h.cell, h.below.drew, h.size⟩

set_option maxRecDepth 100000 in
set_option maxHeartbeats 2000000 in
theorem names_any (nm sm : ByteArray) (b1 b2 b3 b4 : Bool) (a : Option Addr) (len cap : Nat) (ps : List Par) (w : World) (hr : PRow w a len ps) (hlen : len ≤ 65536) (hs : Short ps) :
    Calls Try.prog 8 #[.agg #[.string nm, .string sm, .slice a len cap, .bool b1, .bool b2, .bool b3, .bool b4]] w fun e w' => ∃ g, e = .returned (.slice (some ⟨g, 0, none⟩) (names ps).length len) ∧ Strs w' g len (names ps) ∧ w.heap.size ≤ g ∧ Below w.heap.size w w' := by
  obtain ⟨i0, hi, hz0, hz1, hz2⟩ := info_parts Try.info9
  have HR : Hid (PRow w a len ps) := hr
  have HS : Hid (Short ps) := hs
  clear hr hs
  go_enter Try.func8, Try.ntmps8
  go_wp2_with (first
    | (at_make; refine wpList_make_own _ rfl _ _ 29 rfl (w.heap.size + 1) 9 i0 _ 1 Try.underlying29 hi hz0 hz1 .i64 .i64 _ len rfl rfl rfl (by rw [hz2]; omega) (by unfold maxLen; omega) (by simp) ?_; intro w1 hown hgrow))
  clear hi hz0 hz1 hz2
  go_loopw [3, 4] (fun v i wr => ∃ (k : Nat) (out : List ByteArray), i = .int .i64 k ∧ v = .slice (some ⟨w.heap.size + 1, 0, none⟩) out.length len ∧ NRel ps a len cap w wr k out) (fun _ i _ => len - (intOf i).toNat)
  case atStart =>
    refine ⟨0, [], rfl, rfl, Nat.zero_le _, by simp, Nat.le_refl _, Strs.start (by simpa using hown), ?_, ?_, ?_⟩
    · rw [World.cell?_of_block (hgrow.block w.heap.size (by simp) (by simp))]
      simp [go_sem]
    · exact ((Below.refl _ _).alloc (Nat.le_refl _) _).grown hgrow (by simp) (fun _ h => by cases h)
    · simpa using (hown.lt _ rfl).2
  case round =>
    clear hown hgrow
    obtain ⟨k, out, rfl, rfl, hrel⟩ := hrel
    have HN : Hid (NRel ps a len cap w wr k out) := hrel
    have hB := hrel.cell
    have hk := hrel.le
    have hfew := hrel.few
    have hsz := hrel.size
    have hsz0 : w.heap.size < wr.heap.size := by omega
    clear hrel
    by_cases hlt : k < len
    · obtain ⟨b, off, rfl, hb, hc⟩ := HR.out.2 (by omega)
      have c := hc k hlt
      have hbel := HN.out.below
      have c0 : wr.cell? ⟨b, off + k * 6, none⟩ = _ := (hbel.cell (by exact hb)).trans c.name
      have c1 : wr.cell? ⟨b, off + k * 6 + 1, none⟩ = _ := (hbel.cell (by exact hb)).trans c.ty
      have c2 : wr.cell? ⟨b, off + k * 6 + 2, none⟩ = _ := (hbel.cell (by exact hb)).trans c.req
      have c3 : wr.cell? ⟨b, off + k * 6 + 3, none⟩ = _ := (hbel.cell (by exact hb)).trans c.paired
      have c4 : wr.cell? ⟨b, off + k * 6 + 4, none⟩ = _ := (hbel.cell (by exact hb)).trans c.opt
      have c5 : wr.cell? ⟨b, off + k * 6 + 5, none⟩ = _ := (hbel.cell (by exact hb)).trans c.framing
      obtain ⟨⟨u, hu⟩, hfz⟩ := HN.out.strs.room out.length (by omega)
      have hpm : ps.getD k blank ∈ ps := by
        have : k < ps.length := by rw [HR.out.1]; exact hlt
        rw [List.getD_eq_getElem?_getD, List.getElem?_eq_getElem this]
        exact List.getElem_mem this
      have hsn := (HS.out _ hpm).1
      have hbl : b < wr.heap.size := Nat.lt_of_lt_of_le hb hbel.size
      have HC : Hid (∀ i, i < len → CellsAt w b (off + i * 6) (ps.getD i blank)) := hc
      have HL : Hid (Below w.heap.size w wr) := hbel
      clear hc c hbel hpm
      by_cases g1 : (ps.getD k blank).paired = true
      · by_cases g2 : k + 1 < len
        · have HA : Hid (names (ps.drop k) = pair (ps.getD k blank) (ps.getD (k + 1) blank) :: names (ps.drop (k + 2))) := names_drop_pair ps k (by rw [HR.out.1]; exact g2) g1
          unfold pair at HA
          have d0 : wr.cell? ⟨b, off + (k + 1) * 6, none⟩ = _ := (HL.out.cell (by exact hb)).trans (HC.out (k + 1) g2).name
          have hqm : ps.getD (k + 1) blank ∈ ps := by
            have : k + 1 < ps.length := by rw [HR.out.1]; exact g2
            rw [List.getD_eq_getElem?_getD, List.getElem?_eq_getElem this]
            exact List.getElem_mem this
          have hsq := (HS.out _ hqm).1
          clear hqm
          generalize ps.getD (k + 1) blank = q at d0 hsq HA
          generalize ps.getD k blank = p at *
          rw [g1] at c3
          have g2' : (k : Int) + 1 < len := by omega
          go_wp2
          go_region
          go_wp2
          go_roundw
          case rel => exact ⟨k + 2, out ++ [_], by go_num, by simp, (HN.out.step (k + 2) _ _ _ (by omega) (by omega) HA.out).draw⟩
          case measure => simp [intOf]; omega
        · have HA : Hid (names (ps.drop k) = single (ps.getD k blank) :: names (ps.drop (k + 1))) := names_drop_single ps k (by rw [HR.out.1]; exact hlt) (fun h => g2 (by rw [← HR.out.1]; exact h.2))
          unfold single at HA
          generalize ps.getD k blank = p at *
          rw [g1] at c3
          have g2' : ¬ (k : Int) + 1 < len := by omega
          by_cases g3 : p.opt = true
          · rw [if_pos g3] at HA
            rw [g3] at c4
            go_wp2
            go_roundw
            case rel => exact ⟨k + 1, out ++ [_], by go_num, by simp, HN.out.step (k + 1) _ _ _ (by omega) (by omega) HA.out⟩
            case measure => simp [intOf]; omega
          · have g3' : p.opt = false := by simpa using g3
            rw [if_neg g3] at HA
            rw [g3'] at c4
            by_cases g4 : (p.ty.toList == [97, 114, 114, 97, 121]) = true
            · rw [if_pos g4] at HA
              go_wp2
              go_roundw
              case rel => exact ⟨k + 1, out ++ [_], by go_num, by simp, HN.out.step (k + 1) _ _ _ (by omega) (by omega) HA.out⟩
              case measure => simp [intOf]; omega
            · rw [if_neg g4] at HA
              have g4' : (p.ty.toList == [97, 114, 114, 97, 121]) = false := by simpa using g4
              clear g4
              go_wp2
              go_roundw
              case rel => exact ⟨k + 1, out ++ [_], by go_num, by simp, HN.out.step (k + 1) _ _ _ (by omega) (by omega) HA.out⟩
              case measure => simp [intOf]; omega
      · have g1' : (ps.getD k blank).paired = false := by simpa using g1
        have HA : Hid (names (ps.drop k) = single (ps.getD k blank) :: names (ps.drop (k + 1))) := names_drop_single ps k (by rw [HR.out.1]; exact hlt) (fun h => g1 h.1)
        unfold single at HA
        clear g1
        generalize ps.getD k blank = p at *
        rw [g1'] at c3
        by_cases g3 : p.opt = true
        · rw [if_pos g3] at HA
          rw [g3] at c4
          go_wp2
          go_roundw
          case rel => exact ⟨k + 1, out ++ [_], by go_num, by simp, HN.out.step (k + 1) _ _ _ (by omega) (by omega) HA.out⟩
          case measure => simp [intOf]; omega
        · have g3' : p.opt = false := by simpa using g3
          rw [if_neg g3] at HA
          rw [g3'] at c4
          by_cases g4 : (p.ty.toList == [97, 114, 114, 97, 121]) = true
          · rw [if_pos g4] at HA
            go_wp2
            go_roundw
            case rel => exact ⟨k + 1, out ++ [_], by go_num, by simp, HN.out.step (k + 1) _ _ _ (by omega) (by omega) HA.out⟩
            case measure => simp [intOf]; omega
          · rw [if_neg g4] at HA
            have g4' : (p.ty.toList == [97, 114, 114, 97, 121]) = false := by simpa using g4
            clear g4
            go_wp2
            go_roundw
            case rel => exact ⟨k + 1, out ++ [_], by go_num, by simp, HN.out.step (k + 1) _ _ _ (by omega) (by omega) HA.out⟩
            case measure => simp [intOf]; omega
    · have hx : len ≤ k := by omega
      have HE : Hid (out = names ps) := by
        show out = names ps
        have := HN.out.ahead
        rw [List.drop_eq_nil_of_le (by rw [HR.out.1]; exact hx)] at this
        simpa [names] using this
      go_wp2
      go_ret
      exact ⟨w.heap.size + 1, by rw [← HE.out]; rfl, by rw [← HE.out]; exact HN.out.strs, by omega, HN.out.below⟩
end Go.Proofs.Qxb6629080a
