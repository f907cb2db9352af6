/-
  THE WALK of zzToParams.
-/
import Derived.Test.Qxb6629080aSteps
namespace Go.Proofs.Qxb6629080a
open Go.RowKit
set_option linter.unusedVariables false
set_option linter.unusedSimpArgs false

theorem Try.info37 : (Try.prog.info? 37).map (fun i => (i.zero, i.size, i.bytes)) = some (some (.agg #[.string ByteArray.empty, .string ByteArray.empty, .bool false, .bool false, .bool false, .bool false]), 6, 40) := by kernel_rfl

/-- The list xs holds the argument p from place o on. -/
structure InList (xs : List Value) (o : Nat) (p : Par) : Prop where
  name : xs[o]? = some (.string p.name)
  ty : xs[o + 1]? = some (.string p.ty)
  req : xs[o + 2]? = some (.bool p.req)
  paired : xs[o + 3]? = some (.bool p.paired)
  opt : xs[o + 4]? = some (.bool p.opt)
  framing : xs[o + 5]? = some (.bool p.framing)

def set6 (xs : List Value) (o : Nat) (p : Par) : List Value :=
  (((((xs.set o (.string p.name)).set (o + 1) (.string p.ty)).set (o + 2) (.bool p.req)).set (o + 3) (.bool p.paired)).set (o + 4) (.bool p.opt)).set (o + 5) (.bool p.framing)
theorem set6_len (xs : List Value) (o : Nat) (p : Par) : (set6 xs o p).length = xs.length := by simp [set6]
theorem set6_in (xs : List Value) (o : Nat) (p : Par) (h : o + 5 < xs.length) : InList (set6 xs o p) o p := by
  constructor <;> (unfold set6; simp [List.getElem?_set]; try omega)
theorem set6_other (xs : List Value) (o j : Nat) (p : Par) (h : j < o ∨ o + 6 ≤ j) : (set6 xs o p)[j]? = xs[j]? := by
  unfold set6
  rw [List.getElem?_set_ne (by omega), List.getElem?_set_ne (by omega), List.getElem?_set_ne (by omega), List.getElem?_set_ne (by omega), List.getElem?_set_ne (by omega), List.getElem?_set_ne (by omega)]

def setW6 (w : World) (g o : Nat) (p : Par) : World :=
  (((((w.setCell ⟨g, o, none⟩ (.string p.name)).setCell ⟨g, o + 1, none⟩ (.string p.ty)).setCell ⟨g, o + 2, none⟩ (.bool p.req)).setCell ⟨g, o + 3, none⟩ (.bool p.paired)).setCell ⟨g, o + 4, none⟩ (.bool p.opt)).setCell ⟨g, o + 5, none⟩ (.bool p.framing)

theorem owns_set6 {w : World} {base g n cap e size : Nat} {xs : List Value} (h : w.ownsRow base e size (.slice (some ⟨g, 0, none⟩) n cap) n xs) (o : Nat) (p : Par) : (setW6 w g o p).ownsRow base e size (.slice (some ⟨g, 0, none⟩) n cap) n (set6 xs o p) :=
  ((((((h.stored o _).1.stored (o + 1) _).1.stored (o + 2) _).1.stored (o + 3) _).1.stored (o + 4) _).1.stored (o + 5) _).1
theorem below_set6 {B : Nat} {a w : World} (h : Below B a w) {g : Nat} (hg : B ≤ g) (o : Nat) (p : Par) : Below B a (setW6 w g o p) :=
  (((((h.setCell (p := ⟨g, o, none⟩) hg _).setCell (p := ⟨g, o + 1, none⟩) hg _).setCell (p := ⟨g, o + 2, none⟩) hg _).setCell (p := ⟨g, o + 3, none⟩) hg _).setCell (p := ⟨g, o + 4, none⟩) hg _).setCell (p := ⟨g, o + 5, none⟩) hg _

theorem toParams_step {w wr : World} {len k : Nat} {xs : List Value} {ps : List Par} {p : Par} (hk : k + 1 ≤ len) (hown : wr.ownsRow w.heap.size 37 6 (.slice (some ⟨w.heap.size, 0, none⟩) len len) len xs)
    (hin : ∀ i, i < k → InList xs (i * 6) (ps.getD i blank)) (hbel : Below w.heap.size w wr) (hp : ps.getD k blank = p) (hl : k * 6 + 5 < xs.length) :
    ∃ (k_1 : Nat) (xs : List Value), k_1 ≤ len ∧ Value.int .i64 ((k : Int) + 1) = Value.int .i64 (k_1 : Int) ∧ (setW6 wr w.heap.size (k * 6) p).drew.ownsRow w.heap.size 37 6 (.slice (some ⟨w.heap.size, 0, none⟩) len len) len xs ∧ (∀ i, i < k_1 → InList xs (i * 6) (ps.getD i blank)) ∧ Below w.heap.size w (setW6 wr w.heap.size (k * 6) p).drew := by
  refine ⟨k + 1, set6 xs (k * 6) p, hk, by simp, World.ownsRow.drew (owns_set6 hown (k * 6) p), fun i hi => ?_, Below.drew (below_set6 hbel (Nat.le_refl _) (k * 6) p)⟩
  by_cases e : i = k
  · subst e
    rw [hp]
    exact set6_in xs _ p hl
  · have h := hin i (by omega)
    have ho : ∀ j, j < 6 → (set6 xs (k * 6) p)[i * 6 + j]? = xs[i * 6 + j]? := fun j hj => set6_other xs _ _ p (by omega)
    exact ⟨(ho 0 (by omega)).trans h.name, (ho 1 (by omega)).trans h.ty, (ho 2 (by omega)).trans h.req, (ho 3 (by omega)).trans h.paired, (ho 4 (by omega)).trans h.opt, (ho 5 (by omega)).trans h.framing⟩

set_option maxRecDepth 100000 in
set_option maxHeartbeats 2000000 in
theorem toParams_any (a : Option Addr) (len cap : Nat) (ps : List Par) (w : World) (hr : PRow w a len ps) (hlen : len ≤ 16384) :
    Calls Try.prog 7 #[.slice a len cap] w fun e w' => e = .returned (.slice (some ⟨w.heap.size, 0, none⟩) len len) ∧ (∃ xs, w'.ownsRow w.heap.size 37 6 (.slice (some ⟨w.heap.size, 0, none⟩) len len) len xs ∧ ∀ i, i < len → InList xs (i * 6) (ps.getD i blank)) ∧ Below w.heap.size w w' := by
  obtain ⟨i0, hi, hz0, hz1, hz2⟩ := info_parts Try.info37
  have HR : Hid (PRow w a len ps) := hr
  clear hr
  go_enter Try.func7, Try.ntmps7
  go_wp2_with (first
    | (at_make; refine wpList_make_full _ rfl _ _ 25 rfl w.heap.size 37 i0 _ 6 Try.underlying25 hi hz0 hz1 .i64 .i64 _ _ len rfl rfl rfl rfl (by rw [hz2]; omega) (by unfold maxLen; omega) (Nat.le_refl _) ?_; intro w1 hown hgrow))
  clear hi hz0 hz1 hz2
  go_loopw [4] (fun i wr => ∃ (k : Nat) (xs : List Value), k ≤ len ∧ i = .int .i64 k ∧ wr.ownsRow w.heap.size 37 6 (.slice (some ⟨w.heap.size, 0, none⟩) len len) len xs ∧ (∀ i, i < k → InList xs (i * 6) (ps.getD i blank)) ∧ Below w.heap.size w wr) (fun i _ => len - (intOf i).toNat)
  case atStart => exact ⟨0, _, Nat.zero_le _, rfl, hown, fun i hi => by omega, (Below.refl _ _).grown hgrow (Nat.le_refl _) (fun _ h => by cases h)⟩
  case round =>
    clear hown hgrow
    obtain ⟨k, xs, hk, rfl, hown, hin, hbel⟩ := hrel
    have HO : Hid (wr.ownsRow w.heap.size 37 6 (.slice (some ⟨w.heap.size, 0, none⟩) len len) len xs) := hown
    have HI : Hid (∀ i, i < k → InList xs (i * 6) (ps.getD i blank)) := hin
    have HB : Hid (Below w.heap.size w wr) := hbel
    clear hown hin hbel
    by_cases hlt : k < len
    · obtain ⟨b, off, rfl, hb, hc⟩ := HR.out.2 (by omega)
      have c := hc k hlt
      have c0 : wr.cell? ⟨b, off + k * 6, none⟩ = _ := (HB.out.cell (by exact hb)).trans c.name
      have c1 : wr.cell? ⟨b, off + k * 6 + 1, none⟩ = _ := (HB.out.cell (by exact hb)).trans c.ty
      have c2 : wr.cell? ⟨b, off + k * 6 + 2, none⟩ = _ := (HB.out.cell (by exact hb)).trans c.req
      have c3 : wr.cell? ⟨b, off + k * 6 + 3, none⟩ = _ := (HB.out.cell (by exact hb)).trans c.paired
      have c4 : wr.cell? ⟨b, off + k * 6 + 4, none⟩ = _ := (HB.out.cell (by exact hb)).trans c.opt
      have c5 : wr.cell? ⟨b, off + k * 6 + 5, none⟩ = _ := (HB.out.cell (by exact hb)).trans c.framing
      have hxl : xs.length = len * 6 := HO.out.1
      have ex : ∀ j, j < 6 → ∃ u, wr.cell? ⟨w.heap.size, k * 6 + j, none⟩ = some u := fun j hj => by
        rw [HO.out.cellAt (k * 6 + j) (by omega)]
        exact ⟨_, List.getElem?_eq_getElem (by omega)⟩
      obtain ⟨u0, e0⟩ := ex 0 (by omega)
      obtain ⟨u1, e1⟩ := ex 1 (by omega)
      obtain ⟨u2, e2⟩ := ex 2 (by omega)
      obtain ⟨u3, e3⟩ := ex 3 (by omega)
      obtain ⟨u4, e4⟩ := ex 4 (by omega)
      obtain ⟨u5, e5⟩ := ex 5 (by omega)
      simp only [Nat.add_zero] at e0
      have f0 := HO.out.frozenAt (k * 6)
      have f1 := HO.out.frozenAt (k * 6 + 1)
      have f2 := HO.out.frozenAt (k * 6 + 2)
      have f3 := HO.out.frozenAt (k * 6 + 3)
      have f4 := HO.out.frozenAt (k * 6 + 4)
      have f5 := HO.out.frozenAt (k * 6 + 5)
      have HX : Hid (xs.length = len * 6) := hxl
      clear hxl ex c hc
      generalize hp : ps.getD k blank = p at c0 c1 c2 c3 c4 c5
      have HP : Hid (ps.getD k blank = p) := hp
      clear hp
      go_wp2
      go_region
      go_wp2
      go_roundw
      case rel => exact toParams_step (by omega) HO.out HI.out HB.out HP.out (by have := HX.out; omega)
      case measure => simp [intOf]; omega
    · go_wp2
      go_ret
      exact ⟨rfl, ⟨xs, HO.out, fun i hi => HI.out i (by omega)⟩, HB.out⟩
end Go.Proofs.Qxb6629080a
