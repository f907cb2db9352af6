/-
  Rows of floats that the call made itself; the two size tests.
-/
import Derived.Test.Qxb6629104aUp
import Derived.OwnWalk
import Derived.Laws.CopyOwn
namespace Go.Proofs.Qxb6629104a
open Go.RowKit
set_option linter.unusedVariables false
set_option linter.unusedSimpArgs false

theorem Try.info24 : (Try.prog.info? 24).map (fun i => (i.zero, i.size, i.bytes)) = some (some (.float .f64 0), 1, 8) := by kernel_rfl
theorem Try.size24 : (Try.prog.info? 24).map (·.size) = some 1 := by kernel_rfl
theorem info24_parts : ∃ i, Try.prog.info? 24 = some i ∧ i.zero = some (.float .f64 0) ∧ i.size = 1 ∧ i.bytes = 8 := by
  have h := Try.info24
  cases hi : Try.prog.info? 24 with
  | none => rw [hi] at h; cases h
  | some i =>
    rw [hi] at h
    simp only [Option.map_some, Option.some.injEq, Prod.mk.injEq] at h
    exact ⟨i, rfl, h.1, h.2.1, h.2.2⟩
@[go_sem] theorem run_neg_float {P : Program} {w : World} (x : Nat) : (Op.unary .neg (.float .f64 x)).run P w = .ok (.float .f64 (ng x)) w := rfl

def vals (xs : List Nat) : List Value := xs.map (Value.float .f64)
theorem vals_length (xs : List Nat) : (vals xs).length = xs.length := by simp [vals]
theorem vals_at (xs : List Nat) (i : Nat) (h : i < xs.length) : (vals xs).toArray[i]? = some (.float .f64 (xs.getD i 0)) := by
  simp [vals, List.getD_eq_getElem?_getD, h]
theorem vals_set (xs : List Nat) (i v : Nat) : (vals xs).toArray.setIfInBounds i (.float .f64 v) = (vals (xs.set i v)).toArray := by
  simp [vals, List.map_set]

/-- Block g is a row of the floats xs. -/
structure FB (w : World) (g : Nat) (xs : List Nat) : Prop where
  at_ : w.heap[g]? = some (.cells (vals xs).toArray 24 (0, 0))
  fits : ∀ x ∈ xs, x < 18446744073709551616
theorem FB.lt {w : World} {g : Nat} {xs : List Nat} (h : FB w g xs) : g < w.heap.size := (Array.getElem?_eq_some_iff.1 h.at_).1
theorem FB.cell {w : World} {g : Nat} {xs : List Nat} (h : FB w g xs) (i : Nat) (hi : i < xs.length) : w.cell? ⟨g, i, none⟩ = some (.float .f64 (xs.getD i 0)) := by
  rw [cell_of_row w g i _ _ _ h.at_, vals_at xs i hi]
theorem FB.free {w : World} {g : Nat} {xs : List Nat} (h : FB w g xs) (i : Nat) : w.frozen? ⟨g, i, none⟩ = false := frozen_of_row w g i _ _ h.at_
theorem FB.row {w : World} {g : Nat} {xs : List Nat} (h : FB w g xs) (n : Nat) (hn : xs.length = n) : FRow w (some ⟨g, 0, none⟩) n xs :=
  ⟨hn, h.fits, fun _ => ⟨g, 0, rfl, h.lt, fun i hi => by rw [Nat.zero_add]; exact h.cell i (by omega)⟩⟩
theorem FB.below {B : Nat} {w w' : World} {g : Nat} {xs : List Nat} (h : FB w g xs) (hb : Below B w w') (hg : g < B) : FB w' g xs := ⟨(hb.block g hg).trans h.at_, h.fits⟩
theorem FB.keep {w w' : World} {g : Nat} {xs : List Nat} (h : FB w g xs) (hb : Below w.heap.size w w') : FB w' g xs := h.below hb h.lt
theorem FB.set {w : World} {g : Nat} {xs : List Nat} (h : FB w g xs) (i v : Nat) (hv : v < 18446744073709551616) : FB (w.setCell ⟨g, i, none⟩ (.float .f64 v)) g (xs.set i v) :=
  ⟨by rw [heap_setCell_same w g i _ _ _ h.at_, vals_set], fun x hx => by
    rcases List.mem_or_eq_of_mem_set hx with h' | rfl
    · exact h.fits x h'
    · exact hv⟩
theorem FB.other {w : World} {g : Nat} {xs : List Nat} (h : FB w g xs) (a : Addr) (v : Value) (ha : g ≠ a.block) : FB (w.setCell a v) g xs := ⟨(heap_setCell_other w a g v ha).trans h.at_, h.fits⟩

section
variable {ops : Array Oper} {rest : List Oper} {o : Oper} {a : Act} {w : World} {Q : Exit → Act → World → Prop}
/-- 'make([]float64, n)'. -/
theorem wpList_make24 (hgd : o.guard = none) (l : Operand) (ho : o.op = .makeSlice 22 l l) (n : Nat) (hn : n ≤ 1048576) (hl : a.eval l = .int .i64 (n : Int))
    (h : ∀ w1, Hid (FB w1 w.heap.size (List.replicate n 0)) → Hid (Below w.heap.size w w1) → wpList Try.prog ops Q rest (a.put o.dst (.slice (some ⟨w.heap.size, 0, none⟩) n n)) w1) : wpList Try.prog ops Q (o :: rest) a w := by
  obtain ⟨i0, hi, hz0, hz1, hz2⟩ := info24_parts
  refine wpList_make_full w hgd l l 22 ho w.heap.size 24 i0 _ 1 Try.underlying22 hi hz0 hz1 .i64 .i64 _ _ n hl hl rfl rfl (by rw [hz2]; omega) (by unfold maxLen; omega) (Nat.le_refl _) ?_
  intro w1 hown hgrow
  refine h w1 (show FB _ _ _ from ⟨?_, fun x hx => by rw [List.eq_of_mem_replicate hx]; decide⟩) (show Below _ _ _ from (Below.refl _ _).grown hgrow (Nat.le_refl _) (fun _ h => by cases h))
  rcases hown.2 with ⟨h', _⟩ | ⟨g', cap', cur, h', _, hg, _, _, hs, ht⟩
  · simp at h'
  · simp only [Value.slice.injEq, Option.some.injEq, Addr.mk.injEq, and_true, true_and] at h'
    obtain ⟨rfl, rfl⟩ := h'
    rw [hg]
    have e1 : cur.toList = (madeCells (Value.float .f64 0).cells (n * 1)).toList := by rw [← ht, List.take_of_length_le (by simp [hs])]
    have e2 : cur.toList = vals (List.replicate n 0) := by
      rw [e1]
      apply List.ext_getElem
      · simp [size_madeCells, vals_length]
      · intro i h1 h2
        simp [madeCells, vals, Value.cells, Nat.mod_one]
    have e3 : cur = (vals (List.replicate n 0)).toArray := by rw [← e2]
    rw [e3]
/-- 'copy' of a whole slice into a new row. -/
theorem wpList_copy24 (hgd : o.guard = none) (d s : Operand) (ho : o.op = .call { callee := .builtin .copy, args := #[d, s], argTypes := #[22, 22] }) (n g cap : Nat) (p : Option Addr) (xs : List Nat) (hn : 0 < n) (hd : a.eval d = .slice (some ⟨g, 0, none⟩) n n) (hs : a.eval s = .slice p n cap)
    (hZ : FB w g (List.replicate n 0)) (hX : FRow w p n xs)
    (h : ∀ w1, Hid (FB w1 g xs) → Hid (Below g w w1) → wpList Try.prog ops Q rest (a.put o.dst (goInt n)) w1) : wpList Try.prog ops Q (o :: rest) a w := by
  obtain ⟨b, off, rfl, hb, hc⟩ := hX.2.2 hn
  have hlen : (vals xs).length = n := by rw [vals_length, hX.1]
  have e : (List.take 0 (vals (List.replicate n 0)).toArray.toList ++ (vals xs ++ List.drop (0 + (vals xs).length) (vals (List.replicate n 0)).toArray.toList)) = vals xs := by
    rw [List.drop_of_length_le (by simp [vals_length, hX.1])]
    simp
  refine wpList_copy_own hgd d s 22 22 ho 24 Try.underlying22 Try.size24 g 0 n n ⟨b, off, none⟩ n cap hd hs _ 24 hZ.at_ (vals xs) (by rw [hlen]; exact (Nat.min_self n).symm) ?_ (by simp [vals_length, hX.1]) ?_ ?_
  · intro j v hv
    have hj : j < n := by rw [← hlen]; exact (List.getElem?_eq_some_iff.1 hv).1
    have h1 := vals_at xs j (by rw [hX.1]; exact hj)
    rw [List.getElem?_toArray] at h1
    rw [h1] at hv
    rw [← hv]
    have hadd : (⟨b, off, none⟩ : Addr).add j = ⟨b, off + j, none⟩ := by unfold Addr.add; split <;> simp_all
    rw [hadd]
    exact hc j hj
  · intro v hv
    simp only [vals, List.mem_map] at hv
    obtain ⟨x, _, rfl⟩ := hv
    rfl
  · rw [e, hlen]
    exact h _ ⟨setRow_heap w g _ _ _ _ hZ.at_, hX.2.1⟩ (Below.setRow' (Below.refl _ _) g (Nat.le_refl _) _)
end

/-- zzBytes of one slice. -/
theorem bytes1_any (a : Option Addr) (len cap : Nat) (w : World) (hlen : len < 9223372036854775808) :
    Calls Try.prog 9 #[.slice a len cap] w fun e w' => e = .returned (.bool (decide (len ≤ 1048576))) ∧ w' = w := by
  by_cases h : len ≤ 1048576
  · rw [decide_eq_true h]
    go_enter Try.func9, Try.ntmps9
    go_wp2
    go_ret
    exact ⟨rfl, rfl⟩
  · rw [decide_eq_false h]
    have h' : 1048576 < len := by omega
    go_enter Try.func9, Try.ntmps9
    go_wp2
    go_ret
    exact ⟨rfl, rfl⟩
def bytes2 (len len' : Nat) : Bool := decide (len + len' ≤ 1048576)
theorem bytes2_any (a a' : Option Addr) (len cap len' cap' : Nat) (w : World) (hlen : len < 9223372036854775808) (hlen' : len' < 9223372036854775808) :
    Calls Try.prog 5 #[.slice a len cap, .slice a' len' cap'] w fun e w' => e = .returned (.bool (bytes2 len len')) ∧ w' = w := by
  unfold bytes2
  by_cases h1 : len ≤ 1048576
  · by_cases h2 : len' ≤ 1048576
    · by_cases h : len + len' ≤ 1048576
      · rw [decide_eq_true h]
        go_enter Try.func5, Try.ntmps5
        go_wp2
        go_ret
        exact ⟨rfl, rfl⟩
      · rw [decide_eq_false h]
        have h' : 1048576 < len + len' := by omega
        go_enter Try.func5, Try.ntmps5
        go_wp2
        go_ret
        exact ⟨rfl, rfl⟩
    · rw [decide_eq_false (by omega)]
      have h' : 1048576 < len' := by omega
      go_enter Try.func5, Try.ntmps5
      go_wp2
      go_ret
      exact ⟨rfl, rfl⟩
  · rw [decide_eq_false (by omega)]
    have h' : 1048576 < len := by omega
    go_enter Try.func5, Try.ntmps5
    go_wp2
    go_ret
    exact ⟨rfl, rfl⟩
end Go.Proofs.Qxb6629104a
