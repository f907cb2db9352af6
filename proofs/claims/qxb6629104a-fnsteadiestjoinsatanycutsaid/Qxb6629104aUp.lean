/-
  THE WALK of place.UpOf.
-/
import Derived.Test.Qxb6629104aArms
import Derived.Laws.Rows
import Derived.Laws.Tables
import Derived.Below
import Derived.BigRegion
namespace Go.Proofs.Qxb6629104a
open Go.RowKit
set_option linter.unusedVariables false
set_option linter.unusedSimpArgs false

@[go_sem] theorem run_store_float {P : Program} {w : World} {a : Addr} {m : Mode} (k : FloatKind) (n : Nat) : (store a (.float k n) m).run P w = stored P w a (.float k n) m := run_store P w a _ m rfl
theorem Try.size26 : (Try.prog.info? 26).map (·.size) = some 2 := by kernel_rfl
def pr (s m : Nat) : Array Value := #[.float .f64 s, .float .f64 m]

theorem Below.setRow' {B : Nat} {a w : World} (h : Below B a w) (g : Nat) (hp : B ≤ g) (cs : Array Value) : Below B a (w.setRow g cs) :=
  ⟨h.os, h.tape, h.output, by simpa using h.size, fun k hk => (setRow_other w g k cs (by omega)).trans (h.block k hk)⟩

theorem below_drewN {B : Nat} {a w : World} (h : Below B a w) (n : Nat) : Below B a (w.drewN n) := ⟨h.os, h.tape, h.output, h.size, h.block⟩

section
variable {ops : Array Oper} {rest : List Oper} {o : Oper} {a : Act} {wk : World} {Q : Exit → Act → World → Prop}
/-- a whole record, stored. -/
theorem wpList_store26 (hgd : o.guard = none) (x y : Operand) (ho : o.op = .store 26 x y) (g s m s' m' : Nat) (hg : wk.heap[g]? = some (.cells #[.float .f64 s', .float .f64 m'] 26 (0, 0))) (hx : a.eval x = .pointer (some ⟨g, 0, none⟩)) (hy : a.eval y = .agg #[.float .f64 s, .float .f64 m])
    (h : ∀ w1, w1.heap.size = wk.heap.size → w1.heap[g]? = some (.cells #[.float .f64 s, .float .f64 m] 26 (0, 0)) → (∀ k, k ≠ g → w1.heap[k]? = wk.heap[k]?) → (∀ B, B ≤ g → Below B wk w1) → wpList Try.prog ops Q rest (a.put o.dst undef) w1) : wpList Try.prog ops Q (o :: rest) a wk := by
  refine wpList_store_row hgd 26 x y ho g #[.float .f64 s, .float .f64 m] hx hy 26 _ hg Try.size26 rfl (by simp [Value.oneCell']) (h _ (by simp) (setRow_heap wk _ _ _ _ _ hg) (fun k hk => setRow_other wk _ k _ hk) (fun B hB => Below.setRow' (Below.refl _ _) g hB _))
end

def UpR (xs : List Nat) (s m : Nat) : Prop := Least s xs ∧ ∃ t, SumTo xs xs.length t ∧ DivR t (floatOfInt .f64 xs.length) m

/-- u's block. -/
structure URel (xs : List Nat) (w wr : World) (k : Nat) (s m : Nat) : Prop where
  le : k ≤ xs.length
  least : Least s (xs.getD 0 0 :: xs.take k)
  sum : SumTo xs k m
  blk : wr.heap[w.heap.size + 1]? = some (.cells #[.float .f64 s, .float .f64 m] 26 (0, 0))
  res : wr.heap[w.heap.size]? = some (.cells #[.float .f64 0, .float .f64 0] 26 (0, 0))
  below : Below w.heap.size w wr

set_option maxRecDepth 100000 in
set_option maxHeartbeats 2000000 in
theorem upOf_any (a : Option Addr) (len cap : Nat) (xs : List Nat) (w : World) (hr : FRow w a len xs) (h1 : 1 ≤ len) (hlen : len ≤ 1048576) :
    Calls Try.prog 6 #[.slice a len cap] w fun e w' => ∃ s m, e = .returned (.agg #[.float .f64 s, .float .f64 m]) ∧ UpR xs s m ∧ Below w.heap.size w w' := by
  obtain ⟨b, off, rfl, hb, hc⟩ := hr.2.2 h1
  have c := hc 0 h1
  rw [Nat.add_zero] at c
  have HC : Hid (∀ i, i < len → w.cell? ⟨b, off + i, none⟩ = some (.float .f64 (xs.getD i 0))) := hc
  have HR : Hid (xs.length = len ∧ ∀ x ∈ xs, x < 18446744073709551616) := ⟨hr.1, hr.2.1⟩
  clear hr hc
  generalize hx0 : xs.getD 0 0 = x0 at c
  have HX : Hid (xs.getD 0 0 = x0) := hx0
  clear hx0
  go_enter Try.func6, Try.ntmps6
  go_wp2_with (first
    | (refine wpList_store26 rfl (.tmp 3) (.tmp 9) rfl (w.heap.size + 1) x0 0 0 0 (heap_alloc2_new w _ _) rfl rfl ?_; intro w1 hs1 hb1 ho1 hB1))
  have hr1 : w1.heap[w.heap.size]? = _ := (ho1 w.heap.size (by omega)).trans (heap_alloc2_old w _ _)
  have hbe : Below w.heap.size w w1 := (((Below.refl _ _).alloc (Nat.le_refl _) _).alloc (by simp) _).trans (hB1 _ (by omega))
  clear ho1 hB1 hs1
  go_loopw [12] (fun i wr => ∃ k s m : Nat, i = .int .i64 k ∧ URel xs w wr k s m) (fun i _ => len - (intOf i).toNat)
  case atStart =>
    refine ⟨0, x0, 0, rfl, Nat.zero_le _, ?_, ?_, hb1, hr1, hbe⟩
    · rw [HX.out]
      refine least_one x0 (HR.out.2 _ ?_)
      rw [← HX.out]
      exact getD_mem (by rw [HR.out.1]; omega)
    · rfl
  case round => 
    obtain ⟨k, s, m, rfl, hrel⟩ := hrel
    clear hb1 hr1 hbe
    have hk : k ≤ len := by have := hrel.le; rw [HR.out.1] at this; exact this
    have hs := hrel.least.fits
    have hm := sumTo_fits _ _ _ hrel.sum
    have hb1 := hrel.blk
    have HN : Hid (URel xs w wr k s m) := hrel
    have f0 := frozen_of_row wr _ 0 _ _ hb1
    have f1 := frozen_of_row wr _ 1 _ _ hb1
    have e0 : wr.cell? ⟨w.heap.size + 1, 0, none⟩ = some (.float .f64 s) := cell_of_row wr _ 0 _ _ _ hb1
    have e1 : wr.cell? ⟨w.heap.size + 1, 1, none⟩ = some (.float .f64 m) := cell_of_row wr _ 1 _ _ _ hb1
    by_cases hlt : k < len
    · have c1 : wr.cell? ⟨b, off + k, none⟩ = some (.float .f64 (xs.getD k 0)) := (hrel.below.cell (by exact hb)).trans (HC.out k hlt)
      have hxk : xs.getD k 0 < 18446744073709551616 := HR.out.2 _ (getD_mem (by rw [HR.out.1]; omega))
      generalize hxe : xs.getD k 0 = xk at c1 hxk
      have HE : Hid (xs.getD k 0 = xk) := hxe
      clear hxe hrel hb1
      have HBL : Hid (wr.heap[w.heap.size + 1]? = some (.cells #[.float .f64 s, .float .f64 m] 26 (0, 0))) := HN.out.blk
      go_wp2_with (first
        | (refine wpList_fmin rfl (.tmp 17) (.tmp 18) rfl s xk rfl rfl hs hxk ?_; intro s' w2 hw2 hmin; have f0' : w2.frozen? ⟨w.heap.size + 1, 0, none⟩ = false := (by obtain ⟨n, rfl⟩ := hw2.out; exact f0); have e0' : w2.cell? ⟨w.heap.size + 1, 0, none⟩ = some (.float .f64 s) := (by obtain ⟨n, rfl⟩ := hw2.out; exact e0); have e1' : w2.cell? ⟨w.heap.size + 1, 1, none⟩ = some (.float .f64 m) := (by obtain ⟨n, rfl⟩ := hw2.out; exact e1); have f1' : w2.frozen? ⟨w.heap.size + 1, 1, none⟩ = false := (by obtain ⟨n, rfl⟩ := hw2.out; exact f1))
        | (refine wpList_fadd rfl (.tmp 22) (.tmp 23) rfl m xk rfl rfl ?_; intro m' w3 hw3 hadd
           have b3 : w3.heap[w.heap.size + 1]? = some (.cells #[.float .f64 s', .float .f64 m] 26 (0, 0)) := (by
             obtain ⟨n, rfl⟩ := hw3.out
             obtain ⟨n', rfl⟩ := hw2.out
             exact heap_setCell_same (wr.drewN n') _ 0 _ _ _ HBL.out)
           have f1'' := frozen_of_row w3 _ 1 _ _ b3
           have e1'' : w3.cell? ⟨w.heap.size + 1, 1, none⟩ = some (.float .f64 m) := cell_of_row w3 _ 1 _ _ _ b3
           have HB3 : Hid (w3.heap[w.heap.size + 1]? = some (.cells #[.float .f64 s', .float .f64 m] 26 (0, 0))) := b3
           clear b3))
      go_roundw
      case rel =>
        refine ⟨k + 1, s', m', by go_num, ?_, ?_, ?_, heap_setCell_same w3 _ 1 _ _ _ HB3.out, ?_, ?_⟩
        · rw [HR.out.1]; omega
        · have := least_step HN.out.least hmin
          have hkl : k < xs.length := by rw [HR.out.1]; omega
          have e : xs[k] = xk := by rw [← HE.out]; simp [List.getD_eq_getElem?_getD, hkl]
          rw [List.take_succ_eq_append_getElem hkl, e]
          exact this
        · exact ⟨m, HN.out.sum, by rw [HE.out]; exact hadd⟩
        · rw [heap_setCell_other _ _ _ _ (by simp)]
          obtain ⟨n, rfl⟩ := hw3.out
          obtain ⟨n', rfl⟩ := hw2.out
          show ((wr.drewN n').setCell _ _).heap[w.heap.size]? = _
          rw [heap_setCell_other _ _ _ _ (by simp)]
          exact HN.out.res
        · refine Below.setCell ?_ (by simp) _
          obtain ⟨n, rfl⟩ := hw3.out
          obtain ⟨n', rfl⟩ := hw2.out
          have h0 : Below w.heap.size w (wr.drewN n') := below_drewN HN.out.below n'
          exact below_drewN (Below.setCell h0 (by simp) _) n
      case measure => simp [intOf]; omega
    · have hge : ¬ (k : Int) < len := by omega
      have hkl : k = len := by omega
      subst hkl
      have HBL : Hid (wr.heap[w.heap.size + 1]? = some (.cells #[.float .f64 s, .float .f64 m] 26 (0, 0))) := HN.out.blk
      have HRS : Hid (wr.heap[w.heap.size]? = some (.cells #[.float .f64 0, .float .f64 0] 26 (0, 0))) := HN.out.res
      clear hrel hb1
      generalize hfe : floatOfInt .f64 (k : Int) = fk
      have HF : Hid (floatOfInt .f64 (k : Int) = fk) := hfe
      go_wp2_with (first
        | (refine wpList_fdiv rfl (.tmp 28) (.tmp 31) rfl m fk rfl rfl ?_; intro m' w3 hw3 hdiv
           have b3 : w3.heap[w.heap.size + 1]? = some (.cells #[.float .f64 s, .float .f64 m] 26 (0, 0)) := (by
             obtain ⟨n, rfl⟩ := hw3.out
             exact HBL.out)
           have f1'' := frozen_of_row w3 _ 1 _ _ b3
           have e1'' : w3.cell? ⟨w.heap.size + 1, 1, none⟩ = some (.float .f64 m) := cell_of_row w3 _ 1 _ _ _ b3
           have HB3 : Hid (w3.heap[w.heap.size + 1]? = some (.cells #[.float .f64 s, .float .f64 m] 26 (0, 0))) := b3
           have R3 : Hid (w3.heap[w.heap.size]? = some (.cells #[.float .f64 0, .float .f64 0] 26 (0, 0))) := (by
             obtain ⟨n, rfl⟩ := hw3.out
             exact HRS.out)
           clear b3)
        | (refine wpList_load_row rfl 26 (.tmp 3) rfl (w.heap.size + 1) rfl 26 #[.float .f64 s, .float .f64 m'] (0, 0) _ (heap_setCell_same w3 _ 1 _ _ _ HB3.out) Try.underlying26 rfl Try.size26 ?_)
        | (refine wpList_store26 rfl (.tmp 2) (.tmp 34) rfl w.heap.size s m' 0 0 ((heap_setCell_other w3 _ _ _ (by simp)).trans R3.out) rfl rfl ?_; intro w4 hs4 hb4 ho4 hB4; clear hs4 ho4; have HB4 : Hid (Below w.heap.size (w3.setCell ⟨w.heap.size + 1, 1, none⟩ (.float .f64 m')) w4) := hB4 _ (Nat.le_refl _); clear hB4))
      refine bodyPost_ret (v := .agg #[.float .f64 s, .float .f64 m']) (results_cell_row rfl _ w4 w.heap.size 26 _ _ _ rfl hb4 Try.underlying26 rfl Try.size26) rfl ⟨s, m', rfl, ?_, ?_⟩
      · refine ⟨least_same HN.out.least fun x => ?_, m, ?_, ?_⟩
        · rw [List.take_of_length_le (by rw [HR.out.1]; exact Nat.le_refl _), List.mem_cons]
          refine ⟨fun h => ?_, .inr⟩
          rcases h with rfl | h
          · exact getD_mem (by rw [HR.out.1]; omega)
          · exact h
        · rw [HR.out.1]; exact HN.out.sum
        · rw [HR.out.1, HF.out]; exact hdiv
      · refine Below.trans ?_ HB4.out
        obtain ⟨n, rfl⟩ := hw3.out
        exact Below.setCell (below_drewN HN.out.below n) (by simp) _
end Go.Proofs.Qxb6629104a
