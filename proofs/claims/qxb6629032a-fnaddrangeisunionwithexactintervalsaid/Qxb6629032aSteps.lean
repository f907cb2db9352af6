/-
  THE WALKS of AddRange and zzHsBit; a whole array boxed, loaded, stored, compared.
-/
import Derived.Test.Qxb6629032aRows
import Derived.Test.Qxb6629032aBits
import Derived.WalkKit
import Derived.WalkSpells
import Derived.WalkLawsBesides
import Derived.RegionTactic
import Derived.BigRegion
import Derived.ChangeAlike
import Derived.Deep.WholeRow
import Derived.ChangeKeysEq
namespace Go.Proofs.Qxb6629032a
open Go.RowKit
set_option linter.unusedVariables false
set_option linter.unusedSimpArgs false

/-- The cells of a set. -/
def U (xs : List Nat) : Array Value := (xs.map fun (n : Nat) => Value.int .u64 (n : Int)).toArray
theorem U_size (xs : List Nat) : (U xs).size = xs.length := by simp [U]
theorem U_get (xs : List Nat) (j : Nat) (h : j < xs.length) : (U xs)[j]? = some (.int .u64 (xs.getD j 0 : Nat)) := by
  simp [U, List.getD_eq_getElem?_getD, h]
theorem U_set (xs : List Nat) (j x : Nat) : (U xs).setIfInBounds j (.int .u64 (x : Int)) = U (xs.set j x) := by
  simp [U, List.map_set]
/-- Block g holds the set xs. -/
def At (w : World) (g : Nat) (t : TypeId) (xs : List Nat) : Prop := w.heap[g]? = some (.cells (U xs) t (0, 0))
theorem At.cell {w : World} {g : Nat} {t : TypeId} {xs : List Nat} (h : At w g t xs) (j : Nat) (hj : j < xs.length) : w.cell? ⟨g, j, none⟩ = some (.int .u64 (xs.getD j 0 : Nat)) := by
  rw [cell_of_row w g j (U xs) t (0, 0) h, U_get xs j hj]
theorem At.free {w : World} {g : Nat} {t : TypeId} {xs : List Nat} (h : At w g t xs) (j : Nat) : w.frozen? ⟨g, j, none⟩ = false := frozen_of_row w g j _ _ h
theorem At.store {w : World} {g : Nat} {t : TypeId} {xs : List Nat} (h : At w g t xs) (j x : Nat) : At (w.setCell ⟨g, j, none⟩ (.int .u64 (x : Int))) g t (xs.set j x) := by
  unfold At
  rw [heap_setCell_same w g j _ _ _ h, U_set]
theorem At.lt {w : World} {g : Nat} {t : TypeId} {xs : List Nat} (h : At w g t xs) : g < w.heap.size := (Array.getElem?_eq_some_iff.1 h).1
theorem At.kept {w w' : World} {g : Nat} {t : TypeId} {xs : List Nat} {row : Option Nat} (h : At w g t xs) (hg : w.grownBy w' row) (hne : row ≠ some g) : At w' g t xs := by
  unfold At
  rw [hg.block g h.lt (fun e => hne (by rw [e]))]
  exact h

theorem grown_set (w : World) (a : Addr) (v : Value) : w.grownBy (w.setCell a v) (some a.block) :=
  ⟨rfl, rfl, rfl, by simp [World.setCell], fun k hk hne => Below.heap_setCell _ _ _ _ (fun e => hne (by rw [e]))⟩
theorem grown_drew {w w' : World} {row : Option Nat} (h : w.grownBy w' row) : w.grownBy w'.drew row := ⟨h.os, h.tape, h.output, h.size, h.block⟩

set_option maxHeartbeats 2000000 in
theorem addRange_any (g f l : Nat) (xs : List Nat) (w : World) (hx : Words xs) (hf : f < 65536) (hl : l < 16384) (hg : At w g 25 xs) :
    Calls Try.prog 5 #[.pointer (some ⟨g, 0, none⟩), .int .u16 f, .int .u16 l] w fun e w' => e = .returned (.tuple #[]) ∧ At w' g 25 (addR xs f l) ∧ w.grownBy w' (some g) ∧ w'.heap.size = w.heap.size := by
  have HX : Hid (Words xs) := hx
  have HG : Hid (At w g 25 xs) := hg
  clear hx hg
  go_enter Try.func5, Try.ntmps5
  go_wp2
  go_loopw [6] (fun i wr => ∃ k : Nat, f / 64 ≤ k ∧ k ≤ max (f / 64) (l / 64 + 1) ∧ i = .int .u16 k ∧ At wr g 25 (addTo xs f l k) ∧ w.grownBy wr (some g) ∧ wr.heap.size = w.heap.size) (fun i _ => 256 - (intOf i).toNat)
  case atStart => exact ⟨f / 64, Nat.le_refl _, by omega, by simp, by rw [addTo_start]; exact HG.out, World.grownBy.refl _ _, rfl⟩
  case round =>
    obtain ⟨k, hk1, hk2, rfl, hat, hgr, hsz⟩ := hrel
    have HZ : Hid (wr.heap.size = w.heap.size) := hsz
    clear hsz
    have HA : Hid (At wr g 25 (addTo xs f l k)) := hat
    have HR : Hid (w.grownBy wr (some g)) := hgr
    clear hat hgr
    by_cases hlt : k ≤ l / 64
    · have hk256 : k < xs.length := by have := HX.out.1; omega
      have hk255 : k ≤ 255 := by omega
      have hkl : (k : Int) ≤ (l : Int) / 64 := by omega
      have HS : Hid ((addTo xs f l k).set k (xs.getD k 0 ||| word f l k) = addTo xs f l (k + 1)) := addTo_step xs f l k hk256 hk1
      have hc := HA.out.cell k (by rw [addTo_len]; exact hk256)
      have hfz := HA.out.free k
      have hv : (addTo xs f l k).getD k 0 = xs.getD k 0 := by rw [addTo_getD _ _ _ _ _ hk256, if_neg (by omega)]
      rw [hv] at hc
      have hxk : xs.getD k 0 < 18446744073709551616 := by
        have e : xs.getD k 0 = xs[k] := by simp [List.getD_eq_getElem?_getD, hk256]
        rw [e]; exact HX.out.2 _ (List.getElem_mem hk256)
      have HO : Hid (bits .or .u64 (xs.getD k 0 : Nat) (word f l k : Int) = ((xs.getD k 0 ||| word f l k : Nat) : Int)) := u64_or_nat _ _ hxk (word_lt _ _ _)
      clear hv hxk
      generalize xs.getD k 0 = x at hc HO HS
      by_cases c1 : k = f / 64
      · have d1 : ((k : Int) == (f : Int) / 64) = true := by simp; omega
        by_cases c2 : k = l / 64
        · have d2 : ((k : Int) == (l : Int) / 64) = true := by simp; omega
          have HW := word_both f l k c1 c2
          have HW' : Hid (bits .and .u64 (bits .and .u64 (18446744073709551615 : Int) (IntKind.u64.wrap ((18446744073709551615 : Int) * 2 ^ (f % 64)))) ((18446744073709551615 : Int) / 2 ^ (63 - l % 64)) = (word f l k : Int)) := HW
          clear HW c1 c2
          go_wp2
          go_region
          go_wp2
          go_roundw
          case rel => exact ⟨k + 1, by omega, by omega, by go_num, by rw [HW'.out, HO.out, ← HS.out]; exact HA.out.store k _, grown_drew (HR.out.trans (grown_set _ _ _)), by have := HZ.out; simp [World.setCell]; exact this⟩
          case measure => simp [intOf]; omega
        · have d2 : ((k : Int) == (l : Int) / 64) = false := by simp; omega
          have HW' : Hid (bits .and .u64 (18446744073709551615 : Int) (IntKind.u64.wrap ((18446744073709551615 : Int) * 2 ^ (f % 64))) = (word f l k : Int)) := word_first f l k c1 c2
          clear c1 c2
          go_wp2
          go_region
          go_wp2
          go_roundw
          case rel => exact ⟨k + 1, by omega, by omega, by go_num, by rw [HW'.out, HO.out, ← HS.out]; exact HA.out.store k _, grown_drew (HR.out.trans (grown_set _ _ _)), by have := HZ.out; simp [World.setCell]; exact this⟩
          case measure => simp [intOf]; omega
      · have d1 : ((k : Int) == (f : Int) / 64) = false := by simp; omega
        by_cases c2 : k = l / 64
        · have d2 : ((k : Int) == (l : Int) / 64) = true := by simp; omega
          have HW' : Hid (bits .and .u64 (18446744073709551615 : Int) ((18446744073709551615 : Int) / 2 ^ (63 - l % 64)) = (word f l k : Int)) := word_last f l k c1 c2
          clear c1 c2
          go_wp2
          go_region
          go_wp2
          go_roundw
          case rel => exact ⟨k + 1, by omega, by omega, by go_num, by rw [HW'.out, HO.out, ← HS.out]; exact HA.out.store k _, grown_drew (HR.out.trans (grown_set _ _ _)), by have := HZ.out; simp [World.setCell]; exact this⟩
          case measure => simp [intOf]; omega
        · have d2 : ((k : Int) == (l : Int) / 64) = false := by simp; omega
          have HW' : Hid ((18446744073709551615 : Int) = (word f l k : Int)) := word_none f l k c1 c2
          clear c1 c2
          go_wp2
          go_region
          go_wp2
          go_roundw
          case rel => exact ⟨k + 1, by omega, by omega, by go_num, by rw [HW'.out, HO.out, ← HS.out]; exact HA.out.store k _, grown_drew (HR.out.trans (grown_set _ _ _)), by have := HZ.out; simp [World.setCell]; exact this⟩
          case measure => simp [intOf]; omega
    · have hkl : ¬ (k : Int) ≤ (l : Int) / 64 := by omega
      have HE : Hid (addTo xs f l k = addR xs f l) := addTo_stop xs f l k hk1 (by omega) hk2
      go_wp2
      go_end0
      exact ⟨rfl, by rw [← HE.out]; exact HA.out, HR.out, HZ.out⟩
theorem ret_bool {a b : Bool} (h : a = b) : Ending.returned (.bool a) = .returned (.bool b) := by rw [h]
theorem bit_test (x s : Nat) : (bits .and .u64 ((x : Int) / 2 ^ s) 1 == 1) = x.testBit s := by
  have e : (x : Int) / 2 ^ s = ((x / 2 ^ s : Nat) : Int) := by simp
  have e2 : bits .and .u64 ((x / 2 ^ s : Nat) : Int) 1 = ((x / 2 ^ s % 2 : Nat) : Int) := by
    show IntKind.u64.wrap ((BitVec.ofInt 64 ((x / 2 ^ s : Nat) : Int) &&& BitVec.ofInt 64 1).toNat : Int) = _
    have h1 : (BitVec.ofInt 64 1).toNat = 1 := by decide
    rw [BitVec.toNat_and, h1, Nat.and_one_is_mod, BitVec.ofInt_natCast, BitVec.toNat_ofNat, IntKind.wrap_u64]
    generalize x / 2 ^ s = y
    omega
  rw [e, e2, Nat.testBit_eq_decide_div_mod_eq, Bool.eq_iff_iff]
  simp
  omega

set_option maxHeartbeats 400000 in
theorem bit_any (g i : Nat) (xs : List Nat) (w : World) (hx : xs.length = 256) (hi : i < 16384) (hg : At w g 25 xs) :
    Calls Try.prog 6 #[.pointer (some ⟨g, 0, none⟩), .int .i64 i] w fun e w' => e = .returned (.bool (slot xs i)) ∧ w' = w := by
  have hc := hg.cell (i / 64) (by omega)
  have hb : (i : Int) / 64 < 256 := by omega
  have hb0 : 0 ≤ (i : Int) / 64 := by omega
  go_enter Try.func6, Try.ntmps6
  go_wp2
  go_ret
  refine ⟨ret_bool ?_, rfl⟩
  rw [bit_test]
  simp [slot, List.getD_eq_getElem?_getD]

/-! ### the call's own blocks, told by a list: block i of the call holds the i-th set; the first is the boxed argument (type 23), the others are sets (type 25) -/
def tyOf (i : Nat) : TypeId := if i = 0 then 23 else 25
structure Holds (w wk : World) (bl : List (List Nat)) : Prop where
  size : wk.heap.size = w.heap.size + bl.length
  below : Below w.heap.size w wk
  at_ : ∀ i xs, bl[i]? = some xs → At wk (w.heap.size + i) (tyOf i) xs
  words : ∀ xs ∈ bl, Words xs

theorem info23 : (Try.prog.info? 23).map (·.size) = some 256 := by kernel_rfl
theorem info25 : (Try.prog.info? 25).map (·.size) = some 256 := by kernel_rfl
theorem U_one (xs : List Nat) : (U xs).all (·.oneCell') = true := by
  simp [U, Array.all_eq_true_iff_forall_mem]
  intro x _
  rfl

theorem Holds.start (w : World) : Holds w w [] := ⟨rfl, Below.refl _ _, fun i xs h => by simp at h, fun xs h => by simp at h⟩
theorem Holds.push {w wk : World} {bl : List (List Nat)} (h : Holds w wk bl) (xs : List Nat) (hx : Words xs) : Holds w (wk.alloc (.cells (U xs) (tyOf bl.length))) (bl ++ [xs]) := by
  refine ⟨by have := h.size; simp; omega, h.below.alloc h.below.size _, fun i ys hi => ?_, fun ys hy => ?_⟩
  · unfold At
    by_cases e : i < bl.length
    · rw [List.getElem?_append_left e] at hi
      have := h.at_ i ys hi
      rw [Below.heap_alloc wk _ _ this.lt]
      exact this
    · have hb : i < (bl ++ [xs]).length := (List.getElem?_eq_some_iff.1 hi).1
      have e2 : i = bl.length := by simp at hb; omega
      subst e2
      simp at hi
      subst hi
      rw [← h.size, heap_alloc_new]
  · rcases List.mem_append.1 hy with h' | h'
    · exact h.words ys h'
    · simp at h'; subst h'; exact hx
theorem Holds.turn {w wk w' : World} {bl : List (List Nat)} (h : Holds w wk bl) (i : Nat) (hi : i < bl.length) (ys : List Nat) (hy : Words ys) (hat : At w' (w.heap.size + i) (tyOf i) ys) (hg : wk.grownBy w' (some (w.heap.size + i))) (hs : w'.heap.size = wk.heap.size) : Holds w w' (bl.set i ys) := by
  refine ⟨by rw [hs, h.size]; simp, h.below.grown hg h.below.size (fun k hk => by cases hk; omega), fun j xs hj => ?_, fun xs hx => ?_⟩
  · by_cases e : i = j
    · subst e
      simp [hi] at hj
      subst hj
      exact hat
    · rw [List.getElem?_set_ne e] at hj
      exact (h.at_ j xs hj).kept hg (by simp; omega)
  · rcases List.mem_or_eq_of_mem_set hx with h' | h'
    · exact h.words xs h'
    · rw [h']; exact hy

section
variable {ops : Array Oper} {rest : List Oper} {o : Oper} {a : Act} {w wk : World} {Q : Exit → Act → World → Prop} {bl : List (List Nat)}
/-- 'box': the argument into the call's first block. -/
theorem wpList_box23 (hgd : o.guard = none) (x : Operand) (ho : o.op = .box 23 x) (ws : List Nat) (hw : Words ws) (hx : a.eval x = .agg (U ws))
    (h : ∀ w1, Holds w w1 [ws] → wpList Try.prog ops Q rest (a.put o.dst (.pointer (some ⟨w.heap.size, 0, none⟩))) w1) : wpList Try.prog ops Q (o :: rest) a w := by
  refine wpList_plain hgd fun K hK => ?_
  unfold Oper.wp execOp
  simp only [ho, hx, Instr.box, newVar, newRow, Sem.run_bind, Sem.run_pure, Result.andThen_ok, run_newObj_alloc, Value.cells]
  exact hK _ _ (h _ ((Holds.start w).push ws hw))
/-- a whole array, loaded. -/
theorem wpList_load_set (hgd : o.guard = none) (ty : TypeId) (x : Operand) (ho : o.op = .load ty x) (hty : ty = 23 ∨ ty = 25) (i : Nat) (xs : List Nat) (hS : Holds w wk bl) (hi : bl[i]? = some xs) (hx : a.eval x = .pointer (some ⟨w.heap.size + i, 0, none⟩))
    (h : wpList Try.prog ops Q rest (a.put o.dst (.agg (U xs))) wk) : wpList Try.prog ops Q (o :: rest) a wk := by
  have hl : xs.length = 256 := (hS.words xs (List.mem_of_getElem? hi)).1
  rcases hty with rfl | rfl
  · exact wpList_load_row hgd 23 x ho _ hx _ (U xs) (0, 0) _ (hS.at_ i xs hi) Try.underlying23 rfl (by rw [info23, U_size, hl]) h
  · exact wpList_load_row hgd 25 x ho _ hx _ (U xs) (0, 0) _ (hS.at_ i xs hi) Try.underlying25 rfl (by rw [info25, U_size, hl]) h
def zeros : List Nat := List.replicate 256 0
theorem zeros_words : Words zeros := ⟨List.length_replicate, fun x hx => by rw [List.eq_of_mem_replicate hx]; decide⟩
theorem zero25 (w : World) : (zeroValue 25).run Try.prog w = .ok (.agg (U zeros)) w := by kernel_rfl
/-- 'var s Set'. -/
theorem wpList_alloc_set (hgd : o.guard = none) (ho : o.op = .alloc 25) (hS : Holds w wk bl) (hne : bl.length ≠ 0)
    (h : ∀ w1, Holds w w1 (bl ++ [zeros]) → wpList Try.prog ops Q rest (a.put o.dst (.pointer (some ⟨w.heap.size + bl.length, 0, none⟩))) w1) : wpList Try.prog ops Q (o :: rest) a wk := by
  refine wpList_plain hgd fun K hK => ?_
  unfold Oper.wp execOp
  simp only [ho, Instr.alloc, newVar, newRow, Sem.run_bind, Sem.run_pure, Result.andThen_ok, run_newObj_alloc, zero25, Value.cells]
  have e := hS.push zeros zeros_words
  rw [tyOf, if_neg hne] at e
  rw [hS.size]
  exact hK _ _ (h _ e)
/-- a whole array, stored. -/
theorem wpList_store_set (hgd : o.guard = none) (x y : Operand) (ho : o.op = .store 25 x y) (i : Nat) (xs : List Nat) (hxs : Words xs) (hS : Holds w wk bl) (hi : i < bl.length) (hi0 : i ≠ 0) (hx : a.eval x = .pointer (some ⟨w.heap.size + i, 0, none⟩)) (hy : a.eval y = .agg (U xs))
    (h : ∀ w1, Holds w w1 (bl.set i xs) → wpList Try.prog ops Q rest (a.put o.dst undef) w1) : wpList Try.prog ops Q (o :: rest) a wk := by
  have hb := hS.at_ i bl[i] (List.getElem?_eq_getElem hi)
  have hl := (hS.words _ (List.getElem_mem hi)).1
  have hg : wk.grownBy (wk.setRow (w.heap.size + i) (U xs)) (some (w.heap.size + i)) :=
    ⟨rfl, rfl, rfl, by simp, fun k hk hne => setRow_other wk _ k _ (fun e => hne (by rw [e]))⟩
  refine wpList_plain hgd fun K hK => wp_store_row 25 x y ho _ (U xs) hx hy _ (U bl[i]) hb (by rw [info25, U_size, hxs.1]) (by rw [U_size, U_size, hl, hxs.1]) (U_one xs) (hK _ _ (h _ (hS.turn i hi xs hxs ?_ hg (by simp))))
  exact setRow_heap wk _ _ _ _ _ hb
end

theorem addRange_holds (i f l : Nat) (F : Int) (hF : F = (f : Int)) (xs : List Nat) {w wk : World} {bl : List (List Nat)} (hf : f < 65536) (hl : l < 16384) (hS : Holds w wk bl) (hi : bl[i]? = some xs) (hi0 : i ≠ 0) :
    Calls Try.prog 5 #[.pointer (some ⟨w.heap.size + i, 0, none⟩), .int .u16 F, .int .u16 l] wk fun e w' => e = .returned (.tuple #[]) ∧ Holds w w' (bl.set i (addR xs f l)) := by
  subst hF
  have hx := hS.words xs (List.mem_of_getElem? hi)
  have ha := hS.at_ i xs hi
  rw [tyOf, if_neg hi0] at ha
  refine (addRange_any (w.heap.size + i) f l xs wk hx hf hl ha).mono ?_
  rintro e w' ⟨rfl, h1, h2, h3⟩
  exact ⟨rfl, hS.turn i (List.getElem?_eq_some_iff.1 hi).1 _ (addR_words hx f l) (by rw [tyOf, if_neg hi0]; exact h1) h2 h3⟩
theorem bit_holds (i k : Nat) (xs : List Nat) {w wk : World} {bl : List (List Nat)} (hk : k < 16384) (hS : Holds w wk bl) (hi : bl[i]? = some xs) (hi0 : i ≠ 0) :
    Calls Try.prog 6 #[.pointer (some ⟨w.heap.size + i, 0, none⟩), .int .i64 k] wk fun e w' => e = .returned (.bool (slot xs k)) ∧ w' = wk := by
  have hx := hS.words xs (List.mem_of_getElem? hi)
  have ha := hS.at_ i xs hi
  rw [tyOf, if_neg hi0] at ha
  exact bit_any _ k xs wk hx.1 hk ha


/-! ### two sets compared -/
theorem items_same (xs : List Nat) (w : World) : ∀ (is : List Nat), (∀ i ∈ is, i < xs.length) → (Op.eqItems 9999 22 1 (U xs) (U xs) is).run Try.prog w = .ok true w
  | [], _ => by simp [Op.eqItems]
  | i :: is, h => by
    have hi := h i (by simp)
    have hp : (part 22 (U xs) (i * 1)).run Try.prog w = .ok (.int .u64 (xs.getD i 0 : Nat)) w := by
      have ha : (isAgg 22).run Try.prog w = .ok false w := by kernel_rfl
      simp only [part, Sem.run_bind, ha, Result.andThen_ok, Nat.mul_one, U_get xs i hi, Bool.false_eq_true, if_false, Sem.run_pure]
    have ih := items_same xs w is (fun j hj => h j (by simp [hj]))
    simp only [Op.eqItems, Sem.run_bind, hp, Result.andThen_ok, run_equalIn_int w 9998 22 .u64 .u64 _ _ Try.underlying22, beq_self_eq_true, Bool.not_true, Bool.false_eq_true, if_false]
    exact ih
theorem equal_same (xs : List Nat) (hx : xs.length = 256) (w : World) : (Op.equalIn 10000 25 (.agg (U xs)) (.agg (U xs))).run Try.prog w = .ok true w := by
  cases hq : Try.prog.info? 22 with
  | none => exact absurd hq (by intro h; have : (Try.prog.info? 22).isSome = true := by kernel_rfl
                                rw [h] at this; cases this)
  | some i =>
    rw [run_equalIn_array w 9999 (U xs) (U xs) Try.underlying25 hq, show Try.prog.cellsOf 22 = 1 by kernel_rfl]
    exact items_same xs w _ (fun i hi => by rw [hx]; exact List.mem_range.1 hi)
theorem neq_same (xs : List Nat) (hx : xs.length = 256) (w : World) : (binOp .neq 25 (.agg (U xs)) (.agg (U xs))).run Try.prog w = .ok (.bool false) w := by
  rw [run_neq_struct w 25, equal_same xs hx w]; rfl
theorem eql_same (xs : List Nat) (hx : xs.length = 256) (w : World) : (binOp .eql 25 (.agg (U xs)) (.agg (U xs))).run Try.prog w = .ok (.bool true) w := by
  rw [run_eql_struct w 25, equal_same xs hx w]; rfl

end Go.Proofs.Qxb6629032a
