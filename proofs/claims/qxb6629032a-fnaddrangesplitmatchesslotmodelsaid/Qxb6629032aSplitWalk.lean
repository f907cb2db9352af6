/-
  FnAddRangeSplitMatchesSlotModel.
-/
import Derived.Test.Qxb6629032aOpen
namespace Go.Proofs.Qxb6629032a
open Go.ChangeShapes Go.WideShapes Go.ChangeAt Go.RowKit
set_option linter.unusedVariables false
set_option linter.unusedSimpArgs false

set_option maxHeartbeats 6000000 in
set_option maxRecDepth 100000 in
theorem law1_main (ws : List Nat) (hw : Words ws) (f m l : Nat) (hl : l < 16384) (h1 : f ≤ m) (h2 : m < l) (w : World) :
    Calls Try.prog 3 #[.agg (U ws), .int .u16 f, .int .u16 m, .int .u16 l] w fun e w' => e = .returned (.bool true) ∧ Below w.heap.size w w' := by
  go_enter Try.func3, Try.ntmps3
  go_wp2_with (first
    | (refine wpList_box23 rfl (.tmp 0) rfl ws hw rfl ?_; intro w1 S1)
    | (refine wpList_load_set (w := w) (bl := [ws]) rfl 23 (.tmp 4) rfl (.inl rfl) 0 ws S1 rfl rfl ?_)
    | (refine wpList_alloc_set (w := w) (bl := [ws]) rfl rfl S1 (by simp) ?_; intro w2 S2)
    | (refine wpList_store_set (w := w) (bl := [ws] ++ [zeros]) rfl (.tmp 9) (.tmp 24) rfl 1 ws hw S2 (by simp) (by simp) rfl rfl ?_; intro w3 S3)
    | (refine wpList_load_set (w := w) (bl := [ws, ws]) rfl 23 (.tmp 4) rfl (.inl rfl) 0 ws S3 rfl rfl ?_)
    | (refine wpList_alloc_set (w := w) (bl := [ws, ws]) rfl rfl S3 (by simp) ?_; intro w4 S4)
    | (refine wpList_store_set (w := w) (bl := [ws, ws] ++ [zeros]) rfl (.tmp 10) (.tmp 25) rfl 2 ws hw S4 (by simp) (by simp) rfl rfl ?_; intro w5 S5))
  refine (addRange_holds 2 f l f rfl ws (w := w) (bl := [ws, ws, ws]) (by omega) hl S5 rfl (by decide)).mono ?_
  rintro e w6 ⟨rfl, S6⟩
  clear S1 S2 S3 S4 S5
  go_wp2_with (first
    | (refine wpList_load_set (w := w) (bl := [ws, ws, addR ws f l]) rfl 23 (.tmp 4) rfl (.inl rfl) 0 ws S6 rfl rfl ?_)
    | (refine wpList_alloc_set (w := w) (bl := [ws, ws, addR ws f l]) rfl rfl S6 (by simp) ?_; intro w7 S7)
    | (refine wpList_store_set (w := w) (bl := [ws, ws, addR ws f l] ++ [zeros]) rfl (.tmp 11) (.tmp 29) rfl 3 ws hw S7 (by simp) (by simp) rfl rfl ?_; intro w8 S8))
  refine (addRange_holds 3 f m f rfl ws (w := w) (bl := [ws, ws, addR ws f l, ws]) (by omega) (by omega) S8 rfl (by decide)).mono ?_
  rintro e w9 ⟨rfl, S9⟩
  clear S6 S7 S8
  go_wp2_with fail
  refine (addRange_holds 3 (m + 1) l _ (by omega) (addR ws f m) (w := w) (bl := [ws, ws, addR ws f l, addR ws f m]) (by omega) hl S9 rfl (by decide)).mono ?_
  rintro e w10 ⟨rfl, S10⟩
  have S11 : Holds w w10 [ws, ws, addR ws f l, addR ws f l] := by
    have : ([ws, ws, addR ws f l, addR ws f m].set 3 (addR (addR ws f m) (m + 1) l)) = [ws, ws, addR ws f l, addR ws f l] := by rw [addR_split hw f m l h1 h2 hl]; rfl
    rw [← this]; exact S10
  clear S9 S10
  have heq := neq_same (addR ws f l) (addR_words hw f l).1
  go_wp2_with (first
    | (refine wpList_load_set (w := w) (bl := [ws, ws, addR ws f l, addR ws f l]) rfl 25 (.tmp 10) rfl (.inr rfl) 2 (addR ws f l) S11 rfl rfl ?_)
    | (refine wpList_load_set (w := w) (bl := [ws, ws, addR ws f l, addR ws f l]) rfl 25 (.tmp 11) rfl (.inr rfl) 3 (addR ws f l) S11 rfl rfl ?_))
  have HS : Hid (Holds w w10 [ws, ws, addR ws f l, addR ws f l]) := S11
  clear S11 heq
  go_loop [12] (fun i => ∃ k : Nat, k ≤ 16384 ∧ i = .int .i64 k) (fun i => 16384 - (intOf i).toNat)
  case atStart => exact ⟨0, Nat.zero_le _, rfl⟩
  case round =>
    obtain ⟨k, hk, rfl⟩ := hrel
    by_cases hlt : k < 16384
    · have hs := slot_addR ws hw.1 f l k hlt
      cases hb : slot ws k
      · rw [hb, Bool.false_or] at hs
        by_cases c1 : (f : Int) ≤ k
        · by_cases c2 : (k : Int) ≤ l
          · have hs2 : slot (addR ws f l) k = true := by rw [hs]; simp; omega
            clear hs
            go_wp2_with fail
            refine (bit_holds 1 k ws hlt HS.out rfl (by decide)).mono ?_
            rintro e w' ⟨rfl, rfl⟩
            rw [hb]
            go_wp2_with fail
            refine (bit_holds 2 k (addR ws f l) hlt HS.out rfl (by decide)).mono ?_
            rintro e w' ⟨rfl, rfl⟩
            rw [hs2]
            go_wp2
            go_round
            case rel => exact ⟨k + 1, by omega, by go_num⟩
            case measure => simp [intOf]; omega
          · have hs2 : slot (addR ws f l) k = false := by rw [hs]; simp; omega
            clear hs
            go_wp2_with fail
            refine (bit_holds 1 k ws hlt HS.out rfl (by decide)).mono ?_
            rintro e w' ⟨rfl, rfl⟩
            rw [hb]
            go_wp2_with fail
            refine (bit_holds 2 k (addR ws f l) hlt HS.out rfl (by decide)).mono ?_
            rintro e w' ⟨rfl, rfl⟩
            rw [hs2]
            go_wp2
            go_round
            case rel => exact ⟨k + 1, by omega, by go_num⟩
            case measure => simp [intOf]; omega
        · have hs2 : slot (addR ws f l) k = false := by rw [hs]; simp; omega
          clear hs
          go_wp2_with fail
          refine (bit_holds 1 k ws hlt HS.out rfl (by decide)).mono ?_
          rintro e w' ⟨rfl, rfl⟩
          rw [hb]
          go_wp2_with fail
          refine (bit_holds 2 k (addR ws f l) hlt HS.out rfl (by decide)).mono ?_
          rintro e w' ⟨rfl, rfl⟩
          rw [hs2]
          go_wp2
          go_round
          case rel => exact ⟨k + 1, by omega, by go_num⟩
          case measure => simp [intOf]; omega
      · have hs2 : slot (addR ws f l) k = true := by rw [hs, hb]; rfl
        clear hs
        go_wp2_with fail
        refine (bit_holds 1 k ws hlt HS.out rfl (by decide)).mono ?_
        rintro e w' ⟨rfl, rfl⟩
        rw [hb]
        go_wp2_with fail
        refine (bit_holds 2 k (addR ws f l) hlt HS.out rfl (by decide)).mono ?_
        rintro e w' ⟨rfl, rfl⟩
        rw [hs2]
        go_wp2
        go_round
        case rel => exact ⟨k + 1, by omega, by go_num⟩
        case measure => simp [intOf]; omega
    · have hge : ¬ (k : Int) < 16384 := by omega
      go_wp2
      go_ret
      exact ⟨rfl, HS.out.below⟩
end Go.Proofs.Qxb6629032a
