/-
  FnAddRangeIsUnionWithExactInterval: the walk.
-/
import Derived.Test.Qxb6629032aUnionPlain
import Derived.Deep.QuietTactic
import Derived.BigQuiet
namespace Go.Proofs.Qxb6629032a
open Go.ChangeShapes Go.WideShapes Go.ChangeAt Go.RowKit
set_option linter.unusedVariables false
set_option linter.unusedSimpArgs false

set_option maxRecDepth 100000 in
set_option maxHeartbeats 6000000 in
theorem law2_main (ws : List Nat) (hw : Words ws) (f l : Nat) (hf : f < 65536) (hl : l < 16384) (w : World) :
    Calls Try.prog 4 #[.agg (U ws), .int .u16 f, .int .u16 l] w fun e w' => e = .returned (.bool true) ∧ Below w.heap.size w w' := by
  go_enter Try.func4, Try.ntmps4
  go_wp2_with (first
    | (refine wpList_box23 rfl (.tmp 0) rfl ws hw rfl ?_; intro w1 S1)
    | (refine wpList_alloc_set (w := w) (bl := [ws]) rfl rfl S1 (by simp) ?_; intro w2 S2))
  refine (addRange_holds 1 f l f rfl zeros (w := w) (bl := [ws, zeros]) hf hl S2 rfl (by decide)).mono ?_
  rintro e w3 ⟨rfl, S3⟩
  clear S1 S2
  go_wp2_with (first
    | (refine wpList_load_set (w := w) (bl := [ws, addR zeros f l]) rfl 23 (.tmp 3) rfl (.inl rfl) 0 ws S3 rfl rfl ?_)
    | (refine wpList_alloc_set (w := w) (bl := [ws, addR zeros f l]) rfl rfl S3 (by simp) ?_; intro w4 S4)
    | (refine wpList_store_set (w := w) (bl := [ws, addR zeros f l] ++ [zeros]) rfl (.tmp 8) (.tmp 21) rfl 2 ws hw S4 (by simp) (by simp) rfl rfl ?_; intro w5 S5))
  refine (addRange_holds 2 f l f rfl ws (w := w) (bl := [ws, addR zeros f l, ws]) hf hl S5 rfl (by decide)).mono ?_
  rintro e w6 ⟨rfl, S6⟩
  clear S3 S4 S5
  have HS6 : Hid (Holds w w6 [ws, addR zeros f l, addR ws f l]) := S6
  clear S6
  go_wp2
  go_loopw [9] (fun i wr => ∃ k : Nat, k ≤ 256 ∧ i = .int .i64 k ∧ Holds w wr [ws, addR zeros f l, addR ws f l]) (fun i _ => 256 - (intOf i).toNat)
  case atStart => exact ⟨0, Nat.zero_le _, rfl, HS6.out⟩
  case round =>
    obtain ⟨k, hk, rfl, S⟩ := hrel
    have HS : Hid (Holds w wr [ws, addR zeros f l, addR ws f l]) := S
    clear S HS6
    by_cases hlt : k < 256
    · have hki : (k : Int) < 256 := by omega
      have hk0 : (0 : Int) ≤ k := by omega
      have c0 := (HS.out.at_ 0 ws rfl).cell k (by rw [hw.1]; exact hlt)
      have c1 := (HS.out.at_ 1 _ rfl).cell k (by rw [(addR_words zeros_words f l).1]; exact hlt)
      have c2 := (HS.out.at_ 2 _ rfl).cell k (by rw [(addR_words hw f l).1]; exact hlt)
      have hor := or_cell hw f l k hlt
      simp only [Nat.add_zero] at c0
      generalize (addR ws f l).getD k 0 = x2 at c2 hor
      generalize (addR zeros f l).getD k 0 = x1 at c1 hor
      generalize ws.getD k 0 = x0 at c0 hor
      have hne : ((x2 : Int) != bits .or .u64 (x0 : Int) (x1 : Int)) = false := by rw [hor]; simp
      clear hor
      go_wp2
      go_quiet (fail)
      go_wp2
      go_roundw
      case rel => exact ⟨k + 1, by omega, by go_num, HS.out.draw _⟩
      case measure => simp [intOf]; omega
    · have hge : ¬ (k : Int) < 256 := by omega
      have S := HS.out
      clear HS
      go_wp2_with (first
        | (refine wpList_load_set (w := w) (bl := [ws, addR zeros f l, addR ws f l]) rfl 25 (.tmp 8) rfl (.inr rfl) 2 (addR ws f l) S rfl rfl ?_)
        | (refine wpList_alloc_set (w := w) (bl := [ws, addR zeros f l, addR ws f l]) rfl rfl S (by simp) ?_; intro w7 S7)
        | (refine wpList_store_set (w := w) (bl := [ws, addR zeros f l, addR ws f l] ++ [zeros]) rfl (.tmp 10) (.tmp 40) rfl 3 (addR ws f l) (addR_words hw f l) S7 (by simp) (by simp) rfl rfl ?_; intro w8 S8))
      refine (addRange_holds 3 f l f rfl (addR ws f l) (w := w) (bl := [ws, addR zeros f l, addR ws f l, addR ws f l]) hf hl S8 rfl (by decide)).mono ?_
      rintro e w9 ⟨rfl, S9⟩
      have S10 : Holds w w9 [ws, addR zeros f l, addR ws f l, addR ws f l] := by
        have : ([ws, addR zeros f l, addR ws f l, addR ws f l].set 3 (addR (addR ws f l) f l)) = [ws, addR zeros f l, addR ws f l, addR ws f l] := by rw [addR_again hw]; rfl
        rw [← this]; exact S9
      clear S S7 S8 S9
      have heq := neq_same (addR ws f l) (addR_words hw f l).1
      by_cases hfl : l < f
      · have heq2 : ∀ wx, (binOp .eql 25 (.agg (U (addR zeros f l))) (.agg (U zeros))).run Try.prog wx = .ok (.bool true) wx := fun wx => by rw [addR_none f l hfl]; exact eql_same zeros zeros_words.1 wx
        go_wp2_with (first
          | (refine wpList_load_set (w := w) (bl := [ws, addR zeros f l, addR ws f l, addR ws f l]) rfl 25 (.tmp 10) rfl (.inr rfl) 3 (addR ws f l) S10 rfl rfl ?_)
          | (refine wpList_load_set (w := w) (bl := [ws, addR zeros f l, addR ws f l, addR ws f l]) rfl 25 (.tmp 8) rfl (.inr rfl) 2 (addR ws f l) S10 rfl rfl ?_)
          | (refine wpList_alloc_set (w := w) (bl := [ws, addR zeros f l, addR ws f l, addR ws f l]) rfl rfl S10 (by simp) ?_; intro w11 S11)
          | (refine wpList_load_set (w := w) (bl := [ws, addR zeros f l, addR ws f l, addR ws f l] ++ [zeros]) rfl 25 (.tmp 7) rfl (.inr rfl) 1 (addR zeros f l) S11 rfl rfl ?_)
          | (refine wpList_load_set (w := w) (bl := [ws, addR zeros f l, addR ws f l, addR ws f l] ++ [zeros]) rfl 25 (.tmp 11) rfl (.inr rfl) 4 zeros S11 rfl rfl ?_))
        go_ret
        exact ⟨rfl, S11.below⟩
      · go_wp2_with (first
          | (refine wpList_load_set (w := w) (bl := [ws, addR zeros f l, addR ws f l, addR ws f l]) rfl 25 (.tmp 10) rfl (.inr rfl) 3 (addR ws f l) S10 rfl rfl ?_)
          | (refine wpList_load_set (w := w) (bl := [ws, addR zeros f l, addR ws f l, addR ws f l]) rfl 25 (.tmp 8) rfl (.inr rfl) 2 (addR ws f l) S10 rfl rfl ?_))
        have HS : Hid (Holds w w9 [ws, addR zeros f l, addR ws f l, addR ws f l]) := S10
        clear S10 heq
        go_loop [12, 13, 14, 15] (fun lo hi n i => ∃ k : Nat, k ≤ 16384 ∧ i = .int .i64 k ∧ lo = .int .i64 (loF f k) ∧ hi = .int .i64 (hiF f l k) ∧ n = .int .i64 (nF f l k)) (fun _ _ _ i => 16384 - (intOf i).toNat)
        case atStart => exact ⟨0, Nat.zero_le _, rfl, by simp [loF], by simp [hiF], by simp [nF]⟩
        case round =>
          obtain ⟨k, hk, rfl, rfl, rfl, rfl⟩ := hrel
          by_cases hlt : k < 16384
          · have hb := slot_range f l k hlt
            by_cases c1 : k < f
            · have hb2 : slot (addR zeros f l) k = false := by rw [hb]; simp; omega
              have e1 : loF f k = -1 := if_pos (by omega)
              have e2 : hiF f l k = -1 := if_pos (by omega)
              have e3 : nF f l k = 0 := if_pos (by omega)
              have E : Hid (loF f (k + 1) = -1 ∧ hiF f l (k + 1) = -1 ∧ nF f l (k + 1) = 0) := ⟨if_pos (by omega), if_pos (by omega), if_pos (by omega)⟩
              rw [e1, e2, e3]
              clear hb e1 e2 e3
              go_wp2_with fail
              refine (bit_holds 1 k (addR zeros f l) hlt HS.out rfl (by decide)).mono ?_
              rintro e w' ⟨rfl, rfl⟩
              rw [hb2]
              go_wp2
              go_round
              case rel => exact ⟨k + 1, by omega, by go_num, by rw [E.out.1], by rw [E.out.2.1], by rw [E.out.2.2]⟩
              case measure => simp [intOf]; omega
            · by_cases c2 : k ≤ l
              · have hb2 : slot (addR zeros f l) k = true := by rw [hb]; simp; omega
                by_cases c3 : k = f
                · have e1 : loF f k = -1 := if_pos (by omega)
                  have e2 : hiF f l k = -1 := if_pos (by omega)
                  have e3 : nF f l k = 0 := if_pos (by omega)
                  have E : Hid (loF f (k + 1) = k ∧ hiF f l (k + 1) = k ∧ nF f l (k + 1) = 1) := by
                    refine ⟨?_, ?_, ?_⟩
                    · rw [loF, if_neg (by omega), c3]
                    · rw [hiF, if_neg (by omega)]; split <;> omega
                    · rw [nF, if_neg (by omega)]; split <;> omega
                  rw [e1, e2, e3]
                  clear hb e1 e2 e3 c3
                  go_wp2_with fail
                  refine (bit_holds 1 k (addR zeros f l) hlt HS.out rfl (by decide)).mono ?_
                  rintro e w' ⟨rfl, rfl⟩
                  rw [hb2]
                  go_wp2
                  go_round
                  case rel => exact ⟨k + 1, by omega, by go_num, by rw [E.out.1], by rw [E.out.2.1], by rw [E.out.2.2]⟩
                  case measure => simp [intOf]; omega
                · have e1 : loF f k = f := if_neg (by omega)
                  have e3 : nF f l k = (k : Int) - f := by rw [nF, if_neg (by omega), if_pos (by omega)]
                  have E : Hid (loF f (k + 1) = f ∧ hiF f l (k + 1) = k ∧ nF f l (k + 1) = (k : Int) - f + 1) := by
                    refine ⟨?_, ?_, ?_⟩
                    · rw [loF, if_neg (by omega)]
                    · rw [hiF, if_neg (by omega)]; split <;> omega
                    · rw [nF, if_neg (by omega)]; split <;> omega
                  rw [e1, e3]
                  clear hb e1 e3
                  have p0 : ¬ (f : Int) < 0 := by omega
                  have p1 : (0 : Int) ≤ (k : Int) - f := by omega
                  have p2 : (k : Int) - f ≤ 16384 := by omega
                  go_wp2_with fail
                  refine (bit_holds 1 k (addR zeros f l) hlt HS.out rfl (by decide)).mono ?_
                  rintro e w' ⟨rfl, rfl⟩
                  rw [hb2]
                  go_wp2
                  go_round
                  case rel => exact ⟨k + 1, by omega, by go_num, by rw [E.out.1], by rw [E.out.2.1], by rw [E.out.2.2]⟩
                  case measure => simp [intOf]; omega
              · have hb2 : slot (addR zeros f l) k = false := by rw [hb]; simp; omega
                have e1 : loF f k = f := if_neg (by omega)
                have e2 : hiF f l k = l := by rw [hiF, if_neg (by omega), if_neg (by omega)]
                have e3 : nF f l k = (l : Int) - f + 1 := by rw [nF, if_neg (by omega), if_neg (by omega)]
                have E : Hid (loF f (k + 1) = f ∧ hiF f l (k + 1) = l ∧ nF f l (k + 1) = (l : Int) - f + 1) := ⟨by rw [loF, if_neg (by omega)], by rw [hiF, if_neg (by omega), if_neg (by omega)], by rw [nF, if_neg (by omega), if_neg (by omega)]⟩
                rw [e1, e2, e3]
                clear hb e1 e2 e3
                go_wp2_with fail
                refine (bit_holds 1 k (addR zeros f l) hlt HS.out rfl (by decide)).mono ?_
                rintro e w' ⟨rfl, rfl⟩
                rw [hb2]
                go_wp2
                go_round
                case rel => exact ⟨k + 1, by omega, by go_num, by rw [E.out.1], by rw [E.out.2.1], by rw [E.out.2.2]⟩
                case measure => simp [intOf]; omega
          · have hge : ¬ (k : Int) < 16384 := by omega
            have e1 : loF f k = f := if_neg (by omega)
            have e2 : hiF f l k = l := by rw [hiF, if_neg (by omega), if_neg (by omega)]
            have e3 : nF f l k = (l : Int) - f + 1 := by rw [nF, if_neg (by omega), if_neg (by omega)]
            rw [e1, e2, e3]
            clear e1 e2 e3
            go_wp2
            go_ret
            exact ⟨rfl, HS.out.below⟩
end Go.Proofs.Qxb6629032a
