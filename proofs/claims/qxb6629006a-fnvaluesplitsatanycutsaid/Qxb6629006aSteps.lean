/-
  THE WALKS of formula.Value, formula.Not, Word.Not and zzLowMask.
-/
import Derived.Test.Qxb6629006aRows
import Derived.Test.Qxb6629006aBits
import Derived.WalkKit
import Derived.WalkSpells
import Derived.WalkLawsBesides
import Derived.OneCell
namespace Go.Proofs.Qxb6629006a
open Go.RowKit
set_option linter.unusedVariables false
set_option linter.unusedSimpArgs false

theorem ret_int {k : IntKind} {a b : Int} (h : a = b) : Ending.returned (.int k a) = .returned (.int k b) := by rw [h]

set_option maxHeartbeats 400000 in
theorem not_any (f : Int) (w : World) :
    Calls Try.prog 8 #[.int .i32 f] w fun e w' => e = .returned (.int .i32 (bits .xor .i32 f 1)) ∧ w' = w := by
  go_enter Try.func8, Try.ntmps8
  go_wp2
  go_ret
  exact ⟨rfl, rfl⟩

theorem pow_wrap (n : Nat) (h : n < 64) : IntKind.u64.wrap ((2 : Int) ^ n) = ((2 ^ n : Nat) : Int) := by
  have h2 : 2 ^ n < 2 ^ 64 := Nat.pow_lt_pow_right (by omega) h
  rw [IntKind.wrap_u64]
  have e : ((2 ^ n : Nat) : Int) = (2 : Int) ^ n := by simp
  rw [← e]
  generalize 2 ^ n = x at *
  omega

set_option maxHeartbeats 400000 in
theorem low_any (n : Nat) (w : World) :
    Calls Try.prog 7 #[.int .i64 n] w fun e w' => e = .returned (.int .u64 (low n)) ∧ w' = w := by
  by_cases h : 64 ≤ n
  · go_enter Try.func7, Try.ntmps7
    go_wp2
    go_ret
    exact ⟨by simp [low, Nat.min_eq_right h], rfl⟩
  by_cases h0 : n = 0
  · subst h0
    go_enter Try.func7, Try.ntmps7
    go_wp2
    go_ret
    exact ⟨by simp [low], rfl⟩
  · have e : IntKind.u64.wrap (IntKind.u64.wrap ((2 : Int) ^ n) - 1) = (low n : Int) := by
      have h2 : 2 ^ n < 2 ^ 64 := Nat.pow_lt_pow_right (by omega) (by omega)
      have h3 : 0 < 2 ^ n := Nat.two_pow_pos _
      rw [pow_wrap n (by omega), IntKind.wrap_u64]
      unfold low
      rw [Nat.min_eq_left (by omega)]
      omega
    have E : Hid (IntKind.u64.wrap (IntKind.u64.wrap ((2 : Int) ^ n) - 1) = (low n : Int)) := e
    clear e
    go_enter Try.func7, Try.ntmps7
    go_wp2
    go_ret
    exact ⟨by simp [E.out], rfl⟩

theorem or_pow (x k : Nat) (hx : x < 18446744073709551616) (hk : k < 64) : bits .or .u64 (x : Int) (IntKind.u64.wrap ((2 : Int) ^ k)) = ((x ||| 2 ^ k : Nat) : Int) := by
  have h2 : 2 ^ k < 2 ^ 64 := Nat.pow_lt_pow_right (by omega) hk
  rw [pow_wrap k hk]
  exact u64_or_nat x (2 ^ k) hx (by omega)

def MapLook (m : Option Nat) (lk : Int → Bool) (w : World) : Prop := ∀ k : Int, -2147483648 ≤ k → k ≤ 2147483647 → (Instr.lookup 24 (.map m) (.int .i32 k) false).run Try.prog w = .ok (.bool (lk k)) w

theorem step_yes (lk : Int → Bool) (zs : List Int) (k : Nat) (hk : k < zs.length) (h64 : k < 64) (hb : bitv lk (zs.getD k 0) = true) :
    bits .or .u64 (val lk (zs.take k) : Int) (IntKind.u64.wrap ((2 : Int) ^ k)) = (val lk (zs.take (k + 1)) : Int) := by
  rw [or_pow _ k (val_lt _ _) h64, val_snoc lk zs k hk h64, hb]
  simp
theorem step_no (lk : Int → Bool) (zs : List Int) (k : Nat) (hk : k < zs.length) (h64 : k < 64) (hb : bitv lk (zs.getD k 0) = false) :
    (val lk (zs.take k) : Int) = (val lk (zs.take (k + 1)) : Int) := by
  rw [val_snoc lk zs k hk h64, hb]
  simp

set_option maxHeartbeats 1000000 in
theorem value_pos (b off len cap : Nat) (zs : List Int) (m : Option Nat) (lk : Int → Bool) (w : World) (hl : zs.length = len) (hp : 0 < len) (hc : len ≤ cap) (hm : cap ≤ maxLen)
    (hz : ∀ f ∈ zs, Fits f)
    (hcell : ∀ i, i < len → w.cell? ⟨b, off + i, none⟩ = some (.int .i32 (zs.getD i 0)))
    (hlk : MapLook m lk w) :
    Calls Try.prog 5 #[.slice (some ⟨b, off, none⟩) len cap, .map m] w fun e w' => e = .returned (.int .i64 (wrap64 (val lk zs))) ∧ w' = w := by
  unfold maxLen at hm
  have HZ : Hid (∀ f ∈ zs, Fits f) := hz
  have HC : Hid (∀ i, i < len → w.cell? ⟨b, off + i, none⟩ = some (.int .i32 (zs.getD i 0))) := hcell
  clear hz hcell
  have HL : Hid (zs.length = len) := hl
  clear hl
  have HK : Hid (MapLook m lk w) := hlk
  clear hlk
  have HE : Hid (val lk (zs.take (min len 64)) = val lk zs) := by
    show val lk (zs.take (min len 64)) = val lk zs
    rw [← HL.out, ← val_take64 lk zs]
    by_cases h : zs.length ≤ 64
    · rw [Nat.min_eq_left h, List.take_of_length_le (Nat.le_refl _), List.take_of_length_le h]
    · rw [Nat.min_eq_right (by omega)]
  by_cases h64 : (len : Int) ≤ 64
  all_goals
    go_enter Try.func5, Try.ntmps5
    go_wp2
    go_loop [5, 14] (fun n i => ∃ k : Nat, k ≤ min len 64 ∧ i = .int .i64 k ∧ n = .int .u64 (val lk (zs.take k))) (fun _ i => min len 64 - (intOf i).toNat)
    case atStart => exact ⟨0, Nat.zero_le _, rfl, rfl⟩
    case round =>
      obtain ⟨k, hk, rfl, rfl⟩ := hrel
      by_cases hlt : k < min len 64
      · have hkz : k < zs.length := by have := HL.out; omega
        have hk1 : k < len := by omega
        have hk2 : k < 64 := by omega
        have g := HC.out k (by omega)
        have hff : Fits (zs.getD k 0) := by
          have e : zs.getD k 0 = zs[k] := by simp [List.getD_eq_getElem?_getD, hkz]
          rw [e]; exact HZ.out _ (List.getElem_mem hkz)
        have S1 : Hid (bitv lk (zs.getD k 0) = true → bits .or .u64 (val lk (zs.take k) : Int) (IntKind.u64.wrap ((2 : Int) ^ k)) = (val lk (zs.take (k + 1)) : Int)) := step_yes lk zs k hkz (by omega)
        have S0 : Hid (bitv lk (zs.getD k 0) = false → (val lk (zs.take k) : Int) = (val lk (zs.take (k + 1)) : Int)) := step_no lk zs k hkz (by omega)
        generalize zs.getD k 0 = f at g hff S1 S0
        have l1 := HK.out f hff.1 hff.2
        have l2 := HK.out _ (fits_not hff).1 (fits_not hff).2
        unfold notI at l2
        by_cases c1 : (f == 1) = true
        · have T : bitv lk f = true := by simp [bitv, c1]
          have S2 := S1.out T
          have S3 : Hid (bits .or .u64 (val lk (zs.take k) : Int) (IntKind.u64.wrap ((2 : Int) ^ k)) = (val lk (zs.take (k + 1)) : Int)) := S2
          clear S0 S1 S2 T
          go_wp2
          go_round
          case rel => exact ⟨k + 1, by omega, by go_num, by rw [S3.out]⟩
          case measure => simp [intOf]; omega
        have c1' : (f == 1) = false := by simpa using c1
        have c1'' : (f != 1) = true := by simpa using c1
        by_cases c2 : (bits .and .i32 f 1 == 0) = true
        · have c2' : (bits .and .i32 f 1 != 0) = false := by simpa using c2
          cases c3 : lk f
          · have T : bitv lk f = false := by simp only [bitv, c1', c2, c3, if_true, if_false, Bool.false_eq_true]
            have S2 := S0.out T
            have S3 : Hid ((val lk (zs.take k) : Int) = (val lk (zs.take (k + 1)) : Int)) := S2
            clear S0 S1 S2 T
            go_wp2
            go_round
            case rel => exact ⟨k + 1, by omega, by go_num, by rw [← S3.out]⟩
            case measure => simp [intOf]; omega
          · have T : bitv lk f = true := by simp only [bitv, c1', c2, c3, if_true, if_false, Bool.false_eq_true]
            have S2 := S1.out T
            have S3 : Hid (bits .or .u64 (val lk (zs.take k) : Int) (IntKind.u64.wrap ((2 : Int) ^ k)) = (val lk (zs.take (k + 1)) : Int)) := S2
            clear S0 S1 S2 T
            go_wp2
            go_round
            case rel => exact ⟨k + 1, by omega, by go_num, by rw [S3.out]⟩
            case measure => simp [intOf]; omega
        · have c2' : (bits .and .i32 f 1 == 0) = false := by simpa using c2
          have c2'' : (bits .and .i32 f 1 != 0) = true := by simpa using c2
          cases c3 : lk (bits .xor .i32 f 1)
          · have T : bitv lk f = true := by simp only [bitv, c1', c2', c3, if_true, if_false, Bool.false_eq_true, Bool.not_false]
            have S2 := S1.out T
            have S3 : Hid (bits .or .u64 (val lk (zs.take k) : Int) (IntKind.u64.wrap ((2 : Int) ^ k)) = (val lk (zs.take (k + 1)) : Int)) := S2
            clear S0 S1 S2 T
            go_wp2
            go_round
            case rel => exact ⟨k + 1, by omega, by go_num, by rw [S3.out]⟩
            case measure => simp [intOf]; omega
          · have T : bitv lk f = false := by simp only [bitv, c1', c2', c3, if_true, if_false, Bool.false_eq_true, Bool.not_true]
            have S2 := S0.out T
            have S3 : Hid ((val lk (zs.take k) : Int) = (val lk (zs.take (k + 1)) : Int)) := S2
            clear S0 S1 S2 T
            go_wp2
            go_round
            case rel => exact ⟨k + 1, by omega, by go_num, by rw [← S3.out]⟩
            case measure => simp [intOf]; omega
      · have hke : Hid (k = min len 64) := by show k = min len 64; omega
        first
          | (have hx : len ≤ k := by omega)
          | (have hx : 64 ≤ k := by omega)
        go_wp2
        go_ret
        exact ⟨ret_int (by rw [hke.out, HE.out]), rfl⟩
theorem Try.info25 : (Try.prog.info? 25).map (fun i => (i.zero, i.size, i.bytes)) = some (some (.int .i32 0), 1, 4) := by kernel_rfl

/-- A slice of len elements holds zs in w. -/
def Row (w : World) (a : Option Addr) (len : Nat) (zs : List Int) : Prop :=
  zs.length = len ∧ (∀ f ∈ zs, Fits f) ∧ (0 < len → ∃ b off, a = some ⟨b, off, none⟩ ∧ b < w.heap.size ∧ ∀ i, i < len → w.cell? ⟨b, off + i, none⟩ = some (.int .i32 (zs.getD i 0)))

set_option maxHeartbeats 400000 in
theorem value_none (a : Option Addr) (cap : Nat) (m : Option Nat) (lk : Int → Bool) (w : World) (hc : cap ≤ maxLen) :
    Calls Try.prog 5 #[.slice a 0 cap, .map m] w fun e w' => e = .returned (.int .i64 (wrap64 (val lk []))) ∧ w' = w := by
  go_enter Try.func5, Try.ntmps5
  go_wp2
  refine wp_loop_rounds 1 ?_
  rw [rounds_succ]
  go_wp2
  go_ret
  exact ⟨ret_int (by simp [val, num, wrap64]), rfl⟩

theorem value_any (a : Option Addr) (len cap : Nat) (zs : List Int) (m : Option Nat) (lk : Int → Bool) (w : World) (hr : Row w a len zs) (hc : len ≤ cap) (hm : cap ≤ maxLen) (hlk : MapLook m lk w) :
    Calls Try.prog 5 #[.slice a len cap, .map m] w fun e w' => e = .returned (.int .i64 (wrap64 (val lk zs))) ∧ w' = w := by
  obtain ⟨h1, h2, h3⟩ := hr
  by_cases h : len = 0
  · subst h
    obtain rfl := List.eq_nil_of_length_eq_zero h1
    exact value_none a cap m lk w hm
  · obtain ⟨b, off, rfl, _, hcell⟩ := h3 (by omega)
    exact value_pos b off len cap zs m lk w h1 (by omega) hc hm h2 hcell hlk

def part (zs : List Int) (k : Nat) : List Value := ((zs.take k).map notI ++ List.replicate (zs.length - k) 0).map (Value.int .i32)
theorem part_zero (zs : List Int) : part zs 0 = List.replicate zs.length (.int .i32 0) := by simp [part]
theorem part_all (zs : List Int) : part zs zs.length = (zs.map notI).map (.int .i32) := by simp [part]
theorem part_step (zs : List Int) (k : Nat) (h : k < zs.length) : (part zs k).set k (.int .i32 (bits .xor .i32 (zs.getD k 0) 1)) = part zs (k + 1) := by
  have e : zs.getD k 0 = zs[k] := by simp [List.getD_eq_getElem?_getD, h]
  have e2 : zs.length - k = (zs.length - (k + 1)) + 1 := by omega
  have e3 : ((List.map notI (zs.take k)).map (Value.int .i32)).length = k := by simp; omega
  have e4 : part zs (k + 1) = (List.map notI (zs.take k)).map (Value.int .i32) ++ .int .i32 (notI zs[k]) :: List.replicate (zs.length - (k + 1)) (.int .i32 0) := by
    unfold part
    rw [List.take_succ_eq_append_getElem h, List.map_append, List.map_append, List.map_append, List.map_replicate]
    simp only [List.map_cons, List.map_nil, List.append_assoc, List.singleton_append]
  rw [e4, e]
  unfold part
  rw [e2, List.replicate_succ, List.map_append, List.set_append_right _ _ (by omega), e3]
  simp only [Nat.sub_self, List.map_cons, List.set_cons_zero, List.map_replicate, notI]

set_option maxHeartbeats 1000000 in
theorem wnot_any (a : Option Addr) (len cap : Nat) (zs : List Int) (w : World) (hr : Row w a len zs) (hlen : len ≤ 65536) :
    Calls Try.prog 6 #[.slice a len cap] w fun e w' => e = .returned (.slice (some ⟨w.heap.size, 0, none⟩) len len) ∧ w'.ownsRow w.heap.size 25 1 (.slice (some ⟨w.heap.size, 0, none⟩) len len) len ((zs.map notI).map (.int .i32)) ∧ Below w.heap.size w w' := by
  obtain ⟨h1, h2, h3⟩ := hr
  obtain ⟨i0, hi, hz0, hz1, hz2⟩ := info_parts Try.info25
  have H1 : Hid (zs.length = len) := h1
  have H2 : Hid (∀ f ∈ zs, Fits f) := h2
  have H3 : Hid (0 < len → ∃ b off, a = some ⟨b, off, none⟩ ∧ b < w.heap.size ∧ ∀ i, i < len → w.cell? ⟨b, off + i, none⟩ = some (.int .i32 (zs.getD i 0))) := h3
  clear h1 h2 h3
  go_enter Try.func6, Try.ntmps6
  go_wp2_with (first
    | (at_make; refine wpList_make_full _ rfl _ _ 23 rfl w.heap.size 25 i0 (.int .i32 0) 1 Try.underlying23 hi hz0 hz1 .i64 .i64 _ _ len rfl rfl rfl rfl (by rw [hz2]; omega) (by unfold maxLen; omega) (Nat.le_refl _) ?_; intro w1 hown hgrow))
  rw [show len * 1 = zs.length by rw [H1.out]; omega, show (Value.int .i32 0).cells = #[.int .i32 0] from rfl, toList_madeCells_one, ← part_zero] at hown
  go_loopw [11] (fun i wr => ∃ k : Nat, k ≤ len ∧ i = .int .i64 k ∧ wr.ownsRow w.heap.size 25 1 (.slice (some ⟨w.heap.size, 0, none⟩) len len) len (part zs k) ∧ Below w.heap.size w wr) (fun i _ => len - (intOf i).toNat)
  case atStart => exact ⟨0, Nat.zero_le _, rfl, hown, (Below.refl _ _).grown hgrow (Nat.le_refl _) (fun _ h => by cases h)⟩
  case round =>
    clear hown hgrow
    obtain ⟨k, hk, rfl, hown, hbel⟩ := hrel
    by_cases hlt : k < len
    · obtain ⟨b, off, rfl, hb, hcell⟩ := H3.out (by omega)
      have g : wr.cell? ⟨b, off + k, none⟩ = some (.int .i32 (zs.getD k 0)) := (hbel.cell (by exact hb)).trans (hcell k hlt)
      clear hcell
      have S : Hid ((part zs k).set k (.int .i32 (bits .xor .i32 (zs.getD k 0) 1)) = part zs (k + 1)) := part_step zs k (by rw [H1.out]; exact hlt)
      obtain ⟨u0, hu0⟩ : ∃ u0, wr.cell? ⟨w.heap.size, k, none⟩ = some u0 := by
        rw [hown.cellAt k (by omega)]
        have := hown.1
        exact ⟨_, List.getElem?_eq_getElem (by omega)⟩
      have hfz := hown.frozenAt k
      generalize zs.getD k 0 = f at g S
      have HO : Hid (wr.ownsRow w.heap.size 25 1 (.slice (some ⟨w.heap.size, 0, none⟩) len len) len (part zs k)) := hown
      clear hown
      go_wp2
      go_roundw
      case rel => exact ⟨k + 1, by omega, by go_num, by rw [← S.out]; exact (HO.out.stored k _).1, hbel.setCell (Nat.le_refl _) _⟩
      case measure => simp [intOf]; omega
    · have hke : Hid (k = zs.length) := by show k = zs.length; rw [H1.out]; omega
      have hx : len ≤ k := by omega
      go_wp2
      go_ret
      exact ⟨rfl, by rw [← part_all, ← hke.out]; exact hown, hbel⟩
end Go.Proofs.Qxb6629006a
