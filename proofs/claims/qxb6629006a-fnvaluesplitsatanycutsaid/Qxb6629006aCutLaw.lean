/-
  FnValueSplitsAtAnyCut: the walk of the law, and the statement.
-/
import Derived.Test.Qxb6629006aNotLaw
namespace Go.Proofs.Qxb6629006a
open Go.ChangeShapes Go.WideShapes Go.ChangeAt Go.RowKit Go.Maps Go.WideElems
set_option linter.unusedVariables false
set_option linter.unusedSimpArgs false

theorem Row.below {W w : World} {a : Option Addr} {len : Nat} {zs : List Int} (h : Row W a len zs) (hb : Below W.heap.size W w) : Row w a len zs := by
  refine ⟨h.1, h.2.1, fun hp => ?_⟩
  obtain ⟨b, off, rfl, hlt, hc⟩ := h.2.2 hp
  exact ⟨b, off, rfl, Nat.lt_of_lt_of_le hlt hb.size, fun i hi => (hb.cell (by exact hlt)).trans (hc i hi)⟩
theorem Row.take {W : World} {a : Option Addr} {len : Nat} {zs : List Int} (h : Row W a len zs) (k : Nat) (hk : k ≤ len) : Row W a k (zs.take k) := by
  refine ⟨by have := h.1; simp; omega, fun f hf => h.2.1 f (List.mem_of_mem_take hf), fun hp => ?_⟩
  obtain ⟨b, off, rfl, hlt, hc⟩ := h.2.2 (by omega)
  refine ⟨b, off, rfl, hlt, fun i hi => ?_⟩
  rw [hc i (by omega)]
  simp [List.getD_eq_getElem?_getD, List.getElem?_take, hi]
/-- The address of w[k:]. -/
def cutAt (a : Option Addr) (cap k : Nat) : Option Addr := if cap = k then a else a.map (·.add (k * 1))
theorem Row.drop {W : World} {a : Option Addr} {len cap : Nat} {zs : List Int} (h : Row W a len zs) (k : Nat) (hk : k ≤ len) (hc : len ≤ cap) : Row W (cutAt a cap k) (len - k) (zs.drop k) := by
  refine ⟨by have := h.1; simp; omega, fun f hf => h.2.1 f (List.mem_of_mem_drop hf), fun hp => ?_⟩
  obtain ⟨b, off, rfl, hlt, hcc⟩ := h.2.2 (by omega)
  refine ⟨b, off + k, ?_, hlt, fun i hi => ?_⟩
  · unfold cutAt
    rw [if_neg (by omega)]
    simp [add_plain]
  · rw [Nat.add_assoc, hcc (k + i) (by omega)]
    simp [List.getD_eq_getElem?_getD, List.getElem?_drop]
theorem run_cut (a : Option Addr) (len cap k : Nat) (hk : k ≤ len) (w : World) :
    (Instr.slice 23 (.slice a len cap) (some (.int .i64 (k : Int))) none none).run Try.prog w = .ok (.slice (cutAt a cap k) (len - k) (cap - k)) w := by
  have hs : (sizeOf (Try.prog.elem 23)).run Try.prog w = .ok 1 w := by kernel_rfl
  rw [run_slice_l (P := Try.prog) w 23 a len cap Try.underlying23 .i64 k (by omega) (by omega), hs]
  simp [Result.andThen, sliced, cutAt]

theorem src1_len {W : World} {a : Option Addr} {len k : Nat} {zs : List Int} (h : Row W a len zs) (hk : k ≤ len) : ((zs.take k).map (Value.int .i32)).length = k * 1 := by
  have := h.1; simp; omega
theorem src2_len {W : World} {a : Option Addr} {len k : Nat} {zs : List Int} (h : Row W a len zs) (hk : k ≤ len) : (((zs.drop k).map notI).map (Value.int .i32)).length = (len - k) * 1 := by
  have := h.1; simp; omega
theorem src1_cells {W w3 w4 : World} {a : Option Addr} {len k : Nat} {zs : List Int} (h : Row W a len zs) (hk : k ≤ len) (hb : Below W.heap.size W w3) (hg : w3.grownBy w4 none) :
    ∀ ad, a = some ad → ∀ j u, ((zs.take k).map (Value.int .i32))[j]? = some u → w4.cell? (ad.add j) = some u := by
  intro ad e j u hu
  have hj : j < k := by have := (List.getElem?_eq_some_iff.1 hu).1; simp at this; omega
  have hl := h.1
  obtain ⟨b, off, e', hlt, hc⟩ := h.2.2 (by omega)
  rw [e] at e'
  cases e'
  have hb4 : Below W.heap.size W w4 := hb.grown hg hb.size (fun _ h => by cases h)
  rw [add_plain, hb4.cell (by exact hlt), hc j (by omega)]
  have e2 : ((zs.take k).map (Value.int .i32))[j]? = some (.int .i32 (zs.getD j 0)) := by
    have hj2 : j < zs.length := by omega
    simp [List.getElem?_take, hj, List.getD_eq_getElem?_getD, hj2]
  rw [e2] at hu
  exact hu
theorem src2_cells {w3 w4 w5 : World} {g n : Nat} {ys : List Value} (h : w3.ownsRow g 25 1 (.slice (some ⟨g, 0, none⟩) n n) n ys) (hg : w3.grownBy w4 none) (hg5 : w4.grownBy w5 (some w3.heap.size)) :
    ∀ ad, (some ⟨g, 0, none⟩ : Option Addr) = some ad → ∀ j u, ys[j]? = some u → w5.cell? (ad.add j) = some u := by
  intro ad e j u hu
  cases e
  have h4 := h.kept hg (.inr (by simp [Value.ownBlock]))
  have hlt := (h.lt g rfl).2
  have h5 := h4.kept hg5 (.inr (by simp [Value.ownBlock]; omega))
  exact h5.cells rfl j u hu

def flipAt (zs : List Int) (k : Nat) : List Int := zs.take k ++ (zs.drop k).map notI

set_option maxHeartbeats 1000000 in
theorem law2_main (a : Option Addr) (len cap : Nat) (zs : List Int) (m : Option Nat) (lk : Int → Bool) (n k : Nat) (w : World) (hr : Row w a len zs) (hc : len ≤ cap) (hm : cap ≤ maxLen) (hmap : MapIs m lk n w)
    (g1 : len ≤ 65536) (g2 : n ≤ 65536) (g3 : lk 0 = false) (g4 : k ≤ len) (hnil : a = none → len = 0 ∧ cap = 0) :
    Calls Try.prog 4 #[.slice a len cap, .map m, .int .i64 k] w fun e w' => e = .returned (.bool true) ∧ Below w.heap.size w w' := by
  obtain ⟨hn, hmap⟩ := hmap
  have hm0 := hm
  unfold maxLen at hm hn
  have hL := (hmap w (Below.refl _ _)).2
  have l0 := (hmap w (Below.refl _ _)).1 0 (by decide) (by decide)
  rw [g3] at l0
  have HM : Hid (∀ w', Below w.heap.size w w' → MapLook m lk w' ∧ ∀ ty, (Builtin.len_ #[24] ty #[.map m]).run Try.prog w' = .ok (.int .i64 n) w') := hmap
  clear hmap
  have hsl := run_cut a len cap k g4
  have e1 := back64 (val lk zs) (val_lt _ _)
  have e2 := back64 (val lk (zs.take k)) (val_lt _ _)
  have e3 := back64 (val lk (zs.drop k)) (val_lt _ _)
  have e4 := back64 (val lk (flipAt zs k)) (val_lt _ _)
  have eF : ((val lk (flipAt zs k) : Int) == bits .xor .u64 (val lk zs : Int) (bits .andNot .u64 (low len : Int) (low k : Int))) = true := by
    have hx : low len &&& (18446744073709551615 - low k) < 2 ^ 64 := Nat.and_lt_two_pow _ (by omega)
    rw [u64_andNot_nat _ _ (low_lt _) (low_lt _), u64_xor_nat _ _ (val_lt _ _) (by omega), flipAt, val_flip lk g3 zs hr.2.1 k (by rw [hr.1]; exact g4), hr.1]
    simp
  have EJ : Hid (k < 64 → (bits .or .u64 (val lk (zs.take k) : Int) (IntKind.u64.wrap ((val lk (zs.drop k) : Int) * 2 ^ k)) == (val lk zs : Int)) = true) := by
    intro h64
    have e : IntKind.u64.wrap ((val lk (zs.drop k) : Int) * 2 ^ k) = ((val lk (zs.drop k) * 2 ^ k % 18446744073709551616 : Nat) : Int) := by
      rw [IntKind.wrap_u64]; simp
    rw [e, u64_or_nat _ _ (val_lt _ _) (by omega), ← val_join lk zs k (by rw [hr.1]; exact g4) h64]
    simp
  have EK : Hid (¬ k < 64 → ((val lk (zs.take k) : Int) == (val lk zs : Int)) = true) := by
    intro h64
    rw [val_join_far lk zs k (by omega)]
    simp
  have HR : Hid (Row w a len zs) := hr
  clear hr
  have HG : Hid (lk 0 = false) := g3
  clear g3
  by_cases h64 : k < 64
  · have eJ := EJ.out h64
    clear EJ EK
    go_enter Try.func4, Try.ntmps4
    go_wp2_with fail
    refine (value_any a len cap zs m lk w HR.out hc hm0 (HM.out w (Below.refl _ _)).1).mono ?_
    rintro e w' ⟨rfl, rfl⟩
    go_wp2_with fail
    refine (value_any a k cap (zs.take k) m lk w' (HR.out.take k g4) (by omega) hm0 (HM.out w' (Below.refl _ _)).1).mono ?_
    rintro e w1 ⟨rfl, rfl⟩
    go_wp2_with fail
    refine (value_any _ (len - k) (cap - k) (zs.drop k) m lk w1 (HR.out.drop k g4 hc) (by omega) (by unfold maxLen; omega) (HM.out w1 (Below.refl _ _)).1).mono ?_
    rintro e w2 ⟨rfl, rfl⟩
    go_wp2_with fail
    refine (wnot_any _ (len - k) (cap - k) (zs.drop k) w2 (HR.out.drop k g4 hc) (by omega)).mono ?_
    rintro e w3 ⟨rfl, hown, hbel⟩
    have HB : Hid (Below w2.heap.size w2 w3) := hbel
    have HO : Hid (w3.ownsRow w2.heap.size 25 1 (.slice (some ⟨w2.heap.size, 0, none⟩) (len - k) (len - k)) (len - k) (((zs.drop k).map notI).map (.int .i32))) := hown
    clear hown hbel
    obtain ⟨i0, hi, hz0, hz1, hz2⟩ := info_parts Try.info25
    have HN : Hid (a = none → k = 0 ∧ cap = 0) := fun h => by have := hnil h; omega
    clear hnil
    go_wp2_with (first
      | (at_make; refine wpList_make_own _ rfl _ _ 23 rfl w3.heap.size 25 i0 (.int .i32 0) 1 Try.underlying23 hi hz0 hz1 .i64 .i64 _ len rfl rfl rfl (by rw [hz2]; omega) (by unfold maxLen; omega) (Nat.le_refl _) ?_; intro w4 hown4 hgrow4)
      | (at_builtin; refine wpList_append_fits_any _ rfl (.tmp 63) (.tmp 66) 23 rfl w3.heap.size 25 i0 1 Try.underlying23 hi hz1 w3.heap.size 0 len [] rfl hown4 a k cap ((zs.take k).map (.int .i32)) rfl (src1_len HR.out g4) HN.out (src1_cells HR.out g4 HB.out hgrow4) (ints_oneCell _ _) (by omega) ?_; intro w5 hown5 hgrow5; simp only [Nat.zero_add, List.nil_append] at hown5 ⊢)
      | (at_builtin; refine wpList_append_fits_any _ rfl (.tmp 68) (.tmp 69) 23 rfl w3.heap.size 25 i0 1 Try.underlying23 hi hz1 w3.heap.size k len _ rfl hown5 (some ⟨w2.heap.size, 0, none⟩) (len - k) (len - k) (((zs.drop k).map notI).map (.int .i32)) rfl (src2_len HR.out g4) (fun h => by cases h) (src2_cells HO.out hgrow4 hgrow5) (ints_oneCell _ _) (by omega) ?_; intro w6 hown6 hgrow6))
    have hr6 : Row w6 (some ⟨w3.heap.size, 0, none⟩) len (flipAt zs k) := by
      rw [show k + (len - k) = len by omega, ← List.map_append] at hown6
      refine row_own hown6 (by have := HR.out.1; simp [flipAt]; omega) (fun f hf => ?_)
      rcases List.mem_append.1 hf with h | h
      · exact HR.out.2.1 f (List.mem_of_mem_take h)
      · obtain ⟨g, hg, rfl⟩ := List.mem_map.1 h
        exact fits_not (HR.out.2.1 g (List.mem_of_mem_drop hg))
    have hs6 : w2.heap.size ≤ w3.heap.size := HB.out.size
    have hb6 : Below w2.heap.size w2 w6 := ((HB.out.grown hgrow4 hs6 (fun _ h => by cases h)).grown hgrow5 (Nat.le_trans hs6 hgrow4.size) (fun _ h => by cases h; exact hs6)).grown hgrow6 (Nat.le_trans hs6 (Nat.le_trans hgrow4.size hgrow5.size)) (fun _ h => by cases h; exact hs6)
    have HB6 : Hid (Below w2.heap.size w2 w6) := hb6
    clear hb6 hs6 hown4 hown5 hown6 hgrow4 hgrow5 hgrow6 hi hz0 hz1 hz2 hsl l0 hL
    refine (value_any _ len len _ m lk w6 hr6 (Nat.le_refl _) (by unfold maxLen; omega) (HM.out w6 HB6.out).1).mono ?_
    rintro e w7 ⟨rfl, rfl⟩
    clear hr6
    go_wp2_with fail
    refine (low_any len w7).mono ?_
    rintro e w8 ⟨rfl, rfl⟩
    go_wp2_with fail
    refine (low_any k w8).mono ?_
    rintro e w9 ⟨rfl, rfl⟩
    go_wp2
    go_ret
    exact ⟨rfl, HB6.out⟩
  · have eJ := EK.out h64
    clear EJ EK
    go_enter Try.func4, Try.ntmps4
    go_wp2_with fail
    refine (value_any a len cap zs m lk w HR.out hc hm0 (HM.out w (Below.refl _ _)).1).mono ?_
    rintro e w' ⟨rfl, rfl⟩
    go_wp2_with fail
    refine (value_any a k cap (zs.take k) m lk w' (HR.out.take k g4) (by omega) hm0 (HM.out w' (Below.refl _ _)).1).mono ?_
    rintro e w1 ⟨rfl, rfl⟩
    go_wp2_with fail
    refine (value_any _ (len - k) (cap - k) (zs.drop k) m lk w1 (HR.out.drop k g4 hc) (by omega) (by unfold maxLen; omega) (HM.out w1 (Below.refl _ _)).1).mono ?_
    rintro e w2 ⟨rfl, rfl⟩
    go_wp2_with fail
    refine (wnot_any _ (len - k) (cap - k) (zs.drop k) w2 (HR.out.drop k g4 hc) (by omega)).mono ?_
    rintro e w3 ⟨rfl, hown, hbel⟩
    have HB : Hid (Below w2.heap.size w2 w3) := hbel
    have HO : Hid (w3.ownsRow w2.heap.size 25 1 (.slice (some ⟨w2.heap.size, 0, none⟩) (len - k) (len - k)) (len - k) (((zs.drop k).map notI).map (.int .i32))) := hown
    clear hown hbel
    obtain ⟨i0, hi, hz0, hz1, hz2⟩ := info_parts Try.info25
    have HN : Hid (a = none → k = 0 ∧ cap = 0) := fun h => by have := hnil h; omega
    clear hnil
    go_wp2_with (first
      | (at_make; refine wpList_make_own _ rfl _ _ 23 rfl w3.heap.size 25 i0 (.int .i32 0) 1 Try.underlying23 hi hz0 hz1 .i64 .i64 _ len rfl rfl rfl (by rw [hz2]; omega) (by unfold maxLen; omega) (Nat.le_refl _) ?_; intro w4 hown4 hgrow4)
      | (at_builtin; refine wpList_append_fits_any _ rfl (.tmp 63) (.tmp 66) 23 rfl w3.heap.size 25 i0 1 Try.underlying23 hi hz1 w3.heap.size 0 len [] rfl hown4 a k cap ((zs.take k).map (.int .i32)) rfl (src1_len HR.out g4) HN.out (src1_cells HR.out g4 HB.out hgrow4) (ints_oneCell _ _) (by omega) ?_; intro w5 hown5 hgrow5; simp only [Nat.zero_add, List.nil_append] at hown5 ⊢)
      | (at_builtin; refine wpList_append_fits_any _ rfl (.tmp 68) (.tmp 69) 23 rfl w3.heap.size 25 i0 1 Try.underlying23 hi hz1 w3.heap.size k len _ rfl hown5 (some ⟨w2.heap.size, 0, none⟩) (len - k) (len - k) (((zs.drop k).map notI).map (.int .i32)) rfl (src2_len HR.out g4) (fun h => by cases h) (src2_cells HO.out hgrow4 hgrow5) (ints_oneCell _ _) (by omega) ?_; intro w6 hown6 hgrow6))
    have hr6 : Row w6 (some ⟨w3.heap.size, 0, none⟩) len (flipAt zs k) := by
      rw [show k + (len - k) = len by omega, ← List.map_append] at hown6
      refine row_own hown6 (by have := HR.out.1; simp [flipAt]; omega) (fun f hf => ?_)
      rcases List.mem_append.1 hf with h | h
      · exact HR.out.2.1 f (List.mem_of_mem_take h)
      · obtain ⟨g, hg, rfl⟩ := List.mem_map.1 h
        exact fits_not (HR.out.2.1 g (List.mem_of_mem_drop hg))
    have hs6 : w2.heap.size ≤ w3.heap.size := HB.out.size
    have hb6 : Below w2.heap.size w2 w6 := ((HB.out.grown hgrow4 hs6 (fun _ h => by cases h)).grown hgrow5 (Nat.le_trans hs6 hgrow4.size) (fun _ h => by cases h; exact hs6)).grown hgrow6 (Nat.le_trans hs6 (Nat.le_trans hgrow4.size hgrow5.size)) (fun _ h => by cases h; exact hs6)
    have HB6 : Hid (Below w2.heap.size w2 w6) := hb6
    clear hb6 hs6 hown4 hown5 hown6 hgrow4 hgrow5 hgrow6 hi hz0 hz1 hz2 hsl l0 hL
    refine (value_any _ len len _ m lk w6 hr6 (Nat.le_refl _) (by unfold maxLen; omega) (HM.out w6 HB6.out).1).mono ?_
    rintro e w7 ⟨rfl, rfl⟩
    clear hr6
    go_wp2_with fail
    refine (low_any len w7).mono ?_
    rintro e w8 ⟨rfl, rfl⟩
    go_wp2_with fail
    refine (low_any k w8).mono ?_
    rintro e w9 ⟨rfl, rfl⟩
    go_wp2
    go_ret
    exact ⟨rfl, HB6.out⟩

set_option maxHeartbeats 1000000 in
theorem law2 (a : Option Addr) (len cap : Nat) (zs : List Int) (m : Option Nat) (lk : Int → Bool) (n : Nat) (k : Int) (w : World) (hr : Row w a len zs) (hc : len ≤ cap) (hm : cap ≤ maxLen) (hmap : MapIs m lk n w) (hnil : a = none → len = 0 ∧ cap = 0) :
    Calls Try.prog 4 #[.slice a len cap, .map m, .int .i64 k] w fun e w' => e = .returned (.bool true) ∧ Below w.heap.size w w' := by
  by_cases g1 : 65536 < len
  · have hm' := hm
    unfold maxLen at hm'
    clear hmap hr hnil
    go_enter Try.func4, Try.ntmps4
    go_wp2
    go_ret
    exact ⟨rfl, Below.refl _ _⟩
  have hL := (hmap.2 w (Below.refl _ _)).2
  have hn := hmap.1
  unfold maxLen at hn
  by_cases g2 : 65536 < n
  · clear hmap hr hnil
    go_enter Try.func4, Try.ntmps4
    go_wp2
    go_ret
    exact ⟨rfl, Below.refl _ _⟩
  by_cases g4 : k < 0
  · clear hmap hr hnil
    go_enter Try.func4, Try.ntmps4
    go_wp2
    go_ret
    exact ⟨rfl, Below.refl _ _⟩
  by_cases g5 : (len : Int) < k
  · clear hmap hr hnil
    go_enter Try.func4, Try.ntmps4
    go_wp2
    go_ret
    exact ⟨rfl, Below.refl _ _⟩
  obtain ⟨k, rfl⟩ := Int.eq_ofNat_of_zero_le (show 0 ≤ k by omega)
  cases g3 : lk 0
  · exact law2_main a len cap zs m lk n k w hr hc hm hmap (by omega) (by omega) g3 (by omega) hnil
  · have l0 := (hmap.2 w (Below.refl _ _)).1 0 (by decide) (by decide)
    rw [g3] at l0
    clear hmap hr hnil
    go_enter Try.func4, Try.ntmps4
    go_wp2
    go_ret
    exact ⟨rfl, Below.refl _ _⟩

theorem nil_none {H : Type} {enc : TypeId × Value → H} {W : World} {len cap : Nat} {d : DataW H} {p : List MemPlace}
    (h : DataW.Trod enc Try.prog W 0 (fun _ => true) true 23 (.slice none len cap) d p) : len = 0 ∧ cap = 0 := by
  obtain ⟨fuel, hf⟩ := h
  rcases open_ints Try.underlying23 Try.underlying25 (by kernel_rfl) hf with ⟨hcs, _⟩ | ⟨x, l, c, zs, hcs, _⟩
  · simpa [Value.cells] using hcs
  · simp [Value.cells] at hcs

set_option maxRecDepth 100000 in
theorem lifted2 (os : Os) (started : os.Started) (H : Type) (enc : TypeId × Value → H) :
    ReturnsInHanded {} Try.checked os 4 .any (Rows.fnValueSplitsAtAnyCutSpec.pre6 enc Try.prog Try.f4 Rows.fnValueSplitsAtAnyCutRow.domain false) (Rows.fnValueSplitsAtAnyCutSpec.post enc Try.prog Try.f4 false true false false) := by
  refine returnsInHanded_of_change (C := Try.checked) own started (by kernel_rfl) Try.func4
    (ChangeSpec.witness6 (enc := enc) (C := Try.checked) false ⟨#[], #[.slice none 0 0, .map none, .int .i64 0], []⟩ 8 (by kernel_rfl) (by kernel_rfl) (by kernel_rfl) (by kernel_rfl)) ?_
  intro W base args ds gs before hval0 hW hcnd _
  have hval : ∀ (j : Nat) t v, Try.f4.params[j]? = some t → args[j]? = some v → Value.okWide Try.prog W .any base t v := hval0
  have hW' := hW
  obtain ⟨p, q, hA0, hV, rfl, hfz, hnd⟩ := hW
  have hA : DataW.TrodAll enc Try.prog W 0 (fun _ => true) true Try.f4.params.toList args.toList ds p := hA0
  rw [Try.params4] at hA hval
  obtain ⟨v0, vs0, d0, ds0, p0, q0, hargs, rfl, rfl, h0, r0⟩ := trodAll_cons hA
  obtain ⟨v1, vs1, d1, ds1, p1, q1, rfl, rfl, rfl, h1, r1⟩ := trodAll_cons r0
  obtain ⟨v2, vs2, d2, ds2, p2, q2, rfl, rfl, rfl, h2, r2⟩ := trodAll_cons r1
  obtain ⟨rfl, rfl, rfl⟩ := trodAll_nil r2
  obtain rfl : args = #[v0, v1, v2] := by cases args; simp_all
  obtain ⟨rfl, rfl⟩ := trodVars_none hV
  obtain ⟨a0, len0, cap0, rfl⟩ := okWide_slice Try.underlying23 (hval 0 23 v0 rfl rfl)
  obtain ⟨m, rfl⟩ := okWide_map Try.underlying24 (hval 1 24 v1 rfl rfl)
  have lt0 : ∀ x ∈ p0, x.block < W.heap.size := by obtain ⟨m, hm⟩ := h0; exact DataW.trod_lt m _ _ _ hm
  have lt1 : ∀ x ∈ p1, x.block < W.heap.size := by obtain ⟨m, hm⟩ := h1; exact DataW.trod_lt m _ _ _ hm
  obtain ⟨zs, hrow, hc, hm⟩ := open_row h0
  obtain ⟨lk, n, hmap⟩ := open_lookup h1
  obtain ⟨k, rfl, rfl, rfl, wk⟩ := open_int Try.underlying3 (hval 2 3 v2 rfl rfl) h2
  have hnil : a0 = none → len0 = 0 ∧ cap0 = 0 := fun e => by subst e; exact nil_none h0
  clear hA0 hval0
  refine (law2 a0 len0 cap0 zs m lk n k W hrow hc hm hmap hnil).mono fun e W' ⟨he, bel⟩ => ?_
  subst he
  exact ⟨_, rfl, _, _, _, [], _, [], hW', trodAll_mk1 (shut_bool Try.underlying4 _), (trodAll_cons_mk (Below.trod laidOut (by kernel_rfl) (of_decide_eq_true (by kernel_rfl)) h0 bel lt0) (trodAll_cons_mk (Below.trod laidOut (by kernel_rfl) (of_decide_eq_true (by kernel_rfl)) h1 bel lt1) (trodAll_cons_mk (shut_int Try.underlying3 wk) trodAll_mk0))), rfl, bel.frame _, fun h => by cases h⟩

/-- THE STATEMENT. -/
theorem valueSplits_proved : Rows.FnValueSplitsAtAnyCutSaid :=
  OpenClaim.holds_of_wide 4 Try.f4 rfl rfl rfl rfl rfl rfl rfl ⟨rfl, rfl, rfl, rfl, rfl⟩ rfl rfl rfl rfl rfl (by kernel_rfl) Try.func4 (by kernel_rfl)
    (of_decide_eq_true (by kernel_rfl)) (by unfold Func.isWrapper; first | (rw [if_pos (by decide +kernel)]; kernel_rfl) | (rw [if_neg (by decide +kernel)]; exact ⟨rfl, rfl⟩))
    (fun os started H enc _ => lifted2 os started H enc)
#print axioms valueSplits_proved
end Go.Proofs.Qxb6629006a
