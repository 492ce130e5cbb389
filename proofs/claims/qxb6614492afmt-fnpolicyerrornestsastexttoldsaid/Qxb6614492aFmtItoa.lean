/-
  zzItoa writes the decimal numeral.
-/
import Derived.Test.Qxb6614492aFmtRows
import Derived.WalkKit
import Derived.WalkSpells
import Derived.WalkLawsBesides
import Derived.Lib.ItoaMem
import Derived.Lib.ItoaLen
namespace Go.Proofs.Qxb6614492aFmt.Pol
open Go.RowKit
set_option linter.unusedVariables false

/-! ### The plain law -/
/-- The digits of u, none of 0. -/
def dgs (u : Nat) : List UInt8 := if u = 0 then [] else Lib.decDigits u
theorem dgs_zero : dgs 0 = [] := rfl
theorem dgs_step (u : Nat) (h : 0 < u) : dgs u = dgs (u / 10) ++ [UInt8.ofNat (48 + u % 10)] := by
  unfold dgs
  rw [if_neg (by omega)]
  by_cases h10 : u < 10
  · have e : u / 10 = 0 := by omega
    have e2 : u % 10 = u := by omega
    rw [if_pos e, Lib.decDigits, dif_pos h10, e2]
    rfl
  · rw [if_neg (by omega), Lib.decDigits, dif_neg h10]
theorem dig_toNat (u : Nat) : (UInt8.ofNat (48 + u % 10)).toNat = 48 + u % 10 := by
  simp [UInt8.toNat_ofNat']
  omega

/-! ### The buffer -/
/-- The 24 bytes lie in block b; the last ones are ds. -/
def Buf (w : World) (b : Nat) (ds : List UInt8) : Prop :=
  ∃ c : Array Value, w.heap[b]? = some (.cells c 61 (0, 0)) ∧ c.size = 24 ∧ ds.length ≤ 24 ∧ ∀ j (hj : j < ds.length), c[24 - ds.length + j]? = some (.int .u8 (ds[j].toNat : Int))
theorem heap_setCell_row {w : World} {b i : Nat} {c : Array Value} {t : TypeId} {v : Value} (h : w.heap[b]? = some (.cells c t (0, 0))) : (w.setCell ⟨b, i, none⟩ v).heap[b]? = some (.cells (c.setIfInBounds i v) t (0, 0)) := by
  have hlt := lt_of_block h
  have h' : w.heap[b] = .cells c t (0, 0) := by simpa [Array.getElem?_eq_getElem hlt] using h
  show (w.heap.modify b _)[b]? = _
  rw [Array.getElem?_eq_getElem (by simpa using hlt), Array.getElem_modify_self, h']
  rfl
theorem Buf.push {w : World} {b : Nat} {ds : List UInt8} (h : Buf w b ds) (hl : ds.length < 24) (d : UInt8) (x : Int) (hx : x = (d.toNat : Int)) (i : Nat) (hi : i = 23 - ds.length) : Buf (w.setCell ⟨b, i, none⟩ (.int .u8 x)) b (d :: ds) := by
  obtain ⟨c, hc, hs, _, hd⟩ := h
  refine ⟨_, heap_setCell_row hc, by simpa using hs, by simp; omega, fun j hj => ?_⟩
  subst hx hi
  cases j with
  | zero =>
    have e : 24 - (d :: ds).length + 0 = 23 - ds.length := by simp
    rw [e, Array.getElem?_setIfInBounds_self_of_lt (by omega)]
    rfl
  | succ j =>
    have e : 24 - (d :: ds).length + (j + 1) = 24 - ds.length + j := by simp at hj ⊢; omega
    rw [e, Array.getElem?_setIfInBounds_ne (by omega)]
    exact hd j (by simpa using hj)
theorem Buf.cell {w : World} {b : Nat} {ds : List UInt8} (h : Buf w b ds) (i : Nat) (hi : i < 24) : ∃ v, w.cell? ⟨b, i, none⟩ = some v := by
  obtain ⟨c, hc, hs, _, _⟩ := h
  exact ⟨c[i], by simp [World.cell?, hc, hs, hi]⟩
theorem Buf.free {w : World} {b : Nat} {ds : List UInt8} (h : Buf w b ds) (i : Nat) : w.frozen? ⟨b, i, none⟩ = false := by
  obtain ⟨c, hc, _⟩ := h
  simp [World.frozen?, hc]
theorem Buf.byteAt {w : World} {b : Nat} {ds : List UInt8} (h : Buf w b ds) (j : Nat) (hj : j < ds.length) : w.cell? ((⟨b, 24 - ds.length, none⟩ : Addr).add j) = some (.int .u8 (ds[j].toNat : Int)) := by
  obtain ⟨c, hc, _, _, hd⟩ := h
  rw [Lib.add_plain]
  simpa [World.cell?, hc] using hd j hj
theorem buf_new (w : World) : Buf (w.alloc (.cells Lib.zeros24 61)) w.heap.size [] := ⟨_, heap_alloc_new w _, rfl, by decide, fun j hj => by cases hj⟩

/-- 'buf[i:]' of the 24 bytes. -/
theorem slice_from (b i : Nat) (hi : i < 24) (w : World) : (Instr.sliceAt 61 (.pointer (some ⟨b, 0, none⟩)) (some (.int .i64 (i : Int))) none none).run Tryf.prog w = .ok (.slice (some ⟨b, i, none⟩) (24 - i) (24 - i)) w := by
  have e1 : Tryf.prog.arrayLen 61 = 24 := by kernel_rfl
  have e2 : Tryf.prog.elem 61 = 5 := by kernel_rfl
  have e3 : (sizeOf 5).run Tryf.prog w = .ok 1 w := by kernel_rfl
  have h := run_sliceAt_array_l (P := Tryf.prog) w 61 ⟨b, 0, none⟩ (by rw [e1, e2]; exact Tryf.underlying61) .i64 (i : Int) (by omega) (by rw [e1]; omega)
  rw [h, e1, e2, e3]
  have e4 : ¬ 24 = i := by omega
  simp [slicedAt, Lib.add_plain, e4]
/-- What the conversion of the bytes from i on gives. -/
theorem conv_from {w : World} {b i : Nat} {ds : List UInt8} (h : Buf w b ds) (hi : i = 24 - ds.length) (hl : ds.length ≤ 24) (cap : Nat) : (convert 29 9 (.slice (some ⟨b, i, none⟩) (24 - i) cap)).run Tryf.prog w = .ok (.string ⟨ds.toArray⟩) w := by
  have e : 24 - i = ds.length := by omega
  rw [e]
  exact run_convert_bytes_back w 29 9 5 _ cap ds Tryf.underlying29 Tryf.underlying5 Tryf.underlying9 (by rw [hi]; exact h.byteAt)
theorem ret_str {a b : ByteArray} (h : a = b) : Ending.returned (.string a) = .returned (.string b) := by rw [h]

set_option maxRecDepth 20000 in
set_option maxHeartbeats 1000000 in
theorem itoa_pos (u0 : Nat) (w : World) (h : 1 ≤ u0) (h' : u0 ≤ 9223372036854775807) :
    Calls Tryf.prog 23 #[.int .i64 u0] w fun e w' => e = .returned (.string ⟨(dgs u0).toArray⟩) ∧ Below w.heap.size w w' := by
  have hz : ((u0 : Int) == 0) = false := by simp; omega
  have hlen : (dgs u0).length ≤ 21 := by
    have := Lib.itoa_length_le u0 (by omega) (by omega)
    rw [Lib.itoa_nonneg] at this
    unfold dgs; rw [if_neg (by omega)]; exact this
  have HL : Hid ((dgs u0).length ≤ 21) := hlen
  clear hlen
  have hB := buf_new w
  have hbl : Below w.heap.size w (w.alloc (.cells Lib.zeros24 61)) := (Below.refl _ _).alloc (Nat.le_refl _) _
  go_enter Tryf.func23, Tryf.ntmps23
  go_wp2
  go_loopw [4, 6] (fun x y wr => ∃ (u : Nat) (ds : List UInt8), x = .int .u64 u ∧ y = .int .i64 ((24 - ds.length : Nat) : Int) ∧ u ≤ u0 ∧ Hid (dgs u ++ ds = dgs u0) ∧ Buf wr w.heap.size ds ∧ Below w.heap.size w wr) (fun x _ _ => (intOf x).toNat)
  case atStart => exact ⟨u0, [], rfl, rfl, Nat.le_refl _, by simp [Hid], hB, hbl⟩
  case round =>
    obtain ⟨u, ds, rfl, rfl, hu, HD, HB, hbe⟩ := hrel
    clear hB hbl
    by_cases hpos : 0 < u
    · have hst := dgs_step u hpos
      have hln : ds.length < 21 := by
        have e := HD.out
        rw [hst] at e
        have := congrArg List.length e
        simp at this
        have := HL.out
        omega
      obtain ⟨i, hi⟩ : ∃ i, i = 23 - ds.length := ⟨_, rfl⟩
      have hi1 : 24 - ds.length = i + 1 := by omega
      have hi2 : i < 24 := by omega
      obtain ⟨v, hv⟩ := HB.cell i hi2
      have hf := HB.free i
      have R : Hid (Buf (wr.setCell ⟨w.heap.size, i, none⟩ (.int .u8 (48 + (u : Int) % 10))) w.heap.size (UInt8.ofNat (48 + u % 10) :: ds)) := HB.push (by omega) _ _ (by rw [dig_toNat]; omega) i hi
      have R2 : Hid (dgs (u / 10) ++ UInt8.ofNat (48 + u % 10) :: ds = dgs u0) := by have e := HD.out; rw [hst] at e; simpa [Hid] using e
      have HI : Hid (i = 23 - ds.length) := hi
      clear HB HD hst hi
      rw [hi1]
      clear hi1
      go_wp2
      go_roundw
      case rel => exact ⟨u / 10, _, by go_num, by have := HI.out; congr 2; simp; omega, by omega, R2, R.out, hbe.setCell (by simp) _⟩
      case measure => simp [intOf]; omega
    · obtain rfl : u = 0 := by omega
      have hds : Hid (ds = dgs u0) := by have e := HD.out; rw [dgs_zero, List.nil_append] at e; exact e
      have hln : ds.length ≤ 21 := by rw [hds.out]; exact HL.out
      have hne : 1 ≤ ds.length := by
        have e := dgs_step u0 h
        rw [hds.out, e]; simp
      clear HD HL
      obtain ⟨i, hi⟩ : ∃ i, i = 24 - ds.length := ⟨_, rfl⟩
      have hi1 : i < 24 := by omega
      have hcv := fun cap => conv_from HB hi (by omega) cap
      have hsl := slice_from w.heap.size i hi1 wr
      rw [← hi]
      clear hi
      go_wp2
      go_ret
      exact ⟨ret_str (by rw [hds.out]), hbe⟩
set_option maxHeartbeats 1000000 in
theorem itoa_neg (u0 : Nat) (w : World) (h : 1 ≤ u0) (h' : u0 ≤ 9223372036854775808) :
    Calls Tryf.prog 23 #[.int .i64 (-(u0 : Int))] w fun e w' => e = .returned (.string ⟨(45 :: dgs u0).toArray⟩) ∧ Below w.heap.size w w' := by
  have hz : ((-(u0 : Int)) == 0) = false := by simp; omega
  have hneg : -(u0 : Int) < 0 := by omega
  have hwr : IntKind.u64.wrap (-IntKind.u64.wrap (-(u0 : Int))) = (u0 : Int) := by rw [IntKind.wrap_u64, IntKind.wrap_u64]; omega
  have hlen : (dgs u0).length ≤ 21 := by
    have := Lib.itoa_length_le (-(u0 : Int)) (by omega) (by omega)
    rw [Lib.itoa_neg u0 h] at this
    simp at this
    unfold dgs; rw [if_neg (by omega)]; omega
  have HL : Hid ((dgs u0).length ≤ 21) := hlen
  clear hlen
  have hB := buf_new w
  have hbl : Below w.heap.size w (w.alloc (.cells Lib.zeros24 61)) := (Below.refl _ _).alloc (Nat.le_refl _) _
  go_enter Tryf.func23, Tryf.ntmps23
  go_wp2
  go_loopw [4, 6] (fun x y wr => ∃ (u : Nat) (ds : List UInt8), x = .int .u64 u ∧ y = .int .i64 ((24 - ds.length : Nat) : Int) ∧ u ≤ u0 ∧ Hid (dgs u ++ ds = dgs u0) ∧ Buf wr w.heap.size ds ∧ Below w.heap.size w wr) (fun x _ _ => (intOf x).toNat)
  case atStart => exact ⟨u0, [], rfl, rfl, Nat.le_refl _, by simp [Hid], hB, hbl⟩
  case round =>
    obtain ⟨u, ds, rfl, rfl, hu, HD, HB, hbe⟩ := hrel
    clear hB hbl
    by_cases hpos : 0 < u
    · have hst := dgs_step u hpos
      have hln : ds.length < 21 := by
        have e := HD.out
        rw [hst] at e
        have := congrArg List.length e
        simp at this
        have := HL.out
        omega
      obtain ⟨i, hi⟩ : ∃ i, i = 23 - ds.length := ⟨_, rfl⟩
      have hi1 : 24 - ds.length = i + 1 := by omega
      have hi2 : i < 24 := by omega
      obtain ⟨v, hv⟩ := HB.cell i hi2
      have hf := HB.free i
      have R : Hid (Buf (wr.setCell ⟨w.heap.size, i, none⟩ (.int .u8 (48 + (u : Int) % 10))) w.heap.size (UInt8.ofNat (48 + u % 10) :: ds)) := HB.push (by omega) _ _ (by rw [dig_toNat]; omega) i hi
      have R2 : Hid (dgs (u / 10) ++ UInt8.ofNat (48 + u % 10) :: ds = dgs u0) := by have e := HD.out; rw [hst] at e; simpa [Hid] using e
      have HI : Hid (i = 23 - ds.length) := hi
      clear HB HD hst hi
      rw [hi1]
      clear hi1
      go_wp2
      go_roundw
      case rel => exact ⟨u / 10, _, by go_num, by have := HI.out; congr 2; simp; omega, by omega, R2, R.out, hbe.setCell (by simp) _⟩
      case measure => simp [intOf]; omega
    · obtain rfl : u = 0 := by omega
      have hds : Hid (ds = dgs u0) := by have e := HD.out; rw [dgs_zero, List.nil_append] at e; exact e
      have hln : ds.length ≤ 21 := by rw [hds.out]; exact HL.out
      have hne : 1 ≤ ds.length := by
        have e := dgs_step u0 h
        rw [hds.out, e]; simp
      clear HD HL
      obtain ⟨i, hi⟩ : ∃ i, i = 23 - ds.length := ⟨_, rfl⟩
      have hi1 : i < 24 := by omega
      have hi2 : 24 - ds.length = i + 1 := by omega
      obtain ⟨v, hv⟩ := HB.cell i hi1
      have hf := HB.free i
      have HB2 := HB.push (by omega) 45 45 rfl i hi
      have hcv := fun cap => conv_from HB2 (i := i) (by simp; omega) (by simp; omega) cap
      have hsl := slice_from w.heap.size i hi1
      rw [hi2]
      clear hi hi2 HB2 HB
      go_wp2
      go_ret
      exact ⟨ret_str (by rw [hds.out]), hbe.setCell (by simp) _⟩

/-- The numeral, as a Go string. -/
theorem itoa_any (n : Int) (w : World) (hw : (Lit.int .i64 n).wf = true) (hz : ¬ n = 0) : Calls Tryf.prog 23 #[.int .i64 n] w fun e w' => e = .returned (.string ⟨(Lib.itoa n).toArray⟩) ∧ Below w.heap.size w w' := by
  obtain ⟨b1, b2⟩ : -9223372036854775808 ≤ n ∧ n ≤ 9223372036854775807 := by
    simp [Lit.wf, IntKind.min, IntKind.max, IntKind.signed, IntKind.bits] at hw; omega
  by_cases hs : 0 < n
  · obtain ⟨u, rfl⟩ := Int.eq_ofNat_of_zero_le (show 0 ≤ n by omega)
    have := itoa_pos u w (by omega) (by omega)
    rw [Lib.itoa_nonneg]
    unfold dgs at this; rw [if_neg (by omega)] at this
    exact this
  · obtain ⟨u, hu⟩ := Int.eq_ofNat_of_zero_le (show 0 ≤ -n by omega)
    obtain rfl : n = -(u : Int) := by omega
    have := itoa_neg u w (by omega) (by omega)
    rw [Lib.itoa_neg u (by omega)]
    unfold dgs at this; rw [if_neg (by omega)] at this
    exact this
end Go.Proofs.Qxb6614492aFmt.Pol
