/-
  gather, by its contract: the block's bytes are laid behind the run's.
-/
import Derived.Test.Qxb6614998aRows
import Derived.Test.Qxb6614998aPlain
import Derived.WalkKit
import Derived.WalkSpells
import Derived.WalkLawsBesides
import Derived.Deep.QuietTactic
import Derived.BigQuiet
import Derived.LaidEqlPtr
import Derived.Laws.AppendOwnNone
namespace Go.Proofs.Qxb6614998a.Gat
open Go.RowKit
set_option linter.unusedVariables false

theorem info5 : (Try.prog.info? 5).map (fun i => (i.zero, i.size, i.bytes)) = some (some (.int .u8 0), 1, 1) := by kernel_rfl
theorem info57 : (Try.prog.info? 57).map (fun i => i.size) = some 6 := by kernel_rfl

/-- '!=' between one pointer to a piece and itself. -/
theorem neq_same (a : Addr) (w : World) : (binOp .neq 27 (.pointer (some a)) (.pointer (some a))).run Try.prog w = .ok (.bool false) w := by
  obtain ⟨j, hj, _⟩ := Option.map_eq_some_iff.1 info57
  have h : ∀ d : Nat, (Op.equalIn (d + 1) 27 (.pointer (some a)) (.pointer (some a))).run Try.prog w = .ok true w := fun d => by
    simp [Op.equalIn, run_underlying Try.underlying27, sizeOf, typeInfo, hj, run_sameAddr_same]
  simp only [binOp]
  simp [Op.equal, Op.maxDepth, h 9999]

/-- The run's four cells in the download's block D: the piece, the first block, the next block, the bytes. -/
structure Run (w : World) (D : Nat) (pv : Value) (first next : Int) (v : Value) : Prop where
  free : ∀ j, w.frozen? ⟨D, j, none⟩ = false
  c0 : w.cell? ⟨D, 16, none⟩ = some pv
  c1 : w.cell? ⟨D, 17, none⟩ = some (.int .i64 first)
  c2 : w.cell? ⟨D, 18, none⟩ = some (.int .i64 next)
  c3 : w.cell? ⟨D, 19, none⟩ = some v

theorem Run.set16 {w : World} {D : Nat} {pv v : Value} {first next : Int} (h : Run w D pv first next v) (u : Value) : Run (w.setCell ⟨D, 16, none⟩ u) D u first next v := by
  have q0 := h.c0; have q1 := h.c1; have q2 := h.c2; have q3 := h.c3
  exact ⟨fun j => (World.frozen?_setCell _ _ _ _).trans (h.free j), by go_simp, by go_simp, by go_simp, by go_simp⟩
theorem Run.set17 {w : World} {D : Nat} {pv v : Value} {first next : Int} (h : Run w D pv first next v) (n : Int) : Run (w.setCell ⟨D, 17, none⟩ (.int .i64 n)) D pv n next v := by
  have q0 := h.c0; have q1 := h.c1; have q2 := h.c2; have q3 := h.c3
  exact ⟨fun j => (World.frozen?_setCell _ _ _ _).trans (h.free j), by go_simp, by go_simp, by go_simp, by go_simp⟩
theorem Run.set18 {w : World} {D : Nat} {pv v : Value} {first next : Int} (h : Run w D pv first next v) (n : Int) : Run (w.setCell ⟨D, 18, none⟩ (.int .i64 n)) D pv first n v := by
  have q0 := h.c0; have q1 := h.c1; have q2 := h.c2; have q3 := h.c3
  exact ⟨fun j => (World.frozen?_setCell _ _ _ _).trans (h.free j), by go_simp, by go_simp, by go_simp, by go_simp⟩
theorem Run.set19 {w : World} {D : Nat} {pv v : Value} {first next : Int} (h : Run w D pv first next v) (u : Value) : Run (w.setCell ⟨D, 19, none⟩ u) D pv first next u := by
  have q0 := h.c0; have q1 := h.c1; have q2 := h.c2; have q3 := h.c3
  exact ⟨fun j => (World.frozen?_setCell _ _ _ _).trans (h.free j), by go_simp, by go_simp, by go_simp, by go_simp⟩
theorem own_apart {w : World} {B k : Nat} {v : Value} {xs : List Value} (h : w.ownsRow B 5 1 v k xs) (D : Nat) (hD : D < B) : some D ≠ v.ownBlock := by
  rcases h.2 with ⟨hv, _⟩ | ⟨g, cap, cur, hv, hg, _⟩
  · rw [hv]; simp [Value.ownBlock]
  · rw [hv]; simp [Value.ownBlock]; omega
theorem own_shape {w : World} {B k : Nat} {v : Value} {xs : List Value} (h : w.ownsRow B 5 1 v k xs) : ∃ ao cap, v = .slice ao k cap := by
  rcases h.2 with ⟨hv, h0⟩ | ⟨g, cap, cur, hv, _⟩
  · exact ⟨none, 0, by rw [hv, h0]⟩
  · exact ⟨_, _, hv⟩
theorem Run.grown {W w2 : World} {D B k : Nat} {pv v : Value} {first next : Int} {xs : List Value} (h : Run W D pv first next v) (ho : W.ownsRow B 5 1 v k xs) (hDB : D < B) (hB : B ≤ W.heap.size) (hg : W.grownBy w2 v.ownBlock) : Run w2 D pv first next v ∧ Below D W w2 := by
  have hc : ∀ j, w2.cell? ⟨D, j, none⟩ = W.cell? ⟨D, j, none⟩ := fun j => World.cell?_of_block (hg.block D (by omega) (own_apart ho D hDB))
  have hf : ∀ j, w2.frozen? ⟨D, j, none⟩ = W.frozen? ⟨D, j, none⟩ := fun j => World.frozen?_of_block (hg.block D (by omega) (own_apart ho D hDB))
  refine ⟨⟨fun j => (hf j).trans (h.free j), (hc 16).trans h.c0, (hc 17).trans h.c1, (hc 18).trans h.c2, (hc 19).trans h.c3⟩, (Below.refl D W).grown hg (by omega) ?_⟩
  intro j hj
  rcases ho.2 with ⟨hv, _⟩ | ⟨g, cap, cur, hv, hg', _⟩
  · rw [hv] at hj; simp [Value.ownBlock] at hj
  · rw [hv] at hj; simp [Value.ownBlock] at hj; omega
/-- What the last two stores leave. -/
theorem Run.laid {w w2 : World} {D B n : Nat} {pv v v' : Value} {first next m : Int} {ys : List Value} (h : Run w2 D pv first next v) (hb : Below D w w2) (ho : w2.ownsRow B 5 1 v' n ys) (hDB : D < B) :
    Run ((w2.setCell ⟨D, 19, none⟩ v').setCell ⟨D, 18, none⟩ (.int .i64 m)) D pv first m v' ∧ ((w2.setCell ⟨D, 19, none⟩ v').setCell ⟨D, 18, none⟩ (.int .i64 m)).ownsRow B 5 1 v' n ys ∧ Below D w ((w2.setCell ⟨D, 19, none⟩ v').setCell ⟨D, 18, none⟩ (.int .i64 m)) :=
  ⟨(h.set19 v').set18 m, ownsRow_setCell_below (ownsRow_setCell_below ho hDB _) hDB _, (hb.setCell (by simp) _).setCell (by simp) _⟩

set_option maxRecDepth 20000 in
set_option maxHeartbeats 1000000 in
theorem gather_first (w : World) (D P B : Nat) (b : Int) (a : Addr) (rl rc : Nat) (news : List Value) (ao : Option Addr) (cap : Nat) (pv : Value) (first next : Int)
    (hR : Run w D pv first next (.slice ao 0 cap)) (hown : w.ownsRow B 5 1 (.slice ao 0 cap) 0 []) (hDB : D < B) (hB : B ≤ w.heap.size) (haD : Hid (0 < rl → a.block < D))
    (hl : news.length = rl) (hn : ∀ j u, news[j]? = some u → w.cell? (a.add j) = some u) (h1 : ∀ u ∈ news, u.oneCell' = true) (hk : rl < 65536) (hb0 : 0 ≤ b) (hb1 : b ≤ 2147483648) :
    Calls Try.prog 9 #[.pointer (some ⟨D, 0, none⟩), .pointer (some ⟨P, 0, none⟩), .int .i64 b, .slice (some a) rl rc] w fun e w' => e = .returned .nilIface ∧
      ∃ ao' cap', Run w' D (.pointer (some ⟨P, 0, none⟩)) b (b + 1) (.slice ao' rl cap') ∧ w'.ownsRow B 5 1 (.slice ao' rl cap') rl news ∧ Below D w w' := by
  obtain ⟨i0, hi, hz0, hz1, hz2⟩ := info_parts info5
  have q0 := hR.c0
  have q1 := hR.c1
  have q2 := hR.c2
  have q3 := hR.c3
  have f16 := hR.free 16
  have f17 := hR.free 17
  have f18 := hR.free 18
  have f19 := hR.free 19
  go_enter Try.func9, Try.ntmps9
  go_wp2_with (at_builtin; refine wpList_append_own _ rfl (.tmp 59) (.tmp 60) 24 rfl B 5 i0 (.int .u8 0) 1 1 Try.underlying24 hi hz0 hz1 hz2 rfl (by decide) _ 0 [] rfl ?hown a rl rc news rfl ?hl ?hnews h1 ?h63 ?hby ?hbase ?hk)
  case hown => exact ownsRow_setCell_below (ownsRow_setCell_below hown hDB _) hDB _
  case hl => omega
  case hnews => exact fun j u hj => have haD := haD.out (by have := (List.getElem?_eq_some_iff.1 hj).1; omega); (((((Below.refl D w).setCell (p := ⟨D, 16, none⟩) (by simp) (.pointer (some ⟨P, 0, none⟩))).setCell (p := ⟨D, 17, none⟩) (by simp) (.int .i64 b)).cell (p := a.add j) (by exact (by unfold Addr.add; split <;> exact haD))).trans (hn j u hj))
  case h63 => unfold maxLen; omega
  case hby => omega
  case hbase => simpa [World.setCell] using hB
  case hk =>
    intro v' w2 hown' hgrow hnil
    have hW : Run ((w.setCell ⟨D, 16, none⟩ (.pointer (some ⟨P, 0, none⟩))).setCell ⟨D, 17, none⟩ (.int .i64 b)) D (.pointer (some ⟨P, 0, none⟩)) b next (.slice ao 0 cap) := (hR.set16 _).set17 b
    have hWo := ownsRow_setCell_below (ownsRow_setCell_below hown (a := ⟨D, 16, none⟩) hDB (.pointer (some ⟨P, 0, none⟩))) (a := ⟨D, 17, none⟩) hDB (.int .i64 b)
    obtain ⟨hR2, hB2⟩ := hW.grown hWo hDB (by simpa [World.setCell] using hB) hgrow
    have hb2 : Below D w w2 := (((Below.refl D w).setCell (by simp) _).setCell (by simp) _).trans hB2
    obtain ⟨ao', cap', hv'⟩ := own_shape hown'
    subst hv'
    have R := hR2.laid (m := b + 1) hb2 hown' hDB
    have s0 := hR2.c0
    have s1 := hR2.c1
    have s2 := hR2.c2
    have s3 := hR2.c3
    have t18 := hR2.free 18
    have t19 := hR2.free 19
    have HRR : Hid _ := R
    clear hW hWo hR2 hB2 hb2 hnil hown' hgrow R hR hown hn q0 q1 q2 q3 f16 f17 f18 f19 hl h1 hi hz0 hz1 hz2
    have hge : decide ((65536 : Int) ≤ (rl : Int)) = false := by simp; omega
    clear hk haD hDB hB
    go_wp2
    go_ret
    exact ⟨rfl, ao', cap', HRR.out⟩

set_option maxHeartbeats 1000000 in
/-- The run holds nothing; the block is nil. -/
theorem gather_first_nil (w : World) (D P B : Nat) (b : Int) (ao : Option Addr) (cap : Nat) (pv : Value) (first next : Int)
    (hR : Run w D pv first next (.slice ao 0 cap)) (hown : w.ownsRow B 5 1 (.slice ao 0 cap) 0 []) (hDB : D < B) (hB : B ≤ w.heap.size) (hb0 : 0 ≤ b) (hb1 : b ≤ 2147483648) :
    Calls Try.prog 9 #[.pointer (some ⟨D, 0, none⟩), .pointer (some ⟨P, 0, none⟩), .int .i64 b, .slice none 0 0] w fun e w' => e = .returned .nilIface ∧
      ∃ ao' cap', Run w' D (.pointer (some ⟨P, 0, none⟩)) b (b + 1) (.slice ao' 0 cap') ∧ w'.ownsRow B 5 1 (.slice ao' 0 cap') 0 [] ∧ Below D w w' := by
  obtain ⟨i0, hi, hz0, hz1, hz2⟩ := info_parts info5
  have q0 := hR.c0
  have q1 := hR.c1
  have q2 := hR.c2
  have q3 := hR.c3
  have f16 := hR.free 16
  have f17 := hR.free 17
  have f18 := hR.free 18
  have f19 := hR.free 19
  have hWo := ownsRow_setCell_below (ownsRow_setCell_below hown (a := ⟨D, 16, none⟩) hDB (.pointer (some ⟨P, 0, none⟩))) (a := ⟨D, 17, none⟩) hDB (.int .i64 b)
  have hW : Run ((w.setCell ⟨D, 16, none⟩ (.pointer (some ⟨P, 0, none⟩))).setCell ⟨D, 17, none⟩ (.int .i64 b)) D (.pointer (some ⟨P, 0, none⟩)) b next (.slice ao 0 cap) := (hR.set16 _).set17 b
  have R := hW.laid (m := b + 1) ((((Below.refl D w).setCell (p := ⟨D, 16, none⟩) (by simp) (.pointer (some ⟨P, 0, none⟩))).setCell (p := ⟨D, 17, none⟩) (by simp) (.int .i64 b))) hWo hDB
  have HRR : Hid _ := R
  clear R hW hR
  go_enter Try.func9, Try.ntmps9
  go_wp2_with (at_builtin; refine wpList_append_own_none rfl (.tmp 59) (.tmp 60) 24 rfl B 5 i0 1 Try.underlying24 hi _ 0 [] rfl ?hown rfl ?hk)
  case hown => exact hWo
  go_ret
  exact ⟨rfl, ao, cap, HRR.out⟩

set_option maxHeartbeats 1000000 in
/-- The run holds bytes, the block follows them. -/
theorem gather_more (w : World) (D P B k : Nat) (b : Int) (a : Addr) (rl rc : Nat) (news xs : List Value) (ao : Option Addr) (cap : Nat) (first : Int)
    (hR : Run w D (.pointer (some ⟨P, 0, none⟩)) first b (.slice ao k cap)) (hown : w.ownsRow B 5 1 (.slice ao k cap) k xs) (hDB : D < B) (hB : B ≤ w.heap.size) (hk0 : (0 : Int) < k)
    (hl : Hid (news.length = rl)) (hn : ∀ j u, news[j]? = some u → w.cell? (a.add j) = some u) (h1 : ∀ u ∈ news, u.oneCell' = true) (hk : k + rl < 65536) (hb0 : 0 ≤ b) (hb1 : b ≤ 2147483648) :
    Calls Try.prog 9 #[.pointer (some ⟨D, 0, none⟩), .pointer (some ⟨P, 0, none⟩), .int .i64 b, .slice (some a) rl rc] w fun e w' => e = .returned .nilIface ∧
      ∃ ao' cap', Run w' D (.pointer (some ⟨P, 0, none⟩)) first (b + 1) (.slice ao' (k + rl) cap') ∧ w'.ownsRow B 5 1 (.slice ao' (k + rl) cap') (k + rl) (xs ++ news) ∧ Below D w w' := by
  have q0 := hR.c0
  have q1 := hR.c1
  have q2 := hR.c2
  have q3 := hR.c3
  have hs := neq_same
  have hz : ((k : Int) == 0) = false := by simp; omega
  go_enter Try.func9, Try.ntmps9
  go_wp2_with (at_builtin; obtain ⟨i0, hi, hz0, hz1, hz2⟩ := info_parts info5; refine wpList_append_own _ rfl (.tmp 59) (.tmp 60) 24 rfl B 5 i0 (.int .u8 0) 1 1 Try.underlying24 hi hz0 hz1 hz2 rfl (by decide) _ k xs rfl ?hown a rl rc news rfl ?hl ?hnews h1 ?h63 ?hby ?hbase ?hk)
  case hown => exact hown
  case hl => exact hl.out.trans (Nat.mul_one rl).symm
  case hnews => exact hn
  case h63 => unfold maxLen; omega
  case hby => omega
  case hbase => exact hB
  case hk =>
    intro v' w2 hown' hgrow hnil
    obtain ⟨hR2, hB2⟩ := hR.grown hown hDB hB hgrow
    obtain ⟨ao', cap', hv'⟩ := own_shape hown'
    subst hv'
    have R := hR2.laid (m := b + 1) hB2 hown' hDB
    have s0 := hR2.c0
    have s1 := hR2.c1
    have s2 := hR2.c2
    have s3 := hR2.c3
    have t18 := hR2.free 18
    have t19 := hR2.free 19
    have HRR : Hid _ := R
    have hge : decide ((65536 : Int) ≤ (k : Int) + (rl : Int)) = false := by simp; omega
    clear hR2 hB2 hnil hown' hgrow R hR hown hn q0 q1 q2 q3 hk hDB hB hz hk0 hl hi hz0 hz1 hz2
    go_wp2
    go_ret
    exact ⟨rfl, ao', cap', HRR.out⟩
set_option maxHeartbeats 1000000 in
theorem gather_more_nil (w : World) (D P B k : Nat) (b : Int) (xs : List Value) (ao : Option Addr) (cap : Nat) (first : Int)
    (hR : Run w D (.pointer (some ⟨P, 0, none⟩)) first b (.slice ao k cap)) (hown : w.ownsRow B 5 1 (.slice ao k cap) k xs) (hDB : D < B) (hB : B ≤ w.heap.size) (hk0 : (0 : Int) < k)
    (hk : k < 65536) (hb0 : 0 ≤ b) (hb1 : b ≤ 2147483648) :
    Calls Try.prog 9 #[.pointer (some ⟨D, 0, none⟩), .pointer (some ⟨P, 0, none⟩), .int .i64 b, .slice none 0 0] w fun e w' => e = .returned .nilIface ∧
      ∃ ao' cap', Run w' D (.pointer (some ⟨P, 0, none⟩)) first (b + 1) (.slice ao' k cap') ∧ w'.ownsRow B 5 1 (.slice ao' k cap') k xs ∧ Below D w w' := by
  have q0 := hR.c0
  have q1 := hR.c1
  have q2 := hR.c2
  have q3 := hR.c3
  have f18 := hR.free 18
  have f19 := hR.free 19
  have hs := neq_same
  have hz : ((k : Int) == 0) = false := by simp; omega
  have hge : decide ((65536 : Int) ≤ (k : Int)) = false := by simp; omega
  have R := hR.laid (m := b + 1) (Below.refl D w) hown hDB
  have HRR : Hid _ := R
  clear R hR hk
  go_enter Try.func9, Try.ntmps9
  go_wp2_with (at_builtin; obtain ⟨i0, hi, -⟩ := info_parts info5; refine wpList_append_own_none rfl (.tmp 59) (.tmp 60) 24 rfl B 5 i0 1 Try.underlying24 hi _ k xs rfl ?hown rfl ?hk)
  case hown => exact hown
  go_ret
  exact ⟨rfl, ao, cap, HRR.out⟩
end Go.Proofs.Qxb6614998a.Gat
