/-
  The law's small calls: the length test, the new download and piece, the run read, and gather by one contract.
-/
import Derived.Test.Qxb6614998aGather
namespace Go.Proofs.Qxb6614998a.Gat
open Go.RowKit
set_option linter.unusedVariables false

theorem Run.lt {w : World} {D : Nat} {pv v : Value} {first next : Int} (h : Run w D pv first next v) : D < w.heap.size := by
  rcases Nat.lt_or_ge D w.heap.size with h' | h'
  · exact h'
  · have := h.c0; simp [World.cell?, Array.getElem?_eq_none h'] at this

/-- A block that came in: nil, or L bytes that lie below D. -/
def Row (w : World) (D : Nat) (A : Option Addr) (rl rc : Nat) (zs : List Int) : Prop :=
  rl ≤ zs.length ∧ ((A = none ∧ rl = 0 ∧ rc = 0) ∨ ∃ a, A = some a ∧ (0 < rl → a.block < D) ∧ ∀ c, c < rl → w.cell? (a.add c) = some (.int .u8 (zs.getD c 0)))

theorem gather9 (w : World) (D P k : Nat) (b : Int) (A : Option Addr) (rl rc : Nat) (zs : List Int) (xs : List Value) (ao : Option Addr) (cap : Nat) (pv : Value) (first next : Int)
    (hR : Run w D pv first next (.slice ao k cap)) (hown : w.ownsRow (D + 1) 5 1 (.slice ao k cap) k xs) (hrow : Row w D A rl rc zs)
    (hc : k = 0 ∨ (pv = .pointer (some ⟨P, 0, none⟩) ∧ next = b)) (hk : k + rl < 65536) (hb0 : 0 ≤ b) (hb1 : b ≤ 2147483648) :
    Calls Try.prog 9 #[.pointer (some ⟨D, 0, none⟩), .pointer (some ⟨P, 0, none⟩), .int .i64 b, .slice A rl rc] w fun e w' => e = .returned .nilIface ∧
      ∃ ao' cap', Run w' D (.pointer (some ⟨P, 0, none⟩)) (if k = 0 then b else first) (b + 1) (.slice ao' (k + rl) cap') ∧ w'.ownsRow (D + 1) 5 1 (.slice ao' (k + rl) cap') (k + rl) (xs ++ (zs.take rl).map (.int .u8)) ∧ Below D w w' := by
  have hB : D + 1 ≤ w.heap.size := hR.lt
  obtain ⟨hzl, hrow⟩ := hrow
  by_cases h0 : k = 0
  · subst h0
    have hxs : xs = [] := by
      have := hown.1
      exact List.length_eq_zero_iff.1 (by omega)
    subst hxs
    rcases hrow with ⟨rfl, rfl, rfl⟩ | ⟨a, rfl, haD, hcell⟩
    · simpa using gather_first_nil w D P (D + 1) b ao cap pv first next hR hown (by omega) hB hb0 hb1
    · have := gather_first w D P (D + 1) b a rl rc ((zs.take rl).map (.int .u8)) ao cap pv first next hR hown (by omega) hB haD (by simp; omega)
        (fun j u hj => by
          simp only [List.getElem?_map, Option.map_eq_some_iff] at hj
          obtain ⟨z, hz, rfl⟩ := hj
          have hjl : j < rl := by
            have := (List.getElem?_eq_some_iff.1 hz).1
            simp at this; omega
          rw [List.getElem?_take_of_lt hjl] at hz
          rw [hcell j hjl, List.getD_eq_getElem?_getD, hz]; rfl) (by intro u hu; obtain ⟨z, _, rfl⟩ := List.mem_map.1 hu; rfl) (by omega) hb0 hb1
      simpa using this
  · obtain ⟨rfl, rfl⟩ : pv = .pointer (some ⟨P, 0, none⟩) ∧ next = b := by rcases hc with h | h; exact absurd h h0; exact h
    rcases hrow with ⟨rfl, rfl, rfl⟩ | ⟨a, rfl, haD, hcell⟩
    · simpa [h0] using gather_more_nil w D P (D + 1) k next xs ao cap first hR hown (by omega) hB (by omega) (by omega) hb0 hb1
    · have := gather_more w D P (D + 1) k next a rl rc ((zs.take rl).map (.int .u8)) xs ao cap first hR hown (by omega) hB (by omega) (show ((zs.take rl).map (Value.int .u8)).length = rl by simp; omega)
        (fun j u hj => by
          simp only [List.getElem?_map, Option.map_eq_some_iff] at hj
          obtain ⟨z, hz, rfl⟩ := hj
          have hjl : j < rl := by
            have := (List.getElem?_eq_some_iff.1 hz).1
            simp at this; omega
          rw [List.getElem?_take_of_lt hjl] at hz
          rw [hcell j hjl, List.getD_eq_getElem?_getD, hz]; rfl) (by intro u hu; obtain ⟨z, _, rfl⟩ := List.mem_map.1 hu; rfl) (by omega) hb0 hb1
      simpa [h0] using this

set_option maxHeartbeats 400000 in
theorem gather7 (w : World) (Q : World → Prop) (v0 v1 v2 v3 : Value)
    (G : Calls Try.prog 9 #[v0, v1, v2, v3] w fun e w' => e = .returned .nilIface ∧ Q w') : Calls Try.prog 7 #[v0, v1, v2, v3] w fun e w' => e = .returned .nilIface ∧ Q w' := by
  go_enter Try.func7, Try.ntmps7
  go_wp2_with fail
  refine G.mono ?_
  rintro e w' ⟨rfl, H⟩
  go_wp2
  go_ret
  exact ⟨rfl, H⟩

theorem gather_any (w : World) (D P k : Nat) (b : Int) (A : Option Addr) (rl rc : Nat) (zs : List Int) (xs : List Value) (ao : Option Addr) (cap : Nat) (pv : Value) (first next : Int)
    (hR : Run w D pv first next (.slice ao k cap)) (hown : w.ownsRow (D + 1) 5 1 (.slice ao k cap) k xs) (hrow : Row w D A rl rc zs)
    (hc : k = 0 ∨ (pv = .pointer (some ⟨P, 0, none⟩) ∧ next = b)) (hk : k + rl < 65536) (hb0 : 0 ≤ b) (hb1 : b ≤ 2147483648) :
    Calls Try.prog 7 #[.pointer (some ⟨D, 0, none⟩), .pointer (some ⟨P, 0, none⟩), .int .i64 b, .slice A rl rc] w fun e w' => e = .returned .nilIface ∧
      ∃ ao' cap', Run w' D (.pointer (some ⟨P, 0, none⟩)) (if k = 0 then b else first) (b + 1) (.slice ao' (k + rl) cap') ∧ w'.ownsRow (D + 1) 5 1 (.slice ao' (k + rl) cap') (k + rl) (xs ++ (zs.take rl).map (.int .u8)) ∧ Below D w w' := 
  gather7 w _ _ _ _ _ (gather9 w D P k b A rl rc zs xs ao cap pv first next hR hown hrow hc hk hb0 hb1)

theorem Run.alloc {w : World} {D : Nat} {pv v : Value} {first next : Int} (h : Run w D pv first next v) (o : Obj) : Run (w.alloc o) D pv first next v := by
  have hb : Below (D + 1) w (w.alloc o) := (Below.refl _ _).alloc h.lt o
  exact ⟨fun j => (World.frozen?_of_block (hb.block D (by omega))).trans (h.free j), (hb.cell (by simp)).trans h.c0, (hb.cell (by simp)).trans h.c1, (hb.cell (by simp)).trans h.c2, (hb.cell (by simp)).trans h.c3⟩

set_option maxHeartbeats 400000 in
theorem new_download (w : World) (D : Nat) (hD : w.heap.size = D) : Calls Try.prog 5 #[] w fun e w' => e = .returned (.pointer (some ⟨D, 0, none⟩)) ∧ Run w' D (.pointer none) 0 0 (.slice none 0 0) ∧ Below D w w' := by
  subst hD
  go_enter Try.func5, Try.ntmps5
  go_wp2
  go_ret
  exact ⟨rfl, ⟨fun j => by go_simp, by go_simp, by go_simp, by go_simp, by go_simp⟩, (Below.refl _ _).alloc (Nat.le_refl _) _⟩

set_option maxHeartbeats 400000 in
theorem new_piece0 (w : World) : Calls Try.prog 6 #[] w fun e w' => e = .returned (.pointer (some ⟨w.heap.size, 0, none⟩)) ∧ ∃ o, w' = w.alloc o := by
  go_enter Try.func6, Try.ntmps6
  go_wp2
  go_ret
  exact ⟨rfl, _, rfl⟩
theorem new_piece (w : World) (D : Nat) (pv v : Value) (first next : Int) (h : Run w D pv first next v) : Calls Try.prog 6 #[] w fun e w' => (∃ P, e = .returned (.pointer (some ⟨P, 0, none⟩))) ∧ Run w' D pv first next v ∧ Below D w w' :=
  (new_piece0 w).mono (by rintro e w' ⟨rfl, o, rfl⟩; exact ⟨⟨_, rfl⟩, h.alloc o, (Below.refl _ _).alloc (Nat.le_of_lt h.lt) o⟩)

theorem results4 {fn : Func} {t u v x : Tmp} (h : fn.results = #[.tmp t, .tmp u, .tmp v, .tmp x]) (tmps : Array Value) (P : Program) (w : World) :
    (results fn tmps).run P w = .ok (.tuple #[tmps.getD t undef, tmps.getD u undef, tmps.getD v undef, tmps.getD x undef]) w := by
  simp [results, h]

set_option maxHeartbeats 400000 in
theorem run_any (w : World) (D : Nat) (pv : Value) (first next : Int) (v : Value) (hR : Run w D pv first next v) :
    Calls Try.prog 8 #[.pointer (some ⟨D, 0, none⟩)] w fun e w' => e = .returned (.tuple #[pv, .int .i64 first, .int .i64 next, v]) ∧ ∃ m, w' = w.drewN m := by
  have q0 := hR.c0
  have q1 := hR.c1
  have q2 := hR.c2
  have q3 := hR.c3
  go_enter Try.func8, Try.ntmps8
  go_wp2_with fail
  go_quiet (fail)
  go_wp2
  refine bodyPost_ret (results4 rfl _ _ _) rfl ?_
  exact ⟨rfl, nq, rfl⟩

set_option maxHeartbeats 1000000 in
/-- The length test: some answer, and nothing touched. -/
theorem bytes_any (w : World) (b0 : Int) (a : Option Addr) (n cap : Nat) (A : Nat → Option Addr) (L C : Nat → Nat) (hn : n ≤ maxLen) (hL : ∀ r, r < n → L r ≤ maxLen) (Q : Prop) (hQ : n ≤ 1048576 → (∀ r, r < n → L r ≤ 1048576) → Q)
    (hc : ∀ r, r < n → ∃ ab off, a = some ⟨ab, off, none⟩ ∧ ab < w.heap.size ∧ w.cell? ⟨ab, off + r, none⟩ = some (.slice (A r) (L r) (C r))) :
    Calls Try.prog 4 #[.int .i64 b0, .slice a n cap] w fun e w' => (e = .returned (.bool false) ∨ (e = .returned (.bool true) ∧ Q)) ∧ w' = w := by
  by_cases h1 : 1048576 < n
  · go_enter Try.func4, Try.ntmps4
    go_wp2
    go_ret
    exact ⟨.inl rfl, rfl⟩
  · go_enter Try.func4, Try.ntmps4
    go_wp2_with fail
    go_loop [5, 6] (fun z i => ∃ (s j : Nat), j ≤ n ∧ s ≤ 1048576 ∧ (∀ r, r < j → L r ≤ 1048576) ∧ z = .int .i64 s ∧ i = .int .i64 j) (fun _ i => n - (intOf i).toNat)
    case atStart => exact ⟨n, 0, by omega, by omega, fun r hr => by omega, rfl, rfl⟩
    case round =>
      obtain ⟨s, j, hj, hs, hall, rfl, rfl⟩ := hrel
      by_cases hjn : j < n
      · obtain ⟨ab, off, rfl, hab, hcj⟩ := hc j hjn
        clear hc
        have hLj := hL j hjn
        unfold maxLen at hLj
        by_cases h2 : 1048576 < L j
        · go_wp2_with fail
          go_ret
          exact ⟨.inl rfl, rfl⟩
        · by_cases h3 : 1048576 < s + L j
          · go_wp2_with fail
            go_ret
            exact ⟨.inl rfl, rfl⟩
          · go_wp2_with fail
            go_round
            case rel => exact ⟨s + L j, j + 1, by omega, by omega, fun r hr => by
                by_cases e : r = j
                · subst e; omega
                · exact hall r (by omega), by go_num, by go_num⟩
            case measure => simp [intOf]; omega
      · obtain rfl : j = n := by omega
        have q := hQ (by omega) hall
        clear hQ hall hc hL
        go_wp2_with fail
        go_ret
        exact ⟨.inr ⟨rfl, q⟩, rfl⟩

theorem Row.below {w w' : World} {D : Nat} {A : Option Addr} {rl rc : Nat} {zs : List Int} (h : Row w D A rl rc zs) (hb : Below D w w') : Row w' D A rl rc zs := by
  obtain ⟨h1, h | ⟨a, h2, h3, h4⟩⟩ := h
  · exact ⟨h1, .inl h⟩
  · exact ⟨h1, .inr ⟨a, h2, h3, fun c hc => (hb.cell (by have h3 := h3 (by omega); unfold Addr.add; split <;> exact h3)).trans (h4 c hc)⟩⟩

/-- The blocks that came in. -/
structure Blocks (w : World) (a : Option Addr) (n : Nat) (A : Nat → Option Addr) (L C : Nat → Nat) (Z : Nat → List Int) : Prop where
  len : n ≤ maxLen
  lens : ∀ r, r < n → L r ≤ maxLen
  lie : ∀ r, r < n → ∃ ab off, a = some ⟨ab, off, none⟩ ∧ ab < w.heap.size ∧ w.cell? ⟨ab, off + r, none⟩ = some (.slice (A r) (L r) (C r))
  row : ∀ r, r < n → Row w w.heap.size (A r) (L r) (C r) (Z r)
theorem Blocks.small {w : World} {a : Option Addr} {n : Nat} {A : Nat → Option Addr} {L C : Nat → Nat} {Z : Nat → List Int} (h : Blocks w a n A L C Z) : ∀ r, r < n → L r ≤ (Z r).length := fun r hr => (h.row r hr).1

/-- The world behind j blocks. -/
def St (w wr : World) (D P : Nat) (b0 : Int) (L : Nat → Nat) (Z : Nat → List Int) (j : Nat) (ao : Option Addr) (cap : Nat) : Prop :=
  Run wr D (if j = 0 then .pointer none else .pointer (some ⟨P, 0, none⟩)) (if j = 0 then 0 else b0 + fst L j) (if j = 0 then 0 else b0 + j) (.slice ao (sum L j) cap) ∧
  wr.ownsRow (D + 1) 5 1 (.slice ao (sum L j) cap) (sum L j) ((cat Z L j).map (.int .u8)) ∧ Below D w wr
theorem St.start {w wr : World} {D : Nat} (P : Nat) (b0 : Int) (L : Nat → Nat) (Z : Nat → List Int) (h : Run wr D (.pointer none) 0 0 (.slice none 0 0)) (hb : Below D w wr) : St w wr D P b0 L Z 0 none 0 :=
  ⟨h, World.ownsRow_nil _ _ _ _, hb⟩
theorem St.drewN {w wr : World} {D P : Nat} {b0 : Int} {L : Nat → Nat} {Z : Nat → List Int} {j : Nat} {ao : Option Addr} {cap : Nat} (h : St w wr D P b0 L Z j ao cap) (m : Nat) : St w (wr.drewN m) D P b0 L Z j ao cap :=
  ⟨⟨h.1.free, h.1.c0, h.1.c1, h.1.c2, h.1.c3⟩, h.2.1, ⟨h.2.2.os, h.2.2.tape, h.2.2.output, h.2.2.size, h.2.2.block⟩⟩
theorem St.drew {w wr : World} {D P : Nat} {b0 : Int} {L : Nat → Nat} {Z : Nat → List Int} {j : Nat} {ao : Option Addr} {cap : Nat} (h : St w wr D P b0 L Z j ao cap) : St w wr.drew D P b0 L Z j ao cap := h.drewN 1
theorem St.step {w wr : World} {D P : Nat} {b0 : Int} {L C : Nat → Nat} {Z : Nat → List Int} {j : Nat} {ao : Option Addr} {cap : Nat} {A : Option Addr} (h : St w wr D P b0 L Z j ao cap) (hrow : Row w D A (L j) (C j) (Z j))
    (hk : sum L (j + 1) < 65536) (h0 : 0 ≤ b0) (h1 : b0 + j ≤ 2147483648) :
    Calls Try.prog 7 #[.pointer (some ⟨D, 0, none⟩), .pointer (some ⟨P, 0, none⟩), .int .i64 (b0 + j), .slice A (L j) (C j)] wr fun e w' => e = .returned .nilIface ∧ ∃ ao' cap', St w w' D P b0 L Z (j + 1) ao' cap' := by
  obtain ⟨hR, hown, hb⟩ := h
  refine (gather_any wr D P (sum L j) (b0 + j) A (L j) (C j) (Z j) _ ao cap _ _ _ hR hown (hrow.below hb) ?_ hk (by omega) h1).mono ?_
  · by_cases e : sum L j = 0
    · exact .inl e
    · have : j ≠ 0 := fun h => e (by rw [h]; rfl)
      exact .inr ⟨if_neg this, if_neg this⟩
  · rintro e w' ⟨rfl, ao', cap', R, O, B⟩
    refine ⟨rfl, ao', cap', ?_, ?_, hb.trans B⟩
    · have e1 : (if sum L j = 0 then b0 + j else if j = 0 then 0 else b0 + (fst L j : Int)) = if j + 1 = 0 then 0 else b0 + (fst L (j + 1) : Int) := by
        rw [if_neg (by omega : ¬ j + 1 = 0), fst]
        by_cases e : sum L j = 0
        · simp [e]
        · have : j ≠ 0 := fun h => e (by rw [h]; rfl)
          simp [e, this]
      rw [e1] at R
      have e2 : b0 + (j : Int) + 1 = if j + 1 = 0 then 0 else b0 + ((j + 1 : Nat) : Int) := by
        rw [if_neg (by omega : ¬ j + 1 = 0)]; omega
      rw [e2] at R
      rw [if_neg (by omega : ¬ j + 1 = 0)] at R ⊢
      exact R
    · rw [cat, List.map_append]; exact O
end Go.Proofs.Qxb6614998a.Gat
