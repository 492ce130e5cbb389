/-
  The law's walk: the blocks gathered, the run read, its bytes compared.
-/
import Derived.Test.Qxb6614998aCalls
import Derived.Laws.OwnMore
namespace Go.Proofs.Qxb6614998a.Gat
open Go.RowKit
set_option linter.unusedVariables false

set_option maxRecDepth 20000 in
set_option maxHeartbeats 2000000 in
theorem law_any (w : World) (b0 : Int) (a : Option Addr) (n cap : Nat) (A : Nat → Option Addr) (L C : Nat → Nat) (Z : Nat → List Int) (hB : Blocks w a n A L C Z) :
    Calls Try.prog 3 #[.int .i64 b0, .slice a n cap] w fun e w' => e = .returned (.bool true) ∧ Below w.heap.size w w' := by
  go_enter Try.func3, Try.ntmps3
  go_wp2_with fail
  refine (bytes_any w b0 a n cap A L C hB.len hB.lens (n ≤ 1048576 ∧ ∀ r, r < n → L r ≤ 1048576) (fun h k => ⟨h, k⟩) hB.lie).mono ?_
  rintro e w1 ⟨rfl | ⟨rfl, hnm, hLm⟩, hw1⟩
  · subst hw1
    go_wp2_with fail
    go_ret
    exact ⟨rfl, Below.refl _ _⟩
  subst hw1
  go_wp2_with fail
  go_loop [5, 6] (fun z i => ∃ (j : Nat), j ≤ n ∧ tot L j ≤ 1048576 ∧ z = .int .i64 (tot L j) ∧ i = .int .i64 j) (fun _ i => n - (intOf i).toNat)
  case atStart => exact ⟨0, by omega, by simp [tot], rfl, rfl⟩
  case round =>
    obtain ⟨j, hj, hs, rfl, rfl⟩ := hrel
    by_cases hjn : j < n
    · obtain ⟨ab, off, rfl, hab, hcj⟩ := hB.lie j hjn
      have hLj := hLm j hjn
      clear hB
      by_cases h2 : 1048576 < tot L j + (24 + L j)
      · go_wp2_with fail
        go_ret
        exact ⟨rfl, Below.refl _ _⟩
      · go_wp2_with fail
        go_round
        case rel => exact ⟨j + 1, by omega, by simp only [tot]; omega, by simp only [tot]; go_num, by go_num⟩
        case measure => simp [intOf]; omega
    · obtain rfl : j = n := by omega
      by_cases hneg : b0 < 0
      · clear hB
        go_wp2_with fail
        go_ret
        exact ⟨rfl, Below.refl _ _⟩
      by_cases hbig : 1073741824 < b0
      · clear hB
        go_wp2_with fail
        go_ret
        exact ⟨rfl, Below.refl _ _⟩
      go_wp2_with fail
      have hst := sum_le_tot L j
      go_loop [7, 8] (fun z i => ∃ (x : Nat), x ≤ j ∧ z = .int .i64 (sum L x) ∧ i = .int .i64 x) (fun _ i => j - (intOf i).toNat)
      case atStart => exact ⟨0, by omega, rfl, rfl⟩
      case round =>
        obtain ⟨x, hx, rfl, rfl⟩ := hrel
        by_cases hxj : x < j
        · obtain ⟨ab, off, rfl, hab, hcj⟩ := hB.lie x hxj
          have hLj := hLm x hxj
          have hsm := sum_mono L hx
          clear hB
          go_wp2_with fail
          go_round
          case rel => exact ⟨x + 1, by omega, by simp only [sum]; go_num, by go_num⟩
          case measure => simp [intOf]; omega
        · obtain rfl : x = j := by omega
          by_cases hmuch : 65536 ≤ sum L x
          · have hge : decide ((65536 : Int) ≤ (sum L x : Int)) = true := by simp; omega
            clear hB hst
            go_wp2_with fail
            go_ret
            exact ⟨rfl, Below.refl _ _⟩
          have hge : decide ((65536 : Int) ≤ (sum L x : Int)) = false := by simp; omega
          obtain ⟨D, hD⟩ : ∃ D, w1.heap.size = D := ⟨_, rfl⟩
          go_wp2_with fail
          refine (new_download w1 D hD).mono ?_
          rintro e w2 ⟨rfl, R2, B2⟩
          go_wp2_with fail
          refine (new_piece w2 D _ _ _ _ R2).mono ?_
          rintro e w3 ⟨⟨P, rfl⟩, R3, B3⟩
          have S3 := St.start P b0 L Z R3 (B2.trans B3)
          clear R2 R3 B2 B3
          go_wp2_with fail
          go_loopw [11] (fun i wr => ∃ (y : Nat) (ao : Option Addr) (cp : Nat), y ≤ x ∧ i = .int .i64 y ∧ St w1 wr D P b0 L Z y ao cp) (fun i _ => x - (intOf i).toNat)
          case atStart => exact ⟨0, none, 0, by omega, rfl, S3⟩
          case round =>
            clear S3
            obtain ⟨y, ao, cp, hy, rfl, S⟩ := hrel
            by_cases hyx : y < x
            · obtain ⟨ab, off, rfl, hab, hcy0⟩ := hB.lie y hyx
              have hcy := (S.2.2.cell (p := ⟨ab, off + y, none⟩) (by rw [← hD]; exact hab)).trans hcy0
              have hrow := hB.row y hyx
              rw [hD] at hrow
              have hsm := sum_mono L (show y + 1 ≤ x by omega)
              have SS := S.step (C := C) hrow (by omega) (by omega) (by omega)
              clear S hrow hcy0
              go_wp2_with fail
              refine SS.mono ?_
              rintro e w4 ⟨rfl, ao', cp', S'⟩
              go_wp2_with fail
              go_roundw
              case rel => exact ⟨y + 1, ao', cp', by omega, by go_num, S'⟩
              case measure => simp [intOf]; omega
            · obtain rfl : y = x := by omega
              by_cases hy0 : y = 0
              · subst hy0
                have hbel := S.2.2
                rw [← hD] at hbel
                have hr := run_any _ _ _ _ _ _ S.1
                simp only [if_pos, sum] at hr
                clear S hB
                go_wp2_with fail
                refine hr.mono ?_
                rintro e w4 ⟨rfl, m, rfl⟩
                go_wp2_with fail
                go_ret
                exact ⟨rfl, hbel.os, hbel.tape, hbel.output, hbel.size, hbel.block⟩
              · have hr := run_any _ _ _ _ _ _ S.1
                simp only [if_neg hy0] at hr
                have hown := S.2.1
                have hbel := S.2.2
                have hz : ((y : Int) == 0) = false := by simp; omega
                clear S
                obtain ⟨F, hF⟩ : ∃ F : Int, F = b0 + (fst L y : Int) := ⟨_, rfl⟩
                rw [← hF] at hr
                have HF : Hid _ := hF
                clear hF
                go_wp2_with fail
                refine hr.mono ?_
                rintro e w4 ⟨rfl, m, rfl⟩
                clear hr
                go_wp2_with fail
                go_loop [17, 18] (fun z i => ∃ (j : Nat), j ≤ y ∧ sum L j = 0 ∧ z = .int .i64 (b0 + y - 1) ∧ i = .int .i64 j) (fun _ i => y - (intOf i).toNat)
                case atStart => exact ⟨0, by omega, rfl, rfl, rfl⟩
                case round =>
                  obtain ⟨j, hj, hs0, rfl, rfl⟩ := hrel
                  have hs := neq_same
                  by_cases hgo : j < y ∧ L j = 0
                  · obtain ⟨hjy, hLz⟩ := hgo
                    obtain ⟨ab, off, rfl, hab, hcj0⟩ := hB.lie j hjy
                    have hcj := (hbel.cell (p := ⟨ab, off + j, none⟩) (by rw [← hD]; exact hab)).trans hcj0
                    clear hcj0
                    have hsz : sum L (j + 1) = 0 := by simp only [sum]; omega
                    go_wp2_with fail
                    go_round
                    case rel => exact ⟨j + 1, by omega, hsz, rfl, by go_num⟩
                    case measure => simp [intOf]; omega
                  · by_cases hjy : j < y
                    · obtain ⟨ab, off, rfl, hab, hcj0⟩ := hB.lie j hjy
                      have hcj := (hbel.cell (p := ⟨ab, off + j, none⟩) (by rw [← hD]; exact hab)).trans hcj0
                      clear hcj0
                      have hLp : 0 < L j := by omega
                      have hfst := fst_hit L y j hjy hs0 hLp
                      obtain rfl : F = b0 + (j : Int) := by have := HF.out; omega
                      clear hgo hfst HF
                      go_wp2_with fail
                      go_loopw [19, 20] (fun ps i wq => ∃ (p q : Nat), p ≤ y ∧ ps = .int .i64 (sum L p) ∧ i = .int .i64 p ∧ wq = wr.drewN q) (fun _ i _ => y - (intOf i).toNat)
                      case atStart => exact ⟨0, m, by omega, rfl, rfl, rfl⟩
                      case round =>
                        obtain ⟨p, q, hp, rfl, rfl, rfl⟩ := hrel
                        by_cases hpy : p < y
                        · obtain ⟨ab', off', hae, hab', hcp0⟩ := hB.lie p hpy
                          have hcp := (hbel.cell (p := ⟨ab', off' + p, none⟩) (by rw [← hD]; exact hab')).trans hcp0
                          cases hae
                          have hsm := sum_mono L (show p + 1 ≤ y by omega)
                          have hLp' := hLm p hpy
                          simp only [sum] at hsm
                          clear hcp0
                          go_wp2_with fail
                          go_loopw [19, 21] (fun ps t wq => ∃ (s p0 q : Nat), s ≤ L p ∧ sum L p + s = p0 ∧ ps = .int .i64 p0 ∧ t = .int .i64 s ∧ wq = wr.drewN q) (fun _ t _ => L p - (intOf t).toNat)
                          case atStart => exact ⟨0, sum L p, q, by omega, rfl, rfl, rfl, rfl⟩
                          case round =>
                            obtain ⟨s, p0, q, hsL, hp0, rfl, rfl, rfl⟩ := hrel
                            by_cases hsl : s < L p
                            · obtain ⟨g, rfl⟩ : ∃ g, ao = some ⟨g, 0, none⟩ := by
                                rcases hown.2 with ⟨_, h0⟩ | ⟨g, c, u, hv, _⟩
                                · omega
                                · simp at hv; exact ⟨g, hv.1⟩
                              have hg := hown.cellAt p0 (by omega)
                              rw [List.getElem?_map, ← hp0, cat_get Z L y p s hB.small hpy hsl, hp0] at hg
                              simp only [Option.map_some] at hg
                              obtain ⟨hzl, ⟨_, h0, _⟩ | ⟨⟨b', o', sp⟩, hA, ha'D, hcell⟩⟩ := hB.row p hpy
                              · omega
                              have hc1 := hcell s hsl
                              have hsp : sp = none := by simpa [Addr.add] using World.cell?_spot (hcell 0 (by omega))
                              subst hsp
                              rw [show (⟨b', o', none⟩ : Addr).add s = ⟨b', o' + s, none⟩ from by unfold Addr.add; split <;> simp_all] at hc1
                              have hc2 := (hbel.cell (p := ⟨b', o' + s, none⟩) (by rw [← hD]; exact ha'D (by omega))).trans hc1
                              rw [hA] at hcp
                              generalize (Z p).getD s 0 = zv at hg hc2
                              clear hc1 hcell hB hown
                              go_wp2_with fail
                              go_quiet (fail)
                              go_wp2_with fail
                              go_roundw
                              case rel => exact ⟨s + 1, p0 + 1, _, by omega, by omega, by go_num, by go_num, rfl⟩
                              case measure => simp [intOf]; omega
                            · have hse : s = L p := by omega
                              subst hse
                              go_wp2_with fail
                              go_roundw
                              case rel => exact ⟨p + 1, q, by omega, by simp only [sum]; rw [hp0], by go_num, rfl⟩
                              case measure => simp [intOf]; omega
                        · obtain rfl : p = y := by omega
                          rw [← hD] at hbel
                          clear hB hown
                          go_wp2_with fail
                          go_ret
                          exact ⟨rfl, hbel.os, hbel.tape, hbel.output, hbel.size, hbel.block⟩
                    · have hfst := fst_none L (y - 1) (by have := sum_mono L (show y - 1 ≤ y by omega); have e : j = y := by omega
                                                          subst e; omega)
                      rw [show y - 1 + 1 = y by omega] at hfst
                      obtain rfl : F = b0 + (y : Int) - 1 := by have := HF.out; omega
                      obtain rfl : y = j := by omega
                      clear hgo hfst HF
                      go_wp2_with fail
                      go_loopw [19, 20] (fun ps i wq => ∃ (p q : Nat), p ≤ y ∧ ps = .int .i64 (sum L p) ∧ i = .int .i64 p ∧ wq = wr.drewN q) (fun _ i _ => y - (intOf i).toNat)
                      case atStart => exact ⟨0, m, by omega, rfl, rfl, rfl⟩
                      case round =>
                        obtain ⟨p, q, hp, rfl, rfl, rfl⟩ := hrel
                        by_cases hpy : p < y
                        · obtain ⟨ab', off', hae, hab', hcp0⟩ := hB.lie p hpy
                          have hcp := (hbel.cell (p := ⟨ab', off' + p, none⟩) (by rw [← hD]; exact hab')).trans hcp0
                          cases hae
                          have hsm := sum_mono L (show p + 1 ≤ y by omega)
                          have hLp' := hLm p hpy
                          simp only [sum] at hsm
                          clear hcp0
                          go_wp2_with fail
                          go_loopw [19, 21] (fun ps t wq => ∃ (s p0 q : Nat), s ≤ L p ∧ sum L p + s = p0 ∧ ps = .int .i64 p0 ∧ t = .int .i64 s ∧ wq = wr.drewN q) (fun _ t _ => L p - (intOf t).toNat)
                          case atStart => exact ⟨0, sum L p, q, by omega, rfl, rfl, rfl, rfl⟩
                          case round =>
                            obtain ⟨s, p0, q, hsL, hp0, rfl, rfl, rfl⟩ := hrel
                            by_cases hsl : s < L p
                            · obtain ⟨g, rfl⟩ : ∃ g, ao = some ⟨g, 0, none⟩ := by
                                rcases hown.2 with ⟨_, h0⟩ | ⟨g, c, u, hv, _⟩
                                · omega
                                · simp at hv; exact ⟨g, hv.1⟩
                              have hg := hown.cellAt p0 (by omega)
                              rw [List.getElem?_map, ← hp0, cat_get Z L y p s hB.small hpy hsl, hp0] at hg
                              simp only [Option.map_some] at hg
                              obtain ⟨hzl, ⟨_, h0, _⟩ | ⟨⟨b', o', sp⟩, hA, ha'D, hcell⟩⟩ := hB.row p hpy
                              · omega
                              have hc1 := hcell s hsl
                              have hsp : sp = none := by simpa [Addr.add] using World.cell?_spot (hcell 0 (by omega))
                              subst hsp
                              rw [show (⟨b', o', none⟩ : Addr).add s = ⟨b', o' + s, none⟩ from by unfold Addr.add; split <;> simp_all] at hc1
                              have hc2 := (hbel.cell (p := ⟨b', o' + s, none⟩) (by rw [← hD]; exact ha'D (by omega))).trans hc1
                              rw [hA] at hcp
                              generalize (Z p).getD s 0 = zv at hg hc2
                              clear hc1 hcell hB hown
                              go_wp2_with fail
                              go_quiet (fail)
                              go_wp2_with fail
                              go_roundw
                              case rel => exact ⟨s + 1, p0 + 1, _, by omega, by omega, by go_num, by go_num, rfl⟩
                              case measure => simp [intOf]; omega
                            · have hse : s = L p := by omega
                              subst hse
                              go_wp2_with fail
                              go_roundw
                              case rel => exact ⟨p + 1, q, by omega, by simp only [sum]; rw [hp0], by go_num, rfl⟩
                              case measure => simp [intOf]; omega
                        · obtain rfl : p = y := by omega
                          rw [← hD] at hbel
                          clear hB hown
                          go_wp2_with fail
                          go_ret
                          exact ⟨rfl, hbel.os, hbel.tape, hbel.output, hbel.size, hbel.block⟩
end Go.Proofs.Qxb6614998a.Gat
