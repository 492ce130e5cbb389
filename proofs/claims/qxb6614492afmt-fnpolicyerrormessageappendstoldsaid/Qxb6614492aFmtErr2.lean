import Derived.Test.Qxb6614492aFmtErr
namespace Go.Proofs.Qxb6614492aFmt.Pol
open Go.RowKit Go.Extern.Stop Go.Stop Go.Extern
set_option linter.unusedVariables false

theorem method56 (a : Addr) (w : World) : (method 266 56 (.pointer (some a)) "Error").run Tryf.prog w = .ok (114, .pointer (some a)) w := by kernel_rfl
theorem method40 (a : Addr) (w : World) : (method 266 40 (.pointer (some a)) "Error").run Tryf.prog w = .ok (22, .pointer (some a)) w := by kernel_rfl
theorem size_join (a b : ByteArray) : (a ++ b).size = a.size + b.size := by simp
set_option maxHeartbeats 400000 in
theorem error_zero_plain (pb eb : Nat) (p m : ByteArray) (w : World) (hp : p.size ≤ 1048576) (hm : m.size ≤ 1048576)
    (c0 : w.cell? ⟨pb, 0, none⟩ = some (.string p)) (c1 : w.cell? ⟨pb, 1, none⟩ = some (.int .i64 0)) (c2 : w.cell? ⟨pb, 2, none⟩ = some (.iface 56 (.pointer (some ⟨eb, 0, none⟩)))) (c3 : w.cell? ⟨eb, 0, none⟩ = some (.string m)) :
    Calls Tryf.prog 22 #[.pointer (some ⟨pb, 0, none⟩)] w fun e w' => e = .returned (.string (p ++ ⟨#[58, 32]⟩ ++ m)) ∧ ∃ k, w' = w.drewN k := by
  have ha1 := fun wx => run_string_add_sum (P := Tryf.prog) wx p ⟨#[58, 32]⟩ (by have : (⟨#[58, 32]⟩ : ByteArray).size = 2 := rfl
                                                                                 omega)
  have ha2 := fun wx => run_string_add_sum (P := Tryf.prog) wx (p ++ ⟨#[58, 32]⟩) m (by have : (⟨#[58, 32]⟩ : ByteArray).size = 2 := rfl
                                                                                        rw [size_join]; omega)
  have hm56 := method56
  go_enter Tryf.func22, Tryf.ntmps22
  go_wp2
  go_region_with (go_at_call 114; refine (plain_any m eb _ (by exact c3)).mono ?_; rintro e w' ⟨rfl, rfl⟩)
  all_goals (go_wp2; go_ret; exact ⟨rfl, 1, rfl⟩)
set_option maxHeartbeats 400000 in
/-- The problem is another PolicyError, whose own Error is called: by its contract. -/
theorem error_zero_nested (pb qb : Nat) (p t : ByteArray) (w : World) (hp : p.size ≤ 1048576) (ht : t.size ≤ 16777216) (hpb : pb < w.heap.size)
    (c0 : w.cell? ⟨pb, 0, none⟩ = some (.string p)) (c1 : w.cell? ⟨pb, 1, none⟩ = some (.int .i64 0)) (c2 : w.cell? ⟨pb, 2, none⟩ = some (.iface 40 (.pointer (some ⟨qb, 0, none⟩))))
    (hin : Calls Tryf.prog 22 #[.pointer (some ⟨qb, 0, none⟩)] w.drew fun e w' => e = .returned (.string t) ∧ Below w.heap.size w w') :
    Calls Tryf.prog 22 #[.pointer (some ⟨pb, 0, none⟩)] w fun e w' => e = .returned (.string (p ++ ⟨#[58, 32]⟩ ++ t)) ∧ Below w.heap.size w w' := by
  have ha1 := fun wx => run_string_add_sum (P := Tryf.prog) wx p ⟨#[58, 32]⟩ (by have : (⟨#[58, 32]⟩ : ByteArray).size = 2 := rfl
                                                                                 omega)
  have ha2 := fun wx => run_string_add_sum (P := Tryf.prog) wx (p ++ ⟨#[58, 32]⟩) t (by have : (⟨#[58, 32]⟩ : ByteArray).size = 2 := rfl
                                                                                        rw [size_join]; omega)
  have hm40 := method40
  have HI : Hid (Calls Tryf.prog 22 #[.pointer (some ⟨qb, 0, none⟩)] w.drew fun e w' => e = .returned (.string t) ∧ Below w.heap.size w w') := hin
  clear hin
  go_enter Tryf.func22, Tryf.ntmps22
  go_wp2
  go_region_with (go_at_call 22; refine HI.out.mono ?_; rintro e w' ⟨rfl, hb⟩; have c0' := (hb.cell (p := ⟨pb, 0, none⟩) hpb).trans c0)
  all_goals (go_wp2; go_ret; exact ⟨rfl, hb⟩)

end Go.Proofs.Qxb6614492aFmt.Pol
