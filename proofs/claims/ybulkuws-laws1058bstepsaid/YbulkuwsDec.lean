import Derived.Test.YbulkuwsProg
import Derived.WalkKit
import Derived.WalkSpells
import Derived.WalkLawsBesides
import Derived.KernelRfl
namespace Go.Proofs.Ybulkuws.Dec
open Go.RowKit

set_option maxHeartbeats 400000 in
/-- 'u8' where the decoder is no longer ok: 0, nothing turns. -/
theorem u8_dead (D : Nat) (w : World) (hok : w.cell? ⟨D, 6, none⟩ = some (.bool false)) :
    Calls Yba.prog 14 #[.pointer (some ⟨D, 0, none⟩)] w fun e w' => e = .returned (.int .u8 0) ∧ w' = w := by
  have hne := fun (w : World) (a : Option Addr) (n c : Nat) => run_neq_slice_nil_any (P := Yba.prog) w 23 5 a n c 0 0 Yba.underlying23
  go_enter Yba.func14, Yba.ntmps14
  go_wp2
  go_ret
  exact ⟨rfl, rfl⟩

set_option maxHeartbeats 400000 in
/-- 'u8' where the decoder is ok and nothing is left: 0; 'ok' falls, 'short' is set. -/
theorem u8_end (D : Nat) (a : Option Addr) (c : Nat) (s : Bool) (w : World) (hb : w.cell? ⟨D, 0, none⟩ = some (.slice a 0 c)) (hok : w.cell? ⟨D, 6, none⟩ = some (.bool true)) (hsh : w.cell? ⟨D, 7, none⟩ = some (.bool s))
    (f6 : w.frozen? ⟨D, 6, none⟩ = false) (f7 : w.frozen? ⟨D, 7, none⟩ = false) :
    Calls Yba.prog 14 #[.pointer (some ⟨D, 0, none⟩)] w fun e w' => e = .returned (.int .u8 0) ∧ w' = (w.setCell ⟨D, 6, none⟩ (.bool false)).setCell ⟨D, 7, none⟩ (.bool true) := by
  have hne := fun (w : World) (a : Option Addr) (n c : Nat) => run_neq_slice_nil_any (P := Yba.prog) w 23 5 a n c 0 0 Yba.underlying23
  go_enter Yba.func14, Yba.ntmps14
  go_wp2
  go_end0
  go_wp2
  go_ret
  exact ⟨rfl, rfl⟩

set_option maxHeartbeats 400000 in
/-- 'u8' where the decoder is ok and a byte is left: that byte; one cell less is left. -/
theorem u8_byte (D g o n c : Nat) (x : Int) (w : World) (hnc : n + 1 ≤ c) (hc : c ≤ 1000000) (hb : w.cell? ⟨D, 0, none⟩ = some (.slice (some ⟨g, o, none⟩) (n + 1) c)) (hok : w.cell? ⟨D, 6, none⟩ = some (.bool true))
    (f0 : w.frozen? ⟨D, 0, none⟩ = false) (hx : w.cell? ⟨g, o, none⟩ = some (.int .u8 x)) (hgD : ¬ g = D) :
    Calls Yba.prog 14 #[.pointer (some ⟨D, 0, none⟩)] w fun e w' => e = .returned (.int .u8 x) ∧ ∃ a, (1 < c → a = some ⟨g, o + 1, none⟩) ∧ w' = w.setCell ⟨D, 0, none⟩ (.slice a n (c - 1)) := by
  have hne := fun (w : World) (a : Option Addr) (n c : Nat) => run_neq_slice_nil_any (P := Yba.prog) w 23 5 a n c 0 0 Yba.underlying23
  go_enter Yba.func14, Yba.ntmps14
  go_wp2
  · go_ret
    exact ⟨rfl, _, rfl⟩
  · go_ret
    exact ⟨rfl, _, fun _ => rfl, rfl⟩

end Go.Proofs.Ybulkuws.Dec
