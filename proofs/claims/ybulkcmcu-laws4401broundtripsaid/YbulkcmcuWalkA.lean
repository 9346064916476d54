import Derived.Test.YbulkcmcuProg
import Derived.WalkKit
import Derived.WalkSpells
import Derived.WalkLawsBesides
import Derived.StillTactics
import Derived.Laws.Pointers
import Derived.Deep.RegionHeld3
import Derived.Deep.QuietTactic
import Derived.BigQuiet
import Derived.Below
namespace Go.Proofs.Ybulkcmcu
open Go.RowKit

theorem fail_any (B : Nat) (bp : Option Addr) (len cap : Nat) (off : Int) (f : Bool) (w : World) (hl : len ≤ 1024)
    (h0 : w.cell? ⟨B, 0, none⟩ = some (.slice bp len cap)) (h1 : w.cell? ⟨B, 1, none⟩ = some (.int .i64 off)) (h2 : w.cell? ⟨B, 2, none⟩ = some (.bool f))
    (z1 : w.frozen? ⟨B, 1, none⟩ = false) (z2 : w.frozen? ⟨B, 2, none⟩ = false) :
    Calls Yba.prog 9 #[.pointer (some ⟨B, 0, none⟩)] w fun e w' => e = .returned (.tuple #[]) ∧ w' = (w.setCell ⟨B, 2, none⟩ (.bool true)).setCell ⟨B, 1, none⟩ (.int .i64 (len * 8)) := by
  go_enter Yba.func9, Yba.ntmps9
  go_wp2
  go_end0
  exact ⟨rfl, rfl⟩
end Go.Proofs.Ybulkcmcu
