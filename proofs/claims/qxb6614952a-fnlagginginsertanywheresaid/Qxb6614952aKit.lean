import Derived.Test.Qxb6614952aRows
import Derived.WalkKit
import Derived.WalkSpells
import Derived.WalkLawsBesides
import Derived.Deep.QuietTactic
import Derived.BigQuiet
import Derived.Laws.StructEq
namespace Go.Proofs.Qxb6614952a
open Go.RowKit

theorem hide {p : Prop} (h : p) : Hid p := h

/-- The call answers a bool. -/
def AnsBool (e : Ending) : Prop := ∃ b : Bool, e = .returned (.bool b)
theorem AnsBool.mk (b : Bool) : AnsBool (.returned (.bool b)) := ⟨b, rfl⟩

theorem bcell {W w1 : World} (hb : Below W.heap.size W w1) : (∀ b o, b < W.heap.size → w1.cell? ⟨b, o, none⟩ = W.cell? ⟨b, o, none⟩) ∧ (∀ b o, b < W.heap.size → w1.frozen? ⟨b, o, none⟩ = W.frozen? ⟨b, o, none⟩) :=
  ⟨fun b o h => hb.cell (p := ⟨b, o, none⟩) h, fun b o h => hb.frozen (p := ⟨b, o, none⟩) h⟩
end Go.Proofs.Qxb6614952a
