/- A return without results. -/
import Derived.WalkKit
namespace Go.Proofs.YtciejdaifjbjdaaDoor
open Go
theorem end_ret {P : Program} {fn : Func} {R : Ending → World → Prop} {a : Act} {w : World} (h : fn.results = #[]) (hd : a.defers = []) (hR : R (.returned (.tuple #[])) w) : bodyPost P fn R .ret a w :=
  ⟨hd, _, results_none h _ _ _, hR⟩
end Go.Proofs.YtciejdaifjbjdaaDoor
