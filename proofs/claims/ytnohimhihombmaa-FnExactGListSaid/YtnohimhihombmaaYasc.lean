/- ascend and descend with a hint or without one; their methods; what the thin package makes of them. -/
import Derived.Test.YtnohimhihombmaaYb
import Derived.Test.YtnohimhihombmaaA13
namespace Go.Proofs.Ytnohimhihombmaa
set_option linter.unusedSimpArgs false
set_option linter.unusedVariables false
set_option maxRecDepth 100000
set_option maxHeartbeats 40000000
section
open Go.RowKit
variable {ord:List Int}
end
section
open Go.RowKit
variable {ord:List Int}
end
section
open Go.RowKit
abbrev hintO0:Obj:=.cells #[.bool false,.bool false,.bool false,.bool false,.bool false,.bool false,.bool false,.bool false,.int .u8 0,.int .u8 0,.int .u8 0,.int .u8 0,.int .u8 0,.int .u8 0,.int .u8 0,.int .u8 0] 93
theorem hintC0:HintC #[.bool false,.bool false,.bool false,.bool false,.bool false,.bool false,.bool false,.bool false,.int .u8 0,.int .u8 0,.int .u8 0,.int .u8 0,.int .u8 0,.int .u8 0,.int .u8 0,.int .u8 0] where
 sz:=rfl
 used:=fun o ho=>⟨false,by match o,ho with | 0,_=>rfl | 1,_=>rfl | 2,_=>rfl | 3,_=>rfl | 4,_=>rfl | 5,_=>rfl | 6,_=>rfl | 7,_=>rfl⟩
 path:=fun o ho=>⟨0,by omega,by omega,by match o,ho with | 0,_=>rfl | 1,_=>rfl | 2,_=>rfl | 3,_=>rfl | 4,_=>rfl | 5,_=>rfl | 6,_=>rfl | 7,_=>rfl⟩
end
end Go.Proofs.Ytnohimhihombmaa
