/- Tarjan's algorithm: the set's methods; the maps' steps. -/
import Derived.Test.YtdllkoiddlcnmaaGreatTw
namespace Go.Proofs.YtdllkoiddlcnmaaGreat
open Go.MapKept Go.RowKit

theorem undNum : Tryz.prog.underlying 126 = some (.map 2 3) := Tryz.underlying126
theorem zeroI (w : World) : (zeroValue 3).run Tryz.prog w = .ok (.int .i64 0) w := by kernel_rfl

end Go.Proofs.YtdllkoiddlcnmaaGreat
