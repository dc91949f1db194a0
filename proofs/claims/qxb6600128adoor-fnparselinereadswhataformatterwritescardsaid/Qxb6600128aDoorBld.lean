import Derived.Test.Qxb6600128aDoorShelf
import Derived.WalkKit
import Derived.BigQuiet
import Derived.Handy
namespace Go.Proofs.Qxb6600128aDoor
open Go.RowKit

theorem info5 : (Tryd.prog.info? 5).map (fun i => (i.zero, i.size, i.bytes)) = some (some (.int .u8 0), 1, 1) := by kernel_rfl

/-- (*strings.Builder).WriteByte at this dump. -/
theorem writeByte_any (B b : Nat) (bs : List Value) (c : Int) (w : World) (h : Lib.IsBuilder 52 5 B b bs w) (hlen : bs.length + 1 ≤ 140737488355328) (hBw : B ≤ w.heap.size) :
    Calls Tryd.prog 28 #[.pointer (some ⟨b, 0, none⟩), .int .u8 c] w fun e w' => e = .returned .nilIface ∧ (Lib.BuilderAt 52 5 B b (.pointer (some ⟨b, 0, none⟩)) (bs ++ [.int .u8 c]) w' ∧ Below B w w') := Tryd.Builder_WriteByte B b bs c w h hlen hBw
end Go.Proofs.Qxb6600128aDoor
