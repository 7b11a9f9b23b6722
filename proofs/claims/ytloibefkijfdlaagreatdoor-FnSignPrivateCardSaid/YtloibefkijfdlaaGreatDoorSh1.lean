/- One block of the hash: it always ends well. -/
import Derived.Test.YtloibefkijfdlaaGreatDoorBc
import Derived.Test.YtloibefkijfdlaaGreatDoorDy
namespace Go.Proofs.YtloibefkijfdlaaGreatDoor
open Go
theorem t_blk : lpAll l_sha512_blockGeneric Cb_sha512_blockGeneric 8 80 80 = true := by kernel_rfl
end Go.Proofs.YtloibefkijfdlaaGreatDoor
