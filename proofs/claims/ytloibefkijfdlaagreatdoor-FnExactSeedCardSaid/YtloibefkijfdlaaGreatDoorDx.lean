/- Contracts that the trees give: keys told, of 32 bytes. Contracts that the trees give: a new digest, a new scalar. -/
import Derived.Test.YtloibefkijfdlaaGreatDoorDw
namespace Go.Proofs.YtloibefkijfdlaaGreatDoor
open Go
section
variable{GB:Nat}{GC:Nat→Nat→Option Value}{ad:Nat→Nat×Nat}(hG:GOk GB GC ad)
include hG
end
end Go.Proofs.YtloibefkijfdlaaGreatDoor

namespace Go.Proofs.YtloibefkijfdlaaGreatDoor
open Go
section
variable{GB:Nat}{GC:Nat→Nat→Option Value}{ad:Nat→Nat×Nat}(hG:GOk GB GC ad)
include hG
end
end Go.Proofs.YtloibefkijfdlaaGreatDoor
