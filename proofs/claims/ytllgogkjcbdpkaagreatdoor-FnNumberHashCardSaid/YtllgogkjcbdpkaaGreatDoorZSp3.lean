/- Written by wip/tools/port2.py out of the text Sp3 of seat Ytidkdjnfpepnfaa. -/
/- The walk of the laws' 'is': the value of the thin package is the reference's integer. -/
import Derived.Test.YtllgogkjcbdpkaaGreatDoorZSp2
namespace Go.Proofs.YtllgogkjcbdpkaaGreatDoor.Z
open Go.RowKit

end Go.Proofs.YtllgogkjcbdpkaaGreatDoor.Z
