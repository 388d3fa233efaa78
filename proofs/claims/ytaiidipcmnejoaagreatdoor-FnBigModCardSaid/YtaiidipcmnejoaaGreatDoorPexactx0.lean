-- PRINTED BY print.sh 35421559b90ae4d0a3588c463048766b98c2df88dd9212a6774a882060cdf62d: not written by this session
import Derived.Test.YtaiidipcmnejoaaGreatDoorProg
import Derived.Below
import Derived.Deep.Draws
import Derived.Deep.AppendLies
import Derived.Maps.AppendAt
import Derived.OwnWalk
import Derived.Laws.BytesArg
import Derived.Laws.MakeOwn
import Derived.Laws.OwnMore
import Derived.Deep.OwnRows
import Derived.Tactics
import Derived.Lib.ConvBytes
import Derived.Laws.Slices
import Derived.WalkKit
import Derived.KernelRfl
import Derived.RowKit3
import Derived.Deep.LoopGhost
import Derived.Deep.QuietTactic
import Derived.BigQuiet
import Derived.WideLaws
import Derived.Deep.DeepCutAuto
import Derived.Deep.CutBlock
import Derived.Deep.RegionHeld3
import Derived.Laws.Rows
import Derived.Lib.AppendStr
import Derived.ArgAppend
import Derived.Laws.IdiomCopy
import Derived.OrdersHeld
import Derived.Laws.BitsLemmas
import Derived.RowKit
import Derived.Test.YtaiidipcmnejoaaGreatDoorWWords
import Derived.Test.YtaiidipcmnejoaaGreatDoorWLast
import Derived.Test.YtaiidipcmnejoaaGreatDoorWTab
import Derived.Test.YtaiidipcmnejoaaGreatDoorWFour
import Derived.Test.YtaiidipcmnejoaaGreatDoorWQPut
import Derived.Test.YtaiidipcmnejoaaGreatDoorWApart
import Derived.Test.YtaiidipcmnejoaaGreatDoorWArr
import Derived.Test.YtaiidipcmnejoaaGreatDoorWZeros
import Derived.Test.YtaiidipcmnejoaaGreatDoorWFoot
import Derived.Test.YtaiidipcmnejoaaGreatDoorWKept
import Derived.Test.YtaiidipcmnejoaaGreatDoorWShare
import Derived.Test.YtaiidipcmnejoaaGreatDoorWN
import Derived.Test.YtaiidipcmnejoaaGreatDoorWFootNe
import Derived.Test.YtaiidipcmnejoaaGreatDoorWAt
import Derived.Test.YtaiidipcmnejoaaGreatDoorWEqStruct
import Derived.Test.YtaiidipcmnejoaaGreatDoorWRepsOne
import Derived.Test.YtaiidipcmnejoaaGreatDoorWInv
import Derived.Test.YtaiidipcmnejoaaGreatDoorWInvWords
import Derived.Test.YtaiidipcmnejoaaGreatDoorWGuard
import Derived.Test.YtaiidipcmnejoaaGreatDoorWNEv
import Derived.Test.YtaiidipcmnejoaaGreatDoorWMore
namespace Go.Proofs.YtaiidipcmnejoaaGreatDoor.Pexact
open Go.RowKit Go.Proofs.YtaiidipcmnejoaaGreatDoorW.PrintWords Go.Proofs.YtaiidipcmnejoaaGreatDoorW.PrintLast Go.Proofs.YtaiidipcmnejoaaGreatDoorW.PrintMore
attribute [local go_sem] max2_int min2_int max_two min_two max_three min_three max_four min_four   -- for this text's walks alone
set_option linter.unusedVariables false
set_option linter.unusedSimpArgs false



def errW : Option Int → Value
  | none => .nilIface
  | some c => .iface 0 (.int .i64 c)
theorem errW_none : errW none = .nilIface := rfl
theorem errW_some (c : Int) : errW (some c) = .iface 0 (.int .i64 c) := rfl

-- the values' own types

end Go.Proofs.YtaiidipcmnejoaaGreatDoor.Pexact
