import Derived.Test.YtaiidipcmnejoaaGreatDoorNumM

namespace Go.Proofs.YtaiidipcmnejoaaGreatDoor.NumV
open Go.RowKit Go.Lib Go.Proofs.YtaiidipcmnejoaaGreatDoorW.PrintWords Go.Proofs.YtaiidipcmnejoaaGreatDoorW.PrintLast Go.Proofs.YtaiidipcmnejoaaGreatDoorW.PrintMore
open Go.Proofs.YtaiidipcmnejoaaGreatDoor.Nt Go.Proofs.YtaiidipcmnejoaaGreatDoor.Dec Go.Proofs.YtaiidipcmnejoaaGreatDoor.IntW Go.Proofs.YtaiidipcmnejoaaGreatDoor.NumW
open Go.Proofs.YtaiidipcmnejoaaGreatDoor.Spec (S S_list S_toList S_size S_of S_ext)
theorem no124_3 (v : Value) (w : World) : (Instr.typeAssert (.iface 3 v) 20 124 true).run Tryz.prog w = .ok (.tuple #[.string ⟨#[]⟩, .bool false]) w := by kernel_rfl
theorem no124_62 (v : Value) (w : World) : (Instr.typeAssert (.iface 62 v) 20 124 true).run Tryz.prog w = .ok (.tuple #[.string ⟨#[]⟩, .bool false]) w := by kernel_rfl
theorem no68_62 (v : Value) (w : World) : (Instr.typeAssert (.iface 62 v) 20 68 true).run Tryz.prog w = .ok (.tuple #[.float .f64 0, .bool false]) w := by kernel_rfl
/-- What a binary operation gives: a value of which Q says something. -/
def Gives (Q : World → Value → Prop) (w : World) (e : Ending) (w' : World) : Prop := ∃ v, e = .returned v ∧ Q w' v ∧ Below w.heap.size w w'
end Go.Proofs.YtaiidipcmnejoaaGreatDoor.NumV
