/- How this seat's arguments, if they can be read as data, are laid open as values of their kinds. No condition. -/
import Derived.Test.YtnnhehlieakedaaGreatDoorHKinds
namespace Go.Proofs.YtnnhehlieakedaaGreatDoor.Q
open Go.RowKit Go.Proofs.YtnnhehlieakedaaGreatDoorW.PrintWords Go.Proofs.YtnnhehlieakedaaGreatDoorW.PrintLast Go.Proofs.YtnnhehlieakedaaGreatDoorW.PrintMore
theorem opens25 : Opens Tryz.prog 25 k25 := opens_iso (fun p => ⟨p.1, p.2.1, p.2.2⟩) (fun _ => rfl) (opens_struct3 Tryz.underlying25 ⟨by kernel_rfl, by kernel_rfl, by kernel_rfl⟩ ⟨by kernel_rfl, by kernel_rfl, by kernel_rfl, by kernel_rfl⟩ (opens_int Tryz.underlying3) (opens_string Tryz.underlying9) (opens_string Tryz.underlying9))
end Go.Proofs.YtnnhehlieakedaaGreatDoor.Q
