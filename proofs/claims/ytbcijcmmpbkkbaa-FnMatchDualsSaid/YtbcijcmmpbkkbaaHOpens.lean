/- How this seat's arguments, if they can be read as data, are laid open as values of their kinds. No condition. -/
import Derived.Test.YtbcijcmmpbkkbaaHKinds
namespace Go.Proofs.Ytbcijcmmpbkkbaa.Q
open Go.RowKit Go.Proofs.YtbcijcmmpbkkbaaW.PrintWords Go.Proofs.YtbcijcmmpbkkbaaW.PrintLast Go.Proofs.YtbcijcmmpbkkbaaW.PrintMore
theorem opens26 : Opens Try.prog 26 k26 := opens_iso (fun p => ⟨p.1, p.2⟩) (fun _ => rfl) (opens_struct2 Try.underlying26 ⟨by kernel_rfl, by kernel_rfl⟩ ⟨by kernel_rfl, by kernel_rfl, by kernel_rfl⟩ (opens_string Try.underlying9) (opens_string Try.underlying9))
theorem opens30 : Opens Try.prog 30 k30 := opens_iso (fun p => ⟨p.1, p.2.1, p.2.2⟩) (fun _ => rfl) (opens_struct3 Try.underlying30 ⟨by kernel_rfl, by kernel_rfl, by kernel_rfl⟩ ⟨by kernel_rfl, by kernel_rfl, by kernel_rfl, by kernel_rfl⟩ (opens_int Try.underlying3) (opens_string Try.underlying9) (opens_string Try.underlying9))
end Go.Proofs.Ytbcijcmmpbkkbaa.Q
