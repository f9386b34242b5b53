/- How this seat's arguments, if they can be read as data, are laid open as values of their kinds. No condition. -/
import Derived.Test.YtikhlolhodgegaaHKinds
namespace Go.Proofs.Ytikhlolhodgegaa.Q
open Go.RowKit Go.Proofs.YtikhlolhodgegaaW.PrintWords Go.Proofs.YtikhlolhodgegaaW.PrintLast Go.Proofs.YtikhlolhodgegaaW.PrintMore
theorem opens26 : Opens Try.prog 26 k26 := opens_iso (fun p => ⟨p.1, p.2⟩) (fun _ => rfl) (opens_struct2 Try.underlying26 ⟨by kernel_rfl, by kernel_rfl⟩ ⟨by kernel_rfl, by kernel_rfl, by kernel_rfl⟩ (opens_string Try.underlying9) (opens_string Try.underlying9))
end Go.Proofs.Ytikhlolhodgegaa.Q
