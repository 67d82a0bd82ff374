/- FnModeBytes: a mode is told as its four bytes, the low ones first; for every mode, without conditions. -/
import Derived.Test.YtplhhgcejajmoaaPFnModeBytesx1
namespace Go.Proofs.Ytplhhgcejajmoaa.Pure
open Go.RowKit Go.Proofs.Ytplhhgcejajmoaa.PFnModeBytes Go.Proofs.YtplhhgcejajmoaaW.PrintWords Go.Proofs.YtplhhgcejajmoaaW.PrintLast

/-- YOURS: ∀ (a0 : Int), (Lit.int .u32 a0).wf = true → laws_FnModeBytes.f a0 = some true
What it reaches (each with k first where it has rounds; `.mono`: more rounds tell the same; `.l0`, ..: its loops, with `.mono_l`): laws_obBytes.f, filemode_FileMode_Bytes.f, impl_ModeBytes.f, laws_FnModeBytes.f -/
theorem FnModeBytes : laws_FnModeBytes.Pure := by
  intro a0 _
  simp [laws_FnModeBytes.f, impl_ModeBytes.f, filemode_FileMode_Bytes.f, laws_obBytes.f, List.replicate]

end Go.Proofs.Ytplhhgcejajmoaa.Pure
