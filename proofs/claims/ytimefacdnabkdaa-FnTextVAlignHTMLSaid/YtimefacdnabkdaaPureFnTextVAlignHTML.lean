/- The equivalent HTML property of a vertical alignment: of top, middle and bottom it is valign="top", "middle" and "bottom". No condition. -/
import Derived.Test.YtimefacdnabkdaaPFnTextVAlignHTMLx1
namespace Go.Proofs.Ytimefacdnabkdaa.Pure
open Go.RowKit Go.Proofs.Ytimefacdnabkdaa.PFnTextVAlignHTML Go.Proofs.YtimefacdnabkdaaW.PrintWords Go.Proofs.YtimefacdnabkdaaW.PrintLast

theorem FnTextVAlignHTML : laws_FnTextVAlignHTML.Pure := by
  intro a0 _
  unfold laws_FnTextVAlignHTML.f
  split
  · simp [impl_TextVAlignHTML.f, text_VAlign_HTMLProperty.f]
  · split
    · simp [impl_TextVAlignHTML.f, text_VAlign_HTMLProperty.f]
    · simp [impl_TextVAlignHTML.f, text_VAlign_HTMLProperty.f]

end Go.Proofs.Ytimefacdnabkdaa.Pure
