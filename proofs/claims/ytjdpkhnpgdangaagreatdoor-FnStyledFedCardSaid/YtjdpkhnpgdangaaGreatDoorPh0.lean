/- The tied card of the law FnStyledFed: whatever the attributes and the text, FnStyledFed returns true; both read afterwards as before. The row lists five package-level variables of Go's library with what they hold; the card ties them to the program's text (the given ties). -/
import Derived.Test.YtjdpkhnpgdangaaGreatDoorCards
import Derived.Test.YtjdpkhnpgdangaaGreatDoorTie
import Derived.Test.YtjdpkhnpgdangaaGreatDoorPg0
import Derived.SevenTiedAt
namespace Go.Proofs.YtjdpkhnpgdangaaGreatDoor
open Go
theorem fnStyledFed_card_holds : Rows.FnStyledFedCardSaid :=
  Claim7.holds_tied_plain_at .later [] [.data, .data, .data, .data, .pinned] true (true, "8a1c6b2d97e62ca7625037f3ff949ff8401103cefbc542edb4e739a7ead3800d") true
    LawRow.over (fun _ h => by cases h) (by kernel_rfl) (fun _ h => by cases h) fnStyledFed_row_tie rfl ⟨rfl, rfl⟩ (by kernel_rfl) rfl
    (fun f fn hf hfn => by
      obtain rfl : f = 3 := Option.some.inj ((show Tryz.prog.funcNamed "pub-escapade/laws.FnStyledFed" = some 3 by kernel_rfl).symm.trans hf) |>.symm
      obtain rfl : fn = Tryz.f3 := (Option.some.inj (Tryz.func3.symm.trans hfn)).symm
      exact ⟨by kernel_rfl, fun j t ht => by
        rw [Tryz.params3] at ht
        have h3 : t = 22 ∨ t = 9 := by
          rcases j with _ | _ | j
          · exact Or.inl (by simpa using ht.symm)
          · exact Or.inr (by simpa using ht.symm)
          · simp at ht
        rcases h3 with rfl | rfl
        · exact (show Tryz.prog.wantsStandIn 22 = false by kernel_rfl)
        · exact (show Tryz.prog.wantsStandIn 9 = false by kernel_rfl)⟩)
    (by kernel_rfl)
#print axioms fnStyledFed_card_holds
end Go.Proofs.YtjdpkhnpgdangaaGreatDoor
