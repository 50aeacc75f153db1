/-
  DERIVED. GIVEN WITH THE SEED: THE PROGRAM's TIES (one call each: nine closed facts by the kernel) AND EACH ROW's TIE, after the 31st guide's Derived/Test/Toyas{Tie, Card}.lean. No idea stands in it: it is a product of the set-up. Laid BY PROGRAM, IN A SANDBOX (cutbox-door.mjs). By AI agents, Wed Nov 11 2026. No macro, syntax, notation, axiom, sorry.
-/
import Derived.Test.YtphppdbhofeagaaDoorRows
import Derived.LaidByTextLater
import Derived.SevenTiedAt
import Derived.LaidSub
import Derived.LaidOnce
namespace Go.Proofs.YtphppdbhofeagaaDoor
open Go
set_option maxRecDepth 100000
theorem seatTie1 : Tryd.prog.laidByTextLater [("unicode/utf8.acceptRanges", Rows.laid_unicode_utf8_acceptRanges), ("given.example/pub-bosquet/pub/net/html.plaintextAbort", Rows.laid_given_example_pub_bosquet_pub_net_html_plaintextAbort), ("given.example/pub-bosquet/pub/net/html.voidElements", Rows.laid_given_example_pub_bosquet_pub_net_html_voidElements)] [.data, .sentinel, .mapped] true :=
  Program.laidByTextLater_by_one 118 8 33 (by kernel_rfl) (by kernel_rfl) (by kernel_rfl) (by kernel_rfl) (by kernel_rfl) (by kernel_rfl) (fun _ _ => by kernel_rfl)
theorem pin_laid_unicode_utf8_first : Tryd.pinned.checked.prog.pinnedFits "unicode/utf8.first" = true := by kernel_rfl
theorem noOwnUnsafe : Tryd.pinned.checked.prog.headLifts.contains "ownunsafe" = false := by kernel_rfl
theorem fits1 : Tryd.pinned.checked.prog.listedFits [("unicode/utf8.acceptRanges", Rows.laid_unicode_utf8_acceptRanges), ("given.example/pub-bosquet/pub/net/html.plaintextAbort", Rows.laid_given_example_pub_bosquet_pub_net_html_plaintextAbort), ("given.example/pub-bosquet/pub/net/html.voidElements", Rows.laid_given_example_pub_bosquet_pub_net_html_voidElements), ("unicode/utf8.first", Rows.laid_unicode_utf8_first)] = true := by
  unfold Program.listedFits
  rw [noOwnUnsafe]
  kernel_rfl
theorem tie : Tryd.prog.laidByTextLater [("unicode/utf8.acceptRanges", Rows.laid_unicode_utf8_acceptRanges), ("given.example/pub-bosquet/pub/net/html.plaintextAbort", Rows.laid_given_example_pub_bosquet_pub_net_html_plaintextAbort), ("given.example/pub-bosquet/pub/net/html.voidElements", Rows.laid_given_example_pub_bosquet_pub_net_html_voidElements)] [.data, .sentinel, .mapped] true :=
  Program.laidByTextLater.sub seatTie1 ["unicode/utf8.acceptRanges", "given.example/pub-bosquet/pub/net/html.plaintextAbort", "given.example/pub-bosquet/pub/net/html.voidElements"] (by kernel_rfl) (by kernel_rfl)
theorem fnRenderedParts_row_tie : Rows.fnRenderedPartsRow.laidByTextAt .later Tryd.pinned [.data, .sentinel, .mapped, .pinned] true :=
  OpenClaim.laidByTextAt_pinned rfl rfl tie rfl rfl rfl rfl (fun y hy _e => by
    simp only [Rows.fnRenderedPartsRow, List.zip_cons_cons, List.zip_nil_right, List.mem_cons, List.mem_nil_iff, or_false] at hy
    rcases hy with rfl | rfl | rfl | rfl
    · cases _e
    · cases _e
    · cases _e
    · exact ⟨pin_laid_unicode_utf8_first, by kernel_rfl⟩) fits1
theorem fnRenderedPartsUpto_row_tie : Rows.fnRenderedPartsUptoRow.laidByTextAt .later Tryd.pinned [.data, .sentinel, .mapped, .pinned] true :=
  OpenClaim.laidByTextAt_pinned rfl rfl tie rfl rfl rfl rfl (fun y hy _e => by
    simp only [Rows.fnRenderedPartsUptoRow, List.zip_cons_cons, List.zip_nil_right, List.mem_cons, List.mem_nil_iff, or_false] at hy
    rcases hy with rfl | rfl | rfl | rfl
    · cases _e
    · cases _e
    · cases _e
    · exact ⟨pin_laid_unicode_utf8_first, by kernel_rfl⟩) fits1
end Go.Proofs.YtphppdbhofeagaaDoor
