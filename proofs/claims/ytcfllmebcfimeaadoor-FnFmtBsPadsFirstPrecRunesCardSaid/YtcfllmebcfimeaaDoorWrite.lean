/- The buffer's method WriteString: where the text still fits into MaxStringLen it is added behind what the buffer holds. -/
import Derived.Test.YtcfllmebcfimeaaDoorBase
import Derived.WalkKit
import Derived.ProofKit
import Derived.OwnWalk
import Derived.Lib.Hide
import Derived.WalkLawsBesides
import Derived.WalkSpells
import Derived.Deep.QuietTactic
import Derived.BigQuiet
namespace Go.Proofs.YtcfllmebcfimeaaDoor.Fm
open Go.ChangeShapes Go.WideShapes Go.ChangeAt Go.RowKit Go.Fmt

set_option maxRecDepth 100000 in
set_option maxHeartbeats 1000000 in
theorem writeString (a : Addr) (base : Nat) (bs : List UInt8) (s : ByteArray) (w : World) (hb : Buf 5 w base a bs) (hg1 : w.cell? ⟨0, 0, none⟩ = some (.int .i64 2147483647)) (hlen : bs.length + s.size ≤ 2147483647) :
    Calls Tryd.prog 66 #[.pointer (some a), .string s] w fun e w' => e = .returned (.tuple #[]) ∧ Buf 5 w' base a (bs ++ s.data.toList) ∧ Kept base a w w' := by
  have hB := hb
  obtain ⟨p, cap, h1, h2, h3, h4, h5, h6, h7⟩ := hb
  have hI := Lib.hid info5
  have hc2 : bs.length + s.size ≤ 140737488355328 := by omega
  go_enter Tryd.func66, Tryd.ntmps66
  go_wp2
  go_quiet (fail)
  go_wp2_with ((at_builtin; refine append_str rfl _ _ 51 9 rfl base 5 Tryd.underlying51 Tryd.underlying9 hI.out p bs cap rfl h3 s rfl hc2 h7 ?_; intro p' cap' w' hown' hcap1 hcap2 hgrow; replace hgrow := grown_drewN hgrow; obtain ⟨hca, hfa⟩ := grown_cell h3 hgrow h6 h7 h1 h2))
  go_end0
  exact ⟨rfl, buf_store hB (Kept.refl _ _ _) h7 rfl hown' hgrow (fun k hk => (h3.lt k hk).1)⟩
end Go.Proofs.YtcfllmebcfimeaaDoor.Fm
