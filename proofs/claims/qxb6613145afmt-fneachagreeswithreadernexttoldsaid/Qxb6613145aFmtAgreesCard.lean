/-
  THE CARD OF FnEachAgreesWithReaderNext, PROVED: told and tied.
-/
import Derived.Test.Qxb6613145aFmtLift
import Derived.Test.Qxb6613145aFmtAgrees
namespace Go.Proofs.Qxb6613145aFmt
open Go.ChangeShapes Go.WideShapes Go.ChangeAt Go.RowKit Go.Kit
open Go.ChangeMaps (open_string shut_string)
open Go.Extern.Stop Go.Stop Go.Extern

set_option maxRecDepth 100000 in
set_option maxHeartbeats 1600000 in
theorem agrees_lifted (os : Os) (started : os.Started) (H : Type) (enc : TypeId × Value → H) :
    ReturnsInTold none {} Tryf.checked os 6 .any Input.okWide ((OpenSpec.ofChange Rows.fnEachAgreesWithReaderNextSpec).preRow enc Tryf.prog Tryf.f6 [] false Rows.fnEachAgreesWithReaderNextRow.laid)
      (fun F => ((OpenSpec.ofChange Rows.fnEachAgreesWithReaderNextSpec).at F).post enc Tryf.prog Tryf.f6 false true false false) (aloneAtReturn Tryf.prog) nothingAlways := by
  refine returnsInTold_of_row (C := Tryf.checked) (s := OpenSpec.ofChange Rows.fnEachAgreesWithReaderNextSpec) (by kernel_rfl) Tryf_own started (by kernel_rfl) Tryf.func6
    (OpenSpec.witness_stopped_at (enc := enc) (C := Tryf.checked) false (laidW Tryf.prog os) #[.string ⟨#[]⟩, .int .i64 0] rfl (by kernel_rfl) (by kernel_rfl) (by kernel_rfl)
      (OpenSpec.preRow_of_B rfl 8 (by kernel_rfl) (by kernel_rfl) (laidW_met os _))) ?_
  intro F W base0 args ds gs before _ hF hval0 hW _ _ _ hL _
  have hval : ∀ (j : Nat) t v, Tryf.f6.params[j]? = some t → args[j]? = some v → Value.okWide Tryf.prog W .any base0 t v := hval0
  have hW' := hW
  obtain ⟨p, q, hA0, hV0, rfl, hfz, hnd⟩ := hW
  have hA : DataW.TrodAll enc Tryf.prog W 0 (fun _ => true) true Tryf.f6.params.toList args.toList ds p := hA0
  rw [Tryf.params6] at hA hval
  obtain ⟨v0, v1, d0, d1, p0, p1, rfl, rfl, rfl, h0, h1⟩ := trodAll_two hA
  obtain ⟨rfl, rfl⟩ := trodVars_none hV0
  obtain ⟨s, rfl, rfl, rfl, ws⟩ := open_string Tryf.underlying9 (hval 0 9 v0 rfl rfl) h0
  obtain ⟨kk, rfl, rfl, rfl, wk⟩ := open_int Tryf.underlying3 (hval 1 3 v1 rfl rfl) h1
  clear hA0 hV0 hval0
  obtain ⟨ea, te, hv1, hc1, _, _⟩ := laid_sentinel hL Tryf_g4 Tryf_g4t Tryf.underlying32 Tryf_row54 Tryf.underlying54 Tryf.underlying56 rfl rfl Tryf.underlying9 Tryf_cells56 Tryf_cells9
  obtain ⟨ta, tt, hv2, hc2, _, _⟩ := laid_sentinel hL.tail.tail Tryf_g0 Tryf_g0t Tryf.underlying32 Tryf_row54 Tryf.underlying54 Tryf.underlying56 rfl rfl Tryf.underlying9 Tryf_cells56 Tryf_cells9
  have hg1 : W.cell? ⟨4, 0, none⟩ = some (.iface 54 (.pointer (some ea))) := by simpa using World.var?_cell Tryf_g4 hv1 0
  have hg2 : W.cell? ⟨0, 0, none⟩ = some (.iface 54 (.pointer (some ta))) := by simpa using World.var?_cell Tryf_g0 hv2 0
  have h7 : 7 ≤ W.heap.size := low7 hL.tail.tail.tail.tail
  refine (agrees_calls hg1 hg2 h7).mono ?_
  rintro e W' ⟨rfl, hK⟩
  have hB : Below W.heap.size W W' := ⟨hK.os, hK.tape, hK.output, hK.size, fun k hk => hK.block k hk (fun h => h)⟩
  refine ⟨_, rfl, _, _, _, [], [] ++ [], [], hW', ?_, ?_, ?_, hB.frame _, fun h => by cases h⟩
  · exact trodAll_mk1 (shut_bool Tryf.underlying4 true)
  · exact trodAll_mk2 (shut_string Tryf.underlying9 ws) (shut_int Tryf.underlying3 wk)
  · rfl

theorem agrees_card : Rows.FnEachAgreesWithReaderNextToldSaid :=
  Claim7.holds_of_told_tied_any_at .later 6 Tryf.f6 "fmt.errorf" [] [] _ _ _ _ _ (by kernel_rfl) rfl rfl rfl Tryf_laidOut (by kernel_rfl) rfl ⟨rfl, rfl, rfl, rfl, rfl, rfl, rfl⟩ rfl rfl (by kernel_rfl) (by kernel_rfl) Tryf.func6 (by kernel_rfl)
    (of_decide_eq_true (by kernel_rfl)) (of_decide_eq_true (by kernel_rfl)) Tryf_stops.symm rfl Tryf_stopKnobs.symm (by kernel_rfl)
    (by kernel_rfl) (by kernel_rfl) (by kernel_rfl) (by kernel_rfl) (by kernel_rfl) (by kernel_rfl) (by kernel_rfl) (by kernel_rfl) (by kernel_rfl) rfl (by kernel_rfl) rfl rfl
    rfl rfl
    rfl (by kernel_rfl) (by kernel_rfl) (by kernel_rfl) (by decide) (by kernel_rfl) fnEachAgreesWithReaderNext_row_tie
    (OpenClaim.moreEntering_of (by kernel_rfl) (by kernel_rfl) (by kernel_rfl) (by kernel_rfl) (by kernel_rfl) (by kernel_rfl) (by kernel_rfl) (by kernel_rfl) (by kernel_rfl) (by kernel_rfl))
    ⟨_, WideRow.started_initial, Tryf_quiet _⟩
    (fun os started _ H enc _ => agrees_lifted os started H enc)
end Go.Proofs.Qxb6613145aFmt
