/- FnOutcomeStartedUnlessNamedDefiniteFailure: the told and tied card. fmt's text is come to on no way of this law: nothing of it is used. -/
import Derived.Test.Qxb6614685aFmtCards
import Derived.Test.Qxb6614685aFmtTie
import Derived.Test.Qxb6614685aFmtOut
import Derived.ProofKit
import Derived.LaidMore
import Derived.OpenShut
import Derived.MakeChecks
import Derived.Deep.DeepWitnessRef
import Derived.Stop.JoinedTold
import Derived.SevenTiedAt
import Derived.OpenVars
namespace Go.Proofs.Qxb6614685aFmt
open Go.ChangeShapes Go.WideShapes Go.ChangeAt Go.WideMaps Go.WideElems Go.RowKit
open Go.Extern.Stop Go.Stop Go.Extern

theorem laidOut0 : laidOutB Tryf.prog = true := by kernel_rfl
theorem own : ownKnob Tryf.prog.godebug = none := by kernel_rfl
theorem gNames : Tryf.prog.globalNamed (Rows.fnOutcomeStartedUnlessNamedDefiniteFailureSpec.vars.headD "") = some 0 := by kernel_rfl
theorem tNames : (Tryf.prog.globals[0]?).map (·.type) = some 29 := by kernel_rfl

theorem door_met (os : Os) (args : Array Value) : laidMetH Tryf.prog Rows.fnOutcomeStartedUnlessNamedDefiniteFailureRow.laid ((World.doorLaid Tryf.prog 400 os).forCall (fun _ _ => 0) ⟨#[], args, []⟩).memory :=
  laidMetH_of_parts3 (fuel := 8) (laidMet_of_run' 8 (by kernel_rfl) (by kernel_rfl)) (by kernel_rfl) (by kernel_rfl)

/-- WHAT THE CONDITION GIVES THE WALKS: the variable's cell and the three strings. -/
theorem of_laid {W : World} (h : laidMetH Tryf.prog Rows.fnOutcomeStartedUnlessNamedDefiniteFailureRow.laid W) : ∃ b off cap, W.cell? ⟨0, 0, none⟩ = some (.slice (some ⟨b, off, none⟩) 3 cap) ∧
    W.cell? ⟨b, off, none⟩ = some (.string ⟨#[117, 110, 107, 110, 111, 119, 110]⟩) ∧ W.cell? ⟨b, off + 1, none⟩ = some (.string ⟨#[111, 107]⟩) ∧
    W.cell? ⟨b, off + 2, none⟩ = some (.string ⟨#[100, 101, 102, 105, 110, 105, 116, 101, 95, 102, 97, 105, 108, 117, 114, 101]⟩) := by
  rw [MakeChecks.laidMetH_plain _ _ _ (by kernel_rfl)] at h
  obtain ⟨ps, ⟨g0, t0, cs0, f0, p0, q0, hg0, ht0, hv0, hd0, _, _⟩, _, _⟩ := h
  obtain rfl := Option.some.inj (gNames.symm.trans hg0)
  obtain rfl := Option.some.inj (tNames.symm.trans ht0)
  obtain ⟨a, cap, hcs, _, hel⟩ := open_row Tryf.underlying29 (by kernel_rfl) (show DataW.trod _ Tryf.prog W 0 _ _ f0 29 cs0.toList = some (.slice [.lit (.string [117, 110, 107, 110, 111, 119, 110]), .lit (.string [111, 107]), .lit (.string [100, 101, 102, 105, 110, 105, 116, 101, 95, 102, 97, 105, 108, 117, 114, 101])] [], p0) from hd0)
  have str : ∀ (i : Nat) (l : List UInt8), ([DataW.lit (.string [117, 110, 107, 110, 111, 119, 110]), .lit (.string [111, 107]), .lit (.string [100, 101, 102, 105, 110, 105, 116, 101, 95, 102, 97, 105, 108, 117, 114, 101])] : List (DataW Unit))[i]? = some (.lit (.string l)) →
      W.cell? (a.add i) = some (.string ⟨l.toArray⟩) := by
    intro i l hl
    obtain ⟨v, n, q, hcell, hv⟩ := hel i _ hl
    obtain ⟨s, e1, e2, _⟩ := DataW.trod_string Tryf.underlying9 hv
    simp only [List.cons.injEq, and_true] at e1
    simp only [Prod.mk.injEq, DataW.lit.injEq, Lit.string.injEq] at e2
    rw [hcell, e1, e2.1]
  have h0 := str 0 _ rfl
  have h1 := str 1 _ rfl
  have h2 := str 2 _ rfl
  obtain ⟨b, off, spot⟩ := a
  have hspot : spot = none := by simpa [Addr.add] using World.cell?_spot h0
  subst hspot
  rw [Go.WideShapes.add_plain] at h0 h1 h2
  refine ⟨b, off, cap, ?_, h0, h1, h2⟩
  have := World.var?_cell hg0 hv0 0
  rw [Array.eq_one_of_toList hcs] at this
  simpa using this

set_option maxRecDepth 100000 in
theorem lifted (os : Os) (started : os.Started) (H : Type) (enc : TypeId × Value → H) :
    ReturnsInTold none {} Tryf.checked os 3 .any Input.okWide ((OpenSpec.ofChange Rows.fnOutcomeStartedUnlessNamedDefiniteFailureSpec).preRow enc Tryf.prog Tryf.f3 [] false Rows.fnOutcomeStartedUnlessNamedDefiniteFailureRow.laid)
      (fun F => ((OpenSpec.ofChange Rows.fnOutcomeStartedUnlessNamedDefiniteFailureSpec).at F).post enc Tryf.prog Tryf.f3 false true false false) (aloneAtReturn Tryf.prog) nothingAlways := by
  refine returnsInTold_of_row (C := Tryf.checked) (s := OpenSpec.ofChange Rows.fnOutcomeStartedUnlessNamedDefiniteFailureSpec) (by kernel_rfl) own started (by kernel_rfl) Tryf.func3
    (OpenSpec.witness_stopped_atRef (enc := enc) (C := Tryf.checked) false (World.doorLaid Tryf.prog 400 os) #[.int .u8 0] rfl (by kernel_rfl) (by kernel_rfl) (by kernel_rfl)
      (OpenSpec.preRow_of_B rfl 8 (by kernel_rfl) (by kernel_rfl) (door_met os _))) ?_
  intro F W base args ds gs before _ hF hval0 hW _ _ _ hL _
  have hval : ∀ (j : Nat) t v, Tryf.f3.params[j]? = some t → args[j]? = some v → Value.okWide Tryf.prog W .any base t v := hval0
  have hW' := hW
  obtain ⟨p, q, hA0, hV0, rfl, hfz, hnd⟩ := hW
  have hA : DataW.TrodAll enc Tryf.prog W 0 (fun _ => true) true Tryf.f3.params.toList args.toList ds p := hA0
  have hV : DataW.TrodVars enc Tryf.prog W (fun _ => true) Rows.fnOutcomeStartedUnlessNamedDefiniteFailureSpec.vars gs q := hV0
  rw [Tryf.params3] at hA hval
  obtain ⟨v0, d0, rfl, rfl, h0⟩ := trodAll_one hA
  obtain ⟨o, rfl, rfl, rfl, wo⟩ := open_int Tryf.underlying5 (hval 0 5 v0 rfl rfl) h0
  obtain ⟨g, t, cs, fuel, d1, p1, rfl, _⟩ := trodVars_one hV
  obtain ⟨b, off, cap, hg, hc0, hc1, hc2⟩ := of_laid hL
  have hb := bounds_u8 wo
  have walk : Calls Tryf.prog 3 #[.int .u8 o] W fun e W' => e = .returned (.bool true) ∧ W' = W := by
    by_cases c : 2 < o
    · exact out_past o W c
    · by_cases e0 : o = 0
      · subst e0; exact out_0 b off cap W hg hc0
      · by_cases e1 : o = 1
        · subst e1; exact out_1 b off cap W hg hc1
        · have e2 : o = 2 := by omega
          subst e2; exact out_2 b off cap W hg hc2
  refine walk.mono fun e W' ⟨he, hw⟩ => ?_
  subst he
  subst hw
  exact ⟨_, rfl, _, _, _, [], [], q, hW', trodAll_mk1 (shut_bool Tryf.underlying4 _), trodAll_mk1 (shut_int Tryf.underlying5 wo), Below.trodVars laidOut0 (Below.refl _ _) (by kernel_rfl) hV, World.keptBut_refl _ _, fun h => by cases h⟩

theorem laidOut : laidOutB Tryf.pinned.checked.prog = true := by kernel_rfl
theorem stops : Tryf.pinned.checked.prog.stops = ["fmt.Sprintf"] := by kernel_rfl
theorem stopKnobs : Tryf.pinned.checked.prog.stopKnobs = [] := by kernel_rfl
theorem quiet (os : Os) : Stop.quiet Tryf.pinned.checked.prog os := by
  intro k hk
  rw [stopKnobs] at hk
  cases hk

theorem outcomeProved : Rows.FnOutcomeStartedUnlessNamedDefiniteFailureToldSaid :=
  Claim7.holds_of_told_tied_any_at .later 3 Tryf.f3 "fmt.Sprintf" [] [] _ _ _ _ _ (by kernel_rfl) rfl rfl rfl laidOut (by kernel_rfl) rfl ⟨rfl, rfl, rfl, rfl, rfl, rfl, rfl⟩ rfl rfl (by kernel_rfl) (by kernel_rfl) Tryf.func3 (by kernel_rfl)
    (of_decide_eq_true (by kernel_rfl)) (by unfold Func.isWrapper; first | (rw [if_pos (by decide +kernel)]; kernel_rfl) | (rw [if_neg (by decide +kernel)]; exact ⟨rfl, rfl⟩)) stops.symm rfl stopKnobs.symm (by kernel_rfl)
    (by kernel_rfl) (by kernel_rfl) (by kernel_rfl) (by kernel_rfl) (by kernel_rfl) (by kernel_rfl) (by kernel_rfl) (by kernel_rfl) (by kernel_rfl) rfl (by kernel_rfl) rfl rfl
    rfl rfl
    rfl (by kernel_rfl) (by kernel_rfl) (by kernel_rfl) (by decide) (by kernel_rfl) fnOutcomeStartedUnlessNamedDefiniteFailure_row_tie
    (OpenClaim.moreEntering_of (by kernel_rfl) (by kernel_rfl) (by kernel_rfl) (by kernel_rfl) (by kernel_rfl) (by kernel_rfl) (by kernel_rfl) (by kernel_rfl) (by kernel_rfl) (by kernel_rfl))
    ⟨_, WideRow.started_initial, quiet _⟩
    (fun os started _ H enc _ => lifted os started H enc)
#print axioms outcomeProved
end Go.Proofs.Qxb6614685aFmt
