/-
  Seat b6602329aD: the rows' frame: from the condition on the listed variables to what the walks ask; the witness; the row out of a walk.
-/
import Derived.Test.Qxb6602329aDoorRows
import Derived.ProofKit
import Derived.OpenShut
import Derived.LaidMore
import Derived.Lay
import Derived.SizedLaws
import Derived.Stop.LaidErr
import Derived.Stop.Joined
namespace Go.Proofs.Qxb6602329aDoor
open Go.ChangeShapes Go.WideShapes Go.ChangeAt Go.RowKit
open Go.ChangeMaps (open_string shut_string)

theorem own : ownKnob Tryd.prog.godebug = none := by kernel_rfl
theorem cells63 : Tryd.prog.cellsOf 63 = 1 := by kernel_rfl
theorem cells9 : Tryd.prog.cellsOf 9 = 1 := by kernel_rfl
theorem gES : Tryd.prog.globalNamed "strconv.ErrSyntax" = some 0 := by kernel_rfl
theorem gESType : (Tryd.prog.globals[0]?).map (·.type) = some 30 := by kernel_rfl
theorem gER : Tryd.prog.globalNamed "strconv.ErrRange" = some 1 := by kernel_rfl
theorem gERType : (Tryd.prog.globals[1]?).map (·.type) = some 30 := by kernel_rfl

/-- The dynamic type's name, as the rows list it. -/
def errNm : String := match (Rows.laid_strconv_ErrRange : DataW Unit) with | .iface n _ => n | _ => ""
theorem row61 (u : TypeId) (h : Tryd.prog.typeName? 3 u = some errNm) : u = 61 := by
  have star : errNm = String.singleton (Char.ofNat 42) ++ "errors.errorString" := by decide
  refine typeName_ptr_named (nm := "errors.errorString") (tp := 61) ?_ (by kernel_rfl) (by decide) u (by rw [h, star]; rfl)
  have e : (fun u => Tryd.prog.typeName? 3 u != some (String.singleton (Char.ofNat 42) ++ "errors.errorString") || u == 61) = fun u => Tryd.prog.typeName? 3 u != some errNm || u == 61 := by rw [star]
  show ((List.range Tryd.prog.types.size).all fun u => Tryd.prog.typeName? 3 u != some (String.singleton (Char.ofNat 42) ++ "errors.errorString") || u == 61) = true
  rw [e]
  kernel_rfl

abbrev laidL : List (String × DataW Unit) := Rows.fnParsePositiveWholeRow.laid

/-- What the condition gives the walks: the two sentinels' variables hold interface values. -/
theorem sentinels {W : World} (hL : laidMetH Tryd.prog laidL W) :
    (∃ p, W.cell? ⟨0, 0, none⟩ = some (.iface 61 p)) ∧ (∃ p, W.cell? ⟨1, 0, none⟩ = some (.iface 61 p)) := by
  rw [MakeChecks.laidMetH_plain _ _ _ (by kernel_rfl)] at hL
  have h1 := hL.tail.tail.tail.tail
  obtain ⟨a0, s0, hv0, -, -, -⟩ := laid_sentinel h1 gER gERType Tryd.underlying30 row61 Tryd.underlying61 Tryd.underlying63 rfl rfl Tryd.underlying9 cells63 cells9
  obtain ⟨a1, s1, hv1, -, -, -⟩ := laid_sentinel h1.tail gES gESType Tryd.underlying30 row61 Tryd.underlying61 Tryd.underlying63 rfl rfl Tryd.underlying9 cells63 cells9
  exact ⟨⟨_, by have h0 := World.var?_cell gES hv1 0; simpa using h0⟩, ⟨_, by have h0 := World.var?_cell gER hv0 0; simpa using h0⟩⟩

/-- What a walk of the law over one string owes. -/
def WalkS (f : Nat) : Prop := ∀ (s : ByteArray) (w : World) (p0 p1 : Value), s.size ≤ maxLen → w.cell? ⟨0, 0, none⟩ = some (.iface 61 p0) → w.cell? ⟨1, 0, none⟩ = some (.iface 61 p1) →
    Calls Tryd.prog f #[.string s] w fun e w' => e = .returned (.bool true) ∧ Below w.heap.size w w'
/-- What a walk of the law over one int owes. -/
def WalkI (f : Nat) : Prop := ∀ (n : Int) (w : World) (p0 p1 : Value), (Lit.int .i64 n).wf = true → w.cell? ⟨0, 0, none⟩ = some (.iface 61 p0) → w.cell? ⟨1, 0, none⟩ = some (.iface 61 p1) →
    Calls Tryd.prog f #[.int .i64 n] w fun e w' => e = .returned (.bool true) ∧ Below w.heap.size w w'

set_option maxRecDepth 100000 in
theorem liftedS (walk : WalkS 3) (os : Os) (started : os.Started) (H : Type) (enc : TypeId × Value → H) :
    ReturnsInHanded {} Tryd.checked os 3 .any (fun w args => (Rows.fnParsePositiveWholeSpec.pre enc Tryd.prog Tryd.f3 [] false w args ∧ laidMetH Tryd.prog laidL w) ∧ sizedMet enc Tryd.prog Tryd.f3 (OpenSpec.ofChange Rows.fnParsePositiveWholeSpec) false w args)
      (Rows.fnParsePositiveWholeSpec.post enc Tryd.prog Tryd.f3 false true false false) := by
  refine returnsInHanded_of_change_and (C := Tryd.checked) (X := fun w _ => laidMetH Tryd.prog laidL w) (fun _ _ _ hh h => h.of_heap hh) own started (by kernel_rfl) Tryd.func3
    (ChangeSpec.witness_shaped (enc := enc) (C := Tryd.checked) (os := os) (X := fun w _ => laidMetH Tryd.prog laidL w) false (World.laidAll Tryd.prog os laidL) #[.string ⟨#[]⟩] 8 (World.laidAll_os _ _ _)
      (World.shaped_of_ZipB (by kernel_rfl) (by kernel_rfl)) (by kernel_rfl) (by kernel_rfl) (by kernel_rfl)
      (by rw [MakeChecks.laidMetH_plain _ _ _ (by kernel_rfl)]; exact laidMet_laidAll _ (by kernel_rfl) (by kernel_rfl))) ?_
  intro W base args ds gs before hval0 hW _ _ hL _
  have hval : ∀ (j : Nat) t v, Tryd.f3.params[j]? = some t → args[j]? = some v → Value.okWide Tryd.prog W .any base t v := hval0
  have hW' := hW
  obtain ⟨p, q, hA0, hV, rfl, _, _⟩ := hW
  have hA : DataW.TrodAll enc Tryd.prog W 0 (fun _ => true) true Tryd.f3.params.toList args.toList ds p := hA0
  rw [Tryd.params3] at hA hval
  obtain ⟨v0, d0, rfl, rfl, h0⟩ := trodAll_one hA
  obtain ⟨rfl, rfl⟩ := trodVars_none hV
  obtain ⟨s, rfl, rfl, rfl, hs⟩ := open_string Tryd.underlying9 (hval 0 9 v0 rfl rfl) h0
  clear hA0 hval0
  simp only [List.append_nil] at hW'
  obtain ⟨⟨p0, c0⟩, ⟨p1, c1⟩⟩ := sentinels hL
  refine (walk s W p0 p1 hs c0 c1).mono fun e W' ⟨he, hb⟩ => ?_
  subst he
  exact ⟨_, rfl, _, _, _, [], [], [], hW', trodAll_mk1 (shut_bool Tryd.underlying4 _), trodAll_mk1 (shut_string Tryd.underlying9 hs), rfl, hb.frame _, fun h => by cases h⟩

set_option maxRecDepth 100000 in
theorem liftedI (walk : WalkI 5) (os : Os) (started : os.Started) (H : Type) (enc : TypeId × Value → H) :
    ReturnsInHanded {} Tryd.checked os 5 .any (fun w args => (Rows.fnParsePositiveRoundTripSpec.pre enc Tryd.prog Tryd.f5 [] false w args ∧ laidMetH Tryd.prog laidL w) ∧ sizedMet enc Tryd.prog Tryd.f5 (OpenSpec.ofChange Rows.fnParsePositiveRoundTripSpec) false w args)
      (Rows.fnParsePositiveRoundTripSpec.post enc Tryd.prog Tryd.f5 false true false false) := by
  refine returnsInHanded_of_change_and (C := Tryd.checked) (X := fun w _ => laidMetH Tryd.prog laidL w) (fun _ _ _ hh h => h.of_heap hh) own started (by kernel_rfl) Tryd.func5
    (ChangeSpec.witness_shaped (enc := enc) (C := Tryd.checked) (os := os) (X := fun w _ => laidMetH Tryd.prog laidL w) false (World.laidAll Tryd.prog os laidL) #[.int .i64 0] 8 (World.laidAll_os _ _ _)
      (World.shaped_of_ZipB (by kernel_rfl) (by kernel_rfl)) (by kernel_rfl) (by kernel_rfl) (by kernel_rfl)
      (by rw [MakeChecks.laidMetH_plain _ _ _ (by kernel_rfl)]; exact laidMet_laidAll _ (by kernel_rfl) (by kernel_rfl))) ?_
  intro W base args ds gs before hval0 hW _ _ hL _
  have hval : ∀ (j : Nat) t v, Tryd.f5.params[j]? = some t → args[j]? = some v → Value.okWide Tryd.prog W .any base t v := hval0
  have hW' := hW
  obtain ⟨p, q, hA0, hV, rfl, _, _⟩ := hW
  have hA : DataW.TrodAll enc Tryd.prog W 0 (fun _ => true) true Tryd.f5.params.toList args.toList ds p := hA0
  rw [Tryd.params5] at hA hval
  obtain ⟨v0, d0, rfl, rfl, h0⟩ := trodAll_one hA
  obtain ⟨rfl, rfl⟩ := trodVars_none hV
  obtain ⟨n, rfl, rfl, rfl, wn⟩ := open_int Tryd.underlying3 (hval 0 3 v0 rfl rfl) h0
  clear hA0 hval0
  simp only [List.append_nil] at hW'
  obtain ⟨⟨p0, c0⟩, ⟨p1, c1⟩⟩ := sentinels hL
  refine (walk n W p0 p1 wn c0 c1).mono fun e W' ⟨he, hb⟩ => ?_
  subst he
  exact ⟨_, rfl, _, _, _, [], [], [], hW', trodAll_mk1 (shut_bool Tryd.underlying4 _), trodAll_mk1 (shut_int Tryd.underlying3 wn), rfl, hb.frame _, fun h => by cases h⟩

theorem rowS (walk : WalkS 3) : Rows.FnParsePositiveWholeSaid :=
  OpenClaim.holds_of_wide 3 Tryd.f3 rfl rfl rfl rfl rfl rfl rfl ⟨rfl, rfl, rfl, rfl, rfl⟩ rfl rfl rfl rfl rfl (by kernel_rfl) Tryd.func3 (by kernel_rfl)
    (of_decide_eq_true (by kernel_rfl)) (by unfold Func.isWrapper; first | (rw [if_pos (by decide +kernel)]; kernel_rfl) | (rw [if_neg (by decide +kernel)]; exact ⟨rfl, rfl⟩))
    (fun os started H enc _ => liftedS walk os started H enc)
theorem rowI (walk : WalkI 5) : Rows.FnParsePositiveRoundTripSaid :=
  OpenClaim.holds_of_wide 5 Tryd.f5 rfl rfl rfl rfl rfl rfl rfl ⟨rfl, rfl, rfl, rfl, rfl⟩ rfl rfl rfl rfl rfl (by kernel_rfl) Tryd.func5 (by kernel_rfl)
    (of_decide_eq_true (by kernel_rfl)) (by unfold Func.isWrapper; first | (rw [if_pos (by decide +kernel)]; kernel_rfl) | (rw [if_neg (by decide +kernel)]; exact ⟨rfl, rfl⟩))
    (fun os started H enc _ => liftedI walk os started H enc)
end Go.Proofs.Qxb6602329aDoor
