/-
  For every string s the law laws.FnPlaced returns true, and s reads behind the call as before: the full tied card. Conditions: none on s; the twelve package variables that the row lists hold what the program's text lays (two of them Go's own tables, pinned), as the card ties it.
-/
import Derived.Test.YtopmbledpalmdaaGreatDoorPlc
import Derived.Test.YtopmbledpalmdaaGreatDoorCards
import Derived.Test.YtopmbledpalmdaaGreatDoorTie
import Derived.ProofKit
import Derived.OpenShut
import Derived.LaidMore
import Derived.Lay
import Derived.PinnedBridge
import Derived.Lib.LaidU8T
import Derived.SevenTiedAt
import Derived.Stop.Joined
namespace Go.Proofs.YtopmbledpalmdaaGreatDoor
open Go.ChangeMaps (open_string shut_string)
open Go.ChangeShapes Go.WideShapes Go.ChangeAt Go.WideMaps Go.WideElems Go.RowKit Go.Shelf Go.Proofs

theorem placed_all (s : ByteArray) (W : World) (h : EscAt W) :
    Calls Tryz.prog 3 #[.string s] W fun e w' => e = .returned (.bool true) ∧ Below W.heap.size W w' := by
  by_cases h1 : 2147483647 < s.size ∨ plainL s.data.toList = false ∨ s.data.toList = []
  · refine (placed_small s W h1).mono ?_
    rintro e w' ⟨he, rfl⟩
    exact ⟨he, Below.refl _ _⟩
  · simp only [not_or, Bool.not_eq_false] at h1
    exact placed_main s W (by omega) h1.2.1 h1.2.2 h

def u8ren : Ren := ⟨fun n => n, fun | 5 => 5 | 119 => 93 | 138 => 95 | 139 => 96 | n => n, fun | 3 => 1 | 4 => 2 | n => n⟩
theorem u8types : U8Types Tryz.prog u8ren := ⟨Tryz.underlying5, Tryz.underlying93, Tryz.underlying95, Tryz.underlying96⟩
theorem u8extra : U8Extra Tryz.prog u8ren := ⟨by kernel_rfl, by kernel_rfl, by kernel_rfl, by kernel_rfl, by kernel_rfl, by kernel_rfl, by kernel_rfl⟩
theorem acceptData_is : Rows.laid_unicode_utf8_acceptRanges = Lib.acceptData := by kernel_rfl
def bruijnZ : List Int := [0, 1, 56, 2, 57, 49, 28, 3, 61, 58, 42, 50, 38, 29, 17, 4, 62, 47, 59, 36, 45, 43, 51, 22, 53, 39, 33, 30, 24, 18, 12, 5, 63, 55, 48, 27, 60, 41, 37, 16, 46, 35, 44, 21, 52, 32, 23, 11, 54, 26, 40, 15, 34, 20, 31, 10, 25, 14, 19, 9, 13, 8, 7, 6]
theorem bruijnData_is : (Rows.laid_math_bits_deBruijn64tab : DataW Unit) = Lib.tabData .u8 bruijnZ := by kernel_rfl

/-- WHAT THE ROW's LIST GIVES: the tables that the call reads. -/
theorem esc_of_laid {W : World} (h : laidMetH Tryz.prog Rows.fnPlacedRow.laid W) : EscAt W := by
  rw [MakeChecks.laidMetH_plain _ _ _ (by kernel_rfl)] at h
  refine ⟨?_, ?_⟩
  · refine utf8Tabs_of_readsT u8types u8extra ?_ ?_
    · rw [← Pinned.utf8First_eq]
      exact Lib.laidMet.reads h (List.mem_of_getElem? (i := 11) rfl)
    · rw [← acceptData_is]
      exact Lib.laidMet.reads h (List.mem_of_getElem? (i := 3) rfl)
  · have h64 : Lib.VarReads Tryz.prog W "math/bits.deBruijn64tab" (Lib.tabData .u8 bruijnZ) := by
      rw [← bruijnData_is]
      exact Lib.laidMet.reads h (List.mem_of_getElem? (i := 1) rfl)
    obtain ⟨g, t, cs, fuel, p, hg, hty, hvar, hd⟩ := h64
    obtain rfl := Option.some.inj ((show Tryz.prog.globalNamed "math/bits.deBruijn64tab" = some 12 by kernel_rfl).symm.trans hg)
    obtain rfl := Option.some.inj ((show (Tryz.prog.globals[12]?).map (·.type) = some 180 by kernel_rfl).symm.trans hty)
    have hcs := Lib.cells_of_tab Tryz.underlying180 Tryz.underlying5 (by kernel_rfl) (by kernel_rfl) hd
    unfold BruijnAt
    rw [World.var?_cell hg hvar 15, ← Array.getElem?_toList, hcs]
    rfl

theorem own : ownKnob Tryz.prog.godebug = none := by kernel_rfl

set_option maxRecDepth 100000 in
theorem lifted (os : Os) (started : os.Started) (H : Type) (enc : TypeId × Value → H) :
    ReturnsInHanded {} Tryz.checked os 3 .any (fun w args => (Rows.fnPlacedSpec.pre enc Tryz.prog Tryz.f3 [] false w args ∧ laidMetH Tryz.prog Rows.fnPlacedRow.laid w) ∧ sizedMet enc Tryz.prog Tryz.f3 (OpenSpec.ofChange Rows.fnPlacedSpec) false w args)
      (Rows.fnPlacedSpec.post enc Tryz.prog Tryz.f3 false true false false) := by
  refine returnsInHanded_of_change_and (C := Tryz.checked) (X := fun w _ => laidMetH Tryz.prog Rows.fnPlacedRow.laid w) (fun _ _ _ hh h => h.of_heap hh) own started (by kernel_rfl) Tryz.func3
    (ChangeSpec.witness_shaped (enc := enc) (C := Tryz.checked) (os := os) (X := fun w _ => laidMetH Tryz.prog Rows.fnPlacedRow.laid w) false (World.laidAll Tryz.prog os Rows.fnPlacedRow.laid) #[.string ⟨#[]⟩] 8 (World.laidAll_os _ _ _)
      (World.shaped_of_ZipB (by kernel_rfl) (by kernel_rfl)) (by kernel_rfl) (by kernel_rfl) (by kernel_rfl)
      (by rw [MakeChecks.laidMetH_plain _ _ _ (by kernel_rfl)]; exact laidMet_laidAll _ (by kernel_rfl) (by kernel_rfl))) ?_
  intro W base args ds gs before hval0 hW hc _ hL _
  have hval : ∀ (j : Nat) t v, Tryz.f3.params[j]? = some t → args[j]? = some v → Value.okWide Tryz.prog W .any base t v := hval0
  have hW' := hW
  obtain ⟨p, q, hA0, hV, rfl, _, _⟩ := hW
  have hA : DataW.TrodAll enc Tryz.prog W 0 (fun _ => true) true Tryz.f3.params.toList args.toList ds p := hA0
  rw [Tryz.params3] at hA hval
  obtain ⟨v0, d0, rfl, rfl, h0⟩ := trodAll_one hA
  obtain ⟨rfl, rfl⟩ := trodVars_none hV
  obtain ⟨s, rfl, rfl, rfl, hs⟩ := open_string Tryz.underlying9 (hval 0 9 v0 rfl rfl) h0
  simp only [List.append_nil] at hW'
  refine (placed_all s W (esc_of_laid hL)).mono fun e W' ⟨he, hb⟩ => ?_
  subst he
  exact ⟨_, rfl, _, _, _, [], [], [], hW', trodAll_mk1 (shut_bool Tryz.underlying4 _), trodAll_mk1 (shut_string Tryz.underlying9 hs), rfl, hb.frame _, fun h => by cases h⟩

theorem row_holds : Rows.FnPlacedSaid :=
  OpenClaim.holds_of_wide 3 Tryz.f3 rfl rfl rfl rfl rfl rfl rfl ⟨rfl, rfl, rfl, rfl, rfl⟩ rfl rfl rfl rfl rfl (by kernel_rfl) Tryz.func3 (by kernel_rfl)
    (of_decide_eq_true (by kernel_rfl)) (by unfold Func.isWrapper; first | (rw [if_pos (by decide +kernel)]; kernel_rfl) | (rw [if_neg (by decide +kernel)]; exact ⟨rfl, rfl⟩))
    (fun os started H enc _ => lifted os started H enc)
theorem fnPlaced_card_holds : Rows.FnPlacedCardSaid :=
  Claim7.holds_tied_plain_at .later [] [.data, .data, .data, .data, .data, .data, .data, .data, .data, .data, .pinned, .pinned] true (true, "bea319c1bafee15a86ef4ad6955027edcd139d16c4352431bc4230a1790e6540") false row_holds (fun _ h => by cases h) (by kernel_rfl) (fun _ h => by cases h) fnPlaced_row_tie rfl ⟨rfl, rfl⟩ (by kernel_rfl) rfl
    (fun f fn hf hfn => by
      obtain rfl : f = 3 := Option.some.inj ((show Tryz.prog.funcNamed "htmlescapers/laws.FnPlaced" = some 3 by kernel_rfl).symm.trans hf) |>.symm
      obtain rfl : fn = Tryz.f3 := (Option.some.inj (Tryz.func3.symm.trans hfn)).symm
      exact ⟨by kernel_rfl, fun j t ht => by
        rw [Tryz.params3] at ht
        have hm : t ∈ [9] := by simpa using Array.mem_of_getElem? ht
        have hall : ([9].all fun u => !Tryz.prog.wantsStandIn u) = true := by kernel_rfl
        exact (show Tryz.prog.wantsStandIn t = false by simpa using List.all_eq_true.1 hall t hm)⟩)
    (by kernel_rfl)
#print axioms fnPlaced_card_holds
end Go.Proofs.YtopmbledpalmdaaGreatDoor
