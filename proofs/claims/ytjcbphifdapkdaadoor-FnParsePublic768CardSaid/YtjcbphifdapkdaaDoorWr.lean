/-
  The row and its card.
-/
import Derived.Test.YtjcbphifdapkdaaDoorWz
import Derived.Test.YtjcbphifdapkdaaDoorRows
import Derived.Test.YtjcbphifdapkdaaDoorCards
import Derived.Test.YtjcbphifdapkdaaDoorTie
import Derived.ProofKit
import Derived.WalkSmall
import Derived.ChangeVars
import Derived.LaidLaws
import Derived.LaidHandle
import Derived.Lib.LaidTab
import Derived.SevenTiedAt
import Derived.Stop.Joined
namespace Go.Proofs.YtjcbphifdapkdaaDoor
open Go.ChangeShapes Go.WideShapes Go.ChangeAt Go.RowKit
theorem Tryd.own : ownKnob Tryd.prog.godebug = none := by kernel_rfl
theorem Tryd.laidOut : laidOutB Tryd.prog = true := by kernel_rfl
abbrev rcName : String := "loop.example/pub-g03234/pub/mlkem_fips140_sha3.rc"
theorem Tryd.gRc : Tryd.prog.globalNamed rcName = some 0 := by kernel_rfl
theorem Tryd.gRcType : (Tryd.prog.globals[0]?).map (·.type) = some 72 := by kernel_rfl
theorem Tryd.cells72' : Tryd.prog.cellsOf 72 = 24 := by kernel_rfl
theorem Tryd.cells69' : Tryd.prog.cellsOf 69 = 1 := by kernel_rfl
theorem Tryd.cells5' : Tryd.prog.cellsOf 5 = 1 := by kernel_rfl
/-- The table's numbers. -/
noncomputable def rcZ : List Int := RCN.map fun b => ((b.toNat : Nat) : Int)
theorem rc_tab : (Rows.laid_loop_example_pub_g03234_pub_mlkem_fips140_sha3_rc : DataW Unit) = Lib.tabData .u64 rcZ := by kernel_rfl
abbrev laidL : List (String × DataW Unit) := [(rcName, Rows.laid_loop_example_pub_g03234_pub_mlkem_fips140_sha3_rc)]
/-- A world that meets the condition. -/
noncomputable def laidWorld (os : Os) : World :=
  { World.holding Tryd.prog os ⟨#[], #[], []⟩ with heap := (World.holding Tryd.prog os ⟨#[], #[], []⟩).heap.modify 0 fun
      | .cells _ t frozen => .cells (rcZ.map fun z => Value.int .u64 z).toArray t frozen
      | o => o }
theorem laid_met (os : Os) (args : Array Value) : laidMetH Tryd.prog laidL ((laidWorld os).forCall (fun _ _ => 0) ⟨#[], args, []⟩).memory :=
  laidMet_of_run' 8 (by kernel_rfl) (by kernel_rfl)
theorem rc_cells {W : World} (h : laidMetH Tryd.prog laidL W) : ∀ j, j < 24 → W.cell? ⟨0, 0 + j, none⟩ = some (.int .u64 (Vk.rcF j).toNat) := fun j hj => by
  have h' : laidMet Tryd.prog [(rcName, Lib.tabData .u64 rcZ)] W := by
    have h0 : laidMet Tryd.prog laidL W := h
    rw [laidL, rc_tab] at h0
    exact h0
  have hT := Lib.tabIs_of_head Tryd.gRc Tryd.gRcType Tryd.underlying72 Tryd.underlying69 Tryd.cells69' Tryd.cells72' h'
  have hl : RCN.length = 24 := by kernel_rfl
  have := hT.cell Tryd.gRc j (by simp [rcZ, hl, hj])
  rw [Nat.zero_add, this]
  simp only [rcZ, Vk.rcF, List.getD, List.getElem?_map]
  rw [List.getElem?_eq_getElem (by omega)]
  rfl
noncomputable abbrev rcCells : Array Value := (rcZ.map fun z => Value.int .u64 z).toArray
theorem rc_var {W : World} (h : laidMetH Tryd.prog laidL W) : W.var? Tryd.prog rcName = some rcCells := by
  have h' : laidMet Tryd.prog [(rcName, Lib.tabData .u64 rcZ)] W := by
    have h0 : laidMet Tryd.prog laidL W := h
    rw [laidL, rc_tab] at h0
    exact h0
  exact Lib.tabIs_of_head Tryd.gRc Tryd.gRcType Tryd.underlying72 Tryd.underlying69 Tryd.cells69' Tryd.cells72' h'
theorem rc_reads {H : Type} {enc : TypeId × Value → H} {X : World} (h : X.var? Tryd.prog rcName = some rcCells) (sp : Nat → Bool) : DataW.TrodVars enc Tryd.prog X sp [rcName] [Lib.tabData .u64 rcZ] (MemPlace.row ⟨0, 0, none⟩ rcCells.size ++ []) :=
  trodVars_mk1 Tryd.gRc Tryd.gRcType h (fuel := 8) (by kernel_rfl)
set_option maxRecDepth 100000 in
theorem law_lifted (os : Os) (started : os.Started) (H : Type) (enc : TypeId × Value → H) :
    ReturnsInHanded {} Tryd.checked os 3 .any (fun w args => (Rows.fnParsePublic768Spec.pre enc Tryd.prog Tryd.f3 [] false w args ∧ laidMetH Tryd.prog laidL w) ∧ sizedMet enc Tryd.prog Tryd.f3 (OpenSpec.ofChange Rows.fnParsePublic768Spec) false w args)
      (Rows.fnParsePublic768Spec.post enc Tryd.prog Tryd.f3 false true false false) := by
  refine returnsInHanded_of_change_and (C := Tryd.checked) (X := fun w _ => laidMetH Tryd.prog laidL w) (fun _ _ _ hh h => h.of_heap hh) Tryd.own started (by kernel_rfl) Tryd.func3
    (ChangeSpec.witness_at (enc := enc) (C := Tryd.checked) (os := os) (X := fun w _ => laidMetH Tryd.prog laidL w) false (laidWorld os) #[.slice none 0 0] 8 rfl (by kernel_rfl) (by kernel_rfl) (by kernel_rfl) (by kernel_rfl) (by kernel_rfl) (laid_met os _)) ?_
  intro W base args ds gs before hval0 hW _ _ hL _
  have hval : ∀ (j : Nat) t v, Tryd.f3.params[j]? = some t → args[j]? = some v → Value.okWide Tryd.prog W .any base t v := hval0
  have hW' := hW
  obtain ⟨p, q, hA0, hV0, rfl, hfz, hnd⟩ := hW
  have hA : DataW.TrodAll enc Tryd.prog W 0 (fun _ => true) true Tryd.f3.params.toList args.toList ds p := hA0
  have hV : DataW.TrodVars enc Tryd.prog W (fun _ => true) [rcName] gs q := hV0
  rw [Tryd.params3] at hA hval
  obtain ⟨v0, d0, rfl, rfl, h0⟩ := trodAll_one hA
  obtain ⟨rfl, rfl⟩ := hV.unique (rc_reads (rc_var hL) _)
  have h0k := h0
  obtain ⟨fuel, hf⟩ := h0
  clear hA0 hV0 hval0
  have hlt : ∀ x ∈ p, x.block < W.heap.size := fun x hx => by simpa using hW'.lt x (by simp [hx])
  have hrc := rc_cells hL
  have hrc0 : 0 < W.heap.size := block_lt_of_cell (hrc 0 (by omega))
  obtain ⟨a0, len, cap, rfl⟩ := okWide_slice Tryd.underlying22 (hval 0 22 v0 rfl rfl)
  have hcall : Calls Tryd.prog 3 #[.slice a0 len cap] W fun e w' => e = .returned (.bool true) ∧ Below W.heap.size W w' := by
    rcases open_ints Tryd.underlying22 Tryd.underlying5 Tryd.cells5' hf with ⟨hcs, hx⟩ | ⟨a, len', cap', zs, hcs, _, hl, hm, hz, hx, hcell, hwz⟩
    · simp [Value.cells] at hcs
      obtain ⟨rfl, rfl, rfl⟩ := hcs
      exact Vk.top_any none 0 0 W (Nat.le_refl _) fun h => by cases h
    · simp [Value.cells] at hcs
      obtain ⟨rfl, rfl, rfl⟩ := hcs
      refine Vk.top_any (some a) len cap W hl fun h1 => ?_
      simp only [if_true] at hz
      obtain ⟨b, off, spot⟩ := a
      have hspot : spot = none := by simpa [Addr.add] using World.cell?_spot (hcell 0 (by omega))
      subst hspot
      have hc : ∀ j, j < 1184 → W.cell? ⟨b, off + j, none⟩ = some (.int .u8 (BitVec.ofNat 8 (zs.getD j 0).toNat).toNat) := fun j hj => by
        have h2 := hcell j (by omega)
        have h3 : (Lit.int .u8 (zs.getD j 0)).wf = true := by
          refine hwz _ ?_
          rw [List.getD, List.getElem?_eq_getElem (by omega : j < zs.length)]
          exact List.getElem_mem _
        have h4 : 0 ≤ zs.getD j 0 ∧ zs.getD j 0 ≤ 255 := by
          simp only [Lit.wf, Bool.and_eq_true, decide_eq_true_eq] at h3
          have a1 : IntKind.u8.min = 0 := rfl
          have a2 : IntKind.u8.max = 255 := rfl
          omega
        have h5 : (((BitVec.ofNat 8 (zs.getD j 0).toNat).toNat : Nat) : Int) = zs.getD j 0 := by
          rw [BitVec.toNat_ofNat]
          omega
        rw [h5, ← add_plain]
        exact h2
      exact ⟨b, off, fun j => BitVec.ofNat 8 (zs.getD j 0).toNat, rfl, block_lt_of_cell (hc 0 (by omega)), hc, hrc0, hrc⟩
  refine hcall.mono fun e W' ⟨he, hb⟩ => ?_
  subst he
  have e1 : Rows.fnParsePublic768Spec.fn H ([d0] ++ [Lib.tabData .u64 rcZ]) = { results := [.lit (.bool true)], args := [d0], vars := [Lib.tabData .u64 rcZ] } := rfl
  refine ⟨_, rfl, _, _, _, [], p, MemPlace.row ⟨0, 0, none⟩ rcCells.size ++ [], hW', ?_, ?_, ?_, hb.frame _, fun h => by cases h⟩
  · rw [e1]; exact trodAll_mk1 (shut_bool Tryd.underlying4 true)
  · rw [e1]; exact trodAll_mk1 (Below.trod Tryd.laidOut (by kernel_rfl) (of_decide_eq_true (by kernel_rfl)) h0k hb hlt)
  · rw [e1]; exact rc_reads (var?_below hb Tryd.gRc hrc0 (rc_var hL)) _
theorem f_holds : Rows.FnParsePublic768Said :=
  OpenClaim.holds_of_wide 3 Tryd.f3 rfl rfl rfl rfl rfl rfl rfl ⟨rfl, rfl, rfl, rfl, rfl⟩ rfl rfl rfl rfl rfl (by kernel_rfl) Tryd.func3 (by kernel_rfl)
    (of_decide_eq_true (by kernel_rfl)) (by unfold Func.isWrapper; rw [if_neg (of_decide_eq_false (by kernel_rfl))]; exact ⟨rfl, rfl⟩)
    (fun os started H enc _ => law_lifted os started H enc)
theorem card_holds : Rows.FnParsePublic768CardSaid :=
  Claim7.holds_tied_plain_at .later [] [.data] true (true, "16c89b9c566355a0cef42f04fc02ecf6b2b79f9eec3ff74a0c9dbd266cd6dde4") false
    f_holds (fun _ h => by cases h) (by kernel_rfl) (fun _ h => by cases h) fnParsePublic768_row_tie rfl ⟨rfl, rfl⟩ (by kernel_rfl) rfl
    (fun f fn hf hfn => by
      obtain rfl : f = 3 := Option.some.inj ((show Tryd.prog.funcNamed "loop.example/pub-g03234/laws.FnParsePublic768" = some 3 by kernel_rfl).symm.trans hf) |>.symm
      obtain rfl : fn = Tryd.f3 := (Option.some.inj (Tryd.func3.symm.trans hfn)).symm
      exact ⟨by kernel_rfl, fun j t ht => by
        rw [Tryd.params3] at ht
        have h3 : t = 22 := by
          rcases j with _ | j
          · simpa using ht.symm
          · simp at ht
        subst h3
        exact (show Tryd.prog.wantsStandIn 22 = false by kernel_rfl)⟩)
    (by kernel_rfl)
#print axioms card_holds
end Go.Proofs.YtjcbphifdapkdaaDoor
