/- For every two values: FnHas returns true: the thin package's Has is the reference's Has. Conditions: the row's own (the listed package-level variables start as the program's text lays them). (The frame was written by the kit's proof-skeleton.mjs for another law.). -/
import Derived.Test.YtkmeckimmfbkiaaGreatDoorHasLaw
import Derived.Test.YtkmeckimmfbkiaaGreatDoorIn
import Derived.Test.YtkmeckimmfbkiaaGreatDoorTie
import Derived.Test.YtkmeckimmfbkiaaGreatDoorCards
import Derived.LaidMore
import Derived.Lay
import Derived.Stop.Joined
import Derived.Handed
import Derived.SevenTiedAt
import Derived.OpenVars
import Derived.MakeChecks
import Derived.Test.YtkmeckimmfbkiaaGreatDoorRows
import Derived.WalkKit
import Derived.ProofKit
import Derived.OpenShut
import Derived.ChangeOld
import Derived.Below
namespace Go.Proofs.YtkmeckimmfbkiaaGreatDoor.fnHas
open Go.ChangeShapes Go.WideShapes Go.ChangeAt Go.RowKit

theorem own : ownKnob Tryz.prog.godebug = none := by kernel_rfl
theorem laidOut : laidOutB Tryz.prog = true := by kernel_rfl

theorem vars_length {H : Type} {enc : TypeId × Value → H} {P : Program} {w : World} {sp : Nat → Bool} : ∀ {ns : List String} {gs : List (DataW H)} {ps : List MemPlace}, DataW.TrodVars enc P w sp ns gs ps → gs.length = ns.length
  | [], [], _, _ => rfl
  | [], _ :: _, _, h => h.elim
  | _ :: _, [], _, h => h.elim
  | _ :: _, _ :: _, _, h => by
    obtain ⟨_, _, _, _, _, _, _, _, _, _, h, _⟩ := h
    simp [vars_length h]
theorem met {w : World} (hL : laidMetH Tryz.prog Rows.fnHasRow.laid w) : KT w ∧ KL w := by
  rw [MakeChecks.laidMetH_plain _ _ _ (by kernel_rfl)] at hL
  obtain ⟨ps, hL, _⟩ := hL
  exact ⟨in_int_at hL 2 4 rfl (by kernel_rfl) (by kernel_rfl), in_int_at hL 5 3 rfl (by kernel_rfl) (by kernel_rfl)⟩

/-! ### THE ROW's STEP: WRITTEN OUT: LEAVE IT -/
set_option maxRecDepth 100000 in
theorem lifted (os : Os) (started : os.Started) (H : Type) (enc : TypeId × Value → H) :
    ReturnsInHanded {} Tryz.checked os 3 .any (fun w args => (Rows.fnHasSpec.pre enc Tryz.prog Tryz.f3 [] false w args ∧ laidMetH Tryz.prog Rows.fnHasRow.laid w) ∧ sizedMet enc Tryz.prog Tryz.f3 (OpenSpec.ofChange Rows.fnHasSpec) false w args)
      (Rows.fnHasSpec.post enc Tryz.prog Tryz.f3 false true false false) := by
  refine returnsInHanded_of_change_and (C := Tryz.checked) (X := fun w _ => laidMetH Tryz.prog Rows.fnHasRow.laid w) (fun _ _ _ hh h => h.of_heap hh) own started (by kernel_rfl) Tryz.func3
    (ChangeSpec.witness_shaped (enc := enc) (C := Tryz.checked) (os := os) (X := fun w _ => laidMetH Tryz.prog Rows.fnHasRow.laid w) false (World.laidAll Tryz.prog os Rows.fnHasRow.laid) #[.agg #[.int .i64 0, .bool false, .slice none 0 0, .int .u64 0, .string ByteArray.empty, .slice none 0 0], .agg #[.int .i64 0, .bool false, .slice none 0 0, .int .u64 0, .string ByteArray.empty, .slice none 0 0]] 8 (World.laidAll_os _ _ _)
      (World.shaped_of_ZipB (by kernel_rfl) (by kernel_rfl)) (by kernel_rfl) (by kernel_rfl) (by kernel_rfl)
      (by rw [MakeChecks.laidMetH_plain _ _ _ (by kernel_rfl)]; exact laidMet_laidAll _ (by kernel_rfl) (by kernel_rfl))) ?_
  intro W base args ds gs before hval0 hW hcnd _ hL _
  have hval : ∀ (j : Nat) t v, Tryz.f3.params[j]? = some t → args[j]? = some v → Value.okWide Tryz.prog W .any base t v := hval0
  have hW' := hW
  obtain ⟨p, q, hA0, hV, rfl, hfz, hnd⟩ := hW
  have hA : DataW.TrodAll enc Tryz.prog W 0 (fun _ => true) true Tryz.f3.params.toList args.toList ds p := hA0
  rw [Tryz.params3] at hA hval
  obtain ⟨v0, vs0, d0, ds0, p0, q0, hargs, rfl, rfl, h0, r0⟩ := trodAll_cons hA
  obtain ⟨v1, vs1, d1, ds1, p1, q1, rfl, rfl, rfl, h1, r1⟩ := trodAll_cons r0
  obtain ⟨rfl, rfl, rfl⟩ := trodAll_nil r1
  obtain rfl : args = #[v0, v1] := by cases args; simp_all
  have hV' : DataW.TrodVars enc Tryz.prog W (fun _ => true) Rows.fnHasSpec.vars gs q := hV
  obtain ⟨g1, g2, g3, g4, g5, rfl⟩ : ∃ g1 g2 g3 g4 g5, gs = [g1, g2, g3, g4, g5] := by
    have hl : gs.length = 5 := vars_length hV'
    match gs, hl with
    | [g1, g2, g3, g4, g5], _ => exact ⟨g1, g2, g3, g4, g5, rfl⟩
  have k0 := h0
  have k1 := h1
  have lt0 : ∀ x ∈ p0, x.block < W.heap.size := by obtain ⟨m, hm⟩ := k0; exact DataW.trod_lt m _ _ _ hm
  have lt1 : ∀ x ∈ p1, x.block < W.heap.size := by obtain ⟨m, hm⟩ := k1; exact DataW.trod_lt m _ _ _ hm
  obtain ⟨cs, rfl, _⟩ := okWide_struct Tryz.underlying26 (hval 0 26 v0 rfl rfl)
  obtain ⟨cs', rfl, _⟩ := okWide_struct Tryz.underlying26 (hval 1 26 v1 rfl rfl)
  obtain ⟨fuel, hf⟩ := h0
  obtain ⟨fuel1, hf1⟩ := h1
  have hin : InVal W W.heap.size 3 (.agg cs) := by
    have := in_val 3 fuel _ _ hf
    simpa [Value.cells] using this
  have hin1 : InVal W W.heap.size 2 (.agg cs') := by
    have := in_val 2 fuel1 _ _ hf1
    simpa [Value.cells] using this
  obtain ⟨hkt, hkl⟩ := met hL
  clear hA0 hval0
  refine (hasLaw_any (.agg cs) (.agg cs') W hin hin1 hkt hkl).mono fun e W' ⟨he, bel⟩ => ?_
  subst he
  exact ⟨_, rfl, _, _, _, [], _, _, hW', trodAll_mk1 (shut_bool Tryz.underlying4 _), (trodAll_cons_mk (Below.trod laidOut (by kernel_rfl) (of_decide_eq_true (by kernel_rfl)) k0 bel lt0) (trodAll_cons_mk (Below.trod laidOut (by kernel_rfl) (of_decide_eq_true (by kernel_rfl)) k1 bel lt1) trodAll_mk0)), Below.trodVars laidOut bel (by kernel_rfl) hV', bel.frame _, fun h => by cases h⟩

theorem over : Rows.fnHasRow.holds Tryz.pinned (OpenSpec.ofChange Rows.fnHasSpec) :=
  OpenClaim.holds_of_wide 3 Tryz.f3 rfl rfl rfl rfl rfl rfl rfl ⟨rfl, rfl, rfl, rfl, rfl⟩ rfl rfl rfl rfl rfl (by kernel_rfl) Tryz.func3 (by kernel_rfl)
    (of_decide_eq_true (by kernel_rfl)) (by unfold Func.isWrapper; first | (rw [if_pos (by decide +kernel)]; kernel_rfl) | (rw [if_neg (by decide +kernel)]; exact ⟨rfl, rfl⟩))
    (fun os started H enc _ => lifted os started H enc)

/-- The tied card. -/
theorem proved : Rows.FnHasCardSaid :=
  Claim7.holds_tied_plain_at .later [] [.data, .data, .data, .data, .data, .data, .pinned] true (true, "c0c5bff3a04ad65617ebe7165b0b82470ed26b4dc935de1fe5c3128c49157fea") true
    over (fun _ h => by cases h) (by kernel_rfl) (fun _ h => by cases h) fnHas_row_tie rfl ⟨rfl, rfl⟩ (by kernel_rfl) rfl
    (fun f fn hf hfn => by
      obtain rfl : f = 3 := Option.some.inj ((show Tryz.prog.funcNamed "given.example/pub-larkspur/laws.FnHas" = some 3 by kernel_rfl).symm.trans hf) |>.symm
      obtain rfl : fn = Tryz.f3 := (Option.some.inj (Tryz.func3.symm.trans hfn)).symm
      exact ⟨by kernel_rfl, fun j t ht => by
        rw [Tryz.params3] at ht
        have hm : t ∈ [26, 26] := by simpa using Array.mem_of_getElem? ht
        have hall : ([26, 26].all fun u => !Tryz.prog.wantsStandIn u) = true := by kernel_rfl
        exact (show Tryz.prog.wantsStandIn t = false by simpa using List.all_eq_true.1 hall t hm)⟩)
    (by kernel_rfl)
#print axioms proved
end Go.Proofs.YtkmeckimmfbkiaaGreatDoor.fnHas
