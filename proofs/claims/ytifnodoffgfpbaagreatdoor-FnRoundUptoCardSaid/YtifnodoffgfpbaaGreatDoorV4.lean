/- FnRound (a message that is packed, or built, is unpacked as what it was) answers true and leaves what it is handed as it was: the row where what it reads is of bulk at most 1048576, and its card, tied to the program's text. Conditions: none but the row's own. -/
import Derived.Test.YtifnodoffgfpbaaGreatDoorPay
import Derived.Test.YtifnodoffgfpbaaGreatDoorJF
import Derived.Test.YtifnodoffgfpbaaGreatDoorCards
import Derived.Test.YtifnodoffgfpbaaGreatDoorTie
import Derived.Deep.DeepHandedRow
import Derived.Deep.DeepWitnessRowRef
import Derived.LaidMore
import Derived.LaidHandle
import Derived.OpenVars
import Derived.JoinedCond
namespace Go.Proofs.YtifnodoffgfpbaaGreatDoor
namespace lawRound
open Go Go.ChangeShapes Go.WideShapes Go.ChangeAt Go.RowKit
theorem own : ownKnob Tryz.prog.godebug = none := by kernel_rfl
theorem laidOut : laidOutB Tryz.prog = true := by kernel_rfl
theorem row306 : ∀ u, Tryz.prog.typeName? 3 u = some "*errors.errorString" → u = 306 := typeName_ptr_named (nm := "errors.errorString") (by kernel_rfl) (by kernel_rfl) (by decide)
theorem rowG (W : World) (h : W.ShapedOpen Tryz.prog) (g : Nat) (hg : g < 4) : ∃ v, X.RowAt (X.view [] W) g 0 [v] := by
  have aux : ∀ g zero t, g < Tryz.prog.globals.size → ((begin Tryz.prog (fun _ _ => 0) default).world.heap[g]?).bind Obj.row? = some (zero, t) → zero.size = 1 → ∃ v, X.RowAt (X.view [] W) g 0 [v] := fun g zero t h1 h2 h3 => by
    obtain ⟨cs, h4, h5, _⟩ := h.1 g zero t h1 h2
    rw [h3] at h5
    refine ⟨cs[0], cs, t, (0, 0), by simpa [X.view] using h4, fun i v hi => ?_⟩
    cases i with
    | zero => simp [X.nth] at hi; subst hi; simp
    | succ i => simp [X.nth] at hi
  match g, hg with
  | 0, _ => exact aux 0 #[.nilIface] 82 (of_decide_eq_true (by kernel_rfl)) (by kernel_rfl) rfl
  | 1, _ => exact aux 1 #[.nilIface] 82 (of_decide_eq_true (by kernel_rfl)) (by kernel_rfl) rfl
  | 2, _ => exact aux 2 #[.nilIface] 82 (of_decide_eq_true (by kernel_rfl)) (by kernel_rfl) rfl
  | 3, _ => exact aux 3 #[.nilIface] 82 (of_decide_eq_true (by kernel_rfl)) (by kernel_rfl) rfl
theorem eqSelf (a : Addr) : X.EqSelf Tryz.prog 82 306 (.pointer (some a)) := fun w => by
  simp [Op.equal, Op.maxDepth, run_equalIn_iface_ptr_same w 9998 a Tryz.underlying82 Tryz.underlying306 (show Tryz.prog.info? 306 = some Tryz.t306 by kernel_rfl) (by kernel_rfl) (show Tryz.prog.info? 324 = some Tryz.t324 by kernel_rfl)]
theorem glob7 (W : World) (h : W.ShapedOpen Tryz.prog) (hL : laidMetH Tryz.prog Rows.fnRoundUptoRow.laid W) : X.Glob7 (X.view [] W) := by
  rw [MakeChecks.laidMetH_plain _ _ _ (by kernel_rfl)] at hL
  have hL2 := laidMet.tail hL
  have hg : Tryz.prog.globalNamed "loop.example/pub-messagesmixed/pub/dnsmessage.ErrSectionDone" = some 5 := by kernel_rfl
  obtain ⟨a, s, hv, _, _, _⟩ := laid_sentinel hL2 hg (by kernel_rfl) Tryz.underlying82 row306 Tryz.underlying306 Tryz.underlying324 rfl rfl Tryz.underlying9 (by kernel_rfl) (by kernel_rfl)
  refine ⟨rowG W h, 306, .pointer (some a), ?_, eqSelf a⟩
  unfold World.var? at hv
  rw [hg] at hv
  simp only [Option.bind_some] at hv
  split at hv
  · rename_i cs t fr hh
    simp only [Option.some.injEq] at hv
    subst hv
    refine ⟨_, t, fr, by simpa [X.view] using hh, fun i v hi => ?_⟩
    cases i with
    | zero => simp [X.nth] at hi; subst hi; simp
    | succ i => simp [X.nth] at hi
  · cases hv
theorem vars_len {H : Type} {enc : TypeId × Value → H} {P : Program} {W : World} {sp : Nat → Bool} : ∀ {ns : List String} {gs : List (DataW H)} {ps : List MemPlace}, DataW.TrodVars enc P W sp ns gs ps → gs.length = ns.length
  | [], [], _, _ => rfl
  | [], _ :: _, _, h => h.elim
  | _ :: _, [], _, h => h.elim
  | _ :: _, _ :: _, _, h => by
    obtain ⟨_, _, _, _, _, _, _, _, _, _, hs, _⟩ := h
    simp [vars_len hs]
theorem spec_fn {H : Type} (d0 d1 : DataW H) (gs : List (DataW H)) (h : gs.length = 23) : Rows.fnRoundSpec.fn H ([d0, d1] ++ gs) = { results := [.lit (.bool true)], args := [d0, d1], vars := gs } := by
  match gs, h with
  | [g1, g2, g3, g4, g5, g6, g7, g8, g9, g10, g11, g12, g13, g14, g15, g16, g17, g18, g19, g20, g21, g22, g23], _ => rfl
set_option maxRecDepth 100000 in
set_option maxHeartbeats 2000000 in
theorem contract (H : Type) (enc : TypeId × Value → H) (W : World) (base : Nat) (args : Array Value) (ds gs : List (DataW H)) (before : List MemPlace)
    (hval : ∀ (j : Nat) t v, Tryz.f3.params[j]? = some t → args[j]? = some v → Value.okWide Tryz.prog W .any base t v)
    (hW : DataW.Whole enc Tryz.prog Tryz.f3.params.toList Rows.fnRoundSpec.vars false W args.toList ds gs before) (hk : Rows.uptoSmall H (ds ++ gs) = true) (hL : laidMetH Tryz.prog Rows.fnRoundUptoRow.laid W) (hsh : W.ShapedOpen Tryz.prog) :
    Calls Tryz.prog 3 args W fun e W' => ∃ v, e = .returned v ∧ Rows.fnRoundSpec.post enc Tryz.prog Tryz.f3 false true false false W args v W' := by
  have hW' := hW
  obtain ⟨p, q, hA0, hV, rfl, hfz, hnd⟩ := hW
  have hA : DataW.TrodAll enc Tryz.prog W 0 (fun _ => true) true Tryz.f3.params.toList args.toList ds p := hA0
  rw [Tryz.params3] at hA hval
  obtain ⟨v0, vs0, d0, ds0, p0, q0, hargs, rfl, rfl, h0, r0⟩ := trodAll_cons hA
  obtain ⟨v1, vs1, d1, ds1, p1, q1, rfl, rfl, rfl, h1, r1⟩ := trodAll_cons r0
  obtain ⟨rfl, rfl, rfl⟩ := trodAll_nil r1
  obtain rfl : args = #[v0, v1] := by cases args; simp_all
  obtain ⟨comp, rfl, rfl, rfl⟩ := open_bool Tryz.underlying4 (hval 1 4 v1 rfl rfl) h1
  have hok := hval 0 28 v0 rfl rfl
  obtain ⟨c0, rfl, _⟩ : ∃ cs, v0 = .agg cs ∧ True := by
    unfold Value.okWide at hok
    rw [Tryz.underlying28] at hok
    obtain ⟨cs, e, _⟩ := hok
    exact ⟨cs, e, trivial⟩
  have hb : Rows.uptoBulkAll ([d0, DataW.lit (.bool comp)] ++ gs) ≤ 1048576 := of_decide_eq_true hk
  rw [X.bulk_app] at hb
  simp only [Rows.uptoBulkAll] at hb
  obtain ⟨fuel, hf⟩ := h0
  obtain ⟨m, av, ov_, tv, rv, hc, hin, hsm⟩ := X.rd_ms (enc := enc) (W := W) ⟨_, hf, by show Rows.uptoBulk d0 ≤ 1048576; omega⟩
  obtain rfl : c0 = (X.msCells m.head av ov_ tv rv).toArray := by rw [← hc]; simp [Value.cells]
  have hlen := vars_len hV
  have walk := X.fnRound (X.view [] W) (glob7 W hsh hL) m hsm comp av ov_ tv rv hin W (X.St.start W (X.keys [])) (X.View.le.refl _)
  refine walk.mono fun e W' ⟨_, he, _, hst⟩ => ?_
  subst he
  have hbelow : Below W.heap.size W W' := ⟨hst.ext.os, hst.ext.tape, hst.ext.output, hst.ext.size, fun k hk => hst.ext.same k hk (by simp [X.keys])⟩
  have hlt : ∀ x ∈ p0, x.block < W.heap.size := fun x hx => hW'.lt x (by simp [hx])
  have hvars := Below.trodVars laidOut hbelow (ns := Rows.fnRoundSpec.vars) (by kernel_rfl) hV
  have hfn := spec_fn d0 (DataW.lit (.bool comp)) gs hlen
  refine ⟨_, rfl, _, gs, _, [], p0 ++ ([] ++ []), q, hW', ?_, ?_, ?_, hbelow.frame _, fun h => by cases h⟩
  · rw [hfn]; exact trodAll_cons_mk (shut_bool Tryz.underlying4 _) trodAll_mk0
  · rw [hfn]; exact trodAll_cons_mk (Below.trod laidOut (by kernel_rfl) (of_decide_eq_true (by kernel_rfl)) ⟨fuel, hf⟩ hbelow hlt) (trodAll_cons_mk (shut_bool Tryz.underlying4 _) trodAll_mk0)
  · rw [hfn]; exact hvars
noncomputable def args0 : Array Value := #[.agg #[.int .u16 0, .bool false, .int .u16 0, .bool false, .bool false, .bool false, .bool false, .bool false, .bool false, .int .u16 0, .slice none 0 0, .slice none 0 0, .slice none 0 0, .slice none 0 0], .bool false]
theorem door_met (os : Os) (args : Array Value) : laidMetH Tryz.prog Rows.fnRoundUptoRow.laid ((World.doorLaid Tryz.prog 457 os).forCall (fun _ _ => 0) ⟨#[], args, []⟩).memory :=
  laidMetH_of_parts3 (fuel := 8) (laidMet_of_run' 8 (by kernel_rfl) (by kernel_rfl)) (by kernel_rfl) (by kernel_rfl)
set_option maxRecDepth 100000 in
theorem lifted (os : Os) (started : os.Started) (H : Type) (enc : TypeId × Value → H) (F : Stop.Interp) :
    ReturnsInHanded {} Tryz.checked os 3 .any ((Rows.OpenSpec.upto Rows.fnRoundSpec).preRow enc Tryz.prog Tryz.f3 Rows.fnRoundUptoRow.domain false Rows.fnRoundUptoRow.laid) (((Rows.OpenSpec.upto Rows.fnRoundSpec).at F).post enc Tryz.prog Tryz.f3 false true false false) := by
  obtain ⟨x, hx⟩ : ∃ x, DataW.whole enc Tryz.prog ((World.doorLaid Tryz.prog 457 os).forCall (fun _ _ => 0) ⟨#[], args0, []⟩).memory Tryz.f3.params.toList Rows.fnRoundSpec.vars false args0.toList 8 = some x := Option.isSome_iff_exists.1 (by kernel_rfl)
  have hs : (match DataW.whole enc Tryz.prog ((World.doorLaid Tryz.prog 457 os).forCall (fun _ _ => 0) ⟨#[], args0, []⟩).memory Tryz.f3.params.toList Rows.fnRoundSpec.vars false args0.toList 8 with | some x => Rows.uptoSmall H (x.1 ++ x.2.1) | none => false) = true := by kernel_rfl
  rw [hx] at hs
  refine returnsInHanded_of_row (C := Tryz.checked) (s := Rows.OpenSpec.upto Rows.fnRoundSpec) own started (by kernel_rfl) Tryz.func3
    (witness_row_atRef (enc := enc) (C := Tryz.checked) false (World.doorLaid Tryz.prog 457 os) args0 rfl (by kernel_rfl) (by kernel_rfl) (by kernel_rfl)
      (OpenSpec.preRow_of_cond 8 hx rfl (fun k hk => by cases hk; exact hs) (by kernel_rfl) (door_met os _))) ?_
  intro W base args ds gs before hval hW _ hcond _ hL hsh _
  exact contract H enc W base args ds gs before hval hW (hcond _ rfl) hL hsh
theorem said : Rows.FnRoundUptoSaid :=
  OpenClaim.holds_of_cond 3 Tryz.f3 rfl rfl rfl rfl rfl rfl rfl ⟨rfl, rfl, rfl, rfl, rfl⟩ rfl rfl rfl rfl rfl (by kernel_rfl) Tryz.func3 jall
    (of_decide_eq_true (by kernel_rfl)) (by unfold Func.isWrapper; first | (rw [if_pos (by decide +kernel)]; kernel_rfl) | (rw [if_neg (by decide +kernel)]; exact ⟨rfl, rfl⟩))
    (fun os started H enc _ F => by rw [OpenClaim.pre_eq_preRow]; exact lifted os started H enc F)
theorem plain (f : FuncId) (fn : Func) (hf : Tryz.pinned.checked.prog.funcNamed "loop.example/pub-messagesmixed/laws.FnRound" = some f) (hfn : Tryz.pinned.checked.prog.funcs[f]? = some fn) :
    true = Tryz.pinned.checked.prog.looks [] ∧ ∀ (j : Nat) t, fn.params[j]? = some t → Tryz.pinned.checked.prog.wantsStandIn t = false := by
  obtain rfl : f = 3 := Option.some.inj ((show Tryz.prog.funcNamed "loop.example/pub-messagesmixed/laws.FnRound" = some 3 by kernel_rfl).symm.trans hf) |>.symm
  obtain rfl : fn = Tryz.f3 := (Option.some.inj (Tryz.func3.symm.trans hfn)).symm
  refine ⟨by kernel_rfl, fun j t ht => ?_⟩
  rw [Tryz.params3] at ht
  have : t = 28 ∨ t = 4 := by simpa using Array.mem_of_getElem? ht
  rcases this with rfl | rfl
  · exact (show Tryz.prog.wantsStandIn 28 = false by kernel_rfl)
  · exact (show Tryz.prog.wantsStandIn 4 = false by kernel_rfl)
/-- The card. -/
theorem cardUpto : Rows.FnRoundUptoCardSaid :=
  Claim7.holds_tied_plain_at .later [] _ _ _ _ said (fun _ h => by cases h) (by kernel_rfl) (fun _ h => by cases h) fnRoundUpto_row_tie rfl ⟨rfl, rfl⟩ (by kernel_rfl) rfl plain (by kernel_rfl)
end lawRound
end Go.Proofs.YtifnodoffgfpbaaGreatDoor
