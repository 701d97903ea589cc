/- FnExactBounds: called with any finder, the exact law of Bounds returns true (the thin package's bounds are the reference's in every field), it always returns, and its argument and everything else in memory are as they were. No condition: any seven ints. -/
import Derived.Test.YtkdaofjcdjjhlaaCallsD
import Derived.Test.YtkdaofjcdjjhlaaAgg
import Derived.ProofKit
import Derived.ChangeSame
import Derived.Below
namespace Go.Proofs.Ytkdaofjcdjjhlaa
open Go.ChangeShapes Go.WideShapes Go.ChangeAt Go.RowKit Go.Joins

theorem Try.own : ownKnob Try.prog.godebug = none := by kernel_rfl
theorem Try.laidOut : laidOutB Try.prog = true := by kernel_rfl
theorem Try.cells23 : Try.prog.cellsOf 23 = 7 := by kernel_rfl
theorem Try.cells3 : Try.prog.cellsOf 3 = 1 := by kernel_rfl

section
variable {H : Type} {enc : TypeId × Value → H} {P : Program}
theorem post_of_below {f : Func} {s : ChangeSpec} {apart fresh handsOn again : Bool} {W W' : World} {args : Array Value} {v : Value} {ds gs : List (DataW H)} {before pa pv : List MemPlace}
    (hW : DataW.Whole enc P f.params.toList s.vars apart W args.toList ds gs before)
    (hres : ∀ (b : Nat) (sp : Nat → Bool) (hd : Bool), DataW.TrodAll enc P W' b sp hd f.resultTypes.toList (v.resultList f.resultTypes.size) (s.fn H (ds ++ gs)).results [])
    (hargs : ∀ sp : Nat → Bool, (∀ p ∈ before, sp p.block = true) → DataW.TrodAll enc P W' 0 sp true f.params.toList args.toList (s.fn H (ds ++ gs)).args pa)
    (hvars : ∀ sp : Nat → Bool, (∀ p ∈ before, sp p.block = true) → DataW.TrodVars enc P W' sp s.vars (s.fn H (ds ++ gs)).vars pv)
    (hps : before = pa ++ pv) (hb : Below W.heap.size W W')
    (hok : ∀ (j : Nat) (t : TypeId) (r : Value), f.resultTypes[j]? = some t → (v.resultList f.resultTypes.size)[j]? = some r → Value.okWide P W' .any 0 t r) :
    s.post enc P f apart fresh handsOn again W args v W' := by
  have hlt : ∀ p ∈ before, p.block < W.heap.size := fun p hp => hW.lt p hp
  have hold : ∀ p ∈ before, (fun b => decide (b < W.heap.size)) p.block = true := fun p hp => by simpa using hlt p hp
  refine ⟨ds, gs, before, [], pa, pv, hW, hres _ _ _, hargs _ hold, hvars _ hold, World.keptBut_mono (fun p hp => ⟨hp, ?_⟩) (hb.frame (· ∈ before)), fun _ => ?_⟩
  · rw [hps, List.mem_append] at hp
    exact Or.inr hp
  · obtain ⟨_, _, _, _, _, hz, hn⟩ := hW
    refine ⟨hok, _, _, ([] ++ pa) ++ pv, ⟨[] ++ pa, pv, trodAll_append (hargs _ (fun _ _ => rfl)) (hres _ _ _), hvars _ (fun _ _ => rfl), rfl, ?_, ?_⟩, ?_⟩
    · intro b off hp
      have hin : MemPlace.cell b off ∈ before := by rw [hps]; simpa using hp
      rw [hb.frozen (hlt _ hin)]
      exact hz b off hin
    · intro ha
      have := hn ha
      rw [hps] at this
      simpa using this
    · intro p hp _
      rw [hps]
      simpa using hp
end

/-- Seven ints, handed over as one struct, read as data in whatever memory. -/
theorem finder_reads {H : Type} (enc : TypeId × Value → H) (a0 a1 a2 a3 a4 a5 a6 : Int) (w0 : (Lit.int .i64 a0).wf = true) (w1 : (Lit.int .i64 a1).wf = true) (w2 : (Lit.int .i64 a2).wf = true) (w3 : (Lit.int .i64 a3).wf = true) (w4 : (Lit.int .i64 a4).wf = true) (w5 : (Lit.int .i64 a5).wf = true) (w6 : (Lit.int .i64 a6).wf = true) (W' : World) (sp : Nat → Bool) :
    DataW.Trod enc Try.prog W' 0 sp true 23 (.agg #[.int .i64 a0, .int .i64 a1, .int .i64 a2, .int .i64 a3, .int .i64 a4, .int .i64 a5, .int .i64 a6]) (.agg [.lit (.int .i64 a0), .lit (.int .i64 a1), .lit (.int .i64 a2), .lit (.int .i64 a3), .lit (.int .i64 a4), .lit (.int .i64 a5), .lit (.int .i64 a6)]) [] := by
  refine ⟨_, trod_struct_mk (n := 1) (cs := [.int .i64 a0, .int .i64 a1, .int .i64 a2, .int .i64 a3, .int .i64 a4, .int .i64 a5, .int .i64 a6]) (xs := [(.lit (.int .i64 a0), []), (.lit (.int .i64 a1), []), (.lit (.int .i64 a2), []), (.lit (.int .i64 a3), []), (.lit (.int .i64 a4), []), (.lit (.int .i64 a5), []), (.lit (.int .i64 a6), [])]) Try.underlying23 (by simp [Try.cells23]) ?_⟩
  simp [DataW.trod, Try.underlying3, Try.cells3, w0, w1, w2, w3, w4, w5, w6]

set_option maxRecDepth 100000 in
theorem bounds_lifted (os : Os) (started : os.Started) (H : Type) (enc : TypeId × Value → H) :
    ReturnsInHanded {} Try.checked os 3 .any (Rows.fnExactBoundsSpec.pre6 enc Try.prog Try.f3 Rows.fnExactBoundsRow.domain false) (Rows.fnExactBoundsSpec.post enc Try.prog Try.f3 false true false false) := by
  refine returnsInHanded_of_change (C := Try.checked) Try.own started (by kernel_rfl) Try.func3
    (ChangeSpec.witness6 (enc := enc) (C := Try.checked) false ⟨#[], #[.agg #[.int .i64 0, .int .i64 0, .int .i64 0, .int .i64 0, .int .i64 0, .int .i64 0, .int .i64 0]], []⟩ 8 (by kernel_rfl) (by kernel_rfl) (by kernel_rfl) (by kernel_rfl)) ?_
  intro W base args ds gs before hval0 hW _ _
  have hval : ∀ (j : Nat) t v, Try.f3.params[j]? = some t → args[j]? = some v → Value.okWide Try.prog W .any base t v := hval0
  have hW' := hW
  obtain ⟨p, q, hA0, hV, rfl, _, _⟩ := hW
  have hA : DataW.TrodAll enc Try.prog W 0 (fun _ => true) true Try.f3.params.toList args.toList ds p := hA0
  rw [Try.params3] at hA hval
  obtain ⟨v0, d0, rfl, rfl, h0⟩ := trodAll_one hA
  obtain ⟨rfl, rfl⟩ := trodVars_none hV
  obtain ⟨c0, c1, c2, c3, c4, c5, c6, y0, y1, y2, y3, y4, y5, y6, m, rfl, rfl, rfl, hy0, hy1, hy2, hy3, hy4, hy5, hy6⟩ := open_agg7 Try.underlying23 (by kernel_rfl) Try.cells23 (hval 0 23 v0 rfl rfl) h0
  obtain ⟨a0, e0, rfl, w0⟩ := DataW.trod_int Try.underlying3 hy0
  obtain ⟨a1, e1, rfl, w1⟩ := DataW.trod_int Try.underlying3 hy1
  obtain ⟨a2, e2, rfl, w2⟩ := DataW.trod_int Try.underlying3 hy2
  obtain ⟨a3, e3, rfl, w3⟩ := DataW.trod_int Try.underlying3 hy3
  obtain ⟨a4, e4, rfl, w4⟩ := DataW.trod_int Try.underlying3 hy4
  obtain ⟨a5, e5, rfl, w5⟩ := DataW.trod_int Try.underlying3 hy5
  obtain ⟨a6, e6, rfl, w6⟩ := DataW.trod_int Try.underlying3 hy6
  simp at e0 e1 e2 e3 e4 e5 e6
  subst e0 e1 e2 e3 e4 e5 e6
  clear hA0 hval0 hy0 hy1 hy2 hy3 hy4 hy5 hy6
  simp only [List.append_nil] at hW'
  refine (law_any a0 a1 a2 a3 a4 a5 a6 W).mono fun e W' ⟨he, hb⟩ => ?_
  subst he
  exact ⟨_, rfl, post_of_below (pa := []) (pv := []) hW' (fun _ _ _ => trodAll_mk1 (shut_bool Try.underlying4 true)) (fun sp _ => trodAll_mk1 (finder_reads enc a0 a1 a2 a3 a4 a5 a6 w0 w1 w2 w3 w4 w5 w6 W' sp)) (fun _ _ => rfl) rfl
    hb (ok_one (by kernel_rfl) rfl (okWide_bool_mk Try.underlying4 true))⟩

theorem bounds_holds : Rows.FnExactBoundsSaid :=
  OpenClaim.holds_of_wide 3 Try.f3 rfl rfl rfl rfl rfl rfl rfl ⟨rfl, rfl, rfl, rfl, rfl⟩ rfl rfl rfl rfl rfl (by kernel_rfl) Try.func3 (by kernel_rfl)
    (of_decide_eq_true (by kernel_rfl)) (by unfold Func.isWrapper; first | (rw [if_pos (by decide +kernel)]; kernel_rfl) | (rw [if_neg (by decide +kernel)]; exact ⟨rfl, rfl⟩))
    (fun os started H enc _ => bounds_lifted os started H enc)

#print axioms bounds_holds
end Go.Proofs.Ytkdaofjcdjjhlaa
