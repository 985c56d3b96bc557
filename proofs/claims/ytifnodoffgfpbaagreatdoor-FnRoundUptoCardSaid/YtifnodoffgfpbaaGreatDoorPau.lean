/- Texts S10, S11. Contracts: whole messages as bytes; what the reference asks of types and of labels. -/
import Derived.Test.YtifnodoffgfpbaaGreatDoorPat
namespace Go.Proofs.YtifnodoffgfpbaaGreatDoor
open Go
namespace X
theorem secs_at {h : View} {m : Ms} {av ov_ tv rv : Value} (hx : MsIn h m av ov_ tv rv) {i : Nat} (hi : i < 3) : ∃ sv sa sc, nth [ov_, tv, rv] i = some sv ∧ sv = .slice sa (secs m i).length sc ∧ SlR h sv (secs m i) := by
  match i, hi with
  | 0, _ => obtain ⟨a, c, e, _⟩ := hx.one.shape; exact ⟨_, a, c, rfl, e, hx.one⟩
  | 1, _ => obtain ⟨a, c, e, _⟩ := hx.two.shape; exact ⟨_, a, c, rfl, e, hx.two⟩
  | 2, _ => obtain ⟨a, c, e, _⟩ := hx.three.shape; exact ⟨_, a, c, rfl, e, hx.three⟩
theorem secs_len {m : Ms} (hm : m.Sm) (i : Nat) : (secs m i).length ≤ 1048576 := by
  unfold secs
  split
  · exact hm.onen
  · exact hm.twon
  · exact hm.threen
theorem secs_sm {m : Ms} (hm : m.Sm) {i : Nat} {r : Rc} (hr : r ∈ secs m i) : r.Sm := by
  unfold secs at hr
  split at hr
  · exact hm.one r hr
  · exact hm.two r hr
  · exact hm.three r hr
theorem upR {m : Ms} {Q : Rc → Prop} {i : Nat} (h : ∀ i' r, i' < i → r ∈ secs m i' → Q r) (h2 : ∀ j r, j < (secs m i).length → nth (secs m i) j = some r → Q r) : ∀ i' r, i' < i + 1 → r ∈ secs m i' → Q r := fun i' r hi hr => by
  rcases Nat.lt_or_ge i' i with h3 | h3
  · exact h i' r h3 hr
  · have : i' = i := by omega
    subst this
    obtain ⟨j, hj⟩ := List.getElem?_of_mem hr
    exact h2 j r (List.getElem?_eq_some_iff.1 hj).1 (by rw [nth_eq]; exact hj)
theorem nxR {α : Type} {l : List α} {Q : α → Prop} {j : Nat} {r : α} (h : ∀ j' r, j' < j → nth l j' = some r → Q r) (hr : nth l j = some r) (hq : Q r) : ∀ j' r, j' < j + 1 → nth l j' = some r → Q r := fun j' r' hj hr' => by
  rcases Nat.lt_or_ge j' j with h3 | h3
  · exact h j' r' h3 hr'
  · have : j' = j := by omega
    subst this
    rw [hr] at hr'
    simp only [Option.some.injEq] at hr'
    subst hr'; exact hq
theorem all_mem {α : Type} {l : List α} {Q : α → Prop} (h : ∀ j r, j < l.length → nth l j = some r → Q r) : ∀ r ∈ l, Q r := fun r hr => by
  obtain ⟨j, hj⟩ := List.getElem?_of_mem hr
  exact h j r (List.getElem?_eq_some_iff.1 hj).1 (by rw [nth_eq]; exact hj)
theorem el53 : Elem Tryz.prog 53 32 1 24 := elem_of (by kernel_rfl)
theorem el200 : Elem Tryz.prog 200 3 1 8 := elem_of (by kernel_rfl)
/-- Where the reference's guard on types holds. -/
abbrev PlOk (r : Rc) : Prop := r.kind = 13 → r.typ ∉ [1, 2, 5, 6, 12, 15, 16, 28, 33, 41, 64, 65]
theorem plainlyC (h : View) (m : Ms) (hm : m.Sm) (av ov_ tv rv : Value) (hx : MsIn h m av ov_ tv rv) : GCt 7 [.agg (msCells m.head av ov_ tv rv).toArray] h (∀ i r, i < 3 → r ∈ secs m i → PlOk r) := by
  intro w hS hh
  obtain ⟨o0, o1, o2, o3⟩ := hx.shapes
  refine calls_of_T (m := 36) Tryz.func7 rfl rfl (by simp) hS ?_
  repeat (first | refine za rfl rfl ?_ | refine zb rfl ?_ | refine zc rfl ?_)
  refine TL.box (cs := msCells m.head av ov_ tv rv) rfl rfl rfl rfl (fun xb => ?_)
  repeat (first | refine za rfl rfl ?_ | refine zb rfl ?_ | refine zc rfl ?_)
  refine TL.ld 0 szk rfl rfl rfl rfl rfl rfl ?_
  repeat (first | refine za rfl rfl ?_ | refine zb rfl ?_ | refine zc rfl ?_)
  refine TL.ld 0 szk rfl rfl rfl rfl rfl rfl ?_
  repeat (first | refine za rfl rfl ?_ | refine zb rfl ?_ | refine zc rfl ?_)
  refine TL.ld 0 szk rfl rfl rfl rfl rfl rfl ?_
  refine TL.bs (vs := [ov_, tv, rv]) el53 rfl rfl (by intro v hv; simp at hv; rcases hv with rfl | rfl | rfl <;> assumption) (by simp) rfl rfl (fun sb => ?_)
  repeat (first | refine za rfl rfl ?_ | refine zb rfl ?_ | refine zc rfl ?_)
  refine T.loop (α := Nat) (fun i => [(13, .slice (some ⟨sb, 0, none⟩) 3 3), (14, .int .i64 3), (15, .int .i64 (i : Int))])
    (fun i w' => (i ≤ 3 ∧ ∀ i' r, i' < i → r ∈ secs m i' → PlOk r) ∧ St (keys []) w [(sb, .row [ov_, tv, rv] 32), (xb, .row (msCells m.head av ov_ tv rv) 34)] w')
    (fun i => 3 - i) 0 ⟨rfl, rfl, rfl, trivial⟩ (fun w' hA => ⟨⟨Nat.zero_le _, fun _ _ h => absurd h (Nat.not_lt_zero _)⟩, hA⟩) ?_
  intro i ih
  refine T.and fun ⟨hi, hall⟩ => ?_
  repeat (first | refine za rfl rfl ?_ | refine zb rfl ?_ | refine zc rfl ?_)
  by_cases hlt : i < 3
  case neg =>
    refine T.condF rfl (by simp; omega) ?_
    have hi3 : i = 3 := by omega
    subst hi3
    repeat (first | refine za rfl rfl ?_ | refine zb rfl ?_ | refine zc rfl ?_)
    exact T.ret Tryz.func7 rfl (fun w' hA => ⟨true, rfl, fun _ => hall, hA.sub (by simp)⟩)
  case pos =>
  refine T.condT rfl (by simp; omega) ?_
  obtain ⟨sv, sa, sc, hsv, hss, hsl⟩ := secs_at hx hlt
  subst hss
  have hsn := secs_len hm i
  repeat (first | refine za rfl rfl ?_ | refine zb rfl ?_ | refine zc rfl ?_)
  refine TL.ix (j := i) tbk rfl rfl rfl rfl rfl rfl hlt ?_
  refine TL.ld 0 szk rfl rfl rfl (by rw [show 0 + i * 1 = i by omega]; exact hsv) rfl rfl ?_
  repeat (first | refine za rfl rfl ?_ | refine zb rfl ?_ | refine zc rfl ?_)
  refine T.loop (α := Nat) (fun j => [(13, .slice (some ⟨sb, 0, none⟩) 3 3), (14, .int .i64 3), (15, .int .i64 (i : Int)), (19, .slice sa (secs m i).length sc), (20, .int .i64 ((secs m i).length : Int)), (21, .int .i64 (j : Int))])
    (fun j w' => (j ≤ (secs m i).length ∧ ∀ j' r, j' < j → nth (secs m i) j' = some r → PlOk r) ∧ St (keys []) w [(sb, .row [ov_, tv, rv] 32), (xb, .row (msCells m.head av ov_ tv rv) 34)] w')
    (fun j => (secs m i).length - j) 0 ⟨rfl, rfl, rfl, rfl, rfl, rfl, trivial⟩ (fun w' hA => ⟨⟨Nat.zero_le _, fun _ _ h => absurd h (Nat.not_lt_zero _)⟩, hA⟩) ?_
  intro j ih2
  refine T.and fun ⟨hj, hall2⟩ => ?_
  repeat (first | refine za rfl rfl ?_ | refine zb rfl ?_ | refine zc rfl ?_)
  by_cases hjl : j < (secs m i).length
  · refine T.condT rfl (by simpa using hjl) ?_
    obtain ⟨r, hr⟩ := nth_lt hjl
    obtain ⟨b, o, cap', cs, hv, _, _, hrs, dv, tv', pv, hcs, hd, ht, hp⟩ := hsl.at hr
    injection hv with hv1 _ hv3
    subst hv1 hv3 hcs
    have hrv : RcV h r dv tv' pv := ⟨hd, ht, hp⟩
    obtain ⟨q1, q2, q3⟩ := hrv.shapes
    have hrm := secs_sm hm (nth_mem hr)
    repeat (first | refine za rfl rfl ?_ | refine zb rfl ?_ | refine zc rfl ?_)
    refine TL.ix (j := j) tbk rfl rfl rfl rfl rfl rfl hjl ?_
    refine TL.ldRA (hrs.mono hh) szk rfl rfl (rcCells_len _ _ _ _) rfl rfl ?_
    refine TL.allocZ 16 Tryz.zeroValue58 rfl rfl rfl (fun lb zs hz => ?_)
    refine TL.stW (vs := rcCells r dv tv' pv) 0 szk rfl rfl rfl rfl rfl hz (rcCells_one q1 q2 q3) ?_
    repeat (first | refine za rfl rfl ?_ | refine zb rfl ?_ | refine zc rfl ?_)
    refine TL.ld 0 szk rfl rfl rfl rfl rfl rfl ?_
    repeat (first | refine za rfl rfl ?_ | refine zb rfl ?_ | refine zc rfl ?_)
    by_cases h13 : r.kind = 13
    · rw [show (r.kind == 13) = true by rw [h13]; rfl]
      repeat (first | refine za rfl rfl ?_ | refine zb rfl ?_ | refine zc rfl ?_)
      refine TL.ld 0 szk rfl rfl rfl rfl rfl rfl ?_
      refine TL.call0 Tryz.call19 rfl rfl rfl (kindOfC h r.typ) (fun w' hA => vle hA hh) (fun y => TL.and fun hy => ?_)
      repeat (first | refine za rfl rfl ?_ | refine zb rfl ?_ | refine zc rfl ?_)
      by_cases hy13 : y = 13
      · refine T.condF rfl (by simp; omega) ?_
        repeat (first | refine za rfl rfl ?_ | refine zb rfl ?_ | refine zc rfl ?_)
        rw [add1_i64 (a := j) (by omega)]
        exact T.again ih2 (j + 1) (by omega) ⟨rfl, rfl, rfl, rfl, rfl, rfl, trivial⟩ (fun w' hA => ⟨⟨hjl, nxR hall2 hr (fun _ => hy hy13)⟩, hA.sub (List.Sublist.cons _ (List.Sublist.refl _))⟩)
      · refine T.condT rfl (by simp; omega) ?_
        repeat (first | refine za rfl rfl ?_ | refine zb rfl ?_ | refine zc rfl ?_)
        exact T.ret Tryz.func7 rfl (fun w' hA => ⟨false, rfl, fun e => Bool.noConfusion e, hA.sub (by simp)⟩)
    · rw [show (r.kind == 13) = false by simpa using h13]
      repeat (first | refine za rfl rfl ?_ | refine zb rfl ?_ | refine zc rfl ?_)
      refine T.condF rfl rfl ?_
      repeat (first | refine za rfl rfl ?_ | refine zb rfl ?_ | refine zc rfl ?_)
      rw [add1_i64 (a := j) (by omega)]
      exact T.again ih2 (j + 1) (by omega) ⟨rfl, rfl, rfl, rfl, rfl, rfl, trivial⟩ (fun w' hA => ⟨⟨hjl, nxR hall2 hr (fun e => absurd e h13)⟩, hA.sub (List.Sublist.cons _ (List.Sublist.refl _))⟩)
  refine T.condF rfl (by simpa using hjl) ?_
  have hjq : j = (secs m i).length := by omega
  subst hjq
  repeat (first | refine za rfl rfl ?_ | refine zb rfl ?_ | refine zc rfl ?_)
  rw [add1_i64 (a := i) (by omega)]
  exact T.again ih (i + 1) (by omega) ⟨rfl, rfl, rfl, trivial⟩ (fun w' hA => ⟨⟨hlt, upR hall hall2⟩, hA⟩)
/-- Where the reference's guard on labels holds. -/
abbrev ShOk (r : Rc) : Prop := nlab (r.name.drop 1) ≤ 10 ∧ nlab (r.host.drop 1) ≤ 10 ∧ nlab (r.box.drop 1) ≤ 10
theorem shallowC (h : View) (m : Ms) (hm : m.Sm) (av ov_ tv rv : Value) (hx : MsIn h m av ov_ tv rv) : GCt 8 [.agg (msCells m.head av ov_ tv rv).toArray] h ((∀ a ∈ m.asks, nlab (a.name.drop 1) ≤ 10) ∧ ∀ i r, i < 3 → r ∈ secs m i → ShOk r) := by
  intro w hS hh
  obtain ⟨o0, o1, o2, o3⟩ := hx.shapes
  refine calls_of_T (m := 57) Tryz.func8 rfl rfl (by simp) hS ?_
  repeat (first | refine za rfl rfl ?_ | refine zb rfl ?_ | refine zc rfl ?_)
  refine TL.box (cs := msCells m.head av ov_ tv rv) rfl rfl rfl rfl (fun xb => ?_)
  repeat (first | refine za rfl rfl ?_ | refine zb rfl ?_ | refine zc rfl ?_)
  refine TL.ld 0 szk rfl rfl rfl rfl rfl rfl ?_
  obtain ⟨aa, ac, has, _⟩ := hx.asks.shape
  subst has
  have hxa := hx.asks
  have hn := hm.askn
  repeat (first | refine za rfl rfl ?_ | refine zb rfl ?_ | refine zc rfl ?_)
  refine T.loop (α := Nat) (fun j => [(1, ptr xb 0), (10, .slice aa m.asks.length ac), (11, .int .i64 (m.asks.length : Int)), (12, .int .i64 (j : Int))])
    (fun j w' => (j ≤ m.asks.length ∧ ∀ j' a, j' < j → nth m.asks j' = some a → nlab (a.name.drop 1) ≤ 10) ∧ St (keys []) w [(xb, .row (msCells m.head (.slice aa m.asks.length ac) ov_ tv rv) 34)] w')
    (fun j => m.asks.length - j) 0 ⟨rfl, rfl, rfl, rfl, trivial⟩ (fun w' hA => ⟨⟨Nat.zero_le _, fun _ _ h => absurd h (Nat.not_lt_zero _)⟩, hA⟩) ?_
  intro j ih
  refine T.and fun ⟨hj, hall⟩ => ?_
  repeat (first | refine za rfl rfl ?_ | refine zb rfl ?_ | refine zc rfl ?_)
  by_cases hjl : j < m.asks.length
  · refine T.condT rfl (by simpa using hjl) ?_
    obtain ⟨a, hr⟩ := nth_lt hjl
    obtain ⟨b, o, cap', cs, hv, _, _, hrs, hcs⟩ := hxa.at hr
    injection hv with hv1 _ hv3
    subst hv1 hv3 hcs
    have ha := hm.ask a (nth_mem hr)
    repeat (first | refine za rfl rfl ?_ | refine zb rfl ?_ | refine zc rfl ?_)
    refine TL.ix (j := j) tbk rfl rfl rfl rfl rfl rfl hjl ?_
    refine TL.ldRA (hrs.mono hh) szk rfl rfl rfl rfl rfl ?_
    refine TL.allocZ 3 Tryz.zeroValue52 rfl rfl rfl (fun lb zs hz => ?_)
    refine TL.stW (vs := akC a) 0 szk rfl rfl rfl rfl rfl hz (by simp [akC, Value.oneCell', str]) ?_
    repeat (first | refine za rfl rfl ?_ | refine zb rfl ?_ | refine zc rfl ?_)
    refine TL.ld 0 szk rfl rfl rfl rfl rfl rfl ?_
    refine TL.call0 Tryz.call20 rfl rfl rfl (labelsC h a.name ha.name) (fun w' hA => vle hA hh) (fun _ => TL.and fun _ => ?_)
    repeat (first | refine za rfl rfl ?_ | refine zb rfl ?_ | refine zc rfl ?_)
    by_cases h10 : nlab (a.name.drop 1) ≤ 10
    · refine T.condF rfl (by simp at h10 ⊢; omega) ?_
      repeat (first | refine za rfl rfl ?_ | refine zb rfl ?_ | refine zc rfl ?_)
      rw [add1_i64 (a := j) (by omega)]
      exact T.again ih (j + 1) (by omega) ⟨rfl, rfl, rfl, rfl, trivial⟩ (fun w' hA => ⟨⟨hjl, nxR hall hr (h10)⟩, hA.sub (List.Sublist.cons _ (List.Sublist.refl _))⟩)
    · refine T.condT rfl (by simp at h10 ⊢; omega) ?_
      repeat (first | refine za rfl rfl ?_ | refine zb rfl ?_ | refine zc rfl ?_)
      exact T.ret Tryz.func8 rfl (fun w' hA => ⟨false, rfl, fun e => Bool.noConfusion e, hA.sub (by simp)⟩)
  refine T.condF rfl (by simpa using hjl) ?_
  have hjq : j = m.asks.length := by omega
  subst hjq
  have hasks := all_mem hall
  clear ih hall
  generalize hAV : Value.slice aa m.asks.length ac = av at *
  repeat (first | refine za rfl rfl ?_ | refine zb rfl ?_ | refine zc rfl ?_)
  refine TL.ld 0 szk rfl rfl rfl rfl rfl rfl ?_
  repeat (first | refine za rfl rfl ?_ | refine zb rfl ?_ | refine zc rfl ?_)
  refine TL.ld 0 szk rfl rfl rfl rfl rfl rfl ?_
  repeat (first | refine za rfl rfl ?_ | refine zb rfl ?_ | refine zc rfl ?_)
  refine TL.ld 0 szk rfl rfl rfl rfl rfl rfl ?_
  refine TL.bs (vs := [ov_, tv, rv]) el53 rfl rfl (by intro v hv; simp at hv; rcases hv with rfl | rfl | rfl <;> assumption) (by simp) rfl rfl (fun sb => ?_)
  repeat (first | refine za rfl rfl ?_ | refine zb rfl ?_ | refine zc rfl ?_)
  refine T.loop (α := Nat) (fun i => [(27, .slice (some ⟨sb, 0, none⟩) 3 3), (28, .int .i64 3), (29, .int .i64 (i : Int))])
    (fun i w' => (i ≤ 3 ∧ ∀ i' r, i' < i → r ∈ secs m i' → ShOk r) ∧ St (keys []) w [(sb, .row [ov_, tv, rv] 32), (xb, .row (msCells m.head av ov_ tv rv) 34)] w')
    (fun i => 3 - i) 0 ⟨rfl, rfl, rfl, trivial⟩ (fun w' hA => ⟨⟨Nat.zero_le _, fun _ _ h => absurd h (Nat.not_lt_zero _)⟩, hA⟩) ?_
  intro i ih
  refine T.and fun ⟨hi, hall⟩ => ?_
  repeat (first | refine za rfl rfl ?_ | refine zb rfl ?_ | refine zc rfl ?_)
  by_cases hlt : i < 3
  case neg =>
    refine T.condF rfl (by simp; omega) ?_
    have hi3 : i = 3 := by omega
    subst hi3
    repeat (first | refine za rfl rfl ?_ | refine zb rfl ?_ | refine zc rfl ?_)
    exact T.ret Tryz.func8 rfl (fun w' hA => ⟨true, rfl, fun _ => ⟨hasks, hall⟩, hA.sub (by simp)⟩)
  case pos =>
  refine T.condT rfl (by simp; omega) ?_
  obtain ⟨sv, sa, sc, hsv, hss, hsl⟩ := secs_at hx hlt
  subst hss
  have hsn := secs_len hm i
  repeat (first | refine za rfl rfl ?_ | refine zb rfl ?_ | refine zc rfl ?_)
  refine TL.ix (j := i) tbk rfl rfl rfl rfl rfl rfl hlt ?_
  refine TL.ld 0 szk rfl rfl rfl (by rw [show 0 + i * 1 = i by omega]; exact hsv) rfl rfl ?_
  repeat (first | refine za rfl rfl ?_ | refine zb rfl ?_ | refine zc rfl ?_)
  refine T.loop (α := Nat) (fun j => [(27, .slice (some ⟨sb, 0, none⟩) 3 3), (28, .int .i64 3), (29, .int .i64 (i : Int)), (33, .slice sa (secs m i).length sc), (34, .int .i64 ((secs m i).length : Int)), (35, .int .i64 (j : Int))])
    (fun j w' => (j ≤ (secs m i).length ∧ ∀ j' r, j' < j → nth (secs m i) j' = some r → ShOk r) ∧ St (keys []) w [(sb, .row [ov_, tv, rv] 32), (xb, .row (msCells m.head av ov_ tv rv) 34)] w')
    (fun j => (secs m i).length - j) 0 ⟨rfl, rfl, rfl, rfl, rfl, rfl, trivial⟩ (fun w' hA => ⟨⟨Nat.zero_le _, fun _ _ h => absurd h (Nat.not_lt_zero _)⟩, hA⟩) ?_
  intro j ih2
  refine T.and fun ⟨hj, hall2⟩ => ?_
  repeat (first | refine za rfl rfl ?_ | refine zb rfl ?_ | refine zc rfl ?_)
  by_cases hjl : j < (secs m i).length
  · refine T.condT rfl (by simpa using hjl) ?_
    obtain ⟨r, hr⟩ := nth_lt hjl
    obtain ⟨b, o, cap', cs, hv, _, _, hrs, dv, tv', pv, hcs, hd, ht, hp⟩ := hsl.at hr
    injection hv with hv1 _ hv3
    subst hv1 hv3 hcs
    have hrv : RcV h r dv tv' pv := ⟨hd, ht, hp⟩
    obtain ⟨q1, q2, q3⟩ := hrv.shapes
    have hrm := secs_sm hm (nth_mem hr)
    repeat (first | refine za rfl rfl ?_ | refine zb rfl ?_ | refine zc rfl ?_)
    refine TL.ix (j := j) tbk rfl rfl rfl rfl rfl rfl hjl ?_
    refine TL.ldRA (hrs.mono hh) szk rfl rfl (rcCells_len _ _ _ _) rfl rfl ?_
    refine TL.allocZ 16 Tryz.zeroValue58 rfl rfl rfl (fun lb zs hz => ?_)
    refine TL.stW (vs := rcCells r dv tv' pv) 0 szk rfl rfl rfl rfl rfl hz (rcCells_one q1 q2 q3) ?_
    repeat (first | refine za rfl rfl ?_ | refine zb rfl ?_ | refine zc rfl ?_)
    refine TL.ld 0 szk rfl rfl rfl rfl rfl rfl ?_
    refine TL.call0 Tryz.call20 rfl rfl rfl (labelsC h r.name hrm.name) (fun w' hA => vle hA hh) (fun _ => TL.and fun _ => ?_)
    repeat (first | refine za rfl rfl ?_ | refine zb rfl ?_ | refine zc rfl ?_)
    by_cases n1 : nlab (r.name.drop 1) ≤ 10
    · rw [show (decide (((nlab (r.name.drop 1) : Nat) : Int) > 10)) = false by simp at n1 ⊢; omega]
      repeat (first | refine za rfl rfl ?_ | refine zb rfl ?_ | refine zc rfl ?_)
      refine TL.ld 0 szk rfl rfl rfl rfl rfl rfl ?_
      refine TL.call0 Tryz.call20 rfl rfl rfl (labelsC h r.host hrm.host) (fun w' hA => vle hA hh) (fun _ => TL.and fun _ => ?_)
      repeat (first | refine za rfl rfl ?_ | refine zb rfl ?_ | refine zc rfl ?_)
      by_cases n2 : nlab (r.host.drop 1) ≤ 10
      · rw [show (decide (((nlab (r.host.drop 1) : Nat) : Int) > 10)) = false by simp at n2 ⊢; omega]
        repeat (first | refine za rfl rfl ?_ | refine zb rfl ?_ | refine zc rfl ?_)
        refine TL.ld 0 szk rfl rfl rfl rfl rfl rfl ?_
        refine TL.call0 Tryz.call20 rfl rfl rfl (labelsC h r.box hrm.box) (fun w' hA => vle hA hh) (fun _ => TL.and fun _ => ?_)
        repeat (first | refine za rfl rfl ?_ | refine zb rfl ?_ | refine zc rfl ?_)
        by_cases n3 : nlab (r.box.drop 1) ≤ 10
        · refine T.condF rfl (by simp at n3 ⊢; omega) ?_
          repeat (first | refine za rfl rfl ?_ | refine zb rfl ?_ | refine zc rfl ?_)
          rw [add1_i64 (a := j) (by omega)]
          exact T.again ih2 (j + 1) (by omega) ⟨rfl, rfl, rfl, rfl, rfl, rfl, trivial⟩ (fun w' hA => ⟨⟨hjl, nxR hall2 hr (⟨n1, n2, n3⟩)⟩, hA.sub (List.Sublist.cons _ (List.Sublist.refl _))⟩)
        · refine T.condT rfl (by simp at n3 ⊢; omega) ?_
          repeat (first | refine za rfl rfl ?_ | refine zb rfl ?_ | refine zc rfl ?_)
          exact T.ret Tryz.func8 rfl (fun w' hA => ⟨false, rfl, fun e => Bool.noConfusion e, hA.sub (by simp)⟩)
      · rw [show (decide (((nlab (r.host.drop 1) : Nat) : Int) > 10)) = true by simp at n2 ⊢; omega]
        repeat (first | refine za rfl rfl ?_ | refine zb rfl ?_ | refine zc rfl ?_)
        refine T.condT rfl rfl ?_
        repeat (first | refine za rfl rfl ?_ | refine zb rfl ?_ | refine zc rfl ?_)
        exact T.ret Tryz.func8 rfl (fun w' hA => ⟨false, rfl, fun e => Bool.noConfusion e, hA.sub (by simp)⟩)
    · rw [show (decide (((nlab (r.name.drop 1) : Nat) : Int) > 10)) = true by simp at n1 ⊢; omega]
      repeat (first | refine za rfl rfl ?_ | refine zb rfl ?_ | refine zc rfl ?_)
      refine T.condT rfl rfl ?_
      repeat (first | refine za rfl rfl ?_ | refine zb rfl ?_ | refine zc rfl ?_)
      exact T.ret Tryz.func8 rfl (fun w' hA => ⟨false, rfl, fun e => Bool.noConfusion e, hA.sub (by simp)⟩)
  refine T.condF rfl (by simpa using hjl) ?_
  have hjq : j = (secs m i).length := by omega
  subst hjq
  repeat (first | refine za rfl rfl ?_ | refine zb rfl ?_ | refine zc rfl ?_)
  rw [add1_i64 (a := i) (by omega)]
  exact T.again ih (i + 1) (by omega) ⟨rfl, rfl, rfl, trivial⟩ (fun w' hA => ⟨⟨hlt, upR hall hall2⟩, hA⟩)
/-- What is asked of a message that is written. -/
structure Ms.Bd (m : Ms) : Prop where
  sm : m.Sm
  few : m.asks.length + m.one.length + m.two.length + m.three.length ≤ 40
  recs : ∀ i r, i < 3 → r ∈ secs m i → r.Bd
def asksB (l : List Ak) : Bs := (l.map askB).flatten
def recsB (l : List Rc) : Bs := (l.map recB).flatten
def recsUp (m : Ms) : Nat → Bs
  | 0 => []
  | i + 1 => recsUp m i ++ recsB (secs m i)
def wireM (m : Ms) : Bs := (hdW m.head [m.asks.length, m.one.length, m.two.length, m.three.length] ++ asksB m.asks) ++ recsUp m 3
theorem asksB_take {l : List Ak} {i : Nat} {a : Ak} (h : nth l i = some a) : asksB (l.take (i + 1)) = asksB (l.take i) ++ askB a := by rw [take_nth h]; simp [asksB]
theorem recsB_take {l : List Rc} {i : Nat} {a : Rc} (h : nth l i = some a) : recsB (l.take (i + 1)) = recsB (l.take i) ++ recB a := by rw [take_nth h]; simp [recsB]
theorem flat_bound {α : Type} (f : α → Bs) (c : Nat) : ∀ (l : List α), (∀ a ∈ l, (f a).length ≤ c) → (l.map f).flatten.length ≤ c * l.length
  | [], _ => by simp
  | a :: r, h => by
    have h1 := h a List.mem_cons_self
    have h2 := flat_bound f c r fun b hb => h b (List.mem_cons_of_mem _ hb)
    simp only [List.map_cons, List.flatten_cons, List.length_append, List.length_cons, Nat.mul_succ]; omega
theorem askB_len {a : Ak} (h : a.Sm) : (askB a).length ≤ 2200000 := by
  have := wire_len a.name
  have := h.name
  simp only [askB, List.length_append, w2_length]; omega
theorem wireC_ask {m : Ms} (hm : m.Sm) (i : Nat) : (asksB (m.asks.take i)).length ≤ 2200000 * m.asks.length :=
  Nat.le_trans (flat_bound askB 2200000 _ fun a ha => askB_len (hm.ask a (List.mem_of_mem_take ha))) (Nat.mul_le_mul (Nat.le_refl _) (by simp; omega))
theorem wireC_rec {m : Ms} (hm : m.Bd) {i : Nat} (hi : i < 3) (j : Nat) : (recsB ((secs m i).take j)).length ≤ 6500000 * (secs m i).length :=
  Nat.le_trans (flat_bound recB 6500000 _ fun r hr => recB_len (hm.recs i r hi (List.mem_of_mem_take hr))) (Nat.mul_le_mul (Nat.le_refl _) (by simp; omega))
theorem secs_40 {m : Ms} (hm : m.Bd) {i : Nat} : (secs m i).length ≤ 40 := by
  have := hm.few
  unfold secs
  split <;> omega
theorem wireC_up {m : Ms} (hm : m.Bd) : ∀ {i : Nat}, i ≤ 3 → (recsUp m i).length ≤ 260000000 * i
  | 0, _ => by simp [recsUp]
  | i + 1, h => by
    have h1 := wireC_up hm (i := i) (by omega)
    have h2 := wireC_rec hm (i := i) (by omega) (secs m i).length
    rw [List.take_length] at h2
    have h3 := secs_40 hm (i := i)
    simp only [recsUp, List.length_append]; omega
theorem hdW_len (h : Hd) (ns : List Nat) : (hdW h ns).length = 4 + 2 * ns.length := by simp only [hdW, List.length_append, w2s_len, w2_length]
theorem SlI.of {H : View} {b : Nat} {l : List Nat} {vs : List Value} (hr : RowAt H b 0 vs) (he : vs = l.map fun (m : Nat) => Value.int .i64 (m : Int)) : SlI H (.slice (some ⟨b, 0, none⟩) l.length l.length) l := by
  subst he
  exact .inr ⟨b, 0, _, rfl, Nat.le_refl _, fun i m hm => ⟨_, rfl, hr.one (i := i) (by rw [nth_eq] at hm ⊢; simp [hm]) (by omega), rfl⟩⟩
theorem messageC (h : View) (m : Ms) (hm : m.Bd) (av ov_ tv rv : Value) (hx : MsIn h m av ov_ tv rv) : BCt 12 [.agg (msCells m.head av ov_ tv rv).toArray] h (wireM m) := by
  intro w hS hh
  have hfew := hm.few
  obtain ⟨aa, ac, has, _⟩ := hx.asks.shape
  obtain ⟨oa, oc, hos, _⟩ := hx.one.shape
  obtain ⟨ta, tc, hts, _⟩ := hx.two.shape
  obtain ⟨ra, rc, hrs, _⟩ := hx.three.shape
  subst has hos hts hrs
  refine calls_of_T (m := 63) Tryz.func12 rfl rfl (by simp) hS ?_
  repeat (first | refine za rfl rfl ?_ | refine zb rfl ?_ | refine zc rfl ?_)
  refine TL.box (cs := msCells m.head (.slice aa m.asks.length ac) (.slice oa m.one.length oc) (.slice ta m.two.length tc) (.slice ra m.three.length rc)) rfl rfl rfl rfl (fun xb => ?_)
  repeat (first | refine za rfl rfl ?_ | refine zb rfl ?_ | refine zc rfl ?_)
  refine TL.ldS (vs := hdCells m.head) 0 szk rfl rfl rfl rfl (fun j v hj => by simp only [Nat.zero_add]; rw [nth_eq] at hj ⊢; exact (List.getElem?_append_left (List.getElem?_eq_some_iff.1 hj).1).trans hj) rfl rfl ?_
  repeat (first | refine za rfl rfl ?_ | refine zb rfl ?_ | refine zc rfl ?_)
  refine TL.ld 0 szk rfl rfl rfl rfl rfl rfl ?_
  repeat (first | refine za rfl rfl ?_ | refine zb rfl ?_ | refine zc rfl ?_)
  refine TL.ld 0 szk rfl rfl rfl rfl rfl rfl ?_
  repeat (first | refine za rfl rfl ?_ | refine zb rfl ?_ | refine zc rfl ?_)
  refine TL.ld 0 szk rfl rfl rfl rfl rfl rfl ?_
  repeat (first | refine za rfl rfl ?_ | refine zb rfl ?_ | refine zc rfl ?_)
  refine TL.ld 0 szk rfl rfl rfl rfl rfl rfl ?_
  repeat (first | refine za rfl rfl ?_ | refine zb rfl ?_ | refine zc rfl ?_)
  refine TL.bs (vs := [.int .i64 (m.asks.length : Int), .int .i64 (m.one.length : Int), .int .i64 (m.two.length : Int), .int .i64 (m.three.length : Int)]) el200 rfl rfl (by intro v hv; simp at hv; rcases hv with rfl | rfl | rfl | rfl <;> rfl) (by simp) rfl rfl (fun nb => ?_)
  refine TL.fact (fun w' hA => (⟨hA.nd, ov_right hA hh⟩ : _ ∧ _)) fun ⟨hnd, hov⟩ => ?_
  refine TL.call0 Tryz.call39 rfl rfl rfl (headC _ m.head hm.sm.hcode [m.asks.length, m.one.length, m.two.length, m.three.length] (by simp) _ (SlI.of (l := [m.asks.length, m.one.length, m.two.length, m.three.length]) (vs := [.int .i64 (m.asks.length : Int), .int .i64 (m.one.length : Int), .int .i64 (m.two.length : Int), .int .i64 (m.three.length : Int)]) ((mv_row hnd (i := 0) rfl (fun j v hj => by rw [Nat.zero_add]; exact hj)).mono (ov_left _ h)) rfl)) (fun w' hA => ov_in hA hh fun p hp => hp) (fun y0 => TL.and fun o0 => ?_)
  generalize hZ : hdW m.head [m.asks.length, m.one.length, m.two.length, m.three.length] = Z at o0
  have hZl : Z.length = 12 := by rw [← hZ, hdW_len]; rfl
  repeat (first | refine za rfl rfl ?_ | refine zb rfl ?_ | refine zc rfl ?_)
  refine TL.ld 2 szk rfl rfl rfl rfl rfl rfl ?_
  repeat (first | refine za rfl rfl ?_ | refine zb rfl ?_ | refine zc rfl ?_)
  refine T.loop (α := JX) (fun x => [(1, ptr xb 0), (3, slV x.b (Z ++ asksB (m.asks.take x.i)).length x.cap), (27, .slice aa m.asks.length ac), (28, .int .i64 (m.asks.length : Int)), (29, .int .i64 (x.i : Int))])
    (fun x w' => (x.i ≤ m.asks.length ∧ OwnB x.cs (Z ++ asksB (m.asks.take x.i)) x.cap) ∧ St (keys []) w [(x.b, .row x.cs 5), (xb, .row (msCells m.head (.slice aa m.asks.length ac) (.slice oa m.one.length oc) (.slice ta m.two.length tc) (.slice ra m.three.length rc)) 34)] w')
    (fun x => m.asks.length - x.i) ⟨0, y0.1, y0.2.1, y0.2.2⟩ ⟨rfl, by simp [asksB]; rfl, rfl, rfl, rfl, trivial⟩ (fun w' hA => ⟨⟨Nat.zero_le _, by simpa [asksB] using o0⟩, hA.sub (List.Sublist.cons_cons _ (List.Sublist.cons _ (List.Sublist.refl _)))⟩) ?_
  rintro ⟨j, ob, ocs, ocap⟩ ih
  refine T.and fun ⟨hj, hown⟩ => ?_
  simp only at hj hown
  have hal := wireC_ask hm.sm j
  repeat (first | refine za rfl rfl ?_ | refine zb rfl ?_ | refine zc rfl ?_)
  by_cases hlt : j < m.asks.length
  · refine T.condT rfl (by simpa using hlt) ?_
    obtain ⟨a, hask⟩ := nth_lt hlt
    obtain ⟨b, o, cap', cs, hv, _, _, hrs, hcs⟩ := hx.asks.at hask
    injection hv with hv1 _ hv3
    subst hv1 hv3 hcs
    have ha := hm.sm.ask a (nth_mem hask)
    have hal2 := askB_len ha
    repeat (first | refine za rfl rfl ?_ | refine zb rfl ?_ | refine zc rfl ?_)
    refine TL.ix (j := j) tbk rfl rfl rfl rfl rfl rfl hlt ?_
    refine TL.ldRA (hrs.mono hh) szk rfl rfl rfl rfl rfl ?_
    refine TL.allocZ 3 Tryz.zeroValue52 rfl rfl rfl (fun lb zs hz => ?_)
    refine TL.stW (vs := akC a) 0 szk rfl rfl rfl rfl rfl hz (by simp [akC, Value.oneCell', str]) ?_
    repeat (first | refine za rfl rfl ?_ | refine zb rfl ?_ | refine zc rfl ?_)
    refine TL.ldW 0 szk rfl rfl rfl rfl rfl rfl ?_
    refine TL.call0 Tryz.call40 rfl rfl rfl (askC h a ha.name) (fun w' hA => vle hA hh) (fun y => TL.and fun oy => ?_)
    refine TL.append (len := (Z ++ asksB (m.asks.take j)).length) (m := (askB a).length) (news := (askB a).map bv) 2 el37 sl37 rfl rfl rfl rfl rfl hown (src_own (i := 0) rfl oy) (by rw [List.length_append]; omega) (by rw [List.length_append]; omega) (fun ob2 oc2 ocap2 ho2 => ?_)
    repeat (first | refine za rfl rfl ?_ | refine zb rfl ?_ | refine zc rfl ?_)
    rw [add1_i64 (a := j) (by omega)]
    have e : Z ++ asksB (m.asks.take (j + 1)) = (Z ++ asksB (m.asks.take j)) ++ askB a := by rw [asksB_take hask, List.append_assoc]
    exact T.again ih ⟨j + 1, ob2, oc2, ocap2⟩ (by simp; omega) ⟨rfl, by rw [e, List.length_append (bs := askB a)]; rfl, rfl, rfl, rfl, trivial⟩ (fun w' hA => ⟨⟨hlt, by simp only; rw [e]; exact ho2.cast (by simp only [List.length_append]) (by simp only [List.map_append])⟩, hA.sub (List.Sublist.cons _ (List.Sublist.cons _ (List.Sublist.refl _)))⟩)
  refine T.condF rfl (by simpa using hlt) ?_
  have hjq : j = m.asks.length := by omega
  subst hjq
  rw [List.take_length] at hown hal
  clear ih
  generalize hZ2 : Z ++ asksB m.asks = Z2 at hown
  have hZ2l : Z2.length ≤ 90000000 := by rw [← hZ2, List.length_append]; omega
  repeat (first | refine za rfl rfl ?_ | refine zb rfl ?_ | refine zc rfl ?_)
  refine TL.ld 1 szk rfl rfl rfl rfl rfl rfl ?_
  repeat (first | refine za rfl rfl ?_ | refine zb rfl ?_ | refine zc rfl ?_)
  refine TL.ld 1 szk rfl rfl rfl rfl rfl rfl ?_
  repeat (first | refine za rfl rfl ?_ | refine zb rfl ?_ | refine zc rfl ?_)
  refine TL.ld 1 szk rfl rfl rfl rfl rfl rfl ?_
  refine TL.bs (vs := [.slice oa m.one.length oc, .slice ta m.two.length tc, .slice ra m.three.length rc]) el53 rfl rfl (by intro v hv; simp at hv; rcases hv with rfl | rfl | rfl <;> rfl) (by simp) rfl rfl (fun sb => ?_)
  repeat (first | refine za rfl rfl ?_ | refine zb rfl ?_ | refine zc rfl ?_)
  refine T.loop (α := JX) (fun x => [(3, slV x.b (Z2 ++ recsUp m x.i).length x.cap), (44, .slice (some ⟨sb, 0, none⟩) 3 3), (45, .int .i64 3), (46, .int .i64 (x.i : Int))])
    (fun x w' => (x.i ≤ 3 ∧ OwnB x.cs (Z2 ++ recsUp m x.i) x.cap) ∧ St (keys []) w [(sb, .row [.slice oa m.one.length oc, .slice ta m.two.length tc, .slice ra m.three.length rc] 32), (x.b, .row x.cs 5)] w')
    (fun x => 3 - x.i) ⟨0, ob, ocs, ocap⟩ ⟨by rw [List.take_length, hZ2]; simp [recsUp]; rfl, rfl, rfl, rfl, trivial⟩ (fun w' hA => ⟨⟨Nat.zero_le _, by simpa [recsUp] using hown⟩, hA.sub (List.Sublist.cons_cons _ (List.Sublist.cons_cons _ (List.nil_sublist _)))⟩) ?_
  clear hown
  rintro ⟨i, ob, ocs, ocap⟩ ih
  refine T.and fun ⟨hi, hown⟩ => ?_
  simp only at hi hown
  have hup := wireC_up hm hi
  repeat (first | refine za rfl rfl ?_ | refine zb rfl ?_ | refine zc rfl ?_)
  by_cases hlt : i < 3
  case neg =>
    refine T.condF rfl (by simp; omega) ?_
    have hi3 : i = 3 := by omega
    subst hi3
    repeat (first | refine za rfl rfl ?_ | refine zb rfl ?_ | refine zc rfl ?_)
    have e : wireM m = Z2 ++ recsUp m 3 := by rw [← hZ2, ← hZ]; rfl
    exact T.ret Tryz.func12 rfl (fun w' hA => ⟨(ob, ocs, ocap), by rw [e]; rfl, by rw [e]; exact hown, hA.sub (List.Sublist.cons _ (List.Sublist.refl _))⟩)
  case pos =>
    refine T.condT rfl (by simp; omega) ?_
    obtain ⟨sv, sa, sc, hsv, hss, hsl⟩ := secs_at hx hlt
    subst hss
    have hs40 := secs_40 hm (i := i)
    repeat (first | refine za rfl rfl ?_ | refine zb rfl ?_ | refine zc rfl ?_)
    refine TL.ix (j := i) tbk rfl rfl rfl rfl rfl rfl hlt ?_
    refine TL.ld 0 szk rfl rfl rfl (by rw [show 0 + i * 1 = i by omega]; exact hsv) rfl rfl ?_
    repeat (first | refine za rfl rfl ?_ | refine zb rfl ?_ | refine zc rfl ?_)
    refine T.loop (α := JX) (fun x => [(3, slV x.b ((Z2 ++ recsUp m i) ++ recsB ((secs m i).take x.i)).length x.cap), (44, .slice (some ⟨sb, 0, none⟩) 3 3), (45, .int .i64 3), (46, .int .i64 (i : Int)), (50, .slice sa (secs m i).length sc), (51, .int .i64 ((secs m i).length : Int)), (52, .int .i64 (x.i : Int))])
      (fun x w' => (x.i ≤ (secs m i).length ∧ OwnB x.cs ((Z2 ++ recsUp m i) ++ recsB ((secs m i).take x.i)) x.cap) ∧ St (keys []) w [(sb, .row [.slice oa m.one.length oc, .slice ta m.two.length tc, .slice ra m.three.length rc] 32), (x.b, .row x.cs 5)] w')
      (fun x => (secs m i).length - x.i) ⟨0, ob, ocs, ocap⟩ ⟨by simp [recsB]; rfl, rfl, rfl, rfl, rfl, rfl, rfl, trivial⟩ (fun w' hA => ⟨⟨Nat.zero_le _, by simpa [recsB] using hown⟩, hA⟩) ?_
    clear hown
    rintro ⟨j, ob, ocs, ocap⟩ ih2
    refine T.and fun ⟨hj, hown⟩ => ?_
    simp only at hj hown
    have hrl := wireC_rec hm hlt j
    repeat (first | refine za rfl rfl ?_ | refine zb rfl ?_ | refine zc rfl ?_)
    by_cases hjl : j < (secs m i).length
    · refine T.condT rfl (by simpa using hjl) ?_
      obtain ⟨r, hr⟩ := nth_lt hjl
      obtain ⟨b, o, cap', cs, hv, _, _, hrs, dv, tv', pv, hcs, hd, ht, hp⟩ := hsl.at hr
      injection hv with hv1 _ hv3
      subst hv1 hv3 hcs
      have hrv : RcV h r dv tv' pv := ⟨hd, ht, hp⟩
      obtain ⟨q1, q2, q3⟩ := hrv.shapes
      have hrb := hm.recs i r hlt (nth_mem hr)
      have hrbl := recB_len hrb
      repeat (first | refine za rfl rfl ?_ | refine zb rfl ?_ | refine zc rfl ?_)
      refine TL.ix (j := j) tbk rfl rfl rfl rfl rfl rfl hjl ?_
      refine TL.ldRA (hrs.mono hh) szk rfl rfl (rcCells_len _ _ _ _) rfl rfl ?_
      refine TL.allocZ 16 Tryz.zeroValue58 rfl rfl rfl (fun lb zs hz => ?_)
      refine TL.stW (vs := rcCells r dv tv' pv) 0 szk rfl rfl rfl rfl rfl hz (rcCells_one q1 q2 q3) ?_
      repeat (first | refine za rfl rfl ?_ | refine zb rfl ?_ | refine zc rfl ?_)
      refine TL.ldW 0 szk rfl rfl rfl rfl rfl rfl ?_
      refine TL.call0 Tryz.call41 rfl rfl rfl (recordC h r hrb dv tv' pv hrv) (fun w' hA => vle hA hh) (fun y => TL.and fun oy => ?_)
      refine TL.append (len := ((Z2 ++ recsUp m i) ++ recsB ((secs m i).take j)).length) (m := (recB r).length) (news := (recB r).map bv) 3 el37 sl37 rfl rfl rfl rfl rfl hown (src_own (i := 0) rfl oy) (by rw [List.length_append, List.length_append]; omega) (by rw [List.length_append, List.length_append]; omega) (fun ob2 oc2 ocap2 ho2 => ?_)
      repeat (first | refine za rfl rfl ?_ | refine zb rfl ?_ | refine zc rfl ?_)
      rw [add1_i64 (a := j) (by omega)]
      have e : (Z2 ++ recsUp m i) ++ recsB ((secs m i).take (j + 1)) = ((Z2 ++ recsUp m i) ++ recsB ((secs m i).take j)) ++ recB r := by rw [recsB_take hr, List.append_assoc (Z2 ++ recsUp m i)]
      exact T.again ih2 ⟨j + 1, ob2, oc2, ocap2⟩ (by simp; omega) ⟨by rw [e, List.length_append (bs := recB r)]; rfl, rfl, rfl, rfl, rfl, rfl, rfl, trivial⟩ (fun w' hA => ⟨⟨hjl, by simp only; rw [e]; exact ho2.cast (by simp only [List.length_append]) (by simp only [List.map_append])⟩, hA.sub (List.Sublist.cons _ (List.Sublist.cons _ (List.Sublist.refl _)))⟩)
    refine T.condF rfl (by simpa using hjl) ?_
    have hjq : j = (secs m i).length := by omega
    subst hjq
    have e : (Z2 ++ recsUp m i) ++ recsB ((secs m i).take (secs m i).length) = Z2 ++ recsUp m (i + 1) := by rw [List.take_length, List.append_assoc]; rfl
    rw [e] at hown
    repeat (first | refine za rfl rfl ?_ | refine zb rfl ?_ | refine zc rfl ?_)
    rw [add1_i64 (a := i) (by omega)]
    exact T.again ih ⟨i + 1, ob, ocs, ocap⟩ (by simp; omega) ⟨by rw [← e]; rfl, rfl, rfl, rfl, trivial⟩ (fun w' hA => ⟨⟨hlt, hown⟩, hA⟩)
end X
namespace X
/-- What the reference's guard on size says of a record. -/
def FwOk (r : Rc) : Prop := (1 ≤ r.kind ∧ r.kind ≤ 13) ∧ r.data.length ≤ 2000 ∧ (txtB r.texts).length ≤ 2000 ∧ (pairB r.pairs).length ≤ 2000
abbrev RkOk (r : Rc) : Prop := NmOk r.name ∧ BoOk r
structure OkM (m : Ms) : Prop where
  asks : ∀ a ∈ m.asks, NmOk a.name
  recs : ∀ i r, i < 3 → r ∈ secs m i → RkOk r
  head : m.head.op < 16 ∧ m.head.code < 16
theorem okC (h : View) (m : Ms) (hm : m.Sm) (hfew : m.asks.length + m.one.length + m.two.length + m.three.length ≤ 40) (hbd : ∀ i r, i < 3 → r ∈ secs m i → r.Bd) (av ov_ tv rv : Value) (hx : MsIn h m av ov_ tv rv) : GCt 18 [.agg (msCells m.head av ov_ tv rv).toArray] h (OkM m) := by
  intro w hS hh
  obtain ⟨o0, o1, o2, o3⟩ := hx.shapes
  refine calls_of_T (m := 87) Tryz.func18 rfl rfl (by simp) hS ?_
  repeat (first | refine za rfl rfl ?_ | refine zb rfl ?_ | refine zc rfl ?_)
  refine TL.box (cs := msCells m.head av ov_ tv rv) rfl rfl rfl rfl (fun xb => ?_)
  repeat (first | refine za rfl rfl ?_ | refine zb rfl ?_ | refine zc rfl ?_)
  refine TL.ld 0 szk rfl rfl rfl rfl rfl rfl ?_
  obtain ⟨aa, ac, has, _⟩ := hx.asks.shape
  subst has
  have hxa := hx.asks
  have hn := hm.askn
  repeat (first | refine za rfl rfl ?_ | refine zb rfl ?_ | refine zc rfl ?_)
  refine T.loop (α := Nat) (fun j => [(1, ptr xb 0), (3, .int .i64 0), (11, .slice aa m.asks.length ac), (12, .int .i64 (m.asks.length : Int)), (13, .int .i64 (j : Int))])
    (fun j w' => (j ≤ m.asks.length ∧ ∀ j' a, j' < j → nth m.asks j' = some a → NmOk a.name) ∧ St (keys []) w [(xb, .row (msCells m.head (.slice aa m.asks.length ac) ov_ tv rv) 34)] w')
    (fun j => m.asks.length - j) 0 ⟨rfl, rfl, rfl, rfl, rfl, trivial⟩ (fun w' hA => ⟨⟨Nat.zero_le _, fun _ _ h => absurd h (Nat.not_lt_zero _)⟩, hA⟩) ?_
  intro j ih
  refine T.and fun ⟨hj, hall⟩ => ?_
  repeat (first | refine za rfl rfl ?_ | refine zb rfl ?_ | refine zc rfl ?_)
  by_cases hjl : j < m.asks.length
  · refine T.condT rfl (by simpa using hjl) ?_
    obtain ⟨a, hr⟩ := nth_lt hjl
    obtain ⟨b, o, cap', cs, hv, _, _, hrs, hcs⟩ := hxa.at hr
    injection hv with hv1 _ hv3
    subst hv1 hv3 hcs
    have ha := hm.ask a (nth_mem hr)
    repeat (first | refine za rfl rfl ?_ | refine zb rfl ?_ | refine zc rfl ?_)
    refine TL.ix (j := j) tbk rfl rfl rfl rfl rfl rfl hjl ?_
    refine TL.ldRA (hrs.mono hh) szk rfl rfl rfl rfl rfl ?_
    refine TL.allocZ 3 Tryz.zeroValue52 rfl rfl rfl (fun lb zs hz => ?_)
    refine TL.stW (vs := akC a) 0 szk rfl rfl rfl rfl rfl hz (by simp [akC, Value.oneCell', str]) ?_
    repeat (first | refine za rfl rfl ?_ | refine zb rfl ?_ | refine zc rfl ?_)
    refine TL.ld 0 szk rfl rfl rfl rfl rfl rfl ?_
    refine TL.call0 Tryz.call44 rfl rfl rfl (nameOkC h a.name ha.name) (fun w' hA => vle hA hh) (fun y => TL.and fun hy => ?_)
    cases y
    · repeat (first | refine za rfl rfl ?_ | refine zb rfl ?_ | refine zc rfl ?_)
      refine T.condT rfl rfl ?_
      repeat (first | refine za rfl rfl ?_ | refine zb rfl ?_ | refine zc rfl ?_)
      exact T.ret Tryz.func18 rfl (fun w' hA => ⟨false, rfl, fun e => Bool.noConfusion e, hA.sub (by simp)⟩)
    · repeat (first | refine za rfl rfl ?_ | refine zb rfl ?_ | refine zc rfl ?_)
      refine T.condF rfl rfl ?_
      repeat (first | refine za rfl rfl ?_ | refine zb rfl ?_ | refine zc rfl ?_)
      rw [add1_i64 (a := j) (by omega)]
      exact T.again ih (j + 1) (by omega) ⟨rfl, rfl, rfl, rfl, rfl, trivial⟩ (fun w' hA => ⟨⟨hjl, nxR hall hr (hy rfl)⟩, hA.sub (List.Sublist.cons _ (List.Sublist.refl _))⟩)
  refine T.condF rfl (by simpa using hjl) ?_
  have hjq : j = m.asks.length := by omega
  subst hjq
  have hasks := all_mem hall
  clear ih hall
  generalize hAV : Value.slice aa m.asks.length ac = av at *
  repeat (first | refine za rfl rfl ?_ | refine zb rfl ?_ | refine zc rfl ?_)
  refine TL.ld 0 szk rfl rfl rfl rfl rfl rfl ?_
  repeat (first | refine za rfl rfl ?_ | refine zb rfl ?_ | refine zc rfl ?_)
  refine TL.ld 0 szk rfl rfl rfl rfl rfl rfl ?_
  repeat (first | refine za rfl rfl ?_ | refine zb rfl ?_ | refine zc rfl ?_)
  refine TL.ld 0 szk rfl rfl rfl rfl rfl rfl ?_
  refine TL.bs (vs := [ov_, tv, rv]) el53 rfl rfl (by intro v hv; simp at hv; rcases hv with rfl | rfl | rfl <;> assumption) (by simp) rfl rfl (fun sb => ?_)
  repeat (first | refine za rfl rfl ?_ | refine zb rfl ?_ | refine zc rfl ?_)
  refine T.loop (α := Nat × Int) (fun x => [(1, ptr xb 0), (3, .int .i64 x.2), (28, .slice (some ⟨sb, 0, none⟩) 3 3), (29, .int .i64 3), (30, .int .i64 (x.1 : Int))])
    (fun x w' => (x.1 ≤ 3 ∧ ∀ i' r, i' < x.1 → r ∈ secs m i' → RkOk r) ∧ St (keys []) w [(sb, .row [ov_, tv, rv] 32), (xb, .row (msCells m.head av ov_ tv rv) 34)] w')
    (fun x => 3 - x.1) (0, 0) ⟨rfl, rfl, rfl, rfl, rfl, trivial⟩ (fun w' hA => ⟨⟨Nat.zero_le _, fun _ _ h => absurd h (Nat.not_lt_zero _)⟩, hA⟩) ?_
  rintro ⟨i, z⟩ ih
  refine T.and fun ⟨hi, hall⟩ => ?_
  simp only at hi hall
  repeat (first | refine za rfl rfl ?_ | refine zb rfl ?_ | refine zc rfl ?_)
  by_cases hlt : i < 3
  case neg =>
    refine T.condF rfl (by simp; omega) ?_
    have hi3 : i = 3 := by omega
    subst hi3
    repeat (first | refine za rfl rfl ?_ | refine zb rfl ?_ | refine zc rfl ?_)
    refine TL.ldS (vs := hdCells m.head) 1 szk rfl rfl rfl rfl (fun j v hj => by simp only [Nat.zero_add]; rw [nth_eq] at hj ⊢; exact (List.getElem?_append_left (List.getElem?_eq_some_iff.1 hj).1).trans hj) rfl rfl ?_
    refine TL.call0 Tryz.call47 rfl rfl rfl (headOkC h m.head) (fun w' hA => vle hA hh) (fun y => TL.and fun hy => ?_)
    cases y
    · repeat (first | refine za rfl rfl ?_ | refine zb rfl ?_ | refine zc rfl ?_)
      exact T.ret Tryz.func18 rfl (fun w' hA => ⟨false, rfl, fun e => Bool.noConfusion e, hA.sub (by simp)⟩)
    · obtain ⟨a0, c0, e0, _⟩ := hx.asks.shape
      obtain ⟨a1, c1, e1, _⟩ := hx.one.shape
      obtain ⟨a2, c2, e2, _⟩ := hx.two.shape
      obtain ⟨a3, c3, e3, _⟩ := hx.three.shape
      subst e0 e1 e2 e3
      repeat (first | refine za rfl rfl ?_ | refine zb rfl ?_ | refine zc rfl ?_)
      refine TL.ld 1 szk rfl rfl rfl rfl rfl rfl ?_
      iterate 4 refine TL.p tbk rfl ?_
      rw [show (decide ((m.asks.length : Int) < 60000)) = true from decide_eq_true (by omega)]
      repeat (first | refine za rfl rfl ?_ | refine zb rfl ?_ | refine zc rfl ?_)
      refine TL.ld 1 szk rfl rfl rfl rfl rfl rfl ?_
      iterate 4 refine TL.p tbk rfl ?_
      rw [show (decide ((m.one.length : Int) < 60000)) = true from decide_eq_true (by omega)]
      repeat (first | refine za rfl rfl ?_ | refine zb rfl ?_ | refine zc rfl ?_)
      refine TL.ld 1 szk rfl rfl rfl rfl rfl rfl ?_
      iterate 4 refine TL.p tbk rfl ?_
      rw [show (decide ((m.two.length : Int) < 60000)) = true from decide_eq_true (by omega)]
      repeat (first | refine za rfl rfl ?_ | refine zb rfl ?_ | refine zc rfl ?_)
      refine TL.ld 1 szk rfl rfl rfl rfl rfl rfl ?_
      iterate 4 refine TL.p tbk rfl ?_
      rw [show (decide ((m.three.length : Int) < 60000)) = true from decide_eq_true (by omega)]
      repeat (first | refine za rfl rfl ?_ | refine zb rfl ?_ | refine zc rfl ?_)
      exact T.ret Tryz.func18 rfl (fun w' hA => ⟨decide (z < 16777216), rfl, fun _ => ⟨hasks, hall, hy rfl⟩, hA.sub (by simp)⟩)
  case pos =>
  refine T.condT rfl (by simp; omega) ?_
  obtain ⟨sv, sa, sc, hsv, hss, hsl⟩ := secs_at hx hlt
  subst hss
  have hsn := secs_len hm i
  repeat (first | refine za rfl rfl ?_ | refine zb rfl ?_ | refine zc rfl ?_)
  refine TL.ix (j := i) tbk rfl rfl rfl rfl rfl rfl hlt ?_
  refine TL.ld 0 szk rfl rfl rfl (by rw [show 0 + i * 1 = i by omega]; exact hsv) rfl rfl ?_
  repeat (first | refine za rfl rfl ?_ | refine zb rfl ?_ | refine zc rfl ?_)
  refine T.loop (α := Nat × Int) (fun x => [(1, ptr xb 0), (3, .int .i64 x.2), (28, .slice (some ⟨sb, 0, none⟩) 3 3), (29, .int .i64 3), (30, .int .i64 (i : Int)), (34, .slice sa (secs m i).length sc), (35, .int .i64 ((secs m i).length : Int)), (36, .int .i64 (x.1 : Int))])
    (fun x w' => (x.1 ≤ (secs m i).length ∧ ∀ j' r, j' < x.1 → nth (secs m i) j' = some r → RkOk r) ∧ St (keys []) w [(sb, .row [ov_, tv, rv] 32), (xb, .row (msCells m.head av ov_ tv rv) 34)] w')
    (fun x => (secs m i).length - x.1) (0, z) ⟨rfl, rfl, rfl, rfl, rfl, rfl, rfl, rfl, trivial⟩ (fun w' hA => ⟨⟨Nat.zero_le _, fun _ _ h => absurd h (Nat.not_lt_zero _)⟩, hA⟩) ?_
  rintro ⟨j, z⟩ ih2
  refine T.and fun ⟨hj, hall2⟩ => ?_
  simp only at hj hall2
  repeat (first | refine za rfl rfl ?_ | refine zb rfl ?_ | refine zc rfl ?_)
  by_cases hjl : j < (secs m i).length
  · refine T.condT rfl (by simpa using hjl) ?_
    obtain ⟨r, hr⟩ := nth_lt hjl
    obtain ⟨b, o, cap', cs, hv, _, _, hrs, dv, tv', pv, hcs, hd, ht, hp⟩ := hsl.at hr
    injection hv with hv1 _ hv3
    subst hv1 hv3 hcs
    have hrv : RcV h r dv tv' pv := ⟨hd, ht, hp⟩
    obtain ⟨q1, q2, q3⟩ := hrv.shapes
    have hrm := secs_sm hm (nth_mem hr)
    repeat (first | refine za rfl rfl ?_ | refine zb rfl ?_ | refine zc rfl ?_)
    refine TL.ix (j := j) tbk rfl rfl rfl rfl rfl rfl hjl ?_
    refine TL.ldRA (hrs.mono hh) szk rfl rfl (rcCells_len _ _ _ _) rfl rfl ?_
    refine TL.allocZ 16 Tryz.zeroValue58 rfl rfl rfl (fun lb zs hz => ?_)
    refine TL.stW (vs := rcCells r dv tv' pv) 0 szk rfl rfl rfl rfl rfl hz (rcCells_one q1 q2 q3) ?_
    repeat (first | refine za rfl rfl ?_ | refine zb rfl ?_ | refine zc rfl ?_)
    have hrb := hbd i r hlt (nth_mem hr)
    refine TL.ld 0 szk rfl rfl rfl rfl rfl rfl ?_
    refine TL.call0 Tryz.call44 rfl rfl rfl (nameOkC h r.name hrm.name) (fun w' hA => vle hA hh) (fun y => TL.and fun hy => ?_)
    cases y
    · repeat (first | refine za rfl rfl ?_ | refine zb rfl ?_ | refine zc rfl ?_)
      refine T.condT rfl rfl ?_
      repeat (first | refine za rfl rfl ?_ | refine zb rfl ?_ | refine zc rfl ?_)
      exact T.ret Tryz.func18 rfl (fun w' hA => ⟨false, rfl, fun e => Bool.noConfusion e, hA.sub (by simp)⟩)
    · repeat (first | refine za rfl rfl ?_ | refine zb rfl ?_ | refine zc rfl ?_)
      refine TL.ldW (cs := rcCells r dv tv' pv) 0 szk rfl rfl rfl rfl rfl rfl ?_
      refine TL.call0 Tryz.call45 rfl rfl rfl (bodyOkC h r hrb dv tv' pv hrv) (fun w' hA => vle hA hh) (fun y => TL.and fun hz => ?_)
      cases y
      · repeat (first | refine za rfl rfl ?_ | refine zb rfl ?_ | refine zc rfl ?_)
        refine T.condT rfl rfl ?_
        repeat (first | refine za rfl rfl ?_ | refine zb rfl ?_ | refine zc rfl ?_)
        exact T.ret Tryz.func18 rfl (fun w' hA => ⟨false, rfl, fun e => Bool.noConfusion e, hA.sub (by simp)⟩)
      · repeat (first | refine za rfl rfl ?_ | refine zb rfl ?_ | refine zc rfl ?_)
        refine T.condF rfl rfl ?_
        repeat (first | refine za rfl rfl ?_ | refine zb rfl ?_ | refine zc rfl ?_)
        refine TL.ldW (cs := rcCells r dv tv' pv) 0 szk rfl rfl rfl rfl rfl rfl ?_
        refine TL.call0 Tryz.call46 rfl rfl rfl (bodyC h r hrb dv tv' pv hrv) (fun w' hA => vle hA hh) (fun y => TL.and fun hyb => ?_)
        repeat (first | refine za rfl rfl ?_ | refine zb rfl ?_ | refine zc rfl ?_)
        rw [add1_i64 (a := j) (by omega)]
        exact T.again ih2 (j + 1, _) (by simp; omega) ⟨rfl, rfl, rfl, rfl, rfl, rfl, rfl, rfl, trivial⟩ (fun w' hA => ⟨⟨hjl, nxR hall2 hr (⟨hy rfl, hz rfl⟩)⟩, hA.sub (List.Sublist.cons _ (List.Sublist.cons _ (List.Sublist.refl _)))⟩)
  refine T.condF rfl (by simpa using hjl) ?_
  have hjq : j = (secs m i).length := by omega
  subst hjq
  repeat (first | refine za rfl rfl ?_ | refine zb rfl ?_ | refine zc rfl ?_)
  rw [add1_i64 (a := i) (by omega)]
  exact T.again ih (i + 1, z) (by simp; omega) ⟨rfl, rfl, rfl, rfl, rfl, trivial⟩ (fun w' hA => ⟨⟨hlt, upR hall hall2⟩, hA⟩)
def tsum : List Bs → Nat
  | [] => 0
  | s :: r => s.length + tsum r
theorem tsum_append : ∀ (a b : List Bs), tsum (a ++ b) = tsum a + tsum b
  | [], b => by simp [tsum]
  | s :: r, b => by simp only [List.cons_append, tsum, tsum_append r b]; omega
theorem tsum_take {l : List Bs} {i : Nat} {s : Bs} (h : nth l i = some s) : tsum (l.take (i + 1)) = tsum (l.take i) + s.length := by rw [take_nth h, tsum_append]; simp [tsum]
theorem txtB_sum : ∀ l : List Bs, (txtB l).length = l.length + tsum l
  | [] => rfl
  | s :: r => by simp only [txtB, List.length_append, List.length_cons, tsum, txtB_sum r]; omega
theorem tsum_le {c : Nat} : ∀ {l : List Bs}, (∀ s ∈ l, s.length ≤ c) → tsum l ≤ c * l.length
  | [], _ => by simp [tsum]
  | s :: r, h => by
    have h1 := h s List.mem_cons_self
    have h2 := tsum_le fun t ht => h t (List.mem_cons_of_mem _ ht)
    simp only [tsum, List.length_cons, Nat.mul_succ]; omega
theorem pairB_le {c : Nat} : ∀ {l : List Pr}, (∀ s ∈ l, s.data.length ≤ c) → (pairB l).length ≤ (c + 4) * l.length
  | [], _ => by simp [pairB]
  | s :: r, h => by
    have h1 := h s List.mem_cons_self
    have h2 := pairB_le fun t ht => h t (List.mem_cons_of_mem _ ht)
    simp only [pairB, List.length_append, w2_length, List.length_cons, Nat.mul_succ]; omega
/-- What the reference's guard on size says. -/
structure Gd (m : Ms) : Prop where
  few : m.asks.length + m.one.length + m.two.length + m.three.length ≤ 40
  recs : ∀ i r, i < 3 → r ∈ secs m i → FwOk r
  ok : OkM m
theorem FwOk.bd {r : Rc} (h : FwOk r) (hs : r.Sm) : r.Bd := ⟨hs, h.1.1, h.1.2, h.2.1, h.2.2.1, h.2.2.2⟩
theorem fewC (h : View) (m : Ms) (hm : m.Sm) (av ov_ tv rv : Value) (hx : MsIn h m av ov_ tv rv) : GCt 6 [.agg (msCells m.head av ov_ tv rv).toArray] h (Gd m) := by
  intro w hS hh
  obtain ⟨o0, o1, o2, o3⟩ := hx.shapes
  refine calls_of_T (m := 97) Tryz.func6 rfl rfl (by simp) hS ?_
  repeat (first | refine za rfl rfl ?_ | refine zb rfl ?_ | refine zc rfl ?_)
  refine TL.box (cs := msCells m.head av ov_ tv rv) rfl rfl rfl rfl (fun xb => ?_)
  repeat (first | refine za rfl rfl ?_ | refine zb rfl ?_ | refine zc rfl ?_)
  have hxs := hx
  obtain ⟨a0, c0, e0, _⟩ := hx.asks.shape
  obtain ⟨a1, c1, e1, _⟩ := hx.one.shape
  obtain ⟨a2, c2, e2, _⟩ := hx.two.shape
  obtain ⟨a3, c3, e3, _⟩ := hx.three.shape
  have l0 := hm.askn
  have l1 := hm.onen
  have l2 := hm.twon
  have l3 := hm.threen
  refine TL.ld (v := .slice a0 m.asks.length c0) 0 szk rfl rfl rfl (by rw [← e0]; rfl) rfl rfl ?_
  repeat (first | refine za rfl rfl ?_ | refine zb rfl ?_ | refine zc rfl ?_)
  refine TL.ld (v := .slice a1 m.one.length c1) 0 szk rfl rfl rfl (by rw [← e1]; rfl) rfl rfl ?_
  repeat (first | refine za rfl rfl ?_ | refine zb rfl ?_ | refine zc rfl ?_)
  rw [add_i64 (a := m.asks.length) (b := m.one.length) (by omega)]
  refine TL.ld (v := .slice a2 m.two.length c2) 0 szk rfl rfl rfl (by rw [← e2]; rfl) rfl rfl ?_
  repeat (first | refine za rfl rfl ?_ | refine zb rfl ?_ | refine zc rfl ?_)
  rw [add_i64 (a := m.asks.length + m.one.length) (b := m.two.length) (by omega)]
  refine TL.ld (v := .slice a3 m.three.length c3) 0 szk rfl rfl rfl (by rw [← e3]; rfl) rfl rfl ?_
  repeat (first | refine za rfl rfl ?_ | refine zb rfl ?_ | refine zc rfl ?_)
  rw [add_i64 (a := m.asks.length + m.one.length + m.two.length) (b := m.three.length) (by omega)]
  clear e0 e1 e2 e3
  by_cases hfew : m.asks.length + m.one.length + m.two.length + m.three.length ≤ 40
  case neg =>
    refine T.condT rfl (by simp; omega) ?_
    repeat (first | refine za rfl rfl ?_ | refine zb rfl ?_ | refine zc rfl ?_)
    exact T.ret Tryz.func6 rfl (fun w' hA => ⟨false, rfl, fun e => Bool.noConfusion e, hA.sub (by simp)⟩)
  refine T.condF rfl (by simp; omega) ?_
  repeat (first | refine za rfl rfl ?_ | refine zb rfl ?_ | refine zc rfl ?_)
  refine TL.ld 0 szk rfl rfl rfl rfl rfl rfl ?_
  repeat (first | refine za rfl rfl ?_ | refine zb rfl ?_ | refine zc rfl ?_)
  refine TL.ld 0 szk rfl rfl rfl rfl rfl rfl ?_
  repeat (first | refine za rfl rfl ?_ | refine zb rfl ?_ | refine zc rfl ?_)
  refine TL.ld 0 szk rfl rfl rfl rfl rfl rfl ?_
  refine TL.bs (vs := [ov_, tv, rv]) el53 rfl rfl (by intro v hv; simp at hv; rcases hv with rfl | rfl | rfl <;> assumption) (by simp) rfl rfl (fun sb => ?_)
  repeat (first | refine za rfl rfl ?_ | refine zb rfl ?_ | refine zc rfl ?_)
  refine T.loop (α := Nat) (fun i => [(1, ptr xb 0), (36, .slice (some ⟨sb, 0, none⟩) 3 3), (37, .int .i64 3), (38, .int .i64 (i : Int))])
    (fun i w' => (i ≤ 3 ∧ ∀ i' r, i' < i → r ∈ secs m i' → FwOk r) ∧ St (keys []) w [(sb, .row [ov_, tv, rv] 32), (xb, .row (msCells m.head av ov_ tv rv) 34)] w')
    (fun i => 3 - i) 0 ⟨rfl, rfl, rfl, rfl, trivial⟩ (fun w' hA => ⟨⟨Nat.zero_le _, fun _ _ h => absurd h (Nat.not_lt_zero _)⟩, hA⟩) ?_
  intro i ih
  refine T.and fun ⟨hi, hall⟩ => ?_
  repeat (first | refine za rfl rfl ?_ | refine zb rfl ?_ | refine zc rfl ?_)
  by_cases hlt : i < 3
  case neg =>
    refine T.condF rfl (by simp; omega) ?_
    have hi3 : i = 3 := by omega
    subst hi3
    repeat (first | refine za rfl rfl ?_ | refine zb rfl ?_ | refine zc rfl ?_)
    refine TL.ldW (cs := msCells m.head av ov_ tv rv) 1 szk rfl rfl rfl rfl rfl rfl ?_
    refine TL.call0 Tryz.call18 rfl rfl rfl (okC h m hm hfew (fun i r hi hr => (hall i r hi hr).bd (secs_sm hm hr)) av ov_ tv rv hxs) (fun w' hA => vle hA hh) (fun y => TL.and fun hy => ?_)
    repeat (first | refine za rfl rfl ?_ | refine zb rfl ?_ | refine zc rfl ?_)
    exact T.ret Tryz.func6 rfl (fun w' hA => ⟨y, rfl, fun e => ⟨hfew, hall, hy e⟩, hA.sub (by simp)⟩)
  case pos =>
  refine T.condT rfl (by simp; omega) ?_
  obtain ⟨sv, sa, sc, hsv, hss, hsl⟩ := secs_at hx hlt
  subst hss
  have hsn := secs_len hm i
  repeat (first | refine za rfl rfl ?_ | refine zb rfl ?_ | refine zc rfl ?_)
  refine TL.ix (j := i) tbk rfl rfl rfl rfl rfl rfl hlt ?_
  refine TL.ld 0 szk rfl rfl rfl (by rw [show 0 + i * 1 = i by omega]; exact hsv) rfl rfl ?_
  repeat (first | refine za rfl rfl ?_ | refine zb rfl ?_ | refine zc rfl ?_)
  refine T.loop (α := Nat) (fun j => [(1, ptr xb 0), (36, .slice (some ⟨sb, 0, none⟩) 3 3), (37, .int .i64 3), (38, .int .i64 (i : Int)), (42, .slice sa (secs m i).length sc), (43, .int .i64 ((secs m i).length : Int)), (44, .int .i64 (j : Int))])
    (fun j w' => (j ≤ (secs m i).length ∧ ∀ j' r, j' < j → nth (secs m i) j' = some r → FwOk r) ∧ St (keys []) w [(sb, .row [ov_, tv, rv] 32), (xb, .row (msCells m.head av ov_ tv rv) 34)] w')
    (fun j => (secs m i).length - j) 0 ⟨rfl, rfl, rfl, rfl, rfl, rfl, rfl, trivial⟩ (fun w' hA => ⟨⟨Nat.zero_le _, fun _ _ h => absurd h (Nat.not_lt_zero _)⟩, hA⟩) ?_
  intro j ih2
  refine T.and fun ⟨hj, hall2⟩ => ?_
  repeat (first | refine za rfl rfl ?_ | refine zb rfl ?_ | refine zc rfl ?_)
  by_cases hjl : j < (secs m i).length
  · refine T.condT rfl (by simpa using hjl) ?_
    obtain ⟨r, hr⟩ := nth_lt hjl
    obtain ⟨b, o, cap', cs, hv, _, _, hrs, dv, tv', pv, hcs, hd, ht, hp⟩ := hsl.at hr
    injection hv with hv1 _ hv3
    subst hv1 hv3 hcs
    have hrv : RcV h r dv tv' pv := ⟨hd, ht, hp⟩
    obtain ⟨q1, q2, q3⟩ := hrv.shapes
    have hrm := secs_sm hm (nth_mem hr)
    repeat (first | refine za rfl rfl ?_ | refine zb rfl ?_ | refine zc rfl ?_)
    refine TL.ix (j := j) tbk rfl rfl rfl rfl rfl rfl hjl ?_
    refine TL.ldRA (hrs.mono hh) szk rfl rfl (rcCells_len _ _ _ _) rfl rfl ?_
    refine TL.allocZ 16 Tryz.zeroValue58 rfl rfl rfl (fun lb zs hz => ?_)
    refine TL.stW (vs := rcCells r dv tv' pv) 0 szk rfl rfl rfl rfl rfl hz (rcCells_one q1 q2 q3) ?_
    repeat (first | refine za rfl rfl ?_ | refine zb rfl ?_ | refine zc rfl ?_)
    obtain ⟨da, dc, hds, _⟩ := hd.shape
    obtain ⟨ta, tc, hts, _⟩ := ht.shape
    obtain ⟨pa, pc, hps, _⟩ := hp.shape
    subst hds hts hps
    have d0 := hrm.data
    have d1 := hrm.textn
    have d2 := hrm.pairn
    refine TL.ld 0 szk rfl rfl rfl rfl rfl rfl ?_
    repeat (first | refine za rfl rfl ?_ | refine zb rfl ?_ | refine zc rfl ?_)
    refine TL.ld 0 szk rfl rfl rfl rfl rfl rfl ?_
    repeat (first | refine za rfl rfl ?_ | refine zb rfl ?_ | refine zc rfl ?_)
    rw [add_i64 (a := r.data.length) (b := r.texts.length) (by omega)]
    refine TL.ld 0 szk rfl rfl rfl rfl rfl rfl ?_
    repeat (first | refine za rfl rfl ?_ | refine zb rfl ?_ | refine zc rfl ?_)
    refine T.loop (α := Nat) (fun k => [(1, ptr xb 0), (36, .slice (some ⟨sb, 0, none⟩) 3 3), (37, .int .i64 3), (38, .int .i64 (i : Int)), (42, .slice (some ⟨b, o, none⟩) (secs m i).length sc), (43, .int .i64 ((secs m i).length : Int)), (44, .int .i64 (j : Int)), (7, ptr lb 0), (8, .int .i64 ((r.data.length + r.texts.length + tsum (r.texts.take k) : Nat) : Int)), (56, .slice ta r.texts.length tc), (57, .int .i64 (r.texts.length : Int)), (58, .int .i64 (k : Int))])
      (fun k w' => k ≤ r.texts.length ∧ St (keys []) w [(lb, .row (rcCells r (.slice da r.data.length dc) (.slice ta r.texts.length tc) (.slice pa r.pairs.length pc)) 58), (sb, .row [ov_, tv, rv] 32), (xb, .row (msCells m.head av ov_ tv rv) 34)] w') (fun k => r.texts.length - k) 0 ⟨rfl, rfl, rfl, rfl, rfl, rfl, rfl, rfl, rfl, rfl, rfl, rfl, trivial⟩ (fun w' hA => ⟨Nat.zero_le _, hA⟩) ?_
    intro k ih3
    refine T.and fun hk => ?_
    have ts := tsum_le (c := 1048576) (l := r.texts.take k) fun s hs => hrm.text s (List.mem_of_mem_take hs)
    rw [List.length_take] at ts
    repeat (first | refine za rfl rfl ?_ | refine zb rfl ?_ | refine zc rfl ?_)
    by_cases hkl : k < r.texts.length
    · refine T.condT rfl (by simpa using hkl) ?_
      obtain ⟨s, hs⟩ := nth_lt hkl
      obtain ⟨b', o', cap'', cs', hv', _, _, hrs', hcs'⟩ := ht.at hs
      injection hv' with hv1' _ hv3'
      subst hv1' hv3' hcs'
      have hsl' := hrm.text s (nth_mem hs)
      repeat (first | refine za rfl rfl ?_ | refine zb rfl ?_ | refine zc rfl ?_)
      refine TL.ix (j := k) tbk rfl rfl rfl rfl rfl rfl hkl ?_
      refine TL.ldR (hrs'.mono hh) szk rfl rfl rfl rfl ?_
      repeat (first | refine za rfl rfl ?_ | refine zb rfl ?_ | refine zc rfl ?_)
      rw [add_i64 (a := r.data.length + r.texts.length + tsum (r.texts.take k)) (b := s.length) (by omega), add1_i64 (a := k) (by omega)]
      exact T.again ih3 (k + 1) (by omega) ⟨rfl, rfl, rfl, rfl, rfl, rfl, rfl, rfl, by rw [tsum_take hs, ← Nat.add_assoc]; rfl, rfl, rfl, rfl, trivial⟩ (fun w' hA => ⟨hkl, hA⟩)
    refine T.condF rfl (by simpa using hkl) ?_
    have hkq : k = r.texts.length := by omega
    subst hkq
    rw [List.take_length] at ts
    clear ih3
    have htx := txtB_sum r.texts
    generalize hT : tsum r.texts = TT at ts htx
    repeat (first | refine za rfl rfl ?_ | refine zb rfl ?_ | refine zc rfl ?_)
    refine TL.ld 0 szk rfl rfl rfl rfl rfl rfl ?_
    repeat (first | refine za rfl rfl ?_ | refine zb rfl ?_ | refine zc rfl ?_)
    refine T.loop (α := Nat) (fun k => [(1, ptr xb 0), (36, .slice (some ⟨sb, 0, none⟩) 3 3), (37, .int .i64 3), (38, .int .i64 (i : Int)), (42, .slice (some ⟨b, o, none⟩) (secs m i).length sc), (43, .int .i64 ((secs m i).length : Int)), (44, .int .i64 (j : Int)), (7, ptr lb 0), (8, .int .i64 ((r.data.length + r.texts.length + TT + (pairB (r.pairs.take k)).length : Nat) : Int)), (68, .slice pa r.pairs.length pc), (69, .int .i64 (r.pairs.length : Int)), (70, .int .i64 (k : Int))])
      (fun k w' => k ≤ r.pairs.length ∧ St (keys []) w [(lb, .row (rcCells r (.slice da r.data.length dc) (.slice ta r.texts.length tc) (.slice pa r.pairs.length pc)) 58), (sb, .row [ov_, tv, rv] 32), (xb, .row (msCells m.head av ov_ tv rv) 34)] w') (fun k => r.pairs.length - k) 0 ⟨rfl, rfl, rfl, rfl, rfl, rfl, rfl, rfl, by rw [List.take_length, hT]; rfl, rfl, rfl, rfl, trivial⟩ (fun w' hA => ⟨Nat.zero_le _, hA⟩) ?_
    intro k ih3
    refine T.and fun hk => ?_
    have ps := pairB_le (c := 1048576) (l := r.pairs.take k) fun s hs => hrm.pair s (List.mem_of_mem_take hs)
    rw [List.length_take] at ps
    repeat (first | refine za rfl rfl ?_ | refine zb rfl ?_ | refine zc rfl ?_)
    by_cases hkl : k < r.pairs.length
    · refine T.condT rfl (by simpa using hkl) ?_
      obtain ⟨s, hs⟩ := nth_lt hkl
      obtain ⟨b', o', cap'', cs', hv', _, _, hrs', edv, hcs', hed⟩ := hp.at hs
      injection hv' with hv1' _ hv3'
      subst hv1' hv3' hcs'
      obtain ⟨ea, ec, hes, _⟩ := hed.shape
      subst hes
      have hsl' := hrm.pair s (nth_mem hs)
      repeat (first | refine za rfl rfl ?_ | refine zb rfl ?_ | refine zc rfl ?_)
      refine TL.ix (j := k) tbk rfl rfl rfl rfl rfl rfl hkl ?_
      refine TL.ldRA (hrs'.mono hh) szk rfl rfl rfl rfl rfl ?_
      refine TL.allocZ 2 Tryz.zeroValue60 rfl rfl rfl (fun lb2 zs2 hz2 => ?_)
      refine TL.stW (vs := [.int .u16 (s.key : Int), .slice ea s.data.length ec]) 0 szk rfl rfl rfl rfl rfl hz2 (by intro u hu; simp at hu; rcases hu with rfl | rfl <;> rfl) ?_
      repeat (first | refine za rfl rfl ?_ | refine zb rfl ?_ | refine zc rfl ?_)
      refine TL.ld 0 szk rfl rfl rfl rfl rfl rfl ?_
      repeat (first | refine za rfl rfl ?_ | refine zb rfl ?_ | refine zc rfl ?_)
      rw [show IntKind.i64.wrap ((s.data.length : Int) + 4) = ((s.data.length + 4 : Nat) : Int) by rw [i64_in] <;> omega, add_i64 (a := r.data.length + r.texts.length + TT + (pairB (r.pairs.take k)).length) (b := s.data.length + 4) (by omega), add1_i64 (a := k) (by omega)]
      have e5 : r.data.length + r.texts.length + TT + (pairB (r.pairs.take (k + 1))).length = r.data.length + r.texts.length + TT + (pairB (r.pairs.take k)).length + (s.data.length + 4) := by rw [pairB_take hs]; simp [w2]; omega
      exact T.again ih3 (k + 1) (by omega) ⟨rfl, rfl, rfl, rfl, rfl, rfl, rfl, rfl, by rw [e5]; rfl, rfl, rfl, rfl, trivial⟩ (fun w' hA => ⟨hkl, hA.sub (List.Sublist.cons _ (List.Sublist.refl _))⟩)
    refine T.condF rfl (by simpa using hkl) ?_
    have hkq : k = r.pairs.length := by omega
    subst hkq
    clear ih3
    have e : r.pairs.take r.pairs.length = r.pairs := List.take_length
    rw [e] at ps
    generalize hZ : r.data.length + r.texts.length + TT + (pairB (r.pairs.take r.pairs.length)).length = Z
    rw [e] at hZ
    repeat (first | refine za rfl rfl ?_ | refine zb rfl ?_ | refine zc rfl ?_)
    refine TL.ld 0 szk rfl rfl rfl rfl rfl rfl ?_
    repeat (first | refine za rfl rfl ?_ | refine zb rfl ?_ | refine zc rfl ?_)
    by_cases k1 : r.kind < 1
    · rw [show (decide (r.kind < 1)) = true by simpa using k1]
      repeat (first | refine za rfl rfl ?_ | refine zb rfl ?_ | refine zc rfl ?_)
      refine T.condT rfl rfl ?_
      repeat (first | refine za rfl rfl ?_ | refine zb rfl ?_ | refine zc rfl ?_)
      exact T.ret Tryz.func6 rfl (fun w' hA => ⟨false, rfl, fun e => Bool.noConfusion e, hA.sub (by simp)⟩)
    · rw [show (decide (r.kind < 1)) = false by simpa using k1]
      repeat (first | refine za rfl rfl ?_ | refine zb rfl ?_ | refine zc rfl ?_)
      refine TL.ld 0 szk rfl rfl rfl rfl rfl rfl ?_
      repeat (first | refine za rfl rfl ?_ | refine zb rfl ?_ | refine zc rfl ?_)
      by_cases k13 : r.kind > 13
      · rw [show (decide (r.kind > 13)) = true by simpa using k13]
        repeat (first | refine za rfl rfl ?_ | refine zb rfl ?_ | refine zc rfl ?_)
        refine T.condT rfl rfl ?_
        repeat (first | refine za rfl rfl ?_ | refine zb rfl ?_ | refine zc rfl ?_)
        exact T.ret Tryz.func6 rfl (fun w' hA => ⟨false, rfl, fun e => Bool.noConfusion e, hA.sub (by simp)⟩)
      · rw [show (decide (r.kind > 13)) = false by simpa using k13]
        repeat (first | refine za rfl rfl ?_ | refine zb rfl ?_ | refine zc rfl ?_)
        by_cases hsz : Z ≤ 2000
        · refine T.condF rfl (by simp; omega) ?_
          repeat (first | refine za rfl rfl ?_ | refine zb rfl ?_ | refine zc rfl ?_)
          rw [add1_i64 (a := j) (by omega)]
          exact T.again ih2 (j + 1) (by omega) ⟨rfl, rfl, rfl, rfl, rfl, rfl, rfl, trivial⟩ (fun w' hA => ⟨⟨hjl, nxR hall2 hr (⟨⟨by omega, by omega⟩, by omega, by omega, by omega⟩)⟩, hA.sub (List.Sublist.cons _ (List.Sublist.refl _))⟩)
        · refine T.condT rfl (by simp; omega) ?_
          repeat (first | refine za rfl rfl ?_ | refine zb rfl ?_ | refine zc rfl ?_)
          exact T.ret Tryz.func6 rfl (fun w' hA => ⟨false, rfl, fun e => Bool.noConfusion e, hA.sub (by simp)⟩)
  refine T.condF rfl (by simpa using hjl) ?_
  have hjq : j = (secs m i).length := by omega
  subst hjq
  repeat (first | refine za rfl rfl ?_ | refine zb rfl ?_ | refine zc rfl ?_)
  rw [add1_i64 (a := i) (by omega)]
  exact T.again ih (i + 1) (by omega) ⟨rfl, rfl, rfl, rfl, trivial⟩ (fun w' hA => ⟨⟨hlt, upR hall hall2⟩, hA⟩)
end X
end Go.Proofs.YtifnodoffgfpbaaGreatDoor
