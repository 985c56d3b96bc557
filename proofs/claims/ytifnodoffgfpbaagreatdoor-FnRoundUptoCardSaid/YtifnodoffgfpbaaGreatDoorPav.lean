/- Contracts: kinds compared; bytes compared. -/
import Derived.Test.YtifnodoffgfpbaaGreatDoorPau
namespace Go.Proofs.YtifnodoffgfpbaaGreatDoor
open Go
namespace X
/-- Two messages with records of the same kinds. -/
structure SameK (u m : Ms) : Prop where
  asks : u.asks.length = m.asks.length
  len : ∀ i, (secs u i).length = (secs m i).length
  kind : ∀ i j r r', nth (secs u i) j = some r → nth (secs m i) j = some r' → r.kind = r'.kind
theorem kindsC (h : View) (u m : Ms) (hu : u.Sm) (hk : SameK u m) (av ov_ tv rv : Value) (hx : MsIn h u av ov_ tv rv) (av' ov' tv' rv' : Value) (hx' : MsIn h m av' ov' tv' rv') :
    RCt 13 [.agg (msCells u.head av ov_ tv rv).toArray, .agg (msCells m.head av' ov' tv' rv').toArray] h (.bool true) := by
  intro w hS hh
  have n0 := hk.asks
  have n1 : u.one.length = m.one.length := hk.len 0
  have n2 : u.two.length = m.two.length := hk.len 1
  have n3 : u.three.length = m.three.length := hk.len 2
  have s1 := hu.onen
  have s2 := hu.twon
  have s3 := hu.threen
  obtain ⟨hx0, hx1, hx2, hx3⟩ := hx
  obtain ⟨hy0, hy1, hy2, hy3⟩ := hx'
  obtain ⟨a0, c0, e0, _⟩ := hx0.shape
  obtain ⟨a1, c1, e1, _⟩ := hx1.shape
  obtain ⟨a2, c2, e2, _⟩ := hx2.shape
  obtain ⟨a3, c3, e3, _⟩ := hx3.shape
  obtain ⟨a0', c0', e0', _⟩ := hy0.shape
  obtain ⟨a1', c1', e1', _⟩ := hy1.shape
  obtain ⟨a2', c2', e2', _⟩ := hy2.shape
  obtain ⟨a3', c3', e3', _⟩ := hy3.shape
  subst e0 e1 e2 e3 e0' e1' e2' e3'
  generalize hCu : msCells u.head (.slice a0 u.asks.length c0) (.slice a1 u.one.length c1) (.slice a2 u.two.length c2) (.slice a3 u.three.length c3) = Cu
  generalize hCm : msCells m.head (.slice a0' m.asks.length c0') (.slice a1' m.one.length c1') (.slice a2' m.two.length c2') (.slice a3' m.three.length c3') = Cm
  have u0 : nth Cu 10 = some (.slice a0 u.asks.length c0) := by rw [← hCu]; rfl
  have u1 : nth Cu 11 = some (.slice a1 u.one.length c1) := by rw [← hCu]; rfl
  have u2 : nth Cu 12 = some (.slice a2 u.two.length c2) := by rw [← hCu]; rfl
  have u3 : nth Cu 13 = some (.slice a3 u.three.length c3) := by rw [← hCu]; rfl
  have v0 : nth Cm 10 = some (.slice a0' m.asks.length c0') := by rw [← hCm]; rfl
  have v1 : nth Cm 11 = some (.slice a1' m.one.length c1') := by rw [← hCm]; rfl
  have v2 : nth Cm 12 = some (.slice a2' m.two.length c2') := by rw [← hCm]; rfl
  have v3 : nth Cm 13 = some (.slice a3' m.three.length c3') := by rw [← hCm]; rfl
  clear hCu hCm
  refine calls_of_T (m := 99) Tryz.func13 rfl rfl (by simp) hS ?_
  repeat (first | refine za rfl rfl ?_ | refine zb rfl ?_ | refine zc rfl ?_)
  refine TL.box (cs := Cu) rfl rfl rfl rfl (fun xb => ?_)
  refine TL.box (cs := Cm) rfl rfl rfl rfl (fun yb => ?_)
  repeat (first | refine za rfl rfl ?_ | refine zb rfl ?_ | refine zc rfl ?_)
  refine TL.ld 1 szk rfl rfl rfl u1 rfl rfl ?_
  repeat (first | refine za rfl rfl ?_ | refine zb rfl ?_ | refine zc rfl ?_)
  refine TL.ld 0 szk rfl rfl rfl v1 rfl rfl ?_
  iterate 2 refine TL.p tbk rfl ?_
  rw [show (((u.one.length : Nat) : Int) != ((m.one.length : Nat) : Int)) = false by rw [n1]; simp]
  repeat (first | refine za rfl rfl ?_ | refine zb rfl ?_ | refine zc rfl ?_)
  refine TL.ld 1 szk rfl rfl rfl u2 rfl rfl ?_
  repeat (first | refine za rfl rfl ?_ | refine zb rfl ?_ | refine zc rfl ?_)
  refine TL.ld 0 szk rfl rfl rfl v2 rfl rfl ?_
  iterate 2 refine TL.p tbk rfl ?_
  rw [show (((u.two.length : Nat) : Int) != ((m.two.length : Nat) : Int)) = false by rw [n2]; simp]
  repeat (first | refine za rfl rfl ?_ | refine zb rfl ?_ | refine zc rfl ?_)
  refine TL.ld 1 szk rfl rfl rfl u3 rfl rfl ?_
  repeat (first | refine za rfl rfl ?_ | refine zb rfl ?_ | refine zc rfl ?_)
  refine TL.ld 0 szk rfl rfl rfl v3 rfl rfl ?_
  iterate 2 refine TL.p tbk rfl ?_
  rw [show (((u.three.length : Nat) : Int) != ((m.three.length : Nat) : Int)) = false by rw [n3]; simp]
  repeat (first | refine za rfl rfl ?_ | refine zb rfl ?_ | refine zc rfl ?_)
  refine TL.ld 1 szk rfl rfl rfl u0 rfl rfl ?_
  repeat (first | refine za rfl rfl ?_ | refine zb rfl ?_ | refine zc rfl ?_)
  refine TL.ld 0 szk rfl rfl rfl v0 rfl rfl ?_
  iterate 2 refine TL.p tbk rfl ?_
  rw [show (((u.asks.length : Nat) : Int) != ((m.asks.length : Nat) : Int)) = false by rw [n0]; simp]
  repeat (first | refine za rfl rfl ?_ | refine zb rfl ?_ | refine zc rfl ?_)
  refine T.condF rfl rfl ?_
  repeat (first | refine za rfl rfl ?_ | refine zb rfl ?_ | refine zc rfl ?_)
  refine TL.ld 1 szk rfl rfl rfl u1 rfl rfl ?_
  repeat (first | refine za rfl rfl ?_ | refine zb rfl ?_ | refine zc rfl ?_)
  refine T.loop (α := Nat) (fun j => [(2, ptr xb 0), (3, ptr yb 0), (46, .slice a1 u.one.length c1), (47, .int .i64 (u.one.length : Int)), (48, .int .i64 (j : Int))])
    (fun j w' => j ≤ u.one.length ∧ St (keys []) w [(yb, .row Cm 28), (xb, .row Cu 28)] w') (fun j => u.one.length - j) 0 ⟨rfl, rfl, rfl, rfl, rfl, trivial⟩ (fun w' hA => ⟨Nat.zero_le _, hA⟩) ?_
  intro j ih
  refine T.and fun hj => ?_
  repeat (first | refine za rfl rfl ?_ | refine zb rfl ?_ | refine zc rfl ?_)
  by_cases hjl : j < u.one.length
  · refine T.condT rfl (by simpa using hjl) ?_
    obtain ⟨r, hr⟩ := nth_lt hjl
    obtain ⟨r', hr'⟩ := nth_lt (l := m.one) (by omega : j < m.one.length)
    have hkk : r.kind = r'.kind := hk.kind 0 j r r' hr hr'
    obtain ⟨b, o, cap', cs, hv, _, _, hrs, dv, tv, pv, hcs, hd, ht, hp⟩ := hx1.at hr
    injection hv with hv1 _ hv3
    subst hv1 hv3 hcs
    obtain ⟨b', o', cap'', cs', hv', _, _, hrs', dv', tv', pv', hcs', _⟩ := hy1.at hr'
    injection hv' with hv1' _ hv3'
    subst hv1' hv3' hcs'
    have hrv : RcV h r dv tv pv := ⟨hd, ht, hp⟩
    obtain ⟨q1, q2, q3⟩ := hrv.shapes
    have r2 := (hrs'.mono hh).one (i := 5) rfl rfl
    repeat (first | refine za rfl rfl ?_ | refine zb rfl ?_ | refine zc rfl ?_)
    refine TL.ix (j := j) tbk rfl rfl rfl rfl rfl rfl hjl ?_
    refine TL.ldRA (hrs.mono hh) szk rfl rfl (rcCells_len _ _ _ _) rfl rfl ?_
    refine TL.allocZ 16 Tryz.zeroValue98 rfl rfl rfl (fun lb zs hz => ?_)
    repeat (first | refine za rfl rfl ?_ | refine zb rfl ?_ | refine zc rfl ?_)
    refine TL.stW (vs := rcCells r dv tv pv) 0 szk rfl rfl rfl rfl rfl hz (rcCells_one q1 q2 q3) ?_
    repeat (first | refine za rfl rfl ?_ | refine zb rfl ?_ | refine zc rfl ?_)
    refine TS.start [(0, true), (1, true), (2, true), (3, true), (4, true), (5, true), (6, true), (7, true), (8, true)] [(lb, .row (rcCells r dv tv pv) 98), (yb, .row Cm 28)] mixed (by kernel_rfl) (by kernel_rfl) (by decide) (by simp [setN]) ?_
    refine TS.p tbk rfl rfl ?_
    refine TS.y rfl rfl rfl rfl (Y.load szk rfl rfl (fun w h => h.cell (i := 0) rfl rfl)) ?_
    refine TS.p tbk rfl rfl ?_
    refine TS.y rfl rfl rfl rfl (Y.load szk rfl rfl (fun w h => h.cell (i := 1) rfl v1)) ?_
    refine TS.p tbk rfl rfl ?_
    refine TS.y rfl rfl rfl rfl (Y.ix (j := j) tbk rfl rfl rfl rfl (by omega)) ?_
    refine TS.p tbk rfl rfl ?_
    refine TS.y rfl rfl rfl rfl (Y.load szk rfl rfl (fun w h => r2.cell h.1 (i := 0) rfl)) ?_
    refine TS.p tbk rfl rfl ?_
    refine TS.nil ?_
    repeat (first | refine za rfl rfl ?_ | refine zb rfl ?_ | refine zc rfl ?_)
    refine T.condF rfl (by rw [hkk]; simp) ?_
    repeat (first | refine za rfl rfl ?_ | refine zb rfl ?_ | refine zc rfl ?_)
    rw [add1_i64 (a := j) (by omega)]
    exact T.again ih (j + 1) (by omega) ⟨rfl, rfl, rfl, rfl, rfl, trivial⟩ (fun w' hA => ⟨hjl, hA.sub (List.Sublist.cons _ (List.Sublist.refl _))⟩)
  refine T.condF rfl (by simpa using hjl) ?_
  clear ih
  repeat (first | refine za rfl rfl ?_ | refine zb rfl ?_ | refine zc rfl ?_)
  refine TL.ld 1 szk rfl rfl rfl u2 rfl rfl ?_
  repeat (first | refine za rfl rfl ?_ | refine zb rfl ?_ | refine zc rfl ?_)
  refine T.loop (α := Nat) (fun j => [(2, ptr xb 0), (3, ptr yb 0), (64, .slice a2 u.two.length c2), (65, .int .i64 (u.two.length : Int)), (66, .int .i64 (j : Int))])
    (fun j w' => j ≤ u.two.length ∧ St (keys []) w [(yb, .row Cm 28), (xb, .row Cu 28)] w') (fun j => u.two.length - j) 0 ⟨rfl, rfl, rfl, rfl, rfl, trivial⟩ (fun w' hA => ⟨Nat.zero_le _, hA⟩) ?_
  intro j ih
  refine T.and fun hj => ?_
  repeat (first | refine za rfl rfl ?_ | refine zb rfl ?_ | refine zc rfl ?_)
  by_cases hjl : j < u.two.length
  · refine T.condT rfl (by simpa using hjl) ?_
    obtain ⟨r, hr⟩ := nth_lt hjl
    obtain ⟨r', hr'⟩ := nth_lt (l := m.two) (by omega : j < m.two.length)
    have hkk : r.kind = r'.kind := hk.kind 1 j r r' hr hr'
    obtain ⟨b, o, cap', cs, hv, _, _, hrs, dv, tv, pv, hcs, hd, ht, hp⟩ := hx2.at hr
    injection hv with hv1 _ hv3
    subst hv1 hv3 hcs
    obtain ⟨b', o', cap'', cs', hv', _, _, hrs', dv', tv', pv', hcs', _⟩ := hy2.at hr'
    injection hv' with hv1' _ hv3'
    subst hv1' hv3' hcs'
    have hrv : RcV h r dv tv pv := ⟨hd, ht, hp⟩
    obtain ⟨q1, q2, q3⟩ := hrv.shapes
    have r2 := (hrs'.mono hh).one (i := 5) rfl rfl
    repeat (first | refine za rfl rfl ?_ | refine zb rfl ?_ | refine zc rfl ?_)
    refine TL.ix (j := j) tbk rfl rfl rfl rfl rfl rfl hjl ?_
    refine TL.ldRA (hrs.mono hh) szk rfl rfl (rcCells_len _ _ _ _) rfl rfl ?_
    refine TL.allocZ 16 Tryz.zeroValue98 rfl rfl rfl (fun lb zs hz => ?_)
    repeat (first | refine za rfl rfl ?_ | refine zb rfl ?_ | refine zc rfl ?_)
    refine TL.stW (vs := rcCells r dv tv pv) 0 szk rfl rfl rfl rfl rfl hz (rcCells_one q1 q2 q3) ?_
    repeat (first | refine za rfl rfl ?_ | refine zb rfl ?_ | refine zc rfl ?_)
    refine TS.start [(0, true), (1, true), (2, true), (3, true), (4, true), (5, true), (6, true), (7, true), (8, true)] [(lb, .row (rcCells r dv tv pv) 98), (yb, .row Cm 28)] mixed (by kernel_rfl) (by kernel_rfl) (by decide) (by simp [setN]) ?_
    refine TS.p tbk rfl rfl ?_
    refine TS.y rfl rfl rfl rfl (Y.load szk rfl rfl (fun w h => h.cell (i := 0) rfl rfl)) ?_
    refine TS.p tbk rfl rfl ?_
    refine TS.y rfl rfl rfl rfl (Y.load szk rfl rfl (fun w h => h.cell (i := 1) rfl v2)) ?_
    refine TS.p tbk rfl rfl ?_
    refine TS.y rfl rfl rfl rfl (Y.ix (j := j) tbk rfl rfl rfl rfl (by omega)) ?_
    refine TS.p tbk rfl rfl ?_
    refine TS.y rfl rfl rfl rfl (Y.load szk rfl rfl (fun w h => r2.cell h.1 (i := 0) rfl)) ?_
    refine TS.p tbk rfl rfl ?_
    refine TS.nil ?_
    repeat (first | refine za rfl rfl ?_ | refine zb rfl ?_ | refine zc rfl ?_)
    refine T.condF rfl (by rw [hkk]; simp) ?_
    repeat (first | refine za rfl rfl ?_ | refine zb rfl ?_ | refine zc rfl ?_)
    rw [add1_i64 (a := j) (by omega)]
    exact T.again ih (j + 1) (by omega) ⟨rfl, rfl, rfl, rfl, rfl, trivial⟩ (fun w' hA => ⟨hjl, hA.sub (List.Sublist.cons _ (List.Sublist.refl _))⟩)
  refine T.condF rfl (by simpa using hjl) ?_
  clear ih
  repeat (first | refine za rfl rfl ?_ | refine zb rfl ?_ | refine zc rfl ?_)
  refine TL.ld 1 szk rfl rfl rfl u3 rfl rfl ?_
  repeat (first | refine za rfl rfl ?_ | refine zb rfl ?_ | refine zc rfl ?_)
  refine T.loop (α := Nat) (fun j => [(2, ptr xb 0), (3, ptr yb 0), (82, .slice a3 u.three.length c3), (83, .int .i64 (u.three.length : Int)), (84, .int .i64 (j : Int))])
    (fun j w' => j ≤ u.three.length ∧ St (keys []) w [(yb, .row Cm 28), (xb, .row Cu 28)] w') (fun j => u.three.length - j) 0 ⟨rfl, rfl, rfl, rfl, rfl, trivial⟩ (fun w' hA => ⟨Nat.zero_le _, hA⟩) ?_
  intro j ih
  refine T.and fun hj => ?_
  repeat (first | refine za rfl rfl ?_ | refine zb rfl ?_ | refine zc rfl ?_)
  by_cases hjl : j < u.three.length
  · refine T.condT rfl (by simpa using hjl) ?_
    obtain ⟨r, hr⟩ := nth_lt hjl
    obtain ⟨r', hr'⟩ := nth_lt (l := m.three) (by omega : j < m.three.length)
    have hkk : r.kind = r'.kind := hk.kind 2 j r r' hr hr'
    obtain ⟨b, o, cap', cs, hv, _, _, hrs, dv, tv, pv, hcs, hd, ht, hp⟩ := hx3.at hr
    injection hv with hv1 _ hv3
    subst hv1 hv3 hcs
    obtain ⟨b', o', cap'', cs', hv', _, _, hrs', dv', tv', pv', hcs', _⟩ := hy3.at hr'
    injection hv' with hv1' _ hv3'
    subst hv1' hv3' hcs'
    have hrv : RcV h r dv tv pv := ⟨hd, ht, hp⟩
    obtain ⟨q1, q2, q3⟩ := hrv.shapes
    have r2 := (hrs'.mono hh).one (i := 5) rfl rfl
    repeat (first | refine za rfl rfl ?_ | refine zb rfl ?_ | refine zc rfl ?_)
    refine TL.ix (j := j) tbk rfl rfl rfl rfl rfl rfl hjl ?_
    refine TL.ldRA (hrs.mono hh) szk rfl rfl (rcCells_len _ _ _ _) rfl rfl ?_
    refine TL.allocZ 16 Tryz.zeroValue98 rfl rfl rfl (fun lb zs hz => ?_)
    repeat (first | refine za rfl rfl ?_ | refine zb rfl ?_ | refine zc rfl ?_)
    refine TL.stW (vs := rcCells r dv tv pv) 0 szk rfl rfl rfl rfl rfl hz (rcCells_one q1 q2 q3) ?_
    repeat (first | refine za rfl rfl ?_ | refine zb rfl ?_ | refine zc rfl ?_)
    refine TS.start [(0, true), (1, true), (2, true), (3, true), (4, true), (5, true), (6, true), (7, true), (8, true)] [(lb, .row (rcCells r dv tv pv) 98), (yb, .row Cm 28)] mixed (by kernel_rfl) (by kernel_rfl) (by decide) (by simp [setN]) ?_
    refine TS.p tbk rfl rfl ?_
    refine TS.y rfl rfl rfl rfl (Y.load szk rfl rfl (fun w h => h.cell (i := 0) rfl rfl)) ?_
    refine TS.p tbk rfl rfl ?_
    refine TS.y rfl rfl rfl rfl (Y.load szk rfl rfl (fun w h => h.cell (i := 1) rfl v3)) ?_
    refine TS.p tbk rfl rfl ?_
    refine TS.y rfl rfl rfl rfl (Y.ix (j := j) tbk rfl rfl rfl rfl (by omega)) ?_
    refine TS.p tbk rfl rfl ?_
    refine TS.y rfl rfl rfl rfl (Y.load szk rfl rfl (fun w h => r2.cell h.1 (i := 0) rfl)) ?_
    refine TS.p tbk rfl rfl ?_
    refine TS.nil ?_
    repeat (first | refine za rfl rfl ?_ | refine zb rfl ?_ | refine zc rfl ?_)
    refine T.condF rfl (by rw [hkk]; simp) ?_
    repeat (first | refine za rfl rfl ?_ | refine zb rfl ?_ | refine zc rfl ?_)
    rw [add1_i64 (a := j) (by omega)]
    exact T.again ih (j + 1) (by omega) ⟨rfl, rfl, rfl, rfl, rfl, trivial⟩ (fun w' hA => ⟨hjl, hA.sub (List.Sublist.cons _ (List.Sublist.refl _))⟩)
  refine T.condF rfl (by simpa using hjl) ?_
  clear ih
  repeat (first | refine za rfl rfl ?_ | refine zb rfl ?_ | refine zc rfl ?_)
  exact T.ret Tryz.func13 rfl (fun w hA => ⟨(), rfl, trivial, hA.sub (by simp)⟩)
theorem SlB.full {h : View} {v : Value} {B : Bs} (k : SlB h v B) (h0 : B ≠ []) : ∃ b o cap, v = .slice (some ⟨b, o, none⟩) B.length cap ∧ RowAt h b o (B.map bv) := by
  rcases k with ⟨_, e⟩ | ⟨b, o, cap, e, _, hr⟩
  · exact absurd e h0
  · exact ⟨b, o, cap, e, hr⟩
theorem sameC (h : View) (B : Bs) (h0 : B ≠ []) (v v' : Value) (hx : SlB h v B) (hx' : SlB h v' B) : RCt 14 [v, v'] h (.bool true) := by
  intro w hS hh
  obtain ⟨b, o, cap, e, hr⟩ := hx.full h0
  obtain ⟨b', o', cap', e', hr'⟩ := hx'.full h0
  subst e e'
  refine calls_of_T (m := 10) Tryz.func14 rfl rfl (by simp) hS ?_
  repeat (first | refine za rfl rfl ?_ | refine zb rfl ?_ | refine zc rfl ?_)
  refine TL.y rfl rfl rfl (Y.b2s (s := B) Tryz.underlying37 Tryz.underlying5 Tryz.underlying9 rfl rfl (fun w' hA j u hj => by rw [add_zero']; exact (hr.mono hh).cell hA.ext (by rw [nth_eq]; exact hj))) ?_
  repeat (first | refine za rfl rfl ?_ | refine zb rfl ?_ | refine zc rfl ?_)
  refine TL.y rfl rfl rfl (Y.b2s (s := B) Tryz.underlying37 Tryz.underlying5 Tryz.underlying9 rfl rfl (fun w' hA j u hj => by rw [add_zero']; exact (hr'.mono hh).cell hA.ext (by rw [nth_eq]; exact hj))) ?_
  repeat (first | refine za rfl rfl ?_ | refine zb rfl ?_ | refine zc rfl ?_)
  exact T.ret Tryz.func14 rfl (fun w hA => ⟨(), by simp [pack, str], trivial, hA⟩)
end X
end Go.Proofs.YtifnodoffgfpbaaGreatDoor
