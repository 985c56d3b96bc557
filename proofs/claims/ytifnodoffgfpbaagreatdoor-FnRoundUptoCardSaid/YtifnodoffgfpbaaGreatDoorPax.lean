/- Texts U19, V1, V2. Contracts: records are turned back; impl.Unpack. -/
import Derived.Test.YtifnodoffgfpbaaGreatDoorPav
import Derived.Test.YtifnodoffgfpbaaGreatDoorPaw
namespace Go.Proofs.YtifnodoffgfpbaaGreatDoor
open Go
namespace X
theorem el26 : Elem Tryz.prog 26 98 16 168 := elem_of (by kernel_rfl)
theorem sl26 : (∃ e2, Tryz.prog.underlying 26 = some (.slice e2)) ∨ Tryz.prog.underlying 26 = some .string := .inl ⟨_, Tryz.underlying26⟩
theorem norm_len {r : Rc} {len : Nat} : (norm r len).kind = r.kind := by unfold norm; split <;> rfl
/-- What comes back of records. -/
structure NormL (rs ns : List Rc) : Prop where
  len : ns.length = rs.length
  all : ∀ j r, nth rs j = some r → ∃ len, len < 65536 ∧ nth ns j = some (norm r len)
def SlU (H : View) (v : Value) (rs : List Rc) : Prop := Sl H 261 (fun r us => ∃ len rb, us = rsU r len rb ∧ BodyMem H rb 0 r ∧ len < 65536) v rs
structure OR where
  i : Nat
  b : Nat
  cs : List Value
  cap : Nat
  xs : List Value
  E : Mem
  ns : List Rc
theorem nth_app {α : Type} {l : List α} {x : α} {j : Nat} (h : j < l.length) : nth (l ++ [x]) j = nth l j := by rw [nth_eq, nth_eq, List.getElem?_append_left h]
theorem nth_last {α : Type} {l : List α} {x : α} : nth (l ++ [x]) l.length = some x := by rw [nth_eq, List.getElem?_append_right (Nat.le_refl _)]; simp
theorem All.app {α : Type} {size : Nat} {Q : α → List Value → Prop} {l : List α} {x : α} {xs : List Value} (k : All size Q l l.length xs) : All size Q (l ++ [x]) l.length xs := fun j a hj ha => k j a hj (by rw [nth_app hj] at ha; exact ha)
theorem recordsOf (H : View) (rs : List Rc) (hok : ∀ r ∈ rs, r.Ok) (hlen : rs.length ≤ 40) (v : Value) (hx : SlU H v rs) :
    Ct (β := OR) Tryz.prog 38 [v] [] (fun w => View.le H (view [] w)) (fun y => .slice (some ⟨y.b, 0, none⟩) y.ns.length y.cap) (fun y _ => NormL rs y.ns ∧ SlR (mv ((y.b, .row y.cs 98) :: y.E)) (.slice (some ⟨y.b, 0, none⟩) y.ns.length y.cap) y.ns) (fun y => (y.b, .row y.cs 98) :: y.E) := by
  intro w hS hh
  obtain ⟨a, cap, hsh, hcap⟩ := hx.shape
  subst hsh
  refine calls_of_T (m := 20) Tryz.func38 rfl rfl (by simp) hS ?_
  repeat (first | refine za rfl rfl ?_ | refine zb rfl ?_ | refine zc rfl ?_)
  refine TL.bs0 el26 rfl rfl (fun b1 => ?_)
  repeat (first | refine za rfl rfl ?_ | refine zb rfl ?_ | refine zc rfl ?_)
  refine T.loop (α := OR) (fun x => [(3, .slice (some ⟨x.b, 0, none⟩) x.i x.cap), (7, .slice a rs.length cap), (8, .int .i64 (rs.length : Int)), (9, .int .i64 (x.i : Int))])
    (fun x w' => (x.i ≤ rs.length ∧ x.ns.length = x.i ∧ Own x.cs x.i x.cap 16 x.xs ∧ All 16 (RcE (mv x.E)) x.ns x.i x.xs ∧ ∀ j r, j < x.i → nth rs j = some r → ∃ len, len < 65536 ∧ nth x.ns j = some (norm r len)) ∧ St (keys []) w ((x.b, .row x.cs 98) :: x.E) w')
    (fun x => rs.length - x.i) ⟨0, b1, [], 0, [], [], []⟩ ⟨rfl, rfl, rfl, rfl, trivial⟩ (fun w' hA => ⟨⟨Nat.zero_le _, rfl, own0 16, All.zero, fun j r hj => absurd hj (Nat.not_lt_zero _)⟩, hA⟩) ?_
  rintro ⟨i, ob, ocs, ocap, oxs, E, ns⟩ ih
  refine T.and fun ⟨hi, hns, hown, hall, hnorm⟩ => ?_
  simp only at hi hns hown hall hnorm
  have hxl := hown.length
  repeat (first | refine za rfl rfl ?_ | refine zb rfl ?_ | refine zc rfl ?_)
  by_cases hlt : i < rs.length
  · refine T.condT rfl (by simpa using hlt) ?_
    obtain ⟨r, hr⟩ := nth_lt hlt
    have hrk := hok r (nth_mem hr)
    have h255 : r.name.length ≤ 255 := by have := hrk.name.len; omega
    obtain ⟨b, o, cap', cs, hv, _, hcl, hrs, len, rb, hcs, hbm, hl6⟩ := hx.at hr
    injection hv with hv1 _ hv3
    subst hv1 hv3 hcs
    repeat (first | refine za rfl rfl ?_ | refine zb rfl ?_ | refine zc rfl ?_)
    refine TL.ix (j := i) tbk rfl rfl rfl rfl rfl rfl hlt ?_
    refine TL.ldRA (hrs.mono hh) szk rfl rfl (rsU_length h255) rfl rfl ?_
    refine TL.allocZ 261 Tryz.zeroValue122 (by kernel_rfl) rfl rfl (fun lb zs hz => ?_)
    refine TL.stW (vs := rsU r len rb) 0 szk rfl rfl rfl rfl (rsU_length h255) hz rsU_one ?_
    repeat (first | refine za rfl rfl ?_ | refine zb rfl ?_ | refine zc rfl ?_)
    refine TL.ldW 0 szk rfl rfl rfl (rsU_length h255) rfl rfl ?_
    refine TL.call0 Tryz.call90 rfl rfl rfl (recordOf r hrk len rb) (fun w' hA => hbm.mono (vle hA hh)) (fun y => TL.and fun hy => ?_)
    obtain ⟨o1, o2, o3⟩ := hy.shapes
    refine TL.mono (fun w hA => hA.perm (M' := (lb, .row (rsU r len rb) 122) :: (ob, .row ocs 98) :: (y.E ++ E)) (perm_count fun p => by simp only [setN, List.countP_append, List.countP_cons, List.countP_nil]; omega)) ?_
    refine TL.bsA (cs := rcCells (norm r len) y.d y.t y.p) el26 rfl rfl (by decide) rfl rfl (fun eb => ?_)
    refine TL.append (m := 1) (news := rcCells (norm r len) y.d y.t y.p) 2 el26 sl26 rfl rfl rfl rfl rfl hown (Src.slice (fun w hA j u hj => by rw [add_zero', Nat.zero_add]; exact hA.cell (i := 0) rfl (by rw [nth_eq]; exact hj)) rfl (rcCells_one o1 o2 o3)) (by omega) (by omega) (fun ob' ocs' ocap' oown' => ?_)
    repeat (first | refine za rfl rfl ?_ | refine zb rfl ?_ | refine zc rfl ?_)
    rw [add1_i64 (a := i) (by omega)]
    refine T.again ih ⟨i + 1, ob', ocs', ocap', oxs ++ rcCells (norm r len) y.d y.t y.p, y.E ++ E, ns ++ [norm r len]⟩ (by simp; omega) ⟨rfl, rfl, rfl, rfl, trivial⟩ (fun w' hA => ?_)
    have hA' : St (keys []) w ((ob', .row ocs' 98) :: (y.E ++ E)) w' := hA.sub (List.Sublist.cons _ (List.Sublist.cons _ (List.Sublist.refl _)))
    have hnd := (List.nodup_cons.1 hA'.nd).2
    refine ⟨⟨hlt, by simp; omega, oown', ?_, fun j r' hj hr' => ?_⟩, hA'⟩
    · subst hns
      exact (hall.app.mono fun a us => RcE.mono (mv_sub hnd fun p hp => List.mem_append_right _ hp)).next hxl nth_last rfl ⟨y.d, y.t, y.p, rfl, hy.mono (mv_sub hnd fun p hp => List.mem_append_left _ hp)⟩
    · simp only at hj ⊢
      rcases Nat.lt_or_ge j i with h3 | h3
      · obtain ⟨l, l1, l2⟩ := hnorm j r' h3 hr'
        exact ⟨l, l1, by rw [nth_app (by omega)]; exact l2⟩
      · have : j = i := by omega
        subst this
        rw [hr] at hr'
        simp only [Option.some.injEq] at hr'
        subst hr'
        exact ⟨len, hl6, by rw [← hns]; exact nth_last⟩
  · refine T.condF rfl (by simpa using hlt) ?_
    have hiq : i = rs.length := by omega
    subst hiq
    repeat (first | refine za rfl rfl ?_ | refine zb rfl ?_ | refine zc rfl ?_)
    refine T.ret Tryz.func38 rfl (fun w' hA => ⟨⟨rs.length, ob, ocs, ocap, oxs, E, ns⟩, by simp only [pack]; rw [hns], ⟨⟨hns, fun j r hr => hnorm j r (by rw [nth_eq] at hr; exact (List.getElem?_eq_some_iff.1 hr).1) hr⟩, ?_⟩, hA⟩)
    rw [← hns] at hown hall
    exact (hall.mono fun a us => RcE.mono (mv_sub hA.nd fun p hp => List.mem_cons_of_mem _ hp)).sl hA.nd (i := 0) rfl hown (fun _ _ e => e)
theorem Glob7.mono {h h' : View} (hh : View.le h h') (k : Glob7 h) : Glob7 h' := let ⟨a, u, v, r, e⟩ := k; ⟨a.mono hh, u, v, r.mono hh, e⟩
/-- What comes back of a message. -/
structure NormM (m u : Ms) : Prop where
  head : u.head = m.head
  asks : u.asks = m.asks
  one : NormL m.one u.one
  two : NormL m.two u.two
  three : NormL m.three u.three
structure ZY where
  u : Ms
  av : Value
  ov : Value
  tv : Value
  rv : Value
  E : Mem
theorem build28 (h : Hd) (a0 : Option Addr) (n0 c0 : Nat) (a1 : Option Addr) (n1 c1 : Nat) (a2 : Option Addr) (n2 c2 : Nat) (a3 : Option Addr) (n3 c3 : Nat) (w : World) :
    (Instr.build 28 #[(0, .agg (hdCells h).toArray), (1, .slice a0 n0 c0), (2, .slice a1 n1 c1), (3, .slice a2 n2 c2), (4, .slice a3 n3 c3)]).run Tryz.prog w = .ok (.agg (msCells h (.slice a0 n0 c0) (.slice a1 n1 c1) (.slice a2 n2 c2) (.slice a3 n3 c3)).toArray) w := by kernel_rfl
theorem SAll.sl {y : SY} {rs : List Rc} (hok : ∀ r ∈ rs, r.Ok) (k : SAll y rs) {M : Mem} (hn : (M.map (·.1)).Nodup) (hM : ∀ p ∈ ((y.b, Ob.row y.cs 122) :: y.E), p ∈ M) : SlU (mv M) (y.s rs.length) rs := by
  obtain ⟨hown, hall⟩ := k
  refine .inr ⟨y.b, 0, y.cap, rfl, hown.le, fun j r hr => ?_⟩
  have h255 : r.name.length ≤ 255 := by have := (hok r (nth_mem hr)).name.len; omega
  obtain ⟨len, rb, h1, h2, h3⟩ := hall j r (by rw [nth_eq] at hr; exact (List.getElem?_eq_some_iff.1 hr).1) hr
  have hm := hM _ List.mem_cons_self
  obtain ⟨i, hi⟩ := List.getElem?_of_mem hm
  exact ⟨rsU r len rb, rsU_length h255, mv_own hn (i := i) (by rw [nth_eq]; exact hi) hown (fun k v hk => by rw [Nat.zero_add]; exact h1 k v hk), len, rb, rfl, h2.mono (mv_sub hn fun p hp => hM p (List.mem_cons_of_mem _ hp)), h3⟩
theorem QAll.sl {y : QY} {asks : List Ak} (hok : ∀ a ∈ asks, a.Ok) (k : QAll y asks) {M : Mem} (hn : (M.map (·.1)).Nodup) (hM : (y.b, Ob.row y.cs 79) ∈ M) : SlQ (mv M) (MY.s y asks.length) asks := by
  obtain ⟨hown, hall⟩ := k
  refine .inr ⟨y.b, 0, y.cap, rfl, hown.le, fun j a ha => ?_⟩
  have h255 : a.name.length ≤ 255 := by have := (hok a (nth_mem ha)).name.len; omega
  obtain ⟨i, hi⟩ := List.getElem?_of_mem hM
  exact ⟨qCells a.name a.typ a.cls, qCells_length h255, mv_own hn (i := i) (by rw [nth_eq]; exact hi) hown (fun k v hk => by rw [Nat.zero_add]; exact hall j a ha k v hk), rfl⟩
theorem implUnpack (h : View) (hg : Glob7 h) (m : Ms) (hm : m.Ok) (B : Bs) (hB : B.length ≤ 1000000) (h0 : 0 < B.length) (hma : MsgAt (kn B H0) m) (v : Value) (hx : SlB h v B) :
    Ct (β := ZY) Tryz.prog 11 [v] [] (fun w => View.le h (view [] w)) (fun y => .tuple #[.agg (msCells y.u.head y.av y.ov y.tv y.rv).toArray, .bool true]) (fun y _ => NormM m y.u ∧ MsIn (mv y.E) y.u y.av y.ov y.tv y.rv) (fun y => y.E) := by
  intro w hS hh
  have hfew := hm.few
  refine calls_of_T (m := 27) Tryz.func11 rfl rfl (by simp) hS ?_
  repeat (first | refine za rfl rfl ?_ | refine zb rfl ?_ | refine zc rfl ?_)
  refine TL.allocZ 14 Tryz.zeroValue28 (by kernel_rfl) rfl rfl (fun rb zs hz_ => ?_)
  repeat (first | refine za rfl rfl ?_ | refine zb rfl ?_ | refine zc rfl ?_)
  refine TL.build (v := .agg (mcells hz (.slice none 0 0) (.slice none 0 0) (.slice none 0 0) (.slice none 0 0)).toArray) (pv := []) rfl rfl rfl (fun w => by kernel_rfl) ?_
  refine TL.allocZ 14 Tryz.zeroValue72 (by kernel_rfl) rfl rfl (fun mb zs2 hz2 => ?_)
  refine TL.stW (vs := mcells hz (.slice none 0 0) (.slice none 0 0) (.slice none 0 0) (.slice none 0 0)) 0 szk rfl rfl rfl rfl rfl hz2 (mcells_one rfl rfl rfl rfl) ?_
  repeat (first | refine za rfl rfl ?_ | refine zb rfl ?_ | refine zc rfl ?_)
  refine TL.appendNil (m := B.length) (news := B.map bv) el37 sl37 rfl rfl rfl rfl (SlB.src (hx.mono hh)) h0 (by omega) (by omega) (fun db dcs dcap down => ?_)
  repeat (first | refine za rfl rfl ?_ | refine zb rfl ?_ | refine zc rfl ?_)
  refine TL.call1 1 Tryz.call35 rfl rfl rfl rfl (msgUnpack mb db dcap B hB down.le m hm hma) (fun w' hA => ⟨hA.view (i := 0) rfl (by have := hA.ne (i := 0) (j := 1) rfl rfl (by decide); simpa using this) (fun j u hj => by rw [Nat.zero_add]; exact down.nth hj), hg.mono (hh.trans (st_viewLe hA (Mc := [(mb, .row (mcells hz (.slice none 0 0) (.slice none 0 0) (.slice none 0 0) (.slice none 0 0)) 72)]) fun _ hp => by simp at hp; subst hp; simp [setN]))⟩) (fun y => TL.and fun ⟨hq, ha, hb, hc⟩ => ?_)
  refine TL.mono (fun w hA => (hA.perm (M' := (db, .row dcs 5) :: (mb, .row (mcells m.head (MY.s y.q m.asks.length) (y.a.s m.one.length) (y.b.s m.two.length) (y.c.s m.three.length)) 72) :: (rb, .row zs 28) :: y.mem) (perm_count fun p => by simp only [setN, List.countP_append, List.countP_cons, List.countP_nil]; omega)).sub (List.Sublist.cons _ (List.Sublist.refl _))) ?_
  refine TL.fact (fun w' hA => ((List.nodup_cons.1 (List.nodup_cons.1 hA.nd).2).2 : (y.mem.map (·.1)).Nodup)) fun hnd => ?_
  have hQ := hq.sl hm.asks hnd (by simp [MY.mem])
  have hA1 := ha.sl hm.one hnd (fun p hp => List.mem_append_right _ (List.mem_append_left _ hp))
  have hA2 := hb.sl hm.two hnd (fun p hp => List.mem_append_right _ (List.mem_append_right _ (List.mem_append_left _ hp)))
  have hA3 := hc.sl hm.three hnd (fun p hp => List.mem_append_right _ (List.mem_append_right _ (List.mem_append_right _ hp)))
  generalize hY : y.mem = YM at hnd hQ hA1 hA2 hA3
  have hin : ∀ {w' : World} {M : Mem}, St (keys []) w M w' → (∀ p ∈ YM, p ∈ M) → View.le (mv YM) (view [] w') := fun hA hs => (mv_sub hA.nd hs).trans (mv_in hA)
  repeat (first | refine za rfl rfl ?_ | refine zb rfl ?_ | refine zc rfl ?_)
  refine T.condF rfl rfl ?_
  repeat (first | refine za rfl rfl ?_ | refine zb rfl ?_ | refine zc rfl ?_)
  refine TS.start [(0, true), (1, true), (3, true), (4, true), (6, true), (7, true), (9, true), (10, true), (12, true), (13, true), (2, false), (5, false), (8, false), (11, false), (14, false), (15, true), (16, false), (17, true)] [(mb, .row (mcells m.head (MY.s y.q m.asks.length) (y.a.s m.one.length) (y.b.s m.two.length) (y.c.s m.three.length)) 72)] mixed (by kernel_rfl) (by kernel_rfl) (by decide) (by simp) ?_
  refine TS.p tbk rfl rfl ?_
  refine TS.y rfl rfl rfl rfl (Y.loadA (vs := hdCells m.head) szk rfl rfl rfl (fun w h i v hv => h.cell (i := 0) rfl (by simp only [Nat.zero_add]; rw [nth_eq] at hv ⊢; exact (List.getElem?_append_left (List.getElem?_eq_some_iff.1 hv).1).trans hv))) ?_
  refine TS.p tbk rfl rfl ?_
  refine TS.y rfl rfl rfl rfl (Y.load szk rfl rfl (fun w h => h.cell (i := 0) rfl rfl)) ?_
  refine TS.p tbk rfl rfl ?_
  refine TS.y rfl rfl rfl rfl (Y.load szk rfl rfl (fun w h => h.cell (i := 0) rfl rfl)) ?_
  refine TS.p tbk rfl rfl ?_
  refine TS.y rfl rfl rfl rfl (Y.load szk rfl rfl (fun w h => h.cell (i := 0) rfl rfl)) ?_
  refine TS.p tbk rfl rfl ?_
  refine TS.y rfl rfl rfl rfl (Y.load szk rfl rfl (fun w h => h.cell (i := 0) rfl rfl)) ?_
  refine TS.call0 rfl Tryz.call36 rfl rfl rfl (headOfH m.head) (fun _ _ => trivial) (fun _ => by simp) (fun _ => TS.and fun _ => ?_)
  refine TS.call0 rfl Tryz.call37 rfl rfl rfl (asksOf m.asks hm.asks (by omega) _) (fun w' hA => hQ.mono (hin hA fun p hp => List.mem_append_right _ (List.mem_cons_of_mem _ (List.mem_cons_of_mem _ hp)))) (fun _ => by simp) (fun z0 => TS.and fun g0 => ?_)
  refine TS.call0 rfl Tryz.call38 rfl rfl rfl (recordsOf (mv YM) m.one hm.one (by omega) _ hA1) (fun w' hA => hin hA fun p hp => List.mem_append_right _ (List.mem_append_right _ (List.mem_cons_of_mem _ (List.mem_cons_of_mem _ hp)))) (fun _ => by simp) (fun z1 => TS.and fun g1 => ?_)
  refine TS.call0 rfl Tryz.call38 rfl rfl rfl (recordsOf (mv YM) m.two hm.two (by omega) _ hA2) (fun w' hA => hin hA fun p hp => List.mem_append_right _ (List.mem_append_right _ (List.mem_append_right _ (List.mem_cons_of_mem _ (List.mem_cons_of_mem _ hp))))) (fun _ => by simp) (fun z2 => TS.and fun g2 => ?_)
  refine TS.call0 rfl Tryz.call38 rfl rfl rfl (recordsOf (mv YM) m.three hm.three (by omega) _ hA3) (fun w' hA => hin hA fun p hp => List.mem_append_right _ (List.mem_append_right _ (List.mem_append_right _ (List.mem_append_right _ (List.mem_cons_of_mem _ (List.mem_cons_of_mem _ hp)))))) (fun _ => by simp) (fun z3 => TS.and fun g3 => ?_)
  refine TS.y rfl rfl rfl rfl (Y.build (pv := [(0, .agg (hdCells m.head).toArray), (1, .slice (some ⟨z0.b, 0, none⟩) m.asks.length z0.cap), (2, .slice (some ⟨z1.b, 0, none⟩) z1.ns.length z1.cap), (3, .slice (some ⟨z2.b, 0, none⟩) z2.ns.length z2.cap), (4, .slice (some ⟨z3.b, 0, none⟩) z3.ns.length z3.cap)]) rfl (build28 m.head _ _ _ _ _ _ _ _ _ _ _ _)) ?_
  refine TS.mono (fun w hA => hA.perm (M' := (rb, .row zs 28) :: (mb, .row (mcells m.head (MY.s y.q m.asks.length) (y.a.s m.one.length) (y.b.s m.two.length) (y.c.s m.three.length)) 72) :: (YM ++ ([(z0.b, .row z0.cs 51)] ++ (((z1.b, .row z1.cs 98) :: z1.E) ++ (((z2.b, .row z2.cs 98) :: z2.E) ++ ((z3.b, .row z3.cs 98) :: z3.E)))))) (perm_count fun p => by simp only [List.countP_append, List.countP_cons, List.countP_nil]; omega)) ?_
  refine TS.stW (us := msCells m.head (.slice (some ⟨z0.b, 0, none⟩) m.asks.length z0.cap) (.slice (some ⟨z1.b, 0, none⟩) z1.ns.length z1.cap) (.slice (some ⟨z2.b, 0, none⟩) z2.ns.length z2.cap) (.slice (some ⟨z3.b, 0, none⟩) z3.ns.length z3.cap)) 0 rfl szk rfl rfl rfl rfl rfl hz_ (mcells_one rfl rfl rfl rfl) (by simp [setN]) ?_
  refine TS.p tbk rfl rfl ?_
  refine TS.nil ?_
  repeat (first | refine za rfl rfl ?_ | refine zb rfl ?_ | refine zc rfl ?_)
  refine T.retG Tryz.func11 (.cons (RV.cellW 0 szk rfl rfl rfl rfl) (.cons (RV.tmp rfl) .nil)) (fun w' hA => ⟨⟨⟨m.head, m.asks, z1.ns, z2.ns, z3.ns⟩, .slice (some ⟨z0.b, 0, none⟩) m.asks.length z0.cap, .slice (some ⟨z1.b, 0, none⟩) z1.ns.length z1.cap, .slice (some ⟨z2.b, 0, none⟩) z2.ns.length z2.cap, .slice (some ⟨z3.b, 0, none⟩) z3.ns.length z3.cap, [(z0.b, .row z0.cs 51)] ++ (((z1.b, .row z1.cs 98) :: z1.E) ++ (((z2.b, .row z2.cs 98) :: z2.E) ++ ((z3.b, .row z3.cs 98) :: z3.E)))⟩, rfl, ⟨⟨rfl, rfl, g1.1, g2.1, g3.1⟩, ?_⟩, hA.sub (List.Sublist.cons _ (List.Sublist.cons _ (List.sublist_append_right _ _)))⟩)
  have hA' := (hA.sub (List.Sublist.cons _ (List.Sublist.cons _ (List.sublist_append_right _ _)))).nd
  exact ⟨g0.mono (mv_sub hA' fun p hp => List.mem_append_left _ hp), g1.2.mono (mv_sub hA' fun p hp => List.mem_append_right _ (List.mem_append_left _ hp)), g2.2.mono (mv_sub hA' fun p hp => List.mem_append_right _ (List.mem_append_right _ (List.mem_append_left _ hp))), g3.2.mono (mv_sub hA' fun p hp => List.mem_append_right _ (List.mem_append_right _ (List.mem_append_right _ hp)))⟩
end X
namespace X
theorem fix_fix (n : Nat) (d : Bs) : fix n (fix n d) = fix n d := by
  have h := fix_length n d
  unfold fix at h ⊢
  rw [List.take_of_length_le (by omega), h, Nat.sub_self]; simp
theorem fix_le (n : Nat) (d : Bs) : (fix n d).length ≤ n := by rw [fix_length]; exact Nat.le_refl _
theorem kc {r : Rc} (h1 : 1 ≤ r.kind) (h2 : r.kind ≤ 13) : r.kind = 1 ∨ r.kind = 2 ∨ r.kind = 3 ∨ r.kind = 4 ∨ r.kind = 5 ∨ r.kind = 6 ∨ r.kind = 7 ∨ r.kind = 8 ∨ r.kind = 9 ∨ r.kind = 10 ∨ r.kind = 11 ∨ r.kind = 12 ∨ r.kind = 13 := kinds13 h1 h2
theorem norm_type (r : Rc) (len : Nat) : typeOf (norm r len) = typeOf r := by
  have hk := norm_len (r := r) (len := len)
  have ht : (norm r len).typ = typeOf r := by unfold norm; split <;> rfl
  unfold typeOf at ht ⊢
  rw [hk]
  split <;> simp_all
theorem norm_head (r : Rc) (len : Nat) : (norm r len).name = r.name ∧ (norm r len).cls = r.cls ∧ (norm r len).ttl = r.ttl ∧ (norm r len).len = len := by unfold norm; split <;> exact ⟨rfl, rfl, rfl, rfl⟩
theorem norm_body {r : Rc} (h1 : 1 ≤ r.kind) (h2 : r.kind ≤ 13) (len : Nat) : bodyB (norm r len) = bodyB r := by
  have hk := norm_len (r := r) (len := len)
  unfold bodyB
  rw [hk]
  unfold norm
  rcases kc h1 h2 with k | k | k | k | k | k | k | k | k | k | k | k | k <;> rw [k] <;> simp [normZ, fix_fix, w2_mod]
theorem norm_rec {r : Rc} (h1 : 1 ≤ r.kind) (h2 : r.kind ≤ 13) (len : Nat) : recB (norm r len) = recB r := by
  obtain ⟨e1, e2, e3, _⟩ := norm_head r len
  unfold recB
  rw [e1, e2, e3, norm_type, norm_body h1 h2]
theorem typeOf_num {r : Rc} (h : r.typ < 65536) : typeOf r < 65536 := by unfold typeOf; split <;> first | exact h | decide
theorem norm_sm {r : Rc} (hs : r.Sm) {len : Nat} (hl : len < 65536) : (norm r len).Sm := by
  obtain ⟨hnum, a1, a2, a3, a4, a5, a6, a7, a8⟩ := hs
  obtain ⟨b1, b2, b3, b4, b5, b6, b7, b8, b9, b10⟩ := hnum
  have t1 := typeOf_num b1
  have f4 : (fix 4 r.data).length ≤ 1048576 := by rw [fix_length]; decide
  have f16 : (fix 16 r.data).length ≤ 1048576 := by rw [fix_length]; decide
  have m1 : r.n1 % 65536 < 4294967296 := by omega
  have m2 : r.n2 % 65536 < 4294967296 := by omega
  have m3 : r.n3 % 65536 < 4294967296 := by omega
  unfold norm
  split <;> exact ⟨⟨by assumption, by assumption, by assumption, hl, by first | assumption | (show 0 < 4294967296; decide), by first | assumption | (show 0 < 4294967296; decide), by first | assumption | (show 0 < 4294967296; decide), by first | assumption | (show 0 < 4294967296; decide), by first | assumption | (show 0 < 4294967296; decide), by first | assumption | exact fun p hp => absurd hp (by simp [normZ])⟩,
    by assumption, by first | assumption | simp [normZ], by first | assumption | simp [normZ], by first | assumption | simp [normZ], by first | assumption | simp [normZ], by first | assumption | simp [normZ], by first | assumption | simp [normZ], by first | assumption | simp [normZ]⟩
theorem norm_bd {r : Rc} (hb : r.Bd) {len : Nat} (hl : len < 65536) : (norm r len).Bd := by
  have hk := norm_len (r := r) (len := len)
  obtain ⟨hs, k1, k13, a1, a2, a3⟩ := hb
  have f4 : (fix 4 r.data).length ≤ 2000 := by rw [fix_length]; decide
  have f16 : (fix 16 r.data).length ≤ 2000 := by rw [fix_length]; decide
  refine ⟨norm_sm hs hl, by rw [hk]; exact k1, by rw [hk]; exact k13, ?_, ?_, ?_⟩ <;> unfold norm <;> split <;> first | assumption | simp [normZ, txtB, pairB]
theorem NormL.recs {rs ns : List Rc} (h : NormL rs ns) (hk : ∀ r ∈ rs, 1 ≤ r.kind ∧ r.kind ≤ 13) : recsB ns = recsB rs := by
  unfold recsB
  congr 1
  apply List.ext_getElem?
  intro j
  rw [List.getElem?_map, List.getElem?_map]
  cases hj : rs[j]? with
  | none =>
    have h1 : rs.length ≤ j := by simpa using hj
    have : ns[j]? = none := by rw [List.getElem?_eq_none_iff, h.len]; exact h1
    rw [this]
  | some r =>
    obtain ⟨len, _, h2⟩ := h.all j r (by rw [nth_eq]; exact hj)
    rw [nth_eq] at h2
    rw [h2]
    simp only [Option.map_some]
    obtain ⟨k1, k2⟩ := hk r (List.mem_of_getElem? hj)
    rw [norm_rec k1 k2]
theorem NormL.mem {rs ns : List Rc} (h : NormL rs ns) {n : Rc} (hn : n ∈ ns) : ∃ r ∈ rs, ∃ len, len < 65536 ∧ n = norm r len := by
  obtain ⟨j, hj⟩ := List.getElem?_of_mem hn
  have h1 := (List.getElem?_eq_some_iff.1 hj).1
  rw [h.len] at h1
  obtain ⟨len, h2, h3⟩ := h.all j rs[j] (by rw [nth_eq]; exact List.getElem?_eq_getElem h1)
  rw [nth_eq, hj] at h3
  exact ⟨rs[j], List.getElem_mem h1, len, h2, by simpa using h3⟩
theorem NormL.kind {rs ns : List Rc} (h : NormL rs ns) (j : Nat) (r n : Rc) (hr : nth rs j = some r) (hn : nth ns j = some n) : n.kind = r.kind := by
  obtain ⟨len, _, h3⟩ := h.all j r hr
  rw [h3] at hn
  simp only [Option.some.injEq] at hn
  subst hn; exact norm_len
theorem NormM.secs {m u : Ms} (h : NormM m u) (i : Nat) : NormL (secs m i) (secs u i) := by
  unfold X.secs
  split
  · exact h.one
  · exact h.two
  · exact h.three
theorem NormM.sm {m u : Ms} (h : NormM m u) (hs : m.Sm) : u.Sm := by
  obtain ⟨h1, h2, h3, h4, h5⟩ := h
  obtain ⟨b1, b2, b3, b4, b5, b6, b7, b8, b9, b10, b11⟩ := hs
  have aux : ∀ {rs ns : List Rc}, NormL rs ns → (∀ r ∈ rs, r.Sm) → ∀ n ∈ ns, n.Sm := fun k hr n hn => by
    obtain ⟨r, g1, len, g2, g3⟩ := k.mem hn
    subst g3; exact norm_sm (hr r g1) g2
  exact ⟨by rw [h1]; exact b1, by rw [h1]; exact b2, by rw [h1]; exact b3, by rw [h2]; exact b4, by rw [h2]; exact b5, by rw [h3.len]; exact b6, aux h3 b7, by rw [h4.len]; exact b8, aux h4 b9, by rw [h5.len]; exact b10, aux h5 b11⟩
theorem NormM.bd {m u : Ms} (h : NormM m u) (hb : m.Bd) : u.Bd :=
  ⟨h.sm hb.sm, by rw [h.asks, h.one.len, h.two.len, h.three.len]; exact hb.few, fun i n hi hn => by
    obtain ⟨r, g1, len, g2, g3⟩ := (h.secs i).mem hn
    subst g3; exact norm_bd (hb.recs i r hi g1) g2⟩
theorem NormM.same {m u : Ms} (h : NormM m u) : SameK u m := ⟨by rw [h.asks], fun i => (h.secs i).len, fun i j r r' hr hr' => (h.secs i).kind j r' r hr' hr⟩
theorem NormM.wire {m u : Ms} (h : NormM m u) (hb : m.Bd) : wireM u = wireM m := by
  have g : ∀ i, i < 3 → recsB (X.secs u i) = recsB (X.secs m i) := fun i hi => (h.secs i).recs fun r hr => ⟨(hb.recs i r hi hr).k1, (hb.recs i r hi hr).k13⟩
  unfold wireM
  rw [h.head, h.asks, h.one.len, h.two.len, h.three.len]
  simp only [recsUp]
  rw [g 0 (by decide), g 1 (by decide), g 2 (by decide)]
/-- What the three guards say is what packing asks. -/
theorem ok_of {m : Ms} (hs : m.Sm) (hg : Gd m) (hp : ∀ i r, i < 3 → r ∈ secs m i → PlOk r) (hl : (∀ a ∈ m.asks, nlab (a.name.drop 1) ≤ 10) ∧ ∀ i r, i < 3 → r ∈ secs m i → ShOk r) : m.Ok := by
  have hrec : ∀ i r, i < 3 → r ∈ secs m i → r.Ok := fun i r hi hr => by
    have h1 := secs_sm hs hr
    obtain ⟨hk, h2, h3, h4⟩ := hg.recs i r hi hr
    obtain ⟨h5, h6, h7, h8, h9⟩ := hg.ok.recs i r hi hr
    obtain ⟨l1, l2, l3⟩ := hl.2 i r hi hr
    exact ⟨h1.num, hk, h5, nlab_of h5 l1, fun e => ⟨h8 e, nlab_of (h8 e) l2⟩, fun e => ⟨h9 e, nlab_of (h9 e) l3⟩, h2, h3, h4, h6, h7, hp i r hi hr⟩
  exact ⟨hs.hid, hg.ok.head.1, hg.ok.head.2, fun a ha => ⟨(hs.ask a ha).num, hg.ok.asks a ha, nlab_of (hg.ok.asks a ha) (hl.1 a ha)⟩, fun r hr => hrec 0 r (by decide) hr, fun r hr => hrec 1 r (by decide) hr, fun r hr => hrec 2 r (by decide) hr, hg.few⟩
theorem bd_of {m : Ms} (hs : m.Sm) (hg : Gd m) : m.Bd := ⟨hs, hg.few, fun i r hi hr => (hg.recs i r hi hr).bd (secs_sm hs hr)⟩
end X
namespace X
theorem own_pos {B : Bs} {m : Ms} (h : MsgAt (kn B H0) m) : 0 < B.length := by
  have := BytesAt.len (K := kn B H0) h.head (by simp [headB, w2])
  simp [headB, w2] at this; omega
theorem wireM_ne (m : Ms) : wireM m ≠ [] := fun e => by
  have h1 := hdW_len m.head [m.asks.length, m.one.length, m.two.length, m.three.length]
  have h2 : (wireM m).length = 0 := by rw [e]; rfl
  simp only [wireM, List.length_append, h1] at h2; omega
theorem fnRound (h : View) (hg : Glob7 h) (m : Ms) (hs : m.Sm) (comp : Bool) (av ov_ tv rv : Value) (hx : MsIn h m av ov_ tv rv) : RCt 3 [.agg (msCells m.head av ov_ tv rv).toArray, .bool comp] h (.bool true) := by
  intro w hS hh
  obtain ⟨o0, o1, o2, o3⟩ := hx.shapes
  refine calls_of_T (m := 90) Tryz.func3 rfl rfl (by simp) hS ?_
  repeat (first | refine za rfl rfl ?_ | refine zb rfl ?_ | refine zc rfl ?_)
  refine TL.box (cs := msCells m.head av ov_ tv rv) rfl rfl rfl rfl (fun xb => ?_)
  repeat (first | refine za rfl rfl ?_ | refine zb rfl ?_ | refine zc rfl ?_)
  refine TL.ldW (cs := msCells m.head av ov_ tv rv) 0 szk rfl rfl rfl rfl rfl rfl ?_
  refine TL.call0 Tryz.call4 rfl rfl rfl (fits1 h m hs av ov_ tv rv hx) (fun w' hA => vle hA hh) (fun _ => TL.and fun _ => ?_)
  repeat (first | refine za rfl rfl ?_ | refine zb rfl ?_ | refine zc rfl ?_)
  refine T.condF rfl rfl ?_
  repeat (first | refine za rfl rfl ?_ | refine zb rfl ?_ | refine zc rfl ?_)
  refine TL.ldW (cs := msCells m.head av ov_ tv rv) 0 szk rfl rfl rfl rfl rfl rfl ?_
  refine TL.call0 Tryz.call5 rfl rfl rfl (conv h m hs av ov_ tv rv hx) (fun w' hA => vle hA hh) (fun y => TL.and fun hy => ?_)
  obtain ⟨x0, x1, x2, x3⟩ := hy.shapes
  generalize hYM : y.mem = YM at hy
  generalize y.qv = qv at *
  generalize y.R1.s m.one.length = s1 at *
  generalize y.R2.s m.two.length = s2 at *
  generalize y.R3.s m.three.length = s3 at *
  refine TL.allocZ 14 Tryz.zeroValue34 (by kernel_rfl) rfl rfl (fun sb zs hz => ?_)
  refine TL.stW (vs := msCells m.head qv s1 s2 s3) 0 szk rfl rfl rfl rfl rfl hz (mcells_one x0 x1 x2 x3) ?_
  refine TL.mono (fun w hA => hA.perm (M' := (sb, .row (msCells m.head qv s1 s2 s3) 34) :: (xb, .row (msCells m.head av ov_ tv rv) 28) :: YM) (perm_count fun p => by simp only [setN, hYM, List.countP_append, List.countP_cons, List.countP_nil]; omega)) ?_
  have hin : ∀ {w' : World} {M : Mem}, St (keys []) w M w' → (∀ p ∈ YM, p ∈ M) → View.le (ov (mv YM) h) (view [] w') := fun hA hs => ov_in hA hh hs
  clear hYM
  repeat (first | refine za rfl rfl ?_ | refine zb rfl ?_ | refine zc rfl ?_)
  refine TL.ldW (cs := msCells m.head qv s1 s2 s3) 0 szk rfl rfl rfl rfl rfl rfl ?_
  refine TL.call0 Tryz.call6 rfl rfl rfl (fewC (ov (mv YM) h) m hs _ _ _ _ hy) (fun w' hA => hin hA fun p hp => List.mem_cons_of_mem _ (List.mem_cons_of_mem _ hp)) (fun b1 => TL.and fun hb1 => ?_)
  cases b1
  · repeat (first | refine za rfl rfl ?_ | refine zb rfl ?_ | refine zc rfl ?_)
    refine T.condT rfl rfl ?_
    repeat (first | refine za rfl rfl ?_ | refine zb rfl ?_ | refine zc rfl ?_)
    exact T.ret Tryz.func3 rfl (fun w' hA => ⟨(), rfl, trivial, hA.sub (List.nil_sublist _)⟩)
  repeat (first | refine za rfl rfl ?_ | refine zb rfl ?_ | refine zc rfl ?_)
  refine TL.ldW (cs := msCells m.head qv s1 s2 s3) 0 szk rfl rfl rfl rfl rfl rfl ?_
  refine TL.call0 Tryz.call7 rfl rfl rfl (plainlyC (ov (mv YM) h) m hs _ _ _ _ hy) (fun w' hA => hin hA fun p hp => List.mem_cons_of_mem _ (List.mem_cons_of_mem _ hp)) (fun b2 => TL.and fun hb2 => ?_)
  cases b2
  · repeat (first | refine za rfl rfl ?_ | refine zb rfl ?_ | refine zc rfl ?_)
    refine T.condT rfl rfl ?_
    repeat (first | refine za rfl rfl ?_ | refine zb rfl ?_ | refine zc rfl ?_)
    exact T.ret Tryz.func3 rfl (fun w' hA => ⟨(), rfl, trivial, hA.sub (List.nil_sublist _)⟩)
  repeat (first | refine za rfl rfl ?_ | refine zb rfl ?_ | refine zc rfl ?_)
  refine TL.ldW (cs := msCells m.head qv s1 s2 s3) 0 szk rfl rfl rfl rfl rfl rfl ?_
  refine TL.call0 Tryz.call8 rfl rfl rfl (shallowC (ov (mv YM) h) m hs _ _ _ _ hy) (fun w' hA => hin hA fun p hp => List.mem_cons_of_mem _ (List.mem_cons_of_mem _ hp)) (fun b3 => TL.and fun hb3 => ?_)
  cases b3
  · repeat (first | refine za rfl rfl ?_ | refine zb rfl ?_ | refine zc rfl ?_)
    refine T.condT rfl rfl ?_
    repeat (first | refine za rfl rfl ?_ | refine zb rfl ?_ | refine zc rfl ?_)
    exact T.ret Tryz.func3 rfl (fun w' hA => ⟨(), rfl, trivial, hA.sub (List.nil_sublist _)⟩)
  have hmo := ok_of hs (hb1 rfl) (hb2 rfl) (hb3 rfl)
  have hbd := bd_of hs (hb1 rfl)
  clear hb1 hb2 hb3
  repeat (first | refine za rfl rfl ?_ | refine zb rfl ?_ | refine zc rfl ?_)
  refine T.condF rfl rfl ?_
  repeat (first | refine za rfl rfl ?_ | refine zb rfl ?_ | refine zc rfl ?_)
  refine TL.ldW (cs := msCells m.head av ov_ tv rv) 1 szk rfl rfl rfl rfl rfl rfl ?_
  refine TL.call0 Tryz.call9 rfl rfl rfl (implPack m hmo _ av ov_ tv rv rfl) (fun w' hA => (⟨hx.asks.mono (vle hA hh), hx.one.mono (vle hA hh), hx.two.mono (vle hA hh), hx.three.mono (vle hA hh)⟩ : _ ∧ _ ∧ _ ∧ _)) (fun p1 => TL.and fun ⟨ok1, len1, at1⟩ => ?_)
  refine TL.mono (B := St (keys []) w ((p1.b, .row p1.cs 5) :: (sb, .row (msCells m.head qv s1 s2 s3) 34) :: (xb, .row (msCells m.head av ov_ tv rv) 28) :: YM)) (fun w hA => hA) ?_
  repeat (first | refine za rfl rfl ?_ | refine zb rfl ?_ | refine zc rfl ?_)
  refine TL.ldW (cs := msCells m.head av ov_ tv rv) 2 szk rfl rfl rfl rfl rfl rfl ?_
  repeat (first | refine za rfl rfl ?_ | refine zb rfl ?_ | refine zc rfl ?_)
  refine TL.call0 Tryz.call10 rfl rfl rfl (implBuild m hmo comp _ av ov_ tv rv rfl) (fun w' hA => (⟨(hg.mono (vle hA hh)).six, hx.asks.mono (vle hA hh), hx.one.mono (vle hA hh), hx.two.mono (vle hA hh), hx.three.mono (vle hA hh)⟩ : _ ∧ _ ∧ _ ∧ _ ∧ _)) (fun p2 => TL.and fun ⟨ok2, len2, at2⟩ => ?_)
  refine TL.mono (B := St (keys []) w ((p2.b, .row p2.cs 5) :: (p1.b, .row p1.cs 5) :: (sb, .row (msCells m.head qv s1 s2 s3) 34) :: (xb, .row (msCells m.head av ov_ tv rv) 28) :: YM)) (fun w hA => hA) ?_
  repeat (first | refine za rfl rfl ?_ | refine zb rfl ?_ | refine zc rfl ?_)
  refine TL.fact (fun w' hA => (⟨SlB.in (h := h) hA (i := 1) rfl ok1.own, ov_right hA hh⟩ : _ ∧ _)) fun ⟨hB1, hov⟩ => ?_
  refine TL.call0 Tryz.call11 rfl rfl rfl (implUnpack _ (hg.mono hov) m hmo p1.B (by omega) (own_pos at1) at1 p1.sl hB1) (fun w' hA => ov_in hA hh fun p hp => hp) (fun z1 => TL.and fun ⟨n1, i1⟩ => ?_)
  clear hB1 hov
  refine TL.fact (fun w' hA => ov_right (E := z1.E) (hA.sub (List.sublist_append_left _ _)) hh) fun hh1 => ?_
  obtain ⟨u0, u1, u2, u3⟩ := i1.shapes
  repeat (first | refine za rfl rfl ?_ | refine zb rfl ?_ | refine zc rfl ?_)
  refine TL.allocZ 14 Tryz.zeroValue28 (by kernel_rfl) rfl rfl (fun ub zs1 hz1 => ?_)
  refine TL.stW (vs := msCells z1.u.head z1.av z1.ov z1.tv z1.rv) 0 szk rfl rfl rfl rfl rfl hz1 (mcells_one u0 u1 u2 u3) ?_
  refine TL.mono (fun w hA => hA.perm (M' := (ub, .row (msCells z1.u.head z1.av z1.ov z1.tv z1.rv) 28) :: (p2.b, .row p2.cs 5) :: (sb, .row (msCells m.head qv s1 s2 s3) 34) :: (xb, .row (msCells m.head av ov_ tv rv) 28) :: ((p1.b, .row p1.cs 5) :: (z1.E ++ YM))) (perm_count fun p => by simp only [setN, List.countP_append, List.countP_cons, List.countP_nil]; omega)) ?_
  repeat (first | refine za rfl rfl ?_ | refine zb rfl ?_ | refine zc rfl ?_)
  refine TL.fact (fun w' hA => (⟨SlB.in (h := h) hA (i := 1) rfl ok2.own, ov_right hA hh⟩ : _ ∧ _)) fun ⟨hB2, hov⟩ => ?_
  refine TL.call0 Tryz.call11 rfl rfl rfl (implUnpack _ (hg.mono hov) m hmo p2.B (by omega) (own_pos at2) at2 p2.sl hB2) (fun w' hA => ov_in hA hh fun p hp => hp) (fun z2 => TL.and fun ⟨n2, i2⟩ => ?_)
  clear hB2 hov
  refine TL.fact (fun w' hA => ov_right (E := z2.E) (hA.sub (List.sublist_append_left _ _)) hh) fun hh2 => ?_
  obtain ⟨v0, v1, v2, v3⟩ := i2.shapes
  repeat (first | refine za rfl rfl ?_ | refine zb rfl ?_ | refine zc rfl ?_)
  refine TL.allocZ 14 Tryz.zeroValue28 (by kernel_rfl) rfl rfl (fun vb zs2 hz2 => ?_)
  refine TL.stW (vs := msCells z2.u.head z2.av z2.ov z2.tv z2.rv) 0 szk rfl rfl rfl rfl rfl hz2 (mcells_one v0 v1 v2 v3) ?_
  refine TL.mono (fun w hA => (hA.perm (M' := (p2.b, .row p2.cs 5) :: (p1.b, .row p1.cs 5) :: (vb, .row (msCells z2.u.head z2.av z2.ov z2.tv z2.rv) 28) :: (ub, .row (msCells z1.u.head z1.av z1.ov z1.tv z1.rv) 28) :: (sb, .row (msCells m.head qv s1 s2 s3) 34) :: (xb, .row (msCells m.head av ov_ tv rv) 28) :: (z2.E ++ (z1.E ++ YM))) (perm_count fun p => by simp only [setN, List.countP_append, List.countP_cons, List.countP_nil]; omega)).sub (List.Sublist.cons _ (List.Sublist.cons _ (List.Sublist.refl _)))) ?_
  repeat (first | refine za rfl rfl ?_ | refine zb rfl ?_ | refine zc rfl ?_)
  refine TL.ldW (cs := msCells m.head qv s1 s2 s3) 2 szk rfl rfl rfl rfl rfl rfl ?_
  refine TL.call0 Tryz.call12 rfl rfl rfl (messageC (ov (mv YM) h) m hbd _ _ _ _ hy) (fun w' hA => hin hA fun p hp => List.mem_cons_of_mem _ (List.mem_cons_of_mem _ (List.mem_cons_of_mem _ (List.mem_cons_of_mem _ (List.mem_append_right _ (List.mem_append_right _ hp)))))) (fun y0 => TL.and fun q0 => ?_)
  refine TL.mono (B := St (keys []) w ((y0.1, .row y0.2.1 5) :: (vb, .row (msCells z2.u.head z2.av z2.ov z2.tv z2.rv) 28) :: (ub, .row (msCells z1.u.head z1.av z1.ov z1.tv z1.rv) 28) :: (sb, .row (msCells m.head qv s1 s2 s3) 34) :: (xb, .row (msCells m.head av ov_ tv rv) 28) :: (z2.E ++ (z1.E ++ YM)))) (fun w hA => hA) ?_
  have hm1 : ∀ {a b c d e : Nat × Ob}, ∀ p ∈ z1.E, p ∈ a :: b :: c :: d :: e :: (z2.E ++ (z1.E ++ YM)) := fun p hp => List.mem_cons_of_mem _ (List.mem_cons_of_mem _ (List.mem_cons_of_mem _ (List.mem_cons_of_mem _ (List.mem_cons_of_mem _ (List.mem_append_right _ (List.mem_append_left _ hp))))))
  have hm2 : ∀ {a b c d e : Nat × Ob}, ∀ p ∈ z2.E, p ∈ a :: b :: c :: d :: e :: (z2.E ++ (z1.E ++ YM)) := fun p hp => List.mem_cons_of_mem _ (List.mem_cons_of_mem _ (List.mem_cons_of_mem _ (List.mem_cons_of_mem _ (List.mem_cons_of_mem _ (List.mem_append_left _ hp)))))
  have hj1 := i1.mono (ov_left (mv z1.E) h)
  have hj2 := i2.mono (ov_left (mv z2.E) h)
  repeat (first | refine za rfl rfl ?_ | refine zb rfl ?_ | refine zc rfl ?_)
  refine TL.ldW (cs := msCells z1.u.head z1.av z1.ov z1.tv z1.rv) 2 szk rfl rfl rfl rfl rfl rfl ?_
  refine TL.ldW (cs := msCells m.head av ov_ tv rv) 4 szk rfl rfl rfl rfl rfl rfl ?_
  refine TL.call0 Tryz.call13 rfl rfl rfl (kindsC (ov (mv z1.E) h) z1.u m (n1.sm hs) n1.same _ _ _ _ hj1 _ _ _ _ (hx.mono hh1)) (fun w' hA => ov_in hA hh hm1) (fun _ => TL.and fun _ => ?_)
  repeat (first | refine za rfl rfl ?_ | refine zb rfl ?_ | refine zc rfl ?_)
  refine TL.ldW (cs := msCells z2.u.head z2.av z2.ov z2.tv z2.rv) 1 szk rfl rfl rfl rfl rfl rfl ?_
  refine TL.ldW (cs := msCells m.head av ov_ tv rv) 4 szk rfl rfl rfl rfl rfl rfl ?_
  refine TL.call0 Tryz.call13 rfl rfl rfl (kindsC (ov (mv z2.E) h) z2.u m (n2.sm hs) n2.same _ _ _ _ hj2 _ _ _ _ (hx.mono hh2)) (fun w' hA => ov_in hA hh hm2) (fun _ => TL.and fun _ => ?_)
  repeat (first | refine za rfl rfl ?_ | refine zb rfl ?_ | refine zc rfl ?_)
  refine TL.ldW (cs := msCells z1.u.head z1.av z1.ov z1.tv z1.rv) 2 szk rfl rfl rfl rfl rfl rfl ?_
  refine TL.call0 Tryz.call5 rfl rfl rfl (conv (ov (mv z1.E) h) z1.u (n1.sm hs) _ _ _ _ hj1) (fun w' hA => ov_in hA hh hm1) (fun c1 => TL.and fun hc1 => ?_)
  refine TL.call0 Tryz.call12 rfl rfl rfl (messageC (ov (mv c1.mem) (ov (mv z1.E) h)) z1.u (n1.bd hbd) _ _ _ _ hc1) (fun w' hA => ov_le ((mv_sub hA.nd fun p hp => List.mem_append_left _ hp).trans (mv_in hA)) (ov_in hA hh fun p hp => List.mem_append_right _ (hm1 p hp))) (fun y1 => TL.and fun q1 => ?_)
  rw [n1.wire hbd] at q1 ⊢
  refine TL.mono (B := St (keys []) w ((y1.1, .row y1.2.1 5) :: (y0.1, .row y0.2.1 5) :: (vb, .row (msCells z2.u.head z2.av z2.ov z2.tv z2.rv) 28) :: (ub, .row (msCells z1.u.head z1.av z1.ov z1.tv z1.rv) 28) :: (sb, .row (msCells m.head qv s1 s2 s3) 34) :: (xb, .row (msCells m.head av ov_ tv rv) 28) :: (z2.E ++ (z1.E ++ YM)))) (fun w hA => hA.sub (List.Sublist.cons_cons _ (List.sublist_append_right _ _))) ?_
  repeat (first | refine za rfl rfl ?_ | refine zb rfl ?_ | refine zc rfl ?_)
  refine TL.fact (fun w' hA => (⟨SlB.in (h := h) hA (i := 0) rfl q1, SlB.in (h := h) hA (i := 1) rfl q0⟩ : _ ∧ _)) fun ⟨r1, r0⟩ => ?_
  refine TL.call0 Tryz.call14 rfl rfl rfl (sameC _ (wireM m) (wireM_ne m) _ _ r1 r0) (fun w' hA => ov_in hA hh fun p hp => hp) (fun _ => TL.and fun _ => ?_)
  clear r1 r0
  refine TL.mono (B := St (keys []) w ((y0.1, .row y0.2.1 5) :: (vb, .row (msCells z2.u.head z2.av z2.ov z2.tv z2.rv) 28) :: (ub, .row (msCells z1.u.head z1.av z1.ov z1.tv z1.rv) 28) :: (sb, .row (msCells m.head qv s1 s2 s3) 34) :: (xb, .row (msCells m.head av ov_ tv rv) 28) :: (z2.E ++ (z1.E ++ YM)))) (fun w hA => hA.sub (List.Sublist.cons _ (List.Sublist.refl _))) ?_
  repeat (first | refine za rfl rfl ?_ | refine zb rfl ?_ | refine zc rfl ?_)
  refine TL.ldW (cs := msCells z2.u.head z2.av z2.ov z2.tv z2.rv) 1 szk rfl rfl rfl rfl rfl rfl ?_
  refine TL.call0 Tryz.call5 rfl rfl rfl (conv (ov (mv z2.E) h) z2.u (n2.sm hs) _ _ _ _ hj2) (fun w' hA => ov_in hA hh hm2) (fun c2 => TL.and fun hc2 => ?_)
  refine TL.call0 Tryz.call12 rfl rfl rfl (messageC (ov (mv c2.mem) (ov (mv z2.E) h)) z2.u (n2.bd hbd) _ _ _ _ hc2) (fun w' hA => ov_le ((mv_sub hA.nd fun p hp => List.mem_append_left _ hp).trans (mv_in hA)) (ov_in hA hh fun p hp => List.mem_append_right _ (hm2 p hp))) (fun y2 => TL.and fun q2 => ?_)
  rw [n2.wire hbd] at q2 ⊢
  refine TL.mono (B := St (keys []) w ((y2.1, .row y2.2.1 5) :: (y0.1, .row y0.2.1 5) :: (vb, .row (msCells z2.u.head z2.av z2.ov z2.tv z2.rv) 28) :: (ub, .row (msCells z1.u.head z1.av z1.ov z1.tv z1.rv) 28) :: (sb, .row (msCells m.head qv s1 s2 s3) 34) :: (xb, .row (msCells m.head av ov_ tv rv) 28) :: (z2.E ++ (z1.E ++ YM)))) (fun w hA => hA.sub (List.Sublist.cons_cons _ (List.sublist_append_right _ _))) ?_
  repeat (first | refine za rfl rfl ?_ | refine zb rfl ?_ | refine zc rfl ?_)
  refine TL.fact (fun w' hA => (⟨SlB.in (h := h) hA (i := 0) rfl q2, SlB.in (h := h) hA (i := 1) rfl q0⟩ : _ ∧ _)) fun ⟨r2, r0⟩ => ?_
  refine TL.call0 Tryz.call14 rfl rfl rfl (sameC _ (wireM m) (wireM_ne m) _ _ r2 r0) (fun w' hA => ov_in hA hh fun p hp => hp) (fun _ => TL.and fun _ => ?_)
  repeat (first | refine za rfl rfl ?_ | refine zb rfl ?_ | refine zc rfl ?_)
  exact T.ret Tryz.func3 rfl (fun w' hA => ⟨(), rfl, trivial, hA.sub (List.nil_sublist _)⟩)
end X
end Go.Proofs.YtifnodoffgfpbaaGreatDoor
