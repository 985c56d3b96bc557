/- Texts S1, S2, S3, S4. Contracts: the guards on sizes answer true where nothing is longer than the bound. -/
import Derived.Test.YtifnodoffgfpbaaGreatDoorPaq
namespace Go.Proofs.YtifnodoffgfpbaaGreatDoor
open Go
namespace X
/-- Nothing in it is longer than the bound of the second form. -/
structure Rc.Sm (r : Rc) : Prop where
  num : r.Num
  name : r.name.length ≤ 1048576
  data : r.data.length ≤ 1048576
  host : r.host.length ≤ 1048576
  box : r.box.length ≤ 1048576
  textn : r.texts.length ≤ 1048576
  text : ∀ s ∈ r.texts, s.length ≤ 1048576
  pairn : r.pairs.length ≤ 1048576
  pair : ∀ p ∈ r.pairs, p.data.length ≤ 1048576
structure Ak.Sm (a : Ak) : Prop where
  num : a.Num
  name : a.name.length ≤ 1048576
structure Ms.Sm (m : Ms) : Prop where
  hid : m.head.id < 65536
  hop : m.head.op < 65536
  hcode : m.head.code < 65536
  askn : m.asks.length ≤ 1048576
  ask : ∀ a ∈ m.asks, a.Sm
  onen : m.one.length ≤ 1048576
  one : ∀ r ∈ m.one, r.Sm
  twon : m.two.length ≤ 1048576
  two : ∀ r ∈ m.two, r.Sm
  threen : m.three.length ≤ 1048576
  three : ∀ r ∈ m.three, r.Sm
/-- What a call does that only reads and hands back a value. -/
abbrev RCt (fn : FuncId) (args : List Value) (h : View) (v : Value) : Prop := Ct (β := Unit) Tryz.prog fn args [] (fun w => View.le h (view [] w)) (fun _ => v) (fun _ _ => True) (fun _ => [])
theorem vle {w w' : World} {M : Mem} (hA : St (keys []) w M w') {h : View} (hh : View.le h (view [] w)) : View.le h (view [] w') := hh.trans (st_viewLe hA (Mc := []) fun _ hp => by cases hp)
theorem fits8 (h : View) (p : Pr) (hp : p.data.length ≤ 1048576) (dv : Value) (hd : SlB h dv p.data) : RCt 143 [.agg #[.int .u16 (p.key : Int), dv]] h (.bool true) := by
  intro w hS hx
  obtain ⟨da, dc, hsh, _⟩ := hd.shape
  subst hsh
  refine calls_of_T (m := 7) Tryz.func143 rfl rfl (by simp) hS ?_
  repeat (first | refine za rfl rfl ?_ | refine zb rfl ?_ | refine zc rfl ?_)
  refine TL.box (cs := [.int .u16 (p.key : Int), .slice da p.data.length dc]) rfl rfl rfl rfl (fun xb => ?_)
  repeat (first | refine za rfl rfl ?_ | refine zb rfl ?_ | refine zc rfl ?_)
  refine TL.ld 0 szk rfl rfl rfl rfl rfl rfl ?_
  repeat (first | refine za rfl rfl ?_ | refine zb rfl ?_ | refine zc rfl ?_)
  refine T.condF rfl (by simp; omega) ?_
  repeat (first | refine za rfl rfl ?_ | refine zb rfl ?_ | refine zc rfl ?_)
  exact T.ret Tryz.func143 rfl (fun w hA => ⟨(), rfl, trivial, hA.sub (by simp)⟩)
theorem fits3 (h : View) (a : Ak) (hp : a.name.length ≤ 1048576) : RCt 42 [.agg (akC a).toArray] h (.bool true) := by
  intro w hS hx
  refine calls_of_T (m := 7) Tryz.func42 rfl rfl (by simp) hS ?_
  repeat (first | refine za rfl rfl ?_ | refine zb rfl ?_ | refine zc rfl ?_)
  refine TL.box (cs := akC a) rfl rfl rfl rfl (fun xb => ?_)
  repeat (first | refine za rfl rfl ?_ | refine zb rfl ?_ | refine zc rfl ?_)
  refine TL.ld 0 szk rfl rfl rfl rfl rfl rfl ?_
  repeat (first | refine za rfl rfl ?_ | refine zb rfl ?_ | refine zc rfl ?_)
  refine T.condF rfl (by simp; omega) ?_
  repeat (first | refine za rfl rfl ?_ | refine zb rfl ?_ | refine zc rfl ?_)
  exact T.ret Tryz.func42 rfl (fun w hA => ⟨(), rfl, trivial, hA.sub (by simp)⟩)
theorem fits7 (h : View) (l : List Pr) (hl : l.length ≤ 1048576) (hd : ∀ p ∈ l, p.data.length ≤ 1048576) (sv : Value) (hx : SlP h sv l) : RCt 97 [sv] h (.bool true) := by
  intro w hS hh
  obtain ⟨a, cap, hsh, hcap⟩ := hx.shape
  subst hsh
  refine calls_of_T (m := 18) Tryz.func97 rfl rfl (by simp) hS ?_
  repeat (first | refine za rfl rfl ?_ | refine zb rfl ?_ | refine zc rfl ?_)
  refine T.condF rfl (by simp; omega) ?_
  repeat (first | refine za rfl rfl ?_ | refine zb rfl ?_ | refine zc rfl ?_)
  refine T.loop (α := Nat) (fun i => [(8, .slice a l.length cap), (9, .int .i64 (l.length : Int)), (10, .int .i64 (i : Int))])
    (fun i w' => i ≤ l.length ∧ St (keys []) w [] w')
    (fun i => l.length - i) 0 ⟨rfl, rfl, rfl, trivial⟩ (fun w' hA => ⟨Nat.zero_le _, hA⟩) ?_
  intro i ih
  refine T.and fun hi => ?_
  repeat (first | refine za rfl rfl ?_ | refine zb rfl ?_ | refine zc rfl ?_)
  by_cases hlt : i < l.length
  · refine T.condT rfl (by simpa using hlt) ?_
    obtain ⟨s, hs⟩ := nth_lt hlt
    have hsm := hd s (nth_mem hs)
    obtain ⟨b, o, cap', cs, hv, _, _, hrs, dv, hcs, hdv⟩ := hx.at hs
    injection hv with hv1 _ hv3
    subst hv1 hv3 hcs
    have hdo : dv.oneCell' = true := by obtain ⟨_, _, e, _⟩ := hdv.shape; rw [e]; rfl
    repeat (first | refine za rfl rfl ?_ | refine zb rfl ?_ | refine zc rfl ?_)
    refine TL.ix (j := i) tbk rfl rfl rfl rfl rfl rfl hlt ?_
    refine TL.ldRA (hrs.mono hh) szk rfl rfl rfl rfl rfl ?_
    refine TL.allocZ 2 Tryz.zeroValue110 rfl rfl rfl (fun lb zs hz => ?_)
    refine TL.stW (vs := [.int .u16 (s.key : Int), dv]) 0 szk rfl rfl rfl rfl rfl hz (by intro u hu; simp at hu; rcases hu with rfl | rfl; rfl; exact hdo) ?_
    repeat (first | refine za rfl rfl ?_ | refine zb rfl ?_ | refine zc rfl ?_)
    refine TL.ldW 0 szk rfl rfl rfl rfl rfl rfl ?_
    refine TL.call0 Tryz.call143 rfl rfl rfl (fits8 h s hsm dv hdv) (fun w' hA => vle hA hh) (fun _ => TL.and fun _ => ?_)
    repeat (first | refine za rfl rfl ?_ | refine zb rfl ?_ | refine zc rfl ?_)
    refine T.condF rfl rfl ?_
    repeat (first | refine za rfl rfl ?_ | refine zb rfl ?_ | refine zc rfl ?_)
    rw [add1_i64 (a := i) (by omega)]
    exact T.again ih (i + 1) (by omega) ⟨rfl, rfl, rfl, trivial⟩ (fun w' hA => ⟨hlt, hA.sub (by simp)⟩)
  · refine T.condF rfl (by simpa using hlt) ?_
    repeat (first | refine za rfl rfl ?_ | refine zb rfl ?_ | refine zc rfl ?_)
    exact T.ret Tryz.func97 rfl (fun w hA => ⟨(), rfl, trivial, hA.sub (by simp)⟩)
theorem fits6 (h : View) (l : List Bs) (hl : l.length ≤ 1048576) (hd : ∀ s ∈ l, s.length ≤ 1048576) (sv : Value) (hx : SlS h sv l) : RCt 96 [sv] h (.bool true) := by
  intro w hS hh
  obtain ⟨a, cap, hsh, hcap⟩ := hx.shape
  subst hsh
  refine calls_of_T (m := 18) Tryz.func96 rfl rfl (by simp) hS ?_
  repeat (first | refine za rfl rfl ?_ | refine zb rfl ?_ | refine zc rfl ?_)
  refine T.condF rfl (by simp; omega) ?_
  repeat (first | refine za rfl rfl ?_ | refine zb rfl ?_ | refine zc rfl ?_)
  refine T.loop (α := Nat) (fun i => [(8, .slice a l.length cap), (9, .int .i64 (l.length : Int)), (10, .int .i64 (i : Int))])
    (fun i w' => i ≤ l.length ∧ St (keys []) w [] w')
    (fun i => l.length - i) 0 ⟨rfl, rfl, rfl, trivial⟩ (fun w' hA => ⟨Nat.zero_le _, hA⟩) ?_
  intro i ih
  refine T.and fun hi => ?_
  repeat (first | refine za rfl rfl ?_ | refine zb rfl ?_ | refine zc rfl ?_)
  by_cases hlt : i < l.length
  · refine T.condT rfl (by simpa using hlt) ?_
    obtain ⟨s, hs⟩ := nth_lt hlt
    have hsm := hd s (nth_mem hs)
    obtain ⟨b, o, cap', cs, hv, _, _, hrs, hcs⟩ := hx.at hs
    injection hv with hv1 _ hv3
    subst hv1 hv3 hcs
    repeat (first | refine za rfl rfl ?_ | refine zb rfl ?_ | refine zc rfl ?_)
    refine TL.ix (j := i) tbk rfl rfl rfl rfl rfl rfl hlt ?_
    refine TL.ldR (hrs.mono hh) szk rfl rfl rfl rfl ?_
    repeat (first | refine za rfl rfl ?_ | refine zb rfl ?_ | refine zc rfl ?_)
    refine T.condF rfl (by simp; omega) ?_
    repeat (first | refine za rfl rfl ?_ | refine zb rfl ?_ | refine zc rfl ?_)
    rw [add1_i64 (a := i) (by omega)]
    exact T.again ih (i + 1) (by omega) ⟨rfl, rfl, rfl, trivial⟩ (fun w' hA => ⟨hlt, hA.sub (by simp)⟩)
  · refine T.condF rfl (by simpa using hlt) ?_
    repeat (first | refine za rfl rfl ?_ | refine zb rfl ?_ | refine zc rfl ?_)
    exact T.ret Tryz.func96 rfl (fun w hA => ⟨(), rfl, trivial, hA.sub (by simp)⟩)
theorem fits2 (h : View) (l : List Ak) (hl : l.length ≤ 1048576) (hd : ∀ a ∈ l, a.Sm) (sv : Value) (hx : SlA h sv l) : RCt 15 [sv] h (.bool true) := by
  intro w hS hh
  obtain ⟨a, cap, hsh, hcap⟩ := hx.shape
  subst hsh
  refine calls_of_T (m := 18) Tryz.func15 rfl rfl (by simp) hS ?_
  repeat (first | refine za rfl rfl ?_ | refine zb rfl ?_ | refine zc rfl ?_)
  refine T.condF rfl (by simp; omega) ?_
  repeat (first | refine za rfl rfl ?_ | refine zb rfl ?_ | refine zc rfl ?_)
  refine T.loop (α := Nat) (fun i => [(8, .slice a l.length cap), (9, .int .i64 (l.length : Int)), (10, .int .i64 (i : Int))])
    (fun i w' => i ≤ l.length ∧ St (keys []) w [] w')
    (fun i => l.length - i) 0 ⟨rfl, rfl, rfl, trivial⟩ (fun w' hA => ⟨Nat.zero_le _, hA⟩) ?_
  intro i ih
  refine T.and fun hi => ?_
  repeat (first | refine za rfl rfl ?_ | refine zb rfl ?_ | refine zc rfl ?_)
  by_cases hlt : i < l.length
  · refine T.condT rfl (by simpa using hlt) ?_
    obtain ⟨s, hs⟩ := nth_lt hlt
    have hsm := hd s (nth_mem hs)
    obtain ⟨b, o, cap', cs, hv, _, _, hrs, hcs⟩ := hx.at hs
    injection hv with hv1 _ hv3
    subst hv1 hv3 hcs
    repeat (first | refine za rfl rfl ?_ | refine zb rfl ?_ | refine zc rfl ?_)
    refine TL.ix (j := i) tbk rfl rfl rfl rfl rfl rfl hlt ?_
    refine TL.ldRA (hrs.mono hh) szk rfl rfl rfl rfl rfl ?_
    refine TL.allocZ 3 Tryz.zeroValue51 rfl rfl rfl (fun lb zs hz => ?_)
    refine TL.stW (vs := akC s) 0 szk rfl rfl rfl rfl rfl hz (by simp [akC, Value.oneCell', str]) ?_
    repeat (first | refine za rfl rfl ?_ | refine zb rfl ?_ | refine zc rfl ?_)
    refine TL.ldW 0 szk rfl rfl rfl rfl rfl rfl ?_
    refine TL.call0 Tryz.call42 rfl rfl rfl (fits3 h s hsm.name) (fun w' hA => vle hA hh) (fun _ => TL.and fun _ => ?_)
    repeat (first | refine za rfl rfl ?_ | refine zb rfl ?_ | refine zc rfl ?_)
    refine T.condF rfl rfl ?_
    repeat (first | refine za rfl rfl ?_ | refine zb rfl ?_ | refine zc rfl ?_)
    rw [add1_i64 (a := i) (by omega)]
    exact T.again ih (i + 1) (by omega) ⟨rfl, rfl, rfl, trivial⟩ (fun w' hA => ⟨hlt, hA.sub (by simp)⟩)
  · refine T.condF rfl (by simpa using hlt) ?_
    repeat (first | refine za rfl rfl ?_ | refine zb rfl ?_ | refine zc rfl ?_)
    exact T.ret Tryz.func15 rfl (fun w hA => ⟨(), rfl, trivial, hA.sub (by simp)⟩)
theorem fits5 (h : View) (r : Rc) (hr : r.Sm) (dv tv pv : Value) (hx : RcV h r dv tv pv) : RCt 43 [.agg (rcCells r dv tv pv).toArray] h (.bool true) := by
  intro w hS hh
  obtain ⟨h1, h2, h3, h4, h5, h6, h7, h8, h9⟩ := hr
  have hx' := hx
  obtain ⟨hd, ht, hp⟩ := hx
  obtain ⟨da, dc, hsh, _⟩ := hd.shape
  subst hsh
  refine calls_of_T (m := 27) Tryz.func43 rfl rfl (by simp) hS ?_
  repeat (first | refine za rfl rfl ?_ | refine zb rfl ?_ | refine zc rfl ?_)
  refine TL.box (cs := rcCells r (.slice da r.data.length dc) tv pv) rfl rfl rfl rfl (fun xb => ?_)
  repeat (first | refine za rfl rfl ?_ | refine zb rfl ?_ | refine zc rfl ?_)
  refine TL.ld 0 szk rfl rfl rfl rfl rfl rfl ?_
  repeat (first | refine za rfl rfl ?_ | refine zb rfl ?_ | refine zc rfl ?_)
  refine T.condF rfl (by simp; omega) ?_
  repeat (first | refine za rfl rfl ?_ | refine zb rfl ?_ | refine zc rfl ?_)
  refine TL.ld 0 szk rfl rfl rfl rfl rfl rfl ?_
  repeat (first | refine za rfl rfl ?_ | refine zb rfl ?_ | refine zc rfl ?_)
  refine T.condF rfl (by simp; omega) ?_
  repeat (first | refine za rfl rfl ?_ | refine zb rfl ?_ | refine zc rfl ?_)
  refine TL.ld 0 szk rfl rfl rfl rfl rfl rfl ?_
  repeat (first | refine za rfl rfl ?_ | refine zb rfl ?_ | refine zc rfl ?_)
  refine T.condF rfl (by simp; omega) ?_
  repeat (first | refine za rfl rfl ?_ | refine zb rfl ?_ | refine zc rfl ?_)
  refine TL.ld 0 szk rfl rfl rfl rfl rfl rfl ?_
  repeat (first | refine za rfl rfl ?_ | refine zb rfl ?_ | refine zc rfl ?_)
  refine T.condF rfl (by simp; omega) ?_
  repeat (first | refine za rfl rfl ?_ | refine zb rfl ?_ | refine zc rfl ?_)
  refine TL.ld 0 szk rfl rfl rfl rfl rfl rfl ?_
  refine TL.call0 Tryz.call96 rfl rfl rfl (fits6 h r.texts h6 h7 tv ht) (fun w' hA => vle hA hh) (fun _ => TL.and fun _ => ?_)
  repeat (first | refine za rfl rfl ?_ | refine zb rfl ?_ | refine zc rfl ?_)
  refine T.condF rfl rfl ?_
  repeat (first | refine za rfl rfl ?_ | refine zb rfl ?_ | refine zc rfl ?_)
  refine TL.ld 0 szk rfl rfl rfl rfl rfl rfl ?_
  refine TL.call0 Tryz.call97 rfl rfl rfl (fits7 h r.pairs h8 h9 pv hp) (fun w' hA => vle hA hh) (fun _ => TL.and fun _ => ?_)
  repeat (first | refine za rfl rfl ?_ | refine zb rfl ?_ | refine zc rfl ?_)
  refine T.condF rfl rfl ?_
  repeat (first | refine za rfl rfl ?_ | refine zb rfl ?_ | refine zc rfl ?_)
  exact T.ret Tryz.func43 rfl (fun w hA => ⟨(), rfl, trivial, hA.sub (by simp)⟩)
theorem fits4 (h : View) (l : List Rc) (hl : l.length ≤ 1048576) (hd : ∀ r ∈ l, r.Sm) (sv : Value) (hx : SlR h sv l) : RCt 16 [sv] h (.bool true) := by
  intro w hS hh
  obtain ⟨a, cap, hsh, hcap⟩ := hx.shape
  subst hsh
  refine calls_of_T (m := 18) Tryz.func16 rfl rfl (by simp) hS ?_
  repeat (first | refine za rfl rfl ?_ | refine zb rfl ?_ | refine zc rfl ?_)
  refine T.condF rfl (by simp; omega) ?_
  repeat (first | refine za rfl rfl ?_ | refine zb rfl ?_ | refine zc rfl ?_)
  refine T.loop (α := Nat) (fun i => [(8, .slice a l.length cap), (9, .int .i64 (l.length : Int)), (10, .int .i64 (i : Int))])
    (fun i w' => i ≤ l.length ∧ St (keys []) w [] w')
    (fun i => l.length - i) 0 ⟨rfl, rfl, rfl, trivial⟩ (fun w' hA => ⟨Nat.zero_le _, hA⟩) ?_
  intro i ih
  refine T.and fun hi => ?_
  repeat (first | refine za rfl rfl ?_ | refine zb rfl ?_ | refine zc rfl ?_)
  by_cases hlt : i < l.length
  · refine T.condT rfl (by simpa using hlt) ?_
    obtain ⟨s, hs⟩ := nth_lt hlt
    have hsm := hd s (nth_mem hs)
    obtain ⟨b, o, cap', cs, hv, _, _, hrs, dv, tv, pv, hcs, hd1, ht1, hp1⟩ := hx.at hs
    injection hv with hv1 _ hv3
    subst hv1 hv3 hcs
    have hrv : RcV h s dv tv pv := ⟨hd1, ht1, hp1⟩
    obtain ⟨q1, q2, q3⟩ := hrv.shapes
    repeat (first | refine za rfl rfl ?_ | refine zb rfl ?_ | refine zc rfl ?_)
    refine TL.ix (j := i) tbk rfl rfl rfl rfl rfl rfl hlt ?_
    refine TL.ldRA (hrs.mono hh) szk rfl rfl (rcCells_len _ _ _ _) rfl rfl ?_
    refine TL.allocZ 16 Tryz.zeroValue98 rfl rfl rfl (fun lb zs hz => ?_)
    refine TL.stW (vs := rcCells s dv tv pv) 0 szk rfl rfl rfl rfl rfl hz (rcCells_one q1 q2 q3) ?_
    repeat (first | refine za rfl rfl ?_ | refine zb rfl ?_ | refine zc rfl ?_)
    refine TL.ldW 0 szk rfl rfl rfl rfl rfl rfl ?_
    refine TL.call0 Tryz.call43 rfl rfl rfl (fits5 h s hsm dv tv pv hrv) (fun w' hA => vle hA hh) (fun _ => TL.and fun _ => ?_)
    repeat (first | refine za rfl rfl ?_ | refine zb rfl ?_ | refine zc rfl ?_)
    refine T.condF rfl rfl ?_
    repeat (first | refine za rfl rfl ?_ | refine zb rfl ?_ | refine zc rfl ?_)
    rw [add1_i64 (a := i) (by omega)]
    exact T.again ih (i + 1) (by omega) ⟨rfl, rfl, rfl, trivial⟩ (fun w' hA => ⟨hlt, hA.sub (by simp)⟩)
  · refine T.condF rfl (by simpa using hlt) ?_
    repeat (first | refine za rfl rfl ?_ | refine zb rfl ?_ | refine zc rfl ?_)
    exact T.ret Tryz.func16 rfl (fun w hA => ⟨(), rfl, trivial, hA.sub (by simp)⟩)
/-- A message in a view. -/
structure MsIn (h : View) (m : Ms) (av ov tv rv : Value) : Prop where
  asks : SlA h av m.asks
  one : SlR h ov m.one
  two : SlR h tv m.two
  three : SlR h rv m.three
theorem MsIn.mono {h h' : View} (hh : View.le h h') {m : Ms} {av ov tv rv : Value} (k : MsIn h m av ov tv rv) : MsIn h' m av ov tv rv := ⟨k.asks.mono hh, k.one.mono hh, k.two.mono hh, k.three.mono hh⟩
theorem MsIn.shapes {h : View} {m : Ms} {av ov tv rv : Value} (k : MsIn h m av ov tv rv) : av.oneCell' = true ∧ ov.oneCell' = true ∧ tv.oneCell' = true ∧ rv.oneCell' = true := by
  obtain ⟨k1, k2, k3, k4⟩ := k
  obtain ⟨_, _, rfl, _⟩ := k1.shape
  obtain ⟨_, _, rfl, _⟩ := k2.shape
  obtain ⟨_, _, rfl, _⟩ := k3.shape
  obtain ⟨_, _, rfl, _⟩ := k4.shape
  exact ⟨rfl, rfl, rfl, rfl⟩
theorem fits1 (h : View) (m : Ms) (hm : m.Sm) (av ov tv rv : Value) (hx : MsIn h m av ov tv rv) : RCt 4 [.agg (msCells m.head av ov tv rv).toArray] h (.bool true) := by
  intro w hS hh
  refine calls_of_T (m := 19) Tryz.func4 rfl rfl (by simp) hS ?_
  repeat (first | refine za rfl rfl ?_ | refine zb rfl ?_ | refine zc rfl ?_)
  refine TL.box (cs := msCells m.head av ov tv rv) rfl rfl rfl rfl (fun xb => ?_)
  repeat (first | refine za rfl rfl ?_ | refine zb rfl ?_ | refine zc rfl ?_)
  refine TL.ld 0 szk rfl rfl rfl rfl rfl rfl ?_
  refine TL.call0 Tryz.call15 rfl rfl rfl (fits2 h m.asks hm.askn hm.ask av hx.asks) (fun w' hA => vle hA hh) (fun _ => TL.and fun _ => ?_)
  repeat (first | refine za rfl rfl ?_ | refine zb rfl ?_ | refine zc rfl ?_)
  refine T.condF rfl rfl ?_
  repeat (first | refine za rfl rfl ?_ | refine zb rfl ?_ | refine zc rfl ?_)
  refine TL.ld 0 szk rfl rfl rfl rfl rfl rfl ?_
  refine TL.call0 Tryz.call16 rfl rfl rfl (fits4 h m.one hm.onen hm.one ov hx.one) (fun w' hA => vle hA hh) (fun _ => TL.and fun _ => ?_)
  repeat (first | refine za rfl rfl ?_ | refine zb rfl ?_ | refine zc rfl ?_)
  refine T.condF rfl rfl ?_
  repeat (first | refine za rfl rfl ?_ | refine zb rfl ?_ | refine zc rfl ?_)
  refine TL.ld 0 szk rfl rfl rfl rfl rfl rfl ?_
  refine TL.call0 Tryz.call16 rfl rfl rfl (fits4 h m.two hm.twon hm.two tv hx.two) (fun w' hA => vle hA hh) (fun _ => TL.and fun _ => ?_)
  repeat (first | refine za rfl rfl ?_ | refine zb rfl ?_ | refine zc rfl ?_)
  refine T.condF rfl rfl ?_
  repeat (first | refine za rfl rfl ?_ | refine zb rfl ?_ | refine zc rfl ?_)
  refine TL.ld 0 szk rfl rfl rfl rfl rfl rfl ?_
  refine TL.call0 Tryz.call16 rfl rfl rfl (fits4 h m.three hm.threen hm.three rv hx.three) (fun w' hA => vle hA hh) (fun _ => TL.and fun _ => ?_)
  repeat (first | refine za rfl rfl ?_ | refine zb rfl ?_ | refine zc rfl ?_)
  refine T.condF rfl rfl ?_
  repeat (first | refine za rfl rfl ?_ | refine zb rfl ?_ | refine zc rfl ?_)
  exact T.ret Tryz.func4 rfl (fun w hA => ⟨(), rfl, trivial, hA.sub (by simp)⟩)
end X
namespace X
/-- Two views, the first ahead. -/
def ov (a h : View) : View := fun b => (a b).or (h b)
theorem ov_left (a h : View) : View.le a (ov a h) := fun b o e => by simp [ov, e]
theorem ov_le {a h k : View} (h1 : View.le a k) (h2 : View.le h k) : View.le (ov a h) k := fun b o e => by
  unfold ov at e
  cases ha : a b with
  | none => rw [ha] at e; exact h2 b o (by simpa using e)
  | some x => rw [ha] at e; simp at e; subst e; exact h1 b x ha
theorem ov_right {w w' : World} {E : Mem} {h : View} (hS : St (keys []) w E w') (hh : View.le h (view [] w)) : View.le h (ov (mv E) h) := fun b o e => by
  have h1 := view_heap (hh b o e)
  have hlt := lt_of_block h1
  cases hm : mv E b with
  | none => simp [ov, hm, e]
  | some x =>
    obtain ⟨p, hp, hpb, _⟩ := mv_mem hm
    rcases hS.mine p hp with h2 | h2
    · cases h2
    · omega
theorem ov_grow {w w' : World} {E E' : Mem} {h : View} (hS : St (keys []) w E' w') (hh : View.le h (view [] w)) (hE : ∀ p ∈ E, p ∈ E') : View.le (ov (mv E) h) (ov (mv E') h) := ov_le ((mv_sub hS.nd hE).trans (ov_left _ _)) (ov_right hS hh)
theorem ov_in {w w' : World} {M E : Mem} {h : View} (hS : St (keys []) w M w') (hh : View.le h (view [] w)) (hE : ∀ p ∈ E, p ∈ M) : View.le (ov (mv E) h) (view [] w') :=
  ov_le ((mv_sub hS.nd hE).trans (by have := st_out (E := M) (M := []) (Z := keys []) (w0 := w) (w := w') (by simpa using hS); exact this)) (vle hS hh)
/-- The first so many elements of an array. -/
def All {α : Type} (size : Nat) (Q : α → List Value → Prop) (l : List α) (i : Nat) (xs : List Value) : Prop := ∀ j a, j < i → nth l j = some a → ∃ us, us.length = size ∧ (∀ k v, nth us k = some v → nth xs (j * size + k) = some v) ∧ Q a us
theorem All.zero {α : Type} {size : Nat} {Q : α → List Value → Prop} {l : List α} {xs : List Value} : All size Q l 0 xs := fun j _ hj => (Nat.not_lt_zero _ hj).elim
theorem All.mono {α : Type} {size : Nat} {Q Q' : α → List Value → Prop} {l : List α} {i : Nat} {xs : List Value} (h : ∀ a us, Q a us → Q' a us) (k : All size Q l i xs) : All size Q' l i xs := fun j a hj ha => let ⟨us, a1, a2, a3⟩ := k j a hj ha; ⟨us, a1, a2, h _ _ a3⟩
theorem All.next {α : Type} {size : Nat} {Q : α → List Value → Prop} {l : List α} {i : Nat} {xs us : List Value} {a : α} (k : All size Q l i xs) (hxl : xs.length = i * size) (ha : nth l i = some a) (hu : us.length = size) (hq : Q a us) : All size Q l (i + 1) (xs ++ us) := by
  intro j a' hj ha'
  rcases Nat.lt_or_ge j i with hji | hji
  · obtain ⟨vs, a1, a2, a3⟩ := k j a' hji ha'
    refine ⟨vs, a1, fun m v hv => ?_, a3⟩
    have := a2 m v hv
    rw [nth_eq] at this ⊢
    rw [List.getElem?_append_left (List.getElem?_eq_some_iff.1 this).1]; exact this
  · have : j = i := by omega
    subst this
    rw [ha] at ha'
    simp only [Option.some.injEq] at ha'
    subst ha'
    refine ⟨us, hu, fun m v hv => ?_, hq⟩
    rw [nth_eq] at hv ⊢
    rw [List.getElem?_append_right (by omega), hxl, Nat.add_sub_cancel_left]; exact hv
theorem All.sl {α : Type} {size : Nat} {Q : α → List Value → Prop} {l : List α} {M : Mem} {H : View} {i b cap : Nat} {cs xs : List Value} {t : TypeId} (k : All size Q l l.length xs) (hn : (M.map (·.1)).Nodup) (hi : nth M i = some (b, .row cs t)) (ho : Own cs l.length cap size xs) (hM : View.le (mv M) H) :
    Sl H size Q (.slice (some ⟨b, 0, none⟩) l.length cap) l := by
  refine .inr ⟨b, 0, cap, rfl, ho.le, fun j a ha => ?_⟩
  obtain ⟨us, h1, h2, h3⟩ := k j a (by rw [nth_eq] at ha; exact (List.getElem?_eq_some_iff.1 ha).1) ha
  exact ⟨us, h1, (mv_own hn hi ho (fun k v hk => by rw [Nat.zero_add]; exact h2 k v hk)).mono hM, h3⟩
theorem el32 : Elem Tryz.prog 32 58 16 168 := elem_of (by kernel_rfl)
theorem sl32 : (∃ e2, Tryz.prog.underlying 32 = some (.slice e2)) ∨ Tryz.prog.underlying 32 = some .string := .inl ⟨_, Tryz.underlying32⟩
theorem el56 : Elem Tryz.prog 56 60 2 32 := elem_of (by kernel_rfl)
theorem sl56 : (∃ e2, Tryz.prog.underlying 56 = some (.slice e2)) ∨ Tryz.prog.underlying 56 = some .string := .inl ⟨_, Tryz.underlying56⟩
theorem pl58 : placesOk Tryz.prog 58 [(0, 1), (1, 1), (2, 1), (3, 1), (4, 1), (5, 1), (6, 1), (7, 1), (8, 1), (9, 1), (10, 1), (11, 1), (12, 1), (13, 1), (14, 1), (15, 1)] 16 = true := by kernel_rfl
structure RcX where
  i : Nat
  ob : Nat
  cs : List Value
  cap : Nat
  xs : List Value
  E : Mem
def RcX.mem (y : RcX) : Mem := (y.ob, .row y.cs 58) :: y.E
structure PrX where
  j : Nat
  b : Nat
  cs : List Value
  cap : Nat
  xs : List Value
abbrev PrE (h : View) : Pr → List Value → Prop := fun p cs => ∃ dv, cs = [.int .u16 (p.key : Int), dv] ∧ SlB h dv p.data
theorem records (h : View) (rs : List Rc) (hlen : rs.length ≤ 1048576) (hsm : ∀ r ∈ rs, r.Sm) (rv : Value) (hx : SlR h rv rs) :
    Ct (β := RcX) Tryz.prog 17 [rv] [] (fun w => View.le h (view [] w)) (fun y => .slice (some ⟨y.ob, 0, none⟩) rs.length y.cap) (fun y _ => SlR (ov (mv y.mem) h) (.slice (some ⟨y.ob, 0, none⟩) rs.length y.cap) rs) (fun y => y.mem) := by
  intro w hS hh
  obtain ⟨a, cap, hsh, hcap⟩ := hx.shape
  subst hsh
  refine calls_of_T (m := 66) Tryz.func17 rfl rfl (by simp) hS ?_
  repeat (first | refine za rfl rfl ?_ | refine zb rfl ?_ | refine zc rfl ?_)
  refine TL.bs0 el32 rfl rfl (fun b1 => ?_)
  repeat (first | refine za rfl rfl ?_ | refine zb rfl ?_ | refine zc rfl ?_)
  refine T.loop (α := RcX) (fun x => [(3, .slice (some ⟨x.ob, 0, none⟩) x.i x.cap), (10, .slice a rs.length cap), (11, .int .i64 (rs.length : Int)), (12, .int .i64 (x.i : Int))])
    (fun x w' => (x.i ≤ rs.length ∧ Own x.cs x.i x.cap 16 x.xs ∧ All 16 (RcE (ov (mv x.E) h)) rs x.i x.xs) ∧ St (keys []) w ((x.ob, .row x.cs 58) :: x.E) w')
    (fun x => rs.length - x.i) ⟨0, b1, [], 0, [], []⟩ ⟨rfl, rfl, rfl, rfl, trivial⟩ (fun w' hA => ⟨⟨Nat.zero_le _, own0 16, All.zero⟩, hA⟩) ?_
  rintro ⟨i, ob, ocs, ocap, oxs, E⟩ ih
  refine T.and fun ⟨hi, hown, hall⟩ => ?_
  simp only at hi hown hall
  have hxl := hown.length
  repeat (first | refine za rfl rfl ?_ | refine zb rfl ?_ | refine zc rfl ?_)
  by_cases hlt : i < rs.length
  · refine T.condT rfl (by simpa using hlt) ?_
    obtain ⟨r, hr⟩ := nth_lt hlt
    have hrs' := hsm r (nth_mem hr)
    obtain ⟨b, o, cap', cs, hv, _, _, hrs, dv, tv, pv, hcs, hd, ht, hp⟩ := hx.at hr
    injection hv with hv1 _ hv3
    subst hv1 hv3 hcs
    have hrv : RcV h r dv tv pv := ⟨hd, ht, hp⟩
    obtain ⟨o1, o2, o3⟩ := hrv.shapes
    obtain ⟨pa, pcap, hpsh, hpcap⟩ := hp.shape
    subst hpsh
    have hpn := hrs'.pairn
    repeat (first | refine za rfl rfl ?_ | refine zb rfl ?_ | refine zc rfl ?_)
    refine TL.ix (j := i) tbk rfl rfl rfl rfl rfl rfl hlt ?_
    refine TL.ldRA (hrs.mono hh) szk rfl rfl (rcCells_len _ _ _ _) rfl rfl ?_
    refine TL.allocZ 16 Tryz.zeroValue98 rfl rfl rfl (fun lb zs hz => ?_)
    refine TL.stW (vs := rcCells r dv tv (.slice pa r.pairs.length pcap)) 0 szk rfl rfl rfl rfl rfl hz (rcCells_one o1 o2 o3) ?_
    repeat (first | refine za rfl rfl ?_ | refine zb rfl ?_ | refine zc rfl ?_)
    refine TL.bs0 el56 rfl rfl (fun q1 => ?_)
    repeat (first | refine za rfl rfl ?_ | refine zb rfl ?_ | refine zc rfl ?_)
    refine TL.ld 1 szk rfl rfl rfl rfl rfl rfl ?_
    repeat (first | refine za rfl rfl ?_ | refine zb rfl ?_ | refine zc rfl ?_)
    refine T.loop (α := PrX) (fun x => [(3, .slice (some ⟨ob, 0, none⟩) i ocap), (10, .slice (some ⟨b, o, none⟩) rs.length cap), (11, .int .i64 (rs.length : Int)), (12, .int .i64 (i : Int)), (5, ptr lb 0), (6, .slice (some ⟨x.b, 0, none⟩) x.j x.cap), (18, .slice pa r.pairs.length pcap), (19, .int .i64 (r.pairs.length : Int)), (20, .int .i64 (x.j : Int))])
      (fun x w' => (x.j ≤ r.pairs.length ∧ Own x.cs x.j x.cap 2 x.xs ∧ All 2 (PrE h) r.pairs x.j x.xs) ∧ St (keys []) w ((x.b, .row x.cs 60) :: (lb, .row (rcCells r dv tv (.slice pa r.pairs.length pcap)) 98) :: (ob, .row ocs 58) :: E) w')
      (fun x => r.pairs.length - x.j) ⟨0, q1, [], 0, []⟩ ⟨rfl, rfl, rfl, rfl, rfl, rfl, rfl, rfl, rfl, trivial⟩ (fun w' hA => ⟨⟨Nat.zero_le _, own0 2, All.zero⟩, hA⟩) ?_
    rintro ⟨j, qb, qcs, qcap, qxs⟩ ih2
    refine T.and fun ⟨hj, hown2, hall2⟩ => ?_
    simp only at hj hown2 hall2
    have hxl2 := hown2.length
    repeat (first | refine za rfl rfl ?_ | refine zb rfl ?_ | refine zc rfl ?_)
    by_cases hjt : j < r.pairs.length
    · refine T.condT rfl (by simpa using hjt) ?_
      obtain ⟨p, hpj⟩ := nth_lt hjt
      obtain ⟨b', o', cap'', cs', hv', _, _, hps, edv, hcs', hed⟩ := hp.at hpj
      injection hv' with hv1 _ hv3
      subst hv1 hv3 hcs'
      obtain ⟨_, _, hesh, _⟩ := hed.shape
      have heo : edv.oneCell' = true := by rw [hesh]; rfl
      repeat (first | refine za rfl rfl ?_ | refine zb rfl ?_ | refine zc rfl ?_)
      refine TL.ix (j := j) tbk rfl rfl rfl rfl rfl rfl hjt ?_
      refine TL.ldRA (hps.mono hh) szk rfl rfl rfl rfl rfl ?_
      refine TL.allocZ 2 Tryz.zeroValue110 rfl rfl rfl (fun lb2 zs2 hz2 => ?_)
      refine TL.stW (vs := [.int .u16 (p.key : Int), edv]) 0 szk rfl rfl rfl rfl rfl hz2 (by intro u hu; simp at hu; rcases hu with rfl | rfl; rfl; exact heo) ?_
      repeat (first | refine za rfl rfl ?_ | refine zb rfl ?_ | refine zc rfl ?_)
      refine TL.ldW 0 szk rfl rfl rfl rfl rfl rfl ?_
      refine TL.bsA (cs := [.int .u16 (p.key : Int), edv]) el56 rfl rfl (by decide) rfl rfl (fun eb => ?_)
      refine TL.append (m := 1) (news := [.int .u16 (p.key : Int), edv]) 2 el56 sl56 rfl rfl rfl rfl rfl hown2 (Src.slice (fun w hA j u hj => by rw [add_zero', Nat.zero_add]; exact hA.cell (i := 0) rfl (by rw [nth_eq]; exact hj)) rfl (by intro u hu; simp at hu; rcases hu with rfl | rfl; rfl; exact heo)) (by omega) (by omega) (fun qb' qcs' qcap' qown' => ?_)
      repeat (first | refine za rfl rfl ?_ | refine zb rfl ?_ | refine zc rfl ?_)
      rw [add1_i64 (a := j) (by omega)]
      exact T.again ih2 ⟨j + 1, qb', qcs', qcap', qxs ++ [.int .u16 (p.key : Int), edv]⟩ (by simp; omega) ⟨rfl, rfl, rfl, rfl, rfl, rfl, rfl, rfl, rfl, trivial⟩ (fun w' hA => ⟨⟨hjt, qown', hall2.next hxl2 hpj rfl ⟨edv, rfl, hed⟩⟩, hA.sub (List.Sublist.cons _ (List.Sublist.cons _ (List.Sublist.refl _)))⟩)
    refine T.condF rfl (by simpa using hjt) ?_
    have hjq : j = r.pairs.length := by omega
    clear ih2
    subst hjq
    repeat (first | refine za rfl rfl ?_ | refine zb rfl ?_ | refine zc rfl ?_)
    refine TL.ld 1 szk rfl rfl rfl rfl rfl rfl ?_
    repeat (first | refine za rfl rfl ?_ | refine zb rfl ?_ | refine zc rfl ?_)
    refine TL.ld 1 szk rfl rfl rfl rfl rfl rfl ?_
    repeat (first | refine za rfl rfl ?_ | refine zb rfl ?_ | refine zc rfl ?_)
    refine TL.ld 1 szk rfl rfl rfl rfl rfl rfl ?_
    repeat (first | refine za rfl rfl ?_ | refine zb rfl ?_ | refine zc rfl ?_)
    refine TL.ld 1 szk rfl rfl rfl rfl rfl rfl ?_
    repeat (first | refine za rfl rfl ?_ | refine zb rfl ?_ | refine zc rfl ?_)
    refine TL.ld 1 szk rfl rfl rfl rfl rfl rfl ?_
    repeat (first | refine za rfl rfl ?_ | refine zb rfl ?_ | refine zc rfl ?_)
    refine TL.ld 1 szk rfl rfl rfl rfl rfl rfl ?_
    repeat (first | refine za rfl rfl ?_ | refine zb rfl ?_ | refine zc rfl ?_)
    refine TL.ld 1 szk rfl rfl rfl rfl rfl rfl ?_
    repeat (first | refine za rfl rfl ?_ | refine zb rfl ?_ | refine zc rfl ?_)
    refine TL.ld 1 szk rfl rfl rfl rfl rfl rfl ?_
    repeat (first | refine za rfl rfl ?_ | refine zb rfl ?_ | refine zc rfl ?_)
    refine TL.ld 1 szk rfl rfl rfl rfl rfl rfl ?_
    repeat (first | refine za rfl rfl ?_ | refine zb rfl ?_ | refine zc rfl ?_)
    refine TL.ld 1 szk rfl rfl rfl rfl rfl rfl ?_
    repeat (first | refine za rfl rfl ?_ | refine zb rfl ?_ | refine zc rfl ?_)
    refine TL.ld 1 szk rfl rfl rfl rfl rfl rfl ?_
    repeat (first | refine za rfl rfl ?_ | refine zb rfl ?_ | refine zc rfl ?_)
    refine TL.ld 1 szk rfl rfl rfl rfl rfl rfl ?_
    repeat (first | refine za rfl rfl ?_ | refine zb rfl ?_ | refine zc rfl ?_)
    refine TL.ld 1 szk rfl rfl rfl rfl rfl rfl ?_
    repeat (first | refine za rfl rfl ?_ | refine zb rfl ?_ | refine zc rfl ?_)
    refine TL.ld 1 szk rfl rfl rfl rfl rfl rfl ?_
    repeat (first | refine za rfl rfl ?_ | refine zb rfl ?_ | refine zc rfl ?_)
    refine TL.ld 1 szk rfl rfl rfl rfl rfl rfl ?_
    repeat (first | refine za rfl rfl ?_ | refine zb rfl ?_ | refine zc rfl ?_)
    have hb := build_seq (vs := rcCells r dv tv (.slice (some ⟨qb, 0, none⟩) r.pairs.length qcap)) pl58 (by obtain ⟨_, _, e1, _⟩ := hd.shape; obtain ⟨_, _, e2, _⟩ := ht.shape; rw [e1, e2]; rfl) (by obtain ⟨_, _, e1, _⟩ := hd.shape; obtain ⟨_, _, e2, _⟩ := ht.shape; rw [e1, e2]; rfl)
    rw [flatC_one (rcCells_one o1 o2 rfl)] at hb
    refine TL.build (pv := partsFrom 0 (rcCells r dv tv (.slice (some ⟨qb, 0, none⟩) r.pairs.length qcap))) rfl rfl rfl hb ?_
    refine TL.bsA (cs := rcCells r dv tv (.slice (some ⟨qb, 0, none⟩) r.pairs.length qcap)) el32 rfl rfl (by decide) rfl rfl (fun eb => ?_)
    refine TL.append (m := 1) (news := rcCells r dv tv (.slice (some ⟨qb, 0, none⟩) r.pairs.length qcap)) 3 el32 sl32 rfl rfl rfl rfl rfl hown (Src.slice (fun w hA j u hj => by rw [add_zero', Nat.zero_add]; exact hA.cell (i := 0) rfl (by rw [nth_eq]; exact hj)) rfl (rcCells_one o1 o2 rfl)) (by omega) (by omega) (fun ob' ocs' ocap' oown' => ?_)
    repeat (first | refine za rfl rfl ?_ | refine zb rfl ?_ | refine zc rfl ?_)
    rw [add1_i64 (a := i) (by omega)]
    refine T.again ih ⟨i + 1, ob', ocs', ocap', oxs ++ rcCells r dv tv (.slice (some ⟨qb, 0, none⟩) r.pairs.length qcap), (qb, .row qcs 60) :: E⟩ (by simp; omega) ⟨rfl, rfl, rfl, rfl, trivial⟩ (fun w' hA => ?_)
    have hA' : St (keys []) w ((ob', .row ocs' 58) :: (qb, .row qcs 60) :: E) w' := (hA.sub (M' := (qb, .row qcs 60) :: (ob', .row ocs' 58) :: E) (List.Sublist.cons _ (List.Sublist.cons_cons _ (List.Sublist.cons _ (List.Sublist.refl _))))).perm (List.Perm.swap _ _ _)
    have hE' : St (keys []) w ((qb, .row qcs 60) :: E) w' := hA'.sub (List.Sublist.cons _ (List.Sublist.refl _))
    have hr2 := ov_right hE' hh
    refine ⟨⟨hlt, oown', ((hall.mono fun a us => RcE.mono (ov_grow hE' hh fun p hp => List.mem_cons_of_mem _ hp))).next hxl hr rfl ⟨dv, tv, _, rfl, hd.mono hr2, ht.mono hr2, ?_⟩⟩, hA'⟩
    exact (hall2.mono fun p us ⟨dv, e1, e2⟩ => ⟨dv, e1, e2.mono hr2⟩).sl hE'.nd (i := 0) rfl hown2 (ov_left _ _)
  · refine T.condF rfl (by simpa using hlt) ?_
    have hiq : i = rs.length := by omega
    subst hiq
    repeat (first | refine za rfl rfl ?_ | refine zb rfl ?_ | refine zc rfl ?_)
    refine T.ret Tryz.func17 rfl (fun w' hA => ⟨⟨rs.length, ob, ocs, ocap, oxs, E⟩, rfl, ?_, hA⟩)
    exact (hall.mono fun a us => RcE.mono (ov_grow hA hh fun p hp => List.mem_cons_of_mem _ hp)).sl hA.nd (i := 0) rfl hown (ov_left _ _)
end X
namespace X
theorem el31 : Elem Tryz.prog 31 52 3 24 := elem_of (by kernel_rfl)
theorem sl31 : (∃ e2, Tryz.prog.underlying 31 = some (.slice e2)) ∨ Tryz.prog.underlying 31 = some .string := .inl ⟨_, Tryz.underlying31⟩
def RcX.s (y : RcX) (n : Nat) : Value := .slice (some ⟨y.ob, 0, none⟩) n y.cap
theorem build34 (h : Hd) (a1 n1 c1 a2 n2 c2 a3 n3 c3 : Nat) (w : World) :
    (Instr.build 34 #[(0, .agg (hdCells h).toArray), (2, .slice (some ⟨a1, 0, none⟩) n1 c1), (3, .slice (some ⟨a2, 0, none⟩) n2 c2), (4, .slice (some ⟨a3, 0, none⟩) n3 c3)]).run Tryz.prog w = .ok (.agg (mcells h (.slice none 0 0) (.slice (some ⟨a1, 0, none⟩) n1 c1) (.slice (some ⟨a2, 0, none⟩) n2 c2) (.slice (some ⟨a3, 0, none⟩) n3 c3)).toArray) w := by kernel_rfl
structure CvX where
  i : Nat
  qv : Value
  Q : Mem
  xs : List Value
  R1 : RcX
  R2 : RcX
  R3 : RcX
def CvX.mem (y : CvX) : Mem := y.Q ++ (y.R1.mem ++ (y.R2.mem ++ y.R3.mem))
abbrev AkE : Ak → List Value → Prop := fun a cs => cs = akC a
def CvX.ok (x : CvX) (asks : List Ak) : Prop := x.i ≤ asks.length ∧ ((x.i = 0 ∧ x.qv = .slice none 0 0 ∧ x.Q = [] ∧ x.xs = []) ∨ ∃ qb qcs qcap, x.qv = .slice (some ⟨qb, 0, none⟩) x.i qcap ∧ x.Q = [(qb, .row qcs 52)] ∧ Own qcs x.i qcap 3 x.xs) ∧ All 3 AkE asks x.i x.xs
theorem conv (h : View) (m : Ms) (hm : m.Sm) (av ov_ tv rv : Value) (hx : MsIn h m av ov_ tv rv) :
    Ct (β := CvX) Tryz.prog 5 [.agg (msCells m.head av ov_ tv rv).toArray] [] (fun w => View.le h (view [] w)) (fun y => .agg (msCells m.head y.qv (y.R1.s m.one.length) (y.R2.s m.two.length) (y.R3.s m.three.length)).toArray)
      (fun y _ => MsIn (ov (mv y.mem) h) m y.qv (y.R1.s m.one.length) (y.R2.s m.two.length) (y.R3.s m.three.length)) (fun y => y.mem) := by
  intro w hS hh
  obtain ⟨ha, h1, h2, h3⟩ := hx
  obtain ⟨aa, ac, has, _⟩ := ha.shape
  subst has
  refine calls_of_T (m := 33) Tryz.func5 rfl rfl (by simp) hS ?_
  repeat (first | refine za rfl rfl ?_ | refine zb rfl ?_ | refine zc rfl ?_)
  refine TL.box (cs := msCells m.head (.slice aa m.asks.length ac) ov_ tv rv) rfl rfl rfl rfl (fun xb => ?_)
  refine TL.allocZ 14 Tryz.zeroValue34 (by kernel_rfl) rfl rfl (fun rb zs hz => ?_)
  repeat (first | refine za rfl rfl ?_ | refine zb rfl ?_ | refine zc rfl ?_)
  refine T.mergeA (α := Nat × RcX × RcX × RcX) (fun x => [(1, ptr xb 0), (2, ptr rb 0), (3, ptr x.1 0)])
    (fun x w' => (SlR (ov (mv x.2.1.mem) h) (x.2.1.s m.one.length) m.one ∧ SlR (ov (mv x.2.2.1.mem) h) (x.2.2.1.s m.two.length) m.two ∧ SlR (ov (mv x.2.2.2.mem) h) (x.2.2.2.s m.three.length) m.three) ∧
      St (keys []) w ((x.1, .row (mcells m.head (.slice none 0 0) (x.2.1.s m.one.length) (x.2.2.1.s m.two.length) (x.2.2.2.s m.three.length)) 34) :: (rb, .row zs 34) :: (xb, .row (msCells m.head (.slice aa m.asks.length ac) ov_ tv rv) 28) :: (x.2.1.mem ++ (x.2.2.1.mem ++ x.2.2.2.mem))) w') ?_ (fun H => ?_)
  case refine_2 =>
    refine TR.start 14 [(xb, .row (msCells m.head (.slice aa m.asks.length ac) ov_ tv rv) 28)] mixed (by kernel_rfl) (by decide) (by simp) ?_
    refine TR.p 0 tbk rfl (by kernel_rfl) (by kernel_rfl) rfl ?_
    refine TR.q 1 rfl (by kernel_rfl) (by kernel_rfl) rfl rfl rfl (Y.loadA (vs := hdCells m.head) szk rfl rfl rfl (fun w h i v hv => h.cell (i := 0) rfl (by simp only [Nat.zero_add]; rw [nth_eq] at hv ⊢; exact (List.getElem?_append_left (List.getElem?_eq_some_iff.1 hv).1).trans hv))) ?_
    refine TR.p 2 tbk rfl (by kernel_rfl) (by kernel_rfl) rfl ?_
    refine TR.q 3 rfl (by kernel_rfl) (by kernel_rfl) rfl rfl rfl (Y.load szk rfl rfl (fun w h => h.cell (i := 0) rfl rfl)) ?_
    refine TR.p 5 tbk rfl (by kernel_rfl) (by kernel_rfl) rfl ?_
    refine TR.q 6 rfl (by kernel_rfl) (by kernel_rfl) rfl rfl rfl (Y.load szk rfl rfl (fun w h => h.cell (i := 0) rfl rfl)) ?_
    refine TR.p 8 tbk rfl (by kernel_rfl) (by kernel_rfl) rfl ?_
    refine TR.q 9 rfl (by kernel_rfl) (by kernel_rfl) rfl rfl rfl (Y.load szk rfl rfl (fun w h => h.cell (i := 0) rfl rfl)) ?_
    refine TR.two (i := 4) (j := 12) (by kernel_rfl) ?_ ?_
    case refine_2 =>
      refine RS.allocZ 14 rfl Tryz.zeroValue34 (by kernel_rfl) rfl rfl (fun _ _ => by simp) (fun cb zs2 hz2 => ?_)
      refine TR.lin [(4, false), (7, false), (10, false), (11, true), (13, false)] (by kernel_rfl) rfl ?_
      refine TS.call0 rfl Tryz.call17 rfl rfl rfl (records h m.one hm.onen hm.one ov_ h1) (fun w' hA => vle hA hh) (fun _ => by simp) (fun y1 => TS.and fun g1 => ?_)
      refine TS.call0 rfl Tryz.call17 rfl rfl rfl (records h m.two hm.twon hm.two tv h2) (fun w' hA => vle hA hh) (fun _ => by simp) (fun y2 => TS.and fun g2 => ?_)
      refine TS.call0 rfl Tryz.call17 rfl rfl rfl (records h m.three hm.threen hm.three rv h3) (fun w' hA => vle hA hh) (fun _ => by simp) (fun y3 => TS.and fun g3 => ?_)
      refine TS.y rfl rfl rfl rfl (Y.build (pv := [(0, .agg (hdCells m.head).toArray), (2, y1.s m.one.length), (3, y2.s m.two.length), (4, y3.s m.three.length)]) rfl (build34 m.head _ _ _ _ _ _ _ _ _)) ?_
      refine TS.mono (fun w hA => hA.perm (M' := (cb, .row zs2 34) :: (rb, .row zs 34) :: (xb, .row (msCells m.head (.slice aa m.asks.length ac) ov_ tv rv) 28) :: (y1.mem ++ (y2.mem ++ y3.mem))) (perm_count fun p => by simp only [List.countP_append, List.countP_cons, List.countP_nil]; omega)) ?_
      refine TS.stW (us := mcells m.head (.slice none 0 0) (y1.s m.one.length) (y2.s m.two.length) (y3.s m.three.length)) 0 rfl szk rfl rfl rfl rfl rfl hz2 (mcells_one rfl rfl rfl rfl) (by simp [setN]) ?_
      refine TS.nil ?_
      exact T.sub (L' := [(1, ptr xb 0), (2, ptr rb 0), (3, ptr cb 0)]) ⟨rfl, rfl, rfl, trivial⟩ (T.mono (fun w hA => ⟨⟨g1, g2, g3⟩, hA⟩) (H (cb, y1, y2, y3)))
    refine RS.call0 rfl Tryz.call17 rfl rfl rfl (records h m.one hm.onen hm.one ov_ h1) (fun w' hA => vle hA hh) (fun _ => by simp) (fun y1 => TR.and fun g1 => ?_)
    refine TR.two (i := 7) (j := 12) (by kernel_rfl) ?_ ?_
    case refine_2 =>
      refine RS.allocZ 14 rfl Tryz.zeroValue34 (by kernel_rfl) rfl rfl (fun _ _ => by simp) (fun cb zs2 hz2 => ?_)
      refine TR.lin [(7, false), (10, false), (11, true), (13, false)] (by kernel_rfl) rfl ?_
      refine TS.call0 rfl Tryz.call17 rfl rfl rfl (records h m.two hm.twon hm.two tv h2) (fun w' hA => vle hA hh) (fun _ => by simp) (fun y2 => TS.and fun g2 => ?_)
      refine TS.call0 rfl Tryz.call17 rfl rfl rfl (records h m.three hm.threen hm.three rv h3) (fun w' hA => vle hA hh) (fun _ => by simp) (fun y3 => TS.and fun g3 => ?_)
      refine TS.y rfl rfl rfl rfl (Y.build (pv := [(0, .agg (hdCells m.head).toArray), (2, y1.s m.one.length), (3, y2.s m.two.length), (4, y3.s m.three.length)]) rfl (build34 m.head _ _ _ _ _ _ _ _ _)) ?_
      refine TS.mono (fun w hA => hA.perm (M' := (cb, .row zs2 34) :: (rb, .row zs 34) :: (xb, .row (msCells m.head (.slice aa m.asks.length ac) ov_ tv rv) 28) :: (y1.mem ++ (y2.mem ++ y3.mem))) (perm_count fun p => by simp only [List.countP_append, List.countP_cons, List.countP_nil]; omega)) ?_
      refine TS.stW (us := mcells m.head (.slice none 0 0) (y1.s m.one.length) (y2.s m.two.length) (y3.s m.three.length)) 0 rfl szk rfl rfl rfl rfl rfl hz2 (mcells_one rfl rfl rfl rfl) (by simp [setN]) ?_
      refine TS.nil ?_
      exact T.sub (L' := [(1, ptr xb 0), (2, ptr rb 0), (3, ptr cb 0)]) ⟨rfl, rfl, rfl, trivial⟩ (T.mono (fun w hA => ⟨⟨g1, g2, g3⟩, hA⟩) (H (cb, y1, y2, y3)))
    refine RS.call0 rfl Tryz.call17 rfl rfl rfl (records h m.two hm.twon hm.two tv h2) (fun w' hA => vle hA hh) (fun _ => by simp) (fun y2 => TR.and fun g2 => ?_)
    refine TR.two (i := 10) (j := 12) (by kernel_rfl) ?_ ?_
    case refine_2 =>
      refine RS.allocZ 14 rfl Tryz.zeroValue34 (by kernel_rfl) rfl rfl (fun _ _ => by simp) (fun cb zs2 hz2 => ?_)
      refine TR.lin [(10, false), (11, true), (13, false)] (by kernel_rfl) rfl ?_
      refine TS.call0 rfl Tryz.call17 rfl rfl rfl (records h m.three hm.threen hm.three rv h3) (fun w' hA => vle hA hh) (fun _ => by simp) (fun y3 => TS.and fun g3 => ?_)
      refine TS.y rfl rfl rfl rfl (Y.build (pv := [(0, .agg (hdCells m.head).toArray), (2, y1.s m.one.length), (3, y2.s m.two.length), (4, y3.s m.three.length)]) rfl (build34 m.head _ _ _ _ _ _ _ _ _)) ?_
      refine TS.mono (fun w hA => hA.perm (M' := (cb, .row zs2 34) :: (rb, .row zs 34) :: (xb, .row (msCells m.head (.slice aa m.asks.length ac) ov_ tv rv) 28) :: (y1.mem ++ (y2.mem ++ y3.mem))) (perm_count fun p => by simp only [List.countP_append, List.countP_cons, List.countP_nil]; omega)) ?_
      refine TS.stW (us := mcells m.head (.slice none 0 0) (y1.s m.one.length) (y2.s m.two.length) (y3.s m.three.length)) 0 rfl szk rfl rfl rfl rfl rfl hz2 (mcells_one rfl rfl rfl rfl) (by simp [setN]) ?_
      refine TS.nil ?_
      exact T.sub (L' := [(1, ptr xb 0), (2, ptr rb 0), (3, ptr cb 0)]) ⟨rfl, rfl, rfl, trivial⟩ (T.mono (fun w hA => ⟨⟨g1, g2, g3⟩, hA⟩) (H (cb, y1, y2, y3)))
    refine RS.call0 rfl Tryz.call17 rfl rfl rfl (records h m.three hm.threen hm.three rv h3) (fun w' hA => vle hA hh) (fun _ => by simp) (fun y3 => TR.and fun g3 => ?_)
    refine TR.lin [(11, true), (12, false), (13, false)] (by kernel_rfl) rfl ?_
    refine TS.y rfl rfl rfl rfl (Y.build (pv := [(0, .agg (hdCells m.head).toArray), (2, y1.s m.one.length), (3, y2.s m.two.length), (4, y3.s m.three.length)]) rfl (build34 m.head _ _ _ _ _ _ _ _ _)) ?_
    refine TS.allocZ 14 rfl Tryz.zeroValue34 (by kernel_rfl) rfl rfl (fun _ _ => by simp) (fun cb zs2 hz2 => ?_)
    refine TS.mono (fun w hA => hA.perm (M' := (cb, .row zs2 34) :: (rb, .row zs 34) :: (xb, .row (msCells m.head (.slice aa m.asks.length ac) ov_ tv rv) 28) :: (y1.mem ++ (y2.mem ++ y3.mem))) (perm_count fun p => by simp only [List.countP_append, List.countP_cons, List.countP_nil]; omega)) ?_
    refine TS.stW (us := mcells m.head (.slice none 0 0) (y1.s m.one.length) (y2.s m.two.length) (y3.s m.three.length)) 0 rfl szk rfl rfl rfl rfl rfl hz2 (mcells_one rfl rfl rfl rfl) (by simp [setN]) ?_
    refine TS.nil ?_
    exact T.sub (L' := [(1, ptr xb 0), (2, ptr rb 0), (3, ptr cb 0)]) ⟨rfl, rfl, rfl, trivial⟩ (T.mono (fun w hA => ⟨⟨g1, g2, g3⟩, hA⟩) (H (cb, y1, y2, y3)))
  rintro ⟨cb, y1, y2, y3⟩
  refine T.and fun ⟨g1, g2, g3⟩ => ?_
  simp only at g1 g2 g3
  generalize hC : msCells m.head (.slice aa m.asks.length ac) ov_ tv rv = C
  have hC10 : nth C 10 = some (.slice aa m.asks.length ac) := by rw [← hC]; rfl
  clear hC
  generalize hR : y1.mem ++ (y2.mem ++ y3.mem) = RR
  simp only [hR]
  repeat (first | refine za rfl rfl ?_ | refine zb rfl ?_ | refine zc rfl ?_)
  refine TL.ld 2 szk rfl rfl rfl hC10 rfl rfl ?_
  repeat (first | refine za rfl rfl ?_ | refine zb rfl ?_ | refine zc rfl ?_)
  refine T.loop (α := CvX) (fun x => [(1, ptr xb 0), (2, ptr rb 0), (3, ptr cb 0), (19, .slice aa m.asks.length ac), (20, .int .i64 (m.asks.length : Int)), (21, .int .i64 (x.i : Int))])
    (fun x w' => x.ok m.asks ∧ St (keys []) w ((cb, .row (mcells m.head x.qv (y1.s m.one.length) (y2.s m.two.length) (y3.s m.three.length)) 34) :: (rb, .row zs 34) :: (xb, .row C 28) :: (x.Q ++ RR)) w')
    (fun x => m.asks.length - x.i) ⟨0, .slice none 0 0, [], [], y1, y2, y3⟩ ⟨rfl, rfl, rfl, rfl, rfl, rfl, trivial⟩
    (fun w' hA => ⟨⟨Nat.zero_le _, .inl ⟨rfl, rfl, rfl, rfl⟩, All.zero⟩, hA⟩) ?_
  rintro ⟨i, qv, Q, xs, y1', y2', y3'⟩ ih
  refine T.and fun ⟨hi, hQ, hall⟩ => ?_
  simp only at hi hQ hall
  have hn := hm.askn
  repeat (first | refine za rfl rfl ?_ | refine zb rfl ?_ | refine zc rfl ?_)
  by_cases hlt : i < m.asks.length
  · refine T.condT rfl (by simpa using hlt) ?_
    obtain ⟨a, hask⟩ := nth_lt hlt
    obtain ⟨b, o, cap', cs, hv, _, _, hrs, hcs⟩ := ha.at hask
    injection hv with hv1 _ hv3
    subst hv1 hv3 hcs
    repeat (first | refine za rfl rfl ?_ | refine zb rfl ?_ | refine zc rfl ?_)
    refine TL.ix (j := i) tbk rfl rfl rfl rfl rfl rfl hlt ?_
    refine TL.ldRA (hrs.mono hh) szk rfl rfl rfl rfl rfl ?_
    refine TL.allocZ 3 Tryz.zeroValue51 rfl rfl rfl (fun lb zs hz => ?_)
    refine TL.stW (vs := akC a) 0 szk rfl rfl rfl rfl rfl hz (by simp [akC, Value.oneCell', str]) ?_
    repeat (first | refine za rfl rfl ?_ | refine zb rfl ?_ | refine zc rfl ?_)
    refine TL.ld 1 szk rfl rfl rfl rfl rfl rfl ?_
    refine TL.ldW 0 szk rfl rfl rfl rfl rfl rfl ?_
    refine TL.bsA (cs := akC a) el31 rfl rfl (by decide) rfl rfl (fun eb => ?_)
    have hqo : qv.oneCell' = true := by rcases hQ with ⟨_, e, _⟩ | ⟨_, _, _, e, _⟩ <;> rw [e] <;> rfl
    rcases hQ with ⟨h0, hq, hQ, hx⟩ | ⟨qb, qcs, qcap, hq, hQ, hown⟩
    · subst hq hQ hx h0
      refine TL.appendNil (m := 1) (news := akC a) el31 sl31 rfl rfl rfl rfl (Src.slice (fun w hA j u hj => by rw [add_zero', Nat.zero_add]; exact hA.cell (i := 0) rfl (by rw [nth_eq]; exact hj)) rfl (by simp [akC, Value.oneCell', str])) (by decide) (by decide) (by decide) (fun qb qcs qcap qown => ?_)
      repeat (first | refine za rfl rfl ?_ | refine zb rfl ?_ | refine zc rfl ?_)
      refine TL.st 3 szk rfl rfl rfl rfl rfl rfl ?_
      repeat (first | refine za rfl rfl ?_ | refine zb rfl ?_ | refine zc rfl ?_)
      rw [show IntKind.i64.wrap (((0 : Nat) : Int) + 1) = ((1 : Nat) : Int) from rfl]
      refine T.again ih ⟨1, .slice (some ⟨qb, 0, none⟩) 1 qcap, [(qb, .row qcs 52)], [] ++ akC a, y1, y2, y3⟩ (by simp; omega) ⟨rfl, rfl, rfl, rfl, rfl, rfl, trivial⟩ (fun w' hA => ⟨⟨hlt, .inr ⟨qb, qcs, qcap, rfl, rfl, by simpa using qown⟩, hall.next rfl hask rfl rfl⟩, ?_⟩)
      exact (hA.sub (M' := (qb, .row qcs 52) :: (cb, .row (mcells m.head (.slice (some ⟨qb, 0, none⟩) 1 qcap) (y1.s m.one.length) (y2.s m.two.length) (y3.s m.three.length)) 34) :: (rb, .row _ 34) :: (xb, .row C 28) :: RR) (List.Sublist.cons_cons _ (List.Sublist.cons _ (List.Sublist.cons _ (List.Sublist.refl _))))).perm (perm_count fun p => by simp only [List.countP_append, List.countP_cons, List.countP_nil]; omega)
    · subst hq hQ
      have hxl := hown.length
      refine TL.append (m := 1) (news := akC a) 5 el31 sl31 rfl rfl rfl rfl rfl hown (Src.slice (fun w hA j u hj => by rw [add_zero', Nat.zero_add]; exact hA.cell (i := 0) rfl (by rw [nth_eq]; exact hj)) rfl (by simp [akC, Value.oneCell', str])) (by omega) (by omega) (fun qb' qcs' qcap' qown => ?_)
      repeat (first | refine za rfl rfl ?_ | refine zb rfl ?_ | refine zc rfl ?_)
      refine TL.st 2 szk rfl rfl rfl rfl rfl rfl ?_
      repeat (first | refine za rfl rfl ?_ | refine zb rfl ?_ | refine zc rfl ?_)
      rw [add1_i64 (a := i) (by omega)]
      exact T.again ih ⟨i + 1, .slice (some ⟨qb', 0, none⟩) (i + 1) qcap', [(qb', .row qcs' 52)], xs ++ akC a, y1, y2, y3⟩ (by simp; omega) ⟨rfl, rfl, rfl, rfl, rfl, rfl, trivial⟩ (fun w' hA => ⟨⟨hlt, .inr ⟨qb', qcs', qcap', rfl, rfl, qown⟩, hall.next hxl hask rfl rfl⟩, hA.sub (List.Sublist.cons _ (List.Sublist.cons _ (List.Sublist.refl _)))⟩)
  refine T.condF rfl (by simpa using hlt) ?_
  have hiq : i = m.asks.length := by omega
  subst hiq
  have hqo : qv.oneCell' = true := by rcases hQ with ⟨_, e, _⟩ | ⟨_, _, _, e, _⟩ <;> rw [e] <;> rfl
  repeat (first | refine za rfl rfl ?_ | refine zb rfl ?_ | refine zc rfl ?_)
  refine TL.ldW (cs := mcells m.head qv (y1.s m.one.length) (y2.s m.two.length) (y3.s m.three.length)) 0 szk rfl rfl rfl rfl rfl rfl ?_
  refine TL.stW (vs := mcells m.head qv (y1.s m.one.length) (y2.s m.two.length) (y3.s m.three.length)) 1 szk rfl rfl rfl rfl rfl hz (mcells_one hqo rfl rfl rfl) ?_
  repeat (first | refine za rfl rfl ?_ | refine zb rfl ?_ | refine zc rfl ?_)
  refine T.retG Tryz.func5 (.cons (RV.cellW 1 szk rfl rfl rfl rfl) .nil) (fun w' hA => ⟨⟨m.asks.length, qv, Q, xs, y1, y2, y3⟩, rfl, ?_, ?_⟩)
  case refine_2 => subst hR; exact hA.sub (List.Sublist.cons _ (List.Sublist.cons _ (List.Sublist.cons _ (List.Sublist.refl _))))
  have hA' : St (keys []) w (Q ++ RR) w' := hA.sub (List.Sublist.cons _ (List.Sublist.cons _ (List.Sublist.cons _ (List.Sublist.refl _))))
  simp only [CvX.mem, hR]
  refine ⟨?_, g1.mono (ov_grow hA' hh fun p hp => ?_), g2.mono (ov_grow hA' hh fun p hp => ?_), g3.mono (ov_grow hA' hh fun p hp => ?_)⟩
  · rcases hQ with ⟨h0, hq, hQ, hx⟩ | ⟨qb, qcs, qcap, hq, hQ, hown⟩
    · rw [hq]
      exact .inl ⟨⟨_, _, rfl⟩, List.length_eq_zero_iff.1 h0⟩
    · rw [hq]
      subst hQ
      exact hall.sl hA'.nd (i := 0) rfl hown (ov_left _ _)
  · subst hR; exact List.mem_append_right _ (List.mem_append_left _ hp)
  · subst hR; exact List.mem_append_right _ (List.mem_append_right _ (List.mem_append_left _ hp))
  · subst hR; exact List.mem_append_right _ (List.mem_append_right _ (List.mem_append_right _ hp))
end X
namespace X
/-- What a call does that makes bytes. -/
abbrev BCt (fn : FuncId) (args : List Value) (h : View) (B : Bs) : Prop := Ct (β := Bk) Tryz.prog fn args [] (fun w => View.le h (view [] w)) (fun y => slV y.1 B.length y.2.2) (fun y _ => OwnB y.2.1 B y.2.2) (fun y => [(y.1, .row y.2.1 5)])
theorem own_self (B : Bs) : OwnB (B.map bv) B B.length := ⟨by rw [Nat.mul_one, List.take_of_length_le]; simp, by simp, by simp, Nat.le_refl _⟩
theorem src_own {X : List Nat} {w0 : World} {M : Mem} {b i c cap : Nat} {cs : List Value} {tt : TypeId} {E : Bs} (hi : nth M i = some (b, .row cs tt)) (ho : OwnB cs E cap) : Src Tryz.prog (St X w0 M) 1 (.slice (some ⟨b, 0, none⟩) E.length c) E.length (E.map bv) :=
  Src.slice (fun w hA j u hj => by rw [add_zero', Nat.zero_add]; exact hA.cell hi (ho.nth (by rw [nth_eq]; exact hj))) (by simp) fun u hu => bv_mem hu
theorem two (h : View) (m : Nat) : BCt 93 [.int .u16 (m : Int)] h (w2 m) := by
  intro w hS _
  refine calls_of_T (m := 9) Tryz.func93 rfl rfl (by simp) hS ?_
  repeat (first | refine za rfl rfl ?_ | refine zb rfl ?_ | refine zc rfl ?_)
  have e1 := byte_of (m / 256) ((m : Int).fdiv (2 ^ min 8 IntKind.u16.bits)) (by rw [shr16]; omega)
  have e2 := byte_of m (m : Int) (by omega)
  refine TL.bs (vs := (w2 m).map bv) el37 (by simp only [w2, List.map]; rw [← e1, ← e2]; rfl) rfl (fun v hv => bv_mem hv) (by simp [w2]) rfl rfl (fun b1 => ?_)
  repeat (first | refine za rfl rfl ?_ | refine zb rfl ?_ | refine zc rfl ?_)
  exact T.ret Tryz.func93 rfl (fun w hA => ⟨(b1, (w2 m).map bv, 2), rfl, own_self _, hA⟩)
/-- Lists of bytes. -/
def SlL (h : View) (v : Value) (ls : List Bs) : Prop := Sl h 1 (fun s cs => ∃ dv, cs = [dv] ∧ SlB h dv s) v ls
inductive Each (H : View) : List Value → List Bs → Prop where
  | nil : Each H [] []
  | cons {v : Value} {s : Bs} {vs : List Value} {ls : List Bs} (a : SlB H v s) (b : Each H vs ls) : Each H (v :: vs) (s :: ls)
theorem Each.at {H : View} : ∀ {vs : List Value} {ls : List Bs}, Each H vs ls → ∀ i s, nth ls i = some s → ∃ v, nth vs i = some v ∧ SlB H v s
  | _, _, .cons a _, 0, s, hs => by simp [nth] at hs; subst hs; exact ⟨_, rfl, a⟩
  | _, _, .cons _ b, i + 1, s, hs => b.at i s hs
  | _, _, .nil, 0, _, hs => by simp [nth] at hs
  | _, _, .nil, _ + 1, _, hs => by simp [nth] at hs
theorem SlL.of {H : View} {b : Nat} {vs : List Value} {ls : List Bs} (hr : RowAt H b 0 vs) (he : Each H vs ls) : SlL H (.slice (some ⟨b, 0, none⟩) ls.length ls.length) ls :=
  .inr ⟨b, 0, _, rfl, Nat.le_refl _, fun i s hs => let ⟨v, h1, h2⟩ := he.at i s hs; ⟨[v], rfl, hr.part (fun j u hj => by
    cases j with
    | zero => simp [nth] at hj; subst hj; rw [Nat.add_zero, Nat.mul_one]; exact h1
    | succ j => simp [nth] at hj) rfl, v, rfl, h2⟩⟩
theorem flat_le : ∀ (ls : List Bs) (i : Nat), (ls.take i).flatten.length ≤ ls.flatten.length
  | [], i => by simp
  | s :: r, 0 => by simp
  | s :: r, i + 1 => by have := flat_le r i; simp only [List.take_succ_cons, List.flatten_cons, List.length_append]; omega
theorem flat_take {ls : List Bs} {i : Nat} {s : Bs} (h : nth ls i = some s) : (ls.take (i + 1)).flatten = (ls.take i).flatten ++ s := by rw [take_nth h]; simp
structure JX where
  i : Nat
  b : Nat
  cs : List Value
  cap : Nat
theorem joined (h : View) (ls : List Bs) (v : Value) (hx : SlL h v ls) (hB : ls.flatten.length ≤ 1099511627776) (hn : ls.length ≤ 1099511627776) : BCt 92 [v] h ls.flatten := by
  intro w hS hh
  obtain ⟨a, cap, hsh, hcap⟩ := hx.shape
  subst hsh
  refine calls_of_T (m := 18) Tryz.func92 rfl rfl (by simp) hS ?_
  repeat (first | refine za rfl rfl ?_ | refine zb rfl ?_ | refine zc rfl ?_)
  refine TL.bs0 el37 rfl rfl (fun b1 => ?_)
  repeat (first | refine za rfl rfl ?_ | refine zb rfl ?_ | refine zc rfl ?_)
  refine T.loop (α := JX) (fun x => [(3, .slice (some ⟨x.b, 0, none⟩) (ls.take x.i).flatten.length x.cap), (7, .slice a ls.length cap), (8, .int .i64 (ls.length : Int)), (9, .int .i64 (x.i : Int))])
    (fun x w' => (x.i ≤ ls.length ∧ OwnB x.cs (ls.take x.i).flatten x.cap) ∧ St (keys []) w [(x.b, .row x.cs 5)] w')
    (fun x => ls.length - x.i) ⟨0, b1, [], 0⟩ ⟨rfl, rfl, rfl, rfl, trivial⟩ (fun w' hA => ⟨⟨Nat.zero_le _, own0 1⟩, hA⟩) ?_
  rintro ⟨i, b, cs, bcap⟩ ih
  refine T.and fun ⟨hi, hown⟩ => ?_
  simp only at hi hown
  repeat (first | refine za rfl rfl ?_ | refine zb rfl ?_ | refine zc rfl ?_)
  by_cases hlt : i < ls.length
  · refine T.condT rfl (by simpa using hlt) ?_
    obtain ⟨s, hs⟩ := nth_lt hlt
    obtain ⟨b', o, cap', cs', hv, _, _, hrs, dv, hcs, hdv⟩ := hx.at hs
    injection hv with hv1 _ hv3
    subst hv1 hv3 hcs
    have hf := flat_le ls (i + 1)
    rw [flat_take hs, List.length_append] at hf
    repeat (first | refine za rfl rfl ?_ | refine zb rfl ?_ | refine zc rfl ?_)
    refine TL.ix (j := i) tbk rfl rfl rfl rfl rfl rfl hlt ?_
    refine TL.ldR (hrs.mono hh) szk rfl rfl rfl rfl ?_
    repeat (first | refine za rfl rfl ?_ | refine zb rfl ?_ | refine zc rfl ?_)
    refine TL.append (len := (ls.take i).flatten.length) 0 el37 sl37 rfl rfl rfl rfl rfl hown (SlB.src (hdv.mono hh)) (by omega) (by omega) (fun b2 cs2 cap2 hown2 => ?_)
    repeat (first | refine za rfl rfl ?_ | refine zb rfl ?_ | refine zc rfl ?_)
    rw [add1_i64 (a := i) (by omega)]
    have e := flat_take hs
    exact T.again ih ⟨i + 1, b2, cs2, cap2⟩ (by simp; omega) ⟨by rw [e, List.length_append]; rfl, rfl, rfl, rfl, trivial⟩ (fun w' hA => ⟨⟨hlt, by simp only; rw [e]; exact hown2.cast (by simp) (by simp)⟩, hA⟩)
  · refine T.condF rfl (by simpa using hlt) ?_
    have hiq : i = ls.length := by omega
    subst hiq
    rw [List.take_length] at hown
    repeat (first | refine za rfl rfl ?_ | refine zb rfl ?_ | refine zc rfl ?_)
    exact T.ret Tryz.func92 rfl (fun w' hA => ⟨(b, cs, bcap), by rw [List.take_length]; rfl, hown, hA⟩)
theorem mv_in {w w' : World} {M : Mem} (hS : St (keys []) w M w') : View.le (mv M) (view [] w') := by have := st_out (E := M) (M := []) (Z := keys []) (w0 := w) (w := w') (by simpa using hS); exact this
section
variable {f : FuncId} {n : Nat} {R : Ending → World → Prop} {k : List Item} {L : Fr} {ops : Array Oper} {rest : List Oper} {w : World} {M : Mem} {x : Operand} {ts : Array TypeId} {d : Nat} {ty : TypeId} {pos : String} {af : Array Edge} {g : Option (Nat × Bool)} {sb m : Nat} {vs : List Value} {ls : List Bs} {h : View}
/-- Joined(..), of values that have just been laid side by side. -/
theorem TL.join (hh : View.le h (view [] w)) (hx : ev L x = some (.slice (some ⟨sb, 0, none⟩) m m)) (hn : d.blt n = true) (hw : want ops L g = some true) (hm : ls.length = m) (he : ∀ w', St (keys []) w ((sb, .row vs 37) :: M) w' → Each (ov (mv ((sb, .row vs 37) :: M)) h) vs ls)
    (hB : ls.flatten.length ≤ 1099511627776) (hl : ls.length ≤ 1000) (hk : ∀ b cs cap, OwnB cs ls.flatten cap → TL Tryz.prog f n R k ops rest ((d, slV b ls.flatten.length cap) :: L) (St (keys []) w ((b, .row cs 5) :: (sb, .row vs 37) :: M))) :
    TL Tryz.prog f n R k ops (⟨some d, .call { callee := .value (.func 92), args := #[x], argTypes := ts }, ty, pos, af, g⟩ :: rest) L (St (keys []) w ((sb, .row vs 37) :: M)) := by
  subst hm
  refine ⟨fun a w' ha hA => ?_⟩
  have hE := he w' hA
  have hr : RowAt (ov (mv ((sb, .row vs 37) :: M)) h) sb 0 vs := (mv_row hA.nd (i := 0) rfl (fun j v hj => by rw [Nat.zero_add]; exact hj)).mono (ov_left _ _)
  exact (TL.call0 (M := (sb, .row vs 37) :: M) Tryz.call92 (vs := [.slice (some ⟨sb, 0, none⟩) ls.length ls.length]) (by simp only [evs, hx]) hn hw (joined _ ls _ (SlL.of hr hE) hB (by omega)) (fun w2 h2 => ov_in h2 hh fun p hp => hp) (fun y => TL.and fun hy => hk y.1 y.2.1 y.2.2 hy)).go a w' ha hA
theorem TS.join {Mq : Mem} {r : Nat} {sched : List (Nat × Bool)} (hh : View.le h (view [] w)) (ho : nth ops.toList r = some ⟨some d, .call { callee := .value (.func 92), args := #[x], argTypes := ts }, ty, pos, af, g⟩) (hx : ev L x = some (.slice (some ⟨sb, 0, none⟩) m m)) (hn : d.blt n = true) (hw : want ops L g = some true) (hm : ls.length = m) (he : ∀ w', St (keys []) w ((sb, .row vs 37) :: M) w' → Each (ov (mv ((sb, .row vs 37) :: M)) h) vs ls)
    (hB : ls.flatten.length ≤ 1099511627776) (hl : ls.length ≤ 1000) (hS : ∀ p ∈ Mq, p ∈ M) (hk : ∀ b cs cap, OwnB cs ls.flatten cap → TS Tryz.prog f n R k ops (Kp (keys []) w Mq) sched ((d, slV b ls.flatten.length cap) :: L) (St (keys []) w ((b, .row cs 5) :: (sb, .row vs 37) :: M))) :
    TS Tryz.prog f n R k ops (Kp (keys []) w Mq) ((r, false) :: sched) L (St (keys []) w ((sb, .row vs 37) :: M)) := by
  subst hm
  refine ⟨fun h1 f1 l h2 h3 a w' ha hA hS' => ?_⟩
  have hE := he w' hA
  have hr : RowAt (ov (mv ((sb, .row vs 37) :: M)) h) sb 0 vs := (mv_row hA.nd (i := 0) rfl (fun j v hj => by rw [Nat.zero_add]; exact hj)).mono (ov_left _ _)
  exact (TS.call0 (M := (sb, .row vs 37) :: M) ho Tryz.call92 (vs := [.slice (some ⟨sb, 0, none⟩) ls.length ls.length]) (by simp only [evs, hx]) hn hw (joined _ ls _ (SlL.of hr hE) hB (by omega)) (fun w2 h2 => ov_in h2 hh fun p hp => hp) (fun _ p hp => List.mem_cons_of_mem _ (List.mem_cons_of_mem _ (hS p hp))) (fun y => TS.and fun hy => hk y.1 y.2.1 y.2.2 hy)).go h1 f1 l h2 h3 a w' ha hA hS'
end
theorem el252 : Elem Tryz.prog 252 37 1 24 := elem_of (by kernel_rfl)
theorem two_mod (h : View) (m : Nat) : BCt 93 [.int .u16 ((m % 65536 : Nat) : Int)] h (w2 m) := by rw [← w2_mod m]; exact two h _
theorem SlB.in {w w' : World} {M : Mem} {h : View} (hS : St (keys []) w M w') {i b cap : Nat} {cs : List Value} {t : TypeId} {B : Bs} (hi : nth M i = some (b, .row cs t)) (ho : OwnB cs B cap) : SlB (ov (mv M) h) (slV b B.length cap) B := (SlB.of hS.nd hi ho).mono (ov_left _ _)
theorem four (h : View) (m : Nat) (hm : m < 4294967296) : BCt 95 [.int .u32 (m : Int)] h (w4 m) := by
  intro w hS hh
  refine calls_of_T (m := 12) Tryz.func95 rfl rfl (by simp) hS ?_
  repeat (first | refine za rfl rfl ?_ | refine zb rfl ?_ | refine zc rfl ?_)
  rw [show IntKind.u16.wrap ((m : Int).fdiv (2 ^ min 16 IntKind.u32.bits)) = ((m / 65536 % 65536 : Nat) : Int) by rw [shr32_16, wrap_u16]; omega]
  refine TL.call0 Tryz.call93 rfl rfl rfl (two_mod h (m / 65536)) (fun w' hA => vle hA hh) (fun y1 => TL.and fun o1 => ?_)
  repeat (first | refine za rfl rfl ?_ | refine zb rfl ?_ | refine zc rfl ?_)
  rw [show IntKind.u16.wrap (m : Int) = ((m % 65536 : Nat) : Int) by rw [wrap_u16]; omega]
  refine TL.call0 Tryz.call93 rfl rfl rfl (two_mod h m) (fun w' hA => vle hA hh) (fun y2 => TL.and fun o2 => ?_)
  refine TL.bs (vs := [slV y1.1 (w2 (m / 65536)).length y1.2.2, slV y2.1 (w2 m).length y2.2.2]) el252 rfl rfl (by intro v hv; simp at hv; rcases hv with rfl | rfl <;> rfl) (by simp) rfl rfl (fun sb => ?_)
  refine TL.join (ls := [w2 (m / 65536), w2 m]) hh rfl rfl rfl rfl (fun w' hA => .cons (SlB.in hA (i := 2) rfl o1) (.cons (SlB.in hA (i := 1) rfl o2) .nil)) (by simp [w2]) (by simp) (fun b cs cap ho => ?_)
  repeat (first | refine za rfl rfl ?_ | refine zb rfl ?_ | refine zc rfl ?_)
  have e : [w2 (m / 65536), w2 m].flatten = w4 m := by simp [w2, w4, Nat.div_div_eq_div_mul]
  rw [e] at ho
  exact T.ret Tryz.func95 rfl (fun w' hA => ⟨(b, cs, cap), by rw [e]; rfl, ho, hA.sub (List.Sublist.cons_cons _ (List.nil_sublist _))⟩)
theorem flag (h : View) (b : Bool) (m : Nat) : RCt 91 [.bool b, .int .u16 (m : Int)] h (.int .u16 ((bit b m : Nat) : Int)) := by
  intro w hS hh
  refine calls_of_T (m := 7) Tryz.func91 rfl rfl (by simp) hS ?_
  repeat (first | refine za rfl rfl ?_ | refine zb rfl ?_ | refine zc rfl ?_)
  cases b
  · refine T.condF rfl rfl ?_
    repeat (first | refine za rfl rfl ?_ | refine zb rfl ?_ | refine zc rfl ?_)
    exact T.ret Tryz.func91 rfl (fun w hA => ⟨(), rfl, trivial, hA⟩)
  · refine T.condT rfl rfl ?_
    repeat (first | refine za rfl rfl ?_ | refine zb rfl ?_ | refine zc rfl ?_)
    exact T.ret Tryz.func91 rfl (fun w hA => ⟨(), rfl, trivial, hA⟩)
theorem zero_u8 {zs : List Value} {cap : Nat} (h : ∀ i z zc, Tryz.prog.info? 5 = some i → i.zero = some z → z.cells = #[zc] → zs = List.replicate cap zc) : zs = List.replicate cap (bv 0) := h Tryz.t5 (bv 0) (bv 0) (by kernel_rfl) (by kernel_rfl) rfl
theorem fixed (h : View) (data : Bs) (dv : Value) (hd : SlB h dv data) (m : Nat) (hm : m ≤ 1000) : BCt 100 [dv, .int .i64 (m : Int)] h (fix m data) := by
  intro w hS hh
  obtain ⟨da, dc, hsh, hdc⟩ := hd.shape
  subst hsh
  refine calls_of_T (m := 12) Tryz.func100 rfl rfl (by simp) hS ?_
  repeat (first | refine za rfl rfl ?_ | refine zb rfl ?_ | refine zc rfl ?_)
  refine TL.make (len := m) (cap := m) el37 rfl rfl (Nat.le_refl _) (by omega) (by omega) rfl rfl (fun b zs hzl hz => ?_)
  have hz := zero_u8 hz
  subst hz
  repeat (first | refine za rfl rfl ?_ | refine zb rfl ?_ | refine zc rfl ?_)
  refine TL.copy (q := min data.length m) 0 el37 rfl rfl rfl rfl rfl rfl (SlB.srcN (hd.mono hh) (by omega)) (by simp; omega) ?_
  rw [fix_splice]
  repeat (first | refine za rfl rfl ?_ | refine zb rfl ?_ | refine zc rfl ?_)
  refine T.ret Tryz.func100 rfl (fun w hA => ⟨(b, (fix m data).map bv, m), by rw [fix_length]; rfl, ?_, hA⟩)
  have := own_self (fix m data)
  rw [fix_length] at this
  exact this
end X
end Go.Proofs.YtifnodoffgfpbaaGreatDoor
