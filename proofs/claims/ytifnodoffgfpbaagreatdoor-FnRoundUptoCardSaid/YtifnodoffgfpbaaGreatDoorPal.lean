/- Contracts: impl.Build. -/
import Derived.Test.YtifnodoffgfpbaaGreatDoorPak
namespace Go.Proofs.YtifnodoffgfpbaaGreatDoor
open Go
namespace X
def Glob6 (h : View) : Prop := Glob h ∧ ∃ u v, RowAt h 5 0 [.iface u v]
theorem Glob6.mono {h h' : View} (hh : View.le h h') (k : Glob6 h) : Glob6 h' := let ⟨a, u, v, r⟩ := k; ⟨a.mono hh, u, v, r.mono hh⟩
theorem startCheckF (bb : Nat) (u : TypeId) (gv : Value) : Ct (β := Unit) Tryz.prog 56 [ptr bb 0, .int .u8 3] [] (fun w => RowAt (view [] w) bb 1 [.int .u8 ((4 : Nat) : Int)] ∧ RowAt (view [] w) 5 0 [.iface u gv]) (fun _ => .iface u gv) (fun _ _ => True) (fun _ => []) := by
  intro w hS ⟨hr, hg⟩
  refine calls_of_T (m := 18) Tryz.func56 rfl rfl (by simp) hS ?_
  repeat (first | refine za rfl rfl ?_ | refine zb rfl ?_ | refine zc rfl ?_)
  refine TL.ldR (off := 0 + 1) hr szk rfl rfl rfl rfl ?_
  repeat (first | refine za rfl rfl ?_ | refine zb rfl ?_ | refine zc rfl ?_)
  refine T.condF rfl rfl ?_
  repeat (first | refine za rfl rfl ?_ | refine zb rfl ?_ | refine zc rfl ?_)
  refine TL.ldR (off := 0 + 1) hr szk rfl rfl rfl rfl ?_
  repeat (first | refine za rfl rfl ?_ | refine zb rfl ?_ | refine zc rfl ?_)
  refine T.condT rfl rfl ?_
  repeat (first | refine za rfl rfl ?_ | refine zb rfl ?_ | refine zc rfl ?_)
  refine TL.ldR hg szk rfl rfl rfl rfl ?_
  repeat (first | refine za rfl rfl ?_ | refine zb rfl ?_ | refine zc rfl ?_)
  exact T.ret Tryz.func56 rfl (fun w hA => ⟨(), rfl, trivial, hA⟩)
theorem startAnswersF (bb : Nat) (mv_ cv : Value) (h : Bh) (u : TypeId) (gv : Value) : Ct (β := Unit) Tryz.prog 30 [ptr bb 0] [(bb, .row (blC mv_ 4 h cv) 91)] (fun w => RowAt (view [bb] w) 5 0 [.iface u gv]) (fun _ => .iface u gv) (fun _ _ => True) (fun _ => [(bb, .row (blC mv_ 4 h cv) 91)]) := by
  intro w hS hg
  refine calls_of_T (m := 12) Tryz.func30 rfl rfl (by simp) hS ?_
  repeat (first | refine za rfl rfl ?_ | refine zb rfl ?_ | refine zc rfl ?_)
  refine TL.call0 Tryz.call56 rfl rfl rfl (startCheckF bb u gv) (fun w' hA => ⟨blView hA (i := 0) rfl, hg.mono (st_viewLe hA (Mc := []) fun _ hp => by cases hp)⟩) (fun _ => TL.and fun _ => ?_)
  repeat (first | refine za rfl rfl ?_ | refine zb rfl ?_ | refine zc rfl ?_)
  refine T.condT rfl rfl ?_
  repeat (first | refine za rfl rfl ?_ | refine zb rfl ?_ | refine zc rfl ?_)
  exact T.ret Tryz.func30 rfl (fun w hA => ⟨(), rfl, trivial, hA⟩)
def secs (m : Ms) (i : Nat) : List Rc := match i with
  | 0 => m.one
  | 1 => m.two
  | _ => m.three
def hAt (m : Ms) (i j : Nat) : Bh := match i with
  | 0 => ⟨m.head.id, bitsOf m.head, m.asks.length, j, 0, 0⟩
  | 1 => ⟨m.head.id, bitsOf m.head, m.asks.length, m.one.length, j, 0⟩
  | 2 => ⟨m.head.id, bitsOf m.head, m.asks.length, m.one.length, m.two.length, j⟩
  | _ => ⟨m.head.id, bitsOf m.head, m.asks.length, m.one.length, m.two.length, m.three.length⟩
theorem hAt_inc (m : Ms) {i : Nat} (hi : i < 3) (j : Nat) : (hAt m i j).inc (3 + i) = hAt m i (j + 1) := by
  match i, hi with
  | 0, _ => rfl
  | 1, _ => rfl
  | 2, _ => rfl
theorem hAt_next (m : Ms) {i : Nat} (hi : i < 3) : hAt m i (secs m i).length = hAt m (i + 1) 0 := by
  match i, hi with
  | 0, _ => rfl
  | 1, _ => rfl
  | 2, _ => rfl
theorem hAt_few {m : Ms} (hm : m.Ok) {i j : Nat} (hj : j ≤ 1000) : (hAt m i j).few := by
  have := hm.few
  match i with
  | 0 => exact ⟨by simp only [hAt]; omega, by simp only [hAt]; omega, by simp only [hAt]; omega, by simp only [hAt]; omega⟩
  | 1 => exact ⟨by simp only [hAt]; omega, by simp only [hAt]; omega, by simp only [hAt]; omega, by simp only [hAt]; omega⟩
  | 2 => exact ⟨by simp only [hAt]; omega, by simp only [hAt]; omega, by simp only [hAt]; omega, by simp only [hAt]; omega⟩
  | _ + 3 => exact ⟨by simp only [hAt]; omega, by simp only [hAt]; omega, by simp only [hAt]; omega, by simp only [hAt]; omega⟩
/-- The sections that are done. -/
def Done (K : KM) (m : Ms) (i fin : Nat) : Prop := match i with
  | 0 => AsksAt K m.asks 12 fin
  | 1 => ∃ f0, AsksAt K m.asks 12 f0 ∧ RecsAt K m.one f0 fin
  | 2 => ∃ f0 f1, AsksAt K m.asks 12 f0 ∧ RecsAt K m.one f0 f1 ∧ RecsAt K m.two f1 fin
  | _ => ∃ f0 f1 f2, AsksAt K m.asks 12 f0 ∧ RecsAt K m.one f0 f1 ∧ RecsAt K m.two f1 f2 ∧ RecsAt K m.three f2 fin
theorem Done.mono {K K' : KM} (hh : KM.le K K') {m : Ms} {i fin : Nat} (k : Done K m i fin) : Done K' m i fin := by
  match i with
  | 0 => exact AsksAt.mono hh k
  | 1 => exact let ⟨a, b, c⟩ := k; ⟨a, b.mono hh, c.mono hh⟩
  | 2 => exact let ⟨a, b, c, d, e⟩ := k; ⟨a, b, c.mono hh, d.mono hh, e.mono hh⟩
  | _ + 3 => exact let ⟨a, b, b', c, d, e, f⟩ := k; ⟨a, b, b', c.mono hh, d.mono hh, e.mono hh, f.mono hh⟩
theorem Done.step {K : KM} {m : Ms} {i o fin : Nat} (hi : i < 3) (k : Done K m i o) (h : RecsAt K (secs m i) o fin) : Done K m (i + 1) fin := by
  match i, hi with
  | 0, _ => exact ⟨o, k, h⟩
  | 1, _ => exact let ⟨a, b, c⟩ := k; ⟨a, o, b, c, h⟩
  | 2, _ => exact let ⟨a, b, c, d, e⟩ := k; ⟨a, b, o, c, d, e, h⟩
def doneN (m : Ms) (i : Nat) : Nat := match i with
  | 0 => 0
  | 1 => m.one.length
  | 2 => m.one.length + m.two.length
  | _ => m.one.length + m.two.length + m.three.length
theorem doneN_next (m : Ms) {i : Nat} (hi : i < 3) : doneN m i + (secs m i).length = doneN m (i + 1) := by
  match i, hi with
  | 0, _ => exact Nat.zero_add _
  | 1, _ => rfl
  | 2, _ => rfl
theorem doneN_le (m : Ms) (i : Nat) : doneN m i ≤ m.one.length + m.two.length + m.three.length := by
  match i with
  | 0 => exact Nat.zero_le _
  | 1 => simp only [doneN]; omega
  | 2 => simp only [doneN]; omega
  | _ + 3 => exact Nat.le_refl _
theorem el95 : Elem Tryz.prog 95 26 1 24 := elem_of (by kernel_rfl)
theorem implBuild (m : Ms) (hm : m.Ok) (comp : Bool) (mv_ : Value) (av ov tv rv : Value) (hmv : mv_ = .agg (msCells m.head av ov tv rv).toArray) :
    Ct (β := Pk) Tryz.prog 10 [.slice none 0 0, mv_, .bool comp] [] (fun w => Glob6 (view [] w) ∧ SlA (view [] w) av m.asks ∧ SlR (view [] w) ov m.one ∧ SlR (view [] w) tv m.two ∧ SlR (view [] w) rv m.three)
      (fun y => .tuple #[y.sl, .bool true]) (fun y _ => y.ok H0 none ∧ y.B.length ≤ 200000 ∧ MsgAt (kn y.B H0) m) (fun y => y.mem none) := by
  intro w hS ⟨⟨hgl, gu, gv, hg5⟩, ha, h1, h2, h3⟩
  subst hmv
  have hfew := hm.few
  obtain ⟨aa, ac, has, _⟩ := ha.shape
  obtain ⟨_, _, ho1, _⟩ := h1.shape
  obtain ⟨_, _, ho2, _⟩ := h2.shape
  obtain ⟨_, _, ho3, _⟩ := h3.shape
  have o1 : ov.oneCell' = true := by rw [ho1]; rfl
  have o2 : tv.oneCell' = true := by rw [ho2]; rfl
  have o3 : rv.oneCell' = true := by rw [ho3]; rfl
  subst has
  clear ho1 ho2 ho3
  refine calls_of_T (m := 80) Tryz.func10 rfl rfl (by simp) hS ?_
  repeat (first | refine za rfl rfl ?_ | refine zb rfl ?_ | refine zc rfl ?_)
  refine TL.box (cs := msCells m.head (.slice aa m.asks.length ac) ov tv rv) rfl rfl rfl rfl (fun xb => ?_)
  repeat (first | refine za rfl rfl ?_ | refine zb rfl ?_ | refine zc rfl ?_)
  refine T.mergeA (α := Nat × Pk) (fun x => [(2, .bool comp), (4, ptr xb 0), (8, ptr x.1 0)])
    (fun x w' => (x.2.ok ⟨12, none⟩ none ∧ x.2.B = z12) ∧ St (keys []) w ([(xb, .row (msCells m.head (.slice aa m.asks.length ac) ov tv rv) 28)] ++ bmem x.1 1 ⟨m.head.id, bitsOf m.head, 0, 0, 0, 0⟩ none x.2) w') ?_ (fun H => ?_)
  case refine_2 =>
    refine TR.start 8 [(xb, .row (msCells m.head (.slice aa m.asks.length ac) ov tv rv) 28)] mixed (by kernel_rfl) (by decide) (by simp) ?_
    refine TR.p 0 tbk rfl (by kernel_rfl) (by kernel_rfl) rfl ?_
    refine TR.q 1 rfl (by kernel_rfl) (by kernel_rfl) rfl rfl rfl (Y.append0 (news := []) el37 sl37 rfl rfl Src.nil (Nat.le_refl _) (.inr rfl)) ?_
    refine TR.p 2 tbk rfl (by kernel_rfl) (by kernel_rfl) rfl ?_
    refine TR.q 3 rfl (by kernel_rfl) (by kernel_rfl) rfl rfl rfl (Y.loadA (vs := hdCells m.head) szk rfl rfl rfl (fun w h i v hv => h.cell (i := 0) rfl (by simp only [Nat.zero_add]; rw [nth_eq] at hv ⊢; exact (List.getElem?_append_left (List.getElem?_eq_some_iff.1 hv).1).trans hv))) ?_
    refine TR.two (i := 4) (j := 6) (by kernel_rfl) ?_ ?_
    case refine_2 =>
      refine RS.allocZ 10 rfl Tryz.zeroValue91 (by kernel_rfl) rfl rfl (fun _ _ => by simp) (fun bb zs hz => ?_)
      refine TR.lin [(4, false), (5, false), (7, false)] (by kernel_rfl) rfl ?_
      refine TS.call0 rfl Tryz.call21 rfl rfl rfl (headerOf m.head) (fun _ _ => trivial) (fun _ => by simp) (fun _ => TS.and fun _ => ?_)
      refine TS.call0 rfl Tryz.call26 rfl rfl rfl (newBuilder m.head hm.hop hm.hcode) (fun _ _ => trivial) (fun _ => by simp) (fun y => TS.and fun hy => ?_)
      refine TS.mono (fun w hA => hA.perm (M' := (bb, .row zs 91) :: (xb, .row (msCells m.head (.slice aa m.asks.length ac) ov tv rv) 28) :: y.mem none) (perm_count fun p => by simp only [Pk.mem, cmem, List.countP_append, List.countP_cons, List.countP_nil]; omega)) ?_
      refine TS.stW (us := blC y.sl 1 ⟨m.head.id, bitsOf m.head, 0, 0, 0, 0⟩ (.map none)) 0 rfl szk rfl rfl rfl rfl rfl hz (blC_one rfl rfl) (by simp [setN]) ?_
      refine TS.nil ?_
      exact T.sub (L' := [(2, .bool comp), (4, ptr xb 0), (8, ptr bb 0)]) ⟨rfl, rfl, rfl, trivial⟩ (T.mono (fun w hA => ⟨hy, hA.perm (List.Perm.swap _ _ _)⟩) (H (bb, y)))
    refine RS.call0 rfl Tryz.call21 rfl rfl rfl (headerOf m.head) (fun _ _ => trivial) (fun _ => by simp) (fun _ => TR.and fun _ => ?_)
    refine TR.two (i := 5) (j := 6) (by kernel_rfl) ?_ ?_
    case refine_2 =>
      refine RS.allocZ 10 rfl Tryz.zeroValue91 (by kernel_rfl) rfl rfl (fun _ _ => by simp) (fun bb zs hz => ?_)
      refine TR.lin [(5, false), (7, false)] (by kernel_rfl) rfl ?_
      refine TS.call0 rfl Tryz.call26 rfl rfl rfl (newBuilder m.head hm.hop hm.hcode) (fun _ _ => trivial) (fun _ => by simp) (fun y => TS.and fun hy => ?_)
      refine TS.mono (fun w hA => hA.perm (M' := (bb, .row zs 91) :: (xb, .row (msCells m.head (.slice aa m.asks.length ac) ov tv rv) 28) :: y.mem none) (perm_count fun p => by simp only [Pk.mem, cmem, List.countP_append, List.countP_cons, List.countP_nil]; omega)) ?_
      refine TS.stW (us := blC y.sl 1 ⟨m.head.id, bitsOf m.head, 0, 0, 0, 0⟩ (.map none)) 0 rfl szk rfl rfl rfl rfl rfl hz (blC_one rfl rfl) (by simp [setN]) ?_
      refine TS.nil ?_
      exact T.sub (L' := [(2, .bool comp), (4, ptr xb 0), (8, ptr bb 0)]) ⟨rfl, rfl, rfl, trivial⟩ (T.mono (fun w hA => ⟨hy, hA.perm (List.Perm.swap _ _ _)⟩) (H (bb, y)))
    refine RS.call0 rfl Tryz.call26 rfl rfl rfl (newBuilder m.head hm.hop hm.hcode) (fun _ _ => trivial) (fun _ => by simp) (fun y => TR.and fun hy => ?_)
    refine TR.lin [(6, false), (7, false)] (by kernel_rfl) rfl ?_
    refine TS.allocZ 10 rfl Tryz.zeroValue91 (by kernel_rfl) rfl rfl (fun _ _ => by simp) (fun bb zs hz => ?_)
    refine TS.mono (fun w hA => hA.perm (M' := (bb, .row zs 91) :: (xb, .row (msCells m.head (.slice aa m.asks.length ac) ov tv rv) 28) :: y.mem none) (perm_count fun p => by simp only [Pk.mem, cmem, List.countP_append, List.countP_cons, List.countP_nil]; omega)) ?_
    refine TS.stW (us := blC y.sl 1 ⟨m.head.id, bitsOf m.head, 0, 0, 0, 0⟩ (.map none)) 0 rfl szk rfl rfl rfl rfl rfl hz (blC_one rfl rfl) (by simp [setN]) ?_
    refine TS.nil ?_
    exact T.sub (L' := [(2, .bool comp), (4, ptr xb 0), (8, ptr bb 0)]) ⟨rfl, rfl, rfl, trivial⟩ (T.mono (fun w hA => ⟨hy, hA.perm (List.Perm.swap _ _ _)⟩) (H (bb, y)))
  rintro ⟨bb, p0⟩
  refine T.and fun ⟨hp0, hpB⟩ => ?_
  generalize hC : msCells m.head (.slice aa m.asks.length ac) ov tv rv = C
  have hC10 : nth C 10 = some (.slice aa m.asks.length ac) := by rw [← hC]; rfl
  have hC11 : nth C 11 = some ov := by rw [← hC]; rfl
  have hC12 : nth C 12 = some tv := by rw [← hC]; rfl
  have hC13 : nth C 13 = some rv := by rw [← hC]; rfl
  clear hC
  simp only at hp0 hpB
  repeat (first | refine za rfl rfl ?_ | refine zb rfl ?_ | refine zc rfl ?_)
  refine T.mergeA (α := Option Nat) (fun x => [(4, ptr xb 0), (8, ptr bb 0)])
    (fun q w' => St (keys []) w ([(xb, .row C 28)] ++ bmem bb 1 ⟨m.head.id, bitsOf m.head, 0, 0, 0, 0⟩ q { p0 with es := [], ck := 0, ms := [] }) w') ?_ (fun H => ?_)
  case refine_2 =>
    cases comp
    · refine T.condF rfl rfl ?_
      refine T.skip ?_
      exact T.sub (L' := [(4, ptr xb 0), (8, ptr bb 0)]) ⟨rfl, rfl, trivial⟩ (T.mono (fun w hA => hA) (H none))
    · refine T.condT rfl rfl ?_
      refine T.region ?_
      refine TL.call1 1 Tryz.call27 rfl rfl rfl rfl (enable bb 1 p0.sl ⟨m.head.id, bitsOf m.head, 0, 0, 0, 0⟩) (fun _ _ => trivial) (fun q => TL.and fun _ => ?_)
      refine TL.nil ?_
      exact T.sub (L' := [(4, ptr xb 0), (8, ptr bb 0)]) ⟨rfl, rfl, trivial⟩ (T.mono (fun w hA => hA.perm (List.perm_append_singleton (q, Ob.map [] 0) [(xb, Ob.row C 28), (bb, Ob.row (blC p0.sl 1 ⟨m.head.id, bitsOf m.head, 0, 0, 0, 0⟩ (.map (some q))) 91), (p0.b, Ob.row p0.cs 5)])) (H (some q)))
  intro q
  have hpk0 : ({ p0 with es := [], ck := 0, ms := [] } : Pk).ok ⟨12, none⟩ q := ⟨hp0.own, rfl, by simp, fun _ => rfl, hp0.hole⟩
  generalize hpq : ({ p0 with es := [], ck := 0, ms := [] } : Pk) = p1 at hpk0
  have hp1B : p1.B = z12 := by rw [← hpq]; exact hpB
  clear hpq
  repeat (first | refine za rfl rfl ?_ | refine zb rfl ?_ | refine zc rfl ?_)
  refine TL.call1 1 Tryz.call28 rfl rfl rfl rfl (startQuestions bb 1 p1.sl (.map q) ⟨m.head.id, bitsOf m.head, 0, 0, 0, 0⟩ (by decide) (by decide)) (fun _ _ => trivial) (fun _ => TL.and fun _ => ?_)
  repeat (first | refine za rfl rfl ?_ | refine zb rfl ?_ | refine zc rfl ?_)
  refine T.condF rfl rfl ?_
  repeat (first | refine za rfl rfl ?_ | refine zb rfl ?_ | refine zc rfl ?_)
  refine TL.ld 0 szk rfl rfl rfl hC10 rfl rfl ?_
  repeat (first | refine za rfl rfl ?_ | refine zb rfl ?_ | refine zc rfl ?_)
  refine T.loop (α := Nat × Pk) (fun x => [(4, ptr xb 0), (8, ptr bb 0), (29, .slice aa m.asks.length ac), (30, .int .i64 (m.asks.length : Int)), (31, .int .i64 (x.1 : Int))])
    (fun x w' => (x.1 ≤ m.asks.length ∧ x.2.ok ⟨12, none⟩ q ∧ x.2.B.length ≤ 12 + 300 * x.1 ∧ AsksAt (kn x.2.B ⟨12, none⟩) (m.asks.take x.1) 12 x.2.B.length) ∧ St (keys []) w ([(xb, .row C 28)] ++ bmem bb 2 ⟨m.head.id, bitsOf m.head, x.1, 0, 0, 0⟩ q x.2) w')
    (fun x => m.asks.length - x.1) (0, p1) ⟨rfl, rfl, rfl, rfl, rfl, trivial⟩
    (fun w' hA => ⟨⟨Nat.zero_le _, hpk0, by rw [hp1B]; exact Nat.le_refl _, by show AsksAt _ [] 12 p1.B.length; rw [hp1B]; exact .nil⟩, hA⟩) ?_
  rintro ⟨i, x⟩ ih
  refine T.and fun ⟨hi, hok, hL, hA0⟩ => ?_
  simp only at hi hok hL hA0
  repeat (first | refine za rfl rfl ?_ | refine zb rfl ?_ | refine zc rfl ?_)
  by_cases hlt : i < m.asks.length
  · refine T.condT rfl (by simpa using hlt) ?_
    obtain ⟨a, hask⟩ := nth_lt hlt
    obtain ⟨b, o, cap', cs, hv, _, _, hrs, hcs⟩ := ha.at hask
    injection hv with hv1 _ hv3
    subst hv1 hv3 hcs
    have haok := hm.asks a (nth_mem hask)
    have h255 : a.name.length ≤ 255 := by have := haok.name.len; omega
    repeat (first | refine za rfl rfl ?_ | refine zb rfl ?_ | refine zc rfl ?_)
    refine TL.ix (j := i) tbk rfl rfl rfl rfl rfl rfl hlt ?_
    refine TL.ldRA hrs szk rfl rfl rfl rfl rfl ?_
    refine TL.allocZ 3 Tryz.zeroValue51 rfl rfl rfl (fun lb zs hz => ?_)
    refine TL.stW (vs := [str a.name, .int .u16 (a.typ : Int), .int .u16 (a.cls : Int)]) 0 szk rfl rfl rfl rfl rfl hz (by simp [Value.oneCell', str]) ?_
    repeat (first | refine za rfl rfl ?_ | refine zb rfl ?_ | refine zc rfl ?_)
    refine TL.ldW 0 szk rfl rfl rfl rfl rfl rfl ?_
    refine TL.call0 Tryz.call23 rfl rfl rfl (questionOf a h255) (fun _ _ => trivial) (fun _ => TL.and fun _ => ?_)
    refine TL.callS [_, _] Tryz.call29 rfl rfl rfl rfl (question bb ⟨m.head.id, bitsOf m.head, i, 0, 0, 0⟩ ⟨by simp only; omega, by simp, by simp, by simp⟩ q a haok 12 x hok (by omega)) (fun w' hA => hgl.mono (st_viewLe hA (Mc := bmem bb 2 ⟨m.head.id, bitsOf m.head, i, 0, 0, 0⟩ q x) fun _ hp => List.mem_cons_of_mem _ (List.mem_cons_of_mem _ hp))) (fun y => TL.and fun ⟨ok1, ⟨E1, e1, hE1⟩, n1⟩ => ?_)
    repeat (first | refine za rfl rfl ?_ | refine zb rfl ?_ | refine zc rfl ?_)
    refine T.condF rfl rfl ?_
    repeat (first | refine za rfl rfl ?_ | refine zb rfl ?_ | refine zc rfl ?_)
    rw [add1_i64 (a := i) (by omega)]
    have hle : KM.le (kn x.B ⟨12, none⟩) (kn y.B ⟨12, none⟩) := by rw [e1]; exact kn_append _ _ _
    exact T.again ih (i + 1, y) (by simp; omega) ⟨rfl, rfl, rfl, rfl, rfl, trivial⟩ (fun w' hA => ⟨⟨by simp; omega, ok1, by simp only; rw [e1]; simp; omega, AsksAt.take hask (hA0.mono hle) n1⟩, hA.sub (List.Sublist.cons _ (List.Sublist.refl _))⟩)
  refine T.condF rfl (by simpa using hlt) ?_
  have hiq : i = m.asks.length := by omega
  subst hiq
  rw [List.take_length] at hA0
  clear ih
  repeat (first | refine za rfl rfl ?_ | refine zb rfl ?_ | refine zc rfl ?_)
  refine TL.ld 0 szk rfl rfl rfl hC11 rfl rfl ?_
  repeat (first | refine za rfl rfl ?_ | refine zb rfl ?_ | refine zc rfl ?_)
  refine TL.ld 0 szk rfl rfl rfl hC12 rfl rfl ?_
  repeat (first | refine za rfl rfl ?_ | refine zb rfl ?_ | refine zc rfl ?_)
  refine TL.ld 0 szk rfl rfl rfl hC13 rfl rfl ?_
  refine TL.bs (vs := [ov, tv, rv]) el95 rfl rfl (by intro v hv; simp at hv; rcases hv with rfl | rfl | rfl <;> assumption) (by simp) rfl rfl (fun sb => ?_)
  repeat (first | refine za rfl rfl ?_ | refine zb rfl ?_ | refine zc rfl ?_)
  refine T.loop (α := Nat × Pk) (fun z => [(4, ptr xb 0), (8, ptr bb 0), (46, .slice (some ⟨sb, 0, none⟩) 3 3), (47, .int .i64 3), (48, .int .i64 (z.1 : Int))])
    (fun z w' => (z.1 ≤ 3 ∧ z.2.ok ⟨12, none⟩ q ∧ z.2.B.length ≤ 12 + 300 * m.asks.length + 3300 * doneN m z.1 ∧ Done (kn z.2.B ⟨12, none⟩) m z.1 z.2.B.length) ∧ St (keys []) w ([(sb, .row [ov, tv, rv] 26), (xb, .row C 28)] ++ bmem bb (2 + z.1) (hAt m z.1 0) q z.2) w')
    (fun z => 3 - z.1) (0, x) ⟨rfl, rfl, rfl, rfl, rfl, trivial⟩
    (fun w' hA => ⟨⟨Nat.zero_le _, hok, hL, hA0⟩, hA⟩) ?_
  rintro ⟨i, z⟩ ih
  refine T.and fun ⟨hi, hok, hL, hD⟩ => ?_
  simp only at hi hok hL hD
  have hdn := doneN_le m i
  repeat (first | refine za rfl rfl ?_ | refine zb rfl ?_ | refine zc rfl ?_)
  by_cases hlt : i < 3
  case neg =>
    refine T.condF rfl (by simp; omega) ?_
    have hi3 : i = 3 := by omega
    subst hi3
    repeat (first | refine za rfl rfl ?_ | refine zb rfl ?_ | refine zc rfl ?_)
    refine TL.callS [_, _] Tryz.call34 rfl rfl rfl rfl (finish bb (2 + 3) (by decide) (hAt m 3 0) q z hok) (fun _ _ => trivial) (fun y => TL.and fun ⟨ok1, e1⟩ => ?_)
    repeat (first | refine za rfl rfl ?_ | refine zb rfl ?_ | refine zc rfl ?_)
    refine TS.start [(0, true), (1, true), (2, true), (3, true), (4, true)] [] mixed (by kernel_rfl) (by kernel_rfl) (by decide) (by simp) ?_
    repeat refine TS.p tbk rfl rfl ?_
    refine TS.nil ?_
    repeat (first | refine za rfl rfl ?_ | refine zb rfl ?_ | refine zc rfl ?_)
    have hl : (hdB (hAt m 3 0)).length = 12 := by simp [hdB, w2]
    have hk12 := hok.hole.base
    simp only at hk12
    refine T.ret Tryz.func10 rfl (fun w hA => ⟨y, rfl, ⟨ok1, ?_, ?_, ?_⟩, hA.sub (List.Sublist.cons _ (List.Sublist.cons _ (List.Sublist.refl _)))⟩)
    · rw [e1, List.length_append, hl, List.length_drop]; omega
    · rw [e1]
      have := kn_new [] (hdB (hAt m 3 0)) (hole := H0) ⟨Nat.zero_le _, fun o ho => by cases ho⟩
      exact this.mono (kn_append _ _ _)
    · obtain ⟨f0, f1, f2, d1, d2, d3, d4⟩ := hD
      have hle : KM.le (kn z.B ⟨12, none⟩) (kn y.B H0) := by rw [e1]; exact kn_head hl
      exact ⟨f0, f1, f2, _, d1.mono hle, d2.mono hle, d3.mono hle, d4.mono hle⟩
  case pos =>
    refine T.condT rfl (by simp; omega) ?_
    have hsec : ∃ sv, nth [ov, tv, rv] i = some sv ∧ SlR (view [] w) sv (secs m i) ∧ (secs m i).length ≤ 40 ∧ ∀ r ∈ secs m i, r.Ok := by
      match i, hlt with
      | 0, _ => exact ⟨ov, rfl, h1, by simp only [secs]; omega, hm.one⟩
      | 1, _ => exact ⟨tv, rfl, h2, by simp only [secs]; omega, hm.two⟩
      | 2, _ => exact ⟨rv, rfl, h3, by simp only [secs]; omega, hm.three⟩
    obtain ⟨sv, hsv, hsl, hslen, hsok⟩ := hsec
    repeat (first | refine za rfl rfl ?_ | refine zb rfl ?_ | refine zc rfl ?_)
    refine TL.ix (j := i) tbk rfl rfl rfl rfl rfl rfl hlt ?_
    refine TL.ld 0 szk rfl rfl rfl (by rw [show 0 + i * 1 = i by omega]; exact hsv) rfl rfl ?_
    have hdn2 := doneN_next m hlt
    have hdn3 := doneN_le m (i + 1)
    have hi3 : i = 0 ∨ i = 1 ∨ i = 2 := by omega
    rcases hi3 with rfl | rfl | rfl
    · repeat (first | refine za rfl rfl ?_ | refine zb rfl ?_ | refine zc rfl ?_)
      refine TL.call1 2 Tryz.call30 rfl rfl rfl rfl (startAnswers bb (2 + 0) z.sl (.map q) (hAt m 0 0) (by decide) (by decide)) (fun _ _ => trivial) (fun _ => TL.and fun _ => ?_)
      repeat (first | refine za rfl rfl ?_ | refine zb rfl ?_ | refine zc rfl ?_)
      refine T.condF rfl rfl ?_
      repeat (first | refine za rfl rfl ?_ | refine zb rfl ?_ | refine zc rfl ?_)
      refine T.condF rfl rfl ?_
      repeat (first | refine za rfl rfl ?_ | refine zb rfl ?_ | refine zc rfl ?_)
      refine T.condF rfl rfl ?_
      repeat (first | refine za rfl rfl ?_ | refine zb rfl ?_ | refine zc rfl ?_)
      obtain ⟨sa, sc, hss, _⟩ := hsl.shape
      subst hss
      repeat (first | refine za rfl rfl ?_ | refine zb rfl ?_ | refine zc rfl ?_)
      refine T.loop (α := Nat × Pk) (fun x => [(4, ptr xb 0), (8, ptr bb 0), (46, .slice (some ⟨sb, 0, none⟩) 3 3), (47, .int .i64 3), (48, .int .i64 ((0 : Nat) : Int)), (62, .slice sa (secs m 0).length sc), (63, .int .i64 ((secs m 0).length : Int)), (64, .int .i64 (x.1 : Int))])
        (fun x w' => (x.1 ≤ (secs m 0).length ∧ x.2.ok ⟨12, none⟩ q ∧ KM.le (kn z.B ⟨12, none⟩) (kn x.2.B ⟨12, none⟩) ∧ x.2.B.length ≤ z.B.length + 3300 * x.1 ∧ RecsAt (kn x.2.B ⟨12, none⟩) ((secs m 0).take x.1) z.B.length x.2.B.length) ∧ St (keys []) w ([(sb, .row [ov, tv, rv] 26), (xb, .row C 28)] ++ bmem bb (3 + 0) (hAt m 0 x.1) q x.2) w')
        (fun x => (secs m 0).length - x.1) (0, z) ⟨rfl, rfl, rfl, rfl, rfl, rfl, rfl, rfl, trivial⟩
        (fun w' hA => ⟨⟨Nat.zero_le _, hok, KM.le.refl _, Nat.le_refl _, .nil⟩, hA⟩) ?_
      rintro ⟨j, x⟩ ih2
      refine T.and fun ⟨hj, hok2, hK2, hL2, hR2⟩ => ?_
      simp only at hj hok2 hK2 hL2 hR2
      repeat (first | refine za rfl rfl ?_ | refine zb rfl ?_ | refine zc rfl ?_)
      by_cases hjl : j < (secs m 0).length
      · refine T.condT rfl (by simpa using hjl) ?_
        obtain ⟨r, hr⟩ := nth_lt hjl
        obtain ⟨b, o, cap', cs, hv, _, _, hrs, dv, tv', pv, hcs, hd, ht, hp⟩ := hsl.at hr
        injection hv with hv1 _ hv3
        subst hv1 hv3 hcs
        have hrv : RcV (view (keys []) w) r dv tv' pv := ⟨hd, ht, hp⟩
        obtain ⟨q1, q2, q3⟩ := hrv.shapes
        repeat (first | refine za rfl rfl ?_ | refine zb rfl ?_ | refine zc rfl ?_)
        refine TL.ix (j := j) tbk rfl rfl rfl rfl rfl rfl hjl ?_
        refine TL.ldRA hrs szk rfl rfl (rcCells_len _ _ _ _) rfl rfl ?_
        refine TL.allocZ 16 Tryz.zeroValue98 rfl rfl rfl (fun lb zs hz => ?_)
        refine TL.stW (vs := rcCells r dv tv' pv) 0 szk rfl rfl rfl rfl rfl hz (rcCells_one q1 q2 q3) ?_
        repeat (first | refine za rfl rfl ?_ | refine zb rfl ?_ | refine zc rfl ?_)
        refine TL.ldW 0 szk rfl rfl rfl rfl rfl rfl ?_
        refine TL.callS [_, _, _] Tryz.call33 rfl rfl rfl rfl (add bb (3 + 0) (by decide) (by decide) (hAt m 0 j) (hAt_few hm (by omega)) q r (hsok r (nth_mem hr)) dv tv' pv 12 x hok2 (by omega)) (fun w' hA => ?_) (fun y => TL.and fun ⟨ok1, ⟨E1, e1, hE1⟩, n1⟩ => ?_)
        · have hle := st_viewLe hA (Mc := bmem bb (3 + 0) (hAt m 0 j) q x) fun _ hp => List.mem_cons_of_mem _ (List.mem_cons_of_mem _ (List.mem_cons_of_mem _ hp))
          exact ⟨hgl.mono hle, hrv.mono hle⟩
        repeat (first | refine za rfl rfl ?_ | refine zb rfl ?_ | refine zc rfl ?_)
        refine T.condF rfl rfl ?_
        repeat (first | refine za rfl rfl ?_ | refine zb rfl ?_ | refine zc rfl ?_)
        rw [add1_i64 (a := j) (by omega)]
        have hle : KM.le (kn x.B ⟨12, none⟩) (kn y.B ⟨12, none⟩) := by rw [e1]; exact kn_append _ _ _
        exact T.again ih2 (j + 1, y) (by simp; omega) ⟨rfl, rfl, rfl, rfl, rfl, rfl, rfl, rfl, trivial⟩ (fun w' hA => ⟨⟨by simp; omega, ok1, hK2.trans hle, by simp only; rw [e1]; simp; omega, RecsAt.take hr (hR2.mono hle) n1⟩, hA.sub (List.Sublist.cons _ (List.Sublist.refl _))⟩)
      refine T.condF rfl (by simpa using hjl) ?_
      have hjq : j = (secs m 0).length := by omega
      subst hjq
      rw [List.take_length] at hR2
      repeat (first | refine za rfl rfl ?_ | refine zb rfl ?_ | refine zc rfl ?_)
      rw [add1_i64 (a := 0) (by omega)]
      exact T.again ih (0 + 1, x) (by simp) ⟨rfl, rfl, rfl, rfl, rfl, trivial⟩ (fun w' hA => ⟨⟨by simp, hok2, by simp only; omega, (hD.mono hK2).step (by decide) hR2⟩, hA⟩)
    · repeat (first | refine za rfl rfl ?_ | refine zb rfl ?_ | refine zc rfl ?_)
      refine TL.call1 2 Tryz.call30 rfl rfl rfl rfl (startAnswers bb (2 + 1) z.sl (.map q) (hAt m 1 0) (by decide) (by decide)) (fun _ _ => trivial) (fun _ => TL.and fun _ => ?_)
      repeat (first | refine za rfl rfl ?_ | refine zb rfl ?_ | refine zc rfl ?_)
      refine T.condT rfl rfl ?_
      repeat (first | refine za rfl rfl ?_ | refine zb rfl ?_ | refine zc rfl ?_)
      refine TL.call1 2 Tryz.call31 rfl rfl rfl rfl (startAuthorities bb 3 z.sl (.map q) (hAt m 1 0) (by decide) (by decide)) (fun _ _ => trivial) (fun _ => TL.and fun _ => ?_)
      repeat (first | refine za rfl rfl ?_ | refine zb rfl ?_ | refine zc rfl ?_)
      refine T.condF rfl rfl ?_
      repeat (first | refine za rfl rfl ?_ | refine zb rfl ?_ | refine zc rfl ?_)
      obtain ⟨sa, sc, hss, _⟩ := hsl.shape
      subst hss
      repeat (first | refine za rfl rfl ?_ | refine zb rfl ?_ | refine zc rfl ?_)
      refine T.loop (α := Nat × Pk) (fun x => [(4, ptr xb 0), (8, ptr bb 0), (46, .slice (some ⟨sb, 0, none⟩) 3 3), (47, .int .i64 3), (48, .int .i64 ((1 : Nat) : Int)), (62, .slice sa (secs m 1).length sc), (63, .int .i64 ((secs m 1).length : Int)), (64, .int .i64 (x.1 : Int))])
        (fun x w' => (x.1 ≤ (secs m 1).length ∧ x.2.ok ⟨12, none⟩ q ∧ KM.le (kn z.B ⟨12, none⟩) (kn x.2.B ⟨12, none⟩) ∧ x.2.B.length ≤ z.B.length + 3300 * x.1 ∧ RecsAt (kn x.2.B ⟨12, none⟩) ((secs m 1).take x.1) z.B.length x.2.B.length) ∧ St (keys []) w ([(sb, .row [ov, tv, rv] 26), (xb, .row C 28)] ++ bmem bb (3 + 1) (hAt m 1 x.1) q x.2) w')
        (fun x => (secs m 1).length - x.1) (0, z) ⟨rfl, rfl, rfl, rfl, rfl, rfl, rfl, rfl, trivial⟩
        (fun w' hA => ⟨⟨Nat.zero_le _, hok, KM.le.refl _, Nat.le_refl _, .nil⟩, hA⟩) ?_
      rintro ⟨j, x⟩ ih2
      refine T.and fun ⟨hj, hok2, hK2, hL2, hR2⟩ => ?_
      simp only at hj hok2 hK2 hL2 hR2
      repeat (first | refine za rfl rfl ?_ | refine zb rfl ?_ | refine zc rfl ?_)
      by_cases hjl : j < (secs m 1).length
      · refine T.condT rfl (by simpa using hjl) ?_
        obtain ⟨r, hr⟩ := nth_lt hjl
        obtain ⟨b, o, cap', cs, hv, _, _, hrs, dv, tv', pv, hcs, hd, ht, hp⟩ := hsl.at hr
        injection hv with hv1 _ hv3
        subst hv1 hv3 hcs
        have hrv : RcV (view (keys []) w) r dv tv' pv := ⟨hd, ht, hp⟩
        obtain ⟨q1, q2, q3⟩ := hrv.shapes
        repeat (first | refine za rfl rfl ?_ | refine zb rfl ?_ | refine zc rfl ?_)
        refine TL.ix (j := j) tbk rfl rfl rfl rfl rfl rfl hjl ?_
        refine TL.ldRA hrs szk rfl rfl (rcCells_len _ _ _ _) rfl rfl ?_
        refine TL.allocZ 16 Tryz.zeroValue98 rfl rfl rfl (fun lb zs hz => ?_)
        refine TL.stW (vs := rcCells r dv tv' pv) 0 szk rfl rfl rfl rfl rfl hz (rcCells_one q1 q2 q3) ?_
        repeat (first | refine za rfl rfl ?_ | refine zb rfl ?_ | refine zc rfl ?_)
        refine TL.ldW 0 szk rfl rfl rfl rfl rfl rfl ?_
        refine TL.callS [_, _, _] Tryz.call33 rfl rfl rfl rfl (add bb (3 + 1) (by decide) (by decide) (hAt m 1 j) (hAt_few hm (by omega)) q r (hsok r (nth_mem hr)) dv tv' pv 12 x hok2 (by omega)) (fun w' hA => ?_) (fun y => TL.and fun ⟨ok1, ⟨E1, e1, hE1⟩, n1⟩ => ?_)
        · have hle := st_viewLe hA (Mc := bmem bb (3 + 1) (hAt m 1 j) q x) fun _ hp => List.mem_cons_of_mem _ (List.mem_cons_of_mem _ (List.mem_cons_of_mem _ hp))
          exact ⟨hgl.mono hle, hrv.mono hle⟩
        repeat (first | refine za rfl rfl ?_ | refine zb rfl ?_ | refine zc rfl ?_)
        refine T.condF rfl rfl ?_
        repeat (first | refine za rfl rfl ?_ | refine zb rfl ?_ | refine zc rfl ?_)
        rw [add1_i64 (a := j) (by omega)]
        have hle : KM.le (kn x.B ⟨12, none⟩) (kn y.B ⟨12, none⟩) := by rw [e1]; exact kn_append _ _ _
        exact T.again ih2 (j + 1, y) (by simp; omega) ⟨rfl, rfl, rfl, rfl, rfl, rfl, rfl, rfl, trivial⟩ (fun w' hA => ⟨⟨by simp; omega, ok1, hK2.trans hle, by simp only; rw [e1]; simp; omega, RecsAt.take hr (hR2.mono hle) n1⟩, hA.sub (List.Sublist.cons _ (List.Sublist.refl _))⟩)
      refine T.condF rfl (by simpa using hjl) ?_
      have hjq : j = (secs m 1).length := by omega
      subst hjq
      rw [List.take_length] at hR2
      repeat (first | refine za rfl rfl ?_ | refine zb rfl ?_ | refine zc rfl ?_)
      rw [add1_i64 (a := 1) (by omega)]
      exact T.again ih (1 + 1, x) (by simp) ⟨rfl, rfl, rfl, rfl, rfl, trivial⟩ (fun w' hA => ⟨⟨by simp, hok2, by simp only; omega, (hD.mono hK2).step (by decide) hR2⟩, hA⟩)
    · repeat (first | refine za rfl rfl ?_ | refine zb rfl ?_ | refine zc rfl ?_)
      refine TL.call1 2 Tryz.call30 rfl rfl rfl rfl (startAnswersF bb z.sl (.map q) (hAt m 2 0) gu gv) (fun w' hA => hg5.mono (st_viewLe hA (Mc := [(bb, .row (blC z.sl 4 (hAt m 2 0) (.map q)) 91)]) fun _ hp => by simp at hp; subst hp; simp [bmem])) (fun _ => TL.and fun _ => ?_)
      repeat (first | refine za rfl rfl ?_ | refine zb rfl ?_ | refine zc rfl ?_)
      refine T.condF rfl rfl ?_
      repeat (first | refine za rfl rfl ?_ | refine zb rfl ?_ | refine zc rfl ?_)
      refine T.condT rfl rfl ?_
      repeat (first | refine za rfl rfl ?_ | refine zb rfl ?_ | refine zc rfl ?_)
      refine TL.call1 2 Tryz.call32 rfl rfl rfl rfl (startAdditionals bb 4 z.sl (.map q) (hAt m 2 0) (by decide) (by decide)) (fun _ _ => trivial) (fun _ => TL.and fun _ => ?_)
      repeat (first | refine za rfl rfl ?_ | refine zb rfl ?_ | refine zc rfl ?_)
      refine T.condF rfl rfl ?_
      repeat (first | refine za rfl rfl ?_ | refine zb rfl ?_ | refine zc rfl ?_)
      obtain ⟨sa, sc, hss, _⟩ := hsl.shape
      subst hss
      repeat (first | refine za rfl rfl ?_ | refine zb rfl ?_ | refine zc rfl ?_)
      refine T.loop (α := Nat × Pk) (fun x => [(4, ptr xb 0), (8, ptr bb 0), (46, .slice (some ⟨sb, 0, none⟩) 3 3), (47, .int .i64 3), (48, .int .i64 ((2 : Nat) : Int)), (62, .slice sa (secs m 2).length sc), (63, .int .i64 ((secs m 2).length : Int)), (64, .int .i64 (x.1 : Int))])
        (fun x w' => (x.1 ≤ (secs m 2).length ∧ x.2.ok ⟨12, none⟩ q ∧ KM.le (kn z.B ⟨12, none⟩) (kn x.2.B ⟨12, none⟩) ∧ x.2.B.length ≤ z.B.length + 3300 * x.1 ∧ RecsAt (kn x.2.B ⟨12, none⟩) ((secs m 2).take x.1) z.B.length x.2.B.length) ∧ St (keys []) w ([(sb, .row [ov, tv, rv] 26), (xb, .row C 28)] ++ bmem bb (3 + 2) (hAt m 2 x.1) q x.2) w')
        (fun x => (secs m 2).length - x.1) (0, z) ⟨rfl, rfl, rfl, rfl, rfl, rfl, rfl, rfl, trivial⟩
        (fun w' hA => ⟨⟨Nat.zero_le _, hok, KM.le.refl _, Nat.le_refl _, .nil⟩, hA⟩) ?_
      rintro ⟨j, x⟩ ih2
      refine T.and fun ⟨hj, hok2, hK2, hL2, hR2⟩ => ?_
      simp only at hj hok2 hK2 hL2 hR2
      repeat (first | refine za rfl rfl ?_ | refine zb rfl ?_ | refine zc rfl ?_)
      by_cases hjl : j < (secs m 2).length
      · refine T.condT rfl (by simpa using hjl) ?_
        obtain ⟨r, hr⟩ := nth_lt hjl
        obtain ⟨b, o, cap', cs, hv, _, _, hrs, dv, tv', pv, hcs, hd, ht, hp⟩ := hsl.at hr
        injection hv with hv1 _ hv3
        subst hv1 hv3 hcs
        have hrv : RcV (view (keys []) w) r dv tv' pv := ⟨hd, ht, hp⟩
        obtain ⟨q1, q2, q3⟩ := hrv.shapes
        repeat (first | refine za rfl rfl ?_ | refine zb rfl ?_ | refine zc rfl ?_)
        refine TL.ix (j := j) tbk rfl rfl rfl rfl rfl rfl hjl ?_
        refine TL.ldRA hrs szk rfl rfl (rcCells_len _ _ _ _) rfl rfl ?_
        refine TL.allocZ 16 Tryz.zeroValue98 rfl rfl rfl (fun lb zs hz => ?_)
        refine TL.stW (vs := rcCells r dv tv' pv) 0 szk rfl rfl rfl rfl rfl hz (rcCells_one q1 q2 q3) ?_
        repeat (first | refine za rfl rfl ?_ | refine zb rfl ?_ | refine zc rfl ?_)
        refine TL.ldW 0 szk rfl rfl rfl rfl rfl rfl ?_
        refine TL.callS [_, _, _] Tryz.call33 rfl rfl rfl rfl (add bb (3 + 2) (by decide) (by decide) (hAt m 2 j) (hAt_few hm (by omega)) q r (hsok r (nth_mem hr)) dv tv' pv 12 x hok2 (by omega)) (fun w' hA => ?_) (fun y => TL.and fun ⟨ok1, ⟨E1, e1, hE1⟩, n1⟩ => ?_)
        · have hle := st_viewLe hA (Mc := bmem bb (3 + 2) (hAt m 2 j) q x) fun _ hp => List.mem_cons_of_mem _ (List.mem_cons_of_mem _ (List.mem_cons_of_mem _ hp))
          exact ⟨hgl.mono hle, hrv.mono hle⟩
        repeat (first | refine za rfl rfl ?_ | refine zb rfl ?_ | refine zc rfl ?_)
        refine T.condF rfl rfl ?_
        repeat (first | refine za rfl rfl ?_ | refine zb rfl ?_ | refine zc rfl ?_)
        rw [add1_i64 (a := j) (by omega)]
        have hle : KM.le (kn x.B ⟨12, none⟩) (kn y.B ⟨12, none⟩) := by rw [e1]; exact kn_append _ _ _
        exact T.again ih2 (j + 1, y) (by simp; omega) ⟨rfl, rfl, rfl, rfl, rfl, rfl, rfl, rfl, trivial⟩ (fun w' hA => ⟨⟨by simp; omega, ok1, hK2.trans hle, by simp only; rw [e1]; simp; omega, RecsAt.take hr (hR2.mono hle) n1⟩, hA.sub (List.Sublist.cons _ (List.Sublist.refl _))⟩)
      refine T.condF rfl (by simpa using hjl) ?_
      have hjq : j = (secs m 2).length := by omega
      subst hjq
      rw [List.take_length] at hR2
      repeat (first | refine za rfl rfl ?_ | refine zb rfl ?_ | refine zc rfl ?_)
      rw [add1_i64 (a := 2) (by omega)]
      exact T.again ih (2 + 1, x) (by simp) ⟨rfl, rfl, rfl, rfl, rfl, trivial⟩ (fun w' hA => ⟨⟨by simp, hok2, by simp only; omega, (hD.mono hK2).step (by decide) hR2⟩, hA⟩)
end X
end Go.Proofs.YtifnodoffgfpbaaGreatDoor
