/- Texts S5, S6, S7. Contracts: names and pairs as bytes; types and kinds. -/
import Derived.Test.YtifnodoffgfpbaaGreatDoorPar
namespace Go.Proofs.YtifnodoffgfpbaaGreatDoor
open Go
namespace X
def wireGo : Bs → Bs → Bs → Bs
  | [], out, _ => out ++ [0]
  | c :: r, out, lab => if c = 46 then (if lab = [] then wireGo r out [] else wireGo r (out ++ (UInt8.ofNat lab.length :: lab)) []) else wireGo r out (lab ++ [c])
/-- A name as it is written. -/
def wire (s : Bs) : Bs := wireGo s [] []
structure WX where
  i : Nat
  ob : Nat
  oc : List Value
  ocap : Nat
  O : Bs
  lb : Nat
  lc : List Value
  lcap : Nat
  G : Bs
theorem drop_at {s : Bs} {i : Nat} {c : UInt8} (h : s[i]? = some c) : s.drop i = c :: s.drop (i + 1) := by
  obtain ⟨h1, h2⟩ := List.getElem?_eq_some_iff.1 h
  rw [List.drop_eq_getElem_cons h1, h2]
theorem wireGo_len : ∀ (s out lab : Bs), (wireGo s out lab).length ≤ out.length + 2 * lab.length + 2 * s.length + 1
  | [], out, lab => by simp only [wireGo, List.length_append, List.length_cons, List.length_nil]; omega
  | c :: r, out, lab => by
    unfold wireGo
    split
    · split
      · have := wireGo_len r out []; simp at this ⊢; omega
      · have := wireGo_len r (out ++ (UInt8.ofNat lab.length :: lab)) []
        rename_i h
        have h1 : 0 < lab.length := List.length_pos_iff.2 h
        simp at this ⊢; omega
    · have := wireGo_len r out (lab ++ [c]); simp at this ⊢; omega
theorem wire_len (s : Bs) : (wire s).length ≤ 2 * s.length + 1 := by have := wireGo_len s [] []; simpa [wire] using this
theorem wireC (h : View) (s : Bs) (hs : s.length ≤ 1048576) : BCt 94 [str s] h (wire s) := by
  intro w hS hh
  refine calls_of_T (m := 39) Tryz.func94 rfl rfl (by simp) hS ?_
  repeat (first | refine za rfl rfl ?_ | refine zb rfl ?_ | refine zc rfl ?_)
  refine TL.bs0 el37 rfl rfl (fun b1 => ?_)
  repeat (first | refine za rfl rfl ?_ | refine zb rfl ?_ | refine zc rfl ?_)
  refine TL.bs0 el37 rfl rfl (fun b2 => ?_)
  repeat (first | refine za rfl rfl ?_ | refine zb rfl ?_ | refine zc rfl ?_)
  refine T.loop (α := WX) (fun x => [(0, str s), (3, slV x.ob x.O.length x.ocap), (4, slV x.lb x.G.length x.lcap), (9, .int .i64 (s.length : Int)), (10, .int .i64 (x.i : Int))])
    (fun x w' => (x.i ≤ s.length ∧ OwnB x.oc x.O x.ocap ∧ OwnB x.lc x.G x.lcap ∧ x.O.length + 2 * x.G.length ≤ 2 * x.i ∧ wireGo (s.drop x.i) x.O x.G = wire s) ∧ St (keys []) w [(x.ob, .row x.oc 5), (x.lb, .row x.lc 5)] w')
    (fun x => s.length - x.i) ⟨0, b1, [], 0, [], b2, [], 0, []⟩ ⟨rfl, rfl, rfl, rfl, rfl, trivial⟩ (fun w' hA => ⟨⟨Nat.zero_le _, own0 1, own0 1, by simp, rfl⟩, hA.perm (List.Perm.swap _ _ _)⟩) ?_
  rintro ⟨i, ob, oc, ocap, O, lb, lc, lcap, G⟩ ih
  refine T.and fun ⟨hi, ho, hg, hl, hw⟩ => ?_
  simp only at hi ho hg hl hw
  repeat (first | refine za rfl rfl ?_ | refine zb rfl ?_ | refine zc rfl ?_)
  by_cases hlt : i < s.length
  · refine T.condT rfl (by simpa using hlt) ?_
    obtain ⟨c, hc⟩ : ∃ c, s[i]? = some c := ⟨s[i], List.getElem?_eq_getElem hlt⟩
    rw [drop_at hc] at hw
    repeat (first | refine za rfl rfl ?_ | refine zb rfl ?_ | refine zc rfl ?_)
    refine TL.six (j := i) (c := c) tbk rfl rfl rfl rfl rfl rfl hc ?_
    repeat (first | refine za rfl rfl ?_ | refine zb rfl ?_ | refine zc rfl ?_)
    by_cases hd : c = 46
    · rw [wireGo, if_pos hd] at hw
      refine T.condF rfl (by subst hd; rfl) ?_
      repeat (first | refine za rfl rfl ?_ | refine zb rfl ?_ | refine zc rfl ?_)
      by_cases hG : G = []
      · subst hG
        refine T.condF rfl rfl ?_
        repeat (first | refine za rfl rfl ?_ | refine zb rfl ?_ | refine zc rfl ?_)
        refine TL.bs0 el37 rfl rfl (fun b3 => ?_)
        repeat (first | refine za rfl rfl ?_ | refine zb rfl ?_ | refine zc rfl ?_)
        rw [add1_i64 (a := i) (by omega)]
        exact T.again ih ⟨i + 1, ob, oc, ocap, O, b3, [], 0, []⟩ (by simp; omega) ⟨rfl, rfl, rfl, rfl, rfl, trivial⟩ (fun w' hA => ⟨⟨hlt, ho, own0 1, by simp at hl ⊢; omega, by simpa using hw⟩, (hA.sub (M' := [(b3, .row [] 5), (ob, .row oc 5)]) (List.Sublist.cons_cons _ (List.Sublist.cons_cons _ (List.nil_sublist _)))).perm (List.Perm.swap _ _ _)⟩)
      · have hG1 : 0 < G.length := List.length_pos_iff.2 hG
        rw [if_neg hG] at hw
        refine T.condT rfl (by simpa using hG1) ?_
        repeat (first | refine za rfl rfl ?_ | refine zb rfl ?_ | refine zc rfl ?_)
        have e1 := byte_of G.length (G.length : Int) (by omega)
        refine TL.bs (vs := [bv (UInt8.ofNat G.length)]) el37 (by rw [← e1]; rfl) rfl (by intro v hv; simp at hv; rcases hv with rfl; rfl) (by simp) rfl rfl (fun eb => ?_)
        refine TL.append (len := O.length) (m := 1) (news := [UInt8.ofNat G.length].map bv) 1 el37 sl37 rfl rfl rfl rfl rfl ho (src_block (i := 0) (E := [UInt8.ofNat G.length]) rfl rfl) (by omega) (by omega) (fun ob2 oc2 ocap2 ho2 => ?_)
        repeat (first | refine za rfl rfl ?_ | refine zb rfl ?_ | refine zc rfl ?_)
        refine TL.append (len := O.length + 1) (m := G.length) (news := G.map bv) 1 el37 sl37 rfl rfl rfl rfl rfl ho2 (src_own (i := 2) rfl hg) (by omega) (by omega) (fun ob3 oc3 ocap3 ho3 => ?_)
        repeat (first | refine za rfl rfl ?_ | refine zb rfl ?_ | refine zc rfl ?_)
        refine TL.bs0 el37 rfl rfl (fun b3 => ?_)
        repeat (first | refine za rfl rfl ?_ | refine zb rfl ?_ | refine zc rfl ?_)
        rw [add1_i64 (a := i) (by omega)]
        refine T.again ih ⟨i + 1, ob3, oc3, ocap3, O ++ (UInt8.ofNat G.length :: G), b3, [], 0, []⟩ (by simp; omega) ⟨rfl, by simp only [List.length_append, List.length_cons]; rw [show O.length + (G.length + 1) = O.length + 1 + G.length by omega]; rfl, rfl, rfl, rfl, trivial⟩ (fun w' hA => ⟨⟨hlt, ?_, own0 1, by simp at hl ⊢; omega, hw⟩, (hA.sub (M' := [(b3, .row [] 5), (ob3, .row oc3 5)]) (List.Sublist.cons_cons _ (List.Sublist.cons _ (List.Sublist.cons_cons _ (List.nil_sublist _))))).perm (List.Perm.swap _ _ _)⟩)
        exact ho3.cast (by simp; omega) (by simp)
    · rw [wireGo, if_neg hd] at hw
      refine T.condT rfl (by have := blt_of c hd; simp at this ⊢; exact this) ?_
      repeat (first | refine za rfl rfl ?_ | refine zb rfl ?_ | refine zc rfl ?_)
      refine TL.six (j := i) (c := c) tbk rfl rfl rfl rfl rfl rfl hc ?_
      refine TL.bs (vs := [c].map bv) el37 rfl rfl (by intro v hv; simp at hv; rcases hv with rfl; rfl) (by simp) rfl rfl (fun eb => ?_)
      refine TL.append (len := G.length) (m := 1) (news := [c].map bv) 2 el37 sl37 rfl rfl rfl rfl rfl hg (src_block (i := 0) (E := [c]) rfl rfl) (by omega) (by omega) (fun lb2 lc2 lcap2 hg2 => ?_)
      repeat (first | refine za rfl rfl ?_ | refine zb rfl ?_ | refine zc rfl ?_)
      rw [add1_i64 (a := i) (by omega)]
      exact T.again ih ⟨i + 1, ob, oc, ocap, O, lb2, lc2, lcap2, G ++ [c]⟩ (by simp; omega) ⟨rfl, rfl, by simp only [List.length_append]; rfl, rfl, rfl, trivial⟩ (fun w' hA => ⟨⟨hlt, ho, hg2.cast (by simp) (by simp), by simp; omega, hw⟩, hA.sub (List.Sublist.cons _ (List.Sublist.refl _))⟩)
  · refine T.condF rfl (by simpa using hlt) ?_
    have hiq : i = s.length := by omega
    subst hiq
    rw [List.drop_length, wireGo] at hw
    repeat (first | refine za rfl rfl ?_ | refine zb rfl ?_ | refine zc rfl ?_)
    refine TL.bs (vs := [(0 : UInt8)].map bv) el37 rfl rfl (by intro v hv; simp at hv; rcases hv with rfl; rfl) (by simp) rfl rfl (fun eb => ?_)
    refine TL.append (len := O.length) (m := 1) (news := [(0 : UInt8)].map bv) 1 el37 sl37 rfl rfl rfl rfl rfl ho (src_block (i := 0) (E := [(0 : UInt8)]) rfl rfl) (by omega) (by omega) (fun ob2 oc2 ocap2 ho2 => ?_)
    repeat (first | refine za rfl rfl ?_ | refine zb rfl ?_ | refine zc rfl ?_)
    exact T.ret Tryz.func94 rfl (fun w' hA => ⟨(ob2, oc2, ocap2), by rw [← hw, List.length_append]; rfl, by rw [← hw]; exact ho2.cast (by simp) (by simp), hA.sub (M' := [(ob2, .row oc2 5)]) (List.Sublist.cons _ (List.Sublist.cons_cons _ (List.nil_sublist _)))⟩)
theorem len_u16 (m : Nat) : IntKind.u16.wrap (m : Int) = ((m % 65536 : Nat) : Int) := by rw [wrap_u16]; omega
theorem pairsC (h : View) (l : List Pr) (hk : ∀ p ∈ l, p.key < 65536) (hl : (pairB l).length ≤ 2000) (v : Value) (hx : SlP h v l) : BCt 101 [v] h (pairB l) := by
  intro w hS hh
  obtain ⟨a, cap, hsh, hcap⟩ := hx.shape
  subst hsh
  have hl4 := pairB_len l
  refine calls_of_T (m := 28) Tryz.func101 rfl rfl (by simp) hS ?_
  repeat (first | refine za rfl rfl ?_ | refine zb rfl ?_ | refine zc rfl ?_)
  refine TL.bs0 el37 rfl rfl (fun b1 => ?_)
  repeat (first | refine za rfl rfl ?_ | refine zb rfl ?_ | refine zc rfl ?_)
  refine T.loop (α := JX) (fun x => [(3, slV x.b (pairB (l.take x.i)).length x.cap), (7, .slice a l.length cap), (8, .int .i64 (l.length : Int)), (9, .int .i64 (x.i : Int))])
    (fun x w' => (x.i ≤ l.length ∧ OwnB x.cs (pairB (l.take x.i)) x.cap) ∧ St (keys []) w [(x.b, .row x.cs 5)] w')
    (fun x => l.length - x.i) ⟨0, b1, [], 0⟩ ⟨rfl, rfl, rfl, rfl, trivial⟩ (fun w' hA => ⟨⟨Nat.zero_le _, own0 1⟩, hA⟩) ?_
  rintro ⟨i, ob, ocs, ocap⟩ ih
  refine T.and fun ⟨hi, hown⟩ => ?_
  simp only at hi hown
  repeat (first | refine za rfl rfl ?_ | refine zb rfl ?_ | refine zc rfl ?_)
  by_cases hlt : i < l.length
  · refine T.condT rfl (by simpa using hlt) ?_
    obtain ⟨s, hs⟩ := nth_lt hlt
    obtain ⟨b, o, cap', cs, hv, _, _, hrs, dv, hcs, hdv⟩ := hx.at hs
    injection hv with hv1 _ hv3
    subst hv1 hv3 hcs
    obtain ⟨da, dcap, hdsh, hdcap⟩ := hdv.shape
    subst hdsh
    have hle := pairB_take_le l (i + 1)
    have hsl := pairB_mem (nth_mem hs)
    rw [pairB_take hs] at hle
    repeat (first | refine za rfl rfl ?_ | refine zb rfl ?_ | refine zc rfl ?_)
    refine TL.ix (j := i) tbk rfl rfl rfl rfl rfl rfl hlt ?_
    refine TL.ldRA (hrs.mono hh) szk rfl rfl rfl rfl rfl ?_
    refine TL.allocZ 2 Tryz.zeroValue60 rfl rfl rfl (fun lb zs hz => ?_)
    refine TL.stW (vs := [.int .u16 (s.key : Int), .slice da s.data.length dcap]) 0 szk rfl rfl rfl rfl rfl hz (by intro u hu; simp at hu; rcases hu with rfl | rfl <;> rfl) ?_
    repeat (first | refine za rfl rfl ?_ | refine zb rfl ?_ | refine zc rfl ?_)
    refine TS.start [(0, true), (1, true), (2, true), (4, true), (5, true), (6, true), (7, true), (9, true), (10, true), (3, false), (8, false), (11, false), (12, false), (13, true)] [(lb, .row [.int .u16 (s.key : Int), .slice da s.data.length dcap] 60)] mixed (by kernel_rfl) (by kernel_rfl) (by decide) (by simp [setN]) ?_
    refine TS.p tbk rfl rfl ?_
    refine TS.p tbk rfl rfl ?_
    refine TS.y rfl rfl rfl rfl (Y.load szk rfl rfl (fun w h => h.cell (i := 0) rfl rfl)) ?_
    refine TS.p tbk rfl rfl ?_
    refine TS.y rfl rfl rfl rfl (Y.load szk rfl rfl (fun w h => h.cell (i := 0) rfl rfl)) ?_
    refine TS.p tbk rfl rfl ?_
    refine TS.p tbk rfl rfl ?_
    refine TS.p tbk rfl rfl ?_
    refine TS.y rfl rfl rfl rfl (Y.load szk rfl rfl (fun w h => h.cell (i := 0) rfl rfl)) ?_
    rw [len_u16]
    refine TS.call0 rfl Tryz.call93 rfl rfl rfl (two h s.key) (fun w' hA => vle hA hh) (fun _ => by simp [setN]) (fun y1 => TS.and fun o1 => ?_)
    refine TS.call0 rfl Tryz.call93 rfl rfl rfl (two_mod h s.data.length) (fun w' hA => vle hA hh) (fun _ => by simp [setN]) (fun y2 => TS.and fun o2 => ?_)
    refine TS.bs (us := [slV ob (pairB (l.take i)).length ocap, slV y1.1 (w2 s.key).length y1.2.2, slV y2.1 (w2 s.data.length).length y2.2.2, .slice da s.data.length dcap]) rfl el252 rfl rfl (by intro v hv; simp at hv; rcases hv with rfl | rfl | rfl | rfl <;> rfl) (by simp) rfl rfl (fun _ => by simp [setN]) (fun sb => ?_)
    refine TS.join (ls := [pairB (l.take i), w2 s.key, w2 s.data.length, s.data]) hh rfl rfl rfl rfl rfl (fun w' hA => .cons (SlB.in hA (i := 4) rfl hown) (.cons (SlB.in hA (i := 2) rfl o1) (.cons (SlB.in hA (i := 1) rfl o2) (.cons (hdv.mono (ov_right hA hh)) .nil)))) (by simp at hle ⊢; omega) (by simp) (by simp [setN]) (fun nb ncs ncap hno => ?_)
    refine TS.p tbk rfl rfl ?_
    refine TS.nil ?_
    repeat (first | refine za rfl rfl ?_ | refine zb rfl ?_ | refine zc rfl ?_)
    rw [add1_i64 (a := i) (by omega)]
    have e : [pairB (l.take i), w2 s.key, w2 s.data.length, s.data].flatten = pairB (l.take (i + 1)) := by rw [pairB_take hs]; simp
    exact T.again ih ⟨i + 1, nb, ncs, ncap⟩ (by simp; omega) ⟨by rw [← e]; rfl, rfl, rfl, rfl, trivial⟩ (fun w' hA => ⟨⟨hlt, by simp only; rw [← e]; exact hno⟩, hA.sub (List.Sublist.cons_cons _ (List.nil_sublist _))⟩)
  · refine T.condF rfl (by simpa using hlt) ?_
    have hiq : i = l.length := by omega
    subst hiq
    rw [List.take_length] at hown
    repeat (first | refine za rfl rfl ?_ | refine zb rfl ?_ | refine zc rfl ?_)
    exact T.ret Tryz.func101 rfl (fun w' hA => ⟨(ob, ocs, ocap), by rw [List.take_length]; rfl, hown, hA⟩)
end X
namespace X
def tyC : List Value := [.int .u16 0, .int .u16 1, .int .u16 2, .int .u16 5, .int .u16 6, .int .u16 12, .int .u16 15, .int .u16 16, .int .u16 28, .int .u16 33, .int .u16 41, .int .u16 64, .int .u16 65, .int .u16 0]
theorem typeOfC (h : View) (r : Rc) (h1 : 1 ≤ r.kind) (h2 : r.kind ≤ 13) (dv tv pv : Value) : RCt 48 [.agg (rcCells r dv tv pv).toArray] h (.int .u16 (typeOf r : Int)) := by
  intro w hS hh
  obtain ⟨n, hn⟩ : ∃ n : Nat, r.kind = (n : Int) := ⟨r.kind.toNat, by omega⟩
  have hty : n ≠ 13 → nth tyC (0 + n * 1) = some (.int .u16 (typeOf r : Int)) := fun h13 => by
    have hn2 : n = 1 ∨ n = 2 ∨ n = 3 ∨ n = 4 ∨ n = 5 ∨ n = 6 ∨ n = 7 ∨ n = 8 ∨ n = 9 ∨ n = 10 ∨ n = 11 ∨ n = 12 := by omega
    unfold typeOf
    rw [hn]
    rcases hn2 with rfl | rfl | rfl | rfl | rfl | rfl | rfl | rfl | rfl | rfl | rfl | rfl <;> rfl
  have hk : nth (rcCells r dv tv pv) 5 = some (.int .i64 (n : Int)) := by rw [← hn]; rfl
  generalize hC : rcCells r dv tv pv = C at hk
  have ht : nth C 1 = some (.int .u16 (r.typ : Int)) := by rw [← hC]; rfl
  refine calls_of_T (m := 14) Tryz.func48 rfl rfl (by simp) hS ?_
  repeat (first | refine za rfl rfl ?_ | refine zb rfl ?_ | refine zc rfl ?_)
  refine TL.box (cs := C) rfl rfl rfl rfl (fun xb => ?_)
  repeat (first | refine za rfl rfl ?_ | refine zb rfl ?_ | refine zc rfl ?_)
  refine TL.build (v := .agg tyC.toArray) rfl rfl rfl (fun w => by kernel_rfl) ?_
  refine TL.allocZ 14 Tryz.zeroValue213 rfl rfl rfl (fun tb_ zs hz => ?_)
  refine TL.stW (vs := tyC) 0 szk rfl rfl rfl rfl rfl hz (by simp [tyC, Value.oneCell']) ?_
  repeat (first | refine za rfl rfl ?_ | refine zb rfl ?_ | refine zc rfl ?_)
  refine TL.ld 1 szk rfl rfl rfl hk rfl rfl ?_
  repeat (first | refine za rfl rfl ?_ | refine zb rfl ?_ | refine zc rfl ?_)
  by_cases h13 : n = 13
  · subst h13
    refine T.condT rfl rfl ?_
    repeat (first | refine za rfl rfl ?_ | refine zb rfl ?_ | refine zc rfl ?_)
    refine TL.ld 1 szk rfl rfl rfl ht rfl rfl ?_
    repeat (first | refine za rfl rfl ?_ | refine zb rfl ?_ | refine zc rfl ?_)
    refine T.ret Tryz.func48 rfl (fun w hA => ⟨(), ?_, trivial, hA.sub (by simp)⟩)
    unfold typeOf
    rw [hn]; rfl
  · refine T.condF rfl (by simp; omega) ?_
    repeat (first | refine za rfl rfl ?_ | refine zb rfl ?_ | refine zc rfl ?_)
    refine TL.ld 1 szk rfl rfl rfl hk rfl rfl ?_
    refine TL.ixA (j := n) tbk rfl rfl rfl rfl rfl rfl (by omega) ?_
    refine TL.ld 0 szk rfl rfl rfl (hty h13) rfl rfl ?_
    repeat (first | refine za rfl rfl ?_ | refine zb rfl ?_ | refine zc rfl ?_)
    exact T.ret Tryz.func48 rfl (fun w hA => ⟨(), rfl, trivial, hA.sub (by simp)⟩)
abbrev nl : Value := .slice none 0 0
def kindRc (k : Int) : Rc := ⟨[], 0, 0, 0, 0, k, [], [], [], 0, 0, 0, 0, 0, [], []⟩
theorem build58 (k : Int) (w : World) : (Instr.build 58 #[(5, .int .i64 k)]).run Tryz.prog w = .ok (.agg (rcCells (kindRc k) nl nl nl).toArray) w := by kernel_rfl
/-- Where a type has no kind of its own, it is none of those that have. -/
theorem kindOfC (h : View) (t : Nat) : Ct (β := Nat) Tryz.prog 19 [.int .u16 (t : Int)] [] (fun w => View.le h (view [] w)) (fun y => .int .i64 (y : Int)) (fun y _ => y = 13 → t ∉ [1, 2, 5, 6, 12, 15, 16, 28, 33, 41, 64, 65]) (fun _ => []) := by
  intro w hS hh
  refine calls_of_T (m := 14) Tryz.func19 rfl rfl (by simp) hS ?_
  repeat (first | refine za rfl rfl ?_ | refine zb rfl ?_ | refine zc rfl ?_)
  refine T.loop (α := Nat) (fun i => [(0, .int .u16 (t : Int)), (3, .int .i64 ((i + 1 : Nat) : Int))])
    (fun i w' => (i ≤ 12 ∧ ∀ j, j < i → typeOf (kindRc ((j + 1 : Nat) : Int)) ≠ t) ∧ St (keys []) w [] w') (fun i => 12 - i) 0 ⟨rfl, rfl, trivial⟩ (fun w' hA => ⟨⟨Nat.zero_le _, fun j hj => (Nat.not_lt_zero _ hj).elim⟩, hA⟩) ?_
  intro i ih
  refine T.and fun ⟨hi, hall⟩ => ?_
  repeat (first | refine za rfl rfl ?_ | refine zb rfl ?_ | refine zc rfl ?_)
  by_cases hlt : i < 12
  · refine T.condT rfl (by simp; omega) ?_
    repeat (first | refine za rfl rfl ?_ | refine zb rfl ?_ | refine zc rfl ?_)
    refine TL.build (pv := [(5, .int .i64 ((i + 1 : Nat) : Int))]) rfl rfl rfl (build58 _) ?_
    refine TL.call0 Tryz.call48 rfl rfl rfl (typeOfC h (kindRc ((i + 1 : Nat) : Int)) (by simp [kindRc]; omega) (by simp [kindRc]; omega) nl nl nl) (fun w' hA => vle hA hh) (fun _ => TL.and fun _ => ?_)
    repeat (first | refine za rfl rfl ?_ | refine zb rfl ?_ | refine zc rfl ?_)
    by_cases he : typeOf (kindRc ((i + 1 : Nat) : Int)) = t
    · refine T.condT rfl (by rw [he]; simp) ?_
      repeat (first | refine za rfl rfl ?_ | refine zb rfl ?_ | refine zc rfl ?_)
      exact T.ret Tryz.func19 rfl (fun w' hA => ⟨i + 1, rfl, fun h13 => by omega, hA⟩)
    · refine T.condF rfl (by rw [beq_eq_false_iff_ne]; exact fun e => he (by omega)) ?_
      repeat (first | refine za rfl rfl ?_ | refine zb rfl ?_ | refine zc rfl ?_)
      rw [add1_i64 (a := i + 1) (by omega)]
      exact T.again ih (i + 1) (by omega) ⟨rfl, rfl, trivial⟩ (fun w' hA => ⟨⟨hlt, fun j hj => by
        rcases Nat.lt_or_ge j i with h1 | h1
        · exact hall j h1
        · have : j = i := by omega
          subst this; exact he⟩, hA⟩)
  · refine T.condF rfl (by simp; omega) ?_
    have h12 : i = 12 := by omega
    subst h12
    repeat (first | refine za rfl rfl ?_ | refine zb rfl ?_ | refine zc rfl ?_)
    refine T.ret Tryz.func19 rfl (fun w' hA => ⟨13, rfl, fun _ hm => ?_, hA⟩)
    have g := fun j hj => hall j hj
    simp only [List.mem_cons, List.mem_nil_iff, or_false] at hm
    rcases hm with e | e | e | e | e | e | e | e | e | e | e | e <;> subst e
    · exact g 0 (by decide) rfl
    · exact g 1 (by decide) rfl
    · exact g 2 (by decide) rfl
    · exact g 3 (by decide) rfl
    · exact g 4 (by decide) rfl
    · exact g 5 (by decide) rfl
    · exact g 6 (by decide) rfl
    · exact g 7 (by decide) rfl
    · exact g 8 (by decide) rfl
    · exact g 9 (by decide) rfl
    · exact g 10 (by decide) rfl
    · exact g 11 (by decide) rfl
/-- What a call does that asks: where the answer is yes, p holds. -/
abbrev GCt (fn : FuncId) (args : List Value) (h : View) (p : Prop) : Prop := Ct (β := Bool) Tryz.prog fn args [] (fun w => View.le h (view [] w)) (fun y => .bool y) (fun y _ => y = true → p) (fun _ => [])
/-- Reading a name: behind i bytes, of which the last n are a label that has no end yet. -/
structure NOk (s : Bs) (i n : Nat) : Prop where
  le : n ≤ i
  all : ∀ j b, i - n ≤ j → j < i → s[j]? = some b → b ≠ 46
  rest : VL (s.drop (i - n)) → VL s
theorem NOk.step {s : Bs} {i n : Nat} {c : UInt8} (k : NOk s i n) (hc : s[i]? = some c) (hd : c ≠ 46) : NOk s (i + 1) (n + 1) := by
  have := k.le
  refine ⟨by omega, fun j b h1 h2 hj => ?_, by rw [show i + 1 - (n + 1) = i - n by omega]; exact k.rest⟩
  rcases Nat.lt_or_ge j i with h3 | h3
  · exact k.all j b (by omega) h3 hj
  · have : j = i := by omega
    subst this
    rw [hc] at hj
    simp only [Option.some.injEq] at hj
    subst hj; exact hd
theorem NOk.dot {s : Bs} {i n : Nat} (k : NOk s i n) (hc : s[i]? = some 46) (h0 : 0 < n) (h63 : n ≤ 63) : NOk s (i + 1) 0 := by
  have hle := k.le
  have hi := (List.getElem?_eq_some_iff.1 hc).1
  refine ⟨Nat.zero_le _, fun j b h1 h2 => absurd h1 (by omega), fun hv => k.rest ?_⟩
  rw [Nat.sub_zero] at hv
  have e : s.drop (i - n) = (s.drop (i - n)).take n ++ 46 :: s.drop (i + 1) := by
    rw [← drop_at hc]
    have : s.drop i = (s.drop (i - n)).drop n := by rw [List.drop_drop]; congr 1; omega
    rw [this, List.take_append_drop]
  rw [e]
  refine .lab (by simp; omega) (by simp; omega) (fun b hb => ?_) hv
  obtain ⟨j, hj⟩ := List.getElem?_of_mem hb
  rw [List.getElem?_take] at hj
  split at hj
  · rw [List.getElem?_drop] at hj
    exact k.all (i - n + j) b (by omega) (by omega) hj
  · cases hj
theorem nameOkC (h : View) (s : Bs) (hs : s.length ≤ 1048576) : GCt 44 [str s] h (NmOk s) := by
  intro w hS hh
  refine calls_of_T (m := 37) Tryz.func44 rfl rfl (by simp) hS ?_
  repeat (first | refine za rfl rfl ?_ | refine zb rfl ?_ | refine zc rfl ?_)
  by_cases h46 : s = [46]
  · subst h46
    refine T.condT rfl (by simp) ?_
    repeat (first | refine za rfl rfl ?_ | refine zb rfl ?_ | refine zc rfl ?_)
    exact T.ret Tryz.func44 rfl (fun w' hA => ⟨true, rfl, fun _ => .inl rfl, hA⟩)
  refine T.condF rfl (by rw [bs_toList, show (⟨#[46]⟩ : ByteArray).toList = [46] from bs_toList [46]]; simpa using h46) ?_
  repeat (first | refine za rfl rfl ?_ | refine zb rfl ?_ | refine zc rfl ?_)
  refine T.loop (α := Nat × Nat) (fun x => [(0, str s), (3, .int .i64 (x.2 : Int)), (8, .int .i64 (s.length : Int)), (9, .int .i64 (x.1 : Int))])
    (fun x w' => (x.1 ≤ s.length ∧ NOk s x.1 x.2) ∧ St (keys []) w [] w') (fun x => s.length - x.1) (0, 0) ⟨rfl, rfl, rfl, rfl, trivial⟩ (fun w' hA => ⟨⟨Nat.zero_le _, ⟨Nat.le_refl _, fun j b _ hj => absurd hj (Nat.not_lt_zero _), fun hv => hv⟩⟩, hA⟩) ?_
  rintro ⟨i, n⟩ ih
  refine T.and fun ⟨hi, hk⟩ => ?_
  simp only at hi hk
  have hni := hk.le
  repeat (first | refine za rfl rfl ?_ | refine zb rfl ?_ | refine zc rfl ?_)
  by_cases hlt : i < s.length
  · refine T.condT rfl (by simpa using hlt) ?_
    obtain ⟨c, hc⟩ : ∃ c, s[i]? = some c := ⟨s[i], List.getElem?_eq_getElem hlt⟩
    repeat (first | refine za rfl rfl ?_ | refine zb rfl ?_ | refine zc rfl ?_)
    refine TL.six (j := i) (c := c) tbk rfl rfl rfl rfl rfl rfl hc ?_
    repeat (first | refine za rfl rfl ?_ | refine zb rfl ?_ | refine zc rfl ?_)
    by_cases hd : c = 46
    · subst hd
      refine T.condF rfl rfl ?_
      repeat (first | refine za rfl rfl ?_ | refine zb rfl ?_ | refine zc rfl ?_)
      by_cases h0 : n = 0
      · subst h0
        repeat (first | refine za rfl rfl ?_ | refine zb rfl ?_ | refine zc rfl ?_)
        refine T.condT rfl rfl ?_
        repeat (first | refine za rfl rfl ?_ | refine zb rfl ?_ | refine zc rfl ?_)
        exact T.ret Tryz.func44 rfl (fun w' hA => ⟨false, rfl, fun e => Bool.noConfusion e, hA⟩)
      · rw [eq0F h0]
        repeat (first | refine za rfl rfl ?_ | refine zb rfl ?_ | refine zc rfl ?_)
        by_cases h63 : n ≤ 63
        · refine T.condF rfl (by simp; omega) ?_
          repeat (first | refine za rfl rfl ?_ | refine zb rfl ?_ | refine zc rfl ?_)
          rw [add1_i64 (a := i) (by omega)]
          exact T.again ih (i + 1, 0) (by simp; omega) ⟨rfl, rfl, rfl, rfl, trivial⟩ (fun w' hA => ⟨⟨hlt, hk.dot hc (by omega) h63⟩, hA⟩)
        · refine T.condT rfl (by simp; omega) ?_
          repeat (first | refine za rfl rfl ?_ | refine zb rfl ?_ | refine zc rfl ?_)
          exact T.ret Tryz.func44 rfl (fun w' hA => ⟨false, rfl, fun e => Bool.noConfusion e, hA⟩)
    · refine T.condT rfl (by have := blt_of c hd; simp at this ⊢; exact this) ?_
      repeat (first | refine za rfl rfl ?_ | refine zb rfl ?_ | refine zc rfl ?_)
      rw [add1_i64 (a := n) (by omega), add1_i64 (a := i) (by omega)]
      exact T.again ih (i + 1, n + 1) (by simp; omega) ⟨rfl, rfl, rfl, rfl, trivial⟩ (fun w' hA => ⟨⟨hlt, hk.step hc hd⟩, hA⟩)
  · refine T.condF rfl (by simpa using hlt) ?_
    have hiq : i = s.length := by omega
    subst hiq
    repeat (first | refine za rfl rfl ?_ | refine zb rfl ?_ | refine zc rfl ?_)
    by_cases h0 : n = 0
    · subst h0
      repeat (first | refine za rfl rfl ?_ | refine zb rfl ?_ | refine zc rfl ?_)
      by_cases h1 : 1 < s.length
      · rw [show (decide ((s.length : Int) > 1)) = true by simp; omega]
        repeat (first | refine za rfl rfl ?_ | refine zb rfl ?_ | refine zc rfl ?_)
        refine T.ret Tryz.func44 rfl (fun w' hA => ⟨decide ((s.length : Int) ≤ 254), rfl, fun e => .inr ⟨hk.rest (by rw [Nat.sub_zero, List.drop_length]; exact .nil), by intro e; subst e; simp at h1, by simp at e; omega⟩, hA⟩)
      · rw [show (decide ((s.length : Int) > 1)) = false by simp; omega]
        repeat (first | refine za rfl rfl ?_ | refine zb rfl ?_ | refine zc rfl ?_)
        exact T.ret Tryz.func44 rfl (fun w' hA => ⟨false, rfl, fun e => Bool.noConfusion e, hA⟩)
    · rw [eq0F h0]
      repeat (first | refine za rfl rfl ?_ | refine zb rfl ?_ | refine zc rfl ?_)
      exact T.ret Tryz.func44 rfl (fun w' hA => ⟨false, rfl, fun e => Bool.noConfusion e, hA⟩)
end X
namespace X
theorem nlab_step {s : Bs} {i : Nat} {c : UInt8} (hc : s[i]? = some c) : nlab ((s.take (i + 1)).drop 1) = nlab ((s.take i).drop 1) + (if c = 46 ∧ 0 < i then 1 else 0) := by
  have hi := (List.getElem?_eq_some_iff.1 hc).1
  cases i with
  | zero => simp [List.drop_take, nlab]
  | succ i =>
    rw [take_nth (a := c) (by rw [nth_eq]; exact hc), List.drop_append_of_le_length (by simp; omega), nlab_append]
    simp [nlab]
theorem nlab_of {s : Bs} (h : NmOk s) (hn : nlab (s.drop 1) ≤ 10) : nlab s ≤ 10 := by
  rcases h with rfl | ⟨h1, h2, _⟩
  · decide
  · obtain ⟨b, h3, h4⟩ := h1.first h2
    cases s with
    | nil => cases h2 rfl
    | cons c r => simp at h3; subst h3; simp only [nlab, if_neg h4]; simpa using hn
theorem labelsC (h : View) (s : Bs) (hs : s.length ≤ 1048576) : RCt 20 [str s] h (.int .i64 (nlab (s.drop 1) : Int)) := by
  intro w hS hh
  refine calls_of_T (m := 22) Tryz.func20 rfl rfl (by simp) hS ?_
  repeat (first | refine za rfl rfl ?_ | refine zb rfl ?_ | refine zc rfl ?_)
  refine T.loop (α := Nat × Nat) (fun x => [(0, str s), (3, .int .i64 (x.2 : Int)), (6, .int .i64 (s.length : Int)), (7, .int .i64 (x.1 : Int))])
    (fun x w' => (x.1 ≤ s.length ∧ x.2 ≤ x.1 ∧ x.2 = nlab ((s.take x.1).drop 1)) ∧ St (keys []) w [] w') (fun x => s.length - x.1) (0, 0) ⟨rfl, rfl, rfl, rfl, trivial⟩ (fun w' hA => ⟨⟨Nat.zero_le _, Nat.le_refl _, rfl⟩, hA⟩) ?_
  rintro ⟨i, n⟩ ih
  refine T.and fun ⟨hi, hni, hn⟩ => ?_
  simp only at hi hni hn
  repeat (first | refine za rfl rfl ?_ | refine zb rfl ?_ | refine zc rfl ?_)
  by_cases hlt : i < s.length
  · refine T.condT rfl (by simpa using hlt) ?_
    obtain ⟨c, hc⟩ : ∃ c, s[i]? = some c := ⟨s[i], List.getElem?_eq_getElem hlt⟩
    have hst := nlab_step hc
    repeat (first | refine za rfl rfl ?_ | refine zb rfl ?_ | refine zc rfl ?_)
    refine TL.six (j := i) (c := c) tbk rfl rfl rfl rfl rfl rfl hc ?_
    repeat (first | refine za rfl rfl ?_ | refine zb rfl ?_ | refine zc rfl ?_)
    by_cases hd : c = 46
    · subst hd
      repeat (first | refine za rfl rfl ?_ | refine zb rfl ?_ | refine zc rfl ?_)
      by_cases h0 : i = 0
      · subst h0
        refine T.condF rfl rfl ?_
        repeat (first | refine za rfl rfl ?_ | refine zb rfl ?_ | refine zc rfl ?_)
        rw [add1_i64 (a := 0) (by omega)]
        exact T.again ih (0 + 1, n) (by simp; omega) ⟨rfl, rfl, rfl, rfl, trivial⟩ (fun w' hA => ⟨⟨hlt, by simp; omega, by rw [hst, ← hn]; simp⟩, hA⟩)
      · refine T.condT rfl (by simp; omega) ?_
        repeat (first | refine za rfl rfl ?_ | refine zb rfl ?_ | refine zc rfl ?_)
        rw [add1_i64 (a := n) (by omega), add1_i64 (a := i) (by omega)]
        exact T.again ih (i + 1, n + 1) (by simp; omega) ⟨rfl, rfl, rfl, rfl, trivial⟩ (fun w' hA => ⟨⟨hlt, by simp; omega, by rw [hst, ← hn, if_pos ⟨rfl, by omega⟩]⟩, hA⟩)
    · rw [show ((bv c) = .int .u8 ((c.toNat : Nat) : Int)) from rfl]
      rw [blt_of c hd]
      repeat (first | refine za rfl rfl ?_ | refine zb rfl ?_ | refine zc rfl ?_)
      refine T.condF rfl rfl ?_
      repeat (first | refine za rfl rfl ?_ | refine zb rfl ?_ | refine zc rfl ?_)
      rw [add1_i64 (a := i) (by omega)]
      exact T.again ih (i + 1, n) (by simp; omega) ⟨rfl, rfl, rfl, rfl, trivial⟩ (fun w' hA => ⟨⟨hlt, by simp; omega, by rw [hst, ← hn, if_neg (fun e => hd e.1)]; rfl⟩, hA⟩)
  · refine T.condF rfl (by simpa using hlt) ?_
    have hiq : i = s.length := by omega
    subst hiq
    rw [List.take_length] at hn
    repeat (first | refine za rfl rfl ?_ | refine zb rfl ?_ | refine zc rfl ?_)
    exact T.ret Tryz.func20 rfl (fun w' hA => ⟨(), by rw [← hn]; rfl, trivial, hA⟩)
theorem ascC (h : View) (l : List Pr) (hl : l.length ≤ 1048576) (v : Value) (hx : SlP h v l) : GCt 98 [v] h (∀ i p, 0 < i → nth l i = some p → 0 < p.key) := by
  intro w hS hh
  obtain ⟨a, cap, hsh, hcap⟩ := hx.shape
  subst hsh
  refine calls_of_T (m := 22) Tryz.func98 rfl rfl (by simp) hS ?_
  repeat (first | refine za rfl rfl ?_ | refine zb rfl ?_ | refine zc rfl ?_)
  refine T.loop (α := Nat) (fun i => [(0, .slice a l.length cap), (3, .int .i64 ((i + 1 : Nat) : Int))])
    (fun i w' => ((i < l.length ∨ i = 0) ∧ ∀ j p, 0 < j → j < i + 1 → nth l j = some p → 0 < p.key) ∧ St (keys []) w [] w') (fun i => l.length - i) 0 ⟨rfl, rfl, trivial⟩ (fun w' hA => ⟨⟨.inr rfl, fun j p h1 h2 => absurd h1 (by omega)⟩, hA⟩) ?_
  intro i ih
  refine T.and fun ⟨hi, hall⟩ => ?_
  repeat (first | refine za rfl rfl ?_ | refine zb rfl ?_ | refine zc rfl ?_)
  by_cases hlt : i + 1 < l.length
  · refine T.condT rfl (by simp; omega) ?_
    obtain ⟨p, hp⟩ := nth_lt (l := l) (i := i) (by omega)
    obtain ⟨q, hq⟩ := nth_lt hlt
    obtain ⟨b, o, cap', cs, hv, _, _, hrs, dv, hcs, _⟩ := hx.at hp
    obtain ⟨b', o', cap'', cs', hv', _, _, hrs', dv', hcs', _⟩ := hx.at hq
    rw [hv] at hv'
    injection hv with hv1 _ hv3
    injection hv' with hv1' _ hv3'
    injection hv1' with hv1'
    injection hv1' with e1 e2
    subst hv1 hv3 hcs hcs' e1 e2
    have r1 := (hrs.mono hh).one (i := 0) rfl rfl
    have r2 := (hrs'.mono hh).one (i := 0) rfl rfl
    repeat (first | refine za rfl rfl ?_ | refine zb rfl ?_ | refine zc rfl ?_)
    refine TS.start [(0, true), (1, true), (2, true), (3, true), (4, true), (5, true), (6, true), (7, true), (8, true), (9, true), (10, true), (11, true)] [] mixed (by kernel_rfl) (by kernel_rfl) (by decide) (by simp) ?_
    refine TS.p tbk rfl rfl ?_
    refine TS.p tbk rfl rfl ?_
    refine TS.p tbk rfl rfl ?_
    rw [sub1_i64 (a := i + 1) (by omega) (by omega), Nat.add_sub_cancel]
    refine TS.y rfl rfl rfl rfl (Y.ix (j := i) tbk rfl rfl rfl rfl (by omega)) ?_
    refine TS.p tbk rfl rfl ?_
    refine TS.y rfl rfl rfl rfl (Y.load szk rfl rfl (fun w h => r1.cell h.1 (i := 0) rfl)) ?_
    refine TS.p tbk rfl rfl ?_
    refine TS.p tbk rfl rfl ?_
    refine TS.y rfl rfl rfl rfl (Y.ix (j := i + 1) tbk rfl rfl rfl rfl (by omega)) ?_
    refine TS.p tbk rfl rfl ?_
    refine TS.y rfl rfl rfl rfl (Y.load szk rfl rfl (fun w h => r2.cell h.1 (i := 0) rfl)) ?_
    refine TS.p tbk rfl rfl ?_
    refine TS.nil ?_
    repeat (first | refine za rfl rfl ?_ | refine zb rfl ?_ | refine zc rfl ?_)
    by_cases hk : q.key ≤ p.key
    · refine T.condT rfl (by simp; omega) ?_
      repeat (first | refine za rfl rfl ?_ | refine zb rfl ?_ | refine zc rfl ?_)
      exact T.ret Tryz.func98 rfl (fun w' hA => ⟨false, rfl, fun e => Bool.noConfusion e, hA⟩)
    · refine T.condF rfl (by simp; omega) ?_
      repeat (first | refine za rfl rfl ?_ | refine zb rfl ?_ | refine zc rfl ?_)
      rw [add1_i64 (a := i + 1) (by omega)]
      exact T.again ih (i + 1) (by omega) ⟨rfl, rfl, trivial⟩ (fun w' hA => ⟨⟨.inl hlt, fun j p' h1 h2 hj => by
        rcases Nat.lt_or_ge j (i + 1) with h3 | h3
        · exact hall j p' h1 h3 hj
        · have : j = i + 1 := by omega
          subst this
          rw [hq] at hj
          simp only [Option.some.injEq] at hj
          subst hj; omega⟩, hA⟩)
  · refine T.condF rfl (by simp; omega) ?_
    repeat (first | refine za rfl rfl ?_ | refine zb rfl ?_ | refine zc rfl ?_)
    exact T.ret Tryz.func98 rfl (fun w' hA => ⟨true, rfl, fun _ j p h1 hj => hall j p h1 (by have := (List.getElem?_eq_some_iff.1 (by rw [nth_eq] at hj; exact hj)).1; omega) hj, hA⟩)
theorem headOkC (h : View) (hd : Hd) : GCt 47 [.agg (hdCells hd).toArray] h (hd.op < 16 ∧ hd.code < 16) := by
  intro w hS hh
  refine calls_of_T (m := 11) Tryz.func47 rfl rfl (by simp) hS ?_
  repeat (first | refine za rfl rfl ?_ | refine zb rfl ?_ | refine zc rfl ?_)
  refine TL.box rfl rfl rfl rfl (fun xb => ?_)
  repeat (first | refine za rfl rfl ?_ | refine zb rfl ?_ | refine zc rfl ?_)
  refine TL.ld 0 szk rfl rfl rfl rfl rfl rfl ?_
  repeat (first | refine za rfl rfl ?_ | refine zb rfl ?_ | refine zc rfl ?_)
  by_cases h1 : hd.op < 16
  · rw [show (decide ((hd.op : Int) < 16)) = true by simp; omega]
    repeat (first | refine za rfl rfl ?_ | refine zb rfl ?_ | refine zc rfl ?_)
    refine TL.ld 0 szk rfl rfl rfl rfl rfl rfl ?_
    repeat (first | refine za rfl rfl ?_ | refine zb rfl ?_ | refine zc rfl ?_)
    exact T.ret Tryz.func47 rfl (fun w' hA => ⟨decide ((hd.code : Int) < 16), rfl, fun e => ⟨h1, by simp at e; omega⟩, hA.sub (by simp)⟩)
  · rw [show (decide ((hd.op : Int) < 16)) = false by simp; omega]
    repeat (first | refine za rfl rfl ?_ | refine zb rfl ?_ | refine zc rfl ?_)
    exact T.ret Tryz.func47 rfl (fun w' hA => ⟨false, rfl, fun e => Bool.noConfusion e, hA.sub (by simp)⟩)
/-- The names that a body needs. -/
def HoOk (r : Rc) : Prop := (r.kind ∈ [2, 3, 4, 5, 6, 9, 11, 12] → NmOk r.host) ∧ (r.kind = 4 → NmOk r.box)
theorem kinds13 {k : Int} (h1 : 1 ≤ k) (h2 : k ≤ 13) : k = 1 ∨ k = 2 ∨ k = 3 ∨ k = 4 ∨ k = 5 ∨ k = 6 ∨ k = 7 ∨ k = 8 ∨ k = 9 ∨ k = 10 ∨ k = 11 ∨ k = 12 ∨ k = 13 := by omega
theorem hostOkC (h : View) (r : Rc) (h1 : 1 ≤ r.kind) (h2 : r.kind ≤ 13) (hl : r.host.length ≤ 1048576) (hb : r.box.length ≤ 1048576) (dv tv pv : Value) : GCt 99 [.agg (rcCells r dv tv pv).toArray] h (HoOk r) := by
  intro w hS hh
  refine calls_of_T (m := 26) Tryz.func99 rfl rfl (by simp) hS ?_
  repeat (first | refine za rfl rfl ?_ | refine zb rfl ?_ | refine zc rfl ?_)
  refine TL.box (cs := rcCells r dv tv pv) rfl rfl rfl rfl (fun xb => ?_)
  repeat (first | refine za rfl rfl ?_ | refine zb rfl ?_ | refine zc rfl ?_)
  rcases kinds13 h1 h2 with k | k | k | k | k | k | k | k | k | k | k | k | k
  · refine TL.ld (v := .int .i64 1) 0 szk rfl rfl rfl (by rw [← k]; rfl) rfl rfl ?_
    repeat (first | refine za rfl rfl ?_ | refine zb rfl ?_ | refine zc rfl ?_)
    refine T.condF rfl rfl ?_
    repeat (first | refine za rfl rfl ?_ | refine zb rfl ?_ | refine zc rfl ?_)
    refine T.condF rfl rfl ?_
    repeat (first | refine za rfl rfl ?_ | refine zb rfl ?_ | refine zc rfl ?_)
    refine T.condF rfl rfl ?_
    repeat (first | refine za rfl rfl ?_ | refine zb rfl ?_ | refine zc rfl ?_)
    refine T.condF rfl rfl ?_
    repeat (first | refine za rfl rfl ?_ | refine zb rfl ?_ | refine zc rfl ?_)
    refine T.condF rfl rfl ?_
    repeat (first | refine za rfl rfl ?_ | refine zb rfl ?_ | refine zc rfl ?_)
    refine T.condF rfl rfl ?_
    repeat (first | refine za rfl rfl ?_ | refine zb rfl ?_ | refine zc rfl ?_)
    refine T.condF rfl rfl ?_
    repeat (first | refine za rfl rfl ?_ | refine zb rfl ?_ | refine zc rfl ?_)
    refine T.condF rfl rfl ?_
    repeat (first | refine za rfl rfl ?_ | refine zb rfl ?_ | refine zc rfl ?_)
    exact T.ret Tryz.func99 rfl (fun w' hA => ⟨true, rfl, fun e => ⟨fun hm => by rw [k] at hm; exact absurd hm (by decide), fun e => by omega⟩, hA.sub (by simp)⟩)
  · refine TL.ld (v := .int .i64 2) 0 szk rfl rfl rfl (by rw [← k]; rfl) rfl rfl ?_
    repeat (first | refine za rfl rfl ?_ | refine zb rfl ?_ | refine zc rfl ?_)
    refine T.condT rfl rfl ?_
    repeat (first | refine za rfl rfl ?_ | refine zb rfl ?_ | refine zc rfl ?_)
    refine T.condT rfl rfl ?_
    repeat (first | refine za rfl rfl ?_ | refine zb rfl ?_ | refine zc rfl ?_)
    refine TL.ld 0 szk rfl rfl rfl rfl rfl rfl ?_
    refine TL.call0 Tryz.call44 rfl rfl rfl (nameOkC h r.host hl) (fun w' hA => vle hA hh) (fun y => TL.and fun hy => ?_)
    repeat (first | refine za rfl rfl ?_ | refine zb rfl ?_ | refine zc rfl ?_)
    exact T.ret Tryz.func99 rfl (fun w' hA => ⟨y, rfl, fun e => ⟨fun _ => hy e, fun e => by omega⟩, hA.sub (by simp)⟩)
  · refine TL.ld (v := .int .i64 3) 0 szk rfl rfl rfl (by rw [← k]; rfl) rfl rfl ?_
    repeat (first | refine za rfl rfl ?_ | refine zb rfl ?_ | refine zc rfl ?_)
    refine T.condF rfl rfl ?_
    repeat (first | refine za rfl rfl ?_ | refine zb rfl ?_ | refine zc rfl ?_)
    refine T.condT rfl rfl ?_
    repeat (first | refine za rfl rfl ?_ | refine zb rfl ?_ | refine zc rfl ?_)
    refine T.condT rfl rfl ?_
    repeat (first | refine za rfl rfl ?_ | refine zb rfl ?_ | refine zc rfl ?_)
    refine TL.ld 0 szk rfl rfl rfl rfl rfl rfl ?_
    refine TL.call0 Tryz.call44 rfl rfl rfl (nameOkC h r.host hl) (fun w' hA => vle hA hh) (fun y => TL.and fun hy => ?_)
    repeat (first | refine za rfl rfl ?_ | refine zb rfl ?_ | refine zc rfl ?_)
    exact T.ret Tryz.func99 rfl (fun w' hA => ⟨y, rfl, fun e => ⟨fun _ => hy e, fun e => by omega⟩, hA.sub (by simp)⟩)
  · refine TL.ld (v := .int .i64 4) 0 szk rfl rfl rfl (by rw [← k]; rfl) rfl rfl ?_
    repeat (first | refine za rfl rfl ?_ | refine zb rfl ?_ | refine zc rfl ?_)
    refine T.condF rfl rfl ?_
    repeat (first | refine za rfl rfl ?_ | refine zb rfl ?_ | refine zc rfl ?_)
    refine T.condF rfl rfl ?_
    repeat (first | refine za rfl rfl ?_ | refine zb rfl ?_ | refine zc rfl ?_)
    refine T.condF rfl rfl ?_
    repeat (first | refine za rfl rfl ?_ | refine zb rfl ?_ | refine zc rfl ?_)
    refine T.condF rfl rfl ?_
    repeat (first | refine za rfl rfl ?_ | refine zb rfl ?_ | refine zc rfl ?_)
    refine T.condF rfl rfl ?_
    repeat (first | refine za rfl rfl ?_ | refine zb rfl ?_ | refine zc rfl ?_)
    refine T.condF rfl rfl ?_
    repeat (first | refine za rfl rfl ?_ | refine zb rfl ?_ | refine zc rfl ?_)
    refine T.condF rfl rfl ?_
    repeat (first | refine za rfl rfl ?_ | refine zb rfl ?_ | refine zc rfl ?_)
    refine T.condT rfl rfl ?_
    repeat (first | refine za rfl rfl ?_ | refine zb rfl ?_ | refine zc rfl ?_)
    refine TL.ld 0 szk rfl rfl rfl rfl rfl rfl ?_
    refine TL.call0 Tryz.call44 rfl rfl rfl (nameOkC h r.host hl) (fun w' hA => vle hA hh) (fun y => TL.and fun hy => ?_)
    cases y
    · repeat (first | refine za rfl rfl ?_ | refine zb rfl ?_ | refine zc rfl ?_)
      exact T.ret Tryz.func99 rfl (fun w' hA => ⟨false, rfl, fun e => Bool.noConfusion e, hA.sub (by simp)⟩)
    · repeat (first | refine za rfl rfl ?_ | refine zb rfl ?_ | refine zc rfl ?_)
      refine TL.ld 0 szk rfl rfl rfl rfl rfl rfl ?_
      refine TL.call0 Tryz.call44 rfl rfl rfl (nameOkC h r.box hb) (fun w' hA => vle hA hh) (fun z => TL.and fun hz => ?_)
      repeat (first | refine za rfl rfl ?_ | refine zb rfl ?_ | refine zc rfl ?_)
      exact T.ret Tryz.func99 rfl (fun w' hA => ⟨z, rfl, fun e => ⟨fun _ => hy rfl, fun _ => hz e⟩, hA.sub (by simp)⟩)
  · refine TL.ld (v := .int .i64 5) 0 szk rfl rfl rfl (by rw [← k]; rfl) rfl rfl ?_
    repeat (first | refine za rfl rfl ?_ | refine zb rfl ?_ | refine zc rfl ?_)
    refine T.condF rfl rfl ?_
    repeat (first | refine za rfl rfl ?_ | refine zb rfl ?_ | refine zc rfl ?_)
    refine T.condF rfl rfl ?_
    repeat (first | refine za rfl rfl ?_ | refine zb rfl ?_ | refine zc rfl ?_)
    refine T.condT rfl rfl ?_
    repeat (first | refine za rfl rfl ?_ | refine zb rfl ?_ | refine zc rfl ?_)
    refine T.condT rfl rfl ?_
    repeat (first | refine za rfl rfl ?_ | refine zb rfl ?_ | refine zc rfl ?_)
    refine TL.ld 0 szk rfl rfl rfl rfl rfl rfl ?_
    refine TL.call0 Tryz.call44 rfl rfl rfl (nameOkC h r.host hl) (fun w' hA => vle hA hh) (fun y => TL.and fun hy => ?_)
    repeat (first | refine za rfl rfl ?_ | refine zb rfl ?_ | refine zc rfl ?_)
    exact T.ret Tryz.func99 rfl (fun w' hA => ⟨y, rfl, fun e => ⟨fun _ => hy e, fun e => by omega⟩, hA.sub (by simp)⟩)
  · refine TL.ld (v := .int .i64 6) 0 szk rfl rfl rfl (by rw [← k]; rfl) rfl rfl ?_
    repeat (first | refine za rfl rfl ?_ | refine zb rfl ?_ | refine zc rfl ?_)
    refine T.condF rfl rfl ?_
    repeat (first | refine za rfl rfl ?_ | refine zb rfl ?_ | refine zc rfl ?_)
    refine T.condF rfl rfl ?_
    repeat (first | refine za rfl rfl ?_ | refine zb rfl ?_ | refine zc rfl ?_)
    refine T.condF rfl rfl ?_
    repeat (first | refine za rfl rfl ?_ | refine zb rfl ?_ | refine zc rfl ?_)
    refine T.condT rfl rfl ?_
    repeat (first | refine za rfl rfl ?_ | refine zb rfl ?_ | refine zc rfl ?_)
    refine T.condT rfl rfl ?_
    repeat (first | refine za rfl rfl ?_ | refine zb rfl ?_ | refine zc rfl ?_)
    refine TL.ld 0 szk rfl rfl rfl rfl rfl rfl ?_
    refine TL.call0 Tryz.call44 rfl rfl rfl (nameOkC h r.host hl) (fun w' hA => vle hA hh) (fun y => TL.and fun hy => ?_)
    repeat (first | refine za rfl rfl ?_ | refine zb rfl ?_ | refine zc rfl ?_)
    exact T.ret Tryz.func99 rfl (fun w' hA => ⟨y, rfl, fun e => ⟨fun _ => hy e, fun e => by omega⟩, hA.sub (by simp)⟩)
  · refine TL.ld (v := .int .i64 7) 0 szk rfl rfl rfl (by rw [← k]; rfl) rfl rfl ?_
    repeat (first | refine za rfl rfl ?_ | refine zb rfl ?_ | refine zc rfl ?_)
    refine T.condF rfl rfl ?_
    repeat (first | refine za rfl rfl ?_ | refine zb rfl ?_ | refine zc rfl ?_)
    refine T.condF rfl rfl ?_
    repeat (first | refine za rfl rfl ?_ | refine zb rfl ?_ | refine zc rfl ?_)
    refine T.condF rfl rfl ?_
    repeat (first | refine za rfl rfl ?_ | refine zb rfl ?_ | refine zc rfl ?_)
    refine T.condF rfl rfl ?_
    repeat (first | refine za rfl rfl ?_ | refine zb rfl ?_ | refine zc rfl ?_)
    refine T.condF rfl rfl ?_
    repeat (first | refine za rfl rfl ?_ | refine zb rfl ?_ | refine zc rfl ?_)
    refine T.condF rfl rfl ?_
    repeat (first | refine za rfl rfl ?_ | refine zb rfl ?_ | refine zc rfl ?_)
    refine T.condF rfl rfl ?_
    repeat (first | refine za rfl rfl ?_ | refine zb rfl ?_ | refine zc rfl ?_)
    refine T.condF rfl rfl ?_
    repeat (first | refine za rfl rfl ?_ | refine zb rfl ?_ | refine zc rfl ?_)
    exact T.ret Tryz.func99 rfl (fun w' hA => ⟨true, rfl, fun e => ⟨fun hm => by rw [k] at hm; exact absurd hm (by decide), fun e => by omega⟩, hA.sub (by simp)⟩)
  · refine TL.ld (v := .int .i64 8) 0 szk rfl rfl rfl (by rw [← k]; rfl) rfl rfl ?_
    repeat (first | refine za rfl rfl ?_ | refine zb rfl ?_ | refine zc rfl ?_)
    refine T.condF rfl rfl ?_
    repeat (first | refine za rfl rfl ?_ | refine zb rfl ?_ | refine zc rfl ?_)
    refine T.condF rfl rfl ?_
    repeat (first | refine za rfl rfl ?_ | refine zb rfl ?_ | refine zc rfl ?_)
    refine T.condF rfl rfl ?_
    repeat (first | refine za rfl rfl ?_ | refine zb rfl ?_ | refine zc rfl ?_)
    refine T.condF rfl rfl ?_
    repeat (first | refine za rfl rfl ?_ | refine zb rfl ?_ | refine zc rfl ?_)
    refine T.condF rfl rfl ?_
    repeat (first | refine za rfl rfl ?_ | refine zb rfl ?_ | refine zc rfl ?_)
    refine T.condF rfl rfl ?_
    repeat (first | refine za rfl rfl ?_ | refine zb rfl ?_ | refine zc rfl ?_)
    refine T.condF rfl rfl ?_
    repeat (first | refine za rfl rfl ?_ | refine zb rfl ?_ | refine zc rfl ?_)
    refine T.condF rfl rfl ?_
    repeat (first | refine za rfl rfl ?_ | refine zb rfl ?_ | refine zc rfl ?_)
    exact T.ret Tryz.func99 rfl (fun w' hA => ⟨true, rfl, fun e => ⟨fun hm => by rw [k] at hm; exact absurd hm (by decide), fun e => by omega⟩, hA.sub (by simp)⟩)
  · refine TL.ld (v := .int .i64 9) 0 szk rfl rfl rfl (by rw [← k]; rfl) rfl rfl ?_
    repeat (first | refine za rfl rfl ?_ | refine zb rfl ?_ | refine zc rfl ?_)
    refine T.condF rfl rfl ?_
    repeat (first | refine za rfl rfl ?_ | refine zb rfl ?_ | refine zc rfl ?_)
    refine T.condF rfl rfl ?_
    repeat (first | refine za rfl rfl ?_ | refine zb rfl ?_ | refine zc rfl ?_)
    refine T.condF rfl rfl ?_
    repeat (first | refine za rfl rfl ?_ | refine zb rfl ?_ | refine zc rfl ?_)
    refine T.condF rfl rfl ?_
    repeat (first | refine za rfl rfl ?_ | refine zb rfl ?_ | refine zc rfl ?_)
    refine T.condT rfl rfl ?_
    repeat (first | refine za rfl rfl ?_ | refine zb rfl ?_ | refine zc rfl ?_)
    refine T.condT rfl rfl ?_
    repeat (first | refine za rfl rfl ?_ | refine zb rfl ?_ | refine zc rfl ?_)
    refine TL.ld 0 szk rfl rfl rfl rfl rfl rfl ?_
    refine TL.call0 Tryz.call44 rfl rfl rfl (nameOkC h r.host hl) (fun w' hA => vle hA hh) (fun y => TL.and fun hy => ?_)
    repeat (first | refine za rfl rfl ?_ | refine zb rfl ?_ | refine zc rfl ?_)
    exact T.ret Tryz.func99 rfl (fun w' hA => ⟨y, rfl, fun e => ⟨fun _ => hy e, fun e => by omega⟩, hA.sub (by simp)⟩)
  · refine TL.ld (v := .int .i64 10) 0 szk rfl rfl rfl (by rw [← k]; rfl) rfl rfl ?_
    repeat (first | refine za rfl rfl ?_ | refine zb rfl ?_ | refine zc rfl ?_)
    refine T.condF rfl rfl ?_
    repeat (first | refine za rfl rfl ?_ | refine zb rfl ?_ | refine zc rfl ?_)
    refine T.condF rfl rfl ?_
    repeat (first | refine za rfl rfl ?_ | refine zb rfl ?_ | refine zc rfl ?_)
    refine T.condF rfl rfl ?_
    repeat (first | refine za rfl rfl ?_ | refine zb rfl ?_ | refine zc rfl ?_)
    refine T.condF rfl rfl ?_
    repeat (first | refine za rfl rfl ?_ | refine zb rfl ?_ | refine zc rfl ?_)
    refine T.condF rfl rfl ?_
    repeat (first | refine za rfl rfl ?_ | refine zb rfl ?_ | refine zc rfl ?_)
    refine T.condF rfl rfl ?_
    repeat (first | refine za rfl rfl ?_ | refine zb rfl ?_ | refine zc rfl ?_)
    refine T.condF rfl rfl ?_
    repeat (first | refine za rfl rfl ?_ | refine zb rfl ?_ | refine zc rfl ?_)
    refine T.condF rfl rfl ?_
    repeat (first | refine za rfl rfl ?_ | refine zb rfl ?_ | refine zc rfl ?_)
    exact T.ret Tryz.func99 rfl (fun w' hA => ⟨true, rfl, fun e => ⟨fun hm => by rw [k] at hm; exact absurd hm (by decide), fun e => by omega⟩, hA.sub (by simp)⟩)
  · refine TL.ld (v := .int .i64 11) 0 szk rfl rfl rfl (by rw [← k]; rfl) rfl rfl ?_
    repeat (first | refine za rfl rfl ?_ | refine zb rfl ?_ | refine zc rfl ?_)
    refine T.condF rfl rfl ?_
    repeat (first | refine za rfl rfl ?_ | refine zb rfl ?_ | refine zc rfl ?_)
    refine T.condF rfl rfl ?_
    repeat (first | refine za rfl rfl ?_ | refine zb rfl ?_ | refine zc rfl ?_)
    refine T.condF rfl rfl ?_
    repeat (first | refine za rfl rfl ?_ | refine zb rfl ?_ | refine zc rfl ?_)
    refine T.condF rfl rfl ?_
    repeat (first | refine za rfl rfl ?_ | refine zb rfl ?_ | refine zc rfl ?_)
    refine T.condF rfl rfl ?_
    repeat (first | refine za rfl rfl ?_ | refine zb rfl ?_ | refine zc rfl ?_)
    refine T.condT rfl rfl ?_
    repeat (first | refine za rfl rfl ?_ | refine zb rfl ?_ | refine zc rfl ?_)
    refine T.condT rfl rfl ?_
    repeat (first | refine za rfl rfl ?_ | refine zb rfl ?_ | refine zc rfl ?_)
    refine TL.ld 0 szk rfl rfl rfl rfl rfl rfl ?_
    refine TL.call0 Tryz.call44 rfl rfl rfl (nameOkC h r.host hl) (fun w' hA => vle hA hh) (fun y => TL.and fun hy => ?_)
    repeat (first | refine za rfl rfl ?_ | refine zb rfl ?_ | refine zc rfl ?_)
    exact T.ret Tryz.func99 rfl (fun w' hA => ⟨y, rfl, fun e => ⟨fun _ => hy e, fun e => by omega⟩, hA.sub (by simp)⟩)
  · refine TL.ld (v := .int .i64 12) 0 szk rfl rfl rfl (by rw [← k]; rfl) rfl rfl ?_
    repeat (first | refine za rfl rfl ?_ | refine zb rfl ?_ | refine zc rfl ?_)
    refine T.condF rfl rfl ?_
    repeat (first | refine za rfl rfl ?_ | refine zb rfl ?_ | refine zc rfl ?_)
    refine T.condF rfl rfl ?_
    repeat (first | refine za rfl rfl ?_ | refine zb rfl ?_ | refine zc rfl ?_)
    refine T.condF rfl rfl ?_
    repeat (first | refine za rfl rfl ?_ | refine zb rfl ?_ | refine zc rfl ?_)
    refine T.condF rfl rfl ?_
    repeat (first | refine za rfl rfl ?_ | refine zb rfl ?_ | refine zc rfl ?_)
    refine T.condF rfl rfl ?_
    repeat (first | refine za rfl rfl ?_ | refine zb rfl ?_ | refine zc rfl ?_)
    refine T.condF rfl rfl ?_
    repeat (first | refine za rfl rfl ?_ | refine zb rfl ?_ | refine zc rfl ?_)
    refine T.condT rfl rfl ?_
    repeat (first | refine za rfl rfl ?_ | refine zb rfl ?_ | refine zc rfl ?_)
    refine TL.ld 0 szk rfl rfl rfl rfl rfl rfl ?_
    refine TL.call0 Tryz.call44 rfl rfl rfl (nameOkC h r.host hl) (fun w' hA => vle hA hh) (fun y => TL.and fun hy => ?_)
    repeat (first | refine za rfl rfl ?_ | refine zb rfl ?_ | refine zc rfl ?_)
    exact T.ret Tryz.func99 rfl (fun w' hA => ⟨y, rfl, fun e => ⟨fun _ => hy e, fun e => by omega⟩, hA.sub (by simp)⟩)
  · refine TL.ld (v := .int .i64 13) 0 szk rfl rfl rfl (by rw [← k]; rfl) rfl rfl ?_
    repeat (first | refine za rfl rfl ?_ | refine zb rfl ?_ | refine zc rfl ?_)
    refine T.condF rfl rfl ?_
    repeat (first | refine za rfl rfl ?_ | refine zb rfl ?_ | refine zc rfl ?_)
    refine T.condF rfl rfl ?_
    repeat (first | refine za rfl rfl ?_ | refine zb rfl ?_ | refine zc rfl ?_)
    refine T.condF rfl rfl ?_
    repeat (first | refine za rfl rfl ?_ | refine zb rfl ?_ | refine zc rfl ?_)
    refine T.condF rfl rfl ?_
    repeat (first | refine za rfl rfl ?_ | refine zb rfl ?_ | refine zc rfl ?_)
    refine T.condF rfl rfl ?_
    repeat (first | refine za rfl rfl ?_ | refine zb rfl ?_ | refine zc rfl ?_)
    refine T.condF rfl rfl ?_
    repeat (first | refine za rfl rfl ?_ | refine zb rfl ?_ | refine zc rfl ?_)
    refine T.condF rfl rfl ?_
    repeat (first | refine za rfl rfl ?_ | refine zb rfl ?_ | refine zc rfl ?_)
    refine T.condF rfl rfl ?_
    repeat (first | refine za rfl rfl ?_ | refine zb rfl ?_ | refine zc rfl ?_)
    exact T.ret Tryz.func99 rfl (fun w' hA => ⟨true, rfl, fun e => ⟨fun hm => by rw [k] at hm; exact absurd hm (by decide), fun e => by omega⟩, hA.sub (by simp)⟩)
def askB (a : Ak) : Bs := wire a.name ++ (w2 a.typ ++ w2 a.cls)
theorem askC (h : View) (a : Ak) (hn : a.name.length ≤ 1048576) : BCt 40 [.agg (akC a).toArray] h (askB a) := by
  intro w hS hh
  have hwl := wire_len a.name
  refine calls_of_T (m := 14) Tryz.func40 rfl rfl (by simp) hS ?_
  repeat (first | refine za rfl rfl ?_ | refine zb rfl ?_ | refine zc rfl ?_)
  refine TL.box (cs := akC a) rfl rfl rfl rfl (fun xb => ?_)
  repeat (first | refine za rfl rfl ?_ | refine zb rfl ?_ | refine zc rfl ?_)
  refine TS.start [(0, true), (1, true), (3, true), (4, true), (6, true), (7, true), (2, false), (5, false), (8, false), (9, false), (10, false), (11, true)] [(xb, .row (akC a) 52)] mixed (by kernel_rfl) (by kernel_rfl) (by decide) (by simp) ?_
  refine TS.p tbk rfl rfl ?_
  refine TS.y rfl rfl rfl rfl (Y.load szk rfl rfl (fun w h => h.cell (i := 0) rfl rfl)) ?_
  refine TS.p tbk rfl rfl ?_
  refine TS.y rfl rfl rfl rfl (Y.load szk rfl rfl (fun w h => h.cell (i := 0) rfl rfl)) ?_
  refine TS.p tbk rfl rfl ?_
  refine TS.y rfl rfl rfl rfl (Y.load szk rfl rfl (fun w h => h.cell (i := 0) rfl rfl)) ?_
  refine TS.call0 rfl Tryz.call94 rfl rfl rfl (wireC h a.name hn) (fun w' hA => vle hA hh) (fun _ => by simp) (fun y1 => TS.and fun o1 => ?_)
  refine TS.call0 rfl Tryz.call93 rfl rfl rfl (two h a.typ) (fun w' hA => vle hA hh) (fun _ => by simp) (fun y2 => TS.and fun o2 => ?_)
  refine TS.call0 rfl Tryz.call93 rfl rfl rfl (two h a.cls) (fun w' hA => vle hA hh) (fun _ => by simp) (fun y3 => TS.and fun o3 => ?_)
  refine TS.bs (us := [slV y1.1 (wire a.name).length y1.2.2, slV y2.1 (w2 a.typ).length y2.2.2, slV y3.1 (w2 a.cls).length y3.2.2]) rfl el252 rfl rfl (by intro v hv; simp at hv; rcases hv with rfl | rfl | rfl <;> rfl) (by simp) rfl rfl (fun _ => by simp) (fun sb => ?_)
  refine TS.join (ls := [wire a.name, w2 a.typ, w2 a.cls]) hh rfl rfl rfl rfl rfl (fun w' hA => .cons (SlB.in hA (i := 3) rfl o1) (.cons (SlB.in hA (i := 2) rfl o2) (.cons (SlB.in hA (i := 1) rfl o3) .nil))) (by simp [w2]; omega) (by simp) (by simp) (fun nb ncs ncap hno => ?_)
  refine TS.p tbk rfl rfl ?_
  refine TS.nil ?_
  repeat (first | refine za rfl rfl ?_ | refine zb rfl ?_ | refine zc rfl ?_)
  have e : [wire a.name, w2 a.typ, w2 a.cls].flatten = askB a := by simp [askB]
  rw [e] at hno
  exact T.ret Tryz.func40 rfl (fun w' hA => ⟨(nb, ncs, ncap), by rw [e]; rfl, hno, hA.sub (List.Sublist.cons_cons _ (List.nil_sublist _))⟩)
end X
end Go.Proofs.YtifnodoffgfpbaaGreatDoor
