/- Texts S8, S9. Contracts: bodies as bytes. -/
import Derived.Test.YtifnodoffgfpbaaGreatDoorPas
namespace Go.Proofs.YtifnodoffgfpbaaGreatDoor
open Go
namespace X
/-- What is asked of a record that is written. -/
structure Rc.Bd (r : Rc) : Prop where
  sm : r.Sm
  k1 : 1 ≤ r.kind
  k13 : r.kind ≤ 13
  data : r.data.length ≤ 2000
  txtl : (txtB r.texts).length ≤ 2000
  pairl : (pairB r.pairs).length ≤ 2000
def bodyB (r : Rc) : Bs := match r.kind.toNat with
  | 1 => fix 4 r.data
  | 2 => wire r.host
  | 3 => wire r.host
  | 4 => wire r.host ++ (wire r.box ++ (w4 r.n1 ++ (w4 r.n2 ++ (w4 r.n3 ++ (w4 r.n4 ++ w4 r.n5)))))
  | 5 => wire r.host
  | 6 => w2 r.n1 ++ wire r.host
  | 7 => txtB r.texts
  | 8 => fix 16 r.data
  | 9 => w2 r.n1 ++ (w2 r.n2 ++ (w2 r.n3 ++ wire r.host))
  | 10 => pairB r.pairs
  | 11 => w2 r.n1 ++ (wire r.host ++ pairB r.pairs)
  | 12 => w2 r.n1 ++ (wire r.host ++ pairB r.pairs)
  | _ => r.data
theorem bodyB_len {r : Rc} (hr : r.Bd) : (bodyB r).length ≤ 4300000 := by
  have h1 := wire_len r.host
  have h2 := wire_len r.box
  have h3 := hr.sm.host
  have h4 := hr.sm.box
  have h5 := hr.data
  have h6 := hr.txtl
  have h7 := hr.pairl
  unfold bodyB
  split <;> (try simp only [List.length_append, fix_length, w2_length, w4_length]) <;> omega
theorem el210 : Elem Tryz.prog 210 22 1 2 := elem_of (by kernel_rfl)
theorem bodyC (h : View) (r : Rc) (hr : r.Bd) (dv tv pv : Value) (hx : RcV h r dv tv pv) : BCt 46 [.agg (rcCells r dv tv pv).toArray] h (bodyB r) := by
  intro w hS hh
  have hb := bodyB_len hr
  obtain ⟨hsm, k1, k13, hdl, htl, hpl⟩ := hr
  obtain ⟨hnum, hnm, _, hho, hbo, htn, htx, hpn, hpd⟩ := hsm
  obtain ⟨_, _, _, _, q1, q2, q3, q4, q5, hkeys⟩ := hnum
  obtain ⟨hd, ht, hp⟩ := hx
  have hwl := wire_len r.host
  have hwb := wire_len r.box
  obtain ⟨ta, tc, hts, _⟩ := ht.shape
  subst hts
  obtain ⟨da, dc, hds, _⟩ := hd.shape
  subst hds
  obtain ⟨pa, pc, hps, _⟩ := hp.shape
  subst hps
  generalize hV1 : Value.slice da r.data.length dc = dv at hd
  generalize hV3 : Value.slice pa r.pairs.length pc = pv at hp
  have ddo : dv.oneCell' = true := by rw [← hV1]; rfl
  refine calls_of_T (m := 135) Tryz.func46 rfl rfl (by simp) hS ?_
  repeat (first | refine za rfl rfl ?_ | refine zb rfl ?_ | refine zc rfl ?_)
  refine TL.box (cs := rcCells r dv (.slice ta r.texts.length tc) pv) rfl rfl rfl rfl (fun xb => ?_)
  repeat (first | refine za rfl rfl ?_ | refine zb rfl ?_ | refine zc rfl ?_)
  refine TL.ld 0 szk rfl rfl rfl rfl rfl rfl ?_
  repeat (first | refine za rfl rfl ?_ | refine zb rfl ?_ | refine zc rfl ?_)
  refine TL.ld 0 szk rfl rfl rfl rfl rfl rfl ?_
  repeat (first | refine za rfl rfl ?_ | refine zb rfl ?_ | refine zc rfl ?_)
  refine TL.ld 0 szk rfl rfl rfl rfl rfl rfl ?_
  repeat (first | refine za rfl rfl ?_ | refine zb rfl ?_ | refine zc rfl ?_)
  rw [len_u16, len_u16, len_u16]
  refine TL.bs (vs := [.int .u16 ((r.n1 % 65536 : Nat) : Int), .int .u16 ((r.n2 % 65536 : Nat) : Int), .int .u16 ((r.n3 % 65536 : Nat) : Int)]) el210 rfl rfl (by intro v hv; simp at hv; rcases hv with rfl | rfl | rfl <;> rfl) (by simp) rfl rfl (fun nb => ?_)
  repeat (first | refine za rfl rfl ?_ | refine zb rfl ?_ | refine zc rfl ?_)
  rcases kinds13 k1 k13 with k | k | k | k | k | k | k | k | k | k | k | k | k
  · have hB : bodyB r = fix 4 r.data := by unfold bodyB; rw [k]; rfl
    refine TL.ld (v := .int .i64 1) 1 szk rfl rfl rfl (by rw [← k]; rfl) rfl rfl ?_
    repeat (first | refine za rfl rfl ?_ | refine zb rfl ?_ | refine zc rfl ?_)
    refine T.condT rfl rfl ?_
    repeat (first | refine za rfl rfl ?_ | refine zb rfl ?_ | refine zc rfl ?_)
    refine TL.ld 1 szk rfl rfl rfl rfl rfl rfl ?_
    refine TL.call0 Tryz.call100 rfl rfl rfl (fixed h r.data dv hd 4 (by decide)) (fun w' hA => vle hA hh) (fun y1 => TL.and fun o1 => ?_)
    repeat (first | refine za rfl rfl ?_ | refine zb rfl ?_ | refine zc rfl ?_)
    rw [← hB] at o1
    exact T.ret Tryz.func46 rfl (fun w' hA => ⟨(y1.1, y1.2.1, y1.2.2), by rw [hB]; rfl, o1, hA.sub (List.Sublist.cons_cons _ (List.nil_sublist _))⟩)
  · have hB : bodyB r = wire r.host := by unfold bodyB; rw [k]; rfl
    refine TL.ld (v := .int .i64 2) 1 szk rfl rfl rfl (by rw [← k]; rfl) rfl rfl ?_
    repeat (first | refine za rfl rfl ?_ | refine zb rfl ?_ | refine zc rfl ?_)
    refine T.condF rfl rfl ?_
    repeat (first | refine za rfl rfl ?_ | refine zb rfl ?_ | refine zc rfl ?_)
    refine T.condF rfl rfl ?_
    repeat (first | refine za rfl rfl ?_ | refine zb rfl ?_ | refine zc rfl ?_)
    refine T.condT rfl rfl ?_
    repeat (first | refine za rfl rfl ?_ | refine zb rfl ?_ | refine zc rfl ?_)
    refine T.condT rfl rfl ?_
    repeat (first | refine za rfl rfl ?_ | refine zb rfl ?_ | refine zc rfl ?_)
    refine TL.ld 1 szk rfl rfl rfl rfl rfl rfl ?_
    refine TL.call0 Tryz.call94 rfl rfl rfl (wireC h r.host hho) (fun w' hA => vle hA hh) (fun y1 => TL.and fun o1 => ?_)
    repeat (first | refine za rfl rfl ?_ | refine zb rfl ?_ | refine zc rfl ?_)
    rw [← hB] at o1
    exact T.ret Tryz.func46 rfl (fun w' hA => ⟨(y1.1, y1.2.1, y1.2.2), by rw [hB]; rfl, o1, hA.sub (List.Sublist.cons_cons _ (List.nil_sublist _))⟩)
  · have hB : bodyB r = wire r.host := by unfold bodyB; rw [k]; rfl
    refine TL.ld (v := .int .i64 3) 1 szk rfl rfl rfl (by rw [← k]; rfl) rfl rfl ?_
    repeat (first | refine za rfl rfl ?_ | refine zb rfl ?_ | refine zc rfl ?_)
    refine T.condF rfl rfl ?_
    repeat (first | refine za rfl rfl ?_ | refine zb rfl ?_ | refine zc rfl ?_)
    refine T.condF rfl rfl ?_
    repeat (first | refine za rfl rfl ?_ | refine zb rfl ?_ | refine zc rfl ?_)
    refine T.condF rfl rfl ?_
    repeat (first | refine za rfl rfl ?_ | refine zb rfl ?_ | refine zc rfl ?_)
    refine T.condT rfl rfl ?_
    repeat (first | refine za rfl rfl ?_ | refine zb rfl ?_ | refine zc rfl ?_)
    refine T.condT rfl rfl ?_
    repeat (first | refine za rfl rfl ?_ | refine zb rfl ?_ | refine zc rfl ?_)
    refine TL.ld 1 szk rfl rfl rfl rfl rfl rfl ?_
    refine TL.call0 Tryz.call94 rfl rfl rfl (wireC h r.host hho) (fun w' hA => vle hA hh) (fun y1 => TL.and fun o1 => ?_)
    repeat (first | refine za rfl rfl ?_ | refine zb rfl ?_ | refine zc rfl ?_)
    rw [← hB] at o1
    exact T.ret Tryz.func46 rfl (fun w' hA => ⟨(y1.1, y1.2.1, y1.2.2), by rw [hB]; rfl, o1, hA.sub (List.Sublist.cons_cons _ (List.nil_sublist _))⟩)
  · have hB : bodyB r = wire r.host ++ (wire r.box ++ (w4 r.n1 ++ (w4 r.n2 ++ (w4 r.n3 ++ (w4 r.n4 ++ w4 r.n5))))) := by unfold bodyB; rw [k]; rfl
    refine TL.ld (v := .int .i64 4) 1 szk rfl rfl rfl (by rw [← k]; rfl) rfl rfl ?_
    repeat (first | refine za rfl rfl ?_ | refine zb rfl ?_ | refine zc rfl ?_)
    refine T.condF rfl rfl ?_
    repeat (first | refine za rfl rfl ?_ | refine zb rfl ?_ | refine zc rfl ?_)
    refine T.condF rfl rfl ?_
    repeat (first | refine za rfl rfl ?_ | refine zb rfl ?_ | refine zc rfl ?_)
    refine T.condF rfl rfl ?_
    repeat (first | refine za rfl rfl ?_ | refine zb rfl ?_ | refine zc rfl ?_)
    refine T.condF rfl rfl ?_
    repeat (first | refine za rfl rfl ?_ | refine zb rfl ?_ | refine zc rfl ?_)
    refine T.condF rfl rfl ?_
    repeat (first | refine za rfl rfl ?_ | refine zb rfl ?_ | refine zc rfl ?_)
    refine T.condF rfl rfl ?_
    repeat (first | refine za rfl rfl ?_ | refine zb rfl ?_ | refine zc rfl ?_)
    refine T.condT rfl rfl ?_
    repeat (first | refine za rfl rfl ?_ | refine zb rfl ?_ | refine zc rfl ?_)
    refine TS.start [(0, true), (1, true), (3, true), (4, true), (6, true), (7, true), (9, true), (10, true), (12, true), (13, true), (15, true), (16, true), (18, true), (19, true), (2, false), (5, false), (8, false), (11, false), (14, false), (17, false), (20, false), (21, false), (22, false), (23, true)] [(nb, .row [.int .u16 ((r.n1 % 65536 : Nat) : Int), .int .u16 ((r.n2 % 65536 : Nat) : Int), .int .u16 ((r.n3 % 65536 : Nat) : Int)] 22), (xb, .row (rcCells r dv (.slice ta r.texts.length tc) pv) 58)] mixed (by kernel_rfl) (by kernel_rfl) (by decide) (by simp) ?_
    refine TS.p tbk rfl rfl ?_
    refine TS.y rfl rfl rfl rfl (Y.load szk rfl rfl (fun w h => h.cell (i := 1) rfl rfl)) ?_
    refine TS.p tbk rfl rfl ?_
    refine TS.y rfl rfl rfl rfl (Y.load szk rfl rfl (fun w h => h.cell (i := 1) rfl rfl)) ?_
    refine TS.p tbk rfl rfl ?_
    refine TS.y rfl rfl rfl rfl (Y.load szk rfl rfl (fun w h => h.cell (i := 1) rfl rfl)) ?_
    refine TS.p tbk rfl rfl ?_
    refine TS.y rfl rfl rfl rfl (Y.load szk rfl rfl (fun w h => h.cell (i := 1) rfl rfl)) ?_
    refine TS.p tbk rfl rfl ?_
    refine TS.y rfl rfl rfl rfl (Y.load szk rfl rfl (fun w h => h.cell (i := 1) rfl rfl)) ?_
    refine TS.p tbk rfl rfl ?_
    refine TS.y rfl rfl rfl rfl (Y.load szk rfl rfl (fun w h => h.cell (i := 1) rfl rfl)) ?_
    refine TS.p tbk rfl rfl ?_
    refine TS.y rfl rfl rfl rfl (Y.load szk rfl rfl (fun w h => h.cell (i := 1) rfl rfl)) ?_
    refine TS.call0 rfl Tryz.call94 rfl rfl rfl (wireC h r.host hho) (fun w' hA => vle hA hh) (fun _ => by simp) (fun y1 => TS.and fun o1 => ?_)
    refine TS.call0 rfl Tryz.call94 rfl rfl rfl (wireC h r.box hbo) (fun w' hA => vle hA hh) (fun _ => by simp) (fun y2 => TS.and fun o2 => ?_)
    refine TS.call0 rfl Tryz.call95 rfl rfl rfl (four h r.n1 q1) (fun w' hA => vle hA hh) (fun _ => by simp) (fun y3 => TS.and fun o3 => ?_)
    refine TS.call0 rfl Tryz.call95 rfl rfl rfl (four h r.n2 q2) (fun w' hA => vle hA hh) (fun _ => by simp) (fun y4 => TS.and fun o4 => ?_)
    refine TS.call0 rfl Tryz.call95 rfl rfl rfl (four h r.n3 q3) (fun w' hA => vle hA hh) (fun _ => by simp) (fun y5 => TS.and fun o5 => ?_)
    refine TS.call0 rfl Tryz.call95 rfl rfl rfl (four h r.n4 q4) (fun w' hA => vle hA hh) (fun _ => by simp) (fun y6 => TS.and fun o6 => ?_)
    refine TS.call0 rfl Tryz.call95 rfl rfl rfl (four h r.n5 q5) (fun w' hA => vle hA hh) (fun _ => by simp) (fun y7 => TS.and fun o7 => ?_)
    refine TS.bs (us := [slV y1.1 (wire r.host).length y1.2.2, slV y2.1 (wire r.box).length y2.2.2, slV y3.1 (w4 r.n1).length y3.2.2, slV y4.1 (w4 r.n2).length y4.2.2, slV y5.1 (w4 r.n3).length y5.2.2, slV y6.1 (w4 r.n4).length y6.2.2, slV y7.1 (w4 r.n5).length y7.2.2]) rfl el252 rfl rfl (by intro v hv; simp at hv; rcases hv with rfl | rfl | rfl | rfl | rfl | rfl | rfl <;> rfl) (by simp) rfl rfl (fun _ => by simp) (fun sb => ?_)
    refine TS.join (ls := [wire r.host, wire r.box, w4 r.n1, w4 r.n2, w4 r.n3, w4 r.n4, w4 r.n5]) hh rfl rfl rfl rfl rfl (fun w' hA => .cons (SlB.in hA (i := 7) rfl o1) (.cons (SlB.in hA (i := 6) rfl o2) (.cons (SlB.in hA (i := 5) rfl o3) (.cons (SlB.in hA (i := 4) rfl o4) (.cons (SlB.in hA (i := 3) rfl o5) (.cons (SlB.in hA (i := 2) rfl o6) (.cons (SlB.in hA (i := 1) rfl o7) .nil))))))) (by simp only [List.flatten_cons, List.flatten_nil, List.length_append, List.length_nil, w2_length, w4_length]; omega) (by simp) (by simp) (fun b cs cap ho => ?_)
    refine TS.p tbk rfl rfl ?_
    refine TS.nil ?_
    repeat (first | refine za rfl rfl ?_ | refine zb rfl ?_ | refine zc rfl ?_)
    rw [show [wire r.host, wire r.box, w4 r.n1, w4 r.n2, w4 r.n3, w4 r.n4, w4 r.n5].flatten = bodyB r by rw [hB]; simp only [List.flatten_cons, List.flatten_nil, List.append_nil]] at ho ⊢
    exact T.ret Tryz.func46 rfl (fun w' hA => ⟨(b, cs, cap), rfl, ho, hA.sub (List.Sublist.cons_cons _ (List.nil_sublist _))⟩)
  · have hB : bodyB r = wire r.host := by unfold bodyB; rw [k]; rfl
    refine TL.ld (v := .int .i64 5) 1 szk rfl rfl rfl (by rw [← k]; rfl) rfl rfl ?_
    repeat (first | refine za rfl rfl ?_ | refine zb rfl ?_ | refine zc rfl ?_)
    refine T.condF rfl rfl ?_
    repeat (first | refine za rfl rfl ?_ | refine zb rfl ?_ | refine zc rfl ?_)
    refine T.condF rfl rfl ?_
    repeat (first | refine za rfl rfl ?_ | refine zb rfl ?_ | refine zc rfl ?_)
    refine T.condF rfl rfl ?_
    repeat (first | refine za rfl rfl ?_ | refine zb rfl ?_ | refine zc rfl ?_)
    refine T.condF rfl rfl ?_
    repeat (first | refine za rfl rfl ?_ | refine zb rfl ?_ | refine zc rfl ?_)
    refine T.condT rfl rfl ?_
    repeat (first | refine za rfl rfl ?_ | refine zb rfl ?_ | refine zc rfl ?_)
    refine TL.ld 1 szk rfl rfl rfl rfl rfl rfl ?_
    refine TL.call0 Tryz.call94 rfl rfl rfl (wireC h r.host hho) (fun w' hA => vle hA hh) (fun y1 => TL.and fun o1 => ?_)
    repeat (first | refine za rfl rfl ?_ | refine zb rfl ?_ | refine zc rfl ?_)
    rw [← hB] at o1
    exact T.ret Tryz.func46 rfl (fun w' hA => ⟨(y1.1, y1.2.1, y1.2.2), by rw [hB]; rfl, o1, hA.sub (List.Sublist.cons_cons _ (List.nil_sublist _))⟩)
  · have hB : bodyB r = w2 r.n1 ++ wire r.host := by unfold bodyB; rw [k]; rfl
    refine TL.ld (v := .int .i64 6) 1 szk rfl rfl rfl (by rw [← k]; rfl) rfl rfl ?_
    repeat (first | refine za rfl rfl ?_ | refine zb rfl ?_ | refine zc rfl ?_)
    refine T.condF rfl rfl ?_
    repeat (first | refine za rfl rfl ?_ | refine zb rfl ?_ | refine zc rfl ?_)
    refine T.condF rfl rfl ?_
    repeat (first | refine za rfl rfl ?_ | refine zb rfl ?_ | refine zc rfl ?_)
    refine T.condF rfl rfl ?_
    repeat (first | refine za rfl rfl ?_ | refine zb rfl ?_ | refine zc rfl ?_)
    refine T.condF rfl rfl ?_
    repeat (first | refine za rfl rfl ?_ | refine zb rfl ?_ | refine zc rfl ?_)
    refine T.condF rfl rfl ?_
    repeat (first | refine za rfl rfl ?_ | refine zb rfl ?_ | refine zc rfl ?_)
    refine T.condT rfl rfl ?_
    repeat (first | refine za rfl rfl ?_ | refine zb rfl ?_ | refine zc rfl ?_)
    refine TS.start [(0, true), (1, true), (2, true), (4, true), (5, true), (3, false), (6, false), (7, false), (8, false), (9, true)] [(nb, .row [.int .u16 ((r.n1 % 65536 : Nat) : Int), .int .u16 ((r.n2 % 65536 : Nat) : Int), .int .u16 ((r.n3 % 65536 : Nat) : Int)] 22), (xb, .row (rcCells r dv (.slice ta r.texts.length tc) pv) 58)] mixed (by kernel_rfl) (by kernel_rfl) (by decide) (by simp) ?_
    refine TS.p tbk rfl rfl ?_
    refine TS.y rfl rfl rfl rfl (Y.ix (j := 0) tbk rfl rfl rfl rfl (by decide)) ?_
    refine TS.y rfl rfl rfl rfl (Y.load szk rfl rfl (fun w h => h.cell (i := 0) rfl rfl)) ?_
    refine TS.p tbk rfl rfl ?_
    refine TS.y rfl rfl rfl rfl (Y.load szk rfl rfl (fun w h => h.cell (i := 1) rfl rfl)) ?_
    refine TS.call0 rfl Tryz.call93 rfl rfl rfl (two_mod h r.n1) (fun w' hA => vle hA hh) (fun _ => by simp) (fun y1 => TS.and fun o1 => ?_)
    refine TS.call0 rfl Tryz.call94 rfl rfl rfl (wireC h r.host hho) (fun w' hA => vle hA hh) (fun _ => by simp) (fun y2 => TS.and fun o2 => ?_)
    refine TS.bs (us := [slV y1.1 (w2 r.n1).length y1.2.2, slV y2.1 (wire r.host).length y2.2.2]) rfl el252 rfl rfl (by intro v hv; simp at hv; rcases hv with rfl | rfl <;> rfl) (by simp) rfl rfl (fun _ => by simp) (fun sb => ?_)
    refine TS.join (ls := [w2 r.n1, wire r.host]) hh rfl rfl rfl rfl rfl (fun w' hA => .cons (SlB.in hA (i := 2) rfl o1) (.cons (SlB.in hA (i := 1) rfl o2) .nil)) (by simp only [List.flatten_cons, List.flatten_nil, List.length_append, List.length_nil, w2_length, w4_length]; omega) (by simp) (by simp) (fun b cs cap ho => ?_)
    refine TS.p tbk rfl rfl ?_
    refine TS.nil ?_
    repeat (first | refine za rfl rfl ?_ | refine zb rfl ?_ | refine zc rfl ?_)
    rw [show [w2 r.n1, wire r.host].flatten = bodyB r by rw [hB]; simp only [List.flatten_cons, List.flatten_nil, List.append_nil]] at ho ⊢
    exact T.ret Tryz.func46 rfl (fun w' hA => ⟨(b, cs, cap), rfl, ho, hA.sub (List.Sublist.cons_cons _ (List.nil_sublist _))⟩)
  · have hB : bodyB r = txtB r.texts := by unfold bodyB; rw [k]; rfl
    refine TL.ld (v := .int .i64 7) 1 szk rfl rfl rfl (by rw [← k]; rfl) rfl rfl ?_
    repeat (first | refine za rfl rfl ?_ | refine zb rfl ?_ | refine zc rfl ?_)
    refine T.condF rfl rfl ?_
    repeat (first | refine za rfl rfl ?_ | refine zb rfl ?_ | refine zc rfl ?_)
    refine T.condF rfl rfl ?_
    repeat (first | refine za rfl rfl ?_ | refine zb rfl ?_ | refine zc rfl ?_)
    refine T.condF rfl rfl ?_
    repeat (first | refine za rfl rfl ?_ | refine zb rfl ?_ | refine zc rfl ?_)
    refine T.condF rfl rfl ?_
    repeat (first | refine za rfl rfl ?_ | refine zb rfl ?_ | refine zc rfl ?_)
    refine T.condF rfl rfl ?_
    repeat (first | refine za rfl rfl ?_ | refine zb rfl ?_ | refine zc rfl ?_)
    refine T.condF rfl rfl ?_
    repeat (first | refine za rfl rfl ?_ | refine zb rfl ?_ | refine zc rfl ?_)
    refine T.condF rfl rfl ?_
    repeat (first | refine za rfl rfl ?_ | refine zb rfl ?_ | refine zc rfl ?_)
    refine T.condT rfl rfl ?_
    repeat (first | refine za rfl rfl ?_ | refine zb rfl ?_ | refine zc rfl ?_)
    refine TL.bs0 el37 rfl rfl (fun b1 => ?_)
    repeat (first | refine za rfl rfl ?_ | refine zb rfl ?_ | refine zc rfl ?_)
    refine TL.ld 2 szk rfl rfl rfl rfl rfl rfl ?_
    repeat (first | refine za rfl rfl ?_ | refine zb rfl ?_ | refine zc rfl ?_)
    refine T.loop (α := JX) (fun x => [(4, slV x.b (txtB (r.texts.take x.i)).length x.cap), (76, .slice ta r.texts.length tc), (77, .int .i64 (r.texts.length : Int)), (78, .int .i64 (x.i : Int))])
      (fun x w' => (x.i ≤ r.texts.length ∧ OwnB x.cs (txtB (r.texts.take x.i)) x.cap) ∧ St (keys []) w [(x.b, .row x.cs 5)] w')
      (fun x => r.texts.length - x.i) ⟨0, b1, [], 0⟩ ⟨rfl, rfl, rfl, rfl, trivial⟩ (fun w' hA => ⟨⟨Nat.zero_le _, own0 1⟩, hA.sub (List.Sublist.cons_cons _ (List.nil_sublist _))⟩) ?_
    rintro ⟨i, ob, ocs, ocap⟩ ih
    refine T.and fun ⟨hi, hown⟩ => ?_
    simp only at hi hown
    have hle := txtB_take_le r.texts i
    repeat (first | refine za rfl rfl ?_ | refine zb rfl ?_ | refine zc rfl ?_)
    by_cases hlt : i < r.texts.length
    · refine T.condT rfl (by simpa using hlt) ?_
      obtain ⟨s, hs⟩ := nth_lt hlt
      obtain ⟨b, o, cap', cs, hv, _, _, hrs, hcs⟩ := ht.at hs
      injection hv with hv1 _ hv3
      subst hv1 hv3 hcs
      have hle2 := txtB_take_le r.texts (i + 1)
      rw [txtB_take hs] at hle2
      simp only [List.length_append, List.length_cons] at hle2
      repeat (first | refine za rfl rfl ?_ | refine zb rfl ?_ | refine zc rfl ?_)
      refine TL.ix (j := i) tbk rfl rfl rfl rfl rfl rfl hlt ?_
      refine TL.ldR (hrs.mono hh) szk rfl rfl rfl rfl ?_
      repeat (first | refine za rfl rfl ?_ | refine zb rfl ?_ | refine zc rfl ?_)
      have e1 := byte_of s.length (s.length : Int) (by omega)
      refine TL.bs (vs := [bv (UInt8.ofNat s.length)]) el37 (by rw [← e1]; rfl) rfl (by intro v hv; simp at hv; rcases hv with rfl; rfl) (by simp) rfl rfl (fun eb => ?_)
      refine TL.append (len := (txtB (r.texts.take i)).length) (m := 1) (news := [UInt8.ofNat s.length].map bv) 1 el37 sl37 rfl rfl rfl rfl rfl hown (src_block (i := 0) (E := [UInt8.ofNat s.length]) rfl rfl) (by omega) (by omega) (fun ob2 oc2 ocap2 ho2 => ?_)
      repeat (first | refine za rfl rfl ?_ | refine zb rfl ?_ | refine zc rfl ?_)
      refine TL.append (len := (txtB (r.texts.take i)).length + 1) 1 el37 sl9 rfl rfl rfl rfl rfl ho2 (Src.str (s := s)) (by omega) (by omega) (fun ob3 oc3 ocap3 ho3 => ?_)
      repeat (first | refine za rfl rfl ?_ | refine zb rfl ?_ | refine zc rfl ?_)
      rw [add1_i64 (a := i) (by omega)]
      have e := txtB_take hs
      exact T.again ih ⟨i + 1, ob3, oc3, ocap3⟩ (by simp; omega) ⟨by rw [e, List.length_append, List.length_cons, Nat.add_comm s.length 1, ← Nat.add_assoc]; rfl, rfl, rfl, rfl, trivial⟩ (fun w' hA => ⟨⟨hlt, by simp only; rw [e]; exact ho3.cast (by simp; omega) (by simp)⟩, hA.sub (List.Sublist.cons _ (List.Sublist.refl _))⟩)
    refine T.condF rfl (by simpa using hlt) ?_
    have hiq : i = r.texts.length := by omega
    subst hiq
    rw [List.take_length, ← hB] at hown
    repeat (first | refine za rfl rfl ?_ | refine zb rfl ?_ | refine zc rfl ?_)
    exact T.ret Tryz.func46 rfl (fun w' hA => ⟨(ob, ocs, ocap), by rw [List.take_length, hB]; rfl, hown, hA⟩)
  · have hB : bodyB r = fix 16 r.data := by unfold bodyB; rw [k]; rfl
    refine TL.ld (v := .int .i64 8) 1 szk rfl rfl rfl (by rw [← k]; rfl) rfl rfl ?_
    repeat (first | refine za rfl rfl ?_ | refine zb rfl ?_ | refine zc rfl ?_)
    refine T.condF rfl rfl ?_
    repeat (first | refine za rfl rfl ?_ | refine zb rfl ?_ | refine zc rfl ?_)
    refine T.condT rfl rfl ?_
    repeat (first | refine za rfl rfl ?_ | refine zb rfl ?_ | refine zc rfl ?_)
    refine TL.ld 1 szk rfl rfl rfl rfl rfl rfl ?_
    refine TL.call0 Tryz.call100 rfl rfl rfl (fixed h r.data dv hd 16 (by decide)) (fun w' hA => vle hA hh) (fun y1 => TL.and fun o1 => ?_)
    repeat (first | refine za rfl rfl ?_ | refine zb rfl ?_ | refine zc rfl ?_)
    rw [← hB] at o1
    exact T.ret Tryz.func46 rfl (fun w' hA => ⟨(y1.1, y1.2.1, y1.2.2), by rw [hB]; rfl, o1, hA.sub (List.Sublist.cons_cons _ (List.nil_sublist _))⟩)
  · have hB : bodyB r = w2 r.n1 ++ (w2 r.n2 ++ (w2 r.n3 ++ wire r.host)) := by unfold bodyB; rw [k]; rfl
    refine TL.ld (v := .int .i64 9) 1 szk rfl rfl rfl (by rw [← k]; rfl) rfl rfl ?_
    repeat (first | refine za rfl rfl ?_ | refine zb rfl ?_ | refine zc rfl ?_)
    refine T.condF rfl rfl ?_
    repeat (first | refine za rfl rfl ?_ | refine zb rfl ?_ | refine zc rfl ?_)
    refine T.condF rfl rfl ?_
    repeat (first | refine za rfl rfl ?_ | refine zb rfl ?_ | refine zc rfl ?_)
    refine T.condF rfl rfl ?_
    repeat (first | refine za rfl rfl ?_ | refine zb rfl ?_ | refine zc rfl ?_)
    refine T.condF rfl rfl ?_
    repeat (first | refine za rfl rfl ?_ | refine zb rfl ?_ | refine zc rfl ?_)
    refine T.condF rfl rfl ?_
    repeat (first | refine za rfl rfl ?_ | refine zb rfl ?_ | refine zc rfl ?_)
    refine T.condF rfl rfl ?_
    repeat (first | refine za rfl rfl ?_ | refine zb rfl ?_ | refine zc rfl ?_)
    refine T.condF rfl rfl ?_
    repeat (first | refine za rfl rfl ?_ | refine zb rfl ?_ | refine zc rfl ?_)
    refine T.condF rfl rfl ?_
    repeat (first | refine za rfl rfl ?_ | refine zb rfl ?_ | refine zc rfl ?_)
    refine T.condT rfl rfl ?_
    repeat (first | refine za rfl rfl ?_ | refine zb rfl ?_ | refine zc rfl ?_)
    refine TS.start [(0, true), (1, true), (2, true), (4, true), (5, true), (6, true), (8, true), (9, true), (10, true), (12, true), (13, true), (3, false), (7, false), (11, false), (14, false), (15, false), (16, false), (17, true)] [(nb, .row [.int .u16 ((r.n1 % 65536 : Nat) : Int), .int .u16 ((r.n2 % 65536 : Nat) : Int), .int .u16 ((r.n3 % 65536 : Nat) : Int)] 22), (xb, .row (rcCells r dv (.slice ta r.texts.length tc) pv) 58)] mixed (by kernel_rfl) (by kernel_rfl) (by decide) (by simp) ?_
    refine TS.p tbk rfl rfl ?_
    refine TS.y rfl rfl rfl rfl (Y.ix (j := 0) tbk rfl rfl rfl rfl (by decide)) ?_
    refine TS.y rfl rfl rfl rfl (Y.load szk rfl rfl (fun w h => h.cell (i := 0) rfl rfl)) ?_
    refine TS.p tbk rfl rfl ?_
    refine TS.y rfl rfl rfl rfl (Y.ix (j := 1) tbk rfl rfl rfl rfl (by decide)) ?_
    refine TS.y rfl rfl rfl rfl (Y.load szk rfl rfl (fun w h => h.cell (i := 0) rfl rfl)) ?_
    refine TS.p tbk rfl rfl ?_
    refine TS.y rfl rfl rfl rfl (Y.ix (j := 2) tbk rfl rfl rfl rfl (by decide)) ?_
    refine TS.y rfl rfl rfl rfl (Y.load szk rfl rfl (fun w h => h.cell (i := 0) rfl rfl)) ?_
    refine TS.p tbk rfl rfl ?_
    refine TS.y rfl rfl rfl rfl (Y.load szk rfl rfl (fun w h => h.cell (i := 1) rfl rfl)) ?_
    refine TS.call0 rfl Tryz.call93 rfl rfl rfl (two_mod h r.n1) (fun w' hA => vle hA hh) (fun _ => by simp) (fun y1 => TS.and fun o1 => ?_)
    refine TS.call0 rfl Tryz.call93 rfl rfl rfl (two_mod h r.n2) (fun w' hA => vle hA hh) (fun _ => by simp) (fun y2 => TS.and fun o2 => ?_)
    refine TS.call0 rfl Tryz.call93 rfl rfl rfl (two_mod h r.n3) (fun w' hA => vle hA hh) (fun _ => by simp) (fun y3 => TS.and fun o3 => ?_)
    refine TS.call0 rfl Tryz.call94 rfl rfl rfl (wireC h r.host hho) (fun w' hA => vle hA hh) (fun _ => by simp) (fun y4 => TS.and fun o4 => ?_)
    refine TS.bs (us := [slV y1.1 (w2 r.n1).length y1.2.2, slV y2.1 (w2 r.n2).length y2.2.2, slV y3.1 (w2 r.n3).length y3.2.2, slV y4.1 (wire r.host).length y4.2.2]) rfl el252 rfl rfl (by intro v hv; simp at hv; rcases hv with rfl | rfl | rfl | rfl <;> rfl) (by simp) rfl rfl (fun _ => by simp) (fun sb => ?_)
    refine TS.join (ls := [w2 r.n1, w2 r.n2, w2 r.n3, wire r.host]) hh rfl rfl rfl rfl rfl (fun w' hA => .cons (SlB.in hA (i := 4) rfl o1) (.cons (SlB.in hA (i := 3) rfl o2) (.cons (SlB.in hA (i := 2) rfl o3) (.cons (SlB.in hA (i := 1) rfl o4) .nil)))) (by simp only [List.flatten_cons, List.flatten_nil, List.length_append, List.length_nil, w2_length, w4_length]; omega) (by simp) (by simp) (fun b cs cap ho => ?_)
    refine TS.p tbk rfl rfl ?_
    refine TS.nil ?_
    repeat (first | refine za rfl rfl ?_ | refine zb rfl ?_ | refine zc rfl ?_)
    rw [show [w2 r.n1, w2 r.n2, w2 r.n3, wire r.host].flatten = bodyB r by rw [hB]; simp only [List.flatten_cons, List.flatten_nil, List.append_nil]] at ho ⊢
    exact T.ret Tryz.func46 rfl (fun w' hA => ⟨(b, cs, cap), rfl, ho, hA.sub (List.Sublist.cons_cons _ (List.nil_sublist _))⟩)
  · have hB : bodyB r = pairB r.pairs := by unfold bodyB; rw [k]; rfl
    refine TL.ld (v := .int .i64 10) 1 szk rfl rfl rfl (by rw [← k]; rfl) rfl rfl ?_
    repeat (first | refine za rfl rfl ?_ | refine zb rfl ?_ | refine zc rfl ?_)
    refine T.condF rfl rfl ?_
    repeat (first | refine za rfl rfl ?_ | refine zb rfl ?_ | refine zc rfl ?_)
    refine T.condF rfl rfl ?_
    repeat (first | refine za rfl rfl ?_ | refine zb rfl ?_ | refine zc rfl ?_)
    refine T.condF rfl rfl ?_
    repeat (first | refine za rfl rfl ?_ | refine zb rfl ?_ | refine zc rfl ?_)
    refine T.condF rfl rfl ?_
    repeat (first | refine za rfl rfl ?_ | refine zb rfl ?_ | refine zc rfl ?_)
    refine T.condF rfl rfl ?_
    repeat (first | refine za rfl rfl ?_ | refine zb rfl ?_ | refine zc rfl ?_)
    refine T.condF rfl rfl ?_
    repeat (first | refine za rfl rfl ?_ | refine zb rfl ?_ | refine zc rfl ?_)
    refine T.condF rfl rfl ?_
    repeat (first | refine za rfl rfl ?_ | refine zb rfl ?_ | refine zc rfl ?_)
    refine T.condF rfl rfl ?_
    repeat (first | refine za rfl rfl ?_ | refine zb rfl ?_ | refine zc rfl ?_)
    refine T.condF rfl rfl ?_
    repeat (first | refine za rfl rfl ?_ | refine zb rfl ?_ | refine zc rfl ?_)
    refine T.condT rfl rfl ?_
    repeat (first | refine za rfl rfl ?_ | refine zb rfl ?_ | refine zc rfl ?_)
    refine TL.ld 1 szk rfl rfl rfl rfl rfl rfl ?_
    refine TL.call0 Tryz.call101 rfl rfl rfl (pairsC h r.pairs hkeys hpl pv hp) (fun w' hA => vle hA hh) (fun y1 => TL.and fun o1 => ?_)
    repeat (first | refine za rfl rfl ?_ | refine zb rfl ?_ | refine zc rfl ?_)
    rw [← hB] at o1
    exact T.ret Tryz.func46 rfl (fun w' hA => ⟨(y1.1, y1.2.1, y1.2.2), by rw [hB]; rfl, o1, hA.sub (List.Sublist.cons_cons _ (List.nil_sublist _))⟩)
  · have hB : bodyB r = w2 r.n1 ++ (wire r.host ++ pairB r.pairs) := by unfold bodyB; rw [k]; rfl
    refine TL.ld (v := .int .i64 11) 1 szk rfl rfl rfl (by rw [← k]; rfl) rfl rfl ?_
    repeat (first | refine za rfl rfl ?_ | refine zb rfl ?_ | refine zc rfl ?_)
    refine T.condF rfl rfl ?_
    repeat (first | refine za rfl rfl ?_ | refine zb rfl ?_ | refine zc rfl ?_)
    refine T.condF rfl rfl ?_
    repeat (first | refine za rfl rfl ?_ | refine zb rfl ?_ | refine zc rfl ?_)
    refine T.condF rfl rfl ?_
    repeat (first | refine za rfl rfl ?_ | refine zb rfl ?_ | refine zc rfl ?_)
    refine T.condF rfl rfl ?_
    repeat (first | refine za rfl rfl ?_ | refine zb rfl ?_ | refine zc rfl ?_)
    refine T.condF rfl rfl ?_
    repeat (first | refine za rfl rfl ?_ | refine zb rfl ?_ | refine zc rfl ?_)
    refine T.condF rfl rfl ?_
    repeat (first | refine za rfl rfl ?_ | refine zb rfl ?_ | refine zc rfl ?_)
    refine T.condF rfl rfl ?_
    repeat (first | refine za rfl rfl ?_ | refine zb rfl ?_ | refine zc rfl ?_)
    refine T.condF rfl rfl ?_
    repeat (first | refine za rfl rfl ?_ | refine zb rfl ?_ | refine zc rfl ?_)
    refine T.condF rfl rfl ?_
    repeat (first | refine za rfl rfl ?_ | refine zb rfl ?_ | refine zc rfl ?_)
    refine T.condF rfl rfl ?_
    repeat (first | refine za rfl rfl ?_ | refine zb rfl ?_ | refine zc rfl ?_)
    refine T.condT rfl rfl ?_
    repeat (first | refine za rfl rfl ?_ | refine zb rfl ?_ | refine zc rfl ?_)
    refine T.condT rfl rfl ?_
    repeat (first | refine za rfl rfl ?_ | refine zb rfl ?_ | refine zc rfl ?_)
    refine TS.start [(0, true), (1, true), (2, true), (4, true), (5, true), (7, true), (8, true), (3, false), (6, false), (9, false), (10, false), (11, false), (12, true)] [(nb, .row [.int .u16 ((r.n1 % 65536 : Nat) : Int), .int .u16 ((r.n2 % 65536 : Nat) : Int), .int .u16 ((r.n3 % 65536 : Nat) : Int)] 22), (xb, .row (rcCells r dv (.slice ta r.texts.length tc) pv) 58)] mixed (by kernel_rfl) (by kernel_rfl) (by decide) (by simp) ?_
    refine TS.p tbk rfl rfl ?_
    refine TS.y rfl rfl rfl rfl (Y.ix (j := 0) tbk rfl rfl rfl rfl (by decide)) ?_
    refine TS.y rfl rfl rfl rfl (Y.load szk rfl rfl (fun w h => h.cell (i := 0) rfl rfl)) ?_
    refine TS.p tbk rfl rfl ?_
    refine TS.y rfl rfl rfl rfl (Y.load szk rfl rfl (fun w h => h.cell (i := 1) rfl rfl)) ?_
    refine TS.p tbk rfl rfl ?_
    refine TS.y rfl rfl rfl rfl (Y.load szk rfl rfl (fun w h => h.cell (i := 1) rfl rfl)) ?_
    refine TS.call0 rfl Tryz.call93 rfl rfl rfl (two_mod h r.n1) (fun w' hA => vle hA hh) (fun _ => by simp) (fun y1 => TS.and fun o1 => ?_)
    refine TS.call0 rfl Tryz.call94 rfl rfl rfl (wireC h r.host hho) (fun w' hA => vle hA hh) (fun _ => by simp) (fun y2 => TS.and fun o2 => ?_)
    refine TS.call0 rfl Tryz.call101 rfl rfl rfl (pairsC h r.pairs hkeys hpl pv hp) (fun w' hA => vle hA hh) (fun _ => by simp) (fun y3 => TS.and fun o3 => ?_)
    refine TS.bs (us := [slV y1.1 (w2 r.n1).length y1.2.2, slV y2.1 (wire r.host).length y2.2.2, slV y3.1 (pairB r.pairs).length y3.2.2]) rfl el252 rfl rfl (by intro v hv; simp at hv; rcases hv with rfl | rfl | rfl <;> rfl) (by simp) rfl rfl (fun _ => by simp) (fun sb => ?_)
    refine TS.join (ls := [w2 r.n1, wire r.host, pairB r.pairs]) hh rfl rfl rfl rfl rfl (fun w' hA => .cons (SlB.in hA (i := 3) rfl o1) (.cons (SlB.in hA (i := 2) rfl o2) (.cons (SlB.in hA (i := 1) rfl o3) .nil))) (by simp only [List.flatten_cons, List.flatten_nil, List.length_append, List.length_nil, w2_length, w4_length]; omega) (by simp) (by simp) (fun b cs cap ho => ?_)
    refine TS.p tbk rfl rfl ?_
    refine TS.nil ?_
    repeat (first | refine za rfl rfl ?_ | refine zb rfl ?_ | refine zc rfl ?_)
    rw [show [w2 r.n1, wire r.host, pairB r.pairs].flatten = bodyB r by rw [hB]; simp only [List.flatten_cons, List.flatten_nil, List.append_nil]] at ho ⊢
    exact T.ret Tryz.func46 rfl (fun w' hA => ⟨(b, cs, cap), rfl, ho, hA.sub (List.Sublist.cons_cons _ (List.nil_sublist _))⟩)
  · have hB : bodyB r = w2 r.n1 ++ (wire r.host ++ pairB r.pairs) := by unfold bodyB; rw [k]; rfl
    refine TL.ld (v := .int .i64 12) 1 szk rfl rfl rfl (by rw [← k]; rfl) rfl rfl ?_
    repeat (first | refine za rfl rfl ?_ | refine zb rfl ?_ | refine zc rfl ?_)
    refine T.condF rfl rfl ?_
    repeat (first | refine za rfl rfl ?_ | refine zb rfl ?_ | refine zc rfl ?_)
    refine T.condF rfl rfl ?_
    repeat (first | refine za rfl rfl ?_ | refine zb rfl ?_ | refine zc rfl ?_)
    refine T.condF rfl rfl ?_
    repeat (first | refine za rfl rfl ?_ | refine zb rfl ?_ | refine zc rfl ?_)
    refine T.condF rfl rfl ?_
    repeat (first | refine za rfl rfl ?_ | refine zb rfl ?_ | refine zc rfl ?_)
    refine T.condF rfl rfl ?_
    repeat (first | refine za rfl rfl ?_ | refine zb rfl ?_ | refine zc rfl ?_)
    refine T.condF rfl rfl ?_
    repeat (first | refine za rfl rfl ?_ | refine zb rfl ?_ | refine zc rfl ?_)
    refine T.condF rfl rfl ?_
    repeat (first | refine za rfl rfl ?_ | refine zb rfl ?_ | refine zc rfl ?_)
    refine T.condF rfl rfl ?_
    repeat (first | refine za rfl rfl ?_ | refine zb rfl ?_ | refine zc rfl ?_)
    refine T.condF rfl rfl ?_
    repeat (first | refine za rfl rfl ?_ | refine zb rfl ?_ | refine zc rfl ?_)
    refine T.condF rfl rfl ?_
    repeat (first | refine za rfl rfl ?_ | refine zb rfl ?_ | refine zc rfl ?_)
    refine T.condF rfl rfl ?_
    repeat (first | refine za rfl rfl ?_ | refine zb rfl ?_ | refine zc rfl ?_)
    refine T.condT rfl rfl ?_
    repeat (first | refine za rfl rfl ?_ | refine zb rfl ?_ | refine zc rfl ?_)
    refine TS.start [(0, true), (1, true), (2, true), (4, true), (5, true), (7, true), (8, true), (3, false), (6, false), (9, false), (10, false), (11, false), (12, true)] [(nb, .row [.int .u16 ((r.n1 % 65536 : Nat) : Int), .int .u16 ((r.n2 % 65536 : Nat) : Int), .int .u16 ((r.n3 % 65536 : Nat) : Int)] 22), (xb, .row (rcCells r dv (.slice ta r.texts.length tc) pv) 58)] mixed (by kernel_rfl) (by kernel_rfl) (by decide) (by simp) ?_
    refine TS.p tbk rfl rfl ?_
    refine TS.y rfl rfl rfl rfl (Y.ix (j := 0) tbk rfl rfl rfl rfl (by decide)) ?_
    refine TS.y rfl rfl rfl rfl (Y.load szk rfl rfl (fun w h => h.cell (i := 0) rfl rfl)) ?_
    refine TS.p tbk rfl rfl ?_
    refine TS.y rfl rfl rfl rfl (Y.load szk rfl rfl (fun w h => h.cell (i := 1) rfl rfl)) ?_
    refine TS.p tbk rfl rfl ?_
    refine TS.y rfl rfl rfl rfl (Y.load szk rfl rfl (fun w h => h.cell (i := 1) rfl rfl)) ?_
    refine TS.call0 rfl Tryz.call93 rfl rfl rfl (two_mod h r.n1) (fun w' hA => vle hA hh) (fun _ => by simp) (fun y1 => TS.and fun o1 => ?_)
    refine TS.call0 rfl Tryz.call94 rfl rfl rfl (wireC h r.host hho) (fun w' hA => vle hA hh) (fun _ => by simp) (fun y2 => TS.and fun o2 => ?_)
    refine TS.call0 rfl Tryz.call101 rfl rfl rfl (pairsC h r.pairs hkeys hpl pv hp) (fun w' hA => vle hA hh) (fun _ => by simp) (fun y3 => TS.and fun o3 => ?_)
    refine TS.bs (us := [slV y1.1 (w2 r.n1).length y1.2.2, slV y2.1 (wire r.host).length y2.2.2, slV y3.1 (pairB r.pairs).length y3.2.2]) rfl el252 rfl rfl (by intro v hv; simp at hv; rcases hv with rfl | rfl | rfl <;> rfl) (by simp) rfl rfl (fun _ => by simp) (fun sb => ?_)
    refine TS.join (ls := [w2 r.n1, wire r.host, pairB r.pairs]) hh rfl rfl rfl rfl rfl (fun w' hA => .cons (SlB.in hA (i := 3) rfl o1) (.cons (SlB.in hA (i := 2) rfl o2) (.cons (SlB.in hA (i := 1) rfl o3) .nil))) (by simp only [List.flatten_cons, List.flatten_nil, List.length_append, List.length_nil, w2_length, w4_length]; omega) (by simp) (by simp) (fun b cs cap ho => ?_)
    refine TS.p tbk rfl rfl ?_
    refine TS.nil ?_
    repeat (first | refine za rfl rfl ?_ | refine zb rfl ?_ | refine zc rfl ?_)
    rw [show [w2 r.n1, wire r.host, pairB r.pairs].flatten = bodyB r by rw [hB]; simp only [List.flatten_cons, List.flatten_nil, List.append_nil]] at ho ⊢
    exact T.ret Tryz.func46 rfl (fun w' hA => ⟨(b, cs, cap), rfl, ho, hA.sub (List.Sublist.cons_cons _ (List.nil_sublist _))⟩)
  · have hB : bodyB r = r.data := by unfold bodyB; rw [k]; rfl
    refine TL.ld (v := .int .i64 13) 1 szk rfl rfl rfl (by rw [← k]; rfl) rfl rfl ?_
    repeat (first | refine za rfl rfl ?_ | refine zb rfl ?_ | refine zc rfl ?_)
    refine T.condF rfl rfl ?_
    repeat (first | refine za rfl rfl ?_ | refine zb rfl ?_ | refine zc rfl ?_)
    refine T.condF rfl rfl ?_
    repeat (first | refine za rfl rfl ?_ | refine zb rfl ?_ | refine zc rfl ?_)
    refine T.condF rfl rfl ?_
    repeat (first | refine za rfl rfl ?_ | refine zb rfl ?_ | refine zc rfl ?_)
    refine T.condF rfl rfl ?_
    repeat (first | refine za rfl rfl ?_ | refine zb rfl ?_ | refine zc rfl ?_)
    refine T.condF rfl rfl ?_
    repeat (first | refine za rfl rfl ?_ | refine zb rfl ?_ | refine zc rfl ?_)
    refine T.condF rfl rfl ?_
    repeat (first | refine za rfl rfl ?_ | refine zb rfl ?_ | refine zc rfl ?_)
    refine T.condF rfl rfl ?_
    repeat (first | refine za rfl rfl ?_ | refine zb rfl ?_ | refine zc rfl ?_)
    refine T.condF rfl rfl ?_
    repeat (first | refine za rfl rfl ?_ | refine zb rfl ?_ | refine zc rfl ?_)
    refine T.condF rfl rfl ?_
    repeat (first | refine za rfl rfl ?_ | refine zb rfl ?_ | refine zc rfl ?_)
    refine T.condF rfl rfl ?_
    repeat (first | refine za rfl rfl ?_ | refine zb rfl ?_ | refine zc rfl ?_)
    refine T.condF rfl rfl ?_
    repeat (first | refine za rfl rfl ?_ | refine zb rfl ?_ | refine zc rfl ?_)
    refine T.condF rfl rfl ?_
    repeat (first | refine za rfl rfl ?_ | refine zb rfl ?_ | refine zc rfl ?_)
    refine TL.ld 1 szk rfl rfl rfl rfl rfl rfl ?_
    refine TL.bs (vs := [dv]) el252 rfl rfl (by intro v hv; simp at hv; subst hv; exact ddo) (by simp) rfl rfl (fun sb => ?_)
    refine TL.join (ls := [r.data]) hh rfl rfl rfl rfl (fun w' hA => .cons (hd.mono (ov_right hA hh)) .nil) (by simp; omega) (by simp) (fun b cs cap ho => ?_)
    repeat (first | refine za rfl rfl ?_ | refine zb rfl ?_ | refine zc rfl ?_)
    rw [show [r.data].flatten = bodyB r by rw [hB]; simp only [List.flatten_cons, List.flatten_nil, List.append_nil]] at ho ⊢
    exact T.ret Tryz.func46 rfl (fun w' hA => ⟨(b, cs, cap), rfl, ho, hA.sub (List.Sublist.cons_cons _ (List.nil_sublist _))⟩)
end X
namespace X
section
variable {P : Program} {f : FuncId} {n : Nat} {R : Ending → World → Prop} {k : List Item} {L : Fr} {A : World → Prop}
theorem T.merge2 {α : Type} {i j : Item} (Lx : α → Fr) (Ax : α → World → Prop) (hk : ∀ x, T P f n R k (Lx x) (Ax x)) (h : (∀ x, T P f n R k (Lx x) (Ax x)) → T P f n R (i :: j :: k) L A) : T P f n R (i :: j :: k) L A := h hk
end
section
variable {P : Program} {f : FuncId} {n : Nat} {R : Ending → World → Prop} {k : List Item} {L : Fr} {A : World → Prop} {ops : Array Oper} {rest : List Oper}
/-- An operation whose guard was not carried out is not carried out. -/
theorem TL.un {o oj : Oper} {d e j : Nat} {t : Bool} (hg : o.guard = some (j, t)) (hj : nth ops.toList j = some oj) (he : oj.dst = some e) (hu : look L e = some undef) (hd : o.dst = some d) (hn : d.blt n = true) (hk : TL P f n R k ops rest ((d, undef) :: L) A) : TL P f n R k ops (o :: rest) L A := by
  refine ⟨fun a w ha hA => ?_⟩
  have hw : Region.wanted o (yielded ops a.tmps) = false := by
    have hj' : ops[j]? = some oj := by rw [nth_eq] at hj; simpa using hj
    have hv := ha.2.2 _ _ hu
    have hy : yielded ops a.tmps j = none := by
      simp only [yielded, hj', Option.bind_some, he]
      cases ht : a.tmps[e]? with
      | none => rfl
      | some v =>
        rw [Array.getD_eq_getD_getElem?, ht] at hv
        simp only [Option.getD_some] at hv
        subst hv; rfl
    unfold Region.wanted
    rw [hg]
    simp only [hy]; rfl
  unfold wpList
  rw [hw]
  simp only [hd]
  exact hk.go _ _ (ha.put (by simpa using hn)) hA
end
/-- What the reference asks of a body. -/
def BoOk (r : Rc) : Prop := (r.kind = 7 → r.texts ≠ [] ∧ ∀ s ∈ r.texts, s.length ≤ 255) ∧ (r.kind = 11 ∨ r.kind = 12 → ∀ i p, 0 < i → nth r.pairs i = some p → 0 < p.key) ∧ HoOk r
theorem bodyOkC (h : View) (r : Rc) (hr : r.Bd) (dv tv pv : Value) (hx : RcV h r dv tv pv) : GCt 45 [.agg (rcCells r dv tv pv).toArray] h (BoOk r) := by
  intro w hS hh
  obtain ⟨hd, ht, hp⟩ := hx
  have htn := hr.sm.textn
  obtain ⟨ta, tc, hts, _⟩ := ht.shape
  subst hts
  refine calls_of_T (m := 54) Tryz.func45 rfl rfl (by simp) hS ?_
  repeat (first | refine za rfl rfl ?_ | refine zb rfl ?_ | refine zc rfl ?_)
  refine TL.box (cs := rcCells r dv (.slice ta r.texts.length tc) pv) rfl rfl rfl rfl (fun xb => ?_)
  repeat (first | refine za rfl rfl ?_ | refine zb rfl ?_ | refine zc rfl ?_)
  refine TL.ld 0 szk rfl rfl rfl rfl rfl rfl ?_
  repeat (first | refine za rfl rfl ?_ | refine zb rfl ?_ | refine zc rfl ?_)
  refine T.loop (α := Nat) (fun i => [(1, ptr xb 0), (6, .slice ta r.texts.length tc), (7, .int .i64 (r.texts.length : Int)), (8, .int .i64 (i : Int))])
    (fun i w' => (i ≤ r.texts.length ∧ (r.kind = 7 → ∀ j s, j < i → nth r.texts j = some s → s.length ≤ 255)) ∧ St (keys []) w [(xb, .row (rcCells r dv (.slice ta r.texts.length tc) pv) 58)] w')
    (fun i => r.texts.length - i) 0 ⟨rfl, rfl, rfl, rfl, trivial⟩ (fun w' hA => ⟨⟨Nat.zero_le _, fun _ j s hj => absurd hj (Nat.not_lt_zero _)⟩, hA⟩) ?_
  intro i ih
  refine T.and fun ⟨hi, hall⟩ => ?_
  repeat (first | refine za rfl rfl ?_ | refine zb rfl ?_ | refine zc rfl ?_)
  by_cases hlt : i < r.texts.length
  · refine T.condT rfl (by simpa using hlt) ?_
    obtain ⟨s, hs⟩ := nth_lt hlt
    obtain ⟨b, o, cap', cs, hv, _, _, hrs, hcs⟩ := ht.at hs
    injection hv with hv1 _ hv3
    subst hv1 hv3 hcs
    repeat (first | refine za rfl rfl ?_ | refine zb rfl ?_ | refine zc rfl ?_)
    refine TL.ix (j := i) tbk rfl rfl rfl rfl rfl rfl hlt ?_
    refine TL.ldR (hrs.mono hh) szk rfl rfl rfl rfl ?_
    repeat (first | refine za rfl rfl ?_ | refine zb rfl ?_ | refine zc rfl ?_)
    refine TL.ld 0 szk rfl rfl rfl rfl rfl rfl ?_
    repeat (first | refine za rfl rfl ?_ | refine zb rfl ?_ | refine zc rfl ?_)
    by_cases h7 : r.kind = 7
    · rw [show (r.kind == 7) = true by rw [h7]; rfl]
      repeat (first | refine za rfl rfl ?_ | refine zb rfl ?_ | refine zc rfl ?_)
      by_cases h255 : s.length ≤ 255
      · refine T.condF rfl (by simp; omega) ?_
        repeat (first | refine za rfl rfl ?_ | refine zb rfl ?_ | refine zc rfl ?_)
        rw [add1_i64 (a := i) (by omega)]
        exact T.again ih (i + 1) (by omega) ⟨rfl, rfl, rfl, rfl, trivial⟩ (fun w' hA => ⟨⟨hlt, fun h7 j s' hj hs' => by
          rcases Nat.lt_or_ge j i with h3 | h3
          · exact hall h7 j s' h3 hs'
          · have : j = i := by omega
            subst this
            rw [hs] at hs'
            simp only [Option.some.injEq] at hs'
            subst hs'; exact h255⟩, hA⟩)
      · refine T.condT rfl (by simp; omega) ?_
        repeat (first | refine za rfl rfl ?_ | refine zb rfl ?_ | refine zc rfl ?_)
        exact T.ret Tryz.func45 rfl (fun w' hA => ⟨false, rfl, fun e => Bool.noConfusion e, hA.sub (by simp)⟩)
    · rw [show (r.kind == 7) = false by simpa using h7]
      repeat (first | refine za rfl rfl ?_ | refine zb rfl ?_ | refine zc rfl ?_)
      refine T.condF rfl rfl ?_
      repeat (first | refine za rfl rfl ?_ | refine zb rfl ?_ | refine zc rfl ?_)
      rw [add1_i64 (a := i) (by omega)]
      exact T.again ih (i + 1) (by omega) ⟨rfl, rfl, rfl, rfl, trivial⟩ (fun w' hA => ⟨⟨hlt, fun e => absurd e h7⟩, hA⟩)
  refine T.condF rfl (by simpa using hlt) ?_
  have hiq : i = r.texts.length := by omega
  subst hiq
  clear ih
  repeat (first | refine T.seq ?_ | refine T.skip ?_ | refine T.block ?_ | refine T.inBlock ?_ | refine T.exit rfl ?_)
  refine T.merge2 (α := Unit) (fun _ => [(1, ptr xb 0)]) (fun _ w' => ((r.kind = 7 → r.texts ≠ []) ∧ (r.kind = 11 ∨ r.kind = 12 → ∀ i p, 0 < i → nth r.pairs i = some p → 0 < p.key)) ∧ St (keys []) w [(xb, .row (rcCells r dv (.slice ta r.texts.length tc) pv) 58)] w') ?_ (fun H => ?_)
  case refine_2 =>
    repeat (first | refine za rfl rfl ?_ | refine zb rfl ?_ | refine zc rfl ?_)
    refine TL.ld 0 szk rfl rfl rfl rfl rfl rfl ?_
    repeat (first | refine za rfl rfl ?_ | refine zb rfl ?_ | refine zc rfl ?_)
    by_cases h7 : r.kind = 7
    · rw [show (r.kind == 7) = true by rw [h7]; rfl]
      repeat (first | refine za rfl rfl ?_ | refine zb rfl ?_ | refine zc rfl ?_)
      refine TL.ld 0 szk rfl rfl rfl rfl rfl rfl ?_
      repeat (first | refine za rfl rfl ?_ | refine zb rfl ?_ | refine zc rfl ?_)
      by_cases h0 : r.texts.length = 0
      · rw [eq0T h0]
        repeat (first | refine za rfl rfl ?_ | refine zb rfl ?_ | refine zc rfl ?_)
        iterate 3 refine TL.un rfl rfl rfl rfl rfl rfl ?_
        repeat (first | refine za rfl rfl ?_ | refine zb rfl ?_ | refine zc rfl ?_)
        iterate 4 refine TL.un rfl rfl rfl rfl rfl rfl ?_
        repeat (first | refine za rfl rfl ?_ | refine zb rfl ?_ | refine zc rfl ?_)
        refine T.condT rfl rfl ?_
        repeat (first | refine za rfl rfl ?_ | refine zb rfl ?_ | refine zc rfl ?_)
        exact T.ret Tryz.func45 rfl (fun w' hA => ⟨false, rfl, fun e => Bool.noConfusion e, hA.sub (by simp)⟩)
      · rw [eq0F h0]
        repeat (first | refine za rfl rfl ?_ | refine zb rfl ?_ | refine zc rfl ?_)
        refine TL.ld 0 szk rfl rfl rfl rfl rfl rfl ?_
        repeat (first | refine za rfl rfl ?_ | refine zb rfl ?_ | refine zc rfl ?_)
        rw [show (r.kind == 11) = false by rw [h7]; rfl]
        repeat (first | refine za rfl rfl ?_ | refine zb rfl ?_ | refine zc rfl ?_)
        refine TL.ld 0 szk rfl rfl rfl rfl rfl rfl ?_
        repeat (first | refine za rfl rfl ?_ | refine zb rfl ?_ | refine zc rfl ?_)
        rw [show (r.kind == 12) = false by rw [h7]; rfl]
        repeat (first | refine za rfl rfl ?_ | refine zb rfl ?_ | refine zc rfl ?_)
        refine T.condF rfl rfl ?_
        refine T.skip ?_
        exact T.sub (L' := [(1, ptr xb 0)]) ⟨rfl, trivial⟩ (T.mono (fun w' hA => ⟨⟨fun _ e => h0 (by rw [e]; rfl), fun e => by omega⟩, hA⟩) (H ()))
    · rw [show (r.kind == 7) = false by simpa using h7]
      repeat (first | refine za rfl rfl ?_ | refine zb rfl ?_ | refine zc rfl ?_)
      refine TL.ld 0 szk rfl rfl rfl rfl rfl rfl ?_
      repeat (first | refine za rfl rfl ?_ | refine zb rfl ?_ | refine zc rfl ?_)
      by_cases h11 : r.kind = 11
      · rw [show (r.kind == 11) = true by rw [h11]; rfl]
        repeat (first | refine za rfl rfl ?_ | refine zb rfl ?_ | refine zc rfl ?_)
        refine TL.ld 0 szk rfl rfl rfl rfl rfl rfl ?_
        refine TL.call0 Tryz.call98 rfl rfl rfl (ascC h r.pairs hr.sm.pairn pv hp) (fun w' hA => vle hA hh) (fun y => TL.and fun hy => ?_)
        cases y
        · repeat (first | refine za rfl rfl ?_ | refine zb rfl ?_ | refine zc rfl ?_)
          refine T.condT rfl rfl ?_
          repeat (first | refine za rfl rfl ?_ | refine zb rfl ?_ | refine zc rfl ?_)
          exact T.ret Tryz.func45 rfl (fun w' hA => ⟨false, rfl, fun e => Bool.noConfusion e, hA.sub (by simp)⟩)
        · repeat (first | refine za rfl rfl ?_ | refine zb rfl ?_ | refine zc rfl ?_)
          refine T.condF rfl rfl ?_
          refine T.skip ?_
          exact T.sub (L' := [(1, ptr xb 0)]) ⟨rfl, trivial⟩ (T.mono (fun w' hA => ⟨⟨fun e => absurd e h7, fun _ => hy rfl⟩, hA⟩) (H ()))
      · rw [show (r.kind == 11) = false by simpa using h11]
        repeat (first | refine za rfl rfl ?_ | refine zb rfl ?_ | refine zc rfl ?_)
        refine TL.ld 0 szk rfl rfl rfl rfl rfl rfl ?_
        repeat (first | refine za rfl rfl ?_ | refine zb rfl ?_ | refine zc rfl ?_)
        by_cases h12 : r.kind = 12
        · rw [show (r.kind == 12) = true by rw [h12]; rfl]
          repeat (first | refine za rfl rfl ?_ | refine zb rfl ?_ | refine zc rfl ?_)
          refine TL.ld 0 szk rfl rfl rfl rfl rfl rfl ?_
          refine TL.call0 Tryz.call98 rfl rfl rfl (ascC h r.pairs hr.sm.pairn pv hp) (fun w' hA => vle hA hh) (fun y => TL.and fun hy => ?_)
          cases y
          · repeat (first | refine za rfl rfl ?_ | refine zb rfl ?_ | refine zc rfl ?_)
            refine T.condT rfl rfl ?_
            repeat (first | refine za rfl rfl ?_ | refine zb rfl ?_ | refine zc rfl ?_)
            exact T.ret Tryz.func45 rfl (fun w' hA => ⟨false, rfl, fun e => Bool.noConfusion e, hA.sub (by simp)⟩)
          · repeat (first | refine za rfl rfl ?_ | refine zb rfl ?_ | refine zc rfl ?_)
            refine T.condF rfl rfl ?_
            refine T.skip ?_
            exact T.sub (L' := [(1, ptr xb 0)]) ⟨rfl, trivial⟩ (T.mono (fun w' hA => ⟨⟨fun e => absurd e h7, fun _ => hy rfl⟩, hA⟩) (H ()))
        · rw [show (r.kind == 12) = false by simpa using h12]
          repeat (first | refine za rfl rfl ?_ | refine zb rfl ?_ | refine zc rfl ?_)
          refine T.condF rfl rfl ?_
          refine T.skip ?_
          exact T.sub (L' := [(1, ptr xb 0)]) ⟨rfl, trivial⟩ (T.mono (fun w' hA => ⟨⟨fun e => absurd e h7, fun e => (by omega)⟩, hA⟩) (H ()))
  intro _
  refine T.and fun ⟨g1, g2⟩ => ?_
  repeat (first | refine za rfl rfl ?_ | refine zb rfl ?_ | refine zc rfl ?_)
  refine TL.ldW (cs := rcCells r dv (.slice ta r.texts.length tc) pv) 0 szk rfl rfl rfl rfl rfl rfl ?_
  refine TL.call0 Tryz.call99 rfl rfl rfl (hostOkC h r hr.k1 hr.k13 hr.sm.host hr.sm.box _ _ _) (fun w' hA => vle hA hh) (fun y => TL.and fun hy => ?_)
  cases y
  · repeat (first | refine za rfl rfl ?_ | refine zb rfl ?_ | refine zc rfl ?_)
    exact T.ret Tryz.func45 rfl (fun w' hA => ⟨false, rfl, fun e => Bool.noConfusion e, hA.sub (by simp)⟩)
  · repeat (first | refine za rfl rfl ?_ | refine zb rfl ?_ | refine zc rfl ?_)
    refine TL.ldW (cs := rcCells r dv (.slice ta r.texts.length tc) pv) 0 szk rfl rfl rfl rfl rfl rfl ?_
    refine TL.call0 Tryz.call46 rfl rfl rfl (bodyC h r hr _ _ _ ⟨hd, ht, hp⟩) (fun w' hA => vle hA hh) (fun z => TL.and fun hz => ?_)
    repeat (first | refine za rfl rfl ?_ | refine zb rfl ?_ | refine zc rfl ?_)
    exact T.ret Tryz.func45 rfl (fun w' hA => ⟨decide (((bodyB r).length : Int) < 65536), rfl, fun _ => ⟨fun e => ⟨g1 e, fun s hs => by
      obtain ⟨j, hj⟩ := List.getElem?_of_mem hs
      exact hall e j s (List.getElem?_eq_some_iff.1 hj).1 (by rw [nth_eq]; exact hj)⟩, g2, hy rfl⟩, hA.sub (by simp)⟩)
def recB (r : Rc) : Bs := wire r.name ++ (w2 (typeOf r) ++ (w2 r.cls ++ (w4 r.ttl ++ (w2 (bodyB r).length ++ bodyB r))))
theorem recB_len {r : Rc} (hr : r.Bd) : (recB r).length ≤ 6500000 := by
  have h1 := wire_len r.name
  have h2 := hr.sm.name
  have h3 := bodyB_len hr
  unfold recB
  simp only [List.length_append, w2_length, w4_length]; omega
theorem recordC (h : View) (r : Rc) (hr : r.Bd) (dv tv pv : Value) (hx : RcV h r dv tv pv) : BCt 41 [.agg (rcCells r dv tv pv).toArray] h (recB r) := by
  intro w hS hh
  have hwl := wire_len r.name
  have hnl := hr.sm.name
  have hbl := bodyB_len hr
  refine calls_of_T (m := 25) Tryz.func41 rfl rfl (by simp) hS ?_
  repeat (first | refine za rfl rfl ?_ | refine zb rfl ?_ | refine zc rfl ?_)
  refine TL.box (cs := rcCells r dv tv pv) rfl rfl rfl rfl (fun xb => ?_)
  repeat (first | refine za rfl rfl ?_ | refine zb rfl ?_ | refine zc rfl ?_)
  refine TL.ldW (cs := rcCells r dv tv pv) 0 szk rfl rfl rfl rfl rfl rfl ?_
  refine TL.call0 Tryz.call46 rfl rfl rfl (bodyC h r hr dv tv pv hx) (fun w' hA => vle hA hh) (fun y0 => TL.and fun o0 => ?_)
  repeat (first | refine za rfl rfl ?_ | refine zb rfl ?_ | refine zc rfl ?_)
  refine TS.start [(0, true), (1, true), (3, true), (6, true), (7, true), (9, true), (10, true), (12, true), (13, true), (14, true), (16, true), (2, false), (4, false), (5, false), (8, false), (11, false), (15, false), (17, false), (18, false), (19, true)] [(xb, .row (rcCells r dv tv pv) 58)] mixed (by kernel_rfl) (by kernel_rfl) (by decide) (by simp) ?_
  refine TS.p tbk rfl rfl ?_
  refine TS.y rfl rfl rfl rfl (Y.load szk rfl rfl (fun w h => h.cell (i := 0) rfl rfl)) ?_
  refine TS.y rfl rfl rfl rfl (Y.loadA szk rfl rfl (rcCells_len _ _ _ _) (fun w h i v hv => by rw [Nat.zero_add]; exact h.cell (i := 0) rfl hv)) ?_
  refine TS.p tbk rfl rfl ?_
  refine TS.y rfl rfl rfl rfl (Y.load szk rfl rfl (fun w h => h.cell (i := 0) rfl rfl)) ?_
  refine TS.p tbk rfl rfl ?_
  refine TS.y rfl rfl rfl rfl (Y.load szk rfl rfl (fun w h => h.cell (i := 0) rfl rfl)) ?_
  refine TS.p tbk rfl rfl ?_
  refine TS.p tbk rfl rfl ?_
  refine TS.p tbk rfl rfl ?_
  rw [len_u16]
  refine TS.p tbk rfl rfl ?_
  refine TS.call0 rfl Tryz.call94 rfl rfl rfl (wireC h r.name hnl) (fun w' hA => vle hA hh) (fun _ => by simp) (fun y1 => TS.and fun o1 => ?_)
  refine TS.call0 rfl Tryz.call48 rfl rfl rfl (typeOfC h r hr.k1 hr.k13 dv tv pv) (fun w' hA => vle hA hh) (fun _ => by simp) (fun _ => TS.and fun _ => ?_)
  refine TS.call0 rfl Tryz.call93 rfl rfl rfl (two h (typeOf r)) (fun w' hA => vle hA hh) (fun _ => by simp) (fun y2 => TS.and fun o2 => ?_)
  refine TS.call0 rfl Tryz.call93 rfl rfl rfl (two h r.cls) (fun w' hA => vle hA hh) (fun _ => by simp) (fun y3 => TS.and fun o3 => ?_)
  refine TS.call0 rfl Tryz.call95 rfl rfl rfl (four h r.ttl hr.sm.num.ttl) (fun w' hA => vle hA hh) (fun _ => by simp) (fun y4 => TS.and fun o4 => ?_)
  refine TS.call0 rfl Tryz.call93 rfl rfl rfl (two_mod h (bodyB r).length) (fun w' hA => vle hA hh) (fun _ => by simp) (fun y5 => TS.and fun o5 => ?_)
  refine TS.bs (us := [slV y1.1 (wire r.name).length y1.2.2, slV y2.1 (w2 (typeOf r)).length y2.2.2, slV y3.1 (w2 r.cls).length y3.2.2, slV y4.1 (w4 r.ttl).length y4.2.2, slV y5.1 (w2 (bodyB r).length).length y5.2.2, slV y0.1 (bodyB r).length y0.2.2]) rfl el252 rfl rfl (by intro v hv; simp at hv; rcases hv with rfl | rfl | rfl | rfl | rfl | rfl <;> rfl) (by simp) rfl rfl (fun _ => by simp) (fun sb => ?_)
  refine TS.join (ls := [wire r.name, w2 (typeOf r), w2 r.cls, w4 r.ttl, w2 (bodyB r).length, bodyB r]) hh rfl rfl rfl rfl rfl (fun w' hA => .cons (SlB.in hA (i := 5) rfl o1) (.cons (SlB.in hA (i := 4) rfl o2) (.cons (SlB.in hA (i := 3) rfl o3) (.cons (SlB.in hA (i := 2) rfl o4) (.cons (SlB.in hA (i := 1) rfl o5) (.cons (SlB.in hA (i := 6) rfl o0) .nil)))))) (by simp only [List.flatten_cons, List.flatten_nil, List.length_append, List.length_nil, w2_length, w4_length]; omega) (by simp) (by simp) (fun nb ncs ncap hno => ?_)
  refine TS.p tbk rfl rfl ?_
  refine TS.nil ?_
  repeat (first | refine za rfl rfl ?_ | refine zb rfl ?_ | refine zc rfl ?_)
  have e : [wire r.name, w2 (typeOf r), w2 r.cls, w4 r.ttl, w2 (bodyB r).length, bodyB r].flatten = recB r := by simp [recB]
  rw [e] at hno
  exact T.ret Tryz.func41 rfl (fun w' hA => ⟨(nb, ncs, ncap), by rw [e]; rfl, hno, hA.sub (List.Sublist.cons_cons _ (List.nil_sublist _))⟩)
def hb1 (h : Hd) : Nat := (((bit h.resp 32768 ||| (h.op * 2048 % 65536)) ||| bit h.auth 1024) ||| bit h.cut 512) ||| bit h.desired 256
def hb2 (h : Hd) : Nat := ((bit h.avail 128 ||| bit h.authentic 32) ||| bit h.unchecked 16) ||| h.code
theorem or16 {a b : Nat} (ha : a < 65536) (hb : b < 65536) : a ||| b < 65536 := Nat.or_lt_two_pow (n := 16) ha hb
theorem bit16 (b : Bool) {m : Nat} (h : m < 65536) : bit b m < 65536 := by cases b <;> simp [bit]; exact h
theorem shl11 (m : Nat) : IntKind.u16.wrap ((m : Int) * 2 ^ min 11 IntKind.u16.bits) = ((m * 2048 % 65536 : Nat) : Int) := by
  rw [wrap_u16, show min 11 IntKind.u16.bits = 11 from rfl]; omega
def SlI (h : View) (v : Value) (l : List Nat) : Prop := Sl h 1 (fun (m : Nat) cs => cs = [.int .i64 (m : Int)]) v l
def w2s (l : List Nat) : Bs := (l.map w2).flatten
theorem w2s_take {l : List Nat} {i m : Nat} (h : nth l i = some m) : w2s (l.take (i + 1)) = w2s (l.take i) ++ w2 m := by rw [take_nth h]; simp [w2s]
theorem w2s_len (l : List Nat) : (w2s l).length = 2 * l.length := by
  induction l with
  | nil => rfl
  | cons a r ih => simp only [w2s, List.map_cons, List.flatten_cons, List.length_append, w2_length, List.length_cons] at ih ⊢; omega
def hdW (h : Hd) (ns : List Nat) : Bs := (w2 h.id ++ w2 (hb1 h ||| hb2 h)) ++ w2s ns
theorem headC (h : View) (hd : Hd) (hcode : hd.code < 65536) (ns : List Nat) (hn : ns.length ≤ 100) (v : Value) (hx : SlI h v ns) : BCt 39 [.agg (hdCells hd).toArray, v] h (hdW hd ns) := by
  intro w hS hh
  obtain ⟨na, nc, hns, _⟩ := hx.shape
  subst hns
  have b1 := bit16 hd.resp (m := 32768) (by decide)
  have b2 := bit16 hd.auth (m := 1024) (by decide)
  have b3 := bit16 hd.cut (m := 512) (by decide)
  have b4 := bit16 hd.desired (m := 256) (by decide)
  have b5 := bit16 hd.avail (m := 128) (by decide)
  have b6 := bit16 hd.authentic (m := 32) (by decide)
  have b7 := bit16 hd.unchecked (m := 16) (by decide)
  have c0 : hd.op * 2048 % 65536 < 65536 := Nat.mod_lt _ (by decide)
  refine calls_of_T (m := 64) Tryz.func39 rfl rfl (by simp) hS ?_
  repeat (first | refine za rfl rfl ?_ | refine zb rfl ?_ | refine zc rfl ?_)
  refine TL.box (cs := hdCells hd) rfl rfl rfl rfl (fun xb => ?_)
  repeat (first | refine za rfl rfl ?_ | refine zb rfl ?_ | refine zc rfl ?_)
  refine TS.start [(0, true), (1, true), (3, true), (4, true), (5, true), (7, true), (8, true), (11, true), (12, true), (15, true), (16, true), (2, false), (6, true), (9, false), (10, true), (13, false), (14, true), (17, false), (18, true), (19, true)] [(xb, .row (hdCells hd) 30)] mixed (by kernel_rfl) (by kernel_rfl) (by decide) (by simp) ?_
  refine TS.p tbk rfl rfl ?_
  refine TS.y rfl rfl rfl rfl (Y.load szk rfl rfl (fun w h => h.cell (i := 0) rfl rfl)) ?_
  refine TS.p tbk rfl rfl ?_
  refine TS.y rfl rfl rfl rfl (Y.load szk rfl rfl (fun w h => h.cell (i := 0) rfl rfl)) ?_
  refine TS.p tbk rfl rfl ?_
  rw [shl11]
  refine TS.p tbk rfl rfl ?_
  refine TS.y rfl rfl rfl rfl (Y.load szk rfl rfl (fun w h => h.cell (i := 0) rfl rfl)) ?_
  refine TS.p tbk rfl rfl ?_
  refine TS.y rfl rfl rfl rfl (Y.load szk rfl rfl (fun w h => h.cell (i := 0) rfl rfl)) ?_
  refine TS.p tbk rfl rfl ?_
  refine TS.y rfl rfl rfl rfl (Y.load szk rfl rfl (fun w h => h.cell (i := 0) rfl rfl)) ?_
  refine TS.call0 rfl Tryz.call91 rfl rfl rfl (flag h hd.resp 32768) (fun w' hA => vle hA hh) (fun _ => by simp) (fun _ => TS.and fun _ => ?_)
  refine TS.p tbk rfl rfl ?_
  rw [wrap_or _ _ b1 c0]
  refine TS.call0 rfl Tryz.call91 rfl rfl rfl (flag h hd.auth 1024) (fun w' hA => vle hA hh) (fun _ => by simp) (fun _ => TS.and fun _ => ?_)
  refine TS.p tbk rfl rfl ?_
  rw [wrap_or _ _ (or16 b1 c0) b2]
  refine TS.call0 rfl Tryz.call91 rfl rfl rfl (flag h hd.cut 512) (fun w' hA => vle hA hh) (fun _ => by simp) (fun _ => TS.and fun _ => ?_)
  refine TS.p tbk rfl rfl ?_
  rw [wrap_or _ _ (or16 (or16 b1 c0) b2) b3]
  refine TS.call0 rfl Tryz.call91 rfl rfl rfl (flag h hd.desired 256) (fun w' hA => vle hA hh) (fun _ => by simp) (fun _ => TS.and fun _ => ?_)
  refine TS.p tbk rfl rfl ?_
  rw [wrap_or _ _ (or16 (or16 (or16 b1 c0) b2) b3) b4, show ((((bit hd.resp 32768 ||| (hd.op * 2048 % 65536)) ||| bit hd.auth 1024) ||| bit hd.cut 512) ||| bit hd.desired 256) = hb1 hd from rfl]
  refine TS.p tbk rfl rfl ?_
  refine TS.nil ?_
  have c1 : hb1 hd < 65536 := or16 (or16 (or16 (or16 b1 c0) b2) b3) b4
  repeat (first | refine za rfl rfl ?_ | refine zb rfl ?_ | refine zc rfl ?_)
  refine TS.start [(0, true), (1, true), (2, true), (4, true), (5, true), (8, true), (9, true), (12, true), (13, true), (3, false), (6, false), (7, true), (10, false), (11, true), (14, true), (15, true), (16, true)] [(xb, .row (hdCells hd) 30)] mixed (by kernel_rfl) (by kernel_rfl) (by decide) (by simp) ?_
  refine TS.p tbk rfl rfl ?_
  refine TS.p tbk rfl rfl ?_
  refine TS.y rfl rfl rfl rfl (Y.load szk rfl rfl (fun w h => h.cell (i := 0) rfl rfl)) ?_
  refine TS.p tbk rfl rfl ?_
  refine TS.y rfl rfl rfl rfl (Y.load szk rfl rfl (fun w h => h.cell (i := 0) rfl rfl)) ?_
  refine TS.p tbk rfl rfl ?_
  refine TS.y rfl rfl rfl rfl (Y.load szk rfl rfl (fun w h => h.cell (i := 0) rfl rfl)) ?_
  refine TS.p tbk rfl rfl ?_
  refine TS.y rfl rfl rfl rfl (Y.load szk rfl rfl (fun w h => h.cell (i := 0) rfl rfl)) ?_
  refine TS.call0 rfl Tryz.call91 rfl rfl rfl (flag h hd.avail 128) (fun w' hA => vle hA hh) (fun _ => by simp) (fun _ => TS.and fun _ => ?_)
  refine TS.call0 rfl Tryz.call91 rfl rfl rfl (flag h hd.authentic 32) (fun w' hA => vle hA hh) (fun _ => by simp) (fun _ => TS.and fun _ => ?_)
  refine TS.p tbk rfl rfl ?_
  rw [wrap_or _ _ b5 b6]
  refine TS.call0 rfl Tryz.call91 rfl rfl rfl (flag h hd.unchecked 16) (fun w' hA => vle hA hh) (fun _ => by simp) (fun _ => TS.and fun _ => ?_)
  refine TS.p tbk rfl rfl ?_
  rw [wrap_or _ _ (or16 b5 b6) b7]
  refine TS.p tbk rfl rfl ?_
  rw [wrap_or _ _ (or16 (or16 b5 b6) b7) hcode, show (((bit hd.avail 128 ||| bit hd.authentic 32) ||| bit hd.unchecked 16) ||| hd.code) = hb2 hd from rfl]
  have c2 : hb2 hd < 65536 := or16 (or16 (or16 b5 b6) b7) hcode
  refine TS.p tbk rfl rfl ?_
  rw [wrap_or _ _ c1 c2]
  refine TS.p tbk rfl rfl ?_
  refine TS.nil ?_
  repeat (first | refine za rfl rfl ?_ | refine zb rfl ?_ | refine zc rfl ?_)
  refine TL.ld 0 szk rfl rfl rfl rfl rfl rfl ?_
  refine TL.call0 Tryz.call93 rfl rfl rfl (two h hd.id) (fun w' hA => vle hA hh) (fun y1 => TL.and fun o1 => ?_)
  repeat (first | refine za rfl rfl ?_ | refine zb rfl ?_ | refine zc rfl ?_)
  refine TL.call0 Tryz.call93 rfl rfl rfl (two h (hb1 hd ||| hb2 hd)) (fun w' hA => vle hA hh) (fun y2 => TL.and fun o2 => ?_)
  refine TL.bs (vs := [slV y1.1 (w2 hd.id).length y1.2.2, slV y2.1 (w2 (hb1 hd ||| hb2 hd)).length y2.2.2]) el252 rfl rfl (by intro v hv; simp at hv; rcases hv with rfl | rfl <;> rfl) (by simp) rfl rfl (fun sb => ?_)
  refine TL.join (ls := [w2 hd.id, w2 (hb1 hd ||| hb2 hd)]) hh rfl rfl rfl rfl (fun w' hA => .cons (SlB.in hA (i := 2) rfl o1) (.cons (SlB.in hA (i := 1) rfl o2) .nil)) (by simp [w2]) (by simp) (fun b0 cs0 cap0 ho0 => ?_)
  rw [show [w2 hd.id, w2 (hb1 hd ||| hb2 hd)].flatten = w2 hd.id ++ w2 (hb1 hd ||| hb2 hd) by simp] at ho0 ⊢
  generalize hZ : w2 hd.id ++ w2 (hb1 hd ||| hb2 hd) = Z at ho0
  have hZl : Z.length = 4 := by rw [← hZ]; rfl
  repeat (first | refine za rfl rfl ?_ | refine zb rfl ?_ | refine zc rfl ?_)
  refine T.loop (α := JX) (fun x => [(6, slV x.b (Z ++ w2s (ns.take x.i)).length x.cap), (51, .slice na ns.length nc), (52, .int .i64 (ns.length : Int)), (53, .int .i64 (x.i : Int))])
    (fun x w' => (x.i ≤ ns.length ∧ OwnB x.cs (Z ++ w2s (ns.take x.i)) x.cap) ∧ St (keys []) w [(x.b, .row x.cs 5)] w')
    (fun x => ns.length - x.i) ⟨0, b0, cs0, cap0⟩ ⟨by simp [w2s]; rfl, rfl, rfl, rfl, trivial⟩ (fun w' hA => ⟨⟨Nat.zero_le _, by simpa [w2s] using ho0⟩, hA.sub (List.Sublist.cons_cons _ (List.nil_sublist _))⟩) ?_
  rintro ⟨i, ob, ocs, ocap⟩ ih
  refine T.and fun ⟨hi, hown⟩ => ?_
  simp only at hi hown
  have hle := w2s_len (ns.take i)
  rw [List.length_take] at hle
  repeat (first | refine za rfl rfl ?_ | refine zb rfl ?_ | refine zc rfl ?_)
  by_cases hlt : i < ns.length
  · refine T.condT rfl (by simpa using hlt) ?_
    obtain ⟨m, hm⟩ := nth_lt hlt
    obtain ⟨b, o, cap', cs, hv, _, _, hrs, hcs⟩ := hx.at hm
    injection hv with hv1 _ hv3
    subst hv1 hv3 hcs
    repeat (first | refine za rfl rfl ?_ | refine zb rfl ?_ | refine zc rfl ?_)
    refine TL.ix (j := i) tbk rfl rfl rfl rfl rfl rfl hlt ?_
    refine TL.ldR (hrs.mono hh) szk rfl rfl rfl rfl ?_
    repeat (first | refine za rfl rfl ?_ | refine zb rfl ?_ | refine zc rfl ?_)
    rw [len_u16]
    refine TL.call0 Tryz.call93 rfl rfl rfl (two_mod h m) (fun w' hA => vle hA hh) (fun y => TL.and fun oy => ?_)
    refine TL.append (len := (Z ++ w2s (ns.take i)).length) (m := 2) (news := (w2 m).map bv) 1 el37 sl37 rfl rfl rfl rfl rfl hown (src_own (i := 0) (E := w2 m) rfl oy) (by rw [List.length_append]; omega) (by rw [List.length_append]; omega) (fun ob2 oc2 ocap2 ho2 => ?_)
    repeat (first | refine za rfl rfl ?_ | refine zb rfl ?_ | refine zc rfl ?_)
    rw [add1_i64 (a := i) (by omega)]
    have e : Z ++ w2s (ns.take (i + 1)) = (Z ++ w2s (ns.take i)) ++ w2 m := by rw [w2s_take hm, List.append_assoc]
    exact T.again ih ⟨i + 1, ob2, oc2, ocap2⟩ (by simp; omega) ⟨by rw [e, List.length_append (bs := w2 m)]; rfl, rfl, rfl, rfl, trivial⟩ (fun w' hA => ⟨⟨hlt, by simp only; rw [e]; exact ho2.cast (by simp [w2]; omega) (by simp)⟩, hA.sub (List.Sublist.cons _ (List.Sublist.refl _))⟩)
  refine T.condF rfl (by simpa using hlt) ?_
  have hiq : i = ns.length := by omega
  subst hiq
  rw [List.take_length] at hown
  repeat (first | refine za rfl rfl ?_ | refine zb rfl ?_ | refine zc rfl ?_)
  exact T.ret Tryz.func39 rfl (fun w' hA => ⟨(ob, ocs, ocap), by rw [List.take_length, ← hZ]; rfl, by unfold hdW; rw [hZ]; exact hown, hA⟩)
end X
end Go.Proofs.YtifnodoffgfpbaaGreatDoor
