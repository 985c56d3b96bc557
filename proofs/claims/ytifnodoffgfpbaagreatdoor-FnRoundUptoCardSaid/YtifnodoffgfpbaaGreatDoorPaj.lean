/- Contracts: the builder's questions and records. -/
import Derived.Test.YtifnodoffgfpbaaGreatDoorPai
namespace Go.Proofs.YtifnodoffgfpbaaGreatDoor
open Go
namespace X
theorem recAt_fix {k : Nat} {r : Rc} {B0 y1 y2 y3 E1 E2 : Bs} {o1 : Nat} (hE1 : y1 = B0 ++ E1) (hE2 : y2 = y1 ++ E2) (n1 : NmAt (kn y1 ⟨k, some (y1.length - 2)⟩) B0.length r.name o1)
    (b1 : BytesAt (kn y1 ⟨k, some (y1.length - 2)⟩) o1 (w2 (typeOf r) ++ (w2 r.cls ++ w4 r.ttl))) (l1 : y1.length = o1 + 10) (b2 : BodyAt (kn y2 ⟨k, some (y1.length - 2)⟩) r y1.length y2.length) (e3 : y3 = putLen y2 (y1.length - 2) (y2.length - y1.length)) (hk : k ≤ B0.length) (hs : E2.length ≤ 3000) :
    (∃ E, y3 = B0 ++ E ∧ E.length = E1.length + E2.length) ∧ RecAt (kn y3 ⟨k, none⟩) r B0.length y3.length := by
  have l1' : y1.length = B0.length + E1.length := by rw [hE1]; simp
  have l2 : y2.length = y1.length + E2.length := by rw [hE2]; simp
  have ho1 : B0.length ≤ o1 := Nat.le_of_lt n1.lt
  have hlen3 : y3.length = y2.length := by rw [e3, putLen_length (by omega)]
  have hle3 : KM.le (kn y2 ⟨k, some (y1.length - 2)⟩) (kn y3 ⟨k, none⟩) := by rw [e3]; exact putLen_le (by omega)
  have hle1 : KM.le (kn y1 ⟨k, some (y1.length - 2)⟩) (kn y3 ⟨k, none⟩) := by
    refine KM.le.trans ?_ hle3
    rw [hE2]; exact kn_append _ _ _
  obtain ⟨E3, hE3, hL3⟩ := putLen_pre (B := B0) (E := E1 ++ E2) (o := y1.length - 2) (m := y2.length - y1.length) (by omega) (by simp; omega)
  rw [← List.append_assoc, ← hE1, ← hE2, ← e3] at hE3
  refine ⟨⟨E3, hE3, by rw [hL3, List.length_append]⟩, o1, y2.length - y1.length, n1.mono hle1, ?_, (by omega : y2.length - y1.length < 65536), ?_, (by omega : y3.length = o1 + 10 + (y2.length - y1.length))⟩
  · have hx := b1.mono hle1
    have e : w2 (typeOf r) ++ (w2 r.cls ++ (w4 r.ttl ++ w2 (y2.length - y1.length))) = (w2 (typeOf r) ++ (w2 r.cls ++ w4 r.ttl)) ++ w2 (y2.length - y1.length) := by simp
    rw [e]
    refine BytesAt.append.2 ⟨hx, ?_⟩
    have hy := putLen_at (B := y2) (k := k) (o := y1.length - 2) (m := y2.length - y1.length) (by omega) (by omega)
    rw [← e3] at hy
    rw [show o1 + (w2 (typeOf r) ++ (w2 r.cls ++ w4 r.ttl)).length = y1.length - 2 by simp [w2, w4]; omega]
    exact hy
  · rw [hlen3, ← l1]; exact b2.mono hle3
theorem rh_setT {s : Bs} {t c ttl len t' : Nat} (hs : s.length ≤ 255) : setN (rhCells s t c ttl len) (0 + 256) (.int .u16 (t' : Int)) = rhCells s t' c ttl len := by
  have := nameCells_length hs
  rw [setN_eq, rhCells, rhCells, List.set_append_right _ _ (by omega), this]; rfl
theorem blView {Z : List Nat} {w0 w : World} {M : Mem} {i bb sec : Nat} {mv_ cv : Value} {h : Bh} (hA : St Z w0 M w) (hi : nth M i = some (bb, .row (blC mv_ sec h cv) 91)) : RowAt (view [] w) bb 1 [.int .u8 (sec : Int)] :=
  hA.view hi (by simp) (fun j v hj => by cases j with | zero => exact hj | succ j => simp [nth] at hj)
theorem question (bb : Nat) (h : Bh) (hf : h.few) (q : Option Nat) (a : Ak) (ha : a.Ok) (k : Nat) (p : Pk) (hp : p.ok ⟨k, none⟩ q) (hB : p.B.length + 300 ≤ 4294967296) :
    Ct (β := Pk) Tryz.prog 29 [ptr bb 0, .agg (qCells a.name a.typ a.cls).toArray] (bmem bb 2 h q p) (fun w => Glob (view (keys (bmem bb 2 h q p)) w)) (fun _ => .nilIface)
      (fun y _ => y.ok ⟨k, none⟩ q ∧ (∃ E, y.B = p.B ++ E ∧ E.length ≤ 266) ∧ AskAt (kn y.B ⟨k, none⟩) a p.B.length y.B.length) (fun y => bmem bb 2 (h.inc 2) q y) := by
  intro w hS hg
  have hs2 := ha.name.len
  have h255 : a.name.length ≤ 255 := by omega
  unfold bmem at *
  refine calls_of_T (m := 48) Tryz.func29 rfl rfl (by simp) hS ?_
  repeat (first | refine za rfl rfl ?_ | refine zb rfl ?_ | refine zc rfl ?_)
  refine TL.box (cs := qCells a.name a.typ a.cls) rfl rfl rfl rfl (fun xb => ?_)
  repeat (first | refine za rfl rfl ?_ | refine zb rfl ?_ | refine zc rfl ?_)
  refine TL.ld 1 szk rfl rfl rfl rfl rfl rfl ?_
  repeat (first | refine za rfl rfl ?_ | refine zb rfl ?_ | refine zc rfl ?_)
  refine T.condF rfl rfl ?_
  repeat (first | refine za rfl rfl ?_ | refine zb rfl ?_ | refine zc rfl ?_)
  refine TL.ld 1 szk rfl rfl rfl rfl rfl rfl ?_
  repeat (first | refine za rfl rfl ?_ | refine zb rfl ?_ | refine zc rfl ?_)
  refine T.condF rfl rfl ?_
  repeat (first | refine za rfl rfl ?_ | refine zb rfl ?_ | refine zc rfl ?_)
  refine TS.start [(0, true), (1, true), (2, true), (3, true), (4, true), (5, true), (6, true), (7, true), (8, true), (9, true), (10, true), (11, true), (12, false), (13, true), (14, true), (15, true), (16, true), (17, true)] [(bb, .row (blC p.sl 2 h (.map q)) 91)] mixed (by kernel_rfl) (by kernel_rfl) (by decide) (by simp) ?_
  repeat refine TS.p tbk rfl rfl ?_
  refine TS.y rfl rfl rfl rfl (Y.load szk rfl rfl (fun w h => h.cell (i := 0) rfl rfl)) ?_
  repeat refine TS.p tbk rfl rfl ?_
  refine TS.y rfl rfl rfl rfl (Y.load szk rfl rfl (fun w h => h.cell (i := 0) rfl rfl)) ?_
  repeat refine TS.p tbk rfl rfl ?_
  refine TS.y rfl rfl rfl rfl (Y.load szk rfl rfl (fun w h => h.cell (i := 0) rfl rfl)) ?_
  refine TS.callS [_, _] rfl Tryz.call54 rfl rfl rfl rfl (qPack q xb 0 a ha k p hp hB) (fun w' hA => st_rowL (Ml := [(xb, .row (qCells a.name a.typ a.cls) 79), (bb, .row (blC p.sl 2 h (.map q)) 91)]) hA (i := 0) rfl (fun j v hj => by rw [Nat.zero_add]; exact hj)) (fun y => by simp) (fun y => TS.and fun ⟨ok1, e1, n1⟩ => ?_)
  repeat refine TS.p tbk rfl rfl ?_
  refine TS.nil ?_
  repeat (first | refine za rfl rfl ?_ | refine zb rfl ?_ | refine zc rfl ?_)
  refine T.condF rfl rfl ?_
  repeat (first | refine za rfl rfl ?_ | refine zb rfl ?_ | refine zc rfl ?_)
  refine TL.call1 1 Tryz.call57 rfl rfl rfl rfl (incr bb 2 (by decide) (by decide) p.sl (.map q) h hf) (fun w' hA => hg.mono (st_viewLe hA (Mc := [(bb, .row (blC p.sl 2 h (.map q)) 91)]) fun _ hp => by simp at hp; subst hp; simp)) (fun _ => TL.and fun _ => ?_)
  repeat (first | refine za rfl rfl ?_ | refine zb rfl ?_ | refine zc rfl ?_)
  refine T.condF rfl rfl ?_
  repeat (first | refine za rfl rfl ?_ | refine zb rfl ?_ | refine zc rfl ?_)
  refine TL.st 1 szk rfl rfl rfl rfl rfl rfl ?_
  repeat (first | refine za rfl rfl ?_ | refine zb rfl ?_ | refine zc rfl ?_)
  exact T.ret Tryz.func29 rfl (fun w hA => ⟨y, rfl, ⟨ok1, e1, n1⟩, hA.sub (List.Sublist.cons _ (List.Sublist.refl _))⟩)
abbrev ResCt (fn : FuncId) (bb sec : Nat) (h : Bh) (q : Option Nat) (r : Rc) (xv : Value) (k : Nat) (p : Pk) : Prop :=
  Ct (β := Pk) Tryz.prog fn [ptr bb 0, .agg (rhCells r.name r.typ r.cls r.ttl r.len).toArray, .agg (bodyCells r xv).toArray] (bmem bb sec h q p) (fun w => Glob (view (keys (bmem bb sec h q p)) w) ∧ bodyX (view (keys (bmem bb sec h q p)) w) r xv) (fun _ => .nilIface)
      (fun y _ => y.ok ⟨k, none⟩ q ∧ (∃ E, y.B = p.B ++ E ∧ E.length ≤ 3300) ∧ RecAt (kn y.B ⟨k, none⟩) r p.B.length y.B.length) (fun y => bmem bb sec (h.inc sec) q y)
theorem resB1 (bb sec : Nat) (hs3 : 3 ≤ sec) (hs5 : sec ≤ 5) (h : Bh) (hf : h.few) (q : Option Nat) (r : Rc) (hr : r.Ok) (hk : r.kind = 1) (xv : Value) (k : Nat) (p : Pk) (hp : p.ok ⟨k, none⟩ q) (hB : p.B.length + 5000 ≤ 4294967296) : ResCt 58 bb sec h q r xv k p := by
  intro w hS ⟨hg, hx⟩
  have e := congrArg Int.toNat hk
  have hreal : ∀ {yb : Nat}, Ct (β := Unit) Tryz.prog 109 [ptr yb 0] [] (fun w => BodyMem (view [] w) yb 0 r) (fun _ => .int .u16 (typeOf r : Int)) (fun _ _ => True) (fun _ => []) := fun {yb} => by
    have := realType yb 0 r hr
    rw [e] at this; exact this
  have hpk : ∀ (yb : Nat) (y1 : Pk) (hole : Hole), y1.ok hole q → y1.B.length + 4000 ≤ 4294967296 → BodyCt 110 r q y1 hole yb 0 := fun yb y1 hole ok1 hb => by
    have := bodyPack q yb 0 r hr y1 hole ok1 hb
    rw [e] at this; exact this
  unfold bmem at *
  have hs2 := hr.name.len
  have h255 : r.name.length ≤ 255 := by omega
  have hrl := rhCells_length (t := r.typ) (c := r.cls) (ttl := r.ttl) (len := r.len) h255
  have hkp := hp.hole.base
  simp only at hkp
  refine calls_of_T (m := 81) Tryz.func58 rfl rfl (by simp) hS ?_
  repeat (first | refine za rfl rfl ?_ | refine zb rfl ?_ | refine zc rfl ?_)
  refine TL.box (cs := rhCells r.name r.typ r.cls r.ttl r.len) rfl rfl rfl rfl (fun xb => ?_)
  refine TL.box (cs := bodyCells r xv) rfl rfl rfl rfl (fun yb => ?_)
  repeat (first | refine za rfl rfl ?_ | refine zb rfl ?_ | refine zc rfl ?_)
  refine TL.call0 Tryz.call108 rfl rfl rfl (checkSection bb sec hs3 hs5) (fun w' hA => blView hA (i := 2) rfl) (fun _ => TL.and fun _ => ?_)
  repeat (first | refine za rfl rfl ?_ | refine zb rfl ?_ | refine zc rfl ?_)
  refine T.condF rfl rfl ?_
  repeat (first | refine za rfl rfl ?_ | refine zb rfl ?_ | refine zc rfl ?_)
  refine TL.call0 Tryz.call109 rfl rfl rfl hreal (fun w' hA => ⟨xv, hA.view (i := 0) rfl (by simp) (fun j v hj => by rw [Nat.zero_add]; exact hj), bodyX_mono (st_viewLe hA (Mc := []) fun _ hp => by cases hp) hx⟩) (fun _ => TL.and fun _ => ?_)
  repeat (first | refine za rfl rfl ?_ | refine zb rfl ?_ | refine zc rfl ?_)
  refine TL.st 1 szk rfl rfl rfl rfl rfl (by rw [hrl]; rfl) ?_
  simp only [setN, List.nil_append]
  rw [rh_setT h255]
  repeat (first | refine za rfl rfl ?_ | refine zb rfl ?_ | refine zc rfl ?_)
  refine TS.start [(0, true), (1, true), (2, true), (3, true), (4, true), (5, true), (6, true), (7, true), (8, true), (9, true), (10, true), (11, true), (12, false), (13, true), (14, true), (15, true), (16, true), (17, true), (18, true), (19, true)] [(bb, .row (blC p.sl sec h (.map q)) 91)] mixed (by kernel_rfl) (by kernel_rfl) (by decide) (by simp [setN]) ?_
  repeat refine TS.p tbk rfl rfl ?_
  refine TS.y rfl rfl rfl rfl (Y.load szk rfl rfl (fun w h => h.cell (i := 0) rfl rfl)) ?_
  repeat refine TS.p tbk rfl rfl ?_
  refine TS.y rfl rfl rfl rfl (Y.load szk rfl rfl (fun w h => h.cell (i := 0) rfl rfl)) ?_
  repeat refine TS.p tbk rfl rfl ?_
  refine TS.y rfl rfl rfl rfl (Y.load szk rfl rfl (fun w h => h.cell (i := 0) rfl rfl)) ?_
  refine TS.callS [_, _, _] rfl Tryz.call106 rfl rfl rfl rfl (rhPack q xb 0 r.name (typeOf r) r.cls r.ttl r.len hr.name hr.nlab k p hp (by omega)) (fun w' hA => st_rowL (Ml := [(yb, .row (bodyCells r xv) _), (xb, .row (rhCells r.name (typeOf r) r.cls r.ttl r.len) 116), (bb, .row (blC p.sl sec h (.map q)) 91)]) hA (i := 1) rfl (fun j v hj => by rw [Nat.zero_add]; exact hj)) (fun y => by simp) (fun y1 => TS.and fun ⟨ok1, ⟨E1, hE1, hL1⟩, o1, n1, b1, l1⟩ => ?_)
  repeat refine TS.p tbk rfl rfl ?_
  refine TS.nil ?_
  have l1' : y1.B.length = p.B.length + E1.length := by rw [hE1]; simp
  have hbp := hpk yb y1 _ ok1 (by omega)
  repeat (first | refine za rfl rfl ?_ | refine zb rfl ?_ | refine zc rfl ?_)
  refine T.condF rfl rfl ?_
  repeat (first | refine za rfl rfl ?_ | refine zb rfl ?_ | refine zc rfl ?_)
  refine TS.start [(0, true), (1, true), (2, true), (3, true), (4, true), (5, true), (6, true), (7, true), (8, true), (9, false), (10, true), (11, true), (12, true), (13, true), (14, true)] [(bb, .row (blC p.sl sec h (.map q)) 91)] mixed (by kernel_rfl) (by kernel_rfl) (by decide) (by simp [setN]) ?_
  repeat refine TS.p tbk rfl rfl ?_
  refine TS.y rfl rfl rfl rfl (Y.load szk rfl rfl (fun w h => h.cell (i := 0) rfl rfl)) ?_
  repeat refine TS.p tbk rfl rfl ?_
  refine TS.y rfl rfl rfl rfl (Y.load szk rfl rfl (fun w h => h.cell (i := 0) rfl rfl)) ?_
  refine TS.callS [_, _, _] rfl Tryz.call110 rfl rfl rfl rfl hbp (fun w' hA => ⟨xv, st_rowL (Ml := [(yb, .row (bodyCells r xv) _), (xb, .row (rhCells r.name (typeOf r) r.cls r.ttl r.len) 116), (bb, .row (blC p.sl sec h (.map q)) 91)]) hA (i := 0) rfl (fun j v hj => by rw [Nat.zero_add]; exact hj), bodyX_mono (st_viewLe hA (Mc := y1.mem q) fun _ hp => List.mem_append_right _ hp) hx⟩) (fun y => by simp) (fun y2 => TS.and fun ⟨ok2, ⟨E2, hE2, hL2⟩, b2⟩ => ?_)
  repeat refine TS.p tbk rfl rfl ?_
  refine TS.nil ?_
  have l2 : y2.B.length = y1.B.length + E2.length := by rw [hE2]; simp
  repeat (first | refine za rfl rfl ?_ | refine zb rfl ?_ | refine zc rfl ?_)
  refine T.condF rfl rfl ?_
  repeat (first | refine za rfl rfl ?_ | refine zb rfl ?_ | refine zc rfl ?_)
  have hfix := fixLen q xb 0 (rhCells r.name (typeOf r) r.cls r.ttl r.len) 116 (by rw [rhCells_length h255]; exact Nat.le_refl _) k y2 (y1.B.length - 2) ok2 (by omega) (by omega)
  rw [show y1.B.length - 2 + 2 = y1.B.length by omega] at hfix
  refine TL.mono (fun w hA => hA.perm (M' := [(yb, .row (bodyCells r xv) _), (bb, .row (blC p.sl sec h (.map q)) 91)] ++ ((xb, .row (rhCells r.name (typeOf r) r.cls r.ttl r.len) 116) :: y2.mem q)) (List.Perm.cons _ (List.Perm.swap _ _ _))) ?_
  refine TL.callS [_, _] Tryz.call107 rfl rfl rfl rfl hfix (fun _ _ => trivial) (fun y3 => TL.and fun ⟨ok3, e3, s3⟩ => ?_)
  repeat (first | refine za rfl rfl ?_ | refine zb rfl ?_ | refine zc rfl ?_)
  refine T.condF rfl rfl ?_
  repeat (first | refine za rfl rfl ?_ | refine zb rfl ?_ | refine zc rfl ?_)
  refine TL.call1 1 Tryz.call57 rfl rfl rfl rfl (incr bb sec (by omega) hs5 p.sl (.map q) h hf) (fun w' hA => hg.mono (st_viewLe hA (Mc := [(bb, .row (blC p.sl sec h (.map q)) 91)]) fun _ hp => by simp at hp; subst hp; simp)) (fun _ => TL.and fun _ => ?_)
  repeat (first | refine za rfl rfl ?_ | refine zb rfl ?_ | refine zc rfl ?_)
  refine T.condF rfl rfl ?_
  repeat (first | refine za rfl rfl ?_ | refine zb rfl ?_ | refine zc rfl ?_)
  refine TL.st 1 szk rfl rfl rfl rfl rfl rfl ?_
  repeat (first | refine za rfl rfl ?_ | refine zb rfl ?_ | refine zc rfl ?_)
  obtain ⟨⟨E, hE, hEl⟩, hrec⟩ := recAt_fix hE1 hE2 n1 b1 l1 b2 e3 hkp (by omega)
  refine T.ret Tryz.func58 rfl (fun w hA => ⟨y3, rfl, ⟨ok3, ⟨E, hE, by omega⟩, hrec⟩, ?_⟩)
  show St _ _ ((bb, Ob.row (blC y3.sl sec (h.inc sec) (Value.map q)) 91) :: y3.mem q) w
  rw [s3]
  exact hA.sub (List.Sublist.cons _ (List.Sublist.cons_cons _ (List.Sublist.cons _ (List.Sublist.refl _))))
theorem resB2 (bb sec : Nat) (hs3 : 3 ≤ sec) (hs5 : sec ≤ 5) (h : Bh) (hf : h.few) (q : Option Nat) (r : Rc) (hr : r.Ok) (hk : r.kind = 2) (xv : Value) (k : Nat) (p : Pk) (hp : p.ok ⟨k, none⟩ q) (hB : p.B.length + 5000 ≤ 4294967296) : ResCt 60 bb sec h q r xv k p := by
  intro w hS ⟨hg, hx⟩
  have e := congrArg Int.toNat hk
  have hreal : ∀ {yb : Nat}, Ct (β := Unit) Tryz.prog 111 [ptr yb 0] [] (fun w => BodyMem (view [] w) yb 0 r) (fun _ => .int .u16 (typeOf r : Int)) (fun _ _ => True) (fun _ => []) := fun {yb} => by
    have := realType yb 0 r hr
    rw [e] at this; exact this
  have hpk : ∀ (yb : Nat) (y1 : Pk) (hole : Hole), y1.ok hole q → y1.B.length + 4000 ≤ 4294967296 → BodyCt 112 r q y1 hole yb 0 := fun yb y1 hole ok1 hb => by
    have := bodyPack q yb 0 r hr y1 hole ok1 hb
    rw [e] at this; exact this
  unfold bmem at *
  have hs2 := hr.name.len
  have h255 : r.name.length ≤ 255 := by omega
  have hrl := rhCells_length (t := r.typ) (c := r.cls) (ttl := r.ttl) (len := r.len) h255
  have hkp := hp.hole.base
  simp only at hkp
  refine calls_of_T (m := 81) Tryz.func60 rfl rfl (by simp) hS ?_
  repeat (first | refine za rfl rfl ?_ | refine zb rfl ?_ | refine zc rfl ?_)
  refine TL.box (cs := rhCells r.name r.typ r.cls r.ttl r.len) rfl rfl rfl rfl (fun xb => ?_)
  refine TL.box (cs := bodyCells r xv) rfl rfl rfl rfl (fun yb => ?_)
  repeat (first | refine za rfl rfl ?_ | refine zb rfl ?_ | refine zc rfl ?_)
  refine TL.call0 Tryz.call108 rfl rfl rfl (checkSection bb sec hs3 hs5) (fun w' hA => blView hA (i := 2) rfl) (fun _ => TL.and fun _ => ?_)
  repeat (first | refine za rfl rfl ?_ | refine zb rfl ?_ | refine zc rfl ?_)
  refine T.condF rfl rfl ?_
  repeat (first | refine za rfl rfl ?_ | refine zb rfl ?_ | refine zc rfl ?_)
  refine TL.call0 Tryz.call111 rfl rfl rfl hreal (fun w' hA => ⟨xv, hA.view (i := 0) rfl (by simp) (fun j v hj => by rw [Nat.zero_add]; exact hj), bodyX_mono (st_viewLe hA (Mc := []) fun _ hp => by cases hp) hx⟩) (fun _ => TL.and fun _ => ?_)
  repeat (first | refine za rfl rfl ?_ | refine zb rfl ?_ | refine zc rfl ?_)
  refine TL.st 1 szk rfl rfl rfl rfl rfl (by rw [hrl]; rfl) ?_
  simp only [setN, List.nil_append]
  rw [rh_setT h255]
  repeat (first | refine za rfl rfl ?_ | refine zb rfl ?_ | refine zc rfl ?_)
  refine TS.start [(0, true), (1, true), (2, true), (3, true), (4, true), (5, true), (6, true), (7, true), (8, true), (9, true), (10, true), (11, true), (12, false), (13, true), (14, true), (15, true), (16, true), (17, true), (18, true), (19, true)] [(bb, .row (blC p.sl sec h (.map q)) 91)] mixed (by kernel_rfl) (by kernel_rfl) (by decide) (by simp [setN]) ?_
  repeat refine TS.p tbk rfl rfl ?_
  refine TS.y rfl rfl rfl rfl (Y.load szk rfl rfl (fun w h => h.cell (i := 0) rfl rfl)) ?_
  repeat refine TS.p tbk rfl rfl ?_
  refine TS.y rfl rfl rfl rfl (Y.load szk rfl rfl (fun w h => h.cell (i := 0) rfl rfl)) ?_
  repeat refine TS.p tbk rfl rfl ?_
  refine TS.y rfl rfl rfl rfl (Y.load szk rfl rfl (fun w h => h.cell (i := 0) rfl rfl)) ?_
  refine TS.callS [_, _, _] rfl Tryz.call106 rfl rfl rfl rfl (rhPack q xb 0 r.name (typeOf r) r.cls r.ttl r.len hr.name hr.nlab k p hp (by omega)) (fun w' hA => st_rowL (Ml := [(yb, .row (bodyCells r xv) _), (xb, .row (rhCells r.name (typeOf r) r.cls r.ttl r.len) 116), (bb, .row (blC p.sl sec h (.map q)) 91)]) hA (i := 1) rfl (fun j v hj => by rw [Nat.zero_add]; exact hj)) (fun y => by simp) (fun y1 => TS.and fun ⟨ok1, ⟨E1, hE1, hL1⟩, o1, n1, b1, l1⟩ => ?_)
  repeat refine TS.p tbk rfl rfl ?_
  refine TS.nil ?_
  have l1' : y1.B.length = p.B.length + E1.length := by rw [hE1]; simp
  have hbp := hpk yb y1 _ ok1 (by omega)
  repeat (first | refine za rfl rfl ?_ | refine zb rfl ?_ | refine zc rfl ?_)
  refine T.condF rfl rfl ?_
  repeat (first | refine za rfl rfl ?_ | refine zb rfl ?_ | refine zc rfl ?_)
  refine TS.start [(0, true), (1, true), (2, true), (3, true), (4, true), (5, true), (6, true), (7, true), (8, true), (9, false), (10, true), (11, true), (12, true), (13, true), (14, true)] [(bb, .row (blC p.sl sec h (.map q)) 91)] mixed (by kernel_rfl) (by kernel_rfl) (by decide) (by simp [setN]) ?_
  repeat refine TS.p tbk rfl rfl ?_
  refine TS.y rfl rfl rfl rfl (Y.load szk rfl rfl (fun w h => h.cell (i := 0) rfl rfl)) ?_
  repeat refine TS.p tbk rfl rfl ?_
  refine TS.y rfl rfl rfl rfl (Y.load szk rfl rfl (fun w h => h.cell (i := 0) rfl rfl)) ?_
  refine TS.callS [_, _, _] rfl Tryz.call112 rfl rfl rfl rfl hbp (fun w' hA => ⟨xv, st_rowL (Ml := [(yb, .row (bodyCells r xv) _), (xb, .row (rhCells r.name (typeOf r) r.cls r.ttl r.len) 116), (bb, .row (blC p.sl sec h (.map q)) 91)]) hA (i := 0) rfl (fun j v hj => by rw [Nat.zero_add]; exact hj), bodyX_mono (st_viewLe hA (Mc := y1.mem q) fun _ hp => List.mem_append_right _ hp) hx⟩) (fun y => by simp) (fun y2 => TS.and fun ⟨ok2, ⟨E2, hE2, hL2⟩, b2⟩ => ?_)
  repeat refine TS.p tbk rfl rfl ?_
  refine TS.nil ?_
  have l2 : y2.B.length = y1.B.length + E2.length := by rw [hE2]; simp
  repeat (first | refine za rfl rfl ?_ | refine zb rfl ?_ | refine zc rfl ?_)
  refine T.condF rfl rfl ?_
  repeat (first | refine za rfl rfl ?_ | refine zb rfl ?_ | refine zc rfl ?_)
  have hfix := fixLen q xb 0 (rhCells r.name (typeOf r) r.cls r.ttl r.len) 116 (by rw [rhCells_length h255]; exact Nat.le_refl _) k y2 (y1.B.length - 2) ok2 (by omega) (by omega)
  rw [show y1.B.length - 2 + 2 = y1.B.length by omega] at hfix
  refine TL.mono (fun w hA => hA.perm (M' := [(yb, .row (bodyCells r xv) _), (bb, .row (blC p.sl sec h (.map q)) 91)] ++ ((xb, .row (rhCells r.name (typeOf r) r.cls r.ttl r.len) 116) :: y2.mem q)) (List.Perm.cons _ (List.Perm.swap _ _ _))) ?_
  refine TL.callS [_, _] Tryz.call107 rfl rfl rfl rfl hfix (fun _ _ => trivial) (fun y3 => TL.and fun ⟨ok3, e3, s3⟩ => ?_)
  repeat (first | refine za rfl rfl ?_ | refine zb rfl ?_ | refine zc rfl ?_)
  refine T.condF rfl rfl ?_
  repeat (first | refine za rfl rfl ?_ | refine zb rfl ?_ | refine zc rfl ?_)
  refine TL.call1 1 Tryz.call57 rfl rfl rfl rfl (incr bb sec (by omega) hs5 p.sl (.map q) h hf) (fun w' hA => hg.mono (st_viewLe hA (Mc := [(bb, .row (blC p.sl sec h (.map q)) 91)]) fun _ hp => by simp at hp; subst hp; simp)) (fun _ => TL.and fun _ => ?_)
  repeat (first | refine za rfl rfl ?_ | refine zb rfl ?_ | refine zc rfl ?_)
  refine T.condF rfl rfl ?_
  repeat (first | refine za rfl rfl ?_ | refine zb rfl ?_ | refine zc rfl ?_)
  refine TL.st 1 szk rfl rfl rfl rfl rfl rfl ?_
  repeat (first | refine za rfl rfl ?_ | refine zb rfl ?_ | refine zc rfl ?_)
  obtain ⟨⟨E, hE, hEl⟩, hrec⟩ := recAt_fix hE1 hE2 n1 b1 l1 b2 e3 hkp (by omega)
  refine T.ret Tryz.func60 rfl (fun w hA => ⟨y3, rfl, ⟨ok3, ⟨E, hE, by omega⟩, hrec⟩, ?_⟩)
  show St _ _ ((bb, Ob.row (blC y3.sl sec (h.inc sec) (Value.map q)) 91) :: y3.mem q) w
  rw [s3]
  exact hA.sub (List.Sublist.cons _ (List.Sublist.cons_cons _ (List.Sublist.cons _ (List.Sublist.refl _))))
theorem resB3 (bb sec : Nat) (hs3 : 3 ≤ sec) (hs5 : sec ≤ 5) (h : Bh) (hf : h.few) (q : Option Nat) (r : Rc) (hr : r.Ok) (hk : r.kind = 3) (xv : Value) (k : Nat) (p : Pk) (hp : p.ok ⟨k, none⟩ q) (hB : p.B.length + 5000 ≤ 4294967296) : ResCt 62 bb sec h q r xv k p := by
  intro w hS ⟨hg, hx⟩
  have e := congrArg Int.toNat hk
  have hreal : ∀ {yb : Nat}, Ct (β := Unit) Tryz.prog 113 [ptr yb 0] [] (fun w => BodyMem (view [] w) yb 0 r) (fun _ => .int .u16 (typeOf r : Int)) (fun _ _ => True) (fun _ => []) := fun {yb} => by
    have := realType yb 0 r hr
    rw [e] at this; exact this
  have hpk : ∀ (yb : Nat) (y1 : Pk) (hole : Hole), y1.ok hole q → y1.B.length + 4000 ≤ 4294967296 → BodyCt 114 r q y1 hole yb 0 := fun yb y1 hole ok1 hb => by
    have := bodyPack q yb 0 r hr y1 hole ok1 hb
    rw [e] at this; exact this
  unfold bmem at *
  have hs2 := hr.name.len
  have h255 : r.name.length ≤ 255 := by omega
  have hrl := rhCells_length (t := r.typ) (c := r.cls) (ttl := r.ttl) (len := r.len) h255
  have hkp := hp.hole.base
  simp only at hkp
  refine calls_of_T (m := 81) Tryz.func62 rfl rfl (by simp) hS ?_
  repeat (first | refine za rfl rfl ?_ | refine zb rfl ?_ | refine zc rfl ?_)
  refine TL.box (cs := rhCells r.name r.typ r.cls r.ttl r.len) rfl rfl rfl rfl (fun xb => ?_)
  refine TL.box (cs := bodyCells r xv) rfl rfl rfl rfl (fun yb => ?_)
  repeat (first | refine za rfl rfl ?_ | refine zb rfl ?_ | refine zc rfl ?_)
  refine TL.call0 Tryz.call108 rfl rfl rfl (checkSection bb sec hs3 hs5) (fun w' hA => blView hA (i := 2) rfl) (fun _ => TL.and fun _ => ?_)
  repeat (first | refine za rfl rfl ?_ | refine zb rfl ?_ | refine zc rfl ?_)
  refine T.condF rfl rfl ?_
  repeat (first | refine za rfl rfl ?_ | refine zb rfl ?_ | refine zc rfl ?_)
  refine TL.call0 Tryz.call113 rfl rfl rfl hreal (fun w' hA => ⟨xv, hA.view (i := 0) rfl (by simp) (fun j v hj => by rw [Nat.zero_add]; exact hj), bodyX_mono (st_viewLe hA (Mc := []) fun _ hp => by cases hp) hx⟩) (fun _ => TL.and fun _ => ?_)
  repeat (first | refine za rfl rfl ?_ | refine zb rfl ?_ | refine zc rfl ?_)
  refine TL.st 1 szk rfl rfl rfl rfl rfl (by rw [hrl]; rfl) ?_
  simp only [setN, List.nil_append]
  rw [rh_setT h255]
  repeat (first | refine za rfl rfl ?_ | refine zb rfl ?_ | refine zc rfl ?_)
  refine TS.start [(0, true), (1, true), (2, true), (3, true), (4, true), (5, true), (6, true), (7, true), (8, true), (9, true), (10, true), (11, true), (12, false), (13, true), (14, true), (15, true), (16, true), (17, true), (18, true), (19, true)] [(bb, .row (blC p.sl sec h (.map q)) 91)] mixed (by kernel_rfl) (by kernel_rfl) (by decide) (by simp [setN]) ?_
  repeat refine TS.p tbk rfl rfl ?_
  refine TS.y rfl rfl rfl rfl (Y.load szk rfl rfl (fun w h => h.cell (i := 0) rfl rfl)) ?_
  repeat refine TS.p tbk rfl rfl ?_
  refine TS.y rfl rfl rfl rfl (Y.load szk rfl rfl (fun w h => h.cell (i := 0) rfl rfl)) ?_
  repeat refine TS.p tbk rfl rfl ?_
  refine TS.y rfl rfl rfl rfl (Y.load szk rfl rfl (fun w h => h.cell (i := 0) rfl rfl)) ?_
  refine TS.callS [_, _, _] rfl Tryz.call106 rfl rfl rfl rfl (rhPack q xb 0 r.name (typeOf r) r.cls r.ttl r.len hr.name hr.nlab k p hp (by omega)) (fun w' hA => st_rowL (Ml := [(yb, .row (bodyCells r xv) _), (xb, .row (rhCells r.name (typeOf r) r.cls r.ttl r.len) 116), (bb, .row (blC p.sl sec h (.map q)) 91)]) hA (i := 1) rfl (fun j v hj => by rw [Nat.zero_add]; exact hj)) (fun y => by simp) (fun y1 => TS.and fun ⟨ok1, ⟨E1, hE1, hL1⟩, o1, n1, b1, l1⟩ => ?_)
  repeat refine TS.p tbk rfl rfl ?_
  refine TS.nil ?_
  have l1' : y1.B.length = p.B.length + E1.length := by rw [hE1]; simp
  have hbp := hpk yb y1 _ ok1 (by omega)
  repeat (first | refine za rfl rfl ?_ | refine zb rfl ?_ | refine zc rfl ?_)
  refine T.condF rfl rfl ?_
  repeat (first | refine za rfl rfl ?_ | refine zb rfl ?_ | refine zc rfl ?_)
  refine TS.start [(0, true), (1, true), (2, true), (3, true), (4, true), (5, true), (6, true), (7, true), (8, true), (9, false), (10, true), (11, true), (12, true), (13, true), (14, true)] [(bb, .row (blC p.sl sec h (.map q)) 91)] mixed (by kernel_rfl) (by kernel_rfl) (by decide) (by simp [setN]) ?_
  repeat refine TS.p tbk rfl rfl ?_
  refine TS.y rfl rfl rfl rfl (Y.load szk rfl rfl (fun w h => h.cell (i := 0) rfl rfl)) ?_
  repeat refine TS.p tbk rfl rfl ?_
  refine TS.y rfl rfl rfl rfl (Y.load szk rfl rfl (fun w h => h.cell (i := 0) rfl rfl)) ?_
  refine TS.callS [_, _, _] rfl Tryz.call114 rfl rfl rfl rfl hbp (fun w' hA => ⟨xv, st_rowL (Ml := [(yb, .row (bodyCells r xv) _), (xb, .row (rhCells r.name (typeOf r) r.cls r.ttl r.len) 116), (bb, .row (blC p.sl sec h (.map q)) 91)]) hA (i := 0) rfl (fun j v hj => by rw [Nat.zero_add]; exact hj), bodyX_mono (st_viewLe hA (Mc := y1.mem q) fun _ hp => List.mem_append_right _ hp) hx⟩) (fun y => by simp) (fun y2 => TS.and fun ⟨ok2, ⟨E2, hE2, hL2⟩, b2⟩ => ?_)
  repeat refine TS.p tbk rfl rfl ?_
  refine TS.nil ?_
  have l2 : y2.B.length = y1.B.length + E2.length := by rw [hE2]; simp
  repeat (first | refine za rfl rfl ?_ | refine zb rfl ?_ | refine zc rfl ?_)
  refine T.condF rfl rfl ?_
  repeat (first | refine za rfl rfl ?_ | refine zb rfl ?_ | refine zc rfl ?_)
  have hfix := fixLen q xb 0 (rhCells r.name (typeOf r) r.cls r.ttl r.len) 116 (by rw [rhCells_length h255]; exact Nat.le_refl _) k y2 (y1.B.length - 2) ok2 (by omega) (by omega)
  rw [show y1.B.length - 2 + 2 = y1.B.length by omega] at hfix
  refine TL.mono (fun w hA => hA.perm (M' := [(yb, .row (bodyCells r xv) _), (bb, .row (blC p.sl sec h (.map q)) 91)] ++ ((xb, .row (rhCells r.name (typeOf r) r.cls r.ttl r.len) 116) :: y2.mem q)) (List.Perm.cons _ (List.Perm.swap _ _ _))) ?_
  refine TL.callS [_, _] Tryz.call107 rfl rfl rfl rfl hfix (fun _ _ => trivial) (fun y3 => TL.and fun ⟨ok3, e3, s3⟩ => ?_)
  repeat (first | refine za rfl rfl ?_ | refine zb rfl ?_ | refine zc rfl ?_)
  refine T.condF rfl rfl ?_
  repeat (first | refine za rfl rfl ?_ | refine zb rfl ?_ | refine zc rfl ?_)
  refine TL.call1 1 Tryz.call57 rfl rfl rfl rfl (incr bb sec (by omega) hs5 p.sl (.map q) h hf) (fun w' hA => hg.mono (st_viewLe hA (Mc := [(bb, .row (blC p.sl sec h (.map q)) 91)]) fun _ hp => by simp at hp; subst hp; simp)) (fun _ => TL.and fun _ => ?_)
  repeat (first | refine za rfl rfl ?_ | refine zb rfl ?_ | refine zc rfl ?_)
  refine T.condF rfl rfl ?_
  repeat (first | refine za rfl rfl ?_ | refine zb rfl ?_ | refine zc rfl ?_)
  refine TL.st 1 szk rfl rfl rfl rfl rfl rfl ?_
  repeat (first | refine za rfl rfl ?_ | refine zb rfl ?_ | refine zc rfl ?_)
  obtain ⟨⟨E, hE, hEl⟩, hrec⟩ := recAt_fix hE1 hE2 n1 b1 l1 b2 e3 hkp (by omega)
  refine T.ret Tryz.func62 rfl (fun w hA => ⟨y3, rfl, ⟨ok3, ⟨E, hE, by omega⟩, hrec⟩, ?_⟩)
  show St _ _ ((bb, Ob.row (blC y3.sl sec (h.inc sec) (Value.map q)) 91) :: y3.mem q) w
  rw [s3]
  exact hA.sub (List.Sublist.cons _ (List.Sublist.cons_cons _ (List.Sublist.cons _ (List.Sublist.refl _))))
theorem resB4 (bb sec : Nat) (hs3 : 3 ≤ sec) (hs5 : sec ≤ 5) (h : Bh) (hf : h.few) (q : Option Nat) (r : Rc) (hr : r.Ok) (hk : r.kind = 4) (xv : Value) (k : Nat) (p : Pk) (hp : p.ok ⟨k, none⟩ q) (hB : p.B.length + 5000 ≤ 4294967296) : ResCt 64 bb sec h q r xv k p := by
  intro w hS ⟨hg, hx⟩
  have e := congrArg Int.toNat hk
  have hreal : ∀ {yb : Nat}, Ct (β := Unit) Tryz.prog 115 [ptr yb 0] [] (fun w => BodyMem (view [] w) yb 0 r) (fun _ => .int .u16 (typeOf r : Int)) (fun _ _ => True) (fun _ => []) := fun {yb} => by
    have := realType yb 0 r hr
    rw [e] at this; exact this
  have hpk : ∀ (yb : Nat) (y1 : Pk) (hole : Hole), y1.ok hole q → y1.B.length + 4000 ≤ 4294967296 → BodyCt 116 r q y1 hole yb 0 := fun yb y1 hole ok1 hb => by
    have := bodyPack q yb 0 r hr y1 hole ok1 hb
    rw [e] at this; exact this
  unfold bmem at *
  have hs2 := hr.name.len
  have h255 : r.name.length ≤ 255 := by omega
  have hrl := rhCells_length (t := r.typ) (c := r.cls) (ttl := r.ttl) (len := r.len) h255
  have hkp := hp.hole.base
  simp only at hkp
  refine calls_of_T (m := 81) Tryz.func64 rfl rfl (by simp) hS ?_
  repeat (first | refine za rfl rfl ?_ | refine zb rfl ?_ | refine zc rfl ?_)
  refine TL.box (cs := rhCells r.name r.typ r.cls r.ttl r.len) rfl rfl rfl rfl (fun xb => ?_)
  refine TL.box (cs := bodyCells r xv) rfl rfl rfl rfl (fun yb => ?_)
  repeat (first | refine za rfl rfl ?_ | refine zb rfl ?_ | refine zc rfl ?_)
  refine TL.call0 Tryz.call108 rfl rfl rfl (checkSection bb sec hs3 hs5) (fun w' hA => blView hA (i := 2) rfl) (fun _ => TL.and fun _ => ?_)
  repeat (first | refine za rfl rfl ?_ | refine zb rfl ?_ | refine zc rfl ?_)
  refine T.condF rfl rfl ?_
  repeat (first | refine za rfl rfl ?_ | refine zb rfl ?_ | refine zc rfl ?_)
  refine TL.call0 Tryz.call115 rfl rfl rfl hreal (fun w' hA => ⟨xv, hA.view (i := 0) rfl (by simp) (fun j v hj => by rw [Nat.zero_add]; exact hj), bodyX_mono (st_viewLe hA (Mc := []) fun _ hp => by cases hp) hx⟩) (fun _ => TL.and fun _ => ?_)
  repeat (first | refine za rfl rfl ?_ | refine zb rfl ?_ | refine zc rfl ?_)
  refine TL.st 1 szk rfl rfl rfl rfl rfl (by rw [hrl]; rfl) ?_
  simp only [setN, List.nil_append]
  rw [rh_setT h255]
  repeat (first | refine za rfl rfl ?_ | refine zb rfl ?_ | refine zc rfl ?_)
  refine TS.start [(0, true), (1, true), (2, true), (3, true), (4, true), (5, true), (6, true), (7, true), (8, true), (9, true), (10, true), (11, true), (12, false), (13, true), (14, true), (15, true), (16, true), (17, true), (18, true), (19, true)] [(bb, .row (blC p.sl sec h (.map q)) 91)] mixed (by kernel_rfl) (by kernel_rfl) (by decide) (by simp [setN]) ?_
  repeat refine TS.p tbk rfl rfl ?_
  refine TS.y rfl rfl rfl rfl (Y.load szk rfl rfl (fun w h => h.cell (i := 0) rfl rfl)) ?_
  repeat refine TS.p tbk rfl rfl ?_
  refine TS.y rfl rfl rfl rfl (Y.load szk rfl rfl (fun w h => h.cell (i := 0) rfl rfl)) ?_
  repeat refine TS.p tbk rfl rfl ?_
  refine TS.y rfl rfl rfl rfl (Y.load szk rfl rfl (fun w h => h.cell (i := 0) rfl rfl)) ?_
  refine TS.callS [_, _, _] rfl Tryz.call106 rfl rfl rfl rfl (rhPack q xb 0 r.name (typeOf r) r.cls r.ttl r.len hr.name hr.nlab k p hp (by omega)) (fun w' hA => st_rowL (Ml := [(yb, .row (bodyCells r xv) _), (xb, .row (rhCells r.name (typeOf r) r.cls r.ttl r.len) 116), (bb, .row (blC p.sl sec h (.map q)) 91)]) hA (i := 1) rfl (fun j v hj => by rw [Nat.zero_add]; exact hj)) (fun y => by simp) (fun y1 => TS.and fun ⟨ok1, ⟨E1, hE1, hL1⟩, o1, n1, b1, l1⟩ => ?_)
  repeat refine TS.p tbk rfl rfl ?_
  refine TS.nil ?_
  have l1' : y1.B.length = p.B.length + E1.length := by rw [hE1]; simp
  have hbp := hpk yb y1 _ ok1 (by omega)
  repeat (first | refine za rfl rfl ?_ | refine zb rfl ?_ | refine zc rfl ?_)
  refine T.condF rfl rfl ?_
  repeat (first | refine za rfl rfl ?_ | refine zb rfl ?_ | refine zc rfl ?_)
  refine TS.start [(0, true), (1, true), (2, true), (3, true), (4, true), (5, true), (6, true), (7, true), (8, true), (9, false), (10, true), (11, true), (12, true), (13, true), (14, true)] [(bb, .row (blC p.sl sec h (.map q)) 91)] mixed (by kernel_rfl) (by kernel_rfl) (by decide) (by simp [setN]) ?_
  repeat refine TS.p tbk rfl rfl ?_
  refine TS.y rfl rfl rfl rfl (Y.load szk rfl rfl (fun w h => h.cell (i := 0) rfl rfl)) ?_
  repeat refine TS.p tbk rfl rfl ?_
  refine TS.y rfl rfl rfl rfl (Y.load szk rfl rfl (fun w h => h.cell (i := 0) rfl rfl)) ?_
  refine TS.callS [_, _, _] rfl Tryz.call116 rfl rfl rfl rfl hbp (fun w' hA => ⟨xv, st_rowL (Ml := [(yb, .row (bodyCells r xv) _), (xb, .row (rhCells r.name (typeOf r) r.cls r.ttl r.len) 116), (bb, .row (blC p.sl sec h (.map q)) 91)]) hA (i := 0) rfl (fun j v hj => by rw [Nat.zero_add]; exact hj), bodyX_mono (st_viewLe hA (Mc := y1.mem q) fun _ hp => List.mem_append_right _ hp) hx⟩) (fun y => by simp) (fun y2 => TS.and fun ⟨ok2, ⟨E2, hE2, hL2⟩, b2⟩ => ?_)
  repeat refine TS.p tbk rfl rfl ?_
  refine TS.nil ?_
  have l2 : y2.B.length = y1.B.length + E2.length := by rw [hE2]; simp
  repeat (first | refine za rfl rfl ?_ | refine zb rfl ?_ | refine zc rfl ?_)
  refine T.condF rfl rfl ?_
  repeat (first | refine za rfl rfl ?_ | refine zb rfl ?_ | refine zc rfl ?_)
  have hfix := fixLen q xb 0 (rhCells r.name (typeOf r) r.cls r.ttl r.len) 116 (by rw [rhCells_length h255]; exact Nat.le_refl _) k y2 (y1.B.length - 2) ok2 (by omega) (by omega)
  rw [show y1.B.length - 2 + 2 = y1.B.length by omega] at hfix
  refine TL.mono (fun w hA => hA.perm (M' := [(yb, .row (bodyCells r xv) _), (bb, .row (blC p.sl sec h (.map q)) 91)] ++ ((xb, .row (rhCells r.name (typeOf r) r.cls r.ttl r.len) 116) :: y2.mem q)) (List.Perm.cons _ (List.Perm.swap _ _ _))) ?_
  refine TL.callS [_, _] Tryz.call107 rfl rfl rfl rfl hfix (fun _ _ => trivial) (fun y3 => TL.and fun ⟨ok3, e3, s3⟩ => ?_)
  repeat (first | refine za rfl rfl ?_ | refine zb rfl ?_ | refine zc rfl ?_)
  refine T.condF rfl rfl ?_
  repeat (first | refine za rfl rfl ?_ | refine zb rfl ?_ | refine zc rfl ?_)
  refine TL.call1 1 Tryz.call57 rfl rfl rfl rfl (incr bb sec (by omega) hs5 p.sl (.map q) h hf) (fun w' hA => hg.mono (st_viewLe hA (Mc := [(bb, .row (blC p.sl sec h (.map q)) 91)]) fun _ hp => by simp at hp; subst hp; simp)) (fun _ => TL.and fun _ => ?_)
  repeat (first | refine za rfl rfl ?_ | refine zb rfl ?_ | refine zc rfl ?_)
  refine T.condF rfl rfl ?_
  repeat (first | refine za rfl rfl ?_ | refine zb rfl ?_ | refine zc rfl ?_)
  refine TL.st 1 szk rfl rfl rfl rfl rfl rfl ?_
  repeat (first | refine za rfl rfl ?_ | refine zb rfl ?_ | refine zc rfl ?_)
  obtain ⟨⟨E, hE, hEl⟩, hrec⟩ := recAt_fix hE1 hE2 n1 b1 l1 b2 e3 hkp (by omega)
  refine T.ret Tryz.func64 rfl (fun w hA => ⟨y3, rfl, ⟨ok3, ⟨E, hE, by omega⟩, hrec⟩, ?_⟩)
  show St _ _ ((bb, Ob.row (blC y3.sl sec (h.inc sec) (Value.map q)) 91) :: y3.mem q) w
  rw [s3]
  exact hA.sub (List.Sublist.cons _ (List.Sublist.cons_cons _ (List.Sublist.cons _ (List.Sublist.refl _))))
theorem resB5 (bb sec : Nat) (hs3 : 3 ≤ sec) (hs5 : sec ≤ 5) (h : Bh) (hf : h.few) (q : Option Nat) (r : Rc) (hr : r.Ok) (hk : r.kind = 5) (xv : Value) (k : Nat) (p : Pk) (hp : p.ok ⟨k, none⟩ q) (hB : p.B.length + 5000 ≤ 4294967296) : ResCt 66 bb sec h q r xv k p := by
  intro w hS ⟨hg, hx⟩
  have e := congrArg Int.toNat hk
  have hreal : ∀ {yb : Nat}, Ct (β := Unit) Tryz.prog 117 [ptr yb 0] [] (fun w => BodyMem (view [] w) yb 0 r) (fun _ => .int .u16 (typeOf r : Int)) (fun _ _ => True) (fun _ => []) := fun {yb} => by
    have := realType yb 0 r hr
    rw [e] at this; exact this
  have hpk : ∀ (yb : Nat) (y1 : Pk) (hole : Hole), y1.ok hole q → y1.B.length + 4000 ≤ 4294967296 → BodyCt 118 r q y1 hole yb 0 := fun yb y1 hole ok1 hb => by
    have := bodyPack q yb 0 r hr y1 hole ok1 hb
    rw [e] at this; exact this
  unfold bmem at *
  have hs2 := hr.name.len
  have h255 : r.name.length ≤ 255 := by omega
  have hrl := rhCells_length (t := r.typ) (c := r.cls) (ttl := r.ttl) (len := r.len) h255
  have hkp := hp.hole.base
  simp only at hkp
  refine calls_of_T (m := 81) Tryz.func66 rfl rfl (by simp) hS ?_
  repeat (first | refine za rfl rfl ?_ | refine zb rfl ?_ | refine zc rfl ?_)
  refine TL.box (cs := rhCells r.name r.typ r.cls r.ttl r.len) rfl rfl rfl rfl (fun xb => ?_)
  refine TL.box (cs := bodyCells r xv) rfl rfl rfl rfl (fun yb => ?_)
  repeat (first | refine za rfl rfl ?_ | refine zb rfl ?_ | refine zc rfl ?_)
  refine TL.call0 Tryz.call108 rfl rfl rfl (checkSection bb sec hs3 hs5) (fun w' hA => blView hA (i := 2) rfl) (fun _ => TL.and fun _ => ?_)
  repeat (first | refine za rfl rfl ?_ | refine zb rfl ?_ | refine zc rfl ?_)
  refine T.condF rfl rfl ?_
  repeat (first | refine za rfl rfl ?_ | refine zb rfl ?_ | refine zc rfl ?_)
  refine TL.call0 Tryz.call117 rfl rfl rfl hreal (fun w' hA => ⟨xv, hA.view (i := 0) rfl (by simp) (fun j v hj => by rw [Nat.zero_add]; exact hj), bodyX_mono (st_viewLe hA (Mc := []) fun _ hp => by cases hp) hx⟩) (fun _ => TL.and fun _ => ?_)
  repeat (first | refine za rfl rfl ?_ | refine zb rfl ?_ | refine zc rfl ?_)
  refine TL.st 1 szk rfl rfl rfl rfl rfl (by rw [hrl]; rfl) ?_
  simp only [setN, List.nil_append]
  rw [rh_setT h255]
  repeat (first | refine za rfl rfl ?_ | refine zb rfl ?_ | refine zc rfl ?_)
  refine TS.start [(0, true), (1, true), (2, true), (3, true), (4, true), (5, true), (6, true), (7, true), (8, true), (9, true), (10, true), (11, true), (12, false), (13, true), (14, true), (15, true), (16, true), (17, true), (18, true), (19, true)] [(bb, .row (blC p.sl sec h (.map q)) 91)] mixed (by kernel_rfl) (by kernel_rfl) (by decide) (by simp [setN]) ?_
  repeat refine TS.p tbk rfl rfl ?_
  refine TS.y rfl rfl rfl rfl (Y.load szk rfl rfl (fun w h => h.cell (i := 0) rfl rfl)) ?_
  repeat refine TS.p tbk rfl rfl ?_
  refine TS.y rfl rfl rfl rfl (Y.load szk rfl rfl (fun w h => h.cell (i := 0) rfl rfl)) ?_
  repeat refine TS.p tbk rfl rfl ?_
  refine TS.y rfl rfl rfl rfl (Y.load szk rfl rfl (fun w h => h.cell (i := 0) rfl rfl)) ?_
  refine TS.callS [_, _, _] rfl Tryz.call106 rfl rfl rfl rfl (rhPack q xb 0 r.name (typeOf r) r.cls r.ttl r.len hr.name hr.nlab k p hp (by omega)) (fun w' hA => st_rowL (Ml := [(yb, .row (bodyCells r xv) _), (xb, .row (rhCells r.name (typeOf r) r.cls r.ttl r.len) 116), (bb, .row (blC p.sl sec h (.map q)) 91)]) hA (i := 1) rfl (fun j v hj => by rw [Nat.zero_add]; exact hj)) (fun y => by simp) (fun y1 => TS.and fun ⟨ok1, ⟨E1, hE1, hL1⟩, o1, n1, b1, l1⟩ => ?_)
  repeat refine TS.p tbk rfl rfl ?_
  refine TS.nil ?_
  have l1' : y1.B.length = p.B.length + E1.length := by rw [hE1]; simp
  have hbp := hpk yb y1 _ ok1 (by omega)
  repeat (first | refine za rfl rfl ?_ | refine zb rfl ?_ | refine zc rfl ?_)
  refine T.condF rfl rfl ?_
  repeat (first | refine za rfl rfl ?_ | refine zb rfl ?_ | refine zc rfl ?_)
  refine TS.start [(0, true), (1, true), (2, true), (3, true), (4, true), (5, true), (6, true), (7, true), (8, true), (9, false), (10, true), (11, true), (12, true), (13, true), (14, true)] [(bb, .row (blC p.sl sec h (.map q)) 91)] mixed (by kernel_rfl) (by kernel_rfl) (by decide) (by simp [setN]) ?_
  repeat refine TS.p tbk rfl rfl ?_
  refine TS.y rfl rfl rfl rfl (Y.load szk rfl rfl (fun w h => h.cell (i := 0) rfl rfl)) ?_
  repeat refine TS.p tbk rfl rfl ?_
  refine TS.y rfl rfl rfl rfl (Y.load szk rfl rfl (fun w h => h.cell (i := 0) rfl rfl)) ?_
  refine TS.callS [_, _, _] rfl Tryz.call118 rfl rfl rfl rfl hbp (fun w' hA => ⟨xv, st_rowL (Ml := [(yb, .row (bodyCells r xv) _), (xb, .row (rhCells r.name (typeOf r) r.cls r.ttl r.len) 116), (bb, .row (blC p.sl sec h (.map q)) 91)]) hA (i := 0) rfl (fun j v hj => by rw [Nat.zero_add]; exact hj), bodyX_mono (st_viewLe hA (Mc := y1.mem q) fun _ hp => List.mem_append_right _ hp) hx⟩) (fun y => by simp) (fun y2 => TS.and fun ⟨ok2, ⟨E2, hE2, hL2⟩, b2⟩ => ?_)
  repeat refine TS.p tbk rfl rfl ?_
  refine TS.nil ?_
  have l2 : y2.B.length = y1.B.length + E2.length := by rw [hE2]; simp
  repeat (first | refine za rfl rfl ?_ | refine zb rfl ?_ | refine zc rfl ?_)
  refine T.condF rfl rfl ?_
  repeat (first | refine za rfl rfl ?_ | refine zb rfl ?_ | refine zc rfl ?_)
  have hfix := fixLen q xb 0 (rhCells r.name (typeOf r) r.cls r.ttl r.len) 116 (by rw [rhCells_length h255]; exact Nat.le_refl _) k y2 (y1.B.length - 2) ok2 (by omega) (by omega)
  rw [show y1.B.length - 2 + 2 = y1.B.length by omega] at hfix
  refine TL.mono (fun w hA => hA.perm (M' := [(yb, .row (bodyCells r xv) _), (bb, .row (blC p.sl sec h (.map q)) 91)] ++ ((xb, .row (rhCells r.name (typeOf r) r.cls r.ttl r.len) 116) :: y2.mem q)) (List.Perm.cons _ (List.Perm.swap _ _ _))) ?_
  refine TL.callS [_, _] Tryz.call107 rfl rfl rfl rfl hfix (fun _ _ => trivial) (fun y3 => TL.and fun ⟨ok3, e3, s3⟩ => ?_)
  repeat (first | refine za rfl rfl ?_ | refine zb rfl ?_ | refine zc rfl ?_)
  refine T.condF rfl rfl ?_
  repeat (first | refine za rfl rfl ?_ | refine zb rfl ?_ | refine zc rfl ?_)
  refine TL.call1 1 Tryz.call57 rfl rfl rfl rfl (incr bb sec (by omega) hs5 p.sl (.map q) h hf) (fun w' hA => hg.mono (st_viewLe hA (Mc := [(bb, .row (blC p.sl sec h (.map q)) 91)]) fun _ hp => by simp at hp; subst hp; simp)) (fun _ => TL.and fun _ => ?_)
  repeat (first | refine za rfl rfl ?_ | refine zb rfl ?_ | refine zc rfl ?_)
  refine T.condF rfl rfl ?_
  repeat (first | refine za rfl rfl ?_ | refine zb rfl ?_ | refine zc rfl ?_)
  refine TL.st 1 szk rfl rfl rfl rfl rfl rfl ?_
  repeat (first | refine za rfl rfl ?_ | refine zb rfl ?_ | refine zc rfl ?_)
  obtain ⟨⟨E, hE, hEl⟩, hrec⟩ := recAt_fix hE1 hE2 n1 b1 l1 b2 e3 hkp (by omega)
  refine T.ret Tryz.func66 rfl (fun w hA => ⟨y3, rfl, ⟨ok3, ⟨E, hE, by omega⟩, hrec⟩, ?_⟩)
  show St _ _ ((bb, Ob.row (blC y3.sl sec (h.inc sec) (Value.map q)) 91) :: y3.mem q) w
  rw [s3]
  exact hA.sub (List.Sublist.cons _ (List.Sublist.cons_cons _ (List.Sublist.cons _ (List.Sublist.refl _))))
theorem resB6 (bb sec : Nat) (hs3 : 3 ≤ sec) (hs5 : sec ≤ 5) (h : Bh) (hf : h.few) (q : Option Nat) (r : Rc) (hr : r.Ok) (hk : r.kind = 6) (xv : Value) (k : Nat) (p : Pk) (hp : p.ok ⟨k, none⟩ q) (hB : p.B.length + 5000 ≤ 4294967296) : ResCt 68 bb sec h q r xv k p := by
  intro w hS ⟨hg, hx⟩
  have e := congrArg Int.toNat hk
  have hreal : ∀ {yb : Nat}, Ct (β := Unit) Tryz.prog 119 [ptr yb 0] [] (fun w => BodyMem (view [] w) yb 0 r) (fun _ => .int .u16 (typeOf r : Int)) (fun _ _ => True) (fun _ => []) := fun {yb} => by
    have := realType yb 0 r hr
    rw [e] at this; exact this
  have hpk : ∀ (yb : Nat) (y1 : Pk) (hole : Hole), y1.ok hole q → y1.B.length + 4000 ≤ 4294967296 → BodyCt 120 r q y1 hole yb 0 := fun yb y1 hole ok1 hb => by
    have := bodyPack q yb 0 r hr y1 hole ok1 hb
    rw [e] at this; exact this
  unfold bmem at *
  have hs2 := hr.name.len
  have h255 : r.name.length ≤ 255 := by omega
  have hrl := rhCells_length (t := r.typ) (c := r.cls) (ttl := r.ttl) (len := r.len) h255
  have hkp := hp.hole.base
  simp only at hkp
  refine calls_of_T (m := 81) Tryz.func68 rfl rfl (by simp) hS ?_
  repeat (first | refine za rfl rfl ?_ | refine zb rfl ?_ | refine zc rfl ?_)
  refine TL.box (cs := rhCells r.name r.typ r.cls r.ttl r.len) rfl rfl rfl rfl (fun xb => ?_)
  refine TL.box (cs := bodyCells r xv) rfl rfl rfl rfl (fun yb => ?_)
  repeat (first | refine za rfl rfl ?_ | refine zb rfl ?_ | refine zc rfl ?_)
  refine TL.call0 Tryz.call108 rfl rfl rfl (checkSection bb sec hs3 hs5) (fun w' hA => blView hA (i := 2) rfl) (fun _ => TL.and fun _ => ?_)
  repeat (first | refine za rfl rfl ?_ | refine zb rfl ?_ | refine zc rfl ?_)
  refine T.condF rfl rfl ?_
  repeat (first | refine za rfl rfl ?_ | refine zb rfl ?_ | refine zc rfl ?_)
  refine TL.call0 Tryz.call119 rfl rfl rfl hreal (fun w' hA => ⟨xv, hA.view (i := 0) rfl (by simp) (fun j v hj => by rw [Nat.zero_add]; exact hj), bodyX_mono (st_viewLe hA (Mc := []) fun _ hp => by cases hp) hx⟩) (fun _ => TL.and fun _ => ?_)
  repeat (first | refine za rfl rfl ?_ | refine zb rfl ?_ | refine zc rfl ?_)
  refine TL.st 1 szk rfl rfl rfl rfl rfl (by rw [hrl]; rfl) ?_
  simp only [setN, List.nil_append]
  rw [rh_setT h255]
  repeat (first | refine za rfl rfl ?_ | refine zb rfl ?_ | refine zc rfl ?_)
  refine TS.start [(0, true), (1, true), (2, true), (3, true), (4, true), (5, true), (6, true), (7, true), (8, true), (9, true), (10, true), (11, true), (12, false), (13, true), (14, true), (15, true), (16, true), (17, true), (18, true), (19, true)] [(bb, .row (blC p.sl sec h (.map q)) 91)] mixed (by kernel_rfl) (by kernel_rfl) (by decide) (by simp [setN]) ?_
  repeat refine TS.p tbk rfl rfl ?_
  refine TS.y rfl rfl rfl rfl (Y.load szk rfl rfl (fun w h => h.cell (i := 0) rfl rfl)) ?_
  repeat refine TS.p tbk rfl rfl ?_
  refine TS.y rfl rfl rfl rfl (Y.load szk rfl rfl (fun w h => h.cell (i := 0) rfl rfl)) ?_
  repeat refine TS.p tbk rfl rfl ?_
  refine TS.y rfl rfl rfl rfl (Y.load szk rfl rfl (fun w h => h.cell (i := 0) rfl rfl)) ?_
  refine TS.callS [_, _, _] rfl Tryz.call106 rfl rfl rfl rfl (rhPack q xb 0 r.name (typeOf r) r.cls r.ttl r.len hr.name hr.nlab k p hp (by omega)) (fun w' hA => st_rowL (Ml := [(yb, .row (bodyCells r xv) _), (xb, .row (rhCells r.name (typeOf r) r.cls r.ttl r.len) 116), (bb, .row (blC p.sl sec h (.map q)) 91)]) hA (i := 1) rfl (fun j v hj => by rw [Nat.zero_add]; exact hj)) (fun y => by simp) (fun y1 => TS.and fun ⟨ok1, ⟨E1, hE1, hL1⟩, o1, n1, b1, l1⟩ => ?_)
  repeat refine TS.p tbk rfl rfl ?_
  refine TS.nil ?_
  have l1' : y1.B.length = p.B.length + E1.length := by rw [hE1]; simp
  have hbp := hpk yb y1 _ ok1 (by omega)
  repeat (first | refine za rfl rfl ?_ | refine zb rfl ?_ | refine zc rfl ?_)
  refine T.condF rfl rfl ?_
  repeat (first | refine za rfl rfl ?_ | refine zb rfl ?_ | refine zc rfl ?_)
  refine TS.start [(0, true), (1, true), (2, true), (3, true), (4, true), (5, true), (6, true), (7, true), (8, true), (9, false), (10, true), (11, true), (12, true), (13, true), (14, true)] [(bb, .row (blC p.sl sec h (.map q)) 91)] mixed (by kernel_rfl) (by kernel_rfl) (by decide) (by simp [setN]) ?_
  repeat refine TS.p tbk rfl rfl ?_
  refine TS.y rfl rfl rfl rfl (Y.load szk rfl rfl (fun w h => h.cell (i := 0) rfl rfl)) ?_
  repeat refine TS.p tbk rfl rfl ?_
  refine TS.y rfl rfl rfl rfl (Y.load szk rfl rfl (fun w h => h.cell (i := 0) rfl rfl)) ?_
  refine TS.callS [_, _, _] rfl Tryz.call120 rfl rfl rfl rfl hbp (fun w' hA => ⟨xv, st_rowL (Ml := [(yb, .row (bodyCells r xv) _), (xb, .row (rhCells r.name (typeOf r) r.cls r.ttl r.len) 116), (bb, .row (blC p.sl sec h (.map q)) 91)]) hA (i := 0) rfl (fun j v hj => by rw [Nat.zero_add]; exact hj), bodyX_mono (st_viewLe hA (Mc := y1.mem q) fun _ hp => List.mem_append_right _ hp) hx⟩) (fun y => by simp) (fun y2 => TS.and fun ⟨ok2, ⟨E2, hE2, hL2⟩, b2⟩ => ?_)
  repeat refine TS.p tbk rfl rfl ?_
  refine TS.nil ?_
  have l2 : y2.B.length = y1.B.length + E2.length := by rw [hE2]; simp
  repeat (first | refine za rfl rfl ?_ | refine zb rfl ?_ | refine zc rfl ?_)
  refine T.condF rfl rfl ?_
  repeat (first | refine za rfl rfl ?_ | refine zb rfl ?_ | refine zc rfl ?_)
  have hfix := fixLen q xb 0 (rhCells r.name (typeOf r) r.cls r.ttl r.len) 116 (by rw [rhCells_length h255]; exact Nat.le_refl _) k y2 (y1.B.length - 2) ok2 (by omega) (by omega)
  rw [show y1.B.length - 2 + 2 = y1.B.length by omega] at hfix
  refine TL.mono (fun w hA => hA.perm (M' := [(yb, .row (bodyCells r xv) _), (bb, .row (blC p.sl sec h (.map q)) 91)] ++ ((xb, .row (rhCells r.name (typeOf r) r.cls r.ttl r.len) 116) :: y2.mem q)) (List.Perm.cons _ (List.Perm.swap _ _ _))) ?_
  refine TL.callS [_, _] Tryz.call107 rfl rfl rfl rfl hfix (fun _ _ => trivial) (fun y3 => TL.and fun ⟨ok3, e3, s3⟩ => ?_)
  repeat (first | refine za rfl rfl ?_ | refine zb rfl ?_ | refine zc rfl ?_)
  refine T.condF rfl rfl ?_
  repeat (first | refine za rfl rfl ?_ | refine zb rfl ?_ | refine zc rfl ?_)
  refine TL.call1 1 Tryz.call57 rfl rfl rfl rfl (incr bb sec (by omega) hs5 p.sl (.map q) h hf) (fun w' hA => hg.mono (st_viewLe hA (Mc := [(bb, .row (blC p.sl sec h (.map q)) 91)]) fun _ hp => by simp at hp; subst hp; simp)) (fun _ => TL.and fun _ => ?_)
  repeat (first | refine za rfl rfl ?_ | refine zb rfl ?_ | refine zc rfl ?_)
  refine T.condF rfl rfl ?_
  repeat (first | refine za rfl rfl ?_ | refine zb rfl ?_ | refine zc rfl ?_)
  refine TL.st 1 szk rfl rfl rfl rfl rfl rfl ?_
  repeat (first | refine za rfl rfl ?_ | refine zb rfl ?_ | refine zc rfl ?_)
  obtain ⟨⟨E, hE, hEl⟩, hrec⟩ := recAt_fix hE1 hE2 n1 b1 l1 b2 e3 hkp (by omega)
  refine T.ret Tryz.func68 rfl (fun w hA => ⟨y3, rfl, ⟨ok3, ⟨E, hE, by omega⟩, hrec⟩, ?_⟩)
  show St _ _ ((bb, Ob.row (blC y3.sl sec (h.inc sec) (Value.map q)) 91) :: y3.mem q) w
  rw [s3]
  exact hA.sub (List.Sublist.cons _ (List.Sublist.cons_cons _ (List.Sublist.cons _ (List.Sublist.refl _))))
theorem resB7 (bb sec : Nat) (hs3 : 3 ≤ sec) (hs5 : sec ≤ 5) (h : Bh) (hf : h.few) (q : Option Nat) (r : Rc) (hr : r.Ok) (hk : r.kind = 7) (xv : Value) (k : Nat) (p : Pk) (hp : p.ok ⟨k, none⟩ q) (hB : p.B.length + 5000 ≤ 4294967296) : ResCt 70 bb sec h q r xv k p := by
  intro w hS ⟨hg, hx⟩
  have e := congrArg Int.toNat hk
  have hreal : ∀ {yb : Nat}, Ct (β := Unit) Tryz.prog 121 [ptr yb 0] [] (fun w => BodyMem (view [] w) yb 0 r) (fun _ => .int .u16 (typeOf r : Int)) (fun _ _ => True) (fun _ => []) := fun {yb} => by
    have := realType yb 0 r hr
    rw [e] at this; exact this
  have hpk : ∀ (yb : Nat) (y1 : Pk) (hole : Hole), y1.ok hole q → y1.B.length + 4000 ≤ 4294967296 → BodyCt 122 r q y1 hole yb 0 := fun yb y1 hole ok1 hb => by
    have := bodyPack q yb 0 r hr y1 hole ok1 hb
    rw [e] at this; exact this
  unfold bmem at *
  have hs2 := hr.name.len
  have h255 : r.name.length ≤ 255 := by omega
  have hrl := rhCells_length (t := r.typ) (c := r.cls) (ttl := r.ttl) (len := r.len) h255
  have hkp := hp.hole.base
  simp only at hkp
  refine calls_of_T (m := 81) Tryz.func70 rfl rfl (by simp) hS ?_
  repeat (first | refine za rfl rfl ?_ | refine zb rfl ?_ | refine zc rfl ?_)
  refine TL.box (cs := rhCells r.name r.typ r.cls r.ttl r.len) rfl rfl rfl rfl (fun xb => ?_)
  refine TL.box (cs := bodyCells r xv) rfl rfl rfl rfl (fun yb => ?_)
  repeat (first | refine za rfl rfl ?_ | refine zb rfl ?_ | refine zc rfl ?_)
  refine TL.call0 Tryz.call108 rfl rfl rfl (checkSection bb sec hs3 hs5) (fun w' hA => blView hA (i := 2) rfl) (fun _ => TL.and fun _ => ?_)
  repeat (first | refine za rfl rfl ?_ | refine zb rfl ?_ | refine zc rfl ?_)
  refine T.condF rfl rfl ?_
  repeat (first | refine za rfl rfl ?_ | refine zb rfl ?_ | refine zc rfl ?_)
  refine TL.call0 Tryz.call121 rfl rfl rfl hreal (fun w' hA => ⟨xv, hA.view (i := 0) rfl (by simp) (fun j v hj => by rw [Nat.zero_add]; exact hj), bodyX_mono (st_viewLe hA (Mc := []) fun _ hp => by cases hp) hx⟩) (fun _ => TL.and fun _ => ?_)
  repeat (first | refine za rfl rfl ?_ | refine zb rfl ?_ | refine zc rfl ?_)
  refine TL.st 1 szk rfl rfl rfl rfl rfl (by rw [hrl]; rfl) ?_
  simp only [setN, List.nil_append]
  rw [rh_setT h255]
  repeat (first | refine za rfl rfl ?_ | refine zb rfl ?_ | refine zc rfl ?_)
  refine TS.start [(0, true), (1, true), (2, true), (3, true), (4, true), (5, true), (6, true), (7, true), (8, true), (9, true), (10, true), (11, true), (12, false), (13, true), (14, true), (15, true), (16, true), (17, true), (18, true), (19, true)] [(bb, .row (blC p.sl sec h (.map q)) 91)] mixed (by kernel_rfl) (by kernel_rfl) (by decide) (by simp [setN]) ?_
  repeat refine TS.p tbk rfl rfl ?_
  refine TS.y rfl rfl rfl rfl (Y.load szk rfl rfl (fun w h => h.cell (i := 0) rfl rfl)) ?_
  repeat refine TS.p tbk rfl rfl ?_
  refine TS.y rfl rfl rfl rfl (Y.load szk rfl rfl (fun w h => h.cell (i := 0) rfl rfl)) ?_
  repeat refine TS.p tbk rfl rfl ?_
  refine TS.y rfl rfl rfl rfl (Y.load szk rfl rfl (fun w h => h.cell (i := 0) rfl rfl)) ?_
  refine TS.callS [_, _, _] rfl Tryz.call106 rfl rfl rfl rfl (rhPack q xb 0 r.name (typeOf r) r.cls r.ttl r.len hr.name hr.nlab k p hp (by omega)) (fun w' hA => st_rowL (Ml := [(yb, .row (bodyCells r xv) _), (xb, .row (rhCells r.name (typeOf r) r.cls r.ttl r.len) 116), (bb, .row (blC p.sl sec h (.map q)) 91)]) hA (i := 1) rfl (fun j v hj => by rw [Nat.zero_add]; exact hj)) (fun y => by simp) (fun y1 => TS.and fun ⟨ok1, ⟨E1, hE1, hL1⟩, o1, n1, b1, l1⟩ => ?_)
  repeat refine TS.p tbk rfl rfl ?_
  refine TS.nil ?_
  have l1' : y1.B.length = p.B.length + E1.length := by rw [hE1]; simp
  have hbp := hpk yb y1 _ ok1 (by omega)
  repeat (first | refine za rfl rfl ?_ | refine zb rfl ?_ | refine zc rfl ?_)
  refine T.condF rfl rfl ?_
  repeat (first | refine za rfl rfl ?_ | refine zb rfl ?_ | refine zc rfl ?_)
  refine TS.start [(0, true), (1, true), (2, true), (3, true), (4, true), (5, true), (6, true), (7, true), (8, true), (9, false), (10, true), (11, true), (12, true), (13, true), (14, true)] [(bb, .row (blC p.sl sec h (.map q)) 91)] mixed (by kernel_rfl) (by kernel_rfl) (by decide) (by simp [setN]) ?_
  repeat refine TS.p tbk rfl rfl ?_
  refine TS.y rfl rfl rfl rfl (Y.load szk rfl rfl (fun w h => h.cell (i := 0) rfl rfl)) ?_
  repeat refine TS.p tbk rfl rfl ?_
  refine TS.y rfl rfl rfl rfl (Y.load szk rfl rfl (fun w h => h.cell (i := 0) rfl rfl)) ?_
  refine TS.callS [_, _, _] rfl Tryz.call122 rfl rfl rfl rfl hbp (fun w' hA => ⟨xv, st_rowL (Ml := [(yb, .row (bodyCells r xv) _), (xb, .row (rhCells r.name (typeOf r) r.cls r.ttl r.len) 116), (bb, .row (blC p.sl sec h (.map q)) 91)]) hA (i := 0) rfl (fun j v hj => by rw [Nat.zero_add]; exact hj), bodyX_mono (st_viewLe hA (Mc := y1.mem q) fun _ hp => List.mem_append_right _ hp) hx⟩) (fun y => by simp) (fun y2 => TS.and fun ⟨ok2, ⟨E2, hE2, hL2⟩, b2⟩ => ?_)
  repeat refine TS.p tbk rfl rfl ?_
  refine TS.nil ?_
  have l2 : y2.B.length = y1.B.length + E2.length := by rw [hE2]; simp
  repeat (first | refine za rfl rfl ?_ | refine zb rfl ?_ | refine zc rfl ?_)
  refine T.condF rfl rfl ?_
  repeat (first | refine za rfl rfl ?_ | refine zb rfl ?_ | refine zc rfl ?_)
  have hfix := fixLen q xb 0 (rhCells r.name (typeOf r) r.cls r.ttl r.len) 116 (by rw [rhCells_length h255]; exact Nat.le_refl _) k y2 (y1.B.length - 2) ok2 (by omega) (by omega)
  rw [show y1.B.length - 2 + 2 = y1.B.length by omega] at hfix
  refine TL.mono (fun w hA => hA.perm (M' := [(yb, .row (bodyCells r xv) _), (bb, .row (blC p.sl sec h (.map q)) 91)] ++ ((xb, .row (rhCells r.name (typeOf r) r.cls r.ttl r.len) 116) :: y2.mem q)) (List.Perm.cons _ (List.Perm.swap _ _ _))) ?_
  refine TL.callS [_, _] Tryz.call107 rfl rfl rfl rfl hfix (fun _ _ => trivial) (fun y3 => TL.and fun ⟨ok3, e3, s3⟩ => ?_)
  repeat (first | refine za rfl rfl ?_ | refine zb rfl ?_ | refine zc rfl ?_)
  refine T.condF rfl rfl ?_
  repeat (first | refine za rfl rfl ?_ | refine zb rfl ?_ | refine zc rfl ?_)
  refine TL.call1 1 Tryz.call57 rfl rfl rfl rfl (incr bb sec (by omega) hs5 p.sl (.map q) h hf) (fun w' hA => hg.mono (st_viewLe hA (Mc := [(bb, .row (blC p.sl sec h (.map q)) 91)]) fun _ hp => by simp at hp; subst hp; simp)) (fun _ => TL.and fun _ => ?_)
  repeat (first | refine za rfl rfl ?_ | refine zb rfl ?_ | refine zc rfl ?_)
  refine T.condF rfl rfl ?_
  repeat (first | refine za rfl rfl ?_ | refine zb rfl ?_ | refine zc rfl ?_)
  refine TL.st 1 szk rfl rfl rfl rfl rfl rfl ?_
  repeat (first | refine za rfl rfl ?_ | refine zb rfl ?_ | refine zc rfl ?_)
  obtain ⟨⟨E, hE, hEl⟩, hrec⟩ := recAt_fix hE1 hE2 n1 b1 l1 b2 e3 hkp (by omega)
  refine T.ret Tryz.func70 rfl (fun w hA => ⟨y3, rfl, ⟨ok3, ⟨E, hE, by omega⟩, hrec⟩, ?_⟩)
  show St _ _ ((bb, Ob.row (blC y3.sl sec (h.inc sec) (Value.map q)) 91) :: y3.mem q) w
  rw [s3]
  exact hA.sub (List.Sublist.cons _ (List.Sublist.cons_cons _ (List.Sublist.cons _ (List.Sublist.refl _))))
theorem resB8 (bb sec : Nat) (hs3 : 3 ≤ sec) (hs5 : sec ≤ 5) (h : Bh) (hf : h.few) (q : Option Nat) (r : Rc) (hr : r.Ok) (hk : r.kind = 8) (xv : Value) (k : Nat) (p : Pk) (hp : p.ok ⟨k, none⟩ q) (hB : p.B.length + 5000 ≤ 4294967296) : ResCt 72 bb sec h q r xv k p := by
  intro w hS ⟨hg, hx⟩
  have e := congrArg Int.toNat hk
  have hreal : ∀ {yb : Nat}, Ct (β := Unit) Tryz.prog 123 [ptr yb 0] [] (fun w => BodyMem (view [] w) yb 0 r) (fun _ => .int .u16 (typeOf r : Int)) (fun _ _ => True) (fun _ => []) := fun {yb} => by
    have := realType yb 0 r hr
    rw [e] at this; exact this
  have hpk : ∀ (yb : Nat) (y1 : Pk) (hole : Hole), y1.ok hole q → y1.B.length + 4000 ≤ 4294967296 → BodyCt 124 r q y1 hole yb 0 := fun yb y1 hole ok1 hb => by
    have := bodyPack q yb 0 r hr y1 hole ok1 hb
    rw [e] at this; exact this
  unfold bmem at *
  have hs2 := hr.name.len
  have h255 : r.name.length ≤ 255 := by omega
  have hrl := rhCells_length (t := r.typ) (c := r.cls) (ttl := r.ttl) (len := r.len) h255
  have hkp := hp.hole.base
  simp only at hkp
  refine calls_of_T (m := 81) Tryz.func72 rfl rfl (by simp) hS ?_
  repeat (first | refine za rfl rfl ?_ | refine zb rfl ?_ | refine zc rfl ?_)
  refine TL.box (cs := rhCells r.name r.typ r.cls r.ttl r.len) rfl rfl rfl rfl (fun xb => ?_)
  refine TL.box (cs := bodyCells r xv) rfl rfl rfl rfl (fun yb => ?_)
  repeat (first | refine za rfl rfl ?_ | refine zb rfl ?_ | refine zc rfl ?_)
  refine TL.call0 Tryz.call108 rfl rfl rfl (checkSection bb sec hs3 hs5) (fun w' hA => blView hA (i := 2) rfl) (fun _ => TL.and fun _ => ?_)
  repeat (first | refine za rfl rfl ?_ | refine zb rfl ?_ | refine zc rfl ?_)
  refine T.condF rfl rfl ?_
  repeat (first | refine za rfl rfl ?_ | refine zb rfl ?_ | refine zc rfl ?_)
  refine TL.call0 Tryz.call123 rfl rfl rfl hreal (fun w' hA => ⟨xv, hA.view (i := 0) rfl (by simp) (fun j v hj => by rw [Nat.zero_add]; exact hj), bodyX_mono (st_viewLe hA (Mc := []) fun _ hp => by cases hp) hx⟩) (fun _ => TL.and fun _ => ?_)
  repeat (first | refine za rfl rfl ?_ | refine zb rfl ?_ | refine zc rfl ?_)
  refine TL.st 1 szk rfl rfl rfl rfl rfl (by rw [hrl]; rfl) ?_
  simp only [setN, List.nil_append]
  rw [rh_setT h255]
  repeat (first | refine za rfl rfl ?_ | refine zb rfl ?_ | refine zc rfl ?_)
  refine TS.start [(0, true), (1, true), (2, true), (3, true), (4, true), (5, true), (6, true), (7, true), (8, true), (9, true), (10, true), (11, true), (12, false), (13, true), (14, true), (15, true), (16, true), (17, true), (18, true), (19, true)] [(bb, .row (blC p.sl sec h (.map q)) 91)] mixed (by kernel_rfl) (by kernel_rfl) (by decide) (by simp [setN]) ?_
  repeat refine TS.p tbk rfl rfl ?_
  refine TS.y rfl rfl rfl rfl (Y.load szk rfl rfl (fun w h => h.cell (i := 0) rfl rfl)) ?_
  repeat refine TS.p tbk rfl rfl ?_
  refine TS.y rfl rfl rfl rfl (Y.load szk rfl rfl (fun w h => h.cell (i := 0) rfl rfl)) ?_
  repeat refine TS.p tbk rfl rfl ?_
  refine TS.y rfl rfl rfl rfl (Y.load szk rfl rfl (fun w h => h.cell (i := 0) rfl rfl)) ?_
  refine TS.callS [_, _, _] rfl Tryz.call106 rfl rfl rfl rfl (rhPack q xb 0 r.name (typeOf r) r.cls r.ttl r.len hr.name hr.nlab k p hp (by omega)) (fun w' hA => st_rowL (Ml := [(yb, .row (bodyCells r xv) _), (xb, .row (rhCells r.name (typeOf r) r.cls r.ttl r.len) 116), (bb, .row (blC p.sl sec h (.map q)) 91)]) hA (i := 1) rfl (fun j v hj => by rw [Nat.zero_add]; exact hj)) (fun y => by simp) (fun y1 => TS.and fun ⟨ok1, ⟨E1, hE1, hL1⟩, o1, n1, b1, l1⟩ => ?_)
  repeat refine TS.p tbk rfl rfl ?_
  refine TS.nil ?_
  have l1' : y1.B.length = p.B.length + E1.length := by rw [hE1]; simp
  have hbp := hpk yb y1 _ ok1 (by omega)
  repeat (first | refine za rfl rfl ?_ | refine zb rfl ?_ | refine zc rfl ?_)
  refine T.condF rfl rfl ?_
  repeat (first | refine za rfl rfl ?_ | refine zb rfl ?_ | refine zc rfl ?_)
  refine TS.start [(0, true), (1, true), (2, true), (3, true), (4, true), (5, true), (6, true), (7, true), (8, true), (9, false), (10, true), (11, true), (12, true), (13, true), (14, true)] [(bb, .row (blC p.sl sec h (.map q)) 91)] mixed (by kernel_rfl) (by kernel_rfl) (by decide) (by simp [setN]) ?_
  repeat refine TS.p tbk rfl rfl ?_
  refine TS.y rfl rfl rfl rfl (Y.load szk rfl rfl (fun w h => h.cell (i := 0) rfl rfl)) ?_
  repeat refine TS.p tbk rfl rfl ?_
  refine TS.y rfl rfl rfl rfl (Y.load szk rfl rfl (fun w h => h.cell (i := 0) rfl rfl)) ?_
  refine TS.callS [_, _, _] rfl Tryz.call124 rfl rfl rfl rfl hbp (fun w' hA => ⟨xv, st_rowL (Ml := [(yb, .row (bodyCells r xv) _), (xb, .row (rhCells r.name (typeOf r) r.cls r.ttl r.len) 116), (bb, .row (blC p.sl sec h (.map q)) 91)]) hA (i := 0) rfl (fun j v hj => by rw [Nat.zero_add]; exact hj), bodyX_mono (st_viewLe hA (Mc := y1.mem q) fun _ hp => List.mem_append_right _ hp) hx⟩) (fun y => by simp) (fun y2 => TS.and fun ⟨ok2, ⟨E2, hE2, hL2⟩, b2⟩ => ?_)
  repeat refine TS.p tbk rfl rfl ?_
  refine TS.nil ?_
  have l2 : y2.B.length = y1.B.length + E2.length := by rw [hE2]; simp
  repeat (first | refine za rfl rfl ?_ | refine zb rfl ?_ | refine zc rfl ?_)
  refine T.condF rfl rfl ?_
  repeat (first | refine za rfl rfl ?_ | refine zb rfl ?_ | refine zc rfl ?_)
  have hfix := fixLen q xb 0 (rhCells r.name (typeOf r) r.cls r.ttl r.len) 116 (by rw [rhCells_length h255]; exact Nat.le_refl _) k y2 (y1.B.length - 2) ok2 (by omega) (by omega)
  rw [show y1.B.length - 2 + 2 = y1.B.length by omega] at hfix
  refine TL.mono (fun w hA => hA.perm (M' := [(yb, .row (bodyCells r xv) _), (bb, .row (blC p.sl sec h (.map q)) 91)] ++ ((xb, .row (rhCells r.name (typeOf r) r.cls r.ttl r.len) 116) :: y2.mem q)) (List.Perm.cons _ (List.Perm.swap _ _ _))) ?_
  refine TL.callS [_, _] Tryz.call107 rfl rfl rfl rfl hfix (fun _ _ => trivial) (fun y3 => TL.and fun ⟨ok3, e3, s3⟩ => ?_)
  repeat (first | refine za rfl rfl ?_ | refine zb rfl ?_ | refine zc rfl ?_)
  refine T.condF rfl rfl ?_
  repeat (first | refine za rfl rfl ?_ | refine zb rfl ?_ | refine zc rfl ?_)
  refine TL.call1 1 Tryz.call57 rfl rfl rfl rfl (incr bb sec (by omega) hs5 p.sl (.map q) h hf) (fun w' hA => hg.mono (st_viewLe hA (Mc := [(bb, .row (blC p.sl sec h (.map q)) 91)]) fun _ hp => by simp at hp; subst hp; simp)) (fun _ => TL.and fun _ => ?_)
  repeat (first | refine za rfl rfl ?_ | refine zb rfl ?_ | refine zc rfl ?_)
  refine T.condF rfl rfl ?_
  repeat (first | refine za rfl rfl ?_ | refine zb rfl ?_ | refine zc rfl ?_)
  refine TL.st 1 szk rfl rfl rfl rfl rfl rfl ?_
  repeat (first | refine za rfl rfl ?_ | refine zb rfl ?_ | refine zc rfl ?_)
  obtain ⟨⟨E, hE, hEl⟩, hrec⟩ := recAt_fix hE1 hE2 n1 b1 l1 b2 e3 hkp (by omega)
  refine T.ret Tryz.func72 rfl (fun w hA => ⟨y3, rfl, ⟨ok3, ⟨E, hE, by omega⟩, hrec⟩, ?_⟩)
  show St _ _ ((bb, Ob.row (blC y3.sl sec (h.inc sec) (Value.map q)) 91) :: y3.mem q) w
  rw [s3]
  exact hA.sub (List.Sublist.cons _ (List.Sublist.cons_cons _ (List.Sublist.cons _ (List.Sublist.refl _))))
theorem resB9 (bb sec : Nat) (hs3 : 3 ≤ sec) (hs5 : sec ≤ 5) (h : Bh) (hf : h.few) (q : Option Nat) (r : Rc) (hr : r.Ok) (hk : r.kind = 9) (xv : Value) (k : Nat) (p : Pk) (hp : p.ok ⟨k, none⟩ q) (hB : p.B.length + 5000 ≤ 4294967296) : ResCt 74 bb sec h q r xv k p := by
  intro w hS ⟨hg, hx⟩
  have e := congrArg Int.toNat hk
  have hreal : ∀ {yb : Nat}, Ct (β := Unit) Tryz.prog 125 [ptr yb 0] [] (fun w => BodyMem (view [] w) yb 0 r) (fun _ => .int .u16 (typeOf r : Int)) (fun _ _ => True) (fun _ => []) := fun {yb} => by
    have := realType yb 0 r hr
    rw [e] at this; exact this
  have hpk : ∀ (yb : Nat) (y1 : Pk) (hole : Hole), y1.ok hole q → y1.B.length + 4000 ≤ 4294967296 → BodyCt 126 r q y1 hole yb 0 := fun yb y1 hole ok1 hb => by
    have := bodyPack q yb 0 r hr y1 hole ok1 hb
    rw [e] at this; exact this
  unfold bmem at *
  have hs2 := hr.name.len
  have h255 : r.name.length ≤ 255 := by omega
  have hrl := rhCells_length (t := r.typ) (c := r.cls) (ttl := r.ttl) (len := r.len) h255
  have hkp := hp.hole.base
  simp only at hkp
  refine calls_of_T (m := 81) Tryz.func74 rfl rfl (by simp) hS ?_
  repeat (first | refine za rfl rfl ?_ | refine zb rfl ?_ | refine zc rfl ?_)
  refine TL.box (cs := rhCells r.name r.typ r.cls r.ttl r.len) rfl rfl rfl rfl (fun xb => ?_)
  refine TL.box (cs := bodyCells r xv) rfl rfl rfl rfl (fun yb => ?_)
  repeat (first | refine za rfl rfl ?_ | refine zb rfl ?_ | refine zc rfl ?_)
  refine TL.call0 Tryz.call108 rfl rfl rfl (checkSection bb sec hs3 hs5) (fun w' hA => blView hA (i := 2) rfl) (fun _ => TL.and fun _ => ?_)
  repeat (first | refine za rfl rfl ?_ | refine zb rfl ?_ | refine zc rfl ?_)
  refine T.condF rfl rfl ?_
  repeat (first | refine za rfl rfl ?_ | refine zb rfl ?_ | refine zc rfl ?_)
  refine TL.call0 Tryz.call125 rfl rfl rfl hreal (fun w' hA => ⟨xv, hA.view (i := 0) rfl (by simp) (fun j v hj => by rw [Nat.zero_add]; exact hj), bodyX_mono (st_viewLe hA (Mc := []) fun _ hp => by cases hp) hx⟩) (fun _ => TL.and fun _ => ?_)
  repeat (first | refine za rfl rfl ?_ | refine zb rfl ?_ | refine zc rfl ?_)
  refine TL.st 1 szk rfl rfl rfl rfl rfl (by rw [hrl]; rfl) ?_
  simp only [setN, List.nil_append]
  rw [rh_setT h255]
  repeat (first | refine za rfl rfl ?_ | refine zb rfl ?_ | refine zc rfl ?_)
  refine TS.start [(0, true), (1, true), (2, true), (3, true), (4, true), (5, true), (6, true), (7, true), (8, true), (9, true), (10, true), (11, true), (12, false), (13, true), (14, true), (15, true), (16, true), (17, true), (18, true), (19, true)] [(bb, .row (blC p.sl sec h (.map q)) 91)] mixed (by kernel_rfl) (by kernel_rfl) (by decide) (by simp [setN]) ?_
  repeat refine TS.p tbk rfl rfl ?_
  refine TS.y rfl rfl rfl rfl (Y.load szk rfl rfl (fun w h => h.cell (i := 0) rfl rfl)) ?_
  repeat refine TS.p tbk rfl rfl ?_
  refine TS.y rfl rfl rfl rfl (Y.load szk rfl rfl (fun w h => h.cell (i := 0) rfl rfl)) ?_
  repeat refine TS.p tbk rfl rfl ?_
  refine TS.y rfl rfl rfl rfl (Y.load szk rfl rfl (fun w h => h.cell (i := 0) rfl rfl)) ?_
  refine TS.callS [_, _, _] rfl Tryz.call106 rfl rfl rfl rfl (rhPack q xb 0 r.name (typeOf r) r.cls r.ttl r.len hr.name hr.nlab k p hp (by omega)) (fun w' hA => st_rowL (Ml := [(yb, .row (bodyCells r xv) _), (xb, .row (rhCells r.name (typeOf r) r.cls r.ttl r.len) 116), (bb, .row (blC p.sl sec h (.map q)) 91)]) hA (i := 1) rfl (fun j v hj => by rw [Nat.zero_add]; exact hj)) (fun y => by simp) (fun y1 => TS.and fun ⟨ok1, ⟨E1, hE1, hL1⟩, o1, n1, b1, l1⟩ => ?_)
  repeat refine TS.p tbk rfl rfl ?_
  refine TS.nil ?_
  have l1' : y1.B.length = p.B.length + E1.length := by rw [hE1]; simp
  have hbp := hpk yb y1 _ ok1 (by omega)
  repeat (first | refine za rfl rfl ?_ | refine zb rfl ?_ | refine zc rfl ?_)
  refine T.condF rfl rfl ?_
  repeat (first | refine za rfl rfl ?_ | refine zb rfl ?_ | refine zc rfl ?_)
  refine TS.start [(0, true), (1, true), (2, true), (3, true), (4, true), (5, true), (6, true), (7, true), (8, true), (9, false), (10, true), (11, true), (12, true), (13, true), (14, true)] [(bb, .row (blC p.sl sec h (.map q)) 91)] mixed (by kernel_rfl) (by kernel_rfl) (by decide) (by simp [setN]) ?_
  repeat refine TS.p tbk rfl rfl ?_
  refine TS.y rfl rfl rfl rfl (Y.load szk rfl rfl (fun w h => h.cell (i := 0) rfl rfl)) ?_
  repeat refine TS.p tbk rfl rfl ?_
  refine TS.y rfl rfl rfl rfl (Y.load szk rfl rfl (fun w h => h.cell (i := 0) rfl rfl)) ?_
  refine TS.callS [_, _, _] rfl Tryz.call126 rfl rfl rfl rfl hbp (fun w' hA => ⟨xv, st_rowL (Ml := [(yb, .row (bodyCells r xv) _), (xb, .row (rhCells r.name (typeOf r) r.cls r.ttl r.len) 116), (bb, .row (blC p.sl sec h (.map q)) 91)]) hA (i := 0) rfl (fun j v hj => by rw [Nat.zero_add]; exact hj), bodyX_mono (st_viewLe hA (Mc := y1.mem q) fun _ hp => List.mem_append_right _ hp) hx⟩) (fun y => by simp) (fun y2 => TS.and fun ⟨ok2, ⟨E2, hE2, hL2⟩, b2⟩ => ?_)
  repeat refine TS.p tbk rfl rfl ?_
  refine TS.nil ?_
  have l2 : y2.B.length = y1.B.length + E2.length := by rw [hE2]; simp
  repeat (first | refine za rfl rfl ?_ | refine zb rfl ?_ | refine zc rfl ?_)
  refine T.condF rfl rfl ?_
  repeat (first | refine za rfl rfl ?_ | refine zb rfl ?_ | refine zc rfl ?_)
  have hfix := fixLen q xb 0 (rhCells r.name (typeOf r) r.cls r.ttl r.len) 116 (by rw [rhCells_length h255]; exact Nat.le_refl _) k y2 (y1.B.length - 2) ok2 (by omega) (by omega)
  rw [show y1.B.length - 2 + 2 = y1.B.length by omega] at hfix
  refine TL.mono (fun w hA => hA.perm (M' := [(yb, .row (bodyCells r xv) _), (bb, .row (blC p.sl sec h (.map q)) 91)] ++ ((xb, .row (rhCells r.name (typeOf r) r.cls r.ttl r.len) 116) :: y2.mem q)) (List.Perm.cons _ (List.Perm.swap _ _ _))) ?_
  refine TL.callS [_, _] Tryz.call107 rfl rfl rfl rfl hfix (fun _ _ => trivial) (fun y3 => TL.and fun ⟨ok3, e3, s3⟩ => ?_)
  repeat (first | refine za rfl rfl ?_ | refine zb rfl ?_ | refine zc rfl ?_)
  refine T.condF rfl rfl ?_
  repeat (first | refine za rfl rfl ?_ | refine zb rfl ?_ | refine zc rfl ?_)
  refine TL.call1 1 Tryz.call57 rfl rfl rfl rfl (incr bb sec (by omega) hs5 p.sl (.map q) h hf) (fun w' hA => hg.mono (st_viewLe hA (Mc := [(bb, .row (blC p.sl sec h (.map q)) 91)]) fun _ hp => by simp at hp; subst hp; simp)) (fun _ => TL.and fun _ => ?_)
  repeat (first | refine za rfl rfl ?_ | refine zb rfl ?_ | refine zc rfl ?_)
  refine T.condF rfl rfl ?_
  repeat (first | refine za rfl rfl ?_ | refine zb rfl ?_ | refine zc rfl ?_)
  refine TL.st 1 szk rfl rfl rfl rfl rfl rfl ?_
  repeat (first | refine za rfl rfl ?_ | refine zb rfl ?_ | refine zc rfl ?_)
  obtain ⟨⟨E, hE, hEl⟩, hrec⟩ := recAt_fix hE1 hE2 n1 b1 l1 b2 e3 hkp (by omega)
  refine T.ret Tryz.func74 rfl (fun w hA => ⟨y3, rfl, ⟨ok3, ⟨E, hE, by omega⟩, hrec⟩, ?_⟩)
  show St _ _ ((bb, Ob.row (blC y3.sl sec (h.inc sec) (Value.map q)) 91) :: y3.mem q) w
  rw [s3]
  exact hA.sub (List.Sublist.cons _ (List.Sublist.cons_cons _ (List.Sublist.cons _ (List.Sublist.refl _))))
theorem resB10 (bb sec : Nat) (hs3 : 3 ≤ sec) (hs5 : sec ≤ 5) (h : Bh) (hf : h.few) (q : Option Nat) (r : Rc) (hr : r.Ok) (hk : r.kind = 10) (xv : Value) (k : Nat) (p : Pk) (hp : p.ok ⟨k, none⟩ q) (hB : p.B.length + 5000 ≤ 4294967296) : ResCt 76 bb sec h q r xv k p := by
  intro w hS ⟨hg, hx⟩
  have e := congrArg Int.toNat hk
  have hreal : ∀ {yb : Nat}, Ct (β := Unit) Tryz.prog 127 [ptr yb 0] [] (fun w => BodyMem (view [] w) yb 0 r) (fun _ => .int .u16 (typeOf r : Int)) (fun _ _ => True) (fun _ => []) := fun {yb} => by
    have := realType yb 0 r hr
    rw [e] at this; exact this
  have hpk : ∀ (yb : Nat) (y1 : Pk) (hole : Hole), y1.ok hole q → y1.B.length + 4000 ≤ 4294967296 → BodyCt 128 r q y1 hole yb 0 := fun yb y1 hole ok1 hb => by
    have := bodyPack q yb 0 r hr y1 hole ok1 hb
    rw [e] at this; exact this
  unfold bmem at *
  have hs2 := hr.name.len
  have h255 : r.name.length ≤ 255 := by omega
  have hrl := rhCells_length (t := r.typ) (c := r.cls) (ttl := r.ttl) (len := r.len) h255
  have hkp := hp.hole.base
  simp only at hkp
  refine calls_of_T (m := 81) Tryz.func76 rfl rfl (by simp) hS ?_
  repeat (first | refine za rfl rfl ?_ | refine zb rfl ?_ | refine zc rfl ?_)
  refine TL.box (cs := rhCells r.name r.typ r.cls r.ttl r.len) rfl rfl rfl rfl (fun xb => ?_)
  refine TL.box (cs := bodyCells r xv) rfl rfl rfl rfl (fun yb => ?_)
  repeat (first | refine za rfl rfl ?_ | refine zb rfl ?_ | refine zc rfl ?_)
  refine TL.call0 Tryz.call108 rfl rfl rfl (checkSection bb sec hs3 hs5) (fun w' hA => blView hA (i := 2) rfl) (fun _ => TL.and fun _ => ?_)
  repeat (first | refine za rfl rfl ?_ | refine zb rfl ?_ | refine zc rfl ?_)
  refine T.condF rfl rfl ?_
  repeat (first | refine za rfl rfl ?_ | refine zb rfl ?_ | refine zc rfl ?_)
  refine TL.call0 Tryz.call127 rfl rfl rfl hreal (fun w' hA => ⟨xv, hA.view (i := 0) rfl (by simp) (fun j v hj => by rw [Nat.zero_add]; exact hj), bodyX_mono (st_viewLe hA (Mc := []) fun _ hp => by cases hp) hx⟩) (fun _ => TL.and fun _ => ?_)
  repeat (first | refine za rfl rfl ?_ | refine zb rfl ?_ | refine zc rfl ?_)
  refine TL.st 1 szk rfl rfl rfl rfl rfl (by rw [hrl]; rfl) ?_
  simp only [setN, List.nil_append]
  rw [rh_setT h255]
  repeat (first | refine za rfl rfl ?_ | refine zb rfl ?_ | refine zc rfl ?_)
  refine TS.start [(0, true), (1, true), (2, true), (3, true), (4, true), (5, true), (6, true), (7, true), (8, true), (9, true), (10, true), (11, true), (12, false), (13, true), (14, true), (15, true), (16, true), (17, true), (18, true), (19, true)] [(bb, .row (blC p.sl sec h (.map q)) 91)] mixed (by kernel_rfl) (by kernel_rfl) (by decide) (by simp [setN]) ?_
  repeat refine TS.p tbk rfl rfl ?_
  refine TS.y rfl rfl rfl rfl (Y.load szk rfl rfl (fun w h => h.cell (i := 0) rfl rfl)) ?_
  repeat refine TS.p tbk rfl rfl ?_
  refine TS.y rfl rfl rfl rfl (Y.load szk rfl rfl (fun w h => h.cell (i := 0) rfl rfl)) ?_
  repeat refine TS.p tbk rfl rfl ?_
  refine TS.y rfl rfl rfl rfl (Y.load szk rfl rfl (fun w h => h.cell (i := 0) rfl rfl)) ?_
  refine TS.callS [_, _, _] rfl Tryz.call106 rfl rfl rfl rfl (rhPack q xb 0 r.name (typeOf r) r.cls r.ttl r.len hr.name hr.nlab k p hp (by omega)) (fun w' hA => st_rowL (Ml := [(yb, .row (bodyCells r xv) _), (xb, .row (rhCells r.name (typeOf r) r.cls r.ttl r.len) 116), (bb, .row (blC p.sl sec h (.map q)) 91)]) hA (i := 1) rfl (fun j v hj => by rw [Nat.zero_add]; exact hj)) (fun y => by simp) (fun y1 => TS.and fun ⟨ok1, ⟨E1, hE1, hL1⟩, o1, n1, b1, l1⟩ => ?_)
  repeat refine TS.p tbk rfl rfl ?_
  refine TS.nil ?_
  have l1' : y1.B.length = p.B.length + E1.length := by rw [hE1]; simp
  have hbp := hpk yb y1 _ ok1 (by omega)
  repeat (first | refine za rfl rfl ?_ | refine zb rfl ?_ | refine zc rfl ?_)
  refine T.condF rfl rfl ?_
  repeat (first | refine za rfl rfl ?_ | refine zb rfl ?_ | refine zc rfl ?_)
  refine TS.start [(0, true), (1, true), (2, true), (3, true), (4, true), (5, true), (6, true), (7, true), (8, true), (9, false), (10, true), (11, true), (12, true), (13, true), (14, true)] [(bb, .row (blC p.sl sec h (.map q)) 91)] mixed (by kernel_rfl) (by kernel_rfl) (by decide) (by simp [setN]) ?_
  repeat refine TS.p tbk rfl rfl ?_
  refine TS.y rfl rfl rfl rfl (Y.load szk rfl rfl (fun w h => h.cell (i := 0) rfl rfl)) ?_
  repeat refine TS.p tbk rfl rfl ?_
  refine TS.y rfl rfl rfl rfl (Y.load szk rfl rfl (fun w h => h.cell (i := 0) rfl rfl)) ?_
  refine TS.callS [_, _, _] rfl Tryz.call128 rfl rfl rfl rfl hbp (fun w' hA => ⟨xv, st_rowL (Ml := [(yb, .row (bodyCells r xv) _), (xb, .row (rhCells r.name (typeOf r) r.cls r.ttl r.len) 116), (bb, .row (blC p.sl sec h (.map q)) 91)]) hA (i := 0) rfl (fun j v hj => by rw [Nat.zero_add]; exact hj), bodyX_mono (st_viewLe hA (Mc := y1.mem q) fun _ hp => List.mem_append_right _ hp) hx⟩) (fun y => by simp) (fun y2 => TS.and fun ⟨ok2, ⟨E2, hE2, hL2⟩, b2⟩ => ?_)
  repeat refine TS.p tbk rfl rfl ?_
  refine TS.nil ?_
  have l2 : y2.B.length = y1.B.length + E2.length := by rw [hE2]; simp
  repeat (first | refine za rfl rfl ?_ | refine zb rfl ?_ | refine zc rfl ?_)
  refine T.condF rfl rfl ?_
  repeat (first | refine za rfl rfl ?_ | refine zb rfl ?_ | refine zc rfl ?_)
  have hfix := fixLen q xb 0 (rhCells r.name (typeOf r) r.cls r.ttl r.len) 116 (by rw [rhCells_length h255]; exact Nat.le_refl _) k y2 (y1.B.length - 2) ok2 (by omega) (by omega)
  rw [show y1.B.length - 2 + 2 = y1.B.length by omega] at hfix
  refine TL.mono (fun w hA => hA.perm (M' := [(yb, .row (bodyCells r xv) _), (bb, .row (blC p.sl sec h (.map q)) 91)] ++ ((xb, .row (rhCells r.name (typeOf r) r.cls r.ttl r.len) 116) :: y2.mem q)) (List.Perm.cons _ (List.Perm.swap _ _ _))) ?_
  refine TL.callS [_, _] Tryz.call107 rfl rfl rfl rfl hfix (fun _ _ => trivial) (fun y3 => TL.and fun ⟨ok3, e3, s3⟩ => ?_)
  repeat (first | refine za rfl rfl ?_ | refine zb rfl ?_ | refine zc rfl ?_)
  refine T.condF rfl rfl ?_
  repeat (first | refine za rfl rfl ?_ | refine zb rfl ?_ | refine zc rfl ?_)
  refine TL.call1 1 Tryz.call57 rfl rfl rfl rfl (incr bb sec (by omega) hs5 p.sl (.map q) h hf) (fun w' hA => hg.mono (st_viewLe hA (Mc := [(bb, .row (blC p.sl sec h (.map q)) 91)]) fun _ hp => by simp at hp; subst hp; simp)) (fun _ => TL.and fun _ => ?_)
  repeat (first | refine za rfl rfl ?_ | refine zb rfl ?_ | refine zc rfl ?_)
  refine T.condF rfl rfl ?_
  repeat (first | refine za rfl rfl ?_ | refine zb rfl ?_ | refine zc rfl ?_)
  refine TL.st 1 szk rfl rfl rfl rfl rfl rfl ?_
  repeat (first | refine za rfl rfl ?_ | refine zb rfl ?_ | refine zc rfl ?_)
  obtain ⟨⟨E, hE, hEl⟩, hrec⟩ := recAt_fix hE1 hE2 n1 b1 l1 b2 e3 hkp (by omega)
  refine T.ret Tryz.func76 rfl (fun w hA => ⟨y3, rfl, ⟨ok3, ⟨E, hE, by omega⟩, hrec⟩, ?_⟩)
  show St _ _ ((bb, Ob.row (blC y3.sl sec (h.inc sec) (Value.map q)) 91) :: y3.mem q) w
  rw [s3]
  exact hA.sub (List.Sublist.cons _ (List.Sublist.cons_cons _ (List.Sublist.cons _ (List.Sublist.refl _))))
theorem resB13 (bb sec : Nat) (hs3 : 3 ≤ sec) (hs5 : sec ≤ 5) (h : Bh) (hf : h.few) (q : Option Nat) (r : Rc) (hr : r.Ok) (hk : r.kind = 13) (xv : Value) (k : Nat) (p : Pk) (hp : p.ok ⟨k, none⟩ q) (hB : p.B.length + 5000 ≤ 4294967296) : ResCt 82 bb sec h q r xv k p := by
  intro w hS ⟨hg, hx⟩
  have e := congrArg Int.toNat hk
  have hreal : ∀ {yb : Nat}, Ct (β := Unit) Tryz.prog 134 [ptr yb 0] [] (fun w => BodyMem (view [] w) yb 0 r) (fun _ => .int .u16 (typeOf r : Int)) (fun _ _ => True) (fun _ => []) := fun {yb} => by
    have := realType yb 0 r hr
    rw [e] at this; exact this
  have hpk : ∀ (yb : Nat) (y1 : Pk) (hole : Hole), y1.ok hole q → y1.B.length + 4000 ≤ 4294967296 → BodyCt 135 r q y1 hole yb 0 := fun yb y1 hole ok1 hb => by
    have := bodyPack q yb 0 r hr y1 hole ok1 hb
    rw [e] at this; exact this
  unfold bmem at *
  have hs2 := hr.name.len
  have h255 : r.name.length ≤ 255 := by omega
  have hrl := rhCells_length (t := r.typ) (c := r.cls) (ttl := r.ttl) (len := r.len) h255
  have hkp := hp.hole.base
  simp only at hkp
  refine calls_of_T (m := 81) Tryz.func82 rfl rfl (by simp) hS ?_
  repeat (first | refine za rfl rfl ?_ | refine zb rfl ?_ | refine zc rfl ?_)
  refine TL.box (cs := rhCells r.name r.typ r.cls r.ttl r.len) rfl rfl rfl rfl (fun xb => ?_)
  refine TL.box (cs := bodyCells r xv) rfl rfl rfl rfl (fun yb => ?_)
  repeat (first | refine za rfl rfl ?_ | refine zb rfl ?_ | refine zc rfl ?_)
  refine TL.call0 Tryz.call108 rfl rfl rfl (checkSection bb sec hs3 hs5) (fun w' hA => blView hA (i := 2) rfl) (fun _ => TL.and fun _ => ?_)
  repeat (first | refine za rfl rfl ?_ | refine zb rfl ?_ | refine zc rfl ?_)
  refine T.condF rfl rfl ?_
  repeat (first | refine za rfl rfl ?_ | refine zb rfl ?_ | refine zc rfl ?_)
  refine TL.call0 Tryz.call134 rfl rfl rfl hreal (fun w' hA => ⟨xv, hA.view (i := 0) rfl (by simp) (fun j v hj => by rw [Nat.zero_add]; exact hj), bodyX_mono (st_viewLe hA (Mc := []) fun _ hp => by cases hp) hx⟩) (fun _ => TL.and fun _ => ?_)
  repeat (first | refine za rfl rfl ?_ | refine zb rfl ?_ | refine zc rfl ?_)
  refine TL.st 1 szk rfl rfl rfl rfl rfl (by rw [hrl]; rfl) ?_
  simp only [setN, List.nil_append]
  rw [rh_setT h255]
  repeat (first | refine za rfl rfl ?_ | refine zb rfl ?_ | refine zc rfl ?_)
  refine TS.start [(0, true), (1, true), (2, true), (3, true), (4, true), (5, true), (6, true), (7, true), (8, true), (9, true), (10, true), (11, true), (12, false), (13, true), (14, true), (15, true), (16, true), (17, true), (18, true), (19, true)] [(bb, .row (blC p.sl sec h (.map q)) 91)] mixed (by kernel_rfl) (by kernel_rfl) (by decide) (by simp [setN]) ?_
  repeat refine TS.p tbk rfl rfl ?_
  refine TS.y rfl rfl rfl rfl (Y.load szk rfl rfl (fun w h => h.cell (i := 0) rfl rfl)) ?_
  repeat refine TS.p tbk rfl rfl ?_
  refine TS.y rfl rfl rfl rfl (Y.load szk rfl rfl (fun w h => h.cell (i := 0) rfl rfl)) ?_
  repeat refine TS.p tbk rfl rfl ?_
  refine TS.y rfl rfl rfl rfl (Y.load szk rfl rfl (fun w h => h.cell (i := 0) rfl rfl)) ?_
  refine TS.callS [_, _, _] rfl Tryz.call106 rfl rfl rfl rfl (rhPack q xb 0 r.name (typeOf r) r.cls r.ttl r.len hr.name hr.nlab k p hp (by omega)) (fun w' hA => st_rowL (Ml := [(yb, .row (bodyCells r xv) _), (xb, .row (rhCells r.name (typeOf r) r.cls r.ttl r.len) 116), (bb, .row (blC p.sl sec h (.map q)) 91)]) hA (i := 1) rfl (fun j v hj => by rw [Nat.zero_add]; exact hj)) (fun y => by simp) (fun y1 => TS.and fun ⟨ok1, ⟨E1, hE1, hL1⟩, o1, n1, b1, l1⟩ => ?_)
  repeat refine TS.p tbk rfl rfl ?_
  refine TS.nil ?_
  have l1' : y1.B.length = p.B.length + E1.length := by rw [hE1]; simp
  have hbp := hpk yb y1 _ ok1 (by omega)
  repeat (first | refine za rfl rfl ?_ | refine zb rfl ?_ | refine zc rfl ?_)
  refine T.condF rfl rfl ?_
  repeat (first | refine za rfl rfl ?_ | refine zb rfl ?_ | refine zc rfl ?_)
  refine TS.start [(0, true), (1, true), (2, true), (3, true), (4, true), (5, true), (6, true), (7, true), (8, true), (9, false), (10, true), (11, true), (12, true), (13, true), (14, true)] [(bb, .row (blC p.sl sec h (.map q)) 91)] mixed (by kernel_rfl) (by kernel_rfl) (by decide) (by simp [setN]) ?_
  repeat refine TS.p tbk rfl rfl ?_
  refine TS.y rfl rfl rfl rfl (Y.load szk rfl rfl (fun w h => h.cell (i := 0) rfl rfl)) ?_
  repeat refine TS.p tbk rfl rfl ?_
  refine TS.y rfl rfl rfl rfl (Y.load szk rfl rfl (fun w h => h.cell (i := 0) rfl rfl)) ?_
  refine TS.callS [_, _, _] rfl Tryz.call135 rfl rfl rfl rfl hbp (fun w' hA => ⟨xv, st_rowL (Ml := [(yb, .row (bodyCells r xv) _), (xb, .row (rhCells r.name (typeOf r) r.cls r.ttl r.len) 116), (bb, .row (blC p.sl sec h (.map q)) 91)]) hA (i := 0) rfl (fun j v hj => by rw [Nat.zero_add]; exact hj), bodyX_mono (st_viewLe hA (Mc := y1.mem q) fun _ hp => List.mem_append_right _ hp) hx⟩) (fun y => by simp) (fun y2 => TS.and fun ⟨ok2, ⟨E2, hE2, hL2⟩, b2⟩ => ?_)
  repeat refine TS.p tbk rfl rfl ?_
  refine TS.nil ?_
  have l2 : y2.B.length = y1.B.length + E2.length := by rw [hE2]; simp
  repeat (first | refine za rfl rfl ?_ | refine zb rfl ?_ | refine zc rfl ?_)
  refine T.condF rfl rfl ?_
  repeat (first | refine za rfl rfl ?_ | refine zb rfl ?_ | refine zc rfl ?_)
  have hfix := fixLen q xb 0 (rhCells r.name (typeOf r) r.cls r.ttl r.len) 116 (by rw [rhCells_length h255]; exact Nat.le_refl _) k y2 (y1.B.length - 2) ok2 (by omega) (by omega)
  rw [show y1.B.length - 2 + 2 = y1.B.length by omega] at hfix
  refine TL.mono (fun w hA => hA.perm (M' := [(yb, .row (bodyCells r xv) _), (bb, .row (blC p.sl sec h (.map q)) 91)] ++ ((xb, .row (rhCells r.name (typeOf r) r.cls r.ttl r.len) 116) :: y2.mem q)) (List.Perm.cons _ (List.Perm.swap _ _ _))) ?_
  refine TL.callS [_, _] Tryz.call107 rfl rfl rfl rfl hfix (fun _ _ => trivial) (fun y3 => TL.and fun ⟨ok3, e3, s3⟩ => ?_)
  repeat (first | refine za rfl rfl ?_ | refine zb rfl ?_ | refine zc rfl ?_)
  refine T.condF rfl rfl ?_
  repeat (first | refine za rfl rfl ?_ | refine zb rfl ?_ | refine zc rfl ?_)
  refine TL.call1 1 Tryz.call57 rfl rfl rfl rfl (incr bb sec (by omega) hs5 p.sl (.map q) h hf) (fun w' hA => hg.mono (st_viewLe hA (Mc := [(bb, .row (blC p.sl sec h (.map q)) 91)]) fun _ hp => by simp at hp; subst hp; simp)) (fun _ => TL.and fun _ => ?_)
  repeat (first | refine za rfl rfl ?_ | refine zb rfl ?_ | refine zc rfl ?_)
  refine T.condF rfl rfl ?_
  repeat (first | refine za rfl rfl ?_ | refine zb rfl ?_ | refine zc rfl ?_)
  refine TL.st 1 szk rfl rfl rfl rfl rfl rfl ?_
  repeat (first | refine za rfl rfl ?_ | refine zb rfl ?_ | refine zc rfl ?_)
  obtain ⟨⟨E, hE, hEl⟩, hrec⟩ := recAt_fix hE1 hE2 n1 b1 l1 b2 e3 hkp (by omega)
  refine T.ret Tryz.func82 rfl (fun w hA => ⟨y3, rfl, ⟨ok3, ⟨E, hE, by omega⟩, hrec⟩, ?_⟩)
  show St _ _ ((bb, Ob.row (blC y3.sl sec (h.inc sec) (Value.map q)) 91) :: y3.mem q) w
  rw [s3]
  exact hA.sub (List.Sublist.cons _ (List.Sublist.cons_cons _ (List.Sublist.cons _ (List.Sublist.refl _))))
theorem svcbGen (bb sec : Nat) (hs3 : 3 ≤ sec) (hs5 : sec ≤ 5) (h : Bh) (hf : h.few) (q : Option Nat) (r : Rc) (hr : r.Ok) (hk : r.kind = 11 ∨ r.kind = 12) (xv : Value) (k : Nat) (p : Pk) (hp : p.ok ⟨k, none⟩ q) (hB : p.B.length + 5000 ≤ 4294967296) :
    Ct (β := Pk) Tryz.prog 131 [ptr bb 0, .agg (rhCells r.name (typeOf r) r.cls r.ttl r.len).toArray, .agg (bodyCells r xv).toArray] (bmem bb sec h q p) (fun w => Glob (view (keys (bmem bb sec h q p)) w) ∧ bodyX (view (keys (bmem bb sec h q p)) w) r xv) (fun _ => .nilIface)
      (fun y _ => y.ok ⟨k, none⟩ q ∧ (∃ E, y.B = p.B ++ E ∧ E.length ≤ 3300) ∧ RecAt (kn y.B ⟨k, none⟩) r p.B.length y.B.length) (fun y => bmem bb sec (h.inc sec) q y) := by
  intro w hS ⟨hg, hx⟩
  have hpk : ∀ (yb : Nat) (y1 : Pk) (hole : Hole), y1.ok hole q → y1.B.length + 4000 ≤ 4294967296 → BodyCt 147 r q y1 hole yb 0 := fun yb y1 hole ok1 hb => by
    have := bodyPack q yb 0 r hr y1 hole ok1 hb
    rcases hk with hk | hk <;> (have e := congrArg Int.toNat hk; rw [e] at this; exact this)
  unfold bmem at *
  have hs2 := hr.name.len
  have h255 : r.name.length ≤ 255 := by omega
  have hrl := rhCells_length (t := r.typ) (c := r.cls) (ttl := r.ttl) (len := r.len) h255
  have hkp := hp.hole.base
  simp only at hkp
  refine calls_of_T (m := 79) Tryz.func131 rfl rfl (by simp) hS ?_
  repeat (first | refine za rfl rfl ?_ | refine zb rfl ?_ | refine zc rfl ?_)
  refine TL.box (cs := rhCells r.name (typeOf r) r.cls r.ttl r.len) rfl rfl rfl rfl (fun xb => ?_)
  refine TL.box (cs := bodyCells r xv) rfl rfl rfl rfl (fun yb => ?_)
  repeat (first | refine za rfl rfl ?_ | refine zb rfl ?_ | refine zc rfl ?_)
  refine TL.call0 Tryz.call108 rfl rfl rfl (checkSection bb sec hs3 hs5) (fun w' hA => blView hA (i := 2) rfl) (fun _ => TL.and fun _ => ?_)
  repeat (first | refine za rfl rfl ?_ | refine zb rfl ?_ | refine zc rfl ?_)
  refine T.condF rfl rfl ?_
  repeat (first | refine za rfl rfl ?_ | refine zb rfl ?_ | refine zc rfl ?_)
  refine TS.start [(0, true), (1, true), (2, true), (3, true), (4, true), (5, true), (6, true), (7, true), (8, true), (9, true), (10, true), (11, true), (12, false), (13, true), (14, true), (15, true), (16, true), (17, true), (18, true), (19, true)] [(bb, .row (blC p.sl sec h (.map q)) 91)] mixed (by kernel_rfl) (by kernel_rfl) (by decide) (by simp [setN]) ?_
  repeat refine TS.p tbk rfl rfl ?_
  refine TS.y rfl rfl rfl rfl (Y.load szk rfl rfl (fun w h => h.cell (i := 0) rfl rfl)) ?_
  repeat refine TS.p tbk rfl rfl ?_
  refine TS.y rfl rfl rfl rfl (Y.load szk rfl rfl (fun w h => h.cell (i := 0) rfl rfl)) ?_
  repeat refine TS.p tbk rfl rfl ?_
  refine TS.y rfl rfl rfl rfl (Y.load szk rfl rfl (fun w h => h.cell (i := 0) rfl rfl)) ?_
  refine TS.callS [_, _, _] rfl Tryz.call106 rfl rfl rfl rfl (rhPack q xb 0 r.name (typeOf r) r.cls r.ttl r.len hr.name hr.nlab k p hp (by omega)) (fun w' hA => st_rowL (Ml := [(yb, .row (bodyCells r xv) _), (xb, .row (rhCells r.name (typeOf r) r.cls r.ttl r.len) 116), (bb, .row (blC p.sl sec h (.map q)) 91)]) hA (i := 1) rfl (fun j v hj => by rw [Nat.zero_add]; exact hj)) (fun y => by simp) (fun y1 => TS.and fun ⟨ok1, ⟨E1, hE1, hL1⟩, o1, n1, b1, l1⟩ => ?_)
  repeat refine TS.p tbk rfl rfl ?_
  refine TS.nil ?_
  have l1' : y1.B.length = p.B.length + E1.length := by rw [hE1]; simp
  have hbp := hpk yb y1 _ ok1 (by omega)
  repeat (first | refine za rfl rfl ?_ | refine zb rfl ?_ | refine zc rfl ?_)
  refine T.condF rfl rfl ?_
  repeat (first | refine za rfl rfl ?_ | refine zb rfl ?_ | refine zc rfl ?_)
  refine TS.start [(0, true), (1, true), (2, true), (3, true), (4, true), (5, true), (6, true), (7, true), (8, true), (9, false), (10, true), (11, true), (12, true), (13, true), (14, true)] [(bb, .row (blC p.sl sec h (.map q)) 91)] mixed (by kernel_rfl) (by kernel_rfl) (by decide) (by simp [setN]) ?_
  repeat refine TS.p tbk rfl rfl ?_
  refine TS.y rfl rfl rfl rfl (Y.load szk rfl rfl (fun w h => h.cell (i := 0) rfl rfl)) ?_
  repeat refine TS.p tbk rfl rfl ?_
  refine TS.y rfl rfl rfl rfl (Y.load szk rfl rfl (fun w h => h.cell (i := 0) rfl rfl)) ?_
  refine TS.callS [_, _, _] rfl Tryz.call147 rfl rfl rfl rfl hbp (fun w' hA => ⟨xv, st_rowL (Ml := [(yb, .row (bodyCells r xv) _), (xb, .row (rhCells r.name (typeOf r) r.cls r.ttl r.len) 116), (bb, .row (blC p.sl sec h (.map q)) 91)]) hA (i := 0) rfl (fun j v hj => by rw [Nat.zero_add]; exact hj), bodyX_mono (st_viewLe hA (Mc := y1.mem q) fun _ hp => List.mem_append_right _ hp) hx⟩) (fun y => by simp) (fun y2 => TS.and fun ⟨ok2, ⟨E2, hE2, hL2⟩, b2⟩ => ?_)
  repeat refine TS.p tbk rfl rfl ?_
  refine TS.nil ?_
  have l2 : y2.B.length = y1.B.length + E2.length := by rw [hE2]; simp
  repeat (first | refine za rfl rfl ?_ | refine zb rfl ?_ | refine zc rfl ?_)
  refine T.condF rfl rfl ?_
  repeat (first | refine za rfl rfl ?_ | refine zb rfl ?_ | refine zc rfl ?_)
  have hfix := fixLen q xb 0 (rhCells r.name (typeOf r) r.cls r.ttl r.len) 116 (by rw [rhCells_length h255]; exact Nat.le_refl _) k y2 (y1.B.length - 2) ok2 (by omega) (by omega)
  rw [show y1.B.length - 2 + 2 = y1.B.length by omega] at hfix
  refine TL.mono (fun w hA => hA.perm (M' := [(yb, .row (bodyCells r xv) _), (bb, .row (blC p.sl sec h (.map q)) 91)] ++ ((xb, .row (rhCells r.name (typeOf r) r.cls r.ttl r.len) 116) :: y2.mem q)) (List.Perm.cons _ (List.Perm.swap _ _ _))) ?_
  refine TL.callS [_, _] Tryz.call107 rfl rfl rfl rfl hfix (fun _ _ => trivial) (fun y3 => TL.and fun ⟨ok3, e3, s3⟩ => ?_)
  repeat (first | refine za rfl rfl ?_ | refine zb rfl ?_ | refine zc rfl ?_)
  refine T.condF rfl rfl ?_
  repeat (first | refine za rfl rfl ?_ | refine zb rfl ?_ | refine zc rfl ?_)
  refine TL.call1 1 Tryz.call57 rfl rfl rfl rfl (incr bb sec (by omega) hs5 p.sl (.map q) h hf) (fun w' hA => hg.mono (st_viewLe hA (Mc := [(bb, .row (blC p.sl sec h (.map q)) 91)]) fun _ hp => by simp at hp; subst hp; simp)) (fun _ => TL.and fun _ => ?_)
  repeat (first | refine za rfl rfl ?_ | refine zb rfl ?_ | refine zc rfl ?_)
  refine T.condF rfl rfl ?_
  repeat (first | refine za rfl rfl ?_ | refine zb rfl ?_ | refine zc rfl ?_)
  refine TL.st 1 szk rfl rfl rfl rfl rfl rfl ?_
  repeat (first | refine za rfl rfl ?_ | refine zb rfl ?_ | refine zc rfl ?_)
  obtain ⟨⟨E, hE, hEl⟩, hrec⟩ := recAt_fix hE1 hE2 n1 b1 l1 b2 e3 hkp (by omega)
  refine T.ret Tryz.func131 rfl (fun w hA => ⟨y3, rfl, ⟨ok3, ⟨E, hE, by omega⟩, hrec⟩, ?_⟩)
  show St _ _ ((bb, Ob.row (blC y3.sl sec (h.inc sec) (Value.map q)) 91) :: y3.mem q) w
  rw [s3]
  exact hA.sub (List.Sublist.cons _ (List.Sublist.cons_cons _ (List.Sublist.cons _ (List.Sublist.refl _))))
theorem resB11 (bb sec : Nat) (hs3 : 3 ≤ sec) (hs5 : sec ≤ 5) (h : Bh) (hf : h.few) (q : Option Nat) (r : Rc) (hr : r.Ok) (hk : r.kind = 11) (xv : Value) (k : Nat) (p : Pk) (hp : p.ok ⟨k, none⟩ q) (hB : p.B.length + 5000 ≤ 4294967296) : ResCt 78 bb sec h q r xv k p := by
  intro w hS ⟨hg, hx⟩
  have e := congrArg Int.toNat hk
  have hreal : ∀ {yb : Nat}, Ct (β := Unit) Tryz.prog 130 [ptr yb 0] [] (fun w => BodyMem (view [] w) yb 0 r) (fun _ => .int .u16 (typeOf r : Int)) (fun _ _ => True) (fun _ => []) := fun {yb} => by
    have := realType yb 0 r hr
    rw [e] at this; exact this
  have hlen := cells_len hr (xv := xv)
  simp only [e] at hlen
  have hs2 := hr.name.len
  have h255 : r.name.length ≤ 255 := by omega
  have hrl := rhCells_length (t := r.typ) (c := r.cls) (ttl := r.ttl) (len := r.len) h255
  have hrl2 := rhCells_length (t := typeOf r) (c := r.cls) (ttl := r.ttl) (len := r.len) h255
  refine calls_of_T (m := 13) Tryz.func78 rfl rfl (by simp) hS ?_
  repeat (first | refine za rfl rfl ?_ | refine zb rfl ?_ | refine zc rfl ?_)
  refine TL.box (cs := rhCells r.name r.typ r.cls r.ttl r.len) rfl rfl rfl rfl (fun xb => ?_)
  refine TL.box (cs := bodyCells r xv) rfl rfl rfl rfl (fun yb => ?_)
  repeat (first | refine za rfl rfl ?_ | refine zb rfl ?_ | refine zc rfl ?_)
  refine TL.call0 Tryz.call130 rfl rfl rfl hreal (fun w' hA => ⟨xv, hA.view (i := 0) rfl (by simp) (fun j v hj => by rw [Nat.zero_add]; exact hj), bodyX_mono (st_viewLe hA (Mc := []) fun _ hp => by cases hp) hx⟩) (fun _ => TL.and fun _ => ?_)
  repeat (first | refine za rfl rfl ?_ | refine zb rfl ?_ | refine zc rfl ?_)
  refine TL.st 1 szk rfl rfl rfl rfl rfl (by rw [hrl]; rfl) ?_
  simp only [setN, List.nil_append]
  rw [rh_setT h255]
  repeat (first | refine za rfl rfl ?_ | refine zb rfl ?_ | refine zc rfl ?_)
  refine TL.ldW 1 szk rfl rfl rfl hrl2 rfl rfl ?_
  refine TL.ldW 0 szk rfl rfl rfl hlen rfl rfl ?_
  refine TL.callS [_, _] Tryz.call131 rfl rfl rfl rfl (svcbGen bb sec hs3 hs5 h hf q r hr (.inl hk) xv k p hp hB) (fun w' hA => ?_) (fun y => TL.and fun hy => ?_)
  · have hle := st_viewLe hA (Mc := bmem bb sec h q p) fun _ hp => List.mem_cons_of_mem _ (List.mem_cons_of_mem _ hp)
    exact ⟨hg.mono hle, bodyX_mono hle hx⟩
  repeat (first | refine za rfl rfl ?_ | refine zb rfl ?_ | refine zc rfl ?_)
  exact T.ret Tryz.func78 rfl (fun w hA => ⟨y, rfl, hy, hA.sub (List.Sublist.cons _ (List.Sublist.cons _ (List.Sublist.refl _)))⟩)
theorem resB12 (bb sec : Nat) (hs3 : 3 ≤ sec) (hs5 : sec ≤ 5) (h : Bh) (hf : h.few) (q : Option Nat) (r : Rc) (hr : r.Ok) (hk : r.kind = 12) (xv : Value) (k : Nat) (p : Pk) (hp : p.ok ⟨k, none⟩ q) (hB : p.B.length + 5000 ≤ 4294967296) : ResCt 80 bb sec h q r xv k p := by
  intro w hS ⟨hg, hx⟩
  have e := congrArg Int.toNat hk
  have hreal : ∀ {yb : Nat}, Ct (β := Unit) Tryz.prog 133 [ptr yb 0] [] (fun w => BodyMem (view [] w) yb 0 r) (fun _ => .int .u16 (typeOf r : Int)) (fun _ _ => True) (fun _ => []) := fun {yb} => by
    have := realType yb 0 r hr
    rw [e] at this; exact this
  have hlen := cells_len hr (xv := xv)
  simp only [e] at hlen
  have hs2 := hr.name.len
  have h255 : r.name.length ≤ 255 := by omega
  have hrl := rhCells_length (t := r.typ) (c := r.cls) (ttl := r.ttl) (len := r.len) h255
  have hrl2 := rhCells_length (t := typeOf r) (c := r.cls) (ttl := r.ttl) (len := r.len) h255
  refine calls_of_T (m := 14) Tryz.func80 rfl rfl (by simp) hS ?_
  repeat (first | refine za rfl rfl ?_ | refine zb rfl ?_ | refine zc rfl ?_)
  refine TL.box (cs := rhCells r.name r.typ r.cls r.ttl r.len) rfl rfl rfl rfl (fun xb => ?_)
  refine TL.box (cs := bodyCells r xv) rfl rfl rfl rfl (fun yb => ?_)
  repeat (first | refine za rfl rfl ?_ | refine zb rfl ?_ | refine zc rfl ?_)
  refine TL.call0 Tryz.call133 rfl rfl rfl hreal (fun w' hA => ⟨xv, hA.view (i := 0) rfl (by simp) (fun j v hj => by rw [Nat.zero_add]; exact hj), bodyX_mono (st_viewLe hA (Mc := []) fun _ hp => by cases hp) hx⟩) (fun _ => TL.and fun _ => ?_)
  repeat (first | refine za rfl rfl ?_ | refine zb rfl ?_ | refine zc rfl ?_)
  refine TL.st 1 szk rfl rfl rfl rfl rfl (by rw [hrl]; rfl) ?_
  simp only [setN, List.nil_append]
  rw [rh_setT h255]
  repeat (first | refine za rfl rfl ?_ | refine zb rfl ?_ | refine zc rfl ?_)
  refine TL.ldW 1 szk rfl rfl rfl hrl2 rfl rfl ?_
  repeat (first | refine za rfl rfl ?_ | refine zb rfl ?_ | refine zc rfl ?_)
  refine TL.ldS (vs := bodyCells r xv) 0 szk rfl rfl rfl hlen (fun j v hj => by simpa using hj) rfl rfl ?_
  refine TL.callS [_, _] Tryz.call131 rfl rfl rfl rfl (svcbGen bb sec hs3 hs5 h hf q r hr (.inr hk) xv k p hp hB) (fun w' hA => ?_) (fun y => TL.and fun hy => ?_)
  · have hle := st_viewLe hA (Mc := bmem bb sec h q p) fun _ hp => List.mem_cons_of_mem _ (List.mem_cons_of_mem _ hp)
    exact ⟨hg.mono hle, bodyX_mono hle hx⟩
  repeat (first | refine za rfl rfl ?_ | refine zb rfl ?_ | refine zc rfl ?_)
  exact T.ret Tryz.func80 rfl (fun w hA => ⟨y, rfl, hy, hA.sub (List.Sublist.cons _ (List.Sublist.cons _ (List.Sublist.refl _)))⟩)
end X
end Go.Proofs.YtifnodoffgfpbaaGreatDoor
