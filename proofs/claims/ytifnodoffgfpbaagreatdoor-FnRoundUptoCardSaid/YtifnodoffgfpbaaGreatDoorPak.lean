/- Texts F25, F26, F27. Contracts: the builder adds a record. -/
import Derived.Test.YtifnodoffgfpbaaGreatDoorPaj
namespace Go.Proofs.YtifnodoffgfpbaaGreatDoor
open Go
namespace X
theorem add (bb sec : Nat) (hs3 : 3 ≤ sec) (hs5 : sec ≤ 5) (h : Bh) (hf : h.few) (q : Option Nat) (r : Rc) (hr : r.Ok) (dv tv pv : Value) (k : Nat) (p : Pk) (hp : p.ok ⟨k, none⟩ q) (hB : p.B.length + 5000 ≤ 4294967296) :
    Ct (β := Pk) Tryz.prog 33 [ptr bb 0, .agg (rcCells r dv tv pv).toArray] (bmem bb sec h q p) (fun w => Glob (view (keys (bmem bb sec h q p)) w) ∧ RcV (view (keys (bmem bb sec h q p)) w) r dv tv pv) (fun _ => .nilIface)
      (fun y _ => y.ok ⟨k, none⟩ q ∧ (∃ E, y.B = p.B ++ E ∧ E.length ≤ 3300) ∧ RecAt (kn y.B ⟨k, none⟩) r p.B.length y.B.length) (fun y => bmem bb sec (h.inc sec) q y) := by
  intro w hS ⟨hg, hv⟩
  have h255 : r.name.length ≤ 255 := by have := hr.name.len; omega
  have hrl := rhCells_length (t := r.typ) (c := r.cls) (ttl := r.ttl) (len := r.len) h255
  rcases kind_cases hr with e | e | e | e | e | e | e | e | e | e | e | e | e
  · have hcs : rcCells r dv tv pv = [str r.name, .int .u16 r.typ, .int .u16 r.cls, .int .u32 r.ttl, .int .u16 r.len, .int .i64 1, dv, str r.host, str r.box, .int .u32 r.n1, .int .u32 r.n2, .int .u32 r.n3, .int .u32 r.n4, .int .u32 r.n5, tv, pv] := by rw [rcCells, e]
    have hconv := aOf r hr e dv tv pv
    have hhead := headOf r h255 dv tv pv
    unfold ConvCt at hconv
    rw [hcs] at hconv hhead ⊢
    generalize hC : [str r.name, Value.int .u16 r.typ, .int .u16 r.cls, .int .u32 r.ttl, .int .u16 r.len, .int .i64 1, dv, str r.host, str r.box, .int .u32 r.n1, .int .u32 r.n2, .int .u32 r.n3, .int .u32 r.n4, .int .u32 r.n5, tv, pv] = C at hconv hhead ⊢
    have hCl : C.length = 16 := by rw [← hC]; rfl
    have hC5 : nth C 5 = some (.int .i64 1) := by rw [← hC]; rfl
    clear hC
    refine calls_of_T (m := 99) Tryz.func33 rfl rfl (by simp) hS ?_
    repeat (first | refine za rfl rfl ?_ | refine zb rfl ?_ | refine zc rfl ?_)
    refine TL.box (cs := C) rfl rfl rfl rfl (fun xb => ?_)
    repeat (first | refine za rfl rfl ?_ | refine zb rfl ?_ | refine zc rfl ?_)
    refine TL.ldW 0 szk rfl rfl rfl hCl rfl rfl ?_
    refine TL.call0 Tryz.call49 rfl rfl rfl hhead (fun _ _ => trivial) (fun _ => TL.and fun _ => ?_)
    refine TL.allocZ 260 Tryz.zeroValue116 (by kernel_rfl) rfl rfl (fun hb zs hz => ?_)
    refine TL.stW (vs := rhCells r.name r.typ r.cls r.ttl r.len) 0 szk rfl rfl rfl rfl hrl hz rhCells_one ?_
    simp only [setN, List.nil_append]
    repeat (first | refine za rfl rfl ?_ | refine zb rfl ?_ | refine zc rfl ?_)
    refine TL.ld 1 szk rfl rfl rfl hC5 rfl rfl ?_
    repeat (first | refine TL.p tbk rfl ?_ | refine TL.nil ?_ | refine T.seq ?_ | refine T.region ?_ | refine T.skip ?_ | refine T.block ?_ | refine T.inBlock ?_ | refine T.exit rfl ?_ | refine T.condF rfl rfl ?_)
    refine T.condT rfl rfl ?_
    repeat (first | refine za rfl rfl ?_ | refine zb rfl ?_ | refine zc rfl ?_)
    refine TS.start [(0, true), (1, true), (2, true), (3, false), (4, false), (5, true)] [(hb, .row (rhCells r.name r.typ r.cls r.ttl r.len) 116), (xb, .row C 98)] mixed (by kernel_rfl) (by kernel_rfl) (by decide) (by simp) ?_
    refine TS.p tbk rfl rfl ?_
    refine TS.y rfl rfl rfl rfl (Y.loadA szk rfl rfl hrl (fun w h i v hv => by rw [Nat.zero_add]; exact h.cell (i := 0) rfl hv)) ?_
    refine TS.y rfl rfl rfl rfl (Y.loadA szk rfl rfl hCl (fun w h i v hv => by rw [Nat.zero_add]; exact h.cell (i := 1) rfl hv)) ?_
    refine TS.call0 rfl Tryz.call59 rfl rfl rfl hconv (fun w' hA => hv.mono (st_viewLe hA (Mc := []) fun _ hp => by cases hp)) (fun _ => by simp) (fun y => TS.and fun hy => ?_)
    refine TS.callS (y.2 ++ [(hb, .row (rhCells r.name r.typ r.cls r.ttl r.len) 116), (xb, .row C 98)]) rfl Tryz.call58 rfl rfl rfl (by simp) (resB1 bb sec hs3 hs5 h hf q r hr e y.1 k p hp hB) (fun w' hA => ⟨hg.mono (st_viewLe hA (Mc := bmem bb sec h q p) fun p hp => by simp [hp]), bodyX_mono (st_outL (Ml := y.2 ++ [(hb, .row (rhCells r.name r.typ r.cls r.ttl r.len) 116), (xb, .row C 98)]) (by simpa using hA) fun p hp => by simp [hp]) hy⟩) (fun _ => by simp) (fun z => TS.and fun hz => ?_)
    refine TS.p tbk rfl rfl ?_
    refine TS.nil ?_
    repeat (first | refine za rfl rfl ?_ | refine zb rfl ?_ | refine zc rfl ?_)
    exact T.ret Tryz.func33 rfl (fun w hA => ⟨z, rfl, hz, hA.sub (List.sublist_append_right _ _)⟩)
  · have hcs : rcCells r dv tv pv = [str r.name, .int .u16 r.typ, .int .u16 r.cls, .int .u32 r.ttl, .int .u16 r.len, .int .i64 2, dv, str r.host, str r.box, .int .u32 r.n1, .int .u32 r.n2, .int .u32 r.n3, .int .u32 r.n4, .int .u32 r.n5, tv, pv] := by rw [rcCells, e]
    have hconv := nsOf r hr e dv tv pv
    have hhead := headOf r h255 dv tv pv
    unfold ConvCt at hconv
    rw [hcs] at hconv hhead ⊢
    generalize hC : [str r.name, Value.int .u16 r.typ, .int .u16 r.cls, .int .u32 r.ttl, .int .u16 r.len, .int .i64 2, dv, str r.host, str r.box, .int .u32 r.n1, .int .u32 r.n2, .int .u32 r.n3, .int .u32 r.n4, .int .u32 r.n5, tv, pv] = C at hconv hhead ⊢
    have hCl : C.length = 16 := by rw [← hC]; rfl
    have hC5 : nth C 5 = some (.int .i64 2) := by rw [← hC]; rfl
    clear hC
    refine calls_of_T (m := 99) Tryz.func33 rfl rfl (by simp) hS ?_
    repeat (first | refine za rfl rfl ?_ | refine zb rfl ?_ | refine zc rfl ?_)
    refine TL.box (cs := C) rfl rfl rfl rfl (fun xb => ?_)
    repeat (first | refine za rfl rfl ?_ | refine zb rfl ?_ | refine zc rfl ?_)
    refine TL.ldW 0 szk rfl rfl rfl hCl rfl rfl ?_
    refine TL.call0 Tryz.call49 rfl rfl rfl hhead (fun _ _ => trivial) (fun _ => TL.and fun _ => ?_)
    refine TL.allocZ 260 Tryz.zeroValue116 (by kernel_rfl) rfl rfl (fun hb zs hz => ?_)
    refine TL.stW (vs := rhCells r.name r.typ r.cls r.ttl r.len) 0 szk rfl rfl rfl rfl hrl hz rhCells_one ?_
    simp only [setN, List.nil_append]
    repeat (first | refine za rfl rfl ?_ | refine zb rfl ?_ | refine zc rfl ?_)
    refine TL.ld 1 szk rfl rfl rfl hC5 rfl rfl ?_
    repeat (first | refine TL.p tbk rfl ?_ | refine TL.nil ?_ | refine T.seq ?_ | refine T.region ?_ | refine T.skip ?_ | refine T.block ?_ | refine T.inBlock ?_ | refine T.exit rfl ?_ | refine T.condF rfl rfl ?_)
    refine T.condT rfl rfl ?_
    repeat (first | refine za rfl rfl ?_ | refine zb rfl ?_ | refine zc rfl ?_)
    refine TS.start [(0, true), (1, true), (2, true), (3, false), (4, false), (5, true)] [(hb, .row (rhCells r.name r.typ r.cls r.ttl r.len) 116), (xb, .row C 98)] mixed (by kernel_rfl) (by kernel_rfl) (by decide) (by simp) ?_
    refine TS.p tbk rfl rfl ?_
    refine TS.y rfl rfl rfl rfl (Y.loadA szk rfl rfl hrl (fun w h i v hv => by rw [Nat.zero_add]; exact h.cell (i := 0) rfl hv)) ?_
    refine TS.y rfl rfl rfl rfl (Y.loadA szk rfl rfl hCl (fun w h i v hv => by rw [Nat.zero_add]; exact h.cell (i := 1) rfl hv)) ?_
    refine TS.call0 rfl Tryz.call61 rfl rfl rfl hconv (fun w' hA => hv.mono (st_viewLe hA (Mc := []) fun _ hp => by cases hp)) (fun _ => by simp) (fun y => TS.and fun hy => ?_)
    refine TS.callS (y.2 ++ [(hb, .row (rhCells r.name r.typ r.cls r.ttl r.len) 116), (xb, .row C 98)]) rfl Tryz.call60 rfl rfl rfl (by simp) (resB2 bb sec hs3 hs5 h hf q r hr e y.1 k p hp hB) (fun w' hA => ⟨hg.mono (st_viewLe hA (Mc := bmem bb sec h q p) fun p hp => by simp [hp]), bodyX_mono (st_outL (Ml := y.2 ++ [(hb, .row (rhCells r.name r.typ r.cls r.ttl r.len) 116), (xb, .row C 98)]) (by simpa using hA) fun p hp => by simp [hp]) hy⟩) (fun _ => by simp) (fun z => TS.and fun hz => ?_)
    refine TS.p tbk rfl rfl ?_
    refine TS.nil ?_
    repeat (first | refine za rfl rfl ?_ | refine zb rfl ?_ | refine zc rfl ?_)
    exact T.ret Tryz.func33 rfl (fun w hA => ⟨z, rfl, hz, hA.sub (List.sublist_append_right _ _)⟩)
  · have hcs : rcCells r dv tv pv = [str r.name, .int .u16 r.typ, .int .u16 r.cls, .int .u32 r.ttl, .int .u16 r.len, .int .i64 3, dv, str r.host, str r.box, .int .u32 r.n1, .int .u32 r.n2, .int .u32 r.n3, .int .u32 r.n4, .int .u32 r.n5, tv, pv] := by rw [rcCells, e]
    have hconv := cnameOf r hr e dv tv pv
    have hhead := headOf r h255 dv tv pv
    unfold ConvCt at hconv
    rw [hcs] at hconv hhead ⊢
    generalize hC : [str r.name, Value.int .u16 r.typ, .int .u16 r.cls, .int .u32 r.ttl, .int .u16 r.len, .int .i64 3, dv, str r.host, str r.box, .int .u32 r.n1, .int .u32 r.n2, .int .u32 r.n3, .int .u32 r.n4, .int .u32 r.n5, tv, pv] = C at hconv hhead ⊢
    have hCl : C.length = 16 := by rw [← hC]; rfl
    have hC5 : nth C 5 = some (.int .i64 3) := by rw [← hC]; rfl
    clear hC
    refine calls_of_T (m := 99) Tryz.func33 rfl rfl (by simp) hS ?_
    repeat (first | refine za rfl rfl ?_ | refine zb rfl ?_ | refine zc rfl ?_)
    refine TL.box (cs := C) rfl rfl rfl rfl (fun xb => ?_)
    repeat (first | refine za rfl rfl ?_ | refine zb rfl ?_ | refine zc rfl ?_)
    refine TL.ldW 0 szk rfl rfl rfl hCl rfl rfl ?_
    refine TL.call0 Tryz.call49 rfl rfl rfl hhead (fun _ _ => trivial) (fun _ => TL.and fun _ => ?_)
    refine TL.allocZ 260 Tryz.zeroValue116 (by kernel_rfl) rfl rfl (fun hb zs hz => ?_)
    refine TL.stW (vs := rhCells r.name r.typ r.cls r.ttl r.len) 0 szk rfl rfl rfl rfl hrl hz rhCells_one ?_
    simp only [setN, List.nil_append]
    repeat (first | refine za rfl rfl ?_ | refine zb rfl ?_ | refine zc rfl ?_)
    refine TL.ld 1 szk rfl rfl rfl hC5 rfl rfl ?_
    repeat (first | refine TL.p tbk rfl ?_ | refine TL.nil ?_ | refine T.seq ?_ | refine T.region ?_ | refine T.skip ?_ | refine T.block ?_ | refine T.inBlock ?_ | refine T.exit rfl ?_ | refine T.condF rfl rfl ?_)
    refine T.condT rfl rfl ?_
    repeat (first | refine za rfl rfl ?_ | refine zb rfl ?_ | refine zc rfl ?_)
    refine TS.start [(0, true), (1, true), (2, true), (3, false), (4, false), (5, true)] [(hb, .row (rhCells r.name r.typ r.cls r.ttl r.len) 116), (xb, .row C 98)] mixed (by kernel_rfl) (by kernel_rfl) (by decide) (by simp) ?_
    refine TS.p tbk rfl rfl ?_
    refine TS.y rfl rfl rfl rfl (Y.loadA szk rfl rfl hrl (fun w h i v hv => by rw [Nat.zero_add]; exact h.cell (i := 0) rfl hv)) ?_
    refine TS.y rfl rfl rfl rfl (Y.loadA szk rfl rfl hCl (fun w h i v hv => by rw [Nat.zero_add]; exact h.cell (i := 1) rfl hv)) ?_
    refine TS.call0 rfl Tryz.call63 rfl rfl rfl hconv (fun w' hA => hv.mono (st_viewLe hA (Mc := []) fun _ hp => by cases hp)) (fun _ => by simp) (fun y => TS.and fun hy => ?_)
    refine TS.callS (y.2 ++ [(hb, .row (rhCells r.name r.typ r.cls r.ttl r.len) 116), (xb, .row C 98)]) rfl Tryz.call62 rfl rfl rfl (by simp) (resB3 bb sec hs3 hs5 h hf q r hr e y.1 k p hp hB) (fun w' hA => ⟨hg.mono (st_viewLe hA (Mc := bmem bb sec h q p) fun p hp => by simp [hp]), bodyX_mono (st_outL (Ml := y.2 ++ [(hb, .row (rhCells r.name r.typ r.cls r.ttl r.len) 116), (xb, .row C 98)]) (by simpa using hA) fun p hp => by simp [hp]) hy⟩) (fun _ => by simp) (fun z => TS.and fun hz => ?_)
    refine TS.p tbk rfl rfl ?_
    refine TS.nil ?_
    repeat (first | refine za rfl rfl ?_ | refine zb rfl ?_ | refine zc rfl ?_)
    exact T.ret Tryz.func33 rfl (fun w hA => ⟨z, rfl, hz, hA.sub (List.sublist_append_right _ _)⟩)
  · have hcs : rcCells r dv tv pv = [str r.name, .int .u16 r.typ, .int .u16 r.cls, .int .u32 r.ttl, .int .u16 r.len, .int .i64 4, dv, str r.host, str r.box, .int .u32 r.n1, .int .u32 r.n2, .int .u32 r.n3, .int .u32 r.n4, .int .u32 r.n5, tv, pv] := by rw [rcCells, e]
    have hconv := soaOf r hr e dv tv pv
    have hhead := headOf r h255 dv tv pv
    unfold ConvCt at hconv
    rw [hcs] at hconv hhead ⊢
    generalize hC : [str r.name, Value.int .u16 r.typ, .int .u16 r.cls, .int .u32 r.ttl, .int .u16 r.len, .int .i64 4, dv, str r.host, str r.box, .int .u32 r.n1, .int .u32 r.n2, .int .u32 r.n3, .int .u32 r.n4, .int .u32 r.n5, tv, pv] = C at hconv hhead ⊢
    have hCl : C.length = 16 := by rw [← hC]; rfl
    have hC5 : nth C 5 = some (.int .i64 4) := by rw [← hC]; rfl
    clear hC
    refine calls_of_T (m := 99) Tryz.func33 rfl rfl (by simp) hS ?_
    repeat (first | refine za rfl rfl ?_ | refine zb rfl ?_ | refine zc rfl ?_)
    refine TL.box (cs := C) rfl rfl rfl rfl (fun xb => ?_)
    repeat (first | refine za rfl rfl ?_ | refine zb rfl ?_ | refine zc rfl ?_)
    refine TL.ldW 0 szk rfl rfl rfl hCl rfl rfl ?_
    refine TL.call0 Tryz.call49 rfl rfl rfl hhead (fun _ _ => trivial) (fun _ => TL.and fun _ => ?_)
    refine TL.allocZ 260 Tryz.zeroValue116 (by kernel_rfl) rfl rfl (fun hb zs hz => ?_)
    refine TL.stW (vs := rhCells r.name r.typ r.cls r.ttl r.len) 0 szk rfl rfl rfl rfl hrl hz rhCells_one ?_
    simp only [setN, List.nil_append]
    repeat (first | refine za rfl rfl ?_ | refine zb rfl ?_ | refine zc rfl ?_)
    refine TL.ld 1 szk rfl rfl rfl hC5 rfl rfl ?_
    repeat (first | refine TL.p tbk rfl ?_ | refine TL.nil ?_ | refine T.seq ?_ | refine T.region ?_ | refine T.skip ?_ | refine T.block ?_ | refine T.inBlock ?_ | refine T.exit rfl ?_ | refine T.condF rfl rfl ?_)
    refine T.condT rfl rfl ?_
    repeat (first | refine za rfl rfl ?_ | refine zb rfl ?_ | refine zc rfl ?_)
    refine TS.start [(0, true), (1, true), (2, true), (3, false), (4, false), (5, true)] [(hb, .row (rhCells r.name r.typ r.cls r.ttl r.len) 116), (xb, .row C 98)] mixed (by kernel_rfl) (by kernel_rfl) (by decide) (by simp) ?_
    refine TS.p tbk rfl rfl ?_
    refine TS.y rfl rfl rfl rfl (Y.loadA szk rfl rfl hrl (fun w h i v hv => by rw [Nat.zero_add]; exact h.cell (i := 0) rfl hv)) ?_
    refine TS.y rfl rfl rfl rfl (Y.loadA szk rfl rfl hCl (fun w h i v hv => by rw [Nat.zero_add]; exact h.cell (i := 1) rfl hv)) ?_
    refine TS.call0 rfl Tryz.call65 rfl rfl rfl hconv (fun w' hA => hv.mono (st_viewLe hA (Mc := []) fun _ hp => by cases hp)) (fun _ => by simp) (fun y => TS.and fun hy => ?_)
    refine TS.callS (y.2 ++ [(hb, .row (rhCells r.name r.typ r.cls r.ttl r.len) 116), (xb, .row C 98)]) rfl Tryz.call64 rfl rfl rfl (by simp) (resB4 bb sec hs3 hs5 h hf q r hr e y.1 k p hp hB) (fun w' hA => ⟨hg.mono (st_viewLe hA (Mc := bmem bb sec h q p) fun p hp => by simp [hp]), bodyX_mono (st_outL (Ml := y.2 ++ [(hb, .row (rhCells r.name r.typ r.cls r.ttl r.len) 116), (xb, .row C 98)]) (by simpa using hA) fun p hp => by simp [hp]) hy⟩) (fun _ => by simp) (fun z => TS.and fun hz => ?_)
    refine TS.p tbk rfl rfl ?_
    refine TS.nil ?_
    repeat (first | refine za rfl rfl ?_ | refine zb rfl ?_ | refine zc rfl ?_)
    exact T.ret Tryz.func33 rfl (fun w hA => ⟨z, rfl, hz, hA.sub (List.sublist_append_right _ _)⟩)
  · have hcs : rcCells r dv tv pv = [str r.name, .int .u16 r.typ, .int .u16 r.cls, .int .u32 r.ttl, .int .u16 r.len, .int .i64 5, dv, str r.host, str r.box, .int .u32 r.n1, .int .u32 r.n2, .int .u32 r.n3, .int .u32 r.n4, .int .u32 r.n5, tv, pv] := by rw [rcCells, e]
    have hconv := ptrOf r hr e dv tv pv
    have hhead := headOf r h255 dv tv pv
    unfold ConvCt at hconv
    rw [hcs] at hconv hhead ⊢
    generalize hC : [str r.name, Value.int .u16 r.typ, .int .u16 r.cls, .int .u32 r.ttl, .int .u16 r.len, .int .i64 5, dv, str r.host, str r.box, .int .u32 r.n1, .int .u32 r.n2, .int .u32 r.n3, .int .u32 r.n4, .int .u32 r.n5, tv, pv] = C at hconv hhead ⊢
    have hCl : C.length = 16 := by rw [← hC]; rfl
    have hC5 : nth C 5 = some (.int .i64 5) := by rw [← hC]; rfl
    clear hC
    refine calls_of_T (m := 99) Tryz.func33 rfl rfl (by simp) hS ?_
    repeat (first | refine za rfl rfl ?_ | refine zb rfl ?_ | refine zc rfl ?_)
    refine TL.box (cs := C) rfl rfl rfl rfl (fun xb => ?_)
    repeat (first | refine za rfl rfl ?_ | refine zb rfl ?_ | refine zc rfl ?_)
    refine TL.ldW 0 szk rfl rfl rfl hCl rfl rfl ?_
    refine TL.call0 Tryz.call49 rfl rfl rfl hhead (fun _ _ => trivial) (fun _ => TL.and fun _ => ?_)
    refine TL.allocZ 260 Tryz.zeroValue116 (by kernel_rfl) rfl rfl (fun hb zs hz => ?_)
    refine TL.stW (vs := rhCells r.name r.typ r.cls r.ttl r.len) 0 szk rfl rfl rfl rfl hrl hz rhCells_one ?_
    simp only [setN, List.nil_append]
    repeat (first | refine za rfl rfl ?_ | refine zb rfl ?_ | refine zc rfl ?_)
    refine TL.ld 1 szk rfl rfl rfl hC5 rfl rfl ?_
    repeat (first | refine TL.p tbk rfl ?_ | refine TL.nil ?_ | refine T.seq ?_ | refine T.region ?_ | refine T.skip ?_ | refine T.block ?_ | refine T.inBlock ?_ | refine T.exit rfl ?_ | refine T.condF rfl rfl ?_)
    refine T.condT rfl rfl ?_
    repeat (first | refine za rfl rfl ?_ | refine zb rfl ?_ | refine zc rfl ?_)
    refine TS.start [(0, true), (1, true), (2, true), (3, false), (4, false), (5, true)] [(hb, .row (rhCells r.name r.typ r.cls r.ttl r.len) 116), (xb, .row C 98)] mixed (by kernel_rfl) (by kernel_rfl) (by decide) (by simp) ?_
    refine TS.p tbk rfl rfl ?_
    refine TS.y rfl rfl rfl rfl (Y.loadA szk rfl rfl hrl (fun w h i v hv => by rw [Nat.zero_add]; exact h.cell (i := 0) rfl hv)) ?_
    refine TS.y rfl rfl rfl rfl (Y.loadA szk rfl rfl hCl (fun w h i v hv => by rw [Nat.zero_add]; exact h.cell (i := 1) rfl hv)) ?_
    refine TS.call0 rfl Tryz.call67 rfl rfl rfl hconv (fun w' hA => hv.mono (st_viewLe hA (Mc := []) fun _ hp => by cases hp)) (fun _ => by simp) (fun y => TS.and fun hy => ?_)
    refine TS.callS (y.2 ++ [(hb, .row (rhCells r.name r.typ r.cls r.ttl r.len) 116), (xb, .row C 98)]) rfl Tryz.call66 rfl rfl rfl (by simp) (resB5 bb sec hs3 hs5 h hf q r hr e y.1 k p hp hB) (fun w' hA => ⟨hg.mono (st_viewLe hA (Mc := bmem bb sec h q p) fun p hp => by simp [hp]), bodyX_mono (st_outL (Ml := y.2 ++ [(hb, .row (rhCells r.name r.typ r.cls r.ttl r.len) 116), (xb, .row C 98)]) (by simpa using hA) fun p hp => by simp [hp]) hy⟩) (fun _ => by simp) (fun z => TS.and fun hz => ?_)
    refine TS.p tbk rfl rfl ?_
    refine TS.nil ?_
    repeat (first | refine za rfl rfl ?_ | refine zb rfl ?_ | refine zc rfl ?_)
    exact T.ret Tryz.func33 rfl (fun w hA => ⟨z, rfl, hz, hA.sub (List.sublist_append_right _ _)⟩)
  · have hcs : rcCells r dv tv pv = [str r.name, .int .u16 r.typ, .int .u16 r.cls, .int .u32 r.ttl, .int .u16 r.len, .int .i64 6, dv, str r.host, str r.box, .int .u32 r.n1, .int .u32 r.n2, .int .u32 r.n3, .int .u32 r.n4, .int .u32 r.n5, tv, pv] := by rw [rcCells, e]
    have hconv := mxOf r hr e dv tv pv
    have hhead := headOf r h255 dv tv pv
    unfold ConvCt at hconv
    rw [hcs] at hconv hhead ⊢
    generalize hC : [str r.name, Value.int .u16 r.typ, .int .u16 r.cls, .int .u32 r.ttl, .int .u16 r.len, .int .i64 6, dv, str r.host, str r.box, .int .u32 r.n1, .int .u32 r.n2, .int .u32 r.n3, .int .u32 r.n4, .int .u32 r.n5, tv, pv] = C at hconv hhead ⊢
    have hCl : C.length = 16 := by rw [← hC]; rfl
    have hC5 : nth C 5 = some (.int .i64 6) := by rw [← hC]; rfl
    clear hC
    refine calls_of_T (m := 99) Tryz.func33 rfl rfl (by simp) hS ?_
    repeat (first | refine za rfl rfl ?_ | refine zb rfl ?_ | refine zc rfl ?_)
    refine TL.box (cs := C) rfl rfl rfl rfl (fun xb => ?_)
    repeat (first | refine za rfl rfl ?_ | refine zb rfl ?_ | refine zc rfl ?_)
    refine TL.ldW 0 szk rfl rfl rfl hCl rfl rfl ?_
    refine TL.call0 Tryz.call49 rfl rfl rfl hhead (fun _ _ => trivial) (fun _ => TL.and fun _ => ?_)
    refine TL.allocZ 260 Tryz.zeroValue116 (by kernel_rfl) rfl rfl (fun hb zs hz => ?_)
    refine TL.stW (vs := rhCells r.name r.typ r.cls r.ttl r.len) 0 szk rfl rfl rfl rfl hrl hz rhCells_one ?_
    simp only [setN, List.nil_append]
    repeat (first | refine za rfl rfl ?_ | refine zb rfl ?_ | refine zc rfl ?_)
    refine TL.ld 1 szk rfl rfl rfl hC5 rfl rfl ?_
    repeat (first | refine TL.p tbk rfl ?_ | refine TL.nil ?_ | refine T.seq ?_ | refine T.region ?_ | refine T.skip ?_ | refine T.block ?_ | refine T.inBlock ?_ | refine T.exit rfl ?_ | refine T.condF rfl rfl ?_)
    refine T.condT rfl rfl ?_
    repeat (first | refine za rfl rfl ?_ | refine zb rfl ?_ | refine zc rfl ?_)
    refine TS.start [(0, true), (1, true), (2, true), (3, false), (4, false), (5, true)] [(hb, .row (rhCells r.name r.typ r.cls r.ttl r.len) 116), (xb, .row C 98)] mixed (by kernel_rfl) (by kernel_rfl) (by decide) (by simp) ?_
    refine TS.p tbk rfl rfl ?_
    refine TS.y rfl rfl rfl rfl (Y.loadA szk rfl rfl hrl (fun w h i v hv => by rw [Nat.zero_add]; exact h.cell (i := 0) rfl hv)) ?_
    refine TS.y rfl rfl rfl rfl (Y.loadA szk rfl rfl hCl (fun w h i v hv => by rw [Nat.zero_add]; exact h.cell (i := 1) rfl hv)) ?_
    refine TS.call0 rfl Tryz.call69 rfl rfl rfl hconv (fun w' hA => hv.mono (st_viewLe hA (Mc := []) fun _ hp => by cases hp)) (fun _ => by simp) (fun y => TS.and fun hy => ?_)
    refine TS.callS (y.2 ++ [(hb, .row (rhCells r.name r.typ r.cls r.ttl r.len) 116), (xb, .row C 98)]) rfl Tryz.call68 rfl rfl rfl (by simp) (resB6 bb sec hs3 hs5 h hf q r hr e y.1 k p hp hB) (fun w' hA => ⟨hg.mono (st_viewLe hA (Mc := bmem bb sec h q p) fun p hp => by simp [hp]), bodyX_mono (st_outL (Ml := y.2 ++ [(hb, .row (rhCells r.name r.typ r.cls r.ttl r.len) 116), (xb, .row C 98)]) (by simpa using hA) fun p hp => by simp [hp]) hy⟩) (fun _ => by simp) (fun z => TS.and fun hz => ?_)
    refine TS.p tbk rfl rfl ?_
    refine TS.nil ?_
    repeat (first | refine za rfl rfl ?_ | refine zb rfl ?_ | refine zc rfl ?_)
    exact T.ret Tryz.func33 rfl (fun w hA => ⟨z, rfl, hz, hA.sub (List.sublist_append_right _ _)⟩)
  · have hcs : rcCells r dv tv pv = [str r.name, .int .u16 r.typ, .int .u16 r.cls, .int .u32 r.ttl, .int .u16 r.len, .int .i64 7, dv, str r.host, str r.box, .int .u32 r.n1, .int .u32 r.n2, .int .u32 r.n3, .int .u32 r.n4, .int .u32 r.n5, tv, pv] := by rw [rcCells, e]
    have hconv := txtOf r hr e dv tv pv
    have hhead := headOf r h255 dv tv pv
    unfold ConvCt at hconv
    rw [hcs] at hconv hhead ⊢
    generalize hC : [str r.name, Value.int .u16 r.typ, .int .u16 r.cls, .int .u32 r.ttl, .int .u16 r.len, .int .i64 7, dv, str r.host, str r.box, .int .u32 r.n1, .int .u32 r.n2, .int .u32 r.n3, .int .u32 r.n4, .int .u32 r.n5, tv, pv] = C at hconv hhead ⊢
    have hCl : C.length = 16 := by rw [← hC]; rfl
    have hC5 : nth C 5 = some (.int .i64 7) := by rw [← hC]; rfl
    clear hC
    refine calls_of_T (m := 99) Tryz.func33 rfl rfl (by simp) hS ?_
    repeat (first | refine za rfl rfl ?_ | refine zb rfl ?_ | refine zc rfl ?_)
    refine TL.box (cs := C) rfl rfl rfl rfl (fun xb => ?_)
    repeat (first | refine za rfl rfl ?_ | refine zb rfl ?_ | refine zc rfl ?_)
    refine TL.ldW 0 szk rfl rfl rfl hCl rfl rfl ?_
    refine TL.call0 Tryz.call49 rfl rfl rfl hhead (fun _ _ => trivial) (fun _ => TL.and fun _ => ?_)
    refine TL.allocZ 260 Tryz.zeroValue116 (by kernel_rfl) rfl rfl (fun hb zs hz => ?_)
    refine TL.stW (vs := rhCells r.name r.typ r.cls r.ttl r.len) 0 szk rfl rfl rfl rfl hrl hz rhCells_one ?_
    simp only [setN, List.nil_append]
    repeat (first | refine za rfl rfl ?_ | refine zb rfl ?_ | refine zc rfl ?_)
    refine TL.ld 1 szk rfl rfl rfl hC5 rfl rfl ?_
    repeat (first | refine TL.p tbk rfl ?_ | refine TL.nil ?_ | refine T.seq ?_ | refine T.region ?_ | refine T.skip ?_ | refine T.block ?_ | refine T.inBlock ?_ | refine T.exit rfl ?_ | refine T.condF rfl rfl ?_)
    refine T.condT rfl rfl ?_
    repeat (first | refine za rfl rfl ?_ | refine zb rfl ?_ | refine zc rfl ?_)
    refine TS.start [(0, true), (1, true), (2, true), (3, false), (4, false), (5, true)] [(hb, .row (rhCells r.name r.typ r.cls r.ttl r.len) 116), (xb, .row C 98)] mixed (by kernel_rfl) (by kernel_rfl) (by decide) (by simp) ?_
    refine TS.p tbk rfl rfl ?_
    refine TS.y rfl rfl rfl rfl (Y.loadA szk rfl rfl hrl (fun w h i v hv => by rw [Nat.zero_add]; exact h.cell (i := 0) rfl hv)) ?_
    refine TS.y rfl rfl rfl rfl (Y.loadA szk rfl rfl hCl (fun w h i v hv => by rw [Nat.zero_add]; exact h.cell (i := 1) rfl hv)) ?_
    refine TS.call0 rfl Tryz.call71 rfl rfl rfl hconv (fun w' hA => hv.mono (st_viewLe hA (Mc := []) fun _ hp => by cases hp)) (fun _ => by simp) (fun y => TS.and fun hy => ?_)
    refine TS.callS (y.2 ++ [(hb, .row (rhCells r.name r.typ r.cls r.ttl r.len) 116), (xb, .row C 98)]) rfl Tryz.call70 rfl rfl rfl (by simp) (resB7 bb sec hs3 hs5 h hf q r hr e y.1 k p hp hB) (fun w' hA => ⟨hg.mono (st_viewLe hA (Mc := bmem bb sec h q p) fun p hp => by simp [hp]), bodyX_mono (st_outL (Ml := y.2 ++ [(hb, .row (rhCells r.name r.typ r.cls r.ttl r.len) 116), (xb, .row C 98)]) (by simpa using hA) fun p hp => by simp [hp]) hy⟩) (fun _ => by simp) (fun z => TS.and fun hz => ?_)
    refine TS.p tbk rfl rfl ?_
    refine TS.nil ?_
    repeat (first | refine za rfl rfl ?_ | refine zb rfl ?_ | refine zc rfl ?_)
    exact T.ret Tryz.func33 rfl (fun w hA => ⟨z, rfl, hz, hA.sub (List.sublist_append_right _ _)⟩)
  · have hcs : rcCells r dv tv pv = [str r.name, .int .u16 r.typ, .int .u16 r.cls, .int .u32 r.ttl, .int .u16 r.len, .int .i64 8, dv, str r.host, str r.box, .int .u32 r.n1, .int .u32 r.n2, .int .u32 r.n3, .int .u32 r.n4, .int .u32 r.n5, tv, pv] := by rw [rcCells, e]
    have hconv := aaaaOf r hr e dv tv pv
    have hhead := headOf r h255 dv tv pv
    unfold ConvCt at hconv
    rw [hcs] at hconv hhead ⊢
    generalize hC : [str r.name, Value.int .u16 r.typ, .int .u16 r.cls, .int .u32 r.ttl, .int .u16 r.len, .int .i64 8, dv, str r.host, str r.box, .int .u32 r.n1, .int .u32 r.n2, .int .u32 r.n3, .int .u32 r.n4, .int .u32 r.n5, tv, pv] = C at hconv hhead ⊢
    have hCl : C.length = 16 := by rw [← hC]; rfl
    have hC5 : nth C 5 = some (.int .i64 8) := by rw [← hC]; rfl
    clear hC
    refine calls_of_T (m := 99) Tryz.func33 rfl rfl (by simp) hS ?_
    repeat (first | refine za rfl rfl ?_ | refine zb rfl ?_ | refine zc rfl ?_)
    refine TL.box (cs := C) rfl rfl rfl rfl (fun xb => ?_)
    repeat (first | refine za rfl rfl ?_ | refine zb rfl ?_ | refine zc rfl ?_)
    refine TL.ldW 0 szk rfl rfl rfl hCl rfl rfl ?_
    refine TL.call0 Tryz.call49 rfl rfl rfl hhead (fun _ _ => trivial) (fun _ => TL.and fun _ => ?_)
    refine TL.allocZ 260 Tryz.zeroValue116 (by kernel_rfl) rfl rfl (fun hb zs hz => ?_)
    refine TL.stW (vs := rhCells r.name r.typ r.cls r.ttl r.len) 0 szk rfl rfl rfl rfl hrl hz rhCells_one ?_
    simp only [setN, List.nil_append]
    repeat (first | refine za rfl rfl ?_ | refine zb rfl ?_ | refine zc rfl ?_)
    refine TL.ld 1 szk rfl rfl rfl hC5 rfl rfl ?_
    repeat (first | refine TL.p tbk rfl ?_ | refine TL.nil ?_ | refine T.seq ?_ | refine T.region ?_ | refine T.skip ?_ | refine T.block ?_ | refine T.inBlock ?_ | refine T.exit rfl ?_ | refine T.condF rfl rfl ?_)
    refine T.condT rfl rfl ?_
    repeat (first | refine za rfl rfl ?_ | refine zb rfl ?_ | refine zc rfl ?_)
    refine TS.start [(0, true), (1, true), (2, true), (3, false), (4, false), (5, true)] [(hb, .row (rhCells r.name r.typ r.cls r.ttl r.len) 116), (xb, .row C 98)] mixed (by kernel_rfl) (by kernel_rfl) (by decide) (by simp) ?_
    refine TS.p tbk rfl rfl ?_
    refine TS.y rfl rfl rfl rfl (Y.loadA szk rfl rfl hrl (fun w h i v hv => by rw [Nat.zero_add]; exact h.cell (i := 0) rfl hv)) ?_
    refine TS.y rfl rfl rfl rfl (Y.loadA szk rfl rfl hCl (fun w h i v hv => by rw [Nat.zero_add]; exact h.cell (i := 1) rfl hv)) ?_
    refine TS.call0 rfl Tryz.call73 rfl rfl rfl hconv (fun w' hA => hv.mono (st_viewLe hA (Mc := []) fun _ hp => by cases hp)) (fun _ => by simp) (fun y => TS.and fun hy => ?_)
    refine TS.callS (y.2 ++ [(hb, .row (rhCells r.name r.typ r.cls r.ttl r.len) 116), (xb, .row C 98)]) rfl Tryz.call72 rfl rfl rfl (by simp) (resB8 bb sec hs3 hs5 h hf q r hr e y.1 k p hp hB) (fun w' hA => ⟨hg.mono (st_viewLe hA (Mc := bmem bb sec h q p) fun p hp => by simp [hp]), bodyX_mono (st_outL (Ml := y.2 ++ [(hb, .row (rhCells r.name r.typ r.cls r.ttl r.len) 116), (xb, .row C 98)]) (by simpa using hA) fun p hp => by simp [hp]) hy⟩) (fun _ => by simp) (fun z => TS.and fun hz => ?_)
    refine TS.p tbk rfl rfl ?_
    refine TS.nil ?_
    repeat (first | refine za rfl rfl ?_ | refine zb rfl ?_ | refine zc rfl ?_)
    exact T.ret Tryz.func33 rfl (fun w hA => ⟨z, rfl, hz, hA.sub (List.sublist_append_right _ _)⟩)
  · have hcs : rcCells r dv tv pv = [str r.name, .int .u16 r.typ, .int .u16 r.cls, .int .u32 r.ttl, .int .u16 r.len, .int .i64 9, dv, str r.host, str r.box, .int .u32 r.n1, .int .u32 r.n2, .int .u32 r.n3, .int .u32 r.n4, .int .u32 r.n5, tv, pv] := by rw [rcCells, e]
    have hconv := srvOf r hr e dv tv pv
    have hhead := headOf r h255 dv tv pv
    unfold ConvCt at hconv
    rw [hcs] at hconv hhead ⊢
    generalize hC : [str r.name, Value.int .u16 r.typ, .int .u16 r.cls, .int .u32 r.ttl, .int .u16 r.len, .int .i64 9, dv, str r.host, str r.box, .int .u32 r.n1, .int .u32 r.n2, .int .u32 r.n3, .int .u32 r.n4, .int .u32 r.n5, tv, pv] = C at hconv hhead ⊢
    have hCl : C.length = 16 := by rw [← hC]; rfl
    have hC5 : nth C 5 = some (.int .i64 9) := by rw [← hC]; rfl
    clear hC
    refine calls_of_T (m := 99) Tryz.func33 rfl rfl (by simp) hS ?_
    repeat (first | refine za rfl rfl ?_ | refine zb rfl ?_ | refine zc rfl ?_)
    refine TL.box (cs := C) rfl rfl rfl rfl (fun xb => ?_)
    repeat (first | refine za rfl rfl ?_ | refine zb rfl ?_ | refine zc rfl ?_)
    refine TL.ldW 0 szk rfl rfl rfl hCl rfl rfl ?_
    refine TL.call0 Tryz.call49 rfl rfl rfl hhead (fun _ _ => trivial) (fun _ => TL.and fun _ => ?_)
    refine TL.allocZ 260 Tryz.zeroValue116 (by kernel_rfl) rfl rfl (fun hb zs hz => ?_)
    refine TL.stW (vs := rhCells r.name r.typ r.cls r.ttl r.len) 0 szk rfl rfl rfl rfl hrl hz rhCells_one ?_
    simp only [setN, List.nil_append]
    repeat (first | refine za rfl rfl ?_ | refine zb rfl ?_ | refine zc rfl ?_)
    refine TL.ld 1 szk rfl rfl rfl hC5 rfl rfl ?_
    repeat (first | refine TL.p tbk rfl ?_ | refine TL.nil ?_ | refine T.seq ?_ | refine T.region ?_ | refine T.skip ?_ | refine T.block ?_ | refine T.inBlock ?_ | refine T.exit rfl ?_ | refine T.condF rfl rfl ?_)
    refine T.condT rfl rfl ?_
    repeat (first | refine za rfl rfl ?_ | refine zb rfl ?_ | refine zc rfl ?_)
    refine TS.start [(0, true), (1, true), (2, true), (3, false), (4, false), (5, true)] [(hb, .row (rhCells r.name r.typ r.cls r.ttl r.len) 116), (xb, .row C 98)] mixed (by kernel_rfl) (by kernel_rfl) (by decide) (by simp) ?_
    refine TS.p tbk rfl rfl ?_
    refine TS.y rfl rfl rfl rfl (Y.loadA szk rfl rfl hrl (fun w h i v hv => by rw [Nat.zero_add]; exact h.cell (i := 0) rfl hv)) ?_
    refine TS.y rfl rfl rfl rfl (Y.loadA szk rfl rfl hCl (fun w h i v hv => by rw [Nat.zero_add]; exact h.cell (i := 1) rfl hv)) ?_
    refine TS.call0 rfl Tryz.call75 rfl rfl rfl hconv (fun w' hA => hv.mono (st_viewLe hA (Mc := []) fun _ hp => by cases hp)) (fun _ => by simp) (fun y => TS.and fun hy => ?_)
    refine TS.callS (y.2 ++ [(hb, .row (rhCells r.name r.typ r.cls r.ttl r.len) 116), (xb, .row C 98)]) rfl Tryz.call74 rfl rfl rfl (by simp) (resB9 bb sec hs3 hs5 h hf q r hr e y.1 k p hp hB) (fun w' hA => ⟨hg.mono (st_viewLe hA (Mc := bmem bb sec h q p) fun p hp => by simp [hp]), bodyX_mono (st_outL (Ml := y.2 ++ [(hb, .row (rhCells r.name r.typ r.cls r.ttl r.len) 116), (xb, .row C 98)]) (by simpa using hA) fun p hp => by simp [hp]) hy⟩) (fun _ => by simp) (fun z => TS.and fun hz => ?_)
    refine TS.p tbk rfl rfl ?_
    refine TS.nil ?_
    repeat (first | refine za rfl rfl ?_ | refine zb rfl ?_ | refine zc rfl ?_)
    exact T.ret Tryz.func33 rfl (fun w hA => ⟨z, rfl, hz, hA.sub (List.sublist_append_right _ _)⟩)
  · have hcs : rcCells r dv tv pv = [str r.name, .int .u16 r.typ, .int .u16 r.cls, .int .u32 r.ttl, .int .u16 r.len, .int .i64 10, dv, str r.host, str r.box, .int .u32 r.n1, .int .u32 r.n2, .int .u32 r.n3, .int .u32 r.n4, .int .u32 r.n5, tv, pv] := by rw [rcCells, e]
    have hconv := optOf r hr e dv tv pv
    have hhead := headOf r h255 dv tv pv
    unfold ConvCt at hconv
    rw [hcs] at hconv hhead ⊢
    generalize hC : [str r.name, Value.int .u16 r.typ, .int .u16 r.cls, .int .u32 r.ttl, .int .u16 r.len, .int .i64 10, dv, str r.host, str r.box, .int .u32 r.n1, .int .u32 r.n2, .int .u32 r.n3, .int .u32 r.n4, .int .u32 r.n5, tv, pv] = C at hconv hhead ⊢
    have hCl : C.length = 16 := by rw [← hC]; rfl
    have hC5 : nth C 5 = some (.int .i64 10) := by rw [← hC]; rfl
    clear hC
    refine calls_of_T (m := 99) Tryz.func33 rfl rfl (by simp) hS ?_
    repeat (first | refine za rfl rfl ?_ | refine zb rfl ?_ | refine zc rfl ?_)
    refine TL.box (cs := C) rfl rfl rfl rfl (fun xb => ?_)
    repeat (first | refine za rfl rfl ?_ | refine zb rfl ?_ | refine zc rfl ?_)
    refine TL.ldW 0 szk rfl rfl rfl hCl rfl rfl ?_
    refine TL.call0 Tryz.call49 rfl rfl rfl hhead (fun _ _ => trivial) (fun _ => TL.and fun _ => ?_)
    refine TL.allocZ 260 Tryz.zeroValue116 (by kernel_rfl) rfl rfl (fun hb zs hz => ?_)
    refine TL.stW (vs := rhCells r.name r.typ r.cls r.ttl r.len) 0 szk rfl rfl rfl rfl hrl hz rhCells_one ?_
    simp only [setN, List.nil_append]
    repeat (first | refine za rfl rfl ?_ | refine zb rfl ?_ | refine zc rfl ?_)
    refine TL.ld 1 szk rfl rfl rfl hC5 rfl rfl ?_
    repeat (first | refine TL.p tbk rfl ?_ | refine TL.nil ?_ | refine T.seq ?_ | refine T.region ?_ | refine T.skip ?_ | refine T.block ?_ | refine T.inBlock ?_ | refine T.exit rfl ?_ | refine T.condF rfl rfl ?_)
    refine T.condT rfl rfl ?_
    repeat (first | refine za rfl rfl ?_ | refine zb rfl ?_ | refine zc rfl ?_)
    refine TS.start [(0, true), (1, true), (2, true), (3, false), (4, false), (5, true)] [(hb, .row (rhCells r.name r.typ r.cls r.ttl r.len) 116), (xb, .row C 98)] mixed (by kernel_rfl) (by kernel_rfl) (by decide) (by simp) ?_
    refine TS.p tbk rfl rfl ?_
    refine TS.y rfl rfl rfl rfl (Y.loadA szk rfl rfl hrl (fun w h i v hv => by rw [Nat.zero_add]; exact h.cell (i := 0) rfl hv)) ?_
    refine TS.y rfl rfl rfl rfl (Y.loadA szk rfl rfl hCl (fun w h i v hv => by rw [Nat.zero_add]; exact h.cell (i := 1) rfl hv)) ?_
    refine TS.call0 rfl Tryz.call77 rfl rfl rfl hconv (fun w' hA => hv.mono (st_viewLe hA (Mc := []) fun _ hp => by cases hp)) (fun _ => by simp) (fun y => TS.and fun hy => ?_)
    refine TS.callS (y.2 ++ [(hb, .row (rhCells r.name r.typ r.cls r.ttl r.len) 116), (xb, .row C 98)]) rfl Tryz.call76 rfl rfl rfl (by simp) (resB10 bb sec hs3 hs5 h hf q r hr e y.1 k p hp hB) (fun w' hA => ⟨hg.mono (st_viewLe hA (Mc := bmem bb sec h q p) fun p hp => by simp [hp]), bodyX_mono (st_outL (Ml := y.2 ++ [(hb, .row (rhCells r.name r.typ r.cls r.ttl r.len) 116), (xb, .row C 98)]) (by simpa using hA) fun p hp => by simp [hp]) hy⟩) (fun _ => by simp) (fun z => TS.and fun hz => ?_)
    refine TS.p tbk rfl rfl ?_
    refine TS.nil ?_
    repeat (first | refine za rfl rfl ?_ | refine zb rfl ?_ | refine zc rfl ?_)
    exact T.ret Tryz.func33 rfl (fun w hA => ⟨z, rfl, hz, hA.sub (List.sublist_append_right _ _)⟩)
  · have hcs : rcCells r dv tv pv = [str r.name, .int .u16 r.typ, .int .u16 r.cls, .int .u32 r.ttl, .int .u16 r.len, .int .i64 11, dv, str r.host, str r.box, .int .u32 r.n1, .int .u32 r.n2, .int .u32 r.n3, .int .u32 r.n4, .int .u32 r.n5, tv, pv] := by rw [rcCells, e]
    have hconv := svcbOf' r hr e dv tv pv
    have hhead := headOf r h255 dv tv pv
    unfold ConvCt at hconv
    rw [hcs] at hconv hhead ⊢
    generalize hC : [str r.name, Value.int .u16 r.typ, .int .u16 r.cls, .int .u32 r.ttl, .int .u16 r.len, .int .i64 11, dv, str r.host, str r.box, .int .u32 r.n1, .int .u32 r.n2, .int .u32 r.n3, .int .u32 r.n4, .int .u32 r.n5, tv, pv] = C at hconv hhead ⊢
    have hCl : C.length = 16 := by rw [← hC]; rfl
    have hC5 : nth C 5 = some (.int .i64 11) := by rw [← hC]; rfl
    clear hC
    refine calls_of_T (m := 99) Tryz.func33 rfl rfl (by simp) hS ?_
    repeat (first | refine za rfl rfl ?_ | refine zb rfl ?_ | refine zc rfl ?_)
    refine TL.box (cs := C) rfl rfl rfl rfl (fun xb => ?_)
    repeat (first | refine za rfl rfl ?_ | refine zb rfl ?_ | refine zc rfl ?_)
    refine TL.ldW 0 szk rfl rfl rfl hCl rfl rfl ?_
    refine TL.call0 Tryz.call49 rfl rfl rfl hhead (fun _ _ => trivial) (fun _ => TL.and fun _ => ?_)
    refine TL.allocZ 260 Tryz.zeroValue116 (by kernel_rfl) rfl rfl (fun hb zs hz => ?_)
    refine TL.stW (vs := rhCells r.name r.typ r.cls r.ttl r.len) 0 szk rfl rfl rfl rfl hrl hz rhCells_one ?_
    simp only [setN, List.nil_append]
    repeat (first | refine za rfl rfl ?_ | refine zb rfl ?_ | refine zc rfl ?_)
    refine TL.ld 1 szk rfl rfl rfl hC5 rfl rfl ?_
    repeat (first | refine TL.p tbk rfl ?_ | refine TL.nil ?_ | refine T.seq ?_ | refine T.region ?_ | refine T.skip ?_ | refine T.block ?_ | refine T.inBlock ?_ | refine T.exit rfl ?_ | refine T.condF rfl rfl ?_)
    refine T.condT rfl rfl ?_
    repeat (first | refine za rfl rfl ?_ | refine zb rfl ?_ | refine zc rfl ?_)
    refine TS.start [(0, true), (1, true), (2, true), (3, false), (4, false), (5, true)] [(hb, .row (rhCells r.name r.typ r.cls r.ttl r.len) 116), (xb, .row C 98)] mixed (by kernel_rfl) (by kernel_rfl) (by decide) (by simp) ?_
    refine TS.p tbk rfl rfl ?_
    refine TS.y rfl rfl rfl rfl (Y.loadA szk rfl rfl hrl (fun w h i v hv => by rw [Nat.zero_add]; exact h.cell (i := 0) rfl hv)) ?_
    refine TS.y rfl rfl rfl rfl (Y.loadA szk rfl rfl hCl (fun w h i v hv => by rw [Nat.zero_add]; exact h.cell (i := 1) rfl hv)) ?_
    refine TS.call0 rfl Tryz.call79 rfl rfl rfl hconv (fun w' hA => hv.mono (st_viewLe hA (Mc := []) fun _ hp => by cases hp)) (fun _ => by simp) (fun y => TS.and fun hy => ?_)
    refine TS.callS (y.2 ++ [(hb, .row (rhCells r.name r.typ r.cls r.ttl r.len) 116), (xb, .row C 98)]) rfl Tryz.call78 rfl rfl rfl (by simp) (resB11 bb sec hs3 hs5 h hf q r hr e y.1 k p hp hB) (fun w' hA => ⟨hg.mono (st_viewLe hA (Mc := bmem bb sec h q p) fun p hp => by simp [hp]), bodyX_mono (st_outL (Ml := y.2 ++ [(hb, .row (rhCells r.name r.typ r.cls r.ttl r.len) 116), (xb, .row C 98)]) (by simpa using hA) fun p hp => by simp [hp]) hy⟩) (fun _ => by simp) (fun z => TS.and fun hz => ?_)
    refine TS.p tbk rfl rfl ?_
    refine TS.nil ?_
    repeat (first | refine za rfl rfl ?_ | refine zb rfl ?_ | refine zc rfl ?_)
    exact T.ret Tryz.func33 rfl (fun w hA => ⟨z, rfl, hz, hA.sub (List.sublist_append_right _ _)⟩)
  · have hcs : rcCells r dv tv pv = [str r.name, .int .u16 r.typ, .int .u16 r.cls, .int .u32 r.ttl, .int .u16 r.len, .int .i64 12, dv, str r.host, str r.box, .int .u32 r.n1, .int .u32 r.n2, .int .u32 r.n3, .int .u32 r.n4, .int .u32 r.n5, tv, pv] := by rw [rcCells, e]
    have hconv := httpsOf r hr e dv tv pv
    have hhead := headOf r h255 dv tv pv
    unfold ConvCt at hconv
    rw [hcs] at hconv hhead ⊢
    generalize hC : [str r.name, Value.int .u16 r.typ, .int .u16 r.cls, .int .u32 r.ttl, .int .u16 r.len, .int .i64 12, dv, str r.host, str r.box, .int .u32 r.n1, .int .u32 r.n2, .int .u32 r.n3, .int .u32 r.n4, .int .u32 r.n5, tv, pv] = C at hconv hhead ⊢
    have hCl : C.length = 16 := by rw [← hC]; rfl
    have hC5 : nth C 5 = some (.int .i64 12) := by rw [← hC]; rfl
    clear hC
    refine calls_of_T (m := 99) Tryz.func33 rfl rfl (by simp) hS ?_
    repeat (first | refine za rfl rfl ?_ | refine zb rfl ?_ | refine zc rfl ?_)
    refine TL.box (cs := C) rfl rfl rfl rfl (fun xb => ?_)
    repeat (first | refine za rfl rfl ?_ | refine zb rfl ?_ | refine zc rfl ?_)
    refine TL.ldW 0 szk rfl rfl rfl hCl rfl rfl ?_
    refine TL.call0 Tryz.call49 rfl rfl rfl hhead (fun _ _ => trivial) (fun _ => TL.and fun _ => ?_)
    refine TL.allocZ 260 Tryz.zeroValue116 (by kernel_rfl) rfl rfl (fun hb zs hz => ?_)
    refine TL.stW (vs := rhCells r.name r.typ r.cls r.ttl r.len) 0 szk rfl rfl rfl rfl hrl hz rhCells_one ?_
    simp only [setN, List.nil_append]
    repeat (first | refine za rfl rfl ?_ | refine zb rfl ?_ | refine zc rfl ?_)
    refine TL.ld 1 szk rfl rfl rfl hC5 rfl rfl ?_
    repeat (first | refine TL.p tbk rfl ?_ | refine TL.nil ?_ | refine T.seq ?_ | refine T.region ?_ | refine T.skip ?_ | refine T.block ?_ | refine T.inBlock ?_ | refine T.exit rfl ?_ | refine T.condF rfl rfl ?_)
    refine T.condT rfl rfl ?_
    repeat (first | refine za rfl rfl ?_ | refine zb rfl ?_ | refine zc rfl ?_)
    refine TS.start [(0, true), (1, true), (2, true), (3, false), (4, false), (5, true)] [(hb, .row (rhCells r.name r.typ r.cls r.ttl r.len) 116), (xb, .row C 98)] mixed (by kernel_rfl) (by kernel_rfl) (by decide) (by simp) ?_
    refine TS.p tbk rfl rfl ?_
    refine TS.y rfl rfl rfl rfl (Y.loadA szk rfl rfl hrl (fun w h i v hv => by rw [Nat.zero_add]; exact h.cell (i := 0) rfl hv)) ?_
    refine TS.y rfl rfl rfl rfl (Y.loadA szk rfl rfl hCl (fun w h i v hv => by rw [Nat.zero_add]; exact h.cell (i := 1) rfl hv)) ?_
    refine TS.call0 rfl Tryz.call81 rfl rfl rfl hconv (fun w' hA => hv.mono (st_viewLe hA (Mc := []) fun _ hp => by cases hp)) (fun _ => by simp) (fun y => TS.and fun hy => ?_)
    refine TS.callS (y.2 ++ [(hb, .row (rhCells r.name r.typ r.cls r.ttl r.len) 116), (xb, .row C 98)]) rfl Tryz.call80 rfl rfl rfl (by simp) (resB12 bb sec hs3 hs5 h hf q r hr e y.1 k p hp hB) (fun w' hA => ⟨hg.mono (st_viewLe hA (Mc := bmem bb sec h q p) fun p hp => by simp [hp]), bodyX_mono (st_outL (Ml := y.2 ++ [(hb, .row (rhCells r.name r.typ r.cls r.ttl r.len) 116), (xb, .row C 98)]) (by simpa using hA) fun p hp => by simp [hp]) hy⟩) (fun _ => by simp) (fun z => TS.and fun hz => ?_)
    refine TS.p tbk rfl rfl ?_
    refine TS.nil ?_
    repeat (first | refine za rfl rfl ?_ | refine zb rfl ?_ | refine zc rfl ?_)
    exact T.ret Tryz.func33 rfl (fun w hA => ⟨z, rfl, hz, hA.sub (List.sublist_append_right _ _)⟩)
  · have hcs : rcCells r dv tv pv = [str r.name, .int .u16 r.typ, .int .u16 r.cls, .int .u32 r.ttl, .int .u16 r.len, .int .i64 13, dv, str r.host, str r.box, .int .u32 r.n1, .int .u32 r.n2, .int .u32 r.n3, .int .u32 r.n4, .int .u32 r.n5, tv, pv] := by rw [rcCells, e]
    have hconv := unknownOf r hr e dv tv pv
    have hhead := headOf r h255 dv tv pv
    unfold ConvCt at hconv
    rw [hcs] at hconv hhead ⊢
    generalize hC : [str r.name, Value.int .u16 r.typ, .int .u16 r.cls, .int .u32 r.ttl, .int .u16 r.len, .int .i64 13, dv, str r.host, str r.box, .int .u32 r.n1, .int .u32 r.n2, .int .u32 r.n3, .int .u32 r.n4, .int .u32 r.n5, tv, pv] = C at hconv hhead ⊢
    have hCl : C.length = 16 := by rw [← hC]; rfl
    have hC5 : nth C 5 = some (.int .i64 13) := by rw [← hC]; rfl
    clear hC
    refine calls_of_T (m := 99) Tryz.func33 rfl rfl (by simp) hS ?_
    repeat (first | refine za rfl rfl ?_ | refine zb rfl ?_ | refine zc rfl ?_)
    refine TL.box (cs := C) rfl rfl rfl rfl (fun xb => ?_)
    repeat (first | refine za rfl rfl ?_ | refine zb rfl ?_ | refine zc rfl ?_)
    refine TL.ldW 0 szk rfl rfl rfl hCl rfl rfl ?_
    refine TL.call0 Tryz.call49 rfl rfl rfl hhead (fun _ _ => trivial) (fun _ => TL.and fun _ => ?_)
    refine TL.allocZ 260 Tryz.zeroValue116 (by kernel_rfl) rfl rfl (fun hb zs hz => ?_)
    refine TL.stW (vs := rhCells r.name r.typ r.cls r.ttl r.len) 0 szk rfl rfl rfl rfl hrl hz rhCells_one ?_
    simp only [setN, List.nil_append]
    repeat (first | refine za rfl rfl ?_ | refine zb rfl ?_ | refine zc rfl ?_)
    refine TL.ld 1 szk rfl rfl rfl hC5 rfl rfl ?_
    repeat (first | refine TL.p tbk rfl ?_ | refine TL.nil ?_ | refine T.seq ?_ | refine T.region ?_ | refine T.skip ?_ | refine T.block ?_ | refine T.inBlock ?_ | refine T.exit rfl ?_ | refine T.condF rfl rfl ?_)
    refine TS.start [(0, true), (1, true), (2, true), (3, false), (4, false), (5, true)] [(hb, .row (rhCells r.name r.typ r.cls r.ttl r.len) 116), (xb, .row C 98)] mixed (by kernel_rfl) (by kernel_rfl) (by decide) (by simp) ?_
    refine TS.p tbk rfl rfl ?_
    refine TS.y rfl rfl rfl rfl (Y.loadA szk rfl rfl hrl (fun w h i v hv => by rw [Nat.zero_add]; exact h.cell (i := 0) rfl hv)) ?_
    refine TS.y rfl rfl rfl rfl (Y.loadA szk rfl rfl hCl (fun w h i v hv => by rw [Nat.zero_add]; exact h.cell (i := 1) rfl hv)) ?_
    refine TS.call0 rfl Tryz.call83 rfl rfl rfl hconv (fun w' hA => hv.mono (st_viewLe hA (Mc := []) fun _ hp => by cases hp)) (fun _ => by simp) (fun y => TS.and fun hy => ?_)
    refine TS.callS (y.2 ++ [(hb, .row (rhCells r.name r.typ r.cls r.ttl r.len) 116), (xb, .row C 98)]) rfl Tryz.call82 rfl rfl rfl (by simp) (resB13 bb sec hs3 hs5 h hf q r hr e y.1 k p hp hB) (fun w' hA => ⟨hg.mono (st_viewLe hA (Mc := bmem bb sec h q p) fun p hp => by simp [hp]), bodyX_mono (st_outL (Ml := y.2 ++ [(hb, .row (rhCells r.name r.typ r.cls r.ttl r.len) 116), (xb, .row C 98)]) (by simpa using hA) fun p hp => by simp [hp]) hy⟩) (fun _ => by simp) (fun z => TS.and fun hz => ?_)
    refine TS.p tbk rfl rfl ?_
    refine TS.nil ?_
    repeat (first | refine za rfl rfl ?_ | refine zb rfl ?_ | refine zc rfl ?_)
    exact T.ret Tryz.func33 rfl (fun w hA => ⟨z, rfl, hz, hA.sub (List.sublist_append_right _ _)⟩)
end X
namespace X
theorem pack16L (b off len cap : Nat) (cs : List Value) (m : Nat) (hfit : off + len + 2 ≤ cs.length) (hcap : len + 2 ≤ cap) :
    Ct (β := Unit) Tryz.prog 102 [.slice (some ⟨b, off, none⟩) len cap, .int .u16 m] [(b, .row cs 5)] (fun _ => True) (fun _ => .slice (some ⟨b, off, none⟩) (len + 2) cap) (fun _ _ => True) (fun _ => [(b, .row (splice cs (off + len) ((w2 m).map bv)) 5)]) := by
  intro w hS _
  refine calls_of_T (m := 13) Tryz.func102 rfl rfl (by simp) hS ?_
  repeat (first | refine za rfl rfl ?_ | refine zb rfl ?_ | refine zc rfl ?_)
  refine TL.bs el37 rfl rfl (by intro v hv; simp at hv; rcases hv with rfl | rfl <;> rfl) (by simp) rfl rfl (fun b1 => ?_)
  have e1 := byte_of (m / 256) ((m : Int).fdiv (2 ^ min 8 IntKind.u16.bits)) (by rw [shr16]; omega)
  have e2 := byte_of m (m : Int) (by omega)
  refine TL.appendIn (news := (w2 m).map bv) (m := 2) 1 el37 sl37 rfl rfl rfl rfl rfl (src_block (i := 0) (E := w2 m) rfl (by simp [w2, e1, e2])) (by omega) (by omega) ?_
  repeat (first | refine za rfl rfl ?_ | refine zb rfl ?_ | refine zc rfl ?_)
  refine T.ret Tryz.func102 rfl (fun w hA => ⟨(), ?_, trivial, hA.sub (by simp [setN])⟩)
  simp [pack]
theorem hPackIn (hb ho : Nat) (h : Bh) (b cap : Nat) (cs : List Value) (hfit : 12 ≤ cs.length) (hcap : 12 ≤ cap) :
    Ct (β := Unit) Tryz.prog 53 [ptr hb ho, .slice (some ⟨b, 0, none⟩) 0 cap] [(b, .row cs 5)] (fun w => RowAt (view [b] w) hb ho [.int .u16 (h.id : Int), .int .u16 (h.bits : Int), .int .u16 (h.n1 : Int), .int .u16 (h.n2 : Int), .int .u16 (h.n3 : Int), .int .u16 (h.n4 : Int)]) (fun _ => .slice (some ⟨b, 0, none⟩) 12 cap)
      (fun _ _ => True) (fun _ => [(b, .row (splice cs 0 ((w2 h.id ++ (w2 h.bits ++ (w2 h.n1 ++ (w2 h.n2 ++ (w2 h.n3 ++ w2 h.n4))))).map bv)) 5)]) := by
  intro w hS hr
  refine calls_of_T (m := 41) Tryz.func53 rfl rfl (by simp) hS ?_
  repeat (first | refine za rfl rfl ?_ | refine zb rfl ?_ | refine zc rfl ?_)
  refine TL.ldR (hr.one (i := 0) rfl rfl) szk rfl rfl rfl rfl ?_
  refine TL.call1 0 Tryz.call102 rfl rfl rfl rfl (pack16L b 0 0 cap _ h.id (by omega) (by omega)) (fun _ _ => trivial) (fun _ => TL.and fun _ => ?_)
  simp only [List.nil_append, setN]
  repeat (first | refine za rfl rfl ?_ | refine zb rfl ?_ | refine zc rfl ?_)
  refine TL.ldR (hr.one (i := 1) rfl rfl) szk rfl rfl rfl rfl ?_
  refine TL.call1 0 Tryz.call102 rfl rfl rfl rfl (pack16L b 0 2 cap _ h.bits (by rw [splice_length (by simp [w2]; omega)]; omega) (by omega)) (fun _ _ => trivial) (fun _ => TL.and fun _ => ?_)
  simp only [List.nil_append, setN]
  have hx1 := splice_splice (cs := cs) (off := 0) (a := (w2 h.id).map bv) (b := (w2 h.bits).map bv) (by simp [w2]; omega)
  rw [show 0 + ((w2 h.id).map bv).length = 0 + 2 by simp [w2]] at hx1
  rw [hx1, ← List.map_append]
  repeat (first | refine za rfl rfl ?_ | refine zb rfl ?_ | refine zc rfl ?_)
  refine TL.ldR (hr.one (i := 2) rfl rfl) szk rfl rfl rfl rfl ?_
  refine TL.call1 0 Tryz.call102 rfl rfl rfl rfl (pack16L b 0 4 cap _ h.n1 (by rw [splice_length (by simp [w2, splice_length]; omega)]; omega) (by omega)) (fun _ _ => trivial) (fun _ => TL.and fun _ => ?_)
  simp only [List.nil_append, setN]
  have hx2 := splice_splice (cs := cs) (off := 0) (a := (w2 h.id ++ w2 h.bits).map bv) (b := (w2 h.n1).map bv) (by simp [w2]; omega)
  rw [show 0 + ((w2 h.id ++ w2 h.bits).map bv).length = 0 + 4 by simp [w2]] at hx2
  rw [hx2, ← List.map_append]
  repeat (first | refine za rfl rfl ?_ | refine zb rfl ?_ | refine zc rfl ?_)
  refine TL.ldR (hr.one (i := 3) rfl rfl) szk rfl rfl rfl rfl ?_
  refine TL.call1 0 Tryz.call102 rfl rfl rfl rfl (pack16L b 0 6 cap _ h.n2 (by rw [splice_length (by simp [w2, splice_length]; omega)]; omega) (by omega)) (fun _ _ => trivial) (fun _ => TL.and fun _ => ?_)
  simp only [List.nil_append, setN]
  have hx3 := splice_splice (cs := cs) (off := 0) (a := (w2 h.id ++ w2 h.bits ++ w2 h.n1).map bv) (b := (w2 h.n2).map bv) (by simp [w2]; omega)
  rw [show 0 + ((w2 h.id ++ w2 h.bits ++ w2 h.n1).map bv).length = 0 + 6 by simp [w2]] at hx3
  rw [hx3, ← List.map_append]
  repeat (first | refine za rfl rfl ?_ | refine zb rfl ?_ | refine zc rfl ?_)
  refine TL.ldR (hr.one (i := 4) rfl rfl) szk rfl rfl rfl rfl ?_
  refine TL.call1 0 Tryz.call102 rfl rfl rfl rfl (pack16L b 0 8 cap _ h.n3 (by rw [splice_length (by simp [w2, splice_length]; omega)]; omega) (by omega)) (fun _ _ => trivial) (fun _ => TL.and fun _ => ?_)
  simp only [List.nil_append, setN]
  have hx4 := splice_splice (cs := cs) (off := 0) (a := (w2 h.id ++ w2 h.bits ++ w2 h.n1 ++ w2 h.n2).map bv) (b := (w2 h.n3).map bv) (by simp [w2]; omega)
  rw [show 0 + ((w2 h.id ++ w2 h.bits ++ w2 h.n1 ++ w2 h.n2).map bv).length = 0 + 8 by simp [w2]] at hx4
  rw [hx4, ← List.map_append]
  repeat (first | refine za rfl rfl ?_ | refine zb rfl ?_ | refine zc rfl ?_)
  refine TL.ldR (hr.one (i := 5) rfl rfl) szk rfl rfl rfl rfl ?_
  refine TL.call1 0 Tryz.call102 rfl rfl rfl rfl (pack16L b 0 10 cap _ h.n4 (by rw [splice_length (by simp [w2, splice_length]; omega)]; omega) (by omega)) (fun _ _ => trivial) (fun _ => TL.and fun _ => ?_)
  simp only [List.nil_append, setN]
  have hx5 := splice_splice (cs := cs) (off := 0) (a := (w2 h.id ++ w2 h.bits ++ w2 h.n1 ++ w2 h.n2 ++ w2 h.n3).map bv) (b := (w2 h.n4).map bv) (by simp [w2]; omega)
  rw [show 0 + ((w2 h.id ++ w2 h.bits ++ w2 h.n1 ++ w2 h.n2 ++ w2 h.n3).map bv).length = 0 + 10 by simp [w2]] at hx5
  rw [hx5, ← List.map_append]
  repeat (first | refine za rfl rfl ?_ | refine zb rfl ?_ | refine zc rfl ?_)
  refine T.ret Tryz.func53 rfl (fun w hA => ⟨(), rfl, trivial, ?_⟩)
  simpa using hA
end X
namespace X
def hB0 : Bh := ⟨0, 0, 0, 0, 0, 0⟩
theorem build91 (b n c : Nat) (w : World) : (Instr.build 91 #[(0, .slice (some ⟨b, 0, none⟩) n c), (3, .int .i64 0)]).run Tryz.prog w = .ok (.agg (blC (.slice (some ⟨b, 0, none⟩) n c) 0 hB0 (.map none)).toArray) w := by kernel_rfl
def z12 : Bs := List.replicate 12 0
theorem zero132 : ∀ w, (zeroValue 132).run Tryz.prog w = .ok (.agg (z12.map bv).toArray) w := by intro w; kernel_rfl
theorem blC_one {mv_ cv : Value} {sec : Nat} {h : Bh} (h1 : mv_.oneCell' = true) (h2 : cv.oneCell' = true) : ∀ v ∈ blC mv_ sec h cv, v.oneCell' = true := by
  intro v hv
  simp only [blC, List.mem_cons, List.not_mem_nil, or_false] at hv
  rcases hv with rfl | rfl | rfl | rfl | rfl | rfl | rfl | rfl | rfl | rfl <;> first | rfl | assumption
theorem newBuilder (h : Hd) (hop : h.op < 16) (hcode : h.code < 16) :
    Ct (β := Pk) Tryz.prog 26 [.slice none 0 0, .agg (hdCells h).toArray] [] (fun _ => True) (fun y => .agg (blC y.sl 1 ⟨h.id, bitsOf h, 0, 0, 0, 0⟩ (.map none)).toArray)
      (fun y _ => y.ok ⟨12, none⟩ none ∧ y.B = z12) (fun y => y.mem none) := by
  intro w hS _
  refine calls_of_T (m := 29) Tryz.func26 rfl rfl (by simp) hS ?_
  repeat (first | refine za rfl rfl ?_ | refine zb rfl ?_ | refine zc rfl ?_)
  refine TL.box (cs := hdCells h) rfl rfl rfl rfl (fun xb => ?_)
  refine TL.allocZ 10 Tryz.zeroValue91 rfl rfl rfl (fun rb rz hrz => ?_)
  repeat (first | refine za rfl rfl ?_ | refine zb rfl ?_ | refine zc rfl ?_)
  refine T.condT rfl rfl ?_
  repeat (first | refine za rfl rfl ?_ | refine zb rfl ?_ | refine zc rfl ?_)
  refine TL.make (len := 0) (cap := 512) el37 rfl rfl (by decide) (by decide) (by decide) rfl rfl (fun b zs hzl _ => ?_)
  repeat (first | refine za rfl rfl ?_ | refine zb rfl ?_ | refine zc rfl ?_)
  refine TL.build (pv := [(0, .slice (some ⟨b, 0, none⟩) 0 512), (3, .int .i64 0)]) rfl rfl rfl (build91 b 0 512) ?_
  refine TL.allocZ 10 Tryz.zeroValue91 rfl rfl rfl (fun bb bz hbz => ?_)
  refine TL.stW (vs := blC (.slice (some ⟨b, 0, none⟩) 0 512) 0 hB0 (.map none)) 0 szk rfl rfl rfl rfl rfl hbz (blC_one rfl rfl) ?_
  repeat (first | refine za rfl rfl ?_ | refine zb rfl ?_ | refine zc rfl ?_)
  refine TL.call0 Tryz.call52 rfl rfl rfl (hdPack xb 0 h hop hcode) (fun w' hA => hA.view (i := 3) rfl (by simp) (fun j v hj => by rw [Nat.zero_add]; exact hj)) (fun _ => TL.and fun _ => ?_)
  repeat (first | refine za rfl rfl ?_ | refine zb rfl ?_ | refine zc rfl ?_)
  refine TL.st 0 szk rfl rfl rfl rfl rfl rfl ?_
  repeat (first | refine za rfl rfl ?_ | refine zb rfl ?_ | refine zc rfl ?_)
  refine TL.st 0 szk rfl rfl rfl rfl rfl rfl ?_
  repeat (first | refine za rfl rfl ?_ | refine zb rfl ?_ | refine zc rfl ?_)
  refine TL.alloc (cs := z12.map bv) zero132 rfl rfl rfl (fun ab => ?_)
  repeat (first | refine za rfl rfl ?_ | refine zb rfl ?_ | refine zc rfl ?_)
  refine TS.start [(0, true), (2, true), (1, false), (3, false), (4, true), (5, false)] [] mixed (by kernel_rfl) (by kernel_rfl) (by decide) (by simp) ?_
  refine TS.p tbk rfl rfl ?_
  refine TS.y rfl rfl rfl rfl (Y.slA tbk rfl rfl) ?_
  refine TS.l rfl rfl rfl rfl (Y.load szk rfl rfl (fun w h => h.cell (i := 1) rfl rfl)) (by simp) ?_
  refine TS.append (us := []) (news := z12.map bv) (m := 12) 2 rfl el37 sl37 rfl rfl rfl rfl rfl ⟨rfl, rfl, by rw [hzl]; exact Nat.le_refl _, Nat.zero_le _⟩ (Src.slice (fun w hA j u hj => by rw [add_zero', Nat.zero_add]; exact hA.cell (i := 0) rfl (by rw [nth_eq]; exact hj)) rfl (bytes_one _)) (by decide) (by decide) (fun _ _ => by simp) (fun b' cs' cap' hown => ?_)
  refine TS.p tbk rfl rfl ?_
  refine TS.st 1 rfl szk rfl rfl rfl rfl rfl rfl (by simp) ?_
  refine TS.nil ?_
  repeat (first | refine za rfl rfl ?_ | refine zb rfl ?_ | refine zc rfl ?_)
  refine TL.st 1 szk rfl rfl rfl rfl rfl rfl ?_
  repeat (first | refine za rfl rfl ?_ | refine zb rfl ?_ | refine zc rfl ?_)
  refine TL.ldW 1 szk rfl rfl rfl rfl rfl rfl ?_
  refine TL.stW (vs := blC (.slice (some ⟨b', 0, none⟩) (0 + 12) cap') 1 ⟨h.id, bitsOf h, 0, 0, 0, 0⟩ (.map none)) 3 szk rfl rfl rfl rfl rfl hrz (blC_one rfl rfl) ?_
  repeat (first | refine za rfl rfl ?_ | refine zb rfl ?_ | refine zc rfl ?_)
  refine T.retG Tryz.func26 (.cons (RV.cellW 3 szk rfl rfl rfl rfl) .nil) (fun w hA => ⟨{ b := b', cs := cs', cap := cap', B := z12, es := [], ck := 0, ms := [] }, rfl, ⟨⟨hown.cast rfl rfl, rfl, by simp, fun _ => rfl, ⟨Nat.le_refl _, fun o e => by cases e⟩⟩, rfl⟩, ?_⟩)
  exact hA.sub (M' := [(b', .row cs' 5)]) (List.Sublist.cons _ (List.Sublist.cons _ (List.Sublist.cons_cons _ (List.nil_sublist _))))
theorem own_head {cs : List Value} {B hd : Bs} {cap : Nat} (h : OwnB cs B cap) (hl : hd.length = 12) (h12 : 12 ≤ B.length) : OwnB (splice cs 0 (hd.map bv)) (hd ++ B.drop 12) cap := by
  have h1 := h.length
  have h2 := h.room
  have h3 := h.le
  have h4 := h.take
  have hcs : B.length ≤ cs.length := by omega
  have hm : (hd.map bv).length = 12 := by rw [List.length_map, hl]
  have hBl : (hd ++ B.drop 12).length = B.length := by simp [hl]; omega
  refine ⟨?_, by simp, by rw [splice_length (by omega)]; exact h2, by rw [hBl]; exact h3⟩
  rw [hBl]
  unfold splice
  have e : cs.drop 12 = (B.drop 12).map bv ++ cs.drop B.length := by
    have : cs = B.map bv ++ cs.drop B.length := by
      have h5 : cs.take B.length = B.map bv := by rw [← h4]; simp
      rw [← h5]; exact (List.take_append_drop B.length cs).symm
    rw [this, List.drop_append, List.map_drop]
    congr 1
    rw [List.length_map, show 12 - B.length = 0 by omega]; simp
  rw [hm, Nat.zero_add, e, List.take_zero, List.nil_append, ← List.append_assoc, ← List.map_append, List.take_append_of_le_length (by simp [hl]; omega)]
  rw [List.take_of_length_le (by simp [hl]; omega)]
theorem kn_head {B hd : Bs} (hl : hd.length = 12) : KM.le (kn B ⟨12, none⟩) (kn (hd ++ B.drop 12) H0) := by
  intro i b h
  obtain ⟨h1, h2⟩ := kn_some h
  have hi : 12 ≤ i := by
    rcases Nat.lt_or_ge i 12 with hi | hi
    · exact (h1 (.inl hi)).elim
    · exact hi
  refine kn_of (fun hx => ?_) ?_
  · rcases hx with hx | ⟨o, ho, _⟩
    · exact Nat.not_lt_zero _ hx
    · cases ho
  · rw [List.getElem?_append_right (by omega), List.getElem?_drop, hl, show 12 + (i - 12) = i by omega]; exact h2
def hdB (h : Bh) : Bs := w2 h.id ++ (w2 h.bits ++ (w2 h.n1 ++ (w2 h.n2 ++ (w2 h.n3 ++ w2 h.n4))))
theorem finish (bb sec : Nat) (hs : 1 ≤ sec) (h : Bh) (q : Option Nat) (p : Pk) (hp : p.ok ⟨12, none⟩ q) :
    Ct (β := Pk) Tryz.prog 34 [ptr bb 0] (bmem bb sec h q p) (fun _ => True) PkV (fun y _ => y.ok H0 none ∧ y.B = hdB h ++ p.B.drop 12) (fun y => y.mem none) := by
  intro w hS _
  have h12 := hp.hole.base
  simp only at h12
  have hroom := hp.own.room
  have hle := hp.own.le
  unfold bmem at *
  refine calls_of_T (m := 34) Tryz.func34 rfl rfl (by simp) hS ?_
  repeat (first | refine za rfl rfl ?_ | refine zb rfl ?_ | refine zc rfl ?_)
  refine TL.ld 0 szk rfl rfl rfl rfl rfl rfl ?_
  repeat (first | refine za rfl rfl ?_ | refine zb rfl ?_ | refine zc rfl ?_)
  refine T.condF rfl (by simp; omega) ?_
  repeat (first | refine za rfl rfl ?_ | refine zb rfl ?_ | refine zc rfl ?_)
  refine TL.st 0 szk rfl rfl rfl rfl rfl rfl ?_
  repeat (first | refine za rfl rfl ?_ | refine zb rfl ?_ | refine zc rfl ?_)
  refine TS.start [(0, true), (1, true), (2, true), (3, true), (4, true), (5, true), (6, true), (7, true), (8, true), (9, true), (10, true), (11, true), (12, true), (13, true), (14, true), (15, true), (16, false)] [(bb, .row (blC p.sl 6 h (.map q)) 91)] mixed (by kernel_rfl) (by kernel_rfl) (by decide) (by simp [setN, blC]) ?_
  repeat refine TS.p tbk rfl rfl ?_
  refine TS.y rfl rfl rfl rfl (Y.load szk rfl rfl (fun w h => h.cell (i := 0) rfl rfl)) ?_
  repeat refine TS.p tbk rfl rfl ?_
  refine TS.y rfl rfl rfl rfl (Y.load szk rfl rfl (fun w h => h.cell (i := 0) rfl rfl)) ?_
  repeat refine TS.p tbk rfl rfl ?_
  refine TS.y rfl rfl rfl rfl (Y.load szk rfl rfl (fun w h => h.cell (i := 0) rfl rfl)) ?_
  refine TS.y rfl rfl rfl rfl (Y.sl (l := 0) (m := 0) tbk rfl rfl (by exact ⟨_, rfl⟩) (by exact ⟨_, rfl⟩) (Nat.le_refl _) (Nat.zero_le _)) ?_
  rw [show (if p.cap = 0 then (⟨p.b, 0, none⟩ : Addr) else ⟨p.b, 0 + 0 * 1, none⟩) = ⟨p.b, 0, none⟩ by split <;> rfl]
  rw [Nat.sub_zero]
  refine TS.mono (B := St _ w ((bb, .row (blC p.sl 6 h (.map q)) 91) :: p.mem none)) (fun w hA => hA.sub (List.Sublist.cons_cons _ (List.Sublist.cons_cons _ (List.nil_sublist _)))) ?_
  refine TS.callS [_] rfl Tryz.call53 rfl rfl rfl rfl (hPackIn bb (0 + 2) h p.b p.cap p.cs (by omega) (by omega)) (fun w' hA => st_rowL (Ml := [(bb, .row (blC p.sl 6 h (.map q)) 91)]) (Mc := [(p.b, .row p.cs 5)]) hA (i := 0) rfl (fun j v hj => ?_)) (fun y => by simp) (fun _ => TS.and fun _ => ?_)
  · match j, hj with
    | 0, hj => exact hj
    | 1, hj => exact hj
    | 2, hj => exact hj
    | 3, hj => exact hj
    | 4, hj => exact hj
    | 5, hj => exact hj
    | j + 6, hj => simp [nth] at hj
  refine TS.nil ?_
  repeat (first | refine za rfl rfl ?_ | refine zb rfl ?_ | refine zc rfl ?_)
  refine TL.ld 0 szk rfl rfl rfl rfl rfl rfl ?_
  repeat (first | refine za rfl rfl ?_ | refine zb rfl ?_ | refine zc rfl ?_)
  have hl : (hdB h).length = 12 := by simp [hdB, w2]
  have hown := own_head hp.own hl h12
  have hBl : (hdB h ++ p.B.drop 12).length = p.B.length := by simp [hl]; omega
  refine T.ret Tryz.func34 rfl (fun w hA => ⟨{ b := p.b, cs := splice p.cs 0 ((hdB h).map bv), cap := p.cap, B := hdB h ++ p.B.drop 12, es := [], ck := 0, ms := [] }, ?_, ⟨⟨hown, rfl, by simp, fun _ => rfl, ⟨Nat.zero_le _, fun o e => by cases e⟩⟩, rfl⟩, hA.sub (List.Sublist.cons _ (List.Sublist.refl _))⟩)
  simp only [pack, PkV, Pk.sl, hBl]
end X
end Go.Proofs.YtifnodoffgfpbaaGreatDoor
