/- Texts F18, F19, F20. Contracts: bodies are turned into the package's own. -/
import Derived.Test.YtifnodoffgfpbaaGreatDoorPag
namespace Go.Proofs.YtifnodoffgfpbaaGreatDoor
open Go
namespace X
theorem wrap32_16 (n : Nat) : IntKind.u16.wrap (n : Int) = ((n % 65536 : Nat) : Int) := wrap_u16 n
theorem pl141 : placesOk Tryz.prog 141 [(0, 256)] 256 = true := by kernel_rfl
theorem pl145 : placesOk Tryz.prog 145 [(0, 256)] 256 = true := by kernel_rfl
theorem pl149 : placesOk Tryz.prog 149 [(0, 256), (256, 256), (512, 1), (513, 1), (514, 1), (515, 1), (516, 1)] 517 = true := by kernel_rfl
theorem pl153 : placesOk Tryz.prog 153 [(0, 256)] 256 = true := by kernel_rfl
theorem pl157 : placesOk Tryz.prog 157 [(0, 1), (1, 256)] 257 = true := by kernel_rfl
theorem pl161 : placesOk Tryz.prog 161 [(0, 1)] 1 = true := by kernel_rfl
theorem pl170 : placesOk Tryz.prog 170 [(0, 1), (1, 1), (2, 1), (3, 256)] 259 = true := by kernel_rfl
theorem pl175 : placesOk Tryz.prog 175 [(0, 1)] 1 = true := by kernel_rfl
theorem pl180 : placesOk Tryz.prog 180 [(0, 1), (1, 256), (257, 1)] 258 = true := by kernel_rfl
theorem pl184 : placesOk Tryz.prog 184 [(0, 258)] 258 = true := by kernel_rfl
theorem pl188 : placesOk Tryz.prog 188 [(0, 1), (1, 1)] 2 = true := by kernel_rfl
theorem one_app {a b : List Value} (h : ∀ v ∈ a, v.oneCell' = true) (k : ∀ v ∈ b, v.oneCell' = true) : ∀ v ∈ a ++ b, v.oneCell' = true := fun v hv => by
  rcases List.mem_append.1 hv with hv | hv
  · exact h v hv
  · exact k v hv
theorem one_cons {a : Value} {b : List Value} (h : a.oneCell' = true) (k : ∀ v ∈ b, v.oneCell' = true) : ∀ v ∈ a :: b, v.oneCell' = true := fun v hv => by
  rcases List.mem_cons.1 hv with rfl | hv
  · exact h
  · exact k v hv
theorem one_nil : ∀ v ∈ ([] : List Value), v.oneCell' = true := by simp
theorem flatC_append : ∀ (a b : List Value), flatC (a ++ b) = flatC a ++ flatC b
  | [], b => rfl
  | v :: r, b => by simp [flatC, flatC_append r b]
theorem nsOf (r : Rc) (hr : r.Ok) (hk : r.kind = 2) (dv tv pv : Value) : ConvCt 61 r dv tv pv := by
  intro w hS hv
  have hk' : r.kind.toNat = 2 := by rw [hk]; rfl
  obtain ⟨hn, hl⟩ := hr.host (by rw [hk]; decide)
  have hs2 := hn.len
  have h255 : r.host.length ≤ 255 := by omega
  have hnl := nameCells_length h255
  refine calls_of_T (m := 7) Tryz.func61 rfl rfl (by simp) hS ?_
  repeat (first | refine za rfl rfl ?_ | refine zb rfl ?_ | refine zc rfl ?_)
  refine TL.box (cs := rcCells r dv tv pv) rfl rfl rfl rfl (fun xb => ?_)
  refine TL.allocZ 256 Tryz.zeroValue141 (by kernel_rfl) rfl rfl (fun rb zs hz => ?_)
  repeat (first | refine za rfl rfl ?_ | refine zb rfl ?_ | refine zc rfl ?_)
  refine TL.ld 1 szk rfl rfl rfl rfl rfl rfl ?_
  refine TL.call0 Tryz.call51 rfl rfl rfl (nameOf r.host h255) (fun _ _ => trivial) (fun _ => TL.and fun _ => ?_)
  have hfl : flatC [.agg (nameCells r.host).toArray] = nameCells r.host := by simp [flatC, Value.cells]
  have hb := build_seq (vs := [.agg (nameCells r.host).toArray]) pl141 (by simp [contig, Value.cells, hnl]) (by rw [hfl, hnl])
  rw [hfl] at hb
  refine TL.build (pv := partsFrom 0 [.agg (nameCells r.host).toArray]) rfl rfl rfl hb ?_
  refine TL.stW (vs := nameCells r.host) 0 szk rfl rfl rfl rfl hnl hz nameCells_one ?_
  have hlen := hnl
  repeat (first | refine za rfl rfl ?_ | refine zb rfl ?_ | refine zc rfl ?_)
  refine T.retG Tryz.func61 (.cons (RV.cellW 0 szk rfl rfl rfl hlen) .nil) (fun w hA => ⟨(.nilIface, []), ?_, ?_, hA.sub (by simp)⟩)
  · simp only [bodyCells, hk', pack]
  · simp only [bodyX, hk']
theorem cnameOf (r : Rc) (hr : r.Ok) (hk : r.kind = 3) (dv tv pv : Value) : ConvCt 63 r dv tv pv := by
  intro w hS hv
  have hk' : r.kind.toNat = 3 := by rw [hk]; rfl
  obtain ⟨hn, hl⟩ := hr.host (by rw [hk]; decide)
  have hs2 := hn.len
  have h255 : r.host.length ≤ 255 := by omega
  have hnl := nameCells_length h255
  refine calls_of_T (m := 7) Tryz.func63 rfl rfl (by simp) hS ?_
  repeat (first | refine za rfl rfl ?_ | refine zb rfl ?_ | refine zc rfl ?_)
  refine TL.box (cs := rcCells r dv tv pv) rfl rfl rfl rfl (fun xb => ?_)
  refine TL.allocZ 256 Tryz.zeroValue145 (by kernel_rfl) rfl rfl (fun rb zs hz => ?_)
  repeat (first | refine za rfl rfl ?_ | refine zb rfl ?_ | refine zc rfl ?_)
  refine TL.ld 1 szk rfl rfl rfl rfl rfl rfl ?_
  refine TL.call0 Tryz.call51 rfl rfl rfl (nameOf r.host h255) (fun _ _ => trivial) (fun _ => TL.and fun _ => ?_)
  have hfl : flatC [.agg (nameCells r.host).toArray] = nameCells r.host := by simp [flatC, Value.cells]
  have hb := build_seq (vs := [.agg (nameCells r.host).toArray]) pl145 (by simp [contig, Value.cells, hnl]) (by rw [hfl, hnl])
  rw [hfl] at hb
  refine TL.build (pv := partsFrom 0 [.agg (nameCells r.host).toArray]) rfl rfl rfl hb ?_
  refine TL.stW (vs := nameCells r.host) 0 szk rfl rfl rfl rfl hnl hz nameCells_one ?_
  have hlen := hnl
  repeat (first | refine za rfl rfl ?_ | refine zb rfl ?_ | refine zc rfl ?_)
  refine T.retG Tryz.func63 (.cons (RV.cellW 0 szk rfl rfl rfl hlen) .nil) (fun w hA => ⟨(.nilIface, []), ?_, ?_, hA.sub (by simp)⟩)
  · simp only [bodyCells, hk', pack]
  · simp only [bodyX, hk']
theorem ptrOf (r : Rc) (hr : r.Ok) (hk : r.kind = 5) (dv tv pv : Value) : ConvCt 67 r dv tv pv := by
  intro w hS hv
  have hk' : r.kind.toNat = 5 := by rw [hk]; rfl
  obtain ⟨hn, hl⟩ := hr.host (by rw [hk]; decide)
  have hs2 := hn.len
  have h255 : r.host.length ≤ 255 := by omega
  have hnl := nameCells_length h255
  refine calls_of_T (m := 7) Tryz.func67 rfl rfl (by simp) hS ?_
  repeat (first | refine za rfl rfl ?_ | refine zb rfl ?_ | refine zc rfl ?_)
  refine TL.box (cs := rcCells r dv tv pv) rfl rfl rfl rfl (fun xb => ?_)
  refine TL.allocZ 256 Tryz.zeroValue153 (by kernel_rfl) rfl rfl (fun rb zs hz => ?_)
  repeat (first | refine za rfl rfl ?_ | refine zb rfl ?_ | refine zc rfl ?_)
  refine TL.ld 1 szk rfl rfl rfl rfl rfl rfl ?_
  refine TL.call0 Tryz.call51 rfl rfl rfl (nameOf r.host h255) (fun _ _ => trivial) (fun _ => TL.and fun _ => ?_)
  have hfl : flatC [.agg (nameCells r.host).toArray] = nameCells r.host := by simp [flatC, Value.cells]
  have hb := build_seq (vs := [.agg (nameCells r.host).toArray]) pl153 (by simp [contig, Value.cells, hnl]) (by rw [hfl, hnl])
  rw [hfl] at hb
  refine TL.build (pv := partsFrom 0 [.agg (nameCells r.host).toArray]) rfl rfl rfl hb ?_
  refine TL.stW (vs := nameCells r.host) 0 szk rfl rfl rfl rfl hnl hz nameCells_one ?_
  have hlen := hnl
  repeat (first | refine za rfl rfl ?_ | refine zb rfl ?_ | refine zc rfl ?_)
  refine T.retG Tryz.func67 (.cons (RV.cellW 0 szk rfl rfl rfl hlen) .nil) (fun w hA => ⟨(.nilIface, []), ?_, ?_, hA.sub (by simp)⟩)
  · simp only [bodyCells, hk', pack]
  · simp only [bodyX, hk']
theorem zero137 : ∀ w, (zeroValue 137).run Tryz.prog w = .ok (.agg (List.replicate 4 (bv 0)).toArray) w := by intro w; kernel_rfl
theorem build137 : ∀ w, (Instr.build 137 (#[] : Array (Nat × Value))).run Tryz.prog w = .ok (.agg (List.replicate 4 (bv 0)).toArray) w := by intro w; kernel_rfl
theorem aOf (r : Rc) (hr : r.Ok) (hk : r.kind = 1) (dv tv pv : Value) : ConvCt 59 r dv tv pv := by
  intro w hS hv
  have hk' : r.kind.toNat = 1 := by rw [hk]; rfl
  obtain ⟨hd, _, _⟩ := hv
  have hlen : ((fix 4 r.data).map bv).length = 4 := by rw [List.length_map, fix_length]
  refine calls_of_T (m := 11) Tryz.func59 rfl rfl (by simp) hS ?_
  repeat (first | refine za rfl rfl ?_ | refine zb rfl ?_ | refine zc rfl ?_)
  refine TL.box (cs := rcCells r dv tv pv) rfl rfl rfl rfl (fun xb => ?_)
  refine TL.allocZ 4 Tryz.zeroValue137 (by kernel_rfl) rfl rfl (fun rb zs hz => ?_)
  repeat (first | refine za rfl rfl ?_ | refine zb rfl ?_ | refine zc rfl ?_)
  refine TL.build (v := .agg (List.replicate 4 (bv 0)).toArray) rfl rfl rfl build137 ?_
  refine TL.alloc (cs := List.replicate 4 (bv 0)) zero137 rfl rfl rfl (fun nb => ?_)
  refine TL.stW (vs := List.replicate 4 (bv 0)) 0 szk rfl rfl rfl rfl rfl rfl (by intro v hv; rw [List.eq_of_mem_replicate hv]; rfl) ?_
  repeat (first | refine za rfl rfl ?_ | refine zb rfl ?_ | refine zc rfl ?_)
  refine TS.start [(0, true), (1, true), (2, true), (3, true), (4, false)] [(xb, .row (rcCells r dv tv pv) 98)] mixed (by kernel_rfl) (by kernel_rfl) (by decide) (by simp [setN]) ?_
  refine TS.p tbk rfl rfl ?_
  refine TS.y rfl rfl rfl rfl (Y.slA tbk rfl rfl) ?_
  refine TS.p tbk rfl rfl ?_
  refine TS.y rfl rfl rfl rfl (Y.load szk rfl rfl (fun w h => h.cell (i := 0) rfl rfl)) ?_
  refine TS.copy (q := min r.data.length 4) 0 rfl el37 rfl rfl rfl rfl rfl rfl (hd.srcN (by omega)) (by simp; omega) (by simp [setN]) ?_
  refine TS.nil ?_
  rw [fix_splice]
  repeat (first | refine za rfl rfl ?_ | refine zb rfl ?_ | refine zc rfl ?_)
  refine TL.ldW 0 szk rfl rfl rfl hlen rfl rfl ?_
  refine TL.stW 1 szk rfl rfl rfl rfl hlen hz (bytes_one _) ?_
  repeat (first | refine za rfl rfl ?_ | refine zb rfl ?_ | refine zc rfl ?_)
  refine T.retG Tryz.func59 (.cons (RV.cellW 1 szk rfl rfl rfl hlen) .nil) (fun w hA => ⟨(.nilIface, []), ?_, ?_, hA.sub (by simp)⟩)
  · simp only [bodyCells, hk', pack]
  · simp only [bodyX, hk']
theorem zero166 : ∀ w, (zeroValue 166).run Tryz.prog w = .ok (.agg (List.replicate 16 (bv 0)).toArray) w := by intro w; kernel_rfl
theorem build166 : ∀ w, (Instr.build 166 (#[] : Array (Nat × Value))).run Tryz.prog w = .ok (.agg (List.replicate 16 (bv 0)).toArray) w := by intro w; kernel_rfl
theorem aaaaOf (r : Rc) (hr : r.Ok) (hk : r.kind = 8) (dv tv pv : Value) : ConvCt 73 r dv tv pv := by
  intro w hS hv
  have hk' : r.kind.toNat = 8 := by rw [hk]; rfl
  obtain ⟨hd, _, _⟩ := hv
  have hlen : ((fix 16 r.data).map bv).length = 16 := by rw [List.length_map, fix_length]
  refine calls_of_T (m := 11) Tryz.func73 rfl rfl (by simp) hS ?_
  repeat (first | refine za rfl rfl ?_ | refine zb rfl ?_ | refine zc rfl ?_)
  refine TL.box (cs := rcCells r dv tv pv) rfl rfl rfl rfl (fun xb => ?_)
  refine TL.allocZ 16 Tryz.zeroValue166 (by kernel_rfl) rfl rfl (fun rb zs hz => ?_)
  repeat (first | refine za rfl rfl ?_ | refine zb rfl ?_ | refine zc rfl ?_)
  refine TL.build (v := .agg (List.replicate 16 (bv 0)).toArray) rfl rfl rfl build166 ?_
  refine TL.alloc (cs := List.replicate 16 (bv 0)) zero166 rfl rfl rfl (fun nb => ?_)
  refine TL.stW (vs := List.replicate 16 (bv 0)) 0 szk rfl rfl rfl rfl rfl rfl (by intro v hv; rw [List.eq_of_mem_replicate hv]; rfl) ?_
  repeat (first | refine za rfl rfl ?_ | refine zb rfl ?_ | refine zc rfl ?_)
  refine TS.start [(0, true), (1, true), (2, true), (3, true), (4, false)] [(xb, .row (rcCells r dv tv pv) 98)] mixed (by kernel_rfl) (by kernel_rfl) (by decide) (by simp [setN]) ?_
  refine TS.p tbk rfl rfl ?_
  refine TS.y rfl rfl rfl rfl (Y.slA tbk rfl rfl) ?_
  refine TS.p tbk rfl rfl ?_
  refine TS.y rfl rfl rfl rfl (Y.load szk rfl rfl (fun w h => h.cell (i := 0) rfl rfl)) ?_
  refine TS.copy (q := min r.data.length 16) 0 rfl el37 rfl rfl rfl rfl rfl rfl (hd.srcN (by omega)) (by simp; omega) (by simp [setN]) ?_
  refine TS.nil ?_
  rw [fix_splice]
  repeat (first | refine za rfl rfl ?_ | refine zb rfl ?_ | refine zc rfl ?_)
  refine TL.ldW 0 szk rfl rfl rfl hlen rfl rfl ?_
  refine TL.stW 1 szk rfl rfl rfl rfl hlen hz (bytes_one _) ?_
  repeat (first | refine za rfl rfl ?_ | refine zb rfl ?_ | refine zc rfl ?_)
  refine T.retG Tryz.func73 (.cons (RV.cellW 1 szk rfl rfl rfl hlen) .nil) (fun w hA => ⟨(.nilIface, []), ?_, ?_, hA.sub (by simp)⟩)
  · simp only [bodyCells, hk', pack]
  · simp only [bodyX, hk']
theorem soaOf (r : Rc) (hr : r.Ok) (hk : r.kind = 4) (dv tv pv : Value) : ConvCt 65 r dv tv pv := by
  intro w hS hv
  have hk' : r.kind.toNat = 4 := by rw [hk]; rfl
  obtain ⟨hn, hl⟩ := hr.host (by rw [hk]; decide)
  have hs2 := hn.len
  have h255 : r.host.length ≤ 255 := by omega
  have hnl := nameCells_length h255
  obtain ⟨hbn, hbl⟩ := hr.box hk
  have hs3 := hbn.len
  have h256 : r.box.length ≤ 255 := by omega
  have hnl2 := nameCells_length h256
  refine calls_of_T (m := 20) Tryz.func65 rfl rfl (by simp) hS ?_
  repeat (first | refine za rfl rfl ?_ | refine zb rfl ?_ | refine zc rfl ?_)
  refine TL.box (cs := rcCells r dv tv pv) rfl rfl rfl rfl (fun xb => ?_)
  refine TL.allocZ 517 Tryz.zeroValue149 (by kernel_rfl) rfl rfl (fun rb zs hz => ?_)
  repeat (first | refine za rfl rfl ?_ | refine zb rfl ?_ | refine zc rfl ?_)
  refine TS.start [(0, true), (1, true), (3, true), (4, true), (6, true), (7, true), (8, true), (9, true), (10, true), (11, true), (12, true), (13, true), (14, true), (15, true), (2, false), (5, false), (16, true), (17, false)] [(xb, .row (rcCells r dv tv pv) 98)] mixed (by kernel_rfl) (by kernel_rfl) (by decide) (by simp) ?_
  refine TS.p tbk rfl rfl ?_
  refine TS.y rfl rfl rfl rfl (Y.load szk rfl rfl (fun w h => h.cell (i := 0) rfl rfl)) ?_
  refine TS.p tbk rfl rfl ?_
  refine TS.y rfl rfl rfl rfl (Y.load szk rfl rfl (fun w h => h.cell (i := 0) rfl rfl)) ?_
  refine TS.p tbk rfl rfl ?_
  refine TS.y rfl rfl rfl rfl (Y.load szk rfl rfl (fun w h => h.cell (i := 0) rfl rfl)) ?_
  refine TS.p tbk rfl rfl ?_
  refine TS.y rfl rfl rfl rfl (Y.load szk rfl rfl (fun w h => h.cell (i := 0) rfl rfl)) ?_
  refine TS.p tbk rfl rfl ?_
  refine TS.y rfl rfl rfl rfl (Y.load szk rfl rfl (fun w h => h.cell (i := 0) rfl rfl)) ?_
  refine TS.p tbk rfl rfl ?_
  refine TS.y rfl rfl rfl rfl (Y.load szk rfl rfl (fun w h => h.cell (i := 0) rfl rfl)) ?_
  refine TS.p tbk rfl rfl ?_
  refine TS.y rfl rfl rfl rfl (Y.load szk rfl rfl (fun w h => h.cell (i := 0) rfl rfl)) ?_
  refine TS.call0 rfl Tryz.call51 rfl rfl rfl (nameOf r.host h255) (fun _ _ => trivial) (fun _ => by simp) (fun _ => TS.and fun _ => ?_)
  refine TS.call0 rfl Tryz.call51 rfl rfl rfl (nameOf r.box h256) (fun _ _ => trivial) (fun _ => by simp) (fun _ => TS.and fun _ => ?_)
  have hfl : flatC [.agg (nameCells r.host).toArray, .agg (nameCells r.box).toArray, .int .u32 (r.n1 : Int), .int .u32 (r.n2 : Int), .int .u32 (r.n3 : Int), .int .u32 (r.n4 : Int), .int .u32 (r.n5 : Int)] = nameCells r.host ++ (nameCells r.box ++ [.int .u32 (r.n1 : Int), .int .u32 (r.n2 : Int), .int .u32 (r.n3 : Int), .int .u32 (r.n4 : Int), .int .u32 (r.n5 : Int)]) := by simp [flatC, Value.cells]
  have hlen : (nameCells r.host ++ (nameCells r.box ++ [.int .u32 (r.n1 : Int), .int .u32 (r.n2 : Int), .int .u32 (r.n3 : Int), .int .u32 (r.n4 : Int), .int .u32 (r.n5 : Int)]) : List Value).length = 517 := by simp [hnl, hnl2]
  have hb := build_seq (vs := [.agg (nameCells r.host).toArray, .agg (nameCells r.box).toArray, .int .u32 (r.n1 : Int), .int .u32 (r.n2 : Int), .int .u32 (r.n3 : Int), .int .u32 (r.n4 : Int), .int .u32 (r.n5 : Int)]) pl149 (by simp [contig, Value.cells, hnl, hnl2]) (by rw [hfl, hlen])
  rw [hfl] at hb
  refine TS.y rfl rfl rfl rfl (Y.build (pv := partsFrom 0 [.agg (nameCells r.host).toArray, .agg (nameCells r.box).toArray, .int .u32 (r.n1 : Int), .int .u32 (r.n2 : Int), .int .u32 (r.n3 : Int), .int .u32 (r.n4 : Int), .int .u32 (r.n5 : Int)]) rfl hb) ?_
  refine TS.stW (us := nameCells r.host ++ (nameCells r.box ++ [.int .u32 (r.n1 : Int), .int .u32 (r.n2 : Int), .int .u32 (r.n3 : Int), .int .u32 (r.n4 : Int), .int .u32 (r.n5 : Int)])) 0 rfl szk rfl rfl rfl rfl hlen hz (one_app nameCells_one (one_app nameCells_one (by simp [Value.oneCell']))) (by simp [setN]) ?_
  refine TS.nil ?_
  repeat (first | refine za rfl rfl ?_ | refine zb rfl ?_ | refine zc rfl ?_)
  refine T.retG Tryz.func65 (.cons (RV.cellW 0 szk rfl rfl rfl hlen) .nil) (fun w hA => ⟨(.nilIface, []), ?_, ?_, hA.sub (by simp)⟩)
  · simp only [bodyCells, hk', pack]
  · simp only [bodyX, hk']
theorem mxOf (r : Rc) (hr : r.Ok) (hk : r.kind = 6) (dv tv pv : Value) : ConvCt 69 r dv tv pv := by
  intro w hS hv
  have hk' : r.kind.toNat = 6 := by rw [hk]; rfl
  obtain ⟨hn, hl⟩ := hr.host (by rw [hk]; decide)
  have hs2 := hn.len
  have h255 : r.host.length ≤ 255 := by omega
  have hnl := nameCells_length h255
  refine calls_of_T (m := 10) Tryz.func69 rfl rfl (by simp) hS ?_
  repeat (first | refine za rfl rfl ?_ | refine zb rfl ?_ | refine zc rfl ?_)
  refine TL.box (cs := rcCells r dv tv pv) rfl rfl rfl rfl (fun xb => ?_)
  refine TL.allocZ 257 Tryz.zeroValue157 (by kernel_rfl) rfl rfl (fun rb zs hz => ?_)
  repeat (first | refine za rfl rfl ?_ | refine zb rfl ?_ | refine zc rfl ?_)
  refine TS.start [(0, true), (1, true), (2, true), (3, true), (4, true), (5, false), (6, true), (7, false)] [(xb, .row (rcCells r dv tv pv) 98)] mixed (by kernel_rfl) (by kernel_rfl) (by decide) (by simp) ?_
  refine TS.p tbk rfl rfl ?_
  refine TS.y rfl rfl rfl rfl (Y.load szk rfl rfl (fun w h => h.cell (i := 0) rfl rfl)) ?_
  refine TS.p tbk rfl rfl ?_
  rw [wrap32_16]
  refine TS.p tbk rfl rfl ?_
  refine TS.y rfl rfl rfl rfl (Y.load szk rfl rfl (fun w h => h.cell (i := 0) rfl rfl)) ?_
  refine TS.call0 rfl Tryz.call51 rfl rfl rfl (nameOf r.host h255) (fun _ _ => trivial) (fun _ => by simp) (fun _ => TS.and fun _ => ?_)
  have hfl : flatC [.int .u16 ((r.n1 % 65536 : Nat) : Int), .agg (nameCells r.host).toArray] = .int .u16 ((r.n1 % 65536 : Nat) : Int) :: nameCells r.host := by simp [flatC, Value.cells]
  have hlen : (.int .u16 ((r.n1 % 65536 : Nat) : Int) :: nameCells r.host : List Value).length = 257 := by simp [hnl]
  have hb := build_seq (vs := [.int .u16 ((r.n1 % 65536 : Nat) : Int), .agg (nameCells r.host).toArray]) pl157 (by simp [contig, Value.cells, hnl]) (by rw [hfl, hlen])
  rw [hfl] at hb
  refine TS.y rfl rfl rfl rfl (Y.build (pv := partsFrom 0 [.int .u16 ((r.n1 % 65536 : Nat) : Int), .agg (nameCells r.host).toArray]) rfl hb) ?_
  refine TS.stW (us := .int .u16 ((r.n1 % 65536 : Nat) : Int) :: nameCells r.host) 0 rfl szk rfl rfl rfl rfl hlen hz (one_cons rfl nameCells_one) (by simp [setN]) ?_
  refine TS.nil ?_
  repeat (first | refine za rfl rfl ?_ | refine zb rfl ?_ | refine zc rfl ?_)
  refine T.retG Tryz.func69 (.cons (RV.cellW 0 szk rfl rfl rfl hlen) .nil) (fun w hA => ⟨(.nilIface, []), ?_, ?_, hA.sub (by simp)⟩)
  · simp only [bodyCells, hk', pack]
  · simp only [bodyX, hk']
theorem srvOf (r : Rc) (hr : r.Ok) (hk : r.kind = 9) (dv tv pv : Value) : ConvCt 75 r dv tv pv := by
  intro w hS hv
  have hk' : r.kind.toNat = 9 := by rw [hk]; rfl
  obtain ⟨hn, hl⟩ := hr.host (by rw [hk]; decide)
  have hs2 := hn.len
  have h255 : r.host.length ≤ 255 := by omega
  have hnl := nameCells_length h255
  refine calls_of_T (m := 16) Tryz.func75 rfl rfl (by simp) hS ?_
  repeat (first | refine za rfl rfl ?_ | refine zb rfl ?_ | refine zc rfl ?_)
  refine TL.box (cs := rcCells r dv tv pv) rfl rfl rfl rfl (fun xb => ?_)
  refine TL.allocZ 259 Tryz.zeroValue170 (by kernel_rfl) rfl rfl (fun rb zs hz => ?_)
  repeat (first | refine za rfl rfl ?_ | refine zb rfl ?_ | refine zc rfl ?_)
  refine TS.start [(0, true), (1, true), (2, true), (3, true), (4, true), (5, true), (6, true), (7, true), (8, true), (9, true), (10, true), (11, false), (12, true), (13, false)] [(xb, .row (rcCells r dv tv pv) 98)] mixed (by kernel_rfl) (by kernel_rfl) (by decide) (by simp) ?_
  refine TS.p tbk rfl rfl ?_
  refine TS.y rfl rfl rfl rfl (Y.load szk rfl rfl (fun w h => h.cell (i := 0) rfl rfl)) ?_
  refine TS.p tbk rfl rfl ?_
  rw [wrap32_16]
  refine TS.p tbk rfl rfl ?_
  refine TS.y rfl rfl rfl rfl (Y.load szk rfl rfl (fun w h => h.cell (i := 0) rfl rfl)) ?_
  refine TS.p tbk rfl rfl ?_
  rw [wrap32_16]
  refine TS.p tbk rfl rfl ?_
  refine TS.y rfl rfl rfl rfl (Y.load szk rfl rfl (fun w h => h.cell (i := 0) rfl rfl)) ?_
  refine TS.p tbk rfl rfl ?_
  rw [wrap32_16]
  refine TS.p tbk rfl rfl ?_
  refine TS.y rfl rfl rfl rfl (Y.load szk rfl rfl (fun w h => h.cell (i := 0) rfl rfl)) ?_
  refine TS.call0 rfl Tryz.call51 rfl rfl rfl (nameOf r.host h255) (fun _ _ => trivial) (fun _ => by simp) (fun _ => TS.and fun _ => ?_)
  have hfl : flatC [.int .u16 ((r.n1 % 65536 : Nat) : Int), .int .u16 ((r.n2 % 65536 : Nat) : Int), .int .u16 ((r.n3 % 65536 : Nat) : Int), .agg (nameCells r.host).toArray] = [.int .u16 ((r.n1 % 65536 : Nat) : Int), .int .u16 ((r.n2 % 65536 : Nat) : Int), .int .u16 ((r.n3 % 65536 : Nat) : Int)] ++ nameCells r.host := by simp [flatC, Value.cells]
  have hlen : ([.int .u16 ((r.n1 % 65536 : Nat) : Int), .int .u16 ((r.n2 % 65536 : Nat) : Int), .int .u16 ((r.n3 % 65536 : Nat) : Int)] ++ nameCells r.host : List Value).length = 259 := by simp [hnl]
  have hb := build_seq (vs := [.int .u16 ((r.n1 % 65536 : Nat) : Int), .int .u16 ((r.n2 % 65536 : Nat) : Int), .int .u16 ((r.n3 % 65536 : Nat) : Int), .agg (nameCells r.host).toArray]) pl170 (by simp [contig, Value.cells, hnl]) (by rw [hfl, hlen])
  rw [hfl] at hb
  refine TS.y rfl rfl rfl rfl (Y.build (pv := partsFrom 0 [.int .u16 ((r.n1 % 65536 : Nat) : Int), .int .u16 ((r.n2 % 65536 : Nat) : Int), .int .u16 ((r.n3 % 65536 : Nat) : Int), .agg (nameCells r.host).toArray]) rfl hb) ?_
  refine TS.stW (us := [.int .u16 ((r.n1 % 65536 : Nat) : Int), .int .u16 ((r.n2 % 65536 : Nat) : Int), .int .u16 ((r.n3 % 65536 : Nat) : Int)] ++ nameCells r.host) 0 rfl szk rfl rfl rfl rfl hlen hz (one_app (by simp [Value.oneCell']) nameCells_one) (by simp [setN]) ?_
  refine TS.nil ?_
  repeat (first | refine za rfl rfl ?_ | refine zb rfl ?_ | refine zc rfl ?_)
  refine T.retG Tryz.func75 (.cons (RV.cellW 0 szk rfl rfl rfl hlen) .nil) (fun w hA => ⟨(.nilIface, []), ?_, ?_, hA.sub (by simp)⟩)
  · simp only [bodyCells, hk', pack]
  · simp only [bodyX, hk']
theorem txtOf (r : Rc) (hr : r.Ok) (hk : r.kind = 7) (dv tv pv : Value) : ConvCt 71 r dv tv pv := by
  intro w hS hv
  have hk' : r.kind.toNat = 7 := by rw [hk]; rfl
  obtain ⟨_, ht, _⟩ := hv
  have hd := hr.txtl
  have hd2 := txtB_len r.texts
  refine calls_of_T (m := 8) Tryz.func71 rfl rfl (by simp) hS ?_
  repeat (first | refine za rfl rfl ?_ | refine zb rfl ?_ | refine zc rfl ?_)
  refine TL.box (cs := rcCells r dv tv pv) rfl rfl rfl rfl (fun xb => ?_)
  refine TL.allocZ 1 Tryz.zeroValue161 (by kernel_rfl) rfl rfl (fun rb zs hz => ?_)
  repeat (first | refine za rfl rfl ?_ | refine zb rfl ?_ | refine zc rfl ?_)
  refine TL.bs0 el55 rfl rfl (fun b1 => ?_)
  repeat (first | refine za rfl rfl ?_ | refine zb rfl ?_ | refine zc rfl ?_)
  refine TL.ld 2 szk rfl rfl rfl rfl rfl rfl ?_
  refine TL.append 0 el55 sl55 rfl rfl rfl rfl rfl (own0 1) ht.src (by omega) (by omega) (fun ab acs acap aown => ?_)
  rw [Nat.zero_add] at aown ⊢
  have hb := build_seq (vs := [.slice (some ⟨ab, 0, none⟩) r.texts.length acap]) pl161 rfl rfl
  refine TL.build (pv := partsFrom 0 [.slice (some ⟨ab, 0, none⟩) r.texts.length acap]) rfl rfl rfl hb ?_
  refine TL.stW (vs := [.slice (some ⟨ab, 0, none⟩) r.texts.length acap]) 1 szk rfl rfl rfl rfl rfl hz (by simp [Value.oneCell']) ?_
  repeat (first | refine za rfl rfl ?_ | refine zb rfl ?_ | refine zc rfl ?_)
  refine T.retG Tryz.func71 (.cons (RV.cellW 1 szk rfl rfl rfl rfl) .nil) (fun w hA => ⟨(.slice (some ⟨ab, 0, none⟩) r.texts.length acap, [(ab, .row acs 9)]), ?_, ?_, hA.sub (by simp [setN])⟩)
  · simp only [bodyCells, hk', pack]
  · simp only [bodyX, hk']
    refine .inr ⟨ab, 0, acap, rfl, aown.le, fun i s hs => ⟨[str s], rfl, mv_own (by simp) (i := 0) rfl aown fun j v hj => ?_, rfl⟩⟩
    cases j with
    | zero => simp [nth] at hj; subst hj; rw [nth_eq] at hs ⊢; simp [hs]
    | succ j => simp [nth] at hj
theorem optOf (r : Rc) (hr : r.Ok) (hk : r.kind = 10) (dv tv pv : Value) : ConvCt 77 r dv tv pv := by
  intro w hS hv
  have hk' : r.kind.toNat = 10 := by rw [hk]; rfl
  obtain ⟨_, _, hp⟩ := hv
  have hd := hr.pairl
  have hd2 := pairB_len r.pairs
  refine calls_of_T (m := 7) Tryz.func77 rfl rfl (by simp) hS ?_
  repeat (first | refine za rfl rfl ?_ | refine zb rfl ?_ | refine zc rfl ?_)
  refine TL.box (cs := rcCells r dv tv pv) rfl rfl rfl rfl (fun xb => ?_)
  refine TL.allocZ 1 Tryz.zeroValue175 (by kernel_rfl) rfl rfl (fun rb zs hz => ?_)
  repeat (first | refine za rfl rfl ?_ | refine zb rfl ?_ | refine zc rfl ?_)
  refine TL.ld 1 szk rfl rfl rfl rfl rfl rfl ?_
  refine TL.call0 Tryz.call129 rfl rfl rfl (optionsOf r.pairs (by omega) (fun p hp => by have := pairB_mem hp; omega) pv) (fun w' hA => hp.mono (st_viewLe hA (Mc := []) fun _ hp => by cases hp)) (fun y => TL.and fun hy => ?_)
  refine TL.mono (fun w hA => hA.perm (M' := [(rb, .row zs 175), (xb, .row (rcCells r dv tv pv) 98)] ++ y.2) List.perm_append_comm) ?_
  obtain ⟨ya, yc, hys, _⟩ := hy.shape
  have hb := build_seq (vs := [.slice ya r.pairs.length yc]) pl175 rfl rfl
  rw [hys]
  refine TL.build (pv := partsFrom 0 [.slice ya r.pairs.length yc]) rfl rfl rfl hb ?_
  refine TL.stW (vs := [.slice ya r.pairs.length yc]) 0 szk rfl rfl rfl rfl rfl hz (by simp [Value.oneCell']) ?_
  repeat (first | refine za rfl rfl ?_ | refine zb rfl ?_ | refine zc rfl ?_)
  refine T.retG Tryz.func77 (.cons (RV.cellW 0 szk rfl rfl rfl rfl) .nil) (fun w hA => ⟨y, ?_, ?_, hA.sub (by simp [setN])⟩)
  · simp only [bodyCells, hk', pack, hys]
  · simp only [bodyX, hk']; exact hy
theorem svcbOf (r : Rc) (hr : r.Ok) (hk : r.kind = 11 ∨ r.kind = 12) (dv tv pv : Value) :
    Ct (β := Value × Mem) Tryz.prog 79 [.agg (rcCells r dv tv pv).toArray] [] (fun w => RcV (view [] w) r dv tv pv) (fun y => .agg (.int .u16 ((r.n1 % 65536 : Nat) : Int) :: (nameCells r.host ++ [y.1])).toArray) (fun y _ => SlP (mv y.2) y.1 r.pairs) (fun y => y.2) := by
  intro w hS hv
  obtain ⟨hn, hl⟩ := hr.host (by rcases hk with hk | hk <;> rw [hk] <;> decide)
  have hs2 := hn.len
  have h255 : r.host.length ≤ 255 := by omega
  have hnl := nameCells_length h255
  obtain ⟨_, _, hp⟩ := hv
  have hd := hr.pairl
  have hd2 := pairB_len r.pairs
  refine calls_of_T (m := 13) Tryz.func79 rfl rfl (by simp) hS ?_
  repeat (first | refine za rfl rfl ?_ | refine zb rfl ?_ | refine zc rfl ?_)
  refine TL.box (cs := rcCells r dv tv pv) rfl rfl rfl rfl (fun xb => ?_)
  refine TL.allocZ 258 Tryz.zeroValue180 (by kernel_rfl) rfl rfl (fun rb zs hz => ?_)
  repeat (first | refine za rfl rfl ?_ | refine zb rfl ?_ | refine zc rfl ?_)
  refine TS.start [(0, true), (1, true), (2, true), (3, true), (4, true), (6, true), (7, true), (5, false), (8, false), (9, true), (10, false)] [(xb, .row (rcCells r dv tv pv) 98)] mixed (by kernel_rfl) (by kernel_rfl) (by decide) (by simp) ?_
  refine TS.p tbk rfl rfl ?_
  refine TS.y rfl rfl rfl rfl (Y.load szk rfl rfl (fun w h => h.cell (i := 0) rfl rfl)) ?_
  refine TS.p tbk rfl rfl ?_
  rw [wrap32_16]
  refine TS.p tbk rfl rfl ?_
  refine TS.y rfl rfl rfl rfl (Y.load szk rfl rfl (fun w h => h.cell (i := 0) rfl rfl)) ?_
  refine TS.p tbk rfl rfl ?_
  refine TS.y rfl rfl rfl rfl (Y.load szk rfl rfl (fun w h => h.cell (i := 0) rfl rfl)) ?_
  refine TS.call0 rfl Tryz.call51 rfl rfl rfl (nameOf r.host h255) (fun _ _ => trivial) (fun _ => by simp) (fun _ => TS.and fun _ => ?_)
  refine TS.call0 rfl Tryz.call132 rfl rfl rfl (paramsOf r.pairs (by omega) (fun p hp => by have := pairB_mem hp; omega) pv) (fun w' hA => hp.mono (st_viewLe hA (Mc := []) fun _ hp => by cases hp)) (fun _ => by simp) (fun y => TS.and fun hy => ?_)
  refine TS.mono (fun w hA => hA.perm (M' := [(rb, .row zs 180), (xb, .row (rcCells r dv tv pv) 98)] ++ y.2) List.perm_append_comm) ?_
  obtain ⟨ya, yc, hys, _⟩ := hy.shape
  rw [hys]
  have hfl : flatC [.int .u16 ((r.n1 % 65536 : Nat) : Int), .agg (nameCells r.host).toArray, .slice ya r.pairs.length yc] = .int .u16 ((r.n1 % 65536 : Nat) : Int) :: (nameCells r.host ++ [.slice ya r.pairs.length yc]) := by simp [flatC, Value.cells]
  have hlen : (.int .u16 ((r.n1 % 65536 : Nat) : Int) :: (nameCells r.host ++ [.slice ya r.pairs.length yc]) : List Value).length = 258 := by simp [hnl]
  have hb := build_seq (vs := [.int .u16 ((r.n1 % 65536 : Nat) : Int), .agg (nameCells r.host).toArray, .slice ya r.pairs.length yc]) pl180 (by simp [contig, Value.cells, hnl]) (by rw [hfl, hlen])
  rw [hfl] at hb
  refine TS.y rfl rfl rfl rfl (Y.build (pv := partsFrom 0 [.int .u16 ((r.n1 % 65536 : Nat) : Int), .agg (nameCells r.host).toArray, .slice ya r.pairs.length yc]) rfl hb) ?_
  refine TS.stW (us := .int .u16 ((r.n1 % 65536 : Nat) : Int) :: (nameCells r.host ++ [.slice ya r.pairs.length yc])) 0 rfl szk rfl rfl rfl rfl hlen hz (one_cons rfl (one_app nameCells_one (by simp [Value.oneCell']))) (by simp [setN]) ?_
  refine TS.nil ?_
  repeat (first | refine za rfl rfl ?_ | refine zb rfl ?_ | refine zc rfl ?_)
  refine T.retG Tryz.func79 (.cons (RV.cellW 0 szk rfl rfl rfl hlen) .nil) (fun w hA => ⟨y, ?_, hy, hA.sub (by simp [setN])⟩)
  simp only [pack, hys]
theorem svcbOf' (r : Rc) (hr : r.Ok) (hk : r.kind = 11) (dv tv pv : Value) : ConvCt 79 r dv tv pv := by
  intro w hS hv
  have hk' : r.kind.toNat = 11 := by rw [hk]; rfl
  refine (svcbOf r hr (.inl hk) dv tv pv w hS hv).mono ?_
  rintro e w' ⟨y, rfl, hy, hs⟩
  refine ⟨y, ?_, ?_, hs⟩
  · simp only [bodyCells, hk']
  · simp only [bodyX, hk']; exact hy
theorem httpsOf (r : Rc) (hr : r.Ok) (hk : r.kind = 12) (dv tv pv : Value) : ConvCt 81 r dv tv pv := by
  intro w hS hv
  have hk' : r.kind.toNat = 12 := by rw [hk]; rfl
  obtain ⟨hn, hl⟩ := hr.host (by rw [hk]; decide)
  have hs2 := hn.len
  have h255 : r.host.length ≤ 255 := by omega
  have hnl := nameCells_length h255
  refine calls_of_T (m := 6) Tryz.func81 rfl rfl (by simp) hS ?_
  repeat (first | refine za rfl rfl ?_ | refine zb rfl ?_ | refine zc rfl ?_)
  refine TL.box (cs := rcCells r dv tv pv) rfl rfl rfl rfl (fun xb => ?_)
  refine TL.allocZ 258 Tryz.zeroValue184 (by kernel_rfl) rfl rfl (fun rb zs hz => ?_)
  repeat (first | refine za rfl rfl ?_ | refine zb rfl ?_ | refine zc rfl ?_)
  refine TL.ldW 1 szk rfl rfl rfl rfl rfl rfl ?_
  refine TL.call0 Tryz.call79 rfl rfl rfl (svcbOf r hr (.inr hk) dv tv pv) (fun w' hA => hv.mono (st_viewLe hA (Mc := []) fun _ hp => by cases hp)) (fun y => TL.and fun hy => ?_)
  refine TL.mono (fun w hA => hA.perm (M' := [(rb, .row zs 184), (xb, .row (rcCells r dv tv pv) 98)] ++ y.2) List.perm_append_comm) ?_
  have hlen : (Value.int .u16 ((r.n1 % 65536 : Nat) : Int) :: (nameCells r.host ++ [y.1])).length = 258 := by simp [hnl]
  obtain ⟨ya, yc, hys, _⟩ := hy.shape
  have hone : ∀ v ∈ (Value.int .u16 ((r.n1 % 65536 : Nat) : Int) :: (nameCells r.host ++ [y.1])), v.oneCell' = true := one_cons rfl (one_app nameCells_one (by rw [hys]; simp [Value.oneCell']))
  have hC' : bodyCells r y.1 = .int .u16 ((r.n1 % 65536 : Nat) : Int) :: (nameCells r.host ++ [y.1]) := by simp only [bodyCells, hk']
  simp only at *
  rw [← hC'] at hlen hone
  simp only [← hC']
  generalize hC : bodyCells r y.1 = C at hlen hone
  have hfl : flatC [.agg C.toArray] = C := by simp [flatC, Value.cells]
  have hb := build_seq (vs := [.agg C.toArray]) pl184 (by simp [contig, Value.cells, hlen]) (by rw [hfl, hlen])
  rw [hfl] at hb
  refine TL.build (pv := partsFrom 0 [.agg C.toArray]) rfl rfl rfl hb ?_
  refine TL.stW (vs := C) 0 szk rfl rfl rfl rfl hlen hz hone ?_
  repeat (first | refine za rfl rfl ?_ | refine zb rfl ?_ | refine zc rfl ?_)
  refine T.retG Tryz.func81 (.cons (RV.cellW 0 szk rfl rfl rfl hlen) .nil) (fun w hA => ⟨y, ?_, ?_, hA.sub (by simp [setN])⟩)
  · simp only [hC, pack]
  · simp only [bodyX, hk']; exact hy
theorem unknownOf (r : Rc) (hr : r.Ok) (hk : r.kind = 13) (dv tv pv : Value) : ConvCt 83 r dv tv pv := by
  intro w hS hv
  have hk' : r.kind.toNat = 13 := by rw [hk]; rfl
  obtain ⟨hd, _, _⟩ := hv
  have hdl := hr.data
  refine calls_of_T (m := 10) Tryz.func83 rfl rfl (by simp) hS ?_
  repeat (first | refine za rfl rfl ?_ | refine zb rfl ?_ | refine zc rfl ?_)
  refine TL.box (cs := rcCells r dv tv pv) rfl rfl rfl rfl (fun xb => ?_)
  refine TL.allocZ 2 Tryz.zeroValue188 (by kernel_rfl) rfl rfl (fun rb zs hz => ?_)
  repeat (first | refine za rfl rfl ?_ | refine zb rfl ?_ | refine zc rfl ?_)
  refine TS.start [(0, true), (1, true), (3, true), (4, true), (2, false), (5, false), (6, true), (7, false)] [(xb, .row (rcCells r dv tv pv) 98)] mixed (by kernel_rfl) (by kernel_rfl) (by decide) (by simp) ?_
  refine TS.p tbk rfl rfl ?_
  refine TS.y rfl rfl rfl rfl (Y.load szk rfl rfl (fun w h => h.cell (i := 0) rfl rfl)) ?_
  refine TS.p tbk rfl rfl ?_
  refine TS.y rfl rfl rfl rfl (Y.load szk rfl rfl (fun w h => h.cell (i := 0) rfl rfl)) ?_
  refine TS.bs0 rfl el37 rfl rfl (fun b => by simp) (fun nb => ?_)
  refine TS.append 0 rfl el37 sl37 rfl rfl rfl rfl rfl (own0 1) (SlB.src hd) (by omega) (by omega) (fun b cs => by simp [setN]) (fun db dcs dc down => ?_)
  rw [Nat.zero_add] at down ⊢
  have hb := build_seq (vs := [.int .u16 (r.typ : Int), .slice (some ⟨db, 0, none⟩) r.data.length dc]) pl188 rfl rfl
  refine TS.y rfl rfl rfl rfl (Y.build (pv := partsFrom 0 [.int .u16 (r.typ : Int), .slice (some ⟨db, 0, none⟩) r.data.length dc]) rfl hb) ?_
  refine TS.stW (us := [.int .u16 (r.typ : Int), .slice (some ⟨db, 0, none⟩) r.data.length dc]) 1 rfl szk rfl rfl rfl rfl rfl hz (by simp [Value.oneCell']) (by simp [setN]) ?_
  refine TS.nil ?_
  repeat (first | refine za rfl rfl ?_ | refine zb rfl ?_ | refine zc rfl ?_)
  refine T.retG Tryz.func83 (.cons (RV.cellW 1 szk rfl rfl rfl rfl) .nil) (fun w hA => ⟨(.slice (some ⟨db, 0, none⟩) r.data.length dc, [(db, .row dcs 5)]), ?_, ?_, hA.sub (by simp [setN])⟩)
  · simp only [bodyCells, hk', pack]
  · simp only [bodyX, hk']
    exact SlB.of (by simp) (i := 0) rfl (by simpa using down)
end X
namespace X
theorem cells_len {r : Rc} (hr : r.Ok) {xv : Value} : (bodyCells r xv).length = match r.kind.toNat with
  | 1 => 4 | 2 => 256 | 3 => 256 | 4 => 517 | 5 => 256 | 6 => 257 | 7 => 1 | 8 => 16 | 9 => 259 | 10 => 1 | 11 => 258 | 12 => 258 | _ => 2 := by
  have hh : r.kind ∈ [2, 3, 4, 5, 6, 9, 11, 12] → (nameCells r.host).length = 256 := fun h => nameCells_length (by have := (hr.host h).1.len; omega)
  have hb : r.kind = 4 → (nameCells r.box).length = 256 := fun h => nameCells_length (by have := (hr.box h).1.len; omega)
  rcases kind_cases hr with k | k | k | k | k | k | k | k | k | k | k | k | k <;> (have e := congrArg Int.toNat k; simp only [bodyCells, e]; rw [k] at hh; simp [fix_length])
  all_goals first | (simp at hh; simp [hh]; done) | (simp at hh; simp [hh, hb k])
theorem cells_one' {r : Rc} (hr : r.Ok) {h : View} {xv : Value} (hx : bodyX h r xv) : ∀ v ∈ bodyCells r xv, v.oneCell' = true := by
  unfold bodyX at hx
  have sl : ∀ {a n c}, xv = .slice a n c → ∀ v ∈ [xv], v.oneCell' = true := fun e v hv => by simp at hv; subst hv; rw [e]; rfl
  rcases kind_cases hr with k | k | k | k | k | k | k | k | k | k | k | k | k <;> (have e := congrArg Int.toNat k; simp only [e] at hx; simp only [bodyCells, e])
  · exact bytes_one _
  · exact nameCells_one
  · exact nameCells_one
  · exact one_app nameCells_one (one_app nameCells_one (by simp [Value.oneCell']))
  · exact nameCells_one
  · exact one_cons rfl nameCells_one
  · obtain ⟨a, c, e, _⟩ := Sl.shape hx; exact sl e
  · exact bytes_one _
  · exact one_app (by simp [Value.oneCell']) nameCells_one
  · obtain ⟨a, c, e, _⟩ := Sl.shape hx; exact sl e
  · obtain ⟨a, c, e, _⟩ := Sl.shape hx; exact one_cons rfl (one_app nameCells_one (sl e))
  · obtain ⟨a, c, e, _⟩ := Sl.shape hx; exact one_cons rfl (one_app nameCells_one (sl e))
  · obtain ⟨a, c, e, _⟩ := SlB.shape hx; exact one_cons rfl (sl e)
theorem bodyOf (r : Rc) (hr : r.Ok) (dv tv pv : Value) : Ct (β := Nat × Mem) Tryz.prog 50 [.agg (rcCells r dv tv pv).toArray] [] (fun w => RcV (view [] w) r dv tv pv) (fun y => .iface (ifTy r.kind.toNat) (ptr y.1 0)) (fun y _ => BodyMem (mv y.2) y.1 0 r) (fun y => y.2) := by
  intro w hS hv
  rcases kind_cases hr with k | k | k | k | k | k | k | k | k | k | k | k | k
  · have e := congrArg Int.toNat k
    have hlen := fun xv => cells_len hr (xv := xv)
    have hone := fun (h : View) (xv : Value) (hx : bodyX h r xv) => cells_one' hr hx
    simp only [e] at hlen
    have hcs : rcCells r dv tv pv = [str r.name, .int .u16 r.typ, .int .u16 r.cls, .int .u32 r.ttl, .int .u16 r.len, .int .i64 1, dv, str r.host, str r.box, .int .u32 r.n1, .int .u32 r.n2, .int .u32 r.n3, .int .u32 r.n4, .int .u32 r.n5, tv, pv] := by rw [rcCells, k]
    have hconv := aOf r hr k dv tv pv
    unfold ConvCt at hconv
    rw [hcs] at hconv ⊢
    refine calls_of_T (m := 81) Tryz.func50 rfl rfl (by simp) hS ?_
    repeat (first | refine za rfl rfl ?_ | refine zb rfl ?_ | refine zc rfl ?_)
    refine TL.box rfl rfl rfl rfl (fun xb => ?_)
    repeat (first | refine za rfl rfl ?_ | refine zb rfl ?_ | refine zc rfl ?_)
    refine TL.ld 0 szk rfl rfl rfl rfl rfl rfl ?_
    repeat (first | refine TL.p tbk rfl ?_ | refine TL.nil ?_ | refine T.seq ?_ | refine T.region ?_ | refine T.skip ?_ | refine T.block ?_ | refine T.inBlock ?_ | refine T.exit rfl ?_ | refine T.condF rfl rfl ?_)
    refine T.condT rfl rfl ?_
    repeat (first | refine za rfl rfl ?_ | refine zb rfl ?_ | refine zc rfl ?_)
    refine TL.ldW 0 szk rfl rfl rfl rfl rfl rfl ?_
    refine TL.call0 Tryz.call59 rfl rfl rfl hconv (fun w' hA => hv.mono (st_viewLe hA (Mc := []) fun _ hp => by cases hp)) (fun y => TL.and fun hy => ?_)
    refine TL.allocZ 4 Tryz.zeroValue137 (by kernel_rfl) rfl rfl (fun ob zs hz => ?_)
    refine TL.stW (vs := bodyCells r y.1) 0 szk rfl rfl rfl rfl (hlen _) hz (hone _ _ hy) ?_
    repeat (first | refine za rfl rfl ?_ | refine zb rfl ?_ | refine zc rfl ?_)
    have hi : ifTy r.kind.toNat = 214 := by rw [e]; rfl
    refine T.ret Tryz.func50 rfl (fun w' hA => ⟨(ob, (ob, .row (bodyCells r y.1) 137) :: y.2), by rw [hi]; rfl, ⟨y.1, ?_, ?_⟩, hA.sub (by simp [setN])⟩)
    · have hA' := hA.sub (M' := (ob, .row (bodyCells r y.1) 137) :: y.2) (by simp [setN])
      exact mv_row hA'.nd (i := 0) rfl (fun j v hj => by rw [Nat.zero_add]; exact hj)
    · have hA' := hA.sub (M' := (ob, .row (bodyCells r y.1) 137) :: y.2) (by simp [setN])
      exact bodyX_mono (mv_sub hA'.nd fun p hp => List.mem_cons_of_mem _ hp) hy
  · have e := congrArg Int.toNat k
    have hlen := fun xv => cells_len hr (xv := xv)
    have hone := fun (h : View) (xv : Value) (hx : bodyX h r xv) => cells_one' hr hx
    simp only [e] at hlen
    have hcs : rcCells r dv tv pv = [str r.name, .int .u16 r.typ, .int .u16 r.cls, .int .u32 r.ttl, .int .u16 r.len, .int .i64 2, dv, str r.host, str r.box, .int .u32 r.n1, .int .u32 r.n2, .int .u32 r.n3, .int .u32 r.n4, .int .u32 r.n5, tv, pv] := by rw [rcCells, k]
    have hconv := nsOf r hr k dv tv pv
    unfold ConvCt at hconv
    rw [hcs] at hconv ⊢
    refine calls_of_T (m := 81) Tryz.func50 rfl rfl (by simp) hS ?_
    repeat (first | refine za rfl rfl ?_ | refine zb rfl ?_ | refine zc rfl ?_)
    refine TL.box rfl rfl rfl rfl (fun xb => ?_)
    repeat (first | refine za rfl rfl ?_ | refine zb rfl ?_ | refine zc rfl ?_)
    refine TL.ld 0 szk rfl rfl rfl rfl rfl rfl ?_
    repeat (first | refine TL.p tbk rfl ?_ | refine TL.nil ?_ | refine T.seq ?_ | refine T.region ?_ | refine T.skip ?_ | refine T.block ?_ | refine T.inBlock ?_ | refine T.exit rfl ?_ | refine T.condF rfl rfl ?_)
    refine T.condT rfl rfl ?_
    repeat (first | refine za rfl rfl ?_ | refine zb rfl ?_ | refine zc rfl ?_)
    refine TL.ldW 0 szk rfl rfl rfl rfl rfl rfl ?_
    refine TL.call0 Tryz.call61 rfl rfl rfl hconv (fun w' hA => hv.mono (st_viewLe hA (Mc := []) fun _ hp => by cases hp)) (fun y => TL.and fun hy => ?_)
    refine TL.allocZ 256 Tryz.zeroValue141 (by kernel_rfl) rfl rfl (fun ob zs hz => ?_)
    refine TL.stW (vs := bodyCells r y.1) 0 szk rfl rfl rfl rfl (hlen _) hz (hone _ _ hy) ?_
    repeat (first | refine za rfl rfl ?_ | refine zb rfl ?_ | refine zc rfl ?_)
    have hi : ifTy r.kind.toNat = 215 := by rw [e]; rfl
    refine T.ret Tryz.func50 rfl (fun w' hA => ⟨(ob, (ob, .row (bodyCells r y.1) 141) :: y.2), by rw [hi]; rfl, ⟨y.1, ?_, ?_⟩, hA.sub (by simp [setN])⟩)
    · have hA' := hA.sub (M' := (ob, .row (bodyCells r y.1) 141) :: y.2) (by simp [setN])
      exact mv_row hA'.nd (i := 0) rfl (fun j v hj => by rw [Nat.zero_add]; exact hj)
    · have hA' := hA.sub (M' := (ob, .row (bodyCells r y.1) 141) :: y.2) (by simp [setN])
      exact bodyX_mono (mv_sub hA'.nd fun p hp => List.mem_cons_of_mem _ hp) hy
  · have e := congrArg Int.toNat k
    have hlen := fun xv => cells_len hr (xv := xv)
    have hone := fun (h : View) (xv : Value) (hx : bodyX h r xv) => cells_one' hr hx
    simp only [e] at hlen
    have hcs : rcCells r dv tv pv = [str r.name, .int .u16 r.typ, .int .u16 r.cls, .int .u32 r.ttl, .int .u16 r.len, .int .i64 3, dv, str r.host, str r.box, .int .u32 r.n1, .int .u32 r.n2, .int .u32 r.n3, .int .u32 r.n4, .int .u32 r.n5, tv, pv] := by rw [rcCells, k]
    have hconv := cnameOf r hr k dv tv pv
    unfold ConvCt at hconv
    rw [hcs] at hconv ⊢
    refine calls_of_T (m := 81) Tryz.func50 rfl rfl (by simp) hS ?_
    repeat (first | refine za rfl rfl ?_ | refine zb rfl ?_ | refine zc rfl ?_)
    refine TL.box rfl rfl rfl rfl (fun xb => ?_)
    repeat (first | refine za rfl rfl ?_ | refine zb rfl ?_ | refine zc rfl ?_)
    refine TL.ld 0 szk rfl rfl rfl rfl rfl rfl ?_
    repeat (first | refine TL.p tbk rfl ?_ | refine TL.nil ?_ | refine T.seq ?_ | refine T.region ?_ | refine T.skip ?_ | refine T.block ?_ | refine T.inBlock ?_ | refine T.exit rfl ?_ | refine T.condF rfl rfl ?_)
    refine T.condT rfl rfl ?_
    repeat (first | refine za rfl rfl ?_ | refine zb rfl ?_ | refine zc rfl ?_)
    refine TL.ldW 0 szk rfl rfl rfl rfl rfl rfl ?_
    refine TL.call0 Tryz.call63 rfl rfl rfl hconv (fun w' hA => hv.mono (st_viewLe hA (Mc := []) fun _ hp => by cases hp)) (fun y => TL.and fun hy => ?_)
    refine TL.allocZ 256 Tryz.zeroValue145 (by kernel_rfl) rfl rfl (fun ob zs hz => ?_)
    refine TL.stW (vs := bodyCells r y.1) 0 szk rfl rfl rfl rfl (hlen _) hz (hone _ _ hy) ?_
    repeat (first | refine za rfl rfl ?_ | refine zb rfl ?_ | refine zc rfl ?_)
    have hi : ifTy r.kind.toNat = 216 := by rw [e]; rfl
    refine T.ret Tryz.func50 rfl (fun w' hA => ⟨(ob, (ob, .row (bodyCells r y.1) 145) :: y.2), by rw [hi]; rfl, ⟨y.1, ?_, ?_⟩, hA.sub (by simp [setN])⟩)
    · have hA' := hA.sub (M' := (ob, .row (bodyCells r y.1) 145) :: y.2) (by simp [setN])
      exact mv_row hA'.nd (i := 0) rfl (fun j v hj => by rw [Nat.zero_add]; exact hj)
    · have hA' := hA.sub (M' := (ob, .row (bodyCells r y.1) 145) :: y.2) (by simp [setN])
      exact bodyX_mono (mv_sub hA'.nd fun p hp => List.mem_cons_of_mem _ hp) hy
  · have e := congrArg Int.toNat k
    have hlen := fun xv => cells_len hr (xv := xv)
    have hone := fun (h : View) (xv : Value) (hx : bodyX h r xv) => cells_one' hr hx
    simp only [e] at hlen
    have hcs : rcCells r dv tv pv = [str r.name, .int .u16 r.typ, .int .u16 r.cls, .int .u32 r.ttl, .int .u16 r.len, .int .i64 4, dv, str r.host, str r.box, .int .u32 r.n1, .int .u32 r.n2, .int .u32 r.n3, .int .u32 r.n4, .int .u32 r.n5, tv, pv] := by rw [rcCells, k]
    have hconv := soaOf r hr k dv tv pv
    unfold ConvCt at hconv
    rw [hcs] at hconv ⊢
    refine calls_of_T (m := 81) Tryz.func50 rfl rfl (by simp) hS ?_
    repeat (first | refine za rfl rfl ?_ | refine zb rfl ?_ | refine zc rfl ?_)
    refine TL.box rfl rfl rfl rfl (fun xb => ?_)
    repeat (first | refine za rfl rfl ?_ | refine zb rfl ?_ | refine zc rfl ?_)
    refine TL.ld 0 szk rfl rfl rfl rfl rfl rfl ?_
    repeat (first | refine TL.p tbk rfl ?_ | refine TL.nil ?_ | refine T.seq ?_ | refine T.region ?_ | refine T.skip ?_ | refine T.block ?_ | refine T.inBlock ?_ | refine T.exit rfl ?_ | refine T.condF rfl rfl ?_)
    refine T.condT rfl rfl ?_
    repeat (first | refine za rfl rfl ?_ | refine zb rfl ?_ | refine zc rfl ?_)
    refine TL.ldW 0 szk rfl rfl rfl rfl rfl rfl ?_
    refine TL.call0 Tryz.call65 rfl rfl rfl hconv (fun w' hA => hv.mono (st_viewLe hA (Mc := []) fun _ hp => by cases hp)) (fun y => TL.and fun hy => ?_)
    refine TL.allocZ 517 Tryz.zeroValue149 (by kernel_rfl) rfl rfl (fun ob zs hz => ?_)
    refine TL.stW (vs := bodyCells r y.1) 0 szk rfl rfl rfl rfl (hlen _) hz (hone _ _ hy) ?_
    repeat (first | refine za rfl rfl ?_ | refine zb rfl ?_ | refine zc rfl ?_)
    have hi : ifTy r.kind.toNat = 217 := by rw [e]; rfl
    refine T.ret Tryz.func50 rfl (fun w' hA => ⟨(ob, (ob, .row (bodyCells r y.1) 149) :: y.2), by rw [hi]; rfl, ⟨y.1, ?_, ?_⟩, hA.sub (by simp [setN])⟩)
    · have hA' := hA.sub (M' := (ob, .row (bodyCells r y.1) 149) :: y.2) (by simp [setN])
      exact mv_row hA'.nd (i := 0) rfl (fun j v hj => by rw [Nat.zero_add]; exact hj)
    · have hA' := hA.sub (M' := (ob, .row (bodyCells r y.1) 149) :: y.2) (by simp [setN])
      exact bodyX_mono (mv_sub hA'.nd fun p hp => List.mem_cons_of_mem _ hp) hy
  · have e := congrArg Int.toNat k
    have hlen := fun xv => cells_len hr (xv := xv)
    have hone := fun (h : View) (xv : Value) (hx : bodyX h r xv) => cells_one' hr hx
    simp only [e] at hlen
    have hcs : rcCells r dv tv pv = [str r.name, .int .u16 r.typ, .int .u16 r.cls, .int .u32 r.ttl, .int .u16 r.len, .int .i64 5, dv, str r.host, str r.box, .int .u32 r.n1, .int .u32 r.n2, .int .u32 r.n3, .int .u32 r.n4, .int .u32 r.n5, tv, pv] := by rw [rcCells, k]
    have hconv := ptrOf r hr k dv tv pv
    unfold ConvCt at hconv
    rw [hcs] at hconv ⊢
    refine calls_of_T (m := 81) Tryz.func50 rfl rfl (by simp) hS ?_
    repeat (first | refine za rfl rfl ?_ | refine zb rfl ?_ | refine zc rfl ?_)
    refine TL.box rfl rfl rfl rfl (fun xb => ?_)
    repeat (first | refine za rfl rfl ?_ | refine zb rfl ?_ | refine zc rfl ?_)
    refine TL.ld 0 szk rfl rfl rfl rfl rfl rfl ?_
    repeat (first | refine TL.p tbk rfl ?_ | refine TL.nil ?_ | refine T.seq ?_ | refine T.region ?_ | refine T.skip ?_ | refine T.block ?_ | refine T.inBlock ?_ | refine T.exit rfl ?_ | refine T.condF rfl rfl ?_)
    refine T.condT rfl rfl ?_
    repeat (first | refine za rfl rfl ?_ | refine zb rfl ?_ | refine zc rfl ?_)
    refine TL.ldW 0 szk rfl rfl rfl rfl rfl rfl ?_
    refine TL.call0 Tryz.call67 rfl rfl rfl hconv (fun w' hA => hv.mono (st_viewLe hA (Mc := []) fun _ hp => by cases hp)) (fun y => TL.and fun hy => ?_)
    refine TL.allocZ 256 Tryz.zeroValue153 (by kernel_rfl) rfl rfl (fun ob zs hz => ?_)
    refine TL.stW (vs := bodyCells r y.1) 0 szk rfl rfl rfl rfl (hlen _) hz (hone _ _ hy) ?_
    repeat (first | refine za rfl rfl ?_ | refine zb rfl ?_ | refine zc rfl ?_)
    have hi : ifTy r.kind.toNat = 218 := by rw [e]; rfl
    refine T.ret Tryz.func50 rfl (fun w' hA => ⟨(ob, (ob, .row (bodyCells r y.1) 153) :: y.2), by rw [hi]; rfl, ⟨y.1, ?_, ?_⟩, hA.sub (by simp [setN])⟩)
    · have hA' := hA.sub (M' := (ob, .row (bodyCells r y.1) 153) :: y.2) (by simp [setN])
      exact mv_row hA'.nd (i := 0) rfl (fun j v hj => by rw [Nat.zero_add]; exact hj)
    · have hA' := hA.sub (M' := (ob, .row (bodyCells r y.1) 153) :: y.2) (by simp [setN])
      exact bodyX_mono (mv_sub hA'.nd fun p hp => List.mem_cons_of_mem _ hp) hy
  · have e := congrArg Int.toNat k
    have hlen := fun xv => cells_len hr (xv := xv)
    have hone := fun (h : View) (xv : Value) (hx : bodyX h r xv) => cells_one' hr hx
    simp only [e] at hlen
    have hcs : rcCells r dv tv pv = [str r.name, .int .u16 r.typ, .int .u16 r.cls, .int .u32 r.ttl, .int .u16 r.len, .int .i64 6, dv, str r.host, str r.box, .int .u32 r.n1, .int .u32 r.n2, .int .u32 r.n3, .int .u32 r.n4, .int .u32 r.n5, tv, pv] := by rw [rcCells, k]
    have hconv := mxOf r hr k dv tv pv
    unfold ConvCt at hconv
    rw [hcs] at hconv ⊢
    refine calls_of_T (m := 81) Tryz.func50 rfl rfl (by simp) hS ?_
    repeat (first | refine za rfl rfl ?_ | refine zb rfl ?_ | refine zc rfl ?_)
    refine TL.box rfl rfl rfl rfl (fun xb => ?_)
    repeat (first | refine za rfl rfl ?_ | refine zb rfl ?_ | refine zc rfl ?_)
    refine TL.ld 0 szk rfl rfl rfl rfl rfl rfl ?_
    repeat (first | refine TL.p tbk rfl ?_ | refine TL.nil ?_ | refine T.seq ?_ | refine T.region ?_ | refine T.skip ?_ | refine T.block ?_ | refine T.inBlock ?_ | refine T.exit rfl ?_ | refine T.condF rfl rfl ?_)
    refine T.condT rfl rfl ?_
    repeat (first | refine za rfl rfl ?_ | refine zb rfl ?_ | refine zc rfl ?_)
    refine TL.ldW 0 szk rfl rfl rfl rfl rfl rfl ?_
    refine TL.call0 Tryz.call69 rfl rfl rfl hconv (fun w' hA => hv.mono (st_viewLe hA (Mc := []) fun _ hp => by cases hp)) (fun y => TL.and fun hy => ?_)
    refine TL.allocZ 257 Tryz.zeroValue157 (by kernel_rfl) rfl rfl (fun ob zs hz => ?_)
    refine TL.stW (vs := bodyCells r y.1) 0 szk rfl rfl rfl rfl (hlen _) hz (hone _ _ hy) ?_
    repeat (first | refine za rfl rfl ?_ | refine zb rfl ?_ | refine zc rfl ?_)
    have hi : ifTy r.kind.toNat = 219 := by rw [e]; rfl
    refine T.ret Tryz.func50 rfl (fun w' hA => ⟨(ob, (ob, .row (bodyCells r y.1) 157) :: y.2), by rw [hi]; rfl, ⟨y.1, ?_, ?_⟩, hA.sub (by simp [setN])⟩)
    · have hA' := hA.sub (M' := (ob, .row (bodyCells r y.1) 157) :: y.2) (by simp [setN])
      exact mv_row hA'.nd (i := 0) rfl (fun j v hj => by rw [Nat.zero_add]; exact hj)
    · have hA' := hA.sub (M' := (ob, .row (bodyCells r y.1) 157) :: y.2) (by simp [setN])
      exact bodyX_mono (mv_sub hA'.nd fun p hp => List.mem_cons_of_mem _ hp) hy
  · have e := congrArg Int.toNat k
    have hlen := fun xv => cells_len hr (xv := xv)
    have hone := fun (h : View) (xv : Value) (hx : bodyX h r xv) => cells_one' hr hx
    simp only [e] at hlen
    have hcs : rcCells r dv tv pv = [str r.name, .int .u16 r.typ, .int .u16 r.cls, .int .u32 r.ttl, .int .u16 r.len, .int .i64 7, dv, str r.host, str r.box, .int .u32 r.n1, .int .u32 r.n2, .int .u32 r.n3, .int .u32 r.n4, .int .u32 r.n5, tv, pv] := by rw [rcCells, k]
    have hconv := txtOf r hr k dv tv pv
    unfold ConvCt at hconv
    rw [hcs] at hconv ⊢
    refine calls_of_T (m := 81) Tryz.func50 rfl rfl (by simp) hS ?_
    repeat (first | refine za rfl rfl ?_ | refine zb rfl ?_ | refine zc rfl ?_)
    refine TL.box rfl rfl rfl rfl (fun xb => ?_)
    repeat (first | refine za rfl rfl ?_ | refine zb rfl ?_ | refine zc rfl ?_)
    refine TL.ld 0 szk rfl rfl rfl rfl rfl rfl ?_
    repeat (first | refine TL.p tbk rfl ?_ | refine TL.nil ?_ | refine T.seq ?_ | refine T.region ?_ | refine T.skip ?_ | refine T.block ?_ | refine T.inBlock ?_ | refine T.exit rfl ?_ | refine T.condF rfl rfl ?_)
    refine T.condT rfl rfl ?_
    repeat (first | refine za rfl rfl ?_ | refine zb rfl ?_ | refine zc rfl ?_)
    refine TL.ldW 0 szk rfl rfl rfl rfl rfl rfl ?_
    refine TL.call0 Tryz.call71 rfl rfl rfl hconv (fun w' hA => hv.mono (st_viewLe hA (Mc := []) fun _ hp => by cases hp)) (fun y => TL.and fun hy => ?_)
    refine TL.allocZ 1 Tryz.zeroValue161 (by kernel_rfl) rfl rfl (fun ob zs hz => ?_)
    refine TL.stW (vs := bodyCells r y.1) 0 szk rfl rfl rfl rfl (hlen _) hz (hone _ _ hy) ?_
    repeat (first | refine za rfl rfl ?_ | refine zb rfl ?_ | refine zc rfl ?_)
    have hi : ifTy r.kind.toNat = 220 := by rw [e]; rfl
    refine T.ret Tryz.func50 rfl (fun w' hA => ⟨(ob, (ob, .row (bodyCells r y.1) 161) :: y.2), by rw [hi]; rfl, ⟨y.1, ?_, ?_⟩, hA.sub (by simp [setN])⟩)
    · have hA' := hA.sub (M' := (ob, .row (bodyCells r y.1) 161) :: y.2) (by simp [setN])
      exact mv_row hA'.nd (i := 0) rfl (fun j v hj => by rw [Nat.zero_add]; exact hj)
    · have hA' := hA.sub (M' := (ob, .row (bodyCells r y.1) 161) :: y.2) (by simp [setN])
      exact bodyX_mono (mv_sub hA'.nd fun p hp => List.mem_cons_of_mem _ hp) hy
  · have e := congrArg Int.toNat k
    have hlen := fun xv => cells_len hr (xv := xv)
    have hone := fun (h : View) (xv : Value) (hx : bodyX h r xv) => cells_one' hr hx
    simp only [e] at hlen
    have hcs : rcCells r dv tv pv = [str r.name, .int .u16 r.typ, .int .u16 r.cls, .int .u32 r.ttl, .int .u16 r.len, .int .i64 8, dv, str r.host, str r.box, .int .u32 r.n1, .int .u32 r.n2, .int .u32 r.n3, .int .u32 r.n4, .int .u32 r.n5, tv, pv] := by rw [rcCells, k]
    have hconv := aaaaOf r hr k dv tv pv
    unfold ConvCt at hconv
    rw [hcs] at hconv ⊢
    refine calls_of_T (m := 81) Tryz.func50 rfl rfl (by simp) hS ?_
    repeat (first | refine za rfl rfl ?_ | refine zb rfl ?_ | refine zc rfl ?_)
    refine TL.box rfl rfl rfl rfl (fun xb => ?_)
    repeat (first | refine za rfl rfl ?_ | refine zb rfl ?_ | refine zc rfl ?_)
    refine TL.ld 0 szk rfl rfl rfl rfl rfl rfl ?_
    repeat (first | refine TL.p tbk rfl ?_ | refine TL.nil ?_ | refine T.seq ?_ | refine T.region ?_ | refine T.skip ?_ | refine T.block ?_ | refine T.inBlock ?_ | refine T.exit rfl ?_ | refine T.condF rfl rfl ?_)
    refine T.condT rfl rfl ?_
    repeat (first | refine za rfl rfl ?_ | refine zb rfl ?_ | refine zc rfl ?_)
    refine TL.ldW 0 szk rfl rfl rfl rfl rfl rfl ?_
    refine TL.call0 Tryz.call73 rfl rfl rfl hconv (fun w' hA => hv.mono (st_viewLe hA (Mc := []) fun _ hp => by cases hp)) (fun y => TL.and fun hy => ?_)
    refine TL.allocZ 16 Tryz.zeroValue166 (by kernel_rfl) rfl rfl (fun ob zs hz => ?_)
    refine TL.stW (vs := bodyCells r y.1) 0 szk rfl rfl rfl rfl (hlen _) hz (hone _ _ hy) ?_
    repeat (first | refine za rfl rfl ?_ | refine zb rfl ?_ | refine zc rfl ?_)
    have hi : ifTy r.kind.toNat = 221 := by rw [e]; rfl
    refine T.ret Tryz.func50 rfl (fun w' hA => ⟨(ob, (ob, .row (bodyCells r y.1) 166) :: y.2), by rw [hi]; rfl, ⟨y.1, ?_, ?_⟩, hA.sub (by simp [setN])⟩)
    · have hA' := hA.sub (M' := (ob, .row (bodyCells r y.1) 166) :: y.2) (by simp [setN])
      exact mv_row hA'.nd (i := 0) rfl (fun j v hj => by rw [Nat.zero_add]; exact hj)
    · have hA' := hA.sub (M' := (ob, .row (bodyCells r y.1) 166) :: y.2) (by simp [setN])
      exact bodyX_mono (mv_sub hA'.nd fun p hp => List.mem_cons_of_mem _ hp) hy
  · have e := congrArg Int.toNat k
    have hlen := fun xv => cells_len hr (xv := xv)
    have hone := fun (h : View) (xv : Value) (hx : bodyX h r xv) => cells_one' hr hx
    simp only [e] at hlen
    have hcs : rcCells r dv tv pv = [str r.name, .int .u16 r.typ, .int .u16 r.cls, .int .u32 r.ttl, .int .u16 r.len, .int .i64 9, dv, str r.host, str r.box, .int .u32 r.n1, .int .u32 r.n2, .int .u32 r.n3, .int .u32 r.n4, .int .u32 r.n5, tv, pv] := by rw [rcCells, k]
    have hconv := srvOf r hr k dv tv pv
    unfold ConvCt at hconv
    rw [hcs] at hconv ⊢
    refine calls_of_T (m := 81) Tryz.func50 rfl rfl (by simp) hS ?_
    repeat (first | refine za rfl rfl ?_ | refine zb rfl ?_ | refine zc rfl ?_)
    refine TL.box rfl rfl rfl rfl (fun xb => ?_)
    repeat (first | refine za rfl rfl ?_ | refine zb rfl ?_ | refine zc rfl ?_)
    refine TL.ld 0 szk rfl rfl rfl rfl rfl rfl ?_
    repeat (first | refine TL.p tbk rfl ?_ | refine TL.nil ?_ | refine T.seq ?_ | refine T.region ?_ | refine T.skip ?_ | refine T.block ?_ | refine T.inBlock ?_ | refine T.exit rfl ?_ | refine T.condF rfl rfl ?_)
    refine T.condT rfl rfl ?_
    repeat (first | refine za rfl rfl ?_ | refine zb rfl ?_ | refine zc rfl ?_)
    refine TL.ldW 0 szk rfl rfl rfl rfl rfl rfl ?_
    refine TL.call0 Tryz.call75 rfl rfl rfl hconv (fun w' hA => hv.mono (st_viewLe hA (Mc := []) fun _ hp => by cases hp)) (fun y => TL.and fun hy => ?_)
    refine TL.allocZ 259 Tryz.zeroValue170 (by kernel_rfl) rfl rfl (fun ob zs hz => ?_)
    refine TL.stW (vs := bodyCells r y.1) 0 szk rfl rfl rfl rfl (hlen _) hz (hone _ _ hy) ?_
    repeat (first | refine za rfl rfl ?_ | refine zb rfl ?_ | refine zc rfl ?_)
    have hi : ifTy r.kind.toNat = 222 := by rw [e]; rfl
    refine T.ret Tryz.func50 rfl (fun w' hA => ⟨(ob, (ob, .row (bodyCells r y.1) 170) :: y.2), by rw [hi]; rfl, ⟨y.1, ?_, ?_⟩, hA.sub (by simp [setN])⟩)
    · have hA' := hA.sub (M' := (ob, .row (bodyCells r y.1) 170) :: y.2) (by simp [setN])
      exact mv_row hA'.nd (i := 0) rfl (fun j v hj => by rw [Nat.zero_add]; exact hj)
    · have hA' := hA.sub (M' := (ob, .row (bodyCells r y.1) 170) :: y.2) (by simp [setN])
      exact bodyX_mono (mv_sub hA'.nd fun p hp => List.mem_cons_of_mem _ hp) hy
  · have e := congrArg Int.toNat k
    have hlen := fun xv => cells_len hr (xv := xv)
    have hone := fun (h : View) (xv : Value) (hx : bodyX h r xv) => cells_one' hr hx
    simp only [e] at hlen
    have hcs : rcCells r dv tv pv = [str r.name, .int .u16 r.typ, .int .u16 r.cls, .int .u32 r.ttl, .int .u16 r.len, .int .i64 10, dv, str r.host, str r.box, .int .u32 r.n1, .int .u32 r.n2, .int .u32 r.n3, .int .u32 r.n4, .int .u32 r.n5, tv, pv] := by rw [rcCells, k]
    have hconv := optOf r hr k dv tv pv
    unfold ConvCt at hconv
    rw [hcs] at hconv ⊢
    refine calls_of_T (m := 81) Tryz.func50 rfl rfl (by simp) hS ?_
    repeat (first | refine za rfl rfl ?_ | refine zb rfl ?_ | refine zc rfl ?_)
    refine TL.box rfl rfl rfl rfl (fun xb => ?_)
    repeat (first | refine za rfl rfl ?_ | refine zb rfl ?_ | refine zc rfl ?_)
    refine TL.ld 0 szk rfl rfl rfl rfl rfl rfl ?_
    repeat (first | refine TL.p tbk rfl ?_ | refine TL.nil ?_ | refine T.seq ?_ | refine T.region ?_ | refine T.skip ?_ | refine T.block ?_ | refine T.inBlock ?_ | refine T.exit rfl ?_ | refine T.condF rfl rfl ?_)
    refine T.condT rfl rfl ?_
    repeat (first | refine za rfl rfl ?_ | refine zb rfl ?_ | refine zc rfl ?_)
    refine TL.ldW 0 szk rfl rfl rfl rfl rfl rfl ?_
    refine TL.call0 Tryz.call77 rfl rfl rfl hconv (fun w' hA => hv.mono (st_viewLe hA (Mc := []) fun _ hp => by cases hp)) (fun y => TL.and fun hy => ?_)
    refine TL.allocZ 1 Tryz.zeroValue175 (by kernel_rfl) rfl rfl (fun ob zs hz => ?_)
    refine TL.stW (vs := bodyCells r y.1) 0 szk rfl rfl rfl rfl (hlen _) hz (hone _ _ hy) ?_
    repeat (first | refine za rfl rfl ?_ | refine zb rfl ?_ | refine zc rfl ?_)
    have hi : ifTy r.kind.toNat = 223 := by rw [e]; rfl
    refine T.ret Tryz.func50 rfl (fun w' hA => ⟨(ob, (ob, .row (bodyCells r y.1) 175) :: y.2), by rw [hi]; rfl, ⟨y.1, ?_, ?_⟩, hA.sub (by simp [setN])⟩)
    · have hA' := hA.sub (M' := (ob, .row (bodyCells r y.1) 175) :: y.2) (by simp [setN])
      exact mv_row hA'.nd (i := 0) rfl (fun j v hj => by rw [Nat.zero_add]; exact hj)
    · have hA' := hA.sub (M' := (ob, .row (bodyCells r y.1) 175) :: y.2) (by simp [setN])
      exact bodyX_mono (mv_sub hA'.nd fun p hp => List.mem_cons_of_mem _ hp) hy
  · have e := congrArg Int.toNat k
    have hlen := fun xv => cells_len hr (xv := xv)
    have hone := fun (h : View) (xv : Value) (hx : bodyX h r xv) => cells_one' hr hx
    simp only [e] at hlen
    have hcs : rcCells r dv tv pv = [str r.name, .int .u16 r.typ, .int .u16 r.cls, .int .u32 r.ttl, .int .u16 r.len, .int .i64 11, dv, str r.host, str r.box, .int .u32 r.n1, .int .u32 r.n2, .int .u32 r.n3, .int .u32 r.n4, .int .u32 r.n5, tv, pv] := by rw [rcCells, k]
    have hconv := svcbOf' r hr k dv tv pv
    unfold ConvCt at hconv
    rw [hcs] at hconv ⊢
    refine calls_of_T (m := 81) Tryz.func50 rfl rfl (by simp) hS ?_
    repeat (first | refine za rfl rfl ?_ | refine zb rfl ?_ | refine zc rfl ?_)
    refine TL.box rfl rfl rfl rfl (fun xb => ?_)
    repeat (first | refine za rfl rfl ?_ | refine zb rfl ?_ | refine zc rfl ?_)
    refine TL.ld 0 szk rfl rfl rfl rfl rfl rfl ?_
    repeat (first | refine TL.p tbk rfl ?_ | refine TL.nil ?_ | refine T.seq ?_ | refine T.region ?_ | refine T.skip ?_ | refine T.block ?_ | refine T.inBlock ?_ | refine T.exit rfl ?_ | refine T.condF rfl rfl ?_)
    refine T.condT rfl rfl ?_
    repeat (first | refine za rfl rfl ?_ | refine zb rfl ?_ | refine zc rfl ?_)
    refine TL.ldW 0 szk rfl rfl rfl rfl rfl rfl ?_
    refine TL.call0 Tryz.call79 rfl rfl rfl hconv (fun w' hA => hv.mono (st_viewLe hA (Mc := []) fun _ hp => by cases hp)) (fun y => TL.and fun hy => ?_)
    refine TL.allocZ 258 Tryz.zeroValue180 (by kernel_rfl) rfl rfl (fun ob zs hz => ?_)
    refine TL.stW (vs := bodyCells r y.1) 0 szk rfl rfl rfl rfl (hlen _) hz (hone _ _ hy) ?_
    repeat (first | refine za rfl rfl ?_ | refine zb rfl ?_ | refine zc rfl ?_)
    have hi : ifTy r.kind.toNat = 224 := by rw [e]; rfl
    refine T.ret Tryz.func50 rfl (fun w' hA => ⟨(ob, (ob, .row (bodyCells r y.1) 180) :: y.2), by rw [hi]; rfl, ⟨y.1, ?_, ?_⟩, hA.sub (by simp [setN])⟩)
    · have hA' := hA.sub (M' := (ob, .row (bodyCells r y.1) 180) :: y.2) (by simp [setN])
      exact mv_row hA'.nd (i := 0) rfl (fun j v hj => by rw [Nat.zero_add]; exact hj)
    · have hA' := hA.sub (M' := (ob, .row (bodyCells r y.1) 180) :: y.2) (by simp [setN])
      exact bodyX_mono (mv_sub hA'.nd fun p hp => List.mem_cons_of_mem _ hp) hy
  · have e := congrArg Int.toNat k
    have hlen := fun xv => cells_len hr (xv := xv)
    have hone := fun (h : View) (xv : Value) (hx : bodyX h r xv) => cells_one' hr hx
    simp only [e] at hlen
    have hcs : rcCells r dv tv pv = [str r.name, .int .u16 r.typ, .int .u16 r.cls, .int .u32 r.ttl, .int .u16 r.len, .int .i64 12, dv, str r.host, str r.box, .int .u32 r.n1, .int .u32 r.n2, .int .u32 r.n3, .int .u32 r.n4, .int .u32 r.n5, tv, pv] := by rw [rcCells, k]
    have hconv := httpsOf r hr k dv tv pv
    unfold ConvCt at hconv
    rw [hcs] at hconv ⊢
    refine calls_of_T (m := 81) Tryz.func50 rfl rfl (by simp) hS ?_
    repeat (first | refine za rfl rfl ?_ | refine zb rfl ?_ | refine zc rfl ?_)
    refine TL.box rfl rfl rfl rfl (fun xb => ?_)
    repeat (first | refine za rfl rfl ?_ | refine zb rfl ?_ | refine zc rfl ?_)
    refine TL.ld 0 szk rfl rfl rfl rfl rfl rfl ?_
    repeat (first | refine TL.p tbk rfl ?_ | refine TL.nil ?_ | refine T.seq ?_ | refine T.region ?_ | refine T.skip ?_ | refine T.block ?_ | refine T.inBlock ?_ | refine T.exit rfl ?_ | refine T.condF rfl rfl ?_)
    refine T.condT rfl rfl ?_
    repeat (first | refine za rfl rfl ?_ | refine zb rfl ?_ | refine zc rfl ?_)
    refine TL.ldW 0 szk rfl rfl rfl rfl rfl rfl ?_
    refine TL.call0 Tryz.call81 rfl rfl rfl hconv (fun w' hA => hv.mono (st_viewLe hA (Mc := []) fun _ hp => by cases hp)) (fun y => TL.and fun hy => ?_)
    refine TL.allocZ 258 Tryz.zeroValue184 (by kernel_rfl) rfl rfl (fun ob zs hz => ?_)
    refine TL.stW (vs := bodyCells r y.1) 0 szk rfl rfl rfl rfl (hlen _) hz (hone _ _ hy) ?_
    repeat (first | refine za rfl rfl ?_ | refine zb rfl ?_ | refine zc rfl ?_)
    have hi : ifTy r.kind.toNat = 225 := by rw [e]; rfl
    refine T.ret Tryz.func50 rfl (fun w' hA => ⟨(ob, (ob, .row (bodyCells r y.1) 184) :: y.2), by rw [hi]; rfl, ⟨y.1, ?_, ?_⟩, hA.sub (by simp [setN])⟩)
    · have hA' := hA.sub (M' := (ob, .row (bodyCells r y.1) 184) :: y.2) (by simp [setN])
      exact mv_row hA'.nd (i := 0) rfl (fun j v hj => by rw [Nat.zero_add]; exact hj)
    · have hA' := hA.sub (M' := (ob, .row (bodyCells r y.1) 184) :: y.2) (by simp [setN])
      exact bodyX_mono (mv_sub hA'.nd fun p hp => List.mem_cons_of_mem _ hp) hy
  · have e := congrArg Int.toNat k
    have hlen := fun xv => cells_len hr (xv := xv)
    have hone := fun (h : View) (xv : Value) (hx : bodyX h r xv) => cells_one' hr hx
    simp only [e] at hlen
    have hcs : rcCells r dv tv pv = [str r.name, .int .u16 r.typ, .int .u16 r.cls, .int .u32 r.ttl, .int .u16 r.len, .int .i64 13, dv, str r.host, str r.box, .int .u32 r.n1, .int .u32 r.n2, .int .u32 r.n3, .int .u32 r.n4, .int .u32 r.n5, tv, pv] := by rw [rcCells, k]
    have hconv := unknownOf r hr k dv tv pv
    unfold ConvCt at hconv
    rw [hcs] at hconv ⊢
    refine calls_of_T (m := 81) Tryz.func50 rfl rfl (by simp) hS ?_
    repeat (first | refine za rfl rfl ?_ | refine zb rfl ?_ | refine zc rfl ?_)
    refine TL.box rfl rfl rfl rfl (fun xb => ?_)
    repeat (first | refine za rfl rfl ?_ | refine zb rfl ?_ | refine zc rfl ?_)
    refine TL.ld 0 szk rfl rfl rfl rfl rfl rfl ?_
    repeat (first | refine TL.p tbk rfl ?_ | refine TL.nil ?_ | refine T.seq ?_ | refine T.region ?_ | refine T.skip ?_ | refine T.block ?_ | refine T.inBlock ?_ | refine T.exit rfl ?_ | refine T.condF rfl rfl ?_)
    refine TL.ldW 0 szk rfl rfl rfl rfl rfl rfl ?_
    refine TL.call0 Tryz.call83 rfl rfl rfl hconv (fun w' hA => hv.mono (st_viewLe hA (Mc := []) fun _ hp => by cases hp)) (fun y => TL.and fun hy => ?_)
    refine TL.allocZ 2 Tryz.zeroValue188 (by kernel_rfl) rfl rfl (fun ob zs hz => ?_)
    refine TL.stW (vs := bodyCells r y.1) 0 szk rfl rfl rfl rfl (hlen _) hz (hone _ _ hy) ?_
    repeat (first | refine za rfl rfl ?_ | refine zb rfl ?_ | refine zc rfl ?_)
    have hi : ifTy r.kind.toNat = 226 := by rw [e]; rfl
    refine T.ret Tryz.func50 rfl (fun w' hA => ⟨(ob, (ob, .row (bodyCells r y.1) 188) :: y.2), by rw [hi]; rfl, ⟨y.1, ?_, ?_⟩, hA.sub (by simp [setN])⟩)
    · have hA' := hA.sub (M' := (ob, .row (bodyCells r y.1) 188) :: y.2) (by simp [setN])
      exact mv_row hA'.nd (i := 0) rfl (fun j v hj => by rw [Nat.zero_add]; exact hj)
    · have hA' := hA.sub (M' := (ob, .row (bodyCells r y.1) 188) :: y.2) (by simp [setN])
      exact bodyX_mono (mv_sub hA'.nd fun p hp => List.mem_cons_of_mem _ hp) hy
end X
namespace X
theorem el68 : Elem Tryz.prog 68 122 261 288 := elem_of (by kernel_rfl)
theorem sl68 : (∃ e2, Tryz.prog.underlying 68 = some (.slice e2)) ∨ Tryz.prog.underlying 68 = some .string := .inl ⟨_, Tryz.underlying68⟩
theorem pl122 : placesOk Tryz.prog 122 [(0, 260), (260, 1)] 261 = true := by kernel_rfl
theorem rcCells_len (r : Rc) (dv tv pv : Value) : (rcCells r dv tv pv).length = 16 := rfl
def rsCells (r : Rc) (rb ro : Nat) : List Value := rhCells r.name r.typ r.cls r.ttl r.len ++ [.iface (ifTy r.kind.toNat) (ptr rb ro)]
theorem rsCells_length {r : Rc} (h : r.name.length ≤ 255) (rb ro : Nat) : (rsCells r rb ro).length = 261 := by rw [rsCells, List.length_append, rhCells_length h]; rfl
theorem rhCells_one {s : Bs} {t c ttl len : Nat} : ∀ v ∈ rhCells s t c ttl len, v.oneCell' = true := one_app nameCells_one (by simp [Value.oneCell'])
theorem rsCells_one {r : Rc} {rb ro : Nat} : ∀ v ∈ rsCells r rb ro, v.oneCell' = true := one_app rhCells_one (by simp [Value.oneCell'])
theorem RcV.shapes {h : View} {r : Rc} {dv tv pv : Value} (k : RcV h r dv tv pv) : dv.oneCell' = true ∧ tv.oneCell' = true ∧ pv.oneCell' = true := by
  obtain ⟨k1, k2, k3⟩ := k
  obtain ⟨_, _, rfl, _⟩ := k1.shape
  obtain ⟨_, _, rfl, _⟩ := k2.shape
  obtain ⟨_, _, rfl, _⟩ := k3.shape
  exact ⟨rfl, rfl, rfl⟩
structure RsX where
  i : Nat
  ab : Nat
  acs : List Value
  cap : Nat
  axs : List Value
  E : Mem
theorem resources (rs : List Rc) (hok : ∀ r ∈ rs, r.Ok) (hlen : rs.length ≤ 40) (rv : Value) :
    Ct (β := RsX) Tryz.prog 22 [rv] [] (fun w => SlR (view [] w) rv rs) (fun y => .slice (some ⟨y.ab, 0, none⟩) rs.length y.cap) (fun y _ => rs.length ≤ y.cap ∧ RsFrom (mv y.E) 0 y.acs rs) (fun y => (y.ab, .row y.acs 122) :: y.E) := by
  intro w hS hx
  obtain ⟨a, cap, hsh, hcap⟩ := hx.shape
  subst hsh
  refine calls_of_T (m := 23) Tryz.func22 rfl rfl (by simp) hS ?_
  repeat (first | refine za rfl rfl ?_ | refine zb rfl ?_ | refine zc rfl ?_)
  refine TL.bs0 el68 rfl rfl (fun b1 => ?_)
  repeat (first | refine za rfl rfl ?_ | refine zb rfl ?_ | refine zc rfl ?_)
  refine T.loop (α := RsX) (fun x => [(3, .slice (some ⟨x.ab, 0, none⟩) x.i x.cap), (7, .slice a rs.length cap), (8, .int .i64 (rs.length : Int)), (9, .int .i64 (x.i : Int))])
    (fun x w' => (x.i ≤ rs.length ∧ Own x.acs x.i x.cap 261 x.axs ∧ ∀ j r, j < x.i → nth rs j = some r → ∃ rb ro, (∀ k v, nth (rsCells r rb ro) k = some v → nth x.axs (j * 261 + k) = some v) ∧ BodyMem (mv x.E) rb ro r) ∧ St (keys []) w ((x.ab, .row x.acs 122) :: x.E) w')
    (fun x => rs.length - x.i) ⟨0, b1, [], 0, [], []⟩ ⟨rfl, rfl, rfl, rfl, trivial⟩ (fun w' hA => ⟨⟨Nat.zero_le _, own0 261, fun j p hj => (Nat.not_lt_zero _ hj).elim⟩, hA⟩) ?_
  intro x ih
  refine T.and fun ⟨hi, hown, hall⟩ => ?_
  repeat (first | refine za rfl rfl ?_ | refine zb rfl ?_ | refine zc rfl ?_)
  by_cases hlt : x.i < rs.length
  · refine T.condT rfl (by simpa using hlt) ?_
    obtain ⟨r, hr⟩ := nth_lt hlt
    have hok1 := hok r (nth_mem hr)
    have h255 : r.name.length ≤ 255 := by have := hok1.name.len; omega
    obtain ⟨b, o, cap', cs, hv, _, _, hrs, dv, tv, pv, hcs, hd, ht, hp⟩ := hx.at hr
    injection hv with hv1 _ hv3
    subst hv1 hv3 hcs
    have hrv : RcV (view (keys []) w) r dv tv pv := ⟨hd, ht, hp⟩
    obtain ⟨o1, o2, o3⟩ := hrv.shapes
    repeat (first | refine za rfl rfl ?_ | refine zb rfl ?_ | refine zc rfl ?_)
    refine TL.ix (j := x.i) tbk rfl rfl rfl rfl rfl rfl hlt ?_
    refine TL.ldRA hrs szk rfl rfl (rcCells_len _ _ _ _) rfl rfl ?_
    refine TL.allocZ 16 Tryz.zeroValue98 rfl rfl rfl (fun lb zs hz => ?_)
    refine TL.stW (vs := rcCells r dv tv pv) 0 szk rfl rfl rfl rfl rfl hz (rcCells_one o1 o2 o3) ?_
    repeat (first | refine za rfl rfl ?_ | refine zb rfl ?_ | refine zc rfl ?_)
    refine TS.start [(0, true), (1, true), (3, true), (2, false), (4, false), (5, true), (6, false), (7, false), (8, true)] [(lb, .row (rcCells r dv tv pv) 98)] mixed (by kernel_rfl) (by kernel_rfl) (by decide) (by simp [setN]) ?_
    refine TS.p tbk rfl rfl ?_
    refine TS.y rfl rfl rfl rfl (Y.loadA szk rfl rfl (rcCells_len _ _ _ _) (fun w h i v hv => by rw [Nat.zero_add]; exact h.cell (i := 0) rfl hv)) ?_
    refine TS.y rfl rfl rfl rfl (Y.loadA szk rfl rfl (rcCells_len _ _ _ _) (fun w h i v hv => by rw [Nat.zero_add]; exact h.cell (i := 0) rfl hv)) ?_
    refine TS.call0 rfl Tryz.call49 rfl rfl rfl (headOf r h255 dv tv pv) (fun _ _ => trivial) (fun _ => by simp [setN]) (fun _ => TS.and fun _ => ?_)
    refine TS.call0 rfl Tryz.call50 rfl rfl rfl (bodyOf r hok1 dv tv pv) (fun w' hA => hrv.mono (st_viewLe hA (Mc := []) fun _ hp => by cases hp)) (fun y => by simp [setN]) (fun y => TS.and fun hy => ?_)
    refine TS.mono (fun w hA => hA.perm (M' := [(lb, .row (rcCells r dv tv pv) 98), (x.ab, .row x.acs 122)] ++ (x.E ++ y.2)) ?_) ?_
    · simp only [setN]
      exact (List.perm_append_comm (l₁ := [(lb, Ob.row (rcCells r dv tv pv) 98), (x.ab, Ob.row x.acs 122)] ++ x.E) (l₂ := y.2))
    have hfl : flatC [.agg (rhCells r.name r.typ r.cls r.ttl r.len).toArray, .iface (ifTy r.kind.toNat) (ptr y.1 0)] = rsCells r y.1 0 := by simp [flatC, Value.cells, rsCells]
    have hb := build_seq (vs := [.agg (rhCells r.name r.typ r.cls r.ttl r.len).toArray, .iface (ifTy r.kind.toNat) (ptr y.1 0)]) pl122 (by simp [contig, Value.cells, rhCells_length h255]) (by rw [hfl, rsCells_length h255])
    rw [hfl] at hb
    refine TS.y rfl rfl rfl rfl (Y.build (pv := partsFrom 0 [.agg (rhCells r.name r.typ r.cls r.ttl r.len).toArray, .iface (ifTy r.kind.toNat) (ptr y.1 0)]) rfl hb) ?_
    refine TS.bsA (us := rsCells r y.1 0) rfl el68 rfl (rsCells_length h255 _ _) (by decide) rfl rfl (fun b => by simp [setN]) (fun eb => ?_)
    refine TS.append (news := rsCells r y.1 0) 2 rfl el68 sl68 rfl rfl rfl rfl rfl hown (Src.slice (fun w hA j u hj => by rw [add_zero', Nat.zero_add]; exact hA.cell (i := 0) rfl (by rw [nth_eq]; exact hj)) (rsCells_length h255 _ _) rsCells_one) (by omega) (by omega) (fun b cs => by simp [setN]) (fun ab' acs' acap' aown' => ?_)
    refine TS.p tbk rfl rfl ?_
    refine TS.nil ?_
    repeat (first | refine za rfl rfl ?_ | refine zb rfl ?_ | refine zc rfl ?_)
    rw [add1_i64 (a := x.i) (by omega)]
    refine T.again ih ⟨x.i + 1, ab', acs', acap', x.axs ++ rsCells r y.1 0, x.E ++ y.2⟩ (by simp; omega) ⟨rfl, rfl, rfl, rfl, trivial⟩ (fun w' hA => ?_)
    have hA' : St (keys []) w ((ab', .row acs' 122) :: (x.E ++ y.2)) w' := hA.sub (by simp [setN])
    have hnd := (List.nodup_cons.1 hA'.nd).2
    refine ⟨⟨by simp; omega, aown', fun j p hj hp => ?_⟩, hA'⟩
    simp only at hj
    have hxl := hown.length
    rcases Nat.lt_or_ge j x.i with hji | hji
    · obtain ⟨rb, ro, h1, h2⟩ := hall j p hji hp
      refine ⟨rb, ro, fun k v hk => ?_, h2.mono (mv_sub hnd fun p hp => List.mem_append_left _ hp)⟩
      have := h1 k v hk
      rw [nth_eq] at this ⊢
      have hl := (List.getElem?_eq_some_iff.1 this).1
      simp only
      rw [List.getElem?_append_left hl]; exact this
    · have : j = x.i := by omega
      subst this
      rw [hr] at hp
      simp only [Option.some.injEq] at hp
      subst hp
      refine ⟨y.1, 0, fun k v hk => ?_, hy.mono (mv_sub hnd fun p hp => List.mem_append_right _ hp)⟩
      rw [nth_eq] at hk ⊢
      simp only
      rw [List.getElem?_append_right (by omega), hxl, Nat.add_sub_cancel_left]; exact hk
  · refine T.condF rfl (by simpa using hlt) ?_
    have hil : x.i = rs.length := by omega
    repeat (first | refine za rfl rfl ?_ | refine zb rfl ?_ | refine zc rfl ?_)
    refine T.ret Tryz.func22 rfl (fun w' hA => ⟨x, by rw [← hil]; rfl, ⟨by have := hown.le; omega, fun j p _ hp => ?_⟩, hA⟩)
    obtain ⟨rb, ro, h1, h2⟩ := hall j p (by rw [hil]; rw [nth_eq] at hp; exact (List.getElem?_eq_some_iff.1 hp).1) hp
    exact ⟨rb, ro, fun k v hk => hown.nth (h1 k v hk), h2⟩
end X
end Go.Proofs.YtifnodoffgfpbaaGreatDoor
