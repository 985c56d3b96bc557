/- Texts Tab, E10, A0. The tables of this program's types that the engine asks for, held against the program by the kernel. Printed by tables.py. -/
import Derived.Test.YtifnodoffgfpbaaGreatDoorPab
import Derived.Test.YtifnodoffgfpbaaGreatDoorProg
namespace Go.Proofs.YtifnodoffgfpbaaGreatDoor
open Go
namespace X
def tb : Tab where
  flds := [(24, [0, 1, 2, 3, 4, 5, 6, 7, 8, 9]), (28, [0, 10, 11, 12, 13]), (30, [0, 1, 2, 3, 4, 5, 6, 7, 8, 9]), (34, [0, 10, 11, 12, 13]), (51, [0, 1, 2]), (52, [0, 1, 2]), (58, [0, 1, 2, 3, 4, 5, 6, 7, 8, 9, 10, 11, 12, 13, 14, 15]), (60, [0, 1]), (66, [0, 1, 2, 3, 4, 5, 6, 7, 8, 9]), (72, [0, 10, 11, 12, 13]), (75, [0, 255]), (79, [0, 256, 257]), (88, [0, 1, 2, 3, 4, 5]), (91, [0, 1, 2, 8, 9]), (98, [0, 1, 2, 3, 4, 5, 6, 7, 8, 9, 10, 11, 12, 13, 14, 15]), (110, [0, 1]), (116, [0, 256, 257, 258, 259]), (122, [0, 260]), (137, [0]), (141, [0]), (145, [0]), (149, [0, 256, 512, 513, 514, 515, 516]), (153, [0]), (157, [0, 1]), (161, [0]), (166, [0]), (170, [0, 1, 2, 3]), (175, [0]), (180, [0, 1, 257]), (184, [0]), (188, [0, 1]), (191, [0, 1, 7, 8, 9, 10, 11, 12, 13]), (250, [0, 1]), (262, [0, 1])]
  elms := [(25, none, 3), (26, none, 16), (31, none, 3), (32, none, 16), (37, none, 1), (53, none, 1), (55, none, 1), (56, none, 2), (68, none, 261), (70, none, 258), (73, (some 255), 1), (95, none, 1), (96, none, 2), (132, (some 12), 1), (135, (some 4), 1), (164, (some 16), 1), (173, none, 2), (178, none, 2), (200, none, 1), (210, none, 1), (213, (some 14), 1), (252, none, 1)]
  knds := [(3, .i64), (5, .u8), (22, .u16), (54, .u32), (63, .u16), (64, .u16), (76, .u16), (77, .u16), (86, .u8), (260, .u16)]
  strs := [9]
  ifcs := [82, 119]
  maps := [89, 275]
  concs := [129, 214, 215, 216, 217, 218, 219, 220, 221, 222, 223, 224, 225, 226]
def sz : Szs := [(3, 1, false), (4, 1, false), (5, 1, false), (9, 1, false), (22, 1, false), (24, 10, true), (25, 1, false), (26, 1, false), (28, 14, true), (30, 10, true), (31, 1, false), (32, 1, false), (34, 14, true), (37, 1, false), (51, 3, true), (52, 3, true), (53, 1, false), (54, 1, false), (55, 1, false), (56, 1, false), (58, 16, true), (60, 2, true), (63, 1, false), (64, 1, false), (66, 10, true), (68, 1, false), (70, 1, false), (72, 14, true), (73, 255, true), (75, 256, true), (76, 1, false), (77, 1, false), (79, 258, true), (82, 1, false), (86, 1, false), (88, 6, true), (89, 1, false), (91, 10, true), (95, 1, false), (96, 1, false), (98, 16, true), (100, 1, false), (110, 2, true), (116, 260, true), (119, 1, false), (122, 261, true), (124, 1, false), (129, 1, false), (131, 2, true), (132, 12, true), (135, 4, true), (137, 4, true), (141, 256, true), (145, 256, true), (149, 517, true), (153, 256, true), (157, 257, true), (161, 1, true), (164, 16, true), (166, 16, true), (170, 259, true), (173, 1, false), (175, 1, true), (178, 1, false), (180, 258, true), (184, 258, true), (188, 2, true), (191, 14, true), (200, 1, false), (210, 1, false), (213, 14, true), (214, 1, false), (215, 1, false), (216, 1, false), (217, 1, false), (218, 1, false), (219, 1, false), (220, 1, false), (221, 1, false), (222, 1, false), (223, 1, false), (224, 1, false), (225, 1, false), (226, 1, false), (241, 1, false), (250, 2, true), (252, 1, false), (260, 1, false), (262, 2, true), (275, 1, false)]
theorem tbk : tb.ok Tryz.prog = true := by kernel_rfl
theorem szk : sz.ok Tryz.prog = true := by kernel_rfl
theorem mixed : Tryz.prog.follows .mixedOrders = true := by kernel_rfl
end X
namespace X
theorem bs_size (s : Bs) : (⟨s.toArray⟩ : ByteArray).size = s.length := by simp [ByteArray.size]
theorem bs_toList (s : Bs) : (⟨s.toArray⟩ : ByteArray).toList = s := by
  have h : ∀ (k : Nat) (i : Nat) (acc : List UInt8), s.length - i = k → ByteArray.toList.loop ⟨s.toArray⟩ i acc = acc.reverse ++ s.drop i := by
    intro k
    induction k with
    | zero =>
      intro i acc h
      unfold ByteArray.toList.loop
      rw [if_neg (by rw [bs_size]; omega), List.drop_eq_nil_of_le (by omega)]; simp
    | succ k ih =>
      intro i acc h
      unfold ByteArray.toList.loop
      have hi : i < s.length := by omega
      rw [if_pos (by rw [bs_size]; omega), ih (i + 1) _ (by omega)]
      have hg : (⟨s.toArray⟩ : ByteArray).get! i = s[i] := by
        show s.toArray.get!Internal i = s[i]
        simp [hi]
      rw [hg, List.drop_eq_getElem_cons hi]; simp
  unfold ByteArray.toList
  rw [h (s.length - 0) 0 [] rfl]; simp
theorem bs_extract (s : Bs) (a b : Nat) : (⟨s.toArray⟩ : ByteArray).extract a b = ⟨((s.take b).drop a).toArray⟩ := by
  apply ByteArray.ext
  rw [ByteArray.data_extract]
  simp [List.extract_eq_take_drop, List.drop_take]
theorem str_inj {a b : Bs} (h : str a = str b) : a = b := by
  unfold str at h
  injection h with h
  injection h with h
  simpa using h
section
variable {P : Program} {f : FuncId} {n : Nat} {R : Ending → World → Prop} {k : List Item} {L : Fr} {A : World → Prop} {X : List Nat} {w0 : World} {M : Mem} {ops : Array Oper} {rest : List Oper} {tb : Tab} {sz : Szs}
/- ---------- strings ---------- -/
section strs
variable {t s1 : TypeId} {x : Operand} {d : Nat} {ty : TypeId} {pos : String} {af : Array Edge} {g : Option (Nat × Bool)} {l m : Nat} {s : Bs}
theorem Y.ssl {lo hi : Option Operand} (hk : tb.ok P = true) (ht : isIn tb.strs t = true) (hx : ev L x = some (str s))
    (hlo : match lo with | none => l = 0 | some y => ∃ q, ev L y = some (.int q (l : Int))) (hhi : match hi with | none => m = s.length | some y => ∃ q, ev L y = some (.int q (m : Int)))
    (h1 : l ≤ m) (h2 : m ≤ s.length) {d : Option Tmp} : Y P n L A ⟨d, .slice t x lo hi none, ty, pos, af, g⟩ (str ((s.take m).drop l)) := by
  intro a w ha _
  have hu := Tab.str hk ht
  have hmax : ∀ c w, (match hi.map a.eval with | some v => Instr.sliceBound v s.length c | none => pure s.length : Sem Nat).run P w = .ok m w := by
    intro c w
    cases hi with
    | none => simp at hhi; simp [hhi]
    | some y => obtain ⟨q, hq⟩ := hhi; exact run_bound (ev_ok ha hq) h2 c w
  have hmin : ∀ c w, (match lo.map a.eval with | some v => Instr.sliceBound v m c | none => pure 0 : Sem Nat).run P w = .ok l w := by
    intro c w
    cases lo with
    | none => simp at hlo; simp [hlo]
    | some y => obtain ⟨q, hq⟩ := hlo; exact run_bound (ev_ok ha hq) h1 c w
  have hb : (Instr.sliceBounds false s.length s.length (lo.map a.eval) (hi.map a.eval) none).run P w = .ok (l, m, s.length) w := by
    have h3 := hmax .sliceAlen w
    have h4 := hmin .sliceB w
    unfold Instr.sliceBounds
    cases hi with
    | none =>
      simp at h3
      cases lo with
      | none => simp at h4; simp [h3, h4]
      | some y => simp at h4; simp [h3, h4]
    | some u =>
      simp at h3
      cases lo with
      | none => simp at h4; simp [h3, h4]
      | some y => simp at h4; simp [h3, h4]
  have hs := ev_ok ha hx
  unfold str at hs
  simp [execOp, Instr.sliceAt, Instr.slice, run_underlying' hu, hs, bs_size, hb, bs_extract, str]
theorem TL.ssl {lo hi : Option Operand} (hk : tb.ok P = true) (ht : isIn tb.strs t = true) (hx : ev L x = some (str s)) (hn : d.blt n = true) (hw : want ops L g = some true)
    (hlo : match lo with | none => l = 0 | some y => ∃ q, ev L y = some (.int q (l : Int))) (hhi : match hi with | none => m = s.length | some y => ∃ q, ev L y = some (.int q (m : Int)))
    (h1 : l ≤ m) (h2 : m ≤ s.length) (h : TL P f n R k ops rest ((d, str ((s.take m).drop l)) :: L) A) : TL P f n R k ops (⟨some d, .slice t x lo hi none, ty, pos, af, g⟩ :: rest) L A :=
  TL.y hw rfl hn (Y.ssl hk ht hx hlo hhi h1 h2) h
/-- len(s), s a string. -/
theorem Y.slen (hk : tb.ok P = true) (ht : isIn tb.strs t = true) (hx : ev L x = some (str s)) {d : Option Tmp} : Y P n L A ⟨d, .call { callee := .builtin .len, args := ⟨[x]⟩, argTypes := ⟨[t]⟩ }, ty, pos, af, g⟩ (.int .i64 s.length) := by
  intro a w ha _
  have hs := ev_ok ha hx
  unfold str at hs
  simp [execOp, resolve, invoke, builtin, Builtin.len_, run_underlying' (Tab.str hk ht), hs, goInt, bs_size]
theorem TL.slen (hk : tb.ok P = true) (ht : isIn tb.strs t = true) (hx : ev L x = some (str s)) (hn : d.blt n = true) (hw : want ops L g = some true) (h : TL P f n R k ops rest ((d, .int .i64 s.length) :: L) A) :
    TL P f n R k ops (⟨some d, .call { callee := .builtin .len, args := ⟨[x]⟩, argTypes := ⟨[t]⟩ }, ty, pos, af, g⟩ :: rest) L A := TL.y hw rfl hn (Y.slen hk ht hx) h
theorem foldl_bytes : ∀ (s acc : Bs), (s.map fun b => ((b.toNat : Nat) : Int)).foldl (fun (r : ByteArray) z => r.push (UInt8.ofNat z.toNat)) ⟨acc.toArray⟩ = ⟨(acc ++ s).toArray⟩
  | [], acc => by simp
  | b :: r, acc => by
    simp only [List.map_cons, List.foldl_cons]
    have : (⟨acc.toArray⟩ : ByteArray).push (UInt8.ofNat ((b.toNat : Nat) : Int).toNat) = ⟨(acc ++ [b]).toArray⟩ := by
      apply ByteArray.ext; simp [ByteArray.push]
    rw [this, foldl_bytes r (acc ++ [b])]; simp
/-- string(x), x a slice of bytes. -/
theorem Y.b2s {e : TypeId} {p : Addr} {len cap : Nat} (hs : P.underlying s1 = some (.slice e)) (he : P.underlying e = some (.int .u8)) (hd : P.underlying t = some .string) (hx : ev L x = some (.slice (some p) len cap)) (hl : s.length = len)
    (hc : ∀ w, A w → ∀ j u, (s.map bv)[j]? = some u → w.cell? (p.add j) = some u) {d : Option Tmp} : Y P n L A ⟨d, .convert s1 t x, ty, pos, af, g⟩ (str s) := by
  intro a w ha hA
  have hlc := run_loadCells_list (P := P) (w := w) p (s.map bv) (hc w hA)
  simp only [List.length_map, hl] at hlc
  have hrun := run_bytesToString (P := P) w p len cap (s.map fun b => ((b.toNat : Nat) : Int)) (by rw [hlc]; simp [bv])
  have hf := foldl_bytes s []
  simp only [List.nil_append] at hf
  have hemp : (⟨(([] : Bs)).toArray⟩ : ByteArray) = ByteArray.empty := rfl
  rw [hemp] at hf
  rw [hf] at hrun
  simp only [execOp, Sem.run_bind, ev_ok ha hx, run_convert_bytes_string w s1 t e _ _ _ hs he hd, hrun, Result.andThen_ok, Sem.run_pure, str]
theorem Y.b2s0 {e : TypeId} {cap : Nat} (hs : P.underlying s1 = some (.slice e)) (he : P.underlying e = some (.int .u8)) (hd : P.underlying t = some .string) (hx : ev L x = some (.slice none 0 cap)) {d : Option Tmp} :
    Y P n L A ⟨d, .convert s1 t x, ty, pos, af, g⟩ (str []) := by
  intro a w ha hA
  simp only [execOp, Sem.run_bind, ev_ok ha hx, run_convert_bytes_string w s1 t e _ _ _ hs he hd, Conv.bytesToString, Result.andThen_ok, Sem.run_pure]
  rfl
end strs

/- ---------- copy ---------- -/
section cp
variable {t t2 e e' : TypeId} {x y : Operand} {d : Nat} {ty : TypeId} {pos : String} {af : Array Edge} {g : Option (Nat × Bool)} {b off dl dc m q : Nat} {v : Value} {cs news : List Value}
/-- The first q elements of a value of m elements. -/
structure SrcN (P : Program) (A : World → Prop) (x : Value) (m q : Nat) (news : List Value) : Prop where
  len : ∀ w, (Builtin.lenOf x).run P w = .ok m w
  first : ∀ w, A w → (Builtin.firstCells 1 q x).run P w = .ok news.toArray w
  length : news.length = q
  one : ∀ u ∈ news, u.oneCell' = true
theorem SrcN.slice {p : Addr} {c : Nat} (h : ∀ w, A w → ∀ j u, news[j]? = some u → w.cell? (p.add j) = some u) (hl : news.length = q) (h1 : ∀ u ∈ news, u.oneCell' = true) : SrcN P A (.slice (some p) m c) m q news :=
  ⟨fun w => rfl, fun w hw => run_firstCells_some (P := P) w 1 q p m c news (by omega) (h w hw), hl, h1⟩
theorem SrcN.nil {c : Nat} : SrcN P A (.slice none 0 c) 0 0 [] := ⟨fun w => rfl, fun w _ => by simp [Builtin.firstCells], rfl, by simp⟩
theorem SrcN.str {s : Bs} (hq : q ≤ s.length) : SrcN P A (str s) s.length q ((s.take q).map bv) :=
  ⟨fun w => by simp [Builtin.lenOf, X.str, ByteArray.size], fun w _ => by
    simp only [Builtin.firstCells, X.str, Sem.run_pure, bs_extract]
    congr 1
    apply Array.ext'
    simp
    rfl, by simp; omega, fun u hu => by obtain ⟨b, _, rfl⟩ := List.mem_map.1 hu; rfl⟩
theorem OkOp.copy {bytes : Nat} (i : Nat) (he : Elem P t e 1 bytes) (hi : nth M i = some (b, .row cs e')) (hx : ev L x = some (.slice (some ⟨b, off, none⟩) dl dc)) (hy : ev L y = some v) (hn : d.blt n = true)
    (hq : q = min m dl) (hs : SrcN P (St X w0 M) v m q news) (hfit : off + q ≤ cs.length) :
    OkOp (β := Unit) P n L (St X w0 M) ⟨some d, .call { callee := .builtin .copy, args := #[x, y], argTypes := #[t, t2] }, ty, pos, af, g⟩ (fun _ => (d, .int .i64 q) :: L) (fun _ => St X w0 (setN M i (b, .row (splice cs off news) e'))) := by
  intro a w ha hA next Q hnx
  unfold Oper.wp
  obtain ⟨hu, ⟨inf, z, hinf, hsz, hby, hz, hzs⟩, hpos⟩ := he
  have hl := hs.length
  have hst := run_storeCells_at P b off e' news 0 cs.toArray w (hA.block hi) (by simp; omega) hs.one
  simp only [Nat.add_zero] at hst
  have hf := hs.first w hA
  have hr : (Builtin.copy_ #[t, t2] ty #[.slice (some ⟨b, off, none⟩) dl dc, v]).run P w = .ok (.int .i64 q) (w.setRow b (splice cs off news).toArray) := by
    have hq' : Nat.min m dl = q := hq.symm
    simp [Builtin.copy_, run_underlying' hu, run_sizeOf' hinf, hsz, hs.len, hq', hf, hst, splice, goInt]
  have : (execOp a.eval ⟨some d, .call { callee := .builtin .copy, args := #[x, y], argTypes := #[t, t2] }, ty, pos, af, g⟩).run P w = .ok (.value (.int .i64 q)) (w.setRow b (splice cs off news).toArray) := by
    simp [execOp, resolve, invoke, builtin, ev_ok ha hx, ev_ok ha hy, hr]
  rw [this]
  exact hnx () _ _ (ha.put (by simpa using hn)) (hA.setRow hi)
theorem TL.copy {bytes : Nat} (i : Nat) (he : Elem P t e 1 bytes) (hi : nth M i = some (b, .row cs e')) (hx : ev L x = some (.slice (some ⟨b, off, none⟩) dl dc)) (hy : ev L y = some v) (hn : d.blt n = true) (hw : want ops L g = some true)
    (hq : q = min m dl) (hs : SrcN P (St X w0 M) v m q news) (hfit : off + q ≤ cs.length)
    (h : TL P f n R k ops rest ((d, .int .i64 q) :: L) (St X w0 (setN M i (b, .row (splice cs off news) e')))) :
    TL P f n R k ops (⟨some d, .call { callee := .builtin .copy, args := #[x, y], argTypes := #[t, t2] }, ty, pos, af, g⟩ :: rest) L (St X w0 M) :=
  TL.op hw (OkOp.copy i he hi hx hy hn hq hs hfit) fun _ => h
end cp

/- ---------- make ---------- -/
section mk
variable {t e : TypeId} {x y : Operand} {d : Nat} {ty : TypeId} {pos : String} {af : Array Edge} {g : Option (Nat × Bool)} {len cap size bytes : Nat} {k1 k2 : IntKind}
theorem madeCells_one (z : Array Value) (zc : Value) (h : z = #[zc]) (c : Nat) : (madeCells z c).toList = List.replicate c zc := by
  subst h
  apply List.ext_getElem
  · simp [madeCells]
  · intro i h1 h2
    simp [madeCells, Nat.mod_one]
theorem OkOp.make (he : Elem P t e size bytes) (hx : ev L x = some (.int k1 (len : Int))) (hy : ev L y = some (.int k2 (cap : Int))) (hlc : len ≤ cap) (hfit : bytes * cap ≤ 281474976710656) (h63 : cap ≤ 4611686018427387904) (hn : d.blt n = true) :
    OkOp (β := Nat × List Value) P n L (St X w0 M) ⟨some d, .makeSlice t x y, ty, pos, af, g⟩ (fun q => (d, .slice (some ⟨q.1, 0, none⟩) len cap) :: L)
      (fun q w => (q.2.length = cap * size ∧ ∀ i z zc, P.info? e = some i → i.zero = some z → z.cells = #[zc] → q.2 = List.replicate cap zc) ∧ St X w0 ((q.1, .row q.2 e) :: M) w) := by
  intro a w ha hA next Q hnx
  unfold Oper.wp
  obtain ⟨hu, ⟨inf, z, hinf, hsz, hby, hz, hzs⟩, hpos⟩ := he
  have hb : (inf.bytes : Int) * (cap : Int) ≤ 281474976710656 := by rw [hby, ← Int.natCast_mul]; omega
  have hr := run_make (P := P) w t e inf z hu hinf hz k1 k2 len cap (by omega) (by omega) hb (by omega)
  simp only [Int.toNat_natCast, hsz] at hr
  simp only [execOp, ev_ok ha hx, ev_ok ha hy, Sem.run_bind, hr, Result.andThen_ok, Sem.run_pure, Oper.upon]
  refine hnx (w.heap.size, (madeCells z.cells (cap * size)).toList) _ _ (ha.put (by simpa using hn)) ⟨⟨by simp [size_madeCells], fun i' z' zc hi' hz' hzc => ?_⟩, ?_⟩
  · rw [hinf] at hi'; simp at hi'; subst hi'
    rw [hz] at hz'; simp at hz'; subst hz'
    have : size = 1 := by rw [← hzs, hzc]; rfl
    subst this
    rw [Nat.mul_one]
    exact madeCells_one _ _ hzc _
  · exact hA.alloc (.row (madeCells z.cells (cap * size)).toList e)
theorem TL.make (he : Elem P t e size bytes) (hx : ev L x = some (.int k1 (len : Int))) (hy : ev L y = some (.int k2 (cap : Int))) (hlc : len ≤ cap) (hfit : bytes * cap ≤ 281474976710656) (h63 : cap ≤ 4611686018427387904) (hn : d.blt n = true) (hw : want ops L g = some true)
    (h : ∀ b zs, zs.length = cap * size → (∀ i z zc, P.info? e = some i → i.zero = some z → z.cells = #[zc] → zs = List.replicate cap zc) → TL P f n R k ops rest ((d, .slice (some ⟨b, 0, none⟩) len cap) :: L) (St X w0 ((b, .row zs e) :: M))) :
    TL P f n R k ops (⟨some d, .makeSlice t x y, ty, pos, af, g⟩ :: rest) L (St X w0 M) :=
  TL.op hw (OkOp.make he hx hy hlc hfit h63 hn) fun q => TL.and fun hq => h q.1 q.2 hq.1 hq.2
theorem OkOp.makeMap (hn : d.blt n = true) :
    OkOp (β := Nat) P n L (St X w0 M) ⟨some d, .makeMap t none, ty, pos, af, g⟩ (fun q => (d, .map (some q)) :: L) (fun q => St X w0 ((q, .map [] 0) :: M)) := by
  intro a w ha hA next Q hnx
  unfold Oper.wp
  simp only [execOp, Option.map_none, Instr.makeMap, Sem.run_bind, run_newObj, Result.andThen_ok, Sem.run_pure, Oper.upon]
  exact hnx w.heap.size _ _ (ha.put (by simpa using hn)) (hA.alloc (.map [] 0))
theorem TL.makeMap (hn : d.blt n = true) (hw : want ops L g = some true) (h : ∀ q, TL P f n R k ops rest ((d, .map (some q)) :: L) (St X w0 ((q, .map [] 0) :: M))) : TL P f n R k ops (⟨some d, .makeMap t none, ty, pos, af, g⟩ :: rest) L (St X w0 M) :=
  TL.op hw (OkOp.makeMap hn) h
end mk

/- ---------- structs that are built ---------- -/
section bld
variable {t : TypeId} {d : Nat} {ty : TypeId} {pos : String} {af : Array Edge} {g : Option (Nat × Bool)} {ps : Array (Nat × Operand)} {vs : List Value} {v : Value}
def pEv2 (L : Fr) : List (Nat × Operand) → Option (List (Nat × Value))
  | [] => some []
  | (i, x) :: r => match ev L x with
    | some v => match pEv2 L r with
      | some vs => some ((i, v) :: vs)
      | none => none
    | none => none
theorem pEv2_ok {a : Act} (h : Has n a L) : ∀ {ps : List (Nat × Operand)} {vs : List (Nat × Value)}, pEv2 L ps = some vs → ps.map (fun (i, x) => (i, a.eval x)) = vs
  | [], vs, he => by simp [pEv2] at he; subst he; rfl
  | (i, x) :: r, vs, he => by
    simp only [pEv2] at he
    split at he
    · rename_i v hv
      split at he
      · rename_i us hu
        simp at he; subst he
        simp [ev_ok h hv, pEv2_ok h hu]
      · cases he
    · cases he
theorem Y.build {pv : List (Nat × Value)} (hp : pEv2 L ps.toList = some pv) (hb : ∀ w, (Instr.build t pv.toArray).run P w = .ok v w) {d : Option Tmp} : Y P n L A ⟨d, .build t ps, ty, pos, af, g⟩ v := by
  intro a w ha _
  have hps : ps.map (fun (i, x) => (i, a.eval x)) = pv.toArray := by rw [← pEv2_ok ha hp, ← Array.toList_map]
  simp only [execOp, hps, Sem.run_bind, hb, Result.andThen_ok, Sem.run_pure]
/-- T{..}: by an equation on the struct alone. -/
theorem TL.build {pv : List (Nat × Value)} (hp : pEv2 L ps.toList = some pv) (hn : d.blt n = true) (hw : want ops L g = some true) (hb : ∀ w, (Instr.build t pv.toArray).run P w = .ok v w)
    (h : TL P f n R k ops rest ((d, v) :: L) A) : TL P f n R k ops (⟨some d, .build t ps, ty, pos, af, g⟩ :: rest) L A :=
  TL.y hw rfl hn (Y.build hp hb) h
/-- The places of a struct's fields, ags far ags they are given: (offset, size). -/
def placesOk (P : Program) (t : TypeId) (pl : List (Nat × Nat)) (total : Nat) : Bool :=
  (match P.underlying t with | some (.struct fs) => (fs.toList.map fun fd => (fd.offset, sizeAt P fd.type)) == pl && (fs.toList.all fun fd => (P.info? fd.type).isSome) | _ => false) &&
  (match P.info? t with | some i => (match i.zero with | some z => z.cells.size == total | none => false) | none => false)
def contig : List (Nat × Nat) → Nat → List Value → Bool
  | _, _, [] => true
  | (o, s) :: r, off, v :: vs => o == off && s == v.cells.size && contig r (off + s) vs
  | [], _, _ :: _ => false
theorem contig_at : ∀ {pl : List (Nat × Nat)} {off : Nat} {vs : List Value}, contig pl off vs = true → ∀ j v, nth vs j = some v → pl[j]? = some (off + (flatC (vs.take j)).length, v.cells.size)
  | _, _, [], _, _, _, h => by cases h
  | [], _, _ :: _, h, _, _, _ => by cases h
  | (o, s) :: r, off, u :: vs, h, j, v, hj => by
    simp only [contig, Bool.and_eq_true, beq_iff_eq] at h
    obtain ⟨⟨h1, h2⟩, h3⟩ := h
    cases j with
    | zero => simp [nth] at hj; subst hj; simp [flatC, h1, h2]
    | succ j =>
      have := contig_at h3 j v (by simpa [nth] using hj)
      simp only [List.getElem?_cons_succ, this, List.take_succ_cons, flatC, List.length_append, Array.length_toList, h2]
      congr 2; omega
theorem mapM_places {fs : List Field} (h : (fs.all fun fd => (P.info? fd.type).isSome) = true) (w : World) : (fs.mapM fun fd => (do pure (fd.offset, ← sizeOf fd.type) : Sem (Nat × Nat))).run P w = .ok (fs.map fun fd => (fd.offset, sizeAt P fd.type)) w := by
  induction fs with
  | nil => simp
  | cons fd r ih =>
    simp only [List.all_cons, Bool.and_eq_true] at h
    obtain ⟨i, hi⟩ := Option.isSome_iff_exists.1 h.1
    have := ih h.2
    simp [List.mapM_cons, run_sizeOf' hi, sizeAt, hi] at this ⊢
    simp [this]
/-- All fields are given, in their order. -/
theorem build_seq {pl : List (Nat × Nat)} {total : Nat} (hp : placesOk P t pl total = true) (hc : contig pl 0 vs = true) (ht : (flatC vs).length = total) (w : World) :
    (Instr.build t (partsFrom 0 vs).toArray).run P w = .ok (.agg (flatC vs).toArray) w := by
  unfold placesOk at hp
  simp only [Bool.and_eq_true] at hp
  obtain ⟨h1, h2⟩ := hp
  split at h1
  · rename_i fs hu
    simp only [Bool.and_eq_true, beq_iff_eq] at h1
    split at h2
    · rename_i i hi
      split at h2
      · rename_i z hz
        simp at h2
        have hm := mapM_places (P := P) h1.2 w
        rw [h1.1] at hm
        have hf := fill_seq (place := fun i => pl.toArray[i]?) vs 0 0 z.cells.toList (fun j v hj => by
          have := contig_at hc j v hj
          simpa using this) (by rw [ht]; simp; omega)
        rw [splice_all (by rw [ht]; simp; omega)] at hf
        simp only [Array.toArray_toList] at hf
        have hfs : (fs.mapM fun fd => (do pure (fd.offset, ← sizeOf fd.type) : Sem (Nat × Nat))).run P w = .ok pl.toArray w := by
          rw [← Array.toArray_toList (xs := fs), List.mapM_toArray]
          simp only [Sem.run_map, hm, Result.andThen_ok]
        simp only [Instr.build, zeroValue, typeInfo, Sem.run_bind, run_program, Result.andThen_ok, hi, Sem.run_pure, hz, run_underlying' hu, hfs, hf]
      · cases h2
    · cases h2
  · cases h1
end bld

/- ---------- interfaces ---------- -/
section ifc
variable {t u : TypeId} {x : Operand} {d : Nat} {ty : TypeId} {pos : String} {af : Array Edge} {g : Option (Nat × Bool)} {v z : Value}
theorem Y.asY {at_ : TypeId} {dd : TypeDesc} (hu : P.underlying at_ = some dd) (hd : ∀ ms, dd ≠ .interface ms) (hx : ev L x = some (.iface at_ v)) {d : Option Tmp} : Y P n L A ⟨d, .typeAssert x t at_ true, ty, pos, af, g⟩ (.tuple #[v, .bool true]) := by
  intro a w ha _
  simp only [execOp, Instr.typeAssert, Sem.run_bind, run_underlying' hu, Result.andThen_ok, ev_ok ha hx]
  cases dd <;> first | exact absurd rfl (hd _) | simp
theorem Y.asN {at_ : TypeId} {dd : TypeDesc} (hu : P.underlying at_ = some dd) (hd : ∀ ms, dd ≠ .interface ms) (hx : ev L x = some (.iface u v)) (hne : (u.beq at_) = false) (hz : ∀ w, (zeroValue at_).run P w = .ok z w) {d : Option Tmp} :
    Y P n L A ⟨d, .typeAssert x t at_ true, ty, pos, af, g⟩ (.tuple #[z, .bool false]) := by
  intro a w ha _
  have hne' : ¬ u = at_ := fun e => by subst e; simp at hne
  simp only [execOp, Instr.typeAssert, Sem.run_bind, run_underlying' hu, Result.andThen_ok, ev_ok ha hx]
  cases dd <;> first | exact absurd rfl (hd _) | simp [hne', hz]
/-- A method of an interface value. -/
theorem OkOp.invoke {fn : FuncId} {xs : Array Operand} {ts : Array TypeId} {name : String} {vs : List Value} {rv : Value} {β : Type} {v : β → Value} {B : β → World → Prop}
    (hr : ev L x = some (.iface u rv)) (hm : ∀ w, (method (P.types.size + Made.depth) u rv name).run P w = .ok (fn, rv) w) (hcall : ∀ (ags : Array Value) w, (callFunc fn ags).run P w = .ok (.enter fn ags) w) (hx : evs L xs.toList = some vs) (hn : d.blt n = true)
    (hc : ∀ w, A w → Calls P fn (rv :: vs).toArray w fun e w' => ∃ y, e = .returned (v y) ∧ B y w') :
    OkOp P n L A ⟨some d, .call { callee := .invoke x name, args := xs, argTypes := ts }, ty, pos, af, g⟩ (fun y => (d, v y) :: L) B := by
  intro a w ha hA next Q hnx
  unfold Oper.wp
  have hargs : xs.map a.eval = vs.toArray := by rw [← evs_ok ha hx, ← Array.toList_map]
  have hrun : (execOp a.eval ⟨some d, .call { callee := .invoke x name, args := xs, argTypes := ts }, ty, pos, af, g⟩).run P w = .ok (.enter fn (rv :: vs).toArray) w := by
    simp only [execOp, resolve, Sem.run_bind, Sem.run_pure, Result.andThen_ok, Go.invoke, hargs, ev_ok ha hr]
    have e0 : (#[Value.iface u rv] ++ vs.toArray)[0]? = some (.iface u rv) := by simp
    have e1 : (#[Value.iface u rv] ++ vs.toArray).extract 1 (#[Value.iface u rv] ++ vs.toArray).size = vs.toArray := by
      apply Array.ext'; simp
    simp only [e0, e1, callMethod, Sem.run_bind, run_program, Result.andThen_ok, hm]
    have e2 : #[rv] ++ vs.toArray = (rv :: vs).toArray := by simp
    rw [e2]; exact hcall _ _
  rw [hrun]
  refine (hc w hA).mono ?_
  rintro e w' ⟨y, rfl, hB⟩
  exact hnx y _ _ (ha.put (by simpa using hn)) hB
end ifc

/- ---------- results that lie in memory ---------- -/
def RV (P : Program) (n : Nat) (L : Fr) (A : World → Prop) (r : ResultVar) (v : Value) : Prop := ∀ a w, Has n a L → A w → (resOne a.tmps r).run P w = .ok v w
inductive RVs (P : Program) (n : Nat) (L : Fr) (A : World → Prop) : List ResultVar → List Value → Prop where
  | nil : RVs P n L A [] []
  | cons {r : ResultVar} {v : Value} {rs : List ResultVar} {vs : List Value} (h : RV P n L A r v) (t : RVs P n L A rs vs) : RVs P n L A (r :: rs) (v :: vs)
theorem RV.tmp {t : Nat} {v : Value} (h : look L t = some v) : RV P n L A (.tmp t) v := fun a w ha _ => by simp [resOne]; have := ha.2.2 _ _ h; simpa using this
theorem RV.cellW {t ty s b : Nat} {cs : List Value} {tt : TypeId} (i : Nat) (hk : sz.ok P = true) (h : look L t = some (.pointer (some ⟨b, 0, none⟩))) (hi : nth M i = some (b, .row cs tt)) (ht : find sz ty = some (s, true)) (hl : cs.length = s) :
    RV P n L (St X w0 M) (.cell t ty) (.agg cs.toArray) := fun a w ha hA => by
  have h1 := ha.2.2 _ _ h
  simp only [resOne, Sem.run_bind, h1, asAddr, Sem.run_pure, Result.andThen_ok]
  exact run_loadVar_agg hk ht hl fun i v hv => by rw [Nat.zero_add]; exact hA.cell hi hv
theorem RV.cell1 {t ty b : Nat} {v : Value} {cs : List Value} {tt : TypeId} (i : Nat) (hk : sz.ok P = true) (h : look L t = some (.pointer (some ⟨b, 0, none⟩))) (hi : nth M i = some (b, .row cs tt)) (ht : find sz ty = some (1, false)) (hv : nth cs 0 = some v) :
    RV P n L (St X w0 M) (.cell t ty) v := fun a w ha hA => by
  have h1 := ha.2.2 _ _ h
  simp only [resOne, Sem.run_bind, h1, asAddr, Sem.run_pure, Result.andThen_ok]
  exact run_loadVar_sca hk ht (hA.cell hi hv)
theorem RVs.ok {a : Act} {w : World} (ha : Has n a L) (hA : A w) : ∀ {rs : List ResultVar} {vs : List Value}, RVs P n L A rs vs → (rs.mapM (resOne a.tmps)).run P w = .ok vs w
  | _, _, .nil => by simp
  | _, _, .cons h t => by simp only [List.mapM_cons, Sem.run_bind, h a w ha hA, Result.andThen_ok, RVs.ok ha hA t, Sem.run_pure]
theorem T.retG {fn : Func} {vs : List Value} (hf : P.funcs[f]? = some fn) (hr : RVs P n L A fn.results.toList vs) (h : ∀ w, A w → R (.returned (pack vs)) w) : T P f n R (.code .ret :: k) L A :=
  ⟨fun a w ha hw => W.ret hf ha.1 (results_of_list (hr.ok ha hw)) (h w hw)⟩
theorem T.doneG {fn : Func} {vs : List Value} (hf : P.funcs[f]? = some fn) (hr : RVs P n L A fn.results.toList vs) (h : ∀ w, A w → R (.returned (pack vs)) w) : T P f n R [] L A :=
  ⟨fun a w ha hw => W.done hf ha.1 (results_of_list (hr.ok ha hw)) (h w hw)⟩
end
end X
namespace X
/-- What is asked next: code. -/
def nT (P : Program) (f : FuncId) (n : Nat) (R : Ending → World → Prop) (k : List Item) (L : Fr) (A : World → Prop) : Option Prop := match k with
  | .code (.seq x y) :: k => some (T P f n R (.code x :: .code y :: k) L A)
  | .code .skip :: k => some (T P f n R k L A)
  | .code (.block id c) :: k => some (T P f n R (.code c :: .inBlock id :: k) L A)
  | .inBlock _ :: k => some (T P f n R k L A)
  | .code (.exit id) :: k => match exitTo id k with
    | some k' => some (T P f n R k' L A)
    | none => none
  | .code (.region _ ops false) :: k => some (TL P f n R k ops ops.toList L A)
  | _ => none
/-- What is asked next: operations. -/
def nL (P : Program) (f : FuncId) (n : Nat) (R : Ending → World → Prop) (k : List Item) (ops : Array Oper) (rest : List Oper) (L : Fr) (A : World → Prop) : Option Prop := match rest with
  | [] => some (T P f n R k L A)
  | o :: r => match stepP tb n ops L o with
    | some L' => some (TL P f n R k ops r L' A)
    | none => none
section
variable {f : FuncId} {n : Nat} {R : Ending → World → Prop} {k : List Item} {L : Fr} {A : World → Prop} {ops : Array Oper} {rest : List Oper} {p : Prop}
theorem zc {P : Program} (h : nT P f n R k L A = some p) (hp : p) : T P f n R k L A := by
  unfold nT at h
  split at h
  · cases h; exact T.seq hp
  · cases h; exact T.skip hp
  · cases h; exact T.block hp
  · cases h; exact T.inBlock hp
  · split at h
    · rename_i he; cases h; exact T.exit he hp
    · cases h
  · cases h; exact T.region hp
  · cases h
theorem zb (h : nL Tryz.prog f n R k ops rest L A = some p) (hp : p) : TL Tryz.prog f n R k ops rest L A := by
  unfold nL at h
  split at h
  · cases h; exact TL.nil hp
  · split at h
    · rename_i he; cases h; exact TL.p tbk he hp
    · cases h
theorem za {t : TypeId} {x : Operand} {s : Bs} {d : Nat} {ty : TypeId} {pos : String} {af : Array Edge} {g : Option (Nat × Bool)} (hx : ev L x = some (str s)) (hw : (isIn tb.strs t && d.blt n && (want ops L g).getD false) = true)
    (h : TL Tryz.prog f n R k ops rest ((d, .int .i64 s.length) :: L) A) :
    TL Tryz.prog f n R k ops (⟨some d, .call { callee := .builtin .len, args := ⟨[x]⟩, argTypes := ⟨[t]⟩ }, ty, pos, af, g⟩ :: rest) L A := by
  simp only [Bool.and_eq_true] at hw
  refine TL.slen tbk hw.1.1 hx hw.1.2 ?_ h
  cases e : want ops L g
  · rw [e] at hw; exact absurd hw.2 (by simp)
  · rw [e] at hw; exact congrArg some hw.2
end
end X
end Go.Proofs.YtifnodoffgfpbaaGreatDoor
