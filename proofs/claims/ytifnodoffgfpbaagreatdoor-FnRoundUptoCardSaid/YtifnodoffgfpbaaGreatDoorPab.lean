/- Texts E6, E7, E8, E9. The engine, sixth part: slices. -/
import Derived.Test.YtifnodoffgfpbaaGreatDoorPaa
import Derived.Laws.MakeOwn
import Derived.Laws.BytesString
namespace Go.Proofs.YtifnodoffgfpbaaGreatDoor
open Go
namespace X

abbrev Bs := List UInt8
def bv (b : UInt8) : Value := .int .u8 (b.toNat : Int)
def str (s : Bs) : Value := .string ⟨s.toArray⟩
theorem bv_one (b : UInt8) : (bv b).oneCell' = true := rfl

/-- The first len elements (of so many cells each) of a block are xs; there is room for cap. -/
structure Own (cs : List Value) (len cap size : Nat) (xs : List Value) : Prop where
  take : cs.take (len * size) = xs
  length : xs.length = len * size
  room : cap * size ≤ cs.length
  le : len ≤ cap
theorem Own.nth {cs xs : List Value} {len cap size : Nat} (h : Own cs len cap size xs) {j : Nat} {v : Value} (hj : nth xs j = some v) : X.nth cs j = some v := by
  rw [nth_eq] at *
  rw [← h.take, List.getElem?_take] at hj
  split at hj
  · exact hj
  · cases hj

section
variable {P : Program} {f : FuncId} {n : Nat} {R : Ending → World → Prop} {k : List Item} {L : Fr} {A : World → Prop} {X : List Nat} {w0 : World} {M : Mem} {ops : Array Oper} {rest : List Oper} {tb : Tab} {sz : Szs}

theorem St.swap {w : World} (h : St X w0 M w) {i b : Nat} {o o' : Ob} (hi : nth M i = some (b, o)) : St X w0 (setN M i (w.heap.size, o')) (w.alloc o'.obj) := by
  have ha := h.alloc o'
  refine ⟨ha.ext, fun p hp => ?_, ?_, fun p hp => ?_⟩
  · rcases mem_setN hp with rfl | ⟨j, hj, hn⟩
    · exact heap_alloc_new _ _
    · exact ha.at_ _ (List.mem_cons_of_mem _ (nth_mem hn))
  · have e : (setN M i (w.heap.size, o')).map (·.1) = (M.map (·.1)).set i w.heap.size := by rw [setN_eq, List.map_set]
    rw [e]
    have hnot : w.heap.size ∉ M.map (·.1) := fun hm => by
      obtain ⟨p, hp, he⟩ := List.mem_map.1 hm
      have := lt_of_block (h.at_ p hp)
      omega
    rw [List.Nodup, List.pairwise_iff_getElem]
    intro x y hx hy hxy
    have hx' : x < (M.map (·.1)).length := by simpa using hx
    have hy' : y < (M.map (·.1)).length := by simpa using hy
    have hne := (List.pairwise_iff_getElem.1 h.nodup) x y hx' hy' hxy
    rw [List.getElem_set, List.getElem_set]
    split
    · split
      · omega
      · intro e2; exact hnot (e2 ▸ List.getElem_mem hy')
    · split
      · intro e2; exact hnot (e2 ▸ List.getElem_mem hx')
      · exact hne
  · rcases mem_setN hp with rfl | ⟨j, hj, hn⟩
    · exact .inr h.ext.size
    · exact h.mine _ (nth_mem hn)

section ix
variable {t z : TypeId} {x i lo hi : Operand} {d : Nat} {ty : TypeId} {pos : String} {af : Array Edge} {g : Option (Nat × Bool)} {b off len cap j m l : Nat} {kk kl kh : IntKind} {ii il ih : Int}
theorem Y.ix (hk : tb.ok P = true) (he : find tb.elms t = some (none, z)) (hx : ev L x = some (.slice (some ⟨b, off, none⟩) len cap)) (hi : ev L i = some (.int kk ii)) (hm : ii = (j : Int)) (hj : j < len) {d : Option Tmp} :
    Y P n L A ⟨d, .indexAddr t x i, ty, pos, af, g⟩ (.pointer (some ⟨b, off + j * z, none⟩)) := by
  intro a w ha _
  obtain ⟨e, ti, hu, hti, hz⟩ := Tab.slc hk he
  subst hm
  simp [execOp, Instr.indexAt, ev_ok ha hx, ev_ok ha hi, asIntOf, run_underlying' hu, hj, run_sizeOf' hti, hz, add_zero']
theorem Y.ixA (hk : tb.ok P = true) (he : find tb.elms t = some (some m, z)) (hx : ev L x = some (.pointer (some ⟨b, off, none⟩))) (hi : ev L i = some (.int kk ii)) (hm : ii = (j : Int)) (hj : j < m) {d : Option Tmp} :
    Y P n L A ⟨d, .indexAddr t x i, ty, pos, af, g⟩ (.pointer (some ⟨b, off + j * z, none⟩)) := by
  intro a w ha _
  obtain ⟨e, ti, hu, hti, hz⟩ := Tab.arr hk he
  subst hm
  simp [execOp, Instr.indexAt, ev_ok ha hx, ev_ok ha hi, asIntOf, run_underlying' hu, hj, run_sizeOf' hti, hz, add_zero', Instr.sureAddr]
/-- &x[j], x a slice. -/
theorem TL.ix (hk : tb.ok P = true) (he : find tb.elms t = some (none, z)) (hx : ev L x = some (.slice (some ⟨b, off, none⟩) len cap)) (hi : ev L i = some (.int kk ii)) (hn : d.blt n = true) (hw : want ops L g = some true)
    (hm : ii = (j : Int)) (hj : j < len) (h : TL P f n R k ops rest ((d, .pointer (some ⟨b, off + j * z, none⟩)) :: L) A) : TL P f n R k ops (⟨some d, .indexAddr t x i, ty, pos, af, g⟩ :: rest) L A :=
  TL.y hw rfl hn (Y.ix hk he hx hi hm hj) h
theorem TL.ixA (hk : tb.ok P = true) (he : find tb.elms t = some (some m, z)) (hx : ev L x = some (.pointer (some ⟨b, off, none⟩))) (hi : ev L i = some (.int kk ii)) (hn : d.blt n = true) (hw : want ops L g = some true)
    (hm : ii = (j : Int)) (hj : j < m) (h : TL P f n R k ops rest ((d, .pointer (some ⟨b, off + j * z, none⟩)) :: L) A) : TL P f n R k ops (⟨some d, .indexAddr t x i, ty, pos, af, g⟩ :: rest) L A :=
  TL.y hw rfl hn (Y.ixA hk he hx hi hm hj) h
theorem bget (s : Bs) (j : Nat) : (⟨s.toArray⟩ : ByteArray)[j]? = s[j]? := by
  rcases Nat.lt_or_ge j s.length with h | h
  · have h' : j < (⟨s.toArray⟩ : ByteArray).size := by simpa [ByteArray.size] using h
    rw [getElem?_pos (⟨s.toArray⟩ : ByteArray) j h', List.getElem?_eq_getElem h]
    rfl
  · have h' : ¬ j < (⟨s.toArray⟩ : ByteArray).size := by simpa [ByteArray.size] using h
    rw [getElem?_neg (⟨s.toArray⟩ : ByteArray) j h', List.getElem?_eq_none h]
/-- s[j], s a string. -/
theorem Y.six {s : Bs} {c : UInt8} (hk : tb.ok P = true) (ht : isIn tb.strs t = true) (hx : ev L x = some (str s)) (hi : ev L i = some (.int kk ii)) (hm : ii = (j : Int)) (hj : s[j]? = some c) {d : Option Tmp} :
    Y P n L A ⟨d, .index t x i, ty, pos, af, g⟩ (bv c) := by
  intro a w ha _
  subst hm
  have h1 := ev_ok ha hx
  unfold str at h1
  simp [execOp, Instr.index, h1, ev_ok ha hi, asIntOf, run_underlying' (Tab.str hk ht), bget, hj, bv]
theorem TL.six {s : Bs} {c : UInt8} (hk : tb.ok P = true) (ht : isIn tb.strs t = true) (hx : ev L x = some (str s)) (hi : ev L i = some (.int kk ii)) (hn : d.blt n = true) (hw : want ops L g = some true)
    (hm : ii = (j : Int)) (hj : s[j]? = some c) (h : TL P f n R k ops rest ((d, bv c) :: L) A) : TL P f n R k ops (⟨some d, .index t x i, ty, pos, af, g⟩ :: rest) L A :=
  TL.y hw rfl hn (Y.six hk ht hx hi hm hj) h

/- slices of slices: low and high as numbers -/
def lowV (L : Fr) : Option Operand → Int → Prop
  | none, v => v = 0
  | some x, v => ∃ k, ev L x = some (.int k v)
theorem run_bound {v : Value} {k : IntKind} {a : Nat} (h : v = .int k (a : Int)) {y : Nat} (hy : a ≤ y) (c : BoundsCode) (w : World) : (Instr.sliceBound v y c).run P w = .ok a w := by
  subst h
  simp [Instr.sliceBound, asIntOf]
  omega
/-- x[lo:hi], x a slice: where nothing is left the address does not matter. -/
theorem Y.sl {lo hi : Option Operand} (hk : tb.ok P = true) (he : find tb.elms t = some (none, z)) (hx : ev L x = some (.slice (some ⟨b, off, none⟩) len cap))
    (hlo : match lo with | none => l = 0 | some y => ∃ q, ev L y = some (.int q (l : Int))) (hhi : match hi with | none => m = len | some y => ∃ q, ev L y = some (.int q (m : Int)))
    (h1 : l ≤ m) (h2 : m ≤ cap) {d : Option Tmp} : Y P n L A ⟨d, .slice t x lo hi none, ty, pos, af, g⟩ (.slice (some (if cap = l then ⟨b, off, none⟩ else ⟨b, off + l * z, none⟩)) (m - l) (cap - l)) := by
  intro a w ha _
  obtain ⟨e, ti, hu, hti, hz⟩ := Tab.slc hk he
  have hmax : ∀ c w, (match hi.map a.eval with | some v => Instr.sliceBound v cap c | none => pure len : Sem Nat).run P w = .ok m w := by
    intro c w
    cases hi with
    | none => simp at hhi; simp [hhi]
    | some y => obtain ⟨q, hq⟩ := hhi; exact run_bound (ev_ok ha hq) h2 c w
  have hmin : ∀ c w, (match lo.map a.eval with | some v => Instr.sliceBound v m c | none => pure 0 : Sem Nat).run P w = .ok l w := by
    intro c w
    cases lo with
    | none => simp at hlo; simp [hlo]
    | some y => obtain ⟨q, hq⟩ := hlo; exact run_bound (ev_ok ha hq) h1 c w
  have hb : (Instr.sliceBounds true len cap (lo.map a.eval) (hi.map a.eval) none).run P w = .ok (l, m, cap) w := by
    have h3 := hmax .sliceAcap w
    have h4 := hmin .sliceB w
    unfold Instr.sliceBounds
    cases hi with
    | none =>
      simp at h3
      cases lo with
      | none => simp at h4; simp [h3, h4]
      | some y => simp at h4; simp [h3, h4]
    | some u =>
      simp at h3
      cases lo with
      | none => simp at h4; simp [h3, h4]
      | some y => simp at h4; simp [h3, h4]
  simp [execOp, Instr.sliceAt, Instr.slice, run_underlying' hu, ev_ok ha hx, hb, run_sizeOf' hti, hz, add_zero']
  split <;> rfl
theorem TL.sl {lo hi : Option Operand} (hk : tb.ok P = true) (he : find tb.elms t = some (none, z)) (hx : ev L x = some (.slice (some ⟨b, off, none⟩) len cap)) (hn : d.blt n = true) (hw : want ops L g = some true)
    (hlo : match lo with | none => l = 0 | some y => ∃ q, ev L y = some (.int q (l : Int))) (hhi : match hi with | none => m = len | some y => ∃ q, ev L y = some (.int q (m : Int)))
    (h1 : l ≤ m) (h2 : m ≤ cap) (h : ∀ p, (l < cap → p = ⟨b, off + l * z, none⟩) → (l = 0 → p = ⟨b, off, none⟩) → TL P f n R k ops rest ((d, .slice (some p) (m - l) (cap - l)) :: L) A) :
    TL P f n R k ops (⟨some d, .slice t x lo hi none, ty, pos, af, g⟩ :: rest) L A :=
  TL.y hw rfl hn (Y.sl hk he hx hlo hhi h1 h2) (h _ (fun h' => by rw [if_neg (by omega)]) (fun h' => by subst h'; split <;> simp))
/-- arr[:], arr an array behind an address. -/
theorem Y.slA (hk : tb.ok P = true) (he : find tb.elms t = some (some m, z)) (hx : ev L x = some (.pointer (some ⟨b, off, none⟩))) {d : Option Tmp} :
    Y P n L A ⟨d, .slice t x none none none, ty, pos, af, g⟩ (.slice (some ⟨b, off, none⟩) m m) := by
  intro a w ha _
  obtain ⟨e, ti, hu, hti, hz⟩ := Tab.arr hk he
  simp [execOp, Instr.sliceAt, Instr.sliceBounds, run_underlying' hu, ev_ok ha hx, run_sizeOf' hti, hz, add_zero', Instr.sureAddr]
theorem TL.slA (hk : tb.ok P = true) (he : find tb.elms t = some (some m, z)) (hx : ev L x = some (.pointer (some ⟨b, off, none⟩))) (hn : d.blt n = true) (hw : want ops L g = some true)
    (h : TL P f n R k ops rest ((d, .slice (some ⟨b, off, none⟩) m m) :: L) A) : TL P f n R k ops (⟨some d, .slice t x none none none, ty, pos, af, g⟩ :: rest) L A :=
  TL.y hw rfl hn (Y.slA hk he hx) h
/-- arr[lo:hi], arr an array behind an address. -/
theorem Y.slA2 {lo hi : Option Operand} (hk : tb.ok P = true) (he : find tb.elms t = some (some cap, z)) (hx : ev L x = some (.pointer (some ⟨b, off, none⟩)))
    (hlo : match lo with | none => l = 0 | some y => ∃ q, ev L y = some (.int q (l : Int))) (hhi : match hi with | none => m = cap | some y => ∃ q, ev L y = some (.int q (m : Int)))
    (h1 : l ≤ m) (h2 : m ≤ cap) {d : Option Tmp} : Y P n L A ⟨d, .slice t x lo hi none, ty, pos, af, g⟩ (.slice (some (if cap = l then ⟨b, off, none⟩ else ⟨b, off + l * z, none⟩)) (m - l) (cap - l)) := by
  intro a w ha _
  obtain ⟨e, ti, hu, hti, hz⟩ := Tab.arr hk he
  have hmax : ∀ c w, (match hi.map a.eval with | some v => Instr.sliceBound v cap c | none => pure cap : Sem Nat).run P w = .ok m w := by
    intro c w
    cases hi with
    | none => simp at hhi; simp [hhi]
    | some y => obtain ⟨q, hq⟩ := hhi; exact run_bound (ev_ok ha hq) h2 c w
  have hmin : ∀ c w, (match lo.map a.eval with | some v => Instr.sliceBound v m c | none => pure 0 : Sem Nat).run P w = .ok l w := by
    intro c w
    cases lo with
    | none => simp at hlo; simp [hlo]
    | some y => obtain ⟨q, hq⟩ := hlo; exact run_bound (ev_ok ha hq) h1 c w
  have hb : (Instr.sliceBounds false cap cap (lo.map a.eval) (hi.map a.eval) none).run P w = .ok (l, m, cap) w := by
    have h3 := hmax .sliceAlen w
    have h4 := hmin .sliceB w
    unfold Instr.sliceBounds
    cases hi with
    | none =>
      simp at h3
      cases lo with
      | none => simp at h4; simp [h3, h4]
      | some y => simp at h4; simp [h3, h4]
    | some u =>
      simp at h3
      cases lo with
      | none => simp at h4; simp [h3, h4]
      | some y => simp at h4; simp [h3, h4]
  simp [execOp, Instr.sliceAt, run_underlying' hu, ev_ok ha hx, hb, run_sizeOf' hti, hz, add_zero', Instr.sureAddr]
end ix

/- ---------- append ---------- -/
/-- What is appended: the first m elements of a value. -/
structure Src (P : Program) (A : World → Prop) (size : Nat) (x : Value) (m : Nat) (news : List Value) : Prop where
  len : ∀ w, (Builtin.lenOf x).run P w = .ok m w
  first : ∀ w w', A w → w'.heap = w.heap → (Builtin.firstCells size m x).run P w' = .ok news.toArray w'
  length : news.length = m * size
  one : ∀ u ∈ news, u.oneCell' = true
theorem Src.slice {size : Nat} {p : Addr} {m c : Nat} {news : List Value} (h : ∀ w, A w → ∀ j u, news[j]? = some u → w.cell? (p.add j) = some u) (hl : news.length = m * size) (h1 : ∀ u ∈ news, u.oneCell' = true) :
    Src P A size (.slice (some p) m c) m news :=
  ⟨fun w => rfl, fun w w' hw e => run_firstCells_some (P := P) w' size m p m c news hl fun j v hj => by
    have := h w hw j v hj
    unfold World.cell? at *
    rw [e]; exact this, hl, h1⟩
theorem Src.nil {size c : Nat} : Src P A size (.slice none 0 c) 0 [] :=
  ⟨fun w => rfl, fun w w' _ _ => by simp [Builtin.firstCells], by simp, by simp⟩
theorem Src.str {s : Bs} : Src P A 1 (str s) s.length (s.map bv) :=
  ⟨fun w => by simp [Builtin.lenOf, X.str, ByteArray.size], fun w w' _ _ => by
    simp only [Builtin.firstCells, X.str, Sem.run_pure]
    congr 1
    apply Array.ext'
    have : ((⟨s.toArray⟩ : ByteArray).extract 0 s.length).data = s.toArray := by
      rw [ByteArray.data_extract]; simp
    rw [this]
    simp [bv], by simp, fun u hu => by obtain ⟨b, _, rfl⟩ := List.mem_map.1 hu; rfl⟩
section app
variable {t e : TypeId} {x y : Operand} {d : Nat} {ty : TypeId} {pos : String} {af : Array Edge} {g : Option (Nat × Bool)} {b len cap m : Nat} {v : Value} {cs xs news : List Value} {ti : TypeInfo} {zv : Value}
/-- The element type of a slice type, its size and its bytes. -/
structure Elem (P : Program) (t e size bytes : Nat) : Prop where
  und : P.underlying t = some (.slice e)
  info : ∃ i z, P.info? e = some i ∧ i.size = size ∧ i.bytes = bytes ∧ i.zero = some z ∧ z.cells.size = size
  pos : 0 < size
theorem run_append_any {size bytes : Nat} {t2 : TypeId} (he : Elem P t e size bytes) (ht2 : (∃ e2, P.underlying t2 = some (.slice e2)) ∨ P.underlying t2 = some .string) {w : World} (hA : A w) (hS : St X w0 M w) {i : Nat} (hi : nth M i = some (b, .row cs e)) (ho : Own cs len cap size xs)
    (hs : Src P A size v m news) (hfit : (len + m) * bytes ≤ 140737488355328) (h63 : len + m ≤ 4611686018427387904) :
    ∃ b' cs' cap' w', (Builtin.append_ #[t, t2] ty #[.slice (some ⟨b, 0, none⟩) len cap, v]).run P w = .ok (.slice (some ⟨b', 0, none⟩) (len + m) cap') w' ∧ Own cs' (len + m) cap' size (xs ++ news) ∧ St X w0 (setN M i (b', .row cs' e)) w' := by
  obtain ⟨hu, ⟨inf, z, hinf, hsz, hby, hz, hzs⟩, hpos⟩ := he
  have hb := hS.block hi
  have hxs : xs.length = len * size := ho.length
  have hcap := ho.room
  by_cases hroom : len + m ≤ cap
  · refine ⟨b, splice cs (len * size) news, cap, w.setRow b (splice cs (len * size) news).toArray, ?_, ?_, hS.setRow hi⟩
    · have hfit2 : len * size + news.length ≤ cs.length := by
        rw [hs.length, ← Nat.add_mul]
        exact Nat.le_trans (Nat.mul_le_mul_right _ hroom) hcap
      have hst := run_storeCells_at P b (len * size) e news 0 cs.toArray w hb (by simpa using hfit2) hs.one
      simp only [Nat.add_zero] at hst
      have hf := hs.first w w hA rfl
      rcases ht2 with ⟨e2, hd2⟩ | hd2 <;>
        simp [Builtin.append_, run_underlying' hu, run_underlying' hd2, run_sizeOf' hinf, hsz, hs.len, hroom, hf, add_zero', hst, splice]
    · refine ⟨?_, by simp [hxs, hs.length, Nat.add_mul], by
        simp [splice]
        have := hs.length
        have h2 : len * size + news.length ≤ cs.length := by
          rw [hs.length, ← Nat.add_mul]
          exact Nat.le_trans (Nat.mul_le_mul_right _ hroom) hcap
        omega, hroom⟩
      rw [splice, ← ho.take]
      have hl : (List.take (len * size) cs ++ news).length = (len + m) * size := by
        have := ho.length
        rw [← ho.take] at this
        rw [List.length_append, this, hs.length, Nat.add_mul]
      rw [← hl]
      exact List.take_left
  · refine ⟨w.heap.size, xs ++ news ++ (Builtin.zeroCells z.cells (grownCap w (len + m) cap e - (len + m))).toList, grownCap w (len + m) cap e, w.drew.alloc (.cells (xs ++ news ++ (Builtin.zeroCells z.cells (grownCap w (len + m) cap e - (len + m))).toList).toArray e), ?_, ?_, ?_⟩
    · have h63' : ¬ (9223372036854775807 < ((len : Int) + (m : Int))) := by omega
      have h48 := growslice_fits (need := len + m) (old := cap) (bytes := bytes) (by omega) hfit
      have h48' : ¬ (281474976710656 < Builtin.nextslicecap (len + m) cap * bytes) := by omega
      have hf := hs.first w w.drew hA rfl
      have hfo := run_firstCells_some (P := P) w.drew size len ⟨b, 0, none⟩ len cap xs hxs (fun j u hj => by
        rw [add_zero']
        have := ho.nth (j := j) (v := u) (by rw [nth_eq]; exact hj)
        have h2 := hS.drew.cell hi this
        simpa using h2)
      have hfe : ∀ (z1 : Array Value), (xs.toArray ++ (news.toArray ++ z1)) = (xs ++ (news ++ z1.toList)).toArray := fun z1 => by apply Array.ext'; simp
      rcases ht2 with ⟨e2, hd2⟩ | hd2 <;>
        simp [Builtin.append_, run_underlying' hu, run_underlying' hd2, sizeOf, typeInfo, zeroValue, hinf, hz, hsz, hby, hs.len, hroom, h63', h48', Question.forced, hf, hfo, newRow, grownCap, hfe]
    · have hge := grownCap_ge w (len + m) cap e
      refine ⟨?_, by simp [hxs, hs.length, Nat.add_mul], ?_, hge⟩
      · have hl : (xs ++ news).length = (len + m) * size := by rw [List.length_append, hxs, hs.length, Nat.add_mul]
        rw [← hl]
        exact List.take_left
      · have hzc := size_zeroCells z.cells (grownCap w (len + m) cap e - (len + m))
        simp [hxs, hs.length, hzc, hzs]
        rw [← Nat.add_assoc, ← Nat.add_mul, ← Nat.add_mul]
        exact Nat.mul_le_mul_right _ (by omega)
    · have := hS.drew.swap (o' := .row (xs ++ news ++ (Builtin.zeroCells z.cells (grownCap w (len + m) cap e - (len + m))).toList) e) hi
      exact this
theorem run_append_nil' {size bytes : Nat} {t2 : TypeId} (he : Elem P t e size bytes) (ht2 : (∃ e2, P.underlying t2 = some (.slice e2)) ∨ P.underlying t2 = some .string) {w : World} (hA : A w) (hS : St X w0 M w)
    (hs : Src P A size v m news) (h0 : 0 < m) (hfit : m * bytes ≤ 140737488355328) (h63 : m ≤ 4611686018427387904) :
    ∃ b' cs' cap' w', (Builtin.append_ #[t, t2] ty #[.slice none 0 0, v]).run P w = .ok (.slice (some ⟨b', 0, none⟩) m cap') w' ∧ Own cs' m cap' size news ∧ St X w0 ((b', .row cs' e) :: M) w' := by
  obtain ⟨hu, ⟨inf, z, hinf, hsz, hby, hz, hzs⟩, hpos⟩ := he
  have hge := grownCap_ge w m 0 e
  refine ⟨w.heap.size, news ++ (Builtin.zeroCells z.cells (grownCap w m 0 e - m)).toList, grownCap w m 0 e, w.drew.alloc (.cells (news ++ (Builtin.zeroCells z.cells (grownCap w m 0 e - m)).toList).toArray e), ?_, ?_, ?_⟩
  · have h63' : ¬ (9223372036854775807 < (m : Int)) := by omega
    have h48 := growslice_fits (need := m) (old := 0) (bytes := bytes) (by omega) hfit
    have h48' : ¬ (281474976710656 < Builtin.nextslicecap m 0 * bytes) := by omega
    have hm : ¬ m = 0 := by omega
    have hf := hs.first w w.drew hA rfl
    have hfe : ∀ (z1 : Array Value), (news.toArray ++ z1) = (news ++ z1.toList).toArray := fun z1 => by apply Array.ext'; simp
    rcases ht2 with ⟨e2, hd2⟩ | hd2 <;>
      simp [Builtin.append_, run_underlying' hu, run_underlying' hd2, sizeOf, typeInfo, zeroValue, hinf, hz, hsz, hby, hs.len, hm, h63', h48', Question.forced, hf, run_firstCells_none, newRow, grownCap, hfe]
  · refine ⟨?_, hs.length, ?_, hge⟩
    · rw [← hs.length]; exact List.take_left
    · have hzc := size_zeroCells z.cells (grownCap w m 0 e - m)
      simp [hs.length, hzc, hzs]
      rw [← Nat.add_mul]
      exact Nat.mul_le_mul_right _ (by omega)
  · exact hS.drew.alloc (.row (news ++ (Builtin.zeroCells z.cells (grownCap w m 0 e - m)).toList) e)
theorem run_append_nil0 {size bytes : Nat} {t2 : TypeId} (he : Elem P t e size bytes) (ht2 : (∃ e2, P.underlying t2 = some (.slice e2)) ∨ P.underlying t2 = some .string) {w : World} (hA : A w)
    (hs : Src P A size v 0 news) {base : Option Addr} {len cap : Nat} (hlc : len ≤ cap) (hb : base.isSome = true ∨ len = 0) : (Builtin.append_ #[t, t2] ty #[.slice base len cap, v]).run P w = .ok (.slice base len cap) w := by
  obtain ⟨hu, ⟨inf, z, hinf, hsz, hby, hz, hzs⟩, hpos⟩ := he
  have hn : news = [] := by have := hs.length; simpa using this
  subst hn
  have hf := hs.first w w hA rfl
  rcases ht2 with ⟨e2, hd2⟩ | hd2 <;> cases base <;>
    simp [Builtin.append_, run_underlying' hu, run_underlying' hd2, sizeOf, typeInfo, hinf, hsz, hs.len, hlc, hf, storeCells]
theorem append_exec {t t2 : TypeId} {x y : Operand} {a : Act} {w : World} {u v : Value} {d : Option Tmp} (hx : a.eval x = u) (hy : a.eval y = v) :
    (execOp a.eval ⟨d, .call { callee := .builtin .append, args := #[x, y], argTypes := #[t, t2] }, ty, pos, af, g⟩).run P w = ((Builtin.append_ #[t, t2] ty #[u, v]).run P w).andThen fun v w' => .ok (.value v) w' := by
  simp [execOp, resolve, invoke, builtin, hx, hy]
theorem OkOp.append {size bytes : Nat} {t2 : TypeId} (i : Nat) (he : Elem P t e size bytes) (ht2 : (∃ e2, P.underlying t2 = some (.slice e2)) ∨ P.underlying t2 = some .string)
    (hi : nth M i = some (b, .row cs e)) (hx : ev L x = some (.slice (some ⟨b, 0, none⟩) len cap)) (hy : ev L y = some v) (hn : d.blt n = true) (ho : Own cs len cap size xs) (hs : Src P (St X w0 M) size v m news)
    (hfit : (len + m) * bytes ≤ 140737488355328) (h63 : len + m ≤ 4611686018427387904) :
    OkOp (β := Nat × List Value × Nat) P n L (St X w0 M) ⟨some d, .call { callee := .builtin .append, args := #[x, y], argTypes := #[t, t2] }, ty, pos, af, g⟩
      (fun y => (d, .slice (some ⟨y.1, 0, none⟩) (len + m) y.2.2) :: L) (fun y w => Own y.2.1 (len + m) y.2.2 size (xs ++ news) ∧ St X w0 (setN M i (y.1, .row y.2.1 e)) w) := by
  intro a w ha hA next Q hnx
  unfold Oper.wp
  obtain ⟨b', cs', cap', w', hr, ho', hS'⟩ := run_append_any (ty := ty) he ht2 hA hA hi ho hs hfit h63
  rw [append_exec (ev_ok ha hx) (ev_ok ha hy), hr]
  exact hnx (b', cs', cap') _ _ (ha.put (by simpa using hn)) ⟨ho', hS'⟩
/-- append(x, y..): x a slice of ours. -/
theorem TL.append {size bytes : Nat} {t2 : TypeId} (i : Nat) (he : Elem P t e size bytes) (ht2 : (∃ e2, P.underlying t2 = some (.slice e2)) ∨ P.underlying t2 = some .string)
    (hi : nth M i = some (b, .row cs e)) (hx : ev L x = some (.slice (some ⟨b, 0, none⟩) len cap)) (hy : ev L y = some v) (hn : d.blt n = true) (hw : want ops L g = some true) (ho : Own cs len cap size xs) (hs : Src P (St X w0 M) size v m news)
    (hfit : (len + m) * bytes ≤ 140737488355328) (h63 : len + m ≤ 4611686018427387904)
    (h : ∀ b' cs' cap', Own cs' (len + m) cap' size (xs ++ news) → TL P f n R k ops rest ((d, .slice (some ⟨b', 0, none⟩) (len + m) cap') :: L) (St X w0 (setN M i (b', .row cs' e)))) :
    TL P f n R k ops (⟨some d, .call { callee := .builtin .append, args := #[x, y], argTypes := #[t, t2] }, ty, pos, af, g⟩ :: rest) L (St X w0 M) :=
  TL.op hw (OkOp.append i he ht2 hi hx hy hn ho hs hfit h63) fun q => TL.fact (fun w hw => hw.1) fun h1 => TL.mono (fun w hw => hw.2) (h q.1 q.2.1 q.2.2 h1)
theorem OkOp.appendNil {size bytes : Nat} {t2 : TypeId} (he : Elem P t e size bytes) (ht2 : (∃ e2, P.underlying t2 = some (.slice e2)) ∨ P.underlying t2 = some .string)
    (hx : ev L x = some (.slice none 0 0)) (hy : ev L y = some v) (hn : d.blt n = true) (hs : Src P (St X w0 M) size v m news)
    (h0 : 0 < m) (hfit : m * bytes ≤ 140737488355328) (h63 : m ≤ 4611686018427387904) :
    OkOp (β := Nat × List Value × Nat) P n L (St X w0 M) ⟨some d, .call { callee := .builtin .append, args := #[x, y], argTypes := #[t, t2] }, ty, pos, af, g⟩
      (fun y => (d, .slice (some ⟨y.1, 0, none⟩) m y.2.2) :: L) (fun y w => Own y.2.1 m y.2.2 size news ∧ St X w0 ((y.1, .row y.2.1 e) :: M) w) := by
  intro a w ha hA next Q hnx
  unfold Oper.wp
  obtain ⟨b', cs', cap', w', hr, ho', hS'⟩ := run_append_nil' (ty := ty) he ht2 hA hA hs h0 hfit h63
  rw [append_exec (ev_ok ha hx) (ev_ok ha hy), hr]
  exact hnx (b', cs', cap') _ _ (ha.put (by simpa using hn)) ⟨ho', hS'⟩
/-- append(x, y..): x nil, y not empty. -/
theorem TL.appendNil {size bytes : Nat} {t2 : TypeId} (he : Elem P t e size bytes) (ht2 : (∃ e2, P.underlying t2 = some (.slice e2)) ∨ P.underlying t2 = some .string)
    (hx : ev L x = some (.slice none 0 0)) (hy : ev L y = some v) (hn : d.blt n = true) (hw : want ops L g = some true) (hs : Src P (St X w0 M) size v m news)
    (h0 : 0 < m) (hfit : m * bytes ≤ 140737488355328) (h63 : m ≤ 4611686018427387904)
    (h : ∀ b' cs' cap', Own cs' m cap' size news → TL P f n R k ops rest ((d, .slice (some ⟨b', 0, none⟩) m cap') :: L) (St X w0 ((b', .row cs' e) :: M))) :
    TL P f n R k ops (⟨some d, .call { callee := .builtin .append, args := #[x, y], argTypes := #[t, t2] }, ty, pos, af, g⟩ :: rest) L (St X w0 M) :=
  TL.op hw (OkOp.appendNil he ht2 hx hy hn hs h0 hfit h63) fun q => TL.fact (fun w hw => hw.1) fun h1 => TL.mono (fun w hw => hw.2) (h q.1 q.2.1 q.2.2 h1)
/-- append(x, y..): y empty. -/
theorem Y.append0 {size bytes : Nat} {t2 : TypeId} (he : Elem P t e size bytes) (ht2 : (∃ e2, P.underlying t2 = some (.slice e2)) ∨ P.underlying t2 = some .string) {base : Option Addr}
    (hx : ev L x = some (.slice base len cap)) (hy : ev L y = some v) (hs : Src P A size v 0 news) (hlc : len ≤ cap) (hb : base.isSome = true ∨ len = 0) {d : Option Tmp} :
    Y P n L A ⟨d, .call { callee := .builtin .append, args := #[x, y], argTypes := #[t, t2] }, ty, pos, af, g⟩ (.slice base len cap) := by
  intro a w ha hA
  rw [append_exec (ev_ok ha hx) (ev_ok ha hy), run_append_nil0 he ht2 hA hs hlc hb]; rfl
/-- append(x, y..) where x lies in a block of ours (bytes) and there is room: in place. -/
theorem OkOp.appendIn {bytes off : Nat} {t2 e' : TypeId} (i : Nat) (he : Elem P t e 1 bytes) (ht2 : (∃ e2, P.underlying t2 = some (.slice e2)) ∨ P.underlying t2 = some .string)
    (hi : nth M i = some (b, .row cs e')) (hx : ev L x = some (.slice (some ⟨b, off, none⟩) len cap)) (hy : ev L y = some v) (hn : d.blt n = true) (hs : Src P (St X w0 M) 1 v m news)
    (hroom : len + m ≤ cap) (hfit : off + len + m ≤ cs.length) :
    OkOp (β := Unit) P n L (St X w0 M) ⟨some d, .call { callee := .builtin .append, args := #[x, y], argTypes := #[t, t2] }, ty, pos, af, g⟩
      (fun _ => (d, .slice (some ⟨b, off, none⟩) (len + m) cap) :: L) (fun _ => St X w0 (setN M i (b, .row (splice cs (off + len) news) e'))) := by
  intro a w ha hA next Q hnx
  unfold Oper.wp
  obtain ⟨hu, ⟨inf, z, hinf, hsz, hby, hz, hzs⟩, hpos⟩ := he
  have hl := hs.length
  have hst := run_storeCells_at P b (off + len) e' news 0 cs.toArray w (hA.block hi) (by simp; omega) hs.one
  simp only [Nat.add_zero] at hst
  have hf := hs.first w w hA rfl
  have hr : (Builtin.append_ #[t, t2] ty #[.slice (some ⟨b, off, none⟩) len cap, v]).run P w = .ok (.slice (some ⟨b, off, none⟩) (len + m) cap) (w.setRow b (splice cs (off + len) news).toArray) := by
    rcases ht2 with ⟨e2, hd2⟩ | hd2 <;>
      simp [Builtin.append_, run_underlying' hu, run_underlying' hd2, run_sizeOf' hinf, hsz, hs.len, hroom, hf, add_zero', hst, splice]
  rw [append_exec (ev_ok ha hx) (ev_ok ha hy), hr]
  exact hnx () _ _ (ha.put (by simpa using hn)) (hA.setRow hi)
theorem TL.appendIn {bytes off : Nat} {t2 e' : TypeId} (i : Nat) (he : Elem P t e 1 bytes) (ht2 : (∃ e2, P.underlying t2 = some (.slice e2)) ∨ P.underlying t2 = some .string)
    (hi : nth M i = some (b, .row cs e')) (hx : ev L x = some (.slice (some ⟨b, off, none⟩) len cap)) (hy : ev L y = some v) (hn : d.blt n = true) (hw : want ops L g = some true) (hs : Src P (St X w0 M) 1 v m news)
    (hroom : len + m ≤ cap) (hfit : off + len + m ≤ cs.length)
    (h : TL P f n R k ops rest ((d, .slice (some ⟨b, off, none⟩) (len + m) cap) :: L) (St X w0 (setN M i (b, .row (splice cs (off + len) news) e')))) :
    TL P f n R k ops (⟨some d, .call { callee := .builtin .append, args := #[x, y], argTypes := #[t, t2] }, ty, pos, af, g⟩ :: rest) L (St X w0 M) :=
  TL.op hw (OkOp.appendIn i he ht2 hi hx hy hn hs hroom hfit) fun _ => h
end app
end
end X
namespace X

def elemOk (P : Program) (t e size bytes : Nat) : Bool :=
  (match P.underlying t with | some (.slice e') => e == e' | _ => false) &&
  (match P.info? e with | some i => i.size == size && i.bytes == bytes && (match i.zero with | some z => z.cells.size == size | none => false) | none => false) && size != 0
theorem elem_of {P : Program} {t e size bytes : Nat} (h : elemOk P t e size bytes = true) : Elem P t e size bytes := by
  unfold elemOk at h
  simp only [Bool.and_eq_true, bne_iff_ne, ne_eq] at h
  obtain ⟨⟨h1, h2⟩, h3⟩ := h
  refine ⟨?_, ?_, by omega⟩
  · split at h1
    · rename_i e' hu; simp at h1; rw [h1]; exact hu
    · cases h1
  · split at h2
    · rename_i i hi
      simp only [Bool.and_eq_true, beq_iff_eq] at h2
      obtain ⟨⟨ha, hb⟩, hc⟩ := h2
      split at hc
      · rename_i z hz; simp at hc; exact ⟨i, z, hi, ha, hb, hz, hc⟩
      · cases hc
    · cases h2

/- ---------- fill ---------- -/
theorem splice_length {cs l : List Value} {off : Nat} (h : off + l.length ≤ cs.length) : (splice cs off l).length = cs.length := by
  simp [splice]; omega
theorem splice_get {cs l : List Value} {off : Nat} (h : off + l.length ≤ cs.length) (i : Nat) : (splice cs off l)[i]? = if off ≤ i ∧ i < off + l.length then l[i - off]? else cs[i]? := by
  unfold splice
  rw [List.append_assoc]
  have e2 : (List.take off cs).length = off := by simp; omega
  rcases Nat.lt_or_ge i off with hx | hx
  · rw [if_neg (by omega), List.getElem?_append_left (by omega), List.getElem?_take, if_pos hx]
  · rw [List.getElem?_append_right (by omega), e2]
    rcases Nat.lt_or_ge i (off + l.length) with hx2 | hx2
    · rw [if_pos ⟨hx, hx2⟩, List.getElem?_append_left (by omega)]
    · rw [if_neg (by omega), List.getElem?_append_right (by omega), List.getElem?_drop]
      congr 1; omega
theorem splice_cons {cs r : List Value} {v : Value} {off : Nat} (h : off + (r.length + 1) ≤ cs.length) : splice (cs.set off v) (off + 1) r = splice cs off (v :: r) := by
  apply List.ext_getElem?
  intro i
  rw [splice_get (by simp; omega), splice_get (by simp; omega)]
  simp only [List.length_cons]
  rcases Nat.lt_trichotomy i off with hi | hi | hi
  · rw [if_neg (by omega), if_neg (by omega), List.getElem?_set, if_neg (by omega)]
  · subst hi
    rw [if_neg (by omega), if_pos (by omega), List.getElem?_set, if_pos rfl, if_pos (by omega), Nat.sub_self]; rfl
  · obtain ⟨q, rfl⟩ : ∃ q, i = off + 1 + q := ⟨i - (off + 1), by omega⟩
    have hset : (cs.set off v)[off + 1 + q]? = cs[off + 1 + q]? := by rw [List.getElem?_set, if_neg (by omega)]
    by_cases hq : q < r.length
    · rw [if_pos (by omega), if_pos (by omega), show off + 1 + q - (off + 1) = q by omega, show off + 1 + q - off = q + 1 by omega, List.getElem?_cons_succ]
    · rw [if_neg (by omega), if_neg (by omega), hset]
theorem splice_splice {cs a b : List Value} {off : Nat} (h : off + a.length + b.length ≤ cs.length) : splice (splice cs off a) (off + a.length) b = splice cs off (a ++ b) := by
  apply List.ext_getElem?
  intro i
  rw [splice_get (by rw [splice_length (by omega)]; exact h), splice_get (by omega), splice_get (by simp; omega)]
  simp only [List.length_append]
  rcases Nat.lt_or_ge i off with hi | hi
  · rw [if_neg (by omega), if_neg (by omega), if_neg (by omega)]
  · rcases Nat.lt_or_ge i (off + a.length) with h2 | h2
    · rw [if_neg (by omega), if_pos (by omega), if_pos (by omega), List.getElem?_append_left (by omega)]
    · rcases Nat.lt_or_ge i (off + a.length + b.length) with h3 | h3
      · rw [if_pos (by omega), if_pos (by omega), List.getElem?_append_right (by omega)]
        congr 1; omega
      · rw [if_neg (by omega), if_neg (by omega), if_neg (by omega)]
theorem splice_all {cs a : List Value} (h : a.length = cs.length) : splice cs 0 a = a := by
  unfold splice; rw [List.drop_eq_nil_of_le (by omega)]; simp
theorem foldl_set (l : List Value) : ∀ (cs : List Value) (off : Nat), off + l.length ≤ cs.length → l.toArray.zipIdx.foldl (fun (cs : Array Value) (c, j) => cs.setIfInBounds (off + j) c) cs.toArray = (splice cs off l).toArray := by
  have key : ∀ (l : List Value) (cs : List Value) (off m : Nat), off + m + l.length ≤ cs.length →
      (l.zipIdx m).foldl (fun (cs : Array Value) (c, j) => cs.setIfInBounds (off + j) c) cs.toArray = (splice cs (off + m) l).toArray := by
    intro l
    induction l with
    | nil => intro cs off m h; simp [splice]
    | cons v r ih =>
      intro cs off m h
      simp only [List.length_cons] at h
      simp only [List.zipIdx_cons, List.foldl_cons, List.setIfInBounds_toArray]
      rw [ih (cs.set (off + m) v) off (m + 1) (by simp at h ⊢; omega)]
      congr 1
      exact splice_cons (by omega)
  intro cs off h
  have := key l cs off 0 (by omega)
  simpa [← Array.foldl_toList, Array.toList_zipIdx] using this

/-- The cells of values, one behind the other. -/
def flatC : List Value → List Value
  | [] => []
  | v :: r => v.cells.toList ++ flatC r
theorem flatC_length {size : Nat} : ∀ {vs : List Value}, (∀ v ∈ vs, v.cells.size = size) → (flatC vs).length = vs.length * size
  | [], _ => by simp [flatC]
  | v :: r, h => by
    simp only [flatC, List.length_append, List.length_cons, flatC_length (vs := r) fun u hu => h u (List.mem_cons_of_mem _ hu)]
    have := h v List.mem_cons_self
    rw [Array.length_toList, this, Nat.add_mul]; omega
def partsFrom : Nat → List Value → List (Nat × Value)
  | _, [] => []
  | i, v :: r => (i, v) :: partsFrom (i + 1) r
theorem fill_seq {place : Nat → Option (Nat × Nat)} : ∀ (vs : List Value) (i off : Nat) (cs : List Value),
    (∀ j v, nth vs j = some v → place (i + j) = some (off + (flatC (vs.take j)).length, v.cells.size)) → off + (flatC vs).length ≤ cs.length →
    Instr.fill place cs.toArray (partsFrom i vs) = some (splice cs off (flatC vs)).toArray
  | [], i, off, cs, _, _ => by simp [partsFrom, Instr.fill, flatC, splice]
  | v :: r, i, off, cs, hp, hl => by
    have h0 := hp 0 v rfl
    simp only [Nat.add_zero, List.take_zero, flatC, List.length_nil] at h0
    simp only [flatC, List.length_append, Array.length_toList] at hl
    simp only [partsFrom, Instr.fill, h0]
    rw [if_neg (by simp; omega)]
    have hfs := foldl_set v.cells.toList cs off (by simp; omega)
    simp only [Array.toArray_toList] at hfs
    rw [hfs]
    have hlen : (splice cs off v.cells.toList).length = cs.length := by simp [splice]; omega
    rw [fill_seq r (i + 1) (off + v.cells.size) (splice cs off v.cells.toList) (fun j u hj => by
      have := hp (j + 1) u (by simpa [nth] using hj)
      rw [show i + 1 + j = i + (j + 1) by omega, this]
      simp only [List.take_succ_cons, flatC, List.length_append, Array.length_toList]
      congr 2; omega) (by rw [hlen]; omega)]
    congr 2
    have := splice_splice (cs := cs) (a := v.cells.toList) (b := flatC r) (off := off) (by simp; omega)
    simpa [flatC] using this

section
variable {P : Program} {f : FuncId} {n : Nat} {R : Ending → World → Prop} {k : List Item} {L : Fr} {A : World → Prop} {X : List Nat} {w0 : World} {M : Mem} {ops : Array Oper} {rest : List Oper} {tb : Tab} {sz : Szs}

def pEv (L : Fr) : List (Nat × Operand) → Nat → Option (List Value)
  | [], _ => some []
  | (i, x) :: r, j => bif i.beq j then match ev L x with
    | some v => match pEv L r (j + 1) with
      | some vs => some (v :: vs)
      | none => none
    | none => none else none
theorem pEv_ok {a : Act} (h : Has n a L) : ∀ {ps : List (Nat × Operand)} {j : Nat} {vs : List Value}, pEv L ps j = some vs → ps.map (fun (i, x) => (i, a.eval x)) = partsFrom j vs
  | [], _, vs, he => by simp [pEv] at he; subst he; rfl
  | (i, x) :: r, j, vs, he => by
    simp only [pEv] at he
    cases hb : i.beq j
    · rw [hb] at he; cases he
    · rw [hb] at he
      have hij : i = j := Nat.eq_of_beq_eq_true hb
      subst hij
      simp only [cond_true] at he
      split at he
      · rename_i v hv
        split at he
        · rename_i us hu
          simp at he; subst he
          simp [partsFrom, ev_ok h hv, pEv_ok h hu]
        · cases he
      · cases he
section bs
variable {t e : TypeId} {d : Nat} {ty : TypeId} {pos : String} {af : Array Edge} {g : Option (Nat × Bool)} {len : Nat} {ps : Array (Nat × Operand)} {vs cs : List Value}
theorem run_buildSlice {size bytes : Nat} (he : Elem P t e size bytes) {vs : List Value} (hc : ∀ v ∈ vs, v.cells.size = size) (hl : vs.length * size ≤ 16777216) (w : World) :
    (Instr.buildSlice t vs.length (partsFrom 0 vs).toArray).run P w = .ok (.slice (some ⟨w.heap.size, 0, none⟩) vs.length vs.length) (w.alloc (.cells (flatC vs).toArray e)) := by
  obtain ⟨hu, ⟨inf, z, hinf, hsz, hby, hz, hzs⟩, hpos⟩ := he
  have hfl := flatC_length hc
  have key : ∀ (zz : Array Value), Instr.fill (fun i => some (i * size, size)) ((Array.range (vs.length * size)).map (zz[· % zz.size]!)) (partsFrom 0 vs) = some (flatC vs).toArray := by
    intro zz
    have hlen : ((Array.range (vs.length * size)).map (zz[· % zz.size]!)).toList.length = vs.length * size := by simp
    have := fill_seq (place := fun i => some (i * size, size)) vs 0 0 ((Array.range (vs.length * size)).map (zz[· % zz.size]!)).toList (fun j v hj => by
      have hm := hc v (nth_mem hj)
      have hjl : j < vs.length := by rw [nth_eq] at hj; exact (List.getElem?_eq_some_iff.1 hj).1
      rw [flatC_length (fun u hu => hc u (List.mem_of_mem_take hu)), hm]
      rw [List.length_take, Nat.min_eq_left (by omega), Nat.zero_add, Nat.zero_add]) (by rw [hfl, hlen]; omega)
    rw [Array.toArray_toList] at this
    rw [this]
    congr 2
    unfold splice
    rw [hfl]
    have : List.drop (0 + vs.length * size) ((Array.range (vs.length * size)).map (zz[· % zz.size]!)).toList = [] := List.drop_eq_nil_of_le (by rw [hlen]; omega)
    rw [this]; simp
  have hno : ¬ (16777216 < vs.length * size) := by omega
  by_cases h0 : vs.length * size = 0
  · have hk := key #[]
    rw [h0] at hk
    simp at hk
    simp [Instr.buildSlice, run_underlying' hu, run_sizeOf' hinf, hsz, hno, h0, newRow, hk]
  · simp [Instr.buildSlice, run_underlying' hu, run_sizeOf' hinf, hsz, hno, h0, newRow, zeroValue, typeInfo, hinf, hz, key]
theorem OkOp.bs {size bytes : Nat} (he : Elem P t e size bytes) (hp : pEv L ps.toList 0 = some vs) (hlen : vs.length = len) (hc : ∀ v ∈ vs, v.cells.size = size) (hcs : flatC vs = cs) (hl : vs.length * size ≤ 16777216) (hn : d.blt n = true) :
    OkOp (β := Nat) P n L (St X w0 M) ⟨some d, .buildSlice t len ps, ty, pos, af, g⟩ (fun b => (d, .slice (some ⟨b, 0, none⟩) len len) :: L) (fun b => St X w0 ((b, .row cs e) :: M)) := by
  intro a w ha hA next Q hnx
  unfold Oper.wp
  have hps : ps.map (fun (i, x) => (i, a.eval x)) = (partsFrom 0 vs).toArray := by
    rw [← pEv_ok ha hp, ← Array.toList_map]
  subst hlen hcs
  simp only [execOp, hps, Sem.run_bind, run_buildSlice he hc hl, Result.andThen_ok, Sem.run_pure, Oper.upon]
  exact hnx w.heap.size _ _ (ha.put (by simpa using hn)) (hA.alloc (.row (flatC vs) e))
theorem flatC_one : ∀ {vs : List Value}, (∀ v ∈ vs, v.oneCell' = true) → flatC vs = vs
  | [], _ => rfl
  | v :: r, h => by
    rw [flatC, flatC_one fun u hu => h u (List.mem_cons_of_mem _ hu), cells_one (h v List.mem_cons_self)]; rfl
/-- []T{x, y, ..}, T of one cell. -/
theorem TL.bs {bytes : Nat} (he : Elem P t e 1 bytes) (hp : pEv L ps.toList 0 = some vs) (hlen : vs.length = len) (h1 : ∀ v ∈ vs, v.oneCell' = true) (hl : vs.length ≤ 16777216) (hn : d.blt n = true) (hw : want ops L g = some true)
    (h : ∀ b, TL P f n R k ops rest ((d, .slice (some ⟨b, 0, none⟩) len len) :: L) (St X w0 ((b, .row vs e) :: M))) : TL P f n R k ops (⟨some d, .buildSlice t len ps, ty, pos, af, g⟩ :: rest) L (St X w0 M) :=
  TL.op hw (OkOp.bs he hp hlen (fun v hv => by rw [cells_one (h1 v hv)]; rfl) (flatC_one h1) (by omega) hn) h
/-- []T{x}, T a struct. -/
theorem TL.bsA {size bytes : Nat} (he : Elem P t e size bytes) (hp : pEv L ps.toList 0 = some [.agg cs.toArray]) (hc : cs.length = size) (hl : size ≤ 16777216) (hn : d.blt n = true) (hw : want ops L g = some true)
    (h : ∀ b, TL P f n R k ops rest ((d, .slice (some ⟨b, 0, none⟩) 1 1) :: L) (St X w0 ((b, .row cs e) :: M))) : TL P f n R k ops (⟨some d, .buildSlice t 1 ps, ty, pos, af, g⟩ :: rest) L (St X w0 M) :=
  TL.op hw (OkOp.bs he hp rfl (by simp [Value.cells, hc]) (by simp [flatC, Value.cells]) (by simpa using hl) hn) h
end bs
end
end X
namespace X

def keys (M : Mem) : List Nat := M.map (·.1)
/-- A contract: from the blocks Mc (which alone may be written) the call hands back v, the blocks are M', and all else that was there is as it was. -/
def Ct {β : Type} (P : Program) (fn : FuncId) (args : List Value) (Mc : Mem) (pre : World → Prop) (v : β → Value) (post : β → World → Prop) (M' : β → Mem) : Prop :=
  ∀ w, St (keys Mc) w Mc w → pre w → Calls P fn args.toArray w fun e w' => ∃ y, e = .returned (v y) ∧ post y w' ∧ St (keys Mc) w (M' y) w'

section
variable {X : List Nat} {w0 w w' : World} {M : Mem}
theorem St.pick0 (h : St X w0 M w) : St (keys []) w [] w := ⟨Ext.refl _ _, by simp, by simp, by simp⟩
theorem St.pick1 (h : St X w0 M w) {i : Nat} {p : Nat × Ob} (hi : nth M i = some p) : St (keys [p]) w [p] w :=
  ⟨Ext.refl _ _, by simpa using h.at_ _ (nth_mem hi), by simp, by simp [keys]⟩
theorem St.pick2 (h : St X w0 M w) {i j : Nat} {p q : Nat × Ob} (hi : nth M i = some p) (hj : nth M j = some q) (hne : i ≠ j) : St (keys [p, q]) w [p, q] w :=
  ⟨Ext.refl _ _, by simpa using ⟨h.at_ _ (nth_mem hi), h.at_ _ (nth_mem hj)⟩, by simpa using h.ne hi hj hne, by simp [keys]⟩
theorem St.pick3 (h : St X w0 M w) {i j l : Nat} {p q r : Nat × Ob} (hi : nth M i = some p) (hj : nth M j = some q) (hl : nth M l = some r) (h1 : i ≠ j) (h2 : i ≠ l) (h3 : j ≠ l) : St (keys [p, q, r]) w [p, q, r] w :=
  ⟨Ext.refl _ _, by simpa using ⟨h.at_ _ (nth_mem hi), h.at_ _ (nth_mem hj), h.at_ _ (nth_mem hl)⟩, by simpa using ⟨⟨h.ne hi hj h1, h.ne hi hl h2⟩, h.ne hj hl h3⟩, by simp [keys]⟩
/-- Entries that the call did not touch stay; those that it did, and what is new, are given by it. -/
theorem St.frame (h : St X w0 M w) {Mc Mr Mn : Mem} (hsub : ∀ p ∈ Mc, p ∈ M) (k : St (keys Mc) w Mn w') (hr : ∀ p ∈ Mr, p ∈ M ∧ p.1 ∉ keys Mc) (hrn : (Mr.map (·.1)).Nodup) :
    St X w0 (Mn ++ Mr) w' := by
  have hold : ∀ p ∈ Mr, w'.heap[p.1]? = some p.2.obj := fun p hp => by
    have h1 := h.at_ p (hr p hp).1
    rw [k.ext.same p.1 (lt_of_block h1) (hr p hp).2]; exact h1
  refine ⟨h.ext.trans k.ext (fun _ hx => hx) (fun y hy => ?_), fun p hp => ?_, ?_, fun p hp => ?_⟩
  · obtain ⟨p, hp, rfl⟩ := List.mem_map.1 hy
    exact h.mine p (hsub p hp)
  · rcases List.mem_append.1 hp with hp | hp
    · exact k.at_ p hp
    · exact hold p hp
  · rw [List.map_append, List.nodup_append]
    refine ⟨k.nodup, hrn, fun a ha b hb e => ?_⟩
    obtain ⟨p, hp, rfl⟩ := List.mem_map.1 ha
    obtain ⟨q, hq, rfl⟩ := List.mem_map.1 hb
    rcases k.mine p hp with hm | hm
    · exact (hr q hq).2 (e ▸ hm)
    · have := lt_of_block (h.at_ q (hr q hq).1)
      omega
  · rcases List.mem_append.1 hp with hp | hp
    · rcases k.mine p hp with hm | hm
      · obtain ⟨q, hq, he⟩ := List.mem_map.1 hm
        rw [← he]; exact h.mine q (hsub q hq)
      · exact .inr (Nat.le_trans h.ext.size hm)
    · exact h.mine p (hr p hp).1
theorem St.perm {M' : Mem} (h : St X w0 M w) (hp : M'.Perm M) : St X w0 M' w :=
  ⟨h.ext, fun p hm => h.at_ p (hp.subset hm), (hp.map _).nodup_iff.2 h.nodup, fun p hm => h.mine p (hp.subset hm)⟩
theorem setN_perm {i : Nat} {p : Nat × Ob} : ∀ {M : Mem}, nth M i ≠ none → (setN M i p).Perm (p :: M.eraseIdx i) := by
  induction i with
  | zero => intro M h; cases M with
    | nil => simp [nth] at h
    | cons x r => simp [setN]
  | succ i ih => intro M h; cases M with
    | nil => simp [nth] at h
    | cons x r =>
      simp only [setN, List.eraseIdx_cons_succ]
      exact (List.Perm.cons x (ih (M := r) (by simpa [nth] using h))).trans (List.Perm.swap _ _ _)
theorem mem_erase_ne (h : St X w0 M w) {i : Nat} {p q : Nat × Ob} (hi : nth M i = some p) (hq : q ∈ M.eraseIdx i) : q ∈ M ∧ q.1 ≠ p.1 := by
  obtain ⟨j, hj⟩ := List.getElem?_of_mem hq
  rw [List.getElem?_eraseIdx] at hj
  split at hj
  · exact ⟨List.mem_of_getElem? hj, h.ne (by rw [nth_eq]; exact hj) hi (by omega)⟩
  · exact ⟨List.mem_of_getElem? hj, h.ne (by rw [nth_eq]; exact hj) hi (by omega)⟩
theorem St.frame0 (h : St X w0 M w) {E : Mem} (k : St (keys []) w E w') : St X w0 (E ++ M) w' :=
  h.frame (Mc := []) (by simp) k (fun p hp => ⟨hp, by simp [keys]⟩) h.nodup
theorem St.frame1 (h : St X w0 M w) {i : Nat} {p p' : Nat × Ob} {E : Mem} (hi : nth M i = some p) (k : St (keys [p]) w (p' :: E) w') : St X w0 (E ++ setN M i p') w' := by
  have h1 := h.frame (Mc := [p]) (Mr := M.eraseIdx i) (by simpa using nth_mem hi) k (fun q hq => ⟨(mem_erase_ne h hi hq).1, by simpa [keys] using (mem_erase_ne h hi hq).2⟩)
    (h.nodup.sublist ((List.eraseIdx_sublist _ _).map _))
  refine h1.perm ?_
  refine ((List.Perm.refl E).append (setN_perm (by rw [hi]; simp))).trans ?_
  exact List.perm_middle
theorem nth_setN_ne {α : Type} {l : List α} {i j : Nat} {x : α} (h : i ≠ j) : nth (setN l i x) j = nth l j := by
  rw [nth_eq, nth_eq, setN_eq, List.getElem?_set, if_neg h]
theorem St.frame2 (h : St X w0 M w) {i j : Nat} {p q p' q' : Nat × Ob} {E : Mem} (hi : nth M i = some p) (hj : nth M j = some q) (hne : i ≠ j) (k : St (keys [p, q]) w (p' :: q' :: E) w') : St X w0 (E ++ setN (setN M i p') j q') w' := by
  have hmr : ∀ r ∈ (M.eraseIdx i), r.1 ≠ q.1 → r ∈ M ∧ r.1 ∉ keys [p, q] := fun r hr hrq => ⟨(mem_erase_ne h hi hr).1, by simpa [keys] using ⟨(mem_erase_ne h hi hr).2, hrq⟩⟩
  let Mr := M.filter (fun r => decide (r.1 ≠ p.1 ∧ r.1 ≠ q.1))
  have h1 := h.frame (Mc := [p, q]) (Mr := Mr) (by simpa using ⟨nth_mem hi, nth_mem hj⟩) k (fun r hr => by
    obtain ⟨a, b⟩ := List.mem_filter.1 hr
    simp at b
    exact ⟨a, by simpa [keys] using b⟩) (h.nodup.sublist (List.filter_sublist.map _))
  have hperm : ∀ {M : Mem} {i : Nat} {p : Nat × Ob}, (M.map (·.1)).Nodup → nth M i = some p → (M.eraseIdx i) = M.filter (fun r => decide (r.1 ≠ p.1)) := by
    intro M
    induction M with
    | nil => intro i p _ h; cases h
    | cons x r ih =>
      intro i p hn h
      cases i with
      | zero =>
        simp [nth] at h; subst h
        simp only [List.eraseIdx_cons_zero, List.filter_cons]
        simp
        simp at hn
        symm
        rw [List.filter_eq_self]
        intro y hy
        simp
        intro e
        exact hn.1 y.2 (by rw [← e]; exact hy)
      | succ i =>
        simp only [List.map_cons, List.nodup_cons] at hn
        simp only [nth] at h
        have hx : x.1 ≠ p.1 := fun e => hn.1 (e ▸ List.mem_map_of_mem (nth_mem h))
        simp only [List.eraseIdx_cons_succ, List.filter_cons, ih hn.2 h]
        simp [hx]
  refine h1.perm ?_
  have e1 : nth (setN M i p') j = some q := by rw [nth_setN_ne hne]; exact hj
  have p1 : (setN (setN M i p') j q').Perm (q' :: (setN M i p').eraseIdx j) := setN_perm (by rw [e1]; simp)
  have e2 : ((setN M i p').eraseIdx j).Perm (p' :: Mr) := by
    have a1 : (setN M i p').Perm (p' :: M.eraseIdx i) := setN_perm (by rw [hi]; simp)
    have a2 : (setN M i p').Perm (q :: (setN M i p').eraseIdx j) := by
      have := setN_perm (M := setN M i p') (i := j) (p := q) (by rw [e1]; simp)
      rw [show setN (setN M i p') j q = setN M i p' from ?_] at this
      · exact this
      · rw [setN_eq]
        apply List.ext_getElem?
        intro x
        rw [List.getElem?_set]
        split
        · rename_i e; subst e
          rw [nth_eq] at e1
          rw [e1, if_pos (List.getElem?_eq_some_iff.1 e1).1]
        · rfl
    have a3 : (M.eraseIdx i).Perm (q :: Mr) := by
      have b1 := hperm h.nodup hi
      have b2 := hperm h.nodup hj
      have b3 : (M.eraseIdx j).length + 1 = M.length := by
        have : j < M.length := by rw [nth_eq] at hj; exact (List.getElem?_eq_some_iff.1 hj).1
        rw [List.length_eraseIdx, if_pos this]; omega
      have hqm : q ∈ M.eraseIdx i := by rw [b1]; exact List.mem_filter.2 ⟨nth_mem hj, by simpa using (h.ne hj hi (Ne.symm hne))⟩
      obtain ⟨m, hm⟩ := List.getElem?_of_mem hqm
      have hn2 : ((M.eraseIdx i).map (·.1)).Nodup := h.nodup.sublist ((List.eraseIdx_sublist _ _).map _)
      have b4 := hperm (M := M.eraseIdx i) (i := m) (p := q) hn2 (by rw [nth_eq]; exact hm)
      have b5 : (M.eraseIdx i).Perm (q :: (M.eraseIdx i).eraseIdx m) := by
        have := setN_perm (M := M.eraseIdx i) (i := m) (p := q) (by rw [nth_eq, hm]; simp)
        rw [setN_eq] at this
        have e : (M.eraseIdx i).set m q = M.eraseIdx i := by
          apply List.ext_getElem?
          intro x
          rw [List.getElem?_set]
          split
          · rename_i e; subst e; rw [hm, if_pos (List.getElem?_eq_some_iff.1 hm).1]
          · rfl
        rw [e] at this; exact this
      rw [b4, b1, List.filter_filter] at b5
      rw [b1]
      refine b5.trans (List.Perm.cons _ ?_)
      rw [show Mr = M.filter (fun r => decide (r.1 ≠ p.1 ∧ r.1 ≠ q.1)) from rfl]
      refine List.Perm.of_eq (List.filter_congr fun r hr => ?_)
      by_cases c1 : r.1 = p.1 <;> by_cases c2 : r.1 = q.1 <;> simp [c1, c2]
    have := a2.symm.trans (a1.trans (List.Perm.cons p' a3))
    exact ((this.trans (List.Perm.swap _ _ _))).cons_inv
  refine ((List.Perm.refl E).append (p1.trans (List.Perm.cons q' e2))).trans ?_
  refine List.perm_append_comm.trans ?_
  simp only [List.cons_append]
  refine (List.Perm.swap _ _ _).trans ?_
  exact List.Perm.cons _ (List.Perm.cons _ List.perm_append_comm)
end
end X
namespace X
section
variable {P : Program} {f : FuncId} {n : Nat} {R : Ending → World → Prop} {k : List Item} {L : Fr} {A : World → Prop} {X : List Nat} {w0 : World} {M : Mem} {ops : Array Oper} {rest : List Oper} {tb : Tab} {sz : Szs}

theorem TL.rebase (hM : ∀ w, A w → St X w0 M w) (h : ∀ w1, A w1 → TL P f n R k ops rest L (St (keys M) w1 M)) : TL P f n R k ops rest L A :=
  ⟨fun a w ha hA => (h w hA).go a w ha (hM w hA).rebase⟩
theorem T.rebase (hM : ∀ w, A w → St X w0 M w) (h : ∀ w1, A w1 → T P f n R k L (St (keys M) w1 M)) : T P f n R k L A :=
  ⟨fun a w ha hA => (h w hA).go a w ha (hM w hA).rebase⟩
theorem T.ex {β : Type} {A : β → World → Prop} (h : ∀ y, T P f n R k L (A y)) : T P f n R k L (fun w => ∃ y, A y w) := ⟨fun a w ha ⟨y, hA⟩ => (h y).go a w ha hA⟩
theorem T.and {p : Prop} (h : p → T P f n R k L A) : T P f n R k L (fun w => p ∧ A w) := ⟨fun a w ha hA => (h hA.1).go a w ha hA.2⟩
theorem TL.and {p : Prop} (h : p → TL P f n R k ops rest L A) : TL P f n R k ops rest L (fun w => p ∧ A w) := ⟨fun a w ha hA => (h hA.1).go a w ha hA.2⟩

section calls
variable {fn : FuncId} {xs : Array Operand} {ts : Array TypeId} {d : Nat} {ty : TypeId} {pos : String} {af : Array Edge} {g : Option (Nat × Bool)} {vs : List Value} {β : Type} {v : β → Value} {pre : World → Prop} {post : β → World → Prop} {M' : β → Mem}
theorem use0 (hc : Ct P fn vs [] pre v post M') (hpre : ∀ w, St X w0 M w → pre w) :
    ∀ w, St X w0 M w → Calls P fn vs.toArray w fun e w' => ∃ y, e = .returned (v y) ∧ (post y w' ∧ St X w0 (M' y ++ M) w') :=
  fun w hA => (hc w hA.pick0 (hpre w hA)).mono fun _ _ ⟨y, he, hp, hs⟩ => ⟨y, he, hp, hA.frame0 hs⟩
theorem use1 {p : Nat × Ob} {p' : β → Nat × Ob} {E : β → Mem} (i : Nat) (hi : nth M i = some p) (hc : Ct P fn vs [p] pre v post (fun y => p' y :: E y)) (hpre : ∀ w, St X w0 M w → pre w) :
    ∀ w, St X w0 M w → Calls P fn vs.toArray w fun e w' => ∃ y, e = .returned (v y) ∧ (post y w' ∧ St X w0 (E y ++ setN M i (p' y)) w') :=
  fun w hA => (hc w (hA.pick1 hi) (hpre w hA)).mono fun _ _ ⟨y, he, hp, hs⟩ => ⟨y, he, hp, hA.frame1 hi hs⟩
theorem use2 {p q : Nat × Ob} {p' q' : β → Nat × Ob} {E : β → Mem} (i j : Nat) (hi : nth M i = some p) (hj : nth M j = some q) (hne : i ≠ j) (hc : Ct P fn vs [p, q] pre v post (fun y => p' y :: q' y :: E y)) (hpre : ∀ w, St X w0 M w → pre w) :
    ∀ w, St X w0 M w → Calls P fn vs.toArray w fun e w' => ∃ y, e = .returned (v y) ∧ (post y w' ∧ St X w0 (E y ++ setN (setN M i (p' y)) j (q' y)) w') :=
  fun w hA => (hc w (hA.pick2 hi hj hne) (hpre w hA)).mono fun _ _ ⟨y, he, hp, hs⟩ => ⟨y, he, hp, hA.frame2 hi hj hne hs⟩
/-- A call by contract that touches none of our blocks. -/
theorem TL.call0 (hcall : ∀ (as : Array Value) w, (callFunc fn as).run P w = .ok (.enter fn as) w) (hx : evs L xs.toList = some vs) (hn : d.blt n = true) (hw : want ops L g = some true)
    (hc : Ct P fn vs [] pre v post M') (hpre : ∀ w, St X w0 M w → pre w) (h : ∀ y, TL P f n R k ops rest ((d, v y) :: L) (fun w => post y w ∧ St X w0 (M' y ++ M) w)) :
    TL P f n R k ops (⟨some d, .call { callee := .value (.func fn), args := xs, argTypes := ts }, ty, pos, af, g⟩ :: rest) L (St X w0 M) :=
  TL.call hcall hx hn hw (use0 hc hpre) h
theorem TL.call1 {p : Nat × Ob} {p' : β → Nat × Ob} {E : β → Mem} (i : Nat) (hcall : ∀ (as : Array Value) w, (callFunc fn as).run P w = .ok (.enter fn as) w) (hx : evs L xs.toList = some vs) (hn : d.blt n = true) (hw : want ops L g = some true)
    (hi : nth M i = some p) (hc : Ct P fn vs [p] pre v post (fun y => p' y :: E y)) (hpre : ∀ w, St X w0 M w → pre w) (h : ∀ y, TL P f n R k ops rest ((d, v y) :: L) (fun w => post y w ∧ St X w0 (E y ++ setN M i (p' y)) w)) :
    TL P f n R k ops (⟨some d, .call { callee := .value (.func fn), args := xs, argTypes := ts }, ty, pos, af, g⟩ :: rest) L (St X w0 M) :=
  TL.call hcall hx hn hw (use1 i hi hc hpre) h
theorem TL.call2 {p q : Nat × Ob} {p' q' : β → Nat × Ob} {E : β → Mem} (i j : Nat) (hcall : ∀ (as : Array Value) w, (callFunc fn as).run P w = .ok (.enter fn as) w) (hx : evs L xs.toList = some vs) (hn : d.blt n = true) (hw : want ops L g = some true)
    (hi : nth M i = some p) (hj : nth M j = some q) (hne : i ≠ j) (hc : Ct P fn vs [p, q] pre v post (fun y => p' y :: q' y :: E y)) (hpre : ∀ w, St X w0 M w → pre w)
    (h : ∀ y, TL P f n R k ops rest ((d, v y) :: L) (fun w => post y w ∧ St X w0 (E y ++ setN (setN M i (p' y)) j (q' y)) w)) :
    TL P f n R k ops (⟨some d, .call { callee := .value (.func fn), args := xs, argTypes := ts }, ty, pos, af, g⟩ :: rest) L (St X w0 M) :=
  TL.call hcall hx hn hw (use2 i j hi hj hne hc hpre) h
end calls

/- ---------- regions that draw their order ---------- -/
/-- A schedule: quiet operations (which yield the same in every world of S) as soon as they may come, the others where nothing else can come up. -/
def chk (ops : Array Oper) : List (Nat × Bool) → Array Bool → Bool
  | [], listed => (Region.ready .any ops listed).isEmpty
  | (i, q) :: r, listed => (Region.ready .any ops listed).contains i && (if q then Region.free .any ops listed i else Region.ready .any ops listed == [i]) && chk ops r (listed.setIfInBounds i true)
structure TS (P : Program) (f : FuncId) (n : Nat) (R : Ending → World → Prop) (k : List Item) (ops : Array Oper) (S : World → Prop) (sched : List (Nat × Bool)) (L : Fr) (A : World → Prop) : Prop where
  go : Region.noSelect ops = true → ∀ fuel listed, chk ops sched listed = true → sched.length ≤ fuel → ∀ a w, Has n a L → A w → S w → wpAnyH P .any ops (Qn P f R k) S fuel listed a w
variable {S : World → Prop} {sched : List (Nat × Bool)}
theorem TS.nil (h : T P f n R k L A) : TS P f n R k ops S [] L A := ⟨fun _ fuel listed hc _ a w ha hA _ =>
  wpAnyH_done (by simpa [chk] using hc) (h.go a w ha hA) fuel⟩
theorem TS.mono {B : World → Prop} (hs : ∀ w, A w → B w) (h : TS P f n R k ops S sched L B) : TS P f n R k ops S sched L A := ⟨fun h1 f1 l h2 h3 a w ha hA hS => h.go h1 f1 l h2 h3 a w ha (hs w hA) hS⟩
theorem TS.fact {p : Prop} (hs : ∀ w, A w → p) (h : p → TS P f n R k ops S sched L A) : TS P f n R k ops S sched L A := ⟨fun h1 f1 l h2 h3 a w ha hA hS => (h (hs w hA)).go h1 f1 l h2 h3 a w ha hA hS⟩
theorem TS.and {p : Prop} (h : p → TS P f n R k ops S sched L A) : TS P f n R k ops S sched L (fun w => p ∧ A w) := ⟨fun h1 f1 l h2 h3 a w ha hA hS => (h hA.1).go h1 f1 l h2 h3 a w ha hA.2 hS⟩
theorem TS.sub {L' : Fr} (hs : Sub L' L) (h : TS P f n R k ops S sched L' A) : TS P f n R k ops S sched L A := ⟨fun h1 f1 l h2 h3 a w ha hA hS => h.go h1 f1 l h2 h3 a w (ha.sub hs) hA hS⟩
theorem TS.q {i d : Nat} {o : Oper} {v : Value} (ho : nth ops.toList i = some o) (hd : o.dst = some d) (hn : d.blt n = true)
    (hy : (want ops L o.guard = some true ∧ Y P n L S o v) ∨ (want ops L o.guard = some false ∧ v = undef)) (h : TS P f n R k ops S sched ((d, v) :: L) A) : TS P f n R k ops S ((i, true) :: sched) L A := by
  refine ⟨fun hns fuel listed hc hl a w ha hA hS => ?_⟩
  simp only [chk, Bool.and_eq_true, if_true] at hc
  obtain ⟨⟨hr, hf⟩, hc⟩ := hc
  have ho' : ops[i]? = some o := by rw [nth_eq] at ho; simpa using ho
  obtain ⟨fuel, rfl⟩ : ∃ m, fuel = m + 1 := ⟨fuel - 1, by simp at hl; omega⟩
  refine wpAnyH_take ho' hns hf hr (fun c a w hq => hq.elim) (v := v) ?_ hS ?_
  · rcases hy with ⟨hw, hy⟩ | ⟨hw, hv⟩
    · exact .inl ⟨want_ok ha hw, fun w hw => hy a w ha hw⟩
    · exact .inr ⟨want_ok ha hw, hv⟩
  · rw [hd]
    exact h.go hns fuel _ hc (by simpa using hl) _ w (ha.put (by simpa using hn)) hA hS
theorem TS.y {i d : Nat} {o : Oper} {v : Value} (ho : nth ops.toList i = some o) (hd : o.dst = some d) (hn : d.blt n = true) (hw : want ops L o.guard = some true) (hy : Y P n L S o v)
    (h : TS P f n R k ops S sched ((d, v) :: L) A) : TS P f n R k ops S ((i, true) :: sched) L A := TS.q ho hd hn (.inl ⟨hw, hy⟩) h
theorem TS.p {i : Nat} {o : Oper} {L' : Fr} (hk : tb.ok P = true) (ho : nth ops.toList i = some o) (h : stepP tb n ops L o = some L') (hr : TS P f n R k ops S sched L' A) : TS P f n R k ops S ((i, true) :: sched) L A := by
  unfold stepP at h
  split at h
  · rename_i hw
    split at h
    · rename_i d hd
      split at h
      · rename_i hn
        split at h
        · rename_i v hv
          simp only [Option.some.injEq] at h; subst h
          exact TS.q ho hd hn (.inl ⟨hw, pev_ok hk hv⟩) hr
        · cases h
      · cases h
    · cases h
  · rename_i hw
    split at h
    · rename_i d hd
      split at h
      · rename_i hn
        simp only [Option.some.injEq] at h; subst h
        exact TS.q ho hd hn (.inr ⟨hw, rfl⟩) hr
      · cases h
    · cases h
  · cases h
theorem TS.op {i : Nat} {o : Oper} {β : Type} {L' : β → Fr} {A' : β → World → Prop} (ho : nth ops.toList i = some o) (hw : want ops L o.guard = some true) (hop : OkOp P n L A o L' A') (hS : ∀ y w, A' y w → S w)
    (h : ∀ y, TS P f n R k ops S sched (L' y) (A' y)) : TS P f n R k ops S ((i, false) :: sched) L A := by
  refine ⟨fun hns fuel listed hc hl a w ha hA _ => ?_⟩
  simp only [chk, Bool.and_eq_true, Bool.false_eq_true, if_false, beq_iff_eq] at hc
  obtain ⟨⟨_, hr⟩, hc⟩ := hc
  have ho' : ops[i]? = some o := by rw [nth_eq] at ho; simpa using ho
  obtain ⟨fuel, rfl⟩ : ∃ m, fuel = m + 1 := ⟨fuel - 1, by simp at hl; omega⟩
  refine wpAnyH_all hr (by simp) fun j hj => ?_
  have hji : j = i := by simpa using hj
  subst hji
  unfold wpOp
  simp only [ho', want_ok ha hw, if_true]
  refine .inl (hop a w ha hA _ _ fun y a' w' h1 h2 => ⟨hS y w' h2, (h y).go hns fuel _ hc (by simpa using hl) a' w' h1 h2 (hS y w' h2)⟩)
theorem T.regionS {id : Nat} (sched : List (Nat × Bool)) (S : World → Prop) (hm : P.follows .mixedOrders = true) (hns : Region.noSelect ops = true) (hc : chk ops sched (Array.replicate ops.size false) = true) (hl : sched.length ≤ ops.size)
    (hd : ∀ w m, A w → A { w with drawn := m }) (hS : ∀ w, A w → S w) (h : TS P f n R k ops S sched L A) : T P f n R (.code (.region id ops true) :: k) L A := by
  refine ⟨fun a w ha hA => ?_⟩
  refine W.of_wp (wp_region_held (S := S) hm ?_)
  exact h.go hns _ _ hc hl a _ ha (hd w _ hA) (hS _ (hd w _ hA))
end
end X
end Go.Proofs.YtifnodoffgfpbaaGreatDoor
