/- Texts E12, F16, F17. The engine, twelfth part: new objects ags a memory of their own; regions whose order branches. -/
import Derived.Test.YtifnodoffgfpbaaGreatDoorPaf
namespace Go.Proofs.YtifnodoffgfpbaaGreatDoor
open Go
namespace X
/-- What a memory shows. -/
def mv (M : Mem) : View := fun b => (M.find? fun p => p.1 == b).map fun p => p.2.obj
theorem mv_mem : ∀ {M : Mem} {b : Nat} {o : Obj}, mv M b = some o → ∃ p ∈ M, p.1 = b ∧ p.2.obj = o := by
  intro M b o h
  unfold mv at h
  obtain ⟨p, hp, ho⟩ := Option.map_eq_some_iff.1 h
  exact ⟨p, List.mem_of_find?_eq_some hp, by simpa using List.find?_some hp, ho⟩
theorem mv_at : ∀ {M : Mem}, (M.map (·.1)).Nodup → ∀ {p : Nat × Ob}, p ∈ M → mv M p.1 = some p.2.obj := by
  intro M
  induction M with
  | nil => intro _ p hp; cases hp
  | cons a r ih =>
    intro hn p hp
    rw [List.map_cons, List.nodup_cons] at hn
    rcases List.mem_cons.1 hp with rfl | hp
    · simp [mv]
    · have hne : a.1 ≠ p.1 := fun e => hn.1 (by rw [e]; exact List.mem_map_of_mem hp)
      have := ih hn.2 hp
      unfold mv at this ⊢
      rw [List.find?_cons, show (a.1 == p.1) = false by simpa using hne]; exact this
theorem mv_row {M : Mem} (hn : (M.map (·.1)).Nodup) {i b : Nat} {cs : List Value} {t : TypeId} (hi : nth M i = some (b, .row cs t)) {off : Nat} {vs : List Value} (hs : ∀ j v, nth vs j = some v → nth cs (off + j) = some v) : RowAt (mv M) b off vs :=
  ⟨cs.toArray, t, (0, 0), mv_at hn (nth_mem hi), fun j v hj => by have := hs j v hj; rw [nth_eq] at this; simpa using this⟩
theorem mv_sub {M M' : Mem} (hn : (M'.map (·.1)).Nodup) (hs : ∀ p ∈ M, p ∈ M') : View.le (mv M) (mv M') := fun b o h => by
  obtain ⟨p, hp, rfl, rfl⟩ := mv_mem h
  exact mv_at hn (hs p hp)
/-- What came new into our memory is seen by those who do not hold it. -/
theorem st_out {Z : List Nat} {w0 w : World} {E M : Mem} (h : St Z w0 (E ++ M) w) : View.le (mv E) (view (keys M) w) := fun b o hb => by
  obtain ⟨p, hp, rfl, rfl⟩ := mv_mem hb
  have hn := h.nodup
  rw [List.map_append, List.nodup_append] at hn
  have hx : p.1 ∉ keys M := fun hx => hn.2.2 p.1 (List.mem_map_of_mem hp) p.1 hx rfl
  unfold view
  rw [if_neg hx]
  exact h.at_ p (List.mem_append_left _ hp)
theorem St.nd {Z : List Nat} {w0 w : World} {M : Mem} (h : St Z w0 M w) : (M.map (·.1)).Nodup := h.nodup
/-- Blocks that stay ags they are. -/
def Kp (Z : List Nat) (w0 : World) (M : Mem) (w : World) : Prop := Ext Z w0 w ∧ ∀ p ∈ M, w.heap[p.1]? = some p.2.obj
theorem Kp.of {Z : List Nat} {w0 w : World} {M N : Mem} (h : St Z w0 N w) (hs : ∀ p ∈ M, p ∈ N) : Kp Z w0 M w := ⟨h.ext, fun p hp => h.at_ p (hs p hp)⟩
theorem Kp.cell {Z : List Nat} {w0 w : World} {M : Mem} (h : Kp Z w0 M w) {i b off : Nat} {cs : List Value} {t : TypeId} {v : Value} (hi : nth M i = some (b, .row cs t)) (hv : nth cs off = some v) : w.cell? ⟨b, off, none⟩ = some v := by
  rw [cell_of_row (h.2 _ (nth_mem hi))]; rw [nth_eq] at hv; simpa using hv
section
variable {P : Program} {f : FuncId} {n : Nat} {R : Ending → World → Prop} {k : List Item} {L : Fr} {A : World → Prop} {ops : Array Oper} {S : World → Prop} {tb : Tab}
/-- Inside a region whose order branches: which operations are done, how many steps are left. -/
structure TR (P : Program) (f : FuncId) (n : Nat) (R : Ending → World → Prop) (k : List Item) (ops : Array Oper) (S : World → Prop) (m : Nat) (listed : Array Bool) (L : Fr) (A : World → Prop) : Prop where
  go : Region.noSelect ops = true → ∀ fuel, m ≤ fuel → ∀ a w, Has n a L → A w → S w → wpAnyH P .any ops (Qn P f R k) S fuel listed a w
theorem TR.lin {m : Nat} {listed : Array Bool} (sched : List (Nat × Bool)) (hc : chk ops sched listed = true) (hl : sched.length = m) (h : TS P f n R k ops S sched L A) : TR P f n R k ops S m listed L A :=
  ⟨fun h1 fuel hm a w ha hA hS => h.go h1 fuel listed hc (by omega) a w ha hA hS⟩
theorem TR.q0 {m i d : Nat} {listed : Array Bool} {o : Oper} {v : Value} (ho : nth ops.toList i = some o) (hf : Region.free .any ops listed i = true) (hr : (Region.ready .any ops listed).contains i = true) (hd : o.dst = some d) (hn : d.blt n = true)
    (hy : (want ops L o.guard = some true ∧ Y P n L S o v) ∨ (want ops L o.guard = some false ∧ v = undef)) (h : TR P f n R k ops S m (listed.setIfInBounds i true) ((d, v) :: L) A) : TR P f n R k ops S (m + 1) listed L A := by
  refine ⟨fun hns fuel hl a w ha hA hS => ?_⟩
  have ho' : ops[i]? = some o := by rw [nth_eq] at ho; simpa using ho
  obtain ⟨fuel, rfl⟩ : ∃ m, fuel = m + 1 := ⟨fuel - 1, by omega⟩
  refine wpAnyH_take ho' hns hf hr (fun c a w hq => hq.elim) (v := v) ?_ hS ?_
  · rcases hy with ⟨hw, hy⟩ | ⟨hw, hv⟩
    · exact .inl ⟨want_ok ha hw, fun w hw => hy a w ha hw⟩
    · exact .inr ⟨want_ok ha hw, hv⟩
  · rw [hd]
    exact h.go hns fuel (by omega) _ w (ha.put (by simpa using hn)) hA hS
theorem TR.q {m : Nat} (i : Nat) {d : Nat} {listed : Array Bool} {o : Oper} {v : Value} (ho : nth ops.toList i = some o) (hf : Region.free .any ops listed i = true) (hr : (Region.ready .any ops listed).contains i = true) (hd : o.dst = some d) (hn : d.blt n = true)
    (hw : want ops L o.guard = some true) (hy : Y P n L S o v) (h : TR P f n R k ops S m (listed.setIfInBounds i true) ((d, v) :: L) A) : TR P f n R k ops S (m + 1) listed L A := TR.q0 ho hf hr hd hn (.inl ⟨hw, hy⟩) h
theorem TR.p {m : Nat} (i : Nat) {listed : Array Bool} {o : Oper} {L' : Fr} (hk : tb.ok P = true) (ho : nth ops.toList i = some o) (hf : Region.free .any ops listed i = true) (hr : (Region.ready .any ops listed).contains i = true) (h : stepP tb n ops L o = some L')
    (hr' : TR P f n R k ops S m (listed.setIfInBounds i true) L' A) : TR P f n R k ops S (m + 1) listed L A := by
  unfold stepP at h
  split at h
  · rename_i hw
    split at h
    · rename_i d hd
      split at h
      · rename_i hn
        split at h
        · rename_i v hv
          simp only [Option.some.injEq] at h; subst h
          exact TR.q0 ho hf hr hd hn (.inl ⟨hw, pev_ok hk hv⟩) hr'
        · cases h
      · cases h
    · cases h
  · rename_i hw
    split at h
    · rename_i d hd
      split at h
      · rename_i hn
        simp only [Option.some.injEq] at h; subst h
        exact TR.q0 ho hf hr hd hn (.inr ⟨hw, rfl⟩) hr'
      · cases h
    · cases h
  · cases h
section
variable {X : List Nat} {w0 : World} {M Mq : Mem} {fn : FuncId} {xs : Array Operand} {ts : Array TypeId} {d : Nat} {ty : TypeId} {pos : String} {af : Array Edge} {g : Option (Nat × Bool)} {vs : List Value} {β : Type} {v : β → Value} {pre : World → Prop} {post : β → World → Prop} {M' : β → Mem} {sched : List (Nat × Bool)} {sz : Szs} {r b off : Nat} {cs news us ws : List Value} {tt t t2 e e' : TypeId} {x y p : Operand} {s len cap m : Nat} {u : Value} {ps : Array (Nat × Operand)}
theorem TS.call0 (ho : nth ops.toList r = some ⟨some d, .call { callee := .value (.func fn), args := xs, argTypes := ts }, ty, pos, af, g⟩) (hcall : ∀ (ags : Array Value) w, (callFunc fn ags).run P w = .ok (.enter fn ags) w) (hx : evs L xs.toList = some vs) (hn : d.blt n = true) (hw : want ops L g = some true)
    (hc : Ct P fn vs [] pre v post M') (hpre : ∀ w, St X w0 M w → pre w) (hS : ∀ y, ∀ p ∈ Mq, p ∈ M' y ++ M) (h : ∀ y, TS P f n R k ops (Kp X w0 Mq) sched ((d, v y) :: L) (fun w => post y w ∧ St X w0 (M' y ++ M) w)) :
    TS P f n R k ops (Kp X w0 Mq) ((r, false) :: sched) L (St X w0 M) := TS.op ho hw (OkOp.call hcall hx hn (use0 hc hpre)) (fun y w hA => Kp.of hA.2 (hS y)) h
theorem TS.st (i : Nat) (ho : nth ops.toList r = some ⟨none, .store t p x, ty, pos, af, none⟩) (hk : sz.ok P = true) (hi : nth M i = some (b, .row cs tt)) (hp : ev L p = some (.pointer (some ⟨b, off, none⟩))) (ht : find sz t = some (1, false)) (hx : ev L x = some u)
    (h1 : u.oneCell' = true) (hfit : Nat.blt off cs.length = true) (hS : ∀ p ∈ Mq, p ∈ setN M i (b, .row (setN cs off u) tt)) (h : TS P f n R k ops (Kp X w0 Mq) sched L (St X w0 (setN M i (b, .row (setN cs off u) tt)))) :
    TS P f n R k ops (Kp X w0 Mq) ((r, false) :: sched) L (St X w0 M) := by
  have hfit' : off < cs.length := by simpa using hfit
  have := OkOp.store (n := n) (P := P) (X := X) (w0 := w0) (L := L) (ty := ty) (pos := pos) (af := af) (g := none) i hk hi hp ht hx (vs := [u]) (cells_one h1) rfl (by simpa using h1) (by simp; omega)
  rw [setN_splice hfit'] at this
  exact TS.op ho rfl this (fun _ w hA => Kp.of hA hS) fun _ => h
theorem TS.stW (i : Nat) (ho : nth ops.toList r = some ⟨none, .store t p x, ty, pos, af, none⟩) (hk : sz.ok P = true) (hi : nth M i = some (b, .row cs tt)) (hp : ev L p = some (.pointer (some ⟨b, 0, none⟩))) (ht : find sz t = some (s, true)) (hx : ev L x = some (.agg us.toArray))
    (hl : us.length = s) (hc : cs.length = s) (h1 : ∀ u ∈ us, u.oneCell' = true) (hS : ∀ p ∈ Mq, p ∈ setN M i (b, .row us tt)) (h : TS P f n R k ops (Kp X w0 Mq) sched L (St X w0 (setN M i (b, .row us tt)))) :
    TS P f n R k ops (Kp X w0 Mq) ((r, false) :: sched) L (St X w0 M) := by
  have := OkOp.store (n := n) (P := P) (X := X) (w0 := w0) (L := L) (ty := ty) (pos := pos) (af := af) (g := none) i hk hi hp ht hx (vs := us) rfl hl h1 (by omega)
  have e : splice cs 0 us = us := by simp [splice]; omega
  rw [e] at this
  exact TS.op ho rfl this (fun _ w hA => Kp.of hA hS) fun _ => h
theorem TS.allocZ (s : Nat) (ho : nth ops.toList r = some ⟨some d, .alloc t, ty, pos, af, g⟩) (hz : ∀ w, (zeroValue t).run P w = .ok u w) (hs : u.cells.size = s) (hn : d.blt n = true) (hw : want ops L g = some true)
    (hS : ∀ b cs, ∀ p ∈ Mq, p ∈ (b, Ob.row cs t) :: M) (h : ∀ b cs, cs.length = s → TS P f n R k ops (Kp X w0 Mq) sched ((d, .pointer (some ⟨b, 0, none⟩)) :: L) (St X w0 ((b, .row cs t) :: M))) :
    TS P f n R k ops (Kp X w0 Mq) ((r, false) :: sched) L (St X w0 M) :=
  TS.op ho hw (OkOp.alloc hz rfl hn) (fun b w hA => Kp.of hA (hS b _)) fun b => h b _ (by simp [hs])
theorem TS.bs {bytes : Nat} (ho : nth ops.toList r = some ⟨some d, .buildSlice t len ps, ty, pos, af, g⟩) (he : Elem P t e 1 bytes) (hp : pEv L ps.toList 0 = some us) (hlen : us.length = len) (h1 : ∀ v ∈ us, v.oneCell' = true) (hl : us.length ≤ 16777216) (hn : d.blt n = true) (hw : want ops L g = some true)
    (hS : ∀ b, ∀ p ∈ Mq, p ∈ (b, Ob.row us e) :: M) (h : ∀ b, TS P f n R k ops (Kp X w0 Mq) sched ((d, .slice (some ⟨b, 0, none⟩) len len) :: L) (St X w0 ((b, .row us e) :: M))) : TS P f n R k ops (Kp X w0 Mq) ((r, false) :: sched) L (St X w0 M) :=
  TS.op ho hw (OkOp.bs he hp hlen (fun v hv => by rw [cells_one (h1 v hv)]; rfl) (flatC_one h1) (by omega) hn) (fun b w hA => Kp.of hA (hS b)) h
theorem TS.bsA {size bytes : Nat} (ho : nth ops.toList r = some ⟨some d, .buildSlice t 1 ps, ty, pos, af, g⟩) (he : Elem P t e size bytes) (hp : pEv L ps.toList 0 = some [.agg us.toArray]) (hc : us.length = size) (hl : size ≤ 16777216) (hn : d.blt n = true) (hw : want ops L g = some true)
    (hS : ∀ b, ∀ p ∈ Mq, p ∈ (b, Ob.row us e) :: M) (h : ∀ b, TS P f n R k ops (Kp X w0 Mq) sched ((d, .slice (some ⟨b, 0, none⟩) 1 1) :: L) (St X w0 ((b, .row us e) :: M))) : TS P f n R k ops (Kp X w0 Mq) ((r, false) :: sched) L (St X w0 M) :=
  TS.op ho hw (OkOp.bs he hp rfl (by simp [Value.cells, hc]) (by simp [flatC, Value.cells]) (by simpa using hl) hn) (fun b w hA => Kp.of hA (hS b)) h
theorem TS.append {size bytes : Nat} (i : Nat) (ho : nth ops.toList r = some ⟨some d, .call { callee := .builtin .append, args := #[x, y], argTypes := #[t, t2] }, ty, pos, af, g⟩) (he : Elem P t e size bytes) (ht2 : (∃ e2, P.underlying t2 = some (.slice e2)) ∨ P.underlying t2 = some .string)
    (hi : nth M i = some (b, .row cs e)) (hx : ev L x = some (.slice (some ⟨b, 0, none⟩) len cap)) (hy : ev L y = some u) (hn : d.blt n = true) (hw : want ops L g = some true) (hown : Own cs len cap size us) (hs : Src P (St X w0 M) size u m news)
    (hfit : (len + m) * bytes ≤ 140737488355328) (h63 : len + m ≤ 4611686018427387904) (hS : ∀ b' cs', ∀ p ∈ Mq, p ∈ setN M i (b', Ob.row cs' e))
    (h : ∀ b' cs' cap', Own cs' (len + m) cap' size (us ++ news) → TS P f n R k ops (Kp X w0 Mq) sched ((d, .slice (some ⟨b', 0, none⟩) (len + m) cap') :: L) (St X w0 (setN M i (b', .row cs' e)))) :
    TS P f n R k ops (Kp X w0 Mq) ((r, false) :: sched) L (St X w0 M) :=
  TS.op ho hw (OkOp.append i he ht2 hi hx hy hn hown hs hfit h63) (fun q w hA => Kp.of hA.2 (hS _ _)) fun q => TS.and fun h1 => h q.1 q.2.1 q.2.2 h1
theorem TS.appendNil {size bytes : Nat} (ho : nth ops.toList r = some ⟨some d, .call { callee := .builtin .append, args := #[x, y], argTypes := #[t, t2] }, ty, pos, af, g⟩) (he : Elem P t e size bytes) (ht2 : (∃ e2, P.underlying t2 = some (.slice e2)) ∨ P.underlying t2 = some .string)
    (hx : ev L x = some (.slice none 0 0)) (hy : ev L y = some u) (hn : d.blt n = true) (hw : want ops L g = some true) (hs : Src P (St X w0 M) size u m news)
    (h0 : 0 < m) (hfit : m * bytes ≤ 140737488355328) (h63 : m ≤ 4611686018427387904) (hS : ∀ b' cs', ∀ p ∈ Mq, p ∈ (b', Ob.row cs' e) :: M)
    (h : ∀ b' cs' cap', Own cs' m cap' size news → TS P f n R k ops (Kp X w0 Mq) sched ((d, .slice (some ⟨b', 0, none⟩) m cap') :: L) (St X w0 ((b', .row cs' e) :: M))) :
    TS P f n R k ops (Kp X w0 Mq) ((r, false) :: sched) L (St X w0 M) :=
  TS.op ho hw (OkOp.appendNil he ht2 hx hy hn hs h0 hfit h63) (fun q w hA => Kp.of hA.2 (hS _ _)) fun q => TS.and fun h1 => h q.1 q.2.1 q.2.2 h1
theorem TS.copy {bytes dl dc q : Nat} (i : Nat) (ho : nth ops.toList r = some ⟨some d, .call { callee := .builtin .copy, args := #[x, y], argTypes := #[t, t2] }, ty, pos, af, g⟩) (he : Elem P t e 1 bytes) (hi : nth M i = some (b, .row cs e')) (hx : ev L x = some (.slice (some ⟨b, off, none⟩) dl dc)) (hy : ev L y = some u) (hn : d.blt n = true) (hw : want ops L g = some true)
    (hq : q = min m dl) (hs : SrcN P (St X w0 M) u m q news) (hfit : off + q ≤ cs.length) (hS : ∀ p ∈ Mq, p ∈ setN M i (b, Ob.row (splice cs off news) e'))
    (h : TS P f n R k ops (Kp X w0 Mq) sched ((d, .int .i64 q) :: L) (St X w0 (setN M i (b, .row (splice cs off news) e')))) :
    TS P f n R k ops (Kp X w0 Mq) ((r, false) :: sched) L (St X w0 M) :=
  TS.op ho hw (OkOp.copy i he hi hx hy hn hq hs hfit) (fun _ w hA => Kp.of hA hS) fun _ => h
theorem TL.bs0 {rest : List Oper} {size bytes : Nat} (he : Elem P t e size bytes) (hn : d.blt n = true) (hw : want ops L g = some true)
    (h : ∀ b, TL P f n R k ops rest ((d, .slice (some ⟨b, 0, none⟩) 0 0) :: L) (St X w0 ((b, .row [] e) :: M))) : TL P f n R k ops (⟨some d, .buildSlice t 0 #[], ty, pos, af, g⟩ :: rest) L (St X w0 M) :=
  TL.op hw (OkOp.bs (vs := []) he rfl rfl (by simp) rfl (by simp) hn) h
theorem TS.bs0 {size bytes : Nat} (ho : nth ops.toList r = some ⟨some d, .buildSlice t 0 #[], ty, pos, af, g⟩) (he : Elem P t e size bytes) (hn : d.blt n = true) (hw : want ops L g = some true)
    (hS : ∀ b, ∀ p ∈ Mq, p ∈ (b, Ob.row [] e) :: M) (h : ∀ b, TS P f n R k ops (Kp X w0 Mq) sched ((d, .slice (some ⟨b, 0, none⟩) 0 0) :: L) (St X w0 ((b, .row [] e) :: M))) : TS P f n R k ops (Kp X w0 Mq) ((r, false) :: sched) L (St X w0 M) :=
  TS.op ho hw (OkOp.bs (vs := []) he rfl rfl (by simp) rfl (by simp) hn) (fun b w hA => Kp.of hA (hS b)) h
theorem TS.start {id : Nat} (sched : List (Nat × Bool)) (Mq : Mem) (hm : P.follows .mixedOrders = true) (hns : Region.noSelect ops = true) (hc : chk ops sched (Array.replicate ops.size false) = true) (hl : sched.length ≤ ops.size) (hS : ∀ p ∈ Mq, p ∈ M)
    (h : TS P f n R k ops (Kp X w0 Mq) sched L (St X w0 M)) : T P f n R (.code (.region id ops true) :: k) L (St X w0 M) :=
  T.regionS sched (Kp X w0 Mq) hm hns hc hl (fun w m h => h.drawn m) (fun w h => Kp.of h hS) h
end
/-- One operation that came up. -/
def RS (P : Program) (f : FuncId) (n : Nat) (R : Ending → World → Prop) (k : List Item) (ops : Array Oper) (S : World → Prop) (i m : Nat) (listed : Array Bool) (L : Fr) (A : World → Prop) : Prop :=
  Region.noSelect ops = true → ∀ fuel, m ≤ fuel → ∀ a w, Has n a L → A w → S w → wpOp P ops (Qn P f R k) i (fun a' w' => S w' ∧ wpAnyH P .any ops (Qn P f R k) S fuel (listed.setIfInBounds i true) a' w') a w
theorem RS.op {i m : Nat} {listed : Array Bool} {o : Oper} {β : Type} {L' : β → Fr} {A' : β → World → Prop} (ho : nth ops.toList i = some o) (hw : want ops L o.guard = some true) (hop : OkOp P n L A o L' A') (hS : ∀ y w, A' y w → S w)
    (h : ∀ y, TR P f n R k ops S m (listed.setIfInBounds i true) (L' y) (A' y)) : RS P f n R k ops S i m listed L A := by
  intro hns fuel hl a w ha hA _
  have ho' : ops[i]? = some o := by rw [nth_eq] at ho; simpa using ho
  unfold wpOp
  simp only [ho', want_ok ha hw, if_true]
  exact .inl (hop a w ha hA _ _ fun y a' w' h1 h2 => ⟨hS y w' h2, (h y).go hns fuel hl a' w' h1 h2 (hS y w' h2)⟩)
theorem RS.call0 {X : List Nat} {w0 : World} {M Mq : Mem} {fn : FuncId} {xs : Array Operand} {ts : Array TypeId} {d : Nat} {ty : TypeId} {pos : String} {af : Array Edge} {g : Option (Nat × Bool)} {vs : List Value} {β : Type} {v : β → Value} {pre : World → Prop} {post : β → World → Prop} {M' : β → Mem} {r m : Nat} {listed : Array Bool}
    (ho : nth ops.toList r = some ⟨some d, .call { callee := .value (.func fn), args := xs, argTypes := ts }, ty, pos, af, g⟩) (hcall : ∀ (ags : Array Value) w, (callFunc fn ags).run P w = .ok (.enter fn ags) w) (hx : evs L xs.toList = some vs) (hn : d.blt n = true) (hw : want ops L g = some true)
    (hc : Ct P fn vs [] pre v post M') (hpre : ∀ w, St X w0 M w → pre w) (hS : ∀ y, ∀ p ∈ Mq, p ∈ M' y ++ M) (h : ∀ y, TR P f n R k ops (Kp X w0 Mq) m (listed.setIfInBounds r true) ((d, v y) :: L) (fun w => post y w ∧ St X w0 (M' y ++ M) w)) :
    RS P f n R k ops (Kp X w0 Mq) r m listed L (St X w0 M) := RS.op ho hw (OkOp.call hcall hx hn (use0 hc hpre)) (fun y w hA => Kp.of hA.2 (hS y)) h
theorem RS.allocZ {X : List Nat} {w0 : World} {M Mq : Mem} {t : TypeId} {d : Nat} {ty : TypeId} {pos : String} {af : Array Edge} {g : Option (Nat × Bool)} {u : Value} {r m : Nat} {listed : Array Bool} (s : Nat) (ho : nth ops.toList r = some ⟨some d, .alloc t, ty, pos, af, g⟩) (hz : ∀ w, (zeroValue t).run P w = .ok u w) (hs : u.cells.size = s) (hn : d.blt n = true) (hw : want ops L g = some true)
    (hS : ∀ b cs, ∀ p ∈ Mq, p ∈ (b, Ob.row cs t) :: M) (h : ∀ b cs, cs.length = s → TR P f n R k ops (Kp X w0 Mq) m (listed.setIfInBounds r true) ((d, .pointer (some ⟨b, 0, none⟩)) :: L) (St X w0 ((b, .row cs t) :: M))) :
    RS P f n R k ops (Kp X w0 Mq) r m listed L (St X w0 M) :=
  RS.op ho hw (OkOp.alloc hz rfl hn) (fun b w hA => Kp.of hA (hS b _)) fun b => h b _ (by simp [hs])
theorem OkOp.ofY {o : Oper} {v : Value} {d : Nat} (hd : o.dst = some d) (hn : d.blt n = true) (h : Y P n L A o v) : OkOp (β := Unit) P n L A o (fun _ => (d, v) :: L) (fun _ => A) := by
  intro a w ha hA next Q hnx
  unfold Oper.wp
  rw [h a w ha hA]
  simp only [Oper.upon, hd]
  exact hnx () _ _ (ha.put (by simpa using hn)) hA
/-- A load that is not taken early: it comes up in its turn. -/
theorem TS.l {X : List Nat} {w0 : World} {M Mq : Mem} {sched : List (Nat × Bool)} {r d : Nat} {o : Oper} {v : Value} (ho : nth ops.toList r = some o) (hd : o.dst = some d) (hn : d.blt n = true) (hw : want ops L o.guard = some true) (hy : Y P n L (St X w0 M) o v) (hS : ∀ p ∈ Mq, p ∈ M)
    (h : TS P f n R k ops (Kp X w0 Mq) sched ((d, v) :: L) (St X w0 M)) : TS P f n R k ops (Kp X w0 Mq) ((r, false) :: sched) L (St X w0 M) := TS.op ho hw (OkOp.ofY hd hn hy) (fun _ w hA => Kp.of hA hS) fun _ => h
theorem RS.l {X : List Nat} {w0 : World} {M Mq : Mem} {m r d : Nat} {listed : Array Bool} {o : Oper} {v : Value} (ho : nth ops.toList r = some o) (hd : o.dst = some d) (hn : d.blt n = true) (hw : want ops L o.guard = some true) (hy : Y P n L (St X w0 M) o v) (hS : ∀ p ∈ Mq, p ∈ M)
    (h : TR P f n R k ops (Kp X w0 Mq) m (listed.setIfInBounds r true) ((d, v) :: L) (St X w0 M)) : RS P f n R k ops (Kp X w0 Mq) r m listed L (St X w0 M) := RS.op ho hw (OkOp.ofY hd hn hy) (fun _ w hA => Kp.of hA hS) fun _ => h
theorem RS.bsA {X : List Nat} {w0 : World} {M Mq : Mem} {t e : TypeId} {d : Nat} {ty : TypeId} {pos : String} {af : Array Edge} {g : Option (Nat × Bool)} {us : List Value} {ps : Array (Nat × Operand)} {r m : Nat} {listed : Array Bool} {size bytes : Nat} (ho : nth ops.toList r = some ⟨some d, .buildSlice t 1 ps, ty, pos, af, g⟩) (he : Elem P t e size bytes) (hp : pEv L ps.toList 0 = some [.agg us.toArray]) (hc : us.length = size) (hl : size ≤ 16777216) (hn : d.blt n = true) (hw : want ops L g = some true)
    (hS : ∀ b, ∀ p ∈ Mq, p ∈ (b, Ob.row us e) :: M) (h : ∀ b, TR P f n R k ops (Kp X w0 Mq) m (listed.setIfInBounds r true) ((d, .slice (some ⟨b, 0, none⟩) 1 1) :: L) (St X w0 ((b, .row us e) :: M))) : RS P f n R k ops (Kp X w0 Mq) r m listed L (St X w0 M) :=
  RS.op ho hw (OkOp.bs he hp rfl (by simp [Value.cells, hc]) (by simp [flatC, Value.cells]) (by simpa using hl) hn) (fun b w hA => Kp.of hA (hS b)) h
theorem TR.and {m : Nat} {listed : Array Bool} {p : Prop} (h : p → TR P f n R k ops S m listed L A) : TR P f n R k ops S m listed L (fun w => p ∧ A w) := ⟨fun h1 f1 l a w ha hA hS => (h hA.1).go h1 f1 l a w ha hA.2 hS⟩
theorem TR.one {i m : Nat} {listed : Array Bool} (hr : Region.ready .any ops listed = [i]) (h : RS P f n R k ops S i m listed L A) : TR P f n R k ops S (m + 1) listed L A := by
  refine ⟨fun hns fuel hl a w ha hA hS => ?_⟩
  obtain ⟨fuel, rfl⟩ : ∃ m, fuel = m + 1 := ⟨fuel - 1, by omega⟩
  refine wpAnyH_all hr (by simp) fun j hj => ?_
  have hji : j = i := by simpa using hj
  subst hji
  exact h hns fuel (by omega) a w ha hA hS
theorem TR.two {i j m : Nat} {listed : Array Bool} (hr : Region.ready .any ops listed = [i, j]) (h1 : RS P f n R k ops S i m listed L A) (h2 : RS P f n R k ops S j m listed L A) : TR P f n R k ops S (m + 1) listed L A := by
  refine ⟨fun hns fuel hl a w ha hA hS => ?_⟩
  obtain ⟨fuel, rfl⟩ : ∃ m, fuel = m + 1 := ⟨fuel - 1, by omega⟩
  refine wpAnyH_all hr (by simp) fun l hj => ?_
  have hji : l = i ∨ l = j := by simpa using hj
  rcases hji with rfl | rfl
  · exact h1 hns fuel (by omega) a w ha hA hS
  · exact h2 hns fuel (by omega) a w ha hA hS
theorem TR.start {X : List Nat} {w0 : World} {M : Mem} {id : Nat} (m : Nat) (Mq : Mem) (hm : P.follows .mixedOrders = true) (hns : Region.noSelect ops = true) (hl : m ≤ ops.size) (hS : ∀ p ∈ Mq, p ∈ M)
    (h : TR P f n R k ops (Kp X w0 Mq) m (Array.replicate ops.size false) L (St X w0 M)) : T P f n R (.code (.region id ops true) :: k) L (St X w0 M) := by
  refine ⟨fun a w ha hA => ?_⟩
  refine W.of_wp (wp_region_held (S := Kp X w0 Mq) hm ?_)
  exact h.go hns _ hl a _ ha (hA.drawn _) (Kp.of (hA.drawn _) hS)
/-- Several ways join: what comes behind them is walked once, for all that they may leave. -/
theorem T.mergeA {α : Type} {i : Item} (Lx : α → Fr) (Ax : α → World → Prop) (hk : ∀ x, T P f n R k (Lx x) (Ax x)) (h : (∀ x, T P f n R k (Lx x) (Ax x)) → T P f n R (i :: k) L A) : T P f n R (i :: k) L A := h hk
theorem T.regionR {id : Nat} (m : Nat) (S : World → Prop) (hm : P.follows .mixedOrders = true) (hns : Region.noSelect ops = true) (hl : m ≤ ops.size)
    (hd : ∀ w m, A w → A { w with drawn := m }) (hS : ∀ w, A w → S w) (h : TR P f n R k ops S m (Array.replicate ops.size false) L A) : T P f n R (.code (.region id ops true) :: k) L A := by
  refine ⟨fun a w ha hA => ?_⟩
  refine W.of_wp (wp_region_held (S := S) hm ?_)
  exact h.go hns _ hl a _ ha (hd w _ hA) (hS _ (hd w _ hA))
end
end X
namespace X
def zs256 : List Value := List.replicate 256 (bv 0)
theorem zs256_length : zs256.length = 256 := List.length_replicate
theorem zs256_get {i : Nat} (h : i < 256) : zs256[i]? = some (bv 0) := by unfold zs256; rw [List.getElem?_replicate, if_pos h]
theorem zero75 : ∀ w, (zeroValue 75).run Tryz.prog w = .ok (.agg zs256.toArray) w := by intro w; kernel_rfl
theorem build75 : ∀ w, (Instr.build 75 (#[] : Array (Nat × Value))).run Tryz.prog w = .ok (.agg zs256.toArray) w := by intro w; kernel_rfl
theorem name_of_splice {s : Bs} (h : s.length ≤ 255) : setN (splice zs256 0 ((s.take s.length).map bv)) 255 (.int .u8 (s.length : Int)) = nameCells s := by
  apply List.ext_getElem?
  intro i
  rw [setN_eq, List.getElem?_set, List.take_length]
  have hl : (splice zs256 0 (s.map bv)).length = 256 := by rw [splice_length (by rw [zs256_length, List.length_map]; omega), zs256_length]
  rw [hl]
  split
  · rename_i e
    subst e
    have := nameCells_len h
    rw [nth_eq] at this
    rw [this]; rfl
  · rename_i e
    rw [splice_get (by rw [zs256_length, List.length_map]; omega)]
    simp only [nameCells, List.length_map, Nat.zero_add, Nat.zero_le, true_and, Nat.sub_zero]
    by_cases h1 : i < s.length
    · rw [if_pos h1, List.getElem?_append_left (by rw [List.length_map]; omega)]
    · rw [if_neg h1, List.getElem?_append_right (by rw [List.length_map]; omega), List.length_map]
      by_cases h2 : i < 255
      · rw [List.getElem?_append_left (by rw [List.length_replicate]; omega), List.getElem?_replicate, if_pos (by omega), zs256_get (by omega)]
      · rw [List.getElem?_append_right (by rw [List.length_replicate]; omega), List.length_replicate, List.getElem?_eq_none (by rw [zs256_length]; omega), List.getElem?_eq_none (by rw [List.length_singleton]; omega)]
theorem nameOf (s : Bs) (hs : s.length ≤ 255) : Ct (β := Unit) Tryz.prog 51 [str s] [] (fun _ => True) (fun _ => .agg (nameCells s).toArray) (fun _ _ => True) (fun _ => []) := by
  intro w hS _
  refine calls_of_T (m := 12) Tryz.func51 rfl rfl (by simp) hS ?_
  repeat (first | refine za rfl rfl ?_ | refine zb rfl ?_ | refine zc rfl ?_)
  refine TL.alloc (cs := zs256) zero75 rfl rfl rfl (fun rb => ?_)
  repeat (first | refine za rfl rfl ?_ | refine zb rfl ?_ | refine zc rfl ?_)
  refine TL.build (v := .agg zs256.toArray) rfl rfl rfl build75 ?_
  refine TL.alloc (cs := zs256) zero75 rfl rfl rfl (fun nb => ?_)
  refine TL.stW (vs := zs256) 0 szk rfl rfl rfl rfl zs256_length zs256_length (by intro v hv; rw [List.eq_of_mem_replicate hv]; rfl) ?_
  repeat (first | refine za rfl rfl ?_ | refine zb rfl ?_ | refine zc rfl ?_)
  refine TL.slA tbk rfl rfl rfl rfl ?_
  repeat (first | refine za rfl rfl ?_ | refine zb rfl ?_ | refine zc rfl ?_)
  refine TL.copy (q := s.length) 0 el37 rfl rfl rfl rfl rfl (by omega) (SrcN.str (Nat.le_refl _)) (by rw [zs256_length]; omega) ?_
  repeat (first | refine za rfl rfl ?_ | refine zb rfl ?_ | refine zc rfl ?_)
  rw [u8_in ((s.length : Nat) : Int) (by omega) (by omega)]
  refine TL.st 0 szk rfl rfl rfl rfl rfl ?_ ?_
  · rw [Nat.blt_eq, splice_length (by rw [zs256_length, List.length_map, List.length_take]; omega), zs256_length]; decide
  simp only [setN, name_of_splice hs]
  repeat (first | refine za rfl rfl ?_ | refine zb rfl ?_ | refine zc rfl ?_)
  have hnl := nameCells_length hs
  refine TL.ldW 0 szk rfl rfl rfl hnl rfl rfl ?_
  refine TL.stW 1 szk rfl rfl rfl rfl hnl zs256_length nameCells_one ?_
  repeat (first | refine za rfl rfl ?_ | refine zb rfl ?_ | refine zc rfl ?_)
  exact T.retG Tryz.func51 (.cons (RV.cellW 1 szk rfl rfl rfl hnl) .nil) (fun w hA => ⟨(), rfl, trivial, hA.sub (by simp)⟩)
section
variable {P : Program} {f : FuncId} {n : Nat} {R : Ending → World → Prop} {k : List Item} {L : Fr} {X : List Nat} {w0 : World} {M : Mem} {ops : Array Oper} {rest : List Oper} {t : TypeId} {d : Nat} {ty : TypeId} {pos : String} {af : Array Edge} {g : Option (Nat × Bool)} {v : Value}
/-- A new block, of whose cells only the number matters. -/
theorem TL.allocZ (s : Nat) (hz : ∀ w, (zeroValue t).run P w = .ok v w) (hs : v.cells.size = s) (hn : d.blt n = true) (hw : want ops L g = some true)
    (h : ∀ b cs, cs.length = s → TL P f n R k ops rest ((d, .pointer (some ⟨b, 0, none⟩)) :: L) (St X w0 ((b, .row cs t) :: M))) : TL P f n R k ops (⟨some d, .alloc t, ty, pos, af, g⟩ :: rest) L (St X w0 M) :=
  TL.alloc hz rfl hn hw fun b => h b _ (by simp [hs])
end
theorem headerOf (h : Hd) : Ct (β := Unit) Tryz.prog 21 [.agg (hdCells h).toArray] [] (fun _ => True) (fun _ => .agg (hdCells h).toArray) (fun _ _ => True) (fun _ => []) := by
  intro w hS _
  refine calls_of_T (m := 24) Tryz.func21 rfl rfl (by simp) hS ?_
  repeat (first | refine za rfl rfl ?_ | refine zb rfl ?_ | refine zc rfl ?_)
  refine TL.box rfl rfl rfl rfl (fun xb => ?_)
  refine TL.alloc Tryz.zeroValue66 rfl rfl rfl (fun rb => ?_)
  repeat (first | refine za rfl rfl ?_ | refine zb rfl ?_ | refine zc rfl ?_)
  refine TL.ld 1 szk rfl rfl rfl rfl rfl rfl ?_
  repeat (first | refine za rfl rfl ?_ | refine zb rfl ?_ | refine zc rfl ?_)
  refine TL.ld 1 szk rfl rfl rfl rfl rfl rfl ?_
  repeat (first | refine za rfl rfl ?_ | refine zb rfl ?_ | refine zc rfl ?_)
  refine TL.ld 1 szk rfl rfl rfl rfl rfl rfl ?_
  repeat (first | refine za rfl rfl ?_ | refine zb rfl ?_ | refine zc rfl ?_)
  refine TL.ld 1 szk rfl rfl rfl rfl rfl rfl ?_
  repeat (first | refine za rfl rfl ?_ | refine zb rfl ?_ | refine zc rfl ?_)
  refine TL.ld 1 szk rfl rfl rfl rfl rfl rfl ?_
  repeat (first | refine za rfl rfl ?_ | refine zb rfl ?_ | refine zc rfl ?_)
  refine TL.ld 1 szk rfl rfl rfl rfl rfl rfl ?_
  repeat (first | refine za rfl rfl ?_ | refine zb rfl ?_ | refine zc rfl ?_)
  refine TL.ld 1 szk rfl rfl rfl rfl rfl rfl ?_
  repeat (first | refine za rfl rfl ?_ | refine zb rfl ?_ | refine zc rfl ?_)
  refine TL.ld 1 szk rfl rfl rfl rfl rfl rfl ?_
  repeat (first | refine za rfl rfl ?_ | refine zb rfl ?_ | refine zc rfl ?_)
  refine TL.ld 1 szk rfl rfl rfl rfl rfl rfl ?_
  repeat (first | refine za rfl rfl ?_ | refine zb rfl ?_ | refine zc rfl ?_)
  refine TL.ld 1 szk rfl rfl rfl rfl rfl rfl ?_
  repeat (first | refine za rfl rfl ?_ | refine zb rfl ?_ | refine zc rfl ?_)
  refine TL.build (v := .agg (hdCells h).toArray) rfl rfl rfl (fun w => by kernel_rfl) ?_
  refine TL.stW (vs := hdCells h) 0 szk rfl rfl rfl rfl rfl rfl (by intro v hv; simp [hdCells] at hv; rcases hv with rfl | rfl | rfl | rfl | rfl | rfl | rfl | rfl | rfl | rfl <;> rfl) ?_
  repeat (first | refine za rfl rfl ?_ | refine zb rfl ?_ | refine zc rfl ?_)
  exact T.retG Tryz.func21 (.cons (RV.cellW 0 szk rfl rfl rfl rfl) .nil) (fun w hA => ⟨(), rfl, trivial, hA.sub (by simp)⟩)
theorem pl79 : placesOk Tryz.prog 79 [(0, 256), (256, 1), (257, 1)] 258 = true := by kernel_rfl
theorem pl116 : placesOk Tryz.prog 116 [(0, 256), (256, 1), (257, 1), (258, 1), (259, 1)] 260 = true := by kernel_rfl
theorem qCells_length {s : Bs} {t c : Nat} (h : s.length ≤ 255) : (qCells s t c).length = 258 := by rw [qCells, List.length_append, nameCells_length h]; rfl
theorem rhCells_length {s : Bs} {t c ttl len : Nat} (h : s.length ≤ 255) : (rhCells s t c ttl len).length = 260 := by rw [rhCells, List.length_append, nameCells_length h]; rfl
theorem flat_name {s : Bs} (vs : List Value) (h : ∀ v ∈ vs, v.oneCell' = true) : flatC (.agg (nameCells s).toArray :: vs) = nameCells s ++ vs := by
  rw [flatC, flatC_one h]; simp [Value.cells]
theorem questionOf (a : Ak) (hs : a.name.length ≤ 255) : Ct (β := Unit) Tryz.prog 23 [.agg #[str a.name, .int .u16 (a.typ : Int), .int .u16 (a.cls : Int)]] [] (fun _ => True) (fun _ => .agg (qCells a.name a.typ a.cls).toArray) (fun _ _ => True) (fun _ => []) := by
  intro w hS _
  refine calls_of_T (m := 11) Tryz.func23 rfl rfl (by simp) hS ?_
  repeat (first | refine za rfl rfl ?_ | refine zb rfl ?_ | refine zc rfl ?_)
  refine TL.box (cs := [str a.name, .int .u16 (a.typ : Int), .int .u16 (a.cls : Int)]) rfl rfl rfl rfl (fun xb => ?_)
  refine TL.allocZ 258 Tryz.zeroValue79 (by kernel_rfl) rfl rfl (fun rb zs hz => ?_)
  repeat (first | refine za rfl rfl ?_ | refine zb rfl ?_ | refine zc rfl ?_)
  refine TS.start [(0, true), (1, true), (3, true), (4, true), (5, true), (6, true), (2, false), (7, true), (8, false)] [(xb, .row [str a.name, .int .u16 (a.typ : Int), .int .u16 (a.cls : Int)] 51)] mixed (by kernel_rfl) (by kernel_rfl) (by decide) (by simp) ?_
  refine TS.p tbk rfl rfl ?_
  refine TS.y rfl rfl rfl rfl (Y.load szk rfl rfl (fun w h => h.cell (i := 0) rfl rfl)) ?_
  refine TS.p tbk rfl rfl ?_
  refine TS.y rfl rfl rfl rfl (Y.load szk rfl rfl (fun w h => h.cell (i := 0) rfl rfl)) ?_
  refine TS.p tbk rfl rfl ?_
  refine TS.y rfl rfl rfl rfl (Y.load szk rfl rfl (fun w h => h.cell (i := 0) rfl rfl)) ?_
  refine TS.call0 rfl Tryz.call51 rfl rfl rfl (nameOf a.name hs) (fun _ _ => trivial) (fun _ => by simp) (fun _ => TS.and fun _ => ?_)
  have hnl := nameCells_length hs
  have hfl : flatC [.agg (nameCells a.name).toArray, .int .u16 (a.typ : Int), .int .u16 (a.cls : Int)] = qCells a.name a.typ a.cls := flat_name _ (by simp [Value.oneCell'])
  have hb := build_seq (vs := [.agg (nameCells a.name).toArray, .int .u16 (a.typ : Int), .int .u16 (a.cls : Int)]) pl79 (by simp [contig, Value.cells, hnl]) (by rw [hfl, qCells_length hs])
  rw [hfl] at hb
  refine TS.y rfl rfl rfl rfl (Y.build (pv := partsFrom 0 [.agg (nameCells a.name).toArray, .int .u16 (a.typ : Int), .int .u16 (a.cls : Int)]) rfl hb) ?_
  refine TS.stW (us := qCells a.name a.typ a.cls) 0 rfl szk rfl rfl rfl rfl (qCells_length hs) hz (by intro v hv; simp only [qCells, List.mem_append] at hv; rcases hv with hv | hv; exact nameCells_one v hv; simp at hv; rcases hv with rfl | rfl <;> rfl) (by simp [setN]) ?_
  refine TS.nil ?_
  repeat (first | refine za rfl rfl ?_ | refine zb rfl ?_ | refine zc rfl ?_)
  exact T.retG Tryz.func23 (.cons (RV.cellW 0 szk rfl rfl rfl (qCells_length hs)) .nil) (fun w hA => ⟨(), rfl, trivial, hA.sub (by simp)⟩)
theorem headOf (r : Rc) (hs : r.name.length ≤ 255) (dv tv pv : Value) : Ct (β := Unit) Tryz.prog 49 [.agg (rcCells r dv tv pv).toArray] [] (fun _ => True) (fun _ => .agg (rhCells r.name r.typ r.cls r.ttl r.len).toArray) (fun _ _ => True) (fun _ => []) := by
  intro w hS _
  refine calls_of_T (m := 15) Tryz.func49 rfl rfl (by simp) hS ?_
  repeat (first | refine za rfl rfl ?_ | refine zb rfl ?_ | refine zc rfl ?_)
  refine TL.box (cs := rcCells r dv tv pv) rfl rfl rfl rfl (fun xb => ?_)
  refine TL.allocZ 260 Tryz.zeroValue116 (by kernel_rfl) rfl rfl (fun rb zs hz => ?_)
  repeat (first | refine za rfl rfl ?_ | refine zb rfl ?_ | refine zc rfl ?_)
  refine TS.start [(0, true), (1, true), (3, true), (4, true), (5, true), (6, true), (7, true), (8, true), (9, true), (10, true), (2, false), (11, true), (12, false)] [(xb, .row (rcCells r dv tv pv) 98)] mixed (by kernel_rfl) (by kernel_rfl) (by decide) (by simp) ?_
  refine TS.p tbk rfl rfl ?_
  refine TS.y rfl rfl rfl rfl (Y.load szk rfl rfl (fun w h => h.cell (i := 0) rfl rfl)) ?_
  refine TS.p tbk rfl rfl ?_
  refine TS.y rfl rfl rfl rfl (Y.load szk rfl rfl (fun w h => h.cell (i := 0) rfl rfl)) ?_
  refine TS.p tbk rfl rfl ?_
  refine TS.y rfl rfl rfl rfl (Y.load szk rfl rfl (fun w h => h.cell (i := 0) rfl rfl)) ?_
  refine TS.p tbk rfl rfl ?_
  refine TS.y rfl rfl rfl rfl (Y.load szk rfl rfl (fun w h => h.cell (i := 0) rfl rfl)) ?_
  refine TS.p tbk rfl rfl ?_
  refine TS.y rfl rfl rfl rfl (Y.load szk rfl rfl (fun w h => h.cell (i := 0) rfl rfl)) ?_
  refine TS.call0 rfl Tryz.call51 rfl rfl rfl (nameOf r.name hs) (fun _ _ => trivial) (fun _ => by simp) (fun _ => TS.and fun _ => ?_)
  have hnl := nameCells_length hs
  have hfl : flatC [.agg (nameCells r.name).toArray, .int .u16 (r.typ : Int), .int .u16 (r.cls : Int), .int .u32 (r.ttl : Int), .int .u16 (r.len : Int)] = rhCells r.name r.typ r.cls r.ttl r.len := flat_name _ (by simp [Value.oneCell'])
  have hb := build_seq (vs := [.agg (nameCells r.name).toArray, .int .u16 (r.typ : Int), .int .u16 (r.cls : Int), .int .u32 (r.ttl : Int), .int .u16 (r.len : Int)]) pl116 (by simp [contig, Value.cells, hnl]) (by rw [hfl, rhCells_length hs])
  rw [hfl] at hb
  refine TS.y rfl rfl rfl rfl (Y.build (pv := partsFrom 0 [.agg (nameCells r.name).toArray, .int .u16 (r.typ : Int), .int .u16 (r.cls : Int), .int .u32 (r.ttl : Int), .int .u16 (r.len : Int)]) rfl hb) ?_
  refine TS.stW (us := rhCells r.name r.typ r.cls r.ttl r.len) 0 rfl szk rfl rfl rfl rfl (rhCells_length hs) hz (by intro v hv; simp only [rhCells, List.mem_append] at hv; rcases hv with hv | hv; exact nameCells_one v hv; simp at hv; rcases hv with rfl | rfl | rfl | rfl <;> rfl) (by simp [setN]) ?_
  refine TS.nil ?_
  repeat (first | refine za rfl rfl ?_ | refine zb rfl ?_ | refine zc rfl ?_)
  exact T.retG Tryz.func49 (.cons (RV.cellW 0 szk rfl rfl rfl (rhCells_length hs)) .nil) (fun w hA => ⟨(), rfl, trivial, hA.sub (by simp)⟩)
end X
namespace X
theorem el55 : Elem Tryz.prog 55 9 1 16 := elem_of (by kernel_rfl)
theorem el173 : Elem Tryz.prog 173 250 2 32 := elem_of (by kernel_rfl)
theorem el178 : Elem Tryz.prog 178 262 2 32 := elem_of (by kernel_rfl)
theorem sl55 : (∃ e2, Tryz.prog.underlying 55 = some (.slice e2)) ∨ Tryz.prog.underlying 55 = some .string := .inl ⟨_, Tryz.underlying55⟩
theorem sl173 : (∃ e2, Tryz.prog.underlying 173 = some (.slice e2)) ∨ Tryz.prog.underlying 173 = some .string := .inl ⟨_, Tryz.underlying173⟩
theorem sl178 : (∃ e2, Tryz.prog.underlying 178 = some (.slice e2)) ∨ Tryz.prog.underlying 178 = some .string := .inl ⟨_, Tryz.underlying178⟩
theorem pl250 : placesOk Tryz.prog 250 [(0, 1), (1, 1)] 2 = true := by kernel_rfl
theorem pl262 : placesOk Tryz.prog 262 [(0, 1), (1, 1)] 2 = true := by kernel_rfl
theorem own0 (size : Nat) : Own [] 0 0 size [] := ⟨by simp, by simp, by simp, Nat.le_refl _⟩
/-- A block that a slice shows wholly, in a memory. -/
theorem mv_own {M : Mem} (hn : (M.map (·.1)).Nodup) {i b len cap size : Nat} {cs xs us : List Value} {t : TypeId} (hi : nth M i = some (b, .row cs t)) (ho : Own cs len cap size xs) {o : Nat} (hs : ∀ j v, nth us j = some v → nth xs (o + j) = some v) : RowAt (mv M) b o us :=
  mv_row hn hi fun j v hj => ho.nth (hs j v hj)
theorem SlB.of {M : Mem} (hn : (M.map (·.1)).Nodup) {i b cap : Nat} {cs : List Value} {t : TypeId} {B : Bs} (hi : nth M i = some (b, .row cs t)) (ho : Own cs B.length cap 1 (B.map bv)) : SlB (mv M) (.slice (some ⟨b, 0, none⟩) B.length cap) B :=
  .inr ⟨b, 0, cap, rfl, ho.le, mv_own hn hi ho fun j v hj => by rw [Nat.zero_add]; exact hj⟩
theorem SlB.srcN {X : List Nat} {w0 : World} {M : Mem} {v : Value} {l : Bs} (h : SlB (view X w0) v l) {q : Nat} (hq : q ≤ l.length) : SrcN Tryz.prog (St X w0 M) v l.length q ((l.take q).map bv) := by
  rcases h with ⟨⟨a, c, rfl⟩, rfl⟩ | ⟨b, o, cap, rfl, h2, h3⟩
  · have : q = 0 := by simpa using hq
    subst this
    cases a with
    | none => exact SrcN.nil
    | some a => exact SrcN.slice (fun w hA j u hj => by simp at hj) rfl (by simp)
  · refine SrcN.slice (fun w hA j u hj => ?_) (by simp; omega) (fun u hu => by obtain ⟨b, _, rfl⟩ := List.mem_map.1 hu; rfl)
    rw [add_zero']
    refine h3.cell hA.ext (i := j) ?_
    rw [nth_eq]
    rw [List.getElem?_map, List.getElem?_take] at hj
    split at hj
    · rw [List.getElem?_map]; exact hj
    · cases hj
theorem SlS.src {X : List Nat} {w0 : World} {M : Mem} {v : Value} {l : List Bs} (h : SlS (view X w0) v l) : Src Tryz.prog (St X w0 M) 1 v l.length (l.map str) := by
  rcases h with ⟨⟨a, c, rfl⟩, rfl⟩ | ⟨b, o, cap, rfl, h2, h3⟩
  · cases a with
    | none => exact Src.nil
    | some a => exact Src.slice (fun w hA j u hj => by simp at hj) rfl (by simp)
  · refine Src.slice (fun w hA j u hj => ?_) (by simp) (fun u hu => by obtain ⟨b, _, rfl⟩ := List.mem_map.1 hu; rfl)
    rw [add_zero']
    rw [List.getElem?_map] at hj
    obtain ⟨s, hs, rfl⟩ := Option.map_eq_some_iff.1 hj
    obtain ⟨cs, c1, c2, rfl⟩ := h3 j s (by rw [nth_eq]; exact hs)
    have := c2.cell hA.ext (i := 0) rfl
    simpa using this
/-- The three slices of a record. -/
def RcV (h : View) (r : Rc) (dv tv pv : Value) : Prop := SlB h dv r.data ∧ SlS h tv r.texts ∧ SlP h pv r.pairs
theorem RcV.mono {h h' : View} (hh : View.le h h') {r : Rc} {dv tv pv : Value} (k : RcV h r dv tv pv) : RcV h' r dv tv pv := ⟨k.1.mono hh, k.2.1.mono hh, k.2.2.mono hh⟩
abbrev ConvCt (fn : FuncId) (r : Rc) (dv tv pv : Value) : Prop :=
  Ct (β := Value × Mem) Tryz.prog fn [.agg (rcCells r dv tv pv).toArray] [] (fun w => RcV (view [] w) r dv tv pv) (fun y => .agg (bodyCells r y.1).toArray) (fun y _ => bodyX (mv y.2) r y.1) (fun y => y.2)
theorem rcCells_one {r : Rc} {dv tv pv : Value} (h1 : dv.oneCell' = true) (h2 : tv.oneCell' = true) (h3 : pv.oneCell' = true) : ∀ v ∈ rcCells r dv tv pv, v.oneCell' = true := by
  intro v hv
  simp only [rcCells, List.mem_cons, List.not_mem_nil, or_false] at hv
  rcases hv with rfl | rfl | rfl | rfl | rfl | rfl | rfl | rfl | rfl | rfl | rfl | rfl | rfl | rfl | rfl | rfl <;> first | rfl | assumption
theorem fix_splice (n : Nat) (d : Bs) : splice (List.replicate n (bv 0)) 0 ((d.take (min d.length n)).map bv) = (fix n d).map bv := by
  unfold splice fix
  simp only [List.take_zero, List.nil_append, List.drop_replicate, List.map_append, List.map_replicate]
  congr 1
  · congr 1
    rcases Nat.le_total d.length n with h | h
    · rw [Nat.min_eq_left h, List.take_length, List.take_of_length_le h]
    · rw [Nat.min_eq_right h]
  · congr 1
    simp; omega
theorem bytes_one (l : Bs) : ∀ v ∈ l.map bv, v.oneCell' = true := by intro v hv; obtain ⟨b, _, rfl⟩ := List.mem_map.1 hv; rfl
theorem optionsOf (l : List Pr) (hl : l.length ≤ 2000) (hd : ∀ p ∈ l, p.data.length ≤ 2000) (pv : Value) :
    Ct (β := Value × Mem) Tryz.prog 129 [pv] [] (fun w => SlP (view [] w) pv l) (fun y => y.1) (fun y _ => SlP (mv y.2) y.1 l) (fun y => y.2) := by
  intro w hS hx
  obtain ⟨a, cap, hsh, hcap⟩ := hx.shape
  subst hsh
  refine calls_of_T (m := 25) Tryz.func129 rfl rfl (by simp) hS ?_
  repeat (first | refine za rfl rfl ?_ | refine zb rfl ?_ | refine zc rfl ?_)
  refine TL.bs0 el173 rfl rfl (fun b1 => ?_)
  repeat (first | refine za rfl rfl ?_ | refine zb rfl ?_ | refine zc rfl ?_)
  refine T.loop (α := Nat × Nat × List Value × Nat × List Value × Mem) (fun x => [(3, .slice (some ⟨x.2.1, 0, none⟩) x.1 x.2.2.2.1), (7, .slice a l.length cap), (8, .int .i64 (l.length : Int)), (9, .int .i64 (x.1 : Int))])
    (fun x w' => (x.1 ≤ l.length ∧ Own x.2.2.1 x.1 x.2.2.2.1 2 x.2.2.2.2.1 ∧ ∀ j p, j < x.1 → nth l j = some p → ∃ dv, nth x.2.2.2.2.1 (j * 2) = some (.int .u16 (p.key : Int)) ∧ nth x.2.2.2.2.1 (j * 2 + 1) = some dv ∧ SlB (mv x.2.2.2.2.2) dv p.data) ∧ St (keys []) w ((x.2.1, .row x.2.2.1 250) :: x.2.2.2.2.2) w')
    (fun x => l.length - x.1) (0, b1, [], 0, [], []) ⟨rfl, rfl, rfl, rfl, trivial⟩ (fun w' hA => ⟨⟨Nat.zero_le _, own0 2, fun j p hj => (Nat.not_lt_zero _ hj).elim⟩, hA⟩) ?_
  rintro ⟨i, ab, acs, acap, axs, E⟩ ih
  refine T.and fun ⟨hi, hown, hall⟩ => ?_
  simp only at hi hown hall
  repeat (first | refine za rfl rfl ?_ | refine zb rfl ?_ | refine zc rfl ?_)
  by_cases hlt : i < l.length
  · refine T.condT rfl (by simpa using hlt) ?_
    obtain ⟨s, hs⟩ := nth_lt hlt
    obtain ⟨b, o, cap', cs, hv, _, _, hrs, dv, hcs, hdv⟩ := hx.at hs
    injection hv with hv1 _ hv3
    subst hv1 hv3 hcs
    obtain ⟨da, dcap, hdsh, hdcap⟩ := hdv.shape
    have hsl := hd s (nth_mem hs)
    subst hdsh
    repeat (first | refine za rfl rfl ?_ | refine zb rfl ?_ | refine zc rfl ?_)
    refine TL.ix (j := i) tbk rfl rfl rfl rfl rfl rfl hlt ?_
    refine TL.ldRA hrs szk rfl rfl rfl rfl rfl ?_
    refine TL.allocZ 2 Tryz.zeroValue110 rfl rfl rfl (fun lb zs hz => ?_)
    refine TL.stW (vs := [.int .u16 (s.key : Int), .slice da s.data.length dcap]) 0 szk rfl rfl rfl rfl rfl hz (by intro u hu; simp at hu; rcases hu with rfl | rfl <;> rfl) ?_
    repeat (first | refine za rfl rfl ?_ | refine zb rfl ?_ | refine zc rfl ?_)
    refine TS.start [(0, true), (1, true), (2, true), (4, true), (5, true), (3, false), (6, false), (7, true), (8, false), (9, false), (10, true)] [(lb, .row [.int .u16 (s.key : Int), .slice da s.data.length dcap] 110)] mixed (by kernel_rfl) (by kernel_rfl) (by decide) (by simp [setN]) ?_
    refine TS.p tbk rfl rfl ?_
    refine TS.p tbk rfl rfl ?_
    refine TS.y rfl rfl rfl rfl (Y.load szk rfl rfl (fun w h => h.cell (i := 0) rfl rfl)) ?_
    refine TS.p tbk rfl rfl ?_
    refine TS.y rfl rfl rfl rfl (Y.load szk rfl rfl (fun w h => h.cell (i := 0) rfl rfl)) ?_
    refine TS.bs0 rfl el37 rfl rfl (fun b => by simp [setN]) (fun nb => ?_)
    refine TS.append 0 rfl el37 sl37 rfl rfl rfl rfl rfl (own0 1) (SlB.src hdv) (by omega) (by omega) (fun b cs => by simp [setN]) (fun db dcs dc down => ?_)
    have hb := build_seq (vs := [.int .u16 (s.key : Int), .slice (some ⟨db, 0, none⟩) (0 + s.data.length) dc]) pl250 rfl rfl
    refine TS.y rfl rfl rfl rfl (Y.build (pv := partsFrom 0 [.int .u16 (s.key : Int), .slice (some ⟨db, 0, none⟩) (0 + s.data.length) dc]) rfl hb) ?_
    refine TS.bsA (us := [.int .u16 (s.key : Int), .slice (some ⟨db, 0, none⟩) (0 + s.data.length) dc]) rfl el173 rfl rfl (by decide) rfl rfl (fun b => by simp [setN]) (fun eb => ?_)
    refine TS.append (news := [.int .u16 (s.key : Int), .slice (some ⟨db, 0, none⟩) (0 + s.data.length) dc]) 3 rfl el173 sl173 rfl rfl rfl rfl rfl hown (Src.slice (fun w hA j u hj => by rw [add_zero', Nat.zero_add]; exact hA.cell (i := 0) rfl (by rw [nth_eq]; exact hj)) rfl (by intro u hu; simp at hu; rcases hu with rfl | rfl <;> rfl)) (by omega) (by omega) (fun b cs => by simp [setN]) (fun ab' acs' acap' aown' => ?_)
    refine TS.p tbk rfl rfl ?_
    refine TS.nil ?_
    repeat (first | refine za rfl rfl ?_ | refine zb rfl ?_ | refine zc rfl ?_)
    rw [add1_i64 (a := i) (by omega)]
    refine T.again ih (i + 1, ab', acs', acap', axs ++ [.int .u16 (s.key : Int), .slice (some ⟨db, 0, none⟩) (0 + s.data.length) dc], (db, .row dcs 5) :: E) (by simp; omega) ⟨rfl, rfl, rfl, rfl, trivial⟩ (fun w' hA => ?_)
    have hA' : St (keys []) w ((ab', .row acs' 250) :: (db, .row dcs 5) :: E) w' := (hA.sub (M' := [(db, .row dcs 5), (ab', .row acs' 250)] ++ E) (by simp [setN])).perm (List.Perm.swap _ _ _)
    have hnd := (List.nodup_cons.1 hA'.nd).2
    refine ⟨⟨by simp; omega, aown', fun j p hj hp => ?_⟩, hA'⟩
    simp only at hj
    have hxl := hown.length
    rcases Nat.lt_or_ge j i with hji | hji
    · obtain ⟨dv', h1, h2, h3⟩ := hall j p hji hp
      refine ⟨dv', ?_, ?_, h3.mono (mv_sub hnd fun p hp => List.mem_cons_of_mem _ hp)⟩
      · rw [nth_eq] at *; simp only; rw [List.getElem?_append_left (by omega)]; exact h1
      · rw [nth_eq] at *; simp only; rw [List.getElem?_append_left (by omega)]; exact h2
    · have : j = i := by omega
      subst this
      rw [hs] at hp
      simp only [Option.some.injEq] at hp
      subst hp
      refine ⟨.slice (some ⟨db, 0, none⟩) (0 + s.data.length) dc, ?_, ?_, ?_⟩
      · rw [nth_eq]; simp only; rw [List.getElem?_append_right (by omega), hxl]; simp
      · rw [nth_eq]; simp only; rw [List.getElem?_append_right (by omega), hxl, show j * 2 + 1 - j * 2 = 1 by omega]; simp
      · rw [Nat.zero_add]; exact SlB.of hnd (i := 0) rfl (by simpa using down)
  · refine T.condF rfl (by simpa using hlt) ?_
    have : i = l.length := by omega
    subst this
    repeat (first | refine za rfl rfl ?_ | refine zb rfl ?_ | refine zc rfl ?_)
    refine T.ret Tryz.func129 rfl (fun w' hA => ⟨(.slice (some ⟨ab, 0, none⟩) l.length acap, (ab, .row acs 250) :: E), rfl, ?_, hA⟩)
    refine .inr ⟨ab, 0, acap, rfl, hown.le, fun j p hp => ?_⟩
    obtain ⟨dv, h1, h2, h3⟩ := hall j p (by rw [nth_eq] at hp; exact (List.getElem?_eq_some_iff.1 hp).1) hp
    refine ⟨[.int .u16 (p.key : Int), dv], rfl, mv_own hA.nd (i := 0) rfl hown (fun k v hk => ?_), dv, rfl, h3.mono (mv_sub hA.nd fun p hp => List.mem_cons_of_mem _ hp)⟩
    rw [Nat.zero_add]
    match k, hk with
    | 0, hk => simp [nth] at hk; subst hk; exact h1
    | 1, hk => simp [nth] at hk; subst hk; exact h2
    | k + 2, hk => simp [nth] at hk
theorem paramsOf (l : List Pr) (hl : l.length ≤ 2000) (hd : ∀ p ∈ l, p.data.length ≤ 2000) (pv : Value) :
    Ct (β := Value × Mem) Tryz.prog 132 [pv] [] (fun w => SlP (view [] w) pv l) (fun y => y.1) (fun y _ => SlP (mv y.2) y.1 l) (fun y => y.2) := by
  intro w hS hx
  obtain ⟨a, cap, hsh, hcap⟩ := hx.shape
  subst hsh
  refine calls_of_T (m := 25) Tryz.func132 rfl rfl (by simp) hS ?_
  repeat (first | refine za rfl rfl ?_ | refine zb rfl ?_ | refine zc rfl ?_)
  refine TL.bs0 el178 rfl rfl (fun b1 => ?_)
  repeat (first | refine za rfl rfl ?_ | refine zb rfl ?_ | refine zc rfl ?_)
  refine T.loop (α := Nat × Nat × List Value × Nat × List Value × Mem) (fun x => [(3, .slice (some ⟨x.2.1, 0, none⟩) x.1 x.2.2.2.1), (7, .slice a l.length cap), (8, .int .i64 (l.length : Int)), (9, .int .i64 (x.1 : Int))])
    (fun x w' => (x.1 ≤ l.length ∧ Own x.2.2.1 x.1 x.2.2.2.1 2 x.2.2.2.2.1 ∧ ∀ j p, j < x.1 → nth l j = some p → ∃ dv, nth x.2.2.2.2.1 (j * 2) = some (.int .u16 (p.key : Int)) ∧ nth x.2.2.2.2.1 (j * 2 + 1) = some dv ∧ SlB (mv x.2.2.2.2.2) dv p.data) ∧ St (keys []) w ((x.2.1, .row x.2.2.1 262) :: x.2.2.2.2.2) w')
    (fun x => l.length - x.1) (0, b1, [], 0, [], []) ⟨rfl, rfl, rfl, rfl, trivial⟩ (fun w' hA => ⟨⟨Nat.zero_le _, own0 2, fun j p hj => (Nat.not_lt_zero _ hj).elim⟩, hA⟩) ?_
  rintro ⟨i, ab, acs, acap, axs, E⟩ ih
  refine T.and fun ⟨hi, hown, hall⟩ => ?_
  simp only at hi hown hall
  repeat (first | refine za rfl rfl ?_ | refine zb rfl ?_ | refine zc rfl ?_)
  by_cases hlt : i < l.length
  · refine T.condT rfl (by simpa using hlt) ?_
    obtain ⟨s, hs⟩ := nth_lt hlt
    obtain ⟨b, o, cap', cs, hv, _, _, hrs, dv, hcs, hdv⟩ := hx.at hs
    injection hv with hv1 _ hv3
    subst hv1 hv3 hcs
    obtain ⟨da, dcap, hdsh, hdcap⟩ := hdv.shape
    have hsl := hd s (nth_mem hs)
    subst hdsh
    repeat (first | refine za rfl rfl ?_ | refine zb rfl ?_ | refine zc rfl ?_)
    refine TL.ix (j := i) tbk rfl rfl rfl rfl rfl rfl hlt ?_
    refine TL.ldRA hrs szk rfl rfl rfl rfl rfl ?_
    refine TL.allocZ 2 Tryz.zeroValue110 rfl rfl rfl (fun lb zs hz => ?_)
    refine TL.stW (vs := [.int .u16 (s.key : Int), .slice da s.data.length dcap]) 0 szk rfl rfl rfl rfl rfl hz (by intro u hu; simp at hu; rcases hu with rfl | rfl <;> rfl) ?_
    repeat (first | refine za rfl rfl ?_ | refine zb rfl ?_ | refine zc rfl ?_)
    refine TS.start [(0, true), (1, true), (2, true), (4, true), (5, true), (3, false), (6, false), (7, true), (8, false), (9, false), (10, true)] [(lb, .row [.int .u16 (s.key : Int), .slice da s.data.length dcap] 110)] mixed (by kernel_rfl) (by kernel_rfl) (by decide) (by simp [setN]) ?_
    refine TS.p tbk rfl rfl ?_
    refine TS.p tbk rfl rfl ?_
    refine TS.y rfl rfl rfl rfl (Y.load szk rfl rfl (fun w h => h.cell (i := 0) rfl rfl)) ?_
    refine TS.p tbk rfl rfl ?_
    refine TS.y rfl rfl rfl rfl (Y.load szk rfl rfl (fun w h => h.cell (i := 0) rfl rfl)) ?_
    refine TS.bs0 rfl el37 rfl rfl (fun b => by simp [setN]) (fun nb => ?_)
    refine TS.append 0 rfl el37 sl37 rfl rfl rfl rfl rfl (own0 1) (SlB.src hdv) (by omega) (by omega) (fun b cs => by simp [setN]) (fun db dcs dc down => ?_)
    have hb := build_seq (vs := [.int .u16 (s.key : Int), .slice (some ⟨db, 0, none⟩) (0 + s.data.length) dc]) pl262 rfl rfl
    refine TS.y rfl rfl rfl rfl (Y.build (pv := partsFrom 0 [.int .u16 (s.key : Int), .slice (some ⟨db, 0, none⟩) (0 + s.data.length) dc]) rfl hb) ?_
    refine TS.bsA (us := [.int .u16 (s.key : Int), .slice (some ⟨db, 0, none⟩) (0 + s.data.length) dc]) rfl el178 rfl rfl (by decide) rfl rfl (fun b => by simp [setN]) (fun eb => ?_)
    refine TS.append (news := [.int .u16 (s.key : Int), .slice (some ⟨db, 0, none⟩) (0 + s.data.length) dc]) 3 rfl el178 sl178 rfl rfl rfl rfl rfl hown (Src.slice (fun w hA j u hj => by rw [add_zero', Nat.zero_add]; exact hA.cell (i := 0) rfl (by rw [nth_eq]; exact hj)) rfl (by intro u hu; simp at hu; rcases hu with rfl | rfl <;> rfl)) (by omega) (by omega) (fun b cs => by simp [setN]) (fun ab' acs' acap' aown' => ?_)
    refine TS.p tbk rfl rfl ?_
    refine TS.nil ?_
    repeat (first | refine za rfl rfl ?_ | refine zb rfl ?_ | refine zc rfl ?_)
    rw [add1_i64 (a := i) (by omega)]
    refine T.again ih (i + 1, ab', acs', acap', axs ++ [.int .u16 (s.key : Int), .slice (some ⟨db, 0, none⟩) (0 + s.data.length) dc], (db, .row dcs 5) :: E) (by simp; omega) ⟨rfl, rfl, rfl, rfl, trivial⟩ (fun w' hA => ?_)
    have hA' : St (keys []) w ((ab', .row acs' 262) :: (db, .row dcs 5) :: E) w' := (hA.sub (M' := [(db, .row dcs 5), (ab', .row acs' 262)] ++ E) (by simp [setN])).perm (List.Perm.swap _ _ _)
    have hnd := (List.nodup_cons.1 hA'.nd).2
    refine ⟨⟨by simp; omega, aown', fun j p hj hp => ?_⟩, hA'⟩
    simp only at hj
    have hxl := hown.length
    rcases Nat.lt_or_ge j i with hji | hji
    · obtain ⟨dv', h1, h2, h3⟩ := hall j p hji hp
      refine ⟨dv', ?_, ?_, h3.mono (mv_sub hnd fun p hp => List.mem_cons_of_mem _ hp)⟩
      · rw [nth_eq] at *; simp only; rw [List.getElem?_append_left (by omega)]; exact h1
      · rw [nth_eq] at *; simp only; rw [List.getElem?_append_left (by omega)]; exact h2
    · have : j = i := by omega
      subst this
      rw [hs] at hp
      simp only [Option.some.injEq] at hp
      subst hp
      refine ⟨.slice (some ⟨db, 0, none⟩) (0 + s.data.length) dc, ?_, ?_, ?_⟩
      · rw [nth_eq]; simp only; rw [List.getElem?_append_right (by omega), hxl]; simp
      · rw [nth_eq]; simp only; rw [List.getElem?_append_right (by omega), hxl, show j * 2 + 1 - j * 2 = 1 by omega]; simp
      · rw [Nat.zero_add]; exact SlB.of hnd (i := 0) rfl (by simpa using down)
  · refine T.condF rfl (by simpa using hlt) ?_
    have : i = l.length := by omega
    subst this
    repeat (first | refine za rfl rfl ?_ | refine zb rfl ?_ | refine zc rfl ?_)
    refine T.ret Tryz.func132 rfl (fun w' hA => ⟨(.slice (some ⟨ab, 0, none⟩) l.length acap, (ab, .row acs 262) :: E), rfl, ?_, hA⟩)
    refine .inr ⟨ab, 0, acap, rfl, hown.le, fun j p hp => ?_⟩
    obtain ⟨dv, h1, h2, h3⟩ := hall j p (by rw [nth_eq] at hp; exact (List.getElem?_eq_some_iff.1 hp).1) hp
    refine ⟨[.int .u16 (p.key : Int), dv], rfl, mv_own hA.nd (i := 0) rfl hown (fun k v hk => ?_), dv, rfl, h3.mono (mv_sub hA.nd fun p hp => List.mem_cons_of_mem _ hp)⟩
    rw [Nat.zero_add]
    match k, hk with
    | 0, hk => simp [nth] at hk; subst hk; exact h1
    | 1, hk => simp [nth] at hk; subst hk; exact h2
    | k + 2, hk => simp [nth] at hk
end X
end Go.Proofs.YtifnodoffgfpbaaGreatDoor
