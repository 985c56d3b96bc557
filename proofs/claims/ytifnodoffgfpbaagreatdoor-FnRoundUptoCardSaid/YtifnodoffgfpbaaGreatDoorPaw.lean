/- Contract: a record is turned back. -/
import Derived.Test.YtifnodoffgfpbaaGreatDoorPaq
namespace Go.Proofs.YtifnodoffgfpbaaGreatDoor
open Go
namespace X
def normZ (r : Rc) (len : Nat) : Rc := ⟨r.name, typeOf r, r.cls, r.ttl, len, r.kind, [], [], [], 0, 0, 0, 0, 0, [], []⟩
/-- What comes back of a record. -/
def norm (r : Rc) (len : Nat) : Rc := match r.kind.toNat with
  | 1 => { normZ r len with data := fix 4 r.data }
  | 2 => { normZ r len with host := r.host }
  | 3 => { normZ r len with host := r.host }
  | 4 => { normZ r len with host := r.host, box := r.box, n1 := r.n1, n2 := r.n2, n3 := r.n3, n4 := r.n4, n5 := r.n5 }
  | 5 => { normZ r len with host := r.host }
  | 6 => { normZ r len with host := r.host, n1 := r.n1 % 65536 }
  | 7 => { normZ r len with texts := r.texts }
  | 8 => { normZ r len with data := fix 16 r.data }
  | 9 => { normZ r len with host := r.host, n1 := r.n1 % 65536, n2 := r.n2 % 65536, n3 := r.n3 % 65536 }
  | 10 => { normZ r len with pairs := r.pairs }
  | 11 => { normZ r len with host := r.host, n1 := r.n1 % 65536, pairs := r.pairs }
  | 12 => { normZ r len with host := r.host, n1 := r.n1 % 65536, pairs := r.pairs }
  | _ => { normZ r len with data := r.data }
structure NY where
  d : Value
  t : Value
  p : Value
  E : Mem
abbrev nilS : Value := .slice none 0 0
theorem build98 (s : Bs) (t c ttl len : Nat) (w : World) : (Instr.build 98 #[(0, str s), (1, .int .u16 (t : Int)), (2, .int .u16 (c : Int)), (3, .int .u32 (ttl : Int)), (4, .int .u16 (len : Int))]).run Tryz.prog w =
    .ok (.agg (rcCells ⟨s, t, c, ttl, len, 0, [], [], [], 0, 0, 0, 0, 0, [], []⟩ nilS nilS nilS).toArray) w := by unfold str; kernel_rfl
def backPre (r : Rc) (rb : Nat) (w : World) : Prop := BodyMem (view [] w) rb 0 r
def recBack (r : Rc) (len rb : Nat) : Prop := Ct (β := NY) Tryz.prog 90 [.agg (rsU r len rb).toArray] [] (backPre r rb) (fun y => .agg (rcCells (norm r len) y.d y.t y.p).toArray) (fun y _ => RcV (mv y.E) (norm r len) y.d y.t y.p) (fun y => y.E)
abbrev rc0 (r : Rc) (len : Nat) : List Value := rcCells ⟨r.name, typeOf r, r.cls, r.ttl, len, 0, [], [], [], 0, 0, 0, 0, 0, [], []⟩ nilS nilS nilS
section
variable {P : Program} {f : FuncId} {n : Nat} {R : Ending → World → Prop} {k : List Item} {L : Fr} {ops : Array Oper} {X : List Nat} {w0 : World} {M Mq : Mem} {t t2 e : TypeId} {d : Nat} {ty : TypeId} {pos : String} {af : Array Edge} {g : Option (Nat × Bool)} {r m : Nat} {listed : Array Bool} {x y : Operand} {b len cap c : Nat} {cs us news : List Value} {u : Value}
theorem RS.bs0 {size bytes : Nat} (ho : nth ops.toList r = some ⟨some d, .buildSlice t 0 #[], ty, pos, af, g⟩) (he : Elem P t e size bytes) (hn : d.blt n = true) (hw : want ops L g = some true)
    (hS : ∀ b, ∀ p ∈ Mq, p ∈ (b, Ob.row [] e) :: M) (h : ∀ b, TR P f n R k ops (Kp X w0 Mq) m (listed.setIfInBounds r true) ((d, .slice (some ⟨b, 0, none⟩) 0 0) :: L) (St X w0 ((b, .row [] e) :: M))) : RS P f n R k ops (Kp X w0 Mq) r m listed L (St X w0 M) :=
  RS.op ho hw (OkOp.bs (vs := []) he rfl rfl (by simp) rfl (by simp) hn) (fun b w hA => Kp.of hA (hS b)) h
theorem RS.append {size bytes : Nat} (i : Nat) (ho : nth ops.toList r = some ⟨some d, .call { callee := .builtin .append, args := #[x, y], argTypes := #[t, t2] }, ty, pos, af, g⟩) (he : Elem P t e size bytes) (ht2 : (∃ e2, P.underlying t2 = some (.slice e2)) ∨ P.underlying t2 = some .string)
    (hi : nth M i = some (b, .row cs e)) (hx : ev L x = some (.slice (some ⟨b, 0, none⟩) len cap)) (hy : ev L y = some u) (hn : d.blt n = true) (hw : want ops L g = some true) (hown : Own cs len cap size us) (hs : Src P (St X w0 M) size u c news)
    (hfit : (len + c) * bytes ≤ 140737488355328) (h63 : len + c ≤ 4611686018427387904) (hS : ∀ b' cs', ∀ p ∈ Mq, p ∈ setN M i (b', Ob.row cs' e))
    (h : ∀ b' cs' cap', Own cs' (len + c) cap' size (us ++ news) → TR P f n R k ops (Kp X w0 Mq) m (listed.setIfInBounds r true) ((d, .slice (some ⟨b', 0, none⟩) (len + c) cap') :: L) (St X w0 (setN M i (b', .row cs' e)))) :
    RS P f n R k ops (Kp X w0 Mq) r m listed L (St X w0 M) :=
  RS.op ho hw (OkOp.append i he ht2 hi hx hy hn hown hs hfit h63) (fun q w hA => Kp.of hA.2 (hS _ _)) fun q => TR.and fun h1 => h q.1 q.2.1 q.2.2 h1
end
set_option maxHeartbeats 4000000 in
theorem recordOf (r : Rc) (hr : r.Ok) (len rb : Nat) : recBack r len rb := by
  intro w hS ⟨xv, hrow, hx⟩
  have h255 : r.name.length ≤ 255 := by have := hr.name.len; omega
  have hrl := rhCells_length (t := typeOf r) (c := r.cls) (ttl := r.ttl) (len := len) h255
  have hnl := nameCells_length h255
  have hg : ∀ j v, nth (rhCells r.name (typeOf r) r.cls r.ttl len) j = some v → nth (rsU r len rb) (0 + 0 + j) = some v := fun j v hj => by
    rw [nth_eq] at *
    simp only [Nat.zero_add]; rw [rsU, List.getElem?_append_left (List.getElem?_eq_some_iff.1 hj).1]; exact hj
  have hif : nth (rsU r len rb) (0 + 260) = some (.iface (ifTy r.kind.toNat) (ptr rb 0)) := by
    rw [nth_eq, rsU, Nat.zero_add, List.getElem?_append_right (by omega), hrl]; rfl
  have hq : ∀ i, nth (rhCells r.name (typeOf r) r.cls r.ttl len) (0 + (256 + i)) = nth [.int .u16 (typeOf r : Int), .int .u16 (r.cls : Int), .int .u32 (r.ttl : Int), .int .u16 (len : Int)] i := fun i => by rw [Nat.zero_add, rh_at h255]
  refine calls_of_T (m := 269) Tryz.func90 rfl rfl (by simp) hS ?_
  repeat (first | refine za rfl rfl ?_ | refine zb rfl ?_ | refine zc rfl ?_)
  refine TL.box (cs := rsU r len rb) rfl rfl rfl rfl (fun xb => ?_)
  refine TL.allocZ 16 Tryz.zeroValue98 rfl rfl rfl (fun ob zs hz => ?_)
  repeat (first | refine za rfl rfl ?_ | refine zb rfl ?_ | refine zc rfl ?_)
  refine TL.ldS (vs := rhCells r.name (typeOf r) r.cls r.ttl len) 1 szk rfl rfl rfl hrl hg rfl rfl ?_
  refine TL.alloc (cs := rhCells0) zero116 rfl rfl rfl (fun hb => ?_)
  refine TL.stW (vs := rhCells r.name (typeOf r) r.cls r.ttl len) 0 szk rfl rfl rfl rfl hrl rh0_length rhCells_one ?_
  repeat (first | refine za rfl rfl ?_ | refine zb rfl ?_ | refine zc rfl ?_)
  refine T.mergeA (α := Nat) (fun tb_ => [(1, ptr xb 0), (2, ptr ob 0), (4, ptr tb_ 0)]) (fun tb_ w' => St (keys []) w [(tb_, .row (rc0 r len) 98), (ob, .row zs 98), (xb, .row (rsU r len rb) 122)] w') ?_ (fun H => ?_)
  case refine_2 =>
    refine TR.start 14 [(hb, .row (rhCells r.name (typeOf r) r.cls r.ttl len) 116)] mixed (by kernel_rfl) (by decide) (by simp [setN]) ?_
    refine TR.p 0 tbk rfl (by kernel_rfl) (by kernel_rfl) rfl ?_
    refine TR.q 1 rfl (by kernel_rfl) (by kernel_rfl) rfl rfl rfl (Y.loadA szk rfl rfl hnl (fun w h i v hv => h.cell (i := 0) rfl (by have := rh_name (t := typeOf r) (c := r.cls) (ttl := r.ttl) (len := len) h255 i v hv; simp only [Nat.zero_add] at this ⊢; exact this))) ?_
    refine TR.p 3 tbk rfl (by kernel_rfl) (by kernel_rfl) rfl ?_
    refine TR.q 4 rfl (by kernel_rfl) (by kernel_rfl) rfl rfl rfl (Y.load szk rfl rfl (fun w h => h.cell (i := 0) rfl (hq 0))) ?_
    refine TR.p 5 tbk rfl (by kernel_rfl) (by kernel_rfl) rfl ?_
    refine TR.q 6 rfl (by kernel_rfl) (by kernel_rfl) rfl rfl rfl (Y.load szk rfl rfl (fun w h => h.cell (i := 0) rfl (hq 1))) ?_
    refine TR.p 7 tbk rfl (by kernel_rfl) (by kernel_rfl) rfl ?_
    refine TR.q 8 rfl (by kernel_rfl) (by kernel_rfl) rfl rfl rfl (Y.load szk rfl rfl (fun w h => h.cell (i := 0) rfl (hq 2))) ?_
    refine TR.p 9 tbk rfl (by kernel_rfl) (by kernel_rfl) rfl ?_
    refine TR.q 10 rfl (by kernel_rfl) (by kernel_rfl) rfl rfl rfl (Y.load szk rfl rfl (fun w h => h.cell (i := 0) rfl (hq 3))) ?_
    refine TR.two (i := 2) (j := 12) (by kernel_rfl) ?_ ?_
    case refine_2 =>
      refine RS.allocZ 16 rfl Tryz.zeroValue98 rfl rfl rfl (fun _ _ => by simp [setN]) (fun tb_ ts hts => ?_)
      refine TR.lin [(2, false), (11, true), (13, false)] (by kernel_rfl) rfl ?_
      refine TS.call0 rfl Tryz.call89 rfl rfl rfl (textOf r.name h255) (fun _ _ => trivial) (fun _ => by simp [setN]) (fun _ => TS.and fun _ => ?_)
      refine TS.y rfl rfl rfl rfl (Y.build rfl (build98 r.name (typeOf r) r.cls r.ttl len)) ?_
      refine TS.stW (us := rc0 r len) 0 rfl szk rfl rfl rfl rfl rfl hts (rcCells_one rfl rfl rfl) (by simp [setN]) ?_
      refine TS.nil ?_
      exact T.sub (L' := [(1, ptr xb 0), (2, ptr ob 0), (4, ptr tb_ 0)]) ⟨rfl, rfl, rfl, trivial⟩ (T.mono (fun w hA => hA.sub (List.Sublist.cons_cons _ (List.Sublist.cons _ (List.Sublist.refl _)))) (H tb_))
    refine RS.call0 rfl Tryz.call89 rfl rfl rfl (textOf r.name h255) (fun _ _ => trivial) (fun _ => by simp [setN]) (fun _ => TR.and fun _ => ?_)
    refine TR.lin [(11, true), (12, false), (13, false)] (by kernel_rfl) rfl ?_
    refine TS.y rfl rfl rfl rfl (Y.build rfl (build98 r.name (typeOf r) r.cls r.ttl len)) ?_
    refine TS.allocZ 16 rfl Tryz.zeroValue98 rfl rfl rfl (fun _ _ => by simp [setN]) (fun tb_ ts hts => ?_)
    refine TS.stW (us := rc0 r len) 0 rfl szk rfl rfl rfl rfl rfl hts (rcCells_one rfl rfl rfl) (by simp [setN]) ?_
    refine TS.nil ?_
    exact T.sub (L' := [(1, ptr xb 0), (2, ptr ob 0), (4, ptr tb_ 0)]) ⟨rfl, rfl, rfl, trivial⟩ (T.mono (fun w hA => hA.sub (List.Sublist.cons_cons _ (List.Sublist.cons _ (List.Sublist.refl _)))) (H tb_))
  intro tb_
  repeat (first | refine za rfl rfl ?_ | refine zb rfl ?_ | refine zc rfl ?_)
  refine TL.ld 2 szk rfl rfl rfl hif rfl rfl ?_
  rcases kind_cases hr with k | k | k | k | k | k | k | k | k | k | k | k | k
  · have e := congrArg Int.toNat k
    rw [show ifTy r.kind.toNat = 214 by rw [e]; rfl]
    simp only [bodyCells, e] at hrow
    simp only [bodyX, e] at hx
    repeat (first | refine za rfl rfl ?_ | refine zb rfl ?_ | refine zc rfl ?_)
    refine TL.y rfl rfl rfl (Y.asY Tryz.underlying214 (by intro ms h; cases h) rfl) ?_
    repeat (first | refine za rfl rfl ?_ | refine zb rfl ?_ | refine zc rfl ?_)
    refine T.condT rfl rfl ?_
    repeat (first | refine za rfl rfl ?_ | refine zb rfl ?_ | refine zc rfl ?_)
    refine TL.bs0 el37 rfl rfl (fun b1 => ?_)
    repeat (first | refine za rfl rfl ?_ | refine zb rfl ?_ | refine zc rfl ?_)
    have hfl := fix_length 4 r.data
    refine TL.slA tbk rfl rfl rfl rfl ?_
    refine TL.append (m := 4) (news := (fix 4 r.data).map bv) 0 el37 sl37 rfl rfl rfl rfl rfl (own0 1) (Src.slice (fun w' hA j u hj => by rw [add_zero']; exact hrow.cell hA.ext (by rw [nth_eq]; exact hj)) (by rw [List.length_map, hfl]) (bytes_one _)) (by omega) (by omega) (fun db dcs dc down => ?_)
    rw [List.nil_append] at down
    rw [show 0 + 4 = (fix 4 r.data).length by rw [hfl]] at down ⊢
    repeat (first | refine za rfl rfl ?_ | refine zb rfl ?_ | refine zc rfl ?_)
    refine TL.st 1 szk rfl rfl rfl rfl rfl rfl ?_
    repeat (first | refine za rfl rfl ?_ | refine zb rfl ?_ | refine zc rfl ?_)
    refine TL.st 1 szk rfl rfl rfl rfl rfl rfl ?_
    repeat (first | refine za rfl rfl ?_ | refine zb rfl ?_ | refine zc rfl ?_)
    have hnm : norm r len = ⟨r.name, typeOf r, r.cls, r.ttl, len, 1, (fix 4 r.data), [], [], 0, 0, 0, 0, 0, [], []⟩ := by unfold norm; rw [e]; simp only [normZ, k]; rfl
    rw [hnm]
    refine TL.ldW (cs := rcCells ⟨r.name, typeOf r, r.cls, r.ttl, len, 1, (fix 4 r.data), [], [], 0, 0, 0, 0, 0, [], []⟩ (.slice (some ⟨db, 0, none⟩) (fix 4 r.data).length dc) nilS nilS) 1 szk rfl rfl rfl rfl rfl rfl ?_
    refine TL.stW (vs := rcCells ⟨r.name, typeOf r, r.cls, r.ttl, len, 1, (fix 4 r.data), [], [], 0, 0, 0, 0, 0, [], []⟩ (.slice (some ⟨db, 0, none⟩) (fix 4 r.data).length dc) nilS nilS) 2 szk rfl rfl rfl rfl rfl hz (rcCells_one rfl rfl rfl) ?_
    repeat (first | refine za rfl rfl ?_ | refine zb rfl ?_ | refine zc rfl ?_)
    exact T.retG Tryz.func90 (.cons (RV.cellW 2 szk rfl rfl rfl rfl) .nil) (fun w hA => ⟨⟨.slice (some ⟨db, 0, none⟩) (fix 4 r.data).length dc, nilS, nilS, [(db, .row dcs 5)]⟩, rfl, ⟨SlB.of (by simp) (i := 0) rfl down, .inl ⟨⟨_, _, rfl⟩, rfl⟩, .inl ⟨⟨_, _, rfl⟩, rfl⟩⟩, hA.sub (by simp [setN])⟩)
  · have e := congrArg Int.toNat k
    rw [show ifTy r.kind.toNat = 215 by rw [e]; rfl]
    simp only [bodyCells, e] at hrow
    simp only [bodyX, e] at hx
    repeat (first | refine za rfl rfl ?_ | refine zb rfl ?_ | refine zc rfl ?_)
    refine TL.y rfl rfl rfl (Y.asN Tryz.underlying214 (by intro ms h; cases h) rfl rfl Tryz.zeroValue214) ?_
    repeat (first | refine za rfl rfl ?_ | refine zb rfl ?_ | refine zc rfl ?_)
    refine T.condF rfl rfl ?_
    repeat (first | refine za rfl rfl ?_ | refine zb rfl ?_ | refine zc rfl ?_)
    refine TL.y rfl rfl rfl (Y.asY Tryz.underlying215 (by intro ms h; cases h) rfl) ?_
    repeat (first | refine za rfl rfl ?_ | refine zb rfl ?_ | refine zc rfl ?_)
    refine T.condT rfl rfl ?_
    repeat (first | refine za rfl rfl ?_ | refine zb rfl ?_ | refine zc rfl ?_)
    obtain ⟨hn, hl⟩ := hr.host (by rw [k]; decide)
    have h255h : r.host.length ≤ 255 := by have := hn.len; omega
    refine TL.ldRA hrow szk rfl rfl (nameCells_length h255h) rfl rfl ?_
    refine TL.call0 Tryz.call89 rfl rfl rfl (textOf r.host h255h) (fun _ _ => trivial) (fun _ => TL.and fun _ => ?_)
    repeat (first | refine za rfl rfl ?_ | refine zb rfl ?_ | refine zc rfl ?_)
    refine TL.st 0 szk rfl rfl rfl rfl rfl rfl ?_
    repeat (first | refine za rfl rfl ?_ | refine zb rfl ?_ | refine zc rfl ?_)
    refine TL.st 0 szk rfl rfl rfl rfl rfl rfl ?_
    repeat (first | refine za rfl rfl ?_ | refine zb rfl ?_ | refine zc rfl ?_)
    have hnm : norm r len = ⟨r.name, typeOf r, r.cls, r.ttl, len, 2, [], r.host, [], 0, 0, 0, 0, 0, [], []⟩ := by unfold norm; rw [e]; simp only [normZ, k]; rfl
    rw [hnm]
    refine TL.ldW (cs := rcCells ⟨r.name, typeOf r, r.cls, r.ttl, len, 2, [], r.host, [], 0, 0, 0, 0, 0, [], []⟩ nilS nilS nilS) 0 szk rfl rfl rfl rfl rfl rfl ?_
    refine TL.stW (vs := rcCells ⟨r.name, typeOf r, r.cls, r.ttl, len, 2, [], r.host, [], 0, 0, 0, 0, 0, [], []⟩ nilS nilS nilS) 1 szk rfl rfl rfl rfl rfl hz (rcCells_one rfl rfl rfl) ?_
    repeat (first | refine za rfl rfl ?_ | refine zb rfl ?_ | refine zc rfl ?_)
    exact T.retG Tryz.func90 (.cons (RV.cellW 1 szk rfl rfl rfl rfl) .nil) (fun w hA => ⟨⟨nilS, nilS, nilS, []⟩, rfl, ⟨.inl ⟨⟨_, _, rfl⟩, rfl⟩, .inl ⟨⟨_, _, rfl⟩, rfl⟩, .inl ⟨⟨_, _, rfl⟩, rfl⟩⟩, hA.sub (by simp)⟩)
  · have e := congrArg Int.toNat k
    rw [show ifTy r.kind.toNat = 216 by rw [e]; rfl]
    simp only [bodyCells, e] at hrow
    simp only [bodyX, e] at hx
    repeat (first | refine za rfl rfl ?_ | refine zb rfl ?_ | refine zc rfl ?_)
    refine TL.y rfl rfl rfl (Y.asN Tryz.underlying214 (by intro ms h; cases h) rfl rfl Tryz.zeroValue214) ?_
    repeat (first | refine za rfl rfl ?_ | refine zb rfl ?_ | refine zc rfl ?_)
    refine T.condF rfl rfl ?_
    repeat (first | refine za rfl rfl ?_ | refine zb rfl ?_ | refine zc rfl ?_)
    refine TL.y rfl rfl rfl (Y.asN Tryz.underlying215 (by intro ms h; cases h) rfl rfl Tryz.zeroValue215) ?_
    repeat (first | refine za rfl rfl ?_ | refine zb rfl ?_ | refine zc rfl ?_)
    refine T.condF rfl rfl ?_
    repeat (first | refine za rfl rfl ?_ | refine zb rfl ?_ | refine zc rfl ?_)
    refine TL.y rfl rfl rfl (Y.asY Tryz.underlying216 (by intro ms h; cases h) rfl) ?_
    repeat (first | refine za rfl rfl ?_ | refine zb rfl ?_ | refine zc rfl ?_)
    refine T.condT rfl rfl ?_
    repeat (first | refine za rfl rfl ?_ | refine zb rfl ?_ | refine zc rfl ?_)
    obtain ⟨hn, hl⟩ := hr.host (by rw [k]; decide)
    have h255h : r.host.length ≤ 255 := by have := hn.len; omega
    refine TL.ldRA hrow szk rfl rfl (nameCells_length h255h) rfl rfl ?_
    refine TL.call0 Tryz.call89 rfl rfl rfl (textOf r.host h255h) (fun _ _ => trivial) (fun _ => TL.and fun _ => ?_)
    repeat (first | refine za rfl rfl ?_ | refine zb rfl ?_ | refine zc rfl ?_)
    refine TL.st 0 szk rfl rfl rfl rfl rfl rfl ?_
    repeat (first | refine za rfl rfl ?_ | refine zb rfl ?_ | refine zc rfl ?_)
    refine TL.st 0 szk rfl rfl rfl rfl rfl rfl ?_
    repeat (first | refine za rfl rfl ?_ | refine zb rfl ?_ | refine zc rfl ?_)
    have hnm : norm r len = ⟨r.name, typeOf r, r.cls, r.ttl, len, 3, [], r.host, [], 0, 0, 0, 0, 0, [], []⟩ := by unfold norm; rw [e]; simp only [normZ, k]; rfl
    rw [hnm]
    refine TL.ldW (cs := rcCells ⟨r.name, typeOf r, r.cls, r.ttl, len, 3, [], r.host, [], 0, 0, 0, 0, 0, [], []⟩ nilS nilS nilS) 0 szk rfl rfl rfl rfl rfl rfl ?_
    refine TL.stW (vs := rcCells ⟨r.name, typeOf r, r.cls, r.ttl, len, 3, [], r.host, [], 0, 0, 0, 0, 0, [], []⟩ nilS nilS nilS) 1 szk rfl rfl rfl rfl rfl hz (rcCells_one rfl rfl rfl) ?_
    repeat (first | refine za rfl rfl ?_ | refine zb rfl ?_ | refine zc rfl ?_)
    exact T.retG Tryz.func90 (.cons (RV.cellW 1 szk rfl rfl rfl rfl) .nil) (fun w hA => ⟨⟨nilS, nilS, nilS, []⟩, rfl, ⟨.inl ⟨⟨_, _, rfl⟩, rfl⟩, .inl ⟨⟨_, _, rfl⟩, rfl⟩, .inl ⟨⟨_, _, rfl⟩, rfl⟩⟩, hA.sub (by simp)⟩)
  · have e := congrArg Int.toNat k
    rw [show ifTy r.kind.toNat = 217 by rw [e]; rfl]
    simp only [bodyCells, e] at hrow
    simp only [bodyX, e] at hx
    repeat (first | refine za rfl rfl ?_ | refine zb rfl ?_ | refine zc rfl ?_)
    refine TL.y rfl rfl rfl (Y.asN Tryz.underlying214 (by intro ms h; cases h) rfl rfl Tryz.zeroValue214) ?_
    repeat (first | refine za rfl rfl ?_ | refine zb rfl ?_ | refine zc rfl ?_)
    refine T.condF rfl rfl ?_
    repeat (first | refine za rfl rfl ?_ | refine zb rfl ?_ | refine zc rfl ?_)
    refine TL.y rfl rfl rfl (Y.asN Tryz.underlying215 (by intro ms h; cases h) rfl rfl Tryz.zeroValue215) ?_
    repeat (first | refine za rfl rfl ?_ | refine zb rfl ?_ | refine zc rfl ?_)
    refine T.condF rfl rfl ?_
    repeat (first | refine za rfl rfl ?_ | refine zb rfl ?_ | refine zc rfl ?_)
    refine TL.y rfl rfl rfl (Y.asN Tryz.underlying216 (by intro ms h; cases h) rfl rfl Tryz.zeroValue216) ?_
    repeat (first | refine za rfl rfl ?_ | refine zb rfl ?_ | refine zc rfl ?_)
    refine T.condF rfl rfl ?_
    repeat (first | refine za rfl rfl ?_ | refine zb rfl ?_ | refine zc rfl ?_)
    refine TL.y rfl rfl rfl (Y.asY Tryz.underlying217 (by intro ms h; cases h) rfl) ?_
    repeat (first | refine za rfl rfl ?_ | refine zb rfl ?_ | refine zc rfl ?_)
    refine T.condT rfl rfl ?_
    repeat (first | refine za rfl rfl ?_ | refine zb rfl ?_ | refine zc rfl ?_)
    obtain ⟨hn, hl⟩ := hr.host (by rw [k]; decide)
    obtain ⟨hbn, hbl⟩ := hr.box k
    have h255h : r.host.length ≤ 255 := by have := hn.len; omega
    have h255b : r.box.length ≤ 255 := by have := hbn.len; omega
    have hn1 := nameCells_length h255h
    have hn2 := nameCells_length h255b
    have hrow : RowAt (view (keys []) w) rb 0 (nameCells r.host ++ (nameCells r.box ++ [Value.int .u32 (r.n1 : Int), .int .u32 (r.n2 : Int), .int .u32 (r.n3 : Int), .int .u32 (r.n4 : Int), .int .u32 (r.n5 : Int)])) := hrow
    have at1 : ∀ i, nth (nameCells r.host ++ (nameCells r.box ++ [Value.int .u32 (r.n1 : Int), .int .u32 (r.n2 : Int), .int .u32 (r.n3 : Int), .int .u32 (r.n4 : Int), .int .u32 (r.n5 : Int)])) (512 + i) = nth [Value.int .u32 (r.n1 : Int), .int .u32 (r.n2 : Int), .int .u32 (r.n3 : Int), .int .u32 (r.n4 : Int), .int .u32 (r.n5 : Int)] i := fun i => by
      rw [nth_eq, nth_eq, List.getElem?_append_right (by omega), List.getElem?_append_right (by omega), hn1, hn2]
      rw [show 512 + i - 256 - 256 = i by omega]
    refine TS.start [(0, true), (1, true), (2, true), (3, true), (5, true), (6, true), (7, true), (8, true), (10, true), (4, false), (9, false), (11, false), (12, true), (13, false), (14, true), (15, false)] [] mixed (by kernel_rfl) (by kernel_rfl) (by decide) (by simp) ?_
    repeat refine TS.p tbk rfl rfl ?_
    refine TS.y rfl rfl rfl rfl (Y.loadA szk rfl rfl hn1 (fun w h i v hv => (hrow.part (i := 0) (us := nameCells r.host) (fun j v hj => by rw [nth_eq] at *; rw [Nat.zero_add, List.getElem?_append_left (List.getElem?_eq_some_iff.1 hj).1]; exact hj) rfl).cell h.1 hv)) ?_
    repeat refine TS.p tbk rfl rfl ?_
    refine TS.y rfl rfl rfl rfl (Y.loadA szk rfl rfl hn2 (fun w h i v hv => (hrow.part (i := 256) (us := nameCells r.box) (fun j v hj => by rw [nth_eq] at *; rw [List.getElem?_append_right (by omega), hn1, Nat.add_sub_cancel_left, List.getElem?_append_left (List.getElem?_eq_some_iff.1 hj).1]; exact hj) rfl).cell h.1 hv)) ?_
    refine TS.p tbk rfl rfl ?_
    refine TS.call0 rfl Tryz.call89 rfl rfl rfl (textOf r.host h255h) (fun _ _ => trivial) (fun _ => by simp) (fun _ => TS.and fun _ => ?_)
    refine TS.call0 rfl Tryz.call89 rfl rfl rfl (textOf r.box h255b) (fun _ _ => trivial) (fun _ => by simp) (fun _ => TS.and fun _ => ?_)
    refine TS.st 0 rfl szk rfl rfl rfl rfl rfl rfl (by simp) ?_
    refine TS.p tbk rfl rfl ?_
    refine TS.st 0 rfl szk rfl rfl rfl rfl rfl rfl (by simp) ?_
    refine TS.p tbk rfl rfl ?_
    refine TS.st 0 rfl szk rfl rfl rfl rfl rfl rfl (by simp) ?_
    refine TS.nil ?_
    repeat (first | refine za rfl rfl ?_ | refine zb rfl ?_ | refine zc rfl ?_)
    refine TS.start [(0, true), (1, true), (2, true), (3, true), (4, true), (5, true), (6, true), (7, true), (8, true), (9, true), (10, true), (11, true), (12, true), (13, true), (14, true), (15, true), (16, true), (17, true), (18, true), (19, true), (20, true), (21, false), (22, true), (23, false), (24, true), (25, false), (26, true), (27, false), (28, true), (29, false)] [] mixed (by kernel_rfl) (by kernel_rfl) (by decide) (by simp) ?_
    repeat refine TS.p tbk rfl rfl ?_
    refine TS.y rfl rfl rfl rfl (Y.load szk rfl rfl (fun w h => (hrow.one (i := 512) (at1 0) rfl).cell h.1 (i := 0) rfl)) ?_
    repeat refine TS.p tbk rfl rfl ?_
    refine TS.y rfl rfl rfl rfl (Y.load szk rfl rfl (fun w h => (hrow.one (i := 513) (at1 1) rfl).cell h.1 (i := 0) rfl)) ?_
    repeat refine TS.p tbk rfl rfl ?_
    refine TS.y rfl rfl rfl rfl (Y.load szk rfl rfl (fun w h => (hrow.one (i := 514) (at1 2) rfl).cell h.1 (i := 0) rfl)) ?_
    repeat refine TS.p tbk rfl rfl ?_
    refine TS.y rfl rfl rfl rfl (Y.load szk rfl rfl (fun w h => (hrow.one (i := 515) (at1 3) rfl).cell h.1 (i := 0) rfl)) ?_
    repeat refine TS.p tbk rfl rfl ?_
    refine TS.y rfl rfl rfl rfl (Y.load szk rfl rfl (fun w h => (hrow.one (i := 516) (at1 4) rfl).cell h.1 (i := 0) rfl)) ?_
    refine TS.p tbk rfl rfl ?_
    refine TS.st 0 rfl szk rfl rfl rfl rfl rfl rfl (by simp) ?_
    refine TS.p tbk rfl rfl ?_
    refine TS.st 0 rfl szk rfl rfl rfl rfl rfl rfl (by simp) ?_
    refine TS.p tbk rfl rfl ?_
    refine TS.st 0 rfl szk rfl rfl rfl rfl rfl rfl (by simp) ?_
    refine TS.p tbk rfl rfl ?_
    refine TS.st 0 rfl szk rfl rfl rfl rfl rfl rfl (by simp) ?_
    refine TS.p tbk rfl rfl ?_
    refine TS.st 0 rfl szk rfl rfl rfl rfl rfl rfl (by simp) ?_
    refine TS.nil ?_
    repeat (first | refine za rfl rfl ?_ | refine zb rfl ?_ | refine zc rfl ?_)
    have hnm : norm r len = ⟨r.name, typeOf r, r.cls, r.ttl, len, 4, [], r.host, r.box, r.n1, r.n2, r.n3, r.n4, r.n5, [], []⟩ := by unfold norm; rw [e]; simp only [normZ, k]; rfl
    rw [hnm]
    refine TL.ldW (cs := rcCells ⟨r.name, typeOf r, r.cls, r.ttl, len, 4, [], r.host, r.box, r.n1, r.n2, r.n3, r.n4, r.n5, [], []⟩ nilS nilS nilS) 0 szk rfl rfl rfl rfl rfl rfl ?_
    refine TL.stW (vs := rcCells ⟨r.name, typeOf r, r.cls, r.ttl, len, 4, [], r.host, r.box, r.n1, r.n2, r.n3, r.n4, r.n5, [], []⟩ nilS nilS nilS) 1 szk rfl rfl rfl rfl rfl hz (rcCells_one rfl rfl rfl) ?_
    repeat (first | refine za rfl rfl ?_ | refine zb rfl ?_ | refine zc rfl ?_)
    exact T.retG Tryz.func90 (.cons (RV.cellW 1 szk rfl rfl rfl rfl) .nil) (fun w hA => ⟨⟨nilS, nilS, nilS, []⟩, rfl, ⟨.inl ⟨⟨_, _, rfl⟩, rfl⟩, .inl ⟨⟨_, _, rfl⟩, rfl⟩, .inl ⟨⟨_, _, rfl⟩, rfl⟩⟩, hA.sub (by simp)⟩)
  · have e := congrArg Int.toNat k
    rw [show ifTy r.kind.toNat = 218 by rw [e]; rfl]
    simp only [bodyCells, e] at hrow
    simp only [bodyX, e] at hx
    repeat (first | refine za rfl rfl ?_ | refine zb rfl ?_ | refine zc rfl ?_)
    refine TL.y rfl rfl rfl (Y.asN Tryz.underlying214 (by intro ms h; cases h) rfl rfl Tryz.zeroValue214) ?_
    repeat (first | refine za rfl rfl ?_ | refine zb rfl ?_ | refine zc rfl ?_)
    refine T.condF rfl rfl ?_
    repeat (first | refine za rfl rfl ?_ | refine zb rfl ?_ | refine zc rfl ?_)
    refine TL.y rfl rfl rfl (Y.asN Tryz.underlying215 (by intro ms h; cases h) rfl rfl Tryz.zeroValue215) ?_
    repeat (first | refine za rfl rfl ?_ | refine zb rfl ?_ | refine zc rfl ?_)
    refine T.condF rfl rfl ?_
    repeat (first | refine za rfl rfl ?_ | refine zb rfl ?_ | refine zc rfl ?_)
    refine TL.y rfl rfl rfl (Y.asN Tryz.underlying216 (by intro ms h; cases h) rfl rfl Tryz.zeroValue216) ?_
    repeat (first | refine za rfl rfl ?_ | refine zb rfl ?_ | refine zc rfl ?_)
    refine T.condF rfl rfl ?_
    repeat (first | refine za rfl rfl ?_ | refine zb rfl ?_ | refine zc rfl ?_)
    refine TL.y rfl rfl rfl (Y.asN Tryz.underlying217 (by intro ms h; cases h) rfl rfl Tryz.zeroValue217) ?_
    repeat (first | refine za rfl rfl ?_ | refine zb rfl ?_ | refine zc rfl ?_)
    refine T.condF rfl rfl ?_
    repeat (first | refine za rfl rfl ?_ | refine zb rfl ?_ | refine zc rfl ?_)
    refine TL.y rfl rfl rfl (Y.asY Tryz.underlying218 (by intro ms h; cases h) rfl) ?_
    repeat (first | refine za rfl rfl ?_ | refine zb rfl ?_ | refine zc rfl ?_)
    refine T.condT rfl rfl ?_
    repeat (first | refine za rfl rfl ?_ | refine zb rfl ?_ | refine zc rfl ?_)
    obtain ⟨hn, hl⟩ := hr.host (by rw [k]; decide)
    have h255h : r.host.length ≤ 255 := by have := hn.len; omega
    refine TL.ldRA hrow szk rfl rfl (nameCells_length h255h) rfl rfl ?_
    refine TL.call0 Tryz.call89 rfl rfl rfl (textOf r.host h255h) (fun _ _ => trivial) (fun _ => TL.and fun _ => ?_)
    repeat (first | refine za rfl rfl ?_ | refine zb rfl ?_ | refine zc rfl ?_)
    refine TL.st 0 szk rfl rfl rfl rfl rfl rfl ?_
    repeat (first | refine za rfl rfl ?_ | refine zb rfl ?_ | refine zc rfl ?_)
    refine TL.st 0 szk rfl rfl rfl rfl rfl rfl ?_
    repeat (first | refine za rfl rfl ?_ | refine zb rfl ?_ | refine zc rfl ?_)
    have hnm : norm r len = ⟨r.name, typeOf r, r.cls, r.ttl, len, 5, [], r.host, [], 0, 0, 0, 0, 0, [], []⟩ := by unfold norm; rw [e]; simp only [normZ, k]; rfl
    rw [hnm]
    refine TL.ldW (cs := rcCells ⟨r.name, typeOf r, r.cls, r.ttl, len, 5, [], r.host, [], 0, 0, 0, 0, 0, [], []⟩ nilS nilS nilS) 0 szk rfl rfl rfl rfl rfl rfl ?_
    refine TL.stW (vs := rcCells ⟨r.name, typeOf r, r.cls, r.ttl, len, 5, [], r.host, [], 0, 0, 0, 0, 0, [], []⟩ nilS nilS nilS) 1 szk rfl rfl rfl rfl rfl hz (rcCells_one rfl rfl rfl) ?_
    repeat (first | refine za rfl rfl ?_ | refine zb rfl ?_ | refine zc rfl ?_)
    exact T.retG Tryz.func90 (.cons (RV.cellW 1 szk rfl rfl rfl rfl) .nil) (fun w hA => ⟨⟨nilS, nilS, nilS, []⟩, rfl, ⟨.inl ⟨⟨_, _, rfl⟩, rfl⟩, .inl ⟨⟨_, _, rfl⟩, rfl⟩, .inl ⟨⟨_, _, rfl⟩, rfl⟩⟩, hA.sub (by simp)⟩)
  · have e := congrArg Int.toNat k
    rw [show ifTy r.kind.toNat = 219 by rw [e]; rfl]
    simp only [bodyCells, e] at hrow
    simp only [bodyX, e] at hx
    repeat (first | refine za rfl rfl ?_ | refine zb rfl ?_ | refine zc rfl ?_)
    refine TL.y rfl rfl rfl (Y.asN Tryz.underlying214 (by intro ms h; cases h) rfl rfl Tryz.zeroValue214) ?_
    repeat (first | refine za rfl rfl ?_ | refine zb rfl ?_ | refine zc rfl ?_)
    refine T.condF rfl rfl ?_
    repeat (first | refine za rfl rfl ?_ | refine zb rfl ?_ | refine zc rfl ?_)
    refine TL.y rfl rfl rfl (Y.asN Tryz.underlying215 (by intro ms h; cases h) rfl rfl Tryz.zeroValue215) ?_
    repeat (first | refine za rfl rfl ?_ | refine zb rfl ?_ | refine zc rfl ?_)
    refine T.condF rfl rfl ?_
    repeat (first | refine za rfl rfl ?_ | refine zb rfl ?_ | refine zc rfl ?_)
    refine TL.y rfl rfl rfl (Y.asN Tryz.underlying216 (by intro ms h; cases h) rfl rfl Tryz.zeroValue216) ?_
    repeat (first | refine za rfl rfl ?_ | refine zb rfl ?_ | refine zc rfl ?_)
    refine T.condF rfl rfl ?_
    repeat (first | refine za rfl rfl ?_ | refine zb rfl ?_ | refine zc rfl ?_)
    refine TL.y rfl rfl rfl (Y.asN Tryz.underlying217 (by intro ms h; cases h) rfl rfl Tryz.zeroValue217) ?_
    repeat (first | refine za rfl rfl ?_ | refine zb rfl ?_ | refine zc rfl ?_)
    refine T.condF rfl rfl ?_
    repeat (first | refine za rfl rfl ?_ | refine zb rfl ?_ | refine zc rfl ?_)
    refine TL.y rfl rfl rfl (Y.asN Tryz.underlying218 (by intro ms h; cases h) rfl rfl Tryz.zeroValue218) ?_
    repeat (first | refine za rfl rfl ?_ | refine zb rfl ?_ | refine zc rfl ?_)
    refine T.condF rfl rfl ?_
    repeat (first | refine za rfl rfl ?_ | refine zb rfl ?_ | refine zc rfl ?_)
    refine TL.y rfl rfl rfl (Y.asY Tryz.underlying219 (by intro ms h; cases h) rfl) ?_
    repeat (first | refine za rfl rfl ?_ | refine zb rfl ?_ | refine zc rfl ?_)
    refine T.condT rfl rfl ?_
    repeat (first | refine za rfl rfl ?_ | refine zb rfl ?_ | refine zc rfl ?_)
    obtain ⟨hn, hl⟩ := hr.host (by rw [k]; decide)
    have h255h : r.host.length ≤ 255 := by have := hn.len; omega
    refine TS.start [(0, true), (1, true), (2, true), (3, true), (4, true), (5, true), (6, true), (7, true), (8, true), (10, true), (9, false), (11, false), (12, true), (13, false), (14, true), (15, false)] [] mixed (by kernel_rfl) (by kernel_rfl) (by decide) (by simp) ?_
    repeat refine TS.p tbk rfl rfl ?_
    refine TS.y rfl rfl rfl rfl (Y.load szk rfl rfl (fun w h => (hrow.one (i := 0) rfl rfl).cell h.1 (i := 0) rfl)) ?_
    refine TS.p tbk rfl rfl ?_
    rw [u32_in ((r.n1 % 65536 : Nat) : Int) (by omega) (by omega)]
    repeat refine TS.p tbk rfl rfl ?_
    refine TS.y rfl rfl rfl rfl (Y.loadA szk rfl rfl (nameCells_length h255h) (fun w h i v hv => (hrow.part (i := 1) (us := nameCells r.host) (fun j v hj => by show nth ([Value.int .u16 ((r.n1 % 65536 : Nat) : Int)] ++ nameCells r.host) (1 + j) = some v; rw [nth_eq] at *; rw [List.getElem?_append_right (by simp)]; simpa using hj) rfl).cell h.1 hv)) ?_
    refine TS.p tbk rfl rfl ?_
    refine TS.call0 rfl Tryz.call89 rfl rfl rfl (textOf r.host h255h) (fun _ _ => trivial) (fun _ => by simp) (fun _ => TS.and fun _ => ?_)
    refine TS.st 0 rfl szk rfl rfl rfl rfl rfl rfl (by simp) ?_
    refine TS.p tbk rfl rfl ?_
    refine TS.st 0 rfl szk rfl rfl rfl rfl rfl rfl (by simp) ?_
    refine TS.p tbk rfl rfl ?_
    refine TS.st 0 rfl szk rfl rfl rfl rfl rfl rfl (by simp) ?_
    refine TS.nil ?_
    repeat (first | refine za rfl rfl ?_ | refine zb rfl ?_ | refine zc rfl ?_)
    have hnm : norm r len = ⟨r.name, typeOf r, r.cls, r.ttl, len, 6, [], r.host, [], r.n1 % 65536, 0, 0, 0, 0, [], []⟩ := by unfold norm; rw [e]; simp only [normZ, k]; rfl
    rw [hnm]
    refine TL.ldW (cs := rcCells ⟨r.name, typeOf r, r.cls, r.ttl, len, 6, [], r.host, [], r.n1 % 65536, 0, 0, 0, 0, [], []⟩ nilS nilS nilS) 0 szk rfl rfl rfl rfl rfl rfl ?_
    refine TL.stW (vs := rcCells ⟨r.name, typeOf r, r.cls, r.ttl, len, 6, [], r.host, [], r.n1 % 65536, 0, 0, 0, 0, [], []⟩ nilS nilS nilS) 1 szk rfl rfl rfl rfl rfl hz (rcCells_one rfl rfl rfl) ?_
    repeat (first | refine za rfl rfl ?_ | refine zb rfl ?_ | refine zc rfl ?_)
    exact T.retG Tryz.func90 (.cons (RV.cellW 1 szk rfl rfl rfl rfl) .nil) (fun w hA => ⟨⟨nilS, nilS, nilS, []⟩, rfl, ⟨.inl ⟨⟨_, _, rfl⟩, rfl⟩, .inl ⟨⟨_, _, rfl⟩, rfl⟩, .inl ⟨⟨_, _, rfl⟩, rfl⟩⟩, hA.sub (by simp)⟩)
  · have e := congrArg Int.toNat k
    rw [show ifTy r.kind.toNat = 220 by rw [e]; rfl]
    simp only [bodyCells, e] at hrow
    simp only [bodyX, e] at hx
    repeat (first | refine za rfl rfl ?_ | refine zb rfl ?_ | refine zc rfl ?_)
    refine TL.y rfl rfl rfl (Y.asN Tryz.underlying214 (by intro ms h; cases h) rfl rfl Tryz.zeroValue214) ?_
    repeat (first | refine za rfl rfl ?_ | refine zb rfl ?_ | refine zc rfl ?_)
    refine T.condF rfl rfl ?_
    repeat (first | refine za rfl rfl ?_ | refine zb rfl ?_ | refine zc rfl ?_)
    refine TL.y rfl rfl rfl (Y.asN Tryz.underlying215 (by intro ms h; cases h) rfl rfl Tryz.zeroValue215) ?_
    repeat (first | refine za rfl rfl ?_ | refine zb rfl ?_ | refine zc rfl ?_)
    refine T.condF rfl rfl ?_
    repeat (first | refine za rfl rfl ?_ | refine zb rfl ?_ | refine zc rfl ?_)
    refine TL.y rfl rfl rfl (Y.asN Tryz.underlying216 (by intro ms h; cases h) rfl rfl Tryz.zeroValue216) ?_
    repeat (first | refine za rfl rfl ?_ | refine zb rfl ?_ | refine zc rfl ?_)
    refine T.condF rfl rfl ?_
    repeat (first | refine za rfl rfl ?_ | refine zb rfl ?_ | refine zc rfl ?_)
    refine TL.y rfl rfl rfl (Y.asN Tryz.underlying217 (by intro ms h; cases h) rfl rfl Tryz.zeroValue217) ?_
    repeat (first | refine za rfl rfl ?_ | refine zb rfl ?_ | refine zc rfl ?_)
    refine T.condF rfl rfl ?_
    repeat (first | refine za rfl rfl ?_ | refine zb rfl ?_ | refine zc rfl ?_)
    refine TL.y rfl rfl rfl (Y.asN Tryz.underlying218 (by intro ms h; cases h) rfl rfl Tryz.zeroValue218) ?_
    repeat (first | refine za rfl rfl ?_ | refine zb rfl ?_ | refine zc rfl ?_)
    refine T.condF rfl rfl ?_
    repeat (first | refine za rfl rfl ?_ | refine zb rfl ?_ | refine zc rfl ?_)
    refine TL.y rfl rfl rfl (Y.asN Tryz.underlying219 (by intro ms h; cases h) rfl rfl Tryz.zeroValue219) ?_
    repeat (first | refine za rfl rfl ?_ | refine zb rfl ?_ | refine zc rfl ?_)
    refine T.condF rfl rfl ?_
    repeat (first | refine za rfl rfl ?_ | refine zb rfl ?_ | refine zc rfl ?_)
    refine TL.y rfl rfl rfl (Y.asY Tryz.underlying220 (by intro ms h; cases h) rfl) ?_
    repeat (first | refine za rfl rfl ?_ | refine zb rfl ?_ | refine zc rfl ?_)
    refine T.condT rfl rfl ?_
    repeat (first | refine za rfl rfl ?_ | refine zb rfl ?_ | refine zc rfl ?_)
    have hl1 := hr.txtl
    have hl2 := txtB_len r.texts
    refine TL.bs0 el55 rfl rfl (fun b1 => ?_)
    repeat (first | refine za rfl rfl ?_ | refine zb rfl ?_ | refine zc rfl ?_)
    refine TL.ldR (hrow.one (i := 0) rfl rfl) szk rfl rfl rfl rfl ?_
    refine TL.append 0 el55 sl55 rfl rfl rfl rfl rfl (own0 1) (SlS.src hx) (by omega) (by omega) (fun db dcs dc down => ?_)
    rw [List.nil_append] at down
    rw [Nat.zero_add] at down ⊢
    repeat (first | refine za rfl rfl ?_ | refine zb rfl ?_ | refine zc rfl ?_)
    refine TL.st 1 szk rfl rfl rfl rfl rfl rfl ?_
    repeat (first | refine za rfl rfl ?_ | refine zb rfl ?_ | refine zc rfl ?_)
    refine TL.st 1 szk rfl rfl rfl rfl rfl rfl ?_
    repeat (first | refine za rfl rfl ?_ | refine zb rfl ?_ | refine zc rfl ?_)
    have hnm : norm r len = ⟨r.name, typeOf r, r.cls, r.ttl, len, 7, [], [], [], 0, 0, 0, 0, 0, r.texts, []⟩ := by unfold norm; rw [e]; simp only [normZ, k]; rfl
    rw [hnm]
    refine TL.ldW (cs := rcCells ⟨r.name, typeOf r, r.cls, r.ttl, len, 7, [], [], [], 0, 0, 0, 0, 0, r.texts, []⟩ nilS (.slice (some ⟨db, 0, none⟩) r.texts.length dc) nilS) 1 szk rfl rfl rfl rfl rfl rfl ?_
    refine TL.stW (vs := rcCells ⟨r.name, typeOf r, r.cls, r.ttl, len, 7, [], [], [], 0, 0, 0, 0, 0, r.texts, []⟩ nilS (.slice (some ⟨db, 0, none⟩) r.texts.length dc) nilS) 2 szk rfl rfl rfl rfl rfl hz (rcCells_one rfl rfl rfl) ?_
    repeat (first | refine za rfl rfl ?_ | refine zb rfl ?_ | refine zc rfl ?_)
    exact T.retG Tryz.func90 (.cons (RV.cellW 2 szk rfl rfl rfl rfl) .nil) (fun w hA => ⟨⟨nilS, .slice (some ⟨db, 0, none⟩) r.texts.length dc, nilS, [(db, .row dcs 9)]⟩, rfl, ⟨.inl ⟨⟨_, _, rfl⟩, rfl⟩, SlS.of (by simp) (i := 0) rfl down, .inl ⟨⟨_, _, rfl⟩, rfl⟩⟩, hA.sub (by simp [setN])⟩)
  · have e := congrArg Int.toNat k
    rw [show ifTy r.kind.toNat = 221 by rw [e]; rfl]
    simp only [bodyCells, e] at hrow
    simp only [bodyX, e] at hx
    repeat (first | refine za rfl rfl ?_ | refine zb rfl ?_ | refine zc rfl ?_)
    refine TL.y rfl rfl rfl (Y.asN Tryz.underlying214 (by intro ms h; cases h) rfl rfl Tryz.zeroValue214) ?_
    repeat (first | refine za rfl rfl ?_ | refine zb rfl ?_ | refine zc rfl ?_)
    refine T.condF rfl rfl ?_
    repeat (first | refine za rfl rfl ?_ | refine zb rfl ?_ | refine zc rfl ?_)
    refine TL.y rfl rfl rfl (Y.asN Tryz.underlying215 (by intro ms h; cases h) rfl rfl Tryz.zeroValue215) ?_
    repeat (first | refine za rfl rfl ?_ | refine zb rfl ?_ | refine zc rfl ?_)
    refine T.condF rfl rfl ?_
    repeat (first | refine za rfl rfl ?_ | refine zb rfl ?_ | refine zc rfl ?_)
    refine TL.y rfl rfl rfl (Y.asN Tryz.underlying216 (by intro ms h; cases h) rfl rfl Tryz.zeroValue216) ?_
    repeat (first | refine za rfl rfl ?_ | refine zb rfl ?_ | refine zc rfl ?_)
    refine T.condF rfl rfl ?_
    repeat (first | refine za rfl rfl ?_ | refine zb rfl ?_ | refine zc rfl ?_)
    refine TL.y rfl rfl rfl (Y.asN Tryz.underlying217 (by intro ms h; cases h) rfl rfl Tryz.zeroValue217) ?_
    repeat (first | refine za rfl rfl ?_ | refine zb rfl ?_ | refine zc rfl ?_)
    refine T.condF rfl rfl ?_
    repeat (first | refine za rfl rfl ?_ | refine zb rfl ?_ | refine zc rfl ?_)
    refine TL.y rfl rfl rfl (Y.asN Tryz.underlying218 (by intro ms h; cases h) rfl rfl Tryz.zeroValue218) ?_
    repeat (first | refine za rfl rfl ?_ | refine zb rfl ?_ | refine zc rfl ?_)
    refine T.condF rfl rfl ?_
    repeat (first | refine za rfl rfl ?_ | refine zb rfl ?_ | refine zc rfl ?_)
    refine TL.y rfl rfl rfl (Y.asN Tryz.underlying219 (by intro ms h; cases h) rfl rfl Tryz.zeroValue219) ?_
    repeat (first | refine za rfl rfl ?_ | refine zb rfl ?_ | refine zc rfl ?_)
    refine T.condF rfl rfl ?_
    repeat (first | refine za rfl rfl ?_ | refine zb rfl ?_ | refine zc rfl ?_)
    refine TL.y rfl rfl rfl (Y.asN Tryz.underlying220 (by intro ms h; cases h) rfl rfl Tryz.zeroValue220) ?_
    repeat (first | refine za rfl rfl ?_ | refine zb rfl ?_ | refine zc rfl ?_)
    refine T.condF rfl rfl ?_
    repeat (first | refine za rfl rfl ?_ | refine zb rfl ?_ | refine zc rfl ?_)
    refine TL.y rfl rfl rfl (Y.asY Tryz.underlying221 (by intro ms h; cases h) rfl) ?_
    repeat (first | refine za rfl rfl ?_ | refine zb rfl ?_ | refine zc rfl ?_)
    refine T.condT rfl rfl ?_
    repeat (first | refine za rfl rfl ?_ | refine zb rfl ?_ | refine zc rfl ?_)
    refine TL.bs0 el37 rfl rfl (fun b1 => ?_)
    repeat (first | refine za rfl rfl ?_ | refine zb rfl ?_ | refine zc rfl ?_)
    have hfl := fix_length 16 r.data
    refine TL.slA tbk rfl rfl rfl rfl ?_
    refine TL.append (m := 16) (news := (fix 16 r.data).map bv) 0 el37 sl37 rfl rfl rfl rfl rfl (own0 1) (Src.slice (fun w' hA j u hj => by rw [add_zero']; exact hrow.cell hA.ext (by rw [nth_eq]; exact hj)) (by rw [List.length_map, hfl]) (bytes_one _)) (by omega) (by omega) (fun db dcs dc down => ?_)
    rw [List.nil_append] at down
    rw [show 0 + 16 = (fix 16 r.data).length by rw [hfl]] at down ⊢
    repeat (first | refine za rfl rfl ?_ | refine zb rfl ?_ | refine zc rfl ?_)
    refine TL.st 1 szk rfl rfl rfl rfl rfl rfl ?_
    repeat (first | refine za rfl rfl ?_ | refine zb rfl ?_ | refine zc rfl ?_)
    refine TL.st 1 szk rfl rfl rfl rfl rfl rfl ?_
    repeat (first | refine za rfl rfl ?_ | refine zb rfl ?_ | refine zc rfl ?_)
    have hnm : norm r len = ⟨r.name, typeOf r, r.cls, r.ttl, len, 8, (fix 16 r.data), [], [], 0, 0, 0, 0, 0, [], []⟩ := by unfold norm; rw [e]; simp only [normZ, k]; rfl
    rw [hnm]
    refine TL.ldW (cs := rcCells ⟨r.name, typeOf r, r.cls, r.ttl, len, 8, (fix 16 r.data), [], [], 0, 0, 0, 0, 0, [], []⟩ (.slice (some ⟨db, 0, none⟩) (fix 16 r.data).length dc) nilS nilS) 1 szk rfl rfl rfl rfl rfl rfl ?_
    refine TL.stW (vs := rcCells ⟨r.name, typeOf r, r.cls, r.ttl, len, 8, (fix 16 r.data), [], [], 0, 0, 0, 0, 0, [], []⟩ (.slice (some ⟨db, 0, none⟩) (fix 16 r.data).length dc) nilS nilS) 2 szk rfl rfl rfl rfl rfl hz (rcCells_one rfl rfl rfl) ?_
    repeat (first | refine za rfl rfl ?_ | refine zb rfl ?_ | refine zc rfl ?_)
    exact T.retG Tryz.func90 (.cons (RV.cellW 2 szk rfl rfl rfl rfl) .nil) (fun w hA => ⟨⟨.slice (some ⟨db, 0, none⟩) (fix 16 r.data).length dc, nilS, nilS, [(db, .row dcs 5)]⟩, rfl, ⟨SlB.of (by simp) (i := 0) rfl down, .inl ⟨⟨_, _, rfl⟩, rfl⟩, .inl ⟨⟨_, _, rfl⟩, rfl⟩⟩, hA.sub (by simp [setN])⟩)
  · have e := congrArg Int.toNat k
    rw [show ifTy r.kind.toNat = 222 by rw [e]; rfl]
    simp only [bodyCells, e] at hrow
    simp only [bodyX, e] at hx
    repeat (first | refine za rfl rfl ?_ | refine zb rfl ?_ | refine zc rfl ?_)
    refine TL.y rfl rfl rfl (Y.asN Tryz.underlying214 (by intro ms h; cases h) rfl rfl Tryz.zeroValue214) ?_
    repeat (first | refine za rfl rfl ?_ | refine zb rfl ?_ | refine zc rfl ?_)
    refine T.condF rfl rfl ?_
    repeat (first | refine za rfl rfl ?_ | refine zb rfl ?_ | refine zc rfl ?_)
    refine TL.y rfl rfl rfl (Y.asN Tryz.underlying215 (by intro ms h; cases h) rfl rfl Tryz.zeroValue215) ?_
    repeat (first | refine za rfl rfl ?_ | refine zb rfl ?_ | refine zc rfl ?_)
    refine T.condF rfl rfl ?_
    repeat (first | refine za rfl rfl ?_ | refine zb rfl ?_ | refine zc rfl ?_)
    refine TL.y rfl rfl rfl (Y.asN Tryz.underlying216 (by intro ms h; cases h) rfl rfl Tryz.zeroValue216) ?_
    repeat (first | refine za rfl rfl ?_ | refine zb rfl ?_ | refine zc rfl ?_)
    refine T.condF rfl rfl ?_
    repeat (first | refine za rfl rfl ?_ | refine zb rfl ?_ | refine zc rfl ?_)
    refine TL.y rfl rfl rfl (Y.asN Tryz.underlying217 (by intro ms h; cases h) rfl rfl Tryz.zeroValue217) ?_
    repeat (first | refine za rfl rfl ?_ | refine zb rfl ?_ | refine zc rfl ?_)
    refine T.condF rfl rfl ?_
    repeat (first | refine za rfl rfl ?_ | refine zb rfl ?_ | refine zc rfl ?_)
    refine TL.y rfl rfl rfl (Y.asN Tryz.underlying218 (by intro ms h; cases h) rfl rfl Tryz.zeroValue218) ?_
    repeat (first | refine za rfl rfl ?_ | refine zb rfl ?_ | refine zc rfl ?_)
    refine T.condF rfl rfl ?_
    repeat (first | refine za rfl rfl ?_ | refine zb rfl ?_ | refine zc rfl ?_)
    refine TL.y rfl rfl rfl (Y.asN Tryz.underlying219 (by intro ms h; cases h) rfl rfl Tryz.zeroValue219) ?_
    repeat (first | refine za rfl rfl ?_ | refine zb rfl ?_ | refine zc rfl ?_)
    refine T.condF rfl rfl ?_
    repeat (first | refine za rfl rfl ?_ | refine zb rfl ?_ | refine zc rfl ?_)
    refine TL.y rfl rfl rfl (Y.asN Tryz.underlying220 (by intro ms h; cases h) rfl rfl Tryz.zeroValue220) ?_
    repeat (first | refine za rfl rfl ?_ | refine zb rfl ?_ | refine zc rfl ?_)
    refine T.condF rfl rfl ?_
    repeat (first | refine za rfl rfl ?_ | refine zb rfl ?_ | refine zc rfl ?_)
    refine TL.y rfl rfl rfl (Y.asN Tryz.underlying221 (by intro ms h; cases h) rfl rfl Tryz.zeroValue221) ?_
    repeat (first | refine za rfl rfl ?_ | refine zb rfl ?_ | refine zc rfl ?_)
    refine T.condF rfl rfl ?_
    repeat (first | refine za rfl rfl ?_ | refine zb rfl ?_ | refine zc rfl ?_)
    refine TL.y rfl rfl rfl (Y.asY Tryz.underlying222 (by intro ms h; cases h) rfl) ?_
    repeat (first | refine za rfl rfl ?_ | refine zb rfl ?_ | refine zc rfl ?_)
    refine T.condT rfl rfl ?_
    repeat (first | refine za rfl rfl ?_ | refine zb rfl ?_ | refine zc rfl ?_)
    obtain ⟨hn, hl⟩ := hr.host (by rw [k]; decide)
    have h255h : r.host.length ≤ 255 := by have := hn.len; omega
    refine TS.start [(0, true), (1, true), (2, true), (3, true), (4, true), (5, true), (6, true), (7, true), (8, true), (9, true), (10, true), (11, true), (12, true), (13, true), (14, true), (15, true), (16, true), (17, true), (18, true), (20, true), (19, false), (21, false), (22, true), (23, false), (24, true), (25, false), (26, true), (27, false), (28, true), (29, false)] [] mixed (by kernel_rfl) (by kernel_rfl) (by decide) (by simp) ?_
    repeat refine TS.p tbk rfl rfl ?_
    refine TS.y rfl rfl rfl rfl (Y.load szk rfl rfl (fun w h => (hrow.one (i := 0) rfl rfl).cell h.1 (i := 0) rfl)) ?_
    refine TS.p tbk rfl rfl ?_
    rw [u32_in ((r.n1 % 65536 : Nat) : Int) (by omega) (by omega)]
    repeat refine TS.p tbk rfl rfl ?_
    refine TS.y rfl rfl rfl rfl (Y.load szk rfl rfl (fun w h => (hrow.one (i := 1) rfl rfl).cell h.1 (i := 0) rfl)) ?_
    refine TS.p tbk rfl rfl ?_
    rw [u32_in ((r.n2 % 65536 : Nat) : Int) (by omega) (by omega)]
    repeat refine TS.p tbk rfl rfl ?_
    refine TS.y rfl rfl rfl rfl (Y.load szk rfl rfl (fun w h => (hrow.one (i := 2) rfl rfl).cell h.1 (i := 0) rfl)) ?_
    refine TS.p tbk rfl rfl ?_
    rw [u32_in ((r.n3 % 65536 : Nat) : Int) (by omega) (by omega)]
    repeat refine TS.p tbk rfl rfl ?_
    refine TS.y rfl rfl rfl rfl (Y.loadA szk rfl rfl (nameCells_length h255h) (fun w h i v hv => (hrow.part (i := 3) (us := nameCells r.host) (fun j v hj => by show nth ([Value.int .u16 ((r.n1 % 65536 : Nat) : Int), Value.int .u16 ((r.n2 % 65536 : Nat) : Int), Value.int .u16 ((r.n3 % 65536 : Nat) : Int)] ++ nameCells r.host) (3 + j) = some v; rw [nth_eq] at *; rw [List.getElem?_append_right (by simp)]; simpa using hj) rfl).cell h.1 hv)) ?_
    refine TS.p tbk rfl rfl ?_
    refine TS.call0 rfl Tryz.call89 rfl rfl rfl (textOf r.host h255h) (fun _ _ => trivial) (fun _ => by simp) (fun _ => TS.and fun _ => ?_)
    refine TS.st 0 rfl szk rfl rfl rfl rfl rfl rfl (by simp) ?_
    refine TS.p tbk rfl rfl ?_
    refine TS.st 0 rfl szk rfl rfl rfl rfl rfl rfl (by simp) ?_
    refine TS.p tbk rfl rfl ?_
    refine TS.st 0 rfl szk rfl rfl rfl rfl rfl rfl (by simp) ?_
    refine TS.p tbk rfl rfl ?_
    refine TS.st 0 rfl szk rfl rfl rfl rfl rfl rfl (by simp) ?_
    refine TS.p tbk rfl rfl ?_
    refine TS.st 0 rfl szk rfl rfl rfl rfl rfl rfl (by simp) ?_
    refine TS.nil ?_
    repeat (first | refine za rfl rfl ?_ | refine zb rfl ?_ | refine zc rfl ?_)
    have hnm : norm r len = ⟨r.name, typeOf r, r.cls, r.ttl, len, 9, [], r.host, [], r.n1 % 65536, r.n2 % 65536, r.n3 % 65536, 0, 0, [], []⟩ := by unfold norm; rw [e]; simp only [normZ, k]; rfl
    rw [hnm]
    refine TL.ldW (cs := rcCells ⟨r.name, typeOf r, r.cls, r.ttl, len, 9, [], r.host, [], r.n1 % 65536, r.n2 % 65536, r.n3 % 65536, 0, 0, [], []⟩ nilS nilS nilS) 0 szk rfl rfl rfl rfl rfl rfl ?_
    refine TL.stW (vs := rcCells ⟨r.name, typeOf r, r.cls, r.ttl, len, 9, [], r.host, [], r.n1 % 65536, r.n2 % 65536, r.n3 % 65536, 0, 0, [], []⟩ nilS nilS nilS) 1 szk rfl rfl rfl rfl rfl hz (rcCells_one rfl rfl rfl) ?_
    repeat (first | refine za rfl rfl ?_ | refine zb rfl ?_ | refine zc rfl ?_)
    exact T.retG Tryz.func90 (.cons (RV.cellW 1 szk rfl rfl rfl rfl) .nil) (fun w hA => ⟨⟨nilS, nilS, nilS, []⟩, rfl, ⟨.inl ⟨⟨_, _, rfl⟩, rfl⟩, .inl ⟨⟨_, _, rfl⟩, rfl⟩, .inl ⟨⟨_, _, rfl⟩, rfl⟩⟩, hA.sub (by simp)⟩)
  · have e := congrArg Int.toNat k
    rw [show ifTy r.kind.toNat = 223 by rw [e]; rfl]
    simp only [bodyCells, e] at hrow
    simp only [bodyX, e] at hx
    repeat (first | refine za rfl rfl ?_ | refine zb rfl ?_ | refine zc rfl ?_)
    refine TL.y rfl rfl rfl (Y.asN Tryz.underlying214 (by intro ms h; cases h) rfl rfl Tryz.zeroValue214) ?_
    repeat (first | refine za rfl rfl ?_ | refine zb rfl ?_ | refine zc rfl ?_)
    refine T.condF rfl rfl ?_
    repeat (first | refine za rfl rfl ?_ | refine zb rfl ?_ | refine zc rfl ?_)
    refine TL.y rfl rfl rfl (Y.asN Tryz.underlying215 (by intro ms h; cases h) rfl rfl Tryz.zeroValue215) ?_
    repeat (first | refine za rfl rfl ?_ | refine zb rfl ?_ | refine zc rfl ?_)
    refine T.condF rfl rfl ?_
    repeat (first | refine za rfl rfl ?_ | refine zb rfl ?_ | refine zc rfl ?_)
    refine TL.y rfl rfl rfl (Y.asN Tryz.underlying216 (by intro ms h; cases h) rfl rfl Tryz.zeroValue216) ?_
    repeat (first | refine za rfl rfl ?_ | refine zb rfl ?_ | refine zc rfl ?_)
    refine T.condF rfl rfl ?_
    repeat (first | refine za rfl rfl ?_ | refine zb rfl ?_ | refine zc rfl ?_)
    refine TL.y rfl rfl rfl (Y.asN Tryz.underlying217 (by intro ms h; cases h) rfl rfl Tryz.zeroValue217) ?_
    repeat (first | refine za rfl rfl ?_ | refine zb rfl ?_ | refine zc rfl ?_)
    refine T.condF rfl rfl ?_
    repeat (first | refine za rfl rfl ?_ | refine zb rfl ?_ | refine zc rfl ?_)
    refine TL.y rfl rfl rfl (Y.asN Tryz.underlying218 (by intro ms h; cases h) rfl rfl Tryz.zeroValue218) ?_
    repeat (first | refine za rfl rfl ?_ | refine zb rfl ?_ | refine zc rfl ?_)
    refine T.condF rfl rfl ?_
    repeat (first | refine za rfl rfl ?_ | refine zb rfl ?_ | refine zc rfl ?_)
    refine TL.y rfl rfl rfl (Y.asN Tryz.underlying219 (by intro ms h; cases h) rfl rfl Tryz.zeroValue219) ?_
    repeat (first | refine za rfl rfl ?_ | refine zb rfl ?_ | refine zc rfl ?_)
    refine T.condF rfl rfl ?_
    repeat (first | refine za rfl rfl ?_ | refine zb rfl ?_ | refine zc rfl ?_)
    refine TL.y rfl rfl rfl (Y.asN Tryz.underlying220 (by intro ms h; cases h) rfl rfl Tryz.zeroValue220) ?_
    repeat (first | refine za rfl rfl ?_ | refine zb rfl ?_ | refine zc rfl ?_)
    refine T.condF rfl rfl ?_
    repeat (first | refine za rfl rfl ?_ | refine zb rfl ?_ | refine zc rfl ?_)
    refine TL.y rfl rfl rfl (Y.asN Tryz.underlying221 (by intro ms h; cases h) rfl rfl Tryz.zeroValue221) ?_
    repeat (first | refine za rfl rfl ?_ | refine zb rfl ?_ | refine zc rfl ?_)
    refine T.condF rfl rfl ?_
    repeat (first | refine za rfl rfl ?_ | refine zb rfl ?_ | refine zc rfl ?_)
    refine TL.y rfl rfl rfl (Y.asN Tryz.underlying222 (by intro ms h; cases h) rfl rfl Tryz.zeroValue222) ?_
    repeat (first | refine za rfl rfl ?_ | refine zb rfl ?_ | refine zc rfl ?_)
    refine T.condF rfl rfl ?_
    repeat (first | refine za rfl rfl ?_ | refine zb rfl ?_ | refine zc rfl ?_)
    refine TL.y rfl rfl rfl (Y.asY Tryz.underlying223 (by intro ms h; cases h) rfl) ?_
    repeat (first | refine za rfl rfl ?_ | refine zb rfl ?_ | refine zc rfl ?_)
    refine T.condT rfl rfl ?_
    repeat (first | refine za rfl rfl ?_ | refine zb rfl ?_ | refine zc rfl ?_)
    have hpl := hr.pairl
    have hpl2 := pairB_len r.pairs
    have hx : SlP (view (keys []) w) xv r.pairs := hx
    obtain ⟨xa, xc, hxs, hxc⟩ := hx.shape
    subst hxs
    refine TL.st 0 szk rfl rfl rfl rfl rfl rfl ?_
    repeat (first | refine za rfl rfl ?_ | refine zb rfl ?_ | refine zc rfl ?_)
    refine TL.ldR (hrow.one (i := 0) rfl rfl) szk rfl rfl rfl rfl ?_
    repeat (first | refine za rfl rfl ?_ | refine zb rfl ?_ | refine zc rfl ?_)
    refine T.loop (α := OY) (fun x => [(1, ptr xb 0), (2, ptr ob 0), (4, ptr tb_ 0), (191, .slice xa r.pairs.length xc), (192, .int .i64 (r.pairs.length : Int)), (193, .int .i64 (x.j : Int))])
      (fun x w' => x.ok r.pairs 110 ∧ St (keys []) w ((tb_, .row (rcCells ⟨r.name, typeOf r, r.cls, r.ttl, len, 10, [], [], [], 0, 0, 0, 0, 0, [], []⟩ nilS nilS x.qv) 98) :: (ob, .row zs 98) :: (xb, .row (rsU r len rb) 122) :: (x.Q ++ x.E)) w') (fun x => r.pairs.length - x.j) ⟨0, nilS, [], [], []⟩ ⟨rfl, rfl, rfl, rfl, rfl, rfl, trivial⟩
      (fun w' hA => ⟨⟨Nat.zero_le _, .inl ⟨rfl, rfl, rfl, rfl⟩, fun i p hi => (Nat.not_lt_zero _ hi).elim⟩, hA⟩) ?_
    rintro ⟨j, qv, Q, xs, E⟩ ih
    refine T.and fun ⟨hj, hQ, hall⟩ => ?_
    simp only at hj hQ hall
    repeat (first | refine za rfl rfl ?_ | refine zb rfl ?_ | refine zc rfl ?_)
    by_cases hjl : j < r.pairs.length
    · refine T.condT rfl (by simpa using hjl) ?_
      obtain ⟨s, hs⟩ := nth_lt hjl
      obtain ⟨b, o, cap', cs, hv, _, _, hrs, dv, hcs, hdv⟩ := hx.at hs
      injection hv with hv1 _ hv3
      subst hv1 hv3 hcs
      obtain ⟨da, dcap, hdsh, hdcap⟩ := hdv.shape
      have hsl := pairB_mem (nth_mem hs)
      subst hdsh
      have hqo : qv.oneCell' = true := by rcases hQ with ⟨_, e, _⟩ | ⟨_, _, _, e, _⟩ <;> rw [e] <;> rfl
      repeat (first | refine za rfl rfl ?_ | refine zb rfl ?_ | refine zc rfl ?_)
      refine TL.ix (j := j) tbk rfl rfl rfl rfl rfl rfl hjl ?_
      refine TL.ldRA hrs szk rfl rfl rfl rfl rfl ?_
      refine TL.allocZ 2 Tryz.zeroValue250 rfl rfl rfl (fun lb ls hls => ?_)
      refine TL.stW (vs := [.int .u16 (s.key : Int), .slice da s.data.length dcap]) 0 szk rfl rfl rfl rfl rfl hls (by intro u hu; simp at hu; rcases hu with rfl | rfl <;> rfl) ?_
      repeat (first | refine za rfl rfl ?_ | refine zb rfl ?_ | refine zc rfl ?_)
      refine T.mergeA (α := OY) (fun x => [(1, ptr xb 0), (2, ptr ob 0), (4, ptr tb_ 0), (191, .slice (some ⟨b, o, none⟩) r.pairs.length xc), (192, .int .i64 (r.pairs.length : Int)), (193, .int .i64 (j : Int))])
        (fun x w' => (x.j = j + 1 ∧ x.ok r.pairs 110) ∧ St (keys []) w ((tb_, .row (rcCells ⟨r.name, typeOf r, r.cls, r.ttl, len, 10, [], [], [], 0, 0, 0, 0, 0, [], []⟩ nilS nilS x.qv) 98) :: (ob, .row zs 98) :: (xb, .row (rsU r len rb) 122) :: (x.Q ++ x.E)) w') ?_ (fun H => ?_)
      case refine_2 =>
        refine TR.start 13 [(lb, .row [.int .u16 (s.key : Int), .slice da s.data.length dcap] 250)] mixed (by kernel_rfl) (by decide) (by simp [setN]) ?_
        refine TR.p 0 tbk rfl (by kernel_rfl) (by kernel_rfl) rfl ?_
        refine TR.p 2 tbk rfl (by kernel_rfl) (by kernel_rfl) rfl ?_
        refine TR.q 3 rfl (by kernel_rfl) (by kernel_rfl) rfl rfl rfl (Y.load szk rfl rfl (fun w h => h.cell (i := 0) rfl rfl)) ?_
        refine TR.p 5 tbk rfl (by kernel_rfl) (by kernel_rfl) rfl ?_
        refine TR.q 6 rfl (by kernel_rfl) (by kernel_rfl) rfl rfl rfl (Y.load szk rfl rfl (fun w h => h.cell (i := 0) rfl rfl)) ?_
        refine TR.two (i := 1) (j := 4) (by kernel_rfl) ?_ ?_
        case refine_1 =>
          refine RS.l rfl rfl rfl rfl (Y.load szk rfl rfl (fun w h => h.cell (i := 1) rfl rfl)) (by simp [setN]) ?_
          refine TR.lin [(4, false), (7, false), (8, true), (9, false), (10, false), (11, true), (12, false)] (by kernel_rfl) rfl ?_
          refine TS.bs0 rfl el37 rfl rfl (fun b => by simp [setN]) (fun b1 => ?_)
          refine TS.append 0 rfl el37 sl37 rfl rfl rfl rfl rfl (own0 1) (SlB.src hdv) (by omega) (by omega) (fun b cs => by simp [setN]) (fun db dcs dc down => ?_)
          rw [List.nil_append, Nat.zero_add] at down
          rw [Nat.zero_add s.data.length]
          have hb := build_seq (vs := [.int .u16 (s.key : Int), .slice (some ⟨db, 0, none⟩) s.data.length dc]) pl110 rfl rfl
          refine TS.y rfl rfl rfl rfl (Y.build (pv := partsFrom 0 [.int .u16 (s.key : Int), .slice (some ⟨db, 0, none⟩) s.data.length dc]) rfl hb) ?_
          refine TS.bsA (us := [.int .u16 (s.key : Int), .slice (some ⟨db, 0, none⟩) s.data.length dc]) rfl el96 rfl rfl (by decide) rfl rfl (fun b => by simp [setN]) (fun eb => ?_)
          rcases hQ with ⟨h0, hq, hQ, hx0⟩ | ⟨ab, acs, acap, hq, hQ, hown⟩
          · subst hq hQ hx0 h0
            refine TS.appendNil (m := 1) (news := [.int .u16 (s.key : Int), .slice (some ⟨db, 0, none⟩) s.data.length dc]) rfl el96 sl96 rfl rfl rfl rfl (Src.slice (fun w hA j u hj => by rw [add_zero', Nat.zero_add]; exact hA.cell (i := 0) rfl (by rw [nth_eq]; exact hj)) rfl (by simp [Value.oneCell'])) (by decide) (by decide) (by decide) (fun b cs => by simp [setN]) (fun ab acs acap aown => ?_)
            refine TS.p tbk rfl rfl ?_
            refine TS.st 4 rfl szk rfl rfl rfl rfl rfl rfl (by simp [setN]) ?_
            refine TS.nil ?_
            refine T.sub (L' := [(1, ptr xb 0), (2, ptr ob 0), (4, ptr tb_ 0), (191, .slice (some ⟨b, o, none⟩) r.pairs.length xc), (192, .int .i64 (r.pairs.length : Int)), (193, .int .i64 ((0 : Nat) : Int))]) ⟨rfl, rfl, rfl, rfl, rfl, rfl, trivial⟩ (T.mono (fun w' hA => ?_) (H ⟨1, .slice (some ⟨ab, 0, none⟩) 1 acap, [(ab, .row acs 110)], [] ++ [.int .u16 (s.key : Int), .slice (some ⟨db, 0, none⟩) s.data.length dc], (db, .row dcs 5) :: E⟩))
            have hA' : St (keys []) w ([(tb_, .row (rcCells ⟨r.name, typeOf r, r.cls, r.ttl, len, 10, [], [], [], 0, 0, 0, 0, 0, [], []⟩ nilS nilS (.slice (some ⟨ab, 0, none⟩) 1 acap)) 98), (ob, .row zs 98), (xb, .row (rsU r len rb) 122)] ++ ([(ab, .row acs 110)] ++ ((db, .row dcs 5) :: E))) w' := (hA.sub (M' := [(ab, .row acs 110), (db, .row dcs 5)] ++ ([(tb_, .row (rcCells ⟨r.name, typeOf r, r.cls, r.ttl, len, 10, [], [], [], 0, 0, 0, 0, 0, [], []⟩ nilS nilS (.slice (some ⟨ab, 0, none⟩) 1 acap)) 98), (ob, .row zs 98), (xb, .row (rsU r len rb) 122)] ++ E)) (List.Sublist.cons_cons _ (List.Sublist.cons _ (List.Sublist.cons_cons _ (List.Sublist.cons _ (List.Sublist.refl _)))))).perm (perm_count fun p => by simp only [List.countP_append, List.countP_cons, List.countP_nil]; omega)
            have hnd := (List.nodup_cons.1 (List.nodup_cons.1 (List.nodup_cons.1 (List.nodup_cons.1 hA'.nd).2).2).2).2
            exact ⟨⟨rfl, by simp; omega, .inr ⟨ab, acs, acap, rfl, rfl, by simpa using aown⟩, pairs_next hs (by simp) hall (mv_sub hnd fun p hp => List.mem_cons_of_mem _ hp) (SlB.of hnd (i := 0) rfl down)⟩, hA'⟩
          · subst hq hQ
            have hxl := hown.length
            refine TS.append (m := 1) (news := [.int .u16 (s.key : Int), .slice (some ⟨db, 0, none⟩) s.data.length dc]) 6 rfl el96 sl96 rfl rfl rfl rfl rfl hown (Src.slice (fun w hA j u hj => by rw [add_zero', Nat.zero_add]; exact hA.cell (i := 0) rfl (by rw [nth_eq]; exact hj)) rfl (by simp [Value.oneCell'])) (by omega) (by omega) (fun b cs => by simp [setN]) (fun ab' acs' acap' aown => ?_)
            refine TS.p tbk rfl rfl ?_
            refine TS.st 3 rfl szk rfl rfl rfl rfl rfl rfl (by simp [setN]) ?_
            refine TS.nil ?_
            refine T.sub (L' := [(1, ptr xb 0), (2, ptr ob 0), (4, ptr tb_ 0), (191, .slice (some ⟨b, o, none⟩) r.pairs.length xc), (192, .int .i64 (r.pairs.length : Int)), (193, .int .i64 (j : Int))]) ⟨rfl, rfl, rfl, rfl, rfl, rfl, trivial⟩ (T.mono (fun w' hA => ?_) (H ⟨j + 1, .slice (some ⟨ab', 0, none⟩) (j + 1) acap', [(ab', .row acs' 110)], xs ++ [.int .u16 (s.key : Int), .slice (some ⟨db, 0, none⟩) s.data.length dc], (db, .row dcs 5) :: E⟩))
            have hA' : St (keys []) w ([(tb_, .row (rcCells ⟨r.name, typeOf r, r.cls, r.ttl, len, 10, [], [], [], 0, 0, 0, 0, 0, [], []⟩ nilS nilS (.slice (some ⟨ab', 0, none⟩) (j + 1) acap')) 98), (ob, .row zs 98), (xb, .row (rsU r len rb) 122)] ++ ([(ab', .row acs' 110)] ++ ((db, .row dcs 5) :: E))) w' := (hA.sub (M' := [(db, .row dcs 5)] ++ ([(tb_, .row (rcCells ⟨r.name, typeOf r, r.cls, r.ttl, len, 10, [], [], [], 0, 0, 0, 0, 0, [], []⟩ nilS nilS (.slice (some ⟨ab', 0, none⟩) (j + 1) acap')) 98), (ob, .row zs 98), (xb, .row (rsU r len rb) 122)] ++ ([(ab', .row acs' 110)] ++ E))) (List.Sublist.cons _ (List.Sublist.cons_cons _ (List.Sublist.cons _ (List.Sublist.refl _))))).perm (perm_count fun p => by simp only [List.countP_append, List.countP_cons, List.countP_nil]; omega)
            have hnd := (List.nodup_cons.1 (List.nodup_cons.1 (List.nodup_cons.1 (List.nodup_cons.1 hA'.nd).2).2).2).2
            exact ⟨⟨rfl, by simp; omega, .inr ⟨ab', acs', acap', rfl, rfl, aown⟩, pairs_next hs hxl hall (mv_sub hnd fun p hp => List.mem_cons_of_mem _ hp) (SlB.of hnd (i := 0) rfl down)⟩, hA'⟩
        refine RS.bs0 rfl el37 rfl rfl (fun b => by simp [setN]) (fun b1 => ?_)
        refine TR.two (i := 1) (j := 7) (by kernel_rfl) ?_ ?_
        case refine_1 =>
          refine RS.l rfl rfl rfl rfl (Y.load szk rfl rfl (fun w h => h.cell (i := 2) rfl rfl)) (by simp [setN]) ?_
          refine TR.lin [(7, false), (8, true), (9, false), (10, false), (11, true), (12, false)] (by kernel_rfl) rfl ?_
          refine TS.append 0 rfl el37 sl37 rfl rfl rfl rfl rfl (own0 1) (SlB.src hdv) (by omega) (by omega) (fun b cs => by simp [setN]) (fun db dcs dc down => ?_)
          rw [List.nil_append, Nat.zero_add] at down
          rw [Nat.zero_add s.data.length]
          have hb := build_seq (vs := [.int .u16 (s.key : Int), .slice (some ⟨db, 0, none⟩) s.data.length dc]) pl110 rfl rfl
          refine TS.y rfl rfl rfl rfl (Y.build (pv := partsFrom 0 [.int .u16 (s.key : Int), .slice (some ⟨db, 0, none⟩) s.data.length dc]) rfl hb) ?_
          refine TS.bsA (us := [.int .u16 (s.key : Int), .slice (some ⟨db, 0, none⟩) s.data.length dc]) rfl el96 rfl rfl (by decide) rfl rfl (fun b => by simp [setN]) (fun eb => ?_)
          rcases hQ with ⟨h0, hq, hQ, hx0⟩ | ⟨ab, acs, acap, hq, hQ, hown⟩
          · subst hq hQ hx0 h0
            refine TS.appendNil (m := 1) (news := [.int .u16 (s.key : Int), .slice (some ⟨db, 0, none⟩) s.data.length dc]) rfl el96 sl96 rfl rfl rfl rfl (Src.slice (fun w hA j u hj => by rw [add_zero', Nat.zero_add]; exact hA.cell (i := 0) rfl (by rw [nth_eq]; exact hj)) rfl (by simp [Value.oneCell'])) (by decide) (by decide) (by decide) (fun b cs => by simp [setN]) (fun ab acs acap aown => ?_)
            refine TS.p tbk rfl rfl ?_
            refine TS.st 4 rfl szk rfl rfl rfl rfl rfl rfl (by simp [setN]) ?_
            refine TS.nil ?_
            refine T.sub (L' := [(1, ptr xb 0), (2, ptr ob 0), (4, ptr tb_ 0), (191, .slice (some ⟨b, o, none⟩) r.pairs.length xc), (192, .int .i64 (r.pairs.length : Int)), (193, .int .i64 ((0 : Nat) : Int))]) ⟨rfl, rfl, rfl, rfl, rfl, rfl, trivial⟩ (T.mono (fun w' hA => ?_) (H ⟨1, .slice (some ⟨ab, 0, none⟩) 1 acap, [(ab, .row acs 110)], [] ++ [.int .u16 (s.key : Int), .slice (some ⟨db, 0, none⟩) s.data.length dc], (db, .row dcs 5) :: E⟩))
            have hA' : St (keys []) w ([(tb_, .row (rcCells ⟨r.name, typeOf r, r.cls, r.ttl, len, 10, [], [], [], 0, 0, 0, 0, 0, [], []⟩ nilS nilS (.slice (some ⟨ab, 0, none⟩) 1 acap)) 98), (ob, .row zs 98), (xb, .row (rsU r len rb) 122)] ++ ([(ab, .row acs 110)] ++ ((db, .row dcs 5) :: E))) w' := (hA.sub (M' := [(ab, .row acs 110), (db, .row dcs 5)] ++ ([(tb_, .row (rcCells ⟨r.name, typeOf r, r.cls, r.ttl, len, 10, [], [], [], 0, 0, 0, 0, 0, [], []⟩ nilS nilS (.slice (some ⟨ab, 0, none⟩) 1 acap)) 98), (ob, .row zs 98), (xb, .row (rsU r len rb) 122)] ++ E)) (List.Sublist.cons_cons _ (List.Sublist.cons _ (List.Sublist.cons_cons _ (List.Sublist.cons _ (List.Sublist.refl _)))))).perm (perm_count fun p => by simp only [List.countP_append, List.countP_cons, List.countP_nil]; omega)
            have hnd := (List.nodup_cons.1 (List.nodup_cons.1 (List.nodup_cons.1 (List.nodup_cons.1 hA'.nd).2).2).2).2
            exact ⟨⟨rfl, by simp; omega, .inr ⟨ab, acs, acap, rfl, rfl, by simpa using aown⟩, pairs_next hs (by simp) hall (mv_sub hnd fun p hp => List.mem_cons_of_mem _ hp) (SlB.of hnd (i := 0) rfl down)⟩, hA'⟩
          · subst hq hQ
            have hxl := hown.length
            refine TS.append (m := 1) (news := [.int .u16 (s.key : Int), .slice (some ⟨db, 0, none⟩) s.data.length dc]) 6 rfl el96 sl96 rfl rfl rfl rfl rfl hown (Src.slice (fun w hA j u hj => by rw [add_zero', Nat.zero_add]; exact hA.cell (i := 0) rfl (by rw [nth_eq]; exact hj)) rfl (by simp [Value.oneCell'])) (by omega) (by omega) (fun b cs => by simp [setN]) (fun ab' acs' acap' aown => ?_)
            refine TS.p tbk rfl rfl ?_
            refine TS.st 3 rfl szk rfl rfl rfl rfl rfl rfl (by simp [setN]) ?_
            refine TS.nil ?_
            refine T.sub (L' := [(1, ptr xb 0), (2, ptr ob 0), (4, ptr tb_ 0), (191, .slice (some ⟨b, o, none⟩) r.pairs.length xc), (192, .int .i64 (r.pairs.length : Int)), (193, .int .i64 (j : Int))]) ⟨rfl, rfl, rfl, rfl, rfl, rfl, trivial⟩ (T.mono (fun w' hA => ?_) (H ⟨j + 1, .slice (some ⟨ab', 0, none⟩) (j + 1) acap', [(ab', .row acs' 110)], xs ++ [.int .u16 (s.key : Int), .slice (some ⟨db, 0, none⟩) s.data.length dc], (db, .row dcs 5) :: E⟩))
            have hA' : St (keys []) w ([(tb_, .row (rcCells ⟨r.name, typeOf r, r.cls, r.ttl, len, 10, [], [], [], 0, 0, 0, 0, 0, [], []⟩ nilS nilS (.slice (some ⟨ab', 0, none⟩) (j + 1) acap')) 98), (ob, .row zs 98), (xb, .row (rsU r len rb) 122)] ++ ([(ab', .row acs' 110)] ++ ((db, .row dcs 5) :: E))) w' := (hA.sub (M' := [(db, .row dcs 5)] ++ ([(tb_, .row (rcCells ⟨r.name, typeOf r, r.cls, r.ttl, len, 10, [], [], [], 0, 0, 0, 0, 0, [], []⟩ nilS nilS (.slice (some ⟨ab', 0, none⟩) (j + 1) acap')) 98), (ob, .row zs 98), (xb, .row (rsU r len rb) 122)] ++ ([(ab', .row acs' 110)] ++ E))) (List.Sublist.cons _ (List.Sublist.cons_cons _ (List.Sublist.cons _ (List.Sublist.refl _))))).perm (perm_count fun p => by simp only [List.countP_append, List.countP_cons, List.countP_nil]; omega)
            have hnd := (List.nodup_cons.1 (List.nodup_cons.1 (List.nodup_cons.1 (List.nodup_cons.1 hA'.nd).2).2).2).2
            exact ⟨⟨rfl, by simp; omega, .inr ⟨ab', acs', acap', rfl, rfl, aown⟩, pairs_next hs hxl hall (mv_sub hnd fun p hp => List.mem_cons_of_mem _ hp) (SlB.of hnd (i := 0) rfl down)⟩, hA'⟩
        refine RS.append 0 rfl el37 sl37 rfl rfl rfl rfl rfl (own0 1) (SlB.src hdv) (by omega) (by omega) (fun b cs => by simp [setN]) (fun db dcs dc down => ?_)
        rw [List.nil_append, Nat.zero_add] at down
        rw [Nat.zero_add s.data.length]
        have hb := build_seq (vs := [.int .u16 (s.key : Int), .slice (some ⟨db, 0, none⟩) s.data.length dc]) pl110 rfl rfl
        refine TR.q 8 rfl (by kernel_rfl) (by kernel_rfl) rfl rfl rfl (Y.build (pv := partsFrom 0 [.int .u16 (s.key : Int), .slice (some ⟨db, 0, none⟩) s.data.length dc]) rfl hb) ?_
        refine TR.two (i := 1) (j := 9) (by kernel_rfl) ?_ ?_
        case refine_1 =>
          refine RS.l rfl rfl rfl rfl (Y.load szk rfl rfl (fun w h => h.cell (i := 2) rfl rfl)) (by simp [setN]) ?_
          refine TR.lin [(9, false), (10, false), (11, true), (12, false)] (by kernel_rfl) rfl ?_
          refine TS.bsA (us := [.int .u16 (s.key : Int), .slice (some ⟨db, 0, none⟩) s.data.length dc]) rfl el96 rfl rfl (by decide) rfl rfl (fun b => by simp [setN]) (fun eb => ?_)
          rcases hQ with ⟨h0, hq, hQ, hx0⟩ | ⟨ab, acs, acap, hq, hQ, hown⟩
          · subst hq hQ hx0 h0
            refine TS.appendNil (m := 1) (news := [.int .u16 (s.key : Int), .slice (some ⟨db, 0, none⟩) s.data.length dc]) rfl el96 sl96 rfl rfl rfl rfl (Src.slice (fun w hA j u hj => by rw [add_zero', Nat.zero_add]; exact hA.cell (i := 0) rfl (by rw [nth_eq]; exact hj)) rfl (by simp [Value.oneCell'])) (by decide) (by decide) (by decide) (fun b cs => by simp [setN]) (fun ab acs acap aown => ?_)
            refine TS.p tbk rfl rfl ?_
            refine TS.st 4 rfl szk rfl rfl rfl rfl rfl rfl (by simp [setN]) ?_
            refine TS.nil ?_
            refine T.sub (L' := [(1, ptr xb 0), (2, ptr ob 0), (4, ptr tb_ 0), (191, .slice (some ⟨b, o, none⟩) r.pairs.length xc), (192, .int .i64 (r.pairs.length : Int)), (193, .int .i64 ((0 : Nat) : Int))]) ⟨rfl, rfl, rfl, rfl, rfl, rfl, trivial⟩ (T.mono (fun w' hA => ?_) (H ⟨1, .slice (some ⟨ab, 0, none⟩) 1 acap, [(ab, .row acs 110)], [] ++ [.int .u16 (s.key : Int), .slice (some ⟨db, 0, none⟩) s.data.length dc], (db, .row dcs 5) :: E⟩))
            have hA' : St (keys []) w ([(tb_, .row (rcCells ⟨r.name, typeOf r, r.cls, r.ttl, len, 10, [], [], [], 0, 0, 0, 0, 0, [], []⟩ nilS nilS (.slice (some ⟨ab, 0, none⟩) 1 acap)) 98), (ob, .row zs 98), (xb, .row (rsU r len rb) 122)] ++ ([(ab, .row acs 110)] ++ ((db, .row dcs 5) :: E))) w' := (hA.sub (M' := [(ab, .row acs 110), (db, .row dcs 5)] ++ ([(tb_, .row (rcCells ⟨r.name, typeOf r, r.cls, r.ttl, len, 10, [], [], [], 0, 0, 0, 0, 0, [], []⟩ nilS nilS (.slice (some ⟨ab, 0, none⟩) 1 acap)) 98), (ob, .row zs 98), (xb, .row (rsU r len rb) 122)] ++ E)) (List.Sublist.cons_cons _ (List.Sublist.cons _ (List.Sublist.cons_cons _ (List.Sublist.cons _ (List.Sublist.refl _)))))).perm (perm_count fun p => by simp only [List.countP_append, List.countP_cons, List.countP_nil]; omega)
            have hnd := (List.nodup_cons.1 (List.nodup_cons.1 (List.nodup_cons.1 (List.nodup_cons.1 hA'.nd).2).2).2).2
            exact ⟨⟨rfl, by simp; omega, .inr ⟨ab, acs, acap, rfl, rfl, by simpa using aown⟩, pairs_next hs (by simp) hall (mv_sub hnd fun p hp => List.mem_cons_of_mem _ hp) (SlB.of hnd (i := 0) rfl down)⟩, hA'⟩
          · subst hq hQ
            have hxl := hown.length
            refine TS.append (m := 1) (news := [.int .u16 (s.key : Int), .slice (some ⟨db, 0, none⟩) s.data.length dc]) 6 rfl el96 sl96 rfl rfl rfl rfl rfl hown (Src.slice (fun w hA j u hj => by rw [add_zero', Nat.zero_add]; exact hA.cell (i := 0) rfl (by rw [nth_eq]; exact hj)) rfl (by simp [Value.oneCell'])) (by omega) (by omega) (fun b cs => by simp [setN]) (fun ab' acs' acap' aown => ?_)
            refine TS.p tbk rfl rfl ?_
            refine TS.st 3 rfl szk rfl rfl rfl rfl rfl rfl (by simp [setN]) ?_
            refine TS.nil ?_
            refine T.sub (L' := [(1, ptr xb 0), (2, ptr ob 0), (4, ptr tb_ 0), (191, .slice (some ⟨b, o, none⟩) r.pairs.length xc), (192, .int .i64 (r.pairs.length : Int)), (193, .int .i64 (j : Int))]) ⟨rfl, rfl, rfl, rfl, rfl, rfl, trivial⟩ (T.mono (fun w' hA => ?_) (H ⟨j + 1, .slice (some ⟨ab', 0, none⟩) (j + 1) acap', [(ab', .row acs' 110)], xs ++ [.int .u16 (s.key : Int), .slice (some ⟨db, 0, none⟩) s.data.length dc], (db, .row dcs 5) :: E⟩))
            have hA' : St (keys []) w ([(tb_, .row (rcCells ⟨r.name, typeOf r, r.cls, r.ttl, len, 10, [], [], [], 0, 0, 0, 0, 0, [], []⟩ nilS nilS (.slice (some ⟨ab', 0, none⟩) (j + 1) acap')) 98), (ob, .row zs 98), (xb, .row (rsU r len rb) 122)] ++ ([(ab', .row acs' 110)] ++ ((db, .row dcs 5) :: E))) w' := (hA.sub (M' := [(db, .row dcs 5)] ++ ([(tb_, .row (rcCells ⟨r.name, typeOf r, r.cls, r.ttl, len, 10, [], [], [], 0, 0, 0, 0, 0, [], []⟩ nilS nilS (.slice (some ⟨ab', 0, none⟩) (j + 1) acap')) 98), (ob, .row zs 98), (xb, .row (rsU r len rb) 122)] ++ ([(ab', .row acs' 110)] ++ E))) (List.Sublist.cons _ (List.Sublist.cons_cons _ (List.Sublist.cons _ (List.Sublist.refl _))))).perm (perm_count fun p => by simp only [List.countP_append, List.countP_cons, List.countP_nil]; omega)
            have hnd := (List.nodup_cons.1 (List.nodup_cons.1 (List.nodup_cons.1 (List.nodup_cons.1 hA'.nd).2).2).2).2
            exact ⟨⟨rfl, by simp; omega, .inr ⟨ab', acs', acap', rfl, rfl, aown⟩, pairs_next hs hxl hall (mv_sub hnd fun p hp => List.mem_cons_of_mem _ hp) (SlB.of hnd (i := 0) rfl down)⟩, hA'⟩
        refine RS.bsA (us := [.int .u16 (s.key : Int), .slice (some ⟨db, 0, none⟩) s.data.length dc]) rfl el96 rfl rfl (by decide) rfl rfl (fun b => by simp [setN]) (fun eb => ?_)
        refine TR.lin [(1, false), (10, false), (11, true), (12, false)] (by kernel_rfl) rfl ?_
        refine TS.l rfl rfl rfl rfl (Y.load szk rfl rfl (fun w h => h.cell (i := 3) rfl rfl)) (by simp [setN]) ?_
        rcases hQ with ⟨h0, hq, hQ, hx0⟩ | ⟨ab, acs, acap, hq, hQ, hown⟩
        · subst hq hQ hx0 h0
          refine TS.appendNil (m := 1) (news := [.int .u16 (s.key : Int), .slice (some ⟨db, 0, none⟩) s.data.length dc]) rfl el96 sl96 rfl rfl rfl rfl (Src.slice (fun w hA j u hj => by rw [add_zero', Nat.zero_add]; exact hA.cell (i := 0) rfl (by rw [nth_eq]; exact hj)) rfl (by simp [Value.oneCell'])) (by decide) (by decide) (by decide) (fun b cs => by simp [setN]) (fun ab acs acap aown => ?_)
          refine TS.p tbk rfl rfl ?_
          refine TS.st 4 rfl szk rfl rfl rfl rfl rfl rfl (by simp [setN]) ?_
          refine TS.nil ?_
          refine T.sub (L' := [(1, ptr xb 0), (2, ptr ob 0), (4, ptr tb_ 0), (191, .slice (some ⟨b, o, none⟩) r.pairs.length xc), (192, .int .i64 (r.pairs.length : Int)), (193, .int .i64 ((0 : Nat) : Int))]) ⟨rfl, rfl, rfl, rfl, rfl, rfl, trivial⟩ (T.mono (fun w' hA => ?_) (H ⟨1, .slice (some ⟨ab, 0, none⟩) 1 acap, [(ab, .row acs 110)], [] ++ [.int .u16 (s.key : Int), .slice (some ⟨db, 0, none⟩) s.data.length dc], (db, .row dcs 5) :: E⟩))
          have hA' : St (keys []) w ([(tb_, .row (rcCells ⟨r.name, typeOf r, r.cls, r.ttl, len, 10, [], [], [], 0, 0, 0, 0, 0, [], []⟩ nilS nilS (.slice (some ⟨ab, 0, none⟩) 1 acap)) 98), (ob, .row zs 98), (xb, .row (rsU r len rb) 122)] ++ ([(ab, .row acs 110)] ++ ((db, .row dcs 5) :: E))) w' := (hA.sub (M' := [(ab, .row acs 110), (db, .row dcs 5)] ++ ([(tb_, .row (rcCells ⟨r.name, typeOf r, r.cls, r.ttl, len, 10, [], [], [], 0, 0, 0, 0, 0, [], []⟩ nilS nilS (.slice (some ⟨ab, 0, none⟩) 1 acap)) 98), (ob, .row zs 98), (xb, .row (rsU r len rb) 122)] ++ E)) (List.Sublist.cons_cons _ (List.Sublist.cons _ (List.Sublist.cons_cons _ (List.Sublist.cons _ (List.Sublist.refl _)))))).perm (perm_count fun p => by simp only [List.countP_append, List.countP_cons, List.countP_nil]; omega)
          have hnd := (List.nodup_cons.1 (List.nodup_cons.1 (List.nodup_cons.1 (List.nodup_cons.1 hA'.nd).2).2).2).2
          exact ⟨⟨rfl, by simp; omega, .inr ⟨ab, acs, acap, rfl, rfl, by simpa using aown⟩, pairs_next hs (by simp) hall (mv_sub hnd fun p hp => List.mem_cons_of_mem _ hp) (SlB.of hnd (i := 0) rfl down)⟩, hA'⟩
        · subst hq hQ
          have hxl := hown.length
          refine TS.append (m := 1) (news := [.int .u16 (s.key : Int), .slice (some ⟨db, 0, none⟩) s.data.length dc]) 6 rfl el96 sl96 rfl rfl rfl rfl rfl hown (Src.slice (fun w hA j u hj => by rw [add_zero', Nat.zero_add]; exact hA.cell (i := 0) rfl (by rw [nth_eq]; exact hj)) rfl (by simp [Value.oneCell'])) (by omega) (by omega) (fun b cs => by simp [setN]) (fun ab' acs' acap' aown => ?_)
          refine TS.p tbk rfl rfl ?_
          refine TS.st 3 rfl szk rfl rfl rfl rfl rfl rfl (by simp [setN]) ?_
          refine TS.nil ?_
          refine T.sub (L' := [(1, ptr xb 0), (2, ptr ob 0), (4, ptr tb_ 0), (191, .slice (some ⟨b, o, none⟩) r.pairs.length xc), (192, .int .i64 (r.pairs.length : Int)), (193, .int .i64 (j : Int))]) ⟨rfl, rfl, rfl, rfl, rfl, rfl, trivial⟩ (T.mono (fun w' hA => ?_) (H ⟨j + 1, .slice (some ⟨ab', 0, none⟩) (j + 1) acap', [(ab', .row acs' 110)], xs ++ [.int .u16 (s.key : Int), .slice (some ⟨db, 0, none⟩) s.data.length dc], (db, .row dcs 5) :: E⟩))
          have hA' : St (keys []) w ([(tb_, .row (rcCells ⟨r.name, typeOf r, r.cls, r.ttl, len, 10, [], [], [], 0, 0, 0, 0, 0, [], []⟩ nilS nilS (.slice (some ⟨ab', 0, none⟩) (j + 1) acap')) 98), (ob, .row zs 98), (xb, .row (rsU r len rb) 122)] ++ ([(ab', .row acs' 110)] ++ ((db, .row dcs 5) :: E))) w' := (hA.sub (M' := [(db, .row dcs 5)] ++ ([(tb_, .row (rcCells ⟨r.name, typeOf r, r.cls, r.ttl, len, 10, [], [], [], 0, 0, 0, 0, 0, [], []⟩ nilS nilS (.slice (some ⟨ab', 0, none⟩) (j + 1) acap')) 98), (ob, .row zs 98), (xb, .row (rsU r len rb) 122)] ++ ([(ab', .row acs' 110)] ++ E))) (List.Sublist.cons _ (List.Sublist.cons_cons _ (List.Sublist.cons _ (List.Sublist.refl _))))).perm (perm_count fun p => by simp only [List.countP_append, List.countP_cons, List.countP_nil]; omega)
          have hnd := (List.nodup_cons.1 (List.nodup_cons.1 (List.nodup_cons.1 (List.nodup_cons.1 hA'.nd).2).2).2).2
          exact ⟨⟨rfl, by simp; omega, .inr ⟨ab', acs', acap', rfl, rfl, aown⟩, pairs_next hs hxl hall (mv_sub hnd fun p hp => List.mem_cons_of_mem _ hp) (SlB.of hnd (i := 0) rfl down)⟩, hA'⟩
      rintro ⟨j', qv', Q', xs', E'⟩
      refine T.and fun ⟨hj', hok'⟩ => ?_
      simp only at hj'
      subst hj'
      repeat (first | refine za rfl rfl ?_ | refine zb rfl ?_ | refine zc rfl ?_)
      rw [add1_i64 (a := j) (by omega)]
      exact T.again ih ⟨j + 1, qv', Q', xs', E'⟩ (by simp; omega) ⟨rfl, rfl, rfl, rfl, rfl, rfl, trivial⟩ (fun w' hA => ⟨hok', hA⟩)
    · refine T.condF rfl (by simpa using hjl) ?_
      have hjq : j = r.pairs.length := by omega
      have hqo : ∃ qa qc, qv = .slice qa r.pairs.length qc := by
        rcases hQ with ⟨h0, hq, hQ, hx⟩ | ⟨ab, acs, acap, hq, hQ, hown⟩
        · exact ⟨none, 0, by rw [hq, ← hjq, h0]⟩
        · exact ⟨_, acap, by rw [hq, hjq]⟩
      obtain ⟨qa, qc, hqv⟩ := hqo
      subst hqv
      repeat (first | refine za rfl rfl ?_ | refine zb rfl ?_ | refine zc rfl ?_)
      have hnm : norm r len = ⟨r.name, typeOf r, r.cls, r.ttl, len, 10, [], [], [], 0, 0, 0, 0, 0, [], r.pairs⟩ := by unfold norm; rw [e]; simp only [normZ, k]; rfl
      rw [hnm]
      refine TL.ldW (cs := rcCells ⟨r.name, typeOf r, r.cls, r.ttl, len, 10, [], [], [], 0, 0, 0, 0, 0, [], r.pairs⟩ nilS nilS (.slice qa r.pairs.length qc)) 0 szk rfl rfl rfl rfl rfl rfl ?_
      refine TL.stW (vs := rcCells ⟨r.name, typeOf r, r.cls, r.ttl, len, 10, [], [], [], 0, 0, 0, 0, 0, [], r.pairs⟩ nilS nilS (.slice qa r.pairs.length qc)) 1 szk rfl rfl rfl rfl rfl hz (rcCells_one rfl rfl rfl) ?_
      repeat (first | refine za rfl rfl ?_ | refine zb rfl ?_ | refine zc rfl ?_)
      refine T.retG Tryz.func90 (.cons (RV.cellW 1 szk rfl rfl rfl rfl) .nil) (fun w hA => ⟨⟨nilS, nilS, .slice qa r.pairs.length qc, Q ++ E⟩, rfl, ⟨.inl ⟨⟨_, _, rfl⟩, rfl⟩, .inl ⟨⟨_, _, rfl⟩, rfl⟩, ?_⟩, hA.sub (List.Sublist.cons _ (List.Sublist.cons _ (List.Sublist.cons _ (List.Sublist.refl _))))⟩)
      have hnd := (List.nodup_cons.1 (List.nodup_cons.1 (List.nodup_cons.1 hA.nd).2).2).2
      rcases hQ with ⟨h0, hq, hQ, hx⟩ | ⟨ab, acs, acap, hq, hQ, hown⟩
      · have h00 : r.pairs.length = 0 := by omega
        rw [hq]
        exact .inl ⟨⟨_, _, rfl⟩, List.length_eq_zero_iff.1 h00⟩
      · subst hQ
        rw [hq, hjq]
        rw [hjq] at hown hall
        exact SlP.of (o := 0) hnd (i := 0) rfl hown (fun i p hi hp => let ⟨dv, a1, a2, a3⟩ := hall i p hi hp; ⟨dv, a1, a2, a3.mono (mv_sub hnd fun p hp => List.mem_append_right _ hp)⟩)
  · have e := congrArg Int.toNat k
    rw [show ifTy r.kind.toNat = 224 by rw [e]; rfl]
    simp only [bodyCells, e] at hrow
    simp only [bodyX, e] at hx
    repeat (first | refine za rfl rfl ?_ | refine zb rfl ?_ | refine zc rfl ?_)
    refine TL.y rfl rfl rfl (Y.asN Tryz.underlying214 (by intro ms h; cases h) rfl rfl Tryz.zeroValue214) ?_
    repeat (first | refine za rfl rfl ?_ | refine zb rfl ?_ | refine zc rfl ?_)
    refine T.condF rfl rfl ?_
    repeat (first | refine za rfl rfl ?_ | refine zb rfl ?_ | refine zc rfl ?_)
    refine TL.y rfl rfl rfl (Y.asN Tryz.underlying215 (by intro ms h; cases h) rfl rfl Tryz.zeroValue215) ?_
    repeat (first | refine za rfl rfl ?_ | refine zb rfl ?_ | refine zc rfl ?_)
    refine T.condF rfl rfl ?_
    repeat (first | refine za rfl rfl ?_ | refine zb rfl ?_ | refine zc rfl ?_)
    refine TL.y rfl rfl rfl (Y.asN Tryz.underlying216 (by intro ms h; cases h) rfl rfl Tryz.zeroValue216) ?_
    repeat (first | refine za rfl rfl ?_ | refine zb rfl ?_ | refine zc rfl ?_)
    refine T.condF rfl rfl ?_
    repeat (first | refine za rfl rfl ?_ | refine zb rfl ?_ | refine zc rfl ?_)
    refine TL.y rfl rfl rfl (Y.asN Tryz.underlying217 (by intro ms h; cases h) rfl rfl Tryz.zeroValue217) ?_
    repeat (first | refine za rfl rfl ?_ | refine zb rfl ?_ | refine zc rfl ?_)
    refine T.condF rfl rfl ?_
    repeat (first | refine za rfl rfl ?_ | refine zb rfl ?_ | refine zc rfl ?_)
    refine TL.y rfl rfl rfl (Y.asN Tryz.underlying218 (by intro ms h; cases h) rfl rfl Tryz.zeroValue218) ?_
    repeat (first | refine za rfl rfl ?_ | refine zb rfl ?_ | refine zc rfl ?_)
    refine T.condF rfl rfl ?_
    repeat (first | refine za rfl rfl ?_ | refine zb rfl ?_ | refine zc rfl ?_)
    refine TL.y rfl rfl rfl (Y.asN Tryz.underlying219 (by intro ms h; cases h) rfl rfl Tryz.zeroValue219) ?_
    repeat (first | refine za rfl rfl ?_ | refine zb rfl ?_ | refine zc rfl ?_)
    refine T.condF rfl rfl ?_
    repeat (first | refine za rfl rfl ?_ | refine zb rfl ?_ | refine zc rfl ?_)
    refine TL.y rfl rfl rfl (Y.asN Tryz.underlying220 (by intro ms h; cases h) rfl rfl Tryz.zeroValue220) ?_
    repeat (first | refine za rfl rfl ?_ | refine zb rfl ?_ | refine zc rfl ?_)
    refine T.condF rfl rfl ?_
    repeat (first | refine za rfl rfl ?_ | refine zb rfl ?_ | refine zc rfl ?_)
    refine TL.y rfl rfl rfl (Y.asN Tryz.underlying221 (by intro ms h; cases h) rfl rfl Tryz.zeroValue221) ?_
    repeat (first | refine za rfl rfl ?_ | refine zb rfl ?_ | refine zc rfl ?_)
    refine T.condF rfl rfl ?_
    repeat (first | refine za rfl rfl ?_ | refine zb rfl ?_ | refine zc rfl ?_)
    refine TL.y rfl rfl rfl (Y.asN Tryz.underlying222 (by intro ms h; cases h) rfl rfl Tryz.zeroValue222) ?_
    repeat (first | refine za rfl rfl ?_ | refine zb rfl ?_ | refine zc rfl ?_)
    refine T.condF rfl rfl ?_
    repeat (first | refine za rfl rfl ?_ | refine zb rfl ?_ | refine zc rfl ?_)
    refine TL.y rfl rfl rfl (Y.asN Tryz.underlying223 (by intro ms h; cases h) rfl rfl Tryz.zeroValue223) ?_
    repeat (first | refine za rfl rfl ?_ | refine zb rfl ?_ | refine zc rfl ?_)
    refine T.condF rfl rfl ?_
    repeat (first | refine za rfl rfl ?_ | refine zb rfl ?_ | refine zc rfl ?_)
    refine TL.y rfl rfl rfl (Y.asY Tryz.underlying224 (by intro ms h; cases h) rfl) ?_
    repeat (first | refine za rfl rfl ?_ | refine zb rfl ?_ | refine zc rfl ?_)
    refine T.condT rfl rfl ?_
    repeat (first | refine za rfl rfl ?_ | refine zb rfl ?_ | refine zc rfl ?_)
    obtain ⟨hn, hl⟩ := hr.host (by rw [k]; decide)
    have h255h : r.host.length ≤ 255 := by have := hn.len; omega
    have hn1 := nameCells_length h255h
    have hpl := hr.pairl
    have hpl2 := pairB_len r.pairs
    have hrow : RowAt (view (keys []) w) rb 0 (Value.int .u16 ((r.n1 % 65536 : Nat) : Int) :: (nameCells r.host ++ [xv])) := hrow
    have hx : SlP (view (keys []) w) xv r.pairs := hx
    have at1 : nth (Value.int .u16 ((r.n1 % 65536 : Nat) : Int) :: (nameCells r.host ++ [xv])) 257 = some xv := by rw [nth_eq, List.getElem?_cons_succ, List.getElem?_append_right (by omega), hn1]; rfl
    refine TS.start [(0, true), (1, true), (2, true), (3, true), (4, true), (5, true), (6, true), (7, true), (8, true), (10, true), (11, true), (12, true), (13, true), (15, true), (9, false), (14, false), (16, false), (17, true), (18, false), (19, true), (20, false), (21, true), (22, false)] [] mixed (by kernel_rfl) (by kernel_rfl) (by decide) (by simp) ?_
    repeat refine TS.p tbk rfl rfl ?_
    refine TS.y rfl rfl rfl rfl (Y.load szk rfl rfl (fun w h => (hrow.one (i := 0) rfl rfl).cell h.1 (i := 0) rfl)) ?_
    refine TS.p tbk rfl rfl ?_
    rw [u32_in ((r.n1 % 65536 : Nat) : Int) (by omega) (by omega)]
    repeat refine TS.p tbk rfl rfl ?_
    refine TS.y rfl rfl rfl rfl (Y.loadA szk rfl rfl hn1 (fun w h i v hv => (hrow.part (i := 1) (us := nameCells r.host) (fun j v hj => by rw [nth_eq] at *; rw [Nat.add_comm, List.getElem?_cons_succ, List.getElem?_append_left (List.getElem?_eq_some_iff.1 hj).1]; exact hj) rfl).cell h.1 hv)) ?_
    repeat refine TS.p tbk rfl rfl ?_
    refine TS.y rfl rfl rfl rfl (Y.load szk rfl rfl (fun w h => (hrow.one (i := 257) at1 rfl).cell h.1 (i := 0) rfl)) ?_
    refine TS.p tbk rfl rfl ?_
    refine TS.call0 rfl Tryz.call89 rfl rfl rfl (textOf r.host h255h) (fun _ _ => trivial) (fun _ => by simp) (fun _ => TS.and fun _ => ?_)
    refine TS.call0 rfl Tryz.call142 rfl rfl rfl (paramsBack r.pairs (by omega) (fun p hp => by have := pairB_mem hp; omega) xv) (fun w' hA => hx.mono (st_viewLe hA (Mc := []) fun _ hp => by cases hp)) (fun _ => by simp) (fun y => TS.and fun hy => ?_)
    obtain ⟨ya, yc, hys, _⟩ := hy.shape
    refine TS.mono (fun w hA => hA.perm (M' := [(tb_, .row (rc0 r len) 98), (ob, .row zs 98), (xb, .row (rsU r len rb) 122)] ++ y.2) List.perm_append_comm) ?_
    rw [hys] at hy ⊢
    refine TS.st 0 rfl szk rfl rfl rfl rfl rfl rfl (by simp) ?_
    refine TS.p tbk rfl rfl ?_
    refine TS.st 0 rfl szk rfl rfl rfl rfl rfl rfl (by simp) ?_
    refine TS.p tbk rfl rfl ?_
    refine TS.st 0 rfl szk rfl rfl rfl rfl rfl rfl (by simp) ?_
    refine TS.p tbk rfl rfl ?_
    refine TS.st 0 rfl szk rfl rfl rfl rfl rfl rfl (by simp) ?_
    refine TS.nil ?_
    repeat (first | refine za rfl rfl ?_ | refine zb rfl ?_ | refine zc rfl ?_)
    have hnm : norm r len = ⟨r.name, typeOf r, r.cls, r.ttl, len, 11, [], r.host, [], r.n1 % 65536, 0, 0, 0, 0, [], r.pairs⟩ := by unfold norm; rw [e]; simp only [normZ, k]; rfl
    rw [hnm]
    refine TL.ldW (cs := rcCells ⟨r.name, typeOf r, r.cls, r.ttl, len, 11, [], r.host, [], r.n1 % 65536, 0, 0, 0, 0, [], r.pairs⟩ nilS nilS (.slice ya r.pairs.length yc)) 0 szk rfl rfl rfl rfl rfl rfl ?_
    refine TL.stW (vs := rcCells ⟨r.name, typeOf r, r.cls, r.ttl, len, 11, [], r.host, [], r.n1 % 65536, 0, 0, 0, 0, [], r.pairs⟩ nilS nilS (.slice ya r.pairs.length yc)) 1 szk rfl rfl rfl rfl rfl hz (rcCells_one rfl rfl rfl) ?_
    repeat (first | refine za rfl rfl ?_ | refine zb rfl ?_ | refine zc rfl ?_)
    exact T.retG Tryz.func90 (.cons (RV.cellW 1 szk rfl rfl rfl rfl) .nil) (fun w hA => ⟨⟨nilS, nilS, .slice ya r.pairs.length yc, y.2⟩, rfl, ⟨.inl ⟨⟨_, _, rfl⟩, rfl⟩, .inl ⟨⟨_, _, rfl⟩, rfl⟩, hy⟩, hA.sub (List.Sublist.cons _ (List.Sublist.cons _ (List.Sublist.cons _ (List.Sublist.refl _))))⟩)
  · have e := congrArg Int.toNat k
    rw [show ifTy r.kind.toNat = 225 by rw [e]; rfl]
    simp only [bodyCells, e] at hrow
    simp only [bodyX, e] at hx
    repeat (first | refine za rfl rfl ?_ | refine zb rfl ?_ | refine zc rfl ?_)
    refine TL.y rfl rfl rfl (Y.asN Tryz.underlying214 (by intro ms h; cases h) rfl rfl Tryz.zeroValue214) ?_
    repeat (first | refine za rfl rfl ?_ | refine zb rfl ?_ | refine zc rfl ?_)
    refine T.condF rfl rfl ?_
    repeat (first | refine za rfl rfl ?_ | refine zb rfl ?_ | refine zc rfl ?_)
    refine TL.y rfl rfl rfl (Y.asN Tryz.underlying215 (by intro ms h; cases h) rfl rfl Tryz.zeroValue215) ?_
    repeat (first | refine za rfl rfl ?_ | refine zb rfl ?_ | refine zc rfl ?_)
    refine T.condF rfl rfl ?_
    repeat (first | refine za rfl rfl ?_ | refine zb rfl ?_ | refine zc rfl ?_)
    refine TL.y rfl rfl rfl (Y.asN Tryz.underlying216 (by intro ms h; cases h) rfl rfl Tryz.zeroValue216) ?_
    repeat (first | refine za rfl rfl ?_ | refine zb rfl ?_ | refine zc rfl ?_)
    refine T.condF rfl rfl ?_
    repeat (first | refine za rfl rfl ?_ | refine zb rfl ?_ | refine zc rfl ?_)
    refine TL.y rfl rfl rfl (Y.asN Tryz.underlying217 (by intro ms h; cases h) rfl rfl Tryz.zeroValue217) ?_
    repeat (first | refine za rfl rfl ?_ | refine zb rfl ?_ | refine zc rfl ?_)
    refine T.condF rfl rfl ?_
    repeat (first | refine za rfl rfl ?_ | refine zb rfl ?_ | refine zc rfl ?_)
    refine TL.y rfl rfl rfl (Y.asN Tryz.underlying218 (by intro ms h; cases h) rfl rfl Tryz.zeroValue218) ?_
    repeat (first | refine za rfl rfl ?_ | refine zb rfl ?_ | refine zc rfl ?_)
    refine T.condF rfl rfl ?_
    repeat (first | refine za rfl rfl ?_ | refine zb rfl ?_ | refine zc rfl ?_)
    refine TL.y rfl rfl rfl (Y.asN Tryz.underlying219 (by intro ms h; cases h) rfl rfl Tryz.zeroValue219) ?_
    repeat (first | refine za rfl rfl ?_ | refine zb rfl ?_ | refine zc rfl ?_)
    refine T.condF rfl rfl ?_
    repeat (first | refine za rfl rfl ?_ | refine zb rfl ?_ | refine zc rfl ?_)
    refine TL.y rfl rfl rfl (Y.asN Tryz.underlying220 (by intro ms h; cases h) rfl rfl Tryz.zeroValue220) ?_
    repeat (first | refine za rfl rfl ?_ | refine zb rfl ?_ | refine zc rfl ?_)
    refine T.condF rfl rfl ?_
    repeat (first | refine za rfl rfl ?_ | refine zb rfl ?_ | refine zc rfl ?_)
    refine TL.y rfl rfl rfl (Y.asN Tryz.underlying221 (by intro ms h; cases h) rfl rfl Tryz.zeroValue221) ?_
    repeat (first | refine za rfl rfl ?_ | refine zb rfl ?_ | refine zc rfl ?_)
    refine T.condF rfl rfl ?_
    repeat (first | refine za rfl rfl ?_ | refine zb rfl ?_ | refine zc rfl ?_)
    refine TL.y rfl rfl rfl (Y.asN Tryz.underlying222 (by intro ms h; cases h) rfl rfl Tryz.zeroValue222) ?_
    repeat (first | refine za rfl rfl ?_ | refine zb rfl ?_ | refine zc rfl ?_)
    refine T.condF rfl rfl ?_
    repeat (first | refine za rfl rfl ?_ | refine zb rfl ?_ | refine zc rfl ?_)
    refine TL.y rfl rfl rfl (Y.asN Tryz.underlying223 (by intro ms h; cases h) rfl rfl Tryz.zeroValue223) ?_
    repeat (first | refine za rfl rfl ?_ | refine zb rfl ?_ | refine zc rfl ?_)
    refine T.condF rfl rfl ?_
    repeat (first | refine za rfl rfl ?_ | refine zb rfl ?_ | refine zc rfl ?_)
    refine TL.y rfl rfl rfl (Y.asN Tryz.underlying224 (by intro ms h; cases h) rfl rfl Tryz.zeroValue224) ?_
    repeat (first | refine za rfl rfl ?_ | refine zb rfl ?_ | refine zc rfl ?_)
    refine T.condF rfl rfl ?_
    repeat (first | refine za rfl rfl ?_ | refine zb rfl ?_ | refine zc rfl ?_)
    refine TL.y rfl rfl rfl (Y.asY Tryz.underlying225 (by intro ms h; cases h) rfl) ?_
    repeat (first | refine za rfl rfl ?_ | refine zb rfl ?_ | refine zc rfl ?_)
    refine T.condT rfl rfl ?_
    repeat (first | refine za rfl rfl ?_ | refine zb rfl ?_ | refine zc rfl ?_)
    obtain ⟨hn, hl⟩ := hr.host (by rw [k]; decide)
    have h255h : r.host.length ≤ 255 := by have := hn.len; omega
    have hn1 := nameCells_length h255h
    have hpl := hr.pairl
    have hpl2 := pairB_len r.pairs
    have hrow : RowAt (view (keys []) w) rb 0 (Value.int .u16 ((r.n1 % 65536 : Nat) : Int) :: (nameCells r.host ++ [xv])) := hrow
    have hx : SlP (view (keys []) w) xv r.pairs := hx
    have at1 : nth (Value.int .u16 ((r.n1 % 65536 : Nat) : Int) :: (nameCells r.host ++ [xv])) 257 = some xv := by rw [nth_eq, List.getElem?_cons_succ, List.getElem?_append_right (by omega), hn1]; rfl
    refine TS.start [(0, true), (1, true), (2, true), (3, true), (4, true), (5, true), (6, true), (7, true), (8, true), (9, true), (10, true), (12, true), (13, true), (14, true), (15, true), (16, true), (18, true), (11, false), (17, false), (19, false), (20, true), (21, false), (22, true), (23, false), (24, true), (25, false)] [] mixed (by kernel_rfl) (by kernel_rfl) (by decide) (by simp) ?_
    repeat refine TS.p tbk rfl rfl ?_
    refine TS.y rfl rfl rfl rfl (Y.load szk rfl rfl (fun w h => (hrow.one (i := 0) rfl rfl).cell h.1 (i := 0) rfl)) ?_
    refine TS.p tbk rfl rfl ?_
    rw [u32_in ((r.n1 % 65536 : Nat) : Int) (by omega) (by omega)]
    repeat refine TS.p tbk rfl rfl ?_
    refine TS.y rfl rfl rfl rfl (Y.loadA szk rfl rfl hn1 (fun w h i v hv => (hrow.part (i := 1) (us := nameCells r.host) (fun j v hj => by rw [nth_eq] at *; rw [Nat.add_comm, List.getElem?_cons_succ, List.getElem?_append_left (List.getElem?_eq_some_iff.1 hj).1]; exact hj) rfl).cell h.1 hv)) ?_
    repeat refine TS.p tbk rfl rfl ?_
    refine TS.y rfl rfl rfl rfl (Y.load szk rfl rfl (fun w h => (hrow.one (i := 257) at1 rfl).cell h.1 (i := 0) rfl)) ?_
    refine TS.p tbk rfl rfl ?_
    refine TS.call0 rfl Tryz.call89 rfl rfl rfl (textOf r.host h255h) (fun _ _ => trivial) (fun _ => by simp) (fun _ => TS.and fun _ => ?_)
    refine TS.call0 rfl Tryz.call142 rfl rfl rfl (paramsBack r.pairs (by omega) (fun p hp => by have := pairB_mem hp; omega) xv) (fun w' hA => hx.mono (st_viewLe hA (Mc := []) fun _ hp => by cases hp)) (fun _ => by simp) (fun y => TS.and fun hy => ?_)
    obtain ⟨ya, yc, hys, _⟩ := hy.shape
    refine TS.mono (fun w hA => hA.perm (M' := [(tb_, .row (rc0 r len) 98), (ob, .row zs 98), (xb, .row (rsU r len rb) 122)] ++ y.2) List.perm_append_comm) ?_
    rw [hys] at hy ⊢
    refine TS.st 0 rfl szk rfl rfl rfl rfl rfl rfl (by simp) ?_
    refine TS.p tbk rfl rfl ?_
    refine TS.st 0 rfl szk rfl rfl rfl rfl rfl rfl (by simp) ?_
    refine TS.p tbk rfl rfl ?_
    refine TS.st 0 rfl szk rfl rfl rfl rfl rfl rfl (by simp) ?_
    refine TS.p tbk rfl rfl ?_
    refine TS.st 0 rfl szk rfl rfl rfl rfl rfl rfl (by simp) ?_
    refine TS.nil ?_
    repeat (first | refine za rfl rfl ?_ | refine zb rfl ?_ | refine zc rfl ?_)
    have hnm : norm r len = ⟨r.name, typeOf r, r.cls, r.ttl, len, 12, [], r.host, [], r.n1 % 65536, 0, 0, 0, 0, [], r.pairs⟩ := by unfold norm; rw [e]; simp only [normZ, k]; rfl
    rw [hnm]
    refine TL.ldW (cs := rcCells ⟨r.name, typeOf r, r.cls, r.ttl, len, 12, [], r.host, [], r.n1 % 65536, 0, 0, 0, 0, [], r.pairs⟩ nilS nilS (.slice ya r.pairs.length yc)) 0 szk rfl rfl rfl rfl rfl rfl ?_
    refine TL.stW (vs := rcCells ⟨r.name, typeOf r, r.cls, r.ttl, len, 12, [], r.host, [], r.n1 % 65536, 0, 0, 0, 0, [], r.pairs⟩ nilS nilS (.slice ya r.pairs.length yc)) 1 szk rfl rfl rfl rfl rfl hz (rcCells_one rfl rfl rfl) ?_
    repeat (first | refine za rfl rfl ?_ | refine zb rfl ?_ | refine zc rfl ?_)
    exact T.retG Tryz.func90 (.cons (RV.cellW 1 szk rfl rfl rfl rfl) .nil) (fun w hA => ⟨⟨nilS, nilS, .slice ya r.pairs.length yc, y.2⟩, rfl, ⟨.inl ⟨⟨_, _, rfl⟩, rfl⟩, .inl ⟨⟨_, _, rfl⟩, rfl⟩, hy⟩, hA.sub (List.Sublist.cons _ (List.Sublist.cons _ (List.Sublist.cons _ (List.Sublist.refl _))))⟩)
  · have e := congrArg Int.toNat k
    rw [show ifTy r.kind.toNat = 226 by rw [e]; rfl]
    simp only [bodyCells, e] at hrow
    simp only [bodyX, e] at hx
    repeat (first | refine za rfl rfl ?_ | refine zb rfl ?_ | refine zc rfl ?_)
    refine TL.y rfl rfl rfl (Y.asN Tryz.underlying214 (by intro ms h; cases h) rfl rfl Tryz.zeroValue214) ?_
    repeat (first | refine za rfl rfl ?_ | refine zb rfl ?_ | refine zc rfl ?_)
    refine T.condF rfl rfl ?_
    repeat (first | refine za rfl rfl ?_ | refine zb rfl ?_ | refine zc rfl ?_)
    refine TL.y rfl rfl rfl (Y.asN Tryz.underlying215 (by intro ms h; cases h) rfl rfl Tryz.zeroValue215) ?_
    repeat (first | refine za rfl rfl ?_ | refine zb rfl ?_ | refine zc rfl ?_)
    refine T.condF rfl rfl ?_
    repeat (first | refine za rfl rfl ?_ | refine zb rfl ?_ | refine zc rfl ?_)
    refine TL.y rfl rfl rfl (Y.asN Tryz.underlying216 (by intro ms h; cases h) rfl rfl Tryz.zeroValue216) ?_
    repeat (first | refine za rfl rfl ?_ | refine zb rfl ?_ | refine zc rfl ?_)
    refine T.condF rfl rfl ?_
    repeat (first | refine za rfl rfl ?_ | refine zb rfl ?_ | refine zc rfl ?_)
    refine TL.y rfl rfl rfl (Y.asN Tryz.underlying217 (by intro ms h; cases h) rfl rfl Tryz.zeroValue217) ?_
    repeat (first | refine za rfl rfl ?_ | refine zb rfl ?_ | refine zc rfl ?_)
    refine T.condF rfl rfl ?_
    repeat (first | refine za rfl rfl ?_ | refine zb rfl ?_ | refine zc rfl ?_)
    refine TL.y rfl rfl rfl (Y.asN Tryz.underlying218 (by intro ms h; cases h) rfl rfl Tryz.zeroValue218) ?_
    repeat (first | refine za rfl rfl ?_ | refine zb rfl ?_ | refine zc rfl ?_)
    refine T.condF rfl rfl ?_
    repeat (first | refine za rfl rfl ?_ | refine zb rfl ?_ | refine zc rfl ?_)
    refine TL.y rfl rfl rfl (Y.asN Tryz.underlying219 (by intro ms h; cases h) rfl rfl Tryz.zeroValue219) ?_
    repeat (first | refine za rfl rfl ?_ | refine zb rfl ?_ | refine zc rfl ?_)
    refine T.condF rfl rfl ?_
    repeat (first | refine za rfl rfl ?_ | refine zb rfl ?_ | refine zc rfl ?_)
    refine TL.y rfl rfl rfl (Y.asN Tryz.underlying220 (by intro ms h; cases h) rfl rfl Tryz.zeroValue220) ?_
    repeat (first | refine za rfl rfl ?_ | refine zb rfl ?_ | refine zc rfl ?_)
    refine T.condF rfl rfl ?_
    repeat (first | refine za rfl rfl ?_ | refine zb rfl ?_ | refine zc rfl ?_)
    refine TL.y rfl rfl rfl (Y.asN Tryz.underlying221 (by intro ms h; cases h) rfl rfl Tryz.zeroValue221) ?_
    repeat (first | refine za rfl rfl ?_ | refine zb rfl ?_ | refine zc rfl ?_)
    refine T.condF rfl rfl ?_
    repeat (first | refine za rfl rfl ?_ | refine zb rfl ?_ | refine zc rfl ?_)
    refine TL.y rfl rfl rfl (Y.asN Tryz.underlying222 (by intro ms h; cases h) rfl rfl Tryz.zeroValue222) ?_
    repeat (first | refine za rfl rfl ?_ | refine zb rfl ?_ | refine zc rfl ?_)
    refine T.condF rfl rfl ?_
    repeat (first | refine za rfl rfl ?_ | refine zb rfl ?_ | refine zc rfl ?_)
    refine TL.y rfl rfl rfl (Y.asN Tryz.underlying223 (by intro ms h; cases h) rfl rfl Tryz.zeroValue223) ?_
    repeat (first | refine za rfl rfl ?_ | refine zb rfl ?_ | refine zc rfl ?_)
    refine T.condF rfl rfl ?_
    repeat (first | refine za rfl rfl ?_ | refine zb rfl ?_ | refine zc rfl ?_)
    refine TL.y rfl rfl rfl (Y.asN Tryz.underlying224 (by intro ms h; cases h) rfl rfl Tryz.zeroValue224) ?_
    repeat (first | refine za rfl rfl ?_ | refine zb rfl ?_ | refine zc rfl ?_)
    refine T.condF rfl rfl ?_
    repeat (first | refine za rfl rfl ?_ | refine zb rfl ?_ | refine zc rfl ?_)
    refine TL.y rfl rfl rfl (Y.asN Tryz.underlying225 (by intro ms h; cases h) rfl rfl Tryz.zeroValue225) ?_
    repeat (first | refine za rfl rfl ?_ | refine zb rfl ?_ | refine zc rfl ?_)
    refine T.condF rfl rfl ?_
    repeat (first | refine za rfl rfl ?_ | refine zb rfl ?_ | refine zc rfl ?_)
    refine TL.y rfl rfl rfl (Y.asY Tryz.underlying226 (by intro ms h; cases h) rfl) ?_
    repeat (first | refine za rfl rfl ?_ | refine zb rfl ?_ | refine zc rfl ?_)
    refine T.condT rfl rfl ?_
    repeat (first | refine za rfl rfl ?_ | refine zb rfl ?_ | refine zc rfl ?_)
    refine TL.bs0 el37 rfl rfl (fun b1 => ?_)
    repeat (first | refine za rfl rfl ?_ | refine zb rfl ?_ | refine zc rfl ?_)
    have hfl := hr.data
    refine TL.ldR (hrow.one (i := 1) rfl rfl) szk rfl rfl rfl rfl ?_
    refine TL.append 0 el37 sl37 rfl rfl rfl rfl rfl (own0 1) (SlB.src hx) (by omega) (by omega) (fun db dcs dc down => ?_)
    rw [List.nil_append] at down
    rw [Nat.zero_add] at down ⊢
    repeat (first | refine za rfl rfl ?_ | refine zb rfl ?_ | refine zc rfl ?_)
    refine TL.st 1 szk rfl rfl rfl rfl rfl rfl ?_
    repeat (first | refine za rfl rfl ?_ | refine zb rfl ?_ | refine zc rfl ?_)
    refine TL.st 1 szk rfl rfl rfl rfl rfl rfl ?_
    repeat (first | refine za rfl rfl ?_ | refine zb rfl ?_ | refine zc rfl ?_)
    have hnm : norm r len = ⟨r.name, typeOf r, r.cls, r.ttl, len, 13, r.data, [], [], 0, 0, 0, 0, 0, [], []⟩ := by unfold norm; rw [e]; simp only [normZ, k]; rfl
    rw [hnm]
    refine TL.ldW (cs := rcCells ⟨r.name, typeOf r, r.cls, r.ttl, len, 13, r.data, [], [], 0, 0, 0, 0, 0, [], []⟩ (.slice (some ⟨db, 0, none⟩) r.data.length dc) nilS nilS) 1 szk rfl rfl rfl rfl rfl rfl ?_
    refine TL.stW (vs := rcCells ⟨r.name, typeOf r, r.cls, r.ttl, len, 13, r.data, [], [], 0, 0, 0, 0, 0, [], []⟩ (.slice (some ⟨db, 0, none⟩) r.data.length dc) nilS nilS) 2 szk rfl rfl rfl rfl rfl hz (rcCells_one rfl rfl rfl) ?_
    repeat (first | refine za rfl rfl ?_ | refine zb rfl ?_ | refine zc rfl ?_)
    exact T.retG Tryz.func90 (.cons (RV.cellW 2 szk rfl rfl rfl rfl) .nil) (fun w hA => ⟨⟨.slice (some ⟨db, 0, none⟩) r.data.length dc, nilS, nilS, [(db, .row dcs 5)]⟩, rfl, ⟨SlB.of (by simp) (i := 0) rfl down, .inl ⟨⟨_, _, rfl⟩, rfl⟩, .inl ⟨⟨_, _, rfl⟩, rfl⟩⟩, hA.sub (by simp [setN])⟩)
end X
end Go.Proofs.YtifnodoffgfpbaaGreatDoor
