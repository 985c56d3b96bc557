/- Texts U12, U13, U14, U15. Contracts: records are unpacked. -/
import Derived.Test.YtifnodoffgfpbaaGreatDoorPao
namespace Go.Proofs.YtifnodoffgfpbaaGreatDoor
open Go
namespace X
section
variable {P : Program} {f : FuncId} {n : Nat} {R : Ending → World → Prop} {k : List Item} {L : Fr} {A : World → Prop} {ops : Array Oper} {S : World → Prop}
variable {X : List Nat} {w0 : World} {M : Mem} {fn : FuncId} {xs : Array Operand} {ts : Array TypeId} {d : Nat} {ty : TypeId} {pos : String} {af : Array Edge} {g : Option (Nat × Bool)} {vs : List Value} {β : Type} {v : β → Value} {pre : World → Prop} {post : β → World → Prop} {M' : β → Mem} {sched : List (Nat × Bool)} {r : Nat} {sz : Szs} {b off : Nat} {cs : List Value} {tt t : TypeId} {x p : Operand} {u : Value}
theorem TS.call0G (ho : nth ops.toList r = some ⟨some d, .call { callee := .value (.func fn), args := xs, argTypes := ts }, ty, pos, af, g⟩) (hcall : ∀ (ax : Array Value) w, (callFunc fn ax).run P w = .ok (.enter fn ax) w) (hx : evs L xs.toList = some vs) (hn : d.blt n = true) (hw : want ops L g = some true)
    (hc : Ct P fn vs [] pre v post M') (hpre : ∀ w, St X w0 M w → pre w) (hS : ∀ y w, St X w0 (M' y ++ M) w → S w) (h : ∀ y, TS P f n R k ops S sched ((d, v y) :: L) (fun w => post y w ∧ St X w0 (M' y ++ M) w)) :
    TS P f n R k ops S ((r, false) :: sched) L (St X w0 M) := TS.op ho hw (OkOp.call hcall hx hn (use0 hc hpre)) (fun y w hA => hS y w hA.2) h
theorem TS.stG (i : Nat) (ho : nth ops.toList r = some ⟨none, .store t p x, ty, pos, af, none⟩) (hk : sz.ok P = true) (hi : nth M i = some (b, .row cs tt)) (hp : ev L p = some (.pointer (some ⟨b, off, none⟩))) (ht : find sz t = some (1, false)) (hx : ev L x = some u)
    (h1 : u.oneCell' = true) (hfit : Nat.blt off cs.length = true) (hS : ∀ w, St X w0 (setN M i (b, .row (setN cs off u) tt)) w → S w) (h : TS P f n R k ops S sched L (St X w0 (setN M i (b, .row (setN cs off u) tt)))) :
    TS P f n R k ops S ((r, false) :: sched) L (St X w0 M) := by
  have hfit' : off < cs.length := by simpa using hfit
  have := OkOp.store (n := n) (P := P) (X := X) (w0 := w0) (L := L) (ty := ty) (pos := pos) (af := af) (g := none) i hk hi hp ht hx (vs := [u]) (cells_one h1) rfl (by simpa using h1) (by simp; omega)
  rw [setN_splice hfit'] at this
  exact TS.op ho rfl this (fun _ w hA => hS w hA) fun _ => h
theorem TS.lG {o : Oper} {v : Value} (ho : nth ops.toList r = some o) (hd : o.dst = some d) (hn : d.blt n = true) (hw : want ops L o.guard = some true) (hy : Y P n L A o v) (hS : ∀ w, A w → S w)
    (h : TS P f n R k ops S sched ((d, v) :: L) A) : TS P f n R k ops S ((r, false) :: sched) L A := TS.op ho hw (OkOp.ofY hd hn hy) (fun _ w hA => hS w hA) fun _ => h
end
theorem zero116 : ∀ w, (zeroValue 116).run Tryz.prog w = .ok (.agg rhCells0.toArray) w := by intro w; kernel_rfl
theorem build116z : ∀ w, (Instr.build 116 (#[] : Array (Nat × Value))).run Tryz.prog w = .ok (.agg rhCells0.toArray) w := by intro w; kernel_rfl
theorem rh0_one : ∀ v ∈ rhCells0, v.oneCell' = true := one_app zs256_one (by simp [Value.oneCell'])
theorem rhMore (pb b cap : Nat) (B : Bs) (hB : B.length ≤ 1000000) (hcap : B.length ≤ cap) (h : Bh) (sec off idx ro rt rl : Nat) (h2 : 2 ≤ sec) (h5 : sec ≤ 5) (hc : h.cnt sec < 65536) (hi : idx < h.cnt sec) (s : Bs) (hs : NmOk s) (t c ttl len o1 : Nat) (ht : t < 65536) (hcl : c < 65536) (httl : ttl < 4294967296) (hlen : len < 65536)
    (hn : NmAt (kn B H0) off s o1) (hbt : BytesAt (kn B H0) o1 (w2 t ++ (w2 c ++ (w4 ttl ++ w2 len)))) :
    Ct (β := Unit) Tryz.prog 155 [ptr pb 0, .int .u8 (sec : Int)] [(pb, .row (pC (msl b cap B) h sec off idx false ro rt rl) 191)] (fun w => MB (view [pb] w) b B) (fun _ => .tuple #[.agg (rhCells s t c ttl len).toArray, .nilIface]) (fun _ _ => True)
      (fun _ => [(pb, .row (pC (msl b cap B) h sec (o1 + 10) idx true off t len) 191)]) := by
  intro w hS hr
  have h255 : s.length ≤ 255 := by have := hs.len; omega
  have hrl := rhCells_length (t := t) (c := c) (ttl := ttl) (len := len) h255
  refine calls_of_T (m := 69) Tryz.func155 rfl rfl (by simp) hS ?_
  repeat (first | refine za rfl rfl ?_ | refine zb rfl ?_ | refine zc rfl ?_)
  refine TL.alloc (cs := rhCells0) zero116 rfl rfl rfl (fun rb => ?_)
  repeat (first | refine za rfl rfl ?_ | refine zb rfl ?_ | refine zc rfl ?_)
  refine TL.ld 1 szk rfl rfl rfl rfl rfl rfl ?_
  repeat (first | refine za rfl rfl ?_ | refine zb rfl ?_ | refine zc rfl ?_)
  refine T.condF rfl rfl ?_
  repeat (first | refine za rfl rfl ?_ | refine zb rfl ?_ | refine zc rfl ?_)
  refine TL.call1 1 Tryz.call149 rfl rfl rfl rfl (checkMore pb (msl b cap B) h sec off idx false ro rt rl h2 h5 hc hi) (fun _ _ => trivial) (fun _ => TL.and fun _ => ?_)
  repeat (first | refine za rfl rfl ?_ | refine zb rfl ?_ | refine zc rfl ?_)
  refine T.condF rfl rfl ?_
  repeat (first | refine za rfl rfl ?_ | refine zb rfl ?_ | refine zc rfl ?_)
  refine TL.alloc (cs := rhCells0) zero116 rfl rfl rfl (fun nb => ?_)
  repeat (first | refine za rfl rfl ?_ | refine zb rfl ?_ | refine zc rfl ?_)
  refine TS.start [(0, true), (1, true), (2, true), (3, true), (4, true), (5, true), (6, true), (7, true), (8, false), (9, true), (10, true), (11, true), (12, true), (13, true)] [(pb, .row (pC (msl b cap B) h sec off idx false ro rt rl) 191)] mixed (by kernel_rfl) (by kernel_rfl) (by decide) (by simp [setN]) ?_
  repeat refine TS.p tbk rfl rfl ?_
  refine TS.y rfl rfl rfl rfl (Y.load szk rfl rfl (fun w h => h.cell (i := 0) rfl rfl)) ?_
  repeat refine TS.p tbk rfl rfl ?_
  refine TS.y rfl rfl rfl rfl (Y.load szk rfl rfl (fun w h => h.cell (i := 0) rfl rfl)) ?_
  refine TS.call1 0 rfl Tryz.call157 rfl rfl rfl rfl (rhUnpack nb b cap B hB hcap off s hs t c ttl len o1 ht hcl httl hlen hn hbt) (fun w' hA => hr.mono (st_viewLe hA (Mc := [(nb, .row rhCells0 116)]) fun _ hp => by simp at hp; subst hp; simp)) (fun _ => by simp [setN]) (fun _ => TS.and fun _ => ?_)
  repeat refine TS.p tbk rfl rfl ?_
  refine TS.nil ?_
  repeat (first | refine za rfl rfl ?_ | refine zb rfl ?_ | refine zc rfl ?_)
  refine T.condF rfl rfl ?_
  repeat (first | refine za rfl rfl ?_ | refine zb rfl ?_ | refine zc rfl ?_)
  refine TL.st 2 szk rfl rfl rfl rfl rfl rfl ?_
  repeat (first | refine za rfl rfl ?_ | refine zb rfl ?_ | refine zc rfl ?_)
  refine TL.ld 2 szk rfl rfl rfl rfl rfl rfl ?_
  repeat (first | refine za rfl rfl ?_ | refine zb rfl ?_ | refine zc rfl ?_)
  refine TL.st 2 szk rfl rfl rfl rfl rfl rfl ?_
  repeat (first | refine za rfl rfl ?_ | refine zb rfl ?_ | refine zc rfl ?_)
  refine TL.ld 0 szk rfl rfl rfl (by rw [Nat.zero_add, show (256 : Nat) = 256 + 0 from rfl, rh_at h255]; rfl) rfl rfl ?_
  repeat (first | refine za rfl rfl ?_ | refine zb rfl ?_ | refine zc rfl ?_)
  refine TL.st 2 szk rfl rfl rfl rfl rfl rfl ?_
  repeat (first | refine za rfl rfl ?_ | refine zb rfl ?_ | refine zc rfl ?_)
  refine TL.ld 0 szk rfl rfl rfl (by rw [Nat.zero_add, show (259 : Nat) = 256 + 3 from rfl, rh_at h255]; rfl) rfl rfl ?_
  repeat (first | refine za rfl rfl ?_ | refine zb rfl ?_ | refine zc rfl ?_)
  refine TL.st 2 szk rfl rfl rfl rfl rfl rfl ?_
  repeat (first | refine za rfl rfl ?_ | refine zb rfl ?_ | refine zc rfl ?_)
  refine TL.st 2 szk rfl rfl rfl rfl rfl rfl ?_
  repeat (first | refine za rfl rfl ?_ | refine zb rfl ?_ | refine zc rfl ?_)
  refine TL.ldW 0 szk rfl rfl rfl hrl rfl rfl ?_
  refine TL.stW (vs := rhCells s t c ttl len) 1 szk rfl rfl rfl rfl hrl rh0_length rhCells_one ?_
  repeat (first | refine za rfl rfl ?_ | refine zb rfl ?_ | refine zc rfl ?_)
  refine T.retG Tryz.func155 (.cons (RV.cellW 1 szk rfl rfl rfl hrl) (.cons (RV.tmp rfl) .nil)) (fun w hA => ⟨(), rfl, trivial, ?_⟩)
  exact hA.sub (List.Sublist.cons _ (List.Sublist.cons _ (List.Sublist.refl _)))
theorem rhDone (pb b cap : Nat) (B : Bs) (h : Bh) (sec off ro rt rl : Nat) (h2 : 2 ≤ sec) (h5 : sec ≤ 5) (hc : h.cnt sec < 65536) (gu : TypeId) (gv : Value) :
    Ct (β := Unit) Tryz.prog 155 [ptr pb 0, .int .u8 (sec : Int)] [(pb, .row (pC (msl b cap B) h sec off (h.cnt sec) false ro rt rl) 191)] (fun w => RowAt (view [pb] w) 5 0 [.iface gu gv]) (fun _ => .tuple #[.agg rhCells0.toArray, .iface gu gv]) (fun _ _ => True)
      (fun _ => [(pb, .row (pC (msl b cap B) h (sec + 1) off 0 false ro rt rl) 191)]) := by
  intro w hS hg
  refine calls_of_T (m := 69) Tryz.func155 rfl rfl (by simp) hS ?_
  repeat (first | refine za rfl rfl ?_ | refine zb rfl ?_ | refine zc rfl ?_)
  refine TL.alloc (cs := rhCells0) zero116 rfl rfl rfl (fun rb => ?_)
  repeat (first | refine za rfl rfl ?_ | refine zb rfl ?_ | refine zc rfl ?_)
  refine TL.ld 1 szk rfl rfl rfl rfl rfl rfl ?_
  repeat (first | refine za rfl rfl ?_ | refine zb rfl ?_ | refine zc rfl ?_)
  refine T.condF rfl rfl ?_
  repeat (first | refine za rfl rfl ?_ | refine zb rfl ?_ | refine zc rfl ?_)
  refine TL.call1 1 Tryz.call149 rfl rfl rfl rfl (checkDone pb (msl b cap B) h sec off false ro rt rl h2 h5 hc gu gv) (fun w' hA => hg.mono (st_viewLe hA (Mc := [(pb, .row (pC (msl b cap B) h sec off (h.cnt sec) false ro rt rl) 191)]) fun _ hp => by simp at hp; subst hp; simp)) (fun _ => TL.and fun _ => ?_)
  repeat (first | refine za rfl rfl ?_ | refine zb rfl ?_ | refine zc rfl ?_)
  refine T.condT rfl rfl ?_
  repeat (first | refine za rfl rfl ?_ | refine zb rfl ?_ | refine zc rfl ?_)
  refine TL.build (v := .agg rhCells0.toArray) rfl rfl rfl build116z ?_
  repeat (first | refine za rfl rfl ?_ | refine zb rfl ?_ | refine zc rfl ?_)
  refine TL.stW (vs := rhCells0) 0 szk rfl rfl rfl rfl rh0_length rh0_length rh0_one ?_
  repeat (first | refine za rfl rfl ?_ | refine zb rfl ?_ | refine zc rfl ?_)
  exact T.retG Tryz.func155 (.cons (RV.cellW 0 szk rfl rfl rfl rh0_length) (.cons (RV.tmp rfl) .nil)) (fun w hA => ⟨(), rfl, trivial, hA.sub (List.Sublist.cons _ (List.Sublist.refl _))⟩)
def rs0 : List Value := rhCells0 ++ [.nilIface]
theorem rs0_length : rs0.length = 261 := by rw [rs0, List.length_append, rh0_length]; rfl
theorem rs0_one : ∀ v ∈ rs0, v.oneCell' = true := one_app rh0_one (by simp [Value.oneCell'])
theorem zero122 : ∀ w, (zeroValue 122).run Tryz.prog w = .ok (.agg rs0.toArray) w := by intro w; kernel_rfl
def rsU (r : Rc) (len rb : Nat) : List Value := rhCells r.name (typeOf r) r.cls r.ttl len ++ [.iface (ifTy r.kind.toNat) (ptr rb 0)]
theorem rsU_length {r : Rc} {len rb : Nat} (h : r.name.length ≤ 255) : (rsU r len rb).length = 261 := by rw [rsU, List.length_append, rhCells_length h]; rfl
theorem rsU_one {r : Rc} {len rb : Nat} : ∀ v ∈ rsU r len rb, v.oneCell' = true := one_app rhCells_one (by simp [Value.oneCell'])
structure RX where
  b : Nat
  E : Mem
  len : Nat
theorem resDone (pb b cap : Nat) (B : Bs) (h : Bh) (sec off ro rt rl : Nat) (h2 : 2 ≤ sec) (h5 : sec ≤ 5) (hc : h.cnt sec < 65536) (gu : TypeId) (gv : Value) :
    Ct (β := Unit) Tryz.prog 153 [ptr pb 0, .int .u8 (sec : Int)] [(pb, .row (pC (msl b cap B) h sec off (h.cnt sec) false ro rt rl) 191)] (fun w => RowAt (view [pb] w) 5 0 [.iface gu gv]) (fun _ => .tuple #[.agg rs0.toArray, .iface gu gv]) (fun _ _ => True)
      (fun _ => [(pb, .row (pC (msl b cap B) h (sec + 1) off 0 false ro rt rl) 191)]) := by
  intro w hS hg
  have hsp : splice rs0 (0 + 0) rhCells0 = rs0 := by
    unfold splice rs0
    rw [Nat.zero_add, List.take_zero, List.nil_append, Nat.zero_add, List.drop_append_of_le_length (Nat.le_refl _), List.drop_length]; rfl
  refine calls_of_T (m := 60) Tryz.func153 rfl rfl (by simp) hS ?_
  repeat (first | refine za rfl rfl ?_ | refine zb rfl ?_ | refine zc rfl ?_)
  refine TL.alloc (cs := rs0) zero122 rfl rfl rfl (fun rb => ?_)
  repeat (first | refine za rfl rfl ?_ | refine zb rfl ?_ | refine zc rfl ?_)
  refine TL.alloc (cs := rs0) zero122 rfl rfl rfl (fun tb_ => ?_)
  repeat (first | refine za rfl rfl ?_ | refine zb rfl ?_ | refine zc rfl ?_)
  refine TL.call1 2 Tryz.call155 rfl rfl rfl rfl (rhDone pb b cap B h sec off ro rt rl h2 h5 hc gu gv) (fun w' hA => hg.mono (st_viewLe hA (Mc := [(pb, .row (pC (msl b cap B) h sec off (h.cnt sec) false ro rt rl) 191)]) fun _ hp => by simp at hp; subst hp; simp)) (fun _ => TL.and fun _ => ?_)
  repeat (first | refine za rfl rfl ?_ | refine zb rfl ?_ | refine zc rfl ?_)
  refine TL.stS (vs := rhCells0) 0 szk rfl rfl rfl rfl rh0_length rh0_one (by rw [rh0_length, rs0_length]; decide) ?_
  rw [hsp]
  repeat (first | refine za rfl rfl ?_ | refine zb rfl ?_ | refine zc rfl ?_)
  refine T.condT rfl rfl ?_
  repeat (first | refine za rfl rfl ?_ | refine zb rfl ?_ | refine zc rfl ?_)
  refine TL.ldW 0 szk rfl rfl rfl rs0_length rfl rfl ?_
  repeat (first | refine za rfl rfl ?_ | refine zb rfl ?_ | refine zc rfl ?_)
  refine TL.stW (vs := rs0) 1 szk rfl rfl rfl rfl rs0_length rs0_length rs0_one ?_
  repeat (first | refine za rfl rfl ?_ | refine zb rfl ?_ | refine zc rfl ?_)
  exact T.retG Tryz.func153 (.cons (RV.cellW 1 szk rfl rfl rfl rs0_length) (.cons (RV.tmp rfl) .nil)) (fun w hA => ⟨(), rfl, trivial, hA.sub (List.Sublist.cons _ (List.Sublist.cons _ (List.Sublist.refl _)))⟩)
end X
namespace X
theorem RecAt.fin_le {B : Bs} {r : Rc} {o fin : Nat} (h : RecAt (kn B H0) r o fin) (hr : r.Ok) : fin ≤ B.length := by
  obtain ⟨o1, len, h1, h2, h3, h4, h5⟩ := h
  have hb2 := BytesAt.len (K := kn B H0) h2 (by simp [w2])
  simp only [List.length_append, w2_length, w4_length] at hb2
  have hby : ∀ {o : Nat} {l : Bs}, o + 0 ≤ B.length → BytesAt (kn B H0) o l → o + l.length ≤ B.length := fun {o l} ho hx => by
    by_cases hl : l = []
    · subst hl; simpa using ho
    · exact BytesAt.len (K := kn B H0) hx hl
  rcases kind_cases hr with k | k | k | k | k | k | k | k | k | k | k | k | k <;> (have e := congrArg Int.toNat k; simp only [BodyAt, e] at h4)
  · obtain ⟨a, c⟩ := h4; have := hby (by omega) a; rw [fix_length] at this; omega
  · exact h4.fin_le
  · exact h4.fin_le
  · obtain ⟨f1, f2, _, _, a, c⟩ := h4; have := BytesAt.len (K := kn B H0) a (by simp [w4]); simp only [List.length_append, w4_length] at this; omega
  · exact h4.fin_le
  · exact h4.2.fin_le
  · obtain ⟨a, c⟩ := h4; have := hby (by omega) a; omega
  · obtain ⟨a, c⟩ := h4; have := hby (by omega) a; rw [fix_length] at this; omega
  · exact h4.2.fin_le
  · obtain ⟨a, c⟩ := h4; have := hby (by omega) a; omega
  · obtain ⟨f1, _, a1, a, c⟩ := h4; have := a1.fin_le; have := hby (by omega) a; omega
  · obtain ⟨f1, _, a1, a, c⟩ := h4; have := a1.fin_le; have := hby (by omega) a; omega
  · obtain ⟨a, c⟩ := h4; have := hby (by omega) a; omega
theorem typeOf_lt {r : Rc} (h : r.Ok) : typeOf r < 65536 := by
  have := h.num.typ
  unfold typeOf
  split <;> omega
theorem rsU_set {r : Rc} {len rb : Nat} (h : r.name.length ≤ 255) : setN (rhCells r.name (typeOf r) r.cls r.ttl len ++ [.nilIface]) (0 + 260) (.iface (ifTy r.kind.toNat) (ptr rb 0)) = rsU r len rb := by
  have := rhCells_length (t := typeOf r) (c := r.cls) (ttl := r.ttl) (len := len) h
  rw [setN_eq, rsU, List.set_append_right _ _ (by omega), this]; rfl
theorem resMore (pb b cap : Nat) (B : Bs) (hB : B.length ≤ 1000000) (hcap : B.length ≤ cap) (h : Bh) (sec off idx ro rt rl : Nat) (h2 : 2 ≤ sec) (h5 : sec ≤ 5) (hc : h.cnt sec < 65536) (hi : idx < h.cnt sec) (r : Rc) (hr_ : r.Ok) (fin : Nat) (hrec : RecAt (kn B H0) r off fin) :
    Ct (β := RX) Tryz.prog 153 [ptr pb 0, .int .u8 (sec : Int)] [(pb, .row (pC (msl b cap B) h sec off idx false ro rt rl) 191)] (fun w => MB (view [pb] w) b B) (fun y => .tuple #[.agg (rsU r y.len y.b).toArray, .nilIface])
      (fun y _ => BodyMem (mv y.E) y.b 0 r ∧ y.len < 65536) (fun y => (pb, .row (pC (msl b cap B) h sec fin (idx + 1) false off (typeOf r) y.len) 191) :: y.E) := by
  intro w hS hr
  have hfin := hrec.fin_le hr_
  obtain ⟨o1, len, hn, hbt, hlen, hbd, hf⟩ := hrec
  have h255 : r.name.length ≤ 255 := by have := hr_.name.len; omega
  have hrl := rhCells_length (t := typeOf r) (c := r.cls) (ttl := r.ttl) (len := len) h255
  have hsp : splice rs0 (0 + 0) (rhCells r.name (typeOf r) r.cls r.ttl len) = rhCells r.name (typeOf r) r.cls r.ttl len ++ [.nilIface] := by
    unfold splice rs0
    rw [Nat.zero_add, List.take_zero, List.nil_append, Nat.zero_add, hrl, List.drop_append_of_le_length (by rw [rh0_length]; exact Nat.le_refl _), List.drop_of_length_le (by rw [rh0_length]; exact Nat.le_refl _)]; rfl
  have hbody := unBody r hr_ b cap B hB hcap (o1 + 10) fin hfin (by omega) (by omega) hbd
  rw [show fin - (o1 + 10) = len by omega] at hbody
  have hidx : h.cnt sec < 65536 := hc
  refine calls_of_T (m := 60) Tryz.func153 rfl rfl (by simp) hS ?_
  repeat (first | refine za rfl rfl ?_ | refine zb rfl ?_ | refine zc rfl ?_)
  refine TL.alloc (cs := rs0) zero122 rfl rfl rfl (fun rb => ?_)
  repeat (first | refine za rfl rfl ?_ | refine zb rfl ?_ | refine zc rfl ?_)
  refine TL.alloc (cs := rs0) zero122 rfl rfl rfl (fun tb_ => ?_)
  repeat (first | refine za rfl rfl ?_ | refine zb rfl ?_ | refine zc rfl ?_)
  refine TL.call1 2 Tryz.call155 rfl rfl rfl rfl (rhMore pb b cap B hB hcap h sec off idx ro rt rl h2 h5 hc hi r.name hr_.name (typeOf r) r.cls r.ttl len o1 (typeOf_lt hr_) hr_.num.cls hr_.num.ttl hlen hn hbt) (fun w' hA => hr.mono (st_viewLe hA (Mc := [(pb, .row (pC (msl b cap B) h sec off idx false ro rt rl) 191)]) fun _ hp => by simp at hp; subst hp; simp)) (fun _ => TL.and fun _ => ?_)
  repeat (first | refine za rfl rfl ?_ | refine zb rfl ?_ | refine zc rfl ?_)
  refine TL.stS (vs := rhCells r.name (typeOf r) r.cls r.ttl len) 0 szk rfl rfl rfl rfl hrl rhCells_one (by rw [hrl, rs0_length]; decide) ?_
  rw [hsp]
  repeat (first | refine za rfl rfl ?_ | refine zb rfl ?_ | refine zc rfl ?_)
  refine T.condF rfl rfl ?_
  repeat (first | refine za rfl rfl ?_ | refine zb rfl ?_ | refine zc rfl ?_)
  refine TL.st 2 szk rfl rfl rfl rfl rfl rfl ?_
  repeat (first | refine za rfl rfl ?_ | refine zb rfl ?_ | refine zc rfl ?_)
  have hrc : ∀ i v, nth (rhCells r.name (typeOf r) r.cls r.ttl len) i = some v → nth (rhCells r.name (typeOf r) r.cls r.ttl len ++ [.nilIface]) i = some v := fun i v hv => by
    rw [nth_eq] at *
    rw [List.getElem?_append_left (List.getElem?_eq_some_iff.1 hv).1]; exact hv
  refine T.regionS [(0, true), (1, true), (2, true), (3, true), (4, true), (5, true), (6, true), (7, true), (9, true), (10, true), (8, false), (11, false), (12, true), (13, true), (14, true), (15, true), (16, true), (17, false), (18, true), (19, true), (20, false), (21, true)]
    (fun w' => w'.cell? ⟨pb, 0 + 0, none⟩ = some (msl b cap B) ∧ ∀ i v, nth (rhCells r.name (typeOf r) r.cls r.ttl len) i = some v → w'.cell? ⟨tb_, 0 + 0 + i, none⟩ = some v) mixed (by kernel_rfl) (by kernel_rfl) (by decide) (fun w m h => h.drawn m) (fun w' h => ⟨h.cell (i := 2) rfl rfl, fun i v hv => h.cell (i := 0) rfl (by simp only [Nat.zero_add]; exact hrc i v hv)⟩) ?_
  repeat refine TS.p tbk rfl rfl ?_
  refine TS.y rfl rfl rfl rfl (Y.load szk rfl rfl (fun w h => h.1)) ?_
  repeat refine TS.p tbk rfl rfl ?_
  refine TS.y rfl rfl rfl rfl (Y.loadA szk rfl rfl hrl (fun w h i v hv => h.2 i v hv)) ?_
  refine TS.lG rfl rfl rfl rfl (Y.load szk rfl rfl (fun w h => h.cell (i := 2) rfl rfl)) (fun w' h => ⟨h.cell (i := 2) rfl rfl, fun i v hv => h.cell (i := 0) rfl (by simp only [Nat.zero_add]; exact hrc i v hv)⟩) ?_
  refine TS.call0G rfl Tryz.call156 rfl rfl rfl hbody (fun w' hA => hr.mono (st_viewLe hA (Mc := []) fun _ hp => by cases hp)) (fun y w' hA => ?_) (fun y => TS.and fun hy => ?_)
  · have hA' := hA.perm (M' := [(tb_, .row (rhCells r.name (typeOf r) r.cls r.ttl len ++ [.nilIface]) 122), (rb, .row rs0 122), (pb, .row (pC (msl b cap B) h sec (o1 + 10) idx false off (typeOf r) len) 191)] ++ y.2) List.perm_append_comm
    exact ⟨hA'.cell (i := 2) rfl rfl, fun i v hv => hA'.cell (i := 0) rfl (by simp only [Nat.zero_add]; exact hrc i v hv)⟩
  refine TS.mono (fun w hA => hA.perm (M' := [(tb_, .row (rhCells r.name (typeOf r) r.cls r.ttl len ++ [.nilIface]) 122), (rb, .row rs0 122), (pb, .row (pC (msl b cap B) h sec (o1 + 10) idx false off (typeOf r) len) 191)] ++ y.2) List.perm_append_comm) ?_
  repeat refine TS.p tbk rfl rfl ?_
  have hset := rsU_set (r := r) (len := len) (rb := y.1) h255
  have hrc2 : ∀ i v, nth (rhCells r.name (typeOf r) r.cls r.ttl len) i = some v → nth (rsU r len y.1) i = some v := fun i v hv => by
    rw [nth_eq] at *
    rw [rsU, List.getElem?_append_left (List.getElem?_eq_some_iff.1 hv).1]; exact hv
  refine TS.stG 0 rfl szk rfl rfl rfl rfl rfl (by rw [List.length_append, hrl]; rfl) (fun w' hA => ?_) ?_
  · rw [hset] at hA
    exact ⟨hA.cell (i := 2) rfl rfl, fun i v hv => hA.cell (i := 0) rfl (by simp only [Nat.zero_add]; exact hrc2 i v hv)⟩
  rw [hset]
  repeat refine TS.p tbk rfl rfl ?_
  refine TS.stG 2 rfl szk rfl rfl rfl rfl rfl rfl (fun w' hA => ⟨hA.cell (i := 2) rfl rfl, fun i v hv => hA.cell (i := 0) rfl (by simp only [Nat.zero_add]; exact hrc2 i v hv)⟩) ?_
  repeat refine TS.p tbk rfl rfl ?_
  refine TS.nil ?_
  repeat (first | refine za rfl rfl ?_ | refine zb rfl ?_ | refine zc rfl ?_)
  refine T.condF rfl rfl ?_
  repeat (first | refine za rfl rfl ?_ | refine zb rfl ?_ | refine zc rfl ?_)
  refine TL.ld 2 szk rfl rfl rfl rfl rfl rfl ?_
  repeat (first | refine za rfl rfl ?_ | refine zb rfl ?_ | refine zc rfl ?_)
  rw [add1_i64 (a := idx) (by omega)]
  refine TL.st 2 szk rfl rfl rfl rfl rfl rfl ?_
  repeat (first | refine za rfl rfl ?_ | refine zb rfl ?_ | refine zc rfl ?_)
  refine TL.ldW 0 szk rfl rfl rfl (rsU_length h255) rfl rfl ?_
  refine TL.stW (vs := rsU r len y.1) 1 szk rfl rfl rfl rfl (rsU_length h255) rs0_length rsU_one ?_
  repeat (first | refine za rfl rfl ?_ | refine zb rfl ?_ | refine zc rfl ?_)
  refine T.retG Tryz.func153 (.cons (RV.cellW 1 szk rfl rfl rfl (rsU_length h255)) (.cons (RV.tmp rfl) .nil)) (fun w hA => ⟨⟨y.1, y.2, len⟩, rfl, ⟨hy, hlen⟩, ?_⟩)
  exact hA.sub (List.Sublist.cons _ (List.Sublist.cons _ (List.Sublist.refl _)))
end X
namespace X
def RsU (h : View) (axs : List Value) (rs : List Rc) (n : Nat) : Prop := ∀ i r, i < n → nth rs i = some r → ∃ len rb, (∀ k v, nth (rsU r len rb) k = some v → nth axs (i * 261 + k) = some v) ∧ BodyMem h rb 0 r ∧ len < 65536
structure SY where
  i : Nat
  off : Nat
  ro : Nat
  rt : Nat
  rl : Nat
  b : Nat
  cs : List Value
  cap : Nat
  xs : List Value
  E : Mem
theorem ansMore3 (pb b cap : Nat) (B : Bs) (hB : B.length ≤ 1000000) (hcap : B.length ≤ cap) (h : Bh) (off idx ro rt rl : Nat) (hc : h.n2 < 65536) (hi : idx < h.n2) (r : Rc) (hr_ : r.Ok) (fin : Nat) (hrec : RecAt (kn B H0) r off fin) :
    Ct (β := RX) Tryz.prog 139 [ptr pb 0] [(pb, .row (pC (msl b cap B) h 3 off idx false ro rt rl) 191)] (fun w => MB (view [pb] w) b B) (fun y => .tuple #[.agg (rsU r y.len y.b).toArray, .nilIface])
      (fun y _ => BodyMem (mv y.E) y.b 0 r ∧ y.len < 65536) (fun y => (pb, .row (pC (msl b cap B) h 3 fin (idx + 1) false off (typeOf r) y.len) 191) :: y.E) := by
  intro w hS hr
  have h255 : r.name.length ≤ 255 := by have := hr_.name.len; omega
  refine calls_of_T (m := 8) Tryz.func139 rfl rfl (by simp) hS ?_
  repeat (first | refine za rfl rfl ?_ | refine zb rfl ?_ | refine zc rfl ?_)
  refine TL.alloc (cs := rs0) zero122 rfl rfl rfl (fun rb => ?_)
  repeat (first | refine za rfl rfl ?_ | refine zb rfl ?_ | refine zc rfl ?_)
  refine TL.call1 1 Tryz.call153 rfl rfl rfl rfl (resMore pb b cap B hB hcap h 3 off idx ro rt rl (by decide) (by decide) hc hi r hr_ fin hrec) (fun w' hA => hr.mono (st_viewLe hA (Mc := [(pb, .row (pC (msl b cap B) h 3 off idx false ro rt rl) 191)]) fun _ hp => by simp at hp; subst hp; simp)) (fun y => TL.and fun hy => ?_)
  refine TL.mono (fun w hA => hA.perm (M' := [(rb, .row rs0 122), (pb, .row (pC (msl b cap B) h 3 fin (idx + 1) false off (typeOf r) y.len) 191)] ++ y.E) List.perm_append_comm) ?_
  repeat (first | refine za rfl rfl ?_ | refine zb rfl ?_ | refine zc rfl ?_)
  refine TL.stW (vs := rsU r y.len y.b) 0 szk rfl rfl rfl rfl (rsU_length h255) rs0_length rsU_one ?_
  repeat (first | refine za rfl rfl ?_ | refine zb rfl ?_ | refine zc rfl ?_)
  exact T.retG Tryz.func139 (.cons (RV.cellW 0 szk rfl rfl rfl (rsU_length h255)) (.cons (RV.tmp rfl) .nil)) (fun w hA => ⟨y, rfl, hy, hA.sub (List.Sublist.cons _ (List.Sublist.refl _))⟩)
theorem ansDone3 (pb b cap : Nat) (B : Bs) (h : Bh) (off ro rt rl : Nat) (hc : h.n2 < 65536) (gu : TypeId) (gv : Value) :
    Ct (β := Unit) Tryz.prog 139 [ptr pb 0] [(pb, .row (pC (msl b cap B) h 3 off h.n2 false ro rt rl) 191)] (fun w => RowAt (view [pb] w) 5 0 [.iface gu gv]) (fun _ => .tuple #[.agg rs0.toArray, .iface gu gv]) (fun _ _ => True)
      (fun _ => [(pb, .row (pC (msl b cap B) h (3 + 1) off 0 false ro rt rl) 191)]) := by
  intro w hS hg
  refine calls_of_T (m := 8) Tryz.func139 rfl rfl (by simp) hS ?_
  repeat (first | refine za rfl rfl ?_ | refine zb rfl ?_ | refine zc rfl ?_)
  refine TL.alloc (cs := rs0) zero122 rfl rfl rfl (fun rb => ?_)
  repeat (first | refine za rfl rfl ?_ | refine zb rfl ?_ | refine zc rfl ?_)
  refine TL.call1 1 Tryz.call153 rfl rfl rfl rfl (resDone pb b cap B h 3 off ro rt rl (by decide) (by decide) hc gu gv) (fun w' hA => hg.mono (st_viewLe hA (Mc := [(pb, .row (pC (msl b cap B) h 3 off (h.cnt 3) false ro rt rl) 191)]) fun _ hp => by simp at hp; subst hp; simp [Bh.cnt])) (fun _ => TL.and fun _ => ?_)
  repeat (first | refine za rfl rfl ?_ | refine zb rfl ?_ | refine zc rfl ?_)
  refine TL.stW (vs := rs0) 0 szk rfl rfl rfl rfl rs0_length rs0_length rs0_one ?_
  repeat (first | refine za rfl rfl ?_ | refine zb rfl ?_ | refine zc rfl ?_)
  exact T.retG Tryz.func139 (.cons (RV.cellW 0 szk rfl rfl rfl rs0_length) (.cons (RV.tmp rfl) .nil)) (fun w hA => ⟨(), rfl, trivial, hA.sub (List.Sublist.cons _ (List.Sublist.refl _))⟩)
theorem all3 (pb b cap : Nat) (B : Bs) (hB : B.length ≤ 1000000) (hcap : B.length ≤ cap) (h : Bh) (rs : List Rc) (hok : ∀ r ∈ rs, r.Ok) (hn : h.n2 = rs.length) (hlen : rs.length ≤ 40) (o0 f0 ro0 rt0 rl0 : Nat) (hA0 : RecsAt (kn B H0) rs o0 f0) :
    Ct (β := SY) Tryz.prog 86 [ptr pb 0] [(pb, .row (pC (msl b cap B) h 3 o0 0 false ro0 rt0 rl0) 191)] (fun w => MB (view [pb] w) b B ∧ Glob7 (view [pb] w)) (fun y => .tuple #[.slice (some ⟨y.b, 0, none⟩) rs.length y.cap, .nilIface])
      (fun y _ => Own y.cs rs.length y.cap 261 y.xs ∧ RsU (mv y.E) y.xs rs rs.length)
      (fun y => (pb, .row (pC (msl b cap B) h (3 + 1) f0 0 false y.ro y.rt y.rl) 191) :: (y.b, .row y.cs 122) :: y.E) := by
  intro w hS ⟨hr, _, gu, gv, hg, heq⟩
  refine calls_of_T (m := 34) Tryz.func86 rfl rfl (by simp) hS ?_
  repeat (first | refine za rfl rfl ?_ | refine zb rfl ?_ | refine zc rfl ?_)
  refine TL.ld 0 szk rfl rfl rfl rfl rfl rfl ?_
  repeat (first | refine za rfl rfl ?_ | refine zb rfl ?_ | refine zc rfl ?_)
  rw [nat_i64 (a := h.n2) (by omega)]
  refine T.mergeA (α := Nat) (fun n => [(0, ptr pb 0), (4, .int .i64 ((min n 40 : Nat) : Int))]) (fun _ w' => St (keys [(pb, .row (pC (msl b cap B) h 3 o0 0 false ro0 rt0 rl0) 191)]) w [(pb, .row (pC (msl b cap B) h 3 o0 0 false ro0 rt0 rl0) 191)] w') ?_ (fun H => ?_)
  case refine_2 =>
    by_cases h20 : 20 < h.n2
    · refine T.condT rfl (by simp; omega) ?_
      refine T.region ?_
      repeat refine TL.p tbk rfl ?_
      refine TL.nil ?_
      exact T.sub (L' := [(0, ptr pb 0), (4, .int .i64 ((min 20 40 : Nat) : Int))]) ⟨rfl, rfl, trivial⟩ (H 20)
    · refine T.condF rfl (by simp; omega) ?_
      refine T.skip ?_
      exact T.sub (L' := [(0, ptr pb 0), (4, .int .i64 ((min h.n2 40 : Nat) : Int))]) ⟨rfl, by rw [Nat.min_eq_left (by omega)]; rfl, trivial⟩ (H h.n2)
  intro nn
  have hmin : min nn 40 ≤ 40 := Nat.min_le_right _ _
  generalize min nn 40 = mc at hmin
  repeat (first | refine za rfl rfl ?_ | refine zb rfl ?_ | refine zc rfl ?_)
  refine TL.make (len := 0) (cap := mc) el68 rfl rfl (Nat.zero_le _) (by omega) (by omega) rfl rfl (fun ab0 as0 has _ => ?_)
  repeat (first | refine za rfl rfl ?_ | refine zb rfl ?_ | refine zc rfl ?_)
  refine T.loop (α := SY) (fun x => [(0, ptr pb 0), (5, .slice (some ⟨x.b, 0, none⟩) x.i x.cap)])
    (fun x w' => (x.i ≤ rs.length ∧ RecsAt (kn B H0) (rs.drop x.i) x.off f0 ∧ Own x.cs x.i x.cap 261 x.xs ∧ RsU (mv x.E) x.xs rs x.i) ∧
      St (keys [(pb, .row (pC (msl b cap B) h 3 o0 0 false ro0 rt0 rl0) 191)]) w ([(x.b, .row x.cs 122), (pb, .row (pC (msl b cap B) h 3 x.off x.i false x.ro x.rt x.rl) 191)] ++ x.E) w')
    (fun x => rs.length - x.i) ⟨0, o0, ro0, rt0, rl0, ab0, as0, mc, [], []⟩ ⟨rfl, rfl, trivial⟩ (fun w' hA => ⟨⟨Nat.zero_le _, hA0, ⟨by simp, by simp, by simp only; omega, Nat.zero_le _⟩, fun j a hj => (Nat.not_lt_zero _ hj).elim⟩, hA⟩) ?_
  rintro ⟨i, off, ro, rt, rl, ab, acs, acap, xs, E⟩ ih
  refine T.and fun ⟨hi, hat, hown, hall⟩ => ?_
  simp only at hi hat hown hall
  have hxl := hown.length
  repeat (first | refine za rfl rfl ?_ | refine zb rfl ?_ | refine zc rfl ?_)
  by_cases hlt : i < rs.length
  · obtain ⟨r, ha⟩ := nth_lt hlt
    have hd : rs.drop i = r :: rs.drop (i + 1) := by
      rw [nth_eq, List.getElem?_eq_getElem hlt] at ha
      simp only [Option.some.injEq] at ha
      rw [List.drop_eq_getElem_cons hlt, ha]
    have hrok := hok r (nth_mem ha)
    have h255 : r.name.length ≤ 255 := by have := hrok.name.len; omega
    rw [hd] at hat
    cases hat with
    | @cons _ _ _ m1 _ h1 h2 =>
      refine TL.call1 1 Tryz.call139 rfl rfl rfl rfl (ansMore3 pb b cap B hB hcap h off i ro rt rl (by omega) (by omega) r hrok m1 h1) (fun w' hA => hr.mono (st_viewLe hA (Mc := [(pb, .row (pC (msl b cap B) h 3 off i false ro rt rl) 191)]) fun _ hp => by simp at hp; subst hp; simp)) (fun y => TL.and fun ⟨hy, hyl⟩ => ?_)
      refine TL.mono (fun w hA => hA.perm (M' := [(ab, .row acs 122), (pb, .row (pC (msl b cap B) h 3 m1 (i + 1) false off (typeOf r) y.len) 191)] ++ (E ++ y.E)) (perm_count fun p => by simp only [List.cons_append, List.nil_append, setN, List.countP_append, List.countP_cons, List.countP_nil]; omega)) ?_
      repeat (first | refine za rfl rfl ?_ | refine zb rfl ?_ | refine zc rfl ?_)
      refine TL.alloc (cs := rs0) zero122 rfl rfl rfl (fun lb => ?_)
      refine TL.stW (vs := rsU r y.len y.b) 0 szk rfl rfl rfl rfl (rsU_length h255) rs0_length rsU_one ?_
      repeat (first | refine za rfl rfl ?_ | refine zb rfl ?_ | refine zc rfl ?_)
      refine TL.ldR hg szk rfl rfl rfl rfl ?_
      repeat (first | refine za rfl rfl ?_ | refine zb rfl ?_ | refine zc rfl ?_)
      refine T.condF rfl rfl ?_
      repeat (first | refine za rfl rfl ?_ | refine zb rfl ?_ | refine zc rfl ?_)
      refine T.condF rfl rfl ?_
      repeat (first | refine za rfl rfl ?_ | refine zb rfl ?_ | refine zc rfl ?_)
      refine TL.ldW 0 szk rfl rfl rfl (rsU_length h255) rfl rfl ?_
      refine TL.bsA (cs := rsU r y.len y.b) el68 rfl (rsU_length h255) (by decide) rfl rfl (fun eb => ?_)
      refine TL.append (m := 1) (news := rsU r y.len y.b) 2 el68 sl68 rfl rfl rfl rfl rfl hown (Src.slice (fun w hA j u hj => by rw [add_zero', Nat.zero_add]; exact hA.cell (i := 0) rfl (by rw [nth_eq]; exact hj)) (rsU_length h255) rsU_one) (by omega) (by omega) (fun b' cs' cap' hown' => ?_)
      repeat (first | refine za rfl rfl ?_ | refine zb rfl ?_ | refine zc rfl ?_)
      refine T.again ih ⟨i + 1, m1, off, typeOf r, y.len, b', cs', cap', xs ++ rsU r y.len y.b, E ++ y.E⟩ (by simp; omega) ⟨rfl, rfl, trivial⟩ (fun w' hA => ?_)
      have hA' : St (keys [(pb, .row (pC (msl b cap B) h 3 o0 0 false ro0 rt0 rl0) 191)]) w ([(b', .row cs' 122), (pb, .row (pC (msl b cap B) h 3 m1 (i + 1) false off (typeOf r) y.len) 191)] ++ (E ++ y.E)) w' := hA.sub (List.Sublist.cons _ (List.Sublist.cons _ (List.Sublist.refl _)))
      have hnd : ((E ++ y.E).map (·.1)).Nodup := (List.nodup_cons.1 (List.nodup_cons.1 hA'.nd).2).2
      refine ⟨⟨by simp; omega, h2, hown', fun j a' hj ha' => ?_⟩, hA'⟩
      simp only at hj
      rcases Nat.lt_or_ge j i with hji | hji
      · obtain ⟨ln, rb, g1, g2, g3⟩ := hall j a' hji ha'
        refine ⟨ln, rb, fun k v hk => ?_, g2.mono (mv_sub hnd fun p hp => List.mem_append_left _ hp), g3⟩
        have := g1 k v hk
        rw [nth_eq] at this ⊢
        simp only
        rw [List.getElem?_append_left (List.getElem?_eq_some_iff.1 this).1]; exact this
      · have : j = i := by omega
        subst this
        rw [ha] at ha'
        simp only [Option.some.injEq] at ha'
        subst ha'
        refine ⟨y.len, y.b, fun k v hk => ?_, hy.mono (mv_sub hnd fun p hp => List.mem_append_right _ hp), hyl⟩
        rw [nth_eq] at hk ⊢
        simp only
        rw [List.getElem?_append_right (by omega), hxl, Nat.add_sub_cancel_left]; exact hk
  · have hil : i = rs.length := by omega
    have hd : rs.drop i = [] := by rw [hil]; simp
    rw [hd] at hat
    cases hat
    have hin : i = h.n2 := by omega
    subst hin
    refine TL.call1 1 Tryz.call139 rfl rfl rfl rfl (ansDone3 pb b cap B h f0 ro rt rl (by omega) gu gv) (fun w' hA => hg.mono (st_viewLe hA (Mc := [(pb, .row (pC (msl b cap B) h 3 f0 h.n2 false ro rt rl) 191)]) fun _ hp => by simp at hp; subst hp; simp)) (fun _ => TL.and fun _ => ?_)
    repeat (first | refine za rfl rfl ?_ | refine zb rfl ?_ | refine zc rfl ?_)
    refine TL.alloc (cs := rs0) zero122 rfl rfl rfl (fun lb => ?_)
    refine TL.stW (vs := rs0) 0 szk rfl rfl rfl rfl rs0_length rs0_length rs0_one ?_
    repeat (first | refine za rfl rfl ?_ | refine zb rfl ?_ | refine zc rfl ?_)
    refine TL.ldR hg szk rfl rfl rfl rfl ?_
    refine TL.y rfl rfl rfl (Y.eqG heq rfl rfl) ?_
    repeat (first | refine za rfl rfl ?_ | refine zb rfl ?_ | refine zc rfl ?_)
    refine T.condT rfl rfl ?_
    repeat (first | refine za rfl rfl ?_ | refine zb rfl ?_ | refine zc rfl ?_)
    refine T.ret Tryz.func86 rfl (fun w' hA => ⟨⟨h.n2, f0, ro, rt, rl, ab, acs, acap, xs, E⟩, by rw [← hn]; rfl, ⟨by rw [← hn]; exact hown, by rw [← hn]; exact hall⟩, ?_⟩)
    exact (hA.sub (M' := [(ab, .row acs 122), (pb, .row (pC (msl b cap B) h (3 + 1) f0 0 false ro rt rl) 191)] ++ E) (List.Sublist.cons _ (List.Sublist.refl _))).perm (List.Perm.swap _ _ _)
theorem ansMore4 (pb b cap : Nat) (B : Bs) (hB : B.length ≤ 1000000) (hcap : B.length ≤ cap) (h : Bh) (off idx ro rt rl : Nat) (hc : h.n3 < 65536) (hi : idx < h.n3) (r : Rc) (hr_ : r.Ok) (fin : Nat) (hrec : RecAt (kn B H0) r off fin) :
    Ct (β := RX) Tryz.prog 140 [ptr pb 0] [(pb, .row (pC (msl b cap B) h 4 off idx false ro rt rl) 191)] (fun w => MB (view [pb] w) b B) (fun y => .tuple #[.agg (rsU r y.len y.b).toArray, .nilIface])
      (fun y _ => BodyMem (mv y.E) y.b 0 r ∧ y.len < 65536) (fun y => (pb, .row (pC (msl b cap B) h 4 fin (idx + 1) false off (typeOf r) y.len) 191) :: y.E) := by
  intro w hS hr
  have h255 : r.name.length ≤ 255 := by have := hr_.name.len; omega
  refine calls_of_T (m := 8) Tryz.func140 rfl rfl (by simp) hS ?_
  repeat (first | refine za rfl rfl ?_ | refine zb rfl ?_ | refine zc rfl ?_)
  refine TL.alloc (cs := rs0) zero122 rfl rfl rfl (fun rb => ?_)
  repeat (first | refine za rfl rfl ?_ | refine zb rfl ?_ | refine zc rfl ?_)
  refine TL.call1 1 Tryz.call153 rfl rfl rfl rfl (resMore pb b cap B hB hcap h 4 off idx ro rt rl (by decide) (by decide) hc hi r hr_ fin hrec) (fun w' hA => hr.mono (st_viewLe hA (Mc := [(pb, .row (pC (msl b cap B) h 4 off idx false ro rt rl) 191)]) fun _ hp => by simp at hp; subst hp; simp)) (fun y => TL.and fun hy => ?_)
  refine TL.mono (fun w hA => hA.perm (M' := [(rb, .row rs0 122), (pb, .row (pC (msl b cap B) h 4 fin (idx + 1) false off (typeOf r) y.len) 191)] ++ y.E) List.perm_append_comm) ?_
  repeat (first | refine za rfl rfl ?_ | refine zb rfl ?_ | refine zc rfl ?_)
  refine TL.stW (vs := rsU r y.len y.b) 0 szk rfl rfl rfl rfl (rsU_length h255) rs0_length rsU_one ?_
  repeat (first | refine za rfl rfl ?_ | refine zb rfl ?_ | refine zc rfl ?_)
  exact T.retG Tryz.func140 (.cons (RV.cellW 0 szk rfl rfl rfl (rsU_length h255)) (.cons (RV.tmp rfl) .nil)) (fun w hA => ⟨y, rfl, hy, hA.sub (List.Sublist.cons _ (List.Sublist.refl _))⟩)
theorem ansDone4 (pb b cap : Nat) (B : Bs) (h : Bh) (off ro rt rl : Nat) (hc : h.n3 < 65536) (gu : TypeId) (gv : Value) :
    Ct (β := Unit) Tryz.prog 140 [ptr pb 0] [(pb, .row (pC (msl b cap B) h 4 off h.n3 false ro rt rl) 191)] (fun w => RowAt (view [pb] w) 5 0 [.iface gu gv]) (fun _ => .tuple #[.agg rs0.toArray, .iface gu gv]) (fun _ _ => True)
      (fun _ => [(pb, .row (pC (msl b cap B) h (4 + 1) off 0 false ro rt rl) 191)]) := by
  intro w hS hg
  refine calls_of_T (m := 8) Tryz.func140 rfl rfl (by simp) hS ?_
  repeat (first | refine za rfl rfl ?_ | refine zb rfl ?_ | refine zc rfl ?_)
  refine TL.alloc (cs := rs0) zero122 rfl rfl rfl (fun rb => ?_)
  repeat (first | refine za rfl rfl ?_ | refine zb rfl ?_ | refine zc rfl ?_)
  refine TL.call1 1 Tryz.call153 rfl rfl rfl rfl (resDone pb b cap B h 4 off ro rt rl (by decide) (by decide) hc gu gv) (fun w' hA => hg.mono (st_viewLe hA (Mc := [(pb, .row (pC (msl b cap B) h 4 off (h.cnt 4) false ro rt rl) 191)]) fun _ hp => by simp at hp; subst hp; simp [Bh.cnt])) (fun _ => TL.and fun _ => ?_)
  repeat (first | refine za rfl rfl ?_ | refine zb rfl ?_ | refine zc rfl ?_)
  refine TL.stW (vs := rs0) 0 szk rfl rfl rfl rfl rs0_length rs0_length rs0_one ?_
  repeat (first | refine za rfl rfl ?_ | refine zb rfl ?_ | refine zc rfl ?_)
  exact T.retG Tryz.func140 (.cons (RV.cellW 0 szk rfl rfl rfl rs0_length) (.cons (RV.tmp rfl) .nil)) (fun w hA => ⟨(), rfl, trivial, hA.sub (List.Sublist.cons _ (List.Sublist.refl _))⟩)
theorem all4 (pb b cap : Nat) (B : Bs) (hB : B.length ≤ 1000000) (hcap : B.length ≤ cap) (h : Bh) (rs : List Rc) (hok : ∀ r ∈ rs, r.Ok) (hn : h.n3 = rs.length) (hlen : rs.length ≤ 40) (o0 f0 ro0 rt0 rl0 : Nat) (hA0 : RecsAt (kn B H0) rs o0 f0) :
    Ct (β := SY) Tryz.prog 87 [ptr pb 0] [(pb, .row (pC (msl b cap B) h 4 o0 0 false ro0 rt0 rl0) 191)] (fun w => MB (view [pb] w) b B ∧ Glob7 (view [pb] w)) (fun y => .tuple #[.slice (some ⟨y.b, 0, none⟩) rs.length y.cap, .nilIface])
      (fun y _ => Own y.cs rs.length y.cap 261 y.xs ∧ RsU (mv y.E) y.xs rs rs.length)
      (fun y => (pb, .row (pC (msl b cap B) h (4 + 1) f0 0 false y.ro y.rt y.rl) 191) :: (y.b, .row y.cs 122) :: y.E) := by
  intro w hS ⟨hr, _, gu, gv, hg, heq⟩
  refine calls_of_T (m := 34) Tryz.func87 rfl rfl (by simp) hS ?_
  repeat (first | refine za rfl rfl ?_ | refine zb rfl ?_ | refine zc rfl ?_)
  refine TL.ld 0 szk rfl rfl rfl rfl rfl rfl ?_
  repeat (first | refine za rfl rfl ?_ | refine zb rfl ?_ | refine zc rfl ?_)
  rw [nat_i64 (a := h.n3) (by omega)]
  refine T.mergeA (α := Nat) (fun n => [(0, ptr pb 0), (4, .int .i64 ((min n 40 : Nat) : Int))]) (fun _ w' => St (keys [(pb, .row (pC (msl b cap B) h 4 o0 0 false ro0 rt0 rl0) 191)]) w [(pb, .row (pC (msl b cap B) h 4 o0 0 false ro0 rt0 rl0) 191)] w') ?_ (fun H => ?_)
  case refine_2 =>
    by_cases h20 : 10 < h.n3
    · refine T.condT rfl (by simp; omega) ?_
      refine T.region ?_
      repeat refine TL.p tbk rfl ?_
      refine TL.nil ?_
      exact T.sub (L' := [(0, ptr pb 0), (4, .int .i64 ((min 10 40 : Nat) : Int))]) ⟨rfl, rfl, trivial⟩ (H 10)
    · refine T.condF rfl (by simp; omega) ?_
      refine T.skip ?_
      exact T.sub (L' := [(0, ptr pb 0), (4, .int .i64 ((min h.n3 40 : Nat) : Int))]) ⟨rfl, by rw [Nat.min_eq_left (by omega)]; rfl, trivial⟩ (H h.n3)
  intro nn
  have hmin : min nn 40 ≤ 40 := Nat.min_le_right _ _
  generalize min nn 40 = mc at hmin
  repeat (first | refine za rfl rfl ?_ | refine zb rfl ?_ | refine zc rfl ?_)
  refine TL.make (len := 0) (cap := mc) el68 rfl rfl (Nat.zero_le _) (by omega) (by omega) rfl rfl (fun ab0 as0 has _ => ?_)
  repeat (first | refine za rfl rfl ?_ | refine zb rfl ?_ | refine zc rfl ?_)
  refine T.loop (α := SY) (fun x => [(0, ptr pb 0), (5, .slice (some ⟨x.b, 0, none⟩) x.i x.cap)])
    (fun x w' => (x.i ≤ rs.length ∧ RecsAt (kn B H0) (rs.drop x.i) x.off f0 ∧ Own x.cs x.i x.cap 261 x.xs ∧ RsU (mv x.E) x.xs rs x.i) ∧
      St (keys [(pb, .row (pC (msl b cap B) h 4 o0 0 false ro0 rt0 rl0) 191)]) w ([(x.b, .row x.cs 122), (pb, .row (pC (msl b cap B) h 4 x.off x.i false x.ro x.rt x.rl) 191)] ++ x.E) w')
    (fun x => rs.length - x.i) ⟨0, o0, ro0, rt0, rl0, ab0, as0, mc, [], []⟩ ⟨rfl, rfl, trivial⟩ (fun w' hA => ⟨⟨Nat.zero_le _, hA0, ⟨by simp, by simp, by simp only; omega, Nat.zero_le _⟩, fun j a hj => (Nat.not_lt_zero _ hj).elim⟩, hA⟩) ?_
  rintro ⟨i, off, ro, rt, rl, ab, acs, acap, xs, E⟩ ih
  refine T.and fun ⟨hi, hat, hown, hall⟩ => ?_
  simp only at hi hat hown hall
  have hxl := hown.length
  repeat (first | refine za rfl rfl ?_ | refine zb rfl ?_ | refine zc rfl ?_)
  by_cases hlt : i < rs.length
  · obtain ⟨r, ha⟩ := nth_lt hlt
    have hd : rs.drop i = r :: rs.drop (i + 1) := by
      rw [nth_eq, List.getElem?_eq_getElem hlt] at ha
      simp only [Option.some.injEq] at ha
      rw [List.drop_eq_getElem_cons hlt, ha]
    have hrok := hok r (nth_mem ha)
    have h255 : r.name.length ≤ 255 := by have := hrok.name.len; omega
    rw [hd] at hat
    cases hat with
    | @cons _ _ _ m1 _ h1 h2 =>
      refine TL.call1 1 Tryz.call140 rfl rfl rfl rfl (ansMore4 pb b cap B hB hcap h off i ro rt rl (by omega) (by omega) r hrok m1 h1) (fun w' hA => hr.mono (st_viewLe hA (Mc := [(pb, .row (pC (msl b cap B) h 4 off i false ro rt rl) 191)]) fun _ hp => by simp at hp; subst hp; simp)) (fun y => TL.and fun ⟨hy, hyl⟩ => ?_)
      refine TL.mono (fun w hA => hA.perm (M' := [(ab, .row acs 122), (pb, .row (pC (msl b cap B) h 4 m1 (i + 1) false off (typeOf r) y.len) 191)] ++ (E ++ y.E)) (perm_count fun p => by simp only [List.cons_append, List.nil_append, setN, List.countP_append, List.countP_cons, List.countP_nil]; omega)) ?_
      repeat (first | refine za rfl rfl ?_ | refine zb rfl ?_ | refine zc rfl ?_)
      refine TL.alloc (cs := rs0) zero122 rfl rfl rfl (fun lb => ?_)
      refine TL.stW (vs := rsU r y.len y.b) 0 szk rfl rfl rfl rfl (rsU_length h255) rs0_length rsU_one ?_
      repeat (first | refine za rfl rfl ?_ | refine zb rfl ?_ | refine zc rfl ?_)
      refine TL.ldR hg szk rfl rfl rfl rfl ?_
      repeat (first | refine za rfl rfl ?_ | refine zb rfl ?_ | refine zc rfl ?_)
      refine T.condF rfl rfl ?_
      repeat (first | refine za rfl rfl ?_ | refine zb rfl ?_ | refine zc rfl ?_)
      refine T.condF rfl rfl ?_
      repeat (first | refine za rfl rfl ?_ | refine zb rfl ?_ | refine zc rfl ?_)
      refine TL.ldW 0 szk rfl rfl rfl (rsU_length h255) rfl rfl ?_
      refine TL.bsA (cs := rsU r y.len y.b) el68 rfl (rsU_length h255) (by decide) rfl rfl (fun eb => ?_)
      refine TL.append (m := 1) (news := rsU r y.len y.b) 2 el68 sl68 rfl rfl rfl rfl rfl hown (Src.slice (fun w hA j u hj => by rw [add_zero', Nat.zero_add]; exact hA.cell (i := 0) rfl (by rw [nth_eq]; exact hj)) (rsU_length h255) rsU_one) (by omega) (by omega) (fun b' cs' cap' hown' => ?_)
      repeat (first | refine za rfl rfl ?_ | refine zb rfl ?_ | refine zc rfl ?_)
      refine T.again ih ⟨i + 1, m1, off, typeOf r, y.len, b', cs', cap', xs ++ rsU r y.len y.b, E ++ y.E⟩ (by simp; omega) ⟨rfl, rfl, trivial⟩ (fun w' hA => ?_)
      have hA' : St (keys [(pb, .row (pC (msl b cap B) h 4 o0 0 false ro0 rt0 rl0) 191)]) w ([(b', .row cs' 122), (pb, .row (pC (msl b cap B) h 4 m1 (i + 1) false off (typeOf r) y.len) 191)] ++ (E ++ y.E)) w' := hA.sub (List.Sublist.cons _ (List.Sublist.cons _ (List.Sublist.refl _)))
      have hnd : ((E ++ y.E).map (·.1)).Nodup := (List.nodup_cons.1 (List.nodup_cons.1 hA'.nd).2).2
      refine ⟨⟨by simp; omega, h2, hown', fun j a' hj ha' => ?_⟩, hA'⟩
      simp only at hj
      rcases Nat.lt_or_ge j i with hji | hji
      · obtain ⟨ln, rb, g1, g2, g3⟩ := hall j a' hji ha'
        refine ⟨ln, rb, fun k v hk => ?_, g2.mono (mv_sub hnd fun p hp => List.mem_append_left _ hp), g3⟩
        have := g1 k v hk
        rw [nth_eq] at this ⊢
        simp only
        rw [List.getElem?_append_left (List.getElem?_eq_some_iff.1 this).1]; exact this
      · have : j = i := by omega
        subst this
        rw [ha] at ha'
        simp only [Option.some.injEq] at ha'
        subst ha'
        refine ⟨y.len, y.b, fun k v hk => ?_, hy.mono (mv_sub hnd fun p hp => List.mem_append_right _ hp), hyl⟩
        rw [nth_eq] at hk ⊢
        simp only
        rw [List.getElem?_append_right (by omega), hxl, Nat.add_sub_cancel_left]; exact hk
  · have hil : i = rs.length := by omega
    have hd : rs.drop i = [] := by rw [hil]; simp
    rw [hd] at hat
    cases hat
    have hin : i = h.n3 := by omega
    subst hin
    refine TL.call1 1 Tryz.call140 rfl rfl rfl rfl (ansDone4 pb b cap B h f0 ro rt rl (by omega) gu gv) (fun w' hA => hg.mono (st_viewLe hA (Mc := [(pb, .row (pC (msl b cap B) h 4 f0 h.n3 false ro rt rl) 191)]) fun _ hp => by simp at hp; subst hp; simp)) (fun _ => TL.and fun _ => ?_)
    repeat (first | refine za rfl rfl ?_ | refine zb rfl ?_ | refine zc rfl ?_)
    refine TL.alloc (cs := rs0) zero122 rfl rfl rfl (fun lb => ?_)
    refine TL.stW (vs := rs0) 0 szk rfl rfl rfl rfl rs0_length rs0_length rs0_one ?_
    repeat (first | refine za rfl rfl ?_ | refine zb rfl ?_ | refine zc rfl ?_)
    refine TL.ldR hg szk rfl rfl rfl rfl ?_
    refine TL.y rfl rfl rfl (Y.eqG heq rfl rfl) ?_
    repeat (first | refine za rfl rfl ?_ | refine zb rfl ?_ | refine zc rfl ?_)
    refine T.condT rfl rfl ?_
    repeat (first | refine za rfl rfl ?_ | refine zb rfl ?_ | refine zc rfl ?_)
    refine T.ret Tryz.func87 rfl (fun w' hA => ⟨⟨h.n3, f0, ro, rt, rl, ab, acs, acap, xs, E⟩, by rw [← hn]; rfl, ⟨by rw [← hn]; exact hown, by rw [← hn]; exact hall⟩, ?_⟩)
    exact (hA.sub (M' := [(ab, .row acs 122), (pb, .row (pC (msl b cap B) h (4 + 1) f0 0 false ro rt rl) 191)] ++ E) (List.Sublist.cons _ (List.Sublist.refl _))).perm (List.Perm.swap _ _ _)
theorem ansMore5 (pb b cap : Nat) (B : Bs) (hB : B.length ≤ 1000000) (hcap : B.length ≤ cap) (h : Bh) (off idx ro rt rl : Nat) (hc : h.n4 < 65536) (hi : idx < h.n4) (r : Rc) (hr_ : r.Ok) (fin : Nat) (hrec : RecAt (kn B H0) r off fin) :
    Ct (β := RX) Tryz.prog 141 [ptr pb 0] [(pb, .row (pC (msl b cap B) h 5 off idx false ro rt rl) 191)] (fun w => MB (view [pb] w) b B) (fun y => .tuple #[.agg (rsU r y.len y.b).toArray, .nilIface])
      (fun y _ => BodyMem (mv y.E) y.b 0 r ∧ y.len < 65536) (fun y => (pb, .row (pC (msl b cap B) h 5 fin (idx + 1) false off (typeOf r) y.len) 191) :: y.E) := by
  intro w hS hr
  have h255 : r.name.length ≤ 255 := by have := hr_.name.len; omega
  refine calls_of_T (m := 8) Tryz.func141 rfl rfl (by simp) hS ?_
  repeat (first | refine za rfl rfl ?_ | refine zb rfl ?_ | refine zc rfl ?_)
  refine TL.alloc (cs := rs0) zero122 rfl rfl rfl (fun rb => ?_)
  repeat (first | refine za rfl rfl ?_ | refine zb rfl ?_ | refine zc rfl ?_)
  refine TL.call1 1 Tryz.call153 rfl rfl rfl rfl (resMore pb b cap B hB hcap h 5 off idx ro rt rl (by decide) (by decide) hc hi r hr_ fin hrec) (fun w' hA => hr.mono (st_viewLe hA (Mc := [(pb, .row (pC (msl b cap B) h 5 off idx false ro rt rl) 191)]) fun _ hp => by simp at hp; subst hp; simp)) (fun y => TL.and fun hy => ?_)
  refine TL.mono (fun w hA => hA.perm (M' := [(rb, .row rs0 122), (pb, .row (pC (msl b cap B) h 5 fin (idx + 1) false off (typeOf r) y.len) 191)] ++ y.E) List.perm_append_comm) ?_
  repeat (first | refine za rfl rfl ?_ | refine zb rfl ?_ | refine zc rfl ?_)
  refine TL.stW (vs := rsU r y.len y.b) 0 szk rfl rfl rfl rfl (rsU_length h255) rs0_length rsU_one ?_
  repeat (first | refine za rfl rfl ?_ | refine zb rfl ?_ | refine zc rfl ?_)
  exact T.retG Tryz.func141 (.cons (RV.cellW 0 szk rfl rfl rfl (rsU_length h255)) (.cons (RV.tmp rfl) .nil)) (fun w hA => ⟨y, rfl, hy, hA.sub (List.Sublist.cons _ (List.Sublist.refl _))⟩)
theorem ansDone5 (pb b cap : Nat) (B : Bs) (h : Bh) (off ro rt rl : Nat) (hc : h.n4 < 65536) (gu : TypeId) (gv : Value) :
    Ct (β := Unit) Tryz.prog 141 [ptr pb 0] [(pb, .row (pC (msl b cap B) h 5 off h.n4 false ro rt rl) 191)] (fun w => RowAt (view [pb] w) 5 0 [.iface gu gv]) (fun _ => .tuple #[.agg rs0.toArray, .iface gu gv]) (fun _ _ => True)
      (fun _ => [(pb, .row (pC (msl b cap B) h (5 + 1) off 0 false ro rt rl) 191)]) := by
  intro w hS hg
  refine calls_of_T (m := 8) Tryz.func141 rfl rfl (by simp) hS ?_
  repeat (first | refine za rfl rfl ?_ | refine zb rfl ?_ | refine zc rfl ?_)
  refine TL.alloc (cs := rs0) zero122 rfl rfl rfl (fun rb => ?_)
  repeat (first | refine za rfl rfl ?_ | refine zb rfl ?_ | refine zc rfl ?_)
  refine TL.call1 1 Tryz.call153 rfl rfl rfl rfl (resDone pb b cap B h 5 off ro rt rl (by decide) (by decide) hc gu gv) (fun w' hA => hg.mono (st_viewLe hA (Mc := [(pb, .row (pC (msl b cap B) h 5 off (h.cnt 5) false ro rt rl) 191)]) fun _ hp => by simp at hp; subst hp; simp [Bh.cnt])) (fun _ => TL.and fun _ => ?_)
  repeat (first | refine za rfl rfl ?_ | refine zb rfl ?_ | refine zc rfl ?_)
  refine TL.stW (vs := rs0) 0 szk rfl rfl rfl rfl rs0_length rs0_length rs0_one ?_
  repeat (first | refine za rfl rfl ?_ | refine zb rfl ?_ | refine zc rfl ?_)
  exact T.retG Tryz.func141 (.cons (RV.cellW 0 szk rfl rfl rfl rs0_length) (.cons (RV.tmp rfl) .nil)) (fun w hA => ⟨(), rfl, trivial, hA.sub (List.Sublist.cons _ (List.Sublist.refl _))⟩)
theorem all5 (pb b cap : Nat) (B : Bs) (hB : B.length ≤ 1000000) (hcap : B.length ≤ cap) (h : Bh) (rs : List Rc) (hok : ∀ r ∈ rs, r.Ok) (hn : h.n4 = rs.length) (hlen : rs.length ≤ 40) (o0 f0 ro0 rt0 rl0 : Nat) (hA0 : RecsAt (kn B H0) rs o0 f0) :
    Ct (β := SY) Tryz.prog 88 [ptr pb 0] [(pb, .row (pC (msl b cap B) h 5 o0 0 false ro0 rt0 rl0) 191)] (fun w => MB (view [pb] w) b B ∧ Glob7 (view [pb] w)) (fun y => .tuple #[.slice (some ⟨y.b, 0, none⟩) rs.length y.cap, .nilIface])
      (fun y _ => Own y.cs rs.length y.cap 261 y.xs ∧ RsU (mv y.E) y.xs rs rs.length)
      (fun y => (pb, .row (pC (msl b cap B) h (5 + 1) f0 0 false y.ro y.rt y.rl) 191) :: (y.b, .row y.cs 122) :: y.E) := by
  intro w hS ⟨hr, _, gu, gv, hg, heq⟩
  refine calls_of_T (m := 34) Tryz.func88 rfl rfl (by simp) hS ?_
  repeat (first | refine za rfl rfl ?_ | refine zb rfl ?_ | refine zc rfl ?_)
  refine TL.ld 0 szk rfl rfl rfl rfl rfl rfl ?_
  repeat (first | refine za rfl rfl ?_ | refine zb rfl ?_ | refine zc rfl ?_)
  rw [nat_i64 (a := h.n4) (by omega)]
  refine T.mergeA (α := Nat) (fun n => [(0, ptr pb 0), (4, .int .i64 ((min n 40 : Nat) : Int))]) (fun _ w' => St (keys [(pb, .row (pC (msl b cap B) h 5 o0 0 false ro0 rt0 rl0) 191)]) w [(pb, .row (pC (msl b cap B) h 5 o0 0 false ro0 rt0 rl0) 191)] w') ?_ (fun H => ?_)
  case refine_2 =>
    by_cases h20 : 10 < h.n4
    · refine T.condT rfl (by simp; omega) ?_
      refine T.region ?_
      repeat refine TL.p tbk rfl ?_
      refine TL.nil ?_
      exact T.sub (L' := [(0, ptr pb 0), (4, .int .i64 ((min 10 40 : Nat) : Int))]) ⟨rfl, rfl, trivial⟩ (H 10)
    · refine T.condF rfl (by simp; omega) ?_
      refine T.skip ?_
      exact T.sub (L' := [(0, ptr pb 0), (4, .int .i64 ((min h.n4 40 : Nat) : Int))]) ⟨rfl, by rw [Nat.min_eq_left (by omega)]; rfl, trivial⟩ (H h.n4)
  intro nn
  have hmin : min nn 40 ≤ 40 := Nat.min_le_right _ _
  generalize min nn 40 = mc at hmin
  repeat (first | refine za rfl rfl ?_ | refine zb rfl ?_ | refine zc rfl ?_)
  refine TL.make (len := 0) (cap := mc) el68 rfl rfl (Nat.zero_le _) (by omega) (by omega) rfl rfl (fun ab0 as0 has _ => ?_)
  repeat (first | refine za rfl rfl ?_ | refine zb rfl ?_ | refine zc rfl ?_)
  refine T.loop (α := SY) (fun x => [(0, ptr pb 0), (5, .slice (some ⟨x.b, 0, none⟩) x.i x.cap)])
    (fun x w' => (x.i ≤ rs.length ∧ RecsAt (kn B H0) (rs.drop x.i) x.off f0 ∧ Own x.cs x.i x.cap 261 x.xs ∧ RsU (mv x.E) x.xs rs x.i) ∧
      St (keys [(pb, .row (pC (msl b cap B) h 5 o0 0 false ro0 rt0 rl0) 191)]) w ([(x.b, .row x.cs 122), (pb, .row (pC (msl b cap B) h 5 x.off x.i false x.ro x.rt x.rl) 191)] ++ x.E) w')
    (fun x => rs.length - x.i) ⟨0, o0, ro0, rt0, rl0, ab0, as0, mc, [], []⟩ ⟨rfl, rfl, trivial⟩ (fun w' hA => ⟨⟨Nat.zero_le _, hA0, ⟨by simp, by simp, by simp only; omega, Nat.zero_le _⟩, fun j a hj => (Nat.not_lt_zero _ hj).elim⟩, hA⟩) ?_
  rintro ⟨i, off, ro, rt, rl, ab, acs, acap, xs, E⟩ ih
  refine T.and fun ⟨hi, hat, hown, hall⟩ => ?_
  simp only at hi hat hown hall
  have hxl := hown.length
  repeat (first | refine za rfl rfl ?_ | refine zb rfl ?_ | refine zc rfl ?_)
  by_cases hlt : i < rs.length
  · obtain ⟨r, ha⟩ := nth_lt hlt
    have hd : rs.drop i = r :: rs.drop (i + 1) := by
      rw [nth_eq, List.getElem?_eq_getElem hlt] at ha
      simp only [Option.some.injEq] at ha
      rw [List.drop_eq_getElem_cons hlt, ha]
    have hrok := hok r (nth_mem ha)
    have h255 : r.name.length ≤ 255 := by have := hrok.name.len; omega
    rw [hd] at hat
    cases hat with
    | @cons _ _ _ m1 _ h1 h2 =>
      refine TL.call1 1 Tryz.call141 rfl rfl rfl rfl (ansMore5 pb b cap B hB hcap h off i ro rt rl (by omega) (by omega) r hrok m1 h1) (fun w' hA => hr.mono (st_viewLe hA (Mc := [(pb, .row (pC (msl b cap B) h 5 off i false ro rt rl) 191)]) fun _ hp => by simp at hp; subst hp; simp)) (fun y => TL.and fun ⟨hy, hyl⟩ => ?_)
      refine TL.mono (fun w hA => hA.perm (M' := [(ab, .row acs 122), (pb, .row (pC (msl b cap B) h 5 m1 (i + 1) false off (typeOf r) y.len) 191)] ++ (E ++ y.E)) (perm_count fun p => by simp only [List.cons_append, List.nil_append, setN, List.countP_append, List.countP_cons, List.countP_nil]; omega)) ?_
      repeat (first | refine za rfl rfl ?_ | refine zb rfl ?_ | refine zc rfl ?_)
      refine TL.alloc (cs := rs0) zero122 rfl rfl rfl (fun lb => ?_)
      refine TL.stW (vs := rsU r y.len y.b) 0 szk rfl rfl rfl rfl (rsU_length h255) rs0_length rsU_one ?_
      repeat (first | refine za rfl rfl ?_ | refine zb rfl ?_ | refine zc rfl ?_)
      refine TL.ldR hg szk rfl rfl rfl rfl ?_
      repeat (first | refine za rfl rfl ?_ | refine zb rfl ?_ | refine zc rfl ?_)
      refine T.condF rfl rfl ?_
      repeat (first | refine za rfl rfl ?_ | refine zb rfl ?_ | refine zc rfl ?_)
      refine T.condF rfl rfl ?_
      repeat (first | refine za rfl rfl ?_ | refine zb rfl ?_ | refine zc rfl ?_)
      refine TL.ldW 0 szk rfl rfl rfl (rsU_length h255) rfl rfl ?_
      refine TL.bsA (cs := rsU r y.len y.b) el68 rfl (rsU_length h255) (by decide) rfl rfl (fun eb => ?_)
      refine TL.append (m := 1) (news := rsU r y.len y.b) 2 el68 sl68 rfl rfl rfl rfl rfl hown (Src.slice (fun w hA j u hj => by rw [add_zero', Nat.zero_add]; exact hA.cell (i := 0) rfl (by rw [nth_eq]; exact hj)) (rsU_length h255) rsU_one) (by omega) (by omega) (fun b' cs' cap' hown' => ?_)
      repeat (first | refine za rfl rfl ?_ | refine zb rfl ?_ | refine zc rfl ?_)
      refine T.again ih ⟨i + 1, m1, off, typeOf r, y.len, b', cs', cap', xs ++ rsU r y.len y.b, E ++ y.E⟩ (by simp; omega) ⟨rfl, rfl, trivial⟩ (fun w' hA => ?_)
      have hA' : St (keys [(pb, .row (pC (msl b cap B) h 5 o0 0 false ro0 rt0 rl0) 191)]) w ([(b', .row cs' 122), (pb, .row (pC (msl b cap B) h 5 m1 (i + 1) false off (typeOf r) y.len) 191)] ++ (E ++ y.E)) w' := hA.sub (List.Sublist.cons _ (List.Sublist.cons _ (List.Sublist.refl _)))
      have hnd : ((E ++ y.E).map (·.1)).Nodup := (List.nodup_cons.1 (List.nodup_cons.1 hA'.nd).2).2
      refine ⟨⟨by simp; omega, h2, hown', fun j a' hj ha' => ?_⟩, hA'⟩
      simp only at hj
      rcases Nat.lt_or_ge j i with hji | hji
      · obtain ⟨ln, rb, g1, g2, g3⟩ := hall j a' hji ha'
        refine ⟨ln, rb, fun k v hk => ?_, g2.mono (mv_sub hnd fun p hp => List.mem_append_left _ hp), g3⟩
        have := g1 k v hk
        rw [nth_eq] at this ⊢
        simp only
        rw [List.getElem?_append_left (List.getElem?_eq_some_iff.1 this).1]; exact this
      · have : j = i := by omega
        subst this
        rw [ha] at ha'
        simp only [Option.some.injEq] at ha'
        subst ha'
        refine ⟨y.len, y.b, fun k v hk => ?_, hy.mono (mv_sub hnd fun p hp => List.mem_append_right _ hp), hyl⟩
        rw [nth_eq] at hk ⊢
        simp only
        rw [List.getElem?_append_right (by omega), hxl, Nat.add_sub_cancel_left]; exact hk
  · have hil : i = rs.length := by omega
    have hd : rs.drop i = [] := by rw [hil]; simp
    rw [hd] at hat
    cases hat
    have hin : i = h.n4 := by omega
    subst hin
    refine TL.call1 1 Tryz.call141 rfl rfl rfl rfl (ansDone5 pb b cap B h f0 ro rt rl (by omega) gu gv) (fun w' hA => hg.mono (st_viewLe hA (Mc := [(pb, .row (pC (msl b cap B) h 5 f0 h.n4 false ro rt rl) 191)]) fun _ hp => by simp at hp; subst hp; simp)) (fun _ => TL.and fun _ => ?_)
    repeat (first | refine za rfl rfl ?_ | refine zb rfl ?_ | refine zc rfl ?_)
    refine TL.alloc (cs := rs0) zero122 rfl rfl rfl (fun lb => ?_)
    refine TL.stW (vs := rs0) 0 szk rfl rfl rfl rfl rs0_length rs0_length rs0_one ?_
    repeat (first | refine za rfl rfl ?_ | refine zb rfl ?_ | refine zc rfl ?_)
    refine TL.ldR hg szk rfl rfl rfl rfl ?_
    refine TL.y rfl rfl rfl (Y.eqG heq rfl rfl) ?_
    repeat (first | refine za rfl rfl ?_ | refine zb rfl ?_ | refine zc rfl ?_)
    refine T.condT rfl rfl ?_
    repeat (first | refine za rfl rfl ?_ | refine zb rfl ?_ | refine zc rfl ?_)
    refine T.ret Tryz.func88 rfl (fun w' hA => ⟨⟨h.n4, f0, ro, rt, rl, ab, acs, acap, xs, E⟩, by rw [← hn]; rfl, ⟨by rw [← hn]; exact hown, by rw [← hn]; exact hall⟩, ?_⟩)
    exact (hA.sub (M' := [(ab, .row acs 122), (pb, .row (pC (msl b cap B) h (5 + 1) f0 0 false ro rt rl) 191)] ++ E) (List.Sublist.cons _ (List.Sublist.refl _))).perm (List.Perm.swap _ _ _)
end X
namespace X
def hz : Hd := ⟨0, false, 0, false, false, false, false, false, false, 0⟩
structure MY where
  q : QY
  a : SY
  b : SY
  c : SY
def MY.s (y : QY) (n : Nat) : Value := .slice (some ⟨y.b, 0, none⟩) n y.cap
def SY.s (y : SY) (n : Nat) : Value := .slice (some ⟨y.b, 0, none⟩) n y.cap
def MY.mem (y : MY) : Mem := [(y.q.b, .row y.q.cs 79)] ++ ((y.a.b, Ob.row y.a.cs 122) :: y.a.E ++ ((y.b.b, Ob.row y.b.cs 122) :: y.b.E ++ ((y.c.b, Ob.row y.c.cs 122) :: y.c.E)))
def QAll (y : QY) (asks : List Ak) : Prop := Own y.cs asks.length y.cap 258 y.xs ∧ ∀ j a, nth asks j = some a → ∀ k v, nth (qCells a.name a.typ a.cls) k = some v → nth y.xs (j * 258 + k) = some v
def SAll (y : SY) (rs : List Rc) : Prop := Own y.cs rs.length y.cap 261 y.xs ∧ RsU (mv y.E) y.xs rs rs.length
theorem bits_lt {h : Hd} (hop : h.op < 16) (hcode : h.code < 16) : bitsOf h < 65536 := by
  have hbits : bitsOf h = h.op * 2048 + h.code + 128 * h.avail.toNat + 256 * h.desired.toNat + 512 * h.cut.toNat + 1024 * h.auth.toNat + 32768 * h.resp.toNat + 32 * h.authentic.toNat + 16 * h.unchecked.toNat := by unfold bitsOf; simp only [bit_nat]
  have e1 := Bool.toNat_le h.avail
  have e2 := Bool.toNat_le h.desired
  have e3 := Bool.toNat_le h.cut
  have e4 := Bool.toNat_le h.auth
  have e5 := Bool.toNat_le h.resp
  have e6 := Bool.toNat_le h.authentic
  have e7 := Bool.toNat_le h.unchecked
  omega
theorem msgUnpack (mb b cap : Nat) (B : Bs) (hB : B.length ≤ 1000000) (hcap : B.length ≤ cap) (m : Ms) (hm : m.Ok) (hma : MsgAt (kn B H0) m) :
    Ct (β := MY) Tryz.prog 35 [ptr mb 0, msl b cap B] [(mb, .row (mcells hz (.slice none 0 0) (.slice none 0 0) (.slice none 0 0) (.slice none 0 0)) 72)] (fun w => MB (view [mb] w) b B ∧ Glob7 (view [mb] w)) (fun _ => .nilIface)
      (fun y _ => QAll y.q m.asks ∧ SAll y.a m.one ∧ SAll y.b m.two ∧ SAll y.c m.three)
      (fun y => (mb, .row (mcells m.head (MY.s y.q m.asks.length) (y.a.s m.one.length) (y.b.s m.two.length) (y.c.s m.three.length)) 72) :: y.mem) := by
  intro w hS ⟨hr, hg⟩
  have hfew := hm.few
  obtain ⟨hhead, f0, f1, f2, f3, d1, d2, d3, d4⟩ := hma
  have hbits := bits_lt hm.hop hm.hcode
  have hhok : (⟨m.head.id, bitsOf m.head, m.asks.length, m.one.length, m.two.length, m.three.length⟩ : Bh).Ok := ⟨hm.hid, hbits, by simp only; omega, by simp only; omega, by simp only; omega, by simp only; omega⟩
  have hv : ∀ {w' : World} {M : Mem} {pb : Nat} {cs : List Value}, St (keys [(mb, Ob.row (mcells hz (.slice none 0 0) (.slice none 0 0) (.slice none 0 0) (.slice none 0 0)) 72)]) w ((pb, .row cs 191) :: M) w' → MB (view [pb] w') b B ∧ Glob7 (view [pb] w') := fun {w' M pb cs} hA => by
    have hle := st_viewLe hA (Mc := [(pb, .row cs 191)]) fun _ hp => by simp at hp; subst hp; simp
    obtain ⟨g1, u, v, g2, g3⟩ := hg
    exact ⟨hr.mono hle, g1.mono hle, u, v, g2.mono hle, g3⟩
  refine calls_of_T (m := 58) Tryz.func35 rfl rfl (by simp) hS ?_
  repeat (first | refine za rfl rfl ?_ | refine zb rfl ?_ | refine zc rfl ?_)
  refine TL.alloc (cs := pC (.slice none 0 0) hB0 0 0 0 false 0 0 0) zero191 rfl rfl rfl (fun pb => ?_)
  repeat (first | refine za rfl rfl ?_ | refine zb rfl ?_ | refine zc rfl ?_)
  refine TL.call1 0 Tryz.call84 rfl rfl rfl rfl (start pb b cap B m.head m.asks.length m.one.length m.two.length m.three.length hm.hid hm.hop hm.hcode hhok hB hhead) (fun w' hA => (hv hA).1) (fun _ => TL.and fun _ => ?_)
  repeat (first | refine za rfl rfl ?_ | refine zb rfl ?_ | refine zc rfl ?_)
  refine TL.stS (vs := hdCells m.head) 1 szk rfl rfl rfl rfl rfl (hdCells_one _) (by rw [hd_len, mcells_len]; decide) ?_
  repeat (first | refine za rfl rfl ?_ | refine zb rfl ?_ | refine zc rfl ?_)
  refine T.condF rfl rfl ?_
  repeat (first | refine za rfl rfl ?_ | refine zb rfl ?_ | refine zc rfl ?_)
  refine TL.call1 0 Tryz.call85 rfl rfl rfl rfl (allQuestions pb b cap B hB hcap ⟨m.head.id, bitsOf m.head, m.asks.length, m.one.length, m.two.length, m.three.length⟩ m.asks hm.asks rfl (by omega) 12 f0 d1) (fun w' hA => hv hA) (fun yq => TL.and fun hq => ?_)
  refine TL.mono (fun w hA => hA.perm (M' := [(pb, .row (pC (msl b cap B) ⟨m.head.id, bitsOf m.head, m.asks.length, m.one.length, m.two.length, m.three.length⟩ 3 f0 0 false 0 0 0) 191), (mb, .row (mcells m.head (.slice none 0 0) (.slice none 0 0) (.slice none 0 0) (.slice none 0 0)) 72)] ++ [(yq.b, .row yq.cs 79)]) List.perm_append_comm) ?_
  repeat (first | refine za rfl rfl ?_ | refine zb rfl ?_ | refine zc rfl ?_)
  refine TL.st 1 szk rfl rfl rfl rfl rfl rfl ?_
  repeat (first | refine za rfl rfl ?_ | refine zb rfl ?_ | refine zc rfl ?_)
  refine T.condF rfl rfl ?_
  repeat (first | refine za rfl rfl ?_ | refine zb rfl ?_ | refine zc rfl ?_)
  refine TL.call1 0 Tryz.call86 rfl rfl rfl rfl (all3 pb b cap B hB hcap ⟨m.head.id, bitsOf m.head, m.asks.length, m.one.length, m.two.length, m.three.length⟩ m.one hm.one rfl (by omega) f0 f1 0 0 0 d2) (fun w' hA => hv hA) (fun ya => TL.and fun ha => ?_)
  refine TL.mono (fun w hA => hA.perm (M' := [(pb, .row (pC (msl b cap B) ⟨m.head.id, bitsOf m.head, m.asks.length, m.one.length, m.two.length, m.three.length⟩ 4 f1 0 false ya.ro ya.rt ya.rl) 191), (mb, .row (mcells m.head (MY.s yq m.asks.length) (.slice none 0 0) (.slice none 0 0) (.slice none 0 0)) 72), (yq.b, .row yq.cs 79)] ++ ((ya.b, .row ya.cs 122) :: ya.E)) List.perm_append_comm) ?_
  repeat (first | refine za rfl rfl ?_ | refine zb rfl ?_ | refine zc rfl ?_)
  refine TL.st 1 szk rfl rfl rfl rfl rfl rfl ?_
  repeat (first | refine za rfl rfl ?_ | refine zb rfl ?_ | refine zc rfl ?_)
  refine T.condF rfl rfl ?_
  repeat (first | refine za rfl rfl ?_ | refine zb rfl ?_ | refine zc rfl ?_)
  refine TL.call1 0 Tryz.call87 rfl rfl rfl rfl (all4 pb b cap B hB hcap ⟨m.head.id, bitsOf m.head, m.asks.length, m.one.length, m.two.length, m.three.length⟩ m.two hm.two rfl (by omega) f1 f2 ya.ro ya.rt ya.rl d3) (fun w' hA => hv hA) (fun yb => TL.and fun hb => ?_)
  refine TL.mono (fun w hA => hA.perm (M' := ([(pb, .row (pC (msl b cap B) ⟨m.head.id, bitsOf m.head, m.asks.length, m.one.length, m.two.length, m.three.length⟩ 5 f2 0 false yb.ro yb.rt yb.rl) 191), (mb, .row (mcells m.head (MY.s yq m.asks.length) (ya.s m.one.length) (.slice none 0 0) (.slice none 0 0)) 72), (yq.b, .row yq.cs 79)] ++ ((ya.b, .row ya.cs 122) :: ya.E)) ++ ((yb.b, .row yb.cs 122) :: yb.E)) List.perm_append_comm) ?_
  repeat (first | refine za rfl rfl ?_ | refine zb rfl ?_ | refine zc rfl ?_)
  refine TL.st 1 szk rfl rfl rfl rfl rfl rfl ?_
  repeat (first | refine za rfl rfl ?_ | refine zb rfl ?_ | refine zc rfl ?_)
  refine T.condF rfl rfl ?_
  repeat (first | refine za rfl rfl ?_ | refine zb rfl ?_ | refine zc rfl ?_)
  refine TL.call1 0 Tryz.call88 rfl rfl rfl rfl (all5 pb b cap B hB hcap ⟨m.head.id, bitsOf m.head, m.asks.length, m.one.length, m.two.length, m.three.length⟩ m.three hm.three rfl (by omega) f2 f3 yb.ro yb.rt yb.rl d4) (fun w' hA => hv hA) (fun yc => TL.and fun hc => ?_)
  refine TL.mono (fun w hA => hA.perm (M' := (([(pb, .row (pC (msl b cap B) ⟨m.head.id, bitsOf m.head, m.asks.length, m.one.length, m.two.length, m.three.length⟩ 6 f3 0 false yc.ro yc.rt yc.rl) 191), (mb, .row (mcells m.head (MY.s yq m.asks.length) (ya.s m.one.length) (yb.s m.two.length) (.slice none 0 0)) 72), (yq.b, .row yq.cs 79)] ++ ((ya.b, .row ya.cs 122) :: ya.E)) ++ ((yb.b, .row yb.cs 122) :: yb.E)) ++ ((yc.b, .row yc.cs 122) :: yc.E)) List.perm_append_comm) ?_
  repeat (first | refine za rfl rfl ?_ | refine zb rfl ?_ | refine zc rfl ?_)
  refine TL.st 1 szk rfl rfl rfl rfl rfl rfl ?_
  repeat (first | refine za rfl rfl ?_ | refine zb rfl ?_ | refine zc rfl ?_)
  refine T.condF rfl rfl ?_
  repeat (first | refine za rfl rfl ?_ | refine zb rfl ?_ | refine zc rfl ?_)
  refine T.ret Tryz.func35 rfl (fun w hA => ⟨⟨yq, ya, yb, yc⟩, rfl, ⟨hq, ha, hb, hc⟩, ?_⟩)
  have hA' : St _ _ ((([(mb, Ob.row (mcells m.head (MY.s yq m.asks.length) (ya.s m.one.length) (yb.s m.two.length) (yc.s m.three.length)) 72), (yq.b, .row yq.cs 79)] ++ ((ya.b, .row ya.cs 122) :: ya.E)) ++ ((yb.b, .row yb.cs 122) :: yb.E)) ++ ((yc.b, .row yc.cs 122) :: yc.E)) w := hA.sub (List.Sublist.cons _ (List.Sublist.refl _))
  refine hA'.perm ?_
  simp only [MY.mem, List.cons_append, List.nil_append, List.append_assoc]
  exact List.Perm.refl _
end X
end Go.Proofs.YtifnodoffgfpbaaGreatDoor
