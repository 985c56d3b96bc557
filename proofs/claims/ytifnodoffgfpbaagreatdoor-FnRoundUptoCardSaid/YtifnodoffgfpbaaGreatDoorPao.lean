/- Texts U10, U11. Contract: parameters are unpacked. -/
import Derived.Test.YtifnodoffgfpbaaGreatDoorPan
namespace Go.Proofs.YtifnodoffgfpbaaGreatDoor
open Go
namespace X
theorem Y.sl3 {P : Program} {n : Nat} {L : Fr} {A : World → Prop} {tb : Tab} {t : TypeId} {x hi mx : Operand} {ty : TypeId} {pos : String} {af : Array Edge} {g : Option (Nat × Bool)} {z b off len cap m : Nat} {q1 q2 : IntKind} (hk : tb.ok P = true) (he : find tb.elms t = some (none, z)) (hx : ev L x = some (.slice (some ⟨b, off, none⟩) len cap))
    (hh : ev L hi = some (.int q1 (m : Int))) (hm : ev L mx = some (.int q2 (m : Int))) (h2 : m ≤ cap) {d : Option Tmp} : Y P n L A ⟨d, .slice t x none (some hi) (some mx), ty, pos, af, g⟩ (.slice (some ⟨b, off, none⟩) m m) := by
  intro a w ha _
  obtain ⟨e, ti, hu, hti, hz⟩ := Tab.slc hk he
  have r1 : ∀ c w, (Instr.sliceBound (a.eval mx) cap c).run P w = .ok m w := fun c w => run_bound (ev_ok ha hm) h2 c w
  have r2 : ∀ c w, (Instr.sliceBound (a.eval hi) m c).run P w = .ok m w := fun c w => run_bound (ev_ok ha hh) (Nat.le_refl _) c w
  simp [execOp, Instr.sliceAt, Instr.slice, Instr.sliceBounds, run_underlying' hu, ev_ok ha hx, r1, r2, run_sizeOf' hti, hz, add_zero']
def vals (l : List Pr) : Bs := l.flatMap fun p => p.data
theorem vals_append (a b : List Pr) : vals (a ++ b) = vals a ++ vals b := by simp [vals]
theorem vals_take {l : List Pr} {i : Nat} {s : Pr} (h : nth l i = some s) : vals (l.take (i + 1)) = vals (l.take i) ++ s.data := by
  rw [take_nth h, vals_append]; simp [vals]
theorem vals_split {l : List Pr} {j : Nat} {s : Pr} (h : nth l j = some s) : vals l = vals (l.take j) ++ (s.data ++ vals (l.drop (j + 1))) := by
  have h1 := vals_append (l.take (j + 1)) (l.drop (j + 1))
  rw [List.take_append_drop, vals_take h] at h1
  rw [h1]; simp
theorem vals_le : ∀ l : List Pr, (vals l).length ≤ (pairB l).length
  | [] => Nat.le_refl _
  | p :: r => by have := vals_le r; simp [vals, pairB, w2] at *; omega
theorem vals_take_le (l : List Pr) (i : Nat) : (vals (l.take i)).length ≤ (vals l).length := by
  have := congrArg (fun l => (vals l).length) (List.take_append_drop i l)
  simp only [vals_append, List.length_append] at this; omega
def z258s : List Value := .int .u16 ((0 : Nat) : Int) :: (zs256 ++ [.slice none 0 0])
theorem z258s_length : z258s.length = 258 := by rw [z258s, List.length_cons, List.length_append, zs256_length]; rfl
theorem zero180 : ∀ w, (zeroValue 180).run Tryz.prog w = .ok (.agg z258s.toArray) w := by intro w; kernel_rfl
theorem build180z : ∀ w, (Instr.build 180 (#[] : Array (Nat × Value))).run Tryz.prog w = .ok (.agg z258s.toArray) w := by intro w; kernel_rfl
def svRow0 (n1 : Nat) : List Value := .int .u16 ((n1 : Nat) : Int) :: (zs256 ++ [.slice none 0 0])
def svRow (n1 : Nat) (s : Bs) (v : Value) : List Value := .int .u16 ((n1 : Nat) : Int) :: (nameCells s ++ [v])
theorem svRow_length {n1 : Nat} {s : Bs} {v : Value} (h : s.length ≤ 255) : (svRow n1 s v).length = 258 := by rw [svRow, List.length_cons, List.length_append, nameCells_length h]; rfl
theorem sv_set {n1 : Nat} {s : Bs} {v v' : Value} (h : s.length ≤ 255) : setN (svRow n1 s v) (0 + 257) v' = svRow n1 s v' := by
  have := nameCells_length h
  rw [setN_eq, svRow, svRow, Nat.zero_add, List.set_cons_succ, List.set_append_right _ _ (by omega), this]; rfl
theorem sv_name {n1 : Nat} {s : Bs} (h : s.length ≤ 255) : splice (svRow0 n1) (0 + 1) (nameCells s) = svRow n1 s (.slice none 0 0) := by
  have hnl := nameCells_length h
  unfold splice svRow0
  rw [hnl, Nat.zero_add, List.take_succ_cons, List.take_zero, show 1 + 256 = 256 + 1 from rfl, List.drop_succ_cons, List.drop_append_of_le_length (by rw [zs256_length]; exact Nat.le_refl _), List.drop_of_length_le (by rw [zs256_length]; exact Nat.le_refl _)]
  rfl
theorem sv_get {n1 : Nat} {s : Bs} {v : Value} (h : s.length ≤ 255) : nth (svRow n1 s v) (0 + 257) = some v := by
  have := nameCells_length h
  rw [nth_eq, Nat.zero_add, svRow, List.getElem?_cons_succ, List.getElem?_append_right (by omega), this]; rfl
theorem sv_one {n1 : Nat} {s : Bs} {v : Value} (hv : v.oneCell' = true) : ∀ u ∈ svRow n1 s v, u.oneCell' = true := one_cons rfl (one_app nameCells_one (one_cons hv one_nil))
theorem z258s_one : ∀ u ∈ z258s, u.oneCell' = true := one_cons rfl (one_app zs256_one (one_cons rfl one_nil))
structure VY where
  i : Nat
  pcs : List Value
  vcs : List Value
  po : Nat
structure VY.ok (x : VY) (ps : List Pr) (vb : Nat) : Prop where
  le : x.i ≤ ps.length
  plen : x.pcs.length = ps.length * 2
  vlen : x.vcs.length = (vals ps).length
  pole : x.po ≤ (vals ps).length
  poeq : (vals (ps.take x.i)).length < (vals ps).length → x.po = (vals (ps.take x.i)).length
  known : ∀ k, k < (vals (ps.take x.i)).length → nth x.vcs k = nth ((vals ps).map bv) k
  done : ∀ j p, j < x.i → nth ps j = some p → nth x.pcs (j * 2) = some (.int .u16 (p.key : Int)) ∧ ∃ po', po' ≤ (vals ps).length ∧ nth x.pcs (j * 2 + 1) = some (.slice (some ⟨vb, po', none⟩) p.data.length p.data.length) ∧ (p.data.length ≠ 0 → po' = (vals (ps.take j)).length)
theorem VY.ok.next {x : VY} {ps : List Pr} {vb : Nat} (h : x.ok ps vb) {s : Pr} (hs : nth ps x.i = some s) (po2 : Nat) (hp2 : po2 ≤ (vals ps).length) (hp3 : (vals (ps.take (x.i + 1))).length < (vals ps).length → po2 = (vals (ps.take (x.i + 1))).length) :
    VY.ok ⟨x.i + 1, setN (setN x.pcs (x.i * 2) (.int .u16 (s.key : Int))) (x.i * 2 + 1) (.slice (some ⟨vb, x.po, none⟩) s.data.length s.data.length), splice x.vcs x.po (s.data.map bv), po2⟩ ps vb := by
  have hlt : x.i < ps.length := by rw [nth_eq] at hs; exact (List.getElem?_eq_some_iff.1 hs).1
  have hv := vals_take hs
  have hvl := congrArg List.length hv
  rw [List.length_append] at hvl
  have hle := vals_take_le ps (x.i + 1)
  have hsp := vals_split hs
  have hfit : x.po + s.data.length ≤ x.vcs.length := by
    rw [h.vlen]
    rcases Nat.lt_or_ge (vals (ps.take x.i)).length (vals ps).length with h1 | h1
    · rw [h.poeq h1]; omega
    · have := h.pole; omega
  have hpl := h.plen
  refine ⟨by simp only; omega, by simp only; rw [setN_length, setN_length]; exact hpl, by simp only; rw [splice_length (by rw [List.length_map]; exact hfit)]; exact h.vlen, hp2, hp3, fun k hk => ?_, fun j p hj hp => ?_⟩
  · simp only at hk ⊢
    rw [nth_eq, nth_eq, splice_get (by rw [List.length_map]; exact hfit), List.length_map]
    by_cases h0 : s.data.length = 0
    · rw [if_neg (by omega)]
      have := h.known k (by omega)
      rw [nth_eq, nth_eq] at this; exact this
    · have hpo := h.poeq (by omega)
      by_cases hk2 : x.po ≤ k ∧ k < x.po + s.data.length
      · rw [if_pos hk2, List.getElem?_map, List.getElem?_map, hsp, List.getElem?_append_right (by omega), List.getElem?_append_left (by omega), hpo]
      · rw [if_neg hk2]
        have := h.known k (by omega)
        rw [nth_eq, nth_eq] at this; exact this
  · simp only at hj ⊢
    have e : ∀ k, nth (setN (setN x.pcs (x.i * 2) (.int .u16 (s.key : Int))) (x.i * 2 + 1) (.slice (some ⟨vb, x.po, none⟩) s.data.length s.data.length)) k = if x.i * 2 + 1 = k then some (.slice (some ⟨vb, x.po, none⟩) s.data.length s.data.length) else if x.i * 2 = k then some (.int .u16 (s.key : Int)) else nth x.pcs k := fun k => by
      rw [nth_setN (by rw [setN_length]; omega), nth_setN (by omega)]
    rw [e, e]
    rcases Nat.lt_or_ge j x.i with hji | hji
    · rw [if_neg (by omega), if_neg (by omega), if_neg (by omega), if_neg (by omega)]
      exact h.done j p hji hp
    · have : j = x.i := by omega
      subst this
      rw [hs] at hp
      simp only [Option.some.injEq] at hp
      subst hp
      rw [if_neg (by omega), if_pos rfl, if_pos rfl]
      exact ⟨rfl, x.po, h.pole, rfl, fun h0 => h.poeq (by omega)⟩
theorem unSVCB (r : Rc) (hr_ : r.Ok) (hk : r.kind = 11 ∨ r.kind = 12) (b cap : Nat) (B : Bs) (hB : B.length ≤ 1000000) (hcap : B.length ≤ cap) (o fin : Nat) (hfin : fin ≤ B.length) (hle : fin - o < 65536) (hbd : BodyAt (kn B H0) r o fin) :
    Ct (β := Value × Mem) Tryz.prog 167 [msl b cap B, .int .i64 (o : Int), .int .u16 ((fin - o : Nat) : Int)] [] (fun w => MB (view [] w) b B) (fun y => .tuple #[.agg (svRow (r.n1 % 65536) r.host y.1).toArray, .nilIface]) (fun y _ => SlP (mv y.2) y.1 r.pairs) (fun y => y.2) := by
  intro w hS hr
  have hbd : ∃ f1, BytesAt (kn B H0) o (w2 r.n1) ∧ NmAt (kn B H0) (o + 2) r.host f1 ∧ BytesAt (kn B H0) f1 (pairB r.pairs) ∧ fin = f1 + (pairB r.pairs).length := by
    rcases hk with hk | hk <;> (have hk' := congrArg Int.toNat hk; simp only [BodyAt, hk'] at hbd; exact hbd)
  obtain ⟨f1, hb1, hn1, hbt, hf⟩ := hbd
  rw [← w2_mod] at hb1
  obtain ⟨hn, hl⟩ := hr_.host (by rcases hk with hk | hk <;> rw [hk] <;> decide)
  have hasc := hr_.asc hk
  have h255 : r.host.length ≤ 255 := by have := hn.len; omega
  have hnl := nameCells_length h255
  have hpl := hr_.pairl
  have hpl2 := pairB_len r.pairs
  have hvl := vals_le r.pairs
  have hof := hn1.lt
  have hr0 : ∀ {w' : World} {M : Mem}, St (keys []) w M w' → MB (view [] w') b B := fun hA => hr.mono (st_viewLe hA (Mc := []) fun _ hp => by cases hp)
  refine calls_of_T (m := 213) Tryz.func167 rfl rfl (by simp) hS ?_
  repeat (first | refine za rfl rfl ?_ | refine zb rfl ?_ | refine zc rfl ?_)
  refine TL.alloc (cs := z258s) zero180 rfl rfl rfl (fun rb => ?_)
  repeat (first | refine za rfl rfl ?_ | refine zb rfl ?_ | refine zc rfl ?_)
  refine TL.build (v := .agg z258s.toArray) rfl rfl rfl build180z ?_
  refine TL.alloc (cs := z258s) zero180 rfl rfl rfl (fun ub => ?_)
  refine TL.stW (vs := z258s) 0 szk rfl rfl rfl rfl z258s_length z258s_length z258s_one ?_
  repeat (first | refine za rfl rfl ?_ | refine zb rfl ?_ | refine zc rfl ?_)
  rw [nat_i64 (a := fin - o) (by omega), add_i64 (a := o) (b := fin - o) (by omega), show o + (fin - o) = fin by omega]
  refine TL.call0 Tryz.call148 rfl rfl rfl (unpack16 b cap B o (r.n1 % 65536) (by omega) hB hb1) (fun w' hA => hr0 hA) (fun _ => TL.and fun _ => ?_)
  repeat (first | refine za rfl rfl ?_ | refine zb rfl ?_ | refine zc rfl ?_)
  refine TL.st 0 szk rfl rfl rfl rfl rfl (by rw [z258s_length]; rfl) ?_
  refine TL.mono (B := St _ w [(ub, .row (svRow0 (r.n1 % 65536)) 180), (rb, .row z258s 180)]) (fun w hA => hA) ?_
  repeat (first | refine za rfl rfl ?_ | refine zb rfl ?_ | refine zc rfl ?_)
  refine T.condF rfl rfl ?_
  repeat (first | refine za rfl rfl ?_ | refine zb rfl ?_ | refine zc rfl ?_)
  refine TL.call1 0 Tryz.call150 rfl rfl rfl rfl (nameUnpack ub (0 + 1) (svRow0 (r.n1 % 65536)) 180 (fun j v hj => by
    rw [nth_eq] at *
    rw [svRow0, show 0 + 1 + j = j + 1 by omega, List.getElem?_cons_succ, List.getElem?_append_left (List.getElem?_eq_some_iff.1 hj).1]; exact hj) (by rw [svRow0, List.length_cons, List.length_append, zs256_length]; decide) b cap B hB hcap (o + 2) r.host hn f1 hn1) (fun w' hA => hr.mono (st_viewLe hA (Mc := [(ub, .row (svRow0 (r.n1 % 65536)) 180)]) fun _ hp => by simp at hp; subst hp; simp)) (fun _ => TL.and fun _ => ?_)
  rw [sv_name h255]
  repeat (first | refine za rfl rfl ?_ | refine zb rfl ?_ | refine zc rfl ?_)
  refine T.condF rfl rfl ?_
  repeat (first | refine za rfl rfl ?_ | refine zb rfl ?_ | refine zc rfl ?_)
  refine T.loop (α := Nat) (fun n => [(0, msl b cap B), (1, .int .i64 ((f1 + (pairB (r.pairs.take n)).length : Nat) : Int)), (2, .int .u16 ((fin - o : Nat) : Int)), (6, ptr rb 0), (8, ptr ub 0), (9, .int .i64 (f1 : Int)), (10, .int .i64 (fin : Int)), (12, .int .i64 (n : Int)), (13, .int .u16 (((vals (r.pairs.take n)).length : Nat) : Int)), (14, .int .u16 0)])
    (fun n w' => n ≤ r.pairs.length ∧ St (keys []) w [(ub, .row (svRow (r.n1 % 65536) r.host (.slice none 0 0)) 180), (rb, .row z258s 180)] w') (fun n => r.pairs.length - n) 0 ⟨rfl, rfl, rfl, rfl, rfl, rfl, rfl, rfl, rfl, rfl, trivial⟩
    (fun w' hA => ⟨Nat.zero_le _, hA⟩) ?_
  intro n ih
  refine T.and fun hn' => ?_
  have htk := pairB_take_le r.pairs n
  have hvk := vals_take_le r.pairs n
  repeat (first | refine za rfl rfl ?_ | refine zb rfl ?_ | refine zc rfl ?_)
  by_cases hnl' : n < r.pairs.length
  · obtain ⟨s, hs⟩ := nth_lt hnl'
    have hsp := pairB_split hs
    have hnum := hr_.num.keys s (nth_mem hs)
    have hsl := congrArg List.length hsp
    have hvs := congrArg List.length (vals_split hs)
    simp only [List.length_append, w2_length] at hsl hvs
    rw [hsp] at hbt
    have hb2 := (BytesAt.append.1 (BytesAt.append.1 hbt).2).1
    have hb3 := BytesAt.append.1 hb2
    have hb4 := BytesAt.append.1 hb3.2
    simp only [w2_length] at hb3 hb4
    refine T.condT rfl (by simp only [decide_eq_true_eq]; omega) ?_
    repeat (first | refine za rfl rfl ?_ | refine zb rfl ?_ | refine zc rfl ?_)
    refine TL.call0 Tryz.call148 rfl rfl rfl (unpack16 b cap B _ s.key hnum hB hb3.1) (fun w' hA => hr0 hA) (fun _ => TL.and fun _ => ?_)
    repeat (first | refine za rfl rfl ?_ | refine zb rfl ?_ | refine zc rfl ?_)
    refine T.condF rfl rfl ?_
    by_cases h0 : n = 0
    case' pos =>
      repeat (first | refine za rfl rfl ?_ | refine zb rfl ?_ | refine zc rfl ?_)
      rw [show decide (((n : Nat) : Int) > 0) = false by simp [h0]]
      repeat (first | refine za rfl rfl ?_ | refine zb rfl ?_ | refine zc rfl ?_)
      refine T.condF rfl rfl ?_
    case' neg =>
      have hk0 := hasc n s (by omega) hs
      repeat (first | refine za rfl rfl ?_ | refine zb rfl ?_ | refine zc rfl ?_)
      rw [show decide (((n : Nat) : Int) > 0) = true by simp; omega]
      repeat (first | refine za rfl rfl ?_ | refine zb rfl ?_ | refine zc rfl ?_)
      refine T.condF rfl (by simp; omega) ?_
    all_goals
      repeat (first | refine za rfl rfl ?_ | refine zb rfl ?_ | refine zc rfl ?_)
      refine TL.call0 Tryz.call148 rfl rfl rfl (unpack16 b cap B _ s.data.length (by omega) hB hb4.1) (fun w' hA => hr0 hA) (fun _ => TL.and fun _ => ?_)
      repeat (first | refine za rfl rfl ?_ | refine zb rfl ?_ | refine zc rfl ?_)
      refine T.condF rfl rfl ?_
      repeat (first | refine za rfl rfl ?_ | refine zb rfl ?_ | refine zc rfl ?_)
      rw [nat_i64 (a := s.data.length) (by omega), add_i64 (a := f1 + (pairB (r.pairs.take n)).length + 2 + 2) (b := s.data.length) (by omega)]
      refine T.condF rfl (by simp; omega) ?_
      repeat (first | refine za rfl rfl ?_ | refine zb rfl ?_ | refine zc rfl ?_)
      rw [nat_i64 (a := s.data.length) (by omega), add_i64 (a := f1 + (pairB (r.pairs.take n)).length + 2 + 2) (b := s.data.length) (by omega), add1_i64 (a := n) (by omega)]
      rw [show IntKind.u16.wrap ((((vals (r.pairs.take n)).length : Nat) : Int) + ((s.data.length : Nat) : Int)) = (((vals (r.pairs.take (n + 1))).length : Nat) : Int) by rw [vals_take hs, List.length_append, u16_in _ (by omega) (by omega)]; omega]
      refine T.again ih (n + 1) (by omega) ⟨rfl, ?_, rfl, rfl, rfl, rfl, rfl, rfl, rfl, rfl, trivial⟩ (fun w' hA => ⟨by omega, hA⟩)
      simp only [look, pairB_take hs, List.length_append, w2_length]
      rw [show f1 + (pairB (r.pairs.take n)).length + 2 + 2 + s.data.length = f1 + ((pairB (r.pairs.take n)).length + (2 + (2 + s.data.length))) by omega]; rfl
  have hnq : n = r.pairs.length := by omega
  rw [hnq, List.take_length]
  clear ih
  refine T.condF rfl (by simp; omega) ?_
  repeat (first | refine za rfl rfl ?_ | refine zb rfl ?_ | refine zc rfl ?_)
  rw [hf]
  refine T.condF rfl (by simp) ?_
  repeat (first | refine za rfl rfl ?_ | refine zb rfl ?_ | refine zc rfl ?_)
  generalize hV : (vals r.pairs).length = V at hvl
  refine TL.make (len := r.pairs.length) (cap := r.pairs.length) el178 rfl rfl (Nat.le_refl _) (by omega) (by omega) rfl rfl (fun pb ps hps _ => ?_)
  repeat (first | refine za rfl rfl ?_ | refine zb rfl ?_ | refine zc rfl ?_)
  refine TL.st 1 szk rfl rfl rfl rfl rfl (by rw [svRow_length h255]; rfl) ?_
  simp only [setN]
  rw [sv_set h255]
  repeat (first | refine za rfl rfl ?_ | refine zb rfl ?_ | refine zc rfl ?_)
  refine TL.make (len := V) (cap := V) el37 rfl rfl (Nat.le_refl _) (by omega) (by omega) rfl rfl (fun vb vs hvs _ => ?_)
  rw [Nat.mul_one] at hvs
  repeat (first | refine za rfl rfl ?_ | refine zb rfl ?_ | refine zc rfl ?_)
  subst hV
  refine T.loop (α := VY) (fun x => [(0, msl b cap B), (1, .int .i64 ((f1 + (pairB (r.pairs.take x.i)).length : Nat) : Int)), (6, ptr rb 0), (8, ptr ub 0), (12, .int .i64 (r.pairs.length : Int)), (17, .slice (some ⟨vb, x.po, none⟩) ((vals r.pairs).length - (vals (r.pairs.take x.i)).length) ((vals r.pairs).length - (vals (r.pairs.take x.i)).length)), (18, .int .i64 (x.i : Int))])
    (fun x w' => x.ok r.pairs vb ∧ St (keys []) w [(vb, .row x.vcs 5), (pb, .row x.pcs 262), (ub, .row (svRow (r.n1 % 65536) r.host (.slice (some ⟨pb, 0, none⟩) r.pairs.length r.pairs.length)) 180), (rb, .row z258s 180)] w') (fun x => r.pairs.length - x.i) ⟨0, ps, vs, 0⟩
    ⟨rfl, rfl, rfl, rfl, rfl, rfl, rfl, trivial⟩ (fun w' hA => ⟨⟨Nat.zero_le _, hps, hvs, Nat.zero_le _, fun _ => rfl, fun k hk => (Nat.not_lt_zero _ hk).elim, fun j p hj => (Nat.not_lt_zero _ hj).elim⟩, hA⟩) ?_
  rintro ⟨i, pcs, vcs, po⟩ ih
  refine T.and fun hok => ?_
  have hle' := hok.le
  have hpl' := hok.plen
  have hvl' := hok.vlen
  have hpo1 := hok.pole
  have hpo2 := hok.poeq
  simp only at hle' hpl' hvl' hpo1 hpo2
  have htk := pairB_take_le r.pairs i
  have hvk := vals_take_le r.pairs i
  repeat (first | refine za rfl rfl ?_ | refine zb rfl ?_ | refine zc rfl ?_)
  by_cases hil : i < r.pairs.length
  · obtain ⟨s, hs⟩ := nth_lt hil
    have hsp := pairB_split hs
    have hnum := hr_.num.keys s (nth_mem hs)
    have hsl := congrArg List.length hsp
    have hvs' := congrArg List.length (vals_split hs)
    have hvt := congrArg List.length (vals_take hs)
    have hvk2 := vals_take_le r.pairs (i + 1)
    simp only [List.length_append, w2_length] at hsl hvs' hvt
    rw [hsp] at hbt
    have hb2 := (BytesAt.append.1 (BytesAt.append.1 hbt).2).1
    have hb3 := BytesAt.append.1 hb2
    have hb4 := BytesAt.append.1 hb3.2
    simp only [w2_length] at hb3 hb4
    refine T.condT rfl (by simpa using hil) ?_
    repeat (first | refine za rfl rfl ?_ | refine zb rfl ?_ | refine zc rfl ?_)
    refine TL.ld 2 szk rfl rfl rfl (sv_get h255) rfl rfl ?_
    repeat (first | refine za rfl rfl ?_ | refine zb rfl ?_ | refine zc rfl ?_)
    refine TL.ix (j := i) tbk rfl rfl rfl rfl rfl rfl hil ?_
    repeat (first | refine za rfl rfl ?_ | refine zb rfl ?_ | refine zc rfl ?_)
    refine TL.call0 Tryz.call148 rfl rfl rfl (unpack16 b cap B _ s.key hnum hB hb3.1) (fun w' hA => hr0 hA) (fun _ => TL.and fun _ => ?_)
    repeat (first | refine za rfl rfl ?_ | refine zb rfl ?_ | refine zc rfl ?_)
    refine T.condF rfl rfl ?_
    repeat (first | refine za rfl rfl ?_ | refine zb rfl ?_ | refine zc rfl ?_)
    refine TL.st 1 szk rfl rfl rfl rfl rfl (by rw [Nat.blt_eq, hpl']; omega) ?_
    repeat (first | refine za rfl rfl ?_ | refine zb rfl ?_ | refine zc rfl ?_)
    refine TL.call0 Tryz.call148 rfl rfl rfl (unpack16 b cap B _ s.data.length (by omega) hB hb4.1) (fun w' hA => hr0 hA) (fun _ => TL.and fun _ => ?_)
    repeat (first | refine za rfl rfl ?_ | refine zb rfl ?_ | refine zc rfl ?_)
    refine T.condF rfl rfl ?_
    repeat (first | refine za rfl rfl ?_ | refine zb rfl ?_ | refine zc rfl ?_)
    refine TL.sl (l := f1 + (pairB (r.pairs.take i)).length + 2 + 2) (m := B.length) tbk rfl rfl rfl rfl (by exact ⟨_, rfl⟩) rfl (by omega) hcap (fun p _ _ => ?_)
    repeat (first | refine za rfl rfl ?_ | refine zb rfl ?_ | refine zc rfl ?_)
    rw [nat_i64 (a := s.data.length) (by omega)]
    refine T.condF rfl (by simp; omega) ?_
    repeat (first | refine za rfl rfl ?_ | refine zb rfl ?_ | refine zc rfl ?_)
    refine TL.y rfl rfl rfl (Y.sl (l := f1 + (pairB (r.pairs.take i)).length + 2 + 2) (m := B.length) tbk rfl rfl (by exact ⟨_, rfl⟩) rfl (by omega) hcap) ?_
    rw [show (if cap = f1 + (pairB (r.pairs.take i)).length + 2 + 2 then (⟨b, 0, none⟩ : Addr) else ⟨b, 0 + (f1 + (pairB (r.pairs.take i)).length + 2 + 2) * 1, none⟩) = ⟨b, (if cap = f1 + (pairB (r.pairs.take i)).length + 2 + 2 then 0 else 0 + (f1 + (pairB (r.pairs.take i)).length + 2 + 2) * 1), none⟩ by split <;> rfl]
    repeat (first | refine za rfl rfl ?_ | refine zb rfl ?_ | refine zc rfl ?_)
    rw [nat_i64 (a := s.data.length) (by omega)]
    refine TL.sl (l := 0) (m := s.data.length) tbk rfl rfl rfl rfl rfl (by exact ⟨_, rfl⟩) (Nat.zero_le _) (by omega) (fun p _ hp => ?_)
    rw [hp rfl, Nat.sub_zero, Nat.sub_zero]
    have hfit : po + s.data.length ≤ vcs.length := by
      rw [hvl']
      rcases Nat.lt_or_ge (vals (r.pairs.take i)).length (vals r.pairs).length with h1 | h1
      · rw [hpo2 h1]; omega
      · omega
    refine TL.copy (q := s.data.length) (m := s.data.length) (news := s.data.map bv) 0 el37 rfl rfl rfl rfl rfl (by show s.data.length = min s.data.length ((vals r.pairs).length - (vals (r.pairs.take i)).length); omega) (SrcN.slice (fun w' hA => msg_part (cap := cap) hr hb4.2 (fun h => by rw [if_neg (by omega)]) (by omega) hA.ext) (by simp) (bytes_one _)) hfit ?_
    repeat (first | refine za rfl rfl ?_ | refine zb rfl ?_ | refine zc rfl ?_)
    rw [nat_i64 (a := s.data.length) (by omega)]
    refine T.condF rfl (by simp) ?_
    repeat (first | refine za rfl rfl ?_ | refine zb rfl ?_ | refine zc rfl ?_)
    refine TL.y rfl rfl rfl (Y.sl3 (m := s.data.length) tbk rfl rfl rfl rfl (by show s.data.length ≤ (vals r.pairs).length - (vals (r.pairs.take i)).length; omega)) ?_
    repeat (first | refine za rfl rfl ?_ | refine zb rfl ?_ | refine zc rfl ?_)
    refine TL.st 1 szk rfl rfl rfl rfl rfl (by rw [Nat.blt_eq, setN_length, hpl']; omega) ?_
    repeat (first | refine za rfl rfl ?_ | refine zb rfl ?_ | refine zc rfl ?_)
    refine TL.y rfl rfl rfl (Y.sl (l := s.data.length) (m := (vals r.pairs).length - (vals (r.pairs.take i)).length) tbk rfl rfl (by exact ⟨_, rfl⟩) rfl (by omega) (Nat.le_refl _)) ?_
    rw [show (if (vals r.pairs).length - (vals (r.pairs.take i)).length = s.data.length then (⟨vb, po, none⟩ : Addr) else ⟨vb, po + s.data.length * 1, none⟩) = ⟨vb, (if (vals r.pairs).length - (vals (r.pairs.take i)).length = s.data.length then po else po + s.data.length * 1), none⟩ by split <;> rfl]
    repeat (first | refine za rfl rfl ?_ | refine zb rfl ?_ | refine zc rfl ?_)
    rw [nat_i64 (a := s.data.length) (by omega), add_i64 (a := f1 + (pairB (r.pairs.take i)).length + 2 + 2) (b := s.data.length) (by omega), add1_i64 (a := i) (by omega)]
    have hnx := hok.next hs (if (vals r.pairs).length - (vals (r.pairs.take i)).length = s.data.length then po else po + s.data.length * 1) (by split <;> omega) (fun h => by
      have h' : (vals (r.pairs.take (i + 1))).length < (vals r.pairs).length := h
      show (if (vals r.pairs).length - (vals (r.pairs.take i)).length = s.data.length then po else po + s.data.length * 1) = (vals (r.pairs.take (i + 1))).length
      rw [if_neg (by omega), hpo2 (by omega)]; omega)
    refine T.again ih ⟨i + 1, _, _, _⟩ (by simp; omega) ⟨rfl, ?_, rfl, rfl, rfl, ?_, rfl, trivial⟩ (fun w' hA => ⟨hnx, ?_⟩)
    · simp only [look, pairB_take hs, List.length_append, w2_length]
      rw [show f1 + (pairB (r.pairs.take i)).length + 2 + 2 + s.data.length = f1 + ((pairB (r.pairs.take i)).length + (2 + (2 + s.data.length))) by omega]; rfl
    · simp only [look]
      rw [show (vals r.pairs).length - (vals (r.pairs.take (i + 1))).length = (vals r.pairs).length - (vals (r.pairs.take i)).length - s.data.length by omega]; rfl
    · simpa [setN] using hA
  · have hiq : i = r.pairs.length := by omega
    refine T.condF rfl (by simpa using hil) ?_
    repeat (first | refine za rfl rfl ?_ | refine zb rfl ?_ | refine zc rfl ?_)
    refine TL.ldW 2 szk rfl rfl rfl (svRow_length h255) rfl rfl ?_
    refine TL.stW (vs := svRow (r.n1 % 65536) r.host (.slice (some ⟨pb, 0, none⟩) r.pairs.length r.pairs.length)) 3 szk rfl rfl rfl rfl (svRow_length h255) z258s_length (sv_one rfl) ?_
    repeat (first | refine za rfl rfl ?_ | refine zb rfl ?_ | refine zc rfl ?_)
    refine T.retG Tryz.func167 (.cons (RV.cellW 3 szk rfl rfl rfl (svRow_length h255)) (.cons (RV.tmp rfl) .nil)) (fun w hA => ⟨(.slice (some ⟨pb, 0, none⟩) r.pairs.length r.pairs.length, [(vb, .row vcs 5), (pb, .row pcs 262)]), rfl, ?_, hA.sub (List.Sublist.cons_cons _ (List.Sublist.cons_cons _ (List.nil_sublist _)))⟩)
    have hnd := (hA.sub (M' := [(vb, .row vcs 5), (pb, .row pcs 262)]) (List.Sublist.cons_cons _ (List.Sublist.cons_cons _ (List.nil_sublist _)))).nd
    refine .inr ⟨pb, 0, r.pairs.length, rfl, Nat.le_refl _, fun j p hp => ?_⟩
    have hjl : j < r.pairs.length := by rw [nth_eq] at hp; exact (List.getElem?_eq_some_iff.1 hp).1
    obtain ⟨d1, po', hpo', d2, d3⟩ := hok.done j p (by simp only; omega) hp
    simp only at d1 d2
    refine ⟨[.int .u16 (p.key : Int), .slice (some ⟨vb, po', none⟩) p.data.length p.data.length], rfl, mv_row hnd (i := 1) rfl (fun k v hk => ?_), _, rfl, .inr ⟨vb, po', p.data.length, rfl, Nat.le_refl _, mv_row hnd (i := 0) rfl (fun k v hk => ?_)⟩⟩
    · rw [Nat.zero_add]
      match k, hk with
      | 0, hk => simp [nth] at hk; subst hk; exact d1
      | 1, hk => simp [nth] at hk; subst hk; exact d2
      | k + 2, hk => simp [nth] at hk
    · have hk2 : k < p.data.length := by rw [nth_eq] at hk; have := (List.getElem?_eq_some_iff.1 hk).1; simpa using this
      have hsp := vals_split hp
      have hvs' := congrArg List.length hsp
      simp only [List.length_append] at hvs'
      rw [d3 (by omega)]
      have hkn := hok.known ((vals (r.pairs.take j)).length + k) (by simp only; rw [hiq, List.take_length]; omega)
      simp only at hkn
      rw [hkn, nth_eq, List.getElem?_map, hsp, List.getElem?_append_right (by omega), Nat.add_sub_cancel_left, List.getElem?_append_left hk2]
      rw [nth_eq, List.getElem?_map] at hk; exact hk
end X
namespace X
theorem unBody (r : Rc) (hr_ : r.Ok) (b cap : Nat) (B : Bs) (hB : B.length ≤ 1000000) (hcap : B.length ≤ cap) (o fin : Nat) (hfin : fin ≤ B.length) (hof : o ≤ fin) (hle : fin - o < 65536) (hbd : BodyAt (kn B H0) r o fin) :
    Ct (β := Nat × Mem) Tryz.prog 156 [msl b cap B, .int .i64 (o : Int), .agg (rhCells r.name (typeOf r) r.cls r.ttl (fin - o)).toArray] [] (fun w => MB (view [] w) b B) (fun y => .tuple #[.iface (ifTy r.kind.toNat) (ptr y.1 0), .int .i64 (fin : Int), .nilIface])
      (fun y _ => BodyMem (mv y.2) y.1 0 r) (fun y => y.2) := by
  intro w hS hr
  have h255 : r.name.length ≤ 255 := by have := hr_.name.len; omega
  have hr0 : ∀ {w' : World} {M : Mem}, St (keys []) w M w' → MB (view [] w') b B := fun hA => hr.mono (st_viewLe hA (Mc := []) fun _ hp => by cases hp)
  have hC256 : nth (rhCells r.name (typeOf r) r.cls r.ttl (fin - o)) (0 + 256) = some (.int .u16 (typeOf r : Int)) := by rw [Nat.zero_add, show (256 : Nat) = 256 + 0 from rfl, rh_at h255]; rfl
  have hC259 : nth (rhCells r.name (typeOf r) r.cls r.ttl (fin - o)) (0 + 259) = some (.int .u16 ((fin - o : Nat) : Int)) := by rw [Nat.zero_add, show (259 : Nat) = 256 + 3 from rfl, rh_at h255]; rfl
  have hCl := rhCells_length (t := typeOf r) (c := r.cls) (ttl := r.ttl) (len := fin - o) h255
  generalize rhCells r.name (typeOf r) r.cls r.ttl (fin - o) = C at hC256 hC259 hCl ⊢
  have htyp := hr_.typ
  rcases kind_cases hr_ with k | k | k | k | k | k | k | k | k | k | k | k | k
  · have e := congrArg Int.toNat k
    have hlen := fun xv => cells_len hr_ (xv := xv)
    have hone := fun (h : View) (xv : Value) (hx : bodyX h r xv) => cells_one' hr_ hx
    simp only [e] at hlen
    have hty : typeOf r = 1 := by unfold typeOf; rw [e]; rfl
    rw [hty] at hC256
    refine calls_of_T (m := 170) Tryz.func156 rfl rfl (by simp) hS ?_
    repeat (first | refine za rfl rfl ?_ | refine zb rfl ?_ | refine zc rfl ?_)
    refine TL.box (cs := C) rfl rfl rfl rfl (fun xb => ?_)
    repeat (first | refine za rfl rfl ?_ | refine zb rfl ?_ | refine zc rfl ?_)
    refine TL.ld 0 szk rfl rfl rfl hC256 rfl rfl ?_
    repeat (first | refine TL.p tbk rfl ?_ | refine TL.nil ?_ | refine T.seq ?_ | refine T.region ?_ | refine T.skip ?_ | refine T.block ?_ | refine T.inBlock ?_ | refine T.exit rfl ?_ | refine T.condF rfl rfl ?_)
    refine T.condT rfl rfl ?_
    repeat (first | refine za rfl rfl ?_ | refine zb rfl ?_ | refine zc rfl ?_)
    refine TL.allocZ 4 Tryz.zeroValue137 (by kernel_rfl) rfl rfl (fun ob zs hz => ?_)
    repeat (first | refine za rfl rfl ?_ | refine zb rfl ?_ | refine zc rfl ?_)
    refine TL.call0 Tryz.call158 rfl rfl rfl (unA r hr_ k b cap B hB hcap o fin hfin hbd) (fun w' hA => hr0 hA) (fun y => TL.and fun hy => ?_)
    refine TL.mono (fun w hA => hA.perm (M' := [(ob, .row zs 137), (xb, .row C 116)] ++ y.2) List.perm_append_comm) ?_
    have hbx := hy
    repeat (first | refine za rfl rfl ?_ | refine zb rfl ?_ | refine zc rfl ?_)
    refine TL.stW (vs := bodyCells r y.1) 0 szk rfl rfl rfl rfl (hlen _) hz (hone _ _ hbx) ?_
    repeat (first | refine za rfl rfl ?_ | refine zb rfl ?_ | refine zc rfl ?_)
    refine T.condF rfl rfl ?_
    repeat (first | refine za rfl rfl ?_ | refine zb rfl ?_ | refine zc rfl ?_)
    refine TS.start [(0, true), (1, true), (2, true), (3, true), (4, true), (5, true), (6, true), (7, true), (8, true)] [(xb, .row C 116)] mixed (by kernel_rfl) (by kernel_rfl) (by decide) (by simp [setN]) ?_
    repeat refine TS.p tbk rfl rfl ?_
    refine TS.y rfl rfl rfl rfl (Y.load szk rfl rfl (fun w h => h.cell (i := 0) rfl hC259)) ?_
    refine TS.p tbk rfl rfl ?_
    refine TS.p tbk rfl rfl ?_
    rw [nat_i64 (a := fin - o) (by omega), add_i64 (a := o) (b := fin - o) (by omega), show o + (fin - o) = fin by omega]
    repeat refine TS.p tbk rfl rfl ?_
    refine TS.nil ?_
    repeat (first | refine za rfl rfl ?_ | refine zb rfl ?_ | refine zc rfl ?_)
    have hi : ifTy r.kind.toNat = 214 := by rw [e]; rfl
    refine T.ret Tryz.func156 rfl (fun w' hA => ⟨(ob, (ob, .row (bodyCells r y.1) 137) :: y.2), by rw [hi]; rfl, ⟨y.1, ?_, ?_⟩, hA.sub (List.Sublist.cons_cons _ (List.Sublist.cons _ (List.Sublist.refl _)))⟩)
    · exact mv_row (hA.sub (M' := (ob, .row (bodyCells r y.1) 137) :: y.2) (List.Sublist.cons_cons _ (List.Sublist.cons _ (List.Sublist.refl _)))).nd (i := 0) rfl (fun j v hj => by rw [Nat.zero_add]; exact hj)
    · exact bodyX_mono (mv_sub (hA.sub (M' := (ob, .row (bodyCells r y.1) 137) :: y.2) (List.Sublist.cons_cons _ (List.Sublist.cons _ (List.Sublist.refl _)))).nd fun p hp => List.mem_cons_of_mem _ hp) hbx
  · have e := congrArg Int.toNat k
    have hlen := fun xv => cells_len hr_ (xv := xv)
    have hone := fun (h : View) (xv : Value) (hx : bodyX h r xv) => cells_one' hr_ hx
    simp only [e] at hlen
    have hty : typeOf r = 2 := by unfold typeOf; rw [e]; rfl
    rw [hty] at hC256
    refine calls_of_T (m := 170) Tryz.func156 rfl rfl (by simp) hS ?_
    repeat (first | refine za rfl rfl ?_ | refine zb rfl ?_ | refine zc rfl ?_)
    refine TL.box (cs := C) rfl rfl rfl rfl (fun xb => ?_)
    repeat (first | refine za rfl rfl ?_ | refine zb rfl ?_ | refine zc rfl ?_)
    refine TL.ld 0 szk rfl rfl rfl hC256 rfl rfl ?_
    repeat (first | refine TL.p tbk rfl ?_ | refine TL.nil ?_ | refine T.seq ?_ | refine T.region ?_ | refine T.skip ?_ | refine T.block ?_ | refine T.inBlock ?_ | refine T.exit rfl ?_ | refine T.condF rfl rfl ?_)
    refine T.condT rfl rfl ?_
    repeat (first | refine za rfl rfl ?_ | refine zb rfl ?_ | refine zc rfl ?_)
    refine TL.allocZ 256 Tryz.zeroValue141 (by kernel_rfl) rfl rfl (fun ob zs hz => ?_)
    repeat (first | refine za rfl rfl ?_ | refine zb rfl ?_ | refine zc rfl ?_)
    refine TL.call0 Tryz.call159 rfl rfl rfl (unNS r hr_ k b cap B hB hcap o fin hfin hbd) (fun w' hA => hr0 hA) (fun y => TL.and fun hy => ?_)
    refine TL.mono (fun w hA => hA.perm (M' := [(ob, .row zs 141), (xb, .row C 116)] ++ y.2) List.perm_append_comm) ?_
    have hbx := hy
    repeat (first | refine za rfl rfl ?_ | refine zb rfl ?_ | refine zc rfl ?_)
    refine TL.stW (vs := bodyCells r y.1) 0 szk rfl rfl rfl rfl (hlen _) hz (hone _ _ hbx) ?_
    repeat (first | refine za rfl rfl ?_ | refine zb rfl ?_ | refine zc rfl ?_)
    refine T.condF rfl rfl ?_
    repeat (first | refine za rfl rfl ?_ | refine zb rfl ?_ | refine zc rfl ?_)
    refine TS.start [(0, true), (1, true), (2, true), (3, true), (4, true), (5, true), (6, true), (7, true), (8, true)] [(xb, .row C 116)] mixed (by kernel_rfl) (by kernel_rfl) (by decide) (by simp [setN]) ?_
    repeat refine TS.p tbk rfl rfl ?_
    refine TS.y rfl rfl rfl rfl (Y.load szk rfl rfl (fun w h => h.cell (i := 0) rfl hC259)) ?_
    refine TS.p tbk rfl rfl ?_
    refine TS.p tbk rfl rfl ?_
    rw [nat_i64 (a := fin - o) (by omega), add_i64 (a := o) (b := fin - o) (by omega), show o + (fin - o) = fin by omega]
    repeat refine TS.p tbk rfl rfl ?_
    refine TS.nil ?_
    repeat (first | refine za rfl rfl ?_ | refine zb rfl ?_ | refine zc rfl ?_)
    have hi : ifTy r.kind.toNat = 215 := by rw [e]; rfl
    refine T.ret Tryz.func156 rfl (fun w' hA => ⟨(ob, (ob, .row (bodyCells r y.1) 141) :: y.2), by rw [hi]; rfl, ⟨y.1, ?_, ?_⟩, hA.sub (List.Sublist.cons_cons _ (List.Sublist.cons _ (List.Sublist.refl _)))⟩)
    · exact mv_row (hA.sub (M' := (ob, .row (bodyCells r y.1) 141) :: y.2) (List.Sublist.cons_cons _ (List.Sublist.cons _ (List.Sublist.refl _)))).nd (i := 0) rfl (fun j v hj => by rw [Nat.zero_add]; exact hj)
    · exact bodyX_mono (mv_sub (hA.sub (M' := (ob, .row (bodyCells r y.1) 141) :: y.2) (List.Sublist.cons_cons _ (List.Sublist.cons _ (List.Sublist.refl _)))).nd fun p hp => List.mem_cons_of_mem _ hp) hbx
  · have e := congrArg Int.toNat k
    have hlen := fun xv => cells_len hr_ (xv := xv)
    have hone := fun (h : View) (xv : Value) (hx : bodyX h r xv) => cells_one' hr_ hx
    simp only [e] at hlen
    have hty : typeOf r = 5 := by unfold typeOf; rw [e]; rfl
    rw [hty] at hC256
    refine calls_of_T (m := 170) Tryz.func156 rfl rfl (by simp) hS ?_
    repeat (first | refine za rfl rfl ?_ | refine zb rfl ?_ | refine zc rfl ?_)
    refine TL.box (cs := C) rfl rfl rfl rfl (fun xb => ?_)
    repeat (first | refine za rfl rfl ?_ | refine zb rfl ?_ | refine zc rfl ?_)
    refine TL.ld 0 szk rfl rfl rfl hC256 rfl rfl ?_
    repeat (first | refine TL.p tbk rfl ?_ | refine TL.nil ?_ | refine T.seq ?_ | refine T.region ?_ | refine T.skip ?_ | refine T.block ?_ | refine T.inBlock ?_ | refine T.exit rfl ?_ | refine T.condF rfl rfl ?_)
    refine T.condT rfl rfl ?_
    repeat (first | refine za rfl rfl ?_ | refine zb rfl ?_ | refine zc rfl ?_)
    refine TL.allocZ 256 Tryz.zeroValue145 (by kernel_rfl) rfl rfl (fun ob zs hz => ?_)
    repeat (first | refine za rfl rfl ?_ | refine zb rfl ?_ | refine zc rfl ?_)
    refine TL.call0 Tryz.call160 rfl rfl rfl (unCNAME r hr_ k b cap B hB hcap o fin hfin hbd) (fun w' hA => hr0 hA) (fun y => TL.and fun hy => ?_)
    refine TL.mono (fun w hA => hA.perm (M' := [(ob, .row zs 145), (xb, .row C 116)] ++ y.2) List.perm_append_comm) ?_
    have hbx := hy
    repeat (first | refine za rfl rfl ?_ | refine zb rfl ?_ | refine zc rfl ?_)
    refine TL.stW (vs := bodyCells r y.1) 0 szk rfl rfl rfl rfl (hlen _) hz (hone _ _ hbx) ?_
    repeat (first | refine za rfl rfl ?_ | refine zb rfl ?_ | refine zc rfl ?_)
    refine T.condF rfl rfl ?_
    repeat (first | refine za rfl rfl ?_ | refine zb rfl ?_ | refine zc rfl ?_)
    refine TS.start [(0, true), (1, true), (2, true), (3, true), (4, true), (5, true), (6, true), (7, true), (8, true)] [(xb, .row C 116)] mixed (by kernel_rfl) (by kernel_rfl) (by decide) (by simp [setN]) ?_
    repeat refine TS.p tbk rfl rfl ?_
    refine TS.y rfl rfl rfl rfl (Y.load szk rfl rfl (fun w h => h.cell (i := 0) rfl hC259)) ?_
    refine TS.p tbk rfl rfl ?_
    refine TS.p tbk rfl rfl ?_
    rw [nat_i64 (a := fin - o) (by omega), add_i64 (a := o) (b := fin - o) (by omega), show o + (fin - o) = fin by omega]
    repeat refine TS.p tbk rfl rfl ?_
    refine TS.nil ?_
    repeat (first | refine za rfl rfl ?_ | refine zb rfl ?_ | refine zc rfl ?_)
    have hi : ifTy r.kind.toNat = 216 := by rw [e]; rfl
    refine T.ret Tryz.func156 rfl (fun w' hA => ⟨(ob, (ob, .row (bodyCells r y.1) 145) :: y.2), by rw [hi]; rfl, ⟨y.1, ?_, ?_⟩, hA.sub (List.Sublist.cons_cons _ (List.Sublist.cons _ (List.Sublist.refl _)))⟩)
    · exact mv_row (hA.sub (M' := (ob, .row (bodyCells r y.1) 145) :: y.2) (List.Sublist.cons_cons _ (List.Sublist.cons _ (List.Sublist.refl _)))).nd (i := 0) rfl (fun j v hj => by rw [Nat.zero_add]; exact hj)
    · exact bodyX_mono (mv_sub (hA.sub (M' := (ob, .row (bodyCells r y.1) 145) :: y.2) (List.Sublist.cons_cons _ (List.Sublist.cons _ (List.Sublist.refl _)))).nd fun p hp => List.mem_cons_of_mem _ hp) hbx
  · have e := congrArg Int.toNat k
    have hlen := fun xv => cells_len hr_ (xv := xv)
    have hone := fun (h : View) (xv : Value) (hx : bodyX h r xv) => cells_one' hr_ hx
    simp only [e] at hlen
    have hty : typeOf r = 6 := by unfold typeOf; rw [e]; rfl
    rw [hty] at hC256
    refine calls_of_T (m := 170) Tryz.func156 rfl rfl (by simp) hS ?_
    repeat (first | refine za rfl rfl ?_ | refine zb rfl ?_ | refine zc rfl ?_)
    refine TL.box (cs := C) rfl rfl rfl rfl (fun xb => ?_)
    repeat (first | refine za rfl rfl ?_ | refine zb rfl ?_ | refine zc rfl ?_)
    refine TL.ld 0 szk rfl rfl rfl hC256 rfl rfl ?_
    repeat (first | refine TL.p tbk rfl ?_ | refine TL.nil ?_ | refine T.seq ?_ | refine T.region ?_ | refine T.skip ?_ | refine T.block ?_ | refine T.inBlock ?_ | refine T.exit rfl ?_ | refine T.condF rfl rfl ?_)
    refine T.condT rfl rfl ?_
    repeat (first | refine za rfl rfl ?_ | refine zb rfl ?_ | refine zc rfl ?_)
    refine TL.allocZ 517 Tryz.zeroValue149 (by kernel_rfl) rfl rfl (fun ob zs hz => ?_)
    repeat (first | refine za rfl rfl ?_ | refine zb rfl ?_ | refine zc rfl ?_)
    refine TL.call0 Tryz.call161 rfl rfl rfl (unSOA r hr_ k b cap B hB hcap o fin hfin hbd) (fun w' hA => hr0 hA) (fun y => TL.and fun hy => ?_)
    refine TL.mono (fun w hA => hA.perm (M' := [(ob, .row zs 149), (xb, .row C 116)] ++ y.2) List.perm_append_comm) ?_
    have hbx := hy
    repeat (first | refine za rfl rfl ?_ | refine zb rfl ?_ | refine zc rfl ?_)
    refine TL.stW (vs := bodyCells r y.1) 0 szk rfl rfl rfl rfl (hlen _) hz (hone _ _ hbx) ?_
    repeat (first | refine za rfl rfl ?_ | refine zb rfl ?_ | refine zc rfl ?_)
    refine T.condF rfl rfl ?_
    repeat (first | refine za rfl rfl ?_ | refine zb rfl ?_ | refine zc rfl ?_)
    refine TS.start [(0, true), (1, true), (2, true), (3, true), (4, true), (5, true), (6, true), (7, true), (8, true)] [(xb, .row C 116)] mixed (by kernel_rfl) (by kernel_rfl) (by decide) (by simp [setN]) ?_
    repeat refine TS.p tbk rfl rfl ?_
    refine TS.y rfl rfl rfl rfl (Y.load szk rfl rfl (fun w h => h.cell (i := 0) rfl hC259)) ?_
    refine TS.p tbk rfl rfl ?_
    refine TS.p tbk rfl rfl ?_
    rw [nat_i64 (a := fin - o) (by omega), add_i64 (a := o) (b := fin - o) (by omega), show o + (fin - o) = fin by omega]
    repeat refine TS.p tbk rfl rfl ?_
    refine TS.nil ?_
    repeat (first | refine za rfl rfl ?_ | refine zb rfl ?_ | refine zc rfl ?_)
    have hi : ifTy r.kind.toNat = 217 := by rw [e]; rfl
    refine T.ret Tryz.func156 rfl (fun w' hA => ⟨(ob, (ob, .row (bodyCells r y.1) 149) :: y.2), by rw [hi]; rfl, ⟨y.1, ?_, ?_⟩, hA.sub (List.Sublist.cons_cons _ (List.Sublist.cons _ (List.Sublist.refl _)))⟩)
    · exact mv_row (hA.sub (M' := (ob, .row (bodyCells r y.1) 149) :: y.2) (List.Sublist.cons_cons _ (List.Sublist.cons _ (List.Sublist.refl _)))).nd (i := 0) rfl (fun j v hj => by rw [Nat.zero_add]; exact hj)
    · exact bodyX_mono (mv_sub (hA.sub (M' := (ob, .row (bodyCells r y.1) 149) :: y.2) (List.Sublist.cons_cons _ (List.Sublist.cons _ (List.Sublist.refl _)))).nd fun p hp => List.mem_cons_of_mem _ hp) hbx
  · have e := congrArg Int.toNat k
    have hlen := fun xv => cells_len hr_ (xv := xv)
    have hone := fun (h : View) (xv : Value) (hx : bodyX h r xv) => cells_one' hr_ hx
    simp only [e] at hlen
    have hty : typeOf r = 12 := by unfold typeOf; rw [e]; rfl
    rw [hty] at hC256
    refine calls_of_T (m := 170) Tryz.func156 rfl rfl (by simp) hS ?_
    repeat (first | refine za rfl rfl ?_ | refine zb rfl ?_ | refine zc rfl ?_)
    refine TL.box (cs := C) rfl rfl rfl rfl (fun xb => ?_)
    repeat (first | refine za rfl rfl ?_ | refine zb rfl ?_ | refine zc rfl ?_)
    refine TL.ld 0 szk rfl rfl rfl hC256 rfl rfl ?_
    repeat (first | refine TL.p tbk rfl ?_ | refine TL.nil ?_ | refine T.seq ?_ | refine T.region ?_ | refine T.skip ?_ | refine T.block ?_ | refine T.inBlock ?_ | refine T.exit rfl ?_ | refine T.condF rfl rfl ?_)
    refine T.condT rfl rfl ?_
    repeat (first | refine za rfl rfl ?_ | refine zb rfl ?_ | refine zc rfl ?_)
    refine TL.allocZ 256 Tryz.zeroValue153 (by kernel_rfl) rfl rfl (fun ob zs hz => ?_)
    repeat (first | refine za rfl rfl ?_ | refine zb rfl ?_ | refine zc rfl ?_)
    refine TL.call0 Tryz.call162 rfl rfl rfl (unPTR r hr_ k b cap B hB hcap o fin hfin hbd) (fun w' hA => hr0 hA) (fun y => TL.and fun hy => ?_)
    refine TL.mono (fun w hA => hA.perm (M' := [(ob, .row zs 153), (xb, .row C 116)] ++ y.2) List.perm_append_comm) ?_
    have hbx := hy
    repeat (first | refine za rfl rfl ?_ | refine zb rfl ?_ | refine zc rfl ?_)
    refine TL.stW (vs := bodyCells r y.1) 0 szk rfl rfl rfl rfl (hlen _) hz (hone _ _ hbx) ?_
    repeat (first | refine za rfl rfl ?_ | refine zb rfl ?_ | refine zc rfl ?_)
    refine T.condF rfl rfl ?_
    repeat (first | refine za rfl rfl ?_ | refine zb rfl ?_ | refine zc rfl ?_)
    refine TS.start [(0, true), (1, true), (2, true), (3, true), (4, true), (5, true), (6, true), (7, true), (8, true)] [(xb, .row C 116)] mixed (by kernel_rfl) (by kernel_rfl) (by decide) (by simp [setN]) ?_
    repeat refine TS.p tbk rfl rfl ?_
    refine TS.y rfl rfl rfl rfl (Y.load szk rfl rfl (fun w h => h.cell (i := 0) rfl hC259)) ?_
    refine TS.p tbk rfl rfl ?_
    refine TS.p tbk rfl rfl ?_
    rw [nat_i64 (a := fin - o) (by omega), add_i64 (a := o) (b := fin - o) (by omega), show o + (fin - o) = fin by omega]
    repeat refine TS.p tbk rfl rfl ?_
    refine TS.nil ?_
    repeat (first | refine za rfl rfl ?_ | refine zb rfl ?_ | refine zc rfl ?_)
    have hi : ifTy r.kind.toNat = 218 := by rw [e]; rfl
    refine T.ret Tryz.func156 rfl (fun w' hA => ⟨(ob, (ob, .row (bodyCells r y.1) 153) :: y.2), by rw [hi]; rfl, ⟨y.1, ?_, ?_⟩, hA.sub (List.Sublist.cons_cons _ (List.Sublist.cons _ (List.Sublist.refl _)))⟩)
    · exact mv_row (hA.sub (M' := (ob, .row (bodyCells r y.1) 153) :: y.2) (List.Sublist.cons_cons _ (List.Sublist.cons _ (List.Sublist.refl _)))).nd (i := 0) rfl (fun j v hj => by rw [Nat.zero_add]; exact hj)
    · exact bodyX_mono (mv_sub (hA.sub (M' := (ob, .row (bodyCells r y.1) 153) :: y.2) (List.Sublist.cons_cons _ (List.Sublist.cons _ (List.Sublist.refl _)))).nd fun p hp => List.mem_cons_of_mem _ hp) hbx
  · have e := congrArg Int.toNat k
    have hlen := fun xv => cells_len hr_ (xv := xv)
    have hone := fun (h : View) (xv : Value) (hx : bodyX h r xv) => cells_one' hr_ hx
    simp only [e] at hlen
    have hty : typeOf r = 15 := by unfold typeOf; rw [e]; rfl
    rw [hty] at hC256
    refine calls_of_T (m := 170) Tryz.func156 rfl rfl (by simp) hS ?_
    repeat (first | refine za rfl rfl ?_ | refine zb rfl ?_ | refine zc rfl ?_)
    refine TL.box (cs := C) rfl rfl rfl rfl (fun xb => ?_)
    repeat (first | refine za rfl rfl ?_ | refine zb rfl ?_ | refine zc rfl ?_)
    refine TL.ld 0 szk rfl rfl rfl hC256 rfl rfl ?_
    repeat (first | refine TL.p tbk rfl ?_ | refine TL.nil ?_ | refine T.seq ?_ | refine T.region ?_ | refine T.skip ?_ | refine T.block ?_ | refine T.inBlock ?_ | refine T.exit rfl ?_ | refine T.condF rfl rfl ?_)
    refine T.condT rfl rfl ?_
    repeat (first | refine za rfl rfl ?_ | refine zb rfl ?_ | refine zc rfl ?_)
    refine TL.allocZ 257 Tryz.zeroValue157 (by kernel_rfl) rfl rfl (fun ob zs hz => ?_)
    repeat (first | refine za rfl rfl ?_ | refine zb rfl ?_ | refine zc rfl ?_)
    refine TL.call0 Tryz.call163 rfl rfl rfl (unMX r hr_ k b cap B hB hcap o fin hfin hbd) (fun w' hA => hr0 hA) (fun y => TL.and fun hy => ?_)
    refine TL.mono (fun w hA => hA.perm (M' := [(ob, .row zs 157), (xb, .row C 116)] ++ y.2) List.perm_append_comm) ?_
    have hbx := hy
    repeat (first | refine za rfl rfl ?_ | refine zb rfl ?_ | refine zc rfl ?_)
    refine TL.stW (vs := bodyCells r y.1) 0 szk rfl rfl rfl rfl (hlen _) hz (hone _ _ hbx) ?_
    repeat (first | refine za rfl rfl ?_ | refine zb rfl ?_ | refine zc rfl ?_)
    refine T.condF rfl rfl ?_
    repeat (first | refine za rfl rfl ?_ | refine zb rfl ?_ | refine zc rfl ?_)
    refine TS.start [(0, true), (1, true), (2, true), (3, true), (4, true), (5, true), (6, true), (7, true), (8, true)] [(xb, .row C 116)] mixed (by kernel_rfl) (by kernel_rfl) (by decide) (by simp [setN]) ?_
    repeat refine TS.p tbk rfl rfl ?_
    refine TS.y rfl rfl rfl rfl (Y.load szk rfl rfl (fun w h => h.cell (i := 0) rfl hC259)) ?_
    refine TS.p tbk rfl rfl ?_
    refine TS.p tbk rfl rfl ?_
    rw [nat_i64 (a := fin - o) (by omega), add_i64 (a := o) (b := fin - o) (by omega), show o + (fin - o) = fin by omega]
    repeat refine TS.p tbk rfl rfl ?_
    refine TS.nil ?_
    repeat (first | refine za rfl rfl ?_ | refine zb rfl ?_ | refine zc rfl ?_)
    have hi : ifTy r.kind.toNat = 219 := by rw [e]; rfl
    refine T.ret Tryz.func156 rfl (fun w' hA => ⟨(ob, (ob, .row (bodyCells r y.1) 157) :: y.2), by rw [hi]; rfl, ⟨y.1, ?_, ?_⟩, hA.sub (List.Sublist.cons_cons _ (List.Sublist.cons _ (List.Sublist.refl _)))⟩)
    · exact mv_row (hA.sub (M' := (ob, .row (bodyCells r y.1) 157) :: y.2) (List.Sublist.cons_cons _ (List.Sublist.cons _ (List.Sublist.refl _)))).nd (i := 0) rfl (fun j v hj => by rw [Nat.zero_add]; exact hj)
    · exact bodyX_mono (mv_sub (hA.sub (M' := (ob, .row (bodyCells r y.1) 157) :: y.2) (List.Sublist.cons_cons _ (List.Sublist.cons _ (List.Sublist.refl _)))).nd fun p hp => List.mem_cons_of_mem _ hp) hbx
  · have e := congrArg Int.toNat k
    have hlen := fun xv => cells_len hr_ (xv := xv)
    have hone := fun (h : View) (xv : Value) (hx : bodyX h r xv) => cells_one' hr_ hx
    simp only [e] at hlen
    have hty : typeOf r = 16 := by unfold typeOf; rw [e]; rfl
    rw [hty] at hC256
    refine calls_of_T (m := 170) Tryz.func156 rfl rfl (by simp) hS ?_
    repeat (first | refine za rfl rfl ?_ | refine zb rfl ?_ | refine zc rfl ?_)
    refine TL.box (cs := C) rfl rfl rfl rfl (fun xb => ?_)
    repeat (first | refine za rfl rfl ?_ | refine zb rfl ?_ | refine zc rfl ?_)
    refine TL.ld 0 szk rfl rfl rfl hC256 rfl rfl ?_
    repeat (first | refine TL.p tbk rfl ?_ | refine TL.nil ?_ | refine T.seq ?_ | refine T.region ?_ | refine T.skip ?_ | refine T.block ?_ | refine T.inBlock ?_ | refine T.exit rfl ?_ | refine T.condF rfl rfl ?_)
    refine T.condT rfl rfl ?_
    repeat (first | refine za rfl rfl ?_ | refine zb rfl ?_ | refine zc rfl ?_)
    refine TL.allocZ 1 Tryz.zeroValue161 (by kernel_rfl) rfl rfl (fun ob zs hz => ?_)
    repeat (first | refine za rfl rfl ?_ | refine zb rfl ?_ | refine zc rfl ?_)
    refine TL.ld 1 szk rfl rfl rfl hC259 rfl rfl ?_
    refine TL.call0 Tryz.call164 rfl rfl rfl (unTXT r hr_ k b cap B hB hcap o fin hfin hbd) (fun w' hA => hr0 hA) (fun y => TL.and fun hy => ?_)
    refine TL.mono (fun w hA => hA.perm (M' := [(ob, .row zs 161), (xb, .row C 116)] ++ y.2) List.perm_append_comm) ?_
    have hbx := hy
    repeat (first | refine za rfl rfl ?_ | refine zb rfl ?_ | refine zc rfl ?_)
    refine TL.stW (vs := bodyCells r y.1) 0 szk rfl rfl rfl rfl (hlen _) hz (hone _ _ hbx) ?_
    repeat (first | refine za rfl rfl ?_ | refine zb rfl ?_ | refine zc rfl ?_)
    refine T.condF rfl rfl ?_
    repeat (first | refine za rfl rfl ?_ | refine zb rfl ?_ | refine zc rfl ?_)
    refine TS.start [(0, true), (1, true), (2, true), (3, true), (4, true), (5, true), (6, true), (7, true), (8, true)] [(xb, .row C 116)] mixed (by kernel_rfl) (by kernel_rfl) (by decide) (by simp [setN]) ?_
    repeat refine TS.p tbk rfl rfl ?_
    refine TS.y rfl rfl rfl rfl (Y.load szk rfl rfl (fun w h => h.cell (i := 0) rfl hC259)) ?_
    refine TS.p tbk rfl rfl ?_
    refine TS.p tbk rfl rfl ?_
    rw [nat_i64 (a := fin - o) (by omega), add_i64 (a := o) (b := fin - o) (by omega), show o + (fin - o) = fin by omega]
    repeat refine TS.p tbk rfl rfl ?_
    refine TS.nil ?_
    repeat (first | refine za rfl rfl ?_ | refine zb rfl ?_ | refine zc rfl ?_)
    have hi : ifTy r.kind.toNat = 220 := by rw [e]; rfl
    refine T.ret Tryz.func156 rfl (fun w' hA => ⟨(ob, (ob, .row (bodyCells r y.1) 161) :: y.2), by rw [hi]; rfl, ⟨y.1, ?_, ?_⟩, hA.sub (List.Sublist.cons_cons _ (List.Sublist.cons _ (List.Sublist.refl _)))⟩)
    · exact mv_row (hA.sub (M' := (ob, .row (bodyCells r y.1) 161) :: y.2) (List.Sublist.cons_cons _ (List.Sublist.cons _ (List.Sublist.refl _)))).nd (i := 0) rfl (fun j v hj => by rw [Nat.zero_add]; exact hj)
    · exact bodyX_mono (mv_sub (hA.sub (M' := (ob, .row (bodyCells r y.1) 161) :: y.2) (List.Sublist.cons_cons _ (List.Sublist.cons _ (List.Sublist.refl _)))).nd fun p hp => List.mem_cons_of_mem _ hp) hbx
  · have e := congrArg Int.toNat k
    have hlen := fun xv => cells_len hr_ (xv := xv)
    have hone := fun (h : View) (xv : Value) (hx : bodyX h r xv) => cells_one' hr_ hx
    simp only [e] at hlen
    have hty : typeOf r = 28 := by unfold typeOf; rw [e]; rfl
    rw [hty] at hC256
    refine calls_of_T (m := 170) Tryz.func156 rfl rfl (by simp) hS ?_
    repeat (first | refine za rfl rfl ?_ | refine zb rfl ?_ | refine zc rfl ?_)
    refine TL.box (cs := C) rfl rfl rfl rfl (fun xb => ?_)
    repeat (first | refine za rfl rfl ?_ | refine zb rfl ?_ | refine zc rfl ?_)
    refine TL.ld 0 szk rfl rfl rfl hC256 rfl rfl ?_
    repeat (first | refine TL.p tbk rfl ?_ | refine TL.nil ?_ | refine T.seq ?_ | refine T.region ?_ | refine T.skip ?_ | refine T.block ?_ | refine T.inBlock ?_ | refine T.exit rfl ?_ | refine T.condF rfl rfl ?_)
    refine T.condT rfl rfl ?_
    repeat (first | refine za rfl rfl ?_ | refine zb rfl ?_ | refine zc rfl ?_)
    refine TL.allocZ 16 Tryz.zeroValue166 (by kernel_rfl) rfl rfl (fun ob zs hz => ?_)
    repeat (first | refine za rfl rfl ?_ | refine zb rfl ?_ | refine zc rfl ?_)
    refine TL.call0 Tryz.call165 rfl rfl rfl (unAAAA r hr_ k b cap B hB hcap o fin hfin hbd) (fun w' hA => hr0 hA) (fun y => TL.and fun hy => ?_)
    refine TL.mono (fun w hA => hA.perm (M' := [(ob, .row zs 166), (xb, .row C 116)] ++ y.2) List.perm_append_comm) ?_
    have hbx := hy
    repeat (first | refine za rfl rfl ?_ | refine zb rfl ?_ | refine zc rfl ?_)
    refine TL.stW (vs := bodyCells r y.1) 0 szk rfl rfl rfl rfl (hlen _) hz (hone _ _ hbx) ?_
    repeat (first | refine za rfl rfl ?_ | refine zb rfl ?_ | refine zc rfl ?_)
    refine T.condF rfl rfl ?_
    repeat (first | refine za rfl rfl ?_ | refine zb rfl ?_ | refine zc rfl ?_)
    refine TS.start [(0, true), (1, true), (2, true), (3, true), (4, true), (5, true), (6, true), (7, true), (8, true)] [(xb, .row C 116)] mixed (by kernel_rfl) (by kernel_rfl) (by decide) (by simp [setN]) ?_
    repeat refine TS.p tbk rfl rfl ?_
    refine TS.y rfl rfl rfl rfl (Y.load szk rfl rfl (fun w h => h.cell (i := 0) rfl hC259)) ?_
    refine TS.p tbk rfl rfl ?_
    refine TS.p tbk rfl rfl ?_
    rw [nat_i64 (a := fin - o) (by omega), add_i64 (a := o) (b := fin - o) (by omega), show o + (fin - o) = fin by omega]
    repeat refine TS.p tbk rfl rfl ?_
    refine TS.nil ?_
    repeat (first | refine za rfl rfl ?_ | refine zb rfl ?_ | refine zc rfl ?_)
    have hi : ifTy r.kind.toNat = 221 := by rw [e]; rfl
    refine T.ret Tryz.func156 rfl (fun w' hA => ⟨(ob, (ob, .row (bodyCells r y.1) 166) :: y.2), by rw [hi]; rfl, ⟨y.1, ?_, ?_⟩, hA.sub (List.Sublist.cons_cons _ (List.Sublist.cons _ (List.Sublist.refl _)))⟩)
    · exact mv_row (hA.sub (M' := (ob, .row (bodyCells r y.1) 166) :: y.2) (List.Sublist.cons_cons _ (List.Sublist.cons _ (List.Sublist.refl _)))).nd (i := 0) rfl (fun j v hj => by rw [Nat.zero_add]; exact hj)
    · exact bodyX_mono (mv_sub (hA.sub (M' := (ob, .row (bodyCells r y.1) 166) :: y.2) (List.Sublist.cons_cons _ (List.Sublist.cons _ (List.Sublist.refl _)))).nd fun p hp => List.mem_cons_of_mem _ hp) hbx
  · have e := congrArg Int.toNat k
    have hlen := fun xv => cells_len hr_ (xv := xv)
    have hone := fun (h : View) (xv : Value) (hx : bodyX h r xv) => cells_one' hr_ hx
    simp only [e] at hlen
    have hty : typeOf r = 33 := by unfold typeOf; rw [e]; rfl
    rw [hty] at hC256
    refine calls_of_T (m := 170) Tryz.func156 rfl rfl (by simp) hS ?_
    repeat (first | refine za rfl rfl ?_ | refine zb rfl ?_ | refine zc rfl ?_)
    refine TL.box (cs := C) rfl rfl rfl rfl (fun xb => ?_)
    repeat (first | refine za rfl rfl ?_ | refine zb rfl ?_ | refine zc rfl ?_)
    refine TL.ld 0 szk rfl rfl rfl hC256 rfl rfl ?_
    repeat (first | refine TL.p tbk rfl ?_ | refine TL.nil ?_ | refine T.seq ?_ | refine T.region ?_ | refine T.skip ?_ | refine T.block ?_ | refine T.inBlock ?_ | refine T.exit rfl ?_ | refine T.condF rfl rfl ?_)
    refine T.condT rfl rfl ?_
    repeat (first | refine za rfl rfl ?_ | refine zb rfl ?_ | refine zc rfl ?_)
    refine TL.allocZ 259 Tryz.zeroValue170 (by kernel_rfl) rfl rfl (fun ob zs hz => ?_)
    repeat (first | refine za rfl rfl ?_ | refine zb rfl ?_ | refine zc rfl ?_)
    refine TL.call0 Tryz.call166 rfl rfl rfl (unSRV r hr_ k b cap B hB hcap o fin hfin hbd) (fun w' hA => hr0 hA) (fun y => TL.and fun hy => ?_)
    refine TL.mono (fun w hA => hA.perm (M' := [(ob, .row zs 170), (xb, .row C 116)] ++ y.2) List.perm_append_comm) ?_
    have hbx := hy
    repeat (first | refine za rfl rfl ?_ | refine zb rfl ?_ | refine zc rfl ?_)
    refine TL.stW (vs := bodyCells r y.1) 0 szk rfl rfl rfl rfl (hlen _) hz (hone _ _ hbx) ?_
    repeat (first | refine za rfl rfl ?_ | refine zb rfl ?_ | refine zc rfl ?_)
    refine T.condF rfl rfl ?_
    repeat (first | refine za rfl rfl ?_ | refine zb rfl ?_ | refine zc rfl ?_)
    refine TS.start [(0, true), (1, true), (2, true), (3, true), (4, true), (5, true), (6, true), (7, true), (8, true)] [(xb, .row C 116)] mixed (by kernel_rfl) (by kernel_rfl) (by decide) (by simp [setN]) ?_
    repeat refine TS.p tbk rfl rfl ?_
    refine TS.y rfl rfl rfl rfl (Y.load szk rfl rfl (fun w h => h.cell (i := 0) rfl hC259)) ?_
    refine TS.p tbk rfl rfl ?_
    refine TS.p tbk rfl rfl ?_
    rw [nat_i64 (a := fin - o) (by omega), add_i64 (a := o) (b := fin - o) (by omega), show o + (fin - o) = fin by omega]
    repeat refine TS.p tbk rfl rfl ?_
    refine TS.nil ?_
    repeat (first | refine za rfl rfl ?_ | refine zb rfl ?_ | refine zc rfl ?_)
    have hi : ifTy r.kind.toNat = 222 := by rw [e]; rfl
    refine T.ret Tryz.func156 rfl (fun w' hA => ⟨(ob, (ob, .row (bodyCells r y.1) 170) :: y.2), by rw [hi]; rfl, ⟨y.1, ?_, ?_⟩, hA.sub (List.Sublist.cons_cons _ (List.Sublist.cons _ (List.Sublist.refl _)))⟩)
    · exact mv_row (hA.sub (M' := (ob, .row (bodyCells r y.1) 170) :: y.2) (List.Sublist.cons_cons _ (List.Sublist.cons _ (List.Sublist.refl _)))).nd (i := 0) rfl (fun j v hj => by rw [Nat.zero_add]; exact hj)
    · exact bodyX_mono (mv_sub (hA.sub (M' := (ob, .row (bodyCells r y.1) 170) :: y.2) (List.Sublist.cons_cons _ (List.Sublist.cons _ (List.Sublist.refl _)))).nd fun p hp => List.mem_cons_of_mem _ hp) hbx
  · have e := congrArg Int.toNat k
    have hlen := fun xv => cells_len hr_ (xv := xv)
    have hone := fun (h : View) (xv : Value) (hx : bodyX h r xv) => cells_one' hr_ hx
    simp only [e] at hlen
    have hty : typeOf r = 41 := by unfold typeOf; rw [e]; rfl
    rw [hty] at hC256
    refine calls_of_T (m := 170) Tryz.func156 rfl rfl (by simp) hS ?_
    repeat (first | refine za rfl rfl ?_ | refine zb rfl ?_ | refine zc rfl ?_)
    refine TL.box (cs := C) rfl rfl rfl rfl (fun xb => ?_)
    repeat (first | refine za rfl rfl ?_ | refine zb rfl ?_ | refine zc rfl ?_)
    refine TL.ld 0 szk rfl rfl rfl hC256 rfl rfl ?_
    repeat (first | refine TL.p tbk rfl ?_ | refine TL.nil ?_ | refine T.seq ?_ | refine T.region ?_ | refine T.skip ?_ | refine T.block ?_ | refine T.inBlock ?_ | refine T.exit rfl ?_ | refine T.condF rfl rfl ?_)
    refine T.condT rfl rfl ?_
    repeat (first | refine za rfl rfl ?_ | refine zb rfl ?_ | refine zc rfl ?_)
    refine TL.allocZ 1 Tryz.zeroValue175 (by kernel_rfl) rfl rfl (fun ob zs hz => ?_)
    repeat (first | refine za rfl rfl ?_ | refine zb rfl ?_ | refine zc rfl ?_)
    refine TL.ld 1 szk rfl rfl rfl hC259 rfl rfl ?_
    refine TL.call0 Tryz.call168 rfl rfl rfl (unOPT r hr_ k b cap B hB hcap o fin hfin hbd) (fun w' hA => hr0 hA) (fun y => TL.and fun hy => ?_)
    refine TL.mono (fun w hA => hA.perm (M' := [(ob, .row zs 175), (xb, .row C 116)] ++ y.2) List.perm_append_comm) ?_
    have hbx := hy
    repeat (first | refine za rfl rfl ?_ | refine zb rfl ?_ | refine zc rfl ?_)
    refine TL.stW (vs := bodyCells r y.1) 0 szk rfl rfl rfl rfl (hlen _) hz (hone _ _ hbx) ?_
    repeat (first | refine za rfl rfl ?_ | refine zb rfl ?_ | refine zc rfl ?_)
    refine T.condF rfl rfl ?_
    repeat (first | refine za rfl rfl ?_ | refine zb rfl ?_ | refine zc rfl ?_)
    refine TS.start [(0, true), (1, true), (2, true), (3, true), (4, true), (5, true), (6, true), (7, true), (8, true)] [(xb, .row C 116)] mixed (by kernel_rfl) (by kernel_rfl) (by decide) (by simp [setN]) ?_
    repeat refine TS.p tbk rfl rfl ?_
    refine TS.y rfl rfl rfl rfl (Y.load szk rfl rfl (fun w h => h.cell (i := 0) rfl hC259)) ?_
    refine TS.p tbk rfl rfl ?_
    refine TS.p tbk rfl rfl ?_
    rw [nat_i64 (a := fin - o) (by omega), add_i64 (a := o) (b := fin - o) (by omega), show o + (fin - o) = fin by omega]
    repeat refine TS.p tbk rfl rfl ?_
    refine TS.nil ?_
    repeat (first | refine za rfl rfl ?_ | refine zb rfl ?_ | refine zc rfl ?_)
    have hi : ifTy r.kind.toNat = 223 := by rw [e]; rfl
    refine T.ret Tryz.func156 rfl (fun w' hA => ⟨(ob, (ob, .row (bodyCells r y.1) 175) :: y.2), by rw [hi]; rfl, ⟨y.1, ?_, ?_⟩, hA.sub (List.Sublist.cons_cons _ (List.Sublist.cons _ (List.Sublist.refl _)))⟩)
    · exact mv_row (hA.sub (M' := (ob, .row (bodyCells r y.1) 175) :: y.2) (List.Sublist.cons_cons _ (List.Sublist.cons _ (List.Sublist.refl _)))).nd (i := 0) rfl (fun j v hj => by rw [Nat.zero_add]; exact hj)
    · exact bodyX_mono (mv_sub (hA.sub (M' := (ob, .row (bodyCells r y.1) 175) :: y.2) (List.Sublist.cons_cons _ (List.Sublist.cons _ (List.Sublist.refl _)))).nd fun p hp => List.mem_cons_of_mem _ hp) hbx
  · have e := congrArg Int.toNat k
    have hlen := fun xv => cells_len hr_ (xv := xv)
    have hone := fun (h : View) (xv : Value) (hx : bodyX h r xv) => cells_one' hr_ hx
    simp only [e] at hlen
    have hty : typeOf r = 64 := by unfold typeOf; rw [e]; rfl
    rw [hty] at hC256
    refine calls_of_T (m := 170) Tryz.func156 rfl rfl (by simp) hS ?_
    repeat (first | refine za rfl rfl ?_ | refine zb rfl ?_ | refine zc rfl ?_)
    refine TL.box (cs := C) rfl rfl rfl rfl (fun xb => ?_)
    repeat (first | refine za rfl rfl ?_ | refine zb rfl ?_ | refine zc rfl ?_)
    refine TL.ld 0 szk rfl rfl rfl hC256 rfl rfl ?_
    repeat (first | refine TL.p tbk rfl ?_ | refine TL.nil ?_ | refine T.seq ?_ | refine T.region ?_ | refine T.skip ?_ | refine T.block ?_ | refine T.inBlock ?_ | refine T.exit rfl ?_ | refine T.condF rfl rfl ?_)
    refine T.condT rfl rfl ?_
    repeat (first | refine za rfl rfl ?_ | refine zb rfl ?_ | refine zc rfl ?_)
    refine TL.allocZ 258 Tryz.zeroValue180 (by kernel_rfl) rfl rfl (fun ob zs hz => ?_)
    repeat (first | refine za rfl rfl ?_ | refine zb rfl ?_ | refine zc rfl ?_)
    refine TL.ld 1 szk rfl rfl rfl hC259 rfl rfl ?_
    refine TL.call0 Tryz.call167 rfl rfl rfl (unSVCB r hr_ (.inl k) b cap B hB hcap o fin hfin hle hbd) (fun w' hA => hr0 hA) (fun y => TL.and fun hy => ?_)
    refine TL.mono (fun w hA => hA.perm (M' := [(ob, .row zs 180), (xb, .row C 116)] ++ y.2) List.perm_append_comm) ?_
    have hbc : svRow (r.n1 % 65536) r.host y.1 = bodyCells r y.1 := by simp only [bodyCells, e]; rfl
    have hbx : bodyX (mv y.2) r y.1 := by simp only [bodyX, e]; exact hy
    simp only [hbc]
    clear hbc
    repeat (first | refine za rfl rfl ?_ | refine zb rfl ?_ | refine zc rfl ?_)
    refine TL.stW (vs := bodyCells r y.1) 0 szk rfl rfl rfl rfl (hlen _) hz (hone _ _ hbx) ?_
    repeat (first | refine za rfl rfl ?_ | refine zb rfl ?_ | refine zc rfl ?_)
    refine T.condF rfl rfl ?_
    repeat (first | refine za rfl rfl ?_ | refine zb rfl ?_ | refine zc rfl ?_)
    refine TS.start [(0, true), (1, true), (2, true), (3, true), (4, true), (5, true), (6, true), (7, true), (8, true)] [(xb, .row C 116)] mixed (by kernel_rfl) (by kernel_rfl) (by decide) (by simp [setN]) ?_
    repeat refine TS.p tbk rfl rfl ?_
    refine TS.y rfl rfl rfl rfl (Y.load szk rfl rfl (fun w h => h.cell (i := 0) rfl hC259)) ?_
    refine TS.p tbk rfl rfl ?_
    refine TS.p tbk rfl rfl ?_
    rw [nat_i64 (a := fin - o) (by omega), add_i64 (a := o) (b := fin - o) (by omega), show o + (fin - o) = fin by omega]
    repeat refine TS.p tbk rfl rfl ?_
    refine TS.nil ?_
    repeat (first | refine za rfl rfl ?_ | refine zb rfl ?_ | refine zc rfl ?_)
    have hi : ifTy r.kind.toNat = 224 := by rw [e]; rfl
    refine T.ret Tryz.func156 rfl (fun w' hA => ⟨(ob, (ob, .row (bodyCells r y.1) 180) :: y.2), by rw [hi]; rfl, ⟨y.1, ?_, ?_⟩, hA.sub (List.Sublist.cons_cons _ (List.Sublist.cons _ (List.Sublist.refl _)))⟩)
    · exact mv_row (hA.sub (M' := (ob, .row (bodyCells r y.1) 180) :: y.2) (List.Sublist.cons_cons _ (List.Sublist.cons _ (List.Sublist.refl _)))).nd (i := 0) rfl (fun j v hj => by rw [Nat.zero_add]; exact hj)
    · exact bodyX_mono (mv_sub (hA.sub (M' := (ob, .row (bodyCells r y.1) 180) :: y.2) (List.Sublist.cons_cons _ (List.Sublist.cons _ (List.Sublist.refl _)))).nd fun p hp => List.mem_cons_of_mem _ hp) hbx
  · have e := congrArg Int.toNat k
    have hlen := fun xv => cells_len hr_ (xv := xv)
    have hone := fun (h : View) (xv : Value) (hx : bodyX h r xv) => cells_one' hr_ hx
    simp only [e] at hlen
    have hty : typeOf r = 65 := by unfold typeOf; rw [e]; rfl
    rw [hty] at hC256
    refine calls_of_T (m := 170) Tryz.func156 rfl rfl (by simp) hS ?_
    repeat (first | refine za rfl rfl ?_ | refine zb rfl ?_ | refine zc rfl ?_)
    refine TL.box (cs := C) rfl rfl rfl rfl (fun xb => ?_)
    repeat (first | refine za rfl rfl ?_ | refine zb rfl ?_ | refine zc rfl ?_)
    refine TL.ld 0 szk rfl rfl rfl hC256 rfl rfl ?_
    repeat (first | refine TL.p tbk rfl ?_ | refine TL.nil ?_ | refine T.seq ?_ | refine T.region ?_ | refine T.skip ?_ | refine T.block ?_ | refine T.inBlock ?_ | refine T.exit rfl ?_ | refine T.condF rfl rfl ?_)
    refine T.condT rfl rfl ?_
    repeat (first | refine za rfl rfl ?_ | refine zb rfl ?_ | refine zc rfl ?_)
    refine TL.allocZ 258 Tryz.zeroValue184 (by kernel_rfl) rfl rfl (fun ob zs hz => ?_)
    repeat (first | refine za rfl rfl ?_ | refine zb rfl ?_ | refine zc rfl ?_)
    refine TL.ld 1 szk rfl rfl rfl hC259 rfl rfl ?_
    refine TL.call0 Tryz.call167 rfl rfl rfl (unSVCB r hr_ (.inr k) b cap B hB hcap o fin hfin hle hbd) (fun w' hA => hr0 hA) (fun y => TL.and fun hy => ?_)
    refine TL.mono (fun w hA => hA.perm (M' := [(ob, .row zs 184), (xb, .row C 116)] ++ y.2) List.perm_append_comm) ?_
    have hbc : svRow (r.n1 % 65536) r.host y.1 = bodyCells r y.1 := by simp only [bodyCells, e]; rfl
    have hbx : bodyX (mv y.2) r y.1 := by simp only [bodyX, e]; exact hy
    simp only [hbc]
    clear hbc
    repeat (first | refine za rfl rfl ?_ | refine zb rfl ?_ | refine zc rfl ?_)
    refine TL.stW (vs := bodyCells r y.1) 0 szk rfl rfl rfl rfl (hlen _) hz (hone _ _ hbx) ?_
    repeat (first | refine za rfl rfl ?_ | refine zb rfl ?_ | refine zc rfl ?_)
    refine T.condF rfl rfl ?_
    repeat (first | refine za rfl rfl ?_ | refine zb rfl ?_ | refine zc rfl ?_)
    refine TS.start [(0, true), (1, true), (2, true), (3, true), (4, true), (5, true), (6, true), (7, true), (8, true)] [(xb, .row C 116)] mixed (by kernel_rfl) (by kernel_rfl) (by decide) (by simp [setN]) ?_
    repeat refine TS.p tbk rfl rfl ?_
    refine TS.y rfl rfl rfl rfl (Y.load szk rfl rfl (fun w h => h.cell (i := 0) rfl hC259)) ?_
    refine TS.p tbk rfl rfl ?_
    refine TS.p tbk rfl rfl ?_
    rw [nat_i64 (a := fin - o) (by omega), add_i64 (a := o) (b := fin - o) (by omega), show o + (fin - o) = fin by omega]
    repeat refine TS.p tbk rfl rfl ?_
    refine TS.nil ?_
    repeat (first | refine za rfl rfl ?_ | refine zb rfl ?_ | refine zc rfl ?_)
    have hi : ifTy r.kind.toNat = 225 := by rw [e]; rfl
    refine T.ret Tryz.func156 rfl (fun w' hA => ⟨(ob, (ob, .row (bodyCells r y.1) 184) :: y.2), by rw [hi]; rfl, ⟨y.1, ?_, ?_⟩, hA.sub (List.Sublist.cons_cons _ (List.Sublist.cons _ (List.Sublist.refl _)))⟩)
    · exact mv_row (hA.sub (M' := (ob, .row (bodyCells r y.1) 184) :: y.2) (List.Sublist.cons_cons _ (List.Sublist.cons _ (List.Sublist.refl _)))).nd (i := 0) rfl (fun j v hj => by rw [Nat.zero_add]; exact hj)
    · exact bodyX_mono (mv_sub (hA.sub (M' := (ob, .row (bodyCells r y.1) 184) :: y.2) (List.Sublist.cons_cons _ (List.Sublist.cons _ (List.Sublist.refl _)))).nd fun p hp => List.mem_cons_of_mem _ hp) hbx
  · have e := congrArg Int.toNat k
    have hlen := fun xv => cells_len hr_ (xv := xv)
    have hone := fun (h : View) (xv : Value) (hx : bodyX h r xv) => cells_one' hr_ hx
    simp only [e] at hlen
    have hty : typeOf r = r.typ := by unfold typeOf; rw [e]; rfl
    rw [hty] at hC256
    have ht := htyp k
    simp only [List.mem_cons, List.not_mem_nil, or_false, not_or] at ht
    obtain ⟨t1, t2, t3, t4, t5, t6, t7, t8, t9, t10, t11, t12⟩ := ht
    refine calls_of_T (m := 170) Tryz.func156 rfl rfl (by simp) hS ?_
    repeat (first | refine za rfl rfl ?_ | refine zb rfl ?_ | refine zc rfl ?_)
    refine TL.box (cs := C) rfl rfl rfl rfl (fun xb => ?_)
    repeat (first | refine za rfl rfl ?_ | refine zb rfl ?_ | refine zc rfl ?_)
    refine TL.ld 0 szk rfl rfl rfl hC256 rfl rfl ?_
    repeat (first | refine TL.p tbk rfl ?_ | refine TL.nil ?_ | refine T.seq ?_ | refine T.region ?_ | refine T.skip ?_ | refine T.block ?_ | refine T.inBlock ?_ | refine T.exit rfl ?_ | refine T.condF rfl (by simp; omega) ?_)
    refine TL.allocZ 2 Tryz.zeroValue188 (by kernel_rfl) rfl rfl (fun ob zs hz => ?_)
    repeat (first | refine za rfl rfl ?_ | refine zb rfl ?_ | refine zc rfl ?_)
    refine TL.ld 1 szk rfl rfl rfl hC256 rfl rfl ?_
    repeat (first | refine za rfl rfl ?_ | refine zb rfl ?_ | refine zc rfl ?_)
    refine TL.ld 1 szk rfl rfl rfl hC259 rfl rfl ?_
    refine TL.call0 Tryz.call169 rfl rfl rfl (unUnknown r hr_ k b cap B hB hcap o fin hfin hbd) (fun w' hA => hr0 hA) (fun y => TL.and fun hy => ?_)
    refine TL.mono (fun w hA => hA.perm (M' := [(ob, .row zs 188), (xb, .row C 116)] ++ y.2) List.perm_append_comm) ?_
    have hbx := hy
    repeat (first | refine za rfl rfl ?_ | refine zb rfl ?_ | refine zc rfl ?_)
    refine TL.stW (vs := bodyCells r y.1) 0 szk rfl rfl rfl rfl (hlen _) hz (hone _ _ hbx) ?_
    repeat (first | refine za rfl rfl ?_ | refine zb rfl ?_ | refine zc rfl ?_)
    refine T.condF rfl rfl ?_
    repeat (first | refine za rfl rfl ?_ | refine zb rfl ?_ | refine zc rfl ?_)
    refine TS.start [(0, true), (1, true), (2, true), (3, true), (4, true), (5, true), (6, true), (7, true), (8, true)] [(xb, .row C 116)] mixed (by kernel_rfl) (by kernel_rfl) (by decide) (by simp [setN]) ?_
    repeat refine TS.p tbk rfl rfl ?_
    refine TS.y rfl rfl rfl rfl (Y.load szk rfl rfl (fun w h => h.cell (i := 0) rfl hC259)) ?_
    refine TS.p tbk rfl rfl ?_
    refine TS.p tbk rfl rfl ?_
    rw [nat_i64 (a := fin - o) (by omega), add_i64 (a := o) (b := fin - o) (by omega), show o + (fin - o) = fin by omega]
    repeat refine TS.p tbk rfl rfl ?_
    refine TS.nil ?_
    repeat (first | refine za rfl rfl ?_ | refine zb rfl ?_ | refine zc rfl ?_)
    have hi : ifTy r.kind.toNat = 226 := by rw [e]; rfl
    refine T.ret Tryz.func156 rfl (fun w' hA => ⟨(ob, (ob, .row (bodyCells r y.1) 188) :: y.2), by rw [hi]; rfl, ⟨y.1, ?_, ?_⟩, hA.sub (List.Sublist.cons_cons _ (List.Sublist.cons _ (List.Sublist.refl _)))⟩)
    · exact mv_row (hA.sub (M' := (ob, .row (bodyCells r y.1) 188) :: y.2) (List.Sublist.cons_cons _ (List.Sublist.cons _ (List.Sublist.refl _)))).nd (i := 0) rfl (fun j v hj => by rw [Nat.zero_add]; exact hj)
    · exact bodyX_mono (mv_sub (hA.sub (M' := (ob, .row (bodyCells r y.1) 188) :: y.2) (List.Sublist.cons_cons _ (List.Sublist.cons _ (List.Sublist.refl _)))).nd fun p hp => List.mem_cons_of_mem _ hp) hbx
end X
end Go.Proofs.YtifnodoffgfpbaaGreatDoor
