/- Texts U6, U7, U8, U9. Contracts: questions are unpacked. -/
import Derived.Test.YtifnodoffgfpbaaGreatDoorPam
namespace Go.Proofs.YtifnodoffgfpbaaGreatDoor
open Go
namespace X
def z258 : List Value := zs256 ++ [.int .u16 0, .int .u16 0]
theorem z258_length : z258.length = 258 := by rw [z258, List.length_append, zs256_length]; rfl
theorem build79z : ∀ w, (Instr.build 79 (#[] : Array (Nat × Value))).run Tryz.prog w = .ok (.agg z258.toArray) w := by intro w; kernel_rfl
theorem zs256_one : ∀ v ∈ zs256, v.oneCell' = true := by intro v hv; rw [List.eq_of_mem_replicate hv]; rfl
theorem z258_one : ∀ v ∈ z258, v.oneCell' = true := one_app zs256_one (by simp [Value.oneCell'])
theorem splice_name {s : Bs} (h : s.length ≤ 255) : splice zs256 0 (nameCells s) = nameCells s := splice_all (by rw [zs256_length, nameCells_length h])
theorem questionMore (pb b cap : Nat) (B : Bs) (hB : B.length ≤ 1000000) (hcap : B.length ≤ cap) (h : Bh) (off idx ro rt rl : Nat) (vl : Bool) (hc : h.n1 < 65536) (hi : idx < h.n1) (a : Ak) (ha : a.Ok) (fin : Nat) (hask : AskAt (kn B H0) a off fin) :
    Ct (β := Unit) Tryz.prog 138 [ptr pb 0] [(pb, .row (pC (msl b cap B) h 2 off idx vl ro rt rl) 191)] (fun w => MB (view [pb] w) b B) (fun _ => .tuple #[.agg (qCells a.name a.typ a.cls).toArray, .nilIface]) (fun _ _ => True)
      (fun _ => [(pb, .row (pC (msl b cap B) h 2 fin (idx + 1) false ro rt rl) 191)]) := by
  intro w hS hr
  obtain ⟨o1, hn, hb, hfin⟩ := hask
  have h255 : a.name.length ≤ 255 := by have := ha.name.len; omega
  have hnl := nameCells_length h255
  have hb2 := BytesAt.append.1 hb
  rw [w2_length] at hb2
  refine calls_of_T (m := 84) Tryz.func138 rfl rfl (by simp) hS ?_
  repeat (first | refine za rfl rfl ?_ | refine zb rfl ?_ | refine zc rfl ?_)
  refine TL.allocZ 258 Tryz.zeroValue79 (by kernel_rfl) rfl rfl (fun rb zs hz => ?_)
  repeat (first | refine za rfl rfl ?_ | refine zb rfl ?_ | refine zc rfl ?_)
  refine TL.call1 1 Tryz.call149 rfl rfl rfl rfl (checkMore pb (msl b cap B) h 2 off idx vl ro rt rl (by decide) (by decide) hc hi) (fun _ _ => trivial) (fun _ => TL.and fun _ => ?_)
  repeat (first | refine za rfl rfl ?_ | refine zb rfl ?_ | refine zc rfl ?_)
  refine T.condF rfl rfl ?_
  repeat (first | refine za rfl rfl ?_ | refine zb rfl ?_ | refine zc rfl ?_)
  refine TL.alloc (cs := zs256) zero75 rfl rfl rfl (fun nb => ?_)
  repeat (first | refine za rfl rfl ?_ | refine zb rfl ?_ | refine zc rfl ?_)
  refine TS.start [(0, true), (1, true), (2, true), (3, true), (4, true), (5, true), (6, true), (7, true), (8, false), (9, true), (10, true), (11, true), (12, true), (13, true)] [(pb, .row (pC (msl b cap B) h 2 off idx false ro rt rl) 191)] mixed (by kernel_rfl) (by kernel_rfl) (by decide) (by simp [setN]) ?_
  repeat refine TS.p tbk rfl rfl ?_
  refine TS.y rfl rfl rfl rfl (Y.load szk rfl rfl (fun w h => h.cell (i := 0) rfl rfl)) ?_
  repeat refine TS.p tbk rfl rfl ?_
  refine TS.y rfl rfl rfl rfl (Y.load szk rfl rfl (fun w h => h.cell (i := 0) rfl rfl)) ?_
  refine TS.call1 0 rfl Tryz.call150 rfl rfl rfl rfl (nameUnpack nb 0 zs256 75 (fun j v hj => by rw [Nat.zero_add]; exact hj) (by rw [zs256_length]; exact Nat.le_refl _) b cap B hB hcap off a.name ha.name o1 hn) (fun w' hA => hr.mono (st_viewLe hA (Mc := [(nb, .row zs256 75)]) fun _ hp => by simp at hp; subst hp; simp)) (fun _ => by simp [setN]) (fun _ => TS.and fun _ => ?_)
  repeat refine TS.p tbk rfl rfl ?_
  refine TS.nil ?_
  rw [splice_name h255]
  repeat (first | refine za rfl rfl ?_ | refine zb rfl ?_ | refine zc rfl ?_)
  refine T.condF rfl rfl ?_
  repeat (first | refine za rfl rfl ?_ | refine zb rfl ?_ | refine zc rfl ?_)
  refine TL.ld 2 szk rfl rfl rfl rfl rfl rfl ?_
  repeat (first | refine za rfl rfl ?_ | refine zb rfl ?_ | refine zc rfl ?_)
  refine TL.call0 Tryz.call151 rfl rfl rfl (unpackType b cap B o1 a.typ ha.num.typ hB hb2.1) (fun w' hA => hr.mono (st_viewLe hA (Mc := []) fun _ hp => by cases hp)) (fun _ => TL.and fun _ => ?_)
  repeat (first | refine za rfl rfl ?_ | refine zb rfl ?_ | refine zc rfl ?_)
  refine T.condF rfl rfl ?_
  repeat (first | refine za rfl rfl ?_ | refine zb rfl ?_ | refine zc rfl ?_)
  refine TL.ld 2 szk rfl rfl rfl rfl rfl rfl ?_
  repeat (first | refine za rfl rfl ?_ | refine zb rfl ?_ | refine zc rfl ?_)
  refine TL.call0 Tryz.call152 rfl rfl rfl (unpackClass b cap B (o1 + 2) a.cls ha.num.cls hB hb2.2) (fun w' hA => hr.mono (st_viewLe hA (Mc := []) fun _ hp => by cases hp)) (fun _ => TL.and fun _ => ?_)
  repeat (first | refine za rfl rfl ?_ | refine zb rfl ?_ | refine zc rfl ?_)
  refine T.condF rfl rfl ?_
  repeat (first | refine za rfl rfl ?_ | refine zb rfl ?_ | refine zc rfl ?_)
  refine TL.st 2 szk rfl rfl rfl rfl rfl rfl ?_
  repeat (first | refine za rfl rfl ?_ | refine zb rfl ?_ | refine zc rfl ?_)
  refine TL.ld 2 szk rfl rfl rfl rfl rfl rfl ?_
  repeat (first | refine za rfl rfl ?_ | refine zb rfl ?_ | refine zc rfl ?_)
  rw [add1_i64 (a := idx) (by omega)]
  refine TL.st 2 szk rfl rfl rfl rfl rfl rfl ?_
  repeat (first | refine za rfl rfl ?_ | refine zb rfl ?_ | refine zc rfl ?_)
  refine TL.ldW 0 szk rfl rfl rfl hnl rfl rfl ?_
  repeat (first | refine za rfl rfl ?_ | refine zb rfl ?_ | refine zc rfl ?_)
  have hfl : flatC [.agg (nameCells a.name).toArray, .int .u16 (a.typ : Int), .int .u16 (a.cls : Int)] = qCells a.name a.typ a.cls := flat_name _ (by simp [Value.oneCell'])
  have hbu := build_seq (vs := [.agg (nameCells a.name).toArray, .int .u16 (a.typ : Int), .int .u16 (a.cls : Int)]) pl79 (by simp [contig, Value.cells, hnl]) (by rw [hfl, qCells_length h255])
  rw [hfl] at hbu
  refine TL.build (pv := partsFrom 0 [.agg (nameCells a.name).toArray, .int .u16 (a.typ : Int), .int .u16 (a.cls : Int)]) rfl rfl rfl hbu ?_
  refine TL.stW (vs := qCells a.name a.typ a.cls) 1 szk rfl rfl rfl rfl (qCells_length h255) hz qCells_one ?_
  repeat (first | refine za rfl rfl ?_ | refine zb rfl ?_ | refine zc rfl ?_)
  refine T.retG Tryz.func138 (.cons (RV.cellW 1 szk rfl rfl rfl (qCells_length h255)) (.cons (RV.tmp rfl) .nil)) (fun w hA => ⟨(), rfl, trivial, ?_⟩)
  rw [hfin]
  exact hA.sub (List.Sublist.cons _ (List.Sublist.cons _ (List.Sublist.refl _)))
theorem questionDone (pb b cap : Nat) (B : Bs) (h : Bh) (off ro rt rl : Nat) (vl : Bool) (hc : h.n1 < 65536) (gu : TypeId) (gv : Value) :
    Ct (β := Unit) Tryz.prog 138 [ptr pb 0] [(pb, .row (pC (msl b cap B) h 2 off h.n1 vl ro rt rl) 191)] (fun w => RowAt (view [pb] w) 5 0 [.iface gu gv]) (fun _ => .tuple #[.agg z258.toArray, .iface gu gv]) (fun _ _ => True)
      (fun _ => [(pb, .row (pC (msl b cap B) h 3 off 0 false ro rt rl) 191)]) := by
  intro w hS hg
  refine calls_of_T (m := 84) Tryz.func138 rfl rfl (by simp) hS ?_
  repeat (first | refine za rfl rfl ?_ | refine zb rfl ?_ | refine zc rfl ?_)
  refine TL.allocZ 258 Tryz.zeroValue79 (by kernel_rfl) rfl rfl (fun rb zs hz => ?_)
  repeat (first | refine za rfl rfl ?_ | refine zb rfl ?_ | refine zc rfl ?_)
  refine TL.call1 1 Tryz.call149 rfl rfl rfl rfl (checkDone pb (msl b cap B) h 2 off vl ro rt rl (by decide) (by decide) hc gu gv) (fun w' hA => hg.mono (st_viewLe hA (Mc := [(pb, .row (pC (msl b cap B) h 2 off (h.cnt 2) vl ro rt rl) 191)]) fun _ hp => by simp at hp; subst hp; simp [Bh.cnt])) (fun _ => TL.and fun _ => ?_)
  repeat (first | refine za rfl rfl ?_ | refine zb rfl ?_ | refine zc rfl ?_)
  refine T.condT rfl rfl ?_
  repeat (first | refine za rfl rfl ?_ | refine zb rfl ?_ | refine zc rfl ?_)
  refine TL.build (v := .agg z258.toArray) rfl rfl rfl build79z ?_
  repeat (first | refine za rfl rfl ?_ | refine zb rfl ?_ | refine zc rfl ?_)
  refine TL.stW (vs := z258) 0 szk rfl rfl rfl rfl z258_length hz z258_one ?_
  repeat (first | refine za rfl rfl ?_ | refine zb rfl ?_ | refine zc rfl ?_)
  exact T.retG Tryz.func138 (.cons (RV.cellW 0 szk rfl rfl rfl z258_length) (.cons (RV.tmp rfl) .nil)) (fun w hA => ⟨(), rfl, trivial, hA.sub (List.Sublist.cons _ (List.Sublist.refl _))⟩)
structure QY where
  i : Nat
  off : Nat
  b : Nat
  cs : List Value
  cap : Nat
  xs : List Value
  vl : Bool
theorem allQuestions (pb b cap : Nat) (B : Bs) (hB : B.length ≤ 1000000) (hcap : B.length ≤ cap) (h : Bh) (asks : List Ak) (hok : ∀ a ∈ asks, a.Ok) (hn : h.n1 = asks.length) (hlen : asks.length ≤ 40) (o0 f0 : Nat) (hA0 : AsksAt (kn B H0) asks o0 f0) :
    Ct (β := QY) Tryz.prog 85 [ptr pb 0] [(pb, .row (pC (msl b cap B) h 2 o0 0 false 0 0 0) 191)] (fun w => MB (view [pb] w) b B ∧ Glob7 (view [pb] w)) (fun y => .tuple #[.slice (some ⟨y.b, 0, none⟩) asks.length y.cap, .nilIface])
      (fun y _ => Own y.cs asks.length y.cap 258 y.xs ∧ ∀ j a, nth asks j = some a → ∀ k v, nth (qCells a.name a.typ a.cls) k = some v → nth y.xs (j * 258 + k) = some v)
      (fun y => [(pb, .row (pC (msl b cap B) h 3 f0 0 false 0 0 0) 191), (y.b, .row y.cs 79)]) := by
  intro w hS ⟨hr, _, gu, gv, hg, heq⟩
  refine calls_of_T (m := 24) Tryz.func85 rfl rfl (by simp) hS ?_
  repeat (first | refine za rfl rfl ?_ | refine zb rfl ?_ | refine zc rfl ?_)
  refine TL.bs0 el70 rfl rfl (fun qb0 => ?_)
  repeat (first | refine za rfl rfl ?_ | refine zb rfl ?_ | refine zc rfl ?_)
  refine T.loop (α := QY) (fun x => [(0, ptr pb 0), (4, .slice (some ⟨x.b, 0, none⟩) x.i x.cap)])
    (fun x w' => (x.i ≤ asks.length ∧ AsksAt (kn B H0) (asks.drop x.i) x.off f0 ∧ Own x.cs x.i x.cap 258 x.xs ∧ ∀ j a, j < x.i → nth asks j = some a → ∀ k v, nth (qCells a.name a.typ a.cls) k = some v → nth x.xs (j * 258 + k) = some v) ∧
      St (keys [(pb, .row (pC (msl b cap B) h 2 o0 0 false 0 0 0) 191)]) w [(x.b, .row x.cs 79), (pb, .row (pC (msl b cap B) h 2 x.off x.i false 0 0 0) 191)] w')
    (fun x => asks.length - x.i) ⟨0, o0, qb0, [], 0, [], false⟩ ⟨rfl, rfl, trivial⟩ (fun w' hA => ⟨⟨Nat.zero_le _, hA0, own0 258, fun j a hj => (Nat.not_lt_zero _ hj).elim⟩, hA⟩) ?_
  rintro ⟨i, off, qb, qcs, qcap, xs, vl⟩ ih
  refine T.and fun ⟨hi, hat, hown, hall⟩ => ?_
  simp only at hi hat hown hall
  have hxl := hown.length
  repeat (first | refine za rfl rfl ?_ | refine zb rfl ?_ | refine zc rfl ?_)
  by_cases hlt : i < asks.length
  · obtain ⟨a, ha⟩ := nth_lt hlt
    have hd : asks.drop i = a :: asks.drop (i + 1) := by
      rw [nth_eq, List.getElem?_eq_getElem hlt] at ha
      simp only [Option.some.injEq] at ha
      rw [List.drop_eq_getElem_cons hlt, ha]
    have haok := hok a (nth_mem ha)
    have h255 : a.name.length ≤ 255 := by have := haok.name.len; omega
    rw [hd] at hat
    cases hat with
    | @cons _ _ _ m1 _ h1 h2 =>
      refine TL.call1 1 Tryz.call138 rfl rfl rfl rfl (questionMore pb b cap B hB hcap h off i 0 0 0 false (by omega) (by omega) a haok m1 h1) (fun w' hA => hr.mono (st_viewLe hA (Mc := [(pb, .row (pC (msl b cap B) h 2 off i false 0 0 0) 191)]) fun _ hp => by simp at hp; subst hp; simp)) (fun _ => TL.and fun _ => ?_)
      repeat (first | refine za rfl rfl ?_ | refine zb rfl ?_ | refine zc rfl ?_)
      refine TL.allocZ 258 Tryz.zeroValue79 (by kernel_rfl) rfl rfl (fun lb zs hz => ?_)
      refine TL.stW (vs := qCells a.name a.typ a.cls) 0 szk rfl rfl rfl rfl (qCells_length h255) hz qCells_one ?_
      repeat (first | refine za rfl rfl ?_ | refine zb rfl ?_ | refine zc rfl ?_)
      refine TL.ldR hg szk rfl rfl rfl rfl ?_
      repeat (first | refine za rfl rfl ?_ | refine zb rfl ?_ | refine zc rfl ?_)
      refine T.condF rfl rfl ?_
      repeat (first | refine za rfl rfl ?_ | refine zb rfl ?_ | refine zc rfl ?_)
      refine T.condF rfl rfl ?_
      repeat (first | refine za rfl rfl ?_ | refine zb rfl ?_ | refine zc rfl ?_)
      refine TL.ldW 0 szk rfl rfl rfl (qCells_length h255) rfl rfl ?_
      refine TL.bsA (cs := qCells a.name a.typ a.cls) el70 rfl (qCells_length h255) (by decide) rfl rfl (fun eb => ?_)
      refine TL.append (m := 1) (news := qCells a.name a.typ a.cls) 2 el70 sl70 rfl rfl rfl rfl rfl hown (Src.slice (fun w hA j u hj => by rw [add_zero', Nat.zero_add]; exact hA.cell (i := 0) rfl (by rw [nth_eq]; exact hj)) (qCells_length h255) qCells_one) (by omega) (by omega) (fun b' cs' cap' hown' => ?_)
      repeat (first | refine za rfl rfl ?_ | refine zb rfl ?_ | refine zc rfl ?_)
      refine T.again ih ⟨i + 1, m1, b', cs', cap', xs ++ qCells a.name a.typ a.cls, false⟩ (by simp; omega) ⟨rfl, rfl, trivial⟩ (fun w' hA => ⟨⟨by simp; omega, h2, hown', fun j a' hj ha' k v hk => ?_⟩, hA.sub (List.Sublist.cons _ (List.Sublist.cons _ (List.Sublist.refl _)))⟩)
      simp only at hj
      rcases Nat.lt_or_ge j i with hji | hji
      · have := hall j a' hji ha' k v hk
        rw [nth_eq] at this ⊢
        simp only
        rw [List.getElem?_append_left (List.getElem?_eq_some_iff.1 this).1]; exact this
      · have : j = i := by omega
        subst this
        rw [ha] at ha'
        simp only [Option.some.injEq] at ha'
        subst ha'
        rw [nth_eq] at hk ⊢
        simp only
        rw [List.getElem?_append_right (by omega), hxl, Nat.add_sub_cancel_left]; exact hk
  · have hil : i = asks.length := by omega
    have hd : asks.drop i = [] := by rw [hil]; simp
    rw [hd] at hat
    cases hat
    have hin : i = h.n1 := by omega
    subst hin
    refine TL.call1 1 Tryz.call138 rfl rfl rfl rfl (questionDone pb b cap B h f0 0 0 0 false (by omega) gu gv) (fun w' hA => hg.mono (st_viewLe hA (Mc := [(pb, .row (pC (msl b cap B) h 2 f0 h.n1 false 0 0 0) 191)]) fun _ hp => by simp at hp; subst hp; simp)) (fun _ => TL.and fun _ => ?_)
    repeat (first | refine za rfl rfl ?_ | refine zb rfl ?_ | refine zc rfl ?_)
    refine TL.allocZ 258 Tryz.zeroValue79 (by kernel_rfl) rfl rfl (fun lb zs hz => ?_)
    refine TL.stW (vs := z258) 0 szk rfl rfl rfl rfl z258_length hz z258_one ?_
    repeat (first | refine za rfl rfl ?_ | refine zb rfl ?_ | refine zc rfl ?_)
    refine TL.ldR hg szk rfl rfl rfl rfl ?_
    refine TL.y rfl rfl rfl (Y.eqG heq rfl rfl) ?_
    repeat (first | refine za rfl rfl ?_ | refine zb rfl ?_ | refine zc rfl ?_)
    refine T.condT rfl rfl ?_
    repeat (first | refine za rfl rfl ?_ | refine zb rfl ?_ | refine zc rfl ?_)
    refine T.ret Tryz.func85 rfl (fun w' hA => ⟨⟨h.n1, f0, qb, qcs, qcap, xs, false⟩, by rw [← hn]; rfl, ⟨by rw [← hn]; exact hown, fun j a ha => hall j a (by rw [hn]; rw [nth_eq] at ha; exact (List.getElem?_eq_some_iff.1 ha).1) ha⟩, ?_⟩)
    exact (hA.sub (M' := [(qb, .row qcs 79), (pb, .row (pC (msl b cap B) h 3 f0 0 false 0 0 0) 191)]) (List.Sublist.cons _ (List.Sublist.refl _))).perm (List.Perm.swap _ _ _)
end X
namespace X
theorem NmAt.fin_le {B : Bs} {o : Nat} {s : Bs} {fin : Nat} (h : NmAt (kn B H0) o s fin) : fin ≤ B.length := let ⟨_, a, _⟩ := h; a.fin_le
abbrev UnCt (fn : FuncId) (r : Rc) (b cap : Nat) (B : Bs) (more : List Value) : Prop :=
  Ct (β := Value × Mem) Tryz.prog fn ([msl b cap B] ++ more) [] (fun w => MB (view [] w) b B) (fun y => .tuple #[.agg (bodyCells r y.1).toArray, .nilIface]) (fun y _ => bodyX (mv y.2) r y.1) (fun y => y.2)
def rhCells0 : List Value := zs256 ++ [.int .u16 ((0 : Nat) : Int), .int .u16 ((0 : Nat) : Int), .int .u32 ((0 : Nat) : Int), .int .u16 ((0 : Nat) : Int)]
theorem rh0_length : rhCells0.length = 260 := by rw [rhCells0, List.length_append, zs256_length]; rfl
theorem rh0_get {j : Nat} {v : Value} (h : nth zs256 j = some v) : nth rhCells0 j = some v := by
  rw [nth_eq] at *
  rw [rhCells0, List.getElem?_append_left (List.getElem?_eq_some_iff.1 h).1]; exact h
theorem rh0_name {s : Bs} (h : s.length ≤ 255) : splice rhCells0 (0 + 0) (nameCells s) = rhCells s 0 0 0 0 := by
  have hnl := nameCells_length h
  unfold splice
  rw [Nat.zero_add, hnl, rhCells0, rhCells, List.take_zero, List.nil_append, List.drop_append_of_le_length (by rw [zs256_length]; exact Nat.le_refl _), List.drop_of_length_le (by rw [zs256_length]; exact Nat.le_refl _), List.nil_append]
theorem rh_setC {s : Bs} {t c ttl len t' : Nat} (hs : s.length ≤ 255) : setN (rhCells s t c ttl len) (0 + 257) (.int .u16 (t' : Int)) = rhCells s t t' ttl len := by
  have := nameCells_length hs
  rw [setN_eq, rhCells, rhCells, List.set_append_right _ _ (by omega), this]; rfl
theorem rh_setL {s : Bs} {t c ttl len t' : Nat} (hs : s.length ≤ 255) : setN (rhCells s t c ttl len) (0 + 258) (.int .u32 (t' : Int)) = rhCells s t c t' len := by
  have := nameCells_length hs
  rw [setN_eq, rhCells, rhCells, List.set_append_right _ _ (by omega), this]; rfl
theorem rh_setN {s : Bs} {t c ttl len t' : Nat} (hs : s.length ≤ 255) : setN (rhCells s t c ttl len) (0 + 259) (.int .u16 (t' : Int)) = rhCells s t c ttl t' := by
  have := nameCells_length hs
  rw [setN_eq, rhCells, rhCells, List.set_append_right _ _ (by omega), this]; rfl
theorem rhUnpack (hb : Nat) (b cap : Nat) (B : Bs) (hB : B.length ≤ 1000000) (hcap : B.length ≤ cap) (o : Nat) (s : Bs) (hs : NmOk s) (t c ttl len o1 : Nat) (ht : t < 65536) (hc : c < 65536) (httl : ttl < 4294967296) (hlen : len < 65536) (hn : NmAt (kn B H0) o s o1) (hbt : BytesAt (kn B H0) o1 (w2 t ++ (w2 c ++ (w4 ttl ++ w2 len)))) :
    Ct (β := Unit) Tryz.prog 157 [ptr hb 0, msl b cap B, .int .i64 (o : Int)] [(hb, .row rhCells0 116)] (fun w => MB (view [hb] w) b B) (fun _ => .tuple #[.int .i64 ((o1 + 10 : Nat) : Int), .nilIface]) (fun _ _ => True) (fun _ => [(hb, .row (rhCells s t c ttl len) 116)]) := by
  intro w hS hr
  have h255 : s.length ≤ 255 := by have := hs.len; omega
  have hnl := nameCells_length h255
  have h1 := BytesAt.append.1 hbt
  have h2 := BytesAt.append.1 h1.2
  have h3 := BytesAt.append.1 h2.2
  simp only [w2_length, w4_length] at h1 h2 h3
  have hr0 : ∀ {w' : World} {M : Mem}, St (keys [(hb, Ob.row rhCells0 116)]) w M w' → MB (view [] w') b B := fun hA => hr.mono (st_viewLe hA (Mc := []) fun _ hp => by cases hp)
  refine calls_of_T (m := 96) Tryz.func157 rfl rfl (by simp) hS ?_
  repeat (first | refine za rfl rfl ?_ | refine zb rfl ?_ | refine zc rfl ?_)
  refine TL.call1 0 Tryz.call150 rfl rfl rfl rfl (nameUnpack hb (0 + 0) rhCells0 116 (fun j v hj => by simp only [Nat.zero_add]; exact rh0_get hj) (by rw [rh0_length]; decide) b cap B hB hcap o s hs o1 hn) (fun w' hA => hr.mono (st_viewLe hA (Mc := [(hb, .row rhCells0 116)]) fun _ hp => hp)) (fun _ => TL.and fun _ => ?_)
  rw [rh0_name h255]
  repeat (first | refine za rfl rfl ?_ | refine zb rfl ?_ | refine zc rfl ?_)
  refine T.condF rfl rfl ?_
  repeat (first | refine za rfl rfl ?_ | refine zb rfl ?_ | refine zc rfl ?_)
  refine TL.call0 Tryz.call151 rfl rfl rfl (unpackType b cap B o1 t ht hB h1.1) (fun w' hA => hr0 hA) (fun _ => TL.and fun _ => ?_)
  repeat (first | refine za rfl rfl ?_ | refine zb rfl ?_ | refine zc rfl ?_)
  refine TL.st 0 szk rfl rfl rfl rfl rfl (by rw [rhCells_length h255]; rfl) ?_
  simp only [setN, List.nil_append]
  rw [rh_setT h255]
  repeat (first | refine za rfl rfl ?_ | refine zb rfl ?_ | refine zc rfl ?_)
  refine T.condF rfl rfl ?_
  repeat (first | refine za rfl rfl ?_ | refine zb rfl ?_ | refine zc rfl ?_)
  refine TL.call0 Tryz.call152 rfl rfl rfl (unpackClass b cap B (o1 + 2) c hc hB h2.1) (fun w' hA => hr0 hA) (fun _ => TL.and fun _ => ?_)
  repeat (first | refine za rfl rfl ?_ | refine zb rfl ?_ | refine zc rfl ?_)
  refine TL.st 0 szk rfl rfl rfl rfl rfl (by rw [rhCells_length h255]; rfl) ?_
  simp only [setN, List.nil_append]
  rw [rh_setC h255]
  repeat (first | refine za rfl rfl ?_ | refine zb rfl ?_ | refine zc rfl ?_)
  refine T.condF rfl rfl ?_
  repeat (first | refine za rfl rfl ?_ | refine zb rfl ?_ | refine zc rfl ?_)
  refine TL.call0 Tryz.call170 rfl rfl rfl (unpack32 b cap B (o1 + 2 + 2) ttl httl hB h3.1) (fun w' hA => hr0 hA) (fun _ => TL.and fun _ => ?_)
  repeat (first | refine za rfl rfl ?_ | refine zb rfl ?_ | refine zc rfl ?_)
  refine TL.st 0 szk rfl rfl rfl rfl rfl (by rw [rhCells_length h255]; rfl) ?_
  simp only [setN, List.nil_append]
  rw [rh_setL h255]
  repeat (first | refine za rfl rfl ?_ | refine zb rfl ?_ | refine zc rfl ?_)
  refine T.condF rfl rfl ?_
  repeat (first | refine za rfl rfl ?_ | refine zb rfl ?_ | refine zc rfl ?_)
  refine TL.call0 Tryz.call148 rfl rfl rfl (unpack16 b cap B (o1 + 2 + 2 + 4) len hlen hB h3.2) (fun w' hA => hr0 hA) (fun _ => TL.and fun _ => ?_)
  repeat (first | refine za rfl rfl ?_ | refine zb rfl ?_ | refine zc rfl ?_)
  refine TL.st 0 szk rfl rfl rfl rfl rfl (by rw [rhCells_length h255]; rfl) ?_
  simp only [setN, List.nil_append]
  rw [rh_setN h255]
  repeat (first | refine za rfl rfl ?_ | refine zb rfl ?_ | refine zc rfl ?_)
  refine T.condF rfl rfl ?_
  repeat (first | refine za rfl rfl ?_ | refine zb rfl ?_ | refine zc rfl ?_)
  exact T.ret Tryz.func157 rfl (fun w hA => ⟨(), rfl, trivial, hA⟩)
theorem unNS (r : Rc) (hr_ : r.Ok) (hk : r.kind = 2) (b cap : Nat) (B : Bs) (hB : B.length ≤ 1000000) (hcap : B.length ≤ cap) (o fin : Nat) (hfin : fin ≤ B.length) (hbd : BodyAt (kn B H0) r o fin) : UnCt 159 r b cap B [.int .i64 (o : Int)] := by
  intro w hS hr
  have hk' : r.kind.toNat = 2 := by rw [hk]; rfl
  simp only [BodyAt, hk'] at hbd
  obtain ⟨hn, hl⟩ := hr_.host (by rw [hk]; decide)
  have h255 : r.host.length ≤ 255 := by have := hn.len; omega
  have hnl := nameCells_length h255
  refine calls_of_T (m := 21) Tryz.func159 rfl rfl (by simp) hS ?_
  repeat (first | refine za rfl rfl ?_ | refine zb rfl ?_ | refine zc rfl ?_)
  refine TL.allocZ 256 Tryz.zeroValue141 (by kernel_rfl) rfl rfl (fun rb zs hz => ?_)
  repeat (first | refine za rfl rfl ?_ | refine zb rfl ?_ | refine zc rfl ?_)
  refine TL.alloc (cs := zs256) zero75 rfl rfl rfl (fun nb => ?_)
  repeat (first | refine za rfl rfl ?_ | refine zb rfl ?_ | refine zc rfl ?_)
  refine TL.call1 0 Tryz.call150 rfl rfl rfl rfl (nameUnpack nb 0 zs256 75 (fun j v hj => by rw [Nat.zero_add]; exact hj) (by rw [zs256_length]; exact Nat.le_refl _) b cap B hB hcap o r.host hn fin hbd) (fun w' hA => hr.mono (st_viewLe hA (Mc := [(nb, .row zs256 75)]) fun _ hp => by simp at hp; subst hp; simp)) (fun _ => TL.and fun _ => ?_)
  rw [splice_name h255]
  repeat (first | refine za rfl rfl ?_ | refine zb rfl ?_ | refine zc rfl ?_)
  refine T.condF rfl rfl ?_
  repeat (first | refine za rfl rfl ?_ | refine zb rfl ?_ | refine zc rfl ?_)
  refine TL.ldW 0 szk rfl rfl rfl hnl rfl rfl ?_
  repeat (first | refine za rfl rfl ?_ | refine zb rfl ?_ | refine zc rfl ?_)
  have hfl : flatC [.agg (nameCells r.host).toArray] = nameCells r.host := by simp [flatC, Value.cells]
  have hlen : (nameCells r.host : List Value).length = 256 := by simp [hnl]
  have hb := build_seq (vs := [.agg (nameCells r.host).toArray]) pl141 (by simp [contig, Value.cells, hnl]) (by rw [hfl, hlen])
  rw [hfl] at hb
  refine TL.build (pv := partsFrom 0 [.agg (nameCells r.host).toArray]) rfl rfl rfl hb ?_
  refine TL.stW (vs := nameCells r.host) 1 szk rfl rfl rfl rfl hlen hz nameCells_one ?_
  repeat (first | refine za rfl rfl ?_ | refine zb rfl ?_ | refine zc rfl ?_)
  refine T.retG Tryz.func159 (.cons (RV.cellW 1 szk rfl rfl rfl hlen) (.cons (RV.tmp rfl) .nil)) (fun w hA => ⟨(.nilIface, []), ?_, ?_, hA.sub (by simp)⟩)
  · simp only [bodyCells, hk', pack]
  · simp only [bodyX, hk']
theorem unCNAME (r : Rc) (hr_ : r.Ok) (hk : r.kind = 3) (b cap : Nat) (B : Bs) (hB : B.length ≤ 1000000) (hcap : B.length ≤ cap) (o fin : Nat) (hfin : fin ≤ B.length) (hbd : BodyAt (kn B H0) r o fin) : UnCt 160 r b cap B [.int .i64 (o : Int)] := by
  intro w hS hr
  have hk' : r.kind.toNat = 3 := by rw [hk]; rfl
  simp only [BodyAt, hk'] at hbd
  obtain ⟨hn, hl⟩ := hr_.host (by rw [hk]; decide)
  have h255 : r.host.length ≤ 255 := by have := hn.len; omega
  have hnl := nameCells_length h255
  refine calls_of_T (m := 21) Tryz.func160 rfl rfl (by simp) hS ?_
  repeat (first | refine za rfl rfl ?_ | refine zb rfl ?_ | refine zc rfl ?_)
  refine TL.allocZ 256 Tryz.zeroValue145 (by kernel_rfl) rfl rfl (fun rb zs hz => ?_)
  repeat (first | refine za rfl rfl ?_ | refine zb rfl ?_ | refine zc rfl ?_)
  refine TL.alloc (cs := zs256) zero75 rfl rfl rfl (fun nb => ?_)
  repeat (first | refine za rfl rfl ?_ | refine zb rfl ?_ | refine zc rfl ?_)
  refine TL.call1 0 Tryz.call150 rfl rfl rfl rfl (nameUnpack nb 0 zs256 75 (fun j v hj => by rw [Nat.zero_add]; exact hj) (by rw [zs256_length]; exact Nat.le_refl _) b cap B hB hcap o r.host hn fin hbd) (fun w' hA => hr.mono (st_viewLe hA (Mc := [(nb, .row zs256 75)]) fun _ hp => by simp at hp; subst hp; simp)) (fun _ => TL.and fun _ => ?_)
  rw [splice_name h255]
  repeat (first | refine za rfl rfl ?_ | refine zb rfl ?_ | refine zc rfl ?_)
  refine T.condF rfl rfl ?_
  repeat (first | refine za rfl rfl ?_ | refine zb rfl ?_ | refine zc rfl ?_)
  refine TL.ldW 0 szk rfl rfl rfl hnl rfl rfl ?_
  repeat (first | refine za rfl rfl ?_ | refine zb rfl ?_ | refine zc rfl ?_)
  have hfl : flatC [.agg (nameCells r.host).toArray] = nameCells r.host := by simp [flatC, Value.cells]
  have hlen : (nameCells r.host : List Value).length = 256 := by simp [hnl]
  have hb := build_seq (vs := [.agg (nameCells r.host).toArray]) pl145 (by simp [contig, Value.cells, hnl]) (by rw [hfl, hlen])
  rw [hfl] at hb
  refine TL.build (pv := partsFrom 0 [.agg (nameCells r.host).toArray]) rfl rfl rfl hb ?_
  refine TL.stW (vs := nameCells r.host) 1 szk rfl rfl rfl rfl hlen hz nameCells_one ?_
  repeat (first | refine za rfl rfl ?_ | refine zb rfl ?_ | refine zc rfl ?_)
  refine T.retG Tryz.func160 (.cons (RV.cellW 1 szk rfl rfl rfl hlen) (.cons (RV.tmp rfl) .nil)) (fun w hA => ⟨(.nilIface, []), ?_, ?_, hA.sub (by simp)⟩)
  · simp only [bodyCells, hk', pack]
  · simp only [bodyX, hk']
theorem unPTR (r : Rc) (hr_ : r.Ok) (hk : r.kind = 5) (b cap : Nat) (B : Bs) (hB : B.length ≤ 1000000) (hcap : B.length ≤ cap) (o fin : Nat) (hfin : fin ≤ B.length) (hbd : BodyAt (kn B H0) r o fin) : UnCt 162 r b cap B [.int .i64 (o : Int)] := by
  intro w hS hr
  have hk' : r.kind.toNat = 5 := by rw [hk]; rfl
  simp only [BodyAt, hk'] at hbd
  obtain ⟨hn, hl⟩ := hr_.host (by rw [hk]; decide)
  have h255 : r.host.length ≤ 255 := by have := hn.len; omega
  have hnl := nameCells_length h255
  refine calls_of_T (m := 21) Tryz.func162 rfl rfl (by simp) hS ?_
  repeat (first | refine za rfl rfl ?_ | refine zb rfl ?_ | refine zc rfl ?_)
  refine TL.allocZ 256 Tryz.zeroValue153 (by kernel_rfl) rfl rfl (fun rb zs hz => ?_)
  repeat (first | refine za rfl rfl ?_ | refine zb rfl ?_ | refine zc rfl ?_)
  refine TL.alloc (cs := zs256) zero75 rfl rfl rfl (fun nb => ?_)
  repeat (first | refine za rfl rfl ?_ | refine zb rfl ?_ | refine zc rfl ?_)
  refine TL.call1 0 Tryz.call150 rfl rfl rfl rfl (nameUnpack nb 0 zs256 75 (fun j v hj => by rw [Nat.zero_add]; exact hj) (by rw [zs256_length]; exact Nat.le_refl _) b cap B hB hcap o r.host hn fin hbd) (fun w' hA => hr.mono (st_viewLe hA (Mc := [(nb, .row zs256 75)]) fun _ hp => by simp at hp; subst hp; simp)) (fun _ => TL.and fun _ => ?_)
  rw [splice_name h255]
  repeat (first | refine za rfl rfl ?_ | refine zb rfl ?_ | refine zc rfl ?_)
  refine T.condF rfl rfl ?_
  repeat (first | refine za rfl rfl ?_ | refine zb rfl ?_ | refine zc rfl ?_)
  refine TL.ldW 0 szk rfl rfl rfl hnl rfl rfl ?_
  repeat (first | refine za rfl rfl ?_ | refine zb rfl ?_ | refine zc rfl ?_)
  have hfl : flatC [.agg (nameCells r.host).toArray] = nameCells r.host := by simp [flatC, Value.cells]
  have hlen : (nameCells r.host : List Value).length = 256 := by simp [hnl]
  have hb := build_seq (vs := [.agg (nameCells r.host).toArray]) pl153 (by simp [contig, Value.cells, hnl]) (by rw [hfl, hlen])
  rw [hfl] at hb
  refine TL.build (pv := partsFrom 0 [.agg (nameCells r.host).toArray]) rfl rfl rfl hb ?_
  refine TL.stW (vs := nameCells r.host) 1 szk rfl rfl rfl rfl hlen hz nameCells_one ?_
  repeat (first | refine za rfl rfl ?_ | refine zb rfl ?_ | refine zc rfl ?_)
  refine T.retG Tryz.func162 (.cons (RV.cellW 1 szk rfl rfl rfl hlen) (.cons (RV.tmp rfl) .nil)) (fun w hA => ⟨(.nilIface, []), ?_, ?_, hA.sub (by simp)⟩)
  · simp only [bodyCells, hk', pack]
  · simp only [bodyX, hk']
theorem unMX (r : Rc) (hr_ : r.Ok) (hk : r.kind = 6) (b cap : Nat) (B : Bs) (hB : B.length ≤ 1000000) (hcap : B.length ≤ cap) (o fin : Nat) (hfin : fin ≤ B.length) (hbd : BodyAt (kn B H0) r o fin) : UnCt 163 r b cap B [.int .i64 (o : Int)] := by
  intro w hS hr
  have hk' : r.kind.toNat = 6 := by rw [hk]; rfl
  simp only [BodyAt, hk'] at hbd
  obtain ⟨hn, hl⟩ := hr_.host (by rw [hk]; decide)
  have h255 : r.host.length ≤ 255 := by have := hn.len; omega
  have hnl := nameCells_length h255
  obtain ⟨hb1, hb2⟩ := hbd
  rw [← w2_mod] at hb1
  refine calls_of_T (m := 41) Tryz.func163 rfl rfl (by simp) hS ?_
  repeat (first | refine za rfl rfl ?_ | refine zb rfl ?_ | refine zc rfl ?_)
  refine TL.allocZ 257 Tryz.zeroValue157 (by kernel_rfl) rfl rfl (fun rb zs hz => ?_)
  repeat (first | refine za rfl rfl ?_ | refine zb rfl ?_ | refine zc rfl ?_)
  refine TL.call0 Tryz.call148 rfl rfl rfl (unpack16 b cap B o (r.n1 % 65536) (by omega) hB hb1) (fun w' hA => hr.mono (st_viewLe hA (Mc := []) fun _ hp => by cases hp)) (fun _ => TL.and fun _ => ?_)
  repeat (first | refine za rfl rfl ?_ | refine zb rfl ?_ | refine zc rfl ?_)
  refine T.condF rfl rfl ?_
  repeat (first | refine za rfl rfl ?_ | refine zb rfl ?_ | refine zc rfl ?_)
  refine TL.alloc (cs := zs256) zero75 rfl rfl rfl (fun nb => ?_)
  repeat (first | refine za rfl rfl ?_ | refine zb rfl ?_ | refine zc rfl ?_)
  refine TL.call1 0 Tryz.call150 rfl rfl rfl rfl (nameUnpack nb 0 zs256 75 (fun j v hj => by rw [Nat.zero_add]; exact hj) (by rw [zs256_length]; exact Nat.le_refl _) b cap B hB hcap (o + 2) r.host hn fin hb2) (fun w' hA => hr.mono (st_viewLe hA (Mc := [(nb, .row zs256 75)]) fun _ hp => by simp at hp; subst hp; simp)) (fun _ => TL.and fun _ => ?_)
  rw [splice_name h255]
  repeat (first | refine za rfl rfl ?_ | refine zb rfl ?_ | refine zc rfl ?_)
  refine T.condF rfl rfl ?_
  repeat (first | refine za rfl rfl ?_ | refine zb rfl ?_ | refine zc rfl ?_)
  refine TL.ldW 0 szk rfl rfl rfl hnl rfl rfl ?_
  repeat (first | refine za rfl rfl ?_ | refine zb rfl ?_ | refine zc rfl ?_)
  have hfl : flatC [.int .u16 ((r.n1 % 65536 : Nat) : Int), .agg (nameCells r.host).toArray] = .int .u16 ((r.n1 % 65536 : Nat) : Int) :: nameCells r.host := by simp [flatC, Value.cells]
  have hlen : (.int .u16 ((r.n1 % 65536 : Nat) : Int) :: nameCells r.host : List Value).length = 257 := by simp [hnl]
  have hb := build_seq (vs := [.int .u16 ((r.n1 % 65536 : Nat) : Int), .agg (nameCells r.host).toArray]) pl157 (by simp [contig, Value.cells, hnl]) (by rw [hfl, hlen])
  rw [hfl] at hb
  refine TL.build (pv := partsFrom 0 [.int .u16 ((r.n1 % 65536 : Nat) : Int), .agg (nameCells r.host).toArray]) rfl rfl rfl hb ?_
  refine TL.stW (vs := .int .u16 ((r.n1 % 65536 : Nat) : Int) :: nameCells r.host) 1 szk rfl rfl rfl rfl hlen hz (one_cons rfl nameCells_one) ?_
  repeat (first | refine za rfl rfl ?_ | refine zb rfl ?_ | refine zc rfl ?_)
  refine T.retG Tryz.func163 (.cons (RV.cellW 1 szk rfl rfl rfl hlen) (.cons (RV.tmp rfl) .nil)) (fun w hA => ⟨(.nilIface, []), ?_, ?_, hA.sub (by simp)⟩)
  · simp only [bodyCells, hk', pack]
  · simp only [bodyX, hk']
theorem unSRV (r : Rc) (hr_ : r.Ok) (hk : r.kind = 9) (b cap : Nat) (B : Bs) (hB : B.length ≤ 1000000) (hcap : B.length ≤ cap) (o fin : Nat) (hfin : fin ≤ B.length) (hbd : BodyAt (kn B H0) r o fin) : UnCt 166 r b cap B [.int .i64 (o : Int)] := by
  intro w hS hr
  have hk' : r.kind.toNat = 9 := by rw [hk]; rfl
  simp only [BodyAt, hk'] at hbd
  obtain ⟨hn, hl⟩ := hr_.host (by rw [hk]; decide)
  have h255 : r.host.length ≤ 255 := by have := hn.len; omega
  have hnl := nameCells_length h255
  obtain ⟨hb1, hb2⟩ := hbd
  rw [← w2_mod r.n1, ← w2_mod r.n2, ← w2_mod r.n3] at hb1
  have hb3 := BytesAt.append.1 hb1
  have hb4 := BytesAt.append.1 hb3.2
  simp only [w2_length] at hb3 hb4
  refine calls_of_T (m := 73) Tryz.func166 rfl rfl (by simp) hS ?_
  repeat (first | refine za rfl rfl ?_ | refine zb rfl ?_ | refine zc rfl ?_)
  refine TL.allocZ 259 Tryz.zeroValue170 (by kernel_rfl) rfl rfl (fun rb zs hz => ?_)
  repeat (first | refine za rfl rfl ?_ | refine zb rfl ?_ | refine zc rfl ?_)
  refine TL.call0 Tryz.call148 rfl rfl rfl (unpack16 b cap B (o) (r.n1 % 65536) (by omega) hB hb3.1) (fun w' hA => hr.mono (st_viewLe hA (Mc := []) fun _ hp => by cases hp)) (fun _ => TL.and fun _ => ?_)
  repeat (first | refine za rfl rfl ?_ | refine zb rfl ?_ | refine zc rfl ?_)
  refine T.condF rfl rfl ?_
  repeat (first | refine za rfl rfl ?_ | refine zb rfl ?_ | refine zc rfl ?_)
  refine TL.call0 Tryz.call148 rfl rfl rfl (unpack16 b cap B (o + 2) (r.n2 % 65536) (by omega) hB hb4.1) (fun w' hA => hr.mono (st_viewLe hA (Mc := []) fun _ hp => by cases hp)) (fun _ => TL.and fun _ => ?_)
  repeat (first | refine za rfl rfl ?_ | refine zb rfl ?_ | refine zc rfl ?_)
  refine T.condF rfl rfl ?_
  repeat (first | refine za rfl rfl ?_ | refine zb rfl ?_ | refine zc rfl ?_)
  refine TL.call0 Tryz.call148 rfl rfl rfl (unpack16 b cap B (o + 2 + 2) (r.n3 % 65536) (by omega) hB hb4.2) (fun w' hA => hr.mono (st_viewLe hA (Mc := []) fun _ hp => by cases hp)) (fun _ => TL.and fun _ => ?_)
  repeat (first | refine za rfl rfl ?_ | refine zb rfl ?_ | refine zc rfl ?_)
  refine T.condF rfl rfl ?_
  repeat (first | refine za rfl rfl ?_ | refine zb rfl ?_ | refine zc rfl ?_)
  refine TL.alloc (cs := zs256) zero75 rfl rfl rfl (fun nb => ?_)
  repeat (first | refine za rfl rfl ?_ | refine zb rfl ?_ | refine zc rfl ?_)
  refine TL.call1 0 Tryz.call150 rfl rfl rfl rfl (nameUnpack nb 0 zs256 75 (fun j v hj => by rw [Nat.zero_add]; exact hj) (by rw [zs256_length]; exact Nat.le_refl _) b cap B hB hcap (o + 6) r.host hn fin hb2) (fun w' hA => hr.mono (st_viewLe hA (Mc := [(nb, .row zs256 75)]) fun _ hp => by simp at hp; subst hp; simp)) (fun _ => TL.and fun _ => ?_)
  rw [splice_name h255]
  repeat (first | refine za rfl rfl ?_ | refine zb rfl ?_ | refine zc rfl ?_)
  refine T.condF rfl rfl ?_
  repeat (first | refine za rfl rfl ?_ | refine zb rfl ?_ | refine zc rfl ?_)
  refine TL.ldW 0 szk rfl rfl rfl hnl rfl rfl ?_
  repeat (first | refine za rfl rfl ?_ | refine zb rfl ?_ | refine zc rfl ?_)
  have hfl : flatC [.int .u16 ((r.n1 % 65536 : Nat) : Int), .int .u16 ((r.n2 % 65536 : Nat) : Int), .int .u16 ((r.n3 % 65536 : Nat) : Int), .agg (nameCells r.host).toArray] = [.int .u16 ((r.n1 % 65536 : Nat) : Int), .int .u16 ((r.n2 % 65536 : Nat) : Int), .int .u16 ((r.n3 % 65536 : Nat) : Int)] ++ nameCells r.host := by simp [flatC, Value.cells]
  have hlen : ([.int .u16 ((r.n1 % 65536 : Nat) : Int), .int .u16 ((r.n2 % 65536 : Nat) : Int), .int .u16 ((r.n3 % 65536 : Nat) : Int)] ++ nameCells r.host : List Value).length = 259 := by simp [hnl]
  have hb := build_seq (vs := [.int .u16 ((r.n1 % 65536 : Nat) : Int), .int .u16 ((r.n2 % 65536 : Nat) : Int), .int .u16 ((r.n3 % 65536 : Nat) : Int), .agg (nameCells r.host).toArray]) pl170 (by simp [contig, Value.cells, hnl]) (by rw [hfl, hlen])
  rw [hfl] at hb
  refine TL.build (pv := partsFrom 0 [.int .u16 ((r.n1 % 65536 : Nat) : Int), .int .u16 ((r.n2 % 65536 : Nat) : Int), .int .u16 ((r.n3 % 65536 : Nat) : Int), .agg (nameCells r.host).toArray]) rfl rfl rfl hb ?_
  refine TL.stW (vs := [.int .u16 ((r.n1 % 65536 : Nat) : Int), .int .u16 ((r.n2 % 65536 : Nat) : Int), .int .u16 ((r.n3 % 65536 : Nat) : Int)] ++ nameCells r.host) 1 szk rfl rfl rfl rfl hlen hz (one_app (by simp [Value.oneCell']) nameCells_one) ?_
  repeat (first | refine za rfl rfl ?_ | refine zb rfl ?_ | refine zc rfl ?_)
  refine T.retG Tryz.func166 (.cons (RV.cellW 1 szk rfl rfl rfl hlen) (.cons (RV.tmp rfl) .nil)) (fun w hA => ⟨(.nilIface, []), ?_, ?_, hA.sub (by simp)⟩)
  · simp only [bodyCells, hk', pack]
  · simp only [bodyX, hk']
theorem unSOA (r : Rc) (hr_ : r.Ok) (hk : r.kind = 4) (b cap : Nat) (B : Bs) (hB : B.length ≤ 1000000) (hcap : B.length ≤ cap) (o fin : Nat) (hfin : fin ≤ B.length) (hbd : BodyAt (kn B H0) r o fin) : UnCt 161 r b cap B [.int .i64 (o : Int)] := by
  intro w hS hr
  have hk' : r.kind.toNat = 4 := by rw [hk]; rfl
  simp only [BodyAt, hk'] at hbd
  obtain ⟨hn, hl⟩ := hr_.host (by rw [hk]; decide)
  have h255 : r.host.length ≤ 255 := by have := hn.len; omega
  have hnl := nameCells_length h255
  obtain ⟨hbn, hbl⟩ := hr_.box hk
  have h256 : r.box.length ≤ 255 := by have := hbn.len; omega
  have hnl2 := nameCells_length h256
  obtain ⟨f1, f2, hx1, hx2, hb1, _⟩ := hbd
  have num := hr_.num
  have hb2 := BytesAt.append.1 hb1
  have hb3 := BytesAt.append.1 hb2.2
  have hb4 := BytesAt.append.1 hb3.2
  have hb5 := BytesAt.append.1 hb4.2
  simp only [w4_length] at hb2 hb3 hb4 hb5
  refine calls_of_T (m := 119) Tryz.func161 rfl rfl (by simp) hS ?_
  repeat (first | refine za rfl rfl ?_ | refine zb rfl ?_ | refine zc rfl ?_)
  refine TL.allocZ 517 Tryz.zeroValue149 (by kernel_rfl) rfl rfl (fun rb zs hz => ?_)
  repeat (first | refine za rfl rfl ?_ | refine zb rfl ?_ | refine zc rfl ?_)
  refine TL.alloc (cs := zs256) zero75 rfl rfl rfl (fun nb => ?_)
  repeat (first | refine za rfl rfl ?_ | refine zb rfl ?_ | refine zc rfl ?_)
  refine TL.call1 0 Tryz.call150 rfl rfl rfl rfl (nameUnpack nb 0 zs256 75 (fun j v hj => by rw [Nat.zero_add]; exact hj) (by rw [zs256_length]; exact Nat.le_refl _) b cap B hB hcap o r.host hn f1 hx1) (fun w' hA => hr.mono (st_viewLe hA (Mc := [(nb, .row zs256 75)]) fun _ hp => by simp at hp; subst hp; simp)) (fun _ => TL.and fun _ => ?_)
  rw [splice_name h255]
  repeat (first | refine za rfl rfl ?_ | refine zb rfl ?_ | refine zc rfl ?_)
  refine T.condF rfl rfl ?_
  repeat (first | refine za rfl rfl ?_ | refine zb rfl ?_ | refine zc rfl ?_)
  refine TL.alloc (cs := zs256) zero75 rfl rfl rfl (fun nb2 => ?_)
  repeat (first | refine za rfl rfl ?_ | refine zb rfl ?_ | refine zc rfl ?_)
  refine TL.call1 0 Tryz.call150 rfl rfl rfl rfl (nameUnpack nb2 0 zs256 75 (fun j v hj => by rw [Nat.zero_add]; exact hj) (by rw [zs256_length]; exact Nat.le_refl _) b cap B hB hcap f1 r.box hbn f2 hx2) (fun w' hA => hr.mono (st_viewLe hA (Mc := [(nb2, .row zs256 75)]) fun _ hp => by simp at hp; subst hp; simp)) (fun _ => TL.and fun _ => ?_)
  rw [splice_name h256]
  repeat (first | refine za rfl rfl ?_ | refine zb rfl ?_ | refine zc rfl ?_)
  refine T.condF rfl rfl ?_
  repeat (first | refine za rfl rfl ?_ | refine zb rfl ?_ | refine zc rfl ?_)
  refine TL.call0 Tryz.call170 rfl rfl rfl (unpack32 b cap B (f2) r.n1 num.n1 hB hb2.1) (fun w' hA => hr.mono (st_viewLe hA (Mc := []) fun _ hp => by cases hp)) (fun _ => TL.and fun _ => ?_)
  repeat (first | refine za rfl rfl ?_ | refine zb rfl ?_ | refine zc rfl ?_)
  refine T.condF rfl rfl ?_
  repeat (first | refine za rfl rfl ?_ | refine zb rfl ?_ | refine zc rfl ?_)
  refine TL.call0 Tryz.call170 rfl rfl rfl (unpack32 b cap B (f2 + 4) r.n2 num.n2 hB hb3.1) (fun w' hA => hr.mono (st_viewLe hA (Mc := []) fun _ hp => by cases hp)) (fun _ => TL.and fun _ => ?_)
  repeat (first | refine za rfl rfl ?_ | refine zb rfl ?_ | refine zc rfl ?_)
  refine T.condF rfl rfl ?_
  repeat (first | refine za rfl rfl ?_ | refine zb rfl ?_ | refine zc rfl ?_)
  refine TL.call0 Tryz.call170 rfl rfl rfl (unpack32 b cap B (f2 + 4 + 4) r.n3 num.n3 hB hb4.1) (fun w' hA => hr.mono (st_viewLe hA (Mc := []) fun _ hp => by cases hp)) (fun _ => TL.and fun _ => ?_)
  repeat (first | refine za rfl rfl ?_ | refine zb rfl ?_ | refine zc rfl ?_)
  refine T.condF rfl rfl ?_
  repeat (first | refine za rfl rfl ?_ | refine zb rfl ?_ | refine zc rfl ?_)
  refine TL.call0 Tryz.call170 rfl rfl rfl (unpack32 b cap B (f2 + 4 + 4 + 4) r.n4 num.n4 hB hb5.1) (fun w' hA => hr.mono (st_viewLe hA (Mc := []) fun _ hp => by cases hp)) (fun _ => TL.and fun _ => ?_)
  repeat (first | refine za rfl rfl ?_ | refine zb rfl ?_ | refine zc rfl ?_)
  refine T.condF rfl rfl ?_
  repeat (first | refine za rfl rfl ?_ | refine zb rfl ?_ | refine zc rfl ?_)
  refine TL.call0 Tryz.call170 rfl rfl rfl (unpack32 b cap B (f2 + 4 + 4 + 4 + 4) r.n5 num.n5 hB hb5.2) (fun w' hA => hr.mono (st_viewLe hA (Mc := []) fun _ hp => by cases hp)) (fun _ => TL.and fun _ => ?_)
  repeat (first | refine za rfl rfl ?_ | refine zb rfl ?_ | refine zc rfl ?_)
  refine T.condF rfl rfl ?_
  repeat (first | refine za rfl rfl ?_ | refine zb rfl ?_ | refine zc rfl ?_)
  refine TL.ldW 1 szk rfl rfl rfl hnl rfl rfl ?_
  repeat (first | refine za rfl rfl ?_ | refine zb rfl ?_ | refine zc rfl ?_)
  refine TL.ldW 0 szk rfl rfl rfl hnl2 rfl rfl ?_
  repeat (first | refine za rfl rfl ?_ | refine zb rfl ?_ | refine zc rfl ?_)
  have hfl : flatC [.agg (nameCells r.host).toArray, .agg (nameCells r.box).toArray, .int .u32 (r.n1 : Int), .int .u32 (r.n2 : Int), .int .u32 (r.n3 : Int), .int .u32 (r.n4 : Int), .int .u32 (r.n5 : Int)] = nameCells r.host ++ (nameCells r.box ++ [.int .u32 (r.n1 : Int), .int .u32 (r.n2 : Int), .int .u32 (r.n3 : Int), .int .u32 (r.n4 : Int), .int .u32 (r.n5 : Int)]) := by simp [flatC, Value.cells]
  have hlen : (nameCells r.host ++ (nameCells r.box ++ [.int .u32 (r.n1 : Int), .int .u32 (r.n2 : Int), .int .u32 (r.n3 : Int), .int .u32 (r.n4 : Int), .int .u32 (r.n5 : Int)]) : List Value).length = 517 := by simp [hnl, hnl2]
  have hb := build_seq (vs := [.agg (nameCells r.host).toArray, .agg (nameCells r.box).toArray, .int .u32 (r.n1 : Int), .int .u32 (r.n2 : Int), .int .u32 (r.n3 : Int), .int .u32 (r.n4 : Int), .int .u32 (r.n5 : Int)]) pl149 (by simp [contig, Value.cells, hnl, hnl2]) (by rw [hfl, hlen])
  rw [hfl] at hb
  refine TL.build (pv := partsFrom 0 [.agg (nameCells r.host).toArray, .agg (nameCells r.box).toArray, .int .u32 (r.n1 : Int), .int .u32 (r.n2 : Int), .int .u32 (r.n3 : Int), .int .u32 (r.n4 : Int), .int .u32 (r.n5 : Int)]) rfl rfl rfl hb ?_
  refine TL.stW (vs := nameCells r.host ++ (nameCells r.box ++ [.int .u32 (r.n1 : Int), .int .u32 (r.n2 : Int), .int .u32 (r.n3 : Int), .int .u32 (r.n4 : Int), .int .u32 (r.n5 : Int)])) 2 szk rfl rfl rfl rfl hlen hz (one_app nameCells_one (one_app nameCells_one (by simp [Value.oneCell']))) ?_
  repeat (first | refine za rfl rfl ?_ | refine zb rfl ?_ | refine zc rfl ?_)
  refine T.retG Tryz.func161 (.cons (RV.cellW 2 szk rfl rfl rfl hlen) (.cons (RV.tmp rfl) .nil)) (fun w hA => ⟨(.nilIface, []), ?_, ?_, hA.sub (by simp)⟩)
  · simp only [bodyCells, hk', pack]
  · simp only [bodyX, hk']
theorem pl137 : placesOk Tryz.prog 137 [(0, 4)] 4 = true := by kernel_rfl
theorem zero135 : ∀ w, (zeroValue 135).run Tryz.prog w = .ok (.agg (List.replicate 4 (bv 0)).toArray) w := by intro w; kernel_rfl
theorem unA (r : Rc) (hr_ : r.Ok) (hk : r.kind = 1) (b cap : Nat) (B : Bs) (hB : B.length ≤ 1000000) (hcap : B.length ≤ cap) (o fin : Nat) (hfin : fin ≤ B.length) (hbd : BodyAt (kn B H0) r o fin) : UnCt 158 r b cap B [.int .i64 (o : Int)] := by
  intro w hS hr
  have hk' : r.kind.toNat = 1 := by rw [hk]; rfl
  simp only [BodyAt, hk'] at hbd
  have hfl0 := fix_length 4 r.data
  obtain ⟨hb1, hb2⟩ := hbd
  have hsp : splice (List.replicate 4 (bv 0)) 0 ((fix 4 r.data).map bv) = (fix 4 r.data).map bv := splice_all (by rw [List.length_map, hfl0, List.length_replicate])
  have hlen : ((fix 4 r.data).map bv).length = 4 := by rw [List.length_map, hfl0]
  have hub := unpackBytes b cap B o (fix 4 r.data) hB hcap hb1 (by rw [hfl0]; omega)
  rw [hfl0] at hub
  refine calls_of_T (m := 22) Tryz.func158 rfl rfl (by simp) hS ?_
  repeat (first | refine za rfl rfl ?_ | refine zb rfl ?_ | refine zc rfl ?_)
  refine TL.allocZ 4 Tryz.zeroValue137 (by kernel_rfl) rfl rfl (fun rb zs hz => ?_)
  repeat (first | refine za rfl rfl ?_ | refine zb rfl ?_ | refine zc rfl ?_)
  refine TL.alloc (cs := List.replicate 4 (bv 0)) zero135 rfl rfl rfl (fun ab => ?_)
  repeat (first | refine za rfl rfl ?_ | refine zb rfl ?_ | refine zc rfl ?_)
  refine TL.slA tbk rfl rfl rfl rfl ?_
  refine TL.call1 0 Tryz.call171 rfl rfl rfl rfl (hub ab 0 4 (List.replicate 4 (bv 0)) 135 (by rw [List.length_replicate]; omega)) (fun w' hA => hr.mono (st_viewLe hA (Mc := [(ab, .row (List.replicate 4 (bv 0)) 135)]) fun _ hp => by simp at hp; subst hp; simp)) (fun _ => TL.and fun _ => ?_)
  rw [hsp]
  repeat (first | refine za rfl rfl ?_ | refine zb rfl ?_ | refine zc rfl ?_)
  refine T.condF rfl rfl ?_
  repeat (first | refine za rfl rfl ?_ | refine zb rfl ?_ | refine zc rfl ?_)
  refine TL.ldW 0 szk rfl rfl rfl hlen rfl rfl ?_
  have hfl : flatC [.agg ((fix 4 r.data).map bv).toArray] = (fix 4 r.data).map bv := by simp [flatC, Value.cells]
  have hb := build_seq (vs := [.agg ((fix 4 r.data).map bv).toArray]) pl137 (by simp [contig, Value.cells, hfl0]) (by rw [hfl, hlen])
  rw [hfl] at hb
  refine TL.build (pv := partsFrom 0 [.agg ((fix 4 r.data).map bv).toArray]) rfl rfl rfl hb ?_
  refine TL.stW (vs := (fix 4 r.data).map bv) 1 szk rfl rfl rfl rfl hlen hz (bytes_one _) ?_
  repeat (first | refine za rfl rfl ?_ | refine zb rfl ?_ | refine zc rfl ?_)
  refine T.retG Tryz.func158 (.cons (RV.cellW 1 szk rfl rfl rfl hlen) (.cons (RV.tmp rfl) .nil)) (fun w hA => ⟨(.nilIface, []), ?_, ?_, hA.sub (by simp)⟩)
  · simp only [bodyCells, hk', pack]
  · simp only [bodyX, hk']
theorem pl166 : placesOk Tryz.prog 166 [(0, 16)] 16 = true := by kernel_rfl
theorem zero164 : ∀ w, (zeroValue 164).run Tryz.prog w = .ok (.agg (List.replicate 16 (bv 0)).toArray) w := by intro w; kernel_rfl
theorem unAAAA (r : Rc) (hr_ : r.Ok) (hk : r.kind = 8) (b cap : Nat) (B : Bs) (hB : B.length ≤ 1000000) (hcap : B.length ≤ cap) (o fin : Nat) (hfin : fin ≤ B.length) (hbd : BodyAt (kn B H0) r o fin) : UnCt 165 r b cap B [.int .i64 (o : Int)] := by
  intro w hS hr
  have hk' : r.kind.toNat = 8 := by rw [hk]; rfl
  simp only [BodyAt, hk'] at hbd
  have hfl0 := fix_length 16 r.data
  obtain ⟨hb1, hb2⟩ := hbd
  have hsp : splice (List.replicate 16 (bv 0)) 0 ((fix 16 r.data).map bv) = (fix 16 r.data).map bv := splice_all (by rw [List.length_map, hfl0, List.length_replicate])
  have hlen : ((fix 16 r.data).map bv).length = 16 := by rw [List.length_map, hfl0]
  have hub := unpackBytes b cap B o (fix 16 r.data) hB hcap hb1 (by rw [hfl0]; omega)
  rw [hfl0] at hub
  refine calls_of_T (m := 22) Tryz.func165 rfl rfl (by simp) hS ?_
  repeat (first | refine za rfl rfl ?_ | refine zb rfl ?_ | refine zc rfl ?_)
  refine TL.allocZ 16 Tryz.zeroValue166 (by kernel_rfl) rfl rfl (fun rb zs hz => ?_)
  repeat (first | refine za rfl rfl ?_ | refine zb rfl ?_ | refine zc rfl ?_)
  refine TL.alloc (cs := List.replicate 16 (bv 0)) zero164 rfl rfl rfl (fun ab => ?_)
  repeat (first | refine za rfl rfl ?_ | refine zb rfl ?_ | refine zc rfl ?_)
  refine TL.slA tbk rfl rfl rfl rfl ?_
  refine TL.call1 0 Tryz.call171 rfl rfl rfl rfl (hub ab 0 16 (List.replicate 16 (bv 0)) 164 (by rw [List.length_replicate]; omega)) (fun w' hA => hr.mono (st_viewLe hA (Mc := [(ab, .row (List.replicate 16 (bv 0)) 164)]) fun _ hp => by simp at hp; subst hp; simp)) (fun _ => TL.and fun _ => ?_)
  rw [hsp]
  repeat (first | refine za rfl rfl ?_ | refine zb rfl ?_ | refine zc rfl ?_)
  refine T.condF rfl rfl ?_
  repeat (first | refine za rfl rfl ?_ | refine zb rfl ?_ | refine zc rfl ?_)
  refine TL.ldW 0 szk rfl rfl rfl hlen rfl rfl ?_
  have hfl : flatC [.agg ((fix 16 r.data).map bv).toArray] = (fix 16 r.data).map bv := by simp [flatC, Value.cells]
  have hb := build_seq (vs := [.agg ((fix 16 r.data).map bv).toArray]) pl166 (by simp [contig, Value.cells, hfl0]) (by rw [hfl, hlen])
  rw [hfl] at hb
  refine TL.build (pv := partsFrom 0 [.agg ((fix 16 r.data).map bv).toArray]) rfl rfl rfl hb ?_
  refine TL.stW (vs := (fix 16 r.data).map bv) 1 szk rfl rfl rfl rfl hlen hz (bytes_one _) ?_
  repeat (first | refine za rfl rfl ?_ | refine zb rfl ?_ | refine zc rfl ?_)
  refine T.retG Tryz.func165 (.cons (RV.cellW 1 szk rfl rfl rfl hlen) (.cons (RV.tmp rfl) .nil)) (fun w hA => ⟨(.nilIface, []), ?_, ?_, hA.sub (by simp)⟩)
  · simp only [bodyCells, hk', pack]
  · simp only [bodyX, hk']
end X
namespace X
theorem txtB_split {l : List Bs} {j : Nat} {s : Bs} (h : nth l j = some s) : txtB l = txtB (l.take j) ++ ((UInt8.ofNat s.length :: s) ++ txtB (l.drop (j + 1))) := by
  have h1 := txtB_append (l.take (j + 1)) (l.drop (j + 1))
  rw [List.take_append_drop, txtB_take h] at h1
  rw [h1]; simp
theorem pairB_split {l : List Pr} {j : Nat} {s : Pr} (h : nth l j = some s) : pairB l = pairB (l.take j) ++ ((w2 s.key ++ (w2 s.data.length ++ s.data)) ++ pairB (l.drop (j + 1))) := by
  have h1 := pairB_append (l.take (j + 1)) (l.drop (j + 1))
  rw [List.take_append_drop, pairB_take h] at h1
  rw [h1]; simp
theorem SlS.of {M : Mem} (hn : (M.map (·.1)).Nodup) {i b cap : Nat} {cs : List Value} {t : TypeId} {l : List Bs} (hi : nth M i = some (b, .row cs t)) (ho : Own cs l.length cap 1 (l.map str)) : SlS (mv M) (.slice (some ⟨b, 0, none⟩) l.length cap) l :=
  .inr ⟨b, 0, cap, rfl, ho.le, fun i s hs => ⟨[str s], rfl, mv_own hn hi ho fun j v hj => by
    cases j with
    | zero => simp [nth] at hj; subst hj; rw [nth_eq] at hs ⊢; simp [hs]
    | succ j => simp [nth] at hj, rfl⟩⟩
structure TY where
  j : Nat
  b : Nat
  cs : List Value
  cap : Nat
theorem unTXT (r : Rc) (hr_ : r.Ok) (hk : r.kind = 7) (b cap : Nat) (B : Bs) (hB : B.length ≤ 1000000) (hcap : B.length ≤ cap) (o fin : Nat) (hfin : fin ≤ B.length) (hbd : BodyAt (kn B H0) r o fin) : UnCt 164 r b cap B [.int .i64 (o : Int), .int .u16 ((fin - o : Nat) : Int)] := by
  intro w hS hr
  have hk' : r.kind.toNat = 7 := by rw [hk]; rfl
  simp only [BodyAt, hk'] at hbd
  obtain ⟨hbt, hf⟩ := hbd
  have hl := hr_.txtl
  have hl2 := txtB_len r.texts
  have hlen : fin - o = (txtB r.texts).length := by omega
  rw [hlen]
  generalize hN : (txtB r.texts).length = N at hl hl2
  refine calls_of_T (m := 52) Tryz.func164 rfl rfl (by simp) hS ?_
  repeat (first | refine za rfl rfl ?_ | refine zb rfl ?_ | refine zc rfl ?_)
  refine TL.allocZ 1 Tryz.zeroValue161 rfl rfl rfl (fun rb zs hz => ?_)
  repeat (first | refine za rfl rfl ?_ | refine zb rfl ?_ | refine zc rfl ?_)
  refine TL.make (len := 0) (cap := 1) el55 rfl rfl (by decide) (by decide) (by decide) rfl rfl (fun sb ss hss _ => ?_)
  repeat (first | refine za rfl rfl ?_ | refine zb rfl ?_ | refine zc rfl ?_)
  refine T.loop (α := TY) (fun x => [(0, msl b cap B), (1, .int .i64 ((o + (txtB (r.texts.take x.j)).length : Nat) : Int)), (2, .int .u16 (N : Int)), (6, ptr rb 0), (8, .slice (some ⟨x.b, 0, none⟩) x.j x.cap), (9, .int .u16 (((txtB (r.texts.take x.j)).length : Nat) : Int))])
    (fun x w' => (x.j ≤ r.texts.length ∧ Own x.cs x.j x.cap 1 ((r.texts.take x.j).map str)) ∧ St (keys []) w [(x.b, .row x.cs 9), (rb, .row zs 161)] w') (fun x => r.texts.length - x.j) ⟨0, sb, ss, 1⟩ ⟨rfl, rfl, rfl, rfl, rfl, rfl, trivial⟩
    (fun w' hA => ⟨⟨Nat.zero_le _, ⟨by simp, by simp, by simp only; omega, Nat.zero_le _⟩⟩, hA⟩) ?_
  rintro ⟨j, ab, acs, acap⟩ ih
  refine T.and fun ⟨hj, hown⟩ => ?_
  simp only at hj hown
  have htk := txtB_take_le r.texts j
  rw [hN] at htk
  repeat (first | refine za rfl rfl ?_ | refine zb rfl ?_ | refine zc rfl ?_)
  by_cases hjl : j < r.texts.length
  · obtain ⟨s, hs⟩ := nth_lt hjl
    have hsp := txtB_split hs
    have hs255 := (hr_.text hk).2 s (nth_mem hs)
    have hsl := congrArg List.length hsp
    rw [hN, List.length_append, List.length_append, List.length_cons] at hsl
    rw [hsp] at hbt
    have hb1 := (BytesAt.append.1 (BytesAt.append.1 hbt).2).1
    refine T.condT rfl (by simp; omega) ?_
    repeat (first | refine za rfl rfl ?_ | refine zb rfl ?_ | refine zc rfl ?_)
    refine TL.call0 Tryz.call172 rfl rfl rfl (unpackText b cap B (o + (txtB (r.texts.take j)).length) s hs255 hB hcap hb1) (fun w' hA => hr.mono (st_viewLe hA (Mc := []) fun _ hp => by cases hp)) (fun _ => TL.and fun _ => ?_)
    repeat (first | refine za rfl rfl ?_ | refine zb rfl ?_ | refine zc rfl ?_)
    refine T.condF rfl rfl ?_
    repeat (first | refine za rfl rfl ?_ | refine zb rfl ?_ | refine zc rfl ?_)
    have e1 : IntKind.u16.wrap (IntKind.u16.wrap ((s.length : Nat) : Int) + 1) = ((s.length + 1 : Nat) : Int) := by rw [u16_in ((s.length : Nat) : Int) (by omega) (by omega), u16_in _ (by omega) (by omega)]; omega
    have e2 : IntKind.u16.wrap ((N : Int) - (((txtB (r.texts.take j)).length : Nat) : Int)) = ((N - (txtB (r.texts.take j)).length : Nat) : Int) := by rw [u16_in _ (by omega) (by omega)]; omega
    rw [e1, e2]
    refine T.condF rfl (by simp; omega) ?_
    repeat (first | refine za rfl rfl ?_ | refine zb rfl ?_ | refine zc rfl ?_)
    rw [e1, show IntKind.u16.wrap ((((txtB (r.texts.take j)).length : Nat) : Int) + ((s.length + 1 : Nat) : Int)) = (((txtB (r.texts.take (j + 1))).length : Nat) : Int) by rw [txtB_take hs, List.length_append, List.length_cons, u16_in _ (by omega) (by omega)]; omega]
    refine TL.bs (vs := [str s]) el55 rfl rfl (by intro v hv; simp at hv; subst hv; rfl) (by simp) rfl rfl (fun eb => ?_)
    refine TL.append (m := 1) (news := [str s]) 1 el55 sl55 rfl rfl rfl rfl rfl hown (Src.slice (fun w hA j u hj => by rw [add_zero', Nat.zero_add]; exact hA.cell (i := 0) rfl (by rw [nth_eq]; exact hj)) rfl (by intro v hv; simp at hv; subst hv; rfl)) (by omega) (by omega) (fun b' cs' cap' hown' => ?_)
    repeat (first | refine za rfl rfl ?_ | refine zb rfl ?_ | refine zc rfl ?_)
    refine T.again ih ⟨j + 1, b', cs', cap'⟩ (by simp; omega) ⟨rfl, ?_, rfl, rfl, rfl, rfl, trivial⟩ (fun w' hA => ⟨⟨by simp; omega, hown'.cast rfl (by simp only; rw [take_nth hs]; simp)⟩, hA.sub (List.Sublist.cons _ (List.Sublist.refl _))⟩)
    simp only [look, txtB_take hs, List.length_append, List.length_cons]
    rw [show o + (txtB (r.texts.take j)).length + 1 + s.length = o + ((txtB (r.texts.take j)).length + (s.length + 1)) by omega]; rfl
  · have hjq : j = r.texts.length := by omega
    subst hjq
    rw [List.take_length] at hown ⊢
    rw [hN]
    refine T.condF rfl (by simp) ?_
    repeat (first | refine za rfl rfl ?_ | refine zb rfl ?_ | refine zc rfl ?_)
    have hb := build_seq (vs := [.slice (some ⟨ab, 0, none⟩) r.texts.length acap]) pl161 rfl rfl
    refine TL.build (pv := partsFrom 0 [.slice (some ⟨ab, 0, none⟩) r.texts.length acap]) rfl rfl rfl hb ?_
    refine TL.stW (vs := [.slice (some ⟨ab, 0, none⟩) r.texts.length acap]) 1 szk rfl rfl rfl rfl rfl hz (by simp [Value.oneCell']) ?_
    repeat (first | refine za rfl rfl ?_ | refine zb rfl ?_ | refine zc rfl ?_)
    refine T.retG Tryz.func164 (.cons (RV.cellW 1 szk rfl rfl rfl rfl) (.cons (RV.tmp rfl) .nil)) (fun w hA => ⟨(.slice (some ⟨ab, 0, none⟩) r.texts.length acap, [(ab, .row acs 9)]), ?_, ?_, hA.sub (by simp [setN])⟩)
    · simp only [bodyCells, hk', pack]
    · simp only [bodyX, hk']
      exact SlS.of (by simp) (i := 0) rfl hown
theorem unUnknown (r : Rc) (hr_ : r.Ok) (hk : r.kind = 13) (b cap : Nat) (B : Bs) (hB : B.length ≤ 1000000) (hcap : B.length ≤ cap) (o fin : Nat) (hfin : fin ≤ B.length) (hbd : BodyAt (kn B H0) r o fin) :
    Ct (β := Value × Mem) Tryz.prog 169 [.int .u16 (r.typ : Int), msl b cap B, .int .i64 (o : Int), .int .u16 ((fin - o : Nat) : Int)] [] (fun w => MB (view [] w) b B) (fun y => .tuple #[.agg (bodyCells r y.1).toArray, .nilIface]) (fun y _ => bodyX (mv y.2) r y.1) (fun y => y.2) := by
  intro w hS hr
  have hk' : r.kind.toNat = 13 := by rw [hk]; rfl
  simp only [BodyAt, hk'] at hbd
  obtain ⟨hbt, hf⟩ := hbd
  have hd := hr_.data
  have hlen : fin - o = r.data.length := by omega
  rw [hlen]
  refine calls_of_T (m := 30) Tryz.func169 rfl rfl (by simp) hS ?_
  repeat (first | refine za rfl rfl ?_ | refine zb rfl ?_ | refine zc rfl ?_)
  refine TL.allocZ 2 Tryz.zeroValue188 rfl rfl rfl (fun rb zs hz => ?_)
  repeat (first | refine za rfl rfl ?_ | refine zb rfl ?_ | refine zc rfl ?_)
  refine TL.make (len := r.data.length) (cap := r.data.length) el37 rfl rfl (Nat.le_refl _) (by omega) (by omega) rfl rfl (fun db ds hds _ => ?_)
  rw [Nat.mul_one] at hds
  have hb := build_seq (vs := [.int .u16 (r.typ : Int), .slice (some ⟨db, 0, none⟩) r.data.length r.data.length]) pl188 rfl rfl
  refine TL.build (pv := partsFrom 0 [.int .u16 (r.typ : Int), .slice (some ⟨db, 0, none⟩) r.data.length r.data.length]) rfl rfl rfl hb ?_
  refine TL.allocZ 2 Tryz.zeroValue188 rfl rfl rfl (fun ub us hus => ?_)
  refine TL.stW (vs := [.int .u16 (r.typ : Int), .slice (some ⟨db, 0, none⟩) r.data.length r.data.length]) 0 szk rfl rfl rfl rfl rfl hus (by simp [Value.oneCell']) ?_
  repeat (first | refine za rfl rfl ?_ | refine zb rfl ?_ | refine zc rfl ?_)
  refine TL.ld 0 szk rfl rfl rfl rfl rfl rfl ?_
  refine TL.call1 1 Tryz.call171 rfl rfl rfl rfl (unpackBytes b cap B o r.data hB hcap hbt (by omega) db 0 r.data.length ds 5 (by omega)) (fun w' hA => hr.mono (st_viewLe hA (Mc := [(db, .row ds 5)]) fun _ hp => by simp at hp; subst hp; simp [setN])) (fun _ => TL.and fun _ => ?_)
  rw [splice_all (by rw [List.length_map, hds])]
  repeat (first | refine za rfl rfl ?_ | refine zb rfl ?_ | refine zc rfl ?_)
  refine T.condF rfl rfl ?_
  repeat (first | refine za rfl rfl ?_ | refine zb rfl ?_ | refine zc rfl ?_)
  refine TL.ldW 0 szk rfl rfl rfl rfl rfl rfl ?_
  refine TL.stW (vs := [.int .u16 (r.typ : Int), .slice (some ⟨db, 0, none⟩) r.data.length r.data.length]) 2 szk rfl rfl rfl rfl rfl hz (by simp [Value.oneCell']) ?_
  repeat (first | refine za rfl rfl ?_ | refine zb rfl ?_ | refine zc rfl ?_)
  refine T.retG Tryz.func169 (.cons (RV.cellW 2 szk rfl rfl rfl rfl) (.cons (RV.tmp rfl) .nil)) (fun w hA => ⟨(.slice (some ⟨db, 0, none⟩) r.data.length r.data.length, [(db, .row (r.data.map bv) 5)]), ?_, ?_, hA.sub (by simp [setN])⟩)
  · simp only [bodyCells, hk', pack]
  · simp only [bodyX, hk']
    exact SlB.of (by simp) (i := 0) rfl ⟨by rw [Nat.mul_one, List.take_of_length_le (by rw [List.length_map]; exact Nat.le_refl _)], by simp, by simp, Nat.le_refl _⟩
end X
namespace X
theorem len2 {cs : List Value} (h : cs.length = 2) : ∃ a b, cs = [a, b] := by
  match cs, h with
  | [a, b], _ => exact ⟨a, b, rfl⟩
structure OY where
  j : Nat
  qv : Value
  Q : Mem
  xs : List Value
  E : Mem
def OY.ok (x : OY) (ps : List Pr) (et : TypeId) : Prop := x.j ≤ ps.length ∧ ((x.j = 0 ∧ x.qv = .slice none 0 0 ∧ x.Q = [] ∧ x.xs = []) ∨ ∃ ab acs acap, x.qv = .slice (some ⟨ab, 0, none⟩) x.j acap ∧ x.Q = [(ab, .row acs et)] ∧ Own acs x.j acap 2 x.xs) ∧
  ∀ i p, i < x.j → nth ps i = some p → ∃ dv, nth x.xs (i * 2) = some (.int .u16 (p.key : Int)) ∧ nth x.xs (i * 2 + 1) = some dv ∧ SlB (mv x.E) dv p.data
theorem pairs_next {ps : List Pr} {j : Nat} {s : Pr} {xs : List Value} {E E' : Mem} {dv : Value} (hs : nth ps j = some s) (hxl : xs.length = j * 2) (hall : ∀ i p, i < j → nth ps i = some p → ∃ dv, nth xs (i * 2) = some (.int .u16 (p.key : Int)) ∧ nth xs (i * 2 + 1) = some dv ∧ SlB (mv E) dv p.data)
    (hE : View.le (mv E) (mv E')) (hd : SlB (mv E') dv s.data) : ∀ i p, i < j + 1 → nth ps i = some p → ∃ dv', nth (xs ++ [.int .u16 (s.key : Int), dv]) (i * 2) = some (.int .u16 (p.key : Int)) ∧ nth (xs ++ [.int .u16 (s.key : Int), dv]) (i * 2 + 1) = some dv' ∧ SlB (mv E') dv' p.data := by
  intro i p hi hp
  rcases Nat.lt_or_ge i j with hji | hji
  · obtain ⟨dv', h1, h2, h3⟩ := hall i p hji hp
    refine ⟨dv', ?_, ?_, h3.mono hE⟩
    · rw [nth_eq] at *; rw [List.getElem?_append_left (by omega)]; exact h1
    · rw [nth_eq] at *; rw [List.getElem?_append_left (by omega)]; exact h2
  · have : i = j := by omega
    subst this
    rw [hs] at hp
    simp only [Option.some.injEq] at hp
    subst hp
    refine ⟨dv, ?_, ?_, hd⟩
    · rw [nth_eq, List.getElem?_append_right (by omega), hxl]; simp
    · rw [nth_eq, List.getElem?_append_right (by omega), hxl, show i * 2 + 1 - i * 2 = 1 by omega]; simp
theorem SlP.of {M : Mem} (hn : (M.map (·.1)).Nodup) {i b cap o : Nat} {cs xs : List Value} {t : TypeId} {l : List Pr} (hi : nth M i = some (b, .row cs t)) (ho : Own cs l.length cap 2 xs)
    (hall : ∀ i p, i < l.length → nth l i = some p → ∃ dv, nth xs (i * 2) = some (.int .u16 (p.key : Int)) ∧ nth xs (i * 2 + 1) = some dv ∧ SlB (mv M) dv p.data) : SlP (mv M) (.slice (some ⟨b, 0, none⟩) l.length cap) l := by
  refine .inr ⟨b, 0, cap, rfl, ho.le, fun j p hp => ?_⟩
  obtain ⟨dv, h1, h2, h3⟩ := hall j p (by rw [nth_eq] at hp; exact (List.getElem?_eq_some_iff.1 hp).1) hp
  refine ⟨[.int .u16 (p.key : Int), dv], rfl, mv_own hn hi ho (fun k v hk => ?_), dv, rfl, h3⟩
  rw [Nat.zero_add]
  match k, hk with
  | 0, hk => simp [nth] at hk; subst hk; exact h1
  | 1, hk => simp [nth] at hk; subst hk; exact h2
  | k + 2, hk => simp [nth] at hk
theorem unOPT (r : Rc) (hr_ : r.Ok) (hk : r.kind = 10) (b cap : Nat) (B : Bs) (hB : B.length ≤ 1000000) (hcap : B.length ≤ cap) (o fin : Nat) (hfin : fin ≤ B.length) (hbd : BodyAt (kn B H0) r o fin) : UnCt 168 r b cap B [.int .i64 (o : Int), .int .u16 ((fin - o : Nat) : Int)] := by
  intro w hS hr
  have hk' : r.kind.toNat = 10 := by rw [hk]; rfl
  simp only [BodyAt, hk'] at hbd
  obtain ⟨hbt, hf⟩ := hbd
  have hl := hr_.pairl
  have hl2 := pairB_len r.pairs
  have hlen : fin - o = (pairB r.pairs).length := by omega
  rw [hlen]
  generalize hN : (pairB r.pairs).length = N at hl hl2 hf
  refine calls_of_T (m := 76) Tryz.func168 rfl rfl (by simp) hS ?_
  repeat (first | refine za rfl rfl ?_ | refine zb rfl ?_ | refine zc rfl ?_)
  refine TL.allocZ 1 Tryz.zeroValue175 rfl rfl rfl (fun rb zs hz => ?_)
  repeat (first | refine za rfl rfl ?_ | refine zb rfl ?_ | refine zc rfl ?_)
  refine T.loop (α := OY) (fun x => [(0, msl b cap B), (1, .int .i64 ((o + (pairB (r.pairs.take x.j)).length : Nat) : Int)), (2, .int .u16 (N : Int)), (6, ptr rb 0), (8, x.qv), (9, .int .i64 (o : Int))])
    (fun x w' => x.ok r.pairs 250 ∧ St (keys []) w ((rb, .row zs 175) :: (x.Q ++ x.E)) w') (fun x => r.pairs.length - x.j) ⟨0, .slice none 0 0, [], [], []⟩ ⟨rfl, rfl, rfl, rfl, rfl, rfl, trivial⟩
    (fun w' hA => ⟨⟨Nat.zero_le _, .inl ⟨rfl, rfl, rfl, rfl⟩, fun i p hi => (Nat.not_lt_zero _ hi).elim⟩, hA⟩) ?_
  rintro ⟨j, qv, Q, xs, E⟩ ih
  refine T.and fun ⟨hj, hQ, hall⟩ => ?_
  simp only at hj hQ hall
  have htk := pairB_take_le r.pairs j
  rw [hN] at htk
  repeat (first | refine za rfl rfl ?_ | refine zb rfl ?_ | refine zc rfl ?_)
  rw [nat_i64 (a := N) (by omega), add_i64 (a := o) (b := N) (by omega)]
  by_cases hjl : j < r.pairs.length
  · obtain ⟨s, hs⟩ := nth_lt hjl
    have hsp := pairB_split hs
    have hnum := hr_.num.keys s (nth_mem hs)
    have hsl := congrArg List.length hsp
    rw [hN] at hsl
    simp only [List.length_append, w2_length] at hsl
    rw [hsp] at hbt
    have hb1 := (BytesAt.append.1 (BytesAt.append.1 hbt).2).1
    generalize hC : (pairB (r.pairs.take j)).length = C at hb1 htk hsl
    have hb2 := BytesAt.append.1 hb1
    have hb3 := BytesAt.append.1 hb2.2
    simp only [w2_length] at hb2 hb3
    refine T.condT rfl (by simp only [decide_eq_true_eq]; omega) ?_
    repeat (first | refine za rfl rfl ?_ | refine zb rfl ?_ | refine zc rfl ?_)
    refine TL.allocZ 2 Tryz.zeroValue250 rfl rfl rfl (fun lb ls hls => ?_)
    obtain ⟨z0, z1, rfl⟩ := len2 hls
    repeat (first | refine za rfl rfl ?_ | refine zb rfl ?_ | refine zc rfl ?_)
    refine TL.call0 Tryz.call148 rfl rfl rfl (unpack16 b cap B (o + C) s.key hnum hB hb2.1) (fun w' hA => hr.mono (st_viewLe hA (Mc := []) fun _ hp => by cases hp)) (fun _ => TL.and fun _ => ?_)
    repeat (first | refine za rfl rfl ?_ | refine zb rfl ?_ | refine zc rfl ?_)
    refine TL.st 0 szk rfl rfl rfl rfl rfl rfl ?_
    repeat (first | refine za rfl rfl ?_ | refine zb rfl ?_ | refine zc rfl ?_)
    refine T.condF rfl rfl ?_
    repeat (first | refine za rfl rfl ?_ | refine zb rfl ?_ | refine zc rfl ?_)
    refine TL.call0 Tryz.call148 rfl rfl rfl (unpack16 b cap B (o + C + 2) s.data.length (by omega) hB hb3.1) (fun w' hA => hr.mono (st_viewLe hA (Mc := []) fun _ hp => by cases hp)) (fun _ => TL.and fun _ => ?_)
    repeat (first | refine za rfl rfl ?_ | refine zb rfl ?_ | refine zc rfl ?_)
    refine T.condF rfl rfl ?_
    repeat (first | refine za rfl rfl ?_ | refine zb rfl ?_ | refine zc rfl ?_)
    refine TL.make (len := s.data.length) (cap := s.data.length) el37 rfl rfl (Nat.le_refl _) (by omega) (by omega) rfl rfl (fun db ds hds _ => ?_)
    rw [Nat.mul_one] at hds
    repeat (first | refine za rfl rfl ?_ | refine zb rfl ?_ | refine zc rfl ?_)
    refine TL.st 1 szk rfl rfl rfl rfl rfl rfl ?_
    repeat (first | refine za rfl rfl ?_ | refine zb rfl ?_ | refine zc rfl ?_)
    refine TS.start [(0, true), (1, true), (2, true), (3, true), (4, true), (6, true), (7, true), (5, false), (8, true)] [(lb, .row [.int .u16 (s.key : Int), .slice (some ⟨db, 0, none⟩) s.data.length s.data.length] 250)] mixed (by kernel_rfl) (by kernel_rfl) (by decide) (by simp [setN]) ?_
    refine TS.p tbk rfl rfl ?_
    refine TS.y rfl rfl rfl rfl (Y.load szk rfl rfl (fun w h => h.cell (i := 0) rfl rfl)) ?_
    refine TS.p tbk rfl rfl ?_
    refine TS.p tbk rfl rfl ?_
    refine TS.y rfl rfl rfl rfl (Y.sl (l := o + C + 2 + 2) (m := B.length) tbk rfl rfl (by exact ⟨_, rfl⟩) rfl (by omega) hcap) ?_
    refine TS.p tbk rfl rfl ?_
    refine TS.p tbk rfl rfl ?_
    rw [nat_i64 (a := s.data.length) (by omega)]
    refine TS.copy (q := s.data.length) (m := B.length - (o + C + 2 + 2)) (news := s.data.map bv) 0 rfl el37 rfl rfl rfl rfl rfl (by omega) (SrcN.slice (fun w' hA => msg_part (cap := cap) hr hb3.2 (fun h => by rw [if_neg (by omega)]) (by omega) hA.ext) (by simp) (bytes_one _)) (by omega) (by simp [setN]) ?_
    refine TS.p tbk rfl rfl ?_
    refine TS.nil ?_
    rw [splice_all (by rw [List.length_map, hds])]
    repeat (first | refine za rfl rfl ?_ | refine zb rfl ?_ | refine zc rfl ?_)
    refine T.condF rfl (by simp) ?_
    repeat (first | refine za rfl rfl ?_ | refine zb rfl ?_ | refine zc rfl ?_)
    rw [nat_i64 (a := s.data.length) (by omega), add_i64 (a := o + C + 2 + 2) (b := s.data.length) (by omega)]
    refine TL.ldW (cs := [.int .u16 (s.key : Int), .slice (some ⟨db, 0, none⟩) s.data.length s.data.length]) 1 szk rfl rfl rfl rfl rfl rfl ?_
    refine TL.bsA (cs := [.int .u16 (s.key : Int), .slice (some ⟨db, 0, none⟩) s.data.length s.data.length]) el173 rfl rfl (by decide) rfl rfl (fun eb => ?_)
    have hd' : ∀ {w' : World} {M : Mem}, St (keys []) w M w' → ∀ {E' : Mem}, E' = (db, Ob.row (s.data.map bv) 5) :: E → (∀ p ∈ E', p ∈ M) → (E'.map (·.1)).Nodup → SlB (mv E') (.slice (some ⟨db, 0, none⟩) s.data.length s.data.length) s.data ∧ View.le (mv E) (mv E') := by
      intro w' M hA E' hE hs hnd
      subst hE
      exact ⟨SlB.of hnd (i := 0) rfl ⟨by rw [Nat.mul_one, List.take_of_length_le (by rw [List.length_map]; exact Nat.le_refl _)], by simp, by simp, Nat.le_refl _⟩, mv_sub hnd fun p hp => List.mem_cons_of_mem _ hp⟩
    have hoff : o + C + 2 + 2 + s.data.length = o + (pairB (r.pairs.take (j + 1))).length := by rw [pairB_take hs]; simp only [List.length_append, w2_length]; omega
    rcases hQ with ⟨h0, hq, hQ, hx⟩ | ⟨ab, acs, acap, hq, hQ, hown⟩
    · subst hq hQ hx h0
      refine TL.appendNil (m := 1) (news := [.int .u16 (s.key : Int), .slice (some ⟨db, 0, none⟩) s.data.length s.data.length]) el173 sl173 rfl rfl rfl rfl (Src.slice (fun w hA j u hj => by rw [add_zero', Nat.zero_add]; exact hA.cell (i := 0) rfl (by rw [nth_eq]; exact hj)) rfl (by simp [Value.oneCell'])) (by decide) (by decide) (by decide) (fun ab acs acap aown => ?_)
      repeat (first | refine za rfl rfl ?_ | refine zb rfl ?_ | refine zc rfl ?_)
      refine T.again ih ⟨1, .slice (some ⟨ab, 0, none⟩) 1 acap, [(ab, .row acs 250)], [] ++ [.int .u16 (s.key : Int), .slice (some ⟨db, 0, none⟩) s.data.length s.data.length], (db, .row (s.data.map bv) 5) :: E⟩ (by simp; omega) ⟨rfl, by rw [hoff]; rfl, rfl, rfl, rfl, rfl, trivial⟩ (fun w' hA => ?_)
      have hA' : St (keys []) w ((rb, .row zs 175) :: ([(ab, .row acs 250)] ++ ((db, .row (s.data.map bv) 5) :: E))) w' :=
        (hA.sub (M' := [(ab, .row acs 250), (db, .row (s.data.map bv) 5), (rb, .row zs 175)] ++ E) (List.Sublist.cons_cons _ (List.Sublist.cons _ (List.Sublist.cons_cons _ (List.Sublist.cons _ (List.Sublist.refl _)))))).perm (perm_count fun p => by simp only [List.countP_append, List.countP_cons, List.countP_nil]; omega)
      have hnd := (List.nodup_cons.1 (List.nodup_cons.1 hA'.nd).2).2
      obtain ⟨g1, g2⟩ := hd' hA' rfl (fun p hp => by simp at hp ⊢; rcases hp with rfl | hp; · simp
                                                     · simp [hp]) hnd
      exact ⟨⟨by simp; omega, .inr ⟨ab, acs, acap, rfl, rfl, by simpa using aown⟩, pairs_next hs (by simp) hall g2 g1⟩, hA'⟩
    · subst hq hQ
      have hxl := hown.length
      refine TL.append (m := 1) (news := [.int .u16 (s.key : Int), .slice (some ⟨db, 0, none⟩) s.data.length s.data.length]) 4 el173 sl173 rfl rfl rfl rfl rfl hown (Src.slice (fun w hA j u hj => by rw [add_zero', Nat.zero_add]; exact hA.cell (i := 0) rfl (by rw [nth_eq]; exact hj)) rfl (by simp [Value.oneCell'])) (by omega) (by omega) (fun ab' acs' acap' aown => ?_)
      repeat (first | refine za rfl rfl ?_ | refine zb rfl ?_ | refine zc rfl ?_)
      refine T.again ih ⟨j + 1, .slice (some ⟨ab', 0, none⟩) (j + 1) acap', [(ab', .row acs' 250)], xs ++ [.int .u16 (s.key : Int), .slice (some ⟨db, 0, none⟩) s.data.length s.data.length], (db, .row (s.data.map bv) 5) :: E⟩ (by simp; omega) ⟨rfl, by rw [hoff]; rfl, rfl, rfl, rfl, rfl, trivial⟩ (fun w' hA => ?_)
      have hA' : St (keys []) w ((rb, .row zs 175) :: ([(ab', .row acs' 250)] ++ ((db, .row (s.data.map bv) 5) :: E))) w' :=
        (hA.sub (M' := [(db, .row (s.data.map bv) 5), (rb, .row zs 175), (ab', .row acs' 250)] ++ E) (List.Sublist.cons _ (List.Sublist.cons_cons _ (List.Sublist.cons _ (List.Sublist.refl _))))).perm (perm_count fun p => by simp only [List.countP_append, List.countP_cons, List.countP_nil]; omega)
      have hnd := (List.nodup_cons.1 (List.nodup_cons.1 hA'.nd).2).2
      obtain ⟨g1, g2⟩ := hd' hA' rfl (fun p hp => by simp at hp ⊢; rcases hp with rfl | hp; · simp
                                                     · simp [hp]) hnd
      exact ⟨⟨by simp; omega, .inr ⟨ab', acs', acap', rfl, rfl, aown⟩, pairs_next hs hxl hall g2 g1⟩, hA'⟩
  · have hjq : j = r.pairs.length := by omega
    rw [hjq, List.take_length, hN]
    refine T.condF rfl (by simp) ?_
    repeat (first | refine za rfl rfl ?_ | refine zb rfl ?_ | refine zc rfl ?_)
    have hqo : ∃ qa qc, qv = .slice qa r.pairs.length qc := by
      rcases hQ with ⟨h0, hq, hQ, hx⟩ | ⟨ab, acs, acap, hq, hQ, hown⟩
      · exact ⟨none, 0, by rw [hq, ← hjq, h0]⟩
      · exact ⟨_, acap, by rw [hq, hjq]⟩
    obtain ⟨qa, qc, hqv⟩ := hqo
    subst hqv
    have hb := build_seq (vs := [.slice qa r.pairs.length qc]) pl175 rfl rfl
    refine TL.build (pv := partsFrom 0 [.slice qa r.pairs.length qc]) rfl rfl rfl hb ?_
    refine TL.stW (vs := [.slice qa r.pairs.length qc]) 0 szk rfl rfl rfl rfl rfl hz (by simp [Value.oneCell']) ?_
    repeat (first | refine za rfl rfl ?_ | refine zb rfl ?_ | refine zc rfl ?_)
    refine T.retG Tryz.func168 (.cons (RV.cellW 0 szk rfl rfl rfl rfl) (.cons (RV.tmp rfl) .nil)) (fun w hA => ⟨(.slice qa r.pairs.length qc, Q ++ E), ?_, ?_, hA.sub (List.Sublist.cons _ (List.Sublist.refl _))⟩)
    · simp only [bodyCells, hk', pack]
    · simp only [bodyX, hk']
      have hnd := (List.nodup_cons.1 hA.nd).2
      rcases hQ with ⟨h0, hq, hQ, hx⟩ | ⟨ab, acs, acap, hq, hQ, hown⟩
      · have h00 : r.pairs.length = 0 := by omega
        rw [hq]
        exact .inl ⟨⟨_, _, rfl⟩, List.length_eq_zero_iff.1 h00⟩
      · subst hQ
        rw [hq, hjq]
        rw [hjq] at hown hall
        exact SlP.of (o := 0) hnd (i := 0) rfl hown (fun i p hi hp => let ⟨dv, a1, a2, a3⟩ := hall i p hi hp; ⟨dv, a1, a2, a3.mono (mv_sub hnd fun p hp => List.mem_append_right _ hp)⟩)
end X
end Go.Proofs.YtifnodoffgfpbaaGreatDoor
