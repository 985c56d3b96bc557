/- Texts F21, F22, F23. Contracts: Message.Pack. -/
import Derived.Test.YtifnodoffgfpbaaGreatDoorPah
namespace Go.Proofs.YtifnodoffgfpbaaGreatDoor
open Go
namespace X
theorem perm_count {α : Type} {l l' : List α} (h : ∀ p : α → Bool, l.countP p = l'.countP p) : l.Perm l' := by
  classical
  exact List.perm_iff_count.2 fun a => h _
theorem st_outL {Z : List Nat} {w0 w : World} {E Ml Mc : Mem} (h : St Z w0 (Ml ++ Mc) w) (hE : ∀ p ∈ E, p ∈ Ml) : View.le (mv E) (view (keys Mc) w) := by
  have hn := h.nd
  rw [List.map_append, List.nodup_append] at hn
  exact (mv_sub hn.1 hE).trans (st_out h)
theorem st_rowL {Z : List Nat} {w0 w : World} {Ml Mc : Mem} (h : St Z w0 (Ml ++ Mc) w) {i b : Nat} {cs : List Value} {t : TypeId} (hi : nth Ml i = some (b, .row cs t)) {off : Nat} {vs : List Value} (hs : ∀ j v, nth vs j = some v → nth cs (off + j) = some v) : RowAt (view (keys Mc) w) b off vs := by
  have hn := h.nd
  rw [List.map_append, List.nodup_append] at hn
  exact (mv_row hn.1 hi hs).mono (st_out h)
def mcells (h : Hd) (qv s1 s2 s3 : Value) : List Value := hdCells h ++ [qv, s1, s2, s3]
def arrs (a1 a2 a3 : Nat) (r1 r2 r3 : List Value) : Mem := [(a3, .row r3 122), (a2, .row r2 122), (a1, .row r1 122)]
theorem messagePack (mb : Nat) (m : Ms) (hm : m.Ok) (qv : Value) (a1 a2 a3 c1 c2 c3 : Nat) (r1 r2 r3 : List Value) :
    Ct (β := Pk) Tryz.prog 24 [ptr mb 0] (arrs a1 a2 a3 r1 r2 r3)
      (fun w => let h := view (keys (arrs a1 a2 a3 r1 r2 r3)) w
        RowAt h mb 0 (mcells m.head qv (.slice (some ⟨a1, 0, none⟩) m.one.length c1) (.slice (some ⟨a2, 0, none⟩) m.two.length c2) (.slice (some ⟨a3, 0, none⟩) m.three.length c3)) ∧ SlQ h qv m.asks ∧ RsFrom h 0 r1 m.one ∧ RsFrom h 0 r2 m.two ∧ RsFrom h 0 r3 m.three)
      PkV (fun y _ => y.ok H0 none ∧ y.B.length ≤ 200000 ∧ MsgAt (kn y.B H0) m) (fun y => y.mem none) := by
  intro w hS ⟨hr, hq, hs1, hs2, hs3⟩
  refine calls_of_T (m := 9) Tryz.func24 rfl rfl (by simp) hS ?_
  repeat (first | refine za rfl rfl ?_ | refine zb rfl ?_ | refine zc rfl ?_)
  refine TL.make (len := 0) (cap := 512) el37 rfl rfl (by decide) (by decide) (by decide) rfl rfl (fun b zs hzl _ => ?_)
  refine TL.mono (fun w hA => hA.perm (M' := [] ++ (arrs a1 a2 a3 r1 r2 r3 ++ ({ b := b, cs := zs, cap := 512, B := [], es := [], ck := 0, ms := [] } : Pk).mem none)) (List.perm_append_singleton (b, Ob.row zs 5) (arrs a1 a2 a3 r1 r2 r3))) ?_
  refine TL.callS [] Tryz.call25 rfl rfl rfl rfl (appendPack mb m hm qv a1 a2 a3 c1 c2 c3 r1 r2 r3 { b := b, cs := zs, cap := 512, B := [], es := [], ck := 0, ms := [] } ⟨⟨rfl, rfl, by rw [hzl]; exact Nat.le_refl _, Nat.zero_le _⟩, rfl, by simp, fun _ => rfl, ⟨Nat.zero_le _, fun o h => by cases h⟩⟩ rfl) (fun w' hA => ?_) (fun y => TL.and fun hy => ?_)
  · have hle := ext_view2 (Z' := keys (arrs a1 a2 a3 r1 r2 r3 ++ ({ b := b, cs := zs, cap := 512, B := [], es := [], ck := 0, ms := [] } : Pk).mem none)) hA.ext (fun z hz => by
      obtain ⟨p, hp, rfl⟩ := List.mem_map.1 hz
      exact hA.mine p (by simpa using hp))
    exact ⟨hr.mono hle, hq.mono hle, hs1.mono hle, hs2.mono hle, hs3.mono hle⟩
  repeat (first | refine za rfl rfl ?_ | refine zb rfl ?_ | refine zc rfl ?_)
  exact T.ret Tryz.func24 rfl (fun w hA => ⟨y, rfl, hy, hA⟩)
end X
namespace X
theorem el70 : Elem Tryz.prog 70 79 258 260 := elem_of (by kernel_rfl)
theorem sl70 : (∃ e2, Tryz.prog.underlying 70 = some (.slice e2)) ∨ Tryz.prog.underlying 70 = some .string := .inl ⟨_, Tryz.underlying70⟩
theorem qCells_one {s : Bs} {t c : Nat} : ∀ v ∈ qCells s t c, v.oneCell' = true := one_app nameCells_one (by simp [Value.oneCell'])
theorem hd_len (h : Hd) : (hdCells h).length = 10 := rfl
theorem hdCells_one (h : Hd) : ∀ v ∈ hdCells h, v.oneCell' = true := by
  intro v hv; simp [hdCells] at hv; rcases hv with rfl | rfl | rfl | rfl | rfl | rfl | rfl | rfl | rfl | rfl <;> rfl
theorem mcells_one {h : Hd} {a b c d : Value} (ha : a.oneCell' = true) (hb : b.oneCell' = true) (hc : c.oneCell' = true) (hd : d.oneCell' = true) : ∀ v ∈ mcells h a b c d, v.oneCell' = true :=
  one_app (hdCells_one h) (one_cons ha (one_cons hb (one_cons hc (one_cons hd one_nil))))
theorem mcells_len (h : Hd) (a b c d : Value) : (mcells h a b c d).length = 14 := rfl
theorem build72 (h : Hd) (a1 n1 c1 a2 n2 c2 a3 n3 c3 : Nat) (w : World) :
    (Instr.build 72 #[(0, .agg (hdCells h).toArray), (2, .slice (some ⟨a1, 0, none⟩) n1 c1), (3, .slice (some ⟨a2, 0, none⟩) n2 c2), (4, .slice (some ⟨a3, 0, none⟩) n3 c3)]).run Tryz.prog w = .ok (.agg (mcells h (.slice none 0 0) (.slice (some ⟨a1, 0, none⟩) n1 c1) (.slice (some ⟨a2, 0, none⟩) n2 c2) (.slice (some ⟨a3, 0, none⟩) n3 c3)).toArray) w := by kernel_rfl
structure QX where
  i : Nat
  qv : Value
  Q : Mem
  xs : List Value
def QX.ok (x : QX) (asks : List Ak) : Prop := x.i ≤ asks.length ∧ ((x.i = 0 ∧ x.qv = .slice none 0 0 ∧ x.Q = [] ∧ x.xs = []) ∨ ∃ qb qcs qcap, x.qv = .slice (some ⟨qb, 0, none⟩) x.i qcap ∧ x.Q = [(qb, .row qcs 79)] ∧ Own qcs x.i qcap 258 x.xs) ∧
  ∀ j a, j < x.i → nth asks j = some a → ∀ k v, nth (qCells a.name a.typ a.cls) k = some v → nth x.xs (j * 258 + k) = some v
theorem implPack (m : Ms) (hm : m.Ok) (mv_ : Value) (av ov tv rv : Value) (hmv : mv_ = .agg (msCells m.head av ov tv rv).toArray) :
    Ct (β := Pk) Tryz.prog 9 [.slice none 0 0, mv_] [] (fun w => SlA (view [] w) av m.asks ∧ SlR (view [] w) ov m.one ∧ SlR (view [] w) tv m.two ∧ SlR (view [] w) rv m.three)
      (fun y => .tuple #[y.sl, .bool true]) (fun y _ => y.ok H0 none ∧ y.B.length ≤ 200000 ∧ MsgAt (kn y.B H0) m) (fun y => y.mem none) := by
  intro w hS ⟨ha, h1, h2, h3⟩
  subst hmv
  have hfew := hm.few
  obtain ⟨aa, ac, has, _⟩ := ha.shape
  obtain ⟨_, _, ho1, _⟩ := h1.shape
  obtain ⟨_, _, ho2, _⟩ := h2.shape
  obtain ⟨_, _, ho3, _⟩ := h3.shape
  have o1 : ov.oneCell' = true := by rw [ho1]; rfl
  have o2 : tv.oneCell' = true := by rw [ho2]; rfl
  have o3 : rv.oneCell' = true := by rw [ho3]; rfl
  subst has
  clear ho1 ho2 ho3
  refine calls_of_T (m := 60) Tryz.func9 rfl rfl (by simp) hS ?_
  repeat (first | refine za rfl rfl ?_ | refine zb rfl ?_ | refine zc rfl ?_)
  refine TL.box (cs := msCells m.head (.slice aa m.asks.length ac) ov tv rv) rfl rfl rfl rfl (fun xb => ?_)
  repeat (first | refine za rfl rfl ?_ | refine zb rfl ?_ | refine zc rfl ?_)
  refine T.mergeA (α := Nat × RsX × RsX × RsX) (fun x => [(0, .slice none 0 0), (3, ptr xb 0), (6, ptr x.1 0)])
    (fun x w' => ((m.one.length ≤ x.2.1.cap ∧ RsFrom (mv x.2.1.E) 0 x.2.1.acs m.one) ∧ (m.two.length ≤ x.2.2.1.cap ∧ RsFrom (mv x.2.2.1.E) 0 x.2.2.1.acs m.two) ∧ (m.three.length ≤ x.2.2.2.cap ∧ RsFrom (mv x.2.2.2.E) 0 x.2.2.2.acs m.three)) ∧
      St (keys []) w ((x.1, .row (mcells m.head (.slice none 0 0) (.slice (some ⟨x.2.1.ab, 0, none⟩) m.one.length x.2.1.cap) (.slice (some ⟨x.2.2.1.ab, 0, none⟩) m.two.length x.2.2.1.cap) (.slice (some ⟨x.2.2.2.ab, 0, none⟩) m.three.length x.2.2.2.cap)) 72) :: ([] ++ ((xb, .row (msCells m.head (.slice aa m.asks.length ac) ov tv rv) 28) :: ((x.2.1.E ++ (x.2.2.1.E ++ x.2.2.2.E)) ++ arrs x.2.1.ab x.2.2.1.ab x.2.2.2.ab x.2.1.acs x.2.2.1.acs x.2.2.2.acs)))) w') ?_ (fun H => ?_)
  case refine_2 =>
    refine TR.start 15 [(xb, .row (msCells m.head (.slice aa m.asks.length ac) ov tv rv) 28)] mixed (by kernel_rfl) (by decide) (by simp) ?_
    refine TR.p 0 tbk rfl (by kernel_rfl) (by kernel_rfl) rfl ?_
    refine TR.q 1 rfl (by kernel_rfl) (by kernel_rfl) rfl rfl rfl (Y.loadA (vs := hdCells m.head) szk rfl rfl rfl (fun w h i v hv => h.cell (i := 0) rfl (by simp only [Nat.zero_add]; rw [nth_eq] at hv ⊢; exact (List.getElem?_append_left (List.getElem?_eq_some_iff.1 hv).1).trans hv))) ?_
    refine TR.p 3 tbk rfl (by kernel_rfl) (by kernel_rfl) rfl ?_
    refine TR.q 4 rfl (by kernel_rfl) (by kernel_rfl) rfl rfl rfl (Y.load szk rfl rfl (fun w h => h.cell (i := 0) rfl rfl)) ?_
    refine TR.p 6 tbk rfl (by kernel_rfl) (by kernel_rfl) rfl ?_
    refine TR.q 7 rfl (by kernel_rfl) (by kernel_rfl) rfl rfl rfl (Y.load szk rfl rfl (fun w h => h.cell (i := 0) rfl rfl)) ?_
    refine TR.p 9 tbk rfl (by kernel_rfl) (by kernel_rfl) rfl ?_
    refine TR.q 10 rfl (by kernel_rfl) (by kernel_rfl) rfl rfl rfl (Y.load szk rfl rfl (fun w h => h.cell (i := 0) rfl rfl)) ?_
    refine TR.two (i := 2) (j := 13) (by kernel_rfl) ?_ ?_
    case refine_2 =>
      refine RS.allocZ 14 rfl Tryz.zeroValue72 (by kernel_rfl) rfl rfl (fun _ _ => by simp) (fun mb zs hz => ?_)
      refine TR.lin [(2, false), (5, false), (8, false), (11, false), (12, true), (14, false)] (by kernel_rfl) rfl ?_
      refine TS.call0 rfl Tryz.call21 rfl rfl rfl (headerOf m.head) (fun _ _ => trivial) (fun _ => by simp) (fun _ => TS.and fun _ => ?_)
      refine TS.call0 rfl Tryz.call22 rfl rfl rfl (resources m.one hm.one (by omega) ov) (fun w' hA => h1.mono (st_viewLe hA (Mc := []) fun _ hp => by cases hp)) (fun _ => by simp) (fun y1 => TS.and fun g1 => ?_)
      refine TS.call0 rfl Tryz.call22 rfl rfl rfl (resources m.two hm.two (by omega) tv) (fun w' hA => h2.mono (st_viewLe hA (Mc := []) fun _ hp => by cases hp)) (fun _ => by simp) (fun y2 => TS.and fun g2 => ?_)
      refine TS.call0 rfl Tryz.call22 rfl rfl rfl (resources m.three hm.three (by omega) rv) (fun w' hA => h3.mono (st_viewLe hA (Mc := []) fun _ hp => by cases hp)) (fun _ => by simp) (fun y3 => TS.and fun g3 => ?_)
      refine TS.y rfl rfl rfl rfl (Y.build (pv := [(0, .agg (hdCells m.head).toArray), (2, (.slice (some ⟨y1.ab, 0, none⟩) m.one.length y1.cap)), (3, (.slice (some ⟨y2.ab, 0, none⟩) m.two.length y2.cap)), (4, (.slice (some ⟨y3.ab, 0, none⟩) m.three.length y3.cap))]) rfl (build72 m.head _ _ _ _ _ _ _ _ _)) ?_
      refine TS.mono (fun w hA => hA.perm (M' := (mb, .row zs 72) :: ([] ++ ((xb, .row (msCells m.head (.slice aa m.asks.length ac) ov tv rv) 28) :: ((y1.E ++ (y2.E ++ y3.E)) ++ arrs y1.ab y2.ab y3.ab y1.acs y2.acs y3.acs)))) (perm_count fun p => by simp only [arrs, List.countP_append, List.countP_cons, List.countP_nil]; omega)) ?_
      refine TS.stW (us := mcells m.head (.slice none 0 0) (.slice (some ⟨y1.ab, 0, none⟩) m.one.length y1.cap) (.slice (some ⟨y2.ab, 0, none⟩) m.two.length y2.cap) (.slice (some ⟨y3.ab, 0, none⟩) m.three.length y3.cap)) 0 rfl szk rfl rfl rfl rfl rfl hz (mcells_one rfl rfl rfl rfl) (by simp [setN]) ?_
      refine TS.nil ?_
      exact T.sub (L' := [(0, .slice none 0 0), (3, ptr xb 0), (6, ptr mb 0)]) ⟨rfl, rfl, rfl, trivial⟩ (T.mono (fun w hA => ⟨⟨g1, g2, g3⟩, hA⟩) (H (mb, y1, y2, y3)))
    refine RS.call0 rfl Tryz.call21 rfl rfl rfl (headerOf m.head) (fun _ _ => trivial) (fun _ => by simp) (fun _ => TR.and fun _ => ?_)
    refine TR.two (i := 5) (j := 13) (by kernel_rfl) ?_ ?_
    case refine_2 =>
      refine RS.allocZ 14 rfl Tryz.zeroValue72 (by kernel_rfl) rfl rfl (fun _ _ => by simp) (fun mb zs hz => ?_)
      refine TR.lin [(5, false), (8, false), (11, false), (12, true), (14, false)] (by kernel_rfl) rfl ?_
      refine TS.call0 rfl Tryz.call22 rfl rfl rfl (resources m.one hm.one (by omega) ov) (fun w' hA => h1.mono (st_viewLe hA (Mc := []) fun _ hp => by cases hp)) (fun _ => by simp) (fun y1 => TS.and fun g1 => ?_)
      refine TS.call0 rfl Tryz.call22 rfl rfl rfl (resources m.two hm.two (by omega) tv) (fun w' hA => h2.mono (st_viewLe hA (Mc := []) fun _ hp => by cases hp)) (fun _ => by simp) (fun y2 => TS.and fun g2 => ?_)
      refine TS.call0 rfl Tryz.call22 rfl rfl rfl (resources m.three hm.three (by omega) rv) (fun w' hA => h3.mono (st_viewLe hA (Mc := []) fun _ hp => by cases hp)) (fun _ => by simp) (fun y3 => TS.and fun g3 => ?_)
      refine TS.y rfl rfl rfl rfl (Y.build (pv := [(0, .agg (hdCells m.head).toArray), (2, (.slice (some ⟨y1.ab, 0, none⟩) m.one.length y1.cap)), (3, (.slice (some ⟨y2.ab, 0, none⟩) m.two.length y2.cap)), (4, (.slice (some ⟨y3.ab, 0, none⟩) m.three.length y3.cap))]) rfl (build72 m.head _ _ _ _ _ _ _ _ _)) ?_
      refine TS.mono (fun w hA => hA.perm (M' := (mb, .row zs 72) :: ([] ++ ((xb, .row (msCells m.head (.slice aa m.asks.length ac) ov tv rv) 28) :: ((y1.E ++ (y2.E ++ y3.E)) ++ arrs y1.ab y2.ab y3.ab y1.acs y2.acs y3.acs)))) (perm_count fun p => by simp only [arrs, List.countP_append, List.countP_cons, List.countP_nil]; omega)) ?_
      refine TS.stW (us := mcells m.head (.slice none 0 0) (.slice (some ⟨y1.ab, 0, none⟩) m.one.length y1.cap) (.slice (some ⟨y2.ab, 0, none⟩) m.two.length y2.cap) (.slice (some ⟨y3.ab, 0, none⟩) m.three.length y3.cap)) 0 rfl szk rfl rfl rfl rfl rfl hz (mcells_one rfl rfl rfl rfl) (by simp [setN]) ?_
      refine TS.nil ?_
      exact T.sub (L' := [(0, .slice none 0 0), (3, ptr xb 0), (6, ptr mb 0)]) ⟨rfl, rfl, rfl, trivial⟩ (T.mono (fun w hA => ⟨⟨g1, g2, g3⟩, hA⟩) (H (mb, y1, y2, y3)))
    refine RS.call0 rfl Tryz.call22 rfl rfl rfl (resources m.one hm.one (by omega) ov) (fun w' hA => h1.mono (st_viewLe hA (Mc := []) fun _ hp => by cases hp)) (fun _ => by simp) (fun y1 => TR.and fun g1 => ?_)
    refine TR.two (i := 8) (j := 13) (by kernel_rfl) ?_ ?_
    case refine_2 =>
      refine RS.allocZ 14 rfl Tryz.zeroValue72 (by kernel_rfl) rfl rfl (fun _ _ => by simp) (fun mb zs hz => ?_)
      refine TR.lin [(8, false), (11, false), (12, true), (14, false)] (by kernel_rfl) rfl ?_
      refine TS.call0 rfl Tryz.call22 rfl rfl rfl (resources m.two hm.two (by omega) tv) (fun w' hA => h2.mono (st_viewLe hA (Mc := []) fun _ hp => by cases hp)) (fun _ => by simp) (fun y2 => TS.and fun g2 => ?_)
      refine TS.call0 rfl Tryz.call22 rfl rfl rfl (resources m.three hm.three (by omega) rv) (fun w' hA => h3.mono (st_viewLe hA (Mc := []) fun _ hp => by cases hp)) (fun _ => by simp) (fun y3 => TS.and fun g3 => ?_)
      refine TS.y rfl rfl rfl rfl (Y.build (pv := [(0, .agg (hdCells m.head).toArray), (2, (.slice (some ⟨y1.ab, 0, none⟩) m.one.length y1.cap)), (3, (.slice (some ⟨y2.ab, 0, none⟩) m.two.length y2.cap)), (4, (.slice (some ⟨y3.ab, 0, none⟩) m.three.length y3.cap))]) rfl (build72 m.head _ _ _ _ _ _ _ _ _)) ?_
      refine TS.mono (fun w hA => hA.perm (M' := (mb, .row zs 72) :: ([] ++ ((xb, .row (msCells m.head (.slice aa m.asks.length ac) ov tv rv) 28) :: ((y1.E ++ (y2.E ++ y3.E)) ++ arrs y1.ab y2.ab y3.ab y1.acs y2.acs y3.acs)))) (perm_count fun p => by simp only [arrs, List.countP_append, List.countP_cons, List.countP_nil]; omega)) ?_
      refine TS.stW (us := mcells m.head (.slice none 0 0) (.slice (some ⟨y1.ab, 0, none⟩) m.one.length y1.cap) (.slice (some ⟨y2.ab, 0, none⟩) m.two.length y2.cap) (.slice (some ⟨y3.ab, 0, none⟩) m.three.length y3.cap)) 0 rfl szk rfl rfl rfl rfl rfl hz (mcells_one rfl rfl rfl rfl) (by simp [setN]) ?_
      refine TS.nil ?_
      exact T.sub (L' := [(0, .slice none 0 0), (3, ptr xb 0), (6, ptr mb 0)]) ⟨rfl, rfl, rfl, trivial⟩ (T.mono (fun w hA => ⟨⟨g1, g2, g3⟩, hA⟩) (H (mb, y1, y2, y3)))
    refine RS.call0 rfl Tryz.call22 rfl rfl rfl (resources m.two hm.two (by omega) tv) (fun w' hA => h2.mono (st_viewLe hA (Mc := []) fun _ hp => by cases hp)) (fun _ => by simp) (fun y2 => TR.and fun g2 => ?_)
    refine TR.two (i := 11) (j := 13) (by kernel_rfl) ?_ ?_
    case refine_2 =>
      refine RS.allocZ 14 rfl Tryz.zeroValue72 (by kernel_rfl) rfl rfl (fun _ _ => by simp) (fun mb zs hz => ?_)
      refine TR.lin [(11, false), (12, true), (14, false)] (by kernel_rfl) rfl ?_
      refine TS.call0 rfl Tryz.call22 rfl rfl rfl (resources m.three hm.three (by omega) rv) (fun w' hA => h3.mono (st_viewLe hA (Mc := []) fun _ hp => by cases hp)) (fun _ => by simp) (fun y3 => TS.and fun g3 => ?_)
      refine TS.y rfl rfl rfl rfl (Y.build (pv := [(0, .agg (hdCells m.head).toArray), (2, (.slice (some ⟨y1.ab, 0, none⟩) m.one.length y1.cap)), (3, (.slice (some ⟨y2.ab, 0, none⟩) m.two.length y2.cap)), (4, (.slice (some ⟨y3.ab, 0, none⟩) m.three.length y3.cap))]) rfl (build72 m.head _ _ _ _ _ _ _ _ _)) ?_
      refine TS.mono (fun w hA => hA.perm (M' := (mb, .row zs 72) :: ([] ++ ((xb, .row (msCells m.head (.slice aa m.asks.length ac) ov tv rv) 28) :: ((y1.E ++ (y2.E ++ y3.E)) ++ arrs y1.ab y2.ab y3.ab y1.acs y2.acs y3.acs)))) (perm_count fun p => by simp only [arrs, List.countP_append, List.countP_cons, List.countP_nil]; omega)) ?_
      refine TS.stW (us := mcells m.head (.slice none 0 0) (.slice (some ⟨y1.ab, 0, none⟩) m.one.length y1.cap) (.slice (some ⟨y2.ab, 0, none⟩) m.two.length y2.cap) (.slice (some ⟨y3.ab, 0, none⟩) m.three.length y3.cap)) 0 rfl szk rfl rfl rfl rfl rfl hz (mcells_one rfl rfl rfl rfl) (by simp [setN]) ?_
      refine TS.nil ?_
      exact T.sub (L' := [(0, .slice none 0 0), (3, ptr xb 0), (6, ptr mb 0)]) ⟨rfl, rfl, rfl, trivial⟩ (T.mono (fun w hA => ⟨⟨g1, g2, g3⟩, hA⟩) (H (mb, y1, y2, y3)))
    refine RS.call0 rfl Tryz.call22 rfl rfl rfl (resources m.three hm.three (by omega) rv) (fun w' hA => h3.mono (st_viewLe hA (Mc := []) fun _ hp => by cases hp)) (fun _ => by simp) (fun y3 => TR.and fun g3 => ?_)
    refine TR.lin [(12, true), (13, false), (14, false)] (by kernel_rfl) rfl ?_
    refine TS.y rfl rfl rfl rfl (Y.build (pv := [(0, .agg (hdCells m.head).toArray), (2, (.slice (some ⟨y1.ab, 0, none⟩) m.one.length y1.cap)), (3, (.slice (some ⟨y2.ab, 0, none⟩) m.two.length y2.cap)), (4, (.slice (some ⟨y3.ab, 0, none⟩) m.three.length y3.cap))]) rfl (build72 m.head _ _ _ _ _ _ _ _ _)) ?_
    refine TS.allocZ 14 rfl Tryz.zeroValue72 (by kernel_rfl) rfl rfl (fun _ _ => by simp) (fun mb zs hz => ?_)
    refine TS.mono (fun w hA => hA.perm (M' := (mb, .row zs 72) :: ([] ++ ((xb, .row (msCells m.head (.slice aa m.asks.length ac) ov tv rv) 28) :: ((y1.E ++ (y2.E ++ y3.E)) ++ arrs y1.ab y2.ab y3.ab y1.acs y2.acs y3.acs)))) (perm_count fun p => by simp only [arrs, List.countP_append, List.countP_cons, List.countP_nil]; omega)) ?_
    refine TS.stW (us := mcells m.head (.slice none 0 0) (.slice (some ⟨y1.ab, 0, none⟩) m.one.length y1.cap) (.slice (some ⟨y2.ab, 0, none⟩) m.two.length y2.cap) (.slice (some ⟨y3.ab, 0, none⟩) m.three.length y3.cap)) 0 rfl szk rfl rfl rfl rfl rfl hz (mcells_one rfl rfl rfl rfl) (by simp [setN]) ?_
    refine TS.nil ?_
    exact T.sub (L' := [(0, .slice none 0 0), (3, ptr xb 0), (6, ptr mb 0)]) ⟨rfl, rfl, rfl, trivial⟩ (T.mono (fun w hA => ⟨⟨g1, g2, g3⟩, hA⟩) (H (mb, y1, y2, y3)))
  rintro ⟨mb, y1, y2, y3⟩
  refine T.and fun ⟨g1, g2, g3⟩ => ?_
  generalize hC : msCells m.head (.slice aa m.asks.length ac) ov tv rv = C
  have hC10 : nth C 10 = some (.slice aa m.asks.length ac) := by rw [← hC]; rfl
  generalize hS1 : Value.slice (some ⟨y1.ab, 0, none⟩) m.one.length y1.cap = s1
  generalize hS2 : Value.slice (some ⟨y2.ab, 0, none⟩) m.two.length y2.cap = s2
  generalize hS3 : Value.slice (some ⟨y3.ab, 0, none⟩) m.three.length y3.cap = s3
  generalize hR : (xb, Ob.row C 28) :: ((y1.E ++ (y2.E ++ y3.E)) ++ arrs y1.ab y2.ab y3.ab y1.acs y2.acs y3.acs) = Rest
  simp only [hS1, hS2, hS3, hR]
  repeat (first | refine za rfl rfl ?_ | refine zb rfl ?_ | refine zc rfl ?_)
  have hld : ∀ w', St (keys []) w ((mb, .row (mcells m.head (.slice none 0 0) s1 s2 s3) 72) :: ([] ++ Rest)) w' → w'.cell? ⟨xb, 0 + 10, none⟩ = some (.slice aa m.asks.length ac) := fun w' hA => by
    subst hR
    exact hA.cell (i := 1) rfl hC10
  refine TL.y rfl rfl rfl (Y.load szk rfl rfl hld) ?_
  repeat (first | refine za rfl rfl ?_ | refine zb rfl ?_ | refine zc rfl ?_)
  refine T.loop (α := QX) (fun x => [(0, .slice none 0 0), (3, ptr xb 0), (6, ptr mb 0), (27, .slice aa m.asks.length ac), (28, .int .i64 (m.asks.length : Int)), (29, .int .i64 (x.i : Int))])
    (fun x w' => x.ok m.asks ∧ St (keys []) w ((mb, .row (mcells m.head x.qv s1 s2 s3) 72) :: (x.Q ++ Rest)) w')
    (fun x => m.asks.length - x.i) ⟨0, .slice none 0 0, [], []⟩ ⟨rfl, rfl, rfl, rfl, rfl, rfl, trivial⟩
    (fun w' hA => ⟨⟨Nat.zero_le _, .inl ⟨rfl, rfl, rfl, rfl⟩, fun j a hj => (Nat.not_lt_zero _ hj).elim⟩, hA⟩) ?_
  rintro ⟨i, qv, Q, xs⟩ ih
  refine T.and fun ⟨hi, hQ, hall⟩ => ?_
  simp only at hi hQ hall
  repeat (first | refine za rfl rfl ?_ | refine zb rfl ?_ | refine zc rfl ?_)
  by_cases hlt : i < m.asks.length
  · refine T.condT rfl (by simpa using hlt) ?_
    obtain ⟨a, hask⟩ := nth_lt hlt
    obtain ⟨b, o, cap', cs, hv, _, _, hrs, hcs⟩ := ha.at hask
    injection hv with hv1 _ hv3
    subst hv1 hv3 hcs
    have h255 : a.name.length ≤ 255 := by have := (hm.asks a (nth_mem hask)).name.len; omega
    repeat (first | refine za rfl rfl ?_ | refine zb rfl ?_ | refine zc rfl ?_)
    refine TL.ix (j := i) tbk rfl rfl rfl rfl rfl rfl hlt ?_
    refine TL.ldRA hrs szk rfl rfl rfl rfl rfl ?_
    refine TL.allocZ 3 Tryz.zeroValue51 rfl rfl rfl (fun lb zs hz => ?_)
    refine TL.stW (vs := [str a.name, .int .u16 (a.typ : Int), .int .u16 (a.cls : Int)]) 0 szk rfl rfl rfl rfl rfl hz (by simp [Value.oneCell', str]) ?_
    repeat (first | refine za rfl rfl ?_ | refine zb rfl ?_ | refine zc rfl ?_)
    have hqo : qv.oneCell' = true := by rcases hQ with ⟨_, e, _⟩ | ⟨_, _, _, e, _⟩ <;> rw [e] <;> rfl
    have hnx : ∀ (xs' : List Value), xs' = xs ++ qCells a.name a.typ a.cls → xs.length = i * 258 → ∀ j a', j < i + 1 → nth m.asks j = some a' → ∀ k v, nth (qCells a'.name a'.typ a'.cls) k = some v → nth xs' (j * 258 + k) = some v := by
      intro xs' hx' hxl j a' hj ha' k v hk
      subst hx'
      rcases Nat.lt_or_ge j i with hji | hji
      · have := hall j a' hji ha' k v hk
        rw [nth_eq] at this ⊢
        rw [List.getElem?_append_left (List.getElem?_eq_some_iff.1 this).1]; exact this
      · have : j = i := by omega
        subst this
        rw [hask] at ha'
        simp only [Option.some.injEq] at ha'
        subst ha'
        rw [nth_eq] at hk ⊢
        rw [List.getElem?_append_right (by omega), hxl, Nat.add_sub_cancel_left]; exact hk
    refine T.mergeA (α := QX) (fun x => [(0, .slice none 0 0), (3, ptr xb 0), (6, ptr mb 0), (27, .slice (some ⟨b, o, none⟩) m.asks.length ac), (28, .int .i64 (m.asks.length : Int)), (29, .int .i64 (i : Int))])
      (fun x w' => (x.i = i + 1 ∧ x.ok m.asks) ∧ St (keys []) w ((mb, .row (mcells m.head x.qv s1 s2 s3) 72) :: (x.Q ++ Rest)) w') ?_ (fun H => ?_)
    case refine_2 =>
      refine TR.start 8 [(lb, .row [str a.name, .int .u16 (a.typ : Int), .int .u16 (a.cls : Int)] 51)] mixed (by kernel_rfl) (by decide) (by simp [setN]) ?_
      refine TR.p 0 tbk rfl (by kernel_rfl) (by kernel_rfl) rfl ?_
      refine TR.q 2 rfl (by kernel_rfl) (by kernel_rfl) rfl rfl rfl (Y.loadA (vs := [str a.name, .int .u16 (a.typ : Int), .int .u16 (a.cls : Int)]) szk rfl rfl rfl (fun w h i v hv => h.cell (i := 0) rfl (by rw [Nat.zero_add]; exact hv))) ?_
      refine TR.two (i := 1) (j := 3) (by kernel_rfl) ?_ ?_
      · refine RS.l rfl rfl rfl rfl (Y.load szk rfl rfl (fun w h => h.cell (i := 1) rfl rfl)) (by simp [setN]) ?_
        refine TR.lin [(3, false), (4, false), (5, false), (6, true), (7, false)] (by kernel_rfl) rfl ?_
        refine TS.call0 rfl Tryz.call23 rfl rfl rfl (questionOf a h255) (fun _ _ => trivial) (fun _ => by simp [setN]) (fun _ => TS.and fun _ => ?_)
        refine TS.bsA (us := qCells a.name a.typ a.cls) rfl el70 rfl (qCells_length h255) (by decide) rfl rfl (fun b => by simp [setN]) (fun eb => ?_)
        rcases hQ with ⟨h0, hq, hQ, hx⟩ | ⟨qb, qcs, qcap, hq, hQ, hown⟩
        · subst hq hQ hx h0
          refine TS.appendNil (m := 1) (news := qCells a.name a.typ a.cls) rfl el70 sl70 rfl rfl rfl rfl (Src.slice (fun w hA j u hj => by rw [add_zero', Nat.zero_add]; exact hA.cell (i := 0) rfl (by rw [nth_eq]; exact hj)) (qCells_length h255) qCells_one) (by decide) (by decide) (by decide) (fun b cs => by simp [setN]) (fun qb qcs qcap qown => ?_)
          refine TS.p tbk rfl rfl ?_
          refine TS.st 3 rfl szk rfl rfl rfl rfl rfl rfl (by simp [setN]) ?_
          refine TS.nil ?_
          refine T.sub (L' := [(0, .slice none 0 0), (3, ptr xb 0), (6, ptr mb 0), (27, .slice (some ⟨b, o, none⟩) m.asks.length ac), (28, .int .i64 (m.asks.length : Int)), (29, .int .i64 ((0 : Nat) : Int))]) ⟨rfl, rfl, rfl, rfl, rfl, rfl, trivial⟩ (T.mono (fun w' hA => ?_) (H ⟨1, .slice (some ⟨qb, 0, none⟩) 1 qcap, [(qb, .row qcs 79)], qCells a.name a.typ a.cls⟩))
          refine ⟨⟨rfl, by simp; omega, .inr ⟨qb, qcs, qcap, rfl, rfl, qown⟩, hnx _ rfl rfl⟩, ?_⟩
          exact (hA.sub (M' := (qb, .row qcs 79) :: (mb, .row (mcells m.head (.slice (some ⟨qb, 0, none⟩) 1 qcap) s1 s2 s3) 72) :: Rest) (List.Sublist.cons_cons _ (List.Sublist.cons _ (List.Sublist.cons _ (List.Sublist.refl _))))).perm (List.Perm.swap _ _ _)
        · subst hq hQ
          have hxl := hown.length
          refine TS.append (m := 1) (news := qCells a.name a.typ a.cls) 3 rfl el70 sl70 rfl rfl rfl rfl rfl hown (Src.slice (fun w hA j u hj => by rw [add_zero', Nat.zero_add]; exact hA.cell (i := 0) rfl (by rw [nth_eq]; exact hj)) (qCells_length h255) qCells_one) (by omega) (by omega) (fun b cs => by simp [setN]) (fun qb' qcs' qcap' qown => ?_)
          refine TS.p tbk rfl rfl ?_
          refine TS.st 2 rfl szk rfl rfl rfl rfl rfl rfl (by simp [setN]) ?_
          refine TS.nil ?_
          refine T.sub (L' := [(0, .slice none 0 0), (3, ptr xb 0), (6, ptr mb 0), (27, .slice (some ⟨b, o, none⟩) m.asks.length ac), (28, .int .i64 (m.asks.length : Int)), (29, .int .i64 (i : Int))]) ⟨rfl, rfl, rfl, rfl, rfl, rfl, trivial⟩ (T.mono (fun w' hA => ?_) (H ⟨i + 1, .slice (some ⟨qb', 0, none⟩) (i + 1) qcap', [(qb', .row qcs' 79)], xs ++ qCells a.name a.typ a.cls⟩))
          refine ⟨⟨rfl, by simp; omega, .inr ⟨qb', qcs', qcap', rfl, rfl, qown⟩, hnx _ rfl hxl⟩, ?_⟩
          exact hA.sub (List.Sublist.cons _ (List.Sublist.cons _ (List.Sublist.refl _)))
      refine RS.call0 rfl Tryz.call23 rfl rfl rfl (questionOf a h255) (fun _ _ => trivial) (fun _ => by simp [setN]) (fun _ => TR.and fun _ => ?_)
      refine TR.two (i := 1) (j := 4) (by kernel_rfl) ?_ ?_
      · refine RS.l rfl rfl rfl rfl (Y.load szk rfl rfl (fun w h => h.cell (i := 1) rfl rfl)) (by simp [setN]) ?_
        refine TR.lin [(4, false), (5, false), (6, true), (7, false)] (by kernel_rfl) rfl ?_
        refine TS.bsA (us := qCells a.name a.typ a.cls) rfl el70 rfl (qCells_length h255) (by decide) rfl rfl (fun b => by simp [setN]) (fun eb => ?_)
        rcases hQ with ⟨h0, hq, hQ, hx⟩ | ⟨qb, qcs, qcap, hq, hQ, hown⟩
        · subst hq hQ hx h0
          refine TS.appendNil (m := 1) (news := qCells a.name a.typ a.cls) rfl el70 sl70 rfl rfl rfl rfl (Src.slice (fun w hA j u hj => by rw [add_zero', Nat.zero_add]; exact hA.cell (i := 0) rfl (by rw [nth_eq]; exact hj)) (qCells_length h255) qCells_one) (by decide) (by decide) (by decide) (fun b cs => by simp [setN]) (fun qb qcs qcap qown => ?_)
          refine TS.p tbk rfl rfl ?_
          refine TS.st 3 rfl szk rfl rfl rfl rfl rfl rfl (by simp [setN]) ?_
          refine TS.nil ?_
          refine T.sub (L' := [(0, .slice none 0 0), (3, ptr xb 0), (6, ptr mb 0), (27, .slice (some ⟨b, o, none⟩) m.asks.length ac), (28, .int .i64 (m.asks.length : Int)), (29, .int .i64 ((0 : Nat) : Int))]) ⟨rfl, rfl, rfl, rfl, rfl, rfl, trivial⟩ (T.mono (fun w' hA => ?_) (H ⟨1, .slice (some ⟨qb, 0, none⟩) 1 qcap, [(qb, .row qcs 79)], qCells a.name a.typ a.cls⟩))
          refine ⟨⟨rfl, by simp; omega, .inr ⟨qb, qcs, qcap, rfl, rfl, qown⟩, hnx _ rfl rfl⟩, ?_⟩
          exact (hA.sub (M' := (qb, .row qcs 79) :: (mb, .row (mcells m.head (.slice (some ⟨qb, 0, none⟩) 1 qcap) s1 s2 s3) 72) :: Rest) (List.Sublist.cons_cons _ (List.Sublist.cons _ (List.Sublist.cons _ (List.Sublist.refl _))))).perm (List.Perm.swap _ _ _)
        · subst hq hQ
          have hxl := hown.length
          refine TS.append (m := 1) (news := qCells a.name a.typ a.cls) 3 rfl el70 sl70 rfl rfl rfl rfl rfl hown (Src.slice (fun w hA j u hj => by rw [add_zero', Nat.zero_add]; exact hA.cell (i := 0) rfl (by rw [nth_eq]; exact hj)) (qCells_length h255) qCells_one) (by omega) (by omega) (fun b cs => by simp [setN]) (fun qb' qcs' qcap' qown => ?_)
          refine TS.p tbk rfl rfl ?_
          refine TS.st 2 rfl szk rfl rfl rfl rfl rfl rfl (by simp [setN]) ?_
          refine TS.nil ?_
          refine T.sub (L' := [(0, .slice none 0 0), (3, ptr xb 0), (6, ptr mb 0), (27, .slice (some ⟨b, o, none⟩) m.asks.length ac), (28, .int .i64 (m.asks.length : Int)), (29, .int .i64 (i : Int))]) ⟨rfl, rfl, rfl, rfl, rfl, rfl, trivial⟩ (T.mono (fun w' hA => ?_) (H ⟨i + 1, .slice (some ⟨qb', 0, none⟩) (i + 1) qcap', [(qb', .row qcs' 79)], xs ++ qCells a.name a.typ a.cls⟩))
          refine ⟨⟨rfl, by simp; omega, .inr ⟨qb', qcs', qcap', rfl, rfl, qown⟩, hnx _ rfl hxl⟩, ?_⟩
          exact hA.sub (List.Sublist.cons _ (List.Sublist.cons _ (List.Sublist.refl _)))
      refine RS.bsA (us := qCells a.name a.typ a.cls) rfl el70 rfl (qCells_length h255) (by decide) rfl rfl (fun b => by simp [setN]) (fun eb => ?_)
      refine TR.lin [(1, false), (5, false), (6, true), (7, false)] (by kernel_rfl) rfl ?_
      refine TS.l rfl rfl rfl rfl (Y.load szk rfl rfl (fun w h => h.cell (i := 2) rfl rfl)) (by simp [setN]) ?_
      rcases hQ with ⟨h0, hq, hQ, hx⟩ | ⟨qb, qcs, qcap, hq, hQ, hown⟩
      · subst hq hQ hx h0
        refine TS.appendNil (m := 1) (news := qCells a.name a.typ a.cls) rfl el70 sl70 rfl rfl rfl rfl (Src.slice (fun w hA j u hj => by rw [add_zero', Nat.zero_add]; exact hA.cell (i := 0) rfl (by rw [nth_eq]; exact hj)) (qCells_length h255) qCells_one) (by decide) (by decide) (by decide) (fun b cs => by simp [setN]) (fun qb qcs qcap qown => ?_)
        refine TS.p tbk rfl rfl ?_
        refine TS.st 3 rfl szk rfl rfl rfl rfl rfl rfl (by simp [setN]) ?_
        refine TS.nil ?_
        refine T.sub (L' := [(0, .slice none 0 0), (3, ptr xb 0), (6, ptr mb 0), (27, .slice (some ⟨b, o, none⟩) m.asks.length ac), (28, .int .i64 (m.asks.length : Int)), (29, .int .i64 ((0 : Nat) : Int))]) ⟨rfl, rfl, rfl, rfl, rfl, rfl, trivial⟩ (T.mono (fun w' hA => ?_) (H ⟨1, .slice (some ⟨qb, 0, none⟩) 1 qcap, [(qb, .row qcs 79)], qCells a.name a.typ a.cls⟩))
        refine ⟨⟨rfl, by simp; omega, .inr ⟨qb, qcs, qcap, rfl, rfl, qown⟩, hnx _ rfl rfl⟩, ?_⟩
        exact (hA.sub (M' := (qb, .row qcs 79) :: (mb, .row (mcells m.head (.slice (some ⟨qb, 0, none⟩) 1 qcap) s1 s2 s3) 72) :: Rest) (List.Sublist.cons_cons _ (List.Sublist.cons _ (List.Sublist.cons _ (List.Sublist.refl _))))).perm (List.Perm.swap _ _ _)
      · subst hq hQ
        have hxl := hown.length
        refine TS.append (m := 1) (news := qCells a.name a.typ a.cls) 3 rfl el70 sl70 rfl rfl rfl rfl rfl hown (Src.slice (fun w hA j u hj => by rw [add_zero', Nat.zero_add]; exact hA.cell (i := 0) rfl (by rw [nth_eq]; exact hj)) (qCells_length h255) qCells_one) (by omega) (by omega) (fun b cs => by simp [setN]) (fun qb' qcs' qcap' qown => ?_)
        refine TS.p tbk rfl rfl ?_
        refine TS.st 2 rfl szk rfl rfl rfl rfl rfl rfl (by simp [setN]) ?_
        refine TS.nil ?_
        refine T.sub (L' := [(0, .slice none 0 0), (3, ptr xb 0), (6, ptr mb 0), (27, .slice (some ⟨b, o, none⟩) m.asks.length ac), (28, .int .i64 (m.asks.length : Int)), (29, .int .i64 (i : Int))]) ⟨rfl, rfl, rfl, rfl, rfl, rfl, trivial⟩ (T.mono (fun w' hA => ?_) (H ⟨i + 1, .slice (some ⟨qb', 0, none⟩) (i + 1) qcap', [(qb', .row qcs' 79)], xs ++ qCells a.name a.typ a.cls⟩))
        refine ⟨⟨rfl, by simp; omega, .inr ⟨qb', qcs', qcap', rfl, rfl, qown⟩, hnx _ rfl hxl⟩, ?_⟩
        exact hA.sub (List.Sublist.cons _ (List.Sublist.cons _ (List.Sublist.refl _)))
    rintro ⟨i', qv', Q', xs'⟩
    refine T.and fun ⟨hi', hok'⟩ => ?_
    simp only at hi'
    subst hi'
    repeat (first | refine za rfl rfl ?_ | refine zb rfl ?_ | refine zc rfl ?_)
    rw [add1_i64 (a := i) (by omega)]
    exact T.again ih ⟨i + 1, qv', Q', xs'⟩ (by simp; omega) ⟨rfl, rfl, rfl, rfl, rfl, rfl, trivial⟩ (fun w' hA => ⟨hok', hA⟩)
  · refine T.condF rfl (by simpa using hlt) ?_
    have hil : i = m.asks.length := by omega
    repeat (first | refine za rfl rfl ?_ | refine zb rfl ?_ | refine zc rfl ?_)
    refine T.condT rfl rfl ?_
    repeat (first | refine za rfl rfl ?_ | refine zb rfl ?_ | refine zc rfl ?_)
    subst hS1 hS2 hS3
    have hM : (mb, Ob.row (mcells m.head qv (.slice (some ⟨y1.ab, 0, none⟩) m.one.length y1.cap) (.slice (some ⟨y2.ab, 0, none⟩) m.two.length y2.cap) (.slice (some ⟨y3.ab, 0, none⟩) m.three.length y3.cap)) 72) :: (Q ++ Rest) = ((mb, Ob.row (mcells m.head qv (.slice (some ⟨y1.ab, 0, none⟩) m.one.length y1.cap) (.slice (some ⟨y2.ab, 0, none⟩) m.two.length y2.cap) (.slice (some ⟨y3.ab, 0, none⟩) m.three.length y3.cap)) 72) :: (Q ++ ((xb, Ob.row C 28) :: (y1.E ++ (y2.E ++ y3.E))))) ++ arrs y1.ab y2.ab y3.ab y1.acs y2.acs y3.acs := by
      rw [← hR]; simp only [List.cons_append, List.append_assoc]
    refine TL.mono (fun w' hA => hM ▸ hA) ?_
    refine TL.callS _ Tryz.call24 rfl rfl rfl rfl (messagePack mb m hm qv y1.ab y2.ab y3.ab y1.cap y2.cap y3.cap y1.acs y2.acs y3.acs) (fun w' hA => ⟨st_rowL hA (i := 0) rfl (fun j v hj => by rw [Nat.zero_add]; exact hj), ?_, g1.2.mono (st_outL hA fun p hp => ?_), g2.2.mono (st_outL hA fun p hp => ?_), g3.2.mono (st_outL hA fun p hp => ?_)⟩) (fun y => TL.and fun hy => ?_)
    · rcases hQ with ⟨h0, hq, hQ, hx⟩ | ⟨qb, qcs, qcap, hq, hQ, hown⟩
      · refine .inl ⟨⟨_, _, hq⟩, ?_⟩
        rw [h0] at hil
        exact List.length_eq_zero_iff.1 hil.symm
      · subst hq hQ
        rw [hil]
        refine .inr ⟨qb, 0, qcap, rfl, by have := hown.le; omega, fun j a' ha' => ⟨_, qCells_length (by have := (hm.asks a' (nth_mem ha')).name.len; omega), st_rowL hA (i := 1) rfl (fun k v hk => ?_), rfl⟩⟩
        rw [Nat.zero_add]
        exact hown.nth (hall j a' (by rw [hil]; rw [nth_eq] at ha'; exact (List.getElem?_eq_some_iff.1 ha').1) ha' k v hk)
    · simp [hp]
    · simp [hp]
    · simp [hp]
    repeat (first | refine za rfl rfl ?_ | refine zb rfl ?_ | refine zc rfl ?_)
    refine TS.start [(0, true), (1, true), (2, true), (3, true), (4, true)] [] mixed (by kernel_rfl) (by kernel_rfl) (by decide) (by simp) ?_
    repeat refine TS.p tbk rfl rfl ?_
    refine TS.nil ?_
    repeat (first | refine za rfl rfl ?_ | refine zb rfl ?_ | refine zc rfl ?_)
    exact T.ret Tryz.func9 rfl (fun w hA => ⟨y, rfl, hy, hA.sub (List.sublist_append_right _ _)⟩)
end X
namespace X
section
variable {P : Program} {f : FuncId} {n : Nat} {R : Ending → World → Prop} {k : List Item} {L : Fr} {ops : Array Oper}
variable {X : List Nat} {w0 : World} {M Mq : Mem} {fn : FuncId} {xs : Array Operand} {ts : Array TypeId} {d : Nat} {ty : TypeId} {pos : String} {af : Array Edge} {g : Option (Nat × Bool)} {vs : List Value} {β : Type} {v : β → Value} {pre : World → Prop} {post : β → World → Prop} {M' : β → Mem} {sched : List (Nat × Bool)} {r : Nat}
theorem TS.callS (Ml : Mem) {Mc : Mem} (ho : nth ops.toList r = some ⟨some d, .call { callee := .value (.func fn), args := xs, argTypes := ts }, ty, pos, af, g⟩) (hcall : ∀ (ax : Array Value) w, (callFunc fn ax).run P w = .ok (.enter fn ax) w) (hx : evs L xs.toList = some vs) (hn : d.blt n = true) (hw : want ops L g = some true)
    (hM : M = Ml ++ Mc) (hc : Ct P fn vs Mc pre v post M') (hpre : ∀ w, St X w0 M w → pre w) (hS : ∀ y, ∀ p ∈ Mq, p ∈ Ml ++ M' y) (h : ∀ y, TS P f n R k ops (Kp X w0 Mq) sched ((d, v y) :: L) (fun w => post y w ∧ St X w0 (Ml ++ M' y) w)) :
    TS P f n R k ops (Kp X w0 Mq) ((r, false) :: sched) L (St X w0 M) := TS.op ho hw (OkOp.call hcall hx hn (useS hM hc hpre)) (fun y w hA => Kp.of hA.2 (hS y)) h
theorem TS.call1 {p : Nat × Ob} {p' : β → Nat × Ob} {E : β → Mem} (i : Nat) (ho : nth ops.toList r = some ⟨some d, .call { callee := .value (.func fn), args := xs, argTypes := ts }, ty, pos, af, g⟩) (hcall : ∀ (ax : Array Value) w, (callFunc fn ax).run P w = .ok (.enter fn ax) w) (hx : evs L xs.toList = some vs) (hn : d.blt n = true) (hw : want ops L g = some true)
    (hi : nth M i = some p) (hc : Ct P fn vs [p] pre v post (fun y => p' y :: E y)) (hpre : ∀ w, St X w0 M w → pre w) (hS : ∀ y, ∀ z ∈ Mq, z ∈ E y ++ setN M i (p' y)) (h : ∀ y, TS P f n R k ops (Kp X w0 Mq) sched ((d, v y) :: L) (fun w => post y w ∧ St X w0 (E y ++ setN M i (p' y)) w)) :
    TS P f n R k ops (Kp X w0 Mq) ((r, false) :: sched) L (St X w0 M) := TS.op ho hw (OkOp.call hcall hx hn (use1 i hi hc hpre)) (fun y w hA => Kp.of hA.2 (hS y)) h
end
structure Bh where
  id : Nat
  bits : Nat
  n1 : Nat
  n2 : Nat
  n3 : Nat
  n4 : Nat
def Bh.inc (h : Bh) (sec : Nat) : Bh := match sec with
  | 2 => { h with n1 := h.n1 + 1 }
  | 3 => { h with n2 := h.n2 + 1 }
  | 4 => { h with n3 := h.n3 + 1 }
  | _ => { h with n4 := h.n4 + 1 }
def Bh.few (h : Bh) : Prop := h.n1 ≤ 1000 ∧ h.n2 ≤ 1000 ∧ h.n3 ≤ 1000 ∧ h.n4 ≤ 1000
def blC (mv : Value) (sec : Nat) (h : Bh) (cv : Value) : List Value := [mv, .int .u8 (sec : Int), .int .u16 (h.id : Int), .int .u16 (h.bits : Int), .int .u16 (h.n1 : Int), .int .u16 (h.n2 : Int), .int .u16 (h.n3 : Int), .int .u16 (h.n4 : Int), .int .i64 0, cv]
/-- The errors for too many records lie where they were laid. -/
def Glob (h : View) : Prop := ∀ g, g < 4 → ∃ v, RowAt h g 0 [v]
theorem Glob.mono {h h' : View} (hh : View.le h h') (k : Glob h) : Glob h' := fun g hg => let ⟨v, r⟩ := k g hg; ⟨v, r.mono hh⟩
theorem startCheck (bb sec k : Nat) (h1 : 1 ≤ sec) (h2 : sec ≤ k) : Ct (β := Unit) Tryz.prog 56 [ptr bb 0, .int .u8 (k : Int)] [] (fun w => RowAt (view [] w) bb 1 [.int .u8 (sec : Int)]) (fun _ => .nilIface) (fun _ _ => True) (fun _ => []) := by
  intro w hS hr
  refine calls_of_T (m := 18) Tryz.func56 rfl rfl (by simp) hS ?_
  repeat (first | refine za rfl rfl ?_ | refine zb rfl ?_ | refine zc rfl ?_)
  refine TL.ldR (off := 0 + 1) hr szk rfl rfl rfl rfl ?_
  repeat (first | refine za rfl rfl ?_ | refine zb rfl ?_ | refine zc rfl ?_)
  refine T.condF rfl (by simp; omega) ?_
  repeat (first | refine za rfl rfl ?_ | refine zb rfl ?_ | refine zc rfl ?_)
  refine TL.ldR (off := 0 + 1) hr szk rfl rfl rfl rfl ?_
  repeat (first | refine za rfl rfl ?_ | refine zb rfl ?_ | refine zc rfl ?_)
  refine T.condF rfl (by simp; omega) ?_
  repeat (first | refine za rfl rfl ?_ | refine zb rfl ?_ | refine zc rfl ?_)
  exact T.ret Tryz.func56 rfl (fun w hA => ⟨(), rfl, trivial, hA⟩)
theorem checkSection (bb sec : Nat) (h1 : 3 ≤ sec) (h2 : sec ≤ 5) : Ct (β := Unit) Tryz.prog 108 [ptr bb 0] [] (fun w => RowAt (view [] w) bb 1 [.int .u8 (sec : Int)]) (fun _ => .nilIface) (fun _ _ => True) (fun _ => []) := by
  intro w hS hr
  refine calls_of_T (m := 15) Tryz.func108 rfl rfl (by simp) hS ?_
  repeat (first | refine za rfl rfl ?_ | refine zb rfl ?_ | refine zc rfl ?_)
  refine TL.ldR (off := 0 + 1) hr szk rfl rfl rfl rfl ?_
  repeat (first | refine za rfl rfl ?_ | refine zb rfl ?_ | refine zc rfl ?_)
  refine T.condF rfl (by simp; omega) ?_
  repeat (first | refine za rfl rfl ?_ | refine zb rfl ?_ | refine zc rfl ?_)
  refine TL.ldR (off := 0 + 1) hr szk rfl rfl rfl rfl ?_
  repeat (first | refine za rfl rfl ?_ | refine zb rfl ?_ | refine zc rfl ?_)
  refine T.condF rfl (by simp; omega) ?_
  repeat (first | refine za rfl rfl ?_ | refine zb rfl ?_ | refine zc rfl ?_)
  exact T.ret Tryz.func108 rfl (fun w hA => ⟨(), rfl, trivial, hA⟩)
theorem startQuestions (bb sec : Nat) (mv cv : Value) (h : Bh) (h1 : 1 ≤ sec) (h2 : sec ≤ 2) : Ct (β := Unit) Tryz.prog 28 [ptr bb 0] [(bb, .row (blC mv sec h cv) 91)] (fun _ => True) (fun _ => .nilIface) (fun _ _ => True) (fun _ => [(bb, .row (blC mv 2 h cv) 91)]) := by
  intro w hS _
  refine calls_of_T (m := 12) Tryz.func28 rfl rfl (by simp) hS ?_
  repeat (first | refine za rfl rfl ?_ | refine zb rfl ?_ | refine zc rfl ?_)
  refine TL.call0 Tryz.call56 rfl rfl rfl (startCheck bb sec 2 h1 h2) (fun w' hA => hA.view (i := 0) rfl (by simp) (fun j v hj => by cases j with | zero => exact hj | succ j => simp [nth] at hj)) (fun _ => TL.and fun _ => ?_)
  repeat (first | refine za rfl rfl ?_ | refine zb rfl ?_ | refine zc rfl ?_)
  refine T.condF rfl rfl ?_
  repeat (first | refine za rfl rfl ?_ | refine zb rfl ?_ | refine zc rfl ?_)
  refine TL.st 0 szk rfl rfl rfl rfl rfl rfl ?_
  repeat (first | refine za rfl rfl ?_ | refine zb rfl ?_ | refine zc rfl ?_)
  exact T.ret Tryz.func28 rfl (fun w hA => ⟨(), rfl, trivial, hA⟩)
theorem startAnswers (bb sec : Nat) (mv cv : Value) (h : Bh) (h1 : 1 ≤ sec) (h2 : sec ≤ 3) : Ct (β := Unit) Tryz.prog 30 [ptr bb 0] [(bb, .row (blC mv sec h cv) 91)] (fun _ => True) (fun _ => .nilIface) (fun _ _ => True) (fun _ => [(bb, .row (blC mv 3 h cv) 91)]) := by
  intro w hS _
  refine calls_of_T (m := 12) Tryz.func30 rfl rfl (by simp) hS ?_
  repeat (first | refine za rfl rfl ?_ | refine zb rfl ?_ | refine zc rfl ?_)
  refine TL.call0 Tryz.call56 rfl rfl rfl (startCheck bb sec 3 h1 h2) (fun w' hA => hA.view (i := 0) rfl (by simp) (fun j v hj => by cases j with | zero => exact hj | succ j => simp [nth] at hj)) (fun _ => TL.and fun _ => ?_)
  repeat (first | refine za rfl rfl ?_ | refine zb rfl ?_ | refine zc rfl ?_)
  refine T.condF rfl rfl ?_
  repeat (first | refine za rfl rfl ?_ | refine zb rfl ?_ | refine zc rfl ?_)
  refine TL.st 0 szk rfl rfl rfl rfl rfl rfl ?_
  repeat (first | refine za rfl rfl ?_ | refine zb rfl ?_ | refine zc rfl ?_)
  exact T.ret Tryz.func30 rfl (fun w hA => ⟨(), rfl, trivial, hA⟩)
theorem startAuthorities (bb sec : Nat) (mv cv : Value) (h : Bh) (h1 : 1 ≤ sec) (h2 : sec ≤ 4) : Ct (β := Unit) Tryz.prog 31 [ptr bb 0] [(bb, .row (blC mv sec h cv) 91)] (fun _ => True) (fun _ => .nilIface) (fun _ _ => True) (fun _ => [(bb, .row (blC mv 4 h cv) 91)]) := by
  intro w hS _
  refine calls_of_T (m := 12) Tryz.func31 rfl rfl (by simp) hS ?_
  repeat (first | refine za rfl rfl ?_ | refine zb rfl ?_ | refine zc rfl ?_)
  refine TL.call0 Tryz.call56 rfl rfl rfl (startCheck bb sec 4 h1 h2) (fun w' hA => hA.view (i := 0) rfl (by simp) (fun j v hj => by cases j with | zero => exact hj | succ j => simp [nth] at hj)) (fun _ => TL.and fun _ => ?_)
  repeat (first | refine za rfl rfl ?_ | refine zb rfl ?_ | refine zc rfl ?_)
  refine T.condF rfl rfl ?_
  repeat (first | refine za rfl rfl ?_ | refine zb rfl ?_ | refine zc rfl ?_)
  refine TL.st 0 szk rfl rfl rfl rfl rfl rfl ?_
  repeat (first | refine za rfl rfl ?_ | refine zb rfl ?_ | refine zc rfl ?_)
  exact T.ret Tryz.func31 rfl (fun w hA => ⟨(), rfl, trivial, hA⟩)
theorem startAdditionals (bb sec : Nat) (mv cv : Value) (h : Bh) (h1 : 1 ≤ sec) (h2 : sec ≤ 5) : Ct (β := Unit) Tryz.prog 32 [ptr bb 0] [(bb, .row (blC mv sec h cv) 91)] (fun _ => True) (fun _ => .nilIface) (fun _ _ => True) (fun _ => [(bb, .row (blC mv 5 h cv) 91)]) := by
  intro w hS _
  refine calls_of_T (m := 12) Tryz.func32 rfl rfl (by simp) hS ?_
  repeat (first | refine za rfl rfl ?_ | refine zb rfl ?_ | refine zc rfl ?_)
  refine TL.call0 Tryz.call56 rfl rfl rfl (startCheck bb sec 5 h1 h2) (fun w' hA => hA.view (i := 0) rfl (by simp) (fun j v hj => by cases j with | zero => exact hj | succ j => simp [nth] at hj)) (fun _ => TL.and fun _ => ?_)
  repeat (first | refine za rfl rfl ?_ | refine zb rfl ?_ | refine zc rfl ?_)
  refine T.condF rfl rfl ?_
  repeat (first | refine za rfl rfl ?_ | refine zb rfl ?_ | refine zc rfl ?_)
  refine TL.st 0 szk rfl rfl rfl rfl rfl rfl ?_
  repeat (first | refine za rfl rfl ?_ | refine zb rfl ?_ | refine zc rfl ?_)
  exact T.ret Tryz.func32 rfl (fun w hA => ⟨(), rfl, trivial, hA⟩)
theorem incr2 (bb : Nat) (mv cv : Value) (h : Bh) (hf : h.n1 ≤ 1000) : Ct (β := Unit) Tryz.prog 57 [ptr bb 0] [(bb, .row (blC mv 2 h cv) 91)] (fun w => Glob (view [bb] w)) (fun _ => .nilIface) (fun _ _ => True) (fun _ => [(bb, .row (blC mv 2 (h.inc 2) cv) 91)]) := by
  intro w hS hg
  obtain ⟨gv, hgv⟩ := hg 0 (by decide)
  refine calls_of_T (m := 47) Tryz.func57 rfl rfl (by simp) hS ?_
  repeat (first | refine za rfl rfl ?_ | refine zb rfl ?_ | refine zc rfl ?_)
  refine TL.ld 0 szk rfl rfl rfl rfl rfl rfl ?_
  repeat (first | refine TL.p tbk rfl ?_ | refine TL.nil ?_ | refine T.seq ?_ | refine T.region ?_ | refine T.skip ?_ | refine T.block ?_ | refine T.inBlock ?_ | refine T.exit rfl ?_ | refine T.condF rfl rfl ?_)
  refine T.condT rfl rfl ?_
  repeat (first | refine za rfl rfl ?_ | refine zb rfl ?_ | refine zc rfl ?_)
  refine TL.ldR hgv szk rfl rfl rfl rfl ?_
  repeat (first | refine za rfl rfl ?_ | refine zb rfl ?_ | refine zc rfl ?_)
  refine TL.ld 0 szk rfl rfl rfl rfl rfl rfl ?_
  repeat (first | refine za rfl rfl ?_ | refine zb rfl ?_ | refine zc rfl ?_)
  refine T.condF rfl (by simp; omega) ?_
  repeat (first | refine za rfl rfl ?_ | refine zb rfl ?_ | refine zc rfl ?_)
  refine TL.ld 0 szk rfl rfl rfl rfl rfl rfl ?_
  repeat (first | refine za rfl rfl ?_ | refine zb rfl ?_ | refine zc rfl ?_)
  rw [show IntKind.u16.wrap ((h.n1 : Int) + 1) = ((h.n1 + 1 : Nat) : Int) by rw [u16_in] <;> omega]
  refine TL.st 0 szk rfl rfl rfl rfl rfl rfl ?_
  repeat (first | refine za rfl rfl ?_ | refine zb rfl ?_ | refine zc rfl ?_)
  exact T.ret Tryz.func57 rfl (fun w hA => ⟨(), rfl, trivial, hA⟩)
theorem incr3 (bb : Nat) (mv cv : Value) (h : Bh) (hf : h.n2 ≤ 1000) : Ct (β := Unit) Tryz.prog 57 [ptr bb 0] [(bb, .row (blC mv 3 h cv) 91)] (fun w => Glob (view [bb] w)) (fun _ => .nilIface) (fun _ _ => True) (fun _ => [(bb, .row (blC mv 3 (h.inc 3) cv) 91)]) := by
  intro w hS hg
  obtain ⟨gv, hgv⟩ := hg 1 (by decide)
  refine calls_of_T (m := 47) Tryz.func57 rfl rfl (by simp) hS ?_
  repeat (first | refine za rfl rfl ?_ | refine zb rfl ?_ | refine zc rfl ?_)
  refine TL.ld 0 szk rfl rfl rfl rfl rfl rfl ?_
  repeat (first | refine TL.p tbk rfl ?_ | refine TL.nil ?_ | refine T.seq ?_ | refine T.region ?_ | refine T.skip ?_ | refine T.block ?_ | refine T.inBlock ?_ | refine T.exit rfl ?_ | refine T.condF rfl rfl ?_)
  refine T.condT rfl rfl ?_
  repeat (first | refine za rfl rfl ?_ | refine zb rfl ?_ | refine zc rfl ?_)
  refine TL.ldR hgv szk rfl rfl rfl rfl ?_
  repeat (first | refine za rfl rfl ?_ | refine zb rfl ?_ | refine zc rfl ?_)
  refine TL.ld 0 szk rfl rfl rfl rfl rfl rfl ?_
  repeat (first | refine za rfl rfl ?_ | refine zb rfl ?_ | refine zc rfl ?_)
  refine T.condF rfl (by simp; omega) ?_
  repeat (first | refine za rfl rfl ?_ | refine zb rfl ?_ | refine zc rfl ?_)
  refine TL.ld 0 szk rfl rfl rfl rfl rfl rfl ?_
  repeat (first | refine za rfl rfl ?_ | refine zb rfl ?_ | refine zc rfl ?_)
  rw [show IntKind.u16.wrap ((h.n2 : Int) + 1) = ((h.n2 + 1 : Nat) : Int) by rw [u16_in] <;> omega]
  refine TL.st 0 szk rfl rfl rfl rfl rfl rfl ?_
  repeat (first | refine za rfl rfl ?_ | refine zb rfl ?_ | refine zc rfl ?_)
  exact T.ret Tryz.func57 rfl (fun w hA => ⟨(), rfl, trivial, hA⟩)
theorem incr4 (bb : Nat) (mv cv : Value) (h : Bh) (hf : h.n3 ≤ 1000) : Ct (β := Unit) Tryz.prog 57 [ptr bb 0] [(bb, .row (blC mv 4 h cv) 91)] (fun w => Glob (view [bb] w)) (fun _ => .nilIface) (fun _ _ => True) (fun _ => [(bb, .row (blC mv 4 (h.inc 4) cv) 91)]) := by
  intro w hS hg
  obtain ⟨gv, hgv⟩ := hg 2 (by decide)
  refine calls_of_T (m := 47) Tryz.func57 rfl rfl (by simp) hS ?_
  repeat (first | refine za rfl rfl ?_ | refine zb rfl ?_ | refine zc rfl ?_)
  refine TL.ld 0 szk rfl rfl rfl rfl rfl rfl ?_
  repeat (first | refine TL.p tbk rfl ?_ | refine TL.nil ?_ | refine T.seq ?_ | refine T.region ?_ | refine T.skip ?_ | refine T.block ?_ | refine T.inBlock ?_ | refine T.exit rfl ?_ | refine T.condF rfl rfl ?_)
  refine T.condT rfl rfl ?_
  repeat (first | refine za rfl rfl ?_ | refine zb rfl ?_ | refine zc rfl ?_)
  refine TL.ldR hgv szk rfl rfl rfl rfl ?_
  repeat (first | refine za rfl rfl ?_ | refine zb rfl ?_ | refine zc rfl ?_)
  refine TL.ld 0 szk rfl rfl rfl rfl rfl rfl ?_
  repeat (first | refine za rfl rfl ?_ | refine zb rfl ?_ | refine zc rfl ?_)
  refine T.condF rfl (by simp; omega) ?_
  repeat (first | refine za rfl rfl ?_ | refine zb rfl ?_ | refine zc rfl ?_)
  refine TL.ld 0 szk rfl rfl rfl rfl rfl rfl ?_
  repeat (first | refine za rfl rfl ?_ | refine zb rfl ?_ | refine zc rfl ?_)
  rw [show IntKind.u16.wrap ((h.n3 : Int) + 1) = ((h.n3 + 1 : Nat) : Int) by rw [u16_in] <;> omega]
  refine TL.st 0 szk rfl rfl rfl rfl rfl rfl ?_
  repeat (first | refine za rfl rfl ?_ | refine zb rfl ?_ | refine zc rfl ?_)
  exact T.ret Tryz.func57 rfl (fun w hA => ⟨(), rfl, trivial, hA⟩)
theorem incr5 (bb : Nat) (mv cv : Value) (h : Bh) (hf : h.n4 ≤ 1000) : Ct (β := Unit) Tryz.prog 57 [ptr bb 0] [(bb, .row (blC mv 5 h cv) 91)] (fun w => Glob (view [bb] w)) (fun _ => .nilIface) (fun _ _ => True) (fun _ => [(bb, .row (blC mv 5 (h.inc 5) cv) 91)]) := by
  intro w hS hg
  obtain ⟨gv, hgv⟩ := hg 3 (by decide)
  refine calls_of_T (m := 47) Tryz.func57 rfl rfl (by simp) hS ?_
  repeat (first | refine za rfl rfl ?_ | refine zb rfl ?_ | refine zc rfl ?_)
  refine TL.ld 0 szk rfl rfl rfl rfl rfl rfl ?_
  repeat (first | refine TL.p tbk rfl ?_ | refine TL.nil ?_ | refine T.seq ?_ | refine T.region ?_ | refine T.skip ?_ | refine T.block ?_ | refine T.inBlock ?_ | refine T.exit rfl ?_ | refine T.condF rfl rfl ?_)
  refine T.condT rfl rfl ?_
  repeat (first | refine za rfl rfl ?_ | refine zb rfl ?_ | refine zc rfl ?_)
  refine TL.ldR hgv szk rfl rfl rfl rfl ?_
  repeat (first | refine za rfl rfl ?_ | refine zb rfl ?_ | refine zc rfl ?_)
  refine TL.ld 0 szk rfl rfl rfl rfl rfl rfl ?_
  repeat (first | refine za rfl rfl ?_ | refine zb rfl ?_ | refine zc rfl ?_)
  refine T.condF rfl (by simp; omega) ?_
  repeat (first | refine za rfl rfl ?_ | refine zb rfl ?_ | refine zc rfl ?_)
  refine TL.ld 0 szk rfl rfl rfl rfl rfl rfl ?_
  repeat (first | refine za rfl rfl ?_ | refine zb rfl ?_ | refine zc rfl ?_)
  rw [show IntKind.u16.wrap ((h.n4 : Int) + 1) = ((h.n4 + 1 : Nat) : Int) by rw [u16_in] <;> omega]
  refine TL.st 0 szk rfl rfl rfl rfl rfl rfl ?_
  repeat (first | refine za rfl rfl ?_ | refine zb rfl ?_ | refine zc rfl ?_)
  exact T.ret Tryz.func57 rfl (fun w hA => ⟨(), rfl, trivial, hA⟩)
theorem incr (bb sec : Nat) (h2 : 2 ≤ sec) (h5 : sec ≤ 5) (mv cv : Value) (h : Bh) (hf : h.few) : Ct (β := Unit) Tryz.prog 57 [ptr bb 0] [(bb, .row (blC mv sec h cv) 91)] (fun w => Glob (view [bb] w)) (fun _ => .nilIface) (fun _ _ => True) (fun _ => [(bb, .row (blC mv sec (h.inc sec) cv) 91)]) := by
  obtain ⟨f1, f2, f3, f4⟩ := hf
  match sec, h2, h5 with
  | 2, _, _ => exact incr2 bb mv cv h f1
  | 3, _, _ => exact incr3 bb mv cv h f2
  | 4, _, _ => exact incr4 bb mv cv h f3
  | 5, _, _ => exact incr5 bb mv cv h f4
def bmem (bb : Nat) (sec : Nat) (h : Bh) (q : Option Nat) (p : Pk) : Mem := (bb, .row (blC p.sl sec h (.map q)) 91) :: p.mem q
theorem enable (bb sec : Nat) (mv : Value) (h : Bh) : Ct (β := Nat) Tryz.prog 27 [ptr bb 0] [(bb, .row (blC mv sec h (.map none)) 91)] (fun _ => True) (fun _ => .tuple #[]) (fun _ _ => True) (fun q => [(bb, .row (blC mv sec h (.map (some q))) 91), (q, .map [] 0)]) := by
  intro w hS _
  refine calls_of_T (m := 6) Tryz.func27 rfl rfl (by simp) hS ?_
  repeat (first | refine za rfl rfl ?_ | refine zb rfl ?_ | refine zc rfl ?_)
  refine TL.makeMap rfl rfl (fun q => ?_)
  repeat (first | refine za rfl rfl ?_ | refine zb rfl ?_ | refine zc rfl ?_)
  refine TL.st 1 szk rfl rfl rfl rfl rfl rfl ?_
  repeat (first | refine za rfl rfl ?_ | refine zb rfl ?_ | refine zc rfl ?_)
  refine T.doneG Tryz.func27 .nil (fun w hA => ⟨q, rfl, trivial, hA.perm (List.Perm.swap _ _ _)⟩)
end X
end Go.Proofs.YtifnodoffgfpbaaGreatDoor
