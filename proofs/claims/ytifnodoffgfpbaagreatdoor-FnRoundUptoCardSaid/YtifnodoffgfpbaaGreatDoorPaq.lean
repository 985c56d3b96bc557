/- Texts U16, U17. Contracts: texts, heads and questions are turned back. -/
import Derived.Test.YtifnodoffgfpbaaGreatDoorPap
namespace Go.Proofs.YtifnodoffgfpbaaGreatDoor
open Go
namespace X
theorem textOf (s : Bs) (hs : s.length ≤ 255) : Ct (β := Unit) Tryz.prog 89 [.agg (nameCells s).toArray] [] (fun _ => True) (fun _ => str s) (fun _ _ => True) (fun _ => []) := by
  intro w hS _
  refine calls_of_T (m := 8) Tryz.func89 rfl rfl (by simp) hS ?_
  repeat (first | refine za rfl rfl ?_ | refine zb rfl ?_ | refine zc rfl ?_)
  refine TL.box (cs := nameCells s) rfl rfl rfl rfl (fun xb => ?_)
  repeat (first | refine za rfl rfl ?_ | refine zb rfl ?_ | refine zc rfl ?_)
  refine TL.ld 0 szk rfl rfl rfl (by rw [Nat.zero_add]; exact nameCells_len hs) rfl rfl ?_
  refine TL.y rfl rfl rfl (Y.slA2 (l := 0) (m := s.length) tbk rfl rfl rfl (by exact ⟨_, rfl⟩) (Nat.zero_le _) hs) ?_
  rw [show (if (255 : Nat) = 0 then (⟨xb, 0 + 0, none⟩ : Addr) else ⟨xb, 0 + 0 + 0 * 1, none⟩) = ⟨xb, 0, none⟩ from rfl, Nat.sub_zero, Nat.sub_zero]
  refine TL.y rfl rfl rfl (Y.b2s (s := s) Tryz.underlying37 Tryz.underlying5 Tryz.underlying9 rfl rfl (fun w' hA j u hj => ?_)) ?_
  · rw [add_zero']
    refine hA.cell (i := 0) rfl ?_
    rw [List.getElem?_map] at hj
    obtain ⟨x, hx, rfl⟩ := Option.map_eq_some_iff.1 hj
    rw [Nat.zero_add]; exact nameCells_byte hx
  repeat (first | refine za rfl rfl ?_ | refine zb rfl ?_ | refine zc rfl ?_)
  exact T.ret Tryz.func89 rfl (fun w hA => ⟨(), rfl, trivial, hA.sub (by simp)⟩)
theorem headOfH (h : Hd) : Ct (β := Unit) Tryz.prog 36 [.agg (hdCells h).toArray] [] (fun _ => True) (fun _ => .agg (hdCells h).toArray) (fun _ _ => True) (fun _ => []) := by
  intro w hS _
  refine calls_of_T (m := 24) Tryz.func36 rfl rfl (by simp) hS ?_
  repeat (first | refine za rfl rfl ?_ | refine zb rfl ?_ | refine zc rfl ?_)
  refine TL.box rfl rfl rfl rfl (fun xb => ?_)
  refine TL.allocZ 10 Tryz.zeroValue24 rfl rfl rfl (fun rb zs hz => ?_)
  repeat (first | refine za rfl rfl ?_ | refine zb rfl ?_ | refine zc rfl ?_)
  refine TL.ld 1 szk rfl rfl rfl rfl rfl rfl ?_
  repeat (first | refine za rfl rfl ?_ | refine zb rfl ?_ | refine zc rfl ?_)
  refine TL.ld 1 szk rfl rfl rfl rfl rfl rfl ?_
  repeat (first | refine za rfl rfl ?_ | refine zb rfl ?_ | refine zc rfl ?_)
  refine TL.ld 1 szk rfl rfl rfl rfl rfl rfl ?_
  repeat (first | refine za rfl rfl ?_ | refine zb rfl ?_ | refine zc rfl ?_)
  refine TL.ld 1 szk rfl rfl rfl rfl rfl rfl ?_
  repeat (first | refine za rfl rfl ?_ | refine zb rfl ?_ | refine zc rfl ?_)
  refine TL.ld 1 szk rfl rfl rfl rfl rfl rfl ?_
  repeat (first | refine za rfl rfl ?_ | refine zb rfl ?_ | refine zc rfl ?_)
  refine TL.ld 1 szk rfl rfl rfl rfl rfl rfl ?_
  repeat (first | refine za rfl rfl ?_ | refine zb rfl ?_ | refine zc rfl ?_)
  refine TL.ld 1 szk rfl rfl rfl rfl rfl rfl ?_
  repeat (first | refine za rfl rfl ?_ | refine zb rfl ?_ | refine zc rfl ?_)
  refine TL.ld 1 szk rfl rfl rfl rfl rfl rfl ?_
  repeat (first | refine za rfl rfl ?_ | refine zb rfl ?_ | refine zc rfl ?_)
  refine TL.ld 1 szk rfl rfl rfl rfl rfl rfl ?_
  repeat (first | refine za rfl rfl ?_ | refine zb rfl ?_ | refine zc rfl ?_)
  refine TL.ld 1 szk rfl rfl rfl rfl rfl rfl ?_
  repeat (first | refine za rfl rfl ?_ | refine zb rfl ?_ | refine zc rfl ?_)
  refine TL.build (v := .agg (hdCells h).toArray) rfl rfl rfl (fun w => by kernel_rfl) ?_
  refine TL.stW (vs := hdCells h) 0 szk rfl rfl rfl rfl rfl hz (hdCells_one h) ?_
  repeat (first | refine za rfl rfl ?_ | refine zb rfl ?_ | refine zc rfl ?_)
  exact T.retG Tryz.func36 (.cons (RV.cellW 0 szk rfl rfl rfl rfl) .nil) (fun w hA => ⟨(), rfl, trivial, hA.sub (by simp)⟩)
theorem el25 : Elem Tryz.prog 25 51 3 24 := elem_of (by kernel_rfl)
theorem sl25 : (∃ e2, Tryz.prog.underlying 25 = some (.slice e2)) ∨ Tryz.prog.underlying 25 = some .string := .inl ⟨_, Tryz.underlying25⟩
theorem pl51 : placesOk Tryz.prog 51 [(0, 1), (1, 1), (2, 1)] 3 = true := by kernel_rfl
def akC (a : Ak) : List Value := [str a.name, .int .u16 (a.typ : Int), .int .u16 (a.cls : Int)]
theorem asksOf (asks : List Ak) (hok : ∀ a ∈ asks, a.Ok) (hlen : asks.length ≤ 40) (qv : Value) :
    Ct (β := QY) Tryz.prog 37 [qv] [] (fun w => SlQ (view [] w) qv asks) (fun y => .slice (some ⟨y.b, 0, none⟩) asks.length y.cap) (fun y _ => SlA (mv [(y.b, .row y.cs 51)]) (.slice (some ⟨y.b, 0, none⟩) asks.length y.cap) asks) (fun y => [(y.b, .row y.cs 51)]) := by
  intro w hS hx
  obtain ⟨a0, cap, hsh, hcap⟩ := hx.shape
  subst hsh
  refine calls_of_T (m := 26) Tryz.func37 rfl rfl (by simp) hS ?_
  repeat (first | refine za rfl rfl ?_ | refine zb rfl ?_ | refine zc rfl ?_)
  refine TL.bs0 el25 rfl rfl (fun b1 => ?_)
  repeat (first | refine za rfl rfl ?_ | refine zb rfl ?_ | refine zc rfl ?_)
  refine T.loop (α := QY) (fun x => [(3, .slice (some ⟨x.b, 0, none⟩) x.i x.cap), (7, .slice a0 asks.length cap), (8, .int .i64 (asks.length : Int)), (9, .int .i64 (x.i : Int))])
    (fun x w' => (x.i ≤ asks.length ∧ Own x.cs x.i x.cap 3 x.xs ∧ ∀ j a, j < x.i → nth asks j = some a → ∀ k v, nth (akC a) k = some v → nth x.xs (j * 3 + k) = some v) ∧ St (keys []) w [(x.b, .row x.cs 51)] w')
    (fun x => asks.length - x.i) ⟨0, 0, b1, [], 0, [], false⟩ ⟨rfl, rfl, rfl, rfl, trivial⟩ (fun w' hA => ⟨⟨Nat.zero_le _, own0 3, fun j p hj => (Nat.not_lt_zero _ hj).elim⟩, hA⟩) ?_
  rintro ⟨i, off, ab, acs, acap, xs, vl⟩ ih
  refine T.and fun ⟨hi, hown, hall⟩ => ?_
  simp only at hi hown hall
  have hxl := hown.length
  repeat (first | refine za rfl rfl ?_ | refine zb rfl ?_ | refine zc rfl ?_)
  by_cases hlt : i < asks.length
  · refine T.condT rfl (by simpa using hlt) ?_
    obtain ⟨a, ha⟩ := nth_lt hlt
    have h255 : a.name.length ≤ 255 := by have := (hok a (nth_mem ha)).name.len; omega
    have hnl := nameCells_length h255
    obtain ⟨b, o, cap', cs, hv, _, _, hrs, hcs⟩ := hx.at ha
    injection hv with hv1 _ hv3
    subst hv1 hv3 hcs
    have hq0 : ∀ j v, nth (nameCells a.name) j = some v → nth (qCells a.name a.typ a.cls) j = some v := fun j v hj => by have := q_name (t := a.typ) (c := a.cls) h255 j v hj; rw [Nat.zero_add] at this; exact this
    have hq1 : nth (qCells a.name a.typ a.cls) (0 + 256) = some (.int .u16 (a.typ : Int)) := by rw [Nat.zero_add, show (256 : Nat) = 256 + 0 from rfl, q_at h255]; rfl
    have hq2 : nth (qCells a.name a.typ a.cls) (0 + 257) = some (.int .u16 (a.cls : Int)) := by rw [Nat.zero_add, show (257 : Nat) = 256 + 1 from rfl, q_at h255]; rfl
    repeat (first | refine za rfl rfl ?_ | refine zb rfl ?_ | refine zc rfl ?_)
    refine TL.ix (j := i) tbk rfl rfl rfl rfl rfl rfl hlt ?_
    refine TL.ldRA hrs szk rfl rfl (qCells_length h255) rfl rfl ?_
    refine TL.allocZ 258 Tryz.zeroValue79 (by kernel_rfl) rfl rfl (fun lb zs hz => ?_)
    refine TL.stW (vs := qCells a.name a.typ a.cls) 0 szk rfl rfl rfl rfl (qCells_length h255) hz qCells_one ?_
    repeat (first | refine za rfl rfl ?_ | refine zb rfl ?_ | refine zc rfl ?_)
    refine TS.start [(0, true), (1, true), (2, true), (4, true), (5, true), (6, true), (7, true), (3, false), (8, true), (9, false), (10, false), (11, true)] [(lb, .row (qCells a.name a.typ a.cls) 79)] mixed (by kernel_rfl) (by kernel_rfl) (by decide) (by simp [setN]) ?_
    refine TS.p tbk rfl rfl ?_
    refine TS.p tbk rfl rfl ?_
    refine TS.y rfl rfl rfl rfl (Y.loadA szk rfl rfl hnl (fun w h i v hv => h.cell (i := 0) rfl (by simp only [Nat.zero_add]; exact hq0 i v hv))) ?_
    refine TS.p tbk rfl rfl ?_
    refine TS.y rfl rfl rfl rfl (Y.load szk rfl rfl (fun w h => h.cell (i := 0) rfl hq1)) ?_
    refine TS.p tbk rfl rfl ?_
    refine TS.y rfl rfl rfl rfl (Y.load szk rfl rfl (fun w h => h.cell (i := 0) rfl hq2)) ?_
    refine TS.call0 rfl Tryz.call89 rfl rfl rfl (textOf a.name h255) (fun _ _ => trivial) (fun _ => by simp [setN]) (fun _ => TS.and fun _ => ?_)
    have hb := build_seq (vs := akC a) pl51 rfl rfl
    refine TS.y rfl rfl rfl rfl (Y.build (v := .agg (akC a).toArray) (pv := partsFrom 0 (akC a)) rfl hb) ?_
    refine TS.bsA (us := akC a) rfl el25 rfl rfl (by decide) rfl rfl (fun b => by simp [setN]) (fun eb => ?_)
    refine TS.append (m := 1) (news := akC a) 2 rfl el25 sl25 rfl rfl rfl rfl rfl hown (Src.slice (fun w hA j u hj => by rw [add_zero', Nat.zero_add]; exact hA.cell (i := 0) rfl (by rw [nth_eq]; exact hj)) rfl (by simp [akC, Value.oneCell', str])) (by omega) (by omega) (fun b cs => by simp [setN]) (fun ab' acs' acap' aown' => ?_)
    refine TS.p tbk rfl rfl ?_
    refine TS.nil ?_
    repeat (first | refine za rfl rfl ?_ | refine zb rfl ?_ | refine zc rfl ?_)
    rw [add1_i64 (a := i) (by omega)]
    refine T.again ih ⟨i + 1, 0, ab', acs', acap', xs ++ akC a, false⟩ (by simp; omega) ⟨rfl, rfl, rfl, rfl, trivial⟩ (fun w' hA => ⟨⟨by simp; omega, aown', fun j a' hj ha' k v hk => ?_⟩, hA.sub (List.Sublist.cons _ (List.Sublist.cons _ (List.Sublist.refl _)))⟩)
    simp only at hj
    rcases Nat.lt_or_ge j i with hji | hji
    · have := hall j a' hji ha' k v hk
      rw [nth_eq] at this ⊢
      simp only
      rw [List.getElem?_append_left (List.getElem?_eq_some_iff.1 this).1]; exact this
    · have : j = i := by omega
      subst this
      rw [ha] at ha'
      simp only [Option.some.injEq] at ha'
      subst ha'
      rw [nth_eq] at hk ⊢
      simp only
      rw [List.getElem?_append_right (by omega), hxl, Nat.add_sub_cancel_left]; exact hk
  · refine T.condF rfl (by simpa using hlt) ?_
    have hil : i = asks.length := by omega
    repeat (first | refine za rfl rfl ?_ | refine zb rfl ?_ | refine zc rfl ?_)
    refine T.ret Tryz.func37 rfl (fun w' hA => ⟨⟨i, off, ab, acs, acap, xs, vl⟩, by rw [← hil]; rfl, ?_, hA⟩)
    refine .inr ⟨ab, 0, acap, rfl, by have := hown.le; omega, fun j a ha => ⟨akC a, rfl, mv_own hA.nd (i := 0) rfl hown (fun k v hk => ?_), rfl⟩⟩
    rw [Nat.zero_add]
    exact hall j a (by rw [hil]; rw [nth_eq] at ha; exact (List.getElem?_eq_some_iff.1 ha).1) ha k v hk
end X
namespace X
theorem el96 : Elem Tryz.prog 96 110 2 32 := elem_of (by kernel_rfl)
theorem sl96 : (∃ e2, Tryz.prog.underlying 96 = some (.slice e2)) ∨ Tryz.prog.underlying 96 = some .string := .inl ⟨_, Tryz.underlying96⟩
theorem pl110 : placesOk Tryz.prog 110 [(0, 1), (1, 1)] 2 = true := by kernel_rfl
theorem paramsBack (l : List Pr) (hl : l.length ≤ 2000) (hd : ∀ p ∈ l, p.data.length ≤ 2000) (pv : Value) :
    Ct (β := Value × Mem) Tryz.prog 142 [pv] [] (fun w => SlP (view [] w) pv l) (fun y => y.1) (fun y _ => SlP (mv y.2) y.1 l) (fun y => y.2) := by
  intro w hS hx
  obtain ⟨a, cap, hsh, hcap⟩ := hx.shape
  subst hsh
  refine calls_of_T (m := 25) Tryz.func142 rfl rfl (by simp) hS ?_
  repeat (first | refine za rfl rfl ?_ | refine zb rfl ?_ | refine zc rfl ?_)
  refine TL.bs0 el96 rfl rfl (fun b1 => ?_)
  repeat (first | refine za rfl rfl ?_ | refine zb rfl ?_ | refine zc rfl ?_)
  refine T.loop (α := Nat × Nat × List Value × Nat × List Value × Mem) (fun x => [(3, .slice (some ⟨x.2.1, 0, none⟩) x.1 x.2.2.2.1), (7, .slice a l.length cap), (8, .int .i64 (l.length : Int)), (9, .int .i64 (x.1 : Int))])
    (fun x w' => (x.1 ≤ l.length ∧ Own x.2.2.1 x.1 x.2.2.2.1 2 x.2.2.2.2.1 ∧ ∀ j p, j < x.1 → nth l j = some p → ∃ dv, nth x.2.2.2.2.1 (j * 2) = some (.int .u16 (p.key : Int)) ∧ nth x.2.2.2.2.1 (j * 2 + 1) = some dv ∧ SlB (mv x.2.2.2.2.2) dv p.data) ∧ St (keys []) w ((x.2.1, .row x.2.2.1 110) :: x.2.2.2.2.2) w')
    (fun x => l.length - x.1) (0, b1, [], 0, [], []) ⟨rfl, rfl, rfl, rfl, trivial⟩ (fun w' hA => ⟨⟨Nat.zero_le _, own0 2, fun j p hj => (Nat.not_lt_zero _ hj).elim⟩, hA⟩) ?_
  rintro ⟨i, ab, acs, acap, axs, E⟩ ih
  refine T.and fun ⟨hi, hown, hall⟩ => ?_
  simp only at hi hown hall
  repeat (first | refine za rfl rfl ?_ | refine zb rfl ?_ | refine zc rfl ?_)
  by_cases hlt : i < l.length
  · refine T.condT rfl (by simpa using hlt) ?_
    obtain ⟨s, hs⟩ := nth_lt hlt
    obtain ⟨b, o, cap', cs, hv, _, _, hrs, dv, hcs, hdv⟩ := hx.at hs
    injection hv with hv1 _ hv3
    subst hv1 hv3 hcs
    obtain ⟨da, dcap, hdsh, hdcap⟩ := hdv.shape
    have hsl := hd s (nth_mem hs)
    subst hdsh
    repeat (first | refine za rfl rfl ?_ | refine zb rfl ?_ | refine zc rfl ?_)
    refine TL.ix (j := i) tbk rfl rfl rfl rfl rfl rfl hlt ?_
    refine TL.ldRA hrs szk rfl rfl rfl rfl rfl ?_
    refine TL.allocZ 2 Tryz.zeroValue262 rfl rfl rfl (fun lb zs hz => ?_)
    refine TL.stW (vs := [.int .u16 (s.key : Int), .slice da s.data.length dcap]) 0 szk rfl rfl rfl rfl rfl hz (by intro u hu; simp at hu; rcases hu with rfl | rfl <;> rfl) ?_
    repeat (first | refine za rfl rfl ?_ | refine zb rfl ?_ | refine zc rfl ?_)
    refine TS.start [(0, true), (1, true), (2, true), (4, true), (5, true), (3, false), (6, false), (7, true), (8, false), (9, false), (10, true)] [(lb, .row [.int .u16 (s.key : Int), .slice da s.data.length dcap] 262)] mixed (by kernel_rfl) (by kernel_rfl) (by decide) (by simp [setN]) ?_
    refine TS.p tbk rfl rfl ?_
    refine TS.p tbk rfl rfl ?_
    refine TS.y rfl rfl rfl rfl (Y.load szk rfl rfl (fun w h => h.cell (i := 0) rfl rfl)) ?_
    refine TS.p tbk rfl rfl ?_
    refine TS.y rfl rfl rfl rfl (Y.load szk rfl rfl (fun w h => h.cell (i := 0) rfl rfl)) ?_
    refine TS.bs0 rfl el37 rfl rfl (fun b => by simp [setN]) (fun nb => ?_)
    refine TS.append 0 rfl el37 sl37 rfl rfl rfl rfl rfl (own0 1) (SlB.src hdv) (by omega) (by omega) (fun b cs => by simp [setN]) (fun db dcs dc down => ?_)
    have hb := build_seq (vs := [.int .u16 (s.key : Int), .slice (some ⟨db, 0, none⟩) (0 + s.data.length) dc]) pl110 rfl rfl
    refine TS.y rfl rfl rfl rfl (Y.build (pv := partsFrom 0 [.int .u16 (s.key : Int), .slice (some ⟨db, 0, none⟩) (0 + s.data.length) dc]) rfl hb) ?_
    refine TS.bsA (us := [.int .u16 (s.key : Int), .slice (some ⟨db, 0, none⟩) (0 + s.data.length) dc]) rfl el96 rfl rfl (by decide) rfl rfl (fun b => by simp [setN]) (fun eb => ?_)
    refine TS.append (news := [.int .u16 (s.key : Int), .slice (some ⟨db, 0, none⟩) (0 + s.data.length) dc]) 3 rfl el96 sl96 rfl rfl rfl rfl rfl hown (Src.slice (fun w hA j u hj => by rw [add_zero', Nat.zero_add]; exact hA.cell (i := 0) rfl (by rw [nth_eq]; exact hj)) rfl (by intro u hu; simp at hu; rcases hu with rfl | rfl <;> rfl)) (by omega) (by omega) (fun b cs => by simp [setN]) (fun ab' acs' acap' aown' => ?_)
    refine TS.p tbk rfl rfl ?_
    refine TS.nil ?_
    repeat (first | refine za rfl rfl ?_ | refine zb rfl ?_ | refine zc rfl ?_)
    rw [add1_i64 (a := i) (by omega)]
    refine T.again ih (i + 1, ab', acs', acap', axs ++ [.int .u16 (s.key : Int), .slice (some ⟨db, 0, none⟩) (0 + s.data.length) dc], (db, .row dcs 5) :: E) (by simp; omega) ⟨rfl, rfl, rfl, rfl, trivial⟩ (fun w' hA => ?_)
    have hA' : St (keys []) w ((ab', .row acs' 110) :: (db, .row dcs 5) :: E) w' := (hA.sub (M' := [(db, .row dcs 5), (ab', .row acs' 110)] ++ E) (by simp [setN])).perm (List.Perm.swap _ _ _)
    have hnd := (List.nodup_cons.1 hA'.nd).2
    refine ⟨⟨by simp; omega, aown', fun j p hj hp => ?_⟩, hA'⟩
    simp only at hj
    have hxl := hown.length
    rcases Nat.lt_or_ge j i with hji | hji
    · obtain ⟨dv', h1, h2, h3⟩ := hall j p hji hp
      refine ⟨dv', ?_, ?_, h3.mono (mv_sub hnd fun p hp => List.mem_cons_of_mem _ hp)⟩
      · rw [nth_eq] at *; simp only; rw [List.getElem?_append_left (by omega)]; exact h1
      · rw [nth_eq] at *; simp only; rw [List.getElem?_append_left (by omega)]; exact h2
    · have : j = i := by omega
      subst this
      rw [hs] at hp
      simp only [Option.some.injEq] at hp
      subst hp
      refine ⟨.slice (some ⟨db, 0, none⟩) (0 + s.data.length) dc, ?_, ?_, ?_⟩
      · rw [nth_eq]; simp only; rw [List.getElem?_append_right (by omega), hxl]; simp
      · rw [nth_eq]; simp only; rw [List.getElem?_append_right (by omega), hxl, show j * 2 + 1 - j * 2 = 1 by omega]; simp
      · rw [Nat.zero_add]; exact SlB.of hnd (i := 0) rfl (by simpa using down)
  · refine T.condF rfl (by simpa using hlt) ?_
    have : i = l.length := by omega
    subst this
    repeat (first | refine za rfl rfl ?_ | refine zb rfl ?_ | refine zc rfl ?_)
    refine T.ret Tryz.func142 rfl (fun w' hA => ⟨(.slice (some ⟨ab, 0, none⟩) l.length acap, (ab, .row acs 110) :: E), rfl, ?_, hA⟩)
    refine .inr ⟨ab, 0, acap, rfl, hown.le, fun j p hp => ?_⟩
    obtain ⟨dv, h1, h2, h3⟩ := hall j p (by rw [nth_eq] at hp; exact (List.getElem?_eq_some_iff.1 hp).1) hp
    refine ⟨[.int .u16 (p.key : Int), dv], rfl, mv_own hA.nd (i := 0) rfl hown (fun k v hk => ?_), dv, rfl, h3.mono (mv_sub hA.nd fun p hp => List.mem_cons_of_mem _ hp)⟩
    rw [Nat.zero_add]
    match k, hk with
    | 0, hk => simp [nth] at hk; subst hk; exact h1
    | 1, hk => simp [nth] at hk; subst hk; exact h2
    | k + 2, hk => simp [nth] at hk
end X
end Go.Proofs.YtifnodoffgfpbaaGreatDoor
