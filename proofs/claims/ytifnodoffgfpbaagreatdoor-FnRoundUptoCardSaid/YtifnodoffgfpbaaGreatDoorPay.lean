/- What the call is handed reads as a message, in whatever memory. -/
import Derived.Test.YtifnodoffgfpbaaGreatDoorPax
import Derived.Test.YtifnodoffgfpbaaGreatDoorRows
import Derived.WalkKit
import Derived.ProofKit
import Derived.OpenShut
import Derived.LaidEql
import Derived.MakeChecks
import Derived.Stop.LaidErr
namespace Go.Proofs.YtifnodoffgfpbaaGreatDoor
open Go
namespace X
section
variable {H : Type} {enc : TypeId × Value → H} {W : World}
theorem bulk_one (d : DataW H) : 1 ≤ Rows.uptoBulk d := by
  cases d with
  | lit l => cases l <;> simp [Rows.uptoBulk]
  | nil => simp [Rows.uptoBulk]
  | ptr d => simp [Rows.uptoBulk]
  | slice elems spare => simp [Rows.uptoBulk]
  | agg parts => simp [Rows.uptoBulk]
  | iface t d => simp [Rows.uptoBulk]
  | map entries => simp [Rows.uptoBulk]
  | held h => simp [Rows.uptoBulk]
theorem bulk_part {d : DataW H} {l : List (DataW H)} (h : d ∈ l) : Rows.uptoBulk d ≤ Rows.uptoBulkAll l := by
  induction l with
  | nil => cases h
  | cons x r ih =>
    simp only [Rows.uptoBulkAll]
    rcases List.mem_cons.1 h with e | e
    · subst e; omega
    · have := ih e; omega
theorem bulk_len (l : List (DataW H)) : l.length ≤ Rows.uptoBulkAll l := by
  induction l with
  | nil => simp [Rows.uptoBulkAll]
  | cons x r ih => have := bulk_one x; simp only [Rows.uptoBulkAll, List.length_cons]; omega
theorem bulk_app (l r : List (DataW H)) : Rows.uptoBulkAll (l ++ r) = Rows.uptoBulkAll l + Rows.uptoBulkAll r := by
  induction l with
  | nil => simp [Rows.uptoBulkAll]
  | cons x l ih => simp only [List.cons_append, Rows.uptoBulkAll, ih]; omega
/-- These cells read as this, and it is not too large. -/
def Rd (enc : TypeId × Value → H) (W : World) (n : Nat) (t : TypeId) (cs : List Value) : Prop := ∃ x, DataW.trod enc Tryz.prog W 0 (fun _ => true) true n t cs = some x ∧ Rows.uptoBulk x.1 ≤ 1048576
theorem cells_get {a : Addr} {n : Nat} {cs : List Value} (h : W.cells? 0 a n = some cs) : cs.length = n ∧ ∀ i v, nth cs i = some v → W.cell? (a.add i) = some v := by
  unfold World.cells? at h
  rw [if_pos (Nat.zero_le _)] at h
  have hl := mapM_some_length h
  rw [List.length_range] at hl
  refine ⟨hl, fun i v hi => ?_⟩
  rw [nth_eq] at hi
  have hi' := (List.getElem?_eq_some_iff.1 hi).1
  rw [mapM_some_get h i i (by rw [List.getElem?_range (by omega)]), hi]
theorem row_at {b o : Nat} {vs : List Value} (h0 : 0 < vs.length) (h : ∀ i v, nth vs i = some v → W.cell? ⟨b, o + i, none⟩ = some v) : RowAt (view [] W) b o vs := by
  have h1 := h 0 vs[0] (by rw [nth_eq]; exact List.getElem?_eq_getElem h0)
  unfold World.cell? at h1
  cases hb : W.heap[b]? with
  | none => simp [hb] at h1
  | some ob =>
    cases ob with
    | cells c t fr =>
      refine ⟨c, t, fr, by simpa [view] using hb, fun i v hi => ?_⟩
      have := h i v hi
      unfold World.cell? at this
      simpa [hb] using this
    | _ => simp [hb] at h1
theorem choose_l {α : Type} {P : Nat → α → Prop} : ∀ n, (∀ i, i < n → ∃ a, P i a) → ∃ l : List α, l.length = n ∧ ∀ i a, nth l i = some a → P i a
  | 0, _ => ⟨[], rfl, fun i a h => by simp [nth] at h⟩
  | n + 1, h => by
    obtain ⟨l, h1, h2⟩ := choose_l n fun i hi => h i (by omega)
    obtain ⟨a, ha⟩ := h n (by omega)
    refine ⟨l ++ [a], by simp [h1], fun i b hb => ?_⟩
    rcases Nat.lt_or_ge i n with h3 | h3
    · rw [nth_app (by omega)] at hb; exact h2 i b hb
    · rw [nth_eq, List.getElem?_append_right (by omega)] at hb
      have : i = n := by
        have := (List.getElem?_eq_some_iff.1 hb).1
        simp at this; omega
      subst this
      rw [h1, Nat.sub_self] at hb
      simp at hb
      subst hb; exact ha
/-- A slice, by its elements. -/
theorem rd_sl {α : Type} {t e size n : Nat} {E : α → List Value → Prop} {S : α → Prop} {cs : List Value} (ht : Tryz.prog.underlying t = some (.slice e)) (hz : Tryz.prog.cellsOf e = size) (hp : 0 < size)
    (helem : ∀ n cs, Rd enc W n e cs → cs.length = size → ∃ a, E a cs ∧ S a) (h : Rd enc W n t cs) : ∃ v l, cs = [v] ∧ Sl (view [] W) size E v l ∧ l.length ≤ 1048576 ∧ ∀ a ∈ l, S a := by
  obtain ⟨x, h, hb⟩ := h
  rcases DataW.trod_slice ht h with ⟨rfl, _⟩ | ⟨a, len, cap, elems, rest, m, _, rfl, rfl, _, hlc, _, hel, he, _, _⟩
  · exact ⟨_, [], rfl, .inl ⟨⟨_, _, rfl⟩, rfl⟩, by simp, by simp⟩
  · simp only [Rows.uptoBulk] at hb
    have hle := bulk_len (elems.map (·.1))
    rw [List.length_map] at hle
    by_cases h0 : len = 0
    · subst h0
      exact ⟨_, [], rfl, .inl ⟨⟨_, _, rfl⟩, rfl⟩, by simp, by simp⟩
    · have key : ∀ i, i < len → ∃ a', S a' ∧ ∃ cs', cs'.length = size ∧ W.cells? 0 (a.add (i * size)) size = some cs' ∧ E a' cs' := fun i hi => by
        have h1 := he i hi
        rw [hz, List.getElem?_eq_getElem (by omega)] at h1
        obtain ⟨cs', h2, h3⟩ := Option.bind_eq_some_iff.1 h1
        have hl := (cells_get h2).1
        have hb2 : Rows.uptoBulk (elems[i]'(by omega)).1 ≤ Rows.uptoBulkAll (elems.map (·.1)) := bulk_part (List.mem_map.2 ⟨_, List.getElem_mem _, rfl⟩)
        obtain ⟨a', h4, h5⟩ := helem m cs' ⟨_, h3, by omega⟩ hl
        exact ⟨a', h5, cs', hl, h2, h4⟩
      obtain ⟨_, _, cs0, hl0, h20, _⟩ := key 0 (by omega)
      have hsp := (cells_get h20).2 0 cs0[0] (by rw [nth_eq]; exact List.getElem?_eq_getElem (by omega))
      obtain ⟨b, o, sp⟩ := a
      have hspot := World.cell?_spot hsp
      rw [Nat.zero_mul] at hspot
      simp only [Addr.add, if_true] at hspot
      subst hspot
      obtain ⟨l, hll, hl⟩ := choose_l len key
      refine ⟨_, l, rfl, .inr ⟨b, o, cap, by rw [hll], by omega, fun i a' ha => ?_⟩, by omega, fun a' ha => ?_⟩
      · obtain ⟨_, cs', c1, c2, c3⟩ := hl i a' ha
        refine ⟨cs', c1, row_at (by omega) fun j v hj => ?_, c3⟩
        have := (cells_get c2).2 j v hj
        rw [add_zero', add_zero'] at this
        exact this
      · obtain ⟨i, hi⟩ := List.getElem?_of_mem ha
        exact (hl i a' (by rw [nth_eq]; exact hi)).1
theorem rd_int {k : IntKind} {t n : Nat} {cs : List Value} (ht : Tryz.prog.underlying t = some (.int k)) (h : Rd enc W n t cs) : ∃ m, cs = [.int k m] ∧ (Lit.int k m).wf = true := by
  obtain ⟨x, h, _⟩ := h
  obtain ⟨m, h1, _, h2⟩ := DataW.trod_int ht h
  exact ⟨m, h1, h2⟩
theorem rd_u16 {t n : Nat} {cs : List Value} (ht : Tryz.prog.underlying t = some (.int .u16)) (h : Rd enc W n t cs) : ∃ q : Nat, cs = [.int .u16 (q : Int)] ∧ q < 65536 := by
  obtain ⟨m, h1, h2⟩ := rd_int ht h
  have : 0 ≤ m ∧ m ≤ 65535 := by simpa [Lit.wf, IntKind.min, IntKind.max, IntKind.signed, IntKind.bits] using h2
  exact ⟨m.toNat, by rw [h1, Int.toNat_of_nonneg this.1], by omega⟩
theorem rd_u32 {t n : Nat} {cs : List Value} (ht : Tryz.prog.underlying t = some (.int .u32)) (h : Rd enc W n t cs) : ∃ q : Nat, cs = [.int .u32 (q : Int)] ∧ q < 4294967296 := by
  obtain ⟨m, h1, h2⟩ := rd_int ht h
  have : 0 ≤ m ∧ m ≤ 4294967295 := by simpa [Lit.wf, IntKind.min, IntKind.max, IntKind.signed, IntKind.bits] using h2
  exact ⟨m.toNat, by rw [h1, Int.toNat_of_nonneg this.1], by omega⟩
theorem rd_bool {t n : Nat} {cs : List Value} (ht : Tryz.prog.underlying t = some .bool) (h : Rd enc W n t cs) : ∃ b, cs = [.bool b] := by
  obtain ⟨x, h, _⟩ := h
  obtain ⟨b, h1, _⟩ := DataW.trod_bool ht h
  exact ⟨b, h1⟩
theorem rd_str {n : Nat} {cs : List Value} (h : Rd enc W n 9 cs) : ∃ s : Bs, cs = [str s] ∧ s.length ≤ 1048576 := by
  obtain ⟨x, h, hb⟩ := h
  obtain ⟨s, h1, h2, _⟩ := DataW.trod_string Tryz.underlying9 h
  subst h2
  simp only [Rows.uptoBulk] at hb
  refine ⟨s.data.toList, ?_, by omega⟩
  rw [h1]
  cases s
  simp [str]
theorem rd_bytes {n : Nat} {cs : List Value} (h : Rd enc W n 37 cs) : ∃ v l, cs = [v] ∧ SlB (view [] W) v l ∧ l.length ≤ 1048576 := by
  obtain ⟨v, l, h1, h2, h3, _⟩ := rd_sl (α := UInt8) (E := fun b cs => cs = [bv b]) (S := fun _ => True) (size := 1) Tryz.underlying37 (by kernel_rfl) (by decide) (fun n cs hr _ => by
    obtain ⟨m, e1, e2⟩ := rd_int Tryz.underlying5 hr
    have : 0 ≤ m ∧ m ≤ 255 := by simpa [Lit.wf, IntKind.min, IntKind.max, IntKind.signed, IntKind.bits] using e2
    refine ⟨UInt8.ofNat m.toNat, ?_, trivial⟩
    rw [e1, bv, UInt8.toNat_ofNat_of_lt' (by show m.toNat < 256; omega), Int.toNat_of_nonneg this.1]) h
  refine ⟨v, l, h1, ?_, h3⟩
  rcases h2 with ⟨h2, h4⟩ | ⟨b, o, cap, h4, h5, h6⟩
  · exact .inl ⟨h2, h4⟩
  · by_cases h0 : l = []
    · subst h0; exact .inl ⟨⟨_, _, h4⟩, rfl⟩
    · obtain ⟨c0, hc0⟩ := nth_lt (List.length_pos_iff.2 h0)
      obtain ⟨_, _, ⟨c, t, fr, g1, _⟩, _⟩ := h6 0 c0 hc0
      refine .inr ⟨b, o, cap, h4, h5, c, t, fr, g1, fun i u hi => ?_⟩
      rw [nth_eq, List.getElem?_map] at hi
      obtain ⟨x, hx, rfl⟩ := Option.map_eq_some_iff.1 hi
      obtain ⟨_, _, ⟨c', t', fr', g1', g2'⟩, rfl⟩ := h6 i x (by rw [nth_eq]; exact hx)
      rw [g1] at g1'
      cases g1'
      have := g2' 0 _ rfl
      simpa using this
theorem rd_struct {t n : Nat} {fs : Array Field} {cs : List Value} (ht : Tryz.prog.underlying t = some (.struct fs)) (h : Rd enc W n t cs) :
    cs.length = Tryz.prog.cellsOf t ∧ ∃ m, ∀ (i : Nat) (f : Field) (k : Nat) (vs : List Value), fs[i]? = some f → Tryz.prog.cellsOf f.type = k → (cs.drop f.offset).take k = vs → Rd enc W m f.type vs := by
  obtain ⟨x, h, hb⟩ := h
  obtain ⟨xs, m, _, h2, h3, h4, h5⟩ := DataW.trod_struct ht h
  refine ⟨h3, m, fun i f k vs hi hk hv => ?_⟩
  have h6 := h5 i f hi
  have hi' := (Array.getElem?_eq_some_iff.1 hi).1
  rw [hk, hv, List.getElem?_eq_getElem (by omega)] at h6
  refine ⟨_, h6, ?_⟩
  subst h2
  simp only [Rows.uptoBulk] at hb
  have : Rows.uptoBulk (xs[i]'(by omega)).1 ≤ Rows.uptoBulkAll (xs.map (·.1)) := bulk_part (List.mem_map.2 ⟨_, List.getElem_mem _, rfl⟩)
  omega
theorem co9 : Tryz.prog.cellsOf 9 = 1 := by kernel_rfl
theorem co22 : Tryz.prog.cellsOf 22 = 1 := by kernel_rfl
theorem co54 : Tryz.prog.cellsOf 54 = 1 := by kernel_rfl
theorem co37 : Tryz.prog.cellsOf 37 = 1 := by kernel_rfl
theorem co3 : Tryz.prog.cellsOf 3 = 1 := by kernel_rfl
theorem co4 : Tryz.prog.cellsOf 4 = 1 := by kernel_rfl
theorem co55 : Tryz.prog.cellsOf 55 = 1 := by kernel_rfl
theorem co96 : Tryz.prog.cellsOf 96 = 1 := by kernel_rfl
theorem co25 : Tryz.prog.cellsOf 25 = 1 := by kernel_rfl
theorem co26 : Tryz.prog.cellsOf 26 = 1 := by kernel_rfl
theorem co24 : Tryz.prog.cellsOf 24 = 10 := by kernel_rfl
theorem rd_pr {n : Nat} {cs : List Value} (h : Rd enc W n 110 cs) : ∃ p : Pr, (∃ dv, cs = [.int .u16 (p.key : Int), dv] ∧ SlB (view [] W) dv p.data) ∧ p.key < 65536 ∧ p.data.length ≤ 1048576 := by
  obtain ⟨hl, m, hf⟩ := rd_struct Tryz.underlying110 h
  rw [show Tryz.prog.cellsOf 110 = 2 by kernel_rfl] at hl
  match cs, hl with
  | [a, b], _ =>
    obtain ⟨q, e1, q1⟩ := rd_u16 Tryz.underlying22 (hf 0 _ 1 [a] rfl co22 rfl)
    obtain ⟨v, l, e2, h2, h3⟩ := rd_bytes (hf 1 _ 1 [b] rfl co37 rfl)
    simp only [List.cons.injEq, and_true] at e1 e2
    subst e1 e2
    exact ⟨⟨q, l⟩, ⟨_, rfl, h2⟩, q1, h3⟩
theorem rd_ak {n : Nat} {cs : List Value} (h : Rd enc W n 51 cs) : ∃ a : Ak, cs = [str a.name, .int .u16 (a.typ : Int), .int .u16 (a.cls : Int)] ∧ a.Sm := by
  obtain ⟨hl, m, hf⟩ := rd_struct Tryz.underlying51 h
  rw [show Tryz.prog.cellsOf 51 = 3 by kernel_rfl] at hl
  match cs, hl with
  | [a, b, c], _ =>
    obtain ⟨s, e1, q1⟩ := rd_str (hf 0 _ 1 [a] rfl co9 rfl)
    obtain ⟨t, e2, q2⟩ := rd_u16 Tryz.underlying22 (hf 1 _ 1 [b] rfl co22 rfl)
    obtain ⟨u, e3, q3⟩ := rd_u16 Tryz.underlying22 (hf 2 _ 1 [c] rfl co22 rfl)
    simp only [List.cons.injEq, and_true] at e1 e2 e3
    subst e1 e2 e3
    exact ⟨⟨s, t, u⟩, rfl, ⟨q2, q3⟩, q1⟩
theorem rd_rc {n : Nat} {cs : List Value} (h : Rd enc W n 98 cs) : ∃ r : Rc, RcE (view [] W) r cs ∧ r.Sm := by
  obtain ⟨hl, m, hf⟩ := rd_struct Tryz.underlying98 h
  rw [show Tryz.prog.cellsOf 98 = 16 by kernel_rfl] at hl
  match cs, hl with
  | [c0, c1, c2, c3, c4, c5, c6, c7, c8, c9, c10, c11, c12, c13, c14, c15], _ =>
    obtain ⟨a0, e0, q0⟩ := rd_str (hf 0 _ 1 [c0] rfl co9 rfl)
    obtain ⟨a1, e1, q1⟩ := rd_u16 Tryz.underlying22 (hf 1 _ 1 [c1] rfl co22 rfl)
    obtain ⟨a2, e2, q2⟩ := rd_u16 Tryz.underlying22 (hf 2 _ 1 [c2] rfl co22 rfl)
    obtain ⟨a3, e3, q3⟩ := rd_u32 Tryz.underlying54 (hf 3 _ 1 [c3] rfl co54 rfl)
    obtain ⟨a4, e4, q4⟩ := rd_u16 Tryz.underlying22 (hf 4 _ 1 [c4] rfl co22 rfl)
    obtain ⟨a5, e5, _⟩ := rd_int Tryz.underlying3 (hf 5 _ 1 [c5] rfl co3 rfl)
    obtain ⟨v6, a6, e6, s6, q6⟩ := rd_bytes (hf 6 _ 1 [c6] rfl co37 rfl)
    obtain ⟨a7, e7, q7⟩ := rd_str (hf 7 _ 1 [c7] rfl co9 rfl)
    obtain ⟨a8, e8, q8⟩ := rd_str (hf 8 _ 1 [c8] rfl co9 rfl)
    obtain ⟨a9, e9, q9⟩ := rd_u32 Tryz.underlying54 (hf 9 _ 1 [c9] rfl co54 rfl)
    obtain ⟨a10, e10, q10⟩ := rd_u32 Tryz.underlying54 (hf 10 _ 1 [c10] rfl co54 rfl)
    obtain ⟨a11, e11, q11⟩ := rd_u32 Tryz.underlying54 (hf 11 _ 1 [c11] rfl co54 rfl)
    obtain ⟨a12, e12, q12⟩ := rd_u32 Tryz.underlying54 (hf 12 _ 1 [c12] rfl co54 rfl)
    obtain ⟨a13, e13, q13⟩ := rd_u32 Tryz.underlying54 (hf 13 _ 1 [c13] rfl co54 rfl)
    obtain ⟨v14, a14, e14, s14, q14, p14⟩ := rd_sl (α := Bs) (E := fun s cs => cs = [str s]) (S := fun s => s.length ≤ 1048576) (size := 1) Tryz.underlying55 co9 (by decide) (fun n cs hr _ => rd_str hr) (hf 14 _ 1 [c14] rfl co55 rfl)
    obtain ⟨v15, a15, e15, s15, q15, p15⟩ := rd_sl (α := Pr) (E := fun p cs => ∃ dv, cs = [.int .u16 (p.key : Int), dv] ∧ SlB (view [] W) dv p.data) (S := fun p => p.key < 65536 ∧ p.data.length ≤ 1048576) (size := 2) Tryz.underlying96 (by kernel_rfl) (by decide) (fun n cs hr _ => rd_pr hr) (hf 15 _ 1 [c15] rfl co96 rfl)
    simp only [List.cons.injEq, and_true] at e0 e1 e2 e3 e4 e5 e6 e7 e8 e9 e10 e11 e12 e13 e14 e15
    subst e0 e1 e2 e3 e4 e5 e6 e7 e8 e9 e10 e11 e12 e13 e14 e15
    exact ⟨⟨a0, a1, a2, a3, a4, a5, a6, a7, a8, a9, a10, a11, a12, a13, a14, a15⟩, ⟨_, _, _, rfl, s6, s14, s15⟩, ⟨⟨q1, q2, q3, q4, q9, q10, q11, q12, q13, fun p hp => (p15 p hp).1⟩, q0, q6, q7, q8, q14, p14, q15, fun p hp => (p15 p hp).2⟩⟩
theorem rd_hd {n : Nat} {cs : List Value} (h : Rd enc W n 24 cs) : ∃ hd : Hd, cs = hdCells hd ∧ hd.id < 65536 ∧ hd.op < 65536 ∧ hd.code < 65536 := by
  obtain ⟨hl, m, hf⟩ := rd_struct Tryz.underlying24 h
  rw [co24] at hl
  match cs, hl with
  | [c0, c1, c2, c3, c4, c5, c6, c7, c8, c9], _ =>
    obtain ⟨a0, e0, q0⟩ := rd_u16 Tryz.underlying22 (hf 0 _ 1 [c0] rfl co22 rfl)
    obtain ⟨a1, e1⟩ := rd_bool Tryz.underlying4 (hf 1 _ 1 [c1] rfl co4 rfl)
    obtain ⟨a2, e2, q2⟩ := rd_u16 Tryz.underlying22 (hf 2 _ 1 [c2] rfl co22 rfl)
    obtain ⟨a3, e3⟩ := rd_bool Tryz.underlying4 (hf 3 _ 1 [c3] rfl co4 rfl)
    obtain ⟨a4, e4⟩ := rd_bool Tryz.underlying4 (hf 4 _ 1 [c4] rfl co4 rfl)
    obtain ⟨a5, e5⟩ := rd_bool Tryz.underlying4 (hf 5 _ 1 [c5] rfl co4 rfl)
    obtain ⟨a6, e6⟩ := rd_bool Tryz.underlying4 (hf 6 _ 1 [c6] rfl co4 rfl)
    obtain ⟨a7, e7⟩ := rd_bool Tryz.underlying4 (hf 7 _ 1 [c7] rfl co4 rfl)
    obtain ⟨a8, e8⟩ := rd_bool Tryz.underlying4 (hf 8 _ 1 [c8] rfl co4 rfl)
    obtain ⟨a9, e9, q9⟩ := rd_u16 Tryz.underlying22 (hf 9 _ 1 [c9] rfl co22 rfl)
    simp only [List.cons.injEq, and_true] at e0 e1 e2 e3 e4 e5 e6 e7 e8 e9
    subst e0 e1 e2 e3 e4 e5 e6 e7 e8 e9
    exact ⟨⟨a0, a1, a2, a3, a4, a5, a6, a7, a8, a9⟩, rfl, q0, q2, q9⟩
theorem rd_ms {n : Nat} {cs : List Value} (h : Rd enc W n 28 cs) : ∃ (m : Ms) (av ov_ tv rv : Value), cs = msCells m.head av ov_ tv rv ∧ MsIn (view [] W) m av ov_ tv rv ∧ m.Sm := by
  obtain ⟨hl, m, hf⟩ := rd_struct Tryz.underlying28 h
  rw [show Tryz.prog.cellsOf 28 = 14 by kernel_rfl] at hl
  match cs, hl with
  | [c0, c1, c2, c3, c4, c5, c6, c7, c8, c9, c10, c11, c12, c13], _ =>
    have rr : ∀ {n : Nat} {c : Value}, Rd enc W n 26 [c] → ∃ v l, [c] = [v] ∧ SlR (view [] W) v l ∧ l.length ≤ 1048576 ∧ ∀ r ∈ l, r.Sm := fun h => rd_sl (α := Rc) (E := RcE (view [] W)) (S := Rc.Sm) (size := 16) Tryz.underlying26 (by kernel_rfl) (by decide) (fun n cs hr _ => rd_rc hr) h
    obtain ⟨hd, e0, h1, h2, h3⟩ := rd_hd (hf 0 _ 10 [c0, c1, c2, c3, c4, c5, c6, c7, c8, c9] rfl co24 rfl)
    obtain ⟨v1, l1, e1, s1, q1, p1⟩ := rd_sl (α := Ak) (E := fun a cs => cs = [str a.name, .int .u16 (a.typ : Int), .int .u16 (a.cls : Int)]) (S := Ak.Sm) (size := 3) Tryz.underlying25 (by kernel_rfl) (by decide) (fun n cs hr _ => rd_ak hr) (hf 1 _ 1 [c10] rfl co25 rfl)
    obtain ⟨v2, l2, e2, s2, q2, p2⟩ := rr (hf 2 _ 1 [c11] rfl co26 rfl)
    obtain ⟨v3, l3, e3, s3, q3, p3⟩ := rr (hf 3 _ 1 [c12] rfl co26 rfl)
    obtain ⟨v4, l4, e4, s4, q4, p4⟩ := rr (hf 4 _ 1 [c13] rfl co26 rfl)
    simp only [List.cons.injEq, and_true] at e1 e2 e3 e4
    subst e1 e2 e3 e4
    refine ⟨⟨hd, l1, l2, l3, l4⟩, c10, c11, c12, c13, ?_, ⟨s1, s2, s3, s4⟩, ⟨h1, h2, h3, q1, p1, q2, p2, q3, p3, q4, p4⟩⟩
    simp only [msCells, ← e0]; rfl
end
end X
end Go.Proofs.YtifnodoffgfpbaaGreatDoor
