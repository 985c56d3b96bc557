/- Texts F1, N1, E11, F2, F3, F4, F5. Contracts of the functions that append numbers, bytes and texts. -/
import Derived.Test.YtifnodoffgfpbaaGreatDoorPac
import Derived.KernelRfl
namespace Go.Proofs.YtifnodoffgfpbaaGreatDoor
open Go
namespace X

abbrev OwnB (cs : List Value) (B : Bs) (cap : Nat) : Prop := Own cs B.length cap 1 (B.map bv)
def w2 (n : Nat) : Bs := [UInt8.ofNat (n / 256), UInt8.ofNat n]
def w4 (n : Nat) : Bs := [UInt8.ofNat (n / 16777216), UInt8.ofNat (n / 65536), UInt8.ofNat (n / 256), UInt8.ofNat n]
theorem el37 : Elem Tryz.prog 37 5 1 1 := elem_of (by kernel_rfl)
theorem sl37 : (∃ e2, Tryz.prog.underlying 37 = some (.slice e2)) ∨ Tryz.prog.underlying 37 = some .string := .inl ⟨_, Tryz.underlying37⟩
theorem sl9 : (∃ e2, Tryz.prog.underlying 9 = some (.slice e2)) ∨ Tryz.prog.underlying 9 = some .string := .inr Tryz.underlying9
theorem wrap_u8 (z : Int) : IntKind.u8.wrap z = z % 256 := by simp [IntKind.wrap, IntKind.bits, IntKind.signed]
theorem wrap_u16 (z : Int) : IntKind.u16.wrap z = z % 65536 := by simp [IntKind.wrap, IntKind.bits, IntKind.signed]
theorem wrap_u32 (z : Int) : IntKind.u32.wrap z = z % 4294967296 := by simp [IntKind.wrap, IntKind.bits, IntKind.signed]
theorem shr16 (n : Nat) : (n : Int).fdiv (2 ^ min 8 IntKind.u16.bits) = (n / 256 : Nat) := by
  rw [Int.fdiv_eq_ediv_of_nonneg _ (by simp [IntKind.bits])]; simp [IntKind.bits]
theorem shr32_8 (n : Nat) : (n : Int).fdiv (2 ^ min 8 IntKind.u32.bits) = (n / 256 : Nat) := by
  rw [Int.fdiv_eq_ediv_of_nonneg _ (by simp [IntKind.bits])]; simp [IntKind.bits]
theorem shr32_16 (n : Nat) : (n : Int).fdiv (2 ^ min 16 IntKind.u32.bits) = (n / 65536 : Nat) := by
  rw [Int.fdiv_eq_ediv_of_nonneg _ (by simp [IntKind.bits])]; simp [IntKind.bits]
theorem shr32_24 (n : Nat) : (n : Int).fdiv (2 ^ min 24 IntKind.u32.bits) = (n / 16777216 : Nat) := by
  rw [Int.fdiv_eq_ediv_of_nonneg _ (by simp [IntKind.bits])]; simp [IntKind.bits]
theorem byte_of (n : Nat) (z : Int) (h : z % 256 = (n % 256 : Nat)) : Value.int .u8 (IntKind.u8.wrap z) = bv (UInt8.ofNat n) := by
  rw [wrap_u8, h, bv]; congr 1
theorem bv_mem {l : Bs} {v : Value} (h : v ∈ l.map bv) : v.oneCell' = true := by obtain ⟨_, _, rfl⟩ := List.mem_map.1 h; rfl

theorem Own.cast {cs xs ys : List Value} {len len' cap size : Nat} (h : Own cs len cap size xs) (h1 : len = len') (h2 : xs = ys) : Own cs len' cap size ys := by subst h1 h2; exact h
/-- Which a block's slice may become: (block, cells, capacity). -/
abbrev Bk := Nat × List Value × Nat
def slV (b len cap : Nat) : Value := .slice (some ⟨b, 0, none⟩) len cap

/-- Bytes that lie in the block i of ours, from its start on. -/
theorem src_block {X : List Nat} {w0 : World} {M : Mem} {b i c : Nat} {cs : List Value} {tt : TypeId} {E : Bs} (hi : nth M i = some (b, .row cs tt)) (h : cs = E.map bv) : Src Tryz.prog (St X w0 M) 1 (.slice (some ⟨b, 0, none⟩) E.length c) E.length (E.map bv) :=
  Src.slice (fun w hA j u hj => by
    rw [add_zero']
    refine hA.cell hi ?_
    rw [nth_eq, h, Nat.zero_add]; exact hj) (by simp) fun _ => bv_mem

theorem packUint16_ok (b : Nat) (cs : List Value) (cap : Nat) (B : Bs) (m : Nat) (ho : OwnB cs B cap) (hB : B.length ≤ 1099511627776) :
    Ct (β := Bk) Tryz.prog 102 [slV b B.length cap, .int .u16 m] [(b, .row cs 5)] (fun _ => True) (fun y => slV y.1 (B ++ w2 m).length y.2.2) (fun y _ => OwnB y.2.1 (B ++ w2 m) y.2.2) (fun y => [(y.1, .row y.2.1 5)]) := by
  intro w hS _
  refine calls_of_T (m := 13) Tryz.func102 rfl rfl (by simp) hS ?_
  repeat (first | refine za rfl rfl ?_ | refine zb rfl ?_ | refine zc rfl ?_)
  refine TL.bs el37 rfl rfl (by intro v hv; simp at hv; rcases hv with rfl | rfl <;> rfl) (by simp) rfl rfl (fun b1 => ?_)
  have e1 := byte_of (m / 256) ((m : Int).fdiv (2 ^ min 8 IntKind.u16.bits)) (by rw [shr16]; omega)
  have e2 := byte_of m (m : Int) (by omega)
  refine TL.append 1 el37 sl37 rfl rfl rfl rfl rfl ho (src_block (i := 0) (E := w2 m) rfl (by simp [w2, e1, e2])) (by simp [w2]; omega) (by simp [w2]; omega) (fun b' cs' cap' ho' => ?_)
  repeat (first | refine za rfl rfl ?_ | refine zb rfl ?_ | refine zc rfl ?_)
  refine T.ret Tryz.func102 rfl (fun w hA => ⟨(b', cs', cap'), ?_, ?_, hA.sub (by simp [setN])⟩)
  · simp [pack, slV]
  · simpa [OwnB] using ho'

theorem packUint32_ok (b : Nat) (cs : List Value) (cap : Nat) (B : Bs) (m : Nat) (ho : OwnB cs B cap) (hB : B.length ≤ 1099511627776) :
    Ct (β := Bk) Tryz.prog 144 [slV b B.length cap, .int .u32 m] [(b, .row cs 5)] (fun _ => True) (fun y => slV y.1 (B ++ w4 m).length y.2.2) (fun y _ => OwnB y.2.1 (B ++ w4 m) y.2.2) (fun y => [(y.1, .row y.2.1 5)]) := by
  intro w hS _
  refine calls_of_T (m := 19) Tryz.func144 rfl rfl (by simp) hS ?_
  repeat (first | refine za rfl rfl ?_ | refine zb rfl ?_ | refine zc rfl ?_)
  refine TL.bs el37 rfl rfl (by intro v hv; simp at hv; rcases hv with rfl | rfl | rfl | rfl <;> rfl) (by simp) rfl rfl (fun b1 => ?_)
  have e1 := byte_of (m / 16777216) ((m : Int).fdiv (2 ^ min 24 IntKind.u32.bits)) (by rw [shr32_24]; omega)
  have e2 := byte_of (m / 65536) ((m : Int).fdiv (2 ^ min 16 IntKind.u32.bits)) (by rw [shr32_16]; omega)
  have e3 := byte_of (m / 256) ((m : Int).fdiv (2 ^ min 8 IntKind.u32.bits)) (by rw [shr32_8]; omega)
  have e4 := byte_of m (m : Int) (by omega)
  refine TL.append 1 el37 sl37 rfl rfl rfl rfl rfl ho (src_block (i := 0) (E := w4 m) rfl (by simp [w4, e1, e2, e3, e4])) (by simp [w4]; omega) (by simp [w4]; omega) (fun b' cs' cap' ho' => ?_)
  repeat (first | refine za rfl rfl ?_ | refine zb rfl ?_ | refine zc rfl ?_)
  refine T.ret Tryz.func144 rfl (fun w hA => ⟨(b', cs', cap'), ?_, ?_, hA.sub (by simp [setN])⟩)
  · simp [pack, slV]
  · simpa [OwnB] using ho'

theorem packType_ok (b : Nat) (cs : List Value) (cap : Nat) (B : Bs) (m : Nat) (ho : OwnB cs B cap) (hB : B.length ≤ 1099511627776) :
    Ct (β := Bk) Tryz.prog 104 [slV b B.length cap, .int .u16 m] [(b, .row cs 5)] (fun _ => True) (fun y => slV y.1 (B ++ w2 m).length y.2.2) (fun y _ => OwnB y.2.1 (B ++ w2 m) y.2.2) (fun y => [(y.1, .row y.2.1 5)]) := by
  intro w hS _
  refine calls_of_T (m := 8) Tryz.func104 rfl rfl (by simp) hS ?_
  repeat (first | refine za rfl rfl ?_ | refine zb rfl ?_ | refine zc rfl ?_)
  refine TL.call1 0 Tryz.call102 rfl rfl rfl rfl (packUint16_ok b cs cap B m ho hB) (fun _ _ => trivial) (fun y => TL.and fun hy => ?_)
  repeat (first | refine za rfl rfl ?_ | refine zb rfl ?_ | refine zc rfl ?_)
  refine T.ret Tryz.func104 rfl (fun w hA => ⟨y, rfl, hy, hA⟩)
theorem packClass_ok (b : Nat) (cs : List Value) (cap : Nat) (B : Bs) (m : Nat) (ho : OwnB cs B cap) (hB : B.length ≤ 1099511627776) :
    Ct (β := Bk) Tryz.prog 105 [slV b B.length cap, .int .u16 m] [(b, .row cs 5)] (fun _ => True) (fun y => slV y.1 (B ++ w2 m).length y.2.2) (fun y _ => OwnB y.2.1 (B ++ w2 m) y.2.2) (fun y => [(y.1, .row y.2.1 5)]) := by
  intro w hS _
  refine calls_of_T (m := 8) Tryz.func105 rfl rfl (by simp) hS ?_
  repeat (first | refine za rfl rfl ?_ | refine zb rfl ?_ | refine zc rfl ?_)
  refine TL.call1 0 Tryz.call102 rfl rfl rfl rfl (packUint16_ok b cs cap B m ho hB) (fun _ _ => trivial) (fun y => TL.and fun hy => ?_)
  repeat (first | refine za rfl rfl ?_ | refine zb rfl ?_ | refine zc rfl ?_)
  refine T.ret Tryz.func105 rfl (fun w hA => ⟨y, rfl, hy, hA⟩)

/-- A slice of bytes that may be read. -/
def SlB (h : View) (v : Value) (l : Bs) : Prop := ((∃ a c, v = .slice a 0 c) ∧ l = []) ∨ ∃ b o cap, v = .slice (some ⟨b, o, none⟩) l.length cap ∧ l.length ≤ cap ∧ RowAt h b o (l.map bv)
theorem SlB.mono {h h' : View} (hh : View.le h h') {v : Value} {l : Bs} (k : SlB h v l) : SlB h' v l := by
  rcases k with k | ⟨b, o, cap, h1, h2, h3⟩
  · exact .inl k
  · exact .inr ⟨b, o, cap, h1, h2, h3.mono hh⟩
theorem SlB.src {X : List Nat} {w0 : World} {M : Mem} {v : Value} {l : Bs} (h : SlB (view X w0) v l) : Src Tryz.prog (St X w0 M) 1 v l.length (l.map bv) := by
  rcases h with ⟨⟨a, c, rfl⟩, rfl⟩ | ⟨b, o, cap, rfl, h2, h3⟩
  · cases a with
    | none => exact Src.nil
    | some a => exact Src.slice (fun w hA j u hj => by simp at hj) rfl (by simp)
  · exact Src.slice (fun w hA j u hj => by
      rw [add_zero']
      exact h3.cell hA.ext (by rw [nth_eq]; exact hj)) (by simp) fun _ => bv_mem
theorem packBytes_ok (b : Nat) (cs : List Value) (cap : Nat) (B E : Bs) (v : Value) (ho : OwnB cs B cap) (hB : B.length + E.length ≤ 1099511627776) :
    Ct (β := Bk) Tryz.prog 145 [slV b B.length cap, v] [(b, .row cs 5)] (fun w => SlB (view [b] w) v E) (fun y => slV y.1 (B ++ E).length y.2.2) (fun y _ => OwnB y.2.1 (B ++ E) y.2.2) (fun y => [(y.1, .row y.2.1 5)]) := by
  intro w hS hE
  refine calls_of_T (m := 8) Tryz.func145 rfl rfl (by simp) hS ?_
  repeat (first | refine za rfl rfl ?_ | refine zb rfl ?_ | refine zc rfl ?_)
  refine TL.append 0 el37 sl37 rfl rfl rfl rfl rfl ho (SlB.src hE) (by omega) (by omega) (fun b' cs' cap' ho' => ?_)
  repeat (first | refine za rfl rfl ?_ | refine zb rfl ?_ | refine zc rfl ?_)
  refine T.ret Tryz.func145 rfl (fun w hA => ⟨(b', cs', cap'), ?_, ?_, hA.sub (by simp [setN])⟩)
  · simp [pack, slV]
  · simpa [OwnB] using ho'
theorem packText_ok (b : Nat) (cs : List Value) (cap : Nat) (B s : Bs) (ho : OwnB cs B cap) (hB : B.length ≤ 1099511627776) (hs : s.length ≤ 255) :
    Ct (β := Bk) Tryz.prog 146 [slV b B.length cap, str s] [(b, .row cs 5)] (fun _ => True) (fun y => .tuple #[slV y.1 (B ++ UInt8.ofNat s.length :: s).length y.2.2, .nilIface]) (fun y _ => OwnB y.2.1 (B ++ UInt8.ofNat s.length :: s) y.2.2) (fun y => [(y.1, .row y.2.1 5)]) := by
  intro w hS _
  refine calls_of_T (m := 21) Tryz.func146 rfl rfl (by simp) hS ?_
  repeat (first | refine za rfl rfl ?_ | refine zb rfl ?_ | refine zc rfl ?_)
  refine T.condF rfl (by simp; omega) ?_
  repeat (first | refine za rfl rfl ?_ | refine zb rfl ?_ | refine zc rfl ?_)
  refine TL.bs el37 rfl rfl (by intro v hv; simp at hv; rcases hv with rfl; rfl) (by simp) rfl rfl (fun b1 => ?_)
  have e1 := byte_of s.length (s.length : Int) (by omega)
  refine TL.append 1 el37 sl37 rfl rfl rfl rfl rfl ho (src_block (i := 0) (E := [UInt8.ofNat s.length]) rfl (by simp [e1])) (by simp; omega) (by simp; omega) (fun b' cs' cap' ho' => ?_)
  repeat (first | refine za rfl rfl ?_ | refine zb rfl ?_ | refine zc rfl ?_)
  refine TL.append 1 el37 sl9 rfl rfl rfl rfl rfl ho' Src.str (by simp; omega) (by simp; omega) (fun b2 cs2 cap2 ho2 => ?_)
  repeat (first | refine za rfl rfl ?_ | refine zb rfl ?_ | refine zc rfl ?_)
  refine T.ret Tryz.func146 rfl (fun w hA => ⟨(b2, cs2, cap2), ?_, ?_, hA.sub (by simp [setN])⟩)
  · simp [pack, slV]; omega
  · exact ho2.cast (by simp; omega) (by simp)
end X
namespace X
abbrev Bt := List UInt8
abbrev KM := Nat → Option UInt8
def KM.le (K K' : KM) : Prop := ∀ i b, K i = some b → K' i = some b
theorem KM.le.refl (K : KM) : KM.le K K := fun _ _ h => h
theorem KM.le.trans {a b c : KM} (h : KM.le a b) (k : KM.le b c) : KM.le a c := fun i x hx => k i x (h i x hx)
/-- What is not settled yet: so many bytes at the start, and two bytes from a place on. -/
structure Hole where
  base : Nat
  gap : Option Nat
structure Hole.In (h : Hole) (n : Nat) : Prop where
  base : h.base ≤ n
  gap : ∀ o, h.gap = some o → o + 2 ≤ n
theorem Hole.In.mono {h : Hole} {n m : Nat} (k : h.In n) (hn : n ≤ m) : h.In m := ⟨Nat.le_trans k.base hn, fun o ho => Nat.le_trans (k.gap o ho) hn⟩
def Hole.hides (h : Hole) (i : Nat) : Prop := i < h.base ∨ ∃ o, h.gap = some o ∧ o ≤ i ∧ i < o + 2
open Classical in
/-- What is known of the bytes of a message. -/
noncomputable def kn (B : Bt) (hole : Hole) : KM := fun i => if hole.hides i then none else B[i]?
theorem kn_some {B : Bt} {hole : Hole} {i : Nat} {b : UInt8} (h : kn B hole i = some b) : ¬ hole.hides i ∧ B[i]? = some b := by
  unfold kn at h
  split at h
  · cases h
  · rename_i hn; exact ⟨hn, h⟩
theorem kn_of {B : Bt} {hole : Hole} {i : Nat} {b : UInt8} (hn : ¬ hole.hides i) (h : B[i]? = some b) : kn B hole i = some b := by
  unfold kn; rw [if_neg hn]; exact h
theorem kn_append (B E : Bt) (hole : Hole) : KM.le (kn B hole) (kn (B ++ E) hole) := by
  intro i b h
  obtain ⟨h1, h2⟩ := kn_some h
  exact kn_of h1 (by rw [List.getElem?_append_left (List.getElem?_eq_some_iff.1 h2).1]; exact h2)
theorem kn_hole (B : Bt) (k o : Nat) : KM.le (kn B ⟨k, some o⟩) (kn B ⟨k, none⟩) := by
  intro i b h
  obtain ⟨h1, h2⟩ := kn_some h
  refine kn_of (fun hx => h1 ?_) h2
  rcases hx with hx | ⟨o', ho, _⟩
  · exact .inl hx
  · cases ho
theorem Hole.In.shows {h : Hole} {n i : Nat} (k : h.In n) (hi : n ≤ i) : ¬ h.hides i := by
  rintro (hx | ⟨o, ho, h1, h2⟩)
  · have := k.base; omega
  · have := k.gap o ho; omega
/-- The bytes from o on are l. -/
def BytesAt (K : KM) (o : Nat) (l : Bt) : Prop := ∀ i b, l[i]? = some b → K (o + i) = some b
theorem BytesAt.mono {K K' : KM} (h : KM.le K K') {o : Nat} {l : Bt} (k : BytesAt K o l) : BytesAt K' o l := fun i b hb => h _ _ (k i b hb)
theorem BytesAt.nil (K : KM) (o : Nat) : BytesAt K o [] := fun i b h => by simp at h
theorem BytesAt.append {K : KM} {o : Nat} {l m : Bt} : BytesAt K o (l ++ m) ↔ BytesAt K o l ∧ BytesAt K (o + l.length) m := by
  constructor
  · intro h
    refine ⟨fun i b hb => h i b ?_, fun i b hb => ?_⟩
    · rw [List.getElem?_append_left (List.getElem?_eq_some_iff.1 hb).1]; exact hb
    · rw [Nat.add_assoc]
      refine h (l.length + i) b ?_
      rw [List.getElem?_append_right (by omega)]; simpa using hb
  · rintro ⟨h1, h2⟩ i b hb
    rcases Nat.lt_or_ge i l.length with hi | hi
    · rw [List.getElem?_append_left hi] at hb; exact h1 i b hb
    · rw [List.getElem?_append_right hi] at hb
      have := h2 (i - l.length) b hb
      rw [show o + l.length + (i - l.length) = o + i by omega] at this
      exact this
theorem BytesAt.cons {K : KM} {o : Nat} {c : UInt8} {l : Bt} : BytesAt K o (c :: l) ↔ K o = some c ∧ BytesAt K (o + 1) l := by
  have := BytesAt.append (K := K) (o := o) (l := [c]) (m := l)
  simp only [List.singleton_append, List.length_singleton] at this
  rw [this]
  refine and_congr_left fun _ => ⟨fun h => by simpa using h 0 c rfl, fun h i b hb => ?_⟩
  cases i with
  | zero => simp at hb; subst hb; simpa using h
  | succ i => simp at hb
theorem kn_new (B E : Bt) {hole : Hole} (hh : hole.In B.length) : BytesAt (kn (B ++ E) hole) B.length E := by
  intro i b hb
  exact kn_of (hh.shows (by omega)) (by rw [List.getElem?_append_right (by omega)]; simpa using hb)
theorem BytesAt.len {K : KM} {B : Bt} {hole : Hole} {o : Nat} {l : Bt} (h : BytesAt (kn B hole) o l) (h0 : l ≠ []) : o + l.length ≤ B.length := by
  have hl : 0 < l.length := List.length_pos_iff.2 h0
  have := h (l.length - 1) (l[l.length - 1]'(by omega)) (by simp)
  have hb : B[o + (l.length - 1)]? = some (l[l.length - 1]'(by omega)) := (kn_some this).2
  have := (List.getElem?_eq_some_iff.1 hb).1
  omega

/-- From o on a name is read as the text s: labels, or at any place a pointer to another place; what is behind it begins at fin; c pointers are followed. -/
inductive NameAt (K : KM) : Nat → Bt → Nat → Nat → Prop where
  | root {o : Nat} (h : K o = some 0) : NameAt K o [] (o + 1) 0
  | lab {o fin c : Nat} {l s : Bt} (h : K o = some (UInt8.ofNat l.length)) (h0 : 0 < l.length) (h64 : l.length < 64) (hd : ∀ b ∈ l, b ≠ 46) (hl : BytesAt K (o + 1) l) (t : NameAt K (o + 1 + l.length) s fin c) : NameAt K o (l ++ 46 :: s) fin c
  | ptr {o p fin c : Nat} {s : Bt} (h : K o = some (UInt8.ofNat (192 + p / 256))) (h1 : K (o + 1) = some (UInt8.ofNat p)) (hp : p < 16384) (t : NameAt K p s fin c) : NameAt K o s (o + 2) (c + 1)
theorem NameAt.mono {K K' : KM} (hh : KM.le K K') {o : Nat} {s : Bt} {fin c : Nat} (h : NameAt K o s fin c) : NameAt K' o s fin c := by
  induction h with
  | root h => exact .root (hh _ _ h)
  | lab h h0 h64 hd hl _ ih => exact .lab (hh _ _ h) h0 h64 hd (hl.mono hh) ih
  | ptr h h1 hp _ ih => exact .ptr (hh _ _ h) (hh _ _ h1) hp ih
/-- How many dots. -/
def nlab : Bt → Nat
  | [] => 0
  | b :: r => if b = 46 then nlab r + 1 else nlab r
theorem nlab_append : ∀ (a b : Bt), nlab (a ++ b) = nlab a + nlab b
  | [], b => by simp [nlab]
  | x :: r, b => by
    simp only [List.cons_append, nlab, nlab_append r b]
    split <;> omega
theorem nlab_none : ∀ {l : Bt}, (∀ b ∈ l, b ≠ 46) → nlab l = 0
  | [], _ => rfl
  | x :: r, h => by
    simp only [nlab, if_neg (h x List.mem_cons_self)]
    exact nlab_none fun b hb => h b (List.mem_cons_of_mem _ hb)
/-- Labels of 1 to 63 bytes, a dot behind each. -/
inductive VL : Bt → Prop where
  | nil : VL []
  | lab {l s : Bt} (h0 : 0 < l.length) (h64 : l.length < 64) (hd : ∀ b ∈ l, b ≠ 46) (t : VL s) : VL (l ++ 46 :: s)
/-- A name that can be written. -/
def NmOk (s : Bt) : Prop := s = [46] ∨ (VL s ∧ s ≠ [] ∧ s.length ≤ 254)
/-- The text that stands for a name: the root has none. -/
def txt (s : Bt) : Bt := if s = [46] then [] else s
theorem NmOk.len {s : Bt} (h : NmOk s) : 0 < s.length ∧ s.length ≤ 254 := by
  rcases h with rfl | ⟨_, h1, h2⟩
  · simp
  · exact ⟨List.length_pos_iff.2 h1, h2⟩
theorem VL.last {s : Bt} (h : VL s) (h0 : s ≠ []) : s[s.length - 1]? = some 46 := by
  induction h with
  | nil => exact absurd rfl h0
  | @lab l s _ _ _ _ ih =>
    by_cases hs : s = []
    · subst hs
      have : (l ++ [46]).length - 1 = l.length := by simp
      rw [this]; simp
    · have hl : 0 < s.length := List.length_pos_iff.2 hs
      have : (l ++ 46 :: s).length - 1 = l.length + (s.length - 1 + 1) := by simp; omega
      rw [this, List.getElem?_append_right (by omega)]
      simpa using ih hs
theorem VL.first {s : Bt} (h : VL s) (h0 : s ≠ []) : ∃ b, s[0]? = some b ∧ b ≠ 46 := by
  cases h with
  | nil => exact absurd rfl h0
  | @lab l s h1 _ hd _ =>
    refine ⟨l[0], ?_, hd _ (List.getElem_mem _)⟩
    rw [List.getElem?_append_left h1]; simp
theorem NmOk.last {s : Bt} (h : NmOk s) : s[s.length - 1]? = some 46 := by
  rcases h with rfl | ⟨h1, h2, _⟩
  · rfl
  · exact h1.last h2
end X
namespace X
/-- The entries of a map as a list of pairs, in the order in which they came. -/
def MapIs (es : List MapEntry) (ms : List (Bs × Nat)) : Prop := es.map (fun e => (e.key, e.val)) = ms.map (fun p => (str p.1, Value.int .u16 (p.2 : Int)))
def mget : List (Bs × Nat) → Bs → Option Nat
  | [], _ => none
  | (u, p) :: r, s => if s = u then some p else mget r s
theorem mget_mem : ∀ {ms : List (Bs × Nat)} {s : Bs} {p : Nat}, mget ms s = some p → (s, p) ∈ ms
  | [], _, _, h => by cases h
  | (u, q) :: r, s, p, h => by
    simp only [mget] at h
    split at h
    · rename_i e; subst e; simp at h; subst h; exact List.mem_cons_self
    · exact List.mem_cons_of_mem _ (mget_mem h)
section
variable {P : Program} {f : FuncId} {n : Nat} {R : Ending → World → Prop} {k : List Item} {L : Fr} {A : World → Prop} {X : List Nat} {w0 : World} {M : Mem} {ops : Array Oper} {rest : List Oper} {tb : Tab} {sz : Szs}
theorem bytes_beq (a b : Bs) : ((⟨a.toArray⟩ : ByteArray) == ⟨b.toArray⟩) = decide (a = b) := by
  by_cases h : a = b
  · subst h
    simp only [decide_true]
    show (a.toArray == a.toArray) = true
    simp
  · simp only [h, decide_false]
    show (a.toArray == b.toArray) = false
    simpa using h
theorem findNow_str : ∀ {es : List MapEntry} {ms : List (Bs × Nat)} (s : Bs) (i : Nat), MapIs es ms → ∃ r, Instr.findNow .string (str s) es i = some r ∧ (match mget ms s with | some p => ∃ j, r = some (j, .int .u16 (p : Int)) | none => r = none)
  | [], ms, s, i, h => by
    cases ms with
    | nil => exact ⟨none, rfl, rfl⟩
    | cons p r => simp [MapIs] at h
  | e :: es, ms, s, i, h => by
    cases ms with
    | nil => simp [MapIs] at h
    | cons p r =>
      simp only [MapIs, List.map_cons, List.cons.injEq, Prod.mk.injEq] at h
      obtain ⟨⟨hk, hv⟩, ht⟩ := h
      have e1 : Instr.sameNow .string (str s) e.key = some (decide (s = p.1)) := by
        rw [hk]; simp only [Instr.sameNow, str, bytes_beq]
      simp only [Instr.findNow, e1, mget]
      by_cases hs : s = p.1
      · rw [if_pos hs]
        simp only [hs, decide_true]
        exact ⟨_, rfl, i, by rw [hv]⟩
      · rw [if_neg hs]
        have : decide (s = p.1) = false := by simpa using hs
        rw [this]
        exact findNow_str s (i + 1) ht
theorem checkKey_str {t : TypeId} (hu : P.underlying t = some .string) (e : Bool) (s : Bs) (w : World) : (Instr.checkKey e 10000 t (str s)).run P w = .ok () w := by
  have h : ∀ d, (Instr.checkKey e (d + 1) t (str s)).run P w = .ok () w := fun d => by simp [Instr.checkKey, run_underlying' hu, str]
  exact h 9999
section
variable {t kt vt : TypeId} {x y z : Operand} {d : Nat} {ty : TypeId} {pos : String} {af : Array Edge} {g : Option (Nat × Bool)} {q i ck : Nat} {es : List MapEntry} {ms : List (Bs × Nat)} {s : Bs}
theorem run_getMap {w : World} (h : w.heap[q]? = some (Ob.map es ck).obj) : (getObj q).run P w = .ok (.map es.toArray ck) w := by
  unfold getObj
  simp only [Sem.run, h, Ob.obj]
theorem Y.lookup (hu : P.underlying t = some (.map kt vt)) (hk : P.underlying kt = some .string) (hz : ∀ w, (zeroValue vt).run P w = .ok (.int .u16 0) w) (hx : ev L x = some (.map (some q))) (hy : ev L y = some (str s)) (hm : MapIs es ms)
    (hA : ∀ w, A w → w.heap[q]? = some (Ob.map es ck).obj) {d : Option Tmp} :
    Y P n L A ⟨d, .lookup t x y true, ty, pos, af, g⟩ (match mget ms s with | some p => .tuple #[.int .u16 (p : Int), .bool true] | none => .tuple #[.int .u16 0, .bool false]) := by
  intro a w ha hw
  obtain ⟨r, hr, hr2⟩ := findNow_str (es := es) s 0 hm
  simp only [execOp, Instr.lookup, Sem.run_bind, run_underlying' hu, Result.andThen_ok, ev_ok ha hx, ev_ok ha hy, run_getMap (hA w hw), Sem.run_pure, checkKey_str hk, Instr.findKey, run_underlying' hk, hr]
  cases hg : mget ms s with
  | none => rw [hg] at hr2; subst hr2; simp [hz]
  | some p => rw [hg] at hr2; obtain ⟨j, rfl⟩ := hr2; simp
theorem St.setMap {w : World} (h : St X w0 M w) {es' : List MapEntry} {ck' : Nat} (hi : nth M i = some (q, .map es ck)) : St X w0 (setN M i (q, .map es' ck')) { w with heap := w.heap.setIfInBounds q (.map es'.toArray ck') } := by
  have hb := h.block hi
  have hlt := lt_of_block hb
  refine h.put hi ?_ (by simp) (fun c hc => ?_) rfl rfl rfl
  · show (w.heap.setIfInBounds q _)[q]? = _
    rw [Array.getElem?_setIfInBounds_self_of_lt hlt]; rfl
  · show (w.heap.setIfInBounds q _)[c]? = _
    rw [Array.getElem?_setIfInBounds_ne (Ne.symm hc)]
theorem OkOp.mapNew (i : Nat) (hu : P.underlying t = some (.map kt vt)) (hk : P.underlying kt = some .string) (hx : ev L x = some (.map (some q))) (hy : ev L y = some (str s)) {v : Value} (hv : ev L z = some v) (hm : MapIs es ms) (hno : mget ms s = none)
    (hi : nth M i = some (q, .map es ck)) :
    OkOp (β := Unit) P n L (St X w0 M) ⟨none, .mapUpdate t x y z, ty, pos, af, g⟩ (fun _ => L) (fun _ => St X w0 (setN M i (q, .map (es ++ [⟨str s, v, ck⟩]) (ck + 1)))) := by
  intro a w ha hA next Q hnx
  unfold Oper.wp
  obtain ⟨r, hr, hr2⟩ := findNow_str (es := es) s 0 hm
  rw [hno] at hr2
  subst hr2
  have hb := hA.block hi
  have hrun : (execOp a.eval ⟨none, .mapUpdate t x y z, ty, pos, af, g⟩).run P w = .ok .skip { w with heap := w.heap.setIfInBounds q (.map (es ++ [({ key := str s, val := v, born := ck } : MapEntry)]).toArray (ck + 1)) } := by
    simp only [execOp, Instr.mapUpdate, Sem.run_bind, run_underlying' hu, Result.andThen_ok, ev_ok ha hx, ev_ok ha hy, ev_ok ha hv, run_getMap hb, checkKey_str hk, Instr.findKey, run_underlying' hk, hr, Sem.run_pure]
    have : (es.toArray.push ({ key := str s, val := v, born := ck } : MapEntry)) = (es ++ [({ key := str s, val := v, born := ck } : MapEntry)]).toArray := by simp
    rw [this]
    unfold setObj
    simp only [Sem.run, hb, Ob.obj, Result.andThen_ok]
  rw [hrun]
  exact hnx () _ _ ha (hA.setMap hi)
theorem TL.mapNew (i : Nat) (hu : P.underlying t = some (.map kt vt)) (hk : P.underlying kt = some .string) (hx : ev L x = some (.map (some q))) (hy : ev L y = some (str s)) {v : Value} (hv : ev L z = some v) (hm : MapIs es ms) (hno : mget ms s = none)
    (hi : nth M i = some (q, .map es ck)) (h : TL P f n R k ops rest L (St X w0 (setN M i (q, .map (es ++ [⟨str s, v, ck⟩]) (ck + 1))))) : TL P f n R k ops (⟨none, .mapUpdate t x y z, ty, pos, af, none⟩ :: rest) L (St X w0 M) :=
  TL.op rfl (OkOp.mapNew i hu hk hx hy hv hm hno hi) fun _ => h
theorem MapIs.snoc (h : MapIs es ms) (s : Bs) (p : Nat) (ck : Nat) : MapIs (es ++ [⟨str s, .int .u16 (p : Int), ck⟩]) (ms ++ [(s, p)]) := by
  unfold MapIs at *
  simp [h]
end
/- more on rows -/
theorem RowAt.one {h : View} {b off i : Nat} {vs : List Value} {v : Value} (k : RowAt h b off vs) (hi : nth vs i = some v) {off' : Nat} (he : off' = off + i) : RowAt h b off' [v] := by
  obtain ⟨cs, t, fr, h1, h2⟩ := k
  refine ⟨cs, t, fr, h1, fun j u hj => ?_⟩
  cases j with
  | zero => simp [nth] at hj; subst hj; rw [he, Nat.add_zero]; exact h2 i _ hi
  | succ j => simp [nth] at hj
theorem RowAt.part {h : View} {b off i : Nat} {vs us : List Value} (k : RowAt h b off vs) (hs : ∀ j u, nth us j = some u → nth vs (i + j) = some u) {off' : Nat} (he : off' = off + i) : RowAt h b off' us := by
  obtain ⟨cs, t, fr, h1, h2⟩ := k
  refine ⟨cs, t, fr, h1, fun j u hj => ?_⟩
  rw [he, Nat.add_assoc]; exact h2 (i + j) u (hs j u hj)
end
/-- A block of ours, in the view that leaves out the blocks Y. -/
theorem St.view {Z Y : List Nat} {w0 w : World} {M : Mem} (h : St Z w0 M w) {i b : Nat} {cs : List Value} {t : TypeId} (hi : nth M i = some (b, .row cs t)) (hn : b ∉ Y) {off : Nat} {vs : List Value} (hs : ∀ j v, nth vs j = some v → nth cs (off + j) = some v) : RowAt (Go.Proofs.YtifnodoffgfpbaaGreatDoor.X.view Y w) b off vs := by
  refine ⟨cs.toArray, t, (0, 0), ?_, fun j v hj => ?_⟩
  · unfold Go.Proofs.YtifnodoffgfpbaaGreatDoor.X.view
    rw [if_neg hn]; exact h.block hi
  · have := hs j v hj
    rw [nth_eq] at this
    simpa using this
end X
namespace X
/-- The cells of a Name: 255 bytes and a length. -/
def nameCells (s : Bs) : List Value := s.map bv ++ (List.replicate (255 - s.length) (bv 0) ++ [.int .u8 (s.length : Int)])
theorem nameCells_length {s : Bs} (h : s.length ≤ 255) : (nameCells s).length = 256 := by simp [nameCells] <;> omega
theorem nameCells_byte {s : Bs} {i : Nat} {b : UInt8} (h : s[i]? = some b) : nth (nameCells s) i = some (bv b) := by
  have hi := (List.getElem?_eq_some_iff.1 h).1
  rw [nth_eq, nameCells, List.getElem?_append_left (by simpa using hi)]; simp [h]
theorem nameCells_len {s : Bs} (h : s.length ≤ 255) : nth (nameCells s) 255 = some (.int .u8 (s.length : Int)) := by
  rw [nth_eq, nameCells, List.getElem?_append_right (by simp; omega), List.getElem?_append_right (by simp)]
  simp
theorem nameCells_one {s : Bs} : ∀ v ∈ nameCells s, v.oneCell' = true := by
  intro v hv
  simp only [nameCells, List.mem_append, List.mem_map, List.mem_replicate, List.mem_singleton] at hv
  rcases hv with ⟨b, _, rfl⟩ | ⟨_, rfl⟩ | rfl <;> rfl
/-- A suffix that may be pointed to. -/
def EntOk (K : KM) (e : Bs × Nat) : Prop := e.2 < 16384 ∧ ∃ f c, NameAt K e.2 e.1 f c ∧ c < nlab e.1
theorem EntOk.mono {K K' : KM} (h : KM.le K K') {e : Bs × Nat} (k : EntOk K e) : EntOk K' e := let ⟨a, f, c, b, d⟩ := k; ⟨a, f, c, b.mono h, d⟩
def cmem (q : Option Nat) (es : List MapEntry) (ck : Nat) : Mem := match q with
  | none => []
  | some q => [(q, .map es ck)]
/-- What packing leaves: the buffer's block, what was appended, the map. -/
structure PkR where
  b : Nat
  cs : List Value
  cap : Nat
  E : Bs
  es : List MapEntry
  ck : Nat
  ms : List (Bs × Nat)
  c : Nat
def PkR.mem (y : PkR) (q : Option Nat) : Mem := (y.b, .row y.cs 5) :: cmem q y.es y.ck
structure PkR.ok (y : PkR) (B : Bs) (hole : Hole) (q : Option Nat) : Prop where
  own : OwnB y.cs (B ++ y.E) y.cap
  mp : MapIs y.es y.ms
  ent : ∀ e ∈ y.ms, EntOk (kn (B ++ y.E) hole) e
  emp : q = none → y.ms = []
theorem one_name {h : View} {nb noff i : Nat} {s : Bs} {b : UInt8} (k : RowAt h nb noff (nameCells s)) (hi : s[i]? = some b) : RowAt h nb (noff + 0 + i * 1) [bv b] :=
  k.one (nameCells_byte hi) (by omega)
theorem len_name {h : View} {nb noff : Nat} {s : Bs} (k : RowAt h nb noff (nameCells s)) (hs : s.length ≤ 255) : RowAt h nb (noff + 255) [.int .u8 (s.length : Int)] := k.one (nameCells_len hs) rfl
theorem mapT : Tryz.prog.underlying 89 = some (.map 9 22) := Tryz.underlying89
theorem i64_in (z : Int) (h : -9223372036854775808 ≤ z) (h2 : z ≤ 9223372036854775807) : IntKind.i64.wrap z = z := by
  simp only [IntKind.wrap, IntKind.bits, IntKind.signed]
  simp
  split <;> omega
theorem u8_in (z : Int) (h : 0 ≤ z) (h2 : z ≤ 255) : IntKind.u8.wrap z = z := by rw [wrap_u8]; omega
theorem u16_in (z : Int) (h : 0 ≤ z) (h2 : z ≤ 65535) : IntKind.u16.wrap z = z := by rw [wrap_u16]; omega
/-- Where the reading of a name stands. -/
structure NPx where
  i : Nat
  beg : Nat
  b : Nat
  cs : List Value
  cap : Nat
  Bc : Bs
  es : List MapEntry
  ck : Nat
  pd : List (Bs × Nat)
  nas : Bs
structure NPi (s B : Bs) (hole : Hole) (q : Option Nat) (ms : List (Bs × Nat)) (x : NPx) : Prop where
  le : x.beg ≤ x.i
  ile : x.i ≤ s.length
  vl : VL (s.drop x.beg)
  nod : ∀ j, x.beg ≤ j → j < x.i → ∀ b, s[j]? = some b → b ≠ 46
  prev : x.beg = 0 ∨ s[x.beg - 1]? = some 46
  own : OwnB x.cs x.Bc x.cap
  len : x.Bc.length = B.length + x.beg
  pre : ∃ E, x.Bc = B ++ E
  mp : MapIs x.es (ms ++ x.pd)
  emp : q = none → x.pd = []
  old : ∀ e ∈ x.pd, (if x.i = x.beg then s.length - x.beg < e.1.length else s.length - x.beg ≤ e.1.length)
  nasok : x.nas = [] ∨ x.nas = s
  fut : ∀ K fin c, KM.le (kn x.Bc hole) K → NameAt K x.Bc.length (s.drop x.beg) fin c → c + (if x.i = x.beg then 0 else 1) ≤ nlab (s.drop x.beg) → NameAt K B.length s fin c ∧ ∀ e ∈ x.pd, EntOk K e
theorem VL.split {s : Bs} (h : VL s) {i : Nat} (hn : ∀ j, j < i → ∀ b, s[j]? = some b → b ≠ 46) (hi : s[i]? = some 46) : ∃ l r, s = l ++ 46 :: r ∧ l.length = i ∧ 0 < i ∧ i < 64 ∧ (∀ b ∈ l, b ≠ 46) ∧ VL r := by
  cases h with
  | nil => simp at hi
  | @lab l r h0 h64 hd t =>
    have hl : i = l.length := by
      rcases Nat.lt_trichotomy i l.length with h | h | h
      · rw [List.getElem?_append_left h] at hi
        exact absurd rfl (hd 46 (List.mem_of_getElem? hi))
      · exact h
      · exact absurd rfl (hn l.length h 46 (by simp))
    subst hl
    exact ⟨l, r, rfl, rfl, h0, h64, hd, t⟩
end X
namespace X
section
variable {P : Program} {f : FuncId} {n : Nat} {R : Ending → World → Prop} {k : List Item} {L : Fr} {A : World → Prop}
theorem T.again {c : Code} {α : Type} {Lx : α → Fr} {Ax : α → World → Prop} {μ : α → Nat} {x : α} (ih : ∀ y, μ y < μ x → T P f n R (.inLoop c :: k) (Lx y) (Ax y)) (y : α) (hμ : μ y < μ x) (hL : Sub (Lx y) L) (hA : ∀ w, A w → Ax y w) :
    T P f n R (.inLoop c :: k) L A := T.sub hL (T.mono hA (ih y hμ))
end
theorem blt_of (b : UInt8) (h : b ≠ 46) : (((b.toNat : Nat) : Int) == 46) = false := by
  have : b.toNat ≠ 46 := fun e => h (UInt8.toNat_inj.1 e)
  simp; omega
theorem sub_i64 {a b : Nat} (h : b ≤ a) (h2 : a ≤ 4611686018427387904) : IntKind.i64.wrap ((a : Int) - (b : Int)) = ((a - b : Nat) : Int) := by rw [i64_in] <;> omega
theorem add_i64 {a b : Nat} (h : a + b ≤ 4611686018427387904) : IntKind.i64.wrap ((a : Int) + (b : Int)) = ((a + b : Nat) : Int) := by rw [i64_in] <;> omega
theorem add1_i64 {a : Nat} (h : a ≤ 4611686018427387904) : IntKind.i64.wrap ((a : Int) + 1) = ((a + 1 : Nat) : Int) := by rw [i64_in] <;> omega
theorem sub1_i64 {a : Nat} (h0 : 0 < a) (h : a ≤ 4611686018427387904) : IntKind.i64.wrap ((a : Int) - 1) = ((a - 1 : Nat) : Int) := by rw [i64_in] <;> omega
theorem sub1_u8 {a : Nat} (h0 : 0 < a) (h : a ≤ 255) : IntKind.u8.wrap ((a : Int) - 1) = ((a - 1 : Nat) : Int) := by rw [u8_in] <;> omega
theorem nat_i64 {a : Nat} (h : a ≤ 4611686018427387904) : IntKind.i64.wrap (a : Int) = (a : Int) := by rw [i64_in] <;> omega

theorem namePack_root (q : Option Nat) (nb noff : Nat) (b : Nat) (cs : List Value) (cap : Nat) (B : Bs) (es : List MapEntry) (ck : Nat) (ms : List (Bs × Nat)) (hole : Hole)
    (ho : OwnB cs B cap) (hm : MapIs es ms) (hq : q = none → ms = []) (he : ∀ e ∈ ms, EntOk (kn B hole) e) (hh : hole.In B.length) (hB : B.length ≤ 4294967296) :
    Ct (β := PkR) Tryz.prog 103 [.pointer (some ⟨nb, noff, none⟩), slV b B.length cap, .map q, .int .i64 0] ((b, .row cs 5) :: cmem q es ck)
      (fun w => RowAt (view (keys ((b, .row cs 5) :: cmem q es ck)) w) nb noff (nameCells [46]))
      (fun y => .tuple #[slV y.b (B ++ y.E).length y.cap, .nilIface])
      (fun y _ => y.ok B hole q ∧ NameAt (kn (B ++ y.E) hole) B.length (txt [46]) (B ++ y.E).length y.c ∧ y.c ≤ nlab [46] ∧ y.E.length ≤ [46].length + 1) (fun y => y.mem q) := by
  intro w hS hr
  refine calls_of_T (m := 180) Tryz.func103 rfl rfl (by simp) hS ?_
  repeat (first | refine za rfl rfl ?_ | refine zb rfl ?_ | refine zc rfl ?_)
  have h255 : ([46] : Bs).length ≤ 255 := by decide
  refine TL.ldR (len_name hr h255) szk rfl rfl rfl rfl ?_
  repeat (first | refine za rfl rfl ?_ | refine zb rfl ?_ | refine zc rfl ?_)
  refine T.condF rfl (by decide) ?_
  repeat (first | refine za rfl rfl ?_ | refine zb rfl ?_ | refine zc rfl ?_)
  refine T.regionS [(0, true), (1, true), (2, true), (3, true), (4, true), (5, true), (6, true), (7, true), (8, true), (9, true), (10, true), (11, true), (12, true), (13, true), (14, true), (15, true), (16, true), (17, true)] (St _ w _) mixed (by kernel_rfl) (by kernel_rfl) (by decide) (fun w m h => h.drawn m) (fun w h => h) ?_
  repeat refine TS.p tbk rfl rfl ?_
  refine TS.y rfl rfl rfl rfl (Y.load szk rfl rfl (fun w h => (len_name hr h255).cell h.ext (i := 0) rfl)) ?_
  refine TS.p tbk rfl rfl ?_
  rw [show (((([46] : Bs).length : Nat) : Int) == 0) = false by decide]
  repeat refine TS.p tbk rfl rfl ?_
  refine TS.y rfl rfl rfl rfl (Y.load szk rfl rfl (fun w h => (len_name hr h255).cell h.ext (i := 0) rfl)) ?_
  repeat refine TS.p tbk rfl rfl ?_
  refine TS.y rfl rfl rfl rfl (Y.ixA (j := 0) tbk rfl rfl rfl (by decide) (by decide)) ?_
  refine TS.y rfl rfl rfl rfl (Y.load szk rfl rfl (fun w h => (one_name (i := 0) hr rfl).cell h.ext (i := 0) rfl)) ?_
  repeat refine TS.p tbk rfl rfl ?_
  refine TS.nil ?_
  repeat (first | refine za rfl rfl ?_ | refine zb rfl ?_ | refine zc rfl ?_)
  refine T.condF rfl (by decide) ?_
  repeat (first | refine za rfl rfl ?_ | refine zb rfl ?_ | refine zc rfl ?_)
  refine TL.ixA (j := 0) tbk rfl rfl rfl rfl rfl rfl (by decide) ?_
  refine TL.ldR (one_name (i := 0) hr rfl) szk rfl rfl rfl rfl ?_
  refine TL.p tbk rfl ?_
  rw [show ((((46 : UInt8).toNat : Nat) : Int) == 46) = true by decide]
  repeat (first | refine za rfl rfl ?_ | refine zb rfl ?_ | refine zc rfl ?_)
  refine TL.ldR (len_name hr h255) szk rfl rfl rfl rfl ?_
  repeat (first | refine za rfl rfl ?_ | refine zb rfl ?_ | refine zc rfl ?_)
  refine T.condT rfl (by decide) ?_
  repeat (first | refine za rfl rfl ?_ | refine zb rfl ?_ | refine zc rfl ?_)
  refine TL.bs el37 rfl rfl (by intro v hv; simp at hv; rcases hv with rfl; rfl) (by simp) rfl rfl (fun b1 => ?_)
  refine TL.append 1 el37 sl37 rfl rfl rfl rfl rfl ho (src_block (i := 0) (E := [0]) rfl rfl) (by simp; omega) (by simp; omega) (fun b' cs' cap' ho' => ?_)
  repeat (first | refine za rfl rfl ?_ | refine zb rfl ?_ | refine zc rfl ?_)
  have hE := kn_new B [0] hh
  refine T.ret Tryz.func103 rfl (fun w hA => ⟨⟨b', cs', cap', [0], es, ck, ms, 0⟩, ?_, ⟨⟨?_, hm, fun e hx => (he e hx).mono (kn_append _ _ _), hq⟩, ?_, by simp [nlab], by simp⟩, hA.sub (by simp [PkR.mem, setN])⟩)
  · simp [pack, slV]
  · exact ho'.cast (by simp) (by simp)
  · simp only [txt, if_pos]
    have := hE 0 0 rfl
    simpa using NameAt.root this
end X
namespace X
theorem drop_get {s : Bs} {a j : Nat} : (s.drop a)[j]? = s[a + j]? := by rw [List.getElem?_drop]
/-- The next label is read. -/
theorem NPi.next {s B : Bs} {hole : Hole} {q : Option Nat} {ms : List (Bs × Nat)} {x : NPx} (h : NPi s B hole q ms x) {c : UInt8} (hc : s[x.i]? = some c) (hn : c ≠ 46) (hne : x.i ≠ x.beg ∨ ∀ e ∈ x.pd, s.length - x.beg < e.1.length) :
    NPi s B hole q ms { x with i := x.i + 1 } where
  le := by have := h.le; simp; omega
  ile := by have := (List.getElem?_eq_some_iff.1 hc).1; simp; omega
  vl := h.vl
  nod := fun j h1 h2 b hb => by
    simp at h1 h2
    by_cases e : j = x.i
    · subst e; rw [hc] at hb; simp at hb; subst hb; exact hn
    · exact h.nod j h1 (by omega) b hb
  prev := h.prev
  own := h.own
  len := h.len
  pre := h.pre
  mp := h.mp
  emp := h.emp
  old := fun e he => by
    have hle := h.le
    have := h.old e he
    simp only
    rw [if_neg (by omega)]
    split at this <;> omega
  nasok := h.nasok
  fut := fun K fin c' hk hna hc' => by
    have hle := h.le
    simp only at hc'
    rw [if_neg (by omega)] at hc'
    exact h.fut K fin c' hk hna (by split <;> omega)
/-- A label has been read whole. -/
theorem NPi.dot {s B : Bs} {hole : Hole} {q : Option Nat} {ms : List (Bs × Nat)} {x : NPx} (h : NPi s B hole q ms x) (hc : s[x.i]? = some 46) (hh : hole.In B.length) :
    0 < x.i - x.beg ∧ x.i - x.beg < 64 ∧ ∀ b' cs' cap', OwnB cs' (x.Bc ++ UInt8.ofNat (x.i - x.beg) :: (s.drop x.beg).take (x.i - x.beg)) cap' →
      NPi s B hole q ms { x with i := x.i + 1, beg := x.i + 1, b := b', cs := cs', cap := cap', Bc := x.Bc ++ UInt8.ofNat (x.i - x.beg) :: (s.drop x.beg).take (x.i - x.beg) } := by
  have hle := h.le
  have hlt := (List.getElem?_eq_some_iff.1 hc).1
  obtain ⟨l, r, hsl, hll, h0, h64, hd, ht⟩ := VL.split h.vl (i := x.i - x.beg) (fun j hj b hb => h.nod (x.beg + j) (by omega) (by omega) b (by rw [← drop_get]; exact hb)) (by rw [drop_get, show x.beg + (x.i - x.beg) = x.i by omega]; exact hc)
  have htk : (s.drop x.beg).take (x.i - x.beg) = l := by rw [hsl, ← hll]; exact List.take_left
  have hdr : s.drop (x.i + 1) = r := by
    have : s.drop (x.i + 1) = (s.drop x.beg).drop (x.i - x.beg + 1) := by rw [List.drop_drop]; congr 1; omega
    rw [this, hsl, ← hll]; simp
  refine ⟨h0, h64, fun b' cs' cap' ho' => ?_⟩
  rw [htk] at ho' ⊢
  refine ⟨Nat.le_refl _, by simp; omega, by simpa [hdr] using ht, fun j h1 h2 b hb => by simp at h1 h2; omega, .inr (by simpa using hc), ho', ?_, ?_, h.mp, h.emp, ?_, h.nasok, ?_⟩
  · have := h.len; simp; omega
  · obtain ⟨E, hE⟩ := h.pre; exact ⟨E ++ UInt8.ofNat (x.i - x.beg) :: l, by simp [hE]⟩
  · intro e he
    have := h.old e he
    simp only [if_true]
    split at this <;> omega
  · intro K fin c' hk hna hc'
    simp only [if_true, Nat.add_zero] at hc' hna
    rw [hdr] at hna hc'
    have hpre : x.Bc.length = B.length + x.beg := h.len
    have hkb : KM.le (kn x.Bc hole) K := (kn_append _ _ _).trans hk
    have hnew : BytesAt K x.Bc.length (UInt8.ofNat (x.i - x.beg) :: l) := (kn_new x.Bc _ (hh.mono (by omega))).mono hk
    obtain ⟨hn1, hn2⟩ := BytesAt.cons.1 hnew
    have hlab : NameAt K x.Bc.length (s.drop x.beg) fin c' := by
      rw [hsl]
      refine .lab (by rw [hll]; exact hn1) (by omega) (by omega) hd hn2 ?_
      simpa [Nat.add_assoc, Nat.add_comm 1] using hna
    have hnl : nlab (s.drop x.beg) = nlab r + 1 := by rw [hsl, nlab_append, nlab_none hd]; simp [nlab]
    exact h.fut K fin c' hkb hlab (by rw [hnl]; split <;> omega)
theorem NPi.end {s B : Bs} {hole : Hole} {q : Option Nat} {ms : List (Bs × Nat)} {x : NPx} (h : NPi s B hole q ms x) (hi : s.length ≤ x.i) : x.beg = s.length := by
  have hile := h.ile
  have hle := h.le
  by_cases hb : x.beg = s.length
  · exact hb
  · have hne : s.drop x.beg ≠ [] := by intro e; have := congrArg List.length e; simp at this; omega
    have hl := h.vl.last hne
    rw [drop_get] at hl
    simp only [List.length_drop] at hl
    exact absurd rfl (h.nod (x.beg + (s.length - x.beg - 1)) (by omega) (by omega) 46 hl)
end X
namespace X
theorem eq0F {a : Nat} (h : a ≠ 0) : ((a : Int) == 0) = false := by simpa using h
theorem eq0T {a : Nat} (h : a = 0) : ((a : Int) == 0) = true := by simpa using h
theorem orC0 (m : Nat) (h : m < 64) : IntKind.u8.wrap (IntKind.u16.wrap ((BitVec.ofInt IntKind.u16.bits ((m : Nat) : Int) ||| BitVec.ofInt IntKind.u16.bits 192).toNat : Int)) % 256 = ((192 + m : Nat) % 256 : Nat) := by
  have key : ∀ m : Fin 64, IntKind.u8.wrap (IntKind.u16.wrap ((BitVec.ofInt IntKind.u16.bits ((m.val : Nat) : Int) ||| BitVec.ofInt IntKind.u16.bits 192).toNat : Int)) % 256 = ((192 + m.val : Nat) % 256 : Nat) := by decide
  exact key ⟨m, h⟩
theorem orC0' (m : Nat) (h : m < 64) : (IntKind.u16.wrap ((BitVec.ofInt IntKind.u16.bits ((m : Nat) : Int) ||| BitVec.ofInt IntKind.u16.bits 192).toNat : Int)) % 256 = ((192 + m : Nat) % 256 : Nat) := by
  have key : ∀ m : Fin 64, (IntKind.u16.wrap ((BitVec.ofInt IntKind.u16.bits ((m.val : Nat) : Int) ||| BitVec.ofInt IntKind.u16.bits 192).toNat : Int)) % 256 = ((192 + m.val : Nat) % 256 : Nat) := by decide
  exact key ⟨m, h⟩
theorem NPi.ins {s B : Bs} {hole : Hole} {q : Option Nat} {ms : List (Bs × Nat)} {x : NPx} (h : NPi s B hole q ms x) {c : UInt8} (hc : s[x.i]? = some c) (hn : c ≠ 46) (hi : x.i = x.beg) (hq : q ≠ none) (hp : x.Bc.length < 16384) (nas : Bs) (hnas : nas = s) :
    NPi s B hole q ms { x with i := x.i + 1, pd := x.pd ++ [(s.drop x.i, x.Bc.length)], es := x.es ++ [⟨str (s.drop x.i), .int .u16 (x.Bc.length : Int), x.ck⟩], ck := x.ck + 1, nas := nas } where
  le := by simp; omega
  ile := by have := (List.getElem?_eq_some_iff.1 hc).1; simp; omega
  vl := h.vl
  nod := fun j h1 h2 b hb => by
    simp at h1 h2
    have : j = x.i := by omega
    subst this; rw [hc] at hb; simp at hb; subst hb; exact hn
  prev := h.prev
  own := h.own
  len := h.len
  pre := h.pre
  mp := by
    have := h.mp.snoc (s.drop x.i) x.Bc.length x.ck
    simpa using this
  emp := fun e => absurd e hq
  old := fun e he => by
    simp only
    rw [if_neg (by omega)]
    rcases List.mem_append.1 he with he | he
    · have := h.old e he
      rw [if_pos hi] at this; omega
    · simp at he; subst he; simp; omega
  nasok := .inr hnas
  fut := fun K fin c' hk hna hc' => by
    simp only at hc'
    rw [if_neg (by omega)] at hc'
    obtain ⟨h1, h2⟩ := h.fut K fin c' hk hna (by rw [if_pos hi]; omega)
    refine ⟨h1, fun e he => ?_⟩
    rcases List.mem_append.1 he with he | he
    · exact h2 e he
    · simp at he; subst he
      exact ⟨hp, fin, c', by simpa [hi] using hna, by show c' < nlab (s.drop x.i); rw [hi]; omega⟩
/-- The name ends, by a root or by a pointer. -/
theorem NPi.fin {s B : Bs} {hole : Hole} {q : Option Nat} {ms : List (Bs × Nat)} {x : NPx} (h : NPi s B hole q ms x) (hs : s ≠ [46]) (hi : x.i = x.beg) (hm : ∀ e ∈ ms, EntOk (kn B hole) e) (hq : q = none → ms = []) {b' : Nat} {cs' : List Value} {cap' : Nat} {E : Bs} (hl : E.length ≤ 2) (hl2 : x.beg + E.length ≤ s.length + 1)
    (ho : OwnB cs' (x.Bc ++ E) cap') {c : Nat} (hn : NameAt (kn (x.Bc ++ E) hole) x.Bc.length (s.drop x.beg) (x.Bc ++ E).length c) (hc : c ≤ nlab (s.drop x.beg)) :
    ∃ E', x.Bc ++ E = B ++ E' ∧ (PkR.mk b' cs' cap' E' x.es x.ck (ms ++ x.pd) c).ok B hole q ∧ NameAt (kn (B ++ E') hole) B.length (txt s) (B ++ E').length c ∧ c ≤ nlab s ∧ E'.length ≤ s.length + 1 := by
  obtain ⟨E0, hE0⟩ := h.pre
  have heq : x.Bc ++ E = B ++ (E0 ++ E) := by rw [hE0]; simp
  obtain ⟨h1, h2⟩ := h.fut (kn (x.Bc ++ E) hole) _ c (kn_append _ _ _) hn (by rw [if_pos hi]; exact hc)
  have hlen := h.len
  have hnl : nlab (s.drop x.beg) ≤ nlab s := by
    have := nlab_append (s.take x.beg) (s.drop x.beg)
    rw [List.take_append_drop] at this; omega
  refine ⟨E0 ++ E, heq, ⟨by rw [← heq]; exact ho, h.mp, fun e he => ?_, fun e => by simp [hq e, h.emp e]⟩, ?_, by omega, ?_⟩
  · rcases List.mem_append.1 he with he | he
    · exact (hm e he).mono (by rw [← heq, hE0, List.append_assoc]; exact kn_append _ _ _)
    · rw [← heq]; exact h2 e he
  · rw [← heq, txt, if_neg hs]; exact h1
  · have := congrArg List.length hE0
    simp at this ⊢; omega

theorem namePack_lab (q : Option Nat) (nb noff : Nat) (s : Bs) (hs : s ≠ [46]) (hvl : VL s) (hne : s ≠ []) (hlen : s.length ≤ 254) (b : Nat) (cs : List Value) (cap : Nat) (B : Bs) (es : List MapEntry) (ck : Nat) (ms : List (Bs × Nat)) (hole : Hole)
    (ho : OwnB cs B cap) (hm : MapIs es ms) (hq : q = none → ms = []) (he : ∀ e ∈ ms, EntOk (kn B hole) e) (hh : hole.In B.length) (hB : B.length ≤ 4294967296) :
    Ct (β := PkR) Tryz.prog 103 [.pointer (some ⟨nb, noff, none⟩), slV b B.length cap, .map q, .int .i64 0] ((b, .row cs 5) :: cmem q es ck)
      (fun w => RowAt (view (keys ((b, .row cs 5) :: cmem q es ck)) w) nb noff (nameCells s))
      (fun y => .tuple #[slV y.b (B ++ y.E).length y.cap, .nilIface])
      (fun y _ => y.ok B hole q ∧ NameAt (kn (B ++ y.E) hole) B.length (txt s) (B ++ y.E).length y.c ∧ y.c ≤ nlab s ∧ y.E.length ≤ s.length + 1) (fun y => y.mem q) := by
  intro w hS hr
  have h255 : s.length ≤ 255 := by omega
  have hpos : 0 < s.length := List.length_pos_iff.2 hne
  have hlast := hvl.last hne
  obtain ⟨b0, hb0, hb0n⟩ := hvl.first hne
  refine calls_of_T (m := 180) Tryz.func103 rfl rfl (by simp) hS ?_
  repeat (first | refine za rfl rfl ?_ | refine zb rfl ?_ | refine zc rfl ?_)
  refine TL.ldR (len_name hr h255) szk rfl rfl rfl rfl ?_
  repeat (first | refine za rfl rfl ?_ | refine zb rfl ?_ | refine zc rfl ?_)
  refine T.condF rfl (by simp; omega) ?_
  repeat (first | refine za rfl rfl ?_ | refine zb rfl ?_ | refine zc rfl ?_)
  refine T.regionS [(0, true), (1, true), (2, true), (3, true), (4, true), (5, true), (6, true), (7, true), (8, true), (9, true), (10, true), (11, true), (12, true), (13, true), (14, true), (15, true), (16, true), (17, true)] (St _ w _) mixed (by kernel_rfl) (by kernel_rfl) (by decide) (fun w m h => h.drawn m) (fun w h => h) ?_
  repeat refine TS.p tbk rfl rfl ?_
  refine TS.y rfl rfl rfl rfl (Y.load szk rfl rfl (fun w h => (len_name hr h255).cell h.ext (i := 0) rfl)) ?_
  refine TS.p tbk rfl rfl ?_
  rw [show (((s.length : Nat) : Int) == 0) = false by simp; omega]
  repeat refine TS.p tbk rfl rfl ?_
  refine TS.y rfl rfl rfl rfl (Y.load szk rfl rfl (fun w h => (len_name hr h255).cell h.ext (i := 0) rfl)) ?_
  repeat refine TS.p tbk rfl rfl ?_
  refine TS.y rfl rfl rfl rfl (Y.ixA (j := s.length - 1) tbk rfl rfl rfl (sub1_u8 hpos h255) (by omega)) ?_
  refine TS.y rfl rfl rfl rfl (Y.load szk rfl rfl (fun w h => (one_name hr hlast).cell h.ext (i := 0) rfl)) ?_
  repeat refine TS.p tbk rfl rfl ?_
  refine TS.nil ?_
  repeat (first | refine za rfl rfl ?_ | refine zb rfl ?_ | refine zc rfl ?_)
  refine T.condF rfl (by decide) ?_
  repeat (first | refine za rfl rfl ?_ | refine zb rfl ?_ | refine zc rfl ?_)
  refine TL.ixA (j := 0) tbk rfl rfl rfl rfl rfl rfl (by decide) ?_
  refine TL.ldR (one_name hr hb0) szk rfl rfl rfl rfl ?_
  refine TL.p tbk rfl ?_
  rw [blt_of b0 hb0n]
  repeat (first | refine za rfl rfl ?_ | refine zb rfl ?_ | refine zc rfl ?_)
  refine T.condF rfl rfl ?_
  repeat (first | refine za rfl rfl ?_ | refine zb rfl ?_ | refine zc rfl ?_)
  refine T.loop (α := NPx) (fun x => [(0, .pointer (some ⟨nb, noff, none⟩)), (1, slV x.b x.Bc.length x.cap), (2, .map q), (3, .int .i64 0), (11, str x.nas), (12, .int .i64 (x.i : Int)), (13, .int .i64 (x.beg : Int))])
    (fun x w' => NPi s B hole q ms x ∧ St (keys ((b, .row cs 5) :: cmem q es ck)) w ((x.b, .row x.cs 5) :: cmem q x.es x.ck) w') (fun x => s.length - x.i) ⟨0, 0, b, cs, cap, B, es, ck, [], []⟩ ⟨rfl, rfl, rfl, rfl, rfl, rfl, rfl, trivial⟩
    (fun w' hA => ⟨⟨Nat.le_refl _, Nat.zero_le _, hvl, fun j h1 h2 => (Nat.not_lt_zero _ h2).elim, .inl rfl, ho, rfl, ⟨[], by simp⟩, by simpa using hm, fun _ => rfl, by simp, .inl rfl, fun K fin c hk hn hc => ⟨hn, by simp⟩⟩, hA⟩) ?_
  intro x ih
  refine T.and fun hI => ?_
  have hle := hI.le
  have hxl := hI.len
  have hile := hI.ile
  repeat (first | refine za rfl rfl ?_ | refine zb rfl ?_ | refine zc rfl ?_)
  refine TL.ldR (len_name hr h255) szk rfl rfl rfl rfl ?_
  repeat (first | refine za rfl rfl ?_ | refine zb rfl ?_ | refine zc rfl ?_)
  rw [nat_i64 (a := s.length) (by omega)]
  by_cases hlt : x.i < s.length
  case neg =>
    refine T.condF rfl (by simp; omega) ?_
    repeat (first | refine za rfl rfl ?_ | refine zb rfl ?_ | refine zc rfl ?_)
    refine TL.bs el37 rfl rfl (by intro v hv; simp at hv; rcases hv with rfl; rfl) (by simp) rfl rfl (fun b1 => ?_)
    refine TL.append 1 el37 sl37 rfl rfl rfl rfl rfl hI.own (src_block (i := 0) (E := [0]) rfl rfl) (by simp; omega) (by simp; omega) (fun b' cs' cap' ho' => ?_)
    repeat (first | refine za rfl rfl ?_ | refine zb rfl ?_ | refine zc rfl ?_)
    have hbeg := hI.end (by omega)
    have hroot := kn_new x.Bc [0] (hole := hole) (hh.mono (by omega))
    obtain ⟨E', h1, h2, h3, h4, h5⟩ := hI.fin hs (by have := hI.ile; omega) he hq (b' := b') (E := [0]) (by simp) (by simp [hbeg]) (ho'.cast (by simp) (by simp)) (c := 0)
      (by rw [hbeg, List.drop_length]; simpa using NameAt.root (by simpa using hroot 0 0 rfl)) (Nat.zero_le _)
    refine T.ret Tryz.func103 rfl (fun w hA => ⟨⟨b', cs', cap', E', x.es, x.ck, ms ++ x.pd, 0⟩, ?_, ⟨h2, h3, h4, h5⟩, hA.sub (by simp [PkR.mem, setN])⟩)
    simp only [pack, slV]
    have : x.Bc.length + ([0] : Bs).length = (B ++ E').length := by rw [← h1]; simp
    rw [this]
  refine T.condT rfl (by simpa using hlt) ?_
  obtain ⟨c, hc⟩ : ∃ c, s[x.i]? = some c := ⟨s[x.i], by simp [hlt]⟩
  repeat (first | refine za rfl rfl ?_ | refine zb rfl ?_ | refine zc rfl ?_)
  refine TL.ixA (j := x.i) tbk rfl rfl rfl rfl rfl rfl (by omega) ?_
  refine TL.ldR (one_name hr hc) szk rfl rfl rfl rfl ?_
  repeat (first | refine za rfl rfl ?_ | refine zb rfl ?_ | refine zc rfl ?_)
  by_cases hdot : c = 46
  · subst hdot
    obtain ⟨hd0, hd64, hnew⟩ := hI.dot hc hh
    refine T.condT rfl (by decide) ?_
    repeat (first | refine za rfl rfl ?_ | refine zb rfl ?_ | refine zc rfl ?_)
    rw [sub_i64 hle (by omega)]
    refine T.condF rfl (by simp; omega) ?_
    repeat (first | refine za rfl rfl ?_ | refine zb rfl ?_ | refine zc rfl ?_)
    rw [sub_i64 hle (by omega)]
    refine T.condF rfl (by simp; omega) ?_
    repeat (first | refine za rfl rfl ?_ | refine zb rfl ?_ | refine zc rfl ?_)
    rw [sub_i64 hle (by omega)]
    refine TL.bs el37 rfl rfl (by intro v hv; simp at hv; rcases hv with rfl; rfl) (by simp) rfl rfl (fun b1 => ?_)
    have e1 := byte_of (x.i - x.beg) ((x.i - x.beg : Nat) : Int) (by omega)
    refine TL.append 1 el37 sl37 rfl rfl rfl rfl rfl hI.own (src_block (i := 0) (E := [UInt8.ofNat (x.i - x.beg)]) rfl (by simp [e1])) (by simp; omega) (by simp; omega) (fun b' cs' cap' ho' => ?_)
    repeat (first | refine za rfl rfl ?_ | refine zb rfl ?_ | refine zc rfl ?_)
    refine T.loop (α := Nat × Nat × List Value × Nat) (fun y => [(0, .pointer (some ⟨nb, noff, none⟩)), (1, slV y.2.1 (x.Bc.length + 1 + (y.1 - x.beg)) y.2.2.2), (2, .map q), (3, .int .i64 0), (11, str x.nas), (12, .int .i64 (x.i : Int)), (14, .int .i64 (y.1 : Int))])
      (fun y w' => (x.beg ≤ y.1 ∧ y.1 ≤ x.i ∧ Own y.2.2.1 (x.Bc.length + 1 + (y.1 - x.beg)) y.2.2.2 1 ((x.Bc ++ UInt8.ofNat (x.i - x.beg) :: (s.drop x.beg).take (y.1 - x.beg)).map bv)) ∧ St (keys ((b, .row cs 5) :: cmem q es ck)) w ((y.2.1, .row y.2.2.1 5) :: cmem q x.es x.ck) w')
      (fun y => x.i - y.1) (x.beg, b', cs', cap') ⟨rfl, (by show _ = some (slV b' (x.Bc.length + 1 + (x.beg - x.beg)) cap'); rw [Nat.sub_self]; rfl), rfl, rfl, rfl, rfl, rfl, trivial⟩
      (fun w' hA => ⟨⟨Nat.le_refl _, hle, ho'.cast (by simp) (by simp)⟩, hA.sub (by simp [setN])⟩) ?_
    rintro ⟨j, jb, jcs, jcap⟩ ih2
    refine T.and fun hJ => ?_
    obtain ⟨hj1, hj2, hj3⟩ := hJ
    simp only at hj1 hj2 hj3
    repeat (first | refine za rfl rfl ?_ | refine zb rfl ?_ | refine zc rfl ?_)
    by_cases hjl : j < x.i
    · refine T.condT rfl (by simpa using hjl) ?_
      obtain ⟨d, hd⟩ : ∃ d, s[j]? = some d := ⟨s[j]'(by omega), by rw [List.getElem?_eq_getElem (by omega)]⟩
      repeat (first | refine za rfl rfl ?_ | refine zb rfl ?_ | refine zc rfl ?_)
      refine TL.ixA (j := j) tbk rfl rfl rfl rfl rfl rfl (by omega) ?_
      refine TL.ldR (one_name hr hd) szk rfl rfl rfl rfl ?_
      refine TL.bs el37 rfl rfl (by intro v hv; simp at hv; rcases hv with rfl; rfl) (by simp) rfl rfl (fun b2 => ?_)
      refine TL.append 1 el37 sl37 rfl rfl rfl rfl rfl hj3 (src_block (i := 0) (E := [d]) rfl rfl) (by simp; omega) (by simp; omega) (fun b3 cs3 cap3 ho3 => ?_)
      repeat (first | refine za rfl rfl ?_ | refine zb rfl ?_ | refine zc rfl ?_)
      rw [add1_i64 (a := j) (by omega)]
      refine T.again ih2 (j + 1, b3, cs3, cap3) (by simp; omega) ⟨rfl, ?_, rfl, rfl, rfl, rfl, rfl, trivial⟩ (fun w' hA => ⟨⟨by simp; omega, by simp; omega, ?_⟩, hA.sub (by simp [setN])⟩)
      · simp only [look, slV, List.length_singleton]
        rw [show x.Bc.length + 1 + (j - x.beg) + 1 = x.Bc.length + 1 + (j + 1 - x.beg) by omega]
        rfl
      · refine ho3.cast (by simp; omega) ?_
        have ht : (s.drop x.beg).take (j + 1 - x.beg) = (s.drop x.beg).take (j - x.beg) ++ [d] := by
          rw [show j + 1 - x.beg = j - x.beg + 1 by omega, List.take_add_one, drop_get, show x.beg + (j - x.beg) = j by omega, hd]; rfl
        simp only [ht]
        simp
    · refine T.condF rfl (by simpa using hjl) ?_
      have hji : j = x.i := by omega
      subst hji
      repeat (first | refine za rfl rfl ?_ | refine zb rfl ?_ | refine zc rfl ?_)
      rw [add1_i64 (a := x.i) (by omega)]
      have hown : OwnB jcs (x.Bc ++ UInt8.ofNat (x.i - x.beg) :: (s.drop x.beg).take (x.i - x.beg)) jcap := hj3.cast (by simp; omega) rfl
      refine T.again ih { x with i := x.i + 1, beg := x.i + 1, b := jb, cs := jcs, cap := jcap, Bc := x.Bc ++ UInt8.ofNat (x.i - x.beg) :: (s.drop x.beg).take (x.i - x.beg) } (by simp; omega) ⟨rfl, ?_, rfl, rfl, rfl, rfl, rfl, trivial⟩ (fun w' hA => ⟨hnew _ _ _ hown, hA⟩)
      simp only [look, slV]
      have : (x.Bc ++ UInt8.ofNat (x.i - x.beg) :: (s.drop x.beg).take (x.i - x.beg)).length = x.Bc.length + 1 + (x.i - x.beg) := by simp; omega
      rw [this]; rfl
  · refine T.condF rfl (blt_of c hdot) ?_
    -- the state of the next round, where nothing is looked up
    have hstep : (x.i ≠ x.beg ∨ ∀ e ∈ x.pd, s.length - x.beg < e.1.length) := by
      by_cases e : x.i = x.beg
      · right; intro e' he'; have := hI.old e' he'; rw [if_pos e] at this; exact this
      · exact .inl e
    have hnx := hI.next hc hdot hstep
    by_cases hib : x.i = x.beg
    · -- at the head of a label: reach the test whether there is a map
      have hprev := hI.prev
      by_cases h0 : x.i = 0
      case' neg =>
        obtain ⟨d, hd⟩ : ∃ d, s[x.i - 1]? = some d := ⟨s[x.i - 1]'(by omega), by rw [List.getElem?_eq_getElem (by omega)]⟩
        have hd46 : d = 46 := by
          rcases hprev with hp | hp
          · omega
          · rw [← hib, hd] at hp; simpa using hp
        subst hd46
        repeat (first | refine za rfl rfl ?_ | refine zb rfl ?_ | refine zc rfl ?_)
        rw [eq0F h0]
        repeat (first | refine za rfl rfl ?_ | refine zb rfl ?_ | refine zc rfl ?_)
        rw [sub1_i64 (a := x.i) (by omega) (by omega)]
        repeat (first | refine za rfl rfl ?_ | refine zb rfl ?_ | refine zc rfl ?_)
        refine TL.ixA (j := x.i - 1) tbk rfl rfl rfl rfl rfl rfl (by omega) ?_
        refine TL.ldR (one_name hr hd) szk rfl rfl rfl rfl ?_
        refine TL.p tbk rfl ?_
        rw [show ((((46 : UInt8).toNat : Nat) : Int) == 46) = true by decide]
        repeat (first | refine za rfl rfl ?_ | refine zb rfl ?_ | refine zc rfl ?_)
      case' pos =>
        repeat (first | refine za rfl rfl ?_ | refine zb rfl ?_ | refine zc rfl ?_)
        rw [eq0T h0]
        repeat (first | refine za rfl rfl ?_ | refine zb rfl ?_ | refine zc rfl ?_)
      all_goals
        cases q with
        | none =>
          refine T.condF rfl rfl ?_
          repeat (first | refine za rfl rfl ?_ | refine zb rfl ?_ | refine zc rfl ?_)
          rw [add1_i64 (a := x.i) (by omega)]
          exact T.again ih { x with i := x.i + 1 } (by simp; omega) ⟨rfl, rfl, rfl, rfl, rfl, rfl, rfl, trivial⟩ (fun w' hA => ⟨hnx, hA⟩)
        | some q =>
          refine T.condT rfl rfl ?_
          repeat (first | refine za rfl rfl ?_ | refine zb rfl ?_ | refine zc rfl ?_)
          refine T.regionS [(0, true), (1, true), (2, true), (3, true), (4, true), (5, true), (6, true), (7, true), (8, true), (9, true), (10, true), (11, true), (12, true), (13, true), (14, true), (15, true), (16, true)] (St _ w _) mixed (by kernel_rfl) (by kernel_rfl) (by decide) (fun w m h => h.drawn m) (fun w h => h) ?_
          repeat refine TS.p tbk rfl rfl ?_
          refine TS.y rfl rfl rfl rfl (Y.load szk rfl rfl (fun w h => (len_name hr h255).cell h.ext (i := 0) rfl)) ?_
          refine TS.y rfl rfl rfl rfl (Y.slA2 (l := x.i) (m := s.length) tbk rfl rfl (by exact ⟨_, rfl⟩) (by exact ⟨_, rfl⟩) (by omega) (by omega)) ?_
          rw [if_neg (by omega)]
          refine TS.y rfl rfl rfl rfl (Y.b2s (s := s.drop x.i) Tryz.underlying37 Tryz.underlying5 Tryz.underlying9 rfl (by simp) (fun w h j u hj => ?_)) ?_
          · rw [add_zero']
            rw [List.getElem?_map, drop_get] at hj
            obtain ⟨y, hy, rfl⟩ := Option.map_eq_some_iff.1 hj
            have := (one_name hr hy).cell h.ext (i := 0) rfl
            rw [show noff + 0 + x.i * 1 + j = noff + 0 + (x.i + j) * 1 + 0 by omega]
            exact this
          refine TS.y rfl rfl rfl rfl (Y.lookup Tryz.underlying89 Tryz.underlying9 Tryz.zeroValue22 rfl rfl hI.mp (fun w h => h.block (i := 1) rfl)) ?_
          rcases hg : mget (ms ++ x.pd) (s.drop x.i) with _ | p
          · repeat refine TS.p tbk rfl rfl ?_
            refine TS.nil ?_
            repeat (first | refine za rfl rfl ?_ | refine zb rfl ?_ | refine zc rfl ?_)
            refine T.condF rfl rfl ?_
            repeat (first | refine za rfl rfl ?_ | refine zb rfl ?_ | refine zc rfl ?_)
            rw [show IntKind.i64.wrap ((x.Bc.length : Int) - 0) = (x.Bc.length : Int) by rw [i64_in] <;> omega]
            by_cases hp : x.Bc.length < 16384
            · refine T.condT rfl (by simp; omega) ?_
              repeat (first | refine za rfl rfl ?_ | refine zb rfl ?_ | refine zc rfl ?_)
              have hins := hI.ins hc hdot hib (by simp) hp s rfl
              rcases hI.nasok with hnas | hnas
              · rw [hnas]
                refine T.condT rfl (by simp [bs_toList]) ?_
                repeat (first | refine za rfl rfl ?_ | refine zb rfl ?_ | refine zc rfl ?_)
                refine T.regionS [(0, true), (1, true), (2, true), (3, true), (4, true), (5, true), (6, true), (7, true), (8, true), (9, true)] (St _ w _) mixed (by kernel_rfl) (by kernel_rfl) (by decide) (fun w m h => h.drawn m) (fun w h => h) ?_
                repeat refine TS.p tbk rfl rfl ?_
                refine TS.y rfl rfl rfl rfl (Y.load szk rfl rfl (fun w h => (len_name hr h255).cell h.ext (i := 0) rfl)) ?_
                refine TS.y rfl rfl rfl rfl (Y.slA2 (l := 0) (m := s.length) tbk rfl rfl (by exact rfl) (by exact ⟨_, rfl⟩) (by omega) (by omega)) ?_
                rw [if_neg (by omega)]
                refine TS.y rfl rfl rfl rfl (Y.b2s (s := s) Tryz.underlying37 Tryz.underlying5 Tryz.underlying9 rfl (by simp) (fun w h j u hj => ?_)) ?_
                · rw [add_zero']
                  rw [List.getElem?_map] at hj
                  obtain ⟨y, hy, rfl⟩ := Option.map_eq_some_iff.1 hj
                  have := (one_name hr hy).cell h.ext (i := 0) rfl
                  rw [show noff + 0 + 0 * 1 + j = noff + 0 + j * 1 + 0 by omega]
                  exact this
                repeat refine TS.p tbk rfl rfl ?_
                refine TS.nil ?_
                repeat (first | refine za rfl rfl ?_ | refine zb rfl ?_ | refine zc rfl ?_)
                refine TL.ssl (s := s) (l := x.i) (m := s.length) tbk rfl rfl rfl rfl (by exact ⟨_, rfl⟩) (by exact rfl) (by omega) (by omega) ?_
                rw [List.take_length]
                repeat (first | refine za rfl rfl ?_ | refine zb rfl ?_ | refine zc rfl ?_)
                rw [u16_in (x.Bc.length : Int) (by omega) (by omega)]
                refine TL.mapNew 1 Tryz.underlying89 Tryz.underlying9 rfl rfl rfl hI.mp hg rfl ?_
                repeat (first | refine za rfl rfl ?_ | refine zb rfl ?_ | refine zc rfl ?_)
                rw [add1_i64 (a := x.i) (by omega)]
                exact T.again ih { x with i := x.i + 1, pd := x.pd ++ [(s.drop x.i, x.Bc.length)], es := x.es ++ [⟨str (s.drop x.i), .int .u16 (x.Bc.length : Int), x.ck⟩], ck := x.ck + 1, nas := s } (by simp; omega) ⟨rfl, rfl, rfl, rfl, rfl, rfl, rfl, trivial⟩ (fun w' hA => ⟨hins, hA⟩)
              · rw [hnas]
                refine T.condF rfl (by simp [bs_toList, hne]) ?_
                repeat (first | refine za rfl rfl ?_ | refine zb rfl ?_ | refine zc rfl ?_)
                refine TL.ssl (s := s) (l := x.i) (m := s.length) tbk rfl rfl rfl rfl (by exact ⟨_, rfl⟩) (by exact rfl) (by omega) (by omega) ?_
                rw [List.take_length]
                repeat (first | refine za rfl rfl ?_ | refine zb rfl ?_ | refine zc rfl ?_)
                rw [u16_in (x.Bc.length : Int) (by omega) (by omega)]
                refine TL.mapNew 1 Tryz.underlying89 Tryz.underlying9 rfl rfl rfl hI.mp hg rfl ?_
                repeat (first | refine za rfl rfl ?_ | refine zb rfl ?_ | refine zc rfl ?_)
                rw [add1_i64 (a := x.i) (by omega)]
                exact T.again ih { x with i := x.i + 1, pd := x.pd ++ [(s.drop x.i, x.Bc.length)], es := x.es ++ [⟨str (s.drop x.i), .int .u16 (x.Bc.length : Int), x.ck⟩], ck := x.ck + 1, nas := s } (by simp; omega) ⟨rfl, rfl, rfl, rfl, rfl, rfl, rfl, trivial⟩ (fun w' hA => ⟨hins, hA⟩)
            · refine T.condF rfl (by simp; omega) ?_
              repeat (first | refine za rfl rfl ?_ | refine zb rfl ?_ | refine zc rfl ?_)
              rw [add1_i64 (a := x.i) (by omega)]
              exact T.again ih { x with i := x.i + 1 } (by simp; omega) ⟨rfl, rfl, rfl, rfl, rfl, rfl, rfl, trivial⟩ (fun w' hA => ⟨hnx, hA⟩)
          · repeat refine TS.p tbk rfl rfl ?_
            refine TS.nil ?_
            repeat (first | refine za rfl rfl ?_ | refine zb rfl ?_ | refine zc rfl ?_)
            refine T.condT rfl rfl ?_
            repeat (first | refine za rfl rfl ?_ | refine zb rfl ?_ | refine zc rfl ?_)
            have hmem := mget_mem hg
            have hold : (s.drop x.i, p) ∈ ms := by
              rcases List.mem_append.1 hmem with hmm | hmm
              · exact hmm
              · have := hI.old _ hmm
                rw [if_pos hib] at this
                simp at this; omega
            obtain ⟨hp, fn, cc, hna, hcc⟩ := he _ hold
            simp only at hp hna hcc
            refine TL.bs el37 rfl rfl (by intro v hv; simp at hv; rcases hv with rfl | rfl <;> rfl) (by simp) rfl rfl (fun b1 => ?_)
            rw [shr16]
            have e1 := byte_of (192 + p / 256) _ (orC0' (p / 256) (by omega))
            have e2 := byte_of p (p : Int) (by omega)
            refine TL.append 1 el37 sl37 rfl rfl rfl rfl rfl hI.own (src_block (i := 0) (E := [UInt8.ofNat (192 + p / 256), UInt8.ofNat p]) rfl (by simp only [List.map_cons, List.map_nil, e1, e2])) (by simp; omega) (by simp; omega) (fun b' cs' cap' ho' => ?_)
            repeat (first | refine za rfl rfl ?_ | refine zb rfl ?_ | refine zc rfl ?_)
            have hnew := kn_new x.Bc [UInt8.ofNat (192 + p / 256), UInt8.ofNat p] (hole := hole) (hh.mono (by omega))
            obtain ⟨E0, hE0⟩ := hI.pre
            have hkm : KM.le (kn B hole) (kn (x.Bc ++ [UInt8.ofNat (192 + p / 256), UInt8.ofNat p]) hole) := by rw [hE0, List.append_assoc]; exact kn_append _ _ _
            obtain ⟨E', h1, h2, h3, h4, h5⟩ := hI.fin hs hib he hq (b' := b') (E := [UInt8.ofNat (192 + p / 256), UInt8.ofNat p]) (by simp) (by simp; omega) (ho'.cast (by simp) (by simp)) (c := cc + 1)
              (by
                have := NameAt.ptr (hnew 0 _ rfl) (hnew 1 _ rfl) hp (hna.mono hkm)
                rw [← hib]
                simpa using this) (by rw [← hib]; omega)
            refine T.ret Tryz.func103 rfl (fun w hA => ⟨⟨b', cs', cap', E', x.es, x.ck, ms ++ x.pd, cc + 1⟩, ?_, ⟨h2, h3, h4, h5⟩, hA.sub (by simp [PkR.mem, setN])⟩)
            simp only [pack, slV]
            have : x.Bc.length + ([UInt8.ofNat (192 + p / 256), UInt8.ofNat p] : Bs).length = (B ++ E').length := by rw [← h1]; simp
            rw [this]
    · have h0 : x.i ≠ 0 := by omega
      obtain ⟨d, hd⟩ : ∃ d, s[x.i - 1]? = some d := ⟨s[x.i - 1]'(by omega), by rw [List.getElem?_eq_getElem (by omega)]⟩
      have hdn : d ≠ 46 := hI.nod (x.i - 1) (by omega) (by omega) d hd
      repeat (first | refine za rfl rfl ?_ | refine zb rfl ?_ | refine zc rfl ?_)
      rw [eq0F h0]
      repeat (first | refine za rfl rfl ?_ | refine zb rfl ?_ | refine zc rfl ?_)
      rw [sub1_i64 (a := x.i) (by omega) (by omega)]
      repeat (first | refine za rfl rfl ?_ | refine zb rfl ?_ | refine zc rfl ?_)
      refine TL.ixA (j := x.i - 1) tbk rfl rfl rfl rfl rfl rfl (by omega) ?_
      refine TL.ldR (one_name hr hd) szk rfl rfl rfl rfl ?_
      refine TL.p tbk rfl ?_
      rw [blt_of d hdn]
      repeat (first | refine za rfl rfl ?_ | refine zb rfl ?_ | refine zc rfl ?_)
      refine T.condF rfl rfl ?_
      repeat (first | refine za rfl rfl ?_ | refine zb rfl ?_ | refine zc rfl ?_)
      rw [add1_i64 (a := x.i) (by omega)]
      exact T.again ih { x with i := x.i + 1 } (by simp; omega) ⟨rfl, rfl, rfl, rfl, rfl, rfl, rfl, trivial⟩ (fun w' hA => ⟨hnx, hA⟩)
/-- Name.pack appends a name that is read as what it is, and keeps the map right. -/
theorem namePack_ok (q : Option Nat) (nb noff : Nat) (s : Bs) (hs : NmOk s) (b : Nat) (cs : List Value) (cap : Nat) (B : Bs) (es : List MapEntry) (ck : Nat) (ms : List (Bs × Nat)) (hole : Hole)
    (ho : OwnB cs B cap) (hm : MapIs es ms) (hq : q = none → ms = []) (he : ∀ e ∈ ms, EntOk (kn B hole) e) (hh : hole.In B.length) (hB : B.length ≤ 4294967296) :
    Ct (β := PkR) Tryz.prog 103 [.pointer (some ⟨nb, noff, none⟩), slV b B.length cap, .map q, .int .i64 0] ((b, .row cs 5) :: cmem q es ck)
      (fun w => RowAt (view (keys ((b, .row cs 5) :: cmem q es ck)) w) nb noff (nameCells s))
      (fun y => .tuple #[slV y.b (B ++ y.E).length y.cap, .nilIface])
      (fun y _ => y.ok B hole q ∧ NameAt (kn (B ++ y.E) hole) B.length (txt s) (B ++ y.E).length y.c ∧ y.c ≤ nlab s ∧ y.E.length ≤ s.length + 1) (fun y => y.mem q) := by
  rcases hs with rfl | ⟨h1, h2, h3⟩
  · exact namePack_root q nb noff b cs cap B es ck ms hole ho hm hq he hh hB
  · by_cases hr : s = [46]
    · subst hr; exact namePack_root q nb noff b cs cap B es ck ms hole ho hm hq he hh hB
    · exact namePack_lab q nb noff s hr h1 h2 h3 b cs cap B es ck ms hole ho hm hq he hh hB
end X
end Go.Proofs.YtifnodoffgfpbaaGreatDoor
