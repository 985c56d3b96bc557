/- Texts E13, U1, U2, U3, U4, U5. The engine, thirteenth part: scopes and labels. -/
import Derived.Test.YtifnodoffgfpbaaGreatDoorPal
import Derived.Scope
namespace Go.Proofs.YtifnodoffgfpbaaGreatDoor
open Go
namespace X
section
variable {P : Program} {f : FuncId} {n : Nat} {R : Ending → World → Prop} {k : List Item} {L : Fr} {A : World → Prop}
theorem T.scope {c : Code} (h : T P f n R (.code c :: .inScope c :: k) L A) : T P f n R (.code (.scope c) :: k) L A := ⟨fun a w ha hw => W.step (fun _ _ => step_scope) (h.go a w ha hw)⟩
theorem T.inScope {c : Code} (h : T P f n R k L A) : T P f n R (.inScope c :: k) L A := ⟨fun a w ha hw => W.step (fun _ _ => step_inScope) (h.go a w ha hw)⟩
theorem T.label {l : Nat} (h : T P f n R k L A) : T P f n R (.code (.label l) :: k) L A := ⟨fun a w ha hw => W.step (fun _ _ => step_label) (h.go a w ha hw)⟩
end
end X
namespace X
abbrev msl (b cap : Nat) (B : Bs) : Value := .slice (some ⟨b, 0, none⟩) B.length cap
abbrev MB (h : View) (b : Nat) (B : Bs) : Prop := RowAt h b 0 (B.map bv)
theorem MB.byte {h : View} {b i : Nat} {B : Bs} {x : UInt8} (k : MB h b B) (hi : B[i]? = some x) : RowAt h b (0 + i * 1) [bv x] :=
  RowAt.one k (i := i) (by rw [nth_eq, List.getElem?_map, hi]; rfl) (by omega)
theorem byte_at {B : Bs} {hole : Hole} {o : Nat} {l : Bs} (h : BytesAt (kn B hole) o l) {i : Nat} {x : UInt8} (hx : l[i]? = some x) : B[o + i]? = some x := (kn_some (h i x hx)).2
theorem lt_get {B : Bs} {i : Nat} {x : UInt8} (h : B[i]? = some x) : i < B.length := (List.getElem?_eq_some_iff.1 h).1
theorem u16_join (hi lo : Nat) (h1 : hi < 256) (h2 : lo < 256) : IntKind.u16.wrap (((BitVec.ofInt IntKind.u16.bits (IntKind.u16.wrap (IntKind.u16.wrap (hi : Int) * 2 ^ min 8 IntKind.u16.bits)) ||| BitVec.ofInt IntKind.u16.bits (IntKind.u16.wrap (lo : Int))).toNat : Nat) : Int) = ((hi * 256 + lo : Nat) : Int) := by
  rw [u16_in (hi : Int) (by omega) (by omega), u16_in (lo : Int) (by omega) (by omega)]
  rw [show ((hi : Int) * 2 ^ min 8 IntKind.u16.bits) = ((hi * 256 : Nat) : Int) by simp [IntKind.bits], u16_in ((hi * 256 : Nat) : Int) (by omega) (by omega), wrap_or _ _ (by omega) (by omega)]
  have := or_add 8 hi lo (by omega)
  rw [show 2 ^ 8 * hi = hi * 256 by omega] at this
  rw [this]
theorem unpack16 (b cap : Nat) (B : Bs) (o m : Nat) (hm : m < 65536) (hB : B.length ≤ 1000000) (hb : BytesAt (kn B H0) o (w2 m)) :
    Ct (β := Unit) Tryz.prog 148 [msl b cap B, .int .i64 (o : Int)] [] (fun w => MB (view [] w) b B) (fun _ => .tuple #[.int .u16 (m : Int), .int .i64 ((o + 2 : Nat) : Int), .nilIface]) (fun _ _ => True) (fun _ => []) := by
  intro w hS hr
  have b0 := byte_at hb (i := 0) rfl
  have b1 := byte_at hb (i := 1) rfl
  have l0 := lt_get b0
  have l1 := lt_get b1
  refine calls_of_T (m := 29) Tryz.func148 rfl rfl (by simp) hS ?_
  repeat (first | refine za rfl rfl ?_ | refine zb rfl ?_ | refine zc rfl ?_)
  rw [show IntKind.i64.wrap ((o : Int) + 2) = ((o + 2 : Nat) : Int) by rw [i64_in] <;> omega]
  refine T.condF rfl (by simp; omega) ?_
  repeat (first | refine za rfl rfl ?_ | refine zb rfl ?_ | refine zc rfl ?_)
  refine TS.start [(0, true), (1, true), (2, true), (3, true), (4, true), (5, true), (6, true), (7, true), (8, true), (9, true), (10, true), (11, true), (12, true), (13, true), (14, true), (15, true), (16, true), (17, true)] [] mixed (by kernel_rfl) (by kernel_rfl) (by decide) (by simp) ?_
  repeat refine TS.p tbk rfl rfl ?_
  refine TS.y rfl rfl rfl rfl (Y.ix (j := o) tbk rfl rfl rfl rfl l0) ?_
  refine TS.y rfl rfl rfl rfl (Y.load szk rfl rfl (fun w h => (hr.byte b0).cell h.1 (i := 0) rfl)) ?_
  repeat refine TS.p tbk rfl rfl ?_
  refine TS.y rfl rfl rfl rfl (Y.ix (j := o + 1) tbk rfl rfl rfl (by rw [i64_in] <;> omega) l1) ?_
  refine TS.y rfl rfl rfl rfl (Y.load szk rfl rfl (fun w h => (hr.byte b1).cell h.1 (i := 0) rfl)) ?_
  refine TS.p tbk rfl rfl ?_
  refine TS.p tbk rfl rfl ?_
  rw [u16_join _ _ (UInt8.toNat_lt _) (UInt8.toNat_lt _)]
  rw [show (UInt8.ofNat (m / 256)).toNat * 256 + (UInt8.ofNat m).toNat = m by simp; omega]
  refine TS.p tbk rfl rfl ?_
  refine TS.p tbk rfl rfl ?_
  rw [show IntKind.i64.wrap ((o : Int) + 2) = ((o + 2 : Nat) : Int) by rw [i64_in] <;> omega]
  repeat refine TS.p tbk rfl rfl ?_
  refine TS.nil ?_
  repeat (first | refine za rfl rfl ?_ | refine zb rfl ?_ | refine zc rfl ?_)
  exact T.ret Tryz.func148 rfl (fun w hA => ⟨(), rfl, trivial, hA⟩)
theorem unpackType (b cap : Nat) (B : Bs) (o m : Nat) (hm : m < 65536) (hB : B.length ≤ 1000000) (hb : BytesAt (kn B H0) o (w2 m)) :
    Ct (β := Unit) Tryz.prog 151 [msl b cap B, .int .i64 (o : Int)] [] (fun w => MB (view [] w) b B) (fun _ => .tuple #[.int .u16 (m : Int), .int .i64 ((o + 2 : Nat) : Int), .nilIface]) (fun _ _ => True) (fun _ => []) := by
  intro w hS hr
  refine calls_of_T (m := 20) Tryz.func151 rfl rfl (by simp) hS ?_
  repeat (first | refine za rfl rfl ?_ | refine zb rfl ?_ | refine zc rfl ?_)
  refine TL.call0 Tryz.call148 rfl rfl rfl (unpack16 b cap B o m hm hB hb) (fun w' hA => hr.mono (st_viewLe hA (Mc := []) fun _ hp => by cases hp)) (fun _ => TL.and fun _ => ?_)
  repeat (first | refine za rfl rfl ?_ | refine zb rfl ?_ | refine zc rfl ?_)
  exact T.ret Tryz.func151 rfl (fun w hA => ⟨(), rfl, trivial, hA⟩)
theorem unpackClass (b cap : Nat) (B : Bs) (o m : Nat) (hm : m < 65536) (hB : B.length ≤ 1000000) (hb : BytesAt (kn B H0) o (w2 m)) :
    Ct (β := Unit) Tryz.prog 152 [msl b cap B, .int .i64 (o : Int)] [] (fun w => MB (view [] w) b B) (fun _ => .tuple #[.int .u16 (m : Int), .int .i64 ((o + 2 : Nat) : Int), .nilIface]) (fun _ _ => True) (fun _ => []) := by
  intro w hS hr
  refine calls_of_T (m := 20) Tryz.func152 rfl rfl (by simp) hS ?_
  repeat (first | refine za rfl rfl ?_ | refine zb rfl ?_ | refine zc rfl ?_)
  refine TL.call0 Tryz.call148 rfl rfl rfl (unpack16 b cap B o m hm hB hb) (fun w' hA => hr.mono (st_viewLe hA (Mc := []) fun _ hp => by cases hp)) (fun _ => TL.and fun _ => ?_)
  repeat (first | refine za rfl rfl ?_ | refine zb rfl ?_ | refine zc rfl ?_)
  exact T.ret Tryz.func152 rfl (fun w hA => ⟨(), rfl, trivial, hA⟩)
theorem u32_in (z : Int) (h1 : 0 ≤ z) (h2 : z < 4294967296) : IntKind.u32.wrap z = z := by rw [IntKind.wrap]; simp [IntKind.bits, IntKind.signed]; omega
theorem wrap_or32 (a b : Nat) (ha : a < 4294967296) (hb : b < 4294967296) : IntKind.u32.wrap ((BitVec.ofInt IntKind.u32.bits (a : Int) ||| BitVec.ofInt IntKind.u32.bits (b : Int)).toNat : Int) = ((a ||| b : Nat) : Int) := by
  have e : (BitVec.ofInt IntKind.u32.bits (a : Int) ||| BitVec.ofInt IntKind.u32.bits (b : Int)).toNat = a ||| b := by
    rw [BitVec.toNat_or]
    simp [IntKind.bits]
    rw [Nat.mod_eq_of_lt ha, Nat.mod_eq_of_lt hb]
  have hlt : a ||| b < 4294967296 := Nat.or_lt_two_pow (n := 32) ha hb
  rw [e, u32_in ((a ||| b : Nat) : Int) (by omega) (by omega)]
theorem sh32 (a k : Nat) (ha : a * 2 ^ k < 4294967296) (h2 : a < 4294967296) (hk : k < 32) : IntKind.u32.wrap (IntKind.u32.wrap (a : Int) * 2 ^ min k IntKind.u32.bits) = ((a * 2 ^ k : Nat) : Int) := by
  rw [u32_in (a : Int) (by omega) (by omega), show min k IntKind.u32.bits = k by simp [IntKind.bits]; omega]
  rw [show ((a : Int) * 2 ^ k) = ((a * 2 ^ k : Nat) : Int) by push_cast; rfl, u32_in _ (by omega) (by omega)]
theorem u32_join (a b c d : Nat) (ha : a < 256) (hb : b < 256) (hc : c < 256) (hd : d < 256) :
    IntKind.u32.wrap (((BitVec.ofInt IntKind.u32.bits (IntKind.u32.wrap (((BitVec.ofInt IntKind.u32.bits (IntKind.u32.wrap (((BitVec.ofInt IntKind.u32.bits (IntKind.u32.wrap (IntKind.u32.wrap (a : Int) * 2 ^ min 24 IntKind.u32.bits)) |||
      BitVec.ofInt IntKind.u32.bits (IntKind.u32.wrap (IntKind.u32.wrap (b : Int) * 2 ^ min 16 IntKind.u32.bits))).toNat : Nat) : Int)) |||
      BitVec.ofInt IntKind.u32.bits (IntKind.u32.wrap (IntKind.u32.wrap (c : Int) * 2 ^ min 8 IntKind.u32.bits))).toNat : Nat) : Int)) |||
      BitVec.ofInt IntKind.u32.bits (IntKind.u32.wrap (d : Int))).toNat : Nat) : Int) = ((a * 16777216 + b * 65536 + c * 256 + d : Nat) : Int) := by
  rw [sh32 a 24 (by omega) (by omega) (by decide), sh32 b 16 (by omega) (by omega) (by decide), sh32 c 8 (by omega) (by omega) (by decide), u32_in (d : Int) (by omega) (by omega)]
  rw [wrap_or32 _ _ (by omega) (by omega)]
  have e1 := or_add 24 a (b * 2 ^ 16) (by omega)
  rw [show 2 ^ 24 * a = a * 2 ^ 24 by omega] at e1
  rw [e1, wrap_or32 _ _ (by omega) (by omega)]
  have e2 := or_add 16 (a * 256 + b) (c * 2 ^ 8) (by omega)
  rw [show 2 ^ 16 * (a * 256 + b) = a * 2 ^ 24 + b * 2 ^ 16 by omega] at e2
  rw [e2, wrap_or32 _ _ (by omega) (by omega)]
  have e3 := or_add 8 (a * 65536 + b * 256 + c) d (by omega)
  rw [show 2 ^ 8 * (a * 65536 + b * 256 + c) = a * 2 ^ 24 + b * 2 ^ 16 + c * 2 ^ 8 by omega] at e3
  rw [e3]
theorem unpack32 (b cap : Nat) (B : Bs) (o m : Nat) (hm : m < 4294967296) (hB : B.length ≤ 1000000) (hb : BytesAt (kn B H0) o (w4 m)) :
    Ct (β := Unit) Tryz.prog 170 [msl b cap B, .int .i64 (o : Int)] [] (fun w => MB (view [] w) b B) (fun _ => .tuple #[.int .u32 (m : Int), .int .i64 ((o + 4 : Nat) : Int), .nilIface]) (fun _ _ => True) (fun _ => []) := by
  intro w hS hr
  have b0 := byte_at hb (i := 0) rfl
  have b1 := byte_at hb (i := 1) rfl
  have b2 := byte_at hb (i := 2) rfl
  have b3 := byte_at hb (i := 3) rfl
  have l0 := lt_get b0
  have l1 := lt_get b1
  have l2 := lt_get b2
  have l3 := lt_get b3
  refine calls_of_T (m := 47) Tryz.func170 rfl rfl (by simp) hS ?_
  repeat (first | refine za rfl rfl ?_ | refine zb rfl ?_ | refine zc rfl ?_)
  rw [show IntKind.i64.wrap ((o : Int) + 4) = ((o + 4 : Nat) : Int) by rw [i64_in] <;> omega]
  refine T.condF rfl (by simp; omega) ?_
  repeat (first | refine za rfl rfl ?_ | refine zb rfl ?_ | refine zc rfl ?_)
  refine TS.start [(0, true), (1, true), (2, true), (3, true), (4, true), (5, true), (6, true), (7, true), (8, true), (9, true), (10, true), (11, true), (12, true), (13, true), (14, true), (15, true), (16, true), (17, true), (18, true), (19, true), (20, true), (21, true), (22, true), (23, true), (24, true), (25, true), (26, true), (27, true), (28, true), (29, true)] [] mixed (by kernel_rfl) (by kernel_rfl) (by decide) (by simp) ?_
  repeat refine TS.p tbk rfl rfl ?_
  refine TS.y rfl rfl rfl rfl (Y.ix (j := o) tbk rfl rfl rfl rfl l0) ?_
  refine TS.y rfl rfl rfl rfl (Y.load szk rfl rfl (fun w h => (hr.byte b0).cell h.1 (i := 0) rfl)) ?_
  repeat refine TS.p tbk rfl rfl ?_
  refine TS.y rfl rfl rfl rfl (Y.ix (j := o + 1) tbk rfl rfl rfl (by rw [i64_in] <;> omega) l1) ?_
  refine TS.y rfl rfl rfl rfl (Y.load szk rfl rfl (fun w h => (hr.byte b1).cell h.1 (i := 0) rfl)) ?_
  repeat refine TS.p tbk rfl rfl ?_
  refine TS.y rfl rfl rfl rfl (Y.ix (j := o + 2) tbk rfl rfl rfl (by rw [i64_in] <;> omega) l2) ?_
  refine TS.y rfl rfl rfl rfl (Y.load szk rfl rfl (fun w h => (hr.byte b2).cell h.1 (i := 0) rfl)) ?_
  repeat refine TS.p tbk rfl rfl ?_
  refine TS.y rfl rfl rfl rfl (Y.ix (j := o + 3) tbk rfl rfl rfl (by rw [i64_in] <;> omega) l3) ?_
  refine TS.y rfl rfl rfl rfl (Y.load szk rfl rfl (fun w h => (hr.byte b3).cell h.1 (i := 0) rfl)) ?_
  refine TS.p tbk rfl rfl ?_
  refine TS.p tbk rfl rfl ?_
  rw [u32_join _ _ _ _ (UInt8.toNat_lt _) (UInt8.toNat_lt _) (UInt8.toNat_lt _) (UInt8.toNat_lt _)]
  rw [show (UInt8.ofNat (m / 16777216)).toNat * 16777216 + (UInt8.ofNat (m / 65536)).toNat * 65536 + (UInt8.ofNat (m / 256)).toNat * 256 + (UInt8.ofNat m).toNat = m by simp; omega]
  repeat refine TS.p tbk rfl rfl ?_
  refine TS.nil ?_
  repeat (first | refine za rfl rfl ?_ | refine zb rfl ?_ | refine zc rfl ?_)
  rw [show IntKind.i64.wrap ((o : Int) + 4) = ((o + 4 : Nat) : Int) by rw [i64_in] <;> omega]
  exact T.ret Tryz.func170 rfl (fun w hA => ⟨(), rfl, trivial, hA⟩)
end X
namespace X
theorem BytesAt.sub {K : KM} {o i n : Nat} {l : Bs} (h : BytesAt K o l) : BytesAt K (o + i) ((l.drop i).take n) := fun j b hb => by
  rw [List.getElem?_take] at hb
  split at hb
  · rw [List.getElem?_drop] at hb
    rw [Nat.add_assoc]; exact h (i + j) b hb
  · cases hb
theorem msg_part {X : List Nat} {w0 : World} {b cap o : Nat} {B E : Bs} (hr : MB (view X w0) b B) (hb : BytesAt (kn B H0) o E) {p : Addr} (hp : o < cap → p = ⟨b, 0 + o * 1, none⟩) (hE : E.length ≠ 0 → o < cap) {w : World} (he : Ext X w0 w) :
    ∀ j u, (E.map bv)[j]? = some u → w.cell? (p.add j) = some u := fun j u hj => by
  rw [List.getElem?_map] at hj
  obtain ⟨x, hx, rfl⟩ := Option.map_eq_some_iff.1 hj
  have hjl := lt_get hx
  rw [hp (hE (by omega)), add_zero']
  have := (hr.byte (byte_at hb hx)).cell he (i := 0) rfl
  rw [show 0 + o * 1 + j = 0 + (o + j) * 1 + 0 by omega]; exact this
theorem unpackBytes (b cap : Nat) (B : Bs) (o : Nat) (E : Bs) (hB : B.length ≤ 1000000) (hcap : B.length ≤ cap) (hb : BytesAt (kn B H0) o E) (ho : o + E.length ≤ B.length) (fb fo fcap : Nat) (fcs : List Value) (ft : TypeId) (hf : fo + E.length ≤ fcs.length) :
    Ct (β := Unit) Tryz.prog 171 [msl b cap B, .int .i64 (o : Int), .slice (some ⟨fb, fo, none⟩) E.length fcap] [(fb, .row fcs ft)] (fun w => MB (view [fb] w) b B) (fun _ => .tuple #[.int .i64 ((o + E.length : Nat) : Int), .nilIface]) (fun _ _ => True) (fun _ => [(fb, .row (splice fcs fo (E.map bv)) ft)]) := by
  intro w hS hr
  refine calls_of_T (m := 26) Tryz.func171 rfl rfl (by simp) hS ?_
  repeat (first | refine za rfl rfl ?_ | refine zb rfl ?_ | refine zc rfl ?_)
  rw [add_i64 (a := o) (b := E.length) (by omega)]
  refine T.condF rfl (by simp; omega) ?_
  repeat (first | refine za rfl rfl ?_ | refine zb rfl ?_ | refine zc rfl ?_)
  refine TL.sl (l := o) (m := o + E.length) tbk rfl rfl rfl rfl (by exact ⟨_, rfl⟩) (by exact ⟨_, rfl⟩) (by omega) (by omega) (fun p hp _ => ?_)
  rw [show o + E.length - o = E.length by omega]
  refine TL.copy (q := E.length) 0 el37 rfl rfl rfl rfl rfl (by omega) (SrcN.slice (fun w hA => msg_part hr hb hp (by omega) hA.ext) (by simp) (bytes_one _)) hf ?_
  repeat (first | refine za rfl rfl ?_ | refine zb rfl ?_ | refine zc rfl ?_)
  exact T.ret Tryz.func171 rfl (fun w hA => ⟨(), rfl, trivial, hA⟩)
theorem unpackText (b cap : Nat) (B : Bs) (o : Nat) (s : Bs) (hs : s.length ≤ 255) (hB : B.length ≤ 1000000) (hcap : B.length ≤ cap) (hb : BytesAt (kn B H0) o (UInt8.ofNat s.length :: s)) :
    Ct (β := Unit) Tryz.prog 172 [msl b cap B, .int .i64 (o : Int)] [] (fun w => MB (view [] w) b B) (fun _ => .tuple #[str s, .int .i64 ((o + 1 + s.length : Nat) : Int), .nilIface]) (fun _ _ => True) (fun _ => []) := by
  intro w hS hr
  have b0 := byte_at hb (i := 0) rfl
  have l0 := lt_get b0
  have hl := BytesAt.len (K := kn B H0) hb (by simp)
  simp only [List.length_cons] at hl
  obtain ⟨_, hb1⟩ := BytesAt.cons.1 hb
  refine calls_of_T (m := 36) Tryz.func172 rfl rfl (by simp) hS ?_
  repeat (first | refine za rfl rfl ?_ | refine zb rfl ?_ | refine zc rfl ?_)
  refine T.condF rfl (by simp; omega) ?_
  repeat (first | refine za rfl rfl ?_ | refine zb rfl ?_ | refine zc rfl ?_)
  refine TL.ix (j := o) tbk rfl rfl rfl rfl rfl rfl l0 ?_
  refine TL.ldR (hr.byte b0) szk rfl rfl rfl rfl ?_
  repeat (first | refine za rfl rfl ?_ | refine zb rfl ?_ | refine zc rfl ?_)
  have e0 : (UInt8.ofNat s.length).toNat = s.length := by simp; omega
  rw [e0, nat_i64 (a := s.length) (by omega), add1_i64 (a := o) (by omega), add_i64 (a := o + 1) (b := s.length) (by omega)]
  refine T.condF rfl (by simp; omega) ?_
  repeat (first | refine za rfl rfl ?_ | refine zb rfl ?_ | refine zc rfl ?_)
  refine TL.sl (l := o + 1) (m := o + 1 + s.length) tbk rfl rfl rfl rfl (by exact ⟨_, rfl⟩) (by exact ⟨_, rfl⟩) (by omega) (by omega) (fun p hp _ => ?_)
  rw [show o + 1 + s.length - (o + 1) = s.length by omega]
  refine TL.y rfl rfl rfl (Y.b2s (s := s) Tryz.underlying37 Tryz.underlying5 Tryz.underlying9 rfl rfl (fun w hA => msg_part hr hb1 hp (by omega) hA.ext)) ?_
  repeat (first | refine za rfl rfl ?_ | refine zb rfl ?_ | refine zc rfl ?_)
  exact T.ret Tryz.func172 rfl (fun w hA => ⟨(), rfl, trivial, hA⟩)
end X
namespace X
theorem and_lo (m : Nat) (h : m < 64) : IntKind.i64.wrap ((BitVec.ofInt IntKind.i64.bits (m : Int) &&& BitVec.ofInt IntKind.i64.bits 192).toNat : Int) = 0 := by
  have key : ∀ m : Fin 64, IntKind.i64.wrap ((BitVec.ofInt IntKind.i64.bits ((m.val : Nat) : Int) &&& BitVec.ofInt IntKind.i64.bits 192).toNat : Int) = 0 := by decide
  exact key ⟨m, h⟩
theorem and_hi (m : Nat) (h : m < 64) : IntKind.i64.wrap ((BitVec.ofInt IntKind.i64.bits ((192 + m : Nat) : Int) &&& BitVec.ofInt IntKind.i64.bits 192).toNat : Int) = 192 := by
  have key : ∀ m : Fin 64, IntKind.i64.wrap ((BitVec.ofInt IntKind.i64.bits ((192 + m.val : Nat) : Int) &&& BitVec.ofInt IntKind.i64.bits 192).toNat : Int) = 192 := by decide
  exact key ⟨m, h⟩
theorem xor_hi (m : Nat) (h : m < 64) : IntKind.i64.wrap ((BitVec.ofInt IntKind.i64.bits ((192 + m : Nat) : Int) ^^^ BitVec.ofInt IntKind.i64.bits 192).toNat : Int) = (m : Int) := by
  have key : ∀ m : Fin 64, IntKind.i64.wrap ((BitVec.ofInt IntKind.i64.bits ((192 + m.val : Nat) : Int) ^^^ BitVec.ofInt IntKind.i64.bits 192).toNat : Int) = (m.val : Int) := by decide
  exact key ⟨m, h⟩
theorem wrap_or64 (a b : Nat) (ha : a < 4294967296) (hb : b < 4294967296) : IntKind.i64.wrap ((BitVec.ofInt IntKind.i64.bits (a : Int) ||| BitVec.ofInt IntKind.i64.bits (b : Int)).toNat : Int) = ((a ||| b : Nat) : Int) := by
  have e : (BitVec.ofInt IntKind.i64.bits (a : Int) ||| BitVec.ofInt IntKind.i64.bits (b : Int)).toNat = a ||| b := by
    rw [BitVec.toNat_or]
    simp [IntKind.bits]
    rw [Nat.mod_eq_of_lt (by omega), Nat.mod_eq_of_lt (by omega)]
  have hlt : a ||| b < 4294967296 := Nat.or_lt_two_pow (n := 32) ha hb
  rw [e, i64_in ((a ||| b : Nat) : Int) (by omega) (by omega)]
structure Ux where
  cur : Nat
  nm : Bs
  rest : Bs
  f : Nat
  c : Nat
  ptr : Nat
  off : Nat
structure Ux.ok (x : Ux) (B s : Bs) (c fin : Nat) : Prop where
  at_ : NameAt (kn B H0) x.cur x.rest x.f x.c
  eq : txt s = x.nm ++ x.rest
  cnt : x.ptr + x.c = c
  one : x.ptr = 0 → x.f = fin
  two : x.ptr ≠ 0 → x.off = fin
theorem NameAt.lt_len {B : Bs} {o : Nat} {s : Bs} {fin c : Nat} (h : NameAt (kn B H0) o s fin c) : o < B.length := by
  cases h with
  | root h => exact lt_get (kn_some h).2
  | lab h => exact lt_get (kn_some h).2
  | ptr h => exact lt_get (kn_some h).2
theorem NameAt.fin_le {B : Bs} {o : Nat} {s : Bs} {fin c : Nat} (h : NameAt (kn B H0) o s fin c) : fin ≤ B.length := by
  induction h with
  | root h => have := lt_get (kn_some h).2; omega
  | lab _ _ _ _ _ _ ih => exact ih
  | ptr _ h1 _ _ _ => have := lt_get (kn_some h1).2; omega
theorem splice_get_lo {cs l : List Value} {off i : Nat} (h : off + l.length ≤ cs.length) (hi : i < l.length) : nth (splice cs off l) (off + i) = nth l i := by
  rw [nth_eq, nth_eq, splice_get h, if_pos (by omega), Nat.add_sub_cancel_left]
theorem name_fin {cs : List Value} {no : Nat} {s : Bs} (hs : s.length ≤ 255) (hc : ∀ j v, nth zs256 j = some v → nth cs (no + j) = some v) (hl : no + 256 ≤ cs.length) :
    setN (splice cs no (s.map bv)) (no + 255) (.int .u8 (s.length : Int)) = splice cs no (nameCells s) := by
  have hnl := nameCells_length hs
  have h1 : (splice cs no (s.map bv)).length = cs.length := splice_length (by rw [List.length_map]; omega)
  apply List.ext_getElem?
  intro i
  rw [setN_eq, List.getElem?_set, h1, splice_get (by rw [List.length_map]; omega), splice_get (by omega), hnl, List.length_map]
  split
  · rename_i e
    subst e
    rw [if_pos (by omega), if_pos (by omega), Nat.add_sub_cancel_left]
    have := nameCells_len hs
    rw [nth_eq] at this; exact this.symm
  · rename_i e
    by_cases h2 : no ≤ i ∧ i < no + 256
    · rw [if_pos h2]
      by_cases h3 : i < no + s.length
      · rw [if_pos (by omega), nameCells, List.getElem?_append_left (by rw [List.length_map]; omega)]
      · rw [if_neg (by omega)]
        have hz := hc (i - no) (bv 0) (by rw [nth_eq]; exact zs256_get (by omega))
        rw [nth_eq, show no + (i - no) = i by omega] at hz
        rw [hz, nameCells, List.getElem?_append_right (by rw [List.length_map]; omega), List.length_map, List.getElem?_append_left (by rw [List.length_replicate]; omega), List.getElem?_replicate, if_pos (by omega)]
    · rw [if_neg h2, if_neg (by omega)]
theorem nameUnpack (nb no : Nat) (ncs : List Value) (nt : TypeId) (hz : ∀ j v, nth zs256 j = some v → nth ncs (no + j) = some v) (hnl : no + 256 ≤ ncs.length) (b cap : Nat) (B : Bs) (hB : B.length ≤ 1000000) (hcap : B.length ≤ cap)
    (o : Nat) (s : Bs) (hs : NmOk s) (fin : Nat) (hn : NmAt (kn B H0) o s fin) :
    Ct (β := Unit) Tryz.prog 150 [ptr nb no, msl b cap B, .int .i64 (o : Int)] [(nb, .row ncs nt)] (fun w => MB (view [nb] w) b B) (fun _ => .tuple #[.int .i64 (fin : Int), .nilIface]) (fun _ _ => True) (fun _ => [(nb, .row (splice ncs no (nameCells s)) nt)]) := by
  intro w hS hr
  obtain ⟨c, hn, hc10⟩ := hn
  have htl : (txt s).length ≤ 254 := by
    unfold txt; split
    · simp
    · have := hs.len; omega
  refine calls_of_T (m := 131) Tryz.func150 rfl rfl (by simp) hS ?_
  repeat (first | refine TL.p tbk rfl ?_ | refine TL.nil ?_ | refine T.seq ?_ | refine T.region ?_ | refine T.skip ?_ | refine T.scope ?_ | refine T.inScope ?_ | refine T.label ?_ | refine T.block ?_ | refine T.inBlock ?_ | refine T.exit rfl ?_)
  refine TL.y rfl rfl rfl (Y.slA2 (l := 0) (m := 0) tbk rfl rfl rfl (by exact ⟨_, rfl⟩) (Nat.le_refl _) (Nat.zero_le _)) ?_
  rw [show (if (255 : Nat) = 0 then (⟨nb, no + 0, none⟩ : Addr) else ⟨nb, no + 0 + 0 * 1, none⟩) = ⟨nb, no + 0, none⟩ from rfl, Nat.sub_zero, Nat.sub_zero]
  repeat (first | refine TL.p tbk rfl ?_ | refine TL.nil ?_ | refine T.seq ?_ | refine T.region ?_ | refine T.skip ?_ | refine T.scope ?_ | refine T.inScope ?_ | refine T.label ?_ | refine T.block ?_ | refine T.inBlock ?_ | refine T.exit rfl ?_)
  refine T.loop (α := Ux) (fun x => [(0, ptr nb no), (1, msl b cap B), (8, .int .i64 (x.cur : Int)), (9, .int .i64 (x.off : Int)), (10, .int .i64 (x.ptr : Int)), (11, .slice (some ⟨nb, no + 0, none⟩) x.nm.length 255)])
    (fun x w' => x.ok B s c fin ∧ St (keys [(nb, .row ncs nt)]) w [(nb, .row (splice ncs no (x.nm.map bv)) nt)] w') (fun x => x.rest.length + x.c) ⟨o, [], txt s, fin, c, 0, o⟩ ⟨rfl, rfl, rfl, rfl, rfl, rfl, trivial⟩
    (fun w' hA => ⟨⟨hn, rfl, Nat.zero_add _, fun _ => rfl, fun h => (h rfl).elim⟩, by simpa [splice] using hA⟩) ?_
  rintro ⟨cur, nm, rest, f, cc, pt, off⟩ ih
  refine T.and fun ⟨hat, heq, hcnt, hone, htwo⟩ => ?_
  simp only at hat heq hcnt hone htwo
  have hcl := hat.lt_len
  have hfl := hat.fin_le
  have hnml : nm.length + rest.length ≤ 254 := by rw [heq, List.length_append] at htl; exact htl
  repeat (first | refine TL.p tbk rfl ?_ | refine TL.nil ?_ | refine T.seq ?_ | refine T.region ?_ | refine T.skip ?_ | refine T.scope ?_ | refine T.inScope ?_ | refine T.label ?_ | refine T.block ?_ | refine T.inBlock ?_ | refine T.exit rfl ?_)
  refine T.condF rfl (by simp; omega) ?_
  repeat (first | refine TL.p tbk rfl ?_ | refine TL.nil ?_ | refine T.seq ?_ | refine T.region ?_ | refine T.skip ?_ | refine T.scope ?_ | refine T.inScope ?_ | refine T.label ?_ | refine T.block ?_ | refine T.inBlock ?_ | refine T.exit rfl ?_)
  have step : ∀ (x : UInt8) (n : Nat), x.toNat = n → n < 256 → IntKind.i64.wrap ((x.toNat : Nat) : Int) = (n : Int) := fun x n hx hn => by rw [nat_i64 (a := x.toNat) (by omega), hx]
  cases hat with
  | root h0 =>
    have b0 := (kn_some h0).2
    refine TL.ix (j := cur) tbk rfl rfl rfl rfl rfl rfl hcl ?_
    refine TL.ldR (hr.byte b0) szk rfl rfl rfl rfl ?_
    refine TL.p tbk rfl ?_
    rw [step 0 0 rfl (by decide)]
    repeat (first | refine TL.p tbk rfl ?_ | refine TL.nil ?_ | refine T.seq ?_ | refine T.region ?_ | refine T.skip ?_ | refine T.scope ?_ | refine T.inScope ?_ | refine T.label ?_ | refine T.block ?_ | refine T.inBlock ?_ | refine T.exit rfl ?_)
    rw [add1_i64 (a := cur) (by omega), and_lo 0 (by decide)]
    refine T.condT rfl rfl ?_
    repeat (first | refine TL.p tbk rfl ?_ | refine TL.nil ?_ | refine T.seq ?_ | refine T.region ?_ | refine T.skip ?_ | refine T.scope ?_ | refine T.inScope ?_ | refine T.label ?_ | refine T.block ?_ | refine T.inBlock ?_ | refine T.exit rfl ?_)
    refine T.condT rfl rfl ?_
    rw [List.append_nil] at heq
    repeat (first | refine TL.p tbk rfl ?_ | refine TL.nil ?_ | refine T.seq ?_ | refine T.region ?_ | refine T.skip ?_ | refine T.scope ?_ | refine T.inScope ?_ | refine T.label ?_ | refine T.block ?_ | refine T.inBlock ?_ | refine T.exit rfl ?_)
    have hfin : fin = if pt = 0 then cur + 1 else off := by
      split
      · rename_i e; exact (hone e).symm
      · rename_i e; exact (htwo e).symm
    have hslen := hs.len
    have h255 : s.length ≤ 255 := by omega
    by_cases hnm : nm.length = 0
    · refine T.condT rfl (eq0T hnm) ?_
      have hnm' : nm = [] := List.length_eq_zero_iff.1 hnm
      have hs46 : s = [46] := by
        unfold txt at heq
        split at heq
        · assumption
        · rw [hnm'] at heq; rw [heq] at hslen; simp at hslen
      subst hs46 hnm'
      repeat (first | refine TL.p tbk rfl ?_ | refine TL.nil ?_ | refine T.seq ?_ | refine T.region ?_ | refine T.skip ?_ | refine T.scope ?_ | refine T.inScope ?_ | refine T.label ?_ | refine T.block ?_ | refine T.inBlock ?_ | refine T.exit rfl ?_)
      refine TL.bs el37 rfl rfl (by intro v hv; simp at hv; rcases hv with rfl; rfl) (by simp) rfl rfl (fun b1 => ?_)
      refine TL.appendIn (news := [bv 46]) (m := 1) 1 el37 sl37 rfl rfl rfl rfl rfl (src_block (i := 0) (E := [46]) rfl rfl) (by simp) (by rw [splice_length (by simp; omega)]; simp; omega) ?_
      have hs2 := splice_splice (cs := ncs) (off := no) (a := []) (b := [bv 46]) (by simp; omega)
      simp only [List.length_nil, Nat.add_zero, List.nil_append] at hs2
      simp only [setN, List.map_nil, List.length_nil, Nat.add_zero]
      rw [hs2]
      refine TL.mono (fun w' hA => hA.sub (M' := [(nb, .row (splice ncs no [bv 46]) nt)]) (List.Sublist.cons _ (List.Sublist.refl _))) ?_
      repeat (first | refine TL.p tbk rfl ?_ | refine TL.nil ?_ | refine T.seq ?_ | refine T.region ?_ | refine T.skip ?_ | refine T.scope ?_ | refine T.inScope ?_ | refine T.label ?_ | refine T.block ?_ | refine T.inBlock ?_ | refine T.exit rfl ?_)
      rw [show ((0 + 1 : Nat) : Int) = ((([46] : Bs).length : Nat) : Int) from rfl, u8_in ((([46] : Bs).length : Nat) : Int) (by decide) (by decide)]
      refine TL.st 0 szk rfl rfl rfl rfl rfl ?_ ?_
      · rw [Nat.blt_eq, splice_length (by simp; omega)]; omega
      simp only [setN]
      rw [show [bv 46] = ([46] : Bs).map bv from rfl, name_fin h255 hz hnl]
      repeat (first | refine TL.p tbk rfl ?_ | refine TL.nil ?_ | refine T.seq ?_ | refine T.region ?_ | refine T.skip ?_ | refine T.scope ?_ | refine T.inScope ?_ | refine T.label ?_ | refine T.block ?_ | refine T.inBlock ?_ | refine T.exit rfl ?_)
      by_cases hp0 : pt = 0
      · refine T.condT rfl (eq0T hp0) ?_
        repeat (first | refine TL.p tbk rfl ?_ | refine TL.nil ?_ | refine T.seq ?_ | refine T.region ?_ | refine T.skip ?_ | refine T.scope ?_ | refine T.inScope ?_ | refine T.label ?_ | refine T.block ?_ | refine T.inBlock ?_ | refine T.exit rfl ?_)
        exact T.ret Tryz.func150 rfl (fun w hA => ⟨(), by rw [hfin, if_pos hp0]; rfl, trivial, hA⟩)
      · refine T.condF rfl (eq0F hp0) ?_
        repeat (first | refine TL.p tbk rfl ?_ | refine TL.nil ?_ | refine T.seq ?_ | refine T.region ?_ | refine T.skip ?_ | refine T.scope ?_ | refine T.inScope ?_ | refine T.label ?_ | refine T.block ?_ | refine T.inBlock ?_ | refine T.exit rfl ?_)
        exact T.ret Tryz.func150 rfl (fun w hA => ⟨(), by rw [hfin, if_neg hp0]; rfl, trivial, hA⟩)
    · refine T.condF rfl (eq0F hnm) ?_
      have hsnm : nm = s := by
        unfold txt at heq
        split at heq
        · rw [← heq] at hnm; exact absurd rfl hnm
        · exact heq.symm
      subst hsnm
      repeat (first | refine TL.p tbk rfl ?_ | refine TL.nil ?_ | refine T.seq ?_ | refine T.region ?_ | refine T.skip ?_ | refine T.scope ?_ | refine T.inScope ?_ | refine T.label ?_ | refine T.block ?_ | refine T.inBlock ?_ | refine T.exit rfl ?_)
      rw [u8_in ((nm.length : Nat) : Int) (by omega) (by omega)]
      refine TL.st 0 szk rfl rfl rfl rfl rfl ?_ ?_
      · rw [Nat.blt_eq, splice_length (by simp only [List.length_map]; omega)]; omega
      simp only [setN]
      rw [name_fin h255 hz hnl]
      repeat (first | refine TL.p tbk rfl ?_ | refine TL.nil ?_ | refine T.seq ?_ | refine T.region ?_ | refine T.skip ?_ | refine T.scope ?_ | refine T.inScope ?_ | refine T.label ?_ | refine T.block ?_ | refine T.inBlock ?_ | refine T.exit rfl ?_)
      by_cases hp0 : pt = 0
      · refine T.condT rfl (eq0T hp0) ?_
        repeat (first | refine TL.p tbk rfl ?_ | refine TL.nil ?_ | refine T.seq ?_ | refine T.region ?_ | refine T.skip ?_ | refine T.scope ?_ | refine T.inScope ?_ | refine T.label ?_ | refine T.block ?_ | refine T.inBlock ?_ | refine T.exit rfl ?_)
        exact T.ret Tryz.func150 rfl (fun w hA => ⟨(), by rw [hfin, if_pos hp0]; rfl, trivial, hA⟩)
      · refine T.condF rfl (eq0F hp0) ?_
        repeat (first | refine TL.p tbk rfl ?_ | refine TL.nil ?_ | refine T.seq ?_ | refine T.region ?_ | refine T.skip ?_ | refine T.scope ?_ | refine T.inScope ?_ | refine T.label ?_ | refine T.block ?_ | refine T.inBlock ?_ | refine T.exit rfl ?_)
        exact T.ret Tryz.func150 rfl (fun w hA => ⟨(), by rw [hfin, if_neg hp0]; rfl, trivial, hA⟩)
  | @lab _ _ _ l s' h0 h1 h2 h3 h4 h5 =>
    have b0 := (kn_some h0).2
    have hl4 := BytesAt.len (K := kn B H0) h4 (by intro e; rw [e] at h1; exact absurd h1 (by decide))
    rw [List.length_append, List.length_cons] at hnml
    refine TL.ix (j := cur) tbk rfl rfl rfl rfl rfl rfl hcl ?_
    refine TL.ldR (hr.byte b0) szk rfl rfl rfl rfl ?_
    refine TL.p tbk rfl ?_
    rw [step (UInt8.ofNat l.length) l.length (by simp; omega) (by omega)]
    repeat (first | refine TL.p tbk rfl ?_ | refine TL.nil ?_ | refine T.seq ?_ | refine T.region ?_ | refine T.skip ?_ | refine T.scope ?_ | refine T.inScope ?_ | refine T.label ?_ | refine T.block ?_ | refine T.inBlock ?_ | refine T.exit rfl ?_)
    rw [add1_i64 (a := cur) (by omega), and_lo l.length h2]
    refine T.condT rfl rfl ?_
    repeat (first | refine TL.p tbk rfl ?_ | refine TL.nil ?_ | refine T.seq ?_ | refine T.region ?_ | refine T.skip ?_ | refine T.scope ?_ | refine T.inScope ?_ | refine T.label ?_ | refine T.block ?_ | refine T.inBlock ?_ | refine T.exit rfl ?_)
    refine T.condF rfl (eq0F (by omega)) ?_
    repeat (first | refine TL.p tbk rfl ?_ | refine TL.nil ?_ | refine T.seq ?_ | refine T.region ?_ | refine T.skip ?_ | refine T.scope ?_ | refine T.inScope ?_ | refine T.label ?_ | refine T.block ?_ | refine T.inBlock ?_ | refine T.exit rfl ?_)
    rw [add_i64 (a := cur + 1) (b := l.length) (by omega)]
    refine T.condF rfl (by simp; omega) ?_
    repeat (first | refine TL.p tbk rfl ?_ | refine TL.nil ?_ | refine T.seq ?_ | refine T.region ?_ | refine T.skip ?_ | refine T.scope ?_ | refine T.inScope ?_ | refine T.label ?_ | refine T.block ?_ | refine T.inBlock ?_ | refine T.exit rfl ?_)
    refine TL.sl (l := cur + 1) (m := cur + 1 + l.length) tbk rfl rfl rfl rfl (by exact ⟨_, rfl⟩) (by exact ⟨_, rfl⟩) (by omega) (by omega) (fun p hp _ => ?_)
    rw [show cur + 1 + l.length - (cur + 1) = l.length by omega]
    rw [hp (by omega)]
    repeat (first | refine TL.p tbk rfl ?_ | refine TL.nil ?_ | refine T.seq ?_ | refine T.region ?_ | refine T.skip ?_ | refine T.scope ?_ | refine T.inScope ?_ | refine T.label ?_ | refine T.block ?_ | refine T.inBlock ?_ | refine T.exit rfl ?_)
    refine T.loop (α := Nat) (fun j => [(0, ptr nb no), (1, msl b cap B), (8, .int .i64 ((cur + 1 : Nat) : Int)), (9, .int .i64 (off : Int)), (10, .int .i64 (pt : Int)), (11, .slice (some ⟨nb, no + 0, none⟩) nm.length 255), (13, .int .i64 ((cur + 1 + l.length : Nat) : Int)), (56, .slice (some ⟨b, 0 + (cur + 1) * 1, none⟩) l.length (cap - (cur + 1))), (57, .int .i64 (l.length : Int)), (58, .int .i64 (j : Int))])
      (fun j w' => St (keys [(nb, .row ncs nt)]) w [(nb, .row (splice ncs no (nm.map bv)) nt)] w') (fun j => l.length - j) 0 ⟨rfl, rfl, rfl, rfl, rfl, rfl, rfl, rfl, rfl, rfl, trivial⟩ (fun w' hA => hA) ?_
    intro j ih2
    repeat (first | refine TL.p tbk rfl ?_ | refine TL.nil ?_ | refine T.seq ?_ | refine T.region ?_ | refine T.skip ?_ | refine T.scope ?_ | refine T.inScope ?_ | refine T.label ?_ | refine T.block ?_ | refine T.inBlock ?_ | refine T.exit rfl ?_)
    by_cases hjl : j < l.length
    · refine T.condT rfl (by simpa using hjl) ?_
      obtain ⟨d, hd⟩ : ∃ d, l[j]? = some d := ⟨l[j], by simp [hjl]⟩
      repeat (first | refine TL.p tbk rfl ?_ | refine TL.nil ?_ | refine T.seq ?_ | refine T.region ?_ | refine T.skip ?_ | refine T.scope ?_ | refine T.inScope ?_ | refine T.label ?_ | refine T.block ?_ | refine T.inBlock ?_ | refine T.exit rfl ?_)
      refine TL.ix (j := j) tbk rfl rfl rfl rfl rfl rfl hjl ?_
      refine TL.ldR (v := bv d) (by have := hr.byte (byte_at h4 hd); rw [show 0 + (cur + 1 + j) * 1 = 0 + (cur + 1) * 1 + j * 1 by omega] at this; exact this) szk rfl rfl rfl rfl ?_
      repeat (first | refine TL.p tbk rfl ?_ | refine TL.nil ?_ | refine T.seq ?_ | refine T.region ?_ | refine T.skip ?_ | refine T.scope ?_ | refine T.inScope ?_ | refine T.label ?_ | refine T.block ?_ | refine T.inBlock ?_ | refine T.exit rfl ?_)
      refine T.condF rfl (blt_of d (h3 d (List.mem_of_getElem? hd))) ?_
      repeat (first | refine TL.p tbk rfl ?_ | refine TL.nil ?_ | refine T.seq ?_ | refine T.region ?_ | refine T.skip ?_ | refine T.scope ?_ | refine T.inScope ?_ | refine T.label ?_ | refine T.block ?_ | refine T.inBlock ?_ | refine T.exit rfl ?_)
      rw [add1_i64 (a := j) (by omega)]
      exact T.again ih2 (j + 1) (by omega) ⟨rfl, rfl, rfl, rfl, rfl, rfl, rfl, rfl, rfl, rfl, trivial⟩ (fun w' hA => hA)
    refine T.condF rfl (by simpa using hjl) ?_
    clear ih2 hjl
    repeat (first | refine TL.p tbk rfl ?_ | refine TL.nil ?_ | refine T.seq ?_ | refine T.region ?_ | refine T.skip ?_ | refine T.scope ?_ | refine T.inScope ?_ | refine T.label ?_ | refine T.block ?_ | refine T.inBlock ?_ | refine T.exit rfl ?_)
    rw [sub_i64 (a := cur + 1 + l.length) (b := cur + 1) (by omega) (by omega), show cur + 1 + l.length - (cur + 1) = l.length by omega, add_i64 (a := nm.length) (b := l.length) (by omega)]
    refine T.condF rfl (by simp; omega) ?_
    repeat (first | refine TL.p tbk rfl ?_ | refine TL.nil ?_ | refine T.seq ?_ | refine T.region ?_ | refine T.skip ?_ | refine T.scope ?_ | refine T.inScope ?_ | refine T.label ?_ | refine T.block ?_ | refine T.inBlock ?_ | refine T.exit rfl ?_)
    refine TL.sl (l := cur + 1) (m := cur + 1 + l.length) tbk rfl rfl rfl rfl (by exact ⟨_, rfl⟩) (by exact ⟨_, rfl⟩) (by omega) (by omega) (fun p hp _ => ?_)
    rw [show cur + 1 + l.length - (cur + 1) = l.length by omega]
    have hsp : (splice ncs no (nm.map bv)).length = ncs.length := splice_length (by rw [List.length_map]; omega)
    refine TL.appendIn (news := l.map bv) (m := l.length) 0 el37 sl37 rfl rfl rfl rfl rfl (Src.slice (fun w' hA => msg_part hr h4 hp (by omega) hA.ext) (by simp) (bytes_one _)) (by omega) (by rw [hsp]; omega) ?_
    have hs1 := splice_splice (cs := ncs) (off := no) (a := nm.map bv) (b := l.map bv) (by simp; omega)
    rw [List.length_map] at hs1
    rw [Nat.add_zero, hs1, ← List.map_append]
    repeat (first | refine TL.p tbk rfl ?_ | refine TL.nil ?_ | refine T.seq ?_ | refine T.region ?_ | refine T.skip ?_ | refine T.scope ?_ | refine T.inScope ?_ | refine T.label ?_ | refine T.block ?_ | refine T.inBlock ?_ | refine T.exit rfl ?_)
    refine TL.bs el37 rfl rfl (by intro v hv; simp at hv; rcases hv with rfl; rfl) (by simp) rfl rfl (fun b1 => ?_)
    have hsp2 : (splice ncs no ((nm ++ l).map bv)).length = ncs.length := splice_length (by simp; omega)
    refine TL.appendIn (news := [bv 46]) (m := 1) 1 el37 sl37 rfl rfl rfl rfl rfl (src_block (i := 0) (E := [46]) rfl rfl) (by omega) (by rw [hsp2]; omega) ?_
    have hs2 := splice_splice (cs := ncs) (off := no) (a := (nm ++ l).map bv) (b := [bv 46]) (by simp; omega)
    rw [List.length_map, List.length_append, show no + (nm.length + l.length) = no + (nm.length + l.length) from rfl] at hs2
    rw [hs2]
    repeat (first | refine TL.p tbk rfl ?_ | refine TL.nil ?_ | refine T.seq ?_ | refine T.region ?_ | refine T.skip ?_ | refine T.scope ?_ | refine T.inScope ?_ | refine T.label ?_ | refine T.block ?_ | refine T.inBlock ?_ | refine T.exit rfl ?_)
    refine T.again ih ⟨cur + 1 + l.length, nm ++ (l ++ [46]), s', f, cc, pt, off⟩ (by simp; omega) ⟨rfl, rfl, rfl, rfl, rfl, ?_, trivial⟩ (fun w' hA => ⟨⟨h5, by rw [heq]; simp, hcnt, hone, htwo⟩, ?_⟩)
    · simp only [look, List.length_append, List.length_singleton]
      rw [show nm.length + (l.length + 1) = nm.length + l.length + 1 by omega]; rfl
    · have e : (nm ++ l).map bv ++ [bv 46] = (nm ++ (l ++ [46])).map bv := by simp
      rw [← e]
      exact hA.sub (List.Sublist.cons _ (List.Sublist.refl _))
  | @ptr _ p f' c' _ h0 h1 h2 h3 =>
    have b0 := (kn_some h0).2
    have b1 := (kn_some h1).2
    have l1 := lt_get b1
    refine TL.ix (j := cur) tbk rfl rfl rfl rfl rfl rfl hcl ?_
    refine TL.ldR (hr.byte b0) szk rfl rfl rfl rfl ?_
    refine TL.p tbk rfl ?_
    rw [step (UInt8.ofNat (192 + p / 256)) (192 + p / 256) (by simp; omega) (by omega)]
    repeat (first | refine TL.p tbk rfl ?_ | refine TL.nil ?_ | refine T.seq ?_ | refine T.region ?_ | refine T.skip ?_ | refine T.scope ?_ | refine T.inScope ?_ | refine T.label ?_ | refine T.block ?_ | refine T.inBlock ?_ | refine T.exit rfl ?_)
    rw [add1_i64 (a := cur) (by omega), and_hi (p / 256) (by omega)]
    refine T.condF rfl rfl ?_
    repeat (first | refine TL.p tbk rfl ?_ | refine TL.nil ?_ | refine T.seq ?_ | refine T.region ?_ | refine T.skip ?_ | refine T.scope ?_ | refine T.inScope ?_ | refine T.label ?_ | refine T.block ?_ | refine T.inBlock ?_ | refine T.exit rfl ?_)
    refine T.condT rfl rfl ?_
    repeat (first | refine TL.p tbk rfl ?_ | refine TL.nil ?_ | refine T.seq ?_ | refine T.region ?_ | refine T.skip ?_ | refine T.scope ?_ | refine T.inScope ?_ | refine T.label ?_ | refine T.block ?_ | refine T.inBlock ?_ | refine T.exit rfl ?_)
    refine T.condF rfl (by simp; omega) ?_
    repeat (first | refine TL.p tbk rfl ?_ | refine TL.nil ?_ | refine T.seq ?_ | refine T.region ?_ | refine T.skip ?_ | refine T.scope ?_ | refine T.inScope ?_ | refine T.label ?_ | refine T.block ?_ | refine T.inBlock ?_ | refine T.exit rfl ?_)
    refine TL.ix (j := cur + 1) tbk rfl rfl rfl rfl rfl rfl l1 ?_
    refine TL.ldR (hr.byte b1) szk rfl rfl rfl rfl ?_
    repeat (first | refine TL.p tbk rfl ?_ | refine TL.nil ?_ | refine T.seq ?_ | refine T.region ?_ | refine T.skip ?_ | refine T.scope ?_ | refine T.inScope ?_ | refine T.label ?_ | refine T.block ?_ | refine T.inBlock ?_ | refine T.exit rfl ?_)
    rw [add1_i64 (a := cur + 1) (by omega)]
    have hp256 : (UInt8.ofNat p).toNat = p % 256 := by simp
    by_cases hp0 : pt = 0
    · refine T.condT rfl (eq0T hp0) ?_
      repeat (first | refine TL.p tbk rfl ?_ | refine TL.nil ?_ | refine T.seq ?_ | refine T.region ?_ | refine T.skip ?_ | refine T.scope ?_ | refine T.inScope ?_ | refine T.label ?_ | refine T.block ?_ | refine T.inBlock ?_ | refine T.exit rfl ?_)
      rw [add1_i64 (a := pt) (by omega)]
      refine T.condF rfl (by simp; omega) ?_
      repeat (first | refine TL.p tbk rfl ?_ | refine TL.nil ?_ | refine T.seq ?_ | refine T.region ?_ | refine T.skip ?_ | refine T.scope ?_ | refine T.inScope ?_ | refine T.label ?_ | refine T.block ?_ | refine T.inBlock ?_ | refine T.exit rfl ?_)
      rw [xor_hi (p / 256) (by omega)]
      rw [show (((p / 256 : Nat) : Int) * 2 ^ min 8 IntKind.i64.bits) = ((p / 256 * 256 : Nat) : Int) by simp [IntKind.bits], i64_in ((p / 256 * 256 : Nat) : Int) (by omega) (by omega), step (UInt8.ofNat p) (p % 256) hp256 (by omega), wrap_or64 _ _ (by omega) (by omega)]
      rw [show (p / 256 * 256 ||| p % 256) = p by have := or_add 8 (p / 256) (p % 256) (by omega); rw [show 2 ^ 8 * (p / 256) = p / 256 * 256 by omega] at this; rw [this]; omega]
      refine T.again ih ⟨p, nm, rest, f', c', pt + 1, cur + 2⟩ (by simp) ⟨rfl, rfl, rfl, rfl, rfl, rfl, trivial⟩ (fun w' hA => ⟨⟨h3, heq, by simp only; omega, fun h => (by simp at h), fun _ => ?_⟩, hA⟩)
      exact hone hp0
    · refine T.condF rfl (eq0F hp0) ?_
      repeat (first | refine TL.p tbk rfl ?_ | refine TL.nil ?_ | refine T.seq ?_ | refine T.region ?_ | refine T.skip ?_ | refine T.scope ?_ | refine T.inScope ?_ | refine T.label ?_ | refine T.block ?_ | refine T.inBlock ?_ | refine T.exit rfl ?_)
      rw [add1_i64 (a := pt) (by omega)]
      refine T.condF rfl (by simp; omega) ?_
      repeat (first | refine TL.p tbk rfl ?_ | refine TL.nil ?_ | refine T.seq ?_ | refine T.region ?_ | refine T.skip ?_ | refine T.scope ?_ | refine T.inScope ?_ | refine T.label ?_ | refine T.block ?_ | refine T.inBlock ?_ | refine T.exit rfl ?_)
      rw [xor_hi (p / 256) (by omega)]
      rw [show (((p / 256 : Nat) : Int) * 2 ^ min 8 IntKind.i64.bits) = ((p / 256 * 256 : Nat) : Int) by simp [IntKind.bits], i64_in ((p / 256 * 256 : Nat) : Int) (by omega) (by omega), step (UInt8.ofNat p) (p % 256) hp256 (by omega), wrap_or64 _ _ (by omega) (by omega)]
      rw [show (p / 256 * 256 ||| p % 256) = p by have := or_add 8 (p / 256) (p % 256) (by omega); rw [show 2 ^ 8 * (p / 256) = p / 256 * 256 by omega] at this; rw [this]; omega]
      refine T.again ih ⟨p, nm, rest, f', c', pt + 1, off⟩ (by simp) ⟨rfl, rfl, rfl, rfl, rfl, rfl, trivial⟩ (fun w' hA => ⟨⟨h3, heq, by simp only; omega, fun h => (by simp at h), fun _ => ?_⟩, hA⟩)
      exact htwo hp0
end X
namespace X
section
variable {P : Program} {n : Nat} {L : Fr} {A : World → Prop}
/-- An interface value that holds a pointer is the same as itself. -/
def EqSelf (P : Program) (t : TypeId) (u : TypeId) (v : Value) : Prop := ∀ w, (Op.equal t (.iface u v) (.iface u v)).run P w = .ok true w
theorem Y.eqG {t yt : TypeId} {x y : Operand} {u : TypeId} {v : Value} {ty : TypeId} {pos : String} {af : Array Edge} {g : Option (Nat × Bool)} (he : EqSelf P t u v) (hx : ev L x = some (.iface u v)) (hy : ev L y = some (.iface u v)) {d : Option Tmp} :
    Y P n L A ⟨d, .binOp .eql t x y yt, ty, pos, af, g⟩ (.bool true) := by
  intro a w ha _
  simp only [execOp, ev_ok ha hx, ev_ok ha hy, Sem.run_bind, guard_1, Result.andThen_ok, binOp, he w, Sem.run_pure]
end
def Glob7 (h : View) : Prop := Glob h ∧ ∃ u v, RowAt h 5 0 [.iface u v] ∧ EqSelf Tryz.prog 82 u v
theorem Glob7.six {h : View} (k : Glob7 h) : Glob6 h := let ⟨a, u, v, r, _⟩ := k; ⟨a, u, v, r⟩
def pC (mv_ : Value) (h : Bh) (sec off idx : Nat) (vl : Bool) (ro rt rl : Nat) : List Value := [mv_, .int .u16 (h.id : Int), .int .u16 (h.bits : Int), .int .u16 (h.n1 : Int), .int .u16 (h.n2 : Int), .int .u16 (h.n3 : Int), .int .u16 (h.n4 : Int), .int .u8 (sec : Int), .int .i64 (off : Int), .int .i64 (idx : Int), .bool vl, .int .i64 (ro : Int), .int .u16 (rt : Int), .int .u16 (rl : Int)]
structure Bh.Ok (h : Bh) : Prop where
  id : h.id < 65536
  bits : h.bits < 65536
  n1 : h.n1 < 65536
  n2 : h.n2 < 65536
  n3 : h.n3 < 65536
  n4 : h.n4 < 65536
theorem hUnpack (pb b cap : Nat) (B : Bs) (h : Bh) (hh : h.Ok) (hB : B.length ≤ 1000000) (hb : BytesAt (kn B H0) 0 (hdB h)) :
    Ct (β := Unit) Tryz.prog 136 [ptr pb (0 + 1), msl b cap B, .int .i64 0] [(pb, .row (pC (msl b cap B) hB0 0 0 0 false 0 0 0) 191)] (fun w => MB (view [pb] w) b B) (fun _ => .tuple #[.int .i64 12, .nilIface]) (fun _ _ => True) (fun _ => [(pb, .row (pC (msl b cap B) h 0 0 0 false 0 0 0) 191)]) := by
  intro w hS hr
  have h0 := BytesAt.append.1 hb
  have h1 := BytesAt.append.1 h0.2
  have h2 := BytesAt.append.1 h1.2
  have h3 := BytesAt.append.1 h2.2
  have h4 := BytesAt.append.1 h3.2
  simp only [w2_length] at h0 h1 h2 h3 h4
  refine calls_of_T (m := 114) Tryz.func136 rfl rfl (by simp) hS ?_
  repeat (first | refine za rfl rfl ?_ | refine zb rfl ?_ | refine zc rfl ?_)
  refine TL.call0 Tryz.call148 rfl rfl rfl (unpack16 b cap B 0 h.id hh.id hB h0.1) (fun w' hA => hr.mono (st_viewLe hA (Mc := []) fun _ hp => by cases hp)) (fun _ => TL.and fun _ => ?_)
  repeat (first | refine za rfl rfl ?_ | refine zb rfl ?_ | refine zc rfl ?_)
  refine TL.st 0 szk rfl rfl rfl rfl rfl rfl ?_
  repeat (first | refine za rfl rfl ?_ | refine zb rfl ?_ | refine zc rfl ?_)
  refine T.condF rfl rfl ?_
  repeat (first | refine za rfl rfl ?_ | refine zb rfl ?_ | refine zc rfl ?_)
  refine TL.call0 Tryz.call148 rfl rfl rfl (unpack16 b cap B 2 h.bits hh.bits hB h1.1) (fun w' hA => hr.mono (st_viewLe hA (Mc := []) fun _ hp => by cases hp)) (fun _ => TL.and fun _ => ?_)
  repeat (first | refine za rfl rfl ?_ | refine zb rfl ?_ | refine zc rfl ?_)
  refine TL.st 0 szk rfl rfl rfl rfl rfl rfl ?_
  repeat (first | refine za rfl rfl ?_ | refine zb rfl ?_ | refine zc rfl ?_)
  refine T.condF rfl rfl ?_
  repeat (first | refine za rfl rfl ?_ | refine zb rfl ?_ | refine zc rfl ?_)
  refine TL.call0 Tryz.call148 rfl rfl rfl (unpack16 b cap B 4 h.n1 hh.n1 hB h2.1) (fun w' hA => hr.mono (st_viewLe hA (Mc := []) fun _ hp => by cases hp)) (fun _ => TL.and fun _ => ?_)
  repeat (first | refine za rfl rfl ?_ | refine zb rfl ?_ | refine zc rfl ?_)
  refine TL.st 0 szk rfl rfl rfl rfl rfl rfl ?_
  repeat (first | refine za rfl rfl ?_ | refine zb rfl ?_ | refine zc rfl ?_)
  refine T.condF rfl rfl ?_
  repeat (first | refine za rfl rfl ?_ | refine zb rfl ?_ | refine zc rfl ?_)
  refine TL.call0 Tryz.call148 rfl rfl rfl (unpack16 b cap B 6 h.n2 hh.n2 hB h3.1) (fun w' hA => hr.mono (st_viewLe hA (Mc := []) fun _ hp => by cases hp)) (fun _ => TL.and fun _ => ?_)
  repeat (first | refine za rfl rfl ?_ | refine zb rfl ?_ | refine zc rfl ?_)
  refine TL.st 0 szk rfl rfl rfl rfl rfl rfl ?_
  repeat (first | refine za rfl rfl ?_ | refine zb rfl ?_ | refine zc rfl ?_)
  refine T.condF rfl rfl ?_
  repeat (first | refine za rfl rfl ?_ | refine zb rfl ?_ | refine zc rfl ?_)
  refine TL.call0 Tryz.call148 rfl rfl rfl (unpack16 b cap B 8 h.n3 hh.n3 hB h4.1) (fun w' hA => hr.mono (st_viewLe hA (Mc := []) fun _ hp => by cases hp)) (fun _ => TL.and fun _ => ?_)
  repeat (first | refine za rfl rfl ?_ | refine zb rfl ?_ | refine zc rfl ?_)
  refine TL.st 0 szk rfl rfl rfl rfl rfl rfl ?_
  repeat (first | refine za rfl rfl ?_ | refine zb rfl ?_ | refine zc rfl ?_)
  refine T.condF rfl rfl ?_
  repeat (first | refine za rfl rfl ?_ | refine zb rfl ?_ | refine zc rfl ?_)
  refine TL.call0 Tryz.call148 rfl rfl rfl (unpack16 b cap B 10 h.n4 hh.n4 hB h4.2) (fun w' hA => hr.mono (st_viewLe hA (Mc := []) fun _ hp => by cases hp)) (fun _ => TL.and fun _ => ?_)
  repeat (first | refine za rfl rfl ?_ | refine zb rfl ?_ | refine zc rfl ?_)
  refine TL.st 0 szk rfl rfl rfl rfl rfl rfl ?_
  repeat (first | refine za rfl rfl ?_ | refine zb rfl ?_ | refine zc rfl ?_)
  refine T.condF rfl rfl ?_
  repeat (first | refine za rfl rfl ?_ | refine zb rfl ?_ | refine zc rfl ?_)
  exact T.ret Tryz.func136 rfl (fun w hA => ⟨(), rfl, trivial, hA⟩)
theorem wrap_and (a n : Nat) (ha : a < 65536) (hn : n < 65536) : IntKind.u16.wrap ((BitVec.ofInt IntKind.u16.bits (a : Int) &&& BitVec.ofInt IntKind.u16.bits (n : Int)).toNat : Int) = ((a &&& n : Nat) : Int) := by
  have e : (BitVec.ofInt IntKind.u16.bits (a : Int) &&& BitVec.ofInt IntKind.u16.bits (n : Int)).toNat = a &&& n := by
    rw [BitVec.toNat_and]
    simp [IntKind.bits]
    rw [Nat.mod_eq_of_lt ha, Nat.mod_eq_of_lt hn]
  have hlt : a &&& n ≤ a := Nat.and_le_left
  rw [e, u16_in ((a &&& n : Nat) : Int) (by omega) (by omega)]
theorem and_pow (x n : Nat) : x &&& 2 ^ n = if x / 2 ^ n % 2 = 1 then 2 ^ n else 0 := by
  apply Nat.eq_of_testBit_eq
  intro i
  rw [Nat.testBit_and, Nat.testBit_two_pow]
  by_cases hi : n = i
  · subst hi
    rw [Nat.testBit_eq_decide_div_mod_eq]
    split
    · rename_i h; simp [h, Nat.testBit_two_pow_self]
    · rename_i h; simp [h]
  · split <;> simp [hi, Nat.testBit_two_pow]
theorem flag_of (x n : Nat) (f : Bool) (hx : x < 65536) (hn : n < 16) (h : x / 2 ^ n % 2 = f.toNat) : ((IntKind.u16.wrap ((BitVec.ofInt IntKind.u16.bits (x : Int) &&& BitVec.ofInt IntKind.u16.bits ((2 ^ n : Nat) : Int)).toNat : Int)) != 0) = f := by
  have h2 : 2 ^ n < 65536 := Nat.pow_lt_pow_of_lt (a := 2) (by omega) hn
  rw [wrap_and x (2 ^ n) hx h2, and_pow, h]
  cases f
  · rfl
  · have := Nat.two_pow_pos n
    have hne : ((2 ^ n : Nat) : Int) ≠ 0 := by omega
    simpa using hne
theorem bit_nat (c : Bool) (n : Nat) : bit c n = n * c.toNat := by cases c <;> simp [bit]
theorem hdOf (pb : Nat) (h : Hd) (hid : h.id < 65536) (hop : h.op < 16) (hcode : h.code < 16) :
    Ct (β := Unit) Tryz.prog 137 [ptr pb (0 + 1)] [] (fun w => RowAt (view [] w) pb 1 [.int .u16 (h.id : Int), .int .u16 (bitsOf h : Int)]) (fun _ => .agg (hdCells h).toArray) (fun _ _ => True) (fun _ => []) := by
  intro w hS hr
  have hbits : bitsOf h = h.op * 2048 + h.code + 128 * h.avail.toNat + 256 * h.desired.toNat + 512 * h.cut.toNat + 1024 * h.auth.toNat + 32768 * h.resp.toNat + 32 * h.authentic.toNat + 16 * h.unchecked.toNat := by unfold bitsOf; simp only [bit_nat]
  have e1 := Bool.toNat_le h.avail
  have e2 := Bool.toNat_le h.desired
  have e3 := Bool.toNat_le h.cut
  have e4 := Bool.toNat_le h.auth
  have e5 := Bool.toNat_le h.resp
  have e6 := Bool.toNat_le h.authentic
  have e7 := Bool.toNat_le h.unchecked
  have hx : bitsOf h < 65536 := by omega
  have f_resp : ((IntKind.u16.wrap ((BitVec.ofInt IntKind.u16.bits (bitsOf h : Int) &&& BitVec.ofInt IntKind.u16.bits 32768).toNat : Int)) != 0) = h.resp := flag_of (bitsOf h) 15 h.resp hx (by decide) (by simp only [Nat.reducePow]; omega)
  have f_auth : ((IntKind.u16.wrap ((BitVec.ofInt IntKind.u16.bits (bitsOf h : Int) &&& BitVec.ofInt IntKind.u16.bits 1024).toNat : Int)) != 0) = h.auth := flag_of (bitsOf h) 10 h.auth hx (by decide) (by simp only [Nat.reducePow]; omega)
  have f_cut : ((IntKind.u16.wrap ((BitVec.ofInt IntKind.u16.bits (bitsOf h : Int) &&& BitVec.ofInt IntKind.u16.bits 512).toNat : Int)) != 0) = h.cut := flag_of (bitsOf h) 9 h.cut hx (by decide) (by simp only [Nat.reducePow]; omega)
  have f_desired : ((IntKind.u16.wrap ((BitVec.ofInt IntKind.u16.bits (bitsOf h : Int) &&& BitVec.ofInt IntKind.u16.bits 256).toNat : Int)) != 0) = h.desired := flag_of (bitsOf h) 8 h.desired hx (by decide) (by simp only [Nat.reducePow]; omega)
  have f_avail : ((IntKind.u16.wrap ((BitVec.ofInt IntKind.u16.bits (bitsOf h : Int) &&& BitVec.ofInt IntKind.u16.bits 128).toNat : Int)) != 0) = h.avail := flag_of (bitsOf h) 7 h.avail hx (by decide) (by simp only [Nat.reducePow]; omega)
  have f_authentic : ((IntKind.u16.wrap ((BitVec.ofInt IntKind.u16.bits (bitsOf h : Int) &&& BitVec.ofInt IntKind.u16.bits 32).toNat : Int)) != 0) = h.authentic := flag_of (bitsOf h) 5 h.authentic hx (by decide) (by simp only [Nat.reducePow]; omega)
  have f_unchecked : ((IntKind.u16.wrap ((BitVec.ofInt IntKind.u16.bits (bitsOf h : Int) &&& BitVec.ofInt IntKind.u16.bits 16).toNat : Int)) != 0) = h.unchecked := flag_of (bitsOf h) 4 h.unchecked hx (by decide) (by simp only [Nat.reducePow]; omega)
  refine calls_of_T (m := 61) Tryz.func137 rfl rfl (by simp) hS ?_
  repeat (first | refine za rfl rfl ?_ | refine zb rfl ?_ | refine zc rfl ?_)
  refine TL.allocZ 10 Tryz.zeroValue66 rfl rfl rfl (fun rb zs hz => ?_)
  repeat (first | refine za rfl rfl ?_ | refine zb rfl ?_ | refine zc rfl ?_)
  refine TS.start [(0, true), (1, true), (2, true), (3, true), (4, true), (5, true), (6, true), (7, true), (8, true), (9, true), (10, true), (11, true), (12, true), (13, true), (14, true), (15, true), (16, true), (17, true), (18, true), (19, true), (20, true), (21, true), (22, true), (23, true), (24, true), (25, true), (26, true), (27, true), (28, true), (29, true), (30, true), (31, true), (32, true), (33, true), (34, true), (35, true), (36, true), (37, true), (38, true), (39, true), (40, true), (41, true), (42, true), (43, true), (44, true), (45, true), (46, true), (47, true), (48, true), (49, true), (50, true), (51, true), (52, true), (53, true), (54, true), (55, true), (56, true), (57, true), (58, false)] [] mixed (by kernel_rfl) (by kernel_rfl) (by decide) (by simp) ?_
  repeat refine TS.p tbk rfl rfl ?_
  refine TS.y rfl rfl rfl rfl (Y.load szk rfl rfl (fun w h => (hr.one (i := 0) rfl rfl).cell h.1 (i := 0) rfl)) ?_
  repeat refine TS.p tbk rfl rfl ?_
  refine TS.y rfl rfl rfl rfl (Y.load szk rfl rfl (fun w h => (hr.one (i := 1) rfl rfl).cell h.1 (i := 0) rfl)) ?_
  repeat refine TS.p tbk rfl rfl ?_
  refine TS.y rfl rfl rfl rfl (Y.load szk rfl rfl (fun w h => (hr.one (i := 1) rfl rfl).cell h.1 (i := 0) rfl)) ?_
  repeat refine TS.p tbk rfl rfl ?_
  refine TS.y rfl rfl rfl rfl (Y.load szk rfl rfl (fun w h => (hr.one (i := 1) rfl rfl).cell h.1 (i := 0) rfl)) ?_
  repeat refine TS.p tbk rfl rfl ?_
  refine TS.y rfl rfl rfl rfl (Y.load szk rfl rfl (fun w h => (hr.one (i := 1) rfl rfl).cell h.1 (i := 0) rfl)) ?_
  repeat refine TS.p tbk rfl rfl ?_
  refine TS.y rfl rfl rfl rfl (Y.load szk rfl rfl (fun w h => (hr.one (i := 1) rfl rfl).cell h.1 (i := 0) rfl)) ?_
  repeat refine TS.p tbk rfl rfl ?_
  refine TS.y rfl rfl rfl rfl (Y.load szk rfl rfl (fun w h => (hr.one (i := 1) rfl rfl).cell h.1 (i := 0) rfl)) ?_
  repeat refine TS.p tbk rfl rfl ?_
  refine TS.y rfl rfl rfl rfl (Y.load szk rfl rfl (fun w h => (hr.one (i := 1) rfl rfl).cell h.1 (i := 0) rfl)) ?_
  repeat refine TS.p tbk rfl rfl ?_
  refine TS.y rfl rfl rfl rfl (Y.load szk rfl rfl (fun w h => (hr.one (i := 1) rfl rfl).cell h.1 (i := 0) rfl)) ?_
  repeat refine TS.p tbk rfl rfl ?_
  refine TS.y rfl rfl rfl rfl (Y.load szk rfl rfl (fun w h => (hr.one (i := 1) rfl rfl).cell h.1 (i := 0) rfl)) ?_
  repeat refine TS.p tbk rfl rfl ?_
  have f_op : IntKind.u16.wrap ((BitVec.ofInt IntKind.u16.bits (Int.fdiv (bitsOf h : Int) (2 ^ min 11 IntKind.u16.bits)) &&& BitVec.ofInt IntKind.u16.bits 15).toNat : Int) = (h.op : Int) := by
    have e : Int.fdiv (bitsOf h : Int) (2 ^ min 11 IntKind.u16.bits) = ((bitsOf h / 2048 : Nat) : Int) := by rw [Int.fdiv_eq_ediv_of_nonneg _ (by simp [IntKind.bits])]; simp [IntKind.bits]
    have := wrap_and (bitsOf h / 2048) 15 (by omega) (by decide)
    rw [show (15 : Nat) = 2 ^ 4 - 1 from rfl, Nat.and_two_pow_sub_one_eq_mod] at this
    rw [e]; refine Eq.trans this ?_
    simp only [Nat.reducePow]; omega
  have f_code : IntKind.u16.wrap ((BitVec.ofInt IntKind.u16.bits (bitsOf h : Int) &&& BitVec.ofInt IntKind.u16.bits 15).toNat : Int) = (h.code : Int) := by
    have := wrap_and (bitsOf h) 15 (by omega) (by decide)
    rw [show (15 : Nat) = 2 ^ 4 - 1 from rfl, Nat.and_two_pow_sub_one_eq_mod] at this
    refine Eq.trans this ?_
    simp only [Nat.reducePow]; omega
  rw [f_resp, f_auth, f_cut, f_desired, f_avail, f_authentic, f_unchecked, f_op, f_code]
  refine TS.y rfl rfl rfl rfl (Y.build (v := .agg (hdCells h).toArray) rfl (fun w => by kernel_rfl)) ?_
  refine TS.stW (us := hdCells h) 0 rfl szk rfl rfl rfl rfl rfl hz (hdCells_one h) (by simp) ?_
  refine TS.nil ?_
  repeat (first | refine za rfl rfl ?_ | refine zb rfl ?_ | refine zc rfl ?_)
  exact T.retG Tryz.func137 (.cons (RV.cellW 0 szk rfl rfl rfl rfl) .nil) (fun w hA => ⟨(), rfl, trivial, hA.sub (by simp)⟩)
end X
namespace X
def Bh.cnt (h : Bh) (sec : Nat) : Nat := match sec with
  | 2 => h.n1
  | 3 => h.n2
  | 4 => h.n3
  | _ => h.n4
def hrow (h : Bh) : List Value := [.int .u16 (h.id : Int), .int .u16 (h.bits : Int), .int .u16 (h.n1 : Int), .int .u16 (h.n2 : Int), .int .u16 (h.n3 : Int), .int .u16 (h.n4 : Int)]
theorem count (pb sec : Nat) (h2 : 2 ≤ sec) (h5 : sec ≤ 5) (h : Bh) : Ct (β := Unit) Tryz.prog 154 [ptr pb (0 + 1), .int .u8 (sec : Int)] [] (fun w => RowAt (view [] w) pb 1 (hrow h)) (fun _ => .int .u16 (h.cnt sec : Int)) (fun _ _ => True) (fun _ => []) := by
  intro w hS hr
  match sec, h2, h5 with
  | 2, _, _ =>
    refine calls_of_T (m := 30) Tryz.func154 rfl rfl (by simp) hS ?_
    repeat (first | refine TL.p tbk rfl ?_ | refine TL.nil ?_ | refine T.seq ?_ | refine T.region ?_ | refine T.skip ?_ | refine T.block ?_ | refine T.inBlock ?_ | refine T.exit rfl ?_ | refine T.condF rfl rfl ?_)
    refine T.condT rfl rfl ?_
    repeat (first | refine za rfl rfl ?_ | refine zb rfl ?_ | refine zc rfl ?_)
    refine TL.ldR (hr.one (i := 2) rfl rfl) szk rfl rfl rfl rfl ?_
    repeat (first | refine za rfl rfl ?_ | refine zb rfl ?_ | refine zc rfl ?_)
    exact T.ret Tryz.func154 rfl (fun w hA => ⟨(), rfl, trivial, hA⟩)
  | 3, _, _ =>
    refine calls_of_T (m := 30) Tryz.func154 rfl rfl (by simp) hS ?_
    repeat (first | refine TL.p tbk rfl ?_ | refine TL.nil ?_ | refine T.seq ?_ | refine T.region ?_ | refine T.skip ?_ | refine T.block ?_ | refine T.inBlock ?_ | refine T.exit rfl ?_ | refine T.condF rfl rfl ?_)
    refine T.condT rfl rfl ?_
    repeat (first | refine za rfl rfl ?_ | refine zb rfl ?_ | refine zc rfl ?_)
    refine TL.ldR (hr.one (i := 3) rfl rfl) szk rfl rfl rfl rfl ?_
    repeat (first | refine za rfl rfl ?_ | refine zb rfl ?_ | refine zc rfl ?_)
    exact T.ret Tryz.func154 rfl (fun w hA => ⟨(), rfl, trivial, hA⟩)
  | 4, _, _ =>
    refine calls_of_T (m := 30) Tryz.func154 rfl rfl (by simp) hS ?_
    repeat (first | refine TL.p tbk rfl ?_ | refine TL.nil ?_ | refine T.seq ?_ | refine T.region ?_ | refine T.skip ?_ | refine T.block ?_ | refine T.inBlock ?_ | refine T.exit rfl ?_ | refine T.condF rfl rfl ?_)
    refine T.condT rfl rfl ?_
    repeat (first | refine za rfl rfl ?_ | refine zb rfl ?_ | refine zc rfl ?_)
    refine TL.ldR (hr.one (i := 4) rfl rfl) szk rfl rfl rfl rfl ?_
    repeat (first | refine za rfl rfl ?_ | refine zb rfl ?_ | refine zc rfl ?_)
    exact T.ret Tryz.func154 rfl (fun w hA => ⟨(), rfl, trivial, hA⟩)
  | 5, _, _ =>
    refine calls_of_T (m := 30) Tryz.func154 rfl rfl (by simp) hS ?_
    repeat (first | refine TL.p tbk rfl ?_ | refine TL.nil ?_ | refine T.seq ?_ | refine T.region ?_ | refine T.skip ?_ | refine T.block ?_ | refine T.inBlock ?_ | refine T.exit rfl ?_ | refine T.condF rfl rfl ?_)
    refine T.condT rfl rfl ?_
    repeat (first | refine za rfl rfl ?_ | refine zb rfl ?_ | refine zc rfl ?_)
    refine TL.ldR (hr.one (i := 5) rfl rfl) szk rfl rfl rfl rfl ?_
    repeat (first | refine za rfl rfl ?_ | refine zb rfl ?_ | refine zc rfl ?_)
    exact T.ret Tryz.func154 rfl (fun w hA => ⟨(), rfl, trivial, hA⟩)
theorem pView {Z : List Nat} {w0 w : World} {M : Mem} {i pb sec off idx ro rt rl : Nat} {vl : Bool} {mv_ : Value} {h : Bh} (hA : St Z w0 M w) (hi : nth M i = some (pb, .row (pC mv_ h sec off idx vl ro rt rl) 191)) : RowAt (view [] w) pb 1 (hrow h) :=
  hA.view hi (by simp) (fun j v hj => by
    match j, hj with
    | 0, hj => exact hj
    | 1, hj => exact hj
    | 2, hj => exact hj
    | 3, hj => exact hj
    | 4, hj => exact hj
    | 5, hj => exact hj
    | j + 6, hj => simp [nth, hrow] at hj)
theorem checkMore (pb : Nat) (mv_ : Value) (h : Bh) (sec off idx : Nat) (vl : Bool) (ro rt rl : Nat) (h2 : 2 ≤ sec) (h5 : sec ≤ 5) (hc : h.cnt sec < 65536) (hi : idx < h.cnt sec) :
    Ct (β := Unit) Tryz.prog 149 [ptr pb 0, .int .u8 (sec : Int)] [(pb, .row (pC mv_ h sec off idx vl ro rt rl) 191)] (fun _ => True) (fun _ => .nilIface) (fun _ _ => True) (fun _ => [(pb, .row (pC mv_ h sec off idx false ro rt rl) 191)]) := by
  intro w hS _
  refine calls_of_T (m := 44) Tryz.func149 rfl rfl (by simp) hS ?_
  repeat (first | refine za rfl rfl ?_ | refine zb rfl ?_ | refine zc rfl ?_)
  refine TL.ld 0 szk rfl rfl rfl rfl rfl rfl ?_
  repeat (first | refine za rfl rfl ?_ | refine zb rfl ?_ | refine zc rfl ?_)
  refine T.condF rfl (by simp) ?_
  repeat (first | refine za rfl rfl ?_ | refine zb rfl ?_ | refine zc rfl ?_)
  refine TL.ld 0 szk rfl rfl rfl rfl rfl rfl ?_
  repeat (first | refine za rfl rfl ?_ | refine zb rfl ?_ | refine zc rfl ?_)
  refine T.condF rfl (by simp) ?_
  repeat (first | refine za rfl rfl ?_ | refine zb rfl ?_ | refine zc rfl ?_)
  refine TL.st 0 szk rfl rfl rfl rfl rfl rfl ?_
  repeat (first | refine za rfl rfl ?_ | refine zb rfl ?_ | refine zc rfl ?_)
  refine TS.start [(0, true), (1, true), (2, true), (3, true), (4, true), (5, true), (6, true), (7, true), (8, false), (9, true), (10, true)] [(pb, .row (pC mv_ h sec off idx false ro rt rl) 191)] mixed (by kernel_rfl) (by kernel_rfl) (by decide) (by simp [setN, pC]) ?_
  repeat refine TS.p tbk rfl rfl ?_
  refine TS.y rfl rfl rfl rfl (Y.load szk rfl rfl (fun w h => h.cell (i := 0) rfl rfl)) ?_
  repeat refine TS.p tbk rfl rfl ?_
  refine TS.call0 rfl Tryz.call154 rfl rfl rfl (count pb sec h2 h5 h) (fun w' hA => pView (vl := false) hA (i := 0) rfl) (fun _ => by simp [setN, pC]) (fun _ => TS.and fun _ => ?_)
  refine TS.p tbk rfl rfl ?_
  rw [nat_i64 (a := h.cnt sec) (by omega)]
  refine TS.p tbk rfl rfl ?_
  refine TS.nil ?_
  repeat (first | refine za rfl rfl ?_ | refine zb rfl ?_ | refine zc rfl ?_)
  refine T.condF rfl (by simp; omega) ?_
  repeat (first | refine za rfl rfl ?_ | refine zb rfl ?_ | refine zc rfl ?_)
  exact T.ret Tryz.func149 rfl (fun w hA => ⟨(), rfl, trivial, hA⟩)
theorem checkDone (pb : Nat) (mv_ : Value) (h : Bh) (sec off : Nat) (vl : Bool) (ro rt rl : Nat) (h2 : 2 ≤ sec) (h5 : sec ≤ 5) (hc : h.cnt sec < 65536) (gu : TypeId) (gv : Value) :
    Ct (β := Unit) Tryz.prog 149 [ptr pb 0, .int .u8 (sec : Int)] [(pb, .row (pC mv_ h sec off (h.cnt sec) vl ro rt rl) 191)] (fun w => RowAt (view [pb] w) 5 0 [.iface gu gv]) (fun _ => .iface gu gv) (fun _ _ => True) (fun _ => [(pb, .row (pC mv_ h (sec + 1) off 0 false ro rt rl) 191)]) := by
  intro w hS hg
  refine calls_of_T (m := 44) Tryz.func149 rfl rfl (by simp) hS ?_
  repeat (first | refine za rfl rfl ?_ | refine zb rfl ?_ | refine zc rfl ?_)
  refine TL.ld 0 szk rfl rfl rfl rfl rfl rfl ?_
  repeat (first | refine za rfl rfl ?_ | refine zb rfl ?_ | refine zc rfl ?_)
  refine T.condF rfl (by simp) ?_
  repeat (first | refine za rfl rfl ?_ | refine zb rfl ?_ | refine zc rfl ?_)
  refine TL.ld 0 szk rfl rfl rfl rfl rfl rfl ?_
  repeat (first | refine za rfl rfl ?_ | refine zb rfl ?_ | refine zc rfl ?_)
  refine T.condF rfl (by simp) ?_
  repeat (first | refine za rfl rfl ?_ | refine zb rfl ?_ | refine zc rfl ?_)
  refine TL.st 0 szk rfl rfl rfl rfl rfl rfl ?_
  repeat (first | refine za rfl rfl ?_ | refine zb rfl ?_ | refine zc rfl ?_)
  refine TS.start [(0, true), (1, true), (2, true), (3, true), (4, true), (5, true), (6, true), (7, true), (8, false), (9, true), (10, true)] [(pb, .row (pC mv_ h sec off (h.cnt sec) false ro rt rl) 191)] mixed (by kernel_rfl) (by kernel_rfl) (by decide) (by simp [setN, pC]) ?_
  repeat refine TS.p tbk rfl rfl ?_
  refine TS.y rfl rfl rfl rfl (Y.load szk rfl rfl (fun w h => h.cell (i := 0) rfl rfl)) ?_
  repeat refine TS.p tbk rfl rfl ?_
  refine TS.call0 rfl Tryz.call154 rfl rfl rfl (count pb sec h2 h5 h) (fun w' hA => pView (vl := false) hA (i := 0) rfl) (fun _ => by simp [setN, pC]) (fun _ => TS.and fun _ => ?_)
  refine TS.p tbk rfl rfl ?_
  rw [nat_i64 (a := h.cnt sec) (by omega)]
  refine TS.p tbk rfl rfl ?_
  refine TS.nil ?_
  repeat (first | refine za rfl rfl ?_ | refine zb rfl ?_ | refine zc rfl ?_)
  refine T.condT rfl (by simp) ?_
  repeat (first | refine za rfl rfl ?_ | refine zb rfl ?_ | refine zc rfl ?_)
  refine TL.st 0 szk rfl rfl rfl rfl rfl rfl ?_
  repeat (first | refine za rfl rfl ?_ | refine zb rfl ?_ | refine zc rfl ?_)
  refine TL.ld 0 szk rfl rfl rfl rfl rfl rfl ?_
  repeat (first | refine za rfl rfl ?_ | refine zb rfl ?_ | refine zc rfl ?_)
  rw [show IntKind.u8.wrap ((sec : Int) + 1) = ((sec + 1 : Nat) : Int) by rw [u8_in] <;> omega]
  refine TL.st 0 szk rfl rfl rfl rfl rfl rfl ?_
  repeat (first | refine za rfl rfl ?_ | refine zb rfl ?_ | refine zc rfl ?_)
  refine TL.ldR hg szk rfl rfl rfl rfl ?_
  repeat (first | refine za rfl rfl ?_ | refine zb rfl ?_ | refine zc rfl ?_)
  exact T.ret Tryz.func149 rfl (fun w hA => ⟨(), rfl, trivial, hA⟩)
theorem zero191 : ∀ w, (zeroValue 191).run Tryz.prog w = .ok (.agg (pC (.slice none 0 0) hB0 0 0 0 false 0 0 0).toArray) w := by intro w; kernel_rfl
theorem start (pb b cap : Nat) (B : Bs) (h : Hd) (n1 n2 n3 n4 : Nat) (hid : h.id < 65536) (hop : h.op < 16) (hcode : h.code < 16) (hh : (⟨h.id, bitsOf h, n1, n2, n3, n4⟩ : Bh).Ok) (hB : B.length ≤ 1000000) (hb : BytesAt (kn B H0) 0 (headB h n1 n2 n3 n4)) :
    Ct (β := Unit) Tryz.prog 84 [ptr pb 0, msl b cap B] [(pb, .row (pC (.slice none 0 0) hB0 0 0 0 false 0 0 0) 191)] (fun w => MB (view [pb] w) b B) (fun _ => .tuple #[.agg (hdCells h).toArray, .nilIface]) (fun _ _ => True)
      (fun _ => [(pb, .row (pC (msl b cap B) ⟨h.id, bitsOf h, n1, n2, n3, n4⟩ 2 12 0 false 0 0 0) 191)]) := by
  intro w hS hr
  refine calls_of_T (m := 44) Tryz.func84 rfl rfl (by simp) hS ?_
  repeat (first | refine za rfl rfl ?_ | refine zb rfl ?_ | refine zc rfl ?_)
  refine TL.allocZ 10 Tryz.zeroValue66 rfl rfl rfl (fun rb zs hz => ?_)
  repeat (first | refine za rfl rfl ?_ | refine zb rfl ?_ | refine zc rfl ?_)
  refine TL.ld 1 szk rfl rfl rfl rfl rfl rfl ?_
  repeat (first | refine za rfl rfl ?_ | refine zb rfl ?_ | refine zc rfl ?_)
  refine T.condF rfl rfl ?_
  repeat (first | refine za rfl rfl ?_ | refine zb rfl ?_ | refine zc rfl ?_)
  refine TL.st 1 szk rfl rfl rfl rfl rfl rfl ?_
  repeat (first | refine za rfl rfl ?_ | refine zb rfl ?_ | refine zc rfl ?_)
  refine TL.call1 1 Tryz.call136 rfl rfl rfl rfl (hUnpack pb b cap B ⟨h.id, bitsOf h, n1, n2, n3, n4⟩ hh hB hb) (fun w' hA => hr.mono (st_viewLe hA (Mc := [(pb, .row (pC (msl b cap B) hB0 0 0 0 false 0 0 0) 191)]) fun _ hp => by simp at hp; subst hp; simp [setN, pC])) (fun _ => TL.and fun _ => ?_)
  repeat (first | refine za rfl rfl ?_ | refine zb rfl ?_ | refine zc rfl ?_)
  refine TL.st 1 szk rfl rfl rfl rfl rfl rfl ?_
  repeat (first | refine za rfl rfl ?_ | refine zb rfl ?_ | refine zc rfl ?_)
  refine T.condF rfl rfl ?_
  repeat (first | refine za rfl rfl ?_ | refine zb rfl ?_ | refine zc rfl ?_)
  refine TL.st 1 szk rfl rfl rfl rfl rfl rfl ?_
  repeat (first | refine za rfl rfl ?_ | refine zb rfl ?_ | refine zc rfl ?_)
  refine TL.call0 Tryz.call137 rfl rfl rfl (hdOf pb h hid hop hcode) (fun w' hA => (pView (h := ⟨h.id, bitsOf h, n1, n2, n3, n4⟩) (sec := 2) (off := 12) (idx := 0) (vl := false) (ro := 0) (rt := 0) (rl := 0) (mv_ := msl b cap B) hA (i := 1) rfl).part (i := 0) (us := [.int .u16 (h.id : Int), .int .u16 (bitsOf h : Int)]) (fun j v hj => by
    match j, hj with
    | 0, hj => exact hj
    | 1, hj => exact hj
    | j + 2, hj => simp [nth] at hj) rfl) (fun _ => TL.and fun _ => ?_)
  refine TL.stW (vs := hdCells h) 0 szk rfl rfl rfl rfl rfl hz (hdCells_one h) ?_
  repeat (first | refine za rfl rfl ?_ | refine zb rfl ?_ | refine zc rfl ?_)
  exact T.retG Tryz.func84 (.cons (RV.cellW 0 szk rfl rfl rfl rfl) (.cons (RV.tmp rfl) .nil)) (fun w hA => ⟨(), rfl, trivial, hA.sub (by simp [setN, pC])⟩)
end X
end Go.Proofs.YtifnodoffgfpbaaGreatDoor
