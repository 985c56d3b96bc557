/- Texts D1, F6, F7, F8, F9, F10. The data of this claim: messages as plain lists, how they stand in a packed message, and how they lie in memory. -/
import Derived.Test.YtifnodoffgfpbaaGreatDoorPad
namespace Go.Proofs.YtifnodoffgfpbaaGreatDoor
open Go
namespace X
structure Pr where
  key : Nat
  data : Bs
structure Rc where
  name : Bs
  typ : Nat
  cls : Nat
  ttl : Nat
  len : Nat
  kind : Int
  data : Bs
  host : Bs
  box : Bs
  n1 : Nat
  n2 : Nat
  n3 : Nat
  n4 : Nat
  n5 : Nat
  texts : List Bs
  pairs : List Pr
structure Ak where
  name : Bs
  typ : Nat
  cls : Nat
structure Hd where
  id : Nat
  resp : Bool
  op : Nat
  auth : Bool
  cut : Bool
  desired : Bool
  avail : Bool
  authentic : Bool
  unchecked : Bool
  code : Nat
structure Ms where
  head : Hd
  asks : List Ak
  one : List Rc
  two : List Rc
  three : List Rc
/-- The numbers are of their kinds. -/
structure Rc.Num (r : Rc) : Prop where
  typ : r.typ < 65536
  cls : r.cls < 65536
  ttl : r.ttl < 4294967296
  len : r.len < 65536
  n1 : r.n1 < 4294967296
  n2 : r.n2 < 4294967296
  n3 : r.n3 < 4294967296
  n4 : r.n4 < 4294967296
  n5 : r.n5 < 4294967296
  keys : ∀ p ∈ r.pairs, p.key < 65536
structure Ak.Num (a : Ak) : Prop where
  typ : a.typ < 65536
  cls : a.cls < 65536

/- ---------- on the wire ---------- -/
def fix (n : Nat) (d : Bs) : Bs := d.take n ++ List.replicate (n - d.length) 0
theorem fix_length (n : Nat) (d : Bs) : (fix n d).length = n := by simp [fix]; omega
def txtB : List Bs → Bs
  | [] => []
  | s :: r => (UInt8.ofNat s.length :: s) ++ txtB r
theorem txtB_append : ∀ (a b : List Bs), txtB (a ++ b) = txtB a ++ txtB b
  | [], b => rfl
  | s :: r, b => by simp [txtB, txtB_append r b]
def pairB : List Pr → Bs
  | [] => []
  | p :: r => (w2 p.key ++ (w2 p.data.length ++ p.data)) ++ pairB r
theorem pairB_append : ∀ (a b : List Pr), pairB (a ++ b) = pairB a ++ pairB b
  | [], b => rfl
  | s :: r, b => by simp [pairB, pairB_append r b]
/-- A name that is read with at most ten pointers. -/
def NmAt (K : KM) (o : Nat) (s : Bs) (fin : Nat) : Prop := ∃ c, NameAt K o (txt s) fin c ∧ c ≤ 10
theorem NmAt.mono {K K' : KM} (h : KM.le K K') {o : Nat} {s : Bs} {fin : Nat} (k : NmAt K o s fin) : NmAt K' o s fin := let ⟨c, a, b⟩ := k; ⟨c, a.mono h, b⟩
def BodyAt (K : KM) (r : Rc) (o fin : Nat) : Prop := match r.kind.toNat with
  | 1 => BytesAt K o (fix 4 r.data) ∧ fin = o + 4
  | 2 => NmAt K o r.host fin
  | 3 => NmAt K o r.host fin
  | 4 => ∃ f1 f2, NmAt K o r.host f1 ∧ NmAt K f1 r.box f2 ∧ BytesAt K f2 (w4 r.n1 ++ (w4 r.n2 ++ (w4 r.n3 ++ (w4 r.n4 ++ w4 r.n5)))) ∧ fin = f2 + 20
  | 5 => NmAt K o r.host fin
  | 6 => BytesAt K o (w2 r.n1) ∧ NmAt K (o + 2) r.host fin
  | 7 => BytesAt K o (txtB r.texts) ∧ fin = o + (txtB r.texts).length
  | 8 => BytesAt K o (fix 16 r.data) ∧ fin = o + 16
  | 9 => BytesAt K o (w2 r.n1 ++ (w2 r.n2 ++ w2 r.n3)) ∧ NmAt K (o + 6) r.host fin
  | 10 => BytesAt K o (pairB r.pairs) ∧ fin = o + (pairB r.pairs).length
  | 11 => ∃ f1, BytesAt K o (w2 r.n1) ∧ NmAt K (o + 2) r.host f1 ∧ BytesAt K f1 (pairB r.pairs) ∧ fin = f1 + (pairB r.pairs).length
  | 12 => ∃ f1, BytesAt K o (w2 r.n1) ∧ NmAt K (o + 2) r.host f1 ∧ BytesAt K f1 (pairB r.pairs) ∧ fin = f1 + (pairB r.pairs).length
  | _ => BytesAt K o r.data ∧ fin = o + r.data.length
theorem BodyAt.mono {K K' : KM} (h : KM.le K K') {r : Rc} {o fin : Nat} (k : BodyAt K r o fin) : BodyAt K' r o fin := by
  unfold BodyAt at *
  split at k
  · exact ⟨k.1.mono h, k.2⟩
  · exact k.mono h
  · exact k.mono h
  · obtain ⟨a, b, c, d, e, f⟩ := k; exact ⟨a, b, c.mono h, d.mono h, e.mono h, f⟩
  · exact k.mono h
  · exact ⟨k.1.mono h, k.2.mono h⟩
  · exact ⟨k.1.mono h, k.2⟩
  · exact ⟨k.1.mono h, k.2⟩
  · exact ⟨k.1.mono h, k.2.mono h⟩
  · exact ⟨k.1.mono h, k.2⟩
  · obtain ⟨a, b, c, d, e⟩ := k; exact ⟨a, b.mono h, c.mono h, d.mono h, e⟩
  · obtain ⟨a, b, c, d, e⟩ := k; exact ⟨a, b.mono h, c.mono h, d.mono h, e⟩
  · exact ⟨k.1.mono h, k.2⟩
/-- The type of a kind of records. -/
def typeOf (r : Rc) : Nat := match r.kind.toNat with
  | 1 => 1
  | 2 => 2
  | 3 => 5
  | 4 => 6
  | 5 => 12
  | 6 => 15
  | 7 => 16
  | 8 => 28
  | 9 => 33
  | 10 => 41
  | 11 => 64
  | 12 => 65
  | _ => r.typ
def RecAt (K : KM) (r : Rc) (o fin : Nat) : Prop := ∃ o1 len, NmAt K o r.name o1 ∧ BytesAt K o1 (w2 (typeOf r) ++ (w2 r.cls ++ (w4 r.ttl ++ w2 len))) ∧ len < 65536 ∧ BodyAt K r (o1 + 10) fin ∧ fin = o1 + 10 + len
theorem RecAt.mono {K K' : KM} (h : KM.le K K') {r : Rc} {o fin : Nat} (k : RecAt K r o fin) : RecAt K' r o fin :=
  let ⟨a, b, c, d, e, f, g⟩ := k; ⟨a, b, c.mono h, d.mono h, e, f.mono h, g⟩
inductive RecsAt (K : KM) : List Rc → Nat → Nat → Prop where
  | nil {o : Nat} : RecsAt K [] o o
  | cons {r : Rc} {rs : List Rc} {o m fin : Nat} (h : RecAt K r o m) (t : RecsAt K rs m fin) : RecsAt K (r :: rs) o fin
theorem RecsAt.mono {K K' : KM} (h : KM.le K K') {rs : List Rc} {o fin : Nat} (k : RecsAt K rs o fin) : RecsAt K' rs o fin := by
  induction k with
  | nil => exact .nil
  | cons a _ ih => exact .cons (a.mono h) ih
theorem RecsAt.snoc {K : KM} {rs : List Rc} {r : Rc} {o m fin : Nat} (k : RecsAt K rs o m) (h : RecAt K r m fin) : RecsAt K (rs ++ [r]) o fin := by
  induction k with
  | nil => exact .cons h .nil
  | cons a _ ih => exact .cons a (ih h)
def AskAt (K : KM) (a : Ak) (o fin : Nat) : Prop := ∃ o1, NmAt K o a.name o1 ∧ BytesAt K o1 (w2 a.typ ++ w2 a.cls) ∧ fin = o1 + 4
theorem AskAt.mono {K K' : KM} (h : KM.le K K') {r : Ak} {o fin : Nat} (k : AskAt K r o fin) : AskAt K' r o fin := let ⟨a, b, c, d⟩ := k; ⟨a, b.mono h, c.mono h, d⟩
inductive AsksAt (K : KM) : List Ak → Nat → Nat → Prop where
  | nil {o : Nat} : AsksAt K [] o o
  | cons {r : Ak} {rs : List Ak} {o m fin : Nat} (h : AskAt K r o m) (t : AsksAt K rs m fin) : AsksAt K (r :: rs) o fin
theorem AsksAt.mono {K K' : KM} (h : KM.le K K') {rs : List Ak} {o fin : Nat} (k : AsksAt K rs o fin) : AsksAt K' rs o fin := by
  induction k with
  | nil => exact .nil
  | cons a _ ih => exact .cons (a.mono h) ih
theorem AsksAt.snoc {K : KM} {rs : List Ak} {r : Ak} {o m fin : Nat} (k : AsksAt K rs o m) (h : AskAt K r m fin) : AsksAt K (rs ++ [r]) o fin := by
  induction k with
  | nil => exact .cons h .nil
  | cons a _ ih => exact .cons a (ih h)
def bit (b : Bool) (n : Nat) : Nat := if b then n else 0
def bitsOf (h : Hd) : Nat := h.op * 2048 + h.code + bit h.avail 128 + bit h.desired 256 + bit h.cut 512 + bit h.auth 1024 + bit h.resp 32768 + bit h.authentic 32 + bit h.unchecked 16
def headB (h : Hd) (a b c d : Nat) : Bs := w2 h.id ++ (w2 (bitsOf h) ++ (w2 a ++ (w2 b ++ (w2 c ++ w2 d))))
/-- A whole message. -/
structure MsgAt (K : KM) (m : Ms) : Prop where
  head : BytesAt K 0 (headB m.head m.asks.length m.one.length m.two.length m.three.length)
  body : ∃ f0 f1 f2 f3, AsksAt K m.asks 12 f0 ∧ RecsAt K m.one f0 f1 ∧ RecsAt K m.two f1 f2 ∧ RecsAt K m.three f2 f3

/- ---------- what may be packed ---------- -/
structure Rc.Ok (r : Rc) : Prop where
  num : r.Num
  kind : 1 ≤ r.kind ∧ r.kind ≤ 13
  name : NmOk r.name
  nlab : nlab r.name ≤ 10
  host : r.kind ∈ [2, 3, 4, 5, 6, 9, 11, 12] → NmOk r.host ∧ X.nlab r.host ≤ 10
  box : r.kind = 4 → NmOk r.box ∧ X.nlab r.box ≤ 10
  data : r.data.length ≤ 2000
  txtl : (txtB r.texts).length ≤ 2000
  pairl : (pairB r.pairs).length ≤ 2000
  text : r.kind = 7 → r.texts ≠ [] ∧ ∀ s ∈ r.texts, s.length ≤ 255
  asc : r.kind = 11 ∨ r.kind = 12 → ∀ i p, 0 < i → nth r.pairs i = some p → 0 < p.key
  typ : r.kind = 13 → r.typ ∉ [1, 2, 5, 6, 12, 15, 16, 28, 33, 41, 64, 65]
structure Ak.Ok (a : Ak) : Prop where
  num : a.Num
  name : NmOk a.name
  nlab : nlab a.name ≤ 10
structure Ms.Ok (m : Ms) : Prop where
  hid : m.head.id < 65536
  hop : m.head.op < 16
  hcode : m.head.code < 16
  asks : ∀ a ∈ m.asks, a.Ok
  one : ∀ r ∈ m.one, r.Ok
  two : ∀ r ∈ m.two, r.Ok
  three : ∀ r ∈ m.three, r.Ok
  few : m.asks.length + m.one.length + m.two.length + m.three.length ≤ 40

/- ---------- in memory ---------- -/
/-- A slice of elements of so many cells each: what element i must meet. -/
def Sl (h : View) (size : Nat) {α : Type} (E : α → List Value → Prop) (v : Value) (l : List α) : Prop :=
  ((∃ a c, v = .slice a 0 c) ∧ l = []) ∨ ∃ b o cap, v = .slice (some ⟨b, o, none⟩) l.length cap ∧ l.length ≤ cap ∧ ∀ i a, nth l i = some a → ∃ cs, cs.length = size ∧ RowAt h b (o + i * size) cs ∧ E a cs
theorem Sl.mono {h h' : View} (hh : View.le h h') {size : Nat} {α : Type} {E E' : α → List Value → Prop} (hE : ∀ a cs, E a cs → E' a cs) {v : Value} {l : List α} (k : Sl h size E v l) : Sl h' size E' v l := by
  rcases k with k | ⟨b, o, cap, h1, h2, h3⟩
  · exact .inl k
  · exact .inr ⟨b, o, cap, h1, h2, fun i a ha => let ⟨cs, c1, c2, c3⟩ := h3 i a ha; ⟨cs, c1, c2.mono hh, hE a cs c3⟩⟩
theorem Sl.shape {h : View} {size : Nat} {α : Type} {E : α → List Value → Prop} {v : Value} {l : List α} (k : Sl h size E v l) : ∃ a cap, v = .slice a l.length cap ∧ l.length ≤ cap := by
  rcases k with ⟨⟨a, c, rfl⟩, rfl⟩ | ⟨b, o, cap, rfl, h2, _⟩
  · exact ⟨a, c, rfl, Nat.zero_le _⟩
  · exact ⟨_, cap, rfl, h2⟩
/-- Where there is an element there is an array. -/
theorem Sl.at {h : View} {size : Nat} {α : Type} {E : α → List Value → Prop} {v : Value} {l : List α} (k : Sl h size E v l) {i : Nat} {a : α} (hi : nth l i = some a) :
    ∃ b o cap cs, v = .slice (some ⟨b, o, none⟩) l.length cap ∧ i < l.length ∧ cs.length = size ∧ RowAt h b (o + i * size) cs ∧ E a cs := by
  have hl : i < l.length := by rw [nth_eq] at hi; exact (List.getElem?_eq_some_iff.1 hi).1
  rcases k with ⟨_, rfl⟩ | ⟨b, o, cap, rfl, h2, h3⟩
  · simp at hl
  · obtain ⟨cs, c1, c2, c3⟩ := h3 i a hi
    exact ⟨b, o, cap, cs, rfl, hl, c1, c2, c3⟩
def SlS (h : View) (v : Value) (l : List Bs) : Prop := Sl h 1 (fun s cs => cs = [str s]) v l
def SlP (h : View) (v : Value) (l : List Pr) : Prop := Sl h 2 (fun p cs => ∃ dv, cs = [.int .u16 (p.key : Int), dv] ∧ SlB h dv p.data) v l
def rcCells (r : Rc) (dv tv pv : Value) : List Value :=
  [str r.name, .int .u16 r.typ, .int .u16 r.cls, .int .u32 r.ttl, .int .u16 r.len, .int .i64 r.kind, dv, str r.host, str r.box, .int .u32 r.n1, .int .u32 r.n2, .int .u32 r.n3, .int .u32 r.n4, .int .u32 r.n5, tv, pv]
def RcE (h : View) (r : Rc) (cs : List Value) : Prop := ∃ dv tv pv, cs = rcCells r dv tv pv ∧ SlB h dv r.data ∧ SlS h tv r.texts ∧ SlP h pv r.pairs
def SlR (h : View) (v : Value) (l : List Rc) : Prop := Sl h 16 (RcE h) v l
def SlA (h : View) (v : Value) (l : List Ak) : Prop := Sl h 3 (fun a cs => cs = [str a.name, .int .u16 a.typ, .int .u16 a.cls]) v l
def hdCells (h : Hd) : List Value := [.int .u16 h.id, .bool h.resp, .int .u16 h.op, .bool h.auth, .bool h.cut, .bool h.desired, .bool h.avail, .bool h.authentic, .bool h.unchecked, .int .u16 h.code]
def msCells (h : Hd) (av ov tv rv : Value) : List Value := hdCells h ++ [av, ov, tv, rv]
/-- A message in memory (impl.Message and spec.Message alike). -/
def MsV (h : View) (v : Value) (m : Ms) : Prop := ∃ av ov tv rv, v = .agg (msCells m.head av ov tv rv).toArray ∧ SlA h av m.asks ∧ SlR h ov m.one ∧ SlR h tv m.two ∧ SlR h rv m.three
theorem SlS.mono {h h' : View} (hh : View.le h h') {v : Value} {l : List Bs} (k : SlS h v l) : SlS h' v l := Sl.mono hh (fun _ _ e => e) k
theorem SlP.mono {h h' : View} (hh : View.le h h') {v : Value} {l : List Pr} (k : SlP h v l) : SlP h' v l := Sl.mono hh (fun _ _ ⟨dv, e, k⟩ => ⟨dv, e, k.mono hh⟩) k
theorem RcE.mono {h h' : View} (hh : View.le h h') {r : Rc} {cs : List Value} (k : RcE h r cs) : RcE h' r cs := let ⟨a, b, c, e, k1, k2, k3⟩ := k; ⟨a, b, c, e, k1.mono hh, k2.mono hh, k3.mono hh⟩
theorem SlR.mono {h h' : View} (hh : View.le h h') {v : Value} {l : List Rc} (k : SlR h v l) : SlR h' v l := Sl.mono hh (fun _ _ e => e.mono hh) k
theorem SlA.mono {h h' : View} (hh : View.le h h') {v : Value} {l : List Ak} (k : SlA h v l) : SlA h' v l := Sl.mono hh (fun _ _ e => e) k
theorem MsV.mono {h h' : View} (hh : View.le h h') {v : Value} {m : Ms} (k : MsV h v m) : MsV h' v m := let ⟨a, b, c, d, e, k1, k2, k3, k4⟩ := k; ⟨a, b, c, d, e, k1.mono hh, k2.mono hh, k3.mono hh, k4.mono hh⟩
end X
namespace X
/-- The state of packing: the buffer's block, what it holds, the map. -/
structure Pk where
  b : Nat
  cs : List Value
  cap : Nat
  B : Bs
  es : List MapEntry
  ck : Nat
  ms : List (Bs × Nat)
def Pk.mem (p : Pk) (q : Option Nat) : Mem := (p.b, .row p.cs 5) :: cmem q p.es p.ck
def Pk.sl (p : Pk) : Value := slV p.b p.B.length p.cap
structure Pk.ok (p : Pk) (hole : Hole) (q : Option Nat) : Prop where
  own : OwnB p.cs p.B p.cap
  mp : MapIs p.es p.ms
  ent : ∀ e ∈ p.ms, EntOk (kn p.B hole) e
  emp : q = none → p.ms = []
  hole : hole.In p.B.length
/-- What comes of appending alone. -/
theorem Pk.ok.app {p : Pk} {hole : Hole} {q : Option Nat} (h : p.ok hole q) {b : Nat} {cs : List Value} {cap : Nat} {E : Bs} (ho : OwnB cs (p.B ++ E) cap) : ({ p with b := b, cs := cs, cap := cap, B := p.B ++ E } : Pk).ok hole q :=
  ⟨ho, h.mp, fun e he => (h.ent e he).mono (kn_append _ _ _), h.emp, h.hole.mono (by simp)⟩
theorem Pk.ok.new {p : Pk} {hole : Hole} {q : Option Nat} (h : p.ok hole q) (E : Bs) : BytesAt (kn (p.B ++ E) hole) p.B.length E := kn_new _ _ h.hole
def PkV (y : Pk) : Value := .tuple #[y.sl, .nilIface]
/-- The name that a Name packs, where it stands. -/
theorem namePack' (q : Option Nat) (nb noff : Nat) (s : Bs) (hs : NmOk s) (hl : nlab s ≤ 10) (p : Pk) (hole : Hole) (h : p.ok hole q) (hB : p.B.length ≤ 4294967296) :
    Ct (β := Pk) Tryz.prog 103 [.pointer (some ⟨nb, noff, none⟩), p.sl, .map q, .int .i64 0] (p.mem q) (fun w => RowAt (view (keys (p.mem q)) w) nb noff (nameCells s)) PkV
      (fun y _ => y.ok hole q ∧ (∃ E, y.B = p.B ++ E ∧ E.length ≤ s.length + 1) ∧ NmAt (kn y.B hole) p.B.length s y.B.length) (fun y => y.mem q) := by
  intro w hS hr
  refine (namePack_ok q nb noff s hs p.b p.cs p.cap p.B p.es p.ck p.ms hole h.own h.mp h.emp h.ent h.hole hB w hS hr).mono ?_
  rintro e w' ⟨y, rfl, ⟨h1, h2, h3, h4⟩, hS'⟩
  refine ⟨⟨y.b, y.cs, y.cap, p.B ++ y.E, y.es, y.ck, y.ms⟩, rfl, ⟨⟨h1.own, h1.mp, h1.ent, h1.emp, h.hole.mono (by simp)⟩, ⟨y.E, rfl, h4⟩, ⟨y.c, h2, by omega⟩⟩, hS'⟩
section
variable {P : Program} {f : FuncId} {n : Nat} {R : Ending → World → Prop} {k : List Item} {L : Fr} {A : World → Prop} {X : List Nat} {w0 : World} {M : Mem} {ops : Array Oper} {rest : List Oper}
variable {fn : FuncId} {xs : Array Operand} {ts : Array TypeId} {d : Nat} {ty : TypeId} {pos : String} {af : Array Edge} {g : Option (Nat × Bool)} {vs : List Value} {β : Type} {v : β → Value} {pre : World → Prop} {post : β → World → Prop} {M' : β → Mem}
theorem St.pickS {w : World} {Ml Mc : Mem} (h : St X w0 (Ml ++ Mc) w) : St (keys Mc) w Mc w :=
  ⟨Ext.refl _ _, fun p hp => h.at_ p (List.mem_append_right _ hp), by have := h.nodup; rw [List.map_append, List.nodup_append] at this; exact this.2.1, fun p hp => .inl (List.mem_map_of_mem hp)⟩
theorem St.frameS {w w' : World} {Ml Mc Mn : Mem} (h : St X w0 (Ml ++ Mc) w) (k : St (keys Mc) w Mn w') : St X w0 (Ml ++ Mn) w' := by
  have hn := h.nodup
  rw [List.map_append, List.nodup_append] at hn
  have := h.frame (Mc := Mc) (Mr := Ml) (fun p hp => List.mem_append_right _ hp) k (fun p hp => ⟨List.mem_append_left _ hp, fun hx => hn.2.2 p.1 (List.mem_map_of_mem hp) p.1 hx rfl⟩) hn.1
  exact this.perm List.perm_append_comm
/-- The blocks of a call's contract are the last ones of ours. -/
theorem useS {Ml Mc : Mem} (hM : M = Ml ++ Mc) (hc : Ct P fn vs Mc pre v post M') (hpre : ∀ w, St X w0 M w → pre w) :
    ∀ w, St X w0 M w → Calls P fn vs.toArray w fun e w' => ∃ y, e = .returned (v y) ∧ (post y w' ∧ St X w0 (Ml ++ M' y) w') :=
  fun w hA => by
    subst hM
    exact (hc w hA.pickS (hpre w hA)).mono fun _ _ ⟨y, he, hp, hs⟩ => ⟨y, he, hp, hA.frameS hs⟩
theorem TL.callS (Ml : Mem) {Mc : Mem} (hcall : ∀ (ax : Array Value) w, (callFunc fn ax).run P w = .ok (.enter fn ax) w) (hx : evs L xs.toList = some vs) (hn : d.blt n = true) (hw : want ops L g = some true)
    (hM : M = Ml ++ Mc) (hc : Ct P fn vs Mc pre v post M') (hpre : ∀ w, St X w0 M w → pre w) (h : ∀ y, TL P f n R k ops rest ((d, v y) :: L) (fun w => post y w ∧ St X w0 (Ml ++ M' y) w)) :
    TL P f n R k ops (⟨some d, .call { callee := .value (.func fn), args := xs, argTypes := ts }, ty, pos, af, g⟩ :: rest) L (St X w0 M) :=
  TL.call hcall hx hn hw (useS hM hc hpre) h
end
theorem w2_length (m : Nat) : (w2 m).length = 2 := rfl
theorem w4_length (m : Nat) : (w4 m).length = 4 := rfl
/-- Numbers appended: what the callers need. -/
theorem pk16 (fn : FuncId) (hf : ∀ (b : Nat) (cs : List Value) (cap : Nat) (B : Bs) (m : Nat), OwnB cs B cap → B.length ≤ 1099511627776 →
    Ct (β := Bk) Tryz.prog fn [slV b B.length cap, .int .u16 m] [(b, .row cs 5)] (fun _ => True) (fun y => slV y.1 (B ++ w2 m).length y.2.2) (fun y _ => OwnB y.2.1 (B ++ w2 m) y.2.2) (fun y => [(y.1, .row y.2.1 5)]))
    (q : Option Nat) (p : Pk) (hole : Hole) (h : p.ok hole q) (hB : p.B.length ≤ 4294967296) (m : Nat) :
    Ct (β := Pk) Tryz.prog fn [p.sl, .int .u16 m] (p.mem q) (fun _ => True) (fun y => y.sl) (fun y _ => y.ok hole q ∧ y.B = p.B ++ w2 m) (fun y => y.mem q) := by
  intro w hS _
  refine (hf p.b p.cs p.cap p.B m h.own (by omega) w (hS.pick1 (i := 0) rfl) trivial).mono ?_
  rintro e w' ⟨y, rfl, ho, hS'⟩
  exact ⟨{ p with b := y.1, cs := y.2.1, cap := y.2.2, B := p.B ++ w2 m }, rfl, ⟨h.app ho, rfl⟩, by simpa [setN, Pk.mem] using hS.frame1 (i := 0) (E := []) rfl hS'⟩
theorem pk32 (q : Option Nat) (p : Pk) (hole : Hole) (h : p.ok hole q) (hB : p.B.length ≤ 4294967296) (m : Nat) :
    Ct (β := Pk) Tryz.prog 144 [p.sl, .int .u32 m] (p.mem q) (fun _ => True) (fun y => y.sl) (fun y _ => y.ok hole q ∧ y.B = p.B ++ w4 m) (fun y => y.mem q) := by
  intro w hS _
  refine (packUint32_ok p.b p.cs p.cap p.B m h.own (by omega) w (hS.pick1 (i := 0) rfl) trivial).mono ?_
  rintro e w' ⟨y, rfl, ho, hS'⟩
  exact ⟨{ p with b := y.1, cs := y.2.1, cap := y.2.2, B := p.B ++ w4 m }, rfl, ⟨h.app ho, rfl⟩, by simpa [setN, Pk.mem] using hS.frame1 (i := 0) (E := []) rfl hS'⟩
theorem pkBytes (q : Option Nat) (p : Pk) (hole : Hole) (h : p.ok hole q) (v : Value) (E : Bs) (hB : p.B.length + E.length ≤ 4294967296) :
    Ct (β := Pk) Tryz.prog 145 [p.sl, v] (p.mem q) (fun w => SlB (view (keys (p.mem q)) w) v E) (fun y => y.sl) (fun y _ => y.ok hole q ∧ y.B = p.B ++ E) (fun y => y.mem q) := by
  intro w hS hv
  refine (packBytes_ok p.b p.cs p.cap p.B E v h.own (by omega) w (hS.pick1 (i := 0) rfl) (hv.mono (view_anti (by simp [keys, Pk.mem])))).mono ?_
  rintro e w' ⟨y, rfl, ho, hS'⟩
  exact ⟨{ p with b := y.1, cs := y.2.1, cap := y.2.2, B := p.B ++ E }, rfl, ⟨h.app ho, rfl⟩, by simpa [setN, Pk.mem] using hS.frame1 (i := 0) (E := []) rfl hS'⟩
theorem pkText (q : Option Nat) (p : Pk) (hole : Hole) (h : p.ok hole q) (hB : p.B.length ≤ 4294967296) (s : Bs) (hs : s.length ≤ 255) :
    Ct (β := Pk) Tryz.prog 146 [p.sl, str s] (p.mem q) (fun _ => True) PkV (fun y _ => y.ok hole q ∧ y.B = p.B ++ UInt8.ofNat s.length :: s) (fun y => y.mem q) := by
  intro w hS _
  refine (packText_ok p.b p.cs p.cap p.B s h.own (by omega) hs w (hS.pick1 (i := 0) rfl) trivial).mono ?_
  rintro e w' ⟨y, rfl, ho, hS'⟩
  exact ⟨{ p with b := y.1, cs := y.2.1, cap := y.2.2, B := p.B ++ UInt8.ofNat s.length :: s }, rfl, ⟨h.app ho, rfl⟩, by simpa [setN, Pk.mem] using hS.frame1 (i := 0) (E := []) rfl hS'⟩
end X
namespace X
theorem ext_view2 {Z Z' : List Nat} {w w' : World} (h : Ext Z w w') (hz : ∀ z ∈ Z', z ∈ Z ∨ w.heap.size ≤ z) : View.le (view Z w) (view Z' w') := fun b o hb => by
  unfold view at *
  split at hb
  · cases hb
  · rename_i hx
    have hlt := lt_of_block hb
    rw [if_neg (fun hy => by rcases hz b hy with h' | h'; exact hx h'; omega), h.same b hlt hx]; exact hb
theorem st_viewLe {Z : List Nat} {w w' : World} {M Mc : Mem} (h : St Z w M w') (hsub : ∀ p ∈ Mc, p ∈ M) : View.le (view Z w) (view (keys Mc) w') :=
  ext_view2 h.ext fun z hz => by
    obtain ⟨p, hp, rfl⟩ := List.mem_map.1 hz
    exact h.mine p (hsub p hp)
def rhCells (s : Bs) (t c ttl len : Nat) : List Value := nameCells s ++ [.int .u16 t, .int .u16 c, .int .u32 ttl, .int .u16 len]
theorem rh_name {s : Bs} {t c ttl len : Nat} (hs : s.length ≤ 255) : ∀ j v, nth (nameCells s) j = some v → nth (rhCells s t c ttl len) (0 + j) = some v := fun j v h => by
  rw [nth_eq] at *
  rw [rhCells, Nat.zero_add, List.getElem?_append_left (List.getElem?_eq_some_iff.1 h).1]; exact h
theorem rh_at {s : Bs} {t c ttl len : Nat} (hs : s.length ≤ 255) (i : Nat) : nth (rhCells s t c ttl len) (256 + i) = nth [.int .u16 t, .int .u16 c, .int .u32 ttl, .int .u16 len] i := by
  rw [nth_eq, nth_eq, rhCells, List.getElem?_append_right (by rw [nameCells_length hs]; omega), nameCells_length hs, Nat.add_sub_cancel_left]
/-- What is known stays known where two bytes behind it are left open. -/
theorem kn_behind (B E : Bs) (k o : Nat) (h : B.length ≤ o) : KM.le (kn B ⟨k, none⟩) (kn (B ++ E) ⟨k, some o⟩) := by
  intro i b hb
  obtain ⟨h1, h2⟩ := kn_some hb
  have hi := (List.getElem?_eq_some_iff.1 h2).1
  refine kn_of (fun hx => ?_) (by rw [List.getElem?_append_left hi]; exact h2)
  rcases hx with hx | ⟨o', ho, h3, h4⟩
  · exact h1 (.inl hx)
  · simp only [Option.some.injEq] at ho; omega
theorem pk16m (fn : FuncId) (hf : ∀ (b : Nat) (cs : List Value) (cap : Nat) (B : Bs) (m : Nat), OwnB cs B cap → B.length ≤ 1099511627776 →
    Ct (β := Bk) Tryz.prog fn [slV b B.length cap, .int .u16 m] [(b, .row cs 5)] (fun _ => True) (fun y => slV y.1 (B ++ w2 m).length y.2.2) (fun y _ => OwnB y.2.1 (B ++ w2 m) y.2.2) (fun y => [(y.1, .row y.2.1 5)]))
    (q : Option Nat) (p : Pk) (hole : Hole) (h : p.ok hole q) (hB : p.B.length ≤ 4294967296) (m : Nat) :
    Ct (β := Pk) Tryz.prog fn [p.sl, .int .u16 m] (p.mem q) (fun _ => True) (fun y => y.sl) (fun y _ => y.ok hole q ∧ y.B = p.B ++ w2 m ∧ y.ms = p.ms) (fun y => y.mem q) := by
  intro w hS _
  refine (hf p.b p.cs p.cap p.B m h.own (by omega) w (hS.pick1 (i := 0) rfl) trivial).mono ?_
  rintro e w' ⟨y, rfl, ho, hS'⟩
  exact ⟨{ p with b := y.1, cs := y.2.1, cap := y.2.2, B := p.B ++ w2 m }, rfl, ⟨h.app ho, rfl, rfl⟩, by simpa [setN, Pk.mem] using hS.frame1 (i := 0) (E := []) rfl hS'⟩
theorem pk32m (q : Option Nat) (p : Pk) (hole : Hole) (h : p.ok hole q) (hB : p.B.length ≤ 4294967296) (m : Nat) :
    Ct (β := Pk) Tryz.prog 144 [p.sl, .int .u32 m] (p.mem q) (fun _ => True) (fun y => y.sl) (fun y _ => y.ok hole q ∧ y.B = p.B ++ w4 m ∧ y.ms = p.ms) (fun y => y.mem q) := by
  intro w hS _
  refine (packUint32_ok p.b p.cs p.cap p.B m h.own (by omega) w (hS.pick1 (i := 0) rfl) trivial).mono ?_
  rintro e w' ⟨y, rfl, ho, hS'⟩
  exact ⟨{ p with b := y.1, cs := y.2.1, cap := y.2.2, B := p.B ++ w4 m }, rfl, ⟨h.app ho, rfl, rfl⟩, by simpa [setN, Pk.mem] using hS.frame1 (i := 0) (E := []) rfl hS'⟩
theorem rhPack (q : Option Nat) (hb ho : Nat) (s : Bs) (t c ttl len : Nat) (hs : NmOk s) (hl : nlab s ≤ 10) (k : Nat) (p : Pk) (h : p.ok ⟨k, none⟩ q) (hB : p.B.length + 300 ≤ 4294967296) :
    Ct (β := Pk) Tryz.prog 106 [.pointer (some ⟨hb, ho, none⟩), p.sl, .map q, .int .i64 0] (p.mem q) (fun w => RowAt (view (keys (p.mem q)) w) hb ho (rhCells s t c ttl len)) (fun y => .tuple #[y.sl, .int .i64 ((y.B.length - 2 : Nat) : Int), .nilIface])
      (fun y _ => y.ok ⟨k, some (y.B.length - 2)⟩ q ∧ (∃ E, y.B = p.B ++ E ∧ E.length ≤ 266) ∧ ∃ o1, NmAt (kn y.B ⟨k, some (y.B.length - 2)⟩) p.B.length s o1 ∧ BytesAt (kn y.B ⟨k, some (y.B.length - 2)⟩) o1 (w2 t ++ (w2 c ++ w4 ttl)) ∧ y.B.length = o1 + 10) (fun y => y.mem q) := by
  intro w hS hr
  have hs2 := hs.len
  have h255 : s.length ≤ 255 := by omega
  refine calls_of_T (m := 57) Tryz.func106 rfl rfl (by simp) hS ?_
  repeat (first | refine za rfl rfl ?_ | refine zb rfl ?_ | refine zc rfl ?_)
  refine TL.callS [] Tryz.call103 rfl rfl rfl rfl (namePack' q hb (ho + 0) s hs hl p ⟨k, none⟩ h (by omega)) (fun w' hA => (hr.part (rh_name h255) rfl).mono (st_viewLe hA (Mc := p.mem q) fun _ hp => hp)) (fun y1 => TL.and fun ⟨ok1, ⟨E1, hE1, hL1⟩, n1⟩ => ?_)
  have l1 : y1.B.length = p.B.length + E1.length := by rw [hE1]; simp
  repeat (first | refine za rfl rfl ?_ | refine zb rfl ?_ | refine zc rfl ?_)
  refine T.condF rfl rfl ?_
  repeat (first | refine za rfl rfl ?_ | refine zb rfl ?_ | refine zc rfl ?_)
  refine TL.ldR (hr.one (i := 256) (rh_at h255 0) rfl) szk rfl rfl rfl rfl ?_
  refine TL.callS [] Tryz.call104 rfl rfl rfl rfl (pk16m 104 packType_ok q y1 ⟨k, none⟩ ok1 (by omega) t) (fun _ _ => trivial) (fun y2 => TL.and fun ⟨ok2, e2, m2⟩ => ?_)
  repeat (first | refine za rfl rfl ?_ | refine zb rfl ?_ | refine zc rfl ?_)
  refine TL.ldR (hr.one (i := 257) (rh_at h255 1) rfl) szk rfl rfl rfl rfl ?_
  have l2 : y2.B.length = y1.B.length + 2 := by rw [e2]; simp [w2]
  refine TL.callS [] Tryz.call105 rfl rfl rfl rfl (pk16m 105 packClass_ok q y2 ⟨k, none⟩ ok2 (by omega) c) (fun _ _ => trivial) (fun y3 => TL.and fun ⟨ok3, e3, m3⟩ => ?_)
  repeat (first | refine za rfl rfl ?_ | refine zb rfl ?_ | refine zc rfl ?_)
  refine TL.ldR (hr.one (i := 258) (rh_at h255 2) rfl) szk rfl rfl rfl rfl ?_
  have l3 : y3.B.length = y2.B.length + 2 := by rw [e3]; simp [w2]
  refine TL.callS [] Tryz.call144 rfl rfl rfl rfl (pk32m q y3 ⟨k, none⟩ ok3 (by omega) ttl) (fun _ _ => trivial) (fun y4 => TL.and fun ⟨ok4, e4, m4⟩ => ?_)
  have l4 : y4.B.length = y3.B.length + 4 := by rw [e4]; simp [w4]
  repeat (first | refine za rfl rfl ?_ | refine zb rfl ?_ | refine zc rfl ?_)
  refine TL.ldR (hr.one (i := 259) (rh_at h255 3) rfl) szk rfl rfl rfl rfl ?_
  refine TL.callS [] Tryz.call102 rfl rfl rfl rfl (pk16m 102 packUint16_ok q y4 ⟨k, none⟩ ok4 (by omega) len) (fun _ _ => trivial) (fun y5 => TL.and fun ⟨ok5, e5, m5⟩ => ?_)
  have l5 : y5.B.length = y4.B.length + 2 := by rw [e5]; simp [w2]
  repeat (first | refine za rfl rfl ?_ | refine zb rfl ?_ | refine zc rfl ?_)
  have e : y5.B = y1.B ++ (w2 t ++ (w2 c ++ (w4 ttl ++ w2 len))) := by rw [e5, e4, e3, e2]; simp
  have hle : KM.le (kn y1.B ⟨k, none⟩) (kn y5.B ⟨k, some (y5.B.length - 2)⟩) := by rw [e]; exact kn_behind _ _ _ _ (by simp [w2, w4])
  have hle4 : KM.le (kn y4.B ⟨k, none⟩) (kn y5.B ⟨k, some (y5.B.length - 2)⟩) := by rw [e5]; exact kn_behind _ _ _ _ (by simp [w2])
  refine T.ret Tryz.func106 rfl (fun w hA => ⟨y5, ?_, ⟨⟨ok5.own, ok5.mp, fun e' he' => ?_, ok5.emp, ⟨by have := ok5.hole.base; exact this, fun o ho => by cases ho; omega⟩⟩, ⟨E1 ++ (w2 t ++ (w2 c ++ (w4 ttl ++ w2 len))), by rw [e, hE1]; simp, by simp [w2, w4]; omega⟩, y1.B.length, n1.mono hle, ?_, by omega⟩, hA⟩)
  · simp only [pack]
    rw [show y5.B.length - 2 = y4.B.length by omega]
  · rw [m5, m4, m3, m2] at he'
    exact (ok1.ent e' he').mono hle
  · refine BytesAt.mono hle4 ?_
    have e' : y4.B = y1.B ++ (w2 t ++ (w2 c ++ w4 ttl)) := by rw [e4, e3, e2]; simp
    rw [e']; exact ok1.new _
def qCells (s : Bs) (t c : Nat) : List Value := nameCells s ++ [.int .u16 t, .int .u16 c]
theorem q_name {s : Bs} {t c : Nat} (hs : s.length ≤ 255) : ∀ j v, nth (nameCells s) j = some v → nth (qCells s t c) (0 + j) = some v := fun j v h => by
  rw [nth_eq] at *
  rw [qCells, Nat.zero_add, List.getElem?_append_left (List.getElem?_eq_some_iff.1 h).1]; exact h
theorem q_at {s : Bs} {t c : Nat} (hs : s.length ≤ 255) (i : Nat) : nth (qCells s t c) (256 + i) = nth [.int .u16 t, .int .u16 c] i := by
  rw [nth_eq, nth_eq, qCells, List.getElem?_append_right (by rw [nameCells_length hs]; omega), nameCells_length hs, Nat.add_sub_cancel_left]
theorem qPack (q : Option Nat) (hb ho : Nat) (a : Ak) (ha : a.Ok) (k : Nat) (p : Pk) (h : p.ok ⟨k, none⟩ q) (hB : p.B.length + 300 ≤ 4294967296) :
    Ct (β := Pk) Tryz.prog 54 [.pointer (some ⟨hb, ho, none⟩), p.sl, .map q, .int .i64 0] (p.mem q) (fun w => RowAt (view (keys (p.mem q)) w) hb ho (qCells a.name a.typ a.cls)) PkV
      (fun y _ => y.ok ⟨k, none⟩ q ∧ (∃ E, y.B = p.B ++ E ∧ E.length ≤ 266) ∧ AskAt (kn y.B ⟨k, none⟩) a p.B.length y.B.length) (fun y => y.mem q) := by
  intro w hS hr
  have hs2 := ha.name.len
  have h255 : a.name.length ≤ 255 := by omega
  refine calls_of_T (m := 40) Tryz.func54 rfl rfl (by simp) hS ?_
  repeat (first | refine za rfl rfl ?_ | refine zb rfl ?_ | refine zc rfl ?_)
  refine TL.callS [] Tryz.call103 rfl rfl rfl rfl (namePack' q hb (ho + 0) a.name ha.name ha.nlab p ⟨k, none⟩ h (by omega)) (fun w' hA => (hr.part (q_name h255) rfl).mono (st_viewLe hA (Mc := p.mem q) fun _ hp => hp)) (fun y1 => TL.and fun ⟨ok1, ⟨E1, hE1, hL1⟩, n1⟩ => ?_)
  have l1 : y1.B.length = p.B.length + E1.length := by rw [hE1]; simp
  repeat (first | refine za rfl rfl ?_ | refine zb rfl ?_ | refine zc rfl ?_)
  refine T.condF rfl rfl ?_
  repeat (first | refine za rfl rfl ?_ | refine zb rfl ?_ | refine zc rfl ?_)
  refine TL.ldR (hr.one (i := 256) (q_at h255 0) rfl) szk rfl rfl rfl rfl ?_
  refine TL.callS [] Tryz.call104 rfl rfl rfl rfl (pk16 104 packType_ok q y1 ⟨k, none⟩ ok1 (by omega) a.typ) (fun _ _ => trivial) (fun y2 => TL.and fun ⟨ok2, e2⟩ => ?_)
  have l2 : y2.B.length = y1.B.length + 2 := by rw [e2]; simp [w2]
  repeat (first | refine za rfl rfl ?_ | refine zb rfl ?_ | refine zc rfl ?_)
  refine TL.ldR (hr.one (i := 257) (q_at h255 1) rfl) szk rfl rfl rfl rfl ?_
  refine TL.callS [] Tryz.call105 rfl rfl rfl rfl (pk16 105 packClass_ok q y2 ⟨k, none⟩ ok2 (by omega) a.cls) (fun _ _ => trivial) (fun y3 => TL.and fun ⟨ok3, e3⟩ => ?_)
  have l3 : y3.B.length = y2.B.length + 2 := by rw [e3]; simp [w2]
  repeat (first | refine za rfl rfl ?_ | refine zb rfl ?_ | refine zc rfl ?_)
  have e : y3.B = y1.B ++ (w2 a.typ ++ w2 a.cls) := by rw [e3, e2]; simp
  refine T.ret Tryz.func54 rfl (fun w hA => ⟨y3, rfl, ⟨ok3, ⟨E1 ++ (w2 a.typ ++ w2 a.cls), by rw [e, hE1]; simp, by simp [w2]; omega⟩, y1.B.length, ?_, ?_, by omega⟩, hA⟩)
  · rw [e]; exact n1.mono (kn_append _ _ _)
  · rw [e]; exact ok1.new _
end X
namespace X
theorem packUint16_in (b off cap : Nat) (cs : List Value) (m : Nat) (hfit : off + 2 ≤ cs.length) (hcap : 2 ≤ cap) :
    Ct (β := Unit) Tryz.prog 102 [.slice (some ⟨b, off, none⟩) 0 cap, .int .u16 m] [(b, .row cs 5)] (fun _ => True) (fun _ => .slice (some ⟨b, off, none⟩) 2 cap) (fun _ _ => True) (fun _ => [(b, .row (splice cs off ((w2 m).map bv)) 5)]) := by
  intro w hS _
  refine calls_of_T (m := 13) Tryz.func102 rfl rfl (by simp) hS ?_
  repeat (first | refine za rfl rfl ?_ | refine zb rfl ?_ | refine zc rfl ?_)
  refine TL.bs el37 rfl rfl (by intro v hv; simp at hv; rcases hv with rfl | rfl <;> rfl) (by simp) rfl rfl (fun b1 => ?_)
  have e1 := byte_of (m / 256) ((m : Int).fdiv (2 ^ min 8 IntKind.u16.bits)) (by rw [shr16]; omega)
  have e2 := byte_of m (m : Int) (by omega)
  refine TL.appendIn (news := (w2 m).map bv) (m := 2) 1 el37 sl37 rfl rfl rfl rfl rfl (src_block (i := 0) (E := w2 m) rfl (by simp [w2, e1, e2])) (by omega) (by omega) ?_
  repeat (first | refine za rfl rfl ?_ | refine zb rfl ?_ | refine zc rfl ?_)
  refine T.ret Tryz.func102 rfl (fun w hA => ⟨(), ?_, trivial, hA.sub (by simp [setN])⟩)
  simp [pack]
/-- The bytes with a length put in. -/
def putLen (B : Bs) (o m : Nat) : Bs := B.take o ++ (w2 m ++ B.drop (o + 2))
theorem putLen_length {B : Bs} {o m : Nat} (h : o + 2 ≤ B.length) : (putLen B o m).length = B.length := by simp [putLen, w2]; omega
theorem putLen_out {B : Bs} {o m i : Nat} (h : o + 2 ≤ B.length) (hi : i < o ∨ o + 2 ≤ i) : (putLen B o m)[i]? = B[i]? := by
  have hl : (List.take o B).length = o := by simp; omega
  unfold putLen
  rcases hi with hi | hi
  · rw [List.getElem?_append_left (by omega), List.getElem?_take, if_pos hi]
  · rw [List.getElem?_append_right (by omega), List.getElem?_append_right (by simp [w2]; omega), List.getElem?_drop, hl]
    congr 1; simp [w2]; omega
theorem putLen_le {B : Bs} {k o m : Nat} (h : o + 2 ≤ B.length) : KM.le (kn B ⟨k, some o⟩) (kn (putLen B o m) ⟨k, none⟩) := by
  intro i b hb
  obtain ⟨h1, h2⟩ := kn_some hb
  refine kn_of (fun hx => ?_) ?_
  · rcases hx with hx | ⟨o', ho, _⟩
    · exact h1 (.inl hx)
    · cases ho
  · rw [putLen_out h]
    · exact h2
    · rcases Nat.lt_or_ge i o with h3 | h3
      · exact .inl h3
      · rcases Nat.lt_or_ge i (o + 2) with h4 | h4
        · exact (h1 (.inr ⟨o, rfl, h3, h4⟩)).elim
        · exact .inr h4
theorem putLen_get {B : Bs} {o m : Nat} (h : o + 2 ≤ B.length) {i : Nat} {b : UInt8} (hb : (w2 m)[i]? = some b) : (putLen B o m)[o + i]? = some b := by
  have hl : (List.take o B).length = o := by simp; omega
  have hi := (List.getElem?_eq_some_iff.1 hb).1
  unfold putLen
  rw [List.getElem?_append_right (by omega), hl, Nat.add_sub_cancel_left, List.getElem?_append_left hi]; exact hb
theorem putLen_at {B : Bs} {k o m : Nat} (h : o + 2 ≤ B.length) (hk : k ≤ o) : BytesAt (kn (putLen B o m) ⟨k, none⟩) o (w2 m) := by
  intro i b hb
  refine kn_of (fun hx => ?_) (putLen_get h hb)
  rcases hx with hx | ⟨o', ho, _⟩
  · simp only at hx; omega
  · cases ho
theorem own_putLen {cs : List Value} {B : Bs} {cap o m : Nat} (h : OwnB cs B cap) (ho : o + 2 ≤ B.length) : OwnB (splice cs o ((w2 m).map bv)) (putLen B o m) cap := by
  have hl := h.length
  have hr := h.room
  have hle := h.le
  have hlen : ((w2 m).map bv).length = 2 := rfl
  have htk := h.take
  have hcs : B.length ≤ cs.length := by omega
  refine ⟨?_, by simp, by rw [splice_length (by rw [hlen]; omega)]; exact hr, by rw [putLen_length ho]; exact hle⟩
  rw [putLen_length ho]
  apply List.ext_getElem?
  intro i
  rw [List.getElem?_take]
  split
  · rename_i hi
    rw [splice_get (by rw [hlen]; omega), hlen]
    have hB : (B.map bv)[i]? = cs[i]? := by rw [← htk, List.getElem?_take, if_pos (by omega)]
    split
    · rename_i hx
      rw [List.getElem?_map, List.getElem?_map]
      congr 1
      have := putLen_get (B := B) (o := o) (m := m) ho (i := i - o) (b := (w2 m)[i - o]'(by simp [w2]; omega)) (by simp)
      rw [show o + (i - o) = i by omega] at this
      rw [this]; simp
    · rename_i hx
      rw [← hB, List.getElem?_map, List.getElem?_map, putLen_out ho (by omega)]
  · rename_i hi
    rw [List.getElem?_eq_none (by rw [List.length_map, putLen_length ho]; omega)]
theorem fixLen (q : Option Nat) (hb ho : Nat) (hcs : List Value) (ht : TypeId) (hh : ho + 260 ≤ hcs.length) (k : Nat) (p : Pk) (o : Nat) (h : p.ok ⟨k, some o⟩ q) (hB : p.B.length ≤ 4294967296) (hlen : p.B.length ≤ o + 2 + 65535) :
    Ct (β := Pk) Tryz.prog 107 [.pointer (some ⟨hb, ho, none⟩), p.sl, .int .i64 (o : Int), .int .i64 ((o + 2 : Nat) : Int)] ((hb, .row hcs ht) :: p.mem q) (fun _ => True) (fun _ => .nilIface)
      (fun y _ => y.ok ⟨k, none⟩ q ∧ y.B = putLen p.B o (p.B.length - (o + 2)) ∧ y.sl = p.sl)
      (fun y => (hb, .row (setN hcs (ho + 259) (.int .u16 ((p.B.length - (o + 2) : Nat) : Int))) ht) :: y.mem q) := by
  intro w hS _
  have hol := h.hole.gap o rfl
  have hroom := h.own.room
  have hle := h.own.le
  refine calls_of_T (m := 29) Tryz.func107 rfl rfl (by simp) hS ?_
  repeat (first | refine za rfl rfl ?_ | refine zb rfl ?_ | refine zc rfl ?_)
  rw [sub_i64 (a := p.B.length) (b := o + 2) (by omega) (by omega)]
  refine T.condF rfl (by simp; omega) ?_
  repeat (first | refine za rfl rfl ?_ | refine zb rfl ?_ | refine zc rfl ?_)
  refine TL.sl (l := o) (m := o) tbk rfl rfl rfl rfl (by exact ⟨_, rfl⟩) (by exact ⟨_, rfl⟩) (Nat.le_refl _) (by omega) (fun pp hp _ => ?_)
  rw [hp (by omega)]
  rw [show o - o = 0 by omega, show 0 + o * 1 = o by omega]
  repeat (first | refine za rfl rfl ?_ | refine zb rfl ?_ | refine zc rfl ?_)
  rw [u16_in ((p.B.length - (o + 2) : Nat) : Int) (by omega) (by omega)]
  refine TL.call1 1 Tryz.call102 rfl rfl rfl rfl (packUint16_in p.b o (p.cap - o) p.cs (p.B.length - (o + 2)) (by omega) (by omega)) (fun _ _ => trivial) (fun _ => TL.and fun _ => ?_)
  repeat (first | refine za rfl rfl ?_ | refine zb rfl ?_ | refine zc rfl ?_)
  rw [u16_in ((p.B.length - (o + 2) : Nat) : Int) (by omega) (by omega)]
  refine TL.st 0 szk rfl rfl rfl rfl rfl (by simp; omega) ?_
  repeat (first | refine za rfl rfl ?_ | refine zb rfl ?_ | refine zc rfl ?_)
  have hown := own_putLen (m := p.B.length - (o + 2)) h.own hol
  refine T.ret Tryz.func107 rfl (fun w hA => ⟨{ p with B := putLen p.B o (p.B.length - (o + 2)), cs := splice p.cs o ((w2 (p.B.length - (o + 2))).map bv) }, rfl, ⟨⟨hown, h.mp, fun e he => (h.ent e he).mono (putLen_le hol), h.emp, ⟨by rw [putLen_length hol]; exact h.hole.base, fun o e => by cases e⟩⟩, rfl, ?_⟩, hA⟩)
  simp only [Pk.sl]
  rw [putLen_length hol]
section
variable {P : Program} {f : FuncId} {n : Nat} {R : Ending → World → Prop} {k : List Item} {L : Fr} {A : World → Prop} {X : List Nat} {w0 : World} {M : Mem} {ops : Array Oper} {rest : List Oper}
variable {fn : FuncId} {xs : Array Operand} {ts : Array TypeId} {d : Nat} {ty : TypeId} {pos : String} {af : Array Edge} {g : Option (Nat × Bool)} {vs : List Value} {v : Pk → Value} {pre : World → Prop} {post : Pk → World → Prop}
/-- A call that packs without the map: of our blocks it takes the buffer's alone. -/
theorem TL.call2N {p : Pk} (i : Nat) (hcall : ∀ (ax : Array Value) w, (callFunc fn ax).run P w = .ok (.enter fn ax) w) (hx : evs L xs.toList = some vs) (hn : d.blt n = true) (hw : want ops L g = some true)
    (hi : nth M i = some (p.b, .row p.cs 5)) (hc : Ct P fn vs (p.mem none) pre v post (fun y => y.mem none)) (hpre : ∀ w, St X w0 M w → pre w) (h : ∀ y : Pk, TL P f n R k ops rest ((d, v y) :: L) (fun w => post y w ∧ St X w0 (setN M i (y.b, .row y.cs 5)) w)) :
    TL P f n R k ops (⟨some d, .call { callee := .value (.func fn), args := xs, argTypes := ts }, ty, pos, af, g⟩ :: rest) L (St X w0 M) :=
  TL.call hcall hx hn hw (use1 (E := fun _ => []) i hi hc hpre) h
end
end X
namespace X
/-- The cells of a body's struct; xv: the slice in it, where there is one. -/
def bodyCells (r : Rc) (xv : Value) : List Value := match r.kind.toNat with
  | 1 => (fix 4 r.data).map bv
  | 2 => nameCells r.host
  | 3 => nameCells r.host
  | 4 => nameCells r.host ++ (nameCells r.box ++ [.int .u32 r.n1, .int .u32 r.n2, .int .u32 r.n3, .int .u32 r.n4, .int .u32 r.n5])
  | 5 => nameCells r.host
  | 6 => .int .u16 ((r.n1 % 65536 : Nat) : Int) :: nameCells r.host
  | 7 => [xv]
  | 8 => (fix 16 r.data).map bv
  | 9 => [.int .u16 ((r.n1 % 65536 : Nat) : Int), .int .u16 ((r.n2 % 65536 : Nat) : Int), .int .u16 ((r.n3 % 65536 : Nat) : Int)] ++ nameCells r.host
  | 10 => [xv]
  | 11 => .int .u16 ((r.n1 % 65536 : Nat) : Int) :: (nameCells r.host ++ [xv])
  | 12 => .int .u16 ((r.n1 % 65536 : Nat) : Int) :: (nameCells r.host ++ [xv])
  | _ => [.int .u16 (r.typ : Int), xv]
def bodyX (h : View) (r : Rc) (xv : Value) : Prop := match r.kind.toNat with
  | 7 => SlS h xv r.texts
  | 10 => SlP h xv r.pairs
  | 11 => SlP h xv r.pairs
  | 12 => SlP h xv r.pairs
  | 1 => True
  | 2 => True
  | 3 => True
  | 4 => True
  | 5 => True
  | 6 => True
  | 8 => True
  | 9 => True
  | _ => SlB h xv r.data
theorem bodyX_mono {h h' : View} (hh : View.le h h') {r : Rc} {xv : Value} (k : bodyX h r xv) : bodyX h' r xv := by
  unfold bodyX at *
  split at k <;> first | trivial | exact k.mono hh
/-- A body in memory. -/
def BodyMem (h : View) (rb ro : Nat) (r : Rc) : Prop := ∃ xv, RowAt h rb ro (bodyCells r xv) ∧ bodyX h r xv
theorem BodyMem.mono {h h' : View} (hh : View.le h h') {rb ro : Nat} {r : Rc} (k : BodyMem h rb ro r) : BodyMem h' rb ro r := let ⟨x, a, b⟩ := k; ⟨x, a.mono hh, bodyX_mono hh b⟩
theorem w2_mod (n : Nat) : w2 (n % 65536) = w2 n := by
  have e1 : UInt8.ofNat (n % 65536 / 256) = UInt8.ofNat (n / 256) := by apply UInt8.toNat_inj.1; simp; omega
  have e2 : UInt8.ofNat (n % 65536) = UInt8.ofNat n := by apply UInt8.toNat_inj.1; simp
  rw [w2, w2, e1, e2]
abbrev bodyPost (r : Rc) (p : Pk) (hole : Hole) (q : Option Nat) (y : Pk) : Prop := y.ok hole q ∧ (∃ E, y.B = p.B ++ E ∧ E.length ≤ 3000) ∧ BodyAt (kn y.B hole) r p.B.length y.B.length
abbrev bodyPre (r : Rc) (p : Pk) (q : Option Nat) (rb ro : Nat) (w : World) : Prop := BodyMem (view (keys (p.mem q)) w) rb ro r
abbrev bodyArgs (p : Pk) (q : Option Nat) (rb ro : Nat) : List Value := [.pointer (some ⟨rb, ro, none⟩), p.sl, .map q, .int .i64 0]
abbrev BodyCt (fn : FuncId) (r : Rc) (q : Option Nat) (p : Pk) (hole : Hole) (rb ro : Nat) : Prop :=
  Ct (β := Pk) Tryz.prog fn (bodyArgs p q rb ro) (p.mem q) (bodyPre r p q rb ro) PkV (fun y _ => bodyPost r p hole q y) (fun y => y.mem q)
theorem packNS (q : Option Nat) (rb ro : Nat) (r : Rc) (hr : r.Ok) (hk : r.kind = 2) (p : Pk) (hole : Hole) (h : p.ok hole q) (hB : p.B.length + 4000 ≤ 4294967296) : BodyCt 112 r q p hole rb ro := by
  intro w hS ⟨xv, hrow, _⟩
  have hk' : r.kind.toNat = 2 := by rw [hk]; rfl
  obtain ⟨hn, hl⟩ := hr.host (by rw [hk]; decide)
  have hs2 := hn.len
  simp only [bodyCells, hk'] at hrow
  refine calls_of_T (m := 19) Tryz.func112 rfl rfl (by simp) hS ?_
  repeat (first | refine za rfl rfl ?_ | refine zb rfl ?_ | refine zc rfl ?_)
  refine TL.callS [] Tryz.call103 rfl rfl rfl rfl (namePack' q rb (ro + 0) r.host hn hl p hole h (by omega)) (fun w' hA => hrow.mono (st_viewLe hA (Mc := p.mem q) fun _ hp => hp)) (fun y1 => TL.and fun ⟨ok1, ⟨E1, hE1, hL1⟩, n1⟩ => ?_)
  repeat (first | refine za rfl rfl ?_ | refine zb rfl ?_ | refine zc rfl ?_)
  refine T.ret Tryz.func112 rfl (fun w hA => ⟨y1, rfl, ⟨ok1, ⟨E1, hE1, by omega⟩, ?_⟩, hA⟩)
  simp only [BodyAt, hk']
  exact n1
theorem packCNAME (q : Option Nat) (rb ro : Nat) (r : Rc) (hr : r.Ok) (hk : r.kind = 3) (p : Pk) (hole : Hole) (h : p.ok hole q) (hB : p.B.length + 4000 ≤ 4294967296) : BodyCt 114 r q p hole rb ro := by
  intro w hS ⟨xv, hrow, _⟩
  have hk' : r.kind.toNat = 3 := by rw [hk]; rfl
  obtain ⟨hn, hl⟩ := hr.host (by rw [hk]; decide)
  have hs2 := hn.len
  simp only [bodyCells, hk'] at hrow
  refine calls_of_T (m := 19) Tryz.func114 rfl rfl (by simp) hS ?_
  repeat (first | refine za rfl rfl ?_ | refine zb rfl ?_ | refine zc rfl ?_)
  refine TL.callS [] Tryz.call103 rfl rfl rfl rfl (namePack' q rb (ro + 0) r.host hn hl p hole h (by omega)) (fun w' hA => hrow.mono (st_viewLe hA (Mc := p.mem q) fun _ hp => hp)) (fun y1 => TL.and fun ⟨ok1, ⟨E1, hE1, hL1⟩, n1⟩ => ?_)
  repeat (first | refine za rfl rfl ?_ | refine zb rfl ?_ | refine zc rfl ?_)
  refine T.ret Tryz.func114 rfl (fun w hA => ⟨y1, rfl, ⟨ok1, ⟨E1, hE1, by omega⟩, ?_⟩, hA⟩)
  simp only [BodyAt, hk']
  exact n1
theorem packPTR (q : Option Nat) (rb ro : Nat) (r : Rc) (hr : r.Ok) (hk : r.kind = 5) (p : Pk) (hole : Hole) (h : p.ok hole q) (hB : p.B.length + 4000 ≤ 4294967296) : BodyCt 118 r q p hole rb ro := by
  intro w hS ⟨xv, hrow, _⟩
  have hk' : r.kind.toNat = 5 := by rw [hk]; rfl
  obtain ⟨hn, hl⟩ := hr.host (by rw [hk]; decide)
  have hs2 := hn.len
  simp only [bodyCells, hk'] at hrow
  refine calls_of_T (m := 19) Tryz.func118 rfl rfl (by simp) hS ?_
  repeat (first | refine za rfl rfl ?_ | refine zb rfl ?_ | refine zc rfl ?_)
  refine TL.callS [] Tryz.call103 rfl rfl rfl rfl (namePack' q rb (ro + 0) r.host hn hl p hole h (by omega)) (fun w' hA => hrow.mono (st_viewLe hA (Mc := p.mem q) fun _ hp => hp)) (fun y1 => TL.and fun ⟨ok1, ⟨E1, hE1, hL1⟩, n1⟩ => ?_)
  repeat (first | refine za rfl rfl ?_ | refine zb rfl ?_ | refine zc rfl ?_)
  refine T.ret Tryz.func118 rfl (fun w hA => ⟨y1, rfl, ⟨ok1, ⟨E1, hE1, by omega⟩, ?_⟩, hA⟩)
  simp only [BodyAt, hk']
  exact n1
theorem packA (q : Option Nat) (rb ro : Nat) (r : Rc) (hr : r.Ok) (hk : r.kind = 1) (p : Pk) (hole : Hole) (h : p.ok hole q) (hB : p.B.length + 4000 ≤ 4294967296) : BodyCt 110 r q p hole rb ro := by
  intro w hS ⟨xv, hrow, _⟩
  have hk' : r.kind.toNat = 1 := by rw [hk]; rfl
  have hfl := fix_length 4 r.data
  simp only [bodyCells, hk'] at hrow
  refine calls_of_T (m := 16) Tryz.func110 rfl rfl (by simp) hS ?_
  repeat (first | refine za rfl rfl ?_ | refine zb rfl ?_ | refine zc rfl ?_)
  refine TL.slA tbk rfl rfl rfl rfl ?_
  refine TL.callS [] Tryz.call145 rfl rfl rfl rfl (pkBytes q p hole h (.slice (some ⟨rb, ro, none⟩) 4 4) (fix 4 r.data) (by omega)) (fun w' hA => .inr ⟨rb, ro, 4, by rw [hfl], by omega, hrow.mono (st_viewLe hA (Mc := p.mem q) fun _ hp => hp)⟩) (fun y1 => TL.and fun ⟨ok1, e1⟩ => ?_)
  repeat (first | refine za rfl rfl ?_ | refine zb rfl ?_ | refine zc rfl ?_)
  refine T.ret Tryz.func110 rfl (fun w hA => ⟨y1, rfl, ⟨ok1, ⟨_, e1, by omega⟩, ?_⟩, hA⟩)
  simp only [BodyAt, hk']
  refine ⟨by rw [e1]; exact h.new _, by rw [e1, List.length_append, hfl]⟩
theorem packAAAA (q : Option Nat) (rb ro : Nat) (r : Rc) (hr : r.Ok) (hk : r.kind = 8) (p : Pk) (hole : Hole) (h : p.ok hole q) (hB : p.B.length + 4000 ≤ 4294967296) : BodyCt 124 r q p hole rb ro := by
  intro w hS ⟨xv, hrow, _⟩
  have hk' : r.kind.toNat = 8 := by rw [hk]; rfl
  have hfl := fix_length 16 r.data
  simp only [bodyCells, hk'] at hrow
  refine calls_of_T (m := 16) Tryz.func124 rfl rfl (by simp) hS ?_
  repeat (first | refine za rfl rfl ?_ | refine zb rfl ?_ | refine zc rfl ?_)
  refine TL.slA tbk rfl rfl rfl rfl ?_
  refine TL.callS [] Tryz.call145 rfl rfl rfl rfl (pkBytes q p hole h (.slice (some ⟨rb, ro, none⟩) 16 16) (fix 16 r.data) (by omega)) (fun w' hA => .inr ⟨rb, ro, 16, by rw [hfl], by omega, hrow.mono (st_viewLe hA (Mc := p.mem q) fun _ hp => hp)⟩) (fun y1 => TL.and fun ⟨ok1, e1⟩ => ?_)
  repeat (first | refine za rfl rfl ?_ | refine zb rfl ?_ | refine zc rfl ?_)
  refine T.ret Tryz.func124 rfl (fun w hA => ⟨y1, rfl, ⟨ok1, ⟨_, e1, by omega⟩, ?_⟩, hA⟩)
  simp only [BodyAt, hk']
  refine ⟨by rw [e1]; exact h.new _, by rw [e1, List.length_append, hfl]⟩
theorem packMX (q : Option Nat) (rb ro : Nat) (r : Rc) (hr : r.Ok) (hk : r.kind = 6) (p : Pk) (hole : Hole) (h : p.ok hole q) (hB : p.B.length + 4000 ≤ 4294967296) : BodyCt 120 r q p hole rb ro := by
  intro w hS ⟨xv, hrow, _⟩
  have hk' : r.kind.toNat = 6 := by rw [hk]; rfl
  obtain ⟨hn, hl⟩ := hr.host (by rw [hk]; decide)
  have hs2 := hn.len
  simp only [bodyCells, hk'] at hrow
  refine calls_of_T (m := 37) Tryz.func120 rfl rfl (by simp) hS ?_
  repeat (first | refine za rfl rfl ?_ | refine zb rfl ?_ | refine zc rfl ?_)
  refine TL.ldR (hrow.one (i := 0) rfl rfl) szk rfl rfl rfl rfl ?_
  refine TL.callS [] Tryz.call102 rfl rfl rfl rfl (pk16 102 packUint16_ok q p hole h (by omega) (r.n1 % 65536)) (fun _ _ => trivial) (fun y1 => TL.and fun ⟨ok1, e1⟩ => ?_)
  have l1 : y1.B.length = p.B.length + 2 := by rw [e1]; simp [w2]
  repeat (first | refine za rfl rfl ?_ | refine zb rfl ?_ | refine zc rfl ?_)
  refine TL.callS [] Tryz.call103 rfl rfl rfl rfl (namePack' q rb (ro + 1) r.host hn hl y1 hole ok1 (by omega)) (fun w' hA => (hrow.part (i := 1) (us := nameCells r.host) (fun j v hj => by rw [Nat.add_comm]; exact hj) rfl).mono (st_viewLe hA (Mc := y1.mem q) fun _ hp => hp)) (fun y2 => TL.and fun ⟨ok2, ⟨E2, hE2, hL2⟩, n2⟩ => ?_)
  repeat (first | refine za rfl rfl ?_ | refine zb rfl ?_ | refine zc rfl ?_)
  refine T.condF rfl rfl ?_
  repeat (first | refine za rfl rfl ?_ | refine zb rfl ?_ | refine zc rfl ?_)
  refine T.ret Tryz.func120 rfl (fun w hA => ⟨y2, rfl, ⟨ok2, ⟨w2 (r.n1 % 65536) ++ E2, by rw [hE2, e1]; simp, by simp [w2]; omega⟩, ?_⟩, hA⟩)
  simp only [BodyAt, hk']
  refine ⟨?_, by rw [← l1]; exact n2⟩
  rw [← w2_mod]
  have := h.new (w2 (r.n1 % 65536))
  rw [← e1] at this
  exact this.mono (by rw [hE2]; exact kn_append _ _ _)
theorem packSOA (q : Option Nat) (rb ro : Nat) (r : Rc) (hr : r.Ok) (hk : r.kind = 4) (p : Pk) (hole : Hole) (h : p.ok hole q) (hB : p.B.length + 4000 ≤ 4294967296) : BodyCt 116 r q p hole rb ro := by
  intro w hS ⟨xv, hrow, _⟩
  have hk' : r.kind.toNat = 4 := by rw [hk]; rfl
  obtain ⟨hn, hl⟩ := hr.host (by rw [hk]; decide)
  obtain ⟨hbn, hbl⟩ := hr.box hk
  have hs2 := hn.len
  have hs3 := hbn.len
  simp only [bodyCells, hk'] at hrow
  have hn1 := nameCells_length (s := r.host) (by omega)
  have hn2 := nameCells_length (s := r.box) (by omega)
  have at1 : ∀ i, nth (nameCells r.host ++ (nameCells r.box ++ [.int .u32 r.n1, .int .u32 r.n2, .int .u32 r.n3, .int .u32 r.n4, .int .u32 r.n5])) (512 + i) = nth [.int .u32 r.n1, .int .u32 r.n2, .int .u32 r.n3, .int .u32 r.n4, .int .u32 r.n5] i := fun i => by
    rw [nth_eq, nth_eq, List.getElem?_append_right (by omega), List.getElem?_append_right (by omega), hn1, hn2]
    rw [show 512 + i - 256 - 256 = i by omega]
  refine calls_of_T (m := 77) Tryz.func116 rfl rfl (by simp) hS ?_
  repeat (first | refine za rfl rfl ?_ | refine zb rfl ?_ | refine zc rfl ?_)
  refine TL.callS [] Tryz.call103 rfl rfl rfl rfl (namePack' q rb (ro + 0) r.host hn hl p hole h (by omega)) (fun w' hA => (hrow.part (i := 0) (us := nameCells r.host) (fun j v hj => by
    rw [nth_eq] at *; rw [Nat.zero_add, List.getElem?_append_left (List.getElem?_eq_some_iff.1 hj).1]; exact hj) rfl).mono (st_viewLe hA (Mc := p.mem q) fun _ hp => hp)) (fun y1 => TL.and fun ⟨ok1, ⟨E1, hE1, hL1⟩, n1⟩ => ?_)
  have l1 : y1.B.length = p.B.length + E1.length := by rw [hE1]; simp
  repeat (first | refine za rfl rfl ?_ | refine zb rfl ?_ | refine zc rfl ?_)
  refine T.condF rfl rfl ?_
  repeat (first | refine za rfl rfl ?_ | refine zb rfl ?_ | refine zc rfl ?_)
  refine TL.callS [] Tryz.call103 rfl rfl rfl rfl (namePack' q rb (ro + 256) r.box hbn hbl y1 hole ok1 (by omega)) (fun w' hA => (hrow.part (i := 256) (us := nameCells r.box) (fun j v hj => by
    rw [nth_eq] at *; rw [List.getElem?_append_right (by omega), hn1, Nat.add_sub_cancel_left, List.getElem?_append_left (List.getElem?_eq_some_iff.1 hj).1]; exact hj) rfl).mono (st_viewLe hA (Mc := y1.mem q) fun _ hp => hp)) (fun y2 => TL.and fun ⟨ok2, ⟨E2, hE2, hL2⟩, n2⟩ => ?_)
  have l2 : y2.B.length = y1.B.length + E2.length := by rw [hE2]; simp
  repeat (first | refine za rfl rfl ?_ | refine zb rfl ?_ | refine zc rfl ?_)
  refine T.condF rfl rfl ?_
  repeat (first | refine za rfl rfl ?_ | refine zb rfl ?_ | refine zc rfl ?_)
  refine TL.ldR (hrow.one (i := 512) (at1 0) rfl) szk rfl rfl rfl rfl ?_
  refine TL.callS [] Tryz.call144 rfl rfl rfl rfl (pk32 q y2 hole ok2 (by omega) r.n1) (fun _ _ => trivial) (fun y3 => TL.and fun ⟨ok3, e3⟩ => ?_)
  have l3 : y3.B.length = y2.B.length + 4 := by rw [e3]; simp [w4]
  repeat (first | refine za rfl rfl ?_ | refine zb rfl ?_ | refine zc rfl ?_)
  refine TL.ldR (hrow.one (i := 513) (at1 1) rfl) szk rfl rfl rfl rfl ?_
  refine TL.callS [] Tryz.call144 rfl rfl rfl rfl (pk32 q y3 hole ok3 (by omega) r.n2) (fun _ _ => trivial) (fun y4 => TL.and fun ⟨ok4, e4⟩ => ?_)
  have l4 : y4.B.length = y3.B.length + 4 := by rw [e4]; simp [w4]
  repeat (first | refine za rfl rfl ?_ | refine zb rfl ?_ | refine zc rfl ?_)
  refine TL.ldR (hrow.one (i := 514) (at1 2) rfl) szk rfl rfl rfl rfl ?_
  refine TL.callS [] Tryz.call144 rfl rfl rfl rfl (pk32 q y4 hole ok4 (by omega) r.n3) (fun _ _ => trivial) (fun y5 => TL.and fun ⟨ok5, e5⟩ => ?_)
  have l5 : y5.B.length = y4.B.length + 4 := by rw [e5]; simp [w4]
  repeat (first | refine za rfl rfl ?_ | refine zb rfl ?_ | refine zc rfl ?_)
  refine TL.ldR (hrow.one (i := 515) (at1 3) rfl) szk rfl rfl rfl rfl ?_
  refine TL.callS [] Tryz.call144 rfl rfl rfl rfl (pk32 q y5 hole ok5 (by omega) r.n4) (fun _ _ => trivial) (fun y6 => TL.and fun ⟨ok6, e6⟩ => ?_)
  have l6 : y6.B.length = y5.B.length + 4 := by rw [e6]; simp [w4]
  repeat (first | refine za rfl rfl ?_ | refine zb rfl ?_ | refine zc rfl ?_)
  refine TL.ldR (hrow.one (i := 516) (at1 4) rfl) szk rfl rfl rfl rfl ?_
  refine TL.callS [] Tryz.call144 rfl rfl rfl rfl (pk32 q y6 hole ok6 (by omega) r.n5) (fun _ _ => trivial) (fun y7 => TL.and fun ⟨ok7, e7⟩ => ?_)
  have l7 : y7.B.length = y6.B.length + 4 := by rw [e7]; simp [w4]
  repeat (first | refine za rfl rfl ?_ | refine zb rfl ?_ | refine zc rfl ?_)
  have e : y7.B = y2.B ++ (w4 r.n1 ++ (w4 r.n2 ++ (w4 r.n3 ++ (w4 r.n4 ++ w4 r.n5)))) := by rw [e7, e6, e5, e4, e3]; simp
  refine T.ret Tryz.func116 rfl (fun w hA => ⟨y7, rfl, ⟨ok7, ⟨E1 ++ (E2 ++ (w4 r.n1 ++ (w4 r.n2 ++ (w4 r.n3 ++ (w4 r.n4 ++ w4 r.n5))))), by rw [e, hE2, hE1]; simp, by simp [w4]; omega⟩, ?_⟩, hA⟩)
  simp only [BodyAt, hk']
  refine ⟨y1.B.length, y2.B.length, n1.mono (by rw [e, hE2, List.append_assoc]; exact kn_append _ _ _), n2.mono (by rw [e]; exact kn_append _ _ _), by rw [e]; exact ok2.new _, by omega⟩
theorem packSRV (q : Option Nat) (rb ro : Nat) (r : Rc) (hr : r.Ok) (hk : r.kind = 9) (p : Pk) (hole : Hole) (h : p.ok hole q) (hB : p.B.length + 4000 ≤ 4294967296) : BodyCt 126 r q p hole rb ro := by
  intro w hS ⟨xv, hrow, _⟩
  have hk' : r.kind.toNat = 9 := by rw [hk]; rfl
  obtain ⟨hn, hl⟩ := hr.host (by rw [hk]; decide)
  have hs2 := hn.len
  simp only [bodyCells, hk'] at hrow
  refine calls_of_T (m := 48) Tryz.func126 rfl rfl (by simp) hS ?_
  repeat (first | refine za rfl rfl ?_ | refine zb rfl ?_ | refine zc rfl ?_)
  refine TL.ldR (hrow.one (i := 0) rfl rfl) szk rfl rfl rfl rfl ?_
  refine TL.callS [] Tryz.call102 rfl rfl rfl rfl (pk16 102 packUint16_ok q p hole h (by omega) (r.n1 % 65536)) (fun _ _ => trivial) (fun y1 => TL.and fun ⟨ok1, e1⟩ => ?_)
  have l1 : y1.B.length = p.B.length + 2 := by rw [e1]; simp [w2]
  repeat (first | refine za rfl rfl ?_ | refine zb rfl ?_ | refine zc rfl ?_)
  refine TL.ldR (hrow.one (i := 1) rfl rfl) szk rfl rfl rfl rfl ?_
  refine TL.callS [] Tryz.call102 rfl rfl rfl rfl (pk16 102 packUint16_ok q y1 hole ok1 (by omega) (r.n2 % 65536)) (fun _ _ => trivial) (fun y2 => TL.and fun ⟨ok2, e2⟩ => ?_)
  have l2 : y2.B.length = y1.B.length + 2 := by rw [e2]; simp [w2]
  repeat (first | refine za rfl rfl ?_ | refine zb rfl ?_ | refine zc rfl ?_)
  refine TL.ldR (hrow.one (i := 2) rfl rfl) szk rfl rfl rfl rfl ?_
  refine TL.callS [] Tryz.call102 rfl rfl rfl rfl (pk16 102 packUint16_ok q y2 hole ok2 (by omega) (r.n3 % 65536)) (fun _ _ => trivial) (fun y3 => TL.and fun ⟨ok3, e3⟩ => ?_)
  have l3 : y3.B.length = y2.B.length + 2 := by rw [e3]; simp [w2]
  repeat (first | refine za rfl rfl ?_ | refine zb rfl ?_ | refine zc rfl ?_)
  refine TL.call2N 0 Tryz.call103 rfl rfl rfl rfl (namePack' none rb (ro + 3) r.host hn hl { y3 with es := [], ck := 0, ms := [] } hole ⟨ok3.own, rfl, by simp, fun _ => rfl, ok3.hole⟩ (by show y3.B.length ≤ _; omega)) (fun w' hA => (hrow.part (i := 3) (us := nameCells r.host) (fun j v hj => by
    rw [nth_eq] at *; rw [List.getElem?_append_right (by simp)]; simpa using hj) rfl).mono (st_viewLe hA (Mc := [(y3.b, .row y3.cs 5)]) fun _ hp => by simp [Pk.mem] at hp ⊢; exact .inl hp)) (fun y4 => TL.and fun ⟨ok4, ⟨E4, hE4, hL4⟩, n4⟩ => ?_)
  simp only at hE4
  repeat (first | refine za rfl rfl ?_ | refine zb rfl ?_ | refine zc rfl ?_)
  refine T.condF rfl rfl ?_
  repeat (first | refine za rfl rfl ?_ | refine zb rfl ?_ | refine zc rfl ?_)
  have ok5 : ({ y4 with es := y3.es, ck := y3.ck, ms := y3.ms } : Pk).ok hole q := ⟨ok4.own, ok3.mp, fun e he => (ok3.ent e he).mono (by rw [hE4]; exact kn_append _ _ _), ok3.emp, ok4.hole⟩
  refine T.ret Tryz.func126 rfl (fun w hA => ⟨{ y4 with es := y3.es, ck := y3.ck, ms := y3.ms }, rfl, ⟨ok5, ⟨w2 (r.n1 % 65536) ++ (w2 (r.n2 % 65536) ++ (w2 (r.n3 % 65536) ++ E4)), by show y4.B = _; rw [hE4, e3, e2, e1]; simp, by simp [w2]; omega⟩, ?_⟩, hA⟩)
  simp only [BodyAt, hk']
  have e : y3.B = p.B ++ (w2 r.n1 ++ (w2 r.n2 ++ w2 r.n3)) := by rw [e3, e2, e1, w2_mod, w2_mod, w2_mod]; simp
  refine ⟨?_, by rw [show p.B.length + 6 = y3.B.length by omega]; exact n4⟩
  have := h.new (w2 r.n1 ++ (w2 r.n2 ++ w2 r.n3))
  rw [← e] at this
  exact this.mono (by show KM.le _ (kn y4.B hole); rw [hE4]; exact kn_append _ _ _)
end X
namespace X
theorem Y.sl0 {P : Program} {n : Nat} {L : Fr} {A : World → Prop} {tb : Tab} {t : TypeId} {x : Operand} {ty : TypeId} {pos : String} {af : Array Edge} {g : Option (Nat × Bool)} {z : Nat} (hk : tb.ok P = true) (he : find tb.elms t = some (none, z)) {a0 : Option Addr} {c0 : Nat} (hx : ev L x = some (.slice a0 0 c0)) {d : Option Tmp} :
    Y P n L A ⟨d, .slice t x none none none, ty, pos, af, g⟩ (.slice a0 0 c0) := by
  intro a w ha _
  obtain ⟨e, ti, hu, hti, hz⟩ := Tab.slc hk he
  cases a0 <;> simp [execOp, Instr.sliceAt, Instr.slice, Instr.sliceBounds, run_underlying' hu, ev_ok ha hx, run_sizeOf' hti, Addr.add]
theorem TL.slB {P : Program} {f : FuncId} {n : Nat} {R : Ending → World → Prop} {k : List Item} {L : Fr} {A : World → Prop} {ops : Array Oper} {rest : List Oper} {tb : Tab} {h : View} {t : TypeId} {x : Operand} {d : Nat} {ty : TypeId} {pos : String} {af : Array Edge} {g : Option (Nat × Bool)} {z : Nat} {v : Value} {l : Bs}
    (hk : tb.ok P = true) (he : find tb.elms t = some (none, z)) (hs : SlB h v l) (hx : ev L x = some v) (hn : d.blt n = true) (hw : want ops L g = some true)
    (hr : TL P f n R k ops rest ((d, v) :: L) A) : TL P f n R k ops (⟨some d, .slice t x none none none, ty, pos, af, g⟩ :: rest) L A := by
  rcases hs with ⟨⟨_, _, rfl⟩, rfl⟩ | ⟨b, o, cap, rfl, h2, _⟩
  · exact TL.y hw rfl hn (Y.sl0 hk he hx) hr
  · exact TL.sl (l := 0) (m := l.length) hk he hx hn hw rfl rfl (Nat.zero_le _) h2 fun p _ hp => by rw [hp rfl]; exact hr
theorem packUnknown (q : Option Nat) (rb ro : Nat) (r : Rc) (hr : r.Ok) (hk : r.kind = 13) (p : Pk) (hole : Hole) (h : p.ok hole q) (hB : p.B.length + 4000 ≤ 4294967296) : BodyCt 135 r q p hole rb ro := by
  intro w hS ⟨xv, hrow, hx⟩
  have hk' : r.kind.toNat = 13 := by rw [hk]; rfl
  have hd := hr.data
  simp only [bodyCells, hk'] at hrow
  simp only [bodyX, hk'] at hx
  refine calls_of_T (m := 17) Tryz.func135 rfl rfl (by simp) hS ?_
  repeat (first | refine za rfl rfl ?_ | refine zb rfl ?_ | refine zc rfl ?_)
  refine TL.ldR (hrow.one (i := 1) rfl rfl) szk rfl rfl rfl rfl ?_
  refine TL.slB tbk rfl hx rfl rfl rfl ?_
  refine TL.callS [] Tryz.call145 rfl rfl rfl rfl (pkBytes q p hole h xv r.data (by omega)) (fun w' hA => hx.mono (st_viewLe hA (Mc := p.mem q) fun _ hp => hp)) (fun y1 => TL.and fun ⟨ok1, e1⟩ => ?_)
  repeat (first | refine za rfl rfl ?_ | refine zb rfl ?_ | refine zc rfl ?_)
  refine T.ret Tryz.func135 rfl (fun w hA => ⟨y1, rfl, ⟨ok1, ⟨_, e1, by omega⟩, ?_⟩, hA⟩)
  simp only [BodyAt, hk']
  refine ⟨by rw [e1]; exact h.new _, by rw [e1, List.length_append]⟩
theorem txtB_len : ∀ l : List Bs, l.length ≤ (txtB l).length
  | [] => Nat.le_refl _
  | s :: r => by have := txtB_len r; simp [txtB]; omega
theorem pairB_len : ∀ l : List Pr, 4 * l.length ≤ (pairB l).length
  | [] => Nat.le_refl _
  | s :: r => by have := pairB_len r; simp [pairB, w2]; omega
theorem take_nth {α : Type} {l : List α} {i : Nat} {a : α} (h : nth l i = some a) : l.take (i + 1) = l.take i ++ [a] := by
  rw [nth_eq] at h
  rw [List.take_add_one, h]; rfl
theorem nth_lt {α : Type} {l : List α} {i : Nat} (h : i < l.length) : ∃ a, nth l i = some a := ⟨l[i], by rw [nth_eq, List.getElem?_eq_getElem h]⟩
theorem txtB_take {l : List Bs} {i : Nat} {s : Bs} (h : nth l i = some s) : txtB (l.take (i + 1)) = txtB (l.take i) ++ (UInt8.ofNat s.length :: s) := by
  rw [take_nth h, txtB_append]; simp [txtB]
theorem pairB_take {l : List Pr} {i : Nat} {s : Pr} (h : nth l i = some s) : pairB (l.take (i + 1)) = pairB (l.take i) ++ (w2 s.key ++ (w2 s.data.length ++ s.data)) := by
  rw [take_nth h, pairB_append]; simp [pairB]
theorem txtB_take_le (l : List Bs) (i : Nat) : (txtB (l.take i)).length ≤ (txtB l).length := by
  have := congrArg (fun l => (txtB l).length) (List.take_append_drop i l)
  simp only [txtB_append, List.length_append] at this; omega
theorem pairB_take_le (l : List Pr) (i : Nat) : (pairB (l.take i)).length ≤ (pairB l).length := by
  have := congrArg (fun l => (pairB l).length) (List.take_append_drop i l)
  simp only [pairB_append, List.length_append] at this; omega
theorem pairB_mem {l : List Pr} {p : Pr} (h : p ∈ l) : p.data.length + 4 ≤ (pairB l).length := by
  induction l with
  | nil => cases h
  | cons a r ih => rcases List.mem_cons.1 h with rfl | h
                   · simp [pairB, w2]
                   · have := ih h; simp [pairB]; omega
theorem packTXT (q : Option Nat) (rb ro : Nat) (r : Rc) (hr : r.Ok) (hk : r.kind = 7) (p : Pk) (hole : Hole) (h : p.ok hole q) (hB : p.B.length + 4000 ≤ 4294967296) : BodyCt 122 r q p hole rb ro := by
  intro w hS ⟨xv, hrow, hx⟩
  have hk' : r.kind.toNat = 7 := by rw [hk]; rfl
  have hd := hr.txtl
  have hd2 := txtB_len r.texts
  simp only [bodyCells, hk'] at hrow
  simp only [bodyX, hk'] at hx
  obtain ⟨a, cap, hsh, hcap⟩ := hx.shape
  subst hsh
  refine calls_of_T (m := 36) Tryz.func122 rfl rfl (by simp) hS ?_
  repeat (first | refine za rfl rfl ?_ | refine zb rfl ?_ | refine zc rfl ?_)
  refine TL.ldR (hrow.one (i := 0) rfl rfl) szk rfl rfl rfl rfl ?_
  repeat (first | refine za rfl rfl ?_ | refine zb rfl ?_ | refine zc rfl ?_)
  refine T.loop (α := Nat × Pk) (fun x => [(1, x.2.sl), (18, .slice a r.texts.length cap), (19, .int .i64 (r.texts.length : Int)), (20, .int .i64 (x.1 : Int))])
    (fun x w' => (x.1 ≤ r.texts.length ∧ x.2.ok hole q ∧ x.2.B = p.B ++ txtB (r.texts.take x.1)) ∧ St (keys (p.mem q)) w (x.2.mem q) w') (fun x => r.texts.length - x.1) (0, p) ⟨rfl, rfl, rfl, rfl, trivial⟩
    (fun w' hA => ⟨⟨Nat.zero_le _, h, by simp [txtB]⟩, hA⟩) ?_
  rintro ⟨i, x⟩ ih
  refine T.and fun ⟨hi, hok, hE⟩ => ?_
  simp only at hi hok hE
  have hlen : x.B.length = p.B.length + (txtB (r.texts.take i)).length := by rw [hE]; simp
  have hle := txtB_take_le r.texts i
  repeat (first | refine za rfl rfl ?_ | refine zb rfl ?_ | refine zc rfl ?_)
  by_cases hlt : i < r.texts.length
  · refine T.condT rfl (by simpa using hlt) ?_
    obtain ⟨s, hs⟩ := nth_lt hlt
    obtain ⟨b, o, cap', cs, hv, _, _, hrs, hcs⟩ := hx.at hs
    injection hv with hv1 _ hv3
    subst hv1 hv3 hcs
    repeat (first | refine za rfl rfl ?_ | refine zb rfl ?_ | refine zc rfl ?_)
    refine TL.ix (j := i) tbk rfl rfl rfl rfl rfl rfl hlt ?_
    refine TL.ldR hrs szk rfl rfl rfl rfl ?_
    repeat (first | refine za rfl rfl ?_ | refine zb rfl ?_ | refine zc rfl ?_)
    refine TL.callS [] Tryz.call146 rfl rfl rfl rfl (pkText q x hole hok (by omega) s ((hr.text hk).2 s (nth_mem hs))) (fun _ _ => trivial) (fun y1 => TL.and fun ⟨ok1, e1⟩ => ?_)
    repeat (first | refine za rfl rfl ?_ | refine zb rfl ?_ | refine zc rfl ?_)
    refine T.condF rfl rfl ?_
    repeat (first | refine za rfl rfl ?_ | refine zb rfl ?_ | refine zc rfl ?_)
    rw [add1_i64 (a := i) (by omega)]
    exact T.again ih (i + 1, y1) (by simp; omega) ⟨rfl, rfl, rfl, rfl, trivial⟩ (fun w' hA => ⟨⟨by simp; omega, ok1, by simp only; rw [e1, hE, txtB_take hs]; simp⟩, hA⟩)
  · refine T.condF rfl (by simpa using hlt) ?_
    have : i = r.texts.length := by omega
    subst this
    rw [List.take_length] at hE
    repeat (first | refine za rfl rfl ?_ | refine zb rfl ?_ | refine zc rfl ?_)
    refine T.ret Tryz.func122 rfl (fun w hA => ⟨x, rfl, ⟨hok, ⟨_, hE, by omega⟩, ?_⟩, hA⟩)
    simp only [BodyAt, hk']
    refine ⟨by rw [hE]; exact h.new _, by rw [hE, List.length_append]⟩
end X
end Go.Proofs.YtifnodoffgfpbaaGreatDoor
