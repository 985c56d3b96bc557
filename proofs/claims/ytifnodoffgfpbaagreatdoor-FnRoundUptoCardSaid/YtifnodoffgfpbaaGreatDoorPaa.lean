/- Texts E1, E2, E3, E4, E5. The engine of this claim: symbolic execution of the model's code with a partial frame, a list of known blocks and a frame condition. -/
import Derived.Tactics
import Derived.OrdersHeld
import Derived.Laws.AppendOwn
import Derived.Laws.CopyRow
import Derived.Laws.IdiomCopy
namespace Go.Proofs.YtifnodoffgfpbaaGreatDoor
open Go
namespace X

/- ---------- lists ---------- -/
def nth {α : Type} : List α → Nat → Option α
  | [], _ => none
  | x :: _, 0 => some x
  | _ :: r, i + 1 => nth r i
def setN {α : Type} : List α → Nat → α → List α
  | [], _, _ => []
  | _ :: r, 0, v => v :: r
  | x :: r, i + 1, v => x :: setN r i v
theorem nth_eq {α : Type} : ∀ (l : List α) (i : Nat), nth l i = l[i]?
  | [], _ => by simp [nth]
  | x :: _, 0 => by simp [nth]
  | _ :: r, i + 1 => by simp [nth, nth_eq r i]
theorem setN_eq {α : Type} : ∀ (l : List α) (i : Nat) (v : α), setN l i v = l.set i v
  | [], _, _ => by simp [setN]
  | x :: _, 0, _ => by simp [setN]
  | _ :: r, i + 1, v => by simp [setN, setN_eq r i v]
@[simp] theorem setN_length {α : Type} (l : List α) (i : Nat) (v : α) : (setN l i v).length = l.length := by simp [setN_eq]

/- ---------- the frame ---------- -/
abbrev Fr := List (Nat × Value)
def look : Fr → Nat → Option Value
  | [], _ => none
  | (i, v) :: r, k => bif i.beq k then some v else look r k
def Has (n : Nat) (a : Act) (L : Fr) : Prop := a.defers = [] ∧ a.tmps.size = n ∧ ∀ k v, look L k = some v → a.tmps.getD k undef = v
theorem Has.put {n : Nat} {a : Act} {L : Fr} {d : Nat} {v : Value} (h : Has n a L) (hd : d < n) : Has n (a.put (some d) v) ((d, v) :: L) := by
  obtain ⟨h1, h2, h3⟩ := h
  refine ⟨h1, by simpa [Act.put] using h2, fun k u hk => ?_⟩
  simp only [Act.put]
  by_cases e : d = k
  · subst e
    simp [look] at hk
    subst hk
    simp [h2, hd]
  · have hb : d.beq k = false := by
      cases hb : d.beq k
      · rfl
      · exact absurd (Nat.eq_of_beq_eq_true hb) e
    simp only [look, hb, cond_false] at hk
    have := h3 k u hk
    rw [← this]
    simp only [Array.getD_eq_getD_getElem?]
    rw [Array.getElem?_setIfInBounds_ne e]
theorem Has.put_none {n : Nat} {a : Act} {L : Fr} {v : Value} (h : Has n a L) : Has n (a.put none v) L := h
def Sub : Fr → Fr → Prop
  | [], _ => True
  | (k, v) :: r, L => look L k = some v ∧ Sub r L
theorem Sub.look {L : Fr} : ∀ {L' : Fr}, Sub L' L → ∀ k v, look L' k = some v → look L k = some v
  | [], _, _, _, h => by cases h
  | (i, u) :: r, hs, k, v, h => by
    simp only [X.look] at h
    cases hb : i.beq k
    · rw [hb] at h; exact hs.2.look k v h
    · rw [hb] at h
      simp at h
      have : i = k := Nat.eq_of_beq_eq_true hb
      subst this; subst h; exact hs.1
theorem Has.sub {n : Nat} {a : Act} {L L' : Fr} (h : Has n a L) (hs : Sub L' L) : Has n a L' := ⟨h.1, h.2.1, fun k v hk => h.2.2 k v (hs.look k v hk)⟩

def ev (L : Fr) : Operand → Option Value
  | .tmp t => look L t
  | .const v => some v
  | .global g => some (.pointer (some ⟨g, 0, none⟩))
  | .func f => some (.func (.func f) #[] #[])
theorem ev_ok {n : Nat} {a : Act} {L : Fr} (h : Has n a L) {x : Operand} {v : Value} (he : ev L x = some v) : a.eval x = v := by
  cases x with
  | tmp t => exact h.2.2 _ _ he
  | const u => simpa [ev, Act.eval] using he
  | global g => simpa [ev, Act.eval] using he
  | func f => simpa [ev, Act.eval] using he
def evs (L : Fr) : List Operand → Option (List Value)
  | [] => some []
  | x :: r => match ev L x with
    | some v => match evs L r with
      | some vs => some (v :: vs)
      | none => none
    | none => none
theorem evs_ok {n : Nat} {a : Act} {L : Fr} (h : Has n a L) : ∀ {xs : List Operand} {vs : List Value}, evs L xs = some vs → xs.map a.eval = vs
  | [], vs, he => by simpa [evs] using he
  | x :: r, vs, he => by
    simp only [evs] at he
    split at he
    · rename_i v hv
      split at he
      · rename_i us hu
        simp only [Option.some.injEq] at he
        subst he
        simp [ev_ok h hv, evs_ok h hu]
      · cases he
    · cases he

/-- Is the operation carried out? -/
def want (ops : Array Oper) (L : Fr) (g : Option (Nat × Bool)) : Option Bool :=
  match g with
  | none => some true
  | some (j, t) => match nth ops.toList j with
    | some oj => match oj.dst with
      | some d => match look L d with
        | some (.bool b) => some (b == t)
        | _ => none
      | none => none
    | none => none
theorem getD_some {t : Array Value} {d : Nat} {b : Bool} (h : t.getD d undef = .bool b) : t[d]? = some (.bool b) := by
  rw [Array.getD_eq_getD_getElem?] at h
  cases h' : t[d]? with
  | none => rw [h'] at h; simp [undef] at h
  | some v => rw [h'] at h; simp at h; rw [h]
theorem want_ok {n : Nat} {a : Act} {L : Fr} (h : Has n a L) {ops : Array Oper} {o : Oper} {b : Bool} (hw : want ops L o.guard = some b) :
    Region.wanted o (yielded ops a.tmps) = b := by
  unfold Region.wanted
  unfold want at hw
  split at hw
  · rename_i hg
    simp at hw
    rw [hg]; simpa using hw
  · rename_i j t hg
    rw [hg]
    split at hw
    · rename_i oj hj
      split at hw
      · rename_i d hd
        split at hw
        · rename_i b' hb
          have hv := h.2.2 _ _ hb
          have hj' : ops[j]? = some oj := by rw [nth_eq] at hj; simpa using hj
          have hy : yielded ops a.tmps j = some b' := by
            simp [yielded, hj', hd, getD_some hv]
          simp only [hy]
          simp at hw
          rw [← hw]
          cases b' <;> cases t <;> rfl
        · cases hw
      · cases hw
    · cases hw
end X
namespace X

/-- From here (what is still to do: k), function f comes to an end of which R holds. -/
def W (P : Program) (f : FuncId) (R : Ending → World → Prop) (k : List Item) (a : Act) (w : World) : Prop :=
  ∀ (b : Frame), b.fn = f → b.kind = .normal → ∀ cs, ∃ e w' fr, R e w' ∧ Comes P (lone (b.at a k) cs w) (lone fr cs w') e ∧ fr.fn = f ∧ fr.leaving P w' e

section
variable {P : Program} {f : FuncId} {R : Ending → World → Prop} {k : List Item} {a : Act} {w : World}

theorem W.of_steps {k' : List Item} {a' : Act} {w' : World} (hs : ∀ (b : Frame) (cs : List Frame), b.fn = f → Steps P (lone (b.at a k) cs w) (lone (b.at a' k') cs w')) (h : W P f R k' a' w') : W P f R k a w :=
  fun b hb hk cs => let ⟨e, w'', fr, r, c, x⟩ := h b hb hk cs; ⟨e, w'', fr, r, .of_steps (hs b cs hb) c, x⟩
theorem W.step {k' : List Item} (hs : ∀ (b : Frame) (cs : List Frame), step P (lone (b.at a k) cs w) = .next (lone (b.at a k') cs w)) (h : W P f R k' a w) : W P f R k a w :=
  W.of_steps (fun b cs _ => .one (hs b cs)) h
theorem W.seq {x y : Code} (h : W P f R (.code x :: .code y :: k) a w) : W P f R (.code (.seq x y) :: k) a w := W.step (fun _ _ => step_seq) h
theorem W.skip (h : W P f R k a w) : W P f R (.code .skip :: k) a w := W.step (fun _ _ => step_skip) h
theorem W.block {id : Nat} {c : Code} (h : W P f R (.code c :: .inBlock id :: k) a w) : W P f R (.code (.block id c) :: k) a w := W.step (fun _ _ => step_block) h
theorem W.inBlock {id : Nat} (h : W P f R k a w) : W P f R (.inBlock id :: k) a w := W.step (fun _ _ => step_inBlock) h
theorem W.loop {c : Code} (h : W P f R (.code c :: .inLoop c :: k) a w) : W P f R (.code (.loop c) :: k) a w := W.step (fun _ _ => step_loop) h
theorem W.inLoop {c : Code} (h : W P f R (.code c :: .inLoop c :: k) a w) : W P f R (.inLoop c :: k) a w := W.step (fun _ _ => step_inLoop) h
theorem W.exit {id : Nat} {k' : List Item} (hk : exitTo id k = some k') (h : W P f R k' a w) : W P f R (.code (.exit id) :: k) a w := W.step (fun _ _ => step_exit hk) h
theorem W.cond {c : Operand} {x y : Code} {t : Bool} (hc : a.eval c = .bool t) (h : W P f R (.code (if t then x else y) :: k) a w) : W P f R (.code (.cond c x y) :: k) a w :=
  W.step (fun _ _ => step_cond hc) h
/-- What is asked behind a piece of code that ends as it should. -/
def Qn (P : Program) (f : FuncId) (R : Ending → World → Prop) (k : List Item) : Exit → Act → World → Prop
  | .normal, a, w => W P f R k a w
  | _, _, _ => False
theorem W.of_wp {c : Code} (h : c.wp P (Qn P f R k) a w) : W P f R (.code c :: k) a w := by
  intro b hb hk cs
  obtain ⟨e, a', w', hq, harr⟩ := h b k cs
  cases e with
  | normal =>
    obtain ⟨e, w'', fr, r, c, x⟩ := hq b hb hk cs
    exact ⟨e, w'', fr, r, .of_steps harr c, x⟩
  | exit id => exact hq.elim
  | goto l => exact hq.elim
  | ret => exact hq.elim
  | panic c => exact hq.elim
  | outgrown => exact hq.elim
theorem W.ret {fn : Func} {v : Value} (hf : P.funcs[f]? = some fn) (hd : a.defers = []) (hr : (results fn a.tmps).run P w = .ok v w) (h : R (.returned v) w) : W P f R (.code .ret :: k) a w := by
  intro b hb hk cs
  refine ⟨.returned v, w, { b.at a (.code .ret :: k) with mode := .returning }, h, .one step_ret, hb, rfl, hd, hk, fn, ?_, hr⟩
  simpa [Frame.at, hb] using hf
theorem W.done {fn : Func} {v : Value} (hf : P.funcs[f]? = some fn) (hd : a.defers = []) (hr : (results fn a.tmps).run P w = .ok v w) (h : R (.returned v) w) : W P f R [] a w := by
  intro b hb hk cs
  refine ⟨.returned v, w, { b.at a [] with mode := .returning }, h, .one step_end, hb, rfl, hd, hk, fn, ?_, hr⟩
  simpa [Frame.at, hb] using hf
theorem calls_of_W {fn : Func} {c : Code} {args : Array Value} (hf : P.funcs[f]? = some fn) (hb : fn.body = some c)
    (h : W P f R [.code c] { tmps := args ++ Array.replicate (fn.ntmps - args.size) undef, defers := [] } w) : Calls P f args w R := by
  intro cs
  let b : Frame := { (default : Frame) with fn := f, kind := .normal }
  have henter : Frame.enter P f args .normal = b.at { tmps := args ++ Array.replicate (fn.ntmps - args.size) undef, defers := [] } [.code c] := by
    simp [Frame.enter, Frame.at, hf, hb, b]
  rw [henter]
  exact h b rfl rfl cs
end

/-- With all frames that agree with L and all worlds of A. -/
structure T (P : Program) (f : FuncId) (n : Nat) (R : Ending → World → Prop) (k : List Item) (L : Fr) (A : World → Prop) : Prop where
  go : ∀ a w, Has n a L → A w → W P f R k a w
structure TL (P : Program) (f : FuncId) (n : Nat) (R : Ending → World → Prop) (k : List Item) (ops : Array Oper) (rest : List Oper) (L : Fr) (A : World → Prop) : Prop where
  go : ∀ a w, Has n a L → A w → wpList P ops (Qn P f R k) rest a w

section
variable {P : Program} {f : FuncId} {n : Nat} {R : Ending → World → Prop} {k : List Item} {L : Fr} {A : World → Prop}
theorem T.seq {x y : Code} (h : T P f n R (.code x :: .code y :: k) L A) : T P f n R (.code (.seq x y) :: k) L A := ⟨fun a w ha hw => W.seq (h.go a w ha hw)⟩
theorem T.skip (h : T P f n R k L A) : T P f n R (.code .skip :: k) L A := ⟨fun a w ha hw => W.skip (h.go a w ha hw)⟩
theorem T.block {id : Nat} {c : Code} (h : T P f n R (.code c :: .inBlock id :: k) L A) : T P f n R (.code (.block id c) :: k) L A := ⟨fun a w ha hw => W.block (h.go a w ha hw)⟩
theorem T.inBlock {id : Nat} (h : T P f n R k L A) : T P f n R (.inBlock id :: k) L A := ⟨fun a w ha hw => W.inBlock (h.go a w ha hw)⟩
theorem T.exit {id : Nat} {k' : List Item} (hk : exitTo id k = some k') (h : T P f n R k' L A) : T P f n R (.code (.exit id) :: k) L A := ⟨fun a w ha hw => W.exit hk (h.go a w ha hw)⟩
theorem T.condT {c : Operand} {x y : Code} {b : Bool} (hc : ev L c = some (.bool b)) (hb : b = true) (h : T P f n R (.code x :: k) L A) : T P f n R (.code (.cond c x y) :: k) L A :=
  ⟨fun a w ha hw => W.cond (t := true) (by rw [ev_ok ha hc, hb]) (h.go a w ha hw)⟩
theorem T.condF {c : Operand} {x y : Code} {b : Bool} (hc : ev L c = some (.bool b)) (hb : b = false) (h : T P f n R (.code y :: k) L A) : T P f n R (.code (.cond c x y) :: k) L A :=
  ⟨fun a w ha hw => W.cond (t := false) (by rw [ev_ok ha hc, hb]) (h.go a w ha hw)⟩
theorem T.cond {c : Operand} {x y : Code} {b : Bool} (hc : ev L c = some (.bool b)) (h1 : b = true → T P f n R (.code x :: k) L A) (h2 : b = false → T P f n R (.code y :: k) L A) : T P f n R (.code (.cond c x y) :: k) L A := by
  cases b
  · exact T.condF hc rfl (h2 rfl)
  · exact T.condT hc rfl (h1 rfl)
theorem T.region {id : Nat} {ops : Array Oper} (h : TL P f n R k ops ops.toList L A) : T P f n R (.code (.region id ops false) :: k) L A :=
  ⟨fun a w ha hw => W.of_wp (wp_region_list (h.go a w ha hw))⟩
theorem TL.nil {ops : Array Oper} (h : T P f n R k L A) : TL P f n R k ops [] L A := ⟨fun a w ha hw => h.go a w ha hw⟩
theorem T.sub {L' : Fr} (hs : Sub L' L) (h : T P f n R k L' A) : T P f n R k L A := ⟨fun a w ha hw => h.go a w (ha.sub hs) hw⟩
theorem T.mono {B : World → Prop} (hs : ∀ w, A w → B w) (h : T P f n R k L B) : T P f n R k L A := ⟨fun a w ha hw => h.go a w ha (hs w hw)⟩
theorem TL.sub {ops : Array Oper} {r : List Oper} {L' : Fr} (hs : Sub L' L) (h : TL P f n R k ops r L' A) : TL P f n R k ops r L A := ⟨fun a w ha hw => h.go a w (ha.sub hs) hw⟩
theorem TL.mono {ops : Array Oper} {r : List Oper} {B : World → Prop} (hs : ∀ w, A w → B w) (h : TL P f n R k ops r L B) : TL P f n R k ops r L A := ⟨fun a w ha hw => h.go a w ha (hs w hw)⟩

/-- A loop: a family of states, a measure that every round lowers. -/
theorem T.loop {c : Code} {α : Type} (Lx : α → Fr) (Ax : α → World → Prop) (μ : α → Nat) (x : α) (hL : Sub (Lx x) L) (hA : ∀ w, A w → Ax x w)
    (round : ∀ x, (∀ y, μ y < μ x → T P f n R (.inLoop c :: k) (Lx y) (Ax y)) → T P f n R (.code c :: .inLoop c :: k) (Lx x) (Ax x)) :
    T P f n R (.code (.loop c) :: k) L A := by
  have key : ∀ m x, μ x = m → T P f n R (.code c :: .inLoop c :: k) (Lx x) (Ax x) := by
    intro m
    induction m using Nat.strongRecOn with
    | _ m ih =>
      intro x hx
      refine round x fun y hy => ⟨fun a w ha hw => ?_⟩
      exact W.inLoop ((ih (μ y) (hx ▸ hy) y rfl).go a w ha hw)
  exact ⟨fun a w ha hw => W.loop ((key _ x rfl).go a w (ha.sub hL) (hA w hw))⟩

/-- The end of a call: what is handed back is evaluated in the frame. -/
def resVal (L : Fr) : List ResultVar → Option (List Value)
  | [] => some []
  | .tmp t :: r => match look L t with
    | some v => match resVal L r with
      | some vs => some (v :: vs)
      | none => none
    | none => none
  | _ => none
def pack (vs : List Value) : Value := match vs with
  | [v] => v
  | _ => .tuple vs.toArray
def resOne (tmps : Array Value) : ResultVar → Sem Value
  | .tmp t => pure (tmps.getD t undef)
  | .cell a t => do loadVar t (← asAddr (tmps.getD a undef))
theorem results_eq (fn : Func) (tmps : Array Value) : results fn tmps = (do let vs ← fn.results.mapM (resOne tmps); pure (if h : vs.size = 1 then vs[0] else .tuple vs)) := rfl
theorem results_of_list {fn : Func} {tmps : Array Value} {w : World} {vs : List Value} (h : (fn.results.toList.mapM (resOne tmps)).run P w = .ok vs w) :
    (results fn tmps).run P w = .ok (pack vs) w := by
  rw [results_eq, ← Array.toArray_toList (xs := fn.results)]
  simp only [List.mapM_toArray, Sem.run_bind, Sem.run_map, h, Result.andThen_ok, Sem.run_pure]
  match vs with
  | [] => rfl
  | [v] => rfl
  | v :: u :: r => simp [pack]
theorem resVal_ok {a : Act} (h : Has n a L) (w : World) : ∀ {rs : List ResultVar} {vs : List Value}, resVal L rs = some vs → (rs.mapM (resOne a.tmps)).run P w = .ok vs w
  | [], vs, he => by simp [resVal] at he; subst he; simp
  | .tmp t :: r, vs, he => by
    simp only [resVal] at he
    split at he
    · rename_i v hv
      split at he
      · rename_i us hu
        simp at he; subst he
        have := resVal_ok h w hu
        have h1 := h.2.2 _ _ hv
        simp only [List.mapM_cons, Sem.run_bind, resOne, Sem.run_pure, Result.andThen_ok, h1, this]
      · cases he
    · cases he
  | .cell x t :: r, vs, he => by cases he
theorem T.ret {fn : Func} {vs : List Value} (hf : P.funcs[f]? = some fn) (hr : resVal L fn.results.toList = some vs) (h : ∀ w, A w → R (.returned (pack vs)) w) : T P f n R (.code .ret :: k) L A :=
  ⟨fun a w ha hw => W.ret hf ha.1 (results_of_list (resVal_ok ha w hr)) (h w hw)⟩
theorem T.done {fn : Func} {vs : List Value} (hf : P.funcs[f]? = some fn) (hr : resVal L fn.results.toList = some vs) (h : ∀ w, A w → R (.returned (pack vs)) w) : T P f n R [] L A :=
  ⟨fun a w ha hw => W.done hf ha.1 (results_of_list (resVal_ok ha w hr)) (h w hw)⟩

def argsL : List Value → Nat → Fr
  | [], _ => []
  | v :: r, i => (i, v) :: argsL r (i + 1)
theorem argsL_look : ∀ (vs : List Value) (i k : Nat) (v : Value), look (argsL vs i) k = some v → i ≤ k ∧ vs[k - i]? = some v
  | [], _, _, _, h => by cases h
  | u :: r, i, k, v, h => by
    simp only [argsL, look] at h
    cases hb : i.beq k
    · rw [hb] at h
      have ih := argsL_look r (i + 1) k v h
      refine ⟨by omega, ?_⟩
      have : k - i = (k - (i + 1)) + 1 := by omega
      rw [this]; simpa using ih.2
    · rw [hb] at h
      have : i = k := Nat.eq_of_beq_eq_true hb
      subst this
      simp at h; subst h
      simp
theorem calls_of_T {fn : Func} {c : Code} {args : List Value} {w : World} {m : Nat} (hf : P.funcs[f]? = some fn) (hb : fn.body = some c) (hn : fn.ntmps = m) (hm : args.length ≤ m)
    (hA : A w) (h : T P f m R [.code c] (argsL args 0) A) : Calls P f args.toArray w R := by
  refine calls_of_W hf hb (h.go _ w ⟨rfl, by simp [hn]; omega, fun k v hk => ?_⟩ hA)
  obtain ⟨_, hk⟩ := argsL_look _ _ _ _ hk
  have hlt : k < args.length := (List.getElem?_eq_some_iff.1 (by simpa using hk)).1
  simp only [Array.getD_eq_getD_getElem?]
  rw [Array.getElem?_append_left (by simpa using hlt)]
  simp at hk
  simp [hk]
end
end X
namespace X

/-- Tables of the program's types, as far as the engine asks for them. -/
structure Tab where
  flds : List (Nat × List Nat)          -- a struct type: the offsets of its fields
  elms : List (Nat × Option Nat × Nat)  -- an array (with its length) or a slice type: the size of an element
  knds : List (Nat × IntKind)           -- the integer types
  strs : List Nat                       -- the string types
  ifcs : List Nat                       -- the interface types
  maps : List Nat                       -- the map types
  concs : List Nat                      -- types that are no interface
def find {α : Type} : List (Nat × α) → Nat → Option α
  | [], _ => none
  | (i, v) :: r, k => bif i.beq k then some v else find r k
theorem find_mem {α : Type} : ∀ {l : List (Nat × α)} {k : Nat} {v : α}, find l k = some v → (k, v) ∈ l
  | [], _, _, h => by cases h
  | (i, u) :: r, k, v, h => by
    simp only [find] at h
    cases hb : i.beq k
    · rw [hb] at h; exact List.mem_cons_of_mem _ (find_mem h)
    · rw [hb] at h
      have : i = k := Nat.eq_of_beq_eq_true hb
      simp at h; subst this; subst h; exact List.mem_cons_self
def isIn : List Nat → Nat → Bool
  | [], _ => false
  | i :: r, k => bif i.beq k then true else isIn r k
theorem isIn_mem : ∀ {l : List Nat} {k : Nat}, isIn l k = true → k ∈ l
  | [], _, h => by cases h
  | i :: r, k, h => by
    simp only [isIn] at h
    cases hb : i.beq k
    · rw [hb] at h; exact List.mem_cons_of_mem _ (isIn_mem h)
    · have : i = k := Nat.eq_of_beq_eq_true hb
      subst this; exact List.mem_cons_self

def sizeAt (P : Program) (t : TypeId) : Nat := ((P.info? t).map (·.size)).getD 0
def fldOk (P : Program) (fs : Array Field) : List Nat → Nat → Bool
  | [], _ => true
  | o :: r, i => (match fs[i]? with
    | some fd => fd.offset == o && sizeAt P fd.type != 0
    | none => false) && fldOk P fs r (i + 1)
def Tab.ok (P : Program) (tb : Tab) : Bool :=
  (tb.flds.all fun (s, offs) => match P.underlying s with
    | some (.struct fs) => fldOk P fs offs 0
    | _ => false) &&
  (tb.elms.all fun (t, l, z) => match P.underlying t, l with
    | some (.array n e), some m => n == m && (match P.info? e with | some i => i.size == z | none => false)
    | some (.slice e), none => (match P.info? e with | some i => i.size == z | none => false)
    | _, _ => false) &&
  (tb.knds.all fun (t, k) => match P.underlying t with | some (.int k') => decide (k = k') | _ => false) &&
  (tb.strs.all fun t => match P.underlying t with | some .string => true | _ => false) &&
  (tb.ifcs.all fun t => match P.underlying t with | some (.interface _) => true | _ => false) &&
  (tb.maps.all fun t => match P.underlying t with | some (.map _ _) => true | _ => false) &&
  (tb.concs.all fun t => match P.underlying t with | some (.interface _) => false | some _ => true | none => false)
section
variable {P : Program} {tb : Tab}
theorem fldOk_at {fs : Array Field} : ∀ {offs : List Nat} {i j o : Nat}, fldOk P fs offs i = true → nth offs j = some o → ∃ fd, fs[i + j]? = some fd ∧ fd.offset = o ∧ sizeAt P fd.type ≠ 0
  | [], _, _, _, _, h => by cases h
  | u :: r, i, 0, o, hk, h => by
    simp only [nth, Option.some.injEq] at h
    subst h
    simp only [fldOk, Bool.and_eq_true] at hk
    obtain ⟨hk, _⟩ := hk
    split at hk
    · rename_i fd hfd
      simp at hk
      exact ⟨fd, by simpa using hfd, hk.1, hk.2⟩
    · cases hk
  | u :: r, i, j + 1, o, hk, h => by
    simp only [fldOk, Bool.and_eq_true] at hk
    obtain ⟨fd, h1, h2⟩ := fldOk_at (i := i + 1) hk.2 (by simpa [nth] using h)
    exact ⟨fd, by rw [show i + (j + 1) = i + 1 + j by omega]; exact h1, h2⟩
theorem Tab.fld (hk : tb.ok P = true) {s f o : Nat} {offs : List Nat} (h : find tb.flds s = some offs) (ho : nth offs f = some o) :
    ∃ fs fd, P.underlying s = some (.struct fs) ∧ fs[f]? = some fd ∧ fd.offset = o ∧ sizeAt P fd.type ≠ 0 := by
  unfold Tab.ok at hk
  simp only [Bool.and_eq_true] at hk
  have := List.all_eq_true.1 hk.1.1.1.1.1.1 _ (find_mem h)
  dsimp only at this
  split at this
  · rename_i fs hu
    obtain ⟨fd, h1, h2⟩ := fldOk_at this ho
    exact ⟨fs, fd, hu, by simpa using h1, h2⟩
  · cases this
theorem Tab.arr (hk : tb.ok P = true) {t m z : Nat} (h : find tb.elms t = some (some m, z)) : ∃ e i, P.underlying t = some (.array m e) ∧ P.info? e = some i ∧ i.size = z := by
  unfold Tab.ok at hk
  simp only [Bool.and_eq_true] at hk
  have := List.all_eq_true.1 hk.1.1.1.1.1.2 _ (find_mem h)
  dsimp only at this
  split at this
  · rename_i n e m' hu hm
    simp only [Bool.and_eq_true] at this
    obtain ⟨h1, h2⟩ := this
    split at h2
    · rename_i i hi
      simp at hm h1 h2
      subst hm; subst h1
      exact ⟨e, i, hu, hi, h2⟩
    · cases h2
  · rename_i hm; simp at hm
  · cases this
theorem Tab.slc (hk : tb.ok P = true) {t z : Nat} (h : find tb.elms t = some (none, z)) : ∃ e i, P.underlying t = some (.slice e) ∧ P.info? e = some i ∧ i.size = z := by
  unfold Tab.ok at hk
  simp only [Bool.and_eq_true] at hk
  have := List.all_eq_true.1 hk.1.1.1.1.1.2 _ (find_mem h)
  dsimp only at this
  split at this
  · rename_i hm; simp at hm
  · rename_i e hu hm
    split at this
    · rename_i i hi
      simp at this
      exact ⟨e, i, hu, hi, this⟩
    · cases this
  · cases this
theorem Tab.knd (hk : tb.ok P = true) {t : Nat} {k : IntKind} (h : find tb.knds t = some k) : P.underlying t = some (.int k) := by
  unfold Tab.ok at hk
  simp only [Bool.and_eq_true] at hk
  have := List.all_eq_true.1 hk.1.1.1.1.2 _ (find_mem h)
  dsimp only at this
  split at this
  · rename_i k' hu; simp at this; rw [this]; exact hu
  · cases this
theorem Tab.str (hk : tb.ok P = true) {t : Nat} (h : isIn tb.strs t = true) : P.underlying t = some .string := by
  unfold Tab.ok at hk
  simp only [Bool.and_eq_true] at hk
  have := List.all_eq_true.1 hk.1.1.1.2 _ (isIn_mem h)
  split at this
  · assumption
  · cases this
theorem Tab.ifc (hk : tb.ok P = true) {t : Nat} (h : isIn tb.ifcs t = true) : ∃ ms, P.underlying t = some (.interface ms) := by
  unfold Tab.ok at hk
  simp only [Bool.and_eq_true] at hk
  have := List.all_eq_true.1 hk.1.1.2 _ (isIn_mem h)
  split at this
  · exact ⟨_, by assumption⟩
  · cases this
theorem Tab.map (hk : tb.ok P = true) {t : Nat} (h : isIn tb.maps t = true) : ∃ x y, P.underlying t = some (.map x y) := by
  unfold Tab.ok at hk
  simp only [Bool.and_eq_true] at hk
  have := List.all_eq_true.1 hk.1.2 _ (isIn_mem h)
  split at this
  · exact ⟨_, _, by assumption⟩
  · cases this
theorem Tab.conc (hk : tb.ok P = true) {t : Nat} (h : isIn tb.concs t = true) : ∃ d, P.underlying t = some d ∧ ∀ ms, d ≠ .interface ms := by
  unfold Tab.ok at hk
  simp only [Bool.and_eq_true] at hk
  have := List.all_eq_true.1 hk.2 _ (isIn_mem h)
  split at this
  · cases this
  · rename_i d hd hu; exact ⟨d, hu, fun ms e => hd ms e⟩
  · cases this
end

def binI (op : BinOp) (k : IntKind) (a b : Int) : Option Value := match op with
  | .add => some (.int k (k.wrap (a + b)))
  | .sub => some (.int k (k.wrap (a - b)))
  | .mul => some (.int k (k.wrap (a * b)))
  | .and => some (.int k (k.wrap (BitVec.ofInt k.bits a &&& BitVec.ofInt k.bits b).toNat))
  | .or => some (.int k (k.wrap (BitVec.ofInt k.bits a ||| BitVec.ofInt k.bits b).toNat))
  | .xor => some (.int k (k.wrap (BitVec.ofInt k.bits a ^^^ BitVec.ofInt k.bits b).toNat))
  | .eql => some (.bool (a == b))
  | .neq => some (.bool (a != b))
  | .lss => some (.bool (decide (a < b)))
  | .leq => some (.bool (decide (a ≤ b)))
  | .gtr => some (.bool (decide (a > b)))
  | .geq => some (.bool (decide (a ≥ b)))
  | _ => none
def isC : Operand → Bool
  | .const _ => true
  | _ => false
def binV (tb : Tab) (op : BinOp) (t : TypeId) (x y : Operand) : Value → Value → Option Value
  | .int k a, .int k' b => match op with
    | .shl => match b with
      | .ofNat m => some (.int k (k.wrap (a * 2 ^ min m k.bits)))
      | _ => none
    | .shr => match b with
      | .ofNat m => some (.int k (a.fdiv (2 ^ min m k.bits)))
      | _ => none
    | op => match (decide (k = k')) with
      | true => binI op k a b
      | false => none
  | .string a, .string b => match op with
    | .eql => some (.bool (a.toList == b.toList))
    | .neq => some (.bool !(a.toList == b.toList))
    | _ => none
  | .iface _ _, .nilIface => match isIn tb.ifcs t with
    | true => match op with
      | .eql => some (.bool false)
      | .neq => some (.bool true)
      | _ => none
    | false => none
  | .nilIface, .iface _ _ => match isIn tb.ifcs t with
    | true => match op with
      | .eql => some (.bool false)
      | .neq => some (.bool true)
      | _ => none
    | false => none
  | .nilIface, .nilIface => match isIn tb.ifcs t with
    | true => match (isC x || isC y) with
      | true => match op with
        | .eql => some (.bool true)
        | .neq => some (.bool false)
        | _ => none
      | false => none
    | false => none
  | .slice a _ _, .slice none _ _ => match find tb.elms t with
    | some (none, _) => match op with
      | .eql => some (.bool a.isNone)
      | .neq => some (.bool !a.isNone)
      | _ => none
    | _ => none
  | .map a, .map none => match isIn tb.maps t with
    | true => match op with
      | .eql => some (.bool a.isNone)
      | .neq => some (.bool !a.isNone)
      | _ => none
    | false => none
  | _, _ => none
def nilV : Value → Option Value
  | .pointer (some a) => some (.pointer (some a))
  | .iface t v => some (.iface t v)
  | .func (.func f) x y => some (.func (.func f) x y)
  | _ => none
def fldV (o : Nat) : Value → Option Value
  | .pointer (some ⟨b, p, none⟩) => some (.pointer (some ⟨b, p + o, none⟩))
  | _ => none
def lenV (tb : Tab) (t : TypeId) : Value → Option Value
  | .slice _ n _ => match find tb.elms t with
    | some (none, _) => some (.int .i64 n)
    | _ => none
  | .string s => match isIn tb.strs t with
    | true => some (.int .i64 s.size)
    | false => none
  | _ => none
def pev (tb : Tab) (L : Fr) : Op → Option Value
  | .move x => ev L x
  | .assign x => ev L x
  | .pick c a b => match ev L c with
    | some (.bool true) => ev L a
    | some (.bool false) => ev L b
    | _ => none
  | .nilCheck x => match ev L x with
    | some v => nilV v
    | none => none
  | .binOp op t x y _ => match ev L x with
    | some a => match ev L y with
      | some b => binV tb op t x y a b
      | none => none
    | none => none
  | .unOp .not _ x => match ev L x with
    | some (.bool b) => some (.bool !b)
    | _ => none
  | .convert s d x => match ev L x with
    | some (.int _ m) => match find tb.knds s with
      | some _ => match find tb.knds d with
        | some k => some (.int k (k.wrap m))
        | none => none
      | none => none
    | _ => none
  | .makeInterface t x => match isIn tb.concs t with
    | true => match ev L x with
      | some v => some (.iface t v)
      | none => none
    | false => none
  | .fieldAddr s x f => match find tb.flds s with
    | some offs => match nth offs f with
      | some o => match ev L x with
        | some v => fldV o v
        | none => none
      | none => none
    | none => none
  | .extract x i => match ev L x with
    | some (.tuple vs) => nth vs.toList i
    | _ => none
  | .call { callee := .builtin .len, args := ⟨[x]⟩, argTypes := ⟨[t]⟩ } => match ev L x with
    | some v => lenV tb t v
    | none => none
  | _ => none

/-- In frame L and in every world of A, the operation yields v and does nothing else. -/
def Y (P : Program) (n : Nat) (L : Fr) (A : World → Prop) (o : Oper) (v : Value) : Prop :=
  ∀ a w, Has n a L → A w → (execOp a.eval o).run P w = .ok (.value v) w

section
variable {P : Program} {tb : Tab} {n : Nat} {L : Fr} {A : World → Prop}
theorem run_underlying' {t : TypeId} {d : TypeDesc} (h : P.underlying t = some d) (w : World) : (underlying t).run P w = .ok d w := by
  unfold underlying; simp [h]
theorem run_typeInfo' {t : TypeId} {i : TypeInfo} (h : P.info? t = some i) (w : World) : (typeInfo t).run P w = .ok i w := by
  unfold typeInfo; simp [h]
theorem run_sizeOf' {t : TypeId} {i : TypeInfo} (h : P.info? t = some i) (w : World) : (sizeOf t).run P w = .ok i.size w := by
  unfold sizeOf; simp [run_typeInfo' h]
theorem sizeAt_info {t : TypeId} (h : sizeAt P t ≠ 0) : ∃ i, P.info? t = some i ∧ i.size = sizeAt P t := by
  unfold sizeAt at *
  cases hi : P.info? t with
  | none => simp [hi] at h
  | some i => exact ⟨i, rfl, by simp⟩
theorem binI_ok {op : BinOp} {k : IntKind} {a b : Int} {v : Value} (h : binI op k a b = some v) (t : TypeId) (w : World) : (binOp op t (.int k a) (.int k b)).run P w = .ok v w := by
  cases op <;> simp only [binI, Option.some.injEq] at h <;> first
    | (subst h; simp [binOp, Op.intArith, Op.intBits, Op.intCmp])
    | cases h
theorem eqGuard_int {op : BinOp} {t : TypeId} {x y : Operand} {k k' : IntKind} {a b : Int} (w : World) : (eqGuard op t x y (.int k a) (.int k' b)).run P w = .ok () w := by
  unfold eqGuard
  cases op <;> simp
theorem add_zero' (b p o : Nat) : (⟨b, p, none⟩ : Addr).add o = ⟨b, p + o, none⟩ := by
  unfold Addr.add
  split
  · subst_vars; rfl
  · rfl
theorem equal_run {t : TypeId} {x y : Value} {r : Bool} {w : World} (h : ∀ d, (Op.equalIn (d + 1) t x y).run P w = .ok r w) : (Op.equal t x y).run P w = .ok r w := h 9999
theorem eq_if {t : TypeId} {ms : Array (String × TypeId)} (hu : P.underlying t = some (.interface ms)) (u : TypeId) (v : Value) (w : World) : (Op.equal t (.iface u v) .nilIface).run P w = .ok false w :=
  equal_run fun d => by simp [Op.equalIn, run_underlying' hu]
theorem eq_fi {t : TypeId} {ms : Array (String × TypeId)} (hu : P.underlying t = some (.interface ms)) (u : TypeId) (v : Value) (w : World) : (Op.equal t .nilIface (.iface u v)).run P w = .ok false w :=
  equal_run fun d => by simp [Op.equalIn, run_underlying' hu]
theorem eq_ff {t : TypeId} {ms : Array (String × TypeId)} (hu : P.underlying t = some (.interface ms)) (w : World) : (Op.equal t .nilIface .nilIface).run P w = .ok true w :=
  equal_run fun d => by simp [Op.equalIn, run_underlying' hu]
theorem eq_sl {t e : TypeId} (hu : P.underlying t = some (.slice e)) (a : Option Addr) (n c m d : Nat) (w : World) : (Op.equal t (.slice a n c) (.slice none m d)).run P w = .ok a.isNone w :=
  equal_run fun d => by cases a <;> simp [Op.equalIn, run_underlying' hu]
theorem eq_mp {t e u : TypeId} (hu : P.underlying t = some (.map e u)) (a : Option Nat) (w : World) : (Op.equal t (.map a) (.map none)).run P w = .ok a.isNone w :=
  equal_run fun d => by cases a <;> simp [Op.equalIn, run_underlying' hu]
theorem guard_1 {op : BinOp} {t : TypeId} {x y : Operand} {u : TypeId} {v b : Value} (w : World) : (eqGuard op t x y (.iface u v) b).run P w = .ok () w := by
  unfold eqGuard; cases op <;> simp
theorem guard_2 {op : BinOp} {t : TypeId} {x y : Operand} {u : TypeId} {v : Value} (w : World) : (eqGuard op t x y .nilIface (.iface u v)).run P w = .ok () w := by
  unfold eqGuard; cases op <;> simp
theorem guard_3 {op : BinOp} {t : TypeId} {x y : Operand} {a : Option Addr} {n c : Nat} {b : Value} (w : World) : (eqGuard op t x y (.slice a n c) b).run P w = .ok () w := by
  unfold eqGuard; cases op <;> simp
theorem guard_4 {op : BinOp} {t : TypeId} {x y : Operand} {a : Option Nat} {b : Value} (w : World) : (eqGuard op t x y (.map a) b).run P w = .ok () w := by
  unfold eqGuard; cases op <;> simp
theorem guard_5 {op : BinOp} {t : TypeId} {x y : Operand} {a : ByteArray} {b : Value} (w : World) : (eqGuard op t x y (.string a) b).run P w = .ok () w := by
  unfold eqGuard; cases op <;> simp
theorem guard_6 {op : BinOp} {t : TypeId} {x y : Operand} (w : World) (hc : (isC x || isC y) = true) : (eqGuard op t x y .nilIface .nilIface).run P w = .ok () w := by
  unfold eqGuard
  cases x <;> cases y <;> simp [isC] at hc <;> cases op <;> simp
theorem binV_ok {op : BinOp} {t : TypeId} {x y : Operand} {a b v : Value} (hk : tb.ok P = true) (h : binV tb op t x y a b = some v) (w : World) :
    (do eqGuard op t x y a b; binOp op t a b : Sem Value).run P w = .ok v w := by
  unfold binV at h
  split at h
  · rename_i k a k' b
    simp only [Sem.run_bind, eqGuard_int, Result.andThen_ok]
    split at h
    · split at h
      · rename_i m
        simp only [Option.some.injEq] at h; subst h
        simp [binOp, Op.shift]
        omega
      · cases h
    · split at h
      · rename_i m
        simp only [Option.some.injEq] at h; subst h
        simp [binOp, Op.shift]
        omega
      · cases h
    · split at h
      · rename_i hkk
        have hkk' : k = k' := by simpa using hkk
        subst hkk'
        exact binI_ok h t w
      · cases h
  · simp only [Sem.run_bind, guard_5, Result.andThen_ok]
    split at h <;> first | cases h | skip
    · simp [binOp, Op.stringOp]
    · simp [binOp, Op.stringOp]
  · simp only [Sem.run_bind, guard_1, Result.andThen_ok]
    split at h
    · rename_i hi
      obtain ⟨ms, hu⟩ := Tab.ifc hk hi
      split at h <;> first | cases h | skip
      · simp only [binOp, Sem.run_bind, eq_if hu, Result.andThen_ok, Sem.run_pure]
      · simp only [binOp, Sem.run_bind, eq_if hu, Result.andThen_ok, Sem.run_pure, Bool.not_false]
    · cases h
  · simp only [Sem.run_bind, guard_2, Result.andThen_ok]
    split at h
    · rename_i hi
      obtain ⟨ms, hu⟩ := Tab.ifc hk hi
      split at h <;> first | cases h | skip
      · simp only [binOp, Sem.run_bind, eq_fi hu, Result.andThen_ok, Sem.run_pure]
      · simp only [binOp, Sem.run_bind, eq_fi hu, Result.andThen_ok, Sem.run_pure, Bool.not_false]
    · cases h
  · split at h
    · rename_i hi
      obtain ⟨ms, hu⟩ := Tab.ifc hk hi
      split at h
      · rename_i hc
        simp only [Sem.run_bind, guard_6 w hc, Result.andThen_ok]
        split at h <;> first | cases h | skip
        · simp only [binOp, Sem.run_bind, eq_ff hu, Result.andThen_ok, Sem.run_pure]
        · simp only [binOp, Sem.run_bind, eq_ff hu, Result.andThen_ok, Sem.run_pure, Bool.not_true]
      · cases h
    · cases h
  · simp only [Sem.run_bind, guard_3, Result.andThen_ok]
    split at h
    · rename_i z hi
      obtain ⟨e, i, hu, _, _⟩ := Tab.slc hk hi
      split at h <;> first | cases h | skip
      · simp only [binOp, Sem.run_bind, eq_sl hu, Result.andThen_ok, Sem.run_pure]
      · simp only [binOp, Sem.run_bind, eq_sl hu, Result.andThen_ok, Sem.run_pure]
    · cases h
  · simp only [Sem.run_bind, guard_4, Result.andThen_ok]
    split at h
    · rename_i hi
      obtain ⟨u, z, hu⟩ := Tab.map hk hi
      split at h <;> first | cases h | skip
      · simp only [binOp, Sem.run_bind, eq_mp hu, Result.andThen_ok, Sem.run_pure]
      · simp only [binOp, Sem.run_bind, eq_mp hu, Result.andThen_ok, Sem.run_pure]
    · cases h
  · cases h
theorem pev_ok {o : Oper} {v : Value} (hk : tb.ok P = true) (h : pev tb L o.op = some v) : Y P n L A o v := by
  intro a w ha _
  unfold execOp
  unfold pev at h
  split at h
  · rename_i x hx; simp only [hx, ev_ok ha h, Sem.run_pure]
  · rename_i x hx; simp only [hx, ev_ok ha h, Sem.run_pure]
  · rename_i c x y hx
    simp only [hx]
    split at h
    · rename_i hc; simp [ev_ok ha hc, ev_ok ha h, asBool]
    · rename_i hc; simp [ev_ok ha hc, ev_ok ha h, asBool]
    · cases h
  · rename_i x hx
    simp only [hx]
    split at h
    · rename_i u hu
      rw [ev_ok ha hu]
      unfold nilV at h
      split at h <;> first | cases h | skip
      all_goals rfl
    · cases h
  · rename_i op t x y yt hx
    simp only [hx]
    split at h
    · rename_i u hu
      split at h
      · rename_i z hz
        rw [ev_ok ha hu, ev_ok ha hz, Sem.run_bind, binV_ok hk h]; rfl
      · cases h
    · cases h
  · rename_i t x hx
    simp only [hx]
    split at h
    · rename_i b hb
      simp only [Option.some.injEq] at h; subst h
      simp [ev_ok ha hb, Op.unary]
    · cases h
  · rename_i s d x hx
    simp only [hx]
    split at h
    · rename_i k0 m hm
      split at h
      · rename_i ks hs
        split at h
        · rename_i k hd
          simp only [Option.some.injEq] at h; subst h
          simp [ev_ok ha hm, convert, run_underlying' (Tab.knd hk hs), run_underlying' (Tab.knd hk hd), Conv.intToInt]
        · cases h
      · cases h
    · cases h
  · rename_i t x hx
    simp only [hx]
    split at h
    · rename_i hc
      obtain ⟨d, hu, hd⟩ := Tab.conc hk hc
      split at h
      · rename_i u hv
        simp only [Option.some.injEq] at h; subst h
        simp only [Instr.makeInterface, Sem.run_bind, run_underlying' hu, Result.andThen_ok, ev_ok ha hv]
        cases d <;> first | exact absurd rfl (hd _) | rfl
      · cases h
    · cases h
  · rename_i s x f hx
    simp only [hx]
    split at h
    · rename_i offs hf
      split at h
      · rename_i o ho
        obtain ⟨fs, fd, hu, hfd, hoff, hsz⟩ := Tab.fld hk hf ho
        obtain ⟨i, hi, hsi⟩ := sizeAt_info hsz
        split at h
        · rename_i u hv
          unfold fldV at h
          split at h
          · rename_i b p
            simp only [Option.some.injEq] at h; subst h
            simp [Instr.fieldAt, run_underlying' hu, hfd, ev_ok ha hv, Instr.sureAddr, fieldPlace, run_sizeOf' hi, hsi, hsz, add_zero', hoff]
          · cases h
        · cases h
      · cases h
    · cases h
  · rename_i x i hx
    simp only [hx]
    split at h
    · rename_i vs hv
      rw [nth_eq] at h
      simp [ev_ok ha hv, Instr.extract, h]
      simp at h
      simp [h]
    · cases h
  · rename_i x t hx
    simp only [hx]
    split at h
    · rename_i u hv
      unfold lenV at h
      split at h
      · rename_i a' m c'
        split at h
        · rename_i z hz
          obtain ⟨e, i, hu, _, _⟩ := Tab.slc hk hz
          simp only [Option.some.injEq] at h; subst h
          simp [resolve, invoke, builtin, Builtin.len_, run_underlying' hu, ev_ok ha hv, goInt]
        · cases h
      · split at h
        · rename_i hz
          simp only [Option.some.injEq] at h; subst h
          simp [resolve, invoke, builtin, Builtin.len_, run_underlying' (Tab.str hk hz), ev_ok ha hv, goInt]
        · cases h
      · cases h
    · cases h
  · cases h
end
end X
namespace X

inductive Ob where
  | row (cs : List Value) (t : TypeId)
  | map (es : List MapEntry) (clock : Nat)
def Ob.obj : Ob → Obj
  | .row cs t => .cells cs.toArray t (0, 0)
  | .map es c => .map es.toArray c
abbrev Mem := List (Nat × Ob)
/-- w is w0 but for the blocks X and what is new. -/
structure Ext (X : List Nat) (w0 w : World) : Prop where
  size : w0.heap.size ≤ w.heap.size
  same : ∀ b, b < w0.heap.size → b ∉ X → w.heap[b]? = w0.heap[b]?
  os : w.os = w0.os
  tape : w.tape = w0.tape
  output : w.output = w0.output
theorem Ext.refl (X : List Nat) (w : World) : Ext X w w := ⟨Nat.le_refl _, fun _ _ _ => rfl, rfl, rfl, rfl⟩
theorem Ext.trans {X Y Z : List Nat} {a b c : World} (h : Ext X a b) (k : Ext Y b c) (hX : ∀ x ∈ X, x ∈ Z) (hY : ∀ y ∈ Y, y ∈ Z ∨ a.heap.size ≤ y) : Ext Z a c where
  size := Nat.le_trans h.size k.size
  same := fun i hi hz => by
    rw [k.same i (Nat.lt_of_lt_of_le hi h.size) (fun hy => by rcases hY i hy with h' | h'; exact hz h'; omega), h.same i hi (fun hx => hz (hX i hx))]
  os := k.os.trans h.os
  tape := k.tape.trans h.tape
  output := k.output.trans h.output
theorem Ext.mono {X Z : List Nat} {a b : World} (h : Ext X a b) (hX : ∀ x ∈ X, x ∈ Z ∨ a.heap.size ≤ x) : Ext Z a b where
  size := h.size
  same := fun i hi hz => h.same i hi (fun hx => by rcases hX i hx with h' | h'; exact hz h'; omega)
  os := h.os
  tape := h.tape
  output := h.output

structure St (X : List Nat) (w0 : World) (M : Mem) (w : World) : Prop where
  ext : Ext X w0 w
  at_ : ∀ p ∈ M, w.heap[p.1]? = some p.2.obj
  nodup : (M.map (·.1)).Nodup
  mine : ∀ p ∈ M, p.1 ∈ X ∨ w0.heap.size ≤ p.1
theorem nth_mem {α : Type} {l : List α} {i : Nat} {x : α} (h : nth l i = some x) : x ∈ l := by rw [nth_eq] at h; exact List.mem_of_getElem? h

section
variable {X : List Nat} {w0 w : World} {M : Mem}
theorem St.block (h : St X w0 M w) {i b : Nat} {o : Ob} (hi : nth M i = some (b, o)) : w.heap[b]? = some o.obj := h.at_ _ (nth_mem hi)
theorem lt_of_block {b : Nat} {o : Obj} (h : w.heap[b]? = some o) : b < w.heap.size := (Array.getElem?_eq_some_iff.1 h).1
theorem cell_of_row {b off : Nat} {cs : Array Value} {t : TypeId} {fr : Nat × Nat} (h : w.heap[b]? = some (.cells cs t fr)) : w.cell? ⟨b, off, none⟩ = cs[off]? := by
  unfold World.cell?; simp [h]
theorem St.cell (h : St X w0 M w) {i b off : Nat} {cs : List Value} {t : TypeId} {v : Value} (hi : nth M i = some (b, .row cs t)) (hv : nth cs off = some v) : w.cell? ⟨b, off, none⟩ = some v := by
  rw [cell_of_row (h.block hi)]; rw [nth_eq] at hv; simpa using hv
theorem St.start (w : World) (X : List Nat) : St X w [] w := ⟨Ext.refl _ _, by simp, by simp, by simp⟩
theorem heap_alloc_old (w : World) (o : Obj) {b : Nat} (h : b < w.heap.size) : (w.alloc o).heap[b]? = w.heap[b]? := by
  show (w.heap.push o)[b]? = _
  rw [Array.getElem?_push, if_neg (Nat.ne_of_lt h)]
theorem heap_alloc_new (w : World) (o : Obj) : (w.alloc o).heap[w.heap.size]? = some o := by
  show (w.heap.push o)[w.heap.size]? = _
  rw [Array.getElem?_push, if_pos rfl]
theorem size_alloc (w : World) (o : Obj) : (w.alloc o).heap.size = w.heap.size + 1 := by
  show (w.heap.push o).size = _
  rw [Array.size_push]
theorem Ext.alloc (h : Ext X w0 w) (o : Obj) : Ext X w0 (w.alloc o) where
  size := Nat.le_trans h.size (by rw [size_alloc]; omega)
  same := fun b hb hx => by rw [heap_alloc_old _ _ (Nat.lt_of_lt_of_le hb h.size)]; exact h.same b hb hx
  os := h.os
  tape := h.tape
  output := h.output
theorem St.alloc (h : St X w0 M w) (o : Ob) : St X w0 ((w.heap.size, o) :: M) (w.alloc o.obj) where
  ext := h.ext.alloc _
  at_ := fun p hp => by
    rcases List.mem_cons.1 hp with rfl | hp
    · exact heap_alloc_new _ _
    · rw [heap_alloc_old _ _ (lt_of_block (h.at_ p hp))]; exact h.at_ p hp
  nodup := by
    simp only [List.map_cons, List.nodup_cons]
    refine ⟨fun hm => ?_, h.nodup⟩
    obtain ⟨p, hp, he⟩ := List.mem_map.1 hm
    have := lt_of_block (h.at_ p hp)
    omega
  mine := fun p hp => by
    rcases List.mem_cons.1 hp with rfl | hp
    · exact .inr h.ext.size
    · exact h.mine p hp
theorem St.drew (h : St X w0 M w) : St X w0 M w.drew := ⟨⟨h.ext.size, h.ext.same, h.ext.os, h.ext.tape, h.ext.output⟩, h.at_, h.nodup, h.mine⟩
theorem St.drawn (h : St X w0 M w) (m : Nat) : St X w0 M { w with drawn := m } := ⟨⟨h.ext.size, h.ext.same, h.ext.os, h.ext.tape, h.ext.output⟩, h.at_, h.nodup, h.mine⟩
theorem mem_setN {α : Type} {l : List α} {i : Nat} {x y : α} (h : y ∈ setN l i x) : y = x ∨ ∃ j, j ≠ i ∧ nth l j = some y := by
  rw [setN_eq] at h
  obtain ⟨j, hj⟩ := List.getElem?_of_mem h
  rw [List.getElem?_set] at hj
  split at hj
  · split at hj
    · left; simpa using hj.symm
    · cases hj
  · right; exact ⟨j, by omega, by rw [nth_eq]; exact hj⟩
theorem St.ne (h : St X w0 M w) {i j : Nat} {p q : Nat × Ob} (hi : nth M i = some p) (hj : nth M j = some q) (hne : i ≠ j) : p.1 ≠ q.1 := by
  intro e
  rw [nth_eq] at hi hj
  have h1 : (M.map (·.1))[i]? = some p.1 := by simp [hi]
  have h2 : (M.map (·.1))[j]? = some p.1 := by simp [hj, e]
  have hi' := (List.getElem?_eq_some_iff.1 h1).1
  exact hne ((List.getElem?_inj hi' h.nodup).1 (h1.trans h2.symm))
/-- A block of ours holds something else, all else is as it was. -/
theorem St.put (h : St X w0 M w) {i b : Nat} {o o' : Ob} (hi : nth M i = some (b, o)) {w' : World} (hb : w'.heap[b]? = some o'.obj) (hs : w'.heap.size = w.heap.size)
    (he : ∀ c, c ≠ b → w'.heap[c]? = w.heap[c]?) (h1 : w'.os = w.os) (h2 : w'.tape = w.tape) (h3 : w'.output = w.output) : St X w0 (setN M i (b, o')) w' where
  ext := {
    size := by rw [hs]; exact h.ext.size
    same := fun c hc hx => by
      rw [he c (fun e => ?_)]
      · exact h.ext.same c hc hx
      · subst e
        rcases h.mine _ (nth_mem hi) with hm | hm
        · exact hx hm
        · simp at hm; omega
    os := h1.trans h.ext.os
    tape := h2.trans h.ext.tape
    output := h3.trans h.ext.output }
  at_ := fun p hp => by
    rcases mem_setN hp with rfl | ⟨j, hj, hn⟩
    · exact hb
    · rw [he p.1 (h.ne hn hi hj)]; exact h.at_ _ (nth_mem hn)
  nodup := by
    have : (setN M i (b, o')).map (·.1) = M.map (·.1) := by
      rw [setN_eq, List.map_set]
      apply List.ext_getElem?
      intro j
      rw [List.getElem?_set]
      split
      · rename_i e; subst e
        rw [nth_eq] at hi
        simp [hi]
        exact (List.getElem?_eq_some_iff.1 hi).1
      · rfl
    rw [this]; exact h.nodup
  mine := fun p hp => by
    rcases mem_setN hp with rfl | ⟨j, hj, hn⟩
    · exact h.mine (b, o) (nth_mem hi)
    · exact h.mine _ (nth_mem hn)
theorem St.setCell (h : St X w0 M w) {i b off : Nat} {cs : List Value} {t : TypeId} (hi : nth M i = some (b, .row cs t)) (v : Value) : St X w0 (setN M i (b, .row (setN cs off v) t)) (w.setCell ⟨b, off, none⟩ v) := by
  have hb := h.block hi
  refine h.put hi ?_ (by simp [World.setCell]) (fun c hc => ?_) rfl rfl rfl
  · simp [World.setCell, Array.getElem?_modify, hb, Ob.obj, setN_eq]
  · simp [World.setCell, Array.getElem?_modify, Ne.symm hc]
theorem St.sub (h : St X w0 M w) {M' : Mem} (hs : M'.Sublist M) : St X w0 M' w :=
  ⟨h.ext, fun p hp => h.at_ p (hs.subset hp), h.nodup.sublist (hs.map _), fun p hp => h.mine p (hs.subset hp)⟩
/-- A new base. -/
theorem St.rebase (h : St X w0 M w) : St (M.map (·.1)) w M w :=
  ⟨Ext.refl _ _, h.at_, h.nodup, fun p hp => .inl (List.mem_map_of_mem hp)⟩
theorem St.unbase {M' : Mem} {w' : World} (h : St X w0 M w) (k : St (M.map (·.1)) w M' w') : St X w0 M' w' where
  ext := h.ext.trans k.ext (fun _ hx => hx) (fun y hy => by
    obtain ⟨p, hp, rfl⟩ := List.mem_map.1 hy
    exact h.mine p hp)
  at_ := k.at_
  nodup := k.nodup
  mine := fun p hp => by
    rcases k.mine p hp with hm | hm
    · obtain ⟨q, hq, he⟩ := List.mem_map.1 hm
      rw [← he]; exact h.mine q hq
    · exact .inr (Nat.le_trans h.ext.size hm)
end

/- ---------- views: what may be read, whatever becomes of the blocks X ---------- -/
abbrev View := Nat → Option Obj
def view (X : List Nat) (w : World) : View := fun b => if b ∈ X then none else w.heap[b]?
def View.le (h h' : View) : Prop := ∀ b o, h b = some o → h' b = some o
theorem View.le.refl (h : View) : View.le h h := fun _ _ h => h
theorem View.le.trans {a b c : View} (h : View.le a b) (k : View.le b c) : View.le a c := fun x o hx => k x o (h x o hx)
theorem Ext.view {Z : List Nat} {w0 w : World} (h : Ext Z w0 w) : View.le (view Z w0) (view Z w) := fun b o hb => by
  unfold Go.Proofs.YtifnodoffgfpbaaGreatDoor.X.view at *
  split at hb
  · cases hb
  · rename_i hx
    rw [if_neg hx, h.same b (lt_of_block hb) hx]; exact hb
theorem view_anti {X Y : List Nat} {w : World} (h : ∀ y ∈ Y, y ∈ X ∨ w.heap.size ≤ y) : View.le (view X w) (view Y w) := fun b o hb => by
  unfold view at *
  split at hb
  · cases hb
  · rename_i hx
    rw [if_neg (fun hy => ?_)]
    · exact hb
    · rcases h b hy with h' | h'
      · exact hx h'
      · have := lt_of_block hb; omega
theorem view_heap {X : List Nat} {w : World} {b : Nat} {o : Obj} (h : view X w b = some o) : w.heap[b]? = some o := by
  unfold view at h; split at h
  · cases h
  · exact h
/-- The cells from off on, in block b, are vs. -/
def RowAt (h : View) (b off : Nat) (vs : List Value) : Prop := ∃ cs t fr, h b = some (.cells cs t fr) ∧ ∀ i v, nth vs i = some v → cs[off + i]? = some v
theorem RowAt.mono {h h' : View} (hh : View.le h h') {b off : Nat} {vs : List Value} (k : RowAt h b off vs) : RowAt h' b off vs :=
  let ⟨cs, t, fr, h1, h2⟩ := k; ⟨cs, t, fr, hh _ _ h1, h2⟩
theorem RowAt.cell {X : List Nat} {w0 w : World} {b off : Nat} {vs : List Value} (k : RowAt (view X w0) b off vs) (he : Ext X w0 w) {i : Nat} {v : Value} (hi : nth vs i = some v) :
    w.cell? ⟨b, off + i, none⟩ = some v := by
  obtain ⟨cs, t, fr, h1, h2⟩ := k.mono he.view
  rw [cell_of_row (view_heap h1)]; exact h2 i v hi
end X
namespace X

/-- What an operation does, whatever comes behind it. -/
def OkOp {β : Type} (P : Program) (n : Nat) (L : Fr) (A : World → Prop) (o : Oper) (L' : β → Fr) (A' : β → World → Prop) : Prop :=
  ∀ a w, Has n a L → A w → ∀ (next : Act → World → Prop) (Q : Exit → Act → World → Prop), (∀ y a' w', Has n a' (L' y) → A' y w' → next a' w') → o.wp P a w next Q

/-- Sizes: (cells, is it a struct or an array). -/
def aggD : TypeDesc → Bool
  | .struct _ => true
  | .array _ _ => true
  | _ => false
abbrev Szs := List (Nat × Nat × Bool)
def Szs.ok (P : Program) (sz : Szs) : Bool := sz.all fun (t, s, g) => (match P.info? t with | some i => i.size == s | none => false) &&
  (match P.underlying t with | some d => aggD d == g | none => false)

section
variable {P : Program} {f : FuncId} {n : Nat} {R : Ending → World → Prop} {k : List Item} {L : Fr} {A : World → Prop} {X : List Nat} {w0 : World} {M : Mem} {ops : Array Oper} {rest : List Oper} {tb : Tab} {sz : Szs}

theorem TL.op {β : Type} {o : Oper} {L' : β → Fr} {A' : β → World → Prop} (hw : want ops L o.guard = some true) (h : OkOp P n L A o L' A') (hk : ∀ y, TL P f n R k ops rest (L' y) (A' y)) :
    TL P f n R k ops (o :: rest) L A := by
  refine ⟨fun a w ha hA => ?_⟩
  unfold wpList
  rw [if_pos (want_ok ha hw)]
  exact .inl (h a w ha hA _ _ fun y a' w' h1 h2 => (hk y).go a' w' h1 h2)
theorem TL.y {o : Oper} {v : Value} {d : Nat} (hw : want ops L o.guard = some true) (hd : o.dst = some d) (hn : d.blt n = true) (h : Y P n L A o v) (hk : TL P f n R k ops rest ((d, v) :: L) A) :
    TL P f n R k ops (o :: rest) L A := by
  refine ⟨fun a w ha hA => ?_⟩
  unfold wpList
  rw [if_pos (want_ok ha hw)]
  refine .inl ?_
  unfold Oper.wp
  rw [h a w ha hA]
  simp only [Oper.upon, hd]
  exact hk.go _ w (ha.put (by simpa using hn)) hA
theorem TL.no {o : Oper} {d : Nat} (hw : want ops L o.guard = some false) (hd : o.dst = some d) (hn : d.blt n = true) (hk : TL P f n R k ops rest ((d, undef) :: L) A) : TL P f n R k ops (o :: rest) L A := by
  refine ⟨fun a w ha hA => ?_⟩
  unfold wpList
  rw [if_neg (by rw [want_ok ha hw]; simp), hd]
  exact hk.go _ w (ha.put (by simpa using hn)) hA
theorem TL.fact {p : Prop} (h : ∀ w, A w → p) (hk : p → TL P f n R k ops rest L A) : TL P f n R k ops rest L A := ⟨fun a w ha hA => (hk (h w hA)).go a w ha hA⟩
theorem T.fact {p : Prop} (h : ∀ w, A w → p) (hk : p → T P f n R k L A) : T P f n R k L A := ⟨fun a w ha hA => (hk (h w hA)).go a w ha hA⟩

/-- One step of an operation that reads no memory. -/
def stepP (tb : Tab) (n : Nat) (ops : Array Oper) (L : Fr) (o : Oper) : Option Fr :=
  match want ops L o.guard with
  | some true => match o.dst with
    | some d => match d.blt n with
      | true => match pev tb L o.op with
        | some v => some ((d, v) :: L)
        | none => none
      | false => none
    | none => none
  | some false => match o.dst with
    | some d => match d.blt n with
      | true => some ((d, undef) :: L)
      | false => none
    | none => none
  | none => none
theorem TL.p {o : Oper} {L' : Fr} (hk : tb.ok P = true) (h : stepP tb n ops L o = some L') (hr : TL P f n R k ops rest L' A) : TL P f n R k ops (o :: rest) L A := by
  unfold stepP at h
  split at h
  · rename_i hw
    split at h
    · rename_i d hd
      split at h
      · rename_i hn
        split at h
        · rename_i v hv
          simp only [Option.some.injEq] at h; subst h
          exact TL.y hw hd hn (pev_ok hk hv) hr
        · cases h
      · cases h
    · cases h
  · rename_i hw
    split at h
    · rename_i d hd
      split at h
      · rename_i hn
        simp only [Option.some.injEq] at h; subst h
        exact TL.no hw hd hn hr
      · cases h
    · cases h
  · cases h

theorem Szs.at (hk : sz.ok P = true) {t s : Nat} {g : Bool} (h : find sz t = some (s, g)) : ∃ i d, P.info? t = some i ∧ i.size = s ∧ P.underlying t = some d ∧ aggD d = g := by
  have := List.all_eq_true.1 hk _ (find_mem h)
  simp only [Bool.and_eq_true] at this
  obtain ⟨h1, h2⟩ := this
  split at h1
  · rename_i i hi
    simp at h1
    split at h2
    · rename_i d hu; exact ⟨i, d, hi, h1, hu, by simpa using h2⟩
    · cases h2
  · cases h1
theorem run_isAgg' {t : TypeId} {d : TypeDesc} (hu : P.underlying t = some d) (w : World) : (isAgg t).run P w = .ok (aggD d) w := by
  unfold isAgg
  simp only [Sem.run_bind, run_underlying' hu, Result.andThen_ok]
  cases d <;> rfl
theorem run_loadVar_sca (hk : sz.ok P = true) {t : TypeId} (ht : find sz t = some (1, false)) {p : Addr} {v : Value} {w : World} (hc : w.cell? p = some v) : (loadVar t p).run P w = .ok v w := by
  obtain ⟨i, d, hi, hs, hu, hg⟩ := Szs.at hk ht
  unfold loadVar
  simp [run_isAgg' hu, hg, hc]
theorem run_loadVar_agg (hk : sz.ok P = true) {t s : Nat} (ht : find sz t = some (s, true)) {b off : Nat} {vs : List Value} (hl : vs.length = s) {w : World} (hc : ∀ i v, nth vs i = some v → w.cell? ⟨b, off + i, none⟩ = some v) :
    (loadVar t ⟨b, off, none⟩).run P w = .ok (.agg vs.toArray) w := by
  obtain ⟨i, d, hi, hs, hu, hg⟩ := Szs.at hk ht
  unfold loadVar
  have h1 := run_loadCells_list (P := P) (w := w) ⟨b, off, none⟩ vs (fun j v hj => by rw [add_zero']; exact hc j v (by rw [nth_eq]; exact hj))
  rw [hl] at h1
  simp [run_isAgg' hu, hg, run_sizeOf' hi, hs, h1]
theorem Y.load (hk : sz.ok P = true) {t : TypeId} {x : Operand} {d : Option Tmp} {ty : TypeId} {pos : String} {af : Array Edge} {g : Option (Nat × Bool)} {b off : Nat} {v : Value}
    (ht : find sz t = some (1, false)) (hx : ev L x = some (.pointer (some ⟨b, off, none⟩))) (hc : ∀ w, A w → w.cell? ⟨b, off, none⟩ = some v) : Y P n L A ⟨d, .load t x, ty, pos, af, g⟩ v := by
  intro a w ha hA
  simp only [execOp, Instr.loadAt, Sem.run_bind, ev_ok ha hx, Instr.sureAddr, Sem.run_pure, Result.andThen_ok, run_loadVar_sca hk ht (hc w hA)]
theorem Y.loadA (hk : sz.ok P = true) {t s : TypeId} {x : Operand} {d : Option Tmp} {ty : TypeId} {pos : String} {af : Array Edge} {g : Option (Nat × Bool)} {b off : Nat} {vs : List Value}
    (ht : find sz t = some (s, true)) (hx : ev L x = some (.pointer (some ⟨b, off, none⟩))) (hl : vs.length = s) (hc : ∀ w, A w → ∀ i v, nth vs i = some v → w.cell? ⟨b, off + i, none⟩ = some v) :
    Y P n L A ⟨d, .load t x, ty, pos, af, g⟩ (.agg vs.toArray) := by
  intro a w ha hA
  simp only [execOp, Instr.loadAt, Sem.run_bind, ev_ok ha hx, Instr.sureAddr, Sem.run_pure, Result.andThen_ok, run_loadVar_agg hk ht hl (hc w hA)]

section loads
variable {t s : TypeId} {x : Operand} {d : Nat} {ty : TypeId} {pos : String} {af : Array Edge} {g : Option (Nat × Bool)} {b off : Nat} {v : Value} {vs cs : List Value} {tt : TypeId}
/-- A cell of a block of ours. -/
theorem TL.ld (i : Nat) (hk : sz.ok P = true) (hi : nth M i = some (b, .row cs tt)) (hx : ev L x = some (.pointer (some ⟨b, off, none⟩))) (ht : find sz t = some (1, false)) (hv : nth cs off = some v)
    (hn : d.blt n = true) (hw : want ops L g = some true) (h : TL P f n R k ops rest ((d, v) :: L) (St X w0 M)) : TL P f n R k ops (⟨some d, .load t x, ty, pos, af, g⟩ :: rest) L (St X w0 M) :=
  TL.y hw rfl hn (Y.load hk ht hx fun w hA => hA.cell hi hv) h
/-- A whole block of ours. -/
theorem TL.ldW (i : Nat) (hk : sz.ok P = true) (hi : nth M i = some (b, .row cs tt)) (hx : ev L x = some (.pointer (some ⟨b, 0, none⟩))) (ht : find sz t = some (s, true)) (hl : cs.length = s)
    (hn : d.blt n = true) (hw : want ops L g = some true) (h : TL P f n R k ops rest ((d, .agg cs.toArray) :: L) (St X w0 M)) : TL P f n R k ops (⟨some d, .load t x, ty, pos, af, g⟩ :: rest) L (St X w0 M) :=
  TL.y hw rfl hn (Y.loadA hk ht hx hl fun w hA i v hv => by rw [Nat.zero_add]; exact hA.cell hi hv) h
/-- A part of a block of ours. -/
theorem TL.ldS (i : Nat) (hk : sz.ok P = true) (hi : nth M i = some (b, .row cs tt)) (hx : ev L x = some (.pointer (some ⟨b, off, none⟩))) (ht : find sz t = some (s, true)) (hl : vs.length = s)
    (hs : ∀ j v, nth vs j = some v → nth cs (off + j) = some v)
    (hn : d.blt n = true) (hw : want ops L g = some true) (h : TL P f n R k ops rest ((d, .agg vs.toArray) :: L) (St X w0 M)) : TL P f n R k ops (⟨some d, .load t x, ty, pos, af, g⟩ :: rest) L (St X w0 M) :=
  TL.y hw rfl hn (Y.loadA hk ht hx hl fun w hA i v hv => hA.cell hi (hs i v hv)) h
/-- What was there before the call. -/
theorem TL.ldR (hr : RowAt (view X w0) b off [v]) (hk : sz.ok P = true) (hx : ev L x = some (.pointer (some ⟨b, off, none⟩))) (ht : find sz t = some (1, false))
    (hn : d.blt n = true) (hw : want ops L g = some true) (h : TL P f n R k ops rest ((d, v) :: L) (St X w0 M)) : TL P f n R k ops (⟨some d, .load t x, ty, pos, af, g⟩ :: rest) L (St X w0 M) :=
  TL.y hw rfl hn (Y.load hk ht hx fun w hA => hr.cell hA.ext (i := 0) rfl) h
theorem TL.ldRA (hr : RowAt (view X w0) b off vs) (hk : sz.ok P = true) (hx : ev L x = some (.pointer (some ⟨b, off, none⟩))) (ht : find sz t = some (s, true)) (hl : vs.length = s)
    (hn : d.blt n = true) (hw : want ops L g = some true) (h : TL P f n R k ops rest ((d, .agg vs.toArray) :: L) (St X w0 M)) : TL P f n R k ops (⟨some d, .load t x, ty, pos, af, g⟩ :: rest) L (St X w0 M) :=
  TL.y hw rfl hn (Y.loadA hk ht hx hl fun w hA i v hv => hr.cell hA.ext hv) h
end loads

/- ---------- stores ---------- -/
def splice (cs : List Value) (off : Nat) (vs : List Value) : List Value := cs.take off ++ vs ++ cs.drop (off + vs.length)
theorem cells_one {v : Value} (h : v.oneCell' = true) : v.cells = #[v] := by cases v <;> first | rfl | (simp [Value.oneCell'] at h)
theorem heap_setRow (w : World) (g : Nat) (cur cs : Array Value) (t : TypeId) (h : w.heap[g]? = some (.cells cur t (0, 0))) : (w.setRow g cs).heap[g]? = some (.cells cs t (0, 0)) := setRow_heap w g cur cs t (0, 0) h
theorem St.setRow {w : World} (h : St X w0 M w) {i b : Nat} {cs cs' : List Value} {t : TypeId} (hi : nth M i = some (b, .row cs t)) : St X w0 (setN M i (b, .row cs' t)) (w.setRow b cs'.toArray) := by
  refine h.put hi (heap_setRow w b _ _ t (h.block hi)) (by simp [World.setRow]) (fun c hc => ?_) rfl rfl rfl
  simp [World.setRow, Array.getElem?_modify, Ne.symm hc]
theorem run_storeVar_at (hk : sz.ok P = true) {t s : Nat} {ag : Bool} (ht : find sz t = some (s, ag)) {b off : Nat} {tt : TypeId} {cs vs : List Value} {v : Value} {w : World} (hb : w.heap[b]? = some (.cells cs.toArray tt (0, 0)))
    (hvs : v.cells = vs.toArray) (hl : vs.length = s) (h1 : ∀ u ∈ vs, u.oneCell' = true) (hfit : off + vs.length ≤ cs.length) : (storeVar t ⟨b, off, none⟩ v).run P w = .ok () (w.setRow b (splice cs off vs).toArray) := by
  obtain ⟨i, d, hi, hs, hu, hg⟩ := Szs.at hk ht
  have := run_storeCells_at P b off tt vs 0 cs.toArray w hb (by simpa using hfit) h1
  simp only [Nat.add_zero] at this
  unfold storeVar splice
  simp only [Sem.run_bind, run_sizeOf' hi, Result.andThen_ok, hs, hvs, hl, List.size_toArray, ne_eq, not_true_eq_false, if_false, Sem.run_pure]
  rw [← hl]
  simpa using this
section stores
variable {t s : TypeId} {ag : Bool} {p x : Operand} {ty : TypeId} {pos : String} {af : Array Edge} {b off : Nat} {v : Value} {vs cs : List Value} {tt : TypeId}
theorem OkOp.store (i : Nat) (hk : sz.ok P = true) (hi : nth M i = some (b, .row cs tt)) (hp : ev L p = some (.pointer (some ⟨b, off, none⟩))) (ht : find sz t = some (s, ag)) (hx : ev L x = some v)
    (hvs : v.cells = vs.toArray) (hl : vs.length = s) (h1 : ∀ u ∈ vs, u.oneCell' = true) (hfit : off + vs.length ≤ cs.length) {g : Option (Nat × Bool)} :
    OkOp (β := Unit) P n L (St X w0 M) ⟨none, .store t p x, ty, pos, af, g⟩ (fun _ => L) (fun _ => St X w0 (setN M i (b, .row (splice cs off vs) tt))) := by
  intro a w ha hA next Q hn
  unfold Oper.wp
  have := run_storeVar_at hk ht (hA.block hi) hvs hl h1 hfit
  simp only [execOp, Instr.storeAt, Sem.run_bind, ev_ok ha hp, ev_ok ha hx, Instr.sureAddr, Sem.run_pure, Result.andThen_ok, this, Oper.upon]
  exact hn () _ _ ha (hA.setRow hi)
theorem setN_splice {cs : List Value} {off : Nat} {v : Value} (h : off < cs.length) : splice cs off [v] = setN cs off v := by
  rw [setN_eq, splice, List.set_eq_take_append_cons_drop, if_pos h]; simp
/-- A cell of a block of ours is written. -/
theorem TL.st (i : Nat) (hk : sz.ok P = true) (hi : nth M i = some (b, .row cs tt)) (hp : ev L p = some (.pointer (some ⟨b, off, none⟩))) (ht : find sz t = some (1, false)) (hx : ev L x = some v)
    (h1 : v.oneCell' = true) (hfit : Nat.blt off cs.length = true) (h : TL P f n R k ops rest L (St X w0 (setN M i (b, .row (setN cs off v) tt)))) :
    TL P f n R k ops (⟨none, .store t p x, ty, pos, af, none⟩ :: rest) L (St X w0 M) := by
  have hfit' : off < cs.length := by simpa using hfit
  refine TL.op rfl (OkOp.store i hk hi hp ht hx (vs := [v]) (cells_one h1) rfl (by simpa using h1) (by simp; omega)) (fun _ => ?_)
  rw [setN_splice hfit']; exact h
/-- A whole block of ours is written. -/
theorem TL.stW (i : Nat) (hk : sz.ok P = true) (hi : nth M i = some (b, .row cs tt)) (hp : ev L p = some (.pointer (some ⟨b, 0, none⟩))) (ht : find sz t = some (s, true)) (hx : ev L x = some (.agg vs.toArray))
    (hl : vs.length = s) (hc : cs.length = s) (h1 : ∀ u ∈ vs, u.oneCell' = true) (h : TL P f n R k ops rest L (St X w0 (setN M i (b, .row vs tt)))) :
    TL P f n R k ops (⟨none, .store t p x, ty, pos, af, none⟩ :: rest) L (St X w0 M) := by
  refine TL.op rfl (OkOp.store i hk hi hp ht hx (vs := vs) rfl hl h1 (by omega)) (fun _ => ?_)
  have : splice cs 0 vs = vs := by simp [splice]; omega
  rw [this]; exact h
/-- A part of a block of ours is written. -/
theorem TL.stS (i : Nat) (hk : sz.ok P = true) (hi : nth M i = some (b, .row cs tt)) (hp : ev L p = some (.pointer (some ⟨b, off, none⟩))) (ht : find sz t = some (s, true)) (hx : ev L x = some (.agg vs.toArray))
    (hl : vs.length = s) (h1 : ∀ u ∈ vs, u.oneCell' = true) (hfit : off + vs.length ≤ cs.length) (h : TL P f n R k ops rest L (St X w0 (setN M i (b, .row (splice cs off vs) tt)))) :
    TL P f n R k ops (⟨none, .store t p x, ty, pos, af, none⟩ :: rest) L (St X w0 M) :=
  TL.op rfl (OkOp.store i hk hi hp ht hx (vs := vs) rfl hl h1 hfit) (fun _ => h)
end stores

/- ---------- new blocks ---------- -/
section news
variable {t : TypeId} {x : Operand} {d : Nat} {ty : TypeId} {pos : String} {af : Array Edge} {g : Option (Nat × Bool)} {v : Value} {cs : List Value}
theorem OkOp.alloc (hz : ∀ w, (zeroValue t).run P w = .ok v w) (hc : v.cells.toList = cs) (hn : d.blt n = true) :
    OkOp (β := Nat) P n L (St X w0 M) ⟨some d, .alloc t, ty, pos, af, g⟩ (fun b => (d, .pointer (some ⟨b, 0, none⟩)) :: L) (fun b => St X w0 ((b, .row cs t) :: M)) := by
  intro a w ha hA next Q hnx
  unfold Oper.wp
  simp only [execOp, Instr.alloc, Sem.run_bind, hz, Result.andThen_ok, newVar, newRow, run_newObj, Sem.run_pure, Oper.upon]
  have : v.cells = cs.toArray := by rw [← hc]
  rw [this]
  exact hnx w.heap.size _ _ (ha.put (by simpa using hn)) (hA.alloc (.row cs t))
theorem TL.alloc (hz : ∀ w, (zeroValue t).run P w = .ok v w) (hc : v.cells.toList = cs) (hn : d.blt n = true) (hw : want ops L g = some true)
    (h : ∀ b, TL P f n R k ops rest ((d, .pointer (some ⟨b, 0, none⟩)) :: L) (St X w0 ((b, .row cs t) :: M))) : TL P f n R k ops (⟨some d, .alloc t, ty, pos, af, g⟩ :: rest) L (St X w0 M) :=
  TL.op hw (OkOp.alloc hz hc hn) h
theorem OkOp.box (hx : ev L x = some v) (hc : v.cells.toList = cs) (hn : d.blt n = true) :
    OkOp (β := Nat) P n L (St X w0 M) ⟨some d, .box t x, ty, pos, af, g⟩ (fun b => (d, .pointer (some ⟨b, 0, none⟩)) :: L) (fun b => St X w0 ((b, .row cs t) :: M)) := by
  intro a w ha hA next Q hnx
  unfold Oper.wp
  have : v.cells = cs.toArray := by rw [← hc]
  simp only [execOp, Instr.box, Sem.run_bind, Result.andThen_ok, newVar, newRow, run_newObj, Sem.run_pure, Oper.upon, ev_ok ha hx, this]
  exact hnx w.heap.size _ _ (ha.put (by simpa using hn)) (hA.alloc (.row cs t))
theorem TL.box (hx : ev L x = some v) (hc : v.cells.toList = cs) (hn : d.blt n = true) (hw : want ops L g = some true)
    (h : ∀ b, TL P f n R k ops rest ((d, .pointer (some ⟨b, 0, none⟩)) :: L) (St X w0 ((b, .row cs t) :: M))) : TL P f n R k ops (⟨some d, .box t x, ty, pos, af, g⟩ :: rest) L (St X w0 M) :=
  TL.op hw (OkOp.box hx hc hn) h
end news

/- ---------- a call of a Go function ---------- -/
section calls
variable {fn : FuncId} {xs : Array Operand} {ts : Array TypeId} {d : Nat} {ty : TypeId} {pos : String} {af : Array Edge} {g : Option (Nat × Bool)} {vs : List Value} {β : Type} {v : β → Value} {B : β → World → Prop}
theorem OkOp.call (hcall : ∀ (as : Array Value) w, (callFunc fn as).run P w = .ok (.enter fn as) w) (hx : evs L xs.toList = some vs) (hn : d.blt n = true)
    (hc : ∀ w, A w → Calls P fn vs.toArray w fun e w' => ∃ y, e = .returned (v y) ∧ B y w') :
    OkOp P n L A ⟨some d, .call { callee := .value (.func fn), args := xs, argTypes := ts }, ty, pos, af, g⟩ (fun y => (d, v y) :: L) B := by
  intro a w ha hA next Q hnx
  unfold Oper.wp
  have hargs : xs.map a.eval = vs.toArray := by
    have := evs_ok ha hx
    rw [← this, ← Array.toList_map]
  simp only [execOp, resolve, Sem.run_bind, Act.eval, Deferred.ofValue, Sem.run_pure, Result.andThen_ok, invoke, Array.empty_append, Array.append_empty, hargs, hcall, Oper.upon]
  refine (hc w hA).mono ?_
  rintro e w' ⟨y, rfl, hB⟩
  exact hnx y _ _ (ha.put (by simpa using hn)) hB
theorem TL.call (hcall : ∀ (as : Array Value) w, (callFunc fn as).run P w = .ok (.enter fn as) w) (hx : evs L xs.toList = some vs) (hn : d.blt n = true) (hw : want ops L g = some true)
    (hc : ∀ w, A w → Calls P fn vs.toArray w fun e w' => ∃ y, e = .returned (v y) ∧ B y w') (h : ∀ y, TL P f n R k ops rest ((d, v y) :: L) (B y)) :
    TL P f n R k ops (⟨some d, .call { callee := .value (.func fn), args := xs, argTypes := ts }, ty, pos, af, g⟩ :: rest) L A :=
  TL.op hw (OkOp.call hcall hx hn hc) h
end calls
end
end X
end Go.Proofs.YtifnodoffgfpbaaGreatDoor
