/- Texts F11, F12, F13, F14, F15. Contracts: bodies of options and of parameters are packed. -/
import Derived.Test.YtifnodoffgfpbaaGreatDoorPae
namespace Go.Proofs.YtifnodoffgfpbaaGreatDoor
open Go
namespace X
theorem SlB.shape {h : View} {v : Value} {l : Bs} (k : SlB h v l) : ∃ a cap, v = .slice a l.length cap ∧ l.length ≤ cap := by
  rcases k with ⟨⟨a, c, rfl⟩, rfl⟩ | ⟨b, o, cap, rfl, h2, _⟩
  · exact ⟨a, c, rfl, Nat.zero_le _⟩
  · exact ⟨_, cap, rfl, h2⟩
theorem SlB.src' {Z : List Nat} {w0 : World} {M : Mem} {v : Value} {l : Bs} (h : SlB (view Z w0) v l) {A : World → Prop} (hA : ∀ w, A w → ∃ w1, Ext Z w0 w1 ∧ w = w1) : True := trivial
theorem packOPT (q : Option Nat) (rb ro : Nat) (r : Rc) (hr : r.Ok) (hk : r.kind = 10) (p : Pk) (hole : Hole) (h : p.ok hole q) (hB : p.B.length + 4000 ≤ 4294967296) : BodyCt 128 r q p hole rb ro := by
  intro w hS ⟨xv, hrow, hx⟩
  have hk' : r.kind.toNat = 10 := by rw [hk]; rfl
  have hd := hr.pairl
  have hd2 := pairB_len r.pairs
  simp only [bodyCells, hk'] at hrow
  simp only [bodyX, hk'] at hx
  obtain ⟨a, cap, hsh, hcap⟩ := hx.shape
  subst hsh
  refine calls_of_T (m := 39) Tryz.func128 rfl rfl (by simp) hS ?_
  repeat (first | refine za rfl rfl ?_ | refine zb rfl ?_ | refine zc rfl ?_)
  refine TL.ldR (hrow.one (i := 0) rfl rfl) szk rfl rfl rfl rfl ?_
  repeat (first | refine za rfl rfl ?_ | refine zb rfl ?_ | refine zc rfl ?_)
  refine T.loop (α := Nat × Pk) (fun x => [(1, x.2.sl), (16, .slice a r.pairs.length cap), (17, .int .i64 (r.pairs.length : Int)), (18, .int .i64 (x.1 : Int))])
    (fun x w' => (x.1 ≤ r.pairs.length ∧ x.2.ok hole q ∧ x.2.B = p.B ++ pairB (r.pairs.take x.1)) ∧ St (keys (p.mem q)) w (x.2.mem q) w') (fun x => r.pairs.length - x.1) (0, p) ⟨rfl, rfl, rfl, rfl, trivial⟩
    (fun w' hA => ⟨⟨Nat.zero_le _, h, by simp [pairB]⟩, hA⟩) ?_
  rintro ⟨i, x⟩ ih
  refine T.and fun ⟨hi, hok, hE⟩ => ?_
  simp only at hi hok hE
  have hlen : x.B.length = p.B.length + (pairB (r.pairs.take i)).length := by rw [hE]; simp
  have hle := pairB_take_le r.pairs i
  repeat (first | refine za rfl rfl ?_ | refine zb rfl ?_ | refine zc rfl ?_)
  by_cases hlt : i < r.pairs.length
  · refine T.condT rfl (by simpa using hlt) ?_
    obtain ⟨s, hs⟩ := nth_lt hlt
    obtain ⟨b, o, cap', cs, hv, _, _, hrs, dv, hcs, hdv⟩ := hx.at hs
    injection hv with hv1 _ hv3
    subst hv1 hv3 hcs
    obtain ⟨da, dcap, hdsh, hdcap⟩ := hdv.shape
    have hsl := pairB_mem (nth_mem hs)
    subst hdsh
    repeat (first | refine za rfl rfl ?_ | refine zb rfl ?_ | refine zc rfl ?_)
    refine TL.ix (j := i) tbk rfl rfl rfl rfl rfl rfl hlt ?_
    refine TL.ldRA hrs szk rfl rfl rfl rfl rfl ?_
    refine TL.alloc Tryz.zeroValue250 rfl rfl rfl (fun lb => ?_)
    refine TL.stW (vs := [.int .u16 (s.key : Int), .slice da s.data.length dcap]) 0 szk rfl rfl rfl rfl rfl rfl (by intro u hu; simp at hu; rcases hu with rfl | rfl <;> rfl) ?_
    repeat (first | refine za rfl rfl ?_ | refine zb rfl ?_ | refine zc rfl ?_)
    refine TL.ld 0 szk rfl rfl rfl rfl rfl rfl ?_
    refine TL.callS [_] Tryz.call102 rfl rfl rfl rfl (pk16 102 packUint16_ok q x hole hok (by omega) s.key) (fun _ _ => trivial) (fun y1 => TL.and fun ⟨ok1, e1⟩ => ?_)
    have l1 : y1.B.length = x.B.length + 2 := by rw [e1]; simp [w2]
    repeat (first | refine za rfl rfl ?_ | refine zb rfl ?_ | refine zc rfl ?_)
    refine TL.ld 0 szk rfl rfl rfl rfl rfl rfl ?_
    repeat (first | refine za rfl rfl ?_ | refine zb rfl ?_ | refine zc rfl ?_)
    rw [u16_in ((s.data.length : Nat) : Int) (by omega) (by omega)]
    refine TL.callS [_] Tryz.call102 rfl rfl rfl rfl (pk16 102 packUint16_ok q y1 hole ok1 (by omega) s.data.length) (fun _ _ => trivial) (fun y2 => TL.and fun ⟨ok2, e2⟩ => ?_)
    have l2 : y2.B.length = y1.B.length + 2 := by rw [e2]; simp [w2]
    repeat (first | refine za rfl rfl ?_ | refine zb rfl ?_ | refine zc rfl ?_)
    refine TL.ld 0 szk rfl rfl rfl rfl rfl rfl ?_
    refine TL.callS [_] Tryz.call145 rfl rfl rfl rfl (pkBytes q y2 hole ok2 (.slice da s.data.length dcap) s.data (by omega)) (fun w' hA => hdv.mono (st_viewLe hA (Mc := y2.mem q) fun _ hp => List.mem_cons_of_mem _ hp)) (fun y3 => TL.and fun ⟨ok3, e3⟩ => ?_)
    repeat (first | refine za rfl rfl ?_ | refine zb rfl ?_ | refine zc rfl ?_)
    rw [add1_i64 (a := i) (by omega)]
    exact T.again ih (i + 1, y3) (by simp; omega) ⟨rfl, rfl, rfl, rfl, trivial⟩ (fun w' hA => ⟨⟨by simp; omega, ok3, by simp only; rw [e3, e2, e1, hE, pairB_take hs]; simp⟩, hA.sub (by simp)⟩)
  · refine T.condF rfl (by simpa using hlt) ?_
    have : i = r.pairs.length := by omega
    subst this
    rw [List.take_length] at hE
    repeat (first | refine za rfl rfl ?_ | refine zb rfl ?_ | refine zc rfl ?_)
    refine T.ret Tryz.func128 rfl (fun w hA => ⟨x, rfl, ⟨hok, ⟨_, hE, by omega⟩, ?_⟩, hA⟩)
    simp only [BodyAt, hk']
    refine ⟨by rw [hE]; exact h.new _, by rw [hE, List.length_append]⟩
theorem packSVCB (q : Option Nat) (rb ro : Nat) (r : Rc) (hr : r.Ok) (hk : r.kind = 11 ∨ r.kind = 12) (p : Pk) (hole : Hole) (h : p.ok hole q) (hB : p.B.length + 4000 ≤ 4294967296) : BodyCt 147 r q p hole rb ro := by
  intro w hS ⟨xv, hrow, hx⟩
  have hrow : RowAt (view (keys (p.mem q)) w) rb ro (.int .u16 ((r.n1 % 65536 : Nat) : Int) :: (nameCells r.host ++ [xv])) := by
    rcases hk with hk | hk <;> (have hk' := congrArg Int.toNat hk; simp only [bodyCells, hk'] at hrow; exact hrow)
  have hx : SlP (view (keys (p.mem q)) w) xv r.pairs := by
    rcases hk with hk | hk <;> (have hk' := congrArg Int.toNat hk; simp only [bodyX, hk'] at hx; exact hx)
  obtain ⟨hn, hl⟩ := hr.host (by rcases hk with hk | hk <;> rw [hk] <;> decide)
  have hs2 := hn.len
  have hasc := hr.asc hk
  have hd := hr.pairl
  have hd2 := pairB_len r.pairs
  have hnl := nameCells_length (s := r.host) (by omega)
  have at1 : nth (.int .u16 ((r.n1 % 65536 : Nat) : Int) :: (nameCells r.host ++ [xv])) 257 = some xv := by
    rw [nth_eq, List.getElem?_cons_succ, List.getElem?_append_right (by omega), hnl]; rfl
  obtain ⟨a, cap, hsh, hcap⟩ := hx.shape
  subst hsh
  refine calls_of_T (m := 85) Tryz.func147 rfl rfl (by simp) hS ?_
  repeat (first | refine za rfl rfl ?_ | refine zb rfl ?_ | refine zc rfl ?_)
  refine TL.ldR (hrow.one (i := 0) rfl rfl) szk rfl rfl rfl rfl ?_
  refine TL.callS [] Tryz.call102 rfl rfl rfl rfl (pk16 102 packUint16_ok q p hole h (by omega) (r.n1 % 65536)) (fun _ _ => trivial) (fun y3 => TL.and fun ⟨ok3, e3⟩ => ?_)
  have l3 : y3.B.length = p.B.length + 2 := by rw [e3]; simp [w2]
  repeat (first | refine za rfl rfl ?_ | refine zb rfl ?_ | refine zc rfl ?_)
  refine TL.call2N 0 Tryz.call103 rfl rfl rfl rfl (namePack' none rb (ro + 1) r.host hn hl { y3 with es := [], ck := 0, ms := [] } hole ⟨ok3.own, rfl, by simp, fun _ => rfl, ok3.hole⟩ (by show y3.B.length ≤ _; omega)) (fun w' hA => (hrow.part (i := 1) (us := nameCells r.host) (fun j v hj => by
    rw [nth_eq] at *; rw [Nat.add_comm, List.getElem?_cons_succ, List.getElem?_append_left (List.getElem?_eq_some_iff.1 hj).1]; exact hj) rfl).mono (st_viewLe hA (Mc := [(y3.b, .row y3.cs 5)]) fun _ hp => by simp [Pk.mem] at hp ⊢; exact .inl hp)) (fun y4 => TL.and fun ⟨ok4, ⟨E4, hE4, hL4⟩, n4⟩ => ?_)
  simp only at hE4
  repeat (first | refine za rfl rfl ?_ | refine zb rfl ?_ | refine zc rfl ?_)
  refine T.condF rfl rfl ?_
  have ok5 : ({ y4 with es := y3.es, ck := y3.ck, ms := y3.ms } : Pk).ok hole q := ⟨ok4.own, ok3.mp, fun e he => (ok3.ent e he).mono (by rw [hE4]; exact kn_append _ _ _), ok3.emp, ok4.hole⟩
  repeat (first | refine za rfl rfl ?_ | refine zb rfl ?_ | refine zc rfl ?_)
  refine TL.ldR (hrow.one (i := 257) at1 rfl) szk rfl rfl rfl rfl ?_
  repeat (first | refine za rfl rfl ?_ | refine zb rfl ?_ | refine zc rfl ?_)
  have l4 : y4.B.length = y3.B.length + E4.length := by rw [hE4]; simp
  refine T.loop (α := Nat × Pk) (fun x => [(1, x.2.sl), (12, .int .u16 0), (40, .slice a r.pairs.length cap), (41, .int .i64 (r.pairs.length : Int)), (42, .int .i64 (x.1 : Int))])
    (fun x w' => (x.1 ≤ r.pairs.length ∧ x.2.ok hole q ∧ x.2.B = y4.B ++ pairB (r.pairs.take x.1)) ∧ St (keys (p.mem q)) w (x.2.mem q) w') (fun x => r.pairs.length - x.1) (0, { y4 with es := y3.es, ck := y3.ck, ms := y3.ms }) ⟨rfl, rfl, rfl, rfl, rfl, trivial⟩
    (fun w' hA => ⟨⟨Nat.zero_le _, ok5, by simp [pairB]⟩, hA⟩) ?_
  rintro ⟨i, x⟩ ih
  refine T.and fun ⟨hi, hok, hE⟩ => ?_
  simp only at hi hok hE
  have hlen : x.B.length = y4.B.length + (pairB (r.pairs.take i)).length := by rw [hE]; simp
  have hle := pairB_take_le r.pairs i
  repeat (first | refine za rfl rfl ?_ | refine zb rfl ?_ | refine zc rfl ?_)
  by_cases hlt : i < r.pairs.length
  · refine T.condT rfl (by simpa using hlt) ?_
    obtain ⟨s, hs⟩ := nth_lt hlt
    obtain ⟨b, o, cap', cs, hv, _, _, hrs, dv, hcs, hdv⟩ := hx.at hs
    injection hv with hv1 _ hv3
    subst hv1 hv3 hcs
    obtain ⟨da, dcap, hdsh, hdcap⟩ := hdv.shape
    have hsl := pairB_mem (nth_mem hs)
    have hkey := hasc i s
    subst hdsh
    repeat (first | refine za rfl rfl ?_ | refine zb rfl ?_ | refine zc rfl ?_)
    refine TL.ix (j := i) tbk rfl rfl rfl rfl rfl rfl hlt ?_
    refine TL.ldRA hrs szk rfl rfl rfl rfl rfl ?_
    refine TL.alloc Tryz.zeroValue262 rfl rfl rfl (fun lb => ?_)
    repeat (first | refine za rfl rfl ?_ | refine zb rfl ?_ | refine zc rfl ?_)
    refine TL.stW (vs := [.int .u16 (s.key : Int), .slice da s.data.length dcap]) 0 szk rfl rfl rfl rfl rfl rfl (by intro u hu; simp at hu; rcases hu with rfl | rfl <;> rfl) ?_
    by_cases h0 : i = 0
    case' pos =>
      repeat (first | refine za rfl rfl ?_ | refine zb rfl ?_ | refine zc rfl ?_)
      rw [show decide ((((i, x).fst : Nat) : Int) > 0) = false by simp [h0]]
      repeat (first | refine za rfl rfl ?_ | refine zb rfl ?_ | refine zc rfl ?_)
      refine T.condF rfl rfl ?_
    case' neg =>
      have hk0 := hkey (by omega) hs
      repeat (first | refine za rfl rfl ?_ | refine zb rfl ?_ | refine zc rfl ?_)
      rw [show decide ((((i, x).fst : Nat) : Int) > 0) = true by simp; omega]
      repeat (first | refine za rfl rfl ?_ | refine zb rfl ?_ | refine zc rfl ?_)
      refine TL.ld 0 szk rfl rfl rfl rfl rfl rfl ?_
      repeat (first | refine za rfl rfl ?_ | refine zb rfl ?_ | refine zc rfl ?_)
      refine T.condF rfl (by simp; omega) ?_
    all_goals
      repeat (first | refine za rfl rfl ?_ | refine zb rfl ?_ | refine zc rfl ?_)
      refine TL.ld 0 szk rfl rfl rfl rfl rfl rfl ?_
      repeat (first | refine za rfl rfl ?_ | refine zb rfl ?_ | refine zc rfl ?_)
      refine T.condF rfl (by simp; omega) ?_
      repeat (first | refine za rfl rfl ?_ | refine zb rfl ?_ | refine zc rfl ?_)
      refine TL.ld 0 szk rfl rfl rfl rfl rfl rfl ?_
      refine TL.callS [_] Tryz.call102 rfl rfl rfl rfl (pk16 102 packUint16_ok q x hole hok (by omega) s.key) (fun _ _ => trivial) (fun y5 => TL.and fun ⟨ok6, e5⟩ => ?_)
      have l5 : y5.B.length = x.B.length + 2 := by rw [e5]; simp [w2]
      repeat (first | refine za rfl rfl ?_ | refine zb rfl ?_ | refine zc rfl ?_)
      refine TL.ld 0 szk rfl rfl rfl rfl rfl rfl ?_
      repeat (first | refine za rfl rfl ?_ | refine zb rfl ?_ | refine zc rfl ?_)
      rw [u16_in ((s.data.length : Nat) : Int) (by omega) (by omega)]
      refine TL.callS [_] Tryz.call102 rfl rfl rfl rfl (pk16 102 packUint16_ok q y5 hole ok6 (by omega) s.data.length) (fun _ _ => trivial) (fun y6 => TL.and fun ⟨ok7, e6⟩ => ?_)
      have l6 : y6.B.length = y5.B.length + 2 := by rw [e6]; simp [w2]
      repeat (first | refine za rfl rfl ?_ | refine zb rfl ?_ | refine zc rfl ?_)
      refine TL.ld 0 szk rfl rfl rfl rfl rfl rfl ?_
      refine TL.append 1 el37 sl37 rfl rfl rfl rfl rfl ok7.own (SlB.src hdv) (by omega) (by omega) (fun b' cs' cap' ho' => ?_)
      repeat (first | refine za rfl rfl ?_ | refine zb rfl ?_ | refine zc rfl ?_)
      rw [add1_i64 (a := i) (by omega)]
      refine T.again ih (i + 1, { y6 with b := b', cs := cs', cap := cap', B := y6.B ++ s.data }) (by simp; omega) ⟨?_, rfl, rfl, rfl, rfl, trivial⟩ (fun w' hA => ⟨⟨by simp; omega, ok7.app (ho'.cast (by simp) (by simp)), by simp only; rw [e6, e5, hE, pairB_take hs]; simp⟩, hA.sub (by simp [setN, Pk.mem])⟩)
      simp only [look, Pk.sl, slV, List.length_append]
      rfl
  · refine T.condF rfl (by simpa using hlt) ?_
    have : i = r.pairs.length := by omega
    subst this
    rw [List.take_length] at hE
    repeat (first | refine za rfl rfl ?_ | refine zb rfl ?_ | refine zc rfl ?_)
    have hBA : BodyAt (kn x.B hole) r p.B.length x.B.length := by
      have : ∃ f1, BytesAt (kn x.B hole) p.B.length (w2 r.n1) ∧ NmAt (kn x.B hole) (p.B.length + 2) r.host f1 ∧ BytesAt (kn x.B hole) f1 (pairB r.pairs) ∧ x.B.length = f1 + (pairB r.pairs).length := by
        refine ⟨y4.B.length, ?_, ?_, by rw [hE]; exact ok4.new _, by rw [hE, List.length_append]⟩
        · have := h.new (w2 r.n1)
          rw [← w2_mod, ← e3] at this
          rw [w2_mod] at this
          refine this.mono ?_
          rw [hE, hE4, List.append_assoc]; exact kn_append _ _ _
        · rw [← l3]
          exact n4.mono (by rw [hE]; exact kn_append _ _ _)
      rcases hk with hk | hk <;> (have hk' := congrArg Int.toNat hk; simp only [BodyAt, hk']; exact this)
    refine T.ret Tryz.func147 rfl (fun w hA => ⟨x, rfl, ⟨hok, ⟨w2 (r.n1 % 65536) ++ (E4 ++ pairB r.pairs), by rw [hE, hE4, e3]; simp, by simp [w2]; omega⟩, hBA⟩, hA⟩)
end X
namespace X
def ifTy (k : Nat) : TypeId := match k with
  | 1 => 214 | 2 => 215 | 3 => 216 | 4 => 217 | 5 => 218 | 6 => 219 | 7 => 220 | 8 => 221 | 9 => 222 | 10 => 223 | 11 => 224 | 12 => 225 | _ => 226
def packFn (k : Nat) : FuncId := match k with
  | 1 => 110 | 2 => 112 | 3 => 114 | 4 => 116 | 5 => 118 | 6 => 120 | 7 => 122 | 8 => 124 | 9 => 126 | 10 => 128 | 11 => 147 | 12 => 147 | _ => 135
def realFn (k : Nat) : FuncId := match k with
  | 1 => 109 | 2 => 111 | 3 => 113 | 4 => 115 | 5 => 117 | 6 => 119 | 7 => 121 | 8 => 123 | 9 => 125 | 10 => 127 | 11 => 130 | 12 => 133 | _ => 134
abbrev ptr (b o : Nat) : Value := .pointer (some ⟨b, o, none⟩)
theorem meth_pack : ∀ k b o w, (method (Tryz.prog.types.size + Made.depth) (ifTy k) (ptr b o) "loop.example/pub-messagesmixed/pub/dnsmessage.pack").run Tryz.prog w = .ok (packFn k, ptr b o) w := by
  intro k b o w
  unfold ifTy packFn
  split <;> kernel_rfl
theorem meth_real : ∀ k b o w, (method (Tryz.prog.types.size + Made.depth) (ifTy k) (ptr b o) "loop.example/pub-messagesmixed/pub/dnsmessage.realType").run Tryz.prog w = .ok (realFn k, ptr b o) w := by
  intro k b o w
  unfold ifTy realFn
  split <;> kernel_rfl
theorem callPack (k : Nat) (ax : Array Value) (w : World) : (callFunc (packFn k) ax).run Tryz.prog w = .ok (.enter (packFn k) ax) w := by
  unfold packFn
  split
  · exact Tryz.call110 ax w
  · exact Tryz.call112 ax w
  · exact Tryz.call114 ax w
  · exact Tryz.call116 ax w
  · exact Tryz.call118 ax w
  · exact Tryz.call120 ax w
  · exact Tryz.call122 ax w
  · exact Tryz.call124 ax w
  · exact Tryz.call126 ax w
  · exact Tryz.call128 ax w
  · exact Tryz.call147 ax w
  · exact Tryz.call147 ax w
  · exact Tryz.call135 ax w
theorem callReal (k : Nat) (ax : Array Value) (w : World) : (callFunc (realFn k) ax).run Tryz.prog w = .ok (.enter (realFn k) ax) w := by
  unfold realFn
  split
  · exact Tryz.call109 ax w
  · exact Tryz.call111 ax w
  · exact Tryz.call113 ax w
  · exact Tryz.call115 ax w
  · exact Tryz.call117 ax w
  · exact Tryz.call119 ax w
  · exact Tryz.call121 ax w
  · exact Tryz.call123 ax w
  · exact Tryz.call125 ax w
  · exact Tryz.call127 ax w
  · exact Tryz.call130 ax w
  · exact Tryz.call133 ax w
  · exact Tryz.call134 ax w
theorem kind_cases {r : Rc} (hr : r.Ok) : r.kind = 1 ∨ r.kind = 2 ∨ r.kind = 3 ∨ r.kind = 4 ∨ r.kind = 5 ∨ r.kind = 6 ∨ r.kind = 7 ∨ r.kind = 8 ∨ r.kind = 9 ∨ r.kind = 10 ∨ r.kind = 11 ∨ r.kind = 12 ∨ r.kind = 13 := by
  have := hr.kind; omega
theorem bodyPack (q : Option Nat) (rb ro : Nat) (r : Rc) (hr : r.Ok) (p : Pk) (hole : Hole) (h : p.ok hole q) (hB : p.B.length + 4000 ≤ 4294967296) : BodyCt (packFn r.kind.toNat) r q p hole rb ro := by
  rcases kind_cases hr with k | k | k | k | k | k | k | k | k | k | k | k | k <;> (have e := congrArg Int.toNat k; rw [e])
  · exact packA q rb ro r hr k p hole h hB
  · exact packNS q rb ro r hr k p hole h hB
  · exact packCNAME q rb ro r hr k p hole h hB
  · exact packSOA q rb ro r hr k p hole h hB
  · exact packPTR q rb ro r hr k p hole h hB
  · exact packMX q rb ro r hr k p hole h hB
  · exact packTXT q rb ro r hr k p hole h hB
  · exact packAAAA q rb ro r hr k p hole h hB
  · exact packSRV q rb ro r hr k p hole h hB
  · exact packOPT q rb ro r hr k p hole h hB
  · exact packSVCB q rb ro r hr (.inl k) p hole h hB
  · exact packSVCB q rb ro r hr (.inr k) p hole h hB
  · exact packUnknown q rb ro r hr k p hole h hB
theorem realType (rb ro : Nat) (r : Rc) (hr : r.Ok) : Ct (β := Unit) Tryz.prog (realFn r.kind.toNat) [ptr rb ro] [] (fun w => BodyMem (view [] w) rb ro r) (fun _ => .int .u16 (typeOf r : Int)) (fun _ _ => True) (fun _ => []) := by
  intro w hS ⟨xv, hrow, hx⟩
  rcases kind_cases hr with k | k | k | k | k | k | k | k | k | k | k | k | k <;> (have e := congrArg Int.toNat k; rw [e]; simp only [typeOf, e])
  · refine calls_of_T (m := 3) Tryz.func109 rfl rfl (by simp) hS ?_
    repeat (first | refine za rfl rfl ?_ | refine zb rfl ?_ | refine zc rfl ?_)
    exact T.ret Tryz.func109 rfl (fun w hA => ⟨(), rfl, trivial, hA⟩)
  · refine calls_of_T (m := 3) Tryz.func111 rfl rfl (by simp) hS ?_
    repeat (first | refine za rfl rfl ?_ | refine zb rfl ?_ | refine zc rfl ?_)
    exact T.ret Tryz.func111 rfl (fun w hA => ⟨(), rfl, trivial, hA⟩)
  · refine calls_of_T (m := 3) Tryz.func113 rfl rfl (by simp) hS ?_
    repeat (first | refine za rfl rfl ?_ | refine zb rfl ?_ | refine zc rfl ?_)
    exact T.ret Tryz.func113 rfl (fun w hA => ⟨(), rfl, trivial, hA⟩)
  · refine calls_of_T (m := 3) Tryz.func115 rfl rfl (by simp) hS ?_
    repeat (first | refine za rfl rfl ?_ | refine zb rfl ?_ | refine zc rfl ?_)
    exact T.ret Tryz.func115 rfl (fun w hA => ⟨(), rfl, trivial, hA⟩)
  · refine calls_of_T (m := 3) Tryz.func117 rfl rfl (by simp) hS ?_
    repeat (first | refine za rfl rfl ?_ | refine zb rfl ?_ | refine zc rfl ?_)
    exact T.ret Tryz.func117 rfl (fun w hA => ⟨(), rfl, trivial, hA⟩)
  · refine calls_of_T (m := 3) Tryz.func119 rfl rfl (by simp) hS ?_
    repeat (first | refine za rfl rfl ?_ | refine zb rfl ?_ | refine zc rfl ?_)
    exact T.ret Tryz.func119 rfl (fun w hA => ⟨(), rfl, trivial, hA⟩)
  · refine calls_of_T (m := 3) Tryz.func121 rfl rfl (by simp) hS ?_
    repeat (first | refine za rfl rfl ?_ | refine zb rfl ?_ | refine zc rfl ?_)
    exact T.ret Tryz.func121 rfl (fun w hA => ⟨(), rfl, trivial, hA⟩)
  · refine calls_of_T (m := 3) Tryz.func123 rfl rfl (by simp) hS ?_
    repeat (first | refine za rfl rfl ?_ | refine zb rfl ?_ | refine zc rfl ?_)
    exact T.ret Tryz.func123 rfl (fun w hA => ⟨(), rfl, trivial, hA⟩)
  · refine calls_of_T (m := 3) Tryz.func125 rfl rfl (by simp) hS ?_
    repeat (first | refine za rfl rfl ?_ | refine zb rfl ?_ | refine zc rfl ?_)
    exact T.ret Tryz.func125 rfl (fun w hA => ⟨(), rfl, trivial, hA⟩)
  · refine calls_of_T (m := 3) Tryz.func127 rfl rfl (by simp) hS ?_
    repeat (first | refine za rfl rfl ?_ | refine zb rfl ?_ | refine zc rfl ?_)
    exact T.ret Tryz.func127 rfl (fun w hA => ⟨(), rfl, trivial, hA⟩)
  · refine calls_of_T (m := 3) Tryz.func130 rfl rfl (by simp) hS ?_
    repeat (first | refine za rfl rfl ?_ | refine zb rfl ?_ | refine zc rfl ?_)
    exact T.ret Tryz.func130 rfl (fun w hA => ⟨(), rfl, trivial, hA⟩)
  · refine calls_of_T (m := 3) Tryz.func133 rfl rfl (by simp) hS ?_
    repeat (first | refine za rfl rfl ?_ | refine zb rfl ?_ | refine zc rfl ?_)
    exact T.ret Tryz.func133 rfl (fun w hA => ⟨(), rfl, trivial, hA⟩)
  · simp only [bodyCells, e] at hrow
    refine calls_of_T (m := 7) Tryz.func134 rfl rfl (by simp) hS ?_
    repeat (first | refine za rfl rfl ?_ | refine zb rfl ?_ | refine zc rfl ?_)
    refine TL.ldR (hrow.one (i := 0) rfl rfl) szk rfl rfl rfl rfl ?_
    repeat (first | refine za rfl rfl ?_ | refine zb rfl ?_ | refine zc rfl ?_)
    exact T.ret Tryz.func134 rfl (fun w hA => ⟨(), rfl, trivial, hA⟩)
end X
namespace X
theorem nth_setN {l : List Value} {i j : Nat} {v : Value} (h : i < l.length) : nth (setN l i v) j = if i = j then some v else nth l j := by
  rw [nth_eq, nth_eq, setN_eq, List.getElem?_set]
  split
  · rename_i e; subst e; simp [h]
  · rfl
theorem NameAt.lt {K : KM} {o : Nat} {s : Bs} {fin c : Nat} (h : NameAt K o s fin c) : o < fin := by induction h <;> omega
theorem NmAt.lt {K : KM} {o : Nat} {s : Bs} {fin : Nat} (h : NmAt K o s fin) : o < fin := let ⟨_, a, _⟩ := h; a.lt
theorem putLen_pre {B E : Bs} {o m : Nat} (h : B.length ≤ o) (ho : o + 2 ≤ (B ++ E).length) : ∃ E', putLen (B ++ E) o m = B ++ E' ∧ E'.length = E.length := by
  refine ⟨putLen E (o - B.length) m, ?_, by rw [putLen_length (by simp at ho; omega)]⟩
  unfold putLen
  rw [List.take_append, List.drop_append, List.take_of_length_le h, List.drop_eq_nil_of_le (by omega)]
  simp [show o + 2 - B.length = o - B.length + 2 by omega]
theorem resPack (q : Option Nat) (ab ao : Nat) (acs : List Value) (at_ : TypeId) (r : Rc) (hr : r.Ok) (t0 len0 rb ro : Nat) (k : Nat) (p : Pk) (h : p.ok ⟨k, none⟩ q) (hB : p.B.length + 5000 ≤ 4294967296) (hac : ∀ j v, nth (rhCells r.name t0 r.cls r.ttl len0 ++ [.iface (ifTy r.kind.toNat) (ptr rb ro)]) j = some v → nth acs (ao + j) = some v) :
    Ct (β := Pk × Nat) Tryz.prog 55 [ptr ab ao, p.sl, .map q, .int .i64 0] ((ab, .row acs at_) :: p.mem q) (fun w => BodyMem (view (keys ((ab, .row acs at_) :: p.mem q)) w) rb ro r) (fun y => PkV y.1)
      (fun y _ => y.1.ok ⟨k, none⟩ q ∧ (∃ E, y.1.B = p.B ++ E ∧ E.length ≤ 3300) ∧ RecAt (kn y.1.B ⟨k, none⟩) r p.B.length y.1.B.length)
      (fun y => (ab, .row (setN (setN acs (ao + 256) (.int .u16 (typeOf r : Int))) (ao + 259) (.int .u16 (y.2 : Int))) at_) :: y.1.mem q) := by
  intro w hS hbm
  have hs2 := hr.name.len
  have h255 : r.name.length ≤ 255 := by omega
  have hnl := nameCells_length h255
  have hrl : (rhCells r.name t0 r.cls r.ttl len0).length = 260 := by simp [rhCells, hnl]
  have hif : nth acs (ao + 260) = some (.iface (ifTy r.kind.toNat) (ptr rb ro)) := hac 260 _ (by rw [nth_eq, List.getElem?_append_right (by omega), hrl]; rfl)
  have hal : ao + 260 < acs.length := by rw [nth_eq] at hif; exact (List.getElem?_eq_some_iff.1 hif).1
  have hac1 : ∀ j v, nth (rhCells r.name (typeOf r) r.cls r.ttl len0) j = some v → nth (setN acs (ao + 256) (.int .u16 (typeOf r : Int))) (ao + j) = some v := fun j v hj => by
    rw [nth_setN (by omega)]
    split
    · rename_i e
      have : j = 256 := by omega
      subst this
      rw [show (256 : Nat) = 256 + 0 from rfl, rh_at h255 0] at hj
      simpa [nth] using hj
    · rename_i e
      refine hac j v ?_
      rw [nth_eq, List.getElem?_append_left (by rw [nth_eq] at hj; have := (List.getElem?_eq_some_iff.1 hj).1; simp [rhCells, hnl] at this; omega), ← nth_eq]
      rw [nth_eq] at hj ⊢
      unfold rhCells at hj ⊢
      rcases Nat.lt_or_ge j 256 with hl | hl
      · rw [List.getElem?_append_left (by omega)] at hj ⊢; exact hj
      · rw [List.getElem?_append_right (by omega), hnl] at hj ⊢
        obtain ⟨i, rfl⟩ : ∃ i, j = 257 + i := ⟨j - 257, by omega⟩
        rw [show 257 + i - 256 = i + 1 by omega] at hj ⊢
        simpa using hj
  have hif1 : nth (setN acs (ao + 256) (.int .u16 (typeOf r : Int))) (ao + 260) = some (.iface (ifTy r.kind.toNat) (ptr rb ro)) := by rw [nth_setN (by omega), if_neg (by omega)]; exact hif
  refine calls_of_T (m := 82) Tryz.func55 rfl rfl (by simp) hS ?_
  repeat (first | refine za rfl rfl ?_ | refine zb rfl ?_ | refine zc rfl ?_)
  refine TL.ld 0 szk rfl rfl rfl hif rfl rfl ?_
  repeat (first | refine za rfl rfl ?_ | refine zb rfl ?_ | refine zc rfl ?_)
  refine T.condF rfl rfl ?_
  repeat (first | refine za rfl rfl ?_ | refine zb rfl ?_ | refine zc rfl ?_)
  refine TL.ld 0 szk rfl rfl rfl hif rfl rfl ?_
  refine TL.op rfl (OkOp.invoke rfl (fun w => meth_real _ _ _ w) (callReal _) rfl rfl (use0 (realType rb ro r hr) (fun w' hA => hbm.mono (st_viewLe hA (Mc := []) fun _ hp => by cases hp)))) (fun _ => TL.and fun _ => ?_)
  repeat (first | refine za rfl rfl ?_ | refine zb rfl ?_ | refine zc rfl ?_)
  refine TL.st 0 szk rfl rfl rfl rfl rfl (by simp; omega) ?_
  repeat (first | refine za rfl rfl ?_ | refine zb rfl ?_ | refine zc rfl ?_)
  refine TL.callS [_] Tryz.call106 rfl rfl rfl rfl (rhPack q ab ao r.name (typeOf r) r.cls r.ttl len0 hr.name hr.nlab k p h (by omega)) (fun w' hA => hA.view (i := 0) rfl (List.nodup_cons.1 hA.nodup).1 hac1) (fun y1 => TL.and fun ⟨ok1, ⟨E1, hE1, hL1⟩, o1, n1, b1, l1⟩ => ?_)
  have l1' : y1.B.length = p.B.length + E1.length := by rw [hE1]; simp
  have ho1 : p.B.length ≤ o1 := Nat.le_of_lt n1.lt
  repeat (first | refine za rfl rfl ?_ | refine zb rfl ?_ | refine zc rfl ?_)
  refine T.condF rfl rfl ?_
  repeat (first | refine za rfl rfl ?_ | refine zb rfl ?_ | refine zc rfl ?_)
  refine TL.ld 0 szk rfl rfl rfl hif1 rfl rfl ?_
  repeat (first | refine za rfl rfl ?_ | refine zb rfl ?_ | refine zc rfl ?_)
  refine TL.op rfl (OkOp.invoke rfl (fun w => meth_pack _ _ _ w) (callPack _) rfl rfl (useS (Ml := [_]) rfl (bodyPack q rb ro r hr y1 _ ok1 (by omega)) (fun w' hA => hbm.mono (st_viewLe hA (Mc := y1.mem q) fun _ hp => List.mem_cons_of_mem _ hp)))) (fun y2 => TL.and fun ⟨ok2, ⟨E2, hE2, hL2⟩, b2⟩ => ?_)
  have l2 : y2.B.length = y1.B.length + E2.length := by rw [hE2]; simp
  repeat (first | refine za rfl rfl ?_ | refine zb rfl ?_ | refine zc rfl ?_)
  refine T.condF rfl rfl ?_
  repeat (first | refine za rfl rfl ?_ | refine zb rfl ?_ | refine zc rfl ?_)
  have hfix := fixLen q ab ao (setN acs (ao + 256) (.int .u16 (typeOf r : Int))) at_ (by rw [setN_length]; omega) k y2 (y1.B.length - 2) ok2 (by omega) (by omega)
  rw [show y1.B.length - 2 + 2 = y1.B.length by omega] at hfix
  refine TL.callS [] Tryz.call107 rfl rfl rfl rfl hfix (fun _ _ => trivial) (fun y3 => TL.and fun ⟨ok3, e3, s3⟩ => ?_)
  repeat (first | refine za rfl rfl ?_ | refine zb rfl ?_ | refine zc rfl ?_)
  refine T.condF rfl rfl ?_
  repeat (first | refine za rfl rfl ?_ | refine zb rfl ?_ | refine zc rfl ?_)
  have hlen3 : y3.B.length = y2.B.length := by rw [e3, putLen_length (by omega)]
  have hle3 : KM.le (kn y2.B ⟨k, some (y1.B.length - 2)⟩) (kn y3.B ⟨k, none⟩) := by rw [e3]; exact putLen_le (by omega)
  have hle1 : KM.le (kn y1.B ⟨k, some (y1.B.length - 2)⟩) (kn y3.B ⟨k, none⟩) := by
    refine KM.le.trans ?_ hle3
    rw [hE2]; exact kn_append _ _ _
  obtain ⟨E3, hE3, hL3⟩ := putLen_pre (B := p.B) (E := E1 ++ E2) (o := y1.B.length - 2) (m := y2.B.length - y1.B.length) (by omega) (by simp; omega)
  rw [← List.append_assoc, ← hE1, ← hE2, ← e3] at hE3
  refine T.ret Tryz.func55 rfl (fun w hA => ⟨(y3, y2.B.length - y1.B.length), ?_, ⟨ok3, ⟨E3, hE3, (by rw [hL3, List.length_append]; omega : E3.length ≤ 3300)⟩, o1, y2.B.length - y1.B.length, n1.mono hle1, ?_, (by omega : y2.B.length - y1.B.length < 65536), ?_, (by omega : y3.B.length = o1 + 10 + (y2.B.length - y1.B.length))⟩, hA⟩)
  · simp only [pack, PkV, ← s3]
  · have hx := b1.mono hle1
    have e : w2 (typeOf r) ++ (w2 r.cls ++ (w4 r.ttl ++ w2 (y2.B.length - y1.B.length))) = (w2 (typeOf r) ++ (w2 r.cls ++ w4 r.ttl)) ++ w2 (y2.B.length - y1.B.length) := by simp
    rw [e]
    refine BytesAt.append.2 ⟨hx, ?_⟩
    have hkp := h.hole.base
    simp only at hkp
    have hy := putLen_at (B := y2.B) (k := k) (o := y1.B.length - 2) (m := y2.B.length - y1.B.length) (by omega) (by omega)
    rw [← e3] at hy
    rw [show o1 + (w2 (typeOf r) ++ (w2 r.cls ++ w4 r.ttl)).length = y1.B.length - 2 by simp [w2, w4]; omega]
    exact hy
  · rw [hlen3, ← l1]; exact b2.mono hle3
end X
namespace X
section
variable {P : Program} {f : FuncId} {n : Nat} {R : Ending → World → Prop} {k : List Item} {L : Fr} {A : World → Prop} {i : Item}
/-- Two ways join: what comes behind them is walked once. -/
theorem T.merge (Lx : Fr) (hk : T P f n R k Lx A) (h : T P f n R k Lx A → T P f n R (i :: k) L A) : T P f n R (i :: k) L A := h hk
end
theorem wrap_or (a b : Nat) (ha : a < 65536) (hb : b < 65536) : IntKind.u16.wrap ((BitVec.ofInt IntKind.u16.bits (a : Int) ||| BitVec.ofInt IntKind.u16.bits (b : Int)).toNat : Int) = ((a ||| b : Nat) : Int) := by
  have e : (BitVec.ofInt IntKind.u16.bits (a : Int) ||| BitVec.ofInt IntKind.u16.bits (b : Int)).toNat = a ||| b := by
    rw [BitVec.toNat_or]
    simp [IntKind.bits]
    rw [Nat.mod_eq_of_lt ha, Nat.mod_eq_of_lt hb]
  have hlt : a ||| b < 65536 := Nat.or_lt_two_pow (n := 16) ha hb
  rw [e, u16_in ((a ||| b : Nat) : Int) (by omega) (by omega)]
theorem or_add (n a b : Nat) (h : b < 2 ^ n) : (2 ^ n * a) ||| b = 2 ^ n * a + b := (Nat.two_pow_add_eq_or_of_lt h a).symm
theorem or_pow (x n : Nat) (h : x / 2 ^ n % 2 = 0) : x ||| 2 ^ n = x + 2 ^ n := by
  have hx : x = 2 ^ (n + 1) * (x / 2 ^ (n + 1)) + x % 2 ^ n := by
    have h1 := Nat.div_add_mod x (2 ^ (n + 1))
    have h2 : x % 2 ^ (n + 1) = x % 2 ^ n := by
      rw [Nat.pow_succ, Nat.mod_mul, h]; simp
    omega
  have hb : x % 2 ^ n < 2 ^ n := Nat.mod_lt _ (Nat.two_pow_pos n)
  have hp : 2 ^ (n + 1) = 2 ^ n + 2 ^ n := by rw [Nat.pow_succ]; omega
  have e1 := or_add (n + 1) (x / 2 ^ (n + 1)) (x % 2 ^ n) (by omega)
  have e2 := or_add (n + 1) (x / 2 ^ (n + 1)) (2 ^ n + x % 2 ^ n) (by omega)
  have e3 := or_add n 1 (x % 2 ^ n) hb
  rw [Nat.mul_one] at e3
  calc x ||| 2 ^ n = (2 ^ (n + 1) * (x / 2 ^ (n + 1)) ||| x % 2 ^ n) ||| 2 ^ n := by rw [e1]; rw [← hx]
    _ = 2 ^ (n + 1) * (x / 2 ^ (n + 1)) ||| (2 ^ n ||| x % 2 ^ n) := by rw [Nat.or_assoc, Nat.or_comm (x % 2 ^ n)]
    _ = x + 2 ^ n := by rw [e3, e2]; omega
theorem or_u16 (x n : Nat) (hx : x < 65536) (hn : n < 16) (h : x / 2 ^ n % 2 = 0) : IntKind.u16.wrap ((BitVec.ofInt IntKind.u16.bits (x : Int) ||| BitVec.ofInt IntKind.u16.bits ((2 ^ n : Nat) : Int)).toNat : Int) = ((x + 2 ^ n : Nat) : Int) := by
  rw [wrap_or x (2 ^ n) hx (Nat.pow_lt_pow_of_lt (a := 2) (by omega) hn), or_pow x n h]
theorem bit_no (x n : Nat) : x + bit false n = x := rfl
theorem bit_yes (n : Nat) : bit true n = n := rfl
theorem hdPack (b o : Nat) (h : Hd) (hop : h.op < 16) (hcode : h.code < 16) :
    Ct (β := Unit) Tryz.prog 52 [ptr b o] [] (fun w => RowAt (view [] w) b o (hdCells h)) (fun _ => .tuple #[.int .u16 (h.id : Int), .int .u16 (bitsOf h : Int)]) (fun _ _ => True) (fun _ => []) := by
  intro w hS hr
  have lb : ∀ (c : Bool) (n : Nat), bit c n = 0 ∨ bit c n = n := fun c n => by cases c; exact .inl rfl; exact .inr rfl
  refine calls_of_T (m := 60) Tryz.func52 rfl rfl (by simp) hS ?_
  repeat (first | refine za rfl rfl ?_ | refine zb rfl ?_ | refine zc rfl ?_)
  refine TL.ldR (hr.one (i := 0) rfl rfl) szk rfl rfl rfl rfl ?_
  repeat (first | refine za rfl rfl ?_ | refine zb rfl ?_ | refine zc rfl ?_)
  refine T.regionS [(0, true), (1, true), (2, true), (3, true), (4, true), (5, true), (6, true), (7, true), (8, true), (9, true), (10, true)] (St _ w _) mixed (by kernel_rfl) (by kernel_rfl) (by decide) (fun w m h => h.drawn m) (fun w h => h) ?_
  repeat refine TS.p tbk rfl rfl ?_
  refine TS.y rfl rfl rfl rfl (Y.load szk rfl rfl (fun w h => (hr.one (i := 2) rfl rfl).cell h.ext (i := 0) rfl)) ?_
  repeat refine TS.p tbk rfl rfl ?_
  refine TS.y rfl rfl rfl rfl (Y.load szk rfl rfl (fun w h => (hr.one (i := 9) rfl rfl).cell h.ext (i := 0) rfl)) ?_
  repeat refine TS.p tbk rfl rfl ?_
  refine TS.nil ?_
  have e0 : IntKind.u16.wrap (((BitVec.ofInt IntKind.u16.bits (IntKind.u16.wrap ((h.op : Int) * 2 ^ min 11 IntKind.u16.bits)) ||| BitVec.ofInt IntKind.u16.bits (h.code : Int)).toNat : Nat) : Int) = ((h.op * 2048 + h.code : Nat) : Int) := by
    have e1 : IntKind.u16.wrap ((h.op : Int) * 2 ^ min 11 IntKind.u16.bits) = ((h.op * 2048 : Nat) : Int) := by
      rw [show ((h.op : Int) * 2 ^ min 11 IntKind.u16.bits) = ((h.op * 2048 : Nat) : Int) by simp [IntKind.bits], u16_in _ (by omega) (by omega)]
    rw [e1, wrap_or _ _ (by omega) (by omega)]
    have := or_add 11 h.op h.code (by omega)
    rw [show 2 ^ 11 * h.op = h.op * 2048 by omega] at this
    rw [this]
  rw [e0]
  have l0 := lb h.avail 128
  repeat (first | refine za rfl rfl ?_ | refine zb rfl ?_ | refine zc rfl ?_)
  refine TL.ldR (hr.one (i := 6) rfl rfl) szk rfl rfl rfl rfl ?_
  refine TL.nil ?_
  refine T.merge [(0, ptr b o), (2, .int .u16 (h.id : Int)), (3, .int .u16 (((h.op * 2048 + h.code + bit h.avail 128) : Nat) : Int))] ?_ (fun H => ?_)
  case refine_2 =>
    cases hc : h.avail
    · refine T.condF rfl rfl ?_
      refine T.skip ?_
      refine T.sub ?_ H
      rw [hc, bit_no]; exact ⟨rfl, rfl, rfl, trivial⟩
    · refine T.condT rfl rfl ?_
      refine T.region ?_
      repeat refine TL.p tbk rfl ?_
      refine TL.nil ?_
      refine T.sub ?_ H
      have := or_u16 (h.op * 2048 + h.code) 7 (by omega) (by omega) (by simp only [Nat.reducePow]; omega)
      rw [hc, bit_yes]
      refine ⟨rfl, rfl, ?_, trivial⟩
      simp only [look]
      exact congrArg (fun z => some (Value.int .u16 z)) this
  have l1 := lb h.desired 256
  repeat (first | refine za rfl rfl ?_ | refine zb rfl ?_ | refine zc rfl ?_)
  refine TL.ldR (hr.one (i := 5) rfl rfl) szk rfl rfl rfl rfl ?_
  refine TL.nil ?_
  refine T.merge [(0, ptr b o), (2, .int .u16 (h.id : Int)), (3, .int .u16 (((h.op * 2048 + h.code + bit h.avail 128 + bit h.desired 256) : Nat) : Int))] ?_ (fun H => ?_)
  case refine_2 =>
    cases hc : h.desired
    · refine T.condF rfl rfl ?_
      refine T.skip ?_
      refine T.sub ?_ H
      rw [hc, bit_no]; exact ⟨rfl, rfl, rfl, trivial⟩
    · refine T.condT rfl rfl ?_
      refine T.region ?_
      repeat refine TL.p tbk rfl ?_
      refine TL.nil ?_
      refine T.sub ?_ H
      have := or_u16 (h.op * 2048 + h.code + bit h.avail 128) 8 (by omega) (by omega) (by simp only [Nat.reducePow]; omega)
      rw [hc, bit_yes]
      refine ⟨rfl, rfl, ?_, trivial⟩
      simp only [look]
      exact congrArg (fun z => some (Value.int .u16 z)) this
  have l2 := lb h.cut 512
  repeat (first | refine za rfl rfl ?_ | refine zb rfl ?_ | refine zc rfl ?_)
  refine TL.ldR (hr.one (i := 4) rfl rfl) szk rfl rfl rfl rfl ?_
  refine TL.nil ?_
  refine T.merge [(0, ptr b o), (2, .int .u16 (h.id : Int)), (3, .int .u16 (((h.op * 2048 + h.code + bit h.avail 128 + bit h.desired 256 + bit h.cut 512) : Nat) : Int))] ?_ (fun H => ?_)
  case refine_2 =>
    cases hc : h.cut
    · refine T.condF rfl rfl ?_
      refine T.skip ?_
      refine T.sub ?_ H
      rw [hc, bit_no]; exact ⟨rfl, rfl, rfl, trivial⟩
    · refine T.condT rfl rfl ?_
      refine T.region ?_
      repeat refine TL.p tbk rfl ?_
      refine TL.nil ?_
      refine T.sub ?_ H
      have := or_u16 (h.op * 2048 + h.code + bit h.avail 128 + bit h.desired 256) 9 (by omega) (by omega) (by simp only [Nat.reducePow]; omega)
      rw [hc, bit_yes]
      refine ⟨rfl, rfl, ?_, trivial⟩
      simp only [look]
      exact congrArg (fun z => some (Value.int .u16 z)) this
  have l3 := lb h.auth 1024
  repeat (first | refine za rfl rfl ?_ | refine zb rfl ?_ | refine zc rfl ?_)
  refine TL.ldR (hr.one (i := 3) rfl rfl) szk rfl rfl rfl rfl ?_
  refine TL.nil ?_
  refine T.merge [(0, ptr b o), (2, .int .u16 (h.id : Int)), (3, .int .u16 (((h.op * 2048 + h.code + bit h.avail 128 + bit h.desired 256 + bit h.cut 512 + bit h.auth 1024) : Nat) : Int))] ?_ (fun H => ?_)
  case refine_2 =>
    cases hc : h.auth
    · refine T.condF rfl rfl ?_
      refine T.skip ?_
      refine T.sub ?_ H
      rw [hc, bit_no]; exact ⟨rfl, rfl, rfl, trivial⟩
    · refine T.condT rfl rfl ?_
      refine T.region ?_
      repeat refine TL.p tbk rfl ?_
      refine TL.nil ?_
      refine T.sub ?_ H
      have := or_u16 (h.op * 2048 + h.code + bit h.avail 128 + bit h.desired 256 + bit h.cut 512) 10 (by omega) (by omega) (by simp only [Nat.reducePow]; omega)
      rw [hc, bit_yes]
      refine ⟨rfl, rfl, ?_, trivial⟩
      simp only [look]
      exact congrArg (fun z => some (Value.int .u16 z)) this
  have l4 := lb h.resp 32768
  repeat (first | refine za rfl rfl ?_ | refine zb rfl ?_ | refine zc rfl ?_)
  refine TL.ldR (hr.one (i := 1) rfl rfl) szk rfl rfl rfl rfl ?_
  refine TL.nil ?_
  refine T.merge [(0, ptr b o), (2, .int .u16 (h.id : Int)), (3, .int .u16 (((h.op * 2048 + h.code + bit h.avail 128 + bit h.desired 256 + bit h.cut 512 + bit h.auth 1024 + bit h.resp 32768) : Nat) : Int))] ?_ (fun H => ?_)
  case refine_2 =>
    cases hc : h.resp
    · refine T.condF rfl rfl ?_
      refine T.skip ?_
      refine T.sub ?_ H
      rw [hc, bit_no]; exact ⟨rfl, rfl, rfl, trivial⟩
    · refine T.condT rfl rfl ?_
      refine T.region ?_
      repeat refine TL.p tbk rfl ?_
      refine TL.nil ?_
      refine T.sub ?_ H
      have := or_u16 (h.op * 2048 + h.code + bit h.avail 128 + bit h.desired 256 + bit h.cut 512 + bit h.auth 1024) 15 (by omega) (by omega) (by simp only [Nat.reducePow]; omega)
      rw [hc, bit_yes]
      refine ⟨rfl, rfl, ?_, trivial⟩
      simp only [look]
      exact congrArg (fun z => some (Value.int .u16 z)) this
  have l5 := lb h.authentic 32
  repeat (first | refine za rfl rfl ?_ | refine zb rfl ?_ | refine zc rfl ?_)
  refine TL.ldR (hr.one (i := 7) rfl rfl) szk rfl rfl rfl rfl ?_
  refine TL.nil ?_
  refine T.merge [(0, ptr b o), (2, .int .u16 (h.id : Int)), (3, .int .u16 (((h.op * 2048 + h.code + bit h.avail 128 + bit h.desired 256 + bit h.cut 512 + bit h.auth 1024 + bit h.resp 32768 + bit h.authentic 32) : Nat) : Int))] ?_ (fun H => ?_)
  case refine_2 =>
    cases hc : h.authentic
    · refine T.condF rfl rfl ?_
      refine T.skip ?_
      refine T.sub ?_ H
      rw [hc, bit_no]; exact ⟨rfl, rfl, rfl, trivial⟩
    · refine T.condT rfl rfl ?_
      refine T.region ?_
      repeat refine TL.p tbk rfl ?_
      refine TL.nil ?_
      refine T.sub ?_ H
      have := or_u16 (h.op * 2048 + h.code + bit h.avail 128 + bit h.desired 256 + bit h.cut 512 + bit h.auth 1024 + bit h.resp 32768) 5 (by omega) (by omega) (by simp only [Nat.reducePow]; omega)
      rw [hc, bit_yes]
      refine ⟨rfl, rfl, ?_, trivial⟩
      simp only [look]
      exact congrArg (fun z => some (Value.int .u16 z)) this
  have l6 := lb h.unchecked 16
  repeat (first | refine za rfl rfl ?_ | refine zb rfl ?_ | refine zc rfl ?_)
  refine TL.ldR (hr.one (i := 8) rfl rfl) szk rfl rfl rfl rfl ?_
  refine TL.nil ?_
  refine T.merge [(0, ptr b o), (2, .int .u16 (h.id : Int)), (3, .int .u16 (((h.op * 2048 + h.code + bit h.avail 128 + bit h.desired 256 + bit h.cut 512 + bit h.auth 1024 + bit h.resp 32768 + bit h.authentic 32 + bit h.unchecked 16) : Nat) : Int))] ?_ (fun H => ?_)
  case refine_2 =>
    cases hc : h.unchecked
    · refine T.condF rfl rfl ?_
      refine T.skip ?_
      refine T.sub ?_ H
      rw [hc, bit_no]; exact ⟨rfl, rfl, rfl, trivial⟩
    · refine T.condT rfl rfl ?_
      refine T.region ?_
      repeat refine TL.p tbk rfl ?_
      refine TL.nil ?_
      refine T.sub ?_ H
      have := or_u16 (h.op * 2048 + h.code + bit h.avail 128 + bit h.desired 256 + bit h.cut 512 + bit h.auth 1024 + bit h.resp 32768 + bit h.authentic 32) 4 (by omega) (by omega) (by simp only [Nat.reducePow]; omega)
      rw [hc, bit_yes]
      refine ⟨rfl, rfl, ?_, trivial⟩
      simp only [look]
      exact congrArg (fun z => some (Value.int .u16 z)) this
  repeat (first | refine za rfl rfl ?_ | refine zb rfl ?_ | refine zc rfl ?_)
  exact T.ret Tryz.func52 rfl (fun w hA => ⟨(), rfl, trivial, hA⟩)
end X
namespace X
abbrev H0 : Hole := ⟨0, none⟩
theorem hPack (hb : Nat) (id bits a b c d : Nat) (p : Pk) (h : p.ok H0 none) (hB : p.B.length ≤ 1000000) :
    Ct (β := Pk) Tryz.prog 53 [ptr hb 0, p.sl] (p.mem none) (fun w => RowAt (view (keys (p.mem none)) w) hb 0 [.int .u16 (id : Int), .int .u16 (bits : Int), .int .u16 (a : Int), .int .u16 (b : Int), .int .u16 (c : Int), .int .u16 (d : Int)]) (fun y => y.sl)
      (fun y _ => y.ok H0 none ∧ y.B = p.B ++ (w2 id ++ (w2 bits ++ (w2 a ++ (w2 b ++ (w2 c ++ w2 d)))))) (fun y => y.mem none) := by
  intro w hS hr
  refine calls_of_T (m := 41) Tryz.func53 rfl rfl (by simp) hS ?_
  repeat (first | refine za rfl rfl ?_ | refine zb rfl ?_ | refine zc rfl ?_)
  refine TL.ldR (hr.one (i := 0) rfl rfl) szk rfl rfl rfl rfl ?_
  refine TL.callS [] Tryz.call102 rfl rfl rfl rfl (pk16 102 packUint16_ok none p H0 h (by omega) id) (fun _ _ => trivial) (fun y0 => TL.and fun ⟨ok0, e0⟩ => ?_)
  have l0 : y0.B.length = p.B.length + 2 := by rw [e0]; simp [w2]
  repeat (first | refine za rfl rfl ?_ | refine zb rfl ?_ | refine zc rfl ?_)
  refine TL.ldR (hr.one (i := 1) rfl rfl) szk rfl rfl rfl rfl ?_
  refine TL.callS [] Tryz.call102 rfl rfl rfl rfl (pk16 102 packUint16_ok none y0 H0 ok0 (by omega) bits) (fun _ _ => trivial) (fun y1 => TL.and fun ⟨ok1, e1⟩ => ?_)
  have l1 : y1.B.length = y0.B.length + 2 := by rw [e1]; simp [w2]
  repeat (first | refine za rfl rfl ?_ | refine zb rfl ?_ | refine zc rfl ?_)
  refine TL.ldR (hr.one (i := 2) rfl rfl) szk rfl rfl rfl rfl ?_
  refine TL.callS [] Tryz.call102 rfl rfl rfl rfl (pk16 102 packUint16_ok none y1 H0 ok1 (by omega) a) (fun _ _ => trivial) (fun y2 => TL.and fun ⟨ok2, e2⟩ => ?_)
  have l2 : y2.B.length = y1.B.length + 2 := by rw [e2]; simp [w2]
  repeat (first | refine za rfl rfl ?_ | refine zb rfl ?_ | refine zc rfl ?_)
  refine TL.ldR (hr.one (i := 3) rfl rfl) szk rfl rfl rfl rfl ?_
  refine TL.callS [] Tryz.call102 rfl rfl rfl rfl (pk16 102 packUint16_ok none y2 H0 ok2 (by omega) b) (fun _ _ => trivial) (fun y3 => TL.and fun ⟨ok3, e3⟩ => ?_)
  have l3 : y3.B.length = y2.B.length + 2 := by rw [e3]; simp [w2]
  repeat (first | refine za rfl rfl ?_ | refine zb rfl ?_ | refine zc rfl ?_)
  refine TL.ldR (hr.one (i := 4) rfl rfl) szk rfl rfl rfl rfl ?_
  refine TL.callS [] Tryz.call102 rfl rfl rfl rfl (pk16 102 packUint16_ok none y3 H0 ok3 (by omega) c) (fun _ _ => trivial) (fun y4 => TL.and fun ⟨ok4, e4⟩ => ?_)
  have l4 : y4.B.length = y3.B.length + 2 := by rw [e4]; simp [w2]
  repeat (first | refine za rfl rfl ?_ | refine zb rfl ?_ | refine zc rfl ?_)
  refine TL.ldR (hr.one (i := 5) rfl rfl) szk rfl rfl rfl rfl ?_
  refine TL.callS [] Tryz.call102 rfl rfl rfl rfl (pk16 102 packUint16_ok none y4 H0 ok4 (by omega) d) (fun _ _ => trivial) (fun y5 => TL.and fun ⟨ok5, e5⟩ => ?_)
  have l5 : y5.B.length = y4.B.length + 2 := by rw [e5]; simp [w2]
  repeat (first | refine za rfl rfl ?_ | refine zb rfl ?_ | refine zc rfl ?_)
  exact T.ret Tryz.func53 rfl (fun w hA => ⟨y5, rfl, ⟨ok5, by rw [e5, e4, e3, e2, e1, e0]; simp⟩, hA⟩)
/-- An array of records to be packed: those from a place on are as they were. -/
def RsFrom (h : View) (i0 : Nat) (acs : List Value) (rs : List Rc) : Prop := ∀ i r, i0 ≤ i → nth rs i = some r → ∃ rb ro, (∀ j v, nth (rhCells r.name r.typ r.cls r.ttl r.len ++ [.iface (ifTy r.kind.toNat) (ptr rb ro)]) j = some v → nth acs (i * 261 + j) = some v) ∧ BodyMem h rb ro r
theorem RsFrom.mono {h h' : View} (hh : View.le h h') {i0 : Nat} {acs : List Value} {rs : List Rc} (k : RsFrom h i0 acs rs) : RsFrom h' i0 acs rs := fun i r hi hr => let ⟨a, b, c, d⟩ := k i r hi hr; ⟨a, b, c, d.mono hh⟩
theorem RsFrom.next {h : View} {i0 : Nat} {acs : List Value} {rs : List Rc} (k : RsFrom h i0 acs rs) (u v : Value) : RsFrom h (i0 + 1) (setN (setN acs (i0 * 261 + 256) u) (i0 * 261 + 259) v) rs := fun i r hi hr => by
  obtain ⟨a, b, c, d⟩ := k i r (by omega) hr
  refine ⟨a, b, fun j x hx => ?_, d⟩
  have := c j x hx
  rw [nth_eq] at this ⊢
  rw [setN_eq, setN_eq, List.getElem?_set_ne (by omega), List.getElem?_set_ne (by omega)]; exact this
theorem RecsAt.take {K : KM} {rs : List Rc} {i : Nat} {r : Rc} {o m fin : Nat} (hi : nth rs i = some r) (k : RecsAt K (rs.take i) o m) (h : RecAt K r m fin) : RecsAt K (rs.take (i + 1)) o fin := by rw [take_nth hi]; exact k.snoc h
theorem AsksAt.take {K : KM} {rs : List Ak} {i : Nat} {r : Ak} {o m fin : Nat} (hi : nth rs i = some r) (k : AsksAt K (rs.take i) o m) (h : AskAt K r m fin) : AsksAt K (rs.take (i + 1)) o fin := by rw [take_nth hi]; exact k.snoc h
def SlQ (h : View) (v : Value) (l : List Ak) : Prop := Sl h 258 (fun a cs => cs = qCells a.name a.typ a.cls) v l
theorem SlQ.mono {h h' : View} (hh : View.le h h') {v : Value} {l : List Ak} (k : SlQ h v l) : SlQ h' v l := Sl.mono hh (fun _ _ e => e) k
theorem appendPack (mb : Nat) (m : Ms) (hm : m.Ok) (qv : Value) (a1 a2 a3 c1 c2 c3 : Nat) (r1 r2 r3 : List Value) (p : Pk) (hp : p.ok H0 none) (hp0 : p.B = []) :
    Ct (β := Pk) Tryz.prog 25 [ptr mb 0, p.sl] ([(a3, .row r3 122), (a2, .row r2 122), (a1, .row r1 122)] ++ p.mem none)
      (fun w => let h := view (keys ([(a3, .row r3 122), (a2, .row r2 122), (a1, .row r1 122)] ++ p.mem none)) w
        RowAt h mb 0 (hdCells m.head ++ [qv, .slice (some ⟨a1, 0, none⟩) m.one.length c1, .slice (some ⟨a2, 0, none⟩) m.two.length c2, .slice (some ⟨a3, 0, none⟩) m.three.length c3]) ∧ SlQ h qv m.asks ∧ RsFrom h 0 r1 m.one ∧ RsFrom h 0 r2 m.two ∧ RsFrom h 0 r3 m.three)
      PkV (fun y _ => y.ok H0 none ∧ y.B.length ≤ 200000 ∧ MsgAt (kn y.B H0) m) (fun y => y.mem none) := by
  intro w hS ⟨hr, hq, hs1, hs2, hs3⟩
  have hfew := hm.few
  obtain ⟨qa, qc, hqs, hqc⟩ := hq.shape
  subst hqs
  refine calls_of_T (m := 201) Tryz.func25 rfl rfl (by simp) hS ?_
  repeat (first | refine za rfl rfl ?_ | refine zb rfl ?_ | refine zc rfl ?_)
  refine TL.ldR (hr.one (i := 10) rfl rfl) szk rfl rfl rfl rfl ?_
  repeat (first | refine za rfl rfl ?_ | refine zb rfl ?_ | refine zc rfl ?_)
  refine T.condF rfl (by simp; omega) ?_
  repeat (first | refine za rfl rfl ?_ | refine zb rfl ?_ | refine zc rfl ?_)
  refine TL.ldR (hr.one (i := 11) rfl rfl) szk rfl rfl rfl rfl ?_
  repeat (first | refine za rfl rfl ?_ | refine zb rfl ?_ | refine zc rfl ?_)
  refine T.condF rfl (by simp; omega) ?_
  repeat (first | refine za rfl rfl ?_ | refine zb rfl ?_ | refine zc rfl ?_)
  refine TL.ldR (hr.one (i := 12) rfl rfl) szk rfl rfl rfl rfl ?_
  repeat (first | refine za rfl rfl ?_ | refine zb rfl ?_ | refine zc rfl ?_)
  refine T.condF rfl (by simp; omega) ?_
  repeat (first | refine za rfl rfl ?_ | refine zb rfl ?_ | refine zc rfl ?_)
  refine TL.ldR (hr.one (i := 13) rfl rfl) szk rfl rfl rfl rfl ?_
  repeat (first | refine za rfl rfl ?_ | refine zb rfl ?_ | refine zc rfl ?_)
  refine T.condF rfl (by simp; omega) ?_
  repeat (first | refine za rfl rfl ?_ | refine zb rfl ?_ | refine zc rfl ?_)
  refine TL.alloc Tryz.zeroValue88 rfl rfl rfl (fun hb => ?_)
  repeat (first | refine za rfl rfl ?_ | refine zb rfl ?_ | refine zc rfl ?_)
  refine TL.call0 Tryz.call52 rfl rfl rfl (hdPack mb 0 m.head hm.hop hm.hcode) (fun w' hA => (hr.part (i := 0) (us := hdCells m.head) (fun j v hj => by
    rw [nth_eq] at *; rw [Nat.zero_add, List.getElem?_append_left (List.getElem?_eq_some_iff.1 hj).1]; exact hj) rfl).mono (st_viewLe hA (Mc := []) fun _ hp => by cases hp)) (fun _ => TL.and fun _ => ?_)
  repeat (first | refine za rfl rfl ?_ | refine zb rfl ?_ | refine zc rfl ?_)
  refine TL.st 0 szk rfl rfl rfl rfl rfl rfl ?_
  repeat (first | refine za rfl rfl ?_ | refine zb rfl ?_ | refine zc rfl ?_)
  refine TL.st 0 szk rfl rfl rfl rfl rfl rfl ?_
  repeat (first | refine za rfl rfl ?_ | refine zb rfl ?_ | refine zc rfl ?_)
  refine TL.ldR (hr.one (i := 10) rfl rfl) szk rfl rfl rfl rfl ?_
  repeat (first | refine za rfl rfl ?_ | refine zb rfl ?_ | refine zc rfl ?_)
  rw [u16_in ((m.asks.length : Nat) : Int) (by omega) (by omega)]
  refine TL.st 0 szk rfl rfl rfl rfl rfl rfl ?_
  repeat (first | refine za rfl rfl ?_ | refine zb rfl ?_ | refine zc rfl ?_)
  refine TL.ldR (hr.one (i := 11) rfl rfl) szk rfl rfl rfl rfl ?_
  repeat (first | refine za rfl rfl ?_ | refine zb rfl ?_ | refine zc rfl ?_)
  rw [u16_in ((m.one.length : Nat) : Int) (by omega) (by omega)]
  refine TL.st 0 szk rfl rfl rfl rfl rfl rfl ?_
  repeat (first | refine za rfl rfl ?_ | refine zb rfl ?_ | refine zc rfl ?_)
  refine TL.ldR (hr.one (i := 12) rfl rfl) szk rfl rfl rfl rfl ?_
  repeat (first | refine za rfl rfl ?_ | refine zb rfl ?_ | refine zc rfl ?_)
  rw [u16_in ((m.two.length : Nat) : Int) (by omega) (by omega)]
  refine TL.st 0 szk rfl rfl rfl rfl rfl rfl ?_
  repeat (first | refine za rfl rfl ?_ | refine zb rfl ?_ | refine zc rfl ?_)
  refine TL.ldR (hr.one (i := 13) rfl rfl) szk rfl rfl rfl rfl ?_
  repeat (first | refine za rfl rfl ?_ | refine zb rfl ?_ | refine zc rfl ?_)
  rw [u16_in ((m.three.length : Nat) : Int) (by omega) (by omega)]
  refine TL.st 0 szk rfl rfl rfl rfl rfl rfl ?_
  repeat (first | refine za rfl rfl ?_ | refine zb rfl ?_ | refine zc rfl ?_)
  have hp0l : p.B.length = 0 := by rw [hp0]; rfl
  refine TL.callS [_, _, _, _] Tryz.call53 rfl rfl rfl rfl (hPack hb m.head.id (bitsOf m.head) m.asks.length m.one.length m.two.length m.three.length p hp (by omega)) (fun w' hA => hA.view (i := 0) rfl (fun hx => (List.nodup_cons.1 hA.nodup).1 (by simp [keys, Pk.mem, cmem] at hx ⊢; exact .inr (.inr (.inr hx)))) (fun j v hj => by rw [Nat.zero_add j]; exact hj)) (fun y0 => TL.and fun ⟨ok0, e0⟩ => ?_)
  repeat (first | refine za rfl rfl ?_ | refine zb rfl ?_ | refine zc rfl ?_)
  refine TL.makeMap rfl rfl (fun q => ?_)
  refine TL.mono (B := St _ w ([(a3, .row r3 122), (a2, .row r2 122), (a1, .row r1 122)] ++ ({ y0 with es := [], ck := 0, ms := [] } : Pk).mem (some q))) (fun w' hA => (hA.sub (M' := [(q, .map [] 0), (a3, .row r3 122), (a2, .row r2 122), (a1, .row r1 122), (y0.b, .row y0.cs 5)]) ?_).perm ?_) ?_
  · exact List.Sublist.cons_cons _ (List.Sublist.cons _ (List.Sublist.refl _))
  · exact List.perm_append_singleton (q, Ob.map [] 0) [(a3, .row r3 122), (a2, .row r2 122), (a1, .row r1 122), (y0.b, .row y0.cs 5)]
  have hB0 : y0.B = headB m.head m.asks.length m.one.length m.two.length m.three.length := by rw [e0, hp0]; rfl
  have hL0 : y0.B.length = 12 := by rw [hB0]; simp [headB, w2]
  have okA : ({ y0 with es := [], ck := 0, ms := [] } : Pk).ok H0 (some q) := ⟨ok0.own, rfl, by simp, fun _ => rfl, ok0.hole⟩
  have hdA : BytesAt (kn y0.B H0) 0 (headB m.head m.asks.length m.one.length m.two.length m.three.length) := by
    rw [hB0]; have := kn_new [] (headB m.head m.asks.length m.one.length m.two.length m.three.length) (hole := H0) ⟨Nat.zero_le _, fun o ho => by cases ho⟩
    simpa using this
  repeat (first | refine za rfl rfl ?_ | refine zb rfl ?_ | refine zc rfl ?_)
  refine TL.ldR (hr.one (i := 10) rfl rfl) szk rfl rfl rfl rfl ?_
  repeat (first | refine za rfl rfl ?_ | refine zb rfl ?_ | refine zc rfl ?_)
  refine T.loop (α := Nat × Pk) (fun x => [(0, ptr mb 0), (7, .int .i64 0), (8, x.2.sl), (9, .map (some q)), (92, .int .i64 (m.asks.length : Int)), (93, .int .i64 (x.1 : Int))])
    (fun x w' => (x.1 ≤ m.asks.length ∧ x.2.ok H0 (some q) ∧ KM.le (kn y0.B H0) (kn x.2.B H0) ∧ x.2.B.length ≤ 12 + 300 * x.1 ∧ AsksAt (kn x.2.B H0) (m.asks.take x.1) 12 x.2.B.length) ∧ St (keys ([(a3, .row r3 122), (a2, .row r2 122), (a1, .row r1 122)] ++ p.mem none)) w ([(a3, .row r3 122), (a2, .row r2 122), (a1, .row r1 122)] ++ x.2.mem (some q)) w')
    (fun x => m.asks.length - x.1) (0, { y0 with es := [], ck := 0, ms := [] }) ⟨rfl, by simp only [look, hp0l]; rfl, rfl, rfl, rfl, rfl, trivial⟩
    (fun w' hA => ⟨⟨Nat.zero_le _, okA, KM.le.refl _, by show y0.B.length ≤ _; omega, by show AsksAt _ [] 12 y0.B.length; rw [hL0]; exact .nil⟩, hA⟩) ?_
  rintro ⟨i, x⟩ ih
  refine T.and fun ⟨hi, hok, hK, hL, hA0⟩ => ?_
  simp only at hi hok hK hL hA0
  repeat (first | refine za rfl rfl ?_ | refine zb rfl ?_ | refine zc rfl ?_)
  by_cases hlt : i < m.asks.length
  · refine T.condT rfl (by simpa using hlt) ?_
    obtain ⟨a, ha⟩ := nth_lt hlt
    obtain ⟨b, o, cap', cs, hv, _, _, hrs, hcs⟩ := hq.at ha
    injection hv with hv1 _ hv3
    subst hv1 hv3 hcs
    repeat (first | refine za rfl rfl ?_ | refine zb rfl ?_ | refine zc rfl ?_)
    refine TL.ldR (hr.one (i := 10) rfl rfl) szk rfl rfl rfl rfl ?_
    repeat (first | refine za rfl rfl ?_ | refine zb rfl ?_ | refine zc rfl ?_)
    refine TL.ix (j := i) tbk rfl rfl rfl rfl rfl rfl hlt ?_
    repeat (first | refine za rfl rfl ?_ | refine zb rfl ?_ | refine zc rfl ?_)
    refine TL.callS [_, _, _] Tryz.call54 rfl rfl rfl rfl (qPack (some q) b (o + i * 258) a (hm.asks a (nth_mem ha)) 0 x hok (by omega)) (fun w' hA => hrs.mono (st_viewLe hA (Mc := x.mem (some q)) fun _ hp => List.mem_append_right _ hp)) (fun y1 => TL.and fun ⟨ok1, ⟨E1, e1, hE1⟩, n1⟩ => ?_)
    repeat (first | refine za rfl rfl ?_ | refine zb rfl ?_ | refine zc rfl ?_)
    refine T.condF rfl rfl ?_
    repeat (first | refine za rfl rfl ?_ | refine zb rfl ?_ | refine zc rfl ?_)
    rw [add1_i64 (a := i) (by omega)]
    have hle : KM.le (kn x.B H0) (kn y1.B H0) := by rw [e1]; exact kn_append _ _ _
    exact T.again ih (i + 1, y1) (by simp; omega) ⟨rfl, rfl, rfl, rfl, rfl, rfl, trivial⟩ (fun w' hA => ⟨⟨by simp; omega, ok1, hK.trans hle, by simp only; rw [e1]; simp; omega, AsksAt.take ha (hA0.mono hle) n1⟩, hA⟩)
  refine T.condF rfl (by simpa using hlt) ?_
  have hiq : i = m.asks.length := by omega
  subst hiq
  rw [List.take_length] at hA0
  clear ih
  generalize hf0 : x.B.length = f0 at hA0
  have hK0 : KM.le (kn y0.B H0) (kn x.B H0) := hK
  have hL1 : x.B.length ≤ 12 + 300 * m.asks.length := hL
  have okB : x.ok H0 (some q) := hok
  repeat (first | refine za rfl rfl ?_ | refine zb rfl ?_ | refine zc rfl ?_)
  refine TL.ldR (hr.one (i := 11) rfl rfl) szk rfl rfl rfl rfl ?_
  repeat (first | refine za rfl rfl ?_ | refine zb rfl ?_ | refine zc rfl ?_)
  refine T.loop (α := Nat × Pk × List Value) (fun z => [(0, ptr mb 0), (7, .int .i64 0), (8, z.2.1.sl), (9, .map (some q)), (120, .int .i64 (m.one.length : Int)), (121, .int .i64 (z.1 : Int))])
    (fun z w' => (z.1 ≤ m.one.length ∧ z.2.1.ok H0 (some q) ∧ KM.le (kn x.B H0) (kn z.2.1.B H0) ∧ z.2.1.B.length ≤ x.B.length + 3300 * z.1 ∧ RecsAt (kn z.2.1.B H0) (m.one.take z.1) x.B.length z.2.1.B.length ∧ RsFrom (view (keys ([(a3, .row r3 122), (a2, .row r2 122), (a1, .row r1 122)] ++ p.mem none)) w) z.1 z.2.2 m.one) ∧ St (keys ([(a3, .row r3 122), (a2, .row r2 122), (a1, .row r1 122)] ++ p.mem none)) w (([(a3, .row r3 122), (a2, .row r2 122)] ++ [(a1, .row z.2.2 122)]) ++ z.2.1.mem (some q)) w')
    (fun z => m.one.length - z.1) (0, x, r1) ⟨rfl, rfl, rfl, rfl, rfl, rfl, trivial⟩
    (fun w' hA => ⟨⟨Nat.zero_le _, okB, KM.le.refl _, Nat.le_refl _, .nil, hs1⟩, hA⟩) ?_
  rintro ⟨i1, z1, ac1⟩ ih
  refine T.and fun ⟨hi, hok, hK, hL, hR, hF⟩ => ?_
  simp only at hi hok hK hL hR hF
  repeat (first | refine za rfl rfl ?_ | refine zb rfl ?_ | refine zc rfl ?_)
  by_cases hlt : i1 < m.one.length
  · refine T.condT rfl (by simpa using hlt) ?_
    obtain ⟨a, ha⟩ := nth_lt hlt
    obtain ⟨rb, ro, hcl, hbm⟩ := hF i1 a (Nat.le_refl _) ha
    repeat (first | refine za rfl rfl ?_ | refine zb rfl ?_ | refine zc rfl ?_)
    refine TL.ldR (hr.one (i := 11) rfl rfl) szk rfl rfl rfl rfl ?_
    repeat (first | refine za rfl rfl ?_ | refine zb rfl ?_ | refine zc rfl ?_)
    refine TL.ix (j := i1) tbk rfl rfl rfl rfl rfl rfl hlt ?_
    rw [Nat.zero_add]
    repeat (first | refine za rfl rfl ?_ | refine zb rfl ?_ | refine zc rfl ?_)
    refine TL.callS [_, _] Tryz.call55 rfl rfl rfl rfl (resPack (some q) a1 (i1 * 261) ac1 122 a (hm.one a (nth_mem ha)) a.typ a.len rb ro 0 z1 hok (by omega) hcl) (fun w' hA => hbm.mono (st_viewLe hA (Mc := (a1, .row ac1 122) :: z1.mem (some q)) fun _ hp => by rw [List.append_assoc]; exact List.mem_append_right _ hp)) (fun y1 => TL.and fun ⟨ok1, ⟨E1, e1, hE1⟩, n1⟩ => ?_)
    repeat (first | refine za rfl rfl ?_ | refine zb rfl ?_ | refine zc rfl ?_)
    refine T.condF rfl rfl ?_
    repeat (first | refine za rfl rfl ?_ | refine zb rfl ?_ | refine zc rfl ?_)
    rw [add1_i64 (a := i1) (by omega)]
    have hle : KM.le (kn z1.B H0) (kn y1.1.B H0) := by rw [e1]; exact kn_append _ _ _
    exact T.again ih (i1 + 1, y1.1, _) (by simp; omega) ⟨rfl, rfl, rfl, rfl, rfl, rfl, trivial⟩ (fun w' hA => ⟨⟨by simp; omega, ok1, hK.trans hle, by simp only; rw [e1]; simp; omega, RecsAt.take ha (hR.mono hle) n1, hF.next _ _⟩, hA⟩)
  refine T.condF rfl (by simpa using hlt) ?_
  have hiq1 : i1 = m.one.length := by omega
  subst hiq1
  rw [List.take_length] at hR
  have hR1 := hR
  have hK1 := hK
  have hLL1 := hL
  have okS1 := hok
  clear ih hR hK hL hok hF
  repeat (first | refine za rfl rfl ?_ | refine zb rfl ?_ | refine zc rfl ?_)
  refine TL.ldR (hr.one (i := 12) rfl rfl) szk rfl rfl rfl rfl ?_
  repeat (first | refine za rfl rfl ?_ | refine zb rfl ?_ | refine zc rfl ?_)
  refine T.loop (α := Nat × Pk × List Value) (fun z => [(0, ptr mb 0), (7, .int .i64 0), (8, z.2.1.sl), (9, .map (some q)), (148, .int .i64 (m.two.length : Int)), (149, .int .i64 (z.1 : Int))])
    (fun z w' => (z.1 ≤ m.two.length ∧ z.2.1.ok H0 (some q) ∧ KM.le (kn z1.B H0) (kn z.2.1.B H0) ∧ z.2.1.B.length ≤ z1.B.length + 3300 * z.1 ∧ RecsAt (kn z.2.1.B H0) (m.two.take z.1) z1.B.length z.2.1.B.length ∧ RsFrom (view (keys ([(a3, .row r3 122), (a2, .row r2 122), (a1, .row r1 122)] ++ p.mem none)) w) z.1 z.2.2 m.two) ∧ St (keys ([(a3, .row r3 122), (a2, .row r2 122), (a1, .row r1 122)] ++ p.mem none)) w (([(a3, .row r3 122)] ++ [(a2, .row z.2.2 122)]) ++ z.2.1.mem (some q)) w')
    (fun z => m.two.length - z.1) (0, z1, r2) ⟨rfl, rfl, rfl, rfl, rfl, rfl, trivial⟩
    (fun w' hA => ⟨⟨Nat.zero_le _, okS1, KM.le.refl _, Nat.le_refl _, .nil, hs2⟩, hA.sub (by simp)⟩) ?_
  rintro ⟨i2, z2, ac2⟩ ih
  refine T.and fun ⟨hi, hok, hK, hL, hR, hF⟩ => ?_
  simp only at hi hok hK hL hR hF
  repeat (first | refine za rfl rfl ?_ | refine zb rfl ?_ | refine zc rfl ?_)
  by_cases hlt : i2 < m.two.length
  · refine T.condT rfl (by simpa using hlt) ?_
    obtain ⟨a, ha⟩ := nth_lt hlt
    obtain ⟨rb, ro, hcl, hbm⟩ := hF i2 a (Nat.le_refl _) ha
    repeat (first | refine za rfl rfl ?_ | refine zb rfl ?_ | refine zc rfl ?_)
    refine TL.ldR (hr.one (i := 12) rfl rfl) szk rfl rfl rfl rfl ?_
    repeat (first | refine za rfl rfl ?_ | refine zb rfl ?_ | refine zc rfl ?_)
    refine TL.ix (j := i2) tbk rfl rfl rfl rfl rfl rfl hlt ?_
    rw [Nat.zero_add]
    repeat (first | refine za rfl rfl ?_ | refine zb rfl ?_ | refine zc rfl ?_)
    refine TL.callS [_] Tryz.call55 rfl rfl rfl rfl (resPack (some q) a2 (i2 * 261) ac2 122 a (hm.two a (nth_mem ha)) a.typ a.len rb ro 0 z2 hok (by omega) hcl) (fun w' hA => hbm.mono (st_viewLe hA (Mc := (a2, .row ac2 122) :: z2.mem (some q)) fun _ hp => by rw [List.append_assoc]; exact List.mem_append_right _ hp)) (fun y1 => TL.and fun ⟨ok1, ⟨E1, e1, hE1⟩, n1⟩ => ?_)
    repeat (first | refine za rfl rfl ?_ | refine zb rfl ?_ | refine zc rfl ?_)
    refine T.condF rfl rfl ?_
    repeat (first | refine za rfl rfl ?_ | refine zb rfl ?_ | refine zc rfl ?_)
    rw [add1_i64 (a := i2) (by omega)]
    have hle : KM.le (kn z2.B H0) (kn y1.1.B H0) := by rw [e1]; exact kn_append _ _ _
    exact T.again ih (i2 + 1, y1.1, _) (by simp; omega) ⟨rfl, rfl, rfl, rfl, rfl, rfl, trivial⟩ (fun w' hA => ⟨⟨by simp; omega, ok1, hK.trans hle, by simp only; rw [e1]; simp; omega, RecsAt.take ha (hR.mono hle) n1, hF.next _ _⟩, hA⟩)
  refine T.condF rfl (by simpa using hlt) ?_
  have hiq2 : i2 = m.two.length := by omega
  subst hiq2
  rw [List.take_length] at hR
  have hR2 := hR
  have hK2 := hK
  have hLL2 := hL
  have okS2 := hok
  clear ih hR hK hL hok hF
  repeat (first | refine za rfl rfl ?_ | refine zb rfl ?_ | refine zc rfl ?_)
  refine TL.ldR (hr.one (i := 13) rfl rfl) szk rfl rfl rfl rfl ?_
  repeat (first | refine za rfl rfl ?_ | refine zb rfl ?_ | refine zc rfl ?_)
  refine T.loop (α := Nat × Pk × List Value) (fun z => [(0, ptr mb 0), (7, .int .i64 0), (8, z.2.1.sl), (9, .map (some q)), (176, .int .i64 (m.three.length : Int)), (177, .int .i64 (z.1 : Int))])
    (fun z w' => (z.1 ≤ m.three.length ∧ z.2.1.ok H0 (some q) ∧ KM.le (kn z2.B H0) (kn z.2.1.B H0) ∧ z.2.1.B.length ≤ z2.B.length + 3300 * z.1 ∧ RecsAt (kn z.2.1.B H0) (m.three.take z.1) z2.B.length z.2.1.B.length ∧ RsFrom (view (keys ([(a3, .row r3 122), (a2, .row r2 122), (a1, .row r1 122)] ++ p.mem none)) w) z.1 z.2.2 m.three) ∧ St (keys ([(a3, .row r3 122), (a2, .row r2 122), (a1, .row r1 122)] ++ p.mem none)) w (([] ++ [(a3, .row z.2.2 122)]) ++ z.2.1.mem (some q)) w')
    (fun z => m.three.length - z.1) (0, z2, r3) ⟨rfl, rfl, rfl, rfl, rfl, rfl, trivial⟩
    (fun w' hA => ⟨⟨Nat.zero_le _, okS2, KM.le.refl _, Nat.le_refl _, .nil, hs3⟩, hA.sub (by simp)⟩) ?_
  rintro ⟨i3, z3, ac3⟩ ih
  refine T.and fun ⟨hi, hok, hK, hL, hR, hF⟩ => ?_
  simp only at hi hok hK hL hR hF
  repeat (first | refine za rfl rfl ?_ | refine zb rfl ?_ | refine zc rfl ?_)
  by_cases hlt : i3 < m.three.length
  · refine T.condT rfl (by simpa using hlt) ?_
    obtain ⟨a, ha⟩ := nth_lt hlt
    obtain ⟨rb, ro, hcl, hbm⟩ := hF i3 a (Nat.le_refl _) ha
    repeat (first | refine za rfl rfl ?_ | refine zb rfl ?_ | refine zc rfl ?_)
    refine TL.ldR (hr.one (i := 13) rfl rfl) szk rfl rfl rfl rfl ?_
    repeat (first | refine za rfl rfl ?_ | refine zb rfl ?_ | refine zc rfl ?_)
    refine TL.ix (j := i3) tbk rfl rfl rfl rfl rfl rfl hlt ?_
    rw [Nat.zero_add]
    repeat (first | refine za rfl rfl ?_ | refine zb rfl ?_ | refine zc rfl ?_)
    refine TL.callS [] Tryz.call55 rfl rfl rfl rfl (resPack (some q) a3 (i3 * 261) ac3 122 a (hm.three a (nth_mem ha)) a.typ a.len rb ro 0 z3 hok (by omega) hcl) (fun w' hA => hbm.mono (st_viewLe hA (Mc := (a3, .row ac3 122) :: z3.mem (some q)) fun _ hp => by rw [List.append_assoc]; exact List.mem_append_right _ hp)) (fun y1 => TL.and fun ⟨ok1, ⟨E1, e1, hE1⟩, n1⟩ => ?_)
    repeat (first | refine za rfl rfl ?_ | refine zb rfl ?_ | refine zc rfl ?_)
    refine T.condF rfl rfl ?_
    repeat (first | refine za rfl rfl ?_ | refine zb rfl ?_ | refine zc rfl ?_)
    rw [add1_i64 (a := i3) (by omega)]
    have hle : KM.le (kn z3.B H0) (kn y1.1.B H0) := by rw [e1]; exact kn_append _ _ _
    exact T.again ih (i3 + 1, y1.1, _) (by simp; omega) ⟨rfl, rfl, rfl, rfl, rfl, rfl, trivial⟩ (fun w' hA => ⟨⟨by simp; omega, ok1, hK.trans hle, by simp only; rw [e1]; simp; omega, RecsAt.take ha (hR.mono hle) n1, hF.next _ _⟩, hA⟩)
  refine T.condF rfl (by simpa using hlt) ?_
  have hiq3 : i3 = m.three.length := by omega
  subst hiq3
  rw [List.take_length] at hR
  have hR3 := hR
  have hK3 := hK
  have hLL3 := hL
  have okS3 := hok
  clear ih hR hK hL hok hF
  repeat (first | refine za rfl rfl ?_ | refine zb rfl ?_ | refine zc rfl ?_)
  refine T.ret Tryz.func25 rfl (fun w hA => ⟨{ z3 with es := [], ck := 0, ms := [] }, rfl, ⟨⟨okS3.own, rfl, by simp, fun _ => rfl, okS3.hole⟩, (by omega : z3.B.length ≤ 200000), ?_⟩, hA.sub ?_⟩)
  · subst hf0
    exact ⟨hdA.mono (hK0.trans (hK1.trans (hK2.trans hK3))), x.B.length, z1.B.length, z2.B.length, z3.B.length, hA0.mono (hK1.trans (hK2.trans hK3)), hR1.mono (hK2.trans hK3), hR2.mono hK3, hR3⟩
  · exact List.Sublist.cons _ (List.Sublist.cons_cons _ (List.Sublist.cons _ (List.Sublist.refl _)))
end X
end Go.Proofs.YtifnodoffgfpbaaGreatDoor
