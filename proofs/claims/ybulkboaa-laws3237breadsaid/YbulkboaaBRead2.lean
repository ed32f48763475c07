import Derived.Test.YbulkboaaBRead
namespace Go.Proofs.Ybulkboaa.BRead2
open Go.RowKit MapLaw CBase BPlain BBreach BMem BLink BFollow BReach BReach2 BMap BRead Go.MuLone
set_option linter.unusedVariables false
set_option maxRecDepth 100000

/-- the pointer to the entry, or nil -/
def ep (eb : Nat) (he : Bool) : Value := .pointer (if he then some ⟨eb, 0, none⟩ else none)
theorem neq62_nil (eb : Nat) (he : Bool) (W : World) : (binOp .neq 62 (ep eb he) (.pointer none)).run Yba.prog W = .ok (.bool he) W := by
  have h : ∀ d : Nat, (Op.equalIn (d + 1) 62 (ep eb he) (.pointer none)).run Yba.prog W = .ok (!he) W := fun d => by
    cases he <;> simp [ep, Op.equalIn, run_underlying Yba.underlying62]
  have h1 : (Op.equal 62 (ep eb he) (.pointer none)).run Yba.prog W = .ok (!he) W := h 9999
  cases he <;> simp only [binOp, ep] <;> simp [ep] at h1 <;> simp [h1]

theorem guard_op (na : Nat → Nat) (q : Option Nat) (o : BinOp) (t : TypeId) (x y : Operand) (v : Value) : eqGuard o t x y (op na q) v = pure () := by cases o <;> rfl
theorem guard_ep (eb : Nat) (he : Bool) (o : BinOp) (t : TypeId) (x y : Operand) (v : Value) : eqGuard o t x y (ep eb he) v = pure () := by cases o <;> rfl

/-- what is looked for -/
def aimF (we vn tn : Option Nat) : Nat → Bool := fun x => decide (we = some x) || (vn.isSome && decide (tn = some x))
/-- the read closes a cycle -/
def Bad (E : List (Nat × Nat)) (we vn tn : Option Nat) : Prop := (we.isSome = true ∨ vn.isSome = true) ∧ ((∃ v, vn = some v ∧ aimF we vn tn v = true) ∨ Hit E (fun x => aimF we vn tn x = true) (fun u => tn = some u ∨ vn = some u))
/-- the edges that the read adds -/
def addW (we : Option Nat) (x : Value) (L : Nat → List Value) : Nat → List Value := match we with | none => L | some w => up L w (L w ++ [x])
def addV (vn : Option Nat) (n : Nat) (na : Nat → Nat) (L : Nat → List Value) : Nat → List Value := match vn with | none => L | some v => up L n (L n ++ [np na v])
def inW (we : Option Nat) (n : Nat) (f : Nat → Nat) : Nat → Nat := match we with | none => f | some _ => up f n (f n + 1)
def inV (vn : Option Nat) (f : Nat → Nat) : Nat → Nat := match vn with | none => f | some v => up f v (f v + 1)

structure Pre (W : World) (F : Nat → Prop) (na : Nat → Nat) (N : Nat) (rows : Rid → Value) (vals : Rid → List Value) (inn st : Nat → Nat) (E : List (Nat × Nat)) (p tb ib mi mp eb : Nat) (s : ByteArray) (fl fl' : Nat) (he rd : Bool) (wn vn tn : Option Nat) (rdv : Value) (ra_ : Option Addr) (rc ci cp : Nat) : Prop where
  hrdv : rdv = .slice ra_ (if rd then 1 else 0) rc
  gr : Gr W F na N rows vals inn st (fun _ => false) (fun _ => false)
  o : RO F na N p tb ib mi mp eb he
  m : RM W p tb ib mi mp eb 0 0 (.slice none 0 0) s fl (op na tn) he (op na wn) rdv (if he then some (ep eb true) else none) (vn.map (np na)) ci cp
  hw : he = false → wn = none
  wl : ∀ i, wn = some i → i < N
  vl : ∀ i, vn = some i → i < N
  tl : ∀ i, tn = some i → i < N
  hst : ∀ i, st i ≤ 2
  hfl : bits BinOp.andNot IntKind.u8 (fl : Int) 2 = (fl' : Int)
  rs1 : rows rs = .slice none 0 0
  rs2 : vals rs = []
  ra1 : rows ra = .slice none 0 0
  ra2 : vals ra = []
  hE : ∀ i, i < N → vals (ro i) = (outs E i).map (np na)
  hEl : ∀ e ∈ E, e.2 < N
  hEn : E.length ≤ 5000
  hN : N ≤ 256
  hin : ∀ i, inn i ≤ 5000
  n1 : rows (ro N) = .slice none 0 0
  n2 : vals (ro N) = []
  n3 : inn N = 0
  n4 : st N = 0

/-- the graph as the read leaves it -/
structure GPost (F : Nat → Prop) (na : Nat → Nat) (N : Nat) (rows : Rid → Value) (vals : Rid → List Value) (inn st : Nat → Nat) (we vn tn : Option Nat) (linked : Bool) (tv : Value) (w' : World) : Prop where
  no : linked = false → tv = op na tn ∧ ∃ rows' vals' seen' aim', Gr w' F na N rows' vals' inn st seen' aim' ∧ (∀ i, rows' (rx i) = rows (rx i)) ∧ (∀ i, vals' (rx i) = vals (rx i)) ∧ ∀ i, vals' (ro i) = vals (ro i)
  yes : linked = true → ∃ F' na' N' n rows' vals' seen' aim', ((tn = some n ∧ na' = na ∧ N' = N) ∨ (tn = none ∧ n = N ∧ N' = N + 1 ∧ ∀ i, i < N → na' i = na i)) ∧ tv = np na' n ∧ (∀ b, Fx F na N b → Fx F' na' N' b) ∧
    Gr w' F' na' N' rows' vals' (inV vn (inW we n inn)) st seen' aim' ∧ (∀ i, rows' (rx i) = rows (rx i)) ∧ (∀ i, vals' (rx i) = vals (rx i)) ∧ ∀ i, vals' (ro i) = addV vn n na (addW we (np na' n) (fun i => vals (ro i))) i

/-- what read answers and leaves -/
structure RdPost (W : World) (F : Nat → Prop) (na : Nat → Nat) (N : Nat) (rows : Rid → Value) (vals : Rid → List Value) (inn st : Nat → Nat) (E : List (Nat × Nat)) (p tb ib mi mp eb : Nat) (s : ByteArray) (fl fl' : Nat) (he rd : Bool) (wn vn tn : Option Nat) (rdv : Value) (cp : Nat) (e : Ending) (w' : World) : Prop where
  ans : ∃ bad : Bool, e = .returned (.bool !bad) ∧ (bad = true ↔ Bad E (live st wn) vn tn) ∧ ∃ tv sr stk ci', GPost F na N rows vals inn st (live st wn) vn tn ((live st wn).isSome && !bad || vn.isSome && !bad) tv w' ∧
    RM w' p tb ib mi mp eb 0 sr stk s (if (live st wn).isSome then fl else fl') tv he (op na (live st wn)) rdv (if he && ((live st wn).isSome || rd) then some (ep eb true) else none) (vn.map (np na)) ci' cp
  still : Still (Gk F na N p tb ib mi eb he) W w'

theorem Gr.mapped {W : World} {F : Nat → Prop} {na : Nat → Nat} {N : Nat} {rows : Rid → Value} {vals : Rid → List Value} {inn st : Nat → Nat} {seen aim : Nat → Bool} (h : Gr W F na N rows vals inn st seen aim) {r : Nat} (hr : Fx F na N r) (o : Obj) : Gr (ChangeMaps.setBlock W r o) F na N rows vals inn st seen aim := by
  have hk : ∀ b, b ≠ r → (ChangeMaps.setBlock W r o).heap[b]? = W.heap[b]? := fun b hb => by
    unfold ChangeMaps.setBlock
    simp only
    rw [Array.getElem?_setIfInBounds_ne (fun e => hb e.symm)]
  exact ⟨h.sep.keep (by simp [ChangeMaps.setBlock]) fun b hb _ => hk b fun e => hb (e ▸ hr.1), h.nodes.same fun i hi => hk _ (hr.2 i hi), h.inF⟩
theorem live_some {st : Nat → Nat} {wn : Option Nat} {i : Nat} (h : live st wn = some i) : wn = some i := by
  unfold live at h
  split at h
  · cases h
  · split at h
    · cases h
    · exact h
theorem live_isNone (st : Nat → Nat) (i : Nat) : (live st (some i)).isNone = decide (st i = 2) := by
  unfold live
  by_cases e : st i = 2 <;> simp [e]
theorem op_some (na : Nat → Nat) (i : Nat) : op na (some i) = np na i := rfl
theorem op_none (na : Nat → Nat) : op na none = .pointer none := rfl

section
variable {W W' : World} {p tb ib mi mp eb : Nat} {lk sr : Int} {stk : Value} {s : ByteArray} {fl : Nat} {tv : Value} {he : Bool} {wv rdv : Value} {io vo : Option Value} {ci cp : Nat} {F F' : Nat → Prop} {na na' : Nat → Nat} {N N' : Nat}
theorem RM.stack (h : RM W p tb ib mi mp eb lk sr stk s fl tv he wv rdv io vo ci cp) (o : RO F na N p tb ib mi mp eb he) {v : Value} (hs : ∀ b, Fx F na N b ∧ b ≠ p → W'.heap[b]? = W.heap[b]?) (hb : Blk W' p ((pc lk mi mp sr stk).setIfInBounds 6 v) 61) : RM W' p tb ib mi mp eb lk sr v s fl tv he wv rdv io vo ci cp := by
  have := o.o1; have := o.o2; have := o.o3; have := o.o4
  exact ⟨hb, (hs _ ⟨o.ft, by omega⟩).trans h.bt, (hs _ ⟨o.fi, by omega⟩).trans h.bi, fun q => (hs _ ⟨o.fe q, by have := o.o5 q; omega⟩).trans (h.be q), (hs _ ⟨o.fmi, by omega⟩).trans h.hmi, (hs _ ⟨o.fmp, by omega⟩).trans h.hmp⟩
theorem RO.up (o : RO F na N p tb ib mi mp eb he) (h : ∀ b, Fx F na N b → Fx F' na' N' b) : RO F' na' N' p tb ib mi mp eb he :=
  ⟨o.o1, o.o2, o.o3, o.o4, o.o5, h _ o.fp, h _ o.ft, h _ o.fi, h _ o.fmi, h _ o.fmp, fun q => h _ (o.fe q)⟩
end

theorem GPost.other {F : Nat → Prop} {na : Nat → Nat} {N : Nat} {rows : Rid → Value} {vals : Rid → List Value} {inn st : Nat → Nat} {we vn tn : Option Nat} {linked : Bool} {tv : Value} {w' : World} (h : GPost F na N rows vals inn st we vn tn linked tv w') {a : Addr} (ha : Fx F na N a.block) (v : Value) : GPost F na N rows vals inn st we vn tn linked tv (w'.setCell a v) := by
  refine ⟨fun q => ?_, fun q => ?_⟩
  · obtain ⟨h1, rows', vals', seen', aim', h2, h3⟩ := h.no q
    exact ⟨h1, rows', vals', seen', aim', h2.other ha.1 ha.2 v, h3⟩
  · obtain ⟨F', na', N', n, rows', vals', seen', aim', h1, h2, h3, h4, h5⟩ := h.yes q
    exact ⟨F', na', N', n, rows', vals', seen', aim', h1, h2, h3, h4.other (h3 _ ha).1 (h3 _ ha).2 v, h5⟩

/-- the end of read: the lock is given back -/
theorem RdPost.fin {W : World} {F : Nat → Prop} {na : Nat → Nat} {N : Nat} {rows : Rid → Value} {vals : Rid → List Value} {inn st : Nat → Nat} {E : List (Nat × Nat)} {p tb ib mi mp eb : Nat} {s : ByteArray} {fl fl' : Nat} {he rd : Bool} {wn vn tn : Option Nat} {rdv : Value} {cp : Nat} {bad : Bool} {w' : World} {tv : Value} {sr : Int} {stk : Value} {ci' : Nat}
    (o : RO F na N p tb ib mi mp eb he) (hb : bad = true ↔ Bad E (live st wn) vn tn) (hg : GPost F na N rows vals inn st (live st wn) vn tn ((live st wn).isSome && !bad || vn.isSome && !bad) tv w')
    (hm : RM w' p tb ib mi mp eb 1 sr stk s (if (live st wn).isSome then fl else fl') tv he (op na (live st wn)) rdv (if he && ((live st wn).isSome || rd) then some (ep eb true) else none) (vn.map (np na)) ci' cp) (hs : Still (Gk F na N p tb ib mi eb he) W w') :
    RdPost W F na N rows vals inn st E p tb ib mi mp eb s fl fl' he rd wn vn tn rdv cp (.returned (.bool !bad)) (w'.setCell ⟨p, 0, none⟩ (.int .i32 0)) :=
  ⟨⟨bad, rfl, hb, tv, sr, stk, ci', hg.other o.fp _, hm.lock o 0⟩, hs.set (fun q => q.2 (.inl rfl)) _⟩

theorem aim_none (we tn : Option Nat) : aimF we none tn = fun x => decide (we = some x) := by funext x; simp [aimF]
theorem aim_some0 (we : Option Nat) (v : Nat) : aimF we (some v) none = fun x => decide (we = some x) := by funext x; simp [aimF]
theorem aim_some1 (we : Option Nat) (v n : Nat) : aimF we (some v) (some n) = up (fun x => decide (we = some x)) n true := by
  funext x
  by_cases e : x = n
  · subst e; simp [aimF]
  · rw [up_other _ _ e]; simp [aimF, Ne.symm e]
theorem aim_one (i : Nat) : (fun x => decide (some i = some x)) = up (fun _ => false) i true := by
  funext x
  by_cases e : x = i
  · subst e; simp
  · rw [up_other _ _ e]; simp [Ne.symm e]

section
variable {W W' : World} {F : Nat → Prop} {na : Nat → Nat} {N : Nat} {rows : Rid → Value} {vals : Rid → List Value} {inn st : Nat → Nat} {seen aim : Nat → Bool}
/-- a literal of one pointer -/
theorem Gr.lit (h : Gr W F na N rows vals inn st seen aim) (x : Value) : Gr (W.alloc (.cells #[x] 40)) F na N (upr rows ra (.slice (some ⟨W.heap.size, 0, none⟩) 1 1)) (upr vals ra [x]) inn st seen aim := by
  obtain ⟨q1, q2⟩ := h.sep.turn (W' := W.alloc (.cells #[x] 40)) ra (World.ownsRow_lit (base := 0) (e := 40) (size := 1) W #[x] 1 (Nat.zero_le _) (by unfold maxLen; omega) rfl) (by simp) (fun b hb _ => Below.heap_alloc _ _ _ hb) (fun g hg => by simp [Value.ownBlock] at hg; exact .inr (by omega))
  exact h.turn (by simp) q1 q2
/-- a new node -/
theorem Gr.add (h : Gr W F na N rows vals inn st seen aim) (n1 : rows (ro N) = .slice none 0 0) (n3 : inn N = 0) (n4 : st N = 0) :
    Gr (W.alloc (.cells (ncell (.slice none 0 0) 0 0 false false) 43)) (fun b => F b ∨ b = W.heap.size) (up na N W.heap.size) (N + 1) rows vals inn st (up seen N false) (up aim N false) ∧ ∀ b, Fx F na N b → Fx (fun b => F b ∨ b = W.heap.size) (up na N W.heap.size) (N + 1) b := by
  refine ⟨⟨h.sep.more _, ⟨fun i hi => ?_, fun i j hi hj e => ?_⟩, fun i hi => ?_⟩, fun b hb => ⟨.inl hb.1, fun i hi => ?_⟩⟩
  · by_cases e : i = N
    · subst e
      simp only [up_same, n1, n3, n4]
      exact Blk.new _ _ _
    · simp only [up_other _ _ e]
      exact (h.nodes.blk i (by omega)).alloc _
  · by_cases e1 : i = N
    · by_cases e2 : j = N
      · exact e1.trans e2.symm
      · subst e1
        rw [up_same, up_other _ _ e2] at e
        have := (h.nodes.blk j (by omega)).lt
        omega
    · by_cases e2 : j = N
      · subst e2
        rw [up_same, up_other _ _ e1] at e
        have := (h.nodes.blk i (by omega)).lt
        omega
      · rw [up_other _ _ e1, up_other _ _ e2] at e
        exact h.nodes.inj i j (by omega) (by omega) e
  · by_cases e : i = N
    · subst e; rw [up_same]; exact .inr rfl
    · rw [up_other _ _ e]; exact .inl (h.inF i (by omega))
  · by_cases e : i = N
    · subst e
      rw [up_same]
      have := h.sep.old b hb.1
      omega
    · rw [up_other _ _ e]; exact hb.2 i (by omega)
end
theorem addW_len (we : Option Nat) (x : Value) (L : Nat → List Value) (n : Nat) (h : (L n).length ≤ 5000) : (addW we x L n).length ≤ 5001 := by
  cases we with
  | none => simp only [addW]; omega
  | some w =>
    simp only [addW]
    by_cases e : n = w
    · subst e; simp; omega
    · rw [up_other _ _ e]; omega
theorem inW_le (we : Option Nat) (n : Nat) (f : Nat → Nat) (v : Nat) (h : f n ≤ 5000) (h2 : f v ≤ 5000) : inW we n f v ≤ 5001 := by
  cases we with
  | none => simp only [inW]; omega
  | some w =>
    simp only [inW]
    by_cases e : v = n
    · subst e; simp; omega
    · rw [up_other _ _ e]; omega
theorem gk_fx {F : Nat → Prop} {na : Nat → Nat} {N p tb ib mi eb : Nat} {he : Bool} : ∀ b, Gk F na N p tb ib mi eb he b → Fx F na N b := fun b h => h.1

set_option maxHeartbeats 8000000 in
theorem read_any {W : World} {F : Nat → Prop} {na : Nat → Nat} {N : Nat} {rows : Rid → Value} {vals : Rid → List Value} {inn st : Nat → Nat} {E : List (Nat × Nat)} {p tb ib mi mp eb : Nat} {s : ByteArray} {fl fl' : Nat} {he rd : Bool} {wn vn tn : Option Nat} {rdv : Value} {ra_ : Option Addr} {rc ci cp : Nat}
    (h : Pre W F na N rows vals inn st E p tb ib mi mp eb s fl fl' he rd wn vn tn rdv ra_ rc ci cp) :
    Calls Yba.prog 11 #[.pointer (some ⟨p, 0, none⟩), .pointer (some ⟨tb, 0, none⟩), .pointer (some ⟨ib, 0, none⟩)] W fun e w' => RdPost W F na N rows vals inn st E p tb ib mi mp eb s fl fl' he rd wn vn tn rdv cp e w' := by
  have H : Hid _ := h
  have c0 := h.m.bp.cell 0 (.int .i32 0) rfl
  have f0 := h.m.bp.frozen 0
  have hm1 := h.m.lock h.o 1
  have HM1 : Hid _ := hm1
  have HG1 : Hid _ := h.gr.other (a := ⟨p, 0, none⟩) h.o.fp.1 h.o.fp.2 (.int .i32 1)
  have HS1 : Hid (Still (Gk F na N p tb ib mi eb he) W (W.setCell ⟨p, 0, none⟩ (.int .i32 1))) := (Still.refl _ _).set (fun q => q.2 (.inl rfl)) _
  clear h hm1
  go_enter_defers Yba.func11, Yba.ntmps11
  go_upto_region 3 with (go_at_call 21; refine (lock_free Yba.muLib ⟨p, 0, none⟩ _ c0 f0).mono ?_; rintro e w' ⟨rfl, rfl⟩)
  clear c0 f0
  generalize W.setCell ⟨p, 0, none⟩ (.int .i32 1) = W1 at *
  have c2 := HM1.out.bp.cell 2 (.map (some mi)) rfl
  have c3 := HM1.out.bp.cell 3 (.map (some mp)) rfl
  have i0 := HM1.out.bi.cell 0 (.string s) rfl
  have hl1 : ∀ n, (Instr.lookup 48 (.map (some mi)) (.string s) false).run Yba.prog (W1.drewN n) = .ok (ep eb he) (W1.drewN n) := fun n => by
    have := lookS (W := W1.drewN n) Yba.underlying48 zero62 HM1.out.hmi
    rw [this]
    cases he <;> rfl
  have hl2 : ∀ n, (Instr.lookup 49 (.map (some mp)) (.string s) false).run Yba.prog (W1.drewN n) = .ok (op na vn) (W1.drewN n) := fun n => by
    have := lookS (W := W1.drewN n) Yba.underlying49 zero40 HM1.out.hmp
    rw [this]
    cases vn <;> rfl
  have hne62 := neq62_nil eb he
  have hne := neq_nil na
  have heq := eql_nil na
  have hg1 := guard_op na
  have hg2 := guard_ep eb he
  go_quiet (fail)
  revert nq; intro k1
  go_upto_if 29 with fail
  go_cut [8] from 12 (fun v8 wc => v8 = op na wn ∧ wc = W1.drewN k1)
  case first =>
    cases he with
    | false =>
      have hw := H.out.hw rfl
      go_wp2
      go_meet
      case rel => exact ⟨by rw [hw]; rfl, rfl⟩
    | true =>
      have e0 := (HM1.out.be rfl).cell 0 (op na wn) rfl
      simp only [ep, if_true]
      go_wp2
      go_meet
      case rel => exact ⟨rfl, rfl⟩
  case rest =>
    obtain ⟨rfl, rfl⟩ := hcut
    go_upto_region 7 with fail
    go_quiet (fail)
    revert nq; intro k2
    go_upto_region 8 with fail
    have hst2 : Still (Fx F na N) W1 ((W1.drewN k1).drewN k2) := ((Still.refl _ _).drewN k1).drewN k2
    have HM2 : Hid _ := RM.same HM1.out H.out.o hst2.block
    have HG2 : Hid _ := Gr.drewN (Gr.drewN HG1.out k1) k2
    have HS2 : Hid _ := (HS1.out.drewN k1).drewN k2
    clear hst2 HM1 HG1 HS1 hl1 hl2 c2 c3 i0
    generalize (W1.drewN k1).drewN k2 = W2 at *
    go_cut [48] from 12 (fun b wc => b = .bool (live st wn).isNone ∧ wc = W2)
    case first =>
      cases wn with
      | none =>
        simp only [op_none]
        go_wp2
        go_meet
        case rel => exact ⟨rfl, rfl⟩
      | some i =>
        have hi := H.out.wl i rfl
        have hgo := gone_any HG2.out hi (H.out.hst i)
        have HGo : Hid _ := hgo
        have hli := live_isNone st i
        have HLi : Hid _ := hli
        clear hgo hli
        simp only [op_some, np] at *
        go_wp2_with (go_at_call 23; refine Calls.mono HGo.out ?_; rintro e w' ⟨rfl, rfl⟩)
        go_meet
        case rel => exact ⟨by rw [HLi.out], rfl⟩
    case rest =>
      obtain ⟨rfl, rfl⟩ := hcut
      go_upto_if 48 with fail
      go_cut [8] from 12 (fun v8 wc => v8 = op na (live st wn) ∧ ((live st wn).isSome = true ∨ vn.isSome = true) ∧ RM wc p tb ib mi mp eb 1 0 (.slice none 0 0) s (if (live st wn).isSome then fl else fl') (op na tn) he (op na (live st wn)) rdv (if he && ((live st wn).isSome || rd) then some (ep eb true) else none) (vn.map (np na)) ci cp ∧ Gr wc F na N rows vals inn st (fun _ => false) (fun _ => false) ∧ Still (Gk F na N p tb ib mi eb he) W wc)
      case first =>
        cases hl : live st wn with
        | some i =>
          have hwn := live_some hl
          subst hwn
          go_wp2
          go_meet
          case rel =>
            refine ⟨by rw [hl], .inl (by rw [hl]; rfl), ?_, HG2.out, HS2.out⟩
            rw [hl]
            have := HM2.out
            cases he <;> simpa using this
        | none =>
          have i9 := HM2.out.bi.cell 9 (.int .u8 (fl : Int)) rfl
          have j9 := HM2.out.bi.frozen 9
          have hfl := H.out.hfl
          have HM3 : Hid _ := HM2.out.flags H.out.o fl'
          have HG3 : Hid _ := HG2.out.other (a := ⟨ib, 9, none⟩) H.out.o.fi.1 H.out.o.fi.2 (.int .u8 (fl' : Int))
          have HS3 : Hid _ := HS2.out.set (a := ⟨ib, 9, none⟩) (fun q => q.2 (.inr (.inr (.inl rfl)))) (.int .u8 (fl' : Int))
          clear HM2 HG2 HS2
          cases he with
          | false =>
            have hwn := H.out.hw rfl
            subst hwn
            simp only [Bool.false_eq_true, if_false] at HM3
            cases vn with
            | none =>
              have HM4 : Hid _ := HM3.out
              go_wp2
              refine leaves_cons (f := 22) (args := #[.pointer (some ⟨p, 0, none⟩)]) (by simp) (by simp [go_sem]) ?_
              refine (unlock_deferred Yba.muLib ⟨p, 0, none⟩ .returning _ (HM4.out.bp.cell 0 (.int .i32 1) rfl) (HM4.out.bp.frozen 0)).mono ?_
              rintro e u' w'' ⟨rfl, rfl, rfl⟩
              exact ⟨_, results_tmp rfl _ _ _, RdPost.fin (bad := false) H.out.o (⟨fun q => by simp at q, fun q => by have := q.1; simp [hl] at this⟩) (⟨fun _ => ⟨rfl, rows, vals, _, _, HG3.out, fun _ => rfl, fun _ => rfl, fun _ => rfl⟩, fun q => by simp [hl] at q⟩) (by rw [hl]; simpa using HM4.out) HS3.out⟩
            | some v =>
              go_wp2
              go_meet
              case rel => exact ⟨by rw [hl]; rfl, .inr rfl, by rw [hl]; simpa using HM3.out, HG3.out, HS3.out⟩
          | true =>
            have e0 := (HM3.out.be rfl).cell 0 (op na wn) rfl
            have e1 := (HM3.out.be rfl).frozen 0
            have HM4 : Hid _ := HM3.out.writer H.out.o rfl (.pointer none)
            have HG4 : Hid _ := HG3.out.other (a := ⟨eb, 0, none⟩) (H.out.o.fe rfl).1 (H.out.o.fe rfl).2 (.pointer none)
            have HS4 : Hid _ := HS3.out.set (a := ⟨eb, 0, none⟩) (fun q => q.2 (.inr (.inr (.inr (.inr ⟨rfl, rfl⟩))))) (.pointer none)
            clear HM3 HG3 HS3
            have i0 := HM4.out.bi.cell 0 (.string s) rfl
            simp only [if_true] at HM4
            have hfo := forget_any _ p mi eb s rd ra_ rc (ep eb true) ci (HM4.out.bp.cell 2 (.map (some mi)) rfl) ((HM4.out.be rfl).cell 0 (.pointer none) rfl) (((HM4.out.be rfl).cell 1 rdv rfl).trans (by rw [H.out.hrdv])) HM4.out.hmi
            obtain ⟨W5, hW5⟩ : ∃ W5, W5 = (if rd then ((wc.setCell ⟨ib, 9, none⟩ (.int .u8 (fl' : Int))).setCell ⟨eb, 0, none⟩ (.pointer none)) else ChangeMaps.setBlock ((wc.setCell ⟨ib, 9, none⟩ (.int .u8 (fl' : Int))).setCell ⟨eb, 0, none⟩ (.pointer none)) mi (.map (me s none) ci)) := ⟨_, rfl⟩
            have HM5 : Hid (RM W5 p tb ib mi mp eb 1 0 (.slice none 0 0) s fl' (op na tn) true (op na none) rdv (if rd then some (ep eb true) else none) (vn.map (np na)) ci cp) := by
              rw [hW5]
              cases rd with
              | true => exact HM4.out
              | false => exact HM4.out.forget H.out.o
            have HG5 : Hid (Gr W5 F na N rows vals inn st (fun _ => false) (fun _ => false)) := by
              rw [hW5]
              cases rd with
              | true => exact HG4.out
              | false => exact Gr.mapped HG4.out H.out.o.fmi _
            have HS5 : Hid (Still (Gk F na N p tb ib mi eb true) W W5) := by
              rw [hW5]
              cases rd with
              | true => exact HS4.out
              | false => exact HS4.out.map (fun q => q.2 (.inr (.inr (.inr (.inl rfl))))) _
            rw [← hW5] at hfo
            have HFo : Hid _ := hfo
            clear hfo hW5 HG4 HS4 HM4
            simp only [ep, if_true] at HFo ⊢
            cases vn with
            | none =>
              have HM6 : Hid _ := HM5.out
              go_wp2_with (go_at_call 24; refine Calls.mono HFo.out ?_; rintro e w' ⟨rfl, rfl⟩)
              refine leaves_cons (f := 22) (args := #[.pointer (some ⟨p, 0, none⟩)]) (by simp) (by simp [go_sem]) ?_
              refine (unlock_deferred Yba.muLib ⟨p, 0, none⟩ .returning _ (HM6.out.bp.cell 0 (.int .i32 1) rfl) (HM6.out.bp.frozen 0)).mono ?_
              rintro e u' w'' ⟨rfl, rfl, rfl⟩
              exact ⟨_, results_tmp rfl _ _ _, RdPost.fin (bad := false) H.out.o (⟨fun q => by simp at q, fun q => by have := q.1; simp [hl] at this⟩) (⟨fun _ => ⟨rfl, rows, vals, _, _, HG5.out, fun _ => rfl, fun _ => rfl, fun _ => rfl⟩, fun q => by simp [hl] at q⟩) (by rw [hl]; simpa using HM6.out) HS5.out⟩
            | some v =>
              go_wp2_with (go_at_call 24; refine Calls.mono HFo.out ?_; rintro e w' ⟨rfl, rfl⟩)
              go_meet
              case rel => exact ⟨by rw [hl]; rfl, .inr rfl, by rw [hl]; simpa using HM5.out, HG5.out, HS5.out⟩
      case rest =>
        obtain ⟨rfl, hor, hM3, hG3, hS3⟩ := hcut
        have HOr : Hid ((live st wn).isSome = true ∨ vn.isSome = true) := hor
        have HWl : Hid (∀ i, live st wn = some i → i < N) := fun i hi => H.out.wl i (live_some hi)
        have c5 := hM3.bp.cell 5 (.int .u64 0) rfl
        have f5 := hM3.bp.frozen 5
        have HM4 : Hid _ := hM3.search H.out.o 1
        have HG4 : Hid _ := hG3.other (a := ⟨p, 5, none⟩) H.out.o.fp.1 H.out.o.fp.2 (.int .u64 1)
        have HS4 : Hid _ := hS3.set (a := ⟨p, 5, none⟩) (fun q => q.2 (.inl rfl)) (.int .u64 1)
        clear hM3 hG3 hS3 hor HM2 HG2 HS2 hne62 hg2
        go_upto_if 78 with fail
        clear c5 f5
        generalize wc.setCell ⟨p, 5, none⟩ (.int .u64 1) = W4 at *
        have c5 := HM4.out.bp.cell 5 (.int .u64 1) rfl
        go_cut [8] from 12 (fun v8 wd => v8 = op na (live st wn) ∧ Gr wd F na N rows vals inn st (fun _ => false) (fun x => decide (live st wn = some x)) ∧ RM wd p tb ib mi mp eb 1 1 (.slice none 0 0) s (if (live st wn).isSome then fl else fl') (op na tn) he (op na (live st wn)) rdv (if he && ((live st wn).isSome || rd) then some (ep eb true) else none) (vn.map (np na)) ci cp ∧ Still (Gk F na N p tb ib mi eb he) W wd)
        case first =>
          cases hl : live st wn with
          | none =>
            go_wp2
            go_meet
            case rel => exact ⟨by rw [hl], by rw [hl]; simpa using HG4.out, HM4.out, HS4.out⟩
          | some i =>
            have hi := HWl.out i hl
            have k4 := HG4.out.nodes.c4 hi
            have l4 := HG4.out.nodes.fz hi 4
            simp only [op_some, np] at *
            go_wp2
            go_meet
            case rel =>
              refine ⟨by rw [hl]; rfl, by rw [hl, aim_one]; exact HG4.out.setAim hi, RM.same HM4.out H.out.o fun b hb => Below.heap_setCell _ _ _ _ fun e => hb.2 i hi e.symm, HS4.out.set (fun q => q.1.2 i hi rfl) _⟩
        case rest =>
          obtain ⟨rfl, hG5, hM5, hS5⟩ := hcut
          have HG5 : Hid _ := hG5
          have HM5 : Hid _ := hM5
          have HS5 : Hid _ := hS5
          clear hG5 hM5 hS5 HG4 HM4 HS4 c5
          have c5 := HM5.out.bp.cell 5 (.int .u64 1) rfl
          have t12 := HM5.out.bt.cell 12 (op na tn) rfl
          go_upto_if 87 with fail
          go_cut [10] from 12 (fun v10 wd => Gr wd F na N (upr rows ra v10) (upr vals ra (vn.toList.map (np na))) inn st (fun _ => false) (aimF (live st wn) vn tn) ∧ RM wd p tb ib mi mp eb 1 1 (.slice none 0 0) s (if (live st wn).isSome then fl else fl') (op na tn) he (op na (live st wn)) rdv (if he && ((live st wn).isSome || rd) then some (ep eb true) else none) (vn.map (np na)) ci cp ∧ Still (Gk F na N p tb ib mi eb he) W wd)
          case first =>
            cases vn with
            | none =>
              go_wp2
              go_meet
              case rel =>
                refine ⟨?_, HM5.out, HS5.out⟩
                have e1 := upr_id rows ra
                have e2 := upr_id vals ra
                rw [H.out.ra1] at e1
                rw [H.out.ra2] at e2
                rw [aim_none]
                simp only [Option.toList_none, List.map_nil]
                rw [e1, e2]
                exact HG5.out
            | some v =>
              have hv := H.out.vl v rfl
              have HG6 : Hid _ := Gr.lit HG5.out (np na v)
              have hkeep : ∀ b, Fx F na N b → (wc.alloc (.cells #[np na v] 40)).heap[b]? = wc.heap[b]? := fun b hb => Below.heap_alloc _ _ _ (HG5.out.sep.old b hb.1)
              have HM6 : Hid _ := RM.same HM5.out H.out.o hkeep
              have HS6 : Hid (Still (Gk F na N p tb ib mi eb he) W (wc.alloc (.cells #[np na v] 40))) := HS5.out.trans ⟨rfl, rfl, rfl, by simp, fun b hb => hkeep b hb.1⟩
              have s12 := HM6.out.bt.cell 12 (op na tn) rfl
              have s5 := HM6.out.bp.cell 5 (.int .u64 1) rfl
              clear hkeep t12 c5
              simp only [op_some, np] at HG6 HM6 HS6 s12 s5 ⊢
              cases tn with
              | none =>
                go_wp2
                go_meet
                case rel => exact ⟨by rw [aim_some0]; exact HG6.out, HM6.out, HS6.out⟩
              | some n =>
                have hn := H.out.tl n rfl
                have k4 := HG6.out.nodes.c4 hn
                have l4 := HG6.out.nodes.fz hn 4
                simp only [op_some, np] at s12
                have HG7 : Hid _ := HG6.out.drew.setAim hn
                have HM7 : Hid _ := RM.same (W' := (wc.alloc (.cells #[.pointer (some ⟨na v, 0, none⟩)] 40)).drew.setCell ⟨na n, 4, none⟩ (.int .u64 1)) HM6.out H.out.o fun b hb => Below.heap_setCell _ _ _ _ fun e => hb.2 n hn e.symm
                have HS7 : Hid _ := HS6.out.drew.set (a := ⟨na n, 4, none⟩) (fun q => q.1.2 n hn rfl) (.int .u64 1)
                go_upto_region 23 with fail
                go_region
                all_goals
                  go_wp2
                  go_meet
                  case rel => exact ⟨by rw [aim_some1]; exact HG7.out, HM7.out, HS7.out⟩
          case rest =>
            obtain ⟨hG6, hM6, hS6⟩ := hcut
            have HG6 : Hid _ := hG6
            have HM6 : Hid _ := hM6
            have HS6 : Hid _ := hS6
            clear hG6 hM6 hS6 HG5 HM5 HS5 c5 t12
            have t12 := HM6.out.bt.cell 12 (op na tn) rfl
            go_upto_region 24 with fail
            go_cut [126] from 12 (fun b wd => ∃ bad, b = .bool bad ∧ (bad = true ↔ Bad E (live st wn) vn tn) ∧ (∃ seen', Gr wd F na N (upr rows ra u10) (upr vals ra (vn.toList.map (np na))) inn st seen' (aimF (live st wn) vn tn)) ∧ (∃ stk, RM wd p tb ib mi mp eb 1 1 stk s (if (live st wn).isSome then fl else fl') (op na tn) he (op na (live st wn)) rdv (if he && ((live st wn).isSome || rd) then some (ep eb true) else none) (vn.map (np na)) ci cp) ∧ Still (Gk F na N p tb ib mi eb he) W wd)
            case first =>
              have hre := reaches_any (W := wc) HG6.out (by rw [upr_as]; exact H.out.rs1) (by rw [upr_as]; exact H.out.rs2) E (fun i hi => by rw [upr_ao]; exact H.out.hE i hi) H.out.hEl (by have := H.out.hEn; omega) vn.toList (upr_same _ _ _) (fun v hv => H.out.vl v (by simpa using hv)) (by cases vn <;> simp) tn H.out.tl (by have := H.out.hN; omega) p _ H.out.o.fp HM6.out.bp rfl rfl
              rw [upr_same] at hre
              have HRe : Hid _ := hre
              clear hre
              have hfin : ∀ r w', RPost wc F na N (upr rows ra u10) (upr vals ra (vn.toList.map (np na))) inn st (aimF (live st wn) vn tn) E vn.toList tn p (pc 1 mi mp 1 (.slice none 0 0)) (.returned (.bool r)) w' → (r = true ↔ Bad E (live st wn) vn tn) ∧ (∃ seen', Gr w' F na N (upr rows ra u10) (upr vals ra (vn.toList.map (np na))) inn st seen' (aimF (live st wn) vn tn)) ∧ (∃ stk, RM w' p tb ib mi mp eb 1 1 stk s (if (live st wn).isSome then fl else fl') (op na tn) he (op na (live st wn)) rdv (if he && ((live st wn).isSome || rd) then some (ep eb true) else none) (vn.map (np na)) ci cp) ∧ Still (Gk F na N p tb ib mi eb he) W w' := fun r w' hp => by
                obtain ⟨r', e1, e2⟩ := hp.ans
                simp only [Ending.returned.injEq, Value.bool.injEq] at e1
                subst e1
                obtain ⟨stk, hb⟩ := hp.blk
                refine ⟨e2.trans ?_, hp.gr, ⟨stk, RM.stack HM6.out H.out.o hp.still.block hb⟩, HS6.out.trans (hp.still.weak fun b hb => ⟨hb.1, fun e => hb.2 (.inl e)⟩)⟩
                have hor := HOr.out
                unfold Bad
                simp only [hor, true_and, Option.mem_toList]
              have HFin : Hid _ := hfin
              clear hfin
              cases tn with
              | none =>
                cases vn with
                | none =>
                  go_wp2
                  go_meet
                  case rel =>
                    refine ⟨false, rfl, ⟨fun q => by simp at q, fun q => ?_⟩, ⟨_, HG6.out⟩, ⟨_, HM6.out⟩, HS6.out⟩
                    rcases q.2 with ⟨v, h1, _⟩ | ⟨u, d, v, h1, _⟩
                    · simp at h1
                    · simp at h1
                | some v =>
                  go_wp2_with (go_at_call 25; refine Calls.mono HRe.out ?_; rintro e w' hpost; obtain ⟨r, rfl, _⟩ := hpost.ans)
                  go_meet
                  case rel => exact ⟨_, rfl, HFin.out _ _ hpost⟩
              | some n =>
                go_wp2_with (go_at_call 25; refine Calls.mono HRe.out ?_; rintro e w' hpost; obtain ⟨r, rfl, _⟩ := hpost.ans)
                go_meet
                case rel => exact ⟨_, rfl, HFin.out _ _ hpost⟩
            case rest =>
              obtain ⟨bad, rfl, hbad, ⟨seen7, hG7⟩, ⟨stk7, hM7⟩, hS7⟩ := hcut
              have HB : Hid _ := hbad
              have HG7 : Hid _ := hG7
              have HM7 : Hid _ := hM7
              have HS7 : Hid _ := hS7
              clear hbad hG7 hM7 hS7 HG6 HM6 HS6 t12
              cases bad with
              | true =>
                go_wp2
                refine leaves_cons (f := 22) (args := #[.pointer (some ⟨p, 0, none⟩)]) (by simp) (by simp [go_sem]) ?_
                refine (unlock_deferred Yba.muLib ⟨p, 0, none⟩ .returning _ (HM7.out.bp.cell 0 (.int .i32 1) rfl) (HM7.out.bp.frozen 0)).mono ?_
                rintro e u' w'' ⟨rfl, rfl, rfl⟩
                refine ⟨_, results_tmp rfl _ _ _, ?_⟩
                exact RdPost.fin (bad := true) H.out.o (by simpa using HB.out) (⟨fun _ => ⟨rfl, _, _, _, _, HG7.out, fun _ => upr_ax _ _ _, fun _ => upr_ax _ _ _, fun _ => upr_ao _ _ _⟩, fun q => by simp at q⟩) (HM7.out) HS7.out
              | false =>
                go_upto_region 26 with fail
                have hnb : ¬ Bad E (live st wn) vn tn := by have := HB.out; simpa using this
                have HNB : Hid (¬ Bad E (live st wn) vn tn) := hnb
                clear hnb HB
                go_cut [11] from 12 (fun v11 wd => ∃ F' na' N' n seen' aim', v11 = np na' n ∧ ((tn = some n ∧ na' = na ∧ N' = N) ∨ (tn = none ∧ n = N ∧ N' = N + 1 ∧ ∀ i, i < N → na' i = na i)) ∧ n < N' ∧ (∀ i, i < N → na' i = na i ∧ i < N') ∧ (∀ b, Fx F na N b → Fx F' na' N' b) ∧ Gr wd F' na' N' (upr rows ra u10) (upr vals ra (vn.toList.map (np na))) inn st seen' aim' ∧ RM wd p tb ib mi mp eb 1 1 stk7 s (if (live st wn).isSome then fl else fl') (np na' n) he (op na (live st wn)) rdv (if he && ((live st wn).isSome || rd) then some (ep eb true) else none) (vn.map (np na)) ci cp ∧ Still (Gk F na N p tb ib mi eb he) W wd)
                case first =>
                  cases tn with
                  | some n =>
                    have hn := H.out.tl n rfl
                    have hno := nodeOf_some (p := p) HM7.out.bt
                    have HNo : Hid _ := hno
                    clear hno
                    go_wp2_with (go_at_call 26; refine Calls.mono HNo.out ?_; rintro e w' ⟨rfl, rfl⟩)
                    go_meet
                    case rel => exact ⟨F, na, N, n, _, _, rfl, .inl ⟨rfl, rfl, rfl⟩, hn, fun i hi => ⟨rfl, hi⟩, fun b hb => hb, HG7.out, HM7.out, HS7.out⟩
                  | none =>
                    have hno := nodeOf_none (p := p) HM7.out.bt
                    have HNo : Hid _ := hno
                    obtain ⟨q1, q2⟩ := Gr.add HG7.out (by rw [upr_ao]; exact H.out.n1) H.out.n3 H.out.n4
                    have o' := RO.up H.out.o q2
                    have HG8 : Hid _ := q1.other (a := ⟨tb, 12, none⟩) o'.ft.1 o'.ft.2 (np (up na N wc.heap.size) N)
                    have HM8 : Hid _ := (RM.same (W' := wc.alloc (.cells (ncell (.slice none 0 0) 0 0 false false) 43)) HM7.out H.out.o fun b hb => Below.heap_alloc _ _ _ (HG7.out.sep.old b hb.1)).node H.out.o (np (up na N wc.heap.size) N)
                    have HS8 : Hid (Still (Gk F na N p tb ib mi eb he) W ((wc.alloc (.cells (ncell (.slice none 0 0) 0 0 false false) 43)).setCell ⟨tb, 12, none⟩ (np (up na N wc.heap.size) N))) := by
                      have h1 : Still (Gk F na N p tb ib mi eb he) wc (wc.alloc (.cells (ncell (.slice none 0 0) 0 0 false false) 43)) := ⟨rfl, rfl, rfl, by simp, fun b hb => Below.heap_alloc _ _ _ (HG7.out.sep.old b hb.1.1)⟩
                      exact (HS7.out.trans h1).set (a := ⟨tb, 12, none⟩) (fun q => q.2 (.inr (.inl rfl))) _
                    have HQ2 : Hid _ := q2
                    clear hno q1 q2 o'
                    have enp : np (up na N wc.heap.size) N = .pointer (some ⟨wc.heap.size, 0, none⟩) := by simp [np]
                    rw [enp] at HG8 HM8 HS8
                    have HEn : Hid _ := enp
                    clear enp
                    go_wp2_with (go_at_call 26; refine Calls.mono HNo.out ?_; rintro e w' ⟨rfl, rfl⟩)
                    go_meet
                    case rel => exact ⟨_, up na N wc.heap.size, N + 1, N, _, _, HEn.out.symm, by first | exact .inr ⟨rfl, rfl, rfl, fun i hi => up_other _ _ (by omega)⟩ | exact .inr ⟨trivial, rfl, rfl, fun i hi => up_other _ _ (by omega)⟩, by omega, fun i hi => ⟨up_other _ _ (by omega), by omega⟩, HQ2.out, HG8.out, by rw [HEn.out]; exact HM8.out, HS8.out⟩
                case rest =>
                  obtain ⟨F', na', N', n, seen', aim', rfl, hn, hnN, hold, hfx, hG8, hM8, hS8⟩ := hcut
                  have HN : Hid _ := hn
                  have HOld : Hid (∀ i, i < N → na' i = na i ∧ i < N') := hold
                  have HFx : Hid (∀ b, Fx F na N b → Fx F' na' N' b) := hfx
                  have HG8 : Hid _ := hG8
                  have HM8 : Hid _ := hM8
                  have HS8 : Hid _ := hS8
                  have HO' : Hid _ := RO.up H.out.o hfx
                  clear hn hold hfx hG8 hM8 hS8 HG7 HM7 HS7
                  have HLen : Hid (∀ i, i < N' → (vals (ro i)).length ≤ 5000) := fun i hi => by
                    by_cases e : i < N
                    · rw [H.out.hE i e, List.length_map]; have := outs_len E i; have := H.out.hEn; omega
                    · have : i = N := by
                        rcases HN.out with ⟨_, _, h3⟩ | ⟨_, _, h3, _⟩ <;> omega
                      rw [this, H.out.n2]; simp
                  go_upto_if 131 with fail
                  go_cut [8] from 12 (fun v8 wd => ∃ rows3 vals3, v8 = op na (live st wn) ∧ Gr wd F' na' N' rows3 vals3 (inW (live st wn) n inn) st seen' aim' ∧ (∀ i, rows3 (rx i) = rows (rx i)) ∧ (∀ i, vals3 (rx i) = vals (rx i)) ∧ (∀ i, vals3 (ro i) = addW (live st wn) (np na' n) (fun i => vals (ro i)) i) ∧ RM wd p tb ib mi mp eb 1 1 stk7 s (if (live st wn).isSome then fl else fl') (np na' n) he (op na (live st wn)) rdv (if he && ((live st wn).isSome || rd) then some (ep eb true) else none) (vn.map (np na)) ci cp ∧ Still (Gk F na N p tb ib mi eb he) W wd)
                  case first =>
                    cases hl : live st wn with
                    | none =>
                      go_wp2
                      go_meet
                      case rel => exact ⟨_, _, by rw [hl], by rw [hl]; exact HG8.out, fun _ => upr_ax _ _ _, fun _ => upr_ax _ _ _, fun i => by rw [hl, upr_ao]; rfl, HM8.out, HS8.out⟩
                    | some w =>
                      have hw := HWl.out w hl
                      have hna := HOld.out w hw
                      have hlk := link_any HG8.out hna.2 hnN (by rw [upr_ao]; have := HLen.out w hna.2; omega) (by have := H.out.hin n; omega)
                      have e : np na' w = np na w := by simp [np, hna.1]
                      rw [e] at hlk
                      have HLk : Hid _ := hlk
                      clear hlk e
                      simp only [op_some]
                      go_wp2_with (go_at_call 27; refine Calls.mono HLk.out ?_; rintro e w' ⟨rfl, hst9, v9, hG9⟩)
                      go_meet
                      case rel =>
                        refine ⟨_, _, by rw [hl]; rfl, by rw [hl]; exact hG9, fun i => ?_, fun i => ?_, fun i => ?_, RM.same HM8.out HO'.out hst9.block, HS8.out.trans (hst9.weak fun b hb => HFx.out b hb.1)⟩
                        · rw [upr_xo, upr_ax]
                        · rw [upr_xo, upr_ax]
                        · rw [hl]
                          unfold addW
                          by_cases e : i = w
                          · subst e; simp
                          · simp only [up_other _ _ e]
                            rw [upr_other _ _ (by simp [e]), upr_ao]
                  case rest =>
                    obtain ⟨rows3, vals3, rfl, hG9, hx1, hx2, hv9, hM9, hS9⟩ := hcut
                    have HG9 : Hid _ := hG9
                    have HM9 : Hid _ := hM9
                    have HS9 : Hid _ := hS9
                    have HX : Hid ((∀ i, rows3 (rx i) = rows (rx i)) ∧ (∀ i, vals3 (rx i) = vals (rx i)) ∧ (∀ i, vals3 (ro i) = addW (live st wn) (np na' n) (fun i => vals (ro i)) i)) := ⟨hx1, hx2, hv9⟩
                    clear hG9 hM9 hS9 hx1 hx2 hv9 HG8 HM8 HS8
                    cases vn with
                    | none =>
                      have hsome : (live st wn).isSome = true := by have := HOr.out; simpa using this
                      have hgp : GPost F na N rows vals inn st (live st wn) none tn ((live st wn).isSome && !false || (none : Option Nat).isSome && !false) (np na' n) wc :=
                        ⟨fun q => by simp [hsome] at q, fun _ => ⟨F', na', N', n, rows3, vals3, seen', aim', HN.out, rfl, HFx.out, HG9.out, HX.out.1, HX.out.2.1, HX.out.2.2⟩⟩
                      have HGp : Hid _ := hgp
                      clear hgp hsome HX HG9
                      go_wp2
                      refine leaves_cons (f := 22) (args := #[.pointer (some ⟨p, 0, none⟩)]) (by simp) (by simp [go_sem]) ?_
                      refine (unlock_deferred Yba.muLib ⟨p, 0, none⟩ .returning _ (HM9.out.bp.cell 0 (.int .i32 1) rfl) (HM9.out.bp.frozen 0)).mono ?_
                      rintro e u' w'' ⟨rfl, rfl, rfl⟩
                      refine ⟨_, results_tmp rfl _ _ _, ?_⟩
                      exact RdPost.fin (bad := false) H.out.o (⟨fun q => by simp at q, fun q => absurd q HNB.out⟩) (HGp.out) (HM9.out) HS9.out
                    | some v =>
                      have hv := H.out.vl v rfl
                      have hnv := HOld.out v hv
                      have hb1 : (vals3 (ro n)).length ≤ 100000 := by
                        rw [HX.out.2.2 n]
                        have h1 := addW_len (live st wn) (np na' n) (fun i => vals (ro i)) n (HLen.out n hnN)
                        omega
                      have hb2 : inW (live st wn) n inn v ≤ 100000 := by
                        have h1 := inW_le (live st wn) n inn v (H.out.hin n) (H.out.hin v)
                        omega
                      have hlk := link_any HG9.out hnN hnv.2 hb1 hb2
                      have e : np na' v = np na v := by simp [np, hnv.1]
                      rw [e] at hlk
                      have HLk : Hid _ := hlk
                      have hgp : ∀ w' v10, Gr w' F' na' N' (upr rows3 (ro n) v10) (upr vals3 (ro n) (vals3 (ro n) ++ [np na v])) (up (inW (live st wn) n inn) v (inW (live st wn) n inn v + 1)) st seen' aim' → GPost F na N rows vals inn st (live st wn) (some v) tn ((live st wn).isSome && !false || (some v : Option Nat).isSome && !false) (np na' n) w' := fun w' v10 hG10 =>
                        ⟨fun q => by simp at q, fun _ => ⟨F', na', N', n, _, _, seen', aim', HN.out, rfl, HFx.out, hG10, fun i => by rw [upr_xo]; exact HX.out.1 i, fun i => by rw [upr_xo]; exact HX.out.2.1 i, fun i => by
                          unfold addV
                          by_cases e : i = n
                          · subst e; simp [HX.out.2.2]
                          · simp only [up_other _ _ e]
                            rw [upr_other _ _ (by simp [e])]; exact HX.out.2.2 i⟩⟩
                      have HGp : Hid _ := hgp
                      clear hlk e hb1 hb2 hgp HX HG9
                      go_wp2_with (go_at_call 27; refine Calls.mono HLk.out ?_; rintro e w' ⟨rfl, hst10, v10, hG10⟩)
                      have HG10 : Hid _ := HGp.out _ _ hG10
                      have HM10 : Hid _ := RM.same HM9.out HO'.out hst10.block
                      have HS10 : Hid (Still (Gk F na N p tb ib mi eb he) W w') := HS9.out.trans (hst10.weak fun b hb => HFx.out b hb.1)
                      clear hst10 hG10 HGp HLk
                      refine leaves_cons (f := 22) (args := #[.pointer (some ⟨p, 0, none⟩)]) (by simp) (by simp [go_sem]) ?_
                      refine (unlock_deferred Yba.muLib ⟨p, 0, none⟩ .returning _ (HM10.out.bp.cell 0 (.int .i32 1) rfl) (HM10.out.bp.frozen 0)).mono ?_
                      rintro e u' w'' ⟨rfl, rfl, rfl⟩
                      refine ⟨_, results_tmp rfl _ _ _, ?_⟩
                      exact RdPost.fin (bad := false) H.out.o (⟨fun q => by simp at q, fun q => absurd q HNB.out⟩) (HG10.out) (HM10.out) HS10.out
end Go.Proofs.Ybulkboaa.BRead2
