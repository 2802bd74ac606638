import JvmDerived
import JvmDerived.Pilot.@@N@@Statement
import JvmDerived.Pilot.@@N@@Code
set_option linter.unusedVariables false
set_option linter.unusedSimpArgs false


namespace Jvm.OwnW
open Sem ClassFile Op Lib Jvm.Free Jvm.LawKit Jvm.RoadKit
abbrev Cx : Type := Program × Env × State × MethodId × Array Value × List Frame × Method × Code
abbrev Cx.p (x : Cx) : Program := x.1
abbrev Cx.e (x : Cx) : Env := x.2.1
abbrev Cx.s (x : Cx) : State := x.2.2.1
abbrev Cx.m (x : Cx) : MethodId := x.2.2.2.1
abbrev Cx.args (x : Cx) : Array Value := x.2.2.2.2.1
abbrev Cx.below (x : Cx) : List Frame := x.2.2.2.2.2.1
abbrev Cx.meth (x : Cx) : Method := x.2.2.2.2.2.2.1
abbrev Cx.c (x : Cx) : Code := x.2.2.2.2.2.2.2
/-- how a contract ends: narrow or wide -/
def FinE (wd : Bool) (Z : State) (EL : List (String × Nat)) (s : State) (o : Outcome) (t : State) (L : List Loc) (k n : Nat) : Prop :=
  match wd with
  | false => FrameEnd s o t L k n
  | true => CHr Z EL s.vm s.heap t.vm t.heap ∧ ReturnedEndW s o t L k n
def Ct (wd : Bool) (l : Launch) (Z : State) (EL : List (String × Nat)) (y : MethodName) (bytes : ByteArray) (maxL : Nat) (ret : Option FieldType) (ws : List Jvm.Cond) (R : Room) (sf : List Addr) (as' : Array Value) (h : Heap) (Q : Option Value → Heap → Prop) : Prop :=
  MetFree l y (head1 (Jvm.Cond.code y bytes maxL ret :: ws) R) (fun a U => a = as' ∧ Z.Warmed39 U.vm ∧ U.heap = h ∧ (wd = true → CHv Z EL U.vm h ∧ ∀ y ∈ sf, Safe Z EL U.vm h y)) (fun _ _ _ _ _ => True)
    (fun _ U o U' => ∃ v L, o = .returned v ∧ (Q v U'.heap ∧ Fr Z.heap.size L ∧ Ext Z.heap U'.heap ∧ h.size ≤ U'.heap.size) ∧ FinE wd Z EL U o U' L R.cells R.slots)
def Go (x : Cx) (wd : Bool) (Z : State) (EL : List (String × Nat)) (R : Room) (Q : Option Value → Heap → Prop) (T : State) (pc : Nat) (ls : Array Slot) (st : List Value) : Prop :=
  ∃ s₂ o, Steps x.p.tables x.e x.below (T.setTop (mkF x.m pc ls st)) s₂ ∧ s₂.status = .running ∧ Ended s₂ x.below o ∧ ∃ v L, o = .returned v ∧ (Q v s₂.heap ∧ Fr Z.heap.size L ∧ Ext Z.heap s₂.heap ∧ x.s.heap.size ≤ s₂.heap.size) ∧ FinE wd Z EL x.s o s₂ L R.cells R.slots
def W (x : Cx) (wd : Bool) (l : Launch) (Z : State) (EL : List (String × Nat)) (R : Room) (own : String) (code : ByteArray) (mx : Nat) (ret : Option FieldType) (nm : String) (T : State) (h : Heap) (k n : Nat) (sf : List Addr) : Prop :=
  x.p.tables.exec = Jvm.exec ∧ x.c.code = code ∧ x.c.maxLocals = mx ∧ x.meth.sig.returnType = ret ∧ x.meth.name = nm ∧ x.meth.locks = false ∧ T.heap = h ∧ Ext Z.heap h ∧ k ≤ R.cells ∧ n ≤ R.slots ∧ (∀ y ∈ sf, Z.heap.size ≤ y ∧ y < h.size) ∧ (∃ a0, EW Z a0 EL) ∧
    ∃ (L : List Loc) (vm0 : Vm), Fr Z.heap.size L ∧ (wd = false → vm0 = x.s.vm) ∧ Stand x.p l x.e R (x.s.setVm vm0) x.m x.args x.below x.meth x.c T L k n ∧ x.s.Since vm0 h.size ∧ Z.Warmed39 vm0 ∧ vm0.findClass own = some x.m.cls ∧ (wd = true → CHr Z EL x.s.vm x.s.heap vm0 h ∧ ∀ y ∈ sf, Safe Z EL vm0 h y)
/-- an instruction, its length, the next pc -/
def Dc (code : ByteArray) (pc : Nat) (i : Instr) (len pc' : Nat) : Prop := decode code pc = .ok (i, len) ∧ pc + len = pc'
/-- where a branch goes -/
def Tg (pc : Nat) (o : Int) (pc' : Nat) : Prop := 0 ≤ (pc : Int) + o ∧ ((pc : Int) + o).toNat = pc'
theorem since_mono {s : State} {vm : Vm} {n n' : Nat} (h : s.Since vm n) (q : n ≤ n') : s.Since vm n' := ⟨h.1, h.2.mono q⟩
theorem setVm_self (s : State) : s.setVm s.vm = s := rfl
theorem ext_refl (h : Heap) : Ext h h := ⟨Nat.le_refl _, fun _ _ q => q⟩
theorem ext_trans {a b c : Heap} (h1 : Ext a b) (h2 : Ext b c) : Ext a c := ⟨Nat.le_trans h1.1 h2.1, fun x q r => h2.2 x q (h1.2 x q r)⟩
theorem ext_wr {Z : State} {h h' : Heap} {a : Addr} {sl : Nat} {v : Value} (E : Ext Z.heap h) (w : Wr h h' a sl v) (q : Z.heap.size ≤ a) : Ext Z.heap h' := (Old.wr ⟨rfl, E⟩ w q).2
theorem keep_ext {h h' : Heap} {ws : List Addr} (E : Ext h h') : Keep h h' ws := (Keep.refl h ws).ext E
theorem ext_keep {h h' : Heap} (K : Keep h h' []) : Ext h h' := ⟨K.1, fun x c q => K.2.1 x c q nin0⟩
theorem keep_to {h0 h h' : Heap} {ws : List Addr} (E : Ext h0 h) (K : Keep h h' ws) (q : ∀ x ∈ ws, h0.size ≤ x) : Ext h0 h' :=
  ⟨Nat.le_trans E.1 K.1, fun x c r => K.2.1 x c (E.2 x c r) fun z => absurd (Array.getElem?_eq_some_iff.mp r).1 (Nat.not_lt.mpr (q x z))⟩
theorem Ct.mono {wd : Bool} {l : Launch} {Z : State} {EL : List (String × Nat)} {y : MethodName} {bytes : ByteArray} {maxL : Nat} {ret : Option FieldType} {ws : List Jvm.Cond} {R : Room} {sf : List Addr} {as' : Array Value} {h : Heap} {Q Q' : Option Value → Heap → Prop} (C : Ct wd l Z EL y bytes maxL ret ws R sf as' h Q) (q : ∀ v u, Q v u → Q' v u) : Ct wd l Z EL y bytes maxL ret ws R sf as' h Q' := by
  intro p e h1 h2 h3 s m args below h4 h5 h6 h7
  obtain ⟨n, o, a1, a2, a3, v, L, a4, a5, a6⟩ := C p e h1 h2 h3 s m args below h4 h5 h6 h7
  exact ⟨n, o, a1, a2, a3, v, L, a4, ⟨q _ _ a5.1, a5.2⟩, a6⟩
theorem Ct.intro {wd : Bool} {l : Launch} {Z : State} {EL : List (String × Nat)} {y : MethodName} {bytes : ByteArray} {maxL : Nat} {ret : Option FieldType} {ws : List Jvm.Cond} {R : Room} {sf : List Addr} {as' : Array Value} {h : Heap} {Q : Option Value → Heap → Prop} {ls : Array Slot}
    (hpl : plainName y.cls = true) (hE : Ext Z.heap h) (ef : ∀ m, entryFrame m as' maxL = mkF m 0 ls []) (hsf : ∀ y ∈ sf, Z.heap.size ≤ y ∧ y < h.size) (hEL : ∃ a0, EW Z a0 EL)
    (body : ∀ (x : Cx) (T : State), W x wd l Z EL R y.cls bytes maxL ret y.name T h 0 0 sf → Go x wd Z EL R Q T 0 ls []) : Ct wd l Z EL y bytes maxL ret ws R sf as' h Q := by
  refine MetFree.of_bodySF (plainFor_of_name hpl) hisR ?_
  intro p e s m args below meth c s₁ Bd hml0 hP hK
  obtain ⟨rfl, hZ, hh, hC⟩ := hP
  have hown : s.vm.findClass y.cls = some m.cls := findClass_of_methodNamed Bd.named
  have hnm := (name_of_methodNamed Bd.named Bd.method).1
  have e0 : s₁.heap = h := by rw [← hh, Bd.state]; rfl
  obtain ⟨s₂, o, a1, a2, a3, v, L, a4, a5, a6⟩ := body (p, e, s, m, args, below, meth, c) s₁ ⟨Bd.exec, Bd.bytes, hml0, Bd.returns, hnm, Bd.notSynchronized, e0, hE, Nat.zero_le _, Nat.zero_le _, hsf, hEL, [], s.vm, Fr.nil _, fun _ => rfl, Stand.of_body Bd, (State.WarmedH.refl s).since _, hZ, hown, fun q => ⟨by show CHr Z EL s.vm s.heap s.vm h; rw [hh]; exact CHr.refl (hC q).1, (hC q).2⟩⟩
  exact ⟨s₂, o, castTop (ef m) a1, a2, a3, v, L, a4, ⟨a5.1, a5.2.1, a5.2.2.1, by rw [← hh]; exact a5.2.2.2⟩, a6⟩
theorem nosf {Z : State} {h : Heap} : ∀ y ∈ ([] : List Addr), Z.heap.size ≤ y ∧ y < h.size := fun _ q => nomatch q
theorem onesf {Z : State} {h : Heap} {a : Addr} (g : Z.heap.size ≤ a) (q : a < h.size) : ∀ y ∈ [a], Z.heap.size ≤ y ∧ y < h.size := fun y z => by cases List.mem_singleton.mp z; exact ⟨g, q⟩
theorem noEL {Z : State} {a0 : Array Value} : ∃ a0, EW Z a0 [] := ⟨a0, EW.nil⟩
/-- a wide callee's contract, as the library's calls want it -/
theorem backW {p : Program} {l : Launch} {e : Env} {R : Room} {s : State} {args : Array Value} {below : List Frame} {Z : State} {a0 : Array Value} {EL : List (String × Nat)} {h : Heap} {vm0 : Vm} {y : MethodName} {bytes : ByteArray} {maxL : Nat} {ret : Option FieldType} {rm : Room} {len Wn : Nat} {as' : Array Value} {sf : List Addr} {Q : Option Value → Heap → Prop}
    (hM : Ct true l Z EL y bytes maxL ret [] rm sf as' h Q) (hZ : Z.Warmed39 vm0) (wc : (Jvm.Cond.code y bytes maxL ret).before a0 Z = true) (wz : (Jvm.Cond.initialized y.cls).before a0 Z = true) (hf : rm.frames + 1 ≤ R.frames) (hl : Wn + (maxL + 11) + rm.locals ≤ R.locals) (hEL : ∃ a0, EW Z a0 EL) (H : CHv Z EL vm0 h) (hsf : ∀ y ∈ sf, y < h.size ∧ Safe Z EL vm0 h y) :
    BackS l R p e below (s.setVm vm0) args y len Wn (fun A a => a = as' ∧ A.U.heap = h ∧ A.cells + rm.cells ≤ R.cells ∧ A.slots + rm.slots ≤ R.slots)
      (fun A _ v B => ∃ L, (Q v B.U.heap ∧ Fr Z.heap.size L ∧ Ext Z.heap B.U.heap ∧ h.size ≤ B.U.heap.size) ∧ B.locs = A.locs ++ L ∧ B.cells = A.cells + rm.cells ∧ B.slots = A.slots + rm.slots ∧ CHr Z EL vm0 h B.U.vm B.U.heap) := by
  obtain ⟨a1, hEL⟩ := hEL
  exact BackS.of_freeW (bytes := bytes) (maxL := maxL) (ret := ret) (E := fun _ first o t L k n => k = rm.cells ∧ n = rm.slots ∧ (∃ v, o = .returned v ∧ (Q v t.heap ∧ Fr Z.heap.size L ∧ Ext Z.heap t.heap ∧ h.size ≤ t.heap.size)) ∧ CHr Z EL first.vm first.heap t.vm t.heap) hM hf hl
    (fun m meth c A a Y hp => have hU : Z.Warmed39 A.U.vm := wtrans (s := s.setVm vm0) hZ Y.warmed
      ⟨by show (Jvm.Cond.and _ .tt).before a A.U = true; rw [Cond.before_and, mv hU wc]; rfl, mv hU wc, mv hU wz, hp.2.2.1, hp.2.2.2⟩)
    (fun m meth c A a g mk Y hp => ⟨hp.1, wtrans (s := s.setVm vm0) hZ Y.warmed, hp.2.1, fun _ => ⟨(CHv.at Y hZ hEL H).1, fun y hy => (CHv.at Y hZ hEL H).safe (hsf y hy).1 (hsf y hy).2⟩⟩) (fun _ _ _ _ _ _ _ _ _ => trivial)
    (fun _ _ _ _ ⟨v, L, h1, h2, h3, h4⟩ => ⟨L, _, _, h4, rfl, rfl, ⟨v, h1, h2⟩, h3⟩)
    (fun m meth c A a g mk v t L k n Y hp _ _ ⟨e1, e2, ⟨v', e3, e4⟩, e5⟩ => by
      cases e3; subst e1 e2
      refine ⟨L, e4, rfl, rfl, rfl, (CHv.at Y hZ hEL H).trans ?_⟩
      rw [← hp.2.1]; exact e5)
/-- a narrow callee's -/
theorem backN {p : Program} {l : Launch} {e : Env} {R : Room} {s : State} {args : Array Value} {below : List Frame} {Z : State} {a0 : Array Value} {EL : List (String × Nat)} {h : Heap} {y : MethodName} {bytes : ByteArray} {maxL : Nat} {ret : Option FieldType} {rm : Room} {len Wn : Nat} {as' : Array Value} {sf : List Addr} {Q : Option Value → Heap → Prop}
    (hM : Ct false l Z EL y bytes maxL ret [] rm sf as' h Q) (hZ : Z.Warmed39 s.vm) (wc : (Jvm.Cond.code y bytes maxL ret).before a0 Z = true) (wz : (Jvm.Cond.initialized y.cls).before a0 Z = true) (hf : rm.frames + 1 ≤ R.frames) (hl : Wn + (maxL + 11) + rm.locals ≤ R.locals) :
    Back l R p e below s args y len Wn (fun A a => a = as' ∧ A.U.heap = h ∧ A.cells + rm.cells ≤ R.cells ∧ A.slots + rm.slots ≤ R.slots)
      (fun A _ v B => ∃ L, (Q v B.U.heap ∧ Fr Z.heap.size L ∧ Ext Z.heap B.U.heap ∧ h.size ≤ B.U.heap.size) ∧ B.locs = A.locs ++ L ∧ B.cells = A.cells + rm.cells ∧ B.slots = A.slots + rm.slots) :=
  backOf (Q := fun v u L => Q v u ∧ Fr Z.heap.size L ∧ Ext Z.heap u ∧ h.size ≤ u.size) (fun p e h1 h2 h3 s m args below h4 h5 h6 h7 => hM p e h1 h2 h3 s m args below h4 h5 ⟨h6.1, h6.2.1, h6.2.2, fun q => by cases q⟩ h7) hZ wc wz hf hl
section Laws
variable {x : Cx} {wd : Bool} {l : Launch} {Z : State} {EL : List (String × Nat)} {sf : List Addr} {R : Room} {own : String} {code : ByteArray} {mx : Nat} {ret : Option FieldType} {nm : String} {T : State} {h : Heap} {k n : Nat} {Q : Option Value → Heap → Prop} {pc pc' pcT : Nat} {ls : Array Slot} {st : List Value} {a0 : Array Value}
theorem W.old (w : W x wd l Z EL R own code mx ret nm T h k n sf) : Ext Z.heap h := w.2.2.2.2.2.2.2.1
theorem W.size (w : W x wd l Z EL R own code mx ret nm T h k n sf) : Z.heap.size ≤ h.size := w.old.1
theorem W.sta {C f d : String} {v : Value} (w : W x wd l Z EL R own code mx ret nm T h k n sf) (F : Sta Z Z.heap C f d v) : Sta Z h C f d v := F.ext w.old
/-- more cells and slots may be booked -/
theorem W.more {k' n' : Nat} (w : W x wd l Z EL R own code mx ret nm T h k n sf) (hk : k ≤ k') (hn : n ≤ n') (hk' : k' ≤ R.cells) (hn' : n' ≤ R.slots) : W x wd l Z EL R own code mx ret nm T h k' n' sf := by
  obtain ⟨a1, a2, a3, a4, a5, a6, a7, a8, a9, a10, a13, a14, L, vm0, a11, a12, X, b1, b2, b3, b4⟩ := w
  exact ⟨a1, a2, a3, a4, a5, a6, a7, a8, hk', hn', a13, a14, L, vm0, a11, a12, X.mono hk hn, b1, b2, b3, b4⟩
/-- fewer places that may be written -/
theorem W.less {sf' : List Addr} (w : W x wd l Z EL R own code mx ret nm T h k n sf) (q : ∀ y ∈ sf', y ∈ sf) : W x wd l Z EL R own code mx ret nm T h k n sf' := by
  obtain ⟨a1, a2, a3, a4, a5, a6, a7, a8, a9, a10, a13, a14, L, vm0, a11, a12, X, b1, b2, b3, b4⟩ := w
  exact ⟨a1, a2, a3, a4, a5, a6, a7, a8, a9, a10, fun y hy => a13 y (q y hy), a14, L, vm0, a11, a12, X, b1, b2, b3, fun e => ⟨(b4 e).1, fun y hy => (b4 e).2 y (q y hy)⟩⟩
/-- a new address that may be written, made by a callee -/
theorem W.adopt (w : W x wd l Z EL R own code mx ret nm T h k n sf) {d : Addr} (g : Z.heap.size ≤ d) (q : d < h.size) (f : ∀ vm, Z.Warmed39 vm → Safe Z EL vm h d) : W x wd l Z EL R own code mx ret nm T h k n (d :: sf) := by
  obtain ⟨a1, a2, a3, a4, a5, a6, a7, a8, a9, a10, a13, a14, L, vm0, a11, a12, X, b1, b2, b3, b4⟩ := w
  refine ⟨a1, a2, a3, a4, a5, a6, a7, a8, a9, a10, fun y hy => ?_, a14, L, vm0, a11, a12, X, b1, b2, b3, fun e => ⟨(b4 e).1, fun y hy => ?_⟩⟩
  · rcases List.mem_cons.mp hy with rfl | hy
    · exact ⟨g, q⟩
    · exact a13 y hy
  · rcases List.mem_cons.mp hy with rfl | hy
    · exact f vm0 b2
    · exact (b4 e).2 y hy
theorem W.go {pc' : Nat} {ls' : Array Slot} {st' : List Value} (w : W x wd l Z EL R own code mx ret nm T h k n sf)
    (f : At T x.m x.c x.below → x.p.tables.exec = Jvm.exec → x.c.code = code → ∀ target, Steps x.p.tables x.e x.below (T.setTop (mkF x.m pc' ls' st')) target → Steps x.p.tables x.e x.below (T.setTop (mkF x.m pc ls st)) target)
    (K : Go x wd Z EL R Q T pc' ls' st') : Go x wd Z EL R Q T pc ls st := by
  obtain ⟨s₂, o, a1, r⟩ := K
  obtain ⟨hx, hb, -, -, -, -, -, -, -, -, -, -, L, vm0, -, -, X, -⟩ := w
  exact ⟨s₂, o, f X.here hx hb _ a1, r⟩
/-- a step that only warms the tables -/
theorem W.goT {pc' : Nat} {ls' : Array Slot} {st' : List Value} (w : W x wd l Z EL R own code mx ret nm T h k n sf)
    (f : ∀ (s0 : State) (L : List Loc), Stand x.p l x.e R s0 x.m x.args x.below x.meth x.c T L k n → x.p.tables.exec = Jvm.exec → Z.Warmed39 s0.vm → s0.vm.findClass own = some x.m.cls → x.c.code = code → x.c.maxLocals = mx → T.heap = h → ∃ T', Stand x.p l x.e R s0 x.m x.args x.below x.meth x.c T' L k n ∧ T'.heap = h ∧ ∀ target, Steps x.p.tables x.e x.below (T'.setTop (mkF x.m pc' ls' st')) target → Steps x.p.tables x.e x.below (T.setTop (mkF x.m pc ls st)) target)
    (K : ∀ T', W x wd l Z EL R own code mx ret nm T' h k n sf → Go x wd Z EL R Q T' pc' ls' st') : Go x wd Z EL R Q T pc ls st := by
  obtain ⟨hx, hb, hm, hr, hn, hl, e0, E, c1, c2, hs, hEL, L, vm0, N, g, X, S, hZ, ho, hC⟩ := w
  obtain ⟨T', X', e', stp⟩ := f _ L X hx hZ ho hb hm e0
  obtain ⟨s₂, o, a1, r⟩ := K T' ⟨hx, hb, hm, hr, hn, hl, e', E, c1, c2, hs, hEL, L, vm0, N, g, X', S, hZ, ho, hC⟩
  exact ⟨s₂, o, stp _ a1, r⟩
/-- a step that makes a cell -/
theorem W.goN {pc' : Nat} {ls' : Array Slot} {st' : List Value} {k' n' : Nat} {P : Heap → Prop} (w : W x wd l Z EL R own code mx ret nm T h k n sf) (hk : k' ≤ R.cells) (hn' : n' ≤ R.slots)
    (f : ∀ (s0 : State) (L : List Loc), Stand x.p l x.e R s0 x.m x.args x.below x.meth x.c T L k n → x.p.tables.exec = Jvm.exec → Z.Warmed39 s0.vm → s0.vm.findClass own = some x.m.cls → x.c.code = code → x.c.maxLocals = mx → T.heap = h → ∃ T' h', Stand x.p l x.e R s0 x.m x.args x.below x.meth x.c T' L k' n' ∧ T'.heap = h' ∧ Ext h h' ∧ h.size < h'.size ∧ P h' ∧ ∀ target, Steps x.p.tables x.e x.below (T'.setTop (mkF x.m pc' ls' st')) target → Steps x.p.tables x.e x.below (T.setTop (mkF x.m pc ls st)) target)
    (K : ∀ T' h', W x wd l Z EL R own code mx ret nm T' h' k' n' (h.size :: sf) → Ext h h' → P h' → Go x wd Z EL R Q T' pc' ls' st') : Go x wd Z EL R Q T pc ls st := by
  obtain ⟨hx, hb, hm, hr, hn, hl, e0, E, c1, c2, hs, hEL, L, vm0, N, g, X, S, hZ, ho, hC⟩ := w
  obtain ⟨T', h', X', e', E', hlt, p', stp⟩ := f _ L X hx hZ ho hb hm e0
  obtain ⟨s₂, o, a1, r⟩ := K T' h' ⟨hx, hb, hm, hr, hn, hl, e', ext_trans E E', hk, hn', fun y hy => by
      rcases List.mem_cons.mp hy with rfl | hy
      · exact ⟨E.1, hlt⟩
      · exact ⟨(hs y hy).1, Nat.lt_of_lt_of_le (hs y hy).2 E'.1⟩, hEL, L, vm0, N, g, X', since_mono S E'.1, hZ, ho, fun q => ⟨(hC q).1.trans (CHr.ext E' (hC q).1.1), fun y hy => by
      rcases List.mem_cons.mp hy with rfl | hy
      · exact (Safe.new (Nat.le_refl _)).ext E' (hC q).1.1
      · exact ((hC q).2 y hy).ext E' (hC q).1.1⟩⟩ E' p'
  exact ⟨s₂, o, stp _ a1, r⟩
/-- a step that writes one place of a new cell -/
theorem W.goW {pc' : Nat} {ls' : Array Slot} {st' : List Value} {a : Addr} {sl : Nat} {v : Value} (w : W x wd l Z EL R own code mx ret nm T h k n sf) (ha : a ∈ sf)
    (f : ∀ (s0 : State) (L : List Loc), Stand x.p l x.e R s0 x.m x.args x.below x.meth x.c T L k n → x.p.tables.exec = Jvm.exec → Z.Warmed39 s0.vm → s0.vm.findClass own = some x.m.cls → x.c.code = code → x.meth.name = nm → T.heap = h → ∃ T' h', Stand x.p l x.e R s0 x.m x.args x.below x.meth x.c T' (L ++ [⟨a, sl⟩]) k n ∧ T'.heap = h' ∧ Wr h h' a sl v ∧ ∀ target, Steps x.p.tables x.e x.below (T'.setTop (mkF x.m pc' ls' st')) target → Steps x.p.tables x.e x.below (T.setTop (mkF x.m pc ls st)) target)
    (K : ∀ T' h', W x wd l Z EL R own code mx ret nm T' h' k n sf → Wr h h' a sl v → Go x wd Z EL R Q T' pc' ls' st') : Go x wd Z EL R Q T pc ls st := by
  obtain ⟨hx, hb, hm, hr, hn, hl, e0, E, c1, c2, hs, hEL, L, vm0, N, g, X, S, hZ, ho, hC⟩ := w
  obtain ⟨T', h', X', e', W', stp⟩ := f _ L X hx hZ ho hb hn e0
  have hz := W'.size
  obtain ⟨s₂, o, a1, r⟩ := K T' h' ⟨hx, hb, hm, hr, hn, hl, e', ext_wr E W' (hs a ha).1, c1, c2, fun y hy => ⟨(hs y hy).1, by rw [hz]; exact (hs y hy).2⟩, hEL, _, vm0, Fr.snoc X' N (hs a ha).1, g, X', since_mono S (Nat.le_of_eq hz.symm), hZ, ho, fun q => ⟨(hC q).1.trans (CHr.wr W' ((hC q).2 a ha) (hC q).1.1), fun y hy => Safe.wr W' ((hC q).2 a ha) (hC q).1.1 ((hC q).2 y hy)⟩⟩ W'
  exact ⟨s₂, o, stp _ a1, r⟩
/-- the end: the value v is handed back -/
theorem W.done {v : Option Value} (w : W x wd l Z EL R own code mx ret nm T h k n sf) (hv : ret = none → v = none) (hQ : Q v h)
    (f : ∀ (s0 : State) (L : List Loc), Stand x.p l x.e R s0 x.m x.args x.below x.meth x.c T L k n → x.p.tables.exec = Jvm.exec → x.c.code = code → x.meth.sig.returnType = ret → ∀ fs : List Frame, (∀ (f : JFrame) (acts : List Action), f.method = x.m → f.locked = none → f.entered = [] → (doReturn x.e (T.setTop f) acts v).1 = T.setFrames fs) → Steps x.p.tables x.e x.below (T.setTop (mkF x.m pc ls st)) (T.setFrames fs)) : Go x wd Z EL R Q T pc ls st := by
  obtain ⟨hx, hb, hm, hr, hn, hl, e0, E, c1, c2, hs, ⟨a9, hEL⟩, L, vm0, N, g, X, S, hZ, ho, hC⟩ := w
  have hv' : x.meth.sig.returnType = none → v = none := fun q => hv (hr ▸ q)
  have hh : ∀ fs, (T.setFrames fs).heap = h := fun fs => e0
  have hg : ∀ fs, x.s.heap.size ≤ (T.setFrames fs).heap.size := fun fs => X.same.2.1
  cases wd with
  | false =>
    have eq := g rfl
    subst eq
    obtain ⟨fs, h1, h2, h3, h4, h5⟩ := X.leave (v := v) hv' hl
    exact ⟨_, _, f _ L X hx hb hr fs h1, h2, h3, v, L, rfl, ⟨(hh fs).symm ▸ hQ, N, (hh fs).symm ▸ E, hg fs⟩, ⟨⟨v, rfl⟩, h4, h5.mono c1 c2⟩⟩
  | true =>
    obtain ⟨fs, h1, h2, h3, h4⟩ := X.leaveW S (by rw [e0]; exact Nat.le_refl _) (v := v) hv' hl
    have hC2 : CHr Z EL x.s.vm x.s.heap T.vm T.heap := by rw [e0]; exact (hC rfl).1.trans (CHv.at X hZ hEL (hC rfl).1.1)
    exact ⟨_, _, f _ L X hx hb hr fs h1, h2, h3, v, L, rfl, ⟨(hh fs).symm ▸ hQ, N, (hh fs).symm ▸ E, hg fs⟩, hC2, ⟨h4.1, h4.2.1, h4.2.2.1, h4.2.2.2.mono c1 c2⟩⟩

theorem W.aloadN (w : W x wd l Z EL R own code mx ret nm T h k n sf) {i : Fin 4} {v : Value} (hd : Dc code pc (.aload_n i) 1 pc') (hl : ls[i.val]? = some (.val v)) (hv : v.isRef = true) (K : Go x wd Z EL R Q T pc' ls (v :: st)) : Go x wd Z EL R Q T pc ls st := by
  obtain ⟨hd, rfl⟩ := hd
  exact w.go (fun A hx hb t hr => XS.aloadN A hx rfl (Jvm.hb hb hd) hl hv hr) K
theorem W.aload (w : W x wd l Z EL R own code mx ret nm T h k n sf) {i : Nat} {v : Value} (hd : Dc code pc (.aload i) 2 pc') (hl : ls[i]? = some (.val v)) (hv : v.isRef = true) (K : Go x wd Z EL R Q T pc' ls (v :: st)) : Go x wd Z EL R Q T pc ls st := by
  obtain ⟨hd, rfl⟩ := hd
  exact w.go (fun A hx hb t hr => XS.aload A hx rfl (Jvm.hb hb hd) hl hv hr) K
theorem W.iloadN (w : W x wd l Z EL R own code mx ret nm T h k n sf) {i : Fin 4} {v : Int32} (hd : Dc code pc (.iload_n i) 1 pc') (hl : ls[i.val]? = some (.val (.int v))) (K : Go x wd Z EL R Q T pc' ls (.int v :: st)) : Go x wd Z EL R Q T pc ls st := by
  obtain ⟨hd, rfl⟩ := hd
  exact w.go (fun A hx hb t hr => XS.iloadN A hx rfl (Jvm.hb hb hd) hl hr) K
theorem W.iload (w : W x wd l Z EL R own code mx ret nm T h k n sf) {i : Nat} {v : Int32} (hd : Dc code pc (.iload i) 2 pc') (hl : ls[i]? = some (.val (.int v))) (K : Go x wd Z EL R Q T pc' ls (.int v :: st)) : Go x wd Z EL R Q T pc ls st := by
  obtain ⟨hd, rfl⟩ := hd
  exact w.go (fun A hx hb t hr => XS.iload A hx rfl (Jvm.hb hb hd) hl hr) K
theorem W.lloadN (w : W x wd l Z EL R own code mx ret nm T h k n sf) {i : Fin 4} {v : Int64} (hd : Dc code pc (.lload_n i) 1 pc') (hl : ls[i.val]? = some (.val (.long v))) (K : Go x wd Z EL R Q T pc' ls (.long v :: st)) : Go x wd Z EL R Q T pc ls st := by
  obtain ⟨hd, rfl⟩ := hd
  exact w.go (fun A hx hb t hr => XT.lloadN A hx rfl (Jvm.hb hb hd) hl hr) K
theorem W.lload (w : W x wd l Z EL R own code mx ret nm T h k n sf) {i : Nat} {v : Int64} (hd : Dc code pc (.lload i) 2 pc') (hl : ls[i]? = some (.val (.long v))) (K : Go x wd Z EL R Q T pc' ls (.long v :: st)) : Go x wd Z EL R Q T pc ls st := by
  obtain ⟨hd, rfl⟩ := hd
  exact w.go (fun A hx hb t hr => XT.lload A hx rfl (Jvm.hb hb hd) hl hr) K
theorem W.iconst (w : W x wd l Z EL R own code mx ret nm T h k n sf) {i : Int} (v : Int32) (hd : Dc code pc (.iconst i) 1 pc') (hv : Int32.ofInt i = v) (K : Go x wd Z EL R Q T pc' ls (.int v :: st)) : Go x wd Z EL R Q T pc ls st := by
  obtain ⟨hd, rfl⟩ := hd
  exact w.go (fun A hx hb t hr => XT.iconstV A hx rfl v (Jvm.hb hb hd) hv hr) K
theorem W.bipush (w : W x wd l Z EL R own code mx ret nm T h k n sf) {i : Int} (v : Int32) (hd : Dc code pc (.bipush i) 2 pc') (hv : (Int8.ofInt i).toInt32 = v) (K : Go x wd Z EL R Q T pc' ls (.int v :: st)) : Go x wd Z EL R Q T pc ls st := by
  obtain ⟨hd, rfl⟩ := hd
  exact w.go (fun A hx hb t hr => XT.bipushV A hx rfl v (Jvm.hb hb hd) hv hr) K
theorem W.sipush (w : W x wd l Z EL R own code mx ret nm T h k n sf) {i : Int} (v : Int32) (hd : Dc code pc (.sipush i) 3 pc') (hv : (Int16.ofInt i).toInt32 = v) (K : Go x wd Z EL R Q T pc' ls (.int v :: st)) : Go x wd Z EL R Q T pc ls st := by
  obtain ⟨hd, rfl⟩ := hd
  exact w.go (fun A hx hb t hr => XT.sipushV A hx rfl v (Jvm.hb hb hd) hv hr) K
theorem W.lconst (w : W x wd l Z EL R own code mx ret nm T h k n sf) {i : Fin 2} (v : Int64) (hd : Dc code pc (.lconst i) 1 pc') (hv : Int64.ofNat i = v) (K : Go x wd Z EL R Q T pc' ls (.long v :: st)) : Go x wd Z EL R Q T pc ls st := by
  obtain ⟨hd, rfl⟩ := hd
  exact w.go (fun A hx hb t hr => XT.lconstV A hx rfl v (Jvm.hb hb hd) hv hr) K
theorem W.aconstNull (w : W x wd l Z EL R own code mx ret nm T h k n sf) (hd : Dc code pc .aconst_null 1 pc') (K : Go x wd Z EL R Q T pc' ls (.null :: st)) : Go x wd Z EL R Q T pc ls st := by
  obtain ⟨hd, rfl⟩ := hd
  exact w.go (fun A hx hb t hr => XS.aconstNull A hx rfl (Jvm.hb hb hd) hr) K
theorem W.iadd (w : W x wd l Z EL R own code mx ret nm T h k n sf) {a b : Int32} (hd : Dc code pc .iadd 1 pc') (K : Go x wd Z EL R Q T pc' ls (.int (a + b) :: st)) : Go x wd Z EL R Q T pc ls (.int b :: .int a :: st) := by
  obtain ⟨hd, rfl⟩ := hd
  exact w.go (fun A hx hb t hr => XS.iadd A hx rfl (Jvm.hb hb hd) rfl hr) K
theorem W.isub (w : W x wd l Z EL R own code mx ret nm T h k n sf) {a b : Int32} (hd : Dc code pc .isub 1 pc') (K : Go x wd Z EL R Q T pc' ls (.int (a - b) :: st)) : Go x wd Z EL R Q T pc ls (.int b :: .int a :: st) := by
  obtain ⟨hd, rfl⟩ := hd
  exact w.go (fun A hx hb t hr => XS.isub A hx rfl (Jvm.hb hb hd) rfl hr) K
theorem W.imul (w : W x wd l Z EL R own code mx ret nm T h k n sf) {a b : Int32} (hd : Dc code pc .imul 1 pc') (K : Go x wd Z EL R Q T pc' ls (.int (a * b) :: st)) : Go x wd Z EL R Q T pc ls (.int b :: .int a :: st) := by
  obtain ⟨hd, rfl⟩ := hd
  exact w.go (fun A hx hb t hr => XS.imul A hx rfl (Jvm.hb hb hd) rfl hr) K
theorem W.iand (w : W x wd l Z EL R own code mx ret nm T h k n sf) {a b : Int32} (hd : Dc code pc .iand 1 pc') (K : Go x wd Z EL R Q T pc' ls (.int (a &&& b) :: st)) : Go x wd Z EL R Q T pc ls (.int b :: .int a :: st) := by
  obtain ⟨hd, rfl⟩ := hd
  exact w.go (fun A hx hb t hr => XS.iand A hx rfl (Jvm.hb hb hd) rfl hr) K
theorem W.ior (w : W x wd l Z EL R own code mx ret nm T h k n sf) {a b : Int32} (hd : Dc code pc .ior 1 pc') (K : Go x wd Z EL R Q T pc' ls (.int (a ||| b) :: st)) : Go x wd Z EL R Q T pc ls (.int b :: .int a :: st) := by
  obtain ⟨hd, rfl⟩ := hd
  exact w.go (fun A hx hb t hr => XT.ior A hx rfl (Jvm.hb hb hd) rfl hr) K
theorem W.ixor (w : W x wd l Z EL R own code mx ret nm T h k n sf) {a b : Int32} (hd : Dc code pc .ixor 1 pc') (K : Go x wd Z EL R Q T pc' ls (.int (a ^^^ b) :: st)) : Go x wd Z EL R Q T pc ls (.int b :: .int a :: st) := by
  obtain ⟨hd, rfl⟩ := hd
  exact w.go (fun A hx hb t hr => XT.ixor A hx rfl (Jvm.hb hb hd) rfl hr) K
theorem W.iushr (w : W x wd l Z EL R own code mx ret nm T h k n sf) {a b : Int32} (hd : Dc code pc .iushr 1 pc') (K : Go x wd Z EL R Q T pc' ls (.int (XT.ushr a b) :: st)) : Go x wd Z EL R Q T pc ls (.int b :: .int a :: st) := by
  obtain ⟨hd, rfl⟩ := hd
  exact w.go (fun A hx hb t hr => XT.iushr A hx rfl (Jvm.hb hb hd) rfl hr) K
theorem W.ishl (w : W x wd l Z EL R own code mx ret nm T h k n sf) {a b : Int32} (hd : Dc code pc .ishl 1 pc') (K : Go x wd Z EL R Q T pc' ls (.int (a <<< (b &&& 31)) :: st)) : Go x wd Z EL R Q T pc ls (.int b :: .int a :: st) := by
  obtain ⟨hd, rfl⟩ := hd
  exact w.go (fun A hx hb t hr => XT.ishl A hx rfl (Jvm.hb hb hd) rfl hr) K
theorem W.ishr (w : W x wd l Z EL R own code mx ret nm T h k n sf) {a b : Int32} (hd : Dc code pc .ishr 1 pc') (K : Go x wd Z EL R Q T pc' ls (.int (a >>> (b &&& 31)) :: st)) : Go x wd Z EL R Q T pc ls (.int b :: .int a :: st) := by
  obtain ⟨hd, rfl⟩ := hd
  exact w.go (fun A hx hb t hr => XT.ishr A hx rfl (Jvm.hb hb hd) rfl hr) K
theorem W.irem (w : W x wd l Z EL R own code mx ret nm T h k n sf) {a b : Int32} (hd : Dc code pc .irem 1 pc') (hy : b ≠ 0) (K : Go x wd Z EL R Q T pc' ls (.int (a % b) :: st)) : Go x wd Z EL R Q T pc ls (.int b :: .int a :: st) := by
  obtain ⟨hd, rfl⟩ := hd
  have q : a - a / b * b = a % b := irem_eq_mod a b
  exact w.go (fun A hx hb t hr => XS.irem A hx rfl (Jvm.hb hb hd) rfl hy (by rw [q]; exact hr)) K
theorem W.idiv (w : W x wd l Z EL R own code mx ret nm T h k n sf) {a b : Int32} (hd : Dc code pc .idiv 1 pc') (hy : b ≠ 0) (K : Go x wd Z EL R Q T pc' ls (.int (a / b) :: st)) : Go x wd Z EL R Q T pc ls (.int b :: .int a :: st) := by
  obtain ⟨hd, rfl⟩ := hd
  exact w.go (fun A hx hb t hr => XS.idiv A hx rfl (Jvm.hb hb hd) rfl hy hr) K
theorem W.ineg (w : W x wd l Z EL R own code mx ret nm T h k n sf) {a : Int32} (hd : Dc code pc .ineg 1 pc') (K : Go x wd Z EL R Q T pc' ls (.int (-a) :: st)) : Go x wd Z EL R Q T pc ls (.int a :: st) := by
  obtain ⟨hd, rfl⟩ := hd
  exact w.go (fun A hx hb t hr => XS.ineg A hx rfl (Jvm.hb hb hd) rfl hr) K
theorem W.i2c (w : W x wd l Z EL R own code mx ret nm T h k n sf) {a : Int32} (hd : Dc code pc .i2c 1 pc') (K : Go x wd Z EL R Q T pc' ls (.int (nar .char a) :: st)) : Go x wd Z EL R Q T pc ls (.int a :: st) := by
  obtain ⟨hd, rfl⟩ := hd
  exact w.go (fun A hx hb t hr => XT.i2c A hx rfl (Jvm.hb hb hd) rfl hr) K
theorem W.i2b (w : W x wd l Z EL R own code mx ret nm T h k n sf) {a : Int32} (hd : Dc code pc .i2b 1 pc') (K : Go x wd Z EL R Q T pc' ls (.int (nar .byte a) :: st)) : Go x wd Z EL R Q T pc ls (.int a :: st) := by
  obtain ⟨hd, rfl⟩ := hd
  exact w.go (fun A hx hb t hr => XT.i2b A hx rfl (Jvm.hb hb hd) rfl hr) K
theorem W.i2l (w : W x wd l Z EL R own code mx ret nm T h k n sf) {a : Int32} (hd : Dc code pc .i2l 1 pc') (K : Go x wd Z EL R Q T pc' ls (.long a.toInt64 :: st)) : Go x wd Z EL R Q T pc ls (.int a :: st) := by
  obtain ⟨hd, rfl⟩ := hd
  exact w.go (fun A hx hb t hr => XT.i2l A hx rfl (Jvm.hb hb hd) rfl hr) K
theorem W.l2i (w : W x wd l Z EL R own code mx ret nm T h k n sf) {a : Int64} (hd : Dc code pc .l2i 1 pc') (K : Go x wd Z EL R Q T pc' ls (.int a.toInt32 :: st)) : Go x wd Z EL R Q T pc ls (.long a :: st) := by
  obtain ⟨hd, rfl⟩ := hd
  exact w.go (fun A hx hb t hr => XT.l2i A hx rfl (Jvm.hb hb hd) rfl hr) K
theorem W.ladd (w : W x wd l Z EL R own code mx ret nm T h k n sf) {a b : Int64} (hd : Dc code pc .ladd 1 pc') (K : Go x wd Z EL R Q T pc' ls (.long (a + b) :: st)) : Go x wd Z EL R Q T pc ls (.long b :: .long a :: st) := by
  obtain ⟨hd, rfl⟩ := hd
  exact w.go (fun A hx hb t hr => XT.ladd A hx rfl (Jvm.hb hb hd) rfl hr) K
theorem W.lsub (w : W x wd l Z EL R own code mx ret nm T h k n sf) {a b : Int64} (hd : Dc code pc .lsub 1 pc') (K : Go x wd Z EL R Q T pc' ls (.long (a - b) :: st)) : Go x wd Z EL R Q T pc ls (.long b :: .long a :: st) := by
  obtain ⟨hd, rfl⟩ := hd
  exact w.go (fun A hx hb t hr => XT.lsub A hx rfl (Jvm.hb hb hd) rfl hr) K
theorem W.lmul (w : W x wd l Z EL R own code mx ret nm T h k n sf) {a b : Int64} (hd : Dc code pc .lmul 1 pc') (K : Go x wd Z EL R Q T pc' ls (.long (a * b) :: st)) : Go x wd Z EL R Q T pc ls (.long b :: .long a :: st) := by
  obtain ⟨hd, rfl⟩ := hd
  exact w.go (fun A hx hb t hr => XT.lmul A hx rfl (Jvm.hb hb hd) rfl hr) K
theorem W.land (w : W x wd l Z EL R own code mx ret nm T h k n sf) {a b : Int64} (hd : Dc code pc .land 1 pc') (K : Go x wd Z EL R Q T pc' ls (.long (a &&& b) :: st)) : Go x wd Z EL R Q T pc ls (.long b :: .long a :: st) := by
  obtain ⟨hd, rfl⟩ := hd
  exact w.go (fun A hx hb t hr => XT.land A hx rfl (Jvm.hb hb hd) rfl hr) K
theorem W.lcmp (w : W x wd l Z EL R own code mx ret nm T h k n sf) {a b : Int64} (hd : Dc code pc .lcmp 1 pc') (K : Go x wd Z EL R Q T pc' ls (.int (XT.cmpL a b) :: st)) : Go x wd Z EL R Q T pc ls (.long b :: .long a :: st) := by
  obtain ⟨hd, rfl⟩ := hd
  exact w.go (fun A hx hb t hr => XT.lcmp A hx rfl (Jvm.hb hb hd) rfl hr) K
theorem W.dup (w : W x wd l Z EL R own code mx ret nm T h k n sf) {v : Value} (hd : Dc code pc .dup 1 pc') (hc : v.category = 1) (K : Go x wd Z EL R Q T pc' ls (v :: v :: st)) : Go x wd Z EL R Q T pc ls (v :: st) := by
  obtain ⟨hd, rfl⟩ := hd
  exact w.go (fun A hx hb t hr => XS.dup A hx rfl (Jvm.hb hb hd) rfl hc hr) K
theorem W.dupX1 (w : W x wd l Z EL R own code mx ret nm T h k n sf) {v u : Value} (hd : Dc code pc .dup_x1 1 pc') (hc : v.category = 1) (hc' : u.category = 1) (K : Go x wd Z EL R Q T pc' ls (v :: u :: v :: st)) : Go x wd Z EL R Q T pc ls (v :: u :: st) := by
  obtain ⟨hd, rfl⟩ := hd
  exact w.go (fun A hx hb t hr => XT.dupX1 A hx rfl (Jvm.hb hb hd) rfl hc hc' hr) K
theorem W.dup2 (w : W x wd l Z EL R own code mx ret nm T h k n sf) {v u : Value} (hd : Dc code pc .dup2 1 pc') (hc : v.category = 1) (hc' : u.category = 1) (K : Go x wd Z EL R Q T pc' ls (v :: u :: v :: u :: st)) : Go x wd Z EL R Q T pc ls (v :: u :: st) := by
  obtain ⟨hd, rfl⟩ := hd
  exact w.go (fun A hx hb t hr => XT.dup2 A hx rfl (Jvm.hb hb hd) rfl hc hc' hr) K
theorem W.pop (w : W x wd l Z EL R own code mx ret nm T h k n sf) {v : Value} (hd : Dc code pc .pop 1 pc') (hc : v.category = 1) (K : Go x wd Z EL R Q T pc' ls st) : Go x wd Z EL R Q T pc ls (v :: st) := by
  obtain ⟨hd, rfl⟩ := hd
  exact w.go (fun A hx hb t hr => XT.pop A hx rfl (Jvm.hb hb hd) rfl hc hr) K
theorem W.istoreN (w : W x wd l Z EL R own code mx ret nm T h k n sf) {i : Fin 4} {v : Int32} (ls' : Array Slot) (hd : Dc code pc (.istore_n i) 1 pc') (hl : storeLocals ls i.val (.int v) = some ls') (K : Go x wd Z EL R Q T pc' ls' st) : Go x wd Z EL R Q T pc ls (.int v :: st) := by
  obtain ⟨hd, rfl⟩ := hd
  exact w.go (fun A hx hb t hr => XS.istoreN A hx rfl (Jvm.hb hb hd) rfl hl hr) K
theorem W.istore (w : W x wd l Z EL R own code mx ret nm T h k n sf) {i : Nat} {v : Int32} (ls' : Array Slot) (hd : Dc code pc (.istore i) 2 pc') (hl : storeLocals ls i (.int v) = some ls') (K : Go x wd Z EL R Q T pc' ls' st) : Go x wd Z EL R Q T pc ls (.int v :: st) := by
  obtain ⟨hd, rfl⟩ := hd
  exact w.go (fun A hx hb t hr => XS.istore A hx rfl (Jvm.hb hb hd) rfl hl hr) K
theorem W.lstoreN (w : W x wd l Z EL R own code mx ret nm T h k n sf) {i : Fin 4} {v : Int64} (ls' : Array Slot) (hd : Dc code pc (.lstore_n i) 1 pc') (hl : storeLocals ls i.val (.long v) = some ls') (K : Go x wd Z EL R Q T pc' ls' st) : Go x wd Z EL R Q T pc ls (.long v :: st) := by
  obtain ⟨hd, rfl⟩ := hd
  exact w.go (fun A hx hb t hr => XT.lstoreN A hx rfl (Jvm.hb hb hd) rfl hl hr) K
theorem W.astoreN (w : W x wd l Z EL R own code mx ret nm T h k n sf) {i : Fin 4} {v : Value} (ls' : Array Slot) (hd : Dc code pc (.astore_n i) 1 pc') (hv : v.isRef = true) (hl : storeLocals ls i.val v = some ls') (K : Go x wd Z EL R Q T pc' ls' st) : Go x wd Z EL R Q T pc ls (v :: st) := by
  obtain ⟨hd, rfl⟩ := hd
  exact w.go (fun A hx hb t hr => XS.astoreN A hx rfl (Jvm.hb hb hd) rfl hv hl hr) K
theorem W.astore (w : W x wd l Z EL R own code mx ret nm T h k n sf) {i : Nat} {v : Value} (ls' : Array Slot) (hd : Dc code pc (.astore i) 2 pc') (hv : v.isRef = true) (hl : storeLocals ls i v = some ls') (K : Go x wd Z EL R Q T pc' ls' st) : Go x wd Z EL R Q T pc ls (v :: st) := by
  obtain ⟨hd, rfl⟩ := hd
  exact w.go (fun A hx hb t hr => XS.astore A hx rfl (Jvm.hb hb hd) rfl hv hl hr) K
theorem W.iinc (w : W x wd l Z EL R own code mx ret nm T h k n sf) {i : Nat} {c : Int} {a : Int32} (v : Int32) (ls' : Array Slot) (hd : Dc code pc (.iinc i c) 3 pc') (hv : Int32.ofInt c = v) (hl : ls[i]? = some (.val (.int a))) (hl' : storeLocals ls i (.int (a + v)) = some ls') (K : Go x wd Z EL R Q T pc' ls' st) : Go x wd Z EL R Q T pc ls st := by
  obtain ⟨hd, rfl⟩ := hd
  exact w.go (fun A hx hb t hr => XT.iincV A hx rfl v (Jvm.hb hb hd) hv hl hl' hr) K
theorem W.goto (w : W x wd l Z EL R own code mx ret nm T h k n sf) {o : Int} (hd : Dc code pc (.goto o) 3 pc') (ht : Tg pc o pcT) (K : Go x wd Z EL R Q T pcT ls st) : Go x wd Z EL R Q T pc ls st := by
  obtain ⟨hd, rfl⟩ := hd
  exact w.go (fun A hx hb t hr => XS.goto A hx rfl (pc0 := pc) (pc' := pcT) rfl (Jvm.hb hb hd) ht.1 ht.2 hr) K
theorem W.ifEq (w : W x wd l Z EL R own code mx ret nm T h k n sf) {a : Int32} {o : Int} (hd : Dc code pc (.ifCond .eq o) 3 pc') (ht : Tg pc o pcT) (K1 : a = 0 → Go x wd Z EL R Q T pcT ls st) (K2 : (¬ a = 0) → Go x wd Z EL R Q T pc' ls st) : Go x wd Z EL R Q T pc ls (.int a :: st) := by
  obtain ⟨hd, rfl⟩ := hd
  by_cases q : a = 0
  · exact w.go (fun A hx hb t hr => XS.ifYes A hx rfl (pc0 := pc) (pc' := pcT) rfl (Jvm.hb hb hd) rfl (XT.i0_eq_t q) ht.1 ht.2 hr) (K1 q)
  · exact w.go (fun A hx hb t hr => XS.ifNo A hx rfl (Jvm.hb hb hd) rfl (XT.i0_eq_f q) hr) (K2 q)
theorem W.ifNe (w : W x wd l Z EL R own code mx ret nm T h k n sf) {a : Int32} {o : Int} (hd : Dc code pc (.ifCond .ne o) 3 pc') (ht : Tg pc o pcT) (K1 : (¬ a = 0) → Go x wd Z EL R Q T pcT ls st) (K2 : (a = 0) → Go x wd Z EL R Q T pc' ls st) : Go x wd Z EL R Q T pc ls (.int a :: st) := by
  obtain ⟨hd, rfl⟩ := hd
  by_cases q : a = 0
  · exact w.go (fun A hx hb t hr => XS.ifNo A hx rfl (Jvm.hb hb hd) rfl (XT.i0_ne_f q) hr) (K2 q)
  · exact w.go (fun A hx hb t hr => XS.ifYes A hx rfl (pc0 := pc) (pc' := pcT) rfl (Jvm.hb hb hd) rfl (XT.i0_ne_t q) ht.1 ht.2 hr) (K1 q)
theorem W.ifLt (w : W x wd l Z EL R own code mx ret nm T h k n sf) {a : Int32} {o : Int} (hd : Dc code pc (.ifCond .lt o) 3 pc') (ht : Tg pc o pcT) (K1 : a < 0 → Go x wd Z EL R Q T pcT ls st) (K2 : (¬ a < 0) → Go x wd Z EL R Q T pc' ls st) : Go x wd Z EL R Q T pc ls (.int a :: st) := by
  obtain ⟨hd, rfl⟩ := hd
  by_cases q : a < 0
  · exact w.go (fun A hx hb t hr => XS.ifYes A hx rfl (pc0 := pc) (pc' := pcT) rfl (Jvm.hb hb hd) rfl (XT.i0_lt_t q) ht.1 ht.2 hr) (K1 q)
  · exact w.go (fun A hx hb t hr => XS.ifNo A hx rfl (Jvm.hb hb hd) rfl (XT.i0_lt_f q) hr) (K2 q)
theorem W.ifGe (w : W x wd l Z EL R own code mx ret nm T h k n sf) {a : Int32} {o : Int} (hd : Dc code pc (.ifCond .ge o) 3 pc') (ht : Tg pc o pcT) (K1 : (¬ a < 0) → Go x wd Z EL R Q T pcT ls st) (K2 : (a < 0) → Go x wd Z EL R Q T pc' ls st) : Go x wd Z EL R Q T pc ls (.int a :: st) := by
  obtain ⟨hd, rfl⟩ := hd
  by_cases q : a < 0
  · exact w.go (fun A hx hb t hr => XS.ifNo A hx rfl (Jvm.hb hb hd) rfl (XT.i0_ge_f q) hr) (K2 q)
  · exact w.go (fun A hx hb t hr => XS.ifYes A hx rfl (pc0 := pc) (pc' := pcT) rfl (Jvm.hb hb hd) rfl (XT.i0_ge_t q) ht.1 ht.2 hr) (K1 q)
theorem W.ifGt (w : W x wd l Z EL R own code mx ret nm T h k n sf) {a : Int32} {o : Int} (hd : Dc code pc (.ifCond .gt o) 3 pc') (ht : Tg pc o pcT) (K1 : 0 < a → Go x wd Z EL R Q T pcT ls st) (K2 : (¬ 0 < a) → Go x wd Z EL R Q T pc' ls st) : Go x wd Z EL R Q T pc ls (.int a :: st) := by
  obtain ⟨hd, rfl⟩ := hd
  by_cases q : 0 < a
  · exact w.go (fun A hx hb t hr => XS.ifYes A hx rfl (pc0 := pc) (pc' := pcT) rfl (Jvm.hb hb hd) rfl (XT.i0_gt_t q) ht.1 ht.2 hr) (K1 q)
  · exact w.go (fun A hx hb t hr => XS.ifNo A hx rfl (Jvm.hb hb hd) rfl (XT.i0_gt_f q) hr) (K2 q)
theorem W.ifLe (w : W x wd l Z EL R own code mx ret nm T h k n sf) {a : Int32} {o : Int} (hd : Dc code pc (.ifCond .le o) 3 pc') (ht : Tg pc o pcT) (K1 : (¬ 0 < a) → Go x wd Z EL R Q T pcT ls st) (K2 : (0 < a) → Go x wd Z EL R Q T pc' ls st) : Go x wd Z EL R Q T pc ls (.int a :: st) := by
  obtain ⟨hd, rfl⟩ := hd
  by_cases q : 0 < a
  · exact w.go (fun A hx hb t hr => XS.ifNo A hx rfl (Jvm.hb hb hd) rfl (XT.i0_le_f q) hr) (K2 q)
  · exact w.go (fun A hx hb t hr => XS.ifYes A hx rfl (pc0 := pc) (pc' := pcT) rfl (Jvm.hb hb hd) rfl (XT.i0_le_t q) ht.1 ht.2 hr) (K1 q)
theorem W.icmpEq (w : W x wd l Z EL R own code mx ret nm T h k n sf) {a b : Int32} {o : Int} (hd : Dc code pc (.if_icmp .eq o) 3 pc') (ht : Tg pc o pcT) (K1 : a = b → Go x wd Z EL R Q T pcT ls st) (K2 : (¬ a = b) → Go x wd Z EL R Q T pc' ls st) : Go x wd Z EL R Q T pc ls (.int b :: .int a :: st) := by
  obtain ⟨hd, rfl⟩ := hd
  by_cases q : a = b
  · exact w.go (fun A hx hb t hr => XS.icmpYes A hx rfl (pc0 := pc) (pc' := pcT) rfl (Jvm.hb hb hd) rfl (XT.ii_eq_t q) ht.1 ht.2 hr) (K1 q)
  · exact w.go (fun A hx hb t hr => XS.icmpNo A hx rfl (Jvm.hb hb hd) rfl (XT.ii_eq_f q) hr) (K2 q)
theorem W.icmpNe (w : W x wd l Z EL R own code mx ret nm T h k n sf) {a b : Int32} {o : Int} (hd : Dc code pc (.if_icmp .ne o) 3 pc') (ht : Tg pc o pcT) (K1 : (¬ a = b) → Go x wd Z EL R Q T pcT ls st) (K2 : (a = b) → Go x wd Z EL R Q T pc' ls st) : Go x wd Z EL R Q T pc ls (.int b :: .int a :: st) := by
  obtain ⟨hd, rfl⟩ := hd
  by_cases q : a = b
  · exact w.go (fun A hx hb t hr => XS.icmpNo A hx rfl (Jvm.hb hb hd) rfl (XT.ii_ne_f q) hr) (K2 q)
  · exact w.go (fun A hx hb t hr => XS.icmpYes A hx rfl (pc0 := pc) (pc' := pcT) rfl (Jvm.hb hb hd) rfl (XT.ii_ne_t q) ht.1 ht.2 hr) (K1 q)
theorem W.icmpLt (w : W x wd l Z EL R own code mx ret nm T h k n sf) {a b : Int32} {o : Int} (hd : Dc code pc (.if_icmp .lt o) 3 pc') (ht : Tg pc o pcT) (K1 : a < b → Go x wd Z EL R Q T pcT ls st) (K2 : (¬ a < b) → Go x wd Z EL R Q T pc' ls st) : Go x wd Z EL R Q T pc ls (.int b :: .int a :: st) := by
  obtain ⟨hd, rfl⟩ := hd
  by_cases q : a < b
  · exact w.go (fun A hx hb t hr => XS.icmpYes A hx rfl (pc0 := pc) (pc' := pcT) rfl (Jvm.hb hb hd) rfl (XT.ii_lt_t q) ht.1 ht.2 hr) (K1 q)
  · exact w.go (fun A hx hb t hr => XS.icmpNo A hx rfl (Jvm.hb hb hd) rfl (XT.ii_lt_f q) hr) (K2 q)
theorem W.icmpGe (w : W x wd l Z EL R own code mx ret nm T h k n sf) {a b : Int32} {o : Int} (hd : Dc code pc (.if_icmp .ge o) 3 pc') (ht : Tg pc o pcT) (K1 : (¬ a < b) → Go x wd Z EL R Q T pcT ls st) (K2 : (a < b) → Go x wd Z EL R Q T pc' ls st) : Go x wd Z EL R Q T pc ls (.int b :: .int a :: st) := by
  obtain ⟨hd, rfl⟩ := hd
  by_cases q : a < b
  · exact w.go (fun A hx hb t hr => XS.icmpNo A hx rfl (Jvm.hb hb hd) rfl (XT.ii_ge_f q) hr) (K2 q)
  · exact w.go (fun A hx hb t hr => XS.icmpYes A hx rfl (pc0 := pc) (pc' := pcT) rfl (Jvm.hb hb hd) rfl (XT.ii_ge_t q) ht.1 ht.2 hr) (K1 q)
theorem W.icmpGt (w : W x wd l Z EL R own code mx ret nm T h k n sf) {a b : Int32} {o : Int} (hd : Dc code pc (.if_icmp .gt o) 3 pc') (ht : Tg pc o pcT) (K1 : b < a → Go x wd Z EL R Q T pcT ls st) (K2 : (¬ b < a) → Go x wd Z EL R Q T pc' ls st) : Go x wd Z EL R Q T pc ls (.int b :: .int a :: st) := by
  obtain ⟨hd, rfl⟩ := hd
  by_cases q : b < a
  · exact w.go (fun A hx hb t hr => XS.icmpYes A hx rfl (pc0 := pc) (pc' := pcT) rfl (Jvm.hb hb hd) rfl (XT.ii_gt_t q) ht.1 ht.2 hr) (K1 q)
  · exact w.go (fun A hx hb t hr => XS.icmpNo A hx rfl (Jvm.hb hb hd) rfl (XT.ii_gt_f q) hr) (K2 q)
theorem W.icmpLe (w : W x wd l Z EL R own code mx ret nm T h k n sf) {a b : Int32} {o : Int} (hd : Dc code pc (.if_icmp .le o) 3 pc') (ht : Tg pc o pcT) (K1 : (¬ b < a) → Go x wd Z EL R Q T pcT ls st) (K2 : (b < a) → Go x wd Z EL R Q T pc' ls st) : Go x wd Z EL R Q T pc ls (.int b :: .int a :: st) := by
  obtain ⟨hd, rfl⟩ := hd
  by_cases q : b < a
  · exact w.go (fun A hx hb t hr => XS.icmpNo A hx rfl (Jvm.hb hb hd) rfl (XT.ii_le_f q) hr) (K2 q)
  · exact w.go (fun A hx hb t hr => XS.icmpYes A hx rfl (pc0 := pc) (pc' := pcT) rfl (Jvm.hb hb hd) rfl (XT.ii_le_t q) ht.1 ht.2 hr) (K1 q)
theorem W.acmpEq (w : W x wd l Z EL R own code mx ret nm T h k n sf) {a b : Value} {o : Int} (hd : Dc code pc (.if_acmp .eq o) 3 pc') (ht : Tg pc o pcT) (h1 : a.isRef = true) (h2 : b.isRef = true) (K1 : a = b → Go x wd Z EL R Q T pcT ls st) (K2 : (¬ a = b) → Go x wd Z EL R Q T pc' ls st) : Go x wd Z EL R Q T pc ls (b :: a :: st) := by
  obtain ⟨hd, rfl⟩ := hd
  by_cases q : a = b
  · exact w.go (fun A hx hb t hr => XT.acmpYes A hx rfl (pc0 := pc) (pc' := pcT) rfl (Jvm.hb hb hd) rfl h1 h2 (XT.aa_eq_t q) ht.1 ht.2 hr) (K1 q)
  · exact w.go (fun A hx hb t hr => XT.acmpNo A hx rfl (Jvm.hb hb hd) rfl h1 h2 (XT.aa_eq_f q) hr) (K2 q)
theorem W.acmpNe (w : W x wd l Z EL R own code mx ret nm T h k n sf) {a b : Value} {o : Int} (hd : Dc code pc (.if_acmp .ne o) 3 pc') (ht : Tg pc o pcT) (h1 : a.isRef = true) (h2 : b.isRef = true) (K1 : (¬ a = b) → Go x wd Z EL R Q T pcT ls st) (K2 : (a = b) → Go x wd Z EL R Q T pc' ls st) : Go x wd Z EL R Q T pc ls (b :: a :: st) := by
  obtain ⟨hd, rfl⟩ := hd
  by_cases q : a = b
  · exact w.go (fun A hx hb t hr => XT.acmpNo A hx rfl (Jvm.hb hb hd) rfl h1 h2 (XT.aa_ne_f q) hr) (K2 q)
  · exact w.go (fun A hx hb t hr => XT.acmpYes A hx rfl (pc0 := pc) (pc' := pcT) rfl (Jvm.hb hb hd) rfl h1 h2 (XT.aa_ne_t q) ht.1 ht.2 hr) (K1 q)
theorem W.racmpEq (w : W x wd l Z EL R own code mx ret nm T h k n sf) {a b : Addr} {o : Int} (hd : Dc code pc (.if_acmp .eq o) 3 pc') (ht : Tg pc o pcT) (K1 : a = b → Go x wd Z EL R Q T pcT ls st) (K2 : ¬ a = b → Go x wd Z EL R Q T pc' ls st) : Go x wd Z EL R Q T pc ls (.ref b :: .ref a :: st) := w.acmpEq hd ht rfl rfl (fun q => K1 (Value.ref.inj q)) (fun q => K2 fun e => q (congrArg _ e))
theorem W.racmpNe (w : W x wd l Z EL R own code mx ret nm T h k n sf) {a b : Addr} {o : Int} (hd : Dc code pc (.if_acmp .ne o) 3 pc') (ht : Tg pc o pcT) (K1 : ¬ a = b → Go x wd Z EL R Q T pcT ls st) (K2 : a = b → Go x wd Z EL R Q T pc' ls st) : Go x wd Z EL R Q T pc ls (.ref b :: .ref a :: st) := w.acmpNe hd ht rfl rfl (fun q => K1 fun e => q (congrArg _ e)) (fun q => K2 (Value.ref.inj q))
theorem W.nullT (w : W x wd l Z EL R own code mx ret nm T h k n sf) {o : Int} (hd : Dc code pc (.ifnull o) 3 pc') (ht : Tg pc o pcT) (K : Go x wd Z EL R Q T pcT ls st) : Go x wd Z EL R Q T pc ls (.null :: st) := by
  obtain ⟨hd, rfl⟩ := hd
  exact w.go (fun A hx hb t hr => XS.ifnullYes A hx rfl (pc0 := pc) (pc' := pcT) rfl (Jvm.hb hb hd) rfl ht.1 ht.2 hr) K
theorem W.nullF (w : W x wd l Z EL R own code mx ret nm T h k n sf) {o : Int} {a : Addr} (hd : Dc code pc (.ifnull o) 3 pc') (K : Go x wd Z EL R Q T pc' ls st) : Go x wd Z EL R Q T pc ls (.ref a :: st) := by
  obtain ⟨hd, rfl⟩ := hd
  exact w.go (fun A hx hb t hr => XS.ifnullNo A hx rfl (Jvm.hb hb hd) rfl hr) K
theorem W.nonnullT (w : W x wd l Z EL R own code mx ret nm T h k n sf) {o : Int} {a : Addr} (hd : Dc code pc (.ifnonnull o) 3 pc') (ht : Tg pc o pcT) (K : Go x wd Z EL R Q T pcT ls st) : Go x wd Z EL R Q T pc ls (.ref a :: st) := by
  obtain ⟨hd, rfl⟩ := hd
  exact w.go (fun A hx hb t hr => XT.ifnonnullYes A hx rfl (pc0 := pc) (pc' := pcT) rfl (Jvm.hb hb hd) rfl ht.1 ht.2 hr) K
theorem W.nonnullF (w : W x wd l Z EL R own code mx ret nm T h k n sf) {o : Int} (hd : Dc code pc (.ifnonnull o) 3 pc') (K : Go x wd Z EL R Q T pc' ls st) : Go x wd Z EL R Q T pc ls (.null :: st) := by
  obtain ⟨hd, rfl⟩ := hd
  exact w.go (fun A hx hb t hr => XT.ifnonnullNo A hx rfl (Jvm.hb hb hd) rfl hr) K
theorem W.ldcI (w : W x wd l Z EL R own code mx ret nm T h k n sf) {i : Nat} {v : Int32} (hd : Dc code pc (.ldc i) 2 pc') (wc : (Jvm.Cond.constant own i v).before a0 Z = true) (K : Go x wd Z EL R Q T pc' ls (.int v :: st)) : Go x wd Z EL R Q T pc ls st := by
  obtain ⟨hd, rfl⟩ := hd
  obtain ⟨hx, hb, hm, hr, hn, hl, e0, E, c1, c2, hs, hEL, L, vm0, N, g, X, S, hZ, ho, hC⟩ := w
  obtain ⟨s₂, o, a1, r⟩ := K
  exact ⟨s₂, o, X.ldcI hx ho (mv (s := x.s.setVm vm0) hZ wc) rfl (Jvm.hb hb hd) a1, r⟩
theorem W.ldcWI (w : W x wd l Z EL R own code mx ret nm T h k n sf) {i : Nat} {v : Int32} (hd : Dc code pc (.ldc_w i) 3 pc') (wc : (Jvm.Cond.constant own i v).before a0 Z = true) (K : Go x wd Z EL R Q T pc' ls (.int v :: st)) : Go x wd Z EL R Q T pc ls st := by
  obtain ⟨hd, rfl⟩ := hd
  obtain ⟨hx, hb, hm, hr, hn, hl, e0, E, c1, c2, hs, hEL, L, vm0, N, g, X, S, hZ, ho, hC⟩ := w
  obtain ⟨s₂, o, a1, r⟩ := K
  exact ⟨s₂, o, X.ldcWI hx ho (mv (s := x.s.setVm vm0) hZ wc) rfl (Jvm.hb hb hd) a1, r⟩
theorem W.getS (w : W x wd l Z EL R own code mx ret nm T h k n sf) {i : Nat} {O f d : String} {v : Value} (hd : Dc code pc (.getstatic i) 3 pc') (wl : (Jvm.Cond.fieldLink own i O f d).before a0 Z = true) (F : Sta Z Z.heap O f d v) (K : ∀ T', W x wd l Z EL R own code mx ret nm T' h k n sf → Go x wd Z EL R Q T' pc' ls (v :: st)) : Go x wd Z EL R Q T pc ls st := by
  obtain ⟨hd, rfl⟩ := hd
  exact w.goT (fun s0 L X hx hZ ho hb hm e0 => RoadKit.getS (host := "") X hx hZ ho wl Via.refl e0 (w.sta F) (g := mkF x.m pc ls st) rfl (Jvm.hb hb hd)) K
theorem W.getF (w : W x wd l Z EL R own code mx ret nm T h k n sf) {i : Nat} {a : Addr} {O f d : String} {v : Value} (hd : Dc code pc (.getfield i) 3 pc') (wl : (Jvm.Cond.fieldLink own i O f d).before a0 Z = true) (F : Fld Z h a O f d v) (K : ∀ T', W x wd l Z EL R own code mx ret nm T' h k n sf → Go x wd Z EL R Q T' pc' ls (v :: st)) : Go x wd Z EL R Q T pc ls (.ref a :: st) := by
  obtain ⟨hd, rfl⟩ := hd
  exact w.goT (fun s0 L X hx hZ ho hb hm e0 => RoadKit.getF (host := "") X hx hZ ho (Or.inl wl) Via.refl e0 F (g := mkF x.m pc ls (.ref a :: st)) rfl rfl (Jvm.hb hb hd)) K
theorem W.cast (w : W x wd l Z EL R own code mx ret nm T h k n sf) {i : Nat} {a : Addr} {C : String} (hd : Dc code pc (.checkcast i) 3 pc') (wl : (Jvm.Cond.classLink own i C).before a0 Z = true) (F : Ins Z h a C true) (K : ∀ T', W x wd l Z EL R own code mx ret nm T' h k n sf → Go x wd Z EL R Q T' pc' ls (.ref a :: st)) : Go x wd Z EL R Q T pc ls (.ref a :: st) := by
  obtain ⟨hd, rfl⟩ := hd
  exact w.goT (fun s0 L X hx hZ ho hb hm e0 => castY X hx hZ ho wl e0 F (g := mkF x.m pc ls (.ref a :: st)) rfl rfl (Jvm.hb hb hd)) K
theorem W.instY (w : W x wd l Z EL R own code mx ret nm T h k n sf) {i : Nat} {a : Addr} {C : String} (hd : Dc code pc (.instanceof i) 3 pc') (wl : (Jvm.Cond.classLink own i C).before a0 Z = true) (F : Ins Z h a C true) (K : ∀ T', W x wd l Z EL R own code mx ret nm T' h k n sf → Go x wd Z EL R Q T' pc' ls (.int 1 :: st)) : Go x wd Z EL R Q T pc ls (.ref a :: st) := by
  obtain ⟨hd, rfl⟩ := hd
  exact w.goT (fun s0 L X hx hZ ho hb hm e0 => RoadKit.instY X hx hZ ho wl e0 F (g := mkF x.m pc ls (.ref a :: st)) rfl rfl (Jvm.hb hb hd)) K
theorem W.initO (w : W x wd l Z EL R own code mx ret nm T h k n sf) {i : Nat} {a : Addr} (Wn : Nat) (hd : Dc code pc (.invokespecial i) 3 pc') (w1 : (Jvm.Cond.methodLink own i Lib.objectInit).before a0 Z = true) (w2 : (Jvm.Cond.instanceMethod Lib.objectInit).before a0 Z = true) (w3 : (Jvm.Cond.code Lib.objectInit ⟨#[0xb1]⟩ 1 none).before a0 Z = true) (hz : ls.size = mx) (hW : (st.map fun v => v.category).sum ≤ Wn) (hr : 1 ≤ R.frames ∧ Wn + 12 ≤ R.locals) (K : ∀ T', W x wd l Z EL R own code mx ret nm T' h k n sf → Go x wd Z EL R Q T' pc' ls st) : Go x wd Z EL R Q T pc ls (.ref a :: st) := by
  obtain ⟨hd, rfl⟩ := hd
  exact w.goT (fun s0 L X hx hZ ho hb hm e0 => RoadKit.initO X hx hZ ho w1 w2 w3 e0 (g := mkF x.m pc ls (.ref a :: st)) rfl (hz.trans hm.symm) rfl (Jvm.hb hb hd) hr.1 (W := Wn) (by show 2 * 0 + _ ≤ _; omega) hr.2) K
theorem W.alen (w : W x wd l Z EL R own code mx ret nm T h k n sf) {a : Addr} {cl : Cell} {ty : FieldType} (v : Int32) (hd : Dc code pc .arraylength 1 pc') (A : Arr Z h a cl ty) (hv : cl.slots.size.toInt32 = v) (K : Go x wd Z EL R Q T pc' ls (.int v :: st)) : Go x wd Z EL R Q T pc ls (.ref a :: st) := by
  obtain ⟨hd, rfl⟩ := hd
  subst hv
  obtain ⟨hx, hb, hm, hr, hn, hl, e0, E, c1, c2, hs, hEL, L, vm0, N, g, X, S, hZ, ho, hC⟩ := w
  obtain ⟨s₂, o, a1, r⟩ := K
  exact ⟨s₂, o, X.arraylength hx (by rw [e0]; exact A.1) (State.isArrayOf_alike (T := x.s.setVm vm0) hZ.alike A.2.1) (g := mkF x.m pc ls (.ref a :: st)) rfl rfl (Jvm.hb hb hd) _ a1, r⟩
theorem W.iaload (w : W x wd l Z EL R own code mx ret nm T h k n sf) {a : Addr} {cl : Cell} {j : Int32} {v : Value} (hd : Dc code pc .iaload 1 pc') (A : Arr Z h a cl .int) (hj : ¬ (j < 0 ∨ cl.slots.size ≤ j.toNatClampNeg)) (hv : cl.slots[j.toNatClampNeg]? = some v) (K : Go x wd Z EL R Q T pc' ls (v :: st)) : Go x wd Z EL R Q T pc ls (.int j :: .ref a :: st) := by
  obtain ⟨hd, rfl⟩ := hd
  obtain ⟨hx, hb, hm, hr, hn, hl, e0, E, c1, c2, hs, hEL, L, vm0, N, g, X, S, hZ, ho, hC⟩ := w
  obtain ⟨s₂, o, a1, r⟩ := K
  exact ⟨s₂, o, X.iaload hx (by rw [e0]; exact A.1) (State.isArrayOf_alike (T := x.s.setVm vm0) hZ.alike A.2.1) A.2.2 hj hv (g := mkF x.m pc ls (.int j :: .ref a :: st)) rfl rfl (Jvm.hb hb hd) _ a1, r⟩
theorem W.caload (w : W x wd l Z EL R own code mx ret nm T h k n sf) {a : Addr} {cl : Cell} {j : Int32} {v : Value} (hd : Dc code pc .caload 1 pc') (A : Arr Z h a cl .char) (hj : ¬ (j < 0 ∨ cl.slots.size ≤ j.toNatClampNeg)) (hv : cl.slots[j.toNatClampNeg]? = some v) (K : Go x wd Z EL R Q T pc' ls (v :: st)) : Go x wd Z EL R Q T pc ls (.int j :: .ref a :: st) := by
  obtain ⟨hd, rfl⟩ := hd
  obtain ⟨hx, hb, hm, hr, hn, hl, e0, E, c1, c2, hs, hEL, L, vm0, N, g, X, S, hZ, ho, hC⟩ := w
  obtain ⟨s₂, o, a1, r⟩ := K
  exact ⟨s₂, o, X.caload hx (by rw [e0]; exact A.1) (State.isArrayOf_alike (T := x.s.setVm vm0) hZ.alike A.2.1) A.2.2 hj hv (g := mkF x.m pc ls (.int j :: .ref a :: st)) rfl rfl (Jvm.hb hb hd) _ a1, r⟩
theorem W.baload (w : W x wd l Z EL R own code mx ret nm T h k n sf) {a : Addr} {cl : Cell} {j : Int32} {v : Value} (hd : Dc code pc .baload 1 pc') (A : Arr Z h a cl .byte) (hj : ¬ (j < 0 ∨ cl.slots.size ≤ j.toNatClampNeg)) (hv : cl.slots[j.toNatClampNeg]? = some v) (K : Go x wd Z EL R Q T pc' ls (v :: st)) : Go x wd Z EL R Q T pc ls (.int j :: .ref a :: st) := by
  obtain ⟨hd, rfl⟩ := hd
  obtain ⟨hx, hb, hm, hr, hn, hl, e0, E, c1, c2, hs, hEL, L, vm0, N, g, X, S, hZ, ho, hC⟩ := w
  obtain ⟨s₂, o, a1, r⟩ := K
  exact ⟨s₂, o, X.baloadBytes hx (by rw [e0]; exact A.1) (State.isArrayOf_alike (T := x.s.setVm vm0) hZ.alike A.2.1) A.2.2 hj hv (g := mkF x.m pc ls (.int j :: .ref a :: st)) rfl rfl (Jvm.hb hb hd) _ a1, r⟩
theorem W.laload (w : W x wd l Z EL R own code mx ret nm T h k n sf) {a : Addr} {cl : Cell} {j : Int32} {v : Value} (hd : Dc code pc .laload 1 pc') (A : Arr Z h a cl .long) (hj : ¬ (j < 0 ∨ cl.slots.size ≤ j.toNatClampNeg)) (hv : cl.slots[j.toNatClampNeg]? = some v) (K : Go x wd Z EL R Q T pc' ls (v :: st)) : Go x wd Z EL R Q T pc ls (.int j :: .ref a :: st) := by
  obtain ⟨hd, rfl⟩ := hd
  obtain ⟨hx, hb, hm, hr, hn, hl, e0, E, c1, c2, hs, hEL, L, vm0, N, g, X, S, hZ, ho, hC⟩ := w
  obtain ⟨s₂, o, a1, r⟩ := K
  exact ⟨s₂, o, X.laload hx (by rw [e0]; exact A.1) (State.isArrayOf_alike (T := x.s.setVm vm0) hZ.alike A.2.1) A.2.2 hj hv (g := mkF x.m pc ls (.int j :: .ref a :: st)) rfl rfl (Jvm.hb hb hd) _ a1, r⟩
theorem W.aaload (w : W x wd l Z EL R own code mx ret nm T h k n sf) {a : Addr} {cl : Cell} {j : Int32} {v : Value} {ty : FieldType} (hd : Dc code pc .aaload 1 pc') (A : Arr Z h a cl ty) (hty : ty.isReference = true) (hj : ¬ (j < 0 ∨ cl.slots.size ≤ j.toNatClampNeg)) (hv : cl.slots[j.toNatClampNeg]? = some v) (K : Go x wd Z EL R Q T pc' ls (v :: st)) : Go x wd Z EL R Q T pc ls (.int j :: .ref a :: st) := by
  obtain ⟨hd, rfl⟩ := hd
  obtain ⟨hx, hb, hm, hr, hn, hl, e0, E, c1, c2, hs, hEL, L, vm0, N, g, X, S, hZ, ho, hC⟩ := w
  obtain ⟨s₂, o, a1, r⟩ := K
  exact ⟨s₂, o, X.aaload hx (by rw [e0]; exact A.1) (State.isArrayOf_alike (T := x.s.setVm vm0) hZ.alike A.2.1) hty A.2.2 hj hv (g := mkF x.m pc ls (.int j :: .ref a :: st)) rfl rfl (Jvm.hb hb hd) _ a1, r⟩
theorem W.new (w : W x wd l Z EL R own code mx ret nm T h k n sf) {i nf : Nat} {C : String} (hd : Dc code pc (.new i) 3 pc') (w1 : (Jvm.Cond.classLink own i C).before a0 Z = true) (w2 : (Jvm.Cond.instantiable C nf).before a0 Z = true) (w3 : (Jvm.Cond.initialized C).before a0 Z = true) (hr : k + 1 ≤ R.cells ∧ n + nf ≤ R.slots) (K : ∀ (a : Addr) T' h', a = h.size → W x wd l Z EL R own code mx ret nm T' h' (k + 1) (n + nf) (a :: sf) → Ext h h' → Exa Z h' a C → (∀ {O f d : String} {ty : FieldType}, Laid Z a0 C O f d → parseFieldDescriptor d = some ty → Fld Z h' a O f d (defaultValue ty)) → Go x wd Z EL R Q T' (pc') ls (.ref a :: st)) : Go x wd Z EL R Q T pc ls st := by
  obtain ⟨hd, rfl⟩ := hd
  refine w.goN (P := fun h' => Exa Z h' h.size C ∧ (∀ {O f d : String} {ty : FieldType}, Laid Z a0 C O f d → parseFieldDescriptor d = some ty → Fld Z h' h.size O f d (defaultValue ty))) hr.1 hr.2 (fun s0 L X hx hZ ho hb hm e0 => ?_) (fun T' h' w' E P => K h.size T' h' rfl w' E P.1 P.2)
  obtain ⟨T', h', X', e', E', A, D, -, stp⟩ := newO X hx hZ ho w1 w2 w3 e0 (g := mkF x.m pc ls st) rfl (Jvm.hb hb hd) hr.1 hr.2
  exact ⟨T', h', X', e', E', A.lt, ⟨A, D⟩, stp⟩
theorem W.newP (w : W x wd l Z EL R own code mx ret nm T h k n sf) {aty : ArrayType} {z : Int32} (cap : Nat) (ad : String) (hd : Dc code pc (.newarray aty) 2 pc') (w1 : (Jvm.Cond.arrayClass (newarray.typeOf aty)).before a0 Z = true) (hz : ¬ z < 0) (hcap : z.toNatClampNeg ≤ cap) (hbig : cap * 8 ≤ 536870912) (had : "[" ++ (newarray.typeOf aty).toString = ad) (hr : k + 1 ≤ R.cells ∧ n + cap ≤ R.slots) (K : ∀ (a : Addr) T' h' kc, a = h.size → W x wd l Z EL R own code mx ret nm T' h' (k + 1) (n + cap) (a :: sf) → Ext h h' → Arv Z h' a kc (newarray.typeOf aty) z [] (defaultValue (newarray.typeOf aty)) → Exa Z h' a ad → Go x wd Z EL R Q T' (pc') ls (.ref a :: st)) : Go x wd Z EL R Q T pc ls (.int z :: st) := by
  obtain ⟨hd, rfl⟩ := hd
  refine w.goN (P := fun h' => ∃ kc, Arv Z h' h.size kc (newarray.typeOf aty) z [] (defaultValue (newarray.typeOf aty)) ∧ Exa Z h' h.size ad) hr.1 hr.2 (fun s0 L X hx hZ ho hb hm e0 => ?_) (fun T' h' w' E ⟨kc, P1, P2⟩ => K h.size T' h' kc rfl w' E P1 P2)
  obtain ⟨T', h', cA, X', e', E', A, EA, stp⟩ := newPE X hx hZ w1 e0 (g := mkF x.m pc ls (.int z :: st)) rfl (Jvm.hb hb hd) rfl hz hcap hbig hr.1 hr.2 had
  exact ⟨T', h', X', e', E', EA.lt, ⟨cA, Arv.new A hz, EA⟩, stp⟩
theorem W.newR (w : W x wd l Z EL R own code mx ret nm T h k n sf) {i : Nat} {C : String} {z : Int32} (cap : Nat) (ad : String) (hd : Dc code pc (.anewarray i) 3 pc') (w1 : (Jvm.Cond.classLink own i C).before a0 Z = true) (w2 : (Jvm.Cond.arrayOver (.object C)).before a0 Z = true) (hz : ¬ z < 0) (hcap : z.toNatClampNeg ≤ cap) (hbig : cap * 8 ≤ 536870912) (had : "[" ++ (FieldType.object C).toString = ad) (hr : k + 1 ≤ R.cells ∧ n + cap ≤ R.slots) (K : ∀ (a : Addr) T' h' kc, a = h.size → W x wd l Z EL R own code mx ret nm T' h' (k + 1) (n + cap) (a :: sf) → Ext h h' → Arv Z h' a kc (.object C) z [] .null → Exa Z h' a ad → Ovr Z kc C → Go x wd Z EL R Q T' (pc') ls (.ref a :: st)) : Go x wd Z EL R Q T pc ls (.int z :: st) := by
  obtain ⟨hd, rfl⟩ := hd
  refine w.goN (P := fun h' => ∃ kc, Arv Z h' h.size kc (.object C) z [] .null ∧ Exa Z h' h.size ad ∧ Ovr Z kc C) hr.1 hr.2 (fun s0 L X hx hZ ho hb hm e0 => ?_) (fun T' h' w' E ⟨kc, P1, P2, P3⟩ => K h.size T' h' kc rfl w' E P1 P2 P3)
  obtain ⟨T', h', cA, X', e', E', A, EA, O, stp⟩ := newRE X hx hZ ho w1 w2 e0 (g := mkF x.m pc ls (.int z :: st)) rfl (Jvm.hb hb hd) rfl hz hcap hbig hr.1 hr.2 had
  exact ⟨T', h', X', e', E', EA.lt, ⟨cA, Arv.new A hz, EA, O⟩, stp⟩
theorem W.clone (w : W x wd l Z EL R own code mx ret nm T h k n sf) {i : Nat} {a : Addr} {ad : String} {kc : ClassId} {ty : FieldType} {z : Int32} {vs : List Value} {dv : Value} (Wn cap : Nat) (hd : Dc code pc (.invokevirtual i) 3 pc') (w1 : (Jvm.Cond.methodLink own i ⟨ad, "clone", "()Ljava/lang/Object;"⟩).before a0 Z = true) (w2 : (Jvm.Cond.sameMethod ad "java/lang/Object" "clone" "()Ljava/lang/Object;").before a0 Z = true) (w3 : (Jvm.Cond.native ⟨"java/lang/Object", "clone", "()Ljava/lang/Object;"⟩).before a0 Z = true) (w4 : (Jvm.Cond.instanceMethod ⟨"java/lang/Object", "clone", "()Ljava/lang/Object;"⟩).before a0 Z = true) (w5 : (Jvm.Cond.selects ad ⟨ad, "clone", "()Ljava/lang/Object;"⟩ ⟨"java/lang/Object", "clone", "()Ljava/lang/Object;"⟩).before a0 Z = true) (w6 : (Jvm.Cond.castable ad "java/lang/Cloneable").before a0 Z = true) (A : Arv Z h a kc ty z vs dv) (E : Exa Z h a ad) (hz : ls.size = mx) (hW : (st.map fun v => v.category).sum ≤ Wn) (hcap : z.toNatClampNeg ≤ cap) (hr : 1 ≤ R.frames ∧ Wn + 14 ≤ R.locals ∧ k + 1 ≤ R.cells ∧ n + cap ≤ R.slots) (K : ∀ (b : Addr) T' h', b = h.size → W x wd l Z EL R own code mx ret nm T' h' (k + 1) (n + cap) (b :: sf) → Ext h h' → Arv Z h' b kc ty z vs dv → Exa Z h' b ad → Go x wd Z EL R Q T' (pc') ls (.ref b :: st)) : Go x wd Z EL R Q T pc ls (.ref a :: st) := by
  obtain ⟨hd, rfl⟩ := hd
  refine w.goN (P := fun h' => Arv Z h' h.size kc ty z vs dv ∧ Exa Z h' h.size ad) hr.2.2.1 hr.2.2.2 (fun s0 L X hx hZ ho hb hm e0 => ?_) (fun T' h' w' E P => K h.size T' h' rfl w' E P.1 P.2)
  obtain ⟨T', h', X', e', E', A', EA, stp⟩ := cloneH X hx hZ ho w1 w2 w3 w4 w5 w6 e0 A.arh E (g := mkF x.m pc ls (.ref a :: st)) rfl (hz.trans hm.symm) rfl (Jvm.hb hb hd) hr.1 (W := Wn) (by show 2 * 0 + _ ≤ _; omega) hr.2.1 hcap hr.2.2.1 hr.2.2.2
  exact ⟨T', h', X', e', E', EA.lt, ⟨A', EA⟩, stp⟩
theorem W.putF (w : W x wd l Z EL R own code mx ret nm T h k n sf) {i kk : Nat} {a : Addr} {O f d C : String} {v old : Value} {ty : FieldType} (hd : Dc code pc (.putfield i) 3 pc') (wl : (Jvm.Cond.fieldLink own i O f d).before a0 Z = true) (F : Fld Z h a O f d old) (E : Exa Z h a C) (La : (Jvm.Cond.lays C O f d).before a0 Z = true ∨ ((Jvm.Cond.laysFinal C O f d).before a0 Z = true ∧ own = O ∧ nm = "<init>")) (wi : (Jvm.Cond.instantiable C kk).before a0 Z = true) (hty : parseFieldDescriptor d = some ty) (hn : narrow ty v = v) (hf : fits ty v = true) (ha : a ∈ sf) (K : ∀ T' h', W x wd l Z EL R own code mx ret nm T' h' k n sf → Wr h h' a (Jvm.RoadKit.slotOf Z O f d) v → Go x wd Z EL R Q T' pc' ls st) : Go x wd Z EL R Q T pc ls (v :: .ref a :: st) := by
  obtain ⟨hd, rfl⟩ := hd
  exact w.goW ha (fun s0 L X hx hZ ho hb hnm e0 => RoadKit.putF X hx hZ ho (host := "") (Or.inl wl) Via.refl e0 F E (La.imp id fun q => ⟨q.1, q.2.1, hnm.trans q.2.2⟩) wi hty hn hf (g := mkF x.m pc ls (v :: .ref a :: st)) rfl rfl (Jvm.hb hb hd)) K
theorem W.stC (w : W x wd l Z EL R own code mx ret nm T h k n sf) {a : Addr} {kc : ClassId} {z j v : Int32} {vs : List Value} {dv : Value} (q : Nat) (vs' : List Value) (hd : Dc code pc .castore 1 pc') (A : Arv Z h a kc .char z vs dv) (hj : j.toNatClampNeg = q ∧ ¬ j < 0) (hz : q < z.toNatClampNeg) (hp : ∀ i, vs'.getD i dv = vs.getD i dv) (hq : q < vs'.length) (hf : fits .char (.int (nar .char v)) = true) (ha : a ∈ sf) (K : ∀ T' h', W x wd l Z EL R own code mx ret nm T' h' k n sf → Wr h h' a q (.int (nar .char v)) → Arv Z h' a kc .char z (vs'.set q (.int (nar .char v))) dv → Go x wd Z EL R Q T' pc' ls st) : Go x wd Z EL R Q T pc ls (.int v :: .int j :: .ref a :: st) := by
  obtain ⟨hd, rfl⟩ := hd
  obtain ⟨hj, h0⟩ := hj
  subst hj
  obtain ⟨cl, Ar, r1, S, r3, H, G⟩ := A.pad hp
  have hin : ¬ (j < 0 ∨ cl.slots.size ≤ j.toNatClampNeg) := by rw [S]; exact fun u => u.elim h0 fun u => absurd hz (Nat.not_lt.mpr u)
  refine w.goW ha (fun s0 L X hx hZ ho hb hnm e0 => RoadKit.stC X hx hZ e0 Ar hin (g := mkF x.m pc ls (.int v :: .int j :: .ref a :: st)) rfl rfl (Jvm.hb hb hd)) (fun T' h' w' Wr' => K T' h' w' Wr' (Arv.set Ar r1 S r3 H G hf Wr' _ rfl hq))
theorem W.stB (w : W x wd l Z EL R own code mx ret nm T h k n sf) {a : Addr} {kc : ClassId} {z j v : Int32} {vs : List Value} {dv : Value} (q : Nat) (vs' : List Value) (hd : Dc code pc .bastore 1 pc') (A : Arv Z h a kc .byte z vs dv) (hj : j.toNatClampNeg = q ∧ ¬ j < 0) (hz : q < z.toNatClampNeg) (hp : ∀ i, vs'.getD i dv = vs.getD i dv) (hq : q < vs'.length) (hf : fits .byte (.int (nar .byte v)) = true) (ha : a ∈ sf) (K : ∀ T' h', W x wd l Z EL R own code mx ret nm T' h' k n sf → Wr h h' a q (.int (nar .byte v)) → Arv Z h' a kc .byte z (vs'.set q (.int (nar .byte v))) dv → Go x wd Z EL R Q T' pc' ls st) : Go x wd Z EL R Q T pc ls (.int v :: .int j :: .ref a :: st) := by
  obtain ⟨hd, rfl⟩ := hd
  obtain ⟨hj, h0⟩ := hj
  subst hj
  obtain ⟨cl, Ar, r1, S, r3, H, G⟩ := A.pad hp
  have hin : ¬ (j < 0 ∨ cl.slots.size ≤ j.toNatClampNeg) := by rw [S]; exact fun u => u.elim h0 fun u => absurd hz (Nat.not_lt.mpr u)
  refine w.goW ha (fun s0 L X hx hZ ho hb hnm e0 => RoadKit.stB X hx hZ e0 Ar hin (g := mkF x.m pc ls (.int v :: .int j :: .ref a :: st)) rfl rfl (Jvm.hb hb hd)) (fun T' h' w' Wr' => K T' h' w' Wr' (Arv.set Ar r1 S r3 H G hf Wr' _ rfl hq))
theorem W.stI (w : W x wd l Z EL R own code mx ret nm T h k n sf) {a : Addr} {kc : ClassId} {z j v : Int32} {vs : List Value} {dv : Value} (q : Nat) (vs' : List Value) (hd : Dc code pc .iastore 1 pc') (A : Arv Z h a kc .int z vs dv) (hj : j.toNatClampNeg = q ∧ ¬ j < 0) (hz : q < z.toNatClampNeg) (hp : ∀ i, vs'.getD i dv = vs.getD i dv) (hq : q < vs'.length) (hf : fits .int (.int v) = true) (ha : a ∈ sf) (K : ∀ T' h', W x wd l Z EL R own code mx ret nm T' h' k n sf → Wr h h' a q (.int v) → Arv Z h' a kc .int z (vs'.set q (.int v)) dv → Go x wd Z EL R Q T' pc' ls st) : Go x wd Z EL R Q T pc ls (.int v :: .int j :: .ref a :: st) := by
  obtain ⟨hd, rfl⟩ := hd
  obtain ⟨hj, h0⟩ := hj
  subst hj
  obtain ⟨cl, Ar, r1, S, r3, H, G⟩ := A.pad hp
  have hin : ¬ (j < 0 ∨ cl.slots.size ≤ j.toNatClampNeg) := by rw [S]; exact fun u => u.elim h0 fun u => absurd hz (Nat.not_lt.mpr u)
  refine w.goW ha (fun s0 L X hx hZ ho hb hnm e0 => RoadKit.stI X hx hZ e0 Ar hin (g := mkF x.m pc ls (.int v :: .int j :: .ref a :: st)) rfl rfl (Jvm.hb hb hd)) (fun T' h' w' Wr' => K T' h' w' Wr' (Arv.set Ar r1 S r3 H G hf Wr' _ rfl hq))
theorem W.stR (w : W x wd l Z EL R own code mx ret nm T h k n sf) {a b : Addr} {kc : ClassId} {z j : Int32} {C : String} {vs : List Value} (q : Nat) (vs' : List Value) (hd : Dc code pc .aastore 1 pc') (A : Arv Z h a kc (.object C) z vs .null) (O : Ovr Z kc C) (I : Ins Z h b C true) (hj : j.toNatClampNeg = q ∧ ¬ j < 0) (hz : q < z.toNatClampNeg) (hp : ∀ i, vs'.getD i .null = vs.getD i .null) (hq : q < vs'.length) (ha : a ∈ sf) (K : ∀ T' h', W x wd l Z EL R own code mx ret nm T' h' k n sf → Wr h h' a q (.ref b) → Arv Z h' a kc (.object C) z (vs'.set q (.ref b)) .null → Go x wd Z EL R Q T' pc' ls st) : Go x wd Z EL R Q T pc ls (.ref b :: .int j :: .ref a :: st) := by
  obtain ⟨hd, rfl⟩ := hd
  obtain ⟨hj, h0⟩ := hj
  subst hj
  obtain ⟨cl, Ar, r1, S, r3, H, G⟩ := A.pad hp
  have hin : ¬ (j < 0 ∨ cl.slots.size ≤ j.toNatClampNeg) := by rw [S]; exact fun u => u.elim h0 fun u => absurd hz (Nat.not_lt.mpr u)
  refine w.goW ha (fun s0 L X hx hZ ho hb hnm e0 => RoadKit.stR X hx hZ e0 Ar hin rfl (Sto.ofV Ar r1 O I) (g := mkF x.m pc ls (.ref b :: .int j :: .ref a :: st)) rfl rfl (Jvm.hb hb hd)) (fun T' h' w' Wr' => K T' h' w' Wr' (Arv.set Ar r1 S r3 H G rfl Wr' _ rfl hq))
theorem W.retN (w : W x wd l Z EL R own code mx ret nm T h k n sf) {t : FieldType} {v : Int32} (hd : Dc code pc .ireturn 1 pc') (hr : ret = some t) (ht : t = .boolean ∨ t = .byte ∨ t = .char ∨ t = .short) (hQ : Q (some (.int (nar t v))) h) : Go x wd Z EL R Q T pc ls (.int v :: st) := by
  obtain ⟨hd, rfl⟩ := hd
  exact w.done (v := some (.int (nar t v))) (fun q => by rw [hr] at q; cases q) hQ fun s0 L X hx hb hret fs hl => RoadKit.retN X hx (hret.trans hr) ht (Jvm.hb hb hd) hl
theorem W.retI (w : W x wd l Z EL R own code mx ret nm T h k n sf) {v : Int32} (hd : Dc code pc .ireturn 1 pc') (hr : ret = some .int) (hQ : Q (some (.int v)) h) : Go x wd Z EL R Q T pc ls (.int v :: st) := by
  obtain ⟨hd, rfl⟩ := hd
  exact w.done (v := some (.int v)) (fun q => by rw [hr] at q; cases q) hQ fun s0 L X hx hb hret fs hl => retOut X hx (hret.trans hr) rfl (Or.inl ⟨rfl, Or.inl rfl, v, rfl⟩) (Jvm.hb hb hd) hl
theorem W.retA (w : W x wd l Z EL R own code mx ret nm T h k n sf) {t : FieldType} {v : Value} (hd : Dc code pc .areturn 1 pc') (hr : ret = some t) (ht : t.isReference = true) (hn : narrow t v = v) (hv : v.isRef = true) (hQ : Q (some v) h) : Go x wd Z EL R Q T pc ls (v :: st) := by
  obtain ⟨hd, rfl⟩ := hd
  exact w.done (v := some v) (fun q => by rw [hr] at q; cases q) hQ fun s0 L X hx hb hret fs hl => retOut X hx (hret.trans hr) hn (Or.inr (Or.inr (Or.inr (Or.inr ⟨rfl, ht, hv⟩)))) (Jvm.hb hb hd) hl
theorem W.retV (w : W x wd l Z EL R own code mx ret nm T h k n sf) (hd : Dc code pc .return_ 1 pc') (hr : ret = none) (hQ : Q none h) : Go x wd Z EL R Q T pc ls [] := by
  obtain ⟨hd, rfl⟩ := hd
  exact w.done (v := none) (fun _ => rfl) hQ fun s0 L X hx hb hret fs hl => X.returnOut hx (hret.trans hr) (Jvm.hb hb hd) hl
theorem W.callS (w : W x wd l Z EL R own code mx ret nm T h k n sf) {y : MethodName} {bytes : ByteArray} {maxL : Nat} {rt : Option FieldType} {rm : Room} {sf0 : List Addr} {Q' : Option Value → Heap → Prop} {i : Nat} {argsL rest : List Value}  (Wn : Nat) (hd : Dc code pc (.invokestatic i) 3 pc') (w1 : (Jvm.Cond.methodLink own i y).before a0 Z = true) (w2 : (Jvm.Cond.static y).before a0 Z = true) (w3 : (Jvm.Cond.initialized y.cls).before a0 Z = true) (w4 : (Jvm.Cond.code y bytes maxL rt).before a0 Z = true) (hy : y.cls ≠ "java/lang/invoke/MethodHandle" ∧ y.cls ≠ "java/lang/invoke/VarHandle") (C : Ct wd l Z EL y bytes maxL rt [] rm sf0 argsL.toArray h Q') (hlen : ∀ sig, parseMethodDescriptor y.desc = some sig → argsL.length = sig.parameters.length) (hz : ls.size = mx) (hst : st = argsL.reverse ++ rest) (hW : (rest.map fun v => v.category).sum ≤ Wn) (hr : rm.frames + 1 ≤ R.frames ∧ Wn + (maxL + 11) + rm.locals ≤ R.locals ∧ k + rm.cells ≤ R.cells ∧ n + rm.slots ≤ R.slots) (hsub : ∀ y ∈ sf0, y ∈ sf) (K : ∀ T' h' v, W x wd l Z EL R own code mx ret nm T' h' (k + rm.cells) (n + rm.slots) sf → h.size ≤ h'.size → Q' v h' → Go x wd Z EL R Q T' pc' ls (v.toList ++ rest)) : Go x wd Z EL R Q T pc ls st := by
  obtain ⟨hd, rfl⟩ := hd
  subst hst
  obtain ⟨hx, hb, hm, hret, hn, hl, e0, E, c1, c2, hs, hEL, L, vm0, N, g, X, S, hZ, ho, hC⟩ := w
  have hWW : 2 * (mkF x.m pc ls (argsL.reverse ++ rest)).monitorRoom + (rest.map fun v => v.category).sum ≤ Wn := by show 2 * 0 + _ ≤ _; omega
  cases wd with
  | false =>
    have eq := g rfl
    subst eq
    obtain ⟨v, _, ⟨T1, L1, k1, n1⟩, -, X1, ⟨Lc, hQ, l1, y1, z1⟩, stp⟩ := Jvm.LawKit.callS X hx (y := y) ho (mvT hZ w1) (mvT hZ w2) (mvT hZ w3) (mvT hZ w4) hy (backN (Wn := Wn) C hZ w4 w3 hr.1 hr.2.1) (g := mkF x.m pc ls (argsL.reverse ++ rest)) rfl (hz.trans hm.symm) (argsL := argsL) (rest := rest) hlen rfl hWW (Jvm.hb hb hd) (fun _ _ => ⟨rfl, e0, hr.2.2.1, hr.2.2.2⟩)
    dsimp only [Pt.U, Pt.locs, Pt.cells, Pt.slots] at X1 l1 y1 z1 stp hQ
    subst l1 y1 z1
    obtain ⟨s₂, o, a1, r⟩ := K T1 T1.heap v ⟨hx, hb, hm, hret, hn, hl, rfl, hQ.2.2.1, hr.2.2.1, hr.2.2.2, fun y hy => ⟨(hs y hy).1, Nat.lt_of_lt_of_le (hs y hy).2 hQ.2.2.2⟩, hEL, _, _, Fr.app N hQ.2.1, fun _ => rfl, X1, (State.WarmedH.refl x.s).since _, hZ, ho, fun q => by cases q⟩ hQ.2.2.2 hQ.1
    exact ⟨s₂, o, stp _ a1, r⟩
  | true =>
    obtain ⟨v, _, ⟨T1, L1, k1, n1⟩, -, X1, hS1, hgr, ⟨Lc, hQ, l1, y1, z1, hCr⟩, stp⟩ := callSS X hx (y := y) ho (mvT (s := x.s.setVm vm0) hZ w1) (mvT (s := x.s.setVm vm0) hZ w2) (mvT (s := x.s.setVm vm0) hZ w3) (mvT (s := x.s.setVm vm0) hZ w4) hy (backW (s := x.s) (Wn := Wn) C hZ w4 w3 hr.1 hr.2.1 hEL (hC rfl).1.1 (fun y hy => ⟨(hs y (hsub y hy)).2, (hC rfl).2 y (hsub y hy)⟩)) (g := mkF x.m pc ls (argsL.reverse ++ rest)) rfl (hz.trans hm.symm) (argsL := argsL) (rest := rest) hlen rfl hWW (Jvm.hb hb hd) (fun _ _ => ⟨rfl, e0, hr.2.2.1, hr.2.2.2⟩)
    dsimp only [Pt.U, Pt.locs, Pt.cells, Pt.slots] at X1 l1 y1 z1 stp hQ hS1 hgr hCr
    subst l1 y1 z1
    rw [e0] at hgr
    obtain ⟨Xr, Sr, Zr, Or⟩ := rebS (s := x.s) (vm0 := vm0) S hgr X1 hS1 (Nat.le_refl _) hZ ho
    obtain ⟨s₂, o, a1, r⟩ := K T1 T1.heap v ⟨hx, hb, hm, hret, hn, hl, rfl, hQ.2.2.1, hr.2.2.1, hr.2.2.2, fun y hy => ⟨(hs y hy).1, Nat.lt_of_lt_of_le (hs y hy).2 hgr⟩, hEL, _, _, Fr.app N hQ.2.1, (fun q => by cases q), Xr, Sr, Zr, Or, fun _ => ⟨(hC rfl).1.trans hCr, fun y hy => hCr.safe (hs y hy).2 ((hC rfl).2 y hy)⟩⟩ hgr hQ.1
    exact ⟨s₂, o, stp.trans a1, r⟩
theorem W.callI (w : W x wd l Z EL R own code mx ret nm T h k n sf) {y : MethodName} {bytes : ByteArray} {maxL : Nat} {rm : Room} {sf0 : List Addr} {Q' : Option Value → Heap → Prop} {i : Nat} {argsL rest : List Value} {a : Addr} (Wn : Nat) (hd : Dc code pc (.invokespecial i) 3 pc') (hy1 : y.name = "<init>") (w1 : (Jvm.Cond.methodLink own i y).before a0 Z = true) (w2 : (Jvm.Cond.instanceMethod y).before a0 Z = true) (w3 : (Jvm.Cond.initialized y.cls).before a0 Z = true) (w4 : (Jvm.Cond.code y bytes maxL none).before a0 Z = true) (hy : y.cls ≠ "java/lang/invoke/MethodHandle" ∧ y.cls ≠ "java/lang/invoke/VarHandle") (C : Ct wd l Z EL y bytes maxL none [] rm sf0 (.ref a :: argsL).toArray h Q') (hlen : ∀ sig, parseMethodDescriptor y.desc = some sig → argsL.length = sig.parameters.length) (hz : ls.size = mx) (hst : st = argsL.reverse ++ .ref a :: rest) (hW : (rest.map fun v => v.category).sum ≤ Wn) (hr : rm.frames + 1 ≤ R.frames ∧ Wn + (maxL + 11) + rm.locals ≤ R.locals ∧ k + rm.cells ≤ R.cells ∧ n + rm.slots ≤ R.slots) (hsub : ∀ y ∈ sf0, y ∈ sf) (K : ∀ T' h' v, W x wd l Z EL R own code mx ret nm T' h' (k + rm.cells) (n + rm.slots) sf → h.size ≤ h'.size → Q' v h' → Go x wd Z EL R Q T' pc' ls (v.toList ++ rest)) : Go x wd Z EL R Q T pc ls st := by
  obtain ⟨hd, rfl⟩ := hd
  subst hst
  obtain ⟨hx, hb, hm, hret, hn, hl, e0, E, c1, c2, hs, hEL, L, vm0, N, g, X, S, hZ, ho, hC⟩ := w
  have hWW : 2 * (mkF x.m pc ls (argsL.reverse ++ .ref a :: rest)).monitorRoom + (rest.map fun v => v.category).sum ≤ Wn := by show 2 * 0 + _ ≤ _; omega
  cases wd with
  | false =>
    have eq := g rfl
    subst eq
    obtain ⟨v, _, ⟨T1, L1, k1, n1⟩, -, X1, ⟨Lc, hQ, l1, y1, z1⟩, stp⟩ := X.specialBack hx (y := y) hy1 ho (mvT hZ w1) (mvT hZ w2) (mvT hZ w4) hy (backN (Wn := Wn) C hZ w4 w3 hr.1 hr.2.1) (g := mkF x.m pc ls (argsL.reverse ++ .ref a :: rest)) rfl (hz.trans hm.symm) (Steps.refl _) (a := a) (argsL := argsL) (rest := rest) hlen rfl hWW (Jvm.hb hb hd) (fun _ _ => ⟨rfl, e0, hr.2.2.1, hr.2.2.2⟩)
    dsimp only [Pt.U, Pt.locs, Pt.cells, Pt.slots] at X1 l1 y1 z1 stp hQ
    subst l1 y1 z1
    obtain ⟨s₂, o, a1, r⟩ := K T1 T1.heap v ⟨hx, hb, hm, hret, hn, hl, rfl, hQ.2.2.1, hr.2.2.1, hr.2.2.2, fun y hy => ⟨(hs y hy).1, Nat.lt_of_lt_of_le (hs y hy).2 hQ.2.2.2⟩, hEL, _, _, Fr.app N hQ.2.1, fun _ => rfl, X1, (State.WarmedH.refl x.s).since _, hZ, ho, fun q => by cases q⟩ hQ.2.2.2 hQ.1
    exact ⟨s₂, o, stp.trans a1, r⟩
  | true =>
    obtain ⟨v, _, ⟨T1, L1, k1, n1⟩, -, X1, hS1, hgr, ⟨Lc, hQ, l1, y1, z1, hCr⟩, stp⟩ := X.specialBackS hx (y := y) hy1 ho (mvT (s := x.s.setVm vm0) hZ w1) (mvT (s := x.s.setVm vm0) hZ w2) (mvT (s := x.s.setVm vm0) hZ w4) hy (backW (s := x.s) (Wn := Wn) C hZ w4 w3 hr.1 hr.2.1 hEL (hC rfl).1.1 (fun y hy => ⟨(hs y (hsub y hy)).2, (hC rfl).2 y (hsub y hy)⟩)) (g := mkF x.m pc ls (argsL.reverse ++ .ref a :: rest)) rfl (hz.trans hm.symm) (Steps.refl _) (a := a) (argsL := argsL) (rest := rest) hlen rfl hWW (Jvm.hb hb hd) (fun _ _ => ⟨rfl, e0, hr.2.2.1, hr.2.2.2⟩)
    dsimp only [Pt.U, Pt.locs, Pt.cells, Pt.slots] at X1 l1 y1 z1 stp hQ hS1 hgr hCr
    subst l1 y1 z1
    rw [e0] at hgr
    obtain ⟨Xr, Sr, Zr, Or⟩ := rebS (s := x.s) (vm0 := vm0) S hgr X1 hS1 (Nat.le_refl _) hZ ho
    obtain ⟨s₂, o, a1, r⟩ := K T1 T1.heap v ⟨hx, hb, hm, hret, hn, hl, rfl, hQ.2.2.1, hr.2.2.1, hr.2.2.2, fun y hy => ⟨(hs y hy).1, Nat.lt_of_lt_of_le (hs y hy).2 hgr⟩, hEL, _, _, Fr.app N hQ.2.1, (fun q => by cases q), Xr, Sr, Zr, Or, fun _ => ⟨(hC rfl).1.trans hCr, fun y hy => hCr.safe (hs y hy).2 ((hC rfl).2 y hy)⟩⟩ hgr hQ.1
    exact ⟨s₂, o, stp.trans a1, r⟩
theorem W.callV (w : W x wd l Z EL R own code mx ret nm T h k n sf) {y : MethodName} {bytes : ByteArray} {maxL : Nat} {rt : Option FieldType} {rm : Room} {sf0 : List Addr} {Q' : Option Value → Heap → Prop} {i : Nat} {argsL rest : List Value} {a : Addr} {Cl : String} (Wn : Nat) (hd : Dc code pc (.invokevirtual i) 3 pc') (w1 : (Jvm.Cond.methodLink own i y).before a0 Z = true) (wd1 : (Jvm.Cond.declares y).before a0 Z = true) (ws : (Jvm.Cond.selects Cl y y).before a0 Z = true) (w2 : (Jvm.Cond.instanceMethod y).before a0 Z = true) (w3 : (Jvm.Cond.initialized y.cls).before a0 Z = true) (w4 : (Jvm.Cond.code y bytes maxL rt).before a0 Z = true) (hy : y.cls ≠ "java/lang/invoke/MethodHandle" ∧ y.cls ≠ "java/lang/invoke/VarHandle") (Ea : Exa Z h a Cl) (C : Ct wd l Z EL y bytes maxL rt [] rm sf0 (.ref a :: argsL).toArray h Q') (hlen : ∀ sig, parseMethodDescriptor y.desc = some sig → argsL.length = sig.parameters.length) (hz : ls.size = mx) (hst : st = argsL.reverse ++ .ref a :: rest) (hW : (rest.map fun v => v.category).sum ≤ Wn) (hr : rm.frames + 1 ≤ R.frames ∧ Wn + (maxL + 11) + rm.locals ≤ R.locals ∧ k + rm.cells ≤ R.cells ∧ n + rm.slots ≤ R.slots) (hsub : ∀ y ∈ sf0, y ∈ sf) (K : ∀ T' h' v, W x wd l Z EL R own code mx ret nm T' h' (k + rm.cells) (n + rm.slots) sf → h.size ≤ h'.size → Q' v h' → Go x wd Z EL R Q T' pc' ls (v.toList ++ rest)) : Go x wd Z EL R Q T pc ls st := by
  obtain ⟨hd, rfl⟩ := hd
  subst hst
  obtain ⟨hx, hb, hm, hret, hn, hl, e0, E, c1, c2, hs, hEL, L, vm0, N, g, X, S, hZ, ho, hC⟩ := w
  have hWW : 2 * (mkF x.m pc ls (argsL.reverse ++ .ref a :: rest)).monitorRoom + (rest.map fun v => v.category).sum ≤ Wn := by show 2 * 0 + _ ≤ _; omega
  obtain ⟨cB, kB, qa, qb, qc⟩ := isOf (s := x.s.setVm vm0) hZ e0 Ea
  cases wd with
  | false =>
    have eq := g rfl
    subst eq
    obtain ⟨v, _, ⟨T1, L1, k1, n1⟩, -, X1, ⟨Lc, hQ, l1, y1, z1⟩, stp⟩ := X.virtualBack hx (y := y) (z := y) ho (mvT hZ w1) (mvT hZ wd1) (notFace_of_selects (args := #[]) (mvT hZ ws)) (mvT hZ ws) (mvT hZ w2) hy (backN (Wn := Wn) C hZ w4 w3 hr.1 hr.2.1) qa qc (g := mkF x.m pc ls (argsL.reverse ++ .ref a :: rest)) rfl (hz.trans hm.symm) (Steps.refl _) (argsL := argsL) (rest := rest) hlen rfl hWW (Jvm.hb hb hd) (fun _ _ => ⟨rfl, e0, hr.2.2.1, hr.2.2.2⟩)
    dsimp only [Pt.U, Pt.locs, Pt.cells, Pt.slots] at X1 l1 y1 z1 stp hQ
    subst l1 y1 z1
    obtain ⟨s₂, o, a1, r⟩ := K T1 T1.heap v ⟨hx, hb, hm, hret, hn, hl, rfl, hQ.2.2.1, hr.2.2.1, hr.2.2.2, fun y hy => ⟨(hs y hy).1, Nat.lt_of_lt_of_le (hs y hy).2 hQ.2.2.2⟩, hEL, _, _, Fr.app N hQ.2.1, fun _ => rfl, X1, (State.WarmedH.refl x.s).since _, hZ, ho, fun q => by cases q⟩ hQ.2.2.2 hQ.1
    exact ⟨s₂, o, stp.trans a1, r⟩
  | true =>
    obtain ⟨v, _, ⟨T1, L1, k1, n1⟩, -, X1, hS1, hgr, ⟨Lc, hQ, l1, y1, z1, hCr⟩, stp⟩ := X.virtualBackS hx (y := y) (z := y) ho (mvT (s := x.s.setVm vm0) hZ w1) (mvT (s := x.s.setVm vm0) hZ wd1) (notFace_of_selects (args := #[]) (mvT (s := x.s.setVm vm0) hZ ws)) (mvT (s := x.s.setVm vm0) hZ ws) (mvT (s := x.s.setVm vm0) hZ w2) hy (backW (s := x.s) (Wn := Wn) C hZ w4 w3 hr.1 hr.2.1 hEL (hC rfl).1.1 (fun y hy => ⟨(hs y (hsub y hy)).2, (hC rfl).2 y (hsub y hy)⟩)) qa qc (g := mkF x.m pc ls (argsL.reverse ++ .ref a :: rest)) rfl (hz.trans hm.symm) (Steps.refl _) (argsL := argsL) (rest := rest) hlen rfl hWW (Jvm.hb hb hd) (fun _ _ => ⟨rfl, e0, hr.2.2.1, hr.2.2.2⟩)
    dsimp only [Pt.U, Pt.locs, Pt.cells, Pt.slots] at X1 l1 y1 z1 stp hQ hS1 hgr hCr
    subst l1 y1 z1
    rw [e0] at hgr
    obtain ⟨Xr, Sr, Zr, Or⟩ := rebS (s := x.s) (vm0 := vm0) S hgr X1 hS1 (Nat.le_refl _) hZ ho
    obtain ⟨s₂, o, a1, r⟩ := K T1 T1.heap v ⟨hx, hb, hm, hret, hn, hl, rfl, hQ.2.2.1, hr.2.2.1, hr.2.2.2, fun y hy => ⟨(hs y hy).1, Nat.lt_of_lt_of_le (hs y hy).2 hgr⟩, hEL, _, _, Fr.app N hQ.2.1, (fun q => by cases q), Xr, Sr, Zr, Or, fun _ => ⟨(hC rfl).1.trans hCr, fun y hy => hCr.safe (hs y hy).2 ((hC rfl).2 y hy)⟩⟩ hgr hQ.1
    exact ⟨s₂, o, stp.trans a1, r⟩
theorem W.callVZ (w : W x wd l Z EL R own code mx ret nm T h k n sf) {y : MethodName} {bytes : ByteArray} {maxL : Nat} {rt : Option FieldType} {rm : Room} {sf0 : List Addr} {Q' : Option Value → Heap → Prop} {i : Nat} {argsL rest : List Value} {a : Addr} {z : MethodName} {Cl Sup : String} (Wn : Nat) (hd : Dc code pc (.invokevirtual i) 3 pc') (w1 : (Jvm.Cond.methodLink own i y).before a0 Z = true) (wd1 : (Jvm.Cond.declares y).before a0 Z = true) (wsp : (Jvm.Cond.superclass y.cls Sup).before a0 Z = true) (ws : (Jvm.Cond.selects Cl y z).before a0 Z = true) (w2 : (Jvm.Cond.instanceMethod z).before a0 Z = true) (w3 : (Jvm.Cond.initialized z.cls).before a0 Z = true) (w4 : (Jvm.Cond.code z bytes maxL rt).before a0 Z = true) (hy : y.cls ≠ "java/lang/invoke/MethodHandle" ∧ y.cls ≠ "java/lang/invoke/VarHandle") (Ea : Exa Z h a Cl) (C : Ct wd l Z EL z bytes maxL rt [] rm sf0 (.ref a :: argsL).toArray h Q') (hlen : ∀ sig, parseMethodDescriptor y.desc = some sig → argsL.length = sig.parameters.length) (hz : ls.size = mx) (hst : st = argsL.reverse ++ .ref a :: rest) (hW : (rest.map fun v => v.category).sum ≤ Wn) (hr : rm.frames + 1 ≤ R.frames ∧ Wn + (maxL + 11) + rm.locals ≤ R.locals ∧ k + rm.cells ≤ R.cells ∧ n + rm.slots ≤ R.slots) (hsub : ∀ y ∈ sf0, y ∈ sf) (K : ∀ T' h' v, W x wd l Z EL R own code mx ret nm T' h' (k + rm.cells) (n + rm.slots) sf → h.size ≤ h'.size → Q' v h' → Go x wd Z EL R Q T' pc' ls (v.toList ++ rest)) : Go x wd Z EL R Q T pc ls st := by
  obtain ⟨hd, rfl⟩ := hd
  subst hst
  obtain ⟨hx, hb, hm, hret, hn, hl, e0, E, c1, c2, hs, hEL, L, vm0, N, g, X, S, hZ, ho, hC⟩ := w
  have hWW : 2 * (mkF x.m pc ls (argsL.reverse ++ .ref a :: rest)).monitorRoom + (rest.map fun v => v.category).sum ≤ Wn := by show 2 * 0 + _ ≤ _; omega
  obtain ⟨cB, kB, qa, qb, qc⟩ := isOf (s := x.s.setVm vm0) hZ e0 Ea
  cases wd with
  | false =>
    have eq := g rfl
    subst eq
    obtain ⟨v, _, ⟨T1, L1, k1, n1⟩, -, X1, ⟨Lc, hQ, l1, y1, z1⟩, stp⟩ := X.virtualBack hx (y := y) (z := z) ho (mvT hZ w1) (mvT hZ wd1) (nf_super (args := #[]) (mvT hZ wsp)) (mvT hZ ws) (mvT hZ w2) hy (backN (Wn := Wn) C hZ w4 w3 hr.1 hr.2.1) qa qc (g := mkF x.m pc ls (argsL.reverse ++ .ref a :: rest)) rfl (hz.trans hm.symm) (Steps.refl _) (argsL := argsL) (rest := rest) hlen rfl hWW (Jvm.hb hb hd) (fun _ _ => ⟨rfl, e0, hr.2.2.1, hr.2.2.2⟩)
    dsimp only [Pt.U, Pt.locs, Pt.cells, Pt.slots] at X1 l1 y1 z1 stp hQ
    subst l1 y1 z1
    obtain ⟨s₂, o, a1, r⟩ := K T1 T1.heap v ⟨hx, hb, hm, hret, hn, hl, rfl, hQ.2.2.1, hr.2.2.1, hr.2.2.2, fun y hy => ⟨(hs y hy).1, Nat.lt_of_lt_of_le (hs y hy).2 hQ.2.2.2⟩, hEL, _, _, Fr.app N hQ.2.1, fun _ => rfl, X1, (State.WarmedH.refl x.s).since _, hZ, ho, fun q => by cases q⟩ hQ.2.2.2 hQ.1
    exact ⟨s₂, o, stp.trans a1, r⟩
  | true =>
    obtain ⟨v, _, ⟨T1, L1, k1, n1⟩, -, X1, hS1, hgr, ⟨Lc, hQ, l1, y1, z1, hCr⟩, stp⟩ := X.virtualBackS hx (y := y) (z := z) ho (mvT (s := x.s.setVm vm0) hZ w1) (mvT (s := x.s.setVm vm0) hZ wd1) (nf_super (args := #[]) (mvT (s := x.s.setVm vm0) hZ wsp)) (mvT (s := x.s.setVm vm0) hZ ws) (mvT (s := x.s.setVm vm0) hZ w2) hy (backW (s := x.s) (Wn := Wn) C hZ w4 w3 hr.1 hr.2.1 hEL (hC rfl).1.1 (fun y hy => ⟨(hs y (hsub y hy)).2, (hC rfl).2 y (hsub y hy)⟩)) qa qc (g := mkF x.m pc ls (argsL.reverse ++ .ref a :: rest)) rfl (hz.trans hm.symm) (Steps.refl _) (argsL := argsL) (rest := rest) hlen rfl hWW (Jvm.hb hb hd) (fun _ _ => ⟨rfl, e0, hr.2.2.1, hr.2.2.2⟩)
    dsimp only [Pt.U, Pt.locs, Pt.cells, Pt.slots] at X1 l1 y1 z1 stp hQ hS1 hgr hCr
    subst l1 y1 z1
    rw [e0] at hgr
    obtain ⟨Xr, Sr, Zr, Or⟩ := rebS (s := x.s) (vm0 := vm0) S hgr X1 hS1 (Nat.le_refl _) hZ ho
    obtain ⟨s₂, o, a1, r⟩ := K T1 T1.heap v ⟨hx, hb, hm, hret, hn, hl, rfl, hQ.2.2.1, hr.2.2.1, hr.2.2.2, fun y hy => ⟨(hs y hy).1, Nat.lt_of_lt_of_le (hs y hy).2 hgr⟩, hEL, _, _, Fr.app N hQ.2.1, (fun q => by cases q), Xr, Sr, Zr, Or, fun _ => ⟨(hC rfl).1.trans hCr, fun y hy => hCr.safe (hs y hy).2 ((hC rfl).2 y hy)⟩⟩ hgr hQ.1
    exact ⟨s₂, o, stp.trans a1, r⟩
theorem W.callVU (w : W x wd l Z EL R own code mx ret nm T h k n sf) {y : MethodName} {bytes : ByteArray} {maxL : Nat} {rt : Option FieldType} {rm : Room} {sf0 : List Addr} {Q' : Option Value → Heap → Prop} {i : Nat} {argsL rest : List Value} {a : Addr} {z : MethodName} {Cl ow : String} (Wn : Nat) (hd : Dc code pc (.invokevirtual i) 3 pc') (w1 : (Jvm.Cond.methodLink own i y).before a0 Z = true) (wsm : (Jvm.Cond.sameMethod y.cls ow y.name y.desc).before a0 Z = true) (wd1 : (Jvm.Cond.declares ⟨ow, y.name, y.desc⟩).before a0 Z = true) (ws : (Jvm.Cond.selects Cl y z).before a0 Z = true) (w2 : (Jvm.Cond.instanceMethod z).before a0 Z = true) (w3 : (Jvm.Cond.initialized z.cls).before a0 Z = true) (w4 : (Jvm.Cond.code z bytes maxL rt).before a0 Z = true) (hy : ow ≠ "java/lang/invoke/MethodHandle" ∧ ow ≠ "java/lang/invoke/VarHandle") (Ea : Exa Z h a Cl) (C : Ct wd l Z EL z bytes maxL rt [] rm sf0 (.ref a :: argsL).toArray h Q') (hlen : ∀ sig, parseMethodDescriptor y.desc = some sig → argsL.length = sig.parameters.length) (hz : ls.size = mx) (hst : st = argsL.reverse ++ .ref a :: rest) (hW : (rest.map fun v => v.category).sum ≤ Wn) (hr : rm.frames + 1 ≤ R.frames ∧ Wn + (maxL + 11) + rm.locals ≤ R.locals ∧ k + rm.cells ≤ R.cells ∧ n + rm.slots ≤ R.slots) (hsub : ∀ y ∈ sf0, y ∈ sf) (K : ∀ T' h' v, W x wd l Z EL R own code mx ret nm T' h' (k + rm.cells) (n + rm.slots) sf → h.size ≤ h'.size → Q' v h' → Go x wd Z EL R Q T' pc' ls (v.toList ++ rest)) : Go x wd Z EL R Q T pc ls st := by
  obtain ⟨hd, rfl⟩ := hd
  subst hst
  obtain ⟨hx, hb, hm, hret, hn, hl, e0, E, c1, c2, hs, hEL, L, vm0, N, g, X, S, hZ, ho, hC⟩ := w
  have hWW : 2 * (mkF x.m pc ls (argsL.reverse ++ .ref a :: rest)).monitorRoom + (rest.map fun v => v.category).sum ≤ Wn := by show 2 * 0 + _ ≤ _; omega
  obtain ⟨cB, kB, qa, qb, qc⟩ := isOf (s := x.s.setVm vm0) hZ e0 Ea
  cases wd with
  | false =>
    have eq := g rfl
    subst eq
    obtain ⟨v, _, ⟨T1, L1, k1, n1⟩, -, X1, ⟨Lc, hQ, l1, y1, z1⟩, stp⟩ := X.virtualBackUp hx (x := y) (y := z) ho (mvT hZ w1) (mvT hZ wsm) (mvT hZ wd1) hy (mvT hZ ws) (mvT hZ w2) (backN (Wn := Wn) C hZ w4 w3 hr.1 hr.2.1) qa qc (g := mkF x.m pc ls (argsL.reverse ++ .ref a :: rest)) rfl (hz.trans hm.symm) (Steps.refl _) (argsL := argsL) (rest := rest) hlen rfl hWW (Jvm.hb hb hd) (fun _ _ => ⟨rfl, e0, hr.2.2.1, hr.2.2.2⟩)
    dsimp only [Pt.U, Pt.locs, Pt.cells, Pt.slots] at X1 l1 y1 z1 stp hQ
    subst l1 y1 z1
    obtain ⟨s₂, o, a1, r⟩ := K T1 T1.heap v ⟨hx, hb, hm, hret, hn, hl, rfl, hQ.2.2.1, hr.2.2.1, hr.2.2.2, fun y hy => ⟨(hs y hy).1, Nat.lt_of_lt_of_le (hs y hy).2 hQ.2.2.2⟩, hEL, _, _, Fr.app N hQ.2.1, fun _ => rfl, X1, (State.WarmedH.refl x.s).since _, hZ, ho, fun q => by cases q⟩ hQ.2.2.2 hQ.1
    exact ⟨s₂, o, stp.trans a1, r⟩
  | true =>
    obtain ⟨v, _, ⟨T1, L1, k1, n1⟩, -, X1, hS1, hgr, ⟨Lc, hQ, l1, y1, z1, hCr⟩, stp⟩ := X.virtualBackUpS hx (x := y) (y := z) ho (mvT (s := x.s.setVm vm0) hZ w1) (mvT (s := x.s.setVm vm0) hZ wsm) (mvT (s := x.s.setVm vm0) hZ wd1) hy (mvT (s := x.s.setVm vm0) hZ ws) (mvT (s := x.s.setVm vm0) hZ w2) (backW (s := x.s) (Wn := Wn) C hZ w4 w3 hr.1 hr.2.1 hEL (hC rfl).1.1 (fun y hy => ⟨(hs y (hsub y hy)).2, (hC rfl).2 y (hsub y hy)⟩)) qa qc (g := mkF x.m pc ls (argsL.reverse ++ .ref a :: rest)) rfl (hz.trans hm.symm) (Steps.refl _) (argsL := argsL) (rest := rest) hlen rfl hWW (Jvm.hb hb hd) (fun _ _ => ⟨rfl, e0, hr.2.2.1, hr.2.2.2⟩)
    dsimp only [Pt.U, Pt.locs, Pt.cells, Pt.slots] at X1 l1 y1 z1 stp hQ hS1 hgr hCr
    subst l1 y1 z1
    rw [e0] at hgr
    obtain ⟨Xr, Sr, Zr, Or⟩ := rebS (s := x.s) (vm0 := vm0) S hgr X1 hS1 (Nat.le_refl _) hZ ho
    obtain ⟨s₂, o, a1, r⟩ := K T1 T1.heap v ⟨hx, hb, hm, hret, hn, hl, rfl, hQ.2.2.1, hr.2.2.1, hr.2.2.2, fun y hy => ⟨(hs y hy).1, Nat.lt_of_lt_of_le (hs y hy).2 hgr⟩, hEL, _, _, Fr.app N hQ.2.1, (fun q => by cases q), Xr, Sr, Zr, Or, fun _ => ⟨(hC rfl).1.trans hCr, fun y hy => hCr.safe (hs y hy).2 ((hC rfl).2 y hy)⟩⟩ hgr hQ.1
    exact ⟨s₂, o, stp.trans a1, r⟩
theorem W.lsw (w : W x wd l Z EL R own code mx ret nm T h k n sf) {dflt off : Int} {pairs : Array (Int × Int)} {len : Nat} {i : Int32} (hd : Dc code pc (.lookupswitch dflt pairs) len pc') (hp : (pairs.toList.zip (pairs.toList.drop 1)).all (fun (a, next) => a.1 < next.1) = true) (ho : (match pairs.find? (·.1 == i.toInt) with | some (_, o) => o | none => dflt) = off) (ht : Tg pc off pcT) (K : Go x wd Z EL R Q T pcT ls st) : Go x wd Z EL R Q T pc ls (.int i :: st) := by
  obtain ⟨hd, rfl⟩ := hd
  obtain ⟨ht, rfl⟩ := ht
  obtain ⟨hx, hb, hm, hr, hn, hl, e0, E, c1, c2, hs, hEL, L, vm0, N, g, X, S, hZ, ho', hC⟩ := w
  obtain ⟨s₂, o, a1, r⟩ := K
  refine ⟨s₂, o, ?_, r⟩
  rcases hf : pairs.find? (·.1 == i.toInt) with _ | ⟨a, off'⟩
  · simp only [hf] at ho
    subst ho
    exact X.lookupswitchMiss hx (g := mkF x.m pc ls (.int i :: st)) rfl rfl (Jvm.hb hb hd) hp hf ht _ a1
  · simp only [hf] at ho
    subst ho
    exact X.lookupswitchHit hx (g := mkF x.m pc ls (.int i :: st)) rfl rfl (Jvm.hb hb hd) hp hf ht _ a1
theorem W.instNo (w : W x wd l Z EL R own code mx ret nm T h k n sf) {i : Nat} {a : Addr} {C K0 : String} (hd : Dc code pc (.instanceof i) 3 pc') (wl : (Jvm.Cond.classLink own i K0).before a0 Z = true) (E : Exa Z h a C) (F : ∃ c t, Z.vm.findClass C = some c ∧ Z.vm.findClass K0 = some t ∧ Z.vm.assignable c t = false) (K : ∀ T', W x wd l Z EL R own code mx ret nm T' h k n sf → Go x wd Z EL R Q T' pc' ls (.int 0 :: st)) : Go x wd Z EL R Q T pc ls (.ref a :: st) := by
  obtain ⟨hd, rfl⟩ := hd
  exact w.goT (fun s0 L X hx hZ ho hb hm e0 => RoadKit.instNo X hx hZ ho wl e0 E F (g := mkF x.m pc ls (.ref a :: st)) rfl rfl (Jvm.hb hb hd)) K
theorem W.ldc2J (w : W x wd l Z EL R own code mx ret nm T h k n sf) {i : Nat} {v : Int64} (hd : Dc code pc (.ldc2_w i) 3 pc') (wc : (Jvm.Cond.constantLong own i v).before a0 Z = true) (K : Go x wd Z EL R Q T pc' ls (.long v :: st)) : Go x wd Z EL R Q T pc ls st := by
  obtain ⟨hd, rfl⟩ := hd
  obtain ⟨hx, hb, hm, hr, hn, hl, e0, E, c1, c2, hs, hEL, L, vm0, N, g, X, S, hZ, ho, hC⟩ := w
  obtain ⟨s₂, o, a1, r⟩ := K
  exact ⟨s₂, o, X.ldc2J hx ho (mv (s := x.s.setVm vm0) hZ wc) rfl (Jvm.hb hb hd) a1, r⟩
theorem W.instNull (w : W x wd l Z EL R own code mx ret nm T h k n sf) {i : Nat} (hd : Dc code pc (.instanceof i) 3 pc') (K : Go x wd Z EL R Q T pc' ls (.int 0 :: st)) : Go x wd Z EL R Q T pc ls (.null :: st) := by
  obtain ⟨hd, rfl⟩ := hd
  obtain ⟨hx, hb, hm, hr, hn, hl, e0, E, c1, c2, hs, hEL, L, vm0, N, g, X, S, hZ, ho, hC⟩ := w
  obtain ⟨s₂, o, a1, r⟩ := K
  exact ⟨s₂, o, X.instanceofNull hx (g := mkF x.m pc ls (.null :: st)) rfl rfl (Jvm.hb hb hd) _ a1, r⟩
theorem W.getFR (w : W x wd l Z EL R own code mx ret nm T h k n sf) {i : Nat} {a : Addr} {O f d : String} {v : Value} (hd : Dc code pc (.getfield i) 3 pc') (wl : (Jvm.Cond.fieldRef own i O f d).before a0 Z = true) (F : Fld Z h a O f d v) (K : Go x wd Z EL R Q T pc' ls (v :: st)) : Go x wd Z EL R Q T pc ls (.ref a :: st) := by
  obtain ⟨hd, rfl⟩ := hd
  obtain ⟨hx, hb, hm, hr, hn, hl, e0, E, c1, c2, hs, hEL, L, vm0, N, g, X, S, hZ, ho, hC⟩ := w
  obtain ⟨s₂, o, a1, r⟩ := K
  obtain ⟨cell, cf, kk, ii, fl, h1, h2, h3, h4, -, -, h7⟩ := F
  have hZT : Z.Warmed39 T.vm := wtrans (s := x.s.setVm vm0) hZ X.warmed
  have hq := Cond.fieldRef_warmed39 hZT wl
  have hoT : (Z.setVm T.vm).vm.findClass own = some x.m.cls := (X.warmed.alike.findClass _ _).trans ho
  obtain ⟨q1, q2, q3, q4, g1, g2⟩ := Cond.fieldRef_spec hoT hq
  obtain ⟨k', hi, -⟩ := State.fieldFound?_setVm (s := Z) hZT.alike h2
  cases hi.symm.trans g1
  have hd' := Jvm.hb hb hd
  have g2' : T.vm.fieldReady x.m.cls i cf fl := g2
  refine ⟨s₂, o, ?_, r⟩
  show Steps x.p.tables x.e x.below (T.setTop { method := x.m, pc := pc, locals := ls, stack := .ref a :: st, locked := none }) _
  jvm_step X.here [hx, hd', getfield.wp_ready (e := x.e) (s := T) (f := mkF x.m pc ls (.ref a :: st)) X.here.top g2' h3 rfl (show T.heap[a]? = some cell by rw [e0]; exact h1) h4 h7]
  exact a1
theorem W.ldcS (w : W x true l Z EL R own code mx ret nm T h k n sf) {i : Nat} {text : String} (nn : Nat) (hd : Dc code pc (.ldc i) 2 pc') (wl : (Jvm.Cond.stringLink own i text).before a0 Z = true) (wS : ∀ a ∈ Bundle.stringAtoms, a.before a0 Z = true) (hEL : EW Z a0 EL) (hn4 : 4 * text.toList.length ≤ nn) (hbig : nn ≤ 536870912) (hr : k + 2 ≤ R.cells ∧ n + (nn + 4) ≤ R.slots) (K : ∀ (a : Addr) T' h', W x true l Z EL R own code mx ret nm T' h' (k + 2) (n + (nn + 4)) sf → Ext h h' → Go x true Z EL R Q T' pc' ls (.ref a :: st)) : Go x true Z EL R Q T pc ls st := by
  obtain ⟨hd, rfl⟩ := hd
  obtain ⟨hx, hb, hm, hret, hnm, hl, e0, E, c1, c2, hs, -, L, vm0, N, g, X, S, hZ, ho, hC⟩ := w
  obtain ⟨a, T', h', k1, X', e', E', S', hk1, Z', o', hCr, -, stp⟩ := ldcOH X hx hZ ho wl wS e0 S (Nat.le_refl _) hEL (hC rfl).1.1 (g := mkF x.m pc ls st) rfl (Jvm.hb hb hd) hn4 hbig hr.1 hr.2
  obtain ⟨s₂, o, a1, r⟩ := K a T' h' ⟨hx, hb, hm, hret, hnm, hl, e', ext_trans E E', hr.1, hr.2, fun y hy => ⟨(hs y hy).1, Nat.lt_of_lt_of_le (hs y hy).2 E'.1⟩, ⟨a0, hEL⟩, L, _, N, (fun q => by cases q), X', since_mono S' hk1, Z', o', fun _ => ⟨(hC rfl).1.trans hCr, fun y hy => hCr.safe (hs y hy).2 ((hC rfl).2 y hy)⟩⟩ E'
  exact ⟨s₂, o, stp _ a1, r⟩
theorem W.ldcR (w : W x true l Z EL R own code mx ret nm T h k n sf) {i : Nat} {text : String} {vs : List Value} (z : Int32) (nn : Nat) (hd : Dc code pc (.ldc i) 2 pc') (wl : (Jvm.Cond.stringLink own i text).before a0 Z = true) (wS : ∀ a ∈ Bundle.stringAtoms, a.before a0 Z = true) (hEL : EW Z a0 EL) (hmem : (own, i) ∈ EL) (ht : (∀ c ∈ text.toList, c.toNat < 256) ∧ text.toList.map (fun c => Value.int (Jvm.Lit.byteI c.toNat.toUInt16)) = vs) (hz : ¬ z < 0) (hlz : z.toNatClampNeg = vs.length) (hn4 : 4 * text.toList.length ≤ nn) (hbig : nn ≤ 536870912) (hr : k + 2 ≤ R.cells ∧ n + (nn + 4) ≤ R.slots) (K : ∀ (a b : Addr) kb T' h', W x true l Z EL R own code mx ret nm T' h' (k + 2) (n + (nn + 4)) sf → Ext h h' → Exa Z h' a "java/lang/String" → Fld Z h' a "java/lang/String" "coder" "B" (.int 0) → Fld Z h' a "java/lang/String" "value" "[B" (.ref b) → Arv Z h' b kb .byte z vs (.int 0) → (∀ y ∈ sf, y ≠ a ∧ y ≠ b) → Go x true Z EL R Q T' pc' ls (.ref a :: st)) : Go x true Z EL R Q T pc ls st := by
  obtain ⟨hd, rfl⟩ := hd
  obtain ⟨hx, hb, hm, hret, hnm, hl, e0, E, c1, c2, hs, -, L, vm0, N, g, X, S, hZ, ho, hC⟩ := w
  obtain ⟨a, T', h', k1, b, kb, X', e', E', S', hk1, Z', o', q1, q2, q3, q4, -, -, hCr, -, hne, stp⟩ := ldcCH X hx hZ ho wl wS e0 S (Nat.le_refl _) hEL hmem (hC rfl).1.1 ht hz hlz (g := mkF x.m pc ls st) rfl (Jvm.hb hb hd) hn4 hbig hr.1 hr.2
  have hsf : ∀ y ∈ sf, Safe Z EL T'.vm h' y := fun y hy => hCr.safe (hs y hy).2 ((hC rfl).2 y hy)
  obtain ⟨s₂, o, a1, r⟩ := K a b kb T' h' ⟨hx, hb, hm, hret, hnm, hl, e', ext_trans E E', hr.1, hr.2, fun y hy => ⟨(hs y hy).1, Nat.lt_of_lt_of_le (hs y hy).2 E'.1⟩, ⟨a0, hEL⟩, L, _, N, (fun q => by cases q), X', since_mono S' hk1, Z', o', fun _ => ⟨(hC rfl).1.trans hCr, hsf⟩⟩ E' q1 q2 q3 q4 (fun y hy => hne y (hsf y hy))
  exact ⟨s₂, o, stp _ a1, r⟩
end Laws
theorem eqv_int {args : Array Value} {first s : State} {o : Option Outcome} {idx : List Nat} {a b : Term} {z : Int32} (h : (Jvm.Cond.eq a b).value args first o s idx = some true) (hb : b.eval args first o idx s = some (.int z)) : a.eval args first o idx s = some (.int z) := by
  cases ha : a.eval args first o idx s with
  | none => simp [Jvm.Cond.value, ha, hb] at h
  | some v => cases v <;> simp [Jvm.Cond.value, ha, hb] at h ⊢; exact h
theorem eqv_ref {args : Array Value} {first s : State} {o : Option Outcome} {idx : List Nat} {a b : Term} {z : Addr} (h : (Jvm.Cond.eq a b).value args first o s idx = some true) (hb : b.eval args first o idx s = some (.ref z)) : a.eval args first o idx s = some (.ref z) := by
  cases ha : a.eval args first o idx s with
  | none => simp [Jvm.Cond.value, ha, hb] at h
  | some v => cases v <;> simp [Jvm.Cond.value, ha, hb] at h ⊢; exact h
theorem sta_exa {Z : State} {args : Array Value} {C f d K : String} (hx : (Jvm.Cond.exactly (.static C f d) K).value args Z none Z [] = some true) (hi : (Jvm.Cond.initialized C).before args Z = true) (hl : (Jvm.Cond.laysStatic C f d).before args Z = true) :
    ∃ a, (Term.static C f d).eval args Z none [] Z = some (.ref a) ∧ Sta Z Z.heap C f d (.ref a) ∧ Exa Z Z.heap a K := by
  obtain ⟨a, ev⟩ := exa_v hx
  exact ⟨a, ev, Sta.start ev (Or.inr ⟨hi, hl⟩), Exa.start ev hx⟩
theorem fld_int {Z : State} {args : Array Value} {t : Term} {C f d : String} {z : Int32} {a : Addr} (h : (Jvm.Cond.eq (.field t C f d) (.int z)).value args Z none Z [] = some true) (ht : t.eval args Z none [] Z = some (.ref a)) : Fld Z Z.heap a C f d (.int z) :=
  Fld.start (by rw [← fld_at ht]; exact eqv_int h (Term.int_eval z))
theorem fld_ref {Z : State} {args : Array Value} {t u : Term} {C f d : String} {a b : Addr} (h : (Jvm.Cond.eq (.field t C f d) u).value args Z none Z [] = some true) (ht : t.eval args Z none [] Z = some (.ref a)) (hu : u.eval args Z none [] Z = some (.ref b)) : Fld Z Z.heap a C f d (.ref b) :=
  Fld.start (by rw [← fld_at ht]; exact eqv_ref h hu)
theorem ord_ne {Z : State} {h : Heap} {a b : Addr} {C f d : String} {u v : Int32} (F : Fld Z h a C f d (.int u)) (G : Fld Z h b C f d (.int v)) (q : u ≠ v) : a ≠ b := Fld.ne F G fun e => q (Value.int.inj e)
/-- a String at a, its bytes in the array at t, its coder k -/
def StrL (Z : State) (h : Heap) (a t : Addr) (k : Int32) (bs : List Int32) : Prop :=
  Exa Z h a "java/lang/String" ∧ Fld Z h a "java/lang/String" "value" "[B" (.ref t) ∧ Fld Z h a "java/lang/String" "coder" "B" (.int k) ∧ ∃ kb, Arv Z h t kb .byte (Int32.ofNat bs.length) (bs.map .int) (.int 0) ∧ bs.length < 2 ^ 31
section StrFacts
variable {Z : State} {h h' : Heap} {a t : Addr} {k : Int32} {bs : List Int32}
theorem StrL.ext (F : StrL Z h a t k bs) (E : Ext h h') : StrL Z h' a t k bs := ⟨F.1.ext E, F.2.1.ext E, F.2.2.1.ext E, by obtain ⟨kb, A, q⟩ := F.2.2.2; exact ⟨kb, A.ext E, q⟩⟩
theorem StrL.keep {ws : List Addr} (F : StrL Z h a t k bs) (K : Keep h h' ws) (q1 : a ∉ ws) (q2 : t ∉ ws) : StrL Z h' a t k bs := ⟨F.1.keep K, F.2.1.keep K q1, F.2.2.1.keep K q1, by obtain ⟨kb, A, q⟩ := F.2.2.2; exact ⟨kb, A.keep K q2, q⟩⟩
theorem StrL.wr {x : Addr} {sl : Nat} {v : Value} (F : StrL Z h a t k bs) (W : Wr h h' x sl v) (q1 : a ≠ x) (q2 : t ≠ x) : StrL Z h' a t k bs := F.keep (Keep.of_wr W) (ninS q1 nin0) (ninS q2 nin0)
theorem StrL.lt (F : StrL Z h a t k bs) : a < h.size := F.1.lt
theorem StrL.lt' (F : StrL Z h a t k bs) : t < h.size := by obtain ⟨kb, A, -⟩ := F.2.2.2; exact A.lt
theorem ofN_toInt {n : Nat} (h : n < 2 ^ 31) : (Int32.ofNat n).toInt = (n : Int) := Int32.toInt_ofNat_small h
theorem ofN_clamp {n : Nat} (h : n < 2 ^ 31) : (Int32.ofNat n).toNatClampNeg = n := by simp only [Int32.toNatClampNeg, ofN_toInt h]; rfl
theorem ofN_nn {n : Nat} (h : n < 2 ^ 31) : ¬ Int32.ofNat n < 0 := by rw [Int32.lt_iff_toInt_lt, ofN_toInt h]; exact Int.not_lt.mpr (Int.natCast_nonneg n)
theorem ofN_lt {i n : Nat} (hi : i < 2 ^ 31) (hn : n < 2 ^ 31) : Int32.ofNat i < Int32.ofNat n ↔ i < n := by rw [Int32.lt_iff_toInt_lt, ofN_toInt hi, ofN_toInt hn]; omega
theorem ofN_inj {i n : Nat} (hi : i < 2 ^ 31) (hn : n < 2 ^ 31) : Int32.ofNat i = Int32.ofNat n ↔ i = n := by rw [← Int32.toInt_inj, ofN_toInt hi, ofN_toInt hn]; omega
theorem ofN_succ {i : Nat} (hi : i + 1 < 2 ^ 31) : Int32.ofNat i + 1 = Int32.ofNat (i + 1) := by
  rw [← Int32.toInt_inj, ofN_toInt hi]
  have q := c_iadd (Int32.ofNat i) 1
  have r := rng32 (Int32.ofNat i + 1)
  rw [ofN_toInt (by omega), show (1 : Int32).toInt = 1 from rfl] at q
  omega
theorem mapGet (bs : List Int32) (i : Nat) : (bs.map Value.int).getD i (.int 0) = .int (bs.getD i 0) := by
  simp only [List.getD_eq_getElem?_getD, List.getElem?_map]; cases bs[i]? <;> rfl
theorem list_eq {bs cs : List Int32} (h : bs.length = cs.length) (q : ∀ j, j < bs.length → bs.getD j 0 = cs.getD j 0) : bs = cs := by
  refine List.ext_getElem h fun i h1 h2 => ?_
  have := q i h1
  simpa [List.getD_eq_getElem?_getD, List.getElem?_eq_getElem h1, List.getElem?_eq_getElem h2] using this
theorem StrL.same {t' : Addr} {k' : Int32} {cs : List Int32} (F : StrL Z h a t k bs) (G : StrL Z h a t' k' cs) : bs = cs := by
  obtain ⟨-, F1, -, kb, A, hb⟩ := F
  obtain ⟨-, G1, -, kc, B, hc⟩ := G
  have e : t = t' := by
    by_cases q : t = t'
    · exact q
    · exact absurd rfl (Fld.ne F1 G1 fun z => q (Value.ref.inj z))
  subst e
  obtain ⟨c1, a1, -, s1, -, h1, -⟩ := A
  obtain ⟨c2, b1, -, s2, -, h2, -⟩ := B
  cases a1.1.symm.trans b1.1
  rw [ofN_clamp hb] at s1
  rw [ofN_clamp hc] at s2
  refine list_eq (s1.symm.trans s2) fun j hj => ?_
  have e1 := h1 j (by rw [s1]; exact hj)
  have e2 := h2 j (by rw [s1]; exact hj)
  rw [mapGet] at e1 e2
  exact Value.int.inj (Option.some.inj (e1.symm.trans e2))
end StrFacts
theorem b255' {c : Int32} (c0 : 0 ≤ c.toInt) (c1 : ¬ 255 < c) : nar .byte c &&& (255 : Int32) = c := by
  rw [Int32.lt_iff_toInt_lt, show (255 : Int32).toInt = 255 from rfl] at c1
  have e1 := c_i2b c
  have e2 := c_mask (nar .byte c) 255 8 (by decide) (by decide)
  apply Int32.toInt_inj.mp
  rw [e2]
  simp only [nar]
  omega
theorem nchar {c : Int32} (c0 : 0 ≤ c.toInt) (c1 : ¬ 255 < c) : nar .char c = c := by
  rw [Int32.lt_iff_toInt_lt, show (255 : Int32).toInt = 255 from rfl] at c1
  have e1 := c_i2c c
  apply Int32.toInt_inj.mp
  simp only [nar]
  omega
theorem b255 {c : Int32} (c0 : 0 ≤ c.toInt) (c1 : ¬ 255 < c) : nar .char (nar .byte c &&& (255 : Int32)) = c := by rw [b255' c0 c1]; exact nchar c0 c1
theorem nb_inj {c d : Int32} (c0 : 0 ≤ c.toInt) (c1 : ¬ 255 < c) (d0 : 0 ≤ d.toInt) (d1 : ¬ 255 < d) (h : nar .byte c = nar .byte d) : c = d := by
  rw [Int32.lt_iff_toInt_lt, show (255 : Int32).toInt = 255 from rfl] at c1 d1
  have h2 : (nar .byte c).toInt = (nar .byte d).toInt := by rw [h]
  have e1 := c_i2b c
  have e2 := c_i2b d
  simp only [nar] at h2
  apply Int32.toInt_inj.mp
  omega
theorem nbb (c : Int32) : nar .byte (nar .byte c) = nar .byte c := by simp [nar]
theorem ncc (c : Int32) : nar .char (nar .char c) = nar .char c := by
  have := XT.narrow_c c
  simp only [narrow, Value.int.injEq] at this
  exact this
theorem nar_and (c : Int32) : nar .char (c &&& 255) = c &&& 255 := i2c_mask c
theorem le255 (c : Int32) : ¬ 255 < c &&& 255 := by
  rw [Int32.lt_iff_toInt_lt]; exact Int.not_lt.mpr (c_and c 255 (by decide)).2
theorem le255n (c : Int32) : ¬ 255 < nar .char (c &&& 255) := by rw [nar_and]; exact le255 c
theorem fnb (c : Int32) : fits .byte (.int (nar .byte c)) = true := fits_nar_byte c
theorem fnc (c : Int32) : fits .char (.int (nar .char c)) = true := fits_nar_char c
theorem cmpL_lt (x y : Int64) : XT.cmpL x y < 0 ↔ x < y := by
  unfold XT.cmpL; split <;> (try split) <;> simp_all [Int64.lt_iff_toInt_lt, ← Int64.toInt_inj] <;> omega
theorem cmpL_gt (x y : Int64) : 0 < XT.cmpL x y ↔ y < x := by
  unfold XT.cmpL; split <;> (try split) <;> simp_all [Int64.lt_iff_toInt_lt, ← Int64.toInt_inj] <;> omega
theorem ns_root {Z : State} {a0 : Array Value} {O K : String} {n : Nat} (w : (Jvm.Cond.noSuperclass O).before a0 Z = true) (wk : (Jvm.Cond.instantiable K n).before a0 Z = true) (hn : O ≠ K) : NS Z O K := by
  obtain ⟨c, k, h1, h2, h3, -, -⟩ := Cond.noSuperclass_spec w
  obtain ⟨t, kt, g1, -⟩ := Cond.instantiable_spec wk
  have ne := ids_ne h1 g1 hn
  refine ⟨c, t, h1, g1, fun fuel => ?_⟩
  cases fuel with
  | zero => rfl
  | succ f => simp [Vm.isSubclassAux, ne, h2, h3]
theorem ns_no {Z : State} {a0 : Array Value} {C S K : String} {n : Nat} (w : (Jvm.Cond.superclass C S).before a0 Z = true) (wk : (Jvm.Cond.instantiable K n).before a0 Z = true) (m : NS Z C K) (hn : C ≠ K) : ∃ c t, Z.vm.findClass C = some c ∧ Z.vm.findClass K = some t ∧ Z.vm.assignable c t = false := by
  obtain ⟨c, t, h0, g0, n3⟩ := m
  obtain ⟨p, k, kp, h1, h2, h3, h4, h5, -, h7⟩ := Cond.superclass_spec h0 w
  obtain ⟨t', kt, g1, g2, g5, g7, -⟩ := Cond.instantiable_spec wk
  cases g0.symm.trans g1
  have ne := ids_ne h0 g0 hn
  have g8 : kt.isInterface = false := (Bool.or_eq_false_iff.mp g7).1
  refine ⟨c, t, h0, g0, ?_⟩
  show Z.vm.assignableAux (255 + 1) c t = false
  simp [Vm.assignableAux, ne, h2, g2, h5, g5, g8, Vm.isSubclass, n3]
/-- an array of boxes that stood at the start: each of its class -/
def Bx (Z : State) (a : Addr) (cl : Cell) (K : String) (z : Int32) : Prop :=
  Arr Z Z.heap a cl (.object K) ∧ cl.slots.size = z.toNatClampNeg ∧ ¬ z < 0 ∧ ∀ j : Int32, ¬ (j < 0 ∨ cl.slots.size ≤ j.toNatClampNeg) → ∃ b : Addr, cl.slots[j.toNatClampNeg]? = some (.ref b) ∧ Exa Z Z.heap b K
theorem Bx.start {Z : State} {a0 : Array Value} {t : Term} {c : Jvm.Cond} {a : Addr} {K : String} {z : Int32} (et : ∀ idx, t.eval a0 Z none idx Z = some (.ref a)) (ha : (Jvm.Cond.arrayOf t (.object K)).value a0 Z none Z [] = some true) (hl : (Jvm.Cond.eq (.length t) (.int z)).value a0 Z none Z [] = some true) (hz : ¬ z < 0)
    (h : (Jvm.Cond.all t (.and (.exactly (.elem t (.index 0)) K) c)).value a0 Z none Z [] = some true) : ∃ cl, Bx Z a cl K z := by
  obtain ⟨cl, A⟩ := Arr.start (et []) ha
  have e1 := eqv_int hl (Term.int_eval z)
  obtain ⟨a', cl', e2, e3, e4⟩ := Term.length_spec e1
  cases (et []).symm.trans e2
  cases (State.arrayAt?_spec e3).1.symm.trans A.1
  have q : cl.slots.size < 2 ^ 31 := by
    simp only [Term.eval, et [], e3, Option.bind_eq_bind, Option.bind_some] at e1
    by_cases q : cl.slots.size < 2 ^ 31
    · exact q
    · simp [q] at e1
  have e := (Value.int.inj e4).symm
  refine ⟨cl, A, by rw [← e]; simp only [Int32.toNatClampNeg, len_toInt q]; rfl, hz, fun j hj => ?_⟩
  have nn : ¬ j < 0 := fun x => hj (Or.inl x)
  obtain ⟨u1, -⟩ := and_e (Cond.all_elim (et []) (A.fin (Vm.Alike.refl _)) h j.toNatClampNeg (Nat.lt_of_not_le fun x => hj (Or.inr x)))
  obtain ⟨box, eb⟩ := exa_v u1
  exact ⟨box, (elem_f (et _) (idx_at nn) (A.fin (Vm.Alike.refl _)) nn).symm.trans eb, exa_at eb u1⟩
theorem natOf {i : Int32} {n : Nat} (h0 : 0 ≤ i.toInt) (h1 : i.toInt < (n : Int)) : ∃ j : Nat, j < n ∧ i = Int32.ofInt (j : Int) := ⟨i.toInt.toNat, by omega, by rw [Int.toNat_of_nonneg h0]; exact (Int32.ofInt_toInt i).symm⟩
theorem own_in {i z : Int32} {D : Int} (h0 : 0 ≤ i.toInt) (h1 : i.toInt < D) (hz : z.toInt = D) : ¬ i < 0 ∧ i < z := ⟨by rw [Int32.lt_iff_toInt_lt]; exact Int.not_lt.mpr h0, by rw [Int32.lt_iff_toInt_lt, hz]; exact h1⟩
theorem modR (k d : Int32) (D : Int) (hd : d.toInt = D) (hD : 0 < D) : 0 ≤ ((k &&& 2147483647) % d).toInt ∧ ((k &&& 2147483647) % d).toInt < D := by
  have h := (c_and k 2147483647 (by decide)).1
  rw [(c_irem _ d D hd).1 h]; exact ⟨Int.emod_nonneg _ (by omega), Int.emod_lt_of_pos _ hD⟩
theorem and1 (k : Int32) : k &&& 1 = 0 ∨ k &&& 1 = 1 := by
  obtain ⟨j, h, e⟩ := natOf (n := 2) (c_and k 1 (by decide)).1 (Int.lt_of_le_of_lt (c_and k 1 (by decide)).2 (by decide))
  rw [e]
  have h2 : j = 0 ∨ j = 1 := by omega
  rcases h2 with rfl | rfl
  · exact Or.inl rfl
  · exact Or.inr rfl
theorem and3 (k : Int32) : k &&& 3 = 0 ∨ k &&& 3 = 1 ∨ k &&& 3 = 2 ∨ k &&& 3 = 3 := by
  obtain ⟨j, h, e⟩ := natOf (n := 4) (c_and k 3 (by decide)).1 (Int.lt_of_le_of_lt (c_and k 3 (by decide)).2 (by decide))
  rw [e]
  have h2 : j = 0 ∨ j = 1 ∨ j = 2 ∨ j = 3 := by omega
  rcases h2 with rfl | rfl | rfl | rfl
  · exact Or.inl rfl
  · exact Or.inr (Or.inl rfl)
  · exact Or.inr (Or.inr (Or.inl rfl))
  · exact Or.inr (Or.inr (Or.inr rfl))
theorem maskNeg (k : Int32) : ¬ (k &&& 2147483647) < 0 := by
  rw [Int32.lt_iff_toInt_lt]; exact Int.not_lt.mpr (c_and k 2147483647 (by decide)).1
/-- an array that stood at the start, by the case's words -/
theorem arv_start {Z : State} {a0 : Array Value} {t : Term} {a : Addr} {ty : FieldType} {z : Int32} {vs : List Value} {dv : Value} (hF : Fit Z) (ha : (Jvm.Cond.arrayOf t ty).value a0 Z none Z [] = some true) (ht : t.eval a0 Z none [] Z = some (.ref a)) (hl : (Jvm.Cond.eq (.length t) (.int z)).value a0 Z none Z [] = some true)
    (hz : ¬ z < 0) (hn : z.toNatClampNeg = vs.length) (H : ∀ cl : Cell, Z.heap[a]? = some cl → HasL cl 0 vs) : ∃ kc, Arv Z Z.heap a kc ty z vs dv := by
  obtain ⟨cl, A⟩ := Arr.start ht ha
  have e1 := eqv_int hl (Term.int_eval z)
  obtain ⟨a', cl', e2, e3, e4⟩ := Term.length_spec e1
  cases ht.symm.trans e2
  cases (State.arrayAt?_spec e3).1.symm.trans A.1
  have hb : cl.slots.size < 2 ^ 31 := by
    simp only [Term.eval, ht, e3, Option.bind_eq_bind, Option.bind_some] at e1
    by_cases q : cl.slots.size < 2 ^ 31
    · exact q
    · simp [q] at e1
  exact ⟨cl.cls, Arv.start hF A hb (Value.int.inj e4).symm hz hn (H cl A.1)⟩
theorem elem_slot {Z : State} {a0 : Array Value} {t u : Term} {a b : Addr} {j : Int32} {n : Nat} {cl : Cell} (h : (Jvm.Cond.eq (.elem t (.int j)) u).value a0 Z none Z [] = some true) (ht : t.eval a0 Z none [] Z = some (.ref a)) (hu : u.eval a0 Z none [] Z = some (.ref b)) (hn : j.toNatClampNeg = n) (hc : Z.heap[a]? = some cl) : cl.slots[n]? = some (.ref b) := by
  subst hn
  exact (elem_in (eqv_ref h hu) ht (Term.int_eval j) hc).2
theorem elem_slotI {Z : State} {a0 : Array Value} {t : Term} {a : Addr} {j b : Int32} {n : Nat} {cl : Cell} (h : (Jvm.Cond.eq (.elem t (.int j)) (.int b)).value a0 Z none Z [] = some true) (ht : t.eval a0 Z none [] Z = some (.ref a)) (hn : j.toNatClampNeg = n) (hc : Z.heap[a]? = some cl) : cl.slots[n]? = some (.int b) := by
  subst hn
  exact (elem_in (eqv_int h (Term.int_eval b)) ht (Term.int_eval j) hc).2
theorem len_start {Z : State} {a0 : Array Value} {t : Term} {a : Addr} {cl : Cell} {ty : FieldType} {z : Int32} (A : Arr Z Z.heap a cl ty) (ht : t.eval a0 Z none [] Z = some (.ref a)) (hl : (Jvm.Cond.eq (.length t) (.int z)).value a0 Z none Z [] = some true) : cl.slots.size = z.toNatClampNeg := by
  have e1 := eqv_int hl (Term.int_eval z)
  obtain ⟨a', cl', e2, e3, e4⟩ := Term.length_spec e1
  cases ht.symm.trans e2
  cases (State.arrayAt?_spec e3).1.symm.trans A.1
  have q : cl.slots.size < 2 ^ 31 := by
    simp only [Term.eval, ht, e3, Option.bind_eq_bind, Option.bind_some] at e1
    by_cases q : cl.slots.size < 2 ^ 31
    · exact q
    · simp [q] at e1
  have e := (Value.int.inj e4).symm
  rw [← e]; simp only [Int32.toNatClampNeg, len_toInt q]; rfl
theorem hasL_rep {cl : Cell} {v : Value} : ∀ (n i : Nat), (∀ j, i ≤ j → j < i + n → cl.slots[j]? = some v) → HasL cl i (List.replicate n v)
  | 0, _, _ => trivial
  | n + 1, i, h => ⟨h i (Nat.le_refl _) (by omega), hasL_rep n (i + 1) fun j h1 h2 => h j (by omega) (by omega)⟩
/-- a String that stood at the start, by the case's words -/
theorem str_start {Z : State} {a0 : Array Value} {t : Term} {a : Addr} {z : Int32} {bs : List Int32} (hF : Fit Z) (ht : t.eval a0 Z none [] Z = some (.ref a)) (hx : (Jvm.Cond.exactly t "java/lang/String").value a0 Z none Z [] = some true) (hc : (Jvm.Cond.eq (.field t "java/lang/String" "coder" "B") (.int 0)).value a0 Z none Z [] = some true) (ha : (Jvm.Cond.arrayOf (.field t "java/lang/String" "value" "[B") .byte).value a0 Z none Z [] = some true) (hl : (Jvm.Cond.eq (.length (.field t "java/lang/String" "value" "[B")) (.int z)).value a0 Z none Z [] = some true) (hz : ¬ z < 0) (hn : z = Int32.ofNat bs.length) (hb : bs.length < 2 ^ 31)
    (H : ∀ (b : Addr) (cl : Cell), (Term.field t "java/lang/String" "value" "[B").eval a0 Z none [] Z = some (.ref b) → Arr Z Z.heap b cl .byte → cl.slots.size = bs.length → HasL cl 0 (bs.map .int)) : ∃ b, StrL Z Z.heap a b 0 bs := by
  obtain ⟨b, eb⟩ := arr_v ha
  obtain ⟨cl0, A0⟩ := Arr.start eb ha
  have hs := len_start A0 eb hl
  subst hn
  obtain ⟨kc, A⟩ := arv_start (vs := bs.map .int) (dv := .int 0) hF ha eb hl hz (by rw [ofN_clamp hb, List.length_map]) (fun cl hcl => by cases A0.1.symm.trans hcl; exact H b _ eb A0 (by rw [hs, ofN_clamp hb]))
  exact ⟨b, Exa.start ht hx, Fld.start (by rw [← fld_at ht]; exact eb), fld_int hc ht, kc, A, hb⟩
theorem str_all {Z : State} {a0 : Array Value} {F : Term} {b : Addr} {cl : Cell} {n : Nat} {v : Int32} (eF : ∀ idx, F.eval a0 Z none idx Z = some (.ref b)) (A : Arr Z Z.heap b cl .byte) (hs : cl.slots.size = n) (hn : n < 2 ^ 31) (hall : (Jvm.Cond.all F (.eq (.elem F (.index 0)) (.int v))).value a0 Z none Z [] = some true) : HasL cl 0 (List.replicate n (.int v)) :=
  hasL_rep n 0 fun j _ hj => by
    have h31 : j < 2 ^ 31 := by omega
    have u := Cond.all_elim (eF []) (A.fin (Vm.Alike.refl _)) hall j (by omega)
    have ix := idx_at (s := Z) (args := a0) (first := Z) (o := none) (j := Int32.ofNat j) (ofN_nn h31)
    rw [ofN_clamp h31] at ix
    have e := elem_f (eF [j]) ix (A.fin (Vm.Alike.refl _)) (ofN_nn h31)
    rw [ofN_clamp h31] at e
    exact e.symm.trans (eqv_int u (Term.int_eval v))
theorem safe_empty {Z : State} {a0 : Array Value} {vm : Vm} {h : Heap} {d : Addr} {kd : ClassId} {z : Int32} {vs : List Value} {dv : Value} {own : String} {ix : Nat} (wl : (Jvm.Cond.stringLink own ix "").before a0 Z = true) (hZ : Z.Warmed39 vm) (A : Arv Z h d kd .byte z vs dv) (hz : 0 < z.toNatClampNeg) : Safe Z [(own, ix)] vm h d := fun B => by
  obtain ⟨cl, Ar, -, S, -, -, -⟩ := A
  obtain ⟨A1, ⟨-, kA, hkA, compA, hkindA⟩, -⟩ := Ar
  obtain ⟨kA', hkA', ekA⟩ := hZ.alike.2.2 _ _ hkA
  obtain ⟨p, hp, u, a, hb, q, -, F, rfl | rfl⟩ := B
  · cases (show h[q.sa]? = some q.sC from F.ha).symm.trans A1
    obtain ⟨cS, ⟨-, -, e⟩, ⟨kS, g1, g2, -⟩, -⟩ := F
    subst e
    cases (show vm.classes[q.sC.cls]? = some kS from g1).symm.trans hkA'
    rw [ekA] at g2
    have := hkindA.symm.trans g2
    cases this
  · cases List.mem_singleton.mp hp
    cases (show h[q.sd]? = some q.SA from F.hd).symm.trans A1
    obtain ⟨c, k, cf, i, b1, b2, b3, b4, b5, -⟩ := hb
    obtain ⟨k', cf', i', un, g1, g2, g3, g4, -, g6, -⟩ := Cond.stringLink_spec (s := Z.setVm vm) b1 (Cond.stringLink_warmed39 hZ wl)
    cases (show vm.classes[c]? = some k' from g1).symm.trans b2
    cases g2.symm.trans b3
    have e := g3.symm.trans b4
    cases e
    have e := g4.symm.trans b5
    cases e
    have t := text_bytes_le g6
    obtain ⟨cS, -, -, -, hs⟩ := F
    rw [← hs, S] at t
    exact absurd (Nat.lt_of_lt_of_le hz t) (by decide)
/-- a char out of its two bytes -/
theorem own_gc {c : Int32} (h0 : 0 ≤ c.toInt) (h1 : c.toInt < 65536) : nar .char (((nar .byte (c >>> ((0 : Int32) &&& 31)) &&& (255 : Int32)) <<< ((0 : Int32) &&& 31)) ||| ((nar .byte (c >>> ((8 : Int32) &&& 31)) &&& (255 : Int32)) <<< ((8 : Int32) &&& 31))) = c := by
  have a1 := c_ishr c 0 0 (by decide)
  have a2 := c_ishr c 8 8 (by decide)
  have b1 := c_i2b (c >>> ((0 : Int32) &&& 31))
  have b2 := c_i2b (c >>> ((8 : Int32) &&& 31))
  have m1 := c_mask (nar .byte (c >>> ((0 : Int32) &&& 31))) 255 8 (by decide) (by decide)
  have m2 := c_mask (nar .byte (c >>> ((8 : Int32) &&& 31))) 255 8 (by decide) (by decide)
  have s1 := c_ishl (nar .byte (c >>> ((0 : Int32) &&& 31)) &&& (255 : Int32)) 0 0 (by decide)
  have s2 := c_ishl (nar .byte (c >>> ((8 : Int32) &&& 31)) &&& (255 : Int32)) 8 8 (by decide)
  have r1 := rng32 ((nar .byte (c >>> ((0 : Int32) &&& 31)) &&& (255 : Int32)) <<< ((0 : Int32) &&& 31))
  have r2 := rng32 ((nar .byte (c >>> ((8 : Int32) &&& 31)) &&& (255 : Int32)) <<< ((8 : Int32) &&& 31))
  have o := c_or' ((nar .byte (c >>> ((0 : Int32) &&& 31)) &&& (255 : Int32)) <<< ((0 : Int32) &&& 31)) ((nar .byte (c >>> ((8 : Int32) &&& 31)) &&& (255 : Int32)) <<< ((8 : Int32) &&& 31)) 8 (by decide) 256 (by decide)
  have r3 := rng32 (((nar .byte (c >>> ((0 : Int32) &&& 31)) &&& (255 : Int32)) <<< ((0 : Int32) &&& 31)) ||| ((nar .byte (c >>> ((8 : Int32) &&& 31)) &&& (255 : Int32)) <<< ((8 : Int32) &&& 31)))
  have i := c_i2c (((nar .byte (c >>> ((0 : Int32) &&& 31)) &&& (255 : Int32)) <<< ((0 : Int32) &&& 31)) ||| ((nar .byte (c >>> ((8 : Int32) &&& 31)) &&& (255 : Int32)) <<< ((8 : Int32) &&& 31)))
  apply Int32.toInt_inj.mp
  simp only [nar] at m1 m2 s1 s2 r1 r2 r3 o i ⊢
  omega
/-- null, or a String -/
def Sn (Z : State) (h : Heap) (v : Value) : Prop := v = .null ∨ ∃ s, v = .ref s ∧ Exa Z h s "java/lang/String"
theorem Sn.ext {Z : State} {h h' : Heap} {v : Value} (F : Sn Z h v) (E : Ext h h') : Sn Z h' v := by
  rcases F with q | ⟨s, q, X⟩
  · exact Or.inl q
  · exact Or.inr ⟨s, q, X.ext E⟩
theorem Sn.isRef {Z : State} {h : Heap} {v : Value} (F : Sn Z h v) : v.isRef = true := by rcases F with rfl | ⟨s, rfl, -⟩ <;> rfl
/-- the conjuncts of a condition -/
def ands : Jvm.Cond → List Jvm.Cond
  | .and a b => a :: ands b
  | c => [c]
theorem ands_all {args : Array Value} {s : State} : ∀ (c : Jvm.Cond), c.value args s none s [] = some true → ∀ d ∈ ands c, d.value args s none s [] = some true := by
  intro c
  induction c with
  | and a b _ ih =>
    intro h d hd
    obtain ⟨h1, h2⟩ := and_e h
    rcases List.mem_cons.mp hd with rfl | hd
    · exact h1
    · exact ih h2 d hd
  | _ => intro h d hd; cases List.mem_singleton.mp hd; exact h
theorem nw {c : Jvm.Cond} {Z : State} {a0 : Array Value} (hn : c.value a0 Z none Z [] = some true) (i : Nat) {d : Jvm.Cond} (h : (ands c)[i]? = some d) : d.value a0 Z none Z [] = some true := ands_all c hn d (List.mem_of_getElem? h)
/-- the object that a static holds at the start -/
def sad (Z : State) (a0 : Array Value) (C f d : String) : Addr := match (Term.static C f d).eval a0 Z none [] Z with | some (.ref a) => a | _ => 0
theorem sad_eq {Z : State} {a0 : Array Value} {C f d : String} {a : Addr} (h : (Term.static C f d).eval a0 Z none [] Z = some (.ref a)) : sad Z a0 C f d = a := by simp only [sad, h]
theorem sad_exa {Z : State} {a0 : Array Value} {C f d K : String} (hx : (Jvm.Cond.exactly (.static C f d) K).value a0 Z none Z [] = some true) (hi : (Jvm.Cond.initialized C).before a0 Z = true) (hl : (Jvm.Cond.laysStatic C f d).before a0 Z = true) :
    (Term.static C f d).eval a0 Z none [] Z = some (.ref (sad Z a0 C f d)) ∧ Sta Z Z.heap C f d (.ref (sad Z a0 C f d)) ∧ Exa Z Z.heap (sad Z a0 C f d) K := by
  obtain ⟨a, ev, S, E⟩ := sta_exa hx hi hl
  rw [sad_eq ev]; exact ⟨ev, S, E⟩
theorem nb1 : nar .boolean 1 = 1 := rfl
theorem nb0 : nar .boolean 0 = 0 := rfl
theorem rne {a b : Addr} (q : a ≠ b) : ¬ (Value.ref a = Value.ref b) := fun e => q (Value.ref.inj e)
theorem narR {t : FieldType} {v : Value} (h : v.isRef = true) : narrow t v = v := by cases v <;> cases t <;> first | rfl | (simp [Value.isRef] at h)
theorem fitR {t : FieldType} {v : Value} (h : v.isRef = true) (ht : t.isReference = true) : fits t v = true := by cases t <;> simp [FieldType.isReference] at ht <;> cases v <;> first | rfl | (simp [Value.isRef] at h)
end Jvm.OwnW
namespace Jvm.Pilot.@@N@@
open Jvm Jvm.ClassFile Sem Op Lib Jvm.Free Jvm.Stand Jvm.LawKit Jvm.RoadKit Jvm.OwnW Bundle Jvm.Pilot.@@N@@.Jvm.D
theorem tw {Z : State} {a0 : Array Value} (hw : ∀ d ∈ tables_1, d.before a0 Z = true) (i : Nat) {d : Jvm.Cond} (h : tables_1[i]? = some d) : d.before a0 Z = true := hw _ (List.mem_of_getElem? h)
theorem fit_of {s : State} (hF : heapFits s = true) : Fit s := fun {y c} hc i hi => by
  obtain ⟨ha, rfl⟩ := Array.getElem?_eq_some_iff.mp hc
  have q := List.all_eq_true.mp ((Array.all_eq_true_iff_forall_mem.mp hF) _ (Array.getElem_mem ha)) i (List.mem_range.mpr hi)
  simpa [Array.getElem?_eq_getElem hi] using q
theorem pn_com_example_lucioles_lucioles_service_Scope : plainName "com/example/lucioles/lucioles/service/Scope" = true := by first | (simp [plainName, overriddenIn]; done) | decide +kernel
theorem pn_com_example_lucioles_lucioles_service_Scope_Type : plainName "com/example/lucioles/lucioles/service/Scope$Type" = true := by first | (simp [plainName, overriddenIn]; done) | decide +kernel
theorem pn_com_example_lucioles_lucioles_service_ScopeOfPinLaw : plainName "com/example/lucioles/lucioles/service/ScopeOfPinLaw" = true := by first | (simp [plainName, overriddenIn]; done) | decide +kernel
theorem pn_java_lang_Enum : plainName "java/lang/Enum" = true := by first | (simp [plainName, overriddenIn]; done) | decide +kernel
theorem pn_java_util_Objects : plainName "java/util/Objects" = true := by first | (simp [plainName, overriddenIn]; done) | decide +kernel
theorem pd_0 : parseMethodDescriptor "(Ljava/lang/Object;Ljava/lang/String;)Ljava/lang/Object;" = some ⟨[(.object "java/lang/Object"), (.object "java/lang/String")], some (.object "java/lang/Object")⟩ := by decide +kernel
theorem pd_1 : parseMethodDescriptor "(Lcom/example/lucioles/lucioles/service/Scope$Type;I)V" = some ⟨[(.object "com/example/lucioles/lucioles/service/Scope$Type"), .int], none⟩ := by decide +kernel
theorem pd_2 : parseMethodDescriptor "()I" = some ⟨[], some .int⟩ := by decide +kernel
theorem pd_3 : parseMethodDescriptor "(Lcom/example/lucioles/lucioles/service/Scope$Type;I)Lcom/example/lucioles/lucioles/service/Scope;" = some ⟨[(.object "com/example/lucioles/lucioles/service/Scope$Type"), .int], some (.object "com/example/lucioles/lucioles/service/Scope")⟩ := by decide +kernel
theorem pd_4 : parseMethodDescriptor "()Z" = some ⟨[], some .boolean⟩ := by decide +kernel
theorem pd_5 : parseMethodDescriptor "(I)Z" = some ⟨[.int], some .boolean⟩ := by decide +kernel
theorem own_EW {Z : State} {a0 : Array Value} (hw : ∀ d ∈ tables_1, d.before a0 Z = true) : EW Z a0 [] := EW.nil
def A_BASE_ONLY (Z : State) (a0 : Array Value) : Addr := sad Z a0 "com/example/lucioles/lucioles/service/Scope$Type" "BASE_ONLY" "Lcom/example/lucioles/lucioles/service/Scope$Type;"
theorem s_BASE_ONLY {Z : State} {a0 : Array Value} (hw : ∀ d ∈ tables_1, d.before a0 Z = true) (hn : narrow_1.value a0 Z none Z [] = some true) : (Term.static "com/example/lucioles/lucioles/service/Scope$Type" "BASE_ONLY" "Lcom/example/lucioles/lucioles/service/Scope$Type;").eval a0 Z none [] Z = some (.ref (A_BASE_ONLY Z a0)) ∧ Sta Z Z.heap "com/example/lucioles/lucioles/service/Scope$Type" "BASE_ONLY" "Lcom/example/lucioles/lucioles/service/Scope$Type;" (.ref (A_BASE_ONLY Z a0)) ∧ Exa Z Z.heap (A_BASE_ONLY Z a0) "com/example/lucioles/lucioles/service/Scope$Type" := sad_exa (nw hn 0 rfl) (tw hw 1 rfl) (tw hw 2 rfl)
def A_BASE_NTH_LEVEL (Z : State) (a0 : Array Value) : Addr := sad Z a0 "com/example/lucioles/lucioles/service/Scope$Type" "BASE_NTH_LEVEL" "Lcom/example/lucioles/lucioles/service/Scope$Type;"
theorem s_BASE_NTH_LEVEL {Z : State} {a0 : Array Value} (hw : ∀ d ∈ tables_1, d.before a0 Z = true) (hn : narrow_1.value a0 Z none Z [] = some true) : (Term.static "com/example/lucioles/lucioles/service/Scope$Type" "BASE_NTH_LEVEL" "Lcom/example/lucioles/lucioles/service/Scope$Type;").eval a0 Z none [] Z = some (.ref (A_BASE_NTH_LEVEL Z a0)) ∧ Sta Z Z.heap "com/example/lucioles/lucioles/service/Scope$Type" "BASE_NTH_LEVEL" "Lcom/example/lucioles/lucioles/service/Scope$Type;" (.ref (A_BASE_NTH_LEVEL Z a0)) ∧ Exa Z Z.heap (A_BASE_NTH_LEVEL Z a0) "com/example/lucioles/lucioles/service/Scope$Type" := sad_exa (nw hn 3 rfl) (tw hw 1 rfl) (tw hw 59 rfl)
def A_BASE_SUBTREE (Z : State) (a0 : Array Value) : Addr := sad Z a0 "com/example/lucioles/lucioles/service/Scope$Type" "BASE_SUBTREE" "Lcom/example/lucioles/lucioles/service/Scope$Type;"
theorem s_BASE_SUBTREE {Z : State} {a0 : Array Value} (hw : ∀ d ∈ tables_1, d.before a0 Z = true) (hn : narrow_1.value a0 Z none Z [] = some true) : (Term.static "com/example/lucioles/lucioles/service/Scope$Type" "BASE_SUBTREE" "Lcom/example/lucioles/lucioles/service/Scope$Type;").eval a0 Z none [] Z = some (.ref (A_BASE_SUBTREE Z a0)) ∧ Sta Z Z.heap "com/example/lucioles/lucioles/service/Scope$Type" "BASE_SUBTREE" "Lcom/example/lucioles/lucioles/service/Scope$Type;" (.ref (A_BASE_SUBTREE Z a0)) ∧ Exa Z Z.heap (A_BASE_SUBTREE Z a0) "com/example/lucioles/lucioles/service/Scope$Type" := sad_exa (nw hn 5 rfl) (tw hw 1 rfl) (tw hw 61 rfl)
def A_BASE_ALL (Z : State) (a0 : Array Value) : Addr := sad Z a0 "com/example/lucioles/lucioles/service/Scope$Type" "BASE_ALL" "Lcom/example/lucioles/lucioles/service/Scope$Type;"
theorem s_BASE_ALL {Z : State} {a0 : Array Value} (hw : ∀ d ∈ tables_1, d.before a0 Z = true) (hn : narrow_1.value a0 Z none Z [] = some true) : (Term.static "com/example/lucioles/lucioles/service/Scope$Type" "BASE_ALL" "Lcom/example/lucioles/lucioles/service/Scope$Type;").eval a0 Z none [] Z = some (.ref (A_BASE_ALL Z a0)) ∧ Sta Z Z.heap "com/example/lucioles/lucioles/service/Scope$Type" "BASE_ALL" "Lcom/example/lucioles/lucioles/service/Scope$Type;" (.ref (A_BASE_ALL Z a0)) ∧ Exa Z Z.heap (A_BASE_ALL Z a0) "com/example/lucioles/lucioles/service/Scope$Type" := sad_exa (nw hn 9 rfl) (tw hw 1 rfl) (tw hw 65 rfl)
theorem f_BASE_ONLY_takesLevel {Z : State} {a0 : Array Value} (hw : ∀ d ∈ tables_1, d.before a0 Z = true) (hn : narrow_1.value a0 Z none Z [] = some true) : Fld Z Z.heap (A_BASE_ONLY Z a0) "com/example/lucioles/lucioles/service/Scope$Type" "takesLevel" "Z" (.int (0 : Int32)) := fld_int (nw hn 1 rfl) (s_BASE_ONLY hw hn).1
theorem f_BASE_ONLY_ordinal {Z : State} {a0 : Array Value} (hw : ∀ d ∈ tables_1, d.before a0 Z = true) (hn : narrow_1.value a0 Z none Z [] = some true) : Fld Z Z.heap (A_BASE_ONLY Z a0) "java/lang/Enum" "ordinal" "I" (.int (0 : Int32)) := fld_int (nw hn 2 rfl) (s_BASE_ONLY hw hn).1
theorem f_BASE_NTH_LEVEL_ordinal {Z : State} {a0 : Array Value} (hw : ∀ d ∈ tables_1, d.before a0 Z = true) (hn : narrow_1.value a0 Z none Z [] = some true) : Fld Z Z.heap (A_BASE_NTH_LEVEL Z a0) "java/lang/Enum" "ordinal" "I" (.int (2 : Int32)) := fld_int (nw hn 4 rfl) (s_BASE_NTH_LEVEL hw hn).1
theorem f_BASE_SUBTREE_takesLevel {Z : State} {a0 : Array Value} (hw : ∀ d ∈ tables_1, d.before a0 Z = true) (hn : narrow_1.value a0 Z none Z [] = some true) : Fld Z Z.heap (A_BASE_SUBTREE Z a0) "com/example/lucioles/lucioles/service/Scope$Type" "takesLevel" "Z" (.int (1 : Int32)) := fld_int (nw hn 6 rfl) (s_BASE_SUBTREE hw hn).1
theorem f_BASE_SUBTREE_ordinal {Z : State} {a0 : Array Value} (hw : ∀ d ∈ tables_1, d.before a0 Z = true) (hn : narrow_1.value a0 Z none Z [] = some true) : Fld Z Z.heap (A_BASE_SUBTREE Z a0) "java/lang/Enum" "ordinal" "I" (.int (3 : Int32)) := fld_int (nw hn 7 rfl) (s_BASE_SUBTREE hw hn).1
theorem f_BASE_NTH_LEVEL_takesLevel {Z : State} {a0 : Array Value} (hw : ∀ d ∈ tables_1, d.before a0 Z = true) (hn : narrow_1.value a0 Z none Z [] = some true) : Fld Z Z.heap (A_BASE_NTH_LEVEL Z a0) "com/example/lucioles/lucioles/service/Scope$Type" "takesLevel" "Z" (.int (1 : Int32)) := fld_int (nw hn 8 rfl) (s_BASE_NTH_LEVEL hw hn).1
theorem f_BASE_ALL_takesLevel {Z : State} {a0 : Array Value} (hw : ∀ d ∈ tables_1, d.before a0 Z = true) (hn : narrow_1.value a0 Z none Z [] = some true) : Fld Z Z.heap (A_BASE_ALL Z a0) "com/example/lucioles/lucioles/service/Scope$Type" "takesLevel" "Z" (.int (0 : Int32)) := fld_int (nw hn 10 rfl) (s_BASE_ALL hw hn).1
theorem f_BASE_ALL_ordinal {Z : State} {a0 : Array Value} (hw : ∀ d ∈ tables_1, d.before a0 Z = true) (hn : narrow_1.value a0 Z none Z [] = some true) : Fld Z Z.heap (A_BASE_ALL Z a0) "java/lang/Enum" "ordinal" "I" (.int (1 : Int32)) := fld_int (nw hn 11 rfl) (s_BASE_ALL hw hn).1
theorem own_ne_BASE_ONLY {Z : State} {a0 : Array Value} (hw : ∀ d ∈ tables_1, d.before a0 Z = true) (hn : narrow_1.value a0 Z none Z [] = some true) : ¬ A_BASE_ONLY Z a0 = A_BASE_NTH_LEVEL Z a0 := ord_ne (f_BASE_ONLY_ordinal hw hn) (f_BASE_NTH_LEVEL_ordinal hw hn) (by decide)
theorem own_ne_BASE_ALL {Z : State} {a0 : Array Value} (hw : ∀ d ∈ tables_1, d.before a0 Z = true) (hn : narrow_1.value a0 Z none Z [] = some true) : ¬ A_BASE_ALL Z a0 = A_BASE_NTH_LEVEL Z a0 := ord_ne (f_BASE_ALL_ordinal hw hn) (f_BASE_NTH_LEVEL_ordinal hw hn) (by decide)
theorem own_ne_BASE_SUBTREE {Z : State} {a0 : Array Value} (hw : ∀ d ∈ tables_1, d.before a0 Z = true) (hn : narrow_1.value a0 Z none Z [] = some true) : ¬ A_BASE_SUBTREE Z a0 = A_BASE_NTH_LEVEL Z a0 := ord_ne (f_BASE_SUBTREE_ordinal hw hn) (f_BASE_NTH_LEVEL_ordinal hw hn) (by decide)
theorem own_sA {Z : State} {a0 : Array Value} (hw : ∀ d ∈ tables_1, d.before a0 Z = true) : ∀ a ∈ Bundle.stringAtoms, a.before a0 Z = true := by
  intro a ha
  simp only [Bundle.stringAtoms, List.mem_cons, List.not_mem_nil, or_false] at ha
  rcases ha with rfl | rfl | rfl | rfl | rfl | rfl | rfl
  · exact (tw hw 8 rfl)
  · exact (tw hw 9 rfl)
  · exact (tw hw 10 rfl)
  · exact (tw hw 11 rfl)
  · exact (tw hw 12 rfl)
  · exact (tw hw 13 rfl)
  · exact (tw hw 14 rfl)
theorem ef2 (m : MethodId) (x0 : Addr) (x1 : Addr) : entryFrame m #[(.ref x0), (.ref x1)] 2 = mkF m 0 #[.val (.ref x0), .val (.ref x1)] [] := by first | (simp [entryFrame, mkF, argsToLocals, Value.category]; done) | rfl
theorem ef3 (m : MethodId) (x0 : Addr) (x1 : Addr) (x2 : Int32) : entryFrame m #[(.ref x0), (.ref x1), (.int x2)] 3 = mkF m 0 #[.val (.ref x0), .val (.ref x1), .val (.int x2)] [] := by first | (simp [entryFrame, mkF, argsToLocals, Value.category]; done) | rfl
theorem ef1 (m : MethodId) (x0 : Addr) (x1 : Int32) : entryFrame m #[(.ref x0), (.int x1)] 2 = mkF m 0 #[.val (.ref x0), .val (.int x1)] [] := by first | (simp [entryFrame, mkF, argsToLocals, Value.category]; done) | rfl
theorem ef5 (m : MethodId) (x0 : Addr) : entryFrame m #[(.ref x0)] 1 = mkF m 0 #[.val (.ref x0)] [] := by first | (simp [entryFrame, mkF, argsToLocals, Value.category]; done) | rfl
theorem ef7 (m : MethodId) (x0 : Addr) : entryFrame m #[(.ref x0)] 1 = mkF m 0 #[.val (.ref x0)] [] := by first | (simp [entryFrame, mkF, argsToLocals, Value.category]; done) | rfl
theorem ef6 (m : MethodId) (x0 : Addr) : entryFrame m #[(.ref x0)] 1 = mkF m 0 #[.val (.ref x0)] [] := by first | (simp [entryFrame, mkF, argsToLocals, Value.category]; done) | rfl
theorem ef8 (m : MethodId) (x0 : Addr) (x1 : Int32) : entryFrame m #[(.ref x0), (.int x1)] 2 = mkF m 0 #[.val (.ref x0), .val (.int x1)] [] := by first | (simp [entryFrame, mkF, argsToLocals, Value.category]; done) | rfl
theorem ef0 (m : MethodId) (x0 : Int32) (x1 : Int32) (x2 : Int32) (x3 : Int32) : entryFrame m #[(.int x0), (.int x1), (.int x2), (.int x3)] maxLocals = mkF m 0 #[.val (.int x0), .val (.int x1), .val (.int x2), .val (.int x3), .unset, .unset, .unset, .unset, .unset, .unset, .unset, .unset] [] := by first | (simp [entryFrame, mkF, argsToLocals, Value.category, maxLocals]; done) | rfl
theorem d2_0 : Dc jdk_31_method_11_code 0 (.aload_n 0) 1 1 := ⟨by decide +kernel, rfl⟩
theorem d2_1 : Dc jdk_31_method_11_code 1 (.ifnonnull 12) 3 4 := ⟨by decide +kernel, rfl⟩
theorem d2_1t : Tg 1 (12) 13 := ⟨by decide, by decide⟩
theorem d2_4 : Dc jdk_31_method_11_code 4 (.new 84) 3 7 := ⟨by decide +kernel, rfl⟩
theorem d2_7 : Dc jdk_31_method_11_code 7 .dup 1 8 := ⟨by decide +kernel, rfl⟩
theorem d2_8 : Dc jdk_31_method_11_code 8 (.aload_n 1) 1 9 := ⟨by decide +kernel, rfl⟩
theorem d2_9 : Dc jdk_31_method_11_code 9 (.invokespecial 87) 3 12 := ⟨by decide +kernel, rfl⟩
theorem d2_12 : Dc jdk_31_method_11_code 12 .athrow 1 13 := ⟨by decide +kernel, rfl⟩
theorem d2_13 : Dc jdk_31_method_11_code 13 (.aload_n 0) 1 14 := ⟨by decide +kernel, rfl⟩
theorem d2_14 : Dc jdk_31_method_11_code 14 .areturn 1 15 := ⟨by decide +kernel, rfl⟩
theorem d3_0 : Dc prog_14_method_1_code 0 (.aload_n 0) 1 1 := ⟨by decide +kernel, rfl⟩
theorem d3_1 : Dc prog_14_method_1_code 1 (.invokespecial 1) 3 4 := ⟨by decide +kernel, rfl⟩
theorem d3_4 : Dc prog_14_method_1_code 4 (.aload_n 0) 1 5 := ⟨by decide +kernel, rfl⟩
theorem d3_5 : Dc prog_14_method_1_code 5 (.aload_n 1) 1 6 := ⟨by decide +kernel, rfl⟩
theorem d3_6 : Dc prog_14_method_1_code 6 (.putfield 7) 3 9 := ⟨by decide +kernel, rfl⟩
theorem d3_9 : Dc prog_14_method_1_code 9 (.aload_n 0) 1 10 := ⟨by decide +kernel, rfl⟩
theorem d3_10 : Dc prog_14_method_1_code 10 (.iload_n 2) 1 11 := ⟨by decide +kernel, rfl⟩
theorem d3_11 : Dc prog_14_method_1_code 11 (.putfield 13) 3 14 := ⟨by decide +kernel, rfl⟩
theorem d3_14 : Dc prog_14_method_1_code 14 .return_ 1 15 := ⟨by decide +kernel, rfl⟩
theorem d1_0 : Dc prog_14_method_2_code 0 (.aload_n 0) 1 1 := ⟨by decide +kernel, rfl⟩
theorem d1_1 : Dc prog_14_method_2_code 1 (.ldc 17) 2 3 := ⟨by decide +kernel, rfl⟩
theorem d1_3 : Dc prog_14_method_2_code 3 (.invokestatic 18) 3 6 := ⟨by decide +kernel, rfl⟩
theorem d1_6 : Dc prog_14_method_2_code 6 .pop 1 7 := ⟨by decide +kernel, rfl⟩
theorem d1_7 : Dc prog_14_method_2_code 7 (.aload_n 0) 1 8 := ⟨by decide +kernel, rfl⟩
theorem d1_8 : Dc prog_14_method_2_code 8 (.getfield 24) 3 11 := ⟨by decide +kernel, rfl⟩
theorem d1_11 : Dc prog_14_method_2_code 11 (.ifCond .eq 21) 3 14 := ⟨by decide +kernel, rfl⟩
theorem d1_11t : Tg 11 (21) 32 := ⟨by decide, by decide⟩
theorem d1_14 : Dc prog_14_method_2_code 14 (.iload_n 1) 1 15 := ⟨by decide +kernel, rfl⟩
theorem d1_15 : Dc prog_14_method_2_code 15 (.ifCond .ge 17) 3 18 := ⟨by decide +kernel, rfl⟩
theorem d1_15t : Tg 15 (17) 32 := ⟨by decide, by decide⟩
theorem d1_18 : Dc prog_14_method_2_code 18 (.new 30) 3 21 := ⟨by decide +kernel, rfl⟩
theorem d1_21 : Dc prog_14_method_2_code 21 .dup 1 22 := ⟨by decide +kernel, rfl⟩
theorem d1_22 : Dc prog_14_method_2_code 22 (.iload_n 1) 1 23 := ⟨by decide +kernel, rfl⟩
theorem d1_23 : Dc prog_14_method_2_code 23 (.invokedynamic 32) 5 28 := ⟨by decide +kernel, rfl⟩
theorem d1_28 : Dc prog_14_method_2_code 28 (.invokespecial 36) 3 31 := ⟨by decide +kernel, rfl⟩
theorem d1_31 : Dc prog_14_method_2_code 31 .athrow 1 32 := ⟨by decide +kernel, rfl⟩
theorem d1_32 : Dc prog_14_method_2_code 32 (.new 8) 3 35 := ⟨by decide +kernel, rfl⟩
theorem d1_35 : Dc prog_14_method_2_code 35 .dup 1 36 := ⟨by decide +kernel, rfl⟩
theorem d1_36 : Dc prog_14_method_2_code 36 (.aload_n 0) 1 37 := ⟨by decide +kernel, rfl⟩
theorem d1_37 : Dc prog_14_method_2_code 37 (.iload_n 1) 1 38 := ⟨by decide +kernel, rfl⟩
theorem d1_38 : Dc prog_14_method_2_code 38 (.invokespecial 39) 3 41 := ⟨by decide +kernel, rfl⟩
theorem d1_41 : Dc prog_14_method_2_code 41 .areturn 1 42 := ⟨by decide +kernel, rfl⟩
theorem d5_0 : Dc prog_15_method_4_code 0 (.aload_n 0) 1 1 := ⟨by decide +kernel, rfl⟩
theorem d5_1 : Dc prog_15_method_4_code 1 (.getfield 35) 3 4 := ⟨by decide +kernel, rfl⟩
theorem d5_4 : Dc prog_15_method_4_code 4 .ireturn 1 5 := ⟨by decide +kernel, rfl⟩
theorem d7_0 : Dc jdk_37_method_2_code 0 (.aload_n 0) 1 1 := ⟨by decide +kernel, rfl⟩
theorem d7_1 : Dc jdk_37_method_2_code 1 (.getfield 7) 3 4 := ⟨by decide +kernel, rfl⟩
theorem d7_4 : Dc jdk_37_method_2_code 4 .ireturn 1 5 := ⟨by decide +kernel, rfl⟩
theorem d6_0 : Dc prog_14_method_5_code 0 (.aload_n 0) 1 1 := ⟨by decide +kernel, rfl⟩
theorem d6_1 : Dc prog_14_method_5_code 1 (.getfield 7) 3 4 := ⟨by decide +kernel, rfl⟩
theorem d6_4 : Dc prog_14_method_5_code 4 (.invokevirtual 73) 3 7 := ⟨by decide +kernel, rfl⟩
theorem d6_7 : Dc prog_14_method_5_code 7 (.lookupswitch 30 #[(0, 25), (1, 27)]) 25 32 := ⟨by decide +kernel, rfl⟩
theorem d6_32 : Dc prog_14_method_5_code 32 (.iconst 0) 1 33 := ⟨by decide +kernel, rfl⟩
theorem d6_33 : Dc prog_14_method_5_code 33 .ireturn 1 34 := ⟨by decide +kernel, rfl⟩
theorem d6_34 : Dc prog_14_method_5_code 34 (.ldc 76) 2 36 := ⟨by decide +kernel, rfl⟩
theorem d6_36 : Dc prog_14_method_5_code 36 .ireturn 1 37 := ⟨by decide +kernel, rfl⟩
theorem d6_37 : Dc prog_14_method_5_code 37 (.aload_n 0) 1 38 := ⟨by decide +kernel, rfl⟩
theorem d6_38 : Dc prog_14_method_5_code 38 (.getfield 13) 3 41 := ⟨by decide +kernel, rfl⟩
theorem d6_41 : Dc prog_14_method_5_code 41 .ireturn 1 42 := ⟨by decide +kernel, rfl⟩
theorem d8_0 : Dc prog_14_method_4_code 0 (.aload_n 0) 1 1 := ⟨by decide +kernel, rfl⟩
theorem d8_1 : Dc prog_14_method_4_code 1 (.getfield 7) 3 4 := ⟨by decide +kernel, rfl⟩
theorem d8_4 : Dc prog_14_method_4_code 4 (.getstatic 70) 3 7 := ⟨by decide +kernel, rfl⟩
theorem d8_7 : Dc prog_14_method_4_code 7 (.if_acmp .ne 11) 3 10 := ⟨by decide +kernel, rfl⟩
theorem d8_7t : Tg 7 (11) 18 := ⟨by decide, by decide⟩
theorem d8_10 : Dc prog_14_method_4_code 10 (.iload_n 1) 1 11 := ⟨by decide +kernel, rfl⟩
theorem d8_11 : Dc prog_14_method_4_code 11 (.aload_n 0) 1 12 := ⟨by decide +kernel, rfl⟩
theorem d8_12 : Dc prog_14_method_4_code 12 (.getfield 13) 3 15 := ⟨by decide +kernel, rfl⟩
theorem d8_15 : Dc prog_14_method_4_code 15 (.if_icmp .ne 7) 3 18 := ⟨by decide +kernel, rfl⟩
theorem d8_15t : Tg 15 (7) 22 := ⟨by decide, by decide⟩
theorem d8_18 : Dc prog_14_method_4_code 18 (.iconst 1) 1 19 := ⟨by decide +kernel, rfl⟩
theorem d8_19 : Dc prog_14_method_4_code 19 (.goto 4) 3 22 := ⟨by decide +kernel, rfl⟩
theorem d8_19t : Tg 19 (4) 23 := ⟨by decide, by decide⟩
theorem d8_22 : Dc prog_14_method_4_code 22 (.iconst 0) 1 23 := ⟨by decide +kernel, rfl⟩
theorem d8_23 : Dc prog_14_method_4_code 23 .ireturn 1 24 := ⟨by decide +kernel, rfl⟩
theorem d0_0 : Dc code 0 (.iload_n 0) 1 1 := ⟨at_0, rfl⟩
theorem d0_1 : Dc code 1 (.iconst 3) 1 2 := ⟨at_1, rfl⟩
theorem d0_2 : Dc code 2 .iand 1 3 := ⟨at_2, rfl⟩
theorem d0_3 : Dc code 3 (.istore 4) 2 5 := ⟨at_3, rfl⟩
theorem d0_5 : Dc code 5 (.iload 4) 2 7 := ⟨at_5, rfl⟩
theorem d0_7 : Dc code 7 (.ifCond .ne 11) 3 10 := ⟨at_7, rfl⟩
theorem d0_7t : Tg 7 (11) 18 := ⟨by decide, by decide⟩
theorem d0_10 : Dc code 10 (.getstatic 7) 3 13 := ⟨at_10, rfl⟩
theorem d0_13 : Dc code 13 (.astore 5) 2 15 := ⟨at_13, rfl⟩
theorem d0_15 : Dc code 15 (.goto 36) 3 18 := ⟨at_15, rfl⟩
theorem d0_15t : Tg 15 (36) 51 := ⟨by decide, by decide⟩
theorem d0_18 : Dc code 18 (.iload 4) 2 20 := ⟨at_18, rfl⟩
theorem d0_20 : Dc code 20 (.iconst 1) 1 21 := ⟨at_20, rfl⟩
theorem d0_21 : Dc code 21 (.if_icmp .ne 11) 3 24 := ⟨at_21, rfl⟩
theorem d0_21t : Tg 21 (11) 32 := ⟨by decide, by decide⟩
theorem d0_24 : Dc code 24 (.getstatic 13) 3 27 := ⟨at_24, rfl⟩
theorem d0_27 : Dc code 27 (.astore 5) 2 29 := ⟨at_27, rfl⟩
theorem d0_29 : Dc code 29 (.goto 22) 3 32 := ⟨at_29, rfl⟩
theorem d0_29t : Tg 29 (22) 51 := ⟨by decide, by decide⟩
theorem d0_32 : Dc code 32 (.iload 4) 2 34 := ⟨at_32, rfl⟩
theorem d0_34 : Dc code 34 (.iconst 2) 1 35 := ⟨at_34, rfl⟩
theorem d0_35 : Dc code 35 (.if_icmp .ne 11) 3 38 := ⟨at_35, rfl⟩
theorem d0_35t : Tg 35 (11) 46 := ⟨by decide, by decide⟩
theorem d0_38 : Dc code 38 (.getstatic 16) 3 41 := ⟨at_38, rfl⟩
theorem d0_41 : Dc code 41 (.astore 5) 2 43 := ⟨at_41, rfl⟩
theorem d0_43 : Dc code 43 (.goto 8) 3 46 := ⟨at_43, rfl⟩
theorem d0_43t : Tg 43 (8) 51 := ⟨by decide, by decide⟩
theorem d0_46 : Dc code 46 (.getstatic 19) 3 49 := ⟨at_46, rfl⟩
theorem d0_49 : Dc code 49 (.astore 5) 2 51 := ⟨at_49, rfl⟩
theorem d0_51 : Dc code 51 (.iload 4) 2 53 := ⟨at_51, rfl⟩
theorem d0_53 : Dc code 53 (.iconst 2) 1 54 := ⟨at_53, rfl⟩
theorem d0_54 : Dc code 54 (.if_icmp .lt 7) 3 57 := ⟨at_54, rfl⟩
theorem d0_54t : Tg 54 (7) 61 := ⟨by decide, by decide⟩
theorem d0_57 : Dc code 57 (.iconst 1) 1 58 := ⟨at_57, rfl⟩
theorem d0_58 : Dc code 58 (.goto 4) 3 61 := ⟨at_58, rfl⟩
theorem d0_58t : Tg 58 (4) 62 := ⟨by decide, by decide⟩
theorem d0_61 : Dc code 61 (.iconst 0) 1 62 := ⟨at_61, rfl⟩
theorem d0_62 : Dc code 62 (.istore 6) 2 64 := ⟨at_62, rfl⟩
theorem d0_64 : Dc code 64 (.iload 6) 2 66 := ⟨at_64, rfl⟩
theorem d0_66 : Dc code 66 (.ifCond .eq 10) 3 69 := ⟨at_66, rfl⟩
theorem d0_66t : Tg 66 (10) 76 := ⟨by decide, by decide⟩
theorem d0_69 : Dc code 69 (.iload_n 1) 1 70 := ⟨at_69, rfl⟩
theorem d0_70 : Dc code 70 (.ldc 22) 2 72 := ⟨at_70, rfl⟩
theorem d0_72 : Dc code 72 .iand 1 73 := ⟨at_72, rfl⟩
theorem d0_73 : Dc code 73 (.goto 4) 3 76 := ⟨at_73, rfl⟩
theorem d0_73t : Tg 73 (4) 77 := ⟨by decide, by decide⟩
theorem d0_76 : Dc code 76 (.iload_n 1) 1 77 := ⟨at_76, rfl⟩
theorem d0_77 : Dc code 77 (.istore 7) 2 79 := ⟨at_77, rfl⟩
theorem d0_79 : Dc code 79 (.iload_n 3) 1 80 := ⟨at_79, rfl⟩
theorem d0_80 : Dc code 80 (.iconst 1) 1 81 := ⟨at_80, rfl⟩
theorem d0_81 : Dc code 81 .iand 1 82 := ⟨at_81, rfl⟩
theorem d0_82 : Dc code 82 (.ifCond .eq 8) 3 85 := ⟨at_82, rfl⟩
theorem d0_82t : Tg 82 (8) 90 := ⟨by decide, by decide⟩
theorem d0_85 : Dc code 85 (.iload 7) 2 87 := ⟨at_85, rfl⟩
theorem d0_87 : Dc code 87 (.goto 4) 3 90 := ⟨at_87, rfl⟩
theorem d0_87t : Tg 87 (4) 91 := ⟨by decide, by decide⟩
theorem d0_90 : Dc code 90 (.iload_n 2) 1 91 := ⟨at_90, rfl⟩
theorem d0_91 : Dc code 91 (.istore 8) 2 93 := ⟨at_91, rfl⟩
theorem d0_93 : Dc code 93 (.aload 5) 2 95 := ⟨at_93, rfl⟩
theorem d0_95 : Dc code 95 (.iload 7) 2 97 := ⟨at_95, rfl⟩
theorem d0_97 : Dc code 97 (.invokestatic 23) 3 100 := ⟨at_97, rfl⟩
theorem d0_100 : Dc code 100 (.astore 9) 2 102 := ⟨at_100, rfl⟩
theorem d0_102 : Dc code 102 (.aload 9) 2 104 := ⟨at_102, rfl⟩
theorem d0_104 : Dc code 104 (.ifnonnull 5) 3 107 := ⟨at_104, rfl⟩
theorem d0_104t : Tg 104 (5) 109 := ⟨by decide, by decide⟩
theorem d0_107 : Dc code 107 (.iconst 0) 1 108 := ⟨at_107, rfl⟩
theorem d0_108 : Dc code 108 .ireturn 1 109 := ⟨at_108, rfl⟩
theorem d0_109 : Dc code 109 (.iload 4) 2 111 := ⟨at_109, rfl⟩
theorem d0_111 : Dc code 111 (.ifCond .ne 12) 3 114 := ⟨at_111, rfl⟩
theorem d0_111t : Tg 111 (12) 123 := ⟨by decide, by decide⟩
theorem d0_114 : Dc code 114 (.iconst 0) 1 115 := ⟨at_114, rfl⟩
theorem d0_115 : Dc code 115 (.istore 10) 2 117 := ⟨at_115, rfl⟩
theorem d0_117 : Dc code 117 (.iconst 1) 1 118 := ⟨at_117, rfl⟩
theorem d0_118 : Dc code 118 (.istore 11) 2 120 := ⟨at_118, rfl⟩
theorem d0_120 : Dc code 120 (.goto 53) 3 123 := ⟨at_120, rfl⟩
theorem d0_120t : Tg 120 (53) 173 := ⟨by decide, by decide⟩
theorem d0_123 : Dc code 123 (.iload 4) 2 125 := ⟨at_123, rfl⟩
theorem d0_125 : Dc code 125 (.iconst 1) 1 126 := ⟨at_125, rfl⟩
theorem d0_126 : Dc code 126 (.if_icmp .ne 13) 3 129 := ⟨at_126, rfl⟩
theorem d0_126t : Tg 126 (13) 139 := ⟨by decide, by decide⟩
theorem d0_129 : Dc code 129 (.ldc 22) 2 131 := ⟨at_129, rfl⟩
theorem d0_131 : Dc code 131 (.istore 10) 2 133 := ⟨at_131, rfl⟩
theorem d0_133 : Dc code 133 (.iconst 1) 1 134 := ⟨at_133, rfl⟩
theorem d0_134 : Dc code 134 (.istore 11) 2 136 := ⟨at_134, rfl⟩
theorem d0_136 : Dc code 136 (.goto 37) 3 139 := ⟨at_136, rfl⟩
theorem d0_136t : Tg 136 (37) 173 := ⟨by decide, by decide⟩
theorem d0_139 : Dc code 139 (.iload 4) 2 141 := ⟨at_139, rfl⟩
theorem d0_141 : Dc code 141 (.iconst 2) 1 142 := ⟨at_141, rfl⟩
theorem d0_142 : Dc code 142 (.if_icmp .ne 24) 3 145 := ⟨at_142, rfl⟩
theorem d0_142t : Tg 142 (24) 166 := ⟨by decide, by decide⟩
theorem d0_145 : Dc code 145 (.iload 7) 2 147 := ⟨at_145, rfl⟩
theorem d0_147 : Dc code 147 (.istore 10) 2 149 := ⟨at_147, rfl⟩
theorem d0_149 : Dc code 149 (.iload 8) 2 151 := ⟨at_149, rfl⟩
theorem d0_151 : Dc code 151 (.iload 7) 2 153 := ⟨at_151, rfl⟩
theorem d0_153 : Dc code 153 (.if_icmp .ne 7) 3 156 := ⟨at_153, rfl⟩
theorem d0_153t : Tg 153 (7) 160 := ⟨by decide, by decide⟩
theorem d0_156 : Dc code 156 (.iconst 1) 1 157 := ⟨at_156, rfl⟩
theorem d0_157 : Dc code 157 (.goto 4) 3 160 := ⟨at_157, rfl⟩
theorem d0_157t : Tg 157 (4) 161 := ⟨by decide, by decide⟩
theorem d0_160 : Dc code 160 (.iconst 0) 1 161 := ⟨at_160, rfl⟩
theorem d0_161 : Dc code 161 (.istore 11) 2 163 := ⟨at_161, rfl⟩
theorem d0_163 : Dc code 163 (.goto 10) 3 166 := ⟨at_163, rfl⟩
theorem d0_163t : Tg 163 (10) 173 := ⟨by decide, by decide⟩
theorem d0_166 : Dc code 166 (.iload 7) 2 168 := ⟨at_166, rfl⟩
theorem d0_168 : Dc code 168 (.istore 10) 2 170 := ⟨at_168, rfl⟩
theorem d0_170 : Dc code 170 (.iconst 1) 1 171 := ⟨at_170, rfl⟩
theorem d0_171 : Dc code 171 (.istore 11) 2 173 := ⟨at_171, rfl⟩
theorem d0_173 : Dc code 173 (.aload 5) 2 175 := ⟨at_173, rfl⟩
theorem d0_175 : Dc code 175 (.invokevirtual 31) 3 178 := ⟨at_175, rfl⟩
theorem d0_178 : Dc code 178 (.iload 6) 2 180 := ⟨at_178, rfl⟩
theorem d0_180 : Dc code 180 (.if_icmp .ne 29) 3 183 := ⟨at_180, rfl⟩
theorem d0_180t : Tg 180 (29) 209 := ⟨by decide, by decide⟩
theorem d0_183 : Dc code 183 (.aload 9) 2 185 := ⟨at_183, rfl⟩
theorem d0_185 : Dc code 185 (.invokevirtual 35) 3 188 := ⟨at_185, rfl⟩
theorem d0_188 : Dc code 188 (.iload 10) 2 190 := ⟨at_188, rfl⟩
theorem d0_190 : Dc code 190 (.if_icmp .ne 19) 3 193 := ⟨at_190, rfl⟩
theorem d0_190t : Tg 190 (19) 209 := ⟨by decide, by decide⟩
theorem d0_193 : Dc code 193 (.aload 9) 2 195 := ⟨at_193, rfl⟩
theorem d0_195 : Dc code 195 (.iload 8) 2 197 := ⟨at_195, rfl⟩
theorem d0_197 : Dc code 197 (.invokevirtual 39) 3 200 := ⟨at_197, rfl⟩
theorem d0_200 : Dc code 200 (.iload 11) 2 202 := ⟨at_200, rfl⟩
theorem d0_202 : Dc code 202 (.if_icmp .ne 7) 3 205 := ⟨at_202, rfl⟩
theorem d0_202t : Tg 202 (7) 209 := ⟨by decide, by decide⟩
theorem d0_205 : Dc code 205 (.iconst 1) 1 206 := ⟨at_205, rfl⟩
theorem d0_206 : Dc code 206 (.goto 4) 3 209 := ⟨at_206, rfl⟩
theorem d0_206t : Tg 206 (4) 210 := ⟨by decide, by decide⟩
theorem d0_209 : Dc code 209 (.iconst 0) 1 210 := ⟨at_209, rfl⟩
theorem d0_210 : Dc code 210 .ireturn 1 211 := ⟨at_210, rfl⟩
set_option maxRecDepth 65536 in
set_option maxHeartbeats 40000000 in
theorem rmQ (l : Launch) (Z : State) (a0 : Array Value) (hw : ∀ d ∈ tables_1, d.before a0 Z = true) (a t : Addr) (h0 : Heap) (hE : Ext Z.heap h0) :
    Ct true l Z [] (⟨"java/util/Objects", "requireNonNull", "(Ljava/lang/Object;Ljava/lang/String;)Ljava/lang/Object;"⟩ : MethodName) jdk_31_method_11_code 2 (some (.object "java/lang/Object")) [] ({ frames := 0, cells := 0, slots := 0, locals := 0 } : Room) [] #[(.ref a), (.ref t)] h0 (fun v u => v = some (.ref a) ∧ h0 = u) := by
  refine Ct.intro pn_java_util_Objects hE (fun m => ef2 m a t) nosf ⟨a0, own_EW hw⟩ ?_
  intro x T w
  refine w.aloadN d2_0 rfl rfl ?_
  refine w.nonnullT d2_1 d2_1t ?_
  refine w.aloadN d2_13 rfl rfl ?_
  exact w.retA d2_14 rfl rfl rfl rfl ⟨rfl, rfl⟩

set_option maxRecDepth 65536 in
set_option maxHeartbeats 40000000 in
theorem rmI (l : Launch) (Z : State) (a0 : Array Value) (hw : ∀ d ∈ tables_1, d.before a0 Z = true) (a t : Addr) (v : Int32) (h0 : Heap) (hE : Ext Z.heap h0) (ge_a : Z.heap.size ≤ a) (E0 : Exa Z h0 a "com/example/lucioles/lucioles/service/Scope") (G1 : Fld Z h0 a "com/example/lucioles/lucioles/service/Scope" "type" "Lcom/example/lucioles/lucioles/service/Scope$Type;" .null) (G2 : Fld Z h0 a "com/example/lucioles/lucioles/service/Scope" "level" "I" (.int (0 : Int32))) :
    Ct true l Z [] (⟨"com/example/lucioles/lucioles/service/Scope", "<init>", "(Lcom/example/lucioles/lucioles/service/Scope$Type;I)V"⟩ : MethodName) prog_14_method_1_code 3 none [] ({ frames := 1, cells := 0, slots := 0, locals := 12 } : Room) [a] #[(.ref a), (.ref t), (.int v)] h0 (fun r u => r = none ∧ Keep h0 u [a] ∧ Exa Z u a "com/example/lucioles/lucioles/service/Scope" ∧ Fld Z u a "com/example/lucioles/lucioles/service/Scope" "type" "Lcom/example/lucioles/lucioles/service/Scope$Type;" (.ref t) ∧ Fld Z u a "com/example/lucioles/lucioles/service/Scope" "level" "I" (.int v)) := by
  refine Ct.intro pn_com_example_lucioles_lucioles_service_Scope hE (fun m => ef3 m a t v) (onesf ge_a E0.lt) ⟨a0, own_EW hw⟩ ?_
  intro x T w
  refine w.aloadN d3_0 rfl rfl ?_
  refine w.initO 0 d3_1 (tw hw 26 rfl) (tw hw 27 rfl) (tw hw 28 rfl) rfl (Nat.le_refl _) ⟨by decide, by decide⟩ ?_
  intro T w
  refine w.aloadN d3_4 rfl rfl ?_
  refine w.aloadN d3_5 rfl rfl ?_
  refine w.putF d3_6 (tw hw 29 rfl) G1 E0 (Or.inr ⟨(tw hw 30 rfl), rfl, rfl⟩) (tw hw 22 rfl) (ty := (.object "com/example/lucioles/lucioles/service/Scope$Type")) (by decide) rfl rfl (List.mem_of_getElem? (i := 0) rfl) ?_
  intro T h1 w W1
  have F2 := E0.wr W1
  have F3 := G1.same W1
  have F4 := G2.other W1 (Or.inr (slot_ne (Or.inr (tw hw 32 rfl)) (Or.inr (tw hw 30 rfl)) (by decide) (t := .int) (t' := (.object "com/example/lucioles/lucioles/service/Scope$Type")) (by decide) (by decide)))
  refine w.aloadN d3_9 rfl rfl ?_
  refine w.iloadN d3_10 rfl ?_
  refine w.putF d3_11 (tw hw 31 rfl) F4 F2 (Or.inr ⟨(tw hw 32 rfl), rfl, rfl⟩) (tw hw 22 rfl) (ty := .int) (by decide) rfl rfl (List.mem_of_getElem? (i := 0) rfl) ?_
  intro T h2 w W5
  have F6 := F2.wr W5
  have F7 := F3.other W5 (Or.inr (slot_ne (Or.inr (tw hw 30 rfl)) (Or.inr (tw hw 32 rfl)) (by decide) (t := (.object "com/example/lucioles/lucioles/service/Scope$Type")) (t' := .int) (by decide) (by decide)))
  have F8 := F4.same W5
  exact w.retV d3_14 rfl ⟨rfl, ((Keep.refl _ _).wr W1 (Or.inl (List.mem_singleton.mpr rfl))).wr W5 (Or.inl (List.mem_singleton.mpr rfl)), F6, F7, F8⟩

set_option maxRecDepth 65536 in
set_option maxHeartbeats 40000000 in
theorem rmO (l : Launch) (Z : State) (a0 : Array Value) (hw : ∀ d ∈ tables_1, d.before a0 Z = true) (t : Addr) (v tk : Int32) (F1 : Fld Z Z.heap t "com/example/lucioles/lucioles/service/Scope$Type" "takesLevel" "Z" (.int tk)) (hv : tk = 0 ∨ ¬ v < 0) (h0 : Heap) (hE : Ext Z.heap h0) :
    Ct true l Z [] (⟨"com/example/lucioles/lucioles/service/Scope", "of", "(Lcom/example/lucioles/lucioles/service/Scope$Type;I)Lcom/example/lucioles/lucioles/service/Scope;"⟩ : MethodName) prog_14_method_2_code 2 (some (.object "com/example/lucioles/lucioles/service/Scope")) [] ({ frames := 2, cells := 3, slots := 24, locals := 32 } : Room) [] #[(.ref t), (.int v)] h0 (fun r u => ∃ a, r = some (.ref a) ∧ Exa Z u a "com/example/lucioles/lucioles/service/Scope" ∧ Fld Z u a "com/example/lucioles/lucioles/service/Scope" "type" "Lcom/example/lucioles/lucioles/service/Scope$Type;" (.ref t) ∧ Fld Z u a "com/example/lucioles/lucioles/service/Scope" "level" "I" (.int v)) := by
  refine Ct.intro pn_com_example_lucioles_lucioles_service_Scope hE (fun m => ef1 m t v) nosf ⟨a0, own_EW hw⟩ ?_
  intro x T w
  refine w.aloadN d1_0 rfl rfl ?_
  refine w.ldcS 16 d1_1 (tw hw 7 rfl) (own_sA hw) (own_EW hw) (by decide) (by decide) ⟨by decide, by decide⟩ ?_
  intro s T h1 w E1
  refine w.callS (argsL := [(.ref t), (.ref s)]) (rest := []) 0 d1_3 (tw hw 15 rfl) (tw hw 16 rfl) (tw hw 17 rfl) (tw hw 18 rfl) (by decide) (rmQ l Z a0 hw t s h1 w.old) (lenOf pd_0 rfl) rfl rfl (Nat.le_refl _) ⟨by decide, by decide, by decide, by decide⟩ all0 ?_
  intro T h2 r w _ hQ
  obtain ⟨rfl, rfl⟩ := hQ
  show Go x _ Z _ _ _ T 6 #[.val (.ref t), .val (.int v)] [(.ref t)]
  refine w.pop d1_6 rfl ?_
  refine w.aloadN d1_7 rfl rfl ?_
  refine w.getFR d1_8 (tw hw 19 rfl) (F1.ext w.old) ?_
  refine w.ifEq d1_11 d1_11t (fun q1 => ?_) (fun q1 => ?_)
  · have sz0 := w.size
    refine w.new d1_32 (tw hw 21 rfl) (tw hw 22 rfl) (tw hw 5 rfl) ⟨by decide, by decide⟩ ?_
    intro a T h3 g_a w E2 A3 D4
    have ge_a : Z.heap.size ≤ a := by rw [g_a]; exact sz0
    have F5 : Fld Z h3 a "com/example/lucioles/lucioles/service/Scope" "type" "Lcom/example/lucioles/lucioles/service/Scope$Type;" .null := D4 (Or.inr (tw hw 30 rfl)) (ty := (.object "com/example/lucioles/lucioles/service/Scope$Type")) (by decide)
    have F6 : Fld Z h3 a "com/example/lucioles/lucioles/service/Scope" "level" "I" (.int (0 : Int32)) := D4 (Or.inr (tw hw 32 rfl)) (ty := .int) (by decide)
    refine w.dup d1_35 rfl ?_
    refine w.aloadN d1_36 rfl rfl ?_
    refine w.iloadN d1_37 rfl ?_
    refine w.callI (argsL := [(.ref t), (.int v)]) (rest := [(.ref a)]) 1 d1_38 rfl (tw hw 23 rfl) (tw hw 24 rfl) (tw hw 5 rfl) (tw hw 25 rfl) (by decide) (rmI l Z a0 hw a t v h3 w.old ge_a A3 F5 F6) (lenOf pd_1 rfl) rfl rfl (Nat.le_refl _) ⟨by decide, by decide, by decide, by decide⟩ (allS (List.mem_of_getElem? (i := 0) rfl) all0) ?_
    intro T h4 r w _ hQ
    obtain ⟨rfl, K1, E9, F9, L9⟩ := hQ
    exact w.retA d1_41 rfl rfl rfl rfl ⟨a, rfl, E9, F9, L9⟩
  · refine w.iloadN d1_14 rfl ?_
    refine w.ifGe d1_15 d1_15t (fun q2 => ?_) (fun q2 => ?_)
    · have sz0 := w.size
      refine w.new d1_32 (tw hw 21 rfl) (tw hw 22 rfl) (tw hw 5 rfl) ⟨by decide, by decide⟩ ?_
      intro a T h5 g_a w E7 A8 D9
      have ge_a : Z.heap.size ≤ a := by rw [g_a]; exact sz0
      have F10 : Fld Z h5 a "com/example/lucioles/lucioles/service/Scope" "type" "Lcom/example/lucioles/lucioles/service/Scope$Type;" .null := D9 (Or.inr (tw hw 30 rfl)) (ty := (.object "com/example/lucioles/lucioles/service/Scope$Type")) (by decide)
      have F11 : Fld Z h5 a "com/example/lucioles/lucioles/service/Scope" "level" "I" (.int (0 : Int32)) := D9 (Or.inr (tw hw 32 rfl)) (ty := .int) (by decide)
      refine w.dup d1_35 rfl ?_
      refine w.aloadN d1_36 rfl rfl ?_
      refine w.iloadN d1_37 rfl ?_
      refine w.callI (argsL := [(.ref t), (.int v)]) (rest := [(.ref a)]) 1 d1_38 rfl (tw hw 23 rfl) (tw hw 24 rfl) (tw hw 5 rfl) (tw hw 25 rfl) (by decide) (rmI l Z a0 hw a t v h5 w.old ge_a A8 F10 F11) (lenOf pd_1 rfl) rfl rfl (Nat.le_refl _) ⟨by decide, by decide, by decide, by decide⟩ (allS (List.mem_of_getElem? (i := 0) rfl) all0) ?_
      intro T h6 r w _ hQ
      obtain ⟨rfl, K1, E9, F9, L9⟩ := hQ
      exact w.retA d1_41 rfl rfl rfl rfl ⟨a, rfl, E9, F9, L9⟩
    · exact absurd q2 (hv.resolve_left q1)

set_option maxRecDepth 65536 in
set_option maxHeartbeats 40000000 in
theorem rmT (l : Launch) (Z : State) (a0 : Array Value) (hw : ∀ d ∈ tables_1, d.before a0 Z = true) (t : Addr) (tk : Int32) (F1 : Fld Z Z.heap t "com/example/lucioles/lucioles/service/Scope$Type" "takesLevel" "Z" (.int tk)) (h0 : Heap) (hE : Ext Z.heap h0) :
    Ct true l Z [] (⟨"com/example/lucioles/lucioles/service/Scope$Type", "takesLevel", "()Z"⟩ : MethodName) prog_15_method_4_code 1 (some .boolean) [] ({ frames := 0, cells := 0, slots := 0, locals := 0 } : Room) [] #[(.ref t)] h0 (fun v u => v = some (.int (nar .boolean tk)) ∧ h0 = u) := by
  refine Ct.intro pn_com_example_lucioles_lucioles_service_Scope_Type hE (fun m => ef5 m t) nosf ⟨a0, own_EW hw⟩ ?_
  intro x T w
  refine w.aloadN d5_0 rfl rfl ?_
  refine w.getF d5_1 (tw hw 38 rfl) (F1.ext w.old) ?_
  intro T w
  exact w.retN d5_4 rfl (by simp) ⟨rfl, rfl⟩

set_option maxRecDepth 65536 in
set_option maxHeartbeats 40000000 in
theorem rmR (l : Launch) (Z : State) (a0 : Array Value) (hw : ∀ d ∈ tables_1, d.before a0 Z = true) (a : Addr) (z : Int32) (h0 : Heap) (hE : Ext Z.heap h0) (G1 : Fld Z h0 a "java/lang/Enum" "ordinal" "I" (.int z)) :
    Ct true l Z [] (⟨"java/lang/Enum", "ordinal", "()I"⟩ : MethodName) jdk_37_method_2_code 1 (some .int) [] ({ frames := 0, cells := 0, slots := 0, locals := 0 } : Room) [] #[(.ref a)] h0 (fun v u => v = some (.int z) ∧ h0 = u) := by
  refine Ct.intro pn_java_lang_Enum hE (fun m => ef7 m a) nosf ⟨a0, own_EW hw⟩ ?_
  intro x T w
  refine w.aloadN d7_0 rfl rfl ?_
  refine w.getF d7_1 (tw hw 51 rfl) G1 ?_
  intro T w
  exact w.retI d7_4 rfl ⟨rfl, rfl⟩

set_option maxRecDepth 65536 in
set_option maxHeartbeats 40000000 in
theorem rmDA (l : Launch) (Z : State) (a0 : Array Value) (hw : ∀ d ∈ tables_1, d.before a0 Z = true) (a t : Addr) (v : Int32) (h0 : Heap) (hE : Ext Z.heap h0) (G1 : Fld Z h0 a "com/example/lucioles/lucioles/service/Scope" "type" "Lcom/example/lucioles/lucioles/service/Scope$Type;" (.ref t)) (G2 : Fld Z h0 a "com/example/lucioles/lucioles/service/Scope" "level" "I" (.int v)) (E1 : Exa Z Z.heap t "com/example/lucioles/lucioles/service/Scope$Type") (F1 : Fld Z Z.heap t "java/lang/Enum" "ordinal" "I" (.int (0 : Int32))) :
    Ct true l Z [] (⟨"com/example/lucioles/lucioles/service/Scope", "deepest", "()I"⟩ : MethodName) prog_14_method_5_code 1 (some .int) [] ({ frames := 1, cells := 0, slots := 0, locals := 13 } : Room) [] #[(.ref a)] h0 (fun r u => r = some (.int (0 : Int32)) ∧ h0 = u) := by
  refine Ct.intro pn_com_example_lucioles_lucioles_service_Scope hE (fun m => ef6 m a) nosf ⟨a0, own_EW hw⟩ ?_
  intro x T w
  refine w.aloadN d6_0 rfl rfl ?_
  refine w.getF d6_1 (tw hw 29 rfl) G1 ?_
  intro T w
  refine w.callVU (argsL := []) (rest := []) 0 d6_4 (tw hw 44 rfl) (tw hw 45 rfl) (tw hw 46 rfl) (tw hw 48 rfl) (tw hw 47 rfl) (tw hw 49 rfl) (tw hw 50 rfl) (by decide) (E1.ext w.old) (rmR l Z a0 hw t (0 : Int32) h0 w.old (F1.ext w.old)) (lenOf pd_2 rfl) rfl rfl (Nat.le_refl _) ⟨by decide, by decide, by decide, by decide⟩ all0 ?_
  intro T h1 r w _ hQ
  obtain ⟨rfl, rfl⟩ := hQ
  show Go x _ Z _ _ _ T 7 #[.val (.ref a)] [(.int (0 : Int32))]
  refine w.lsw (off := 25) d6_7 (by decide) (by decide) (pcT := 32) ⟨by decide, by decide⟩ ?_
  refine w.iconst (0 : Int32) d6_32 rfl ?_
  exact w.retI d6_33 rfl ⟨rfl, rfl⟩
set_option maxRecDepth 65536 in
set_option maxHeartbeats 40000000 in
theorem rmDB (l : Launch) (Z : State) (a0 : Array Value) (hw : ∀ d ∈ tables_1, d.before a0 Z = true) (a t : Addr) (v : Int32) (h0 : Heap) (hE : Ext Z.heap h0) (G1 : Fld Z h0 a "com/example/lucioles/lucioles/service/Scope" "type" "Lcom/example/lucioles/lucioles/service/Scope$Type;" (.ref t)) (G2 : Fld Z h0 a "com/example/lucioles/lucioles/service/Scope" "level" "I" (.int v)) (E1 : Exa Z Z.heap t "com/example/lucioles/lucioles/service/Scope$Type") (F1 : Fld Z Z.heap t "java/lang/Enum" "ordinal" "I" (.int (1 : Int32))) :
    Ct true l Z [] (⟨"com/example/lucioles/lucioles/service/Scope", "deepest", "()I"⟩ : MethodName) prog_14_method_5_code 1 (some .int) [] ({ frames := 1, cells := 0, slots := 0, locals := 13 } : Room) [] #[(.ref a)] h0 (fun r u => r = some (.int (2147483647 : Int32)) ∧ h0 = u) := by
  refine Ct.intro pn_com_example_lucioles_lucioles_service_Scope hE (fun m => ef6 m a) nosf ⟨a0, own_EW hw⟩ ?_
  intro x T w
  refine w.aloadN d6_0 rfl rfl ?_
  refine w.getF d6_1 (tw hw 29 rfl) G1 ?_
  intro T w
  refine w.callVU (argsL := []) (rest := []) 0 d6_4 (tw hw 44 rfl) (tw hw 45 rfl) (tw hw 46 rfl) (tw hw 48 rfl) (tw hw 47 rfl) (tw hw 49 rfl) (tw hw 50 rfl) (by decide) (E1.ext w.old) (rmR l Z a0 hw t (1 : Int32) h0 w.old (F1.ext w.old)) (lenOf pd_2 rfl) rfl rfl (Nat.le_refl _) ⟨by decide, by decide, by decide, by decide⟩ all0 ?_
  intro T h1 r w _ hQ
  obtain ⟨rfl, rfl⟩ := hQ
  show Go x _ Z _ _ _ T 7 #[.val (.ref a)] [(.int (1 : Int32))]
  refine w.lsw (off := 27) d6_7 (by decide) (by decide) (pcT := 34) ⟨by decide, by decide⟩ ?_
  refine w.ldcI d6_34 (tw hw 66 rfl) ?_
  exact w.retI d6_36 rfl ⟨rfl, rfl⟩
set_option maxRecDepth 65536 in
set_option maxHeartbeats 40000000 in
theorem rmDC (l : Launch) (Z : State) (a0 : Array Value) (hw : ∀ d ∈ tables_1, d.before a0 Z = true) (a t : Addr) (v : Int32) (h0 : Heap) (hE : Ext Z.heap h0) (G1 : Fld Z h0 a "com/example/lucioles/lucioles/service/Scope" "type" "Lcom/example/lucioles/lucioles/service/Scope$Type;" (.ref t)) (G2 : Fld Z h0 a "com/example/lucioles/lucioles/service/Scope" "level" "I" (.int v)) (E1 : Exa Z Z.heap t "com/example/lucioles/lucioles/service/Scope$Type") (F1 : Fld Z Z.heap t "java/lang/Enum" "ordinal" "I" (.int (2 : Int32))) :
    Ct true l Z [] (⟨"com/example/lucioles/lucioles/service/Scope", "deepest", "()I"⟩ : MethodName) prog_14_method_5_code 1 (some .int) [] ({ frames := 1, cells := 0, slots := 0, locals := 13 } : Room) [] #[(.ref a)] h0 (fun r u => r = some (.int v) ∧ h0 = u) := by
  refine Ct.intro pn_com_example_lucioles_lucioles_service_Scope hE (fun m => ef6 m a) nosf ⟨a0, own_EW hw⟩ ?_
  intro x T w
  refine w.aloadN d6_0 rfl rfl ?_
  refine w.getF d6_1 (tw hw 29 rfl) G1 ?_
  intro T w
  refine w.callVU (argsL := []) (rest := []) 0 d6_4 (tw hw 44 rfl) (tw hw 45 rfl) (tw hw 46 rfl) (tw hw 48 rfl) (tw hw 47 rfl) (tw hw 49 rfl) (tw hw 50 rfl) (by decide) (E1.ext w.old) (rmR l Z a0 hw t (2 : Int32) h0 w.old (F1.ext w.old)) (lenOf pd_2 rfl) rfl rfl (Nat.le_refl _) ⟨by decide, by decide, by decide, by decide⟩ all0 ?_
  intro T h1 r w _ hQ
  obtain ⟨rfl, rfl⟩ := hQ
  show Go x _ Z _ _ _ T 7 #[.val (.ref a)] [(.int (2 : Int32))]
  refine w.lsw (off := 30) d6_7 (by decide) (by decide) (pcT := 37) ⟨by decide, by decide⟩ ?_
  refine w.aloadN d6_37 rfl rfl ?_
  refine w.getF d6_38 (tw hw 31 rfl) G2 ?_
  intro T w
  exact w.retI d6_41 rfl ⟨rfl, rfl⟩
set_option maxRecDepth 65536 in
set_option maxHeartbeats 40000000 in
theorem rmDD (l : Launch) (Z : State) (a0 : Array Value) (hw : ∀ d ∈ tables_1, d.before a0 Z = true) (a t : Addr) (v : Int32) (h0 : Heap) (hE : Ext Z.heap h0) (G1 : Fld Z h0 a "com/example/lucioles/lucioles/service/Scope" "type" "Lcom/example/lucioles/lucioles/service/Scope$Type;" (.ref t)) (G2 : Fld Z h0 a "com/example/lucioles/lucioles/service/Scope" "level" "I" (.int v)) (E1 : Exa Z Z.heap t "com/example/lucioles/lucioles/service/Scope$Type") (F1 : Fld Z Z.heap t "java/lang/Enum" "ordinal" "I" (.int (3 : Int32))) :
    Ct true l Z [] (⟨"com/example/lucioles/lucioles/service/Scope", "deepest", "()I"⟩ : MethodName) prog_14_method_5_code 1 (some .int) [] ({ frames := 1, cells := 0, slots := 0, locals := 13 } : Room) [] #[(.ref a)] h0 (fun r u => r = some (.int v) ∧ h0 = u) := by
  refine Ct.intro pn_com_example_lucioles_lucioles_service_Scope hE (fun m => ef6 m a) nosf ⟨a0, own_EW hw⟩ ?_
  intro x T w
  refine w.aloadN d6_0 rfl rfl ?_
  refine w.getF d6_1 (tw hw 29 rfl) G1 ?_
  intro T w
  refine w.callVU (argsL := []) (rest := []) 0 d6_4 (tw hw 44 rfl) (tw hw 45 rfl) (tw hw 46 rfl) (tw hw 48 rfl) (tw hw 47 rfl) (tw hw 49 rfl) (tw hw 50 rfl) (by decide) (E1.ext w.old) (rmR l Z a0 hw t (3 : Int32) h0 w.old (F1.ext w.old)) (lenOf pd_2 rfl) rfl rfl (Nat.le_refl _) ⟨by decide, by decide, by decide, by decide⟩ all0 ?_
  intro T h1 r w _ hQ
  obtain ⟨rfl, rfl⟩ := hQ
  show Go x _ Z _ _ _ T 7 #[.val (.ref a)] [(.int (3 : Int32))]
  refine w.lsw (off := 30) d6_7 (by decide) (by decide) (pcT := 37) ⟨by decide, by decide⟩ ?_
  refine w.aloadN d6_37 rfl rfl ?_
  refine w.getF d6_38 (tw hw 31 rfl) G2 ?_
  intro T w
  exact w.retI d6_41 rfl ⟨rfl, rfl⟩

set_option maxRecDepth 65536 in
set_option maxHeartbeats 40000000 in
theorem rmC (l : Launch) (Z : State) (a0 : Array Value) (hw : ∀ d ∈ tables_1, d.before a0 Z = true) (hn : narrow_1.value a0 Z none Z [] = some true) (a t : Addr) (v y : Int32) (h0 : Heap) (hE : Ext Z.heap h0) (G1 : Fld Z h0 a "com/example/lucioles/lucioles/service/Scope" "type" "Lcom/example/lucioles/lucioles/service/Scope$Type;" (.ref t)) (G2 : Fld Z h0 a "com/example/lucioles/lucioles/service/Scope" "level" "I" (.int v)) :
    Ct true l Z [] (⟨"com/example/lucioles/lucioles/service/Scope", "includes", "(I)Z"⟩ : MethodName) prog_14_method_4_code 2 (some .boolean) [] ({ frames := 0, cells := 0, slots := 0, locals := 0 } : Room) [] #[(.ref a), (.int y)] h0 (fun r u => r = some (.int (if t = (A_BASE_NTH_LEVEL Z a0) then (if y = v then 1 else 0) else 1)) ∧ h0 = u) := by
  refine Ct.intro pn_com_example_lucioles_lucioles_service_Scope hE (fun m => ef8 m a y) nosf ⟨a0, own_EW hw⟩ ?_
  intro x T w
  refine w.aloadN d8_0 rfl rfl ?_
  refine w.getF d8_1 (tw hw 29 rfl) G1 ?_
  intro T w
  refine w.getS d8_4 (tw hw 58 rfl) (s_BASE_NTH_LEVEL hw hn).2.1 ?_
  intro T w
  refine w.racmpNe d8_7 d8_7t (fun q1 => ?_) (fun q1 => ?_)
  · refine w.iconst (1 : Int32) d8_18 rfl ?_
    refine w.goto d8_19 d8_19t ?_
    exact w.retN d8_23 rfl (by simp) ⟨by simp [q1, nb1], rfl⟩
  · refine w.iloadN d8_10 rfl ?_
    refine w.aloadN d8_11 rfl rfl ?_
    refine w.getF d8_12 (tw hw 31 rfl) G2 ?_
    intro T w
    refine w.icmpNe d8_15 d8_15t (fun q2 => ?_) (fun q2 => ?_)
    · refine w.iconst (0 : Int32) d8_22 rfl ?_
      exact w.retN d8_23 rfl (by simp) ⟨by simp [q1, q2, nb0], rfl⟩
    · refine w.iconst (1 : Int32) d8_18 rfl ?_
      refine w.goto d8_19 d8_19t ?_
      exact w.retN d8_23 rfl (by simp) ⟨by simp [q1, q2, nb1], rfl⟩

set_option maxRecDepth 65536 in
set_option maxHeartbeats 40000000 in
theorem rm0 (l : Launch) (Z : State) (a0 : Array Value) (hw : ∀ d ∈ tables_1, d.before a0 Z = true) (hn : narrow_1.value a0 Z none Z [] = some true) (k lv qu fl : Int32) (h0 : Heap) (hE : Ext Z.heap h0) :
    Ct true l Z [] x code maxLocals ret tables_1 room_1 [] #[(.int k), (.int lv), (.int qu), (.int fl)] h0 (fun v _ => v = some (.int 1)) := by
  refine Ct.intro pn_com_example_lucioles_lucioles_service_ScopeOfPinLaw hE (fun m => ef0 m k lv qu fl) nosf ⟨a0, own_EW hw⟩ ?_
  intro x T w
  refine w.iloadN d0_0 rfl ?_
  refine w.iconst (3 : Int32) d0_1 rfl ?_
  refine w.iand d0_2 ?_
  refine w.istore #[.val (.int k), .val (.int lv), .val (.int qu), .val (.int fl), .val (.int (k &&& (3 : Int32))), .unset, .unset, .unset, .unset, .unset, .unset, .unset] d0_3 rfl ?_
  have e4 := and3 k
  generalize k &&& (3 : Int32) = t at e4 ⊢
  rcases e4 with rfl | rfl | rfl | rfl
  · show Go x _ Z _ _ _ T 5 #[.val (.int k), .val (.int lv), .val (.int qu), .val (.int fl), .val (.int (0 : Int32)), .unset, .unset, .unset, .unset, .unset, .unset, .unset] []
    refine w.iload d0_5 rfl ?_
    refine w.ifNe d0_7 d0_7t (fun q => absurd (by decide) q) (fun _ => ?_)
    refine w.getS d0_10 (tw hw 0 rfl) (s_BASE_ONLY hw hn).2.1 ?_
    intro T w
    refine w.astore #[.val (.int k), .val (.int lv), .val (.int qu), .val (.int fl), .val (.int (0 : Int32)), .val (.ref (A_BASE_ONLY Z a0)), .unset, .unset, .unset, .unset, .unset, .unset] d0_13 rfl rfl ?_
    refine w.goto d0_15 d0_15t ?_
    refine w.iload d0_51 rfl ?_
    refine w.iconst (2 : Int32) d0_53 rfl ?_
    refine w.icmpLt d0_54 d0_54t (fun _ => ?_) (fun q => absurd (by decide) q)
    refine w.iconst (0 : Int32) d0_61 rfl ?_
    refine w.istore #[.val (.int k), .val (.int lv), .val (.int qu), .val (.int fl), .val (.int (0 : Int32)), .val (.ref (A_BASE_ONLY Z a0)), .val (.int (0 : Int32)), .unset, .unset, .unset, .unset, .unset] d0_62 rfl ?_
    refine w.iload d0_64 rfl ?_
    refine w.ifEq d0_66 d0_66t (fun _ => ?_) (fun q => absurd (by decide) q)
    refine w.iloadN d0_76 rfl ?_
    refine w.istore #[.val (.int k), .val (.int lv), .val (.int qu), .val (.int fl), .val (.int (0 : Int32)), .val (.ref (A_BASE_ONLY Z a0)), .val (.int (0 : Int32)), .val (.int lv), .unset, .unset, .unset, .unset] d0_77 rfl ?_
    refine w.iloadN d0_79 rfl ?_
    refine w.iconst (1 : Int32) d0_80 rfl ?_
    refine w.iand d0_81 ?_
    refine w.ifEq d0_82 d0_82t (fun q1 => ?_) (fun q1 => ?_)
    · refine w.iloadN d0_90 rfl ?_
      refine w.istore #[.val (.int k), .val (.int lv), .val (.int qu), .val (.int fl), .val (.int (0 : Int32)), .val (.ref (A_BASE_ONLY Z a0)), .val (.int (0 : Int32)), .val (.int lv), .val (.int qu), .unset, .unset, .unset] d0_91 rfl ?_
      refine w.aload d0_93 rfl rfl ?_
      refine w.iload d0_95 rfl ?_
      refine w.callS (argsL := [(.ref (A_BASE_ONLY Z a0)), (.int lv)]) (rest := []) 0 d0_97 (tw hw 3 rfl) (tw hw 4 rfl) (tw hw 5 rfl) (tw hw 6 rfl) (by decide) (rmO l Z a0 hw (A_BASE_ONLY Z a0) lv (0 : Int32) (f_BASE_ONLY_takesLevel hw hn) (Or.inl rfl) h0 w.old) (lenOf pd_3 rfl) rfl rfl (Nat.le_refl _) ⟨by decide, by decide, by decide, by decide⟩ all0 ?_
      intro T h1 r w _ hQ
      obtain ⟨a, rfl, E9, F9, L9⟩ := hQ
      show Go x _ Z _ _ _ T 100 #[.val (.int k), .val (.int lv), .val (.int qu), .val (.int fl), .val (.int (0 : Int32)), .val (.ref (A_BASE_ONLY Z a0)), .val (.int (0 : Int32)), .val (.int lv), .val (.int qu), .unset, .unset, .unset] [(.ref a)]
      refine w.astore #[.val (.int k), .val (.int lv), .val (.int qu), .val (.int fl), .val (.int (0 : Int32)), .val (.ref (A_BASE_ONLY Z a0)), .val (.int (0 : Int32)), .val (.int lv), .val (.int qu), .val (.ref a), .unset, .unset] d0_100 rfl rfl ?_
      refine w.aload d0_102 rfl rfl ?_
      refine w.nonnullT d0_104 d0_104t ?_
      refine w.iload d0_109 rfl ?_
      refine w.ifNe d0_111 d0_111t (fun q => absurd (by decide) q) (fun _ => ?_)
      refine w.iconst (0 : Int32) d0_114 rfl ?_
      refine w.istore #[.val (.int k), .val (.int lv), .val (.int qu), .val (.int fl), .val (.int (0 : Int32)), .val (.ref (A_BASE_ONLY Z a0)), .val (.int (0 : Int32)), .val (.int lv), .val (.int qu), .val (.ref a), .val (.int (0 : Int32)), .unset] d0_115 rfl ?_
      refine w.iconst (1 : Int32) d0_117 rfl ?_
      refine w.istore #[.val (.int k), .val (.int lv), .val (.int qu), .val (.int fl), .val (.int (0 : Int32)), .val (.ref (A_BASE_ONLY Z a0)), .val (.int (0 : Int32)), .val (.int lv), .val (.int qu), .val (.ref a), .val (.int (0 : Int32)), .val (.int (1 : Int32))] d0_118 rfl ?_
      refine w.goto d0_120 d0_120t ?_
      refine w.aload d0_173 rfl rfl ?_
      refine w.callV (argsL := []) (rest := []) 0 d0_175 (tw hw 33 rfl) (tw hw 34 rfl) (tw hw 36 rfl) (tw hw 35 rfl) (tw hw 1 rfl) (tw hw 37 rfl) (by decide) ((s_BASE_ONLY hw hn).2.2.ext w.old) (rmT l Z a0 hw (A_BASE_ONLY Z a0) (0 : Int32) (f_BASE_ONLY_takesLevel hw hn) h1 w.old) (lenOf pd_4 rfl) rfl rfl (Nat.le_refl _) ⟨by decide, by decide, by decide, by decide⟩ all0 ?_
      intro T h2 r w _ hQ
      obtain ⟨rfl, rfl⟩ := hQ
      show Go x _ Z _ _ _ T 178 #[.val (.int k), .val (.int lv), .val (.int qu), .val (.int fl), .val (.int (0 : Int32)), .val (.ref (A_BASE_ONLY Z a0)), .val (.int (0 : Int32)), .val (.int lv), .val (.int qu), .val (.ref a), .val (.int (0 : Int32)), .val (.int (1 : Int32))] [(.int (0 : Int32))]
      refine w.iload d0_178 rfl ?_
      refine w.icmpNe d0_180 d0_180t (fun q => absurd rfl q) (fun _ => ?_)
      refine w.aload d0_183 rfl rfl ?_
      refine w.callV (argsL := []) (rest := []) 0 d0_185 (tw hw 39 rfl) (tw hw 40 rfl) (tw hw 42 rfl) (tw hw 41 rfl) (tw hw 5 rfl) (tw hw 43 rfl) (by decide) E9 (rmDA l Z a0 hw a (A_BASE_ONLY Z a0) lv h1 w.old F9 L9 (s_BASE_ONLY hw hn).2.2 (f_BASE_ONLY_ordinal hw hn)) (lenOf pd_2 rfl) rfl rfl (Nat.le_refl _) ⟨by decide, by decide, by decide, by decide⟩ all0 ?_
      intro T h3 r w _ hQ
      obtain ⟨rfl, rfl⟩ := hQ
      show Go x _ Z _ _ _ T 188 #[.val (.int k), .val (.int lv), .val (.int qu), .val (.int fl), .val (.int (0 : Int32)), .val (.ref (A_BASE_ONLY Z a0)), .val (.int (0 : Int32)), .val (.int lv), .val (.int qu), .val (.ref a), .val (.int (0 : Int32)), .val (.int (1 : Int32))] [(.int (0 : Int32))]
      refine w.iload d0_188 rfl ?_
      refine w.icmpNe d0_190 d0_190t (fun q => absurd rfl q) (fun _ => ?_)
      refine w.aload d0_193 rfl rfl ?_
      refine w.iload d0_195 rfl ?_
      refine w.callV (argsL := [(.int qu)]) (rest := []) 0 d0_197 (tw hw 53 rfl) (tw hw 54 rfl) (tw hw 56 rfl) (tw hw 55 rfl) (tw hw 5 rfl) (tw hw 57 rfl) (by decide) E9 (rmC l Z a0 hw hn a (A_BASE_ONLY Z a0) lv qu h1 w.old F9 L9) (lenOf pd_5 rfl) rfl rfl (Nat.le_refl _) ⟨by decide, by decide, by decide, by decide⟩ all0 ?_
      intro T h4 r w _ hQ
      obtain ⟨rfl, rfl⟩ := hQ
      rw [show (if (A_BASE_ONLY Z a0) = (A_BASE_NTH_LEVEL Z a0) then (if qu = lv then 1 else 0) else 1) = (1 : Int32) from if_neg (own_ne_BASE_ONLY hw hn)]
      show Go x _ Z _ _ _ T 200 #[.val (.int k), .val (.int lv), .val (.int qu), .val (.int fl), .val (.int (0 : Int32)), .val (.ref (A_BASE_ONLY Z a0)), .val (.int (0 : Int32)), .val (.int lv), .val (.int qu), .val (.ref a), .val (.int (0 : Int32)), .val (.int (1 : Int32))] [(.int (1 : Int32))]
      refine w.iload d0_200 rfl ?_
      refine w.icmpNe d0_202 d0_202t (fun q => absurd rfl q) (fun _ => ?_)
      refine w.iconst (1 : Int32) d0_205 rfl ?_
      refine w.goto d0_206 d0_206t ?_
      exact w.retN d0_210 rfl (by simp) rfl
    · refine w.iload d0_85 rfl ?_
      refine w.goto d0_87 d0_87t ?_
      refine w.istore #[.val (.int k), .val (.int lv), .val (.int qu), .val (.int fl), .val (.int (0 : Int32)), .val (.ref (A_BASE_ONLY Z a0)), .val (.int (0 : Int32)), .val (.int lv), .val (.int lv), .unset, .unset, .unset] d0_91 rfl ?_
      refine w.aload d0_93 rfl rfl ?_
      refine w.iload d0_95 rfl ?_
      refine w.callS (argsL := [(.ref (A_BASE_ONLY Z a0)), (.int lv)]) (rest := []) 0 d0_97 (tw hw 3 rfl) (tw hw 4 rfl) (tw hw 5 rfl) (tw hw 6 rfl) (by decide) (rmO l Z a0 hw (A_BASE_ONLY Z a0) lv (0 : Int32) (f_BASE_ONLY_takesLevel hw hn) (Or.inl rfl) h0 w.old) (lenOf pd_3 rfl) rfl rfl (Nat.le_refl _) ⟨by decide, by decide, by decide, by decide⟩ all0 ?_
      intro T h5 r w _ hQ
      obtain ⟨a, rfl, E9, F9, L9⟩ := hQ
      show Go x _ Z _ _ _ T 100 #[.val (.int k), .val (.int lv), .val (.int qu), .val (.int fl), .val (.int (0 : Int32)), .val (.ref (A_BASE_ONLY Z a0)), .val (.int (0 : Int32)), .val (.int lv), .val (.int lv), .unset, .unset, .unset] [(.ref a)]
      refine w.astore #[.val (.int k), .val (.int lv), .val (.int qu), .val (.int fl), .val (.int (0 : Int32)), .val (.ref (A_BASE_ONLY Z a0)), .val (.int (0 : Int32)), .val (.int lv), .val (.int lv), .val (.ref a), .unset, .unset] d0_100 rfl rfl ?_
      refine w.aload d0_102 rfl rfl ?_
      refine w.nonnullT d0_104 d0_104t ?_
      refine w.iload d0_109 rfl ?_
      refine w.ifNe d0_111 d0_111t (fun q => absurd (by decide) q) (fun _ => ?_)
      refine w.iconst (0 : Int32) d0_114 rfl ?_
      refine w.istore #[.val (.int k), .val (.int lv), .val (.int qu), .val (.int fl), .val (.int (0 : Int32)), .val (.ref (A_BASE_ONLY Z a0)), .val (.int (0 : Int32)), .val (.int lv), .val (.int lv), .val (.ref a), .val (.int (0 : Int32)), .unset] d0_115 rfl ?_
      refine w.iconst (1 : Int32) d0_117 rfl ?_
      refine w.istore #[.val (.int k), .val (.int lv), .val (.int qu), .val (.int fl), .val (.int (0 : Int32)), .val (.ref (A_BASE_ONLY Z a0)), .val (.int (0 : Int32)), .val (.int lv), .val (.int lv), .val (.ref a), .val (.int (0 : Int32)), .val (.int (1 : Int32))] d0_118 rfl ?_
      refine w.goto d0_120 d0_120t ?_
      refine w.aload d0_173 rfl rfl ?_
      refine w.callV (argsL := []) (rest := []) 0 d0_175 (tw hw 33 rfl) (tw hw 34 rfl) (tw hw 36 rfl) (tw hw 35 rfl) (tw hw 1 rfl) (tw hw 37 rfl) (by decide) ((s_BASE_ONLY hw hn).2.2.ext w.old) (rmT l Z a0 hw (A_BASE_ONLY Z a0) (0 : Int32) (f_BASE_ONLY_takesLevel hw hn) h5 w.old) (lenOf pd_4 rfl) rfl rfl (Nat.le_refl _) ⟨by decide, by decide, by decide, by decide⟩ all0 ?_
      intro T h6 r w _ hQ
      obtain ⟨rfl, rfl⟩ := hQ
      show Go x _ Z _ _ _ T 178 #[.val (.int k), .val (.int lv), .val (.int qu), .val (.int fl), .val (.int (0 : Int32)), .val (.ref (A_BASE_ONLY Z a0)), .val (.int (0 : Int32)), .val (.int lv), .val (.int lv), .val (.ref a), .val (.int (0 : Int32)), .val (.int (1 : Int32))] [(.int (0 : Int32))]
      refine w.iload d0_178 rfl ?_
      refine w.icmpNe d0_180 d0_180t (fun q => absurd rfl q) (fun _ => ?_)
      refine w.aload d0_183 rfl rfl ?_
      refine w.callV (argsL := []) (rest := []) 0 d0_185 (tw hw 39 rfl) (tw hw 40 rfl) (tw hw 42 rfl) (tw hw 41 rfl) (tw hw 5 rfl) (tw hw 43 rfl) (by decide) E9 (rmDA l Z a0 hw a (A_BASE_ONLY Z a0) lv h5 w.old F9 L9 (s_BASE_ONLY hw hn).2.2 (f_BASE_ONLY_ordinal hw hn)) (lenOf pd_2 rfl) rfl rfl (Nat.le_refl _) ⟨by decide, by decide, by decide, by decide⟩ all0 ?_
      intro T h7 r w _ hQ
      obtain ⟨rfl, rfl⟩ := hQ
      show Go x _ Z _ _ _ T 188 #[.val (.int k), .val (.int lv), .val (.int qu), .val (.int fl), .val (.int (0 : Int32)), .val (.ref (A_BASE_ONLY Z a0)), .val (.int (0 : Int32)), .val (.int lv), .val (.int lv), .val (.ref a), .val (.int (0 : Int32)), .val (.int (1 : Int32))] [(.int (0 : Int32))]
      refine w.iload d0_188 rfl ?_
      refine w.icmpNe d0_190 d0_190t (fun q => absurd rfl q) (fun _ => ?_)
      refine w.aload d0_193 rfl rfl ?_
      refine w.iload d0_195 rfl ?_
      refine w.callV (argsL := [(.int lv)]) (rest := []) 0 d0_197 (tw hw 53 rfl) (tw hw 54 rfl) (tw hw 56 rfl) (tw hw 55 rfl) (tw hw 5 rfl) (tw hw 57 rfl) (by decide) E9 (rmC l Z a0 hw hn a (A_BASE_ONLY Z a0) lv lv h5 w.old F9 L9) (lenOf pd_5 rfl) rfl rfl (Nat.le_refl _) ⟨by decide, by decide, by decide, by decide⟩ all0 ?_
      intro T h8 r w _ hQ
      obtain ⟨rfl, rfl⟩ := hQ
      rw [show (if (A_BASE_ONLY Z a0) = (A_BASE_NTH_LEVEL Z a0) then (if lv = lv then 1 else 0) else 1) = (1 : Int32) from if_neg (own_ne_BASE_ONLY hw hn)]
      show Go x _ Z _ _ _ T 200 #[.val (.int k), .val (.int lv), .val (.int qu), .val (.int fl), .val (.int (0 : Int32)), .val (.ref (A_BASE_ONLY Z a0)), .val (.int (0 : Int32)), .val (.int lv), .val (.int lv), .val (.ref a), .val (.int (0 : Int32)), .val (.int (1 : Int32))] [(.int (1 : Int32))]
      refine w.iload d0_200 rfl ?_
      refine w.icmpNe d0_202 d0_202t (fun q => absurd rfl q) (fun _ => ?_)
      refine w.iconst (1 : Int32) d0_205 rfl ?_
      refine w.goto d0_206 d0_206t ?_
      exact w.retN d0_210 rfl (by simp) rfl
  · show Go x _ Z _ _ _ T 5 #[.val (.int k), .val (.int lv), .val (.int qu), .val (.int fl), .val (.int (1 : Int32)), .unset, .unset, .unset, .unset, .unset, .unset, .unset] []
    refine w.iload d0_5 rfl ?_
    refine w.ifNe d0_7 d0_7t (fun _ => ?_) (fun q => absurd q (by decide))
    refine w.iload d0_18 rfl ?_
    refine w.iconst (1 : Int32) d0_20 rfl ?_
    refine w.icmpNe d0_21 d0_21t (fun q => absurd (by decide) q) (fun _ => ?_)
    refine w.getS d0_24 (tw hw 64 rfl) (s_BASE_ALL hw hn).2.1 ?_
    intro T w
    refine w.astore #[.val (.int k), .val (.int lv), .val (.int qu), .val (.int fl), .val (.int (1 : Int32)), .val (.ref (A_BASE_ALL Z a0)), .unset, .unset, .unset, .unset, .unset, .unset] d0_27 rfl rfl ?_
    refine w.goto d0_29 d0_29t ?_
    refine w.iload d0_51 rfl ?_
    refine w.iconst (2 : Int32) d0_53 rfl ?_
    refine w.icmpLt d0_54 d0_54t (fun _ => ?_) (fun q => absurd (by decide) q)
    refine w.iconst (0 : Int32) d0_61 rfl ?_
    refine w.istore #[.val (.int k), .val (.int lv), .val (.int qu), .val (.int fl), .val (.int (1 : Int32)), .val (.ref (A_BASE_ALL Z a0)), .val (.int (0 : Int32)), .unset, .unset, .unset, .unset, .unset] d0_62 rfl ?_
    refine w.iload d0_64 rfl ?_
    refine w.ifEq d0_66 d0_66t (fun _ => ?_) (fun q => absurd (by decide) q)
    refine w.iloadN d0_76 rfl ?_
    refine w.istore #[.val (.int k), .val (.int lv), .val (.int qu), .val (.int fl), .val (.int (1 : Int32)), .val (.ref (A_BASE_ALL Z a0)), .val (.int (0 : Int32)), .val (.int lv), .unset, .unset, .unset, .unset] d0_77 rfl ?_
    refine w.iloadN d0_79 rfl ?_
    refine w.iconst (1 : Int32) d0_80 rfl ?_
    refine w.iand d0_81 ?_
    refine w.ifEq d0_82 d0_82t (fun q1 => ?_) (fun q1 => ?_)
    · refine w.iloadN d0_90 rfl ?_
      refine w.istore #[.val (.int k), .val (.int lv), .val (.int qu), .val (.int fl), .val (.int (1 : Int32)), .val (.ref (A_BASE_ALL Z a0)), .val (.int (0 : Int32)), .val (.int lv), .val (.int qu), .unset, .unset, .unset] d0_91 rfl ?_
      refine w.aload d0_93 rfl rfl ?_
      refine w.iload d0_95 rfl ?_
      refine w.callS (argsL := [(.ref (A_BASE_ALL Z a0)), (.int lv)]) (rest := []) 0 d0_97 (tw hw 3 rfl) (tw hw 4 rfl) (tw hw 5 rfl) (tw hw 6 rfl) (by decide) (rmO l Z a0 hw (A_BASE_ALL Z a0) lv (0 : Int32) (f_BASE_ALL_takesLevel hw hn) (Or.inl rfl) h0 w.old) (lenOf pd_3 rfl) rfl rfl (Nat.le_refl _) ⟨by decide, by decide, by decide, by decide⟩ all0 ?_
      intro T h9 r w _ hQ
      obtain ⟨a, rfl, E9, F9, L9⟩ := hQ
      show Go x _ Z _ _ _ T 100 #[.val (.int k), .val (.int lv), .val (.int qu), .val (.int fl), .val (.int (1 : Int32)), .val (.ref (A_BASE_ALL Z a0)), .val (.int (0 : Int32)), .val (.int lv), .val (.int qu), .unset, .unset, .unset] [(.ref a)]
      refine w.astore #[.val (.int k), .val (.int lv), .val (.int qu), .val (.int fl), .val (.int (1 : Int32)), .val (.ref (A_BASE_ALL Z a0)), .val (.int (0 : Int32)), .val (.int lv), .val (.int qu), .val (.ref a), .unset, .unset] d0_100 rfl rfl ?_
      refine w.aload d0_102 rfl rfl ?_
      refine w.nonnullT d0_104 d0_104t ?_
      refine w.iload d0_109 rfl ?_
      refine w.ifNe d0_111 d0_111t (fun _ => ?_) (fun q => absurd q (by decide))
      refine w.iload d0_123 rfl ?_
      refine w.iconst (1 : Int32) d0_125 rfl ?_
      refine w.icmpNe d0_126 d0_126t (fun q => absurd (by decide) q) (fun _ => ?_)
      refine w.ldcI d0_129 (tw hw 62 rfl) ?_
      refine w.istore #[.val (.int k), .val (.int lv), .val (.int qu), .val (.int fl), .val (.int (1 : Int32)), .val (.ref (A_BASE_ALL Z a0)), .val (.int (0 : Int32)), .val (.int lv), .val (.int qu), .val (.ref a), .val (.int (2147483647 : Int32)), .unset] d0_131 rfl ?_
      refine w.iconst (1 : Int32) d0_133 rfl ?_
      refine w.istore #[.val (.int k), .val (.int lv), .val (.int qu), .val (.int fl), .val (.int (1 : Int32)), .val (.ref (A_BASE_ALL Z a0)), .val (.int (0 : Int32)), .val (.int lv), .val (.int qu), .val (.ref a), .val (.int (2147483647 : Int32)), .val (.int (1 : Int32))] d0_134 rfl ?_
      refine w.goto d0_136 d0_136t ?_
      refine w.aload d0_173 rfl rfl ?_
      refine w.callV (argsL := []) (rest := []) 0 d0_175 (tw hw 33 rfl) (tw hw 34 rfl) (tw hw 36 rfl) (tw hw 35 rfl) (tw hw 1 rfl) (tw hw 37 rfl) (by decide) ((s_BASE_ALL hw hn).2.2.ext w.old) (rmT l Z a0 hw (A_BASE_ALL Z a0) (0 : Int32) (f_BASE_ALL_takesLevel hw hn) h9 w.old) (lenOf pd_4 rfl) rfl rfl (Nat.le_refl _) ⟨by decide, by decide, by decide, by decide⟩ all0 ?_
      intro T h10 r w _ hQ
      obtain ⟨rfl, rfl⟩ := hQ
      show Go x _ Z _ _ _ T 178 #[.val (.int k), .val (.int lv), .val (.int qu), .val (.int fl), .val (.int (1 : Int32)), .val (.ref (A_BASE_ALL Z a0)), .val (.int (0 : Int32)), .val (.int lv), .val (.int qu), .val (.ref a), .val (.int (2147483647 : Int32)), .val (.int (1 : Int32))] [(.int (0 : Int32))]
      refine w.iload d0_178 rfl ?_
      refine w.icmpNe d0_180 d0_180t (fun q => absurd rfl q) (fun _ => ?_)
      refine w.aload d0_183 rfl rfl ?_
      refine w.callV (argsL := []) (rest := []) 0 d0_185 (tw hw 39 rfl) (tw hw 40 rfl) (tw hw 42 rfl) (tw hw 41 rfl) (tw hw 5 rfl) (tw hw 43 rfl) (by decide) E9 (rmDB l Z a0 hw a (A_BASE_ALL Z a0) lv h9 w.old F9 L9 (s_BASE_ALL hw hn).2.2 (f_BASE_ALL_ordinal hw hn)) (lenOf pd_2 rfl) rfl rfl (Nat.le_refl _) ⟨by decide, by decide, by decide, by decide⟩ all0 ?_
      intro T h11 r w _ hQ
      obtain ⟨rfl, rfl⟩ := hQ
      show Go x _ Z _ _ _ T 188 #[.val (.int k), .val (.int lv), .val (.int qu), .val (.int fl), .val (.int (1 : Int32)), .val (.ref (A_BASE_ALL Z a0)), .val (.int (0 : Int32)), .val (.int lv), .val (.int qu), .val (.ref a), .val (.int (2147483647 : Int32)), .val (.int (1 : Int32))] [(.int (2147483647 : Int32))]
      refine w.iload d0_188 rfl ?_
      refine w.icmpNe d0_190 d0_190t (fun q => absurd rfl q) (fun _ => ?_)
      refine w.aload d0_193 rfl rfl ?_
      refine w.iload d0_195 rfl ?_
      refine w.callV (argsL := [(.int qu)]) (rest := []) 0 d0_197 (tw hw 53 rfl) (tw hw 54 rfl) (tw hw 56 rfl) (tw hw 55 rfl) (tw hw 5 rfl) (tw hw 57 rfl) (by decide) E9 (rmC l Z a0 hw hn a (A_BASE_ALL Z a0) lv qu h9 w.old F9 L9) (lenOf pd_5 rfl) rfl rfl (Nat.le_refl _) ⟨by decide, by decide, by decide, by decide⟩ all0 ?_
      intro T h12 r w _ hQ
      obtain ⟨rfl, rfl⟩ := hQ
      rw [show (if (A_BASE_ALL Z a0) = (A_BASE_NTH_LEVEL Z a0) then (if qu = lv then 1 else 0) else 1) = (1 : Int32) from if_neg (own_ne_BASE_ALL hw hn)]
      show Go x _ Z _ _ _ T 200 #[.val (.int k), .val (.int lv), .val (.int qu), .val (.int fl), .val (.int (1 : Int32)), .val (.ref (A_BASE_ALL Z a0)), .val (.int (0 : Int32)), .val (.int lv), .val (.int qu), .val (.ref a), .val (.int (2147483647 : Int32)), .val (.int (1 : Int32))] [(.int (1 : Int32))]
      refine w.iload d0_200 rfl ?_
      refine w.icmpNe d0_202 d0_202t (fun q => absurd rfl q) (fun _ => ?_)
      refine w.iconst (1 : Int32) d0_205 rfl ?_
      refine w.goto d0_206 d0_206t ?_
      exact w.retN d0_210 rfl (by simp) rfl
    · refine w.iload d0_85 rfl ?_
      refine w.goto d0_87 d0_87t ?_
      refine w.istore #[.val (.int k), .val (.int lv), .val (.int qu), .val (.int fl), .val (.int (1 : Int32)), .val (.ref (A_BASE_ALL Z a0)), .val (.int (0 : Int32)), .val (.int lv), .val (.int lv), .unset, .unset, .unset] d0_91 rfl ?_
      refine w.aload d0_93 rfl rfl ?_
      refine w.iload d0_95 rfl ?_
      refine w.callS (argsL := [(.ref (A_BASE_ALL Z a0)), (.int lv)]) (rest := []) 0 d0_97 (tw hw 3 rfl) (tw hw 4 rfl) (tw hw 5 rfl) (tw hw 6 rfl) (by decide) (rmO l Z a0 hw (A_BASE_ALL Z a0) lv (0 : Int32) (f_BASE_ALL_takesLevel hw hn) (Or.inl rfl) h0 w.old) (lenOf pd_3 rfl) rfl rfl (Nat.le_refl _) ⟨by decide, by decide, by decide, by decide⟩ all0 ?_
      intro T h13 r w _ hQ
      obtain ⟨a, rfl, E9, F9, L9⟩ := hQ
      show Go x _ Z _ _ _ T 100 #[.val (.int k), .val (.int lv), .val (.int qu), .val (.int fl), .val (.int (1 : Int32)), .val (.ref (A_BASE_ALL Z a0)), .val (.int (0 : Int32)), .val (.int lv), .val (.int lv), .unset, .unset, .unset] [(.ref a)]
      refine w.astore #[.val (.int k), .val (.int lv), .val (.int qu), .val (.int fl), .val (.int (1 : Int32)), .val (.ref (A_BASE_ALL Z a0)), .val (.int (0 : Int32)), .val (.int lv), .val (.int lv), .val (.ref a), .unset, .unset] d0_100 rfl rfl ?_
      refine w.aload d0_102 rfl rfl ?_
      refine w.nonnullT d0_104 d0_104t ?_
      refine w.iload d0_109 rfl ?_
      refine w.ifNe d0_111 d0_111t (fun _ => ?_) (fun q => absurd q (by decide))
      refine w.iload d0_123 rfl ?_
      refine w.iconst (1 : Int32) d0_125 rfl ?_
      refine w.icmpNe d0_126 d0_126t (fun q => absurd (by decide) q) (fun _ => ?_)
      refine w.ldcI d0_129 (tw hw 62 rfl) ?_
      refine w.istore #[.val (.int k), .val (.int lv), .val (.int qu), .val (.int fl), .val (.int (1 : Int32)), .val (.ref (A_BASE_ALL Z a0)), .val (.int (0 : Int32)), .val (.int lv), .val (.int lv), .val (.ref a), .val (.int (2147483647 : Int32)), .unset] d0_131 rfl ?_
      refine w.iconst (1 : Int32) d0_133 rfl ?_
      refine w.istore #[.val (.int k), .val (.int lv), .val (.int qu), .val (.int fl), .val (.int (1 : Int32)), .val (.ref (A_BASE_ALL Z a0)), .val (.int (0 : Int32)), .val (.int lv), .val (.int lv), .val (.ref a), .val (.int (2147483647 : Int32)), .val (.int (1 : Int32))] d0_134 rfl ?_
      refine w.goto d0_136 d0_136t ?_
      refine w.aload d0_173 rfl rfl ?_
      refine w.callV (argsL := []) (rest := []) 0 d0_175 (tw hw 33 rfl) (tw hw 34 rfl) (tw hw 36 rfl) (tw hw 35 rfl) (tw hw 1 rfl) (tw hw 37 rfl) (by decide) ((s_BASE_ALL hw hn).2.2.ext w.old) (rmT l Z a0 hw (A_BASE_ALL Z a0) (0 : Int32) (f_BASE_ALL_takesLevel hw hn) h13 w.old) (lenOf pd_4 rfl) rfl rfl (Nat.le_refl _) ⟨by decide, by decide, by decide, by decide⟩ all0 ?_
      intro T h14 r w _ hQ
      obtain ⟨rfl, rfl⟩ := hQ
      show Go x _ Z _ _ _ T 178 #[.val (.int k), .val (.int lv), .val (.int qu), .val (.int fl), .val (.int (1 : Int32)), .val (.ref (A_BASE_ALL Z a0)), .val (.int (0 : Int32)), .val (.int lv), .val (.int lv), .val (.ref a), .val (.int (2147483647 : Int32)), .val (.int (1 : Int32))] [(.int (0 : Int32))]
      refine w.iload d0_178 rfl ?_
      refine w.icmpNe d0_180 d0_180t (fun q => absurd rfl q) (fun _ => ?_)
      refine w.aload d0_183 rfl rfl ?_
      refine w.callV (argsL := []) (rest := []) 0 d0_185 (tw hw 39 rfl) (tw hw 40 rfl) (tw hw 42 rfl) (tw hw 41 rfl) (tw hw 5 rfl) (tw hw 43 rfl) (by decide) E9 (rmDB l Z a0 hw a (A_BASE_ALL Z a0) lv h13 w.old F9 L9 (s_BASE_ALL hw hn).2.2 (f_BASE_ALL_ordinal hw hn)) (lenOf pd_2 rfl) rfl rfl (Nat.le_refl _) ⟨by decide, by decide, by decide, by decide⟩ all0 ?_
      intro T h15 r w _ hQ
      obtain ⟨rfl, rfl⟩ := hQ
      show Go x _ Z _ _ _ T 188 #[.val (.int k), .val (.int lv), .val (.int qu), .val (.int fl), .val (.int (1 : Int32)), .val (.ref (A_BASE_ALL Z a0)), .val (.int (0 : Int32)), .val (.int lv), .val (.int lv), .val (.ref a), .val (.int (2147483647 : Int32)), .val (.int (1 : Int32))] [(.int (2147483647 : Int32))]
      refine w.iload d0_188 rfl ?_
      refine w.icmpNe d0_190 d0_190t (fun q => absurd rfl q) (fun _ => ?_)
      refine w.aload d0_193 rfl rfl ?_
      refine w.iload d0_195 rfl ?_
      refine w.callV (argsL := [(.int lv)]) (rest := []) 0 d0_197 (tw hw 53 rfl) (tw hw 54 rfl) (tw hw 56 rfl) (tw hw 55 rfl) (tw hw 5 rfl) (tw hw 57 rfl) (by decide) E9 (rmC l Z a0 hw hn a (A_BASE_ALL Z a0) lv lv h13 w.old F9 L9) (lenOf pd_5 rfl) rfl rfl (Nat.le_refl _) ⟨by decide, by decide, by decide, by decide⟩ all0 ?_
      intro T h16 r w _ hQ
      obtain ⟨rfl, rfl⟩ := hQ
      rw [show (if (A_BASE_ALL Z a0) = (A_BASE_NTH_LEVEL Z a0) then (if lv = lv then 1 else 0) else 1) = (1 : Int32) from if_neg (own_ne_BASE_ALL hw hn)]
      show Go x _ Z _ _ _ T 200 #[.val (.int k), .val (.int lv), .val (.int qu), .val (.int fl), .val (.int (1 : Int32)), .val (.ref (A_BASE_ALL Z a0)), .val (.int (0 : Int32)), .val (.int lv), .val (.int lv), .val (.ref a), .val (.int (2147483647 : Int32)), .val (.int (1 : Int32))] [(.int (1 : Int32))]
      refine w.iload d0_200 rfl ?_
      refine w.icmpNe d0_202 d0_202t (fun q => absurd rfl q) (fun _ => ?_)
      refine w.iconst (1 : Int32) d0_205 rfl ?_
      refine w.goto d0_206 d0_206t ?_
      exact w.retN d0_210 rfl (by simp) rfl
  · show Go x _ Z _ _ _ T 5 #[.val (.int k), .val (.int lv), .val (.int qu), .val (.int fl), .val (.int (2 : Int32)), .unset, .unset, .unset, .unset, .unset, .unset, .unset] []
    refine w.iload d0_5 rfl ?_
    refine w.ifNe d0_7 d0_7t (fun _ => ?_) (fun q => absurd q (by decide))
    refine w.iload d0_18 rfl ?_
    refine w.iconst (1 : Int32) d0_20 rfl ?_
    refine w.icmpNe d0_21 d0_21t (fun _ => ?_) (fun q => absurd q (by decide))
    refine w.iload d0_32 rfl ?_
    refine w.iconst (2 : Int32) d0_34 rfl ?_
    refine w.icmpNe d0_35 d0_35t (fun q => absurd (by decide) q) (fun _ => ?_)
    refine w.getS d0_38 (tw hw 63 rfl) (s_BASE_NTH_LEVEL hw hn).2.1 ?_
    intro T w
    refine w.astore #[.val (.int k), .val (.int lv), .val (.int qu), .val (.int fl), .val (.int (2 : Int32)), .val (.ref (A_BASE_NTH_LEVEL Z a0)), .unset, .unset, .unset, .unset, .unset, .unset] d0_41 rfl rfl ?_
    refine w.goto d0_43 d0_43t ?_
    refine w.iload d0_51 rfl ?_
    refine w.iconst (2 : Int32) d0_53 rfl ?_
    refine w.icmpLt d0_54 d0_54t (fun q => absurd q (by decide)) (fun _ => ?_)
    refine w.iconst (1 : Int32) d0_57 rfl ?_
    refine w.goto d0_58 d0_58t ?_
    refine w.istore #[.val (.int k), .val (.int lv), .val (.int qu), .val (.int fl), .val (.int (2 : Int32)), .val (.ref (A_BASE_NTH_LEVEL Z a0)), .val (.int (1 : Int32)), .unset, .unset, .unset, .unset, .unset] d0_62 rfl ?_
    refine w.iload d0_64 rfl ?_
    refine w.ifEq d0_66 d0_66t (fun q => absurd q (by decide)) (fun _ => ?_)
    refine w.iloadN d0_69 rfl ?_
    refine w.ldcI d0_70 (tw hw 62 rfl) ?_
    refine w.iand d0_72 ?_
    refine w.goto d0_73 d0_73t ?_
    refine w.istore #[.val (.int k), .val (.int lv), .val (.int qu), .val (.int fl), .val (.int (2 : Int32)), .val (.ref (A_BASE_NTH_LEVEL Z a0)), .val (.int (1 : Int32)), .val (.int (lv &&& (2147483647 : Int32))), .unset, .unset, .unset, .unset] d0_77 rfl ?_
    refine w.iloadN d0_79 rfl ?_
    refine w.iconst (1 : Int32) d0_80 rfl ?_
    refine w.iand d0_81 ?_
    refine w.ifEq d0_82 d0_82t (fun q1 => ?_) (fun q1 => ?_)
    · refine w.iloadN d0_90 rfl ?_
      refine w.istore #[.val (.int k), .val (.int lv), .val (.int qu), .val (.int fl), .val (.int (2 : Int32)), .val (.ref (A_BASE_NTH_LEVEL Z a0)), .val (.int (1 : Int32)), .val (.int (lv &&& (2147483647 : Int32))), .val (.int qu), .unset, .unset, .unset] d0_91 rfl ?_
      refine w.aload d0_93 rfl rfl ?_
      refine w.iload d0_95 rfl ?_
      refine w.callS (argsL := [(.ref (A_BASE_NTH_LEVEL Z a0)), (.int (lv &&& (2147483647 : Int32)))]) (rest := []) 0 d0_97 (tw hw 3 rfl) (tw hw 4 rfl) (tw hw 5 rfl) (tw hw 6 rfl) (by decide) (rmO l Z a0 hw (A_BASE_NTH_LEVEL Z a0) (lv &&& (2147483647 : Int32)) (1 : Int32) (f_BASE_NTH_LEVEL_takesLevel hw hn) (Or.inr (maskNeg lv)) h0 w.old) (lenOf pd_3 rfl) rfl rfl (Nat.le_refl _) ⟨by decide, by decide, by decide, by decide⟩ all0 ?_
      intro T h17 r w _ hQ
      obtain ⟨a, rfl, E9, F9, L9⟩ := hQ
      show Go x _ Z _ _ _ T 100 #[.val (.int k), .val (.int lv), .val (.int qu), .val (.int fl), .val (.int (2 : Int32)), .val (.ref (A_BASE_NTH_LEVEL Z a0)), .val (.int (1 : Int32)), .val (.int (lv &&& (2147483647 : Int32))), .val (.int qu), .unset, .unset, .unset] [(.ref a)]
      refine w.astore #[.val (.int k), .val (.int lv), .val (.int qu), .val (.int fl), .val (.int (2 : Int32)), .val (.ref (A_BASE_NTH_LEVEL Z a0)), .val (.int (1 : Int32)), .val (.int (lv &&& (2147483647 : Int32))), .val (.int qu), .val (.ref a), .unset, .unset] d0_100 rfl rfl ?_
      refine w.aload d0_102 rfl rfl ?_
      refine w.nonnullT d0_104 d0_104t ?_
      refine w.iload d0_109 rfl ?_
      refine w.ifNe d0_111 d0_111t (fun _ => ?_) (fun q => absurd q (by decide))
      refine w.iload d0_123 rfl ?_
      refine w.iconst (1 : Int32) d0_125 rfl ?_
      refine w.icmpNe d0_126 d0_126t (fun _ => ?_) (fun q => absurd q (by decide))
      refine w.iload d0_139 rfl ?_
      refine w.iconst (2 : Int32) d0_141 rfl ?_
      refine w.icmpNe d0_142 d0_142t (fun q => absurd (by decide) q) (fun _ => ?_)
      refine w.iload d0_145 rfl ?_
      refine w.istore #[.val (.int k), .val (.int lv), .val (.int qu), .val (.int fl), .val (.int (2 : Int32)), .val (.ref (A_BASE_NTH_LEVEL Z a0)), .val (.int (1 : Int32)), .val (.int (lv &&& (2147483647 : Int32))), .val (.int qu), .val (.ref a), .val (.int (lv &&& (2147483647 : Int32))), .unset] d0_147 rfl ?_
      refine w.iload d0_149 rfl ?_
      refine w.iload d0_151 rfl ?_
      refine w.icmpNe d0_153 d0_153t (fun q2 => ?_) (fun q2 => ?_)
      · refine w.iconst (0 : Int32) d0_160 rfl ?_
        refine w.istore #[.val (.int k), .val (.int lv), .val (.int qu), .val (.int fl), .val (.int (2 : Int32)), .val (.ref (A_BASE_NTH_LEVEL Z a0)), .val (.int (1 : Int32)), .val (.int (lv &&& (2147483647 : Int32))), .val (.int qu), .val (.ref a), .val (.int (lv &&& (2147483647 : Int32))), .val (.int (0 : Int32))] d0_161 rfl ?_
        refine w.goto d0_163 d0_163t ?_
        refine w.aload d0_173 rfl rfl ?_
        refine w.callV (argsL := []) (rest := []) 0 d0_175 (tw hw 33 rfl) (tw hw 34 rfl) (tw hw 36 rfl) (tw hw 35 rfl) (tw hw 1 rfl) (tw hw 37 rfl) (by decide) ((s_BASE_NTH_LEVEL hw hn).2.2.ext w.old) (rmT l Z a0 hw (A_BASE_NTH_LEVEL Z a0) (1 : Int32) (f_BASE_NTH_LEVEL_takesLevel hw hn) h17 w.old) (lenOf pd_4 rfl) rfl rfl (Nat.le_refl _) ⟨by decide, by decide, by decide, by decide⟩ all0 ?_
        intro T h18 r w _ hQ
        obtain ⟨rfl, rfl⟩ := hQ
        show Go x _ Z _ _ _ T 178 #[.val (.int k), .val (.int lv), .val (.int qu), .val (.int fl), .val (.int (2 : Int32)), .val (.ref (A_BASE_NTH_LEVEL Z a0)), .val (.int (1 : Int32)), .val (.int (lv &&& (2147483647 : Int32))), .val (.int qu), .val (.ref a), .val (.int (lv &&& (2147483647 : Int32))), .val (.int (0 : Int32))] [(.int (1 : Int32))]
        refine w.iload d0_178 rfl ?_
        refine w.icmpNe d0_180 d0_180t (fun q => absurd rfl q) (fun _ => ?_)
        refine w.aload d0_183 rfl rfl ?_
        refine w.callV (argsL := []) (rest := []) 0 d0_185 (tw hw 39 rfl) (tw hw 40 rfl) (tw hw 42 rfl) (tw hw 41 rfl) (tw hw 5 rfl) (tw hw 43 rfl) (by decide) E9 (rmDC l Z a0 hw a (A_BASE_NTH_LEVEL Z a0) (lv &&& (2147483647 : Int32)) h17 w.old F9 L9 (s_BASE_NTH_LEVEL hw hn).2.2 (f_BASE_NTH_LEVEL_ordinal hw hn)) (lenOf pd_2 rfl) rfl rfl (Nat.le_refl _) ⟨by decide, by decide, by decide, by decide⟩ all0 ?_
        intro T h19 r w _ hQ
        obtain ⟨rfl, rfl⟩ := hQ
        show Go x _ Z _ _ _ T 188 #[.val (.int k), .val (.int lv), .val (.int qu), .val (.int fl), .val (.int (2 : Int32)), .val (.ref (A_BASE_NTH_LEVEL Z a0)), .val (.int (1 : Int32)), .val (.int (lv &&& (2147483647 : Int32))), .val (.int qu), .val (.ref a), .val (.int (lv &&& (2147483647 : Int32))), .val (.int (0 : Int32))] [(.int (lv &&& (2147483647 : Int32)))]
        refine w.iload d0_188 rfl ?_
        refine w.icmpNe d0_190 d0_190t (fun q => absurd rfl q) (fun _ => ?_)
        refine w.aload d0_193 rfl rfl ?_
        refine w.iload d0_195 rfl ?_
        refine w.callV (argsL := [(.int qu)]) (rest := []) 0 d0_197 (tw hw 53 rfl) (tw hw 54 rfl) (tw hw 56 rfl) (tw hw 55 rfl) (tw hw 5 rfl) (tw hw 57 rfl) (by decide) E9 (rmC l Z a0 hw hn a (A_BASE_NTH_LEVEL Z a0) (lv &&& (2147483647 : Int32)) qu h17 w.old F9 L9) (lenOf pd_5 rfl) rfl rfl (Nat.le_refl _) ⟨by decide, by decide, by decide, by decide⟩ all0 ?_
        intro T h20 r w _ hQ
        obtain ⟨rfl, rfl⟩ := hQ
        rw [show (if (A_BASE_NTH_LEVEL Z a0) = (A_BASE_NTH_LEVEL Z a0) then (if qu = (lv &&& (2147483647 : Int32)) then 1 else 0) else 1) = (0 : Int32) from by rw [if_pos rfl, if_neg q2]]
        show Go x _ Z _ _ _ T 200 #[.val (.int k), .val (.int lv), .val (.int qu), .val (.int fl), .val (.int (2 : Int32)), .val (.ref (A_BASE_NTH_LEVEL Z a0)), .val (.int (1 : Int32)), .val (.int (lv &&& (2147483647 : Int32))), .val (.int qu), .val (.ref a), .val (.int (lv &&& (2147483647 : Int32))), .val (.int (0 : Int32))] [(.int (0 : Int32))]
        refine w.iload d0_200 rfl ?_
        refine w.icmpNe d0_202 d0_202t (fun q => absurd rfl q) (fun _ => ?_)
        refine w.iconst (1 : Int32) d0_205 rfl ?_
        refine w.goto d0_206 d0_206t ?_
        exact w.retN d0_210 rfl (by simp) rfl
      · refine w.iconst (1 : Int32) d0_156 rfl ?_
        refine w.goto d0_157 d0_157t ?_
        refine w.istore #[.val (.int k), .val (.int lv), .val (.int qu), .val (.int fl), .val (.int (2 : Int32)), .val (.ref (A_BASE_NTH_LEVEL Z a0)), .val (.int (1 : Int32)), .val (.int (lv &&& (2147483647 : Int32))), .val (.int qu), .val (.ref a), .val (.int (lv &&& (2147483647 : Int32))), .val (.int (1 : Int32))] d0_161 rfl ?_
        refine w.goto d0_163 d0_163t ?_
        refine w.aload d0_173 rfl rfl ?_
        refine w.callV (argsL := []) (rest := []) 0 d0_175 (tw hw 33 rfl) (tw hw 34 rfl) (tw hw 36 rfl) (tw hw 35 rfl) (tw hw 1 rfl) (tw hw 37 rfl) (by decide) ((s_BASE_NTH_LEVEL hw hn).2.2.ext w.old) (rmT l Z a0 hw (A_BASE_NTH_LEVEL Z a0) (1 : Int32) (f_BASE_NTH_LEVEL_takesLevel hw hn) h17 w.old) (lenOf pd_4 rfl) rfl rfl (Nat.le_refl _) ⟨by decide, by decide, by decide, by decide⟩ all0 ?_
        intro T h21 r w _ hQ
        obtain ⟨rfl, rfl⟩ := hQ
        show Go x _ Z _ _ _ T 178 #[.val (.int k), .val (.int lv), .val (.int qu), .val (.int fl), .val (.int (2 : Int32)), .val (.ref (A_BASE_NTH_LEVEL Z a0)), .val (.int (1 : Int32)), .val (.int (lv &&& (2147483647 : Int32))), .val (.int qu), .val (.ref a), .val (.int (lv &&& (2147483647 : Int32))), .val (.int (1 : Int32))] [(.int (1 : Int32))]
        refine w.iload d0_178 rfl ?_
        refine w.icmpNe d0_180 d0_180t (fun q => absurd rfl q) (fun _ => ?_)
        refine w.aload d0_183 rfl rfl ?_
        refine w.callV (argsL := []) (rest := []) 0 d0_185 (tw hw 39 rfl) (tw hw 40 rfl) (tw hw 42 rfl) (tw hw 41 rfl) (tw hw 5 rfl) (tw hw 43 rfl) (by decide) E9 (rmDC l Z a0 hw a (A_BASE_NTH_LEVEL Z a0) (lv &&& (2147483647 : Int32)) h17 w.old F9 L9 (s_BASE_NTH_LEVEL hw hn).2.2 (f_BASE_NTH_LEVEL_ordinal hw hn)) (lenOf pd_2 rfl) rfl rfl (Nat.le_refl _) ⟨by decide, by decide, by decide, by decide⟩ all0 ?_
        intro T h22 r w _ hQ
        obtain ⟨rfl, rfl⟩ := hQ
        show Go x _ Z _ _ _ T 188 #[.val (.int k), .val (.int lv), .val (.int qu), .val (.int fl), .val (.int (2 : Int32)), .val (.ref (A_BASE_NTH_LEVEL Z a0)), .val (.int (1 : Int32)), .val (.int (lv &&& (2147483647 : Int32))), .val (.int qu), .val (.ref a), .val (.int (lv &&& (2147483647 : Int32))), .val (.int (1 : Int32))] [(.int (lv &&& (2147483647 : Int32)))]
        refine w.iload d0_188 rfl ?_
        refine w.icmpNe d0_190 d0_190t (fun q => absurd rfl q) (fun _ => ?_)
        refine w.aload d0_193 rfl rfl ?_
        refine w.iload d0_195 rfl ?_
        refine w.callV (argsL := [(.int qu)]) (rest := []) 0 d0_197 (tw hw 53 rfl) (tw hw 54 rfl) (tw hw 56 rfl) (tw hw 55 rfl) (tw hw 5 rfl) (tw hw 57 rfl) (by decide) E9 (rmC l Z a0 hw hn a (A_BASE_NTH_LEVEL Z a0) (lv &&& (2147483647 : Int32)) qu h17 w.old F9 L9) (lenOf pd_5 rfl) rfl rfl (Nat.le_refl _) ⟨by decide, by decide, by decide, by decide⟩ all0 ?_
        intro T h23 r w _ hQ
        obtain ⟨rfl, rfl⟩ := hQ
        rw [show (if (A_BASE_NTH_LEVEL Z a0) = (A_BASE_NTH_LEVEL Z a0) then (if qu = (lv &&& (2147483647 : Int32)) then 1 else 0) else 1) = (1 : Int32) from by rw [if_pos rfl, if_pos q2]]
        show Go x _ Z _ _ _ T 200 #[.val (.int k), .val (.int lv), .val (.int qu), .val (.int fl), .val (.int (2 : Int32)), .val (.ref (A_BASE_NTH_LEVEL Z a0)), .val (.int (1 : Int32)), .val (.int (lv &&& (2147483647 : Int32))), .val (.int qu), .val (.ref a), .val (.int (lv &&& (2147483647 : Int32))), .val (.int (1 : Int32))] [(.int (1 : Int32))]
        refine w.iload d0_200 rfl ?_
        refine w.icmpNe d0_202 d0_202t (fun q => absurd rfl q) (fun _ => ?_)
        refine w.iconst (1 : Int32) d0_205 rfl ?_
        refine w.goto d0_206 d0_206t ?_
        exact w.retN d0_210 rfl (by simp) rfl
    · refine w.iload d0_85 rfl ?_
      refine w.goto d0_87 d0_87t ?_
      refine w.istore #[.val (.int k), .val (.int lv), .val (.int qu), .val (.int fl), .val (.int (2 : Int32)), .val (.ref (A_BASE_NTH_LEVEL Z a0)), .val (.int (1 : Int32)), .val (.int (lv &&& (2147483647 : Int32))), .val (.int (lv &&& (2147483647 : Int32))), .unset, .unset, .unset] d0_91 rfl ?_
      refine w.aload d0_93 rfl rfl ?_
      refine w.iload d0_95 rfl ?_
      refine w.callS (argsL := [(.ref (A_BASE_NTH_LEVEL Z a0)), (.int (lv &&& (2147483647 : Int32)))]) (rest := []) 0 d0_97 (tw hw 3 rfl) (tw hw 4 rfl) (tw hw 5 rfl) (tw hw 6 rfl) (by decide) (rmO l Z a0 hw (A_BASE_NTH_LEVEL Z a0) (lv &&& (2147483647 : Int32)) (1 : Int32) (f_BASE_NTH_LEVEL_takesLevel hw hn) (Or.inr (maskNeg lv)) h0 w.old) (lenOf pd_3 rfl) rfl rfl (Nat.le_refl _) ⟨by decide, by decide, by decide, by decide⟩ all0 ?_
      intro T h24 r w _ hQ
      obtain ⟨a, rfl, E9, F9, L9⟩ := hQ
      show Go x _ Z _ _ _ T 100 #[.val (.int k), .val (.int lv), .val (.int qu), .val (.int fl), .val (.int (2 : Int32)), .val (.ref (A_BASE_NTH_LEVEL Z a0)), .val (.int (1 : Int32)), .val (.int (lv &&& (2147483647 : Int32))), .val (.int (lv &&& (2147483647 : Int32))), .unset, .unset, .unset] [(.ref a)]
      refine w.astore #[.val (.int k), .val (.int lv), .val (.int qu), .val (.int fl), .val (.int (2 : Int32)), .val (.ref (A_BASE_NTH_LEVEL Z a0)), .val (.int (1 : Int32)), .val (.int (lv &&& (2147483647 : Int32))), .val (.int (lv &&& (2147483647 : Int32))), .val (.ref a), .unset, .unset] d0_100 rfl rfl ?_
      refine w.aload d0_102 rfl rfl ?_
      refine w.nonnullT d0_104 d0_104t ?_
      refine w.iload d0_109 rfl ?_
      refine w.ifNe d0_111 d0_111t (fun _ => ?_) (fun q => absurd q (by decide))
      refine w.iload d0_123 rfl ?_
      refine w.iconst (1 : Int32) d0_125 rfl ?_
      refine w.icmpNe d0_126 d0_126t (fun _ => ?_) (fun q => absurd q (by decide))
      refine w.iload d0_139 rfl ?_
      refine w.iconst (2 : Int32) d0_141 rfl ?_
      refine w.icmpNe d0_142 d0_142t (fun q => absurd (by decide) q) (fun _ => ?_)
      refine w.iload d0_145 rfl ?_
      refine w.istore #[.val (.int k), .val (.int lv), .val (.int qu), .val (.int fl), .val (.int (2 : Int32)), .val (.ref (A_BASE_NTH_LEVEL Z a0)), .val (.int (1 : Int32)), .val (.int (lv &&& (2147483647 : Int32))), .val (.int (lv &&& (2147483647 : Int32))), .val (.ref a), .val (.int (lv &&& (2147483647 : Int32))), .unset] d0_147 rfl ?_
      refine w.iload d0_149 rfl ?_
      refine w.iload d0_151 rfl ?_
      refine w.icmpNe d0_153 d0_153t (fun q => absurd rfl q) (fun _ => ?_)
      refine w.iconst (1 : Int32) d0_156 rfl ?_
      refine w.goto d0_157 d0_157t ?_
      refine w.istore #[.val (.int k), .val (.int lv), .val (.int qu), .val (.int fl), .val (.int (2 : Int32)), .val (.ref (A_BASE_NTH_LEVEL Z a0)), .val (.int (1 : Int32)), .val (.int (lv &&& (2147483647 : Int32))), .val (.int (lv &&& (2147483647 : Int32))), .val (.ref a), .val (.int (lv &&& (2147483647 : Int32))), .val (.int (1 : Int32))] d0_161 rfl ?_
      refine w.goto d0_163 d0_163t ?_
      refine w.aload d0_173 rfl rfl ?_
      refine w.callV (argsL := []) (rest := []) 0 d0_175 (tw hw 33 rfl) (tw hw 34 rfl) (tw hw 36 rfl) (tw hw 35 rfl) (tw hw 1 rfl) (tw hw 37 rfl) (by decide) ((s_BASE_NTH_LEVEL hw hn).2.2.ext w.old) (rmT l Z a0 hw (A_BASE_NTH_LEVEL Z a0) (1 : Int32) (f_BASE_NTH_LEVEL_takesLevel hw hn) h24 w.old) (lenOf pd_4 rfl) rfl rfl (Nat.le_refl _) ⟨by decide, by decide, by decide, by decide⟩ all0 ?_
      intro T h25 r w _ hQ
      obtain ⟨rfl, rfl⟩ := hQ
      show Go x _ Z _ _ _ T 178 #[.val (.int k), .val (.int lv), .val (.int qu), .val (.int fl), .val (.int (2 : Int32)), .val (.ref (A_BASE_NTH_LEVEL Z a0)), .val (.int (1 : Int32)), .val (.int (lv &&& (2147483647 : Int32))), .val (.int (lv &&& (2147483647 : Int32))), .val (.ref a), .val (.int (lv &&& (2147483647 : Int32))), .val (.int (1 : Int32))] [(.int (1 : Int32))]
      refine w.iload d0_178 rfl ?_
      refine w.icmpNe d0_180 d0_180t (fun q => absurd rfl q) (fun _ => ?_)
      refine w.aload d0_183 rfl rfl ?_
      refine w.callV (argsL := []) (rest := []) 0 d0_185 (tw hw 39 rfl) (tw hw 40 rfl) (tw hw 42 rfl) (tw hw 41 rfl) (tw hw 5 rfl) (tw hw 43 rfl) (by decide) E9 (rmDC l Z a0 hw a (A_BASE_NTH_LEVEL Z a0) (lv &&& (2147483647 : Int32)) h24 w.old F9 L9 (s_BASE_NTH_LEVEL hw hn).2.2 (f_BASE_NTH_LEVEL_ordinal hw hn)) (lenOf pd_2 rfl) rfl rfl (Nat.le_refl _) ⟨by decide, by decide, by decide, by decide⟩ all0 ?_
      intro T h26 r w _ hQ
      obtain ⟨rfl, rfl⟩ := hQ
      show Go x _ Z _ _ _ T 188 #[.val (.int k), .val (.int lv), .val (.int qu), .val (.int fl), .val (.int (2 : Int32)), .val (.ref (A_BASE_NTH_LEVEL Z a0)), .val (.int (1 : Int32)), .val (.int (lv &&& (2147483647 : Int32))), .val (.int (lv &&& (2147483647 : Int32))), .val (.ref a), .val (.int (lv &&& (2147483647 : Int32))), .val (.int (1 : Int32))] [(.int (lv &&& (2147483647 : Int32)))]
      refine w.iload d0_188 rfl ?_
      refine w.icmpNe d0_190 d0_190t (fun q => absurd rfl q) (fun _ => ?_)
      refine w.aload d0_193 rfl rfl ?_
      refine w.iload d0_195 rfl ?_
      refine w.callV (argsL := [(.int (lv &&& (2147483647 : Int32)))]) (rest := []) 0 d0_197 (tw hw 53 rfl) (tw hw 54 rfl) (tw hw 56 rfl) (tw hw 55 rfl) (tw hw 5 rfl) (tw hw 57 rfl) (by decide) E9 (rmC l Z a0 hw hn a (A_BASE_NTH_LEVEL Z a0) (lv &&& (2147483647 : Int32)) (lv &&& (2147483647 : Int32)) h24 w.old F9 L9) (lenOf pd_5 rfl) rfl rfl (Nat.le_refl _) ⟨by decide, by decide, by decide, by decide⟩ all0 ?_
      intro T h27 r w _ hQ
      obtain ⟨rfl, rfl⟩ := hQ
      rw [show (if (A_BASE_NTH_LEVEL Z a0) = (A_BASE_NTH_LEVEL Z a0) then (if (lv &&& (2147483647 : Int32)) = (lv &&& (2147483647 : Int32)) then 1 else 0) else 1) = (1 : Int32) from by rw [if_pos rfl, if_pos rfl]]
      show Go x _ Z _ _ _ T 200 #[.val (.int k), .val (.int lv), .val (.int qu), .val (.int fl), .val (.int (2 : Int32)), .val (.ref (A_BASE_NTH_LEVEL Z a0)), .val (.int (1 : Int32)), .val (.int (lv &&& (2147483647 : Int32))), .val (.int (lv &&& (2147483647 : Int32))), .val (.ref a), .val (.int (lv &&& (2147483647 : Int32))), .val (.int (1 : Int32))] [(.int (1 : Int32))]
      refine w.iload d0_200 rfl ?_
      refine w.icmpNe d0_202 d0_202t (fun q => absurd rfl q) (fun _ => ?_)
      refine w.iconst (1 : Int32) d0_205 rfl ?_
      refine w.goto d0_206 d0_206t ?_
      exact w.retN d0_210 rfl (by simp) rfl
  · show Go x _ Z _ _ _ T 5 #[.val (.int k), .val (.int lv), .val (.int qu), .val (.int fl), .val (.int (3 : Int32)), .unset, .unset, .unset, .unset, .unset, .unset, .unset] []
    refine w.iload d0_5 rfl ?_
    refine w.ifNe d0_7 d0_7t (fun _ => ?_) (fun q => absurd q (by decide))
    refine w.iload d0_18 rfl ?_
    refine w.iconst (1 : Int32) d0_20 rfl ?_
    refine w.icmpNe d0_21 d0_21t (fun _ => ?_) (fun q => absurd q (by decide))
    refine w.iload d0_32 rfl ?_
    refine w.iconst (2 : Int32) d0_34 rfl ?_
    refine w.icmpNe d0_35 d0_35t (fun _ => ?_) (fun q => absurd q (by decide))
    refine w.getS d0_46 (tw hw 60 rfl) (s_BASE_SUBTREE hw hn).2.1 ?_
    intro T w
    refine w.astore #[.val (.int k), .val (.int lv), .val (.int qu), .val (.int fl), .val (.int (3 : Int32)), .val (.ref (A_BASE_SUBTREE Z a0)), .unset, .unset, .unset, .unset, .unset, .unset] d0_49 rfl rfl ?_
    refine w.iload d0_51 rfl ?_
    refine w.iconst (2 : Int32) d0_53 rfl ?_
    refine w.icmpLt d0_54 d0_54t (fun q => absurd q (by decide)) (fun _ => ?_)
    refine w.iconst (1 : Int32) d0_57 rfl ?_
    refine w.goto d0_58 d0_58t ?_
    refine w.istore #[.val (.int k), .val (.int lv), .val (.int qu), .val (.int fl), .val (.int (3 : Int32)), .val (.ref (A_BASE_SUBTREE Z a0)), .val (.int (1 : Int32)), .unset, .unset, .unset, .unset, .unset] d0_62 rfl ?_
    refine w.iload d0_64 rfl ?_
    refine w.ifEq d0_66 d0_66t (fun q => absurd q (by decide)) (fun _ => ?_)
    refine w.iloadN d0_69 rfl ?_
    refine w.ldcI d0_70 (tw hw 62 rfl) ?_
    refine w.iand d0_72 ?_
    refine w.goto d0_73 d0_73t ?_
    refine w.istore #[.val (.int k), .val (.int lv), .val (.int qu), .val (.int fl), .val (.int (3 : Int32)), .val (.ref (A_BASE_SUBTREE Z a0)), .val (.int (1 : Int32)), .val (.int (lv &&& (2147483647 : Int32))), .unset, .unset, .unset, .unset] d0_77 rfl ?_
    refine w.iloadN d0_79 rfl ?_
    refine w.iconst (1 : Int32) d0_80 rfl ?_
    refine w.iand d0_81 ?_
    refine w.ifEq d0_82 d0_82t (fun q1 => ?_) (fun q1 => ?_)
    · refine w.iloadN d0_90 rfl ?_
      refine w.istore #[.val (.int k), .val (.int lv), .val (.int qu), .val (.int fl), .val (.int (3 : Int32)), .val (.ref (A_BASE_SUBTREE Z a0)), .val (.int (1 : Int32)), .val (.int (lv &&& (2147483647 : Int32))), .val (.int qu), .unset, .unset, .unset] d0_91 rfl ?_
      refine w.aload d0_93 rfl rfl ?_
      refine w.iload d0_95 rfl ?_
      refine w.callS (argsL := [(.ref (A_BASE_SUBTREE Z a0)), (.int (lv &&& (2147483647 : Int32)))]) (rest := []) 0 d0_97 (tw hw 3 rfl) (tw hw 4 rfl) (tw hw 5 rfl) (tw hw 6 rfl) (by decide) (rmO l Z a0 hw (A_BASE_SUBTREE Z a0) (lv &&& (2147483647 : Int32)) (1 : Int32) (f_BASE_SUBTREE_takesLevel hw hn) (Or.inr (maskNeg lv)) h0 w.old) (lenOf pd_3 rfl) rfl rfl (Nat.le_refl _) ⟨by decide, by decide, by decide, by decide⟩ all0 ?_
      intro T h28 r w _ hQ
      obtain ⟨a, rfl, E9, F9, L9⟩ := hQ
      show Go x _ Z _ _ _ T 100 #[.val (.int k), .val (.int lv), .val (.int qu), .val (.int fl), .val (.int (3 : Int32)), .val (.ref (A_BASE_SUBTREE Z a0)), .val (.int (1 : Int32)), .val (.int (lv &&& (2147483647 : Int32))), .val (.int qu), .unset, .unset, .unset] [(.ref a)]
      refine w.astore #[.val (.int k), .val (.int lv), .val (.int qu), .val (.int fl), .val (.int (3 : Int32)), .val (.ref (A_BASE_SUBTREE Z a0)), .val (.int (1 : Int32)), .val (.int (lv &&& (2147483647 : Int32))), .val (.int qu), .val (.ref a), .unset, .unset] d0_100 rfl rfl ?_
      refine w.aload d0_102 rfl rfl ?_
      refine w.nonnullT d0_104 d0_104t ?_
      refine w.iload d0_109 rfl ?_
      refine w.ifNe d0_111 d0_111t (fun _ => ?_) (fun q => absurd q (by decide))
      refine w.iload d0_123 rfl ?_
      refine w.iconst (1 : Int32) d0_125 rfl ?_
      refine w.icmpNe d0_126 d0_126t (fun _ => ?_) (fun q => absurd q (by decide))
      refine w.iload d0_139 rfl ?_
      refine w.iconst (2 : Int32) d0_141 rfl ?_
      refine w.icmpNe d0_142 d0_142t (fun _ => ?_) (fun q => absurd q (by decide))
      refine w.iload d0_166 rfl ?_
      refine w.istore #[.val (.int k), .val (.int lv), .val (.int qu), .val (.int fl), .val (.int (3 : Int32)), .val (.ref (A_BASE_SUBTREE Z a0)), .val (.int (1 : Int32)), .val (.int (lv &&& (2147483647 : Int32))), .val (.int qu), .val (.ref a), .val (.int (lv &&& (2147483647 : Int32))), .unset] d0_168 rfl ?_
      refine w.iconst (1 : Int32) d0_170 rfl ?_
      refine w.istore #[.val (.int k), .val (.int lv), .val (.int qu), .val (.int fl), .val (.int (3 : Int32)), .val (.ref (A_BASE_SUBTREE Z a0)), .val (.int (1 : Int32)), .val (.int (lv &&& (2147483647 : Int32))), .val (.int qu), .val (.ref a), .val (.int (lv &&& (2147483647 : Int32))), .val (.int (1 : Int32))] d0_171 rfl ?_
      refine w.aload d0_173 rfl rfl ?_
      refine w.callV (argsL := []) (rest := []) 0 d0_175 (tw hw 33 rfl) (tw hw 34 rfl) (tw hw 36 rfl) (tw hw 35 rfl) (tw hw 1 rfl) (tw hw 37 rfl) (by decide) ((s_BASE_SUBTREE hw hn).2.2.ext w.old) (rmT l Z a0 hw (A_BASE_SUBTREE Z a0) (1 : Int32) (f_BASE_SUBTREE_takesLevel hw hn) h28 w.old) (lenOf pd_4 rfl) rfl rfl (Nat.le_refl _) ⟨by decide, by decide, by decide, by decide⟩ all0 ?_
      intro T h29 r w _ hQ
      obtain ⟨rfl, rfl⟩ := hQ
      show Go x _ Z _ _ _ T 178 #[.val (.int k), .val (.int lv), .val (.int qu), .val (.int fl), .val (.int (3 : Int32)), .val (.ref (A_BASE_SUBTREE Z a0)), .val (.int (1 : Int32)), .val (.int (lv &&& (2147483647 : Int32))), .val (.int qu), .val (.ref a), .val (.int (lv &&& (2147483647 : Int32))), .val (.int (1 : Int32))] [(.int (1 : Int32))]
      refine w.iload d0_178 rfl ?_
      refine w.icmpNe d0_180 d0_180t (fun q => absurd rfl q) (fun _ => ?_)
      refine w.aload d0_183 rfl rfl ?_
      refine w.callV (argsL := []) (rest := []) 0 d0_185 (tw hw 39 rfl) (tw hw 40 rfl) (tw hw 42 rfl) (tw hw 41 rfl) (tw hw 5 rfl) (tw hw 43 rfl) (by decide) E9 (rmDD l Z a0 hw a (A_BASE_SUBTREE Z a0) (lv &&& (2147483647 : Int32)) h28 w.old F9 L9 (s_BASE_SUBTREE hw hn).2.2 (f_BASE_SUBTREE_ordinal hw hn)) (lenOf pd_2 rfl) rfl rfl (Nat.le_refl _) ⟨by decide, by decide, by decide, by decide⟩ all0 ?_
      intro T h30 r w _ hQ
      obtain ⟨rfl, rfl⟩ := hQ
      show Go x _ Z _ _ _ T 188 #[.val (.int k), .val (.int lv), .val (.int qu), .val (.int fl), .val (.int (3 : Int32)), .val (.ref (A_BASE_SUBTREE Z a0)), .val (.int (1 : Int32)), .val (.int (lv &&& (2147483647 : Int32))), .val (.int qu), .val (.ref a), .val (.int (lv &&& (2147483647 : Int32))), .val (.int (1 : Int32))] [(.int (lv &&& (2147483647 : Int32)))]
      refine w.iload d0_188 rfl ?_
      refine w.icmpNe d0_190 d0_190t (fun q => absurd rfl q) (fun _ => ?_)
      refine w.aload d0_193 rfl rfl ?_
      refine w.iload d0_195 rfl ?_
      refine w.callV (argsL := [(.int qu)]) (rest := []) 0 d0_197 (tw hw 53 rfl) (tw hw 54 rfl) (tw hw 56 rfl) (tw hw 55 rfl) (tw hw 5 rfl) (tw hw 57 rfl) (by decide) E9 (rmC l Z a0 hw hn a (A_BASE_SUBTREE Z a0) (lv &&& (2147483647 : Int32)) qu h28 w.old F9 L9) (lenOf pd_5 rfl) rfl rfl (Nat.le_refl _) ⟨by decide, by decide, by decide, by decide⟩ all0 ?_
      intro T h31 r w _ hQ
      obtain ⟨rfl, rfl⟩ := hQ
      rw [show (if (A_BASE_SUBTREE Z a0) = (A_BASE_NTH_LEVEL Z a0) then (if qu = (lv &&& (2147483647 : Int32)) then 1 else 0) else 1) = (1 : Int32) from if_neg (own_ne_BASE_SUBTREE hw hn)]
      show Go x _ Z _ _ _ T 200 #[.val (.int k), .val (.int lv), .val (.int qu), .val (.int fl), .val (.int (3 : Int32)), .val (.ref (A_BASE_SUBTREE Z a0)), .val (.int (1 : Int32)), .val (.int (lv &&& (2147483647 : Int32))), .val (.int qu), .val (.ref a), .val (.int (lv &&& (2147483647 : Int32))), .val (.int (1 : Int32))] [(.int (1 : Int32))]
      refine w.iload d0_200 rfl ?_
      refine w.icmpNe d0_202 d0_202t (fun q => absurd rfl q) (fun _ => ?_)
      refine w.iconst (1 : Int32) d0_205 rfl ?_
      refine w.goto d0_206 d0_206t ?_
      exact w.retN d0_210 rfl (by simp) rfl
    · refine w.iload d0_85 rfl ?_
      refine w.goto d0_87 d0_87t ?_
      refine w.istore #[.val (.int k), .val (.int lv), .val (.int qu), .val (.int fl), .val (.int (3 : Int32)), .val (.ref (A_BASE_SUBTREE Z a0)), .val (.int (1 : Int32)), .val (.int (lv &&& (2147483647 : Int32))), .val (.int (lv &&& (2147483647 : Int32))), .unset, .unset, .unset] d0_91 rfl ?_
      refine w.aload d0_93 rfl rfl ?_
      refine w.iload d0_95 rfl ?_
      refine w.callS (argsL := [(.ref (A_BASE_SUBTREE Z a0)), (.int (lv &&& (2147483647 : Int32)))]) (rest := []) 0 d0_97 (tw hw 3 rfl) (tw hw 4 rfl) (tw hw 5 rfl) (tw hw 6 rfl) (by decide) (rmO l Z a0 hw (A_BASE_SUBTREE Z a0) (lv &&& (2147483647 : Int32)) (1 : Int32) (f_BASE_SUBTREE_takesLevel hw hn) (Or.inr (maskNeg lv)) h0 w.old) (lenOf pd_3 rfl) rfl rfl (Nat.le_refl _) ⟨by decide, by decide, by decide, by decide⟩ all0 ?_
      intro T h32 r w _ hQ
      obtain ⟨a, rfl, E9, F9, L9⟩ := hQ
      show Go x _ Z _ _ _ T 100 #[.val (.int k), .val (.int lv), .val (.int qu), .val (.int fl), .val (.int (3 : Int32)), .val (.ref (A_BASE_SUBTREE Z a0)), .val (.int (1 : Int32)), .val (.int (lv &&& (2147483647 : Int32))), .val (.int (lv &&& (2147483647 : Int32))), .unset, .unset, .unset] [(.ref a)]
      refine w.astore #[.val (.int k), .val (.int lv), .val (.int qu), .val (.int fl), .val (.int (3 : Int32)), .val (.ref (A_BASE_SUBTREE Z a0)), .val (.int (1 : Int32)), .val (.int (lv &&& (2147483647 : Int32))), .val (.int (lv &&& (2147483647 : Int32))), .val (.ref a), .unset, .unset] d0_100 rfl rfl ?_
      refine w.aload d0_102 rfl rfl ?_
      refine w.nonnullT d0_104 d0_104t ?_
      refine w.iload d0_109 rfl ?_
      refine w.ifNe d0_111 d0_111t (fun _ => ?_) (fun q => absurd q (by decide))
      refine w.iload d0_123 rfl ?_
      refine w.iconst (1 : Int32) d0_125 rfl ?_
      refine w.icmpNe d0_126 d0_126t (fun _ => ?_) (fun q => absurd q (by decide))
      refine w.iload d0_139 rfl ?_
      refine w.iconst (2 : Int32) d0_141 rfl ?_
      refine w.icmpNe d0_142 d0_142t (fun _ => ?_) (fun q => absurd q (by decide))
      refine w.iload d0_166 rfl ?_
      refine w.istore #[.val (.int k), .val (.int lv), .val (.int qu), .val (.int fl), .val (.int (3 : Int32)), .val (.ref (A_BASE_SUBTREE Z a0)), .val (.int (1 : Int32)), .val (.int (lv &&& (2147483647 : Int32))), .val (.int (lv &&& (2147483647 : Int32))), .val (.ref a), .val (.int (lv &&& (2147483647 : Int32))), .unset] d0_168 rfl ?_
      refine w.iconst (1 : Int32) d0_170 rfl ?_
      refine w.istore #[.val (.int k), .val (.int lv), .val (.int qu), .val (.int fl), .val (.int (3 : Int32)), .val (.ref (A_BASE_SUBTREE Z a0)), .val (.int (1 : Int32)), .val (.int (lv &&& (2147483647 : Int32))), .val (.int (lv &&& (2147483647 : Int32))), .val (.ref a), .val (.int (lv &&& (2147483647 : Int32))), .val (.int (1 : Int32))] d0_171 rfl ?_
      refine w.aload d0_173 rfl rfl ?_
      refine w.callV (argsL := []) (rest := []) 0 d0_175 (tw hw 33 rfl) (tw hw 34 rfl) (tw hw 36 rfl) (tw hw 35 rfl) (tw hw 1 rfl) (tw hw 37 rfl) (by decide) ((s_BASE_SUBTREE hw hn).2.2.ext w.old) (rmT l Z a0 hw (A_BASE_SUBTREE Z a0) (1 : Int32) (f_BASE_SUBTREE_takesLevel hw hn) h32 w.old) (lenOf pd_4 rfl) rfl rfl (Nat.le_refl _) ⟨by decide, by decide, by decide, by decide⟩ all0 ?_
      intro T h33 r w _ hQ
      obtain ⟨rfl, rfl⟩ := hQ
      show Go x _ Z _ _ _ T 178 #[.val (.int k), .val (.int lv), .val (.int qu), .val (.int fl), .val (.int (3 : Int32)), .val (.ref (A_BASE_SUBTREE Z a0)), .val (.int (1 : Int32)), .val (.int (lv &&& (2147483647 : Int32))), .val (.int (lv &&& (2147483647 : Int32))), .val (.ref a), .val (.int (lv &&& (2147483647 : Int32))), .val (.int (1 : Int32))] [(.int (1 : Int32))]
      refine w.iload d0_178 rfl ?_
      refine w.icmpNe d0_180 d0_180t (fun q => absurd rfl q) (fun _ => ?_)
      refine w.aload d0_183 rfl rfl ?_
      refine w.callV (argsL := []) (rest := []) 0 d0_185 (tw hw 39 rfl) (tw hw 40 rfl) (tw hw 42 rfl) (tw hw 41 rfl) (tw hw 5 rfl) (tw hw 43 rfl) (by decide) E9 (rmDD l Z a0 hw a (A_BASE_SUBTREE Z a0) (lv &&& (2147483647 : Int32)) h32 w.old F9 L9 (s_BASE_SUBTREE hw hn).2.2 (f_BASE_SUBTREE_ordinal hw hn)) (lenOf pd_2 rfl) rfl rfl (Nat.le_refl _) ⟨by decide, by decide, by decide, by decide⟩ all0 ?_
      intro T h34 r w _ hQ
      obtain ⟨rfl, rfl⟩ := hQ
      show Go x _ Z _ _ _ T 188 #[.val (.int k), .val (.int lv), .val (.int qu), .val (.int fl), .val (.int (3 : Int32)), .val (.ref (A_BASE_SUBTREE Z a0)), .val (.int (1 : Int32)), .val (.int (lv &&& (2147483647 : Int32))), .val (.int (lv &&& (2147483647 : Int32))), .val (.ref a), .val (.int (lv &&& (2147483647 : Int32))), .val (.int (1 : Int32))] [(.int (lv &&& (2147483647 : Int32)))]
      refine w.iload d0_188 rfl ?_
      refine w.icmpNe d0_190 d0_190t (fun q => absurd rfl q) (fun _ => ?_)
      refine w.aload d0_193 rfl rfl ?_
      refine w.iload d0_195 rfl ?_
      refine w.callV (argsL := [(.int (lv &&& (2147483647 : Int32)))]) (rest := []) 0 d0_197 (tw hw 53 rfl) (tw hw 54 rfl) (tw hw 56 rfl) (tw hw 55 rfl) (tw hw 5 rfl) (tw hw 57 rfl) (by decide) E9 (rmC l Z a0 hw hn a (A_BASE_SUBTREE Z a0) (lv &&& (2147483647 : Int32)) (lv &&& (2147483647 : Int32)) h32 w.old F9 L9) (lenOf pd_5 rfl) rfl rfl (Nat.le_refl _) ⟨by decide, by decide, by decide, by decide⟩ all0 ?_
      intro T h35 r w _ hQ
      obtain ⟨rfl, rfl⟩ := hQ
      rw [show (if (A_BASE_SUBTREE Z a0) = (A_BASE_NTH_LEVEL Z a0) then (if (lv &&& (2147483647 : Int32)) = (lv &&& (2147483647 : Int32)) then 1 else 0) else 1) = (1 : Int32) from if_neg (own_ne_BASE_SUBTREE hw hn)]
      show Go x _ Z _ _ _ T 200 #[.val (.int k), .val (.int lv), .val (.int qu), .val (.int fl), .val (.int (3 : Int32)), .val (.ref (A_BASE_SUBTREE Z a0)), .val (.int (1 : Int32)), .val (.int (lv &&& (2147483647 : Int32))), .val (.int (lv &&& (2147483647 : Int32))), .val (.ref a), .val (.int (lv &&& (2147483647 : Int32))), .val (.int (1 : Int32))] [(.int (1 : Int32))]
      refine w.iload d0_200 rfl ?_
      refine w.icmpNe d0_202 d0_202t (fun q => absurd rfl q) (fun _ => ?_)
      refine w.iconst (1 : Int32) d0_205 rfl ?_
      refine w.goto d0_206 d0_206t ?_
      exact w.retN d0_210 rfl (by simp) rfl

set_option maxRecDepth 65536 in
set_option maxHeartbeats 40000000 in
theorem comes_1 {Post : Tables → Env → Array Value → State → Outcome → State → Prop} (hpost : ∀ tb e args s v u, (limb_1_1.after args s (.returned v) u = true ∧ limb_1_2.after args s (.returned v) u = true) → ReturnedEndW s (.returned v) u (Jvm.fieldLocs frame_1_writes args s ++ Jvm.arrayLocs frame_1_arrays args s ++ Jvm.staticLocs frame_1_statics s) 16 1152 → Post tb e args s (.returned v) u) :
    ArmFor flags0 classFile x code maxLocals ret World_1 tables_1 room_1 Calls_1 rest_1 Pre_1 Post := by
  intro l hfl _ _ p e ha hc hk s m args below hf hA hF happ hP
  obtain ⟨hcalls, hrest, hpre⟩ := hP
  obtain ⟨-, -, -, hnamed, -, -, -, hat⟩ := (Spec.applies_iff hf).mp happ
  obtain ⟨hg, hn⟩ := and_e (Cond.before_iff.mp (show (Jvm.Cond.and given_1 narrow_1).before args s = true from hpre))
  obtain ⟨hc0, hg⟩ := and_e hg
  obtain ⟨w0, w1, w2, w3, rfl⟩ : ∃ w0 w1 w2 w3 : Value, args = #[w0, w1, w2, w3] := by
    have hs : args.size = 4 := by simpa [Cond.value] using hc0
    obtain ⟨L⟩ := args
    match L, hs with
    | [w0, w1, w2, w3], _ => exact ⟨w0, w1, w2, w3, rfl⟩
  have hw := fun d (hd : d ∈ tables_1) => atoms_spec (ws := Jvm.Cond.code x code maxLocals ret :: tables_1) hat d (List.mem_cons_of_mem _ hd)
  have hfit : Fit s := fit_of hF
  obtain ⟨hg0, hg⟩ := and_e hg
  obtain ⟨i0, e0⟩ := is_v hg0
  obtain rfl : w0 = (.int i0) := Option.some.inj e0
  obtain ⟨hg1, hg⟩ := and_e hg
  obtain ⟨i1, e1⟩ := is_v hg1
  obtain rfl : w1 = (.int i1) := Option.some.inj e1
  obtain ⟨hg2, hg⟩ := and_e hg
  obtain ⟨i2, e2⟩ := is_v hg2
  obtain rfl : w2 = (.int i2) := Option.some.inj e2
  obtain ⟨i3, e3⟩ := is_v hg
  obtain rfl : w3 = (.int i3) := Option.some.inj e3
  obtain ⟨n, o, h1, h2, h3, _, L, rfl, ⟨rfl, N, -, -⟩, hq⟩ := rm0 l s _ hw hn i0 i1 i2 i3 s.heap (ext_refl _) p e ha hc hk s m _ below hf ((Spec.applies_iff_loose hf).mp happ).1 ⟨rfl, State.Warmed39.refl s, rfl, fun _ => ⟨(fun p hp => nomatch hp), (fun _ q => nomatch q)⟩⟩ trivial
  refine ⟨n, _, h1, h2, h3, hpost _ _ _ _ _ _ ⟨Cond.after_iff.mpr rfl, Cond.after_iff.mpr (eq_i res_at (Term.int_eval (1)) rfl)⟩ ⟨hq.2.1, hq.2.2.1, hq.2.2.2.1, (hq.2.2.2.2.sift fun y hy => Or.inr (N y hy)).mono (by decide) (by decide)⟩⟩
theorem main_1_1 : Claimed_1_1 := comes_1 fun _ _ _ _ _ _ h hF => ⟨h.1, hF⟩
theorem main_1_2 : Claimed_1_2 := comes_1 fun _ _ _ _ _ _ h hF => ⟨h.2, hF⟩
end Jvm.Pilot.@@N@@
namespace Jvm.Pilot.@@N@@
open Jvm Jvm.ClassFile Sem Op Lib Jvm.Free Jvm.Stand Jvm.Pilot.@@N@@.Jvm.D
/-! MADE BY PROGRAM (witnessworld.py) out of the Statement's table words and the real class files: 17 classes; the members and pool entries that the words name. The judged class is class 1, her method 1. -/
namespace start1
open Jvm.ClassFile
def u (s : String) : CpInfo := .utf8 (stringToUtf16 s)
/-- a pool by its gaps: so many unusable entries, then the entry; so many at the end -/
def gap : Nat → List CpInfo → List CpInfo
  | 0, r => r
  | n + 1, r => .unusable :: gap n r
def poolList (es : List (Nat × CpInfo)) (last : Nat) : List CpInfo := es.foldr (fun e r => gap e.1 (e.2 :: r)) (gap last [])
def pool (es : List (Nat × CpInfo)) (last : Nat) : Array CpInfo := ⟨poolList es last⟩
def fileOf (pool : Array CpInfo) (this : Nat) (attrs : Array Attribute := #[]) (ms : Array MethodInfo := #[]) (fl : Nat := 33) (sup : Nat := 0) (ifs : Array Nat := #[]) (fds : Array FieldInfo := #[]) : ClassFile where
  minorVersion := 0
  majorVersion := 65
  constantPool := pool
  accessFlags := fl
  thisClass := this
  superClass := sup
  interfaces := ifs
  fields := fds
  methods := ms
  attributes := attrs
def plain (name : String) (sup : Option ClassId) : Class where
  name := name
  kind := .ordinary
  loader := none
  accessFlags := 33
  super := sup
  interfaces := #[]
  cf := none
  fields := #[]
  methods := #[]
  instanceTypes := #[]
  staticTypes := #[]
  resolved := #[]
  callSites := []
  init := .initialized
  statics := none
  mirror := none

def pool0 : Array CpInfo := pool [(5, u "<init>"), (0, u "()V"), (1, .class_ 10), (1, u "java/lang/Object")] 113

def k0c0 : Code := { maxStack := 0, maxLocals := 1, code := object_method_1_code, exceptionTable := #[], attributes := #[] }
def k0m0 : Method := { name := "<init>", desc := "()V", sig := { parameters := [], returnType := none }, accessFlags := 1, code := some k0c0 }
/-- java/lang/Object -/
def k0 : Class := { plain "java/lang/Object" none with
  accessFlags := 33
  interfaces := #[]
  cf := some (fileOf pool0 8 #[] #[{ accessFlags := 1, nameIndex := 5, descriptorIndex := 6, attributes := #[] }] 33 0 #[] #[])
  fields := #[]
  methods := #[k0m0]
  instanceTypes := #[]
  staticTypes := #[]
  resolved := Array.replicate 124 none
  statics := none }

def pool1 : Array CpInfo := pool [(2, .class_ 4), (1, u "java/lang/Object"), (0, u "<init>"), (0, u "()V"), (0, .fieldref 8 9), (0, .class_ 10), (0, .nameAndType 11 12), (0, u "com/example/lucioles/lucioles/service/Scope$Type"), (0, u "BASE_ONLY"), (0, u "Lcom/example/lucioles/lucioles/service/Scope$Type;"), (0, .fieldref 8 14), (0, .nameAndType 15 12), (0, u "BASE_ALL"), (0, .fieldref 8 17), (0, .nameAndType 18 12), (0, u "BASE_NTH_LEVEL"), (0, .fieldref 8 20), (0, .nameAndType 21 12), (0, u "BASE_SUBTREE"), (0, .integer 2147483647), (0, .methodref 24 25), (0, .class_ 26), (0, .nameAndType 27 28), (0, u "com/example/lucioles/lucioles/service/Scope"), (0, u "of"), (0, u "(Lcom/example/lucioles/lucioles/service/Scope$Type;I)Lcom/example/lucioles/lucioles/service/Scope;"), (2, .methodref 8 32), (0, .nameAndType 33 34), (0, u "takesLevel"), (0, u "()Z"), (0, .methodref 24 36), (0, .nameAndType 37 38), (0, u "deepest"), (0, u "()I"), (0, .methodref 24 40), (0, .nameAndType 41 42), (0, u "includes"), (0, u "(I)Z"), (0, .class_ 44), (0, u "com/example/lucioles/lucioles/service/ScopeOfPinLaw"), (2, u "law"), (0, u "(IIII)Z")] 5

def k1m0 : Method := { name := "<init>", desc := "()V", sig := { parameters := [], returnType := none }, accessFlags := 1, code := none }
def k1c1 : Code := { maxStack := 2, maxLocals := 12, code := code, exceptionTable := #[], attributes := #[] }
def k1m1 : Method := { name := "law", desc := "(IIII)Z", sig := { parameters := [.int, .int, .int, .int], returnType := some .boolean }, accessFlags := 9, code := some k1c1 }
/-- com/example/lucioles/lucioles/service/ScopeOfPinLaw -/
def k1 : Class := { plain "com/example/lucioles/lucioles/service/ScopeOfPinLaw" (some 0) with
  accessFlags := 49
  interfaces := #[]
  cf := some (fileOf pool1 43 #[] #[{ accessFlags := 1, nameIndex := 5, descriptorIndex := 6, attributes := #[] }, { accessFlags := 9, nameIndex := 47, descriptorIndex := 48, attributes := #[] }] 49 2 #[] #[])
  fields := #[]
  methods := #[k1m0, k1m1]
  instanceTypes := #[]
  staticTypes := #[]
  resolved := Array.replicate 54 none
  statics := none }

def pool2 : Array CpInfo := pool [(1, .class_ 2), (0, u "java/lang/constant/Constable"), (0, .class_ 4), (0, u "java/lang/Object")] 6

/-- java/lang/constant/Constable -/
def k2 : Class := { plain "java/lang/constant/Constable" (some 0) with
  accessFlags := 1537
  interfaces := #[]
  cf := some (fileOf pool2 1 #[] #[] 1537 3 #[] #[])
  fields := #[]
  methods := #[]
  instanceTypes := #[]
  staticTypes := #[]
  resolved := Array.replicate 11 none
  statics := none }

def pool3 : Array CpInfo := pool [(1, .class_ 2), (0, u "java/lang/Comparable"), (0, .class_ 4), (0, u "java/lang/Object")] 7

/-- java/lang/Comparable -/
def k3 : Class := { plain "java/lang/Comparable" (some 0) with
  accessFlags := 1537
  interfaces := #[]
  cf := some (fileOf pool3 1 #[] #[] 1537 3 #[] #[])
  fields := #[]
  methods := #[]
  instanceTypes := #[]
  staticTypes := #[]
  resolved := Array.replicate 12 none
  statics := none }

def pool4 : Array CpInfo := pool [(1, .class_ 2), (0, u "java/io/Serializable"), (0, .class_ 4), (0, u "java/lang/Object")] 2

/-- java/io/Serializable -/
def k4 : Class := { plain "java/io/Serializable" (some 0) with
  accessFlags := 1537
  interfaces := #[]
  cf := some (fileOf pool4 1 #[] #[] 1537 3 #[] #[])
  fields := #[]
  methods := #[]
  instanceTypes := #[]
  staticTypes := #[]
  resolved := Array.replicate 7 none
  statics := none }

def pool5 : Array CpInfo := pool [(2, .class_ 4), (1, u "java/lang/Enum"), (0, u "name"), (0, u "Ljava/lang/String;"), (0, .fieldref 2 8), (0, .nameAndType 9 10), (0, u "ordinal"), (0, u "I"), (1, .class_ 14), (1, u "java/lang/Object"), (4, u "hash"), (86, .class_ 108), (1, u "java/lang/Enum$EnumDesc"), (2, .class_ 112), (0, u "java/lang/constant/Constable"), (0, .class_ 114), (0, u "java/lang/Comparable"), (0, .class_ 116), (0, u "java/io/Serializable"), (9, u "()I")] 77

def k5c0 : Code := { maxStack := 1, maxLocals := 1, code := jdk_37_method_2_code, exceptionTable := #[], attributes := #[] }
def k5m0 : Method := { name := "ordinal", desc := "()I", sig := { parameters := [], returnType := some .int }, accessFlags := 17, code := some k5c0 }
/-- java/lang/Enum -/
def k5 : Class := { plain "java/lang/Enum" (some 0) with
  accessFlags := 1057
  interfaces := #[2, 3, 4]
  cf := some (fileOf pool5 2 #[.nestMembers #[106]] #[{ accessFlags := 17, nameIndex := 9, descriptorIndex := 126, attributes := #[] }] 1057 12 #[111, 113, 115] #[{ accessFlags := 18, nameIndex := 5, descriptorIndex := 6, attributes := #[] }, { accessFlags := 18, nameIndex := 9, descriptorIndex := 10, attributes := #[] }, { accessFlags := 2, nameIndex := 19, descriptorIndex := 10, attributes := #[] }])
  fields := #[{ name := "name", type := (.object "java/lang/String"), accessFlags := 18, slot := 0, constantValue := 0 }, { name := "ordinal", type := .int, accessFlags := 18, slot := 1, constantValue := 0 }, { name := "hash", type := .int, accessFlags := 2, slot := 2, constantValue := 0 }]
  methods := #[k5m0]
  instanceTypes := #[(.object "java/lang/String"), .int, .int]
  staticTypes := #[]
  resolved := Array.replicate 204 none
  statics := none }

def pool6 : Array CpInfo := pool [(1, .class_ 2), (0, u "com/example/lucioles/lucioles/service/Scope$Type"), (2, u "BASE_ONLY"), (0, u "Lcom/example/lucioles/lucioles/service/Scope$Type;"), (2, u "BASE_ALL"), (2, u "BASE_NTH_LEVEL"), (2, u "BASE_SUBTREE"), (2, u "$VALUES"), (0, u "[Lcom/example/lucioles/lucioles/service/Scope$Type;"), (6, .class_ 28), (1, u "java/lang/Enum"), (6, .fieldref 1 36), (0, .nameAndType 37 38), (0, u "takesLevel"), (0, u "Z"), (30, u "()Z"), (8, .class_ 79), (0, u "com/example/lucioles/lucioles/service/Scope")] 2

def k6c0 : Code := { maxStack := 1, maxLocals := 1, code := prog_15_method_4_code, exceptionTable := #[], attributes := #[] }
def k6m0 : Method := { name := "takesLevel", desc := "()Z", sig := { parameters := [], returnType := some .boolean }, accessFlags := 1, code := some k6c0 }
/-- com/example/lucioles/lucioles/service/Scope$Type -/
def k6 : Class := { plain "com/example/lucioles/lucioles/service/Scope$Type" (some 5) with
  accessFlags := 16433
  interfaces := #[]
  cf := some (fileOf pool6 1 #[.nestHost 78] #[{ accessFlags := 1, nameIndex := 37, descriptorIndex := 69, attributes := #[] }] 16433 26 #[] #[{ accessFlags := 16409, nameIndex := 5, descriptorIndex := 6, attributes := #[] }, { accessFlags := 16409, nameIndex := 9, descriptorIndex := 6, attributes := #[] }, { accessFlags := 16409, nameIndex := 12, descriptorIndex := 6, attributes := #[] }, { accessFlags := 16409, nameIndex := 15, descriptorIndex := 6, attributes := #[] }, { accessFlags := 18, nameIndex := 37, descriptorIndex := 38, attributes := #[] }, { accessFlags := 4122, nameIndex := 18, descriptorIndex := 19, attributes := #[] }])
  fields := #[{ name := "BASE_ONLY", type := (.object "com/example/lucioles/lucioles/service/Scope$Type"), accessFlags := 16409, slot := 0, constantValue := 0 }, { name := "BASE_ALL", type := (.object "com/example/lucioles/lucioles/service/Scope$Type"), accessFlags := 16409, slot := 1, constantValue := 0 }, { name := "BASE_NTH_LEVEL", type := (.object "com/example/lucioles/lucioles/service/Scope$Type"), accessFlags := 16409, slot := 2, constantValue := 0 }, { name := "BASE_SUBTREE", type := (.object "com/example/lucioles/lucioles/service/Scope$Type"), accessFlags := 16409, slot := 3, constantValue := 0 }, { name := "takesLevel", type := .boolean, accessFlags := 18, slot := 3, constantValue := 0 }, { name := "$VALUES", type := (.array (.object "com/example/lucioles/lucioles/service/Scope$Type")), accessFlags := 4122, slot := 4, constantValue := 0 }]
  methods := #[k6m0]
  instanceTypes := #[(.object "java/lang/String"), .int, .int, .boolean]
  staticTypes := #[(.object "com/example/lucioles/lucioles/service/Scope$Type"), (.object "com/example/lucioles/lucioles/service/Scope$Type"), (.object "com/example/lucioles/lucioles/service/Scope$Type"), (.object "com/example/lucioles/lucioles/service/Scope$Type"), (.array (.object "com/example/lucioles/lucioles/service/Scope$Type"))]
  resolved := Array.replicate 82 none
  statics := some 0 }

def pool7 : Array CpInfo := pool [(1, .methodref 2 3), (0, .class_ 4), (0, .nameAndType 5 6), (0, u "java/lang/Object"), (0, u "<init>"), (0, u "()V"), (0, .fieldref 8 9), (0, .class_ 10), (0, .nameAndType 11 12), (0, u "com/example/lucioles/lucioles/service/Scope"), (0, u "type"), (0, u "Lcom/example/lucioles/lucioles/service/Scope$Type;"), (0, .fieldref 8 14), (0, .nameAndType 15 16), (0, u "level"), (0, u "I"), (0, .string 11), (0, .methodref 19 20), (0, .class_ 21), (0, .nameAndType 22 23), (0, u "java/util/Objects"), (0, u "requireNonNull"), (0, u "(Ljava/lang/Object;Ljava/lang/String;)Ljava/lang/Object;"), (0, .fieldref 25 26), (0, .class_ 27), (0, .nameAndType 28 29), (0, u "com/example/lucioles/lucioles/service/Scope$Type"), (0, u "takesLevel"), (0, u "Z"), (9, .methodref 8 40), (0, .nameAndType 5 41), (0, u "(Lcom/example/lucioles/lucioles/service/Scope$Type;I)V"), (9, u "()I"), (18, .fieldref 25 71), (0, .nameAndType 72 12), (0, u "BASE_NTH_LEVEL"), (0, .methodref 25 74), (0, .nameAndType 75 51), (0, u "ordinal"), (0, .integer 2147483647), (2, u "BASE_ONLY"), (2, u "Lcom/example/lucioles/lucioles/service/Scope;"), (2, u "of"), (0, u "(Lcom/example/lucioles/lucioles/service/Scope$Type;I)Lcom/example/lucioles/lucioles/service/Scope;"), (2, u "includes"), (0, u "(I)Z"), (0, u "deepest")] 20

def k7c0 : Code := { maxStack := 2, maxLocals := 3, code := prog_14_method_1_code, exceptionTable := #[], attributes := #[] }
def k7m0 : Method := { name := "<init>", desc := "(Lcom/example/lucioles/lucioles/service/Scope$Type;I)V", sig := { parameters := [(.object "com/example/lucioles/lucioles/service/Scope$Type"), .int], returnType := none }, accessFlags := 2, code := some k7c0 }
def k7c1 : Code := { maxStack := 4, maxLocals := 2, code := prog_14_method_2_code, exceptionTable := #[], attributes := #[] }
def k7m1 : Method := { name := "of", desc := "(Lcom/example/lucioles/lucioles/service/Scope$Type;I)Lcom/example/lucioles/lucioles/service/Scope;", sig := { parameters := [(.object "com/example/lucioles/lucioles/service/Scope$Type"), .int], returnType := some (.object "com/example/lucioles/lucioles/service/Scope") }, accessFlags := 9, code := some k7c1 }
def k7c2 : Code := { maxStack := 2, maxLocals := 2, code := prog_14_method_4_code, exceptionTable := #[], attributes := #[] }
def k7m2 : Method := { name := "includes", desc := "(I)Z", sig := { parameters := [.int], returnType := some .boolean }, accessFlags := 1, code := some k7c2 }
def k7c3 : Code := { maxStack := 1, maxLocals := 1, code := prog_14_method_5_code, exceptionTable := #[], attributes := #[] }
def k7m3 : Method := { name := "deepest", desc := "()I", sig := { parameters := [], returnType := some .int }, accessFlags := 1, code := some k7c3 }
/-- com/example/lucioles/lucioles/service/Scope -/
def k7 : Class := { plain "com/example/lucioles/lucioles/service/Scope" (some 0) with
  accessFlags := 33
  interfaces := #[]
  cf := some (fileOf pool7 8 #[.nestMembers #[25]] #[{ accessFlags := 2, nameIndex := 5, descriptorIndex := 41, attributes := #[] }, { accessFlags := 9, nameIndex := 85, descriptorIndex := 86, attributes := #[] }, { accessFlags := 1, nameIndex := 89, descriptorIndex := 90, attributes := #[] }, { accessFlags := 1, nameIndex := 91, descriptorIndex := 51, attributes := #[] }] 33 2 #[] #[{ accessFlags := 25, nameIndex := 79, descriptorIndex := 82, attributes := #[] }, { accessFlags := 18, nameIndex := 11, descriptorIndex := 12, attributes := #[] }, { accessFlags := 18, nameIndex := 15, descriptorIndex := 16, attributes := #[] }])
  fields := #[{ name := "BASE_ONLY", type := (.object "com/example/lucioles/lucioles/service/Scope"), accessFlags := 25, slot := 0, constantValue := 0 }, { name := "type", type := (.object "com/example/lucioles/lucioles/service/Scope$Type"), accessFlags := 18, slot := 0, constantValue := 0 }, { name := "level", type := .int, accessFlags := 18, slot := 1, constantValue := 0 }]
  methods := #[k7m0, k7m1, k7m2, k7m3]
  instanceTypes := #[(.object "com/example/lucioles/lucioles/service/Scope$Type"), .int]
  staticTypes := #[(.object "com/example/lucioles/lucioles/service/Scope")]
  resolved := (Array.replicate 112 none).setIfInBounds 24 (some (.field 6 4))
  statics := none }

def pool8 : Array CpInfo := pool [(2, .class_ 4), (1, u "java/lang/CharSequence"), (42, .class_ 48), (0, u "java/lang/CharSequence$1CodePointIterator"), (10, .class_ 60), (0, u "java/lang/CharSequence$1CharIterator"), (5, .class_ 67), (0, u "java/lang/Object")] 63

/-- java/lang/CharSequence -/
def k8 : Class := { plain "java/lang/CharSequence" (some 0) with
  accessFlags := 1537
  interfaces := #[]
  cf := some (fileOf pool8 2 #[.nestMembers #[47, 59]] #[] 1537 66 #[] #[])
  fields := #[]
  methods := #[]
  instanceTypes := #[]
  staticTypes := #[]
  resolved := Array.replicate 131 none
  statics := none }

def pool9 : Array CpInfo := pool [(1, .class_ 2), (0, u "java/lang/constant/ConstantDesc"), (0, .class_ 4), (0, u "java/lang/Object")] 32

/-- java/lang/constant/ConstantDesc -/
def k9 : Class := { plain "java/lang/constant/ConstantDesc" (some 0) with
  accessFlags := 1537
  interfaces := #[]
  cf := some (fileOf pool9 1 #[] #[] 1537 3 #[] #[])
  fields := #[]
  methods := #[]
  instanceTypes := #[]
  staticTypes := #[]
  resolved := Array.replicate 37 none
  statics := none }

def pool10 : Array CpInfo := pool [(2, .class_ 4), (1, u "java/lang/Object"), (0, u "<init>"), (0, u "()V"), (3, .class_ 12), (1, u "java/lang/String"), (0, u "value"), (0, u "[B"), (2, u "coder"), (0, u "B"), (2, u "hash"), (0, u "I"), (2, u "hashIsZero"), (0, u "Z"), (13, u "COMPACT_STRINGS"), (534, .class_ 576), (0, u "java/lang/CharSequence"), (22, u "CASE_INSENSITIVE_ORDER"), (0, u "Ljava/util/Comparator;"), (500, u "serialPersistentFields"), (0, u "[Ljava/io/ObjectStreamField;"), (0, .class_ 1104), (0, u "java/lang/String$CaseInsensitiveComparator"), (1, .class_ 1107), (0, u "java/io/Serializable"), (0, .class_ 1109), (0, u "java/lang/Comparable"), (0, .class_ 1111), (0, u "java/lang/constant/Constable"), (0, .class_ 1113), (0, u "java/lang/constant/ConstantDesc"), (2, u "serialVersionUID"), (0, u "J"), (3, u "REPL"), (0, u "C"), (2, u "LATIN1"), (1, u "UTF16")] 323

def k10m0 : Method := { name := "<init>", desc := "()V", sig := { parameters := [], returnType := none }, accessFlags := 1, code := none }
/-- java/lang/String -/
def k10 : Class := { plain "java/lang/String" (some 0) with
  accessFlags := 49
  interfaces := #[4, 3, 8, 2, 9]
  cf := some (fileOf pool10 10 #[.nestMembers #[1103]] #[{ accessFlags := 1, nameIndex := 5, descriptorIndex := 6, attributes := #[] }] 49 2 #[1106, 1108, 575, 1110, 1112] #[{ accessFlags := 18, nameIndex := 13, descriptorIndex := 14, attributes := #[] }, { accessFlags := 18, nameIndex := 17, descriptorIndex := 18, attributes := #[] }, { accessFlags := 2, nameIndex := 21, descriptorIndex := 22, attributes := #[] }, { accessFlags := 2, nameIndex := 25, descriptorIndex := 26, attributes := #[] }, { accessFlags := 26, nameIndex := 1116, descriptorIndex := 1117, attributes := #[] }, { accessFlags := 24, nameIndex := 40, descriptorIndex := 26, attributes := #[] }, { accessFlags := 26, nameIndex := 1101, descriptorIndex := 1102, attributes := #[] }, { accessFlags := 26, nameIndex := 1121, descriptorIndex := 1122, attributes := #[] }, { accessFlags := 25, nameIndex := 599, descriptorIndex := 600, attributes := #[] }, { accessFlags := 24, nameIndex := 1125, descriptorIndex := 18, attributes := #[] }, { accessFlags := 24, nameIndex := 1127, descriptorIndex := 18, attributes := #[] }])
  fields := #[{ name := "value", type := (.array .byte), accessFlags := 18, slot := 0, constantValue := 0 }, { name := "coder", type := .byte, accessFlags := 18, slot := 1, constantValue := 0 }, { name := "hash", type := .int, accessFlags := 2, slot := 2, constantValue := 0 }, { name := "hashIsZero", type := .boolean, accessFlags := 2, slot := 3, constantValue := 0 }, { name := "serialVersionUID", type := .long, accessFlags := 26, slot := 0, constantValue := 0 }, { name := "COMPACT_STRINGS", type := .boolean, accessFlags := 24, slot := 1, constantValue := 0 }, { name := "serialPersistentFields", type := (.array (.object "java/io/ObjectStreamField")), accessFlags := 26, slot := 2, constantValue := 0 }, { name := "REPL", type := .char, accessFlags := 26, slot := 3, constantValue := 0 }, { name := "CASE_INSENSITIVE_ORDER", type := (.object "java/util/Comparator"), accessFlags := 25, slot := 4, constantValue := 0 }, { name := "LATIN1", type := .byte, accessFlags := 24, slot := 5, constantValue := 0 }, { name := "UTF16", type := .byte, accessFlags := 24, slot := 6, constantValue := 0 }]
  methods := #[k10m0]
  instanceTypes := #[(.array .byte), .byte, .int, .boolean]
  staticTypes := #[.long, .boolean, (.array (.object "java/io/ObjectStreamField")), .char, (.object "java/util/Comparator"), .byte, .byte]
  resolved := Array.replicate 1451 none
  statics := none }

def pool11 : Array CpInfo := pool [(2, .class_ 4), (1, u "java/lang/Object"), (0, u "<init>"), (0, u "()V"), (35, .class_ 44), (1, u "java/util/Objects"), (0, u "requireNonNull"), (48, u "(Ljava/lang/Object;Ljava/lang/String;)Ljava/lang/Object;")] 89

def k11m0 : Method := { name := "<init>", desc := "()V", sig := { parameters := [], returnType := none }, accessFlags := 2, code := none }
def k11c1 : Code := { maxStack := 3, maxLocals := 2, code := jdk_31_method_11_code, exceptionTable := #[], attributes := #[] }
def k11m1 : Method := { name := "requireNonNull", desc := "(Ljava/lang/Object;Ljava/lang/String;)Ljava/lang/Object;", sig := { parameters := [(.object "java/lang/Object"), (.object "java/lang/String")], returnType := some (.object "java/lang/Object") }, accessFlags := 9, code := some k11c1 }
/-- java/util/Objects -/
def k11 : Class := { plain "java/util/Objects" (some 0) with
  accessFlags := 49
  interfaces := #[]
  cf := some (fileOf pool11 42 #[] #[{ accessFlags := 2, nameIndex := 5, descriptorIndex := 6, attributes := #[] }, { accessFlags := 9, nameIndex := 45, descriptorIndex := 94, attributes := #[] }] 49 2 #[] #[])
  fields := #[]
  methods := #[k11m0, k11m1]
  instanceTypes := #[]
  staticTypes := #[]
  resolved := Array.replicate 184 none
  statics := none }

def pool12 : Array CpInfo := pool [(1, u "java/lang/Cloneable"), (0, .class_ 1), (0, u "java/lang/Object"), (0, .class_ 3)] 3

/-- java/lang/Cloneable -/
def k12 : Class := { plain "java/lang/Cloneable" (some 0) with
  accessFlags := 1537
  interfaces := #[]
  cf := some (fileOf pool12 2 #[] #[] 1537 4 #[] #[])
  fields := #[]
  methods := #[]
  instanceTypes := #[]
  staticTypes := #[]
  resolved := Array.replicate 8 none
  statics := none }

/-- the primitive byte -/
def k13 : Class := { plain "byte" none with kind := .primitive 'B', accessFlags := 0x411 }
/-- [B -/
def k14 : Class := { plain "[B" (some 0) with kind := .array 13 .byte, interfaces := #[12, 4], accessFlags := 1041 }

/-- the primitive int -/
def k15 : Class := { plain "int" none with kind := .primitive 'I', accessFlags := 0x411 }
/-- [I -/
def k16 : Class := { plain "[I" (some 0) with kind := .array 15 .int, interfaces := #[12, 4], accessFlags := 1041 }

def heap : Heap := #[{ cls := 6, slots := #[.ref 1, .ref 4, .ref 2, .ref 3, .null], vm := .statics 6 },
  { cls := 6, slots := #[.null, .int 0, .int 0, .int 0], vm := .none },
  { cls := 6, slots := #[.null, .int 2, .int 0, .int 1], vm := .none },
  { cls := 6, slots := #[.null, .int 3, .int 0, .int 1], vm := .none },
  { cls := 6, slots := #[.null, .int 1, .int 0, .int 0], vm := .none }]
def classes : Array Class := #[k0, k1, k2, k3, k4, k5, k6, k7, k8, k9, k10, k11, k12, k13, k14, k15, k16]
def interned : List (Array UInt16 × Addr) := []
def slotsUsed : Nat := 21
def theMethod : MethodId := ⟨1, 1⟩
def args0 : Array Value := #[.int 2, .int 5, .int 5, .int 0]
def aboutOver (below : List Frame) : State where
  vm := { classes := classes, interned := interned.toArray }
  heap := heap
  slotsUsed := slotsUsed
  threads := #[{ frames := .invoking theMethod args0 :: below }]
def below0 : List Frame := [.native { method := ⟨0, 0⟩, args := #[] }]
def about1 : State := aboutOver below0
def p0 : Program := .bare "" "" ""
def e0 : Env := launch0.env 0 0 0
theorem w_frames : about1.frames = Frame.invoking theMethod args0 :: below0 := rfl
set_option maxRecDepth 65536 in
theorem w_args : argsFit about1.vm theMethod args0 = true := by decide +kernel
set_option maxRecDepth 65536 in
theorem w_heap : heapFits about1 = true := by decide +kernel
set_option maxRecDepth 65536 in
theorem w_runnable : about1.curStatus? = some .runnable := by decide +kernel
set_option maxRecDepth 65536 in
theorem w_alone : about1.alone = true := by decide +kernel
set_option maxRecDepth 65536 in
theorem w_named : about1.methodNamed? x = some theMethod := by decide +kernel
set_option maxRecDepth 65536 in
theorem w_hears : about1.hears theMethod below0 = true := by decide +kernel
set_option maxRecDepth 65536 in
theorem w_ripe : about1.ripe theMethod args0 below0 = true := by decide +kernel
theorem w_running : about1.status = .running := rfl
set_option maxRecDepth 65536 in
theorem w_room : about1.hasRoom e0.platform room_1 = true :=
  launch0.hasRoom_least _ room_1 (by decide +kernel) (by decide +kernel) (by decide +kernel) (by decide +kernel) (by decide +kernel) (by decide +kernel)
theorem allAtoms_all (ts : List Jvm.Cond) (a : Array Jvm.Value) (st : Jvm.State) : (allAtoms ts).before a st = ts.all (fun c => c.before a st) := by
  induction ts with
  | nil => rfl
  | cons c t ih =>
    show (Jvm.Cond.and c (allAtoms t)).before a st = _
    rw [Jvm.Cond.before_and, ih, List.all_cons]
def words1 : List Jvm.Cond := Jvm.Cond.code x code maxLocals ret :: tables_1
/-- a 'code' word, met by the world's own term for the bytes: nothing is compared byte by byte -/
theorem code_word {y : MethodName} {bytes : ByteArray} {mx : Nat} {rt : Option FieldType} {a : Array Value} {s : State} {m : MethodId} {meth : Method} {c : Code} (h1 : s.methodNamed? y = some m) (h2 : s.vm.method? m = some meth) (h3 : meth.code = some c) (h4 : c.code = bytes)
    (h5 : (c.maxLocals == mx && c.exceptionTable.isEmpty && decide (c.maxStack ≤ mostOperands) && decide (meth.sig.returnType = rt) && !meth.locks && decide (parseMethodDescriptor y.desc = some meth.sig)) = true) : (Jvm.Cond.code y bytes mx rt).before a s = true := by
  simp only [Bool.and_eq_true, beq_iff_eq, Bool.not_eq_true', decide_eq_true_eq] at h5
  obtain ⟨⟨⟨⟨⟨g1, g2⟩, g3⟩, g4⟩, g5⟩, g6⟩ := h5
  simp [Cond.before, Cond.holds, Cond.value, h1, h2, h3, h4, g1, g2, g3, g4, g5, g6]
def isCode : Jvm.Cond → Bool
  | .code _ _ _ _ => true
  | _ => false
theorem all_split {L : List Jvm.Cond} {P : Jvm.Cond → Bool} (h1 : L.all (fun c => isCode c || P c) = true) (h2 : ∀ c ∈ L.filter isCode, P c = true) : L.all P = true := by
  refine List.all_eq_true.mpr fun c hc => ?_
  have h := List.all_eq_true.mp h1 c hc
  rcases Bool.eq_false_or_eq_true (isCode c) with hi | hi
  · exact h2 c (List.mem_filter.mpr ⟨hc, hi⟩)
  · simpa [hi] using h
set_option maxRecDepth 65536 in
theorem w_c0 : (Jvm.Cond.code x code maxLocals ret).before args0 about1 = true := code_word (m := ⟨1, 1⟩) (meth := k1m1) (c := k1c1) (by decide +kernel) rfl rfl rfl (by decide +kernel)
set_option maxRecDepth 65536 in
theorem w_c1 : (Jvm.Cond.code ({ cls := "com/example/lucioles/lucioles/service/Scope", name := "of", desc := "(Lcom/example/lucioles/lucioles/service/Scope$Type;I)Lcom/example/lucioles/lucioles/service/Scope;" } : Jvm.MethodName) prog_14_method_2_code (2 : Nat) (Option.some (Jvm.ClassFile.FieldType.object "com/example/lucioles/lucioles/service/Scope"))).before args0 about1 = true := code_word (m := ⟨7, 1⟩) (meth := k7m1) (c := k7c1) (by decide +kernel) rfl rfl rfl (by decide +kernel)
set_option maxRecDepth 65536 in
theorem w_c2 : (Jvm.Cond.code ({ cls := "java/util/Objects", name := "requireNonNull", desc := "(Ljava/lang/Object;Ljava/lang/String;)Ljava/lang/Object;" } : Jvm.MethodName) jdk_31_method_11_code (2 : Nat) (Option.some (Jvm.ClassFile.FieldType.object "java/lang/Object"))).before args0 about1 = true := code_word (m := ⟨11, 1⟩) (meth := k11m1) (c := k11c1) (by decide +kernel) rfl rfl rfl (by decide +kernel)
set_option maxRecDepth 65536 in
theorem w_c3 : (Jvm.Cond.code ({ cls := "com/example/lucioles/lucioles/service/Scope", name := "<init>", desc := "(Lcom/example/lucioles/lucioles/service/Scope$Type;I)V" } : Jvm.MethodName) prog_14_method_1_code (3 : Nat) (Option.none : Option Jvm.ClassFile.FieldType)).before args0 about1 = true := code_word (m := ⟨7, 0⟩) (meth := k7m0) (c := k7c0) (by decide +kernel) rfl rfl rfl (by decide +kernel)
set_option maxRecDepth 65536 in
theorem w_c4 : (Jvm.Cond.code ({ cls := "java/lang/Object", name := "<init>", desc := "()V" } : Jvm.MethodName) object_method_1_code (1 : Nat) (Option.none : Option Jvm.ClassFile.FieldType)).before args0 about1 = true := code_word (m := ⟨0, 0⟩) (meth := k0m0) (c := k0c0) (by decide +kernel) rfl rfl rfl (by decide +kernel)
set_option maxRecDepth 65536 in
theorem w_c5 : (Jvm.Cond.code ({ cls := "com/example/lucioles/lucioles/service/Scope$Type", name := "takesLevel", desc := "()Z" } : Jvm.MethodName) prog_15_method_4_code (1 : Nat) (Option.some Jvm.ClassFile.FieldType.boolean)).before args0 about1 = true := code_word (m := ⟨6, 0⟩) (meth := k6m0) (c := k6c0) (by decide +kernel) rfl rfl rfl (by decide +kernel)
set_option maxRecDepth 65536 in
theorem w_c6 : (Jvm.Cond.code ({ cls := "com/example/lucioles/lucioles/service/Scope", name := "deepest", desc := "()I" } : Jvm.MethodName) prog_14_method_5_code (1 : Nat) (Option.some Jvm.ClassFile.FieldType.int)).before args0 about1 = true := code_word (m := ⟨7, 3⟩) (meth := k7m3) (c := k7c3) (by decide +kernel) rfl rfl rfl (by decide +kernel)
set_option maxRecDepth 65536 in
theorem w_c7 : (Jvm.Cond.code ({ cls := "java/lang/Enum", name := "ordinal", desc := "()I" } : Jvm.MethodName) jdk_37_method_2_code (1 : Nat) (Option.some Jvm.ClassFile.FieldType.int)).before args0 about1 = true := code_word (m := ⟨5, 0⟩) (meth := k5m0) (c := k5c0) (by decide +kernel) rfl rfl rfl (by decide +kernel)
set_option maxRecDepth 65536 in
theorem w_c8 : (Jvm.Cond.code ({ cls := "com/example/lucioles/lucioles/service/Scope", name := "includes", desc := "(I)Z" } : Jvm.MethodName) prog_14_method_4_code (2 : Nat) (Option.some Jvm.ClassFile.FieldType.boolean)).before args0 about1 = true := code_word (m := ⟨7, 2⟩) (meth := k7m2) (c := k7c2) (by decide +kernel) rfl rfl rfl (by decide +kernel)
def codes1 : List Jvm.Cond := [Jvm.Cond.code x code maxLocals ret, Jvm.Cond.code ({ cls := "com/example/lucioles/lucioles/service/Scope", name := "of", desc := "(Lcom/example/lucioles/lucioles/service/Scope$Type;I)Lcom/example/lucioles/lucioles/service/Scope;" } : Jvm.MethodName) prog_14_method_2_code (2 : Nat) (Option.some (Jvm.ClassFile.FieldType.object "com/example/lucioles/lucioles/service/Scope")), Jvm.Cond.code ({ cls := "java/util/Objects", name := "requireNonNull", desc := "(Ljava/lang/Object;Ljava/lang/String;)Ljava/lang/Object;" } : Jvm.MethodName) jdk_31_method_11_code (2 : Nat) (Option.some (Jvm.ClassFile.FieldType.object "java/lang/Object")), Jvm.Cond.code ({ cls := "com/example/lucioles/lucioles/service/Scope", name := "<init>", desc := "(Lcom/example/lucioles/lucioles/service/Scope$Type;I)V" } : Jvm.MethodName) prog_14_method_1_code (3 : Nat) (Option.none : Option Jvm.ClassFile.FieldType), Jvm.Cond.code ({ cls := "java/lang/Object", name := "<init>", desc := "()V" } : Jvm.MethodName) object_method_1_code (1 : Nat) (Option.none : Option Jvm.ClassFile.FieldType), Jvm.Cond.code ({ cls := "com/example/lucioles/lucioles/service/Scope$Type", name := "takesLevel", desc := "()Z" } : Jvm.MethodName) prog_15_method_4_code (1 : Nat) (Option.some Jvm.ClassFile.FieldType.boolean), Jvm.Cond.code ({ cls := "com/example/lucioles/lucioles/service/Scope", name := "deepest", desc := "()I" } : Jvm.MethodName) prog_14_method_5_code (1 : Nat) (Option.some Jvm.ClassFile.FieldType.int), Jvm.Cond.code ({ cls := "java/lang/Enum", name := "ordinal", desc := "()I" } : Jvm.MethodName) jdk_37_method_2_code (1 : Nat) (Option.some Jvm.ClassFile.FieldType.int), Jvm.Cond.code ({ cls := "com/example/lucioles/lucioles/service/Scope", name := "includes", desc := "(I)Z" } : Jvm.MethodName) prog_14_method_4_code (2 : Nat) (Option.some Jvm.ClassFile.FieldType.boolean)]
set_option maxRecDepth 65536 in
theorem codes_eq : words1.filter isCode = codes1 := rfl
theorem w_codes : ∀ c ∈ words1.filter isCode, c.before args0 about1 = true := by
  rw [codes_eq]
  intro c hc
  simp only [codes1, List.mem_cons, List.not_mem_nil, or_false] at hc
  rcases hc with rfl | rfl | rfl | rfl | rfl | rfl | rfl | rfl | rfl
  · exact w_c0
  · exact w_c1
  · exact w_c2
  · exact w_c3
  · exact w_c4
  · exact w_c5
  · exact w_c6
  · exact w_c7
  · exact w_c8
set_option maxRecDepth 65536 in
theorem w_t1 : (words1.take 24).all (fun c => isCode c || c.before args0 about1) = true := by decide +kernel
set_option maxRecDepth 65536 in
theorem w_t2 : ((words1.drop 24).take 24).all (fun c => isCode c || c.before args0 about1) = true := by decide +kernel
set_option maxRecDepth 65536 in
theorem w_t3 : ((words1.drop 24).drop 24).all (fun c => isCode c || c.before args0 about1) = true := by decide +kernel
theorem w_tables : (allAtoms (Jvm.Cond.code x code maxLocals ret :: tables_1)).before args0 about1 = true := by
  rw [allAtoms_all]
  show words1.all (fun c => c.before args0 about1) = true
  refine all_split ?_ w_codes
  rw [← List.take_append_drop 24 words1, List.all_append, w_t1, ← List.take_append_drop 24 (words1.drop 24), List.all_append, w_t2, w_t3]
  rfl
set_option maxRecDepth 65536 in
theorem w_case : (Jvm.Cond.and given_1 narrow_1).before args0 about1 = true := by decide +kernel
theorem w_applies : (headSpec (Jvm.Cond.code x code maxLocals ret :: tables_1) room_1).applies x e0.platform about1 = true :=
  (Spec.applies_iff w_frames).mpr ⟨w_running, w_runnable, w_alone, w_named, w_hears, w_ripe, w_room, w_tables⟩
theorem atStart : AtStart classFile x code maxLocals ret World_1 tables_1 room_1 Calls_1 rest_1 Pre_1 launch0 p0 e0 about1 theMethod args0 below0 :=
  ⟨lists_1, trivial, launch0.admits_env _ _ _, launch0.least_env, fairChoices_fair.cas, fairChoices_fair.clock, w_frames, w_args, w_heap, w_applies, trivial, trivial, w_case⟩
end start1
theorem witness_1 : WitnessClaimed_1 := ⟨start1.p0, start1.e0, start1.about1, start1.theMethod, start1.args0, start1.below0, start1.atStart⟩
end Jvm.Pilot.@@N@@
