import JvmDerived
import JvmDerived.Pilot.@@N@@Statement
import JvmDerived.Pilot.@@N@@Code
set_option linter.unusedVariables false
set_option linter.unusedSimpArgs false


namespace Jvm.OwnW
open Sem ClassFile Op Lib Jvm.Free Jvm.LawKit Jvm.RoadKit
abbrev Cx : Type := Program × Env × State × MethodId × Array Value × List Frame × Method × Code
abbrev Cx.p (x : Cx) : Program := x.1
abbrev Cx.e (x : Cx) : Env := x.2.1
abbrev Cx.s (x : Cx) : State := x.2.2.1
abbrev Cx.m (x : Cx) : MethodId := x.2.2.2.1
abbrev Cx.args (x : Cx) : Array Value := x.2.2.2.2.1
abbrev Cx.below (x : Cx) : List Frame := x.2.2.2.2.2.1
abbrev Cx.meth (x : Cx) : Method := x.2.2.2.2.2.2.1
abbrev Cx.c (x : Cx) : Code := x.2.2.2.2.2.2.2
/-- how a contract ends: narrow or wide -/
def FinE (wd : Bool) (Z : State) (EL : List (String × Nat)) (s : State) (o : Outcome) (t : State) (L : List Loc) (k n : Nat) : Prop :=
  match wd with
  | false => FrameEnd s o t L k n
  | true => CHr Z EL s.vm s.heap t.vm t.heap ∧ ReturnedEndW s o t L k n
def Ct (wd : Bool) (l : Launch) (Z : State) (EL : List (String × Nat)) (y : MethodName) (bytes : ByteArray) (maxL : Nat) (ret : Option FieldType) (ws : List Jvm.Cond) (R : Room) (sf : List Addr) (as' : Array Value) (h : Heap) (Q : Option Value → Heap → Prop) : Prop :=
  MetFree l y (head1 (Jvm.Cond.code y bytes maxL ret :: ws) R) (fun a U => a = as' ∧ Z.Warmed39 U.vm ∧ U.heap = h ∧ (wd = true → CHv Z EL U.vm h ∧ ∀ y ∈ sf, Safe Z EL U.vm h y)) (fun _ _ _ _ _ => True)
    (fun _ U o U' => ∃ v L, o = .returned v ∧ (Q v U'.heap ∧ Fr Z.heap.size L ∧ Ext Z.heap U'.heap ∧ h.size ≤ U'.heap.size) ∧ FinE wd Z EL U o U' L R.cells R.slots)
def Go (x : Cx) (wd : Bool) (Z : State) (EL : List (String × Nat)) (R : Room) (Q : Option Value → Heap → Prop) (T : State) (pc : Nat) (ls : Array Slot) (st : List Value) : Prop :=
  ∃ s₂ o, Steps x.p.tables x.e x.below (T.setTop (mkF x.m pc ls st)) s₂ ∧ s₂.status = .running ∧ Ended s₂ x.below o ∧ ∃ v L, o = .returned v ∧ (Q v s₂.heap ∧ Fr Z.heap.size L ∧ Ext Z.heap s₂.heap ∧ x.s.heap.size ≤ s₂.heap.size) ∧ FinE wd Z EL x.s o s₂ L R.cells R.slots
def W (x : Cx) (wd : Bool) (l : Launch) (Z : State) (EL : List (String × Nat)) (R : Room) (own : String) (code : ByteArray) (mx : Nat) (ret : Option FieldType) (nm : String) (T : State) (h : Heap) (k n : Nat) (sf : List Addr) : Prop :=
  x.p.tables.exec = Jvm.exec ∧ x.c.code = code ∧ x.c.maxLocals = mx ∧ x.meth.sig.returnType = ret ∧ x.meth.name = nm ∧ x.meth.locks = false ∧ T.heap = h ∧ Ext Z.heap h ∧ k ≤ R.cells ∧ n ≤ R.slots ∧ (∀ y ∈ sf, Z.heap.size ≤ y ∧ y < h.size) ∧ (∃ a0, EW Z a0 EL) ∧
    ∃ (L : List Loc) (vm0 : Vm), Fr Z.heap.size L ∧ (wd = false → vm0 = x.s.vm) ∧ Stand x.p l x.e R (x.s.setVm vm0) x.m x.args x.below x.meth x.c T L k n ∧ x.s.Since vm0 h.size ∧ Z.Warmed39 vm0 ∧ vm0.findClass own = some x.m.cls ∧ (wd = true → CHr Z EL x.s.vm x.s.heap vm0 h ∧ ∀ y ∈ sf, Safe Z EL vm0 h y)
/-- an instruction, its length, the next pc -/
def Dc (code : ByteArray) (pc : Nat) (i : Instr) (len pc' : Nat) : Prop := decode code pc = .ok (i, len) ∧ pc + len = pc'
/-- where a branch goes -/
def Tg (pc : Nat) (o : Int) (pc' : Nat) : Prop := 0 ≤ (pc : Int) + o ∧ ((pc : Int) + o).toNat = pc'
theorem since_mono {s : State} {vm : Vm} {n n' : Nat} (h : s.Since vm n) (q : n ≤ n') : s.Since vm n' := ⟨h.1, h.2.mono q⟩
theorem setVm_self (s : State) : s.setVm s.vm = s := rfl
theorem ext_refl (h : Heap) : Ext h h := ⟨Nat.le_refl _, fun _ _ q => q⟩
theorem ext_trans {a b c : Heap} (h1 : Ext a b) (h2 : Ext b c) : Ext a c := ⟨Nat.le_trans h1.1 h2.1, fun x q r => h2.2 x q (h1.2 x q r)⟩
theorem ext_wr {Z : State} {h h' : Heap} {a : Addr} {sl : Nat} {v : Value} (E : Ext Z.heap h) (w : Wr h h' a sl v) (q : Z.heap.size ≤ a) : Ext Z.heap h' := (Old.wr ⟨rfl, E⟩ w q).2
theorem keep_ext {h h' : Heap} {ws : List Addr} (E : Ext h h') : Keep h h' ws := (Keep.refl h ws).ext E
theorem ext_keep {h h' : Heap} (K : Keep h h' []) : Ext h h' := ⟨K.1, fun x c q => K.2.1 x c q nin0⟩
theorem keep_to {h0 h h' : Heap} {ws : List Addr} (E : Ext h0 h) (K : Keep h h' ws) (q : ∀ x ∈ ws, h0.size ≤ x) : Ext h0 h' :=
  ⟨Nat.le_trans E.1 K.1, fun x c r => K.2.1 x c (E.2 x c r) fun z => absurd (Array.getElem?_eq_some_iff.mp r).1 (Nat.not_lt.mpr (q x z))⟩
theorem Ct.mono {wd : Bool} {l : Launch} {Z : State} {EL : List (String × Nat)} {y : MethodName} {bytes : ByteArray} {maxL : Nat} {ret : Option FieldType} {ws : List Jvm.Cond} {R : Room} {sf : List Addr} {as' : Array Value} {h : Heap} {Q Q' : Option Value → Heap → Prop} (C : Ct wd l Z EL y bytes maxL ret ws R sf as' h Q) (q : ∀ v u, Q v u → Q' v u) : Ct wd l Z EL y bytes maxL ret ws R sf as' h Q' := by
  intro p e h1 h2 h3 s m args below h4 h5 h6 h7
  obtain ⟨n, o, a1, a2, a3, v, L, a4, a5, a6⟩ := C p e h1 h2 h3 s m args below h4 h5 h6 h7
  exact ⟨n, o, a1, a2, a3, v, L, a4, ⟨q _ _ a5.1, a5.2⟩, a6⟩
theorem Ct.intro {wd : Bool} {l : Launch} {Z : State} {EL : List (String × Nat)} {y : MethodName} {bytes : ByteArray} {maxL : Nat} {ret : Option FieldType} {ws : List Jvm.Cond} {R : Room} {sf : List Addr} {as' : Array Value} {h : Heap} {Q : Option Value → Heap → Prop} {ls : Array Slot}
    (hpl : plainName y.cls = true) (hE : Ext Z.heap h) (ef : ∀ m, entryFrame m as' maxL = mkF m 0 ls []) (hsf : ∀ y ∈ sf, Z.heap.size ≤ y ∧ y < h.size) (hEL : ∃ a0, EW Z a0 EL)
    (body : ∀ (x : Cx) (T : State), W x wd l Z EL R y.cls bytes maxL ret y.name T h 0 0 sf → Go x wd Z EL R Q T 0 ls []) : Ct wd l Z EL y bytes maxL ret ws R sf as' h Q := by
  refine MetFree.of_bodySF (plainFor_of_name hpl) hisR ?_
  intro p e s m args below meth c s₁ Bd hml0 hP hK
  obtain ⟨rfl, hZ, hh, hC⟩ := hP
  have hown : s.vm.findClass y.cls = some m.cls := findClass_of_methodNamed Bd.named
  have hnm := (name_of_methodNamed Bd.named Bd.method).1
  have e0 : s₁.heap = h := by rw [← hh, Bd.state]; rfl
  obtain ⟨s₂, o, a1, a2, a3, v, L, a4, a5, a6⟩ := body (p, e, s, m, args, below, meth, c) s₁ ⟨Bd.exec, Bd.bytes, hml0, Bd.returns, hnm, Bd.notSynchronized, e0, hE, Nat.zero_le _, Nat.zero_le _, hsf, hEL, [], s.vm, Fr.nil _, fun _ => rfl, Stand.of_body Bd, (State.WarmedH.refl s).since _, hZ, hown, fun q => ⟨by show CHr Z EL s.vm s.heap s.vm h; rw [hh]; exact CHr.refl (hC q).1, (hC q).2⟩⟩
  exact ⟨s₂, o, castTop (ef m) a1, a2, a3, v, L, a4, ⟨a5.1, a5.2.1, a5.2.2.1, by rw [← hh]; exact a5.2.2.2⟩, a6⟩
theorem nosf {Z : State} {h : Heap} : ∀ y ∈ ([] : List Addr), Z.heap.size ≤ y ∧ y < h.size := fun _ q => nomatch q
theorem onesf {Z : State} {h : Heap} {a : Addr} (g : Z.heap.size ≤ a) (q : a < h.size) : ∀ y ∈ [a], Z.heap.size ≤ y ∧ y < h.size := fun y z => by cases List.mem_singleton.mp z; exact ⟨g, q⟩
theorem noEL {Z : State} {a0 : Array Value} : ∃ a0, EW Z a0 [] := ⟨a0, EW.nil⟩
/-- a wide callee's contract, as the library's calls want it -/
theorem backW {p : Program} {l : Launch} {e : Env} {R : Room} {s : State} {args : Array Value} {below : List Frame} {Z : State} {a0 : Array Value} {EL : List (String × Nat)} {h : Heap} {vm0 : Vm} {y : MethodName} {bytes : ByteArray} {maxL : Nat} {ret : Option FieldType} {rm : Room} {len Wn : Nat} {as' : Array Value} {sf : List Addr} {Q : Option Value → Heap → Prop}
    (hM : Ct true l Z EL y bytes maxL ret [] rm sf as' h Q) (hZ : Z.Warmed39 vm0) (wc : (Jvm.Cond.code y bytes maxL ret).before a0 Z = true) (wz : (Jvm.Cond.initialized y.cls).before a0 Z = true) (hf : rm.frames + 1 ≤ R.frames) (hl : Wn + (maxL + 11) + rm.locals ≤ R.locals) (hEL : ∃ a0, EW Z a0 EL) (H : CHv Z EL vm0 h) (hsf : ∀ y ∈ sf, y < h.size ∧ Safe Z EL vm0 h y) :
    BackS l R p e below (s.setVm vm0) args y len Wn (fun A a => a = as' ∧ A.U.heap = h ∧ A.cells + rm.cells ≤ R.cells ∧ A.slots + rm.slots ≤ R.slots)
      (fun A _ v B => ∃ L, (Q v B.U.heap ∧ Fr Z.heap.size L ∧ Ext Z.heap B.U.heap ∧ h.size ≤ B.U.heap.size) ∧ B.locs = A.locs ++ L ∧ B.cells = A.cells + rm.cells ∧ B.slots = A.slots + rm.slots ∧ CHr Z EL vm0 h B.U.vm B.U.heap) := by
  obtain ⟨a1, hEL⟩ := hEL
  exact BackS.of_freeW (bytes := bytes) (maxL := maxL) (ret := ret) (E := fun _ first o t L k n => k = rm.cells ∧ n = rm.slots ∧ (∃ v, o = .returned v ∧ (Q v t.heap ∧ Fr Z.heap.size L ∧ Ext Z.heap t.heap ∧ h.size ≤ t.heap.size)) ∧ CHr Z EL first.vm first.heap t.vm t.heap) hM hf hl
    (fun m meth c A a Y hp => have hU : Z.Warmed39 A.U.vm := wtrans (s := s.setVm vm0) hZ Y.warmed
      ⟨by show (Jvm.Cond.and _ .tt).before a A.U = true; rw [Cond.before_and, mv hU wc]; rfl, mv hU wc, mv hU wz, hp.2.2.1, hp.2.2.2⟩)
    (fun m meth c A a g mk Y hp => ⟨hp.1, wtrans (s := s.setVm vm0) hZ Y.warmed, hp.2.1, fun _ => ⟨(CHv.at Y hZ hEL H).1, fun y hy => (CHv.at Y hZ hEL H).safe (hsf y hy).1 (hsf y hy).2⟩⟩) (fun _ _ _ _ _ _ _ _ _ => trivial)
    (fun _ _ _ _ ⟨v, L, h1, h2, h3, h4⟩ => ⟨L, _, _, h4, rfl, rfl, ⟨v, h1, h2⟩, h3⟩)
    (fun m meth c A a g mk v t L k n Y hp _ _ ⟨e1, e2, ⟨v', e3, e4⟩, e5⟩ => by
      cases e3; subst e1 e2
      refine ⟨L, e4, rfl, rfl, rfl, (CHv.at Y hZ hEL H).trans ?_⟩
      rw [← hp.2.1]; exact e5)
/-- a narrow callee's -/
theorem backN {p : Program} {l : Launch} {e : Env} {R : Room} {s : State} {args : Array Value} {below : List Frame} {Z : State} {a0 : Array Value} {EL : List (String × Nat)} {h : Heap} {y : MethodName} {bytes : ByteArray} {maxL : Nat} {ret : Option FieldType} {rm : Room} {len Wn : Nat} {as' : Array Value} {sf : List Addr} {Q : Option Value → Heap → Prop}
    (hM : Ct false l Z EL y bytes maxL ret [] rm sf as' h Q) (hZ : Z.Warmed39 s.vm) (wc : (Jvm.Cond.code y bytes maxL ret).before a0 Z = true) (wz : (Jvm.Cond.initialized y.cls).before a0 Z = true) (hf : rm.frames + 1 ≤ R.frames) (hl : Wn + (maxL + 11) + rm.locals ≤ R.locals) :
    Back l R p e below s args y len Wn (fun A a => a = as' ∧ A.U.heap = h ∧ A.cells + rm.cells ≤ R.cells ∧ A.slots + rm.slots ≤ R.slots)
      (fun A _ v B => ∃ L, (Q v B.U.heap ∧ Fr Z.heap.size L ∧ Ext Z.heap B.U.heap ∧ h.size ≤ B.U.heap.size) ∧ B.locs = A.locs ++ L ∧ B.cells = A.cells + rm.cells ∧ B.slots = A.slots + rm.slots) :=
  backOf (Q := fun v u L => Q v u ∧ Fr Z.heap.size L ∧ Ext Z.heap u ∧ h.size ≤ u.size) (fun p e h1 h2 h3 s m args below h4 h5 h6 h7 => hM p e h1 h2 h3 s m args below h4 h5 ⟨h6.1, h6.2.1, h6.2.2, fun q => by cases q⟩ h7) hZ wc wz hf hl
section Laws
variable {x : Cx} {wd : Bool} {l : Launch} {Z : State} {EL : List (String × Nat)} {sf : List Addr} {R : Room} {own : String} {code : ByteArray} {mx : Nat} {ret : Option FieldType} {nm : String} {T : State} {h : Heap} {k n : Nat} {Q : Option Value → Heap → Prop} {pc pc' pcT : Nat} {ls : Array Slot} {st : List Value} {a0 : Array Value}
theorem W.old (w : W x wd l Z EL R own code mx ret nm T h k n sf) : Ext Z.heap h := w.2.2.2.2.2.2.2.1
theorem W.size (w : W x wd l Z EL R own code mx ret nm T h k n sf) : Z.heap.size ≤ h.size := w.old.1
theorem W.sta {C f d : String} {v : Value} (w : W x wd l Z EL R own code mx ret nm T h k n sf) (F : Sta Z Z.heap C f d v) : Sta Z h C f d v := F.ext w.old
/-- more cells and slots may be booked -/
theorem W.more {k' n' : Nat} (w : W x wd l Z EL R own code mx ret nm T h k n sf) (hk : k ≤ k') (hn : n ≤ n') (hk' : k' ≤ R.cells) (hn' : n' ≤ R.slots) : W x wd l Z EL R own code mx ret nm T h k' n' sf := by
  obtain ⟨a1, a2, a3, a4, a5, a6, a7, a8, a9, a10, a13, a14, L, vm0, a11, a12, X, b1, b2, b3, b4⟩ := w
  exact ⟨a1, a2, a3, a4, a5, a6, a7, a8, hk', hn', a13, a14, L, vm0, a11, a12, X.mono hk hn, b1, b2, b3, b4⟩
/-- fewer places that may be written -/
theorem W.less {sf' : List Addr} (w : W x wd l Z EL R own code mx ret nm T h k n sf) (q : ∀ y ∈ sf', y ∈ sf) : W x wd l Z EL R own code mx ret nm T h k n sf' := by
  obtain ⟨a1, a2, a3, a4, a5, a6, a7, a8, a9, a10, a13, a14, L, vm0, a11, a12, X, b1, b2, b3, b4⟩ := w
  exact ⟨a1, a2, a3, a4, a5, a6, a7, a8, a9, a10, fun y hy => a13 y (q y hy), a14, L, vm0, a11, a12, X, b1, b2, b3, fun e => ⟨(b4 e).1, fun y hy => (b4 e).2 y (q y hy)⟩⟩
/-- a new address that may be written, made by a callee -/
theorem W.adopt (w : W x wd l Z EL R own code mx ret nm T h k n sf) {d : Addr} (g : Z.heap.size ≤ d) (q : d < h.size) (f : ∀ vm, Z.Warmed39 vm → Safe Z EL vm h d) : W x wd l Z EL R own code mx ret nm T h k n (d :: sf) := by
  obtain ⟨a1, a2, a3, a4, a5, a6, a7, a8, a9, a10, a13, a14, L, vm0, a11, a12, X, b1, b2, b3, b4⟩ := w
  refine ⟨a1, a2, a3, a4, a5, a6, a7, a8, a9, a10, fun y hy => ?_, a14, L, vm0, a11, a12, X, b1, b2, b3, fun e => ⟨(b4 e).1, fun y hy => ?_⟩⟩
  · rcases List.mem_cons.mp hy with rfl | hy
    · exact ⟨g, q⟩
    · exact a13 y hy
  · rcases List.mem_cons.mp hy with rfl | hy
    · exact f vm0 b2
    · exact (b4 e).2 y hy
theorem W.go {pc' : Nat} {ls' : Array Slot} {st' : List Value} (w : W x wd l Z EL R own code mx ret nm T h k n sf)
    (f : At T x.m x.c x.below → x.p.tables.exec = Jvm.exec → x.c.code = code → ∀ target, Steps x.p.tables x.e x.below (T.setTop (mkF x.m pc' ls' st')) target → Steps x.p.tables x.e x.below (T.setTop (mkF x.m pc ls st)) target)
    (K : Go x wd Z EL R Q T pc' ls' st') : Go x wd Z EL R Q T pc ls st := by
  obtain ⟨s₂, o, a1, r⟩ := K
  obtain ⟨hx, hb, -, -, -, -, -, -, -, -, -, -, L, vm0, -, -, X, -⟩ := w
  exact ⟨s₂, o, f X.here hx hb _ a1, r⟩
/-- a step that only warms the tables -/
theorem W.goT {pc' : Nat} {ls' : Array Slot} {st' : List Value} (w : W x wd l Z EL R own code mx ret nm T h k n sf)
    (f : ∀ (s0 : State) (L : List Loc), Stand x.p l x.e R s0 x.m x.args x.below x.meth x.c T L k n → x.p.tables.exec = Jvm.exec → Z.Warmed39 s0.vm → s0.vm.findClass own = some x.m.cls → x.c.code = code → x.c.maxLocals = mx → T.heap = h → ∃ T', Stand x.p l x.e R s0 x.m x.args x.below x.meth x.c T' L k n ∧ T'.heap = h ∧ ∀ target, Steps x.p.tables x.e x.below (T'.setTop (mkF x.m pc' ls' st')) target → Steps x.p.tables x.e x.below (T.setTop (mkF x.m pc ls st)) target)
    (K : ∀ T', W x wd l Z EL R own code mx ret nm T' h k n sf → Go x wd Z EL R Q T' pc' ls' st') : Go x wd Z EL R Q T pc ls st := by
  obtain ⟨hx, hb, hm, hr, hn, hl, e0, E, c1, c2, hs, hEL, L, vm0, N, g, X, S, hZ, ho, hC⟩ := w
  obtain ⟨T', X', e', stp⟩ := f _ L X hx hZ ho hb hm e0
  obtain ⟨s₂, o, a1, r⟩ := K T' ⟨hx, hb, hm, hr, hn, hl, e', E, c1, c2, hs, hEL, L, vm0, N, g, X', S, hZ, ho, hC⟩
  exact ⟨s₂, o, stp _ a1, r⟩
/-- a step that makes a cell -/
theorem W.goN {pc' : Nat} {ls' : Array Slot} {st' : List Value} {k' n' : Nat} {P : Heap → Prop} (w : W x wd l Z EL R own code mx ret nm T h k n sf) (hk : k' ≤ R.cells) (hn' : n' ≤ R.slots)
    (f : ∀ (s0 : State) (L : List Loc), Stand x.p l x.e R s0 x.m x.args x.below x.meth x.c T L k n → x.p.tables.exec = Jvm.exec → Z.Warmed39 s0.vm → s0.vm.findClass own = some x.m.cls → x.c.code = code → x.c.maxLocals = mx → T.heap = h → ∃ T' h', Stand x.p l x.e R s0 x.m x.args x.below x.meth x.c T' L k' n' ∧ T'.heap = h' ∧ Ext h h' ∧ h.size < h'.size ∧ P h' ∧ ∀ target, Steps x.p.tables x.e x.below (T'.setTop (mkF x.m pc' ls' st')) target → Steps x.p.tables x.e x.below (T.setTop (mkF x.m pc ls st)) target)
    (K : ∀ T' h', W x wd l Z EL R own code mx ret nm T' h' k' n' (h.size :: sf) → Ext h h' → P h' → Go x wd Z EL R Q T' pc' ls' st') : Go x wd Z EL R Q T pc ls st := by
  obtain ⟨hx, hb, hm, hr, hn, hl, e0, E, c1, c2, hs, hEL, L, vm0, N, g, X, S, hZ, ho, hC⟩ := w
  obtain ⟨T', h', X', e', E', hlt, p', stp⟩ := f _ L X hx hZ ho hb hm e0
  obtain ⟨s₂, o, a1, r⟩ := K T' h' ⟨hx, hb, hm, hr, hn, hl, e', ext_trans E E', hk, hn', fun y hy => by
      rcases List.mem_cons.mp hy with rfl | hy
      · exact ⟨E.1, hlt⟩
      · exact ⟨(hs y hy).1, Nat.lt_of_lt_of_le (hs y hy).2 E'.1⟩, hEL, L, vm0, N, g, X', since_mono S E'.1, hZ, ho, fun q => ⟨(hC q).1.trans (CHr.ext E' (hC q).1.1), fun y hy => by
      rcases List.mem_cons.mp hy with rfl | hy
      · exact (Safe.new (Nat.le_refl _)).ext E' (hC q).1.1
      · exact ((hC q).2 y hy).ext E' (hC q).1.1⟩⟩ E' p'
  exact ⟨s₂, o, stp _ a1, r⟩
/-- a step that writes one place of a new cell -/
theorem W.goW {pc' : Nat} {ls' : Array Slot} {st' : List Value} {a : Addr} {sl : Nat} {v : Value} (w : W x wd l Z EL R own code mx ret nm T h k n sf) (ha : a ∈ sf)
    (f : ∀ (s0 : State) (L : List Loc), Stand x.p l x.e R s0 x.m x.args x.below x.meth x.c T L k n → x.p.tables.exec = Jvm.exec → Z.Warmed39 s0.vm → s0.vm.findClass own = some x.m.cls → x.c.code = code → x.meth.name = nm → T.heap = h → ∃ T' h', Stand x.p l x.e R s0 x.m x.args x.below x.meth x.c T' (L ++ [⟨a, sl⟩]) k n ∧ T'.heap = h' ∧ Wr h h' a sl v ∧ ∀ target, Steps x.p.tables x.e x.below (T'.setTop (mkF x.m pc' ls' st')) target → Steps x.p.tables x.e x.below (T.setTop (mkF x.m pc ls st)) target)
    (K : ∀ T' h', W x wd l Z EL R own code mx ret nm T' h' k n sf → Wr h h' a sl v → Go x wd Z EL R Q T' pc' ls' st') : Go x wd Z EL R Q T pc ls st := by
  obtain ⟨hx, hb, hm, hr, hn, hl, e0, E, c1, c2, hs, hEL, L, vm0, N, g, X, S, hZ, ho, hC⟩ := w
  obtain ⟨T', h', X', e', W', stp⟩ := f _ L X hx hZ ho hb hn e0
  have hz := W'.size
  obtain ⟨s₂, o, a1, r⟩ := K T' h' ⟨hx, hb, hm, hr, hn, hl, e', ext_wr E W' (hs a ha).1, c1, c2, fun y hy => ⟨(hs y hy).1, by rw [hz]; exact (hs y hy).2⟩, hEL, _, vm0, Fr.snoc X' N (hs a ha).1, g, X', since_mono S (Nat.le_of_eq hz.symm), hZ, ho, fun q => ⟨(hC q).1.trans (CHr.wr W' ((hC q).2 a ha) (hC q).1.1), fun y hy => Safe.wr W' ((hC q).2 a ha) (hC q).1.1 ((hC q).2 y hy)⟩⟩ W'
  exact ⟨s₂, o, stp _ a1, r⟩
/-- the end: the value v is handed back -/
theorem W.done {v : Option Value} (w : W x wd l Z EL R own code mx ret nm T h k n sf) (hv : ret = none → v = none) (hQ : Q v h)
    (f : ∀ (s0 : State) (L : List Loc), Stand x.p l x.e R s0 x.m x.args x.below x.meth x.c T L k n → x.p.tables.exec = Jvm.exec → x.c.code = code → x.meth.sig.returnType = ret → ∀ fs : List Frame, (∀ (f : JFrame) (acts : List Action), f.method = x.m → f.locked = none → f.entered = [] → (doReturn x.e (T.setTop f) acts v).1 = T.setFrames fs) → Steps x.p.tables x.e x.below (T.setTop (mkF x.m pc ls st)) (T.setFrames fs)) : Go x wd Z EL R Q T pc ls st := by
  obtain ⟨hx, hb, hm, hr, hn, hl, e0, E, c1, c2, hs, ⟨a9, hEL⟩, L, vm0, N, g, X, S, hZ, ho, hC⟩ := w
  have hv' : x.meth.sig.returnType = none → v = none := fun q => hv (hr ▸ q)
  have hh : ∀ fs, (T.setFrames fs).heap = h := fun fs => e0
  have hg : ∀ fs, x.s.heap.size ≤ (T.setFrames fs).heap.size := fun fs => X.same.2.1
  cases wd with
  | false =>
    have eq := g rfl
    subst eq
    obtain ⟨fs, h1, h2, h3, h4, h5⟩ := X.leave (v := v) hv' hl
    exact ⟨_, _, f _ L X hx hb hr fs h1, h2, h3, v, L, rfl, ⟨(hh fs).symm ▸ hQ, N, (hh fs).symm ▸ E, hg fs⟩, ⟨⟨v, rfl⟩, h4, h5.mono c1 c2⟩⟩
  | true =>
    obtain ⟨fs, h1, h2, h3, h4⟩ := X.leaveW S (by rw [e0]; exact Nat.le_refl _) (v := v) hv' hl
    have hC2 : CHr Z EL x.s.vm x.s.heap T.vm T.heap := by rw [e0]; exact (hC rfl).1.trans (CHv.at X hZ hEL (hC rfl).1.1)
    exact ⟨_, _, f _ L X hx hb hr fs h1, h2, h3, v, L, rfl, ⟨(hh fs).symm ▸ hQ, N, (hh fs).symm ▸ E, hg fs⟩, hC2, ⟨h4.1, h4.2.1, h4.2.2.1, h4.2.2.2.mono c1 c2⟩⟩

theorem W.aloadN (w : W x wd l Z EL R own code mx ret nm T h k n sf) {i : Fin 4} {v : Value} (hd : Dc code pc (.aload_n i) 1 pc') (hl : ls[i.val]? = some (.val v)) (hv : v.isRef = true) (K : Go x wd Z EL R Q T pc' ls (v :: st)) : Go x wd Z EL R Q T pc ls st := by
  obtain ⟨hd, rfl⟩ := hd
  exact w.go (fun A hx hb t hr => XS.aloadN A hx rfl (Jvm.hb hb hd) hl hv hr) K
theorem W.aload (w : W x wd l Z EL R own code mx ret nm T h k n sf) {i : Nat} {v : Value} (hd : Dc code pc (.aload i) 2 pc') (hl : ls[i]? = some (.val v)) (hv : v.isRef = true) (K : Go x wd Z EL R Q T pc' ls (v :: st)) : Go x wd Z EL R Q T pc ls st := by
  obtain ⟨hd, rfl⟩ := hd
  exact w.go (fun A hx hb t hr => XS.aload A hx rfl (Jvm.hb hb hd) hl hv hr) K
theorem W.iloadN (w : W x wd l Z EL R own code mx ret nm T h k n sf) {i : Fin 4} {v : Int32} (hd : Dc code pc (.iload_n i) 1 pc') (hl : ls[i.val]? = some (.val (.int v))) (K : Go x wd Z EL R Q T pc' ls (.int v :: st)) : Go x wd Z EL R Q T pc ls st := by
  obtain ⟨hd, rfl⟩ := hd
  exact w.go (fun A hx hb t hr => XS.iloadN A hx rfl (Jvm.hb hb hd) hl hr) K
theorem W.iload (w : W x wd l Z EL R own code mx ret nm T h k n sf) {i : Nat} {v : Int32} (hd : Dc code pc (.iload i) 2 pc') (hl : ls[i]? = some (.val (.int v))) (K : Go x wd Z EL R Q T pc' ls (.int v :: st)) : Go x wd Z EL R Q T pc ls st := by
  obtain ⟨hd, rfl⟩ := hd
  exact w.go (fun A hx hb t hr => XS.iload A hx rfl (Jvm.hb hb hd) hl hr) K
theorem W.lloadN (w : W x wd l Z EL R own code mx ret nm T h k n sf) {i : Fin 4} {v : Int64} (hd : Dc code pc (.lload_n i) 1 pc') (hl : ls[i.val]? = some (.val (.long v))) (K : Go x wd Z EL R Q T pc' ls (.long v :: st)) : Go x wd Z EL R Q T pc ls st := by
  obtain ⟨hd, rfl⟩ := hd
  exact w.go (fun A hx hb t hr => XT.lloadN A hx rfl (Jvm.hb hb hd) hl hr) K
theorem W.lload (w : W x wd l Z EL R own code mx ret nm T h k n sf) {i : Nat} {v : Int64} (hd : Dc code pc (.lload i) 2 pc') (hl : ls[i]? = some (.val (.long v))) (K : Go x wd Z EL R Q T pc' ls (.long v :: st)) : Go x wd Z EL R Q T pc ls st := by
  obtain ⟨hd, rfl⟩ := hd
  exact w.go (fun A hx hb t hr => XT.lload A hx rfl (Jvm.hb hb hd) hl hr) K
theorem W.iconst (w : W x wd l Z EL R own code mx ret nm T h k n sf) {i : Int} (v : Int32) (hd : Dc code pc (.iconst i) 1 pc') (hv : Int32.ofInt i = v) (K : Go x wd Z EL R Q T pc' ls (.int v :: st)) : Go x wd Z EL R Q T pc ls st := by
  obtain ⟨hd, rfl⟩ := hd
  exact w.go (fun A hx hb t hr => XT.iconstV A hx rfl v (Jvm.hb hb hd) hv hr) K
theorem W.bipush (w : W x wd l Z EL R own code mx ret nm T h k n sf) {i : Int} (v : Int32) (hd : Dc code pc (.bipush i) 2 pc') (hv : (Int8.ofInt i).toInt32 = v) (K : Go x wd Z EL R Q T pc' ls (.int v :: st)) : Go x wd Z EL R Q T pc ls st := by
  obtain ⟨hd, rfl⟩ := hd
  exact w.go (fun A hx hb t hr => XT.bipushV A hx rfl v (Jvm.hb hb hd) hv hr) K
theorem W.sipush (w : W x wd l Z EL R own code mx ret nm T h k n sf) {i : Int} (v : Int32) (hd : Dc code pc (.sipush i) 3 pc') (hv : (Int16.ofInt i).toInt32 = v) (K : Go x wd Z EL R Q T pc' ls (.int v :: st)) : Go x wd Z EL R Q T pc ls st := by
  obtain ⟨hd, rfl⟩ := hd
  exact w.go (fun A hx hb t hr => XT.sipushV A hx rfl v (Jvm.hb hb hd) hv hr) K
theorem W.lconst (w : W x wd l Z EL R own code mx ret nm T h k n sf) {i : Fin 2} (v : Int64) (hd : Dc code pc (.lconst i) 1 pc') (hv : Int64.ofNat i = v) (K : Go x wd Z EL R Q T pc' ls (.long v :: st)) : Go x wd Z EL R Q T pc ls st := by
  obtain ⟨hd, rfl⟩ := hd
  exact w.go (fun A hx hb t hr => XT.lconstV A hx rfl v (Jvm.hb hb hd) hv hr) K
theorem W.aconstNull (w : W x wd l Z EL R own code mx ret nm T h k n sf) (hd : Dc code pc .aconst_null 1 pc') (K : Go x wd Z EL R Q T pc' ls (.null :: st)) : Go x wd Z EL R Q T pc ls st := by
  obtain ⟨hd, rfl⟩ := hd
  exact w.go (fun A hx hb t hr => XS.aconstNull A hx rfl (Jvm.hb hb hd) hr) K
theorem W.iadd (w : W x wd l Z EL R own code mx ret nm T h k n sf) {a b : Int32} (hd : Dc code pc .iadd 1 pc') (K : Go x wd Z EL R Q T pc' ls (.int (a + b) :: st)) : Go x wd Z EL R Q T pc ls (.int b :: .int a :: st) := by
  obtain ⟨hd, rfl⟩ := hd
  exact w.go (fun A hx hb t hr => XS.iadd A hx rfl (Jvm.hb hb hd) rfl hr) K
theorem W.isub (w : W x wd l Z EL R own code mx ret nm T h k n sf) {a b : Int32} (hd : Dc code pc .isub 1 pc') (K : Go x wd Z EL R Q T pc' ls (.int (a - b) :: st)) : Go x wd Z EL R Q T pc ls (.int b :: .int a :: st) := by
  obtain ⟨hd, rfl⟩ := hd
  exact w.go (fun A hx hb t hr => XS.isub A hx rfl (Jvm.hb hb hd) rfl hr) K
theorem W.imul (w : W x wd l Z EL R own code mx ret nm T h k n sf) {a b : Int32} (hd : Dc code pc .imul 1 pc') (K : Go x wd Z EL R Q T pc' ls (.int (a * b) :: st)) : Go x wd Z EL R Q T pc ls (.int b :: .int a :: st) := by
  obtain ⟨hd, rfl⟩ := hd
  exact w.go (fun A hx hb t hr => XS.imul A hx rfl (Jvm.hb hb hd) rfl hr) K
theorem W.iand (w : W x wd l Z EL R own code mx ret nm T h k n sf) {a b : Int32} (hd : Dc code pc .iand 1 pc') (K : Go x wd Z EL R Q T pc' ls (.int (a &&& b) :: st)) : Go x wd Z EL R Q T pc ls (.int b :: .int a :: st) := by
  obtain ⟨hd, rfl⟩ := hd
  exact w.go (fun A hx hb t hr => XS.iand A hx rfl (Jvm.hb hb hd) rfl hr) K
theorem W.ior (w : W x wd l Z EL R own code mx ret nm T h k n sf) {a b : Int32} (hd : Dc code pc .ior 1 pc') (K : Go x wd Z EL R Q T pc' ls (.int (a ||| b) :: st)) : Go x wd Z EL R Q T pc ls (.int b :: .int a :: st) := by
  obtain ⟨hd, rfl⟩ := hd
  exact w.go (fun A hx hb t hr => XT.ior A hx rfl (Jvm.hb hb hd) rfl hr) K
theorem W.ixor (w : W x wd l Z EL R own code mx ret nm T h k n sf) {a b : Int32} (hd : Dc code pc .ixor 1 pc') (K : Go x wd Z EL R Q T pc' ls (.int (a ^^^ b) :: st)) : Go x wd Z EL R Q T pc ls (.int b :: .int a :: st) := by
  obtain ⟨hd, rfl⟩ := hd
  exact w.go (fun A hx hb t hr => XT.ixor A hx rfl (Jvm.hb hb hd) rfl hr) K
theorem W.iushr (w : W x wd l Z EL R own code mx ret nm T h k n sf) {a b : Int32} (hd : Dc code pc .iushr 1 pc') (K : Go x wd Z EL R Q T pc' ls (.int (XT.ushr a b) :: st)) : Go x wd Z EL R Q T pc ls (.int b :: .int a :: st) := by
  obtain ⟨hd, rfl⟩ := hd
  exact w.go (fun A hx hb t hr => XT.iushr A hx rfl (Jvm.hb hb hd) rfl hr) K
theorem W.ishl (w : W x wd l Z EL R own code mx ret nm T h k n sf) {a b : Int32} (hd : Dc code pc .ishl 1 pc') (K : Go x wd Z EL R Q T pc' ls (.int (a <<< (b &&& 31)) :: st)) : Go x wd Z EL R Q T pc ls (.int b :: .int a :: st) := by
  obtain ⟨hd, rfl⟩ := hd
  exact w.go (fun A hx hb t hr => XT.ishl A hx rfl (Jvm.hb hb hd) rfl hr) K
theorem W.ishr (w : W x wd l Z EL R own code mx ret nm T h k n sf) {a b : Int32} (hd : Dc code pc .ishr 1 pc') (K : Go x wd Z EL R Q T pc' ls (.int (a >>> (b &&& 31)) :: st)) : Go x wd Z EL R Q T pc ls (.int b :: .int a :: st) := by
  obtain ⟨hd, rfl⟩ := hd
  exact w.go (fun A hx hb t hr => XT.ishr A hx rfl (Jvm.hb hb hd) rfl hr) K
theorem W.irem (w : W x wd l Z EL R own code mx ret nm T h k n sf) {a b : Int32} (hd : Dc code pc .irem 1 pc') (hy : b ≠ 0) (K : Go x wd Z EL R Q T pc' ls (.int (a % b) :: st)) : Go x wd Z EL R Q T pc ls (.int b :: .int a :: st) := by
  obtain ⟨hd, rfl⟩ := hd
  have q : a - a / b * b = a % b := irem_eq_mod a b
  exact w.go (fun A hx hb t hr => XS.irem A hx rfl (Jvm.hb hb hd) rfl hy (by rw [q]; exact hr)) K
theorem W.idiv (w : W x wd l Z EL R own code mx ret nm T h k n sf) {a b : Int32} (hd : Dc code pc .idiv 1 pc') (hy : b ≠ 0) (K : Go x wd Z EL R Q T pc' ls (.int (a / b) :: st)) : Go x wd Z EL R Q T pc ls (.int b :: .int a :: st) := by
  obtain ⟨hd, rfl⟩ := hd
  exact w.go (fun A hx hb t hr => XS.idiv A hx rfl (Jvm.hb hb hd) rfl hy hr) K
theorem W.ineg (w : W x wd l Z EL R own code mx ret nm T h k n sf) {a : Int32} (hd : Dc code pc .ineg 1 pc') (K : Go x wd Z EL R Q T pc' ls (.int (-a) :: st)) : Go x wd Z EL R Q T pc ls (.int a :: st) := by
  obtain ⟨hd, rfl⟩ := hd
  exact w.go (fun A hx hb t hr => XS.ineg A hx rfl (Jvm.hb hb hd) rfl hr) K
theorem W.i2c (w : W x wd l Z EL R own code mx ret nm T h k n sf) {a : Int32} (hd : Dc code pc .i2c 1 pc') (K : Go x wd Z EL R Q T pc' ls (.int (nar .char a) :: st)) : Go x wd Z EL R Q T pc ls (.int a :: st) := by
  obtain ⟨hd, rfl⟩ := hd
  exact w.go (fun A hx hb t hr => XT.i2c A hx rfl (Jvm.hb hb hd) rfl hr) K
theorem W.i2b (w : W x wd l Z EL R own code mx ret nm T h k n sf) {a : Int32} (hd : Dc code pc .i2b 1 pc') (K : Go x wd Z EL R Q T pc' ls (.int (nar .byte a) :: st)) : Go x wd Z EL R Q T pc ls (.int a :: st) := by
  obtain ⟨hd, rfl⟩ := hd
  exact w.go (fun A hx hb t hr => XT.i2b A hx rfl (Jvm.hb hb hd) rfl hr) K
theorem W.i2l (w : W x wd l Z EL R own code mx ret nm T h k n sf) {a : Int32} (hd : Dc code pc .i2l 1 pc') (K : Go x wd Z EL R Q T pc' ls (.long a.toInt64 :: st)) : Go x wd Z EL R Q T pc ls (.int a :: st) := by
  obtain ⟨hd, rfl⟩ := hd
  exact w.go (fun A hx hb t hr => XT.i2l A hx rfl (Jvm.hb hb hd) rfl hr) K
theorem W.l2i (w : W x wd l Z EL R own code mx ret nm T h k n sf) {a : Int64} (hd : Dc code pc .l2i 1 pc') (K : Go x wd Z EL R Q T pc' ls (.int a.toInt32 :: st)) : Go x wd Z EL R Q T pc ls (.long a :: st) := by
  obtain ⟨hd, rfl⟩ := hd
  exact w.go (fun A hx hb t hr => XT.l2i A hx rfl (Jvm.hb hb hd) rfl hr) K
theorem W.ladd (w : W x wd l Z EL R own code mx ret nm T h k n sf) {a b : Int64} (hd : Dc code pc .ladd 1 pc') (K : Go x wd Z EL R Q T pc' ls (.long (a + b) :: st)) : Go x wd Z EL R Q T pc ls (.long b :: .long a :: st) := by
  obtain ⟨hd, rfl⟩ := hd
  exact w.go (fun A hx hb t hr => XT.ladd A hx rfl (Jvm.hb hb hd) rfl hr) K
theorem W.lsub (w : W x wd l Z EL R own code mx ret nm T h k n sf) {a b : Int64} (hd : Dc code pc .lsub 1 pc') (K : Go x wd Z EL R Q T pc' ls (.long (a - b) :: st)) : Go x wd Z EL R Q T pc ls (.long b :: .long a :: st) := by
  obtain ⟨hd, rfl⟩ := hd
  exact w.go (fun A hx hb t hr => XT.lsub A hx rfl (Jvm.hb hb hd) rfl hr) K
theorem W.lmul (w : W x wd l Z EL R own code mx ret nm T h k n sf) {a b : Int64} (hd : Dc code pc .lmul 1 pc') (K : Go x wd Z EL R Q T pc' ls (.long (a * b) :: st)) : Go x wd Z EL R Q T pc ls (.long b :: .long a :: st) := by
  obtain ⟨hd, rfl⟩ := hd
  exact w.go (fun A hx hb t hr => XT.lmul A hx rfl (Jvm.hb hb hd) rfl hr) K
theorem W.land (w : W x wd l Z EL R own code mx ret nm T h k n sf) {a b : Int64} (hd : Dc code pc .land 1 pc') (K : Go x wd Z EL R Q T pc' ls (.long (a &&& b) :: st)) : Go x wd Z EL R Q T pc ls (.long b :: .long a :: st) := by
  obtain ⟨hd, rfl⟩ := hd
  exact w.go (fun A hx hb t hr => XT.land A hx rfl (Jvm.hb hb hd) rfl hr) K
theorem W.lcmp (w : W x wd l Z EL R own code mx ret nm T h k n sf) {a b : Int64} (hd : Dc code pc .lcmp 1 pc') (K : Go x wd Z EL R Q T pc' ls (.int (XT.cmpL a b) :: st)) : Go x wd Z EL R Q T pc ls (.long b :: .long a :: st) := by
  obtain ⟨hd, rfl⟩ := hd
  exact w.go (fun A hx hb t hr => XT.lcmp A hx rfl (Jvm.hb hb hd) rfl hr) K
theorem W.dup (w : W x wd l Z EL R own code mx ret nm T h k n sf) {v : Value} (hd : Dc code pc .dup 1 pc') (hc : v.category = 1) (K : Go x wd Z EL R Q T pc' ls (v :: v :: st)) : Go x wd Z EL R Q T pc ls (v :: st) := by
  obtain ⟨hd, rfl⟩ := hd
  exact w.go (fun A hx hb t hr => XS.dup A hx rfl (Jvm.hb hb hd) rfl hc hr) K
theorem W.dupX1 (w : W x wd l Z EL R own code mx ret nm T h k n sf) {v u : Value} (hd : Dc code pc .dup_x1 1 pc') (hc : v.category = 1) (hc' : u.category = 1) (K : Go x wd Z EL R Q T pc' ls (v :: u :: v :: st)) : Go x wd Z EL R Q T pc ls (v :: u :: st) := by
  obtain ⟨hd, rfl⟩ := hd
  exact w.go (fun A hx hb t hr => XT.dupX1 A hx rfl (Jvm.hb hb hd) rfl hc hc' hr) K
theorem W.dup2 (w : W x wd l Z EL R own code mx ret nm T h k n sf) {v u : Value} (hd : Dc code pc .dup2 1 pc') (hc : v.category = 1) (hc' : u.category = 1) (K : Go x wd Z EL R Q T pc' ls (v :: u :: v :: u :: st)) : Go x wd Z EL R Q T pc ls (v :: u :: st) := by
  obtain ⟨hd, rfl⟩ := hd
  exact w.go (fun A hx hb t hr => XT.dup2 A hx rfl (Jvm.hb hb hd) rfl hc hc' hr) K
theorem W.pop (w : W x wd l Z EL R own code mx ret nm T h k n sf) {v : Value} (hd : Dc code pc .pop 1 pc') (hc : v.category = 1) (K : Go x wd Z EL R Q T pc' ls st) : Go x wd Z EL R Q T pc ls (v :: st) := by
  obtain ⟨hd, rfl⟩ := hd
  exact w.go (fun A hx hb t hr => XT.pop A hx rfl (Jvm.hb hb hd) rfl hc hr) K
theorem W.istoreN (w : W x wd l Z EL R own code mx ret nm T h k n sf) {i : Fin 4} {v : Int32} (ls' : Array Slot) (hd : Dc code pc (.istore_n i) 1 pc') (hl : storeLocals ls i.val (.int v) = some ls') (K : Go x wd Z EL R Q T pc' ls' st) : Go x wd Z EL R Q T pc ls (.int v :: st) := by
  obtain ⟨hd, rfl⟩ := hd
  exact w.go (fun A hx hb t hr => XS.istoreN A hx rfl (Jvm.hb hb hd) rfl hl hr) K
theorem W.istore (w : W x wd l Z EL R own code mx ret nm T h k n sf) {i : Nat} {v : Int32} (ls' : Array Slot) (hd : Dc code pc (.istore i) 2 pc') (hl : storeLocals ls i (.int v) = some ls') (K : Go x wd Z EL R Q T pc' ls' st) : Go x wd Z EL R Q T pc ls (.int v :: st) := by
  obtain ⟨hd, rfl⟩ := hd
  exact w.go (fun A hx hb t hr => XS.istore A hx rfl (Jvm.hb hb hd) rfl hl hr) K
theorem W.lstoreN (w : W x wd l Z EL R own code mx ret nm T h k n sf) {i : Fin 4} {v : Int64} (ls' : Array Slot) (hd : Dc code pc (.lstore_n i) 1 pc') (hl : storeLocals ls i.val (.long v) = some ls') (K : Go x wd Z EL R Q T pc' ls' st) : Go x wd Z EL R Q T pc ls (.long v :: st) := by
  obtain ⟨hd, rfl⟩ := hd
  exact w.go (fun A hx hb t hr => XT.lstoreN A hx rfl (Jvm.hb hb hd) rfl hl hr) K
theorem W.astoreN (w : W x wd l Z EL R own code mx ret nm T h k n sf) {i : Fin 4} {v : Value} (ls' : Array Slot) (hd : Dc code pc (.astore_n i) 1 pc') (hv : v.isRef = true) (hl : storeLocals ls i.val v = some ls') (K : Go x wd Z EL R Q T pc' ls' st) : Go x wd Z EL R Q T pc ls (v :: st) := by
  obtain ⟨hd, rfl⟩ := hd
  exact w.go (fun A hx hb t hr => XS.astoreN A hx rfl (Jvm.hb hb hd) rfl hv hl hr) K
theorem W.astore (w : W x wd l Z EL R own code mx ret nm T h k n sf) {i : Nat} {v : Value} (ls' : Array Slot) (hd : Dc code pc (.astore i) 2 pc') (hv : v.isRef = true) (hl : storeLocals ls i v = some ls') (K : Go x wd Z EL R Q T pc' ls' st) : Go x wd Z EL R Q T pc ls (v :: st) := by
  obtain ⟨hd, rfl⟩ := hd
  exact w.go (fun A hx hb t hr => XS.astore A hx rfl (Jvm.hb hb hd) rfl hv hl hr) K
theorem W.iinc (w : W x wd l Z EL R own code mx ret nm T h k n sf) {i : Nat} {c : Int} {a : Int32} (v : Int32) (ls' : Array Slot) (hd : Dc code pc (.iinc i c) 3 pc') (hv : Int32.ofInt c = v) (hl : ls[i]? = some (.val (.int a))) (hl' : storeLocals ls i (.int (a + v)) = some ls') (K : Go x wd Z EL R Q T pc' ls' st) : Go x wd Z EL R Q T pc ls st := by
  obtain ⟨hd, rfl⟩ := hd
  exact w.go (fun A hx hb t hr => XT.iincV A hx rfl v (Jvm.hb hb hd) hv hl hl' hr) K
theorem W.goto (w : W x wd l Z EL R own code mx ret nm T h k n sf) {o : Int} (hd : Dc code pc (.goto o) 3 pc') (ht : Tg pc o pcT) (K : Go x wd Z EL R Q T pcT ls st) : Go x wd Z EL R Q T pc ls st := by
  obtain ⟨hd, rfl⟩ := hd
  exact w.go (fun A hx hb t hr => XS.goto A hx rfl (pc0 := pc) (pc' := pcT) rfl (Jvm.hb hb hd) ht.1 ht.2 hr) K
theorem W.ifEq (w : W x wd l Z EL R own code mx ret nm T h k n sf) {a : Int32} {o : Int} (hd : Dc code pc (.ifCond .eq o) 3 pc') (ht : Tg pc o pcT) (K1 : a = 0 → Go x wd Z EL R Q T pcT ls st) (K2 : (¬ a = 0) → Go x wd Z EL R Q T pc' ls st) : Go x wd Z EL R Q T pc ls (.int a :: st) := by
  obtain ⟨hd, rfl⟩ := hd
  by_cases q : a = 0
  · exact w.go (fun A hx hb t hr => XS.ifYes A hx rfl (pc0 := pc) (pc' := pcT) rfl (Jvm.hb hb hd) rfl (XT.i0_eq_t q) ht.1 ht.2 hr) (K1 q)
  · exact w.go (fun A hx hb t hr => XS.ifNo A hx rfl (Jvm.hb hb hd) rfl (XT.i0_eq_f q) hr) (K2 q)
theorem W.ifNe (w : W x wd l Z EL R own code mx ret nm T h k n sf) {a : Int32} {o : Int} (hd : Dc code pc (.ifCond .ne o) 3 pc') (ht : Tg pc o pcT) (K1 : (¬ a = 0) → Go x wd Z EL R Q T pcT ls st) (K2 : (a = 0) → Go x wd Z EL R Q T pc' ls st) : Go x wd Z EL R Q T pc ls (.int a :: st) := by
  obtain ⟨hd, rfl⟩ := hd
  by_cases q : a = 0
  · exact w.go (fun A hx hb t hr => XS.ifNo A hx rfl (Jvm.hb hb hd) rfl (XT.i0_ne_f q) hr) (K2 q)
  · exact w.go (fun A hx hb t hr => XS.ifYes A hx rfl (pc0 := pc) (pc' := pcT) rfl (Jvm.hb hb hd) rfl (XT.i0_ne_t q) ht.1 ht.2 hr) (K1 q)
theorem W.ifLt (w : W x wd l Z EL R own code mx ret nm T h k n sf) {a : Int32} {o : Int} (hd : Dc code pc (.ifCond .lt o) 3 pc') (ht : Tg pc o pcT) (K1 : a < 0 → Go x wd Z EL R Q T pcT ls st) (K2 : (¬ a < 0) → Go x wd Z EL R Q T pc' ls st) : Go x wd Z EL R Q T pc ls (.int a :: st) := by
  obtain ⟨hd, rfl⟩ := hd
  by_cases q : a < 0
  · exact w.go (fun A hx hb t hr => XS.ifYes A hx rfl (pc0 := pc) (pc' := pcT) rfl (Jvm.hb hb hd) rfl (XT.i0_lt_t q) ht.1 ht.2 hr) (K1 q)
  · exact w.go (fun A hx hb t hr => XS.ifNo A hx rfl (Jvm.hb hb hd) rfl (XT.i0_lt_f q) hr) (K2 q)
theorem W.ifGe (w : W x wd l Z EL R own code mx ret nm T h k n sf) {a : Int32} {o : Int} (hd : Dc code pc (.ifCond .ge o) 3 pc') (ht : Tg pc o pcT) (K1 : (¬ a < 0) → Go x wd Z EL R Q T pcT ls st) (K2 : (a < 0) → Go x wd Z EL R Q T pc' ls st) : Go x wd Z EL R Q T pc ls (.int a :: st) := by
  obtain ⟨hd, rfl⟩ := hd
  by_cases q : a < 0
  · exact w.go (fun A hx hb t hr => XS.ifNo A hx rfl (Jvm.hb hb hd) rfl (XT.i0_ge_f q) hr) (K2 q)
  · exact w.go (fun A hx hb t hr => XS.ifYes A hx rfl (pc0 := pc) (pc' := pcT) rfl (Jvm.hb hb hd) rfl (XT.i0_ge_t q) ht.1 ht.2 hr) (K1 q)
theorem W.ifGt (w : W x wd l Z EL R own code mx ret nm T h k n sf) {a : Int32} {o : Int} (hd : Dc code pc (.ifCond .gt o) 3 pc') (ht : Tg pc o pcT) (K1 : 0 < a → Go x wd Z EL R Q T pcT ls st) (K2 : (¬ 0 < a) → Go x wd Z EL R Q T pc' ls st) : Go x wd Z EL R Q T pc ls (.int a :: st) := by
  obtain ⟨hd, rfl⟩ := hd
  by_cases q : 0 < a
  · exact w.go (fun A hx hb t hr => XS.ifYes A hx rfl (pc0 := pc) (pc' := pcT) rfl (Jvm.hb hb hd) rfl (XT.i0_gt_t q) ht.1 ht.2 hr) (K1 q)
  · exact w.go (fun A hx hb t hr => XS.ifNo A hx rfl (Jvm.hb hb hd) rfl (XT.i0_gt_f q) hr) (K2 q)
theorem W.ifLe (w : W x wd l Z EL R own code mx ret nm T h k n sf) {a : Int32} {o : Int} (hd : Dc code pc (.ifCond .le o) 3 pc') (ht : Tg pc o pcT) (K1 : (¬ 0 < a) → Go x wd Z EL R Q T pcT ls st) (K2 : (0 < a) → Go x wd Z EL R Q T pc' ls st) : Go x wd Z EL R Q T pc ls (.int a :: st) := by
  obtain ⟨hd, rfl⟩ := hd
  by_cases q : 0 < a
  · exact w.go (fun A hx hb t hr => XS.ifNo A hx rfl (Jvm.hb hb hd) rfl (XT.i0_le_f q) hr) (K2 q)
  · exact w.go (fun A hx hb t hr => XS.ifYes A hx rfl (pc0 := pc) (pc' := pcT) rfl (Jvm.hb hb hd) rfl (XT.i0_le_t q) ht.1 ht.2 hr) (K1 q)
theorem W.icmpEq (w : W x wd l Z EL R own code mx ret nm T h k n sf) {a b : Int32} {o : Int} (hd : Dc code pc (.if_icmp .eq o) 3 pc') (ht : Tg pc o pcT) (K1 : a = b → Go x wd Z EL R Q T pcT ls st) (K2 : (¬ a = b) → Go x wd Z EL R Q T pc' ls st) : Go x wd Z EL R Q T pc ls (.int b :: .int a :: st) := by
  obtain ⟨hd, rfl⟩ := hd
  by_cases q : a = b
  · exact w.go (fun A hx hb t hr => XS.icmpYes A hx rfl (pc0 := pc) (pc' := pcT) rfl (Jvm.hb hb hd) rfl (XT.ii_eq_t q) ht.1 ht.2 hr) (K1 q)
  · exact w.go (fun A hx hb t hr => XS.icmpNo A hx rfl (Jvm.hb hb hd) rfl (XT.ii_eq_f q) hr) (K2 q)
theorem W.icmpNe (w : W x wd l Z EL R own code mx ret nm T h k n sf) {a b : Int32} {o : Int} (hd : Dc code pc (.if_icmp .ne o) 3 pc') (ht : Tg pc o pcT) (K1 : (¬ a = b) → Go x wd Z EL R Q T pcT ls st) (K2 : (a = b) → Go x wd Z EL R Q T pc' ls st) : Go x wd Z EL R Q T pc ls (.int b :: .int a :: st) := by
  obtain ⟨hd, rfl⟩ := hd
  by_cases q : a = b
  · exact w.go (fun A hx hb t hr => XS.icmpNo A hx rfl (Jvm.hb hb hd) rfl (XT.ii_ne_f q) hr) (K2 q)
  · exact w.go (fun A hx hb t hr => XS.icmpYes A hx rfl (pc0 := pc) (pc' := pcT) rfl (Jvm.hb hb hd) rfl (XT.ii_ne_t q) ht.1 ht.2 hr) (K1 q)
theorem W.icmpLt (w : W x wd l Z EL R own code mx ret nm T h k n sf) {a b : Int32} {o : Int} (hd : Dc code pc (.if_icmp .lt o) 3 pc') (ht : Tg pc o pcT) (K1 : a < b → Go x wd Z EL R Q T pcT ls st) (K2 : (¬ a < b) → Go x wd Z EL R Q T pc' ls st) : Go x wd Z EL R Q T pc ls (.int b :: .int a :: st) := by
  obtain ⟨hd, rfl⟩ := hd
  by_cases q : a < b
  · exact w.go (fun A hx hb t hr => XS.icmpYes A hx rfl (pc0 := pc) (pc' := pcT) rfl (Jvm.hb hb hd) rfl (XT.ii_lt_t q) ht.1 ht.2 hr) (K1 q)
  · exact w.go (fun A hx hb t hr => XS.icmpNo A hx rfl (Jvm.hb hb hd) rfl (XT.ii_lt_f q) hr) (K2 q)
theorem W.icmpGe (w : W x wd l Z EL R own code mx ret nm T h k n sf) {a b : Int32} {o : Int} (hd : Dc code pc (.if_icmp .ge o) 3 pc') (ht : Tg pc o pcT) (K1 : (¬ a < b) → Go x wd Z EL R Q T pcT ls st) (K2 : (a < b) → Go x wd Z EL R Q T pc' ls st) : Go x wd Z EL R Q T pc ls (.int b :: .int a :: st) := by
  obtain ⟨hd, rfl⟩ := hd
  by_cases q : a < b
  · exact w.go (fun A hx hb t hr => XS.icmpNo A hx rfl (Jvm.hb hb hd) rfl (XT.ii_ge_f q) hr) (K2 q)
  · exact w.go (fun A hx hb t hr => XS.icmpYes A hx rfl (pc0 := pc) (pc' := pcT) rfl (Jvm.hb hb hd) rfl (XT.ii_ge_t q) ht.1 ht.2 hr) (K1 q)
theorem W.icmpGt (w : W x wd l Z EL R own code mx ret nm T h k n sf) {a b : Int32} {o : Int} (hd : Dc code pc (.if_icmp .gt o) 3 pc') (ht : Tg pc o pcT) (K1 : b < a → Go x wd Z EL R Q T pcT ls st) (K2 : (¬ b < a) → Go x wd Z EL R Q T pc' ls st) : Go x wd Z EL R Q T pc ls (.int b :: .int a :: st) := by
  obtain ⟨hd, rfl⟩ := hd
  by_cases q : b < a
  · exact w.go (fun A hx hb t hr => XS.icmpYes A hx rfl (pc0 := pc) (pc' := pcT) rfl (Jvm.hb hb hd) rfl (XT.ii_gt_t q) ht.1 ht.2 hr) (K1 q)
  · exact w.go (fun A hx hb t hr => XS.icmpNo A hx rfl (Jvm.hb hb hd) rfl (XT.ii_gt_f q) hr) (K2 q)
theorem W.icmpLe (w : W x wd l Z EL R own code mx ret nm T h k n sf) {a b : Int32} {o : Int} (hd : Dc code pc (.if_icmp .le o) 3 pc') (ht : Tg pc o pcT) (K1 : (¬ b < a) → Go x wd Z EL R Q T pcT ls st) (K2 : (b < a) → Go x wd Z EL R Q T pc' ls st) : Go x wd Z EL R Q T pc ls (.int b :: .int a :: st) := by
  obtain ⟨hd, rfl⟩ := hd
  by_cases q : b < a
  · exact w.go (fun A hx hb t hr => XS.icmpNo A hx rfl (Jvm.hb hb hd) rfl (XT.ii_le_f q) hr) (K2 q)
  · exact w.go (fun A hx hb t hr => XS.icmpYes A hx rfl (pc0 := pc) (pc' := pcT) rfl (Jvm.hb hb hd) rfl (XT.ii_le_t q) ht.1 ht.2 hr) (K1 q)
theorem W.acmpEq (w : W x wd l Z EL R own code mx ret nm T h k n sf) {a b : Value} {o : Int} (hd : Dc code pc (.if_acmp .eq o) 3 pc') (ht : Tg pc o pcT) (h1 : a.isRef = true) (h2 : b.isRef = true) (K1 : a = b → Go x wd Z EL R Q T pcT ls st) (K2 : (¬ a = b) → Go x wd Z EL R Q T pc' ls st) : Go x wd Z EL R Q T pc ls (b :: a :: st) := by
  obtain ⟨hd, rfl⟩ := hd
  by_cases q : a = b
  · exact w.go (fun A hx hb t hr => XT.acmpYes A hx rfl (pc0 := pc) (pc' := pcT) rfl (Jvm.hb hb hd) rfl h1 h2 (XT.aa_eq_t q) ht.1 ht.2 hr) (K1 q)
  · exact w.go (fun A hx hb t hr => XT.acmpNo A hx rfl (Jvm.hb hb hd) rfl h1 h2 (XT.aa_eq_f q) hr) (K2 q)
theorem W.acmpNe (w : W x wd l Z EL R own code mx ret nm T h k n sf) {a b : Value} {o : Int} (hd : Dc code pc (.if_acmp .ne o) 3 pc') (ht : Tg pc o pcT) (h1 : a.isRef = true) (h2 : b.isRef = true) (K1 : (¬ a = b) → Go x wd Z EL R Q T pcT ls st) (K2 : (a = b) → Go x wd Z EL R Q T pc' ls st) : Go x wd Z EL R Q T pc ls (b :: a :: st) := by
  obtain ⟨hd, rfl⟩ := hd
  by_cases q : a = b
  · exact w.go (fun A hx hb t hr => XT.acmpNo A hx rfl (Jvm.hb hb hd) rfl h1 h2 (XT.aa_ne_f q) hr) (K2 q)
  · exact w.go (fun A hx hb t hr => XT.acmpYes A hx rfl (pc0 := pc) (pc' := pcT) rfl (Jvm.hb hb hd) rfl h1 h2 (XT.aa_ne_t q) ht.1 ht.2 hr) (K1 q)
theorem W.racmpEq (w : W x wd l Z EL R own code mx ret nm T h k n sf) {a b : Addr} {o : Int} (hd : Dc code pc (.if_acmp .eq o) 3 pc') (ht : Tg pc o pcT) (K1 : a = b → Go x wd Z EL R Q T pcT ls st) (K2 : ¬ a = b → Go x wd Z EL R Q T pc' ls st) : Go x wd Z EL R Q T pc ls (.ref b :: .ref a :: st) := w.acmpEq hd ht rfl rfl (fun q => K1 (Value.ref.inj q)) (fun q => K2 fun e => q (congrArg _ e))
theorem W.racmpNe (w : W x wd l Z EL R own code mx ret nm T h k n sf) {a b : Addr} {o : Int} (hd : Dc code pc (.if_acmp .ne o) 3 pc') (ht : Tg pc o pcT) (K1 : ¬ a = b → Go x wd Z EL R Q T pcT ls st) (K2 : a = b → Go x wd Z EL R Q T pc' ls st) : Go x wd Z EL R Q T pc ls (.ref b :: .ref a :: st) := w.acmpNe hd ht rfl rfl (fun q => K1 fun e => q (congrArg _ e)) (fun q => K2 (Value.ref.inj q))
theorem W.nullT (w : W x wd l Z EL R own code mx ret nm T h k n sf) {o : Int} (hd : Dc code pc (.ifnull o) 3 pc') (ht : Tg pc o pcT) (K : Go x wd Z EL R Q T pcT ls st) : Go x wd Z EL R Q T pc ls (.null :: st) := by
  obtain ⟨hd, rfl⟩ := hd
  exact w.go (fun A hx hb t hr => XS.ifnullYes A hx rfl (pc0 := pc) (pc' := pcT) rfl (Jvm.hb hb hd) rfl ht.1 ht.2 hr) K
theorem W.nullF (w : W x wd l Z EL R own code mx ret nm T h k n sf) {o : Int} {a : Addr} (hd : Dc code pc (.ifnull o) 3 pc') (K : Go x wd Z EL R Q T pc' ls st) : Go x wd Z EL R Q T pc ls (.ref a :: st) := by
  obtain ⟨hd, rfl⟩ := hd
  exact w.go (fun A hx hb t hr => XS.ifnullNo A hx rfl (Jvm.hb hb hd) rfl hr) K
theorem W.nonnullT (w : W x wd l Z EL R own code mx ret nm T h k n sf) {o : Int} {a : Addr} (hd : Dc code pc (.ifnonnull o) 3 pc') (ht : Tg pc o pcT) (K : Go x wd Z EL R Q T pcT ls st) : Go x wd Z EL R Q T pc ls (.ref a :: st) := by
  obtain ⟨hd, rfl⟩ := hd
  exact w.go (fun A hx hb t hr => XT.ifnonnullYes A hx rfl (pc0 := pc) (pc' := pcT) rfl (Jvm.hb hb hd) rfl ht.1 ht.2 hr) K
theorem W.nonnullF (w : W x wd l Z EL R own code mx ret nm T h k n sf) {o : Int} (hd : Dc code pc (.ifnonnull o) 3 pc') (K : Go x wd Z EL R Q T pc' ls st) : Go x wd Z EL R Q T pc ls (.null :: st) := by
  obtain ⟨hd, rfl⟩ := hd
  exact w.go (fun A hx hb t hr => XT.ifnonnullNo A hx rfl (Jvm.hb hb hd) rfl hr) K
theorem W.ldcI (w : W x wd l Z EL R own code mx ret nm T h k n sf) {i : Nat} {v : Int32} (hd : Dc code pc (.ldc i) 2 pc') (wc : (Jvm.Cond.constant own i v).before a0 Z = true) (K : Go x wd Z EL R Q T pc' ls (.int v :: st)) : Go x wd Z EL R Q T pc ls st := by
  obtain ⟨hd, rfl⟩ := hd
  obtain ⟨hx, hb, hm, hr, hn, hl, e0, E, c1, c2, hs, hEL, L, vm0, N, g, X, S, hZ, ho, hC⟩ := w
  obtain ⟨s₂, o, a1, r⟩ := K
  exact ⟨s₂, o, X.ldcI hx ho (mv (s := x.s.setVm vm0) hZ wc) rfl (Jvm.hb hb hd) a1, r⟩
theorem W.ldcWI (w : W x wd l Z EL R own code mx ret nm T h k n sf) {i : Nat} {v : Int32} (hd : Dc code pc (.ldc_w i) 3 pc') (wc : (Jvm.Cond.constant own i v).before a0 Z = true) (K : Go x wd Z EL R Q T pc' ls (.int v :: st)) : Go x wd Z EL R Q T pc ls st := by
  obtain ⟨hd, rfl⟩ := hd
  obtain ⟨hx, hb, hm, hr, hn, hl, e0, E, c1, c2, hs, hEL, L, vm0, N, g, X, S, hZ, ho, hC⟩ := w
  obtain ⟨s₂, o, a1, r⟩ := K
  exact ⟨s₂, o, X.ldcWI hx ho (mv (s := x.s.setVm vm0) hZ wc) rfl (Jvm.hb hb hd) a1, r⟩
theorem W.getS (w : W x wd l Z EL R own code mx ret nm T h k n sf) {i : Nat} {O f d : String} {v : Value} (hd : Dc code pc (.getstatic i) 3 pc') (wl : (Jvm.Cond.fieldLink own i O f d).before a0 Z = true) (F : Sta Z Z.heap O f d v) (K : ∀ T', W x wd l Z EL R own code mx ret nm T' h k n sf → Go x wd Z EL R Q T' pc' ls (v :: st)) : Go x wd Z EL R Q T pc ls st := by
  obtain ⟨hd, rfl⟩ := hd
  exact w.goT (fun s0 L X hx hZ ho hb hm e0 => RoadKit.getS (host := "") X hx hZ ho wl Via.refl e0 (w.sta F) (g := mkF x.m pc ls st) rfl (Jvm.hb hb hd)) K
theorem W.getF (w : W x wd l Z EL R own code mx ret nm T h k n sf) {i : Nat} {a : Addr} {O f d : String} {v : Value} (hd : Dc code pc (.getfield i) 3 pc') (wl : (Jvm.Cond.fieldLink own i O f d).before a0 Z = true) (F : Fld Z h a O f d v) (K : ∀ T', W x wd l Z EL R own code mx ret nm T' h k n sf → Go x wd Z EL R Q T' pc' ls (v :: st)) : Go x wd Z EL R Q T pc ls (.ref a :: st) := by
  obtain ⟨hd, rfl⟩ := hd
  exact w.goT (fun s0 L X hx hZ ho hb hm e0 => RoadKit.getF (host := "") X hx hZ ho (Or.inl wl) Via.refl e0 F (g := mkF x.m pc ls (.ref a :: st)) rfl rfl (Jvm.hb hb hd)) K
theorem W.cast (w : W x wd l Z EL R own code mx ret nm T h k n sf) {i : Nat} {a : Addr} {C : String} (hd : Dc code pc (.checkcast i) 3 pc') (wl : (Jvm.Cond.classLink own i C).before a0 Z = true) (F : Ins Z h a C true) (K : ∀ T', W x wd l Z EL R own code mx ret nm T' h k n sf → Go x wd Z EL R Q T' pc' ls (.ref a :: st)) : Go x wd Z EL R Q T pc ls (.ref a :: st) := by
  obtain ⟨hd, rfl⟩ := hd
  exact w.goT (fun s0 L X hx hZ ho hb hm e0 => castY X hx hZ ho wl e0 F (g := mkF x.m pc ls (.ref a :: st)) rfl rfl (Jvm.hb hb hd)) K
theorem W.instY (w : W x wd l Z EL R own code mx ret nm T h k n sf) {i : Nat} {a : Addr} {C : String} (hd : Dc code pc (.instanceof i) 3 pc') (wl : (Jvm.Cond.classLink own i C).before a0 Z = true) (F : Ins Z h a C true) (K : ∀ T', W x wd l Z EL R own code mx ret nm T' h k n sf → Go x wd Z EL R Q T' pc' ls (.int 1 :: st)) : Go x wd Z EL R Q T pc ls (.ref a :: st) := by
  obtain ⟨hd, rfl⟩ := hd
  exact w.goT (fun s0 L X hx hZ ho hb hm e0 => RoadKit.instY X hx hZ ho wl e0 F (g := mkF x.m pc ls (.ref a :: st)) rfl rfl (Jvm.hb hb hd)) K
theorem W.initO (w : W x wd l Z EL R own code mx ret nm T h k n sf) {i : Nat} {a : Addr} (Wn : Nat) (hd : Dc code pc (.invokespecial i) 3 pc') (w1 : (Jvm.Cond.methodLink own i Lib.objectInit).before a0 Z = true) (w2 : (Jvm.Cond.instanceMethod Lib.objectInit).before a0 Z = true) (w3 : (Jvm.Cond.code Lib.objectInit ⟨#[0xb1]⟩ 1 none).before a0 Z = true) (hz : ls.size = mx) (hW : (st.map fun v => v.category).sum ≤ Wn) (hr : 1 ≤ R.frames ∧ Wn + 12 ≤ R.locals) (K : ∀ T', W x wd l Z EL R own code mx ret nm T' h k n sf → Go x wd Z EL R Q T' pc' ls st) : Go x wd Z EL R Q T pc ls (.ref a :: st) := by
  obtain ⟨hd, rfl⟩ := hd
  exact w.goT (fun s0 L X hx hZ ho hb hm e0 => RoadKit.initO X hx hZ ho w1 w2 w3 e0 (g := mkF x.m pc ls (.ref a :: st)) rfl (hz.trans hm.symm) rfl (Jvm.hb hb hd) hr.1 (W := Wn) (by show 2 * 0 + _ ≤ _; omega) hr.2) K
theorem W.alen (w : W x wd l Z EL R own code mx ret nm T h k n sf) {a : Addr} {cl : Cell} {ty : FieldType} (v : Int32) (hd : Dc code pc .arraylength 1 pc') (A : Arr Z h a cl ty) (hv : cl.slots.size.toInt32 = v) (K : Go x wd Z EL R Q T pc' ls (.int v :: st)) : Go x wd Z EL R Q T pc ls (.ref a :: st) := by
  obtain ⟨hd, rfl⟩ := hd
  subst hv
  obtain ⟨hx, hb, hm, hr, hn, hl, e0, E, c1, c2, hs, hEL, L, vm0, N, g, X, S, hZ, ho, hC⟩ := w
  obtain ⟨s₂, o, a1, r⟩ := K
  exact ⟨s₂, o, X.arraylength hx (by rw [e0]; exact A.1) (State.isArrayOf_alike (T := x.s.setVm vm0) hZ.alike A.2.1) (g := mkF x.m pc ls (.ref a :: st)) rfl rfl (Jvm.hb hb hd) _ a1, r⟩
theorem W.iaload (w : W x wd l Z EL R own code mx ret nm T h k n sf) {a : Addr} {cl : Cell} {j : Int32} {v : Value} (hd : Dc code pc .iaload 1 pc') (A : Arr Z h a cl .int) (hj : ¬ (j < 0 ∨ cl.slots.size ≤ j.toNatClampNeg)) (hv : cl.slots[j.toNatClampNeg]? = some v) (K : Go x wd Z EL R Q T pc' ls (v :: st)) : Go x wd Z EL R Q T pc ls (.int j :: .ref a :: st) := by
  obtain ⟨hd, rfl⟩ := hd
  obtain ⟨hx, hb, hm, hr, hn, hl, e0, E, c1, c2, hs, hEL, L, vm0, N, g, X, S, hZ, ho, hC⟩ := w
  obtain ⟨s₂, o, a1, r⟩ := K
  exact ⟨s₂, o, X.iaload hx (by rw [e0]; exact A.1) (State.isArrayOf_alike (T := x.s.setVm vm0) hZ.alike A.2.1) A.2.2 hj hv (g := mkF x.m pc ls (.int j :: .ref a :: st)) rfl rfl (Jvm.hb hb hd) _ a1, r⟩
theorem W.caload (w : W x wd l Z EL R own code mx ret nm T h k n sf) {a : Addr} {cl : Cell} {j : Int32} {v : Value} (hd : Dc code pc .caload 1 pc') (A : Arr Z h a cl .char) (hj : ¬ (j < 0 ∨ cl.slots.size ≤ j.toNatClampNeg)) (hv : cl.slots[j.toNatClampNeg]? = some v) (K : Go x wd Z EL R Q T pc' ls (v :: st)) : Go x wd Z EL R Q T pc ls (.int j :: .ref a :: st) := by
  obtain ⟨hd, rfl⟩ := hd
  obtain ⟨hx, hb, hm, hr, hn, hl, e0, E, c1, c2, hs, hEL, L, vm0, N, g, X, S, hZ, ho, hC⟩ := w
  obtain ⟨s₂, o, a1, r⟩ := K
  exact ⟨s₂, o, X.caload hx (by rw [e0]; exact A.1) (State.isArrayOf_alike (T := x.s.setVm vm0) hZ.alike A.2.1) A.2.2 hj hv (g := mkF x.m pc ls (.int j :: .ref a :: st)) rfl rfl (Jvm.hb hb hd) _ a1, r⟩
theorem W.baload (w : W x wd l Z EL R own code mx ret nm T h k n sf) {a : Addr} {cl : Cell} {j : Int32} {v : Value} (hd : Dc code pc .baload 1 pc') (A : Arr Z h a cl .byte) (hj : ¬ (j < 0 ∨ cl.slots.size ≤ j.toNatClampNeg)) (hv : cl.slots[j.toNatClampNeg]? = some v) (K : Go x wd Z EL R Q T pc' ls (v :: st)) : Go x wd Z EL R Q T pc ls (.int j :: .ref a :: st) := by
  obtain ⟨hd, rfl⟩ := hd
  obtain ⟨hx, hb, hm, hr, hn, hl, e0, E, c1, c2, hs, hEL, L, vm0, N, g, X, S, hZ, ho, hC⟩ := w
  obtain ⟨s₂, o, a1, r⟩ := K
  exact ⟨s₂, o, X.baloadBytes hx (by rw [e0]; exact A.1) (State.isArrayOf_alike (T := x.s.setVm vm0) hZ.alike A.2.1) A.2.2 hj hv (g := mkF x.m pc ls (.int j :: .ref a :: st)) rfl rfl (Jvm.hb hb hd) _ a1, r⟩
theorem W.laload (w : W x wd l Z EL R own code mx ret nm T h k n sf) {a : Addr} {cl : Cell} {j : Int32} {v : Value} (hd : Dc code pc .laload 1 pc') (A : Arr Z h a cl .long) (hj : ¬ (j < 0 ∨ cl.slots.size ≤ j.toNatClampNeg)) (hv : cl.slots[j.toNatClampNeg]? = some v) (K : Go x wd Z EL R Q T pc' ls (v :: st)) : Go x wd Z EL R Q T pc ls (.int j :: .ref a :: st) := by
  obtain ⟨hd, rfl⟩ := hd
  obtain ⟨hx, hb, hm, hr, hn, hl, e0, E, c1, c2, hs, hEL, L, vm0, N, g, X, S, hZ, ho, hC⟩ := w
  obtain ⟨s₂, o, a1, r⟩ := K
  exact ⟨s₂, o, X.laload hx (by rw [e0]; exact A.1) (State.isArrayOf_alike (T := x.s.setVm vm0) hZ.alike A.2.1) A.2.2 hj hv (g := mkF x.m pc ls (.int j :: .ref a :: st)) rfl rfl (Jvm.hb hb hd) _ a1, r⟩
theorem W.aaload (w : W x wd l Z EL R own code mx ret nm T h k n sf) {a : Addr} {cl : Cell} {j : Int32} {v : Value} {ty : FieldType} (hd : Dc code pc .aaload 1 pc') (A : Arr Z h a cl ty) (hty : ty.isReference = true) (hj : ¬ (j < 0 ∨ cl.slots.size ≤ j.toNatClampNeg)) (hv : cl.slots[j.toNatClampNeg]? = some v) (K : Go x wd Z EL R Q T pc' ls (v :: st)) : Go x wd Z EL R Q T pc ls (.int j :: .ref a :: st) := by
  obtain ⟨hd, rfl⟩ := hd
  obtain ⟨hx, hb, hm, hr, hn, hl, e0, E, c1, c2, hs, hEL, L, vm0, N, g, X, S, hZ, ho, hC⟩ := w
  obtain ⟨s₂, o, a1, r⟩ := K
  exact ⟨s₂, o, X.aaload hx (by rw [e0]; exact A.1) (State.isArrayOf_alike (T := x.s.setVm vm0) hZ.alike A.2.1) hty A.2.2 hj hv (g := mkF x.m pc ls (.int j :: .ref a :: st)) rfl rfl (Jvm.hb hb hd) _ a1, r⟩
theorem W.new (w : W x wd l Z EL R own code mx ret nm T h k n sf) {i nf : Nat} {C : String} (hd : Dc code pc (.new i) 3 pc') (w1 : (Jvm.Cond.classLink own i C).before a0 Z = true) (w2 : (Jvm.Cond.instantiable C nf).before a0 Z = true) (w3 : (Jvm.Cond.initialized C).before a0 Z = true) (hr : k + 1 ≤ R.cells ∧ n + nf ≤ R.slots) (K : ∀ (a : Addr) T' h', a = h.size → W x wd l Z EL R own code mx ret nm T' h' (k + 1) (n + nf) (a :: sf) → Ext h h' → Exa Z h' a C → (∀ {O f d : String} {ty : FieldType}, Laid Z a0 C O f d → parseFieldDescriptor d = some ty → Fld Z h' a O f d (defaultValue ty)) → Go x wd Z EL R Q T' (pc') ls (.ref a :: st)) : Go x wd Z EL R Q T pc ls st := by
  obtain ⟨hd, rfl⟩ := hd
  refine w.goN (P := fun h' => Exa Z h' h.size C ∧ (∀ {O f d : String} {ty : FieldType}, Laid Z a0 C O f d → parseFieldDescriptor d = some ty → Fld Z h' h.size O f d (defaultValue ty))) hr.1 hr.2 (fun s0 L X hx hZ ho hb hm e0 => ?_) (fun T' h' w' E P => K h.size T' h' rfl w' E P.1 P.2)
  obtain ⟨T', h', X', e', E', A, D, -, stp⟩ := newO X hx hZ ho w1 w2 w3 e0 (g := mkF x.m pc ls st) rfl (Jvm.hb hb hd) hr.1 hr.2
  exact ⟨T', h', X', e', E', A.lt, ⟨A, D⟩, stp⟩
theorem W.newP (w : W x wd l Z EL R own code mx ret nm T h k n sf) {aty : ArrayType} {z : Int32} (cap : Nat) (ad : String) (hd : Dc code pc (.newarray aty) 2 pc') (w1 : (Jvm.Cond.arrayClass (newarray.typeOf aty)).before a0 Z = true) (hz : ¬ z < 0) (hcap : z.toNatClampNeg ≤ cap) (hbig : cap * 8 ≤ 536870912) (had : "[" ++ (newarray.typeOf aty).toString = ad) (hr : k + 1 ≤ R.cells ∧ n + cap ≤ R.slots) (K : ∀ (a : Addr) T' h' kc, a = h.size → W x wd l Z EL R own code mx ret nm T' h' (k + 1) (n + cap) (a :: sf) → Ext h h' → Arv Z h' a kc (newarray.typeOf aty) z [] (defaultValue (newarray.typeOf aty)) → Exa Z h' a ad → Go x wd Z EL R Q T' (pc') ls (.ref a :: st)) : Go x wd Z EL R Q T pc ls (.int z :: st) := by
  obtain ⟨hd, rfl⟩ := hd
  refine w.goN (P := fun h' => ∃ kc, Arv Z h' h.size kc (newarray.typeOf aty) z [] (defaultValue (newarray.typeOf aty)) ∧ Exa Z h' h.size ad) hr.1 hr.2 (fun s0 L X hx hZ ho hb hm e0 => ?_) (fun T' h' w' E ⟨kc, P1, P2⟩ => K h.size T' h' kc rfl w' E P1 P2)
  obtain ⟨T', h', cA, X', e', E', A, EA, stp⟩ := newPE X hx hZ w1 e0 (g := mkF x.m pc ls (.int z :: st)) rfl (Jvm.hb hb hd) rfl hz hcap hbig hr.1 hr.2 had
  exact ⟨T', h', X', e', E', EA.lt, ⟨cA, Arv.new A hz, EA⟩, stp⟩
theorem W.newR (w : W x wd l Z EL R own code mx ret nm T h k n sf) {i : Nat} {C : String} {z : Int32} (cap : Nat) (ad : String) (hd : Dc code pc (.anewarray i) 3 pc') (w1 : (Jvm.Cond.classLink own i C).before a0 Z = true) (w2 : (Jvm.Cond.arrayOver (.object C)).before a0 Z = true) (hz : ¬ z < 0) (hcap : z.toNatClampNeg ≤ cap) (hbig : cap * 8 ≤ 536870912) (had : "[" ++ (FieldType.object C).toString = ad) (hr : k + 1 ≤ R.cells ∧ n + cap ≤ R.slots) (K : ∀ (a : Addr) T' h' kc, a = h.size → W x wd l Z EL R own code mx ret nm T' h' (k + 1) (n + cap) (a :: sf) → Ext h h' → Arv Z h' a kc (.object C) z [] .null → Exa Z h' a ad → Ovr Z kc C → Go x wd Z EL R Q T' (pc') ls (.ref a :: st)) : Go x wd Z EL R Q T pc ls (.int z :: st) := by
  obtain ⟨hd, rfl⟩ := hd
  refine w.goN (P := fun h' => ∃ kc, Arv Z h' h.size kc (.object C) z [] .null ∧ Exa Z h' h.size ad ∧ Ovr Z kc C) hr.1 hr.2 (fun s0 L X hx hZ ho hb hm e0 => ?_) (fun T' h' w' E ⟨kc, P1, P2, P3⟩ => K h.size T' h' kc rfl w' E P1 P2 P3)
  obtain ⟨T', h', cA, X', e', E', A, EA, O, stp⟩ := newRE X hx hZ ho w1 w2 e0 (g := mkF x.m pc ls (.int z :: st)) rfl (Jvm.hb hb hd) rfl hz hcap hbig hr.1 hr.2 had
  exact ⟨T', h', X', e', E', EA.lt, ⟨cA, Arv.new A hz, EA, O⟩, stp⟩
theorem W.clone (w : W x wd l Z EL R own code mx ret nm T h k n sf) {i : Nat} {a : Addr} {ad : String} {kc : ClassId} {ty : FieldType} {z : Int32} {vs : List Value} {dv : Value} (Wn cap : Nat) (hd : Dc code pc (.invokevirtual i) 3 pc') (w1 : (Jvm.Cond.methodLink own i ⟨ad, "clone", "()Ljava/lang/Object;"⟩).before a0 Z = true) (w2 : (Jvm.Cond.sameMethod ad "java/lang/Object" "clone" "()Ljava/lang/Object;").before a0 Z = true) (w3 : (Jvm.Cond.native ⟨"java/lang/Object", "clone", "()Ljava/lang/Object;"⟩).before a0 Z = true) (w4 : (Jvm.Cond.instanceMethod ⟨"java/lang/Object", "clone", "()Ljava/lang/Object;"⟩).before a0 Z = true) (w5 : (Jvm.Cond.selects ad ⟨ad, "clone", "()Ljava/lang/Object;"⟩ ⟨"java/lang/Object", "clone", "()Ljava/lang/Object;"⟩).before a0 Z = true) (w6 : (Jvm.Cond.castable ad "java/lang/Cloneable").before a0 Z = true) (A : Arv Z h a kc ty z vs dv) (E : Exa Z h a ad) (hz : ls.size = mx) (hW : (st.map fun v => v.category).sum ≤ Wn) (hcap : z.toNatClampNeg ≤ cap) (hr : 1 ≤ R.frames ∧ Wn + 14 ≤ R.locals ∧ k + 1 ≤ R.cells ∧ n + cap ≤ R.slots) (K : ∀ (b : Addr) T' h', b = h.size → W x wd l Z EL R own code mx ret nm T' h' (k + 1) (n + cap) (b :: sf) → Ext h h' → Arv Z h' b kc ty z vs dv → Exa Z h' b ad → Go x wd Z EL R Q T' (pc') ls (.ref b :: st)) : Go x wd Z EL R Q T pc ls (.ref a :: st) := by
  obtain ⟨hd, rfl⟩ := hd
  refine w.goN (P := fun h' => Arv Z h' h.size kc ty z vs dv ∧ Exa Z h' h.size ad) hr.2.2.1 hr.2.2.2 (fun s0 L X hx hZ ho hb hm e0 => ?_) (fun T' h' w' E P => K h.size T' h' rfl w' E P.1 P.2)
  obtain ⟨T', h', X', e', E', A', EA, stp⟩ := cloneH X hx hZ ho w1 w2 w3 w4 w5 w6 e0 A.arh E (g := mkF x.m pc ls (.ref a :: st)) rfl (hz.trans hm.symm) rfl (Jvm.hb hb hd) hr.1 (W := Wn) (by show 2 * 0 + _ ≤ _; omega) hr.2.1 hcap hr.2.2.1 hr.2.2.2
  exact ⟨T', h', X', e', E', EA.lt, ⟨A', EA⟩, stp⟩
theorem W.putF (w : W x wd l Z EL R own code mx ret nm T h k n sf) {i kk : Nat} {a : Addr} {O f d C : String} {v old : Value} {ty : FieldType} (hd : Dc code pc (.putfield i) 3 pc') (wl : (Jvm.Cond.fieldLink own i O f d).before a0 Z = true) (F : Fld Z h a O f d old) (E : Exa Z h a C) (La : (Jvm.Cond.lays C O f d).before a0 Z = true ∨ ((Jvm.Cond.laysFinal C O f d).before a0 Z = true ∧ own = O ∧ nm = "<init>")) (wi : (Jvm.Cond.instantiable C kk).before a0 Z = true) (hty : parseFieldDescriptor d = some ty) (hn : narrow ty v = v) (hf : fits ty v = true) (ha : a ∈ sf) (K : ∀ T' h', W x wd l Z EL R own code mx ret nm T' h' k n sf → Wr h h' a (Jvm.RoadKit.slotOf Z O f d) v → Go x wd Z EL R Q T' pc' ls st) : Go x wd Z EL R Q T pc ls (v :: .ref a :: st) := by
  obtain ⟨hd, rfl⟩ := hd
  exact w.goW ha (fun s0 L X hx hZ ho hb hnm e0 => RoadKit.putF X hx hZ ho (host := "") (Or.inl wl) Via.refl e0 F E (La.imp id fun q => ⟨q.1, q.2.1, hnm.trans q.2.2⟩) wi hty hn hf (g := mkF x.m pc ls (v :: .ref a :: st)) rfl rfl (Jvm.hb hb hd)) K
theorem W.stC (w : W x wd l Z EL R own code mx ret nm T h k n sf) {a : Addr} {kc : ClassId} {z j v : Int32} {vs : List Value} {dv : Value} (q : Nat) (vs' : List Value) (hd : Dc code pc .castore 1 pc') (A : Arv Z h a kc .char z vs dv) (hj : j.toNatClampNeg = q ∧ ¬ j < 0) (hz : q < z.toNatClampNeg) (hp : ∀ i, vs'.getD i dv = vs.getD i dv) (hq : q < vs'.length) (hf : fits .char (.int (nar .char v)) = true) (ha : a ∈ sf) (K : ∀ T' h', W x wd l Z EL R own code mx ret nm T' h' k n sf → Wr h h' a q (.int (nar .char v)) → Arv Z h' a kc .char z (vs'.set q (.int (nar .char v))) dv → Go x wd Z EL R Q T' pc' ls st) : Go x wd Z EL R Q T pc ls (.int v :: .int j :: .ref a :: st) := by
  obtain ⟨hd, rfl⟩ := hd
  obtain ⟨hj, h0⟩ := hj
  subst hj
  obtain ⟨cl, Ar, r1, S, r3, H, G⟩ := A.pad hp
  have hin : ¬ (j < 0 ∨ cl.slots.size ≤ j.toNatClampNeg) := by rw [S]; exact fun u => u.elim h0 fun u => absurd hz (Nat.not_lt.mpr u)
  refine w.goW ha (fun s0 L X hx hZ ho hb hnm e0 => RoadKit.stC X hx hZ e0 Ar hin (g := mkF x.m pc ls (.int v :: .int j :: .ref a :: st)) rfl rfl (Jvm.hb hb hd)) (fun T' h' w' Wr' => K T' h' w' Wr' (Arv.set Ar r1 S r3 H G hf Wr' _ rfl hq))
theorem W.stB (w : W x wd l Z EL R own code mx ret nm T h k n sf) {a : Addr} {kc : ClassId} {z j v : Int32} {vs : List Value} {dv : Value} (q : Nat) (vs' : List Value) (hd : Dc code pc .bastore 1 pc') (A : Arv Z h a kc .byte z vs dv) (hj : j.toNatClampNeg = q ∧ ¬ j < 0) (hz : q < z.toNatClampNeg) (hp : ∀ i, vs'.getD i dv = vs.getD i dv) (hq : q < vs'.length) (hf : fits .byte (.int (nar .byte v)) = true) (ha : a ∈ sf) (K : ∀ T' h', W x wd l Z EL R own code mx ret nm T' h' k n sf → Wr h h' a q (.int (nar .byte v)) → Arv Z h' a kc .byte z (vs'.set q (.int (nar .byte v))) dv → Go x wd Z EL R Q T' pc' ls st) : Go x wd Z EL R Q T pc ls (.int v :: .int j :: .ref a :: st) := by
  obtain ⟨hd, rfl⟩ := hd
  obtain ⟨hj, h0⟩ := hj
  subst hj
  obtain ⟨cl, Ar, r1, S, r3, H, G⟩ := A.pad hp
  have hin : ¬ (j < 0 ∨ cl.slots.size ≤ j.toNatClampNeg) := by rw [S]; exact fun u => u.elim h0 fun u => absurd hz (Nat.not_lt.mpr u)
  refine w.goW ha (fun s0 L X hx hZ ho hb hnm e0 => RoadKit.stB X hx hZ e0 Ar hin (g := mkF x.m pc ls (.int v :: .int j :: .ref a :: st)) rfl rfl (Jvm.hb hb hd)) (fun T' h' w' Wr' => K T' h' w' Wr' (Arv.set Ar r1 S r3 H G hf Wr' _ rfl hq))
theorem W.stI (w : W x wd l Z EL R own code mx ret nm T h k n sf) {a : Addr} {kc : ClassId} {z j v : Int32} {vs : List Value} {dv : Value} (q : Nat) (vs' : List Value) (hd : Dc code pc .iastore 1 pc') (A : Arv Z h a kc .int z vs dv) (hj : j.toNatClampNeg = q ∧ ¬ j < 0) (hz : q < z.toNatClampNeg) (hp : ∀ i, vs'.getD i dv = vs.getD i dv) (hq : q < vs'.length) (hf : fits .int (.int v) = true) (ha : a ∈ sf) (K : ∀ T' h', W x wd l Z EL R own code mx ret nm T' h' k n sf → Wr h h' a q (.int v) → Arv Z h' a kc .int z (vs'.set q (.int v)) dv → Go x wd Z EL R Q T' pc' ls st) : Go x wd Z EL R Q T pc ls (.int v :: .int j :: .ref a :: st) := by
  obtain ⟨hd, rfl⟩ := hd
  obtain ⟨hj, h0⟩ := hj
  subst hj
  obtain ⟨cl, Ar, r1, S, r3, H, G⟩ := A.pad hp
  have hin : ¬ (j < 0 ∨ cl.slots.size ≤ j.toNatClampNeg) := by rw [S]; exact fun u => u.elim h0 fun u => absurd hz (Nat.not_lt.mpr u)
  refine w.goW ha (fun s0 L X hx hZ ho hb hnm e0 => RoadKit.stI X hx hZ e0 Ar hin (g := mkF x.m pc ls (.int v :: .int j :: .ref a :: st)) rfl rfl (Jvm.hb hb hd)) (fun T' h' w' Wr' => K T' h' w' Wr' (Arv.set Ar r1 S r3 H G hf Wr' _ rfl hq))
theorem W.stR (w : W x wd l Z EL R own code mx ret nm T h k n sf) {a b : Addr} {kc : ClassId} {z j : Int32} {C : String} {vs : List Value} (q : Nat) (vs' : List Value) (hd : Dc code pc .aastore 1 pc') (A : Arv Z h a kc (.object C) z vs .null) (O : Ovr Z kc C) (I : Ins Z h b C true) (hj : j.toNatClampNeg = q ∧ ¬ j < 0) (hz : q < z.toNatClampNeg) (hp : ∀ i, vs'.getD i .null = vs.getD i .null) (hq : q < vs'.length) (ha : a ∈ sf) (K : ∀ T' h', W x wd l Z EL R own code mx ret nm T' h' k n sf → Wr h h' a q (.ref b) → Arv Z h' a kc (.object C) z (vs'.set q (.ref b)) .null → Go x wd Z EL R Q T' pc' ls st) : Go x wd Z EL R Q T pc ls (.ref b :: .int j :: .ref a :: st) := by
  obtain ⟨hd, rfl⟩ := hd
  obtain ⟨hj, h0⟩ := hj
  subst hj
  obtain ⟨cl, Ar, r1, S, r3, H, G⟩ := A.pad hp
  have hin : ¬ (j < 0 ∨ cl.slots.size ≤ j.toNatClampNeg) := by rw [S]; exact fun u => u.elim h0 fun u => absurd hz (Nat.not_lt.mpr u)
  refine w.goW ha (fun s0 L X hx hZ ho hb hnm e0 => RoadKit.stR X hx hZ e0 Ar hin rfl (Sto.ofV Ar r1 O I) (g := mkF x.m pc ls (.ref b :: .int j :: .ref a :: st)) rfl rfl (Jvm.hb hb hd)) (fun T' h' w' Wr' => K T' h' w' Wr' (Arv.set Ar r1 S r3 H G rfl Wr' _ rfl hq))
theorem W.retN (w : W x wd l Z EL R own code mx ret nm T h k n sf) {t : FieldType} {v : Int32} (hd : Dc code pc .ireturn 1 pc') (hr : ret = some t) (ht : t = .boolean ∨ t = .byte ∨ t = .char ∨ t = .short) (hQ : Q (some (.int (nar t v))) h) : Go x wd Z EL R Q T pc ls (.int v :: st) := by
  obtain ⟨hd, rfl⟩ := hd
  exact w.done (v := some (.int (nar t v))) (fun q => by rw [hr] at q; cases q) hQ fun s0 L X hx hb hret fs hl => RoadKit.retN X hx (hret.trans hr) ht (Jvm.hb hb hd) hl
theorem W.retI (w : W x wd l Z EL R own code mx ret nm T h k n sf) {v : Int32} (hd : Dc code pc .ireturn 1 pc') (hr : ret = some .int) (hQ : Q (some (.int v)) h) : Go x wd Z EL R Q T pc ls (.int v :: st) := by
  obtain ⟨hd, rfl⟩ := hd
  exact w.done (v := some (.int v)) (fun q => by rw [hr] at q; cases q) hQ fun s0 L X hx hb hret fs hl => retOut X hx (hret.trans hr) rfl (Or.inl ⟨rfl, Or.inl rfl, v, rfl⟩) (Jvm.hb hb hd) hl
theorem W.retA (w : W x wd l Z EL R own code mx ret nm T h k n sf) {t : FieldType} {v : Value} (hd : Dc code pc .areturn 1 pc') (hr : ret = some t) (ht : t.isReference = true) (hn : narrow t v = v) (hv : v.isRef = true) (hQ : Q (some v) h) : Go x wd Z EL R Q T pc ls (v :: st) := by
  obtain ⟨hd, rfl⟩ := hd
  exact w.done (v := some v) (fun q => by rw [hr] at q; cases q) hQ fun s0 L X hx hb hret fs hl => retOut X hx (hret.trans hr) hn (Or.inr (Or.inr (Or.inr (Or.inr ⟨rfl, ht, hv⟩)))) (Jvm.hb hb hd) hl
theorem W.retV (w : W x wd l Z EL R own code mx ret nm T h k n sf) (hd : Dc code pc .return_ 1 pc') (hr : ret = none) (hQ : Q none h) : Go x wd Z EL R Q T pc ls [] := by
  obtain ⟨hd, rfl⟩ := hd
  exact w.done (v := none) (fun _ => rfl) hQ fun s0 L X hx hb hret fs hl => X.returnOut hx (hret.trans hr) (Jvm.hb hb hd) hl
theorem W.callS (w : W x wd l Z EL R own code mx ret nm T h k n sf) {y : MethodName} {bytes : ByteArray} {maxL : Nat} {rt : Option FieldType} {rm : Room} {sf0 : List Addr} {Q' : Option Value → Heap → Prop} {i : Nat} {argsL rest : List Value}  (Wn : Nat) (hd : Dc code pc (.invokestatic i) 3 pc') (w1 : (Jvm.Cond.methodLink own i y).before a0 Z = true) (w2 : (Jvm.Cond.static y).before a0 Z = true) (w3 : (Jvm.Cond.initialized y.cls).before a0 Z = true) (w4 : (Jvm.Cond.code y bytes maxL rt).before a0 Z = true) (hy : y.cls ≠ "java/lang/invoke/MethodHandle" ∧ y.cls ≠ "java/lang/invoke/VarHandle") (C : Ct wd l Z EL y bytes maxL rt [] rm sf0 argsL.toArray h Q') (hlen : ∀ sig, parseMethodDescriptor y.desc = some sig → argsL.length = sig.parameters.length) (hz : ls.size = mx) (hst : st = argsL.reverse ++ rest) (hW : (rest.map fun v => v.category).sum ≤ Wn) (hr : rm.frames + 1 ≤ R.frames ∧ Wn + (maxL + 11) + rm.locals ≤ R.locals ∧ k + rm.cells ≤ R.cells ∧ n + rm.slots ≤ R.slots) (hsub : ∀ y ∈ sf0, y ∈ sf) (K : ∀ T' h' v, W x wd l Z EL R own code mx ret nm T' h' (k + rm.cells) (n + rm.slots) sf → h.size ≤ h'.size → Q' v h' → Go x wd Z EL R Q T' pc' ls (v.toList ++ rest)) : Go x wd Z EL R Q T pc ls st := by
  obtain ⟨hd, rfl⟩ := hd
  subst hst
  obtain ⟨hx, hb, hm, hret, hn, hl, e0, E, c1, c2, hs, hEL, L, vm0, N, g, X, S, hZ, ho, hC⟩ := w
  have hWW : 2 * (mkF x.m pc ls (argsL.reverse ++ rest)).monitorRoom + (rest.map fun v => v.category).sum ≤ Wn := by show 2 * 0 + _ ≤ _; omega
  cases wd with
  | false =>
    have eq := g rfl
    subst eq
    obtain ⟨v, _, ⟨T1, L1, k1, n1⟩, -, X1, ⟨Lc, hQ, l1, y1, z1⟩, stp⟩ := Jvm.LawKit.callS X hx (y := y) ho (mvT hZ w1) (mvT hZ w2) (mvT hZ w3) (mvT hZ w4) hy (backN (Wn := Wn) C hZ w4 w3 hr.1 hr.2.1) (g := mkF x.m pc ls (argsL.reverse ++ rest)) rfl (hz.trans hm.symm) (argsL := argsL) (rest := rest) hlen rfl hWW (Jvm.hb hb hd) (fun _ _ => ⟨rfl, e0, hr.2.2.1, hr.2.2.2⟩)
    dsimp only [Pt.U, Pt.locs, Pt.cells, Pt.slots] at X1 l1 y1 z1 stp hQ
    subst l1 y1 z1
    obtain ⟨s₂, o, a1, r⟩ := K T1 T1.heap v ⟨hx, hb, hm, hret, hn, hl, rfl, hQ.2.2.1, hr.2.2.1, hr.2.2.2, fun y hy => ⟨(hs y hy).1, Nat.lt_of_lt_of_le (hs y hy).2 hQ.2.2.2⟩, hEL, _, _, Fr.app N hQ.2.1, fun _ => rfl, X1, (State.WarmedH.refl x.s).since _, hZ, ho, fun q => by cases q⟩ hQ.2.2.2 hQ.1
    exact ⟨s₂, o, stp _ a1, r⟩
  | true =>
    obtain ⟨v, _, ⟨T1, L1, k1, n1⟩, -, X1, hS1, hgr, ⟨Lc, hQ, l1, y1, z1, hCr⟩, stp⟩ := callSS X hx (y := y) ho (mvT (s := x.s.setVm vm0) hZ w1) (mvT (s := x.s.setVm vm0) hZ w2) (mvT (s := x.s.setVm vm0) hZ w3) (mvT (s := x.s.setVm vm0) hZ w4) hy (backW (s := x.s) (Wn := Wn) C hZ w4 w3 hr.1 hr.2.1 hEL (hC rfl).1.1 (fun y hy => ⟨(hs y (hsub y hy)).2, (hC rfl).2 y (hsub y hy)⟩)) (g := mkF x.m pc ls (argsL.reverse ++ rest)) rfl (hz.trans hm.symm) (argsL := argsL) (rest := rest) hlen rfl hWW (Jvm.hb hb hd) (fun _ _ => ⟨rfl, e0, hr.2.2.1, hr.2.2.2⟩)
    dsimp only [Pt.U, Pt.locs, Pt.cells, Pt.slots] at X1 l1 y1 z1 stp hQ hS1 hgr hCr
    subst l1 y1 z1
    rw [e0] at hgr
    obtain ⟨Xr, Sr, Zr, Or⟩ := rebS (s := x.s) (vm0 := vm0) S hgr X1 hS1 (Nat.le_refl _) hZ ho
    obtain ⟨s₂, o, a1, r⟩ := K T1 T1.heap v ⟨hx, hb, hm, hret, hn, hl, rfl, hQ.2.2.1, hr.2.2.1, hr.2.2.2, fun y hy => ⟨(hs y hy).1, Nat.lt_of_lt_of_le (hs y hy).2 hgr⟩, hEL, _, _, Fr.app N hQ.2.1, (fun q => by cases q), Xr, Sr, Zr, Or, fun _ => ⟨(hC rfl).1.trans hCr, fun y hy => hCr.safe (hs y hy).2 ((hC rfl).2 y hy)⟩⟩ hgr hQ.1
    exact ⟨s₂, o, stp.trans a1, r⟩
theorem W.callI (w : W x wd l Z EL R own code mx ret nm T h k n sf) {y : MethodName} {bytes : ByteArray} {maxL : Nat} {rm : Room} {sf0 : List Addr} {Q' : Option Value → Heap → Prop} {i : Nat} {argsL rest : List Value} {a : Addr} (Wn : Nat) (hd : Dc code pc (.invokespecial i) 3 pc') (hy1 : y.name = "<init>") (w1 : (Jvm.Cond.methodLink own i y).before a0 Z = true) (w2 : (Jvm.Cond.instanceMethod y).before a0 Z = true) (w3 : (Jvm.Cond.initialized y.cls).before a0 Z = true) (w4 : (Jvm.Cond.code y bytes maxL none).before a0 Z = true) (hy : y.cls ≠ "java/lang/invoke/MethodHandle" ∧ y.cls ≠ "java/lang/invoke/VarHandle") (C : Ct wd l Z EL y bytes maxL none [] rm sf0 (.ref a :: argsL).toArray h Q') (hlen : ∀ sig, parseMethodDescriptor y.desc = some sig → argsL.length = sig.parameters.length) (hz : ls.size = mx) (hst : st = argsL.reverse ++ .ref a :: rest) (hW : (rest.map fun v => v.category).sum ≤ Wn) (hr : rm.frames + 1 ≤ R.frames ∧ Wn + (maxL + 11) + rm.locals ≤ R.locals ∧ k + rm.cells ≤ R.cells ∧ n + rm.slots ≤ R.slots) (hsub : ∀ y ∈ sf0, y ∈ sf) (K : ∀ T' h' v, W x wd l Z EL R own code mx ret nm T' h' (k + rm.cells) (n + rm.slots) sf → h.size ≤ h'.size → Q' v h' → Go x wd Z EL R Q T' pc' ls (v.toList ++ rest)) : Go x wd Z EL R Q T pc ls st := by
  obtain ⟨hd, rfl⟩ := hd
  subst hst
  obtain ⟨hx, hb, hm, hret, hn, hl, e0, E, c1, c2, hs, hEL, L, vm0, N, g, X, S, hZ, ho, hC⟩ := w
  have hWW : 2 * (mkF x.m pc ls (argsL.reverse ++ .ref a :: rest)).monitorRoom + (rest.map fun v => v.category).sum ≤ Wn := by show 2 * 0 + _ ≤ _; omega
  cases wd with
  | false =>
    have eq := g rfl
    subst eq
    obtain ⟨v, _, ⟨T1, L1, k1, n1⟩, -, X1, ⟨Lc, hQ, l1, y1, z1⟩, stp⟩ := X.specialBack hx (y := y) hy1 ho (mvT hZ w1) (mvT hZ w2) (mvT hZ w4) hy (backN (Wn := Wn) C hZ w4 w3 hr.1 hr.2.1) (g := mkF x.m pc ls (argsL.reverse ++ .ref a :: rest)) rfl (hz.trans hm.symm) (Steps.refl _) (a := a) (argsL := argsL) (rest := rest) hlen rfl hWW (Jvm.hb hb hd) (fun _ _ => ⟨rfl, e0, hr.2.2.1, hr.2.2.2⟩)
    dsimp only [Pt.U, Pt.locs, Pt.cells, Pt.slots] at X1 l1 y1 z1 stp hQ
    subst l1 y1 z1
    obtain ⟨s₂, o, a1, r⟩ := K T1 T1.heap v ⟨hx, hb, hm, hret, hn, hl, rfl, hQ.2.2.1, hr.2.2.1, hr.2.2.2, fun y hy => ⟨(hs y hy).1, Nat.lt_of_lt_of_le (hs y hy).2 hQ.2.2.2⟩, hEL, _, _, Fr.app N hQ.2.1, fun _ => rfl, X1, (State.WarmedH.refl x.s).since _, hZ, ho, fun q => by cases q⟩ hQ.2.2.2 hQ.1
    exact ⟨s₂, o, stp.trans a1, r⟩
  | true =>
    obtain ⟨v, _, ⟨T1, L1, k1, n1⟩, -, X1, hS1, hgr, ⟨Lc, hQ, l1, y1, z1, hCr⟩, stp⟩ := X.specialBackS hx (y := y) hy1 ho (mvT (s := x.s.setVm vm0) hZ w1) (mvT (s := x.s.setVm vm0) hZ w2) (mvT (s := x.s.setVm vm0) hZ w4) hy (backW (s := x.s) (Wn := Wn) C hZ w4 w3 hr.1 hr.2.1 hEL (hC rfl).1.1 (fun y hy => ⟨(hs y (hsub y hy)).2, (hC rfl).2 y (hsub y hy)⟩)) (g := mkF x.m pc ls (argsL.reverse ++ .ref a :: rest)) rfl (hz.trans hm.symm) (Steps.refl _) (a := a) (argsL := argsL) (rest := rest) hlen rfl hWW (Jvm.hb hb hd) (fun _ _ => ⟨rfl, e0, hr.2.2.1, hr.2.2.2⟩)
    dsimp only [Pt.U, Pt.locs, Pt.cells, Pt.slots] at X1 l1 y1 z1 stp hQ hS1 hgr hCr
    subst l1 y1 z1
    rw [e0] at hgr
    obtain ⟨Xr, Sr, Zr, Or⟩ := rebS (s := x.s) (vm0 := vm0) S hgr X1 hS1 (Nat.le_refl _) hZ ho
    obtain ⟨s₂, o, a1, r⟩ := K T1 T1.heap v ⟨hx, hb, hm, hret, hn, hl, rfl, hQ.2.2.1, hr.2.2.1, hr.2.2.2, fun y hy => ⟨(hs y hy).1, Nat.lt_of_lt_of_le (hs y hy).2 hgr⟩, hEL, _, _, Fr.app N hQ.2.1, (fun q => by cases q), Xr, Sr, Zr, Or, fun _ => ⟨(hC rfl).1.trans hCr, fun y hy => hCr.safe (hs y hy).2 ((hC rfl).2 y hy)⟩⟩ hgr hQ.1
    exact ⟨s₂, o, stp.trans a1, r⟩
theorem W.callV (w : W x wd l Z EL R own code mx ret nm T h k n sf) {y : MethodName} {bytes : ByteArray} {maxL : Nat} {rt : Option FieldType} {rm : Room} {sf0 : List Addr} {Q' : Option Value → Heap → Prop} {i : Nat} {argsL rest : List Value} {a : Addr} {Cl : String} (Wn : Nat) (hd : Dc code pc (.invokevirtual i) 3 pc') (w1 : (Jvm.Cond.methodLink own i y).before a0 Z = true) (wd1 : (Jvm.Cond.declares y).before a0 Z = true) (ws : (Jvm.Cond.selects Cl y y).before a0 Z = true) (w2 : (Jvm.Cond.instanceMethod y).before a0 Z = true) (w3 : (Jvm.Cond.initialized y.cls).before a0 Z = true) (w4 : (Jvm.Cond.code y bytes maxL rt).before a0 Z = true) (hy : y.cls ≠ "java/lang/invoke/MethodHandle" ∧ y.cls ≠ "java/lang/invoke/VarHandle") (Ea : Exa Z h a Cl) (C : Ct wd l Z EL y bytes maxL rt [] rm sf0 (.ref a :: argsL).toArray h Q') (hlen : ∀ sig, parseMethodDescriptor y.desc = some sig → argsL.length = sig.parameters.length) (hz : ls.size = mx) (hst : st = argsL.reverse ++ .ref a :: rest) (hW : (rest.map fun v => v.category).sum ≤ Wn) (hr : rm.frames + 1 ≤ R.frames ∧ Wn + (maxL + 11) + rm.locals ≤ R.locals ∧ k + rm.cells ≤ R.cells ∧ n + rm.slots ≤ R.slots) (hsub : ∀ y ∈ sf0, y ∈ sf) (K : ∀ T' h' v, W x wd l Z EL R own code mx ret nm T' h' (k + rm.cells) (n + rm.slots) sf → h.size ≤ h'.size → Q' v h' → Go x wd Z EL R Q T' pc' ls (v.toList ++ rest)) : Go x wd Z EL R Q T pc ls st := by
  obtain ⟨hd, rfl⟩ := hd
  subst hst
  obtain ⟨hx, hb, hm, hret, hn, hl, e0, E, c1, c2, hs, hEL, L, vm0, N, g, X, S, hZ, ho, hC⟩ := w
  have hWW : 2 * (mkF x.m pc ls (argsL.reverse ++ .ref a :: rest)).monitorRoom + (rest.map fun v => v.category).sum ≤ Wn := by show 2 * 0 + _ ≤ _; omega
  obtain ⟨cB, kB, qa, qb, qc⟩ := isOf (s := x.s.setVm vm0) hZ e0 Ea
  cases wd with
  | false =>
    have eq := g rfl
    subst eq
    obtain ⟨v, _, ⟨T1, L1, k1, n1⟩, -, X1, ⟨Lc, hQ, l1, y1, z1⟩, stp⟩ := X.virtualBack hx (y := y) (z := y) ho (mvT hZ w1) (mvT hZ wd1) (notFace_of_selects (args := #[]) (mvT hZ ws)) (mvT hZ ws) (mvT hZ w2) hy (backN (Wn := Wn) C hZ w4 w3 hr.1 hr.2.1) qa qc (g := mkF x.m pc ls (argsL.reverse ++ .ref a :: rest)) rfl (hz.trans hm.symm) (Steps.refl _) (argsL := argsL) (rest := rest) hlen rfl hWW (Jvm.hb hb hd) (fun _ _ => ⟨rfl, e0, hr.2.2.1, hr.2.2.2⟩)
    dsimp only [Pt.U, Pt.locs, Pt.cells, Pt.slots] at X1 l1 y1 z1 stp hQ
    subst l1 y1 z1
    obtain ⟨s₂, o, a1, r⟩ := K T1 T1.heap v ⟨hx, hb, hm, hret, hn, hl, rfl, hQ.2.2.1, hr.2.2.1, hr.2.2.2, fun y hy => ⟨(hs y hy).1, Nat.lt_of_lt_of_le (hs y hy).2 hQ.2.2.2⟩, hEL, _, _, Fr.app N hQ.2.1, fun _ => rfl, X1, (State.WarmedH.refl x.s).since _, hZ, ho, fun q => by cases q⟩ hQ.2.2.2 hQ.1
    exact ⟨s₂, o, stp.trans a1, r⟩
  | true =>
    obtain ⟨v, _, ⟨T1, L1, k1, n1⟩, -, X1, hS1, hgr, ⟨Lc, hQ, l1, y1, z1, hCr⟩, stp⟩ := X.virtualBackS hx (y := y) (z := y) ho (mvT (s := x.s.setVm vm0) hZ w1) (mvT (s := x.s.setVm vm0) hZ wd1) (notFace_of_selects (args := #[]) (mvT (s := x.s.setVm vm0) hZ ws)) (mvT (s := x.s.setVm vm0) hZ ws) (mvT (s := x.s.setVm vm0) hZ w2) hy (backW (s := x.s) (Wn := Wn) C hZ w4 w3 hr.1 hr.2.1 hEL (hC rfl).1.1 (fun y hy => ⟨(hs y (hsub y hy)).2, (hC rfl).2 y (hsub y hy)⟩)) qa qc (g := mkF x.m pc ls (argsL.reverse ++ .ref a :: rest)) rfl (hz.trans hm.symm) (Steps.refl _) (argsL := argsL) (rest := rest) hlen rfl hWW (Jvm.hb hb hd) (fun _ _ => ⟨rfl, e0, hr.2.2.1, hr.2.2.2⟩)
    dsimp only [Pt.U, Pt.locs, Pt.cells, Pt.slots] at X1 l1 y1 z1 stp hQ hS1 hgr hCr
    subst l1 y1 z1
    rw [e0] at hgr
    obtain ⟨Xr, Sr, Zr, Or⟩ := rebS (s := x.s) (vm0 := vm0) S hgr X1 hS1 (Nat.le_refl _) hZ ho
    obtain ⟨s₂, o, a1, r⟩ := K T1 T1.heap v ⟨hx, hb, hm, hret, hn, hl, rfl, hQ.2.2.1, hr.2.2.1, hr.2.2.2, fun y hy => ⟨(hs y hy).1, Nat.lt_of_lt_of_le (hs y hy).2 hgr⟩, hEL, _, _, Fr.app N hQ.2.1, (fun q => by cases q), Xr, Sr, Zr, Or, fun _ => ⟨(hC rfl).1.trans hCr, fun y hy => hCr.safe (hs y hy).2 ((hC rfl).2 y hy)⟩⟩ hgr hQ.1
    exact ⟨s₂, o, stp.trans a1, r⟩
theorem W.callVZ (w : W x wd l Z EL R own code mx ret nm T h k n sf) {y : MethodName} {bytes : ByteArray} {maxL : Nat} {rt : Option FieldType} {rm : Room} {sf0 : List Addr} {Q' : Option Value → Heap → Prop} {i : Nat} {argsL rest : List Value} {a : Addr} {z : MethodName} {Cl Sup : String} (Wn : Nat) (hd : Dc code pc (.invokevirtual i) 3 pc') (w1 : (Jvm.Cond.methodLink own i y).before a0 Z = true) (wd1 : (Jvm.Cond.declares y).before a0 Z = true) (wsp : (Jvm.Cond.superclass y.cls Sup).before a0 Z = true) (ws : (Jvm.Cond.selects Cl y z).before a0 Z = true) (w2 : (Jvm.Cond.instanceMethod z).before a0 Z = true) (w3 : (Jvm.Cond.initialized z.cls).before a0 Z = true) (w4 : (Jvm.Cond.code z bytes maxL rt).before a0 Z = true) (hy : y.cls ≠ "java/lang/invoke/MethodHandle" ∧ y.cls ≠ "java/lang/invoke/VarHandle") (Ea : Exa Z h a Cl) (C : Ct wd l Z EL z bytes maxL rt [] rm sf0 (.ref a :: argsL).toArray h Q') (hlen : ∀ sig, parseMethodDescriptor y.desc = some sig → argsL.length = sig.parameters.length) (hz : ls.size = mx) (hst : st = argsL.reverse ++ .ref a :: rest) (hW : (rest.map fun v => v.category).sum ≤ Wn) (hr : rm.frames + 1 ≤ R.frames ∧ Wn + (maxL + 11) + rm.locals ≤ R.locals ∧ k + rm.cells ≤ R.cells ∧ n + rm.slots ≤ R.slots) (hsub : ∀ y ∈ sf0, y ∈ sf) (K : ∀ T' h' v, W x wd l Z EL R own code mx ret nm T' h' (k + rm.cells) (n + rm.slots) sf → h.size ≤ h'.size → Q' v h' → Go x wd Z EL R Q T' pc' ls (v.toList ++ rest)) : Go x wd Z EL R Q T pc ls st := by
  obtain ⟨hd, rfl⟩ := hd
  subst hst
  obtain ⟨hx, hb, hm, hret, hn, hl, e0, E, c1, c2, hs, hEL, L, vm0, N, g, X, S, hZ, ho, hC⟩ := w
  have hWW : 2 * (mkF x.m pc ls (argsL.reverse ++ .ref a :: rest)).monitorRoom + (rest.map fun v => v.category).sum ≤ Wn := by show 2 * 0 + _ ≤ _; omega
  obtain ⟨cB, kB, qa, qb, qc⟩ := isOf (s := x.s.setVm vm0) hZ e0 Ea
  cases wd with
  | false =>
    have eq := g rfl
    subst eq
    obtain ⟨v, _, ⟨T1, L1, k1, n1⟩, -, X1, ⟨Lc, hQ, l1, y1, z1⟩, stp⟩ := X.virtualBack hx (y := y) (z := z) ho (mvT hZ w1) (mvT hZ wd1) (nf_super (args := #[]) (mvT hZ wsp)) (mvT hZ ws) (mvT hZ w2) hy (backN (Wn := Wn) C hZ w4 w3 hr.1 hr.2.1) qa qc (g := mkF x.m pc ls (argsL.reverse ++ .ref a :: rest)) rfl (hz.trans hm.symm) (Steps.refl _) (argsL := argsL) (rest := rest) hlen rfl hWW (Jvm.hb hb hd) (fun _ _ => ⟨rfl, e0, hr.2.2.1, hr.2.2.2⟩)
    dsimp only [Pt.U, Pt.locs, Pt.cells, Pt.slots] at X1 l1 y1 z1 stp hQ
    subst l1 y1 z1
    obtain ⟨s₂, o, a1, r⟩ := K T1 T1.heap v ⟨hx, hb, hm, hret, hn, hl, rfl, hQ.2.2.1, hr.2.2.1, hr.2.2.2, fun y hy => ⟨(hs y hy).1, Nat.lt_of_lt_of_le (hs y hy).2 hQ.2.2.2⟩, hEL, _, _, Fr.app N hQ.2.1, fun _ => rfl, X1, (State.WarmedH.refl x.s).since _, hZ, ho, fun q => by cases q⟩ hQ.2.2.2 hQ.1
    exact ⟨s₂, o, stp.trans a1, r⟩
  | true =>
    obtain ⟨v, _, ⟨T1, L1, k1, n1⟩, -, X1, hS1, hgr, ⟨Lc, hQ, l1, y1, z1, hCr⟩, stp⟩ := X.virtualBackS hx (y := y) (z := z) ho (mvT (s := x.s.setVm vm0) hZ w1) (mvT (s := x.s.setVm vm0) hZ wd1) (nf_super (args := #[]) (mvT (s := x.s.setVm vm0) hZ wsp)) (mvT (s := x.s.setVm vm0) hZ ws) (mvT (s := x.s.setVm vm0) hZ w2) hy (backW (s := x.s) (Wn := Wn) C hZ w4 w3 hr.1 hr.2.1 hEL (hC rfl).1.1 (fun y hy => ⟨(hs y (hsub y hy)).2, (hC rfl).2 y (hsub y hy)⟩)) qa qc (g := mkF x.m pc ls (argsL.reverse ++ .ref a :: rest)) rfl (hz.trans hm.symm) (Steps.refl _) (argsL := argsL) (rest := rest) hlen rfl hWW (Jvm.hb hb hd) (fun _ _ => ⟨rfl, e0, hr.2.2.1, hr.2.2.2⟩)
    dsimp only [Pt.U, Pt.locs, Pt.cells, Pt.slots] at X1 l1 y1 z1 stp hQ hS1 hgr hCr
    subst l1 y1 z1
    rw [e0] at hgr
    obtain ⟨Xr, Sr, Zr, Or⟩ := rebS (s := x.s) (vm0 := vm0) S hgr X1 hS1 (Nat.le_refl _) hZ ho
    obtain ⟨s₂, o, a1, r⟩ := K T1 T1.heap v ⟨hx, hb, hm, hret, hn, hl, rfl, hQ.2.2.1, hr.2.2.1, hr.2.2.2, fun y hy => ⟨(hs y hy).1, Nat.lt_of_lt_of_le (hs y hy).2 hgr⟩, hEL, _, _, Fr.app N hQ.2.1, (fun q => by cases q), Xr, Sr, Zr, Or, fun _ => ⟨(hC rfl).1.trans hCr, fun y hy => hCr.safe (hs y hy).2 ((hC rfl).2 y hy)⟩⟩ hgr hQ.1
    exact ⟨s₂, o, stp.trans a1, r⟩
theorem W.callVU (w : W x wd l Z EL R own code mx ret nm T h k n sf) {y : MethodName} {bytes : ByteArray} {maxL : Nat} {rt : Option FieldType} {rm : Room} {sf0 : List Addr} {Q' : Option Value → Heap → Prop} {i : Nat} {argsL rest : List Value} {a : Addr} {z : MethodName} {Cl ow : String} (Wn : Nat) (hd : Dc code pc (.invokevirtual i) 3 pc') (w1 : (Jvm.Cond.methodLink own i y).before a0 Z = true) (wsm : (Jvm.Cond.sameMethod y.cls ow y.name y.desc).before a0 Z = true) (wd1 : (Jvm.Cond.declares ⟨ow, y.name, y.desc⟩).before a0 Z = true) (ws : (Jvm.Cond.selects Cl y z).before a0 Z = true) (w2 : (Jvm.Cond.instanceMethod z).before a0 Z = true) (w3 : (Jvm.Cond.initialized z.cls).before a0 Z = true) (w4 : (Jvm.Cond.code z bytes maxL rt).before a0 Z = true) (hy : ow ≠ "java/lang/invoke/MethodHandle" ∧ ow ≠ "java/lang/invoke/VarHandle") (Ea : Exa Z h a Cl) (C : Ct wd l Z EL z bytes maxL rt [] rm sf0 (.ref a :: argsL).toArray h Q') (hlen : ∀ sig, parseMethodDescriptor y.desc = some sig → argsL.length = sig.parameters.length) (hz : ls.size = mx) (hst : st = argsL.reverse ++ .ref a :: rest) (hW : (rest.map fun v => v.category).sum ≤ Wn) (hr : rm.frames + 1 ≤ R.frames ∧ Wn + (maxL + 11) + rm.locals ≤ R.locals ∧ k + rm.cells ≤ R.cells ∧ n + rm.slots ≤ R.slots) (hsub : ∀ y ∈ sf0, y ∈ sf) (K : ∀ T' h' v, W x wd l Z EL R own code mx ret nm T' h' (k + rm.cells) (n + rm.slots) sf → h.size ≤ h'.size → Q' v h' → Go x wd Z EL R Q T' pc' ls (v.toList ++ rest)) : Go x wd Z EL R Q T pc ls st := by
  obtain ⟨hd, rfl⟩ := hd
  subst hst
  obtain ⟨hx, hb, hm, hret, hn, hl, e0, E, c1, c2, hs, hEL, L, vm0, N, g, X, S, hZ, ho, hC⟩ := w
  have hWW : 2 * (mkF x.m pc ls (argsL.reverse ++ .ref a :: rest)).monitorRoom + (rest.map fun v => v.category).sum ≤ Wn := by show 2 * 0 + _ ≤ _; omega
  obtain ⟨cB, kB, qa, qb, qc⟩ := isOf (s := x.s.setVm vm0) hZ e0 Ea
  cases wd with
  | false =>
    have eq := g rfl
    subst eq
    obtain ⟨v, _, ⟨T1, L1, k1, n1⟩, -, X1, ⟨Lc, hQ, l1, y1, z1⟩, stp⟩ := X.virtualBackUp hx (x := y) (y := z) ho (mvT hZ w1) (mvT hZ wsm) (mvT hZ wd1) hy (mvT hZ ws) (mvT hZ w2) (backN (Wn := Wn) C hZ w4 w3 hr.1 hr.2.1) qa qc (g := mkF x.m pc ls (argsL.reverse ++ .ref a :: rest)) rfl (hz.trans hm.symm) (Steps.refl _) (argsL := argsL) (rest := rest) hlen rfl hWW (Jvm.hb hb hd) (fun _ _ => ⟨rfl, e0, hr.2.2.1, hr.2.2.2⟩)
    dsimp only [Pt.U, Pt.locs, Pt.cells, Pt.slots] at X1 l1 y1 z1 stp hQ
    subst l1 y1 z1
    obtain ⟨s₂, o, a1, r⟩ := K T1 T1.heap v ⟨hx, hb, hm, hret, hn, hl, rfl, hQ.2.2.1, hr.2.2.1, hr.2.2.2, fun y hy => ⟨(hs y hy).1, Nat.lt_of_lt_of_le (hs y hy).2 hQ.2.2.2⟩, hEL, _, _, Fr.app N hQ.2.1, fun _ => rfl, X1, (State.WarmedH.refl x.s).since _, hZ, ho, fun q => by cases q⟩ hQ.2.2.2 hQ.1
    exact ⟨s₂, o, stp.trans a1, r⟩
  | true =>
    obtain ⟨v, _, ⟨T1, L1, k1, n1⟩, -, X1, hS1, hgr, ⟨Lc, hQ, l1, y1, z1, hCr⟩, stp⟩ := X.virtualBackUpS hx (x := y) (y := z) ho (mvT (s := x.s.setVm vm0) hZ w1) (mvT (s := x.s.setVm vm0) hZ wsm) (mvT (s := x.s.setVm vm0) hZ wd1) hy (mvT (s := x.s.setVm vm0) hZ ws) (mvT (s := x.s.setVm vm0) hZ w2) (backW (s := x.s) (Wn := Wn) C hZ w4 w3 hr.1 hr.2.1 hEL (hC rfl).1.1 (fun y hy => ⟨(hs y (hsub y hy)).2, (hC rfl).2 y (hsub y hy)⟩)) qa qc (g := mkF x.m pc ls (argsL.reverse ++ .ref a :: rest)) rfl (hz.trans hm.symm) (Steps.refl _) (argsL := argsL) (rest := rest) hlen rfl hWW (Jvm.hb hb hd) (fun _ _ => ⟨rfl, e0, hr.2.2.1, hr.2.2.2⟩)
    dsimp only [Pt.U, Pt.locs, Pt.cells, Pt.slots] at X1 l1 y1 z1 stp hQ hS1 hgr hCr
    subst l1 y1 z1
    rw [e0] at hgr
    obtain ⟨Xr, Sr, Zr, Or⟩ := rebS (s := x.s) (vm0 := vm0) S hgr X1 hS1 (Nat.le_refl _) hZ ho
    obtain ⟨s₂, o, a1, r⟩ := K T1 T1.heap v ⟨hx, hb, hm, hret, hn, hl, rfl, hQ.2.2.1, hr.2.2.1, hr.2.2.2, fun y hy => ⟨(hs y hy).1, Nat.lt_of_lt_of_le (hs y hy).2 hgr⟩, hEL, _, _, Fr.app N hQ.2.1, (fun q => by cases q), Xr, Sr, Zr, Or, fun _ => ⟨(hC rfl).1.trans hCr, fun y hy => hCr.safe (hs y hy).2 ((hC rfl).2 y hy)⟩⟩ hgr hQ.1
    exact ⟨s₂, o, stp.trans a1, r⟩
theorem W.lsw (w : W x wd l Z EL R own code mx ret nm T h k n sf) {dflt off : Int} {pairs : Array (Int × Int)} {len : Nat} {i : Int32} (hd : Dc code pc (.lookupswitch dflt pairs) len pc') (hp : (pairs.toList.zip (pairs.toList.drop 1)).all (fun (a, next) => a.1 < next.1) = true) (ho : (match pairs.find? (·.1 == i.toInt) with | some (_, o) => o | none => dflt) = off) (ht : Tg pc off pcT) (K : Go x wd Z EL R Q T pcT ls st) : Go x wd Z EL R Q T pc ls (.int i :: st) := by
  obtain ⟨hd, rfl⟩ := hd
  obtain ⟨ht, rfl⟩ := ht
  obtain ⟨hx, hb, hm, hr, hn, hl, e0, E, c1, c2, hs, hEL, L, vm0, N, g, X, S, hZ, ho', hC⟩ := w
  obtain ⟨s₂, o, a1, r⟩ := K
  refine ⟨s₂, o, ?_, r⟩
  rcases hf : pairs.find? (·.1 == i.toInt) with _ | ⟨a, off'⟩
  · simp only [hf] at ho
    subst ho
    exact X.lookupswitchMiss hx (g := mkF x.m pc ls (.int i :: st)) rfl rfl (Jvm.hb hb hd) hp hf ht _ a1
  · simp only [hf] at ho
    subst ho
    exact X.lookupswitchHit hx (g := mkF x.m pc ls (.int i :: st)) rfl rfl (Jvm.hb hb hd) hp hf ht _ a1
theorem W.instNo (w : W x wd l Z EL R own code mx ret nm T h k n sf) {i : Nat} {a : Addr} {C K0 : String} (hd : Dc code pc (.instanceof i) 3 pc') (wl : (Jvm.Cond.classLink own i K0).before a0 Z = true) (E : Exa Z h a C) (F : ∃ c t, Z.vm.findClass C = some c ∧ Z.vm.findClass K0 = some t ∧ Z.vm.assignable c t = false) (K : ∀ T', W x wd l Z EL R own code mx ret nm T' h k n sf → Go x wd Z EL R Q T' pc' ls (.int 0 :: st)) : Go x wd Z EL R Q T pc ls (.ref a :: st) := by
  obtain ⟨hd, rfl⟩ := hd
  exact w.goT (fun s0 L X hx hZ ho hb hm e0 => RoadKit.instNo X hx hZ ho wl e0 E F (g := mkF x.m pc ls (.ref a :: st)) rfl rfl (Jvm.hb hb hd)) K
theorem W.ldc2J (w : W x wd l Z EL R own code mx ret nm T h k n sf) {i : Nat} {v : Int64} (hd : Dc code pc (.ldc2_w i) 3 pc') (wc : (Jvm.Cond.constantLong own i v).before a0 Z = true) (K : Go x wd Z EL R Q T pc' ls (.long v :: st)) : Go x wd Z EL R Q T pc ls st := by
  obtain ⟨hd, rfl⟩ := hd
  obtain ⟨hx, hb, hm, hr, hn, hl, e0, E, c1, c2, hs, hEL, L, vm0, N, g, X, S, hZ, ho, hC⟩ := w
  obtain ⟨s₂, o, a1, r⟩ := K
  exact ⟨s₂, o, X.ldc2J hx ho (mv (s := x.s.setVm vm0) hZ wc) rfl (Jvm.hb hb hd) a1, r⟩
theorem W.instNull (w : W x wd l Z EL R own code mx ret nm T h k n sf) {i : Nat} (hd : Dc code pc (.instanceof i) 3 pc') (K : Go x wd Z EL R Q T pc' ls (.int 0 :: st)) : Go x wd Z EL R Q T pc ls (.null :: st) := by
  obtain ⟨hd, rfl⟩ := hd
  obtain ⟨hx, hb, hm, hr, hn, hl, e0, E, c1, c2, hs, hEL, L, vm0, N, g, X, S, hZ, ho, hC⟩ := w
  obtain ⟨s₂, o, a1, r⟩ := K
  exact ⟨s₂, o, X.instanceofNull hx (g := mkF x.m pc ls (.null :: st)) rfl rfl (Jvm.hb hb hd) _ a1, r⟩
theorem W.getFR (w : W x wd l Z EL R own code mx ret nm T h k n sf) {i : Nat} {a : Addr} {O f d : String} {v : Value} (hd : Dc code pc (.getfield i) 3 pc') (wl : (Jvm.Cond.fieldRef own i O f d).before a0 Z = true) (F : Fld Z h a O f d v) (K : Go x wd Z EL R Q T pc' ls (v :: st)) : Go x wd Z EL R Q T pc ls (.ref a :: st) := by
  obtain ⟨hd, rfl⟩ := hd
  obtain ⟨hx, hb, hm, hr, hn, hl, e0, E, c1, c2, hs, hEL, L, vm0, N, g, X, S, hZ, ho, hC⟩ := w
  obtain ⟨s₂, o, a1, r⟩ := K
  obtain ⟨cell, cf, kk, ii, fl, h1, h2, h3, h4, -, -, h7⟩ := F
  have hZT : Z.Warmed39 T.vm := wtrans (s := x.s.setVm vm0) hZ X.warmed
  have hq := Cond.fieldRef_warmed39 hZT wl
  have hoT : (Z.setVm T.vm).vm.findClass own = some x.m.cls := (X.warmed.alike.findClass _ _).trans ho
  obtain ⟨q1, q2, q3, q4, g1, g2⟩ := Cond.fieldRef_spec hoT hq
  obtain ⟨k', hi, -⟩ := State.fieldFound?_setVm (s := Z) hZT.alike h2
  cases hi.symm.trans g1
  have hd' := Jvm.hb hb hd
  have g2' : T.vm.fieldReady x.m.cls i cf fl := g2
  refine ⟨s₂, o, ?_, r⟩
  show Steps x.p.tables x.e x.below (T.setTop { method := x.m, pc := pc, locals := ls, stack := .ref a :: st, locked := none }) _
  jvm_step X.here [hx, hd', getfield.wp_ready (e := x.e) (s := T) (f := mkF x.m pc ls (.ref a :: st)) X.here.top g2' h3 rfl (show T.heap[a]? = some cell by rw [e0]; exact h1) h4 h7]
  exact a1
theorem W.ldcS (w : W x true l Z EL R own code mx ret nm T h k n sf) {i : Nat} {text : String} (nn : Nat) (hd : Dc code pc (.ldc i) 2 pc') (wl : (Jvm.Cond.stringLink own i text).before a0 Z = true) (wS : ∀ a ∈ Bundle.stringAtoms, a.before a0 Z = true) (hEL : EW Z a0 EL) (hn4 : 4 * text.toList.length ≤ nn) (hbig : nn ≤ 536870912) (hr : k + 2 ≤ R.cells ∧ n + (nn + 4) ≤ R.slots) (K : ∀ (a : Addr) T' h', W x true l Z EL R own code mx ret nm T' h' (k + 2) (n + (nn + 4)) sf → Ext h h' → Go x true Z EL R Q T' pc' ls (.ref a :: st)) : Go x true Z EL R Q T pc ls st := by
  obtain ⟨hd, rfl⟩ := hd
  obtain ⟨hx, hb, hm, hret, hnm, hl, e0, E, c1, c2, hs, -, L, vm0, N, g, X, S, hZ, ho, hC⟩ := w
  obtain ⟨a, T', h', k1, X', e', E', S', hk1, Z', o', hCr, -, stp⟩ := ldcOH X hx hZ ho wl wS e0 S (Nat.le_refl _) hEL (hC rfl).1.1 (g := mkF x.m pc ls st) rfl (Jvm.hb hb hd) hn4 hbig hr.1 hr.2
  obtain ⟨s₂, o, a1, r⟩ := K a T' h' ⟨hx, hb, hm, hret, hnm, hl, e', ext_trans E E', hr.1, hr.2, fun y hy => ⟨(hs y hy).1, Nat.lt_of_lt_of_le (hs y hy).2 E'.1⟩, ⟨a0, hEL⟩, L, _, N, (fun q => by cases q), X', since_mono S' hk1, Z', o', fun _ => ⟨(hC rfl).1.trans hCr, fun y hy => hCr.safe (hs y hy).2 ((hC rfl).2 y hy)⟩⟩ E'
  exact ⟨s₂, o, stp _ a1, r⟩
theorem W.ldcR (w : W x true l Z EL R own code mx ret nm T h k n sf) {i : Nat} {text : String} {vs : List Value} (z : Int32) (nn : Nat) (hd : Dc code pc (.ldc i) 2 pc') (wl : (Jvm.Cond.stringLink own i text).before a0 Z = true) (wS : ∀ a ∈ Bundle.stringAtoms, a.before a0 Z = true) (hEL : EW Z a0 EL) (hmem : (own, i) ∈ EL) (ht : (∀ c ∈ text.toList, c.toNat < 256) ∧ text.toList.map (fun c => Value.int (Jvm.Lit.byteI c.toNat.toUInt16)) = vs) (hz : ¬ z < 0) (hlz : z.toNatClampNeg = vs.length) (hn4 : 4 * text.toList.length ≤ nn) (hbig : nn ≤ 536870912) (hr : k + 2 ≤ R.cells ∧ n + (nn + 4) ≤ R.slots) (K : ∀ (a b : Addr) kb T' h', W x true l Z EL R own code mx ret nm T' h' (k + 2) (n + (nn + 4)) sf → Ext h h' → Exa Z h' a "java/lang/String" → Fld Z h' a "java/lang/String" "coder" "B" (.int 0) → Fld Z h' a "java/lang/String" "value" "[B" (.ref b) → Arv Z h' b kb .byte z vs (.int 0) → (∀ y ∈ sf, y ≠ a ∧ y ≠ b) → Go x true Z EL R Q T' pc' ls (.ref a :: st)) : Go x true Z EL R Q T pc ls st := by
  obtain ⟨hd, rfl⟩ := hd
  obtain ⟨hx, hb, hm, hret, hnm, hl, e0, E, c1, c2, hs, -, L, vm0, N, g, X, S, hZ, ho, hC⟩ := w
  obtain ⟨a, T', h', k1, b, kb, X', e', E', S', hk1, Z', o', q1, q2, q3, q4, -, -, hCr, -, hne, stp⟩ := ldcCH X hx hZ ho wl wS e0 S (Nat.le_refl _) hEL hmem (hC rfl).1.1 ht hz hlz (g := mkF x.m pc ls st) rfl (Jvm.hb hb hd) hn4 hbig hr.1 hr.2
  have hsf : ∀ y ∈ sf, Safe Z EL T'.vm h' y := fun y hy => hCr.safe (hs y hy).2 ((hC rfl).2 y hy)
  obtain ⟨s₂, o, a1, r⟩ := K a b kb T' h' ⟨hx, hb, hm, hret, hnm, hl, e', ext_trans E E', hr.1, hr.2, fun y hy => ⟨(hs y hy).1, Nat.lt_of_lt_of_le (hs y hy).2 E'.1⟩, ⟨a0, hEL⟩, L, _, N, (fun q => by cases q), X', since_mono S' hk1, Z', o', fun _ => ⟨(hC rfl).1.trans hCr, hsf⟩⟩ E' q1 q2 q3 q4 (fun y hy => hne y (hsf y hy))
  exact ⟨s₂, o, stp _ a1, r⟩
end Laws
theorem eqv_int {args : Array Value} {first s : State} {o : Option Outcome} {idx : List Nat} {a b : Term} {z : Int32} (h : (Jvm.Cond.eq a b).value args first o s idx = some true) (hb : b.eval args first o idx s = some (.int z)) : a.eval args first o idx s = some (.int z) := by
  cases ha : a.eval args first o idx s with
  | none => simp [Jvm.Cond.value, ha, hb] at h
  | some v => cases v <;> simp [Jvm.Cond.value, ha, hb] at h ⊢; exact h
theorem eqv_ref {args : Array Value} {first s : State} {o : Option Outcome} {idx : List Nat} {a b : Term} {z : Addr} (h : (Jvm.Cond.eq a b).value args first o s idx = some true) (hb : b.eval args first o idx s = some (.ref z)) : a.eval args first o idx s = some (.ref z) := by
  cases ha : a.eval args first o idx s with
  | none => simp [Jvm.Cond.value, ha, hb] at h
  | some v => cases v <;> simp [Jvm.Cond.value, ha, hb] at h ⊢; exact h
theorem sta_exa {Z : State} {args : Array Value} {C f d K : String} (hx : (Jvm.Cond.exactly (.static C f d) K).value args Z none Z [] = some true) (hi : (Jvm.Cond.initialized C).before args Z = true) (hl : (Jvm.Cond.laysStatic C f d).before args Z = true) :
    ∃ a, (Term.static C f d).eval args Z none [] Z = some (.ref a) ∧ Sta Z Z.heap C f d (.ref a) ∧ Exa Z Z.heap a K := by
  obtain ⟨a, ev⟩ := exa_v hx
  exact ⟨a, ev, Sta.start ev (Or.inr ⟨hi, hl⟩), Exa.start ev hx⟩
theorem fld_int {Z : State} {args : Array Value} {t : Term} {C f d : String} {z : Int32} {a : Addr} (h : (Jvm.Cond.eq (.field t C f d) (.int z)).value args Z none Z [] = some true) (ht : t.eval args Z none [] Z = some (.ref a)) : Fld Z Z.heap a C f d (.int z) :=
  Fld.start (by rw [← fld_at ht]; exact eqv_int h (Term.int_eval z))
theorem fld_ref {Z : State} {args : Array Value} {t u : Term} {C f d : String} {a b : Addr} (h : (Jvm.Cond.eq (.field t C f d) u).value args Z none Z [] = some true) (ht : t.eval args Z none [] Z = some (.ref a)) (hu : u.eval args Z none [] Z = some (.ref b)) : Fld Z Z.heap a C f d (.ref b) :=
  Fld.start (by rw [← fld_at ht]; exact eqv_ref h hu)
theorem ord_ne {Z : State} {h : Heap} {a b : Addr} {C f d : String} {u v : Int32} (F : Fld Z h a C f d (.int u)) (G : Fld Z h b C f d (.int v)) (q : u ≠ v) : a ≠ b := Fld.ne F G fun e => q (Value.int.inj e)
/-- a String at a, its bytes in the array at t, its coder k -/
def StrL (Z : State) (h : Heap) (a t : Addr) (k : Int32) (bs : List Int32) : Prop :=
  Exa Z h a "java/lang/String" ∧ Fld Z h a "java/lang/String" "value" "[B" (.ref t) ∧ Fld Z h a "java/lang/String" "coder" "B" (.int k) ∧ ∃ kb, Arv Z h t kb .byte (Int32.ofNat bs.length) (bs.map .int) (.int 0) ∧ bs.length < 2 ^ 31
section StrFacts
variable {Z : State} {h h' : Heap} {a t : Addr} {k : Int32} {bs : List Int32}
theorem StrL.ext (F : StrL Z h a t k bs) (E : Ext h h') : StrL Z h' a t k bs := ⟨F.1.ext E, F.2.1.ext E, F.2.2.1.ext E, by obtain ⟨kb, A, q⟩ := F.2.2.2; exact ⟨kb, A.ext E, q⟩⟩
theorem StrL.keep {ws : List Addr} (F : StrL Z h a t k bs) (K : Keep h h' ws) (q1 : a ∉ ws) (q2 : t ∉ ws) : StrL Z h' a t k bs := ⟨F.1.keep K, F.2.1.keep K q1, F.2.2.1.keep K q1, by obtain ⟨kb, A, q⟩ := F.2.2.2; exact ⟨kb, A.keep K q2, q⟩⟩
theorem StrL.wr {x : Addr} {sl : Nat} {v : Value} (F : StrL Z h a t k bs) (W : Wr h h' x sl v) (q1 : a ≠ x) (q2 : t ≠ x) : StrL Z h' a t k bs := F.keep (Keep.of_wr W) (ninS q1 nin0) (ninS q2 nin0)
theorem StrL.lt (F : StrL Z h a t k bs) : a < h.size := F.1.lt
theorem StrL.lt' (F : StrL Z h a t k bs) : t < h.size := by obtain ⟨kb, A, -⟩ := F.2.2.2; exact A.lt
theorem ofN_toInt {n : Nat} (h : n < 2 ^ 31) : (Int32.ofNat n).toInt = (n : Int) := Int32.toInt_ofNat_small h
theorem ofN_clamp {n : Nat} (h : n < 2 ^ 31) : (Int32.ofNat n).toNatClampNeg = n := by simp only [Int32.toNatClampNeg, ofN_toInt h]; rfl
theorem ofN_nn {n : Nat} (h : n < 2 ^ 31) : ¬ Int32.ofNat n < 0 := by rw [Int32.lt_iff_toInt_lt, ofN_toInt h]; exact Int.not_lt.mpr (Int.natCast_nonneg n)
theorem ofN_lt {i n : Nat} (hi : i < 2 ^ 31) (hn : n < 2 ^ 31) : Int32.ofNat i < Int32.ofNat n ↔ i < n := by rw [Int32.lt_iff_toInt_lt, ofN_toInt hi, ofN_toInt hn]; omega
theorem ofN_inj {i n : Nat} (hi : i < 2 ^ 31) (hn : n < 2 ^ 31) : Int32.ofNat i = Int32.ofNat n ↔ i = n := by rw [← Int32.toInt_inj, ofN_toInt hi, ofN_toInt hn]; omega
theorem ofN_succ {i : Nat} (hi : i + 1 < 2 ^ 31) : Int32.ofNat i + 1 = Int32.ofNat (i + 1) := by
  rw [← Int32.toInt_inj, ofN_toInt hi]
  have q := c_iadd (Int32.ofNat i) 1
  have r := rng32 (Int32.ofNat i + 1)
  rw [ofN_toInt (by omega), show (1 : Int32).toInt = 1 from rfl] at q
  omega
theorem mapGet (bs : List Int32) (i : Nat) : (bs.map Value.int).getD i (.int 0) = .int (bs.getD i 0) := by
  simp only [List.getD_eq_getElem?_getD, List.getElem?_map]; cases bs[i]? <;> rfl
theorem list_eq {bs cs : List Int32} (h : bs.length = cs.length) (q : ∀ j, j < bs.length → bs.getD j 0 = cs.getD j 0) : bs = cs := by
  refine List.ext_getElem h fun i h1 h2 => ?_
  have := q i h1
  simpa [List.getD_eq_getElem?_getD, List.getElem?_eq_getElem h1, List.getElem?_eq_getElem h2] using this
theorem StrL.same {t' : Addr} {k' : Int32} {cs : List Int32} (F : StrL Z h a t k bs) (G : StrL Z h a t' k' cs) : bs = cs := by
  obtain ⟨-, F1, -, kb, A, hb⟩ := F
  obtain ⟨-, G1, -, kc, B, hc⟩ := G
  have e : t = t' := by
    by_cases q : t = t'
    · exact q
    · exact absurd rfl (Fld.ne F1 G1 fun z => q (Value.ref.inj z))
  subst e
  obtain ⟨c1, a1, -, s1, -, h1, -⟩ := A
  obtain ⟨c2, b1, -, s2, -, h2, -⟩ := B
  cases a1.1.symm.trans b1.1
  rw [ofN_clamp hb] at s1
  rw [ofN_clamp hc] at s2
  refine list_eq (s1.symm.trans s2) fun j hj => ?_
  have e1 := h1 j (by rw [s1]; exact hj)
  have e2 := h2 j (by rw [s1]; exact hj)
  rw [mapGet] at e1 e2
  exact Value.int.inj (Option.some.inj (e1.symm.trans e2))
end StrFacts
theorem b255' {c : Int32} (c0 : 0 ≤ c.toInt) (c1 : ¬ 255 < c) : nar .byte c &&& (255 : Int32) = c := by
  rw [Int32.lt_iff_toInt_lt, show (255 : Int32).toInt = 255 from rfl] at c1
  have e1 := c_i2b c
  have e2 := c_mask (nar .byte c) 255 8 (by decide) (by decide)
  apply Int32.toInt_inj.mp
  rw [e2]
  simp only [nar]
  omega
theorem nchar {c : Int32} (c0 : 0 ≤ c.toInt) (c1 : ¬ 255 < c) : nar .char c = c := by
  rw [Int32.lt_iff_toInt_lt, show (255 : Int32).toInt = 255 from rfl] at c1
  have e1 := c_i2c c
  apply Int32.toInt_inj.mp
  simp only [nar]
  omega
theorem b255 {c : Int32} (c0 : 0 ≤ c.toInt) (c1 : ¬ 255 < c) : nar .char (nar .byte c &&& (255 : Int32)) = c := by rw [b255' c0 c1]; exact nchar c0 c1
theorem nb_inj {c d : Int32} (c0 : 0 ≤ c.toInt) (c1 : ¬ 255 < c) (d0 : 0 ≤ d.toInt) (d1 : ¬ 255 < d) (h : nar .byte c = nar .byte d) : c = d := by
  rw [Int32.lt_iff_toInt_lt, show (255 : Int32).toInt = 255 from rfl] at c1 d1
  have h2 : (nar .byte c).toInt = (nar .byte d).toInt := by rw [h]
  have e1 := c_i2b c
  have e2 := c_i2b d
  simp only [nar] at h2
  apply Int32.toInt_inj.mp
  omega
theorem nbb (c : Int32) : nar .byte (nar .byte c) = nar .byte c := by simp [nar]
theorem ncc (c : Int32) : nar .char (nar .char c) = nar .char c := by
  have := XT.narrow_c c
  simp only [narrow, Value.int.injEq] at this
  exact this
theorem nar_and (c : Int32) : nar .char (c &&& 255) = c &&& 255 := i2c_mask c
theorem le255 (c : Int32) : ¬ 255 < c &&& 255 := by
  rw [Int32.lt_iff_toInt_lt]; exact Int.not_lt.mpr (c_and c 255 (by decide)).2
theorem le255n (c : Int32) : ¬ 255 < nar .char (c &&& 255) := by rw [nar_and]; exact le255 c
theorem fnb (c : Int32) : fits .byte (.int (nar .byte c)) = true := fits_nar_byte c
theorem fnc (c : Int32) : fits .char (.int (nar .char c)) = true := fits_nar_char c
theorem cmpL_lt (x y : Int64) : XT.cmpL x y < 0 ↔ x < y := by
  unfold XT.cmpL; split <;> (try split) <;> simp_all [Int64.lt_iff_toInt_lt, ← Int64.toInt_inj] <;> omega
theorem cmpL_gt (x y : Int64) : 0 < XT.cmpL x y ↔ y < x := by
  unfold XT.cmpL; split <;> (try split) <;> simp_all [Int64.lt_iff_toInt_lt, ← Int64.toInt_inj] <;> omega
theorem ns_root {Z : State} {a0 : Array Value} {O K : String} {n : Nat} (w : (Jvm.Cond.noSuperclass O).before a0 Z = true) (wk : (Jvm.Cond.instantiable K n).before a0 Z = true) (hn : O ≠ K) : NS Z O K := by
  obtain ⟨c, k, h1, h2, h3, -, -⟩ := Cond.noSuperclass_spec w
  obtain ⟨t, kt, g1, -⟩ := Cond.instantiable_spec wk
  have ne := ids_ne h1 g1 hn
  refine ⟨c, t, h1, g1, fun fuel => ?_⟩
  cases fuel with
  | zero => rfl
  | succ f => simp [Vm.isSubclassAux, ne, h2, h3]
theorem ns_no {Z : State} {a0 : Array Value} {C S K : String} {n : Nat} (w : (Jvm.Cond.superclass C S).before a0 Z = true) (wk : (Jvm.Cond.instantiable K n).before a0 Z = true) (m : NS Z C K) (hn : C ≠ K) : ∃ c t, Z.vm.findClass C = some c ∧ Z.vm.findClass K = some t ∧ Z.vm.assignable c t = false := by
  obtain ⟨c, t, h0, g0, n3⟩ := m
  obtain ⟨p, k, kp, h1, h2, h3, h4, h5, -, h7⟩ := Cond.superclass_spec h0 w
  obtain ⟨t', kt, g1, g2, g5, g7, -⟩ := Cond.instantiable_spec wk
  cases g0.symm.trans g1
  have ne := ids_ne h0 g0 hn
  have g8 : kt.isInterface = false := (Bool.or_eq_false_iff.mp g7).1
  refine ⟨c, t, h0, g0, ?_⟩
  show Z.vm.assignableAux (255 + 1) c t = false
  simp [Vm.assignableAux, ne, h2, g2, h5, g5, g8, Vm.isSubclass, n3]
/-- an array of boxes that stood at the start: each of its class -/
def Bx (Z : State) (a : Addr) (cl : Cell) (K : String) (z : Int32) : Prop :=
  Arr Z Z.heap a cl (.object K) ∧ cl.slots.size = z.toNatClampNeg ∧ ¬ z < 0 ∧ ∀ j : Int32, ¬ (j < 0 ∨ cl.slots.size ≤ j.toNatClampNeg) → ∃ b : Addr, cl.slots[j.toNatClampNeg]? = some (.ref b) ∧ Exa Z Z.heap b K
theorem Bx.start {Z : State} {a0 : Array Value} {t : Term} {c : Jvm.Cond} {a : Addr} {K : String} {z : Int32} (et : ∀ idx, t.eval a0 Z none idx Z = some (.ref a)) (ha : (Jvm.Cond.arrayOf t (.object K)).value a0 Z none Z [] = some true) (hl : (Jvm.Cond.eq (.length t) (.int z)).value a0 Z none Z [] = some true) (hz : ¬ z < 0)
    (h : (Jvm.Cond.all t (.and (.exactly (.elem t (.index 0)) K) c)).value a0 Z none Z [] = some true) : ∃ cl, Bx Z a cl K z := by
  obtain ⟨cl, A⟩ := Arr.start (et []) ha
  have e1 := eqv_int hl (Term.int_eval z)
  obtain ⟨a', cl', e2, e3, e4⟩ := Term.length_spec e1
  cases (et []).symm.trans e2
  cases (State.arrayAt?_spec e3).1.symm.trans A.1
  have q : cl.slots.size < 2 ^ 31 := by
    simp only [Term.eval, et [], e3, Option.bind_eq_bind, Option.bind_some] at e1
    by_cases q : cl.slots.size < 2 ^ 31
    · exact q
    · simp [q] at e1
  have e := (Value.int.inj e4).symm
  refine ⟨cl, A, by rw [← e]; simp only [Int32.toNatClampNeg, len_toInt q]; rfl, hz, fun j hj => ?_⟩
  have nn : ¬ j < 0 := fun x => hj (Or.inl x)
  obtain ⟨u1, -⟩ := and_e (Cond.all_elim (et []) (A.fin (Vm.Alike.refl _)) h j.toNatClampNeg (Nat.lt_of_not_le fun x => hj (Or.inr x)))
  obtain ⟨box, eb⟩ := exa_v u1
  exact ⟨box, (elem_f (et _) (idx_at nn) (A.fin (Vm.Alike.refl _)) nn).symm.trans eb, exa_at eb u1⟩
theorem natOf {i : Int32} {n : Nat} (h0 : 0 ≤ i.toInt) (h1 : i.toInt < (n : Int)) : ∃ j : Nat, j < n ∧ i = Int32.ofInt (j : Int) := ⟨i.toInt.toNat, by omega, by rw [Int.toNat_of_nonneg h0]; exact (Int32.ofInt_toInt i).symm⟩
theorem own_in {i z : Int32} {D : Int} (h0 : 0 ≤ i.toInt) (h1 : i.toInt < D) (hz : z.toInt = D) : ¬ i < 0 ∧ i < z := ⟨by rw [Int32.lt_iff_toInt_lt]; exact Int.not_lt.mpr h0, by rw [Int32.lt_iff_toInt_lt, hz]; exact h1⟩
theorem modR (k d : Int32) (D : Int) (hd : d.toInt = D) (hD : 0 < D) : 0 ≤ ((k &&& 2147483647) % d).toInt ∧ ((k &&& 2147483647) % d).toInt < D := by
  have h := (c_and k 2147483647 (by decide)).1
  rw [(c_irem _ d D hd).1 h]; exact ⟨Int.emod_nonneg _ (by omega), Int.emod_lt_of_pos _ hD⟩
theorem and1 (k : Int32) : k &&& 1 = 0 ∨ k &&& 1 = 1 := by
  obtain ⟨j, h, e⟩ := natOf (n := 2) (c_and k 1 (by decide)).1 (Int.lt_of_le_of_lt (c_and k 1 (by decide)).2 (by decide))
  rw [e]
  have h2 : j = 0 ∨ j = 1 := by omega
  rcases h2 with rfl | rfl
  · exact Or.inl rfl
  · exact Or.inr rfl
theorem and3 (k : Int32) : k &&& 3 = 0 ∨ k &&& 3 = 1 ∨ k &&& 3 = 2 ∨ k &&& 3 = 3 := by
  obtain ⟨j, h, e⟩ := natOf (n := 4) (c_and k 3 (by decide)).1 (Int.lt_of_le_of_lt (c_and k 3 (by decide)).2 (by decide))
  rw [e]
  have h2 : j = 0 ∨ j = 1 ∨ j = 2 ∨ j = 3 := by omega
  rcases h2 with rfl | rfl | rfl | rfl
  · exact Or.inl rfl
  · exact Or.inr (Or.inl rfl)
  · exact Or.inr (Or.inr (Or.inl rfl))
  · exact Or.inr (Or.inr (Or.inr rfl))
theorem maskNeg (k : Int32) : ¬ (k &&& 2147483647) < 0 := by
  rw [Int32.lt_iff_toInt_lt]; exact Int.not_lt.mpr (c_and k 2147483647 (by decide)).1
/-- an array that stood at the start, by the case's words -/
theorem arv_start {Z : State} {a0 : Array Value} {t : Term} {a : Addr} {ty : FieldType} {z : Int32} {vs : List Value} {dv : Value} (hF : Fit Z) (ha : (Jvm.Cond.arrayOf t ty).value a0 Z none Z [] = some true) (ht : t.eval a0 Z none [] Z = some (.ref a)) (hl : (Jvm.Cond.eq (.length t) (.int z)).value a0 Z none Z [] = some true)
    (hz : ¬ z < 0) (hn : z.toNatClampNeg = vs.length) (H : ∀ cl : Cell, Z.heap[a]? = some cl → HasL cl 0 vs) : ∃ kc, Arv Z Z.heap a kc ty z vs dv := by
  obtain ⟨cl, A⟩ := Arr.start ht ha
  have e1 := eqv_int hl (Term.int_eval z)
  obtain ⟨a', cl', e2, e3, e4⟩ := Term.length_spec e1
  cases ht.symm.trans e2
  cases (State.arrayAt?_spec e3).1.symm.trans A.1
  have hb : cl.slots.size < 2 ^ 31 := by
    simp only [Term.eval, ht, e3, Option.bind_eq_bind, Option.bind_some] at e1
    by_cases q : cl.slots.size < 2 ^ 31
    · exact q
    · simp [q] at e1
  exact ⟨cl.cls, Arv.start hF A hb (Value.int.inj e4).symm hz hn (H cl A.1)⟩
theorem elem_slot {Z : State} {a0 : Array Value} {t u : Term} {a b : Addr} {j : Int32} {n : Nat} {cl : Cell} (h : (Jvm.Cond.eq (.elem t (.int j)) u).value a0 Z none Z [] = some true) (ht : t.eval a0 Z none [] Z = some (.ref a)) (hu : u.eval a0 Z none [] Z = some (.ref b)) (hn : j.toNatClampNeg = n) (hc : Z.heap[a]? = some cl) : cl.slots[n]? = some (.ref b) := by
  subst hn
  exact (elem_in (eqv_ref h hu) ht (Term.int_eval j) hc).2
theorem elem_slotI {Z : State} {a0 : Array Value} {t : Term} {a : Addr} {j b : Int32} {n : Nat} {cl : Cell} (h : (Jvm.Cond.eq (.elem t (.int j)) (.int b)).value a0 Z none Z [] = some true) (ht : t.eval a0 Z none [] Z = some (.ref a)) (hn : j.toNatClampNeg = n) (hc : Z.heap[a]? = some cl) : cl.slots[n]? = some (.int b) := by
  subst hn
  exact (elem_in (eqv_int h (Term.int_eval b)) ht (Term.int_eval j) hc).2
theorem len_start {Z : State} {a0 : Array Value} {t : Term} {a : Addr} {cl : Cell} {ty : FieldType} {z : Int32} (A : Arr Z Z.heap a cl ty) (ht : t.eval a0 Z none [] Z = some (.ref a)) (hl : (Jvm.Cond.eq (.length t) (.int z)).value a0 Z none Z [] = some true) : cl.slots.size = z.toNatClampNeg := by
  have e1 := eqv_int hl (Term.int_eval z)
  obtain ⟨a', cl', e2, e3, e4⟩ := Term.length_spec e1
  cases ht.symm.trans e2
  cases (State.arrayAt?_spec e3).1.symm.trans A.1
  have q : cl.slots.size < 2 ^ 31 := by
    simp only [Term.eval, ht, e3, Option.bind_eq_bind, Option.bind_some] at e1
    by_cases q : cl.slots.size < 2 ^ 31
    · exact q
    · simp [q] at e1
  have e := (Value.int.inj e4).symm
  rw [← e]; simp only [Int32.toNatClampNeg, len_toInt q]; rfl
theorem hasL_rep {cl : Cell} {v : Value} : ∀ (n i : Nat), (∀ j, i ≤ j → j < i + n → cl.slots[j]? = some v) → HasL cl i (List.replicate n v)
  | 0, _, _ => trivial
  | n + 1, i, h => ⟨h i (Nat.le_refl _) (by omega), hasL_rep n (i + 1) fun j h1 h2 => h j (by omega) (by omega)⟩
/-- a String that stood at the start, by the case's words -/
theorem str_start {Z : State} {a0 : Array Value} {t : Term} {a : Addr} {z : Int32} {bs : List Int32} (hF : Fit Z) (ht : t.eval a0 Z none [] Z = some (.ref a)) (hx : (Jvm.Cond.exactly t "java/lang/String").value a0 Z none Z [] = some true) (hc : (Jvm.Cond.eq (.field t "java/lang/String" "coder" "B") (.int 0)).value a0 Z none Z [] = some true) (ha : (Jvm.Cond.arrayOf (.field t "java/lang/String" "value" "[B") .byte).value a0 Z none Z [] = some true) (hl : (Jvm.Cond.eq (.length (.field t "java/lang/String" "value" "[B")) (.int z)).value a0 Z none Z [] = some true) (hz : ¬ z < 0) (hn : z = Int32.ofNat bs.length) (hb : bs.length < 2 ^ 31)
    (H : ∀ (b : Addr) (cl : Cell), (Term.field t "java/lang/String" "value" "[B").eval a0 Z none [] Z = some (.ref b) → Arr Z Z.heap b cl .byte → cl.slots.size = bs.length → HasL cl 0 (bs.map .int)) : ∃ b, StrL Z Z.heap a b 0 bs := by
  obtain ⟨b, eb⟩ := arr_v ha
  obtain ⟨cl0, A0⟩ := Arr.start eb ha
  have hs := len_start A0 eb hl
  subst hn
  obtain ⟨kc, A⟩ := arv_start (vs := bs.map .int) (dv := .int 0) hF ha eb hl hz (by rw [ofN_clamp hb, List.length_map]) (fun cl hcl => by cases A0.1.symm.trans hcl; exact H b _ eb A0 (by rw [hs, ofN_clamp hb]))
  exact ⟨b, Exa.start ht hx, Fld.start (by rw [← fld_at ht]; exact eb), fld_int hc ht, kc, A, hb⟩
theorem str_all {Z : State} {a0 : Array Value} {F : Term} {b : Addr} {cl : Cell} {n : Nat} {v : Int32} (eF : ∀ idx, F.eval a0 Z none idx Z = some (.ref b)) (A : Arr Z Z.heap b cl .byte) (hs : cl.slots.size = n) (hn : n < 2 ^ 31) (hall : (Jvm.Cond.all F (.eq (.elem F (.index 0)) (.int v))).value a0 Z none Z [] = some true) : HasL cl 0 (List.replicate n (.int v)) :=
  hasL_rep n 0 fun j _ hj => by
    have h31 : j < 2 ^ 31 := by omega
    have u := Cond.all_elim (eF []) (A.fin (Vm.Alike.refl _)) hall j (by omega)
    have ix := idx_at (s := Z) (args := a0) (first := Z) (o := none) (j := Int32.ofNat j) (ofN_nn h31)
    rw [ofN_clamp h31] at ix
    have e := elem_f (eF [j]) ix (A.fin (Vm.Alike.refl _)) (ofN_nn h31)
    rw [ofN_clamp h31] at e
    exact e.symm.trans (eqv_int u (Term.int_eval v))
theorem safe_empty {Z : State} {a0 : Array Value} {vm : Vm} {h : Heap} {d : Addr} {kd : ClassId} {z : Int32} {vs : List Value} {dv : Value} {own : String} {ix : Nat} (wl : (Jvm.Cond.stringLink own ix "").before a0 Z = true) (hZ : Z.Warmed39 vm) (A : Arv Z h d kd .byte z vs dv) (hz : 0 < z.toNatClampNeg) : Safe Z [(own, ix)] vm h d := fun B => by
  obtain ⟨cl, Ar, -, S, -, -, -⟩ := A
  obtain ⟨A1, ⟨-, kA, hkA, compA, hkindA⟩, -⟩ := Ar
  obtain ⟨kA', hkA', ekA⟩ := hZ.alike.2.2 _ _ hkA
  obtain ⟨p, hp, u, a, hb, q, -, F, rfl | rfl⟩ := B
  · cases (show h[q.sa]? = some q.sC from F.ha).symm.trans A1
    obtain ⟨cS, ⟨-, -, e⟩, ⟨kS, g1, g2, -⟩, -⟩ := F
    subst e
    cases (show vm.classes[q.sC.cls]? = some kS from g1).symm.trans hkA'
    rw [ekA] at g2
    have := hkindA.symm.trans g2
    cases this
  · cases List.mem_singleton.mp hp
    cases (show h[q.sd]? = some q.SA from F.hd).symm.trans A1
    obtain ⟨c, k, cf, i, b1, b2, b3, b4, b5, -⟩ := hb
    obtain ⟨k', cf', i', un, g1, g2, g3, g4, -, g6, -⟩ := Cond.stringLink_spec (s := Z.setVm vm) b1 (Cond.stringLink_warmed39 hZ wl)
    cases (show vm.classes[c]? = some k' from g1).symm.trans b2
    cases g2.symm.trans b3
    have e := g3.symm.trans b4
    cases e
    have e := g4.symm.trans b5
    cases e
    have t := text_bytes_le g6
    obtain ⟨cS, -, -, -, hs⟩ := F
    rw [← hs, S] at t
    exact absurd (Nat.lt_of_lt_of_le hz t) (by decide)
/-- a char out of its two bytes -/
theorem own_gc {c : Int32} (h0 : 0 ≤ c.toInt) (h1 : c.toInt < 65536) : nar .char (((nar .byte (c >>> ((0 : Int32) &&& 31)) &&& (255 : Int32)) <<< ((0 : Int32) &&& 31)) ||| ((nar .byte (c >>> ((8 : Int32) &&& 31)) &&& (255 : Int32)) <<< ((8 : Int32) &&& 31))) = c := by
  have a1 := c_ishr c 0 0 (by decide)
  have a2 := c_ishr c 8 8 (by decide)
  have b1 := c_i2b (c >>> ((0 : Int32) &&& 31))
  have b2 := c_i2b (c >>> ((8 : Int32) &&& 31))
  have m1 := c_mask (nar .byte (c >>> ((0 : Int32) &&& 31))) 255 8 (by decide) (by decide)
  have m2 := c_mask (nar .byte (c >>> ((8 : Int32) &&& 31))) 255 8 (by decide) (by decide)
  have s1 := c_ishl (nar .byte (c >>> ((0 : Int32) &&& 31)) &&& (255 : Int32)) 0 0 (by decide)
  have s2 := c_ishl (nar .byte (c >>> ((8 : Int32) &&& 31)) &&& (255 : Int32)) 8 8 (by decide)
  have r1 := rng32 ((nar .byte (c >>> ((0 : Int32) &&& 31)) &&& (255 : Int32)) <<< ((0 : Int32) &&& 31))
  have r2 := rng32 ((nar .byte (c >>> ((8 : Int32) &&& 31)) &&& (255 : Int32)) <<< ((8 : Int32) &&& 31))
  have o := c_or' ((nar .byte (c >>> ((0 : Int32) &&& 31)) &&& (255 : Int32)) <<< ((0 : Int32) &&& 31)) ((nar .byte (c >>> ((8 : Int32) &&& 31)) &&& (255 : Int32)) <<< ((8 : Int32) &&& 31)) 8 (by decide) 256 (by decide)
  have r3 := rng32 (((nar .byte (c >>> ((0 : Int32) &&& 31)) &&& (255 : Int32)) <<< ((0 : Int32) &&& 31)) ||| ((nar .byte (c >>> ((8 : Int32) &&& 31)) &&& (255 : Int32)) <<< ((8 : Int32) &&& 31)))
  have i := c_i2c (((nar .byte (c >>> ((0 : Int32) &&& 31)) &&& (255 : Int32)) <<< ((0 : Int32) &&& 31)) ||| ((nar .byte (c >>> ((8 : Int32) &&& 31)) &&& (255 : Int32)) <<< ((8 : Int32) &&& 31)))
  apply Int32.toInt_inj.mp
  simp only [nar] at m1 m2 s1 s2 r1 r2 r3 o i ⊢
  omega
/-- null, or a String -/
def Sn (Z : State) (h : Heap) (v : Value) : Prop := v = .null ∨ ∃ s, v = .ref s ∧ Exa Z h s "java/lang/String"
theorem Sn.ext {Z : State} {h h' : Heap} {v : Value} (F : Sn Z h v) (E : Ext h h') : Sn Z h' v := by
  rcases F with q | ⟨s, q, X⟩
  · exact Or.inl q
  · exact Or.inr ⟨s, q, X.ext E⟩
theorem Sn.isRef {Z : State} {h : Heap} {v : Value} (F : Sn Z h v) : v.isRef = true := by rcases F with rfl | ⟨s, rfl, -⟩ <;> rfl
/-- the conjuncts of a condition -/
def ands : Jvm.Cond → List Jvm.Cond
  | .and a b => a :: ands b
  | c => [c]
theorem ands_all {args : Array Value} {s : State} : ∀ (c : Jvm.Cond), c.value args s none s [] = some true → ∀ d ∈ ands c, d.value args s none s [] = some true := by
  intro c
  induction c with
  | and a b _ ih =>
    intro h d hd
    obtain ⟨h1, h2⟩ := and_e h
    rcases List.mem_cons.mp hd with rfl | hd
    · exact h1
    · exact ih h2 d hd
  | _ => intro h d hd; cases List.mem_singleton.mp hd; exact h
theorem nw {c : Jvm.Cond} {Z : State} {a0 : Array Value} (hn : c.value a0 Z none Z [] = some true) (i : Nat) {d : Jvm.Cond} (h : (ands c)[i]? = some d) : d.value a0 Z none Z [] = some true := ands_all c hn d (List.mem_of_getElem? h)
/-- the object that a static holds at the start -/
def sad (Z : State) (a0 : Array Value) (C f d : String) : Addr := match (Term.static C f d).eval a0 Z none [] Z with | some (.ref a) => a | _ => 0
theorem sad_eq {Z : State} {a0 : Array Value} {C f d : String} {a : Addr} (h : (Term.static C f d).eval a0 Z none [] Z = some (.ref a)) : sad Z a0 C f d = a := by simp only [sad, h]
theorem sad_exa {Z : State} {a0 : Array Value} {C f d K : String} (hx : (Jvm.Cond.exactly (.static C f d) K).value a0 Z none Z [] = some true) (hi : (Jvm.Cond.initialized C).before a0 Z = true) (hl : (Jvm.Cond.laysStatic C f d).before a0 Z = true) :
    (Term.static C f d).eval a0 Z none [] Z = some (.ref (sad Z a0 C f d)) ∧ Sta Z Z.heap C f d (.ref (sad Z a0 C f d)) ∧ Exa Z Z.heap (sad Z a0 C f d) K := by
  obtain ⟨a, ev, S, E⟩ := sta_exa hx hi hl
  rw [sad_eq ev]; exact ⟨ev, S, E⟩
theorem nb1 : nar .boolean 1 = 1 := rfl
theorem nb0 : nar .boolean 0 = 0 := rfl
theorem rne {a b : Addr} (q : a ≠ b) : ¬ (Value.ref a = Value.ref b) := fun e => q (Value.ref.inj e)
theorem narR {t : FieldType} {v : Value} (h : v.isRef = true) : narrow t v = v := by cases v <;> cases t <;> first | rfl | (simp [Value.isRef] at h)
theorem fitR {t : FieldType} {v : Value} (h : v.isRef = true) (ht : t.isReference = true) : fits t v = true := by cases t <;> simp [FieldType.isReference] at ht <;> cases v <;> first | rfl | (simp [Value.isRef] at h)
end Jvm.OwnW
namespace Jvm.Pilot.@@N@@
open Jvm Jvm.ClassFile Sem Op Lib Jvm.Free Jvm.Stand Jvm.LawKit Jvm.RoadKit Jvm.OwnW Bundle Jvm.Pilot.@@N@@.Jvm.D
theorem tw {Z : State} {a0 : Array Value} (hw : ∀ d ∈ tables_1, d.before a0 Z = true) (i : Nat) {d : Jvm.Cond} (h : tables_1[i]? = some d) : d.before a0 Z = true := hw _ (List.mem_of_getElem? h)
theorem fit_of {s : State} (hF : heapFits s = true) : Fit s := fun {y c} hc i hi => by
  obtain ⟨ha, rfl⟩ := Array.getElem?_eq_some_iff.mp hc
  have q := List.all_eq_true.mp ((Array.all_eq_true_iff_forall_mem.mp hF) _ (Array.getElem_mem ha)) i (List.mem_range.mpr hi)
  simpa [Array.getElem?_eq_getElem hi] using q
theorem pn_com_example_tenorloom_tenorloom_bond_Bond : plainName "com/example/tenorloom/tenorloom/bond/Bond" = true := by first | (simp [plainName, overriddenIn]; done) | decide +kernel
theorem pn_com_example_tenorloom_tenorloom_bond_BondIsCurrencyCodePinLaw : plainName "com/example/tenorloom/tenorloom/bond/BondIsCurrencyCodePinLaw" = true := by first | (simp [plainName, overriddenIn]; done) | decide +kernel
theorem pn_java_lang_String : plainName "java/lang/String" = true := by first | (simp [plainName, overriddenIn]; done) | decide +kernel
theorem pn_java_lang_StringLatin1 : plainName "java/lang/StringLatin1" = true := by first | (simp [plainName, overriddenIn]; done) | decide +kernel
theorem pn_java_lang_StringUTF16 : plainName "java/lang/StringUTF16" = true := by first | (simp [plainName, overriddenIn]; done) | decide +kernel
theorem pn_jdk_internal_util_Preconditions : plainName "jdk/internal/util/Preconditions" = true := by first | (simp [plainName, overriddenIn]; done) | decide +kernel
theorem pd_0 : parseMethodDescriptor "()B" = some ⟨[], some .byte⟩ := by decide +kernel
theorem pd_1 : parseMethodDescriptor "()I" = some ⟨[], some .int⟩ := by decide +kernel
theorem pd_2 : parseMethodDescriptor "(IILjava/util/function/BiFunction;)I" = some ⟨[.int, .int, (.object "java/util/function/BiFunction")], some .int⟩ := by decide +kernel
theorem pd_3 : parseMethodDescriptor "(II)V" = some ⟨[.int, .int], none⟩ := by decide +kernel
theorem pd_4 : parseMethodDescriptor "()Z" = some ⟨[], some .boolean⟩ := by decide +kernel
theorem pd_5 : parseMethodDescriptor "([BI)C" = some ⟨[(.array .byte), .int], some .char⟩ := by decide +kernel
theorem pd_6 : parseMethodDescriptor "([B)I" = some ⟨[(.array .byte)], some .int⟩ := by decide +kernel
theorem pd_7 : parseMethodDescriptor "(I[B)V" = some ⟨[.int, (.array .byte)], none⟩ := by decide +kernel
theorem pd_8 : parseMethodDescriptor "(I)C" = some ⟨[.int], some .char⟩ := by decide +kernel
theorem pd_9 : parseMethodDescriptor "([CIILjava/lang/Void;)V" = some ⟨[(.array .char), .int, .int, (.object "java/lang/Void")], none⟩ := by decide +kernel
theorem pd_10 : parseMethodDescriptor "([C)V" = some ⟨[(.array .char)], none⟩ := by decide +kernel
theorem pd_11 : parseMethodDescriptor "(Ljava/lang/String;)Z" = some ⟨[(.object "java/lang/String")], some .boolean⟩ := by decide +kernel
theorem pd_12 : parseMethodDescriptor "([CI[BII)I" = some ⟨[(.array .char), .int, (.array .byte), .int, .int], some .int⟩ := by decide +kernel
theorem pd_13 : parseMethodDescriptor "([CII)[B" = some ⟨[(.array .char), .int, .int], some (.array .byte)⟩ := by decide +kernel
theorem pd_14 : parseMethodDescriptor "([BI)B" = some ⟨[(.array .byte), .int], some .byte⟩ := by decide +kernel
theorem pd_15 : parseMethodDescriptor "(I)I" = some ⟨[.int], some .int⟩ := by decide +kernel
theorem pd_16 : parseMethodDescriptor "(I)[B" = some ⟨[.int], some (.array .byte)⟩ := by decide +kernel
theorem pd_17 : parseMethodDescriptor "([BII)V" = some ⟨[(.array .byte), .int, .int], none⟩ := by decide +kernel
theorem pd_18 : parseMethodDescriptor "(C)Z" = some ⟨[.char], some .boolean⟩ := by decide +kernel
theorem own_EW {Z : State} {a0 : Array Value} (hw : ∀ d ∈ tables_1, d.before a0 Z = true) : EW Z a0 consts_1 := (EW.cons (tw hw 19 rfl) (by decide) EW.nil)
theorem own_sA {Z : State} {a0 : Array Value} (hw : ∀ d ∈ tables_1, d.before a0 Z = true) : ∀ a ∈ Bundle.stringAtoms, a.before a0 Z = true := by
  intro a ha
  simp only [Bundle.stringAtoms, List.mem_cons, List.not_mem_nil, or_false] at ha
  rcases ha with rfl | rfl | rfl | rfl | rfl | rfl | rfl
  · exact (tw hw 8 rfl)
  · exact (tw hw 7 rfl)
  · exact (tw hw 20 rfl)
  · exact (tw hw 21 rfl)
  · exact (tw hw 22 rfl)
  · exact (tw hw 23 rfl)
  · exact (tw hw 24 rfl)
theorem own_held {tb : Tables} {e : Env} {a : Array Value} {s : State} (h : Calls_1 tb e a s) : ∀ p ∈ consts_1, Jvm.Lit.constHeld s p.1 p.2 := fun p hp => h.1 p hp
theorem own_ch (e : Int32) : 0 ≤ (nar .char (nar .char e)).toInt ∧ (nar .char (nar .char e)).toInt < 65536 := by
  have := c_i2c (nar .char e)
  simp only [nar] at this ⊢
  exact this.2
theorem own_if0 {p : Prop} [Decidable p] (h : (if p then (1 : Int32) else 0) = 0) : ¬ p := fun e => by rw [if_pos e] at h; exact absurd h (by decide)
theorem own_if1 {p : Prop} [Decidable p] (h : ¬ (if p then (1 : Int32) else 0) = 0) : p := Classical.byContradiction fun e => h (if_neg e)
theorem own_len (i : Int32) : (i &&& (7 : Int32)) % (5 : Int32) = 0 ∨ (i &&& (7 : Int32)) % (5 : Int32) = 1 ∨ (i &&& (7 : Int32)) % (5 : Int32) = 2 ∨ (i &&& (7 : Int32)) % (5 : Int32) = 3 ∨ (i &&& (7 : Int32)) % (5 : Int32) = 4 := by
  have h0 := (c_and i 7 (by decide)).1
  have e := (c_irem (i &&& 7) 5 5 (by decide)).1 h0
  obtain ⟨j, h, e⟩ := natOf (n := 5) (i := (i &&& 7) % 5) (by omega) (by omega)
  rw [e]
  have h2 : j = 0 ∨ j = 1 ∨ j = 2 ∨ j = 3 ∨ j = 4 := by omega
  rcases h2 with rfl | rfl | rfl | rfl | rfl
  · exact Or.inl rfl
  · exact Or.inr (Or.inl rfl)
  · exact Or.inr (Or.inr (Or.inl rfl))
  · exact Or.inr (Or.inr (Or.inr (Or.inl rfl)))
  · exact Or.inr (Or.inr (Or.inr (Or.inr rfl)))
theorem efD (m : MethodId) (x0 : Int32) : entryFrame m #[(.int x0)] 1 = mkF m 0 #[.val (.int x0)] [] := by first | (simp [entryFrame, mkF, argsToLocals, Value.category]; done) | rfl
theorem efC (m : MethodId) (x0 : Int32) : entryFrame m #[(.int x0)] 1 = mkF m 0 #[.val (.int x0)] [] := by first | (simp [entryFrame, mkF, argsToLocals, Value.category]; done) | rfl
theorem efCC (m : MethodId) (x0 : Addr) : entryFrame m #[(.ref x0)] 3 = mkF m 0 #[.val (.ref x0), .unset, .unset] [] := by first | (simp [entryFrame, mkF, argsToLocals, Value.category]; done) | rfl
theorem ef0 (m : MethodId) (x0 : Int32) (x1 : Int32) (x2 : Int32) (x3 : Int32) (x4 : Int32) : entryFrame m #[(.int x0), (.int x1), (.int x2), (.int x3), (.int x4)] maxLocals = mkF m 0 #[.val (.int x0), .val (.int x1), .val (.int x2), .val (.int x3), .val (.int x4), .unset, .unset, .unset, .unset, .unset, .unset, .unset, .unset] [] := by first | (simp [entryFrame, mkF, argsToLocals, Value.category, maxLocals]; done) | rfl
theorem d7_0 : Dc jdk_42_method_152_code 0 (.getstatic 38) 3 3 := ⟨by decide +kernel, rfl⟩
theorem d7_3 : Dc jdk_42_method_152_code 3 (.ifCond .eq 10) 3 6 := ⟨by decide +kernel, rfl⟩
theorem d7_3t : Tg 3 (10) 13 := ⟨by decide, by decide⟩
theorem d7_6 : Dc jdk_42_method_152_code 6 (.aload_n 0) 1 7 := ⟨by decide +kernel, rfl⟩
theorem d7_7 : Dc jdk_42_method_152_code 7 (.getfield 15) 3 10 := ⟨by decide +kernel, rfl⟩
theorem d7_10 : Dc jdk_42_method_152_code 10 (.goto 4) 3 13 := ⟨by decide +kernel, rfl⟩
theorem d7_10t : Tg 10 (4) 14 := ⟨by decide, by decide⟩
theorem d7_13 : Dc jdk_42_method_152_code 13 (.iconst 1) 1 14 := ⟨by decide +kernel, rfl⟩
theorem d7_14 : Dc jdk_42_method_152_code 14 .ireturn 1 15 := ⟨by decide +kernel, rfl⟩
theorem d6_0 : Dc jdk_42_method_54_code 0 (.aload_n 0) 1 1 := ⟨by decide +kernel, rfl⟩
theorem d6_1 : Dc jdk_42_method_54_code 1 (.getfield 9) 3 4 := ⟨by decide +kernel, rfl⟩
theorem d6_4 : Dc jdk_42_method_54_code 4 .arraylength 1 5 := ⟨by decide +kernel, rfl⟩
theorem d6_5 : Dc jdk_42_method_54_code 5 (.aload_n 0) 1 6 := ⟨by decide +kernel, rfl⟩
theorem d6_6 : Dc jdk_42_method_54_code 6 (.invokevirtual 335) 3 9 := ⟨by decide +kernel, rfl⟩
theorem d6_9 : Dc jdk_42_method_54_code 9 .ishr 1 10 := ⟨by decide +kernel, rfl⟩
theorem d6_10 : Dc jdk_42_method_54_code 10 .ireturn 1 11 := ⟨by decide +kernel, rfl⟩
theorem d16_0 : Dc jdk_41_method_11_code 0 (.iload_n 0) 1 1 := ⟨by decide +kernel, rfl⟩
theorem d16_1 : Dc jdk_41_method_11_code 1 (.ifCond .lt 8) 3 4 := ⟨by decide +kernel, rfl⟩
theorem d16_1t : Tg 1 (8) 9 := ⟨by decide, by decide⟩
theorem d16_4 : Dc jdk_41_method_11_code 4 (.iload_n 0) 1 5 := ⟨by decide +kernel, rfl⟩
theorem d16_5 : Dc jdk_41_method_11_code 5 (.iload_n 1) 1 6 := ⟨by decide +kernel, rfl⟩
theorem d16_6 : Dc jdk_41_method_11_code 6 (.if_icmp .lt 10) 3 9 := ⟨by decide +kernel, rfl⟩
theorem d16_6t : Tg 6 (10) 16 := ⟨by decide, by decide⟩
theorem d16_9 : Dc jdk_41_method_11_code 9 (.aload_n 2) 1 10 := ⟨by decide +kernel, rfl⟩
theorem d16_10 : Dc jdk_41_method_11_code 10 (.iload_n 0) 1 11 := ⟨by decide +kernel, rfl⟩
theorem d16_11 : Dc jdk_41_method_11_code 11 (.iload_n 1) 1 12 := ⟨by decide +kernel, rfl⟩
theorem d16_12 : Dc jdk_41_method_11_code 12 (.invokestatic 95) 3 15 := ⟨by decide +kernel, rfl⟩
theorem d16_15 : Dc jdk_41_method_11_code 15 .athrow 1 16 := ⟨by decide +kernel, rfl⟩
theorem d16_16 : Dc jdk_41_method_11_code 16 (.iload_n 0) 1 17 := ⟨by decide +kernel, rfl⟩
theorem d16_17 : Dc jdk_41_method_11_code 17 .ireturn 1 18 := ⟨by decide +kernel, rfl⟩
theorem d15_0 : Dc jdk_42_method_155_code 0 (.iload_n 0) 1 1 := ⟨by decide +kernel, rfl⟩
theorem d15_1 : Dc jdk_42_method_155_code 1 (.iload_n 1) 1 2 := ⟨by decide +kernel, rfl⟩
theorem d15_2 : Dc jdk_42_method_155_code 2 (.getstatic 1053) 3 5 := ⟨by decide +kernel, rfl⟩
theorem d15_5 : Dc jdk_42_method_155_code 5 (.invokestatic 1059) 3 8 := ⟨by decide +kernel, rfl⟩
theorem d15_8 : Dc jdk_42_method_155_code 8 .pop 1 9 := ⟨by decide +kernel, rfl⟩
theorem d15_9 : Dc jdk_42_method_155_code 9 .return_ 1 10 := ⟨by decide +kernel, rfl⟩
theorem d13_0 : Dc jdk_42_method_154_code 0 (.getstatic 38) 3 3 := ⟨by decide +kernel, rfl⟩
theorem d13_3 : Dc jdk_42_method_154_code 3 (.ifCond .eq 14) 3 6 := ⟨by decide +kernel, rfl⟩
theorem d13_3t : Tg 3 (14) 17 := ⟨by decide, by decide⟩
theorem d13_6 : Dc jdk_42_method_154_code 6 (.aload_n 0) 1 7 := ⟨by decide +kernel, rfl⟩
theorem d13_7 : Dc jdk_42_method_154_code 7 (.getfield 15) 3 10 := ⟨by decide +kernel, rfl⟩
theorem d13_10 : Dc jdk_42_method_154_code 10 (.ifCond .ne 7) 3 13 := ⟨by decide +kernel, rfl⟩
theorem d13_10t : Tg 10 (7) 17 := ⟨by decide, by decide⟩
theorem d13_13 : Dc jdk_42_method_154_code 13 (.iconst 1) 1 14 := ⟨by decide +kernel, rfl⟩
theorem d13_14 : Dc jdk_42_method_154_code 14 (.goto 4) 3 17 := ⟨by decide +kernel, rfl⟩
theorem d13_14t : Tg 14 (4) 18 := ⟨by decide, by decide⟩
theorem d13_17 : Dc jdk_42_method_154_code 17 (.iconst 0) 1 18 := ⟨by decide +kernel, rfl⟩
theorem d13_18 : Dc jdk_42_method_154_code 18 .ireturn 1 19 := ⟨by decide +kernel, rfl⟩
theorem d14_0 : Dc jdk_43_method_2_code 0 (.iload_n 1) 1 1 := ⟨by decide +kernel, rfl⟩
theorem d14_1 : Dc jdk_43_method_2_code 1 (.aload_n 0) 1 2 := ⟨by decide +kernel, rfl⟩
theorem d14_2 : Dc jdk_43_method_2_code 2 .arraylength 1 3 := ⟨by decide +kernel, rfl⟩
theorem d14_3 : Dc jdk_43_method_2_code 3 (.invokestatic 9) 3 6 := ⟨by decide +kernel, rfl⟩
theorem d14_6 : Dc jdk_43_method_2_code 6 (.aload_n 0) 1 7 := ⟨by decide +kernel, rfl⟩
theorem d14_7 : Dc jdk_43_method_2_code 7 (.iload_n 1) 1 8 := ⟨by decide +kernel, rfl⟩
theorem d14_8 : Dc jdk_43_method_2_code 8 .baload 1 9 := ⟨by decide +kernel, rfl⟩
theorem d14_9 : Dc jdk_43_method_2_code 9 (.sipush 255) 3 12 := ⟨by decide +kernel, rfl⟩
theorem d14_12 : Dc jdk_43_method_2_code 12 .iand 1 13 := ⟨by decide +kernel, rfl⟩
theorem d14_13 : Dc jdk_43_method_2_code 13 .i2c 1 14 := ⟨by decide +kernel, rfl⟩
theorem d14_14 : Dc jdk_43_method_2_code 14 .ireturn 1 15 := ⟨by decide +kernel, rfl⟩
theorem d12_0 : Dc jdk_42_method_56_code 0 (.aload_n 0) 1 1 := ⟨by decide +kernel, rfl⟩
theorem d12_1 : Dc jdk_42_method_56_code 1 (.invokevirtual 492) 3 4 := ⟨by decide +kernel, rfl⟩
theorem d12_4 : Dc jdk_42_method_56_code 4 (.ifCond .eq 12) 3 7 := ⟨by decide +kernel, rfl⟩
theorem d12_4t : Tg 4 (12) 16 := ⟨by decide, by decide⟩
theorem d12_7 : Dc jdk_42_method_56_code 7 (.aload_n 0) 1 8 := ⟨by decide +kernel, rfl⟩
theorem d12_8 : Dc jdk_42_method_56_code 8 (.getfield 9) 3 11 := ⟨by decide +kernel, rfl⟩
theorem d12_11 : Dc jdk_42_method_56_code 11 (.iload_n 1) 1 12 := ⟨by decide +kernel, rfl⟩
theorem d12_12 : Dc jdk_42_method_56_code 12 (.invokestatic 495) 3 15 := ⟨by decide +kernel, rfl⟩
theorem d12_15 : Dc jdk_42_method_56_code 15 .ireturn 1 16 := ⟨by decide +kernel, rfl⟩
theorem d12_16 : Dc jdk_42_method_56_code 16 (.aload_n 0) 1 17 := ⟨by decide +kernel, rfl⟩
theorem d12_17 : Dc jdk_42_method_56_code 17 (.getfield 9) 3 20 := ⟨by decide +kernel, rfl⟩
theorem d12_20 : Dc jdk_42_method_56_code 20 (.iload_n 1) 1 21 := ⟨by decide +kernel, rfl⟩
theorem d12_21 : Dc jdk_42_method_56_code 21 (.invokestatic 498) 3 24 := ⟨by decide +kernel, rfl⟩
theorem d12_24 : Dc jdk_42_method_56_code 24 .ireturn 1 25 := ⟨by decide +kernel, rfl⟩
theorem d24_0 : Dc jdk_52_method_6_code 0 (.aload_n 0) 1 1 := ⟨by decide +kernel, rfl⟩
theorem d24_1 : Dc jdk_52_method_6_code 1 .arraylength 1 2 := ⟨by decide +kernel, rfl⟩
theorem d24_2 : Dc jdk_52_method_6_code 2 (.iconst 1) 1 3 := ⟨by decide +kernel, rfl⟩
theorem d24_3 : Dc jdk_52_method_6_code 3 .ishr 1 4 := ⟨by decide +kernel, rfl⟩
theorem d24_4 : Dc jdk_52_method_6_code 4 .ireturn 1 5 := ⟨by decide +kernel, rfl⟩
theorem d21_0 : Dc jdk_52_method_5_code 0 (.getstatic 44) 3 3 := ⟨by decide +kernel, rfl⟩
theorem d21_3 : Dc jdk_52_method_5_code 3 (.ifCond .ne 25) 3 6 := ⟨by decide +kernel, rfl⟩
theorem d21_3t : Tg 3 (25) 28 := ⟨by decide, by decide⟩
theorem d21_6 : Dc jdk_52_method_5_code 6 (.iload_n 1) 1 7 := ⟨by decide +kernel, rfl⟩
theorem d21_7 : Dc jdk_52_method_5_code 7 (.ifCond .lt 11) 3 10 := ⟨by decide +kernel, rfl⟩
theorem d21_7t : Tg 7 (11) 18 := ⟨by decide, by decide⟩
theorem d21_10 : Dc jdk_52_method_5_code 10 (.iload_n 1) 1 11 := ⟨by decide +kernel, rfl⟩
theorem d21_11 : Dc jdk_52_method_5_code 11 (.aload_n 0) 1 12 := ⟨by decide +kernel, rfl⟩
theorem d21_12 : Dc jdk_52_method_5_code 12 (.invokestatic 48) 3 15 := ⟨by decide +kernel, rfl⟩
theorem d21_15 : Dc jdk_52_method_5_code 15 (.if_icmp .lt 13) 3 18 := ⟨by decide +kernel, rfl⟩
theorem d21_15t : Tg 15 (13) 28 := ⟨by decide, by decide⟩
theorem d21_18 : Dc jdk_52_method_5_code 18 (.new 52) 3 21 := ⟨by decide +kernel, rfl⟩
theorem d21_21 : Dc jdk_52_method_5_code 21 .dup 1 22 := ⟨by decide +kernel, rfl⟩
theorem d21_22 : Dc jdk_52_method_5_code 22 (.ldc 54) 2 24 := ⟨by decide +kernel, rfl⟩
theorem d21_24 : Dc jdk_52_method_5_code 24 (.invokespecial 56) 3 27 := ⟨by decide +kernel, rfl⟩
theorem d21_27 : Dc jdk_52_method_5_code 27 .athrow 1 28 := ⟨by decide +kernel, rfl⟩
theorem d21_28 : Dc jdk_52_method_5_code 28 (.iload_n 1) 1 29 := ⟨by decide +kernel, rfl⟩
theorem d21_29 : Dc jdk_52_method_5_code 29 (.iconst 1) 1 30 := ⟨by decide +kernel, rfl⟩
theorem d21_30 : Dc jdk_52_method_5_code 30 .ishl 1 31 := ⟨by decide +kernel, rfl⟩
theorem d21_31 : Dc jdk_52_method_5_code 31 (.istore_n 1) 1 32 := ⟨by decide +kernel, rfl⟩
theorem d21_32 : Dc jdk_52_method_5_code 32 (.aload_n 0) 1 33 := ⟨by decide +kernel, rfl⟩
theorem d21_33 : Dc jdk_52_method_5_code 33 (.iload_n 1) 1 34 := ⟨by decide +kernel, rfl⟩
theorem d21_34 : Dc jdk_52_method_5_code 34 (.iinc 1 1) 3 37 := ⟨by decide +kernel, rfl⟩
theorem d21_37 : Dc jdk_52_method_5_code 37 .baload 1 38 := ⟨by decide +kernel, rfl⟩
theorem d21_38 : Dc jdk_52_method_5_code 38 (.sipush 255) 3 41 := ⟨by decide +kernel, rfl⟩
theorem d21_41 : Dc jdk_52_method_5_code 41 .iand 1 42 := ⟨by decide +kernel, rfl⟩
theorem d21_42 : Dc jdk_52_method_5_code 42 (.getstatic 59) 3 45 := ⟨by decide +kernel, rfl⟩
theorem d21_45 : Dc jdk_52_method_5_code 45 .ishl 1 46 := ⟨by decide +kernel, rfl⟩
theorem d21_46 : Dc jdk_52_method_5_code 46 (.aload_n 0) 1 47 := ⟨by decide +kernel, rfl⟩
theorem d21_47 : Dc jdk_52_method_5_code 47 (.iload_n 1) 1 48 := ⟨by decide +kernel, rfl⟩
theorem d21_48 : Dc jdk_52_method_5_code 48 .baload 1 49 := ⟨by decide +kernel, rfl⟩
theorem d21_49 : Dc jdk_52_method_5_code 49 (.sipush 255) 3 52 := ⟨by decide +kernel, rfl⟩
theorem d21_52 : Dc jdk_52_method_5_code 52 .iand 1 53 := ⟨by decide +kernel, rfl⟩
theorem d21_53 : Dc jdk_52_method_5_code 53 (.getstatic 63) 3 56 := ⟨by decide +kernel, rfl⟩
theorem d21_56 : Dc jdk_52_method_5_code 56 .ishl 1 57 := ⟨by decide +kernel, rfl⟩
theorem d21_57 : Dc jdk_52_method_5_code 57 .ior 1 58 := ⟨by decide +kernel, rfl⟩
theorem d21_58 : Dc jdk_52_method_5_code 58 .i2c 1 59 := ⟨by decide +kernel, rfl⟩
theorem d21_59 : Dc jdk_52_method_5_code 59 .ireturn 1 60 := ⟨by decide +kernel, rfl⟩
theorem d23_0 : Dc jdk_52_method_91_code 0 (.iload_n 0) 1 1 := ⟨by decide +kernel, rfl⟩
theorem d23_1 : Dc jdk_52_method_91_code 1 (.aload_n 1) 1 2 := ⟨by decide +kernel, rfl⟩
theorem d23_2 : Dc jdk_52_method_91_code 2 (.invokestatic 48) 3 5 := ⟨by decide +kernel, rfl⟩
theorem d23_5 : Dc jdk_52_method_91_code 5 (.invokestatic 414) 3 8 := ⟨by decide +kernel, rfl⟩
theorem d23_8 : Dc jdk_52_method_91_code 8 .return_ 1 9 := ⟨by decide +kernel, rfl⟩
theorem d22_0 : Dc jdk_52_method_83_code 0 (.iload_n 1) 1 1 := ⟨by decide +kernel, rfl⟩
theorem d22_1 : Dc jdk_52_method_83_code 1 (.aload_n 0) 1 2 := ⟨by decide +kernel, rfl⟩
theorem d22_2 : Dc jdk_52_method_83_code 2 (.invokestatic 67) 3 5 := ⟨by decide +kernel, rfl⟩
theorem d22_5 : Dc jdk_52_method_83_code 5 (.aload_n 0) 1 6 := ⟨by decide +kernel, rfl⟩
theorem d22_6 : Dc jdk_52_method_83_code 6 (.iload_n 1) 1 7 := ⟨by decide +kernel, rfl⟩
theorem d22_7 : Dc jdk_52_method_83_code 7 (.invokestatic 71) 3 10 := ⟨by decide +kernel, rfl⟩
theorem d22_10 : Dc jdk_52_method_83_code 10 .ireturn 1 11 := ⟨by decide +kernel, rfl⟩
theorem d3_0 : Dc jdk_42_method_149_code 0 (.aload_n 0) 1 1 := ⟨by decide +kernel, rfl⟩
theorem d3_1 : Dc jdk_42_method_149_code 1 (.invokespecial 1) 3 4 := ⟨by decide +kernel, rfl⟩
theorem d3_4 : Dc jdk_42_method_149_code 4 (.iload_n 3) 1 5 := ⟨by decide +kernel, rfl⟩
theorem d3_5 : Dc jdk_42_method_149_code 5 (.ifCond .ne 22) 3 8 := ⟨by decide +kernel, rfl⟩
theorem d3_5t : Tg 5 (22) 27 := ⟨by decide, by decide⟩
theorem d3_8 : Dc jdk_42_method_149_code 8 (.aload_n 0) 1 9 := ⟨by decide +kernel, rfl⟩
theorem d3_9 : Dc jdk_42_method_149_code 9 (.ldc 7) 2 11 := ⟨by decide +kernel, rfl⟩
theorem d3_11 : Dc jdk_42_method_149_code 11 (.getfield 9) 3 14 := ⟨by decide +kernel, rfl⟩
theorem d3_14 : Dc jdk_42_method_149_code 14 (.putfield 9) 3 17 := ⟨by decide +kernel, rfl⟩
theorem d3_17 : Dc jdk_42_method_149_code 17 (.aload_n 0) 1 18 := ⟨by decide +kernel, rfl⟩
theorem d3_18 : Dc jdk_42_method_149_code 18 (.ldc 7) 2 20 := ⟨by decide +kernel, rfl⟩
theorem d3_20 : Dc jdk_42_method_149_code 20 (.getfield 15) 3 23 := ⟨by decide +kernel, rfl⟩
theorem d3_23 : Dc jdk_42_method_149_code 23 (.putfield 15) 3 26 := ⟨by decide +kernel, rfl⟩
theorem d3_26 : Dc jdk_42_method_149_code 26 .return_ 1 27 := ⟨by decide +kernel, rfl⟩
theorem d3_27 : Dc jdk_42_method_149_code 27 (.getstatic 38) 3 30 := ⟨by decide +kernel, rfl⟩
theorem d3_30 : Dc jdk_42_method_149_code 30 (.ifCond .eq 28) 3 33 := ⟨by decide +kernel, rfl⟩
theorem d3_30t : Tg 30 (28) 58 := ⟨by decide, by decide⟩
theorem d3_33 : Dc jdk_42_method_149_code 33 (.aload_n 1) 1 34 := ⟨by decide +kernel, rfl⟩
theorem d3_34 : Dc jdk_42_method_149_code 34 (.iload_n 2) 1 35 := ⟨by decide +kernel, rfl⟩
theorem d3_35 : Dc jdk_42_method_149_code 35 (.iload_n 3) 1 36 := ⟨by decide +kernel, rfl⟩
theorem d3_36 : Dc jdk_42_method_149_code 36 (.invokestatic 177) 3 39 := ⟨by decide +kernel, rfl⟩
theorem d3_39 : Dc jdk_42_method_149_code 39 (.astore 5) 2 41 := ⟨by decide +kernel, rfl⟩
theorem d3_41 : Dc jdk_42_method_149_code 41 (.aload_n 0) 1 42 := ⟨by decide +kernel, rfl⟩
theorem d3_42 : Dc jdk_42_method_149_code 42 (.aload 5) 2 44 := ⟨by decide +kernel, rfl⟩
theorem d3_44 : Dc jdk_42_method_149_code 44 (.iload_n 3) 1 45 := ⟨by decide +kernel, rfl⟩
theorem d3_45 : Dc jdk_42_method_149_code 45 (.invokestatic 47) 3 48 := ⟨by decide +kernel, rfl⟩
theorem d3_48 : Dc jdk_42_method_149_code 48 (.putfield 15) 3 51 := ⟨by decide +kernel, rfl⟩
theorem d3_51 : Dc jdk_42_method_149_code 51 (.aload_n 0) 1 52 := ⟨by decide +kernel, rfl⟩
theorem d3_52 : Dc jdk_42_method_149_code 52 (.aload 5) 2 54 := ⟨by decide +kernel, rfl⟩
theorem d3_54 : Dc jdk_42_method_149_code 54 (.putfield 9) 3 57 := ⟨by decide +kernel, rfl⟩
theorem d3_57 : Dc jdk_42_method_149_code 57 .return_ 1 58 := ⟨by decide +kernel, rfl⟩
theorem d3_58 : Dc jdk_42_method_149_code 58 (.aload_n 0) 1 59 := ⟨by decide +kernel, rfl⟩
theorem d3_59 : Dc jdk_42_method_149_code 59 (.iconst 1) 1 60 := ⟨by decide +kernel, rfl⟩
theorem d3_60 : Dc jdk_42_method_149_code 60 (.putfield 15) 3 63 := ⟨by decide +kernel, rfl⟩
theorem d3_63 : Dc jdk_42_method_149_code 63 (.aload_n 0) 1 64 := ⟨by decide +kernel, rfl⟩
theorem d3_64 : Dc jdk_42_method_149_code 64 (.aload_n 1) 1 65 := ⟨by decide +kernel, rfl⟩
theorem d3_65 : Dc jdk_42_method_149_code 65 (.iload_n 2) 1 66 := ⟨by decide +kernel, rfl⟩
theorem d3_66 : Dc jdk_42_method_149_code 66 (.iload_n 3) 1 67 := ⟨by decide +kernel, rfl⟩
theorem d3_67 : Dc jdk_42_method_149_code 67 (.invokestatic 180) 3 70 := ⟨by decide +kernel, rfl⟩
theorem d3_70 : Dc jdk_42_method_149_code 70 (.putfield 9) 3 73 := ⟨by decide +kernel, rfl⟩
theorem d3_73 : Dc jdk_42_method_149_code 73 .return_ 1 74 := ⟨by decide +kernel, rfl⟩
theorem d2_0 : Dc jdk_42_method_3_code 0 (.aload_n 0) 1 1 := ⟨by decide +kernel, rfl⟩
theorem d2_1 : Dc jdk_42_method_3_code 1 (.aload_n 1) 1 2 := ⟨by decide +kernel, rfl⟩
theorem d2_2 : Dc jdk_42_method_3_code 2 (.iconst 0) 1 3 := ⟨by decide +kernel, rfl⟩
theorem d2_3 : Dc jdk_42_method_3_code 3 (.aload_n 1) 1 4 := ⟨by decide +kernel, rfl⟩
theorem d2_4 : Dc jdk_42_method_3_code 4 .arraylength 1 5 := ⟨by decide +kernel, rfl⟩
theorem d2_5 : Dc jdk_42_method_3_code 5 .aconst_null 1 6 := ⟨by decide +kernel, rfl⟩
theorem d2_6 : Dc jdk_42_method_3_code 6 (.invokespecial 27) 3 9 := ⟨by decide +kernel, rfl⟩
theorem d2_9 : Dc jdk_42_method_3_code 9 .return_ 1 10 := ⟨by decide +kernel, rfl⟩
theorem d9_0 : Dc jdk_52_method_21_code 0 (.iconst 0) 1 1 := ⟨by decide +kernel, rfl⟩
theorem d9_1 : Dc jdk_52_method_21_code 1 (.istore 5) 2 3 := ⟨by decide +kernel, rfl⟩
theorem d9_3 : Dc jdk_52_method_21_code 3 (.iload 5) 2 5 := ⟨by decide +kernel, rfl⟩
theorem d9_5 : Dc jdk_52_method_21_code 5 (.iload 4) 2 7 := ⟨by decide +kernel, rfl⟩
theorem d9_7 : Dc jdk_52_method_21_code 7 (.if_icmp .ge 37) 3 10 := ⟨by decide +kernel, rfl⟩
theorem d9_7t : Tg 7 (37) 44 := ⟨by decide, by decide⟩
theorem d9_10 : Dc jdk_52_method_21_code 10 (.aload_n 0) 1 11 := ⟨by decide +kernel, rfl⟩
theorem d9_11 : Dc jdk_52_method_21_code 11 (.iload_n 1) 1 12 := ⟨by decide +kernel, rfl⟩
theorem d9_12 : Dc jdk_52_method_21_code 12 .caload 1 13 := ⟨by decide +kernel, rfl⟩
theorem d9_13 : Dc jdk_52_method_21_code 13 (.istore 6) 2 15 := ⟨by decide +kernel, rfl⟩
theorem d9_15 : Dc jdk_52_method_21_code 15 (.iload 6) 2 17 := ⟨by decide +kernel, rfl⟩
theorem d9_17 : Dc jdk_52_method_21_code 17 (.sipush 255) 3 20 := ⟨by decide +kernel, rfl⟩
theorem d9_20 : Dc jdk_52_method_21_code 20 (.if_icmp .le 6) 3 23 := ⟨by decide +kernel, rfl⟩
theorem d9_20t : Tg 20 (6) 26 := ⟨by decide, by decide⟩
theorem d9_23 : Dc jdk_52_method_21_code 23 (.iload 5) 2 25 := ⟨by decide +kernel, rfl⟩
theorem d9_25 : Dc jdk_52_method_21_code 25 .ireturn 1 26 := ⟨by decide +kernel, rfl⟩
theorem d9_26 : Dc jdk_52_method_21_code 26 (.aload_n 2) 1 27 := ⟨by decide +kernel, rfl⟩
theorem d9_27 : Dc jdk_52_method_21_code 27 (.iload_n 3) 1 28 := ⟨by decide +kernel, rfl⟩
theorem d9_28 : Dc jdk_52_method_21_code 28 (.iload 6) 2 30 := ⟨by decide +kernel, rfl⟩
theorem d9_30 : Dc jdk_52_method_21_code 30 .i2b 1 31 := ⟨by decide +kernel, rfl⟩
theorem d9_31 : Dc jdk_52_method_21_code 31 .bastore 1 32 := ⟨by decide +kernel, rfl⟩
theorem d9_32 : Dc jdk_52_method_21_code 32 (.iinc 1 1) 3 35 := ⟨by decide +kernel, rfl⟩
theorem d9_35 : Dc jdk_52_method_21_code 35 (.iinc 3 1) 3 38 := ⟨by decide +kernel, rfl⟩
theorem d9_38 : Dc jdk_52_method_21_code 38 (.iinc 5 1) 3 41 := ⟨by decide +kernel, rfl⟩
theorem d9_41 : Dc jdk_52_method_21_code 41 (.goto (-38)) 3 44 := ⟨by decide +kernel, rfl⟩
theorem d9_41t : Tg 41 (-38) 3 := ⟨by decide, by decide⟩
theorem d9_44 : Dc jdk_52_method_21_code 44 (.iload 4) 2 46 := ⟨by decide +kernel, rfl⟩
theorem d9_46 : Dc jdk_52_method_21_code 46 .ireturn 1 47 := ⟨by decide +kernel, rfl⟩
theorem d8_0 : Dc jdk_52_method_16_code 0 (.iload_n 2) 1 1 := ⟨by decide +kernel, rfl⟩
theorem d8_1 : Dc jdk_52_method_16_code 1 (.newarray .byte) 2 3 := ⟨by decide +kernel, rfl⟩
theorem d8_3 : Dc jdk_52_method_16_code 3 (.astore_n 3) 1 4 := ⟨by decide +kernel, rfl⟩
theorem d8_4 : Dc jdk_52_method_16_code 4 (.aload_n 0) 1 5 := ⟨by decide +kernel, rfl⟩
theorem d8_5 : Dc jdk_52_method_16_code 5 (.iload_n 1) 1 6 := ⟨by decide +kernel, rfl⟩
theorem d8_6 : Dc jdk_52_method_16_code 6 (.aload_n 3) 1 7 := ⟨by decide +kernel, rfl⟩
theorem d8_7 : Dc jdk_52_method_16_code 7 (.iconst 0) 1 8 := ⟨by decide +kernel, rfl⟩
theorem d8_8 : Dc jdk_52_method_16_code 8 (.iload_n 2) 1 9 := ⟨by decide +kernel, rfl⟩
theorem d8_9 : Dc jdk_52_method_16_code 9 (.invokestatic 115) 3 12 := ⟨by decide +kernel, rfl⟩
theorem d8_12 : Dc jdk_52_method_16_code 12 (.istore 4) 2 14 := ⟨by decide +kernel, rfl⟩
theorem d8_14 : Dc jdk_52_method_16_code 14 (.iload 4) 2 16 := ⟨by decide +kernel, rfl⟩
theorem d8_16 : Dc jdk_52_method_16_code 16 (.iload_n 2) 1 17 := ⟨by decide +kernel, rfl⟩
theorem d8_17 : Dc jdk_52_method_16_code 17 (.if_icmp .eq 40) 3 20 := ⟨by decide +kernel, rfl⟩
theorem d8_17t : Tg 17 (40) 57 := ⟨by decide, by decide⟩
theorem d8_20 : Dc jdk_52_method_16_code 20 (.aload_n 0) 1 21 := ⟨by decide +kernel, rfl⟩
theorem d8_21 : Dc jdk_52_method_16_code 21 (.iload_n 1) 1 22 := ⟨by decide +kernel, rfl⟩
theorem d8_22 : Dc jdk_52_method_16_code 22 (.iload_n 2) 1 23 := ⟨by decide +kernel, rfl⟩
theorem d8_23 : Dc jdk_52_method_16_code 23 (.invokestatic 119) 3 26 := ⟨by decide +kernel, rfl⟩
theorem d8_26 : Dc jdk_52_method_16_code 26 (.astore 5) 2 28 := ⟨by decide +kernel, rfl⟩
theorem d8_28 : Dc jdk_52_method_16_code 28 (.aload 5) 2 30 := ⟨by decide +kernel, rfl⟩
theorem d8_30 : Dc jdk_52_method_16_code 30 (.iload 4) 2 32 := ⟨by decide +kernel, rfl⟩
theorem d8_32 : Dc jdk_52_method_16_code 32 (.invokestatic 71) 3 35 := ⟨by decide +kernel, rfl⟩
theorem d8_35 : Dc jdk_52_method_16_code 35 (.sipush 255) 3 38 := ⟨by decide +kernel, rfl⟩
theorem d8_38 : Dc jdk_52_method_16_code 38 (.if_icmp .gt 16) 3 41 := ⟨by decide +kernel, rfl⟩
theorem d8_38t : Tg 38 (16) 54 := ⟨by decide, by decide⟩
theorem d8_41 : Dc jdk_52_method_16_code 41 (.aload 5) 2 43 := ⟨by decide +kernel, rfl⟩
theorem d8_43 : Dc jdk_52_method_16_code 43 (.iconst 0) 1 44 := ⟨by decide +kernel, rfl⟩
theorem d8_44 : Dc jdk_52_method_16_code 44 (.aload_n 3) 1 45 := ⟨by decide +kernel, rfl⟩
theorem d8_45 : Dc jdk_52_method_16_code 45 (.iconst 0) 1 46 := ⟨by decide +kernel, rfl⟩
theorem d8_46 : Dc jdk_52_method_16_code 46 (.iload_n 2) 1 47 := ⟨by decide +kernel, rfl⟩
theorem d8_47 : Dc jdk_52_method_16_code 47 (.invokestatic 123) 3 50 := ⟨by decide +kernel, rfl⟩
theorem d8_50 : Dc jdk_52_method_16_code 50 (.iload_n 2) 1 51 := ⟨by decide +kernel, rfl⟩
theorem d8_51 : Dc jdk_52_method_16_code 51 (.if_icmp .eq 6) 3 54 := ⟨by decide +kernel, rfl⟩
theorem d8_51t : Tg 51 (6) 57 := ⟨by decide, by decide⟩
theorem d8_54 : Dc jdk_52_method_16_code 54 (.aload 5) 2 56 := ⟨by decide +kernel, rfl⟩
theorem d8_56 : Dc jdk_52_method_16_code 56 .areturn 1 57 := ⟨by decide +kernel, rfl⟩
theorem d8_57 : Dc jdk_52_method_16_code 57 (.aload_n 3) 1 58 := ⟨by decide +kernel, rfl⟩
theorem d8_58 : Dc jdk_52_method_16_code 58 .areturn 1 59 := ⟨by decide +kernel, rfl⟩
theorem d10_0 : Dc jdk_52_method_15_code 0 (.iload_n 1) 1 1 := ⟨by decide +kernel, rfl⟩
theorem d10_1 : Dc jdk_52_method_15_code 1 (.aload_n 0) 1 2 := ⟨by decide +kernel, rfl⟩
theorem d10_2 : Dc jdk_52_method_15_code 2 .arraylength 1 3 := ⟨by decide +kernel, rfl⟩
theorem d10_3 : Dc jdk_52_method_15_code 3 .isub 1 4 := ⟨by decide +kernel, rfl⟩
theorem d10_4 : Dc jdk_52_method_15_code 4 (.bipush 31) 2 6 := ⟨by decide +kernel, rfl⟩
theorem d10_6 : Dc jdk_52_method_15_code 6 .iushr 1 7 := ⟨by decide +kernel, rfl⟩
theorem d10_7 : Dc jdk_52_method_15_code 7 .i2b 1 8 := ⟨by decide +kernel, rfl⟩
theorem d10_8 : Dc jdk_52_method_15_code 8 .ireturn 1 9 := ⟨by decide +kernel, rfl⟩
theorem d19_0 : Dc jdk_52_method_3_code 0 (.iload_n 0) 1 1 := ⟨by decide +kernel, rfl⟩
theorem d19_1 : Dc jdk_52_method_3_code 1 (.ifCond .ge 11) 3 4 := ⟨by decide +kernel, rfl⟩
theorem d19_1t : Tg 1 (11) 12 := ⟨by decide, by decide⟩
theorem d19_4 : Dc jdk_52_method_3_code 4 (.new 17) 3 7 := ⟨by decide +kernel, rfl⟩
theorem d19_7 : Dc jdk_52_method_3_code 7 .dup 1 8 := ⟨by decide +kernel, rfl⟩
theorem d19_8 : Dc jdk_52_method_3_code 8 (.invokespecial 19) 3 11 := ⟨by decide +kernel, rfl⟩
theorem d19_11 : Dc jdk_52_method_3_code 11 .athrow 1 12 := ⟨by decide +kernel, rfl⟩
theorem d19_12 : Dc jdk_52_method_3_code 12 (.iload_n 0) 1 13 := ⟨by decide +kernel, rfl⟩
theorem d19_13 : Dc jdk_52_method_3_code 13 (.ldc 20) 2 15 := ⟨by decide +kernel, rfl⟩
theorem d19_15 : Dc jdk_52_method_3_code 15 (.if_icmp .lt 40) 3 18 := ⟨by decide +kernel, rfl⟩
theorem d19_15t : Tg 15 (40) 55 := ⟨by decide, by decide⟩
theorem d19_18 : Dc jdk_52_method_3_code 18 (.new 21) 3 21 := ⟨by decide +kernel, rfl⟩
theorem d19_21 : Dc jdk_52_method_3_code 21 .dup 1 22 := ⟨by decide +kernel, rfl⟩
theorem d19_22 : Dc jdk_52_method_3_code 22 (.new 23) 3 25 := ⟨by decide +kernel, rfl⟩
theorem d19_25 : Dc jdk_52_method_3_code 25 .dup 1 26 := ⟨by decide +kernel, rfl⟩
theorem d19_26 : Dc jdk_52_method_3_code 26 (.invokespecial 25) 3 29 := ⟨by decide +kernel, rfl⟩
theorem d19_29 : Dc jdk_52_method_3_code 29 (.ldc 26) 2 31 := ⟨by decide +kernel, rfl⟩
theorem d19_31 : Dc jdk_52_method_3_code 31 (.invokevirtual 28) 3 34 := ⟨by decide +kernel, rfl⟩
theorem d19_34 : Dc jdk_52_method_3_code 34 (.iload_n 0) 1 35 := ⟨by decide +kernel, rfl⟩
theorem d19_35 : Dc jdk_52_method_3_code 35 (.invokevirtual 32) 3 38 := ⟨by decide +kernel, rfl⟩
theorem d19_38 : Dc jdk_52_method_3_code 38 (.ldc 35) 2 40 := ⟨by decide +kernel, rfl⟩
theorem d19_40 : Dc jdk_52_method_3_code 40 (.invokevirtual 28) 3 43 := ⟨by decide +kernel, rfl⟩
theorem d19_43 : Dc jdk_52_method_3_code 43 (.ldc 20) 2 45 := ⟨by decide +kernel, rfl⟩
theorem d19_45 : Dc jdk_52_method_3_code 45 (.invokevirtual 32) 3 48 := ⟨by decide +kernel, rfl⟩
theorem d19_48 : Dc jdk_52_method_3_code 48 (.invokevirtual 37) 3 51 := ⟨by decide +kernel, rfl⟩
theorem d19_51 : Dc jdk_52_method_3_code 51 (.invokespecial 41) 3 54 := ⟨by decide +kernel, rfl⟩
theorem d19_54 : Dc jdk_52_method_3_code 54 .athrow 1 55 := ⟨by decide +kernel, rfl⟩
theorem d19_55 : Dc jdk_52_method_3_code 55 (.iload_n 0) 1 56 := ⟨by decide +kernel, rfl⟩
theorem d19_56 : Dc jdk_52_method_3_code 56 (.iconst 1) 1 57 := ⟨by decide +kernel, rfl⟩
theorem d19_57 : Dc jdk_52_method_3_code 57 .ishl 1 58 := ⟨by decide +kernel, rfl⟩
theorem d19_58 : Dc jdk_52_method_3_code 58 .ireturn 1 59 := ⟨by decide +kernel, rfl⟩
theorem d18_0 : Dc jdk_52_method_2_code 0 (.iload_n 0) 1 1 := ⟨by decide +kernel, rfl⟩
theorem d18_1 : Dc jdk_52_method_2_code 1 (.invokestatic 11) 3 4 := ⟨by decide +kernel, rfl⟩
theorem d18_4 : Dc jdk_52_method_2_code 4 (.newarray .byte) 2 6 := ⟨by decide +kernel, rfl⟩
theorem d18_6 : Dc jdk_52_method_2_code 6 .areturn 1 7 := ⟨by decide +kernel, rfl⟩
theorem d20_0 : Dc jdk_52_method_4_code 0 (.getstatic 44) 3 3 := ⟨by decide +kernel, rfl⟩
theorem d20_3 : Dc jdk_52_method_4_code 3 (.ifCond .ne 25) 3 6 := ⟨by decide +kernel, rfl⟩
theorem d20_3t : Tg 3 (25) 28 := ⟨by decide, by decide⟩
theorem d20_6 : Dc jdk_52_method_4_code 6 (.iload_n 1) 1 7 := ⟨by decide +kernel, rfl⟩
theorem d20_7 : Dc jdk_52_method_4_code 7 (.ifCond .lt 11) 3 10 := ⟨by decide +kernel, rfl⟩
theorem d20_7t : Tg 7 (11) 18 := ⟨by decide, by decide⟩
theorem d20_10 : Dc jdk_52_method_4_code 10 (.iload_n 1) 1 11 := ⟨by decide +kernel, rfl⟩
theorem d20_11 : Dc jdk_52_method_4_code 11 (.aload_n 0) 1 12 := ⟨by decide +kernel, rfl⟩
theorem d20_12 : Dc jdk_52_method_4_code 12 (.invokestatic 48) 3 15 := ⟨by decide +kernel, rfl⟩
theorem d20_15 : Dc jdk_52_method_4_code 15 (.if_icmp .lt 13) 3 18 := ⟨by decide +kernel, rfl⟩
theorem d20_15t : Tg 15 (13) 28 := ⟨by decide, by decide⟩
theorem d20_18 : Dc jdk_52_method_4_code 18 (.new 52) 3 21 := ⟨by decide +kernel, rfl⟩
theorem d20_21 : Dc jdk_52_method_4_code 21 .dup 1 22 := ⟨by decide +kernel, rfl⟩
theorem d20_22 : Dc jdk_52_method_4_code 22 (.ldc 54) 2 24 := ⟨by decide +kernel, rfl⟩
theorem d20_24 : Dc jdk_52_method_4_code 24 (.invokespecial 56) 3 27 := ⟨by decide +kernel, rfl⟩
theorem d20_27 : Dc jdk_52_method_4_code 27 .athrow 1 28 := ⟨by decide +kernel, rfl⟩
theorem d20_28 : Dc jdk_52_method_4_code 28 (.iload_n 1) 1 29 := ⟨by decide +kernel, rfl⟩
theorem d20_29 : Dc jdk_52_method_4_code 29 (.iconst 1) 1 30 := ⟨by decide +kernel, rfl⟩
theorem d20_30 : Dc jdk_52_method_4_code 30 .ishl 1 31 := ⟨by decide +kernel, rfl⟩
theorem d20_31 : Dc jdk_52_method_4_code 31 (.istore_n 1) 1 32 := ⟨by decide +kernel, rfl⟩
theorem d20_32 : Dc jdk_52_method_4_code 32 (.aload_n 0) 1 33 := ⟨by decide +kernel, rfl⟩
theorem d20_33 : Dc jdk_52_method_4_code 33 (.iload_n 1) 1 34 := ⟨by decide +kernel, rfl⟩
theorem d20_34 : Dc jdk_52_method_4_code 34 (.iinc 1 1) 3 37 := ⟨by decide +kernel, rfl⟩
theorem d20_37 : Dc jdk_52_method_4_code 37 (.iload_n 2) 1 38 := ⟨by decide +kernel, rfl⟩
theorem d20_38 : Dc jdk_52_method_4_code 38 (.getstatic 59) 3 41 := ⟨by decide +kernel, rfl⟩
theorem d20_41 : Dc jdk_52_method_4_code 41 .ishr 1 42 := ⟨by decide +kernel, rfl⟩
theorem d20_42 : Dc jdk_52_method_4_code 42 .i2b 1 43 := ⟨by decide +kernel, rfl⟩
theorem d20_43 : Dc jdk_52_method_4_code 43 .bastore 1 44 := ⟨by decide +kernel, rfl⟩
theorem d20_44 : Dc jdk_52_method_4_code 44 (.aload_n 0) 1 45 := ⟨by decide +kernel, rfl⟩
theorem d20_45 : Dc jdk_52_method_4_code 45 (.iload_n 1) 1 46 := ⟨by decide +kernel, rfl⟩
theorem d20_46 : Dc jdk_52_method_4_code 46 (.iload_n 2) 1 47 := ⟨by decide +kernel, rfl⟩
theorem d20_47 : Dc jdk_52_method_4_code 47 (.getstatic 63) 3 50 := ⟨by decide +kernel, rfl⟩
theorem d20_50 : Dc jdk_52_method_4_code 50 .ishr 1 51 := ⟨by decide +kernel, rfl⟩
theorem d20_51 : Dc jdk_52_method_4_code 51 .i2b 1 52 := ⟨by decide +kernel, rfl⟩
theorem d20_52 : Dc jdk_52_method_4_code 52 .bastore 1 53 := ⟨by decide +kernel, rfl⟩
theorem d20_53 : Dc jdk_52_method_4_code 53 .return_ 1 54 := ⟨by decide +kernel, rfl⟩
theorem d17_0 : Dc jdk_52_method_14_code 0 (.iload_n 2) 1 1 := ⟨by decide +kernel, rfl⟩
theorem d17_1 : Dc jdk_52_method_14_code 1 (.invokestatic 107) 3 4 := ⟨by decide +kernel, rfl⟩
theorem d17_4 : Dc jdk_52_method_14_code 4 (.astore_n 3) 1 5 := ⟨by decide +kernel, rfl⟩
theorem d17_5 : Dc jdk_52_method_14_code 5 (.iconst 0) 1 6 := ⟨by decide +kernel, rfl⟩
theorem d17_6 : Dc jdk_52_method_14_code 6 (.istore 4) 2 8 := ⟨by decide +kernel, rfl⟩
theorem d17_8 : Dc jdk_52_method_14_code 8 (.iload 4) 2 10 := ⟨by decide +kernel, rfl⟩
theorem d17_10 : Dc jdk_52_method_14_code 10 (.iload_n 2) 1 11 := ⟨by decide +kernel, rfl⟩
theorem d17_11 : Dc jdk_52_method_14_code 11 (.if_icmp .ge 21) 3 14 := ⟨by decide +kernel, rfl⟩
theorem d17_11t : Tg 11 (21) 32 := ⟨by decide, by decide⟩
theorem d17_14 : Dc jdk_52_method_14_code 14 (.aload_n 3) 1 15 := ⟨by decide +kernel, rfl⟩
theorem d17_15 : Dc jdk_52_method_14_code 15 (.iload 4) 2 17 := ⟨by decide +kernel, rfl⟩
theorem d17_17 : Dc jdk_52_method_14_code 17 (.aload_n 0) 1 18 := ⟨by decide +kernel, rfl⟩
theorem d17_18 : Dc jdk_52_method_14_code 18 (.iload_n 1) 1 19 := ⟨by decide +kernel, rfl⟩
theorem d17_19 : Dc jdk_52_method_14_code 19 .caload 1 20 := ⟨by decide +kernel, rfl⟩
theorem d17_20 : Dc jdk_52_method_14_code 20 (.invokestatic 111) 3 23 := ⟨by decide +kernel, rfl⟩
theorem d17_23 : Dc jdk_52_method_14_code 23 (.iinc 1 1) 3 26 := ⟨by decide +kernel, rfl⟩
theorem d17_26 : Dc jdk_52_method_14_code 26 (.iinc 4 1) 3 29 := ⟨by decide +kernel, rfl⟩
theorem d17_29 : Dc jdk_52_method_14_code 29 (.goto (-21)) 3 32 := ⟨by decide +kernel, rfl⟩
theorem d17_29t : Tg 29 (-21) 8 := ⟨by decide, by decide⟩
theorem d17_32 : Dc jdk_52_method_14_code 32 (.aload_n 3) 1 33 := ⟨by decide +kernel, rfl⟩
theorem d17_33 : Dc jdk_52_method_14_code 33 .areturn 1 34 := ⟨by decide +kernel, rfl⟩
theorem own_cs {Z : State} {a0 : Array Value} (hr : rest_1_c.value a0 Z none Z [] = some true) : ∃ z : Int32, Sta Z Z.heap "java/lang/String" "COMPACT_STRINGS" "Z" (.int z) ∧ ¬ z = 0 := by
  obtain ⟨z, ev⟩ := is_v (nw hr 1 rfl)
  refine ⟨z, Sta.start ev (Or.inl (Cond.before_iff.mpr (nw hr 0 rfl))), fun e => ?_⟩
  have q := not_v (nw hr 2 rfl)
  rw [Cond.eq_ints ev (Term.int_eval 0)] at q
  simp [e] at q
theorem own_ad {Z : State} {a0 : Array Value} (hr : rest_1_c.value a0 Z none Z [] = some true) : Sta Z Z.heap "java/lang/StringUTF16" "$assertionsDisabled" "Z" (.int (1 : Int32)) := Sta.start (eqv_int (nw hr 12 rfl) (Term.int_eval 1)) (Or.inl (Cond.before_iff.mpr (nw hr 11 rfl)))
theorem own_hi {Z : State} {a0 : Array Value} (hr : rest_1_c.value a0 Z none Z [] = some true) : Sta Z Z.heap "java/lang/StringUTF16" "HI_BYTE_SHIFT" "I" (.int (0 : Int32)) := Sta.start (eqv_int (nw hr 15 rfl) (Term.int_eval 0)) (Or.inl (Cond.before_iff.mpr (nw hr 14 rfl)))
theorem own_lo {Z : State} {a0 : Array Value} (hr : rest_1_c.value a0 Z none Z [] = some true) : Sta Z Z.heap "java/lang/StringUTF16" "LO_BYTE_SHIFT" "I" (.int (8 : Int32)) := Sta.start (eqv_int (nw hr 18 rfl) (Term.int_eval 8)) (Or.inl (Cond.before_iff.mpr (nw hr 17 rfl)))
theorem own_safe {Z : State} {a0 : Array Value} {vm : Vm} {h : Heap} {d : Addr} {kd : ClassId} {z : Int32} {vs : List Value} {dv : Value} (hw : ∀ d ∈ tables_1, d.before a0 Z = true) (hZ : Z.Warmed39 vm) (A : Arv Z h d kd .byte z vs dv) (hz : 0 < z.toNatClampNeg) : Safe Z consts_1 vm h d := safe_empty (tw hw 19 rfl) hZ A hz
theorem ef7_r (m : MethodId) (x0 : Addr) : entryFrame m #[(.ref x0)] 1 = mkF m 0 #[.val (.ref x0)] [] := by first | (simp [entryFrame, mkF, argsToLocals, Value.category]; done) | rfl
set_option maxRecDepth 65536 in
set_option maxHeartbeats 40000000 in
theorem rmCo0 (l : Launch) (Z : State) (a0 : Array Value) (hw : ∀ d ∈ tables_1, d.before a0 Z = true) (hr : rest_1_c.value a0 Z none Z [] = some true) (a : Addr) (h0 : Heap) (hE : Ext Z.heap h0) (G1 : Fld Z h0 a "java/lang/String" "coder" "B" (.int (0 : Int32))) :
    Ct true l Z consts_1 (⟨"java/lang/String", "coder", "()B"⟩ : MethodName) jdk_42_method_152_code 1 (some .byte) [] ({ frames := 0, cells := 0, slots := 0, locals := 0 } : Room) [] #[(.ref a)] h0 (fun r u => r = some (.int (0 : Int32)) ∧ h0 = u) := by
  refine Ct.intro pn_java_lang_String hE (fun m => ef7_r m a) nosf ⟨a0, own_EW hw⟩ ?_
  intro x T w
  obtain ⟨cz, Scs, hcz⟩ := own_cs hr
  refine w.getS d7_0 (tw hw 41 rfl) Scs ?_
  intro T w
  refine w.ifEq d7_3 d7_3t (fun q => absurd q hcz) (fun _ => ?_)
  refine w.aloadN d7_6 rfl rfl ?_
  refine w.getF d7_7 (tw hw 26 rfl) G1 ?_
  intro T w
  refine w.goto d7_10 d7_10t ?_
  exact w.retN d7_14 rfl (by simp) ⟨rfl, rfl⟩

theorem ef6_r (m : MethodId) (x0 : Addr) : entryFrame m #[(.ref x0)] 1 = mkF m 0 #[.val (.ref x0)] [] := by first | (simp [entryFrame, mkF, argsToLocals, Value.category]; done) | rfl
set_option maxRecDepth 65536 in
set_option maxHeartbeats 40000000 in
theorem rmLn_0 (l : Launch) (Z : State) (a0 : Array Value) (hw : ∀ d ∈ tables_1, d.before a0 Z = true) (hr : rest_1_c.value a0 Z none Z [] = some true) (a t : Addr)  (h0 : Heap) (hE : Ext Z.heap h0) (Sa : StrL Z h0 a t 0 []) :
    Ct true l Z consts_1 (⟨"java/lang/String", "length", "()I"⟩ : MethodName) jdk_42_method_54_code 1 (some .int) [] ({ frames := 1, cells := 0, slots := 0, locals := 14 } : Room) [] #[(.ref a)] h0 (fun r u => r = some (.int (0 : Int32)) ∧ h0 = u) := by
  refine Ct.intro pn_java_lang_String hE (fun m => ef6_r m a) nosf ⟨a0, own_EW hw⟩ ?_
  intro x T w
  obtain ⟨Ea, Va, Ca, ka, Aa, -⟩ := id Sa
  obtain ⟨cla, Ara, -, Sa, Ma, Ha, -⟩ := Aa
  refine w.aloadN d6_0 rfl rfl ?_
  refine w.getF d6_1 (tw hw 25 rfl) Va ?_
  intro T w
  refine w.alen (0 : Int32) d6_4 Ara (len_of Sa Ma) ?_
  refine w.aloadN d6_5 rfl rfl ?_
  refine w.callV (argsL := []) (rest := [(.int (0 : Int32))]) 1 d6_6 (tw hw 36 rfl) (tw hw 37 rfl) (tw hw 39 rfl) (tw hw 38 rfl) (tw hw 8 rfl) (tw hw 40 rfl) (by decide) Ea (rmCo0 l Z a0 hw hr a h0 w.old Ca) (lenOf pd_0 rfl) rfl rfl (Nat.le_refl _) ⟨by decide, by decide, by decide, by decide⟩ all0 ?_
  intro T h1 r w _ hQ
  obtain ⟨rfl, rfl⟩ := hQ
  show Go x _ Z _ _ _ T 9 #[.val (.ref a)] [(.int (0 : Int32)), (.int (0 : Int32))]
  refine w.ishr d6_9 ?_
  exact w.retI d6_10 rfl ⟨rfl, rfl⟩

set_option maxRecDepth 65536 in
set_option maxHeartbeats 40000000 in
theorem rmCo1 (l : Launch) (Z : State) (a0 : Array Value) (hw : ∀ d ∈ tables_1, d.before a0 Z = true) (hr : rest_1_c.value a0 Z none Z [] = some true) (a : Addr) (h0 : Heap) (hE : Ext Z.heap h0) (G1 : Fld Z h0 a "java/lang/String" "coder" "B" (.int (1 : Int32))) :
    Ct true l Z consts_1 (⟨"java/lang/String", "coder", "()B"⟩ : MethodName) jdk_42_method_152_code 1 (some .byte) [] ({ frames := 0, cells := 0, slots := 0, locals := 0 } : Room) [] #[(.ref a)] h0 (fun r u => r = some (.int (1 : Int32)) ∧ h0 = u) := by
  refine Ct.intro pn_java_lang_String hE (fun m => ef7_r m a) nosf ⟨a0, own_EW hw⟩ ?_
  intro x T w
  obtain ⟨cz, Scs, hcz⟩ := own_cs hr
  refine w.getS d7_0 (tw hw 41 rfl) Scs ?_
  intro T w
  refine w.ifEq d7_3 d7_3t (fun q => absurd q hcz) (fun _ => ?_)
  refine w.aloadN d7_6 rfl rfl ?_
  refine w.getF d7_7 (tw hw 26 rfl) G1 ?_
  intro T w
  refine w.goto d7_10 d7_10t ?_
  exact w.retN d7_14 rfl (by simp) ⟨rfl, rfl⟩

set_option maxRecDepth 65536 in
set_option maxHeartbeats 40000000 in
theorem rmLnE_1 (l : Launch) (Z : State) (a0 : Array Value) (hw : ∀ d ∈ tables_1, d.before a0 Z = true) (hr : rest_1_c.value a0 Z none Z [] = some true) (a t : Addr) (c0 : Int32) (h0 : Heap) (hE : Ext Z.heap h0) (Sa : ((StrL Z h0 a t 0 [nar .byte c0] ∧ (¬ 255 < c0 ∧ True)) ∨ StrL Z h0 a t 1 [nar .byte (c0 >>> ((0 : Int32) &&& 31)), nar .byte (c0 >>> ((8 : Int32) &&& 31))])) :
    Ct true l Z consts_1 (⟨"java/lang/String", "length", "()I"⟩ : MethodName) jdk_42_method_54_code 1 (some .int) [] ({ frames := 1, cells := 0, slots := 0, locals := 14 } : Room) [] #[(.ref a)] h0 (fun r u => r = some (.int (1 : Int32)) ∧ h0 = u) := by
  refine Ct.intro pn_java_lang_String hE (fun m => ef6_r m a) nosf ⟨a0, own_EW hw⟩ ?_
  intro x T w
  rcases Sa with ⟨Sa, -⟩ | Sa
  · obtain ⟨Ea, Va, Ca, ka, Aa, -⟩ := id Sa
    obtain ⟨cla, Ara, -, Sa, Ma, Ha, -⟩ := Aa
    refine w.aloadN d6_0 rfl rfl ?_
    refine w.getF d6_1 (tw hw 25 rfl) Va ?_
    intro T w
    refine w.alen (1 : Int32) d6_4 Ara (len_of Sa Ma) ?_
    refine w.aloadN d6_5 rfl rfl ?_
    refine w.callV (argsL := []) (rest := [(.int (1 : Int32))]) 1 d6_6 (tw hw 36 rfl) (tw hw 37 rfl) (tw hw 39 rfl) (tw hw 38 rfl) (tw hw 8 rfl) (tw hw 40 rfl) (by decide) Ea (rmCo0 l Z a0 hw hr a h0 w.old Ca) (lenOf pd_0 rfl) rfl rfl (Nat.le_refl _) ⟨by decide, by decide, by decide, by decide⟩ all0 ?_
    intro T h1 r w _ hQ
    obtain ⟨rfl, rfl⟩ := hQ
    show Go x _ Z _ _ _ T 9 #[.val (.ref a)] [(.int (0 : Int32)), (.int (1 : Int32))]
    refine w.ishr d6_9 ?_
    exact w.retI d6_10 rfl ⟨rfl, rfl⟩
  · obtain ⟨Ea, Va, Ca, ka, Aa, -⟩ := id Sa
    obtain ⟨cla, Ara, -, Sa, Ma, Ha, -⟩ := Aa
    refine w.aloadN d6_0 rfl rfl ?_
    refine w.getF d6_1 (tw hw 25 rfl) Va ?_
    intro T w
    refine w.alen (2 : Int32) d6_4 Ara (len_of Sa Ma) ?_
    refine w.aloadN d6_5 rfl rfl ?_
    refine w.callV (argsL := []) (rest := [(.int (2 : Int32))]) 1 d6_6 (tw hw 36 rfl) (tw hw 37 rfl) (tw hw 39 rfl) (tw hw 38 rfl) (tw hw 8 rfl) (tw hw 40 rfl) (by decide) Ea (rmCo1 l Z a0 hw hr a h0 w.old Ca) (lenOf pd_0 rfl) rfl rfl (Nat.le_refl _) ⟨by decide, by decide, by decide, by decide⟩ all0 ?_
    intro T h2 r w _ hQ
    obtain ⟨rfl, rfl⟩ := hQ
    show Go x _ Z _ _ _ T 9 #[.val (.ref a)] [(.int (1 : Int32)), (.int (2 : Int32))]
    refine w.ishr d6_9 ?_
    exact w.retI d6_10 rfl ⟨rfl, rfl⟩

set_option maxRecDepth 65536 in
set_option maxHeartbeats 40000000 in
theorem rmLnE_2 (l : Launch) (Z : State) (a0 : Array Value) (hw : ∀ d ∈ tables_1, d.before a0 Z = true) (hr : rest_1_c.value a0 Z none Z [] = some true) (a t : Addr) (c0 c1 : Int32) (h0 : Heap) (hE : Ext Z.heap h0) (Sa : ((StrL Z h0 a t 0 [nar .byte c0, nar .byte c1] ∧ (¬ 255 < c0 ∧ ¬ 255 < c1 ∧ True)) ∨ StrL Z h0 a t 1 [nar .byte (c0 >>> ((0 : Int32) &&& 31)), nar .byte (c0 >>> ((8 : Int32) &&& 31)), nar .byte (c1 >>> ((0 : Int32) &&& 31)), nar .byte (c1 >>> ((8 : Int32) &&& 31))])) :
    Ct true l Z consts_1 (⟨"java/lang/String", "length", "()I"⟩ : MethodName) jdk_42_method_54_code 1 (some .int) [] ({ frames := 1, cells := 0, slots := 0, locals := 14 } : Room) [] #[(.ref a)] h0 (fun r u => r = some (.int (2 : Int32)) ∧ h0 = u) := by
  refine Ct.intro pn_java_lang_String hE (fun m => ef6_r m a) nosf ⟨a0, own_EW hw⟩ ?_
  intro x T w
  rcases Sa with ⟨Sa, -⟩ | Sa
  · obtain ⟨Ea, Va, Ca, ka, Aa, -⟩ := id Sa
    obtain ⟨cla, Ara, -, Sa, Ma, Ha, -⟩ := Aa
    refine w.aloadN d6_0 rfl rfl ?_
    refine w.getF d6_1 (tw hw 25 rfl) Va ?_
    intro T w
    refine w.alen (2 : Int32) d6_4 Ara (len_of Sa Ma) ?_
    refine w.aloadN d6_5 rfl rfl ?_
    refine w.callV (argsL := []) (rest := [(.int (2 : Int32))]) 1 d6_6 (tw hw 36 rfl) (tw hw 37 rfl) (tw hw 39 rfl) (tw hw 38 rfl) (tw hw 8 rfl) (tw hw 40 rfl) (by decide) Ea (rmCo0 l Z a0 hw hr a h0 w.old Ca) (lenOf pd_0 rfl) rfl rfl (Nat.le_refl _) ⟨by decide, by decide, by decide, by decide⟩ all0 ?_
    intro T h1 r w _ hQ
    obtain ⟨rfl, rfl⟩ := hQ
    show Go x _ Z _ _ _ T 9 #[.val (.ref a)] [(.int (0 : Int32)), (.int (2 : Int32))]
    refine w.ishr d6_9 ?_
    exact w.retI d6_10 rfl ⟨rfl, rfl⟩
  · obtain ⟨Ea, Va, Ca, ka, Aa, -⟩ := id Sa
    obtain ⟨cla, Ara, -, Sa, Ma, Ha, -⟩ := Aa
    refine w.aloadN d6_0 rfl rfl ?_
    refine w.getF d6_1 (tw hw 25 rfl) Va ?_
    intro T w
    refine w.alen (4 : Int32) d6_4 Ara (len_of Sa Ma) ?_
    refine w.aloadN d6_5 rfl rfl ?_
    refine w.callV (argsL := []) (rest := [(.int (4 : Int32))]) 1 d6_6 (tw hw 36 rfl) (tw hw 37 rfl) (tw hw 39 rfl) (tw hw 38 rfl) (tw hw 8 rfl) (tw hw 40 rfl) (by decide) Ea (rmCo1 l Z a0 hw hr a h0 w.old Ca) (lenOf pd_0 rfl) rfl rfl (Nat.le_refl _) ⟨by decide, by decide, by decide, by decide⟩ all0 ?_
    intro T h2 r w _ hQ
    obtain ⟨rfl, rfl⟩ := hQ
    show Go x _ Z _ _ _ T 9 #[.val (.ref a)] [(.int (1 : Int32)), (.int (4 : Int32))]
    refine w.ishr d6_9 ?_
    exact w.retI d6_10 rfl ⟨rfl, rfl⟩

set_option maxRecDepth 65536 in
set_option maxHeartbeats 40000000 in
theorem rmLnE_3 (l : Launch) (Z : State) (a0 : Array Value) (hw : ∀ d ∈ tables_1, d.before a0 Z = true) (hr : rest_1_c.value a0 Z none Z [] = some true) (a t : Addr) (c0 c1 c2 : Int32) (h0 : Heap) (hE : Ext Z.heap h0) (Sa : ((StrL Z h0 a t 0 [nar .byte c0, nar .byte c1, nar .byte c2] ∧ (¬ 255 < c0 ∧ ¬ 255 < c1 ∧ ¬ 255 < c2 ∧ True)) ∨ StrL Z h0 a t 1 [nar .byte (c0 >>> ((0 : Int32) &&& 31)), nar .byte (c0 >>> ((8 : Int32) &&& 31)), nar .byte (c1 >>> ((0 : Int32) &&& 31)), nar .byte (c1 >>> ((8 : Int32) &&& 31)), nar .byte (c2 >>> ((0 : Int32) &&& 31)), nar .byte (c2 >>> ((8 : Int32) &&& 31))])) :
    Ct true l Z consts_1 (⟨"java/lang/String", "length", "()I"⟩ : MethodName) jdk_42_method_54_code 1 (some .int) [] ({ frames := 1, cells := 0, slots := 0, locals := 14 } : Room) [] #[(.ref a)] h0 (fun r u => r = some (.int (3 : Int32)) ∧ h0 = u) := by
  refine Ct.intro pn_java_lang_String hE (fun m => ef6_r m a) nosf ⟨a0, own_EW hw⟩ ?_
  intro x T w
  rcases Sa with ⟨Sa, -⟩ | Sa
  · obtain ⟨Ea, Va, Ca, ka, Aa, -⟩ := id Sa
    obtain ⟨cla, Ara, -, Sa, Ma, Ha, -⟩ := Aa
    refine w.aloadN d6_0 rfl rfl ?_
    refine w.getF d6_1 (tw hw 25 rfl) Va ?_
    intro T w
    refine w.alen (3 : Int32) d6_4 Ara (len_of Sa Ma) ?_
    refine w.aloadN d6_5 rfl rfl ?_
    refine w.callV (argsL := []) (rest := [(.int (3 : Int32))]) 1 d6_6 (tw hw 36 rfl) (tw hw 37 rfl) (tw hw 39 rfl) (tw hw 38 rfl) (tw hw 8 rfl) (tw hw 40 rfl) (by decide) Ea (rmCo0 l Z a0 hw hr a h0 w.old Ca) (lenOf pd_0 rfl) rfl rfl (Nat.le_refl _) ⟨by decide, by decide, by decide, by decide⟩ all0 ?_
    intro T h1 r w _ hQ
    obtain ⟨rfl, rfl⟩ := hQ
    show Go x _ Z _ _ _ T 9 #[.val (.ref a)] [(.int (0 : Int32)), (.int (3 : Int32))]
    refine w.ishr d6_9 ?_
    exact w.retI d6_10 rfl ⟨rfl, rfl⟩
  · obtain ⟨Ea, Va, Ca, ka, Aa, -⟩ := id Sa
    obtain ⟨cla, Ara, -, Sa, Ma, Ha, -⟩ := Aa
    refine w.aloadN d6_0 rfl rfl ?_
    refine w.getF d6_1 (tw hw 25 rfl) Va ?_
    intro T w
    refine w.alen (6 : Int32) d6_4 Ara (len_of Sa Ma) ?_
    refine w.aloadN d6_5 rfl rfl ?_
    refine w.callV (argsL := []) (rest := [(.int (6 : Int32))]) 1 d6_6 (tw hw 36 rfl) (tw hw 37 rfl) (tw hw 39 rfl) (tw hw 38 rfl) (tw hw 8 rfl) (tw hw 40 rfl) (by decide) Ea (rmCo1 l Z a0 hw hr a h0 w.old Ca) (lenOf pd_0 rfl) rfl rfl (Nat.le_refl _) ⟨by decide, by decide, by decide, by decide⟩ all0 ?_
    intro T h2 r w _ hQ
    obtain ⟨rfl, rfl⟩ := hQ
    show Go x _ Z _ _ _ T 9 #[.val (.ref a)] [(.int (1 : Int32)), (.int (6 : Int32))]
    refine w.ishr d6_9 ?_
    exact w.retI d6_10 rfl ⟨rfl, rfl⟩

theorem own_si {Z : State} {a0 : Array Value} (hr : rest_1_c.value a0 Z none Z [] = some true) : ∃ v : Value, Sta Z Z.heap "jdk/internal/util/Preconditions" "SIOOBE_FORMATTER" "Ljava/util/function/BiFunction;" v ∧ v.isRef = true := by
  obtain ⟨v, ev, hv⟩ := isR_v (nw hr 8 rfl)
  exact ⟨v, Sta.start ev (Or.inl (Cond.before_iff.mpr (nw hr 7 rfl))), hv⟩
theorem efPC (m : MethodId) (i n : Int32) (v : Value) (hv : v.isRef = true) : entryFrame m #[.int i, .int n, v] 3 = mkF m 0 #[.val (.int i), .val (.int n), .val v] [] := by simp [entryFrame, mkF, argsToLocals, show ∀ z : Addr, (Value.ref z).category = 1 from fun _ => rfl, show ∀ z : Int32, (Value.int z).category = 1 from fun _ => rfl, XT.cat1 hv]
set_option maxRecDepth 65536 in
set_option maxHeartbeats 40000000 in
theorem rmPC (l : Launch) (Z : State) (a0 : Array Value) (hw : ∀ d ∈ tables_1, d.before a0 Z = true) (i n : Int32) (fm : Value) (hf : fm.isRef = true) (h1 : ¬ i < 0) (h2 : i < n) (h0 : Heap) (hE : Ext Z.heap h0) :
    Ct true l Z consts_1 (⟨"jdk/internal/util/Preconditions", "checkIndex", "(IILjava/util/function/BiFunction;)I"⟩ : MethodName) jdk_41_method_11_code 3 (some .int) [] ({ frames := 0, cells := 0, slots := 0, locals := 0 } : Room) [] #[(.int i), (.int n), fm] h0 (fun r u => r = some (.int i) ∧ h0 = u) := by
  refine Ct.intro pn_jdk_internal_util_Preconditions hE (fun m => efPC m i n fm hf) nosf ⟨a0, own_EW hw⟩ ?_
  intro x T w
  refine w.iloadN d16_0 rfl ?_
  refine w.ifLt d16_1 d16_1t (fun q => absurd q h1) (fun _ => ?_)
  refine w.iloadN d16_4 rfl ?_
  refine w.iloadN d16_5 rfl ?_
  refine w.icmpLt d16_6 d16_6t (fun _ => ?_) (fun q => absurd h2 q)
  refine w.iloadN d16_16 rfl ?_
  exact w.retI d16_17 rfl ⟨rfl, rfl⟩

theorem ef15_ii (m : MethodId) (x0 : Int32) (x1 : Int32) : entryFrame m #[(.int x0), (.int x1)] 2 = mkF m 0 #[.val (.int x0), .val (.int x1)] [] := by first | (simp [entryFrame, mkF, argsToLocals, Value.category]; done) | rfl
set_option maxRecDepth 65536 in
set_option maxHeartbeats 40000000 in
theorem rmCI (l : Launch) (Z : State) (a0 : Array Value) (hw : ∀ d ∈ tables_1, d.before a0 Z = true) (hr : rest_1_c.value a0 Z none Z [] = some true) (i n : Int32) (h1 : ¬ i < 0) (h2 : i < n) (h0 : Heap) (hE : Ext Z.heap h0) :
    Ct true l Z consts_1 (⟨"java/lang/String", "checkIndex", "(II)V"⟩ : MethodName) jdk_42_method_155_code 2 none [] ({ frames := 1, cells := 0, slots := 0, locals := 14 } : Room) [] #[(.int i), (.int n)] h0 (fun r u => r = none ∧ h0 = u) := by
  refine Ct.intro pn_java_lang_String hE (fun m => ef15_ii m i n) nosf ⟨a0, own_EW hw⟩ ?_
  intro x T w
  obtain ⟨fm, Sf, hf⟩ := own_si hr
  refine w.iloadN d15_0 rfl ?_
  refine w.iloadN d15_1 rfl ?_
  refine w.getS d15_2 (tw hw 72 rfl) Sf ?_
  intro T w
  refine w.callS (argsL := [(.int i), (.int n), fm]) (rest := []) 0 d15_5 (tw hw 74 rfl) (tw hw 75 rfl) (tw hw 73 rfl) (tw hw 76 rfl) (by decide) (rmPC l Z a0 hw i n fm hf h1 h2 h0 w.old) (lenOf pd_2 rfl) rfl rfl (Nat.le_refl _) ⟨by decide, by decide, by decide, by decide⟩ all0 ?_
  intro T h1 r w _ hQ
  obtain ⟨rfl, rfl⟩ := hQ
  show Go x _ Z _ _ _ T 8 #[.val (.int i), .val (.int n)] [(.int i)]
  refine w.pop d15_8 rfl ?_
  exact w.retV d15_9 rfl ⟨rfl, rfl⟩

theorem ef13_r (m : MethodId) (x0 : Addr) : entryFrame m #[(.ref x0)] 1 = mkF m 0 #[.val (.ref x0)] [] := by first | (simp [entryFrame, mkF, argsToLocals, Value.category]; done) | rfl
set_option maxRecDepth 65536 in
set_option maxHeartbeats 40000000 in
theorem rmIL0 (l : Launch) (Z : State) (a0 : Array Value) (hw : ∀ d ∈ tables_1, d.before a0 Z = true) (hr : rest_1_c.value a0 Z none Z [] = some true) (a : Addr) (h0 : Heap) (hE : Ext Z.heap h0) (G1 : Fld Z h0 a "java/lang/String" "coder" "B" (.int (0 : Int32))) :
    Ct true l Z consts_1 (⟨"java/lang/String", "isLatin1", "()Z"⟩ : MethodName) jdk_42_method_154_code 1 (some .boolean) [] ({ frames := 0, cells := 0, slots := 0, locals := 0 } : Room) [] #[(.ref a)] h0 (fun r u => r = some (.int (1 : Int32)) ∧ h0 = u) := by
  refine Ct.intro pn_java_lang_String hE (fun m => ef13_r m a) nosf ⟨a0, own_EW hw⟩ ?_
  intro x T w
  obtain ⟨cz, Scs, hcz⟩ := own_cs hr
  refine w.getS d13_0 (tw hw 41 rfl) Scs ?_
  intro T w
  refine w.ifEq d13_3 d13_3t (fun q => absurd q hcz) (fun _ => ?_)
  refine w.aloadN d13_6 rfl rfl ?_
  refine w.getF d13_7 (tw hw 26 rfl) G1 ?_
  intro T w
  refine w.ifNe d13_10 d13_10t (fun q => absurd (by decide) q) (fun _ => ?_)
  refine w.iconst (1 : Int32) d13_13 rfl ?_
  refine w.goto d13_14 d13_14t ?_
  exact w.retN d13_18 rfl (by simp) ⟨rfl, rfl⟩

theorem ef14_ri (m : MethodId) (x0 : Addr) (x1 : Int32) : entryFrame m #[(.ref x0), (.int x1)] 2 = mkF m 0 #[.val (.ref x0), .val (.int x1)] [] := by first | (simp [entryFrame, mkF, argsToLocals, Value.category]; done) | rfl
set_option maxRecDepth 65536 in
set_option maxHeartbeats 40000000 in
theorem rmLA_3_0 (l : Launch) (Z : State) (a0 : Array Value) (hw : ∀ d ∈ tables_1, d.before a0 Z = true) (hr : rest_1_c.value a0 Z none Z [] = some true) (t : Addr) (kb : ClassId) (c0 c1 c2 : Int32) (h0 : Heap) (hE : Ext Z.heap h0) (A : Arv Z h0 t kb .byte (3 : Int32) [(.int (nar .byte c0)), (.int (nar .byte c1)), (.int (nar .byte c2))] (.int 0)) (z0 : 0 ≤ c0.toInt) (u0 : ¬ 255 < c0) (z1 : 0 ≤ c1.toInt) (u1 : ¬ 255 < c1) (z2 : 0 ≤ c2.toInt) (u2 : ¬ 255 < c2) :
    Ct true l Z consts_1 (⟨"java/lang/StringLatin1", "charAt", "([BI)C"⟩ : MethodName) jdk_43_method_2_code 2 (some .char) [] ({ frames := 2, cells := 0, slots := 0, locals := 32 } : Room) [] #[(.ref t), (.int (0 : Int32))] h0 (fun r u => r = some (.int c0) ∧ h0 = u) := by
  refine Ct.intro pn_java_lang_StringLatin1 hE (fun m => ef14_ri m t _) nosf ⟨a0, own_EW hw⟩ ?_
  intro x T w
  obtain ⟨cla, Ara, -, Sa, Ma, Ha, -⟩ := id A
  refine w.iloadN d14_0 rfl ?_
  refine w.aloadN d14_1 rfl rfl ?_
  refine w.alen (3 : Int32) d14_2 Ara (len_of Sa Ma) ?_
  refine w.callS (argsL := [(.int (0 : Int32)), (.int (3 : Int32))]) (rest := []) 0 d14_3 (tw hw 69 rfl) (tw hw 70 rfl) (tw hw 8 rfl) (tw hw 71 rfl) (by decide) (rmCI l Z a0 hw hr (0 : Int32) (3 : Int32) (by decide) (by decide) h0 w.old) (lenOf pd_3 rfl) rfl rfl (Nat.le_refl _) ⟨by decide, by decide, by decide, by decide⟩ all0 ?_
  intro T h1 r w _ hQ
  obtain ⟨rfl, rfl⟩ := hQ
  show Go x _ Z _ _ _ T 6 #[.val (.ref t), .val (.int (0 : Int32))] []
  refine w.aloadN d14_6 rfl rfl ?_
  refine w.iloadN d14_7 rfl ?_
  refine w.baload d14_8 Ara (inb_of Sa (by decide)) (Ha.at (inb_of Sa (by decide)) rfl) ?_
  refine w.sipush (255 : Int32) d14_9 rfl ?_
  refine w.iand d14_12 ?_
  refine w.i2c d14_13 ?_
  exact w.retN d14_14 rfl (by simp) ⟨by rw [ncc, b255 z0 u0], rfl⟩

theorem ef12_ri (m : MethodId) (x0 : Addr) (x1 : Int32) : entryFrame m #[(.ref x0), (.int x1)] 2 = mkF m 0 #[.val (.ref x0), .val (.int x1)] [] := by first | (simp [entryFrame, mkF, argsToLocals, Value.category]; done) | rfl
set_option maxRecDepth 65536 in
set_option maxHeartbeats 40000000 in
theorem rmCA_3_0 (l : Launch) (Z : State) (a0 : Array Value) (hw : ∀ d ∈ tables_1, d.before a0 Z = true) (hr : rest_1_c.value a0 Z none Z [] = some true) (a t : Addr) (c0 c1 c2 : Int32) (h0 : Heap) (hE : Ext Z.heap h0) (Sa : StrL Z h0 a t 0 [nar .byte c0, nar .byte c1, nar .byte c2]) (z0 : 0 ≤ c0.toInt) (u0 : ¬ 255 < c0) (z1 : 0 ≤ c1.toInt) (u1 : ¬ 255 < c1) (z2 : 0 ≤ c2.toInt) (u2 : ¬ 255 < c2) (y0 : nar .char c0 = c0) (y1 : nar .char c1 = c1) (y2 : nar .char c2 = c2) :
    Ct true l Z consts_1 (⟨"java/lang/String", "charAt", "(I)C"⟩ : MethodName) jdk_42_method_56_code 2 (some .char) [] ({ frames := 3, cells := 0, slots := 0, locals := 46 } : Room) [] #[(.ref a), (.int (0 : Int32))] h0 (fun r u => r = some (.int c0) ∧ h0 = u) := by
  refine Ct.intro pn_java_lang_String hE (fun m => ef12_ri m a _) nosf ⟨a0, own_EW hw⟩ ?_
  intro x T w
  obtain ⟨Ea, Va, Ca, ka, Aa, -⟩ := id Sa
  refine w.aloadN d12_0 rfl rfl ?_
  refine w.callV (argsL := []) (rest := []) 0 d12_1 (tw hw 60 rfl) (tw hw 61 rfl) (tw hw 63 rfl) (tw hw 62 rfl) (tw hw 8 rfl) (tw hw 64 rfl) (by decide) Ea (rmIL0 l Z a0 hw hr a h0 w.old Ca) (lenOf pd_4 rfl) rfl rfl (Nat.le_refl _) ⟨by decide, by decide, by decide, by decide⟩ all0 ?_
  intro T h1 r w _ hQ
  obtain ⟨rfl, rfl⟩ := hQ
  show Go x _ Z _ _ _ T 4 #[.val (.ref a), .val (.int (0 : Int32))] [(.int (1 : Int32))]
  refine w.ifEq d12_4 d12_4t (fun q => absurd q (by decide)) (fun _ => ?_)
  refine w.aloadN d12_7 rfl rfl ?_
  refine w.getF d12_8 (tw hw 25 rfl) Va ?_
  intro T w
  refine w.iloadN d12_11 rfl ?_
  refine w.callS (argsL := [(.ref t), (.int (0 : Int32))]) (rest := []) 0 d12_12 (tw hw 65 rfl) (tw hw 66 rfl) (tw hw 67 rfl) (tw hw 68 rfl) (by decide) (rmLA_3_0 l Z a0 hw hr t ka c0 c1 c2 h0 w.old Aa z0 u0 z1 u1 z2 u2) (lenOf pd_5 rfl) rfl rfl (Nat.le_refl _) ⟨by decide, by decide, by decide, by decide⟩ all0 ?_
  intro T h2 r w _ hQ
  obtain ⟨rfl, rfl⟩ := hQ
  show Go x _ Z _ _ _ T 15 #[.val (.ref a), .val (.int (0 : Int32))] [(.int c0)]
  exact w.retN d12_15 rfl (by simp) ⟨by rw [y0], rfl⟩

theorem ef24_r (m : MethodId) (x0 : Addr) : entryFrame m #[(.ref x0)] 1 = mkF m 0 #[.val (.ref x0)] [] := by first | (simp [entryFrame, mkF, argsToLocals, Value.category]; done) | rfl
set_option maxRecDepth 65536 in
set_option maxHeartbeats 40000000 in
theorem rmUL_3 (l : Launch) (Z : State) (a0 : Array Value) (hw : ∀ d ∈ tables_1, d.before a0 Z = true) (t : Addr) (kb : ClassId) (vs : List Value) (h0 : Heap) (hE : Ext Z.heap h0) (A : Arv Z h0 t kb .byte (6 : Int32) vs (.int 0)) :
    Ct true l Z consts_1 (⟨"java/lang/StringUTF16", "length", "([B)I"⟩ : MethodName) jdk_52_method_6_code 1 (some .int) [] ({ frames := 0, cells := 0, slots := 0, locals := 0 } : Room) [] #[(.ref t)] h0 (fun r u => r = some (.int (3 : Int32)) ∧ h0 = u) := by
  refine Ct.intro pn_java_lang_StringUTF16 hE (fun m => ef24_r m t) nosf ⟨a0, own_EW hw⟩ ?_
  intro x T w
  obtain ⟨cl, Ar, -, S, M, -, -⟩ := id A
  refine w.aloadN d24_0 rfl rfl ?_
  refine w.alen (6 : Int32) d24_1 Ar (len_of S M) ?_
  refine w.iconst (1 : Int32) d24_2 rfl ?_
  refine w.ishr d24_3 ?_
  exact w.retI d24_4 rfl ⟨rfl, rfl⟩

theorem ef21_ri (m : MethodId) (x0 : Addr) (x1 : Int32) : entryFrame m #[(.ref x0), (.int x1)] 2 = mkF m 0 #[.val (.ref x0), .val (.int x1)] [] := by first | (simp [entryFrame, mkF, argsToLocals, Value.category]; done) | rfl
set_option maxRecDepth 65536 in
set_option maxHeartbeats 40000000 in
theorem rmGe_3_0 (l : Launch) (Z : State) (a0 : Array Value) (hw : ∀ d ∈ tables_1, d.before a0 Z = true) (hr : rest_1_c.value a0 Z none Z [] = some true) (t : Addr) (kb : ClassId) (c0 c1 c2 : Int32) (h0 : Heap) (hE : Ext Z.heap h0) (A : Arv Z h0 t kb .byte (6 : Int32) [(.int (nar .byte (c0 >>> ((0 : Int32) &&& 31)))), (.int (nar .byte (c0 >>> ((8 : Int32) &&& 31)))), (.int (nar .byte (c1 >>> ((0 : Int32) &&& 31)))), (.int (nar .byte (c1 >>> ((8 : Int32) &&& 31)))), (.int (nar .byte (c2 >>> ((0 : Int32) &&& 31)))), (.int (nar .byte (c2 >>> ((8 : Int32) &&& 31))))] (.int 0)) (z : 0 ≤ c0.toInt) (v : c0.toInt < 65536) :
    Ct true l Z consts_1 (⟨"java/lang/StringUTF16", "getChar", "([BI)C"⟩ : MethodName) jdk_52_method_5_code 2 (some .char) [] ({ frames := 0, cells := 0, slots := 0, locals := 0 } : Room) [] #[(.ref t), (.int (0 : Int32))] h0 (fun r u => r = some (.int c0) ∧ h0 = u) := by
  refine Ct.intro pn_java_lang_StringUTF16 hE (fun m => ef21_ri m t _) nosf ⟨a0, own_EW hw⟩ ?_
  intro x T w
  obtain ⟨cl, Ar, -, S, M, H, -⟩ := id A
  refine w.getS d21_0 (tw hw 90 rfl) (own_ad hr) ?_
  intro T w
  refine w.ifNe d21_3 d21_3t (fun _ => ?_) (fun q => absurd q (by decide))
  refine w.iloadN d21_28 rfl ?_
  refine w.iconst (1 : Int32) d21_29 rfl ?_
  refine w.ishl d21_30 ?_
  refine w.istoreN #[.val (.ref t), .val (.int ((0 : Int32) <<< ((1 : Int32) &&& 31)))] d21_31 rfl ?_
  refine w.aloadN d21_32 rfl rfl ?_
  refine w.iloadN d21_33 rfl ?_
  refine w.iinc (1 : Int32) #[.val (.ref t), .val (.int (((0 : Int32) <<< ((1 : Int32) &&& 31)) + (1 : Int32)))] d21_34 rfl rfl rfl ?_
  refine w.baload (v := .int (nar .byte (c0 >>> ((0 : Int32) &&& 31)))) d21_37 Ar (inb_of S (by decide)) (H.at (inb_of S (by decide)) (by rw [show (((0 : Int32) <<< ((1 : Int32) &&& 31))).toNatClampNeg = 0 by decide]; rfl)) ?_
  refine w.sipush (255 : Int32) d21_38 rfl ?_
  refine w.iand d21_41 ?_
  refine w.getS d21_42 (tw hw 91 rfl) (own_hi hr) ?_
  intro T w
  refine w.ishl d21_45 ?_
  refine w.aloadN d21_46 rfl rfl ?_
  refine w.iloadN d21_47 rfl ?_
  refine w.baload (v := .int (nar .byte (c0 >>> ((8 : Int32) &&& 31)))) d21_48 Ar (inb_of S (by decide)) (H.at (inb_of S (by decide)) (by rw [show ((((0 : Int32) <<< ((1 : Int32) &&& 31)) + (1 : Int32))).toNatClampNeg = 1 by decide]; rfl)) ?_
  refine w.sipush (255 : Int32) d21_49 rfl ?_
  refine w.iand d21_52 ?_
  refine w.getS d21_53 (tw hw 92 rfl) (own_lo hr) ?_
  intro T w
  refine w.ishl d21_56 ?_
  refine w.ior d21_57 ?_
  refine w.i2c d21_58 ?_
  exact w.retN d21_59 rfl (by simp) ⟨by rw [ncc, own_gc z v], rfl⟩

theorem ef23_ir (m : MethodId) (x0 : Int32) (x1 : Addr) : entryFrame m #[(.int x0), (.ref x1)] 2 = mkF m 0 #[.val (.int x0), .val (.ref x1)] [] := by first | (simp [entryFrame, mkF, argsToLocals, Value.category]; done) | rfl
set_option maxRecDepth 65536 in
set_option maxHeartbeats 40000000 in
theorem rmUI_3_0 (l : Launch) (Z : State) (a0 : Array Value) (hw : ∀ d ∈ tables_1, d.before a0 Z = true) (hr : rest_1_c.value a0 Z none Z [] = some true) (t : Addr) (kb : ClassId) (vs : List Value) (h0 : Heap) (hE : Ext Z.heap h0) (A : Arv Z h0 t kb .byte (6 : Int32) vs (.int 0)) :
    Ct true l Z consts_1 (⟨"java/lang/StringUTF16", "checkIndex", "(I[B)V"⟩ : MethodName) jdk_52_method_91_code 2 none [] ({ frames := 2, cells := 0, slots := 0, locals := 27 } : Room) [] #[(.int (0 : Int32)), (.ref t)] h0 (fun r u => r = none ∧ h0 = u) := by
  refine Ct.intro pn_java_lang_StringUTF16 hE (fun m => ef23_ir m _ t) nosf ⟨a0, own_EW hw⟩ ?_
  intro x T w
  refine w.iloadN d23_0 rfl ?_
  refine w.aloadN d23_1 rfl rfl ?_
  refine w.callS (argsL := [(.ref t)]) (rest := [(.int (0 : Int32))]) 1 d23_2 (tw hw 102 rfl) (tw hw 103 rfl) (tw hw 44 rfl) (tw hw 104 rfl) (by decide) (rmUL_3 l Z a0 hw t kb vs h0 w.old A) (lenOf pd_6 rfl) rfl rfl (Nat.le_refl _) ⟨by decide, by decide, by decide, by decide⟩ all0 ?_
  intro T h1 r w _ hQ
  obtain ⟨rfl, rfl⟩ := hQ
  show Go x _ Z _ _ _ T 5 #[.val (.int (0 : Int32)), .val (.ref t)] [(.int (3 : Int32)), (.int (0 : Int32))]
  refine w.callS (argsL := [(.int (0 : Int32)), (.int (3 : Int32))]) (rest := []) 0 d23_5 (tw hw 105 rfl) (tw hw 70 rfl) (tw hw 8 rfl) (tw hw 71 rfl) (by decide) (rmCI l Z a0 hw hr (0 : Int32) (3 : Int32) (by decide) (by decide) h0 w.old) (lenOf pd_3 rfl) rfl rfl (Nat.le_refl _) ⟨by decide, by decide, by decide, by decide⟩ all0 ?_
  intro T h2 r w _ hQ
  obtain ⟨rfl, rfl⟩ := hQ
  show Go x _ Z _ _ _ T 8 #[.val (.int (0 : Int32)), .val (.ref t)] []
  exact w.retV d23_8 rfl ⟨rfl, rfl⟩

theorem ef22_ri (m : MethodId) (x0 : Addr) (x1 : Int32) : entryFrame m #[(.ref x0), (.int x1)] 2 = mkF m 0 #[.val (.ref x0), .val (.int x1)] [] := by first | (simp [entryFrame, mkF, argsToLocals, Value.category]; done) | rfl
set_option maxRecDepth 65536 in
set_option maxHeartbeats 40000000 in
theorem rmUC_3_0 (l : Launch) (Z : State) (a0 : Array Value) (hw : ∀ d ∈ tables_1, d.before a0 Z = true) (hr : rest_1_c.value a0 Z none Z [] = some true) (t : Addr) (kb : ClassId) (c0 c1 c2 : Int32) (h0 : Heap) (hE : Ext Z.heap h0) (A : Arv Z h0 t kb .byte (6 : Int32) [(.int (nar .byte (c0 >>> ((0 : Int32) &&& 31)))), (.int (nar .byte (c0 >>> ((8 : Int32) &&& 31)))), (.int (nar .byte (c1 >>> ((0 : Int32) &&& 31)))), (.int (nar .byte (c1 >>> ((8 : Int32) &&& 31)))), (.int (nar .byte (c2 >>> ((0 : Int32) &&& 31)))), (.int (nar .byte (c2 >>> ((8 : Int32) &&& 31))))] (.int 0)) (z : 0 ≤ c0.toInt) (v : c0.toInt < 65536) (y : nar .char c0 = c0) :
    Ct true l Z consts_1 (⟨"java/lang/StringUTF16", "charAt", "([BI)C"⟩ : MethodName) jdk_52_method_83_code 2 (some .char) [] ({ frames := 3, cells := 0, slots := 0, locals := 40 } : Room) [] #[(.ref t), (.int (0 : Int32))] h0 (fun r u => r = some (.int c0) ∧ h0 = u) := by
  refine Ct.intro pn_java_lang_StringUTF16 hE (fun m => ef22_ri m t _) nosf ⟨a0, own_EW hw⟩ ?_
  intro x T w
  refine w.iloadN d22_0 rfl ?_
  refine w.aloadN d22_1 rfl rfl ?_
  refine w.callS (argsL := [(.int (0 : Int32)), (.ref t)]) (rest := []) 0 d22_2 (tw hw 99 rfl) (tw hw 100 rfl) (tw hw 44 rfl) (tw hw 101 rfl) (by decide) (rmUI_3_0 l Z a0 hw hr t kb _ h0 w.old A) (lenOf pd_7 rfl) rfl rfl (Nat.le_refl _) ⟨by decide, by decide, by decide, by decide⟩ all0 ?_
  intro T h1 r w _ hQ
  obtain ⟨rfl, rfl⟩ := hQ
  show Go x _ Z _ _ _ T 5 #[.val (.ref t), .val (.int (0 : Int32))] []
  refine w.aloadN d22_5 rfl rfl ?_
  refine w.iloadN d22_6 rfl ?_
  refine w.callS (argsL := [(.ref t), (.int (0 : Int32))]) (rest := []) 0 d22_7 (tw hw 93 rfl) (tw hw 94 rfl) (tw hw 44 rfl) (tw hw 95 rfl) (by decide) (rmGe_3_0 l Z a0 hw hr t kb c0 c1 c2 h0 w.old A z v) (lenOf pd_5 rfl) rfl rfl (Nat.le_refl _) ⟨by decide, by decide, by decide, by decide⟩ all0 ?_
  intro T h2 r w _ hQ
  obtain ⟨rfl, rfl⟩ := hQ
  show Go x _ Z _ _ _ T 10 #[.val (.ref t), .val (.int (0 : Int32))] [(.int c0)]
  exact w.retN d22_10 rfl (by simp) ⟨by rw [y], rfl⟩

set_option maxRecDepth 65536 in
set_option maxHeartbeats 40000000 in
theorem rmIL1 (l : Launch) (Z : State) (a0 : Array Value) (hw : ∀ d ∈ tables_1, d.before a0 Z = true) (hr : rest_1_c.value a0 Z none Z [] = some true) (a : Addr) (h0 : Heap) (hE : Ext Z.heap h0) (G1 : Fld Z h0 a "java/lang/String" "coder" "B" (.int (1 : Int32))) :
    Ct true l Z consts_1 (⟨"java/lang/String", "isLatin1", "()Z"⟩ : MethodName) jdk_42_method_154_code 1 (some .boolean) [] ({ frames := 0, cells := 0, slots := 0, locals := 0 } : Room) [] #[(.ref a)] h0 (fun r u => r = some (.int (0 : Int32)) ∧ h0 = u) := by
  refine Ct.intro pn_java_lang_String hE (fun m => ef13_r m a) nosf ⟨a0, own_EW hw⟩ ?_
  intro x T w
  obtain ⟨cz, Scs, hcz⟩ := own_cs hr
  refine w.getS d13_0 (tw hw 41 rfl) Scs ?_
  intro T w
  refine w.ifEq d13_3 d13_3t (fun q => absurd q hcz) (fun _ => ?_)
  refine w.aloadN d13_6 rfl rfl ?_
  refine w.getF d13_7 (tw hw 26 rfl) G1 ?_
  intro T w
  refine w.ifNe d13_10 d13_10t (fun _ => ?_) (fun q => absurd q (by decide))
  refine w.iconst (0 : Int32) d13_17 rfl ?_
  exact w.retN d13_18 rfl (by simp) ⟨rfl, rfl⟩

set_option maxRecDepth 65536 in
set_option maxHeartbeats 40000000 in
theorem rmCAE_3_0 (l : Launch) (Z : State) (a0 : Array Value) (hw : ∀ d ∈ tables_1, d.before a0 Z = true) (hr : rest_1_c.value a0 Z none Z [] = some true) (a t : Addr) (c0 c1 c2 : Int32) (h0 : Heap) (hE : Ext Z.heap h0) (Sa : ((StrL Z h0 a t 0 [nar .byte c0, nar .byte c1, nar .byte c2] ∧ (¬ 255 < c0 ∧ ¬ 255 < c1 ∧ ¬ 255 < c2 ∧ True)) ∨ StrL Z h0 a t 1 [nar .byte (c0 >>> ((0 : Int32) &&& 31)), nar .byte (c0 >>> ((8 : Int32) &&& 31)), nar .byte (c1 >>> ((0 : Int32) &&& 31)), nar .byte (c1 >>> ((8 : Int32) &&& 31)), nar .byte (c2 >>> ((0 : Int32) &&& 31)), nar .byte (c2 >>> ((8 : Int32) &&& 31))])) (z0 : 0 ≤ c0.toInt) (v0 : c0.toInt < 65536) (z1 : 0 ≤ c1.toInt) (v1 : c1.toInt < 65536) (z2 : 0 ≤ c2.toInt) (v2 : c2.toInt < 65536) (y0 : nar .char c0 = c0) (y1 : nar .char c1 = c1) (y2 : nar .char c2 = c2) :
    Ct true l Z consts_1 (⟨"java/lang/String", "charAt", "(I)C"⟩ : MethodName) jdk_42_method_56_code 2 (some .char) [] ({ frames := 4, cells := 0, slots := 0, locals := 53 } : Room) [] #[(.ref a), (.int (0 : Int32))] h0 (fun r u => r = some (.int c0) ∧ h0 = u) := by
  refine Ct.intro pn_java_lang_String hE (fun m => ef12_ri m a _) nosf ⟨a0, own_EW hw⟩ ?_
  intro x T w
  rcases Sa with ⟨Sa, ul⟩ | Sa
  · obtain ⟨Ea, Va, Ca, ka, Aa, -⟩ := id Sa
    refine w.aloadN d12_0 rfl rfl ?_
    refine w.callV (argsL := []) (rest := []) 0 d12_1 (tw hw 60 rfl) (tw hw 61 rfl) (tw hw 63 rfl) (tw hw 62 rfl) (tw hw 8 rfl) (tw hw 64 rfl) (by decide) Ea (rmIL0 l Z a0 hw hr a h0 w.old Ca) (lenOf pd_4 rfl) rfl rfl (Nat.le_refl _) ⟨by decide, by decide, by decide, by decide⟩ all0 ?_
    intro T h1 r w _ hQ
    obtain ⟨rfl, rfl⟩ := hQ
    show Go x _ Z _ _ _ T 4 #[.val (.ref a), .val (.int (0 : Int32))] [(.int (1 : Int32))]
    refine w.ifEq d12_4 d12_4t (fun q => absurd q (by decide)) (fun _ => ?_)
    refine w.aloadN d12_7 rfl rfl ?_
    refine w.getF d12_8 (tw hw 25 rfl) Va ?_
    intro T w
    refine w.iloadN d12_11 rfl ?_
    refine w.callS (argsL := [(.ref t), (.int (0 : Int32))]) (rest := []) 0 d12_12 (tw hw 65 rfl) (tw hw 66 rfl) (tw hw 67 rfl) (tw hw 68 rfl) (by decide) (rmLA_3_0 l Z a0 hw hr t ka c0 c1 c2 h0 w.old Aa z0 ul.1 z1 ul.2.1 z2 ul.2.2.1) (lenOf pd_5 rfl) rfl rfl (Nat.le_refl _) ⟨by decide, by decide, by decide, by decide⟩ all0 ?_
    intro T h2 r w _ hQ
    obtain ⟨rfl, rfl⟩ := hQ
    show Go x _ Z _ _ _ T 15 #[.val (.ref a), .val (.int (0 : Int32))] [(.int c0)]
    exact w.retN d12_15 rfl (by simp) ⟨by rw [y0], rfl⟩
  · obtain ⟨Ea, Va, Ca, ka, Aa, -⟩ := id Sa
    refine w.aloadN d12_0 rfl rfl ?_
    refine w.callV (argsL := []) (rest := []) 0 d12_1 (tw hw 60 rfl) (tw hw 61 rfl) (tw hw 63 rfl) (tw hw 62 rfl) (tw hw 8 rfl) (tw hw 64 rfl) (by decide) Ea (rmIL1 l Z a0 hw hr a h0 w.old Ca) (lenOf pd_4 rfl) rfl rfl (Nat.le_refl _) ⟨by decide, by decide, by decide, by decide⟩ all0 ?_
    intro T h3 r w _ hQ
    obtain ⟨rfl, rfl⟩ := hQ
    show Go x _ Z _ _ _ T 4 #[.val (.ref a), .val (.int (0 : Int32))] [(.int (0 : Int32))]
    refine w.ifEq d12_4 d12_4t (fun _ => ?_) (fun q => absurd rfl q)
    refine w.aloadN d12_16 rfl rfl ?_
    refine w.getF d12_17 (tw hw 25 rfl) Va ?_
    intro T w
    refine w.iloadN d12_20 rfl ?_
    refine w.callS (argsL := [(.ref t), (.int (0 : Int32))]) (rest := []) 0 d12_21 (tw hw 96 rfl) (tw hw 97 rfl) (tw hw 44 rfl) (tw hw 98 rfl) (by decide) (rmUC_3_0 l Z a0 hw hr t ka c0 c1 c2 h0 w.old Aa z0 v0 y0) (lenOf pd_5 rfl) rfl rfl (Nat.le_refl _) ⟨by decide, by decide, by decide, by decide⟩ all0 ?_
    intro T h4 r w _ hQ
    obtain ⟨rfl, rfl⟩ := hQ
    show Go x _ Z _ _ _ T 24 #[.val (.ref a), .val (.int (0 : Int32))] [(.int c0)]
    exact w.retN d12_24 rfl (by simp) ⟨by rw [y0], rfl⟩

set_option maxRecDepth 65536 in
set_option maxHeartbeats 40000000 in
theorem rmLA_3_1 (l : Launch) (Z : State) (a0 : Array Value) (hw : ∀ d ∈ tables_1, d.before a0 Z = true) (hr : rest_1_c.value a0 Z none Z [] = some true) (t : Addr) (kb : ClassId) (c0 c1 c2 : Int32) (h0 : Heap) (hE : Ext Z.heap h0) (A : Arv Z h0 t kb .byte (3 : Int32) [(.int (nar .byte c0)), (.int (nar .byte c1)), (.int (nar .byte c2))] (.int 0)) (z0 : 0 ≤ c0.toInt) (u0 : ¬ 255 < c0) (z1 : 0 ≤ c1.toInt) (u1 : ¬ 255 < c1) (z2 : 0 ≤ c2.toInt) (u2 : ¬ 255 < c2) :
    Ct true l Z consts_1 (⟨"java/lang/StringLatin1", "charAt", "([BI)C"⟩ : MethodName) jdk_43_method_2_code 2 (some .char) [] ({ frames := 2, cells := 0, slots := 0, locals := 32 } : Room) [] #[(.ref t), (.int (1 : Int32))] h0 (fun r u => r = some (.int c1) ∧ h0 = u) := by
  refine Ct.intro pn_java_lang_StringLatin1 hE (fun m => ef14_ri m t _) nosf ⟨a0, own_EW hw⟩ ?_
  intro x T w
  obtain ⟨cla, Ara, -, Sa, Ma, Ha, -⟩ := id A
  refine w.iloadN d14_0 rfl ?_
  refine w.aloadN d14_1 rfl rfl ?_
  refine w.alen (3 : Int32) d14_2 Ara (len_of Sa Ma) ?_
  refine w.callS (argsL := [(.int (1 : Int32)), (.int (3 : Int32))]) (rest := []) 0 d14_3 (tw hw 69 rfl) (tw hw 70 rfl) (tw hw 8 rfl) (tw hw 71 rfl) (by decide) (rmCI l Z a0 hw hr (1 : Int32) (3 : Int32) (by decide) (by decide) h0 w.old) (lenOf pd_3 rfl) rfl rfl (Nat.le_refl _) ⟨by decide, by decide, by decide, by decide⟩ all0 ?_
  intro T h1 r w _ hQ
  obtain ⟨rfl, rfl⟩ := hQ
  show Go x _ Z _ _ _ T 6 #[.val (.ref t), .val (.int (1 : Int32))] []
  refine w.aloadN d14_6 rfl rfl ?_
  refine w.iloadN d14_7 rfl ?_
  refine w.baload d14_8 Ara (inb_of Sa (by decide)) (Ha.at (inb_of Sa (by decide)) rfl) ?_
  refine w.sipush (255 : Int32) d14_9 rfl ?_
  refine w.iand d14_12 ?_
  refine w.i2c d14_13 ?_
  exact w.retN d14_14 rfl (by simp) ⟨by rw [ncc, b255 z1 u1], rfl⟩

set_option maxRecDepth 65536 in
set_option maxHeartbeats 40000000 in
theorem rmCA_3_1 (l : Launch) (Z : State) (a0 : Array Value) (hw : ∀ d ∈ tables_1, d.before a0 Z = true) (hr : rest_1_c.value a0 Z none Z [] = some true) (a t : Addr) (c0 c1 c2 : Int32) (h0 : Heap) (hE : Ext Z.heap h0) (Sa : StrL Z h0 a t 0 [nar .byte c0, nar .byte c1, nar .byte c2]) (z0 : 0 ≤ c0.toInt) (u0 : ¬ 255 < c0) (z1 : 0 ≤ c1.toInt) (u1 : ¬ 255 < c1) (z2 : 0 ≤ c2.toInt) (u2 : ¬ 255 < c2) (y0 : nar .char c0 = c0) (y1 : nar .char c1 = c1) (y2 : nar .char c2 = c2) :
    Ct true l Z consts_1 (⟨"java/lang/String", "charAt", "(I)C"⟩ : MethodName) jdk_42_method_56_code 2 (some .char) [] ({ frames := 3, cells := 0, slots := 0, locals := 46 } : Room) [] #[(.ref a), (.int (1 : Int32))] h0 (fun r u => r = some (.int c1) ∧ h0 = u) := by
  refine Ct.intro pn_java_lang_String hE (fun m => ef12_ri m a _) nosf ⟨a0, own_EW hw⟩ ?_
  intro x T w
  obtain ⟨Ea, Va, Ca, ka, Aa, -⟩ := id Sa
  refine w.aloadN d12_0 rfl rfl ?_
  refine w.callV (argsL := []) (rest := []) 0 d12_1 (tw hw 60 rfl) (tw hw 61 rfl) (tw hw 63 rfl) (tw hw 62 rfl) (tw hw 8 rfl) (tw hw 64 rfl) (by decide) Ea (rmIL0 l Z a0 hw hr a h0 w.old Ca) (lenOf pd_4 rfl) rfl rfl (Nat.le_refl _) ⟨by decide, by decide, by decide, by decide⟩ all0 ?_
  intro T h1 r w _ hQ
  obtain ⟨rfl, rfl⟩ := hQ
  show Go x _ Z _ _ _ T 4 #[.val (.ref a), .val (.int (1 : Int32))] [(.int (1 : Int32))]
  refine w.ifEq d12_4 d12_4t (fun q => absurd q (by decide)) (fun _ => ?_)
  refine w.aloadN d12_7 rfl rfl ?_
  refine w.getF d12_8 (tw hw 25 rfl) Va ?_
  intro T w
  refine w.iloadN d12_11 rfl ?_
  refine w.callS (argsL := [(.ref t), (.int (1 : Int32))]) (rest := []) 0 d12_12 (tw hw 65 rfl) (tw hw 66 rfl) (tw hw 67 rfl) (tw hw 68 rfl) (by decide) (rmLA_3_1 l Z a0 hw hr t ka c0 c1 c2 h0 w.old Aa z0 u0 z1 u1 z2 u2) (lenOf pd_5 rfl) rfl rfl (Nat.le_refl _) ⟨by decide, by decide, by decide, by decide⟩ all0 ?_
  intro T h2 r w _ hQ
  obtain ⟨rfl, rfl⟩ := hQ
  show Go x _ Z _ _ _ T 15 #[.val (.ref a), .val (.int (1 : Int32))] [(.int c1)]
  exact w.retN d12_15 rfl (by simp) ⟨by rw [y1], rfl⟩

set_option maxRecDepth 65536 in
set_option maxHeartbeats 40000000 in
theorem rmGe_3_1 (l : Launch) (Z : State) (a0 : Array Value) (hw : ∀ d ∈ tables_1, d.before a0 Z = true) (hr : rest_1_c.value a0 Z none Z [] = some true) (t : Addr) (kb : ClassId) (c0 c1 c2 : Int32) (h0 : Heap) (hE : Ext Z.heap h0) (A : Arv Z h0 t kb .byte (6 : Int32) [(.int (nar .byte (c0 >>> ((0 : Int32) &&& 31)))), (.int (nar .byte (c0 >>> ((8 : Int32) &&& 31)))), (.int (nar .byte (c1 >>> ((0 : Int32) &&& 31)))), (.int (nar .byte (c1 >>> ((8 : Int32) &&& 31)))), (.int (nar .byte (c2 >>> ((0 : Int32) &&& 31)))), (.int (nar .byte (c2 >>> ((8 : Int32) &&& 31))))] (.int 0)) (z : 0 ≤ c1.toInt) (v : c1.toInt < 65536) :
    Ct true l Z consts_1 (⟨"java/lang/StringUTF16", "getChar", "([BI)C"⟩ : MethodName) jdk_52_method_5_code 2 (some .char) [] ({ frames := 0, cells := 0, slots := 0, locals := 0 } : Room) [] #[(.ref t), (.int (1 : Int32))] h0 (fun r u => r = some (.int c1) ∧ h0 = u) := by
  refine Ct.intro pn_java_lang_StringUTF16 hE (fun m => ef21_ri m t _) nosf ⟨a0, own_EW hw⟩ ?_
  intro x T w
  obtain ⟨cl, Ar, -, S, M, H, -⟩ := id A
  refine w.getS d21_0 (tw hw 90 rfl) (own_ad hr) ?_
  intro T w
  refine w.ifNe d21_3 d21_3t (fun _ => ?_) (fun q => absurd q (by decide))
  refine w.iloadN d21_28 rfl ?_
  refine w.iconst (1 : Int32) d21_29 rfl ?_
  refine w.ishl d21_30 ?_
  refine w.istoreN #[.val (.ref t), .val (.int ((1 : Int32) <<< ((1 : Int32) &&& 31)))] d21_31 rfl ?_
  refine w.aloadN d21_32 rfl rfl ?_
  refine w.iloadN d21_33 rfl ?_
  refine w.iinc (1 : Int32) #[.val (.ref t), .val (.int (((1 : Int32) <<< ((1 : Int32) &&& 31)) + (1 : Int32)))] d21_34 rfl rfl rfl ?_
  refine w.baload (v := .int (nar .byte (c1 >>> ((0 : Int32) &&& 31)))) d21_37 Ar (inb_of S (by decide)) (H.at (inb_of S (by decide)) (by rw [show (((1 : Int32) <<< ((1 : Int32) &&& 31))).toNatClampNeg = 2 by decide]; rfl)) ?_
  refine w.sipush (255 : Int32) d21_38 rfl ?_
  refine w.iand d21_41 ?_
  refine w.getS d21_42 (tw hw 91 rfl) (own_hi hr) ?_
  intro T w
  refine w.ishl d21_45 ?_
  refine w.aloadN d21_46 rfl rfl ?_
  refine w.iloadN d21_47 rfl ?_
  refine w.baload (v := .int (nar .byte (c1 >>> ((8 : Int32) &&& 31)))) d21_48 Ar (inb_of S (by decide)) (H.at (inb_of S (by decide)) (by rw [show ((((1 : Int32) <<< ((1 : Int32) &&& 31)) + (1 : Int32))).toNatClampNeg = 3 by decide]; rfl)) ?_
  refine w.sipush (255 : Int32) d21_49 rfl ?_
  refine w.iand d21_52 ?_
  refine w.getS d21_53 (tw hw 92 rfl) (own_lo hr) ?_
  intro T w
  refine w.ishl d21_56 ?_
  refine w.ior d21_57 ?_
  refine w.i2c d21_58 ?_
  exact w.retN d21_59 rfl (by simp) ⟨by rw [ncc, own_gc z v], rfl⟩

set_option maxRecDepth 65536 in
set_option maxHeartbeats 40000000 in
theorem rmUI_3_1 (l : Launch) (Z : State) (a0 : Array Value) (hw : ∀ d ∈ tables_1, d.before a0 Z = true) (hr : rest_1_c.value a0 Z none Z [] = some true) (t : Addr) (kb : ClassId) (vs : List Value) (h0 : Heap) (hE : Ext Z.heap h0) (A : Arv Z h0 t kb .byte (6 : Int32) vs (.int 0)) :
    Ct true l Z consts_1 (⟨"java/lang/StringUTF16", "checkIndex", "(I[B)V"⟩ : MethodName) jdk_52_method_91_code 2 none [] ({ frames := 2, cells := 0, slots := 0, locals := 27 } : Room) [] #[(.int (1 : Int32)), (.ref t)] h0 (fun r u => r = none ∧ h0 = u) := by
  refine Ct.intro pn_java_lang_StringUTF16 hE (fun m => ef23_ir m _ t) nosf ⟨a0, own_EW hw⟩ ?_
  intro x T w
  refine w.iloadN d23_0 rfl ?_
  refine w.aloadN d23_1 rfl rfl ?_
  refine w.callS (argsL := [(.ref t)]) (rest := [(.int (1 : Int32))]) 1 d23_2 (tw hw 102 rfl) (tw hw 103 rfl) (tw hw 44 rfl) (tw hw 104 rfl) (by decide) (rmUL_3 l Z a0 hw t kb vs h0 w.old A) (lenOf pd_6 rfl) rfl rfl (Nat.le_refl _) ⟨by decide, by decide, by decide, by decide⟩ all0 ?_
  intro T h1 r w _ hQ
  obtain ⟨rfl, rfl⟩ := hQ
  show Go x _ Z _ _ _ T 5 #[.val (.int (1 : Int32)), .val (.ref t)] [(.int (3 : Int32)), (.int (1 : Int32))]
  refine w.callS (argsL := [(.int (1 : Int32)), (.int (3 : Int32))]) (rest := []) 0 d23_5 (tw hw 105 rfl) (tw hw 70 rfl) (tw hw 8 rfl) (tw hw 71 rfl) (by decide) (rmCI l Z a0 hw hr (1 : Int32) (3 : Int32) (by decide) (by decide) h0 w.old) (lenOf pd_3 rfl) rfl rfl (Nat.le_refl _) ⟨by decide, by decide, by decide, by decide⟩ all0 ?_
  intro T h2 r w _ hQ
  obtain ⟨rfl, rfl⟩ := hQ
  show Go x _ Z _ _ _ T 8 #[.val (.int (1 : Int32)), .val (.ref t)] []
  exact w.retV d23_8 rfl ⟨rfl, rfl⟩

set_option maxRecDepth 65536 in
set_option maxHeartbeats 40000000 in
theorem rmUC_3_1 (l : Launch) (Z : State) (a0 : Array Value) (hw : ∀ d ∈ tables_1, d.before a0 Z = true) (hr : rest_1_c.value a0 Z none Z [] = some true) (t : Addr) (kb : ClassId) (c0 c1 c2 : Int32) (h0 : Heap) (hE : Ext Z.heap h0) (A : Arv Z h0 t kb .byte (6 : Int32) [(.int (nar .byte (c0 >>> ((0 : Int32) &&& 31)))), (.int (nar .byte (c0 >>> ((8 : Int32) &&& 31)))), (.int (nar .byte (c1 >>> ((0 : Int32) &&& 31)))), (.int (nar .byte (c1 >>> ((8 : Int32) &&& 31)))), (.int (nar .byte (c2 >>> ((0 : Int32) &&& 31)))), (.int (nar .byte (c2 >>> ((8 : Int32) &&& 31))))] (.int 0)) (z : 0 ≤ c1.toInt) (v : c1.toInt < 65536) (y : nar .char c1 = c1) :
    Ct true l Z consts_1 (⟨"java/lang/StringUTF16", "charAt", "([BI)C"⟩ : MethodName) jdk_52_method_83_code 2 (some .char) [] ({ frames := 3, cells := 0, slots := 0, locals := 40 } : Room) [] #[(.ref t), (.int (1 : Int32))] h0 (fun r u => r = some (.int c1) ∧ h0 = u) := by
  refine Ct.intro pn_java_lang_StringUTF16 hE (fun m => ef22_ri m t _) nosf ⟨a0, own_EW hw⟩ ?_
  intro x T w
  refine w.iloadN d22_0 rfl ?_
  refine w.aloadN d22_1 rfl rfl ?_
  refine w.callS (argsL := [(.int (1 : Int32)), (.ref t)]) (rest := []) 0 d22_2 (tw hw 99 rfl) (tw hw 100 rfl) (tw hw 44 rfl) (tw hw 101 rfl) (by decide) (rmUI_3_1 l Z a0 hw hr t kb _ h0 w.old A) (lenOf pd_7 rfl) rfl rfl (Nat.le_refl _) ⟨by decide, by decide, by decide, by decide⟩ all0 ?_
  intro T h1 r w _ hQ
  obtain ⟨rfl, rfl⟩ := hQ
  show Go x _ Z _ _ _ T 5 #[.val (.ref t), .val (.int (1 : Int32))] []
  refine w.aloadN d22_5 rfl rfl ?_
  refine w.iloadN d22_6 rfl ?_
  refine w.callS (argsL := [(.ref t), (.int (1 : Int32))]) (rest := []) 0 d22_7 (tw hw 93 rfl) (tw hw 94 rfl) (tw hw 44 rfl) (tw hw 95 rfl) (by decide) (rmGe_3_1 l Z a0 hw hr t kb c0 c1 c2 h0 w.old A z v) (lenOf pd_5 rfl) rfl rfl (Nat.le_refl _) ⟨by decide, by decide, by decide, by decide⟩ all0 ?_
  intro T h2 r w _ hQ
  obtain ⟨rfl, rfl⟩ := hQ
  show Go x _ Z _ _ _ T 10 #[.val (.ref t), .val (.int (1 : Int32))] [(.int c1)]
  exact w.retN d22_10 rfl (by simp) ⟨by rw [y], rfl⟩

set_option maxRecDepth 65536 in
set_option maxHeartbeats 40000000 in
theorem rmCAE_3_1 (l : Launch) (Z : State) (a0 : Array Value) (hw : ∀ d ∈ tables_1, d.before a0 Z = true) (hr : rest_1_c.value a0 Z none Z [] = some true) (a t : Addr) (c0 c1 c2 : Int32) (h0 : Heap) (hE : Ext Z.heap h0) (Sa : ((StrL Z h0 a t 0 [nar .byte c0, nar .byte c1, nar .byte c2] ∧ (¬ 255 < c0 ∧ ¬ 255 < c1 ∧ ¬ 255 < c2 ∧ True)) ∨ StrL Z h0 a t 1 [nar .byte (c0 >>> ((0 : Int32) &&& 31)), nar .byte (c0 >>> ((8 : Int32) &&& 31)), nar .byte (c1 >>> ((0 : Int32) &&& 31)), nar .byte (c1 >>> ((8 : Int32) &&& 31)), nar .byte (c2 >>> ((0 : Int32) &&& 31)), nar .byte (c2 >>> ((8 : Int32) &&& 31))])) (z0 : 0 ≤ c0.toInt) (v0 : c0.toInt < 65536) (z1 : 0 ≤ c1.toInt) (v1 : c1.toInt < 65536) (z2 : 0 ≤ c2.toInt) (v2 : c2.toInt < 65536) (y0 : nar .char c0 = c0) (y1 : nar .char c1 = c1) (y2 : nar .char c2 = c2) :
    Ct true l Z consts_1 (⟨"java/lang/String", "charAt", "(I)C"⟩ : MethodName) jdk_42_method_56_code 2 (some .char) [] ({ frames := 4, cells := 0, slots := 0, locals := 53 } : Room) [] #[(.ref a), (.int (1 : Int32))] h0 (fun r u => r = some (.int c1) ∧ h0 = u) := by
  refine Ct.intro pn_java_lang_String hE (fun m => ef12_ri m a _) nosf ⟨a0, own_EW hw⟩ ?_
  intro x T w
  rcases Sa with ⟨Sa, ul⟩ | Sa
  · obtain ⟨Ea, Va, Ca, ka, Aa, -⟩ := id Sa
    refine w.aloadN d12_0 rfl rfl ?_
    refine w.callV (argsL := []) (rest := []) 0 d12_1 (tw hw 60 rfl) (tw hw 61 rfl) (tw hw 63 rfl) (tw hw 62 rfl) (tw hw 8 rfl) (tw hw 64 rfl) (by decide) Ea (rmIL0 l Z a0 hw hr a h0 w.old Ca) (lenOf pd_4 rfl) rfl rfl (Nat.le_refl _) ⟨by decide, by decide, by decide, by decide⟩ all0 ?_
    intro T h1 r w _ hQ
    obtain ⟨rfl, rfl⟩ := hQ
    show Go x _ Z _ _ _ T 4 #[.val (.ref a), .val (.int (1 : Int32))] [(.int (1 : Int32))]
    refine w.ifEq d12_4 d12_4t (fun q => absurd q (by decide)) (fun _ => ?_)
    refine w.aloadN d12_7 rfl rfl ?_
    refine w.getF d12_8 (tw hw 25 rfl) Va ?_
    intro T w
    refine w.iloadN d12_11 rfl ?_
    refine w.callS (argsL := [(.ref t), (.int (1 : Int32))]) (rest := []) 0 d12_12 (tw hw 65 rfl) (tw hw 66 rfl) (tw hw 67 rfl) (tw hw 68 rfl) (by decide) (rmLA_3_1 l Z a0 hw hr t ka c0 c1 c2 h0 w.old Aa z0 ul.1 z1 ul.2.1 z2 ul.2.2.1) (lenOf pd_5 rfl) rfl rfl (Nat.le_refl _) ⟨by decide, by decide, by decide, by decide⟩ all0 ?_
    intro T h2 r w _ hQ
    obtain ⟨rfl, rfl⟩ := hQ
    show Go x _ Z _ _ _ T 15 #[.val (.ref a), .val (.int (1 : Int32))] [(.int c1)]
    exact w.retN d12_15 rfl (by simp) ⟨by rw [y1], rfl⟩
  · obtain ⟨Ea, Va, Ca, ka, Aa, -⟩ := id Sa
    refine w.aloadN d12_0 rfl rfl ?_
    refine w.callV (argsL := []) (rest := []) 0 d12_1 (tw hw 60 rfl) (tw hw 61 rfl) (tw hw 63 rfl) (tw hw 62 rfl) (tw hw 8 rfl) (tw hw 64 rfl) (by decide) Ea (rmIL1 l Z a0 hw hr a h0 w.old Ca) (lenOf pd_4 rfl) rfl rfl (Nat.le_refl _) ⟨by decide, by decide, by decide, by decide⟩ all0 ?_
    intro T h3 r w _ hQ
    obtain ⟨rfl, rfl⟩ := hQ
    show Go x _ Z _ _ _ T 4 #[.val (.ref a), .val (.int (1 : Int32))] [(.int (0 : Int32))]
    refine w.ifEq d12_4 d12_4t (fun _ => ?_) (fun q => absurd rfl q)
    refine w.aloadN d12_16 rfl rfl ?_
    refine w.getF d12_17 (tw hw 25 rfl) Va ?_
    intro T w
    refine w.iloadN d12_20 rfl ?_
    refine w.callS (argsL := [(.ref t), (.int (1 : Int32))]) (rest := []) 0 d12_21 (tw hw 96 rfl) (tw hw 97 rfl) (tw hw 44 rfl) (tw hw 98 rfl) (by decide) (rmUC_3_1 l Z a0 hw hr t ka c0 c1 c2 h0 w.old Aa z1 v1 y1) (lenOf pd_5 rfl) rfl rfl (Nat.le_refl _) ⟨by decide, by decide, by decide, by decide⟩ all0 ?_
    intro T h4 r w _ hQ
    obtain ⟨rfl, rfl⟩ := hQ
    show Go x _ Z _ _ _ T 24 #[.val (.ref a), .val (.int (1 : Int32))] [(.int c1)]
    exact w.retN d12_24 rfl (by simp) ⟨by rw [y1], rfl⟩

set_option maxRecDepth 65536 in
set_option maxHeartbeats 40000000 in
theorem rmLA_3_2 (l : Launch) (Z : State) (a0 : Array Value) (hw : ∀ d ∈ tables_1, d.before a0 Z = true) (hr : rest_1_c.value a0 Z none Z [] = some true) (t : Addr) (kb : ClassId) (c0 c1 c2 : Int32) (h0 : Heap) (hE : Ext Z.heap h0) (A : Arv Z h0 t kb .byte (3 : Int32) [(.int (nar .byte c0)), (.int (nar .byte c1)), (.int (nar .byte c2))] (.int 0)) (z0 : 0 ≤ c0.toInt) (u0 : ¬ 255 < c0) (z1 : 0 ≤ c1.toInt) (u1 : ¬ 255 < c1) (z2 : 0 ≤ c2.toInt) (u2 : ¬ 255 < c2) :
    Ct true l Z consts_1 (⟨"java/lang/StringLatin1", "charAt", "([BI)C"⟩ : MethodName) jdk_43_method_2_code 2 (some .char) [] ({ frames := 2, cells := 0, slots := 0, locals := 32 } : Room) [] #[(.ref t), (.int (2 : Int32))] h0 (fun r u => r = some (.int c2) ∧ h0 = u) := by
  refine Ct.intro pn_java_lang_StringLatin1 hE (fun m => ef14_ri m t _) nosf ⟨a0, own_EW hw⟩ ?_
  intro x T w
  obtain ⟨cla, Ara, -, Sa, Ma, Ha, -⟩ := id A
  refine w.iloadN d14_0 rfl ?_
  refine w.aloadN d14_1 rfl rfl ?_
  refine w.alen (3 : Int32) d14_2 Ara (len_of Sa Ma) ?_
  refine w.callS (argsL := [(.int (2 : Int32)), (.int (3 : Int32))]) (rest := []) 0 d14_3 (tw hw 69 rfl) (tw hw 70 rfl) (tw hw 8 rfl) (tw hw 71 rfl) (by decide) (rmCI l Z a0 hw hr (2 : Int32) (3 : Int32) (by decide) (by decide) h0 w.old) (lenOf pd_3 rfl) rfl rfl (Nat.le_refl _) ⟨by decide, by decide, by decide, by decide⟩ all0 ?_
  intro T h1 r w _ hQ
  obtain ⟨rfl, rfl⟩ := hQ
  show Go x _ Z _ _ _ T 6 #[.val (.ref t), .val (.int (2 : Int32))] []
  refine w.aloadN d14_6 rfl rfl ?_
  refine w.iloadN d14_7 rfl ?_
  refine w.baload d14_8 Ara (inb_of Sa (by decide)) (Ha.at (inb_of Sa (by decide)) rfl) ?_
  refine w.sipush (255 : Int32) d14_9 rfl ?_
  refine w.iand d14_12 ?_
  refine w.i2c d14_13 ?_
  exact w.retN d14_14 rfl (by simp) ⟨by rw [ncc, b255 z2 u2], rfl⟩

set_option maxRecDepth 65536 in
set_option maxHeartbeats 40000000 in
theorem rmCA_3_2 (l : Launch) (Z : State) (a0 : Array Value) (hw : ∀ d ∈ tables_1, d.before a0 Z = true) (hr : rest_1_c.value a0 Z none Z [] = some true) (a t : Addr) (c0 c1 c2 : Int32) (h0 : Heap) (hE : Ext Z.heap h0) (Sa : StrL Z h0 a t 0 [nar .byte c0, nar .byte c1, nar .byte c2]) (z0 : 0 ≤ c0.toInt) (u0 : ¬ 255 < c0) (z1 : 0 ≤ c1.toInt) (u1 : ¬ 255 < c1) (z2 : 0 ≤ c2.toInt) (u2 : ¬ 255 < c2) (y0 : nar .char c0 = c0) (y1 : nar .char c1 = c1) (y2 : nar .char c2 = c2) :
    Ct true l Z consts_1 (⟨"java/lang/String", "charAt", "(I)C"⟩ : MethodName) jdk_42_method_56_code 2 (some .char) [] ({ frames := 3, cells := 0, slots := 0, locals := 46 } : Room) [] #[(.ref a), (.int (2 : Int32))] h0 (fun r u => r = some (.int c2) ∧ h0 = u) := by
  refine Ct.intro pn_java_lang_String hE (fun m => ef12_ri m a _) nosf ⟨a0, own_EW hw⟩ ?_
  intro x T w
  obtain ⟨Ea, Va, Ca, ka, Aa, -⟩ := id Sa
  refine w.aloadN d12_0 rfl rfl ?_
  refine w.callV (argsL := []) (rest := []) 0 d12_1 (tw hw 60 rfl) (tw hw 61 rfl) (tw hw 63 rfl) (tw hw 62 rfl) (tw hw 8 rfl) (tw hw 64 rfl) (by decide) Ea (rmIL0 l Z a0 hw hr a h0 w.old Ca) (lenOf pd_4 rfl) rfl rfl (Nat.le_refl _) ⟨by decide, by decide, by decide, by decide⟩ all0 ?_
  intro T h1 r w _ hQ
  obtain ⟨rfl, rfl⟩ := hQ
  show Go x _ Z _ _ _ T 4 #[.val (.ref a), .val (.int (2 : Int32))] [(.int (1 : Int32))]
  refine w.ifEq d12_4 d12_4t (fun q => absurd q (by decide)) (fun _ => ?_)
  refine w.aloadN d12_7 rfl rfl ?_
  refine w.getF d12_8 (tw hw 25 rfl) Va ?_
  intro T w
  refine w.iloadN d12_11 rfl ?_
  refine w.callS (argsL := [(.ref t), (.int (2 : Int32))]) (rest := []) 0 d12_12 (tw hw 65 rfl) (tw hw 66 rfl) (tw hw 67 rfl) (tw hw 68 rfl) (by decide) (rmLA_3_2 l Z a0 hw hr t ka c0 c1 c2 h0 w.old Aa z0 u0 z1 u1 z2 u2) (lenOf pd_5 rfl) rfl rfl (Nat.le_refl _) ⟨by decide, by decide, by decide, by decide⟩ all0 ?_
  intro T h2 r w _ hQ
  obtain ⟨rfl, rfl⟩ := hQ
  show Go x _ Z _ _ _ T 15 #[.val (.ref a), .val (.int (2 : Int32))] [(.int c2)]
  exact w.retN d12_15 rfl (by simp) ⟨by rw [y2], rfl⟩

set_option maxRecDepth 65536 in
set_option maxHeartbeats 40000000 in
theorem rmGe_3_2 (l : Launch) (Z : State) (a0 : Array Value) (hw : ∀ d ∈ tables_1, d.before a0 Z = true) (hr : rest_1_c.value a0 Z none Z [] = some true) (t : Addr) (kb : ClassId) (c0 c1 c2 : Int32) (h0 : Heap) (hE : Ext Z.heap h0) (A : Arv Z h0 t kb .byte (6 : Int32) [(.int (nar .byte (c0 >>> ((0 : Int32) &&& 31)))), (.int (nar .byte (c0 >>> ((8 : Int32) &&& 31)))), (.int (nar .byte (c1 >>> ((0 : Int32) &&& 31)))), (.int (nar .byte (c1 >>> ((8 : Int32) &&& 31)))), (.int (nar .byte (c2 >>> ((0 : Int32) &&& 31)))), (.int (nar .byte (c2 >>> ((8 : Int32) &&& 31))))] (.int 0)) (z : 0 ≤ c2.toInt) (v : c2.toInt < 65536) :
    Ct true l Z consts_1 (⟨"java/lang/StringUTF16", "getChar", "([BI)C"⟩ : MethodName) jdk_52_method_5_code 2 (some .char) [] ({ frames := 0, cells := 0, slots := 0, locals := 0 } : Room) [] #[(.ref t), (.int (2 : Int32))] h0 (fun r u => r = some (.int c2) ∧ h0 = u) := by
  refine Ct.intro pn_java_lang_StringUTF16 hE (fun m => ef21_ri m t _) nosf ⟨a0, own_EW hw⟩ ?_
  intro x T w
  obtain ⟨cl, Ar, -, S, M, H, -⟩ := id A
  refine w.getS d21_0 (tw hw 90 rfl) (own_ad hr) ?_
  intro T w
  refine w.ifNe d21_3 d21_3t (fun _ => ?_) (fun q => absurd q (by decide))
  refine w.iloadN d21_28 rfl ?_
  refine w.iconst (1 : Int32) d21_29 rfl ?_
  refine w.ishl d21_30 ?_
  refine w.istoreN #[.val (.ref t), .val (.int ((2 : Int32) <<< ((1 : Int32) &&& 31)))] d21_31 rfl ?_
  refine w.aloadN d21_32 rfl rfl ?_
  refine w.iloadN d21_33 rfl ?_
  refine w.iinc (1 : Int32) #[.val (.ref t), .val (.int (((2 : Int32) <<< ((1 : Int32) &&& 31)) + (1 : Int32)))] d21_34 rfl rfl rfl ?_
  refine w.baload (v := .int (nar .byte (c2 >>> ((0 : Int32) &&& 31)))) d21_37 Ar (inb_of S (by decide)) (H.at (inb_of S (by decide)) (by rw [show (((2 : Int32) <<< ((1 : Int32) &&& 31))).toNatClampNeg = 4 by decide]; rfl)) ?_
  refine w.sipush (255 : Int32) d21_38 rfl ?_
  refine w.iand d21_41 ?_
  refine w.getS d21_42 (tw hw 91 rfl) (own_hi hr) ?_
  intro T w
  refine w.ishl d21_45 ?_
  refine w.aloadN d21_46 rfl rfl ?_
  refine w.iloadN d21_47 rfl ?_
  refine w.baload (v := .int (nar .byte (c2 >>> ((8 : Int32) &&& 31)))) d21_48 Ar (inb_of S (by decide)) (H.at (inb_of S (by decide)) (by rw [show ((((2 : Int32) <<< ((1 : Int32) &&& 31)) + (1 : Int32))).toNatClampNeg = 5 by decide]; rfl)) ?_
  refine w.sipush (255 : Int32) d21_49 rfl ?_
  refine w.iand d21_52 ?_
  refine w.getS d21_53 (tw hw 92 rfl) (own_lo hr) ?_
  intro T w
  refine w.ishl d21_56 ?_
  refine w.ior d21_57 ?_
  refine w.i2c d21_58 ?_
  exact w.retN d21_59 rfl (by simp) ⟨by rw [ncc, own_gc z v], rfl⟩

set_option maxRecDepth 65536 in
set_option maxHeartbeats 40000000 in
theorem rmUI_3_2 (l : Launch) (Z : State) (a0 : Array Value) (hw : ∀ d ∈ tables_1, d.before a0 Z = true) (hr : rest_1_c.value a0 Z none Z [] = some true) (t : Addr) (kb : ClassId) (vs : List Value) (h0 : Heap) (hE : Ext Z.heap h0) (A : Arv Z h0 t kb .byte (6 : Int32) vs (.int 0)) :
    Ct true l Z consts_1 (⟨"java/lang/StringUTF16", "checkIndex", "(I[B)V"⟩ : MethodName) jdk_52_method_91_code 2 none [] ({ frames := 2, cells := 0, slots := 0, locals := 27 } : Room) [] #[(.int (2 : Int32)), (.ref t)] h0 (fun r u => r = none ∧ h0 = u) := by
  refine Ct.intro pn_java_lang_StringUTF16 hE (fun m => ef23_ir m _ t) nosf ⟨a0, own_EW hw⟩ ?_
  intro x T w
  refine w.iloadN d23_0 rfl ?_
  refine w.aloadN d23_1 rfl rfl ?_
  refine w.callS (argsL := [(.ref t)]) (rest := [(.int (2 : Int32))]) 1 d23_2 (tw hw 102 rfl) (tw hw 103 rfl) (tw hw 44 rfl) (tw hw 104 rfl) (by decide) (rmUL_3 l Z a0 hw t kb vs h0 w.old A) (lenOf pd_6 rfl) rfl rfl (Nat.le_refl _) ⟨by decide, by decide, by decide, by decide⟩ all0 ?_
  intro T h1 r w _ hQ
  obtain ⟨rfl, rfl⟩ := hQ
  show Go x _ Z _ _ _ T 5 #[.val (.int (2 : Int32)), .val (.ref t)] [(.int (3 : Int32)), (.int (2 : Int32))]
  refine w.callS (argsL := [(.int (2 : Int32)), (.int (3 : Int32))]) (rest := []) 0 d23_5 (tw hw 105 rfl) (tw hw 70 rfl) (tw hw 8 rfl) (tw hw 71 rfl) (by decide) (rmCI l Z a0 hw hr (2 : Int32) (3 : Int32) (by decide) (by decide) h0 w.old) (lenOf pd_3 rfl) rfl rfl (Nat.le_refl _) ⟨by decide, by decide, by decide, by decide⟩ all0 ?_
  intro T h2 r w _ hQ
  obtain ⟨rfl, rfl⟩ := hQ
  show Go x _ Z _ _ _ T 8 #[.val (.int (2 : Int32)), .val (.ref t)] []
  exact w.retV d23_8 rfl ⟨rfl, rfl⟩

set_option maxRecDepth 65536 in
set_option maxHeartbeats 40000000 in
theorem rmUC_3_2 (l : Launch) (Z : State) (a0 : Array Value) (hw : ∀ d ∈ tables_1, d.before a0 Z = true) (hr : rest_1_c.value a0 Z none Z [] = some true) (t : Addr) (kb : ClassId) (c0 c1 c2 : Int32) (h0 : Heap) (hE : Ext Z.heap h0) (A : Arv Z h0 t kb .byte (6 : Int32) [(.int (nar .byte (c0 >>> ((0 : Int32) &&& 31)))), (.int (nar .byte (c0 >>> ((8 : Int32) &&& 31)))), (.int (nar .byte (c1 >>> ((0 : Int32) &&& 31)))), (.int (nar .byte (c1 >>> ((8 : Int32) &&& 31)))), (.int (nar .byte (c2 >>> ((0 : Int32) &&& 31)))), (.int (nar .byte (c2 >>> ((8 : Int32) &&& 31))))] (.int 0)) (z : 0 ≤ c2.toInt) (v : c2.toInt < 65536) (y : nar .char c2 = c2) :
    Ct true l Z consts_1 (⟨"java/lang/StringUTF16", "charAt", "([BI)C"⟩ : MethodName) jdk_52_method_83_code 2 (some .char) [] ({ frames := 3, cells := 0, slots := 0, locals := 40 } : Room) [] #[(.ref t), (.int (2 : Int32))] h0 (fun r u => r = some (.int c2) ∧ h0 = u) := by
  refine Ct.intro pn_java_lang_StringUTF16 hE (fun m => ef22_ri m t _) nosf ⟨a0, own_EW hw⟩ ?_
  intro x T w
  refine w.iloadN d22_0 rfl ?_
  refine w.aloadN d22_1 rfl rfl ?_
  refine w.callS (argsL := [(.int (2 : Int32)), (.ref t)]) (rest := []) 0 d22_2 (tw hw 99 rfl) (tw hw 100 rfl) (tw hw 44 rfl) (tw hw 101 rfl) (by decide) (rmUI_3_2 l Z a0 hw hr t kb _ h0 w.old A) (lenOf pd_7 rfl) rfl rfl (Nat.le_refl _) ⟨by decide, by decide, by decide, by decide⟩ all0 ?_
  intro T h1 r w _ hQ
  obtain ⟨rfl, rfl⟩ := hQ
  show Go x _ Z _ _ _ T 5 #[.val (.ref t), .val (.int (2 : Int32))] []
  refine w.aloadN d22_5 rfl rfl ?_
  refine w.iloadN d22_6 rfl ?_
  refine w.callS (argsL := [(.ref t), (.int (2 : Int32))]) (rest := []) 0 d22_7 (tw hw 93 rfl) (tw hw 94 rfl) (tw hw 44 rfl) (tw hw 95 rfl) (by decide) (rmGe_3_2 l Z a0 hw hr t kb c0 c1 c2 h0 w.old A z v) (lenOf pd_5 rfl) rfl rfl (Nat.le_refl _) ⟨by decide, by decide, by decide, by decide⟩ all0 ?_
  intro T h2 r w _ hQ
  obtain ⟨rfl, rfl⟩ := hQ
  show Go x _ Z _ _ _ T 10 #[.val (.ref t), .val (.int (2 : Int32))] [(.int c2)]
  exact w.retN d22_10 rfl (by simp) ⟨by rw [y], rfl⟩

set_option maxRecDepth 65536 in
set_option maxHeartbeats 40000000 in
theorem rmCAE_3_2 (l : Launch) (Z : State) (a0 : Array Value) (hw : ∀ d ∈ tables_1, d.before a0 Z = true) (hr : rest_1_c.value a0 Z none Z [] = some true) (a t : Addr) (c0 c1 c2 : Int32) (h0 : Heap) (hE : Ext Z.heap h0) (Sa : ((StrL Z h0 a t 0 [nar .byte c0, nar .byte c1, nar .byte c2] ∧ (¬ 255 < c0 ∧ ¬ 255 < c1 ∧ ¬ 255 < c2 ∧ True)) ∨ StrL Z h0 a t 1 [nar .byte (c0 >>> ((0 : Int32) &&& 31)), nar .byte (c0 >>> ((8 : Int32) &&& 31)), nar .byte (c1 >>> ((0 : Int32) &&& 31)), nar .byte (c1 >>> ((8 : Int32) &&& 31)), nar .byte (c2 >>> ((0 : Int32) &&& 31)), nar .byte (c2 >>> ((8 : Int32) &&& 31))])) (z0 : 0 ≤ c0.toInt) (v0 : c0.toInt < 65536) (z1 : 0 ≤ c1.toInt) (v1 : c1.toInt < 65536) (z2 : 0 ≤ c2.toInt) (v2 : c2.toInt < 65536) (y0 : nar .char c0 = c0) (y1 : nar .char c1 = c1) (y2 : nar .char c2 = c2) :
    Ct true l Z consts_1 (⟨"java/lang/String", "charAt", "(I)C"⟩ : MethodName) jdk_42_method_56_code 2 (some .char) [] ({ frames := 4, cells := 0, slots := 0, locals := 53 } : Room) [] #[(.ref a), (.int (2 : Int32))] h0 (fun r u => r = some (.int c2) ∧ h0 = u) := by
  refine Ct.intro pn_java_lang_String hE (fun m => ef12_ri m a _) nosf ⟨a0, own_EW hw⟩ ?_
  intro x T w
  rcases Sa with ⟨Sa, ul⟩ | Sa
  · obtain ⟨Ea, Va, Ca, ka, Aa, -⟩ := id Sa
    refine w.aloadN d12_0 rfl rfl ?_
    refine w.callV (argsL := []) (rest := []) 0 d12_1 (tw hw 60 rfl) (tw hw 61 rfl) (tw hw 63 rfl) (tw hw 62 rfl) (tw hw 8 rfl) (tw hw 64 rfl) (by decide) Ea (rmIL0 l Z a0 hw hr a h0 w.old Ca) (lenOf pd_4 rfl) rfl rfl (Nat.le_refl _) ⟨by decide, by decide, by decide, by decide⟩ all0 ?_
    intro T h1 r w _ hQ
    obtain ⟨rfl, rfl⟩ := hQ
    show Go x _ Z _ _ _ T 4 #[.val (.ref a), .val (.int (2 : Int32))] [(.int (1 : Int32))]
    refine w.ifEq d12_4 d12_4t (fun q => absurd q (by decide)) (fun _ => ?_)
    refine w.aloadN d12_7 rfl rfl ?_
    refine w.getF d12_8 (tw hw 25 rfl) Va ?_
    intro T w
    refine w.iloadN d12_11 rfl ?_
    refine w.callS (argsL := [(.ref t), (.int (2 : Int32))]) (rest := []) 0 d12_12 (tw hw 65 rfl) (tw hw 66 rfl) (tw hw 67 rfl) (tw hw 68 rfl) (by decide) (rmLA_3_2 l Z a0 hw hr t ka c0 c1 c2 h0 w.old Aa z0 ul.1 z1 ul.2.1 z2 ul.2.2.1) (lenOf pd_5 rfl) rfl rfl (Nat.le_refl _) ⟨by decide, by decide, by decide, by decide⟩ all0 ?_
    intro T h2 r w _ hQ
    obtain ⟨rfl, rfl⟩ := hQ
    show Go x _ Z _ _ _ T 15 #[.val (.ref a), .val (.int (2 : Int32))] [(.int c2)]
    exact w.retN d12_15 rfl (by simp) ⟨by rw [y2], rfl⟩
  · obtain ⟨Ea, Va, Ca, ka, Aa, -⟩ := id Sa
    refine w.aloadN d12_0 rfl rfl ?_
    refine w.callV (argsL := []) (rest := []) 0 d12_1 (tw hw 60 rfl) (tw hw 61 rfl) (tw hw 63 rfl) (tw hw 62 rfl) (tw hw 8 rfl) (tw hw 64 rfl) (by decide) Ea (rmIL1 l Z a0 hw hr a h0 w.old Ca) (lenOf pd_4 rfl) rfl rfl (Nat.le_refl _) ⟨by decide, by decide, by decide, by decide⟩ all0 ?_
    intro T h3 r w _ hQ
    obtain ⟨rfl, rfl⟩ := hQ
    show Go x _ Z _ _ _ T 4 #[.val (.ref a), .val (.int (2 : Int32))] [(.int (0 : Int32))]
    refine w.ifEq d12_4 d12_4t (fun _ => ?_) (fun q => absurd rfl q)
    refine w.aloadN d12_16 rfl rfl ?_
    refine w.getF d12_17 (tw hw 25 rfl) Va ?_
    intro T w
    refine w.iloadN d12_20 rfl ?_
    refine w.callS (argsL := [(.ref t), (.int (2 : Int32))]) (rest := []) 0 d12_21 (tw hw 96 rfl) (tw hw 97 rfl) (tw hw 44 rfl) (tw hw 98 rfl) (by decide) (rmUC_3_2 l Z a0 hw hr t ka c0 c1 c2 h0 w.old Aa z2 v2 y2) (lenOf pd_5 rfl) rfl rfl (Nat.le_refl _) ⟨by decide, by decide, by decide, by decide⟩ all0 ?_
    intro T h4 r w _ hQ
    obtain ⟨rfl, rfl⟩ := hQ
    show Go x _ Z _ _ _ T 24 #[.val (.ref a), .val (.int (2 : Int32))] [(.int c2)]
    exact w.retN d12_24 rfl (by simp) ⟨by rw [y2], rfl⟩

set_option maxRecDepth 65536 in
set_option maxHeartbeats 40000000 in
theorem rmLnE_4 (l : Launch) (Z : State) (a0 : Array Value) (hw : ∀ d ∈ tables_1, d.before a0 Z = true) (hr : rest_1_c.value a0 Z none Z [] = some true) (a t : Addr) (c0 c1 c2 c3 : Int32) (h0 : Heap) (hE : Ext Z.heap h0) (Sa : ((StrL Z h0 a t 0 [nar .byte c0, nar .byte c1, nar .byte c2, nar .byte c3] ∧ (¬ 255 < c0 ∧ ¬ 255 < c1 ∧ ¬ 255 < c2 ∧ ¬ 255 < c3 ∧ True)) ∨ StrL Z h0 a t 1 [nar .byte (c0 >>> ((0 : Int32) &&& 31)), nar .byte (c0 >>> ((8 : Int32) &&& 31)), nar .byte (c1 >>> ((0 : Int32) &&& 31)), nar .byte (c1 >>> ((8 : Int32) &&& 31)), nar .byte (c2 >>> ((0 : Int32) &&& 31)), nar .byte (c2 >>> ((8 : Int32) &&& 31)), nar .byte (c3 >>> ((0 : Int32) &&& 31)), nar .byte (c3 >>> ((8 : Int32) &&& 31))])) :
    Ct true l Z consts_1 (⟨"java/lang/String", "length", "()I"⟩ : MethodName) jdk_42_method_54_code 1 (some .int) [] ({ frames := 1, cells := 0, slots := 0, locals := 14 } : Room) [] #[(.ref a)] h0 (fun r u => r = some (.int (4 : Int32)) ∧ h0 = u) := by
  refine Ct.intro pn_java_lang_String hE (fun m => ef6_r m a) nosf ⟨a0, own_EW hw⟩ ?_
  intro x T w
  rcases Sa with ⟨Sa, -⟩ | Sa
  · obtain ⟨Ea, Va, Ca, ka, Aa, -⟩ := id Sa
    obtain ⟨cla, Ara, -, Sa, Ma, Ha, -⟩ := Aa
    refine w.aloadN d6_0 rfl rfl ?_
    refine w.getF d6_1 (tw hw 25 rfl) Va ?_
    intro T w
    refine w.alen (4 : Int32) d6_4 Ara (len_of Sa Ma) ?_
    refine w.aloadN d6_5 rfl rfl ?_
    refine w.callV (argsL := []) (rest := [(.int (4 : Int32))]) 1 d6_6 (tw hw 36 rfl) (tw hw 37 rfl) (tw hw 39 rfl) (tw hw 38 rfl) (tw hw 8 rfl) (tw hw 40 rfl) (by decide) Ea (rmCo0 l Z a0 hw hr a h0 w.old Ca) (lenOf pd_0 rfl) rfl rfl (Nat.le_refl _) ⟨by decide, by decide, by decide, by decide⟩ all0 ?_
    intro T h1 r w _ hQ
    obtain ⟨rfl, rfl⟩ := hQ
    show Go x _ Z _ _ _ T 9 #[.val (.ref a)] [(.int (0 : Int32)), (.int (4 : Int32))]
    refine w.ishr d6_9 ?_
    exact w.retI d6_10 rfl ⟨rfl, rfl⟩
  · obtain ⟨Ea, Va, Ca, ka, Aa, -⟩ := id Sa
    obtain ⟨cla, Ara, -, Sa, Ma, Ha, -⟩ := Aa
    refine w.aloadN d6_0 rfl rfl ?_
    refine w.getF d6_1 (tw hw 25 rfl) Va ?_
    intro T w
    refine w.alen (8 : Int32) d6_4 Ara (len_of Sa Ma) ?_
    refine w.aloadN d6_5 rfl rfl ?_
    refine w.callV (argsL := []) (rest := [(.int (8 : Int32))]) 1 d6_6 (tw hw 36 rfl) (tw hw 37 rfl) (tw hw 39 rfl) (tw hw 38 rfl) (tw hw 8 rfl) (tw hw 40 rfl) (by decide) Ea (rmCo1 l Z a0 hw hr a h0 w.old Ca) (lenOf pd_0 rfl) rfl rfl (Nat.le_refl _) ⟨by decide, by decide, by decide, by decide⟩ all0 ?_
    intro T h2 r w _ hQ
    obtain ⟨rfl, rfl⟩ := hQ
    show Go x _ Z _ _ _ T 9 #[.val (.ref a)] [(.int (1 : Int32)), (.int (8 : Int32))]
    refine w.ishr d6_9 ?_
    exact w.retI d6_10 rfl ⟨rfl, rfl⟩

theorem ef3_rriin (m : MethodId) (x0 : Addr) (x1 : Addr) (x2 : Int32) (x3 : Int32) : entryFrame m #[(.ref x0), (.ref x1), (.int x2), (.int x3), .null] 6 = mkF m 0 #[.val (.ref x0), .val (.ref x1), .val (.int x2), .val (.int x3), .val .null, .unset] [] := by first | (simp [entryFrame, mkF, argsToLocals, Value.category]; done) | rfl
set_option maxRecDepth 65536 in
set_option maxHeartbeats 40000000 in
theorem rmS4_0 (l : Launch) (Z : State) (a0 : Array Value) (hw : ∀ d ∈ tables_1, d.before a0 Z = true) (hr : rest_1_c.value a0 Z none Z [] = some true) (a b : Addr) (h0 : Heap) (hE : Ext Z.heap h0) (ge_a : Z.heap.size ≤ a) (E0 : Exa Z h0 a "java/lang/String") (G1 : Fld Z h0 a "java/lang/String" "value" "[B" .null) (G2 : Fld Z h0 a "java/lang/String" "coder" "B" (.int (0 : Int32))) :
    Ct true l Z consts_1 (⟨"java/lang/String", "<init>", "([CIILjava/lang/Void;)V"⟩ : MethodName) jdk_42_method_149_code 6 none [] ({ frames := 1, cells := 4, slots := 8, locals := 12 } : Room) [a] #[(.ref a), (.ref b), (.int (0 : Int32)), (.int (0 : Int32)), .null] h0 (fun r u => r = none ∧ Keep h0 u [a] ∧ ∃ t, StrL Z u a t 0 []) := by
  refine Ct.intro pn_java_lang_String hE (fun m => ef3_rriin m a b _ _) (onesf ge_a E0.lt) ⟨a0, own_EW hw⟩ ?_
  intro x T w
  refine w.aloadN d3_0 rfl rfl ?_
  refine w.initO 0 d3_1 (tw hw 16 rfl) (tw hw 17 rfl) (tw hw 18 rfl) rfl (Nat.le_refl _) ⟨by decide, by decide⟩ ?_
  intro T w
  refine w.iloadN d3_4 rfl ?_
  refine w.ifNe d3_5 d3_5t (fun q => absurd (by decide) q) (fun _ => ?_)
  refine w.aloadN d3_8 rfl rfl ?_
  refine w.ldcR (0 : Int32) 0 d3_9 (tw hw 19 rfl) (own_sA hw) (own_EW hw) (by decide) ⟨(by decide), rfl⟩ (by decide) rfl (by decide) (by decide) ⟨by decide, by decide⟩ ?_
  intro s1 t1 kbs1 T h1 w Es1 Xs1 Cs1 Vs1 As1 Ns1
  have F21 := E0.ext Es1
  have F22 := G1.ext Es1
  have F23 := G2.ext Es1
  refine w.getF d3_11 (tw hw 25 rfl) Vs1 ?_
  intro T w
  refine w.putF d3_14 (tw hw 25 rfl) F22 F21 (Or.inr ⟨(tw hw 21 rfl), rfl, rfl⟩) (tw hw 7 rfl) (ty := (.array .byte)) (by decide) rfl rfl (List.mem_of_getElem? (i := 0) rfl) ?_
  intro T h2 w W24
  have F25 := F21.wr W24
  have F26 := F22.same W24
  have F27 := F23.other W24 (Or.inr (slot_ne (Or.inr (tw hw 22 rfl)) (Or.inr (tw hw 21 rfl)) (by decide) (t := .byte) (t' := (.array .byte)) (by decide) (by decide)))
  have F28 := Vs1.other W24 (Or.inl (Ne.symm (Ns1 a (List.mem_of_getElem? (i := 0) rfl)).1))
  have F29 := Cs1.other W24 (Or.inl (Ne.symm (Ns1 a (List.mem_of_getElem? (i := 0) rfl)).1))
  have F30 := As1.other W24 (Ne.symm (Ns1 a (List.mem_of_getElem? (i := 0) rfl)).2)
  refine w.aloadN d3_17 rfl rfl ?_
  refine w.ldcR (0 : Int32) 0 d3_18 (tw hw 19 rfl) (own_sA hw) (own_EW hw) (by decide) ⟨(by decide), rfl⟩ (by decide) rfl (by decide) (by decide) ⟨by decide, by decide⟩ ?_
  intro s2 t2 kbs2 T h3 w Es2 Xs2 Cs2 Vs2 As2 Ns2
  have F31 := F25.ext Es2
  have F32 := F26.ext Es2
  have F33 := F27.ext Es2
  have F34 := F28.ext Es2
  have F35 := F29.ext Es2
  have F36 := F30.ext Es2
  refine w.getF d3_20 (tw hw 26 rfl) Cs2 ?_
  intro T w
  refine w.putF d3_23 (tw hw 26 rfl) F33 F31 (Or.inr ⟨(tw hw 22 rfl), rfl, rfl⟩) (tw hw 7 rfl) (ty := .byte) (by decide) rfl rfl (List.mem_of_getElem? (i := 0) rfl) ?_
  intro T h4 w W37
  have F38 := F31.wr W37
  have F39 := F32.other W37 (Or.inr (slot_ne (Or.inr (tw hw 21 rfl)) (Or.inr (tw hw 22 rfl)) (by decide) (t := (.array .byte)) (t' := .byte) (by decide) (by decide)))
  have F40 := F33.same W37
  have F41 := F34.other W37 (Or.inl (Ne.symm (Ns1 a (List.mem_of_getElem? (i := 0) rfl)).1))
  have F42 := F35.other W37 (Or.inl (Ne.symm (Ns1 a (List.mem_of_getElem? (i := 0) rfl)).1))
  have F43 := F36.other W37 (Ne.symm (Ns1 a (List.mem_of_getElem? (i := 0) rfl)).2)
  have F44 := Vs2.other W37 (Or.inl (Ne.symm (Ns2 a (List.mem_of_getElem? (i := 0) rfl)).1))
  have F45 := Cs2.other W37 (Or.inl (Ne.symm (Ns2 a (List.mem_of_getElem? (i := 0) rfl)).1))
  have F46 := As2.other W37 (Ne.symm (Ns2 a (List.mem_of_getElem? (i := 0) rfl)).2)
  exact w.retV d3_26 rfl ⟨rfl, ((((keep_ext Es1).wr W24 (Or.inl (List.mem_singleton.mpr rfl))).ext Es2).wr W37 (Or.inl (List.mem_singleton.mpr rfl))), t1, F38, F39, F40, kbs1, F43, by simp⟩

theorem ef2_rr (m : MethodId) (x0 : Addr) (x1 : Addr) : entryFrame m #[(.ref x0), (.ref x1)] 2 = mkF m 0 #[.val (.ref x0), .val (.ref x1)] [] := by first | (simp [entryFrame, mkF, argsToLocals, Value.category]; done) | rfl
set_option maxRecDepth 65536 in
set_option maxHeartbeats 40000000 in
theorem rmS1_0 (l : Launch) (Z : State) (a0 : Array Value) (hw : ∀ d ∈ tables_1, d.before a0 Z = true) (hr : rest_1_c.value a0 Z none Z [] = some true) (a b : Addr) (kb : ClassId) (vs : List Value) (h0 : Heap) (hE : Ext Z.heap h0) (ge_a : Z.heap.size ≤ a) (E0 : Exa Z h0 a "java/lang/String") (G1 : Fld Z h0 a "java/lang/String" "value" "[B" .null) (G2 : Fld Z h0 a "java/lang/String" "coder" "B" (.int (0 : Int32))) (Ab : Arv Z h0 b kb .char (0 : Int32) vs (.int 0)) :
    Ct true l Z consts_1 (⟨"java/lang/String", "<init>", "([C)V"⟩ : MethodName) jdk_42_method_3_code 2 none [] ({ frames := 2, cells := 4, slots := 8, locals := 30 } : Room) [a] #[(.ref a), (.ref b)] h0 (fun r u => r = none ∧ Keep h0 u [a] ∧ ∃ t, StrL Z u a t 0 []) := by
  refine Ct.intro pn_java_lang_String hE (fun m => ef2_rr m a b) (onesf ge_a E0.lt) ⟨a0, own_EW hw⟩ ?_
  intro x T w
  obtain ⟨cl, Ar, -, S, M, -, -⟩ := id Ab
  refine w.aloadN d2_0 rfl rfl ?_
  refine w.aloadN d2_1 rfl rfl ?_
  refine w.iconst (0 : Int32) d2_2 rfl ?_
  refine w.aloadN d2_3 rfl rfl ?_
  refine w.alen (0 : Int32) d2_4 Ar (len_of S M) ?_
  refine w.aconstNull d2_5 ?_
  refine w.callI (argsL := [(.ref b), (.int (0 : Int32)), (.int (0 : Int32)), .null]) (rest := []) 0 d2_6 rfl (tw hw 12 rfl) (tw hw 13 rfl) (tw hw 8 rfl) (tw hw 15 rfl) (by decide) (rmS4_0 l Z a0 hw hr a b h0 w.old ge_a E0 G1 G2) (lenOf pd_9 rfl) rfl rfl (Nat.le_refl _) ⟨by decide, by decide, by decide, by decide⟩ (allS (List.mem_of_getElem? (i := 0) rfl) all0) ?_
  intro T h1 r w _ hQ
  obtain ⟨rfl, K1, t, S1⟩ := hQ
  exact w.retV d2_9 rfl ⟨rfl, K1, t, S1⟩

theorem ef9_ririi (m : MethodId) (x0 : Addr) (x1 : Int32) (x2 : Addr) (x3 : Int32) (x4 : Int32) : entryFrame m #[(.ref x0), (.int x1), (.ref x2), (.int x3), (.int x4)] 7 = mkF m 0 #[.val (.ref x0), .val (.int x1), .val (.ref x2), .val (.int x3), .val (.int x4), .unset, .unset] [] := by first | (simp [entryFrame, mkF, argsToLocals, Value.category]; done) | rfl
set_option maxRecDepth 65536 in
set_option maxHeartbeats 40000000 in
theorem rmC5_1 (l : Launch) (Z : State) (a0 : Array Value) (hw : ∀ d ∈ tables_1, d.before a0 Z = true) (b d : Addr) (kb kd : ClassId) (c0 : Int32) (h0 : Heap) (hE : Ext Z.heap h0) (ge_d : Z.heap.size ≤ d) (nbd : b ≠ d) (Ab : Arv Z h0 b kb .char (1 : Int32) [(.int c0)] (.int 0)) (Ad : Arv Z h0 d kd .byte (1 : Int32) [] (.int 0)) (u0 : ¬ 255 < c0) :
    Ct true l Z consts_1 (⟨"java/lang/StringUTF16", "compress", "([CI[BII)I"⟩ : MethodName) jdk_52_method_21_code 7 (some .int) [] ({ frames := 0, cells := 0, slots := 0, locals := 0 } : Room) [d] #[(.ref b), (.int (0 : Int32)), (.ref d), (.int (0 : Int32)), (.int (1 : Int32))] h0 (fun r u => r = some (.int (1 : Int32)) ∧ Keep h0 u [d] ∧ Arv Z u d kd .byte (1 : Int32) [(.int (nar .byte c0))] (.int 0)) := by
  refine Ct.intro pn_java_lang_StringUTF16 hE (fun m => ef9_ririi m b _ d _ _) (onesf ge_d Ad.lt) ⟨a0, own_EW hw⟩ ?_
  intro x T w
  refine w.iconst (0 : Int32) d9_0 rfl ?_
  refine w.istore #[.val (.ref b), .val (.int (0 : Int32)), .val (.ref d), .val (.int (0 : Int32)), .val (.int (1 : Int32)), .val (.int (0 : Int32)), .unset] d9_1 rfl ?_
  refine w.iload d9_3 rfl ?_
  refine w.iload d9_5 rfl ?_
  refine w.icmpGe d9_7 d9_7t (fun q => absurd (by decide) q) (fun _ => ?_)
  refine w.aloadN d9_10 rfl rfl ?_
  refine w.iloadN d9_11 rfl ?_
  obtain ⟨cl0, Ar0, -, S0, -, H0, -⟩ := id Ab
  refine w.caload d9_12 Ar0 (inb_of S0 (by decide)) (H0.at (inb_of S0 (by decide)) rfl) ?_
  refine w.istore #[.val (.ref b), .val (.int (0 : Int32)), .val (.ref d), .val (.int (0 : Int32)), .val (.int (1 : Int32)), .val (.int (0 : Int32)), .val (.int c0)] d9_13 rfl ?_
  refine w.iload d9_15 rfl ?_
  refine w.sipush (255 : Int32) d9_17 rfl ?_
  refine w.icmpLe d9_20 d9_20t (fun _ => ?_) (fun q => absurd q u0)
  refine w.aloadN d9_26 rfl rfl ?_
  refine w.iloadN d9_27 rfl ?_
  refine w.iload d9_28 rfl ?_
  refine w.i2b d9_30 ?_
  refine w.stB 0 [(.int 0)] d9_31 Ad ⟨by decide, by decide⟩ (by decide) (pad_rep [] (.int 0) 1) (by simp) (fnb _) (List.mem_of_getElem? (i := 0) rfl) ?_
  intro T h1 w W0 A0
  rw [nbb] at A0 W0
  have Ad0 : Arv Z h1 d kd .byte (1 : Int32) [(.int (nar .byte c0))] (.int 0) := A0
  have Ab0 := Ab.other W0 nbd
  refine w.iinc (1 : Int32) #[.val (.ref b), .val (.int (1 : Int32)), .val (.ref d), .val (.int (0 : Int32)), .val (.int (1 : Int32)), .val (.int (0 : Int32)), .val (.int c0)] d9_32 rfl rfl rfl ?_
  refine w.iinc (1 : Int32) #[.val (.ref b), .val (.int (1 : Int32)), .val (.ref d), .val (.int (1 : Int32)), .val (.int (1 : Int32)), .val (.int (0 : Int32)), .val (.int c0)] d9_35 rfl rfl rfl ?_
  refine w.iinc (1 : Int32) #[.val (.ref b), .val (.int (1 : Int32)), .val (.ref d), .val (.int (1 : Int32)), .val (.int (1 : Int32)), .val (.int (1 : Int32)), .val (.int c0)] d9_38 rfl rfl rfl ?_
  refine w.goto d9_41 d9_41t ?_
  refine w.iload d9_3 rfl ?_
  refine w.iload d9_5 rfl ?_
  refine w.icmpGe d9_7 d9_7t (fun _ => ?_) (fun q => absurd q (by decide))
  refine w.iload d9_44 rfl ?_
  exact w.retI d9_46 rfl ⟨rfl, ((Keep.refl _ _).wr W0 (Or.inl (List.mem_singleton.mpr rfl))), Ad0⟩

theorem ef8_rii (m : MethodId) (x0 : Addr) (x1 : Int32) (x2 : Int32) : entryFrame m #[(.ref x0), (.int x1), (.int x2)] 6 = mkF m 0 #[.val (.ref x0), .val (.int x1), .val (.int x2), .unset, .unset, .unset] [] := by first | (simp [entryFrame, mkF, argsToLocals, Value.category]; done) | rfl
set_option maxRecDepth 65536 in
set_option maxHeartbeats 40000000 in
theorem rmC3_1 (l : Launch) (Z : State) (a0 : Array Value) (hw : ∀ d ∈ tables_1, d.before a0 Z = true) (b : Addr) (kb : ClassId) (c0 : Int32) (h0 : Heap) (hE : Ext Z.heap h0) (Ab : Arv Z h0 b kb .char (1 : Int32) [(.int c0)] (.int 0)) (u0 : ¬ 255 < c0) :
    Ct true l Z consts_1 (⟨"java/lang/StringUTF16", "compress", "([CII)[B"⟩ : MethodName) jdk_52_method_16_code 6 (some (.array .byte)) [] ({ frames := 1, cells := 1, slots := 1, locals := 18 } : Room) [] #[(.ref b), (.int (0 : Int32)), (.int (1 : Int32))] h0 (fun r u => ∃ d kd, r = some (.ref d) ∧ Ext h0 u ∧ h0.size ≤ d ∧ Arv Z u d kd .byte (1 : Int32) [(.int (nar .byte c0))] (.int 0)) := by
  refine Ct.intro pn_java_lang_StringUTF16 hE (fun m => ef8_rii m b _ _) nosf ⟨a0, own_EW hw⟩ ?_
  intro x T w
  refine w.iloadN d8_0 rfl ?_
  have sz0 := w.size
  refine w.newP 1 "[B" d8_1 (tw hw 20 rfl) (by decide) (by decide) (by decide) (by decide) ⟨by decide, by decide⟩ ?_
  intro d T h1 kd g_d w E_d A_d X_d
  have ge_d : Z.heap.size ≤ d := by rw [g_d]; exact sz0
  have nbd : b ≠ d := Nat.ne_of_lt (Nat.lt_of_lt_of_eq Ab.lt g_d.symm)
  refine w.astoreN #[.val (.ref b), .val (.int (0 : Int32)), .val (.int (1 : Int32)), .val (.ref d), .unset, .unset] d8_3 rfl rfl ?_
  refine w.aloadN d8_4 rfl rfl ?_
  refine w.iloadN d8_5 rfl ?_
  refine w.aloadN d8_6 rfl rfl ?_
  refine w.iconst (0 : Int32) d8_7 rfl ?_
  refine w.iloadN d8_8 rfl ?_
  refine w.callS (argsL := [(.ref b), (.int (0 : Int32)), (.ref d), (.int (0 : Int32)), (.int (1 : Int32))]) (rest := []) 0 d8_9 (tw hw 46 rfl) (tw hw 47 rfl) (tw hw 44 rfl) (tw hw 48 rfl) (by decide) (rmC5_1 l Z a0 hw b d kb kd c0 h1 w.old ge_d nbd (Ab.ext E_d) A_d u0) (lenOf pd_12 rfl) rfl rfl (Nat.le_refl _) ⟨by decide, by decide, by decide, by decide⟩ (allS (List.mem_of_getElem? (i := 0) rfl) all0) ?_
  intro T h2 r w _ hQ
  obtain ⟨rfl, K1, A1⟩ := hQ
  show Go x _ Z _ _ _ T 12 #[.val (.ref b), .val (.int (0 : Int32)), .val (.int (1 : Int32)), .val (.ref d), .unset, .unset] [(.int (1 : Int32))]
  refine w.istore #[.val (.ref b), .val (.int (0 : Int32)), .val (.int (1 : Int32)), .val (.ref d), .val (.int (1 : Int32)), .unset] d8_12 rfl ?_
  refine w.iload d8_14 rfl ?_
  refine w.iloadN d8_16 rfl ?_
  refine w.icmpEq d8_17 d8_17t (fun _ => ?_) (fun q => absurd rfl q)
  refine w.aloadN d8_57 rfl rfl ?_
  exact w.retA d8_58 rfl rfl rfl rfl ⟨d, kd, rfl, keep_to E_d K1 (allS (Nat.le_of_eq g_d.symm) all0), Nat.le_of_eq g_d.symm, A1⟩

theorem ef10_ri (m : MethodId) (x0 : Addr) (x1 : Int32) : entryFrame m #[(.ref x0), (.int x1)] 2 = mkF m 0 #[.val (.ref x0), .val (.int x1)] [] := by first | (simp [entryFrame, mkF, argsToLocals, Value.category]; done) | rfl
set_option maxRecDepth 65536 in
set_option maxHeartbeats 40000000 in
theorem rmCL_1_1 (l : Launch) (Z : State) (a0 : Array Value) (hw : ∀ d ∈ tables_1, d.before a0 Z = true) (d : Addr) (kd : ClassId) (vs : List Value) (h0 : Heap) (hE : Ext Z.heap h0) (Ad : Arv Z h0 d kd .byte (1 : Int32) vs (.int 0)) :
    Ct true l Z consts_1 (⟨"java/lang/StringUTF16", "coderFromArrayLen", "([BI)B"⟩ : MethodName) jdk_52_method_15_code 2 (some .byte) [] ({ frames := 0, cells := 0, slots := 0, locals := 0 } : Room) [] #[(.ref d), (.int (1 : Int32))] h0 (fun r u => r = some (.int (0 : Int32)) ∧ h0 = u) := by
  refine Ct.intro pn_java_lang_StringUTF16 hE (fun m => ef10_ri m d _) nosf ⟨a0, own_EW hw⟩ ?_
  intro x T w
  obtain ⟨cl, Ar, -, S, M, -, -⟩ := Ad
  refine w.iloadN d10_0 rfl ?_
  refine w.aloadN d10_1 rfl rfl ?_
  refine w.alen (1 : Int32) d10_2 Ar (len_of S M) ?_
  refine w.isub d10_3 ?_
  refine w.bipush (31 : Int32) d10_4 rfl ?_
  refine w.iushr d10_6 ?_
  refine w.i2b d10_7 ?_
  exact w.retN d10_8 rfl (by simp) ⟨rfl, rfl⟩

set_option maxRecDepth 65536 in
set_option maxHeartbeats 40000000 in
theorem rmS4_1 (l : Launch) (Z : State) (a0 : Array Value) (hw : ∀ d ∈ tables_1, d.before a0 Z = true) (hr : rest_1_c.value a0 Z none Z [] = some true) (a b : Addr) (kb : ClassId) (c0 : Int32) (h0 : Heap) (hE : Ext Z.heap h0) (ge_a : Z.heap.size ≤ a) (E0 : Exa Z h0 a "java/lang/String") (G1 : Fld Z h0 a "java/lang/String" "value" "[B" .null) (G2 : Fld Z h0 a "java/lang/String" "coder" "B" (.int (0 : Int32))) (Ab : Arv Z h0 b kb .char (1 : Int32) [(.int c0)] (.int 0)) (u0 : ¬ 255 < c0) :
    Ct true l Z consts_1 (⟨"java/lang/String", "<init>", "([CIILjava/lang/Void;)V"⟩ : MethodName) jdk_42_method_149_code 6 none [] ({ frames := 2, cells := 1, slots := 1, locals := 36 } : Room) [a] #[(.ref a), (.ref b), (.int (0 : Int32)), (.int (1 : Int32)), .null] h0 (fun r u => r = none ∧ Keep h0 u [a] ∧ ∃ t, h0.size ≤ t ∧ StrL Z u a t 0 [nar .byte c0]) := by
  refine Ct.intro pn_java_lang_String hE (fun m => ef3_rriin m a b _ _) (onesf ge_a E0.lt) ⟨a0, own_EW hw⟩ ?_
  intro x T w
  obtain ⟨cz, Scs, hcz⟩ := own_cs hr
  refine w.aloadN d3_0 rfl rfl ?_
  refine w.initO 0 d3_1 (tw hw 16 rfl) (tw hw 17 rfl) (tw hw 18 rfl) rfl (Nat.le_refl _) ⟨by decide, by decide⟩ ?_
  intro T w
  refine w.iloadN d3_4 rfl ?_
  refine w.ifNe d3_5 d3_5t (fun _ => ?_) (fun q => absurd q (by decide))
  refine w.getS d3_27 (tw hw 41 rfl) Scs ?_
  intro T w
  refine w.ifEq d3_30 d3_30t (fun q => absurd q hcz) (fun _ => ?_)
  refine w.aloadN d3_33 rfl rfl ?_
  refine w.iloadN d3_34 rfl ?_
  refine w.iloadN d3_35 rfl ?_
  refine w.callS (argsL := [(.ref b), (.int (0 : Int32)), (.int (1 : Int32))]) (rest := []) 0 d3_36 (tw hw 42 rfl) (tw hw 43 rfl) (tw hw 44 rfl) (tw hw 45 rfl) (by decide) (rmC3_1 l Z a0 hw b kb c0 h0 w.old Ab u0) (lenOf pd_13 rfl) rfl rfl (Nat.le_refl _) ⟨by decide, by decide, by decide, by decide⟩ all0 ?_
  intro T h1 r w _ hQ
  obtain ⟨d, kd, rfl, E1, gd, A1⟩ := hQ
  have ne_a_d : a ≠ d := Nat.ne_of_lt (Nat.lt_of_lt_of_le E0.lt gd)
  have F1 := E0.ext E1
  have F2 := G1.ext E1
  have F3 := G2.ext E1
  show Go x _ Z _ _ _ T 39 #[.val (.ref a), .val (.ref b), .val (.int (0 : Int32)), .val (.int (1 : Int32)), .val .null, .unset] [(.ref d)]
  refine w.astore #[.val (.ref a), .val (.ref b), .val (.int (0 : Int32)), .val (.int (1 : Int32)), .val .null, .val (.ref d)] d3_39 rfl rfl ?_
  refine w.aloadN d3_41 rfl rfl ?_
  refine w.aload d3_42 rfl rfl ?_
  refine w.iloadN d3_44 rfl ?_
  refine w.callS (argsL := [(.ref d), (.int (1 : Int32))]) (rest := [(.ref a)]) 1 d3_45 (tw hw 49 rfl) (tw hw 50 rfl) (tw hw 44 rfl) (tw hw 51 rfl) (by decide) (rmCL_1_1 l Z a0 hw d kd _ h1 w.old A1) (lenOf pd_14 rfl) rfl rfl (Nat.le_refl _) ⟨by decide, by decide, by decide, by decide⟩ all0 ?_
  intro T h2 r w _ hQ
  obtain ⟨rfl, rfl⟩ := hQ
  show Go x _ Z _ _ _ T 48 #[.val (.ref a), .val (.ref b), .val (.int (0 : Int32)), .val (.int (1 : Int32)), .val .null, .val (.ref d)] [(.int (0 : Int32)), (.ref a)]
  refine w.putF d3_48 (tw hw 26 rfl) F3 F1 (Or.inr ⟨(tw hw 22 rfl), rfl, rfl⟩) (tw hw 7 rfl) (ty := .byte) (by decide) rfl rfl (List.mem_of_getElem? (i := 0) rfl) ?_
  intro T h3 w W4
  have F5 := F1.wr W4
  have F6 := F2.other W4 (Or.inr (slot_ne (Or.inr (tw hw 21 rfl)) (Or.inr (tw hw 22 rfl)) (by decide) (t := (.array .byte)) (t' := .byte) (by decide) (by decide)))
  have F7 := F3.same W4
  have F8 := A1.other W4 (Ne.symm ne_a_d)
  refine w.aloadN d3_51 rfl rfl ?_
  refine w.aload d3_52 rfl rfl ?_
  refine w.putF d3_54 (tw hw 25 rfl) F6 F5 (Or.inr ⟨(tw hw 21 rfl), rfl, rfl⟩) (tw hw 7 rfl) (ty := (.array .byte)) (by decide) rfl rfl (List.mem_of_getElem? (i := 0) rfl) ?_
  intro T h4 w W9
  have F10 := F5.wr W9
  have F11 := F6.same W9
  have F12 := F7.other W9 (Or.inr (slot_ne (Or.inr (tw hw 22 rfl)) (Or.inr (tw hw 21 rfl)) (by decide) (t := .byte) (t' := (.array .byte)) (by decide) (by decide)))
  have F13 := F8.other W9 (Ne.symm ne_a_d)
  exact w.retV d3_57 rfl ⟨rfl, (((keep_ext E1).wr W4 (Or.inl (List.mem_singleton.mpr rfl))).wr W9 (Or.inl (List.mem_singleton.mpr rfl))), d, gd, F10, F11, F12, kd, F13, by simp⟩

theorem ef19_i (m : MethodId) (x0 : Int32) : entryFrame m #[(.int x0)] 1 = mkF m 0 #[.val (.int x0)] [] := by first | (simp [entryFrame, mkF, argsToLocals, Value.category]; done) | rfl
set_option maxRecDepth 65536 in
set_option maxHeartbeats 40000000 in
theorem rmNL_1 (l : Launch) (Z : State) (a0 : Array Value) (hw : ∀ d ∈ tables_1, d.before a0 Z = true) (h0 : Heap) (hE : Ext Z.heap h0) :
    Ct true l Z consts_1 (⟨"java/lang/StringUTF16", "newBytesLength", "(I)I"⟩ : MethodName) jdk_52_method_3_code 1 (some .int) [] ({ frames := 0, cells := 0, slots := 0, locals := 0 } : Room) [] #[(.int (1 : Int32))] h0 (fun r u => r = some (.int (2 : Int32)) ∧ h0 = u) := by
  refine Ct.intro pn_java_lang_StringUTF16 hE (fun m => ef19_i m _) nosf ⟨a0, own_EW hw⟩ ?_
  intro x T w
  refine w.iloadN d19_0 rfl ?_
  refine w.ifGe d19_1 d19_1t (fun _ => ?_) (fun q => absurd q (by decide))
  refine w.iloadN d19_12 rfl ?_
  refine w.ldcI d19_13 (tw hw 86 rfl) ?_
  refine w.icmpLt d19_15 d19_15t (fun _ => ?_) (fun q => absurd (by decide) q)
  refine w.iloadN d19_55 rfl ?_
  refine w.iconst (1 : Int32) d19_56 rfl ?_
  refine w.ishl d19_57 ?_
  exact w.retI d19_58 rfl ⟨rfl, rfl⟩

theorem ef18_i (m : MethodId) (x0 : Int32) : entryFrame m #[(.int x0)] 1 = mkF m 0 #[.val (.int x0)] [] := by first | (simp [entryFrame, mkF, argsToLocals, Value.category]; done) | rfl
set_option maxRecDepth 65536 in
set_option maxHeartbeats 40000000 in
theorem rmNF_1 (l : Launch) (Z : State) (a0 : Array Value) (hw : ∀ d ∈ tables_1, d.before a0 Z = true) (h0 : Heap) (hE : Ext Z.heap h0) :
    Ct true l Z consts_1 (⟨"java/lang/StringUTF16", "newBytesFor", "(I)[B"⟩ : MethodName) jdk_52_method_2_code 1 (some (.array .byte)) [] ({ frames := 1, cells := 1, slots := 2, locals := 12 } : Room) [] #[(.int (1 : Int32))] h0 (fun r u => ∃ d kd, r = some (.ref d) ∧ Ext h0 u ∧ h0.size ≤ d ∧ Arv Z u d kd .byte (2 : Int32) [] (.int 0)) := by
  refine Ct.intro pn_java_lang_StringUTF16 hE (fun m => ef18_i m _) nosf ⟨a0, own_EW hw⟩ ?_
  intro x T w
  refine w.iloadN d18_0 rfl ?_
  refine w.callS (argsL := [(.int (1 : Int32))]) (rest := []) 0 d18_1 (tw hw 83 rfl) (tw hw 84 rfl) (tw hw 44 rfl) (tw hw 85 rfl) (by decide) (rmNL_1 l Z a0 hw h0 w.old) (lenOf pd_15 rfl) rfl rfl (Nat.le_refl _) ⟨by decide, by decide, by decide, by decide⟩ all0 ?_
  intro T h1 r w _ hQ
  obtain ⟨rfl, rfl⟩ := hQ
  show Go x _ Z _ _ _ T 4 #[.val (.int (1 : Int32))] [(.int (2 : Int32))]
  have sz0 := w.size
  refine w.newP 2 "[B" d18_4 (tw hw 20 rfl) (by decide) (by decide) (by decide) (by decide) ⟨by decide, by decide⟩ ?_
  intro d T h2 kd g_d w E_d A_d X_d
  have ge_d : Z.heap.size ≤ d := by rw [g_d]; exact sz0
  exact w.retA d18_6 rfl rfl rfl rfl ⟨d, kd, rfl, E_d, Nat.le_of_eq g_d.symm, A_d⟩

theorem ef20_rii (m : MethodId) (x0 : Addr) (x1 : Int32) (x2 : Int32) : entryFrame m #[(.ref x0), (.int x1), (.int x2)] 3 = mkF m 0 #[.val (.ref x0), .val (.int x1), .val (.int x2)] [] := by first | (simp [entryFrame, mkF, argsToLocals, Value.category]; done) | rfl
set_option maxRecDepth 65536 in
set_option maxHeartbeats 40000000 in
theorem rmPu_1_0 (l : Launch) (Z : State) (a0 : Array Value) (hw : ∀ d ∈ tables_1, d.before a0 Z = true) (hr : rest_1_c.value a0 Z none Z [] = some true) (d : Addr) (kd : ClassId)  (c : Int32) (h0 : Heap) (hE : Ext Z.heap h0) (ge_d : Z.heap.size ≤ d) (A : Arv Z h0 d kd .byte (2 : Int32) [] (.int 0)) :
    Ct true l Z consts_1 (⟨"java/lang/StringUTF16", "putChar", "([BII)V"⟩ : MethodName) jdk_52_method_4_code 3 none [] ({ frames := 0, cells := 0, slots := 0, locals := 0 } : Room) [d] #[(.ref d), (.int (0 : Int32)), (.int c)] h0 (fun r u => r = none ∧ Keep h0 u [d] ∧ Arv Z u d kd .byte (2 : Int32) [(.int (nar .byte (c >>> ((0 : Int32) &&& 31)))), (.int (nar .byte (c >>> ((8 : Int32) &&& 31))))] (.int 0)) := by
  refine Ct.intro pn_java_lang_StringUTF16 hE (fun m => ef20_rii m d _ _) (onesf ge_d A.lt) ⟨a0, own_EW hw⟩ ?_
  intro x T w
  refine w.getS d20_0 (tw hw 90 rfl) (own_ad hr) ?_
  intro T w
  refine w.ifNe d20_3 d20_3t (fun _ => ?_) (fun q => absurd q (by decide))
  refine w.iloadN d20_28 rfl ?_
  refine w.iconst (1 : Int32) d20_29 rfl ?_
  refine w.ishl d20_30 ?_
  refine w.istoreN #[.val (.ref d), .val (.int ((0 : Int32) <<< ((1 : Int32) &&& 31))), .val (.int c)] d20_31 rfl ?_
  refine w.aloadN d20_32 rfl rfl ?_
  refine w.iloadN d20_33 rfl ?_
  refine w.iinc (1 : Int32) #[.val (.ref d), .val (.int (((0 : Int32) <<< ((1 : Int32) &&& 31)) + (1 : Int32))), .val (.int c)] d20_34 rfl rfl rfl ?_
  refine w.iloadN d20_37 rfl ?_
  refine w.getS d20_38 (tw hw 91 rfl) (own_hi hr) ?_
  intro T w
  refine w.ishr d20_41 ?_
  refine w.i2b d20_42 ?_
  refine w.stB 0 [(.int 0)] d20_43 A ⟨by decide, by decide⟩ (by decide) (pad_rep [] (.int 0) 1) (by simp) (fnb _) (List.mem_of_getElem? (i := 0) rfl) ?_
  intro T h1 w W0 B0
  rw [nbb] at B0 W0
  have C0 : Arv Z h1 d kd .byte (2 : Int32) [(.int (nar .byte (c >>> ((0 : Int32) &&& 31))))] (.int 0) := B0
  refine w.aloadN d20_44 rfl rfl ?_
  refine w.iloadN d20_45 rfl ?_
  refine w.iloadN d20_46 rfl ?_
  refine w.getS d20_47 (tw hw 92 rfl) (own_lo hr) ?_
  intro T w
  refine w.ishr d20_50 ?_
  refine w.i2b d20_51 ?_
  refine w.stB 1 [(.int (nar .byte (c >>> ((0 : Int32) &&& 31)))), (.int 0)] d20_52 C0 ⟨by decide, by decide⟩ (by decide) (pad_rep [(.int (nar .byte (c >>> ((0 : Int32) &&& 31))))] (.int 0) 1) (by simp) (fnb _) (List.mem_of_getElem? (i := 0) rfl) ?_
  intro T h2 w W1 B1
  rw [nbb] at B1 W1
  have C1 : Arv Z h2 d kd .byte (2 : Int32) [(.int (nar .byte (c >>> ((0 : Int32) &&& 31)))), (.int (nar .byte (c >>> ((8 : Int32) &&& 31))))] (.int 0) := B1
  exact w.retV d20_53 rfl ⟨rfl, (((Keep.refl _ _).wr W0 (Or.inl (List.mem_singleton.mpr rfl))).wr W1 (Or.inl (List.mem_singleton.mpr rfl))), C1⟩

theorem ef17_rii (m : MethodId) (x0 : Addr) (x1 : Int32) (x2 : Int32) : entryFrame m #[(.ref x0), (.int x1), (.int x2)] 5 = mkF m 0 #[.val (.ref x0), .val (.int x1), .val (.int x2), .unset, .unset] [] := by first | (simp [entryFrame, mkF, argsToLocals, Value.category]; done) | rfl
set_option maxRecDepth 65536 in
set_option maxHeartbeats 40000000 in
theorem rmTo_1 (l : Launch) (Z : State) (a0 : Array Value) (hw : ∀ d ∈ tables_1, d.before a0 Z = true) (hr : rest_1_c.value a0 Z none Z [] = some true) (b : Addr) (kb : ClassId) (c0 : Int32) (h0 : Heap) (hE : Ext Z.heap h0) (Ab : Arv Z h0 b kb .char (1 : Int32) [(.int c0)] (.int 0)) :
    Ct true l Z consts_1 (⟨"java/lang/StringUTF16", "toBytes", "([CII)[B"⟩ : MethodName) jdk_52_method_14_code 5 (some (.array .byte)) [] ({ frames := 2, cells := 1, slots := 2, locals := 24 } : Room) [] #[(.ref b), (.int (0 : Int32)), (.int (1 : Int32))] h0 (fun r u => ∃ d kd, r = some (.ref d) ∧ Ext h0 u ∧ h0.size ≤ d ∧ Arv Z u d kd .byte (2 : Int32) [(.int (nar .byte (c0 >>> ((0 : Int32) &&& 31)))), (.int (nar .byte (c0 >>> ((8 : Int32) &&& 31))))] (.int 0)) := by
  refine Ct.intro pn_java_lang_StringUTF16 hE (fun m => ef17_rii m b _ _) nosf ⟨a0, own_EW hw⟩ ?_
  intro x T w
  refine w.iloadN d17_0 rfl ?_
  refine w.callS (argsL := [(.int (1 : Int32))]) (rest := []) 0 d17_1 (tw hw 80 rfl) (tw hw 81 rfl) (tw hw 44 rfl) (tw hw 82 rfl) (by decide) (rmNF_1 l Z a0 hw h0 w.old) (lenOf pd_16 rfl) rfl rfl (Nat.le_refl _) ⟨by decide, by decide, by decide, by decide⟩ all0 ?_
  intro T h1 r w _ hQ
  obtain ⟨d, kd, rfl, E1, gd, A0⟩ := hQ
  have ge_d : Z.heap.size ≤ d := Nat.le_trans hE.1 gd
  have w := w.adopt ge_d A0.lt (fun vm hZ => own_safe hw hZ A0 (by decide))
  have nbd : b ≠ d := Nat.ne_of_lt (Nat.lt_of_lt_of_le Ab.lt gd)
  have Ab := Ab.ext E1
  show Go x _ Z _ _ _ T 4 #[.val (.ref b), .val (.int (0 : Int32)), .val (.int (1 : Int32)), .unset, .unset] [(.ref d)]
  refine w.astoreN #[.val (.ref b), .val (.int (0 : Int32)), .val (.int (1 : Int32)), .val (.ref d), .unset] d17_4 rfl rfl ?_
  refine w.iconst (0 : Int32) d17_5 rfl ?_
  refine w.istore #[.val (.ref b), .val (.int (0 : Int32)), .val (.int (1 : Int32)), .val (.ref d), .val (.int (0 : Int32))] d17_6 rfl ?_
  refine w.iload d17_8 rfl ?_
  refine w.iloadN d17_10 rfl ?_
  refine w.icmpGe d17_11 d17_11t (fun q => absurd (by decide) q) (fun _ => ?_)
  refine w.aloadN d17_14 rfl rfl ?_
  refine w.iload d17_15 rfl ?_
  refine w.aloadN d17_17 rfl rfl ?_
  refine w.iloadN d17_18 rfl ?_
  obtain ⟨cl0, Ar0, -, S0, -, H0, -⟩ := id Ab
  refine w.caload d17_19 Ar0 (inb_of S0 (by decide)) (H0.at (inb_of S0 (by decide)) rfl) ?_
  refine w.callS (argsL := [(.ref d), (.int (0 : Int32)), (.int c0)]) (rest := []) 0 d17_20 (tw hw 87 rfl) (tw hw 88 rfl) (tw hw 44 rfl) (tw hw 89 rfl) (by decide) (rmPu_1_0 l Z a0 hw hr d kd  c0 h1 w.old ge_d A0) (lenOf pd_17 rfl) rfl rfl (Nat.le_refl _) ⟨by decide, by decide, by decide, by decide⟩ (allS (List.mem_of_getElem? (i := 0) rfl) all0) ?_
  intro T h2 r w _ hQ
  obtain ⟨rfl, K0, A1⟩ := hQ
  have Ab := Ab.keep K0 (ninS nbd nin0)
  show Go x _ Z _ _ _ T 23 #[.val (.ref b), .val (.int (0 : Int32)), .val (.int (1 : Int32)), .val (.ref d), .val (.int (0 : Int32))] []
  refine w.iinc (1 : Int32) #[.val (.ref b), .val (.int (1 : Int32)), .val (.int (1 : Int32)), .val (.ref d), .val (.int (0 : Int32))] d17_23 rfl rfl rfl ?_
  refine w.iinc (1 : Int32) #[.val (.ref b), .val (.int (1 : Int32)), .val (.int (1 : Int32)), .val (.ref d), .val (.int (1 : Int32))] d17_26 rfl rfl rfl ?_
  refine w.goto d17_29 d17_29t ?_
  refine w.iload d17_8 rfl ?_
  refine w.iloadN d17_10 rfl ?_
  refine w.icmpGe d17_11 d17_11t (fun _ => ?_) (fun q => absurd q (by decide))
  refine w.aloadN d17_32 rfl rfl ?_
  exact w.retA d17_33 rfl rfl rfl rfl ⟨d, kd, rfl, keep_to E1 K0 (allS gd all0), gd, A1⟩

set_option maxRecDepth 65536 in
set_option maxHeartbeats 40000000 in
theorem rmC5x_1_0 (l : Launch) (Z : State) (a0 : Array Value) (hw : ∀ d ∈ tables_1, d.before a0 Z = true) (b d : Addr) (kb kd : ClassId) (c0 : Int32) (h0 : Heap) (hE : Ext Z.heap h0) (ge_d : Z.heap.size ≤ d) (nbd : b ≠ d) (Ab : Arv Z h0 b kb .char (1 : Int32) [(.int c0)] (.int 0)) (Ad : Arv Z h0 d kd .byte (1 : Int32) [] (.int 0))  (gp : 255 < c0) :
    Ct true l Z consts_1 (⟨"java/lang/StringUTF16", "compress", "([CI[BII)I"⟩ : MethodName) jdk_52_method_21_code 7 (some .int) [] ({ frames := 0, cells := 0, slots := 0, locals := 0 } : Room) [d] #[(.ref b), (.int (0 : Int32)), (.ref d), (.int (0 : Int32)), (.int (1 : Int32))] h0 (fun r u => r = some (.int (0 : Int32)) ∧ Keep h0 u [d]) := by
  refine Ct.intro pn_java_lang_StringUTF16 hE (fun m => ef9_ririi m b _ d _ _) (onesf ge_d Ad.lt) ⟨a0, own_EW hw⟩ ?_
  intro x T w
  refine w.iconst (0 : Int32) d9_0 rfl ?_
  refine w.istore #[.val (.ref b), .val (.int (0 : Int32)), .val (.ref d), .val (.int (0 : Int32)), .val (.int (1 : Int32)), .val (.int (0 : Int32)), .unset] d9_1 rfl ?_
  refine w.iload d9_3 rfl ?_
  refine w.iload d9_5 rfl ?_
  refine w.icmpGe d9_7 d9_7t (fun q => absurd (by decide) q) (fun _ => ?_)
  refine w.aloadN d9_10 rfl rfl ?_
  refine w.iloadN d9_11 rfl ?_
  obtain ⟨cl0, Ar0, -, S0, -, H0, -⟩ := id Ab
  refine w.caload d9_12 Ar0 (inb_of S0 (by decide)) (H0.at (inb_of S0 (by decide)) rfl) ?_
  refine w.istore #[.val (.ref b), .val (.int (0 : Int32)), .val (.ref d), .val (.int (0 : Int32)), .val (.int (1 : Int32)), .val (.int (0 : Int32)), .val (.int c0)] d9_13 rfl ?_
  refine w.iload d9_15 rfl ?_
  refine w.sipush (255 : Int32) d9_17 rfl ?_
  refine w.icmpLe d9_20 d9_20t (fun q => absurd gp q) (fun _ => ?_)
  refine w.iload d9_23 rfl ?_
  exact w.retI d9_25 rfl ⟨rfl, (Keep.refl _ _)⟩

set_option maxRecDepth 65536 in
set_option maxHeartbeats 40000000 in
theorem rmGe_1_0 (l : Launch) (Z : State) (a0 : Array Value) (hw : ∀ d ∈ tables_1, d.before a0 Z = true) (hr : rest_1_c.value a0 Z none Z [] = some true) (t : Addr) (kb : ClassId) (c0 : Int32) (h0 : Heap) (hE : Ext Z.heap h0) (A : Arv Z h0 t kb .byte (2 : Int32) [(.int (nar .byte (c0 >>> ((0 : Int32) &&& 31)))), (.int (nar .byte (c0 >>> ((8 : Int32) &&& 31))))] (.int 0)) (z : 0 ≤ c0.toInt) (v : c0.toInt < 65536) :
    Ct true l Z consts_1 (⟨"java/lang/StringUTF16", "getChar", "([BI)C"⟩ : MethodName) jdk_52_method_5_code 2 (some .char) [] ({ frames := 0, cells := 0, slots := 0, locals := 0 } : Room) [] #[(.ref t), (.int (0 : Int32))] h0 (fun r u => r = some (.int c0) ∧ h0 = u) := by
  refine Ct.intro pn_java_lang_StringUTF16 hE (fun m => ef21_ri m t _) nosf ⟨a0, own_EW hw⟩ ?_
  intro x T w
  obtain ⟨cl, Ar, -, S, M, H, -⟩ := id A
  refine w.getS d21_0 (tw hw 90 rfl) (own_ad hr) ?_
  intro T w
  refine w.ifNe d21_3 d21_3t (fun _ => ?_) (fun q => absurd q (by decide))
  refine w.iloadN d21_28 rfl ?_
  refine w.iconst (1 : Int32) d21_29 rfl ?_
  refine w.ishl d21_30 ?_
  refine w.istoreN #[.val (.ref t), .val (.int ((0 : Int32) <<< ((1 : Int32) &&& 31)))] d21_31 rfl ?_
  refine w.aloadN d21_32 rfl rfl ?_
  refine w.iloadN d21_33 rfl ?_
  refine w.iinc (1 : Int32) #[.val (.ref t), .val (.int (((0 : Int32) <<< ((1 : Int32) &&& 31)) + (1 : Int32)))] d21_34 rfl rfl rfl ?_
  refine w.baload (v := .int (nar .byte (c0 >>> ((0 : Int32) &&& 31)))) d21_37 Ar (inb_of S (by decide)) (H.at (inb_of S (by decide)) (by rw [show (((0 : Int32) <<< ((1 : Int32) &&& 31))).toNatClampNeg = 0 by decide]; rfl)) ?_
  refine w.sipush (255 : Int32) d21_38 rfl ?_
  refine w.iand d21_41 ?_
  refine w.getS d21_42 (tw hw 91 rfl) (own_hi hr) ?_
  intro T w
  refine w.ishl d21_45 ?_
  refine w.aloadN d21_46 rfl rfl ?_
  refine w.iloadN d21_47 rfl ?_
  refine w.baload (v := .int (nar .byte (c0 >>> ((8 : Int32) &&& 31)))) d21_48 Ar (inb_of S (by decide)) (H.at (inb_of S (by decide)) (by rw [show ((((0 : Int32) <<< ((1 : Int32) &&& 31)) + (1 : Int32))).toNatClampNeg = 1 by decide]; rfl)) ?_
  refine w.sipush (255 : Int32) d21_49 rfl ?_
  refine w.iand d21_52 ?_
  refine w.getS d21_53 (tw hw 92 rfl) (own_lo hr) ?_
  intro T w
  refine w.ishl d21_56 ?_
  refine w.ior d21_57 ?_
  refine w.i2c d21_58 ?_
  exact w.retN d21_59 rfl (by simp) ⟨by rw [ncc, own_gc z v], rfl⟩

set_option maxRecDepth 65536 in
set_option maxHeartbeats 40000000 in
theorem rmC3x_1_0 (l : Launch) (Z : State) (a0 : Array Value) (hw : ∀ d ∈ tables_1, d.before a0 Z = true) (hr : rest_1_c.value a0 Z none Z [] = some true) (b : Addr) (kb : ClassId) (c0 : Int32) (h0 : Heap) (hE : Ext Z.heap h0) (Ab : Arv Z h0 b kb .char (1 : Int32) [(.int c0)] (.int 0)) (z0 : 0 ≤ c0.toInt) (v0 : c0.toInt < 65536)  (gp : 255 < c0) :
    Ct true l Z consts_1 (⟨"java/lang/StringUTF16", "compress", "([CII)[B"⟩ : MethodName) jdk_52_method_16_code 6 (some (.array .byte)) [] ({ frames := 3, cells := 2, slots := 3, locals := 40 } : Room) [] #[(.ref b), (.int (0 : Int32)), (.int (1 : Int32))] h0 (fun r u => ∃ d kd, r = some (.ref d) ∧ Ext h0 u ∧ h0.size ≤ d ∧ Arv Z u d kd .byte (2 : Int32) [(.int (nar .byte (c0 >>> ((0 : Int32) &&& 31)))), (.int (nar .byte (c0 >>> ((8 : Int32) &&& 31))))] (.int 0)) := by
  refine Ct.intro pn_java_lang_StringUTF16 hE (fun m => ef8_rii m b _ _) nosf ⟨a0, own_EW hw⟩ ?_
  intro x T w
  refine w.iloadN d8_0 rfl ?_
  have sz0 := w.size
  refine w.newP 1 "[B" d8_1 (tw hw 20 rfl) (by decide) (by decide) (by decide) (by decide) ⟨by decide, by decide⟩ ?_
  intro d T h1 kd g_d w E_d A_d X_d
  have ge_d : Z.heap.size ≤ d := by rw [g_d]; exact sz0
  have nbd : b ≠ d := Nat.ne_of_lt (Nat.lt_of_lt_of_eq Ab.lt g_d.symm)
  refine w.astoreN #[.val (.ref b), .val (.int (0 : Int32)), .val (.int (1 : Int32)), .val (.ref d), .unset, .unset] d8_3 rfl rfl ?_
  refine w.aloadN d8_4 rfl rfl ?_
  refine w.iloadN d8_5 rfl ?_
  refine w.aloadN d8_6 rfl rfl ?_
  refine w.iconst (0 : Int32) d8_7 rfl ?_
  refine w.iloadN d8_8 rfl ?_
  refine w.callS (argsL := [(.ref b), (.int (0 : Int32)), (.ref d), (.int (0 : Int32)), (.int (1 : Int32))]) (rest := []) 0 d8_9 (tw hw 46 rfl) (tw hw 47 rfl) (tw hw 44 rfl) (tw hw 48 rfl) (by decide) (rmC5x_1_0 l Z a0 hw b d kb kd c0 h1 w.old ge_d nbd (Ab.ext E_d) A_d  gp) (lenOf pd_12 rfl) rfl rfl (Nat.le_refl _) ⟨by decide, by decide, by decide, by decide⟩ (allS (List.mem_of_getElem? (i := 0) rfl) all0) ?_
  intro T h2 r w _ hQ
  obtain ⟨rfl, K1⟩ := hQ
  have E2 := keep_to E_d K1 (allS (Nat.le_of_eq g_d.symm) all0)
  have Ab := Ab.ext E2
  show Go x _ Z _ _ _ T 12 #[.val (.ref b), .val (.int (0 : Int32)), .val (.int (1 : Int32)), .val (.ref d), .unset, .unset] [(.int (0 : Int32))]
  refine w.istore #[.val (.ref b), .val (.int (0 : Int32)), .val (.int (1 : Int32)), .val (.ref d), .val (.int (0 : Int32)), .unset] d8_12 rfl ?_
  refine w.iload d8_14 rfl ?_
  refine w.iloadN d8_16 rfl ?_
  refine w.icmpEq d8_17 d8_17t (fun q => absurd q (by decide)) (fun _ => ?_)
  refine w.aloadN d8_20 rfl rfl ?_
  refine w.iloadN d8_21 rfl ?_
  refine w.iloadN d8_22 rfl ?_
  refine w.callS (argsL := [(.ref b), (.int (0 : Int32)), (.int (1 : Int32))]) (rest := []) 0 d8_23 (tw hw 77 rfl) (tw hw 78 rfl) (tw hw 44 rfl) (tw hw 79 rfl) (by decide) (rmTo_1 l Z a0 hw hr b kb c0 h2 w.old Ab) (lenOf pd_13 rfl) rfl rfl (Nat.le_refl _) ⟨by decide, by decide, by decide, by decide⟩ all0 ?_
  intro T h3 r w _ hQ
  obtain ⟨e, ke, rfl, E3, ge, Ae⟩ := hQ
  show Go x _ Z _ _ _ T 26 #[.val (.ref b), .val (.int (0 : Int32)), .val (.int (1 : Int32)), .val (.ref d), .val (.int (0 : Int32)), .unset] [(.ref e)]
  refine w.astore #[.val (.ref b), .val (.int (0 : Int32)), .val (.int (1 : Int32)), .val (.ref d), .val (.int (0 : Int32)), .val (.ref e)] d8_26 rfl rfl ?_
  refine w.aload d8_28 rfl rfl ?_
  refine w.iload d8_30 rfl ?_
  refine w.callS (argsL := [(.ref e), (.int (0 : Int32))]) (rest := []) 0 d8_32 (tw hw 93 rfl) (tw hw 94 rfl) (tw hw 44 rfl) (tw hw 95 rfl) (by decide) (rmGe_1_0 l Z a0 hw hr e ke c0 h3 w.old Ae z0 v0) (lenOf pd_5 rfl) rfl rfl (Nat.le_refl _) ⟨by decide, by decide, by decide, by decide⟩ all0 ?_
  intro T h4 r w _ hQ
  obtain ⟨rfl, rfl⟩ := hQ
  show Go x _ Z _ _ _ T 35 #[.val (.ref b), .val (.int (0 : Int32)), .val (.int (1 : Int32)), .val (.ref d), .val (.int (0 : Int32)), .val (.ref e)] [(.int c0)]
  refine w.sipush (255 : Int32) d8_35 rfl ?_
  refine w.icmpGt d8_38 d8_38t (fun _ => ?_) (fun q => absurd gp q)
  refine w.aload d8_54 rfl rfl ?_
  exact w.retA d8_56 rfl rfl rfl rfl ⟨e, ke, rfl, ext_trans E2 E3, Nat.le_trans E2.1 ge, Ae⟩

theorem rmC3U_1 (l : Launch) (Z : State) (a0 : Array Value) (hw : ∀ d ∈ tables_1, d.before a0 Z = true) (hr : rest_1_c.value a0 Z none Z [] = some true) (b : Addr) (kb : ClassId) (c0 : Int32) (h0 : Heap) (hE : Ext Z.heap h0) (Ab : Arv Z h0 b kb .char (1 : Int32) [(.int c0)] (.int 0)) (z0 : 0 ≤ c0.toInt) (v0 : c0.toInt < 65536) (hx : ¬ (¬ 255 < c0 ∧ True)) : Ct true l Z consts_1 (⟨"java/lang/StringUTF16", "compress", "([CII)[B"⟩ : MethodName) jdk_52_method_16_code 6 (some (.array .byte)) [] ({ frames := 3, cells := 2, slots := 3, locals := 40 } : Room) [] #[(.ref b), (.int (0 : Int32)), (.int (1 : Int32))] h0 (fun r u => ∃ d kd, r = some (.ref d) ∧ Ext h0 u ∧ h0.size ≤ d ∧ Arv Z u d kd .byte (2 : Int32) [(.int (nar .byte (c0 >>> ((0 : Int32) &&& 31)))), (.int (nar .byte (c0 >>> ((8 : Int32) &&& 31))))] (.int 0)) := by
  by_cases u0 : 255 < c0
  · exact rmC3x_1_0 l Z a0 hw hr b kb c0 h0 hE Ab z0 v0  u0
  · exact absurd ⟨u0, trivial⟩ hx
set_option maxRecDepth 65536 in
set_option maxHeartbeats 40000000 in
theorem rmCL_2_1 (l : Launch) (Z : State) (a0 : Array Value) (hw : ∀ d ∈ tables_1, d.before a0 Z = true) (d : Addr) (kd : ClassId) (vs : List Value) (h0 : Heap) (hE : Ext Z.heap h0) (Ad : Arv Z h0 d kd .byte (2 : Int32) vs (.int 0)) :
    Ct true l Z consts_1 (⟨"java/lang/StringUTF16", "coderFromArrayLen", "([BI)B"⟩ : MethodName) jdk_52_method_15_code 2 (some .byte) [] ({ frames := 0, cells := 0, slots := 0, locals := 0 } : Room) [] #[(.ref d), (.int (1 : Int32))] h0 (fun r u => r = some (.int (1 : Int32)) ∧ h0 = u) := by
  refine Ct.intro pn_java_lang_StringUTF16 hE (fun m => ef10_ri m d _) nosf ⟨a0, own_EW hw⟩ ?_
  intro x T w
  obtain ⟨cl, Ar, -, S, M, -, -⟩ := Ad
  refine w.iloadN d10_0 rfl ?_
  refine w.aloadN d10_1 rfl rfl ?_
  refine w.alen (2 : Int32) d10_2 Ar (len_of S M) ?_
  refine w.isub d10_3 ?_
  refine w.bipush (31 : Int32) d10_4 rfl ?_
  refine w.iushr d10_6 ?_
  refine w.i2b d10_7 ?_
  exact w.retN d10_8 rfl (by simp) ⟨rfl, rfl⟩

set_option maxRecDepth 65536 in
set_option maxHeartbeats 40000000 in
theorem rmS4u_1 (l : Launch) (Z : State) (a0 : Array Value) (hw : ∀ d ∈ tables_1, d.before a0 Z = true) (hr : rest_1_c.value a0 Z none Z [] = some true) (a b : Addr) (kb : ClassId) (c0 : Int32) (h0 : Heap) (hE : Ext Z.heap h0) (ge_a : Z.heap.size ≤ a) (E0 : Exa Z h0 a "java/lang/String") (G1 : Fld Z h0 a "java/lang/String" "value" "[B" .null) (G2 : Fld Z h0 a "java/lang/String" "coder" "B" (.int (0 : Int32))) (Ab : Arv Z h0 b kb .char (1 : Int32) [(.int c0)] (.int 0)) (z0 : 0 ≤ c0.toInt) (v0 : c0.toInt < 65536) (hx : ¬ (¬ 255 < c0 ∧ True)) :
    Ct true l Z consts_1 (⟨"java/lang/String", "<init>", "([CIILjava/lang/Void;)V"⟩ : MethodName) jdk_42_method_149_code 6 none [] ({ frames := 4, cells := 2, slots := 3, locals := 57 } : Room) [a] #[(.ref a), (.ref b), (.int (0 : Int32)), (.int (1 : Int32)), .null] h0 (fun r u => r = none ∧ Keep h0 u [a] ∧ ∃ t, StrL Z u a t 1 [nar .byte (c0 >>> ((0 : Int32) &&& 31)), nar .byte (c0 >>> ((8 : Int32) &&& 31))]) := by
  refine Ct.intro pn_java_lang_String hE (fun m => ef3_rriin m a b _ _) (onesf ge_a E0.lt) ⟨a0, own_EW hw⟩ ?_
  intro x T w
  obtain ⟨cz, Scs, hcz⟩ := own_cs hr
  refine w.aloadN d3_0 rfl rfl ?_
  refine w.initO 0 d3_1 (tw hw 16 rfl) (tw hw 17 rfl) (tw hw 18 rfl) rfl (Nat.le_refl _) ⟨by decide, by decide⟩ ?_
  intro T w
  refine w.iloadN d3_4 rfl ?_
  refine w.ifNe d3_5 d3_5t (fun _ => ?_) (fun q => absurd q (by decide))
  refine w.getS d3_27 (tw hw 41 rfl) Scs ?_
  intro T w
  refine w.ifEq d3_30 d3_30t (fun q => absurd q hcz) (fun _ => ?_)
  refine w.aloadN d3_33 rfl rfl ?_
  refine w.iloadN d3_34 rfl ?_
  refine w.iloadN d3_35 rfl ?_
  refine w.callS (argsL := [(.ref b), (.int (0 : Int32)), (.int (1 : Int32))]) (rest := []) 0 d3_36 (tw hw 42 rfl) (tw hw 43 rfl) (tw hw 44 rfl) (tw hw 45 rfl) (by decide) (rmC3U_1 l Z a0 hw hr b kb c0 h0 w.old Ab z0 v0 hx) (lenOf pd_13 rfl) rfl rfl (Nat.le_refl _) ⟨by decide, by decide, by decide, by decide⟩ all0 ?_
  intro T h1 r w _ hQ
  obtain ⟨d, kd, rfl, E1, gd, A1⟩ := hQ
  have ne_a_d : a ≠ d := Nat.ne_of_lt (Nat.lt_of_lt_of_le E0.lt gd)
  have F1 := E0.ext E1
  have F2 := G1.ext E1
  have F3 := G2.ext E1
  show Go x _ Z _ _ _ T 39 #[.val (.ref a), .val (.ref b), .val (.int (0 : Int32)), .val (.int (1 : Int32)), .val .null, .unset] [(.ref d)]
  refine w.astore #[.val (.ref a), .val (.ref b), .val (.int (0 : Int32)), .val (.int (1 : Int32)), .val .null, .val (.ref d)] d3_39 rfl rfl ?_
  refine w.aloadN d3_41 rfl rfl ?_
  refine w.aload d3_42 rfl rfl ?_
  refine w.iloadN d3_44 rfl ?_
  refine w.callS (argsL := [(.ref d), (.int (1 : Int32))]) (rest := [(.ref a)]) 1 d3_45 (tw hw 49 rfl) (tw hw 50 rfl) (tw hw 44 rfl) (tw hw 51 rfl) (by decide) (rmCL_2_1 l Z a0 hw d kd _ h1 w.old A1) (lenOf pd_14 rfl) rfl rfl (Nat.le_refl _) ⟨by decide, by decide, by decide, by decide⟩ all0 ?_
  intro T h2 r w _ hQ
  obtain ⟨rfl, rfl⟩ := hQ
  show Go x _ Z _ _ _ T 48 #[.val (.ref a), .val (.ref b), .val (.int (0 : Int32)), .val (.int (1 : Int32)), .val .null, .val (.ref d)] [(.int (1 : Int32)), (.ref a)]
  refine w.putF d3_48 (tw hw 26 rfl) F3 F1 (Or.inr ⟨(tw hw 22 rfl), rfl, rfl⟩) (tw hw 7 rfl) (ty := .byte) (by decide) rfl rfl (List.mem_of_getElem? (i := 0) rfl) ?_
  intro T h3 w W4
  have F5 := F1.wr W4
  have F6 := F2.other W4 (Or.inr (slot_ne (Or.inr (tw hw 21 rfl)) (Or.inr (tw hw 22 rfl)) (by decide) (t := (.array .byte)) (t' := .byte) (by decide) (by decide)))
  have F7 := F3.same W4
  have F8 := A1.other W4 (Ne.symm ne_a_d)
  refine w.aloadN d3_51 rfl rfl ?_
  refine w.aload d3_52 rfl rfl ?_
  refine w.putF d3_54 (tw hw 25 rfl) F6 F5 (Or.inr ⟨(tw hw 21 rfl), rfl, rfl⟩) (tw hw 7 rfl) (ty := (.array .byte)) (by decide) rfl rfl (List.mem_of_getElem? (i := 0) rfl) ?_
  intro T h4 w W9
  have F10 := F5.wr W9
  have F11 := F6.same W9
  have F12 := F7.other W9 (Or.inr (slot_ne (Or.inr (tw hw 22 rfl)) (Or.inr (tw hw 21 rfl)) (by decide) (t := .byte) (t' := (.array .byte)) (by decide) (by decide)))
  have F13 := F8.other W9 (Ne.symm ne_a_d)
  exact w.retV d3_57 rfl ⟨rfl, (((keep_ext E1).wr W4 (Or.inl (List.mem_singleton.mpr rfl))).wr W9 (Or.inl (List.mem_singleton.mpr rfl))), d, F10, F11, F12, kd, F13, by simp⟩

set_option maxRecDepth 65536 in
set_option maxHeartbeats 40000000 in
theorem rmS1E_1 (l : Launch) (Z : State) (a0 : Array Value) (hw : ∀ d ∈ tables_1, d.before a0 Z = true) (hr : rest_1_c.value a0 Z none Z [] = some true) (a b : Addr) (kb : ClassId) (c0 : Int32) (h0 : Heap) (hE : Ext Z.heap h0) (ge_a : Z.heap.size ≤ a) (E0 : Exa Z h0 a "java/lang/String") (G1 : Fld Z h0 a "java/lang/String" "value" "[B" .null) (G2 : Fld Z h0 a "java/lang/String" "coder" "B" (.int (0 : Int32))) (Ab : Arv Z h0 b kb .char (1 : Int32) [(.int c0)] (.int 0)) (z0 : 0 ≤ c0.toInt) (v0 : c0.toInt < 65536) :
    Ct true l Z consts_1 (⟨"java/lang/String", "<init>", "([C)V"⟩ : MethodName) jdk_42_method_3_code 2 none [] ({ frames := 5, cells := 2, slots := 3, locals := 74 } : Room) [a] #[(.ref a), (.ref b)] h0 (fun r u => r = none ∧ Keep h0 u [a] ∧ ∃ t, ((StrL Z u a t 0 [nar .byte c0] ∧ (¬ 255 < c0 ∧ True)) ∨ StrL Z u a t 1 [nar .byte (c0 >>> ((0 : Int32) &&& 31)), nar .byte (c0 >>> ((8 : Int32) &&& 31))])) := by
  refine Ct.intro pn_java_lang_String hE (fun m => ef2_rr m a b) (onesf ge_a E0.lt) ⟨a0, own_EW hw⟩ ?_
  intro x T w
  obtain ⟨cl, Ar, -, S, M, -, -⟩ := id Ab
  by_cases hx : (¬ 255 < c0 ∧ True)
  · refine w.aloadN d2_0 rfl rfl ?_
    refine w.aloadN d2_1 rfl rfl ?_
    refine w.iconst (0 : Int32) d2_2 rfl ?_
    refine w.aloadN d2_3 rfl rfl ?_
    refine w.alen (1 : Int32) d2_4 Ar (len_of S M) ?_
    refine w.aconstNull d2_5 ?_
    refine w.callI (argsL := [(.ref b), (.int (0 : Int32)), (.int (1 : Int32)), .null]) (rest := []) 0 d2_6 rfl (tw hw 12 rfl) (tw hw 13 rfl) (tw hw 8 rfl) (tw hw 15 rfl) (by decide) (rmS4_1 l Z a0 hw hr a b kb c0 h0 w.old ge_a E0 G1 G2 Ab hx.1) (lenOf pd_9 rfl) rfl rfl (Nat.le_refl _) ⟨by decide, by decide, by decide, by decide⟩ (allS (List.mem_of_getElem? (i := 0) rfl) all0) ?_
    intro T h1 r w _ hQ
    obtain ⟨rfl, K1, t, gt, S1⟩ := hQ
    exact w.retV d2_9 rfl ⟨rfl, K1, t, Or.inl ⟨S1, hx⟩⟩
  · refine w.aloadN d2_0 rfl rfl ?_
    refine w.aloadN d2_1 rfl rfl ?_
    refine w.iconst (0 : Int32) d2_2 rfl ?_
    refine w.aloadN d2_3 rfl rfl ?_
    refine w.alen (1 : Int32) d2_4 Ar (len_of S M) ?_
    refine w.aconstNull d2_5 ?_
    refine w.callI (argsL := [(.ref b), (.int (0 : Int32)), (.int (1 : Int32)), .null]) (rest := []) 0 d2_6 rfl (tw hw 12 rfl) (tw hw 13 rfl) (tw hw 8 rfl) (tw hw 15 rfl) (by decide) (rmS4u_1 l Z a0 hw hr a b kb c0 h0 w.old ge_a E0 G1 G2 Ab z0 v0 hx) (lenOf pd_9 rfl) rfl rfl (Nat.le_refl _) ⟨by decide, by decide, by decide, by decide⟩ (allS (List.mem_of_getElem? (i := 0) rfl) all0) ?_
    intro T h2 r w _ hQ
    obtain ⟨rfl, K1, t, S1⟩ := hQ
    exact w.retV d2_9 rfl ⟨rfl, K1, t, Or.inr S1⟩

set_option maxRecDepth 65536 in
set_option maxHeartbeats 40000000 in
theorem rmC5_2 (l : Launch) (Z : State) (a0 : Array Value) (hw : ∀ d ∈ tables_1, d.before a0 Z = true) (b d : Addr) (kb kd : ClassId) (c0 c1 : Int32) (h0 : Heap) (hE : Ext Z.heap h0) (ge_d : Z.heap.size ≤ d) (nbd : b ≠ d) (Ab : Arv Z h0 b kb .char (2 : Int32) [(.int c0), (.int c1)] (.int 0)) (Ad : Arv Z h0 d kd .byte (2 : Int32) [] (.int 0)) (u0 : ¬ 255 < c0) (u1 : ¬ 255 < c1) :
    Ct true l Z consts_1 (⟨"java/lang/StringUTF16", "compress", "([CI[BII)I"⟩ : MethodName) jdk_52_method_21_code 7 (some .int) [] ({ frames := 0, cells := 0, slots := 0, locals := 0 } : Room) [d] #[(.ref b), (.int (0 : Int32)), (.ref d), (.int (0 : Int32)), (.int (2 : Int32))] h0 (fun r u => r = some (.int (2 : Int32)) ∧ Keep h0 u [d] ∧ Arv Z u d kd .byte (2 : Int32) [(.int (nar .byte c0)), (.int (nar .byte c1))] (.int 0)) := by
  refine Ct.intro pn_java_lang_StringUTF16 hE (fun m => ef9_ririi m b _ d _ _) (onesf ge_d Ad.lt) ⟨a0, own_EW hw⟩ ?_
  intro x T w
  refine w.iconst (0 : Int32) d9_0 rfl ?_
  refine w.istore #[.val (.ref b), .val (.int (0 : Int32)), .val (.ref d), .val (.int (0 : Int32)), .val (.int (2 : Int32)), .val (.int (0 : Int32)), .unset] d9_1 rfl ?_
  refine w.iload d9_3 rfl ?_
  refine w.iload d9_5 rfl ?_
  refine w.icmpGe d9_7 d9_7t (fun q => absurd (by decide) q) (fun _ => ?_)
  refine w.aloadN d9_10 rfl rfl ?_
  refine w.iloadN d9_11 rfl ?_
  obtain ⟨cl0, Ar0, -, S0, -, H0, -⟩ := id Ab
  refine w.caload d9_12 Ar0 (inb_of S0 (by decide)) (H0.at (inb_of S0 (by decide)) rfl) ?_
  refine w.istore #[.val (.ref b), .val (.int (0 : Int32)), .val (.ref d), .val (.int (0 : Int32)), .val (.int (2 : Int32)), .val (.int (0 : Int32)), .val (.int c0)] d9_13 rfl ?_
  refine w.iload d9_15 rfl ?_
  refine w.sipush (255 : Int32) d9_17 rfl ?_
  refine w.icmpLe d9_20 d9_20t (fun _ => ?_) (fun q => absurd q u0)
  refine w.aloadN d9_26 rfl rfl ?_
  refine w.iloadN d9_27 rfl ?_
  refine w.iload d9_28 rfl ?_
  refine w.i2b d9_30 ?_
  refine w.stB 0 [(.int 0)] d9_31 Ad ⟨by decide, by decide⟩ (by decide) (pad_rep [] (.int 0) 1) (by simp) (fnb _) (List.mem_of_getElem? (i := 0) rfl) ?_
  intro T h1 w W0 A0
  rw [nbb] at A0 W0
  have Ad0 : Arv Z h1 d kd .byte (2 : Int32) [(.int (nar .byte c0))] (.int 0) := A0
  have Ab0 := Ab.other W0 nbd
  refine w.iinc (1 : Int32) #[.val (.ref b), .val (.int (1 : Int32)), .val (.ref d), .val (.int (0 : Int32)), .val (.int (2 : Int32)), .val (.int (0 : Int32)), .val (.int c0)] d9_32 rfl rfl rfl ?_
  refine w.iinc (1 : Int32) #[.val (.ref b), .val (.int (1 : Int32)), .val (.ref d), .val (.int (1 : Int32)), .val (.int (2 : Int32)), .val (.int (0 : Int32)), .val (.int c0)] d9_35 rfl rfl rfl ?_
  refine w.iinc (1 : Int32) #[.val (.ref b), .val (.int (1 : Int32)), .val (.ref d), .val (.int (1 : Int32)), .val (.int (2 : Int32)), .val (.int (1 : Int32)), .val (.int c0)] d9_38 rfl rfl rfl ?_
  refine w.goto d9_41 d9_41t ?_
  refine w.iload d9_3 rfl ?_
  refine w.iload d9_5 rfl ?_
  refine w.icmpGe d9_7 d9_7t (fun q => absurd (by decide) q) (fun _ => ?_)
  refine w.aloadN d9_10 rfl rfl ?_
  refine w.iloadN d9_11 rfl ?_
  obtain ⟨cl1, Ar1, -, S1, -, H1, -⟩ := id Ab0
  refine w.caload d9_12 Ar1 (inb_of S1 (by decide)) (H1.at (inb_of S1 (by decide)) rfl) ?_
  refine w.istore #[.val (.ref b), .val (.int (1 : Int32)), .val (.ref d), .val (.int (1 : Int32)), .val (.int (2 : Int32)), .val (.int (1 : Int32)), .val (.int c1)] d9_13 rfl ?_
  refine w.iload d9_15 rfl ?_
  refine w.sipush (255 : Int32) d9_17 rfl ?_
  refine w.icmpLe d9_20 d9_20t (fun _ => ?_) (fun q => absurd q u1)
  refine w.aloadN d9_26 rfl rfl ?_
  refine w.iloadN d9_27 rfl ?_
  refine w.iload d9_28 rfl ?_
  refine w.i2b d9_30 ?_
  refine w.stB 1 [(.int (nar .byte c0)), (.int 0)] d9_31 Ad0 ⟨by decide, by decide⟩ (by decide) (pad_rep [(.int (nar .byte c0))] (.int 0) 1) (by simp) (fnb _) (List.mem_of_getElem? (i := 0) rfl) ?_
  intro T h2 w W1 A1
  rw [nbb] at A1 W1
  have Ad1 : Arv Z h2 d kd .byte (2 : Int32) [(.int (nar .byte c0)), (.int (nar .byte c1))] (.int 0) := A1
  have Ab1 := Ab0.other W1 nbd
  refine w.iinc (1 : Int32) #[.val (.ref b), .val (.int (2 : Int32)), .val (.ref d), .val (.int (1 : Int32)), .val (.int (2 : Int32)), .val (.int (1 : Int32)), .val (.int c1)] d9_32 rfl rfl rfl ?_
  refine w.iinc (1 : Int32) #[.val (.ref b), .val (.int (2 : Int32)), .val (.ref d), .val (.int (2 : Int32)), .val (.int (2 : Int32)), .val (.int (1 : Int32)), .val (.int c1)] d9_35 rfl rfl rfl ?_
  refine w.iinc (1 : Int32) #[.val (.ref b), .val (.int (2 : Int32)), .val (.ref d), .val (.int (2 : Int32)), .val (.int (2 : Int32)), .val (.int (2 : Int32)), .val (.int c1)] d9_38 rfl rfl rfl ?_
  refine w.goto d9_41 d9_41t ?_
  refine w.iload d9_3 rfl ?_
  refine w.iload d9_5 rfl ?_
  refine w.icmpGe d9_7 d9_7t (fun _ => ?_) (fun q => absurd q (by decide))
  refine w.iload d9_44 rfl ?_
  exact w.retI d9_46 rfl ⟨rfl, (((Keep.refl _ _).wr W0 (Or.inl (List.mem_singleton.mpr rfl))).wr W1 (Or.inl (List.mem_singleton.mpr rfl))), Ad1⟩

set_option maxRecDepth 65536 in
set_option maxHeartbeats 40000000 in
theorem rmC3_2 (l : Launch) (Z : State) (a0 : Array Value) (hw : ∀ d ∈ tables_1, d.before a0 Z = true) (b : Addr) (kb : ClassId) (c0 c1 : Int32) (h0 : Heap) (hE : Ext Z.heap h0) (Ab : Arv Z h0 b kb .char (2 : Int32) [(.int c0), (.int c1)] (.int 0)) (u0 : ¬ 255 < c0) (u1 : ¬ 255 < c1) :
    Ct true l Z consts_1 (⟨"java/lang/StringUTF16", "compress", "([CII)[B"⟩ : MethodName) jdk_52_method_16_code 6 (some (.array .byte)) [] ({ frames := 1, cells := 1, slots := 2, locals := 18 } : Room) [] #[(.ref b), (.int (0 : Int32)), (.int (2 : Int32))] h0 (fun r u => ∃ d kd, r = some (.ref d) ∧ Ext h0 u ∧ h0.size ≤ d ∧ Arv Z u d kd .byte (2 : Int32) [(.int (nar .byte c0)), (.int (nar .byte c1))] (.int 0)) := by
  refine Ct.intro pn_java_lang_StringUTF16 hE (fun m => ef8_rii m b _ _) nosf ⟨a0, own_EW hw⟩ ?_
  intro x T w
  refine w.iloadN d8_0 rfl ?_
  have sz0 := w.size
  refine w.newP 2 "[B" d8_1 (tw hw 20 rfl) (by decide) (by decide) (by decide) (by decide) ⟨by decide, by decide⟩ ?_
  intro d T h1 kd g_d w E_d A_d X_d
  have ge_d : Z.heap.size ≤ d := by rw [g_d]; exact sz0
  have nbd : b ≠ d := Nat.ne_of_lt (Nat.lt_of_lt_of_eq Ab.lt g_d.symm)
  refine w.astoreN #[.val (.ref b), .val (.int (0 : Int32)), .val (.int (2 : Int32)), .val (.ref d), .unset, .unset] d8_3 rfl rfl ?_
  refine w.aloadN d8_4 rfl rfl ?_
  refine w.iloadN d8_5 rfl ?_
  refine w.aloadN d8_6 rfl rfl ?_
  refine w.iconst (0 : Int32) d8_7 rfl ?_
  refine w.iloadN d8_8 rfl ?_
  refine w.callS (argsL := [(.ref b), (.int (0 : Int32)), (.ref d), (.int (0 : Int32)), (.int (2 : Int32))]) (rest := []) 0 d8_9 (tw hw 46 rfl) (tw hw 47 rfl) (tw hw 44 rfl) (tw hw 48 rfl) (by decide) (rmC5_2 l Z a0 hw b d kb kd c0 c1 h1 w.old ge_d nbd (Ab.ext E_d) A_d u0 u1) (lenOf pd_12 rfl) rfl rfl (Nat.le_refl _) ⟨by decide, by decide, by decide, by decide⟩ (allS (List.mem_of_getElem? (i := 0) rfl) all0) ?_
  intro T h2 r w _ hQ
  obtain ⟨rfl, K1, A1⟩ := hQ
  show Go x _ Z _ _ _ T 12 #[.val (.ref b), .val (.int (0 : Int32)), .val (.int (2 : Int32)), .val (.ref d), .unset, .unset] [(.int (2 : Int32))]
  refine w.istore #[.val (.ref b), .val (.int (0 : Int32)), .val (.int (2 : Int32)), .val (.ref d), .val (.int (2 : Int32)), .unset] d8_12 rfl ?_
  refine w.iload d8_14 rfl ?_
  refine w.iloadN d8_16 rfl ?_
  refine w.icmpEq d8_17 d8_17t (fun _ => ?_) (fun q => absurd rfl q)
  refine w.aloadN d8_57 rfl rfl ?_
  exact w.retA d8_58 rfl rfl rfl rfl ⟨d, kd, rfl, keep_to E_d K1 (allS (Nat.le_of_eq g_d.symm) all0), Nat.le_of_eq g_d.symm, A1⟩

set_option maxRecDepth 65536 in
set_option maxHeartbeats 40000000 in
theorem rmCL_2_2 (l : Launch) (Z : State) (a0 : Array Value) (hw : ∀ d ∈ tables_1, d.before a0 Z = true) (d : Addr) (kd : ClassId) (vs : List Value) (h0 : Heap) (hE : Ext Z.heap h0) (Ad : Arv Z h0 d kd .byte (2 : Int32) vs (.int 0)) :
    Ct true l Z consts_1 (⟨"java/lang/StringUTF16", "coderFromArrayLen", "([BI)B"⟩ : MethodName) jdk_52_method_15_code 2 (some .byte) [] ({ frames := 0, cells := 0, slots := 0, locals := 0 } : Room) [] #[(.ref d), (.int (2 : Int32))] h0 (fun r u => r = some (.int (0 : Int32)) ∧ h0 = u) := by
  refine Ct.intro pn_java_lang_StringUTF16 hE (fun m => ef10_ri m d _) nosf ⟨a0, own_EW hw⟩ ?_
  intro x T w
  obtain ⟨cl, Ar, -, S, M, -, -⟩ := Ad
  refine w.iloadN d10_0 rfl ?_
  refine w.aloadN d10_1 rfl rfl ?_
  refine w.alen (2 : Int32) d10_2 Ar (len_of S M) ?_
  refine w.isub d10_3 ?_
  refine w.bipush (31 : Int32) d10_4 rfl ?_
  refine w.iushr d10_6 ?_
  refine w.i2b d10_7 ?_
  exact w.retN d10_8 rfl (by simp) ⟨rfl, rfl⟩

set_option maxRecDepth 65536 in
set_option maxHeartbeats 40000000 in
theorem rmS4_2 (l : Launch) (Z : State) (a0 : Array Value) (hw : ∀ d ∈ tables_1, d.before a0 Z = true) (hr : rest_1_c.value a0 Z none Z [] = some true) (a b : Addr) (kb : ClassId) (c0 c1 : Int32) (h0 : Heap) (hE : Ext Z.heap h0) (ge_a : Z.heap.size ≤ a) (E0 : Exa Z h0 a "java/lang/String") (G1 : Fld Z h0 a "java/lang/String" "value" "[B" .null) (G2 : Fld Z h0 a "java/lang/String" "coder" "B" (.int (0 : Int32))) (Ab : Arv Z h0 b kb .char (2 : Int32) [(.int c0), (.int c1)] (.int 0)) (u0 : ¬ 255 < c0) (u1 : ¬ 255 < c1) :
    Ct true l Z consts_1 (⟨"java/lang/String", "<init>", "([CIILjava/lang/Void;)V"⟩ : MethodName) jdk_42_method_149_code 6 none [] ({ frames := 2, cells := 1, slots := 2, locals := 36 } : Room) [a] #[(.ref a), (.ref b), (.int (0 : Int32)), (.int (2 : Int32)), .null] h0 (fun r u => r = none ∧ Keep h0 u [a] ∧ ∃ t, h0.size ≤ t ∧ StrL Z u a t 0 [nar .byte c0, nar .byte c1]) := by
  refine Ct.intro pn_java_lang_String hE (fun m => ef3_rriin m a b _ _) (onesf ge_a E0.lt) ⟨a0, own_EW hw⟩ ?_
  intro x T w
  obtain ⟨cz, Scs, hcz⟩ := own_cs hr
  refine w.aloadN d3_0 rfl rfl ?_
  refine w.initO 0 d3_1 (tw hw 16 rfl) (tw hw 17 rfl) (tw hw 18 rfl) rfl (Nat.le_refl _) ⟨by decide, by decide⟩ ?_
  intro T w
  refine w.iloadN d3_4 rfl ?_
  refine w.ifNe d3_5 d3_5t (fun _ => ?_) (fun q => absurd q (by decide))
  refine w.getS d3_27 (tw hw 41 rfl) Scs ?_
  intro T w
  refine w.ifEq d3_30 d3_30t (fun q => absurd q hcz) (fun _ => ?_)
  refine w.aloadN d3_33 rfl rfl ?_
  refine w.iloadN d3_34 rfl ?_
  refine w.iloadN d3_35 rfl ?_
  refine w.callS (argsL := [(.ref b), (.int (0 : Int32)), (.int (2 : Int32))]) (rest := []) 0 d3_36 (tw hw 42 rfl) (tw hw 43 rfl) (tw hw 44 rfl) (tw hw 45 rfl) (by decide) (rmC3_2 l Z a0 hw b kb c0 c1 h0 w.old Ab u0 u1) (lenOf pd_13 rfl) rfl rfl (Nat.le_refl _) ⟨by decide, by decide, by decide, by decide⟩ all0 ?_
  intro T h1 r w _ hQ
  obtain ⟨d, kd, rfl, E1, gd, A1⟩ := hQ
  have ne_a_d : a ≠ d := Nat.ne_of_lt (Nat.lt_of_lt_of_le E0.lt gd)
  have F1 := E0.ext E1
  have F2 := G1.ext E1
  have F3 := G2.ext E1
  show Go x _ Z _ _ _ T 39 #[.val (.ref a), .val (.ref b), .val (.int (0 : Int32)), .val (.int (2 : Int32)), .val .null, .unset] [(.ref d)]
  refine w.astore #[.val (.ref a), .val (.ref b), .val (.int (0 : Int32)), .val (.int (2 : Int32)), .val .null, .val (.ref d)] d3_39 rfl rfl ?_
  refine w.aloadN d3_41 rfl rfl ?_
  refine w.aload d3_42 rfl rfl ?_
  refine w.iloadN d3_44 rfl ?_
  refine w.callS (argsL := [(.ref d), (.int (2 : Int32))]) (rest := [(.ref a)]) 1 d3_45 (tw hw 49 rfl) (tw hw 50 rfl) (tw hw 44 rfl) (tw hw 51 rfl) (by decide) (rmCL_2_2 l Z a0 hw d kd _ h1 w.old A1) (lenOf pd_14 rfl) rfl rfl (Nat.le_refl _) ⟨by decide, by decide, by decide, by decide⟩ all0 ?_
  intro T h2 r w _ hQ
  obtain ⟨rfl, rfl⟩ := hQ
  show Go x _ Z _ _ _ T 48 #[.val (.ref a), .val (.ref b), .val (.int (0 : Int32)), .val (.int (2 : Int32)), .val .null, .val (.ref d)] [(.int (0 : Int32)), (.ref a)]
  refine w.putF d3_48 (tw hw 26 rfl) F3 F1 (Or.inr ⟨(tw hw 22 rfl), rfl, rfl⟩) (tw hw 7 rfl) (ty := .byte) (by decide) rfl rfl (List.mem_of_getElem? (i := 0) rfl) ?_
  intro T h3 w W4
  have F5 := F1.wr W4
  have F6 := F2.other W4 (Or.inr (slot_ne (Or.inr (tw hw 21 rfl)) (Or.inr (tw hw 22 rfl)) (by decide) (t := (.array .byte)) (t' := .byte) (by decide) (by decide)))
  have F7 := F3.same W4
  have F8 := A1.other W4 (Ne.symm ne_a_d)
  refine w.aloadN d3_51 rfl rfl ?_
  refine w.aload d3_52 rfl rfl ?_
  refine w.putF d3_54 (tw hw 25 rfl) F6 F5 (Or.inr ⟨(tw hw 21 rfl), rfl, rfl⟩) (tw hw 7 rfl) (ty := (.array .byte)) (by decide) rfl rfl (List.mem_of_getElem? (i := 0) rfl) ?_
  intro T h4 w W9
  have F10 := F5.wr W9
  have F11 := F6.same W9
  have F12 := F7.other W9 (Or.inr (slot_ne (Or.inr (tw hw 22 rfl)) (Or.inr (tw hw 21 rfl)) (by decide) (t := .byte) (t' := (.array .byte)) (by decide) (by decide)))
  have F13 := F8.other W9 (Ne.symm ne_a_d)
  exact w.retV d3_57 rfl ⟨rfl, (((keep_ext E1).wr W4 (Or.inl (List.mem_singleton.mpr rfl))).wr W9 (Or.inl (List.mem_singleton.mpr rfl))), d, gd, F10, F11, F12, kd, F13, by simp⟩

set_option maxRecDepth 65536 in
set_option maxHeartbeats 40000000 in
theorem rmNL_2 (l : Launch) (Z : State) (a0 : Array Value) (hw : ∀ d ∈ tables_1, d.before a0 Z = true) (h0 : Heap) (hE : Ext Z.heap h0) :
    Ct true l Z consts_1 (⟨"java/lang/StringUTF16", "newBytesLength", "(I)I"⟩ : MethodName) jdk_52_method_3_code 1 (some .int) [] ({ frames := 0, cells := 0, slots := 0, locals := 0 } : Room) [] #[(.int (2 : Int32))] h0 (fun r u => r = some (.int (4 : Int32)) ∧ h0 = u) := by
  refine Ct.intro pn_java_lang_StringUTF16 hE (fun m => ef19_i m _) nosf ⟨a0, own_EW hw⟩ ?_
  intro x T w
  refine w.iloadN d19_0 rfl ?_
  refine w.ifGe d19_1 d19_1t (fun _ => ?_) (fun q => absurd q (by decide))
  refine w.iloadN d19_12 rfl ?_
  refine w.ldcI d19_13 (tw hw 86 rfl) ?_
  refine w.icmpLt d19_15 d19_15t (fun _ => ?_) (fun q => absurd (by decide) q)
  refine w.iloadN d19_55 rfl ?_
  refine w.iconst (1 : Int32) d19_56 rfl ?_
  refine w.ishl d19_57 ?_
  exact w.retI d19_58 rfl ⟨rfl, rfl⟩

set_option maxRecDepth 65536 in
set_option maxHeartbeats 40000000 in
theorem rmNF_2 (l : Launch) (Z : State) (a0 : Array Value) (hw : ∀ d ∈ tables_1, d.before a0 Z = true) (h0 : Heap) (hE : Ext Z.heap h0) :
    Ct true l Z consts_1 (⟨"java/lang/StringUTF16", "newBytesFor", "(I)[B"⟩ : MethodName) jdk_52_method_2_code 1 (some (.array .byte)) [] ({ frames := 1, cells := 1, slots := 4, locals := 12 } : Room) [] #[(.int (2 : Int32))] h0 (fun r u => ∃ d kd, r = some (.ref d) ∧ Ext h0 u ∧ h0.size ≤ d ∧ Arv Z u d kd .byte (4 : Int32) [] (.int 0)) := by
  refine Ct.intro pn_java_lang_StringUTF16 hE (fun m => ef18_i m _) nosf ⟨a0, own_EW hw⟩ ?_
  intro x T w
  refine w.iloadN d18_0 rfl ?_
  refine w.callS (argsL := [(.int (2 : Int32))]) (rest := []) 0 d18_1 (tw hw 83 rfl) (tw hw 84 rfl) (tw hw 44 rfl) (tw hw 85 rfl) (by decide) (rmNL_2 l Z a0 hw h0 w.old) (lenOf pd_15 rfl) rfl rfl (Nat.le_refl _) ⟨by decide, by decide, by decide, by decide⟩ all0 ?_
  intro T h1 r w _ hQ
  obtain ⟨rfl, rfl⟩ := hQ
  show Go x _ Z _ _ _ T 4 #[.val (.int (2 : Int32))] [(.int (4 : Int32))]
  have sz0 := w.size
  refine w.newP 4 "[B" d18_4 (tw hw 20 rfl) (by decide) (by decide) (by decide) (by decide) ⟨by decide, by decide⟩ ?_
  intro d T h2 kd g_d w E_d A_d X_d
  have ge_d : Z.heap.size ≤ d := by rw [g_d]; exact sz0
  exact w.retA d18_6 rfl rfl rfl rfl ⟨d, kd, rfl, E_d, Nat.le_of_eq g_d.symm, A_d⟩

set_option maxRecDepth 65536 in
set_option maxHeartbeats 40000000 in
theorem rmPu_2_0 (l : Launch) (Z : State) (a0 : Array Value) (hw : ∀ d ∈ tables_1, d.before a0 Z = true) (hr : rest_1_c.value a0 Z none Z [] = some true) (d : Addr) (kd : ClassId)  (c : Int32) (h0 : Heap) (hE : Ext Z.heap h0) (ge_d : Z.heap.size ≤ d) (A : Arv Z h0 d kd .byte (4 : Int32) [] (.int 0)) :
    Ct true l Z consts_1 (⟨"java/lang/StringUTF16", "putChar", "([BII)V"⟩ : MethodName) jdk_52_method_4_code 3 none [] ({ frames := 0, cells := 0, slots := 0, locals := 0 } : Room) [d] #[(.ref d), (.int (0 : Int32)), (.int c)] h0 (fun r u => r = none ∧ Keep h0 u [d] ∧ Arv Z u d kd .byte (4 : Int32) [(.int (nar .byte (c >>> ((0 : Int32) &&& 31)))), (.int (nar .byte (c >>> ((8 : Int32) &&& 31))))] (.int 0)) := by
  refine Ct.intro pn_java_lang_StringUTF16 hE (fun m => ef20_rii m d _ _) (onesf ge_d A.lt) ⟨a0, own_EW hw⟩ ?_
  intro x T w
  refine w.getS d20_0 (tw hw 90 rfl) (own_ad hr) ?_
  intro T w
  refine w.ifNe d20_3 d20_3t (fun _ => ?_) (fun q => absurd q (by decide))
  refine w.iloadN d20_28 rfl ?_
  refine w.iconst (1 : Int32) d20_29 rfl ?_
  refine w.ishl d20_30 ?_
  refine w.istoreN #[.val (.ref d), .val (.int ((0 : Int32) <<< ((1 : Int32) &&& 31))), .val (.int c)] d20_31 rfl ?_
  refine w.aloadN d20_32 rfl rfl ?_
  refine w.iloadN d20_33 rfl ?_
  refine w.iinc (1 : Int32) #[.val (.ref d), .val (.int (((0 : Int32) <<< ((1 : Int32) &&& 31)) + (1 : Int32))), .val (.int c)] d20_34 rfl rfl rfl ?_
  refine w.iloadN d20_37 rfl ?_
  refine w.getS d20_38 (tw hw 91 rfl) (own_hi hr) ?_
  intro T w
  refine w.ishr d20_41 ?_
  refine w.i2b d20_42 ?_
  refine w.stB 0 [(.int 0)] d20_43 A ⟨by decide, by decide⟩ (by decide) (pad_rep [] (.int 0) 1) (by simp) (fnb _) (List.mem_of_getElem? (i := 0) rfl) ?_
  intro T h1 w W0 B0
  rw [nbb] at B0 W0
  have C0 : Arv Z h1 d kd .byte (4 : Int32) [(.int (nar .byte (c >>> ((0 : Int32) &&& 31))))] (.int 0) := B0
  refine w.aloadN d20_44 rfl rfl ?_
  refine w.iloadN d20_45 rfl ?_
  refine w.iloadN d20_46 rfl ?_
  refine w.getS d20_47 (tw hw 92 rfl) (own_lo hr) ?_
  intro T w
  refine w.ishr d20_50 ?_
  refine w.i2b d20_51 ?_
  refine w.stB 1 [(.int (nar .byte (c >>> ((0 : Int32) &&& 31)))), (.int 0)] d20_52 C0 ⟨by decide, by decide⟩ (by decide) (pad_rep [(.int (nar .byte (c >>> ((0 : Int32) &&& 31))))] (.int 0) 1) (by simp) (fnb _) (List.mem_of_getElem? (i := 0) rfl) ?_
  intro T h2 w W1 B1
  rw [nbb] at B1 W1
  have C1 : Arv Z h2 d kd .byte (4 : Int32) [(.int (nar .byte (c >>> ((0 : Int32) &&& 31)))), (.int (nar .byte (c >>> ((8 : Int32) &&& 31))))] (.int 0) := B1
  exact w.retV d20_53 rfl ⟨rfl, (((Keep.refl _ _).wr W0 (Or.inl (List.mem_singleton.mpr rfl))).wr W1 (Or.inl (List.mem_singleton.mpr rfl))), C1⟩

set_option maxRecDepth 65536 in
set_option maxHeartbeats 40000000 in
theorem rmPu_2_1 (l : Launch) (Z : State) (a0 : Array Value) (hw : ∀ d ∈ tables_1, d.before a0 Z = true) (hr : rest_1_c.value a0 Z none Z [] = some true) (d : Addr) (kd : ClassId) (b0 b1 : Int32) (c : Int32) (h0 : Heap) (hE : Ext Z.heap h0) (ge_d : Z.heap.size ≤ d) (A : Arv Z h0 d kd .byte (4 : Int32) [(.int b0), (.int b1)] (.int 0)) :
    Ct true l Z consts_1 (⟨"java/lang/StringUTF16", "putChar", "([BII)V"⟩ : MethodName) jdk_52_method_4_code 3 none [] ({ frames := 0, cells := 0, slots := 0, locals := 0 } : Room) [d] #[(.ref d), (.int (1 : Int32)), (.int c)] h0 (fun r u => r = none ∧ Keep h0 u [d] ∧ Arv Z u d kd .byte (4 : Int32) [(.int b0), (.int b1), (.int (nar .byte (c >>> ((0 : Int32) &&& 31)))), (.int (nar .byte (c >>> ((8 : Int32) &&& 31))))] (.int 0)) := by
  refine Ct.intro pn_java_lang_StringUTF16 hE (fun m => ef20_rii m d _ _) (onesf ge_d A.lt) ⟨a0, own_EW hw⟩ ?_
  intro x T w
  refine w.getS d20_0 (tw hw 90 rfl) (own_ad hr) ?_
  intro T w
  refine w.ifNe d20_3 d20_3t (fun _ => ?_) (fun q => absurd q (by decide))
  refine w.iloadN d20_28 rfl ?_
  refine w.iconst (1 : Int32) d20_29 rfl ?_
  refine w.ishl d20_30 ?_
  refine w.istoreN #[.val (.ref d), .val (.int ((1 : Int32) <<< ((1 : Int32) &&& 31))), .val (.int c)] d20_31 rfl ?_
  refine w.aloadN d20_32 rfl rfl ?_
  refine w.iloadN d20_33 rfl ?_
  refine w.iinc (1 : Int32) #[.val (.ref d), .val (.int (((1 : Int32) <<< ((1 : Int32) &&& 31)) + (1 : Int32))), .val (.int c)] d20_34 rfl rfl rfl ?_
  refine w.iloadN d20_37 rfl ?_
  refine w.getS d20_38 (tw hw 91 rfl) (own_hi hr) ?_
  intro T w
  refine w.ishr d20_41 ?_
  refine w.i2b d20_42 ?_
  refine w.stB 2 [(.int b0), (.int b1), (.int 0)] d20_43 A ⟨by decide, by decide⟩ (by decide) (pad_rep [(.int b0), (.int b1)] (.int 0) 1) (by simp) (fnb _) (List.mem_of_getElem? (i := 0) rfl) ?_
  intro T h1 w W0 B0
  rw [nbb] at B0 W0
  have C0 : Arv Z h1 d kd .byte (4 : Int32) [(.int b0), (.int b1), (.int (nar .byte (c >>> ((0 : Int32) &&& 31))))] (.int 0) := B0
  refine w.aloadN d20_44 rfl rfl ?_
  refine w.iloadN d20_45 rfl ?_
  refine w.iloadN d20_46 rfl ?_
  refine w.getS d20_47 (tw hw 92 rfl) (own_lo hr) ?_
  intro T w
  refine w.ishr d20_50 ?_
  refine w.i2b d20_51 ?_
  refine w.stB 3 [(.int b0), (.int b1), (.int (nar .byte (c >>> ((0 : Int32) &&& 31)))), (.int 0)] d20_52 C0 ⟨by decide, by decide⟩ (by decide) (pad_rep [(.int b0), (.int b1), (.int (nar .byte (c >>> ((0 : Int32) &&& 31))))] (.int 0) 1) (by simp) (fnb _) (List.mem_of_getElem? (i := 0) rfl) ?_
  intro T h2 w W1 B1
  rw [nbb] at B1 W1
  have C1 : Arv Z h2 d kd .byte (4 : Int32) [(.int b0), (.int b1), (.int (nar .byte (c >>> ((0 : Int32) &&& 31)))), (.int (nar .byte (c >>> ((8 : Int32) &&& 31))))] (.int 0) := B1
  exact w.retV d20_53 rfl ⟨rfl, (((Keep.refl _ _).wr W0 (Or.inl (List.mem_singleton.mpr rfl))).wr W1 (Or.inl (List.mem_singleton.mpr rfl))), C1⟩

set_option maxRecDepth 65536 in
set_option maxHeartbeats 40000000 in
theorem rmTo_2 (l : Launch) (Z : State) (a0 : Array Value) (hw : ∀ d ∈ tables_1, d.before a0 Z = true) (hr : rest_1_c.value a0 Z none Z [] = some true) (b : Addr) (kb : ClassId) (c0 c1 : Int32) (h0 : Heap) (hE : Ext Z.heap h0) (Ab : Arv Z h0 b kb .char (2 : Int32) [(.int c0), (.int c1)] (.int 0)) :
    Ct true l Z consts_1 (⟨"java/lang/StringUTF16", "toBytes", "([CII)[B"⟩ : MethodName) jdk_52_method_14_code 5 (some (.array .byte)) [] ({ frames := 2, cells := 1, slots := 4, locals := 24 } : Room) [] #[(.ref b), (.int (0 : Int32)), (.int (2 : Int32))] h0 (fun r u => ∃ d kd, r = some (.ref d) ∧ Ext h0 u ∧ h0.size ≤ d ∧ Arv Z u d kd .byte (4 : Int32) [(.int (nar .byte (c0 >>> ((0 : Int32) &&& 31)))), (.int (nar .byte (c0 >>> ((8 : Int32) &&& 31)))), (.int (nar .byte (c1 >>> ((0 : Int32) &&& 31)))), (.int (nar .byte (c1 >>> ((8 : Int32) &&& 31))))] (.int 0)) := by
  refine Ct.intro pn_java_lang_StringUTF16 hE (fun m => ef17_rii m b _ _) nosf ⟨a0, own_EW hw⟩ ?_
  intro x T w
  refine w.iloadN d17_0 rfl ?_
  refine w.callS (argsL := [(.int (2 : Int32))]) (rest := []) 0 d17_1 (tw hw 80 rfl) (tw hw 81 rfl) (tw hw 44 rfl) (tw hw 82 rfl) (by decide) (rmNF_2 l Z a0 hw h0 w.old) (lenOf pd_16 rfl) rfl rfl (Nat.le_refl _) ⟨by decide, by decide, by decide, by decide⟩ all0 ?_
  intro T h1 r w _ hQ
  obtain ⟨d, kd, rfl, E1, gd, A0⟩ := hQ
  have ge_d : Z.heap.size ≤ d := Nat.le_trans hE.1 gd
  have w := w.adopt ge_d A0.lt (fun vm hZ => own_safe hw hZ A0 (by decide))
  have nbd : b ≠ d := Nat.ne_of_lt (Nat.lt_of_lt_of_le Ab.lt gd)
  have Ab := Ab.ext E1
  show Go x _ Z _ _ _ T 4 #[.val (.ref b), .val (.int (0 : Int32)), .val (.int (2 : Int32)), .unset, .unset] [(.ref d)]
  refine w.astoreN #[.val (.ref b), .val (.int (0 : Int32)), .val (.int (2 : Int32)), .val (.ref d), .unset] d17_4 rfl rfl ?_
  refine w.iconst (0 : Int32) d17_5 rfl ?_
  refine w.istore #[.val (.ref b), .val (.int (0 : Int32)), .val (.int (2 : Int32)), .val (.ref d), .val (.int (0 : Int32))] d17_6 rfl ?_
  refine w.iload d17_8 rfl ?_
  refine w.iloadN d17_10 rfl ?_
  refine w.icmpGe d17_11 d17_11t (fun q => absurd (by decide) q) (fun _ => ?_)
  refine w.aloadN d17_14 rfl rfl ?_
  refine w.iload d17_15 rfl ?_
  refine w.aloadN d17_17 rfl rfl ?_
  refine w.iloadN d17_18 rfl ?_
  obtain ⟨cl0, Ar0, -, S0, -, H0, -⟩ := id Ab
  refine w.caload d17_19 Ar0 (inb_of S0 (by decide)) (H0.at (inb_of S0 (by decide)) rfl) ?_
  refine w.callS (argsL := [(.ref d), (.int (0 : Int32)), (.int c0)]) (rest := []) 0 d17_20 (tw hw 87 rfl) (tw hw 88 rfl) (tw hw 44 rfl) (tw hw 89 rfl) (by decide) (rmPu_2_0 l Z a0 hw hr d kd  c0 h1 w.old ge_d A0) (lenOf pd_17 rfl) rfl rfl (Nat.le_refl _) ⟨by decide, by decide, by decide, by decide⟩ (allS (List.mem_of_getElem? (i := 0) rfl) all0) ?_
  intro T h2 r w _ hQ
  obtain ⟨rfl, K0, A1⟩ := hQ
  have Ab := Ab.keep K0 (ninS nbd nin0)
  show Go x _ Z _ _ _ T 23 #[.val (.ref b), .val (.int (0 : Int32)), .val (.int (2 : Int32)), .val (.ref d), .val (.int (0 : Int32))] []
  refine w.iinc (1 : Int32) #[.val (.ref b), .val (.int (1 : Int32)), .val (.int (2 : Int32)), .val (.ref d), .val (.int (0 : Int32))] d17_23 rfl rfl rfl ?_
  refine w.iinc (1 : Int32) #[.val (.ref b), .val (.int (1 : Int32)), .val (.int (2 : Int32)), .val (.ref d), .val (.int (1 : Int32))] d17_26 rfl rfl rfl ?_
  refine w.goto d17_29 d17_29t ?_
  refine w.iload d17_8 rfl ?_
  refine w.iloadN d17_10 rfl ?_
  refine w.icmpGe d17_11 d17_11t (fun q => absurd (by decide) q) (fun _ => ?_)
  refine w.aloadN d17_14 rfl rfl ?_
  refine w.iload d17_15 rfl ?_
  refine w.aloadN d17_17 rfl rfl ?_
  refine w.iloadN d17_18 rfl ?_
  obtain ⟨cl1, Ar1, -, S1, -, H1, -⟩ := id Ab
  refine w.caload d17_19 Ar1 (inb_of S1 (by decide)) (H1.at (inb_of S1 (by decide)) rfl) ?_
  refine w.callS (argsL := [(.ref d), (.int (1 : Int32)), (.int c1)]) (rest := []) 0 d17_20 (tw hw 87 rfl) (tw hw 88 rfl) (tw hw 44 rfl) (tw hw 89 rfl) (by decide) (rmPu_2_1 l Z a0 hw hr d kd (nar .byte (c0 >>> ((0 : Int32) &&& 31))) (nar .byte (c0 >>> ((8 : Int32) &&& 31))) c1 h2 w.old ge_d A1) (lenOf pd_17 rfl) rfl rfl (Nat.le_refl _) ⟨by decide, by decide, by decide, by decide⟩ (allS (List.mem_of_getElem? (i := 0) rfl) all0) ?_
  intro T h3 r w _ hQ
  obtain ⟨rfl, K1, A2⟩ := hQ
  have Ab := Ab.keep K1 (ninS nbd nin0)
  show Go x _ Z _ _ _ T 23 #[.val (.ref b), .val (.int (1 : Int32)), .val (.int (2 : Int32)), .val (.ref d), .val (.int (1 : Int32))] []
  refine w.iinc (1 : Int32) #[.val (.ref b), .val (.int (2 : Int32)), .val (.int (2 : Int32)), .val (.ref d), .val (.int (1 : Int32))] d17_23 rfl rfl rfl ?_
  refine w.iinc (1 : Int32) #[.val (.ref b), .val (.int (2 : Int32)), .val (.int (2 : Int32)), .val (.ref d), .val (.int (2 : Int32))] d17_26 rfl rfl rfl ?_
  refine w.goto d17_29 d17_29t ?_
  refine w.iload d17_8 rfl ?_
  refine w.iloadN d17_10 rfl ?_
  refine w.icmpGe d17_11 d17_11t (fun _ => ?_) (fun q => absurd q (by decide))
  refine w.aloadN d17_32 rfl rfl ?_
  exact w.retA d17_33 rfl rfl rfl rfl ⟨d, kd, rfl, keep_to E1 (K0.trans K1 (allS (Or.inl (List.mem_singleton.mpr rfl)) all0)) (allS gd all0), gd, A2⟩

set_option maxRecDepth 65536 in
set_option maxHeartbeats 40000000 in
theorem rmC5x_2_0 (l : Launch) (Z : State) (a0 : Array Value) (hw : ∀ d ∈ tables_1, d.before a0 Z = true) (b d : Addr) (kb kd : ClassId) (c0 c1 : Int32) (h0 : Heap) (hE : Ext Z.heap h0) (ge_d : Z.heap.size ≤ d) (nbd : b ≠ d) (Ab : Arv Z h0 b kb .char (2 : Int32) [(.int c0), (.int c1)] (.int 0)) (Ad : Arv Z h0 d kd .byte (2 : Int32) [] (.int 0))  (gp : 255 < c0) :
    Ct true l Z consts_1 (⟨"java/lang/StringUTF16", "compress", "([CI[BII)I"⟩ : MethodName) jdk_52_method_21_code 7 (some .int) [] ({ frames := 0, cells := 0, slots := 0, locals := 0 } : Room) [d] #[(.ref b), (.int (0 : Int32)), (.ref d), (.int (0 : Int32)), (.int (2 : Int32))] h0 (fun r u => r = some (.int (0 : Int32)) ∧ Keep h0 u [d]) := by
  refine Ct.intro pn_java_lang_StringUTF16 hE (fun m => ef9_ririi m b _ d _ _) (onesf ge_d Ad.lt) ⟨a0, own_EW hw⟩ ?_
  intro x T w
  refine w.iconst (0 : Int32) d9_0 rfl ?_
  refine w.istore #[.val (.ref b), .val (.int (0 : Int32)), .val (.ref d), .val (.int (0 : Int32)), .val (.int (2 : Int32)), .val (.int (0 : Int32)), .unset] d9_1 rfl ?_
  refine w.iload d9_3 rfl ?_
  refine w.iload d9_5 rfl ?_
  refine w.icmpGe d9_7 d9_7t (fun q => absurd (by decide) q) (fun _ => ?_)
  refine w.aloadN d9_10 rfl rfl ?_
  refine w.iloadN d9_11 rfl ?_
  obtain ⟨cl0, Ar0, -, S0, -, H0, -⟩ := id Ab
  refine w.caload d9_12 Ar0 (inb_of S0 (by decide)) (H0.at (inb_of S0 (by decide)) rfl) ?_
  refine w.istore #[.val (.ref b), .val (.int (0 : Int32)), .val (.ref d), .val (.int (0 : Int32)), .val (.int (2 : Int32)), .val (.int (0 : Int32)), .val (.int c0)] d9_13 rfl ?_
  refine w.iload d9_15 rfl ?_
  refine w.sipush (255 : Int32) d9_17 rfl ?_
  refine w.icmpLe d9_20 d9_20t (fun q => absurd gp q) (fun _ => ?_)
  refine w.iload d9_23 rfl ?_
  exact w.retI d9_25 rfl ⟨rfl, (Keep.refl _ _)⟩

set_option maxRecDepth 65536 in
set_option maxHeartbeats 40000000 in
theorem rmGe_2_0 (l : Launch) (Z : State) (a0 : Array Value) (hw : ∀ d ∈ tables_1, d.before a0 Z = true) (hr : rest_1_c.value a0 Z none Z [] = some true) (t : Addr) (kb : ClassId) (c0 c1 : Int32) (h0 : Heap) (hE : Ext Z.heap h0) (A : Arv Z h0 t kb .byte (4 : Int32) [(.int (nar .byte (c0 >>> ((0 : Int32) &&& 31)))), (.int (nar .byte (c0 >>> ((8 : Int32) &&& 31)))), (.int (nar .byte (c1 >>> ((0 : Int32) &&& 31)))), (.int (nar .byte (c1 >>> ((8 : Int32) &&& 31))))] (.int 0)) (z : 0 ≤ c0.toInt) (v : c0.toInt < 65536) :
    Ct true l Z consts_1 (⟨"java/lang/StringUTF16", "getChar", "([BI)C"⟩ : MethodName) jdk_52_method_5_code 2 (some .char) [] ({ frames := 0, cells := 0, slots := 0, locals := 0 } : Room) [] #[(.ref t), (.int (0 : Int32))] h0 (fun r u => r = some (.int c0) ∧ h0 = u) := by
  refine Ct.intro pn_java_lang_StringUTF16 hE (fun m => ef21_ri m t _) nosf ⟨a0, own_EW hw⟩ ?_
  intro x T w
  obtain ⟨cl, Ar, -, S, M, H, -⟩ := id A
  refine w.getS d21_0 (tw hw 90 rfl) (own_ad hr) ?_
  intro T w
  refine w.ifNe d21_3 d21_3t (fun _ => ?_) (fun q => absurd q (by decide))
  refine w.iloadN d21_28 rfl ?_
  refine w.iconst (1 : Int32) d21_29 rfl ?_
  refine w.ishl d21_30 ?_
  refine w.istoreN #[.val (.ref t), .val (.int ((0 : Int32) <<< ((1 : Int32) &&& 31)))] d21_31 rfl ?_
  refine w.aloadN d21_32 rfl rfl ?_
  refine w.iloadN d21_33 rfl ?_
  refine w.iinc (1 : Int32) #[.val (.ref t), .val (.int (((0 : Int32) <<< ((1 : Int32) &&& 31)) + (1 : Int32)))] d21_34 rfl rfl rfl ?_
  refine w.baload (v := .int (nar .byte (c0 >>> ((0 : Int32) &&& 31)))) d21_37 Ar (inb_of S (by decide)) (H.at (inb_of S (by decide)) (by rw [show (((0 : Int32) <<< ((1 : Int32) &&& 31))).toNatClampNeg = 0 by decide]; rfl)) ?_
  refine w.sipush (255 : Int32) d21_38 rfl ?_
  refine w.iand d21_41 ?_
  refine w.getS d21_42 (tw hw 91 rfl) (own_hi hr) ?_
  intro T w
  refine w.ishl d21_45 ?_
  refine w.aloadN d21_46 rfl rfl ?_
  refine w.iloadN d21_47 rfl ?_
  refine w.baload (v := .int (nar .byte (c0 >>> ((8 : Int32) &&& 31)))) d21_48 Ar (inb_of S (by decide)) (H.at (inb_of S (by decide)) (by rw [show ((((0 : Int32) <<< ((1 : Int32) &&& 31)) + (1 : Int32))).toNatClampNeg = 1 by decide]; rfl)) ?_
  refine w.sipush (255 : Int32) d21_49 rfl ?_
  refine w.iand d21_52 ?_
  refine w.getS d21_53 (tw hw 92 rfl) (own_lo hr) ?_
  intro T w
  refine w.ishl d21_56 ?_
  refine w.ior d21_57 ?_
  refine w.i2c d21_58 ?_
  exact w.retN d21_59 rfl (by simp) ⟨by rw [ncc, own_gc z v], rfl⟩

set_option maxRecDepth 65536 in
set_option maxHeartbeats 40000000 in
theorem rmC3x_2_0 (l : Launch) (Z : State) (a0 : Array Value) (hw : ∀ d ∈ tables_1, d.before a0 Z = true) (hr : rest_1_c.value a0 Z none Z [] = some true) (b : Addr) (kb : ClassId) (c0 c1 : Int32) (h0 : Heap) (hE : Ext Z.heap h0) (Ab : Arv Z h0 b kb .char (2 : Int32) [(.int c0), (.int c1)] (.int 0)) (z0 : 0 ≤ c0.toInt) (v0 : c0.toInt < 65536) (z1 : 0 ≤ c1.toInt) (v1 : c1.toInt < 65536)  (gp : 255 < c0) :
    Ct true l Z consts_1 (⟨"java/lang/StringUTF16", "compress", "([CII)[B"⟩ : MethodName) jdk_52_method_16_code 6 (some (.array .byte)) [] ({ frames := 3, cells := 2, slots := 6, locals := 40 } : Room) [] #[(.ref b), (.int (0 : Int32)), (.int (2 : Int32))] h0 (fun r u => ∃ d kd, r = some (.ref d) ∧ Ext h0 u ∧ h0.size ≤ d ∧ Arv Z u d kd .byte (4 : Int32) [(.int (nar .byte (c0 >>> ((0 : Int32) &&& 31)))), (.int (nar .byte (c0 >>> ((8 : Int32) &&& 31)))), (.int (nar .byte (c1 >>> ((0 : Int32) &&& 31)))), (.int (nar .byte (c1 >>> ((8 : Int32) &&& 31))))] (.int 0)) := by
  refine Ct.intro pn_java_lang_StringUTF16 hE (fun m => ef8_rii m b _ _) nosf ⟨a0, own_EW hw⟩ ?_
  intro x T w
  refine w.iloadN d8_0 rfl ?_
  have sz0 := w.size
  refine w.newP 2 "[B" d8_1 (tw hw 20 rfl) (by decide) (by decide) (by decide) (by decide) ⟨by decide, by decide⟩ ?_
  intro d T h1 kd g_d w E_d A_d X_d
  have ge_d : Z.heap.size ≤ d := by rw [g_d]; exact sz0
  have nbd : b ≠ d := Nat.ne_of_lt (Nat.lt_of_lt_of_eq Ab.lt g_d.symm)
  refine w.astoreN #[.val (.ref b), .val (.int (0 : Int32)), .val (.int (2 : Int32)), .val (.ref d), .unset, .unset] d8_3 rfl rfl ?_
  refine w.aloadN d8_4 rfl rfl ?_
  refine w.iloadN d8_5 rfl ?_
  refine w.aloadN d8_6 rfl rfl ?_
  refine w.iconst (0 : Int32) d8_7 rfl ?_
  refine w.iloadN d8_8 rfl ?_
  refine w.callS (argsL := [(.ref b), (.int (0 : Int32)), (.ref d), (.int (0 : Int32)), (.int (2 : Int32))]) (rest := []) 0 d8_9 (tw hw 46 rfl) (tw hw 47 rfl) (tw hw 44 rfl) (tw hw 48 rfl) (by decide) (rmC5x_2_0 l Z a0 hw b d kb kd c0 c1 h1 w.old ge_d nbd (Ab.ext E_d) A_d  gp) (lenOf pd_12 rfl) rfl rfl (Nat.le_refl _) ⟨by decide, by decide, by decide, by decide⟩ (allS (List.mem_of_getElem? (i := 0) rfl) all0) ?_
  intro T h2 r w _ hQ
  obtain ⟨rfl, K1⟩ := hQ
  have E2 := keep_to E_d K1 (allS (Nat.le_of_eq g_d.symm) all0)
  have Ab := Ab.ext E2
  show Go x _ Z _ _ _ T 12 #[.val (.ref b), .val (.int (0 : Int32)), .val (.int (2 : Int32)), .val (.ref d), .unset, .unset] [(.int (0 : Int32))]
  refine w.istore #[.val (.ref b), .val (.int (0 : Int32)), .val (.int (2 : Int32)), .val (.ref d), .val (.int (0 : Int32)), .unset] d8_12 rfl ?_
  refine w.iload d8_14 rfl ?_
  refine w.iloadN d8_16 rfl ?_
  refine w.icmpEq d8_17 d8_17t (fun q => absurd q (by decide)) (fun _ => ?_)
  refine w.aloadN d8_20 rfl rfl ?_
  refine w.iloadN d8_21 rfl ?_
  refine w.iloadN d8_22 rfl ?_
  refine w.callS (argsL := [(.ref b), (.int (0 : Int32)), (.int (2 : Int32))]) (rest := []) 0 d8_23 (tw hw 77 rfl) (tw hw 78 rfl) (tw hw 44 rfl) (tw hw 79 rfl) (by decide) (rmTo_2 l Z a0 hw hr b kb c0 c1 h2 w.old Ab) (lenOf pd_13 rfl) rfl rfl (Nat.le_refl _) ⟨by decide, by decide, by decide, by decide⟩ all0 ?_
  intro T h3 r w _ hQ
  obtain ⟨e, ke, rfl, E3, ge, Ae⟩ := hQ
  show Go x _ Z _ _ _ T 26 #[.val (.ref b), .val (.int (0 : Int32)), .val (.int (2 : Int32)), .val (.ref d), .val (.int (0 : Int32)), .unset] [(.ref e)]
  refine w.astore #[.val (.ref b), .val (.int (0 : Int32)), .val (.int (2 : Int32)), .val (.ref d), .val (.int (0 : Int32)), .val (.ref e)] d8_26 rfl rfl ?_
  refine w.aload d8_28 rfl rfl ?_
  refine w.iload d8_30 rfl ?_
  refine w.callS (argsL := [(.ref e), (.int (0 : Int32))]) (rest := []) 0 d8_32 (tw hw 93 rfl) (tw hw 94 rfl) (tw hw 44 rfl) (tw hw 95 rfl) (by decide) (rmGe_2_0 l Z a0 hw hr e ke c0 c1 h3 w.old Ae z0 v0) (lenOf pd_5 rfl) rfl rfl (Nat.le_refl _) ⟨by decide, by decide, by decide, by decide⟩ all0 ?_
  intro T h4 r w _ hQ
  obtain ⟨rfl, rfl⟩ := hQ
  show Go x _ Z _ _ _ T 35 #[.val (.ref b), .val (.int (0 : Int32)), .val (.int (2 : Int32)), .val (.ref d), .val (.int (0 : Int32)), .val (.ref e)] [(.int c0)]
  refine w.sipush (255 : Int32) d8_35 rfl ?_
  refine w.icmpGt d8_38 d8_38t (fun _ => ?_) (fun q => absurd gp q)
  refine w.aload d8_54 rfl rfl ?_
  exact w.retA d8_56 rfl rfl rfl rfl ⟨e, ke, rfl, ext_trans E2 E3, Nat.le_trans E2.1 ge, Ae⟩

set_option maxRecDepth 65536 in
set_option maxHeartbeats 40000000 in
theorem rmC5x_2_1 (l : Launch) (Z : State) (a0 : Array Value) (hw : ∀ d ∈ tables_1, d.before a0 Z = true) (b d : Addr) (kb kd : ClassId) (c0 c1 : Int32) (h0 : Heap) (hE : Ext Z.heap h0) (ge_d : Z.heap.size ≤ d) (nbd : b ≠ d) (Ab : Arv Z h0 b kb .char (2 : Int32) [(.int c0), (.int c1)] (.int 0)) (Ad : Arv Z h0 d kd .byte (2 : Int32) [] (.int 0)) (u0 : ¬ 255 < c0) (gp : 255 < c1) :
    Ct true l Z consts_1 (⟨"java/lang/StringUTF16", "compress", "([CI[BII)I"⟩ : MethodName) jdk_52_method_21_code 7 (some .int) [] ({ frames := 0, cells := 0, slots := 0, locals := 0 } : Room) [d] #[(.ref b), (.int (0 : Int32)), (.ref d), (.int (0 : Int32)), (.int (2 : Int32))] h0 (fun r u => r = some (.int (1 : Int32)) ∧ Keep h0 u [d]) := by
  refine Ct.intro pn_java_lang_StringUTF16 hE (fun m => ef9_ririi m b _ d _ _) (onesf ge_d Ad.lt) ⟨a0, own_EW hw⟩ ?_
  intro x T w
  refine w.iconst (0 : Int32) d9_0 rfl ?_
  refine w.istore #[.val (.ref b), .val (.int (0 : Int32)), .val (.ref d), .val (.int (0 : Int32)), .val (.int (2 : Int32)), .val (.int (0 : Int32)), .unset] d9_1 rfl ?_
  refine w.iload d9_3 rfl ?_
  refine w.iload d9_5 rfl ?_
  refine w.icmpGe d9_7 d9_7t (fun q => absurd (by decide) q) (fun _ => ?_)
  refine w.aloadN d9_10 rfl rfl ?_
  refine w.iloadN d9_11 rfl ?_
  obtain ⟨cl0, Ar0, -, S0, -, H0, -⟩ := id Ab
  refine w.caload d9_12 Ar0 (inb_of S0 (by decide)) (H0.at (inb_of S0 (by decide)) rfl) ?_
  refine w.istore #[.val (.ref b), .val (.int (0 : Int32)), .val (.ref d), .val (.int (0 : Int32)), .val (.int (2 : Int32)), .val (.int (0 : Int32)), .val (.int c0)] d9_13 rfl ?_
  refine w.iload d9_15 rfl ?_
  refine w.sipush (255 : Int32) d9_17 rfl ?_
  refine w.icmpLe d9_20 d9_20t (fun _ => ?_) (fun q => absurd q u0)
  refine w.aloadN d9_26 rfl rfl ?_
  refine w.iloadN d9_27 rfl ?_
  refine w.iload d9_28 rfl ?_
  refine w.i2b d9_30 ?_
  refine w.stB 0 [(.int 0)] d9_31 Ad ⟨by decide, by decide⟩ (by decide) (pad_rep [] (.int 0) 1) (by simp) (fnb _) (List.mem_of_getElem? (i := 0) rfl) ?_
  intro T h1 w W0 A0
  rw [nbb] at A0 W0
  have Ad0 : Arv Z h1 d kd .byte (2 : Int32) [(.int (nar .byte c0))] (.int 0) := A0
  have Ab0 := Ab.other W0 nbd
  refine w.iinc (1 : Int32) #[.val (.ref b), .val (.int (1 : Int32)), .val (.ref d), .val (.int (0 : Int32)), .val (.int (2 : Int32)), .val (.int (0 : Int32)), .val (.int c0)] d9_32 rfl rfl rfl ?_
  refine w.iinc (1 : Int32) #[.val (.ref b), .val (.int (1 : Int32)), .val (.ref d), .val (.int (1 : Int32)), .val (.int (2 : Int32)), .val (.int (0 : Int32)), .val (.int c0)] d9_35 rfl rfl rfl ?_
  refine w.iinc (1 : Int32) #[.val (.ref b), .val (.int (1 : Int32)), .val (.ref d), .val (.int (1 : Int32)), .val (.int (2 : Int32)), .val (.int (1 : Int32)), .val (.int c0)] d9_38 rfl rfl rfl ?_
  refine w.goto d9_41 d9_41t ?_
  refine w.iload d9_3 rfl ?_
  refine w.iload d9_5 rfl ?_
  refine w.icmpGe d9_7 d9_7t (fun q => absurd (by decide) q) (fun _ => ?_)
  refine w.aloadN d9_10 rfl rfl ?_
  refine w.iloadN d9_11 rfl ?_
  obtain ⟨cl1, Ar1, -, S1, -, H1, -⟩ := id Ab0
  refine w.caload d9_12 Ar1 (inb_of S1 (by decide)) (H1.at (inb_of S1 (by decide)) rfl) ?_
  refine w.istore #[.val (.ref b), .val (.int (1 : Int32)), .val (.ref d), .val (.int (1 : Int32)), .val (.int (2 : Int32)), .val (.int (1 : Int32)), .val (.int c1)] d9_13 rfl ?_
  refine w.iload d9_15 rfl ?_
  refine w.sipush (255 : Int32) d9_17 rfl ?_
  refine w.icmpLe d9_20 d9_20t (fun q => absurd gp q) (fun _ => ?_)
  refine w.iload d9_23 rfl ?_
  exact w.retI d9_25 rfl ⟨rfl, ((Keep.refl _ _).wr W0 (Or.inl (List.mem_singleton.mpr rfl)))⟩

set_option maxRecDepth 65536 in
set_option maxHeartbeats 40000000 in
theorem rmGe_2_1 (l : Launch) (Z : State) (a0 : Array Value) (hw : ∀ d ∈ tables_1, d.before a0 Z = true) (hr : rest_1_c.value a0 Z none Z [] = some true) (t : Addr) (kb : ClassId) (c0 c1 : Int32) (h0 : Heap) (hE : Ext Z.heap h0) (A : Arv Z h0 t kb .byte (4 : Int32) [(.int (nar .byte (c0 >>> ((0 : Int32) &&& 31)))), (.int (nar .byte (c0 >>> ((8 : Int32) &&& 31)))), (.int (nar .byte (c1 >>> ((0 : Int32) &&& 31)))), (.int (nar .byte (c1 >>> ((8 : Int32) &&& 31))))] (.int 0)) (z : 0 ≤ c1.toInt) (v : c1.toInt < 65536) :
    Ct true l Z consts_1 (⟨"java/lang/StringUTF16", "getChar", "([BI)C"⟩ : MethodName) jdk_52_method_5_code 2 (some .char) [] ({ frames := 0, cells := 0, slots := 0, locals := 0 } : Room) [] #[(.ref t), (.int (1 : Int32))] h0 (fun r u => r = some (.int c1) ∧ h0 = u) := by
  refine Ct.intro pn_java_lang_StringUTF16 hE (fun m => ef21_ri m t _) nosf ⟨a0, own_EW hw⟩ ?_
  intro x T w
  obtain ⟨cl, Ar, -, S, M, H, -⟩ := id A
  refine w.getS d21_0 (tw hw 90 rfl) (own_ad hr) ?_
  intro T w
  refine w.ifNe d21_3 d21_3t (fun _ => ?_) (fun q => absurd q (by decide))
  refine w.iloadN d21_28 rfl ?_
  refine w.iconst (1 : Int32) d21_29 rfl ?_
  refine w.ishl d21_30 ?_
  refine w.istoreN #[.val (.ref t), .val (.int ((1 : Int32) <<< ((1 : Int32) &&& 31)))] d21_31 rfl ?_
  refine w.aloadN d21_32 rfl rfl ?_
  refine w.iloadN d21_33 rfl ?_
  refine w.iinc (1 : Int32) #[.val (.ref t), .val (.int (((1 : Int32) <<< ((1 : Int32) &&& 31)) + (1 : Int32)))] d21_34 rfl rfl rfl ?_
  refine w.baload (v := .int (nar .byte (c1 >>> ((0 : Int32) &&& 31)))) d21_37 Ar (inb_of S (by decide)) (H.at (inb_of S (by decide)) (by rw [show (((1 : Int32) <<< ((1 : Int32) &&& 31))).toNatClampNeg = 2 by decide]; rfl)) ?_
  refine w.sipush (255 : Int32) d21_38 rfl ?_
  refine w.iand d21_41 ?_
  refine w.getS d21_42 (tw hw 91 rfl) (own_hi hr) ?_
  intro T w
  refine w.ishl d21_45 ?_
  refine w.aloadN d21_46 rfl rfl ?_
  refine w.iloadN d21_47 rfl ?_
  refine w.baload (v := .int (nar .byte (c1 >>> ((8 : Int32) &&& 31)))) d21_48 Ar (inb_of S (by decide)) (H.at (inb_of S (by decide)) (by rw [show ((((1 : Int32) <<< ((1 : Int32) &&& 31)) + (1 : Int32))).toNatClampNeg = 3 by decide]; rfl)) ?_
  refine w.sipush (255 : Int32) d21_49 rfl ?_
  refine w.iand d21_52 ?_
  refine w.getS d21_53 (tw hw 92 rfl) (own_lo hr) ?_
  intro T w
  refine w.ishl d21_56 ?_
  refine w.ior d21_57 ?_
  refine w.i2c d21_58 ?_
  exact w.retN d21_59 rfl (by simp) ⟨by rw [ncc, own_gc z v], rfl⟩

set_option maxRecDepth 65536 in
set_option maxHeartbeats 40000000 in
theorem rmC3x_2_1 (l : Launch) (Z : State) (a0 : Array Value) (hw : ∀ d ∈ tables_1, d.before a0 Z = true) (hr : rest_1_c.value a0 Z none Z [] = some true) (b : Addr) (kb : ClassId) (c0 c1 : Int32) (h0 : Heap) (hE : Ext Z.heap h0) (Ab : Arv Z h0 b kb .char (2 : Int32) [(.int c0), (.int c1)] (.int 0)) (z0 : 0 ≤ c0.toInt) (v0 : c0.toInt < 65536) (z1 : 0 ≤ c1.toInt) (v1 : c1.toInt < 65536) (u0 : ¬ 255 < c0) (gp : 255 < c1) :
    Ct true l Z consts_1 (⟨"java/lang/StringUTF16", "compress", "([CII)[B"⟩ : MethodName) jdk_52_method_16_code 6 (some (.array .byte)) [] ({ frames := 3, cells := 2, slots := 6, locals := 40 } : Room) [] #[(.ref b), (.int (0 : Int32)), (.int (2 : Int32))] h0 (fun r u => ∃ d kd, r = some (.ref d) ∧ Ext h0 u ∧ h0.size ≤ d ∧ Arv Z u d kd .byte (4 : Int32) [(.int (nar .byte (c0 >>> ((0 : Int32) &&& 31)))), (.int (nar .byte (c0 >>> ((8 : Int32) &&& 31)))), (.int (nar .byte (c1 >>> ((0 : Int32) &&& 31)))), (.int (nar .byte (c1 >>> ((8 : Int32) &&& 31))))] (.int 0)) := by
  refine Ct.intro pn_java_lang_StringUTF16 hE (fun m => ef8_rii m b _ _) nosf ⟨a0, own_EW hw⟩ ?_
  intro x T w
  refine w.iloadN d8_0 rfl ?_
  have sz0 := w.size
  refine w.newP 2 "[B" d8_1 (tw hw 20 rfl) (by decide) (by decide) (by decide) (by decide) ⟨by decide, by decide⟩ ?_
  intro d T h1 kd g_d w E_d A_d X_d
  have ge_d : Z.heap.size ≤ d := by rw [g_d]; exact sz0
  have nbd : b ≠ d := Nat.ne_of_lt (Nat.lt_of_lt_of_eq Ab.lt g_d.symm)
  refine w.astoreN #[.val (.ref b), .val (.int (0 : Int32)), .val (.int (2 : Int32)), .val (.ref d), .unset, .unset] d8_3 rfl rfl ?_
  refine w.aloadN d8_4 rfl rfl ?_
  refine w.iloadN d8_5 rfl ?_
  refine w.aloadN d8_6 rfl rfl ?_
  refine w.iconst (0 : Int32) d8_7 rfl ?_
  refine w.iloadN d8_8 rfl ?_
  refine w.callS (argsL := [(.ref b), (.int (0 : Int32)), (.ref d), (.int (0 : Int32)), (.int (2 : Int32))]) (rest := []) 0 d8_9 (tw hw 46 rfl) (tw hw 47 rfl) (tw hw 44 rfl) (tw hw 48 rfl) (by decide) (rmC5x_2_1 l Z a0 hw b d kb kd c0 c1 h1 w.old ge_d nbd (Ab.ext E_d) A_d u0 gp) (lenOf pd_12 rfl) rfl rfl (Nat.le_refl _) ⟨by decide, by decide, by decide, by decide⟩ (allS (List.mem_of_getElem? (i := 0) rfl) all0) ?_
  intro T h2 r w _ hQ
  obtain ⟨rfl, K1⟩ := hQ
  have E2 := keep_to E_d K1 (allS (Nat.le_of_eq g_d.symm) all0)
  have Ab := Ab.ext E2
  show Go x _ Z _ _ _ T 12 #[.val (.ref b), .val (.int (0 : Int32)), .val (.int (2 : Int32)), .val (.ref d), .unset, .unset] [(.int (1 : Int32))]
  refine w.istore #[.val (.ref b), .val (.int (0 : Int32)), .val (.int (2 : Int32)), .val (.ref d), .val (.int (1 : Int32)), .unset] d8_12 rfl ?_
  refine w.iload d8_14 rfl ?_
  refine w.iloadN d8_16 rfl ?_
  refine w.icmpEq d8_17 d8_17t (fun q => absurd q (by decide)) (fun _ => ?_)
  refine w.aloadN d8_20 rfl rfl ?_
  refine w.iloadN d8_21 rfl ?_
  refine w.iloadN d8_22 rfl ?_
  refine w.callS (argsL := [(.ref b), (.int (0 : Int32)), (.int (2 : Int32))]) (rest := []) 0 d8_23 (tw hw 77 rfl) (tw hw 78 rfl) (tw hw 44 rfl) (tw hw 79 rfl) (by decide) (rmTo_2 l Z a0 hw hr b kb c0 c1 h2 w.old Ab) (lenOf pd_13 rfl) rfl rfl (Nat.le_refl _) ⟨by decide, by decide, by decide, by decide⟩ all0 ?_
  intro T h3 r w _ hQ
  obtain ⟨e, ke, rfl, E3, ge, Ae⟩ := hQ
  show Go x _ Z _ _ _ T 26 #[.val (.ref b), .val (.int (0 : Int32)), .val (.int (2 : Int32)), .val (.ref d), .val (.int (1 : Int32)), .unset] [(.ref e)]
  refine w.astore #[.val (.ref b), .val (.int (0 : Int32)), .val (.int (2 : Int32)), .val (.ref d), .val (.int (1 : Int32)), .val (.ref e)] d8_26 rfl rfl ?_
  refine w.aload d8_28 rfl rfl ?_
  refine w.iload d8_30 rfl ?_
  refine w.callS (argsL := [(.ref e), (.int (1 : Int32))]) (rest := []) 0 d8_32 (tw hw 93 rfl) (tw hw 94 rfl) (tw hw 44 rfl) (tw hw 95 rfl) (by decide) (rmGe_2_1 l Z a0 hw hr e ke c0 c1 h3 w.old Ae z1 v1) (lenOf pd_5 rfl) rfl rfl (Nat.le_refl _) ⟨by decide, by decide, by decide, by decide⟩ all0 ?_
  intro T h4 r w _ hQ
  obtain ⟨rfl, rfl⟩ := hQ
  show Go x _ Z _ _ _ T 35 #[.val (.ref b), .val (.int (0 : Int32)), .val (.int (2 : Int32)), .val (.ref d), .val (.int (1 : Int32)), .val (.ref e)] [(.int c1)]
  refine w.sipush (255 : Int32) d8_35 rfl ?_
  refine w.icmpGt d8_38 d8_38t (fun _ => ?_) (fun q => absurd gp q)
  refine w.aload d8_54 rfl rfl ?_
  exact w.retA d8_56 rfl rfl rfl rfl ⟨e, ke, rfl, ext_trans E2 E3, Nat.le_trans E2.1 ge, Ae⟩

theorem rmC3U_2 (l : Launch) (Z : State) (a0 : Array Value) (hw : ∀ d ∈ tables_1, d.before a0 Z = true) (hr : rest_1_c.value a0 Z none Z [] = some true) (b : Addr) (kb : ClassId) (c0 c1 : Int32) (h0 : Heap) (hE : Ext Z.heap h0) (Ab : Arv Z h0 b kb .char (2 : Int32) [(.int c0), (.int c1)] (.int 0)) (z0 : 0 ≤ c0.toInt) (v0 : c0.toInt < 65536) (z1 : 0 ≤ c1.toInt) (v1 : c1.toInt < 65536) (hx : ¬ (¬ 255 < c0 ∧ ¬ 255 < c1 ∧ True)) : Ct true l Z consts_1 (⟨"java/lang/StringUTF16", "compress", "([CII)[B"⟩ : MethodName) jdk_52_method_16_code 6 (some (.array .byte)) [] ({ frames := 3, cells := 2, slots := 6, locals := 40 } : Room) [] #[(.ref b), (.int (0 : Int32)), (.int (2 : Int32))] h0 (fun r u => ∃ d kd, r = some (.ref d) ∧ Ext h0 u ∧ h0.size ≤ d ∧ Arv Z u d kd .byte (4 : Int32) [(.int (nar .byte (c0 >>> ((0 : Int32) &&& 31)))), (.int (nar .byte (c0 >>> ((8 : Int32) &&& 31)))), (.int (nar .byte (c1 >>> ((0 : Int32) &&& 31)))), (.int (nar .byte (c1 >>> ((8 : Int32) &&& 31))))] (.int 0)) := by
  by_cases u0 : 255 < c0
  · exact rmC3x_2_0 l Z a0 hw hr b kb c0 c1 h0 hE Ab z0 v0 z1 v1  u0
  · skip
    by_cases u1 : 255 < c1
    · exact rmC3x_2_1 l Z a0 hw hr b kb c0 c1 h0 hE Ab z0 v0 z1 v1 u0 u1
    · exact absurd ⟨u0, u1, trivial⟩ hx
set_option maxRecDepth 65536 in
set_option maxHeartbeats 40000000 in
theorem rmCL_4_2 (l : Launch) (Z : State) (a0 : Array Value) (hw : ∀ d ∈ tables_1, d.before a0 Z = true) (d : Addr) (kd : ClassId) (vs : List Value) (h0 : Heap) (hE : Ext Z.heap h0) (Ad : Arv Z h0 d kd .byte (4 : Int32) vs (.int 0)) :
    Ct true l Z consts_1 (⟨"java/lang/StringUTF16", "coderFromArrayLen", "([BI)B"⟩ : MethodName) jdk_52_method_15_code 2 (some .byte) [] ({ frames := 0, cells := 0, slots := 0, locals := 0 } : Room) [] #[(.ref d), (.int (2 : Int32))] h0 (fun r u => r = some (.int (1 : Int32)) ∧ h0 = u) := by
  refine Ct.intro pn_java_lang_StringUTF16 hE (fun m => ef10_ri m d _) nosf ⟨a0, own_EW hw⟩ ?_
  intro x T w
  obtain ⟨cl, Ar, -, S, M, -, -⟩ := Ad
  refine w.iloadN d10_0 rfl ?_
  refine w.aloadN d10_1 rfl rfl ?_
  refine w.alen (4 : Int32) d10_2 Ar (len_of S M) ?_
  refine w.isub d10_3 ?_
  refine w.bipush (31 : Int32) d10_4 rfl ?_
  refine w.iushr d10_6 ?_
  refine w.i2b d10_7 ?_
  exact w.retN d10_8 rfl (by simp) ⟨rfl, rfl⟩

set_option maxRecDepth 65536 in
set_option maxHeartbeats 40000000 in
theorem rmS4u_2 (l : Launch) (Z : State) (a0 : Array Value) (hw : ∀ d ∈ tables_1, d.before a0 Z = true) (hr : rest_1_c.value a0 Z none Z [] = some true) (a b : Addr) (kb : ClassId) (c0 c1 : Int32) (h0 : Heap) (hE : Ext Z.heap h0) (ge_a : Z.heap.size ≤ a) (E0 : Exa Z h0 a "java/lang/String") (G1 : Fld Z h0 a "java/lang/String" "value" "[B" .null) (G2 : Fld Z h0 a "java/lang/String" "coder" "B" (.int (0 : Int32))) (Ab : Arv Z h0 b kb .char (2 : Int32) [(.int c0), (.int c1)] (.int 0)) (z0 : 0 ≤ c0.toInt) (v0 : c0.toInt < 65536) (z1 : 0 ≤ c1.toInt) (v1 : c1.toInt < 65536) (hx : ¬ (¬ 255 < c0 ∧ ¬ 255 < c1 ∧ True)) :
    Ct true l Z consts_1 (⟨"java/lang/String", "<init>", "([CIILjava/lang/Void;)V"⟩ : MethodName) jdk_42_method_149_code 6 none [] ({ frames := 4, cells := 2, slots := 6, locals := 57 } : Room) [a] #[(.ref a), (.ref b), (.int (0 : Int32)), (.int (2 : Int32)), .null] h0 (fun r u => r = none ∧ Keep h0 u [a] ∧ ∃ t, StrL Z u a t 1 [nar .byte (c0 >>> ((0 : Int32) &&& 31)), nar .byte (c0 >>> ((8 : Int32) &&& 31)), nar .byte (c1 >>> ((0 : Int32) &&& 31)), nar .byte (c1 >>> ((8 : Int32) &&& 31))]) := by
  refine Ct.intro pn_java_lang_String hE (fun m => ef3_rriin m a b _ _) (onesf ge_a E0.lt) ⟨a0, own_EW hw⟩ ?_
  intro x T w
  obtain ⟨cz, Scs, hcz⟩ := own_cs hr
  refine w.aloadN d3_0 rfl rfl ?_
  refine w.initO 0 d3_1 (tw hw 16 rfl) (tw hw 17 rfl) (tw hw 18 rfl) rfl (Nat.le_refl _) ⟨by decide, by decide⟩ ?_
  intro T w
  refine w.iloadN d3_4 rfl ?_
  refine w.ifNe d3_5 d3_5t (fun _ => ?_) (fun q => absurd q (by decide))
  refine w.getS d3_27 (tw hw 41 rfl) Scs ?_
  intro T w
  refine w.ifEq d3_30 d3_30t (fun q => absurd q hcz) (fun _ => ?_)
  refine w.aloadN d3_33 rfl rfl ?_
  refine w.iloadN d3_34 rfl ?_
  refine w.iloadN d3_35 rfl ?_
  refine w.callS (argsL := [(.ref b), (.int (0 : Int32)), (.int (2 : Int32))]) (rest := []) 0 d3_36 (tw hw 42 rfl) (tw hw 43 rfl) (tw hw 44 rfl) (tw hw 45 rfl) (by decide) (rmC3U_2 l Z a0 hw hr b kb c0 c1 h0 w.old Ab z0 v0 z1 v1 hx) (lenOf pd_13 rfl) rfl rfl (Nat.le_refl _) ⟨by decide, by decide, by decide, by decide⟩ all0 ?_
  intro T h1 r w _ hQ
  obtain ⟨d, kd, rfl, E1, gd, A1⟩ := hQ
  have ne_a_d : a ≠ d := Nat.ne_of_lt (Nat.lt_of_lt_of_le E0.lt gd)
  have F1 := E0.ext E1
  have F2 := G1.ext E1
  have F3 := G2.ext E1
  show Go x _ Z _ _ _ T 39 #[.val (.ref a), .val (.ref b), .val (.int (0 : Int32)), .val (.int (2 : Int32)), .val .null, .unset] [(.ref d)]
  refine w.astore #[.val (.ref a), .val (.ref b), .val (.int (0 : Int32)), .val (.int (2 : Int32)), .val .null, .val (.ref d)] d3_39 rfl rfl ?_
  refine w.aloadN d3_41 rfl rfl ?_
  refine w.aload d3_42 rfl rfl ?_
  refine w.iloadN d3_44 rfl ?_
  refine w.callS (argsL := [(.ref d), (.int (2 : Int32))]) (rest := [(.ref a)]) 1 d3_45 (tw hw 49 rfl) (tw hw 50 rfl) (tw hw 44 rfl) (tw hw 51 rfl) (by decide) (rmCL_4_2 l Z a0 hw d kd _ h1 w.old A1) (lenOf pd_14 rfl) rfl rfl (Nat.le_refl _) ⟨by decide, by decide, by decide, by decide⟩ all0 ?_
  intro T h2 r w _ hQ
  obtain ⟨rfl, rfl⟩ := hQ
  show Go x _ Z _ _ _ T 48 #[.val (.ref a), .val (.ref b), .val (.int (0 : Int32)), .val (.int (2 : Int32)), .val .null, .val (.ref d)] [(.int (1 : Int32)), (.ref a)]
  refine w.putF d3_48 (tw hw 26 rfl) F3 F1 (Or.inr ⟨(tw hw 22 rfl), rfl, rfl⟩) (tw hw 7 rfl) (ty := .byte) (by decide) rfl rfl (List.mem_of_getElem? (i := 0) rfl) ?_
  intro T h3 w W4
  have F5 := F1.wr W4
  have F6 := F2.other W4 (Or.inr (slot_ne (Or.inr (tw hw 21 rfl)) (Or.inr (tw hw 22 rfl)) (by decide) (t := (.array .byte)) (t' := .byte) (by decide) (by decide)))
  have F7 := F3.same W4
  have F8 := A1.other W4 (Ne.symm ne_a_d)
  refine w.aloadN d3_51 rfl rfl ?_
  refine w.aload d3_52 rfl rfl ?_
  refine w.putF d3_54 (tw hw 25 rfl) F6 F5 (Or.inr ⟨(tw hw 21 rfl), rfl, rfl⟩) (tw hw 7 rfl) (ty := (.array .byte)) (by decide) rfl rfl (List.mem_of_getElem? (i := 0) rfl) ?_
  intro T h4 w W9
  have F10 := F5.wr W9
  have F11 := F6.same W9
  have F12 := F7.other W9 (Or.inr (slot_ne (Or.inr (tw hw 22 rfl)) (Or.inr (tw hw 21 rfl)) (by decide) (t := .byte) (t' := (.array .byte)) (by decide) (by decide)))
  have F13 := F8.other W9 (Ne.symm ne_a_d)
  exact w.retV d3_57 rfl ⟨rfl, (((keep_ext E1).wr W4 (Or.inl (List.mem_singleton.mpr rfl))).wr W9 (Or.inl (List.mem_singleton.mpr rfl))), d, F10, F11, F12, kd, F13, by simp⟩

set_option maxRecDepth 65536 in
set_option maxHeartbeats 40000000 in
theorem rmS1E_2 (l : Launch) (Z : State) (a0 : Array Value) (hw : ∀ d ∈ tables_1, d.before a0 Z = true) (hr : rest_1_c.value a0 Z none Z [] = some true) (a b : Addr) (kb : ClassId) (c0 c1 : Int32) (h0 : Heap) (hE : Ext Z.heap h0) (ge_a : Z.heap.size ≤ a) (E0 : Exa Z h0 a "java/lang/String") (G1 : Fld Z h0 a "java/lang/String" "value" "[B" .null) (G2 : Fld Z h0 a "java/lang/String" "coder" "B" (.int (0 : Int32))) (Ab : Arv Z h0 b kb .char (2 : Int32) [(.int c0), (.int c1)] (.int 0)) (z0 : 0 ≤ c0.toInt) (v0 : c0.toInt < 65536) (z1 : 0 ≤ c1.toInt) (v1 : c1.toInt < 65536) :
    Ct true l Z consts_1 (⟨"java/lang/String", "<init>", "([C)V"⟩ : MethodName) jdk_42_method_3_code 2 none [] ({ frames := 5, cells := 2, slots := 6, locals := 74 } : Room) [a] #[(.ref a), (.ref b)] h0 (fun r u => r = none ∧ Keep h0 u [a] ∧ ∃ t, ((StrL Z u a t 0 [nar .byte c0, nar .byte c1] ∧ (¬ 255 < c0 ∧ ¬ 255 < c1 ∧ True)) ∨ StrL Z u a t 1 [nar .byte (c0 >>> ((0 : Int32) &&& 31)), nar .byte (c0 >>> ((8 : Int32) &&& 31)), nar .byte (c1 >>> ((0 : Int32) &&& 31)), nar .byte (c1 >>> ((8 : Int32) &&& 31))])) := by
  refine Ct.intro pn_java_lang_String hE (fun m => ef2_rr m a b) (onesf ge_a E0.lt) ⟨a0, own_EW hw⟩ ?_
  intro x T w
  obtain ⟨cl, Ar, -, S, M, -, -⟩ := id Ab
  by_cases hx : (¬ 255 < c0 ∧ ¬ 255 < c1 ∧ True)
  · refine w.aloadN d2_0 rfl rfl ?_
    refine w.aloadN d2_1 rfl rfl ?_
    refine w.iconst (0 : Int32) d2_2 rfl ?_
    refine w.aloadN d2_3 rfl rfl ?_
    refine w.alen (2 : Int32) d2_4 Ar (len_of S M) ?_
    refine w.aconstNull d2_5 ?_
    refine w.callI (argsL := [(.ref b), (.int (0 : Int32)), (.int (2 : Int32)), .null]) (rest := []) 0 d2_6 rfl (tw hw 12 rfl) (tw hw 13 rfl) (tw hw 8 rfl) (tw hw 15 rfl) (by decide) (rmS4_2 l Z a0 hw hr a b kb c0 c1 h0 w.old ge_a E0 G1 G2 Ab hx.1 hx.2.1) (lenOf pd_9 rfl) rfl rfl (Nat.le_refl _) ⟨by decide, by decide, by decide, by decide⟩ (allS (List.mem_of_getElem? (i := 0) rfl) all0) ?_
    intro T h1 r w _ hQ
    obtain ⟨rfl, K1, t, gt, S1⟩ := hQ
    exact w.retV d2_9 rfl ⟨rfl, K1, t, Or.inl ⟨S1, hx⟩⟩
  · refine w.aloadN d2_0 rfl rfl ?_
    refine w.aloadN d2_1 rfl rfl ?_
    refine w.iconst (0 : Int32) d2_2 rfl ?_
    refine w.aloadN d2_3 rfl rfl ?_
    refine w.alen (2 : Int32) d2_4 Ar (len_of S M) ?_
    refine w.aconstNull d2_5 ?_
    refine w.callI (argsL := [(.ref b), (.int (0 : Int32)), (.int (2 : Int32)), .null]) (rest := []) 0 d2_6 rfl (tw hw 12 rfl) (tw hw 13 rfl) (tw hw 8 rfl) (tw hw 15 rfl) (by decide) (rmS4u_2 l Z a0 hw hr a b kb c0 c1 h0 w.old ge_a E0 G1 G2 Ab z0 v0 z1 v1 hx) (lenOf pd_9 rfl) rfl rfl (Nat.le_refl _) ⟨by decide, by decide, by decide, by decide⟩ (allS (List.mem_of_getElem? (i := 0) rfl) all0) ?_
    intro T h2 r w _ hQ
    obtain ⟨rfl, K1, t, S1⟩ := hQ
    exact w.retV d2_9 rfl ⟨rfl, K1, t, Or.inr S1⟩

set_option maxRecDepth 65536 in
set_option maxHeartbeats 40000000 in
theorem rmC5_3 (l : Launch) (Z : State) (a0 : Array Value) (hw : ∀ d ∈ tables_1, d.before a0 Z = true) (b d : Addr) (kb kd : ClassId) (c0 c1 c2 : Int32) (h0 : Heap) (hE : Ext Z.heap h0) (ge_d : Z.heap.size ≤ d) (nbd : b ≠ d) (Ab : Arv Z h0 b kb .char (3 : Int32) [(.int c0), (.int c1), (.int c2)] (.int 0)) (Ad : Arv Z h0 d kd .byte (3 : Int32) [] (.int 0)) (u0 : ¬ 255 < c0) (u1 : ¬ 255 < c1) (u2 : ¬ 255 < c2) :
    Ct true l Z consts_1 (⟨"java/lang/StringUTF16", "compress", "([CI[BII)I"⟩ : MethodName) jdk_52_method_21_code 7 (some .int) [] ({ frames := 0, cells := 0, slots := 0, locals := 0 } : Room) [d] #[(.ref b), (.int (0 : Int32)), (.ref d), (.int (0 : Int32)), (.int (3 : Int32))] h0 (fun r u => r = some (.int (3 : Int32)) ∧ Keep h0 u [d] ∧ Arv Z u d kd .byte (3 : Int32) [(.int (nar .byte c0)), (.int (nar .byte c1)), (.int (nar .byte c2))] (.int 0)) := by
  refine Ct.intro pn_java_lang_StringUTF16 hE (fun m => ef9_ririi m b _ d _ _) (onesf ge_d Ad.lt) ⟨a0, own_EW hw⟩ ?_
  intro x T w
  refine w.iconst (0 : Int32) d9_0 rfl ?_
  refine w.istore #[.val (.ref b), .val (.int (0 : Int32)), .val (.ref d), .val (.int (0 : Int32)), .val (.int (3 : Int32)), .val (.int (0 : Int32)), .unset] d9_1 rfl ?_
  refine w.iload d9_3 rfl ?_
  refine w.iload d9_5 rfl ?_
  refine w.icmpGe d9_7 d9_7t (fun q => absurd (by decide) q) (fun _ => ?_)
  refine w.aloadN d9_10 rfl rfl ?_
  refine w.iloadN d9_11 rfl ?_
  obtain ⟨cl0, Ar0, -, S0, -, H0, -⟩ := id Ab
  refine w.caload d9_12 Ar0 (inb_of S0 (by decide)) (H0.at (inb_of S0 (by decide)) rfl) ?_
  refine w.istore #[.val (.ref b), .val (.int (0 : Int32)), .val (.ref d), .val (.int (0 : Int32)), .val (.int (3 : Int32)), .val (.int (0 : Int32)), .val (.int c0)] d9_13 rfl ?_
  refine w.iload d9_15 rfl ?_
  refine w.sipush (255 : Int32) d9_17 rfl ?_
  refine w.icmpLe d9_20 d9_20t (fun _ => ?_) (fun q => absurd q u0)
  refine w.aloadN d9_26 rfl rfl ?_
  refine w.iloadN d9_27 rfl ?_
  refine w.iload d9_28 rfl ?_
  refine w.i2b d9_30 ?_
  refine w.stB 0 [(.int 0)] d9_31 Ad ⟨by decide, by decide⟩ (by decide) (pad_rep [] (.int 0) 1) (by simp) (fnb _) (List.mem_of_getElem? (i := 0) rfl) ?_
  intro T h1 w W0 A0
  rw [nbb] at A0 W0
  have Ad0 : Arv Z h1 d kd .byte (3 : Int32) [(.int (nar .byte c0))] (.int 0) := A0
  have Ab0 := Ab.other W0 nbd
  refine w.iinc (1 : Int32) #[.val (.ref b), .val (.int (1 : Int32)), .val (.ref d), .val (.int (0 : Int32)), .val (.int (3 : Int32)), .val (.int (0 : Int32)), .val (.int c0)] d9_32 rfl rfl rfl ?_
  refine w.iinc (1 : Int32) #[.val (.ref b), .val (.int (1 : Int32)), .val (.ref d), .val (.int (1 : Int32)), .val (.int (3 : Int32)), .val (.int (0 : Int32)), .val (.int c0)] d9_35 rfl rfl rfl ?_
  refine w.iinc (1 : Int32) #[.val (.ref b), .val (.int (1 : Int32)), .val (.ref d), .val (.int (1 : Int32)), .val (.int (3 : Int32)), .val (.int (1 : Int32)), .val (.int c0)] d9_38 rfl rfl rfl ?_
  refine w.goto d9_41 d9_41t ?_
  refine w.iload d9_3 rfl ?_
  refine w.iload d9_5 rfl ?_
  refine w.icmpGe d9_7 d9_7t (fun q => absurd (by decide) q) (fun _ => ?_)
  refine w.aloadN d9_10 rfl rfl ?_
  refine w.iloadN d9_11 rfl ?_
  obtain ⟨cl1, Ar1, -, S1, -, H1, -⟩ := id Ab0
  refine w.caload d9_12 Ar1 (inb_of S1 (by decide)) (H1.at (inb_of S1 (by decide)) rfl) ?_
  refine w.istore #[.val (.ref b), .val (.int (1 : Int32)), .val (.ref d), .val (.int (1 : Int32)), .val (.int (3 : Int32)), .val (.int (1 : Int32)), .val (.int c1)] d9_13 rfl ?_
  refine w.iload d9_15 rfl ?_
  refine w.sipush (255 : Int32) d9_17 rfl ?_
  refine w.icmpLe d9_20 d9_20t (fun _ => ?_) (fun q => absurd q u1)
  refine w.aloadN d9_26 rfl rfl ?_
  refine w.iloadN d9_27 rfl ?_
  refine w.iload d9_28 rfl ?_
  refine w.i2b d9_30 ?_
  refine w.stB 1 [(.int (nar .byte c0)), (.int 0)] d9_31 Ad0 ⟨by decide, by decide⟩ (by decide) (pad_rep [(.int (nar .byte c0))] (.int 0) 1) (by simp) (fnb _) (List.mem_of_getElem? (i := 0) rfl) ?_
  intro T h2 w W1 A1
  rw [nbb] at A1 W1
  have Ad1 : Arv Z h2 d kd .byte (3 : Int32) [(.int (nar .byte c0)), (.int (nar .byte c1))] (.int 0) := A1
  have Ab1 := Ab0.other W1 nbd
  refine w.iinc (1 : Int32) #[.val (.ref b), .val (.int (2 : Int32)), .val (.ref d), .val (.int (1 : Int32)), .val (.int (3 : Int32)), .val (.int (1 : Int32)), .val (.int c1)] d9_32 rfl rfl rfl ?_
  refine w.iinc (1 : Int32) #[.val (.ref b), .val (.int (2 : Int32)), .val (.ref d), .val (.int (2 : Int32)), .val (.int (3 : Int32)), .val (.int (1 : Int32)), .val (.int c1)] d9_35 rfl rfl rfl ?_
  refine w.iinc (1 : Int32) #[.val (.ref b), .val (.int (2 : Int32)), .val (.ref d), .val (.int (2 : Int32)), .val (.int (3 : Int32)), .val (.int (2 : Int32)), .val (.int c1)] d9_38 rfl rfl rfl ?_
  refine w.goto d9_41 d9_41t ?_
  refine w.iload d9_3 rfl ?_
  refine w.iload d9_5 rfl ?_
  refine w.icmpGe d9_7 d9_7t (fun q => absurd (by decide) q) (fun _ => ?_)
  refine w.aloadN d9_10 rfl rfl ?_
  refine w.iloadN d9_11 rfl ?_
  obtain ⟨cl2, Ar2, -, S2, -, H2, -⟩ := id Ab1
  refine w.caload d9_12 Ar2 (inb_of S2 (by decide)) (H2.at (inb_of S2 (by decide)) rfl) ?_
  refine w.istore #[.val (.ref b), .val (.int (2 : Int32)), .val (.ref d), .val (.int (2 : Int32)), .val (.int (3 : Int32)), .val (.int (2 : Int32)), .val (.int c2)] d9_13 rfl ?_
  refine w.iload d9_15 rfl ?_
  refine w.sipush (255 : Int32) d9_17 rfl ?_
  refine w.icmpLe d9_20 d9_20t (fun _ => ?_) (fun q => absurd q u2)
  refine w.aloadN d9_26 rfl rfl ?_
  refine w.iloadN d9_27 rfl ?_
  refine w.iload d9_28 rfl ?_
  refine w.i2b d9_30 ?_
  refine w.stB 2 [(.int (nar .byte c0)), (.int (nar .byte c1)), (.int 0)] d9_31 Ad1 ⟨by decide, by decide⟩ (by decide) (pad_rep [(.int (nar .byte c0)), (.int (nar .byte c1))] (.int 0) 1) (by simp) (fnb _) (List.mem_of_getElem? (i := 0) rfl) ?_
  intro T h3 w W2 A2
  rw [nbb] at A2 W2
  have Ad2 : Arv Z h3 d kd .byte (3 : Int32) [(.int (nar .byte c0)), (.int (nar .byte c1)), (.int (nar .byte c2))] (.int 0) := A2
  have Ab2 := Ab1.other W2 nbd
  refine w.iinc (1 : Int32) #[.val (.ref b), .val (.int (3 : Int32)), .val (.ref d), .val (.int (2 : Int32)), .val (.int (3 : Int32)), .val (.int (2 : Int32)), .val (.int c2)] d9_32 rfl rfl rfl ?_
  refine w.iinc (1 : Int32) #[.val (.ref b), .val (.int (3 : Int32)), .val (.ref d), .val (.int (3 : Int32)), .val (.int (3 : Int32)), .val (.int (2 : Int32)), .val (.int c2)] d9_35 rfl rfl rfl ?_
  refine w.iinc (1 : Int32) #[.val (.ref b), .val (.int (3 : Int32)), .val (.ref d), .val (.int (3 : Int32)), .val (.int (3 : Int32)), .val (.int (3 : Int32)), .val (.int c2)] d9_38 rfl rfl rfl ?_
  refine w.goto d9_41 d9_41t ?_
  refine w.iload d9_3 rfl ?_
  refine w.iload d9_5 rfl ?_
  refine w.icmpGe d9_7 d9_7t (fun _ => ?_) (fun q => absurd q (by decide))
  refine w.iload d9_44 rfl ?_
  exact w.retI d9_46 rfl ⟨rfl, ((((Keep.refl _ _).wr W0 (Or.inl (List.mem_singleton.mpr rfl))).wr W1 (Or.inl (List.mem_singleton.mpr rfl))).wr W2 (Or.inl (List.mem_singleton.mpr rfl))), Ad2⟩

set_option maxRecDepth 65536 in
set_option maxHeartbeats 40000000 in
theorem rmC3_3 (l : Launch) (Z : State) (a0 : Array Value) (hw : ∀ d ∈ tables_1, d.before a0 Z = true) (b : Addr) (kb : ClassId) (c0 c1 c2 : Int32) (h0 : Heap) (hE : Ext Z.heap h0) (Ab : Arv Z h0 b kb .char (3 : Int32) [(.int c0), (.int c1), (.int c2)] (.int 0)) (u0 : ¬ 255 < c0) (u1 : ¬ 255 < c1) (u2 : ¬ 255 < c2) :
    Ct true l Z consts_1 (⟨"java/lang/StringUTF16", "compress", "([CII)[B"⟩ : MethodName) jdk_52_method_16_code 6 (some (.array .byte)) [] ({ frames := 1, cells := 1, slots := 3, locals := 18 } : Room) [] #[(.ref b), (.int (0 : Int32)), (.int (3 : Int32))] h0 (fun r u => ∃ d kd, r = some (.ref d) ∧ Ext h0 u ∧ h0.size ≤ d ∧ Arv Z u d kd .byte (3 : Int32) [(.int (nar .byte c0)), (.int (nar .byte c1)), (.int (nar .byte c2))] (.int 0)) := by
  refine Ct.intro pn_java_lang_StringUTF16 hE (fun m => ef8_rii m b _ _) nosf ⟨a0, own_EW hw⟩ ?_
  intro x T w
  refine w.iloadN d8_0 rfl ?_
  have sz0 := w.size
  refine w.newP 3 "[B" d8_1 (tw hw 20 rfl) (by decide) (by decide) (by decide) (by decide) ⟨by decide, by decide⟩ ?_
  intro d T h1 kd g_d w E_d A_d X_d
  have ge_d : Z.heap.size ≤ d := by rw [g_d]; exact sz0
  have nbd : b ≠ d := Nat.ne_of_lt (Nat.lt_of_lt_of_eq Ab.lt g_d.symm)
  refine w.astoreN #[.val (.ref b), .val (.int (0 : Int32)), .val (.int (3 : Int32)), .val (.ref d), .unset, .unset] d8_3 rfl rfl ?_
  refine w.aloadN d8_4 rfl rfl ?_
  refine w.iloadN d8_5 rfl ?_
  refine w.aloadN d8_6 rfl rfl ?_
  refine w.iconst (0 : Int32) d8_7 rfl ?_
  refine w.iloadN d8_8 rfl ?_
  refine w.callS (argsL := [(.ref b), (.int (0 : Int32)), (.ref d), (.int (0 : Int32)), (.int (3 : Int32))]) (rest := []) 0 d8_9 (tw hw 46 rfl) (tw hw 47 rfl) (tw hw 44 rfl) (tw hw 48 rfl) (by decide) (rmC5_3 l Z a0 hw b d kb kd c0 c1 c2 h1 w.old ge_d nbd (Ab.ext E_d) A_d u0 u1 u2) (lenOf pd_12 rfl) rfl rfl (Nat.le_refl _) ⟨by decide, by decide, by decide, by decide⟩ (allS (List.mem_of_getElem? (i := 0) rfl) all0) ?_
  intro T h2 r w _ hQ
  obtain ⟨rfl, K1, A1⟩ := hQ
  show Go x _ Z _ _ _ T 12 #[.val (.ref b), .val (.int (0 : Int32)), .val (.int (3 : Int32)), .val (.ref d), .unset, .unset] [(.int (3 : Int32))]
  refine w.istore #[.val (.ref b), .val (.int (0 : Int32)), .val (.int (3 : Int32)), .val (.ref d), .val (.int (3 : Int32)), .unset] d8_12 rfl ?_
  refine w.iload d8_14 rfl ?_
  refine w.iloadN d8_16 rfl ?_
  refine w.icmpEq d8_17 d8_17t (fun _ => ?_) (fun q => absurd rfl q)
  refine w.aloadN d8_57 rfl rfl ?_
  exact w.retA d8_58 rfl rfl rfl rfl ⟨d, kd, rfl, keep_to E_d K1 (allS (Nat.le_of_eq g_d.symm) all0), Nat.le_of_eq g_d.symm, A1⟩

set_option maxRecDepth 65536 in
set_option maxHeartbeats 40000000 in
theorem rmCL_3_3 (l : Launch) (Z : State) (a0 : Array Value) (hw : ∀ d ∈ tables_1, d.before a0 Z = true) (d : Addr) (kd : ClassId) (vs : List Value) (h0 : Heap) (hE : Ext Z.heap h0) (Ad : Arv Z h0 d kd .byte (3 : Int32) vs (.int 0)) :
    Ct true l Z consts_1 (⟨"java/lang/StringUTF16", "coderFromArrayLen", "([BI)B"⟩ : MethodName) jdk_52_method_15_code 2 (some .byte) [] ({ frames := 0, cells := 0, slots := 0, locals := 0 } : Room) [] #[(.ref d), (.int (3 : Int32))] h0 (fun r u => r = some (.int (0 : Int32)) ∧ h0 = u) := by
  refine Ct.intro pn_java_lang_StringUTF16 hE (fun m => ef10_ri m d _) nosf ⟨a0, own_EW hw⟩ ?_
  intro x T w
  obtain ⟨cl, Ar, -, S, M, -, -⟩ := Ad
  refine w.iloadN d10_0 rfl ?_
  refine w.aloadN d10_1 rfl rfl ?_
  refine w.alen (3 : Int32) d10_2 Ar (len_of S M) ?_
  refine w.isub d10_3 ?_
  refine w.bipush (31 : Int32) d10_4 rfl ?_
  refine w.iushr d10_6 ?_
  refine w.i2b d10_7 ?_
  exact w.retN d10_8 rfl (by simp) ⟨rfl, rfl⟩

set_option maxRecDepth 65536 in
set_option maxHeartbeats 40000000 in
theorem rmS4_3 (l : Launch) (Z : State) (a0 : Array Value) (hw : ∀ d ∈ tables_1, d.before a0 Z = true) (hr : rest_1_c.value a0 Z none Z [] = some true) (a b : Addr) (kb : ClassId) (c0 c1 c2 : Int32) (h0 : Heap) (hE : Ext Z.heap h0) (ge_a : Z.heap.size ≤ a) (E0 : Exa Z h0 a "java/lang/String") (G1 : Fld Z h0 a "java/lang/String" "value" "[B" .null) (G2 : Fld Z h0 a "java/lang/String" "coder" "B" (.int (0 : Int32))) (Ab : Arv Z h0 b kb .char (3 : Int32) [(.int c0), (.int c1), (.int c2)] (.int 0)) (u0 : ¬ 255 < c0) (u1 : ¬ 255 < c1) (u2 : ¬ 255 < c2) :
    Ct true l Z consts_1 (⟨"java/lang/String", "<init>", "([CIILjava/lang/Void;)V"⟩ : MethodName) jdk_42_method_149_code 6 none [] ({ frames := 2, cells := 1, slots := 3, locals := 36 } : Room) [a] #[(.ref a), (.ref b), (.int (0 : Int32)), (.int (3 : Int32)), .null] h0 (fun r u => r = none ∧ Keep h0 u [a] ∧ ∃ t, h0.size ≤ t ∧ StrL Z u a t 0 [nar .byte c0, nar .byte c1, nar .byte c2]) := by
  refine Ct.intro pn_java_lang_String hE (fun m => ef3_rriin m a b _ _) (onesf ge_a E0.lt) ⟨a0, own_EW hw⟩ ?_
  intro x T w
  obtain ⟨cz, Scs, hcz⟩ := own_cs hr
  refine w.aloadN d3_0 rfl rfl ?_
  refine w.initO 0 d3_1 (tw hw 16 rfl) (tw hw 17 rfl) (tw hw 18 rfl) rfl (Nat.le_refl _) ⟨by decide, by decide⟩ ?_
  intro T w
  refine w.iloadN d3_4 rfl ?_
  refine w.ifNe d3_5 d3_5t (fun _ => ?_) (fun q => absurd q (by decide))
  refine w.getS d3_27 (tw hw 41 rfl) Scs ?_
  intro T w
  refine w.ifEq d3_30 d3_30t (fun q => absurd q hcz) (fun _ => ?_)
  refine w.aloadN d3_33 rfl rfl ?_
  refine w.iloadN d3_34 rfl ?_
  refine w.iloadN d3_35 rfl ?_
  refine w.callS (argsL := [(.ref b), (.int (0 : Int32)), (.int (3 : Int32))]) (rest := []) 0 d3_36 (tw hw 42 rfl) (tw hw 43 rfl) (tw hw 44 rfl) (tw hw 45 rfl) (by decide) (rmC3_3 l Z a0 hw b kb c0 c1 c2 h0 w.old Ab u0 u1 u2) (lenOf pd_13 rfl) rfl rfl (Nat.le_refl _) ⟨by decide, by decide, by decide, by decide⟩ all0 ?_
  intro T h1 r w _ hQ
  obtain ⟨d, kd, rfl, E1, gd, A1⟩ := hQ
  have ne_a_d : a ≠ d := Nat.ne_of_lt (Nat.lt_of_lt_of_le E0.lt gd)
  have F1 := E0.ext E1
  have F2 := G1.ext E1
  have F3 := G2.ext E1
  show Go x _ Z _ _ _ T 39 #[.val (.ref a), .val (.ref b), .val (.int (0 : Int32)), .val (.int (3 : Int32)), .val .null, .unset] [(.ref d)]
  refine w.astore #[.val (.ref a), .val (.ref b), .val (.int (0 : Int32)), .val (.int (3 : Int32)), .val .null, .val (.ref d)] d3_39 rfl rfl ?_
  refine w.aloadN d3_41 rfl rfl ?_
  refine w.aload d3_42 rfl rfl ?_
  refine w.iloadN d3_44 rfl ?_
  refine w.callS (argsL := [(.ref d), (.int (3 : Int32))]) (rest := [(.ref a)]) 1 d3_45 (tw hw 49 rfl) (tw hw 50 rfl) (tw hw 44 rfl) (tw hw 51 rfl) (by decide) (rmCL_3_3 l Z a0 hw d kd _ h1 w.old A1) (lenOf pd_14 rfl) rfl rfl (Nat.le_refl _) ⟨by decide, by decide, by decide, by decide⟩ all0 ?_
  intro T h2 r w _ hQ
  obtain ⟨rfl, rfl⟩ := hQ
  show Go x _ Z _ _ _ T 48 #[.val (.ref a), .val (.ref b), .val (.int (0 : Int32)), .val (.int (3 : Int32)), .val .null, .val (.ref d)] [(.int (0 : Int32)), (.ref a)]
  refine w.putF d3_48 (tw hw 26 rfl) F3 F1 (Or.inr ⟨(tw hw 22 rfl), rfl, rfl⟩) (tw hw 7 rfl) (ty := .byte) (by decide) rfl rfl (List.mem_of_getElem? (i := 0) rfl) ?_
  intro T h3 w W4
  have F5 := F1.wr W4
  have F6 := F2.other W4 (Or.inr (slot_ne (Or.inr (tw hw 21 rfl)) (Or.inr (tw hw 22 rfl)) (by decide) (t := (.array .byte)) (t' := .byte) (by decide) (by decide)))
  have F7 := F3.same W4
  have F8 := A1.other W4 (Ne.symm ne_a_d)
  refine w.aloadN d3_51 rfl rfl ?_
  refine w.aload d3_52 rfl rfl ?_
  refine w.putF d3_54 (tw hw 25 rfl) F6 F5 (Or.inr ⟨(tw hw 21 rfl), rfl, rfl⟩) (tw hw 7 rfl) (ty := (.array .byte)) (by decide) rfl rfl (List.mem_of_getElem? (i := 0) rfl) ?_
  intro T h4 w W9
  have F10 := F5.wr W9
  have F11 := F6.same W9
  have F12 := F7.other W9 (Or.inr (slot_ne (Or.inr (tw hw 22 rfl)) (Or.inr (tw hw 21 rfl)) (by decide) (t := .byte) (t' := (.array .byte)) (by decide) (by decide)))
  have F13 := F8.other W9 (Ne.symm ne_a_d)
  exact w.retV d3_57 rfl ⟨rfl, (((keep_ext E1).wr W4 (Or.inl (List.mem_singleton.mpr rfl))).wr W9 (Or.inl (List.mem_singleton.mpr rfl))), d, gd, F10, F11, F12, kd, F13, by simp⟩

set_option maxRecDepth 65536 in
set_option maxHeartbeats 40000000 in
theorem rmNL_3 (l : Launch) (Z : State) (a0 : Array Value) (hw : ∀ d ∈ tables_1, d.before a0 Z = true) (h0 : Heap) (hE : Ext Z.heap h0) :
    Ct true l Z consts_1 (⟨"java/lang/StringUTF16", "newBytesLength", "(I)I"⟩ : MethodName) jdk_52_method_3_code 1 (some .int) [] ({ frames := 0, cells := 0, slots := 0, locals := 0 } : Room) [] #[(.int (3 : Int32))] h0 (fun r u => r = some (.int (6 : Int32)) ∧ h0 = u) := by
  refine Ct.intro pn_java_lang_StringUTF16 hE (fun m => ef19_i m _) nosf ⟨a0, own_EW hw⟩ ?_
  intro x T w
  refine w.iloadN d19_0 rfl ?_
  refine w.ifGe d19_1 d19_1t (fun _ => ?_) (fun q => absurd q (by decide))
  refine w.iloadN d19_12 rfl ?_
  refine w.ldcI d19_13 (tw hw 86 rfl) ?_
  refine w.icmpLt d19_15 d19_15t (fun _ => ?_) (fun q => absurd (by decide) q)
  refine w.iloadN d19_55 rfl ?_
  refine w.iconst (1 : Int32) d19_56 rfl ?_
  refine w.ishl d19_57 ?_
  exact w.retI d19_58 rfl ⟨rfl, rfl⟩

set_option maxRecDepth 65536 in
set_option maxHeartbeats 40000000 in
theorem rmNF_3 (l : Launch) (Z : State) (a0 : Array Value) (hw : ∀ d ∈ tables_1, d.before a0 Z = true) (h0 : Heap) (hE : Ext Z.heap h0) :
    Ct true l Z consts_1 (⟨"java/lang/StringUTF16", "newBytesFor", "(I)[B"⟩ : MethodName) jdk_52_method_2_code 1 (some (.array .byte)) [] ({ frames := 1, cells := 1, slots := 6, locals := 12 } : Room) [] #[(.int (3 : Int32))] h0 (fun r u => ∃ d kd, r = some (.ref d) ∧ Ext h0 u ∧ h0.size ≤ d ∧ Arv Z u d kd .byte (6 : Int32) [] (.int 0)) := by
  refine Ct.intro pn_java_lang_StringUTF16 hE (fun m => ef18_i m _) nosf ⟨a0, own_EW hw⟩ ?_
  intro x T w
  refine w.iloadN d18_0 rfl ?_
  refine w.callS (argsL := [(.int (3 : Int32))]) (rest := []) 0 d18_1 (tw hw 83 rfl) (tw hw 84 rfl) (tw hw 44 rfl) (tw hw 85 rfl) (by decide) (rmNL_3 l Z a0 hw h0 w.old) (lenOf pd_15 rfl) rfl rfl (Nat.le_refl _) ⟨by decide, by decide, by decide, by decide⟩ all0 ?_
  intro T h1 r w _ hQ
  obtain ⟨rfl, rfl⟩ := hQ
  show Go x _ Z _ _ _ T 4 #[.val (.int (3 : Int32))] [(.int (6 : Int32))]
  have sz0 := w.size
  refine w.newP 6 "[B" d18_4 (tw hw 20 rfl) (by decide) (by decide) (by decide) (by decide) ⟨by decide, by decide⟩ ?_
  intro d T h2 kd g_d w E_d A_d X_d
  have ge_d : Z.heap.size ≤ d := by rw [g_d]; exact sz0
  exact w.retA d18_6 rfl rfl rfl rfl ⟨d, kd, rfl, E_d, Nat.le_of_eq g_d.symm, A_d⟩

set_option maxRecDepth 65536 in
set_option maxHeartbeats 40000000 in
theorem rmPu_3_0 (l : Launch) (Z : State) (a0 : Array Value) (hw : ∀ d ∈ tables_1, d.before a0 Z = true) (hr : rest_1_c.value a0 Z none Z [] = some true) (d : Addr) (kd : ClassId)  (c : Int32) (h0 : Heap) (hE : Ext Z.heap h0) (ge_d : Z.heap.size ≤ d) (A : Arv Z h0 d kd .byte (6 : Int32) [] (.int 0)) :
    Ct true l Z consts_1 (⟨"java/lang/StringUTF16", "putChar", "([BII)V"⟩ : MethodName) jdk_52_method_4_code 3 none [] ({ frames := 0, cells := 0, slots := 0, locals := 0 } : Room) [d] #[(.ref d), (.int (0 : Int32)), (.int c)] h0 (fun r u => r = none ∧ Keep h0 u [d] ∧ Arv Z u d kd .byte (6 : Int32) [(.int (nar .byte (c >>> ((0 : Int32) &&& 31)))), (.int (nar .byte (c >>> ((8 : Int32) &&& 31))))] (.int 0)) := by
  refine Ct.intro pn_java_lang_StringUTF16 hE (fun m => ef20_rii m d _ _) (onesf ge_d A.lt) ⟨a0, own_EW hw⟩ ?_
  intro x T w
  refine w.getS d20_0 (tw hw 90 rfl) (own_ad hr) ?_
  intro T w
  refine w.ifNe d20_3 d20_3t (fun _ => ?_) (fun q => absurd q (by decide))
  refine w.iloadN d20_28 rfl ?_
  refine w.iconst (1 : Int32) d20_29 rfl ?_
  refine w.ishl d20_30 ?_
  refine w.istoreN #[.val (.ref d), .val (.int ((0 : Int32) <<< ((1 : Int32) &&& 31))), .val (.int c)] d20_31 rfl ?_
  refine w.aloadN d20_32 rfl rfl ?_
  refine w.iloadN d20_33 rfl ?_
  refine w.iinc (1 : Int32) #[.val (.ref d), .val (.int (((0 : Int32) <<< ((1 : Int32) &&& 31)) + (1 : Int32))), .val (.int c)] d20_34 rfl rfl rfl ?_
  refine w.iloadN d20_37 rfl ?_
  refine w.getS d20_38 (tw hw 91 rfl) (own_hi hr) ?_
  intro T w
  refine w.ishr d20_41 ?_
  refine w.i2b d20_42 ?_
  refine w.stB 0 [(.int 0)] d20_43 A ⟨by decide, by decide⟩ (by decide) (pad_rep [] (.int 0) 1) (by simp) (fnb _) (List.mem_of_getElem? (i := 0) rfl) ?_
  intro T h1 w W0 B0
  rw [nbb] at B0 W0
  have C0 : Arv Z h1 d kd .byte (6 : Int32) [(.int (nar .byte (c >>> ((0 : Int32) &&& 31))))] (.int 0) := B0
  refine w.aloadN d20_44 rfl rfl ?_
  refine w.iloadN d20_45 rfl ?_
  refine w.iloadN d20_46 rfl ?_
  refine w.getS d20_47 (tw hw 92 rfl) (own_lo hr) ?_
  intro T w
  refine w.ishr d20_50 ?_
  refine w.i2b d20_51 ?_
  refine w.stB 1 [(.int (nar .byte (c >>> ((0 : Int32) &&& 31)))), (.int 0)] d20_52 C0 ⟨by decide, by decide⟩ (by decide) (pad_rep [(.int (nar .byte (c >>> ((0 : Int32) &&& 31))))] (.int 0) 1) (by simp) (fnb _) (List.mem_of_getElem? (i := 0) rfl) ?_
  intro T h2 w W1 B1
  rw [nbb] at B1 W1
  have C1 : Arv Z h2 d kd .byte (6 : Int32) [(.int (nar .byte (c >>> ((0 : Int32) &&& 31)))), (.int (nar .byte (c >>> ((8 : Int32) &&& 31))))] (.int 0) := B1
  exact w.retV d20_53 rfl ⟨rfl, (((Keep.refl _ _).wr W0 (Or.inl (List.mem_singleton.mpr rfl))).wr W1 (Or.inl (List.mem_singleton.mpr rfl))), C1⟩

set_option maxRecDepth 65536 in
set_option maxHeartbeats 40000000 in
theorem rmPu_3_1 (l : Launch) (Z : State) (a0 : Array Value) (hw : ∀ d ∈ tables_1, d.before a0 Z = true) (hr : rest_1_c.value a0 Z none Z [] = some true) (d : Addr) (kd : ClassId) (b0 b1 : Int32) (c : Int32) (h0 : Heap) (hE : Ext Z.heap h0) (ge_d : Z.heap.size ≤ d) (A : Arv Z h0 d kd .byte (6 : Int32) [(.int b0), (.int b1)] (.int 0)) :
    Ct true l Z consts_1 (⟨"java/lang/StringUTF16", "putChar", "([BII)V"⟩ : MethodName) jdk_52_method_4_code 3 none [] ({ frames := 0, cells := 0, slots := 0, locals := 0 } : Room) [d] #[(.ref d), (.int (1 : Int32)), (.int c)] h0 (fun r u => r = none ∧ Keep h0 u [d] ∧ Arv Z u d kd .byte (6 : Int32) [(.int b0), (.int b1), (.int (nar .byte (c >>> ((0 : Int32) &&& 31)))), (.int (nar .byte (c >>> ((8 : Int32) &&& 31))))] (.int 0)) := by
  refine Ct.intro pn_java_lang_StringUTF16 hE (fun m => ef20_rii m d _ _) (onesf ge_d A.lt) ⟨a0, own_EW hw⟩ ?_
  intro x T w
  refine w.getS d20_0 (tw hw 90 rfl) (own_ad hr) ?_
  intro T w
  refine w.ifNe d20_3 d20_3t (fun _ => ?_) (fun q => absurd q (by decide))
  refine w.iloadN d20_28 rfl ?_
  refine w.iconst (1 : Int32) d20_29 rfl ?_
  refine w.ishl d20_30 ?_
  refine w.istoreN #[.val (.ref d), .val (.int ((1 : Int32) <<< ((1 : Int32) &&& 31))), .val (.int c)] d20_31 rfl ?_
  refine w.aloadN d20_32 rfl rfl ?_
  refine w.iloadN d20_33 rfl ?_
  refine w.iinc (1 : Int32) #[.val (.ref d), .val (.int (((1 : Int32) <<< ((1 : Int32) &&& 31)) + (1 : Int32))), .val (.int c)] d20_34 rfl rfl rfl ?_
  refine w.iloadN d20_37 rfl ?_
  refine w.getS d20_38 (tw hw 91 rfl) (own_hi hr) ?_
  intro T w
  refine w.ishr d20_41 ?_
  refine w.i2b d20_42 ?_
  refine w.stB 2 [(.int b0), (.int b1), (.int 0)] d20_43 A ⟨by decide, by decide⟩ (by decide) (pad_rep [(.int b0), (.int b1)] (.int 0) 1) (by simp) (fnb _) (List.mem_of_getElem? (i := 0) rfl) ?_
  intro T h1 w W0 B0
  rw [nbb] at B0 W0
  have C0 : Arv Z h1 d kd .byte (6 : Int32) [(.int b0), (.int b1), (.int (nar .byte (c >>> ((0 : Int32) &&& 31))))] (.int 0) := B0
  refine w.aloadN d20_44 rfl rfl ?_
  refine w.iloadN d20_45 rfl ?_
  refine w.iloadN d20_46 rfl ?_
  refine w.getS d20_47 (tw hw 92 rfl) (own_lo hr) ?_
  intro T w
  refine w.ishr d20_50 ?_
  refine w.i2b d20_51 ?_
  refine w.stB 3 [(.int b0), (.int b1), (.int (nar .byte (c >>> ((0 : Int32) &&& 31)))), (.int 0)] d20_52 C0 ⟨by decide, by decide⟩ (by decide) (pad_rep [(.int b0), (.int b1), (.int (nar .byte (c >>> ((0 : Int32) &&& 31))))] (.int 0) 1) (by simp) (fnb _) (List.mem_of_getElem? (i := 0) rfl) ?_
  intro T h2 w W1 B1
  rw [nbb] at B1 W1
  have C1 : Arv Z h2 d kd .byte (6 : Int32) [(.int b0), (.int b1), (.int (nar .byte (c >>> ((0 : Int32) &&& 31)))), (.int (nar .byte (c >>> ((8 : Int32) &&& 31))))] (.int 0) := B1
  exact w.retV d20_53 rfl ⟨rfl, (((Keep.refl _ _).wr W0 (Or.inl (List.mem_singleton.mpr rfl))).wr W1 (Or.inl (List.mem_singleton.mpr rfl))), C1⟩

set_option maxRecDepth 65536 in
set_option maxHeartbeats 40000000 in
theorem rmPu_3_2 (l : Launch) (Z : State) (a0 : Array Value) (hw : ∀ d ∈ tables_1, d.before a0 Z = true) (hr : rest_1_c.value a0 Z none Z [] = some true) (d : Addr) (kd : ClassId) (b0 b1 b2 b3 : Int32) (c : Int32) (h0 : Heap) (hE : Ext Z.heap h0) (ge_d : Z.heap.size ≤ d) (A : Arv Z h0 d kd .byte (6 : Int32) [(.int b0), (.int b1), (.int b2), (.int b3)] (.int 0)) :
    Ct true l Z consts_1 (⟨"java/lang/StringUTF16", "putChar", "([BII)V"⟩ : MethodName) jdk_52_method_4_code 3 none [] ({ frames := 0, cells := 0, slots := 0, locals := 0 } : Room) [d] #[(.ref d), (.int (2 : Int32)), (.int c)] h0 (fun r u => r = none ∧ Keep h0 u [d] ∧ Arv Z u d kd .byte (6 : Int32) [(.int b0), (.int b1), (.int b2), (.int b3), (.int (nar .byte (c >>> ((0 : Int32) &&& 31)))), (.int (nar .byte (c >>> ((8 : Int32) &&& 31))))] (.int 0)) := by
  refine Ct.intro pn_java_lang_StringUTF16 hE (fun m => ef20_rii m d _ _) (onesf ge_d A.lt) ⟨a0, own_EW hw⟩ ?_
  intro x T w
  refine w.getS d20_0 (tw hw 90 rfl) (own_ad hr) ?_
  intro T w
  refine w.ifNe d20_3 d20_3t (fun _ => ?_) (fun q => absurd q (by decide))
  refine w.iloadN d20_28 rfl ?_
  refine w.iconst (1 : Int32) d20_29 rfl ?_
  refine w.ishl d20_30 ?_
  refine w.istoreN #[.val (.ref d), .val (.int ((2 : Int32) <<< ((1 : Int32) &&& 31))), .val (.int c)] d20_31 rfl ?_
  refine w.aloadN d20_32 rfl rfl ?_
  refine w.iloadN d20_33 rfl ?_
  refine w.iinc (1 : Int32) #[.val (.ref d), .val (.int (((2 : Int32) <<< ((1 : Int32) &&& 31)) + (1 : Int32))), .val (.int c)] d20_34 rfl rfl rfl ?_
  refine w.iloadN d20_37 rfl ?_
  refine w.getS d20_38 (tw hw 91 rfl) (own_hi hr) ?_
  intro T w
  refine w.ishr d20_41 ?_
  refine w.i2b d20_42 ?_
  refine w.stB 4 [(.int b0), (.int b1), (.int b2), (.int b3), (.int 0)] d20_43 A ⟨by decide, by decide⟩ (by decide) (pad_rep [(.int b0), (.int b1), (.int b2), (.int b3)] (.int 0) 1) (by simp) (fnb _) (List.mem_of_getElem? (i := 0) rfl) ?_
  intro T h1 w W0 B0
  rw [nbb] at B0 W0
  have C0 : Arv Z h1 d kd .byte (6 : Int32) [(.int b0), (.int b1), (.int b2), (.int b3), (.int (nar .byte (c >>> ((0 : Int32) &&& 31))))] (.int 0) := B0
  refine w.aloadN d20_44 rfl rfl ?_
  refine w.iloadN d20_45 rfl ?_
  refine w.iloadN d20_46 rfl ?_
  refine w.getS d20_47 (tw hw 92 rfl) (own_lo hr) ?_
  intro T w
  refine w.ishr d20_50 ?_
  refine w.i2b d20_51 ?_
  refine w.stB 5 [(.int b0), (.int b1), (.int b2), (.int b3), (.int (nar .byte (c >>> ((0 : Int32) &&& 31)))), (.int 0)] d20_52 C0 ⟨by decide, by decide⟩ (by decide) (pad_rep [(.int b0), (.int b1), (.int b2), (.int b3), (.int (nar .byte (c >>> ((0 : Int32) &&& 31))))] (.int 0) 1) (by simp) (fnb _) (List.mem_of_getElem? (i := 0) rfl) ?_
  intro T h2 w W1 B1
  rw [nbb] at B1 W1
  have C1 : Arv Z h2 d kd .byte (6 : Int32) [(.int b0), (.int b1), (.int b2), (.int b3), (.int (nar .byte (c >>> ((0 : Int32) &&& 31)))), (.int (nar .byte (c >>> ((8 : Int32) &&& 31))))] (.int 0) := B1
  exact w.retV d20_53 rfl ⟨rfl, (((Keep.refl _ _).wr W0 (Or.inl (List.mem_singleton.mpr rfl))).wr W1 (Or.inl (List.mem_singleton.mpr rfl))), C1⟩

set_option maxRecDepth 65536 in
set_option maxHeartbeats 40000000 in
theorem rmTo_3 (l : Launch) (Z : State) (a0 : Array Value) (hw : ∀ d ∈ tables_1, d.before a0 Z = true) (hr : rest_1_c.value a0 Z none Z [] = some true) (b : Addr) (kb : ClassId) (c0 c1 c2 : Int32) (h0 : Heap) (hE : Ext Z.heap h0) (Ab : Arv Z h0 b kb .char (3 : Int32) [(.int c0), (.int c1), (.int c2)] (.int 0)) :
    Ct true l Z consts_1 (⟨"java/lang/StringUTF16", "toBytes", "([CII)[B"⟩ : MethodName) jdk_52_method_14_code 5 (some (.array .byte)) [] ({ frames := 2, cells := 1, slots := 6, locals := 24 } : Room) [] #[(.ref b), (.int (0 : Int32)), (.int (3 : Int32))] h0 (fun r u => ∃ d kd, r = some (.ref d) ∧ Ext h0 u ∧ h0.size ≤ d ∧ Arv Z u d kd .byte (6 : Int32) [(.int (nar .byte (c0 >>> ((0 : Int32) &&& 31)))), (.int (nar .byte (c0 >>> ((8 : Int32) &&& 31)))), (.int (nar .byte (c1 >>> ((0 : Int32) &&& 31)))), (.int (nar .byte (c1 >>> ((8 : Int32) &&& 31)))), (.int (nar .byte (c2 >>> ((0 : Int32) &&& 31)))), (.int (nar .byte (c2 >>> ((8 : Int32) &&& 31))))] (.int 0)) := by
  refine Ct.intro pn_java_lang_StringUTF16 hE (fun m => ef17_rii m b _ _) nosf ⟨a0, own_EW hw⟩ ?_
  intro x T w
  refine w.iloadN d17_0 rfl ?_
  refine w.callS (argsL := [(.int (3 : Int32))]) (rest := []) 0 d17_1 (tw hw 80 rfl) (tw hw 81 rfl) (tw hw 44 rfl) (tw hw 82 rfl) (by decide) (rmNF_3 l Z a0 hw h0 w.old) (lenOf pd_16 rfl) rfl rfl (Nat.le_refl _) ⟨by decide, by decide, by decide, by decide⟩ all0 ?_
  intro T h1 r w _ hQ
  obtain ⟨d, kd, rfl, E1, gd, A0⟩ := hQ
  have ge_d : Z.heap.size ≤ d := Nat.le_trans hE.1 gd
  have w := w.adopt ge_d A0.lt (fun vm hZ => own_safe hw hZ A0 (by decide))
  have nbd : b ≠ d := Nat.ne_of_lt (Nat.lt_of_lt_of_le Ab.lt gd)
  have Ab := Ab.ext E1
  show Go x _ Z _ _ _ T 4 #[.val (.ref b), .val (.int (0 : Int32)), .val (.int (3 : Int32)), .unset, .unset] [(.ref d)]
  refine w.astoreN #[.val (.ref b), .val (.int (0 : Int32)), .val (.int (3 : Int32)), .val (.ref d), .unset] d17_4 rfl rfl ?_
  refine w.iconst (0 : Int32) d17_5 rfl ?_
  refine w.istore #[.val (.ref b), .val (.int (0 : Int32)), .val (.int (3 : Int32)), .val (.ref d), .val (.int (0 : Int32))] d17_6 rfl ?_
  refine w.iload d17_8 rfl ?_
  refine w.iloadN d17_10 rfl ?_
  refine w.icmpGe d17_11 d17_11t (fun q => absurd (by decide) q) (fun _ => ?_)
  refine w.aloadN d17_14 rfl rfl ?_
  refine w.iload d17_15 rfl ?_
  refine w.aloadN d17_17 rfl rfl ?_
  refine w.iloadN d17_18 rfl ?_
  obtain ⟨cl0, Ar0, -, S0, -, H0, -⟩ := id Ab
  refine w.caload d17_19 Ar0 (inb_of S0 (by decide)) (H0.at (inb_of S0 (by decide)) rfl) ?_
  refine w.callS (argsL := [(.ref d), (.int (0 : Int32)), (.int c0)]) (rest := []) 0 d17_20 (tw hw 87 rfl) (tw hw 88 rfl) (tw hw 44 rfl) (tw hw 89 rfl) (by decide) (rmPu_3_0 l Z a0 hw hr d kd  c0 h1 w.old ge_d A0) (lenOf pd_17 rfl) rfl rfl (Nat.le_refl _) ⟨by decide, by decide, by decide, by decide⟩ (allS (List.mem_of_getElem? (i := 0) rfl) all0) ?_
  intro T h2 r w _ hQ
  obtain ⟨rfl, K0, A1⟩ := hQ
  have Ab := Ab.keep K0 (ninS nbd nin0)
  show Go x _ Z _ _ _ T 23 #[.val (.ref b), .val (.int (0 : Int32)), .val (.int (3 : Int32)), .val (.ref d), .val (.int (0 : Int32))] []
  refine w.iinc (1 : Int32) #[.val (.ref b), .val (.int (1 : Int32)), .val (.int (3 : Int32)), .val (.ref d), .val (.int (0 : Int32))] d17_23 rfl rfl rfl ?_
  refine w.iinc (1 : Int32) #[.val (.ref b), .val (.int (1 : Int32)), .val (.int (3 : Int32)), .val (.ref d), .val (.int (1 : Int32))] d17_26 rfl rfl rfl ?_
  refine w.goto d17_29 d17_29t ?_
  refine w.iload d17_8 rfl ?_
  refine w.iloadN d17_10 rfl ?_
  refine w.icmpGe d17_11 d17_11t (fun q => absurd (by decide) q) (fun _ => ?_)
  refine w.aloadN d17_14 rfl rfl ?_
  refine w.iload d17_15 rfl ?_
  refine w.aloadN d17_17 rfl rfl ?_
  refine w.iloadN d17_18 rfl ?_
  obtain ⟨cl1, Ar1, -, S1, -, H1, -⟩ := id Ab
  refine w.caload d17_19 Ar1 (inb_of S1 (by decide)) (H1.at (inb_of S1 (by decide)) rfl) ?_
  refine w.callS (argsL := [(.ref d), (.int (1 : Int32)), (.int c1)]) (rest := []) 0 d17_20 (tw hw 87 rfl) (tw hw 88 rfl) (tw hw 44 rfl) (tw hw 89 rfl) (by decide) (rmPu_3_1 l Z a0 hw hr d kd (nar .byte (c0 >>> ((0 : Int32) &&& 31))) (nar .byte (c0 >>> ((8 : Int32) &&& 31))) c1 h2 w.old ge_d A1) (lenOf pd_17 rfl) rfl rfl (Nat.le_refl _) ⟨by decide, by decide, by decide, by decide⟩ (allS (List.mem_of_getElem? (i := 0) rfl) all0) ?_
  intro T h3 r w _ hQ
  obtain ⟨rfl, K1, A2⟩ := hQ
  have Ab := Ab.keep K1 (ninS nbd nin0)
  show Go x _ Z _ _ _ T 23 #[.val (.ref b), .val (.int (1 : Int32)), .val (.int (3 : Int32)), .val (.ref d), .val (.int (1 : Int32))] []
  refine w.iinc (1 : Int32) #[.val (.ref b), .val (.int (2 : Int32)), .val (.int (3 : Int32)), .val (.ref d), .val (.int (1 : Int32))] d17_23 rfl rfl rfl ?_
  refine w.iinc (1 : Int32) #[.val (.ref b), .val (.int (2 : Int32)), .val (.int (3 : Int32)), .val (.ref d), .val (.int (2 : Int32))] d17_26 rfl rfl rfl ?_
  refine w.goto d17_29 d17_29t ?_
  refine w.iload d17_8 rfl ?_
  refine w.iloadN d17_10 rfl ?_
  refine w.icmpGe d17_11 d17_11t (fun q => absurd (by decide) q) (fun _ => ?_)
  refine w.aloadN d17_14 rfl rfl ?_
  refine w.iload d17_15 rfl ?_
  refine w.aloadN d17_17 rfl rfl ?_
  refine w.iloadN d17_18 rfl ?_
  obtain ⟨cl2, Ar2, -, S2, -, H2, -⟩ := id Ab
  refine w.caload d17_19 Ar2 (inb_of S2 (by decide)) (H2.at (inb_of S2 (by decide)) rfl) ?_
  refine w.callS (argsL := [(.ref d), (.int (2 : Int32)), (.int c2)]) (rest := []) 0 d17_20 (tw hw 87 rfl) (tw hw 88 rfl) (tw hw 44 rfl) (tw hw 89 rfl) (by decide) (rmPu_3_2 l Z a0 hw hr d kd (nar .byte (c0 >>> ((0 : Int32) &&& 31))) (nar .byte (c0 >>> ((8 : Int32) &&& 31))) (nar .byte (c1 >>> ((0 : Int32) &&& 31))) (nar .byte (c1 >>> ((8 : Int32) &&& 31))) c2 h3 w.old ge_d A2) (lenOf pd_17 rfl) rfl rfl (Nat.le_refl _) ⟨by decide, by decide, by decide, by decide⟩ (allS (List.mem_of_getElem? (i := 0) rfl) all0) ?_
  intro T h4 r w _ hQ
  obtain ⟨rfl, K2, A3⟩ := hQ
  have Ab := Ab.keep K2 (ninS nbd nin0)
  show Go x _ Z _ _ _ T 23 #[.val (.ref b), .val (.int (2 : Int32)), .val (.int (3 : Int32)), .val (.ref d), .val (.int (2 : Int32))] []
  refine w.iinc (1 : Int32) #[.val (.ref b), .val (.int (3 : Int32)), .val (.int (3 : Int32)), .val (.ref d), .val (.int (2 : Int32))] d17_23 rfl rfl rfl ?_
  refine w.iinc (1 : Int32) #[.val (.ref b), .val (.int (3 : Int32)), .val (.int (3 : Int32)), .val (.ref d), .val (.int (3 : Int32))] d17_26 rfl rfl rfl ?_
  refine w.goto d17_29 d17_29t ?_
  refine w.iload d17_8 rfl ?_
  refine w.iloadN d17_10 rfl ?_
  refine w.icmpGe d17_11 d17_11t (fun _ => ?_) (fun q => absurd q (by decide))
  refine w.aloadN d17_32 rfl rfl ?_
  exact w.retA d17_33 rfl rfl rfl rfl ⟨d, kd, rfl, keep_to E1 ((K0.trans K1 (allS (Or.inl (List.mem_singleton.mpr rfl)) all0)).trans K2 (allS (Or.inl (List.mem_singleton.mpr rfl)) all0)) (allS gd all0), gd, A3⟩

set_option maxRecDepth 65536 in
set_option maxHeartbeats 40000000 in
theorem rmC5x_3_0 (l : Launch) (Z : State) (a0 : Array Value) (hw : ∀ d ∈ tables_1, d.before a0 Z = true) (b d : Addr) (kb kd : ClassId) (c0 c1 c2 : Int32) (h0 : Heap) (hE : Ext Z.heap h0) (ge_d : Z.heap.size ≤ d) (nbd : b ≠ d) (Ab : Arv Z h0 b kb .char (3 : Int32) [(.int c0), (.int c1), (.int c2)] (.int 0)) (Ad : Arv Z h0 d kd .byte (3 : Int32) [] (.int 0))  (gp : 255 < c0) :
    Ct true l Z consts_1 (⟨"java/lang/StringUTF16", "compress", "([CI[BII)I"⟩ : MethodName) jdk_52_method_21_code 7 (some .int) [] ({ frames := 0, cells := 0, slots := 0, locals := 0 } : Room) [d] #[(.ref b), (.int (0 : Int32)), (.ref d), (.int (0 : Int32)), (.int (3 : Int32))] h0 (fun r u => r = some (.int (0 : Int32)) ∧ Keep h0 u [d]) := by
  refine Ct.intro pn_java_lang_StringUTF16 hE (fun m => ef9_ririi m b _ d _ _) (onesf ge_d Ad.lt) ⟨a0, own_EW hw⟩ ?_
  intro x T w
  refine w.iconst (0 : Int32) d9_0 rfl ?_
  refine w.istore #[.val (.ref b), .val (.int (0 : Int32)), .val (.ref d), .val (.int (0 : Int32)), .val (.int (3 : Int32)), .val (.int (0 : Int32)), .unset] d9_1 rfl ?_
  refine w.iload d9_3 rfl ?_
  refine w.iload d9_5 rfl ?_
  refine w.icmpGe d9_7 d9_7t (fun q => absurd (by decide) q) (fun _ => ?_)
  refine w.aloadN d9_10 rfl rfl ?_
  refine w.iloadN d9_11 rfl ?_
  obtain ⟨cl0, Ar0, -, S0, -, H0, -⟩ := id Ab
  refine w.caload d9_12 Ar0 (inb_of S0 (by decide)) (H0.at (inb_of S0 (by decide)) rfl) ?_
  refine w.istore #[.val (.ref b), .val (.int (0 : Int32)), .val (.ref d), .val (.int (0 : Int32)), .val (.int (3 : Int32)), .val (.int (0 : Int32)), .val (.int c0)] d9_13 rfl ?_
  refine w.iload d9_15 rfl ?_
  refine w.sipush (255 : Int32) d9_17 rfl ?_
  refine w.icmpLe d9_20 d9_20t (fun q => absurd gp q) (fun _ => ?_)
  refine w.iload d9_23 rfl ?_
  exact w.retI d9_25 rfl ⟨rfl, (Keep.refl _ _)⟩

set_option maxRecDepth 65536 in
set_option maxHeartbeats 40000000 in
theorem rmC3x_3_0 (l : Launch) (Z : State) (a0 : Array Value) (hw : ∀ d ∈ tables_1, d.before a0 Z = true) (hr : rest_1_c.value a0 Z none Z [] = some true) (b : Addr) (kb : ClassId) (c0 c1 c2 : Int32) (h0 : Heap) (hE : Ext Z.heap h0) (Ab : Arv Z h0 b kb .char (3 : Int32) [(.int c0), (.int c1), (.int c2)] (.int 0)) (z0 : 0 ≤ c0.toInt) (v0 : c0.toInt < 65536) (z1 : 0 ≤ c1.toInt) (v1 : c1.toInt < 65536) (z2 : 0 ≤ c2.toInt) (v2 : c2.toInt < 65536)  (gp : 255 < c0) :
    Ct true l Z consts_1 (⟨"java/lang/StringUTF16", "compress", "([CII)[B"⟩ : MethodName) jdk_52_method_16_code 6 (some (.array .byte)) [] ({ frames := 3, cells := 2, slots := 9, locals := 40 } : Room) [] #[(.ref b), (.int (0 : Int32)), (.int (3 : Int32))] h0 (fun r u => ∃ d kd, r = some (.ref d) ∧ Ext h0 u ∧ h0.size ≤ d ∧ Arv Z u d kd .byte (6 : Int32) [(.int (nar .byte (c0 >>> ((0 : Int32) &&& 31)))), (.int (nar .byte (c0 >>> ((8 : Int32) &&& 31)))), (.int (nar .byte (c1 >>> ((0 : Int32) &&& 31)))), (.int (nar .byte (c1 >>> ((8 : Int32) &&& 31)))), (.int (nar .byte (c2 >>> ((0 : Int32) &&& 31)))), (.int (nar .byte (c2 >>> ((8 : Int32) &&& 31))))] (.int 0)) := by
  refine Ct.intro pn_java_lang_StringUTF16 hE (fun m => ef8_rii m b _ _) nosf ⟨a0, own_EW hw⟩ ?_
  intro x T w
  refine w.iloadN d8_0 rfl ?_
  have sz0 := w.size
  refine w.newP 3 "[B" d8_1 (tw hw 20 rfl) (by decide) (by decide) (by decide) (by decide) ⟨by decide, by decide⟩ ?_
  intro d T h1 kd g_d w E_d A_d X_d
  have ge_d : Z.heap.size ≤ d := by rw [g_d]; exact sz0
  have nbd : b ≠ d := Nat.ne_of_lt (Nat.lt_of_lt_of_eq Ab.lt g_d.symm)
  refine w.astoreN #[.val (.ref b), .val (.int (0 : Int32)), .val (.int (3 : Int32)), .val (.ref d), .unset, .unset] d8_3 rfl rfl ?_
  refine w.aloadN d8_4 rfl rfl ?_
  refine w.iloadN d8_5 rfl ?_
  refine w.aloadN d8_6 rfl rfl ?_
  refine w.iconst (0 : Int32) d8_7 rfl ?_
  refine w.iloadN d8_8 rfl ?_
  refine w.callS (argsL := [(.ref b), (.int (0 : Int32)), (.ref d), (.int (0 : Int32)), (.int (3 : Int32))]) (rest := []) 0 d8_9 (tw hw 46 rfl) (tw hw 47 rfl) (tw hw 44 rfl) (tw hw 48 rfl) (by decide) (rmC5x_3_0 l Z a0 hw b d kb kd c0 c1 c2 h1 w.old ge_d nbd (Ab.ext E_d) A_d  gp) (lenOf pd_12 rfl) rfl rfl (Nat.le_refl _) ⟨by decide, by decide, by decide, by decide⟩ (allS (List.mem_of_getElem? (i := 0) rfl) all0) ?_
  intro T h2 r w _ hQ
  obtain ⟨rfl, K1⟩ := hQ
  have E2 := keep_to E_d K1 (allS (Nat.le_of_eq g_d.symm) all0)
  have Ab := Ab.ext E2
  show Go x _ Z _ _ _ T 12 #[.val (.ref b), .val (.int (0 : Int32)), .val (.int (3 : Int32)), .val (.ref d), .unset, .unset] [(.int (0 : Int32))]
  refine w.istore #[.val (.ref b), .val (.int (0 : Int32)), .val (.int (3 : Int32)), .val (.ref d), .val (.int (0 : Int32)), .unset] d8_12 rfl ?_
  refine w.iload d8_14 rfl ?_
  refine w.iloadN d8_16 rfl ?_
  refine w.icmpEq d8_17 d8_17t (fun q => absurd q (by decide)) (fun _ => ?_)
  refine w.aloadN d8_20 rfl rfl ?_
  refine w.iloadN d8_21 rfl ?_
  refine w.iloadN d8_22 rfl ?_
  refine w.callS (argsL := [(.ref b), (.int (0 : Int32)), (.int (3 : Int32))]) (rest := []) 0 d8_23 (tw hw 77 rfl) (tw hw 78 rfl) (tw hw 44 rfl) (tw hw 79 rfl) (by decide) (rmTo_3 l Z a0 hw hr b kb c0 c1 c2 h2 w.old Ab) (lenOf pd_13 rfl) rfl rfl (Nat.le_refl _) ⟨by decide, by decide, by decide, by decide⟩ all0 ?_
  intro T h3 r w _ hQ
  obtain ⟨e, ke, rfl, E3, ge, Ae⟩ := hQ
  show Go x _ Z _ _ _ T 26 #[.val (.ref b), .val (.int (0 : Int32)), .val (.int (3 : Int32)), .val (.ref d), .val (.int (0 : Int32)), .unset] [(.ref e)]
  refine w.astore #[.val (.ref b), .val (.int (0 : Int32)), .val (.int (3 : Int32)), .val (.ref d), .val (.int (0 : Int32)), .val (.ref e)] d8_26 rfl rfl ?_
  refine w.aload d8_28 rfl rfl ?_
  refine w.iload d8_30 rfl ?_
  refine w.callS (argsL := [(.ref e), (.int (0 : Int32))]) (rest := []) 0 d8_32 (tw hw 93 rfl) (tw hw 94 rfl) (tw hw 44 rfl) (tw hw 95 rfl) (by decide) (rmGe_3_0 l Z a0 hw hr e ke c0 c1 c2 h3 w.old Ae z0 v0) (lenOf pd_5 rfl) rfl rfl (Nat.le_refl _) ⟨by decide, by decide, by decide, by decide⟩ all0 ?_
  intro T h4 r w _ hQ
  obtain ⟨rfl, rfl⟩ := hQ
  show Go x _ Z _ _ _ T 35 #[.val (.ref b), .val (.int (0 : Int32)), .val (.int (3 : Int32)), .val (.ref d), .val (.int (0 : Int32)), .val (.ref e)] [(.int c0)]
  refine w.sipush (255 : Int32) d8_35 rfl ?_
  refine w.icmpGt d8_38 d8_38t (fun _ => ?_) (fun q => absurd gp q)
  refine w.aload d8_54 rfl rfl ?_
  exact w.retA d8_56 rfl rfl rfl rfl ⟨e, ke, rfl, ext_trans E2 E3, Nat.le_trans E2.1 ge, Ae⟩

set_option maxRecDepth 65536 in
set_option maxHeartbeats 40000000 in
theorem rmC5x_3_1 (l : Launch) (Z : State) (a0 : Array Value) (hw : ∀ d ∈ tables_1, d.before a0 Z = true) (b d : Addr) (kb kd : ClassId) (c0 c1 c2 : Int32) (h0 : Heap) (hE : Ext Z.heap h0) (ge_d : Z.heap.size ≤ d) (nbd : b ≠ d) (Ab : Arv Z h0 b kb .char (3 : Int32) [(.int c0), (.int c1), (.int c2)] (.int 0)) (Ad : Arv Z h0 d kd .byte (3 : Int32) [] (.int 0)) (u0 : ¬ 255 < c0) (gp : 255 < c1) :
    Ct true l Z consts_1 (⟨"java/lang/StringUTF16", "compress", "([CI[BII)I"⟩ : MethodName) jdk_52_method_21_code 7 (some .int) [] ({ frames := 0, cells := 0, slots := 0, locals := 0 } : Room) [d] #[(.ref b), (.int (0 : Int32)), (.ref d), (.int (0 : Int32)), (.int (3 : Int32))] h0 (fun r u => r = some (.int (1 : Int32)) ∧ Keep h0 u [d]) := by
  refine Ct.intro pn_java_lang_StringUTF16 hE (fun m => ef9_ririi m b _ d _ _) (onesf ge_d Ad.lt) ⟨a0, own_EW hw⟩ ?_
  intro x T w
  refine w.iconst (0 : Int32) d9_0 rfl ?_
  refine w.istore #[.val (.ref b), .val (.int (0 : Int32)), .val (.ref d), .val (.int (0 : Int32)), .val (.int (3 : Int32)), .val (.int (0 : Int32)), .unset] d9_1 rfl ?_
  refine w.iload d9_3 rfl ?_
  refine w.iload d9_5 rfl ?_
  refine w.icmpGe d9_7 d9_7t (fun q => absurd (by decide) q) (fun _ => ?_)
  refine w.aloadN d9_10 rfl rfl ?_
  refine w.iloadN d9_11 rfl ?_
  obtain ⟨cl0, Ar0, -, S0, -, H0, -⟩ := id Ab
  refine w.caload d9_12 Ar0 (inb_of S0 (by decide)) (H0.at (inb_of S0 (by decide)) rfl) ?_
  refine w.istore #[.val (.ref b), .val (.int (0 : Int32)), .val (.ref d), .val (.int (0 : Int32)), .val (.int (3 : Int32)), .val (.int (0 : Int32)), .val (.int c0)] d9_13 rfl ?_
  refine w.iload d9_15 rfl ?_
  refine w.sipush (255 : Int32) d9_17 rfl ?_
  refine w.icmpLe d9_20 d9_20t (fun _ => ?_) (fun q => absurd q u0)
  refine w.aloadN d9_26 rfl rfl ?_
  refine w.iloadN d9_27 rfl ?_
  refine w.iload d9_28 rfl ?_
  refine w.i2b d9_30 ?_
  refine w.stB 0 [(.int 0)] d9_31 Ad ⟨by decide, by decide⟩ (by decide) (pad_rep [] (.int 0) 1) (by simp) (fnb _) (List.mem_of_getElem? (i := 0) rfl) ?_
  intro T h1 w W0 A0
  rw [nbb] at A0 W0
  have Ad0 : Arv Z h1 d kd .byte (3 : Int32) [(.int (nar .byte c0))] (.int 0) := A0
  have Ab0 := Ab.other W0 nbd
  refine w.iinc (1 : Int32) #[.val (.ref b), .val (.int (1 : Int32)), .val (.ref d), .val (.int (0 : Int32)), .val (.int (3 : Int32)), .val (.int (0 : Int32)), .val (.int c0)] d9_32 rfl rfl rfl ?_
  refine w.iinc (1 : Int32) #[.val (.ref b), .val (.int (1 : Int32)), .val (.ref d), .val (.int (1 : Int32)), .val (.int (3 : Int32)), .val (.int (0 : Int32)), .val (.int c0)] d9_35 rfl rfl rfl ?_
  refine w.iinc (1 : Int32) #[.val (.ref b), .val (.int (1 : Int32)), .val (.ref d), .val (.int (1 : Int32)), .val (.int (3 : Int32)), .val (.int (1 : Int32)), .val (.int c0)] d9_38 rfl rfl rfl ?_
  refine w.goto d9_41 d9_41t ?_
  refine w.iload d9_3 rfl ?_
  refine w.iload d9_5 rfl ?_
  refine w.icmpGe d9_7 d9_7t (fun q => absurd (by decide) q) (fun _ => ?_)
  refine w.aloadN d9_10 rfl rfl ?_
  refine w.iloadN d9_11 rfl ?_
  obtain ⟨cl1, Ar1, -, S1, -, H1, -⟩ := id Ab0
  refine w.caload d9_12 Ar1 (inb_of S1 (by decide)) (H1.at (inb_of S1 (by decide)) rfl) ?_
  refine w.istore #[.val (.ref b), .val (.int (1 : Int32)), .val (.ref d), .val (.int (1 : Int32)), .val (.int (3 : Int32)), .val (.int (1 : Int32)), .val (.int c1)] d9_13 rfl ?_
  refine w.iload d9_15 rfl ?_
  refine w.sipush (255 : Int32) d9_17 rfl ?_
  refine w.icmpLe d9_20 d9_20t (fun q => absurd gp q) (fun _ => ?_)
  refine w.iload d9_23 rfl ?_
  exact w.retI d9_25 rfl ⟨rfl, ((Keep.refl _ _).wr W0 (Or.inl (List.mem_singleton.mpr rfl)))⟩

set_option maxRecDepth 65536 in
set_option maxHeartbeats 40000000 in
theorem rmC3x_3_1 (l : Launch) (Z : State) (a0 : Array Value) (hw : ∀ d ∈ tables_1, d.before a0 Z = true) (hr : rest_1_c.value a0 Z none Z [] = some true) (b : Addr) (kb : ClassId) (c0 c1 c2 : Int32) (h0 : Heap) (hE : Ext Z.heap h0) (Ab : Arv Z h0 b kb .char (3 : Int32) [(.int c0), (.int c1), (.int c2)] (.int 0)) (z0 : 0 ≤ c0.toInt) (v0 : c0.toInt < 65536) (z1 : 0 ≤ c1.toInt) (v1 : c1.toInt < 65536) (z2 : 0 ≤ c2.toInt) (v2 : c2.toInt < 65536) (u0 : ¬ 255 < c0) (gp : 255 < c1) :
    Ct true l Z consts_1 (⟨"java/lang/StringUTF16", "compress", "([CII)[B"⟩ : MethodName) jdk_52_method_16_code 6 (some (.array .byte)) [] ({ frames := 3, cells := 2, slots := 9, locals := 40 } : Room) [] #[(.ref b), (.int (0 : Int32)), (.int (3 : Int32))] h0 (fun r u => ∃ d kd, r = some (.ref d) ∧ Ext h0 u ∧ h0.size ≤ d ∧ Arv Z u d kd .byte (6 : Int32) [(.int (nar .byte (c0 >>> ((0 : Int32) &&& 31)))), (.int (nar .byte (c0 >>> ((8 : Int32) &&& 31)))), (.int (nar .byte (c1 >>> ((0 : Int32) &&& 31)))), (.int (nar .byte (c1 >>> ((8 : Int32) &&& 31)))), (.int (nar .byte (c2 >>> ((0 : Int32) &&& 31)))), (.int (nar .byte (c2 >>> ((8 : Int32) &&& 31))))] (.int 0)) := by
  refine Ct.intro pn_java_lang_StringUTF16 hE (fun m => ef8_rii m b _ _) nosf ⟨a0, own_EW hw⟩ ?_
  intro x T w
  refine w.iloadN d8_0 rfl ?_
  have sz0 := w.size
  refine w.newP 3 "[B" d8_1 (tw hw 20 rfl) (by decide) (by decide) (by decide) (by decide) ⟨by decide, by decide⟩ ?_
  intro d T h1 kd g_d w E_d A_d X_d
  have ge_d : Z.heap.size ≤ d := by rw [g_d]; exact sz0
  have nbd : b ≠ d := Nat.ne_of_lt (Nat.lt_of_lt_of_eq Ab.lt g_d.symm)
  refine w.astoreN #[.val (.ref b), .val (.int (0 : Int32)), .val (.int (3 : Int32)), .val (.ref d), .unset, .unset] d8_3 rfl rfl ?_
  refine w.aloadN d8_4 rfl rfl ?_
  refine w.iloadN d8_5 rfl ?_
  refine w.aloadN d8_6 rfl rfl ?_
  refine w.iconst (0 : Int32) d8_7 rfl ?_
  refine w.iloadN d8_8 rfl ?_
  refine w.callS (argsL := [(.ref b), (.int (0 : Int32)), (.ref d), (.int (0 : Int32)), (.int (3 : Int32))]) (rest := []) 0 d8_9 (tw hw 46 rfl) (tw hw 47 rfl) (tw hw 44 rfl) (tw hw 48 rfl) (by decide) (rmC5x_3_1 l Z a0 hw b d kb kd c0 c1 c2 h1 w.old ge_d nbd (Ab.ext E_d) A_d u0 gp) (lenOf pd_12 rfl) rfl rfl (Nat.le_refl _) ⟨by decide, by decide, by decide, by decide⟩ (allS (List.mem_of_getElem? (i := 0) rfl) all0) ?_
  intro T h2 r w _ hQ
  obtain ⟨rfl, K1⟩ := hQ
  have E2 := keep_to E_d K1 (allS (Nat.le_of_eq g_d.symm) all0)
  have Ab := Ab.ext E2
  show Go x _ Z _ _ _ T 12 #[.val (.ref b), .val (.int (0 : Int32)), .val (.int (3 : Int32)), .val (.ref d), .unset, .unset] [(.int (1 : Int32))]
  refine w.istore #[.val (.ref b), .val (.int (0 : Int32)), .val (.int (3 : Int32)), .val (.ref d), .val (.int (1 : Int32)), .unset] d8_12 rfl ?_
  refine w.iload d8_14 rfl ?_
  refine w.iloadN d8_16 rfl ?_
  refine w.icmpEq d8_17 d8_17t (fun q => absurd q (by decide)) (fun _ => ?_)
  refine w.aloadN d8_20 rfl rfl ?_
  refine w.iloadN d8_21 rfl ?_
  refine w.iloadN d8_22 rfl ?_
  refine w.callS (argsL := [(.ref b), (.int (0 : Int32)), (.int (3 : Int32))]) (rest := []) 0 d8_23 (tw hw 77 rfl) (tw hw 78 rfl) (tw hw 44 rfl) (tw hw 79 rfl) (by decide) (rmTo_3 l Z a0 hw hr b kb c0 c1 c2 h2 w.old Ab) (lenOf pd_13 rfl) rfl rfl (Nat.le_refl _) ⟨by decide, by decide, by decide, by decide⟩ all0 ?_
  intro T h3 r w _ hQ
  obtain ⟨e, ke, rfl, E3, ge, Ae⟩ := hQ
  show Go x _ Z _ _ _ T 26 #[.val (.ref b), .val (.int (0 : Int32)), .val (.int (3 : Int32)), .val (.ref d), .val (.int (1 : Int32)), .unset] [(.ref e)]
  refine w.astore #[.val (.ref b), .val (.int (0 : Int32)), .val (.int (3 : Int32)), .val (.ref d), .val (.int (1 : Int32)), .val (.ref e)] d8_26 rfl rfl ?_
  refine w.aload d8_28 rfl rfl ?_
  refine w.iload d8_30 rfl ?_
  refine w.callS (argsL := [(.ref e), (.int (1 : Int32))]) (rest := []) 0 d8_32 (tw hw 93 rfl) (tw hw 94 rfl) (tw hw 44 rfl) (tw hw 95 rfl) (by decide) (rmGe_3_1 l Z a0 hw hr e ke c0 c1 c2 h3 w.old Ae z1 v1) (lenOf pd_5 rfl) rfl rfl (Nat.le_refl _) ⟨by decide, by decide, by decide, by decide⟩ all0 ?_
  intro T h4 r w _ hQ
  obtain ⟨rfl, rfl⟩ := hQ
  show Go x _ Z _ _ _ T 35 #[.val (.ref b), .val (.int (0 : Int32)), .val (.int (3 : Int32)), .val (.ref d), .val (.int (1 : Int32)), .val (.ref e)] [(.int c1)]
  refine w.sipush (255 : Int32) d8_35 rfl ?_
  refine w.icmpGt d8_38 d8_38t (fun _ => ?_) (fun q => absurd gp q)
  refine w.aload d8_54 rfl rfl ?_
  exact w.retA d8_56 rfl rfl rfl rfl ⟨e, ke, rfl, ext_trans E2 E3, Nat.le_trans E2.1 ge, Ae⟩

set_option maxRecDepth 65536 in
set_option maxHeartbeats 40000000 in
theorem rmC5x_3_2 (l : Launch) (Z : State) (a0 : Array Value) (hw : ∀ d ∈ tables_1, d.before a0 Z = true) (b d : Addr) (kb kd : ClassId) (c0 c1 c2 : Int32) (h0 : Heap) (hE : Ext Z.heap h0) (ge_d : Z.heap.size ≤ d) (nbd : b ≠ d) (Ab : Arv Z h0 b kb .char (3 : Int32) [(.int c0), (.int c1), (.int c2)] (.int 0)) (Ad : Arv Z h0 d kd .byte (3 : Int32) [] (.int 0)) (u0 : ¬ 255 < c0) (u1 : ¬ 255 < c1) (gp : 255 < c2) :
    Ct true l Z consts_1 (⟨"java/lang/StringUTF16", "compress", "([CI[BII)I"⟩ : MethodName) jdk_52_method_21_code 7 (some .int) [] ({ frames := 0, cells := 0, slots := 0, locals := 0 } : Room) [d] #[(.ref b), (.int (0 : Int32)), (.ref d), (.int (0 : Int32)), (.int (3 : Int32))] h0 (fun r u => r = some (.int (2 : Int32)) ∧ Keep h0 u [d]) := by
  refine Ct.intro pn_java_lang_StringUTF16 hE (fun m => ef9_ririi m b _ d _ _) (onesf ge_d Ad.lt) ⟨a0, own_EW hw⟩ ?_
  intro x T w
  refine w.iconst (0 : Int32) d9_0 rfl ?_
  refine w.istore #[.val (.ref b), .val (.int (0 : Int32)), .val (.ref d), .val (.int (0 : Int32)), .val (.int (3 : Int32)), .val (.int (0 : Int32)), .unset] d9_1 rfl ?_
  refine w.iload d9_3 rfl ?_
  refine w.iload d9_5 rfl ?_
  refine w.icmpGe d9_7 d9_7t (fun q => absurd (by decide) q) (fun _ => ?_)
  refine w.aloadN d9_10 rfl rfl ?_
  refine w.iloadN d9_11 rfl ?_
  obtain ⟨cl0, Ar0, -, S0, -, H0, -⟩ := id Ab
  refine w.caload d9_12 Ar0 (inb_of S0 (by decide)) (H0.at (inb_of S0 (by decide)) rfl) ?_
  refine w.istore #[.val (.ref b), .val (.int (0 : Int32)), .val (.ref d), .val (.int (0 : Int32)), .val (.int (3 : Int32)), .val (.int (0 : Int32)), .val (.int c0)] d9_13 rfl ?_
  refine w.iload d9_15 rfl ?_
  refine w.sipush (255 : Int32) d9_17 rfl ?_
  refine w.icmpLe d9_20 d9_20t (fun _ => ?_) (fun q => absurd q u0)
  refine w.aloadN d9_26 rfl rfl ?_
  refine w.iloadN d9_27 rfl ?_
  refine w.iload d9_28 rfl ?_
  refine w.i2b d9_30 ?_
  refine w.stB 0 [(.int 0)] d9_31 Ad ⟨by decide, by decide⟩ (by decide) (pad_rep [] (.int 0) 1) (by simp) (fnb _) (List.mem_of_getElem? (i := 0) rfl) ?_
  intro T h1 w W0 A0
  rw [nbb] at A0 W0
  have Ad0 : Arv Z h1 d kd .byte (3 : Int32) [(.int (nar .byte c0))] (.int 0) := A0
  have Ab0 := Ab.other W0 nbd
  refine w.iinc (1 : Int32) #[.val (.ref b), .val (.int (1 : Int32)), .val (.ref d), .val (.int (0 : Int32)), .val (.int (3 : Int32)), .val (.int (0 : Int32)), .val (.int c0)] d9_32 rfl rfl rfl ?_
  refine w.iinc (1 : Int32) #[.val (.ref b), .val (.int (1 : Int32)), .val (.ref d), .val (.int (1 : Int32)), .val (.int (3 : Int32)), .val (.int (0 : Int32)), .val (.int c0)] d9_35 rfl rfl rfl ?_
  refine w.iinc (1 : Int32) #[.val (.ref b), .val (.int (1 : Int32)), .val (.ref d), .val (.int (1 : Int32)), .val (.int (3 : Int32)), .val (.int (1 : Int32)), .val (.int c0)] d9_38 rfl rfl rfl ?_
  refine w.goto d9_41 d9_41t ?_
  refine w.iload d9_3 rfl ?_
  refine w.iload d9_5 rfl ?_
  refine w.icmpGe d9_7 d9_7t (fun q => absurd (by decide) q) (fun _ => ?_)
  refine w.aloadN d9_10 rfl rfl ?_
  refine w.iloadN d9_11 rfl ?_
  obtain ⟨cl1, Ar1, -, S1, -, H1, -⟩ := id Ab0
  refine w.caload d9_12 Ar1 (inb_of S1 (by decide)) (H1.at (inb_of S1 (by decide)) rfl) ?_
  refine w.istore #[.val (.ref b), .val (.int (1 : Int32)), .val (.ref d), .val (.int (1 : Int32)), .val (.int (3 : Int32)), .val (.int (1 : Int32)), .val (.int c1)] d9_13 rfl ?_
  refine w.iload d9_15 rfl ?_
  refine w.sipush (255 : Int32) d9_17 rfl ?_
  refine w.icmpLe d9_20 d9_20t (fun _ => ?_) (fun q => absurd q u1)
  refine w.aloadN d9_26 rfl rfl ?_
  refine w.iloadN d9_27 rfl ?_
  refine w.iload d9_28 rfl ?_
  refine w.i2b d9_30 ?_
  refine w.stB 1 [(.int (nar .byte c0)), (.int 0)] d9_31 Ad0 ⟨by decide, by decide⟩ (by decide) (pad_rep [(.int (nar .byte c0))] (.int 0) 1) (by simp) (fnb _) (List.mem_of_getElem? (i := 0) rfl) ?_
  intro T h2 w W1 A1
  rw [nbb] at A1 W1
  have Ad1 : Arv Z h2 d kd .byte (3 : Int32) [(.int (nar .byte c0)), (.int (nar .byte c1))] (.int 0) := A1
  have Ab1 := Ab0.other W1 nbd
  refine w.iinc (1 : Int32) #[.val (.ref b), .val (.int (2 : Int32)), .val (.ref d), .val (.int (1 : Int32)), .val (.int (3 : Int32)), .val (.int (1 : Int32)), .val (.int c1)] d9_32 rfl rfl rfl ?_
  refine w.iinc (1 : Int32) #[.val (.ref b), .val (.int (2 : Int32)), .val (.ref d), .val (.int (2 : Int32)), .val (.int (3 : Int32)), .val (.int (1 : Int32)), .val (.int c1)] d9_35 rfl rfl rfl ?_
  refine w.iinc (1 : Int32) #[.val (.ref b), .val (.int (2 : Int32)), .val (.ref d), .val (.int (2 : Int32)), .val (.int (3 : Int32)), .val (.int (2 : Int32)), .val (.int c1)] d9_38 rfl rfl rfl ?_
  refine w.goto d9_41 d9_41t ?_
  refine w.iload d9_3 rfl ?_
  refine w.iload d9_5 rfl ?_
  refine w.icmpGe d9_7 d9_7t (fun q => absurd (by decide) q) (fun _ => ?_)
  refine w.aloadN d9_10 rfl rfl ?_
  refine w.iloadN d9_11 rfl ?_
  obtain ⟨cl2, Ar2, -, S2, -, H2, -⟩ := id Ab1
  refine w.caload d9_12 Ar2 (inb_of S2 (by decide)) (H2.at (inb_of S2 (by decide)) rfl) ?_
  refine w.istore #[.val (.ref b), .val (.int (2 : Int32)), .val (.ref d), .val (.int (2 : Int32)), .val (.int (3 : Int32)), .val (.int (2 : Int32)), .val (.int c2)] d9_13 rfl ?_
  refine w.iload d9_15 rfl ?_
  refine w.sipush (255 : Int32) d9_17 rfl ?_
  refine w.icmpLe d9_20 d9_20t (fun q => absurd gp q) (fun _ => ?_)
  refine w.iload d9_23 rfl ?_
  exact w.retI d9_25 rfl ⟨rfl, (((Keep.refl _ _).wr W0 (Or.inl (List.mem_singleton.mpr rfl))).wr W1 (Or.inl (List.mem_singleton.mpr rfl)))⟩

set_option maxRecDepth 65536 in
set_option maxHeartbeats 40000000 in
theorem rmC3x_3_2 (l : Launch) (Z : State) (a0 : Array Value) (hw : ∀ d ∈ tables_1, d.before a0 Z = true) (hr : rest_1_c.value a0 Z none Z [] = some true) (b : Addr) (kb : ClassId) (c0 c1 c2 : Int32) (h0 : Heap) (hE : Ext Z.heap h0) (Ab : Arv Z h0 b kb .char (3 : Int32) [(.int c0), (.int c1), (.int c2)] (.int 0)) (z0 : 0 ≤ c0.toInt) (v0 : c0.toInt < 65536) (z1 : 0 ≤ c1.toInt) (v1 : c1.toInt < 65536) (z2 : 0 ≤ c2.toInt) (v2 : c2.toInt < 65536) (u0 : ¬ 255 < c0) (u1 : ¬ 255 < c1) (gp : 255 < c2) :
    Ct true l Z consts_1 (⟨"java/lang/StringUTF16", "compress", "([CII)[B"⟩ : MethodName) jdk_52_method_16_code 6 (some (.array .byte)) [] ({ frames := 3, cells := 2, slots := 9, locals := 40 } : Room) [] #[(.ref b), (.int (0 : Int32)), (.int (3 : Int32))] h0 (fun r u => ∃ d kd, r = some (.ref d) ∧ Ext h0 u ∧ h0.size ≤ d ∧ Arv Z u d kd .byte (6 : Int32) [(.int (nar .byte (c0 >>> ((0 : Int32) &&& 31)))), (.int (nar .byte (c0 >>> ((8 : Int32) &&& 31)))), (.int (nar .byte (c1 >>> ((0 : Int32) &&& 31)))), (.int (nar .byte (c1 >>> ((8 : Int32) &&& 31)))), (.int (nar .byte (c2 >>> ((0 : Int32) &&& 31)))), (.int (nar .byte (c2 >>> ((8 : Int32) &&& 31))))] (.int 0)) := by
  refine Ct.intro pn_java_lang_StringUTF16 hE (fun m => ef8_rii m b _ _) nosf ⟨a0, own_EW hw⟩ ?_
  intro x T w
  refine w.iloadN d8_0 rfl ?_
  have sz0 := w.size
  refine w.newP 3 "[B" d8_1 (tw hw 20 rfl) (by decide) (by decide) (by decide) (by decide) ⟨by decide, by decide⟩ ?_
  intro d T h1 kd g_d w E_d A_d X_d
  have ge_d : Z.heap.size ≤ d := by rw [g_d]; exact sz0
  have nbd : b ≠ d := Nat.ne_of_lt (Nat.lt_of_lt_of_eq Ab.lt g_d.symm)
  refine w.astoreN #[.val (.ref b), .val (.int (0 : Int32)), .val (.int (3 : Int32)), .val (.ref d), .unset, .unset] d8_3 rfl rfl ?_
  refine w.aloadN d8_4 rfl rfl ?_
  refine w.iloadN d8_5 rfl ?_
  refine w.aloadN d8_6 rfl rfl ?_
  refine w.iconst (0 : Int32) d8_7 rfl ?_
  refine w.iloadN d8_8 rfl ?_
  refine w.callS (argsL := [(.ref b), (.int (0 : Int32)), (.ref d), (.int (0 : Int32)), (.int (3 : Int32))]) (rest := []) 0 d8_9 (tw hw 46 rfl) (tw hw 47 rfl) (tw hw 44 rfl) (tw hw 48 rfl) (by decide) (rmC5x_3_2 l Z a0 hw b d kb kd c0 c1 c2 h1 w.old ge_d nbd (Ab.ext E_d) A_d u0 u1 gp) (lenOf pd_12 rfl) rfl rfl (Nat.le_refl _) ⟨by decide, by decide, by decide, by decide⟩ (allS (List.mem_of_getElem? (i := 0) rfl) all0) ?_
  intro T h2 r w _ hQ
  obtain ⟨rfl, K1⟩ := hQ
  have E2 := keep_to E_d K1 (allS (Nat.le_of_eq g_d.symm) all0)
  have Ab := Ab.ext E2
  show Go x _ Z _ _ _ T 12 #[.val (.ref b), .val (.int (0 : Int32)), .val (.int (3 : Int32)), .val (.ref d), .unset, .unset] [(.int (2 : Int32))]
  refine w.istore #[.val (.ref b), .val (.int (0 : Int32)), .val (.int (3 : Int32)), .val (.ref d), .val (.int (2 : Int32)), .unset] d8_12 rfl ?_
  refine w.iload d8_14 rfl ?_
  refine w.iloadN d8_16 rfl ?_
  refine w.icmpEq d8_17 d8_17t (fun q => absurd q (by decide)) (fun _ => ?_)
  refine w.aloadN d8_20 rfl rfl ?_
  refine w.iloadN d8_21 rfl ?_
  refine w.iloadN d8_22 rfl ?_
  refine w.callS (argsL := [(.ref b), (.int (0 : Int32)), (.int (3 : Int32))]) (rest := []) 0 d8_23 (tw hw 77 rfl) (tw hw 78 rfl) (tw hw 44 rfl) (tw hw 79 rfl) (by decide) (rmTo_3 l Z a0 hw hr b kb c0 c1 c2 h2 w.old Ab) (lenOf pd_13 rfl) rfl rfl (Nat.le_refl _) ⟨by decide, by decide, by decide, by decide⟩ all0 ?_
  intro T h3 r w _ hQ
  obtain ⟨e, ke, rfl, E3, ge, Ae⟩ := hQ
  show Go x _ Z _ _ _ T 26 #[.val (.ref b), .val (.int (0 : Int32)), .val (.int (3 : Int32)), .val (.ref d), .val (.int (2 : Int32)), .unset] [(.ref e)]
  refine w.astore #[.val (.ref b), .val (.int (0 : Int32)), .val (.int (3 : Int32)), .val (.ref d), .val (.int (2 : Int32)), .val (.ref e)] d8_26 rfl rfl ?_
  refine w.aload d8_28 rfl rfl ?_
  refine w.iload d8_30 rfl ?_
  refine w.callS (argsL := [(.ref e), (.int (2 : Int32))]) (rest := []) 0 d8_32 (tw hw 93 rfl) (tw hw 94 rfl) (tw hw 44 rfl) (tw hw 95 rfl) (by decide) (rmGe_3_2 l Z a0 hw hr e ke c0 c1 c2 h3 w.old Ae z2 v2) (lenOf pd_5 rfl) rfl rfl (Nat.le_refl _) ⟨by decide, by decide, by decide, by decide⟩ all0 ?_
  intro T h4 r w _ hQ
  obtain ⟨rfl, rfl⟩ := hQ
  show Go x _ Z _ _ _ T 35 #[.val (.ref b), .val (.int (0 : Int32)), .val (.int (3 : Int32)), .val (.ref d), .val (.int (2 : Int32)), .val (.ref e)] [(.int c2)]
  refine w.sipush (255 : Int32) d8_35 rfl ?_
  refine w.icmpGt d8_38 d8_38t (fun _ => ?_) (fun q => absurd gp q)
  refine w.aload d8_54 rfl rfl ?_
  exact w.retA d8_56 rfl rfl rfl rfl ⟨e, ke, rfl, ext_trans E2 E3, Nat.le_trans E2.1 ge, Ae⟩

theorem rmC3U_3 (l : Launch) (Z : State) (a0 : Array Value) (hw : ∀ d ∈ tables_1, d.before a0 Z = true) (hr : rest_1_c.value a0 Z none Z [] = some true) (b : Addr) (kb : ClassId) (c0 c1 c2 : Int32) (h0 : Heap) (hE : Ext Z.heap h0) (Ab : Arv Z h0 b kb .char (3 : Int32) [(.int c0), (.int c1), (.int c2)] (.int 0)) (z0 : 0 ≤ c0.toInt) (v0 : c0.toInt < 65536) (z1 : 0 ≤ c1.toInt) (v1 : c1.toInt < 65536) (z2 : 0 ≤ c2.toInt) (v2 : c2.toInt < 65536) (hx : ¬ (¬ 255 < c0 ∧ ¬ 255 < c1 ∧ ¬ 255 < c2 ∧ True)) : Ct true l Z consts_1 (⟨"java/lang/StringUTF16", "compress", "([CII)[B"⟩ : MethodName) jdk_52_method_16_code 6 (some (.array .byte)) [] ({ frames := 3, cells := 2, slots := 9, locals := 40 } : Room) [] #[(.ref b), (.int (0 : Int32)), (.int (3 : Int32))] h0 (fun r u => ∃ d kd, r = some (.ref d) ∧ Ext h0 u ∧ h0.size ≤ d ∧ Arv Z u d kd .byte (6 : Int32) [(.int (nar .byte (c0 >>> ((0 : Int32) &&& 31)))), (.int (nar .byte (c0 >>> ((8 : Int32) &&& 31)))), (.int (nar .byte (c1 >>> ((0 : Int32) &&& 31)))), (.int (nar .byte (c1 >>> ((8 : Int32) &&& 31)))), (.int (nar .byte (c2 >>> ((0 : Int32) &&& 31)))), (.int (nar .byte (c2 >>> ((8 : Int32) &&& 31))))] (.int 0)) := by
  by_cases u0 : 255 < c0
  · exact rmC3x_3_0 l Z a0 hw hr b kb c0 c1 c2 h0 hE Ab z0 v0 z1 v1 z2 v2  u0
  · skip
    by_cases u1 : 255 < c1
    · exact rmC3x_3_1 l Z a0 hw hr b kb c0 c1 c2 h0 hE Ab z0 v0 z1 v1 z2 v2 u0 u1
    · skip
      by_cases u2 : 255 < c2
      · exact rmC3x_3_2 l Z a0 hw hr b kb c0 c1 c2 h0 hE Ab z0 v0 z1 v1 z2 v2 u0 u1 u2
      · exact absurd ⟨u0, u1, u2, trivial⟩ hx
set_option maxRecDepth 65536 in
set_option maxHeartbeats 40000000 in
theorem rmCL_6_3 (l : Launch) (Z : State) (a0 : Array Value) (hw : ∀ d ∈ tables_1, d.before a0 Z = true) (d : Addr) (kd : ClassId) (vs : List Value) (h0 : Heap) (hE : Ext Z.heap h0) (Ad : Arv Z h0 d kd .byte (6 : Int32) vs (.int 0)) :
    Ct true l Z consts_1 (⟨"java/lang/StringUTF16", "coderFromArrayLen", "([BI)B"⟩ : MethodName) jdk_52_method_15_code 2 (some .byte) [] ({ frames := 0, cells := 0, slots := 0, locals := 0 } : Room) [] #[(.ref d), (.int (3 : Int32))] h0 (fun r u => r = some (.int (1 : Int32)) ∧ h0 = u) := by
  refine Ct.intro pn_java_lang_StringUTF16 hE (fun m => ef10_ri m d _) nosf ⟨a0, own_EW hw⟩ ?_
  intro x T w
  obtain ⟨cl, Ar, -, S, M, -, -⟩ := Ad
  refine w.iloadN d10_0 rfl ?_
  refine w.aloadN d10_1 rfl rfl ?_
  refine w.alen (6 : Int32) d10_2 Ar (len_of S M) ?_
  refine w.isub d10_3 ?_
  refine w.bipush (31 : Int32) d10_4 rfl ?_
  refine w.iushr d10_6 ?_
  refine w.i2b d10_7 ?_
  exact w.retN d10_8 rfl (by simp) ⟨rfl, rfl⟩

set_option maxRecDepth 65536 in
set_option maxHeartbeats 40000000 in
theorem rmS4u_3 (l : Launch) (Z : State) (a0 : Array Value) (hw : ∀ d ∈ tables_1, d.before a0 Z = true) (hr : rest_1_c.value a0 Z none Z [] = some true) (a b : Addr) (kb : ClassId) (c0 c1 c2 : Int32) (h0 : Heap) (hE : Ext Z.heap h0) (ge_a : Z.heap.size ≤ a) (E0 : Exa Z h0 a "java/lang/String") (G1 : Fld Z h0 a "java/lang/String" "value" "[B" .null) (G2 : Fld Z h0 a "java/lang/String" "coder" "B" (.int (0 : Int32))) (Ab : Arv Z h0 b kb .char (3 : Int32) [(.int c0), (.int c1), (.int c2)] (.int 0)) (z0 : 0 ≤ c0.toInt) (v0 : c0.toInt < 65536) (z1 : 0 ≤ c1.toInt) (v1 : c1.toInt < 65536) (z2 : 0 ≤ c2.toInt) (v2 : c2.toInt < 65536) (hx : ¬ (¬ 255 < c0 ∧ ¬ 255 < c1 ∧ ¬ 255 < c2 ∧ True)) :
    Ct true l Z consts_1 (⟨"java/lang/String", "<init>", "([CIILjava/lang/Void;)V"⟩ : MethodName) jdk_42_method_149_code 6 none [] ({ frames := 4, cells := 2, slots := 9, locals := 57 } : Room) [a] #[(.ref a), (.ref b), (.int (0 : Int32)), (.int (3 : Int32)), .null] h0 (fun r u => r = none ∧ Keep h0 u [a] ∧ ∃ t, StrL Z u a t 1 [nar .byte (c0 >>> ((0 : Int32) &&& 31)), nar .byte (c0 >>> ((8 : Int32) &&& 31)), nar .byte (c1 >>> ((0 : Int32) &&& 31)), nar .byte (c1 >>> ((8 : Int32) &&& 31)), nar .byte (c2 >>> ((0 : Int32) &&& 31)), nar .byte (c2 >>> ((8 : Int32) &&& 31))]) := by
  refine Ct.intro pn_java_lang_String hE (fun m => ef3_rriin m a b _ _) (onesf ge_a E0.lt) ⟨a0, own_EW hw⟩ ?_
  intro x T w
  obtain ⟨cz, Scs, hcz⟩ := own_cs hr
  refine w.aloadN d3_0 rfl rfl ?_
  refine w.initO 0 d3_1 (tw hw 16 rfl) (tw hw 17 rfl) (tw hw 18 rfl) rfl (Nat.le_refl _) ⟨by decide, by decide⟩ ?_
  intro T w
  refine w.iloadN d3_4 rfl ?_
  refine w.ifNe d3_5 d3_5t (fun _ => ?_) (fun q => absurd q (by decide))
  refine w.getS d3_27 (tw hw 41 rfl) Scs ?_
  intro T w
  refine w.ifEq d3_30 d3_30t (fun q => absurd q hcz) (fun _ => ?_)
  refine w.aloadN d3_33 rfl rfl ?_
  refine w.iloadN d3_34 rfl ?_
  refine w.iloadN d3_35 rfl ?_
  refine w.callS (argsL := [(.ref b), (.int (0 : Int32)), (.int (3 : Int32))]) (rest := []) 0 d3_36 (tw hw 42 rfl) (tw hw 43 rfl) (tw hw 44 rfl) (tw hw 45 rfl) (by decide) (rmC3U_3 l Z a0 hw hr b kb c0 c1 c2 h0 w.old Ab z0 v0 z1 v1 z2 v2 hx) (lenOf pd_13 rfl) rfl rfl (Nat.le_refl _) ⟨by decide, by decide, by decide, by decide⟩ all0 ?_
  intro T h1 r w _ hQ
  obtain ⟨d, kd, rfl, E1, gd, A1⟩ := hQ
  have ne_a_d : a ≠ d := Nat.ne_of_lt (Nat.lt_of_lt_of_le E0.lt gd)
  have F1 := E0.ext E1
  have F2 := G1.ext E1
  have F3 := G2.ext E1
  show Go x _ Z _ _ _ T 39 #[.val (.ref a), .val (.ref b), .val (.int (0 : Int32)), .val (.int (3 : Int32)), .val .null, .unset] [(.ref d)]
  refine w.astore #[.val (.ref a), .val (.ref b), .val (.int (0 : Int32)), .val (.int (3 : Int32)), .val .null, .val (.ref d)] d3_39 rfl rfl ?_
  refine w.aloadN d3_41 rfl rfl ?_
  refine w.aload d3_42 rfl rfl ?_
  refine w.iloadN d3_44 rfl ?_
  refine w.callS (argsL := [(.ref d), (.int (3 : Int32))]) (rest := [(.ref a)]) 1 d3_45 (tw hw 49 rfl) (tw hw 50 rfl) (tw hw 44 rfl) (tw hw 51 rfl) (by decide) (rmCL_6_3 l Z a0 hw d kd _ h1 w.old A1) (lenOf pd_14 rfl) rfl rfl (Nat.le_refl _) ⟨by decide, by decide, by decide, by decide⟩ all0 ?_
  intro T h2 r w _ hQ
  obtain ⟨rfl, rfl⟩ := hQ
  show Go x _ Z _ _ _ T 48 #[.val (.ref a), .val (.ref b), .val (.int (0 : Int32)), .val (.int (3 : Int32)), .val .null, .val (.ref d)] [(.int (1 : Int32)), (.ref a)]
  refine w.putF d3_48 (tw hw 26 rfl) F3 F1 (Or.inr ⟨(tw hw 22 rfl), rfl, rfl⟩) (tw hw 7 rfl) (ty := .byte) (by decide) rfl rfl (List.mem_of_getElem? (i := 0) rfl) ?_
  intro T h3 w W4
  have F5 := F1.wr W4
  have F6 := F2.other W4 (Or.inr (slot_ne (Or.inr (tw hw 21 rfl)) (Or.inr (tw hw 22 rfl)) (by decide) (t := (.array .byte)) (t' := .byte) (by decide) (by decide)))
  have F7 := F3.same W4
  have F8 := A1.other W4 (Ne.symm ne_a_d)
  refine w.aloadN d3_51 rfl rfl ?_
  refine w.aload d3_52 rfl rfl ?_
  refine w.putF d3_54 (tw hw 25 rfl) F6 F5 (Or.inr ⟨(tw hw 21 rfl), rfl, rfl⟩) (tw hw 7 rfl) (ty := (.array .byte)) (by decide) rfl rfl (List.mem_of_getElem? (i := 0) rfl) ?_
  intro T h4 w W9
  have F10 := F5.wr W9
  have F11 := F6.same W9
  have F12 := F7.other W9 (Or.inr (slot_ne (Or.inr (tw hw 22 rfl)) (Or.inr (tw hw 21 rfl)) (by decide) (t := .byte) (t' := (.array .byte)) (by decide) (by decide)))
  have F13 := F8.other W9 (Ne.symm ne_a_d)
  exact w.retV d3_57 rfl ⟨rfl, (((keep_ext E1).wr W4 (Or.inl (List.mem_singleton.mpr rfl))).wr W9 (Or.inl (List.mem_singleton.mpr rfl))), d, F10, F11, F12, kd, F13, by simp⟩

set_option maxRecDepth 65536 in
set_option maxHeartbeats 40000000 in
theorem rmS1E_3 (l : Launch) (Z : State) (a0 : Array Value) (hw : ∀ d ∈ tables_1, d.before a0 Z = true) (hr : rest_1_c.value a0 Z none Z [] = some true) (a b : Addr) (kb : ClassId) (c0 c1 c2 : Int32) (h0 : Heap) (hE : Ext Z.heap h0) (ge_a : Z.heap.size ≤ a) (E0 : Exa Z h0 a "java/lang/String") (G1 : Fld Z h0 a "java/lang/String" "value" "[B" .null) (G2 : Fld Z h0 a "java/lang/String" "coder" "B" (.int (0 : Int32))) (Ab : Arv Z h0 b kb .char (3 : Int32) [(.int c0), (.int c1), (.int c2)] (.int 0)) (z0 : 0 ≤ c0.toInt) (v0 : c0.toInt < 65536) (z1 : 0 ≤ c1.toInt) (v1 : c1.toInt < 65536) (z2 : 0 ≤ c2.toInt) (v2 : c2.toInt < 65536) :
    Ct true l Z consts_1 (⟨"java/lang/String", "<init>", "([C)V"⟩ : MethodName) jdk_42_method_3_code 2 none [] ({ frames := 5, cells := 2, slots := 9, locals := 74 } : Room) [a] #[(.ref a), (.ref b)] h0 (fun r u => r = none ∧ Keep h0 u [a] ∧ ∃ t, ((StrL Z u a t 0 [nar .byte c0, nar .byte c1, nar .byte c2] ∧ (¬ 255 < c0 ∧ ¬ 255 < c1 ∧ ¬ 255 < c2 ∧ True)) ∨ StrL Z u a t 1 [nar .byte (c0 >>> ((0 : Int32) &&& 31)), nar .byte (c0 >>> ((8 : Int32) &&& 31)), nar .byte (c1 >>> ((0 : Int32) &&& 31)), nar .byte (c1 >>> ((8 : Int32) &&& 31)), nar .byte (c2 >>> ((0 : Int32) &&& 31)), nar .byte (c2 >>> ((8 : Int32) &&& 31))])) := by
  refine Ct.intro pn_java_lang_String hE (fun m => ef2_rr m a b) (onesf ge_a E0.lt) ⟨a0, own_EW hw⟩ ?_
  intro x T w
  obtain ⟨cl, Ar, -, S, M, -, -⟩ := id Ab
  by_cases hx : (¬ 255 < c0 ∧ ¬ 255 < c1 ∧ ¬ 255 < c2 ∧ True)
  · refine w.aloadN d2_0 rfl rfl ?_
    refine w.aloadN d2_1 rfl rfl ?_
    refine w.iconst (0 : Int32) d2_2 rfl ?_
    refine w.aloadN d2_3 rfl rfl ?_
    refine w.alen (3 : Int32) d2_4 Ar (len_of S M) ?_
    refine w.aconstNull d2_5 ?_
    refine w.callI (argsL := [(.ref b), (.int (0 : Int32)), (.int (3 : Int32)), .null]) (rest := []) 0 d2_6 rfl (tw hw 12 rfl) (tw hw 13 rfl) (tw hw 8 rfl) (tw hw 15 rfl) (by decide) (rmS4_3 l Z a0 hw hr a b kb c0 c1 c2 h0 w.old ge_a E0 G1 G2 Ab hx.1 hx.2.1 hx.2.2.1) (lenOf pd_9 rfl) rfl rfl (Nat.le_refl _) ⟨by decide, by decide, by decide, by decide⟩ (allS (List.mem_of_getElem? (i := 0) rfl) all0) ?_
    intro T h1 r w _ hQ
    obtain ⟨rfl, K1, t, gt, S1⟩ := hQ
    exact w.retV d2_9 rfl ⟨rfl, K1, t, Or.inl ⟨S1, hx⟩⟩
  · refine w.aloadN d2_0 rfl rfl ?_
    refine w.aloadN d2_1 rfl rfl ?_
    refine w.iconst (0 : Int32) d2_2 rfl ?_
    refine w.aloadN d2_3 rfl rfl ?_
    refine w.alen (3 : Int32) d2_4 Ar (len_of S M) ?_
    refine w.aconstNull d2_5 ?_
    refine w.callI (argsL := [(.ref b), (.int (0 : Int32)), (.int (3 : Int32)), .null]) (rest := []) 0 d2_6 rfl (tw hw 12 rfl) (tw hw 13 rfl) (tw hw 8 rfl) (tw hw 15 rfl) (by decide) (rmS4u_3 l Z a0 hw hr a b kb c0 c1 c2 h0 w.old ge_a E0 G1 G2 Ab z0 v0 z1 v1 z2 v2 hx) (lenOf pd_9 rfl) rfl rfl (Nat.le_refl _) ⟨by decide, by decide, by decide, by decide⟩ (allS (List.mem_of_getElem? (i := 0) rfl) all0) ?_
    intro T h2 r w _ hQ
    obtain ⟨rfl, K1, t, S1⟩ := hQ
    exact w.retV d2_9 rfl ⟨rfl, K1, t, Or.inr S1⟩

set_option maxRecDepth 65536 in
set_option maxHeartbeats 40000000 in
theorem rmC5_4 (l : Launch) (Z : State) (a0 : Array Value) (hw : ∀ d ∈ tables_1, d.before a0 Z = true) (b d : Addr) (kb kd : ClassId) (c0 c1 c2 c3 : Int32) (h0 : Heap) (hE : Ext Z.heap h0) (ge_d : Z.heap.size ≤ d) (nbd : b ≠ d) (Ab : Arv Z h0 b kb .char (4 : Int32) [(.int c0), (.int c1), (.int c2), (.int c3)] (.int 0)) (Ad : Arv Z h0 d kd .byte (4 : Int32) [] (.int 0)) (u0 : ¬ 255 < c0) (u1 : ¬ 255 < c1) (u2 : ¬ 255 < c2) (u3 : ¬ 255 < c3) :
    Ct true l Z consts_1 (⟨"java/lang/StringUTF16", "compress", "([CI[BII)I"⟩ : MethodName) jdk_52_method_21_code 7 (some .int) [] ({ frames := 0, cells := 0, slots := 0, locals := 0 } : Room) [d] #[(.ref b), (.int (0 : Int32)), (.ref d), (.int (0 : Int32)), (.int (4 : Int32))] h0 (fun r u => r = some (.int (4 : Int32)) ∧ Keep h0 u [d] ∧ Arv Z u d kd .byte (4 : Int32) [(.int (nar .byte c0)), (.int (nar .byte c1)), (.int (nar .byte c2)), (.int (nar .byte c3))] (.int 0)) := by
  refine Ct.intro pn_java_lang_StringUTF16 hE (fun m => ef9_ririi m b _ d _ _) (onesf ge_d Ad.lt) ⟨a0, own_EW hw⟩ ?_
  intro x T w
  refine w.iconst (0 : Int32) d9_0 rfl ?_
  refine w.istore #[.val (.ref b), .val (.int (0 : Int32)), .val (.ref d), .val (.int (0 : Int32)), .val (.int (4 : Int32)), .val (.int (0 : Int32)), .unset] d9_1 rfl ?_
  refine w.iload d9_3 rfl ?_
  refine w.iload d9_5 rfl ?_
  refine w.icmpGe d9_7 d9_7t (fun q => absurd (by decide) q) (fun _ => ?_)
  refine w.aloadN d9_10 rfl rfl ?_
  refine w.iloadN d9_11 rfl ?_
  obtain ⟨cl0, Ar0, -, S0, -, H0, -⟩ := id Ab
  refine w.caload d9_12 Ar0 (inb_of S0 (by decide)) (H0.at (inb_of S0 (by decide)) rfl) ?_
  refine w.istore #[.val (.ref b), .val (.int (0 : Int32)), .val (.ref d), .val (.int (0 : Int32)), .val (.int (4 : Int32)), .val (.int (0 : Int32)), .val (.int c0)] d9_13 rfl ?_
  refine w.iload d9_15 rfl ?_
  refine w.sipush (255 : Int32) d9_17 rfl ?_
  refine w.icmpLe d9_20 d9_20t (fun _ => ?_) (fun q => absurd q u0)
  refine w.aloadN d9_26 rfl rfl ?_
  refine w.iloadN d9_27 rfl ?_
  refine w.iload d9_28 rfl ?_
  refine w.i2b d9_30 ?_
  refine w.stB 0 [(.int 0)] d9_31 Ad ⟨by decide, by decide⟩ (by decide) (pad_rep [] (.int 0) 1) (by simp) (fnb _) (List.mem_of_getElem? (i := 0) rfl) ?_
  intro T h1 w W0 A0
  rw [nbb] at A0 W0
  have Ad0 : Arv Z h1 d kd .byte (4 : Int32) [(.int (nar .byte c0))] (.int 0) := A0
  have Ab0 := Ab.other W0 nbd
  refine w.iinc (1 : Int32) #[.val (.ref b), .val (.int (1 : Int32)), .val (.ref d), .val (.int (0 : Int32)), .val (.int (4 : Int32)), .val (.int (0 : Int32)), .val (.int c0)] d9_32 rfl rfl rfl ?_
  refine w.iinc (1 : Int32) #[.val (.ref b), .val (.int (1 : Int32)), .val (.ref d), .val (.int (1 : Int32)), .val (.int (4 : Int32)), .val (.int (0 : Int32)), .val (.int c0)] d9_35 rfl rfl rfl ?_
  refine w.iinc (1 : Int32) #[.val (.ref b), .val (.int (1 : Int32)), .val (.ref d), .val (.int (1 : Int32)), .val (.int (4 : Int32)), .val (.int (1 : Int32)), .val (.int c0)] d9_38 rfl rfl rfl ?_
  refine w.goto d9_41 d9_41t ?_
  refine w.iload d9_3 rfl ?_
  refine w.iload d9_5 rfl ?_
  refine w.icmpGe d9_7 d9_7t (fun q => absurd (by decide) q) (fun _ => ?_)
  refine w.aloadN d9_10 rfl rfl ?_
  refine w.iloadN d9_11 rfl ?_
  obtain ⟨cl1, Ar1, -, S1, -, H1, -⟩ := id Ab0
  refine w.caload d9_12 Ar1 (inb_of S1 (by decide)) (H1.at (inb_of S1 (by decide)) rfl) ?_
  refine w.istore #[.val (.ref b), .val (.int (1 : Int32)), .val (.ref d), .val (.int (1 : Int32)), .val (.int (4 : Int32)), .val (.int (1 : Int32)), .val (.int c1)] d9_13 rfl ?_
  refine w.iload d9_15 rfl ?_
  refine w.sipush (255 : Int32) d9_17 rfl ?_
  refine w.icmpLe d9_20 d9_20t (fun _ => ?_) (fun q => absurd q u1)
  refine w.aloadN d9_26 rfl rfl ?_
  refine w.iloadN d9_27 rfl ?_
  refine w.iload d9_28 rfl ?_
  refine w.i2b d9_30 ?_
  refine w.stB 1 [(.int (nar .byte c0)), (.int 0)] d9_31 Ad0 ⟨by decide, by decide⟩ (by decide) (pad_rep [(.int (nar .byte c0))] (.int 0) 1) (by simp) (fnb _) (List.mem_of_getElem? (i := 0) rfl) ?_
  intro T h2 w W1 A1
  rw [nbb] at A1 W1
  have Ad1 : Arv Z h2 d kd .byte (4 : Int32) [(.int (nar .byte c0)), (.int (nar .byte c1))] (.int 0) := A1
  have Ab1 := Ab0.other W1 nbd
  refine w.iinc (1 : Int32) #[.val (.ref b), .val (.int (2 : Int32)), .val (.ref d), .val (.int (1 : Int32)), .val (.int (4 : Int32)), .val (.int (1 : Int32)), .val (.int c1)] d9_32 rfl rfl rfl ?_
  refine w.iinc (1 : Int32) #[.val (.ref b), .val (.int (2 : Int32)), .val (.ref d), .val (.int (2 : Int32)), .val (.int (4 : Int32)), .val (.int (1 : Int32)), .val (.int c1)] d9_35 rfl rfl rfl ?_
  refine w.iinc (1 : Int32) #[.val (.ref b), .val (.int (2 : Int32)), .val (.ref d), .val (.int (2 : Int32)), .val (.int (4 : Int32)), .val (.int (2 : Int32)), .val (.int c1)] d9_38 rfl rfl rfl ?_
  refine w.goto d9_41 d9_41t ?_
  refine w.iload d9_3 rfl ?_
  refine w.iload d9_5 rfl ?_
  refine w.icmpGe d9_7 d9_7t (fun q => absurd (by decide) q) (fun _ => ?_)
  refine w.aloadN d9_10 rfl rfl ?_
  refine w.iloadN d9_11 rfl ?_
  obtain ⟨cl2, Ar2, -, S2, -, H2, -⟩ := id Ab1
  refine w.caload d9_12 Ar2 (inb_of S2 (by decide)) (H2.at (inb_of S2 (by decide)) rfl) ?_
  refine w.istore #[.val (.ref b), .val (.int (2 : Int32)), .val (.ref d), .val (.int (2 : Int32)), .val (.int (4 : Int32)), .val (.int (2 : Int32)), .val (.int c2)] d9_13 rfl ?_
  refine w.iload d9_15 rfl ?_
  refine w.sipush (255 : Int32) d9_17 rfl ?_
  refine w.icmpLe d9_20 d9_20t (fun _ => ?_) (fun q => absurd q u2)
  refine w.aloadN d9_26 rfl rfl ?_
  refine w.iloadN d9_27 rfl ?_
  refine w.iload d9_28 rfl ?_
  refine w.i2b d9_30 ?_
  refine w.stB 2 [(.int (nar .byte c0)), (.int (nar .byte c1)), (.int 0)] d9_31 Ad1 ⟨by decide, by decide⟩ (by decide) (pad_rep [(.int (nar .byte c0)), (.int (nar .byte c1))] (.int 0) 1) (by simp) (fnb _) (List.mem_of_getElem? (i := 0) rfl) ?_
  intro T h3 w W2 A2
  rw [nbb] at A2 W2
  have Ad2 : Arv Z h3 d kd .byte (4 : Int32) [(.int (nar .byte c0)), (.int (nar .byte c1)), (.int (nar .byte c2))] (.int 0) := A2
  have Ab2 := Ab1.other W2 nbd
  refine w.iinc (1 : Int32) #[.val (.ref b), .val (.int (3 : Int32)), .val (.ref d), .val (.int (2 : Int32)), .val (.int (4 : Int32)), .val (.int (2 : Int32)), .val (.int c2)] d9_32 rfl rfl rfl ?_
  refine w.iinc (1 : Int32) #[.val (.ref b), .val (.int (3 : Int32)), .val (.ref d), .val (.int (3 : Int32)), .val (.int (4 : Int32)), .val (.int (2 : Int32)), .val (.int c2)] d9_35 rfl rfl rfl ?_
  refine w.iinc (1 : Int32) #[.val (.ref b), .val (.int (3 : Int32)), .val (.ref d), .val (.int (3 : Int32)), .val (.int (4 : Int32)), .val (.int (3 : Int32)), .val (.int c2)] d9_38 rfl rfl rfl ?_
  refine w.goto d9_41 d9_41t ?_
  refine w.iload d9_3 rfl ?_
  refine w.iload d9_5 rfl ?_
  refine w.icmpGe d9_7 d9_7t (fun q => absurd (by decide) q) (fun _ => ?_)
  refine w.aloadN d9_10 rfl rfl ?_
  refine w.iloadN d9_11 rfl ?_
  obtain ⟨cl3, Ar3, -, S3, -, H3, -⟩ := id Ab2
  refine w.caload d9_12 Ar3 (inb_of S3 (by decide)) (H3.at (inb_of S3 (by decide)) rfl) ?_
  refine w.istore #[.val (.ref b), .val (.int (3 : Int32)), .val (.ref d), .val (.int (3 : Int32)), .val (.int (4 : Int32)), .val (.int (3 : Int32)), .val (.int c3)] d9_13 rfl ?_
  refine w.iload d9_15 rfl ?_
  refine w.sipush (255 : Int32) d9_17 rfl ?_
  refine w.icmpLe d9_20 d9_20t (fun _ => ?_) (fun q => absurd q u3)
  refine w.aloadN d9_26 rfl rfl ?_
  refine w.iloadN d9_27 rfl ?_
  refine w.iload d9_28 rfl ?_
  refine w.i2b d9_30 ?_
  refine w.stB 3 [(.int (nar .byte c0)), (.int (nar .byte c1)), (.int (nar .byte c2)), (.int 0)] d9_31 Ad2 ⟨by decide, by decide⟩ (by decide) (pad_rep [(.int (nar .byte c0)), (.int (nar .byte c1)), (.int (nar .byte c2))] (.int 0) 1) (by simp) (fnb _) (List.mem_of_getElem? (i := 0) rfl) ?_
  intro T h4 w W3 A3
  rw [nbb] at A3 W3
  have Ad3 : Arv Z h4 d kd .byte (4 : Int32) [(.int (nar .byte c0)), (.int (nar .byte c1)), (.int (nar .byte c2)), (.int (nar .byte c3))] (.int 0) := A3
  have Ab3 := Ab2.other W3 nbd
  refine w.iinc (1 : Int32) #[.val (.ref b), .val (.int (4 : Int32)), .val (.ref d), .val (.int (3 : Int32)), .val (.int (4 : Int32)), .val (.int (3 : Int32)), .val (.int c3)] d9_32 rfl rfl rfl ?_
  refine w.iinc (1 : Int32) #[.val (.ref b), .val (.int (4 : Int32)), .val (.ref d), .val (.int (4 : Int32)), .val (.int (4 : Int32)), .val (.int (3 : Int32)), .val (.int c3)] d9_35 rfl rfl rfl ?_
  refine w.iinc (1 : Int32) #[.val (.ref b), .val (.int (4 : Int32)), .val (.ref d), .val (.int (4 : Int32)), .val (.int (4 : Int32)), .val (.int (4 : Int32)), .val (.int c3)] d9_38 rfl rfl rfl ?_
  refine w.goto d9_41 d9_41t ?_
  refine w.iload d9_3 rfl ?_
  refine w.iload d9_5 rfl ?_
  refine w.icmpGe d9_7 d9_7t (fun _ => ?_) (fun q => absurd q (by decide))
  refine w.iload d9_44 rfl ?_
  exact w.retI d9_46 rfl ⟨rfl, (((((Keep.refl _ _).wr W0 (Or.inl (List.mem_singleton.mpr rfl))).wr W1 (Or.inl (List.mem_singleton.mpr rfl))).wr W2 (Or.inl (List.mem_singleton.mpr rfl))).wr W3 (Or.inl (List.mem_singleton.mpr rfl))), Ad3⟩

set_option maxRecDepth 65536 in
set_option maxHeartbeats 40000000 in
theorem rmC3_4 (l : Launch) (Z : State) (a0 : Array Value) (hw : ∀ d ∈ tables_1, d.before a0 Z = true) (b : Addr) (kb : ClassId) (c0 c1 c2 c3 : Int32) (h0 : Heap) (hE : Ext Z.heap h0) (Ab : Arv Z h0 b kb .char (4 : Int32) [(.int c0), (.int c1), (.int c2), (.int c3)] (.int 0)) (u0 : ¬ 255 < c0) (u1 : ¬ 255 < c1) (u2 : ¬ 255 < c2) (u3 : ¬ 255 < c3) :
    Ct true l Z consts_1 (⟨"java/lang/StringUTF16", "compress", "([CII)[B"⟩ : MethodName) jdk_52_method_16_code 6 (some (.array .byte)) [] ({ frames := 1, cells := 1, slots := 4, locals := 18 } : Room) [] #[(.ref b), (.int (0 : Int32)), (.int (4 : Int32))] h0 (fun r u => ∃ d kd, r = some (.ref d) ∧ Ext h0 u ∧ h0.size ≤ d ∧ Arv Z u d kd .byte (4 : Int32) [(.int (nar .byte c0)), (.int (nar .byte c1)), (.int (nar .byte c2)), (.int (nar .byte c3))] (.int 0)) := by
  refine Ct.intro pn_java_lang_StringUTF16 hE (fun m => ef8_rii m b _ _) nosf ⟨a0, own_EW hw⟩ ?_
  intro x T w
  refine w.iloadN d8_0 rfl ?_
  have sz0 := w.size
  refine w.newP 4 "[B" d8_1 (tw hw 20 rfl) (by decide) (by decide) (by decide) (by decide) ⟨by decide, by decide⟩ ?_
  intro d T h1 kd g_d w E_d A_d X_d
  have ge_d : Z.heap.size ≤ d := by rw [g_d]; exact sz0
  have nbd : b ≠ d := Nat.ne_of_lt (Nat.lt_of_lt_of_eq Ab.lt g_d.symm)
  refine w.astoreN #[.val (.ref b), .val (.int (0 : Int32)), .val (.int (4 : Int32)), .val (.ref d), .unset, .unset] d8_3 rfl rfl ?_
  refine w.aloadN d8_4 rfl rfl ?_
  refine w.iloadN d8_5 rfl ?_
  refine w.aloadN d8_6 rfl rfl ?_
  refine w.iconst (0 : Int32) d8_7 rfl ?_
  refine w.iloadN d8_8 rfl ?_
  refine w.callS (argsL := [(.ref b), (.int (0 : Int32)), (.ref d), (.int (0 : Int32)), (.int (4 : Int32))]) (rest := []) 0 d8_9 (tw hw 46 rfl) (tw hw 47 rfl) (tw hw 44 rfl) (tw hw 48 rfl) (by decide) (rmC5_4 l Z a0 hw b d kb kd c0 c1 c2 c3 h1 w.old ge_d nbd (Ab.ext E_d) A_d u0 u1 u2 u3) (lenOf pd_12 rfl) rfl rfl (Nat.le_refl _) ⟨by decide, by decide, by decide, by decide⟩ (allS (List.mem_of_getElem? (i := 0) rfl) all0) ?_
  intro T h2 r w _ hQ
  obtain ⟨rfl, K1, A1⟩ := hQ
  show Go x _ Z _ _ _ T 12 #[.val (.ref b), .val (.int (0 : Int32)), .val (.int (4 : Int32)), .val (.ref d), .unset, .unset] [(.int (4 : Int32))]
  refine w.istore #[.val (.ref b), .val (.int (0 : Int32)), .val (.int (4 : Int32)), .val (.ref d), .val (.int (4 : Int32)), .unset] d8_12 rfl ?_
  refine w.iload d8_14 rfl ?_
  refine w.iloadN d8_16 rfl ?_
  refine w.icmpEq d8_17 d8_17t (fun _ => ?_) (fun q => absurd rfl q)
  refine w.aloadN d8_57 rfl rfl ?_
  exact w.retA d8_58 rfl rfl rfl rfl ⟨d, kd, rfl, keep_to E_d K1 (allS (Nat.le_of_eq g_d.symm) all0), Nat.le_of_eq g_d.symm, A1⟩

set_option maxRecDepth 65536 in
set_option maxHeartbeats 40000000 in
theorem rmCL_4_4 (l : Launch) (Z : State) (a0 : Array Value) (hw : ∀ d ∈ tables_1, d.before a0 Z = true) (d : Addr) (kd : ClassId) (vs : List Value) (h0 : Heap) (hE : Ext Z.heap h0) (Ad : Arv Z h0 d kd .byte (4 : Int32) vs (.int 0)) :
    Ct true l Z consts_1 (⟨"java/lang/StringUTF16", "coderFromArrayLen", "([BI)B"⟩ : MethodName) jdk_52_method_15_code 2 (some .byte) [] ({ frames := 0, cells := 0, slots := 0, locals := 0 } : Room) [] #[(.ref d), (.int (4 : Int32))] h0 (fun r u => r = some (.int (0 : Int32)) ∧ h0 = u) := by
  refine Ct.intro pn_java_lang_StringUTF16 hE (fun m => ef10_ri m d _) nosf ⟨a0, own_EW hw⟩ ?_
  intro x T w
  obtain ⟨cl, Ar, -, S, M, -, -⟩ := Ad
  refine w.iloadN d10_0 rfl ?_
  refine w.aloadN d10_1 rfl rfl ?_
  refine w.alen (4 : Int32) d10_2 Ar (len_of S M) ?_
  refine w.isub d10_3 ?_
  refine w.bipush (31 : Int32) d10_4 rfl ?_
  refine w.iushr d10_6 ?_
  refine w.i2b d10_7 ?_
  exact w.retN d10_8 rfl (by simp) ⟨rfl, rfl⟩

set_option maxRecDepth 65536 in
set_option maxHeartbeats 40000000 in
theorem rmS4_4 (l : Launch) (Z : State) (a0 : Array Value) (hw : ∀ d ∈ tables_1, d.before a0 Z = true) (hr : rest_1_c.value a0 Z none Z [] = some true) (a b : Addr) (kb : ClassId) (c0 c1 c2 c3 : Int32) (h0 : Heap) (hE : Ext Z.heap h0) (ge_a : Z.heap.size ≤ a) (E0 : Exa Z h0 a "java/lang/String") (G1 : Fld Z h0 a "java/lang/String" "value" "[B" .null) (G2 : Fld Z h0 a "java/lang/String" "coder" "B" (.int (0 : Int32))) (Ab : Arv Z h0 b kb .char (4 : Int32) [(.int c0), (.int c1), (.int c2), (.int c3)] (.int 0)) (u0 : ¬ 255 < c0) (u1 : ¬ 255 < c1) (u2 : ¬ 255 < c2) (u3 : ¬ 255 < c3) :
    Ct true l Z consts_1 (⟨"java/lang/String", "<init>", "([CIILjava/lang/Void;)V"⟩ : MethodName) jdk_42_method_149_code 6 none [] ({ frames := 2, cells := 1, slots := 4, locals := 36 } : Room) [a] #[(.ref a), (.ref b), (.int (0 : Int32)), (.int (4 : Int32)), .null] h0 (fun r u => r = none ∧ Keep h0 u [a] ∧ ∃ t, h0.size ≤ t ∧ StrL Z u a t 0 [nar .byte c0, nar .byte c1, nar .byte c2, nar .byte c3]) := by
  refine Ct.intro pn_java_lang_String hE (fun m => ef3_rriin m a b _ _) (onesf ge_a E0.lt) ⟨a0, own_EW hw⟩ ?_
  intro x T w
  obtain ⟨cz, Scs, hcz⟩ := own_cs hr
  refine w.aloadN d3_0 rfl rfl ?_
  refine w.initO 0 d3_1 (tw hw 16 rfl) (tw hw 17 rfl) (tw hw 18 rfl) rfl (Nat.le_refl _) ⟨by decide, by decide⟩ ?_
  intro T w
  refine w.iloadN d3_4 rfl ?_
  refine w.ifNe d3_5 d3_5t (fun _ => ?_) (fun q => absurd q (by decide))
  refine w.getS d3_27 (tw hw 41 rfl) Scs ?_
  intro T w
  refine w.ifEq d3_30 d3_30t (fun q => absurd q hcz) (fun _ => ?_)
  refine w.aloadN d3_33 rfl rfl ?_
  refine w.iloadN d3_34 rfl ?_
  refine w.iloadN d3_35 rfl ?_
  refine w.callS (argsL := [(.ref b), (.int (0 : Int32)), (.int (4 : Int32))]) (rest := []) 0 d3_36 (tw hw 42 rfl) (tw hw 43 rfl) (tw hw 44 rfl) (tw hw 45 rfl) (by decide) (rmC3_4 l Z a0 hw b kb c0 c1 c2 c3 h0 w.old Ab u0 u1 u2 u3) (lenOf pd_13 rfl) rfl rfl (Nat.le_refl _) ⟨by decide, by decide, by decide, by decide⟩ all0 ?_
  intro T h1 r w _ hQ
  obtain ⟨d, kd, rfl, E1, gd, A1⟩ := hQ
  have ne_a_d : a ≠ d := Nat.ne_of_lt (Nat.lt_of_lt_of_le E0.lt gd)
  have F1 := E0.ext E1
  have F2 := G1.ext E1
  have F3 := G2.ext E1
  show Go x _ Z _ _ _ T 39 #[.val (.ref a), .val (.ref b), .val (.int (0 : Int32)), .val (.int (4 : Int32)), .val .null, .unset] [(.ref d)]
  refine w.astore #[.val (.ref a), .val (.ref b), .val (.int (0 : Int32)), .val (.int (4 : Int32)), .val .null, .val (.ref d)] d3_39 rfl rfl ?_
  refine w.aloadN d3_41 rfl rfl ?_
  refine w.aload d3_42 rfl rfl ?_
  refine w.iloadN d3_44 rfl ?_
  refine w.callS (argsL := [(.ref d), (.int (4 : Int32))]) (rest := [(.ref a)]) 1 d3_45 (tw hw 49 rfl) (tw hw 50 rfl) (tw hw 44 rfl) (tw hw 51 rfl) (by decide) (rmCL_4_4 l Z a0 hw d kd _ h1 w.old A1) (lenOf pd_14 rfl) rfl rfl (Nat.le_refl _) ⟨by decide, by decide, by decide, by decide⟩ all0 ?_
  intro T h2 r w _ hQ
  obtain ⟨rfl, rfl⟩ := hQ
  show Go x _ Z _ _ _ T 48 #[.val (.ref a), .val (.ref b), .val (.int (0 : Int32)), .val (.int (4 : Int32)), .val .null, .val (.ref d)] [(.int (0 : Int32)), (.ref a)]
  refine w.putF d3_48 (tw hw 26 rfl) F3 F1 (Or.inr ⟨(tw hw 22 rfl), rfl, rfl⟩) (tw hw 7 rfl) (ty := .byte) (by decide) rfl rfl (List.mem_of_getElem? (i := 0) rfl) ?_
  intro T h3 w W4
  have F5 := F1.wr W4
  have F6 := F2.other W4 (Or.inr (slot_ne (Or.inr (tw hw 21 rfl)) (Or.inr (tw hw 22 rfl)) (by decide) (t := (.array .byte)) (t' := .byte) (by decide) (by decide)))
  have F7 := F3.same W4
  have F8 := A1.other W4 (Ne.symm ne_a_d)
  refine w.aloadN d3_51 rfl rfl ?_
  refine w.aload d3_52 rfl rfl ?_
  refine w.putF d3_54 (tw hw 25 rfl) F6 F5 (Or.inr ⟨(tw hw 21 rfl), rfl, rfl⟩) (tw hw 7 rfl) (ty := (.array .byte)) (by decide) rfl rfl (List.mem_of_getElem? (i := 0) rfl) ?_
  intro T h4 w W9
  have F10 := F5.wr W9
  have F11 := F6.same W9
  have F12 := F7.other W9 (Or.inr (slot_ne (Or.inr (tw hw 22 rfl)) (Or.inr (tw hw 21 rfl)) (by decide) (t := .byte) (t' := (.array .byte)) (by decide) (by decide)))
  have F13 := F8.other W9 (Ne.symm ne_a_d)
  exact w.retV d3_57 rfl ⟨rfl, (((keep_ext E1).wr W4 (Or.inl (List.mem_singleton.mpr rfl))).wr W9 (Or.inl (List.mem_singleton.mpr rfl))), d, gd, F10, F11, F12, kd, F13, by simp⟩

set_option maxRecDepth 65536 in
set_option maxHeartbeats 40000000 in
theorem rmNL_4 (l : Launch) (Z : State) (a0 : Array Value) (hw : ∀ d ∈ tables_1, d.before a0 Z = true) (h0 : Heap) (hE : Ext Z.heap h0) :
    Ct true l Z consts_1 (⟨"java/lang/StringUTF16", "newBytesLength", "(I)I"⟩ : MethodName) jdk_52_method_3_code 1 (some .int) [] ({ frames := 0, cells := 0, slots := 0, locals := 0 } : Room) [] #[(.int (4 : Int32))] h0 (fun r u => r = some (.int (8 : Int32)) ∧ h0 = u) := by
  refine Ct.intro pn_java_lang_StringUTF16 hE (fun m => ef19_i m _) nosf ⟨a0, own_EW hw⟩ ?_
  intro x T w
  refine w.iloadN d19_0 rfl ?_
  refine w.ifGe d19_1 d19_1t (fun _ => ?_) (fun q => absurd q (by decide))
  refine w.iloadN d19_12 rfl ?_
  refine w.ldcI d19_13 (tw hw 86 rfl) ?_
  refine w.icmpLt d19_15 d19_15t (fun _ => ?_) (fun q => absurd (by decide) q)
  refine w.iloadN d19_55 rfl ?_
  refine w.iconst (1 : Int32) d19_56 rfl ?_
  refine w.ishl d19_57 ?_
  exact w.retI d19_58 rfl ⟨rfl, rfl⟩

set_option maxRecDepth 65536 in
set_option maxHeartbeats 40000000 in
theorem rmNF_4 (l : Launch) (Z : State) (a0 : Array Value) (hw : ∀ d ∈ tables_1, d.before a0 Z = true) (h0 : Heap) (hE : Ext Z.heap h0) :
    Ct true l Z consts_1 (⟨"java/lang/StringUTF16", "newBytesFor", "(I)[B"⟩ : MethodName) jdk_52_method_2_code 1 (some (.array .byte)) [] ({ frames := 1, cells := 1, slots := 8, locals := 12 } : Room) [] #[(.int (4 : Int32))] h0 (fun r u => ∃ d kd, r = some (.ref d) ∧ Ext h0 u ∧ h0.size ≤ d ∧ Arv Z u d kd .byte (8 : Int32) [] (.int 0)) := by
  refine Ct.intro pn_java_lang_StringUTF16 hE (fun m => ef18_i m _) nosf ⟨a0, own_EW hw⟩ ?_
  intro x T w
  refine w.iloadN d18_0 rfl ?_
  refine w.callS (argsL := [(.int (4 : Int32))]) (rest := []) 0 d18_1 (tw hw 83 rfl) (tw hw 84 rfl) (tw hw 44 rfl) (tw hw 85 rfl) (by decide) (rmNL_4 l Z a0 hw h0 w.old) (lenOf pd_15 rfl) rfl rfl (Nat.le_refl _) ⟨by decide, by decide, by decide, by decide⟩ all0 ?_
  intro T h1 r w _ hQ
  obtain ⟨rfl, rfl⟩ := hQ
  show Go x _ Z _ _ _ T 4 #[.val (.int (4 : Int32))] [(.int (8 : Int32))]
  have sz0 := w.size
  refine w.newP 8 "[B" d18_4 (tw hw 20 rfl) (by decide) (by decide) (by decide) (by decide) ⟨by decide, by decide⟩ ?_
  intro d T h2 kd g_d w E_d A_d X_d
  have ge_d : Z.heap.size ≤ d := by rw [g_d]; exact sz0
  exact w.retA d18_6 rfl rfl rfl rfl ⟨d, kd, rfl, E_d, Nat.le_of_eq g_d.symm, A_d⟩

set_option maxRecDepth 65536 in
set_option maxHeartbeats 40000000 in
theorem rmPu_4_0 (l : Launch) (Z : State) (a0 : Array Value) (hw : ∀ d ∈ tables_1, d.before a0 Z = true) (hr : rest_1_c.value a0 Z none Z [] = some true) (d : Addr) (kd : ClassId)  (c : Int32) (h0 : Heap) (hE : Ext Z.heap h0) (ge_d : Z.heap.size ≤ d) (A : Arv Z h0 d kd .byte (8 : Int32) [] (.int 0)) :
    Ct true l Z consts_1 (⟨"java/lang/StringUTF16", "putChar", "([BII)V"⟩ : MethodName) jdk_52_method_4_code 3 none [] ({ frames := 0, cells := 0, slots := 0, locals := 0 } : Room) [d] #[(.ref d), (.int (0 : Int32)), (.int c)] h0 (fun r u => r = none ∧ Keep h0 u [d] ∧ Arv Z u d kd .byte (8 : Int32) [(.int (nar .byte (c >>> ((0 : Int32) &&& 31)))), (.int (nar .byte (c >>> ((8 : Int32) &&& 31))))] (.int 0)) := by
  refine Ct.intro pn_java_lang_StringUTF16 hE (fun m => ef20_rii m d _ _) (onesf ge_d A.lt) ⟨a0, own_EW hw⟩ ?_
  intro x T w
  refine w.getS d20_0 (tw hw 90 rfl) (own_ad hr) ?_
  intro T w
  refine w.ifNe d20_3 d20_3t (fun _ => ?_) (fun q => absurd q (by decide))
  refine w.iloadN d20_28 rfl ?_
  refine w.iconst (1 : Int32) d20_29 rfl ?_
  refine w.ishl d20_30 ?_
  refine w.istoreN #[.val (.ref d), .val (.int ((0 : Int32) <<< ((1 : Int32) &&& 31))), .val (.int c)] d20_31 rfl ?_
  refine w.aloadN d20_32 rfl rfl ?_
  refine w.iloadN d20_33 rfl ?_
  refine w.iinc (1 : Int32) #[.val (.ref d), .val (.int (((0 : Int32) <<< ((1 : Int32) &&& 31)) + (1 : Int32))), .val (.int c)] d20_34 rfl rfl rfl ?_
  refine w.iloadN d20_37 rfl ?_
  refine w.getS d20_38 (tw hw 91 rfl) (own_hi hr) ?_
  intro T w
  refine w.ishr d20_41 ?_
  refine w.i2b d20_42 ?_
  refine w.stB 0 [(.int 0)] d20_43 A ⟨by decide, by decide⟩ (by decide) (pad_rep [] (.int 0) 1) (by simp) (fnb _) (List.mem_of_getElem? (i := 0) rfl) ?_
  intro T h1 w W0 B0
  rw [nbb] at B0 W0
  have C0 : Arv Z h1 d kd .byte (8 : Int32) [(.int (nar .byte (c >>> ((0 : Int32) &&& 31))))] (.int 0) := B0
  refine w.aloadN d20_44 rfl rfl ?_
  refine w.iloadN d20_45 rfl ?_
  refine w.iloadN d20_46 rfl ?_
  refine w.getS d20_47 (tw hw 92 rfl) (own_lo hr) ?_
  intro T w
  refine w.ishr d20_50 ?_
  refine w.i2b d20_51 ?_
  refine w.stB 1 [(.int (nar .byte (c >>> ((0 : Int32) &&& 31)))), (.int 0)] d20_52 C0 ⟨by decide, by decide⟩ (by decide) (pad_rep [(.int (nar .byte (c >>> ((0 : Int32) &&& 31))))] (.int 0) 1) (by simp) (fnb _) (List.mem_of_getElem? (i := 0) rfl) ?_
  intro T h2 w W1 B1
  rw [nbb] at B1 W1
  have C1 : Arv Z h2 d kd .byte (8 : Int32) [(.int (nar .byte (c >>> ((0 : Int32) &&& 31)))), (.int (nar .byte (c >>> ((8 : Int32) &&& 31))))] (.int 0) := B1
  exact w.retV d20_53 rfl ⟨rfl, (((Keep.refl _ _).wr W0 (Or.inl (List.mem_singleton.mpr rfl))).wr W1 (Or.inl (List.mem_singleton.mpr rfl))), C1⟩

set_option maxRecDepth 65536 in
set_option maxHeartbeats 40000000 in
theorem rmPu_4_1 (l : Launch) (Z : State) (a0 : Array Value) (hw : ∀ d ∈ tables_1, d.before a0 Z = true) (hr : rest_1_c.value a0 Z none Z [] = some true) (d : Addr) (kd : ClassId) (b0 b1 : Int32) (c : Int32) (h0 : Heap) (hE : Ext Z.heap h0) (ge_d : Z.heap.size ≤ d) (A : Arv Z h0 d kd .byte (8 : Int32) [(.int b0), (.int b1)] (.int 0)) :
    Ct true l Z consts_1 (⟨"java/lang/StringUTF16", "putChar", "([BII)V"⟩ : MethodName) jdk_52_method_4_code 3 none [] ({ frames := 0, cells := 0, slots := 0, locals := 0 } : Room) [d] #[(.ref d), (.int (1 : Int32)), (.int c)] h0 (fun r u => r = none ∧ Keep h0 u [d] ∧ Arv Z u d kd .byte (8 : Int32) [(.int b0), (.int b1), (.int (nar .byte (c >>> ((0 : Int32) &&& 31)))), (.int (nar .byte (c >>> ((8 : Int32) &&& 31))))] (.int 0)) := by
  refine Ct.intro pn_java_lang_StringUTF16 hE (fun m => ef20_rii m d _ _) (onesf ge_d A.lt) ⟨a0, own_EW hw⟩ ?_
  intro x T w
  refine w.getS d20_0 (tw hw 90 rfl) (own_ad hr) ?_
  intro T w
  refine w.ifNe d20_3 d20_3t (fun _ => ?_) (fun q => absurd q (by decide))
  refine w.iloadN d20_28 rfl ?_
  refine w.iconst (1 : Int32) d20_29 rfl ?_
  refine w.ishl d20_30 ?_
  refine w.istoreN #[.val (.ref d), .val (.int ((1 : Int32) <<< ((1 : Int32) &&& 31))), .val (.int c)] d20_31 rfl ?_
  refine w.aloadN d20_32 rfl rfl ?_
  refine w.iloadN d20_33 rfl ?_
  refine w.iinc (1 : Int32) #[.val (.ref d), .val (.int (((1 : Int32) <<< ((1 : Int32) &&& 31)) + (1 : Int32))), .val (.int c)] d20_34 rfl rfl rfl ?_
  refine w.iloadN d20_37 rfl ?_
  refine w.getS d20_38 (tw hw 91 rfl) (own_hi hr) ?_
  intro T w
  refine w.ishr d20_41 ?_
  refine w.i2b d20_42 ?_
  refine w.stB 2 [(.int b0), (.int b1), (.int 0)] d20_43 A ⟨by decide, by decide⟩ (by decide) (pad_rep [(.int b0), (.int b1)] (.int 0) 1) (by simp) (fnb _) (List.mem_of_getElem? (i := 0) rfl) ?_
  intro T h1 w W0 B0
  rw [nbb] at B0 W0
  have C0 : Arv Z h1 d kd .byte (8 : Int32) [(.int b0), (.int b1), (.int (nar .byte (c >>> ((0 : Int32) &&& 31))))] (.int 0) := B0
  refine w.aloadN d20_44 rfl rfl ?_
  refine w.iloadN d20_45 rfl ?_
  refine w.iloadN d20_46 rfl ?_
  refine w.getS d20_47 (tw hw 92 rfl) (own_lo hr) ?_
  intro T w
  refine w.ishr d20_50 ?_
  refine w.i2b d20_51 ?_
  refine w.stB 3 [(.int b0), (.int b1), (.int (nar .byte (c >>> ((0 : Int32) &&& 31)))), (.int 0)] d20_52 C0 ⟨by decide, by decide⟩ (by decide) (pad_rep [(.int b0), (.int b1), (.int (nar .byte (c >>> ((0 : Int32) &&& 31))))] (.int 0) 1) (by simp) (fnb _) (List.mem_of_getElem? (i := 0) rfl) ?_
  intro T h2 w W1 B1
  rw [nbb] at B1 W1
  have C1 : Arv Z h2 d kd .byte (8 : Int32) [(.int b0), (.int b1), (.int (nar .byte (c >>> ((0 : Int32) &&& 31)))), (.int (nar .byte (c >>> ((8 : Int32) &&& 31))))] (.int 0) := B1
  exact w.retV d20_53 rfl ⟨rfl, (((Keep.refl _ _).wr W0 (Or.inl (List.mem_singleton.mpr rfl))).wr W1 (Or.inl (List.mem_singleton.mpr rfl))), C1⟩

set_option maxRecDepth 65536 in
set_option maxHeartbeats 40000000 in
theorem rmPu_4_2 (l : Launch) (Z : State) (a0 : Array Value) (hw : ∀ d ∈ tables_1, d.before a0 Z = true) (hr : rest_1_c.value a0 Z none Z [] = some true) (d : Addr) (kd : ClassId) (b0 b1 b2 b3 : Int32) (c : Int32) (h0 : Heap) (hE : Ext Z.heap h0) (ge_d : Z.heap.size ≤ d) (A : Arv Z h0 d kd .byte (8 : Int32) [(.int b0), (.int b1), (.int b2), (.int b3)] (.int 0)) :
    Ct true l Z consts_1 (⟨"java/lang/StringUTF16", "putChar", "([BII)V"⟩ : MethodName) jdk_52_method_4_code 3 none [] ({ frames := 0, cells := 0, slots := 0, locals := 0 } : Room) [d] #[(.ref d), (.int (2 : Int32)), (.int c)] h0 (fun r u => r = none ∧ Keep h0 u [d] ∧ Arv Z u d kd .byte (8 : Int32) [(.int b0), (.int b1), (.int b2), (.int b3), (.int (nar .byte (c >>> ((0 : Int32) &&& 31)))), (.int (nar .byte (c >>> ((8 : Int32) &&& 31))))] (.int 0)) := by
  refine Ct.intro pn_java_lang_StringUTF16 hE (fun m => ef20_rii m d _ _) (onesf ge_d A.lt) ⟨a0, own_EW hw⟩ ?_
  intro x T w
  refine w.getS d20_0 (tw hw 90 rfl) (own_ad hr) ?_
  intro T w
  refine w.ifNe d20_3 d20_3t (fun _ => ?_) (fun q => absurd q (by decide))
  refine w.iloadN d20_28 rfl ?_
  refine w.iconst (1 : Int32) d20_29 rfl ?_
  refine w.ishl d20_30 ?_
  refine w.istoreN #[.val (.ref d), .val (.int ((2 : Int32) <<< ((1 : Int32) &&& 31))), .val (.int c)] d20_31 rfl ?_
  refine w.aloadN d20_32 rfl rfl ?_
  refine w.iloadN d20_33 rfl ?_
  refine w.iinc (1 : Int32) #[.val (.ref d), .val (.int (((2 : Int32) <<< ((1 : Int32) &&& 31)) + (1 : Int32))), .val (.int c)] d20_34 rfl rfl rfl ?_
  refine w.iloadN d20_37 rfl ?_
  refine w.getS d20_38 (tw hw 91 rfl) (own_hi hr) ?_
  intro T w
  refine w.ishr d20_41 ?_
  refine w.i2b d20_42 ?_
  refine w.stB 4 [(.int b0), (.int b1), (.int b2), (.int b3), (.int 0)] d20_43 A ⟨by decide, by decide⟩ (by decide) (pad_rep [(.int b0), (.int b1), (.int b2), (.int b3)] (.int 0) 1) (by simp) (fnb _) (List.mem_of_getElem? (i := 0) rfl) ?_
  intro T h1 w W0 B0
  rw [nbb] at B0 W0
  have C0 : Arv Z h1 d kd .byte (8 : Int32) [(.int b0), (.int b1), (.int b2), (.int b3), (.int (nar .byte (c >>> ((0 : Int32) &&& 31))))] (.int 0) := B0
  refine w.aloadN d20_44 rfl rfl ?_
  refine w.iloadN d20_45 rfl ?_
  refine w.iloadN d20_46 rfl ?_
  refine w.getS d20_47 (tw hw 92 rfl) (own_lo hr) ?_
  intro T w
  refine w.ishr d20_50 ?_
  refine w.i2b d20_51 ?_
  refine w.stB 5 [(.int b0), (.int b1), (.int b2), (.int b3), (.int (nar .byte (c >>> ((0 : Int32) &&& 31)))), (.int 0)] d20_52 C0 ⟨by decide, by decide⟩ (by decide) (pad_rep [(.int b0), (.int b1), (.int b2), (.int b3), (.int (nar .byte (c >>> ((0 : Int32) &&& 31))))] (.int 0) 1) (by simp) (fnb _) (List.mem_of_getElem? (i := 0) rfl) ?_
  intro T h2 w W1 B1
  rw [nbb] at B1 W1
  have C1 : Arv Z h2 d kd .byte (8 : Int32) [(.int b0), (.int b1), (.int b2), (.int b3), (.int (nar .byte (c >>> ((0 : Int32) &&& 31)))), (.int (nar .byte (c >>> ((8 : Int32) &&& 31))))] (.int 0) := B1
  exact w.retV d20_53 rfl ⟨rfl, (((Keep.refl _ _).wr W0 (Or.inl (List.mem_singleton.mpr rfl))).wr W1 (Or.inl (List.mem_singleton.mpr rfl))), C1⟩

set_option maxRecDepth 65536 in
set_option maxHeartbeats 40000000 in
theorem rmPu_4_3 (l : Launch) (Z : State) (a0 : Array Value) (hw : ∀ d ∈ tables_1, d.before a0 Z = true) (hr : rest_1_c.value a0 Z none Z [] = some true) (d : Addr) (kd : ClassId) (b0 b1 b2 b3 b4 b5 : Int32) (c : Int32) (h0 : Heap) (hE : Ext Z.heap h0) (ge_d : Z.heap.size ≤ d) (A : Arv Z h0 d kd .byte (8 : Int32) [(.int b0), (.int b1), (.int b2), (.int b3), (.int b4), (.int b5)] (.int 0)) :
    Ct true l Z consts_1 (⟨"java/lang/StringUTF16", "putChar", "([BII)V"⟩ : MethodName) jdk_52_method_4_code 3 none [] ({ frames := 0, cells := 0, slots := 0, locals := 0 } : Room) [d] #[(.ref d), (.int (3 : Int32)), (.int c)] h0 (fun r u => r = none ∧ Keep h0 u [d] ∧ Arv Z u d kd .byte (8 : Int32) [(.int b0), (.int b1), (.int b2), (.int b3), (.int b4), (.int b5), (.int (nar .byte (c >>> ((0 : Int32) &&& 31)))), (.int (nar .byte (c >>> ((8 : Int32) &&& 31))))] (.int 0)) := by
  refine Ct.intro pn_java_lang_StringUTF16 hE (fun m => ef20_rii m d _ _) (onesf ge_d A.lt) ⟨a0, own_EW hw⟩ ?_
  intro x T w
  refine w.getS d20_0 (tw hw 90 rfl) (own_ad hr) ?_
  intro T w
  refine w.ifNe d20_3 d20_3t (fun _ => ?_) (fun q => absurd q (by decide))
  refine w.iloadN d20_28 rfl ?_
  refine w.iconst (1 : Int32) d20_29 rfl ?_
  refine w.ishl d20_30 ?_
  refine w.istoreN #[.val (.ref d), .val (.int ((3 : Int32) <<< ((1 : Int32) &&& 31))), .val (.int c)] d20_31 rfl ?_
  refine w.aloadN d20_32 rfl rfl ?_
  refine w.iloadN d20_33 rfl ?_
  refine w.iinc (1 : Int32) #[.val (.ref d), .val (.int (((3 : Int32) <<< ((1 : Int32) &&& 31)) + (1 : Int32))), .val (.int c)] d20_34 rfl rfl rfl ?_
  refine w.iloadN d20_37 rfl ?_
  refine w.getS d20_38 (tw hw 91 rfl) (own_hi hr) ?_
  intro T w
  refine w.ishr d20_41 ?_
  refine w.i2b d20_42 ?_
  refine w.stB 6 [(.int b0), (.int b1), (.int b2), (.int b3), (.int b4), (.int b5), (.int 0)] d20_43 A ⟨by decide, by decide⟩ (by decide) (pad_rep [(.int b0), (.int b1), (.int b2), (.int b3), (.int b4), (.int b5)] (.int 0) 1) (by simp) (fnb _) (List.mem_of_getElem? (i := 0) rfl) ?_
  intro T h1 w W0 B0
  rw [nbb] at B0 W0
  have C0 : Arv Z h1 d kd .byte (8 : Int32) [(.int b0), (.int b1), (.int b2), (.int b3), (.int b4), (.int b5), (.int (nar .byte (c >>> ((0 : Int32) &&& 31))))] (.int 0) := B0
  refine w.aloadN d20_44 rfl rfl ?_
  refine w.iloadN d20_45 rfl ?_
  refine w.iloadN d20_46 rfl ?_
  refine w.getS d20_47 (tw hw 92 rfl) (own_lo hr) ?_
  intro T w
  refine w.ishr d20_50 ?_
  refine w.i2b d20_51 ?_
  refine w.stB 7 [(.int b0), (.int b1), (.int b2), (.int b3), (.int b4), (.int b5), (.int (nar .byte (c >>> ((0 : Int32) &&& 31)))), (.int 0)] d20_52 C0 ⟨by decide, by decide⟩ (by decide) (pad_rep [(.int b0), (.int b1), (.int b2), (.int b3), (.int b4), (.int b5), (.int (nar .byte (c >>> ((0 : Int32) &&& 31))))] (.int 0) 1) (by simp) (fnb _) (List.mem_of_getElem? (i := 0) rfl) ?_
  intro T h2 w W1 B1
  rw [nbb] at B1 W1
  have C1 : Arv Z h2 d kd .byte (8 : Int32) [(.int b0), (.int b1), (.int b2), (.int b3), (.int b4), (.int b5), (.int (nar .byte (c >>> ((0 : Int32) &&& 31)))), (.int (nar .byte (c >>> ((8 : Int32) &&& 31))))] (.int 0) := B1
  exact w.retV d20_53 rfl ⟨rfl, (((Keep.refl _ _).wr W0 (Or.inl (List.mem_singleton.mpr rfl))).wr W1 (Or.inl (List.mem_singleton.mpr rfl))), C1⟩

set_option maxRecDepth 65536 in
set_option maxHeartbeats 40000000 in
theorem rmTo_4 (l : Launch) (Z : State) (a0 : Array Value) (hw : ∀ d ∈ tables_1, d.before a0 Z = true) (hr : rest_1_c.value a0 Z none Z [] = some true) (b : Addr) (kb : ClassId) (c0 c1 c2 c3 : Int32) (h0 : Heap) (hE : Ext Z.heap h0) (Ab : Arv Z h0 b kb .char (4 : Int32) [(.int c0), (.int c1), (.int c2), (.int c3)] (.int 0)) :
    Ct true l Z consts_1 (⟨"java/lang/StringUTF16", "toBytes", "([CII)[B"⟩ : MethodName) jdk_52_method_14_code 5 (some (.array .byte)) [] ({ frames := 2, cells := 1, slots := 8, locals := 24 } : Room) [] #[(.ref b), (.int (0 : Int32)), (.int (4 : Int32))] h0 (fun r u => ∃ d kd, r = some (.ref d) ∧ Ext h0 u ∧ h0.size ≤ d ∧ Arv Z u d kd .byte (8 : Int32) [(.int (nar .byte (c0 >>> ((0 : Int32) &&& 31)))), (.int (nar .byte (c0 >>> ((8 : Int32) &&& 31)))), (.int (nar .byte (c1 >>> ((0 : Int32) &&& 31)))), (.int (nar .byte (c1 >>> ((8 : Int32) &&& 31)))), (.int (nar .byte (c2 >>> ((0 : Int32) &&& 31)))), (.int (nar .byte (c2 >>> ((8 : Int32) &&& 31)))), (.int (nar .byte (c3 >>> ((0 : Int32) &&& 31)))), (.int (nar .byte (c3 >>> ((8 : Int32) &&& 31))))] (.int 0)) := by
  refine Ct.intro pn_java_lang_StringUTF16 hE (fun m => ef17_rii m b _ _) nosf ⟨a0, own_EW hw⟩ ?_
  intro x T w
  refine w.iloadN d17_0 rfl ?_
  refine w.callS (argsL := [(.int (4 : Int32))]) (rest := []) 0 d17_1 (tw hw 80 rfl) (tw hw 81 rfl) (tw hw 44 rfl) (tw hw 82 rfl) (by decide) (rmNF_4 l Z a0 hw h0 w.old) (lenOf pd_16 rfl) rfl rfl (Nat.le_refl _) ⟨by decide, by decide, by decide, by decide⟩ all0 ?_
  intro T h1 r w _ hQ
  obtain ⟨d, kd, rfl, E1, gd, A0⟩ := hQ
  have ge_d : Z.heap.size ≤ d := Nat.le_trans hE.1 gd
  have w := w.adopt ge_d A0.lt (fun vm hZ => own_safe hw hZ A0 (by decide))
  have nbd : b ≠ d := Nat.ne_of_lt (Nat.lt_of_lt_of_le Ab.lt gd)
  have Ab := Ab.ext E1
  show Go x _ Z _ _ _ T 4 #[.val (.ref b), .val (.int (0 : Int32)), .val (.int (4 : Int32)), .unset, .unset] [(.ref d)]
  refine w.astoreN #[.val (.ref b), .val (.int (0 : Int32)), .val (.int (4 : Int32)), .val (.ref d), .unset] d17_4 rfl rfl ?_
  refine w.iconst (0 : Int32) d17_5 rfl ?_
  refine w.istore #[.val (.ref b), .val (.int (0 : Int32)), .val (.int (4 : Int32)), .val (.ref d), .val (.int (0 : Int32))] d17_6 rfl ?_
  refine w.iload d17_8 rfl ?_
  refine w.iloadN d17_10 rfl ?_
  refine w.icmpGe d17_11 d17_11t (fun q => absurd (by decide) q) (fun _ => ?_)
  refine w.aloadN d17_14 rfl rfl ?_
  refine w.iload d17_15 rfl ?_
  refine w.aloadN d17_17 rfl rfl ?_
  refine w.iloadN d17_18 rfl ?_
  obtain ⟨cl0, Ar0, -, S0, -, H0, -⟩ := id Ab
  refine w.caload d17_19 Ar0 (inb_of S0 (by decide)) (H0.at (inb_of S0 (by decide)) rfl) ?_
  refine w.callS (argsL := [(.ref d), (.int (0 : Int32)), (.int c0)]) (rest := []) 0 d17_20 (tw hw 87 rfl) (tw hw 88 rfl) (tw hw 44 rfl) (tw hw 89 rfl) (by decide) (rmPu_4_0 l Z a0 hw hr d kd  c0 h1 w.old ge_d A0) (lenOf pd_17 rfl) rfl rfl (Nat.le_refl _) ⟨by decide, by decide, by decide, by decide⟩ (allS (List.mem_of_getElem? (i := 0) rfl) all0) ?_
  intro T h2 r w _ hQ
  obtain ⟨rfl, K0, A1⟩ := hQ
  have Ab := Ab.keep K0 (ninS nbd nin0)
  show Go x _ Z _ _ _ T 23 #[.val (.ref b), .val (.int (0 : Int32)), .val (.int (4 : Int32)), .val (.ref d), .val (.int (0 : Int32))] []
  refine w.iinc (1 : Int32) #[.val (.ref b), .val (.int (1 : Int32)), .val (.int (4 : Int32)), .val (.ref d), .val (.int (0 : Int32))] d17_23 rfl rfl rfl ?_
  refine w.iinc (1 : Int32) #[.val (.ref b), .val (.int (1 : Int32)), .val (.int (4 : Int32)), .val (.ref d), .val (.int (1 : Int32))] d17_26 rfl rfl rfl ?_
  refine w.goto d17_29 d17_29t ?_
  refine w.iload d17_8 rfl ?_
  refine w.iloadN d17_10 rfl ?_
  refine w.icmpGe d17_11 d17_11t (fun q => absurd (by decide) q) (fun _ => ?_)
  refine w.aloadN d17_14 rfl rfl ?_
  refine w.iload d17_15 rfl ?_
  refine w.aloadN d17_17 rfl rfl ?_
  refine w.iloadN d17_18 rfl ?_
  obtain ⟨cl1, Ar1, -, S1, -, H1, -⟩ := id Ab
  refine w.caload d17_19 Ar1 (inb_of S1 (by decide)) (H1.at (inb_of S1 (by decide)) rfl) ?_
  refine w.callS (argsL := [(.ref d), (.int (1 : Int32)), (.int c1)]) (rest := []) 0 d17_20 (tw hw 87 rfl) (tw hw 88 rfl) (tw hw 44 rfl) (tw hw 89 rfl) (by decide) (rmPu_4_1 l Z a0 hw hr d kd (nar .byte (c0 >>> ((0 : Int32) &&& 31))) (nar .byte (c0 >>> ((8 : Int32) &&& 31))) c1 h2 w.old ge_d A1) (lenOf pd_17 rfl) rfl rfl (Nat.le_refl _) ⟨by decide, by decide, by decide, by decide⟩ (allS (List.mem_of_getElem? (i := 0) rfl) all0) ?_
  intro T h3 r w _ hQ
  obtain ⟨rfl, K1, A2⟩ := hQ
  have Ab := Ab.keep K1 (ninS nbd nin0)
  show Go x _ Z _ _ _ T 23 #[.val (.ref b), .val (.int (1 : Int32)), .val (.int (4 : Int32)), .val (.ref d), .val (.int (1 : Int32))] []
  refine w.iinc (1 : Int32) #[.val (.ref b), .val (.int (2 : Int32)), .val (.int (4 : Int32)), .val (.ref d), .val (.int (1 : Int32))] d17_23 rfl rfl rfl ?_
  refine w.iinc (1 : Int32) #[.val (.ref b), .val (.int (2 : Int32)), .val (.int (4 : Int32)), .val (.ref d), .val (.int (2 : Int32))] d17_26 rfl rfl rfl ?_
  refine w.goto d17_29 d17_29t ?_
  refine w.iload d17_8 rfl ?_
  refine w.iloadN d17_10 rfl ?_
  refine w.icmpGe d17_11 d17_11t (fun q => absurd (by decide) q) (fun _ => ?_)
  refine w.aloadN d17_14 rfl rfl ?_
  refine w.iload d17_15 rfl ?_
  refine w.aloadN d17_17 rfl rfl ?_
  refine w.iloadN d17_18 rfl ?_
  obtain ⟨cl2, Ar2, -, S2, -, H2, -⟩ := id Ab
  refine w.caload d17_19 Ar2 (inb_of S2 (by decide)) (H2.at (inb_of S2 (by decide)) rfl) ?_
  refine w.callS (argsL := [(.ref d), (.int (2 : Int32)), (.int c2)]) (rest := []) 0 d17_20 (tw hw 87 rfl) (tw hw 88 rfl) (tw hw 44 rfl) (tw hw 89 rfl) (by decide) (rmPu_4_2 l Z a0 hw hr d kd (nar .byte (c0 >>> ((0 : Int32) &&& 31))) (nar .byte (c0 >>> ((8 : Int32) &&& 31))) (nar .byte (c1 >>> ((0 : Int32) &&& 31))) (nar .byte (c1 >>> ((8 : Int32) &&& 31))) c2 h3 w.old ge_d A2) (lenOf pd_17 rfl) rfl rfl (Nat.le_refl _) ⟨by decide, by decide, by decide, by decide⟩ (allS (List.mem_of_getElem? (i := 0) rfl) all0) ?_
  intro T h4 r w _ hQ
  obtain ⟨rfl, K2, A3⟩ := hQ
  have Ab := Ab.keep K2 (ninS nbd nin0)
  show Go x _ Z _ _ _ T 23 #[.val (.ref b), .val (.int (2 : Int32)), .val (.int (4 : Int32)), .val (.ref d), .val (.int (2 : Int32))] []
  refine w.iinc (1 : Int32) #[.val (.ref b), .val (.int (3 : Int32)), .val (.int (4 : Int32)), .val (.ref d), .val (.int (2 : Int32))] d17_23 rfl rfl rfl ?_
  refine w.iinc (1 : Int32) #[.val (.ref b), .val (.int (3 : Int32)), .val (.int (4 : Int32)), .val (.ref d), .val (.int (3 : Int32))] d17_26 rfl rfl rfl ?_
  refine w.goto d17_29 d17_29t ?_
  refine w.iload d17_8 rfl ?_
  refine w.iloadN d17_10 rfl ?_
  refine w.icmpGe d17_11 d17_11t (fun q => absurd (by decide) q) (fun _ => ?_)
  refine w.aloadN d17_14 rfl rfl ?_
  refine w.iload d17_15 rfl ?_
  refine w.aloadN d17_17 rfl rfl ?_
  refine w.iloadN d17_18 rfl ?_
  obtain ⟨cl3, Ar3, -, S3, -, H3, -⟩ := id Ab
  refine w.caload d17_19 Ar3 (inb_of S3 (by decide)) (H3.at (inb_of S3 (by decide)) rfl) ?_
  refine w.callS (argsL := [(.ref d), (.int (3 : Int32)), (.int c3)]) (rest := []) 0 d17_20 (tw hw 87 rfl) (tw hw 88 rfl) (tw hw 44 rfl) (tw hw 89 rfl) (by decide) (rmPu_4_3 l Z a0 hw hr d kd (nar .byte (c0 >>> ((0 : Int32) &&& 31))) (nar .byte (c0 >>> ((8 : Int32) &&& 31))) (nar .byte (c1 >>> ((0 : Int32) &&& 31))) (nar .byte (c1 >>> ((8 : Int32) &&& 31))) (nar .byte (c2 >>> ((0 : Int32) &&& 31))) (nar .byte (c2 >>> ((8 : Int32) &&& 31))) c3 h4 w.old ge_d A3) (lenOf pd_17 rfl) rfl rfl (Nat.le_refl _) ⟨by decide, by decide, by decide, by decide⟩ (allS (List.mem_of_getElem? (i := 0) rfl) all0) ?_
  intro T h5 r w _ hQ
  obtain ⟨rfl, K3, A4⟩ := hQ
  have Ab := Ab.keep K3 (ninS nbd nin0)
  show Go x _ Z _ _ _ T 23 #[.val (.ref b), .val (.int (3 : Int32)), .val (.int (4 : Int32)), .val (.ref d), .val (.int (3 : Int32))] []
  refine w.iinc (1 : Int32) #[.val (.ref b), .val (.int (4 : Int32)), .val (.int (4 : Int32)), .val (.ref d), .val (.int (3 : Int32))] d17_23 rfl rfl rfl ?_
  refine w.iinc (1 : Int32) #[.val (.ref b), .val (.int (4 : Int32)), .val (.int (4 : Int32)), .val (.ref d), .val (.int (4 : Int32))] d17_26 rfl rfl rfl ?_
  refine w.goto d17_29 d17_29t ?_
  refine w.iload d17_8 rfl ?_
  refine w.iloadN d17_10 rfl ?_
  refine w.icmpGe d17_11 d17_11t (fun _ => ?_) (fun q => absurd q (by decide))
  refine w.aloadN d17_32 rfl rfl ?_
  exact w.retA d17_33 rfl rfl rfl rfl ⟨d, kd, rfl, keep_to E1 (((K0.trans K1 (allS (Or.inl (List.mem_singleton.mpr rfl)) all0)).trans K2 (allS (Or.inl (List.mem_singleton.mpr rfl)) all0)).trans K3 (allS (Or.inl (List.mem_singleton.mpr rfl)) all0)) (allS gd all0), gd, A4⟩

set_option maxRecDepth 65536 in
set_option maxHeartbeats 40000000 in
theorem rmC5x_4_0 (l : Launch) (Z : State) (a0 : Array Value) (hw : ∀ d ∈ tables_1, d.before a0 Z = true) (b d : Addr) (kb kd : ClassId) (c0 c1 c2 c3 : Int32) (h0 : Heap) (hE : Ext Z.heap h0) (ge_d : Z.heap.size ≤ d) (nbd : b ≠ d) (Ab : Arv Z h0 b kb .char (4 : Int32) [(.int c0), (.int c1), (.int c2), (.int c3)] (.int 0)) (Ad : Arv Z h0 d kd .byte (4 : Int32) [] (.int 0))  (gp : 255 < c0) :
    Ct true l Z consts_1 (⟨"java/lang/StringUTF16", "compress", "([CI[BII)I"⟩ : MethodName) jdk_52_method_21_code 7 (some .int) [] ({ frames := 0, cells := 0, slots := 0, locals := 0 } : Room) [d] #[(.ref b), (.int (0 : Int32)), (.ref d), (.int (0 : Int32)), (.int (4 : Int32))] h0 (fun r u => r = some (.int (0 : Int32)) ∧ Keep h0 u [d]) := by
  refine Ct.intro pn_java_lang_StringUTF16 hE (fun m => ef9_ririi m b _ d _ _) (onesf ge_d Ad.lt) ⟨a0, own_EW hw⟩ ?_
  intro x T w
  refine w.iconst (0 : Int32) d9_0 rfl ?_
  refine w.istore #[.val (.ref b), .val (.int (0 : Int32)), .val (.ref d), .val (.int (0 : Int32)), .val (.int (4 : Int32)), .val (.int (0 : Int32)), .unset] d9_1 rfl ?_
  refine w.iload d9_3 rfl ?_
  refine w.iload d9_5 rfl ?_
  refine w.icmpGe d9_7 d9_7t (fun q => absurd (by decide) q) (fun _ => ?_)
  refine w.aloadN d9_10 rfl rfl ?_
  refine w.iloadN d9_11 rfl ?_
  obtain ⟨cl0, Ar0, -, S0, -, H0, -⟩ := id Ab
  refine w.caload d9_12 Ar0 (inb_of S0 (by decide)) (H0.at (inb_of S0 (by decide)) rfl) ?_
  refine w.istore #[.val (.ref b), .val (.int (0 : Int32)), .val (.ref d), .val (.int (0 : Int32)), .val (.int (4 : Int32)), .val (.int (0 : Int32)), .val (.int c0)] d9_13 rfl ?_
  refine w.iload d9_15 rfl ?_
  refine w.sipush (255 : Int32) d9_17 rfl ?_
  refine w.icmpLe d9_20 d9_20t (fun q => absurd gp q) (fun _ => ?_)
  refine w.iload d9_23 rfl ?_
  exact w.retI d9_25 rfl ⟨rfl, (Keep.refl _ _)⟩

set_option maxRecDepth 65536 in
set_option maxHeartbeats 40000000 in
theorem rmGe_4_0 (l : Launch) (Z : State) (a0 : Array Value) (hw : ∀ d ∈ tables_1, d.before a0 Z = true) (hr : rest_1_c.value a0 Z none Z [] = some true) (t : Addr) (kb : ClassId) (c0 c1 c2 c3 : Int32) (h0 : Heap) (hE : Ext Z.heap h0) (A : Arv Z h0 t kb .byte (8 : Int32) [(.int (nar .byte (c0 >>> ((0 : Int32) &&& 31)))), (.int (nar .byte (c0 >>> ((8 : Int32) &&& 31)))), (.int (nar .byte (c1 >>> ((0 : Int32) &&& 31)))), (.int (nar .byte (c1 >>> ((8 : Int32) &&& 31)))), (.int (nar .byte (c2 >>> ((0 : Int32) &&& 31)))), (.int (nar .byte (c2 >>> ((8 : Int32) &&& 31)))), (.int (nar .byte (c3 >>> ((0 : Int32) &&& 31)))), (.int (nar .byte (c3 >>> ((8 : Int32) &&& 31))))] (.int 0)) (z : 0 ≤ c0.toInt) (v : c0.toInt < 65536) :
    Ct true l Z consts_1 (⟨"java/lang/StringUTF16", "getChar", "([BI)C"⟩ : MethodName) jdk_52_method_5_code 2 (some .char) [] ({ frames := 0, cells := 0, slots := 0, locals := 0 } : Room) [] #[(.ref t), (.int (0 : Int32))] h0 (fun r u => r = some (.int c0) ∧ h0 = u) := by
  refine Ct.intro pn_java_lang_StringUTF16 hE (fun m => ef21_ri m t _) nosf ⟨a0, own_EW hw⟩ ?_
  intro x T w
  obtain ⟨cl, Ar, -, S, M, H, -⟩ := id A
  refine w.getS d21_0 (tw hw 90 rfl) (own_ad hr) ?_
  intro T w
  refine w.ifNe d21_3 d21_3t (fun _ => ?_) (fun q => absurd q (by decide))
  refine w.iloadN d21_28 rfl ?_
  refine w.iconst (1 : Int32) d21_29 rfl ?_
  refine w.ishl d21_30 ?_
  refine w.istoreN #[.val (.ref t), .val (.int ((0 : Int32) <<< ((1 : Int32) &&& 31)))] d21_31 rfl ?_
  refine w.aloadN d21_32 rfl rfl ?_
  refine w.iloadN d21_33 rfl ?_
  refine w.iinc (1 : Int32) #[.val (.ref t), .val (.int (((0 : Int32) <<< ((1 : Int32) &&& 31)) + (1 : Int32)))] d21_34 rfl rfl rfl ?_
  refine w.baload (v := .int (nar .byte (c0 >>> ((0 : Int32) &&& 31)))) d21_37 Ar (inb_of S (by decide)) (H.at (inb_of S (by decide)) (by rw [show (((0 : Int32) <<< ((1 : Int32) &&& 31))).toNatClampNeg = 0 by decide]; rfl)) ?_
  refine w.sipush (255 : Int32) d21_38 rfl ?_
  refine w.iand d21_41 ?_
  refine w.getS d21_42 (tw hw 91 rfl) (own_hi hr) ?_
  intro T w
  refine w.ishl d21_45 ?_
  refine w.aloadN d21_46 rfl rfl ?_
  refine w.iloadN d21_47 rfl ?_
  refine w.baload (v := .int (nar .byte (c0 >>> ((8 : Int32) &&& 31)))) d21_48 Ar (inb_of S (by decide)) (H.at (inb_of S (by decide)) (by rw [show ((((0 : Int32) <<< ((1 : Int32) &&& 31)) + (1 : Int32))).toNatClampNeg = 1 by decide]; rfl)) ?_
  refine w.sipush (255 : Int32) d21_49 rfl ?_
  refine w.iand d21_52 ?_
  refine w.getS d21_53 (tw hw 92 rfl) (own_lo hr) ?_
  intro T w
  refine w.ishl d21_56 ?_
  refine w.ior d21_57 ?_
  refine w.i2c d21_58 ?_
  exact w.retN d21_59 rfl (by simp) ⟨by rw [ncc, own_gc z v], rfl⟩

set_option maxRecDepth 65536 in
set_option maxHeartbeats 40000000 in
theorem rmC3x_4_0 (l : Launch) (Z : State) (a0 : Array Value) (hw : ∀ d ∈ tables_1, d.before a0 Z = true) (hr : rest_1_c.value a0 Z none Z [] = some true) (b : Addr) (kb : ClassId) (c0 c1 c2 c3 : Int32) (h0 : Heap) (hE : Ext Z.heap h0) (Ab : Arv Z h0 b kb .char (4 : Int32) [(.int c0), (.int c1), (.int c2), (.int c3)] (.int 0)) (z0 : 0 ≤ c0.toInt) (v0 : c0.toInt < 65536) (z1 : 0 ≤ c1.toInt) (v1 : c1.toInt < 65536) (z2 : 0 ≤ c2.toInt) (v2 : c2.toInt < 65536) (z3 : 0 ≤ c3.toInt) (v3 : c3.toInt < 65536)  (gp : 255 < c0) :
    Ct true l Z consts_1 (⟨"java/lang/StringUTF16", "compress", "([CII)[B"⟩ : MethodName) jdk_52_method_16_code 6 (some (.array .byte)) [] ({ frames := 3, cells := 2, slots := 12, locals := 40 } : Room) [] #[(.ref b), (.int (0 : Int32)), (.int (4 : Int32))] h0 (fun r u => ∃ d kd, r = some (.ref d) ∧ Ext h0 u ∧ h0.size ≤ d ∧ Arv Z u d kd .byte (8 : Int32) [(.int (nar .byte (c0 >>> ((0 : Int32) &&& 31)))), (.int (nar .byte (c0 >>> ((8 : Int32) &&& 31)))), (.int (nar .byte (c1 >>> ((0 : Int32) &&& 31)))), (.int (nar .byte (c1 >>> ((8 : Int32) &&& 31)))), (.int (nar .byte (c2 >>> ((0 : Int32) &&& 31)))), (.int (nar .byte (c2 >>> ((8 : Int32) &&& 31)))), (.int (nar .byte (c3 >>> ((0 : Int32) &&& 31)))), (.int (nar .byte (c3 >>> ((8 : Int32) &&& 31))))] (.int 0)) := by
  refine Ct.intro pn_java_lang_StringUTF16 hE (fun m => ef8_rii m b _ _) nosf ⟨a0, own_EW hw⟩ ?_
  intro x T w
  refine w.iloadN d8_0 rfl ?_
  have sz0 := w.size
  refine w.newP 4 "[B" d8_1 (tw hw 20 rfl) (by decide) (by decide) (by decide) (by decide) ⟨by decide, by decide⟩ ?_
  intro d T h1 kd g_d w E_d A_d X_d
  have ge_d : Z.heap.size ≤ d := by rw [g_d]; exact sz0
  have nbd : b ≠ d := Nat.ne_of_lt (Nat.lt_of_lt_of_eq Ab.lt g_d.symm)
  refine w.astoreN #[.val (.ref b), .val (.int (0 : Int32)), .val (.int (4 : Int32)), .val (.ref d), .unset, .unset] d8_3 rfl rfl ?_
  refine w.aloadN d8_4 rfl rfl ?_
  refine w.iloadN d8_5 rfl ?_
  refine w.aloadN d8_6 rfl rfl ?_
  refine w.iconst (0 : Int32) d8_7 rfl ?_
  refine w.iloadN d8_8 rfl ?_
  refine w.callS (argsL := [(.ref b), (.int (0 : Int32)), (.ref d), (.int (0 : Int32)), (.int (4 : Int32))]) (rest := []) 0 d8_9 (tw hw 46 rfl) (tw hw 47 rfl) (tw hw 44 rfl) (tw hw 48 rfl) (by decide) (rmC5x_4_0 l Z a0 hw b d kb kd c0 c1 c2 c3 h1 w.old ge_d nbd (Ab.ext E_d) A_d  gp) (lenOf pd_12 rfl) rfl rfl (Nat.le_refl _) ⟨by decide, by decide, by decide, by decide⟩ (allS (List.mem_of_getElem? (i := 0) rfl) all0) ?_
  intro T h2 r w _ hQ
  obtain ⟨rfl, K1⟩ := hQ
  have E2 := keep_to E_d K1 (allS (Nat.le_of_eq g_d.symm) all0)
  have Ab := Ab.ext E2
  show Go x _ Z _ _ _ T 12 #[.val (.ref b), .val (.int (0 : Int32)), .val (.int (4 : Int32)), .val (.ref d), .unset, .unset] [(.int (0 : Int32))]
  refine w.istore #[.val (.ref b), .val (.int (0 : Int32)), .val (.int (4 : Int32)), .val (.ref d), .val (.int (0 : Int32)), .unset] d8_12 rfl ?_
  refine w.iload d8_14 rfl ?_
  refine w.iloadN d8_16 rfl ?_
  refine w.icmpEq d8_17 d8_17t (fun q => absurd q (by decide)) (fun _ => ?_)
  refine w.aloadN d8_20 rfl rfl ?_
  refine w.iloadN d8_21 rfl ?_
  refine w.iloadN d8_22 rfl ?_
  refine w.callS (argsL := [(.ref b), (.int (0 : Int32)), (.int (4 : Int32))]) (rest := []) 0 d8_23 (tw hw 77 rfl) (tw hw 78 rfl) (tw hw 44 rfl) (tw hw 79 rfl) (by decide) (rmTo_4 l Z a0 hw hr b kb c0 c1 c2 c3 h2 w.old Ab) (lenOf pd_13 rfl) rfl rfl (Nat.le_refl _) ⟨by decide, by decide, by decide, by decide⟩ all0 ?_
  intro T h3 r w _ hQ
  obtain ⟨e, ke, rfl, E3, ge, Ae⟩ := hQ
  show Go x _ Z _ _ _ T 26 #[.val (.ref b), .val (.int (0 : Int32)), .val (.int (4 : Int32)), .val (.ref d), .val (.int (0 : Int32)), .unset] [(.ref e)]
  refine w.astore #[.val (.ref b), .val (.int (0 : Int32)), .val (.int (4 : Int32)), .val (.ref d), .val (.int (0 : Int32)), .val (.ref e)] d8_26 rfl rfl ?_
  refine w.aload d8_28 rfl rfl ?_
  refine w.iload d8_30 rfl ?_
  refine w.callS (argsL := [(.ref e), (.int (0 : Int32))]) (rest := []) 0 d8_32 (tw hw 93 rfl) (tw hw 94 rfl) (tw hw 44 rfl) (tw hw 95 rfl) (by decide) (rmGe_4_0 l Z a0 hw hr e ke c0 c1 c2 c3 h3 w.old Ae z0 v0) (lenOf pd_5 rfl) rfl rfl (Nat.le_refl _) ⟨by decide, by decide, by decide, by decide⟩ all0 ?_
  intro T h4 r w _ hQ
  obtain ⟨rfl, rfl⟩ := hQ
  show Go x _ Z _ _ _ T 35 #[.val (.ref b), .val (.int (0 : Int32)), .val (.int (4 : Int32)), .val (.ref d), .val (.int (0 : Int32)), .val (.ref e)] [(.int c0)]
  refine w.sipush (255 : Int32) d8_35 rfl ?_
  refine w.icmpGt d8_38 d8_38t (fun _ => ?_) (fun q => absurd gp q)
  refine w.aload d8_54 rfl rfl ?_
  exact w.retA d8_56 rfl rfl rfl rfl ⟨e, ke, rfl, ext_trans E2 E3, Nat.le_trans E2.1 ge, Ae⟩

set_option maxRecDepth 65536 in
set_option maxHeartbeats 40000000 in
theorem rmC5x_4_1 (l : Launch) (Z : State) (a0 : Array Value) (hw : ∀ d ∈ tables_1, d.before a0 Z = true) (b d : Addr) (kb kd : ClassId) (c0 c1 c2 c3 : Int32) (h0 : Heap) (hE : Ext Z.heap h0) (ge_d : Z.heap.size ≤ d) (nbd : b ≠ d) (Ab : Arv Z h0 b kb .char (4 : Int32) [(.int c0), (.int c1), (.int c2), (.int c3)] (.int 0)) (Ad : Arv Z h0 d kd .byte (4 : Int32) [] (.int 0)) (u0 : ¬ 255 < c0) (gp : 255 < c1) :
    Ct true l Z consts_1 (⟨"java/lang/StringUTF16", "compress", "([CI[BII)I"⟩ : MethodName) jdk_52_method_21_code 7 (some .int) [] ({ frames := 0, cells := 0, slots := 0, locals := 0 } : Room) [d] #[(.ref b), (.int (0 : Int32)), (.ref d), (.int (0 : Int32)), (.int (4 : Int32))] h0 (fun r u => r = some (.int (1 : Int32)) ∧ Keep h0 u [d]) := by
  refine Ct.intro pn_java_lang_StringUTF16 hE (fun m => ef9_ririi m b _ d _ _) (onesf ge_d Ad.lt) ⟨a0, own_EW hw⟩ ?_
  intro x T w
  refine w.iconst (0 : Int32) d9_0 rfl ?_
  refine w.istore #[.val (.ref b), .val (.int (0 : Int32)), .val (.ref d), .val (.int (0 : Int32)), .val (.int (4 : Int32)), .val (.int (0 : Int32)), .unset] d9_1 rfl ?_
  refine w.iload d9_3 rfl ?_
  refine w.iload d9_5 rfl ?_
  refine w.icmpGe d9_7 d9_7t (fun q => absurd (by decide) q) (fun _ => ?_)
  refine w.aloadN d9_10 rfl rfl ?_
  refine w.iloadN d9_11 rfl ?_
  obtain ⟨cl0, Ar0, -, S0, -, H0, -⟩ := id Ab
  refine w.caload d9_12 Ar0 (inb_of S0 (by decide)) (H0.at (inb_of S0 (by decide)) rfl) ?_
  refine w.istore #[.val (.ref b), .val (.int (0 : Int32)), .val (.ref d), .val (.int (0 : Int32)), .val (.int (4 : Int32)), .val (.int (0 : Int32)), .val (.int c0)] d9_13 rfl ?_
  refine w.iload d9_15 rfl ?_
  refine w.sipush (255 : Int32) d9_17 rfl ?_
  refine w.icmpLe d9_20 d9_20t (fun _ => ?_) (fun q => absurd q u0)
  refine w.aloadN d9_26 rfl rfl ?_
  refine w.iloadN d9_27 rfl ?_
  refine w.iload d9_28 rfl ?_
  refine w.i2b d9_30 ?_
  refine w.stB 0 [(.int 0)] d9_31 Ad ⟨by decide, by decide⟩ (by decide) (pad_rep [] (.int 0) 1) (by simp) (fnb _) (List.mem_of_getElem? (i := 0) rfl) ?_
  intro T h1 w W0 A0
  rw [nbb] at A0 W0
  have Ad0 : Arv Z h1 d kd .byte (4 : Int32) [(.int (nar .byte c0))] (.int 0) := A0
  have Ab0 := Ab.other W0 nbd
  refine w.iinc (1 : Int32) #[.val (.ref b), .val (.int (1 : Int32)), .val (.ref d), .val (.int (0 : Int32)), .val (.int (4 : Int32)), .val (.int (0 : Int32)), .val (.int c0)] d9_32 rfl rfl rfl ?_
  refine w.iinc (1 : Int32) #[.val (.ref b), .val (.int (1 : Int32)), .val (.ref d), .val (.int (1 : Int32)), .val (.int (4 : Int32)), .val (.int (0 : Int32)), .val (.int c0)] d9_35 rfl rfl rfl ?_
  refine w.iinc (1 : Int32) #[.val (.ref b), .val (.int (1 : Int32)), .val (.ref d), .val (.int (1 : Int32)), .val (.int (4 : Int32)), .val (.int (1 : Int32)), .val (.int c0)] d9_38 rfl rfl rfl ?_
  refine w.goto d9_41 d9_41t ?_
  refine w.iload d9_3 rfl ?_
  refine w.iload d9_5 rfl ?_
  refine w.icmpGe d9_7 d9_7t (fun q => absurd (by decide) q) (fun _ => ?_)
  refine w.aloadN d9_10 rfl rfl ?_
  refine w.iloadN d9_11 rfl ?_
  obtain ⟨cl1, Ar1, -, S1, -, H1, -⟩ := id Ab0
  refine w.caload d9_12 Ar1 (inb_of S1 (by decide)) (H1.at (inb_of S1 (by decide)) rfl) ?_
  refine w.istore #[.val (.ref b), .val (.int (1 : Int32)), .val (.ref d), .val (.int (1 : Int32)), .val (.int (4 : Int32)), .val (.int (1 : Int32)), .val (.int c1)] d9_13 rfl ?_
  refine w.iload d9_15 rfl ?_
  refine w.sipush (255 : Int32) d9_17 rfl ?_
  refine w.icmpLe d9_20 d9_20t (fun q => absurd gp q) (fun _ => ?_)
  refine w.iload d9_23 rfl ?_
  exact w.retI d9_25 rfl ⟨rfl, ((Keep.refl _ _).wr W0 (Or.inl (List.mem_singleton.mpr rfl)))⟩

set_option maxRecDepth 65536 in
set_option maxHeartbeats 40000000 in
theorem rmGe_4_1 (l : Launch) (Z : State) (a0 : Array Value) (hw : ∀ d ∈ tables_1, d.before a0 Z = true) (hr : rest_1_c.value a0 Z none Z [] = some true) (t : Addr) (kb : ClassId) (c0 c1 c2 c3 : Int32) (h0 : Heap) (hE : Ext Z.heap h0) (A : Arv Z h0 t kb .byte (8 : Int32) [(.int (nar .byte (c0 >>> ((0 : Int32) &&& 31)))), (.int (nar .byte (c0 >>> ((8 : Int32) &&& 31)))), (.int (nar .byte (c1 >>> ((0 : Int32) &&& 31)))), (.int (nar .byte (c1 >>> ((8 : Int32) &&& 31)))), (.int (nar .byte (c2 >>> ((0 : Int32) &&& 31)))), (.int (nar .byte (c2 >>> ((8 : Int32) &&& 31)))), (.int (nar .byte (c3 >>> ((0 : Int32) &&& 31)))), (.int (nar .byte (c3 >>> ((8 : Int32) &&& 31))))] (.int 0)) (z : 0 ≤ c1.toInt) (v : c1.toInt < 65536) :
    Ct true l Z consts_1 (⟨"java/lang/StringUTF16", "getChar", "([BI)C"⟩ : MethodName) jdk_52_method_5_code 2 (some .char) [] ({ frames := 0, cells := 0, slots := 0, locals := 0 } : Room) [] #[(.ref t), (.int (1 : Int32))] h0 (fun r u => r = some (.int c1) ∧ h0 = u) := by
  refine Ct.intro pn_java_lang_StringUTF16 hE (fun m => ef21_ri m t _) nosf ⟨a0, own_EW hw⟩ ?_
  intro x T w
  obtain ⟨cl, Ar, -, S, M, H, -⟩ := id A
  refine w.getS d21_0 (tw hw 90 rfl) (own_ad hr) ?_
  intro T w
  refine w.ifNe d21_3 d21_3t (fun _ => ?_) (fun q => absurd q (by decide))
  refine w.iloadN d21_28 rfl ?_
  refine w.iconst (1 : Int32) d21_29 rfl ?_
  refine w.ishl d21_30 ?_
  refine w.istoreN #[.val (.ref t), .val (.int ((1 : Int32) <<< ((1 : Int32) &&& 31)))] d21_31 rfl ?_
  refine w.aloadN d21_32 rfl rfl ?_
  refine w.iloadN d21_33 rfl ?_
  refine w.iinc (1 : Int32) #[.val (.ref t), .val (.int (((1 : Int32) <<< ((1 : Int32) &&& 31)) + (1 : Int32)))] d21_34 rfl rfl rfl ?_
  refine w.baload (v := .int (nar .byte (c1 >>> ((0 : Int32) &&& 31)))) d21_37 Ar (inb_of S (by decide)) (H.at (inb_of S (by decide)) (by rw [show (((1 : Int32) <<< ((1 : Int32) &&& 31))).toNatClampNeg = 2 by decide]; rfl)) ?_
  refine w.sipush (255 : Int32) d21_38 rfl ?_
  refine w.iand d21_41 ?_
  refine w.getS d21_42 (tw hw 91 rfl) (own_hi hr) ?_
  intro T w
  refine w.ishl d21_45 ?_
  refine w.aloadN d21_46 rfl rfl ?_
  refine w.iloadN d21_47 rfl ?_
  refine w.baload (v := .int (nar .byte (c1 >>> ((8 : Int32) &&& 31)))) d21_48 Ar (inb_of S (by decide)) (H.at (inb_of S (by decide)) (by rw [show ((((1 : Int32) <<< ((1 : Int32) &&& 31)) + (1 : Int32))).toNatClampNeg = 3 by decide]; rfl)) ?_
  refine w.sipush (255 : Int32) d21_49 rfl ?_
  refine w.iand d21_52 ?_
  refine w.getS d21_53 (tw hw 92 rfl) (own_lo hr) ?_
  intro T w
  refine w.ishl d21_56 ?_
  refine w.ior d21_57 ?_
  refine w.i2c d21_58 ?_
  exact w.retN d21_59 rfl (by simp) ⟨by rw [ncc, own_gc z v], rfl⟩

set_option maxRecDepth 65536 in
set_option maxHeartbeats 40000000 in
theorem rmC3x_4_1 (l : Launch) (Z : State) (a0 : Array Value) (hw : ∀ d ∈ tables_1, d.before a0 Z = true) (hr : rest_1_c.value a0 Z none Z [] = some true) (b : Addr) (kb : ClassId) (c0 c1 c2 c3 : Int32) (h0 : Heap) (hE : Ext Z.heap h0) (Ab : Arv Z h0 b kb .char (4 : Int32) [(.int c0), (.int c1), (.int c2), (.int c3)] (.int 0)) (z0 : 0 ≤ c0.toInt) (v0 : c0.toInt < 65536) (z1 : 0 ≤ c1.toInt) (v1 : c1.toInt < 65536) (z2 : 0 ≤ c2.toInt) (v2 : c2.toInt < 65536) (z3 : 0 ≤ c3.toInt) (v3 : c3.toInt < 65536) (u0 : ¬ 255 < c0) (gp : 255 < c1) :
    Ct true l Z consts_1 (⟨"java/lang/StringUTF16", "compress", "([CII)[B"⟩ : MethodName) jdk_52_method_16_code 6 (some (.array .byte)) [] ({ frames := 3, cells := 2, slots := 12, locals := 40 } : Room) [] #[(.ref b), (.int (0 : Int32)), (.int (4 : Int32))] h0 (fun r u => ∃ d kd, r = some (.ref d) ∧ Ext h0 u ∧ h0.size ≤ d ∧ Arv Z u d kd .byte (8 : Int32) [(.int (nar .byte (c0 >>> ((0 : Int32) &&& 31)))), (.int (nar .byte (c0 >>> ((8 : Int32) &&& 31)))), (.int (nar .byte (c1 >>> ((0 : Int32) &&& 31)))), (.int (nar .byte (c1 >>> ((8 : Int32) &&& 31)))), (.int (nar .byte (c2 >>> ((0 : Int32) &&& 31)))), (.int (nar .byte (c2 >>> ((8 : Int32) &&& 31)))), (.int (nar .byte (c3 >>> ((0 : Int32) &&& 31)))), (.int (nar .byte (c3 >>> ((8 : Int32) &&& 31))))] (.int 0)) := by
  refine Ct.intro pn_java_lang_StringUTF16 hE (fun m => ef8_rii m b _ _) nosf ⟨a0, own_EW hw⟩ ?_
  intro x T w
  refine w.iloadN d8_0 rfl ?_
  have sz0 := w.size
  refine w.newP 4 "[B" d8_1 (tw hw 20 rfl) (by decide) (by decide) (by decide) (by decide) ⟨by decide, by decide⟩ ?_
  intro d T h1 kd g_d w E_d A_d X_d
  have ge_d : Z.heap.size ≤ d := by rw [g_d]; exact sz0
  have nbd : b ≠ d := Nat.ne_of_lt (Nat.lt_of_lt_of_eq Ab.lt g_d.symm)
  refine w.astoreN #[.val (.ref b), .val (.int (0 : Int32)), .val (.int (4 : Int32)), .val (.ref d), .unset, .unset] d8_3 rfl rfl ?_
  refine w.aloadN d8_4 rfl rfl ?_
  refine w.iloadN d8_5 rfl ?_
  refine w.aloadN d8_6 rfl rfl ?_
  refine w.iconst (0 : Int32) d8_7 rfl ?_
  refine w.iloadN d8_8 rfl ?_
  refine w.callS (argsL := [(.ref b), (.int (0 : Int32)), (.ref d), (.int (0 : Int32)), (.int (4 : Int32))]) (rest := []) 0 d8_9 (tw hw 46 rfl) (tw hw 47 rfl) (tw hw 44 rfl) (tw hw 48 rfl) (by decide) (rmC5x_4_1 l Z a0 hw b d kb kd c0 c1 c2 c3 h1 w.old ge_d nbd (Ab.ext E_d) A_d u0 gp) (lenOf pd_12 rfl) rfl rfl (Nat.le_refl _) ⟨by decide, by decide, by decide, by decide⟩ (allS (List.mem_of_getElem? (i := 0) rfl) all0) ?_
  intro T h2 r w _ hQ
  obtain ⟨rfl, K1⟩ := hQ
  have E2 := keep_to E_d K1 (allS (Nat.le_of_eq g_d.symm) all0)
  have Ab := Ab.ext E2
  show Go x _ Z _ _ _ T 12 #[.val (.ref b), .val (.int (0 : Int32)), .val (.int (4 : Int32)), .val (.ref d), .unset, .unset] [(.int (1 : Int32))]
  refine w.istore #[.val (.ref b), .val (.int (0 : Int32)), .val (.int (4 : Int32)), .val (.ref d), .val (.int (1 : Int32)), .unset] d8_12 rfl ?_
  refine w.iload d8_14 rfl ?_
  refine w.iloadN d8_16 rfl ?_
  refine w.icmpEq d8_17 d8_17t (fun q => absurd q (by decide)) (fun _ => ?_)
  refine w.aloadN d8_20 rfl rfl ?_
  refine w.iloadN d8_21 rfl ?_
  refine w.iloadN d8_22 rfl ?_
  refine w.callS (argsL := [(.ref b), (.int (0 : Int32)), (.int (4 : Int32))]) (rest := []) 0 d8_23 (tw hw 77 rfl) (tw hw 78 rfl) (tw hw 44 rfl) (tw hw 79 rfl) (by decide) (rmTo_4 l Z a0 hw hr b kb c0 c1 c2 c3 h2 w.old Ab) (lenOf pd_13 rfl) rfl rfl (Nat.le_refl _) ⟨by decide, by decide, by decide, by decide⟩ all0 ?_
  intro T h3 r w _ hQ
  obtain ⟨e, ke, rfl, E3, ge, Ae⟩ := hQ
  show Go x _ Z _ _ _ T 26 #[.val (.ref b), .val (.int (0 : Int32)), .val (.int (4 : Int32)), .val (.ref d), .val (.int (1 : Int32)), .unset] [(.ref e)]
  refine w.astore #[.val (.ref b), .val (.int (0 : Int32)), .val (.int (4 : Int32)), .val (.ref d), .val (.int (1 : Int32)), .val (.ref e)] d8_26 rfl rfl ?_
  refine w.aload d8_28 rfl rfl ?_
  refine w.iload d8_30 rfl ?_
  refine w.callS (argsL := [(.ref e), (.int (1 : Int32))]) (rest := []) 0 d8_32 (tw hw 93 rfl) (tw hw 94 rfl) (tw hw 44 rfl) (tw hw 95 rfl) (by decide) (rmGe_4_1 l Z a0 hw hr e ke c0 c1 c2 c3 h3 w.old Ae z1 v1) (lenOf pd_5 rfl) rfl rfl (Nat.le_refl _) ⟨by decide, by decide, by decide, by decide⟩ all0 ?_
  intro T h4 r w _ hQ
  obtain ⟨rfl, rfl⟩ := hQ
  show Go x _ Z _ _ _ T 35 #[.val (.ref b), .val (.int (0 : Int32)), .val (.int (4 : Int32)), .val (.ref d), .val (.int (1 : Int32)), .val (.ref e)] [(.int c1)]
  refine w.sipush (255 : Int32) d8_35 rfl ?_
  refine w.icmpGt d8_38 d8_38t (fun _ => ?_) (fun q => absurd gp q)
  refine w.aload d8_54 rfl rfl ?_
  exact w.retA d8_56 rfl rfl rfl rfl ⟨e, ke, rfl, ext_trans E2 E3, Nat.le_trans E2.1 ge, Ae⟩

set_option maxRecDepth 65536 in
set_option maxHeartbeats 40000000 in
theorem rmC5x_4_2 (l : Launch) (Z : State) (a0 : Array Value) (hw : ∀ d ∈ tables_1, d.before a0 Z = true) (b d : Addr) (kb kd : ClassId) (c0 c1 c2 c3 : Int32) (h0 : Heap) (hE : Ext Z.heap h0) (ge_d : Z.heap.size ≤ d) (nbd : b ≠ d) (Ab : Arv Z h0 b kb .char (4 : Int32) [(.int c0), (.int c1), (.int c2), (.int c3)] (.int 0)) (Ad : Arv Z h0 d kd .byte (4 : Int32) [] (.int 0)) (u0 : ¬ 255 < c0) (u1 : ¬ 255 < c1) (gp : 255 < c2) :
    Ct true l Z consts_1 (⟨"java/lang/StringUTF16", "compress", "([CI[BII)I"⟩ : MethodName) jdk_52_method_21_code 7 (some .int) [] ({ frames := 0, cells := 0, slots := 0, locals := 0 } : Room) [d] #[(.ref b), (.int (0 : Int32)), (.ref d), (.int (0 : Int32)), (.int (4 : Int32))] h0 (fun r u => r = some (.int (2 : Int32)) ∧ Keep h0 u [d]) := by
  refine Ct.intro pn_java_lang_StringUTF16 hE (fun m => ef9_ririi m b _ d _ _) (onesf ge_d Ad.lt) ⟨a0, own_EW hw⟩ ?_
  intro x T w
  refine w.iconst (0 : Int32) d9_0 rfl ?_
  refine w.istore #[.val (.ref b), .val (.int (0 : Int32)), .val (.ref d), .val (.int (0 : Int32)), .val (.int (4 : Int32)), .val (.int (0 : Int32)), .unset] d9_1 rfl ?_
  refine w.iload d9_3 rfl ?_
  refine w.iload d9_5 rfl ?_
  refine w.icmpGe d9_7 d9_7t (fun q => absurd (by decide) q) (fun _ => ?_)
  refine w.aloadN d9_10 rfl rfl ?_
  refine w.iloadN d9_11 rfl ?_
  obtain ⟨cl0, Ar0, -, S0, -, H0, -⟩ := id Ab
  refine w.caload d9_12 Ar0 (inb_of S0 (by decide)) (H0.at (inb_of S0 (by decide)) rfl) ?_
  refine w.istore #[.val (.ref b), .val (.int (0 : Int32)), .val (.ref d), .val (.int (0 : Int32)), .val (.int (4 : Int32)), .val (.int (0 : Int32)), .val (.int c0)] d9_13 rfl ?_
  refine w.iload d9_15 rfl ?_
  refine w.sipush (255 : Int32) d9_17 rfl ?_
  refine w.icmpLe d9_20 d9_20t (fun _ => ?_) (fun q => absurd q u0)
  refine w.aloadN d9_26 rfl rfl ?_
  refine w.iloadN d9_27 rfl ?_
  refine w.iload d9_28 rfl ?_
  refine w.i2b d9_30 ?_
  refine w.stB 0 [(.int 0)] d9_31 Ad ⟨by decide, by decide⟩ (by decide) (pad_rep [] (.int 0) 1) (by simp) (fnb _) (List.mem_of_getElem? (i := 0) rfl) ?_
  intro T h1 w W0 A0
  rw [nbb] at A0 W0
  have Ad0 : Arv Z h1 d kd .byte (4 : Int32) [(.int (nar .byte c0))] (.int 0) := A0
  have Ab0 := Ab.other W0 nbd
  refine w.iinc (1 : Int32) #[.val (.ref b), .val (.int (1 : Int32)), .val (.ref d), .val (.int (0 : Int32)), .val (.int (4 : Int32)), .val (.int (0 : Int32)), .val (.int c0)] d9_32 rfl rfl rfl ?_
  refine w.iinc (1 : Int32) #[.val (.ref b), .val (.int (1 : Int32)), .val (.ref d), .val (.int (1 : Int32)), .val (.int (4 : Int32)), .val (.int (0 : Int32)), .val (.int c0)] d9_35 rfl rfl rfl ?_
  refine w.iinc (1 : Int32) #[.val (.ref b), .val (.int (1 : Int32)), .val (.ref d), .val (.int (1 : Int32)), .val (.int (4 : Int32)), .val (.int (1 : Int32)), .val (.int c0)] d9_38 rfl rfl rfl ?_
  refine w.goto d9_41 d9_41t ?_
  refine w.iload d9_3 rfl ?_
  refine w.iload d9_5 rfl ?_
  refine w.icmpGe d9_7 d9_7t (fun q => absurd (by decide) q) (fun _ => ?_)
  refine w.aloadN d9_10 rfl rfl ?_
  refine w.iloadN d9_11 rfl ?_
  obtain ⟨cl1, Ar1, -, S1, -, H1, -⟩ := id Ab0
  refine w.caload d9_12 Ar1 (inb_of S1 (by decide)) (H1.at (inb_of S1 (by decide)) rfl) ?_
  refine w.istore #[.val (.ref b), .val (.int (1 : Int32)), .val (.ref d), .val (.int (1 : Int32)), .val (.int (4 : Int32)), .val (.int (1 : Int32)), .val (.int c1)] d9_13 rfl ?_
  refine w.iload d9_15 rfl ?_
  refine w.sipush (255 : Int32) d9_17 rfl ?_
  refine w.icmpLe d9_20 d9_20t (fun _ => ?_) (fun q => absurd q u1)
  refine w.aloadN d9_26 rfl rfl ?_
  refine w.iloadN d9_27 rfl ?_
  refine w.iload d9_28 rfl ?_
  refine w.i2b d9_30 ?_
  refine w.stB 1 [(.int (nar .byte c0)), (.int 0)] d9_31 Ad0 ⟨by decide, by decide⟩ (by decide) (pad_rep [(.int (nar .byte c0))] (.int 0) 1) (by simp) (fnb _) (List.mem_of_getElem? (i := 0) rfl) ?_
  intro T h2 w W1 A1
  rw [nbb] at A1 W1
  have Ad1 : Arv Z h2 d kd .byte (4 : Int32) [(.int (nar .byte c0)), (.int (nar .byte c1))] (.int 0) := A1
  have Ab1 := Ab0.other W1 nbd
  refine w.iinc (1 : Int32) #[.val (.ref b), .val (.int (2 : Int32)), .val (.ref d), .val (.int (1 : Int32)), .val (.int (4 : Int32)), .val (.int (1 : Int32)), .val (.int c1)] d9_32 rfl rfl rfl ?_
  refine w.iinc (1 : Int32) #[.val (.ref b), .val (.int (2 : Int32)), .val (.ref d), .val (.int (2 : Int32)), .val (.int (4 : Int32)), .val (.int (1 : Int32)), .val (.int c1)] d9_35 rfl rfl rfl ?_
  refine w.iinc (1 : Int32) #[.val (.ref b), .val (.int (2 : Int32)), .val (.ref d), .val (.int (2 : Int32)), .val (.int (4 : Int32)), .val (.int (2 : Int32)), .val (.int c1)] d9_38 rfl rfl rfl ?_
  refine w.goto d9_41 d9_41t ?_
  refine w.iload d9_3 rfl ?_
  refine w.iload d9_5 rfl ?_
  refine w.icmpGe d9_7 d9_7t (fun q => absurd (by decide) q) (fun _ => ?_)
  refine w.aloadN d9_10 rfl rfl ?_
  refine w.iloadN d9_11 rfl ?_
  obtain ⟨cl2, Ar2, -, S2, -, H2, -⟩ := id Ab1
  refine w.caload d9_12 Ar2 (inb_of S2 (by decide)) (H2.at (inb_of S2 (by decide)) rfl) ?_
  refine w.istore #[.val (.ref b), .val (.int (2 : Int32)), .val (.ref d), .val (.int (2 : Int32)), .val (.int (4 : Int32)), .val (.int (2 : Int32)), .val (.int c2)] d9_13 rfl ?_
  refine w.iload d9_15 rfl ?_
  refine w.sipush (255 : Int32) d9_17 rfl ?_
  refine w.icmpLe d9_20 d9_20t (fun q => absurd gp q) (fun _ => ?_)
  refine w.iload d9_23 rfl ?_
  exact w.retI d9_25 rfl ⟨rfl, (((Keep.refl _ _).wr W0 (Or.inl (List.mem_singleton.mpr rfl))).wr W1 (Or.inl (List.mem_singleton.mpr rfl)))⟩

set_option maxRecDepth 65536 in
set_option maxHeartbeats 40000000 in
theorem rmGe_4_2 (l : Launch) (Z : State) (a0 : Array Value) (hw : ∀ d ∈ tables_1, d.before a0 Z = true) (hr : rest_1_c.value a0 Z none Z [] = some true) (t : Addr) (kb : ClassId) (c0 c1 c2 c3 : Int32) (h0 : Heap) (hE : Ext Z.heap h0) (A : Arv Z h0 t kb .byte (8 : Int32) [(.int (nar .byte (c0 >>> ((0 : Int32) &&& 31)))), (.int (nar .byte (c0 >>> ((8 : Int32) &&& 31)))), (.int (nar .byte (c1 >>> ((0 : Int32) &&& 31)))), (.int (nar .byte (c1 >>> ((8 : Int32) &&& 31)))), (.int (nar .byte (c2 >>> ((0 : Int32) &&& 31)))), (.int (nar .byte (c2 >>> ((8 : Int32) &&& 31)))), (.int (nar .byte (c3 >>> ((0 : Int32) &&& 31)))), (.int (nar .byte (c3 >>> ((8 : Int32) &&& 31))))] (.int 0)) (z : 0 ≤ c2.toInt) (v : c2.toInt < 65536) :
    Ct true l Z consts_1 (⟨"java/lang/StringUTF16", "getChar", "([BI)C"⟩ : MethodName) jdk_52_method_5_code 2 (some .char) [] ({ frames := 0, cells := 0, slots := 0, locals := 0 } : Room) [] #[(.ref t), (.int (2 : Int32))] h0 (fun r u => r = some (.int c2) ∧ h0 = u) := by
  refine Ct.intro pn_java_lang_StringUTF16 hE (fun m => ef21_ri m t _) nosf ⟨a0, own_EW hw⟩ ?_
  intro x T w
  obtain ⟨cl, Ar, -, S, M, H, -⟩ := id A
  refine w.getS d21_0 (tw hw 90 rfl) (own_ad hr) ?_
  intro T w
  refine w.ifNe d21_3 d21_3t (fun _ => ?_) (fun q => absurd q (by decide))
  refine w.iloadN d21_28 rfl ?_
  refine w.iconst (1 : Int32) d21_29 rfl ?_
  refine w.ishl d21_30 ?_
  refine w.istoreN #[.val (.ref t), .val (.int ((2 : Int32) <<< ((1 : Int32) &&& 31)))] d21_31 rfl ?_
  refine w.aloadN d21_32 rfl rfl ?_
  refine w.iloadN d21_33 rfl ?_
  refine w.iinc (1 : Int32) #[.val (.ref t), .val (.int (((2 : Int32) <<< ((1 : Int32) &&& 31)) + (1 : Int32)))] d21_34 rfl rfl rfl ?_
  refine w.baload (v := .int (nar .byte (c2 >>> ((0 : Int32) &&& 31)))) d21_37 Ar (inb_of S (by decide)) (H.at (inb_of S (by decide)) (by rw [show (((2 : Int32) <<< ((1 : Int32) &&& 31))).toNatClampNeg = 4 by decide]; rfl)) ?_
  refine w.sipush (255 : Int32) d21_38 rfl ?_
  refine w.iand d21_41 ?_
  refine w.getS d21_42 (tw hw 91 rfl) (own_hi hr) ?_
  intro T w
  refine w.ishl d21_45 ?_
  refine w.aloadN d21_46 rfl rfl ?_
  refine w.iloadN d21_47 rfl ?_
  refine w.baload (v := .int (nar .byte (c2 >>> ((8 : Int32) &&& 31)))) d21_48 Ar (inb_of S (by decide)) (H.at (inb_of S (by decide)) (by rw [show ((((2 : Int32) <<< ((1 : Int32) &&& 31)) + (1 : Int32))).toNatClampNeg = 5 by decide]; rfl)) ?_
  refine w.sipush (255 : Int32) d21_49 rfl ?_
  refine w.iand d21_52 ?_
  refine w.getS d21_53 (tw hw 92 rfl) (own_lo hr) ?_
  intro T w
  refine w.ishl d21_56 ?_
  refine w.ior d21_57 ?_
  refine w.i2c d21_58 ?_
  exact w.retN d21_59 rfl (by simp) ⟨by rw [ncc, own_gc z v], rfl⟩

set_option maxRecDepth 65536 in
set_option maxHeartbeats 40000000 in
theorem rmC3x_4_2 (l : Launch) (Z : State) (a0 : Array Value) (hw : ∀ d ∈ tables_1, d.before a0 Z = true) (hr : rest_1_c.value a0 Z none Z [] = some true) (b : Addr) (kb : ClassId) (c0 c1 c2 c3 : Int32) (h0 : Heap) (hE : Ext Z.heap h0) (Ab : Arv Z h0 b kb .char (4 : Int32) [(.int c0), (.int c1), (.int c2), (.int c3)] (.int 0)) (z0 : 0 ≤ c0.toInt) (v0 : c0.toInt < 65536) (z1 : 0 ≤ c1.toInt) (v1 : c1.toInt < 65536) (z2 : 0 ≤ c2.toInt) (v2 : c2.toInt < 65536) (z3 : 0 ≤ c3.toInt) (v3 : c3.toInt < 65536) (u0 : ¬ 255 < c0) (u1 : ¬ 255 < c1) (gp : 255 < c2) :
    Ct true l Z consts_1 (⟨"java/lang/StringUTF16", "compress", "([CII)[B"⟩ : MethodName) jdk_52_method_16_code 6 (some (.array .byte)) [] ({ frames := 3, cells := 2, slots := 12, locals := 40 } : Room) [] #[(.ref b), (.int (0 : Int32)), (.int (4 : Int32))] h0 (fun r u => ∃ d kd, r = some (.ref d) ∧ Ext h0 u ∧ h0.size ≤ d ∧ Arv Z u d kd .byte (8 : Int32) [(.int (nar .byte (c0 >>> ((0 : Int32) &&& 31)))), (.int (nar .byte (c0 >>> ((8 : Int32) &&& 31)))), (.int (nar .byte (c1 >>> ((0 : Int32) &&& 31)))), (.int (nar .byte (c1 >>> ((8 : Int32) &&& 31)))), (.int (nar .byte (c2 >>> ((0 : Int32) &&& 31)))), (.int (nar .byte (c2 >>> ((8 : Int32) &&& 31)))), (.int (nar .byte (c3 >>> ((0 : Int32) &&& 31)))), (.int (nar .byte (c3 >>> ((8 : Int32) &&& 31))))] (.int 0)) := by
  refine Ct.intro pn_java_lang_StringUTF16 hE (fun m => ef8_rii m b _ _) nosf ⟨a0, own_EW hw⟩ ?_
  intro x T w
  refine w.iloadN d8_0 rfl ?_
  have sz0 := w.size
  refine w.newP 4 "[B" d8_1 (tw hw 20 rfl) (by decide) (by decide) (by decide) (by decide) ⟨by decide, by decide⟩ ?_
  intro d T h1 kd g_d w E_d A_d X_d
  have ge_d : Z.heap.size ≤ d := by rw [g_d]; exact sz0
  have nbd : b ≠ d := Nat.ne_of_lt (Nat.lt_of_lt_of_eq Ab.lt g_d.symm)
  refine w.astoreN #[.val (.ref b), .val (.int (0 : Int32)), .val (.int (4 : Int32)), .val (.ref d), .unset, .unset] d8_3 rfl rfl ?_
  refine w.aloadN d8_4 rfl rfl ?_
  refine w.iloadN d8_5 rfl ?_
  refine w.aloadN d8_6 rfl rfl ?_
  refine w.iconst (0 : Int32) d8_7 rfl ?_
  refine w.iloadN d8_8 rfl ?_
  refine w.callS (argsL := [(.ref b), (.int (0 : Int32)), (.ref d), (.int (0 : Int32)), (.int (4 : Int32))]) (rest := []) 0 d8_9 (tw hw 46 rfl) (tw hw 47 rfl) (tw hw 44 rfl) (tw hw 48 rfl) (by decide) (rmC5x_4_2 l Z a0 hw b d kb kd c0 c1 c2 c3 h1 w.old ge_d nbd (Ab.ext E_d) A_d u0 u1 gp) (lenOf pd_12 rfl) rfl rfl (Nat.le_refl _) ⟨by decide, by decide, by decide, by decide⟩ (allS (List.mem_of_getElem? (i := 0) rfl) all0) ?_
  intro T h2 r w _ hQ
  obtain ⟨rfl, K1⟩ := hQ
  have E2 := keep_to E_d K1 (allS (Nat.le_of_eq g_d.symm) all0)
  have Ab := Ab.ext E2
  show Go x _ Z _ _ _ T 12 #[.val (.ref b), .val (.int (0 : Int32)), .val (.int (4 : Int32)), .val (.ref d), .unset, .unset] [(.int (2 : Int32))]
  refine w.istore #[.val (.ref b), .val (.int (0 : Int32)), .val (.int (4 : Int32)), .val (.ref d), .val (.int (2 : Int32)), .unset] d8_12 rfl ?_
  refine w.iload d8_14 rfl ?_
  refine w.iloadN d8_16 rfl ?_
  refine w.icmpEq d8_17 d8_17t (fun q => absurd q (by decide)) (fun _ => ?_)
  refine w.aloadN d8_20 rfl rfl ?_
  refine w.iloadN d8_21 rfl ?_
  refine w.iloadN d8_22 rfl ?_
  refine w.callS (argsL := [(.ref b), (.int (0 : Int32)), (.int (4 : Int32))]) (rest := []) 0 d8_23 (tw hw 77 rfl) (tw hw 78 rfl) (tw hw 44 rfl) (tw hw 79 rfl) (by decide) (rmTo_4 l Z a0 hw hr b kb c0 c1 c2 c3 h2 w.old Ab) (lenOf pd_13 rfl) rfl rfl (Nat.le_refl _) ⟨by decide, by decide, by decide, by decide⟩ all0 ?_
  intro T h3 r w _ hQ
  obtain ⟨e, ke, rfl, E3, ge, Ae⟩ := hQ
  show Go x _ Z _ _ _ T 26 #[.val (.ref b), .val (.int (0 : Int32)), .val (.int (4 : Int32)), .val (.ref d), .val (.int (2 : Int32)), .unset] [(.ref e)]
  refine w.astore #[.val (.ref b), .val (.int (0 : Int32)), .val (.int (4 : Int32)), .val (.ref d), .val (.int (2 : Int32)), .val (.ref e)] d8_26 rfl rfl ?_
  refine w.aload d8_28 rfl rfl ?_
  refine w.iload d8_30 rfl ?_
  refine w.callS (argsL := [(.ref e), (.int (2 : Int32))]) (rest := []) 0 d8_32 (tw hw 93 rfl) (tw hw 94 rfl) (tw hw 44 rfl) (tw hw 95 rfl) (by decide) (rmGe_4_2 l Z a0 hw hr e ke c0 c1 c2 c3 h3 w.old Ae z2 v2) (lenOf pd_5 rfl) rfl rfl (Nat.le_refl _) ⟨by decide, by decide, by decide, by decide⟩ all0 ?_
  intro T h4 r w _ hQ
  obtain ⟨rfl, rfl⟩ := hQ
  show Go x _ Z _ _ _ T 35 #[.val (.ref b), .val (.int (0 : Int32)), .val (.int (4 : Int32)), .val (.ref d), .val (.int (2 : Int32)), .val (.ref e)] [(.int c2)]
  refine w.sipush (255 : Int32) d8_35 rfl ?_
  refine w.icmpGt d8_38 d8_38t (fun _ => ?_) (fun q => absurd gp q)
  refine w.aload d8_54 rfl rfl ?_
  exact w.retA d8_56 rfl rfl rfl rfl ⟨e, ke, rfl, ext_trans E2 E3, Nat.le_trans E2.1 ge, Ae⟩

set_option maxRecDepth 65536 in
set_option maxHeartbeats 40000000 in
theorem rmC5x_4_3 (l : Launch) (Z : State) (a0 : Array Value) (hw : ∀ d ∈ tables_1, d.before a0 Z = true) (b d : Addr) (kb kd : ClassId) (c0 c1 c2 c3 : Int32) (h0 : Heap) (hE : Ext Z.heap h0) (ge_d : Z.heap.size ≤ d) (nbd : b ≠ d) (Ab : Arv Z h0 b kb .char (4 : Int32) [(.int c0), (.int c1), (.int c2), (.int c3)] (.int 0)) (Ad : Arv Z h0 d kd .byte (4 : Int32) [] (.int 0)) (u0 : ¬ 255 < c0) (u1 : ¬ 255 < c1) (u2 : ¬ 255 < c2) (gp : 255 < c3) :
    Ct true l Z consts_1 (⟨"java/lang/StringUTF16", "compress", "([CI[BII)I"⟩ : MethodName) jdk_52_method_21_code 7 (some .int) [] ({ frames := 0, cells := 0, slots := 0, locals := 0 } : Room) [d] #[(.ref b), (.int (0 : Int32)), (.ref d), (.int (0 : Int32)), (.int (4 : Int32))] h0 (fun r u => r = some (.int (3 : Int32)) ∧ Keep h0 u [d]) := by
  refine Ct.intro pn_java_lang_StringUTF16 hE (fun m => ef9_ririi m b _ d _ _) (onesf ge_d Ad.lt) ⟨a0, own_EW hw⟩ ?_
  intro x T w
  refine w.iconst (0 : Int32) d9_0 rfl ?_
  refine w.istore #[.val (.ref b), .val (.int (0 : Int32)), .val (.ref d), .val (.int (0 : Int32)), .val (.int (4 : Int32)), .val (.int (0 : Int32)), .unset] d9_1 rfl ?_
  refine w.iload d9_3 rfl ?_
  refine w.iload d9_5 rfl ?_
  refine w.icmpGe d9_7 d9_7t (fun q => absurd (by decide) q) (fun _ => ?_)
  refine w.aloadN d9_10 rfl rfl ?_
  refine w.iloadN d9_11 rfl ?_
  obtain ⟨cl0, Ar0, -, S0, -, H0, -⟩ := id Ab
  refine w.caload d9_12 Ar0 (inb_of S0 (by decide)) (H0.at (inb_of S0 (by decide)) rfl) ?_
  refine w.istore #[.val (.ref b), .val (.int (0 : Int32)), .val (.ref d), .val (.int (0 : Int32)), .val (.int (4 : Int32)), .val (.int (0 : Int32)), .val (.int c0)] d9_13 rfl ?_
  refine w.iload d9_15 rfl ?_
  refine w.sipush (255 : Int32) d9_17 rfl ?_
  refine w.icmpLe d9_20 d9_20t (fun _ => ?_) (fun q => absurd q u0)
  refine w.aloadN d9_26 rfl rfl ?_
  refine w.iloadN d9_27 rfl ?_
  refine w.iload d9_28 rfl ?_
  refine w.i2b d9_30 ?_
  refine w.stB 0 [(.int 0)] d9_31 Ad ⟨by decide, by decide⟩ (by decide) (pad_rep [] (.int 0) 1) (by simp) (fnb _) (List.mem_of_getElem? (i := 0) rfl) ?_
  intro T h1 w W0 A0
  rw [nbb] at A0 W0
  have Ad0 : Arv Z h1 d kd .byte (4 : Int32) [(.int (nar .byte c0))] (.int 0) := A0
  have Ab0 := Ab.other W0 nbd
  refine w.iinc (1 : Int32) #[.val (.ref b), .val (.int (1 : Int32)), .val (.ref d), .val (.int (0 : Int32)), .val (.int (4 : Int32)), .val (.int (0 : Int32)), .val (.int c0)] d9_32 rfl rfl rfl ?_
  refine w.iinc (1 : Int32) #[.val (.ref b), .val (.int (1 : Int32)), .val (.ref d), .val (.int (1 : Int32)), .val (.int (4 : Int32)), .val (.int (0 : Int32)), .val (.int c0)] d9_35 rfl rfl rfl ?_
  refine w.iinc (1 : Int32) #[.val (.ref b), .val (.int (1 : Int32)), .val (.ref d), .val (.int (1 : Int32)), .val (.int (4 : Int32)), .val (.int (1 : Int32)), .val (.int c0)] d9_38 rfl rfl rfl ?_
  refine w.goto d9_41 d9_41t ?_
  refine w.iload d9_3 rfl ?_
  refine w.iload d9_5 rfl ?_
  refine w.icmpGe d9_7 d9_7t (fun q => absurd (by decide) q) (fun _ => ?_)
  refine w.aloadN d9_10 rfl rfl ?_
  refine w.iloadN d9_11 rfl ?_
  obtain ⟨cl1, Ar1, -, S1, -, H1, -⟩ := id Ab0
  refine w.caload d9_12 Ar1 (inb_of S1 (by decide)) (H1.at (inb_of S1 (by decide)) rfl) ?_
  refine w.istore #[.val (.ref b), .val (.int (1 : Int32)), .val (.ref d), .val (.int (1 : Int32)), .val (.int (4 : Int32)), .val (.int (1 : Int32)), .val (.int c1)] d9_13 rfl ?_
  refine w.iload d9_15 rfl ?_
  refine w.sipush (255 : Int32) d9_17 rfl ?_
  refine w.icmpLe d9_20 d9_20t (fun _ => ?_) (fun q => absurd q u1)
  refine w.aloadN d9_26 rfl rfl ?_
  refine w.iloadN d9_27 rfl ?_
  refine w.iload d9_28 rfl ?_
  refine w.i2b d9_30 ?_
  refine w.stB 1 [(.int (nar .byte c0)), (.int 0)] d9_31 Ad0 ⟨by decide, by decide⟩ (by decide) (pad_rep [(.int (nar .byte c0))] (.int 0) 1) (by simp) (fnb _) (List.mem_of_getElem? (i := 0) rfl) ?_
  intro T h2 w W1 A1
  rw [nbb] at A1 W1
  have Ad1 : Arv Z h2 d kd .byte (4 : Int32) [(.int (nar .byte c0)), (.int (nar .byte c1))] (.int 0) := A1
  have Ab1 := Ab0.other W1 nbd
  refine w.iinc (1 : Int32) #[.val (.ref b), .val (.int (2 : Int32)), .val (.ref d), .val (.int (1 : Int32)), .val (.int (4 : Int32)), .val (.int (1 : Int32)), .val (.int c1)] d9_32 rfl rfl rfl ?_
  refine w.iinc (1 : Int32) #[.val (.ref b), .val (.int (2 : Int32)), .val (.ref d), .val (.int (2 : Int32)), .val (.int (4 : Int32)), .val (.int (1 : Int32)), .val (.int c1)] d9_35 rfl rfl rfl ?_
  refine w.iinc (1 : Int32) #[.val (.ref b), .val (.int (2 : Int32)), .val (.ref d), .val (.int (2 : Int32)), .val (.int (4 : Int32)), .val (.int (2 : Int32)), .val (.int c1)] d9_38 rfl rfl rfl ?_
  refine w.goto d9_41 d9_41t ?_
  refine w.iload d9_3 rfl ?_
  refine w.iload d9_5 rfl ?_
  refine w.icmpGe d9_7 d9_7t (fun q => absurd (by decide) q) (fun _ => ?_)
  refine w.aloadN d9_10 rfl rfl ?_
  refine w.iloadN d9_11 rfl ?_
  obtain ⟨cl2, Ar2, -, S2, -, H2, -⟩ := id Ab1
  refine w.caload d9_12 Ar2 (inb_of S2 (by decide)) (H2.at (inb_of S2 (by decide)) rfl) ?_
  refine w.istore #[.val (.ref b), .val (.int (2 : Int32)), .val (.ref d), .val (.int (2 : Int32)), .val (.int (4 : Int32)), .val (.int (2 : Int32)), .val (.int c2)] d9_13 rfl ?_
  refine w.iload d9_15 rfl ?_
  refine w.sipush (255 : Int32) d9_17 rfl ?_
  refine w.icmpLe d9_20 d9_20t (fun _ => ?_) (fun q => absurd q u2)
  refine w.aloadN d9_26 rfl rfl ?_
  refine w.iloadN d9_27 rfl ?_
  refine w.iload d9_28 rfl ?_
  refine w.i2b d9_30 ?_
  refine w.stB 2 [(.int (nar .byte c0)), (.int (nar .byte c1)), (.int 0)] d9_31 Ad1 ⟨by decide, by decide⟩ (by decide) (pad_rep [(.int (nar .byte c0)), (.int (nar .byte c1))] (.int 0) 1) (by simp) (fnb _) (List.mem_of_getElem? (i := 0) rfl) ?_
  intro T h3 w W2 A2
  rw [nbb] at A2 W2
  have Ad2 : Arv Z h3 d kd .byte (4 : Int32) [(.int (nar .byte c0)), (.int (nar .byte c1)), (.int (nar .byte c2))] (.int 0) := A2
  have Ab2 := Ab1.other W2 nbd
  refine w.iinc (1 : Int32) #[.val (.ref b), .val (.int (3 : Int32)), .val (.ref d), .val (.int (2 : Int32)), .val (.int (4 : Int32)), .val (.int (2 : Int32)), .val (.int c2)] d9_32 rfl rfl rfl ?_
  refine w.iinc (1 : Int32) #[.val (.ref b), .val (.int (3 : Int32)), .val (.ref d), .val (.int (3 : Int32)), .val (.int (4 : Int32)), .val (.int (2 : Int32)), .val (.int c2)] d9_35 rfl rfl rfl ?_
  refine w.iinc (1 : Int32) #[.val (.ref b), .val (.int (3 : Int32)), .val (.ref d), .val (.int (3 : Int32)), .val (.int (4 : Int32)), .val (.int (3 : Int32)), .val (.int c2)] d9_38 rfl rfl rfl ?_
  refine w.goto d9_41 d9_41t ?_
  refine w.iload d9_3 rfl ?_
  refine w.iload d9_5 rfl ?_
  refine w.icmpGe d9_7 d9_7t (fun q => absurd (by decide) q) (fun _ => ?_)
  refine w.aloadN d9_10 rfl rfl ?_
  refine w.iloadN d9_11 rfl ?_
  obtain ⟨cl3, Ar3, -, S3, -, H3, -⟩ := id Ab2
  refine w.caload d9_12 Ar3 (inb_of S3 (by decide)) (H3.at (inb_of S3 (by decide)) rfl) ?_
  refine w.istore #[.val (.ref b), .val (.int (3 : Int32)), .val (.ref d), .val (.int (3 : Int32)), .val (.int (4 : Int32)), .val (.int (3 : Int32)), .val (.int c3)] d9_13 rfl ?_
  refine w.iload d9_15 rfl ?_
  refine w.sipush (255 : Int32) d9_17 rfl ?_
  refine w.icmpLe d9_20 d9_20t (fun q => absurd gp q) (fun _ => ?_)
  refine w.iload d9_23 rfl ?_
  exact w.retI d9_25 rfl ⟨rfl, ((((Keep.refl _ _).wr W0 (Or.inl (List.mem_singleton.mpr rfl))).wr W1 (Or.inl (List.mem_singleton.mpr rfl))).wr W2 (Or.inl (List.mem_singleton.mpr rfl)))⟩

set_option maxRecDepth 65536 in
set_option maxHeartbeats 40000000 in
theorem rmGe_4_3 (l : Launch) (Z : State) (a0 : Array Value) (hw : ∀ d ∈ tables_1, d.before a0 Z = true) (hr : rest_1_c.value a0 Z none Z [] = some true) (t : Addr) (kb : ClassId) (c0 c1 c2 c3 : Int32) (h0 : Heap) (hE : Ext Z.heap h0) (A : Arv Z h0 t kb .byte (8 : Int32) [(.int (nar .byte (c0 >>> ((0 : Int32) &&& 31)))), (.int (nar .byte (c0 >>> ((8 : Int32) &&& 31)))), (.int (nar .byte (c1 >>> ((0 : Int32) &&& 31)))), (.int (nar .byte (c1 >>> ((8 : Int32) &&& 31)))), (.int (nar .byte (c2 >>> ((0 : Int32) &&& 31)))), (.int (nar .byte (c2 >>> ((8 : Int32) &&& 31)))), (.int (nar .byte (c3 >>> ((0 : Int32) &&& 31)))), (.int (nar .byte (c3 >>> ((8 : Int32) &&& 31))))] (.int 0)) (z : 0 ≤ c3.toInt) (v : c3.toInt < 65536) :
    Ct true l Z consts_1 (⟨"java/lang/StringUTF16", "getChar", "([BI)C"⟩ : MethodName) jdk_52_method_5_code 2 (some .char) [] ({ frames := 0, cells := 0, slots := 0, locals := 0 } : Room) [] #[(.ref t), (.int (3 : Int32))] h0 (fun r u => r = some (.int c3) ∧ h0 = u) := by
  refine Ct.intro pn_java_lang_StringUTF16 hE (fun m => ef21_ri m t _) nosf ⟨a0, own_EW hw⟩ ?_
  intro x T w
  obtain ⟨cl, Ar, -, S, M, H, -⟩ := id A
  refine w.getS d21_0 (tw hw 90 rfl) (own_ad hr) ?_
  intro T w
  refine w.ifNe d21_3 d21_3t (fun _ => ?_) (fun q => absurd q (by decide))
  refine w.iloadN d21_28 rfl ?_
  refine w.iconst (1 : Int32) d21_29 rfl ?_
  refine w.ishl d21_30 ?_
  refine w.istoreN #[.val (.ref t), .val (.int ((3 : Int32) <<< ((1 : Int32) &&& 31)))] d21_31 rfl ?_
  refine w.aloadN d21_32 rfl rfl ?_
  refine w.iloadN d21_33 rfl ?_
  refine w.iinc (1 : Int32) #[.val (.ref t), .val (.int (((3 : Int32) <<< ((1 : Int32) &&& 31)) + (1 : Int32)))] d21_34 rfl rfl rfl ?_
  refine w.baload (v := .int (nar .byte (c3 >>> ((0 : Int32) &&& 31)))) d21_37 Ar (inb_of S (by decide)) (H.at (inb_of S (by decide)) (by rw [show (((3 : Int32) <<< ((1 : Int32) &&& 31))).toNatClampNeg = 6 by decide]; rfl)) ?_
  refine w.sipush (255 : Int32) d21_38 rfl ?_
  refine w.iand d21_41 ?_
  refine w.getS d21_42 (tw hw 91 rfl) (own_hi hr) ?_
  intro T w
  refine w.ishl d21_45 ?_
  refine w.aloadN d21_46 rfl rfl ?_
  refine w.iloadN d21_47 rfl ?_
  refine w.baload (v := .int (nar .byte (c3 >>> ((8 : Int32) &&& 31)))) d21_48 Ar (inb_of S (by decide)) (H.at (inb_of S (by decide)) (by rw [show ((((3 : Int32) <<< ((1 : Int32) &&& 31)) + (1 : Int32))).toNatClampNeg = 7 by decide]; rfl)) ?_
  refine w.sipush (255 : Int32) d21_49 rfl ?_
  refine w.iand d21_52 ?_
  refine w.getS d21_53 (tw hw 92 rfl) (own_lo hr) ?_
  intro T w
  refine w.ishl d21_56 ?_
  refine w.ior d21_57 ?_
  refine w.i2c d21_58 ?_
  exact w.retN d21_59 rfl (by simp) ⟨by rw [ncc, own_gc z v], rfl⟩

set_option maxRecDepth 65536 in
set_option maxHeartbeats 40000000 in
theorem rmC3x_4_3 (l : Launch) (Z : State) (a0 : Array Value) (hw : ∀ d ∈ tables_1, d.before a0 Z = true) (hr : rest_1_c.value a0 Z none Z [] = some true) (b : Addr) (kb : ClassId) (c0 c1 c2 c3 : Int32) (h0 : Heap) (hE : Ext Z.heap h0) (Ab : Arv Z h0 b kb .char (4 : Int32) [(.int c0), (.int c1), (.int c2), (.int c3)] (.int 0)) (z0 : 0 ≤ c0.toInt) (v0 : c0.toInt < 65536) (z1 : 0 ≤ c1.toInt) (v1 : c1.toInt < 65536) (z2 : 0 ≤ c2.toInt) (v2 : c2.toInt < 65536) (z3 : 0 ≤ c3.toInt) (v3 : c3.toInt < 65536) (u0 : ¬ 255 < c0) (u1 : ¬ 255 < c1) (u2 : ¬ 255 < c2) (gp : 255 < c3) :
    Ct true l Z consts_1 (⟨"java/lang/StringUTF16", "compress", "([CII)[B"⟩ : MethodName) jdk_52_method_16_code 6 (some (.array .byte)) [] ({ frames := 3, cells := 2, slots := 12, locals := 40 } : Room) [] #[(.ref b), (.int (0 : Int32)), (.int (4 : Int32))] h0 (fun r u => ∃ d kd, r = some (.ref d) ∧ Ext h0 u ∧ h0.size ≤ d ∧ Arv Z u d kd .byte (8 : Int32) [(.int (nar .byte (c0 >>> ((0 : Int32) &&& 31)))), (.int (nar .byte (c0 >>> ((8 : Int32) &&& 31)))), (.int (nar .byte (c1 >>> ((0 : Int32) &&& 31)))), (.int (nar .byte (c1 >>> ((8 : Int32) &&& 31)))), (.int (nar .byte (c2 >>> ((0 : Int32) &&& 31)))), (.int (nar .byte (c2 >>> ((8 : Int32) &&& 31)))), (.int (nar .byte (c3 >>> ((0 : Int32) &&& 31)))), (.int (nar .byte (c3 >>> ((8 : Int32) &&& 31))))] (.int 0)) := by
  refine Ct.intro pn_java_lang_StringUTF16 hE (fun m => ef8_rii m b _ _) nosf ⟨a0, own_EW hw⟩ ?_
  intro x T w
  refine w.iloadN d8_0 rfl ?_
  have sz0 := w.size
  refine w.newP 4 "[B" d8_1 (tw hw 20 rfl) (by decide) (by decide) (by decide) (by decide) ⟨by decide, by decide⟩ ?_
  intro d T h1 kd g_d w E_d A_d X_d
  have ge_d : Z.heap.size ≤ d := by rw [g_d]; exact sz0
  have nbd : b ≠ d := Nat.ne_of_lt (Nat.lt_of_lt_of_eq Ab.lt g_d.symm)
  refine w.astoreN #[.val (.ref b), .val (.int (0 : Int32)), .val (.int (4 : Int32)), .val (.ref d), .unset, .unset] d8_3 rfl rfl ?_
  refine w.aloadN d8_4 rfl rfl ?_
  refine w.iloadN d8_5 rfl ?_
  refine w.aloadN d8_6 rfl rfl ?_
  refine w.iconst (0 : Int32) d8_7 rfl ?_
  refine w.iloadN d8_8 rfl ?_
  refine w.callS (argsL := [(.ref b), (.int (0 : Int32)), (.ref d), (.int (0 : Int32)), (.int (4 : Int32))]) (rest := []) 0 d8_9 (tw hw 46 rfl) (tw hw 47 rfl) (tw hw 44 rfl) (tw hw 48 rfl) (by decide) (rmC5x_4_3 l Z a0 hw b d kb kd c0 c1 c2 c3 h1 w.old ge_d nbd (Ab.ext E_d) A_d u0 u1 u2 gp) (lenOf pd_12 rfl) rfl rfl (Nat.le_refl _) ⟨by decide, by decide, by decide, by decide⟩ (allS (List.mem_of_getElem? (i := 0) rfl) all0) ?_
  intro T h2 r w _ hQ
  obtain ⟨rfl, K1⟩ := hQ
  have E2 := keep_to E_d K1 (allS (Nat.le_of_eq g_d.symm) all0)
  have Ab := Ab.ext E2
  show Go x _ Z _ _ _ T 12 #[.val (.ref b), .val (.int (0 : Int32)), .val (.int (4 : Int32)), .val (.ref d), .unset, .unset] [(.int (3 : Int32))]
  refine w.istore #[.val (.ref b), .val (.int (0 : Int32)), .val (.int (4 : Int32)), .val (.ref d), .val (.int (3 : Int32)), .unset] d8_12 rfl ?_
  refine w.iload d8_14 rfl ?_
  refine w.iloadN d8_16 rfl ?_
  refine w.icmpEq d8_17 d8_17t (fun q => absurd q (by decide)) (fun _ => ?_)
  refine w.aloadN d8_20 rfl rfl ?_
  refine w.iloadN d8_21 rfl ?_
  refine w.iloadN d8_22 rfl ?_
  refine w.callS (argsL := [(.ref b), (.int (0 : Int32)), (.int (4 : Int32))]) (rest := []) 0 d8_23 (tw hw 77 rfl) (tw hw 78 rfl) (tw hw 44 rfl) (tw hw 79 rfl) (by decide) (rmTo_4 l Z a0 hw hr b kb c0 c1 c2 c3 h2 w.old Ab) (lenOf pd_13 rfl) rfl rfl (Nat.le_refl _) ⟨by decide, by decide, by decide, by decide⟩ all0 ?_
  intro T h3 r w _ hQ
  obtain ⟨e, ke, rfl, E3, ge, Ae⟩ := hQ
  show Go x _ Z _ _ _ T 26 #[.val (.ref b), .val (.int (0 : Int32)), .val (.int (4 : Int32)), .val (.ref d), .val (.int (3 : Int32)), .unset] [(.ref e)]
  refine w.astore #[.val (.ref b), .val (.int (0 : Int32)), .val (.int (4 : Int32)), .val (.ref d), .val (.int (3 : Int32)), .val (.ref e)] d8_26 rfl rfl ?_
  refine w.aload d8_28 rfl rfl ?_
  refine w.iload d8_30 rfl ?_
  refine w.callS (argsL := [(.ref e), (.int (3 : Int32))]) (rest := []) 0 d8_32 (tw hw 93 rfl) (tw hw 94 rfl) (tw hw 44 rfl) (tw hw 95 rfl) (by decide) (rmGe_4_3 l Z a0 hw hr e ke c0 c1 c2 c3 h3 w.old Ae z3 v3) (lenOf pd_5 rfl) rfl rfl (Nat.le_refl _) ⟨by decide, by decide, by decide, by decide⟩ all0 ?_
  intro T h4 r w _ hQ
  obtain ⟨rfl, rfl⟩ := hQ
  show Go x _ Z _ _ _ T 35 #[.val (.ref b), .val (.int (0 : Int32)), .val (.int (4 : Int32)), .val (.ref d), .val (.int (3 : Int32)), .val (.ref e)] [(.int c3)]
  refine w.sipush (255 : Int32) d8_35 rfl ?_
  refine w.icmpGt d8_38 d8_38t (fun _ => ?_) (fun q => absurd gp q)
  refine w.aload d8_54 rfl rfl ?_
  exact w.retA d8_56 rfl rfl rfl rfl ⟨e, ke, rfl, ext_trans E2 E3, Nat.le_trans E2.1 ge, Ae⟩

theorem rmC3U_4 (l : Launch) (Z : State) (a0 : Array Value) (hw : ∀ d ∈ tables_1, d.before a0 Z = true) (hr : rest_1_c.value a0 Z none Z [] = some true) (b : Addr) (kb : ClassId) (c0 c1 c2 c3 : Int32) (h0 : Heap) (hE : Ext Z.heap h0) (Ab : Arv Z h0 b kb .char (4 : Int32) [(.int c0), (.int c1), (.int c2), (.int c3)] (.int 0)) (z0 : 0 ≤ c0.toInt) (v0 : c0.toInt < 65536) (z1 : 0 ≤ c1.toInt) (v1 : c1.toInt < 65536) (z2 : 0 ≤ c2.toInt) (v2 : c2.toInt < 65536) (z3 : 0 ≤ c3.toInt) (v3 : c3.toInt < 65536) (hx : ¬ (¬ 255 < c0 ∧ ¬ 255 < c1 ∧ ¬ 255 < c2 ∧ ¬ 255 < c3 ∧ True)) : Ct true l Z consts_1 (⟨"java/lang/StringUTF16", "compress", "([CII)[B"⟩ : MethodName) jdk_52_method_16_code 6 (some (.array .byte)) [] ({ frames := 3, cells := 2, slots := 12, locals := 40 } : Room) [] #[(.ref b), (.int (0 : Int32)), (.int (4 : Int32))] h0 (fun r u => ∃ d kd, r = some (.ref d) ∧ Ext h0 u ∧ h0.size ≤ d ∧ Arv Z u d kd .byte (8 : Int32) [(.int (nar .byte (c0 >>> ((0 : Int32) &&& 31)))), (.int (nar .byte (c0 >>> ((8 : Int32) &&& 31)))), (.int (nar .byte (c1 >>> ((0 : Int32) &&& 31)))), (.int (nar .byte (c1 >>> ((8 : Int32) &&& 31)))), (.int (nar .byte (c2 >>> ((0 : Int32) &&& 31)))), (.int (nar .byte (c2 >>> ((8 : Int32) &&& 31)))), (.int (nar .byte (c3 >>> ((0 : Int32) &&& 31)))), (.int (nar .byte (c3 >>> ((8 : Int32) &&& 31))))] (.int 0)) := by
  by_cases u0 : 255 < c0
  · exact rmC3x_4_0 l Z a0 hw hr b kb c0 c1 c2 c3 h0 hE Ab z0 v0 z1 v1 z2 v2 z3 v3  u0
  · skip
    by_cases u1 : 255 < c1
    · exact rmC3x_4_1 l Z a0 hw hr b kb c0 c1 c2 c3 h0 hE Ab z0 v0 z1 v1 z2 v2 z3 v3 u0 u1
    · skip
      by_cases u2 : 255 < c2
      · exact rmC3x_4_2 l Z a0 hw hr b kb c0 c1 c2 c3 h0 hE Ab z0 v0 z1 v1 z2 v2 z3 v3 u0 u1 u2
      · skip
        by_cases u3 : 255 < c3
        · exact rmC3x_4_3 l Z a0 hw hr b kb c0 c1 c2 c3 h0 hE Ab z0 v0 z1 v1 z2 v2 z3 v3 u0 u1 u2 u3
        · exact absurd ⟨u0, u1, u2, u3, trivial⟩ hx
set_option maxRecDepth 65536 in
set_option maxHeartbeats 40000000 in
theorem rmCL_8_4 (l : Launch) (Z : State) (a0 : Array Value) (hw : ∀ d ∈ tables_1, d.before a0 Z = true) (d : Addr) (kd : ClassId) (vs : List Value) (h0 : Heap) (hE : Ext Z.heap h0) (Ad : Arv Z h0 d kd .byte (8 : Int32) vs (.int 0)) :
    Ct true l Z consts_1 (⟨"java/lang/StringUTF16", "coderFromArrayLen", "([BI)B"⟩ : MethodName) jdk_52_method_15_code 2 (some .byte) [] ({ frames := 0, cells := 0, slots := 0, locals := 0 } : Room) [] #[(.ref d), (.int (4 : Int32))] h0 (fun r u => r = some (.int (1 : Int32)) ∧ h0 = u) := by
  refine Ct.intro pn_java_lang_StringUTF16 hE (fun m => ef10_ri m d _) nosf ⟨a0, own_EW hw⟩ ?_
  intro x T w
  obtain ⟨cl, Ar, -, S, M, -, -⟩ := Ad
  refine w.iloadN d10_0 rfl ?_
  refine w.aloadN d10_1 rfl rfl ?_
  refine w.alen (8 : Int32) d10_2 Ar (len_of S M) ?_
  refine w.isub d10_3 ?_
  refine w.bipush (31 : Int32) d10_4 rfl ?_
  refine w.iushr d10_6 ?_
  refine w.i2b d10_7 ?_
  exact w.retN d10_8 rfl (by simp) ⟨rfl, rfl⟩

set_option maxRecDepth 65536 in
set_option maxHeartbeats 40000000 in
theorem rmS4u_4 (l : Launch) (Z : State) (a0 : Array Value) (hw : ∀ d ∈ tables_1, d.before a0 Z = true) (hr : rest_1_c.value a0 Z none Z [] = some true) (a b : Addr) (kb : ClassId) (c0 c1 c2 c3 : Int32) (h0 : Heap) (hE : Ext Z.heap h0) (ge_a : Z.heap.size ≤ a) (E0 : Exa Z h0 a "java/lang/String") (G1 : Fld Z h0 a "java/lang/String" "value" "[B" .null) (G2 : Fld Z h0 a "java/lang/String" "coder" "B" (.int (0 : Int32))) (Ab : Arv Z h0 b kb .char (4 : Int32) [(.int c0), (.int c1), (.int c2), (.int c3)] (.int 0)) (z0 : 0 ≤ c0.toInt) (v0 : c0.toInt < 65536) (z1 : 0 ≤ c1.toInt) (v1 : c1.toInt < 65536) (z2 : 0 ≤ c2.toInt) (v2 : c2.toInt < 65536) (z3 : 0 ≤ c3.toInt) (v3 : c3.toInt < 65536) (hx : ¬ (¬ 255 < c0 ∧ ¬ 255 < c1 ∧ ¬ 255 < c2 ∧ ¬ 255 < c3 ∧ True)) :
    Ct true l Z consts_1 (⟨"java/lang/String", "<init>", "([CIILjava/lang/Void;)V"⟩ : MethodName) jdk_42_method_149_code 6 none [] ({ frames := 4, cells := 2, slots := 12, locals := 57 } : Room) [a] #[(.ref a), (.ref b), (.int (0 : Int32)), (.int (4 : Int32)), .null] h0 (fun r u => r = none ∧ Keep h0 u [a] ∧ ∃ t, StrL Z u a t 1 [nar .byte (c0 >>> ((0 : Int32) &&& 31)), nar .byte (c0 >>> ((8 : Int32) &&& 31)), nar .byte (c1 >>> ((0 : Int32) &&& 31)), nar .byte (c1 >>> ((8 : Int32) &&& 31)), nar .byte (c2 >>> ((0 : Int32) &&& 31)), nar .byte (c2 >>> ((8 : Int32) &&& 31)), nar .byte (c3 >>> ((0 : Int32) &&& 31)), nar .byte (c3 >>> ((8 : Int32) &&& 31))]) := by
  refine Ct.intro pn_java_lang_String hE (fun m => ef3_rriin m a b _ _) (onesf ge_a E0.lt) ⟨a0, own_EW hw⟩ ?_
  intro x T w
  obtain ⟨cz, Scs, hcz⟩ := own_cs hr
  refine w.aloadN d3_0 rfl rfl ?_
  refine w.initO 0 d3_1 (tw hw 16 rfl) (tw hw 17 rfl) (tw hw 18 rfl) rfl (Nat.le_refl _) ⟨by decide, by decide⟩ ?_
  intro T w
  refine w.iloadN d3_4 rfl ?_
  refine w.ifNe d3_5 d3_5t (fun _ => ?_) (fun q => absurd q (by decide))
  refine w.getS d3_27 (tw hw 41 rfl) Scs ?_
  intro T w
  refine w.ifEq d3_30 d3_30t (fun q => absurd q hcz) (fun _ => ?_)
  refine w.aloadN d3_33 rfl rfl ?_
  refine w.iloadN d3_34 rfl ?_
  refine w.iloadN d3_35 rfl ?_
  refine w.callS (argsL := [(.ref b), (.int (0 : Int32)), (.int (4 : Int32))]) (rest := []) 0 d3_36 (tw hw 42 rfl) (tw hw 43 rfl) (tw hw 44 rfl) (tw hw 45 rfl) (by decide) (rmC3U_4 l Z a0 hw hr b kb c0 c1 c2 c3 h0 w.old Ab z0 v0 z1 v1 z2 v2 z3 v3 hx) (lenOf pd_13 rfl) rfl rfl (Nat.le_refl _) ⟨by decide, by decide, by decide, by decide⟩ all0 ?_
  intro T h1 r w _ hQ
  obtain ⟨d, kd, rfl, E1, gd, A1⟩ := hQ
  have ne_a_d : a ≠ d := Nat.ne_of_lt (Nat.lt_of_lt_of_le E0.lt gd)
  have F1 := E0.ext E1
  have F2 := G1.ext E1
  have F3 := G2.ext E1
  show Go x _ Z _ _ _ T 39 #[.val (.ref a), .val (.ref b), .val (.int (0 : Int32)), .val (.int (4 : Int32)), .val .null, .unset] [(.ref d)]
  refine w.astore #[.val (.ref a), .val (.ref b), .val (.int (0 : Int32)), .val (.int (4 : Int32)), .val .null, .val (.ref d)] d3_39 rfl rfl ?_
  refine w.aloadN d3_41 rfl rfl ?_
  refine w.aload d3_42 rfl rfl ?_
  refine w.iloadN d3_44 rfl ?_
  refine w.callS (argsL := [(.ref d), (.int (4 : Int32))]) (rest := [(.ref a)]) 1 d3_45 (tw hw 49 rfl) (tw hw 50 rfl) (tw hw 44 rfl) (tw hw 51 rfl) (by decide) (rmCL_8_4 l Z a0 hw d kd _ h1 w.old A1) (lenOf pd_14 rfl) rfl rfl (Nat.le_refl _) ⟨by decide, by decide, by decide, by decide⟩ all0 ?_
  intro T h2 r w _ hQ
  obtain ⟨rfl, rfl⟩ := hQ
  show Go x _ Z _ _ _ T 48 #[.val (.ref a), .val (.ref b), .val (.int (0 : Int32)), .val (.int (4 : Int32)), .val .null, .val (.ref d)] [(.int (1 : Int32)), (.ref a)]
  refine w.putF d3_48 (tw hw 26 rfl) F3 F1 (Or.inr ⟨(tw hw 22 rfl), rfl, rfl⟩) (tw hw 7 rfl) (ty := .byte) (by decide) rfl rfl (List.mem_of_getElem? (i := 0) rfl) ?_
  intro T h3 w W4
  have F5 := F1.wr W4
  have F6 := F2.other W4 (Or.inr (slot_ne (Or.inr (tw hw 21 rfl)) (Or.inr (tw hw 22 rfl)) (by decide) (t := (.array .byte)) (t' := .byte) (by decide) (by decide)))
  have F7 := F3.same W4
  have F8 := A1.other W4 (Ne.symm ne_a_d)
  refine w.aloadN d3_51 rfl rfl ?_
  refine w.aload d3_52 rfl rfl ?_
  refine w.putF d3_54 (tw hw 25 rfl) F6 F5 (Or.inr ⟨(tw hw 21 rfl), rfl, rfl⟩) (tw hw 7 rfl) (ty := (.array .byte)) (by decide) rfl rfl (List.mem_of_getElem? (i := 0) rfl) ?_
  intro T h4 w W9
  have F10 := F5.wr W9
  have F11 := F6.same W9
  have F12 := F7.other W9 (Or.inr (slot_ne (Or.inr (tw hw 22 rfl)) (Or.inr (tw hw 21 rfl)) (by decide) (t := .byte) (t' := (.array .byte)) (by decide) (by decide)))
  have F13 := F8.other W9 (Ne.symm ne_a_d)
  exact w.retV d3_57 rfl ⟨rfl, (((keep_ext E1).wr W4 (Or.inl (List.mem_singleton.mpr rfl))).wr W9 (Or.inl (List.mem_singleton.mpr rfl))), d, F10, F11, F12, kd, F13, by simp⟩

set_option maxRecDepth 65536 in
set_option maxHeartbeats 40000000 in
theorem rmS1E_4 (l : Launch) (Z : State) (a0 : Array Value) (hw : ∀ d ∈ tables_1, d.before a0 Z = true) (hr : rest_1_c.value a0 Z none Z [] = some true) (a b : Addr) (kb : ClassId) (c0 c1 c2 c3 : Int32) (h0 : Heap) (hE : Ext Z.heap h0) (ge_a : Z.heap.size ≤ a) (E0 : Exa Z h0 a "java/lang/String") (G1 : Fld Z h0 a "java/lang/String" "value" "[B" .null) (G2 : Fld Z h0 a "java/lang/String" "coder" "B" (.int (0 : Int32))) (Ab : Arv Z h0 b kb .char (4 : Int32) [(.int c0), (.int c1), (.int c2), (.int c3)] (.int 0)) (z0 : 0 ≤ c0.toInt) (v0 : c0.toInt < 65536) (z1 : 0 ≤ c1.toInt) (v1 : c1.toInt < 65536) (z2 : 0 ≤ c2.toInt) (v2 : c2.toInt < 65536) (z3 : 0 ≤ c3.toInt) (v3 : c3.toInt < 65536) :
    Ct true l Z consts_1 (⟨"java/lang/String", "<init>", "([C)V"⟩ : MethodName) jdk_42_method_3_code 2 none [] ({ frames := 5, cells := 2, slots := 12, locals := 74 } : Room) [a] #[(.ref a), (.ref b)] h0 (fun r u => r = none ∧ Keep h0 u [a] ∧ ∃ t, ((StrL Z u a t 0 [nar .byte c0, nar .byte c1, nar .byte c2, nar .byte c3] ∧ (¬ 255 < c0 ∧ ¬ 255 < c1 ∧ ¬ 255 < c2 ∧ ¬ 255 < c3 ∧ True)) ∨ StrL Z u a t 1 [nar .byte (c0 >>> ((0 : Int32) &&& 31)), nar .byte (c0 >>> ((8 : Int32) &&& 31)), nar .byte (c1 >>> ((0 : Int32) &&& 31)), nar .byte (c1 >>> ((8 : Int32) &&& 31)), nar .byte (c2 >>> ((0 : Int32) &&& 31)), nar .byte (c2 >>> ((8 : Int32) &&& 31)), nar .byte (c3 >>> ((0 : Int32) &&& 31)), nar .byte (c3 >>> ((8 : Int32) &&& 31))])) := by
  refine Ct.intro pn_java_lang_String hE (fun m => ef2_rr m a b) (onesf ge_a E0.lt) ⟨a0, own_EW hw⟩ ?_
  intro x T w
  obtain ⟨cl, Ar, -, S, M, -, -⟩ := id Ab
  by_cases hx : (¬ 255 < c0 ∧ ¬ 255 < c1 ∧ ¬ 255 < c2 ∧ ¬ 255 < c3 ∧ True)
  · refine w.aloadN d2_0 rfl rfl ?_
    refine w.aloadN d2_1 rfl rfl ?_
    refine w.iconst (0 : Int32) d2_2 rfl ?_
    refine w.aloadN d2_3 rfl rfl ?_
    refine w.alen (4 : Int32) d2_4 Ar (len_of S M) ?_
    refine w.aconstNull d2_5 ?_
    refine w.callI (argsL := [(.ref b), (.int (0 : Int32)), (.int (4 : Int32)), .null]) (rest := []) 0 d2_6 rfl (tw hw 12 rfl) (tw hw 13 rfl) (tw hw 8 rfl) (tw hw 15 rfl) (by decide) (rmS4_4 l Z a0 hw hr a b kb c0 c1 c2 c3 h0 w.old ge_a E0 G1 G2 Ab hx.1 hx.2.1 hx.2.2.1 hx.2.2.2.1) (lenOf pd_9 rfl) rfl rfl (Nat.le_refl _) ⟨by decide, by decide, by decide, by decide⟩ (allS (List.mem_of_getElem? (i := 0) rfl) all0) ?_
    intro T h1 r w _ hQ
    obtain ⟨rfl, K1, t, gt, S1⟩ := hQ
    exact w.retV d2_9 rfl ⟨rfl, K1, t, Or.inl ⟨S1, hx⟩⟩
  · refine w.aloadN d2_0 rfl rfl ?_
    refine w.aloadN d2_1 rfl rfl ?_
    refine w.iconst (0 : Int32) d2_2 rfl ?_
    refine w.aloadN d2_3 rfl rfl ?_
    refine w.alen (4 : Int32) d2_4 Ar (len_of S M) ?_
    refine w.aconstNull d2_5 ?_
    refine w.callI (argsL := [(.ref b), (.int (0 : Int32)), (.int (4 : Int32)), .null]) (rest := []) 0 d2_6 rfl (tw hw 12 rfl) (tw hw 13 rfl) (tw hw 8 rfl) (tw hw 15 rfl) (by decide) (rmS4u_4 l Z a0 hw hr a b kb c0 c1 c2 c3 h0 w.old ge_a E0 G1 G2 Ab z0 v0 z1 v1 z2 v2 z3 v3 hx) (lenOf pd_9 rfl) rfl rfl (Nat.le_refl _) ⟨by decide, by decide, by decide, by decide⟩ (allS (List.mem_of_getElem? (i := 0) rfl) all0) ?_
    intro T h2 r w _ hQ
    obtain ⟨rfl, K1, t, S1⟩ := hQ
    exact w.retV d2_9 rfl ⟨rfl, K1, t, Or.inr S1⟩

theorem d1_0 : Dc method_3_code 0 (.iload_n 0) 1 1 := ⟨by decide +kernel, rfl⟩
theorem d1_1 : Dc method_3_code 1 (.iconst 1) 1 2 := ⟨by decide +kernel, rfl⟩
theorem d1_2 : Dc method_3_code 2 .iand 1 3 := ⟨by decide +kernel, rfl⟩
theorem d1_3 : Dc method_3_code 3 (.ifCond .eq 14) 3 6 := ⟨by decide +kernel, rfl⟩
theorem d1_3t : Tg 3 (14) 17 := ⟨by decide, by decide⟩
theorem d1_6 : Dc method_3_code 6 (.bipush 63) 2 8 := ⟨by decide +kernel, rfl⟩
theorem d1_8 : Dc method_3_code 8 (.iload_n 0) 1 9 := ⟨by decide +kernel, rfl⟩
theorem d1_9 : Dc method_3_code 9 (.iconst 1) 1 10 := ⟨by decide +kernel, rfl⟩
theorem d1_10 : Dc method_3_code 10 .iushr 1 11 := ⟨by decide +kernel, rfl⟩
theorem d1_11 : Dc method_3_code 11 (.bipush 31) 2 13 := ⟨by decide +kernel, rfl⟩
theorem d1_13 : Dc method_3_code 13 .iand 1 14 := ⟨by decide +kernel, rfl⟩
theorem d1_14 : Dc method_3_code 14 .iadd 1 15 := ⟨by decide +kernel, rfl⟩
theorem d1_15 : Dc method_3_code 15 .i2c 1 16 := ⟨by decide +kernel, rfl⟩
theorem d1_16 : Dc method_3_code 16 .ireturn 1 17 := ⟨by decide +kernel, rfl⟩
theorem d1_17 : Dc method_3_code 17 (.iload_n 0) 1 18 := ⟨by decide +kernel, rfl⟩
theorem d1_18 : Dc method_3_code 18 (.iconst 1) 1 19 := ⟨by decide +kernel, rfl⟩
theorem d1_19 : Dc method_3_code 19 .iushr 1 20 := ⟨by decide +kernel, rfl⟩
theorem d1_20 : Dc method_3_code 20 (.ldc 28) 2 22 := ⟨by decide +kernel, rfl⟩
theorem d1_22 : Dc method_3_code 22 .iand 1 23 := ⟨by decide +kernel, rfl⟩
theorem d1_23 : Dc method_3_code 23 .i2c 1 24 := ⟨by decide +kernel, rfl⟩
theorem d1_24 : Dc method_3_code 24 .ireturn 1 25 := ⟨by decide +kernel, rfl⟩
theorem d11_0 : Dc method_4_code 0 (.iload_n 0) 1 1 := ⟨by decide +kernel, rfl⟩
theorem d11_1 : Dc method_4_code 1 (.bipush 65) 2 3 := ⟨by decide +kernel, rfl⟩
theorem d11_3 : Dc method_4_code 3 (.if_icmp .ge 5) 3 6 := ⟨by decide +kernel, rfl⟩
theorem d11_3t : Tg 3 (5) 8 := ⟨by decide, by decide⟩
theorem d11_6 : Dc method_4_code 6 (.iconst 0) 1 7 := ⟨by decide +kernel, rfl⟩
theorem d11_7 : Dc method_4_code 7 .ireturn 1 8 := ⟨by decide +kernel, rfl⟩
theorem d11_8 : Dc method_4_code 8 (.iload_n 0) 1 9 := ⟨by decide +kernel, rfl⟩
theorem d11_9 : Dc method_4_code 9 (.bipush 90) 2 11 := ⟨by decide +kernel, rfl⟩
theorem d11_11 : Dc method_4_code 11 (.if_icmp .gt 7) 3 14 := ⟨by decide +kernel, rfl⟩
theorem d11_11t : Tg 11 (7) 18 := ⟨by decide, by decide⟩
theorem d11_14 : Dc method_4_code 14 (.iconst 1) 1 15 := ⟨by decide +kernel, rfl⟩
theorem d11_15 : Dc method_4_code 15 (.goto 4) 3 18 := ⟨by decide +kernel, rfl⟩
theorem d11_15t : Tg 15 (4) 19 := ⟨by decide, by decide⟩
theorem d11_18 : Dc method_4_code 18 (.iconst 0) 1 19 := ⟨by decide +kernel, rfl⟩
theorem d11_19 : Dc method_4_code 19 .ireturn 1 20 := ⟨by decide +kernel, rfl⟩
theorem d5_0 : Dc prog_6_method_3_code 0 (.aload_n 0) 1 1 := ⟨by decide +kernel, rfl⟩
theorem d5_1 : Dc prog_6_method_3_code 1 (.invokevirtual 153) 3 4 := ⟨by decide +kernel, rfl⟩
theorem d5_4 : Dc prog_6_method_3_code 4 (.iconst 3) 1 5 := ⟨by decide +kernel, rfl⟩
theorem d5_5 : Dc prog_6_method_3_code 5 (.if_icmp .ne 7) 3 8 := ⟨by decide +kernel, rfl⟩
theorem d5_5t : Tg 5 (7) 12 := ⟨by decide, by decide⟩
theorem d5_8 : Dc prog_6_method_3_code 8 (.iconst 1) 1 9 := ⟨by decide +kernel, rfl⟩
theorem d5_9 : Dc prog_6_method_3_code 9 (.goto 4) 3 12 := ⟨by decide +kernel, rfl⟩
theorem d5_9t : Tg 9 (4) 13 := ⟨by decide, by decide⟩
theorem d5_12 : Dc prog_6_method_3_code 12 (.iconst 0) 1 13 := ⟨by decide +kernel, rfl⟩
theorem d5_13 : Dc prog_6_method_3_code 13 (.istore_n 1) 1 14 := ⟨by decide +kernel, rfl⟩
theorem d5_14 : Dc prog_6_method_3_code 14 (.iconst 0) 1 15 := ⟨by decide +kernel, rfl⟩
theorem d5_15 : Dc prog_6_method_3_code 15 (.istore_n 2) 1 16 := ⟨by decide +kernel, rfl⟩
theorem d5_16 : Dc prog_6_method_3_code 16 (.iload_n 2) 1 17 := ⟨by decide +kernel, rfl⟩
theorem d5_17 : Dc prog_6_method_3_code 17 (.aload_n 0) 1 18 := ⟨by decide +kernel, rfl⟩
theorem d5_18 : Dc prog_6_method_3_code 18 (.invokevirtual 153) 3 21 := ⟨by decide +kernel, rfl⟩
theorem d5_21 : Dc prog_6_method_3_code 21 (.if_icmp .ge 39) 3 24 := ⟨by decide +kernel, rfl⟩
theorem d5_21t : Tg 21 (39) 60 := ⟨by decide, by decide⟩
theorem d5_24 : Dc prog_6_method_3_code 24 (.iload_n 1) 1 25 := ⟨by decide +kernel, rfl⟩
theorem d5_25 : Dc prog_6_method_3_code 25 (.ifCond .eq 35) 3 28 := ⟨by decide +kernel, rfl⟩
theorem d5_25t : Tg 25 (35) 60 := ⟨by decide, by decide⟩
theorem d5_28 : Dc prog_6_method_3_code 28 (.aload_n 0) 1 29 := ⟨by decide +kernel, rfl⟩
theorem d5_29 : Dc prog_6_method_3_code 29 (.iload_n 2) 1 30 := ⟨by decide +kernel, rfl⟩
theorem d5_30 : Dc prog_6_method_3_code 30 (.invokevirtual 157) 3 33 := ⟨by decide +kernel, rfl⟩
theorem d5_33 : Dc prog_6_method_3_code 33 (.bipush 65) 2 35 := ⟨by decide +kernel, rfl⟩
theorem d5_35 : Dc prog_6_method_3_code 35 (.if_icmp .lt 17) 3 38 := ⟨by decide +kernel, rfl⟩
theorem d5_35t : Tg 35 (17) 52 := ⟨by decide, by decide⟩
theorem d5_38 : Dc prog_6_method_3_code 38 (.aload_n 0) 1 39 := ⟨by decide +kernel, rfl⟩
theorem d5_39 : Dc prog_6_method_3_code 39 (.iload_n 2) 1 40 := ⟨by decide +kernel, rfl⟩
theorem d5_40 : Dc prog_6_method_3_code 40 (.invokevirtual 157) 3 43 := ⟨by decide +kernel, rfl⟩
theorem d5_43 : Dc prog_6_method_3_code 43 (.bipush 90) 2 45 := ⟨by decide +kernel, rfl⟩
theorem d5_45 : Dc prog_6_method_3_code 45 (.if_icmp .gt 7) 3 48 := ⟨by decide +kernel, rfl⟩
theorem d5_45t : Tg 45 (7) 52 := ⟨by decide, by decide⟩
theorem d5_48 : Dc prog_6_method_3_code 48 (.iconst 1) 1 49 := ⟨by decide +kernel, rfl⟩
theorem d5_49 : Dc prog_6_method_3_code 49 (.goto 4) 3 52 := ⟨by decide +kernel, rfl⟩
theorem d5_49t : Tg 49 (4) 53 := ⟨by decide, by decide⟩
theorem d5_52 : Dc prog_6_method_3_code 52 (.iconst 0) 1 53 := ⟨by decide +kernel, rfl⟩
theorem d5_53 : Dc prog_6_method_3_code 53 (.istore_n 1) 1 54 := ⟨by decide +kernel, rfl⟩
theorem d5_54 : Dc prog_6_method_3_code 54 (.iinc 2 1) 3 57 := ⟨by decide +kernel, rfl⟩
theorem d5_57 : Dc prog_6_method_3_code 57 (.goto (-41)) 3 60 := ⟨by decide +kernel, rfl⟩
theorem d5_57t : Tg 57 (-41) 16 := ⟨by decide, by decide⟩
theorem d5_60 : Dc prog_6_method_3_code 60 (.iload_n 1) 1 61 := ⟨by decide +kernel, rfl⟩
theorem d5_61 : Dc prog_6_method_3_code 61 .ireturn 1 62 := ⟨by decide +kernel, rfl⟩
theorem d0_0 : Dc code 0 (.iload_n 0) 1 1 := ⟨at_0, rfl⟩
theorem d0_1 : Dc code 1 (.bipush 7) 2 3 := ⟨at_1, rfl⟩
theorem d0_3 : Dc code 3 .iand 1 4 := ⟨at_3, rfl⟩
theorem d0_4 : Dc code 4 (.iconst 5) 1 5 := ⟨at_4, rfl⟩
theorem d0_5 : Dc code 5 .irem 1 6 := ⟨at_5, rfl⟩
theorem d0_6 : Dc code 6 (.istore 5) 2 8 := ⟨at_6, rfl⟩
theorem d0_8 : Dc code 8 (.iload_n 1) 1 9 := ⟨at_8, rfl⟩
theorem d0_9 : Dc code 9 (.invokestatic 7) 3 12 := ⟨at_9, rfl⟩
theorem d0_12 : Dc code 12 (.istore 6) 2 14 := ⟨at_12, rfl⟩
theorem d0_14 : Dc code 14 (.iload_n 2) 1 15 := ⟨at_14, rfl⟩
theorem d0_15 : Dc code 15 (.invokestatic 7) 3 18 := ⟨at_15, rfl⟩
theorem d0_18 : Dc code 18 (.istore 7) 2 20 := ⟨at_18, rfl⟩
theorem d0_20 : Dc code 20 (.iload_n 3) 1 21 := ⟨at_20, rfl⟩
theorem d0_21 : Dc code 21 (.invokestatic 7) 3 24 := ⟨at_21, rfl⟩
theorem d0_24 : Dc code 24 (.istore 8) 2 26 := ⟨at_24, rfl⟩
theorem d0_26 : Dc code 26 (.iload 4) 2 28 := ⟨at_26, rfl⟩
theorem d0_28 : Dc code 28 (.invokestatic 7) 3 31 := ⟨at_28, rfl⟩
theorem d0_31 : Dc code 31 (.istore 9) 2 33 := ⟨at_31, rfl⟩
theorem d0_33 : Dc code 33 (.iload 5) 2 35 := ⟨at_33, rfl⟩
theorem d0_35 : Dc code 35 (.ifCond .ne 11) 3 38 := ⟨at_35, rfl⟩
theorem d0_35t : Tg 35 (11) 46 := ⟨by decide, by decide⟩
theorem d0_38 : Dc code 38 (.iconst 0) 1 39 := ⟨at_38, rfl⟩
theorem d0_39 : Dc code 39 (.newarray .char) 2 41 := ⟨at_39, rfl⟩
theorem d0_41 : Dc code 41 (.astore 10) 2 43 := ⟨at_41, rfl⟩
theorem d0_43 : Dc code 43 (.goto 100) 3 46 := ⟨at_43, rfl⟩
theorem d0_43t : Tg 43 (100) 143 := ⟨by decide, by decide⟩
theorem d0_46 : Dc code 46 (.iload 5) 2 48 := ⟨at_46, rfl⟩
theorem d0_48 : Dc code 48 (.iconst 1) 1 49 := ⟨at_48, rfl⟩
theorem d0_49 : Dc code 49 (.if_icmp .ne 16) 3 52 := ⟨at_49, rfl⟩
theorem d0_49t : Tg 49 (16) 65 := ⟨by decide, by decide⟩
theorem d0_52 : Dc code 52 (.iconst 1) 1 53 := ⟨at_52, rfl⟩
theorem d0_53 : Dc code 53 (.newarray .char) 2 55 := ⟨at_53, rfl⟩
theorem d0_55 : Dc code 55 .dup 1 56 := ⟨at_55, rfl⟩
theorem d0_56 : Dc code 56 (.iconst 0) 1 57 := ⟨at_56, rfl⟩
theorem d0_57 : Dc code 57 (.iload 6) 2 59 := ⟨at_57, rfl⟩
theorem d0_59 : Dc code 59 .castore 1 60 := ⟨at_59, rfl⟩
theorem d0_60 : Dc code 60 (.astore 10) 2 62 := ⟨at_60, rfl⟩
theorem d0_62 : Dc code 62 (.goto 81) 3 65 := ⟨at_62, rfl⟩
theorem d0_62t : Tg 62 (81) 143 := ⟨by decide, by decide⟩
theorem d0_65 : Dc code 65 (.iload 5) 2 67 := ⟨at_65, rfl⟩
theorem d0_67 : Dc code 67 (.iconst 2) 1 68 := ⟨at_67, rfl⟩
theorem d0_68 : Dc code 68 (.if_icmp .ne 21) 3 71 := ⟨at_68, rfl⟩
theorem d0_68t : Tg 68 (21) 89 := ⟨by decide, by decide⟩
theorem d0_71 : Dc code 71 (.iconst 2) 1 72 := ⟨at_71, rfl⟩
theorem d0_72 : Dc code 72 (.newarray .char) 2 74 := ⟨at_72, rfl⟩
theorem d0_74 : Dc code 74 .dup 1 75 := ⟨at_74, rfl⟩
theorem d0_75 : Dc code 75 (.iconst 0) 1 76 := ⟨at_75, rfl⟩
theorem d0_76 : Dc code 76 (.iload 6) 2 78 := ⟨at_76, rfl⟩
theorem d0_78 : Dc code 78 .castore 1 79 := ⟨at_78, rfl⟩
theorem d0_79 : Dc code 79 .dup 1 80 := ⟨at_79, rfl⟩
theorem d0_80 : Dc code 80 (.iconst 1) 1 81 := ⟨at_80, rfl⟩
theorem d0_81 : Dc code 81 (.iload 7) 2 83 := ⟨at_81, rfl⟩
theorem d0_83 : Dc code 83 .castore 1 84 := ⟨at_83, rfl⟩
theorem d0_84 : Dc code 84 (.astore 10) 2 86 := ⟨at_84, rfl⟩
theorem d0_86 : Dc code 86 (.goto 57) 3 89 := ⟨at_86, rfl⟩
theorem d0_86t : Tg 86 (57) 143 := ⟨by decide, by decide⟩
theorem d0_89 : Dc code 89 (.iload 5) 2 91 := ⟨at_89, rfl⟩
theorem d0_91 : Dc code 91 (.iconst 3) 1 92 := ⟨at_91, rfl⟩
theorem d0_92 : Dc code 92 (.if_icmp .ne 26) 3 95 := ⟨at_92, rfl⟩
theorem d0_92t : Tg 92 (26) 118 := ⟨by decide, by decide⟩
theorem d0_95 : Dc code 95 (.iconst 3) 1 96 := ⟨at_95, rfl⟩
theorem d0_96 : Dc code 96 (.newarray .char) 2 98 := ⟨at_96, rfl⟩
theorem d0_98 : Dc code 98 .dup 1 99 := ⟨at_98, rfl⟩
theorem d0_99 : Dc code 99 (.iconst 0) 1 100 := ⟨at_99, rfl⟩
theorem d0_100 : Dc code 100 (.iload 6) 2 102 := ⟨at_100, rfl⟩
theorem d0_102 : Dc code 102 .castore 1 103 := ⟨at_102, rfl⟩
theorem d0_103 : Dc code 103 .dup 1 104 := ⟨at_103, rfl⟩
theorem d0_104 : Dc code 104 (.iconst 1) 1 105 := ⟨at_104, rfl⟩
theorem d0_105 : Dc code 105 (.iload 7) 2 107 := ⟨at_105, rfl⟩
theorem d0_107 : Dc code 107 .castore 1 108 := ⟨at_107, rfl⟩
theorem d0_108 : Dc code 108 .dup 1 109 := ⟨at_108, rfl⟩
theorem d0_109 : Dc code 109 (.iconst 2) 1 110 := ⟨at_109, rfl⟩
theorem d0_110 : Dc code 110 (.iload 8) 2 112 := ⟨at_110, rfl⟩
theorem d0_112 : Dc code 112 .castore 1 113 := ⟨at_112, rfl⟩
theorem d0_113 : Dc code 113 (.astore 10) 2 115 := ⟨at_113, rfl⟩
theorem d0_115 : Dc code 115 (.goto 28) 3 118 := ⟨at_115, rfl⟩
theorem d0_115t : Tg 115 (28) 143 := ⟨by decide, by decide⟩
theorem d0_118 : Dc code 118 (.iconst 4) 1 119 := ⟨at_118, rfl⟩
theorem d0_119 : Dc code 119 (.newarray .char) 2 121 := ⟨at_119, rfl⟩
theorem d0_121 : Dc code 121 .dup 1 122 := ⟨at_121, rfl⟩
theorem d0_122 : Dc code 122 (.iconst 0) 1 123 := ⟨at_122, rfl⟩
theorem d0_123 : Dc code 123 (.iload 6) 2 125 := ⟨at_123, rfl⟩
theorem d0_125 : Dc code 125 .castore 1 126 := ⟨at_125, rfl⟩
theorem d0_126 : Dc code 126 .dup 1 127 := ⟨at_126, rfl⟩
theorem d0_127 : Dc code 127 (.iconst 1) 1 128 := ⟨at_127, rfl⟩
theorem d0_128 : Dc code 128 (.iload 7) 2 130 := ⟨at_128, rfl⟩
theorem d0_130 : Dc code 130 .castore 1 131 := ⟨at_130, rfl⟩
theorem d0_131 : Dc code 131 .dup 1 132 := ⟨at_131, rfl⟩
theorem d0_132 : Dc code 132 (.iconst 2) 1 133 := ⟨at_132, rfl⟩
theorem d0_133 : Dc code 133 (.iload 8) 2 135 := ⟨at_133, rfl⟩
theorem d0_135 : Dc code 135 .castore 1 136 := ⟨at_135, rfl⟩
theorem d0_136 : Dc code 136 .dup 1 137 := ⟨at_136, rfl⟩
theorem d0_137 : Dc code 137 (.iconst 3) 1 138 := ⟨at_137, rfl⟩
theorem d0_138 : Dc code 138 (.iload 9) 2 140 := ⟨at_138, rfl⟩
theorem d0_140 : Dc code 140 .castore 1 141 := ⟨at_140, rfl⟩
theorem d0_141 : Dc code 141 (.astore 10) 2 143 := ⟨at_141, rfl⟩
theorem d0_143 : Dc code 143 (.new 13) 3 146 := ⟨at_143, rfl⟩
theorem d0_146 : Dc code 146 .dup 1 147 := ⟨at_146, rfl⟩
theorem d0_147 : Dc code 147 (.aload 10) 2 149 := ⟨at_147, rfl⟩
theorem d0_149 : Dc code 149 (.invokespecial 15) 3 152 := ⟨at_149, rfl⟩
theorem d0_152 : Dc code 152 (.astore 11) 2 154 := ⟨at_152, rfl⟩
theorem d0_154 : Dc code 154 (.iload 5) 2 156 := ⟨at_154, rfl⟩
theorem d0_156 : Dc code 156 (.iconst 3) 1 157 := ⟨at_156, rfl⟩
theorem d0_157 : Dc code 157 (.if_icmp .ne 31) 3 160 := ⟨at_157, rfl⟩
theorem d0_157t : Tg 157 (31) 188 := ⟨by decide, by decide⟩
theorem d0_160 : Dc code 160 (.iload 6) 2 162 := ⟨at_160, rfl⟩
theorem d0_162 : Dc code 162 (.invokestatic 18) 3 165 := ⟨at_162, rfl⟩
theorem d0_165 : Dc code 165 (.ifCond .eq 23) 3 168 := ⟨at_165, rfl⟩
theorem d0_165t : Tg 165 (23) 188 := ⟨by decide, by decide⟩
theorem d0_168 : Dc code 168 (.iload 7) 2 170 := ⟨at_168, rfl⟩
theorem d0_170 : Dc code 170 (.invokestatic 18) 3 173 := ⟨at_170, rfl⟩
theorem d0_173 : Dc code 173 (.ifCond .eq 15) 3 176 := ⟨at_173, rfl⟩
theorem d0_173t : Tg 173 (15) 188 := ⟨by decide, by decide⟩
theorem d0_176 : Dc code 176 (.iload 8) 2 178 := ⟨at_176, rfl⟩
theorem d0_178 : Dc code 178 (.invokestatic 18) 3 181 := ⟨at_178, rfl⟩
theorem d0_181 : Dc code 181 (.ifCond .eq 7) 3 184 := ⟨at_181, rfl⟩
theorem d0_181t : Tg 181 (7) 188 := ⟨by decide, by decide⟩
theorem d0_184 : Dc code 184 (.iconst 1) 1 185 := ⟨at_184, rfl⟩
theorem d0_185 : Dc code 185 (.goto 4) 3 188 := ⟨at_185, rfl⟩
theorem d0_185t : Tg 185 (4) 189 := ⟨by decide, by decide⟩
theorem d0_188 : Dc code 188 (.iconst 0) 1 189 := ⟨at_188, rfl⟩
theorem d0_189 : Dc code 189 (.istore 12) 2 191 := ⟨at_189, rfl⟩
theorem d0_191 : Dc code 191 (.aload 11) 2 193 := ⟨at_191, rfl⟩
theorem d0_193 : Dc code 193 (.invokestatic 22) 3 196 := ⟨at_193, rfl⟩
theorem d0_196 : Dc code 196 (.iload 12) 2 198 := ⟨at_196, rfl⟩
theorem d0_198 : Dc code 198 (.if_icmp .ne 7) 3 201 := ⟨at_198, rfl⟩
theorem d0_198t : Tg 198 (7) 205 := ⟨by decide, by decide⟩
theorem d0_201 : Dc code 201 (.iconst 1) 1 202 := ⟨at_201, rfl⟩
theorem d0_202 : Dc code 202 (.goto 4) 3 205 := ⟨at_202, rfl⟩
theorem d0_202t : Tg 202 (4) 206 := ⟨by decide, by decide⟩
theorem d0_205 : Dc code 205 (.iconst 0) 1 206 := ⟨at_205, rfl⟩
theorem d0_206 : Dc code 206 .ireturn 1 207 := ⟨at_206, rfl⟩
set_option maxRecDepth 65536 in
set_option maxHeartbeats 40000000 in
theorem rmD (l : Launch) (Z : State) (a0 : Array Value) (hw : ∀ d ∈ tables_1, d.before a0 Z = true) (v : Int32) (h0 : Heap) (hE : Ext Z.heap h0) :
    Ct true l Z consts_1 (⟨"com/example/tenorloom/tenorloom/bond/BondIsCurrencyCodePinLaw", "draw", "(I)C"⟩ : MethodName) method_3_code 1 (some .char) [] ({ frames := 0, cells := 0, slots := 0, locals := 0 } : Room) [] #[(.int v)] h0 (fun r u => ∃ c, r = some (.int c) ∧ 0 ≤ c.toInt ∧ c.toInt < 65536 ∧ nar .char c = c ∧ h0 = u) := by
  refine Ct.intro pn_com_example_tenorloom_tenorloom_bond_BondIsCurrencyCodePinLaw hE (fun m => efD m v) nosf ⟨a0, own_EW hw⟩ ?_
  intro x T w
  refine w.iloadN d1_0 rfl ?_
  refine w.iconst (1 : Int32) d1_1 rfl ?_
  refine w.iand d1_2 ?_
  refine w.ifEq d1_3 d1_3t (fun q1 => ?_) (fun q1 => ?_)
  · refine w.iloadN d1_17 rfl ?_
    refine w.iconst (1 : Int32) d1_18 rfl ?_
    refine w.iushr d1_19 ?_
    refine w.ldcI d1_20 (tw hw 4 rfl) ?_
    refine w.iand d1_22 ?_
    refine w.i2c d1_23 ?_
    exact w.retN d1_24 rfl (by simp) ⟨_, rfl, (own_ch _).1, (own_ch _).2, ncc _, rfl⟩
  · refine w.bipush (63 : Int32) d1_6 rfl ?_
    refine w.iloadN d1_8 rfl ?_
    refine w.iconst (1 : Int32) d1_9 rfl ?_
    refine w.iushr d1_10 ?_
    refine w.bipush (31 : Int32) d1_11 rfl ?_
    refine w.iand d1_13 ?_
    refine w.iadd d1_14 ?_
    refine w.i2c d1_15 ?_
    exact w.retN d1_16 rfl (by simp) ⟨_, rfl, (own_ch _).1, (own_ch _).2, ncc _, rfl⟩

set_option maxRecDepth 65536 in
set_option maxHeartbeats 40000000 in
theorem rmCap (l : Launch) (Z : State) (a0 : Array Value) (hw : ∀ d ∈ tables_1, d.before a0 Z = true) (c : Int32) (h0 : Heap) (hE : Ext Z.heap h0) :
    Ct true l Z consts_1 (⟨"com/example/tenorloom/tenorloom/bond/BondIsCurrencyCodePinLaw", "cap", "(C)Z"⟩ : MethodName) method_4_code 1 (some .boolean) [] ({ frames := 0, cells := 0, slots := 0, locals := 0 } : Room) [] #[(.int c)] h0 (fun r u => r = some (.int (if (¬ c < 65 ∧ ¬ 90 < c) then 1 else 0)) ∧ h0 = u) := by
  refine Ct.intro pn_com_example_tenorloom_tenorloom_bond_BondIsCurrencyCodePinLaw hE (fun m => efC m c) nosf ⟨a0, own_EW hw⟩ ?_
  intro x T w
  refine w.iloadN d11_0 rfl ?_
  refine w.bipush (65 : Int32) d11_1 rfl ?_
  refine w.icmpGe d11_3 d11_3t (fun q1 => ?_) (fun q1 => ?_)
  · refine w.iloadN d11_8 rfl ?_
    refine w.bipush (90 : Int32) d11_9 rfl ?_
    refine w.icmpGt d11_11 d11_11t (fun q2 => ?_) (fun q2 => ?_)
    · refine w.iconst (0 : Int32) d11_18 rfl ?_
      exact w.retN d11_19 rfl (by simp) ⟨by rw [if_neg (fun e => e.2 q2)]; rfl, rfl⟩
    · refine w.iconst (1 : Int32) d11_14 rfl ?_
      refine w.goto d11_15 d11_15t ?_
      exact w.retN d11_19 rfl (by simp) ⟨by rw [if_pos ⟨q1, q2⟩]; rfl, rfl⟩
  · refine w.iconst (0 : Int32) d11_6 rfl ?_
    exact w.retN d11_7 rfl (by simp) ⟨by rw [if_neg (fun e => e.1 q1)]; rfl, rfl⟩

set_option maxRecDepth 65536 in
set_option maxHeartbeats 40000000 in
theorem rmCC_0 (l : Launch) (Z : State) (a0 : Array Value) (hw : ∀ d ∈ tables_1, d.before a0 Z = true) (hr : rest_1_c.value a0 Z none Z [] = some true) (a t : Addr)  (h0 : Heap) (hE : Ext Z.heap h0) (Sa : StrL Z h0 a t 0 []) :
    Ct true l Z consts_1 (⟨"com/example/tenorloom/tenorloom/bond/Bond", "isCurrencyCode", "(Ljava/lang/String;)Z"⟩ : MethodName) prog_6_method_3_code 3 (some .boolean) [] ({ frames := 5, cells := 0, slots := 0, locals := 66 } : Room) [] #[(.ref a)] h0 (fun r u => r = some (.int (0 : Int32)) ∧ h0 = u) := by
  refine Ct.intro pn_com_example_tenorloom_tenorloom_bond_Bond hE (fun m => efCC m a) nosf ⟨a0, own_EW hw⟩ ?_
  intro x T w
  have Ea : Exa Z h0 a "java/lang/String" := Sa.1
  refine w.aloadN d5_0 rfl rfl ?_
  refine w.callV (argsL := []) (rest := []) 0 d5_1 (tw hw 31 rfl) (tw hw 32 rfl) (tw hw 34 rfl) (tw hw 33 rfl) (tw hw 8 rfl) (tw hw 35 rfl) (by decide) Ea (rmLn_0 l Z a0 hw hr a t h0 w.old Sa) (lenOf pd_1 rfl) rfl rfl (Nat.le_refl _) ⟨by decide, by decide, by decide, by decide⟩ all0 ?_
  intro T h1 r w _ hQ
  obtain ⟨rfl, rfl⟩ := hQ
  show Go x _ Z _ _ _ T 4 #[.val (.ref a), .unset, .unset] [(.int (0 : Int32))]
  refine w.iconst (3 : Int32) d5_4 rfl ?_
  refine w.icmpNe d5_5 d5_5t (fun _ => ?_) (fun q => absurd q (by decide))
  refine w.iconst (0 : Int32) d5_12 rfl ?_
  refine w.istoreN #[.val (.ref a), .val (.int (0 : Int32)), .unset] d5_13 rfl ?_
  refine w.iconst (0 : Int32) d5_14 rfl ?_
  refine w.istoreN #[.val (.ref a), .val (.int (0 : Int32)), .val (.int (0 : Int32))] d5_15 rfl ?_
  refine w.iloadN d5_16 rfl ?_
  refine w.aloadN d5_17 rfl rfl ?_
  refine w.callV (argsL := []) (rest := [(.int (0 : Int32))]) 1 d5_18 (tw hw 31 rfl) (tw hw 32 rfl) (tw hw 34 rfl) (tw hw 33 rfl) (tw hw 8 rfl) (tw hw 35 rfl) (by decide) Ea (rmLn_0 l Z a0 hw hr a t h0 w.old Sa) (lenOf pd_1 rfl) rfl rfl (Nat.le_refl _) ⟨by decide, by decide, by decide, by decide⟩ all0 ?_
  intro T h2 r w _ hQ
  obtain ⟨rfl, rfl⟩ := hQ
  show Go x _ Z _ _ _ T 21 #[.val (.ref a), .val (.int (0 : Int32)), .val (.int (0 : Int32))] [(.int (0 : Int32)), (.int (0 : Int32))]
  refine w.icmpGe d5_21 d5_21t (fun _ => ?_) (fun q => absurd q (by decide))
  refine w.iloadN d5_60 rfl ?_
  exact w.retN d5_61 rfl (by simp) ⟨rfl, rfl⟩

set_option maxRecDepth 65536 in
set_option maxHeartbeats 40000000 in
theorem rmCC_1 (l : Launch) (Z : State) (a0 : Array Value) (hw : ∀ d ∈ tables_1, d.before a0 Z = true) (hr : rest_1_c.value a0 Z none Z [] = some true) (a t : Addr) (c0 : Int32) (h0 : Heap) (hE : Ext Z.heap h0) (Sa : ((StrL Z h0 a t 0 [nar .byte c0] ∧ (¬ 255 < c0 ∧ True)) ∨ StrL Z h0 a t 1 [nar .byte (c0 >>> ((0 : Int32) &&& 31)), nar .byte (c0 >>> ((8 : Int32) &&& 31))])) :
    Ct true l Z consts_1 (⟨"com/example/tenorloom/tenorloom/bond/Bond", "isCurrencyCode", "(Ljava/lang/String;)Z"⟩ : MethodName) prog_6_method_3_code 3 (some .boolean) [] ({ frames := 5, cells := 0, slots := 0, locals := 66 } : Room) [] #[(.ref a)] h0 (fun r u => r = some (.int (0 : Int32)) ∧ h0 = u) := by
  refine Ct.intro pn_com_example_tenorloom_tenorloom_bond_Bond hE (fun m => efCC m a) nosf ⟨a0, own_EW hw⟩ ?_
  intro x T w
  have Ea : Exa Z h0 a "java/lang/String" := by rcases Sa with ⟨S, -⟩ | S <;> exact S.1
  refine w.aloadN d5_0 rfl rfl ?_
  refine w.callV (argsL := []) (rest := []) 0 d5_1 (tw hw 31 rfl) (tw hw 32 rfl) (tw hw 34 rfl) (tw hw 33 rfl) (tw hw 8 rfl) (tw hw 35 rfl) (by decide) Ea (rmLnE_1 l Z a0 hw hr a t c0 h0 w.old Sa) (lenOf pd_1 rfl) rfl rfl (Nat.le_refl _) ⟨by decide, by decide, by decide, by decide⟩ all0 ?_
  intro T h1 r w _ hQ
  obtain ⟨rfl, rfl⟩ := hQ
  show Go x _ Z _ _ _ T 4 #[.val (.ref a), .unset, .unset] [(.int (1 : Int32))]
  refine w.iconst (3 : Int32) d5_4 rfl ?_
  refine w.icmpNe d5_5 d5_5t (fun _ => ?_) (fun q => absurd q (by decide))
  refine w.iconst (0 : Int32) d5_12 rfl ?_
  refine w.istoreN #[.val (.ref a), .val (.int (0 : Int32)), .unset] d5_13 rfl ?_
  refine w.iconst (0 : Int32) d5_14 rfl ?_
  refine w.istoreN #[.val (.ref a), .val (.int (0 : Int32)), .val (.int (0 : Int32))] d5_15 rfl ?_
  refine w.iloadN d5_16 rfl ?_
  refine w.aloadN d5_17 rfl rfl ?_
  refine w.callV (argsL := []) (rest := [(.int (0 : Int32))]) 1 d5_18 (tw hw 31 rfl) (tw hw 32 rfl) (tw hw 34 rfl) (tw hw 33 rfl) (tw hw 8 rfl) (tw hw 35 rfl) (by decide) Ea (rmLnE_1 l Z a0 hw hr a t c0 h0 w.old Sa) (lenOf pd_1 rfl) rfl rfl (Nat.le_refl _) ⟨by decide, by decide, by decide, by decide⟩ all0 ?_
  intro T h2 r w _ hQ
  obtain ⟨rfl, rfl⟩ := hQ
  show Go x _ Z _ _ _ T 21 #[.val (.ref a), .val (.int (0 : Int32)), .val (.int (0 : Int32))] [(.int (1 : Int32)), (.int (0 : Int32))]
  refine w.icmpGe d5_21 d5_21t (fun q => absurd (by decide) q) (fun _ => ?_)
  refine w.iloadN d5_24 rfl ?_
  refine w.ifEq d5_25 d5_25t (fun _ => ?_) (fun q => absurd rfl q)
  refine w.iloadN d5_60 rfl ?_
  exact w.retN d5_61 rfl (by simp) ⟨rfl, rfl⟩

set_option maxRecDepth 65536 in
set_option maxHeartbeats 40000000 in
theorem rmCC_2 (l : Launch) (Z : State) (a0 : Array Value) (hw : ∀ d ∈ tables_1, d.before a0 Z = true) (hr : rest_1_c.value a0 Z none Z [] = some true) (a t : Addr) (c0 c1 : Int32) (h0 : Heap) (hE : Ext Z.heap h0) (Sa : ((StrL Z h0 a t 0 [nar .byte c0, nar .byte c1] ∧ (¬ 255 < c0 ∧ ¬ 255 < c1 ∧ True)) ∨ StrL Z h0 a t 1 [nar .byte (c0 >>> ((0 : Int32) &&& 31)), nar .byte (c0 >>> ((8 : Int32) &&& 31)), nar .byte (c1 >>> ((0 : Int32) &&& 31)), nar .byte (c1 >>> ((8 : Int32) &&& 31))])) :
    Ct true l Z consts_1 (⟨"com/example/tenorloom/tenorloom/bond/Bond", "isCurrencyCode", "(Ljava/lang/String;)Z"⟩ : MethodName) prog_6_method_3_code 3 (some .boolean) [] ({ frames := 5, cells := 0, slots := 0, locals := 66 } : Room) [] #[(.ref a)] h0 (fun r u => r = some (.int (0 : Int32)) ∧ h0 = u) := by
  refine Ct.intro pn_com_example_tenorloom_tenorloom_bond_Bond hE (fun m => efCC m a) nosf ⟨a0, own_EW hw⟩ ?_
  intro x T w
  have Ea : Exa Z h0 a "java/lang/String" := by rcases Sa with ⟨S, -⟩ | S <;> exact S.1
  refine w.aloadN d5_0 rfl rfl ?_
  refine w.callV (argsL := []) (rest := []) 0 d5_1 (tw hw 31 rfl) (tw hw 32 rfl) (tw hw 34 rfl) (tw hw 33 rfl) (tw hw 8 rfl) (tw hw 35 rfl) (by decide) Ea (rmLnE_2 l Z a0 hw hr a t c0 c1 h0 w.old Sa) (lenOf pd_1 rfl) rfl rfl (Nat.le_refl _) ⟨by decide, by decide, by decide, by decide⟩ all0 ?_
  intro T h1 r w _ hQ
  obtain ⟨rfl, rfl⟩ := hQ
  show Go x _ Z _ _ _ T 4 #[.val (.ref a), .unset, .unset] [(.int (2 : Int32))]
  refine w.iconst (3 : Int32) d5_4 rfl ?_
  refine w.icmpNe d5_5 d5_5t (fun _ => ?_) (fun q => absurd q (by decide))
  refine w.iconst (0 : Int32) d5_12 rfl ?_
  refine w.istoreN #[.val (.ref a), .val (.int (0 : Int32)), .unset] d5_13 rfl ?_
  refine w.iconst (0 : Int32) d5_14 rfl ?_
  refine w.istoreN #[.val (.ref a), .val (.int (0 : Int32)), .val (.int (0 : Int32))] d5_15 rfl ?_
  refine w.iloadN d5_16 rfl ?_
  refine w.aloadN d5_17 rfl rfl ?_
  refine w.callV (argsL := []) (rest := [(.int (0 : Int32))]) 1 d5_18 (tw hw 31 rfl) (tw hw 32 rfl) (tw hw 34 rfl) (tw hw 33 rfl) (tw hw 8 rfl) (tw hw 35 rfl) (by decide) Ea (rmLnE_2 l Z a0 hw hr a t c0 c1 h0 w.old Sa) (lenOf pd_1 rfl) rfl rfl (Nat.le_refl _) ⟨by decide, by decide, by decide, by decide⟩ all0 ?_
  intro T h2 r w _ hQ
  obtain ⟨rfl, rfl⟩ := hQ
  show Go x _ Z _ _ _ T 21 #[.val (.ref a), .val (.int (0 : Int32)), .val (.int (0 : Int32))] [(.int (2 : Int32)), (.int (0 : Int32))]
  refine w.icmpGe d5_21 d5_21t (fun q => absurd (by decide) q) (fun _ => ?_)
  refine w.iloadN d5_24 rfl ?_
  refine w.ifEq d5_25 d5_25t (fun _ => ?_) (fun q => absurd rfl q)
  refine w.iloadN d5_60 rfl ?_
  exact w.retN d5_61 rfl (by simp) ⟨rfl, rfl⟩

set_option maxRecDepth 65536 in
set_option maxHeartbeats 40000000 in
theorem rmCC_3 (l : Launch) (Z : State) (a0 : Array Value) (hw : ∀ d ∈ tables_1, d.before a0 Z = true) (hr : rest_1_c.value a0 Z none Z [] = some true) (a t : Addr) (c0 c1 c2 : Int32) (h0 : Heap) (hE : Ext Z.heap h0) (Sa : ((StrL Z h0 a t 0 [nar .byte c0, nar .byte c1, nar .byte c2] ∧ (¬ 255 < c0 ∧ ¬ 255 < c1 ∧ ¬ 255 < c2 ∧ True)) ∨ StrL Z h0 a t 1 [nar .byte (c0 >>> ((0 : Int32) &&& 31)), nar .byte (c0 >>> ((8 : Int32) &&& 31)), nar .byte (c1 >>> ((0 : Int32) &&& 31)), nar .byte (c1 >>> ((8 : Int32) &&& 31)), nar .byte (c2 >>> ((0 : Int32) &&& 31)), nar .byte (c2 >>> ((8 : Int32) &&& 31))])) (z0 : 0 ≤ c0.toInt) (v0 : c0.toInt < 65536) (z1 : 0 ≤ c1.toInt) (v1 : c1.toInt < 65536) (z2 : 0 ≤ c2.toInt) (v2 : c2.toInt < 65536) (y0 : nar .char c0 = c0) (y1 : nar .char c1 = c1) (y2 : nar .char c2 = c2) :
    Ct true l Z consts_1 (⟨"com/example/tenorloom/tenorloom/bond/Bond", "isCurrencyCode", "(Ljava/lang/String;)Z"⟩ : MethodName) prog_6_method_3_code 3 (some .boolean) [] ({ frames := 5, cells := 0, slots := 0, locals := 66 } : Room) [] #[(.ref a)] h0 (fun r u => r = some (.int (if (¬ c0 < 65 ∧ ¬ 90 < c0) ∧ (¬ c1 < 65 ∧ ¬ 90 < c1) ∧ (¬ c2 < 65 ∧ ¬ 90 < c2) then 1 else 0)) ∧ h0 = u) := by
  refine Ct.intro pn_com_example_tenorloom_tenorloom_bond_Bond hE (fun m => efCC m a) nosf ⟨a0, own_EW hw⟩ ?_
  intro x T w
  have Ea : Exa Z h0 a "java/lang/String" := by rcases Sa with ⟨S, -⟩ | S <;> exact S.1
  refine w.aloadN d5_0 rfl rfl ?_
  refine w.callV (argsL := []) (rest := []) 0 d5_1 (tw hw 31 rfl) (tw hw 32 rfl) (tw hw 34 rfl) (tw hw 33 rfl) (tw hw 8 rfl) (tw hw 35 rfl) (by decide) Ea (rmLnE_3 l Z a0 hw hr a t c0 c1 c2 h0 w.old Sa) (lenOf pd_1 rfl) rfl rfl (Nat.le_refl _) ⟨by decide, by decide, by decide, by decide⟩ all0 ?_
  intro T h1 r w _ hQ
  obtain ⟨rfl, rfl⟩ := hQ
  show Go x _ Z _ _ _ T 4 #[.val (.ref a), .unset, .unset] [(.int (3 : Int32))]
  refine w.iconst (3 : Int32) d5_4 rfl ?_
  refine w.icmpNe d5_5 d5_5t (fun q => absurd rfl q) (fun _ => ?_)
  refine w.iconst (1 : Int32) d5_8 rfl ?_
  refine w.goto d5_9 d5_9t ?_
  refine w.istoreN #[.val (.ref a), .val (.int (1 : Int32)), .unset] d5_13 rfl ?_
  refine w.iconst (0 : Int32) d5_14 rfl ?_
  refine w.istoreN #[.val (.ref a), .val (.int (1 : Int32)), .val (.int (0 : Int32))] d5_15 rfl ?_
  refine w.iloadN d5_16 rfl ?_
  refine w.aloadN d5_17 rfl rfl ?_
  refine w.callV (argsL := []) (rest := [(.int (0 : Int32))]) 1 d5_18 (tw hw 31 rfl) (tw hw 32 rfl) (tw hw 34 rfl) (tw hw 33 rfl) (tw hw 8 rfl) (tw hw 35 rfl) (by decide) Ea (rmLnE_3 l Z a0 hw hr a t c0 c1 c2 h0 w.old Sa) (lenOf pd_1 rfl) rfl rfl (Nat.le_refl _) ⟨by decide, by decide, by decide, by decide⟩ all0 ?_
  intro T h2 r w _ hQ
  obtain ⟨rfl, rfl⟩ := hQ
  show Go x _ Z _ _ _ T 21 #[.val (.ref a), .val (.int (1 : Int32)), .val (.int (0 : Int32))] [(.int (3 : Int32)), (.int (0 : Int32))]
  refine w.icmpGe d5_21 d5_21t (fun q => absurd (by decide) q) (fun _ => ?_)
  refine w.iloadN d5_24 rfl ?_
  refine w.ifEq d5_25 d5_25t (fun q => absurd q (by decide)) (fun _ => ?_)
  refine w.aloadN d5_28 rfl rfl ?_
  refine w.iloadN d5_29 rfl ?_
  refine w.callV (argsL := [(.int (0 : Int32))]) (rest := []) 0 d5_30 (tw hw 55 rfl) (tw hw 56 rfl) (tw hw 58 rfl) (tw hw 57 rfl) (tw hw 8 rfl) (tw hw 59 rfl) (by decide) Ea (rmCAE_3_0 l Z a0 hw hr a t c0 c1 c2 h0 w.old Sa z0 v0 z1 v1 z2 v2 y0 y1 y2) (lenOf pd_8 rfl) rfl rfl (Nat.le_refl _) ⟨by decide, by decide, by decide, by decide⟩ all0 ?_
  intro T h3 r w _ hQ
  obtain ⟨rfl, rfl⟩ := hQ
  show Go x _ Z _ _ _ T 33 #[.val (.ref a), .val (.int (1 : Int32)), .val (.int (0 : Int32))] [(.int c0)]
  refine w.bipush (65 : Int32) d5_33 rfl ?_
  refine w.icmpLt d5_35 d5_35t (fun p0 => ?_) (fun p0 => ?_)
  · refine w.iconst (0 : Int32) d5_52 rfl ?_
    refine w.istoreN #[.val (.ref a), .val (.int (0 : Int32)), .val (.int (0 : Int32))] d5_53 rfl ?_
    refine w.iinc (1 : Int32) #[.val (.ref a), .val (.int (0 : Int32)), .val (.int (1 : Int32))] d5_54 rfl rfl rfl ?_
    refine w.goto d5_57 d5_57t ?_
    refine w.iloadN d5_16 rfl ?_
    refine w.aloadN d5_17 rfl rfl ?_
    refine w.callV (argsL := []) (rest := [(.int (1 : Int32))]) 1 d5_18 (tw hw 31 rfl) (tw hw 32 rfl) (tw hw 34 rfl) (tw hw 33 rfl) (tw hw 8 rfl) (tw hw 35 rfl) (by decide) Ea (rmLnE_3 l Z a0 hw hr a t c0 c1 c2 h0 w.old Sa) (lenOf pd_1 rfl) rfl rfl (Nat.le_refl _) ⟨by decide, by decide, by decide, by decide⟩ all0 ?_
    intro T h4 r w _ hQ
    obtain ⟨rfl, rfl⟩ := hQ
    show Go x _ Z _ _ _ T 21 #[.val (.ref a), .val (.int (0 : Int32)), .val (.int (1 : Int32))] [(.int (3 : Int32)), (.int (1 : Int32))]
    refine w.icmpGe d5_21 d5_21t (fun q => absurd (by decide) q) (fun _ => ?_)
    refine w.iloadN d5_24 rfl ?_
    refine w.ifEq d5_25 d5_25t (fun _ => ?_) (fun q => absurd rfl q)
    refine w.iloadN d5_60 rfl ?_
    exact w.retN d5_61 rfl (by simp) ⟨by rw [if_neg (fun e => e.1.1 p0)]; rfl, rfl⟩
  · refine w.aloadN d5_38 rfl rfl ?_
    refine w.iloadN d5_39 rfl ?_
    refine w.callV (argsL := [(.int (0 : Int32))]) (rest := []) 0 d5_40 (tw hw 55 rfl) (tw hw 56 rfl) (tw hw 58 rfl) (tw hw 57 rfl) (tw hw 8 rfl) (tw hw 59 rfl) (by decide) Ea (rmCAE_3_0 l Z a0 hw hr a t c0 c1 c2 h0 w.old Sa z0 v0 z1 v1 z2 v2 y0 y1 y2) (lenOf pd_8 rfl) rfl rfl (Nat.le_refl _) ⟨by decide, by decide, by decide, by decide⟩ all0 ?_
    intro T h5 r w _ hQ
    obtain ⟨rfl, rfl⟩ := hQ
    show Go x _ Z _ _ _ T 43 #[.val (.ref a), .val (.int (1 : Int32)), .val (.int (0 : Int32))] [(.int c0)]
    refine w.bipush (90 : Int32) d5_43 rfl ?_
    refine w.icmpGt d5_45 d5_45t (fun q0 => ?_) (fun q0 => ?_)
    · refine w.iconst (0 : Int32) d5_52 rfl ?_
      refine w.istoreN #[.val (.ref a), .val (.int (0 : Int32)), .val (.int (0 : Int32))] d5_53 rfl ?_
      refine w.iinc (1 : Int32) #[.val (.ref a), .val (.int (0 : Int32)), .val (.int (1 : Int32))] d5_54 rfl rfl rfl ?_
      refine w.goto d5_57 d5_57t ?_
      refine w.iloadN d5_16 rfl ?_
      refine w.aloadN d5_17 rfl rfl ?_
      refine w.callV (argsL := []) (rest := [(.int (1 : Int32))]) 1 d5_18 (tw hw 31 rfl) (tw hw 32 rfl) (tw hw 34 rfl) (tw hw 33 rfl) (tw hw 8 rfl) (tw hw 35 rfl) (by decide) Ea (rmLnE_3 l Z a0 hw hr a t c0 c1 c2 h0 w.old Sa) (lenOf pd_1 rfl) rfl rfl (Nat.le_refl _) ⟨by decide, by decide, by decide, by decide⟩ all0 ?_
      intro T h6 r w _ hQ
      obtain ⟨rfl, rfl⟩ := hQ
      show Go x _ Z _ _ _ T 21 #[.val (.ref a), .val (.int (0 : Int32)), .val (.int (1 : Int32))] [(.int (3 : Int32)), (.int (1 : Int32))]
      refine w.icmpGe d5_21 d5_21t (fun q => absurd (by decide) q) (fun _ => ?_)
      refine w.iloadN d5_24 rfl ?_
      refine w.ifEq d5_25 d5_25t (fun _ => ?_) (fun q => absurd rfl q)
      refine w.iloadN d5_60 rfl ?_
      exact w.retN d5_61 rfl (by simp) ⟨by rw [if_neg (fun e => e.1.2 q0)]; rfl, rfl⟩
    · refine w.iconst (1 : Int32) d5_48 rfl ?_
      refine w.goto d5_49 d5_49t ?_
      refine w.istoreN #[.val (.ref a), .val (.int (1 : Int32)), .val (.int (0 : Int32))] d5_53 rfl ?_
      refine w.iinc (1 : Int32) #[.val (.ref a), .val (.int (1 : Int32)), .val (.int (1 : Int32))] d5_54 rfl rfl rfl ?_
      refine w.goto d5_57 d5_57t ?_
      refine w.iloadN d5_16 rfl ?_
      refine w.aloadN d5_17 rfl rfl ?_
      refine w.callV (argsL := []) (rest := [(.int (1 : Int32))]) 1 d5_18 (tw hw 31 rfl) (tw hw 32 rfl) (tw hw 34 rfl) (tw hw 33 rfl) (tw hw 8 rfl) (tw hw 35 rfl) (by decide) Ea (rmLnE_3 l Z a0 hw hr a t c0 c1 c2 h0 w.old Sa) (lenOf pd_1 rfl) rfl rfl (Nat.le_refl _) ⟨by decide, by decide, by decide, by decide⟩ all0 ?_
      intro T h7 r w _ hQ
      obtain ⟨rfl, rfl⟩ := hQ
      show Go x _ Z _ _ _ T 21 #[.val (.ref a), .val (.int (1 : Int32)), .val (.int (1 : Int32))] [(.int (3 : Int32)), (.int (1 : Int32))]
      refine w.icmpGe d5_21 d5_21t (fun q => absurd (by decide) q) (fun _ => ?_)
      refine w.iloadN d5_24 rfl ?_
      refine w.ifEq d5_25 d5_25t (fun q => absurd q (by decide)) (fun _ => ?_)
      refine w.aloadN d5_28 rfl rfl ?_
      refine w.iloadN d5_29 rfl ?_
      refine w.callV (argsL := [(.int (1 : Int32))]) (rest := []) 0 d5_30 (tw hw 55 rfl) (tw hw 56 rfl) (tw hw 58 rfl) (tw hw 57 rfl) (tw hw 8 rfl) (tw hw 59 rfl) (by decide) Ea (rmCAE_3_1 l Z a0 hw hr a t c0 c1 c2 h0 w.old Sa z0 v0 z1 v1 z2 v2 y0 y1 y2) (lenOf pd_8 rfl) rfl rfl (Nat.le_refl _) ⟨by decide, by decide, by decide, by decide⟩ all0 ?_
      intro T h8 r w _ hQ
      obtain ⟨rfl, rfl⟩ := hQ
      show Go x _ Z _ _ _ T 33 #[.val (.ref a), .val (.int (1 : Int32)), .val (.int (1 : Int32))] [(.int c1)]
      refine w.bipush (65 : Int32) d5_33 rfl ?_
      refine w.icmpLt d5_35 d5_35t (fun p1 => ?_) (fun p1 => ?_)
      · refine w.iconst (0 : Int32) d5_52 rfl ?_
        refine w.istoreN #[.val (.ref a), .val (.int (0 : Int32)), .val (.int (1 : Int32))] d5_53 rfl ?_
        refine w.iinc (1 : Int32) #[.val (.ref a), .val (.int (0 : Int32)), .val (.int (2 : Int32))] d5_54 rfl rfl rfl ?_
        refine w.goto d5_57 d5_57t ?_
        refine w.iloadN d5_16 rfl ?_
        refine w.aloadN d5_17 rfl rfl ?_
        refine w.callV (argsL := []) (rest := [(.int (2 : Int32))]) 1 d5_18 (tw hw 31 rfl) (tw hw 32 rfl) (tw hw 34 rfl) (tw hw 33 rfl) (tw hw 8 rfl) (tw hw 35 rfl) (by decide) Ea (rmLnE_3 l Z a0 hw hr a t c0 c1 c2 h0 w.old Sa) (lenOf pd_1 rfl) rfl rfl (Nat.le_refl _) ⟨by decide, by decide, by decide, by decide⟩ all0 ?_
        intro T h9 r w _ hQ
        obtain ⟨rfl, rfl⟩ := hQ
        show Go x _ Z _ _ _ T 21 #[.val (.ref a), .val (.int (0 : Int32)), .val (.int (2 : Int32))] [(.int (3 : Int32)), (.int (2 : Int32))]
        refine w.icmpGe d5_21 d5_21t (fun q => absurd (by decide) q) (fun _ => ?_)
        refine w.iloadN d5_24 rfl ?_
        refine w.ifEq d5_25 d5_25t (fun _ => ?_) (fun q => absurd rfl q)
        refine w.iloadN d5_60 rfl ?_
        exact w.retN d5_61 rfl (by simp) ⟨by rw [if_neg (fun e => e.2.1.1 p1)]; rfl, rfl⟩
      · refine w.aloadN d5_38 rfl rfl ?_
        refine w.iloadN d5_39 rfl ?_
        refine w.callV (argsL := [(.int (1 : Int32))]) (rest := []) 0 d5_40 (tw hw 55 rfl) (tw hw 56 rfl) (tw hw 58 rfl) (tw hw 57 rfl) (tw hw 8 rfl) (tw hw 59 rfl) (by decide) Ea (rmCAE_3_1 l Z a0 hw hr a t c0 c1 c2 h0 w.old Sa z0 v0 z1 v1 z2 v2 y0 y1 y2) (lenOf pd_8 rfl) rfl rfl (Nat.le_refl _) ⟨by decide, by decide, by decide, by decide⟩ all0 ?_
        intro T h10 r w _ hQ
        obtain ⟨rfl, rfl⟩ := hQ
        show Go x _ Z _ _ _ T 43 #[.val (.ref a), .val (.int (1 : Int32)), .val (.int (1 : Int32))] [(.int c1)]
        refine w.bipush (90 : Int32) d5_43 rfl ?_
        refine w.icmpGt d5_45 d5_45t (fun q1 => ?_) (fun q1 => ?_)
        · refine w.iconst (0 : Int32) d5_52 rfl ?_
          refine w.istoreN #[.val (.ref a), .val (.int (0 : Int32)), .val (.int (1 : Int32))] d5_53 rfl ?_
          refine w.iinc (1 : Int32) #[.val (.ref a), .val (.int (0 : Int32)), .val (.int (2 : Int32))] d5_54 rfl rfl rfl ?_
          refine w.goto d5_57 d5_57t ?_
          refine w.iloadN d5_16 rfl ?_
          refine w.aloadN d5_17 rfl rfl ?_
          refine w.callV (argsL := []) (rest := [(.int (2 : Int32))]) 1 d5_18 (tw hw 31 rfl) (tw hw 32 rfl) (tw hw 34 rfl) (tw hw 33 rfl) (tw hw 8 rfl) (tw hw 35 rfl) (by decide) Ea (rmLnE_3 l Z a0 hw hr a t c0 c1 c2 h0 w.old Sa) (lenOf pd_1 rfl) rfl rfl (Nat.le_refl _) ⟨by decide, by decide, by decide, by decide⟩ all0 ?_
          intro T h11 r w _ hQ
          obtain ⟨rfl, rfl⟩ := hQ
          show Go x _ Z _ _ _ T 21 #[.val (.ref a), .val (.int (0 : Int32)), .val (.int (2 : Int32))] [(.int (3 : Int32)), (.int (2 : Int32))]
          refine w.icmpGe d5_21 d5_21t (fun q => absurd (by decide) q) (fun _ => ?_)
          refine w.iloadN d5_24 rfl ?_
          refine w.ifEq d5_25 d5_25t (fun _ => ?_) (fun q => absurd rfl q)
          refine w.iloadN d5_60 rfl ?_
          exact w.retN d5_61 rfl (by simp) ⟨by rw [if_neg (fun e => e.2.1.2 q1)]; rfl, rfl⟩
        · refine w.iconst (1 : Int32) d5_48 rfl ?_
          refine w.goto d5_49 d5_49t ?_
          refine w.istoreN #[.val (.ref a), .val (.int (1 : Int32)), .val (.int (1 : Int32))] d5_53 rfl ?_
          refine w.iinc (1 : Int32) #[.val (.ref a), .val (.int (1 : Int32)), .val (.int (2 : Int32))] d5_54 rfl rfl rfl ?_
          refine w.goto d5_57 d5_57t ?_
          refine w.iloadN d5_16 rfl ?_
          refine w.aloadN d5_17 rfl rfl ?_
          refine w.callV (argsL := []) (rest := [(.int (2 : Int32))]) 1 d5_18 (tw hw 31 rfl) (tw hw 32 rfl) (tw hw 34 rfl) (tw hw 33 rfl) (tw hw 8 rfl) (tw hw 35 rfl) (by decide) Ea (rmLnE_3 l Z a0 hw hr a t c0 c1 c2 h0 w.old Sa) (lenOf pd_1 rfl) rfl rfl (Nat.le_refl _) ⟨by decide, by decide, by decide, by decide⟩ all0 ?_
          intro T h12 r w _ hQ
          obtain ⟨rfl, rfl⟩ := hQ
          show Go x _ Z _ _ _ T 21 #[.val (.ref a), .val (.int (1 : Int32)), .val (.int (2 : Int32))] [(.int (3 : Int32)), (.int (2 : Int32))]
          refine w.icmpGe d5_21 d5_21t (fun q => absurd (by decide) q) (fun _ => ?_)
          refine w.iloadN d5_24 rfl ?_
          refine w.ifEq d5_25 d5_25t (fun q => absurd q (by decide)) (fun _ => ?_)
          refine w.aloadN d5_28 rfl rfl ?_
          refine w.iloadN d5_29 rfl ?_
          refine w.callV (argsL := [(.int (2 : Int32))]) (rest := []) 0 d5_30 (tw hw 55 rfl) (tw hw 56 rfl) (tw hw 58 rfl) (tw hw 57 rfl) (tw hw 8 rfl) (tw hw 59 rfl) (by decide) Ea (rmCAE_3_2 l Z a0 hw hr a t c0 c1 c2 h0 w.old Sa z0 v0 z1 v1 z2 v2 y0 y1 y2) (lenOf pd_8 rfl) rfl rfl (Nat.le_refl _) ⟨by decide, by decide, by decide, by decide⟩ all0 ?_
          intro T h13 r w _ hQ
          obtain ⟨rfl, rfl⟩ := hQ
          show Go x _ Z _ _ _ T 33 #[.val (.ref a), .val (.int (1 : Int32)), .val (.int (2 : Int32))] [(.int c2)]
          refine w.bipush (65 : Int32) d5_33 rfl ?_
          refine w.icmpLt d5_35 d5_35t (fun p2 => ?_) (fun p2 => ?_)
          · refine w.iconst (0 : Int32) d5_52 rfl ?_
            refine w.istoreN #[.val (.ref a), .val (.int (0 : Int32)), .val (.int (2 : Int32))] d5_53 rfl ?_
            refine w.iinc (1 : Int32) #[.val (.ref a), .val (.int (0 : Int32)), .val (.int (3 : Int32))] d5_54 rfl rfl rfl ?_
            refine w.goto d5_57 d5_57t ?_
            refine w.iloadN d5_16 rfl ?_
            refine w.aloadN d5_17 rfl rfl ?_
            refine w.callV (argsL := []) (rest := [(.int (3 : Int32))]) 1 d5_18 (tw hw 31 rfl) (tw hw 32 rfl) (tw hw 34 rfl) (tw hw 33 rfl) (tw hw 8 rfl) (tw hw 35 rfl) (by decide) Ea (rmLnE_3 l Z a0 hw hr a t c0 c1 c2 h0 w.old Sa) (lenOf pd_1 rfl) rfl rfl (Nat.le_refl _) ⟨by decide, by decide, by decide, by decide⟩ all0 ?_
            intro T h14 r w _ hQ
            obtain ⟨rfl, rfl⟩ := hQ
            show Go x _ Z _ _ _ T 21 #[.val (.ref a), .val (.int (0 : Int32)), .val (.int (3 : Int32))] [(.int (3 : Int32)), (.int (3 : Int32))]
            refine w.icmpGe d5_21 d5_21t (fun _ => ?_) (fun q => absurd q (by decide))
            refine w.iloadN d5_60 rfl ?_
            exact w.retN d5_61 rfl (by simp) ⟨by rw [if_neg (fun e => e.2.2.1 p2)]; rfl, rfl⟩
          · refine w.aloadN d5_38 rfl rfl ?_
            refine w.iloadN d5_39 rfl ?_
            refine w.callV (argsL := [(.int (2 : Int32))]) (rest := []) 0 d5_40 (tw hw 55 rfl) (tw hw 56 rfl) (tw hw 58 rfl) (tw hw 57 rfl) (tw hw 8 rfl) (tw hw 59 rfl) (by decide) Ea (rmCAE_3_2 l Z a0 hw hr a t c0 c1 c2 h0 w.old Sa z0 v0 z1 v1 z2 v2 y0 y1 y2) (lenOf pd_8 rfl) rfl rfl (Nat.le_refl _) ⟨by decide, by decide, by decide, by decide⟩ all0 ?_
            intro T h15 r w _ hQ
            obtain ⟨rfl, rfl⟩ := hQ
            show Go x _ Z _ _ _ T 43 #[.val (.ref a), .val (.int (1 : Int32)), .val (.int (2 : Int32))] [(.int c2)]
            refine w.bipush (90 : Int32) d5_43 rfl ?_
            refine w.icmpGt d5_45 d5_45t (fun q2 => ?_) (fun q2 => ?_)
            · refine w.iconst (0 : Int32) d5_52 rfl ?_
              refine w.istoreN #[.val (.ref a), .val (.int (0 : Int32)), .val (.int (2 : Int32))] d5_53 rfl ?_
              refine w.iinc (1 : Int32) #[.val (.ref a), .val (.int (0 : Int32)), .val (.int (3 : Int32))] d5_54 rfl rfl rfl ?_
              refine w.goto d5_57 d5_57t ?_
              refine w.iloadN d5_16 rfl ?_
              refine w.aloadN d5_17 rfl rfl ?_
              refine w.callV (argsL := []) (rest := [(.int (3 : Int32))]) 1 d5_18 (tw hw 31 rfl) (tw hw 32 rfl) (tw hw 34 rfl) (tw hw 33 rfl) (tw hw 8 rfl) (tw hw 35 rfl) (by decide) Ea (rmLnE_3 l Z a0 hw hr a t c0 c1 c2 h0 w.old Sa) (lenOf pd_1 rfl) rfl rfl (Nat.le_refl _) ⟨by decide, by decide, by decide, by decide⟩ all0 ?_
              intro T h16 r w _ hQ
              obtain ⟨rfl, rfl⟩ := hQ
              show Go x _ Z _ _ _ T 21 #[.val (.ref a), .val (.int (0 : Int32)), .val (.int (3 : Int32))] [(.int (3 : Int32)), (.int (3 : Int32))]
              refine w.icmpGe d5_21 d5_21t (fun _ => ?_) (fun q => absurd q (by decide))
              refine w.iloadN d5_60 rfl ?_
              exact w.retN d5_61 rfl (by simp) ⟨by rw [if_neg (fun e => e.2.2.2 q2)]; rfl, rfl⟩
            · refine w.iconst (1 : Int32) d5_48 rfl ?_
              refine w.goto d5_49 d5_49t ?_
              refine w.istoreN #[.val (.ref a), .val (.int (1 : Int32)), .val (.int (2 : Int32))] d5_53 rfl ?_
              refine w.iinc (1 : Int32) #[.val (.ref a), .val (.int (1 : Int32)), .val (.int (3 : Int32))] d5_54 rfl rfl rfl ?_
              refine w.goto d5_57 d5_57t ?_
              refine w.iloadN d5_16 rfl ?_
              refine w.aloadN d5_17 rfl rfl ?_
              refine w.callV (argsL := []) (rest := [(.int (3 : Int32))]) 1 d5_18 (tw hw 31 rfl) (tw hw 32 rfl) (tw hw 34 rfl) (tw hw 33 rfl) (tw hw 8 rfl) (tw hw 35 rfl) (by decide) Ea (rmLnE_3 l Z a0 hw hr a t c0 c1 c2 h0 w.old Sa) (lenOf pd_1 rfl) rfl rfl (Nat.le_refl _) ⟨by decide, by decide, by decide, by decide⟩ all0 ?_
              intro T h17 r w _ hQ
              obtain ⟨rfl, rfl⟩ := hQ
              show Go x _ Z _ _ _ T 21 #[.val (.ref a), .val (.int (1 : Int32)), .val (.int (3 : Int32))] [(.int (3 : Int32)), (.int (3 : Int32))]
              refine w.icmpGe d5_21 d5_21t (fun _ => ?_) (fun q => absurd q (by decide))
              refine w.iloadN d5_60 rfl ?_
              exact w.retN d5_61 rfl (by simp) ⟨by rw [if_pos ⟨⟨p0, q0⟩, ⟨p1, q1⟩, ⟨p2, q2⟩⟩]; rfl, rfl⟩

set_option maxRecDepth 65536 in
set_option maxHeartbeats 40000000 in
theorem rmCC_4 (l : Launch) (Z : State) (a0 : Array Value) (hw : ∀ d ∈ tables_1, d.before a0 Z = true) (hr : rest_1_c.value a0 Z none Z [] = some true) (a t : Addr) (c0 c1 c2 c3 : Int32) (h0 : Heap) (hE : Ext Z.heap h0) (Sa : ((StrL Z h0 a t 0 [nar .byte c0, nar .byte c1, nar .byte c2, nar .byte c3] ∧ (¬ 255 < c0 ∧ ¬ 255 < c1 ∧ ¬ 255 < c2 ∧ ¬ 255 < c3 ∧ True)) ∨ StrL Z h0 a t 1 [nar .byte (c0 >>> ((0 : Int32) &&& 31)), nar .byte (c0 >>> ((8 : Int32) &&& 31)), nar .byte (c1 >>> ((0 : Int32) &&& 31)), nar .byte (c1 >>> ((8 : Int32) &&& 31)), nar .byte (c2 >>> ((0 : Int32) &&& 31)), nar .byte (c2 >>> ((8 : Int32) &&& 31)), nar .byte (c3 >>> ((0 : Int32) &&& 31)), nar .byte (c3 >>> ((8 : Int32) &&& 31))])) :
    Ct true l Z consts_1 (⟨"com/example/tenorloom/tenorloom/bond/Bond", "isCurrencyCode", "(Ljava/lang/String;)Z"⟩ : MethodName) prog_6_method_3_code 3 (some .boolean) [] ({ frames := 5, cells := 0, slots := 0, locals := 66 } : Room) [] #[(.ref a)] h0 (fun r u => r = some (.int (0 : Int32)) ∧ h0 = u) := by
  refine Ct.intro pn_com_example_tenorloom_tenorloom_bond_Bond hE (fun m => efCC m a) nosf ⟨a0, own_EW hw⟩ ?_
  intro x T w
  have Ea : Exa Z h0 a "java/lang/String" := by rcases Sa with ⟨S, -⟩ | S <;> exact S.1
  refine w.aloadN d5_0 rfl rfl ?_
  refine w.callV (argsL := []) (rest := []) 0 d5_1 (tw hw 31 rfl) (tw hw 32 rfl) (tw hw 34 rfl) (tw hw 33 rfl) (tw hw 8 rfl) (tw hw 35 rfl) (by decide) Ea (rmLnE_4 l Z a0 hw hr a t c0 c1 c2 c3 h0 w.old Sa) (lenOf pd_1 rfl) rfl rfl (Nat.le_refl _) ⟨by decide, by decide, by decide, by decide⟩ all0 ?_
  intro T h1 r w _ hQ
  obtain ⟨rfl, rfl⟩ := hQ
  show Go x _ Z _ _ _ T 4 #[.val (.ref a), .unset, .unset] [(.int (4 : Int32))]
  refine w.iconst (3 : Int32) d5_4 rfl ?_
  refine w.icmpNe d5_5 d5_5t (fun _ => ?_) (fun q => absurd q (by decide))
  refine w.iconst (0 : Int32) d5_12 rfl ?_
  refine w.istoreN #[.val (.ref a), .val (.int (0 : Int32)), .unset] d5_13 rfl ?_
  refine w.iconst (0 : Int32) d5_14 rfl ?_
  refine w.istoreN #[.val (.ref a), .val (.int (0 : Int32)), .val (.int (0 : Int32))] d5_15 rfl ?_
  refine w.iloadN d5_16 rfl ?_
  refine w.aloadN d5_17 rfl rfl ?_
  refine w.callV (argsL := []) (rest := [(.int (0 : Int32))]) 1 d5_18 (tw hw 31 rfl) (tw hw 32 rfl) (tw hw 34 rfl) (tw hw 33 rfl) (tw hw 8 rfl) (tw hw 35 rfl) (by decide) Ea (rmLnE_4 l Z a0 hw hr a t c0 c1 c2 c3 h0 w.old Sa) (lenOf pd_1 rfl) rfl rfl (Nat.le_refl _) ⟨by decide, by decide, by decide, by decide⟩ all0 ?_
  intro T h2 r w _ hQ
  obtain ⟨rfl, rfl⟩ := hQ
  show Go x _ Z _ _ _ T 21 #[.val (.ref a), .val (.int (0 : Int32)), .val (.int (0 : Int32))] [(.int (4 : Int32)), (.int (0 : Int32))]
  refine w.icmpGe d5_21 d5_21t (fun q => absurd (by decide) q) (fun _ => ?_)
  refine w.iloadN d5_24 rfl ?_
  refine w.ifEq d5_25 d5_25t (fun _ => ?_) (fun q => absurd rfl q)
  refine w.iloadN d5_60 rfl ?_
  exact w.retN d5_61 rfl (by simp) ⟨rfl, rfl⟩

set_option maxRecDepth 65536 in
set_option maxHeartbeats 40000000 in
theorem rm0 (l : Launch) (Z : State) (a0 : Array Value) (hw : ∀ d ∈ tables_1, d.before a0 Z = true) (hr : rest_1_c.value a0 Z none Z [] = some true) (i0 i1 i2 i3 i4 : Int32) (h0 : Heap) (hE : Ext Z.heap h0) :
    Ct true l Z consts_1 x code maxLocals ret tables_1 room_1 [] #[(.int i0), (.int i1), (.int i2), (.int i3), (.int i4)] h0 (fun v _ => v = some (.int 1)) := by
  refine Ct.intro pn_com_example_tenorloom_tenorloom_bond_BondIsCurrencyCodePinLaw hE (fun m => ef0 m i0 i1 i2 i3 i4) nosf ⟨a0, own_EW hw⟩ ?_
  intro x T w
  refine w.iloadN d0_0 rfl ?_
  refine w.bipush (7 : Int32) d0_1 rfl ?_
  refine w.iand d0_3 ?_
  refine w.iconst (5 : Int32) d0_4 rfl ?_
  refine w.irem d0_5 (by decide) ?_
  refine w.istore #[.val (.int i0), .val (.int i1), .val (.int i2), .val (.int i3), .val (.int i4), .val (.int ((i0 &&& (7 : Int32)) % (5 : Int32))), .unset, .unset, .unset, .unset, .unset, .unset, .unset] d0_6 rfl ?_
  refine w.iloadN d0_8 rfl ?_
  refine w.callS (argsL := [(.int i1)]) (rest := []) 0 d0_9 (tw hw 0 rfl) (tw hw 1 rfl) (tw hw 2 rfl) (tw hw 3 rfl) (by decide) (rmD l Z a0 hw i1 h0 w.old) (lenOf pd_8 rfl) rfl rfl (Nat.le_refl _) ⟨by decide, by decide, by decide, by decide⟩ all0 ?_
  intro T h1 r w _ hQ
  obtain ⟨c0, rfl, z0, v0, y0, rfl⟩ := hQ
  show Go x _ Z _ _ _ T 12 #[.val (.int i0), .val (.int i1), .val (.int i2), .val (.int i3), .val (.int i4), .val (.int ((i0 &&& (7 : Int32)) % (5 : Int32))), .unset, .unset, .unset, .unset, .unset, .unset, .unset] [(.int c0)]
  refine w.istore #[.val (.int i0), .val (.int i1), .val (.int i2), .val (.int i3), .val (.int i4), .val (.int ((i0 &&& (7 : Int32)) % (5 : Int32))), .val (.int c0), .unset, .unset, .unset, .unset, .unset, .unset] d0_12 rfl ?_
  refine w.iloadN d0_14 rfl ?_
  refine w.callS (argsL := [(.int i2)]) (rest := []) 0 d0_15 (tw hw 0 rfl) (tw hw 1 rfl) (tw hw 2 rfl) (tw hw 3 rfl) (by decide) (rmD l Z a0 hw i2 h0 w.old) (lenOf pd_8 rfl) rfl rfl (Nat.le_refl _) ⟨by decide, by decide, by decide, by decide⟩ all0 ?_
  intro T h2 r w _ hQ
  obtain ⟨c1, rfl, z1, v1, y1, rfl⟩ := hQ
  show Go x _ Z _ _ _ T 18 #[.val (.int i0), .val (.int i1), .val (.int i2), .val (.int i3), .val (.int i4), .val (.int ((i0 &&& (7 : Int32)) % (5 : Int32))), .val (.int c0), .unset, .unset, .unset, .unset, .unset, .unset] [(.int c1)]
  refine w.istore #[.val (.int i0), .val (.int i1), .val (.int i2), .val (.int i3), .val (.int i4), .val (.int ((i0 &&& (7 : Int32)) % (5 : Int32))), .val (.int c0), .val (.int c1), .unset, .unset, .unset, .unset, .unset] d0_18 rfl ?_
  refine w.iloadN d0_20 rfl ?_
  refine w.callS (argsL := [(.int i3)]) (rest := []) 0 d0_21 (tw hw 0 rfl) (tw hw 1 rfl) (tw hw 2 rfl) (tw hw 3 rfl) (by decide) (rmD l Z a0 hw i3 h0 w.old) (lenOf pd_8 rfl) rfl rfl (Nat.le_refl _) ⟨by decide, by decide, by decide, by decide⟩ all0 ?_
  intro T h3 r w _ hQ
  obtain ⟨c2, rfl, z2, v2, y2, rfl⟩ := hQ
  show Go x _ Z _ _ _ T 24 #[.val (.int i0), .val (.int i1), .val (.int i2), .val (.int i3), .val (.int i4), .val (.int ((i0 &&& (7 : Int32)) % (5 : Int32))), .val (.int c0), .val (.int c1), .unset, .unset, .unset, .unset, .unset] [(.int c2)]
  refine w.istore #[.val (.int i0), .val (.int i1), .val (.int i2), .val (.int i3), .val (.int i4), .val (.int ((i0 &&& (7 : Int32)) % (5 : Int32))), .val (.int c0), .val (.int c1), .val (.int c2), .unset, .unset, .unset, .unset] d0_24 rfl ?_
  refine w.iload d0_26 rfl ?_
  refine w.callS (argsL := [(.int i4)]) (rest := []) 0 d0_28 (tw hw 0 rfl) (tw hw 1 rfl) (tw hw 2 rfl) (tw hw 3 rfl) (by decide) (rmD l Z a0 hw i4 h0 w.old) (lenOf pd_8 rfl) rfl rfl (Nat.le_refl _) ⟨by decide, by decide, by decide, by decide⟩ all0 ?_
  intro T h4 r w _ hQ
  obtain ⟨c3, rfl, z3, v3, y3, rfl⟩ := hQ
  show Go x _ Z _ _ _ T 31 #[.val (.int i0), .val (.int i1), .val (.int i2), .val (.int i3), .val (.int i4), .val (.int ((i0 &&& (7 : Int32)) % (5 : Int32))), .val (.int c0), .val (.int c1), .val (.int c2), .unset, .unset, .unset, .unset] [(.int c3)]
  refine w.istore #[.val (.int i0), .val (.int i1), .val (.int i2), .val (.int i3), .val (.int i4), .val (.int ((i0 &&& (7 : Int32)) % (5 : Int32))), .val (.int c0), .val (.int c1), .val (.int c2), .val (.int c3), .unset, .unset, .unset] d0_31 rfl ?_
  have e5 := own_len i0
  generalize ((i0 &&& (7 : Int32)) % (5 : Int32)) = k at e5 ⊢
  rcases e5 with rfl | rfl | rfl | rfl | rfl
  · refine w.iload d0_33 rfl ?_
    refine w.ifNe d0_35 d0_35t (fun q => absurd (by decide) q) (fun _ => ?_)
    refine w.iconst (0 : Int32) d0_38 rfl ?_
    have sz0 := w.size
    refine w.newP 0 "[C" d0_39 (tw hw 5 rfl) (by decide) (by decide) (by decide) (by decide) ⟨by decide, by decide⟩ ?_
    intro d T h5 kd g_d w E_d A_d X_d
    have ge_d : Z.heap.size ≤ d := by rw [g_d]; exact sz0
    refine w.astore #[.val (.int i0), .val (.int i1), .val (.int i2), .val (.int i3), .val (.int i4), .val (.int (0 : Int32)), .val (.int c0), .val (.int c1), .val (.int c2), .val (.int c3), .val (.ref d), .unset, .unset] d0_41 rfl rfl ?_
    refine w.goto d0_43 d0_43t ?_
    have sz0 := w.size
    refine w.new d0_143 (tw hw 6 rfl) (tw hw 7 rfl) (tw hw 8 rfl) ⟨by decide, by decide⟩ ?_
    intro s T h6 g_s w E21 A22 D23
    have ne_d_s : d ≠ s := Nat.ne_of_lt (Nat.lt_of_lt_of_eq A_d.lt g_s.symm)
    have ge_s : Z.heap.size ≤ s := by rw [g_s]; exact sz0
    have F24 := A_d.ext E21
    have F25 : Fld Z h6 s "java/lang/String" "value" "[B" .null := D23 (Or.inr (tw hw 21 rfl)) (ty := (.array .byte)) (by decide)
    have F26 : Fld Z h6 s "java/lang/String" "coder" "B" (.int (0 : Int32)) := D23 (Or.inr (tw hw 22 rfl)) (ty := .byte) (by decide)
    refine w.dup d0_146 rfl ?_
    refine w.aload d0_147 rfl rfl ?_
    refine w.callI (argsL := [(.ref d)]) (rest := [(.ref s)]) 1 d0_149 rfl (tw hw 9 rfl) (tw hw 10 rfl) (tw hw 8 rfl) (tw hw 11 rfl) (by decide) (rmS1_0 l Z a0 hw hr s d kd _ h6 w.old ge_s A22 F25 F26 F24) (lenOf pd_10 rfl) rfl rfl (Nat.le_refl _) ⟨by decide, by decide, by decide, by decide⟩ (allS (List.mem_of_getElem? (i := 0) rfl) all0) ?_
    intro T h7 r w _ hQ
    obtain ⟨rfl, K_s, t, S_s⟩ := hQ
    show Go x _ Z _ _ _ T 152 #[.val (.int i0), .val (.int i1), .val (.int i2), .val (.int i3), .val (.int i4), .val (.int (0 : Int32)), .val (.int c0), .val (.int c1), .val (.int c2), .val (.int c3), .val (.ref d), .unset, .unset] [(.ref s)]
    refine w.astore #[.val (.int i0), .val (.int i1), .val (.int i2), .val (.int i3), .val (.int i4), .val (.int (0 : Int32)), .val (.int c0), .val (.int c1), .val (.int c2), .val (.int c3), .val (.ref d), .val (.ref s), .unset] d0_152 rfl rfl ?_
    refine w.iload d0_154 rfl ?_
    refine w.iconst (3 : Int32) d0_156 rfl ?_
    refine w.icmpNe d0_157 d0_157t (fun _ => ?_) (fun q => absurd q (by decide))
    refine w.iconst (0 : Int32) d0_188 rfl ?_
    refine w.istore #[.val (.int i0), .val (.int i1), .val (.int i2), .val (.int i3), .val (.int i4), .val (.int (0 : Int32)), .val (.int c0), .val (.int c1), .val (.int c2), .val (.int c3), .val (.ref d), .val (.ref s), .val (.int (0 : Int32))] d0_189 rfl ?_
    refine w.aload d0_191 rfl rfl ?_
    refine w.callS (argsL := [(.ref s)]) (rest := []) 0 d0_193 (tw hw 27 rfl) (tw hw 28 rfl) (tw hw 29 rfl) (tw hw 30 rfl) (by decide) (rmCC_0 l Z a0 hw hr s t  h7 w.old S_s) (lenOf pd_11 rfl) rfl rfl (Nat.le_refl _) ⟨by decide, by decide, by decide, by decide⟩ all0 ?_
    intro T h8 r w _ hQ
    obtain ⟨rfl, rfl⟩ := hQ
    show Go x _ Z _ _ _ T 196 #[.val (.int i0), .val (.int i1), .val (.int i2), .val (.int i3), .val (.int i4), .val (.int (0 : Int32)), .val (.int c0), .val (.int c1), .val (.int c2), .val (.int c3), .val (.ref d), .val (.ref s), .val (.int (0 : Int32))] [(.int (0 : Int32))]
    refine w.iload d0_196 rfl ?_
    refine w.icmpNe d0_198 d0_198t (fun q => absurd rfl q) (fun _ => ?_)
    refine w.iconst (1 : Int32) d0_201 rfl ?_
    refine w.goto d0_202 d0_202t ?_
    exact w.retN d0_206 rfl (by simp) rfl
  · refine w.iload d0_33 rfl ?_
    refine w.ifNe d0_35 d0_35t (fun _ => ?_) (fun q => absurd q (by decide))
    refine w.iload d0_46 rfl ?_
    refine w.iconst (1 : Int32) d0_48 rfl ?_
    refine w.icmpNe d0_49 d0_49t (fun q => absurd (by decide) q) (fun _ => ?_)
    refine w.iconst (1 : Int32) d0_52 rfl ?_
    have sz0 := w.size
    refine w.newP 1 "[C" d0_53 (tw hw 5 rfl) (by decide) (by decide) (by decide) (by decide) ⟨by decide, by decide⟩ ?_
    intro d T h9 kd g_d w E_d A_d X_d
    have ge_d : Z.heap.size ≤ d := by rw [g_d]; exact sz0
    refine w.dup d0_55 rfl ?_
    refine w.iconst (0 : Int32) d0_56 rfl ?_
    refine w.iload d0_57 rfl ?_
    refine w.stC 0 [(.int 0)] d0_59 A_d ⟨by decide, by decide⟩ (by decide) (pad_rep [] (.int 0) 1) (by simp) (fnc _) (List.mem_of_getElem? (i := 0) rfl) ?_
    intro T h10 w W27 A28
    rw [y0] at A28
    have A29 : Arv Z h10 d kd .char (1 : Int32) [(.int c0)] (.int 0) := A28
    refine w.astore #[.val (.int i0), .val (.int i1), .val (.int i2), .val (.int i3), .val (.int i4), .val (.int (1 : Int32)), .val (.int c0), .val (.int c1), .val (.int c2), .val (.int c3), .val (.ref d), .unset, .unset] d0_60 rfl rfl ?_
    refine w.goto d0_62 d0_62t ?_
    have sz0 := w.size
    refine w.new d0_143 (tw hw 6 rfl) (tw hw 7 rfl) (tw hw 8 rfl) ⟨by decide, by decide⟩ ?_
    intro s T h11 g_s w E30 A31 D32
    have ne_d_s : d ≠ s := Nat.ne_of_lt (Nat.lt_of_lt_of_eq A29.lt g_s.symm)
    have ge_s : Z.heap.size ≤ s := by rw [g_s]; exact sz0
    have F33 := A29.ext E30
    have F34 : Fld Z h11 s "java/lang/String" "value" "[B" .null := D32 (Or.inr (tw hw 21 rfl)) (ty := (.array .byte)) (by decide)
    have F35 : Fld Z h11 s "java/lang/String" "coder" "B" (.int (0 : Int32)) := D32 (Or.inr (tw hw 22 rfl)) (ty := .byte) (by decide)
    refine w.dup d0_146 rfl ?_
    refine w.aload d0_147 rfl rfl ?_
    refine w.callI (argsL := [(.ref d)]) (rest := [(.ref s)]) 1 d0_149 rfl (tw hw 9 rfl) (tw hw 10 rfl) (tw hw 8 rfl) (tw hw 11 rfl) (by decide) (rmS1E_1 l Z a0 hw hr s d kd c0 h11 w.old ge_s A31 F34 F35 F33 z0 v0) (lenOf pd_10 rfl) rfl rfl (Nat.le_refl _) ⟨by decide, by decide, by decide, by decide⟩ (allS (List.mem_of_getElem? (i := 0) rfl) all0) ?_
    intro T h12 r w _ hQ
    obtain ⟨rfl, K_s, t, S_s⟩ := hQ
    show Go x _ Z _ _ _ T 152 #[.val (.int i0), .val (.int i1), .val (.int i2), .val (.int i3), .val (.int i4), .val (.int (1 : Int32)), .val (.int c0), .val (.int c1), .val (.int c2), .val (.int c3), .val (.ref d), .unset, .unset] [(.ref s)]
    refine w.astore #[.val (.int i0), .val (.int i1), .val (.int i2), .val (.int i3), .val (.int i4), .val (.int (1 : Int32)), .val (.int c0), .val (.int c1), .val (.int c2), .val (.int c3), .val (.ref d), .val (.ref s), .unset] d0_152 rfl rfl ?_
    refine w.iload d0_154 rfl ?_
    refine w.iconst (3 : Int32) d0_156 rfl ?_
    refine w.icmpNe d0_157 d0_157t (fun _ => ?_) (fun q => absurd q (by decide))
    refine w.iconst (0 : Int32) d0_188 rfl ?_
    refine w.istore #[.val (.int i0), .val (.int i1), .val (.int i2), .val (.int i3), .val (.int i4), .val (.int (1 : Int32)), .val (.int c0), .val (.int c1), .val (.int c2), .val (.int c3), .val (.ref d), .val (.ref s), .val (.int (0 : Int32))] d0_189 rfl ?_
    refine w.aload d0_191 rfl rfl ?_
    refine w.callS (argsL := [(.ref s)]) (rest := []) 0 d0_193 (tw hw 27 rfl) (tw hw 28 rfl) (tw hw 29 rfl) (tw hw 30 rfl) (by decide) (rmCC_1 l Z a0 hw hr s t c0 h12 w.old S_s) (lenOf pd_11 rfl) rfl rfl (Nat.le_refl _) ⟨by decide, by decide, by decide, by decide⟩ all0 ?_
    intro T h13 r w _ hQ
    obtain ⟨rfl, rfl⟩ := hQ
    show Go x _ Z _ _ _ T 196 #[.val (.int i0), .val (.int i1), .val (.int i2), .val (.int i3), .val (.int i4), .val (.int (1 : Int32)), .val (.int c0), .val (.int c1), .val (.int c2), .val (.int c3), .val (.ref d), .val (.ref s), .val (.int (0 : Int32))] [(.int (0 : Int32))]
    refine w.iload d0_196 rfl ?_
    refine w.icmpNe d0_198 d0_198t (fun q => absurd rfl q) (fun _ => ?_)
    refine w.iconst (1 : Int32) d0_201 rfl ?_
    refine w.goto d0_202 d0_202t ?_
    exact w.retN d0_206 rfl (by simp) rfl
  · refine w.iload d0_33 rfl ?_
    refine w.ifNe d0_35 d0_35t (fun _ => ?_) (fun q => absurd q (by decide))
    refine w.iload d0_46 rfl ?_
    refine w.iconst (1 : Int32) d0_48 rfl ?_
    refine w.icmpNe d0_49 d0_49t (fun _ => ?_) (fun q => absurd q (by decide))
    refine w.iload d0_65 rfl ?_
    refine w.iconst (2 : Int32) d0_67 rfl ?_
    refine w.icmpNe d0_68 d0_68t (fun q => absurd (by decide) q) (fun _ => ?_)
    refine w.iconst (2 : Int32) d0_71 rfl ?_
    have sz0 := w.size
    refine w.newP 2 "[C" d0_72 (tw hw 5 rfl) (by decide) (by decide) (by decide) (by decide) ⟨by decide, by decide⟩ ?_
    intro d T h14 kd g_d w E_d A_d X_d
    have ge_d : Z.heap.size ≤ d := by rw [g_d]; exact sz0
    refine w.dup d0_74 rfl ?_
    refine w.iconst (0 : Int32) d0_75 rfl ?_
    refine w.iload d0_76 rfl ?_
    refine w.stC 0 [(.int 0)] d0_78 A_d ⟨by decide, by decide⟩ (by decide) (pad_rep [] (.int 0) 1) (by simp) (fnc _) (List.mem_of_getElem? (i := 0) rfl) ?_
    intro T h15 w W36 A37
    rw [y0] at A37
    have A38 : Arv Z h15 d kd .char (2 : Int32) [(.int c0)] (.int 0) := A37
    refine w.dup d0_79 rfl ?_
    refine w.iconst (1 : Int32) d0_80 rfl ?_
    refine w.iload d0_81 rfl ?_
    refine w.stC 1 [(.int c0), (.int 0)] d0_83 A38 ⟨by decide, by decide⟩ (by decide) (pad_rep [(.int c0)] (.int 0) 1) (by simp) (fnc _) (List.mem_of_getElem? (i := 0) rfl) ?_
    intro T h16 w W39 A40
    rw [y1] at A40
    have A41 : Arv Z h16 d kd .char (2 : Int32) [(.int c0), (.int c1)] (.int 0) := A40
    refine w.astore #[.val (.int i0), .val (.int i1), .val (.int i2), .val (.int i3), .val (.int i4), .val (.int (2 : Int32)), .val (.int c0), .val (.int c1), .val (.int c2), .val (.int c3), .val (.ref d), .unset, .unset] d0_84 rfl rfl ?_
    refine w.goto d0_86 d0_86t ?_
    have sz0 := w.size
    refine w.new d0_143 (tw hw 6 rfl) (tw hw 7 rfl) (tw hw 8 rfl) ⟨by decide, by decide⟩ ?_
    intro s T h17 g_s w E42 A43 D44
    have ne_d_s : d ≠ s := Nat.ne_of_lt (Nat.lt_of_lt_of_eq A41.lt g_s.symm)
    have ge_s : Z.heap.size ≤ s := by rw [g_s]; exact sz0
    have F45 := A41.ext E42
    have F46 : Fld Z h17 s "java/lang/String" "value" "[B" .null := D44 (Or.inr (tw hw 21 rfl)) (ty := (.array .byte)) (by decide)
    have F47 : Fld Z h17 s "java/lang/String" "coder" "B" (.int (0 : Int32)) := D44 (Or.inr (tw hw 22 rfl)) (ty := .byte) (by decide)
    refine w.dup d0_146 rfl ?_
    refine w.aload d0_147 rfl rfl ?_
    refine w.callI (argsL := [(.ref d)]) (rest := [(.ref s)]) 1 d0_149 rfl (tw hw 9 rfl) (tw hw 10 rfl) (tw hw 8 rfl) (tw hw 11 rfl) (by decide) (rmS1E_2 l Z a0 hw hr s d kd c0 c1 h17 w.old ge_s A43 F46 F47 F45 z0 v0 z1 v1) (lenOf pd_10 rfl) rfl rfl (Nat.le_refl _) ⟨by decide, by decide, by decide, by decide⟩ (allS (List.mem_of_getElem? (i := 0) rfl) all0) ?_
    intro T h18 r w _ hQ
    obtain ⟨rfl, K_s, t, S_s⟩ := hQ
    show Go x _ Z _ _ _ T 152 #[.val (.int i0), .val (.int i1), .val (.int i2), .val (.int i3), .val (.int i4), .val (.int (2 : Int32)), .val (.int c0), .val (.int c1), .val (.int c2), .val (.int c3), .val (.ref d), .unset, .unset] [(.ref s)]
    refine w.astore #[.val (.int i0), .val (.int i1), .val (.int i2), .val (.int i3), .val (.int i4), .val (.int (2 : Int32)), .val (.int c0), .val (.int c1), .val (.int c2), .val (.int c3), .val (.ref d), .val (.ref s), .unset] d0_152 rfl rfl ?_
    refine w.iload d0_154 rfl ?_
    refine w.iconst (3 : Int32) d0_156 rfl ?_
    refine w.icmpNe d0_157 d0_157t (fun _ => ?_) (fun q => absurd q (by decide))
    refine w.iconst (0 : Int32) d0_188 rfl ?_
    refine w.istore #[.val (.int i0), .val (.int i1), .val (.int i2), .val (.int i3), .val (.int i4), .val (.int (2 : Int32)), .val (.int c0), .val (.int c1), .val (.int c2), .val (.int c3), .val (.ref d), .val (.ref s), .val (.int (0 : Int32))] d0_189 rfl ?_
    refine w.aload d0_191 rfl rfl ?_
    refine w.callS (argsL := [(.ref s)]) (rest := []) 0 d0_193 (tw hw 27 rfl) (tw hw 28 rfl) (tw hw 29 rfl) (tw hw 30 rfl) (by decide) (rmCC_2 l Z a0 hw hr s t c0 c1 h18 w.old S_s) (lenOf pd_11 rfl) rfl rfl (Nat.le_refl _) ⟨by decide, by decide, by decide, by decide⟩ all0 ?_
    intro T h19 r w _ hQ
    obtain ⟨rfl, rfl⟩ := hQ
    show Go x _ Z _ _ _ T 196 #[.val (.int i0), .val (.int i1), .val (.int i2), .val (.int i3), .val (.int i4), .val (.int (2 : Int32)), .val (.int c0), .val (.int c1), .val (.int c2), .val (.int c3), .val (.ref d), .val (.ref s), .val (.int (0 : Int32))] [(.int (0 : Int32))]
    refine w.iload d0_196 rfl ?_
    refine w.icmpNe d0_198 d0_198t (fun q => absurd rfl q) (fun _ => ?_)
    refine w.iconst (1 : Int32) d0_201 rfl ?_
    refine w.goto d0_202 d0_202t ?_
    exact w.retN d0_206 rfl (by simp) rfl
  · refine w.iload d0_33 rfl ?_
    refine w.ifNe d0_35 d0_35t (fun _ => ?_) (fun q => absurd q (by decide))
    refine w.iload d0_46 rfl ?_
    refine w.iconst (1 : Int32) d0_48 rfl ?_
    refine w.icmpNe d0_49 d0_49t (fun _ => ?_) (fun q => absurd q (by decide))
    refine w.iload d0_65 rfl ?_
    refine w.iconst (2 : Int32) d0_67 rfl ?_
    refine w.icmpNe d0_68 d0_68t (fun _ => ?_) (fun q => absurd q (by decide))
    refine w.iload d0_89 rfl ?_
    refine w.iconst (3 : Int32) d0_91 rfl ?_
    refine w.icmpNe d0_92 d0_92t (fun q => absurd (by decide) q) (fun _ => ?_)
    refine w.iconst (3 : Int32) d0_95 rfl ?_
    have sz0 := w.size
    refine w.newP 3 "[C" d0_96 (tw hw 5 rfl) (by decide) (by decide) (by decide) (by decide) ⟨by decide, by decide⟩ ?_
    intro d T h20 kd g_d w E_d A_d X_d
    have ge_d : Z.heap.size ≤ d := by rw [g_d]; exact sz0
    refine w.dup d0_98 rfl ?_
    refine w.iconst (0 : Int32) d0_99 rfl ?_
    refine w.iload d0_100 rfl ?_
    refine w.stC 0 [(.int 0)] d0_102 A_d ⟨by decide, by decide⟩ (by decide) (pad_rep [] (.int 0) 1) (by simp) (fnc _) (List.mem_of_getElem? (i := 0) rfl) ?_
    intro T h21 w W48 A49
    rw [y0] at A49
    have A50 : Arv Z h21 d kd .char (3 : Int32) [(.int c0)] (.int 0) := A49
    refine w.dup d0_103 rfl ?_
    refine w.iconst (1 : Int32) d0_104 rfl ?_
    refine w.iload d0_105 rfl ?_
    refine w.stC 1 [(.int c0), (.int 0)] d0_107 A50 ⟨by decide, by decide⟩ (by decide) (pad_rep [(.int c0)] (.int 0) 1) (by simp) (fnc _) (List.mem_of_getElem? (i := 0) rfl) ?_
    intro T h22 w W51 A52
    rw [y1] at A52
    have A53 : Arv Z h22 d kd .char (3 : Int32) [(.int c0), (.int c1)] (.int 0) := A52
    refine w.dup d0_108 rfl ?_
    refine w.iconst (2 : Int32) d0_109 rfl ?_
    refine w.iload d0_110 rfl ?_
    refine w.stC 2 [(.int c0), (.int c1), (.int 0)] d0_112 A53 ⟨by decide, by decide⟩ (by decide) (pad_rep [(.int c0), (.int c1)] (.int 0) 1) (by simp) (fnc _) (List.mem_of_getElem? (i := 0) rfl) ?_
    intro T h23 w W54 A55
    rw [y2] at A55
    have A56 : Arv Z h23 d kd .char (3 : Int32) [(.int c0), (.int c1), (.int c2)] (.int 0) := A55
    refine w.astore #[.val (.int i0), .val (.int i1), .val (.int i2), .val (.int i3), .val (.int i4), .val (.int (3 : Int32)), .val (.int c0), .val (.int c1), .val (.int c2), .val (.int c3), .val (.ref d), .unset, .unset] d0_113 rfl rfl ?_
    refine w.goto d0_115 d0_115t ?_
    have sz0 := w.size
    refine w.new d0_143 (tw hw 6 rfl) (tw hw 7 rfl) (tw hw 8 rfl) ⟨by decide, by decide⟩ ?_
    intro s T h24 g_s w E57 A58 D59
    have ne_d_s : d ≠ s := Nat.ne_of_lt (Nat.lt_of_lt_of_eq A56.lt g_s.symm)
    have ge_s : Z.heap.size ≤ s := by rw [g_s]; exact sz0
    have F60 := A56.ext E57
    have F61 : Fld Z h24 s "java/lang/String" "value" "[B" .null := D59 (Or.inr (tw hw 21 rfl)) (ty := (.array .byte)) (by decide)
    have F62 : Fld Z h24 s "java/lang/String" "coder" "B" (.int (0 : Int32)) := D59 (Or.inr (tw hw 22 rfl)) (ty := .byte) (by decide)
    refine w.dup d0_146 rfl ?_
    refine w.aload d0_147 rfl rfl ?_
    refine w.callI (argsL := [(.ref d)]) (rest := [(.ref s)]) 1 d0_149 rfl (tw hw 9 rfl) (tw hw 10 rfl) (tw hw 8 rfl) (tw hw 11 rfl) (by decide) (rmS1E_3 l Z a0 hw hr s d kd c0 c1 c2 h24 w.old ge_s A58 F61 F62 F60 z0 v0 z1 v1 z2 v2) (lenOf pd_10 rfl) rfl rfl (Nat.le_refl _) ⟨by decide, by decide, by decide, by decide⟩ (allS (List.mem_of_getElem? (i := 0) rfl) all0) ?_
    intro T h25 r w _ hQ
    obtain ⟨rfl, K_s, t, S_s⟩ := hQ
    show Go x _ Z _ _ _ T 152 #[.val (.int i0), .val (.int i1), .val (.int i2), .val (.int i3), .val (.int i4), .val (.int (3 : Int32)), .val (.int c0), .val (.int c1), .val (.int c2), .val (.int c3), .val (.ref d), .unset, .unset] [(.ref s)]
    refine w.astore #[.val (.int i0), .val (.int i1), .val (.int i2), .val (.int i3), .val (.int i4), .val (.int (3 : Int32)), .val (.int c0), .val (.int c1), .val (.int c2), .val (.int c3), .val (.ref d), .val (.ref s), .unset] d0_152 rfl rfl ?_
    refine w.iload d0_154 rfl ?_
    refine w.iconst (3 : Int32) d0_156 rfl ?_
    refine w.icmpNe d0_157 d0_157t (fun q => absurd rfl q) (fun _ => ?_)
    refine w.iload d0_160 rfl ?_
    refine w.callS (argsL := [(.int c0)]) (rest := []) 0 d0_162 (tw hw 52 rfl) (tw hw 53 rfl) (tw hw 2 rfl) (tw hw 54 rfl) (by decide) (rmCap l Z a0 hw c0 h25 w.old) (lenOf pd_18 rfl) rfl rfl (Nat.le_refl _) ⟨by decide, by decide, by decide, by decide⟩ all0 ?_
    intro T h26 r w _ hQ
    obtain ⟨rfl, rfl⟩ := hQ
    show Go x _ Z _ _ _ T 165 #[.val (.int i0), .val (.int i1), .val (.int i2), .val (.int i3), .val (.int i4), .val (.int (3 : Int32)), .val (.int c0), .val (.int c1), .val (.int c2), .val (.int c3), .val (.ref d), .val (.ref s), .unset] [(.int (if (¬ c0 < 65 ∧ ¬ 90 < c0) then 1 else 0))]
    refine w.ifEq d0_165 d0_165t (fun q0 => ?_) (fun q0 => ?_)
    · refine w.iconst (0 : Int32) d0_188 rfl ?_
      refine w.istore #[.val (.int i0), .val (.int i1), .val (.int i2), .val (.int i3), .val (.int i4), .val (.int (3 : Int32)), .val (.int c0), .val (.int c1), .val (.int c2), .val (.int c3), .val (.ref d), .val (.ref s), .val (.int (0 : Int32))] d0_189 rfl ?_
      refine w.aload d0_191 rfl rfl ?_
      refine w.callS (argsL := [(.ref s)]) (rest := []) 0 d0_193 (tw hw 27 rfl) (tw hw 28 rfl) (tw hw 29 rfl) (tw hw 30 rfl) (by decide) (rmCC_3 l Z a0 hw hr s t c0 c1 c2 h25 w.old S_s z0 v0 z1 v1 z2 v2 y0 y1 y2) (lenOf pd_11 rfl) rfl rfl (Nat.le_refl _) ⟨by decide, by decide, by decide, by decide⟩ all0 ?_
      intro T h27 r w _ hQ
      obtain ⟨rfl, rfl⟩ := hQ
      show Go x _ Z _ _ _ T 196 #[.val (.int i0), .val (.int i1), .val (.int i2), .val (.int i3), .val (.int i4), .val (.int (3 : Int32)), .val (.int c0), .val (.int c1), .val (.int c2), .val (.int c3), .val (.ref d), .val (.ref s), .val (.int (0 : Int32))] [(.int (if (¬ c0 < 65 ∧ ¬ 90 < c0) ∧ (¬ c1 < 65 ∧ ¬ 90 < c1) ∧ (¬ c2 < 65 ∧ ¬ 90 < c2) then 1 else 0))]
      refine w.iload d0_196 rfl ?_
      refine w.icmpNe d0_198 d0_198t (fun q => absurd (if_neg (fun e => own_if0 q0 e.1)) q) (fun _ => ?_)
      refine w.iconst (1 : Int32) d0_201 rfl ?_
      refine w.goto d0_202 d0_202t ?_
      exact w.retN d0_206 rfl (by simp) rfl
    · refine w.iload d0_168 rfl ?_
      refine w.callS (argsL := [(.int c1)]) (rest := []) 0 d0_170 (tw hw 52 rfl) (tw hw 53 rfl) (tw hw 2 rfl) (tw hw 54 rfl) (by decide) (rmCap l Z a0 hw c1 h25 w.old) (lenOf pd_18 rfl) rfl rfl (Nat.le_refl _) ⟨by decide, by decide, by decide, by decide⟩ all0 ?_
      intro T h28 r w _ hQ
      obtain ⟨rfl, rfl⟩ := hQ
      show Go x _ Z _ _ _ T 173 #[.val (.int i0), .val (.int i1), .val (.int i2), .val (.int i3), .val (.int i4), .val (.int (3 : Int32)), .val (.int c0), .val (.int c1), .val (.int c2), .val (.int c3), .val (.ref d), .val (.ref s), .unset] [(.int (if (¬ c1 < 65 ∧ ¬ 90 < c1) then 1 else 0))]
      refine w.ifEq d0_173 d0_173t (fun q1 => ?_) (fun q1 => ?_)
      · refine w.iconst (0 : Int32) d0_188 rfl ?_
        refine w.istore #[.val (.int i0), .val (.int i1), .val (.int i2), .val (.int i3), .val (.int i4), .val (.int (3 : Int32)), .val (.int c0), .val (.int c1), .val (.int c2), .val (.int c3), .val (.ref d), .val (.ref s), .val (.int (0 : Int32))] d0_189 rfl ?_
        refine w.aload d0_191 rfl rfl ?_
        refine w.callS (argsL := [(.ref s)]) (rest := []) 0 d0_193 (tw hw 27 rfl) (tw hw 28 rfl) (tw hw 29 rfl) (tw hw 30 rfl) (by decide) (rmCC_3 l Z a0 hw hr s t c0 c1 c2 h25 w.old S_s z0 v0 z1 v1 z2 v2 y0 y1 y2) (lenOf pd_11 rfl) rfl rfl (Nat.le_refl _) ⟨by decide, by decide, by decide, by decide⟩ all0 ?_
        intro T h29 r w _ hQ
        obtain ⟨rfl, rfl⟩ := hQ
        show Go x _ Z _ _ _ T 196 #[.val (.int i0), .val (.int i1), .val (.int i2), .val (.int i3), .val (.int i4), .val (.int (3 : Int32)), .val (.int c0), .val (.int c1), .val (.int c2), .val (.int c3), .val (.ref d), .val (.ref s), .val (.int (0 : Int32))] [(.int (if (¬ c0 < 65 ∧ ¬ 90 < c0) ∧ (¬ c1 < 65 ∧ ¬ 90 < c1) ∧ (¬ c2 < 65 ∧ ¬ 90 < c2) then 1 else 0))]
        refine w.iload d0_196 rfl ?_
        refine w.icmpNe d0_198 d0_198t (fun q => absurd (if_neg (fun e => own_if0 q1 e.2.1)) q) (fun _ => ?_)
        refine w.iconst (1 : Int32) d0_201 rfl ?_
        refine w.goto d0_202 d0_202t ?_
        exact w.retN d0_206 rfl (by simp) rfl
      · refine w.iload d0_176 rfl ?_
        refine w.callS (argsL := [(.int c2)]) (rest := []) 0 d0_178 (tw hw 52 rfl) (tw hw 53 rfl) (tw hw 2 rfl) (tw hw 54 rfl) (by decide) (rmCap l Z a0 hw c2 h25 w.old) (lenOf pd_18 rfl) rfl rfl (Nat.le_refl _) ⟨by decide, by decide, by decide, by decide⟩ all0 ?_
        intro T h30 r w _ hQ
        obtain ⟨rfl, rfl⟩ := hQ
        show Go x _ Z _ _ _ T 181 #[.val (.int i0), .val (.int i1), .val (.int i2), .val (.int i3), .val (.int i4), .val (.int (3 : Int32)), .val (.int c0), .val (.int c1), .val (.int c2), .val (.int c3), .val (.ref d), .val (.ref s), .unset] [(.int (if (¬ c2 < 65 ∧ ¬ 90 < c2) then 1 else 0))]
        refine w.ifEq d0_181 d0_181t (fun q2 => ?_) (fun q2 => ?_)
        · refine w.iconst (0 : Int32) d0_188 rfl ?_
          refine w.istore #[.val (.int i0), .val (.int i1), .val (.int i2), .val (.int i3), .val (.int i4), .val (.int (3 : Int32)), .val (.int c0), .val (.int c1), .val (.int c2), .val (.int c3), .val (.ref d), .val (.ref s), .val (.int (0 : Int32))] d0_189 rfl ?_
          refine w.aload d0_191 rfl rfl ?_
          refine w.callS (argsL := [(.ref s)]) (rest := []) 0 d0_193 (tw hw 27 rfl) (tw hw 28 rfl) (tw hw 29 rfl) (tw hw 30 rfl) (by decide) (rmCC_3 l Z a0 hw hr s t c0 c1 c2 h25 w.old S_s z0 v0 z1 v1 z2 v2 y0 y1 y2) (lenOf pd_11 rfl) rfl rfl (Nat.le_refl _) ⟨by decide, by decide, by decide, by decide⟩ all0 ?_
          intro T h31 r w _ hQ
          obtain ⟨rfl, rfl⟩ := hQ
          show Go x _ Z _ _ _ T 196 #[.val (.int i0), .val (.int i1), .val (.int i2), .val (.int i3), .val (.int i4), .val (.int (3 : Int32)), .val (.int c0), .val (.int c1), .val (.int c2), .val (.int c3), .val (.ref d), .val (.ref s), .val (.int (0 : Int32))] [(.int (if (¬ c0 < 65 ∧ ¬ 90 < c0) ∧ (¬ c1 < 65 ∧ ¬ 90 < c1) ∧ (¬ c2 < 65 ∧ ¬ 90 < c2) then 1 else 0))]
          refine w.iload d0_196 rfl ?_
          refine w.icmpNe d0_198 d0_198t (fun q => absurd (if_neg (fun e => own_if0 q2 e.2.2)) q) (fun _ => ?_)
          refine w.iconst (1 : Int32) d0_201 rfl ?_
          refine w.goto d0_202 d0_202t ?_
          exact w.retN d0_206 rfl (by simp) rfl
        · refine w.iconst (1 : Int32) d0_184 rfl ?_
          refine w.goto d0_185 d0_185t ?_
          refine w.istore #[.val (.int i0), .val (.int i1), .val (.int i2), .val (.int i3), .val (.int i4), .val (.int (3 : Int32)), .val (.int c0), .val (.int c1), .val (.int c2), .val (.int c3), .val (.ref d), .val (.ref s), .val (.int (1 : Int32))] d0_189 rfl ?_
          refine w.aload d0_191 rfl rfl ?_
          refine w.callS (argsL := [(.ref s)]) (rest := []) 0 d0_193 (tw hw 27 rfl) (tw hw 28 rfl) (tw hw 29 rfl) (tw hw 30 rfl) (by decide) (rmCC_3 l Z a0 hw hr s t c0 c1 c2 h25 w.old S_s z0 v0 z1 v1 z2 v2 y0 y1 y2) (lenOf pd_11 rfl) rfl rfl (Nat.le_refl _) ⟨by decide, by decide, by decide, by decide⟩ all0 ?_
          intro T h32 r w _ hQ
          obtain ⟨rfl, rfl⟩ := hQ
          show Go x _ Z _ _ _ T 196 #[.val (.int i0), .val (.int i1), .val (.int i2), .val (.int i3), .val (.int i4), .val (.int (3 : Int32)), .val (.int c0), .val (.int c1), .val (.int c2), .val (.int c3), .val (.ref d), .val (.ref s), .val (.int (1 : Int32))] [(.int (if (¬ c0 < 65 ∧ ¬ 90 < c0) ∧ (¬ c1 < 65 ∧ ¬ 90 < c1) ∧ (¬ c2 < 65 ∧ ¬ 90 < c2) then 1 else 0))]
          refine w.iload d0_196 rfl ?_
          refine w.icmpNe d0_198 d0_198t (fun q => absurd (if_pos ⟨own_if1 q0, own_if1 q1, own_if1 q2⟩) q) (fun _ => ?_)
          refine w.iconst (1 : Int32) d0_201 rfl ?_
          refine w.goto d0_202 d0_202t ?_
          exact w.retN d0_206 rfl (by simp) rfl
  · refine w.iload d0_33 rfl ?_
    refine w.ifNe d0_35 d0_35t (fun _ => ?_) (fun q => absurd q (by decide))
    refine w.iload d0_46 rfl ?_
    refine w.iconst (1 : Int32) d0_48 rfl ?_
    refine w.icmpNe d0_49 d0_49t (fun _ => ?_) (fun q => absurd q (by decide))
    refine w.iload d0_65 rfl ?_
    refine w.iconst (2 : Int32) d0_67 rfl ?_
    refine w.icmpNe d0_68 d0_68t (fun _ => ?_) (fun q => absurd q (by decide))
    refine w.iload d0_89 rfl ?_
    refine w.iconst (3 : Int32) d0_91 rfl ?_
    refine w.icmpNe d0_92 d0_92t (fun _ => ?_) (fun q => absurd q (by decide))
    refine w.iconst (4 : Int32) d0_118 rfl ?_
    have sz0 := w.size
    refine w.newP 4 "[C" d0_119 (tw hw 5 rfl) (by decide) (by decide) (by decide) (by decide) ⟨by decide, by decide⟩ ?_
    intro d T h33 kd g_d w E_d A_d X_d
    have ge_d : Z.heap.size ≤ d := by rw [g_d]; exact sz0
    refine w.dup d0_121 rfl ?_
    refine w.iconst (0 : Int32) d0_122 rfl ?_
    refine w.iload d0_123 rfl ?_
    refine w.stC 0 [(.int 0)] d0_125 A_d ⟨by decide, by decide⟩ (by decide) (pad_rep [] (.int 0) 1) (by simp) (fnc _) (List.mem_of_getElem? (i := 0) rfl) ?_
    intro T h34 w W63 A64
    rw [y0] at A64
    have A65 : Arv Z h34 d kd .char (4 : Int32) [(.int c0)] (.int 0) := A64
    refine w.dup d0_126 rfl ?_
    refine w.iconst (1 : Int32) d0_127 rfl ?_
    refine w.iload d0_128 rfl ?_
    refine w.stC 1 [(.int c0), (.int 0)] d0_130 A65 ⟨by decide, by decide⟩ (by decide) (pad_rep [(.int c0)] (.int 0) 1) (by simp) (fnc _) (List.mem_of_getElem? (i := 0) rfl) ?_
    intro T h35 w W66 A67
    rw [y1] at A67
    have A68 : Arv Z h35 d kd .char (4 : Int32) [(.int c0), (.int c1)] (.int 0) := A67
    refine w.dup d0_131 rfl ?_
    refine w.iconst (2 : Int32) d0_132 rfl ?_
    refine w.iload d0_133 rfl ?_
    refine w.stC 2 [(.int c0), (.int c1), (.int 0)] d0_135 A68 ⟨by decide, by decide⟩ (by decide) (pad_rep [(.int c0), (.int c1)] (.int 0) 1) (by simp) (fnc _) (List.mem_of_getElem? (i := 0) rfl) ?_
    intro T h36 w W69 A70
    rw [y2] at A70
    have A71 : Arv Z h36 d kd .char (4 : Int32) [(.int c0), (.int c1), (.int c2)] (.int 0) := A70
    refine w.dup d0_136 rfl ?_
    refine w.iconst (3 : Int32) d0_137 rfl ?_
    refine w.iload d0_138 rfl ?_
    refine w.stC 3 [(.int c0), (.int c1), (.int c2), (.int 0)] d0_140 A71 ⟨by decide, by decide⟩ (by decide) (pad_rep [(.int c0), (.int c1), (.int c2)] (.int 0) 1) (by simp) (fnc _) (List.mem_of_getElem? (i := 0) rfl) ?_
    intro T h37 w W72 A73
    rw [y3] at A73
    have A74 : Arv Z h37 d kd .char (4 : Int32) [(.int c0), (.int c1), (.int c2), (.int c3)] (.int 0) := A73
    refine w.astore #[.val (.int i0), .val (.int i1), .val (.int i2), .val (.int i3), .val (.int i4), .val (.int (4 : Int32)), .val (.int c0), .val (.int c1), .val (.int c2), .val (.int c3), .val (.ref d), .unset, .unset] d0_141 rfl rfl ?_
    have sz0 := w.size
    refine w.new d0_143 (tw hw 6 rfl) (tw hw 7 rfl) (tw hw 8 rfl) ⟨by decide, by decide⟩ ?_
    intro s T h38 g_s w E75 A76 D77
    have ne_d_s : d ≠ s := Nat.ne_of_lt (Nat.lt_of_lt_of_eq A74.lt g_s.symm)
    have ge_s : Z.heap.size ≤ s := by rw [g_s]; exact sz0
    have F78 := A74.ext E75
    have F79 : Fld Z h38 s "java/lang/String" "value" "[B" .null := D77 (Or.inr (tw hw 21 rfl)) (ty := (.array .byte)) (by decide)
    have F80 : Fld Z h38 s "java/lang/String" "coder" "B" (.int (0 : Int32)) := D77 (Or.inr (tw hw 22 rfl)) (ty := .byte) (by decide)
    refine w.dup d0_146 rfl ?_
    refine w.aload d0_147 rfl rfl ?_
    refine w.callI (argsL := [(.ref d)]) (rest := [(.ref s)]) 1 d0_149 rfl (tw hw 9 rfl) (tw hw 10 rfl) (tw hw 8 rfl) (tw hw 11 rfl) (by decide) (rmS1E_4 l Z a0 hw hr s d kd c0 c1 c2 c3 h38 w.old ge_s A76 F79 F80 F78 z0 v0 z1 v1 z2 v2 z3 v3) (lenOf pd_10 rfl) rfl rfl (Nat.le_refl _) ⟨by decide, by decide, by decide, by decide⟩ (allS (List.mem_of_getElem? (i := 0) rfl) all0) ?_
    intro T h39 r w _ hQ
    obtain ⟨rfl, K_s, t, S_s⟩ := hQ
    show Go x _ Z _ _ _ T 152 #[.val (.int i0), .val (.int i1), .val (.int i2), .val (.int i3), .val (.int i4), .val (.int (4 : Int32)), .val (.int c0), .val (.int c1), .val (.int c2), .val (.int c3), .val (.ref d), .unset, .unset] [(.ref s)]
    refine w.astore #[.val (.int i0), .val (.int i1), .val (.int i2), .val (.int i3), .val (.int i4), .val (.int (4 : Int32)), .val (.int c0), .val (.int c1), .val (.int c2), .val (.int c3), .val (.ref d), .val (.ref s), .unset] d0_152 rfl rfl ?_
    refine w.iload d0_154 rfl ?_
    refine w.iconst (3 : Int32) d0_156 rfl ?_
    refine w.icmpNe d0_157 d0_157t (fun _ => ?_) (fun q => absurd q (by decide))
    refine w.iconst (0 : Int32) d0_188 rfl ?_
    refine w.istore #[.val (.int i0), .val (.int i1), .val (.int i2), .val (.int i3), .val (.int i4), .val (.int (4 : Int32)), .val (.int c0), .val (.int c1), .val (.int c2), .val (.int c3), .val (.ref d), .val (.ref s), .val (.int (0 : Int32))] d0_189 rfl ?_
    refine w.aload d0_191 rfl rfl ?_
    refine w.callS (argsL := [(.ref s)]) (rest := []) 0 d0_193 (tw hw 27 rfl) (tw hw 28 rfl) (tw hw 29 rfl) (tw hw 30 rfl) (by decide) (rmCC_4 l Z a0 hw hr s t c0 c1 c2 c3 h39 w.old S_s) (lenOf pd_11 rfl) rfl rfl (Nat.le_refl _) ⟨by decide, by decide, by decide, by decide⟩ all0 ?_
    intro T h40 r w _ hQ
    obtain ⟨rfl, rfl⟩ := hQ
    show Go x _ Z _ _ _ T 196 #[.val (.int i0), .val (.int i1), .val (.int i2), .val (.int i3), .val (.int i4), .val (.int (4 : Int32)), .val (.int c0), .val (.int c1), .val (.int c2), .val (.int c3), .val (.ref d), .val (.ref s), .val (.int (0 : Int32))] [(.int (0 : Int32))]
    refine w.iload d0_196 rfl ?_
    refine w.icmpNe d0_198 d0_198t (fun q => absurd rfl q) (fun _ => ?_)
    refine w.iconst (1 : Int32) d0_201 rfl ?_
    refine w.goto d0_202 d0_202t ?_
    exact w.retN d0_206 rfl (by simp) rfl

set_option maxRecDepth 65536 in
set_option maxHeartbeats 40000000 in
theorem comes_1 {Post : Tables → Env → Array Value → State → Outcome → State → Prop} (hpost : ∀ tb e args s v u, (limb_1_1.after args s (.returned v) u = true ∧ limb_1_2.after args s (.returned v) u = true) → ReturnedEndW s (.returned v) u (Jvm.fieldLocs frame_1_writes args s ++ Jvm.arrayLocs frame_1_arrays args s ++ Jvm.staticLocs frame_1_statics s) 24 1152 → Post tb e args s (.returned v) u) :
    ArmFor flags0 classFile x code maxLocals ret World_1 tables_1 room_1 Calls_1 rest_1 Pre_1 Post := by
  intro l hfl _ _ p e ha hc hk s m args below hf hA hF happ hP
  obtain ⟨hcalls, hrest, hpre⟩ := hP
  obtain ⟨-, -, -, hnamed, -, -, -, hat⟩ := (Spec.applies_iff hf).mp happ
  obtain ⟨hg, hn⟩ := and_e (Cond.before_iff.mp (show (Jvm.Cond.and given_1 narrow_1).before args s = true from hpre))
  obtain ⟨hc0, hg⟩ := and_e hg
  obtain ⟨w0, w1, w2, w3, w4, rfl⟩ : ∃ w0 w1 w2 w3 w4 : Value, args = #[w0, w1, w2, w3, w4] := by
    have hs : args.size = 5 := by simpa [Cond.value] using hc0
    obtain ⟨L⟩ := args
    match L, hs with
    | [w0, w1, w2, w3, w4], _ => exact ⟨w0, w1, w2, w3, w4, rfl⟩
  have hw := fun d (hd : d ∈ tables_1) => atoms_spec (ws := Jvm.Cond.code x code maxLocals ret :: tables_1) hat d (List.mem_cons_of_mem _ hd)
  have hfit : Fit s := fit_of hF
  obtain ⟨hg0, hg⟩ := and_e hg
  obtain ⟨i0, e0⟩ := is_v hg0
  obtain rfl : w0 = (.int i0) := Option.some.inj e0
  obtain ⟨hg1, hg⟩ := and_e hg
  obtain ⟨i1, e1⟩ := is_v hg1
  obtain rfl : w1 = (.int i1) := Option.some.inj e1
  obtain ⟨hg2, hg⟩ := and_e hg
  obtain ⟨i2, e2⟩ := is_v hg2
  obtain rfl : w2 = (.int i2) := Option.some.inj e2
  obtain ⟨hg3, hg⟩ := and_e hg
  obtain ⟨i3, e3⟩ := is_v hg3
  obtain rfl : w3 = (.int i3) := Option.some.inj e3
  obtain ⟨i4, e4⟩ := is_v hg
  obtain rfl : w4 = (.int i4) := Option.some.inj e4
  obtain ⟨n, o, h1, h2, h3, _, L, rfl, ⟨rfl, N, -, -⟩, hq⟩ := rm0 l s _ hw (Cond.before_iff.mp hrest) i0 i1 i2 i3 i4 s.heap (ext_refl _) p e ha hc hk s m _ below hf ((Spec.applies_iff_loose hf).mp happ).1 ⟨rfl, State.Warmed39.refl s, rfl, fun _ => ⟨CHv.start (own_EW hw) (own_held hcalls) (nw (Cond.before_iff.mp hrest) 2 rfl |> Cond.before_iff.mpr) (tw hw 20 rfl) (tw hw 7 rfl), (fun _ q => nomatch q)⟩⟩ trivial
  refine ⟨n, _, h1, h2, h3, hpost _ _ _ _ _ _ ⟨Cond.after_iff.mpr rfl, Cond.after_iff.mpr (eq_i res_at (Term.int_eval (1)) rfl)⟩ ⟨hq.2.1, hq.2.2.1, hq.2.2.2.1, (hq.2.2.2.2.sift fun y hy => Or.inr (N y hy)).mono (by decide) (by decide)⟩⟩
theorem main_1_1 : Claimed_1_1 := comes_1 fun _ _ _ _ _ _ h hF => ⟨h.1, hF⟩
theorem main_1_2 : Claimed_1_2 := comes_1 fun _ _ _ _ _ _ h hF => ⟨h.2, hF⟩
end Jvm.Pilot.@@N@@
namespace Jvm.Pilot.@@N@@
open Jvm Jvm.ClassFile Sem Op Lib Jvm.Free Jvm.Stand Jvm.Pilot.@@N@@.Jvm.D
/-! MADE BY PROGRAM (witnessworld.py) out of the Statement's table words and the real class files: 21 classes; the members and pool entries that the words name. The judged class is class 1, her method 1. -/
namespace start1
open Jvm.ClassFile
def u (s : String) : CpInfo := .utf8 (stringToUtf16 s)
/-- a pool by its gaps: so many unusable entries, then the entry; so many at the end -/
def gap : Nat → List CpInfo → List CpInfo
  | 0, r => r
  | n + 1, r => .unusable :: gap n r
def poolList (es : List (Nat × CpInfo)) (last : Nat) : List CpInfo := es.foldr (fun e r => gap e.1 (e.2 :: r)) (gap last [])
def pool (es : List (Nat × CpInfo)) (last : Nat) : Array CpInfo := ⟨poolList es last⟩
def fileOf (pool : Array CpInfo) (this : Nat) (attrs : Array Attribute := #[]) (ms : Array MethodInfo := #[]) (fl : Nat := 33) (sup : Nat := 0) (ifs : Array Nat := #[]) (fds : Array FieldInfo := #[]) : ClassFile where
  minorVersion := 0
  majorVersion := 65
  constantPool := pool
  accessFlags := fl
  thisClass := this
  superClass := sup
  interfaces := ifs
  fields := fds
  methods := ms
  attributes := attrs
def plain (name : String) (sup : Option ClassId) : Class where
  name := name
  kind := .ordinary
  loader := none
  accessFlags := 33
  super := sup
  interfaces := #[]
  cf := none
  fields := #[]
  methods := #[]
  instanceTypes := #[]
  staticTypes := #[]
  resolved := #[]
  callSites := []
  init := .initialized
  statics := none
  mirror := none

def pool0 : Array CpInfo := pool [(5, u "<init>"), (0, u "()V"), (1, .class_ 10), (1, u "java/lang/Object")] 113

def k0c0 : Code := { maxStack := 0, maxLocals := 1, code := object_method_1_code, exceptionTable := #[], attributes := #[] }
def k0m0 : Method := { name := "<init>", desc := "()V", sig := { parameters := [], returnType := none }, accessFlags := 1, code := some k0c0 }
/-- java/lang/Object -/
def k0 : Class := { plain "java/lang/Object" none with
  accessFlags := 33
  interfaces := #[]
  cf := some (fileOf pool0 8 #[] #[{ accessFlags := 1, nameIndex := 5, descriptorIndex := 6, attributes := #[] }] 33 0 #[] #[])
  fields := #[]
  methods := #[k0m0]
  instanceTypes := #[]
  staticTypes := #[]
  resolved := Array.replicate 124 none
  statics := none }

def pool1 : Array CpInfo := pool [(2, .class_ 4), (1, u "java/lang/Object"), (0, u "<init>"), (0, u "()V"), (0, .methodref 8 9), (0, .class_ 10), (0, .nameAndType 11 12), (0, u "com/example/tenorloom/tenorloom/bond/BondIsCurrencyCodePinLaw"), (0, u "draw"), (0, u "(I)C"), (0, .class_ 14), (0, u "java/lang/String"), (0, .methodref 13 16), (0, .nameAndType 5 17), (0, u "([C)V"), (0, .methodref 8 19), (0, .nameAndType 20 21), (0, u "cap"), (0, u "(C)Z"), (0, .methodref 23 24), (0, .class_ 25), (0, .nameAndType 26 27), (0, u "com/example/tenorloom/tenorloom/bond/Bond"), (0, u "isCurrencyCode"), (0, u "(Ljava/lang/String;)Z"), (0, .integer 65535), (2, u "law"), (0, u "(IIIII)Z")] 5

def k1m0 : Method := { name := "<init>", desc := "()V", sig := { parameters := [], returnType := none }, accessFlags := 1, code := none }
def k1c1 : Code := { maxStack := 4, maxLocals := 13, code := code, exceptionTable := #[], attributes := #[] }
def k1m1 : Method := { name := "law", desc := "(IIIII)Z", sig := { parameters := [.int, .int, .int, .int, .int], returnType := some .boolean }, accessFlags := 9, code := some k1c1 }
def k1c2 : Code := { maxStack := 3, maxLocals := 1, code := method_3_code, exceptionTable := #[], attributes := #[] }
def k1m2 : Method := { name := "draw", desc := "(I)C", sig := { parameters := [.int], returnType := some .char }, accessFlags := 10, code := some k1c2 }
def k1c3 : Code := { maxStack := 2, maxLocals := 1, code := method_4_code, exceptionTable := #[], attributes := #[] }
def k1m3 : Method := { name := "cap", desc := "(C)Z", sig := { parameters := [.char], returnType := some .boolean }, accessFlags := 10, code := some k1c3 }
/-- com/example/tenorloom/tenorloom/bond/BondIsCurrencyCodePinLaw -/
def k1 : Class := { plain "com/example/tenorloom/tenorloom/bond/BondIsCurrencyCodePinLaw" (some 0) with
  accessFlags := 49
  interfaces := #[]
  cf := some (fileOf pool1 8 #[] #[{ accessFlags := 1, nameIndex := 5, descriptorIndex := 6, attributes := #[] }, { accessFlags := 9, nameIndex := 31, descriptorIndex := 32, attributes := #[] }, { accessFlags := 10, nameIndex := 11, descriptorIndex := 12, attributes := #[] }, { accessFlags := 10, nameIndex := 20, descriptorIndex := 21, attributes := #[] }] 49 2 #[] #[])
  fields := #[]
  methods := #[k1m0, k1m1, k1m2, k1m3]
  instanceTypes := #[]
  staticTypes := #[]
  resolved := Array.replicate 38 none
  statics := none }

def pool2 : Array CpInfo := pool [(1, .class_ 2), (0, u "java/io/Serializable"), (0, .class_ 4), (0, u "java/lang/Object")] 2

/-- java/io/Serializable -/
def k2 : Class := { plain "java/io/Serializable" (some 0) with
  accessFlags := 1537
  interfaces := #[]
  cf := some (fileOf pool2 1 #[] #[] 1537 3 #[] #[])
  fields := #[]
  methods := #[]
  instanceTypes := #[]
  staticTypes := #[]
  resolved := Array.replicate 7 none
  statics := none }

def pool3 : Array CpInfo := pool [(1, .class_ 2), (0, u "java/lang/Comparable"), (0, .class_ 4), (0, u "java/lang/Object")] 7

/-- java/lang/Comparable -/
def k3 : Class := { plain "java/lang/Comparable" (some 0) with
  accessFlags := 1537
  interfaces := #[]
  cf := some (fileOf pool3 1 #[] #[] 1537 3 #[] #[])
  fields := #[]
  methods := #[]
  instanceTypes := #[]
  staticTypes := #[]
  resolved := Array.replicate 12 none
  statics := none }

def pool4 : Array CpInfo := pool [(2, .class_ 4), (1, u "java/lang/CharSequence"), (42, .class_ 48), (0, u "java/lang/CharSequence$1CodePointIterator"), (10, .class_ 60), (0, u "java/lang/CharSequence$1CharIterator"), (5, .class_ 67), (0, u "java/lang/Object")] 63

/-- java/lang/CharSequence -/
def k4 : Class := { plain "java/lang/CharSequence" (some 0) with
  accessFlags := 1537
  interfaces := #[]
  cf := some (fileOf pool4 2 #[.nestMembers #[47, 59]] #[] 1537 66 #[] #[])
  fields := #[]
  methods := #[]
  instanceTypes := #[]
  staticTypes := #[]
  resolved := Array.replicate 131 none
  statics := none }

def pool5 : Array CpInfo := pool [(1, .class_ 2), (0, u "java/lang/constant/Constable"), (0, .class_ 4), (0, u "java/lang/Object")] 6

/-- java/lang/constant/Constable -/
def k5 : Class := { plain "java/lang/constant/Constable" (some 0) with
  accessFlags := 1537
  interfaces := #[]
  cf := some (fileOf pool5 1 #[] #[] 1537 3 #[] #[])
  fields := #[]
  methods := #[]
  instanceTypes := #[]
  staticTypes := #[]
  resolved := Array.replicate 11 none
  statics := none }

def pool6 : Array CpInfo := pool [(1, .class_ 2), (0, u "java/lang/constant/ConstantDesc"), (0, .class_ 4), (0, u "java/lang/Object")] 32

/-- java/lang/constant/ConstantDesc -/
def k6 : Class := { plain "java/lang/constant/ConstantDesc" (some 0) with
  accessFlags := 1537
  interfaces := #[]
  cf := some (fileOf pool6 1 #[] #[] 1537 3 #[] #[])
  fields := #[]
  methods := #[]
  instanceTypes := #[]
  staticTypes := #[]
  resolved := Array.replicate 37 none
  statics := none }

def pool7 : Array CpInfo := pool [(1, .methodref 2 3), (0, .class_ 4), (0, .nameAndType 5 6), (0, u "java/lang/Object"), (0, u "<init>"), (0, u "()V"), (0, .string 8), (0, u ""), (0, .fieldref 10 11), (0, .class_ 12), (0, .nameAndType 13 14), (0, u "java/lang/String"), (0, u "value"), (0, u "[B"), (0, .fieldref 10 16), (0, .nameAndType 17 18), (0, u "coder"), (0, u "B"), (2, u "hash"), (0, u "I"), (2, u "hashIsZero"), (0, u "Z"), (0, .methodref 10 28), (0, .nameAndType 5 29), (0, u "([CIILjava/lang/Void;)V"), (8, .fieldref 10 39), (0, .nameAndType 40 26), (0, u "COMPACT_STRINGS"), (1, .class_ 44), (1, u "java/lang/StringUTF16"), (0, u "compress"), (1, .methodref 42 48), (0, .nameAndType 49 50), (0, u "coderFromArrayLen"), (0, u "([BI)B"), (56, .class_ 109), (1, u "java/lang/StringLatin1"), (32, u "()Z"), (34, .methodref 42 178), (0, .nameAndType 45 179), (0, u "([CII)[B"), (154, u "()I"), (0, .methodref 10 336), (0, .nameAndType 17 337), (0, u "()B"), (25, u "([BI)C"), (27, u "(II)V"), (35, u "(I)C"), (64, .methodref 10 493), (0, .nameAndType 494 142), (0, u "isLatin1"), (0, .methodref 107 496), (0, .nameAndType 497 363), (0, u "charAt"), (0, .methodref 42 496), (2, u "checkIndex"), (5, u "length"), (67, .class_ 576), (0, u "java/lang/CharSequence"), (22, u "CASE_INSENSITIVE_ORDER"), (0, u "Ljava/util/Comparator;"), (409, u "([C)V"), (42, .fieldref 1054 1055), (0, .class_ 1056), (0, .nameAndType 1057 1058), (0, u "jdk/internal/util/Preconditions"), (0, u "SIOOBE_FORMATTER"), (0, u "Ljava/util/function/BiFunction;"), (0, .methodref 1054 1060), (0, .nameAndType 501 1061), (0, u "(IILjava/util/function/BiFunction;)I"), (39, u "serialPersistentFields"), (0, u "[Ljava/io/ObjectStreamField;"), (0, .class_ 1104), (0, u "java/lang/String$CaseInsensitiveComparator"), (1, .class_ 1107), (0, u "java/io/Serializable"), (0, .class_ 1109), (0, u "java/lang/Comparable"), (0, .class_ 1111), (0, u "java/lang/constant/Constable"), (0, .class_ 1113), (0, u "java/lang/constant/ConstantDesc"), (2, u "serialVersionUID"), (0, u "J"), (3, u "REPL"), (0, u "C"), (2, u "LATIN1"), (1, u "UTF16")] 323

def k7m0 : Method := { name := "<init>", desc := "()V", sig := { parameters := [], returnType := none }, accessFlags := 1, code := none }
def k7c1 : Code := { maxStack := 5, maxLocals := 2, code := jdk_42_method_3_code, exceptionTable := #[], attributes := #[] }
def k7m1 : Method := { name := "<init>", desc := "([C)V", sig := { parameters := [(.array .char)], returnType := none }, accessFlags := 1, code := some k7c1 }
def k7c2 : Code := { maxStack := 2, maxLocals := 1, code := jdk_42_method_54_code, exceptionTable := #[], attributes := #[] }
def k7m2 : Method := { name := "length", desc := "()I", sig := { parameters := [], returnType := some .int }, accessFlags := 1, code := some k7c2 }
def k7c3 : Code := { maxStack := 2, maxLocals := 2, code := jdk_42_method_56_code, exceptionTable := #[], attributes := #[] }
def k7m3 : Method := { name := "charAt", desc := "(I)C", sig := { parameters := [.int], returnType := some .char }, accessFlags := 1, code := some k7c3 }
def k7c4 : Code := { maxStack := 4, maxLocals := 6, code := jdk_42_method_149_code, exceptionTable := #[], attributes := #[] }
def k7m4 : Method := { name := "<init>", desc := "([CIILjava/lang/Void;)V", sig := { parameters := [(.array .char), .int, .int, (.object "java/lang/Void")], returnType := none }, accessFlags := 2, code := some k7c4 }
def k7c5 : Code := { maxStack := 1, maxLocals := 1, code := jdk_42_method_152_code, exceptionTable := #[], attributes := #[] }
def k7m5 : Method := { name := "coder", desc := "()B", sig := { parameters := [], returnType := some .byte }, accessFlags := 0, code := some k7c5 }
def k7c6 : Code := { maxStack := 1, maxLocals := 1, code := jdk_42_method_154_code, exceptionTable := #[], attributes := #[] }
def k7m6 : Method := { name := "isLatin1", desc := "()Z", sig := { parameters := [], returnType := some .boolean }, accessFlags := 0, code := some k7c6 }
def k7c7 : Code := { maxStack := 3, maxLocals := 2, code := jdk_42_method_155_code, exceptionTable := #[], attributes := #[] }
def k7m7 : Method := { name := "checkIndex", desc := "(II)V", sig := { parameters := [.int, .int], returnType := none }, accessFlags := 8, code := some k7c7 }
/-- java/lang/String -/
def k7 : Class := { plain "java/lang/String" (some 0) with
  accessFlags := 49
  interfaces := #[2, 3, 4, 5, 6]
  cf := some (fileOf pool7 10 #[.nestMembers #[1103]] #[{ accessFlags := 1, nameIndex := 5, descriptorIndex := 6, attributes := #[] }, { accessFlags := 1, nameIndex := 5, descriptorIndex := 1010, attributes := #[] }, { accessFlags := 1, nameIndex := 507, descriptorIndex := 334, attributes := #[] }, { accessFlags := 1, nameIndex := 497, descriptorIndex := 427, attributes := #[] }, { accessFlags := 2, nameIndex := 5, descriptorIndex := 29, attributes := #[] }, { accessFlags := 0, nameIndex := 17, descriptorIndex := 337, attributes := #[] }, { accessFlags := 0, nameIndex := 494, descriptorIndex := 142, attributes := #[] }, { accessFlags := 8, nameIndex := 501, descriptorIndex := 391, attributes := #[] }] 49 2 #[1106, 1108, 575, 1110, 1112] #[{ accessFlags := 18, nameIndex := 13, descriptorIndex := 14, attributes := #[] }, { accessFlags := 18, nameIndex := 17, descriptorIndex := 18, attributes := #[] }, { accessFlags := 2, nameIndex := 21, descriptorIndex := 22, attributes := #[] }, { accessFlags := 2, nameIndex := 25, descriptorIndex := 26, attributes := #[] }, { accessFlags := 26, nameIndex := 1116, descriptorIndex := 1117, attributes := #[] }, { accessFlags := 24, nameIndex := 40, descriptorIndex := 26, attributes := #[] }, { accessFlags := 26, nameIndex := 1101, descriptorIndex := 1102, attributes := #[] }, { accessFlags := 26, nameIndex := 1121, descriptorIndex := 1122, attributes := #[] }, { accessFlags := 25, nameIndex := 599, descriptorIndex := 600, attributes := #[] }, { accessFlags := 24, nameIndex := 1125, descriptorIndex := 18, attributes := #[] }, { accessFlags := 24, nameIndex := 1127, descriptorIndex := 18, attributes := #[] }])
  fields := #[{ name := "value", type := (.array .byte), accessFlags := 18, slot := 0, constantValue := 0 }, { name := "coder", type := .byte, accessFlags := 18, slot := 1, constantValue := 0 }, { name := "hash", type := .int, accessFlags := 2, slot := 2, constantValue := 0 }, { name := "hashIsZero", type := .boolean, accessFlags := 2, slot := 3, constantValue := 0 }, { name := "serialVersionUID", type := .long, accessFlags := 26, slot := 0, constantValue := 0 }, { name := "COMPACT_STRINGS", type := .boolean, accessFlags := 24, slot := 1, constantValue := 0 }, { name := "serialPersistentFields", type := (.array (.object "java/io/ObjectStreamField")), accessFlags := 26, slot := 2, constantValue := 0 }, { name := "REPL", type := .char, accessFlags := 26, slot := 3, constantValue := 0 }, { name := "CASE_INSENSITIVE_ORDER", type := (.object "java/util/Comparator"), accessFlags := 25, slot := 4, constantValue := 0 }, { name := "LATIN1", type := .byte, accessFlags := 24, slot := 5, constantValue := 0 }, { name := "UTF16", type := .byte, accessFlags := 24, slot := 6, constantValue := 0 }]
  methods := #[k7m0, k7m1, k7m2, k7m3, k7m4, k7m5, k7m6, k7m7]
  instanceTypes := #[(.array .byte), .byte, .int, .boolean]
  staticTypes := #[.long, .boolean, (.array (.object "java/io/ObjectStreamField")), .char, (.object "java/util/Comparator"), .byte, .byte]
  resolved := Array.replicate 1451 none
  statics := some 0 }

def pool8 : Array CpInfo := pool [(2, .class_ 4), (1, u "java/lang/Object"), (0, u "<init>"), (0, u "()V"), (0, .class_ 8), (0, u "java/lang/Record")] 13

def k8m0 : Method := { name := "<init>", desc := "()V", sig := { parameters := [], returnType := none }, accessFlags := 4, code := none }
/-- java/lang/Record -/
def k8 : Class := { plain "java/lang/Record" (some 0) with
  accessFlags := 1057
  interfaces := #[]
  cf := some (fileOf pool8 7 #[] #[{ accessFlags := 4, nameIndex := 5, descriptorIndex := 6, attributes := #[] }] 1057 2 #[] #[])
  fields := #[]
  methods := #[k8m0]
  instanceTypes := #[]
  staticTypes := #[]
  resolved := Array.replicate 22 none
  statics := none }

def pool9 : Array CpInfo := pool [(2, .class_ 4), (1, u "java/lang/Record"), (9, .class_ 16), (1, u "java/lang/String"), (12, .class_ 31), (1, u "com/example/tenorloom/tenorloom/bond/Bond"), (0, u "isCurrencyCode"), (0, u "(Ljava/lang/String;)Z"), (15, u "FREQUENCIES"), (0, u "Ljava/util/Set;"), (58, u "id"), (0, u "Ljava/lang/String;"), (2, u "issuer"), (2, u "currency"), (2, u "type"), (0, u "Lcom/example/tenorloom/tenorloom/bond/BondType;"), (2, u "coupon"), (0, u "D"), (2, u "frequency"), (0, u "I"), (2, u "accrualStart"), (0, u "Ljava/time/LocalDate;"), (2, u "firstCoupon"), (2, u "maturity"), (2, u "exDividendDays"), (2, u "amountOutstanding"), (0, u "Ljava/util/OptionalDouble;"), (7, .methodref 14 154), (0, .nameAndType 155 156), (0, u "length"), (0, u "()I"), (0, .methodref 14 158), (0, .nameAndType 159 160), (0, u "charAt"), (0, u "(I)C"), (78, .class_ 241), (1, u "com/example/tenorloom/tenorloom/bond/Bond$Place")] 138

def k9c0 : Code := { maxStack := 2, maxLocals := 3, code := prog_6_method_3_code, exceptionTable := #[], attributes := #[] }
def k9m0 : Method := { name := "isCurrencyCode", desc := "(Ljava/lang/String;)Z", sig := { parameters := [(.object "java/lang/String")], returnType := some .boolean }, accessFlags := 9, code := some k9c0 }
/-- com/example/tenorloom/tenorloom/bond/Bond -/
def k9 : Class := { plain "com/example/tenorloom/tenorloom/bond/Bond" (some 8) with
  accessFlags := 49
  interfaces := #[]
  cf := some (fileOf pool9 29 #[.nestMembers #[239]] #[{ accessFlags := 9, nameIndex := 32, descriptorIndex := 33, attributes := #[] }] 49 2 #[] #[{ accessFlags := 18, nameIndex := 109, descriptorIndex := 110, attributes := #[] }, { accessFlags := 18, nameIndex := 113, descriptorIndex := 110, attributes := #[] }, { accessFlags := 18, nameIndex := 116, descriptorIndex := 110, attributes := #[] }, { accessFlags := 18, nameIndex := 119, descriptorIndex := 120, attributes := #[] }, { accessFlags := 18, nameIndex := 123, descriptorIndex := 124, attributes := #[] }, { accessFlags := 18, nameIndex := 127, descriptorIndex := 128, attributes := #[] }, { accessFlags := 18, nameIndex := 131, descriptorIndex := 132, attributes := #[] }, { accessFlags := 18, nameIndex := 135, descriptorIndex := 132, attributes := #[] }, { accessFlags := 18, nameIndex := 138, descriptorIndex := 132, attributes := #[] }, { accessFlags := 18, nameIndex := 141, descriptorIndex := 128, attributes := #[] }, { accessFlags := 18, nameIndex := 144, descriptorIndex := 145, attributes := #[] }, { accessFlags := 26, nameIndex := 49, descriptorIndex := 50, attributes := #[] }])
  fields := #[{ name := "id", type := (.object "java/lang/String"), accessFlags := 18, slot := 0, constantValue := 0 }, { name := "issuer", type := (.object "java/lang/String"), accessFlags := 18, slot := 1, constantValue := 0 }, { name := "currency", type := (.object "java/lang/String"), accessFlags := 18, slot := 2, constantValue := 0 }, { name := "type", type := (.object "com/example/tenorloom/tenorloom/bond/BondType"), accessFlags := 18, slot := 3, constantValue := 0 }, { name := "coupon", type := .double, accessFlags := 18, slot := 4, constantValue := 0 }, { name := "frequency", type := .int, accessFlags := 18, slot := 5, constantValue := 0 }, { name := "accrualStart", type := (.object "java/time/LocalDate"), accessFlags := 18, slot := 6, constantValue := 0 }, { name := "firstCoupon", type := (.object "java/time/LocalDate"), accessFlags := 18, slot := 7, constantValue := 0 }, { name := "maturity", type := (.object "java/time/LocalDate"), accessFlags := 18, slot := 8, constantValue := 0 }, { name := "exDividendDays", type := .int, accessFlags := 18, slot := 9, constantValue := 0 }, { name := "amountOutstanding", type := (.object "java/util/OptionalDouble"), accessFlags := 18, slot := 10, constantValue := 0 }, { name := "FREQUENCIES", type := (.object "java/util/Set"), accessFlags := 26, slot := 0, constantValue := 0 }]
  methods := #[k9m0]
  instanceTypes := #[(.object "java/lang/String"), (.object "java/lang/String"), (.object "java/lang/String"), (.object "com/example/tenorloom/tenorloom/bond/BondType"), .double, .int, (.object "java/time/LocalDate"), (.object "java/time/LocalDate"), (.object "java/time/LocalDate"), .int, (.object "java/util/OptionalDouble")]
  staticTypes := #[(.object "java/util/Set")]
  resolved := Array.replicate 380 none
  statics := none }

def pool10 : Array CpInfo := pool [(3, .class_ 4), (0, u "java/lang/String"), (1, .class_ 8), (1, u "java/lang/Object"), (0, u "<init>"), (0, u "()V"), (0, .methodref 12 13), (0, .class_ 14), (0, .nameAndType 15 16), (0, u "java/lang/StringUTF16"), (0, u "newBytesLength"), (0, u "(I)I"), (3, .integer 1073741823), (23, .fieldref 12 45), (0, .nameAndType 46 47), (0, u "$assertionsDisabled"), (0, u "Z"), (0, .methodref 12 49), (0, .nameAndType 50 51), (0, u "length"), (0, u "([B)I"), (7, .fieldref 12 60), (0, .nameAndType 61 62), (0, u "HI_BYTE_SHIFT"), (0, u "I"), (0, .fieldref 12 64), (0, .nameAndType 65 62), (0, u "LO_BYTE_SHIFT"), (1, .methodref 12 68), (0, .nameAndType 69 70), (0, u "checkIndex"), (0, u "(I[B)V"), (0, .methodref 12 72), (0, .nameAndType 73 74), (0, u "getChar"), (0, u "([BI)C"), (32, .methodref 12 108), (0, .nameAndType 109 110), (0, u "newBytesFor"), (0, u "(I)[B"), (0, .methodref 12 112), (0, .nameAndType 113 114), (0, u "putChar"), (0, u "([BII)V"), (0, .methodref 12 116), (0, .nameAndType 117 118), (0, u "compress"), (0, u "([CI[BII)I"), (0, .methodref 12 120), (0, .nameAndType 121 122), (0, u "toBytes"), (0, u "([CII)[B"), (138, u "coderFromArrayLen"), (0, u "([BI)B"), (106, .class_ 371), (1, u "java/lang/StringUTF16$LinesSpliterator"), (20, u "charAt"), (21, .methodref 3 415), (0, .nameAndType 69 416), (0, u "(II)V"), (13, u "MAX_LENGTH"), (196, .class_ 628), (0, u "java/lang/StringUTF16$CodePointsSpliterator"), (0, .class_ 630), (0, u "java/lang/StringUTF16$CharsSpliterator")] 4

def k10m0 : Method := { name := "<init>", desc := "()V", sig := { parameters := [], returnType := none }, accessFlags := 0, code := none }
def k10c1 : Code := { maxStack := 1, maxLocals := 1, code := jdk_52_method_2_code, exceptionTable := #[], attributes := #[] }
def k10m1 : Method := { name := "newBytesFor", desc := "(I)[B", sig := { parameters := [.int], returnType := some (.array .byte) }, accessFlags := 9, code := some k10c1 }
def k10c2 : Code := { maxStack := 4, maxLocals := 1, code := jdk_52_method_3_code, exceptionTable := #[], attributes := #[] }
def k10m2 : Method := { name := "newBytesLength", desc := "(I)I", sig := { parameters := [.int], returnType := some .int }, accessFlags := 9, code := some k10c2 }
def k10c3 : Code := { maxStack := 4, maxLocals := 3, code := jdk_52_method_4_code, exceptionTable := #[], attributes := #[] }
def k10m3 : Method := { name := "putChar", desc := "([BII)V", sig := { parameters := [(.array .byte), .int, .int], returnType := none }, accessFlags := 8, code := some k10c3 }
def k10c4 : Code := { maxStack := 3, maxLocals := 2, code := jdk_52_method_5_code, exceptionTable := #[], attributes := #[] }
def k10m4 : Method := { name := "getChar", desc := "([BI)C", sig := { parameters := [(.array .byte), .int], returnType := some .char }, accessFlags := 8, code := some k10c4 }
def k10c5 : Code := { maxStack := 2, maxLocals := 1, code := jdk_52_method_6_code, exceptionTable := #[], attributes := #[] }
def k10m5 : Method := { name := "length", desc := "([B)I", sig := { parameters := [(.array .byte)], returnType := some .int }, accessFlags := 9, code := some k10c5 }
def k10c6 : Code := { maxStack := 4, maxLocals := 5, code := jdk_52_method_14_code, exceptionTable := #[], attributes := #[] }
def k10m6 : Method := { name := "toBytes", desc := "([CII)[B", sig := { parameters := [(.array .char), .int, .int], returnType := some (.array .byte) }, accessFlags := 9, code := some k10c6 }
def k10c7 : Code := { maxStack := 2, maxLocals := 2, code := jdk_52_method_15_code, exceptionTable := #[], attributes := #[] }
def k10m7 : Method := { name := "coderFromArrayLen", desc := "([BI)B", sig := { parameters := [(.array .byte), .int], returnType := some .byte }, accessFlags := 8, code := some k10c7 }
def k10c8 : Code := { maxStack := 5, maxLocals := 6, code := jdk_52_method_16_code, exceptionTable := #[], attributes := #[] }
def k10m8 : Method := { name := "compress", desc := "([CII)[B", sig := { parameters := [(.array .char), .int, .int], returnType := some (.array .byte) }, accessFlags := 9, code := some k10c8 }
def k10c9 : Code := { maxStack := 3, maxLocals := 7, code := jdk_52_method_21_code, exceptionTable := #[], attributes := #[] }
def k10m9 : Method := { name := "compress", desc := "([CI[BII)I", sig := { parameters := [(.array .char), .int, (.array .byte), .int, .int], returnType := some .int }, accessFlags := 9, code := some k10c9 }
def k10c10 : Code := { maxStack := 2, maxLocals := 2, code := jdk_52_method_83_code, exceptionTable := #[], attributes := #[] }
def k10m10 : Method := { name := "charAt", desc := "([BI)C", sig := { parameters := [(.array .byte), .int], returnType := some .char }, accessFlags := 9, code := some k10c10 }
def k10c11 : Code := { maxStack := 2, maxLocals := 2, code := jdk_52_method_91_code, exceptionTable := #[], attributes := #[] }
def k10m11 : Method := { name := "checkIndex", desc := "(I[B)V", sig := { parameters := [.int, (.array .byte)], returnType := none }, accessFlags := 9, code := some k10c11 }
/-- java/lang/StringUTF16 -/
def k10 : Class := { plain "java/lang/StringUTF16" (some 0) with
  accessFlags := 48
  interfaces := #[]
  cf := some (fileOf pool10 12 #[.nestMembers #[627, 629, 369]] #[{ accessFlags := 0, nameIndex := 9, descriptorIndex := 10, attributes := #[] }, { accessFlags := 9, nameIndex := 109, descriptorIndex := 110, attributes := #[] }, { accessFlags := 9, nameIndex := 15, descriptorIndex := 16, attributes := #[] }, { accessFlags := 8, nameIndex := 113, descriptorIndex := 114, attributes := #[] }, { accessFlags := 8, nameIndex := 73, descriptorIndex := 74, attributes := #[] }, { accessFlags := 9, nameIndex := 50, descriptorIndex := 51, attributes := #[] }, { accessFlags := 9, nameIndex := 121, descriptorIndex := 122, attributes := #[] }, { accessFlags := 8, nameIndex := 261, descriptorIndex := 262, attributes := #[] }, { accessFlags := 9, nameIndex := 117, descriptorIndex := 122, attributes := #[] }, { accessFlags := 9, nameIndex := 117, descriptorIndex := 118, attributes := #[] }, { accessFlags := 9, nameIndex := 392, descriptorIndex := 74, attributes := #[] }, { accessFlags := 9, nameIndex := 69, descriptorIndex := 70, attributes := #[] }] 48 6 #[] #[{ accessFlags := 26, nameIndex := 61, descriptorIndex := 62, attributes := #[] }, { accessFlags := 26, nameIndex := 65, descriptorIndex := 62, attributes := #[] }, { accessFlags := 24, nameIndex := 430, descriptorIndex := 62, attributes := #[] }, { accessFlags := 4120, nameIndex := 46, descriptorIndex := 47, attributes := #[] }])
  fields := #[{ name := "HI_BYTE_SHIFT", type := .int, accessFlags := 26, slot := 0, constantValue := 0 }, { name := "LO_BYTE_SHIFT", type := .int, accessFlags := 26, slot := 1, constantValue := 0 }, { name := "MAX_LENGTH", type := .int, accessFlags := 24, slot := 2, constantValue := 0 }, { name := "$assertionsDisabled", type := .boolean, accessFlags := 4120, slot := 3, constantValue := 0 }]
  methods := #[k10m0, k10m1, k10m2, k10m3, k10m4, k10m5, k10m6, k10m7, k10m8, k10m9, k10m10, k10m11]
  instanceTypes := #[]
  staticTypes := #[.int, .int, .int, .boolean]
  resolved := Array.replicate 635 none
  statics := some 1 }

def pool11 : Array CpInfo := pool [(1, .class_ 2), (0, u "java/lang/String"), (1, .class_ 6), (1, u "java/lang/Object"), (0, u "<init>"), (0, u "()V"), (0, .methodref 1 10), (0, .nameAndType 11 12), (0, u "checkIndex"), (0, u "(II)V"), (1, .class_ 16), (1, u "java/lang/StringLatin1"), (36, u "([BI)C"), (67, u "$assertionsDisabled"), (0, u "Z"), (98, .class_ 223), (1, u "java/lang/StringLatin1$LinesSpliterator"), (28, u "charAt"), (137, .class_ 391), (0, u "java/lang/StringLatin1$CharsSpliterator")] 3

def k11m0 : Method := { name := "<init>", desc := "()V", sig := { parameters := [], returnType := none }, accessFlags := 0, code := none }
def k11c1 : Code := { maxStack := 2, maxLocals := 2, code := jdk_43_method_2_code, exceptionTable := #[], attributes := #[] }
def k11m1 : Method := { name := "charAt", desc := "([BI)C", sig := { parameters := [(.array .byte), .int], returnType := some .char }, accessFlags := 9, code := some k11c1 }
/-- java/lang/StringLatin1 -/
def k11 : Class := { plain "java/lang/StringLatin1" (some 0) with
  accessFlags := 48
  interfaces := #[]
  cf := some (fileOf pool11 14 #[.nestMembers #[390, 221]] #[{ accessFlags := 0, nameIndex := 7, descriptorIndex := 8, attributes := #[] }, { accessFlags := 9, nameIndex := 252, descriptorIndex := 53, attributes := #[] }] 48 4 #[] #[{ accessFlags := 4120, nameIndex := 121, descriptorIndex := 122, attributes := #[] }])
  fields := #[{ name := "$assertionsDisabled", type := .boolean, accessFlags := 4120, slot := 0, constantValue := 0 }]
  methods := #[k11m0, k11m1]
  instanceTypes := #[]
  staticTypes := #[.boolean]
  resolved := Array.replicate 395 none
  statics := none }

def pool12 : Array CpInfo := pool [(2, .class_ 4), (1, u "java/lang/Object"), (0, u "<init>"), (0, u "()V"), (17, .class_ 26), (1, u "jdk/internal/util/Preconditions"), (6, u "checkIndex"), (21, .class_ 56), (0, u "jdk/internal/util/Preconditions$4"), (57, .class_ 115), (0, u "jdk/internal/util/Preconditions$1"), (7, u "SIOOBE_FORMATTER"), (0, u "Ljava/util/function/BiFunction;"), (0, .class_ 126), (0, u "jdk/internal/util/Preconditions$2"), (3, u "AIOOBE_FORMATTER"), (0, .class_ 132), (0, u "jdk/internal/util/Preconditions$3"), (3, u "IOOBE_FORMATTER"), (41, u "(IILjava/util/function/BiFunction;)I")] 15

def k12m0 : Method := { name := "<init>", desc := "()V", sig := { parameters := [], returnType := none }, accessFlags := 1, code := none }
def k12c1 : Code := { maxStack := 3, maxLocals := 3, code := jdk_41_method_11_code, exceptionTable := #[], attributes := #[] }
def k12m1 : Method := { name := "checkIndex", desc := "(IILjava/util/function/BiFunction;)I", sig := { parameters := [.int, .int, (.object "java/util/function/BiFunction")], returnType := some .int }, accessFlags := 9, code := some k12c1 }
/-- jdk/internal/util/Preconditions -/
def k12 : Class := { plain "jdk/internal/util/Preconditions" (some 0) with
  accessFlags := 33
  interfaces := #[]
  cf := some (fileOf pool12 24 #[.nestMembers #[55, 131, 125, 114]] #[{ accessFlags := 1, nameIndex := 5, descriptorIndex := 6, attributes := #[] }, { accessFlags := 9, nameIndex := 33, descriptorIndex := 178, attributes := #[] }] 33 2 #[] #[{ accessFlags := 25, nameIndex := 123, descriptorIndex := 124, attributes := #[] }, { accessFlags := 25, nameIndex := 130, descriptorIndex := 124, attributes := #[] }, { accessFlags := 25, nameIndex := 136, descriptorIndex := 124, attributes := #[] }])
  fields := #[{ name := "SIOOBE_FORMATTER", type := (.object "java/util/function/BiFunction"), accessFlags := 25, slot := 0, constantValue := 0 }, { name := "AIOOBE_FORMATTER", type := (.object "java/util/function/BiFunction"), accessFlags := 25, slot := 1, constantValue := 0 }, { name := "IOOBE_FORMATTER", type := (.object "java/util/function/BiFunction"), accessFlags := 25, slot := 2, constantValue := 0 }]
  methods := #[k12m0, k12m1]
  instanceTypes := #[]
  staticTypes := #[(.object "java/util/function/BiFunction"), (.object "java/util/function/BiFunction"), (.object "java/util/function/BiFunction")]
  resolved := Array.replicate 194 none
  statics := some 2 }

def pool13 : Array CpInfo := pool [(9, u "<init>"), (6, .class_ 18), (1, u "java/lang/Object"), (0, u "()V"), (1, .class_ 23), (1, u "jdk/internal/util/ArraysSupport"), (0, u "LOG2_ARRAY_LONG_INDEX_SCALE"), (0, u "I"), (2, u "U"), (0, u "Ljdk/internal/misc/Unsafe;"), (8, u "BIG_ENDIAN"), (0, u "Z"), (8, u "LOG2_BYTE_BIT_SIZE"), (4, u "LOG2_ARRAY_INT_INDEX_SCALE"), (54, u "JLA"), (0, u "Ljdk/internal/access/JavaLangAccess;"), (11, u "LOG2_ARRAY_BOOLEAN_INDEX_SCALE"), (9, u "LOG2_ARRAY_BYTE_INDEX_SCALE"), (5, u "LOG2_ARRAY_CHAR_INDEX_SCALE"), (5, u "LOG2_ARRAY_SHORT_INDEX_SCALE"), (18, u "LOG2_ARRAY_FLOAT_INDEX_SCALE"), (24, u "LOG2_ARRAY_DOUBLE_INDEX_SCALE"), (89, u "T_BOOLEAN"), (2, u "T_CHAR"), (1, u "T_FLOAT"), (1, u "T_DOUBLE"), (1, u "T_BYTE"), (1, u "T_SHORT"), (1, u "T_INT"), (1, u "T_LONG"), (1, u "SOFT_MAX_ARRAY_LENGTH")] 83

def k13m0 : Method := { name := "<init>", desc := "()V", sig := { parameters := [], returnType := none }, accessFlags := 2, code := none }
/-- jdk/internal/util/ArraysSupport -/
def k13 : Class := { plain "jdk/internal/util/ArraysSupport" (some 0) with
  accessFlags := 33
  interfaces := #[]
  cf := some (fileOf pool13 21 #[] #[{ accessFlags := 2, nameIndex := 9, descriptorIndex := 19, attributes := #[] }] 33 16 #[] #[{ accessFlags := 24, nameIndex := 28, descriptorIndex := 29, attributes := #[] }, { accessFlags := 26, nameIndex := 38, descriptorIndex := 39, attributes := #[] }, { accessFlags := 25, nameIndex := 121, descriptorIndex := 25, attributes := #[] }, { accessFlags := 25, nameIndex := 131, descriptorIndex := 25, attributes := #[] }, { accessFlags := 25, nameIndex := 137, descriptorIndex := 25, attributes := #[] }, { accessFlags := 25, nameIndex := 143, descriptorIndex := 25, attributes := #[] }, { accessFlags := 25, nameIndex := 53, descriptorIndex := 25, attributes := #[] }, { accessFlags := 25, nameIndex := 24, descriptorIndex := 25, attributes := #[] }, { accessFlags := 25, nameIndex := 162, descriptorIndex := 25, attributes := #[] }, { accessFlags := 25, nameIndex := 187, descriptorIndex := 25, attributes := #[] }, { accessFlags := 26, nameIndex := 48, descriptorIndex := 25, attributes := #[] }, { accessFlags := 25, nameIndex := 277, descriptorIndex := 25, attributes := #[] }, { accessFlags := 25, nameIndex := 280, descriptorIndex := 25, attributes := #[] }, { accessFlags := 25, nameIndex := 282, descriptorIndex := 25, attributes := #[] }, { accessFlags := 25, nameIndex := 284, descriptorIndex := 25, attributes := #[] }, { accessFlags := 25, nameIndex := 286, descriptorIndex := 25, attributes := #[] }, { accessFlags := 25, nameIndex := 288, descriptorIndex := 25, attributes := #[] }, { accessFlags := 25, nameIndex := 290, descriptorIndex := 25, attributes := #[] }, { accessFlags := 25, nameIndex := 292, descriptorIndex := 25, attributes := #[] }, { accessFlags := 26, nameIndex := 108, descriptorIndex := 109, attributes := #[] }, { accessFlags := 25, nameIndex := 294, descriptorIndex := 25, attributes := #[] }])
  fields := #[{ name := "U", type := (.object "jdk/internal/misc/Unsafe"), accessFlags := 24, slot := 0, constantValue := 0 }, { name := "BIG_ENDIAN", type := .boolean, accessFlags := 26, slot := 1, constantValue := 0 }, { name := "LOG2_ARRAY_BOOLEAN_INDEX_SCALE", type := .int, accessFlags := 25, slot := 2, constantValue := 0 }, { name := "LOG2_ARRAY_BYTE_INDEX_SCALE", type := .int, accessFlags := 25, slot := 3, constantValue := 0 }, { name := "LOG2_ARRAY_CHAR_INDEX_SCALE", type := .int, accessFlags := 25, slot := 4, constantValue := 0 }, { name := "LOG2_ARRAY_SHORT_INDEX_SCALE", type := .int, accessFlags := 25, slot := 5, constantValue := 0 }, { name := "LOG2_ARRAY_INT_INDEX_SCALE", type := .int, accessFlags := 25, slot := 6, constantValue := 0 }, { name := "LOG2_ARRAY_LONG_INDEX_SCALE", type := .int, accessFlags := 25, slot := 7, constantValue := 0 }, { name := "LOG2_ARRAY_FLOAT_INDEX_SCALE", type := .int, accessFlags := 25, slot := 8, constantValue := 0 }, { name := "LOG2_ARRAY_DOUBLE_INDEX_SCALE", type := .int, accessFlags := 25, slot := 9, constantValue := 0 }, { name := "LOG2_BYTE_BIT_SIZE", type := .int, accessFlags := 26, slot := 10, constantValue := 0 }, { name := "T_BOOLEAN", type := .int, accessFlags := 25, slot := 11, constantValue := 0 }, { name := "T_CHAR", type := .int, accessFlags := 25, slot := 12, constantValue := 0 }, { name := "T_FLOAT", type := .int, accessFlags := 25, slot := 13, constantValue := 0 }, { name := "T_DOUBLE", type := .int, accessFlags := 25, slot := 14, constantValue := 0 }, { name := "T_BYTE", type := .int, accessFlags := 25, slot := 15, constantValue := 0 }, { name := "T_SHORT", type := .int, accessFlags := 25, slot := 16, constantValue := 0 }, { name := "T_INT", type := .int, accessFlags := 25, slot := 17, constantValue := 0 }, { name := "T_LONG", type := .int, accessFlags := 25, slot := 18, constantValue := 0 }, { name := "JLA", type := (.object "jdk/internal/access/JavaLangAccess"), accessFlags := 26, slot := 19, constantValue := 0 }, { name := "SOFT_MAX_ARRAY_LENGTH", type := .int, accessFlags := 25, slot := 20, constantValue := 0 }]
  methods := #[k13m0]
  instanceTypes := #[]
  staticTypes := #[(.object "jdk/internal/misc/Unsafe"), .boolean, .int, .int, .int, .int, .int, .int, .int, .int, .int, .int, .int, .int, .int, .int, .int, .int, .int, (.object "jdk/internal/access/JavaLangAccess"), .int]
  resolved := Array.replicate 378 none
  statics := none }

def pool14 : Array CpInfo := pool [(1, u "java/lang/Cloneable"), (0, .class_ 1), (0, u "java/lang/Object"), (0, .class_ 3)] 3

/-- java/lang/Cloneable -/
def k14 : Class := { plain "java/lang/Cloneable" (some 0) with
  accessFlags := 1537
  interfaces := #[]
  cf := some (fileOf pool14 2 #[] #[] 1537 4 #[] #[])
  fields := #[]
  methods := #[]
  instanceTypes := #[]
  staticTypes := #[]
  resolved := Array.replicate 8 none
  statics := none }

/-- the primitive byte -/
def k15 : Class := { plain "byte" none with kind := .primitive 'B', accessFlags := 0x411 }
/-- [B -/
def k16 : Class := { plain "[B" (some 0) with kind := .array 15 .byte, interfaces := #[14, 2], accessFlags := 1041 }

/-- the primitive char -/
def k17 : Class := { plain "char" none with kind := .primitive 'C', accessFlags := 0x411 }
/-- [C -/
def k18 : Class := { plain "[C" (some 0) with kind := .array 17 .char, interfaces := #[14, 2], accessFlags := 1041 }

/-- the primitive int -/
def k19 : Class := { plain "int" none with kind := .primitive 'I', accessFlags := 0x411 }
/-- [I -/
def k20 : Class := { plain "[I" (some 0) with kind := .array 19 .int, interfaces := #[14, 2], accessFlags := 1041 }

def heap : Heap := #[{ cls := 7, slots := #[.long 0, .int 1, .null, .int 0, .null, .int 0, .int 0], vm := .statics 7 },
  { cls := 10, slots := #[.int 0, .int 8, .int 0, .int 1], vm := .statics 10 },
  { cls := 12, slots := #[.null, .null, .null], vm := .statics 12 }]
def classes : Array Class := #[k0, k1, k2, k3, k4, k5, k6, k7, k8, k9, k10, k11, k12, k13, k14, k15, k16, k17, k18, k19, k20]
def interned : List (Array UInt16 × Addr) := []
def slotsUsed : Nat := 14
def theMethod : MethodId := ⟨1, 1⟩
def args0 : Array Value := #[.int 3, .int 5, .int 7, .int 600, .int 9]
def aboutOver (below : List Frame) : State where
  vm := { classes := classes, interned := interned.toArray }
  heap := heap
  slotsUsed := slotsUsed
  threads := #[{ frames := .invoking theMethod args0 :: below }]
def below0 : List Frame := [.native { method := ⟨0, 0⟩, args := #[] }]
def about1 : State := aboutOver below0
def p0 : Program := .bare "" "" ""
def e0 : Env := launch0.env 0 0 0
theorem w_frames : about1.frames = Frame.invoking theMethod args0 :: below0 := rfl
set_option maxRecDepth 65536 in
theorem w_args : argsFit about1.vm theMethod args0 = true := by decide +kernel
set_option maxRecDepth 65536 in
theorem w_heap : heapFits about1 = true := by decide +kernel
set_option maxRecDepth 65536 in
theorem w_runnable : about1.curStatus? = some .runnable := by decide +kernel
set_option maxRecDepth 65536 in
theorem w_alone : about1.alone = true := by decide +kernel
set_option maxRecDepth 65536 in
theorem w_named : about1.methodNamed? x = some theMethod := by decide +kernel
set_option maxRecDepth 65536 in
theorem w_hears : about1.hears theMethod below0 = true := by decide +kernel
set_option maxRecDepth 65536 in
theorem w_ripe : about1.ripe theMethod args0 below0 = true := by decide +kernel
theorem w_running : about1.status = .running := rfl
set_option maxRecDepth 65536 in
theorem w_room : about1.hasRoom e0.platform room_1 = true :=
  launch0.hasRoom_least _ room_1 (by decide +kernel) (by decide +kernel) (by decide +kernel) (by decide +kernel) (by decide +kernel) (by decide +kernel)
theorem allAtoms_all (ts : List Jvm.Cond) (a : Array Jvm.Value) (st : Jvm.State) : (allAtoms ts).before a st = ts.all (fun c => c.before a st) := by
  induction ts with
  | nil => rfl
  | cons c t ih =>
    show (Jvm.Cond.and c (allAtoms t)).before a st = _
    rw [Jvm.Cond.before_and, ih, List.all_cons]
def words1 : List Jvm.Cond := Jvm.Cond.code x code maxLocals ret :: tables_1
/-- a 'code' word, met by the world's own term for the bytes: nothing is compared byte by byte -/
theorem code_word {y : MethodName} {bytes : ByteArray} {mx : Nat} {rt : Option FieldType} {a : Array Value} {s : State} {m : MethodId} {meth : Method} {c : Code} (h1 : s.methodNamed? y = some m) (h2 : s.vm.method? m = some meth) (h3 : meth.code = some c) (h4 : c.code = bytes)
    (h5 : (c.maxLocals == mx && c.exceptionTable.isEmpty && decide (c.maxStack ≤ mostOperands) && decide (meth.sig.returnType = rt) && !meth.locks && decide (parseMethodDescriptor y.desc = some meth.sig)) = true) : (Jvm.Cond.code y bytes mx rt).before a s = true := by
  simp only [Bool.and_eq_true, beq_iff_eq, Bool.not_eq_true', decide_eq_true_eq] at h5
  obtain ⟨⟨⟨⟨⟨g1, g2⟩, g3⟩, g4⟩, g5⟩, g6⟩ := h5
  simp [Cond.before, Cond.holds, Cond.value, h1, h2, h3, h4, g1, g2, g3, g4, g5, g6]
def isCode : Jvm.Cond → Bool
  | .code _ _ _ _ => true
  | _ => false
theorem all_split {L : List Jvm.Cond} {P : Jvm.Cond → Bool} (h1 : L.all (fun c => isCode c || P c) = true) (h2 : ∀ c ∈ L.filter isCode, P c = true) : L.all P = true := by
  refine List.all_eq_true.mpr fun c hc => ?_
  have h := List.all_eq_true.mp h1 c hc
  rcases Bool.eq_false_or_eq_true (isCode c) with hi | hi
  · exact h2 c (List.mem_filter.mpr ⟨hc, hi⟩)
  · simpa [hi] using h
set_option maxRecDepth 65536 in
theorem w_c0 : (Jvm.Cond.code x code maxLocals ret).before args0 about1 = true := code_word (m := ⟨1, 1⟩) (meth := k1m1) (c := k1c1) (by decide +kernel) rfl rfl rfl (by decide +kernel)
set_option maxRecDepth 65536 in
theorem w_c1 : (Jvm.Cond.code ({ cls := "com/example/tenorloom/tenorloom/bond/BondIsCurrencyCodePinLaw", name := "draw", desc := "(I)C" } : Jvm.MethodName) method_3_code (1 : Nat) (Option.some Jvm.ClassFile.FieldType.char)).before args0 about1 = true := code_word (m := ⟨1, 2⟩) (meth := k1m2) (c := k1c2) (by decide +kernel) rfl rfl rfl (by decide +kernel)
set_option maxRecDepth 65536 in
theorem w_c2 : (Jvm.Cond.code ({ cls := "java/lang/String", name := "<init>", desc := "([C)V" } : Jvm.MethodName) jdk_42_method_3_code (2 : Nat) (Option.none : Option Jvm.ClassFile.FieldType)).before args0 about1 = true := code_word (m := ⟨7, 1⟩) (meth := k7m1) (c := k7c1) (by decide +kernel) rfl rfl rfl (by decide +kernel)
set_option maxRecDepth 65536 in
theorem w_c3 : (Jvm.Cond.code ({ cls := "java/lang/String", name := "<init>", desc := "([CIILjava/lang/Void;)V" } : Jvm.MethodName) jdk_42_method_149_code (6 : Nat) (Option.none : Option Jvm.ClassFile.FieldType)).before args0 about1 = true := code_word (m := ⟨7, 4⟩) (meth := k7m4) (c := k7c4) (by decide +kernel) rfl rfl rfl (by decide +kernel)
set_option maxRecDepth 65536 in
theorem w_c4 : (Jvm.Cond.code ({ cls := "java/lang/Object", name := "<init>", desc := "()V" } : Jvm.MethodName) object_method_1_code (1 : Nat) (Option.none : Option Jvm.ClassFile.FieldType)).before args0 about1 = true := code_word (m := ⟨0, 0⟩) (meth := k0m0) (c := k0c0) (by decide +kernel) rfl rfl rfl (by decide +kernel)
set_option maxRecDepth 65536 in
theorem w_c5 : (Jvm.Cond.code ({ cls := "com/example/tenorloom/tenorloom/bond/Bond", name := "isCurrencyCode", desc := "(Ljava/lang/String;)Z" } : Jvm.MethodName) prog_6_method_3_code (3 : Nat) (Option.some Jvm.ClassFile.FieldType.boolean)).before args0 about1 = true := code_word (m := ⟨9, 0⟩) (meth := k9m0) (c := k9c0) (by decide +kernel) rfl rfl rfl (by decide +kernel)
set_option maxRecDepth 65536 in
theorem w_c6 : (Jvm.Cond.code ({ cls := "java/lang/String", name := "length", desc := "()I" } : Jvm.MethodName) jdk_42_method_54_code (1 : Nat) (Option.some Jvm.ClassFile.FieldType.int)).before args0 about1 = true := code_word (m := ⟨7, 2⟩) (meth := k7m2) (c := k7c2) (by decide +kernel) rfl rfl rfl (by decide +kernel)
set_option maxRecDepth 65536 in
theorem w_c7 : (Jvm.Cond.code ({ cls := "java/lang/String", name := "coder", desc := "()B" } : Jvm.MethodName) jdk_42_method_152_code (1 : Nat) (Option.some Jvm.ClassFile.FieldType.byte)).before args0 about1 = true := code_word (m := ⟨7, 5⟩) (meth := k7m5) (c := k7c5) (by decide +kernel) rfl rfl rfl (by decide +kernel)
set_option maxRecDepth 65536 in
theorem w_c8 : (Jvm.Cond.code ({ cls := "java/lang/StringUTF16", name := "compress", desc := "([CII)[B" } : Jvm.MethodName) jdk_52_method_16_code (6 : Nat) (Option.some (Jvm.ClassFile.FieldType.array Jvm.ClassFile.FieldType.byte))).before args0 about1 = true := code_word (m := ⟨10, 8⟩) (meth := k10m8) (c := k10c8) (by decide +kernel) rfl rfl rfl (by decide +kernel)
set_option maxRecDepth 65536 in
theorem w_c9 : (Jvm.Cond.code ({ cls := "java/lang/StringUTF16", name := "compress", desc := "([CI[BII)I" } : Jvm.MethodName) jdk_52_method_21_code (7 : Nat) (Option.some Jvm.ClassFile.FieldType.int)).before args0 about1 = true := code_word (m := ⟨10, 9⟩) (meth := k10m9) (c := k10c9) (by decide +kernel) rfl rfl rfl (by decide +kernel)
set_option maxRecDepth 65536 in
theorem w_c10 : (Jvm.Cond.code ({ cls := "java/lang/StringUTF16", name := "coderFromArrayLen", desc := "([BI)B" } : Jvm.MethodName) jdk_52_method_15_code (2 : Nat) (Option.some Jvm.ClassFile.FieldType.byte)).before args0 about1 = true := code_word (m := ⟨10, 7⟩) (meth := k10m7) (c := k10c7) (by decide +kernel) rfl rfl rfl (by decide +kernel)
set_option maxRecDepth 65536 in
theorem w_c11 : (Jvm.Cond.code ({ cls := "com/example/tenorloom/tenorloom/bond/BondIsCurrencyCodePinLaw", name := "cap", desc := "(C)Z" } : Jvm.MethodName) method_4_code (1 : Nat) (Option.some Jvm.ClassFile.FieldType.boolean)).before args0 about1 = true := code_word (m := ⟨1, 3⟩) (meth := k1m3) (c := k1c3) (by decide +kernel) rfl rfl rfl (by decide +kernel)
set_option maxRecDepth 65536 in
theorem w_c12 : (Jvm.Cond.code ({ cls := "java/lang/String", name := "charAt", desc := "(I)C" } : Jvm.MethodName) jdk_42_method_56_code (2 : Nat) (Option.some Jvm.ClassFile.FieldType.char)).before args0 about1 = true := code_word (m := ⟨7, 3⟩) (meth := k7m3) (c := k7c3) (by decide +kernel) rfl rfl rfl (by decide +kernel)
set_option maxRecDepth 65536 in
theorem w_c13 : (Jvm.Cond.code ({ cls := "java/lang/String", name := "isLatin1", desc := "()Z" } : Jvm.MethodName) jdk_42_method_154_code (1 : Nat) (Option.some Jvm.ClassFile.FieldType.boolean)).before args0 about1 = true := code_word (m := ⟨7, 6⟩) (meth := k7m6) (c := k7c6) (by decide +kernel) rfl rfl rfl (by decide +kernel)
set_option maxRecDepth 65536 in
theorem w_c14 : (Jvm.Cond.code ({ cls := "java/lang/StringLatin1", name := "charAt", desc := "([BI)C" } : Jvm.MethodName) jdk_43_method_2_code (2 : Nat) (Option.some Jvm.ClassFile.FieldType.char)).before args0 about1 = true := code_word (m := ⟨11, 1⟩) (meth := k11m1) (c := k11c1) (by decide +kernel) rfl rfl rfl (by decide +kernel)
set_option maxRecDepth 65536 in
theorem w_c15 : (Jvm.Cond.code ({ cls := "java/lang/String", name := "checkIndex", desc := "(II)V" } : Jvm.MethodName) jdk_42_method_155_code (2 : Nat) (Option.none : Option Jvm.ClassFile.FieldType)).before args0 about1 = true := code_word (m := ⟨7, 7⟩) (meth := k7m7) (c := k7c7) (by decide +kernel) rfl rfl rfl (by decide +kernel)
set_option maxRecDepth 65536 in
theorem w_c16 : (Jvm.Cond.code ({ cls := "jdk/internal/util/Preconditions", name := "checkIndex", desc := "(IILjava/util/function/BiFunction;)I" } : Jvm.MethodName) jdk_41_method_11_code (3 : Nat) (Option.some Jvm.ClassFile.FieldType.int)).before args0 about1 = true := code_word (m := ⟨12, 1⟩) (meth := k12m1) (c := k12c1) (by decide +kernel) rfl rfl rfl (by decide +kernel)
set_option maxRecDepth 65536 in
theorem w_c17 : (Jvm.Cond.code ({ cls := "java/lang/StringUTF16", name := "toBytes", desc := "([CII)[B" } : Jvm.MethodName) jdk_52_method_14_code (5 : Nat) (Option.some (Jvm.ClassFile.FieldType.array Jvm.ClassFile.FieldType.byte))).before args0 about1 = true := code_word (m := ⟨10, 6⟩) (meth := k10m6) (c := k10c6) (by decide +kernel) rfl rfl rfl (by decide +kernel)
set_option maxRecDepth 65536 in
theorem w_c18 : (Jvm.Cond.code ({ cls := "java/lang/StringUTF16", name := "newBytesFor", desc := "(I)[B" } : Jvm.MethodName) jdk_52_method_2_code (1 : Nat) (Option.some (Jvm.ClassFile.FieldType.array Jvm.ClassFile.FieldType.byte))).before args0 about1 = true := code_word (m := ⟨10, 1⟩) (meth := k10m1) (c := k10c1) (by decide +kernel) rfl rfl rfl (by decide +kernel)
set_option maxRecDepth 65536 in
theorem w_c19 : (Jvm.Cond.code ({ cls := "java/lang/StringUTF16", name := "newBytesLength", desc := "(I)I" } : Jvm.MethodName) jdk_52_method_3_code (1 : Nat) (Option.some Jvm.ClassFile.FieldType.int)).before args0 about1 = true := code_word (m := ⟨10, 2⟩) (meth := k10m2) (c := k10c2) (by decide +kernel) rfl rfl rfl (by decide +kernel)
set_option maxRecDepth 65536 in
theorem w_c20 : (Jvm.Cond.code ({ cls := "java/lang/StringUTF16", name := "putChar", desc := "([BII)V" } : Jvm.MethodName) jdk_52_method_4_code (3 : Nat) (Option.none : Option Jvm.ClassFile.FieldType)).before args0 about1 = true := code_word (m := ⟨10, 3⟩) (meth := k10m3) (c := k10c3) (by decide +kernel) rfl rfl rfl (by decide +kernel)
set_option maxRecDepth 65536 in
theorem w_c21 : (Jvm.Cond.code ({ cls := "java/lang/StringUTF16", name := "getChar", desc := "([BI)C" } : Jvm.MethodName) jdk_52_method_5_code (2 : Nat) (Option.some Jvm.ClassFile.FieldType.char)).before args0 about1 = true := code_word (m := ⟨10, 4⟩) (meth := k10m4) (c := k10c4) (by decide +kernel) rfl rfl rfl (by decide +kernel)
set_option maxRecDepth 65536 in
theorem w_c22 : (Jvm.Cond.code ({ cls := "java/lang/StringUTF16", name := "charAt", desc := "([BI)C" } : Jvm.MethodName) jdk_52_method_83_code (2 : Nat) (Option.some Jvm.ClassFile.FieldType.char)).before args0 about1 = true := code_word (m := ⟨10, 10⟩) (meth := k10m10) (c := k10c10) (by decide +kernel) rfl rfl rfl (by decide +kernel)
set_option maxRecDepth 65536 in
theorem w_c23 : (Jvm.Cond.code ({ cls := "java/lang/StringUTF16", name := "checkIndex", desc := "(I[B)V" } : Jvm.MethodName) jdk_52_method_91_code (2 : Nat) (Option.none : Option Jvm.ClassFile.FieldType)).before args0 about1 = true := code_word (m := ⟨10, 11⟩) (meth := k10m11) (c := k10c11) (by decide +kernel) rfl rfl rfl (by decide +kernel)
set_option maxRecDepth 65536 in
theorem w_c24 : (Jvm.Cond.code ({ cls := "java/lang/StringUTF16", name := "length", desc := "([B)I" } : Jvm.MethodName) jdk_52_method_6_code (1 : Nat) (Option.some Jvm.ClassFile.FieldType.int)).before args0 about1 = true := code_word (m := ⟨10, 5⟩) (meth := k10m5) (c := k10c5) (by decide +kernel) rfl rfl rfl (by decide +kernel)
def codes1 : List Jvm.Cond := [Jvm.Cond.code x code maxLocals ret, Jvm.Cond.code ({ cls := "com/example/tenorloom/tenorloom/bond/BondIsCurrencyCodePinLaw", name := "draw", desc := "(I)C" } : Jvm.MethodName) method_3_code (1 : Nat) (Option.some Jvm.ClassFile.FieldType.char), Jvm.Cond.code ({ cls := "java/lang/String", name := "<init>", desc := "([C)V" } : Jvm.MethodName) jdk_42_method_3_code (2 : Nat) (Option.none : Option Jvm.ClassFile.FieldType), Jvm.Cond.code ({ cls := "java/lang/String", name := "<init>", desc := "([CIILjava/lang/Void;)V" } : Jvm.MethodName) jdk_42_method_149_code (6 : Nat) (Option.none : Option Jvm.ClassFile.FieldType), Jvm.Cond.code ({ cls := "java/lang/Object", name := "<init>", desc := "()V" } : Jvm.MethodName) object_method_1_code (1 : Nat) (Option.none : Option Jvm.ClassFile.FieldType), Jvm.Cond.code ({ cls := "com/example/tenorloom/tenorloom/bond/Bond", name := "isCurrencyCode", desc := "(Ljava/lang/String;)Z" } : Jvm.MethodName) prog_6_method_3_code (3 : Nat) (Option.some Jvm.ClassFile.FieldType.boolean), Jvm.Cond.code ({ cls := "java/lang/String", name := "length", desc := "()I" } : Jvm.MethodName) jdk_42_method_54_code (1 : Nat) (Option.some Jvm.ClassFile.FieldType.int), Jvm.Cond.code ({ cls := "java/lang/String", name := "coder", desc := "()B" } : Jvm.MethodName) jdk_42_method_152_code (1 : Nat) (Option.some Jvm.ClassFile.FieldType.byte), Jvm.Cond.code ({ cls := "java/lang/StringUTF16", name := "compress", desc := "([CII)[B" } : Jvm.MethodName) jdk_52_method_16_code (6 : Nat) (Option.some (Jvm.ClassFile.FieldType.array Jvm.ClassFile.FieldType.byte)), Jvm.Cond.code ({ cls := "java/lang/StringUTF16", name := "compress", desc := "([CI[BII)I" } : Jvm.MethodName) jdk_52_method_21_code (7 : Nat) (Option.some Jvm.ClassFile.FieldType.int), Jvm.Cond.code ({ cls := "java/lang/StringUTF16", name := "coderFromArrayLen", desc := "([BI)B" } : Jvm.MethodName) jdk_52_method_15_code (2 : Nat) (Option.some Jvm.ClassFile.FieldType.byte), Jvm.Cond.code ({ cls := "com/example/tenorloom/tenorloom/bond/BondIsCurrencyCodePinLaw", name := "cap", desc := "(C)Z" } : Jvm.MethodName) method_4_code (1 : Nat) (Option.some Jvm.ClassFile.FieldType.boolean), Jvm.Cond.code ({ cls := "java/lang/String", name := "charAt", desc := "(I)C" } : Jvm.MethodName) jdk_42_method_56_code (2 : Nat) (Option.some Jvm.ClassFile.FieldType.char), Jvm.Cond.code ({ cls := "java/lang/String", name := "isLatin1", desc := "()Z" } : Jvm.MethodName) jdk_42_method_154_code (1 : Nat) (Option.some Jvm.ClassFile.FieldType.boolean), Jvm.Cond.code ({ cls := "java/lang/StringLatin1", name := "charAt", desc := "([BI)C" } : Jvm.MethodName) jdk_43_method_2_code (2 : Nat) (Option.some Jvm.ClassFile.FieldType.char), Jvm.Cond.code ({ cls := "java/lang/String", name := "checkIndex", desc := "(II)V" } : Jvm.MethodName) jdk_42_method_155_code (2 : Nat) (Option.none : Option Jvm.ClassFile.FieldType), Jvm.Cond.code ({ cls := "jdk/internal/util/Preconditions", name := "checkIndex", desc := "(IILjava/util/function/BiFunction;)I" } : Jvm.MethodName) jdk_41_method_11_code (3 : Nat) (Option.some Jvm.ClassFile.FieldType.int), Jvm.Cond.code ({ cls := "java/lang/StringUTF16", name := "toBytes", desc := "([CII)[B" } : Jvm.MethodName) jdk_52_method_14_code (5 : Nat) (Option.some (Jvm.ClassFile.FieldType.array Jvm.ClassFile.FieldType.byte)), Jvm.Cond.code ({ cls := "java/lang/StringUTF16", name := "newBytesFor", desc := "(I)[B" } : Jvm.MethodName) jdk_52_method_2_code (1 : Nat) (Option.some (Jvm.ClassFile.FieldType.array Jvm.ClassFile.FieldType.byte)), Jvm.Cond.code ({ cls := "java/lang/StringUTF16", name := "newBytesLength", desc := "(I)I" } : Jvm.MethodName) jdk_52_method_3_code (1 : Nat) (Option.some Jvm.ClassFile.FieldType.int), Jvm.Cond.code ({ cls := "java/lang/StringUTF16", name := "putChar", desc := "([BII)V" } : Jvm.MethodName) jdk_52_method_4_code (3 : Nat) (Option.none : Option Jvm.ClassFile.FieldType), Jvm.Cond.code ({ cls := "java/lang/StringUTF16", name := "getChar", desc := "([BI)C" } : Jvm.MethodName) jdk_52_method_5_code (2 : Nat) (Option.some Jvm.ClassFile.FieldType.char), Jvm.Cond.code ({ cls := "java/lang/StringUTF16", name := "charAt", desc := "([BI)C" } : Jvm.MethodName) jdk_52_method_83_code (2 : Nat) (Option.some Jvm.ClassFile.FieldType.char), Jvm.Cond.code ({ cls := "java/lang/StringUTF16", name := "checkIndex", desc := "(I[B)V" } : Jvm.MethodName) jdk_52_method_91_code (2 : Nat) (Option.none : Option Jvm.ClassFile.FieldType), Jvm.Cond.code ({ cls := "java/lang/StringUTF16", name := "length", desc := "([B)I" } : Jvm.MethodName) jdk_52_method_6_code (1 : Nat) (Option.some Jvm.ClassFile.FieldType.int)]
set_option maxRecDepth 65536 in
theorem codes_eq : words1.filter isCode = codes1 := rfl
theorem w_codes : ∀ c ∈ words1.filter isCode, c.before args0 about1 = true := by
  rw [codes_eq]
  intro c hc
  simp only [codes1, List.mem_cons, List.not_mem_nil, or_false] at hc
  rcases hc with rfl | rfl | rfl | rfl | rfl | rfl | rfl | rfl | rfl | rfl | rfl | rfl | rfl | rfl | rfl | rfl | rfl | rfl | rfl | rfl | rfl | rfl | rfl | rfl | rfl
  · exact w_c0
  · exact w_c1
  · exact w_c2
  · exact w_c3
  · exact w_c4
  · exact w_c5
  · exact w_c6
  · exact w_c7
  · exact w_c8
  · exact w_c9
  · exact w_c10
  · exact w_c11
  · exact w_c12
  · exact w_c13
  · exact w_c14
  · exact w_c15
  · exact w_c16
  · exact w_c17
  · exact w_c18
  · exact w_c19
  · exact w_c20
  · exact w_c21
  · exact w_c22
  · exact w_c23
  · exact w_c24
set_option maxRecDepth 65536 in
theorem w_t1 : (words1.take 24).all (fun c => isCode c || c.before args0 about1) = true := by decide +kernel
set_option maxRecDepth 65536 in
theorem w_t2 : ((words1.drop 24).take 24).all (fun c => isCode c || c.before args0 about1) = true := by decide +kernel
set_option maxRecDepth 65536 in
theorem w_t3 : (((words1.drop 24).drop 24).take 24).all (fun c => isCode c || c.before args0 about1) = true := by decide +kernel
set_option maxRecDepth 65536 in
theorem w_t4 : ((((words1.drop 24).drop 24).drop 24).take 24).all (fun c => isCode c || c.before args0 about1) = true := by decide +kernel
set_option maxRecDepth 65536 in
theorem w_t5 : ((((words1.drop 24).drop 24).drop 24).drop 24).all (fun c => isCode c || c.before args0 about1) = true := by decide +kernel
theorem w_tables : (allAtoms (Jvm.Cond.code x code maxLocals ret :: tables_1)).before args0 about1 = true := by
  rw [allAtoms_all]
  show words1.all (fun c => c.before args0 about1) = true
  refine all_split ?_ w_codes
  rw [← List.take_append_drop 24 words1, List.all_append, w_t1, ← List.take_append_drop 24 (words1.drop 24), List.all_append, w_t2, ← List.take_append_drop 24 ((words1.drop 24).drop 24), List.all_append, w_t3, ← List.take_append_drop 24 (((words1.drop 24).drop 24).drop 24), List.all_append, w_t4, w_t5]
  rfl
set_option maxRecDepth 65536 in
theorem w_rest : rest_1_c.before args0 about1 = true := by decide +kernel
set_option maxRecDepth 65536 in
theorem w_case : (Jvm.Cond.and given_1 narrow_1).before args0 about1 = true := by decide +kernel
set_option maxRecDepth 65536 in
theorem w_consts : constsHeld consts_1 about1 := Jvm.Lit.constsHeldB_iff.mp (by decide +kernel)
theorem w_applies : (headSpec (Jvm.Cond.code x code maxLocals ret :: tables_1) room_1).applies x e0.platform about1 = true :=
  (Spec.applies_iff w_frames).mpr ⟨w_running, w_runnable, w_alone, w_named, w_hears, w_ripe, w_room, w_tables⟩
theorem atStart : AtStart classFile x code maxLocals ret World_1 tables_1 room_1 Calls_1 rest_1 Pre_1 launch0 p0 e0 about1 theMethod args0 below0 :=
  ⟨lists_1, trivial, launch0.admits_env _ _ _, launch0.least_env, fairChoices_fair.cas, fairChoices_fair.clock, w_frames, w_args, w_heap, w_applies, ⟨w_consts, trivial⟩, w_rest, w_case⟩
end start1
theorem witness_1 : WitnessClaimed_1 := ⟨start1.p0, start1.e0, start1.about1, start1.theMethod, start1.args0, start1.below0, start1.atStart⟩
end Jvm.Pilot.@@N@@
