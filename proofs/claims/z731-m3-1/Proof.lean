import JvmDerived
import JvmDerived.Pilot.@@N@@Statement
import JvmDerived.Pilot.@@N@@Code
set_option linter.unusedVariables false
set_option linter.unusedSimpArgs false


namespace Jvm.OwnW
open Sem ClassFile Op Lib Jvm.Free Jvm.LawKit Jvm.RoadKit
abbrev Cx : Type := Program × Env × State × MethodId × Array Value × List Frame × Method × Code
abbrev Cx.p (x : Cx) : Program := x.1
abbrev Cx.e (x : Cx) : Env := x.2.1
abbrev Cx.s (x : Cx) : State := x.2.2.1
abbrev Cx.m (x : Cx) : MethodId := x.2.2.2.1
abbrev Cx.args (x : Cx) : Array Value := x.2.2.2.2.1
abbrev Cx.below (x : Cx) : List Frame := x.2.2.2.2.2.1
abbrev Cx.meth (x : Cx) : Method := x.2.2.2.2.2.2.1
abbrev Cx.c (x : Cx) : Code := x.2.2.2.2.2.2.2
/-- how a contract ends: narrow or wide -/
def FinE (wd : Bool) (Z : State) (EL : List (String × Nat)) (s : State) (o : Outcome) (t : State) (L : List Loc) (k n : Nat) : Prop :=
  match wd with
  | false => FrameEnd s o t L k n
  | true => CHr Z EL s.vm s.heap t.vm t.heap ∧ ReturnedEndW s o t L k n
def Ct (wd : Bool) (l : Launch) (Z : State) (EL : List (String × Nat)) (y : MethodName) (bytes : ByteArray) (maxL : Nat) (ret : Option FieldType) (ws : List Jvm.Cond) (R : Room) (sf : List Addr) (as' : Array Value) (h : Heap) (Q : Option Value → Heap → Prop) : Prop :=
  MetFree l y (head1 (Jvm.Cond.code y bytes maxL ret :: ws) R) (fun a U => a = as' ∧ Z.Warmed39 U.vm ∧ U.heap = h ∧ (wd = true → CHv Z EL U.vm h ∧ ∀ y ∈ sf, Safe Z EL U.vm h y)) (fun _ _ _ _ _ => True)
    (fun _ U o U' => ∃ v L, o = .returned v ∧ (Q v U'.heap ∧ Fr Z.heap.size L ∧ Ext Z.heap U'.heap ∧ h.size ≤ U'.heap.size) ∧ FinE wd Z EL U o U' L R.cells R.slots)
def Go (x : Cx) (wd : Bool) (Z : State) (EL : List (String × Nat)) (R : Room) (Q : Option Value → Heap → Prop) (T : State) (pc : Nat) (ls : Array Slot) (st : List Value) : Prop :=
  ∃ s₂ o, Steps x.p.tables x.e x.below (T.setTop (mkF x.m pc ls st)) s₂ ∧ s₂.status = .running ∧ Ended s₂ x.below o ∧ ∃ v L, o = .returned v ∧ (Q v s₂.heap ∧ Fr Z.heap.size L ∧ Ext Z.heap s₂.heap ∧ x.s.heap.size ≤ s₂.heap.size) ∧ FinE wd Z EL x.s o s₂ L R.cells R.slots
def W (x : Cx) (wd : Bool) (l : Launch) (Z : State) (EL : List (String × Nat)) (R : Room) (own : String) (code : ByteArray) (mx : Nat) (ret : Option FieldType) (nm : String) (T : State) (h : Heap) (k n : Nat) (sf : List Addr) : Prop :=
  x.p.tables.exec = Jvm.exec ∧ x.c.code = code ∧ x.c.maxLocals = mx ∧ x.meth.sig.returnType = ret ∧ x.meth.name = nm ∧ x.meth.locks = false ∧ T.heap = h ∧ Ext Z.heap h ∧ k ≤ R.cells ∧ n ≤ R.slots ∧ (∀ y ∈ sf, Z.heap.size ≤ y ∧ y < h.size) ∧ (∃ a0, EW Z a0 EL) ∧
    ∃ (L : List Loc) (vm0 : Vm), Fr Z.heap.size L ∧ (wd = false → vm0 = x.s.vm) ∧ Stand x.p l x.e R (x.s.setVm vm0) x.m x.args x.below x.meth x.c T L k n ∧ x.s.Since vm0 h.size ∧ Z.Warmed39 vm0 ∧ vm0.findClass own = some x.m.cls ∧ (wd = true → CHr Z EL x.s.vm x.s.heap vm0 h ∧ ∀ y ∈ sf, Safe Z EL vm0 h y)
/-- an instruction, its length, the next pc -/
def Dc (code : ByteArray) (pc : Nat) (i : Instr) (len pc' : Nat) : Prop := decode code pc = .ok (i, len) ∧ pc + len = pc'
/-- where a branch goes -/
def Tg (pc : Nat) (o : Int) (pc' : Nat) : Prop := 0 ≤ (pc : Int) + o ∧ ((pc : Int) + o).toNat = pc'
theorem since_mono {s : State} {vm : Vm} {n n' : Nat} (h : s.Since vm n) (q : n ≤ n') : s.Since vm n' := ⟨h.1, h.2.mono q⟩
theorem setVm_self (s : State) : s.setVm s.vm = s := rfl
theorem ext_refl (h : Heap) : Ext h h := ⟨Nat.le_refl _, fun _ _ q => q⟩
theorem ext_trans {a b c : Heap} (h1 : Ext a b) (h2 : Ext b c) : Ext a c := ⟨Nat.le_trans h1.1 h2.1, fun x q r => h2.2 x q (h1.2 x q r)⟩
theorem ext_wr {Z : State} {h h' : Heap} {a : Addr} {sl : Nat} {v : Value} (E : Ext Z.heap h) (w : Wr h h' a sl v) (q : Z.heap.size ≤ a) : Ext Z.heap h' := (Old.wr ⟨rfl, E⟩ w q).2
theorem keep_ext {h h' : Heap} {ws : List Addr} (E : Ext h h') : Keep h h' ws := (Keep.refl h ws).ext E
theorem ext_keep {h h' : Heap} (K : Keep h h' []) : Ext h h' := ⟨K.1, fun x c q => K.2.1 x c q nin0⟩
theorem keep_to {h0 h h' : Heap} {ws : List Addr} (E : Ext h0 h) (K : Keep h h' ws) (q : ∀ x ∈ ws, h0.size ≤ x) : Ext h0 h' :=
  ⟨Nat.le_trans E.1 K.1, fun x c r => K.2.1 x c (E.2 x c r) fun z => absurd (Array.getElem?_eq_some_iff.mp r).1 (Nat.not_lt.mpr (q x z))⟩
theorem Ct.mono {wd : Bool} {l : Launch} {Z : State} {EL : List (String × Nat)} {y : MethodName} {bytes : ByteArray} {maxL : Nat} {ret : Option FieldType} {ws : List Jvm.Cond} {R : Room} {sf : List Addr} {as' : Array Value} {h : Heap} {Q Q' : Option Value → Heap → Prop} (C : Ct wd l Z EL y bytes maxL ret ws R sf as' h Q) (q : ∀ v u, Q v u → Q' v u) : Ct wd l Z EL y bytes maxL ret ws R sf as' h Q' := by
  intro p e h1 h2 h3 s m args below h4 h5 h6 h7
  obtain ⟨n, o, a1, a2, a3, v, L, a4, a5, a6⟩ := C p e h1 h2 h3 s m args below h4 h5 h6 h7
  exact ⟨n, o, a1, a2, a3, v, L, a4, ⟨q _ _ a5.1, a5.2⟩, a6⟩
theorem Ct.intro {wd : Bool} {l : Launch} {Z : State} {EL : List (String × Nat)} {y : MethodName} {bytes : ByteArray} {maxL : Nat} {ret : Option FieldType} {ws : List Jvm.Cond} {R : Room} {sf : List Addr} {as' : Array Value} {h : Heap} {Q : Option Value → Heap → Prop} {ls : Array Slot}
    (hpl : plainName y.cls = true) (hE : Ext Z.heap h) (ef : ∀ m, entryFrame m as' maxL = mkF m 0 ls []) (hsf : ∀ y ∈ sf, Z.heap.size ≤ y ∧ y < h.size) (hEL : ∃ a0, EW Z a0 EL)
    (body : ∀ (x : Cx) (T : State), W x wd l Z EL R y.cls bytes maxL ret y.name T h 0 0 sf → Go x wd Z EL R Q T 0 ls []) : Ct wd l Z EL y bytes maxL ret ws R sf as' h Q := by
  refine MetFree.of_bodySF (plainFor_of_name hpl) hisR ?_
  intro p e s m args below meth c s₁ Bd hml0 hP hK
  obtain ⟨rfl, hZ, hh, hC⟩ := hP
  have hown : s.vm.findClass y.cls = some m.cls := findClass_of_methodNamed Bd.named
  have hnm := (name_of_methodNamed Bd.named Bd.method).1
  have e0 : s₁.heap = h := by rw [← hh, Bd.state]; rfl
  obtain ⟨s₂, o, a1, a2, a3, v, L, a4, a5, a6⟩ := body (p, e, s, m, args, below, meth, c) s₁ ⟨Bd.exec, Bd.bytes, hml0, Bd.returns, hnm, Bd.notSynchronized, e0, hE, Nat.zero_le _, Nat.zero_le _, hsf, hEL, [], s.vm, Fr.nil _, fun _ => rfl, Stand.of_body Bd, (State.WarmedH.refl s).since _, hZ, hown, fun q => ⟨by show CHr Z EL s.vm s.heap s.vm h; rw [hh]; exact CHr.refl (hC q).1, (hC q).2⟩⟩
  exact ⟨s₂, o, castTop (ef m) a1, a2, a3, v, L, a4, ⟨a5.1, a5.2.1, a5.2.2.1, by rw [← hh]; exact a5.2.2.2⟩, a6⟩
theorem nosf {Z : State} {h : Heap} : ∀ y ∈ ([] : List Addr), Z.heap.size ≤ y ∧ y < h.size := fun _ q => nomatch q
theorem onesf {Z : State} {h : Heap} {a : Addr} (g : Z.heap.size ≤ a) (q : a < h.size) : ∀ y ∈ [a], Z.heap.size ≤ y ∧ y < h.size := fun y z => by cases List.mem_singleton.mp z; exact ⟨g, q⟩
theorem noEL {Z : State} {a0 : Array Value} : ∃ a0, EW Z a0 [] := ⟨a0, EW.nil⟩
/-- a wide callee's contract, as the library's calls want it -/
theorem backW {p : Program} {l : Launch} {e : Env} {R : Room} {s : State} {args : Array Value} {below : List Frame} {Z : State} {a0 : Array Value} {EL : List (String × Nat)} {h : Heap} {vm0 : Vm} {y : MethodName} {bytes : ByteArray} {maxL : Nat} {ret : Option FieldType} {rm : Room} {len Wn : Nat} {as' : Array Value} {sf : List Addr} {Q : Option Value → Heap → Prop}
    (hM : Ct true l Z EL y bytes maxL ret [] rm sf as' h Q) (hZ : Z.Warmed39 vm0) (wc : (Jvm.Cond.code y bytes maxL ret).before a0 Z = true) (wz : (Jvm.Cond.initialized y.cls).before a0 Z = true) (hf : rm.frames + 1 ≤ R.frames) (hl : Wn + (maxL + 11) + rm.locals ≤ R.locals) (hEL : ∃ a0, EW Z a0 EL) (H : CHv Z EL vm0 h) (hsf : ∀ y ∈ sf, y < h.size ∧ Safe Z EL vm0 h y) :
    BackS l R p e below (s.setVm vm0) args y len Wn (fun A a => a = as' ∧ A.U.heap = h ∧ A.cells + rm.cells ≤ R.cells ∧ A.slots + rm.slots ≤ R.slots)
      (fun A _ v B => ∃ L, (Q v B.U.heap ∧ Fr Z.heap.size L ∧ Ext Z.heap B.U.heap ∧ h.size ≤ B.U.heap.size) ∧ B.locs = A.locs ++ L ∧ B.cells = A.cells + rm.cells ∧ B.slots = A.slots + rm.slots ∧ CHr Z EL vm0 h B.U.vm B.U.heap) := by
  obtain ⟨a1, hEL⟩ := hEL
  exact BackS.of_freeW (bytes := bytes) (maxL := maxL) (ret := ret) (E := fun _ first o t L k n => k = rm.cells ∧ n = rm.slots ∧ (∃ v, o = .returned v ∧ (Q v t.heap ∧ Fr Z.heap.size L ∧ Ext Z.heap t.heap ∧ h.size ≤ t.heap.size)) ∧ CHr Z EL first.vm first.heap t.vm t.heap) hM hf hl
    (fun m meth c A a Y hp => have hU : Z.Warmed39 A.U.vm := wtrans (s := s.setVm vm0) hZ Y.warmed
      ⟨by show (Jvm.Cond.and _ .tt).before a A.U = true; rw [Cond.before_and, mv hU wc]; rfl, mv hU wc, mv hU wz, hp.2.2.1, hp.2.2.2⟩)
    (fun m meth c A a g mk Y hp => ⟨hp.1, wtrans (s := s.setVm vm0) hZ Y.warmed, hp.2.1, fun _ => ⟨(CHv.at Y hZ hEL H).1, fun y hy => (CHv.at Y hZ hEL H).safe (hsf y hy).1 (hsf y hy).2⟩⟩) (fun _ _ _ _ _ _ _ _ _ => trivial)
    (fun _ _ _ _ ⟨v, L, h1, h2, h3, h4⟩ => ⟨L, _, _, h4, rfl, rfl, ⟨v, h1, h2⟩, h3⟩)
    (fun m meth c A a g mk v t L k n Y hp _ _ ⟨e1, e2, ⟨v', e3, e4⟩, e5⟩ => by
      cases e3; subst e1 e2
      refine ⟨L, e4, rfl, rfl, rfl, (CHv.at Y hZ hEL H).trans ?_⟩
      rw [← hp.2.1]; exact e5)
/-- a narrow callee's -/
theorem backN {p : Program} {l : Launch} {e : Env} {R : Room} {s : State} {args : Array Value} {below : List Frame} {Z : State} {a0 : Array Value} {EL : List (String × Nat)} {h : Heap} {y : MethodName} {bytes : ByteArray} {maxL : Nat} {ret : Option FieldType} {rm : Room} {len Wn : Nat} {as' : Array Value} {sf : List Addr} {Q : Option Value → Heap → Prop}
    (hM : Ct false l Z EL y bytes maxL ret [] rm sf as' h Q) (hZ : Z.Warmed39 s.vm) (wc : (Jvm.Cond.code y bytes maxL ret).before a0 Z = true) (wz : (Jvm.Cond.initialized y.cls).before a0 Z = true) (hf : rm.frames + 1 ≤ R.frames) (hl : Wn + (maxL + 11) + rm.locals ≤ R.locals) :
    Back l R p e below s args y len Wn (fun A a => a = as' ∧ A.U.heap = h ∧ A.cells + rm.cells ≤ R.cells ∧ A.slots + rm.slots ≤ R.slots)
      (fun A _ v B => ∃ L, (Q v B.U.heap ∧ Fr Z.heap.size L ∧ Ext Z.heap B.U.heap ∧ h.size ≤ B.U.heap.size) ∧ B.locs = A.locs ++ L ∧ B.cells = A.cells + rm.cells ∧ B.slots = A.slots + rm.slots) :=
  backOf (Q := fun v u L => Q v u ∧ Fr Z.heap.size L ∧ Ext Z.heap u ∧ h.size ≤ u.size) (fun p e h1 h2 h3 s m args below h4 h5 h6 h7 => hM p e h1 h2 h3 s m args below h4 h5 ⟨h6.1, h6.2.1, h6.2.2, fun q => by cases q⟩ h7) hZ wc wz hf hl
section Laws
variable {x : Cx} {wd : Bool} {l : Launch} {Z : State} {EL : List (String × Nat)} {sf : List Addr} {R : Room} {own : String} {code : ByteArray} {mx : Nat} {ret : Option FieldType} {nm : String} {T : State} {h : Heap} {k n : Nat} {Q : Option Value → Heap → Prop} {pc pc' pcT : Nat} {ls : Array Slot} {st : List Value} {a0 : Array Value}
theorem W.old (w : W x wd l Z EL R own code mx ret nm T h k n sf) : Ext Z.heap h := w.2.2.2.2.2.2.2.1
theorem W.size (w : W x wd l Z EL R own code mx ret nm T h k n sf) : Z.heap.size ≤ h.size := w.old.1
theorem W.sta {C f d : String} {v : Value} (w : W x wd l Z EL R own code mx ret nm T h k n sf) (F : Sta Z Z.heap C f d v) : Sta Z h C f d v := F.ext w.old
/-- more cells and slots may be booked -/
theorem W.more {k' n' : Nat} (w : W x wd l Z EL R own code mx ret nm T h k n sf) (hk : k ≤ k') (hn : n ≤ n') (hk' : k' ≤ R.cells) (hn' : n' ≤ R.slots) : W x wd l Z EL R own code mx ret nm T h k' n' sf := by
  obtain ⟨a1, a2, a3, a4, a5, a6, a7, a8, a9, a10, a13, a14, L, vm0, a11, a12, X, b1, b2, b3, b4⟩ := w
  exact ⟨a1, a2, a3, a4, a5, a6, a7, a8, hk', hn', a13, a14, L, vm0, a11, a12, X.mono hk hn, b1, b2, b3, b4⟩
/-- fewer places that may be written -/
theorem W.less {sf' : List Addr} (w : W x wd l Z EL R own code mx ret nm T h k n sf) (q : ∀ y ∈ sf', y ∈ sf) : W x wd l Z EL R own code mx ret nm T h k n sf' := by
  obtain ⟨a1, a2, a3, a4, a5, a6, a7, a8, a9, a10, a13, a14, L, vm0, a11, a12, X, b1, b2, b3, b4⟩ := w
  exact ⟨a1, a2, a3, a4, a5, a6, a7, a8, a9, a10, fun y hy => a13 y (q y hy), a14, L, vm0, a11, a12, X, b1, b2, b3, fun e => ⟨(b4 e).1, fun y hy => (b4 e).2 y (q y hy)⟩⟩
/-- a new address that may be written, made by a callee -/
theorem W.adopt (w : W x wd l Z EL R own code mx ret nm T h k n sf) {d : Addr} (g : Z.heap.size ≤ d) (q : d < h.size) (f : ∀ vm, Z.Warmed39 vm → Safe Z EL vm h d) : W x wd l Z EL R own code mx ret nm T h k n (d :: sf) := by
  obtain ⟨a1, a2, a3, a4, a5, a6, a7, a8, a9, a10, a13, a14, L, vm0, a11, a12, X, b1, b2, b3, b4⟩ := w
  refine ⟨a1, a2, a3, a4, a5, a6, a7, a8, a9, a10, fun y hy => ?_, a14, L, vm0, a11, a12, X, b1, b2, b3, fun e => ⟨(b4 e).1, fun y hy => ?_⟩⟩
  · rcases List.mem_cons.mp hy with rfl | hy
    · exact ⟨g, q⟩
    · exact a13 y hy
  · rcases List.mem_cons.mp hy with rfl | hy
    · exact f vm0 b2
    · exact (b4 e).2 y hy
theorem W.go {pc' : Nat} {ls' : Array Slot} {st' : List Value} (w : W x wd l Z EL R own code mx ret nm T h k n sf)
    (f : At T x.m x.c x.below → x.p.tables.exec = Jvm.exec → x.c.code = code → ∀ target, Steps x.p.tables x.e x.below (T.setTop (mkF x.m pc' ls' st')) target → Steps x.p.tables x.e x.below (T.setTop (mkF x.m pc ls st)) target)
    (K : Go x wd Z EL R Q T pc' ls' st') : Go x wd Z EL R Q T pc ls st := by
  obtain ⟨s₂, o, a1, r⟩ := K
  obtain ⟨hx, hb, -, -, -, -, -, -, -, -, -, -, L, vm0, -, -, X, -⟩ := w
  exact ⟨s₂, o, f X.here hx hb _ a1, r⟩
/-- a step that only warms the tables -/
theorem W.goT {pc' : Nat} {ls' : Array Slot} {st' : List Value} (w : W x wd l Z EL R own code mx ret nm T h k n sf)
    (f : ∀ (s0 : State) (L : List Loc), Stand x.p l x.e R s0 x.m x.args x.below x.meth x.c T L k n → x.p.tables.exec = Jvm.exec → Z.Warmed39 s0.vm → s0.vm.findClass own = some x.m.cls → x.c.code = code → x.c.maxLocals = mx → T.heap = h → ∃ T', Stand x.p l x.e R s0 x.m x.args x.below x.meth x.c T' L k n ∧ T'.heap = h ∧ ∀ target, Steps x.p.tables x.e x.below (T'.setTop (mkF x.m pc' ls' st')) target → Steps x.p.tables x.e x.below (T.setTop (mkF x.m pc ls st)) target)
    (K : ∀ T', W x wd l Z EL R own code mx ret nm T' h k n sf → Go x wd Z EL R Q T' pc' ls' st') : Go x wd Z EL R Q T pc ls st := by
  obtain ⟨hx, hb, hm, hr, hn, hl, e0, E, c1, c2, hs, hEL, L, vm0, N, g, X, S, hZ, ho, hC⟩ := w
  obtain ⟨T', X', e', stp⟩ := f _ L X hx hZ ho hb hm e0
  obtain ⟨s₂, o, a1, r⟩ := K T' ⟨hx, hb, hm, hr, hn, hl, e', E, c1, c2, hs, hEL, L, vm0, N, g, X', S, hZ, ho, hC⟩
  exact ⟨s₂, o, stp _ a1, r⟩
/-- a step that makes a cell -/
theorem W.goN {pc' : Nat} {ls' : Array Slot} {st' : List Value} {k' n' : Nat} {P : Heap → Prop} (w : W x wd l Z EL R own code mx ret nm T h k n sf) (hk : k' ≤ R.cells) (hn' : n' ≤ R.slots)
    (f : ∀ (s0 : State) (L : List Loc), Stand x.p l x.e R s0 x.m x.args x.below x.meth x.c T L k n → x.p.tables.exec = Jvm.exec → Z.Warmed39 s0.vm → s0.vm.findClass own = some x.m.cls → x.c.code = code → x.c.maxLocals = mx → T.heap = h → ∃ T' h', Stand x.p l x.e R s0 x.m x.args x.below x.meth x.c T' L k' n' ∧ T'.heap = h' ∧ Ext h h' ∧ h.size < h'.size ∧ P h' ∧ ∀ target, Steps x.p.tables x.e x.below (T'.setTop (mkF x.m pc' ls' st')) target → Steps x.p.tables x.e x.below (T.setTop (mkF x.m pc ls st)) target)
    (K : ∀ T' h', W x wd l Z EL R own code mx ret nm T' h' k' n' (h.size :: sf) → Ext h h' → P h' → Go x wd Z EL R Q T' pc' ls' st') : Go x wd Z EL R Q T pc ls st := by
  obtain ⟨hx, hb, hm, hr, hn, hl, e0, E, c1, c2, hs, hEL, L, vm0, N, g, X, S, hZ, ho, hC⟩ := w
  obtain ⟨T', h', X', e', E', hlt, p', stp⟩ := f _ L X hx hZ ho hb hm e0
  obtain ⟨s₂, o, a1, r⟩ := K T' h' ⟨hx, hb, hm, hr, hn, hl, e', ext_trans E E', hk, hn', fun y hy => by
      rcases List.mem_cons.mp hy with rfl | hy
      · exact ⟨E.1, hlt⟩
      · exact ⟨(hs y hy).1, Nat.lt_of_lt_of_le (hs y hy).2 E'.1⟩, hEL, L, vm0, N, g, X', since_mono S E'.1, hZ, ho, fun q => ⟨(hC q).1.trans (CHr.ext E' (hC q).1.1), fun y hy => by
      rcases List.mem_cons.mp hy with rfl | hy
      · exact (Safe.new (Nat.le_refl _)).ext E' (hC q).1.1
      · exact ((hC q).2 y hy).ext E' (hC q).1.1⟩⟩ E' p'
  exact ⟨s₂, o, stp _ a1, r⟩
/-- a step that writes one place of a new cell -/
theorem W.goW {pc' : Nat} {ls' : Array Slot} {st' : List Value} {a : Addr} {sl : Nat} {v : Value} (w : W x wd l Z EL R own code mx ret nm T h k n sf) (ha : a ∈ sf)
    (f : ∀ (s0 : State) (L : List Loc), Stand x.p l x.e R s0 x.m x.args x.below x.meth x.c T L k n → x.p.tables.exec = Jvm.exec → Z.Warmed39 s0.vm → s0.vm.findClass own = some x.m.cls → x.c.code = code → x.meth.name = nm → T.heap = h → ∃ T' h', Stand x.p l x.e R s0 x.m x.args x.below x.meth x.c T' (L ++ [⟨a, sl⟩]) k n ∧ T'.heap = h' ∧ Wr h h' a sl v ∧ ∀ target, Steps x.p.tables x.e x.below (T'.setTop (mkF x.m pc' ls' st')) target → Steps x.p.tables x.e x.below (T.setTop (mkF x.m pc ls st)) target)
    (K : ∀ T' h', W x wd l Z EL R own code mx ret nm T' h' k n sf → Wr h h' a sl v → Go x wd Z EL R Q T' pc' ls' st') : Go x wd Z EL R Q T pc ls st := by
  obtain ⟨hx, hb, hm, hr, hn, hl, e0, E, c1, c2, hs, hEL, L, vm0, N, g, X, S, hZ, ho, hC⟩ := w
  obtain ⟨T', h', X', e', W', stp⟩ := f _ L X hx hZ ho hb hn e0
  have hz := W'.size
  obtain ⟨s₂, o, a1, r⟩ := K T' h' ⟨hx, hb, hm, hr, hn, hl, e', ext_wr E W' (hs a ha).1, c1, c2, fun y hy => ⟨(hs y hy).1, by rw [hz]; exact (hs y hy).2⟩, hEL, _, vm0, Fr.snoc X' N (hs a ha).1, g, X', since_mono S (Nat.le_of_eq hz.symm), hZ, ho, fun q => ⟨(hC q).1.trans (CHr.wr W' ((hC q).2 a ha) (hC q).1.1), fun y hy => Safe.wr W' ((hC q).2 a ha) (hC q).1.1 ((hC q).2 y hy)⟩⟩ W'
  exact ⟨s₂, o, stp _ a1, r⟩
/-- the end: the value v is handed back -/
theorem W.done {v : Option Value} (w : W x wd l Z EL R own code mx ret nm T h k n sf) (hv : ret = none → v = none) (hQ : Q v h)
    (f : ∀ (s0 : State) (L : List Loc), Stand x.p l x.e R s0 x.m x.args x.below x.meth x.c T L k n → x.p.tables.exec = Jvm.exec → x.c.code = code → x.meth.sig.returnType = ret → ∀ fs : List Frame, (∀ (f : JFrame) (acts : List Action), f.method = x.m → f.locked = none → f.entered = [] → (doReturn x.e (T.setTop f) acts v).1 = T.setFrames fs) → Steps x.p.tables x.e x.below (T.setTop (mkF x.m pc ls st)) (T.setFrames fs)) : Go x wd Z EL R Q T pc ls st := by
  obtain ⟨hx, hb, hm, hr, hn, hl, e0, E, c1, c2, hs, ⟨a9, hEL⟩, L, vm0, N, g, X, S, hZ, ho, hC⟩ := w
  have hv' : x.meth.sig.returnType = none → v = none := fun q => hv (hr ▸ q)
  have hh : ∀ fs, (T.setFrames fs).heap = h := fun fs => e0
  have hg : ∀ fs, x.s.heap.size ≤ (T.setFrames fs).heap.size := fun fs => X.same.2.1
  cases wd with
  | false =>
    have eq := g rfl
    subst eq
    obtain ⟨fs, h1, h2, h3, h4, h5⟩ := X.leave (v := v) hv' hl
    exact ⟨_, _, f _ L X hx hb hr fs h1, h2, h3, v, L, rfl, ⟨(hh fs).symm ▸ hQ, N, (hh fs).symm ▸ E, hg fs⟩, ⟨⟨v, rfl⟩, h4, h5.mono c1 c2⟩⟩
  | true =>
    obtain ⟨fs, h1, h2, h3, h4⟩ := X.leaveW S (by rw [e0]; exact Nat.le_refl _) (v := v) hv' hl
    have hC2 : CHr Z EL x.s.vm x.s.heap T.vm T.heap := by rw [e0]; exact (hC rfl).1.trans (CHv.at X hZ hEL (hC rfl).1.1)
    exact ⟨_, _, f _ L X hx hb hr fs h1, h2, h3, v, L, rfl, ⟨(hh fs).symm ▸ hQ, N, (hh fs).symm ▸ E, hg fs⟩, hC2, ⟨h4.1, h4.2.1, h4.2.2.1, h4.2.2.2.mono c1 c2⟩⟩

theorem W.aloadN (w : W x wd l Z EL R own code mx ret nm T h k n sf) {i : Fin 4} {v : Value} (hd : Dc code pc (.aload_n i) 1 pc') (hl : ls[i.val]? = some (.val v)) (hv : v.isRef = true) (K : Go x wd Z EL R Q T pc' ls (v :: st)) : Go x wd Z EL R Q T pc ls st := by
  obtain ⟨hd, rfl⟩ := hd
  exact w.go (fun A hx hb t hr => XS.aloadN A hx rfl (Jvm.hb hb hd) hl hv hr) K
theorem W.aload (w : W x wd l Z EL R own code mx ret nm T h k n sf) {i : Nat} {v : Value} (hd : Dc code pc (.aload i) 2 pc') (hl : ls[i]? = some (.val v)) (hv : v.isRef = true) (K : Go x wd Z EL R Q T pc' ls (v :: st)) : Go x wd Z EL R Q T pc ls st := by
  obtain ⟨hd, rfl⟩ := hd
  exact w.go (fun A hx hb t hr => XS.aload A hx rfl (Jvm.hb hb hd) hl hv hr) K
theorem W.iloadN (w : W x wd l Z EL R own code mx ret nm T h k n sf) {i : Fin 4} {v : Int32} (hd : Dc code pc (.iload_n i) 1 pc') (hl : ls[i.val]? = some (.val (.int v))) (K : Go x wd Z EL R Q T pc' ls (.int v :: st)) : Go x wd Z EL R Q T pc ls st := by
  obtain ⟨hd, rfl⟩ := hd
  exact w.go (fun A hx hb t hr => XS.iloadN A hx rfl (Jvm.hb hb hd) hl hr) K
theorem W.iload (w : W x wd l Z EL R own code mx ret nm T h k n sf) {i : Nat} {v : Int32} (hd : Dc code pc (.iload i) 2 pc') (hl : ls[i]? = some (.val (.int v))) (K : Go x wd Z EL R Q T pc' ls (.int v :: st)) : Go x wd Z EL R Q T pc ls st := by
  obtain ⟨hd, rfl⟩ := hd
  exact w.go (fun A hx hb t hr => XS.iload A hx rfl (Jvm.hb hb hd) hl hr) K
theorem W.lloadN (w : W x wd l Z EL R own code mx ret nm T h k n sf) {i : Fin 4} {v : Int64} (hd : Dc code pc (.lload_n i) 1 pc') (hl : ls[i.val]? = some (.val (.long v))) (K : Go x wd Z EL R Q T pc' ls (.long v :: st)) : Go x wd Z EL R Q T pc ls st := by
  obtain ⟨hd, rfl⟩ := hd
  exact w.go (fun A hx hb t hr => XT.lloadN A hx rfl (Jvm.hb hb hd) hl hr) K
theorem W.lload (w : W x wd l Z EL R own code mx ret nm T h k n sf) {i : Nat} {v : Int64} (hd : Dc code pc (.lload i) 2 pc') (hl : ls[i]? = some (.val (.long v))) (K : Go x wd Z EL R Q T pc' ls (.long v :: st)) : Go x wd Z EL R Q T pc ls st := by
  obtain ⟨hd, rfl⟩ := hd
  exact w.go (fun A hx hb t hr => XT.lload A hx rfl (Jvm.hb hb hd) hl hr) K
theorem W.iconst (w : W x wd l Z EL R own code mx ret nm T h k n sf) {i : Int} (v : Int32) (hd : Dc code pc (.iconst i) 1 pc') (hv : Int32.ofInt i = v) (K : Go x wd Z EL R Q T pc' ls (.int v :: st)) : Go x wd Z EL R Q T pc ls st := by
  obtain ⟨hd, rfl⟩ := hd
  exact w.go (fun A hx hb t hr => XT.iconstV A hx rfl v (Jvm.hb hb hd) hv hr) K
theorem W.bipush (w : W x wd l Z EL R own code mx ret nm T h k n sf) {i : Int} (v : Int32) (hd : Dc code pc (.bipush i) 2 pc') (hv : (Int8.ofInt i).toInt32 = v) (K : Go x wd Z EL R Q T pc' ls (.int v :: st)) : Go x wd Z EL R Q T pc ls st := by
  obtain ⟨hd, rfl⟩ := hd
  exact w.go (fun A hx hb t hr => XT.bipushV A hx rfl v (Jvm.hb hb hd) hv hr) K
theorem W.sipush (w : W x wd l Z EL R own code mx ret nm T h k n sf) {i : Int} (v : Int32) (hd : Dc code pc (.sipush i) 3 pc') (hv : (Int16.ofInt i).toInt32 = v) (K : Go x wd Z EL R Q T pc' ls (.int v :: st)) : Go x wd Z EL R Q T pc ls st := by
  obtain ⟨hd, rfl⟩ := hd
  exact w.go (fun A hx hb t hr => XT.sipushV A hx rfl v (Jvm.hb hb hd) hv hr) K
theorem W.lconst (w : W x wd l Z EL R own code mx ret nm T h k n sf) {i : Fin 2} (v : Int64) (hd : Dc code pc (.lconst i) 1 pc') (hv : Int64.ofNat i = v) (K : Go x wd Z EL R Q T pc' ls (.long v :: st)) : Go x wd Z EL R Q T pc ls st := by
  obtain ⟨hd, rfl⟩ := hd
  exact w.go (fun A hx hb t hr => XT.lconstV A hx rfl v (Jvm.hb hb hd) hv hr) K
theorem W.aconstNull (w : W x wd l Z EL R own code mx ret nm T h k n sf) (hd : Dc code pc .aconst_null 1 pc') (K : Go x wd Z EL R Q T pc' ls (.null :: st)) : Go x wd Z EL R Q T pc ls st := by
  obtain ⟨hd, rfl⟩ := hd
  exact w.go (fun A hx hb t hr => XS.aconstNull A hx rfl (Jvm.hb hb hd) hr) K
theorem W.iadd (w : W x wd l Z EL R own code mx ret nm T h k n sf) {a b : Int32} (hd : Dc code pc .iadd 1 pc') (K : Go x wd Z EL R Q T pc' ls (.int (a + b) :: st)) : Go x wd Z EL R Q T pc ls (.int b :: .int a :: st) := by
  obtain ⟨hd, rfl⟩ := hd
  exact w.go (fun A hx hb t hr => XS.iadd A hx rfl (Jvm.hb hb hd) rfl hr) K
theorem W.isub (w : W x wd l Z EL R own code mx ret nm T h k n sf) {a b : Int32} (hd : Dc code pc .isub 1 pc') (K : Go x wd Z EL R Q T pc' ls (.int (a - b) :: st)) : Go x wd Z EL R Q T pc ls (.int b :: .int a :: st) := by
  obtain ⟨hd, rfl⟩ := hd
  exact w.go (fun A hx hb t hr => XS.isub A hx rfl (Jvm.hb hb hd) rfl hr) K
theorem W.imul (w : W x wd l Z EL R own code mx ret nm T h k n sf) {a b : Int32} (hd : Dc code pc .imul 1 pc') (K : Go x wd Z EL R Q T pc' ls (.int (a * b) :: st)) : Go x wd Z EL R Q T pc ls (.int b :: .int a :: st) := by
  obtain ⟨hd, rfl⟩ := hd
  exact w.go (fun A hx hb t hr => XS.imul A hx rfl (Jvm.hb hb hd) rfl hr) K
theorem W.iand (w : W x wd l Z EL R own code mx ret nm T h k n sf) {a b : Int32} (hd : Dc code pc .iand 1 pc') (K : Go x wd Z EL R Q T pc' ls (.int (a &&& b) :: st)) : Go x wd Z EL R Q T pc ls (.int b :: .int a :: st) := by
  obtain ⟨hd, rfl⟩ := hd
  exact w.go (fun A hx hb t hr => XS.iand A hx rfl (Jvm.hb hb hd) rfl hr) K
theorem W.ior (w : W x wd l Z EL R own code mx ret nm T h k n sf) {a b : Int32} (hd : Dc code pc .ior 1 pc') (K : Go x wd Z EL R Q T pc' ls (.int (a ||| b) :: st)) : Go x wd Z EL R Q T pc ls (.int b :: .int a :: st) := by
  obtain ⟨hd, rfl⟩ := hd
  exact w.go (fun A hx hb t hr => XT.ior A hx rfl (Jvm.hb hb hd) rfl hr) K
theorem W.ixor (w : W x wd l Z EL R own code mx ret nm T h k n sf) {a b : Int32} (hd : Dc code pc .ixor 1 pc') (K : Go x wd Z EL R Q T pc' ls (.int (a ^^^ b) :: st)) : Go x wd Z EL R Q T pc ls (.int b :: .int a :: st) := by
  obtain ⟨hd, rfl⟩ := hd
  exact w.go (fun A hx hb t hr => XT.ixor A hx rfl (Jvm.hb hb hd) rfl hr) K
theorem W.iushr (w : W x wd l Z EL R own code mx ret nm T h k n sf) {a b : Int32} (hd : Dc code pc .iushr 1 pc') (K : Go x wd Z EL R Q T pc' ls (.int (XT.ushr a b) :: st)) : Go x wd Z EL R Q T pc ls (.int b :: .int a :: st) := by
  obtain ⟨hd, rfl⟩ := hd
  exact w.go (fun A hx hb t hr => XT.iushr A hx rfl (Jvm.hb hb hd) rfl hr) K
theorem W.ishl (w : W x wd l Z EL R own code mx ret nm T h k n sf) {a b : Int32} (hd : Dc code pc .ishl 1 pc') (K : Go x wd Z EL R Q T pc' ls (.int (a <<< (b &&& 31)) :: st)) : Go x wd Z EL R Q T pc ls (.int b :: .int a :: st) := by
  obtain ⟨hd, rfl⟩ := hd
  exact w.go (fun A hx hb t hr => XT.ishl A hx rfl (Jvm.hb hb hd) rfl hr) K
theorem W.ishr (w : W x wd l Z EL R own code mx ret nm T h k n sf) {a b : Int32} (hd : Dc code pc .ishr 1 pc') (K : Go x wd Z EL R Q T pc' ls (.int (a >>> (b &&& 31)) :: st)) : Go x wd Z EL R Q T pc ls (.int b :: .int a :: st) := by
  obtain ⟨hd, rfl⟩ := hd
  exact w.go (fun A hx hb t hr => XT.ishr A hx rfl (Jvm.hb hb hd) rfl hr) K
theorem W.irem (w : W x wd l Z EL R own code mx ret nm T h k n sf) {a b : Int32} (hd : Dc code pc .irem 1 pc') (hy : b ≠ 0) (K : Go x wd Z EL R Q T pc' ls (.int (a % b) :: st)) : Go x wd Z EL R Q T pc ls (.int b :: .int a :: st) := by
  obtain ⟨hd, rfl⟩ := hd
  have q : a - a / b * b = a % b := irem_eq_mod a b
  exact w.go (fun A hx hb t hr => XS.irem A hx rfl (Jvm.hb hb hd) rfl hy (by rw [q]; exact hr)) K
theorem W.idiv (w : W x wd l Z EL R own code mx ret nm T h k n sf) {a b : Int32} (hd : Dc code pc .idiv 1 pc') (hy : b ≠ 0) (K : Go x wd Z EL R Q T pc' ls (.int (a / b) :: st)) : Go x wd Z EL R Q T pc ls (.int b :: .int a :: st) := by
  obtain ⟨hd, rfl⟩ := hd
  exact w.go (fun A hx hb t hr => XS.idiv A hx rfl (Jvm.hb hb hd) rfl hy hr) K
theorem W.ineg (w : W x wd l Z EL R own code mx ret nm T h k n sf) {a : Int32} (hd : Dc code pc .ineg 1 pc') (K : Go x wd Z EL R Q T pc' ls (.int (-a) :: st)) : Go x wd Z EL R Q T pc ls (.int a :: st) := by
  obtain ⟨hd, rfl⟩ := hd
  exact w.go (fun A hx hb t hr => XS.ineg A hx rfl (Jvm.hb hb hd) rfl hr) K
theorem W.i2c (w : W x wd l Z EL R own code mx ret nm T h k n sf) {a : Int32} (hd : Dc code pc .i2c 1 pc') (K : Go x wd Z EL R Q T pc' ls (.int (nar .char a) :: st)) : Go x wd Z EL R Q T pc ls (.int a :: st) := by
  obtain ⟨hd, rfl⟩ := hd
  exact w.go (fun A hx hb t hr => XT.i2c A hx rfl (Jvm.hb hb hd) rfl hr) K
theorem W.i2b (w : W x wd l Z EL R own code mx ret nm T h k n sf) {a : Int32} (hd : Dc code pc .i2b 1 pc') (K : Go x wd Z EL R Q T pc' ls (.int (nar .byte a) :: st)) : Go x wd Z EL R Q T pc ls (.int a :: st) := by
  obtain ⟨hd, rfl⟩ := hd
  exact w.go (fun A hx hb t hr => XT.i2b A hx rfl (Jvm.hb hb hd) rfl hr) K
theorem W.i2l (w : W x wd l Z EL R own code mx ret nm T h k n sf) {a : Int32} (hd : Dc code pc .i2l 1 pc') (K : Go x wd Z EL R Q T pc' ls (.long a.toInt64 :: st)) : Go x wd Z EL R Q T pc ls (.int a :: st) := by
  obtain ⟨hd, rfl⟩ := hd
  exact w.go (fun A hx hb t hr => XT.i2l A hx rfl (Jvm.hb hb hd) rfl hr) K
theorem W.l2i (w : W x wd l Z EL R own code mx ret nm T h k n sf) {a : Int64} (hd : Dc code pc .l2i 1 pc') (K : Go x wd Z EL R Q T pc' ls (.int a.toInt32 :: st)) : Go x wd Z EL R Q T pc ls (.long a :: st) := by
  obtain ⟨hd, rfl⟩ := hd
  exact w.go (fun A hx hb t hr => XT.l2i A hx rfl (Jvm.hb hb hd) rfl hr) K
theorem W.ladd (w : W x wd l Z EL R own code mx ret nm T h k n sf) {a b : Int64} (hd : Dc code pc .ladd 1 pc') (K : Go x wd Z EL R Q T pc' ls (.long (a + b) :: st)) : Go x wd Z EL R Q T pc ls (.long b :: .long a :: st) := by
  obtain ⟨hd, rfl⟩ := hd
  exact w.go (fun A hx hb t hr => XT.ladd A hx rfl (Jvm.hb hb hd) rfl hr) K
theorem W.lsub (w : W x wd l Z EL R own code mx ret nm T h k n sf) {a b : Int64} (hd : Dc code pc .lsub 1 pc') (K : Go x wd Z EL R Q T pc' ls (.long (a - b) :: st)) : Go x wd Z EL R Q T pc ls (.long b :: .long a :: st) := by
  obtain ⟨hd, rfl⟩ := hd
  exact w.go (fun A hx hb t hr => XT.lsub A hx rfl (Jvm.hb hb hd) rfl hr) K
theorem W.lmul (w : W x wd l Z EL R own code mx ret nm T h k n sf) {a b : Int64} (hd : Dc code pc .lmul 1 pc') (K : Go x wd Z EL R Q T pc' ls (.long (a * b) :: st)) : Go x wd Z EL R Q T pc ls (.long b :: .long a :: st) := by
  obtain ⟨hd, rfl⟩ := hd
  exact w.go (fun A hx hb t hr => XT.lmul A hx rfl (Jvm.hb hb hd) rfl hr) K
theorem W.land (w : W x wd l Z EL R own code mx ret nm T h k n sf) {a b : Int64} (hd : Dc code pc .land 1 pc') (K : Go x wd Z EL R Q T pc' ls (.long (a &&& b) :: st)) : Go x wd Z EL R Q T pc ls (.long b :: .long a :: st) := by
  obtain ⟨hd, rfl⟩ := hd
  exact w.go (fun A hx hb t hr => XT.land A hx rfl (Jvm.hb hb hd) rfl hr) K
theorem W.lcmp (w : W x wd l Z EL R own code mx ret nm T h k n sf) {a b : Int64} (hd : Dc code pc .lcmp 1 pc') (K : Go x wd Z EL R Q T pc' ls (.int (XT.cmpL a b) :: st)) : Go x wd Z EL R Q T pc ls (.long b :: .long a :: st) := by
  obtain ⟨hd, rfl⟩ := hd
  exact w.go (fun A hx hb t hr => XT.lcmp A hx rfl (Jvm.hb hb hd) rfl hr) K
theorem W.dup (w : W x wd l Z EL R own code mx ret nm T h k n sf) {v : Value} (hd : Dc code pc .dup 1 pc') (hc : v.category = 1) (K : Go x wd Z EL R Q T pc' ls (v :: v :: st)) : Go x wd Z EL R Q T pc ls (v :: st) := by
  obtain ⟨hd, rfl⟩ := hd
  exact w.go (fun A hx hb t hr => XS.dup A hx rfl (Jvm.hb hb hd) rfl hc hr) K
theorem W.dupX1 (w : W x wd l Z EL R own code mx ret nm T h k n sf) {v u : Value} (hd : Dc code pc .dup_x1 1 pc') (hc : v.category = 1) (hc' : u.category = 1) (K : Go x wd Z EL R Q T pc' ls (v :: u :: v :: st)) : Go x wd Z EL R Q T pc ls (v :: u :: st) := by
  obtain ⟨hd, rfl⟩ := hd
  exact w.go (fun A hx hb t hr => XT.dupX1 A hx rfl (Jvm.hb hb hd) rfl hc hc' hr) K
theorem W.dup2 (w : W x wd l Z EL R own code mx ret nm T h k n sf) {v u : Value} (hd : Dc code pc .dup2 1 pc') (hc : v.category = 1) (hc' : u.category = 1) (K : Go x wd Z EL R Q T pc' ls (v :: u :: v :: u :: st)) : Go x wd Z EL R Q T pc ls (v :: u :: st) := by
  obtain ⟨hd, rfl⟩ := hd
  exact w.go (fun A hx hb t hr => XT.dup2 A hx rfl (Jvm.hb hb hd) rfl hc hc' hr) K
theorem W.pop (w : W x wd l Z EL R own code mx ret nm T h k n sf) {v : Value} (hd : Dc code pc .pop 1 pc') (hc : v.category = 1) (K : Go x wd Z EL R Q T pc' ls st) : Go x wd Z EL R Q T pc ls (v :: st) := by
  obtain ⟨hd, rfl⟩ := hd
  exact w.go (fun A hx hb t hr => XT.pop A hx rfl (Jvm.hb hb hd) rfl hc hr) K
theorem W.istoreN (w : W x wd l Z EL R own code mx ret nm T h k n sf) {i : Fin 4} {v : Int32} (ls' : Array Slot) (hd : Dc code pc (.istore_n i) 1 pc') (hl : storeLocals ls i.val (.int v) = some ls') (K : Go x wd Z EL R Q T pc' ls' st) : Go x wd Z EL R Q T pc ls (.int v :: st) := by
  obtain ⟨hd, rfl⟩ := hd
  exact w.go (fun A hx hb t hr => XS.istoreN A hx rfl (Jvm.hb hb hd) rfl hl hr) K
theorem W.istore (w : W x wd l Z EL R own code mx ret nm T h k n sf) {i : Nat} {v : Int32} (ls' : Array Slot) (hd : Dc code pc (.istore i) 2 pc') (hl : storeLocals ls i (.int v) = some ls') (K : Go x wd Z EL R Q T pc' ls' st) : Go x wd Z EL R Q T pc ls (.int v :: st) := by
  obtain ⟨hd, rfl⟩ := hd
  exact w.go (fun A hx hb t hr => XS.istore A hx rfl (Jvm.hb hb hd) rfl hl hr) K
theorem W.lstoreN (w : W x wd l Z EL R own code mx ret nm T h k n sf) {i : Fin 4} {v : Int64} (ls' : Array Slot) (hd : Dc code pc (.lstore_n i) 1 pc') (hl : storeLocals ls i.val (.long v) = some ls') (K : Go x wd Z EL R Q T pc' ls' st) : Go x wd Z EL R Q T pc ls (.long v :: st) := by
  obtain ⟨hd, rfl⟩ := hd
  exact w.go (fun A hx hb t hr => XT.lstoreN A hx rfl (Jvm.hb hb hd) rfl hl hr) K
theorem W.astoreN (w : W x wd l Z EL R own code mx ret nm T h k n sf) {i : Fin 4} {v : Value} (ls' : Array Slot) (hd : Dc code pc (.astore_n i) 1 pc') (hv : v.isRef = true) (hl : storeLocals ls i.val v = some ls') (K : Go x wd Z EL R Q T pc' ls' st) : Go x wd Z EL R Q T pc ls (v :: st) := by
  obtain ⟨hd, rfl⟩ := hd
  exact w.go (fun A hx hb t hr => XS.astoreN A hx rfl (Jvm.hb hb hd) rfl hv hl hr) K
theorem W.astore (w : W x wd l Z EL R own code mx ret nm T h k n sf) {i : Nat} {v : Value} (ls' : Array Slot) (hd : Dc code pc (.astore i) 2 pc') (hv : v.isRef = true) (hl : storeLocals ls i v = some ls') (K : Go x wd Z EL R Q T pc' ls' st) : Go x wd Z EL R Q T pc ls (v :: st) := by
  obtain ⟨hd, rfl⟩ := hd
  exact w.go (fun A hx hb t hr => XS.astore A hx rfl (Jvm.hb hb hd) rfl hv hl hr) K
theorem W.iinc (w : W x wd l Z EL R own code mx ret nm T h k n sf) {i : Nat} {c : Int} {a : Int32} (v : Int32) (ls' : Array Slot) (hd : Dc code pc (.iinc i c) 3 pc') (hv : Int32.ofInt c = v) (hl : ls[i]? = some (.val (.int a))) (hl' : storeLocals ls i (.int (a + v)) = some ls') (K : Go x wd Z EL R Q T pc' ls' st) : Go x wd Z EL R Q T pc ls st := by
  obtain ⟨hd, rfl⟩ := hd
  exact w.go (fun A hx hb t hr => XT.iincV A hx rfl v (Jvm.hb hb hd) hv hl hl' hr) K
theorem W.goto (w : W x wd l Z EL R own code mx ret nm T h k n sf) {o : Int} (hd : Dc code pc (.goto o) 3 pc') (ht : Tg pc o pcT) (K : Go x wd Z EL R Q T pcT ls st) : Go x wd Z EL R Q T pc ls st := by
  obtain ⟨hd, rfl⟩ := hd
  exact w.go (fun A hx hb t hr => XS.goto A hx rfl (pc0 := pc) (pc' := pcT) rfl (Jvm.hb hb hd) ht.1 ht.2 hr) K
theorem W.ifEq (w : W x wd l Z EL R own code mx ret nm T h k n sf) {a : Int32} {o : Int} (hd : Dc code pc (.ifCond .eq o) 3 pc') (ht : Tg pc o pcT) (K1 : a = 0 → Go x wd Z EL R Q T pcT ls st) (K2 : (¬ a = 0) → Go x wd Z EL R Q T pc' ls st) : Go x wd Z EL R Q T pc ls (.int a :: st) := by
  obtain ⟨hd, rfl⟩ := hd
  by_cases q : a = 0
  · exact w.go (fun A hx hb t hr => XS.ifYes A hx rfl (pc0 := pc) (pc' := pcT) rfl (Jvm.hb hb hd) rfl (XT.i0_eq_t q) ht.1 ht.2 hr) (K1 q)
  · exact w.go (fun A hx hb t hr => XS.ifNo A hx rfl (Jvm.hb hb hd) rfl (XT.i0_eq_f q) hr) (K2 q)
theorem W.ifNe (w : W x wd l Z EL R own code mx ret nm T h k n sf) {a : Int32} {o : Int} (hd : Dc code pc (.ifCond .ne o) 3 pc') (ht : Tg pc o pcT) (K1 : (¬ a = 0) → Go x wd Z EL R Q T pcT ls st) (K2 : (a = 0) → Go x wd Z EL R Q T pc' ls st) : Go x wd Z EL R Q T pc ls (.int a :: st) := by
  obtain ⟨hd, rfl⟩ := hd
  by_cases q : a = 0
  · exact w.go (fun A hx hb t hr => XS.ifNo A hx rfl (Jvm.hb hb hd) rfl (XT.i0_ne_f q) hr) (K2 q)
  · exact w.go (fun A hx hb t hr => XS.ifYes A hx rfl (pc0 := pc) (pc' := pcT) rfl (Jvm.hb hb hd) rfl (XT.i0_ne_t q) ht.1 ht.2 hr) (K1 q)
theorem W.ifLt (w : W x wd l Z EL R own code mx ret nm T h k n sf) {a : Int32} {o : Int} (hd : Dc code pc (.ifCond .lt o) 3 pc') (ht : Tg pc o pcT) (K1 : a < 0 → Go x wd Z EL R Q T pcT ls st) (K2 : (¬ a < 0) → Go x wd Z EL R Q T pc' ls st) : Go x wd Z EL R Q T pc ls (.int a :: st) := by
  obtain ⟨hd, rfl⟩ := hd
  by_cases q : a < 0
  · exact w.go (fun A hx hb t hr => XS.ifYes A hx rfl (pc0 := pc) (pc' := pcT) rfl (Jvm.hb hb hd) rfl (XT.i0_lt_t q) ht.1 ht.2 hr) (K1 q)
  · exact w.go (fun A hx hb t hr => XS.ifNo A hx rfl (Jvm.hb hb hd) rfl (XT.i0_lt_f q) hr) (K2 q)
theorem W.ifGe (w : W x wd l Z EL R own code mx ret nm T h k n sf) {a : Int32} {o : Int} (hd : Dc code pc (.ifCond .ge o) 3 pc') (ht : Tg pc o pcT) (K1 : (¬ a < 0) → Go x wd Z EL R Q T pcT ls st) (K2 : (a < 0) → Go x wd Z EL R Q T pc' ls st) : Go x wd Z EL R Q T pc ls (.int a :: st) := by
  obtain ⟨hd, rfl⟩ := hd
  by_cases q : a < 0
  · exact w.go (fun A hx hb t hr => XS.ifNo A hx rfl (Jvm.hb hb hd) rfl (XT.i0_ge_f q) hr) (K2 q)
  · exact w.go (fun A hx hb t hr => XS.ifYes A hx rfl (pc0 := pc) (pc' := pcT) rfl (Jvm.hb hb hd) rfl (XT.i0_ge_t q) ht.1 ht.2 hr) (K1 q)
theorem W.ifGt (w : W x wd l Z EL R own code mx ret nm T h k n sf) {a : Int32} {o : Int} (hd : Dc code pc (.ifCond .gt o) 3 pc') (ht : Tg pc o pcT) (K1 : 0 < a → Go x wd Z EL R Q T pcT ls st) (K2 : (¬ 0 < a) → Go x wd Z EL R Q T pc' ls st) : Go x wd Z EL R Q T pc ls (.int a :: st) := by
  obtain ⟨hd, rfl⟩ := hd
  by_cases q : 0 < a
  · exact w.go (fun A hx hb t hr => XS.ifYes A hx rfl (pc0 := pc) (pc' := pcT) rfl (Jvm.hb hb hd) rfl (XT.i0_gt_t q) ht.1 ht.2 hr) (K1 q)
  · exact w.go (fun A hx hb t hr => XS.ifNo A hx rfl (Jvm.hb hb hd) rfl (XT.i0_gt_f q) hr) (K2 q)
theorem W.ifLe (w : W x wd l Z EL R own code mx ret nm T h k n sf) {a : Int32} {o : Int} (hd : Dc code pc (.ifCond .le o) 3 pc') (ht : Tg pc o pcT) (K1 : (¬ 0 < a) → Go x wd Z EL R Q T pcT ls st) (K2 : (0 < a) → Go x wd Z EL R Q T pc' ls st) : Go x wd Z EL R Q T pc ls (.int a :: st) := by
  obtain ⟨hd, rfl⟩ := hd
  by_cases q : 0 < a
  · exact w.go (fun A hx hb t hr => XS.ifNo A hx rfl (Jvm.hb hb hd) rfl (XT.i0_le_f q) hr) (K2 q)
  · exact w.go (fun A hx hb t hr => XS.ifYes A hx rfl (pc0 := pc) (pc' := pcT) rfl (Jvm.hb hb hd) rfl (XT.i0_le_t q) ht.1 ht.2 hr) (K1 q)
theorem W.icmpEq (w : W x wd l Z EL R own code mx ret nm T h k n sf) {a b : Int32} {o : Int} (hd : Dc code pc (.if_icmp .eq o) 3 pc') (ht : Tg pc o pcT) (K1 : a = b → Go x wd Z EL R Q T pcT ls st) (K2 : (¬ a = b) → Go x wd Z EL R Q T pc' ls st) : Go x wd Z EL R Q T pc ls (.int b :: .int a :: st) := by
  obtain ⟨hd, rfl⟩ := hd
  by_cases q : a = b
  · exact w.go (fun A hx hb t hr => XS.icmpYes A hx rfl (pc0 := pc) (pc' := pcT) rfl (Jvm.hb hb hd) rfl (XT.ii_eq_t q) ht.1 ht.2 hr) (K1 q)
  · exact w.go (fun A hx hb t hr => XS.icmpNo A hx rfl (Jvm.hb hb hd) rfl (XT.ii_eq_f q) hr) (K2 q)
theorem W.icmpNe (w : W x wd l Z EL R own code mx ret nm T h k n sf) {a b : Int32} {o : Int} (hd : Dc code pc (.if_icmp .ne o) 3 pc') (ht : Tg pc o pcT) (K1 : (¬ a = b) → Go x wd Z EL R Q T pcT ls st) (K2 : (a = b) → Go x wd Z EL R Q T pc' ls st) : Go x wd Z EL R Q T pc ls (.int b :: .int a :: st) := by
  obtain ⟨hd, rfl⟩ := hd
  by_cases q : a = b
  · exact w.go (fun A hx hb t hr => XS.icmpNo A hx rfl (Jvm.hb hb hd) rfl (XT.ii_ne_f q) hr) (K2 q)
  · exact w.go (fun A hx hb t hr => XS.icmpYes A hx rfl (pc0 := pc) (pc' := pcT) rfl (Jvm.hb hb hd) rfl (XT.ii_ne_t q) ht.1 ht.2 hr) (K1 q)
theorem W.icmpLt (w : W x wd l Z EL R own code mx ret nm T h k n sf) {a b : Int32} {o : Int} (hd : Dc code pc (.if_icmp .lt o) 3 pc') (ht : Tg pc o pcT) (K1 : a < b → Go x wd Z EL R Q T pcT ls st) (K2 : (¬ a < b) → Go x wd Z EL R Q T pc' ls st) : Go x wd Z EL R Q T pc ls (.int b :: .int a :: st) := by
  obtain ⟨hd, rfl⟩ := hd
  by_cases q : a < b
  · exact w.go (fun A hx hb t hr => XS.icmpYes A hx rfl (pc0 := pc) (pc' := pcT) rfl (Jvm.hb hb hd) rfl (XT.ii_lt_t q) ht.1 ht.2 hr) (K1 q)
  · exact w.go (fun A hx hb t hr => XS.icmpNo A hx rfl (Jvm.hb hb hd) rfl (XT.ii_lt_f q) hr) (K2 q)
theorem W.icmpGe (w : W x wd l Z EL R own code mx ret nm T h k n sf) {a b : Int32} {o : Int} (hd : Dc code pc (.if_icmp .ge o) 3 pc') (ht : Tg pc o pcT) (K1 : (¬ a < b) → Go x wd Z EL R Q T pcT ls st) (K2 : (a < b) → Go x wd Z EL R Q T pc' ls st) : Go x wd Z EL R Q T pc ls (.int b :: .int a :: st) := by
  obtain ⟨hd, rfl⟩ := hd
  by_cases q : a < b
  · exact w.go (fun A hx hb t hr => XS.icmpNo A hx rfl (Jvm.hb hb hd) rfl (XT.ii_ge_f q) hr) (K2 q)
  · exact w.go (fun A hx hb t hr => XS.icmpYes A hx rfl (pc0 := pc) (pc' := pcT) rfl (Jvm.hb hb hd) rfl (XT.ii_ge_t q) ht.1 ht.2 hr) (K1 q)
theorem W.icmpGt (w : W x wd l Z EL R own code mx ret nm T h k n sf) {a b : Int32} {o : Int} (hd : Dc code pc (.if_icmp .gt o) 3 pc') (ht : Tg pc o pcT) (K1 : b < a → Go x wd Z EL R Q T pcT ls st) (K2 : (¬ b < a) → Go x wd Z EL R Q T pc' ls st) : Go x wd Z EL R Q T pc ls (.int b :: .int a :: st) := by
  obtain ⟨hd, rfl⟩ := hd
  by_cases q : b < a
  · exact w.go (fun A hx hb t hr => XS.icmpYes A hx rfl (pc0 := pc) (pc' := pcT) rfl (Jvm.hb hb hd) rfl (XT.ii_gt_t q) ht.1 ht.2 hr) (K1 q)
  · exact w.go (fun A hx hb t hr => XS.icmpNo A hx rfl (Jvm.hb hb hd) rfl (XT.ii_gt_f q) hr) (K2 q)
theorem W.icmpLe (w : W x wd l Z EL R own code mx ret nm T h k n sf) {a b : Int32} {o : Int} (hd : Dc code pc (.if_icmp .le o) 3 pc') (ht : Tg pc o pcT) (K1 : (¬ b < a) → Go x wd Z EL R Q T pcT ls st) (K2 : (b < a) → Go x wd Z EL R Q T pc' ls st) : Go x wd Z EL R Q T pc ls (.int b :: .int a :: st) := by
  obtain ⟨hd, rfl⟩ := hd
  by_cases q : b < a
  · exact w.go (fun A hx hb t hr => XS.icmpNo A hx rfl (Jvm.hb hb hd) rfl (XT.ii_le_f q) hr) (K2 q)
  · exact w.go (fun A hx hb t hr => XS.icmpYes A hx rfl (pc0 := pc) (pc' := pcT) rfl (Jvm.hb hb hd) rfl (XT.ii_le_t q) ht.1 ht.2 hr) (K1 q)
theorem W.acmpEq (w : W x wd l Z EL R own code mx ret nm T h k n sf) {a b : Value} {o : Int} (hd : Dc code pc (.if_acmp .eq o) 3 pc') (ht : Tg pc o pcT) (h1 : a.isRef = true) (h2 : b.isRef = true) (K1 : a = b → Go x wd Z EL R Q T pcT ls st) (K2 : (¬ a = b) → Go x wd Z EL R Q T pc' ls st) : Go x wd Z EL R Q T pc ls (b :: a :: st) := by
  obtain ⟨hd, rfl⟩ := hd
  by_cases q : a = b
  · exact w.go (fun A hx hb t hr => XT.acmpYes A hx rfl (pc0 := pc) (pc' := pcT) rfl (Jvm.hb hb hd) rfl h1 h2 (XT.aa_eq_t q) ht.1 ht.2 hr) (K1 q)
  · exact w.go (fun A hx hb t hr => XT.acmpNo A hx rfl (Jvm.hb hb hd) rfl h1 h2 (XT.aa_eq_f q) hr) (K2 q)
theorem W.acmpNe (w : W x wd l Z EL R own code mx ret nm T h k n sf) {a b : Value} {o : Int} (hd : Dc code pc (.if_acmp .ne o) 3 pc') (ht : Tg pc o pcT) (h1 : a.isRef = true) (h2 : b.isRef = true) (K1 : (¬ a = b) → Go x wd Z EL R Q T pcT ls st) (K2 : (a = b) → Go x wd Z EL R Q T pc' ls st) : Go x wd Z EL R Q T pc ls (b :: a :: st) := by
  obtain ⟨hd, rfl⟩ := hd
  by_cases q : a = b
  · exact w.go (fun A hx hb t hr => XT.acmpNo A hx rfl (Jvm.hb hb hd) rfl h1 h2 (XT.aa_ne_f q) hr) (K2 q)
  · exact w.go (fun A hx hb t hr => XT.acmpYes A hx rfl (pc0 := pc) (pc' := pcT) rfl (Jvm.hb hb hd) rfl h1 h2 (XT.aa_ne_t q) ht.1 ht.2 hr) (K1 q)
theorem W.racmpEq (w : W x wd l Z EL R own code mx ret nm T h k n sf) {a b : Addr} {o : Int} (hd : Dc code pc (.if_acmp .eq o) 3 pc') (ht : Tg pc o pcT) (K1 : a = b → Go x wd Z EL R Q T pcT ls st) (K2 : ¬ a = b → Go x wd Z EL R Q T pc' ls st) : Go x wd Z EL R Q T pc ls (.ref b :: .ref a :: st) := w.acmpEq hd ht rfl rfl (fun q => K1 (Value.ref.inj q)) (fun q => K2 fun e => q (congrArg _ e))
theorem W.racmpNe (w : W x wd l Z EL R own code mx ret nm T h k n sf) {a b : Addr} {o : Int} (hd : Dc code pc (.if_acmp .ne o) 3 pc') (ht : Tg pc o pcT) (K1 : ¬ a = b → Go x wd Z EL R Q T pcT ls st) (K2 : a = b → Go x wd Z EL R Q T pc' ls st) : Go x wd Z EL R Q T pc ls (.ref b :: .ref a :: st) := w.acmpNe hd ht rfl rfl (fun q => K1 fun e => q (congrArg _ e)) (fun q => K2 (Value.ref.inj q))
theorem W.nullT (w : W x wd l Z EL R own code mx ret nm T h k n sf) {o : Int} (hd : Dc code pc (.ifnull o) 3 pc') (ht : Tg pc o pcT) (K : Go x wd Z EL R Q T pcT ls st) : Go x wd Z EL R Q T pc ls (.null :: st) := by
  obtain ⟨hd, rfl⟩ := hd
  exact w.go (fun A hx hb t hr => XS.ifnullYes A hx rfl (pc0 := pc) (pc' := pcT) rfl (Jvm.hb hb hd) rfl ht.1 ht.2 hr) K
theorem W.nullF (w : W x wd l Z EL R own code mx ret nm T h k n sf) {o : Int} {a : Addr} (hd : Dc code pc (.ifnull o) 3 pc') (K : Go x wd Z EL R Q T pc' ls st) : Go x wd Z EL R Q T pc ls (.ref a :: st) := by
  obtain ⟨hd, rfl⟩ := hd
  exact w.go (fun A hx hb t hr => XS.ifnullNo A hx rfl (Jvm.hb hb hd) rfl hr) K
theorem W.nonnullT (w : W x wd l Z EL R own code mx ret nm T h k n sf) {o : Int} {a : Addr} (hd : Dc code pc (.ifnonnull o) 3 pc') (ht : Tg pc o pcT) (K : Go x wd Z EL R Q T pcT ls st) : Go x wd Z EL R Q T pc ls (.ref a :: st) := by
  obtain ⟨hd, rfl⟩ := hd
  exact w.go (fun A hx hb t hr => XT.ifnonnullYes A hx rfl (pc0 := pc) (pc' := pcT) rfl (Jvm.hb hb hd) rfl ht.1 ht.2 hr) K
theorem W.nonnullF (w : W x wd l Z EL R own code mx ret nm T h k n sf) {o : Int} (hd : Dc code pc (.ifnonnull o) 3 pc') (K : Go x wd Z EL R Q T pc' ls st) : Go x wd Z EL R Q T pc ls (.null :: st) := by
  obtain ⟨hd, rfl⟩ := hd
  exact w.go (fun A hx hb t hr => XT.ifnonnullNo A hx rfl (Jvm.hb hb hd) rfl hr) K
theorem W.ldcI (w : W x wd l Z EL R own code mx ret nm T h k n sf) {i : Nat} {v : Int32} (hd : Dc code pc (.ldc i) 2 pc') (wc : (Jvm.Cond.constant own i v).before a0 Z = true) (K : Go x wd Z EL R Q T pc' ls (.int v :: st)) : Go x wd Z EL R Q T pc ls st := by
  obtain ⟨hd, rfl⟩ := hd
  obtain ⟨hx, hb, hm, hr, hn, hl, e0, E, c1, c2, hs, hEL, L, vm0, N, g, X, S, hZ, ho, hC⟩ := w
  obtain ⟨s₂, o, a1, r⟩ := K
  exact ⟨s₂, o, X.ldcI hx ho (mv (s := x.s.setVm vm0) hZ wc) rfl (Jvm.hb hb hd) a1, r⟩
theorem W.ldcWI (w : W x wd l Z EL R own code mx ret nm T h k n sf) {i : Nat} {v : Int32} (hd : Dc code pc (.ldc_w i) 3 pc') (wc : (Jvm.Cond.constant own i v).before a0 Z = true) (K : Go x wd Z EL R Q T pc' ls (.int v :: st)) : Go x wd Z EL R Q T pc ls st := by
  obtain ⟨hd, rfl⟩ := hd
  obtain ⟨hx, hb, hm, hr, hn, hl, e0, E, c1, c2, hs, hEL, L, vm0, N, g, X, S, hZ, ho, hC⟩ := w
  obtain ⟨s₂, o, a1, r⟩ := K
  exact ⟨s₂, o, X.ldcWI hx ho (mv (s := x.s.setVm vm0) hZ wc) rfl (Jvm.hb hb hd) a1, r⟩
theorem W.getS (w : W x wd l Z EL R own code mx ret nm T h k n sf) {i : Nat} {O f d : String} {v : Value} (hd : Dc code pc (.getstatic i) 3 pc') (wl : (Jvm.Cond.fieldLink own i O f d).before a0 Z = true) (F : Sta Z Z.heap O f d v) (K : ∀ T', W x wd l Z EL R own code mx ret nm T' h k n sf → Go x wd Z EL R Q T' pc' ls (v :: st)) : Go x wd Z EL R Q T pc ls st := by
  obtain ⟨hd, rfl⟩ := hd
  exact w.goT (fun s0 L X hx hZ ho hb hm e0 => RoadKit.getS (host := "") X hx hZ ho wl Via.refl e0 (w.sta F) (g := mkF x.m pc ls st) rfl (Jvm.hb hb hd)) K
theorem W.getF (w : W x wd l Z EL R own code mx ret nm T h k n sf) {i : Nat} {a : Addr} {O f d : String} {v : Value} (hd : Dc code pc (.getfield i) 3 pc') (wl : (Jvm.Cond.fieldLink own i O f d).before a0 Z = true) (F : Fld Z h a O f d v) (K : ∀ T', W x wd l Z EL R own code mx ret nm T' h k n sf → Go x wd Z EL R Q T' pc' ls (v :: st)) : Go x wd Z EL R Q T pc ls (.ref a :: st) := by
  obtain ⟨hd, rfl⟩ := hd
  exact w.goT (fun s0 L X hx hZ ho hb hm e0 => RoadKit.getF (host := "") X hx hZ ho (Or.inl wl) Via.refl e0 F (g := mkF x.m pc ls (.ref a :: st)) rfl rfl (Jvm.hb hb hd)) K
theorem W.cast (w : W x wd l Z EL R own code mx ret nm T h k n sf) {i : Nat} {a : Addr} {C : String} (hd : Dc code pc (.checkcast i) 3 pc') (wl : (Jvm.Cond.classLink own i C).before a0 Z = true) (F : Ins Z h a C true) (K : ∀ T', W x wd l Z EL R own code mx ret nm T' h k n sf → Go x wd Z EL R Q T' pc' ls (.ref a :: st)) : Go x wd Z EL R Q T pc ls (.ref a :: st) := by
  obtain ⟨hd, rfl⟩ := hd
  exact w.goT (fun s0 L X hx hZ ho hb hm e0 => castY X hx hZ ho wl e0 F (g := mkF x.m pc ls (.ref a :: st)) rfl rfl (Jvm.hb hb hd)) K
theorem W.instY (w : W x wd l Z EL R own code mx ret nm T h k n sf) {i : Nat} {a : Addr} {C : String} (hd : Dc code pc (.instanceof i) 3 pc') (wl : (Jvm.Cond.classLink own i C).before a0 Z = true) (F : Ins Z h a C true) (K : ∀ T', W x wd l Z EL R own code mx ret nm T' h k n sf → Go x wd Z EL R Q T' pc' ls (.int 1 :: st)) : Go x wd Z EL R Q T pc ls (.ref a :: st) := by
  obtain ⟨hd, rfl⟩ := hd
  exact w.goT (fun s0 L X hx hZ ho hb hm e0 => RoadKit.instY X hx hZ ho wl e0 F (g := mkF x.m pc ls (.ref a :: st)) rfl rfl (Jvm.hb hb hd)) K
theorem W.initO (w : W x wd l Z EL R own code mx ret nm T h k n sf) {i : Nat} {a : Addr} (Wn : Nat) (hd : Dc code pc (.invokespecial i) 3 pc') (w1 : (Jvm.Cond.methodLink own i Lib.objectInit).before a0 Z = true) (w2 : (Jvm.Cond.instanceMethod Lib.objectInit).before a0 Z = true) (w3 : (Jvm.Cond.code Lib.objectInit ⟨#[0xb1]⟩ 1 none).before a0 Z = true) (hz : ls.size = mx) (hW : (st.map fun v => v.category).sum ≤ Wn) (hr : 1 ≤ R.frames ∧ Wn + 12 ≤ R.locals) (K : ∀ T', W x wd l Z EL R own code mx ret nm T' h k n sf → Go x wd Z EL R Q T' pc' ls st) : Go x wd Z EL R Q T pc ls (.ref a :: st) := by
  obtain ⟨hd, rfl⟩ := hd
  exact w.goT (fun s0 L X hx hZ ho hb hm e0 => RoadKit.initO X hx hZ ho w1 w2 w3 e0 (g := mkF x.m pc ls (.ref a :: st)) rfl (hz.trans hm.symm) rfl (Jvm.hb hb hd) hr.1 (W := Wn) (by show 2 * 0 + _ ≤ _; omega) hr.2) K
theorem W.alen (w : W x wd l Z EL R own code mx ret nm T h k n sf) {a : Addr} {cl : Cell} {ty : FieldType} (v : Int32) (hd : Dc code pc .arraylength 1 pc') (A : Arr Z h a cl ty) (hv : cl.slots.size.toInt32 = v) (K : Go x wd Z EL R Q T pc' ls (.int v :: st)) : Go x wd Z EL R Q T pc ls (.ref a :: st) := by
  obtain ⟨hd, rfl⟩ := hd
  subst hv
  obtain ⟨hx, hb, hm, hr, hn, hl, e0, E, c1, c2, hs, hEL, L, vm0, N, g, X, S, hZ, ho, hC⟩ := w
  obtain ⟨s₂, o, a1, r⟩ := K
  exact ⟨s₂, o, X.arraylength hx (by rw [e0]; exact A.1) (State.isArrayOf_alike (T := x.s.setVm vm0) hZ.alike A.2.1) (g := mkF x.m pc ls (.ref a :: st)) rfl rfl (Jvm.hb hb hd) _ a1, r⟩
theorem W.iaload (w : W x wd l Z EL R own code mx ret nm T h k n sf) {a : Addr} {cl : Cell} {j : Int32} {v : Value} (hd : Dc code pc .iaload 1 pc') (A : Arr Z h a cl .int) (hj : ¬ (j < 0 ∨ cl.slots.size ≤ j.toNatClampNeg)) (hv : cl.slots[j.toNatClampNeg]? = some v) (K : Go x wd Z EL R Q T pc' ls (v :: st)) : Go x wd Z EL R Q T pc ls (.int j :: .ref a :: st) := by
  obtain ⟨hd, rfl⟩ := hd
  obtain ⟨hx, hb, hm, hr, hn, hl, e0, E, c1, c2, hs, hEL, L, vm0, N, g, X, S, hZ, ho, hC⟩ := w
  obtain ⟨s₂, o, a1, r⟩ := K
  exact ⟨s₂, o, X.iaload hx (by rw [e0]; exact A.1) (State.isArrayOf_alike (T := x.s.setVm vm0) hZ.alike A.2.1) A.2.2 hj hv (g := mkF x.m pc ls (.int j :: .ref a :: st)) rfl rfl (Jvm.hb hb hd) _ a1, r⟩
theorem W.caload (w : W x wd l Z EL R own code mx ret nm T h k n sf) {a : Addr} {cl : Cell} {j : Int32} {v : Value} (hd : Dc code pc .caload 1 pc') (A : Arr Z h a cl .char) (hj : ¬ (j < 0 ∨ cl.slots.size ≤ j.toNatClampNeg)) (hv : cl.slots[j.toNatClampNeg]? = some v) (K : Go x wd Z EL R Q T pc' ls (v :: st)) : Go x wd Z EL R Q T pc ls (.int j :: .ref a :: st) := by
  obtain ⟨hd, rfl⟩ := hd
  obtain ⟨hx, hb, hm, hr, hn, hl, e0, E, c1, c2, hs, hEL, L, vm0, N, g, X, S, hZ, ho, hC⟩ := w
  obtain ⟨s₂, o, a1, r⟩ := K
  exact ⟨s₂, o, X.caload hx (by rw [e0]; exact A.1) (State.isArrayOf_alike (T := x.s.setVm vm0) hZ.alike A.2.1) A.2.2 hj hv (g := mkF x.m pc ls (.int j :: .ref a :: st)) rfl rfl (Jvm.hb hb hd) _ a1, r⟩
theorem W.baload (w : W x wd l Z EL R own code mx ret nm T h k n sf) {a : Addr} {cl : Cell} {j : Int32} {v : Value} (hd : Dc code pc .baload 1 pc') (A : Arr Z h a cl .byte) (hj : ¬ (j < 0 ∨ cl.slots.size ≤ j.toNatClampNeg)) (hv : cl.slots[j.toNatClampNeg]? = some v) (K : Go x wd Z EL R Q T pc' ls (v :: st)) : Go x wd Z EL R Q T pc ls (.int j :: .ref a :: st) := by
  obtain ⟨hd, rfl⟩ := hd
  obtain ⟨hx, hb, hm, hr, hn, hl, e0, E, c1, c2, hs, hEL, L, vm0, N, g, X, S, hZ, ho, hC⟩ := w
  obtain ⟨s₂, o, a1, r⟩ := K
  exact ⟨s₂, o, X.baloadBytes hx (by rw [e0]; exact A.1) (State.isArrayOf_alike (T := x.s.setVm vm0) hZ.alike A.2.1) A.2.2 hj hv (g := mkF x.m pc ls (.int j :: .ref a :: st)) rfl rfl (Jvm.hb hb hd) _ a1, r⟩
theorem W.laload (w : W x wd l Z EL R own code mx ret nm T h k n sf) {a : Addr} {cl : Cell} {j : Int32} {v : Value} (hd : Dc code pc .laload 1 pc') (A : Arr Z h a cl .long) (hj : ¬ (j < 0 ∨ cl.slots.size ≤ j.toNatClampNeg)) (hv : cl.slots[j.toNatClampNeg]? = some v) (K : Go x wd Z EL R Q T pc' ls (v :: st)) : Go x wd Z EL R Q T pc ls (.int j :: .ref a :: st) := by
  obtain ⟨hd, rfl⟩ := hd
  obtain ⟨hx, hb, hm, hr, hn, hl, e0, E, c1, c2, hs, hEL, L, vm0, N, g, X, S, hZ, ho, hC⟩ := w
  obtain ⟨s₂, o, a1, r⟩ := K
  exact ⟨s₂, o, X.laload hx (by rw [e0]; exact A.1) (State.isArrayOf_alike (T := x.s.setVm vm0) hZ.alike A.2.1) A.2.2 hj hv (g := mkF x.m pc ls (.int j :: .ref a :: st)) rfl rfl (Jvm.hb hb hd) _ a1, r⟩
theorem W.aaload (w : W x wd l Z EL R own code mx ret nm T h k n sf) {a : Addr} {cl : Cell} {j : Int32} {v : Value} {ty : FieldType} (hd : Dc code pc .aaload 1 pc') (A : Arr Z h a cl ty) (hty : ty.isReference = true) (hj : ¬ (j < 0 ∨ cl.slots.size ≤ j.toNatClampNeg)) (hv : cl.slots[j.toNatClampNeg]? = some v) (K : Go x wd Z EL R Q T pc' ls (v :: st)) : Go x wd Z EL R Q T pc ls (.int j :: .ref a :: st) := by
  obtain ⟨hd, rfl⟩ := hd
  obtain ⟨hx, hb, hm, hr, hn, hl, e0, E, c1, c2, hs, hEL, L, vm0, N, g, X, S, hZ, ho, hC⟩ := w
  obtain ⟨s₂, o, a1, r⟩ := K
  exact ⟨s₂, o, X.aaload hx (by rw [e0]; exact A.1) (State.isArrayOf_alike (T := x.s.setVm vm0) hZ.alike A.2.1) hty A.2.2 hj hv (g := mkF x.m pc ls (.int j :: .ref a :: st)) rfl rfl (Jvm.hb hb hd) _ a1, r⟩
theorem W.new (w : W x wd l Z EL R own code mx ret nm T h k n sf) {i nf : Nat} {C : String} (hd : Dc code pc (.new i) 3 pc') (w1 : (Jvm.Cond.classLink own i C).before a0 Z = true) (w2 : (Jvm.Cond.instantiable C nf).before a0 Z = true) (w3 : (Jvm.Cond.initialized C).before a0 Z = true) (hr : k + 1 ≤ R.cells ∧ n + nf ≤ R.slots) (K : ∀ (a : Addr) T' h', a = h.size → W x wd l Z EL R own code mx ret nm T' h' (k + 1) (n + nf) (a :: sf) → Ext h h' → Exa Z h' a C → (∀ {O f d : String} {ty : FieldType}, Laid Z a0 C O f d → parseFieldDescriptor d = some ty → Fld Z h' a O f d (defaultValue ty)) → Go x wd Z EL R Q T' (pc') ls (.ref a :: st)) : Go x wd Z EL R Q T pc ls st := by
  obtain ⟨hd, rfl⟩ := hd
  refine w.goN (P := fun h' => Exa Z h' h.size C ∧ (∀ {O f d : String} {ty : FieldType}, Laid Z a0 C O f d → parseFieldDescriptor d = some ty → Fld Z h' h.size O f d (defaultValue ty))) hr.1 hr.2 (fun s0 L X hx hZ ho hb hm e0 => ?_) (fun T' h' w' E P => K h.size T' h' rfl w' E P.1 P.2)
  obtain ⟨T', h', X', e', E', A, D, -, stp⟩ := newO X hx hZ ho w1 w2 w3 e0 (g := mkF x.m pc ls st) rfl (Jvm.hb hb hd) hr.1 hr.2
  exact ⟨T', h', X', e', E', A.lt, ⟨A, D⟩, stp⟩
theorem W.newP (w : W x wd l Z EL R own code mx ret nm T h k n sf) {aty : ArrayType} {z : Int32} (cap : Nat) (ad : String) (hd : Dc code pc (.newarray aty) 2 pc') (w1 : (Jvm.Cond.arrayClass (newarray.typeOf aty)).before a0 Z = true) (hz : ¬ z < 0) (hcap : z.toNatClampNeg ≤ cap) (hbig : cap * 8 ≤ 536870912) (had : "[" ++ (newarray.typeOf aty).toString = ad) (hr : k + 1 ≤ R.cells ∧ n + cap ≤ R.slots) (K : ∀ (a : Addr) T' h' kc, a = h.size → W x wd l Z EL R own code mx ret nm T' h' (k + 1) (n + cap) (a :: sf) → Ext h h' → Arv Z h' a kc (newarray.typeOf aty) z [] (defaultValue (newarray.typeOf aty)) → Exa Z h' a ad → Go x wd Z EL R Q T' (pc') ls (.ref a :: st)) : Go x wd Z EL R Q T pc ls (.int z :: st) := by
  obtain ⟨hd, rfl⟩ := hd
  refine w.goN (P := fun h' => ∃ kc, Arv Z h' h.size kc (newarray.typeOf aty) z [] (defaultValue (newarray.typeOf aty)) ∧ Exa Z h' h.size ad) hr.1 hr.2 (fun s0 L X hx hZ ho hb hm e0 => ?_) (fun T' h' w' E ⟨kc, P1, P2⟩ => K h.size T' h' kc rfl w' E P1 P2)
  obtain ⟨T', h', cA, X', e', E', A, EA, stp⟩ := newPE X hx hZ w1 e0 (g := mkF x.m pc ls (.int z :: st)) rfl (Jvm.hb hb hd) rfl hz hcap hbig hr.1 hr.2 had
  exact ⟨T', h', X', e', E', EA.lt, ⟨cA, Arv.new A hz, EA⟩, stp⟩
theorem W.newR (w : W x wd l Z EL R own code mx ret nm T h k n sf) {i : Nat} {C : String} {z : Int32} (cap : Nat) (ad : String) (hd : Dc code pc (.anewarray i) 3 pc') (w1 : (Jvm.Cond.classLink own i C).before a0 Z = true) (w2 : (Jvm.Cond.arrayOver (.object C)).before a0 Z = true) (hz : ¬ z < 0) (hcap : z.toNatClampNeg ≤ cap) (hbig : cap * 8 ≤ 536870912) (had : "[" ++ (FieldType.object C).toString = ad) (hr : k + 1 ≤ R.cells ∧ n + cap ≤ R.slots) (K : ∀ (a : Addr) T' h' kc, a = h.size → W x wd l Z EL R own code mx ret nm T' h' (k + 1) (n + cap) (a :: sf) → Ext h h' → Arv Z h' a kc (.object C) z [] .null → Exa Z h' a ad → Ovr Z kc C → Go x wd Z EL R Q T' (pc') ls (.ref a :: st)) : Go x wd Z EL R Q T pc ls (.int z :: st) := by
  obtain ⟨hd, rfl⟩ := hd
  refine w.goN (P := fun h' => ∃ kc, Arv Z h' h.size kc (.object C) z [] .null ∧ Exa Z h' h.size ad ∧ Ovr Z kc C) hr.1 hr.2 (fun s0 L X hx hZ ho hb hm e0 => ?_) (fun T' h' w' E ⟨kc, P1, P2, P3⟩ => K h.size T' h' kc rfl w' E P1 P2 P3)
  obtain ⟨T', h', cA, X', e', E', A, EA, O, stp⟩ := newRE X hx hZ ho w1 w2 e0 (g := mkF x.m pc ls (.int z :: st)) rfl (Jvm.hb hb hd) rfl hz hcap hbig hr.1 hr.2 had
  exact ⟨T', h', X', e', E', EA.lt, ⟨cA, Arv.new A hz, EA, O⟩, stp⟩
theorem W.clone (w : W x wd l Z EL R own code mx ret nm T h k n sf) {i : Nat} {a : Addr} {ad : String} {kc : ClassId} {ty : FieldType} {z : Int32} {vs : List Value} {dv : Value} (Wn cap : Nat) (hd : Dc code pc (.invokevirtual i) 3 pc') (w1 : (Jvm.Cond.methodLink own i ⟨ad, "clone", "()Ljava/lang/Object;"⟩).before a0 Z = true) (w2 : (Jvm.Cond.sameMethod ad "java/lang/Object" "clone" "()Ljava/lang/Object;").before a0 Z = true) (w3 : (Jvm.Cond.native ⟨"java/lang/Object", "clone", "()Ljava/lang/Object;"⟩).before a0 Z = true) (w4 : (Jvm.Cond.instanceMethod ⟨"java/lang/Object", "clone", "()Ljava/lang/Object;"⟩).before a0 Z = true) (w5 : (Jvm.Cond.selects ad ⟨ad, "clone", "()Ljava/lang/Object;"⟩ ⟨"java/lang/Object", "clone", "()Ljava/lang/Object;"⟩).before a0 Z = true) (w6 : (Jvm.Cond.castable ad "java/lang/Cloneable").before a0 Z = true) (A : Arv Z h a kc ty z vs dv) (E : Exa Z h a ad) (hz : ls.size = mx) (hW : (st.map fun v => v.category).sum ≤ Wn) (hcap : z.toNatClampNeg ≤ cap) (hr : 1 ≤ R.frames ∧ Wn + 14 ≤ R.locals ∧ k + 1 ≤ R.cells ∧ n + cap ≤ R.slots) (K : ∀ (b : Addr) T' h', b = h.size → W x wd l Z EL R own code mx ret nm T' h' (k + 1) (n + cap) (b :: sf) → Ext h h' → Arv Z h' b kc ty z vs dv → Exa Z h' b ad → Go x wd Z EL R Q T' (pc') ls (.ref b :: st)) : Go x wd Z EL R Q T pc ls (.ref a :: st) := by
  obtain ⟨hd, rfl⟩ := hd
  refine w.goN (P := fun h' => Arv Z h' h.size kc ty z vs dv ∧ Exa Z h' h.size ad) hr.2.2.1 hr.2.2.2 (fun s0 L X hx hZ ho hb hm e0 => ?_) (fun T' h' w' E P => K h.size T' h' rfl w' E P.1 P.2)
  obtain ⟨T', h', X', e', E', A', EA, stp⟩ := cloneH X hx hZ ho w1 w2 w3 w4 w5 w6 e0 A.arh E (g := mkF x.m pc ls (.ref a :: st)) rfl (hz.trans hm.symm) rfl (Jvm.hb hb hd) hr.1 (W := Wn) (by show 2 * 0 + _ ≤ _; omega) hr.2.1 hcap hr.2.2.1 hr.2.2.2
  exact ⟨T', h', X', e', E', EA.lt, ⟨A', EA⟩, stp⟩
theorem W.putF (w : W x wd l Z EL R own code mx ret nm T h k n sf) {i kk : Nat} {a : Addr} {O f d C : String} {v old : Value} {ty : FieldType} (hd : Dc code pc (.putfield i) 3 pc') (wl : (Jvm.Cond.fieldLink own i O f d).before a0 Z = true) (F : Fld Z h a O f d old) (E : Exa Z h a C) (La : (Jvm.Cond.lays C O f d).before a0 Z = true ∨ ((Jvm.Cond.laysFinal C O f d).before a0 Z = true ∧ own = O ∧ nm = "<init>")) (wi : (Jvm.Cond.instantiable C kk).before a0 Z = true) (hty : parseFieldDescriptor d = some ty) (hn : narrow ty v = v) (hf : fits ty v = true) (ha : a ∈ sf) (K : ∀ T' h', W x wd l Z EL R own code mx ret nm T' h' k n sf → Wr h h' a (Jvm.RoadKit.slotOf Z O f d) v → Go x wd Z EL R Q T' pc' ls st) : Go x wd Z EL R Q T pc ls (v :: .ref a :: st) := by
  obtain ⟨hd, rfl⟩ := hd
  exact w.goW ha (fun s0 L X hx hZ ho hb hnm e0 => RoadKit.putF X hx hZ ho (host := "") (Or.inl wl) Via.refl e0 F E (La.imp id fun q => ⟨q.1, q.2.1, hnm.trans q.2.2⟩) wi hty hn hf (g := mkF x.m pc ls (v :: .ref a :: st)) rfl rfl (Jvm.hb hb hd)) K
theorem W.stC (w : W x wd l Z EL R own code mx ret nm T h k n sf) {a : Addr} {kc : ClassId} {z j v : Int32} {vs : List Value} {dv : Value} (q : Nat) (vs' : List Value) (hd : Dc code pc .castore 1 pc') (A : Arv Z h a kc .char z vs dv) (hj : j.toNatClampNeg = q ∧ ¬ j < 0) (hz : q < z.toNatClampNeg) (hp : ∀ i, vs'.getD i dv = vs.getD i dv) (hq : q < vs'.length) (hf : fits .char (.int (nar .char v)) = true) (ha : a ∈ sf) (K : ∀ T' h', W x wd l Z EL R own code mx ret nm T' h' k n sf → Wr h h' a q (.int (nar .char v)) → Arv Z h' a kc .char z (vs'.set q (.int (nar .char v))) dv → Go x wd Z EL R Q T' pc' ls st) : Go x wd Z EL R Q T pc ls (.int v :: .int j :: .ref a :: st) := by
  obtain ⟨hd, rfl⟩ := hd
  obtain ⟨hj, h0⟩ := hj
  subst hj
  obtain ⟨cl, Ar, r1, S, r3, H, G⟩ := A.pad hp
  have hin : ¬ (j < 0 ∨ cl.slots.size ≤ j.toNatClampNeg) := by rw [S]; exact fun u => u.elim h0 fun u => absurd hz (Nat.not_lt.mpr u)
  refine w.goW ha (fun s0 L X hx hZ ho hb hnm e0 => RoadKit.stC X hx hZ e0 Ar hin (g := mkF x.m pc ls (.int v :: .int j :: .ref a :: st)) rfl rfl (Jvm.hb hb hd)) (fun T' h' w' Wr' => K T' h' w' Wr' (Arv.set Ar r1 S r3 H G hf Wr' _ rfl hq))
theorem W.stB (w : W x wd l Z EL R own code mx ret nm T h k n sf) {a : Addr} {kc : ClassId} {z j v : Int32} {vs : List Value} {dv : Value} (q : Nat) (vs' : List Value) (hd : Dc code pc .bastore 1 pc') (A : Arv Z h a kc .byte z vs dv) (hj : j.toNatClampNeg = q ∧ ¬ j < 0) (hz : q < z.toNatClampNeg) (hp : ∀ i, vs'.getD i dv = vs.getD i dv) (hq : q < vs'.length) (hf : fits .byte (.int (nar .byte v)) = true) (ha : a ∈ sf) (K : ∀ T' h', W x wd l Z EL R own code mx ret nm T' h' k n sf → Wr h h' a q (.int (nar .byte v)) → Arv Z h' a kc .byte z (vs'.set q (.int (nar .byte v))) dv → Go x wd Z EL R Q T' pc' ls st) : Go x wd Z EL R Q T pc ls (.int v :: .int j :: .ref a :: st) := by
  obtain ⟨hd, rfl⟩ := hd
  obtain ⟨hj, h0⟩ := hj
  subst hj
  obtain ⟨cl, Ar, r1, S, r3, H, G⟩ := A.pad hp
  have hin : ¬ (j < 0 ∨ cl.slots.size ≤ j.toNatClampNeg) := by rw [S]; exact fun u => u.elim h0 fun u => absurd hz (Nat.not_lt.mpr u)
  refine w.goW ha (fun s0 L X hx hZ ho hb hnm e0 => RoadKit.stB X hx hZ e0 Ar hin (g := mkF x.m pc ls (.int v :: .int j :: .ref a :: st)) rfl rfl (Jvm.hb hb hd)) (fun T' h' w' Wr' => K T' h' w' Wr' (Arv.set Ar r1 S r3 H G hf Wr' _ rfl hq))
theorem W.stI (w : W x wd l Z EL R own code mx ret nm T h k n sf) {a : Addr} {kc : ClassId} {z j v : Int32} {vs : List Value} {dv : Value} (q : Nat) (vs' : List Value) (hd : Dc code pc .iastore 1 pc') (A : Arv Z h a kc .int z vs dv) (hj : j.toNatClampNeg = q ∧ ¬ j < 0) (hz : q < z.toNatClampNeg) (hp : ∀ i, vs'.getD i dv = vs.getD i dv) (hq : q < vs'.length) (hf : fits .int (.int v) = true) (ha : a ∈ sf) (K : ∀ T' h', W x wd l Z EL R own code mx ret nm T' h' k n sf → Wr h h' a q (.int v) → Arv Z h' a kc .int z (vs'.set q (.int v)) dv → Go x wd Z EL R Q T' pc' ls st) : Go x wd Z EL R Q T pc ls (.int v :: .int j :: .ref a :: st) := by
  obtain ⟨hd, rfl⟩ := hd
  obtain ⟨hj, h0⟩ := hj
  subst hj
  obtain ⟨cl, Ar, r1, S, r3, H, G⟩ := A.pad hp
  have hin : ¬ (j < 0 ∨ cl.slots.size ≤ j.toNatClampNeg) := by rw [S]; exact fun u => u.elim h0 fun u => absurd hz (Nat.not_lt.mpr u)
  refine w.goW ha (fun s0 L X hx hZ ho hb hnm e0 => RoadKit.stI X hx hZ e0 Ar hin (g := mkF x.m pc ls (.int v :: .int j :: .ref a :: st)) rfl rfl (Jvm.hb hb hd)) (fun T' h' w' Wr' => K T' h' w' Wr' (Arv.set Ar r1 S r3 H G hf Wr' _ rfl hq))
theorem W.stR (w : W x wd l Z EL R own code mx ret nm T h k n sf) {a b : Addr} {kc : ClassId} {z j : Int32} {C : String} {vs : List Value} (q : Nat) (vs' : List Value) (hd : Dc code pc .aastore 1 pc') (A : Arv Z h a kc (.object C) z vs .null) (O : Ovr Z kc C) (I : Ins Z h b C true) (hj : j.toNatClampNeg = q ∧ ¬ j < 0) (hz : q < z.toNatClampNeg) (hp : ∀ i, vs'.getD i .null = vs.getD i .null) (hq : q < vs'.length) (ha : a ∈ sf) (K : ∀ T' h', W x wd l Z EL R own code mx ret nm T' h' k n sf → Wr h h' a q (.ref b) → Arv Z h' a kc (.object C) z (vs'.set q (.ref b)) .null → Go x wd Z EL R Q T' pc' ls st) : Go x wd Z EL R Q T pc ls (.ref b :: .int j :: .ref a :: st) := by
  obtain ⟨hd, rfl⟩ := hd
  obtain ⟨hj, h0⟩ := hj
  subst hj
  obtain ⟨cl, Ar, r1, S, r3, H, G⟩ := A.pad hp
  have hin : ¬ (j < 0 ∨ cl.slots.size ≤ j.toNatClampNeg) := by rw [S]; exact fun u => u.elim h0 fun u => absurd hz (Nat.not_lt.mpr u)
  refine w.goW ha (fun s0 L X hx hZ ho hb hnm e0 => RoadKit.stR X hx hZ e0 Ar hin rfl (Sto.ofV Ar r1 O I) (g := mkF x.m pc ls (.ref b :: .int j :: .ref a :: st)) rfl rfl (Jvm.hb hb hd)) (fun T' h' w' Wr' => K T' h' w' Wr' (Arv.set Ar r1 S r3 H G rfl Wr' _ rfl hq))
theorem W.retN (w : W x wd l Z EL R own code mx ret nm T h k n sf) {t : FieldType} {v : Int32} (hd : Dc code pc .ireturn 1 pc') (hr : ret = some t) (ht : t = .boolean ∨ t = .byte ∨ t = .char ∨ t = .short) (hQ : Q (some (.int (nar t v))) h) : Go x wd Z EL R Q T pc ls (.int v :: st) := by
  obtain ⟨hd, rfl⟩ := hd
  exact w.done (v := some (.int (nar t v))) (fun q => by rw [hr] at q; cases q) hQ fun s0 L X hx hb hret fs hl => RoadKit.retN X hx (hret.trans hr) ht (Jvm.hb hb hd) hl
theorem W.retI (w : W x wd l Z EL R own code mx ret nm T h k n sf) {v : Int32} (hd : Dc code pc .ireturn 1 pc') (hr : ret = some .int) (hQ : Q (some (.int v)) h) : Go x wd Z EL R Q T pc ls (.int v :: st) := by
  obtain ⟨hd, rfl⟩ := hd
  exact w.done (v := some (.int v)) (fun q => by rw [hr] at q; cases q) hQ fun s0 L X hx hb hret fs hl => retOut X hx (hret.trans hr) rfl (Or.inl ⟨rfl, Or.inl rfl, v, rfl⟩) (Jvm.hb hb hd) hl
theorem W.retA (w : W x wd l Z EL R own code mx ret nm T h k n sf) {t : FieldType} {v : Value} (hd : Dc code pc .areturn 1 pc') (hr : ret = some t) (ht : t.isReference = true) (hn : narrow t v = v) (hv : v.isRef = true) (hQ : Q (some v) h) : Go x wd Z EL R Q T pc ls (v :: st) := by
  obtain ⟨hd, rfl⟩ := hd
  exact w.done (v := some v) (fun q => by rw [hr] at q; cases q) hQ fun s0 L X hx hb hret fs hl => retOut X hx (hret.trans hr) hn (Or.inr (Or.inr (Or.inr (Or.inr ⟨rfl, ht, hv⟩)))) (Jvm.hb hb hd) hl
theorem W.retV (w : W x wd l Z EL R own code mx ret nm T h k n sf) (hd : Dc code pc .return_ 1 pc') (hr : ret = none) (hQ : Q none h) : Go x wd Z EL R Q T pc ls [] := by
  obtain ⟨hd, rfl⟩ := hd
  exact w.done (v := none) (fun _ => rfl) hQ fun s0 L X hx hb hret fs hl => X.returnOut hx (hret.trans hr) (Jvm.hb hb hd) hl
theorem W.callS (w : W x wd l Z EL R own code mx ret nm T h k n sf) {y : MethodName} {bytes : ByteArray} {maxL : Nat} {rt : Option FieldType} {rm : Room} {sf0 : List Addr} {Q' : Option Value → Heap → Prop} {i : Nat} {argsL rest : List Value}  (Wn : Nat) (hd : Dc code pc (.invokestatic i) 3 pc') (w1 : (Jvm.Cond.methodLink own i y).before a0 Z = true) (w2 : (Jvm.Cond.static y).before a0 Z = true) (w3 : (Jvm.Cond.initialized y.cls).before a0 Z = true) (w4 : (Jvm.Cond.code y bytes maxL rt).before a0 Z = true) (hy : y.cls ≠ "java/lang/invoke/MethodHandle" ∧ y.cls ≠ "java/lang/invoke/VarHandle") (C : Ct wd l Z EL y bytes maxL rt [] rm sf0 argsL.toArray h Q') (hlen : ∀ sig, parseMethodDescriptor y.desc = some sig → argsL.length = sig.parameters.length) (hz : ls.size = mx) (hst : st = argsL.reverse ++ rest) (hW : (rest.map fun v => v.category).sum ≤ Wn) (hr : rm.frames + 1 ≤ R.frames ∧ Wn + (maxL + 11) + rm.locals ≤ R.locals ∧ k + rm.cells ≤ R.cells ∧ n + rm.slots ≤ R.slots) (hsub : ∀ y ∈ sf0, y ∈ sf) (K : ∀ T' h' v, W x wd l Z EL R own code mx ret nm T' h' (k + rm.cells) (n + rm.slots) sf → h.size ≤ h'.size → Q' v h' → Go x wd Z EL R Q T' pc' ls (v.toList ++ rest)) : Go x wd Z EL R Q T pc ls st := by
  obtain ⟨hd, rfl⟩ := hd
  subst hst
  obtain ⟨hx, hb, hm, hret, hn, hl, e0, E, c1, c2, hs, hEL, L, vm0, N, g, X, S, hZ, ho, hC⟩ := w
  have hWW : 2 * (mkF x.m pc ls (argsL.reverse ++ rest)).monitorRoom + (rest.map fun v => v.category).sum ≤ Wn := by show 2 * 0 + _ ≤ _; omega
  cases wd with
  | false =>
    have eq := g rfl
    subst eq
    obtain ⟨v, _, ⟨T1, L1, k1, n1⟩, -, X1, ⟨Lc, hQ, l1, y1, z1⟩, stp⟩ := Jvm.LawKit.callS X hx (y := y) ho (mvT hZ w1) (mvT hZ w2) (mvT hZ w3) (mvT hZ w4) hy (backN (Wn := Wn) C hZ w4 w3 hr.1 hr.2.1) (g := mkF x.m pc ls (argsL.reverse ++ rest)) rfl (hz.trans hm.symm) (argsL := argsL) (rest := rest) hlen rfl hWW (Jvm.hb hb hd) (fun _ _ => ⟨rfl, e0, hr.2.2.1, hr.2.2.2⟩)
    dsimp only [Pt.U, Pt.locs, Pt.cells, Pt.slots] at X1 l1 y1 z1 stp hQ
    subst l1 y1 z1
    obtain ⟨s₂, o, a1, r⟩ := K T1 T1.heap v ⟨hx, hb, hm, hret, hn, hl, rfl, hQ.2.2.1, hr.2.2.1, hr.2.2.2, fun y hy => ⟨(hs y hy).1, Nat.lt_of_lt_of_le (hs y hy).2 hQ.2.2.2⟩, hEL, _, _, Fr.app N hQ.2.1, fun _ => rfl, X1, (State.WarmedH.refl x.s).since _, hZ, ho, fun q => by cases q⟩ hQ.2.2.2 hQ.1
    exact ⟨s₂, o, stp _ a1, r⟩
  | true =>
    obtain ⟨v, _, ⟨T1, L1, k1, n1⟩, -, X1, hS1, hgr, ⟨Lc, hQ, l1, y1, z1, hCr⟩, stp⟩ := callSS X hx (y := y) ho (mvT (s := x.s.setVm vm0) hZ w1) (mvT (s := x.s.setVm vm0) hZ w2) (mvT (s := x.s.setVm vm0) hZ w3) (mvT (s := x.s.setVm vm0) hZ w4) hy (backW (s := x.s) (Wn := Wn) C hZ w4 w3 hr.1 hr.2.1 hEL (hC rfl).1.1 (fun y hy => ⟨(hs y (hsub y hy)).2, (hC rfl).2 y (hsub y hy)⟩)) (g := mkF x.m pc ls (argsL.reverse ++ rest)) rfl (hz.trans hm.symm) (argsL := argsL) (rest := rest) hlen rfl hWW (Jvm.hb hb hd) (fun _ _ => ⟨rfl, e0, hr.2.2.1, hr.2.2.2⟩)
    dsimp only [Pt.U, Pt.locs, Pt.cells, Pt.slots] at X1 l1 y1 z1 stp hQ hS1 hgr hCr
    subst l1 y1 z1
    rw [e0] at hgr
    obtain ⟨Xr, Sr, Zr, Or⟩ := rebS (s := x.s) (vm0 := vm0) S hgr X1 hS1 (Nat.le_refl _) hZ ho
    obtain ⟨s₂, o, a1, r⟩ := K T1 T1.heap v ⟨hx, hb, hm, hret, hn, hl, rfl, hQ.2.2.1, hr.2.2.1, hr.2.2.2, fun y hy => ⟨(hs y hy).1, Nat.lt_of_lt_of_le (hs y hy).2 hgr⟩, hEL, _, _, Fr.app N hQ.2.1, (fun q => by cases q), Xr, Sr, Zr, Or, fun _ => ⟨(hC rfl).1.trans hCr, fun y hy => hCr.safe (hs y hy).2 ((hC rfl).2 y hy)⟩⟩ hgr hQ.1
    exact ⟨s₂, o, stp.trans a1, r⟩
theorem W.callI (w : W x wd l Z EL R own code mx ret nm T h k n sf) {y : MethodName} {bytes : ByteArray} {maxL : Nat} {rm : Room} {sf0 : List Addr} {Q' : Option Value → Heap → Prop} {i : Nat} {argsL rest : List Value} {a : Addr} (Wn : Nat) (hd : Dc code pc (.invokespecial i) 3 pc') (hy1 : y.name = "<init>") (w1 : (Jvm.Cond.methodLink own i y).before a0 Z = true) (w2 : (Jvm.Cond.instanceMethod y).before a0 Z = true) (w3 : (Jvm.Cond.initialized y.cls).before a0 Z = true) (w4 : (Jvm.Cond.code y bytes maxL none).before a0 Z = true) (hy : y.cls ≠ "java/lang/invoke/MethodHandle" ∧ y.cls ≠ "java/lang/invoke/VarHandle") (C : Ct wd l Z EL y bytes maxL none [] rm sf0 (.ref a :: argsL).toArray h Q') (hlen : ∀ sig, parseMethodDescriptor y.desc = some sig → argsL.length = sig.parameters.length) (hz : ls.size = mx) (hst : st = argsL.reverse ++ .ref a :: rest) (hW : (rest.map fun v => v.category).sum ≤ Wn) (hr : rm.frames + 1 ≤ R.frames ∧ Wn + (maxL + 11) + rm.locals ≤ R.locals ∧ k + rm.cells ≤ R.cells ∧ n + rm.slots ≤ R.slots) (hsub : ∀ y ∈ sf0, y ∈ sf) (K : ∀ T' h' v, W x wd l Z EL R own code mx ret nm T' h' (k + rm.cells) (n + rm.slots) sf → h.size ≤ h'.size → Q' v h' → Go x wd Z EL R Q T' pc' ls (v.toList ++ rest)) : Go x wd Z EL R Q T pc ls st := by
  obtain ⟨hd, rfl⟩ := hd
  subst hst
  obtain ⟨hx, hb, hm, hret, hn, hl, e0, E, c1, c2, hs, hEL, L, vm0, N, g, X, S, hZ, ho, hC⟩ := w
  have hWW : 2 * (mkF x.m pc ls (argsL.reverse ++ .ref a :: rest)).monitorRoom + (rest.map fun v => v.category).sum ≤ Wn := by show 2 * 0 + _ ≤ _; omega
  cases wd with
  | false =>
    have eq := g rfl
    subst eq
    obtain ⟨v, _, ⟨T1, L1, k1, n1⟩, -, X1, ⟨Lc, hQ, l1, y1, z1⟩, stp⟩ := X.specialBack hx (y := y) hy1 ho (mvT hZ w1) (mvT hZ w2) (mvT hZ w4) hy (backN (Wn := Wn) C hZ w4 w3 hr.1 hr.2.1) (g := mkF x.m pc ls (argsL.reverse ++ .ref a :: rest)) rfl (hz.trans hm.symm) (Steps.refl _) (a := a) (argsL := argsL) (rest := rest) hlen rfl hWW (Jvm.hb hb hd) (fun _ _ => ⟨rfl, e0, hr.2.2.1, hr.2.2.2⟩)
    dsimp only [Pt.U, Pt.locs, Pt.cells, Pt.slots] at X1 l1 y1 z1 stp hQ
    subst l1 y1 z1
    obtain ⟨s₂, o, a1, r⟩ := K T1 T1.heap v ⟨hx, hb, hm, hret, hn, hl, rfl, hQ.2.2.1, hr.2.2.1, hr.2.2.2, fun y hy => ⟨(hs y hy).1, Nat.lt_of_lt_of_le (hs y hy).2 hQ.2.2.2⟩, hEL, _, _, Fr.app N hQ.2.1, fun _ => rfl, X1, (State.WarmedH.refl x.s).since _, hZ, ho, fun q => by cases q⟩ hQ.2.2.2 hQ.1
    exact ⟨s₂, o, stp.trans a1, r⟩
  | true =>
    obtain ⟨v, _, ⟨T1, L1, k1, n1⟩, -, X1, hS1, hgr, ⟨Lc, hQ, l1, y1, z1, hCr⟩, stp⟩ := X.specialBackS hx (y := y) hy1 ho (mvT (s := x.s.setVm vm0) hZ w1) (mvT (s := x.s.setVm vm0) hZ w2) (mvT (s := x.s.setVm vm0) hZ w4) hy (backW (s := x.s) (Wn := Wn) C hZ w4 w3 hr.1 hr.2.1 hEL (hC rfl).1.1 (fun y hy => ⟨(hs y (hsub y hy)).2, (hC rfl).2 y (hsub y hy)⟩)) (g := mkF x.m pc ls (argsL.reverse ++ .ref a :: rest)) rfl (hz.trans hm.symm) (Steps.refl _) (a := a) (argsL := argsL) (rest := rest) hlen rfl hWW (Jvm.hb hb hd) (fun _ _ => ⟨rfl, e0, hr.2.2.1, hr.2.2.2⟩)
    dsimp only [Pt.U, Pt.locs, Pt.cells, Pt.slots] at X1 l1 y1 z1 stp hQ hS1 hgr hCr
    subst l1 y1 z1
    rw [e0] at hgr
    obtain ⟨Xr, Sr, Zr, Or⟩ := rebS (s := x.s) (vm0 := vm0) S hgr X1 hS1 (Nat.le_refl _) hZ ho
    obtain ⟨s₂, o, a1, r⟩ := K T1 T1.heap v ⟨hx, hb, hm, hret, hn, hl, rfl, hQ.2.2.1, hr.2.2.1, hr.2.2.2, fun y hy => ⟨(hs y hy).1, Nat.lt_of_lt_of_le (hs y hy).2 hgr⟩, hEL, _, _, Fr.app N hQ.2.1, (fun q => by cases q), Xr, Sr, Zr, Or, fun _ => ⟨(hC rfl).1.trans hCr, fun y hy => hCr.safe (hs y hy).2 ((hC rfl).2 y hy)⟩⟩ hgr hQ.1
    exact ⟨s₂, o, stp.trans a1, r⟩
theorem W.callV (w : W x wd l Z EL R own code mx ret nm T h k n sf) {y : MethodName} {bytes : ByteArray} {maxL : Nat} {rt : Option FieldType} {rm : Room} {sf0 : List Addr} {Q' : Option Value → Heap → Prop} {i : Nat} {argsL rest : List Value} {a : Addr} {Cl : String} (Wn : Nat) (hd : Dc code pc (.invokevirtual i) 3 pc') (w1 : (Jvm.Cond.methodLink own i y).before a0 Z = true) (wd1 : (Jvm.Cond.declares y).before a0 Z = true) (ws : (Jvm.Cond.selects Cl y y).before a0 Z = true) (w2 : (Jvm.Cond.instanceMethod y).before a0 Z = true) (w3 : (Jvm.Cond.initialized y.cls).before a0 Z = true) (w4 : (Jvm.Cond.code y bytes maxL rt).before a0 Z = true) (hy : y.cls ≠ "java/lang/invoke/MethodHandle" ∧ y.cls ≠ "java/lang/invoke/VarHandle") (Ea : Exa Z h a Cl) (C : Ct wd l Z EL y bytes maxL rt [] rm sf0 (.ref a :: argsL).toArray h Q') (hlen : ∀ sig, parseMethodDescriptor y.desc = some sig → argsL.length = sig.parameters.length) (hz : ls.size = mx) (hst : st = argsL.reverse ++ .ref a :: rest) (hW : (rest.map fun v => v.category).sum ≤ Wn) (hr : rm.frames + 1 ≤ R.frames ∧ Wn + (maxL + 11) + rm.locals ≤ R.locals ∧ k + rm.cells ≤ R.cells ∧ n + rm.slots ≤ R.slots) (hsub : ∀ y ∈ sf0, y ∈ sf) (K : ∀ T' h' v, W x wd l Z EL R own code mx ret nm T' h' (k + rm.cells) (n + rm.slots) sf → h.size ≤ h'.size → Q' v h' → Go x wd Z EL R Q T' pc' ls (v.toList ++ rest)) : Go x wd Z EL R Q T pc ls st := by
  obtain ⟨hd, rfl⟩ := hd
  subst hst
  obtain ⟨hx, hb, hm, hret, hn, hl, e0, E, c1, c2, hs, hEL, L, vm0, N, g, X, S, hZ, ho, hC⟩ := w
  have hWW : 2 * (mkF x.m pc ls (argsL.reverse ++ .ref a :: rest)).monitorRoom + (rest.map fun v => v.category).sum ≤ Wn := by show 2 * 0 + _ ≤ _; omega
  obtain ⟨cB, kB, qa, qb, qc⟩ := isOf (s := x.s.setVm vm0) hZ e0 Ea
  cases wd with
  | false =>
    have eq := g rfl
    subst eq
    obtain ⟨v, _, ⟨T1, L1, k1, n1⟩, -, X1, ⟨Lc, hQ, l1, y1, z1⟩, stp⟩ := X.virtualBack hx (y := y) (z := y) ho (mvT hZ w1) (mvT hZ wd1) (notFace_of_selects (args := #[]) (mvT hZ ws)) (mvT hZ ws) (mvT hZ w2) hy (backN (Wn := Wn) C hZ w4 w3 hr.1 hr.2.1) qa qc (g := mkF x.m pc ls (argsL.reverse ++ .ref a :: rest)) rfl (hz.trans hm.symm) (Steps.refl _) (argsL := argsL) (rest := rest) hlen rfl hWW (Jvm.hb hb hd) (fun _ _ => ⟨rfl, e0, hr.2.2.1, hr.2.2.2⟩)
    dsimp only [Pt.U, Pt.locs, Pt.cells, Pt.slots] at X1 l1 y1 z1 stp hQ
    subst l1 y1 z1
    obtain ⟨s₂, o, a1, r⟩ := K T1 T1.heap v ⟨hx, hb, hm, hret, hn, hl, rfl, hQ.2.2.1, hr.2.2.1, hr.2.2.2, fun y hy => ⟨(hs y hy).1, Nat.lt_of_lt_of_le (hs y hy).2 hQ.2.2.2⟩, hEL, _, _, Fr.app N hQ.2.1, fun _ => rfl, X1, (State.WarmedH.refl x.s).since _, hZ, ho, fun q => by cases q⟩ hQ.2.2.2 hQ.1
    exact ⟨s₂, o, stp.trans a1, r⟩
  | true =>
    obtain ⟨v, _, ⟨T1, L1, k1, n1⟩, -, X1, hS1, hgr, ⟨Lc, hQ, l1, y1, z1, hCr⟩, stp⟩ := X.virtualBackS hx (y := y) (z := y) ho (mvT (s := x.s.setVm vm0) hZ w1) (mvT (s := x.s.setVm vm0) hZ wd1) (notFace_of_selects (args := #[]) (mvT (s := x.s.setVm vm0) hZ ws)) (mvT (s := x.s.setVm vm0) hZ ws) (mvT (s := x.s.setVm vm0) hZ w2) hy (backW (s := x.s) (Wn := Wn) C hZ w4 w3 hr.1 hr.2.1 hEL (hC rfl).1.1 (fun y hy => ⟨(hs y (hsub y hy)).2, (hC rfl).2 y (hsub y hy)⟩)) qa qc (g := mkF x.m pc ls (argsL.reverse ++ .ref a :: rest)) rfl (hz.trans hm.symm) (Steps.refl _) (argsL := argsL) (rest := rest) hlen rfl hWW (Jvm.hb hb hd) (fun _ _ => ⟨rfl, e0, hr.2.2.1, hr.2.2.2⟩)
    dsimp only [Pt.U, Pt.locs, Pt.cells, Pt.slots] at X1 l1 y1 z1 stp hQ hS1 hgr hCr
    subst l1 y1 z1
    rw [e0] at hgr
    obtain ⟨Xr, Sr, Zr, Or⟩ := rebS (s := x.s) (vm0 := vm0) S hgr X1 hS1 (Nat.le_refl _) hZ ho
    obtain ⟨s₂, o, a1, r⟩ := K T1 T1.heap v ⟨hx, hb, hm, hret, hn, hl, rfl, hQ.2.2.1, hr.2.2.1, hr.2.2.2, fun y hy => ⟨(hs y hy).1, Nat.lt_of_lt_of_le (hs y hy).2 hgr⟩, hEL, _, _, Fr.app N hQ.2.1, (fun q => by cases q), Xr, Sr, Zr, Or, fun _ => ⟨(hC rfl).1.trans hCr, fun y hy => hCr.safe (hs y hy).2 ((hC rfl).2 y hy)⟩⟩ hgr hQ.1
    exact ⟨s₂, o, stp.trans a1, r⟩
theorem W.callVZ (w : W x wd l Z EL R own code mx ret nm T h k n sf) {y : MethodName} {bytes : ByteArray} {maxL : Nat} {rt : Option FieldType} {rm : Room} {sf0 : List Addr} {Q' : Option Value → Heap → Prop} {i : Nat} {argsL rest : List Value} {a : Addr} {z : MethodName} {Cl Sup : String} (Wn : Nat) (hd : Dc code pc (.invokevirtual i) 3 pc') (w1 : (Jvm.Cond.methodLink own i y).before a0 Z = true) (wd1 : (Jvm.Cond.declares y).before a0 Z = true) (wsp : (Jvm.Cond.superclass y.cls Sup).before a0 Z = true) (ws : (Jvm.Cond.selects Cl y z).before a0 Z = true) (w2 : (Jvm.Cond.instanceMethod z).before a0 Z = true) (w3 : (Jvm.Cond.initialized z.cls).before a0 Z = true) (w4 : (Jvm.Cond.code z bytes maxL rt).before a0 Z = true) (hy : y.cls ≠ "java/lang/invoke/MethodHandle" ∧ y.cls ≠ "java/lang/invoke/VarHandle") (Ea : Exa Z h a Cl) (C : Ct wd l Z EL z bytes maxL rt [] rm sf0 (.ref a :: argsL).toArray h Q') (hlen : ∀ sig, parseMethodDescriptor y.desc = some sig → argsL.length = sig.parameters.length) (hz : ls.size = mx) (hst : st = argsL.reverse ++ .ref a :: rest) (hW : (rest.map fun v => v.category).sum ≤ Wn) (hr : rm.frames + 1 ≤ R.frames ∧ Wn + (maxL + 11) + rm.locals ≤ R.locals ∧ k + rm.cells ≤ R.cells ∧ n + rm.slots ≤ R.slots) (hsub : ∀ y ∈ sf0, y ∈ sf) (K : ∀ T' h' v, W x wd l Z EL R own code mx ret nm T' h' (k + rm.cells) (n + rm.slots) sf → h.size ≤ h'.size → Q' v h' → Go x wd Z EL R Q T' pc' ls (v.toList ++ rest)) : Go x wd Z EL R Q T pc ls st := by
  obtain ⟨hd, rfl⟩ := hd
  subst hst
  obtain ⟨hx, hb, hm, hret, hn, hl, e0, E, c1, c2, hs, hEL, L, vm0, N, g, X, S, hZ, ho, hC⟩ := w
  have hWW : 2 * (mkF x.m pc ls (argsL.reverse ++ .ref a :: rest)).monitorRoom + (rest.map fun v => v.category).sum ≤ Wn := by show 2 * 0 + _ ≤ _; omega
  obtain ⟨cB, kB, qa, qb, qc⟩ := isOf (s := x.s.setVm vm0) hZ e0 Ea
  cases wd with
  | false =>
    have eq := g rfl
    subst eq
    obtain ⟨v, _, ⟨T1, L1, k1, n1⟩, -, X1, ⟨Lc, hQ, l1, y1, z1⟩, stp⟩ := X.virtualBack hx (y := y) (z := z) ho (mvT hZ w1) (mvT hZ wd1) (nf_super (args := #[]) (mvT hZ wsp)) (mvT hZ ws) (mvT hZ w2) hy (backN (Wn := Wn) C hZ w4 w3 hr.1 hr.2.1) qa qc (g := mkF x.m pc ls (argsL.reverse ++ .ref a :: rest)) rfl (hz.trans hm.symm) (Steps.refl _) (argsL := argsL) (rest := rest) hlen rfl hWW (Jvm.hb hb hd) (fun _ _ => ⟨rfl, e0, hr.2.2.1, hr.2.2.2⟩)
    dsimp only [Pt.U, Pt.locs, Pt.cells, Pt.slots] at X1 l1 y1 z1 stp hQ
    subst l1 y1 z1
    obtain ⟨s₂, o, a1, r⟩ := K T1 T1.heap v ⟨hx, hb, hm, hret, hn, hl, rfl, hQ.2.2.1, hr.2.2.1, hr.2.2.2, fun y hy => ⟨(hs y hy).1, Nat.lt_of_lt_of_le (hs y hy).2 hQ.2.2.2⟩, hEL, _, _, Fr.app N hQ.2.1, fun _ => rfl, X1, (State.WarmedH.refl x.s).since _, hZ, ho, fun q => by cases q⟩ hQ.2.2.2 hQ.1
    exact ⟨s₂, o, stp.trans a1, r⟩
  | true =>
    obtain ⟨v, _, ⟨T1, L1, k1, n1⟩, -, X1, hS1, hgr, ⟨Lc, hQ, l1, y1, z1, hCr⟩, stp⟩ := X.virtualBackS hx (y := y) (z := z) ho (mvT (s := x.s.setVm vm0) hZ w1) (mvT (s := x.s.setVm vm0) hZ wd1) (nf_super (args := #[]) (mvT (s := x.s.setVm vm0) hZ wsp)) (mvT (s := x.s.setVm vm0) hZ ws) (mvT (s := x.s.setVm vm0) hZ w2) hy (backW (s := x.s) (Wn := Wn) C hZ w4 w3 hr.1 hr.2.1 hEL (hC rfl).1.1 (fun y hy => ⟨(hs y (hsub y hy)).2, (hC rfl).2 y (hsub y hy)⟩)) qa qc (g := mkF x.m pc ls (argsL.reverse ++ .ref a :: rest)) rfl (hz.trans hm.symm) (Steps.refl _) (argsL := argsL) (rest := rest) hlen rfl hWW (Jvm.hb hb hd) (fun _ _ => ⟨rfl, e0, hr.2.2.1, hr.2.2.2⟩)
    dsimp only [Pt.U, Pt.locs, Pt.cells, Pt.slots] at X1 l1 y1 z1 stp hQ hS1 hgr hCr
    subst l1 y1 z1
    rw [e0] at hgr
    obtain ⟨Xr, Sr, Zr, Or⟩ := rebS (s := x.s) (vm0 := vm0) S hgr X1 hS1 (Nat.le_refl _) hZ ho
    obtain ⟨s₂, o, a1, r⟩ := K T1 T1.heap v ⟨hx, hb, hm, hret, hn, hl, rfl, hQ.2.2.1, hr.2.2.1, hr.2.2.2, fun y hy => ⟨(hs y hy).1, Nat.lt_of_lt_of_le (hs y hy).2 hgr⟩, hEL, _, _, Fr.app N hQ.2.1, (fun q => by cases q), Xr, Sr, Zr, Or, fun _ => ⟨(hC rfl).1.trans hCr, fun y hy => hCr.safe (hs y hy).2 ((hC rfl).2 y hy)⟩⟩ hgr hQ.1
    exact ⟨s₂, o, stp.trans a1, r⟩
theorem W.callVU (w : W x wd l Z EL R own code mx ret nm T h k n sf) {y : MethodName} {bytes : ByteArray} {maxL : Nat} {rt : Option FieldType} {rm : Room} {sf0 : List Addr} {Q' : Option Value → Heap → Prop} {i : Nat} {argsL rest : List Value} {a : Addr} {z : MethodName} {Cl ow : String} (Wn : Nat) (hd : Dc code pc (.invokevirtual i) 3 pc') (w1 : (Jvm.Cond.methodLink own i y).before a0 Z = true) (wsm : (Jvm.Cond.sameMethod y.cls ow y.name y.desc).before a0 Z = true) (wd1 : (Jvm.Cond.declares ⟨ow, y.name, y.desc⟩).before a0 Z = true) (ws : (Jvm.Cond.selects Cl y z).before a0 Z = true) (w2 : (Jvm.Cond.instanceMethod z).before a0 Z = true) (w3 : (Jvm.Cond.initialized z.cls).before a0 Z = true) (w4 : (Jvm.Cond.code z bytes maxL rt).before a0 Z = true) (hy : ow ≠ "java/lang/invoke/MethodHandle" ∧ ow ≠ "java/lang/invoke/VarHandle") (Ea : Exa Z h a Cl) (C : Ct wd l Z EL z bytes maxL rt [] rm sf0 (.ref a :: argsL).toArray h Q') (hlen : ∀ sig, parseMethodDescriptor y.desc = some sig → argsL.length = sig.parameters.length) (hz : ls.size = mx) (hst : st = argsL.reverse ++ .ref a :: rest) (hW : (rest.map fun v => v.category).sum ≤ Wn) (hr : rm.frames + 1 ≤ R.frames ∧ Wn + (maxL + 11) + rm.locals ≤ R.locals ∧ k + rm.cells ≤ R.cells ∧ n + rm.slots ≤ R.slots) (hsub : ∀ y ∈ sf0, y ∈ sf) (K : ∀ T' h' v, W x wd l Z EL R own code mx ret nm T' h' (k + rm.cells) (n + rm.slots) sf → h.size ≤ h'.size → Q' v h' → Go x wd Z EL R Q T' pc' ls (v.toList ++ rest)) : Go x wd Z EL R Q T pc ls st := by
  obtain ⟨hd, rfl⟩ := hd
  subst hst
  obtain ⟨hx, hb, hm, hret, hn, hl, e0, E, c1, c2, hs, hEL, L, vm0, N, g, X, S, hZ, ho, hC⟩ := w
  have hWW : 2 * (mkF x.m pc ls (argsL.reverse ++ .ref a :: rest)).monitorRoom + (rest.map fun v => v.category).sum ≤ Wn := by show 2 * 0 + _ ≤ _; omega
  obtain ⟨cB, kB, qa, qb, qc⟩ := isOf (s := x.s.setVm vm0) hZ e0 Ea
  cases wd with
  | false =>
    have eq := g rfl
    subst eq
    obtain ⟨v, _, ⟨T1, L1, k1, n1⟩, -, X1, ⟨Lc, hQ, l1, y1, z1⟩, stp⟩ := X.virtualBackUp hx (x := y) (y := z) ho (mvT hZ w1) (mvT hZ wsm) (mvT hZ wd1) hy (mvT hZ ws) (mvT hZ w2) (backN (Wn := Wn) C hZ w4 w3 hr.1 hr.2.1) qa qc (g := mkF x.m pc ls (argsL.reverse ++ .ref a :: rest)) rfl (hz.trans hm.symm) (Steps.refl _) (argsL := argsL) (rest := rest) hlen rfl hWW (Jvm.hb hb hd) (fun _ _ => ⟨rfl, e0, hr.2.2.1, hr.2.2.2⟩)
    dsimp only [Pt.U, Pt.locs, Pt.cells, Pt.slots] at X1 l1 y1 z1 stp hQ
    subst l1 y1 z1
    obtain ⟨s₂, o, a1, r⟩ := K T1 T1.heap v ⟨hx, hb, hm, hret, hn, hl, rfl, hQ.2.2.1, hr.2.2.1, hr.2.2.2, fun y hy => ⟨(hs y hy).1, Nat.lt_of_lt_of_le (hs y hy).2 hQ.2.2.2⟩, hEL, _, _, Fr.app N hQ.2.1, fun _ => rfl, X1, (State.WarmedH.refl x.s).since _, hZ, ho, fun q => by cases q⟩ hQ.2.2.2 hQ.1
    exact ⟨s₂, o, stp.trans a1, r⟩
  | true =>
    obtain ⟨v, _, ⟨T1, L1, k1, n1⟩, -, X1, hS1, hgr, ⟨Lc, hQ, l1, y1, z1, hCr⟩, stp⟩ := X.virtualBackUpS hx (x := y) (y := z) ho (mvT (s := x.s.setVm vm0) hZ w1) (mvT (s := x.s.setVm vm0) hZ wsm) (mvT (s := x.s.setVm vm0) hZ wd1) hy (mvT (s := x.s.setVm vm0) hZ ws) (mvT (s := x.s.setVm vm0) hZ w2) (backW (s := x.s) (Wn := Wn) C hZ w4 w3 hr.1 hr.2.1 hEL (hC rfl).1.1 (fun y hy => ⟨(hs y (hsub y hy)).2, (hC rfl).2 y (hsub y hy)⟩)) qa qc (g := mkF x.m pc ls (argsL.reverse ++ .ref a :: rest)) rfl (hz.trans hm.symm) (Steps.refl _) (argsL := argsL) (rest := rest) hlen rfl hWW (Jvm.hb hb hd) (fun _ _ => ⟨rfl, e0, hr.2.2.1, hr.2.2.2⟩)
    dsimp only [Pt.U, Pt.locs, Pt.cells, Pt.slots] at X1 l1 y1 z1 stp hQ hS1 hgr hCr
    subst l1 y1 z1
    rw [e0] at hgr
    obtain ⟨Xr, Sr, Zr, Or⟩ := rebS (s := x.s) (vm0 := vm0) S hgr X1 hS1 (Nat.le_refl _) hZ ho
    obtain ⟨s₂, o, a1, r⟩ := K T1 T1.heap v ⟨hx, hb, hm, hret, hn, hl, rfl, hQ.2.2.1, hr.2.2.1, hr.2.2.2, fun y hy => ⟨(hs y hy).1, Nat.lt_of_lt_of_le (hs y hy).2 hgr⟩, hEL, _, _, Fr.app N hQ.2.1, (fun q => by cases q), Xr, Sr, Zr, Or, fun _ => ⟨(hC rfl).1.trans hCr, fun y hy => hCr.safe (hs y hy).2 ((hC rfl).2 y hy)⟩⟩ hgr hQ.1
    exact ⟨s₂, o, stp.trans a1, r⟩
theorem W.lsw (w : W x wd l Z EL R own code mx ret nm T h k n sf) {dflt off : Int} {pairs : Array (Int × Int)} {len : Nat} {i : Int32} (hd : Dc code pc (.lookupswitch dflt pairs) len pc') (hp : (pairs.toList.zip (pairs.toList.drop 1)).all (fun (a, next) => a.1 < next.1) = true) (ho : (match pairs.find? (·.1 == i.toInt) with | some (_, o) => o | none => dflt) = off) (ht : Tg pc off pcT) (K : Go x wd Z EL R Q T pcT ls st) : Go x wd Z EL R Q T pc ls (.int i :: st) := by
  obtain ⟨hd, rfl⟩ := hd
  obtain ⟨ht, rfl⟩ := ht
  obtain ⟨hx, hb, hm, hr, hn, hl, e0, E, c1, c2, hs, hEL, L, vm0, N, g, X, S, hZ, ho', hC⟩ := w
  obtain ⟨s₂, o, a1, r⟩ := K
  refine ⟨s₂, o, ?_, r⟩
  rcases hf : pairs.find? (·.1 == i.toInt) with _ | ⟨a, off'⟩
  · simp only [hf] at ho
    subst ho
    exact X.lookupswitchMiss hx (g := mkF x.m pc ls (.int i :: st)) rfl rfl (Jvm.hb hb hd) hp hf ht _ a1
  · simp only [hf] at ho
    subst ho
    exact X.lookupswitchHit hx (g := mkF x.m pc ls (.int i :: st)) rfl rfl (Jvm.hb hb hd) hp hf ht _ a1
theorem W.instNo (w : W x wd l Z EL R own code mx ret nm T h k n sf) {i : Nat} {a : Addr} {C K0 : String} (hd : Dc code pc (.instanceof i) 3 pc') (wl : (Jvm.Cond.classLink own i K0).before a0 Z = true) (E : Exa Z h a C) (F : ∃ c t, Z.vm.findClass C = some c ∧ Z.vm.findClass K0 = some t ∧ Z.vm.assignable c t = false) (K : ∀ T', W x wd l Z EL R own code mx ret nm T' h k n sf → Go x wd Z EL R Q T' pc' ls (.int 0 :: st)) : Go x wd Z EL R Q T pc ls (.ref a :: st) := by
  obtain ⟨hd, rfl⟩ := hd
  exact w.goT (fun s0 L X hx hZ ho hb hm e0 => RoadKit.instNo X hx hZ ho wl e0 E F (g := mkF x.m pc ls (.ref a :: st)) rfl rfl (Jvm.hb hb hd)) K
theorem W.ldc2J (w : W x wd l Z EL R own code mx ret nm T h k n sf) {i : Nat} {v : Int64} (hd : Dc code pc (.ldc2_w i) 3 pc') (wc : (Jvm.Cond.constantLong own i v).before a0 Z = true) (K : Go x wd Z EL R Q T pc' ls (.long v :: st)) : Go x wd Z EL R Q T pc ls st := by
  obtain ⟨hd, rfl⟩ := hd
  obtain ⟨hx, hb, hm, hr, hn, hl, e0, E, c1, c2, hs, hEL, L, vm0, N, g, X, S, hZ, ho, hC⟩ := w
  obtain ⟨s₂, o, a1, r⟩ := K
  exact ⟨s₂, o, X.ldc2J hx ho (mv (s := x.s.setVm vm0) hZ wc) rfl (Jvm.hb hb hd) a1, r⟩
theorem W.instNull (w : W x wd l Z EL R own code mx ret nm T h k n sf) {i : Nat} (hd : Dc code pc (.instanceof i) 3 pc') (K : Go x wd Z EL R Q T pc' ls (.int 0 :: st)) : Go x wd Z EL R Q T pc ls (.null :: st) := by
  obtain ⟨hd, rfl⟩ := hd
  obtain ⟨hx, hb, hm, hr, hn, hl, e0, E, c1, c2, hs, hEL, L, vm0, N, g, X, S, hZ, ho, hC⟩ := w
  obtain ⟨s₂, o, a1, r⟩ := K
  exact ⟨s₂, o, X.instanceofNull hx (g := mkF x.m pc ls (.null :: st)) rfl rfl (Jvm.hb hb hd) _ a1, r⟩
theorem W.getFR (w : W x wd l Z EL R own code mx ret nm T h k n sf) {i : Nat} {a : Addr} {O f d : String} {v : Value} (hd : Dc code pc (.getfield i) 3 pc') (wl : (Jvm.Cond.fieldRef own i O f d).before a0 Z = true) (F : Fld Z h a O f d v) (K : Go x wd Z EL R Q T pc' ls (v :: st)) : Go x wd Z EL R Q T pc ls (.ref a :: st) := by
  obtain ⟨hd, rfl⟩ := hd
  obtain ⟨hx, hb, hm, hr, hn, hl, e0, E, c1, c2, hs, hEL, L, vm0, N, g, X, S, hZ, ho, hC⟩ := w
  obtain ⟨s₂, o, a1, r⟩ := K
  obtain ⟨cell, cf, kk, ii, fl, h1, h2, h3, h4, -, -, h7⟩ := F
  have hZT : Z.Warmed39 T.vm := wtrans (s := x.s.setVm vm0) hZ X.warmed
  have hq := Cond.fieldRef_warmed39 hZT wl
  have hoT : (Z.setVm T.vm).vm.findClass own = some x.m.cls := (X.warmed.alike.findClass _ _).trans ho
  obtain ⟨q1, q2, q3, q4, g1, g2⟩ := Cond.fieldRef_spec hoT hq
  obtain ⟨k', hi, -⟩ := State.fieldFound?_setVm (s := Z) hZT.alike h2
  cases hi.symm.trans g1
  have hd' := Jvm.hb hb hd
  have g2' : T.vm.fieldReady x.m.cls i cf fl := g2
  refine ⟨s₂, o, ?_, r⟩
  show Steps x.p.tables x.e x.below (T.setTop { method := x.m, pc := pc, locals := ls, stack := .ref a :: st, locked := none }) _
  jvm_step X.here [hx, hd', getfield.wp_ready (e := x.e) (s := T) (f := mkF x.m pc ls (.ref a :: st)) X.here.top g2' h3 rfl (show T.heap[a]? = some cell by rw [e0]; exact h1) h4 h7]
  exact a1
theorem W.ldcS (w : W x true l Z EL R own code mx ret nm T h k n sf) {i : Nat} {text : String} (nn : Nat) (hd : Dc code pc (.ldc i) 2 pc') (wl : (Jvm.Cond.stringLink own i text).before a0 Z = true) (wS : ∀ a ∈ Bundle.stringAtoms, a.before a0 Z = true) (hEL : EW Z a0 EL) (hn4 : 4 * text.toList.length ≤ nn) (hbig : nn ≤ 536870912) (hr : k + 2 ≤ R.cells ∧ n + (nn + 4) ≤ R.slots) (K : ∀ (a : Addr) T' h', W x true l Z EL R own code mx ret nm T' h' (k + 2) (n + (nn + 4)) sf → Ext h h' → Go x true Z EL R Q T' pc' ls (.ref a :: st)) : Go x true Z EL R Q T pc ls st := by
  obtain ⟨hd, rfl⟩ := hd
  obtain ⟨hx, hb, hm, hret, hnm, hl, e0, E, c1, c2, hs, -, L, vm0, N, g, X, S, hZ, ho, hC⟩ := w
  obtain ⟨a, T', h', k1, X', e', E', S', hk1, Z', o', hCr, -, stp⟩ := ldcOH X hx hZ ho wl wS e0 S (Nat.le_refl _) hEL (hC rfl).1.1 (g := mkF x.m pc ls st) rfl (Jvm.hb hb hd) hn4 hbig hr.1 hr.2
  obtain ⟨s₂, o, a1, r⟩ := K a T' h' ⟨hx, hb, hm, hret, hnm, hl, e', ext_trans E E', hr.1, hr.2, fun y hy => ⟨(hs y hy).1, Nat.lt_of_lt_of_le (hs y hy).2 E'.1⟩, ⟨a0, hEL⟩, L, _, N, (fun q => by cases q), X', since_mono S' hk1, Z', o', fun _ => ⟨(hC rfl).1.trans hCr, fun y hy => hCr.safe (hs y hy).2 ((hC rfl).2 y hy)⟩⟩ E'
  exact ⟨s₂, o, stp _ a1, r⟩
theorem W.ldcR (w : W x true l Z EL R own code mx ret nm T h k n sf) {i : Nat} {text : String} {vs : List Value} (z : Int32) (nn : Nat) (hd : Dc code pc (.ldc i) 2 pc') (wl : (Jvm.Cond.stringLink own i text).before a0 Z = true) (wS : ∀ a ∈ Bundle.stringAtoms, a.before a0 Z = true) (hEL : EW Z a0 EL) (hmem : (own, i) ∈ EL) (ht : (∀ c ∈ text.toList, c.toNat < 256) ∧ text.toList.map (fun c => Value.int (Jvm.Lit.byteI c.toNat.toUInt16)) = vs) (hz : ¬ z < 0) (hlz : z.toNatClampNeg = vs.length) (hn4 : 4 * text.toList.length ≤ nn) (hbig : nn ≤ 536870912) (hr : k + 2 ≤ R.cells ∧ n + (nn + 4) ≤ R.slots) (K : ∀ (a b : Addr) kb T' h', W x true l Z EL R own code mx ret nm T' h' (k + 2) (n + (nn + 4)) sf → Ext h h' → Exa Z h' a "java/lang/String" → Fld Z h' a "java/lang/String" "coder" "B" (.int 0) → Fld Z h' a "java/lang/String" "value" "[B" (.ref b) → Arv Z h' b kb .byte z vs (.int 0) → (∀ y ∈ sf, y ≠ a ∧ y ≠ b) → Go x true Z EL R Q T' pc' ls (.ref a :: st)) : Go x true Z EL R Q T pc ls st := by
  obtain ⟨hd, rfl⟩ := hd
  obtain ⟨hx, hb, hm, hret, hnm, hl, e0, E, c1, c2, hs, -, L, vm0, N, g, X, S, hZ, ho, hC⟩ := w
  obtain ⟨a, T', h', k1, b, kb, X', e', E', S', hk1, Z', o', q1, q2, q3, q4, -, -, hCr, -, hne, stp⟩ := ldcCH X hx hZ ho wl wS e0 S (Nat.le_refl _) hEL hmem (hC rfl).1.1 ht hz hlz (g := mkF x.m pc ls st) rfl (Jvm.hb hb hd) hn4 hbig hr.1 hr.2
  have hsf : ∀ y ∈ sf, Safe Z EL T'.vm h' y := fun y hy => hCr.safe (hs y hy).2 ((hC rfl).2 y hy)
  obtain ⟨s₂, o, a1, r⟩ := K a b kb T' h' ⟨hx, hb, hm, hret, hnm, hl, e', ext_trans E E', hr.1, hr.2, fun y hy => ⟨(hs y hy).1, Nat.lt_of_lt_of_le (hs y hy).2 E'.1⟩, ⟨a0, hEL⟩, L, _, N, (fun q => by cases q), X', since_mono S' hk1, Z', o', fun _ => ⟨(hC rfl).1.trans hCr, hsf⟩⟩ E' q1 q2 q3 q4 (fun y hy => hne y (hsf y hy))
  exact ⟨s₂, o, stp _ a1, r⟩
end Laws
theorem eqv_int {args : Array Value} {first s : State} {o : Option Outcome} {idx : List Nat} {a b : Term} {z : Int32} (h : (Jvm.Cond.eq a b).value args first o s idx = some true) (hb : b.eval args first o idx s = some (.int z)) : a.eval args first o idx s = some (.int z) := by
  cases ha : a.eval args first o idx s with
  | none => simp [Jvm.Cond.value, ha, hb] at h
  | some v => cases v <;> simp [Jvm.Cond.value, ha, hb] at h ⊢; exact h
theorem eqv_ref {args : Array Value} {first s : State} {o : Option Outcome} {idx : List Nat} {a b : Term} {z : Addr} (h : (Jvm.Cond.eq a b).value args first o s idx = some true) (hb : b.eval args first o idx s = some (.ref z)) : a.eval args first o idx s = some (.ref z) := by
  cases ha : a.eval args first o idx s with
  | none => simp [Jvm.Cond.value, ha, hb] at h
  | some v => cases v <;> simp [Jvm.Cond.value, ha, hb] at h ⊢; exact h
theorem sta_exa {Z : State} {args : Array Value} {C f d K : String} (hx : (Jvm.Cond.exactly (.static C f d) K).value args Z none Z [] = some true) (hi : (Jvm.Cond.initialized C).before args Z = true) (hl : (Jvm.Cond.laysStatic C f d).before args Z = true) :
    ∃ a, (Term.static C f d).eval args Z none [] Z = some (.ref a) ∧ Sta Z Z.heap C f d (.ref a) ∧ Exa Z Z.heap a K := by
  obtain ⟨a, ev⟩ := exa_v hx
  exact ⟨a, ev, Sta.start ev (Or.inr ⟨hi, hl⟩), Exa.start ev hx⟩
theorem fld_int {Z : State} {args : Array Value} {t : Term} {C f d : String} {z : Int32} {a : Addr} (h : (Jvm.Cond.eq (.field t C f d) (.int z)).value args Z none Z [] = some true) (ht : t.eval args Z none [] Z = some (.ref a)) : Fld Z Z.heap a C f d (.int z) :=
  Fld.start (by rw [← fld_at ht]; exact eqv_int h (Term.int_eval z))
theorem fld_ref {Z : State} {args : Array Value} {t u : Term} {C f d : String} {a b : Addr} (h : (Jvm.Cond.eq (.field t C f d) u).value args Z none Z [] = some true) (ht : t.eval args Z none [] Z = some (.ref a)) (hu : u.eval args Z none [] Z = some (.ref b)) : Fld Z Z.heap a C f d (.ref b) :=
  Fld.start (by rw [← fld_at ht]; exact eqv_ref h hu)
theorem ord_ne {Z : State} {h : Heap} {a b : Addr} {C f d : String} {u v : Int32} (F : Fld Z h a C f d (.int u)) (G : Fld Z h b C f d (.int v)) (q : u ≠ v) : a ≠ b := Fld.ne F G fun e => q (Value.int.inj e)
/-- a String at a, its bytes in the array at t, its coder k -/
def StrL (Z : State) (h : Heap) (a t : Addr) (k : Int32) (bs : List Int32) : Prop :=
  Exa Z h a "java/lang/String" ∧ Fld Z h a "java/lang/String" "value" "[B" (.ref t) ∧ Fld Z h a "java/lang/String" "coder" "B" (.int k) ∧ ∃ kb, Arv Z h t kb .byte (Int32.ofNat bs.length) (bs.map .int) (.int 0) ∧ bs.length < 2 ^ 31
section StrFacts
variable {Z : State} {h h' : Heap} {a t : Addr} {k : Int32} {bs : List Int32}
theorem StrL.ext (F : StrL Z h a t k bs) (E : Ext h h') : StrL Z h' a t k bs := ⟨F.1.ext E, F.2.1.ext E, F.2.2.1.ext E, by obtain ⟨kb, A, q⟩ := F.2.2.2; exact ⟨kb, A.ext E, q⟩⟩
theorem StrL.keep {ws : List Addr} (F : StrL Z h a t k bs) (K : Keep h h' ws) (q1 : a ∉ ws) (q2 : t ∉ ws) : StrL Z h' a t k bs := ⟨F.1.keep K, F.2.1.keep K q1, F.2.2.1.keep K q1, by obtain ⟨kb, A, q⟩ := F.2.2.2; exact ⟨kb, A.keep K q2, q⟩⟩
theorem StrL.wr {x : Addr} {sl : Nat} {v : Value} (F : StrL Z h a t k bs) (W : Wr h h' x sl v) (q1 : a ≠ x) (q2 : t ≠ x) : StrL Z h' a t k bs := F.keep (Keep.of_wr W) (ninS q1 nin0) (ninS q2 nin0)
theorem StrL.lt (F : StrL Z h a t k bs) : a < h.size := F.1.lt
theorem StrL.lt' (F : StrL Z h a t k bs) : t < h.size := by obtain ⟨kb, A, -⟩ := F.2.2.2; exact A.lt
theorem ofN_toInt {n : Nat} (h : n < 2 ^ 31) : (Int32.ofNat n).toInt = (n : Int) := Int32.toInt_ofNat_small h
theorem ofN_clamp {n : Nat} (h : n < 2 ^ 31) : (Int32.ofNat n).toNatClampNeg = n := by simp only [Int32.toNatClampNeg, ofN_toInt h]; rfl
theorem ofN_nn {n : Nat} (h : n < 2 ^ 31) : ¬ Int32.ofNat n < 0 := by rw [Int32.lt_iff_toInt_lt, ofN_toInt h]; exact Int.not_lt.mpr (Int.natCast_nonneg n)
theorem ofN_lt {i n : Nat} (hi : i < 2 ^ 31) (hn : n < 2 ^ 31) : Int32.ofNat i < Int32.ofNat n ↔ i < n := by rw [Int32.lt_iff_toInt_lt, ofN_toInt hi, ofN_toInt hn]; omega
theorem ofN_inj {i n : Nat} (hi : i < 2 ^ 31) (hn : n < 2 ^ 31) : Int32.ofNat i = Int32.ofNat n ↔ i = n := by rw [← Int32.toInt_inj, ofN_toInt hi, ofN_toInt hn]; omega
theorem ofN_succ {i : Nat} (hi : i + 1 < 2 ^ 31) : Int32.ofNat i + 1 = Int32.ofNat (i + 1) := by
  rw [← Int32.toInt_inj, ofN_toInt hi]
  have q := c_iadd (Int32.ofNat i) 1
  have r := rng32 (Int32.ofNat i + 1)
  rw [ofN_toInt (by omega), show (1 : Int32).toInt = 1 from rfl] at q
  omega
theorem mapGet (bs : List Int32) (i : Nat) : (bs.map Value.int).getD i (.int 0) = .int (bs.getD i 0) := by
  simp only [List.getD_eq_getElem?_getD, List.getElem?_map]; cases bs[i]? <;> rfl
theorem list_eq {bs cs : List Int32} (h : bs.length = cs.length) (q : ∀ j, j < bs.length → bs.getD j 0 = cs.getD j 0) : bs = cs := by
  refine List.ext_getElem h fun i h1 h2 => ?_
  have := q i h1
  simpa [List.getD_eq_getElem?_getD, List.getElem?_eq_getElem h1, List.getElem?_eq_getElem h2] using this
theorem StrL.same {t' : Addr} {k' : Int32} {cs : List Int32} (F : StrL Z h a t k bs) (G : StrL Z h a t' k' cs) : bs = cs := by
  obtain ⟨-, F1, -, kb, A, hb⟩ := F
  obtain ⟨-, G1, -, kc, B, hc⟩ := G
  have e : t = t' := by
    by_cases q : t = t'
    · exact q
    · exact absurd rfl (Fld.ne F1 G1 fun z => q (Value.ref.inj z))
  subst e
  obtain ⟨c1, a1, -, s1, -, h1, -⟩ := A
  obtain ⟨c2, b1, -, s2, -, h2, -⟩ := B
  cases a1.1.symm.trans b1.1
  rw [ofN_clamp hb] at s1
  rw [ofN_clamp hc] at s2
  refine list_eq (s1.symm.trans s2) fun j hj => ?_
  have e1 := h1 j (by rw [s1]; exact hj)
  have e2 := h2 j (by rw [s1]; exact hj)
  rw [mapGet] at e1 e2
  exact Value.int.inj (Option.some.inj (e1.symm.trans e2))
end StrFacts
theorem b255' {c : Int32} (c0 : 0 ≤ c.toInt) (c1 : ¬ 255 < c) : nar .byte c &&& (255 : Int32) = c := by
  rw [Int32.lt_iff_toInt_lt, show (255 : Int32).toInt = 255 from rfl] at c1
  have e1 := c_i2b c
  have e2 := c_mask (nar .byte c) 255 8 (by decide) (by decide)
  apply Int32.toInt_inj.mp
  rw [e2]
  simp only [nar]
  omega
theorem nchar {c : Int32} (c0 : 0 ≤ c.toInt) (c1 : ¬ 255 < c) : nar .char c = c := by
  rw [Int32.lt_iff_toInt_lt, show (255 : Int32).toInt = 255 from rfl] at c1
  have e1 := c_i2c c
  apply Int32.toInt_inj.mp
  simp only [nar]
  omega
theorem b255 {c : Int32} (c0 : 0 ≤ c.toInt) (c1 : ¬ 255 < c) : nar .char (nar .byte c &&& (255 : Int32)) = c := by rw [b255' c0 c1]; exact nchar c0 c1
theorem nb_inj {c d : Int32} (c0 : 0 ≤ c.toInt) (c1 : ¬ 255 < c) (d0 : 0 ≤ d.toInt) (d1 : ¬ 255 < d) (h : nar .byte c = nar .byte d) : c = d := by
  rw [Int32.lt_iff_toInt_lt, show (255 : Int32).toInt = 255 from rfl] at c1 d1
  have h2 : (nar .byte c).toInt = (nar .byte d).toInt := by rw [h]
  have e1 := c_i2b c
  have e2 := c_i2b d
  simp only [nar] at h2
  apply Int32.toInt_inj.mp
  omega
theorem nbb (c : Int32) : nar .byte (nar .byte c) = nar .byte c := by simp [nar]
theorem ncc (c : Int32) : nar .char (nar .char c) = nar .char c := by
  have := XT.narrow_c c
  simp only [narrow, Value.int.injEq] at this
  exact this
theorem nar_and (c : Int32) : nar .char (c &&& 255) = c &&& 255 := i2c_mask c
theorem le255 (c : Int32) : ¬ 255 < c &&& 255 := by
  rw [Int32.lt_iff_toInt_lt]; exact Int.not_lt.mpr (c_and c 255 (by decide)).2
theorem le255n (c : Int32) : ¬ 255 < nar .char (c &&& 255) := by rw [nar_and]; exact le255 c
theorem fnb (c : Int32) : fits .byte (.int (nar .byte c)) = true := fits_nar_byte c
theorem fnc (c : Int32) : fits .char (.int (nar .char c)) = true := fits_nar_char c
theorem cmpL_lt (x y : Int64) : XT.cmpL x y < 0 ↔ x < y := by
  unfold XT.cmpL; split <;> (try split) <;> simp_all [Int64.lt_iff_toInt_lt, ← Int64.toInt_inj] <;> omega
theorem cmpL_gt (x y : Int64) : 0 < XT.cmpL x y ↔ y < x := by
  unfold XT.cmpL; split <;> (try split) <;> simp_all [Int64.lt_iff_toInt_lt, ← Int64.toInt_inj] <;> omega
theorem ns_root {Z : State} {a0 : Array Value} {O K : String} {n : Nat} (w : (Jvm.Cond.noSuperclass O).before a0 Z = true) (wk : (Jvm.Cond.instantiable K n).before a0 Z = true) (hn : O ≠ K) : NS Z O K := by
  obtain ⟨c, k, h1, h2, h3, -, -⟩ := Cond.noSuperclass_spec w
  obtain ⟨t, kt, g1, -⟩ := Cond.instantiable_spec wk
  have ne := ids_ne h1 g1 hn
  refine ⟨c, t, h1, g1, fun fuel => ?_⟩
  cases fuel with
  | zero => rfl
  | succ f => simp [Vm.isSubclassAux, ne, h2, h3]
theorem ns_no {Z : State} {a0 : Array Value} {C S K : String} {n : Nat} (w : (Jvm.Cond.superclass C S).before a0 Z = true) (wk : (Jvm.Cond.instantiable K n).before a0 Z = true) (m : NS Z C K) (hn : C ≠ K) : ∃ c t, Z.vm.findClass C = some c ∧ Z.vm.findClass K = some t ∧ Z.vm.assignable c t = false := by
  obtain ⟨c, t, h0, g0, n3⟩ := m
  obtain ⟨p, k, kp, h1, h2, h3, h4, h5, -, h7⟩ := Cond.superclass_spec h0 w
  obtain ⟨t', kt, g1, g2, g5, g7, -⟩ := Cond.instantiable_spec wk
  cases g0.symm.trans g1
  have ne := ids_ne h0 g0 hn
  have g8 : kt.isInterface = false := (Bool.or_eq_false_iff.mp g7).1
  refine ⟨c, t, h0, g0, ?_⟩
  show Z.vm.assignableAux (255 + 1) c t = false
  simp [Vm.assignableAux, ne, h2, g2, h5, g5, g8, Vm.isSubclass, n3]
/-- an array of boxes that stood at the start: each of its class -/
def Bx (Z : State) (a : Addr) (cl : Cell) (K : String) (z : Int32) : Prop :=
  Arr Z Z.heap a cl (.object K) ∧ cl.slots.size = z.toNatClampNeg ∧ ¬ z < 0 ∧ ∀ j : Int32, ¬ (j < 0 ∨ cl.slots.size ≤ j.toNatClampNeg) → ∃ b : Addr, cl.slots[j.toNatClampNeg]? = some (.ref b) ∧ Exa Z Z.heap b K
theorem Bx.start {Z : State} {a0 : Array Value} {t : Term} {c : Jvm.Cond} {a : Addr} {K : String} {z : Int32} (et : ∀ idx, t.eval a0 Z none idx Z = some (.ref a)) (ha : (Jvm.Cond.arrayOf t (.object K)).value a0 Z none Z [] = some true) (hl : (Jvm.Cond.eq (.length t) (.int z)).value a0 Z none Z [] = some true) (hz : ¬ z < 0)
    (h : (Jvm.Cond.all t (.and (.exactly (.elem t (.index 0)) K) c)).value a0 Z none Z [] = some true) : ∃ cl, Bx Z a cl K z := by
  obtain ⟨cl, A⟩ := Arr.start (et []) ha
  have e1 := eqv_int hl (Term.int_eval z)
  obtain ⟨a', cl', e2, e3, e4⟩ := Term.length_spec e1
  cases (et []).symm.trans e2
  cases (State.arrayAt?_spec e3).1.symm.trans A.1
  have q : cl.slots.size < 2 ^ 31 := by
    simp only [Term.eval, et [], e3, Option.bind_eq_bind, Option.bind_some] at e1
    by_cases q : cl.slots.size < 2 ^ 31
    · exact q
    · simp [q] at e1
  have e := (Value.int.inj e4).symm
  refine ⟨cl, A, by rw [← e]; simp only [Int32.toNatClampNeg, len_toInt q]; rfl, hz, fun j hj => ?_⟩
  have nn : ¬ j < 0 := fun x => hj (Or.inl x)
  obtain ⟨u1, -⟩ := and_e (Cond.all_elim (et []) (A.fin (Vm.Alike.refl _)) h j.toNatClampNeg (Nat.lt_of_not_le fun x => hj (Or.inr x)))
  obtain ⟨box, eb⟩ := exa_v u1
  exact ⟨box, (elem_f (et _) (idx_at nn) (A.fin (Vm.Alike.refl _)) nn).symm.trans eb, exa_at eb u1⟩
theorem natOf {i : Int32} {n : Nat} (h0 : 0 ≤ i.toInt) (h1 : i.toInt < (n : Int)) : ∃ j : Nat, j < n ∧ i = Int32.ofInt (j : Int) := ⟨i.toInt.toNat, by omega, by rw [Int.toNat_of_nonneg h0]; exact (Int32.ofInt_toInt i).symm⟩
theorem own_in {i z : Int32} {D : Int} (h0 : 0 ≤ i.toInt) (h1 : i.toInt < D) (hz : z.toInt = D) : ¬ i < 0 ∧ i < z := ⟨by rw [Int32.lt_iff_toInt_lt]; exact Int.not_lt.mpr h0, by rw [Int32.lt_iff_toInt_lt, hz]; exact h1⟩
theorem modR (k d : Int32) (D : Int) (hd : d.toInt = D) (hD : 0 < D) : 0 ≤ ((k &&& 2147483647) % d).toInt ∧ ((k &&& 2147483647) % d).toInt < D := by
  have h := (c_and k 2147483647 (by decide)).1
  rw [(c_irem _ d D hd).1 h]; exact ⟨Int.emod_nonneg _ (by omega), Int.emod_lt_of_pos _ hD⟩
theorem and1 (k : Int32) : k &&& 1 = 0 ∨ k &&& 1 = 1 := by
  obtain ⟨j, h, e⟩ := natOf (n := 2) (c_and k 1 (by decide)).1 (Int.lt_of_le_of_lt (c_and k 1 (by decide)).2 (by decide))
  rw [e]
  have h2 : j = 0 ∨ j = 1 := by omega
  rcases h2 with rfl | rfl
  · exact Or.inl rfl
  · exact Or.inr rfl
theorem and3 (k : Int32) : k &&& 3 = 0 ∨ k &&& 3 = 1 ∨ k &&& 3 = 2 ∨ k &&& 3 = 3 := by
  obtain ⟨j, h, e⟩ := natOf (n := 4) (c_and k 3 (by decide)).1 (Int.lt_of_le_of_lt (c_and k 3 (by decide)).2 (by decide))
  rw [e]
  have h2 : j = 0 ∨ j = 1 ∨ j = 2 ∨ j = 3 := by omega
  rcases h2 with rfl | rfl | rfl | rfl
  · exact Or.inl rfl
  · exact Or.inr (Or.inl rfl)
  · exact Or.inr (Or.inr (Or.inl rfl))
  · exact Or.inr (Or.inr (Or.inr rfl))
theorem maskNeg (k : Int32) : ¬ (k &&& 2147483647) < 0 := by
  rw [Int32.lt_iff_toInt_lt]; exact Int.not_lt.mpr (c_and k 2147483647 (by decide)).1
/-- an array that stood at the start, by the case's words -/
theorem arv_start {Z : State} {a0 : Array Value} {t : Term} {a : Addr} {ty : FieldType} {z : Int32} {vs : List Value} {dv : Value} (hF : Fit Z) (ha : (Jvm.Cond.arrayOf t ty).value a0 Z none Z [] = some true) (ht : t.eval a0 Z none [] Z = some (.ref a)) (hl : (Jvm.Cond.eq (.length t) (.int z)).value a0 Z none Z [] = some true)
    (hz : ¬ z < 0) (hn : z.toNatClampNeg = vs.length) (H : ∀ cl : Cell, Z.heap[a]? = some cl → HasL cl 0 vs) : ∃ kc, Arv Z Z.heap a kc ty z vs dv := by
  obtain ⟨cl, A⟩ := Arr.start ht ha
  have e1 := eqv_int hl (Term.int_eval z)
  obtain ⟨a', cl', e2, e3, e4⟩ := Term.length_spec e1
  cases ht.symm.trans e2
  cases (State.arrayAt?_spec e3).1.symm.trans A.1
  have hb : cl.slots.size < 2 ^ 31 := by
    simp only [Term.eval, ht, e3, Option.bind_eq_bind, Option.bind_some] at e1
    by_cases q : cl.slots.size < 2 ^ 31
    · exact q
    · simp [q] at e1
  exact ⟨cl.cls, Arv.start hF A hb (Value.int.inj e4).symm hz hn (H cl A.1)⟩
theorem elem_slot {Z : State} {a0 : Array Value} {t u : Term} {a b : Addr} {j : Int32} {n : Nat} {cl : Cell} (h : (Jvm.Cond.eq (.elem t (.int j)) u).value a0 Z none Z [] = some true) (ht : t.eval a0 Z none [] Z = some (.ref a)) (hu : u.eval a0 Z none [] Z = some (.ref b)) (hn : j.toNatClampNeg = n) (hc : Z.heap[a]? = some cl) : cl.slots[n]? = some (.ref b) := by
  subst hn
  exact (elem_in (eqv_ref h hu) ht (Term.int_eval j) hc).2
theorem elem_slotI {Z : State} {a0 : Array Value} {t : Term} {a : Addr} {j b : Int32} {n : Nat} {cl : Cell} (h : (Jvm.Cond.eq (.elem t (.int j)) (.int b)).value a0 Z none Z [] = some true) (ht : t.eval a0 Z none [] Z = some (.ref a)) (hn : j.toNatClampNeg = n) (hc : Z.heap[a]? = some cl) : cl.slots[n]? = some (.int b) := by
  subst hn
  exact (elem_in (eqv_int h (Term.int_eval b)) ht (Term.int_eval j) hc).2
theorem len_start {Z : State} {a0 : Array Value} {t : Term} {a : Addr} {cl : Cell} {ty : FieldType} {z : Int32} (A : Arr Z Z.heap a cl ty) (ht : t.eval a0 Z none [] Z = some (.ref a)) (hl : (Jvm.Cond.eq (.length t) (.int z)).value a0 Z none Z [] = some true) : cl.slots.size = z.toNatClampNeg := by
  have e1 := eqv_int hl (Term.int_eval z)
  obtain ⟨a', cl', e2, e3, e4⟩ := Term.length_spec e1
  cases ht.symm.trans e2
  cases (State.arrayAt?_spec e3).1.symm.trans A.1
  have q : cl.slots.size < 2 ^ 31 := by
    simp only [Term.eval, ht, e3, Option.bind_eq_bind, Option.bind_some] at e1
    by_cases q : cl.slots.size < 2 ^ 31
    · exact q
    · simp [q] at e1
  have e := (Value.int.inj e4).symm
  rw [← e]; simp only [Int32.toNatClampNeg, len_toInt q]; rfl
theorem hasL_rep {cl : Cell} {v : Value} : ∀ (n i : Nat), (∀ j, i ≤ j → j < i + n → cl.slots[j]? = some v) → HasL cl i (List.replicate n v)
  | 0, _, _ => trivial
  | n + 1, i, h => ⟨h i (Nat.le_refl _) (by omega), hasL_rep n (i + 1) fun j h1 h2 => h j (by omega) (by omega)⟩
/-- a String that stood at the start, by the case's words -/
theorem str_start {Z : State} {a0 : Array Value} {t : Term} {a : Addr} {z : Int32} {bs : List Int32} (hF : Fit Z) (ht : t.eval a0 Z none [] Z = some (.ref a)) (hx : (Jvm.Cond.exactly t "java/lang/String").value a0 Z none Z [] = some true) (hc : (Jvm.Cond.eq (.field t "java/lang/String" "coder" "B") (.int 0)).value a0 Z none Z [] = some true) (ha : (Jvm.Cond.arrayOf (.field t "java/lang/String" "value" "[B") .byte).value a0 Z none Z [] = some true) (hl : (Jvm.Cond.eq (.length (.field t "java/lang/String" "value" "[B")) (.int z)).value a0 Z none Z [] = some true) (hz : ¬ z < 0) (hn : z = Int32.ofNat bs.length) (hb : bs.length < 2 ^ 31)
    (H : ∀ (b : Addr) (cl : Cell), (Term.field t "java/lang/String" "value" "[B").eval a0 Z none [] Z = some (.ref b) → Arr Z Z.heap b cl .byte → cl.slots.size = bs.length → HasL cl 0 (bs.map .int)) : ∃ b, StrL Z Z.heap a b 0 bs := by
  obtain ⟨b, eb⟩ := arr_v ha
  obtain ⟨cl0, A0⟩ := Arr.start eb ha
  have hs := len_start A0 eb hl
  subst hn
  obtain ⟨kc, A⟩ := arv_start (vs := bs.map .int) (dv := .int 0) hF ha eb hl hz (by rw [ofN_clamp hb, List.length_map]) (fun cl hcl => by cases A0.1.symm.trans hcl; exact H b _ eb A0 (by rw [hs, ofN_clamp hb]))
  exact ⟨b, Exa.start ht hx, Fld.start (by rw [← fld_at ht]; exact eb), fld_int hc ht, kc, A, hb⟩
theorem str_all {Z : State} {a0 : Array Value} {F : Term} {b : Addr} {cl : Cell} {n : Nat} {v : Int32} (eF : ∀ idx, F.eval a0 Z none idx Z = some (.ref b)) (A : Arr Z Z.heap b cl .byte) (hs : cl.slots.size = n) (hn : n < 2 ^ 31) (hall : (Jvm.Cond.all F (.eq (.elem F (.index 0)) (.int v))).value a0 Z none Z [] = some true) : HasL cl 0 (List.replicate n (.int v)) :=
  hasL_rep n 0 fun j _ hj => by
    have h31 : j < 2 ^ 31 := by omega
    have u := Cond.all_elim (eF []) (A.fin (Vm.Alike.refl _)) hall j (by omega)
    have ix := idx_at (s := Z) (args := a0) (first := Z) (o := none) (j := Int32.ofNat j) (ofN_nn h31)
    rw [ofN_clamp h31] at ix
    have e := elem_f (eF [j]) ix (A.fin (Vm.Alike.refl _)) (ofN_nn h31)
    rw [ofN_clamp h31] at e
    exact e.symm.trans (eqv_int u (Term.int_eval v))
theorem safe_empty {Z : State} {a0 : Array Value} {vm : Vm} {h : Heap} {d : Addr} {kd : ClassId} {z : Int32} {vs : List Value} {dv : Value} {own : String} {ix : Nat} (wl : (Jvm.Cond.stringLink own ix "").before a0 Z = true) (hZ : Z.Warmed39 vm) (A : Arv Z h d kd .byte z vs dv) (hz : 0 < z.toNatClampNeg) : Safe Z [(own, ix)] vm h d := fun B => by
  obtain ⟨cl, Ar, -, S, -, -, -⟩ := A
  obtain ⟨A1, ⟨-, kA, hkA, compA, hkindA⟩, -⟩ := Ar
  obtain ⟨kA', hkA', ekA⟩ := hZ.alike.2.2 _ _ hkA
  obtain ⟨p, hp, u, a, hb, q, -, F, rfl | rfl⟩ := B
  · cases (show h[q.sa]? = some q.sC from F.ha).symm.trans A1
    obtain ⟨cS, ⟨-, -, e⟩, ⟨kS, g1, g2, -⟩, -⟩ := F
    subst e
    cases (show vm.classes[q.sC.cls]? = some kS from g1).symm.trans hkA'
    rw [ekA] at g2
    have := hkindA.symm.trans g2
    cases this
  · cases List.mem_singleton.mp hp
    cases (show h[q.sd]? = some q.SA from F.hd).symm.trans A1
    obtain ⟨c, k, cf, i, b1, b2, b3, b4, b5, -⟩ := hb
    obtain ⟨k', cf', i', un, g1, g2, g3, g4, -, g6, -⟩ := Cond.stringLink_spec (s := Z.setVm vm) b1 (Cond.stringLink_warmed39 hZ wl)
    cases (show vm.classes[c]? = some k' from g1).symm.trans b2
    cases g2.symm.trans b3
    have e := g3.symm.trans b4
    cases e
    have e := g4.symm.trans b5
    cases e
    have t := text_bytes_le g6
    obtain ⟨cS, -, -, -, hs⟩ := F
    rw [← hs, S] at t
    exact absurd (Nat.lt_of_lt_of_le hz t) (by decide)
/-- a char out of its two bytes -/
theorem own_gc {c : Int32} (h0 : 0 ≤ c.toInt) (h1 : c.toInt < 65536) : nar .char (((nar .byte (c >>> ((0 : Int32) &&& 31)) &&& (255 : Int32)) <<< ((0 : Int32) &&& 31)) ||| ((nar .byte (c >>> ((8 : Int32) &&& 31)) &&& (255 : Int32)) <<< ((8 : Int32) &&& 31))) = c := by
  have a1 := c_ishr c 0 0 (by decide)
  have a2 := c_ishr c 8 8 (by decide)
  have b1 := c_i2b (c >>> ((0 : Int32) &&& 31))
  have b2 := c_i2b (c >>> ((8 : Int32) &&& 31))
  have m1 := c_mask (nar .byte (c >>> ((0 : Int32) &&& 31))) 255 8 (by decide) (by decide)
  have m2 := c_mask (nar .byte (c >>> ((8 : Int32) &&& 31))) 255 8 (by decide) (by decide)
  have s1 := c_ishl (nar .byte (c >>> ((0 : Int32) &&& 31)) &&& (255 : Int32)) 0 0 (by decide)
  have s2 := c_ishl (nar .byte (c >>> ((8 : Int32) &&& 31)) &&& (255 : Int32)) 8 8 (by decide)
  have r1 := rng32 ((nar .byte (c >>> ((0 : Int32) &&& 31)) &&& (255 : Int32)) <<< ((0 : Int32) &&& 31))
  have r2 := rng32 ((nar .byte (c >>> ((8 : Int32) &&& 31)) &&& (255 : Int32)) <<< ((8 : Int32) &&& 31))
  have o := c_or' ((nar .byte (c >>> ((0 : Int32) &&& 31)) &&& (255 : Int32)) <<< ((0 : Int32) &&& 31)) ((nar .byte (c >>> ((8 : Int32) &&& 31)) &&& (255 : Int32)) <<< ((8 : Int32) &&& 31)) 8 (by decide) 256 (by decide)
  have r3 := rng32 (((nar .byte (c >>> ((0 : Int32) &&& 31)) &&& (255 : Int32)) <<< ((0 : Int32) &&& 31)) ||| ((nar .byte (c >>> ((8 : Int32) &&& 31)) &&& (255 : Int32)) <<< ((8 : Int32) &&& 31)))
  have i := c_i2c (((nar .byte (c >>> ((0 : Int32) &&& 31)) &&& (255 : Int32)) <<< ((0 : Int32) &&& 31)) ||| ((nar .byte (c >>> ((8 : Int32) &&& 31)) &&& (255 : Int32)) <<< ((8 : Int32) &&& 31)))
  apply Int32.toInt_inj.mp
  simp only [nar] at m1 m2 s1 s2 r1 r2 r3 o i ⊢
  omega
/-- null, or a String -/
def Sn (Z : State) (h : Heap) (v : Value) : Prop := v = .null ∨ ∃ s, v = .ref s ∧ Exa Z h s "java/lang/String"
theorem Sn.ext {Z : State} {h h' : Heap} {v : Value} (F : Sn Z h v) (E : Ext h h') : Sn Z h' v := by
  rcases F with q | ⟨s, q, X⟩
  · exact Or.inl q
  · exact Or.inr ⟨s, q, X.ext E⟩
theorem Sn.isRef {Z : State} {h : Heap} {v : Value} (F : Sn Z h v) : v.isRef = true := by rcases F with rfl | ⟨s, rfl, -⟩ <;> rfl
/-- the conjuncts of a condition -/
def ands : Jvm.Cond → List Jvm.Cond
  | .and a b => a :: ands b
  | c => [c]
theorem ands_all {args : Array Value} {s : State} : ∀ (c : Jvm.Cond), c.value args s none s [] = some true → ∀ d ∈ ands c, d.value args s none s [] = some true := by
  intro c
  induction c with
  | and a b _ ih =>
    intro h d hd
    obtain ⟨h1, h2⟩ := and_e h
    rcases List.mem_cons.mp hd with rfl | hd
    · exact h1
    · exact ih h2 d hd
  | _ => intro h d hd; cases List.mem_singleton.mp hd; exact h
theorem nw {c : Jvm.Cond} {Z : State} {a0 : Array Value} (hn : c.value a0 Z none Z [] = some true) (i : Nat) {d : Jvm.Cond} (h : (ands c)[i]? = some d) : d.value a0 Z none Z [] = some true := ands_all c hn d (List.mem_of_getElem? h)
/-- the object that a static holds at the start -/
def sad (Z : State) (a0 : Array Value) (C f d : String) : Addr := match (Term.static C f d).eval a0 Z none [] Z with | some (.ref a) => a | _ => 0
theorem sad_eq {Z : State} {a0 : Array Value} {C f d : String} {a : Addr} (h : (Term.static C f d).eval a0 Z none [] Z = some (.ref a)) : sad Z a0 C f d = a := by simp only [sad, h]
theorem sad_exa {Z : State} {a0 : Array Value} {C f d K : String} (hx : (Jvm.Cond.exactly (.static C f d) K).value a0 Z none Z [] = some true) (hi : (Jvm.Cond.initialized C).before a0 Z = true) (hl : (Jvm.Cond.laysStatic C f d).before a0 Z = true) :
    (Term.static C f d).eval a0 Z none [] Z = some (.ref (sad Z a0 C f d)) ∧ Sta Z Z.heap C f d (.ref (sad Z a0 C f d)) ∧ Exa Z Z.heap (sad Z a0 C f d) K := by
  obtain ⟨a, ev, S, E⟩ := sta_exa hx hi hl
  rw [sad_eq ev]; exact ⟨ev, S, E⟩
theorem nb1 : nar .boolean 1 = 1 := rfl
theorem nb0 : nar .boolean 0 = 0 := rfl
theorem rne {a b : Addr} (q : a ≠ b) : ¬ (Value.ref a = Value.ref b) := fun e => q (Value.ref.inj e)
theorem narR {t : FieldType} {v : Value} (h : v.isRef = true) : narrow t v = v := by cases v <;> cases t <;> first | rfl | (simp [Value.isRef] at h)
theorem fitR {t : FieldType} {v : Value} (h : v.isRef = true) (ht : t.isReference = true) : fits t v = true := by cases t <;> simp [FieldType.isReference] at ht <;> cases v <;> first | rfl | (simp [Value.isRef] at h)
end Jvm.OwnW
namespace Jvm.Pilot.@@N@@
open Jvm Jvm.ClassFile Sem Op Lib Jvm.Free Jvm.Stand Jvm.LawKit Jvm.RoadKit Jvm.OwnW Bundle Jvm.Pilot.@@N@@.Jvm.D
theorem tw {Z : State} {a0 : Array Value} (hw : ∀ d ∈ tables_1, d.before a0 Z = true) (i : Nat) {d : Jvm.Cond} (h : tables_1[i]? = some d) : d.before a0 Z = true := hw _ (List.mem_of_getElem? h)
theorem fit_of {s : State} (hF : heapFits s = true) : Fit s := fun {y c} hc i hi => by
  obtain ⟨ha, rfl⟩ := Array.getElem?_eq_some_iff.mp hc
  have q := List.all_eq_true.mp ((Array.all_eq_true_iff_forall_mem.mp hF) _ (Array.getElem_mem ha)) i (List.mem_range.mpr hi)
  simpa [Array.getElem?_eq_getElem hi] using q
theorem pn_com_example_fintan_fintan_Utf8Order : plainName "com/example/fintan/fintan/Utf8Order" = true := by first | (simp [plainName, overriddenIn]; done) | decide +kernel
theorem pn_com_example_fintan_fintan_Utf8OrderComparePinLaw : plainName "com/example/fintan/fintan/Utf8OrderComparePinLaw" = true := by first | (simp [plainName, overriddenIn]; done) | decide +kernel
theorem pn_java_lang_Character : plainName "java/lang/Character" = true := by first | (simp [plainName, overriddenIn]; done) | decide +kernel
theorem pn_java_lang_Integer : plainName "java/lang/Integer" = true := by first | (simp [plainName, overriddenIn]; done) | decide +kernel
theorem pn_java_lang_String : plainName "java/lang/String" = true := by first | (simp [plainName, overriddenIn]; done) | decide +kernel
theorem pn_java_lang_StringUTF16 : plainName "java/lang/StringUTF16" = true := by first | (simp [plainName, overriddenIn]; done) | decide +kernel
theorem pn_jdk_internal_util_Preconditions : plainName "jdk/internal/util/Preconditions" = true := by first | (simp [plainName, overriddenIn]; done) | decide +kernel
theorem pd_0 : parseMethodDescriptor "([CIILjava/lang/Void;)V" = some ⟨[(.array .char), .int, .int, (.object "java/lang/Void")], none⟩ := by decide +kernel
theorem pd_1 : parseMethodDescriptor "([C)V" = some ⟨[(.array .char)], none⟩ := by decide +kernel
theorem pd_2 : parseMethodDescriptor "([CI[BII)I" = some ⟨[(.array .char), .int, (.array .byte), .int, .int], some .int⟩ := by decide +kernel
theorem pd_3 : parseMethodDescriptor "([CII)[B" = some ⟨[(.array .char), .int, .int], some (.array .byte)⟩ := by decide +kernel
theorem pd_4 : parseMethodDescriptor "([BI)B" = some ⟨[(.array .byte), .int], some .byte⟩ := by decide +kernel
theorem pd_5 : parseMethodDescriptor "(I)I" = some ⟨[.int], some .int⟩ := by decide +kernel
theorem pd_6 : parseMethodDescriptor "(I)[B" = some ⟨[.int], some (.array .byte)⟩ := by decide +kernel
theorem pd_7 : parseMethodDescriptor "([BII)V" = some ⟨[(.array .byte), .int, .int], none⟩ := by decide +kernel
theorem pd_8 : parseMethodDescriptor "([BI)C" = some ⟨[(.array .byte), .int], some .char⟩ := by decide +kernel
theorem pd_9 : parseMethodDescriptor "()B" = some ⟨[], some .byte⟩ := by decide +kernel
theorem pd_10 : parseMethodDescriptor "(IILjava/util/function/BiFunction;)I" = some ⟨[.int, .int, (.object "java/util/function/BiFunction")], some .int⟩ := by decide +kernel
theorem pd_11 : parseMethodDescriptor "(C)Z" = some ⟨[.char], some .boolean⟩ := by decide +kernel
theorem pd_12 : parseMethodDescriptor "([BIIZ)I" = some ⟨[(.array .byte), .int, .int, .boolean], some .int⟩ := by decide +kernel
theorem pd_13 : parseMethodDescriptor "()Z" = some ⟨[], some .boolean⟩ := by decide +kernel
theorem pd_14 : parseMethodDescriptor "(II)V" = some ⟨[.int, .int], none⟩ := by decide +kernel
theorem pd_15 : parseMethodDescriptor "([BII)I" = some ⟨[(.array .byte), .int, .int], some .int⟩ := by decide +kernel
theorem pd_16 : parseMethodDescriptor "(CC)I" = some ⟨[.char, .char], some .int⟩ := by decide +kernel
theorem pd_17 : parseMethodDescriptor "()I" = some ⟨[], some .int⟩ := by decide +kernel
theorem pd_18 : parseMethodDescriptor "(II)I" = some ⟨[.int, .int], some .int⟩ := by decide +kernel
theorem pd_19 : parseMethodDescriptor "([CI)Ljava/lang/String;" = some ⟨[(.array .char), .int], some (.object "java/lang/String")⟩ := by decide +kernel
theorem pd_20 : parseMethodDescriptor "(Ljava/lang/String;Ljava/lang/String;)I" = some ⟨[(.object "java/lang/String"), (.object "java/lang/String")], some .int⟩ := by decide +kernel
theorem pd_21 : parseMethodDescriptor "([CII)I" = some ⟨[(.array .char), .int, .int], some .int⟩ := by decide +kernel
theorem own_EW {Z : State} {a0 : Array Value} (hw : ∀ d ∈ tables_1, d.before a0 Z = true) : EW Z a0 consts_1 := (EW.cons (tw hw 26 rfl) (by decide) EW.nil)
theorem own_sA {Z : State} {a0 : Array Value} (hw : ∀ d ∈ tables_1, d.before a0 Z = true) : ∀ a ∈ Bundle.stringAtoms, a.before a0 Z = true := by
  intro a ha
  simp only [Bundle.stringAtoms, List.mem_cons, List.not_mem_nil, or_false] at ha
  rcases ha with rfl | rfl | rfl | rfl | rfl | rfl | rfl
  · exact (tw hw 15 rfl)
  · exact (tw hw 14 rfl)
  · exact (tw hw 27 rfl)
  · exact (tw hw 28 rfl)
  · exact (tw hw 29 rfl)
  · exact (tw hw 30 rfl)
  · exact (tw hw 31 rfl)
theorem own_held {tb : Tables} {e : Env} {a : Array Value} {s : State} (h : Calls_1 tb e a s) : ∀ p ∈ consts_1, Jvm.Lit.constHeld s p.1 p.2 := fun p hp => h.1 p hp
def own_V (x : Int32) : Prop := 0 ≤ x.toInt ∧ x.toInt < 1114112 ∧ (x.toInt < 55296 ∨ 57344 ≤ x.toInt)
def own_C (c : Int32) : Prop := 0 ≤ c.toInt ∧ c.toInt < 65536 ∧ nar .char c = c
def own_k (x : Int32) : Int32 := if x < 65536 then 1 else 2
def own_hi16 (x : Int32) : Int32 := nar .char ((55296 : Int32) + XT.ushr (x - (65536 : Int32)) (10 : Int32))
def own_lo16 (x : Int32) : Int32 := nar .char ((56320 : Int32) + ((x - (65536 : Int32)) &&& (1023 : Int32)))
theorem own_k1 {x : Int32} (h : x < 65536) : own_k x = 1 := if_pos h
theorem own_k2 {x : Int32} (h : ¬ x < 65536) : own_k x = 2 := if_neg h
theorem own_kc (x : Int32) : own_k x = 1 ∨ own_k x = 2 := by
  by_cases h : x < 65536
  · exact Or.inl (own_k1 h)
  · exact Or.inr (own_k2 h)
theorem own_c1 {x y : Int32} (q : ¬ x = y) : (if x < y then (-1 : Int32) else if x = y then 0 else 1) = if x < y then -1 else 1 := by rw [if_neg q]
theorem own_lt {x k : Int32} {K : Int} (hk : k.toInt = K) : x < k ↔ x.toInt < K := by rw [Int32.lt_iff_toInt_lt, hk]
theorem own_lt' {x k : Int32} {K : Int} (hk : k.toInt = K) : k < x ↔ K < x.toInt := by rw [Int32.lt_iff_toInt_lt, hk]
theorem own_cc (e : Int32) : own_C (nar .char e) := by
  have := c_i2c e
  exact ⟨this.2.1, this.2.2, ncc e⟩
theorem own_Ch (x : Int32) : own_C (own_hi16 x) := own_cc _
theorem own_Cl (x : Int32) : own_C (own_lo16 x) := own_cc _
theorem own_Cb {x : Int32} (V : own_V x) (h : x < 65536) : own_C x := by
  rw [own_lt (K := 65536) (by decide)] at h
  have i := c_i2c x
  refine ⟨V.1, h, Int32.toInt_inj.mp ?_⟩
  have := V.1
  simp only [nar]
  omega
theorem own_nh {x : Int32} (V : own_V x) : x < 55296 ∨ ¬ x < 56320 := by
  rw [own_lt (K := 55296) (by decide), own_lt (K := 56320) (by decide)]
  have := V.2.2
  omega
theorem own_255 {c : Int32} (h : ¬ c < 55296) : 255 < c := by
  rw [own_lt (K := 55296) (by decide)] at h
  rw [own_lt' (K := 255) (by decide)]
  omega
theorem own_d {x : Int32} (h : 65536 ≤ x.toInt) : (x - 65536).toInt = x.toInt - 65536 := by
  have a := c_isub x 65536
  have e0 : (65536 : Int32).toInt = 65536 := by decide
  have r := rng32 x
  have ra := rng32 (x - 65536)
  rw [e0] at a
  generalize (x - 65536).toInt = d at a ra ⊢
  generalize x.toInt = n at a r h ⊢
  omega
theorem own_u {y : Int32} (h0 : 0 ≤ y.toInt) : (XT.ushr y 10).toInt = y.toInt / 1024 := by
  have b := c_iushr y 10 10 (by decide) (by decide)
  have r := rng32 y
  have b' : (XT.ushr y 10).toInt = (y.toInt % 4294967296) / 1024 := b
  rw [b', Int.emod_eq_of_lt h0 (by omega)]
theorem own_add32 {y z : Int32} (h0 : -2147483648 ≤ y.toInt + z.toInt) (h1 : y.toInt + z.toInt < 2147483648) : (y + z).toInt = y.toInt + z.toInt := by
  have a := c_iadd y z
  have r := rng32 (y + z)
  generalize (y + z).toInt = d at a r ⊢
  generalize y.toInt + z.toInt = n at a h0 h1 ⊢
  omega
theorem own_nc {y : Int32} (h0 : 0 ≤ y.toInt) (h1 : y.toInt < 65536) : (nar .char y).toInt = y.toInt := by
  have i := c_i2c y
  simp only [nar]
  omega
theorem own_hl {x : Int32} (V : own_V x) (h : ¬ x < 65536) : (own_hi16 x).toInt = 55296 + (x.toInt - 65536) / 1024 ∧ (own_lo16 x).toInt = 56320 + (x.toInt - 65536) % 1024 := by
  rw [own_lt (K := 65536) (by decide)] at h
  have v1 := V.2.1
  have d := own_d (x := x) (by omega)
  have u := own_u (y := x - 65536) (by omega)
  have m := c_mask (x - 65536) 1023 10 (by decide) (by decide)
  have e1 : (55296 : Int32).toInt = 55296 := by decide
  have e2 : (56320 : Int32).toInt = 56320 := by decide
  have m' : ((x - 65536) &&& 1023).toInt = (x.toInt - 65536) % 1024 := by rw [m, d]; rfl
  rw [d] at u
  have s1 : ((55296 : Int32) + XT.ushr (x - 65536) 10).toInt = 55296 + (x.toInt - 65536) / 1024 := by
    rw [own_add32 (by rw [e1, u]; omega) (by rw [e1, u]; omega), e1, u]
  have s2 : ((56320 : Int32) + ((x - 65536) &&& 1023)).toInt = 56320 + (x.toInt - 65536) % 1024 := by
    rw [own_add32 (by rw [e2, m']; omega) (by rw [e2, m']; omega), e2, m']
  refine ⟨?_, ?_⟩
  · show (nar .char ((55296 : Int32) + XT.ushr (x - (65536 : Int32)) (10 : Int32))).toInt = _
    rw [own_nc (by rw [s1]; omega) (by rw [s1]; omega), s1]
  · show (nar .char ((56320 : Int32) + ((x - (65536 : Int32)) &&& (1023 : Int32)))).toInt = _
    rw [own_nc (by rw [s2]; omega) (by rw [s2]; omega), s2]
theorem own_shl {y : Int32} (h0 : 0 ≤ y.toInt) (h1 : y.toInt < 65536) : (y <<< ((10 : Int32) &&& 31)).toInt = y.toInt * 1024 := by
  have a := c_ishl y 10 10 (by decide)
  have r := rng32 (y <<< ((10 : Int32) &&& 31))
  have e : ((2 ^ 10 : Nat) : Int) = 1024 := by decide
  rw [e] at a
  generalize (y <<< ((10 : Int32) &&& 31)).toInt = d at a r ⊢
  generalize y.toInt = n at a h0 h1 ⊢
  omega
theorem own_S {x : Int32} (V : own_V x) (h : ¬ x < 65536) : ¬ own_hi16 x < 55296 ∧ own_hi16 x < 56320 ∧ ¬ own_lo16 x < 56320 ∧ own_lo16 x < 57344 := by
  have e := own_hl V h
  rw [own_lt (K := 65536) (by decide)] at h
  have v := V.2.1
  rw [own_lt (K := 55296) (by decide), own_lt (K := 56320) (by decide), own_lt (K := 56320) (by decide), own_lt (K := 57344) (by decide)]
  omega
theorem own_tcp {x : Int32} (V : own_V x) (h : ¬ x < 65536) : ((own_hi16 x <<< ((10 : Int32) &&& 31)) + own_lo16 x) + (-56613888 : Int32) = x := by
  obtain ⟨eh, el⟩ := own_hl V h
  rw [own_lt (K := 65536) (by decide)] at h
  have v := V.2.1
  have e0 : (-56613888 : Int32).toInt = -56613888 := by decide
  have a : (own_hi16 x <<< ((10 : Int32) &&& 31)).toInt = (55296 + (x.toInt - 65536) / 1024) * 1024 := by rw [own_shl (by rw [eh]; omega) (by rw [eh]; omega), eh]
  have b : ((own_hi16 x <<< ((10 : Int32) &&& 31)) + own_lo16 x).toInt = (55296 + (x.toInt - 65536) / 1024) * 1024 + (56320 + (x.toInt - 65536) % 1024) := by
    rw [own_add32 (by rw [a, el]; omega) (by rw [a, el]; omega), a, el]
  apply Int32.toInt_inj.mp
  rw [own_add32 (by rw [b, e0]; omega) (by rw [b, e0]; omega), b, e0]
  omega
theorem own_r (v : Int32) : 0 ≤ (XT.ushr v (2 : Int32)).toInt ∧ 0 ≤ (XT.ushr v (2 : Int32) % (1114112 : Int32)).toInt ∧ (XT.ushr v (2 : Int32) % (1114112 : Int32)).toInt < 1114112 := by
  have b := c_iushr v 2 2 (by decide) (by decide)
  have b' : (XT.ushr v 2).toInt = (v.toInt % 4294967296) / 4 := b
  have h0 : 0 ≤ (XT.ushr v 2).toInt := by rw [b']; omega
  have e := (c_irem (XT.ushr v 2) 1114112 1114112 (by decide)).1 h0
  exact ⟨h0, by rw [e]; exact Int.emod_nonneg _ (by decide), by rw [e]; exact Int.emod_lt_of_pos _ (by decide)⟩
theorem own_v0a (v : Int32) (q : XT.ushr v (2 : Int32) % (1114112 : Int32) < 55296) : own_V (XT.ushr v (2 : Int32) % (1114112 : Int32)) := by
  rw [own_lt (K := 55296) (by decide)] at q
  exact ⟨(own_r v).2.1, (own_r v).2.2, Or.inl q⟩
theorem own_v0b (v : Int32) (q : 57343 < XT.ushr v (2 : Int32) % (1114112 : Int32)) : own_V (XT.ushr v (2 : Int32) % (1114112 : Int32)) := by
  rw [own_lt' (K := 57343) (by decide)] at q
  exact ⟨(own_r v).2.1, (own_r v).2.2, Or.inr (by omega)⟩
theorem own_v0c (v : Int32) (q1 : ¬ XT.ushr v (2 : Int32) % (1114112 : Int32) < 55296) (q2 : ¬ 57343 < XT.ushr v (2 : Int32) % (1114112 : Int32)) : own_V (XT.ushr v (2 : Int32) % (1114112 : Int32) - (2048 : Int32)) := by
  rw [own_lt (K := 55296) (by decide)] at q1
  rw [own_lt' (K := 57343) (by decide)] at q2
  have e0 : (2048 : Int32).toInt = 2048 := by decide
  have a := c_isub (XT.ushr v 2 % 1114112) 2048
  have ra := rng32 (XT.ushr v 2 % 1114112 - 2048)
  rw [e0] at a
  unfold own_V
  generalize (XT.ushr v 2 % 1114112 - 2048).toInt = d at a ra ⊢
  generalize (XT.ushr v 2 % 1114112).toInt = n at a q1 q2 ⊢
  omega
theorem own_vm {k m y : Int32} {K M : Int} (hk : k.toInt = K) (hm : m.toInt = M) (h0 : 0 ≤ M) (h1 : 0 ≤ K) (h2 : K + M < 1114112) (h3 : K + M < 55296 ∨ 57344 ≤ K) : own_V (k + (y &&& m)) := by
  have b := c_and y m (by omega)
  rw [hm] at b
  have e : (k + (y &&& m)).toInt = K + (y &&& m).toInt := by rw [own_add32 (by rw [hk]; omega) (by rw [hk]; omega), hk]
  unfold own_V
  rw [e]
  omega
theorem own_v1 (v : Int32) : own_V ((57344 : Int32) + (XT.ushr v (2 : Int32) &&& (8191 : Int32))) := own_vm (K := 57344) (M := 8191) (by decide) (by decide) (by decide) (by decide) (by decide) (by decide)
theorem own_v2 (v : Int32) : own_V ((65536 : Int32) + (XT.ushr v (2 : Int32) &&& (1048575 : Int32))) := own_vm (K := 65536) (M := 1048575) (by decide) (by decide) (by decide) (by decide) (by decide) (by decide)
theorem own_v3 (v : Int32) : own_V (XT.ushr v (2 : Int32) &&& (127 : Int32)) := by
  have m := c_and (XT.ushr v 2) 127 (by decide)
  have e1 : (127 : Int32).toInt = 127 := by decide
  rw [e1] at m
  unfold own_V
  omega
theorem own_m3 (k : Int32) : (k &&& (3 : Int32)) % (3 : Int32) = 0 ∨ (k &&& (3 : Int32)) % (3 : Int32) = 1 ∨ (k &&& (3 : Int32)) % (3 : Int32) = 2 := by
  rcases and3 k with e | e | e | e <;> rw [e] <;> decide
def SC1 (Z : State) (h : Heap) (s t : Addr) (c0 : Int32) : Prop := ((StrL Z h s t 0 [nar .byte c0] ∧ (¬ 255 < c0 ∧ True)) ∨ StrL Z h s t 1 [nar .byte (c0 >>> ((0 : Int32) &&& 31)), nar .byte (c0 >>> ((8 : Int32) &&& 31))])
theorem SC1.ext {Z : State} {h h' : Heap} {s t : Addr} {c0 : Int32} (S : SC1 Z h s t c0) (E : Ext h h') : SC1 Z h' s t c0 := by
  rcases S with ⟨S, q⟩ | S
  · exact Or.inl ⟨S.ext E, q⟩
  · exact Or.inr (S.ext E)
theorem SC1.exa {Z : State} {h : Heap} {s t : Addr} {c0 : Int32} (S : SC1 Z h s t c0) : Exa Z h s "java/lang/String" := by
  rcases S with ⟨S, -⟩ | S <;> exact S.1
def SC2 (Z : State) (h : Heap) (s t : Addr) (c0 c1 : Int32) : Prop := ((StrL Z h s t 0 [nar .byte c0, nar .byte c1] ∧ (¬ 255 < c0 ∧ ¬ 255 < c1 ∧ True)) ∨ StrL Z h s t 1 [nar .byte (c0 >>> ((0 : Int32) &&& 31)), nar .byte (c0 >>> ((8 : Int32) &&& 31)), nar .byte (c1 >>> ((0 : Int32) &&& 31)), nar .byte (c1 >>> ((8 : Int32) &&& 31))])
theorem SC2.ext {Z : State} {h h' : Heap} {s t : Addr} {c0 c1 : Int32} (S : SC2 Z h s t c0 c1) (E : Ext h h') : SC2 Z h' s t c0 c1 := by
  rcases S with ⟨S, q⟩ | S
  · exact Or.inl ⟨S.ext E, q⟩
  · exact Or.inr (S.ext E)
theorem SC2.exa {Z : State} {h : Heap} {s t : Addr} {c0 c1 : Int32} (S : SC2 Z h s t c0 c1) : Exa Z h s "java/lang/String" := by
  rcases S with ⟨S, -⟩ | S <;> exact S.1
def SC3 (Z : State) (h : Heap) (s t : Addr) (c0 c1 c2 : Int32) : Prop := ((StrL Z h s t 0 [nar .byte c0, nar .byte c1, nar .byte c2] ∧ (¬ 255 < c0 ∧ ¬ 255 < c1 ∧ ¬ 255 < c2 ∧ True)) ∨ StrL Z h s t 1 [nar .byte (c0 >>> ((0 : Int32) &&& 31)), nar .byte (c0 >>> ((8 : Int32) &&& 31)), nar .byte (c1 >>> ((0 : Int32) &&& 31)), nar .byte (c1 >>> ((8 : Int32) &&& 31)), nar .byte (c2 >>> ((0 : Int32) &&& 31)), nar .byte (c2 >>> ((8 : Int32) &&& 31))])
theorem SC3.ext {Z : State} {h h' : Heap} {s t : Addr} {c0 c1 c2 : Int32} (S : SC3 Z h s t c0 c1 c2) (E : Ext h h') : SC3 Z h' s t c0 c1 c2 := by
  rcases S with ⟨S, q⟩ | S
  · exact Or.inl ⟨S.ext E, q⟩
  · exact Or.inr (S.ext E)
theorem SC3.exa {Z : State} {h : Heap} {s t : Addr} {c0 c1 c2 : Int32} (S : SC3 Z h s t c0 c1 c2) : Exa Z h s "java/lang/String" := by
  rcases S with ⟨S, -⟩ | S <;> exact S.1
def SC4 (Z : State) (h : Heap) (s t : Addr) (c0 c1 c2 c3 : Int32) : Prop := ((StrL Z h s t 0 [nar .byte c0, nar .byte c1, nar .byte c2, nar .byte c3] ∧ (¬ 255 < c0 ∧ ¬ 255 < c1 ∧ ¬ 255 < c2 ∧ ¬ 255 < c3 ∧ True)) ∨ StrL Z h s t 1 [nar .byte (c0 >>> ((0 : Int32) &&& 31)), nar .byte (c0 >>> ((8 : Int32) &&& 31)), nar .byte (c1 >>> ((0 : Int32) &&& 31)), nar .byte (c1 >>> ((8 : Int32) &&& 31)), nar .byte (c2 >>> ((0 : Int32) &&& 31)), nar .byte (c2 >>> ((8 : Int32) &&& 31)), nar .byte (c3 >>> ((0 : Int32) &&& 31)), nar .byte (c3 >>> ((8 : Int32) &&& 31))])
theorem SC4.ext {Z : State} {h h' : Heap} {s t : Addr} {c0 c1 c2 c3 : Int32} (S : SC4 Z h s t c0 c1 c2 c3) (E : Ext h h') : SC4 Z h' s t c0 c1 c2 c3 := by
  rcases S with ⟨S, q⟩ | S
  · exact Or.inl ⟨S.ext E, q⟩
  · exact Or.inr (S.ext E)
theorem SC4.exa {Z : State} {h : Heap} {s t : Addr} {c0 c1 c2 c3 : Int32} (S : SC4 Z h s t c0 c1 c2 c3) : Exa Z h s "java/lang/String" := by
  rcases S with ⟨S, -⟩ | S <;> exact S.1
section Pl
variable {Z : State} {h h' : Heap} {u s : Addr} {ku : ClassId} {i x y : Int32} {ws : List Addr}
def UP0 (Z : State) (h : Heap) (u : Addr) (ku : ClassId) (i : Int32) : Prop := i = 0 ∧ Arv Z h u ku .char (4 : Int32) [] (.int 0)
def UP1 (Z : State) (h : Heap) (u : Addr) (ku : ClassId) (i x : Int32) : Prop := (x < 65536 ∧ i = 1 ∧ Arv Z h u ku .char (4 : Int32) [(.int x)] (.int 0)) ∨ (¬ x < 65536 ∧ i = 2 ∧ Arv Z h u ku .char (4 : Int32) [(.int (own_hi16 x)), (.int (own_lo16 x))] (.int 0))
def UP2 (Z : State) (h : Heap) (u : Addr) (ku : ClassId) (i x y : Int32) : Prop := (x < 65536 ∧ y < 65536 ∧ i = 2 ∧ Arv Z h u ku .char (4 : Int32) [(.int x), (.int y)] (.int 0)) ∨ (x < 65536 ∧ ¬ y < 65536 ∧ i = 3 ∧ Arv Z h u ku .char (4 : Int32) [(.int x), (.int (own_hi16 y)), (.int (own_lo16 y))] (.int 0)) ∨ (¬ x < 65536 ∧ y < 65536 ∧ i = 3 ∧ Arv Z h u ku .char (4 : Int32) [(.int (own_hi16 x)), (.int (own_lo16 x)), (.int y)] (.int 0)) ∨ (¬ x < 65536 ∧ ¬ y < 65536 ∧ i = 4 ∧ Arv Z h u ku .char (4 : Int32) [(.int (own_hi16 x)), (.int (own_lo16 x)), (.int (own_hi16 y)), (.int (own_lo16 y))] (.int 0))
theorem UP0.keep (F : UP0 Z h u ku i) (K : Keep h h' ws) (q : u ∉ ws) : UP0 Z h' u ku i := ⟨F.1, F.2.keep K q⟩
theorem UP1.keep (F : UP1 Z h u ku i x) (K : Keep h h' ws) (q : u ∉ ws) : UP1 Z h' u ku i x := by
  rcases F with ⟨a, b, A⟩ | ⟨a, b, A⟩
  · exact Or.inl ⟨a, b, A.keep K q⟩
  · exact Or.inr ⟨a, b, A.keep K q⟩
theorem UP2.keep (F : UP2 Z h u ku i x y) (K : Keep h h' ws) (q : u ∉ ws) : UP2 Z h' u ku i x y := by
  rcases F with ⟨a, b, c, A⟩ | ⟨a, b, c, A⟩ | ⟨a, b, c, A⟩ | ⟨a, b, c, A⟩
  · exact Or.inl ⟨a, b, c, A.keep K q⟩
  · exact Or.inr (Or.inl ⟨a, b, c, A.keep K q⟩)
  · exact Or.inr (Or.inr (Or.inl ⟨a, b, c, A.keep K q⟩))
  · exact Or.inr (Or.inr (Or.inr ⟨a, b, c, A.keep K q⟩))
theorem UP0.ext (F : UP0 Z h u ku i) (E : Ext h h') : UP0 Z h' u ku i := F.keep (keep_ext (ws := []) E) nin0
theorem UP1.ext (F : UP1 Z h u ku i x) (E : Ext h h') : UP1 Z h' u ku i x := F.keep (keep_ext (ws := []) E) nin0
theorem UP2.ext (F : UP2 Z h u ku i x y) (E : Ext h h') : UP2 Z h' u ku i x y := F.keep (keep_ext (ws := []) E) nin0
def SP0 (Z : State) (h : Heap) (s : Addr) : Prop := ∃ t, StrL Z h s t 0 []
def SP1 (Z : State) (h : Heap) (s : Addr) (x : Int32) : Prop := (x < 65536 ∧ ∃ t, SC1 Z h s t x) ∨ (¬ x < 65536 ∧ ∃ t, SC2 Z h s t (own_hi16 x) (own_lo16 x))
def SP2 (Z : State) (h : Heap) (s : Addr) (x y : Int32) : Prop := (x < 65536 ∧ y < 65536 ∧ ∃ t, SC2 Z h s t x y) ∨ (x < 65536 ∧ ¬ y < 65536 ∧ ∃ t, SC3 Z h s t x (own_hi16 y) (own_lo16 y)) ∨ (¬ x < 65536 ∧ y < 65536 ∧ ∃ t, SC3 Z h s t (own_hi16 x) (own_lo16 x) y) ∨ (¬ x < 65536 ∧ ¬ y < 65536 ∧ ∃ t, SC4 Z h s t (own_hi16 x) (own_lo16 x) (own_hi16 y) (own_lo16 y))
theorem SP0.ext (F : SP0 Z h s) (E : Ext h h') : SP0 Z h' s := by obtain ⟨t, S⟩ := F; exact ⟨t, S.ext E⟩
theorem SP1.ext (F : SP1 Z h s x) (E : Ext h h') : SP1 Z h' s x := by
  rcases F with ⟨a, t, S⟩ | ⟨a, t, S⟩
  · exact Or.inl ⟨a, t, S.ext E⟩
  · exact Or.inr ⟨a, t, S.ext E⟩
theorem SP2.ext (F : SP2 Z h s x y) (E : Ext h h') : SP2 Z h' s x y := by
  rcases F with ⟨a, b, t, S⟩ | ⟨a, b, t, S⟩ | ⟨a, b, t, S⟩ | ⟨a, b, t, S⟩
  · exact Or.inl ⟨a, b, t, S.ext E⟩
  · exact Or.inr (Or.inl ⟨a, b, t, S.ext E⟩)
  · exact Or.inr (Or.inr (Or.inl ⟨a, b, t, S.ext E⟩))
  · exact Or.inr (Or.inr (Or.inr ⟨a, b, t, S.ext E⟩))
theorem SP0.exa (F : SP0 Z h s) : Exa Z h s "java/lang/String" := by obtain ⟨t, S⟩ := F; exact S.1
theorem SP1.exa (F : SP1 Z h s x) : Exa Z h s "java/lang/String" := by
  rcases F with ⟨a, t, S⟩ | ⟨a, t, S⟩ <;> exact S.exa
theorem SP2.exa (F : SP2 Z h s x y) : Exa Z h s "java/lang/String" := by
  rcases F with ⟨a, b, t, S⟩ | ⟨a, b, t, S⟩ | ⟨a, b, t, S⟩ | ⟨a, b, t, S⟩ <;> exact S.exa
end Pl
theorem efCp (m : MethodId) (x0 : Int32) : entryFrame m #[(.int x0)] 4 = mkF m 0 #[.val (.int x0), .unset, .unset, .unset] [] := by first | (simp [entryFrame, mkF, argsToLocals, Value.category]; done) | rfl
theorem efIc (m : MethodId) (x0 : Int32) (x1 : Int32) : entryFrame m #[(.int x0), (.int x1)] 2 = mkF m 0 #[.val (.int x0), .val (.int x1)] [] := by first | (simp [entryFrame, mkF, argsToLocals, Value.category]; done) | rfl
theorem efCnt (m : MethodId) (x0 : Int32) : entryFrame m #[(.int x0)] 1 = mkF m 0 #[.val (.int x0)] [] := by first | (simp [entryFrame, mkF, argsToLocals, Value.category]; done) | rfl
theorem ef_rmHi (m : MethodId) (x0 : Int32) : entryFrame m #[(.int x0)] 1 = mkF m 0 #[.val (.int x0)] [] := by first | (simp [entryFrame, mkF, argsToLocals, Value.category]; done) | rfl
theorem ef_rmLo (m : MethodId) (x0 : Int32) : entryFrame m #[(.int x0)] 1 = mkF m 0 #[.val (.int x0)] [] := by first | (simp [entryFrame, mkF, argsToLocals, Value.category]; done) | rfl
theorem efTc (m : MethodId) (x0 : Int32) (x1 : Int32) : entryFrame m #[(.int x0), (.int x1)] 2 = mkF m 0 #[.val (.int x0), .val (.int x1)] [] := by first | (simp [entryFrame, mkF, argsToLocals, Value.category]; done) | rfl
theorem efPut (m : MethodId) (x0 : Addr) (x1 : Int32) (x2 : Int32) : entryFrame m #[(.ref x0), (.int x1), (.int x2)] 4 = mkF m 0 #[.val (.ref x0), .val (.int x1), .val (.int x2), .unset] [] := by first | (simp [entryFrame, mkF, argsToLocals, Value.category]; done) | rfl
theorem efStr (m : MethodId) (x0 : Addr) (x1 : Int32) : entryFrame m #[(.ref x0), (.int x1)] 3 = mkF m 0 #[.val (.ref x0), .val (.int x1), .unset] [] := by first | (simp [entryFrame, mkF, argsToLocals, Value.category]; done) | rfl
theorem efZ4 (m : MethodId) (x0 : Addr) (x1 : Int32) (x2 : Int32) (x3 : Int32) : entryFrame m #[(.ref x0), (.int x1), (.int x2), (.int x3)] 6 = mkF m 0 #[.val (.ref x0), .val (.int x1), .val (.int x2), .val (.int x3), .unset, .unset] [] := by first | (simp [entryFrame, mkF, argsToLocals, Value.category]; done) | rfl
theorem efU3 (m : MethodId) (x0 : Addr) (x1 : Int32) (x2 : Int32) : entryFrame m #[(.ref x0), (.int x1), (.int x2)] 3 = mkF m 0 #[.val (.ref x0), .val (.int x1), .val (.int x2)] [] := by first | (simp [entryFrame, mkF, argsToLocals, Value.category]; done) | rfl
theorem efSCP (m : MethodId) (x0 : Addr) (x1 : Int32) : entryFrame m #[(.ref x0), (.int x1)] 3 = mkF m 0 #[.val (.ref x0), .val (.int x1), .unset] [] := by first | (simp [entryFrame, mkF, argsToLocals, Value.category]; done) | rfl
theorem efCmp (m : MethodId) (x0 : Addr) (x1 : Addr) : entryFrame m #[(.ref x0), (.ref x1)] 5 = mkF m 0 #[.val (.ref x0), .val (.ref x1), .unset, .unset, .unset] [] := by first | (simp [entryFrame, mkF, argsToLocals, Value.category]; done) | rfl
theorem ef0 (m : MethodId) (x0 : Int32) (x1 : Int32) (x2 : Int32) (x3 : Int32) (x4 : Int32) : entryFrame m #[(.int x0), (.int x1), (.int x2), (.int x3), (.int x4)] maxLocals = mkF m 0 #[.val (.int x0), .val (.int x1), .val (.int x2), .val (.int x3), .val (.int x4), .unset, .unset, .unset, .unset, .unset, .unset, .unset, .unset, .unset, .unset, .unset, .unset, .unset, .unset, .unset] [] := by first | (simp [entryFrame, mkF, argsToLocals, Value.category, maxLocals]; done) | rfl
theorem d4_0 : Dc jdk_42_method_149_code 0 (.aload_n 0) 1 1 := ⟨by decide +kernel, rfl⟩
theorem d4_1 : Dc jdk_42_method_149_code 1 (.invokespecial 1) 3 4 := ⟨by decide +kernel, rfl⟩
theorem d4_4 : Dc jdk_42_method_149_code 4 (.iload_n 3) 1 5 := ⟨by decide +kernel, rfl⟩
theorem d4_5 : Dc jdk_42_method_149_code 5 (.ifCond .ne 22) 3 8 := ⟨by decide +kernel, rfl⟩
theorem d4_5t : Tg 5 (22) 27 := ⟨by decide, by decide⟩
theorem d4_8 : Dc jdk_42_method_149_code 8 (.aload_n 0) 1 9 := ⟨by decide +kernel, rfl⟩
theorem d4_9 : Dc jdk_42_method_149_code 9 (.ldc 7) 2 11 := ⟨by decide +kernel, rfl⟩
theorem d4_11 : Dc jdk_42_method_149_code 11 (.getfield 9) 3 14 := ⟨by decide +kernel, rfl⟩
theorem d4_14 : Dc jdk_42_method_149_code 14 (.putfield 9) 3 17 := ⟨by decide +kernel, rfl⟩
theorem d4_17 : Dc jdk_42_method_149_code 17 (.aload_n 0) 1 18 := ⟨by decide +kernel, rfl⟩
theorem d4_18 : Dc jdk_42_method_149_code 18 (.ldc 7) 2 20 := ⟨by decide +kernel, rfl⟩
theorem d4_20 : Dc jdk_42_method_149_code 20 (.getfield 15) 3 23 := ⟨by decide +kernel, rfl⟩
theorem d4_23 : Dc jdk_42_method_149_code 23 (.putfield 15) 3 26 := ⟨by decide +kernel, rfl⟩
theorem d4_26 : Dc jdk_42_method_149_code 26 .return_ 1 27 := ⟨by decide +kernel, rfl⟩
theorem d4_27 : Dc jdk_42_method_149_code 27 (.getstatic 38) 3 30 := ⟨by decide +kernel, rfl⟩
theorem d4_30 : Dc jdk_42_method_149_code 30 (.ifCond .eq 28) 3 33 := ⟨by decide +kernel, rfl⟩
theorem d4_30t : Tg 30 (28) 58 := ⟨by decide, by decide⟩
theorem d4_33 : Dc jdk_42_method_149_code 33 (.aload_n 1) 1 34 := ⟨by decide +kernel, rfl⟩
theorem d4_34 : Dc jdk_42_method_149_code 34 (.iload_n 2) 1 35 := ⟨by decide +kernel, rfl⟩
theorem d4_35 : Dc jdk_42_method_149_code 35 (.iload_n 3) 1 36 := ⟨by decide +kernel, rfl⟩
theorem d4_36 : Dc jdk_42_method_149_code 36 (.invokestatic 177) 3 39 := ⟨by decide +kernel, rfl⟩
theorem d4_39 : Dc jdk_42_method_149_code 39 (.astore 5) 2 41 := ⟨by decide +kernel, rfl⟩
theorem d4_41 : Dc jdk_42_method_149_code 41 (.aload_n 0) 1 42 := ⟨by decide +kernel, rfl⟩
theorem d4_42 : Dc jdk_42_method_149_code 42 (.aload 5) 2 44 := ⟨by decide +kernel, rfl⟩
theorem d4_44 : Dc jdk_42_method_149_code 44 (.iload_n 3) 1 45 := ⟨by decide +kernel, rfl⟩
theorem d4_45 : Dc jdk_42_method_149_code 45 (.invokestatic 47) 3 48 := ⟨by decide +kernel, rfl⟩
theorem d4_48 : Dc jdk_42_method_149_code 48 (.putfield 15) 3 51 := ⟨by decide +kernel, rfl⟩
theorem d4_51 : Dc jdk_42_method_149_code 51 (.aload_n 0) 1 52 := ⟨by decide +kernel, rfl⟩
theorem d4_52 : Dc jdk_42_method_149_code 52 (.aload 5) 2 54 := ⟨by decide +kernel, rfl⟩
theorem d4_54 : Dc jdk_42_method_149_code 54 (.putfield 9) 3 57 := ⟨by decide +kernel, rfl⟩
theorem d4_57 : Dc jdk_42_method_149_code 57 .return_ 1 58 := ⟨by decide +kernel, rfl⟩
theorem d4_58 : Dc jdk_42_method_149_code 58 (.aload_n 0) 1 59 := ⟨by decide +kernel, rfl⟩
theorem d4_59 : Dc jdk_42_method_149_code 59 (.iconst 1) 1 60 := ⟨by decide +kernel, rfl⟩
theorem d4_60 : Dc jdk_42_method_149_code 60 (.putfield 15) 3 63 := ⟨by decide +kernel, rfl⟩
theorem d4_63 : Dc jdk_42_method_149_code 63 (.aload_n 0) 1 64 := ⟨by decide +kernel, rfl⟩
theorem d4_64 : Dc jdk_42_method_149_code 64 (.aload_n 1) 1 65 := ⟨by decide +kernel, rfl⟩
theorem d4_65 : Dc jdk_42_method_149_code 65 (.iload_n 2) 1 66 := ⟨by decide +kernel, rfl⟩
theorem d4_66 : Dc jdk_42_method_149_code 66 (.iload_n 3) 1 67 := ⟨by decide +kernel, rfl⟩
theorem d4_67 : Dc jdk_42_method_149_code 67 (.invokestatic 180) 3 70 := ⟨by decide +kernel, rfl⟩
theorem d4_70 : Dc jdk_42_method_149_code 70 (.putfield 9) 3 73 := ⟨by decide +kernel, rfl⟩
theorem d4_73 : Dc jdk_42_method_149_code 73 .return_ 1 74 := ⟨by decide +kernel, rfl⟩
theorem d3_0 : Dc jdk_42_method_3_code 0 (.aload_n 0) 1 1 := ⟨by decide +kernel, rfl⟩
theorem d3_1 : Dc jdk_42_method_3_code 1 (.aload_n 1) 1 2 := ⟨by decide +kernel, rfl⟩
theorem d3_2 : Dc jdk_42_method_3_code 2 (.iconst 0) 1 3 := ⟨by decide +kernel, rfl⟩
theorem d3_3 : Dc jdk_42_method_3_code 3 (.aload_n 1) 1 4 := ⟨by decide +kernel, rfl⟩
theorem d3_4 : Dc jdk_42_method_3_code 4 .arraylength 1 5 := ⟨by decide +kernel, rfl⟩
theorem d3_5 : Dc jdk_42_method_3_code 5 .aconst_null 1 6 := ⟨by decide +kernel, rfl⟩
theorem d3_6 : Dc jdk_42_method_3_code 6 (.invokespecial 27) 3 9 := ⟨by decide +kernel, rfl⟩
theorem d3_9 : Dc jdk_42_method_3_code 9 .return_ 1 10 := ⟨by decide +kernel, rfl⟩
theorem d12_0 : Dc jdk_52_method_21_code 0 (.iconst 0) 1 1 := ⟨by decide +kernel, rfl⟩
theorem d12_1 : Dc jdk_52_method_21_code 1 (.istore 5) 2 3 := ⟨by decide +kernel, rfl⟩
theorem d12_3 : Dc jdk_52_method_21_code 3 (.iload 5) 2 5 := ⟨by decide +kernel, rfl⟩
theorem d12_5 : Dc jdk_52_method_21_code 5 (.iload 4) 2 7 := ⟨by decide +kernel, rfl⟩
theorem d12_7 : Dc jdk_52_method_21_code 7 (.if_icmp .ge 37) 3 10 := ⟨by decide +kernel, rfl⟩
theorem d12_7t : Tg 7 (37) 44 := ⟨by decide, by decide⟩
theorem d12_10 : Dc jdk_52_method_21_code 10 (.aload_n 0) 1 11 := ⟨by decide +kernel, rfl⟩
theorem d12_11 : Dc jdk_52_method_21_code 11 (.iload_n 1) 1 12 := ⟨by decide +kernel, rfl⟩
theorem d12_12 : Dc jdk_52_method_21_code 12 .caload 1 13 := ⟨by decide +kernel, rfl⟩
theorem d12_13 : Dc jdk_52_method_21_code 13 (.istore 6) 2 15 := ⟨by decide +kernel, rfl⟩
theorem d12_15 : Dc jdk_52_method_21_code 15 (.iload 6) 2 17 := ⟨by decide +kernel, rfl⟩
theorem d12_17 : Dc jdk_52_method_21_code 17 (.sipush 255) 3 20 := ⟨by decide +kernel, rfl⟩
theorem d12_20 : Dc jdk_52_method_21_code 20 (.if_icmp .le 6) 3 23 := ⟨by decide +kernel, rfl⟩
theorem d12_20t : Tg 20 (6) 26 := ⟨by decide, by decide⟩
theorem d12_23 : Dc jdk_52_method_21_code 23 (.iload 5) 2 25 := ⟨by decide +kernel, rfl⟩
theorem d12_25 : Dc jdk_52_method_21_code 25 .ireturn 1 26 := ⟨by decide +kernel, rfl⟩
theorem d12_26 : Dc jdk_52_method_21_code 26 (.aload_n 2) 1 27 := ⟨by decide +kernel, rfl⟩
theorem d12_27 : Dc jdk_52_method_21_code 27 (.iload_n 3) 1 28 := ⟨by decide +kernel, rfl⟩
theorem d12_28 : Dc jdk_52_method_21_code 28 (.iload 6) 2 30 := ⟨by decide +kernel, rfl⟩
theorem d12_30 : Dc jdk_52_method_21_code 30 .i2b 1 31 := ⟨by decide +kernel, rfl⟩
theorem d12_31 : Dc jdk_52_method_21_code 31 .bastore 1 32 := ⟨by decide +kernel, rfl⟩
theorem d12_32 : Dc jdk_52_method_21_code 32 (.iinc 1 1) 3 35 := ⟨by decide +kernel, rfl⟩
theorem d12_35 : Dc jdk_52_method_21_code 35 (.iinc 3 1) 3 38 := ⟨by decide +kernel, rfl⟩
theorem d12_38 : Dc jdk_52_method_21_code 38 (.iinc 5 1) 3 41 := ⟨by decide +kernel, rfl⟩
theorem d12_41 : Dc jdk_52_method_21_code 41 (.goto (-38)) 3 44 := ⟨by decide +kernel, rfl⟩
theorem d12_41t : Tg 41 (-38) 3 := ⟨by decide, by decide⟩
theorem d12_44 : Dc jdk_52_method_21_code 44 (.iload 4) 2 46 := ⟨by decide +kernel, rfl⟩
theorem d12_46 : Dc jdk_52_method_21_code 46 .ireturn 1 47 := ⟨by decide +kernel, rfl⟩
theorem d11_0 : Dc jdk_52_method_16_code 0 (.iload_n 2) 1 1 := ⟨by decide +kernel, rfl⟩
theorem d11_1 : Dc jdk_52_method_16_code 1 (.newarray .byte) 2 3 := ⟨by decide +kernel, rfl⟩
theorem d11_3 : Dc jdk_52_method_16_code 3 (.astore_n 3) 1 4 := ⟨by decide +kernel, rfl⟩
theorem d11_4 : Dc jdk_52_method_16_code 4 (.aload_n 0) 1 5 := ⟨by decide +kernel, rfl⟩
theorem d11_5 : Dc jdk_52_method_16_code 5 (.iload_n 1) 1 6 := ⟨by decide +kernel, rfl⟩
theorem d11_6 : Dc jdk_52_method_16_code 6 (.aload_n 3) 1 7 := ⟨by decide +kernel, rfl⟩
theorem d11_7 : Dc jdk_52_method_16_code 7 (.iconst 0) 1 8 := ⟨by decide +kernel, rfl⟩
theorem d11_8 : Dc jdk_52_method_16_code 8 (.iload_n 2) 1 9 := ⟨by decide +kernel, rfl⟩
theorem d11_9 : Dc jdk_52_method_16_code 9 (.invokestatic 115) 3 12 := ⟨by decide +kernel, rfl⟩
theorem d11_12 : Dc jdk_52_method_16_code 12 (.istore 4) 2 14 := ⟨by decide +kernel, rfl⟩
theorem d11_14 : Dc jdk_52_method_16_code 14 (.iload 4) 2 16 := ⟨by decide +kernel, rfl⟩
theorem d11_16 : Dc jdk_52_method_16_code 16 (.iload_n 2) 1 17 := ⟨by decide +kernel, rfl⟩
theorem d11_17 : Dc jdk_52_method_16_code 17 (.if_icmp .eq 40) 3 20 := ⟨by decide +kernel, rfl⟩
theorem d11_17t : Tg 17 (40) 57 := ⟨by decide, by decide⟩
theorem d11_20 : Dc jdk_52_method_16_code 20 (.aload_n 0) 1 21 := ⟨by decide +kernel, rfl⟩
theorem d11_21 : Dc jdk_52_method_16_code 21 (.iload_n 1) 1 22 := ⟨by decide +kernel, rfl⟩
theorem d11_22 : Dc jdk_52_method_16_code 22 (.iload_n 2) 1 23 := ⟨by decide +kernel, rfl⟩
theorem d11_23 : Dc jdk_52_method_16_code 23 (.invokestatic 119) 3 26 := ⟨by decide +kernel, rfl⟩
theorem d11_26 : Dc jdk_52_method_16_code 26 (.astore 5) 2 28 := ⟨by decide +kernel, rfl⟩
theorem d11_28 : Dc jdk_52_method_16_code 28 (.aload 5) 2 30 := ⟨by decide +kernel, rfl⟩
theorem d11_30 : Dc jdk_52_method_16_code 30 (.iload 4) 2 32 := ⟨by decide +kernel, rfl⟩
theorem d11_32 : Dc jdk_52_method_16_code 32 (.invokestatic 71) 3 35 := ⟨by decide +kernel, rfl⟩
theorem d11_35 : Dc jdk_52_method_16_code 35 (.sipush 255) 3 38 := ⟨by decide +kernel, rfl⟩
theorem d11_38 : Dc jdk_52_method_16_code 38 (.if_icmp .gt 16) 3 41 := ⟨by decide +kernel, rfl⟩
theorem d11_38t : Tg 38 (16) 54 := ⟨by decide, by decide⟩
theorem d11_41 : Dc jdk_52_method_16_code 41 (.aload 5) 2 43 := ⟨by decide +kernel, rfl⟩
theorem d11_43 : Dc jdk_52_method_16_code 43 (.iconst 0) 1 44 := ⟨by decide +kernel, rfl⟩
theorem d11_44 : Dc jdk_52_method_16_code 44 (.aload_n 3) 1 45 := ⟨by decide +kernel, rfl⟩
theorem d11_45 : Dc jdk_52_method_16_code 45 (.iconst 0) 1 46 := ⟨by decide +kernel, rfl⟩
theorem d11_46 : Dc jdk_52_method_16_code 46 (.iload_n 2) 1 47 := ⟨by decide +kernel, rfl⟩
theorem d11_47 : Dc jdk_52_method_16_code 47 (.invokestatic 123) 3 50 := ⟨by decide +kernel, rfl⟩
theorem d11_50 : Dc jdk_52_method_16_code 50 (.iload_n 2) 1 51 := ⟨by decide +kernel, rfl⟩
theorem d11_51 : Dc jdk_52_method_16_code 51 (.if_icmp .eq 6) 3 54 := ⟨by decide +kernel, rfl⟩
theorem d11_51t : Tg 51 (6) 57 := ⟨by decide, by decide⟩
theorem d11_54 : Dc jdk_52_method_16_code 54 (.aload 5) 2 56 := ⟨by decide +kernel, rfl⟩
theorem d11_56 : Dc jdk_52_method_16_code 56 .areturn 1 57 := ⟨by decide +kernel, rfl⟩
theorem d11_57 : Dc jdk_52_method_16_code 57 (.aload_n 3) 1 58 := ⟨by decide +kernel, rfl⟩
theorem d11_58 : Dc jdk_52_method_16_code 58 .areturn 1 59 := ⟨by decide +kernel, rfl⟩
theorem d18_0 : Dc jdk_52_method_15_code 0 (.iload_n 1) 1 1 := ⟨by decide +kernel, rfl⟩
theorem d18_1 : Dc jdk_52_method_15_code 1 (.aload_n 0) 1 2 := ⟨by decide +kernel, rfl⟩
theorem d18_2 : Dc jdk_52_method_15_code 2 .arraylength 1 3 := ⟨by decide +kernel, rfl⟩
theorem d18_3 : Dc jdk_52_method_15_code 3 .isub 1 4 := ⟨by decide +kernel, rfl⟩
theorem d18_4 : Dc jdk_52_method_15_code 4 (.bipush 31) 2 6 := ⟨by decide +kernel, rfl⟩
theorem d18_6 : Dc jdk_52_method_15_code 6 .iushr 1 7 := ⟨by decide +kernel, rfl⟩
theorem d18_7 : Dc jdk_52_method_15_code 7 .i2b 1 8 := ⟨by decide +kernel, rfl⟩
theorem d18_8 : Dc jdk_52_method_15_code 8 .ireturn 1 9 := ⟨by decide +kernel, rfl⟩
theorem d15_0 : Dc jdk_52_method_3_code 0 (.iload_n 0) 1 1 := ⟨by decide +kernel, rfl⟩
theorem d15_1 : Dc jdk_52_method_3_code 1 (.ifCond .ge 11) 3 4 := ⟨by decide +kernel, rfl⟩
theorem d15_1t : Tg 1 (11) 12 := ⟨by decide, by decide⟩
theorem d15_4 : Dc jdk_52_method_3_code 4 (.new 17) 3 7 := ⟨by decide +kernel, rfl⟩
theorem d15_7 : Dc jdk_52_method_3_code 7 .dup 1 8 := ⟨by decide +kernel, rfl⟩
theorem d15_8 : Dc jdk_52_method_3_code 8 (.invokespecial 19) 3 11 := ⟨by decide +kernel, rfl⟩
theorem d15_11 : Dc jdk_52_method_3_code 11 .athrow 1 12 := ⟨by decide +kernel, rfl⟩
theorem d15_12 : Dc jdk_52_method_3_code 12 (.iload_n 0) 1 13 := ⟨by decide +kernel, rfl⟩
theorem d15_13 : Dc jdk_52_method_3_code 13 (.ldc 20) 2 15 := ⟨by decide +kernel, rfl⟩
theorem d15_15 : Dc jdk_52_method_3_code 15 (.if_icmp .lt 40) 3 18 := ⟨by decide +kernel, rfl⟩
theorem d15_15t : Tg 15 (40) 55 := ⟨by decide, by decide⟩
theorem d15_18 : Dc jdk_52_method_3_code 18 (.new 21) 3 21 := ⟨by decide +kernel, rfl⟩
theorem d15_21 : Dc jdk_52_method_3_code 21 .dup 1 22 := ⟨by decide +kernel, rfl⟩
theorem d15_22 : Dc jdk_52_method_3_code 22 (.new 23) 3 25 := ⟨by decide +kernel, rfl⟩
theorem d15_25 : Dc jdk_52_method_3_code 25 .dup 1 26 := ⟨by decide +kernel, rfl⟩
theorem d15_26 : Dc jdk_52_method_3_code 26 (.invokespecial 25) 3 29 := ⟨by decide +kernel, rfl⟩
theorem d15_29 : Dc jdk_52_method_3_code 29 (.ldc 26) 2 31 := ⟨by decide +kernel, rfl⟩
theorem d15_31 : Dc jdk_52_method_3_code 31 (.invokevirtual 28) 3 34 := ⟨by decide +kernel, rfl⟩
theorem d15_34 : Dc jdk_52_method_3_code 34 (.iload_n 0) 1 35 := ⟨by decide +kernel, rfl⟩
theorem d15_35 : Dc jdk_52_method_3_code 35 (.invokevirtual 32) 3 38 := ⟨by decide +kernel, rfl⟩
theorem d15_38 : Dc jdk_52_method_3_code 38 (.ldc 35) 2 40 := ⟨by decide +kernel, rfl⟩
theorem d15_40 : Dc jdk_52_method_3_code 40 (.invokevirtual 28) 3 43 := ⟨by decide +kernel, rfl⟩
theorem d15_43 : Dc jdk_52_method_3_code 43 (.ldc 20) 2 45 := ⟨by decide +kernel, rfl⟩
theorem d15_45 : Dc jdk_52_method_3_code 45 (.invokevirtual 32) 3 48 := ⟨by decide +kernel, rfl⟩
theorem d15_48 : Dc jdk_52_method_3_code 48 (.invokevirtual 37) 3 51 := ⟨by decide +kernel, rfl⟩
theorem d15_51 : Dc jdk_52_method_3_code 51 (.invokespecial 41) 3 54 := ⟨by decide +kernel, rfl⟩
theorem d15_54 : Dc jdk_52_method_3_code 54 .athrow 1 55 := ⟨by decide +kernel, rfl⟩
theorem d15_55 : Dc jdk_52_method_3_code 55 (.iload_n 0) 1 56 := ⟨by decide +kernel, rfl⟩
theorem d15_56 : Dc jdk_52_method_3_code 56 (.iconst 1) 1 57 := ⟨by decide +kernel, rfl⟩
theorem d15_57 : Dc jdk_52_method_3_code 57 .ishl 1 58 := ⟨by decide +kernel, rfl⟩
theorem d15_58 : Dc jdk_52_method_3_code 58 .ireturn 1 59 := ⟨by decide +kernel, rfl⟩
theorem d14_0 : Dc jdk_52_method_2_code 0 (.iload_n 0) 1 1 := ⟨by decide +kernel, rfl⟩
theorem d14_1 : Dc jdk_52_method_2_code 1 (.invokestatic 11) 3 4 := ⟨by decide +kernel, rfl⟩
theorem d14_4 : Dc jdk_52_method_2_code 4 (.newarray .byte) 2 6 := ⟨by decide +kernel, rfl⟩
theorem d14_6 : Dc jdk_52_method_2_code 6 .areturn 1 7 := ⟨by decide +kernel, rfl⟩
theorem d16_0 : Dc jdk_52_method_4_code 0 (.getstatic 44) 3 3 := ⟨by decide +kernel, rfl⟩
theorem d16_3 : Dc jdk_52_method_4_code 3 (.ifCond .ne 25) 3 6 := ⟨by decide +kernel, rfl⟩
theorem d16_3t : Tg 3 (25) 28 := ⟨by decide, by decide⟩
theorem d16_6 : Dc jdk_52_method_4_code 6 (.iload_n 1) 1 7 := ⟨by decide +kernel, rfl⟩
theorem d16_7 : Dc jdk_52_method_4_code 7 (.ifCond .lt 11) 3 10 := ⟨by decide +kernel, rfl⟩
theorem d16_7t : Tg 7 (11) 18 := ⟨by decide, by decide⟩
theorem d16_10 : Dc jdk_52_method_4_code 10 (.iload_n 1) 1 11 := ⟨by decide +kernel, rfl⟩
theorem d16_11 : Dc jdk_52_method_4_code 11 (.aload_n 0) 1 12 := ⟨by decide +kernel, rfl⟩
theorem d16_12 : Dc jdk_52_method_4_code 12 (.invokestatic 48) 3 15 := ⟨by decide +kernel, rfl⟩
theorem d16_15 : Dc jdk_52_method_4_code 15 (.if_icmp .lt 13) 3 18 := ⟨by decide +kernel, rfl⟩
theorem d16_15t : Tg 15 (13) 28 := ⟨by decide, by decide⟩
theorem d16_18 : Dc jdk_52_method_4_code 18 (.new 52) 3 21 := ⟨by decide +kernel, rfl⟩
theorem d16_21 : Dc jdk_52_method_4_code 21 .dup 1 22 := ⟨by decide +kernel, rfl⟩
theorem d16_22 : Dc jdk_52_method_4_code 22 (.ldc 54) 2 24 := ⟨by decide +kernel, rfl⟩
theorem d16_24 : Dc jdk_52_method_4_code 24 (.invokespecial 56) 3 27 := ⟨by decide +kernel, rfl⟩
theorem d16_27 : Dc jdk_52_method_4_code 27 .athrow 1 28 := ⟨by decide +kernel, rfl⟩
theorem d16_28 : Dc jdk_52_method_4_code 28 (.iload_n 1) 1 29 := ⟨by decide +kernel, rfl⟩
theorem d16_29 : Dc jdk_52_method_4_code 29 (.iconst 1) 1 30 := ⟨by decide +kernel, rfl⟩
theorem d16_30 : Dc jdk_52_method_4_code 30 .ishl 1 31 := ⟨by decide +kernel, rfl⟩
theorem d16_31 : Dc jdk_52_method_4_code 31 (.istore_n 1) 1 32 := ⟨by decide +kernel, rfl⟩
theorem d16_32 : Dc jdk_52_method_4_code 32 (.aload_n 0) 1 33 := ⟨by decide +kernel, rfl⟩
theorem d16_33 : Dc jdk_52_method_4_code 33 (.iload_n 1) 1 34 := ⟨by decide +kernel, rfl⟩
theorem d16_34 : Dc jdk_52_method_4_code 34 (.iinc 1 1) 3 37 := ⟨by decide +kernel, rfl⟩
theorem d16_37 : Dc jdk_52_method_4_code 37 (.iload_n 2) 1 38 := ⟨by decide +kernel, rfl⟩
theorem d16_38 : Dc jdk_52_method_4_code 38 (.getstatic 59) 3 41 := ⟨by decide +kernel, rfl⟩
theorem d16_41 : Dc jdk_52_method_4_code 41 .ishr 1 42 := ⟨by decide +kernel, rfl⟩
theorem d16_42 : Dc jdk_52_method_4_code 42 .i2b 1 43 := ⟨by decide +kernel, rfl⟩
theorem d16_43 : Dc jdk_52_method_4_code 43 .bastore 1 44 := ⟨by decide +kernel, rfl⟩
theorem d16_44 : Dc jdk_52_method_4_code 44 (.aload_n 0) 1 45 := ⟨by decide +kernel, rfl⟩
theorem d16_45 : Dc jdk_52_method_4_code 45 (.iload_n 1) 1 46 := ⟨by decide +kernel, rfl⟩
theorem d16_46 : Dc jdk_52_method_4_code 46 (.iload_n 2) 1 47 := ⟨by decide +kernel, rfl⟩
theorem d16_47 : Dc jdk_52_method_4_code 47 (.getstatic 63) 3 50 := ⟨by decide +kernel, rfl⟩
theorem d16_50 : Dc jdk_52_method_4_code 50 .ishr 1 51 := ⟨by decide +kernel, rfl⟩
theorem d16_51 : Dc jdk_52_method_4_code 51 .i2b 1 52 := ⟨by decide +kernel, rfl⟩
theorem d16_52 : Dc jdk_52_method_4_code 52 .bastore 1 53 := ⟨by decide +kernel, rfl⟩
theorem d16_53 : Dc jdk_52_method_4_code 53 .return_ 1 54 := ⟨by decide +kernel, rfl⟩
theorem d13_0 : Dc jdk_52_method_14_code 0 (.iload_n 2) 1 1 := ⟨by decide +kernel, rfl⟩
theorem d13_1 : Dc jdk_52_method_14_code 1 (.invokestatic 107) 3 4 := ⟨by decide +kernel, rfl⟩
theorem d13_4 : Dc jdk_52_method_14_code 4 (.astore_n 3) 1 5 := ⟨by decide +kernel, rfl⟩
theorem d13_5 : Dc jdk_52_method_14_code 5 (.iconst 0) 1 6 := ⟨by decide +kernel, rfl⟩
theorem d13_6 : Dc jdk_52_method_14_code 6 (.istore 4) 2 8 := ⟨by decide +kernel, rfl⟩
theorem d13_8 : Dc jdk_52_method_14_code 8 (.iload 4) 2 10 := ⟨by decide +kernel, rfl⟩
theorem d13_10 : Dc jdk_52_method_14_code 10 (.iload_n 2) 1 11 := ⟨by decide +kernel, rfl⟩
theorem d13_11 : Dc jdk_52_method_14_code 11 (.if_icmp .ge 21) 3 14 := ⟨by decide +kernel, rfl⟩
theorem d13_11t : Tg 11 (21) 32 := ⟨by decide, by decide⟩
theorem d13_14 : Dc jdk_52_method_14_code 14 (.aload_n 3) 1 15 := ⟨by decide +kernel, rfl⟩
theorem d13_15 : Dc jdk_52_method_14_code 15 (.iload 4) 2 17 := ⟨by decide +kernel, rfl⟩
theorem d13_17 : Dc jdk_52_method_14_code 17 (.aload_n 0) 1 18 := ⟨by decide +kernel, rfl⟩
theorem d13_18 : Dc jdk_52_method_14_code 18 (.iload_n 1) 1 19 := ⟨by decide +kernel, rfl⟩
theorem d13_19 : Dc jdk_52_method_14_code 19 .caload 1 20 := ⟨by decide +kernel, rfl⟩
theorem d13_20 : Dc jdk_52_method_14_code 20 (.invokestatic 111) 3 23 := ⟨by decide +kernel, rfl⟩
theorem d13_23 : Dc jdk_52_method_14_code 23 (.iinc 1 1) 3 26 := ⟨by decide +kernel, rfl⟩
theorem d13_26 : Dc jdk_52_method_14_code 26 (.iinc 4 1) 3 29 := ⟨by decide +kernel, rfl⟩
theorem d13_29 : Dc jdk_52_method_14_code 29 (.goto (-21)) 3 32 := ⟨by decide +kernel, rfl⟩
theorem d13_29t : Tg 29 (-21) 8 := ⟨by decide, by decide⟩
theorem d13_32 : Dc jdk_52_method_14_code 32 (.aload_n 3) 1 33 := ⟨by decide +kernel, rfl⟩
theorem d13_33 : Dc jdk_52_method_14_code 33 .areturn 1 34 := ⟨by decide +kernel, rfl⟩
theorem d17_0 : Dc jdk_52_method_5_code 0 (.getstatic 44) 3 3 := ⟨by decide +kernel, rfl⟩
theorem d17_3 : Dc jdk_52_method_5_code 3 (.ifCond .ne 25) 3 6 := ⟨by decide +kernel, rfl⟩
theorem d17_3t : Tg 3 (25) 28 := ⟨by decide, by decide⟩
theorem d17_6 : Dc jdk_52_method_5_code 6 (.iload_n 1) 1 7 := ⟨by decide +kernel, rfl⟩
theorem d17_7 : Dc jdk_52_method_5_code 7 (.ifCond .lt 11) 3 10 := ⟨by decide +kernel, rfl⟩
theorem d17_7t : Tg 7 (11) 18 := ⟨by decide, by decide⟩
theorem d17_10 : Dc jdk_52_method_5_code 10 (.iload_n 1) 1 11 := ⟨by decide +kernel, rfl⟩
theorem d17_11 : Dc jdk_52_method_5_code 11 (.aload_n 0) 1 12 := ⟨by decide +kernel, rfl⟩
theorem d17_12 : Dc jdk_52_method_5_code 12 (.invokestatic 48) 3 15 := ⟨by decide +kernel, rfl⟩
theorem d17_15 : Dc jdk_52_method_5_code 15 (.if_icmp .lt 13) 3 18 := ⟨by decide +kernel, rfl⟩
theorem d17_15t : Tg 15 (13) 28 := ⟨by decide, by decide⟩
theorem d17_18 : Dc jdk_52_method_5_code 18 (.new 52) 3 21 := ⟨by decide +kernel, rfl⟩
theorem d17_21 : Dc jdk_52_method_5_code 21 .dup 1 22 := ⟨by decide +kernel, rfl⟩
theorem d17_22 : Dc jdk_52_method_5_code 22 (.ldc 54) 2 24 := ⟨by decide +kernel, rfl⟩
theorem d17_24 : Dc jdk_52_method_5_code 24 (.invokespecial 56) 3 27 := ⟨by decide +kernel, rfl⟩
theorem d17_27 : Dc jdk_52_method_5_code 27 .athrow 1 28 := ⟨by decide +kernel, rfl⟩
theorem d17_28 : Dc jdk_52_method_5_code 28 (.iload_n 1) 1 29 := ⟨by decide +kernel, rfl⟩
theorem d17_29 : Dc jdk_52_method_5_code 29 (.iconst 1) 1 30 := ⟨by decide +kernel, rfl⟩
theorem d17_30 : Dc jdk_52_method_5_code 30 .ishl 1 31 := ⟨by decide +kernel, rfl⟩
theorem d17_31 : Dc jdk_52_method_5_code 31 (.istore_n 1) 1 32 := ⟨by decide +kernel, rfl⟩
theorem d17_32 : Dc jdk_52_method_5_code 32 (.aload_n 0) 1 33 := ⟨by decide +kernel, rfl⟩
theorem d17_33 : Dc jdk_52_method_5_code 33 (.iload_n 1) 1 34 := ⟨by decide +kernel, rfl⟩
theorem d17_34 : Dc jdk_52_method_5_code 34 (.iinc 1 1) 3 37 := ⟨by decide +kernel, rfl⟩
theorem d17_37 : Dc jdk_52_method_5_code 37 .baload 1 38 := ⟨by decide +kernel, rfl⟩
theorem d17_38 : Dc jdk_52_method_5_code 38 (.sipush 255) 3 41 := ⟨by decide +kernel, rfl⟩
theorem d17_41 : Dc jdk_52_method_5_code 41 .iand 1 42 := ⟨by decide +kernel, rfl⟩
theorem d17_42 : Dc jdk_52_method_5_code 42 (.getstatic 59) 3 45 := ⟨by decide +kernel, rfl⟩
theorem d17_45 : Dc jdk_52_method_5_code 45 .ishl 1 46 := ⟨by decide +kernel, rfl⟩
theorem d17_46 : Dc jdk_52_method_5_code 46 (.aload_n 0) 1 47 := ⟨by decide +kernel, rfl⟩
theorem d17_47 : Dc jdk_52_method_5_code 47 (.iload_n 1) 1 48 := ⟨by decide +kernel, rfl⟩
theorem d17_48 : Dc jdk_52_method_5_code 48 .baload 1 49 := ⟨by decide +kernel, rfl⟩
theorem d17_49 : Dc jdk_52_method_5_code 49 (.sipush 255) 3 52 := ⟨by decide +kernel, rfl⟩
theorem d17_52 : Dc jdk_52_method_5_code 52 .iand 1 53 := ⟨by decide +kernel, rfl⟩
theorem d17_53 : Dc jdk_52_method_5_code 53 (.getstatic 63) 3 56 := ⟨by decide +kernel, rfl⟩
theorem d17_56 : Dc jdk_52_method_5_code 56 .ishl 1 57 := ⟨by decide +kernel, rfl⟩
theorem d17_57 : Dc jdk_52_method_5_code 57 .ior 1 58 := ⟨by decide +kernel, rfl⟩
theorem d17_58 : Dc jdk_52_method_5_code 58 .i2c 1 59 := ⟨by decide +kernel, rfl⟩
theorem d17_59 : Dc jdk_52_method_5_code 59 .ireturn 1 60 := ⟨by decide +kernel, rfl⟩
theorem d8_0 : Dc jdk_42_method_152_code 0 (.getstatic 38) 3 3 := ⟨by decide +kernel, rfl⟩
theorem d8_3 : Dc jdk_42_method_152_code 3 (.ifCond .eq 10) 3 6 := ⟨by decide +kernel, rfl⟩
theorem d8_3t : Tg 3 (10) 13 := ⟨by decide, by decide⟩
theorem d8_6 : Dc jdk_42_method_152_code 6 (.aload_n 0) 1 7 := ⟨by decide +kernel, rfl⟩
theorem d8_7 : Dc jdk_42_method_152_code 7 (.getfield 15) 3 10 := ⟨by decide +kernel, rfl⟩
theorem d8_10 : Dc jdk_42_method_152_code 10 (.goto 4) 3 13 := ⟨by decide +kernel, rfl⟩
theorem d8_10t : Tg 10 (4) 14 := ⟨by decide, by decide⟩
theorem d8_13 : Dc jdk_42_method_152_code 13 (.iconst 1) 1 14 := ⟨by decide +kernel, rfl⟩
theorem d8_14 : Dc jdk_42_method_152_code 14 .ireturn 1 15 := ⟨by decide +kernel, rfl⟩
theorem d7_0 : Dc jdk_42_method_54_code 0 (.aload_n 0) 1 1 := ⟨by decide +kernel, rfl⟩
theorem d7_1 : Dc jdk_42_method_54_code 1 (.getfield 9) 3 4 := ⟨by decide +kernel, rfl⟩
theorem d7_4 : Dc jdk_42_method_54_code 4 .arraylength 1 5 := ⟨by decide +kernel, rfl⟩
theorem d7_5 : Dc jdk_42_method_54_code 5 (.aload_n 0) 1 6 := ⟨by decide +kernel, rfl⟩
theorem d7_6 : Dc jdk_42_method_54_code 6 (.invokevirtual 335) 3 9 := ⟨by decide +kernel, rfl⟩
theorem d7_9 : Dc jdk_42_method_54_code 9 .ishr 1 10 := ⟨by decide +kernel, rfl⟩
theorem d7_10 : Dc jdk_42_method_54_code 10 .ireturn 1 11 := ⟨by decide +kernel, rfl⟩
theorem d22_0 : Dc jdk_41_method_11_code 0 (.iload_n 0) 1 1 := ⟨by decide +kernel, rfl⟩
theorem d22_1 : Dc jdk_41_method_11_code 1 (.ifCond .lt 8) 3 4 := ⟨by decide +kernel, rfl⟩
theorem d22_1t : Tg 1 (8) 9 := ⟨by decide, by decide⟩
theorem d22_4 : Dc jdk_41_method_11_code 4 (.iload_n 0) 1 5 := ⟨by decide +kernel, rfl⟩
theorem d22_5 : Dc jdk_41_method_11_code 5 (.iload_n 1) 1 6 := ⟨by decide +kernel, rfl⟩
theorem d22_6 : Dc jdk_41_method_11_code 6 (.if_icmp .lt 10) 3 9 := ⟨by decide +kernel, rfl⟩
theorem d22_6t : Tg 6 (10) 16 := ⟨by decide, by decide⟩
theorem d22_9 : Dc jdk_41_method_11_code 9 (.aload_n 2) 1 10 := ⟨by decide +kernel, rfl⟩
theorem d22_10 : Dc jdk_41_method_11_code 10 (.iload_n 0) 1 11 := ⟨by decide +kernel, rfl⟩
theorem d22_11 : Dc jdk_41_method_11_code 11 (.iload_n 1) 1 12 := ⟨by decide +kernel, rfl⟩
theorem d22_12 : Dc jdk_41_method_11_code 12 (.invokestatic 95) 3 15 := ⟨by decide +kernel, rfl⟩
theorem d22_15 : Dc jdk_41_method_11_code 15 .athrow 1 16 := ⟨by decide +kernel, rfl⟩
theorem d22_16 : Dc jdk_41_method_11_code 16 (.iload_n 0) 1 17 := ⟨by decide +kernel, rfl⟩
theorem d22_17 : Dc jdk_41_method_11_code 17 .ireturn 1 18 := ⟨by decide +kernel, rfl⟩
theorem d21_0 : Dc jdk_42_method_155_code 0 (.iload_n 0) 1 1 := ⟨by decide +kernel, rfl⟩
theorem d21_1 : Dc jdk_42_method_155_code 1 (.iload_n 1) 1 2 := ⟨by decide +kernel, rfl⟩
theorem d21_2 : Dc jdk_42_method_155_code 2 (.getstatic 1053) 3 5 := ⟨by decide +kernel, rfl⟩
theorem d21_5 : Dc jdk_42_method_155_code 5 (.invokestatic 1059) 3 8 := ⟨by decide +kernel, rfl⟩
theorem d21_8 : Dc jdk_42_method_155_code 8 .pop 1 9 := ⟨by decide +kernel, rfl⟩
theorem d21_9 : Dc jdk_42_method_155_code 9 .return_ 1 10 := ⟨by decide +kernel, rfl⟩
theorem d20_0 : Dc jdk_42_method_154_code 0 (.getstatic 38) 3 3 := ⟨by decide +kernel, rfl⟩
theorem d20_3 : Dc jdk_42_method_154_code 3 (.ifCond .eq 14) 3 6 := ⟨by decide +kernel, rfl⟩
theorem d20_3t : Tg 3 (14) 17 := ⟨by decide, by decide⟩
theorem d20_6 : Dc jdk_42_method_154_code 6 (.aload_n 0) 1 7 := ⟨by decide +kernel, rfl⟩
theorem d20_7 : Dc jdk_42_method_154_code 7 (.getfield 15) 3 10 := ⟨by decide +kernel, rfl⟩
theorem d20_10 : Dc jdk_42_method_154_code 10 (.ifCond .ne 7) 3 13 := ⟨by decide +kernel, rfl⟩
theorem d20_10t : Tg 10 (7) 17 := ⟨by decide, by decide⟩
theorem d20_13 : Dc jdk_42_method_154_code 13 (.iconst 1) 1 14 := ⟨by decide +kernel, rfl⟩
theorem d20_14 : Dc jdk_42_method_154_code 14 (.goto 4) 3 17 := ⟨by decide +kernel, rfl⟩
theorem d20_14t : Tg 14 (4) 18 := ⟨by decide, by decide⟩
theorem d20_17 : Dc jdk_42_method_154_code 17 (.iconst 0) 1 18 := ⟨by decide +kernel, rfl⟩
theorem d20_18 : Dc jdk_42_method_154_code 18 .ireturn 1 19 := ⟨by decide +kernel, rfl⟩
theorem own_cs {Z : State} {a0 : Array Value} (hr : rest_1_c.value a0 Z none Z [] = some true) : ∃ z : Int32, Sta Z Z.heap "java/lang/String" "COMPACT_STRINGS" "Z" (.int z) ∧ ¬ z = 0 := by
  obtain ⟨z, ev⟩ := is_v (nw hr 1 rfl)
  refine ⟨z, Sta.start ev (Or.inl (Cond.before_iff.mpr (nw hr 0 rfl))), fun e => ?_⟩
  have q := not_v (nw hr 2 rfl)
  rw [Cond.eq_ints ev (Term.int_eval 0)] at q
  simp [e] at q
theorem own_ad {Z : State} {a0 : Array Value} (hr : rest_1_c.value a0 Z none Z [] = some true) : Sta Z Z.heap "java/lang/StringUTF16" "$assertionsDisabled" "Z" (.int (1 : Int32)) := Sta.start (eqv_int (nw hr 12 rfl) (Term.int_eval 1)) (Or.inl (Cond.before_iff.mpr (nw hr 11 rfl)))
theorem own_hi {Z : State} {a0 : Array Value} (hr : rest_1_c.value a0 Z none Z [] = some true) : Sta Z Z.heap "java/lang/StringUTF16" "HI_BYTE_SHIFT" "I" (.int (0 : Int32)) := Sta.start (eqv_int (nw hr 15 rfl) (Term.int_eval 0)) (Or.inl (Cond.before_iff.mpr (nw hr 14 rfl)))
theorem own_lo {Z : State} {a0 : Array Value} (hr : rest_1_c.value a0 Z none Z [] = some true) : Sta Z Z.heap "java/lang/StringUTF16" "LO_BYTE_SHIFT" "I" (.int (8 : Int32)) := Sta.start (eqv_int (nw hr 18 rfl) (Term.int_eval 8)) (Or.inl (Cond.before_iff.mpr (nw hr 17 rfl)))
theorem own_safe {Z : State} {a0 : Array Value} {vm : Vm} {h : Heap} {d : Addr} {kd : ClassId} {z : Int32} {vs : List Value} {dv : Value} (hw : ∀ d ∈ tables_1, d.before a0 Z = true) (hZ : Z.Warmed39 vm) (A : Arv Z h d kd .byte z vs dv) (hz : 0 < z.toNatClampNeg) : Safe Z consts_1 vm h d := safe_empty (tw hw 26 rfl) hZ A hz
theorem ef4_rriin (m : MethodId) (x0 : Addr) (x1 : Addr) (x2 : Int32) (x3 : Int32) : entryFrame m #[(.ref x0), (.ref x1), (.int x2), (.int x3), .null] 6 = mkF m 0 #[.val (.ref x0), .val (.ref x1), .val (.int x2), .val (.int x3), .val .null, .unset] [] := by first | (simp [entryFrame, mkF, argsToLocals, Value.category]; done) | rfl
set_option maxRecDepth 65536 in
set_option maxHeartbeats 40000000 in
theorem rmS4_0 (l : Launch) (Z : State) (a0 : Array Value) (hw : ∀ d ∈ tables_1, d.before a0 Z = true) (hr : rest_1_c.value a0 Z none Z [] = some true) (a b : Addr) (h0 : Heap) (hE : Ext Z.heap h0) (ge_a : Z.heap.size ≤ a) (E0 : Exa Z h0 a "java/lang/String") (G1 : Fld Z h0 a "java/lang/String" "value" "[B" .null) (G2 : Fld Z h0 a "java/lang/String" "coder" "B" (.int (0 : Int32))) :
    Ct true l Z consts_1 (⟨"java/lang/String", "<init>", "([CIILjava/lang/Void;)V"⟩ : MethodName) jdk_42_method_149_code 6 none [] ({ frames := 1, cells := 4, slots := 8, locals := 12 } : Room) [a] #[(.ref a), (.ref b), (.int (0 : Int32)), (.int (0 : Int32)), .null] h0 (fun r u => r = none ∧ Keep h0 u [a] ∧ ∃ t, StrL Z u a t 0 []) := by
  refine Ct.intro pn_java_lang_String hE (fun m => ef4_rriin m a b _ _) (onesf ge_a E0.lt) ⟨a0, own_EW hw⟩ ?_
  intro x T w
  refine w.aloadN d4_0 rfl rfl ?_
  refine w.initO 0 d4_1 (tw hw 23 rfl) (tw hw 24 rfl) (tw hw 25 rfl) rfl (Nat.le_refl _) ⟨by decide, by decide⟩ ?_
  intro T w
  refine w.iloadN d4_4 rfl ?_
  refine w.ifNe d4_5 d4_5t (fun q => absurd (by decide) q) (fun _ => ?_)
  refine w.aloadN d4_8 rfl rfl ?_
  refine w.ldcR (0 : Int32) 0 d4_9 (tw hw 26 rfl) (own_sA hw) (own_EW hw) (by decide) ⟨(by decide), rfl⟩ (by decide) rfl (by decide) (by decide) ⟨by decide, by decide⟩ ?_
  intro s1 t1 kbs1 T h1 w Es1 Xs1 Cs1 Vs1 As1 Ns1
  have F21 := E0.ext Es1
  have F22 := G1.ext Es1
  have F23 := G2.ext Es1
  refine w.getF d4_11 (tw hw 32 rfl) Vs1 ?_
  intro T w
  refine w.putF d4_14 (tw hw 32 rfl) F22 F21 (Or.inr ⟨(tw hw 28 rfl), rfl, rfl⟩) (tw hw 14 rfl) (ty := (.array .byte)) (by decide) rfl rfl (List.mem_of_getElem? (i := 0) rfl) ?_
  intro T h2 w W24
  have F25 := F21.wr W24
  have F26 := F22.same W24
  have F27 := F23.other W24 (Or.inr (slot_ne (Or.inr (tw hw 29 rfl)) (Or.inr (tw hw 28 rfl)) (by decide) (t := .byte) (t' := (.array .byte)) (by decide) (by decide)))
  have F28 := Vs1.other W24 (Or.inl (Ne.symm (Ns1 a (List.mem_of_getElem? (i := 0) rfl)).1))
  have F29 := Cs1.other W24 (Or.inl (Ne.symm (Ns1 a (List.mem_of_getElem? (i := 0) rfl)).1))
  have F30 := As1.other W24 (Ne.symm (Ns1 a (List.mem_of_getElem? (i := 0) rfl)).2)
  refine w.aloadN d4_17 rfl rfl ?_
  refine w.ldcR (0 : Int32) 0 d4_18 (tw hw 26 rfl) (own_sA hw) (own_EW hw) (by decide) ⟨(by decide), rfl⟩ (by decide) rfl (by decide) (by decide) ⟨by decide, by decide⟩ ?_
  intro s2 t2 kbs2 T h3 w Es2 Xs2 Cs2 Vs2 As2 Ns2
  have F31 := F25.ext Es2
  have F32 := F26.ext Es2
  have F33 := F27.ext Es2
  have F34 := F28.ext Es2
  have F35 := F29.ext Es2
  have F36 := F30.ext Es2
  refine w.getF d4_20 (tw hw 33 rfl) Cs2 ?_
  intro T w
  refine w.putF d4_23 (tw hw 33 rfl) F33 F31 (Or.inr ⟨(tw hw 29 rfl), rfl, rfl⟩) (tw hw 14 rfl) (ty := .byte) (by decide) rfl rfl (List.mem_of_getElem? (i := 0) rfl) ?_
  intro T h4 w W37
  have F38 := F31.wr W37
  have F39 := F32.other W37 (Or.inr (slot_ne (Or.inr (tw hw 28 rfl)) (Or.inr (tw hw 29 rfl)) (by decide) (t := (.array .byte)) (t' := .byte) (by decide) (by decide)))
  have F40 := F33.same W37
  have F41 := F34.other W37 (Or.inl (Ne.symm (Ns1 a (List.mem_of_getElem? (i := 0) rfl)).1))
  have F42 := F35.other W37 (Or.inl (Ne.symm (Ns1 a (List.mem_of_getElem? (i := 0) rfl)).1))
  have F43 := F36.other W37 (Ne.symm (Ns1 a (List.mem_of_getElem? (i := 0) rfl)).2)
  have F44 := Vs2.other W37 (Or.inl (Ne.symm (Ns2 a (List.mem_of_getElem? (i := 0) rfl)).1))
  have F45 := Cs2.other W37 (Or.inl (Ne.symm (Ns2 a (List.mem_of_getElem? (i := 0) rfl)).1))
  have F46 := As2.other W37 (Ne.symm (Ns2 a (List.mem_of_getElem? (i := 0) rfl)).2)
  exact w.retV d4_26 rfl ⟨rfl, ((((keep_ext Es1).wr W24 (Or.inl (List.mem_singleton.mpr rfl))).ext Es2).wr W37 (Or.inl (List.mem_singleton.mpr rfl))), t1, F38, F39, F40, kbs1, F43, by simp⟩

theorem ef3_rr (m : MethodId) (x0 : Addr) (x1 : Addr) : entryFrame m #[(.ref x0), (.ref x1)] 2 = mkF m 0 #[.val (.ref x0), .val (.ref x1)] [] := by first | (simp [entryFrame, mkF, argsToLocals, Value.category]; done) | rfl
set_option maxRecDepth 65536 in
set_option maxHeartbeats 40000000 in
theorem rmS1_0 (l : Launch) (Z : State) (a0 : Array Value) (hw : ∀ d ∈ tables_1, d.before a0 Z = true) (hr : rest_1_c.value a0 Z none Z [] = some true) (a b : Addr) (kb : ClassId) (vs : List Value) (h0 : Heap) (hE : Ext Z.heap h0) (ge_a : Z.heap.size ≤ a) (E0 : Exa Z h0 a "java/lang/String") (G1 : Fld Z h0 a "java/lang/String" "value" "[B" .null) (G2 : Fld Z h0 a "java/lang/String" "coder" "B" (.int (0 : Int32))) (Ab : Arv Z h0 b kb .char (0 : Int32) vs (.int 0)) :
    Ct true l Z consts_1 (⟨"java/lang/String", "<init>", "([C)V"⟩ : MethodName) jdk_42_method_3_code 2 none [] ({ frames := 2, cells := 4, slots := 8, locals := 30 } : Room) [a] #[(.ref a), (.ref b)] h0 (fun r u => r = none ∧ Keep h0 u [a] ∧ ∃ t, StrL Z u a t 0 []) := by
  refine Ct.intro pn_java_lang_String hE (fun m => ef3_rr m a b) (onesf ge_a E0.lt) ⟨a0, own_EW hw⟩ ?_
  intro x T w
  obtain ⟨cl, Ar, -, S, M, -, -⟩ := id Ab
  refine w.aloadN d3_0 rfl rfl ?_
  refine w.aloadN d3_1 rfl rfl ?_
  refine w.iconst (0 : Int32) d3_2 rfl ?_
  refine w.aloadN d3_3 rfl rfl ?_
  refine w.alen (0 : Int32) d3_4 Ar (len_of S M) ?_
  refine w.aconstNull d3_5 ?_
  refine w.callI (argsL := [(.ref b), (.int (0 : Int32)), (.int (0 : Int32)), .null]) (rest := []) 0 d3_6 rfl (tw hw 19 rfl) (tw hw 20 rfl) (tw hw 15 rfl) (tw hw 22 rfl) (by decide) (rmS4_0 l Z a0 hw hr a b h0 w.old ge_a E0 G1 G2) (lenOf pd_0 rfl) rfl rfl (Nat.le_refl _) ⟨by decide, by decide, by decide, by decide⟩ (allS (List.mem_of_getElem? (i := 0) rfl) all0) ?_
  intro T h1 r w _ hQ
  obtain ⟨rfl, K1, t, S1⟩ := hQ
  exact w.retV d3_9 rfl ⟨rfl, K1, t, S1⟩

theorem ef12_ririi (m : MethodId) (x0 : Addr) (x1 : Int32) (x2 : Addr) (x3 : Int32) (x4 : Int32) : entryFrame m #[(.ref x0), (.int x1), (.ref x2), (.int x3), (.int x4)] 7 = mkF m 0 #[.val (.ref x0), .val (.int x1), .val (.ref x2), .val (.int x3), .val (.int x4), .unset, .unset] [] := by first | (simp [entryFrame, mkF, argsToLocals, Value.category]; done) | rfl
set_option maxRecDepth 65536 in
set_option maxHeartbeats 40000000 in
theorem rmC5_1 (l : Launch) (Z : State) (a0 : Array Value) (hw : ∀ d ∈ tables_1, d.before a0 Z = true) (b d : Addr) (kb kd : ClassId) (c0 : Int32) (h0 : Heap) (hE : Ext Z.heap h0) (ge_d : Z.heap.size ≤ d) (nbd : b ≠ d) (Ab : Arv Z h0 b kb .char (1 : Int32) [(.int c0)] (.int 0)) (Ad : Arv Z h0 d kd .byte (1 : Int32) [] (.int 0)) (u0 : ¬ 255 < c0) :
    Ct true l Z consts_1 (⟨"java/lang/StringUTF16", "compress", "([CI[BII)I"⟩ : MethodName) jdk_52_method_21_code 7 (some .int) [] ({ frames := 0, cells := 0, slots := 0, locals := 0 } : Room) [d] #[(.ref b), (.int (0 : Int32)), (.ref d), (.int (0 : Int32)), (.int (1 : Int32))] h0 (fun r u => r = some (.int (1 : Int32)) ∧ Keep h0 u [d] ∧ Arv Z u d kd .byte (1 : Int32) [(.int (nar .byte c0))] (.int 0)) := by
  refine Ct.intro pn_java_lang_StringUTF16 hE (fun m => ef12_ririi m b _ d _ _) (onesf ge_d Ad.lt) ⟨a0, own_EW hw⟩ ?_
  intro x T w
  refine w.iconst (0 : Int32) d12_0 rfl ?_
  refine w.istore #[.val (.ref b), .val (.int (0 : Int32)), .val (.ref d), .val (.int (0 : Int32)), .val (.int (1 : Int32)), .val (.int (0 : Int32)), .unset] d12_1 rfl ?_
  refine w.iload d12_3 rfl ?_
  refine w.iload d12_5 rfl ?_
  refine w.icmpGe d12_7 d12_7t (fun q => absurd (by decide) q) (fun _ => ?_)
  refine w.aloadN d12_10 rfl rfl ?_
  refine w.iloadN d12_11 rfl ?_
  obtain ⟨cl0, Ar0, -, S0, -, H0, -⟩ := id Ab
  refine w.caload d12_12 Ar0 (inb_of S0 (by decide)) (H0.at (inb_of S0 (by decide)) rfl) ?_
  refine w.istore #[.val (.ref b), .val (.int (0 : Int32)), .val (.ref d), .val (.int (0 : Int32)), .val (.int (1 : Int32)), .val (.int (0 : Int32)), .val (.int c0)] d12_13 rfl ?_
  refine w.iload d12_15 rfl ?_
  refine w.sipush (255 : Int32) d12_17 rfl ?_
  refine w.icmpLe d12_20 d12_20t (fun _ => ?_) (fun q => absurd q u0)
  refine w.aloadN d12_26 rfl rfl ?_
  refine w.iloadN d12_27 rfl ?_
  refine w.iload d12_28 rfl ?_
  refine w.i2b d12_30 ?_
  refine w.stB 0 [(.int 0)] d12_31 Ad ⟨by decide, by decide⟩ (by decide) (pad_rep [] (.int 0) 1) (by simp) (fnb _) (List.mem_of_getElem? (i := 0) rfl) ?_
  intro T h1 w W0 A0
  rw [nbb] at A0 W0
  have Ad0 : Arv Z h1 d kd .byte (1 : Int32) [(.int (nar .byte c0))] (.int 0) := A0
  have Ab0 := Ab.other W0 nbd
  refine w.iinc (1 : Int32) #[.val (.ref b), .val (.int (1 : Int32)), .val (.ref d), .val (.int (0 : Int32)), .val (.int (1 : Int32)), .val (.int (0 : Int32)), .val (.int c0)] d12_32 rfl rfl rfl ?_
  refine w.iinc (1 : Int32) #[.val (.ref b), .val (.int (1 : Int32)), .val (.ref d), .val (.int (1 : Int32)), .val (.int (1 : Int32)), .val (.int (0 : Int32)), .val (.int c0)] d12_35 rfl rfl rfl ?_
  refine w.iinc (1 : Int32) #[.val (.ref b), .val (.int (1 : Int32)), .val (.ref d), .val (.int (1 : Int32)), .val (.int (1 : Int32)), .val (.int (1 : Int32)), .val (.int c0)] d12_38 rfl rfl rfl ?_
  refine w.goto d12_41 d12_41t ?_
  refine w.iload d12_3 rfl ?_
  refine w.iload d12_5 rfl ?_
  refine w.icmpGe d12_7 d12_7t (fun _ => ?_) (fun q => absurd q (by decide))
  refine w.iload d12_44 rfl ?_
  exact w.retI d12_46 rfl ⟨rfl, ((Keep.refl _ _).wr W0 (Or.inl (List.mem_singleton.mpr rfl))), Ad0⟩

theorem ef11_rii (m : MethodId) (x0 : Addr) (x1 : Int32) (x2 : Int32) : entryFrame m #[(.ref x0), (.int x1), (.int x2)] 6 = mkF m 0 #[.val (.ref x0), .val (.int x1), .val (.int x2), .unset, .unset, .unset] [] := by first | (simp [entryFrame, mkF, argsToLocals, Value.category]; done) | rfl
set_option maxRecDepth 65536 in
set_option maxHeartbeats 40000000 in
theorem rmC3_1 (l : Launch) (Z : State) (a0 : Array Value) (hw : ∀ d ∈ tables_1, d.before a0 Z = true) (b : Addr) (kb : ClassId) (c0 : Int32) (h0 : Heap) (hE : Ext Z.heap h0) (Ab : Arv Z h0 b kb .char (1 : Int32) [(.int c0)] (.int 0)) (u0 : ¬ 255 < c0) :
    Ct true l Z consts_1 (⟨"java/lang/StringUTF16", "compress", "([CII)[B"⟩ : MethodName) jdk_52_method_16_code 6 (some (.array .byte)) [] ({ frames := 1, cells := 1, slots := 1, locals := 18 } : Room) [] #[(.ref b), (.int (0 : Int32)), (.int (1 : Int32))] h0 (fun r u => ∃ d kd, r = some (.ref d) ∧ Ext h0 u ∧ h0.size ≤ d ∧ Arv Z u d kd .byte (1 : Int32) [(.int (nar .byte c0))] (.int 0)) := by
  refine Ct.intro pn_java_lang_StringUTF16 hE (fun m => ef11_rii m b _ _) nosf ⟨a0, own_EW hw⟩ ?_
  intro x T w
  refine w.iloadN d11_0 rfl ?_
  have sz0 := w.size
  refine w.newP 1 "[B" d11_1 (tw hw 27 rfl) (by decide) (by decide) (by decide) (by decide) ⟨by decide, by decide⟩ ?_
  intro d T h1 kd g_d w E_d A_d X_d
  have ge_d : Z.heap.size ≤ d := by rw [g_d]; exact sz0
  have nbd : b ≠ d := Nat.ne_of_lt (Nat.lt_of_lt_of_eq Ab.lt g_d.symm)
  refine w.astoreN #[.val (.ref b), .val (.int (0 : Int32)), .val (.int (1 : Int32)), .val (.ref d), .unset, .unset] d11_3 rfl rfl ?_
  refine w.aloadN d11_4 rfl rfl ?_
  refine w.iloadN d11_5 rfl ?_
  refine w.aloadN d11_6 rfl rfl ?_
  refine w.iconst (0 : Int32) d11_7 rfl ?_
  refine w.iloadN d11_8 rfl ?_
  refine w.callS (argsL := [(.ref b), (.int (0 : Int32)), (.ref d), (.int (0 : Int32)), (.int (1 : Int32))]) (rest := []) 0 d11_9 (tw hw 61 rfl) (tw hw 62 rfl) (tw hw 59 rfl) (tw hw 63 rfl) (by decide) (rmC5_1 l Z a0 hw b d kb kd c0 h1 w.old ge_d nbd (Ab.ext E_d) A_d u0) (lenOf pd_2 rfl) rfl rfl (Nat.le_refl _) ⟨by decide, by decide, by decide, by decide⟩ (allS (List.mem_of_getElem? (i := 0) rfl) all0) ?_
  intro T h2 r w _ hQ
  obtain ⟨rfl, K1, A1⟩ := hQ
  show Go x _ Z _ _ _ T 12 #[.val (.ref b), .val (.int (0 : Int32)), .val (.int (1 : Int32)), .val (.ref d), .unset, .unset] [(.int (1 : Int32))]
  refine w.istore #[.val (.ref b), .val (.int (0 : Int32)), .val (.int (1 : Int32)), .val (.ref d), .val (.int (1 : Int32)), .unset] d11_12 rfl ?_
  refine w.iload d11_14 rfl ?_
  refine w.iloadN d11_16 rfl ?_
  refine w.icmpEq d11_17 d11_17t (fun _ => ?_) (fun q => absurd rfl q)
  refine w.aloadN d11_57 rfl rfl ?_
  exact w.retA d11_58 rfl rfl rfl rfl ⟨d, kd, rfl, keep_to E_d K1 (allS (Nat.le_of_eq g_d.symm) all0), Nat.le_of_eq g_d.symm, A1⟩

theorem ef18_ri (m : MethodId) (x0 : Addr) (x1 : Int32) : entryFrame m #[(.ref x0), (.int x1)] 2 = mkF m 0 #[.val (.ref x0), .val (.int x1)] [] := by first | (simp [entryFrame, mkF, argsToLocals, Value.category]; done) | rfl
set_option maxRecDepth 65536 in
set_option maxHeartbeats 40000000 in
theorem rmCL_1_1 (l : Launch) (Z : State) (a0 : Array Value) (hw : ∀ d ∈ tables_1, d.before a0 Z = true) (d : Addr) (kd : ClassId) (vs : List Value) (h0 : Heap) (hE : Ext Z.heap h0) (Ad : Arv Z h0 d kd .byte (1 : Int32) vs (.int 0)) :
    Ct true l Z consts_1 (⟨"java/lang/StringUTF16", "coderFromArrayLen", "([BI)B"⟩ : MethodName) jdk_52_method_15_code 2 (some .byte) [] ({ frames := 0, cells := 0, slots := 0, locals := 0 } : Room) [] #[(.ref d), (.int (1 : Int32))] h0 (fun r u => r = some (.int (0 : Int32)) ∧ h0 = u) := by
  refine Ct.intro pn_java_lang_StringUTF16 hE (fun m => ef18_ri m d _) nosf ⟨a0, own_EW hw⟩ ?_
  intro x T w
  obtain ⟨cl, Ar, -, S, M, -, -⟩ := Ad
  refine w.iloadN d18_0 rfl ?_
  refine w.aloadN d18_1 rfl rfl ?_
  refine w.alen (1 : Int32) d18_2 Ar (len_of S M) ?_
  refine w.isub d18_3 ?_
  refine w.bipush (31 : Int32) d18_4 rfl ?_
  refine w.iushr d18_6 ?_
  refine w.i2b d18_7 ?_
  exact w.retN d18_8 rfl (by simp) ⟨rfl, rfl⟩

set_option maxRecDepth 65536 in
set_option maxHeartbeats 40000000 in
theorem rmS4_1 (l : Launch) (Z : State) (a0 : Array Value) (hw : ∀ d ∈ tables_1, d.before a0 Z = true) (hr : rest_1_c.value a0 Z none Z [] = some true) (a b : Addr) (kb : ClassId) (c0 : Int32) (h0 : Heap) (hE : Ext Z.heap h0) (ge_a : Z.heap.size ≤ a) (E0 : Exa Z h0 a "java/lang/String") (G1 : Fld Z h0 a "java/lang/String" "value" "[B" .null) (G2 : Fld Z h0 a "java/lang/String" "coder" "B" (.int (0 : Int32))) (Ab : Arv Z h0 b kb .char (1 : Int32) [(.int c0)] (.int 0)) (u0 : ¬ 255 < c0) :
    Ct true l Z consts_1 (⟨"java/lang/String", "<init>", "([CIILjava/lang/Void;)V"⟩ : MethodName) jdk_42_method_149_code 6 none [] ({ frames := 2, cells := 1, slots := 1, locals := 36 } : Room) [a] #[(.ref a), (.ref b), (.int (0 : Int32)), (.int (1 : Int32)), .null] h0 (fun r u => r = none ∧ Keep h0 u [a] ∧ ∃ t, h0.size ≤ t ∧ StrL Z u a t 0 [nar .byte c0]) := by
  refine Ct.intro pn_java_lang_String hE (fun m => ef4_rriin m a b _ _) (onesf ge_a E0.lt) ⟨a0, own_EW hw⟩ ?_
  intro x T w
  obtain ⟨cz, Scs, hcz⟩ := own_cs hr
  refine w.aloadN d4_0 rfl rfl ?_
  refine w.initO 0 d4_1 (tw hw 23 rfl) (tw hw 24 rfl) (tw hw 25 rfl) rfl (Nat.le_refl _) ⟨by decide, by decide⟩ ?_
  intro T w
  refine w.iloadN d4_4 rfl ?_
  refine w.ifNe d4_5 d4_5t (fun _ => ?_) (fun q => absurd q (by decide))
  refine w.getS d4_27 (tw hw 48 rfl) Scs ?_
  intro T w
  refine w.ifEq d4_30 d4_30t (fun q => absurd q hcz) (fun _ => ?_)
  refine w.aloadN d4_33 rfl rfl ?_
  refine w.iloadN d4_34 rfl ?_
  refine w.iloadN d4_35 rfl ?_
  refine w.callS (argsL := [(.ref b), (.int (0 : Int32)), (.int (1 : Int32))]) (rest := []) 0 d4_36 (tw hw 57 rfl) (tw hw 58 rfl) (tw hw 59 rfl) (tw hw 60 rfl) (by decide) (rmC3_1 l Z a0 hw b kb c0 h0 w.old Ab u0) (lenOf pd_3 rfl) rfl rfl (Nat.le_refl _) ⟨by decide, by decide, by decide, by decide⟩ all0 ?_
  intro T h1 r w _ hQ
  obtain ⟨d, kd, rfl, E1, gd, A1⟩ := hQ
  have ne_a_d : a ≠ d := Nat.ne_of_lt (Nat.lt_of_lt_of_le E0.lt gd)
  have F1 := E0.ext E1
  have F2 := G1.ext E1
  have F3 := G2.ext E1
  show Go x _ Z _ _ _ T 39 #[.val (.ref a), .val (.ref b), .val (.int (0 : Int32)), .val (.int (1 : Int32)), .val .null, .unset] [(.ref d)]
  refine w.astore #[.val (.ref a), .val (.ref b), .val (.int (0 : Int32)), .val (.int (1 : Int32)), .val .null, .val (.ref d)] d4_39 rfl rfl ?_
  refine w.aloadN d4_41 rfl rfl ?_
  refine w.aload d4_42 rfl rfl ?_
  refine w.iloadN d4_44 rfl ?_
  refine w.callS (argsL := [(.ref d), (.int (1 : Int32))]) (rest := [(.ref a)]) 1 d4_45 (tw hw 83 rfl) (tw hw 84 rfl) (tw hw 59 rfl) (tw hw 85 rfl) (by decide) (rmCL_1_1 l Z a0 hw d kd _ h1 w.old A1) (lenOf pd_4 rfl) rfl rfl (Nat.le_refl _) ⟨by decide, by decide, by decide, by decide⟩ all0 ?_
  intro T h2 r w _ hQ
  obtain ⟨rfl, rfl⟩ := hQ
  show Go x _ Z _ _ _ T 48 #[.val (.ref a), .val (.ref b), .val (.int (0 : Int32)), .val (.int (1 : Int32)), .val .null, .val (.ref d)] [(.int (0 : Int32)), (.ref a)]
  refine w.putF d4_48 (tw hw 33 rfl) F3 F1 (Or.inr ⟨(tw hw 29 rfl), rfl, rfl⟩) (tw hw 14 rfl) (ty := .byte) (by decide) rfl rfl (List.mem_of_getElem? (i := 0) rfl) ?_
  intro T h3 w W4
  have F5 := F1.wr W4
  have F6 := F2.other W4 (Or.inr (slot_ne (Or.inr (tw hw 28 rfl)) (Or.inr (tw hw 29 rfl)) (by decide) (t := (.array .byte)) (t' := .byte) (by decide) (by decide)))
  have F7 := F3.same W4
  have F8 := A1.other W4 (Ne.symm ne_a_d)
  refine w.aloadN d4_51 rfl rfl ?_
  refine w.aload d4_52 rfl rfl ?_
  refine w.putF d4_54 (tw hw 32 rfl) F6 F5 (Or.inr ⟨(tw hw 28 rfl), rfl, rfl⟩) (tw hw 14 rfl) (ty := (.array .byte)) (by decide) rfl rfl (List.mem_of_getElem? (i := 0) rfl) ?_
  intro T h4 w W9
  have F10 := F5.wr W9
  have F11 := F6.same W9
  have F12 := F7.other W9 (Or.inr (slot_ne (Or.inr (tw hw 29 rfl)) (Or.inr (tw hw 28 rfl)) (by decide) (t := .byte) (t' := (.array .byte)) (by decide) (by decide)))
  have F13 := F8.other W9 (Ne.symm ne_a_d)
  exact w.retV d4_57 rfl ⟨rfl, (((keep_ext E1).wr W4 (Or.inl (List.mem_singleton.mpr rfl))).wr W9 (Or.inl (List.mem_singleton.mpr rfl))), d, gd, F10, F11, F12, kd, F13, by simp⟩

theorem ef15_i (m : MethodId) (x0 : Int32) : entryFrame m #[(.int x0)] 1 = mkF m 0 #[.val (.int x0)] [] := by first | (simp [entryFrame, mkF, argsToLocals, Value.category]; done) | rfl
set_option maxRecDepth 65536 in
set_option maxHeartbeats 40000000 in
theorem rmNL_1 (l : Launch) (Z : State) (a0 : Array Value) (hw : ∀ d ∈ tables_1, d.before a0 Z = true) (h0 : Heap) (hE : Ext Z.heap h0) :
    Ct true l Z consts_1 (⟨"java/lang/StringUTF16", "newBytesLength", "(I)I"⟩ : MethodName) jdk_52_method_3_code 1 (some .int) [] ({ frames := 0, cells := 0, slots := 0, locals := 0 } : Room) [] #[(.int (1 : Int32))] h0 (fun r u => r = some (.int (2 : Int32)) ∧ h0 = u) := by
  refine Ct.intro pn_java_lang_StringUTF16 hE (fun m => ef15_i m _) nosf ⟨a0, own_EW hw⟩ ?_
  intro x T w
  refine w.iloadN d15_0 rfl ?_
  refine w.ifGe d15_1 d15_1t (fun _ => ?_) (fun q => absurd q (by decide))
  refine w.iloadN d15_12 rfl ?_
  refine w.ldcI d15_13 (tw hw 73 rfl) ?_
  refine w.icmpLt d15_15 d15_15t (fun _ => ?_) (fun q => absurd (by decide) q)
  refine w.iloadN d15_55 rfl ?_
  refine w.iconst (1 : Int32) d15_56 rfl ?_
  refine w.ishl d15_57 ?_
  exact w.retI d15_58 rfl ⟨rfl, rfl⟩

theorem ef14_i (m : MethodId) (x0 : Int32) : entryFrame m #[(.int x0)] 1 = mkF m 0 #[.val (.int x0)] [] := by first | (simp [entryFrame, mkF, argsToLocals, Value.category]; done) | rfl
set_option maxRecDepth 65536 in
set_option maxHeartbeats 40000000 in
theorem rmNF_1 (l : Launch) (Z : State) (a0 : Array Value) (hw : ∀ d ∈ tables_1, d.before a0 Z = true) (h0 : Heap) (hE : Ext Z.heap h0) :
    Ct true l Z consts_1 (⟨"java/lang/StringUTF16", "newBytesFor", "(I)[B"⟩ : MethodName) jdk_52_method_2_code 1 (some (.array .byte)) [] ({ frames := 1, cells := 1, slots := 2, locals := 12 } : Room) [] #[(.int (1 : Int32))] h0 (fun r u => ∃ d kd, r = some (.ref d) ∧ Ext h0 u ∧ h0.size ≤ d ∧ Arv Z u d kd .byte (2 : Int32) [] (.int 0)) := by
  refine Ct.intro pn_java_lang_StringUTF16 hE (fun m => ef14_i m _) nosf ⟨a0, own_EW hw⟩ ?_
  intro x T w
  refine w.iloadN d14_0 rfl ?_
  refine w.callS (argsL := [(.int (1 : Int32))]) (rest := []) 0 d14_1 (tw hw 70 rfl) (tw hw 71 rfl) (tw hw 59 rfl) (tw hw 72 rfl) (by decide) (rmNL_1 l Z a0 hw h0 w.old) (lenOf pd_5 rfl) rfl rfl (Nat.le_refl _) ⟨by decide, by decide, by decide, by decide⟩ all0 ?_
  intro T h1 r w _ hQ
  obtain ⟨rfl, rfl⟩ := hQ
  show Go x _ Z _ _ _ T 4 #[.val (.int (1 : Int32))] [(.int (2 : Int32))]
  have sz0 := w.size
  refine w.newP 2 "[B" d14_4 (tw hw 27 rfl) (by decide) (by decide) (by decide) (by decide) ⟨by decide, by decide⟩ ?_
  intro d T h2 kd g_d w E_d A_d X_d
  have ge_d : Z.heap.size ≤ d := by rw [g_d]; exact sz0
  exact w.retA d14_6 rfl rfl rfl rfl ⟨d, kd, rfl, E_d, Nat.le_of_eq g_d.symm, A_d⟩

theorem ef16_rii (m : MethodId) (x0 : Addr) (x1 : Int32) (x2 : Int32) : entryFrame m #[(.ref x0), (.int x1), (.int x2)] 3 = mkF m 0 #[.val (.ref x0), .val (.int x1), .val (.int x2)] [] := by first | (simp [entryFrame, mkF, argsToLocals, Value.category]; done) | rfl
set_option maxRecDepth 65536 in
set_option maxHeartbeats 40000000 in
theorem rmPu_1_0 (l : Launch) (Z : State) (a0 : Array Value) (hw : ∀ d ∈ tables_1, d.before a0 Z = true) (hr : rest_1_c.value a0 Z none Z [] = some true) (d : Addr) (kd : ClassId)  (c : Int32) (h0 : Heap) (hE : Ext Z.heap h0) (ge_d : Z.heap.size ≤ d) (A : Arv Z h0 d kd .byte (2 : Int32) [] (.int 0)) :
    Ct true l Z consts_1 (⟨"java/lang/StringUTF16", "putChar", "([BII)V"⟩ : MethodName) jdk_52_method_4_code 3 none [] ({ frames := 0, cells := 0, slots := 0, locals := 0 } : Room) [d] #[(.ref d), (.int (0 : Int32)), (.int c)] h0 (fun r u => r = none ∧ Keep h0 u [d] ∧ Arv Z u d kd .byte (2 : Int32) [(.int (nar .byte (c >>> ((0 : Int32) &&& 31)))), (.int (nar .byte (c >>> ((8 : Int32) &&& 31))))] (.int 0)) := by
  refine Ct.intro pn_java_lang_StringUTF16 hE (fun m => ef16_rii m d _ _) (onesf ge_d A.lt) ⟨a0, own_EW hw⟩ ?_
  intro x T w
  refine w.getS d16_0 (tw hw 77 rfl) (own_ad hr) ?_
  intro T w
  refine w.ifNe d16_3 d16_3t (fun _ => ?_) (fun q => absurd q (by decide))
  refine w.iloadN d16_28 rfl ?_
  refine w.iconst (1 : Int32) d16_29 rfl ?_
  refine w.ishl d16_30 ?_
  refine w.istoreN #[.val (.ref d), .val (.int ((0 : Int32) <<< ((1 : Int32) &&& 31))), .val (.int c)] d16_31 rfl ?_
  refine w.aloadN d16_32 rfl rfl ?_
  refine w.iloadN d16_33 rfl ?_
  refine w.iinc (1 : Int32) #[.val (.ref d), .val (.int (((0 : Int32) <<< ((1 : Int32) &&& 31)) + (1 : Int32))), .val (.int c)] d16_34 rfl rfl rfl ?_
  refine w.iloadN d16_37 rfl ?_
  refine w.getS d16_38 (tw hw 78 rfl) (own_hi hr) ?_
  intro T w
  refine w.ishr d16_41 ?_
  refine w.i2b d16_42 ?_
  refine w.stB 0 [(.int 0)] d16_43 A ⟨by decide, by decide⟩ (by decide) (pad_rep [] (.int 0) 1) (by simp) (fnb _) (List.mem_of_getElem? (i := 0) rfl) ?_
  intro T h1 w W0 B0
  rw [nbb] at B0 W0
  have C0 : Arv Z h1 d kd .byte (2 : Int32) [(.int (nar .byte (c >>> ((0 : Int32) &&& 31))))] (.int 0) := B0
  refine w.aloadN d16_44 rfl rfl ?_
  refine w.iloadN d16_45 rfl ?_
  refine w.iloadN d16_46 rfl ?_
  refine w.getS d16_47 (tw hw 79 rfl) (own_lo hr) ?_
  intro T w
  refine w.ishr d16_50 ?_
  refine w.i2b d16_51 ?_
  refine w.stB 1 [(.int (nar .byte (c >>> ((0 : Int32) &&& 31)))), (.int 0)] d16_52 C0 ⟨by decide, by decide⟩ (by decide) (pad_rep [(.int (nar .byte (c >>> ((0 : Int32) &&& 31))))] (.int 0) 1) (by simp) (fnb _) (List.mem_of_getElem? (i := 0) rfl) ?_
  intro T h2 w W1 B1
  rw [nbb] at B1 W1
  have C1 : Arv Z h2 d kd .byte (2 : Int32) [(.int (nar .byte (c >>> ((0 : Int32) &&& 31)))), (.int (nar .byte (c >>> ((8 : Int32) &&& 31))))] (.int 0) := B1
  exact w.retV d16_53 rfl ⟨rfl, (((Keep.refl _ _).wr W0 (Or.inl (List.mem_singleton.mpr rfl))).wr W1 (Or.inl (List.mem_singleton.mpr rfl))), C1⟩

theorem ef13_rii (m : MethodId) (x0 : Addr) (x1 : Int32) (x2 : Int32) : entryFrame m #[(.ref x0), (.int x1), (.int x2)] 5 = mkF m 0 #[.val (.ref x0), .val (.int x1), .val (.int x2), .unset, .unset] [] := by first | (simp [entryFrame, mkF, argsToLocals, Value.category]; done) | rfl
set_option maxRecDepth 65536 in
set_option maxHeartbeats 40000000 in
theorem rmTo_1 (l : Launch) (Z : State) (a0 : Array Value) (hw : ∀ d ∈ tables_1, d.before a0 Z = true) (hr : rest_1_c.value a0 Z none Z [] = some true) (b : Addr) (kb : ClassId) (c0 : Int32) (h0 : Heap) (hE : Ext Z.heap h0) (Ab : Arv Z h0 b kb .char (1 : Int32) [(.int c0)] (.int 0)) :
    Ct true l Z consts_1 (⟨"java/lang/StringUTF16", "toBytes", "([CII)[B"⟩ : MethodName) jdk_52_method_14_code 5 (some (.array .byte)) [] ({ frames := 2, cells := 1, slots := 2, locals := 24 } : Room) [] #[(.ref b), (.int (0 : Int32)), (.int (1 : Int32))] h0 (fun r u => ∃ d kd, r = some (.ref d) ∧ Ext h0 u ∧ h0.size ≤ d ∧ Arv Z u d kd .byte (2 : Int32) [(.int (nar .byte (c0 >>> ((0 : Int32) &&& 31)))), (.int (nar .byte (c0 >>> ((8 : Int32) &&& 31))))] (.int 0)) := by
  refine Ct.intro pn_java_lang_StringUTF16 hE (fun m => ef13_rii m b _ _) nosf ⟨a0, own_EW hw⟩ ?_
  intro x T w
  refine w.iloadN d13_0 rfl ?_
  refine w.callS (argsL := [(.int (1 : Int32))]) (rest := []) 0 d13_1 (tw hw 67 rfl) (tw hw 68 rfl) (tw hw 59 rfl) (tw hw 69 rfl) (by decide) (rmNF_1 l Z a0 hw h0 w.old) (lenOf pd_6 rfl) rfl rfl (Nat.le_refl _) ⟨by decide, by decide, by decide, by decide⟩ all0 ?_
  intro T h1 r w _ hQ
  obtain ⟨d, kd, rfl, E1, gd, A0⟩ := hQ
  have ge_d : Z.heap.size ≤ d := Nat.le_trans hE.1 gd
  have w := w.adopt ge_d A0.lt (fun vm hZ => own_safe hw hZ A0 (by decide))
  have nbd : b ≠ d := Nat.ne_of_lt (Nat.lt_of_lt_of_le Ab.lt gd)
  have Ab := Ab.ext E1
  show Go x _ Z _ _ _ T 4 #[.val (.ref b), .val (.int (0 : Int32)), .val (.int (1 : Int32)), .unset, .unset] [(.ref d)]
  refine w.astoreN #[.val (.ref b), .val (.int (0 : Int32)), .val (.int (1 : Int32)), .val (.ref d), .unset] d13_4 rfl rfl ?_
  refine w.iconst (0 : Int32) d13_5 rfl ?_
  refine w.istore #[.val (.ref b), .val (.int (0 : Int32)), .val (.int (1 : Int32)), .val (.ref d), .val (.int (0 : Int32))] d13_6 rfl ?_
  refine w.iload d13_8 rfl ?_
  refine w.iloadN d13_10 rfl ?_
  refine w.icmpGe d13_11 d13_11t (fun q => absurd (by decide) q) (fun _ => ?_)
  refine w.aloadN d13_14 rfl rfl ?_
  refine w.iload d13_15 rfl ?_
  refine w.aloadN d13_17 rfl rfl ?_
  refine w.iloadN d13_18 rfl ?_
  obtain ⟨cl0, Ar0, -, S0, -, H0, -⟩ := id Ab
  refine w.caload d13_19 Ar0 (inb_of S0 (by decide)) (H0.at (inb_of S0 (by decide)) rfl) ?_
  refine w.callS (argsL := [(.ref d), (.int (0 : Int32)), (.int c0)]) (rest := []) 0 d13_20 (tw hw 74 rfl) (tw hw 75 rfl) (tw hw 59 rfl) (tw hw 76 rfl) (by decide) (rmPu_1_0 l Z a0 hw hr d kd  c0 h1 w.old ge_d A0) (lenOf pd_7 rfl) rfl rfl (Nat.le_refl _) ⟨by decide, by decide, by decide, by decide⟩ (allS (List.mem_of_getElem? (i := 0) rfl) all0) ?_
  intro T h2 r w _ hQ
  obtain ⟨rfl, K0, A1⟩ := hQ
  have Ab := Ab.keep K0 (ninS nbd nin0)
  show Go x _ Z _ _ _ T 23 #[.val (.ref b), .val (.int (0 : Int32)), .val (.int (1 : Int32)), .val (.ref d), .val (.int (0 : Int32))] []
  refine w.iinc (1 : Int32) #[.val (.ref b), .val (.int (1 : Int32)), .val (.int (1 : Int32)), .val (.ref d), .val (.int (0 : Int32))] d13_23 rfl rfl rfl ?_
  refine w.iinc (1 : Int32) #[.val (.ref b), .val (.int (1 : Int32)), .val (.int (1 : Int32)), .val (.ref d), .val (.int (1 : Int32))] d13_26 rfl rfl rfl ?_
  refine w.goto d13_29 d13_29t ?_
  refine w.iload d13_8 rfl ?_
  refine w.iloadN d13_10 rfl ?_
  refine w.icmpGe d13_11 d13_11t (fun _ => ?_) (fun q => absurd q (by decide))
  refine w.aloadN d13_32 rfl rfl ?_
  exact w.retA d13_33 rfl rfl rfl rfl ⟨d, kd, rfl, keep_to E1 K0 (allS gd all0), gd, A1⟩

set_option maxRecDepth 65536 in
set_option maxHeartbeats 40000000 in
theorem rmC5x_1_0 (l : Launch) (Z : State) (a0 : Array Value) (hw : ∀ d ∈ tables_1, d.before a0 Z = true) (b d : Addr) (kb kd : ClassId) (c0 : Int32) (h0 : Heap) (hE : Ext Z.heap h0) (ge_d : Z.heap.size ≤ d) (nbd : b ≠ d) (Ab : Arv Z h0 b kb .char (1 : Int32) [(.int c0)] (.int 0)) (Ad : Arv Z h0 d kd .byte (1 : Int32) [] (.int 0))  (gp : 255 < c0) :
    Ct true l Z consts_1 (⟨"java/lang/StringUTF16", "compress", "([CI[BII)I"⟩ : MethodName) jdk_52_method_21_code 7 (some .int) [] ({ frames := 0, cells := 0, slots := 0, locals := 0 } : Room) [d] #[(.ref b), (.int (0 : Int32)), (.ref d), (.int (0 : Int32)), (.int (1 : Int32))] h0 (fun r u => r = some (.int (0 : Int32)) ∧ Keep h0 u [d]) := by
  refine Ct.intro pn_java_lang_StringUTF16 hE (fun m => ef12_ririi m b _ d _ _) (onesf ge_d Ad.lt) ⟨a0, own_EW hw⟩ ?_
  intro x T w
  refine w.iconst (0 : Int32) d12_0 rfl ?_
  refine w.istore #[.val (.ref b), .val (.int (0 : Int32)), .val (.ref d), .val (.int (0 : Int32)), .val (.int (1 : Int32)), .val (.int (0 : Int32)), .unset] d12_1 rfl ?_
  refine w.iload d12_3 rfl ?_
  refine w.iload d12_5 rfl ?_
  refine w.icmpGe d12_7 d12_7t (fun q => absurd (by decide) q) (fun _ => ?_)
  refine w.aloadN d12_10 rfl rfl ?_
  refine w.iloadN d12_11 rfl ?_
  obtain ⟨cl0, Ar0, -, S0, -, H0, -⟩ := id Ab
  refine w.caload d12_12 Ar0 (inb_of S0 (by decide)) (H0.at (inb_of S0 (by decide)) rfl) ?_
  refine w.istore #[.val (.ref b), .val (.int (0 : Int32)), .val (.ref d), .val (.int (0 : Int32)), .val (.int (1 : Int32)), .val (.int (0 : Int32)), .val (.int c0)] d12_13 rfl ?_
  refine w.iload d12_15 rfl ?_
  refine w.sipush (255 : Int32) d12_17 rfl ?_
  refine w.icmpLe d12_20 d12_20t (fun q => absurd gp q) (fun _ => ?_)
  refine w.iload d12_23 rfl ?_
  exact w.retI d12_25 rfl ⟨rfl, (Keep.refl _ _)⟩

theorem ef17_ri (m : MethodId) (x0 : Addr) (x1 : Int32) : entryFrame m #[(.ref x0), (.int x1)] 2 = mkF m 0 #[.val (.ref x0), .val (.int x1)] [] := by first | (simp [entryFrame, mkF, argsToLocals, Value.category]; done) | rfl
set_option maxRecDepth 65536 in
set_option maxHeartbeats 40000000 in
theorem rmGe_1_0 (l : Launch) (Z : State) (a0 : Array Value) (hw : ∀ d ∈ tables_1, d.before a0 Z = true) (hr : rest_1_c.value a0 Z none Z [] = some true) (t : Addr) (kb : ClassId) (c0 : Int32) (h0 : Heap) (hE : Ext Z.heap h0) (A : Arv Z h0 t kb .byte (2 : Int32) [(.int (nar .byte (c0 >>> ((0 : Int32) &&& 31)))), (.int (nar .byte (c0 >>> ((8 : Int32) &&& 31))))] (.int 0)) (z : 0 ≤ c0.toInt) (v : c0.toInt < 65536) :
    Ct true l Z consts_1 (⟨"java/lang/StringUTF16", "getChar", "([BI)C"⟩ : MethodName) jdk_52_method_5_code 2 (some .char) [] ({ frames := 0, cells := 0, slots := 0, locals := 0 } : Room) [] #[(.ref t), (.int (0 : Int32))] h0 (fun r u => r = some (.int c0) ∧ h0 = u) := by
  refine Ct.intro pn_java_lang_StringUTF16 hE (fun m => ef17_ri m t _) nosf ⟨a0, own_EW hw⟩ ?_
  intro x T w
  obtain ⟨cl, Ar, -, S, M, H, -⟩ := id A
  refine w.getS d17_0 (tw hw 77 rfl) (own_ad hr) ?_
  intro T w
  refine w.ifNe d17_3 d17_3t (fun _ => ?_) (fun q => absurd q (by decide))
  refine w.iloadN d17_28 rfl ?_
  refine w.iconst (1 : Int32) d17_29 rfl ?_
  refine w.ishl d17_30 ?_
  refine w.istoreN #[.val (.ref t), .val (.int ((0 : Int32) <<< ((1 : Int32) &&& 31)))] d17_31 rfl ?_
  refine w.aloadN d17_32 rfl rfl ?_
  refine w.iloadN d17_33 rfl ?_
  refine w.iinc (1 : Int32) #[.val (.ref t), .val (.int (((0 : Int32) <<< ((1 : Int32) &&& 31)) + (1 : Int32)))] d17_34 rfl rfl rfl ?_
  refine w.baload (v := .int (nar .byte (c0 >>> ((0 : Int32) &&& 31)))) d17_37 Ar (inb_of S (by decide)) (H.at (inb_of S (by decide)) (by rw [show (((0 : Int32) <<< ((1 : Int32) &&& 31))).toNatClampNeg = 0 by decide]; rfl)) ?_
  refine w.sipush (255 : Int32) d17_38 rfl ?_
  refine w.iand d17_41 ?_
  refine w.getS d17_42 (tw hw 78 rfl) (own_hi hr) ?_
  intro T w
  refine w.ishl d17_45 ?_
  refine w.aloadN d17_46 rfl rfl ?_
  refine w.iloadN d17_47 rfl ?_
  refine w.baload (v := .int (nar .byte (c0 >>> ((8 : Int32) &&& 31)))) d17_48 Ar (inb_of S (by decide)) (H.at (inb_of S (by decide)) (by rw [show ((((0 : Int32) <<< ((1 : Int32) &&& 31)) + (1 : Int32))).toNatClampNeg = 1 by decide]; rfl)) ?_
  refine w.sipush (255 : Int32) d17_49 rfl ?_
  refine w.iand d17_52 ?_
  refine w.getS d17_53 (tw hw 79 rfl) (own_lo hr) ?_
  intro T w
  refine w.ishl d17_56 ?_
  refine w.ior d17_57 ?_
  refine w.i2c d17_58 ?_
  exact w.retN d17_59 rfl (by simp) ⟨by rw [ncc, own_gc z v], rfl⟩

set_option maxRecDepth 65536 in
set_option maxHeartbeats 40000000 in
theorem rmC3x_1_0 (l : Launch) (Z : State) (a0 : Array Value) (hw : ∀ d ∈ tables_1, d.before a0 Z = true) (hr : rest_1_c.value a0 Z none Z [] = some true) (b : Addr) (kb : ClassId) (c0 : Int32) (h0 : Heap) (hE : Ext Z.heap h0) (Ab : Arv Z h0 b kb .char (1 : Int32) [(.int c0)] (.int 0)) (z0 : 0 ≤ c0.toInt) (v0 : c0.toInt < 65536)  (gp : 255 < c0) :
    Ct true l Z consts_1 (⟨"java/lang/StringUTF16", "compress", "([CII)[B"⟩ : MethodName) jdk_52_method_16_code 6 (some (.array .byte)) [] ({ frames := 3, cells := 2, slots := 3, locals := 40 } : Room) [] #[(.ref b), (.int (0 : Int32)), (.int (1 : Int32))] h0 (fun r u => ∃ d kd, r = some (.ref d) ∧ Ext h0 u ∧ h0.size ≤ d ∧ Arv Z u d kd .byte (2 : Int32) [(.int (nar .byte (c0 >>> ((0 : Int32) &&& 31)))), (.int (nar .byte (c0 >>> ((8 : Int32) &&& 31))))] (.int 0)) := by
  refine Ct.intro pn_java_lang_StringUTF16 hE (fun m => ef11_rii m b _ _) nosf ⟨a0, own_EW hw⟩ ?_
  intro x T w
  refine w.iloadN d11_0 rfl ?_
  have sz0 := w.size
  refine w.newP 1 "[B" d11_1 (tw hw 27 rfl) (by decide) (by decide) (by decide) (by decide) ⟨by decide, by decide⟩ ?_
  intro d T h1 kd g_d w E_d A_d X_d
  have ge_d : Z.heap.size ≤ d := by rw [g_d]; exact sz0
  have nbd : b ≠ d := Nat.ne_of_lt (Nat.lt_of_lt_of_eq Ab.lt g_d.symm)
  refine w.astoreN #[.val (.ref b), .val (.int (0 : Int32)), .val (.int (1 : Int32)), .val (.ref d), .unset, .unset] d11_3 rfl rfl ?_
  refine w.aloadN d11_4 rfl rfl ?_
  refine w.iloadN d11_5 rfl ?_
  refine w.aloadN d11_6 rfl rfl ?_
  refine w.iconst (0 : Int32) d11_7 rfl ?_
  refine w.iloadN d11_8 rfl ?_
  refine w.callS (argsL := [(.ref b), (.int (0 : Int32)), (.ref d), (.int (0 : Int32)), (.int (1 : Int32))]) (rest := []) 0 d11_9 (tw hw 61 rfl) (tw hw 62 rfl) (tw hw 59 rfl) (tw hw 63 rfl) (by decide) (rmC5x_1_0 l Z a0 hw b d kb kd c0 h1 w.old ge_d nbd (Ab.ext E_d) A_d  gp) (lenOf pd_2 rfl) rfl rfl (Nat.le_refl _) ⟨by decide, by decide, by decide, by decide⟩ (allS (List.mem_of_getElem? (i := 0) rfl) all0) ?_
  intro T h2 r w _ hQ
  obtain ⟨rfl, K1⟩ := hQ
  have E2 := keep_to E_d K1 (allS (Nat.le_of_eq g_d.symm) all0)
  have Ab := Ab.ext E2
  show Go x _ Z _ _ _ T 12 #[.val (.ref b), .val (.int (0 : Int32)), .val (.int (1 : Int32)), .val (.ref d), .unset, .unset] [(.int (0 : Int32))]
  refine w.istore #[.val (.ref b), .val (.int (0 : Int32)), .val (.int (1 : Int32)), .val (.ref d), .val (.int (0 : Int32)), .unset] d11_12 rfl ?_
  refine w.iload d11_14 rfl ?_
  refine w.iloadN d11_16 rfl ?_
  refine w.icmpEq d11_17 d11_17t (fun q => absurd q (by decide)) (fun _ => ?_)
  refine w.aloadN d11_20 rfl rfl ?_
  refine w.iloadN d11_21 rfl ?_
  refine w.iloadN d11_22 rfl ?_
  refine w.callS (argsL := [(.ref b), (.int (0 : Int32)), (.int (1 : Int32))]) (rest := []) 0 d11_23 (tw hw 64 rfl) (tw hw 65 rfl) (tw hw 59 rfl) (tw hw 66 rfl) (by decide) (rmTo_1 l Z a0 hw hr b kb c0 h2 w.old Ab) (lenOf pd_3 rfl) rfl rfl (Nat.le_refl _) ⟨by decide, by decide, by decide, by decide⟩ all0 ?_
  intro T h3 r w _ hQ
  obtain ⟨e, ke, rfl, E3, ge, Ae⟩ := hQ
  show Go x _ Z _ _ _ T 26 #[.val (.ref b), .val (.int (0 : Int32)), .val (.int (1 : Int32)), .val (.ref d), .val (.int (0 : Int32)), .unset] [(.ref e)]
  refine w.astore #[.val (.ref b), .val (.int (0 : Int32)), .val (.int (1 : Int32)), .val (.ref d), .val (.int (0 : Int32)), .val (.ref e)] d11_26 rfl rfl ?_
  refine w.aload d11_28 rfl rfl ?_
  refine w.iload d11_30 rfl ?_
  refine w.callS (argsL := [(.ref e), (.int (0 : Int32))]) (rest := []) 0 d11_32 (tw hw 80 rfl) (tw hw 81 rfl) (tw hw 59 rfl) (tw hw 82 rfl) (by decide) (rmGe_1_0 l Z a0 hw hr e ke c0 h3 w.old Ae z0 v0) (lenOf pd_8 rfl) rfl rfl (Nat.le_refl _) ⟨by decide, by decide, by decide, by decide⟩ all0 ?_
  intro T h4 r w _ hQ
  obtain ⟨rfl, rfl⟩ := hQ
  show Go x _ Z _ _ _ T 35 #[.val (.ref b), .val (.int (0 : Int32)), .val (.int (1 : Int32)), .val (.ref d), .val (.int (0 : Int32)), .val (.ref e)] [(.int c0)]
  refine w.sipush (255 : Int32) d11_35 rfl ?_
  refine w.icmpGt d11_38 d11_38t (fun _ => ?_) (fun q => absurd gp q)
  refine w.aload d11_54 rfl rfl ?_
  exact w.retA d11_56 rfl rfl rfl rfl ⟨e, ke, rfl, ext_trans E2 E3, Nat.le_trans E2.1 ge, Ae⟩

theorem rmC3U_1 (l : Launch) (Z : State) (a0 : Array Value) (hw : ∀ d ∈ tables_1, d.before a0 Z = true) (hr : rest_1_c.value a0 Z none Z [] = some true) (b : Addr) (kb : ClassId) (c0 : Int32) (h0 : Heap) (hE : Ext Z.heap h0) (Ab : Arv Z h0 b kb .char (1 : Int32) [(.int c0)] (.int 0)) (z0 : 0 ≤ c0.toInt) (v0 : c0.toInt < 65536) (hx : ¬ (¬ 255 < c0 ∧ True)) : Ct true l Z consts_1 (⟨"java/lang/StringUTF16", "compress", "([CII)[B"⟩ : MethodName) jdk_52_method_16_code 6 (some (.array .byte)) [] ({ frames := 3, cells := 2, slots := 3, locals := 40 } : Room) [] #[(.ref b), (.int (0 : Int32)), (.int (1 : Int32))] h0 (fun r u => ∃ d kd, r = some (.ref d) ∧ Ext h0 u ∧ h0.size ≤ d ∧ Arv Z u d kd .byte (2 : Int32) [(.int (nar .byte (c0 >>> ((0 : Int32) &&& 31)))), (.int (nar .byte (c0 >>> ((8 : Int32) &&& 31))))] (.int 0)) := by
  by_cases u0 : 255 < c0
  · exact rmC3x_1_0 l Z a0 hw hr b kb c0 h0 hE Ab z0 v0  u0
  · exact absurd ⟨u0, trivial⟩ hx
set_option maxRecDepth 65536 in
set_option maxHeartbeats 40000000 in
theorem rmCL_2_1 (l : Launch) (Z : State) (a0 : Array Value) (hw : ∀ d ∈ tables_1, d.before a0 Z = true) (d : Addr) (kd : ClassId) (vs : List Value) (h0 : Heap) (hE : Ext Z.heap h0) (Ad : Arv Z h0 d kd .byte (2 : Int32) vs (.int 0)) :
    Ct true l Z consts_1 (⟨"java/lang/StringUTF16", "coderFromArrayLen", "([BI)B"⟩ : MethodName) jdk_52_method_15_code 2 (some .byte) [] ({ frames := 0, cells := 0, slots := 0, locals := 0 } : Room) [] #[(.ref d), (.int (1 : Int32))] h0 (fun r u => r = some (.int (1 : Int32)) ∧ h0 = u) := by
  refine Ct.intro pn_java_lang_StringUTF16 hE (fun m => ef18_ri m d _) nosf ⟨a0, own_EW hw⟩ ?_
  intro x T w
  obtain ⟨cl, Ar, -, S, M, -, -⟩ := Ad
  refine w.iloadN d18_0 rfl ?_
  refine w.aloadN d18_1 rfl rfl ?_
  refine w.alen (2 : Int32) d18_2 Ar (len_of S M) ?_
  refine w.isub d18_3 ?_
  refine w.bipush (31 : Int32) d18_4 rfl ?_
  refine w.iushr d18_6 ?_
  refine w.i2b d18_7 ?_
  exact w.retN d18_8 rfl (by simp) ⟨rfl, rfl⟩

set_option maxRecDepth 65536 in
set_option maxHeartbeats 40000000 in
theorem rmS4u_1 (l : Launch) (Z : State) (a0 : Array Value) (hw : ∀ d ∈ tables_1, d.before a0 Z = true) (hr : rest_1_c.value a0 Z none Z [] = some true) (a b : Addr) (kb : ClassId) (c0 : Int32) (h0 : Heap) (hE : Ext Z.heap h0) (ge_a : Z.heap.size ≤ a) (E0 : Exa Z h0 a "java/lang/String") (G1 : Fld Z h0 a "java/lang/String" "value" "[B" .null) (G2 : Fld Z h0 a "java/lang/String" "coder" "B" (.int (0 : Int32))) (Ab : Arv Z h0 b kb .char (1 : Int32) [(.int c0)] (.int 0)) (z0 : 0 ≤ c0.toInt) (v0 : c0.toInt < 65536) (hx : ¬ (¬ 255 < c0 ∧ True)) :
    Ct true l Z consts_1 (⟨"java/lang/String", "<init>", "([CIILjava/lang/Void;)V"⟩ : MethodName) jdk_42_method_149_code 6 none [] ({ frames := 4, cells := 2, slots := 3, locals := 57 } : Room) [a] #[(.ref a), (.ref b), (.int (0 : Int32)), (.int (1 : Int32)), .null] h0 (fun r u => r = none ∧ Keep h0 u [a] ∧ ∃ t, StrL Z u a t 1 [nar .byte (c0 >>> ((0 : Int32) &&& 31)), nar .byte (c0 >>> ((8 : Int32) &&& 31))]) := by
  refine Ct.intro pn_java_lang_String hE (fun m => ef4_rriin m a b _ _) (onesf ge_a E0.lt) ⟨a0, own_EW hw⟩ ?_
  intro x T w
  obtain ⟨cz, Scs, hcz⟩ := own_cs hr
  refine w.aloadN d4_0 rfl rfl ?_
  refine w.initO 0 d4_1 (tw hw 23 rfl) (tw hw 24 rfl) (tw hw 25 rfl) rfl (Nat.le_refl _) ⟨by decide, by decide⟩ ?_
  intro T w
  refine w.iloadN d4_4 rfl ?_
  refine w.ifNe d4_5 d4_5t (fun _ => ?_) (fun q => absurd q (by decide))
  refine w.getS d4_27 (tw hw 48 rfl) Scs ?_
  intro T w
  refine w.ifEq d4_30 d4_30t (fun q => absurd q hcz) (fun _ => ?_)
  refine w.aloadN d4_33 rfl rfl ?_
  refine w.iloadN d4_34 rfl ?_
  refine w.iloadN d4_35 rfl ?_
  refine w.callS (argsL := [(.ref b), (.int (0 : Int32)), (.int (1 : Int32))]) (rest := []) 0 d4_36 (tw hw 57 rfl) (tw hw 58 rfl) (tw hw 59 rfl) (tw hw 60 rfl) (by decide) (rmC3U_1 l Z a0 hw hr b kb c0 h0 w.old Ab z0 v0 hx) (lenOf pd_3 rfl) rfl rfl (Nat.le_refl _) ⟨by decide, by decide, by decide, by decide⟩ all0 ?_
  intro T h1 r w _ hQ
  obtain ⟨d, kd, rfl, E1, gd, A1⟩ := hQ
  have ne_a_d : a ≠ d := Nat.ne_of_lt (Nat.lt_of_lt_of_le E0.lt gd)
  have F1 := E0.ext E1
  have F2 := G1.ext E1
  have F3 := G2.ext E1
  show Go x _ Z _ _ _ T 39 #[.val (.ref a), .val (.ref b), .val (.int (0 : Int32)), .val (.int (1 : Int32)), .val .null, .unset] [(.ref d)]
  refine w.astore #[.val (.ref a), .val (.ref b), .val (.int (0 : Int32)), .val (.int (1 : Int32)), .val .null, .val (.ref d)] d4_39 rfl rfl ?_
  refine w.aloadN d4_41 rfl rfl ?_
  refine w.aload d4_42 rfl rfl ?_
  refine w.iloadN d4_44 rfl ?_
  refine w.callS (argsL := [(.ref d), (.int (1 : Int32))]) (rest := [(.ref a)]) 1 d4_45 (tw hw 83 rfl) (tw hw 84 rfl) (tw hw 59 rfl) (tw hw 85 rfl) (by decide) (rmCL_2_1 l Z a0 hw d kd _ h1 w.old A1) (lenOf pd_4 rfl) rfl rfl (Nat.le_refl _) ⟨by decide, by decide, by decide, by decide⟩ all0 ?_
  intro T h2 r w _ hQ
  obtain ⟨rfl, rfl⟩ := hQ
  show Go x _ Z _ _ _ T 48 #[.val (.ref a), .val (.ref b), .val (.int (0 : Int32)), .val (.int (1 : Int32)), .val .null, .val (.ref d)] [(.int (1 : Int32)), (.ref a)]
  refine w.putF d4_48 (tw hw 33 rfl) F3 F1 (Or.inr ⟨(tw hw 29 rfl), rfl, rfl⟩) (tw hw 14 rfl) (ty := .byte) (by decide) rfl rfl (List.mem_of_getElem? (i := 0) rfl) ?_
  intro T h3 w W4
  have F5 := F1.wr W4
  have F6 := F2.other W4 (Or.inr (slot_ne (Or.inr (tw hw 28 rfl)) (Or.inr (tw hw 29 rfl)) (by decide) (t := (.array .byte)) (t' := .byte) (by decide) (by decide)))
  have F7 := F3.same W4
  have F8 := A1.other W4 (Ne.symm ne_a_d)
  refine w.aloadN d4_51 rfl rfl ?_
  refine w.aload d4_52 rfl rfl ?_
  refine w.putF d4_54 (tw hw 32 rfl) F6 F5 (Or.inr ⟨(tw hw 28 rfl), rfl, rfl⟩) (tw hw 14 rfl) (ty := (.array .byte)) (by decide) rfl rfl (List.mem_of_getElem? (i := 0) rfl) ?_
  intro T h4 w W9
  have F10 := F5.wr W9
  have F11 := F6.same W9
  have F12 := F7.other W9 (Or.inr (slot_ne (Or.inr (tw hw 29 rfl)) (Or.inr (tw hw 28 rfl)) (by decide) (t := .byte) (t' := (.array .byte)) (by decide) (by decide)))
  have F13 := F8.other W9 (Ne.symm ne_a_d)
  exact w.retV d4_57 rfl ⟨rfl, (((keep_ext E1).wr W4 (Or.inl (List.mem_singleton.mpr rfl))).wr W9 (Or.inl (List.mem_singleton.mpr rfl))), d, F10, F11, F12, kd, F13, by simp⟩

set_option maxRecDepth 65536 in
set_option maxHeartbeats 40000000 in
theorem rmS1E_1 (l : Launch) (Z : State) (a0 : Array Value) (hw : ∀ d ∈ tables_1, d.before a0 Z = true) (hr : rest_1_c.value a0 Z none Z [] = some true) (a b : Addr) (kb : ClassId) (c0 : Int32) (h0 : Heap) (hE : Ext Z.heap h0) (ge_a : Z.heap.size ≤ a) (E0 : Exa Z h0 a "java/lang/String") (G1 : Fld Z h0 a "java/lang/String" "value" "[B" .null) (G2 : Fld Z h0 a "java/lang/String" "coder" "B" (.int (0 : Int32))) (Ab : Arv Z h0 b kb .char (1 : Int32) [(.int c0)] (.int 0)) (z0 : 0 ≤ c0.toInt) (v0 : c0.toInt < 65536) :
    Ct true l Z consts_1 (⟨"java/lang/String", "<init>", "([C)V"⟩ : MethodName) jdk_42_method_3_code 2 none [] ({ frames := 5, cells := 2, slots := 3, locals := 74 } : Room) [a] #[(.ref a), (.ref b)] h0 (fun r u => r = none ∧ Keep h0 u [a] ∧ ∃ t, ((StrL Z u a t 0 [nar .byte c0] ∧ (¬ 255 < c0 ∧ True)) ∨ StrL Z u a t 1 [nar .byte (c0 >>> ((0 : Int32) &&& 31)), nar .byte (c0 >>> ((8 : Int32) &&& 31))])) := by
  refine Ct.intro pn_java_lang_String hE (fun m => ef3_rr m a b) (onesf ge_a E0.lt) ⟨a0, own_EW hw⟩ ?_
  intro x T w
  obtain ⟨cl, Ar, -, S, M, -, -⟩ := id Ab
  by_cases hx : (¬ 255 < c0 ∧ True)
  · refine w.aloadN d3_0 rfl rfl ?_
    refine w.aloadN d3_1 rfl rfl ?_
    refine w.iconst (0 : Int32) d3_2 rfl ?_
    refine w.aloadN d3_3 rfl rfl ?_
    refine w.alen (1 : Int32) d3_4 Ar (len_of S M) ?_
    refine w.aconstNull d3_5 ?_
    refine w.callI (argsL := [(.ref b), (.int (0 : Int32)), (.int (1 : Int32)), .null]) (rest := []) 0 d3_6 rfl (tw hw 19 rfl) (tw hw 20 rfl) (tw hw 15 rfl) (tw hw 22 rfl) (by decide) (rmS4_1 l Z a0 hw hr a b kb c0 h0 w.old ge_a E0 G1 G2 Ab hx.1) (lenOf pd_0 rfl) rfl rfl (Nat.le_refl _) ⟨by decide, by decide, by decide, by decide⟩ (allS (List.mem_of_getElem? (i := 0) rfl) all0) ?_
    intro T h1 r w _ hQ
    obtain ⟨rfl, K1, t, gt, S1⟩ := hQ
    exact w.retV d3_9 rfl ⟨rfl, K1, t, Or.inl ⟨S1, hx⟩⟩
  · refine w.aloadN d3_0 rfl rfl ?_
    refine w.aloadN d3_1 rfl rfl ?_
    refine w.iconst (0 : Int32) d3_2 rfl ?_
    refine w.aloadN d3_3 rfl rfl ?_
    refine w.alen (1 : Int32) d3_4 Ar (len_of S M) ?_
    refine w.aconstNull d3_5 ?_
    refine w.callI (argsL := [(.ref b), (.int (0 : Int32)), (.int (1 : Int32)), .null]) (rest := []) 0 d3_6 rfl (tw hw 19 rfl) (tw hw 20 rfl) (tw hw 15 rfl) (tw hw 22 rfl) (by decide) (rmS4u_1 l Z a0 hw hr a b kb c0 h0 w.old ge_a E0 G1 G2 Ab z0 v0 hx) (lenOf pd_0 rfl) rfl rfl (Nat.le_refl _) ⟨by decide, by decide, by decide, by decide⟩ (allS (List.mem_of_getElem? (i := 0) rfl) all0) ?_
    intro T h2 r w _ hQ
    obtain ⟨rfl, K1, t, S1⟩ := hQ
    exact w.retV d3_9 rfl ⟨rfl, K1, t, Or.inr S1⟩

set_option maxRecDepth 65536 in
set_option maxHeartbeats 40000000 in
theorem rmC5_2 (l : Launch) (Z : State) (a0 : Array Value) (hw : ∀ d ∈ tables_1, d.before a0 Z = true) (b d : Addr) (kb kd : ClassId) (c0 c1 : Int32) (h0 : Heap) (hE : Ext Z.heap h0) (ge_d : Z.heap.size ≤ d) (nbd : b ≠ d) (Ab : Arv Z h0 b kb .char (2 : Int32) [(.int c0), (.int c1)] (.int 0)) (Ad : Arv Z h0 d kd .byte (2 : Int32) [] (.int 0)) (u0 : ¬ 255 < c0) (u1 : ¬ 255 < c1) :
    Ct true l Z consts_1 (⟨"java/lang/StringUTF16", "compress", "([CI[BII)I"⟩ : MethodName) jdk_52_method_21_code 7 (some .int) [] ({ frames := 0, cells := 0, slots := 0, locals := 0 } : Room) [d] #[(.ref b), (.int (0 : Int32)), (.ref d), (.int (0 : Int32)), (.int (2 : Int32))] h0 (fun r u => r = some (.int (2 : Int32)) ∧ Keep h0 u [d] ∧ Arv Z u d kd .byte (2 : Int32) [(.int (nar .byte c0)), (.int (nar .byte c1))] (.int 0)) := by
  refine Ct.intro pn_java_lang_StringUTF16 hE (fun m => ef12_ririi m b _ d _ _) (onesf ge_d Ad.lt) ⟨a0, own_EW hw⟩ ?_
  intro x T w
  refine w.iconst (0 : Int32) d12_0 rfl ?_
  refine w.istore #[.val (.ref b), .val (.int (0 : Int32)), .val (.ref d), .val (.int (0 : Int32)), .val (.int (2 : Int32)), .val (.int (0 : Int32)), .unset] d12_1 rfl ?_
  refine w.iload d12_3 rfl ?_
  refine w.iload d12_5 rfl ?_
  refine w.icmpGe d12_7 d12_7t (fun q => absurd (by decide) q) (fun _ => ?_)
  refine w.aloadN d12_10 rfl rfl ?_
  refine w.iloadN d12_11 rfl ?_
  obtain ⟨cl0, Ar0, -, S0, -, H0, -⟩ := id Ab
  refine w.caload d12_12 Ar0 (inb_of S0 (by decide)) (H0.at (inb_of S0 (by decide)) rfl) ?_
  refine w.istore #[.val (.ref b), .val (.int (0 : Int32)), .val (.ref d), .val (.int (0 : Int32)), .val (.int (2 : Int32)), .val (.int (0 : Int32)), .val (.int c0)] d12_13 rfl ?_
  refine w.iload d12_15 rfl ?_
  refine w.sipush (255 : Int32) d12_17 rfl ?_
  refine w.icmpLe d12_20 d12_20t (fun _ => ?_) (fun q => absurd q u0)
  refine w.aloadN d12_26 rfl rfl ?_
  refine w.iloadN d12_27 rfl ?_
  refine w.iload d12_28 rfl ?_
  refine w.i2b d12_30 ?_
  refine w.stB 0 [(.int 0)] d12_31 Ad ⟨by decide, by decide⟩ (by decide) (pad_rep [] (.int 0) 1) (by simp) (fnb _) (List.mem_of_getElem? (i := 0) rfl) ?_
  intro T h1 w W0 A0
  rw [nbb] at A0 W0
  have Ad0 : Arv Z h1 d kd .byte (2 : Int32) [(.int (nar .byte c0))] (.int 0) := A0
  have Ab0 := Ab.other W0 nbd
  refine w.iinc (1 : Int32) #[.val (.ref b), .val (.int (1 : Int32)), .val (.ref d), .val (.int (0 : Int32)), .val (.int (2 : Int32)), .val (.int (0 : Int32)), .val (.int c0)] d12_32 rfl rfl rfl ?_
  refine w.iinc (1 : Int32) #[.val (.ref b), .val (.int (1 : Int32)), .val (.ref d), .val (.int (1 : Int32)), .val (.int (2 : Int32)), .val (.int (0 : Int32)), .val (.int c0)] d12_35 rfl rfl rfl ?_
  refine w.iinc (1 : Int32) #[.val (.ref b), .val (.int (1 : Int32)), .val (.ref d), .val (.int (1 : Int32)), .val (.int (2 : Int32)), .val (.int (1 : Int32)), .val (.int c0)] d12_38 rfl rfl rfl ?_
  refine w.goto d12_41 d12_41t ?_
  refine w.iload d12_3 rfl ?_
  refine w.iload d12_5 rfl ?_
  refine w.icmpGe d12_7 d12_7t (fun q => absurd (by decide) q) (fun _ => ?_)
  refine w.aloadN d12_10 rfl rfl ?_
  refine w.iloadN d12_11 rfl ?_
  obtain ⟨cl1, Ar1, -, S1, -, H1, -⟩ := id Ab0
  refine w.caload d12_12 Ar1 (inb_of S1 (by decide)) (H1.at (inb_of S1 (by decide)) rfl) ?_
  refine w.istore #[.val (.ref b), .val (.int (1 : Int32)), .val (.ref d), .val (.int (1 : Int32)), .val (.int (2 : Int32)), .val (.int (1 : Int32)), .val (.int c1)] d12_13 rfl ?_
  refine w.iload d12_15 rfl ?_
  refine w.sipush (255 : Int32) d12_17 rfl ?_
  refine w.icmpLe d12_20 d12_20t (fun _ => ?_) (fun q => absurd q u1)
  refine w.aloadN d12_26 rfl rfl ?_
  refine w.iloadN d12_27 rfl ?_
  refine w.iload d12_28 rfl ?_
  refine w.i2b d12_30 ?_
  refine w.stB 1 [(.int (nar .byte c0)), (.int 0)] d12_31 Ad0 ⟨by decide, by decide⟩ (by decide) (pad_rep [(.int (nar .byte c0))] (.int 0) 1) (by simp) (fnb _) (List.mem_of_getElem? (i := 0) rfl) ?_
  intro T h2 w W1 A1
  rw [nbb] at A1 W1
  have Ad1 : Arv Z h2 d kd .byte (2 : Int32) [(.int (nar .byte c0)), (.int (nar .byte c1))] (.int 0) := A1
  have Ab1 := Ab0.other W1 nbd
  refine w.iinc (1 : Int32) #[.val (.ref b), .val (.int (2 : Int32)), .val (.ref d), .val (.int (1 : Int32)), .val (.int (2 : Int32)), .val (.int (1 : Int32)), .val (.int c1)] d12_32 rfl rfl rfl ?_
  refine w.iinc (1 : Int32) #[.val (.ref b), .val (.int (2 : Int32)), .val (.ref d), .val (.int (2 : Int32)), .val (.int (2 : Int32)), .val (.int (1 : Int32)), .val (.int c1)] d12_35 rfl rfl rfl ?_
  refine w.iinc (1 : Int32) #[.val (.ref b), .val (.int (2 : Int32)), .val (.ref d), .val (.int (2 : Int32)), .val (.int (2 : Int32)), .val (.int (2 : Int32)), .val (.int c1)] d12_38 rfl rfl rfl ?_
  refine w.goto d12_41 d12_41t ?_
  refine w.iload d12_3 rfl ?_
  refine w.iload d12_5 rfl ?_
  refine w.icmpGe d12_7 d12_7t (fun _ => ?_) (fun q => absurd q (by decide))
  refine w.iload d12_44 rfl ?_
  exact w.retI d12_46 rfl ⟨rfl, (((Keep.refl _ _).wr W0 (Or.inl (List.mem_singleton.mpr rfl))).wr W1 (Or.inl (List.mem_singleton.mpr rfl))), Ad1⟩

set_option maxRecDepth 65536 in
set_option maxHeartbeats 40000000 in
theorem rmC3_2 (l : Launch) (Z : State) (a0 : Array Value) (hw : ∀ d ∈ tables_1, d.before a0 Z = true) (b : Addr) (kb : ClassId) (c0 c1 : Int32) (h0 : Heap) (hE : Ext Z.heap h0) (Ab : Arv Z h0 b kb .char (2 : Int32) [(.int c0), (.int c1)] (.int 0)) (u0 : ¬ 255 < c0) (u1 : ¬ 255 < c1) :
    Ct true l Z consts_1 (⟨"java/lang/StringUTF16", "compress", "([CII)[B"⟩ : MethodName) jdk_52_method_16_code 6 (some (.array .byte)) [] ({ frames := 1, cells := 1, slots := 2, locals := 18 } : Room) [] #[(.ref b), (.int (0 : Int32)), (.int (2 : Int32))] h0 (fun r u => ∃ d kd, r = some (.ref d) ∧ Ext h0 u ∧ h0.size ≤ d ∧ Arv Z u d kd .byte (2 : Int32) [(.int (nar .byte c0)), (.int (nar .byte c1))] (.int 0)) := by
  refine Ct.intro pn_java_lang_StringUTF16 hE (fun m => ef11_rii m b _ _) nosf ⟨a0, own_EW hw⟩ ?_
  intro x T w
  refine w.iloadN d11_0 rfl ?_
  have sz0 := w.size
  refine w.newP 2 "[B" d11_1 (tw hw 27 rfl) (by decide) (by decide) (by decide) (by decide) ⟨by decide, by decide⟩ ?_
  intro d T h1 kd g_d w E_d A_d X_d
  have ge_d : Z.heap.size ≤ d := by rw [g_d]; exact sz0
  have nbd : b ≠ d := Nat.ne_of_lt (Nat.lt_of_lt_of_eq Ab.lt g_d.symm)
  refine w.astoreN #[.val (.ref b), .val (.int (0 : Int32)), .val (.int (2 : Int32)), .val (.ref d), .unset, .unset] d11_3 rfl rfl ?_
  refine w.aloadN d11_4 rfl rfl ?_
  refine w.iloadN d11_5 rfl ?_
  refine w.aloadN d11_6 rfl rfl ?_
  refine w.iconst (0 : Int32) d11_7 rfl ?_
  refine w.iloadN d11_8 rfl ?_
  refine w.callS (argsL := [(.ref b), (.int (0 : Int32)), (.ref d), (.int (0 : Int32)), (.int (2 : Int32))]) (rest := []) 0 d11_9 (tw hw 61 rfl) (tw hw 62 rfl) (tw hw 59 rfl) (tw hw 63 rfl) (by decide) (rmC5_2 l Z a0 hw b d kb kd c0 c1 h1 w.old ge_d nbd (Ab.ext E_d) A_d u0 u1) (lenOf pd_2 rfl) rfl rfl (Nat.le_refl _) ⟨by decide, by decide, by decide, by decide⟩ (allS (List.mem_of_getElem? (i := 0) rfl) all0) ?_
  intro T h2 r w _ hQ
  obtain ⟨rfl, K1, A1⟩ := hQ
  show Go x _ Z _ _ _ T 12 #[.val (.ref b), .val (.int (0 : Int32)), .val (.int (2 : Int32)), .val (.ref d), .unset, .unset] [(.int (2 : Int32))]
  refine w.istore #[.val (.ref b), .val (.int (0 : Int32)), .val (.int (2 : Int32)), .val (.ref d), .val (.int (2 : Int32)), .unset] d11_12 rfl ?_
  refine w.iload d11_14 rfl ?_
  refine w.iloadN d11_16 rfl ?_
  refine w.icmpEq d11_17 d11_17t (fun _ => ?_) (fun q => absurd rfl q)
  refine w.aloadN d11_57 rfl rfl ?_
  exact w.retA d11_58 rfl rfl rfl rfl ⟨d, kd, rfl, keep_to E_d K1 (allS (Nat.le_of_eq g_d.symm) all0), Nat.le_of_eq g_d.symm, A1⟩

set_option maxRecDepth 65536 in
set_option maxHeartbeats 40000000 in
theorem rmCL_2_2 (l : Launch) (Z : State) (a0 : Array Value) (hw : ∀ d ∈ tables_1, d.before a0 Z = true) (d : Addr) (kd : ClassId) (vs : List Value) (h0 : Heap) (hE : Ext Z.heap h0) (Ad : Arv Z h0 d kd .byte (2 : Int32) vs (.int 0)) :
    Ct true l Z consts_1 (⟨"java/lang/StringUTF16", "coderFromArrayLen", "([BI)B"⟩ : MethodName) jdk_52_method_15_code 2 (some .byte) [] ({ frames := 0, cells := 0, slots := 0, locals := 0 } : Room) [] #[(.ref d), (.int (2 : Int32))] h0 (fun r u => r = some (.int (0 : Int32)) ∧ h0 = u) := by
  refine Ct.intro pn_java_lang_StringUTF16 hE (fun m => ef18_ri m d _) nosf ⟨a0, own_EW hw⟩ ?_
  intro x T w
  obtain ⟨cl, Ar, -, S, M, -, -⟩ := Ad
  refine w.iloadN d18_0 rfl ?_
  refine w.aloadN d18_1 rfl rfl ?_
  refine w.alen (2 : Int32) d18_2 Ar (len_of S M) ?_
  refine w.isub d18_3 ?_
  refine w.bipush (31 : Int32) d18_4 rfl ?_
  refine w.iushr d18_6 ?_
  refine w.i2b d18_7 ?_
  exact w.retN d18_8 rfl (by simp) ⟨rfl, rfl⟩

set_option maxRecDepth 65536 in
set_option maxHeartbeats 40000000 in
theorem rmS4_2 (l : Launch) (Z : State) (a0 : Array Value) (hw : ∀ d ∈ tables_1, d.before a0 Z = true) (hr : rest_1_c.value a0 Z none Z [] = some true) (a b : Addr) (kb : ClassId) (c0 c1 : Int32) (h0 : Heap) (hE : Ext Z.heap h0) (ge_a : Z.heap.size ≤ a) (E0 : Exa Z h0 a "java/lang/String") (G1 : Fld Z h0 a "java/lang/String" "value" "[B" .null) (G2 : Fld Z h0 a "java/lang/String" "coder" "B" (.int (0 : Int32))) (Ab : Arv Z h0 b kb .char (2 : Int32) [(.int c0), (.int c1)] (.int 0)) (u0 : ¬ 255 < c0) (u1 : ¬ 255 < c1) :
    Ct true l Z consts_1 (⟨"java/lang/String", "<init>", "([CIILjava/lang/Void;)V"⟩ : MethodName) jdk_42_method_149_code 6 none [] ({ frames := 2, cells := 1, slots := 2, locals := 36 } : Room) [a] #[(.ref a), (.ref b), (.int (0 : Int32)), (.int (2 : Int32)), .null] h0 (fun r u => r = none ∧ Keep h0 u [a] ∧ ∃ t, h0.size ≤ t ∧ StrL Z u a t 0 [nar .byte c0, nar .byte c1]) := by
  refine Ct.intro pn_java_lang_String hE (fun m => ef4_rriin m a b _ _) (onesf ge_a E0.lt) ⟨a0, own_EW hw⟩ ?_
  intro x T w
  obtain ⟨cz, Scs, hcz⟩ := own_cs hr
  refine w.aloadN d4_0 rfl rfl ?_
  refine w.initO 0 d4_1 (tw hw 23 rfl) (tw hw 24 rfl) (tw hw 25 rfl) rfl (Nat.le_refl _) ⟨by decide, by decide⟩ ?_
  intro T w
  refine w.iloadN d4_4 rfl ?_
  refine w.ifNe d4_5 d4_5t (fun _ => ?_) (fun q => absurd q (by decide))
  refine w.getS d4_27 (tw hw 48 rfl) Scs ?_
  intro T w
  refine w.ifEq d4_30 d4_30t (fun q => absurd q hcz) (fun _ => ?_)
  refine w.aloadN d4_33 rfl rfl ?_
  refine w.iloadN d4_34 rfl ?_
  refine w.iloadN d4_35 rfl ?_
  refine w.callS (argsL := [(.ref b), (.int (0 : Int32)), (.int (2 : Int32))]) (rest := []) 0 d4_36 (tw hw 57 rfl) (tw hw 58 rfl) (tw hw 59 rfl) (tw hw 60 rfl) (by decide) (rmC3_2 l Z a0 hw b kb c0 c1 h0 w.old Ab u0 u1) (lenOf pd_3 rfl) rfl rfl (Nat.le_refl _) ⟨by decide, by decide, by decide, by decide⟩ all0 ?_
  intro T h1 r w _ hQ
  obtain ⟨d, kd, rfl, E1, gd, A1⟩ := hQ
  have ne_a_d : a ≠ d := Nat.ne_of_lt (Nat.lt_of_lt_of_le E0.lt gd)
  have F1 := E0.ext E1
  have F2 := G1.ext E1
  have F3 := G2.ext E1
  show Go x _ Z _ _ _ T 39 #[.val (.ref a), .val (.ref b), .val (.int (0 : Int32)), .val (.int (2 : Int32)), .val .null, .unset] [(.ref d)]
  refine w.astore #[.val (.ref a), .val (.ref b), .val (.int (0 : Int32)), .val (.int (2 : Int32)), .val .null, .val (.ref d)] d4_39 rfl rfl ?_
  refine w.aloadN d4_41 rfl rfl ?_
  refine w.aload d4_42 rfl rfl ?_
  refine w.iloadN d4_44 rfl ?_
  refine w.callS (argsL := [(.ref d), (.int (2 : Int32))]) (rest := [(.ref a)]) 1 d4_45 (tw hw 83 rfl) (tw hw 84 rfl) (tw hw 59 rfl) (tw hw 85 rfl) (by decide) (rmCL_2_2 l Z a0 hw d kd _ h1 w.old A1) (lenOf pd_4 rfl) rfl rfl (Nat.le_refl _) ⟨by decide, by decide, by decide, by decide⟩ all0 ?_
  intro T h2 r w _ hQ
  obtain ⟨rfl, rfl⟩ := hQ
  show Go x _ Z _ _ _ T 48 #[.val (.ref a), .val (.ref b), .val (.int (0 : Int32)), .val (.int (2 : Int32)), .val .null, .val (.ref d)] [(.int (0 : Int32)), (.ref a)]
  refine w.putF d4_48 (tw hw 33 rfl) F3 F1 (Or.inr ⟨(tw hw 29 rfl), rfl, rfl⟩) (tw hw 14 rfl) (ty := .byte) (by decide) rfl rfl (List.mem_of_getElem? (i := 0) rfl) ?_
  intro T h3 w W4
  have F5 := F1.wr W4
  have F6 := F2.other W4 (Or.inr (slot_ne (Or.inr (tw hw 28 rfl)) (Or.inr (tw hw 29 rfl)) (by decide) (t := (.array .byte)) (t' := .byte) (by decide) (by decide)))
  have F7 := F3.same W4
  have F8 := A1.other W4 (Ne.symm ne_a_d)
  refine w.aloadN d4_51 rfl rfl ?_
  refine w.aload d4_52 rfl rfl ?_
  refine w.putF d4_54 (tw hw 32 rfl) F6 F5 (Or.inr ⟨(tw hw 28 rfl), rfl, rfl⟩) (tw hw 14 rfl) (ty := (.array .byte)) (by decide) rfl rfl (List.mem_of_getElem? (i := 0) rfl) ?_
  intro T h4 w W9
  have F10 := F5.wr W9
  have F11 := F6.same W9
  have F12 := F7.other W9 (Or.inr (slot_ne (Or.inr (tw hw 29 rfl)) (Or.inr (tw hw 28 rfl)) (by decide) (t := .byte) (t' := (.array .byte)) (by decide) (by decide)))
  have F13 := F8.other W9 (Ne.symm ne_a_d)
  exact w.retV d4_57 rfl ⟨rfl, (((keep_ext E1).wr W4 (Or.inl (List.mem_singleton.mpr rfl))).wr W9 (Or.inl (List.mem_singleton.mpr rfl))), d, gd, F10, F11, F12, kd, F13, by simp⟩

set_option maxRecDepth 65536 in
set_option maxHeartbeats 40000000 in
theorem rmNL_2 (l : Launch) (Z : State) (a0 : Array Value) (hw : ∀ d ∈ tables_1, d.before a0 Z = true) (h0 : Heap) (hE : Ext Z.heap h0) :
    Ct true l Z consts_1 (⟨"java/lang/StringUTF16", "newBytesLength", "(I)I"⟩ : MethodName) jdk_52_method_3_code 1 (some .int) [] ({ frames := 0, cells := 0, slots := 0, locals := 0 } : Room) [] #[(.int (2 : Int32))] h0 (fun r u => r = some (.int (4 : Int32)) ∧ h0 = u) := by
  refine Ct.intro pn_java_lang_StringUTF16 hE (fun m => ef15_i m _) nosf ⟨a0, own_EW hw⟩ ?_
  intro x T w
  refine w.iloadN d15_0 rfl ?_
  refine w.ifGe d15_1 d15_1t (fun _ => ?_) (fun q => absurd q (by decide))
  refine w.iloadN d15_12 rfl ?_
  refine w.ldcI d15_13 (tw hw 73 rfl) ?_
  refine w.icmpLt d15_15 d15_15t (fun _ => ?_) (fun q => absurd (by decide) q)
  refine w.iloadN d15_55 rfl ?_
  refine w.iconst (1 : Int32) d15_56 rfl ?_
  refine w.ishl d15_57 ?_
  exact w.retI d15_58 rfl ⟨rfl, rfl⟩

set_option maxRecDepth 65536 in
set_option maxHeartbeats 40000000 in
theorem rmNF_2 (l : Launch) (Z : State) (a0 : Array Value) (hw : ∀ d ∈ tables_1, d.before a0 Z = true) (h0 : Heap) (hE : Ext Z.heap h0) :
    Ct true l Z consts_1 (⟨"java/lang/StringUTF16", "newBytesFor", "(I)[B"⟩ : MethodName) jdk_52_method_2_code 1 (some (.array .byte)) [] ({ frames := 1, cells := 1, slots := 4, locals := 12 } : Room) [] #[(.int (2 : Int32))] h0 (fun r u => ∃ d kd, r = some (.ref d) ∧ Ext h0 u ∧ h0.size ≤ d ∧ Arv Z u d kd .byte (4 : Int32) [] (.int 0)) := by
  refine Ct.intro pn_java_lang_StringUTF16 hE (fun m => ef14_i m _) nosf ⟨a0, own_EW hw⟩ ?_
  intro x T w
  refine w.iloadN d14_0 rfl ?_
  refine w.callS (argsL := [(.int (2 : Int32))]) (rest := []) 0 d14_1 (tw hw 70 rfl) (tw hw 71 rfl) (tw hw 59 rfl) (tw hw 72 rfl) (by decide) (rmNL_2 l Z a0 hw h0 w.old) (lenOf pd_5 rfl) rfl rfl (Nat.le_refl _) ⟨by decide, by decide, by decide, by decide⟩ all0 ?_
  intro T h1 r w _ hQ
  obtain ⟨rfl, rfl⟩ := hQ
  show Go x _ Z _ _ _ T 4 #[.val (.int (2 : Int32))] [(.int (4 : Int32))]
  have sz0 := w.size
  refine w.newP 4 "[B" d14_4 (tw hw 27 rfl) (by decide) (by decide) (by decide) (by decide) ⟨by decide, by decide⟩ ?_
  intro d T h2 kd g_d w E_d A_d X_d
  have ge_d : Z.heap.size ≤ d := by rw [g_d]; exact sz0
  exact w.retA d14_6 rfl rfl rfl rfl ⟨d, kd, rfl, E_d, Nat.le_of_eq g_d.symm, A_d⟩

set_option maxRecDepth 65536 in
set_option maxHeartbeats 40000000 in
theorem rmPu_2_0 (l : Launch) (Z : State) (a0 : Array Value) (hw : ∀ d ∈ tables_1, d.before a0 Z = true) (hr : rest_1_c.value a0 Z none Z [] = some true) (d : Addr) (kd : ClassId)  (c : Int32) (h0 : Heap) (hE : Ext Z.heap h0) (ge_d : Z.heap.size ≤ d) (A : Arv Z h0 d kd .byte (4 : Int32) [] (.int 0)) :
    Ct true l Z consts_1 (⟨"java/lang/StringUTF16", "putChar", "([BII)V"⟩ : MethodName) jdk_52_method_4_code 3 none [] ({ frames := 0, cells := 0, slots := 0, locals := 0 } : Room) [d] #[(.ref d), (.int (0 : Int32)), (.int c)] h0 (fun r u => r = none ∧ Keep h0 u [d] ∧ Arv Z u d kd .byte (4 : Int32) [(.int (nar .byte (c >>> ((0 : Int32) &&& 31)))), (.int (nar .byte (c >>> ((8 : Int32) &&& 31))))] (.int 0)) := by
  refine Ct.intro pn_java_lang_StringUTF16 hE (fun m => ef16_rii m d _ _) (onesf ge_d A.lt) ⟨a0, own_EW hw⟩ ?_
  intro x T w
  refine w.getS d16_0 (tw hw 77 rfl) (own_ad hr) ?_
  intro T w
  refine w.ifNe d16_3 d16_3t (fun _ => ?_) (fun q => absurd q (by decide))
  refine w.iloadN d16_28 rfl ?_
  refine w.iconst (1 : Int32) d16_29 rfl ?_
  refine w.ishl d16_30 ?_
  refine w.istoreN #[.val (.ref d), .val (.int ((0 : Int32) <<< ((1 : Int32) &&& 31))), .val (.int c)] d16_31 rfl ?_
  refine w.aloadN d16_32 rfl rfl ?_
  refine w.iloadN d16_33 rfl ?_
  refine w.iinc (1 : Int32) #[.val (.ref d), .val (.int (((0 : Int32) <<< ((1 : Int32) &&& 31)) + (1 : Int32))), .val (.int c)] d16_34 rfl rfl rfl ?_
  refine w.iloadN d16_37 rfl ?_
  refine w.getS d16_38 (tw hw 78 rfl) (own_hi hr) ?_
  intro T w
  refine w.ishr d16_41 ?_
  refine w.i2b d16_42 ?_
  refine w.stB 0 [(.int 0)] d16_43 A ⟨by decide, by decide⟩ (by decide) (pad_rep [] (.int 0) 1) (by simp) (fnb _) (List.mem_of_getElem? (i := 0) rfl) ?_
  intro T h1 w W0 B0
  rw [nbb] at B0 W0
  have C0 : Arv Z h1 d kd .byte (4 : Int32) [(.int (nar .byte (c >>> ((0 : Int32) &&& 31))))] (.int 0) := B0
  refine w.aloadN d16_44 rfl rfl ?_
  refine w.iloadN d16_45 rfl ?_
  refine w.iloadN d16_46 rfl ?_
  refine w.getS d16_47 (tw hw 79 rfl) (own_lo hr) ?_
  intro T w
  refine w.ishr d16_50 ?_
  refine w.i2b d16_51 ?_
  refine w.stB 1 [(.int (nar .byte (c >>> ((0 : Int32) &&& 31)))), (.int 0)] d16_52 C0 ⟨by decide, by decide⟩ (by decide) (pad_rep [(.int (nar .byte (c >>> ((0 : Int32) &&& 31))))] (.int 0) 1) (by simp) (fnb _) (List.mem_of_getElem? (i := 0) rfl) ?_
  intro T h2 w W1 B1
  rw [nbb] at B1 W1
  have C1 : Arv Z h2 d kd .byte (4 : Int32) [(.int (nar .byte (c >>> ((0 : Int32) &&& 31)))), (.int (nar .byte (c >>> ((8 : Int32) &&& 31))))] (.int 0) := B1
  exact w.retV d16_53 rfl ⟨rfl, (((Keep.refl _ _).wr W0 (Or.inl (List.mem_singleton.mpr rfl))).wr W1 (Or.inl (List.mem_singleton.mpr rfl))), C1⟩

set_option maxRecDepth 65536 in
set_option maxHeartbeats 40000000 in
theorem rmPu_2_1 (l : Launch) (Z : State) (a0 : Array Value) (hw : ∀ d ∈ tables_1, d.before a0 Z = true) (hr : rest_1_c.value a0 Z none Z [] = some true) (d : Addr) (kd : ClassId) (b0 b1 : Int32) (c : Int32) (h0 : Heap) (hE : Ext Z.heap h0) (ge_d : Z.heap.size ≤ d) (A : Arv Z h0 d kd .byte (4 : Int32) [(.int b0), (.int b1)] (.int 0)) :
    Ct true l Z consts_1 (⟨"java/lang/StringUTF16", "putChar", "([BII)V"⟩ : MethodName) jdk_52_method_4_code 3 none [] ({ frames := 0, cells := 0, slots := 0, locals := 0 } : Room) [d] #[(.ref d), (.int (1 : Int32)), (.int c)] h0 (fun r u => r = none ∧ Keep h0 u [d] ∧ Arv Z u d kd .byte (4 : Int32) [(.int b0), (.int b1), (.int (nar .byte (c >>> ((0 : Int32) &&& 31)))), (.int (nar .byte (c >>> ((8 : Int32) &&& 31))))] (.int 0)) := by
  refine Ct.intro pn_java_lang_StringUTF16 hE (fun m => ef16_rii m d _ _) (onesf ge_d A.lt) ⟨a0, own_EW hw⟩ ?_
  intro x T w
  refine w.getS d16_0 (tw hw 77 rfl) (own_ad hr) ?_
  intro T w
  refine w.ifNe d16_3 d16_3t (fun _ => ?_) (fun q => absurd q (by decide))
  refine w.iloadN d16_28 rfl ?_
  refine w.iconst (1 : Int32) d16_29 rfl ?_
  refine w.ishl d16_30 ?_
  refine w.istoreN #[.val (.ref d), .val (.int ((1 : Int32) <<< ((1 : Int32) &&& 31))), .val (.int c)] d16_31 rfl ?_
  refine w.aloadN d16_32 rfl rfl ?_
  refine w.iloadN d16_33 rfl ?_
  refine w.iinc (1 : Int32) #[.val (.ref d), .val (.int (((1 : Int32) <<< ((1 : Int32) &&& 31)) + (1 : Int32))), .val (.int c)] d16_34 rfl rfl rfl ?_
  refine w.iloadN d16_37 rfl ?_
  refine w.getS d16_38 (tw hw 78 rfl) (own_hi hr) ?_
  intro T w
  refine w.ishr d16_41 ?_
  refine w.i2b d16_42 ?_
  refine w.stB 2 [(.int b0), (.int b1), (.int 0)] d16_43 A ⟨by decide, by decide⟩ (by decide) (pad_rep [(.int b0), (.int b1)] (.int 0) 1) (by simp) (fnb _) (List.mem_of_getElem? (i := 0) rfl) ?_
  intro T h1 w W0 B0
  rw [nbb] at B0 W0
  have C0 : Arv Z h1 d kd .byte (4 : Int32) [(.int b0), (.int b1), (.int (nar .byte (c >>> ((0 : Int32) &&& 31))))] (.int 0) := B0
  refine w.aloadN d16_44 rfl rfl ?_
  refine w.iloadN d16_45 rfl ?_
  refine w.iloadN d16_46 rfl ?_
  refine w.getS d16_47 (tw hw 79 rfl) (own_lo hr) ?_
  intro T w
  refine w.ishr d16_50 ?_
  refine w.i2b d16_51 ?_
  refine w.stB 3 [(.int b0), (.int b1), (.int (nar .byte (c >>> ((0 : Int32) &&& 31)))), (.int 0)] d16_52 C0 ⟨by decide, by decide⟩ (by decide) (pad_rep [(.int b0), (.int b1), (.int (nar .byte (c >>> ((0 : Int32) &&& 31))))] (.int 0) 1) (by simp) (fnb _) (List.mem_of_getElem? (i := 0) rfl) ?_
  intro T h2 w W1 B1
  rw [nbb] at B1 W1
  have C1 : Arv Z h2 d kd .byte (4 : Int32) [(.int b0), (.int b1), (.int (nar .byte (c >>> ((0 : Int32) &&& 31)))), (.int (nar .byte (c >>> ((8 : Int32) &&& 31))))] (.int 0) := B1
  exact w.retV d16_53 rfl ⟨rfl, (((Keep.refl _ _).wr W0 (Or.inl (List.mem_singleton.mpr rfl))).wr W1 (Or.inl (List.mem_singleton.mpr rfl))), C1⟩

set_option maxRecDepth 65536 in
set_option maxHeartbeats 40000000 in
theorem rmTo_2 (l : Launch) (Z : State) (a0 : Array Value) (hw : ∀ d ∈ tables_1, d.before a0 Z = true) (hr : rest_1_c.value a0 Z none Z [] = some true) (b : Addr) (kb : ClassId) (c0 c1 : Int32) (h0 : Heap) (hE : Ext Z.heap h0) (Ab : Arv Z h0 b kb .char (2 : Int32) [(.int c0), (.int c1)] (.int 0)) :
    Ct true l Z consts_1 (⟨"java/lang/StringUTF16", "toBytes", "([CII)[B"⟩ : MethodName) jdk_52_method_14_code 5 (some (.array .byte)) [] ({ frames := 2, cells := 1, slots := 4, locals := 24 } : Room) [] #[(.ref b), (.int (0 : Int32)), (.int (2 : Int32))] h0 (fun r u => ∃ d kd, r = some (.ref d) ∧ Ext h0 u ∧ h0.size ≤ d ∧ Arv Z u d kd .byte (4 : Int32) [(.int (nar .byte (c0 >>> ((0 : Int32) &&& 31)))), (.int (nar .byte (c0 >>> ((8 : Int32) &&& 31)))), (.int (nar .byte (c1 >>> ((0 : Int32) &&& 31)))), (.int (nar .byte (c1 >>> ((8 : Int32) &&& 31))))] (.int 0)) := by
  refine Ct.intro pn_java_lang_StringUTF16 hE (fun m => ef13_rii m b _ _) nosf ⟨a0, own_EW hw⟩ ?_
  intro x T w
  refine w.iloadN d13_0 rfl ?_
  refine w.callS (argsL := [(.int (2 : Int32))]) (rest := []) 0 d13_1 (tw hw 67 rfl) (tw hw 68 rfl) (tw hw 59 rfl) (tw hw 69 rfl) (by decide) (rmNF_2 l Z a0 hw h0 w.old) (lenOf pd_6 rfl) rfl rfl (Nat.le_refl _) ⟨by decide, by decide, by decide, by decide⟩ all0 ?_
  intro T h1 r w _ hQ
  obtain ⟨d, kd, rfl, E1, gd, A0⟩ := hQ
  have ge_d : Z.heap.size ≤ d := Nat.le_trans hE.1 gd
  have w := w.adopt ge_d A0.lt (fun vm hZ => own_safe hw hZ A0 (by decide))
  have nbd : b ≠ d := Nat.ne_of_lt (Nat.lt_of_lt_of_le Ab.lt gd)
  have Ab := Ab.ext E1
  show Go x _ Z _ _ _ T 4 #[.val (.ref b), .val (.int (0 : Int32)), .val (.int (2 : Int32)), .unset, .unset] [(.ref d)]
  refine w.astoreN #[.val (.ref b), .val (.int (0 : Int32)), .val (.int (2 : Int32)), .val (.ref d), .unset] d13_4 rfl rfl ?_
  refine w.iconst (0 : Int32) d13_5 rfl ?_
  refine w.istore #[.val (.ref b), .val (.int (0 : Int32)), .val (.int (2 : Int32)), .val (.ref d), .val (.int (0 : Int32))] d13_6 rfl ?_
  refine w.iload d13_8 rfl ?_
  refine w.iloadN d13_10 rfl ?_
  refine w.icmpGe d13_11 d13_11t (fun q => absurd (by decide) q) (fun _ => ?_)
  refine w.aloadN d13_14 rfl rfl ?_
  refine w.iload d13_15 rfl ?_
  refine w.aloadN d13_17 rfl rfl ?_
  refine w.iloadN d13_18 rfl ?_
  obtain ⟨cl0, Ar0, -, S0, -, H0, -⟩ := id Ab
  refine w.caload d13_19 Ar0 (inb_of S0 (by decide)) (H0.at (inb_of S0 (by decide)) rfl) ?_
  refine w.callS (argsL := [(.ref d), (.int (0 : Int32)), (.int c0)]) (rest := []) 0 d13_20 (tw hw 74 rfl) (tw hw 75 rfl) (tw hw 59 rfl) (tw hw 76 rfl) (by decide) (rmPu_2_0 l Z a0 hw hr d kd  c0 h1 w.old ge_d A0) (lenOf pd_7 rfl) rfl rfl (Nat.le_refl _) ⟨by decide, by decide, by decide, by decide⟩ (allS (List.mem_of_getElem? (i := 0) rfl) all0) ?_
  intro T h2 r w _ hQ
  obtain ⟨rfl, K0, A1⟩ := hQ
  have Ab := Ab.keep K0 (ninS nbd nin0)
  show Go x _ Z _ _ _ T 23 #[.val (.ref b), .val (.int (0 : Int32)), .val (.int (2 : Int32)), .val (.ref d), .val (.int (0 : Int32))] []
  refine w.iinc (1 : Int32) #[.val (.ref b), .val (.int (1 : Int32)), .val (.int (2 : Int32)), .val (.ref d), .val (.int (0 : Int32))] d13_23 rfl rfl rfl ?_
  refine w.iinc (1 : Int32) #[.val (.ref b), .val (.int (1 : Int32)), .val (.int (2 : Int32)), .val (.ref d), .val (.int (1 : Int32))] d13_26 rfl rfl rfl ?_
  refine w.goto d13_29 d13_29t ?_
  refine w.iload d13_8 rfl ?_
  refine w.iloadN d13_10 rfl ?_
  refine w.icmpGe d13_11 d13_11t (fun q => absurd (by decide) q) (fun _ => ?_)
  refine w.aloadN d13_14 rfl rfl ?_
  refine w.iload d13_15 rfl ?_
  refine w.aloadN d13_17 rfl rfl ?_
  refine w.iloadN d13_18 rfl ?_
  obtain ⟨cl1, Ar1, -, S1, -, H1, -⟩ := id Ab
  refine w.caload d13_19 Ar1 (inb_of S1 (by decide)) (H1.at (inb_of S1 (by decide)) rfl) ?_
  refine w.callS (argsL := [(.ref d), (.int (1 : Int32)), (.int c1)]) (rest := []) 0 d13_20 (tw hw 74 rfl) (tw hw 75 rfl) (tw hw 59 rfl) (tw hw 76 rfl) (by decide) (rmPu_2_1 l Z a0 hw hr d kd (nar .byte (c0 >>> ((0 : Int32) &&& 31))) (nar .byte (c0 >>> ((8 : Int32) &&& 31))) c1 h2 w.old ge_d A1) (lenOf pd_7 rfl) rfl rfl (Nat.le_refl _) ⟨by decide, by decide, by decide, by decide⟩ (allS (List.mem_of_getElem? (i := 0) rfl) all0) ?_
  intro T h3 r w _ hQ
  obtain ⟨rfl, K1, A2⟩ := hQ
  have Ab := Ab.keep K1 (ninS nbd nin0)
  show Go x _ Z _ _ _ T 23 #[.val (.ref b), .val (.int (1 : Int32)), .val (.int (2 : Int32)), .val (.ref d), .val (.int (1 : Int32))] []
  refine w.iinc (1 : Int32) #[.val (.ref b), .val (.int (2 : Int32)), .val (.int (2 : Int32)), .val (.ref d), .val (.int (1 : Int32))] d13_23 rfl rfl rfl ?_
  refine w.iinc (1 : Int32) #[.val (.ref b), .val (.int (2 : Int32)), .val (.int (2 : Int32)), .val (.ref d), .val (.int (2 : Int32))] d13_26 rfl rfl rfl ?_
  refine w.goto d13_29 d13_29t ?_
  refine w.iload d13_8 rfl ?_
  refine w.iloadN d13_10 rfl ?_
  refine w.icmpGe d13_11 d13_11t (fun _ => ?_) (fun q => absurd q (by decide))
  refine w.aloadN d13_32 rfl rfl ?_
  exact w.retA d13_33 rfl rfl rfl rfl ⟨d, kd, rfl, keep_to E1 (K0.trans K1 (allS (Or.inl (List.mem_singleton.mpr rfl)) all0)) (allS gd all0), gd, A2⟩

set_option maxRecDepth 65536 in
set_option maxHeartbeats 40000000 in
theorem rmC5x_2_0 (l : Launch) (Z : State) (a0 : Array Value) (hw : ∀ d ∈ tables_1, d.before a0 Z = true) (b d : Addr) (kb kd : ClassId) (c0 c1 : Int32) (h0 : Heap) (hE : Ext Z.heap h0) (ge_d : Z.heap.size ≤ d) (nbd : b ≠ d) (Ab : Arv Z h0 b kb .char (2 : Int32) [(.int c0), (.int c1)] (.int 0)) (Ad : Arv Z h0 d kd .byte (2 : Int32) [] (.int 0))  (gp : 255 < c0) :
    Ct true l Z consts_1 (⟨"java/lang/StringUTF16", "compress", "([CI[BII)I"⟩ : MethodName) jdk_52_method_21_code 7 (some .int) [] ({ frames := 0, cells := 0, slots := 0, locals := 0 } : Room) [d] #[(.ref b), (.int (0 : Int32)), (.ref d), (.int (0 : Int32)), (.int (2 : Int32))] h0 (fun r u => r = some (.int (0 : Int32)) ∧ Keep h0 u [d]) := by
  refine Ct.intro pn_java_lang_StringUTF16 hE (fun m => ef12_ririi m b _ d _ _) (onesf ge_d Ad.lt) ⟨a0, own_EW hw⟩ ?_
  intro x T w
  refine w.iconst (0 : Int32) d12_0 rfl ?_
  refine w.istore #[.val (.ref b), .val (.int (0 : Int32)), .val (.ref d), .val (.int (0 : Int32)), .val (.int (2 : Int32)), .val (.int (0 : Int32)), .unset] d12_1 rfl ?_
  refine w.iload d12_3 rfl ?_
  refine w.iload d12_5 rfl ?_
  refine w.icmpGe d12_7 d12_7t (fun q => absurd (by decide) q) (fun _ => ?_)
  refine w.aloadN d12_10 rfl rfl ?_
  refine w.iloadN d12_11 rfl ?_
  obtain ⟨cl0, Ar0, -, S0, -, H0, -⟩ := id Ab
  refine w.caload d12_12 Ar0 (inb_of S0 (by decide)) (H0.at (inb_of S0 (by decide)) rfl) ?_
  refine w.istore #[.val (.ref b), .val (.int (0 : Int32)), .val (.ref d), .val (.int (0 : Int32)), .val (.int (2 : Int32)), .val (.int (0 : Int32)), .val (.int c0)] d12_13 rfl ?_
  refine w.iload d12_15 rfl ?_
  refine w.sipush (255 : Int32) d12_17 rfl ?_
  refine w.icmpLe d12_20 d12_20t (fun q => absurd gp q) (fun _ => ?_)
  refine w.iload d12_23 rfl ?_
  exact w.retI d12_25 rfl ⟨rfl, (Keep.refl _ _)⟩

set_option maxRecDepth 65536 in
set_option maxHeartbeats 40000000 in
theorem rmGe_2_0 (l : Launch) (Z : State) (a0 : Array Value) (hw : ∀ d ∈ tables_1, d.before a0 Z = true) (hr : rest_1_c.value a0 Z none Z [] = some true) (t : Addr) (kb : ClassId) (c0 c1 : Int32) (h0 : Heap) (hE : Ext Z.heap h0) (A : Arv Z h0 t kb .byte (4 : Int32) [(.int (nar .byte (c0 >>> ((0 : Int32) &&& 31)))), (.int (nar .byte (c0 >>> ((8 : Int32) &&& 31)))), (.int (nar .byte (c1 >>> ((0 : Int32) &&& 31)))), (.int (nar .byte (c1 >>> ((8 : Int32) &&& 31))))] (.int 0)) (z : 0 ≤ c0.toInt) (v : c0.toInt < 65536) :
    Ct true l Z consts_1 (⟨"java/lang/StringUTF16", "getChar", "([BI)C"⟩ : MethodName) jdk_52_method_5_code 2 (some .char) [] ({ frames := 0, cells := 0, slots := 0, locals := 0 } : Room) [] #[(.ref t), (.int (0 : Int32))] h0 (fun r u => r = some (.int c0) ∧ h0 = u) := by
  refine Ct.intro pn_java_lang_StringUTF16 hE (fun m => ef17_ri m t _) nosf ⟨a0, own_EW hw⟩ ?_
  intro x T w
  obtain ⟨cl, Ar, -, S, M, H, -⟩ := id A
  refine w.getS d17_0 (tw hw 77 rfl) (own_ad hr) ?_
  intro T w
  refine w.ifNe d17_3 d17_3t (fun _ => ?_) (fun q => absurd q (by decide))
  refine w.iloadN d17_28 rfl ?_
  refine w.iconst (1 : Int32) d17_29 rfl ?_
  refine w.ishl d17_30 ?_
  refine w.istoreN #[.val (.ref t), .val (.int ((0 : Int32) <<< ((1 : Int32) &&& 31)))] d17_31 rfl ?_
  refine w.aloadN d17_32 rfl rfl ?_
  refine w.iloadN d17_33 rfl ?_
  refine w.iinc (1 : Int32) #[.val (.ref t), .val (.int (((0 : Int32) <<< ((1 : Int32) &&& 31)) + (1 : Int32)))] d17_34 rfl rfl rfl ?_
  refine w.baload (v := .int (nar .byte (c0 >>> ((0 : Int32) &&& 31)))) d17_37 Ar (inb_of S (by decide)) (H.at (inb_of S (by decide)) (by rw [show (((0 : Int32) <<< ((1 : Int32) &&& 31))).toNatClampNeg = 0 by decide]; rfl)) ?_
  refine w.sipush (255 : Int32) d17_38 rfl ?_
  refine w.iand d17_41 ?_
  refine w.getS d17_42 (tw hw 78 rfl) (own_hi hr) ?_
  intro T w
  refine w.ishl d17_45 ?_
  refine w.aloadN d17_46 rfl rfl ?_
  refine w.iloadN d17_47 rfl ?_
  refine w.baload (v := .int (nar .byte (c0 >>> ((8 : Int32) &&& 31)))) d17_48 Ar (inb_of S (by decide)) (H.at (inb_of S (by decide)) (by rw [show ((((0 : Int32) <<< ((1 : Int32) &&& 31)) + (1 : Int32))).toNatClampNeg = 1 by decide]; rfl)) ?_
  refine w.sipush (255 : Int32) d17_49 rfl ?_
  refine w.iand d17_52 ?_
  refine w.getS d17_53 (tw hw 79 rfl) (own_lo hr) ?_
  intro T w
  refine w.ishl d17_56 ?_
  refine w.ior d17_57 ?_
  refine w.i2c d17_58 ?_
  exact w.retN d17_59 rfl (by simp) ⟨by rw [ncc, own_gc z v], rfl⟩

set_option maxRecDepth 65536 in
set_option maxHeartbeats 40000000 in
theorem rmC3x_2_0 (l : Launch) (Z : State) (a0 : Array Value) (hw : ∀ d ∈ tables_1, d.before a0 Z = true) (hr : rest_1_c.value a0 Z none Z [] = some true) (b : Addr) (kb : ClassId) (c0 c1 : Int32) (h0 : Heap) (hE : Ext Z.heap h0) (Ab : Arv Z h0 b kb .char (2 : Int32) [(.int c0), (.int c1)] (.int 0)) (z0 : 0 ≤ c0.toInt) (v0 : c0.toInt < 65536) (z1 : 0 ≤ c1.toInt) (v1 : c1.toInt < 65536)  (gp : 255 < c0) :
    Ct true l Z consts_1 (⟨"java/lang/StringUTF16", "compress", "([CII)[B"⟩ : MethodName) jdk_52_method_16_code 6 (some (.array .byte)) [] ({ frames := 3, cells := 2, slots := 6, locals := 40 } : Room) [] #[(.ref b), (.int (0 : Int32)), (.int (2 : Int32))] h0 (fun r u => ∃ d kd, r = some (.ref d) ∧ Ext h0 u ∧ h0.size ≤ d ∧ Arv Z u d kd .byte (4 : Int32) [(.int (nar .byte (c0 >>> ((0 : Int32) &&& 31)))), (.int (nar .byte (c0 >>> ((8 : Int32) &&& 31)))), (.int (nar .byte (c1 >>> ((0 : Int32) &&& 31)))), (.int (nar .byte (c1 >>> ((8 : Int32) &&& 31))))] (.int 0)) := by
  refine Ct.intro pn_java_lang_StringUTF16 hE (fun m => ef11_rii m b _ _) nosf ⟨a0, own_EW hw⟩ ?_
  intro x T w
  refine w.iloadN d11_0 rfl ?_
  have sz0 := w.size
  refine w.newP 2 "[B" d11_1 (tw hw 27 rfl) (by decide) (by decide) (by decide) (by decide) ⟨by decide, by decide⟩ ?_
  intro d T h1 kd g_d w E_d A_d X_d
  have ge_d : Z.heap.size ≤ d := by rw [g_d]; exact sz0
  have nbd : b ≠ d := Nat.ne_of_lt (Nat.lt_of_lt_of_eq Ab.lt g_d.symm)
  refine w.astoreN #[.val (.ref b), .val (.int (0 : Int32)), .val (.int (2 : Int32)), .val (.ref d), .unset, .unset] d11_3 rfl rfl ?_
  refine w.aloadN d11_4 rfl rfl ?_
  refine w.iloadN d11_5 rfl ?_
  refine w.aloadN d11_6 rfl rfl ?_
  refine w.iconst (0 : Int32) d11_7 rfl ?_
  refine w.iloadN d11_8 rfl ?_
  refine w.callS (argsL := [(.ref b), (.int (0 : Int32)), (.ref d), (.int (0 : Int32)), (.int (2 : Int32))]) (rest := []) 0 d11_9 (tw hw 61 rfl) (tw hw 62 rfl) (tw hw 59 rfl) (tw hw 63 rfl) (by decide) (rmC5x_2_0 l Z a0 hw b d kb kd c0 c1 h1 w.old ge_d nbd (Ab.ext E_d) A_d  gp) (lenOf pd_2 rfl) rfl rfl (Nat.le_refl _) ⟨by decide, by decide, by decide, by decide⟩ (allS (List.mem_of_getElem? (i := 0) rfl) all0) ?_
  intro T h2 r w _ hQ
  obtain ⟨rfl, K1⟩ := hQ
  have E2 := keep_to E_d K1 (allS (Nat.le_of_eq g_d.symm) all0)
  have Ab := Ab.ext E2
  show Go x _ Z _ _ _ T 12 #[.val (.ref b), .val (.int (0 : Int32)), .val (.int (2 : Int32)), .val (.ref d), .unset, .unset] [(.int (0 : Int32))]
  refine w.istore #[.val (.ref b), .val (.int (0 : Int32)), .val (.int (2 : Int32)), .val (.ref d), .val (.int (0 : Int32)), .unset] d11_12 rfl ?_
  refine w.iload d11_14 rfl ?_
  refine w.iloadN d11_16 rfl ?_
  refine w.icmpEq d11_17 d11_17t (fun q => absurd q (by decide)) (fun _ => ?_)
  refine w.aloadN d11_20 rfl rfl ?_
  refine w.iloadN d11_21 rfl ?_
  refine w.iloadN d11_22 rfl ?_
  refine w.callS (argsL := [(.ref b), (.int (0 : Int32)), (.int (2 : Int32))]) (rest := []) 0 d11_23 (tw hw 64 rfl) (tw hw 65 rfl) (tw hw 59 rfl) (tw hw 66 rfl) (by decide) (rmTo_2 l Z a0 hw hr b kb c0 c1 h2 w.old Ab) (lenOf pd_3 rfl) rfl rfl (Nat.le_refl _) ⟨by decide, by decide, by decide, by decide⟩ all0 ?_
  intro T h3 r w _ hQ
  obtain ⟨e, ke, rfl, E3, ge, Ae⟩ := hQ
  show Go x _ Z _ _ _ T 26 #[.val (.ref b), .val (.int (0 : Int32)), .val (.int (2 : Int32)), .val (.ref d), .val (.int (0 : Int32)), .unset] [(.ref e)]
  refine w.astore #[.val (.ref b), .val (.int (0 : Int32)), .val (.int (2 : Int32)), .val (.ref d), .val (.int (0 : Int32)), .val (.ref e)] d11_26 rfl rfl ?_
  refine w.aload d11_28 rfl rfl ?_
  refine w.iload d11_30 rfl ?_
  refine w.callS (argsL := [(.ref e), (.int (0 : Int32))]) (rest := []) 0 d11_32 (tw hw 80 rfl) (tw hw 81 rfl) (tw hw 59 rfl) (tw hw 82 rfl) (by decide) (rmGe_2_0 l Z a0 hw hr e ke c0 c1 h3 w.old Ae z0 v0) (lenOf pd_8 rfl) rfl rfl (Nat.le_refl _) ⟨by decide, by decide, by decide, by decide⟩ all0 ?_
  intro T h4 r w _ hQ
  obtain ⟨rfl, rfl⟩ := hQ
  show Go x _ Z _ _ _ T 35 #[.val (.ref b), .val (.int (0 : Int32)), .val (.int (2 : Int32)), .val (.ref d), .val (.int (0 : Int32)), .val (.ref e)] [(.int c0)]
  refine w.sipush (255 : Int32) d11_35 rfl ?_
  refine w.icmpGt d11_38 d11_38t (fun _ => ?_) (fun q => absurd gp q)
  refine w.aload d11_54 rfl rfl ?_
  exact w.retA d11_56 rfl rfl rfl rfl ⟨e, ke, rfl, ext_trans E2 E3, Nat.le_trans E2.1 ge, Ae⟩

set_option maxRecDepth 65536 in
set_option maxHeartbeats 40000000 in
theorem rmC5x_2_1 (l : Launch) (Z : State) (a0 : Array Value) (hw : ∀ d ∈ tables_1, d.before a0 Z = true) (b d : Addr) (kb kd : ClassId) (c0 c1 : Int32) (h0 : Heap) (hE : Ext Z.heap h0) (ge_d : Z.heap.size ≤ d) (nbd : b ≠ d) (Ab : Arv Z h0 b kb .char (2 : Int32) [(.int c0), (.int c1)] (.int 0)) (Ad : Arv Z h0 d kd .byte (2 : Int32) [] (.int 0)) (u0 : ¬ 255 < c0) (gp : 255 < c1) :
    Ct true l Z consts_1 (⟨"java/lang/StringUTF16", "compress", "([CI[BII)I"⟩ : MethodName) jdk_52_method_21_code 7 (some .int) [] ({ frames := 0, cells := 0, slots := 0, locals := 0 } : Room) [d] #[(.ref b), (.int (0 : Int32)), (.ref d), (.int (0 : Int32)), (.int (2 : Int32))] h0 (fun r u => r = some (.int (1 : Int32)) ∧ Keep h0 u [d]) := by
  refine Ct.intro pn_java_lang_StringUTF16 hE (fun m => ef12_ririi m b _ d _ _) (onesf ge_d Ad.lt) ⟨a0, own_EW hw⟩ ?_
  intro x T w
  refine w.iconst (0 : Int32) d12_0 rfl ?_
  refine w.istore #[.val (.ref b), .val (.int (0 : Int32)), .val (.ref d), .val (.int (0 : Int32)), .val (.int (2 : Int32)), .val (.int (0 : Int32)), .unset] d12_1 rfl ?_
  refine w.iload d12_3 rfl ?_
  refine w.iload d12_5 rfl ?_
  refine w.icmpGe d12_7 d12_7t (fun q => absurd (by decide) q) (fun _ => ?_)
  refine w.aloadN d12_10 rfl rfl ?_
  refine w.iloadN d12_11 rfl ?_
  obtain ⟨cl0, Ar0, -, S0, -, H0, -⟩ := id Ab
  refine w.caload d12_12 Ar0 (inb_of S0 (by decide)) (H0.at (inb_of S0 (by decide)) rfl) ?_
  refine w.istore #[.val (.ref b), .val (.int (0 : Int32)), .val (.ref d), .val (.int (0 : Int32)), .val (.int (2 : Int32)), .val (.int (0 : Int32)), .val (.int c0)] d12_13 rfl ?_
  refine w.iload d12_15 rfl ?_
  refine w.sipush (255 : Int32) d12_17 rfl ?_
  refine w.icmpLe d12_20 d12_20t (fun _ => ?_) (fun q => absurd q u0)
  refine w.aloadN d12_26 rfl rfl ?_
  refine w.iloadN d12_27 rfl ?_
  refine w.iload d12_28 rfl ?_
  refine w.i2b d12_30 ?_
  refine w.stB 0 [(.int 0)] d12_31 Ad ⟨by decide, by decide⟩ (by decide) (pad_rep [] (.int 0) 1) (by simp) (fnb _) (List.mem_of_getElem? (i := 0) rfl) ?_
  intro T h1 w W0 A0
  rw [nbb] at A0 W0
  have Ad0 : Arv Z h1 d kd .byte (2 : Int32) [(.int (nar .byte c0))] (.int 0) := A0
  have Ab0 := Ab.other W0 nbd
  refine w.iinc (1 : Int32) #[.val (.ref b), .val (.int (1 : Int32)), .val (.ref d), .val (.int (0 : Int32)), .val (.int (2 : Int32)), .val (.int (0 : Int32)), .val (.int c0)] d12_32 rfl rfl rfl ?_
  refine w.iinc (1 : Int32) #[.val (.ref b), .val (.int (1 : Int32)), .val (.ref d), .val (.int (1 : Int32)), .val (.int (2 : Int32)), .val (.int (0 : Int32)), .val (.int c0)] d12_35 rfl rfl rfl ?_
  refine w.iinc (1 : Int32) #[.val (.ref b), .val (.int (1 : Int32)), .val (.ref d), .val (.int (1 : Int32)), .val (.int (2 : Int32)), .val (.int (1 : Int32)), .val (.int c0)] d12_38 rfl rfl rfl ?_
  refine w.goto d12_41 d12_41t ?_
  refine w.iload d12_3 rfl ?_
  refine w.iload d12_5 rfl ?_
  refine w.icmpGe d12_7 d12_7t (fun q => absurd (by decide) q) (fun _ => ?_)
  refine w.aloadN d12_10 rfl rfl ?_
  refine w.iloadN d12_11 rfl ?_
  obtain ⟨cl1, Ar1, -, S1, -, H1, -⟩ := id Ab0
  refine w.caload d12_12 Ar1 (inb_of S1 (by decide)) (H1.at (inb_of S1 (by decide)) rfl) ?_
  refine w.istore #[.val (.ref b), .val (.int (1 : Int32)), .val (.ref d), .val (.int (1 : Int32)), .val (.int (2 : Int32)), .val (.int (1 : Int32)), .val (.int c1)] d12_13 rfl ?_
  refine w.iload d12_15 rfl ?_
  refine w.sipush (255 : Int32) d12_17 rfl ?_
  refine w.icmpLe d12_20 d12_20t (fun q => absurd gp q) (fun _ => ?_)
  refine w.iload d12_23 rfl ?_
  exact w.retI d12_25 rfl ⟨rfl, ((Keep.refl _ _).wr W0 (Or.inl (List.mem_singleton.mpr rfl)))⟩

set_option maxRecDepth 65536 in
set_option maxHeartbeats 40000000 in
theorem rmGe_2_1 (l : Launch) (Z : State) (a0 : Array Value) (hw : ∀ d ∈ tables_1, d.before a0 Z = true) (hr : rest_1_c.value a0 Z none Z [] = some true) (t : Addr) (kb : ClassId) (c0 c1 : Int32) (h0 : Heap) (hE : Ext Z.heap h0) (A : Arv Z h0 t kb .byte (4 : Int32) [(.int (nar .byte (c0 >>> ((0 : Int32) &&& 31)))), (.int (nar .byte (c0 >>> ((8 : Int32) &&& 31)))), (.int (nar .byte (c1 >>> ((0 : Int32) &&& 31)))), (.int (nar .byte (c1 >>> ((8 : Int32) &&& 31))))] (.int 0)) (z : 0 ≤ c1.toInt) (v : c1.toInt < 65536) :
    Ct true l Z consts_1 (⟨"java/lang/StringUTF16", "getChar", "([BI)C"⟩ : MethodName) jdk_52_method_5_code 2 (some .char) [] ({ frames := 0, cells := 0, slots := 0, locals := 0 } : Room) [] #[(.ref t), (.int (1 : Int32))] h0 (fun r u => r = some (.int c1) ∧ h0 = u) := by
  refine Ct.intro pn_java_lang_StringUTF16 hE (fun m => ef17_ri m t _) nosf ⟨a0, own_EW hw⟩ ?_
  intro x T w
  obtain ⟨cl, Ar, -, S, M, H, -⟩ := id A
  refine w.getS d17_0 (tw hw 77 rfl) (own_ad hr) ?_
  intro T w
  refine w.ifNe d17_3 d17_3t (fun _ => ?_) (fun q => absurd q (by decide))
  refine w.iloadN d17_28 rfl ?_
  refine w.iconst (1 : Int32) d17_29 rfl ?_
  refine w.ishl d17_30 ?_
  refine w.istoreN #[.val (.ref t), .val (.int ((1 : Int32) <<< ((1 : Int32) &&& 31)))] d17_31 rfl ?_
  refine w.aloadN d17_32 rfl rfl ?_
  refine w.iloadN d17_33 rfl ?_
  refine w.iinc (1 : Int32) #[.val (.ref t), .val (.int (((1 : Int32) <<< ((1 : Int32) &&& 31)) + (1 : Int32)))] d17_34 rfl rfl rfl ?_
  refine w.baload (v := .int (nar .byte (c1 >>> ((0 : Int32) &&& 31)))) d17_37 Ar (inb_of S (by decide)) (H.at (inb_of S (by decide)) (by rw [show (((1 : Int32) <<< ((1 : Int32) &&& 31))).toNatClampNeg = 2 by decide]; rfl)) ?_
  refine w.sipush (255 : Int32) d17_38 rfl ?_
  refine w.iand d17_41 ?_
  refine w.getS d17_42 (tw hw 78 rfl) (own_hi hr) ?_
  intro T w
  refine w.ishl d17_45 ?_
  refine w.aloadN d17_46 rfl rfl ?_
  refine w.iloadN d17_47 rfl ?_
  refine w.baload (v := .int (nar .byte (c1 >>> ((8 : Int32) &&& 31)))) d17_48 Ar (inb_of S (by decide)) (H.at (inb_of S (by decide)) (by rw [show ((((1 : Int32) <<< ((1 : Int32) &&& 31)) + (1 : Int32))).toNatClampNeg = 3 by decide]; rfl)) ?_
  refine w.sipush (255 : Int32) d17_49 rfl ?_
  refine w.iand d17_52 ?_
  refine w.getS d17_53 (tw hw 79 rfl) (own_lo hr) ?_
  intro T w
  refine w.ishl d17_56 ?_
  refine w.ior d17_57 ?_
  refine w.i2c d17_58 ?_
  exact w.retN d17_59 rfl (by simp) ⟨by rw [ncc, own_gc z v], rfl⟩

set_option maxRecDepth 65536 in
set_option maxHeartbeats 40000000 in
theorem rmC3x_2_1 (l : Launch) (Z : State) (a0 : Array Value) (hw : ∀ d ∈ tables_1, d.before a0 Z = true) (hr : rest_1_c.value a0 Z none Z [] = some true) (b : Addr) (kb : ClassId) (c0 c1 : Int32) (h0 : Heap) (hE : Ext Z.heap h0) (Ab : Arv Z h0 b kb .char (2 : Int32) [(.int c0), (.int c1)] (.int 0)) (z0 : 0 ≤ c0.toInt) (v0 : c0.toInt < 65536) (z1 : 0 ≤ c1.toInt) (v1 : c1.toInt < 65536) (u0 : ¬ 255 < c0) (gp : 255 < c1) :
    Ct true l Z consts_1 (⟨"java/lang/StringUTF16", "compress", "([CII)[B"⟩ : MethodName) jdk_52_method_16_code 6 (some (.array .byte)) [] ({ frames := 3, cells := 2, slots := 6, locals := 40 } : Room) [] #[(.ref b), (.int (0 : Int32)), (.int (2 : Int32))] h0 (fun r u => ∃ d kd, r = some (.ref d) ∧ Ext h0 u ∧ h0.size ≤ d ∧ Arv Z u d kd .byte (4 : Int32) [(.int (nar .byte (c0 >>> ((0 : Int32) &&& 31)))), (.int (nar .byte (c0 >>> ((8 : Int32) &&& 31)))), (.int (nar .byte (c1 >>> ((0 : Int32) &&& 31)))), (.int (nar .byte (c1 >>> ((8 : Int32) &&& 31))))] (.int 0)) := by
  refine Ct.intro pn_java_lang_StringUTF16 hE (fun m => ef11_rii m b _ _) nosf ⟨a0, own_EW hw⟩ ?_
  intro x T w
  refine w.iloadN d11_0 rfl ?_
  have sz0 := w.size
  refine w.newP 2 "[B" d11_1 (tw hw 27 rfl) (by decide) (by decide) (by decide) (by decide) ⟨by decide, by decide⟩ ?_
  intro d T h1 kd g_d w E_d A_d X_d
  have ge_d : Z.heap.size ≤ d := by rw [g_d]; exact sz0
  have nbd : b ≠ d := Nat.ne_of_lt (Nat.lt_of_lt_of_eq Ab.lt g_d.symm)
  refine w.astoreN #[.val (.ref b), .val (.int (0 : Int32)), .val (.int (2 : Int32)), .val (.ref d), .unset, .unset] d11_3 rfl rfl ?_
  refine w.aloadN d11_4 rfl rfl ?_
  refine w.iloadN d11_5 rfl ?_
  refine w.aloadN d11_6 rfl rfl ?_
  refine w.iconst (0 : Int32) d11_7 rfl ?_
  refine w.iloadN d11_8 rfl ?_
  refine w.callS (argsL := [(.ref b), (.int (0 : Int32)), (.ref d), (.int (0 : Int32)), (.int (2 : Int32))]) (rest := []) 0 d11_9 (tw hw 61 rfl) (tw hw 62 rfl) (tw hw 59 rfl) (tw hw 63 rfl) (by decide) (rmC5x_2_1 l Z a0 hw b d kb kd c0 c1 h1 w.old ge_d nbd (Ab.ext E_d) A_d u0 gp) (lenOf pd_2 rfl) rfl rfl (Nat.le_refl _) ⟨by decide, by decide, by decide, by decide⟩ (allS (List.mem_of_getElem? (i := 0) rfl) all0) ?_
  intro T h2 r w _ hQ
  obtain ⟨rfl, K1⟩ := hQ
  have E2 := keep_to E_d K1 (allS (Nat.le_of_eq g_d.symm) all0)
  have Ab := Ab.ext E2
  show Go x _ Z _ _ _ T 12 #[.val (.ref b), .val (.int (0 : Int32)), .val (.int (2 : Int32)), .val (.ref d), .unset, .unset] [(.int (1 : Int32))]
  refine w.istore #[.val (.ref b), .val (.int (0 : Int32)), .val (.int (2 : Int32)), .val (.ref d), .val (.int (1 : Int32)), .unset] d11_12 rfl ?_
  refine w.iload d11_14 rfl ?_
  refine w.iloadN d11_16 rfl ?_
  refine w.icmpEq d11_17 d11_17t (fun q => absurd q (by decide)) (fun _ => ?_)
  refine w.aloadN d11_20 rfl rfl ?_
  refine w.iloadN d11_21 rfl ?_
  refine w.iloadN d11_22 rfl ?_
  refine w.callS (argsL := [(.ref b), (.int (0 : Int32)), (.int (2 : Int32))]) (rest := []) 0 d11_23 (tw hw 64 rfl) (tw hw 65 rfl) (tw hw 59 rfl) (tw hw 66 rfl) (by decide) (rmTo_2 l Z a0 hw hr b kb c0 c1 h2 w.old Ab) (lenOf pd_3 rfl) rfl rfl (Nat.le_refl _) ⟨by decide, by decide, by decide, by decide⟩ all0 ?_
  intro T h3 r w _ hQ
  obtain ⟨e, ke, rfl, E3, ge, Ae⟩ := hQ
  show Go x _ Z _ _ _ T 26 #[.val (.ref b), .val (.int (0 : Int32)), .val (.int (2 : Int32)), .val (.ref d), .val (.int (1 : Int32)), .unset] [(.ref e)]
  refine w.astore #[.val (.ref b), .val (.int (0 : Int32)), .val (.int (2 : Int32)), .val (.ref d), .val (.int (1 : Int32)), .val (.ref e)] d11_26 rfl rfl ?_
  refine w.aload d11_28 rfl rfl ?_
  refine w.iload d11_30 rfl ?_
  refine w.callS (argsL := [(.ref e), (.int (1 : Int32))]) (rest := []) 0 d11_32 (tw hw 80 rfl) (tw hw 81 rfl) (tw hw 59 rfl) (tw hw 82 rfl) (by decide) (rmGe_2_1 l Z a0 hw hr e ke c0 c1 h3 w.old Ae z1 v1) (lenOf pd_8 rfl) rfl rfl (Nat.le_refl _) ⟨by decide, by decide, by decide, by decide⟩ all0 ?_
  intro T h4 r w _ hQ
  obtain ⟨rfl, rfl⟩ := hQ
  show Go x _ Z _ _ _ T 35 #[.val (.ref b), .val (.int (0 : Int32)), .val (.int (2 : Int32)), .val (.ref d), .val (.int (1 : Int32)), .val (.ref e)] [(.int c1)]
  refine w.sipush (255 : Int32) d11_35 rfl ?_
  refine w.icmpGt d11_38 d11_38t (fun _ => ?_) (fun q => absurd gp q)
  refine w.aload d11_54 rfl rfl ?_
  exact w.retA d11_56 rfl rfl rfl rfl ⟨e, ke, rfl, ext_trans E2 E3, Nat.le_trans E2.1 ge, Ae⟩

theorem rmC3U_2 (l : Launch) (Z : State) (a0 : Array Value) (hw : ∀ d ∈ tables_1, d.before a0 Z = true) (hr : rest_1_c.value a0 Z none Z [] = some true) (b : Addr) (kb : ClassId) (c0 c1 : Int32) (h0 : Heap) (hE : Ext Z.heap h0) (Ab : Arv Z h0 b kb .char (2 : Int32) [(.int c0), (.int c1)] (.int 0)) (z0 : 0 ≤ c0.toInt) (v0 : c0.toInt < 65536) (z1 : 0 ≤ c1.toInt) (v1 : c1.toInt < 65536) (hx : ¬ (¬ 255 < c0 ∧ ¬ 255 < c1 ∧ True)) : Ct true l Z consts_1 (⟨"java/lang/StringUTF16", "compress", "([CII)[B"⟩ : MethodName) jdk_52_method_16_code 6 (some (.array .byte)) [] ({ frames := 3, cells := 2, slots := 6, locals := 40 } : Room) [] #[(.ref b), (.int (0 : Int32)), (.int (2 : Int32))] h0 (fun r u => ∃ d kd, r = some (.ref d) ∧ Ext h0 u ∧ h0.size ≤ d ∧ Arv Z u d kd .byte (4 : Int32) [(.int (nar .byte (c0 >>> ((0 : Int32) &&& 31)))), (.int (nar .byte (c0 >>> ((8 : Int32) &&& 31)))), (.int (nar .byte (c1 >>> ((0 : Int32) &&& 31)))), (.int (nar .byte (c1 >>> ((8 : Int32) &&& 31))))] (.int 0)) := by
  by_cases u0 : 255 < c0
  · exact rmC3x_2_0 l Z a0 hw hr b kb c0 c1 h0 hE Ab z0 v0 z1 v1  u0
  · skip
    by_cases u1 : 255 < c1
    · exact rmC3x_2_1 l Z a0 hw hr b kb c0 c1 h0 hE Ab z0 v0 z1 v1 u0 u1
    · exact absurd ⟨u0, u1, trivial⟩ hx
set_option maxRecDepth 65536 in
set_option maxHeartbeats 40000000 in
theorem rmCL_4_2 (l : Launch) (Z : State) (a0 : Array Value) (hw : ∀ d ∈ tables_1, d.before a0 Z = true) (d : Addr) (kd : ClassId) (vs : List Value) (h0 : Heap) (hE : Ext Z.heap h0) (Ad : Arv Z h0 d kd .byte (4 : Int32) vs (.int 0)) :
    Ct true l Z consts_1 (⟨"java/lang/StringUTF16", "coderFromArrayLen", "([BI)B"⟩ : MethodName) jdk_52_method_15_code 2 (some .byte) [] ({ frames := 0, cells := 0, slots := 0, locals := 0 } : Room) [] #[(.ref d), (.int (2 : Int32))] h0 (fun r u => r = some (.int (1 : Int32)) ∧ h0 = u) := by
  refine Ct.intro pn_java_lang_StringUTF16 hE (fun m => ef18_ri m d _) nosf ⟨a0, own_EW hw⟩ ?_
  intro x T w
  obtain ⟨cl, Ar, -, S, M, -, -⟩ := Ad
  refine w.iloadN d18_0 rfl ?_
  refine w.aloadN d18_1 rfl rfl ?_
  refine w.alen (4 : Int32) d18_2 Ar (len_of S M) ?_
  refine w.isub d18_3 ?_
  refine w.bipush (31 : Int32) d18_4 rfl ?_
  refine w.iushr d18_6 ?_
  refine w.i2b d18_7 ?_
  exact w.retN d18_8 rfl (by simp) ⟨rfl, rfl⟩

set_option maxRecDepth 65536 in
set_option maxHeartbeats 40000000 in
theorem rmS4u_2 (l : Launch) (Z : State) (a0 : Array Value) (hw : ∀ d ∈ tables_1, d.before a0 Z = true) (hr : rest_1_c.value a0 Z none Z [] = some true) (a b : Addr) (kb : ClassId) (c0 c1 : Int32) (h0 : Heap) (hE : Ext Z.heap h0) (ge_a : Z.heap.size ≤ a) (E0 : Exa Z h0 a "java/lang/String") (G1 : Fld Z h0 a "java/lang/String" "value" "[B" .null) (G2 : Fld Z h0 a "java/lang/String" "coder" "B" (.int (0 : Int32))) (Ab : Arv Z h0 b kb .char (2 : Int32) [(.int c0), (.int c1)] (.int 0)) (z0 : 0 ≤ c0.toInt) (v0 : c0.toInt < 65536) (z1 : 0 ≤ c1.toInt) (v1 : c1.toInt < 65536) (hx : ¬ (¬ 255 < c0 ∧ ¬ 255 < c1 ∧ True)) :
    Ct true l Z consts_1 (⟨"java/lang/String", "<init>", "([CIILjava/lang/Void;)V"⟩ : MethodName) jdk_42_method_149_code 6 none [] ({ frames := 4, cells := 2, slots := 6, locals := 57 } : Room) [a] #[(.ref a), (.ref b), (.int (0 : Int32)), (.int (2 : Int32)), .null] h0 (fun r u => r = none ∧ Keep h0 u [a] ∧ ∃ t, StrL Z u a t 1 [nar .byte (c0 >>> ((0 : Int32) &&& 31)), nar .byte (c0 >>> ((8 : Int32) &&& 31)), nar .byte (c1 >>> ((0 : Int32) &&& 31)), nar .byte (c1 >>> ((8 : Int32) &&& 31))]) := by
  refine Ct.intro pn_java_lang_String hE (fun m => ef4_rriin m a b _ _) (onesf ge_a E0.lt) ⟨a0, own_EW hw⟩ ?_
  intro x T w
  obtain ⟨cz, Scs, hcz⟩ := own_cs hr
  refine w.aloadN d4_0 rfl rfl ?_
  refine w.initO 0 d4_1 (tw hw 23 rfl) (tw hw 24 rfl) (tw hw 25 rfl) rfl (Nat.le_refl _) ⟨by decide, by decide⟩ ?_
  intro T w
  refine w.iloadN d4_4 rfl ?_
  refine w.ifNe d4_5 d4_5t (fun _ => ?_) (fun q => absurd q (by decide))
  refine w.getS d4_27 (tw hw 48 rfl) Scs ?_
  intro T w
  refine w.ifEq d4_30 d4_30t (fun q => absurd q hcz) (fun _ => ?_)
  refine w.aloadN d4_33 rfl rfl ?_
  refine w.iloadN d4_34 rfl ?_
  refine w.iloadN d4_35 rfl ?_
  refine w.callS (argsL := [(.ref b), (.int (0 : Int32)), (.int (2 : Int32))]) (rest := []) 0 d4_36 (tw hw 57 rfl) (tw hw 58 rfl) (tw hw 59 rfl) (tw hw 60 rfl) (by decide) (rmC3U_2 l Z a0 hw hr b kb c0 c1 h0 w.old Ab z0 v0 z1 v1 hx) (lenOf pd_3 rfl) rfl rfl (Nat.le_refl _) ⟨by decide, by decide, by decide, by decide⟩ all0 ?_
  intro T h1 r w _ hQ
  obtain ⟨d, kd, rfl, E1, gd, A1⟩ := hQ
  have ne_a_d : a ≠ d := Nat.ne_of_lt (Nat.lt_of_lt_of_le E0.lt gd)
  have F1 := E0.ext E1
  have F2 := G1.ext E1
  have F3 := G2.ext E1
  show Go x _ Z _ _ _ T 39 #[.val (.ref a), .val (.ref b), .val (.int (0 : Int32)), .val (.int (2 : Int32)), .val .null, .unset] [(.ref d)]
  refine w.astore #[.val (.ref a), .val (.ref b), .val (.int (0 : Int32)), .val (.int (2 : Int32)), .val .null, .val (.ref d)] d4_39 rfl rfl ?_
  refine w.aloadN d4_41 rfl rfl ?_
  refine w.aload d4_42 rfl rfl ?_
  refine w.iloadN d4_44 rfl ?_
  refine w.callS (argsL := [(.ref d), (.int (2 : Int32))]) (rest := [(.ref a)]) 1 d4_45 (tw hw 83 rfl) (tw hw 84 rfl) (tw hw 59 rfl) (tw hw 85 rfl) (by decide) (rmCL_4_2 l Z a0 hw d kd _ h1 w.old A1) (lenOf pd_4 rfl) rfl rfl (Nat.le_refl _) ⟨by decide, by decide, by decide, by decide⟩ all0 ?_
  intro T h2 r w _ hQ
  obtain ⟨rfl, rfl⟩ := hQ
  show Go x _ Z _ _ _ T 48 #[.val (.ref a), .val (.ref b), .val (.int (0 : Int32)), .val (.int (2 : Int32)), .val .null, .val (.ref d)] [(.int (1 : Int32)), (.ref a)]
  refine w.putF d4_48 (tw hw 33 rfl) F3 F1 (Or.inr ⟨(tw hw 29 rfl), rfl, rfl⟩) (tw hw 14 rfl) (ty := .byte) (by decide) rfl rfl (List.mem_of_getElem? (i := 0) rfl) ?_
  intro T h3 w W4
  have F5 := F1.wr W4
  have F6 := F2.other W4 (Or.inr (slot_ne (Or.inr (tw hw 28 rfl)) (Or.inr (tw hw 29 rfl)) (by decide) (t := (.array .byte)) (t' := .byte) (by decide) (by decide)))
  have F7 := F3.same W4
  have F8 := A1.other W4 (Ne.symm ne_a_d)
  refine w.aloadN d4_51 rfl rfl ?_
  refine w.aload d4_52 rfl rfl ?_
  refine w.putF d4_54 (tw hw 32 rfl) F6 F5 (Or.inr ⟨(tw hw 28 rfl), rfl, rfl⟩) (tw hw 14 rfl) (ty := (.array .byte)) (by decide) rfl rfl (List.mem_of_getElem? (i := 0) rfl) ?_
  intro T h4 w W9
  have F10 := F5.wr W9
  have F11 := F6.same W9
  have F12 := F7.other W9 (Or.inr (slot_ne (Or.inr (tw hw 29 rfl)) (Or.inr (tw hw 28 rfl)) (by decide) (t := .byte) (t' := (.array .byte)) (by decide) (by decide)))
  have F13 := F8.other W9 (Ne.symm ne_a_d)
  exact w.retV d4_57 rfl ⟨rfl, (((keep_ext E1).wr W4 (Or.inl (List.mem_singleton.mpr rfl))).wr W9 (Or.inl (List.mem_singleton.mpr rfl))), d, F10, F11, F12, kd, F13, by simp⟩

set_option maxRecDepth 65536 in
set_option maxHeartbeats 40000000 in
theorem rmS1E_2 (l : Launch) (Z : State) (a0 : Array Value) (hw : ∀ d ∈ tables_1, d.before a0 Z = true) (hr : rest_1_c.value a0 Z none Z [] = some true) (a b : Addr) (kb : ClassId) (c0 c1 : Int32) (h0 : Heap) (hE : Ext Z.heap h0) (ge_a : Z.heap.size ≤ a) (E0 : Exa Z h0 a "java/lang/String") (G1 : Fld Z h0 a "java/lang/String" "value" "[B" .null) (G2 : Fld Z h0 a "java/lang/String" "coder" "B" (.int (0 : Int32))) (Ab : Arv Z h0 b kb .char (2 : Int32) [(.int c0), (.int c1)] (.int 0)) (z0 : 0 ≤ c0.toInt) (v0 : c0.toInt < 65536) (z1 : 0 ≤ c1.toInt) (v1 : c1.toInt < 65536) :
    Ct true l Z consts_1 (⟨"java/lang/String", "<init>", "([C)V"⟩ : MethodName) jdk_42_method_3_code 2 none [] ({ frames := 5, cells := 2, slots := 6, locals := 74 } : Room) [a] #[(.ref a), (.ref b)] h0 (fun r u => r = none ∧ Keep h0 u [a] ∧ ∃ t, ((StrL Z u a t 0 [nar .byte c0, nar .byte c1] ∧ (¬ 255 < c0 ∧ ¬ 255 < c1 ∧ True)) ∨ StrL Z u a t 1 [nar .byte (c0 >>> ((0 : Int32) &&& 31)), nar .byte (c0 >>> ((8 : Int32) &&& 31)), nar .byte (c1 >>> ((0 : Int32) &&& 31)), nar .byte (c1 >>> ((8 : Int32) &&& 31))])) := by
  refine Ct.intro pn_java_lang_String hE (fun m => ef3_rr m a b) (onesf ge_a E0.lt) ⟨a0, own_EW hw⟩ ?_
  intro x T w
  obtain ⟨cl, Ar, -, S, M, -, -⟩ := id Ab
  by_cases hx : (¬ 255 < c0 ∧ ¬ 255 < c1 ∧ True)
  · refine w.aloadN d3_0 rfl rfl ?_
    refine w.aloadN d3_1 rfl rfl ?_
    refine w.iconst (0 : Int32) d3_2 rfl ?_
    refine w.aloadN d3_3 rfl rfl ?_
    refine w.alen (2 : Int32) d3_4 Ar (len_of S M) ?_
    refine w.aconstNull d3_5 ?_
    refine w.callI (argsL := [(.ref b), (.int (0 : Int32)), (.int (2 : Int32)), .null]) (rest := []) 0 d3_6 rfl (tw hw 19 rfl) (tw hw 20 rfl) (tw hw 15 rfl) (tw hw 22 rfl) (by decide) (rmS4_2 l Z a0 hw hr a b kb c0 c1 h0 w.old ge_a E0 G1 G2 Ab hx.1 hx.2.1) (lenOf pd_0 rfl) rfl rfl (Nat.le_refl _) ⟨by decide, by decide, by decide, by decide⟩ (allS (List.mem_of_getElem? (i := 0) rfl) all0) ?_
    intro T h1 r w _ hQ
    obtain ⟨rfl, K1, t, gt, S1⟩ := hQ
    exact w.retV d3_9 rfl ⟨rfl, K1, t, Or.inl ⟨S1, hx⟩⟩
  · refine w.aloadN d3_0 rfl rfl ?_
    refine w.aloadN d3_1 rfl rfl ?_
    refine w.iconst (0 : Int32) d3_2 rfl ?_
    refine w.aloadN d3_3 rfl rfl ?_
    refine w.alen (2 : Int32) d3_4 Ar (len_of S M) ?_
    refine w.aconstNull d3_5 ?_
    refine w.callI (argsL := [(.ref b), (.int (0 : Int32)), (.int (2 : Int32)), .null]) (rest := []) 0 d3_6 rfl (tw hw 19 rfl) (tw hw 20 rfl) (tw hw 15 rfl) (tw hw 22 rfl) (by decide) (rmS4u_2 l Z a0 hw hr a b kb c0 c1 h0 w.old ge_a E0 G1 G2 Ab z0 v0 z1 v1 hx) (lenOf pd_0 rfl) rfl rfl (Nat.le_refl _) ⟨by decide, by decide, by decide, by decide⟩ (allS (List.mem_of_getElem? (i := 0) rfl) all0) ?_
    intro T h2 r w _ hQ
    obtain ⟨rfl, K1, t, S1⟩ := hQ
    exact w.retV d3_9 rfl ⟨rfl, K1, t, Or.inr S1⟩

set_option maxRecDepth 65536 in
set_option maxHeartbeats 40000000 in
theorem rmC5_3 (l : Launch) (Z : State) (a0 : Array Value) (hw : ∀ d ∈ tables_1, d.before a0 Z = true) (b d : Addr) (kb kd : ClassId) (c0 c1 c2 : Int32) (h0 : Heap) (hE : Ext Z.heap h0) (ge_d : Z.heap.size ≤ d) (nbd : b ≠ d) (Ab : Arv Z h0 b kb .char (3 : Int32) [(.int c0), (.int c1), (.int c2)] (.int 0)) (Ad : Arv Z h0 d kd .byte (3 : Int32) [] (.int 0)) (u0 : ¬ 255 < c0) (u1 : ¬ 255 < c1) (u2 : ¬ 255 < c2) :
    Ct true l Z consts_1 (⟨"java/lang/StringUTF16", "compress", "([CI[BII)I"⟩ : MethodName) jdk_52_method_21_code 7 (some .int) [] ({ frames := 0, cells := 0, slots := 0, locals := 0 } : Room) [d] #[(.ref b), (.int (0 : Int32)), (.ref d), (.int (0 : Int32)), (.int (3 : Int32))] h0 (fun r u => r = some (.int (3 : Int32)) ∧ Keep h0 u [d] ∧ Arv Z u d kd .byte (3 : Int32) [(.int (nar .byte c0)), (.int (nar .byte c1)), (.int (nar .byte c2))] (.int 0)) := by
  refine Ct.intro pn_java_lang_StringUTF16 hE (fun m => ef12_ririi m b _ d _ _) (onesf ge_d Ad.lt) ⟨a0, own_EW hw⟩ ?_
  intro x T w
  refine w.iconst (0 : Int32) d12_0 rfl ?_
  refine w.istore #[.val (.ref b), .val (.int (0 : Int32)), .val (.ref d), .val (.int (0 : Int32)), .val (.int (3 : Int32)), .val (.int (0 : Int32)), .unset] d12_1 rfl ?_
  refine w.iload d12_3 rfl ?_
  refine w.iload d12_5 rfl ?_
  refine w.icmpGe d12_7 d12_7t (fun q => absurd (by decide) q) (fun _ => ?_)
  refine w.aloadN d12_10 rfl rfl ?_
  refine w.iloadN d12_11 rfl ?_
  obtain ⟨cl0, Ar0, -, S0, -, H0, -⟩ := id Ab
  refine w.caload d12_12 Ar0 (inb_of S0 (by decide)) (H0.at (inb_of S0 (by decide)) rfl) ?_
  refine w.istore #[.val (.ref b), .val (.int (0 : Int32)), .val (.ref d), .val (.int (0 : Int32)), .val (.int (3 : Int32)), .val (.int (0 : Int32)), .val (.int c0)] d12_13 rfl ?_
  refine w.iload d12_15 rfl ?_
  refine w.sipush (255 : Int32) d12_17 rfl ?_
  refine w.icmpLe d12_20 d12_20t (fun _ => ?_) (fun q => absurd q u0)
  refine w.aloadN d12_26 rfl rfl ?_
  refine w.iloadN d12_27 rfl ?_
  refine w.iload d12_28 rfl ?_
  refine w.i2b d12_30 ?_
  refine w.stB 0 [(.int 0)] d12_31 Ad ⟨by decide, by decide⟩ (by decide) (pad_rep [] (.int 0) 1) (by simp) (fnb _) (List.mem_of_getElem? (i := 0) rfl) ?_
  intro T h1 w W0 A0
  rw [nbb] at A0 W0
  have Ad0 : Arv Z h1 d kd .byte (3 : Int32) [(.int (nar .byte c0))] (.int 0) := A0
  have Ab0 := Ab.other W0 nbd
  refine w.iinc (1 : Int32) #[.val (.ref b), .val (.int (1 : Int32)), .val (.ref d), .val (.int (0 : Int32)), .val (.int (3 : Int32)), .val (.int (0 : Int32)), .val (.int c0)] d12_32 rfl rfl rfl ?_
  refine w.iinc (1 : Int32) #[.val (.ref b), .val (.int (1 : Int32)), .val (.ref d), .val (.int (1 : Int32)), .val (.int (3 : Int32)), .val (.int (0 : Int32)), .val (.int c0)] d12_35 rfl rfl rfl ?_
  refine w.iinc (1 : Int32) #[.val (.ref b), .val (.int (1 : Int32)), .val (.ref d), .val (.int (1 : Int32)), .val (.int (3 : Int32)), .val (.int (1 : Int32)), .val (.int c0)] d12_38 rfl rfl rfl ?_
  refine w.goto d12_41 d12_41t ?_
  refine w.iload d12_3 rfl ?_
  refine w.iload d12_5 rfl ?_
  refine w.icmpGe d12_7 d12_7t (fun q => absurd (by decide) q) (fun _ => ?_)
  refine w.aloadN d12_10 rfl rfl ?_
  refine w.iloadN d12_11 rfl ?_
  obtain ⟨cl1, Ar1, -, S1, -, H1, -⟩ := id Ab0
  refine w.caload d12_12 Ar1 (inb_of S1 (by decide)) (H1.at (inb_of S1 (by decide)) rfl) ?_
  refine w.istore #[.val (.ref b), .val (.int (1 : Int32)), .val (.ref d), .val (.int (1 : Int32)), .val (.int (3 : Int32)), .val (.int (1 : Int32)), .val (.int c1)] d12_13 rfl ?_
  refine w.iload d12_15 rfl ?_
  refine w.sipush (255 : Int32) d12_17 rfl ?_
  refine w.icmpLe d12_20 d12_20t (fun _ => ?_) (fun q => absurd q u1)
  refine w.aloadN d12_26 rfl rfl ?_
  refine w.iloadN d12_27 rfl ?_
  refine w.iload d12_28 rfl ?_
  refine w.i2b d12_30 ?_
  refine w.stB 1 [(.int (nar .byte c0)), (.int 0)] d12_31 Ad0 ⟨by decide, by decide⟩ (by decide) (pad_rep [(.int (nar .byte c0))] (.int 0) 1) (by simp) (fnb _) (List.mem_of_getElem? (i := 0) rfl) ?_
  intro T h2 w W1 A1
  rw [nbb] at A1 W1
  have Ad1 : Arv Z h2 d kd .byte (3 : Int32) [(.int (nar .byte c0)), (.int (nar .byte c1))] (.int 0) := A1
  have Ab1 := Ab0.other W1 nbd
  refine w.iinc (1 : Int32) #[.val (.ref b), .val (.int (2 : Int32)), .val (.ref d), .val (.int (1 : Int32)), .val (.int (3 : Int32)), .val (.int (1 : Int32)), .val (.int c1)] d12_32 rfl rfl rfl ?_
  refine w.iinc (1 : Int32) #[.val (.ref b), .val (.int (2 : Int32)), .val (.ref d), .val (.int (2 : Int32)), .val (.int (3 : Int32)), .val (.int (1 : Int32)), .val (.int c1)] d12_35 rfl rfl rfl ?_
  refine w.iinc (1 : Int32) #[.val (.ref b), .val (.int (2 : Int32)), .val (.ref d), .val (.int (2 : Int32)), .val (.int (3 : Int32)), .val (.int (2 : Int32)), .val (.int c1)] d12_38 rfl rfl rfl ?_
  refine w.goto d12_41 d12_41t ?_
  refine w.iload d12_3 rfl ?_
  refine w.iload d12_5 rfl ?_
  refine w.icmpGe d12_7 d12_7t (fun q => absurd (by decide) q) (fun _ => ?_)
  refine w.aloadN d12_10 rfl rfl ?_
  refine w.iloadN d12_11 rfl ?_
  obtain ⟨cl2, Ar2, -, S2, -, H2, -⟩ := id Ab1
  refine w.caload d12_12 Ar2 (inb_of S2 (by decide)) (H2.at (inb_of S2 (by decide)) rfl) ?_
  refine w.istore #[.val (.ref b), .val (.int (2 : Int32)), .val (.ref d), .val (.int (2 : Int32)), .val (.int (3 : Int32)), .val (.int (2 : Int32)), .val (.int c2)] d12_13 rfl ?_
  refine w.iload d12_15 rfl ?_
  refine w.sipush (255 : Int32) d12_17 rfl ?_
  refine w.icmpLe d12_20 d12_20t (fun _ => ?_) (fun q => absurd q u2)
  refine w.aloadN d12_26 rfl rfl ?_
  refine w.iloadN d12_27 rfl ?_
  refine w.iload d12_28 rfl ?_
  refine w.i2b d12_30 ?_
  refine w.stB 2 [(.int (nar .byte c0)), (.int (nar .byte c1)), (.int 0)] d12_31 Ad1 ⟨by decide, by decide⟩ (by decide) (pad_rep [(.int (nar .byte c0)), (.int (nar .byte c1))] (.int 0) 1) (by simp) (fnb _) (List.mem_of_getElem? (i := 0) rfl) ?_
  intro T h3 w W2 A2
  rw [nbb] at A2 W2
  have Ad2 : Arv Z h3 d kd .byte (3 : Int32) [(.int (nar .byte c0)), (.int (nar .byte c1)), (.int (nar .byte c2))] (.int 0) := A2
  have Ab2 := Ab1.other W2 nbd
  refine w.iinc (1 : Int32) #[.val (.ref b), .val (.int (3 : Int32)), .val (.ref d), .val (.int (2 : Int32)), .val (.int (3 : Int32)), .val (.int (2 : Int32)), .val (.int c2)] d12_32 rfl rfl rfl ?_
  refine w.iinc (1 : Int32) #[.val (.ref b), .val (.int (3 : Int32)), .val (.ref d), .val (.int (3 : Int32)), .val (.int (3 : Int32)), .val (.int (2 : Int32)), .val (.int c2)] d12_35 rfl rfl rfl ?_
  refine w.iinc (1 : Int32) #[.val (.ref b), .val (.int (3 : Int32)), .val (.ref d), .val (.int (3 : Int32)), .val (.int (3 : Int32)), .val (.int (3 : Int32)), .val (.int c2)] d12_38 rfl rfl rfl ?_
  refine w.goto d12_41 d12_41t ?_
  refine w.iload d12_3 rfl ?_
  refine w.iload d12_5 rfl ?_
  refine w.icmpGe d12_7 d12_7t (fun _ => ?_) (fun q => absurd q (by decide))
  refine w.iload d12_44 rfl ?_
  exact w.retI d12_46 rfl ⟨rfl, ((((Keep.refl _ _).wr W0 (Or.inl (List.mem_singleton.mpr rfl))).wr W1 (Or.inl (List.mem_singleton.mpr rfl))).wr W2 (Or.inl (List.mem_singleton.mpr rfl))), Ad2⟩

set_option maxRecDepth 65536 in
set_option maxHeartbeats 40000000 in
theorem rmC3_3 (l : Launch) (Z : State) (a0 : Array Value) (hw : ∀ d ∈ tables_1, d.before a0 Z = true) (b : Addr) (kb : ClassId) (c0 c1 c2 : Int32) (h0 : Heap) (hE : Ext Z.heap h0) (Ab : Arv Z h0 b kb .char (3 : Int32) [(.int c0), (.int c1), (.int c2)] (.int 0)) (u0 : ¬ 255 < c0) (u1 : ¬ 255 < c1) (u2 : ¬ 255 < c2) :
    Ct true l Z consts_1 (⟨"java/lang/StringUTF16", "compress", "([CII)[B"⟩ : MethodName) jdk_52_method_16_code 6 (some (.array .byte)) [] ({ frames := 1, cells := 1, slots := 3, locals := 18 } : Room) [] #[(.ref b), (.int (0 : Int32)), (.int (3 : Int32))] h0 (fun r u => ∃ d kd, r = some (.ref d) ∧ Ext h0 u ∧ h0.size ≤ d ∧ Arv Z u d kd .byte (3 : Int32) [(.int (nar .byte c0)), (.int (nar .byte c1)), (.int (nar .byte c2))] (.int 0)) := by
  refine Ct.intro pn_java_lang_StringUTF16 hE (fun m => ef11_rii m b _ _) nosf ⟨a0, own_EW hw⟩ ?_
  intro x T w
  refine w.iloadN d11_0 rfl ?_
  have sz0 := w.size
  refine w.newP 3 "[B" d11_1 (tw hw 27 rfl) (by decide) (by decide) (by decide) (by decide) ⟨by decide, by decide⟩ ?_
  intro d T h1 kd g_d w E_d A_d X_d
  have ge_d : Z.heap.size ≤ d := by rw [g_d]; exact sz0
  have nbd : b ≠ d := Nat.ne_of_lt (Nat.lt_of_lt_of_eq Ab.lt g_d.symm)
  refine w.astoreN #[.val (.ref b), .val (.int (0 : Int32)), .val (.int (3 : Int32)), .val (.ref d), .unset, .unset] d11_3 rfl rfl ?_
  refine w.aloadN d11_4 rfl rfl ?_
  refine w.iloadN d11_5 rfl ?_
  refine w.aloadN d11_6 rfl rfl ?_
  refine w.iconst (0 : Int32) d11_7 rfl ?_
  refine w.iloadN d11_8 rfl ?_
  refine w.callS (argsL := [(.ref b), (.int (0 : Int32)), (.ref d), (.int (0 : Int32)), (.int (3 : Int32))]) (rest := []) 0 d11_9 (tw hw 61 rfl) (tw hw 62 rfl) (tw hw 59 rfl) (tw hw 63 rfl) (by decide) (rmC5_3 l Z a0 hw b d kb kd c0 c1 c2 h1 w.old ge_d nbd (Ab.ext E_d) A_d u0 u1 u2) (lenOf pd_2 rfl) rfl rfl (Nat.le_refl _) ⟨by decide, by decide, by decide, by decide⟩ (allS (List.mem_of_getElem? (i := 0) rfl) all0) ?_
  intro T h2 r w _ hQ
  obtain ⟨rfl, K1, A1⟩ := hQ
  show Go x _ Z _ _ _ T 12 #[.val (.ref b), .val (.int (0 : Int32)), .val (.int (3 : Int32)), .val (.ref d), .unset, .unset] [(.int (3 : Int32))]
  refine w.istore #[.val (.ref b), .val (.int (0 : Int32)), .val (.int (3 : Int32)), .val (.ref d), .val (.int (3 : Int32)), .unset] d11_12 rfl ?_
  refine w.iload d11_14 rfl ?_
  refine w.iloadN d11_16 rfl ?_
  refine w.icmpEq d11_17 d11_17t (fun _ => ?_) (fun q => absurd rfl q)
  refine w.aloadN d11_57 rfl rfl ?_
  exact w.retA d11_58 rfl rfl rfl rfl ⟨d, kd, rfl, keep_to E_d K1 (allS (Nat.le_of_eq g_d.symm) all0), Nat.le_of_eq g_d.symm, A1⟩

set_option maxRecDepth 65536 in
set_option maxHeartbeats 40000000 in
theorem rmCL_3_3 (l : Launch) (Z : State) (a0 : Array Value) (hw : ∀ d ∈ tables_1, d.before a0 Z = true) (d : Addr) (kd : ClassId) (vs : List Value) (h0 : Heap) (hE : Ext Z.heap h0) (Ad : Arv Z h0 d kd .byte (3 : Int32) vs (.int 0)) :
    Ct true l Z consts_1 (⟨"java/lang/StringUTF16", "coderFromArrayLen", "([BI)B"⟩ : MethodName) jdk_52_method_15_code 2 (some .byte) [] ({ frames := 0, cells := 0, slots := 0, locals := 0 } : Room) [] #[(.ref d), (.int (3 : Int32))] h0 (fun r u => r = some (.int (0 : Int32)) ∧ h0 = u) := by
  refine Ct.intro pn_java_lang_StringUTF16 hE (fun m => ef18_ri m d _) nosf ⟨a0, own_EW hw⟩ ?_
  intro x T w
  obtain ⟨cl, Ar, -, S, M, -, -⟩ := Ad
  refine w.iloadN d18_0 rfl ?_
  refine w.aloadN d18_1 rfl rfl ?_
  refine w.alen (3 : Int32) d18_2 Ar (len_of S M) ?_
  refine w.isub d18_3 ?_
  refine w.bipush (31 : Int32) d18_4 rfl ?_
  refine w.iushr d18_6 ?_
  refine w.i2b d18_7 ?_
  exact w.retN d18_8 rfl (by simp) ⟨rfl, rfl⟩

set_option maxRecDepth 65536 in
set_option maxHeartbeats 40000000 in
theorem rmS4_3 (l : Launch) (Z : State) (a0 : Array Value) (hw : ∀ d ∈ tables_1, d.before a0 Z = true) (hr : rest_1_c.value a0 Z none Z [] = some true) (a b : Addr) (kb : ClassId) (c0 c1 c2 : Int32) (h0 : Heap) (hE : Ext Z.heap h0) (ge_a : Z.heap.size ≤ a) (E0 : Exa Z h0 a "java/lang/String") (G1 : Fld Z h0 a "java/lang/String" "value" "[B" .null) (G2 : Fld Z h0 a "java/lang/String" "coder" "B" (.int (0 : Int32))) (Ab : Arv Z h0 b kb .char (3 : Int32) [(.int c0), (.int c1), (.int c2)] (.int 0)) (u0 : ¬ 255 < c0) (u1 : ¬ 255 < c1) (u2 : ¬ 255 < c2) :
    Ct true l Z consts_1 (⟨"java/lang/String", "<init>", "([CIILjava/lang/Void;)V"⟩ : MethodName) jdk_42_method_149_code 6 none [] ({ frames := 2, cells := 1, slots := 3, locals := 36 } : Room) [a] #[(.ref a), (.ref b), (.int (0 : Int32)), (.int (3 : Int32)), .null] h0 (fun r u => r = none ∧ Keep h0 u [a] ∧ ∃ t, h0.size ≤ t ∧ StrL Z u a t 0 [nar .byte c0, nar .byte c1, nar .byte c2]) := by
  refine Ct.intro pn_java_lang_String hE (fun m => ef4_rriin m a b _ _) (onesf ge_a E0.lt) ⟨a0, own_EW hw⟩ ?_
  intro x T w
  obtain ⟨cz, Scs, hcz⟩ := own_cs hr
  refine w.aloadN d4_0 rfl rfl ?_
  refine w.initO 0 d4_1 (tw hw 23 rfl) (tw hw 24 rfl) (tw hw 25 rfl) rfl (Nat.le_refl _) ⟨by decide, by decide⟩ ?_
  intro T w
  refine w.iloadN d4_4 rfl ?_
  refine w.ifNe d4_5 d4_5t (fun _ => ?_) (fun q => absurd q (by decide))
  refine w.getS d4_27 (tw hw 48 rfl) Scs ?_
  intro T w
  refine w.ifEq d4_30 d4_30t (fun q => absurd q hcz) (fun _ => ?_)
  refine w.aloadN d4_33 rfl rfl ?_
  refine w.iloadN d4_34 rfl ?_
  refine w.iloadN d4_35 rfl ?_
  refine w.callS (argsL := [(.ref b), (.int (0 : Int32)), (.int (3 : Int32))]) (rest := []) 0 d4_36 (tw hw 57 rfl) (tw hw 58 rfl) (tw hw 59 rfl) (tw hw 60 rfl) (by decide) (rmC3_3 l Z a0 hw b kb c0 c1 c2 h0 w.old Ab u0 u1 u2) (lenOf pd_3 rfl) rfl rfl (Nat.le_refl _) ⟨by decide, by decide, by decide, by decide⟩ all0 ?_
  intro T h1 r w _ hQ
  obtain ⟨d, kd, rfl, E1, gd, A1⟩ := hQ
  have ne_a_d : a ≠ d := Nat.ne_of_lt (Nat.lt_of_lt_of_le E0.lt gd)
  have F1 := E0.ext E1
  have F2 := G1.ext E1
  have F3 := G2.ext E1
  show Go x _ Z _ _ _ T 39 #[.val (.ref a), .val (.ref b), .val (.int (0 : Int32)), .val (.int (3 : Int32)), .val .null, .unset] [(.ref d)]
  refine w.astore #[.val (.ref a), .val (.ref b), .val (.int (0 : Int32)), .val (.int (3 : Int32)), .val .null, .val (.ref d)] d4_39 rfl rfl ?_
  refine w.aloadN d4_41 rfl rfl ?_
  refine w.aload d4_42 rfl rfl ?_
  refine w.iloadN d4_44 rfl ?_
  refine w.callS (argsL := [(.ref d), (.int (3 : Int32))]) (rest := [(.ref a)]) 1 d4_45 (tw hw 83 rfl) (tw hw 84 rfl) (tw hw 59 rfl) (tw hw 85 rfl) (by decide) (rmCL_3_3 l Z a0 hw d kd _ h1 w.old A1) (lenOf pd_4 rfl) rfl rfl (Nat.le_refl _) ⟨by decide, by decide, by decide, by decide⟩ all0 ?_
  intro T h2 r w _ hQ
  obtain ⟨rfl, rfl⟩ := hQ
  show Go x _ Z _ _ _ T 48 #[.val (.ref a), .val (.ref b), .val (.int (0 : Int32)), .val (.int (3 : Int32)), .val .null, .val (.ref d)] [(.int (0 : Int32)), (.ref a)]
  refine w.putF d4_48 (tw hw 33 rfl) F3 F1 (Or.inr ⟨(tw hw 29 rfl), rfl, rfl⟩) (tw hw 14 rfl) (ty := .byte) (by decide) rfl rfl (List.mem_of_getElem? (i := 0) rfl) ?_
  intro T h3 w W4
  have F5 := F1.wr W4
  have F6 := F2.other W4 (Or.inr (slot_ne (Or.inr (tw hw 28 rfl)) (Or.inr (tw hw 29 rfl)) (by decide) (t := (.array .byte)) (t' := .byte) (by decide) (by decide)))
  have F7 := F3.same W4
  have F8 := A1.other W4 (Ne.symm ne_a_d)
  refine w.aloadN d4_51 rfl rfl ?_
  refine w.aload d4_52 rfl rfl ?_
  refine w.putF d4_54 (tw hw 32 rfl) F6 F5 (Or.inr ⟨(tw hw 28 rfl), rfl, rfl⟩) (tw hw 14 rfl) (ty := (.array .byte)) (by decide) rfl rfl (List.mem_of_getElem? (i := 0) rfl) ?_
  intro T h4 w W9
  have F10 := F5.wr W9
  have F11 := F6.same W9
  have F12 := F7.other W9 (Or.inr (slot_ne (Or.inr (tw hw 29 rfl)) (Or.inr (tw hw 28 rfl)) (by decide) (t := .byte) (t' := (.array .byte)) (by decide) (by decide)))
  have F13 := F8.other W9 (Ne.symm ne_a_d)
  exact w.retV d4_57 rfl ⟨rfl, (((keep_ext E1).wr W4 (Or.inl (List.mem_singleton.mpr rfl))).wr W9 (Or.inl (List.mem_singleton.mpr rfl))), d, gd, F10, F11, F12, kd, F13, by simp⟩

set_option maxRecDepth 65536 in
set_option maxHeartbeats 40000000 in
theorem rmNL_3 (l : Launch) (Z : State) (a0 : Array Value) (hw : ∀ d ∈ tables_1, d.before a0 Z = true) (h0 : Heap) (hE : Ext Z.heap h0) :
    Ct true l Z consts_1 (⟨"java/lang/StringUTF16", "newBytesLength", "(I)I"⟩ : MethodName) jdk_52_method_3_code 1 (some .int) [] ({ frames := 0, cells := 0, slots := 0, locals := 0 } : Room) [] #[(.int (3 : Int32))] h0 (fun r u => r = some (.int (6 : Int32)) ∧ h0 = u) := by
  refine Ct.intro pn_java_lang_StringUTF16 hE (fun m => ef15_i m _) nosf ⟨a0, own_EW hw⟩ ?_
  intro x T w
  refine w.iloadN d15_0 rfl ?_
  refine w.ifGe d15_1 d15_1t (fun _ => ?_) (fun q => absurd q (by decide))
  refine w.iloadN d15_12 rfl ?_
  refine w.ldcI d15_13 (tw hw 73 rfl) ?_
  refine w.icmpLt d15_15 d15_15t (fun _ => ?_) (fun q => absurd (by decide) q)
  refine w.iloadN d15_55 rfl ?_
  refine w.iconst (1 : Int32) d15_56 rfl ?_
  refine w.ishl d15_57 ?_
  exact w.retI d15_58 rfl ⟨rfl, rfl⟩

set_option maxRecDepth 65536 in
set_option maxHeartbeats 40000000 in
theorem rmNF_3 (l : Launch) (Z : State) (a0 : Array Value) (hw : ∀ d ∈ tables_1, d.before a0 Z = true) (h0 : Heap) (hE : Ext Z.heap h0) :
    Ct true l Z consts_1 (⟨"java/lang/StringUTF16", "newBytesFor", "(I)[B"⟩ : MethodName) jdk_52_method_2_code 1 (some (.array .byte)) [] ({ frames := 1, cells := 1, slots := 6, locals := 12 } : Room) [] #[(.int (3 : Int32))] h0 (fun r u => ∃ d kd, r = some (.ref d) ∧ Ext h0 u ∧ h0.size ≤ d ∧ Arv Z u d kd .byte (6 : Int32) [] (.int 0)) := by
  refine Ct.intro pn_java_lang_StringUTF16 hE (fun m => ef14_i m _) nosf ⟨a0, own_EW hw⟩ ?_
  intro x T w
  refine w.iloadN d14_0 rfl ?_
  refine w.callS (argsL := [(.int (3 : Int32))]) (rest := []) 0 d14_1 (tw hw 70 rfl) (tw hw 71 rfl) (tw hw 59 rfl) (tw hw 72 rfl) (by decide) (rmNL_3 l Z a0 hw h0 w.old) (lenOf pd_5 rfl) rfl rfl (Nat.le_refl _) ⟨by decide, by decide, by decide, by decide⟩ all0 ?_
  intro T h1 r w _ hQ
  obtain ⟨rfl, rfl⟩ := hQ
  show Go x _ Z _ _ _ T 4 #[.val (.int (3 : Int32))] [(.int (6 : Int32))]
  have sz0 := w.size
  refine w.newP 6 "[B" d14_4 (tw hw 27 rfl) (by decide) (by decide) (by decide) (by decide) ⟨by decide, by decide⟩ ?_
  intro d T h2 kd g_d w E_d A_d X_d
  have ge_d : Z.heap.size ≤ d := by rw [g_d]; exact sz0
  exact w.retA d14_6 rfl rfl rfl rfl ⟨d, kd, rfl, E_d, Nat.le_of_eq g_d.symm, A_d⟩

set_option maxRecDepth 65536 in
set_option maxHeartbeats 40000000 in
theorem rmPu_3_0 (l : Launch) (Z : State) (a0 : Array Value) (hw : ∀ d ∈ tables_1, d.before a0 Z = true) (hr : rest_1_c.value a0 Z none Z [] = some true) (d : Addr) (kd : ClassId)  (c : Int32) (h0 : Heap) (hE : Ext Z.heap h0) (ge_d : Z.heap.size ≤ d) (A : Arv Z h0 d kd .byte (6 : Int32) [] (.int 0)) :
    Ct true l Z consts_1 (⟨"java/lang/StringUTF16", "putChar", "([BII)V"⟩ : MethodName) jdk_52_method_4_code 3 none [] ({ frames := 0, cells := 0, slots := 0, locals := 0 } : Room) [d] #[(.ref d), (.int (0 : Int32)), (.int c)] h0 (fun r u => r = none ∧ Keep h0 u [d] ∧ Arv Z u d kd .byte (6 : Int32) [(.int (nar .byte (c >>> ((0 : Int32) &&& 31)))), (.int (nar .byte (c >>> ((8 : Int32) &&& 31))))] (.int 0)) := by
  refine Ct.intro pn_java_lang_StringUTF16 hE (fun m => ef16_rii m d _ _) (onesf ge_d A.lt) ⟨a0, own_EW hw⟩ ?_
  intro x T w
  refine w.getS d16_0 (tw hw 77 rfl) (own_ad hr) ?_
  intro T w
  refine w.ifNe d16_3 d16_3t (fun _ => ?_) (fun q => absurd q (by decide))
  refine w.iloadN d16_28 rfl ?_
  refine w.iconst (1 : Int32) d16_29 rfl ?_
  refine w.ishl d16_30 ?_
  refine w.istoreN #[.val (.ref d), .val (.int ((0 : Int32) <<< ((1 : Int32) &&& 31))), .val (.int c)] d16_31 rfl ?_
  refine w.aloadN d16_32 rfl rfl ?_
  refine w.iloadN d16_33 rfl ?_
  refine w.iinc (1 : Int32) #[.val (.ref d), .val (.int (((0 : Int32) <<< ((1 : Int32) &&& 31)) + (1 : Int32))), .val (.int c)] d16_34 rfl rfl rfl ?_
  refine w.iloadN d16_37 rfl ?_
  refine w.getS d16_38 (tw hw 78 rfl) (own_hi hr) ?_
  intro T w
  refine w.ishr d16_41 ?_
  refine w.i2b d16_42 ?_
  refine w.stB 0 [(.int 0)] d16_43 A ⟨by decide, by decide⟩ (by decide) (pad_rep [] (.int 0) 1) (by simp) (fnb _) (List.mem_of_getElem? (i := 0) rfl) ?_
  intro T h1 w W0 B0
  rw [nbb] at B0 W0
  have C0 : Arv Z h1 d kd .byte (6 : Int32) [(.int (nar .byte (c >>> ((0 : Int32) &&& 31))))] (.int 0) := B0
  refine w.aloadN d16_44 rfl rfl ?_
  refine w.iloadN d16_45 rfl ?_
  refine w.iloadN d16_46 rfl ?_
  refine w.getS d16_47 (tw hw 79 rfl) (own_lo hr) ?_
  intro T w
  refine w.ishr d16_50 ?_
  refine w.i2b d16_51 ?_
  refine w.stB 1 [(.int (nar .byte (c >>> ((0 : Int32) &&& 31)))), (.int 0)] d16_52 C0 ⟨by decide, by decide⟩ (by decide) (pad_rep [(.int (nar .byte (c >>> ((0 : Int32) &&& 31))))] (.int 0) 1) (by simp) (fnb _) (List.mem_of_getElem? (i := 0) rfl) ?_
  intro T h2 w W1 B1
  rw [nbb] at B1 W1
  have C1 : Arv Z h2 d kd .byte (6 : Int32) [(.int (nar .byte (c >>> ((0 : Int32) &&& 31)))), (.int (nar .byte (c >>> ((8 : Int32) &&& 31))))] (.int 0) := B1
  exact w.retV d16_53 rfl ⟨rfl, (((Keep.refl _ _).wr W0 (Or.inl (List.mem_singleton.mpr rfl))).wr W1 (Or.inl (List.mem_singleton.mpr rfl))), C1⟩

set_option maxRecDepth 65536 in
set_option maxHeartbeats 40000000 in
theorem rmPu_3_1 (l : Launch) (Z : State) (a0 : Array Value) (hw : ∀ d ∈ tables_1, d.before a0 Z = true) (hr : rest_1_c.value a0 Z none Z [] = some true) (d : Addr) (kd : ClassId) (b0 b1 : Int32) (c : Int32) (h0 : Heap) (hE : Ext Z.heap h0) (ge_d : Z.heap.size ≤ d) (A : Arv Z h0 d kd .byte (6 : Int32) [(.int b0), (.int b1)] (.int 0)) :
    Ct true l Z consts_1 (⟨"java/lang/StringUTF16", "putChar", "([BII)V"⟩ : MethodName) jdk_52_method_4_code 3 none [] ({ frames := 0, cells := 0, slots := 0, locals := 0 } : Room) [d] #[(.ref d), (.int (1 : Int32)), (.int c)] h0 (fun r u => r = none ∧ Keep h0 u [d] ∧ Arv Z u d kd .byte (6 : Int32) [(.int b0), (.int b1), (.int (nar .byte (c >>> ((0 : Int32) &&& 31)))), (.int (nar .byte (c >>> ((8 : Int32) &&& 31))))] (.int 0)) := by
  refine Ct.intro pn_java_lang_StringUTF16 hE (fun m => ef16_rii m d _ _) (onesf ge_d A.lt) ⟨a0, own_EW hw⟩ ?_
  intro x T w
  refine w.getS d16_0 (tw hw 77 rfl) (own_ad hr) ?_
  intro T w
  refine w.ifNe d16_3 d16_3t (fun _ => ?_) (fun q => absurd q (by decide))
  refine w.iloadN d16_28 rfl ?_
  refine w.iconst (1 : Int32) d16_29 rfl ?_
  refine w.ishl d16_30 ?_
  refine w.istoreN #[.val (.ref d), .val (.int ((1 : Int32) <<< ((1 : Int32) &&& 31))), .val (.int c)] d16_31 rfl ?_
  refine w.aloadN d16_32 rfl rfl ?_
  refine w.iloadN d16_33 rfl ?_
  refine w.iinc (1 : Int32) #[.val (.ref d), .val (.int (((1 : Int32) <<< ((1 : Int32) &&& 31)) + (1 : Int32))), .val (.int c)] d16_34 rfl rfl rfl ?_
  refine w.iloadN d16_37 rfl ?_
  refine w.getS d16_38 (tw hw 78 rfl) (own_hi hr) ?_
  intro T w
  refine w.ishr d16_41 ?_
  refine w.i2b d16_42 ?_
  refine w.stB 2 [(.int b0), (.int b1), (.int 0)] d16_43 A ⟨by decide, by decide⟩ (by decide) (pad_rep [(.int b0), (.int b1)] (.int 0) 1) (by simp) (fnb _) (List.mem_of_getElem? (i := 0) rfl) ?_
  intro T h1 w W0 B0
  rw [nbb] at B0 W0
  have C0 : Arv Z h1 d kd .byte (6 : Int32) [(.int b0), (.int b1), (.int (nar .byte (c >>> ((0 : Int32) &&& 31))))] (.int 0) := B0
  refine w.aloadN d16_44 rfl rfl ?_
  refine w.iloadN d16_45 rfl ?_
  refine w.iloadN d16_46 rfl ?_
  refine w.getS d16_47 (tw hw 79 rfl) (own_lo hr) ?_
  intro T w
  refine w.ishr d16_50 ?_
  refine w.i2b d16_51 ?_
  refine w.stB 3 [(.int b0), (.int b1), (.int (nar .byte (c >>> ((0 : Int32) &&& 31)))), (.int 0)] d16_52 C0 ⟨by decide, by decide⟩ (by decide) (pad_rep [(.int b0), (.int b1), (.int (nar .byte (c >>> ((0 : Int32) &&& 31))))] (.int 0) 1) (by simp) (fnb _) (List.mem_of_getElem? (i := 0) rfl) ?_
  intro T h2 w W1 B1
  rw [nbb] at B1 W1
  have C1 : Arv Z h2 d kd .byte (6 : Int32) [(.int b0), (.int b1), (.int (nar .byte (c >>> ((0 : Int32) &&& 31)))), (.int (nar .byte (c >>> ((8 : Int32) &&& 31))))] (.int 0) := B1
  exact w.retV d16_53 rfl ⟨rfl, (((Keep.refl _ _).wr W0 (Or.inl (List.mem_singleton.mpr rfl))).wr W1 (Or.inl (List.mem_singleton.mpr rfl))), C1⟩

set_option maxRecDepth 65536 in
set_option maxHeartbeats 40000000 in
theorem rmPu_3_2 (l : Launch) (Z : State) (a0 : Array Value) (hw : ∀ d ∈ tables_1, d.before a0 Z = true) (hr : rest_1_c.value a0 Z none Z [] = some true) (d : Addr) (kd : ClassId) (b0 b1 b2 b3 : Int32) (c : Int32) (h0 : Heap) (hE : Ext Z.heap h0) (ge_d : Z.heap.size ≤ d) (A : Arv Z h0 d kd .byte (6 : Int32) [(.int b0), (.int b1), (.int b2), (.int b3)] (.int 0)) :
    Ct true l Z consts_1 (⟨"java/lang/StringUTF16", "putChar", "([BII)V"⟩ : MethodName) jdk_52_method_4_code 3 none [] ({ frames := 0, cells := 0, slots := 0, locals := 0 } : Room) [d] #[(.ref d), (.int (2 : Int32)), (.int c)] h0 (fun r u => r = none ∧ Keep h0 u [d] ∧ Arv Z u d kd .byte (6 : Int32) [(.int b0), (.int b1), (.int b2), (.int b3), (.int (nar .byte (c >>> ((0 : Int32) &&& 31)))), (.int (nar .byte (c >>> ((8 : Int32) &&& 31))))] (.int 0)) := by
  refine Ct.intro pn_java_lang_StringUTF16 hE (fun m => ef16_rii m d _ _) (onesf ge_d A.lt) ⟨a0, own_EW hw⟩ ?_
  intro x T w
  refine w.getS d16_0 (tw hw 77 rfl) (own_ad hr) ?_
  intro T w
  refine w.ifNe d16_3 d16_3t (fun _ => ?_) (fun q => absurd q (by decide))
  refine w.iloadN d16_28 rfl ?_
  refine w.iconst (1 : Int32) d16_29 rfl ?_
  refine w.ishl d16_30 ?_
  refine w.istoreN #[.val (.ref d), .val (.int ((2 : Int32) <<< ((1 : Int32) &&& 31))), .val (.int c)] d16_31 rfl ?_
  refine w.aloadN d16_32 rfl rfl ?_
  refine w.iloadN d16_33 rfl ?_
  refine w.iinc (1 : Int32) #[.val (.ref d), .val (.int (((2 : Int32) <<< ((1 : Int32) &&& 31)) + (1 : Int32))), .val (.int c)] d16_34 rfl rfl rfl ?_
  refine w.iloadN d16_37 rfl ?_
  refine w.getS d16_38 (tw hw 78 rfl) (own_hi hr) ?_
  intro T w
  refine w.ishr d16_41 ?_
  refine w.i2b d16_42 ?_
  refine w.stB 4 [(.int b0), (.int b1), (.int b2), (.int b3), (.int 0)] d16_43 A ⟨by decide, by decide⟩ (by decide) (pad_rep [(.int b0), (.int b1), (.int b2), (.int b3)] (.int 0) 1) (by simp) (fnb _) (List.mem_of_getElem? (i := 0) rfl) ?_
  intro T h1 w W0 B0
  rw [nbb] at B0 W0
  have C0 : Arv Z h1 d kd .byte (6 : Int32) [(.int b0), (.int b1), (.int b2), (.int b3), (.int (nar .byte (c >>> ((0 : Int32) &&& 31))))] (.int 0) := B0
  refine w.aloadN d16_44 rfl rfl ?_
  refine w.iloadN d16_45 rfl ?_
  refine w.iloadN d16_46 rfl ?_
  refine w.getS d16_47 (tw hw 79 rfl) (own_lo hr) ?_
  intro T w
  refine w.ishr d16_50 ?_
  refine w.i2b d16_51 ?_
  refine w.stB 5 [(.int b0), (.int b1), (.int b2), (.int b3), (.int (nar .byte (c >>> ((0 : Int32) &&& 31)))), (.int 0)] d16_52 C0 ⟨by decide, by decide⟩ (by decide) (pad_rep [(.int b0), (.int b1), (.int b2), (.int b3), (.int (nar .byte (c >>> ((0 : Int32) &&& 31))))] (.int 0) 1) (by simp) (fnb _) (List.mem_of_getElem? (i := 0) rfl) ?_
  intro T h2 w W1 B1
  rw [nbb] at B1 W1
  have C1 : Arv Z h2 d kd .byte (6 : Int32) [(.int b0), (.int b1), (.int b2), (.int b3), (.int (nar .byte (c >>> ((0 : Int32) &&& 31)))), (.int (nar .byte (c >>> ((8 : Int32) &&& 31))))] (.int 0) := B1
  exact w.retV d16_53 rfl ⟨rfl, (((Keep.refl _ _).wr W0 (Or.inl (List.mem_singleton.mpr rfl))).wr W1 (Or.inl (List.mem_singleton.mpr rfl))), C1⟩

set_option maxRecDepth 65536 in
set_option maxHeartbeats 40000000 in
theorem rmTo_3 (l : Launch) (Z : State) (a0 : Array Value) (hw : ∀ d ∈ tables_1, d.before a0 Z = true) (hr : rest_1_c.value a0 Z none Z [] = some true) (b : Addr) (kb : ClassId) (c0 c1 c2 : Int32) (h0 : Heap) (hE : Ext Z.heap h0) (Ab : Arv Z h0 b kb .char (3 : Int32) [(.int c0), (.int c1), (.int c2)] (.int 0)) :
    Ct true l Z consts_1 (⟨"java/lang/StringUTF16", "toBytes", "([CII)[B"⟩ : MethodName) jdk_52_method_14_code 5 (some (.array .byte)) [] ({ frames := 2, cells := 1, slots := 6, locals := 24 } : Room) [] #[(.ref b), (.int (0 : Int32)), (.int (3 : Int32))] h0 (fun r u => ∃ d kd, r = some (.ref d) ∧ Ext h0 u ∧ h0.size ≤ d ∧ Arv Z u d kd .byte (6 : Int32) [(.int (nar .byte (c0 >>> ((0 : Int32) &&& 31)))), (.int (nar .byte (c0 >>> ((8 : Int32) &&& 31)))), (.int (nar .byte (c1 >>> ((0 : Int32) &&& 31)))), (.int (nar .byte (c1 >>> ((8 : Int32) &&& 31)))), (.int (nar .byte (c2 >>> ((0 : Int32) &&& 31)))), (.int (nar .byte (c2 >>> ((8 : Int32) &&& 31))))] (.int 0)) := by
  refine Ct.intro pn_java_lang_StringUTF16 hE (fun m => ef13_rii m b _ _) nosf ⟨a0, own_EW hw⟩ ?_
  intro x T w
  refine w.iloadN d13_0 rfl ?_
  refine w.callS (argsL := [(.int (3 : Int32))]) (rest := []) 0 d13_1 (tw hw 67 rfl) (tw hw 68 rfl) (tw hw 59 rfl) (tw hw 69 rfl) (by decide) (rmNF_3 l Z a0 hw h0 w.old) (lenOf pd_6 rfl) rfl rfl (Nat.le_refl _) ⟨by decide, by decide, by decide, by decide⟩ all0 ?_
  intro T h1 r w _ hQ
  obtain ⟨d, kd, rfl, E1, gd, A0⟩ := hQ
  have ge_d : Z.heap.size ≤ d := Nat.le_trans hE.1 gd
  have w := w.adopt ge_d A0.lt (fun vm hZ => own_safe hw hZ A0 (by decide))
  have nbd : b ≠ d := Nat.ne_of_lt (Nat.lt_of_lt_of_le Ab.lt gd)
  have Ab := Ab.ext E1
  show Go x _ Z _ _ _ T 4 #[.val (.ref b), .val (.int (0 : Int32)), .val (.int (3 : Int32)), .unset, .unset] [(.ref d)]
  refine w.astoreN #[.val (.ref b), .val (.int (0 : Int32)), .val (.int (3 : Int32)), .val (.ref d), .unset] d13_4 rfl rfl ?_
  refine w.iconst (0 : Int32) d13_5 rfl ?_
  refine w.istore #[.val (.ref b), .val (.int (0 : Int32)), .val (.int (3 : Int32)), .val (.ref d), .val (.int (0 : Int32))] d13_6 rfl ?_
  refine w.iload d13_8 rfl ?_
  refine w.iloadN d13_10 rfl ?_
  refine w.icmpGe d13_11 d13_11t (fun q => absurd (by decide) q) (fun _ => ?_)
  refine w.aloadN d13_14 rfl rfl ?_
  refine w.iload d13_15 rfl ?_
  refine w.aloadN d13_17 rfl rfl ?_
  refine w.iloadN d13_18 rfl ?_
  obtain ⟨cl0, Ar0, -, S0, -, H0, -⟩ := id Ab
  refine w.caload d13_19 Ar0 (inb_of S0 (by decide)) (H0.at (inb_of S0 (by decide)) rfl) ?_
  refine w.callS (argsL := [(.ref d), (.int (0 : Int32)), (.int c0)]) (rest := []) 0 d13_20 (tw hw 74 rfl) (tw hw 75 rfl) (tw hw 59 rfl) (tw hw 76 rfl) (by decide) (rmPu_3_0 l Z a0 hw hr d kd  c0 h1 w.old ge_d A0) (lenOf pd_7 rfl) rfl rfl (Nat.le_refl _) ⟨by decide, by decide, by decide, by decide⟩ (allS (List.mem_of_getElem? (i := 0) rfl) all0) ?_
  intro T h2 r w _ hQ
  obtain ⟨rfl, K0, A1⟩ := hQ
  have Ab := Ab.keep K0 (ninS nbd nin0)
  show Go x _ Z _ _ _ T 23 #[.val (.ref b), .val (.int (0 : Int32)), .val (.int (3 : Int32)), .val (.ref d), .val (.int (0 : Int32))] []
  refine w.iinc (1 : Int32) #[.val (.ref b), .val (.int (1 : Int32)), .val (.int (3 : Int32)), .val (.ref d), .val (.int (0 : Int32))] d13_23 rfl rfl rfl ?_
  refine w.iinc (1 : Int32) #[.val (.ref b), .val (.int (1 : Int32)), .val (.int (3 : Int32)), .val (.ref d), .val (.int (1 : Int32))] d13_26 rfl rfl rfl ?_
  refine w.goto d13_29 d13_29t ?_
  refine w.iload d13_8 rfl ?_
  refine w.iloadN d13_10 rfl ?_
  refine w.icmpGe d13_11 d13_11t (fun q => absurd (by decide) q) (fun _ => ?_)
  refine w.aloadN d13_14 rfl rfl ?_
  refine w.iload d13_15 rfl ?_
  refine w.aloadN d13_17 rfl rfl ?_
  refine w.iloadN d13_18 rfl ?_
  obtain ⟨cl1, Ar1, -, S1, -, H1, -⟩ := id Ab
  refine w.caload d13_19 Ar1 (inb_of S1 (by decide)) (H1.at (inb_of S1 (by decide)) rfl) ?_
  refine w.callS (argsL := [(.ref d), (.int (1 : Int32)), (.int c1)]) (rest := []) 0 d13_20 (tw hw 74 rfl) (tw hw 75 rfl) (tw hw 59 rfl) (tw hw 76 rfl) (by decide) (rmPu_3_1 l Z a0 hw hr d kd (nar .byte (c0 >>> ((0 : Int32) &&& 31))) (nar .byte (c0 >>> ((8 : Int32) &&& 31))) c1 h2 w.old ge_d A1) (lenOf pd_7 rfl) rfl rfl (Nat.le_refl _) ⟨by decide, by decide, by decide, by decide⟩ (allS (List.mem_of_getElem? (i := 0) rfl) all0) ?_
  intro T h3 r w _ hQ
  obtain ⟨rfl, K1, A2⟩ := hQ
  have Ab := Ab.keep K1 (ninS nbd nin0)
  show Go x _ Z _ _ _ T 23 #[.val (.ref b), .val (.int (1 : Int32)), .val (.int (3 : Int32)), .val (.ref d), .val (.int (1 : Int32))] []
  refine w.iinc (1 : Int32) #[.val (.ref b), .val (.int (2 : Int32)), .val (.int (3 : Int32)), .val (.ref d), .val (.int (1 : Int32))] d13_23 rfl rfl rfl ?_
  refine w.iinc (1 : Int32) #[.val (.ref b), .val (.int (2 : Int32)), .val (.int (3 : Int32)), .val (.ref d), .val (.int (2 : Int32))] d13_26 rfl rfl rfl ?_
  refine w.goto d13_29 d13_29t ?_
  refine w.iload d13_8 rfl ?_
  refine w.iloadN d13_10 rfl ?_
  refine w.icmpGe d13_11 d13_11t (fun q => absurd (by decide) q) (fun _ => ?_)
  refine w.aloadN d13_14 rfl rfl ?_
  refine w.iload d13_15 rfl ?_
  refine w.aloadN d13_17 rfl rfl ?_
  refine w.iloadN d13_18 rfl ?_
  obtain ⟨cl2, Ar2, -, S2, -, H2, -⟩ := id Ab
  refine w.caload d13_19 Ar2 (inb_of S2 (by decide)) (H2.at (inb_of S2 (by decide)) rfl) ?_
  refine w.callS (argsL := [(.ref d), (.int (2 : Int32)), (.int c2)]) (rest := []) 0 d13_20 (tw hw 74 rfl) (tw hw 75 rfl) (tw hw 59 rfl) (tw hw 76 rfl) (by decide) (rmPu_3_2 l Z a0 hw hr d kd (nar .byte (c0 >>> ((0 : Int32) &&& 31))) (nar .byte (c0 >>> ((8 : Int32) &&& 31))) (nar .byte (c1 >>> ((0 : Int32) &&& 31))) (nar .byte (c1 >>> ((8 : Int32) &&& 31))) c2 h3 w.old ge_d A2) (lenOf pd_7 rfl) rfl rfl (Nat.le_refl _) ⟨by decide, by decide, by decide, by decide⟩ (allS (List.mem_of_getElem? (i := 0) rfl) all0) ?_
  intro T h4 r w _ hQ
  obtain ⟨rfl, K2, A3⟩ := hQ
  have Ab := Ab.keep K2 (ninS nbd nin0)
  show Go x _ Z _ _ _ T 23 #[.val (.ref b), .val (.int (2 : Int32)), .val (.int (3 : Int32)), .val (.ref d), .val (.int (2 : Int32))] []
  refine w.iinc (1 : Int32) #[.val (.ref b), .val (.int (3 : Int32)), .val (.int (3 : Int32)), .val (.ref d), .val (.int (2 : Int32))] d13_23 rfl rfl rfl ?_
  refine w.iinc (1 : Int32) #[.val (.ref b), .val (.int (3 : Int32)), .val (.int (3 : Int32)), .val (.ref d), .val (.int (3 : Int32))] d13_26 rfl rfl rfl ?_
  refine w.goto d13_29 d13_29t ?_
  refine w.iload d13_8 rfl ?_
  refine w.iloadN d13_10 rfl ?_
  refine w.icmpGe d13_11 d13_11t (fun _ => ?_) (fun q => absurd q (by decide))
  refine w.aloadN d13_32 rfl rfl ?_
  exact w.retA d13_33 rfl rfl rfl rfl ⟨d, kd, rfl, keep_to E1 ((K0.trans K1 (allS (Or.inl (List.mem_singleton.mpr rfl)) all0)).trans K2 (allS (Or.inl (List.mem_singleton.mpr rfl)) all0)) (allS gd all0), gd, A3⟩

set_option maxRecDepth 65536 in
set_option maxHeartbeats 40000000 in
theorem rmC5x_3_0 (l : Launch) (Z : State) (a0 : Array Value) (hw : ∀ d ∈ tables_1, d.before a0 Z = true) (b d : Addr) (kb kd : ClassId) (c0 c1 c2 : Int32) (h0 : Heap) (hE : Ext Z.heap h0) (ge_d : Z.heap.size ≤ d) (nbd : b ≠ d) (Ab : Arv Z h0 b kb .char (3 : Int32) [(.int c0), (.int c1), (.int c2)] (.int 0)) (Ad : Arv Z h0 d kd .byte (3 : Int32) [] (.int 0))  (gp : 255 < c0) :
    Ct true l Z consts_1 (⟨"java/lang/StringUTF16", "compress", "([CI[BII)I"⟩ : MethodName) jdk_52_method_21_code 7 (some .int) [] ({ frames := 0, cells := 0, slots := 0, locals := 0 } : Room) [d] #[(.ref b), (.int (0 : Int32)), (.ref d), (.int (0 : Int32)), (.int (3 : Int32))] h0 (fun r u => r = some (.int (0 : Int32)) ∧ Keep h0 u [d]) := by
  refine Ct.intro pn_java_lang_StringUTF16 hE (fun m => ef12_ririi m b _ d _ _) (onesf ge_d Ad.lt) ⟨a0, own_EW hw⟩ ?_
  intro x T w
  refine w.iconst (0 : Int32) d12_0 rfl ?_
  refine w.istore #[.val (.ref b), .val (.int (0 : Int32)), .val (.ref d), .val (.int (0 : Int32)), .val (.int (3 : Int32)), .val (.int (0 : Int32)), .unset] d12_1 rfl ?_
  refine w.iload d12_3 rfl ?_
  refine w.iload d12_5 rfl ?_
  refine w.icmpGe d12_7 d12_7t (fun q => absurd (by decide) q) (fun _ => ?_)
  refine w.aloadN d12_10 rfl rfl ?_
  refine w.iloadN d12_11 rfl ?_
  obtain ⟨cl0, Ar0, -, S0, -, H0, -⟩ := id Ab
  refine w.caload d12_12 Ar0 (inb_of S0 (by decide)) (H0.at (inb_of S0 (by decide)) rfl) ?_
  refine w.istore #[.val (.ref b), .val (.int (0 : Int32)), .val (.ref d), .val (.int (0 : Int32)), .val (.int (3 : Int32)), .val (.int (0 : Int32)), .val (.int c0)] d12_13 rfl ?_
  refine w.iload d12_15 rfl ?_
  refine w.sipush (255 : Int32) d12_17 rfl ?_
  refine w.icmpLe d12_20 d12_20t (fun q => absurd gp q) (fun _ => ?_)
  refine w.iload d12_23 rfl ?_
  exact w.retI d12_25 rfl ⟨rfl, (Keep.refl _ _)⟩

set_option maxRecDepth 65536 in
set_option maxHeartbeats 40000000 in
theorem rmGe_3_0 (l : Launch) (Z : State) (a0 : Array Value) (hw : ∀ d ∈ tables_1, d.before a0 Z = true) (hr : rest_1_c.value a0 Z none Z [] = some true) (t : Addr) (kb : ClassId) (c0 c1 c2 : Int32) (h0 : Heap) (hE : Ext Z.heap h0) (A : Arv Z h0 t kb .byte (6 : Int32) [(.int (nar .byte (c0 >>> ((0 : Int32) &&& 31)))), (.int (nar .byte (c0 >>> ((8 : Int32) &&& 31)))), (.int (nar .byte (c1 >>> ((0 : Int32) &&& 31)))), (.int (nar .byte (c1 >>> ((8 : Int32) &&& 31)))), (.int (nar .byte (c2 >>> ((0 : Int32) &&& 31)))), (.int (nar .byte (c2 >>> ((8 : Int32) &&& 31))))] (.int 0)) (z : 0 ≤ c0.toInt) (v : c0.toInt < 65536) :
    Ct true l Z consts_1 (⟨"java/lang/StringUTF16", "getChar", "([BI)C"⟩ : MethodName) jdk_52_method_5_code 2 (some .char) [] ({ frames := 0, cells := 0, slots := 0, locals := 0 } : Room) [] #[(.ref t), (.int (0 : Int32))] h0 (fun r u => r = some (.int c0) ∧ h0 = u) := by
  refine Ct.intro pn_java_lang_StringUTF16 hE (fun m => ef17_ri m t _) nosf ⟨a0, own_EW hw⟩ ?_
  intro x T w
  obtain ⟨cl, Ar, -, S, M, H, -⟩ := id A
  refine w.getS d17_0 (tw hw 77 rfl) (own_ad hr) ?_
  intro T w
  refine w.ifNe d17_3 d17_3t (fun _ => ?_) (fun q => absurd q (by decide))
  refine w.iloadN d17_28 rfl ?_
  refine w.iconst (1 : Int32) d17_29 rfl ?_
  refine w.ishl d17_30 ?_
  refine w.istoreN #[.val (.ref t), .val (.int ((0 : Int32) <<< ((1 : Int32) &&& 31)))] d17_31 rfl ?_
  refine w.aloadN d17_32 rfl rfl ?_
  refine w.iloadN d17_33 rfl ?_
  refine w.iinc (1 : Int32) #[.val (.ref t), .val (.int (((0 : Int32) <<< ((1 : Int32) &&& 31)) + (1 : Int32)))] d17_34 rfl rfl rfl ?_
  refine w.baload (v := .int (nar .byte (c0 >>> ((0 : Int32) &&& 31)))) d17_37 Ar (inb_of S (by decide)) (H.at (inb_of S (by decide)) (by rw [show (((0 : Int32) <<< ((1 : Int32) &&& 31))).toNatClampNeg = 0 by decide]; rfl)) ?_
  refine w.sipush (255 : Int32) d17_38 rfl ?_
  refine w.iand d17_41 ?_
  refine w.getS d17_42 (tw hw 78 rfl) (own_hi hr) ?_
  intro T w
  refine w.ishl d17_45 ?_
  refine w.aloadN d17_46 rfl rfl ?_
  refine w.iloadN d17_47 rfl ?_
  refine w.baload (v := .int (nar .byte (c0 >>> ((8 : Int32) &&& 31)))) d17_48 Ar (inb_of S (by decide)) (H.at (inb_of S (by decide)) (by rw [show ((((0 : Int32) <<< ((1 : Int32) &&& 31)) + (1 : Int32))).toNatClampNeg = 1 by decide]; rfl)) ?_
  refine w.sipush (255 : Int32) d17_49 rfl ?_
  refine w.iand d17_52 ?_
  refine w.getS d17_53 (tw hw 79 rfl) (own_lo hr) ?_
  intro T w
  refine w.ishl d17_56 ?_
  refine w.ior d17_57 ?_
  refine w.i2c d17_58 ?_
  exact w.retN d17_59 rfl (by simp) ⟨by rw [ncc, own_gc z v], rfl⟩

set_option maxRecDepth 65536 in
set_option maxHeartbeats 40000000 in
theorem rmC3x_3_0 (l : Launch) (Z : State) (a0 : Array Value) (hw : ∀ d ∈ tables_1, d.before a0 Z = true) (hr : rest_1_c.value a0 Z none Z [] = some true) (b : Addr) (kb : ClassId) (c0 c1 c2 : Int32) (h0 : Heap) (hE : Ext Z.heap h0) (Ab : Arv Z h0 b kb .char (3 : Int32) [(.int c0), (.int c1), (.int c2)] (.int 0)) (z0 : 0 ≤ c0.toInt) (v0 : c0.toInt < 65536) (z1 : 0 ≤ c1.toInt) (v1 : c1.toInt < 65536) (z2 : 0 ≤ c2.toInt) (v2 : c2.toInt < 65536)  (gp : 255 < c0) :
    Ct true l Z consts_1 (⟨"java/lang/StringUTF16", "compress", "([CII)[B"⟩ : MethodName) jdk_52_method_16_code 6 (some (.array .byte)) [] ({ frames := 3, cells := 2, slots := 9, locals := 40 } : Room) [] #[(.ref b), (.int (0 : Int32)), (.int (3 : Int32))] h0 (fun r u => ∃ d kd, r = some (.ref d) ∧ Ext h0 u ∧ h0.size ≤ d ∧ Arv Z u d kd .byte (6 : Int32) [(.int (nar .byte (c0 >>> ((0 : Int32) &&& 31)))), (.int (nar .byte (c0 >>> ((8 : Int32) &&& 31)))), (.int (nar .byte (c1 >>> ((0 : Int32) &&& 31)))), (.int (nar .byte (c1 >>> ((8 : Int32) &&& 31)))), (.int (nar .byte (c2 >>> ((0 : Int32) &&& 31)))), (.int (nar .byte (c2 >>> ((8 : Int32) &&& 31))))] (.int 0)) := by
  refine Ct.intro pn_java_lang_StringUTF16 hE (fun m => ef11_rii m b _ _) nosf ⟨a0, own_EW hw⟩ ?_
  intro x T w
  refine w.iloadN d11_0 rfl ?_
  have sz0 := w.size
  refine w.newP 3 "[B" d11_1 (tw hw 27 rfl) (by decide) (by decide) (by decide) (by decide) ⟨by decide, by decide⟩ ?_
  intro d T h1 kd g_d w E_d A_d X_d
  have ge_d : Z.heap.size ≤ d := by rw [g_d]; exact sz0
  have nbd : b ≠ d := Nat.ne_of_lt (Nat.lt_of_lt_of_eq Ab.lt g_d.symm)
  refine w.astoreN #[.val (.ref b), .val (.int (0 : Int32)), .val (.int (3 : Int32)), .val (.ref d), .unset, .unset] d11_3 rfl rfl ?_
  refine w.aloadN d11_4 rfl rfl ?_
  refine w.iloadN d11_5 rfl ?_
  refine w.aloadN d11_6 rfl rfl ?_
  refine w.iconst (0 : Int32) d11_7 rfl ?_
  refine w.iloadN d11_8 rfl ?_
  refine w.callS (argsL := [(.ref b), (.int (0 : Int32)), (.ref d), (.int (0 : Int32)), (.int (3 : Int32))]) (rest := []) 0 d11_9 (tw hw 61 rfl) (tw hw 62 rfl) (tw hw 59 rfl) (tw hw 63 rfl) (by decide) (rmC5x_3_0 l Z a0 hw b d kb kd c0 c1 c2 h1 w.old ge_d nbd (Ab.ext E_d) A_d  gp) (lenOf pd_2 rfl) rfl rfl (Nat.le_refl _) ⟨by decide, by decide, by decide, by decide⟩ (allS (List.mem_of_getElem? (i := 0) rfl) all0) ?_
  intro T h2 r w _ hQ
  obtain ⟨rfl, K1⟩ := hQ
  have E2 := keep_to E_d K1 (allS (Nat.le_of_eq g_d.symm) all0)
  have Ab := Ab.ext E2
  show Go x _ Z _ _ _ T 12 #[.val (.ref b), .val (.int (0 : Int32)), .val (.int (3 : Int32)), .val (.ref d), .unset, .unset] [(.int (0 : Int32))]
  refine w.istore #[.val (.ref b), .val (.int (0 : Int32)), .val (.int (3 : Int32)), .val (.ref d), .val (.int (0 : Int32)), .unset] d11_12 rfl ?_
  refine w.iload d11_14 rfl ?_
  refine w.iloadN d11_16 rfl ?_
  refine w.icmpEq d11_17 d11_17t (fun q => absurd q (by decide)) (fun _ => ?_)
  refine w.aloadN d11_20 rfl rfl ?_
  refine w.iloadN d11_21 rfl ?_
  refine w.iloadN d11_22 rfl ?_
  refine w.callS (argsL := [(.ref b), (.int (0 : Int32)), (.int (3 : Int32))]) (rest := []) 0 d11_23 (tw hw 64 rfl) (tw hw 65 rfl) (tw hw 59 rfl) (tw hw 66 rfl) (by decide) (rmTo_3 l Z a0 hw hr b kb c0 c1 c2 h2 w.old Ab) (lenOf pd_3 rfl) rfl rfl (Nat.le_refl _) ⟨by decide, by decide, by decide, by decide⟩ all0 ?_
  intro T h3 r w _ hQ
  obtain ⟨e, ke, rfl, E3, ge, Ae⟩ := hQ
  show Go x _ Z _ _ _ T 26 #[.val (.ref b), .val (.int (0 : Int32)), .val (.int (3 : Int32)), .val (.ref d), .val (.int (0 : Int32)), .unset] [(.ref e)]
  refine w.astore #[.val (.ref b), .val (.int (0 : Int32)), .val (.int (3 : Int32)), .val (.ref d), .val (.int (0 : Int32)), .val (.ref e)] d11_26 rfl rfl ?_
  refine w.aload d11_28 rfl rfl ?_
  refine w.iload d11_30 rfl ?_
  refine w.callS (argsL := [(.ref e), (.int (0 : Int32))]) (rest := []) 0 d11_32 (tw hw 80 rfl) (tw hw 81 rfl) (tw hw 59 rfl) (tw hw 82 rfl) (by decide) (rmGe_3_0 l Z a0 hw hr e ke c0 c1 c2 h3 w.old Ae z0 v0) (lenOf pd_8 rfl) rfl rfl (Nat.le_refl _) ⟨by decide, by decide, by decide, by decide⟩ all0 ?_
  intro T h4 r w _ hQ
  obtain ⟨rfl, rfl⟩ := hQ
  show Go x _ Z _ _ _ T 35 #[.val (.ref b), .val (.int (0 : Int32)), .val (.int (3 : Int32)), .val (.ref d), .val (.int (0 : Int32)), .val (.ref e)] [(.int c0)]
  refine w.sipush (255 : Int32) d11_35 rfl ?_
  refine w.icmpGt d11_38 d11_38t (fun _ => ?_) (fun q => absurd gp q)
  refine w.aload d11_54 rfl rfl ?_
  exact w.retA d11_56 rfl rfl rfl rfl ⟨e, ke, rfl, ext_trans E2 E3, Nat.le_trans E2.1 ge, Ae⟩

set_option maxRecDepth 65536 in
set_option maxHeartbeats 40000000 in
theorem rmC5x_3_1 (l : Launch) (Z : State) (a0 : Array Value) (hw : ∀ d ∈ tables_1, d.before a0 Z = true) (b d : Addr) (kb kd : ClassId) (c0 c1 c2 : Int32) (h0 : Heap) (hE : Ext Z.heap h0) (ge_d : Z.heap.size ≤ d) (nbd : b ≠ d) (Ab : Arv Z h0 b kb .char (3 : Int32) [(.int c0), (.int c1), (.int c2)] (.int 0)) (Ad : Arv Z h0 d kd .byte (3 : Int32) [] (.int 0)) (u0 : ¬ 255 < c0) (gp : 255 < c1) :
    Ct true l Z consts_1 (⟨"java/lang/StringUTF16", "compress", "([CI[BII)I"⟩ : MethodName) jdk_52_method_21_code 7 (some .int) [] ({ frames := 0, cells := 0, slots := 0, locals := 0 } : Room) [d] #[(.ref b), (.int (0 : Int32)), (.ref d), (.int (0 : Int32)), (.int (3 : Int32))] h0 (fun r u => r = some (.int (1 : Int32)) ∧ Keep h0 u [d]) := by
  refine Ct.intro pn_java_lang_StringUTF16 hE (fun m => ef12_ririi m b _ d _ _) (onesf ge_d Ad.lt) ⟨a0, own_EW hw⟩ ?_
  intro x T w
  refine w.iconst (0 : Int32) d12_0 rfl ?_
  refine w.istore #[.val (.ref b), .val (.int (0 : Int32)), .val (.ref d), .val (.int (0 : Int32)), .val (.int (3 : Int32)), .val (.int (0 : Int32)), .unset] d12_1 rfl ?_
  refine w.iload d12_3 rfl ?_
  refine w.iload d12_5 rfl ?_
  refine w.icmpGe d12_7 d12_7t (fun q => absurd (by decide) q) (fun _ => ?_)
  refine w.aloadN d12_10 rfl rfl ?_
  refine w.iloadN d12_11 rfl ?_
  obtain ⟨cl0, Ar0, -, S0, -, H0, -⟩ := id Ab
  refine w.caload d12_12 Ar0 (inb_of S0 (by decide)) (H0.at (inb_of S0 (by decide)) rfl) ?_
  refine w.istore #[.val (.ref b), .val (.int (0 : Int32)), .val (.ref d), .val (.int (0 : Int32)), .val (.int (3 : Int32)), .val (.int (0 : Int32)), .val (.int c0)] d12_13 rfl ?_
  refine w.iload d12_15 rfl ?_
  refine w.sipush (255 : Int32) d12_17 rfl ?_
  refine w.icmpLe d12_20 d12_20t (fun _ => ?_) (fun q => absurd q u0)
  refine w.aloadN d12_26 rfl rfl ?_
  refine w.iloadN d12_27 rfl ?_
  refine w.iload d12_28 rfl ?_
  refine w.i2b d12_30 ?_
  refine w.stB 0 [(.int 0)] d12_31 Ad ⟨by decide, by decide⟩ (by decide) (pad_rep [] (.int 0) 1) (by simp) (fnb _) (List.mem_of_getElem? (i := 0) rfl) ?_
  intro T h1 w W0 A0
  rw [nbb] at A0 W0
  have Ad0 : Arv Z h1 d kd .byte (3 : Int32) [(.int (nar .byte c0))] (.int 0) := A0
  have Ab0 := Ab.other W0 nbd
  refine w.iinc (1 : Int32) #[.val (.ref b), .val (.int (1 : Int32)), .val (.ref d), .val (.int (0 : Int32)), .val (.int (3 : Int32)), .val (.int (0 : Int32)), .val (.int c0)] d12_32 rfl rfl rfl ?_
  refine w.iinc (1 : Int32) #[.val (.ref b), .val (.int (1 : Int32)), .val (.ref d), .val (.int (1 : Int32)), .val (.int (3 : Int32)), .val (.int (0 : Int32)), .val (.int c0)] d12_35 rfl rfl rfl ?_
  refine w.iinc (1 : Int32) #[.val (.ref b), .val (.int (1 : Int32)), .val (.ref d), .val (.int (1 : Int32)), .val (.int (3 : Int32)), .val (.int (1 : Int32)), .val (.int c0)] d12_38 rfl rfl rfl ?_
  refine w.goto d12_41 d12_41t ?_
  refine w.iload d12_3 rfl ?_
  refine w.iload d12_5 rfl ?_
  refine w.icmpGe d12_7 d12_7t (fun q => absurd (by decide) q) (fun _ => ?_)
  refine w.aloadN d12_10 rfl rfl ?_
  refine w.iloadN d12_11 rfl ?_
  obtain ⟨cl1, Ar1, -, S1, -, H1, -⟩ := id Ab0
  refine w.caload d12_12 Ar1 (inb_of S1 (by decide)) (H1.at (inb_of S1 (by decide)) rfl) ?_
  refine w.istore #[.val (.ref b), .val (.int (1 : Int32)), .val (.ref d), .val (.int (1 : Int32)), .val (.int (3 : Int32)), .val (.int (1 : Int32)), .val (.int c1)] d12_13 rfl ?_
  refine w.iload d12_15 rfl ?_
  refine w.sipush (255 : Int32) d12_17 rfl ?_
  refine w.icmpLe d12_20 d12_20t (fun q => absurd gp q) (fun _ => ?_)
  refine w.iload d12_23 rfl ?_
  exact w.retI d12_25 rfl ⟨rfl, ((Keep.refl _ _).wr W0 (Or.inl (List.mem_singleton.mpr rfl)))⟩

set_option maxRecDepth 65536 in
set_option maxHeartbeats 40000000 in
theorem rmGe_3_1 (l : Launch) (Z : State) (a0 : Array Value) (hw : ∀ d ∈ tables_1, d.before a0 Z = true) (hr : rest_1_c.value a0 Z none Z [] = some true) (t : Addr) (kb : ClassId) (c0 c1 c2 : Int32) (h0 : Heap) (hE : Ext Z.heap h0) (A : Arv Z h0 t kb .byte (6 : Int32) [(.int (nar .byte (c0 >>> ((0 : Int32) &&& 31)))), (.int (nar .byte (c0 >>> ((8 : Int32) &&& 31)))), (.int (nar .byte (c1 >>> ((0 : Int32) &&& 31)))), (.int (nar .byte (c1 >>> ((8 : Int32) &&& 31)))), (.int (nar .byte (c2 >>> ((0 : Int32) &&& 31)))), (.int (nar .byte (c2 >>> ((8 : Int32) &&& 31))))] (.int 0)) (z : 0 ≤ c1.toInt) (v : c1.toInt < 65536) :
    Ct true l Z consts_1 (⟨"java/lang/StringUTF16", "getChar", "([BI)C"⟩ : MethodName) jdk_52_method_5_code 2 (some .char) [] ({ frames := 0, cells := 0, slots := 0, locals := 0 } : Room) [] #[(.ref t), (.int (1 : Int32))] h0 (fun r u => r = some (.int c1) ∧ h0 = u) := by
  refine Ct.intro pn_java_lang_StringUTF16 hE (fun m => ef17_ri m t _) nosf ⟨a0, own_EW hw⟩ ?_
  intro x T w
  obtain ⟨cl, Ar, -, S, M, H, -⟩ := id A
  refine w.getS d17_0 (tw hw 77 rfl) (own_ad hr) ?_
  intro T w
  refine w.ifNe d17_3 d17_3t (fun _ => ?_) (fun q => absurd q (by decide))
  refine w.iloadN d17_28 rfl ?_
  refine w.iconst (1 : Int32) d17_29 rfl ?_
  refine w.ishl d17_30 ?_
  refine w.istoreN #[.val (.ref t), .val (.int ((1 : Int32) <<< ((1 : Int32) &&& 31)))] d17_31 rfl ?_
  refine w.aloadN d17_32 rfl rfl ?_
  refine w.iloadN d17_33 rfl ?_
  refine w.iinc (1 : Int32) #[.val (.ref t), .val (.int (((1 : Int32) <<< ((1 : Int32) &&& 31)) + (1 : Int32)))] d17_34 rfl rfl rfl ?_
  refine w.baload (v := .int (nar .byte (c1 >>> ((0 : Int32) &&& 31)))) d17_37 Ar (inb_of S (by decide)) (H.at (inb_of S (by decide)) (by rw [show (((1 : Int32) <<< ((1 : Int32) &&& 31))).toNatClampNeg = 2 by decide]; rfl)) ?_
  refine w.sipush (255 : Int32) d17_38 rfl ?_
  refine w.iand d17_41 ?_
  refine w.getS d17_42 (tw hw 78 rfl) (own_hi hr) ?_
  intro T w
  refine w.ishl d17_45 ?_
  refine w.aloadN d17_46 rfl rfl ?_
  refine w.iloadN d17_47 rfl ?_
  refine w.baload (v := .int (nar .byte (c1 >>> ((8 : Int32) &&& 31)))) d17_48 Ar (inb_of S (by decide)) (H.at (inb_of S (by decide)) (by rw [show ((((1 : Int32) <<< ((1 : Int32) &&& 31)) + (1 : Int32))).toNatClampNeg = 3 by decide]; rfl)) ?_
  refine w.sipush (255 : Int32) d17_49 rfl ?_
  refine w.iand d17_52 ?_
  refine w.getS d17_53 (tw hw 79 rfl) (own_lo hr) ?_
  intro T w
  refine w.ishl d17_56 ?_
  refine w.ior d17_57 ?_
  refine w.i2c d17_58 ?_
  exact w.retN d17_59 rfl (by simp) ⟨by rw [ncc, own_gc z v], rfl⟩

set_option maxRecDepth 65536 in
set_option maxHeartbeats 40000000 in
theorem rmC3x_3_1 (l : Launch) (Z : State) (a0 : Array Value) (hw : ∀ d ∈ tables_1, d.before a0 Z = true) (hr : rest_1_c.value a0 Z none Z [] = some true) (b : Addr) (kb : ClassId) (c0 c1 c2 : Int32) (h0 : Heap) (hE : Ext Z.heap h0) (Ab : Arv Z h0 b kb .char (3 : Int32) [(.int c0), (.int c1), (.int c2)] (.int 0)) (z0 : 0 ≤ c0.toInt) (v0 : c0.toInt < 65536) (z1 : 0 ≤ c1.toInt) (v1 : c1.toInt < 65536) (z2 : 0 ≤ c2.toInt) (v2 : c2.toInt < 65536) (u0 : ¬ 255 < c0) (gp : 255 < c1) :
    Ct true l Z consts_1 (⟨"java/lang/StringUTF16", "compress", "([CII)[B"⟩ : MethodName) jdk_52_method_16_code 6 (some (.array .byte)) [] ({ frames := 3, cells := 2, slots := 9, locals := 40 } : Room) [] #[(.ref b), (.int (0 : Int32)), (.int (3 : Int32))] h0 (fun r u => ∃ d kd, r = some (.ref d) ∧ Ext h0 u ∧ h0.size ≤ d ∧ Arv Z u d kd .byte (6 : Int32) [(.int (nar .byte (c0 >>> ((0 : Int32) &&& 31)))), (.int (nar .byte (c0 >>> ((8 : Int32) &&& 31)))), (.int (nar .byte (c1 >>> ((0 : Int32) &&& 31)))), (.int (nar .byte (c1 >>> ((8 : Int32) &&& 31)))), (.int (nar .byte (c2 >>> ((0 : Int32) &&& 31)))), (.int (nar .byte (c2 >>> ((8 : Int32) &&& 31))))] (.int 0)) := by
  refine Ct.intro pn_java_lang_StringUTF16 hE (fun m => ef11_rii m b _ _) nosf ⟨a0, own_EW hw⟩ ?_
  intro x T w
  refine w.iloadN d11_0 rfl ?_
  have sz0 := w.size
  refine w.newP 3 "[B" d11_1 (tw hw 27 rfl) (by decide) (by decide) (by decide) (by decide) ⟨by decide, by decide⟩ ?_
  intro d T h1 kd g_d w E_d A_d X_d
  have ge_d : Z.heap.size ≤ d := by rw [g_d]; exact sz0
  have nbd : b ≠ d := Nat.ne_of_lt (Nat.lt_of_lt_of_eq Ab.lt g_d.symm)
  refine w.astoreN #[.val (.ref b), .val (.int (0 : Int32)), .val (.int (3 : Int32)), .val (.ref d), .unset, .unset] d11_3 rfl rfl ?_
  refine w.aloadN d11_4 rfl rfl ?_
  refine w.iloadN d11_5 rfl ?_
  refine w.aloadN d11_6 rfl rfl ?_
  refine w.iconst (0 : Int32) d11_7 rfl ?_
  refine w.iloadN d11_8 rfl ?_
  refine w.callS (argsL := [(.ref b), (.int (0 : Int32)), (.ref d), (.int (0 : Int32)), (.int (3 : Int32))]) (rest := []) 0 d11_9 (tw hw 61 rfl) (tw hw 62 rfl) (tw hw 59 rfl) (tw hw 63 rfl) (by decide) (rmC5x_3_1 l Z a0 hw b d kb kd c0 c1 c2 h1 w.old ge_d nbd (Ab.ext E_d) A_d u0 gp) (lenOf pd_2 rfl) rfl rfl (Nat.le_refl _) ⟨by decide, by decide, by decide, by decide⟩ (allS (List.mem_of_getElem? (i := 0) rfl) all0) ?_
  intro T h2 r w _ hQ
  obtain ⟨rfl, K1⟩ := hQ
  have E2 := keep_to E_d K1 (allS (Nat.le_of_eq g_d.symm) all0)
  have Ab := Ab.ext E2
  show Go x _ Z _ _ _ T 12 #[.val (.ref b), .val (.int (0 : Int32)), .val (.int (3 : Int32)), .val (.ref d), .unset, .unset] [(.int (1 : Int32))]
  refine w.istore #[.val (.ref b), .val (.int (0 : Int32)), .val (.int (3 : Int32)), .val (.ref d), .val (.int (1 : Int32)), .unset] d11_12 rfl ?_
  refine w.iload d11_14 rfl ?_
  refine w.iloadN d11_16 rfl ?_
  refine w.icmpEq d11_17 d11_17t (fun q => absurd q (by decide)) (fun _ => ?_)
  refine w.aloadN d11_20 rfl rfl ?_
  refine w.iloadN d11_21 rfl ?_
  refine w.iloadN d11_22 rfl ?_
  refine w.callS (argsL := [(.ref b), (.int (0 : Int32)), (.int (3 : Int32))]) (rest := []) 0 d11_23 (tw hw 64 rfl) (tw hw 65 rfl) (tw hw 59 rfl) (tw hw 66 rfl) (by decide) (rmTo_3 l Z a0 hw hr b kb c0 c1 c2 h2 w.old Ab) (lenOf pd_3 rfl) rfl rfl (Nat.le_refl _) ⟨by decide, by decide, by decide, by decide⟩ all0 ?_
  intro T h3 r w _ hQ
  obtain ⟨e, ke, rfl, E3, ge, Ae⟩ := hQ
  show Go x _ Z _ _ _ T 26 #[.val (.ref b), .val (.int (0 : Int32)), .val (.int (3 : Int32)), .val (.ref d), .val (.int (1 : Int32)), .unset] [(.ref e)]
  refine w.astore #[.val (.ref b), .val (.int (0 : Int32)), .val (.int (3 : Int32)), .val (.ref d), .val (.int (1 : Int32)), .val (.ref e)] d11_26 rfl rfl ?_
  refine w.aload d11_28 rfl rfl ?_
  refine w.iload d11_30 rfl ?_
  refine w.callS (argsL := [(.ref e), (.int (1 : Int32))]) (rest := []) 0 d11_32 (tw hw 80 rfl) (tw hw 81 rfl) (tw hw 59 rfl) (tw hw 82 rfl) (by decide) (rmGe_3_1 l Z a0 hw hr e ke c0 c1 c2 h3 w.old Ae z1 v1) (lenOf pd_8 rfl) rfl rfl (Nat.le_refl _) ⟨by decide, by decide, by decide, by decide⟩ all0 ?_
  intro T h4 r w _ hQ
  obtain ⟨rfl, rfl⟩ := hQ
  show Go x _ Z _ _ _ T 35 #[.val (.ref b), .val (.int (0 : Int32)), .val (.int (3 : Int32)), .val (.ref d), .val (.int (1 : Int32)), .val (.ref e)] [(.int c1)]
  refine w.sipush (255 : Int32) d11_35 rfl ?_
  refine w.icmpGt d11_38 d11_38t (fun _ => ?_) (fun q => absurd gp q)
  refine w.aload d11_54 rfl rfl ?_
  exact w.retA d11_56 rfl rfl rfl rfl ⟨e, ke, rfl, ext_trans E2 E3, Nat.le_trans E2.1 ge, Ae⟩

set_option maxRecDepth 65536 in
set_option maxHeartbeats 40000000 in
theorem rmC5x_3_2 (l : Launch) (Z : State) (a0 : Array Value) (hw : ∀ d ∈ tables_1, d.before a0 Z = true) (b d : Addr) (kb kd : ClassId) (c0 c1 c2 : Int32) (h0 : Heap) (hE : Ext Z.heap h0) (ge_d : Z.heap.size ≤ d) (nbd : b ≠ d) (Ab : Arv Z h0 b kb .char (3 : Int32) [(.int c0), (.int c1), (.int c2)] (.int 0)) (Ad : Arv Z h0 d kd .byte (3 : Int32) [] (.int 0)) (u0 : ¬ 255 < c0) (u1 : ¬ 255 < c1) (gp : 255 < c2) :
    Ct true l Z consts_1 (⟨"java/lang/StringUTF16", "compress", "([CI[BII)I"⟩ : MethodName) jdk_52_method_21_code 7 (some .int) [] ({ frames := 0, cells := 0, slots := 0, locals := 0 } : Room) [d] #[(.ref b), (.int (0 : Int32)), (.ref d), (.int (0 : Int32)), (.int (3 : Int32))] h0 (fun r u => r = some (.int (2 : Int32)) ∧ Keep h0 u [d]) := by
  refine Ct.intro pn_java_lang_StringUTF16 hE (fun m => ef12_ririi m b _ d _ _) (onesf ge_d Ad.lt) ⟨a0, own_EW hw⟩ ?_
  intro x T w
  refine w.iconst (0 : Int32) d12_0 rfl ?_
  refine w.istore #[.val (.ref b), .val (.int (0 : Int32)), .val (.ref d), .val (.int (0 : Int32)), .val (.int (3 : Int32)), .val (.int (0 : Int32)), .unset] d12_1 rfl ?_
  refine w.iload d12_3 rfl ?_
  refine w.iload d12_5 rfl ?_
  refine w.icmpGe d12_7 d12_7t (fun q => absurd (by decide) q) (fun _ => ?_)
  refine w.aloadN d12_10 rfl rfl ?_
  refine w.iloadN d12_11 rfl ?_
  obtain ⟨cl0, Ar0, -, S0, -, H0, -⟩ := id Ab
  refine w.caload d12_12 Ar0 (inb_of S0 (by decide)) (H0.at (inb_of S0 (by decide)) rfl) ?_
  refine w.istore #[.val (.ref b), .val (.int (0 : Int32)), .val (.ref d), .val (.int (0 : Int32)), .val (.int (3 : Int32)), .val (.int (0 : Int32)), .val (.int c0)] d12_13 rfl ?_
  refine w.iload d12_15 rfl ?_
  refine w.sipush (255 : Int32) d12_17 rfl ?_
  refine w.icmpLe d12_20 d12_20t (fun _ => ?_) (fun q => absurd q u0)
  refine w.aloadN d12_26 rfl rfl ?_
  refine w.iloadN d12_27 rfl ?_
  refine w.iload d12_28 rfl ?_
  refine w.i2b d12_30 ?_
  refine w.stB 0 [(.int 0)] d12_31 Ad ⟨by decide, by decide⟩ (by decide) (pad_rep [] (.int 0) 1) (by simp) (fnb _) (List.mem_of_getElem? (i := 0) rfl) ?_
  intro T h1 w W0 A0
  rw [nbb] at A0 W0
  have Ad0 : Arv Z h1 d kd .byte (3 : Int32) [(.int (nar .byte c0))] (.int 0) := A0
  have Ab0 := Ab.other W0 nbd
  refine w.iinc (1 : Int32) #[.val (.ref b), .val (.int (1 : Int32)), .val (.ref d), .val (.int (0 : Int32)), .val (.int (3 : Int32)), .val (.int (0 : Int32)), .val (.int c0)] d12_32 rfl rfl rfl ?_
  refine w.iinc (1 : Int32) #[.val (.ref b), .val (.int (1 : Int32)), .val (.ref d), .val (.int (1 : Int32)), .val (.int (3 : Int32)), .val (.int (0 : Int32)), .val (.int c0)] d12_35 rfl rfl rfl ?_
  refine w.iinc (1 : Int32) #[.val (.ref b), .val (.int (1 : Int32)), .val (.ref d), .val (.int (1 : Int32)), .val (.int (3 : Int32)), .val (.int (1 : Int32)), .val (.int c0)] d12_38 rfl rfl rfl ?_
  refine w.goto d12_41 d12_41t ?_
  refine w.iload d12_3 rfl ?_
  refine w.iload d12_5 rfl ?_
  refine w.icmpGe d12_7 d12_7t (fun q => absurd (by decide) q) (fun _ => ?_)
  refine w.aloadN d12_10 rfl rfl ?_
  refine w.iloadN d12_11 rfl ?_
  obtain ⟨cl1, Ar1, -, S1, -, H1, -⟩ := id Ab0
  refine w.caload d12_12 Ar1 (inb_of S1 (by decide)) (H1.at (inb_of S1 (by decide)) rfl) ?_
  refine w.istore #[.val (.ref b), .val (.int (1 : Int32)), .val (.ref d), .val (.int (1 : Int32)), .val (.int (3 : Int32)), .val (.int (1 : Int32)), .val (.int c1)] d12_13 rfl ?_
  refine w.iload d12_15 rfl ?_
  refine w.sipush (255 : Int32) d12_17 rfl ?_
  refine w.icmpLe d12_20 d12_20t (fun _ => ?_) (fun q => absurd q u1)
  refine w.aloadN d12_26 rfl rfl ?_
  refine w.iloadN d12_27 rfl ?_
  refine w.iload d12_28 rfl ?_
  refine w.i2b d12_30 ?_
  refine w.stB 1 [(.int (nar .byte c0)), (.int 0)] d12_31 Ad0 ⟨by decide, by decide⟩ (by decide) (pad_rep [(.int (nar .byte c0))] (.int 0) 1) (by simp) (fnb _) (List.mem_of_getElem? (i := 0) rfl) ?_
  intro T h2 w W1 A1
  rw [nbb] at A1 W1
  have Ad1 : Arv Z h2 d kd .byte (3 : Int32) [(.int (nar .byte c0)), (.int (nar .byte c1))] (.int 0) := A1
  have Ab1 := Ab0.other W1 nbd
  refine w.iinc (1 : Int32) #[.val (.ref b), .val (.int (2 : Int32)), .val (.ref d), .val (.int (1 : Int32)), .val (.int (3 : Int32)), .val (.int (1 : Int32)), .val (.int c1)] d12_32 rfl rfl rfl ?_
  refine w.iinc (1 : Int32) #[.val (.ref b), .val (.int (2 : Int32)), .val (.ref d), .val (.int (2 : Int32)), .val (.int (3 : Int32)), .val (.int (1 : Int32)), .val (.int c1)] d12_35 rfl rfl rfl ?_
  refine w.iinc (1 : Int32) #[.val (.ref b), .val (.int (2 : Int32)), .val (.ref d), .val (.int (2 : Int32)), .val (.int (3 : Int32)), .val (.int (2 : Int32)), .val (.int c1)] d12_38 rfl rfl rfl ?_
  refine w.goto d12_41 d12_41t ?_
  refine w.iload d12_3 rfl ?_
  refine w.iload d12_5 rfl ?_
  refine w.icmpGe d12_7 d12_7t (fun q => absurd (by decide) q) (fun _ => ?_)
  refine w.aloadN d12_10 rfl rfl ?_
  refine w.iloadN d12_11 rfl ?_
  obtain ⟨cl2, Ar2, -, S2, -, H2, -⟩ := id Ab1
  refine w.caload d12_12 Ar2 (inb_of S2 (by decide)) (H2.at (inb_of S2 (by decide)) rfl) ?_
  refine w.istore #[.val (.ref b), .val (.int (2 : Int32)), .val (.ref d), .val (.int (2 : Int32)), .val (.int (3 : Int32)), .val (.int (2 : Int32)), .val (.int c2)] d12_13 rfl ?_
  refine w.iload d12_15 rfl ?_
  refine w.sipush (255 : Int32) d12_17 rfl ?_
  refine w.icmpLe d12_20 d12_20t (fun q => absurd gp q) (fun _ => ?_)
  refine w.iload d12_23 rfl ?_
  exact w.retI d12_25 rfl ⟨rfl, (((Keep.refl _ _).wr W0 (Or.inl (List.mem_singleton.mpr rfl))).wr W1 (Or.inl (List.mem_singleton.mpr rfl)))⟩

set_option maxRecDepth 65536 in
set_option maxHeartbeats 40000000 in
theorem rmGe_3_2 (l : Launch) (Z : State) (a0 : Array Value) (hw : ∀ d ∈ tables_1, d.before a0 Z = true) (hr : rest_1_c.value a0 Z none Z [] = some true) (t : Addr) (kb : ClassId) (c0 c1 c2 : Int32) (h0 : Heap) (hE : Ext Z.heap h0) (A : Arv Z h0 t kb .byte (6 : Int32) [(.int (nar .byte (c0 >>> ((0 : Int32) &&& 31)))), (.int (nar .byte (c0 >>> ((8 : Int32) &&& 31)))), (.int (nar .byte (c1 >>> ((0 : Int32) &&& 31)))), (.int (nar .byte (c1 >>> ((8 : Int32) &&& 31)))), (.int (nar .byte (c2 >>> ((0 : Int32) &&& 31)))), (.int (nar .byte (c2 >>> ((8 : Int32) &&& 31))))] (.int 0)) (z : 0 ≤ c2.toInt) (v : c2.toInt < 65536) :
    Ct true l Z consts_1 (⟨"java/lang/StringUTF16", "getChar", "([BI)C"⟩ : MethodName) jdk_52_method_5_code 2 (some .char) [] ({ frames := 0, cells := 0, slots := 0, locals := 0 } : Room) [] #[(.ref t), (.int (2 : Int32))] h0 (fun r u => r = some (.int c2) ∧ h0 = u) := by
  refine Ct.intro pn_java_lang_StringUTF16 hE (fun m => ef17_ri m t _) nosf ⟨a0, own_EW hw⟩ ?_
  intro x T w
  obtain ⟨cl, Ar, -, S, M, H, -⟩ := id A
  refine w.getS d17_0 (tw hw 77 rfl) (own_ad hr) ?_
  intro T w
  refine w.ifNe d17_3 d17_3t (fun _ => ?_) (fun q => absurd q (by decide))
  refine w.iloadN d17_28 rfl ?_
  refine w.iconst (1 : Int32) d17_29 rfl ?_
  refine w.ishl d17_30 ?_
  refine w.istoreN #[.val (.ref t), .val (.int ((2 : Int32) <<< ((1 : Int32) &&& 31)))] d17_31 rfl ?_
  refine w.aloadN d17_32 rfl rfl ?_
  refine w.iloadN d17_33 rfl ?_
  refine w.iinc (1 : Int32) #[.val (.ref t), .val (.int (((2 : Int32) <<< ((1 : Int32) &&& 31)) + (1 : Int32)))] d17_34 rfl rfl rfl ?_
  refine w.baload (v := .int (nar .byte (c2 >>> ((0 : Int32) &&& 31)))) d17_37 Ar (inb_of S (by decide)) (H.at (inb_of S (by decide)) (by rw [show (((2 : Int32) <<< ((1 : Int32) &&& 31))).toNatClampNeg = 4 by decide]; rfl)) ?_
  refine w.sipush (255 : Int32) d17_38 rfl ?_
  refine w.iand d17_41 ?_
  refine w.getS d17_42 (tw hw 78 rfl) (own_hi hr) ?_
  intro T w
  refine w.ishl d17_45 ?_
  refine w.aloadN d17_46 rfl rfl ?_
  refine w.iloadN d17_47 rfl ?_
  refine w.baload (v := .int (nar .byte (c2 >>> ((8 : Int32) &&& 31)))) d17_48 Ar (inb_of S (by decide)) (H.at (inb_of S (by decide)) (by rw [show ((((2 : Int32) <<< ((1 : Int32) &&& 31)) + (1 : Int32))).toNatClampNeg = 5 by decide]; rfl)) ?_
  refine w.sipush (255 : Int32) d17_49 rfl ?_
  refine w.iand d17_52 ?_
  refine w.getS d17_53 (tw hw 79 rfl) (own_lo hr) ?_
  intro T w
  refine w.ishl d17_56 ?_
  refine w.ior d17_57 ?_
  refine w.i2c d17_58 ?_
  exact w.retN d17_59 rfl (by simp) ⟨by rw [ncc, own_gc z v], rfl⟩

set_option maxRecDepth 65536 in
set_option maxHeartbeats 40000000 in
theorem rmC3x_3_2 (l : Launch) (Z : State) (a0 : Array Value) (hw : ∀ d ∈ tables_1, d.before a0 Z = true) (hr : rest_1_c.value a0 Z none Z [] = some true) (b : Addr) (kb : ClassId) (c0 c1 c2 : Int32) (h0 : Heap) (hE : Ext Z.heap h0) (Ab : Arv Z h0 b kb .char (3 : Int32) [(.int c0), (.int c1), (.int c2)] (.int 0)) (z0 : 0 ≤ c0.toInt) (v0 : c0.toInt < 65536) (z1 : 0 ≤ c1.toInt) (v1 : c1.toInt < 65536) (z2 : 0 ≤ c2.toInt) (v2 : c2.toInt < 65536) (u0 : ¬ 255 < c0) (u1 : ¬ 255 < c1) (gp : 255 < c2) :
    Ct true l Z consts_1 (⟨"java/lang/StringUTF16", "compress", "([CII)[B"⟩ : MethodName) jdk_52_method_16_code 6 (some (.array .byte)) [] ({ frames := 3, cells := 2, slots := 9, locals := 40 } : Room) [] #[(.ref b), (.int (0 : Int32)), (.int (3 : Int32))] h0 (fun r u => ∃ d kd, r = some (.ref d) ∧ Ext h0 u ∧ h0.size ≤ d ∧ Arv Z u d kd .byte (6 : Int32) [(.int (nar .byte (c0 >>> ((0 : Int32) &&& 31)))), (.int (nar .byte (c0 >>> ((8 : Int32) &&& 31)))), (.int (nar .byte (c1 >>> ((0 : Int32) &&& 31)))), (.int (nar .byte (c1 >>> ((8 : Int32) &&& 31)))), (.int (nar .byte (c2 >>> ((0 : Int32) &&& 31)))), (.int (nar .byte (c2 >>> ((8 : Int32) &&& 31))))] (.int 0)) := by
  refine Ct.intro pn_java_lang_StringUTF16 hE (fun m => ef11_rii m b _ _) nosf ⟨a0, own_EW hw⟩ ?_
  intro x T w
  refine w.iloadN d11_0 rfl ?_
  have sz0 := w.size
  refine w.newP 3 "[B" d11_1 (tw hw 27 rfl) (by decide) (by decide) (by decide) (by decide) ⟨by decide, by decide⟩ ?_
  intro d T h1 kd g_d w E_d A_d X_d
  have ge_d : Z.heap.size ≤ d := by rw [g_d]; exact sz0
  have nbd : b ≠ d := Nat.ne_of_lt (Nat.lt_of_lt_of_eq Ab.lt g_d.symm)
  refine w.astoreN #[.val (.ref b), .val (.int (0 : Int32)), .val (.int (3 : Int32)), .val (.ref d), .unset, .unset] d11_3 rfl rfl ?_
  refine w.aloadN d11_4 rfl rfl ?_
  refine w.iloadN d11_5 rfl ?_
  refine w.aloadN d11_6 rfl rfl ?_
  refine w.iconst (0 : Int32) d11_7 rfl ?_
  refine w.iloadN d11_8 rfl ?_
  refine w.callS (argsL := [(.ref b), (.int (0 : Int32)), (.ref d), (.int (0 : Int32)), (.int (3 : Int32))]) (rest := []) 0 d11_9 (tw hw 61 rfl) (tw hw 62 rfl) (tw hw 59 rfl) (tw hw 63 rfl) (by decide) (rmC5x_3_2 l Z a0 hw b d kb kd c0 c1 c2 h1 w.old ge_d nbd (Ab.ext E_d) A_d u0 u1 gp) (lenOf pd_2 rfl) rfl rfl (Nat.le_refl _) ⟨by decide, by decide, by decide, by decide⟩ (allS (List.mem_of_getElem? (i := 0) rfl) all0) ?_
  intro T h2 r w _ hQ
  obtain ⟨rfl, K1⟩ := hQ
  have E2 := keep_to E_d K1 (allS (Nat.le_of_eq g_d.symm) all0)
  have Ab := Ab.ext E2
  show Go x _ Z _ _ _ T 12 #[.val (.ref b), .val (.int (0 : Int32)), .val (.int (3 : Int32)), .val (.ref d), .unset, .unset] [(.int (2 : Int32))]
  refine w.istore #[.val (.ref b), .val (.int (0 : Int32)), .val (.int (3 : Int32)), .val (.ref d), .val (.int (2 : Int32)), .unset] d11_12 rfl ?_
  refine w.iload d11_14 rfl ?_
  refine w.iloadN d11_16 rfl ?_
  refine w.icmpEq d11_17 d11_17t (fun q => absurd q (by decide)) (fun _ => ?_)
  refine w.aloadN d11_20 rfl rfl ?_
  refine w.iloadN d11_21 rfl ?_
  refine w.iloadN d11_22 rfl ?_
  refine w.callS (argsL := [(.ref b), (.int (0 : Int32)), (.int (3 : Int32))]) (rest := []) 0 d11_23 (tw hw 64 rfl) (tw hw 65 rfl) (tw hw 59 rfl) (tw hw 66 rfl) (by decide) (rmTo_3 l Z a0 hw hr b kb c0 c1 c2 h2 w.old Ab) (lenOf pd_3 rfl) rfl rfl (Nat.le_refl _) ⟨by decide, by decide, by decide, by decide⟩ all0 ?_
  intro T h3 r w _ hQ
  obtain ⟨e, ke, rfl, E3, ge, Ae⟩ := hQ
  show Go x _ Z _ _ _ T 26 #[.val (.ref b), .val (.int (0 : Int32)), .val (.int (3 : Int32)), .val (.ref d), .val (.int (2 : Int32)), .unset] [(.ref e)]
  refine w.astore #[.val (.ref b), .val (.int (0 : Int32)), .val (.int (3 : Int32)), .val (.ref d), .val (.int (2 : Int32)), .val (.ref e)] d11_26 rfl rfl ?_
  refine w.aload d11_28 rfl rfl ?_
  refine w.iload d11_30 rfl ?_
  refine w.callS (argsL := [(.ref e), (.int (2 : Int32))]) (rest := []) 0 d11_32 (tw hw 80 rfl) (tw hw 81 rfl) (tw hw 59 rfl) (tw hw 82 rfl) (by decide) (rmGe_3_2 l Z a0 hw hr e ke c0 c1 c2 h3 w.old Ae z2 v2) (lenOf pd_8 rfl) rfl rfl (Nat.le_refl _) ⟨by decide, by decide, by decide, by decide⟩ all0 ?_
  intro T h4 r w _ hQ
  obtain ⟨rfl, rfl⟩ := hQ
  show Go x _ Z _ _ _ T 35 #[.val (.ref b), .val (.int (0 : Int32)), .val (.int (3 : Int32)), .val (.ref d), .val (.int (2 : Int32)), .val (.ref e)] [(.int c2)]
  refine w.sipush (255 : Int32) d11_35 rfl ?_
  refine w.icmpGt d11_38 d11_38t (fun _ => ?_) (fun q => absurd gp q)
  refine w.aload d11_54 rfl rfl ?_
  exact w.retA d11_56 rfl rfl rfl rfl ⟨e, ke, rfl, ext_trans E2 E3, Nat.le_trans E2.1 ge, Ae⟩

theorem rmC3U_3 (l : Launch) (Z : State) (a0 : Array Value) (hw : ∀ d ∈ tables_1, d.before a0 Z = true) (hr : rest_1_c.value a0 Z none Z [] = some true) (b : Addr) (kb : ClassId) (c0 c1 c2 : Int32) (h0 : Heap) (hE : Ext Z.heap h0) (Ab : Arv Z h0 b kb .char (3 : Int32) [(.int c0), (.int c1), (.int c2)] (.int 0)) (z0 : 0 ≤ c0.toInt) (v0 : c0.toInt < 65536) (z1 : 0 ≤ c1.toInt) (v1 : c1.toInt < 65536) (z2 : 0 ≤ c2.toInt) (v2 : c2.toInt < 65536) (hx : ¬ (¬ 255 < c0 ∧ ¬ 255 < c1 ∧ ¬ 255 < c2 ∧ True)) : Ct true l Z consts_1 (⟨"java/lang/StringUTF16", "compress", "([CII)[B"⟩ : MethodName) jdk_52_method_16_code 6 (some (.array .byte)) [] ({ frames := 3, cells := 2, slots := 9, locals := 40 } : Room) [] #[(.ref b), (.int (0 : Int32)), (.int (3 : Int32))] h0 (fun r u => ∃ d kd, r = some (.ref d) ∧ Ext h0 u ∧ h0.size ≤ d ∧ Arv Z u d kd .byte (6 : Int32) [(.int (nar .byte (c0 >>> ((0 : Int32) &&& 31)))), (.int (nar .byte (c0 >>> ((8 : Int32) &&& 31)))), (.int (nar .byte (c1 >>> ((0 : Int32) &&& 31)))), (.int (nar .byte (c1 >>> ((8 : Int32) &&& 31)))), (.int (nar .byte (c2 >>> ((0 : Int32) &&& 31)))), (.int (nar .byte (c2 >>> ((8 : Int32) &&& 31))))] (.int 0)) := by
  by_cases u0 : 255 < c0
  · exact rmC3x_3_0 l Z a0 hw hr b kb c0 c1 c2 h0 hE Ab z0 v0 z1 v1 z2 v2  u0
  · skip
    by_cases u1 : 255 < c1
    · exact rmC3x_3_1 l Z a0 hw hr b kb c0 c1 c2 h0 hE Ab z0 v0 z1 v1 z2 v2 u0 u1
    · skip
      by_cases u2 : 255 < c2
      · exact rmC3x_3_2 l Z a0 hw hr b kb c0 c1 c2 h0 hE Ab z0 v0 z1 v1 z2 v2 u0 u1 u2
      · exact absurd ⟨u0, u1, u2, trivial⟩ hx
set_option maxRecDepth 65536 in
set_option maxHeartbeats 40000000 in
theorem rmCL_6_3 (l : Launch) (Z : State) (a0 : Array Value) (hw : ∀ d ∈ tables_1, d.before a0 Z = true) (d : Addr) (kd : ClassId) (vs : List Value) (h0 : Heap) (hE : Ext Z.heap h0) (Ad : Arv Z h0 d kd .byte (6 : Int32) vs (.int 0)) :
    Ct true l Z consts_1 (⟨"java/lang/StringUTF16", "coderFromArrayLen", "([BI)B"⟩ : MethodName) jdk_52_method_15_code 2 (some .byte) [] ({ frames := 0, cells := 0, slots := 0, locals := 0 } : Room) [] #[(.ref d), (.int (3 : Int32))] h0 (fun r u => r = some (.int (1 : Int32)) ∧ h0 = u) := by
  refine Ct.intro pn_java_lang_StringUTF16 hE (fun m => ef18_ri m d _) nosf ⟨a0, own_EW hw⟩ ?_
  intro x T w
  obtain ⟨cl, Ar, -, S, M, -, -⟩ := Ad
  refine w.iloadN d18_0 rfl ?_
  refine w.aloadN d18_1 rfl rfl ?_
  refine w.alen (6 : Int32) d18_2 Ar (len_of S M) ?_
  refine w.isub d18_3 ?_
  refine w.bipush (31 : Int32) d18_4 rfl ?_
  refine w.iushr d18_6 ?_
  refine w.i2b d18_7 ?_
  exact w.retN d18_8 rfl (by simp) ⟨rfl, rfl⟩

set_option maxRecDepth 65536 in
set_option maxHeartbeats 40000000 in
theorem rmS4u_3 (l : Launch) (Z : State) (a0 : Array Value) (hw : ∀ d ∈ tables_1, d.before a0 Z = true) (hr : rest_1_c.value a0 Z none Z [] = some true) (a b : Addr) (kb : ClassId) (c0 c1 c2 : Int32) (h0 : Heap) (hE : Ext Z.heap h0) (ge_a : Z.heap.size ≤ a) (E0 : Exa Z h0 a "java/lang/String") (G1 : Fld Z h0 a "java/lang/String" "value" "[B" .null) (G2 : Fld Z h0 a "java/lang/String" "coder" "B" (.int (0 : Int32))) (Ab : Arv Z h0 b kb .char (3 : Int32) [(.int c0), (.int c1), (.int c2)] (.int 0)) (z0 : 0 ≤ c0.toInt) (v0 : c0.toInt < 65536) (z1 : 0 ≤ c1.toInt) (v1 : c1.toInt < 65536) (z2 : 0 ≤ c2.toInt) (v2 : c2.toInt < 65536) (hx : ¬ (¬ 255 < c0 ∧ ¬ 255 < c1 ∧ ¬ 255 < c2 ∧ True)) :
    Ct true l Z consts_1 (⟨"java/lang/String", "<init>", "([CIILjava/lang/Void;)V"⟩ : MethodName) jdk_42_method_149_code 6 none [] ({ frames := 4, cells := 2, slots := 9, locals := 57 } : Room) [a] #[(.ref a), (.ref b), (.int (0 : Int32)), (.int (3 : Int32)), .null] h0 (fun r u => r = none ∧ Keep h0 u [a] ∧ ∃ t, StrL Z u a t 1 [nar .byte (c0 >>> ((0 : Int32) &&& 31)), nar .byte (c0 >>> ((8 : Int32) &&& 31)), nar .byte (c1 >>> ((0 : Int32) &&& 31)), nar .byte (c1 >>> ((8 : Int32) &&& 31)), nar .byte (c2 >>> ((0 : Int32) &&& 31)), nar .byte (c2 >>> ((8 : Int32) &&& 31))]) := by
  refine Ct.intro pn_java_lang_String hE (fun m => ef4_rriin m a b _ _) (onesf ge_a E0.lt) ⟨a0, own_EW hw⟩ ?_
  intro x T w
  obtain ⟨cz, Scs, hcz⟩ := own_cs hr
  refine w.aloadN d4_0 rfl rfl ?_
  refine w.initO 0 d4_1 (tw hw 23 rfl) (tw hw 24 rfl) (tw hw 25 rfl) rfl (Nat.le_refl _) ⟨by decide, by decide⟩ ?_
  intro T w
  refine w.iloadN d4_4 rfl ?_
  refine w.ifNe d4_5 d4_5t (fun _ => ?_) (fun q => absurd q (by decide))
  refine w.getS d4_27 (tw hw 48 rfl) Scs ?_
  intro T w
  refine w.ifEq d4_30 d4_30t (fun q => absurd q hcz) (fun _ => ?_)
  refine w.aloadN d4_33 rfl rfl ?_
  refine w.iloadN d4_34 rfl ?_
  refine w.iloadN d4_35 rfl ?_
  refine w.callS (argsL := [(.ref b), (.int (0 : Int32)), (.int (3 : Int32))]) (rest := []) 0 d4_36 (tw hw 57 rfl) (tw hw 58 rfl) (tw hw 59 rfl) (tw hw 60 rfl) (by decide) (rmC3U_3 l Z a0 hw hr b kb c0 c1 c2 h0 w.old Ab z0 v0 z1 v1 z2 v2 hx) (lenOf pd_3 rfl) rfl rfl (Nat.le_refl _) ⟨by decide, by decide, by decide, by decide⟩ all0 ?_
  intro T h1 r w _ hQ
  obtain ⟨d, kd, rfl, E1, gd, A1⟩ := hQ
  have ne_a_d : a ≠ d := Nat.ne_of_lt (Nat.lt_of_lt_of_le E0.lt gd)
  have F1 := E0.ext E1
  have F2 := G1.ext E1
  have F3 := G2.ext E1
  show Go x _ Z _ _ _ T 39 #[.val (.ref a), .val (.ref b), .val (.int (0 : Int32)), .val (.int (3 : Int32)), .val .null, .unset] [(.ref d)]
  refine w.astore #[.val (.ref a), .val (.ref b), .val (.int (0 : Int32)), .val (.int (3 : Int32)), .val .null, .val (.ref d)] d4_39 rfl rfl ?_
  refine w.aloadN d4_41 rfl rfl ?_
  refine w.aload d4_42 rfl rfl ?_
  refine w.iloadN d4_44 rfl ?_
  refine w.callS (argsL := [(.ref d), (.int (3 : Int32))]) (rest := [(.ref a)]) 1 d4_45 (tw hw 83 rfl) (tw hw 84 rfl) (tw hw 59 rfl) (tw hw 85 rfl) (by decide) (rmCL_6_3 l Z a0 hw d kd _ h1 w.old A1) (lenOf pd_4 rfl) rfl rfl (Nat.le_refl _) ⟨by decide, by decide, by decide, by decide⟩ all0 ?_
  intro T h2 r w _ hQ
  obtain ⟨rfl, rfl⟩ := hQ
  show Go x _ Z _ _ _ T 48 #[.val (.ref a), .val (.ref b), .val (.int (0 : Int32)), .val (.int (3 : Int32)), .val .null, .val (.ref d)] [(.int (1 : Int32)), (.ref a)]
  refine w.putF d4_48 (tw hw 33 rfl) F3 F1 (Or.inr ⟨(tw hw 29 rfl), rfl, rfl⟩) (tw hw 14 rfl) (ty := .byte) (by decide) rfl rfl (List.mem_of_getElem? (i := 0) rfl) ?_
  intro T h3 w W4
  have F5 := F1.wr W4
  have F6 := F2.other W4 (Or.inr (slot_ne (Or.inr (tw hw 28 rfl)) (Or.inr (tw hw 29 rfl)) (by decide) (t := (.array .byte)) (t' := .byte) (by decide) (by decide)))
  have F7 := F3.same W4
  have F8 := A1.other W4 (Ne.symm ne_a_d)
  refine w.aloadN d4_51 rfl rfl ?_
  refine w.aload d4_52 rfl rfl ?_
  refine w.putF d4_54 (tw hw 32 rfl) F6 F5 (Or.inr ⟨(tw hw 28 rfl), rfl, rfl⟩) (tw hw 14 rfl) (ty := (.array .byte)) (by decide) rfl rfl (List.mem_of_getElem? (i := 0) rfl) ?_
  intro T h4 w W9
  have F10 := F5.wr W9
  have F11 := F6.same W9
  have F12 := F7.other W9 (Or.inr (slot_ne (Or.inr (tw hw 29 rfl)) (Or.inr (tw hw 28 rfl)) (by decide) (t := .byte) (t' := (.array .byte)) (by decide) (by decide)))
  have F13 := F8.other W9 (Ne.symm ne_a_d)
  exact w.retV d4_57 rfl ⟨rfl, (((keep_ext E1).wr W4 (Or.inl (List.mem_singleton.mpr rfl))).wr W9 (Or.inl (List.mem_singleton.mpr rfl))), d, F10, F11, F12, kd, F13, by simp⟩

set_option maxRecDepth 65536 in
set_option maxHeartbeats 40000000 in
theorem rmS1E_3 (l : Launch) (Z : State) (a0 : Array Value) (hw : ∀ d ∈ tables_1, d.before a0 Z = true) (hr : rest_1_c.value a0 Z none Z [] = some true) (a b : Addr) (kb : ClassId) (c0 c1 c2 : Int32) (h0 : Heap) (hE : Ext Z.heap h0) (ge_a : Z.heap.size ≤ a) (E0 : Exa Z h0 a "java/lang/String") (G1 : Fld Z h0 a "java/lang/String" "value" "[B" .null) (G2 : Fld Z h0 a "java/lang/String" "coder" "B" (.int (0 : Int32))) (Ab : Arv Z h0 b kb .char (3 : Int32) [(.int c0), (.int c1), (.int c2)] (.int 0)) (z0 : 0 ≤ c0.toInt) (v0 : c0.toInt < 65536) (z1 : 0 ≤ c1.toInt) (v1 : c1.toInt < 65536) (z2 : 0 ≤ c2.toInt) (v2 : c2.toInt < 65536) :
    Ct true l Z consts_1 (⟨"java/lang/String", "<init>", "([C)V"⟩ : MethodName) jdk_42_method_3_code 2 none [] ({ frames := 5, cells := 2, slots := 9, locals := 74 } : Room) [a] #[(.ref a), (.ref b)] h0 (fun r u => r = none ∧ Keep h0 u [a] ∧ ∃ t, ((StrL Z u a t 0 [nar .byte c0, nar .byte c1, nar .byte c2] ∧ (¬ 255 < c0 ∧ ¬ 255 < c1 ∧ ¬ 255 < c2 ∧ True)) ∨ StrL Z u a t 1 [nar .byte (c0 >>> ((0 : Int32) &&& 31)), nar .byte (c0 >>> ((8 : Int32) &&& 31)), nar .byte (c1 >>> ((0 : Int32) &&& 31)), nar .byte (c1 >>> ((8 : Int32) &&& 31)), nar .byte (c2 >>> ((0 : Int32) &&& 31)), nar .byte (c2 >>> ((8 : Int32) &&& 31))])) := by
  refine Ct.intro pn_java_lang_String hE (fun m => ef3_rr m a b) (onesf ge_a E0.lt) ⟨a0, own_EW hw⟩ ?_
  intro x T w
  obtain ⟨cl, Ar, -, S, M, -, -⟩ := id Ab
  by_cases hx : (¬ 255 < c0 ∧ ¬ 255 < c1 ∧ ¬ 255 < c2 ∧ True)
  · refine w.aloadN d3_0 rfl rfl ?_
    refine w.aloadN d3_1 rfl rfl ?_
    refine w.iconst (0 : Int32) d3_2 rfl ?_
    refine w.aloadN d3_3 rfl rfl ?_
    refine w.alen (3 : Int32) d3_4 Ar (len_of S M) ?_
    refine w.aconstNull d3_5 ?_
    refine w.callI (argsL := [(.ref b), (.int (0 : Int32)), (.int (3 : Int32)), .null]) (rest := []) 0 d3_6 rfl (tw hw 19 rfl) (tw hw 20 rfl) (tw hw 15 rfl) (tw hw 22 rfl) (by decide) (rmS4_3 l Z a0 hw hr a b kb c0 c1 c2 h0 w.old ge_a E0 G1 G2 Ab hx.1 hx.2.1 hx.2.2.1) (lenOf pd_0 rfl) rfl rfl (Nat.le_refl _) ⟨by decide, by decide, by decide, by decide⟩ (allS (List.mem_of_getElem? (i := 0) rfl) all0) ?_
    intro T h1 r w _ hQ
    obtain ⟨rfl, K1, t, gt, S1⟩ := hQ
    exact w.retV d3_9 rfl ⟨rfl, K1, t, Or.inl ⟨S1, hx⟩⟩
  · refine w.aloadN d3_0 rfl rfl ?_
    refine w.aloadN d3_1 rfl rfl ?_
    refine w.iconst (0 : Int32) d3_2 rfl ?_
    refine w.aloadN d3_3 rfl rfl ?_
    refine w.alen (3 : Int32) d3_4 Ar (len_of S M) ?_
    refine w.aconstNull d3_5 ?_
    refine w.callI (argsL := [(.ref b), (.int (0 : Int32)), (.int (3 : Int32)), .null]) (rest := []) 0 d3_6 rfl (tw hw 19 rfl) (tw hw 20 rfl) (tw hw 15 rfl) (tw hw 22 rfl) (by decide) (rmS4u_3 l Z a0 hw hr a b kb c0 c1 c2 h0 w.old ge_a E0 G1 G2 Ab z0 v0 z1 v1 z2 v2 hx) (lenOf pd_0 rfl) rfl rfl (Nat.le_refl _) ⟨by decide, by decide, by decide, by decide⟩ (allS (List.mem_of_getElem? (i := 0) rfl) all0) ?_
    intro T h2 r w _ hQ
    obtain ⟨rfl, K1, t, S1⟩ := hQ
    exact w.retV d3_9 rfl ⟨rfl, K1, t, Or.inr S1⟩

set_option maxRecDepth 65536 in
set_option maxHeartbeats 40000000 in
theorem rmC5_4 (l : Launch) (Z : State) (a0 : Array Value) (hw : ∀ d ∈ tables_1, d.before a0 Z = true) (b d : Addr) (kb kd : ClassId) (c0 c1 c2 c3 : Int32) (h0 : Heap) (hE : Ext Z.heap h0) (ge_d : Z.heap.size ≤ d) (nbd : b ≠ d) (Ab : Arv Z h0 b kb .char (4 : Int32) [(.int c0), (.int c1), (.int c2), (.int c3)] (.int 0)) (Ad : Arv Z h0 d kd .byte (4 : Int32) [] (.int 0)) (u0 : ¬ 255 < c0) (u1 : ¬ 255 < c1) (u2 : ¬ 255 < c2) (u3 : ¬ 255 < c3) :
    Ct true l Z consts_1 (⟨"java/lang/StringUTF16", "compress", "([CI[BII)I"⟩ : MethodName) jdk_52_method_21_code 7 (some .int) [] ({ frames := 0, cells := 0, slots := 0, locals := 0 } : Room) [d] #[(.ref b), (.int (0 : Int32)), (.ref d), (.int (0 : Int32)), (.int (4 : Int32))] h0 (fun r u => r = some (.int (4 : Int32)) ∧ Keep h0 u [d] ∧ Arv Z u d kd .byte (4 : Int32) [(.int (nar .byte c0)), (.int (nar .byte c1)), (.int (nar .byte c2)), (.int (nar .byte c3))] (.int 0)) := by
  refine Ct.intro pn_java_lang_StringUTF16 hE (fun m => ef12_ririi m b _ d _ _) (onesf ge_d Ad.lt) ⟨a0, own_EW hw⟩ ?_
  intro x T w
  refine w.iconst (0 : Int32) d12_0 rfl ?_
  refine w.istore #[.val (.ref b), .val (.int (0 : Int32)), .val (.ref d), .val (.int (0 : Int32)), .val (.int (4 : Int32)), .val (.int (0 : Int32)), .unset] d12_1 rfl ?_
  refine w.iload d12_3 rfl ?_
  refine w.iload d12_5 rfl ?_
  refine w.icmpGe d12_7 d12_7t (fun q => absurd (by decide) q) (fun _ => ?_)
  refine w.aloadN d12_10 rfl rfl ?_
  refine w.iloadN d12_11 rfl ?_
  obtain ⟨cl0, Ar0, -, S0, -, H0, -⟩ := id Ab
  refine w.caload d12_12 Ar0 (inb_of S0 (by decide)) (H0.at (inb_of S0 (by decide)) rfl) ?_
  refine w.istore #[.val (.ref b), .val (.int (0 : Int32)), .val (.ref d), .val (.int (0 : Int32)), .val (.int (4 : Int32)), .val (.int (0 : Int32)), .val (.int c0)] d12_13 rfl ?_
  refine w.iload d12_15 rfl ?_
  refine w.sipush (255 : Int32) d12_17 rfl ?_
  refine w.icmpLe d12_20 d12_20t (fun _ => ?_) (fun q => absurd q u0)
  refine w.aloadN d12_26 rfl rfl ?_
  refine w.iloadN d12_27 rfl ?_
  refine w.iload d12_28 rfl ?_
  refine w.i2b d12_30 ?_
  refine w.stB 0 [(.int 0)] d12_31 Ad ⟨by decide, by decide⟩ (by decide) (pad_rep [] (.int 0) 1) (by simp) (fnb _) (List.mem_of_getElem? (i := 0) rfl) ?_
  intro T h1 w W0 A0
  rw [nbb] at A0 W0
  have Ad0 : Arv Z h1 d kd .byte (4 : Int32) [(.int (nar .byte c0))] (.int 0) := A0
  have Ab0 := Ab.other W0 nbd
  refine w.iinc (1 : Int32) #[.val (.ref b), .val (.int (1 : Int32)), .val (.ref d), .val (.int (0 : Int32)), .val (.int (4 : Int32)), .val (.int (0 : Int32)), .val (.int c0)] d12_32 rfl rfl rfl ?_
  refine w.iinc (1 : Int32) #[.val (.ref b), .val (.int (1 : Int32)), .val (.ref d), .val (.int (1 : Int32)), .val (.int (4 : Int32)), .val (.int (0 : Int32)), .val (.int c0)] d12_35 rfl rfl rfl ?_
  refine w.iinc (1 : Int32) #[.val (.ref b), .val (.int (1 : Int32)), .val (.ref d), .val (.int (1 : Int32)), .val (.int (4 : Int32)), .val (.int (1 : Int32)), .val (.int c0)] d12_38 rfl rfl rfl ?_
  refine w.goto d12_41 d12_41t ?_
  refine w.iload d12_3 rfl ?_
  refine w.iload d12_5 rfl ?_
  refine w.icmpGe d12_7 d12_7t (fun q => absurd (by decide) q) (fun _ => ?_)
  refine w.aloadN d12_10 rfl rfl ?_
  refine w.iloadN d12_11 rfl ?_
  obtain ⟨cl1, Ar1, -, S1, -, H1, -⟩ := id Ab0
  refine w.caload d12_12 Ar1 (inb_of S1 (by decide)) (H1.at (inb_of S1 (by decide)) rfl) ?_
  refine w.istore #[.val (.ref b), .val (.int (1 : Int32)), .val (.ref d), .val (.int (1 : Int32)), .val (.int (4 : Int32)), .val (.int (1 : Int32)), .val (.int c1)] d12_13 rfl ?_
  refine w.iload d12_15 rfl ?_
  refine w.sipush (255 : Int32) d12_17 rfl ?_
  refine w.icmpLe d12_20 d12_20t (fun _ => ?_) (fun q => absurd q u1)
  refine w.aloadN d12_26 rfl rfl ?_
  refine w.iloadN d12_27 rfl ?_
  refine w.iload d12_28 rfl ?_
  refine w.i2b d12_30 ?_
  refine w.stB 1 [(.int (nar .byte c0)), (.int 0)] d12_31 Ad0 ⟨by decide, by decide⟩ (by decide) (pad_rep [(.int (nar .byte c0))] (.int 0) 1) (by simp) (fnb _) (List.mem_of_getElem? (i := 0) rfl) ?_
  intro T h2 w W1 A1
  rw [nbb] at A1 W1
  have Ad1 : Arv Z h2 d kd .byte (4 : Int32) [(.int (nar .byte c0)), (.int (nar .byte c1))] (.int 0) := A1
  have Ab1 := Ab0.other W1 nbd
  refine w.iinc (1 : Int32) #[.val (.ref b), .val (.int (2 : Int32)), .val (.ref d), .val (.int (1 : Int32)), .val (.int (4 : Int32)), .val (.int (1 : Int32)), .val (.int c1)] d12_32 rfl rfl rfl ?_
  refine w.iinc (1 : Int32) #[.val (.ref b), .val (.int (2 : Int32)), .val (.ref d), .val (.int (2 : Int32)), .val (.int (4 : Int32)), .val (.int (1 : Int32)), .val (.int c1)] d12_35 rfl rfl rfl ?_
  refine w.iinc (1 : Int32) #[.val (.ref b), .val (.int (2 : Int32)), .val (.ref d), .val (.int (2 : Int32)), .val (.int (4 : Int32)), .val (.int (2 : Int32)), .val (.int c1)] d12_38 rfl rfl rfl ?_
  refine w.goto d12_41 d12_41t ?_
  refine w.iload d12_3 rfl ?_
  refine w.iload d12_5 rfl ?_
  refine w.icmpGe d12_7 d12_7t (fun q => absurd (by decide) q) (fun _ => ?_)
  refine w.aloadN d12_10 rfl rfl ?_
  refine w.iloadN d12_11 rfl ?_
  obtain ⟨cl2, Ar2, -, S2, -, H2, -⟩ := id Ab1
  refine w.caload d12_12 Ar2 (inb_of S2 (by decide)) (H2.at (inb_of S2 (by decide)) rfl) ?_
  refine w.istore #[.val (.ref b), .val (.int (2 : Int32)), .val (.ref d), .val (.int (2 : Int32)), .val (.int (4 : Int32)), .val (.int (2 : Int32)), .val (.int c2)] d12_13 rfl ?_
  refine w.iload d12_15 rfl ?_
  refine w.sipush (255 : Int32) d12_17 rfl ?_
  refine w.icmpLe d12_20 d12_20t (fun _ => ?_) (fun q => absurd q u2)
  refine w.aloadN d12_26 rfl rfl ?_
  refine w.iloadN d12_27 rfl ?_
  refine w.iload d12_28 rfl ?_
  refine w.i2b d12_30 ?_
  refine w.stB 2 [(.int (nar .byte c0)), (.int (nar .byte c1)), (.int 0)] d12_31 Ad1 ⟨by decide, by decide⟩ (by decide) (pad_rep [(.int (nar .byte c0)), (.int (nar .byte c1))] (.int 0) 1) (by simp) (fnb _) (List.mem_of_getElem? (i := 0) rfl) ?_
  intro T h3 w W2 A2
  rw [nbb] at A2 W2
  have Ad2 : Arv Z h3 d kd .byte (4 : Int32) [(.int (nar .byte c0)), (.int (nar .byte c1)), (.int (nar .byte c2))] (.int 0) := A2
  have Ab2 := Ab1.other W2 nbd
  refine w.iinc (1 : Int32) #[.val (.ref b), .val (.int (3 : Int32)), .val (.ref d), .val (.int (2 : Int32)), .val (.int (4 : Int32)), .val (.int (2 : Int32)), .val (.int c2)] d12_32 rfl rfl rfl ?_
  refine w.iinc (1 : Int32) #[.val (.ref b), .val (.int (3 : Int32)), .val (.ref d), .val (.int (3 : Int32)), .val (.int (4 : Int32)), .val (.int (2 : Int32)), .val (.int c2)] d12_35 rfl rfl rfl ?_
  refine w.iinc (1 : Int32) #[.val (.ref b), .val (.int (3 : Int32)), .val (.ref d), .val (.int (3 : Int32)), .val (.int (4 : Int32)), .val (.int (3 : Int32)), .val (.int c2)] d12_38 rfl rfl rfl ?_
  refine w.goto d12_41 d12_41t ?_
  refine w.iload d12_3 rfl ?_
  refine w.iload d12_5 rfl ?_
  refine w.icmpGe d12_7 d12_7t (fun q => absurd (by decide) q) (fun _ => ?_)
  refine w.aloadN d12_10 rfl rfl ?_
  refine w.iloadN d12_11 rfl ?_
  obtain ⟨cl3, Ar3, -, S3, -, H3, -⟩ := id Ab2
  refine w.caload d12_12 Ar3 (inb_of S3 (by decide)) (H3.at (inb_of S3 (by decide)) rfl) ?_
  refine w.istore #[.val (.ref b), .val (.int (3 : Int32)), .val (.ref d), .val (.int (3 : Int32)), .val (.int (4 : Int32)), .val (.int (3 : Int32)), .val (.int c3)] d12_13 rfl ?_
  refine w.iload d12_15 rfl ?_
  refine w.sipush (255 : Int32) d12_17 rfl ?_
  refine w.icmpLe d12_20 d12_20t (fun _ => ?_) (fun q => absurd q u3)
  refine w.aloadN d12_26 rfl rfl ?_
  refine w.iloadN d12_27 rfl ?_
  refine w.iload d12_28 rfl ?_
  refine w.i2b d12_30 ?_
  refine w.stB 3 [(.int (nar .byte c0)), (.int (nar .byte c1)), (.int (nar .byte c2)), (.int 0)] d12_31 Ad2 ⟨by decide, by decide⟩ (by decide) (pad_rep [(.int (nar .byte c0)), (.int (nar .byte c1)), (.int (nar .byte c2))] (.int 0) 1) (by simp) (fnb _) (List.mem_of_getElem? (i := 0) rfl) ?_
  intro T h4 w W3 A3
  rw [nbb] at A3 W3
  have Ad3 : Arv Z h4 d kd .byte (4 : Int32) [(.int (nar .byte c0)), (.int (nar .byte c1)), (.int (nar .byte c2)), (.int (nar .byte c3))] (.int 0) := A3
  have Ab3 := Ab2.other W3 nbd
  refine w.iinc (1 : Int32) #[.val (.ref b), .val (.int (4 : Int32)), .val (.ref d), .val (.int (3 : Int32)), .val (.int (4 : Int32)), .val (.int (3 : Int32)), .val (.int c3)] d12_32 rfl rfl rfl ?_
  refine w.iinc (1 : Int32) #[.val (.ref b), .val (.int (4 : Int32)), .val (.ref d), .val (.int (4 : Int32)), .val (.int (4 : Int32)), .val (.int (3 : Int32)), .val (.int c3)] d12_35 rfl rfl rfl ?_
  refine w.iinc (1 : Int32) #[.val (.ref b), .val (.int (4 : Int32)), .val (.ref d), .val (.int (4 : Int32)), .val (.int (4 : Int32)), .val (.int (4 : Int32)), .val (.int c3)] d12_38 rfl rfl rfl ?_
  refine w.goto d12_41 d12_41t ?_
  refine w.iload d12_3 rfl ?_
  refine w.iload d12_5 rfl ?_
  refine w.icmpGe d12_7 d12_7t (fun _ => ?_) (fun q => absurd q (by decide))
  refine w.iload d12_44 rfl ?_
  exact w.retI d12_46 rfl ⟨rfl, (((((Keep.refl _ _).wr W0 (Or.inl (List.mem_singleton.mpr rfl))).wr W1 (Or.inl (List.mem_singleton.mpr rfl))).wr W2 (Or.inl (List.mem_singleton.mpr rfl))).wr W3 (Or.inl (List.mem_singleton.mpr rfl))), Ad3⟩

set_option maxRecDepth 65536 in
set_option maxHeartbeats 40000000 in
theorem rmC3_4 (l : Launch) (Z : State) (a0 : Array Value) (hw : ∀ d ∈ tables_1, d.before a0 Z = true) (b : Addr) (kb : ClassId) (c0 c1 c2 c3 : Int32) (h0 : Heap) (hE : Ext Z.heap h0) (Ab : Arv Z h0 b kb .char (4 : Int32) [(.int c0), (.int c1), (.int c2), (.int c3)] (.int 0)) (u0 : ¬ 255 < c0) (u1 : ¬ 255 < c1) (u2 : ¬ 255 < c2) (u3 : ¬ 255 < c3) :
    Ct true l Z consts_1 (⟨"java/lang/StringUTF16", "compress", "([CII)[B"⟩ : MethodName) jdk_52_method_16_code 6 (some (.array .byte)) [] ({ frames := 1, cells := 1, slots := 4, locals := 18 } : Room) [] #[(.ref b), (.int (0 : Int32)), (.int (4 : Int32))] h0 (fun r u => ∃ d kd, r = some (.ref d) ∧ Ext h0 u ∧ h0.size ≤ d ∧ Arv Z u d kd .byte (4 : Int32) [(.int (nar .byte c0)), (.int (nar .byte c1)), (.int (nar .byte c2)), (.int (nar .byte c3))] (.int 0)) := by
  refine Ct.intro pn_java_lang_StringUTF16 hE (fun m => ef11_rii m b _ _) nosf ⟨a0, own_EW hw⟩ ?_
  intro x T w
  refine w.iloadN d11_0 rfl ?_
  have sz0 := w.size
  refine w.newP 4 "[B" d11_1 (tw hw 27 rfl) (by decide) (by decide) (by decide) (by decide) ⟨by decide, by decide⟩ ?_
  intro d T h1 kd g_d w E_d A_d X_d
  have ge_d : Z.heap.size ≤ d := by rw [g_d]; exact sz0
  have nbd : b ≠ d := Nat.ne_of_lt (Nat.lt_of_lt_of_eq Ab.lt g_d.symm)
  refine w.astoreN #[.val (.ref b), .val (.int (0 : Int32)), .val (.int (4 : Int32)), .val (.ref d), .unset, .unset] d11_3 rfl rfl ?_
  refine w.aloadN d11_4 rfl rfl ?_
  refine w.iloadN d11_5 rfl ?_
  refine w.aloadN d11_6 rfl rfl ?_
  refine w.iconst (0 : Int32) d11_7 rfl ?_
  refine w.iloadN d11_8 rfl ?_
  refine w.callS (argsL := [(.ref b), (.int (0 : Int32)), (.ref d), (.int (0 : Int32)), (.int (4 : Int32))]) (rest := []) 0 d11_9 (tw hw 61 rfl) (tw hw 62 rfl) (tw hw 59 rfl) (tw hw 63 rfl) (by decide) (rmC5_4 l Z a0 hw b d kb kd c0 c1 c2 c3 h1 w.old ge_d nbd (Ab.ext E_d) A_d u0 u1 u2 u3) (lenOf pd_2 rfl) rfl rfl (Nat.le_refl _) ⟨by decide, by decide, by decide, by decide⟩ (allS (List.mem_of_getElem? (i := 0) rfl) all0) ?_
  intro T h2 r w _ hQ
  obtain ⟨rfl, K1, A1⟩ := hQ
  show Go x _ Z _ _ _ T 12 #[.val (.ref b), .val (.int (0 : Int32)), .val (.int (4 : Int32)), .val (.ref d), .unset, .unset] [(.int (4 : Int32))]
  refine w.istore #[.val (.ref b), .val (.int (0 : Int32)), .val (.int (4 : Int32)), .val (.ref d), .val (.int (4 : Int32)), .unset] d11_12 rfl ?_
  refine w.iload d11_14 rfl ?_
  refine w.iloadN d11_16 rfl ?_
  refine w.icmpEq d11_17 d11_17t (fun _ => ?_) (fun q => absurd rfl q)
  refine w.aloadN d11_57 rfl rfl ?_
  exact w.retA d11_58 rfl rfl rfl rfl ⟨d, kd, rfl, keep_to E_d K1 (allS (Nat.le_of_eq g_d.symm) all0), Nat.le_of_eq g_d.symm, A1⟩

set_option maxRecDepth 65536 in
set_option maxHeartbeats 40000000 in
theorem rmCL_4_4 (l : Launch) (Z : State) (a0 : Array Value) (hw : ∀ d ∈ tables_1, d.before a0 Z = true) (d : Addr) (kd : ClassId) (vs : List Value) (h0 : Heap) (hE : Ext Z.heap h0) (Ad : Arv Z h0 d kd .byte (4 : Int32) vs (.int 0)) :
    Ct true l Z consts_1 (⟨"java/lang/StringUTF16", "coderFromArrayLen", "([BI)B"⟩ : MethodName) jdk_52_method_15_code 2 (some .byte) [] ({ frames := 0, cells := 0, slots := 0, locals := 0 } : Room) [] #[(.ref d), (.int (4 : Int32))] h0 (fun r u => r = some (.int (0 : Int32)) ∧ h0 = u) := by
  refine Ct.intro pn_java_lang_StringUTF16 hE (fun m => ef18_ri m d _) nosf ⟨a0, own_EW hw⟩ ?_
  intro x T w
  obtain ⟨cl, Ar, -, S, M, -, -⟩ := Ad
  refine w.iloadN d18_0 rfl ?_
  refine w.aloadN d18_1 rfl rfl ?_
  refine w.alen (4 : Int32) d18_2 Ar (len_of S M) ?_
  refine w.isub d18_3 ?_
  refine w.bipush (31 : Int32) d18_4 rfl ?_
  refine w.iushr d18_6 ?_
  refine w.i2b d18_7 ?_
  exact w.retN d18_8 rfl (by simp) ⟨rfl, rfl⟩

set_option maxRecDepth 65536 in
set_option maxHeartbeats 40000000 in
theorem rmS4_4 (l : Launch) (Z : State) (a0 : Array Value) (hw : ∀ d ∈ tables_1, d.before a0 Z = true) (hr : rest_1_c.value a0 Z none Z [] = some true) (a b : Addr) (kb : ClassId) (c0 c1 c2 c3 : Int32) (h0 : Heap) (hE : Ext Z.heap h0) (ge_a : Z.heap.size ≤ a) (E0 : Exa Z h0 a "java/lang/String") (G1 : Fld Z h0 a "java/lang/String" "value" "[B" .null) (G2 : Fld Z h0 a "java/lang/String" "coder" "B" (.int (0 : Int32))) (Ab : Arv Z h0 b kb .char (4 : Int32) [(.int c0), (.int c1), (.int c2), (.int c3)] (.int 0)) (u0 : ¬ 255 < c0) (u1 : ¬ 255 < c1) (u2 : ¬ 255 < c2) (u3 : ¬ 255 < c3) :
    Ct true l Z consts_1 (⟨"java/lang/String", "<init>", "([CIILjava/lang/Void;)V"⟩ : MethodName) jdk_42_method_149_code 6 none [] ({ frames := 2, cells := 1, slots := 4, locals := 36 } : Room) [a] #[(.ref a), (.ref b), (.int (0 : Int32)), (.int (4 : Int32)), .null] h0 (fun r u => r = none ∧ Keep h0 u [a] ∧ ∃ t, h0.size ≤ t ∧ StrL Z u a t 0 [nar .byte c0, nar .byte c1, nar .byte c2, nar .byte c3]) := by
  refine Ct.intro pn_java_lang_String hE (fun m => ef4_rriin m a b _ _) (onesf ge_a E0.lt) ⟨a0, own_EW hw⟩ ?_
  intro x T w
  obtain ⟨cz, Scs, hcz⟩ := own_cs hr
  refine w.aloadN d4_0 rfl rfl ?_
  refine w.initO 0 d4_1 (tw hw 23 rfl) (tw hw 24 rfl) (tw hw 25 rfl) rfl (Nat.le_refl _) ⟨by decide, by decide⟩ ?_
  intro T w
  refine w.iloadN d4_4 rfl ?_
  refine w.ifNe d4_5 d4_5t (fun _ => ?_) (fun q => absurd q (by decide))
  refine w.getS d4_27 (tw hw 48 rfl) Scs ?_
  intro T w
  refine w.ifEq d4_30 d4_30t (fun q => absurd q hcz) (fun _ => ?_)
  refine w.aloadN d4_33 rfl rfl ?_
  refine w.iloadN d4_34 rfl ?_
  refine w.iloadN d4_35 rfl ?_
  refine w.callS (argsL := [(.ref b), (.int (0 : Int32)), (.int (4 : Int32))]) (rest := []) 0 d4_36 (tw hw 57 rfl) (tw hw 58 rfl) (tw hw 59 rfl) (tw hw 60 rfl) (by decide) (rmC3_4 l Z a0 hw b kb c0 c1 c2 c3 h0 w.old Ab u0 u1 u2 u3) (lenOf pd_3 rfl) rfl rfl (Nat.le_refl _) ⟨by decide, by decide, by decide, by decide⟩ all0 ?_
  intro T h1 r w _ hQ
  obtain ⟨d, kd, rfl, E1, gd, A1⟩ := hQ
  have ne_a_d : a ≠ d := Nat.ne_of_lt (Nat.lt_of_lt_of_le E0.lt gd)
  have F1 := E0.ext E1
  have F2 := G1.ext E1
  have F3 := G2.ext E1
  show Go x _ Z _ _ _ T 39 #[.val (.ref a), .val (.ref b), .val (.int (0 : Int32)), .val (.int (4 : Int32)), .val .null, .unset] [(.ref d)]
  refine w.astore #[.val (.ref a), .val (.ref b), .val (.int (0 : Int32)), .val (.int (4 : Int32)), .val .null, .val (.ref d)] d4_39 rfl rfl ?_
  refine w.aloadN d4_41 rfl rfl ?_
  refine w.aload d4_42 rfl rfl ?_
  refine w.iloadN d4_44 rfl ?_
  refine w.callS (argsL := [(.ref d), (.int (4 : Int32))]) (rest := [(.ref a)]) 1 d4_45 (tw hw 83 rfl) (tw hw 84 rfl) (tw hw 59 rfl) (tw hw 85 rfl) (by decide) (rmCL_4_4 l Z a0 hw d kd _ h1 w.old A1) (lenOf pd_4 rfl) rfl rfl (Nat.le_refl _) ⟨by decide, by decide, by decide, by decide⟩ all0 ?_
  intro T h2 r w _ hQ
  obtain ⟨rfl, rfl⟩ := hQ
  show Go x _ Z _ _ _ T 48 #[.val (.ref a), .val (.ref b), .val (.int (0 : Int32)), .val (.int (4 : Int32)), .val .null, .val (.ref d)] [(.int (0 : Int32)), (.ref a)]
  refine w.putF d4_48 (tw hw 33 rfl) F3 F1 (Or.inr ⟨(tw hw 29 rfl), rfl, rfl⟩) (tw hw 14 rfl) (ty := .byte) (by decide) rfl rfl (List.mem_of_getElem? (i := 0) rfl) ?_
  intro T h3 w W4
  have F5 := F1.wr W4
  have F6 := F2.other W4 (Or.inr (slot_ne (Or.inr (tw hw 28 rfl)) (Or.inr (tw hw 29 rfl)) (by decide) (t := (.array .byte)) (t' := .byte) (by decide) (by decide)))
  have F7 := F3.same W4
  have F8 := A1.other W4 (Ne.symm ne_a_d)
  refine w.aloadN d4_51 rfl rfl ?_
  refine w.aload d4_52 rfl rfl ?_
  refine w.putF d4_54 (tw hw 32 rfl) F6 F5 (Or.inr ⟨(tw hw 28 rfl), rfl, rfl⟩) (tw hw 14 rfl) (ty := (.array .byte)) (by decide) rfl rfl (List.mem_of_getElem? (i := 0) rfl) ?_
  intro T h4 w W9
  have F10 := F5.wr W9
  have F11 := F6.same W9
  have F12 := F7.other W9 (Or.inr (slot_ne (Or.inr (tw hw 29 rfl)) (Or.inr (tw hw 28 rfl)) (by decide) (t := .byte) (t' := (.array .byte)) (by decide) (by decide)))
  have F13 := F8.other W9 (Ne.symm ne_a_d)
  exact w.retV d4_57 rfl ⟨rfl, (((keep_ext E1).wr W4 (Or.inl (List.mem_singleton.mpr rfl))).wr W9 (Or.inl (List.mem_singleton.mpr rfl))), d, gd, F10, F11, F12, kd, F13, by simp⟩

set_option maxRecDepth 65536 in
set_option maxHeartbeats 40000000 in
theorem rmNL_4 (l : Launch) (Z : State) (a0 : Array Value) (hw : ∀ d ∈ tables_1, d.before a0 Z = true) (h0 : Heap) (hE : Ext Z.heap h0) :
    Ct true l Z consts_1 (⟨"java/lang/StringUTF16", "newBytesLength", "(I)I"⟩ : MethodName) jdk_52_method_3_code 1 (some .int) [] ({ frames := 0, cells := 0, slots := 0, locals := 0 } : Room) [] #[(.int (4 : Int32))] h0 (fun r u => r = some (.int (8 : Int32)) ∧ h0 = u) := by
  refine Ct.intro pn_java_lang_StringUTF16 hE (fun m => ef15_i m _) nosf ⟨a0, own_EW hw⟩ ?_
  intro x T w
  refine w.iloadN d15_0 rfl ?_
  refine w.ifGe d15_1 d15_1t (fun _ => ?_) (fun q => absurd q (by decide))
  refine w.iloadN d15_12 rfl ?_
  refine w.ldcI d15_13 (tw hw 73 rfl) ?_
  refine w.icmpLt d15_15 d15_15t (fun _ => ?_) (fun q => absurd (by decide) q)
  refine w.iloadN d15_55 rfl ?_
  refine w.iconst (1 : Int32) d15_56 rfl ?_
  refine w.ishl d15_57 ?_
  exact w.retI d15_58 rfl ⟨rfl, rfl⟩

set_option maxRecDepth 65536 in
set_option maxHeartbeats 40000000 in
theorem rmNF_4 (l : Launch) (Z : State) (a0 : Array Value) (hw : ∀ d ∈ tables_1, d.before a0 Z = true) (h0 : Heap) (hE : Ext Z.heap h0) :
    Ct true l Z consts_1 (⟨"java/lang/StringUTF16", "newBytesFor", "(I)[B"⟩ : MethodName) jdk_52_method_2_code 1 (some (.array .byte)) [] ({ frames := 1, cells := 1, slots := 8, locals := 12 } : Room) [] #[(.int (4 : Int32))] h0 (fun r u => ∃ d kd, r = some (.ref d) ∧ Ext h0 u ∧ h0.size ≤ d ∧ Arv Z u d kd .byte (8 : Int32) [] (.int 0)) := by
  refine Ct.intro pn_java_lang_StringUTF16 hE (fun m => ef14_i m _) nosf ⟨a0, own_EW hw⟩ ?_
  intro x T w
  refine w.iloadN d14_0 rfl ?_
  refine w.callS (argsL := [(.int (4 : Int32))]) (rest := []) 0 d14_1 (tw hw 70 rfl) (tw hw 71 rfl) (tw hw 59 rfl) (tw hw 72 rfl) (by decide) (rmNL_4 l Z a0 hw h0 w.old) (lenOf pd_5 rfl) rfl rfl (Nat.le_refl _) ⟨by decide, by decide, by decide, by decide⟩ all0 ?_
  intro T h1 r w _ hQ
  obtain ⟨rfl, rfl⟩ := hQ
  show Go x _ Z _ _ _ T 4 #[.val (.int (4 : Int32))] [(.int (8 : Int32))]
  have sz0 := w.size
  refine w.newP 8 "[B" d14_4 (tw hw 27 rfl) (by decide) (by decide) (by decide) (by decide) ⟨by decide, by decide⟩ ?_
  intro d T h2 kd g_d w E_d A_d X_d
  have ge_d : Z.heap.size ≤ d := by rw [g_d]; exact sz0
  exact w.retA d14_6 rfl rfl rfl rfl ⟨d, kd, rfl, E_d, Nat.le_of_eq g_d.symm, A_d⟩

set_option maxRecDepth 65536 in
set_option maxHeartbeats 40000000 in
theorem rmPu_4_0 (l : Launch) (Z : State) (a0 : Array Value) (hw : ∀ d ∈ tables_1, d.before a0 Z = true) (hr : rest_1_c.value a0 Z none Z [] = some true) (d : Addr) (kd : ClassId)  (c : Int32) (h0 : Heap) (hE : Ext Z.heap h0) (ge_d : Z.heap.size ≤ d) (A : Arv Z h0 d kd .byte (8 : Int32) [] (.int 0)) :
    Ct true l Z consts_1 (⟨"java/lang/StringUTF16", "putChar", "([BII)V"⟩ : MethodName) jdk_52_method_4_code 3 none [] ({ frames := 0, cells := 0, slots := 0, locals := 0 } : Room) [d] #[(.ref d), (.int (0 : Int32)), (.int c)] h0 (fun r u => r = none ∧ Keep h0 u [d] ∧ Arv Z u d kd .byte (8 : Int32) [(.int (nar .byte (c >>> ((0 : Int32) &&& 31)))), (.int (nar .byte (c >>> ((8 : Int32) &&& 31))))] (.int 0)) := by
  refine Ct.intro pn_java_lang_StringUTF16 hE (fun m => ef16_rii m d _ _) (onesf ge_d A.lt) ⟨a0, own_EW hw⟩ ?_
  intro x T w
  refine w.getS d16_0 (tw hw 77 rfl) (own_ad hr) ?_
  intro T w
  refine w.ifNe d16_3 d16_3t (fun _ => ?_) (fun q => absurd q (by decide))
  refine w.iloadN d16_28 rfl ?_
  refine w.iconst (1 : Int32) d16_29 rfl ?_
  refine w.ishl d16_30 ?_
  refine w.istoreN #[.val (.ref d), .val (.int ((0 : Int32) <<< ((1 : Int32) &&& 31))), .val (.int c)] d16_31 rfl ?_
  refine w.aloadN d16_32 rfl rfl ?_
  refine w.iloadN d16_33 rfl ?_
  refine w.iinc (1 : Int32) #[.val (.ref d), .val (.int (((0 : Int32) <<< ((1 : Int32) &&& 31)) + (1 : Int32))), .val (.int c)] d16_34 rfl rfl rfl ?_
  refine w.iloadN d16_37 rfl ?_
  refine w.getS d16_38 (tw hw 78 rfl) (own_hi hr) ?_
  intro T w
  refine w.ishr d16_41 ?_
  refine w.i2b d16_42 ?_
  refine w.stB 0 [(.int 0)] d16_43 A ⟨by decide, by decide⟩ (by decide) (pad_rep [] (.int 0) 1) (by simp) (fnb _) (List.mem_of_getElem? (i := 0) rfl) ?_
  intro T h1 w W0 B0
  rw [nbb] at B0 W0
  have C0 : Arv Z h1 d kd .byte (8 : Int32) [(.int (nar .byte (c >>> ((0 : Int32) &&& 31))))] (.int 0) := B0
  refine w.aloadN d16_44 rfl rfl ?_
  refine w.iloadN d16_45 rfl ?_
  refine w.iloadN d16_46 rfl ?_
  refine w.getS d16_47 (tw hw 79 rfl) (own_lo hr) ?_
  intro T w
  refine w.ishr d16_50 ?_
  refine w.i2b d16_51 ?_
  refine w.stB 1 [(.int (nar .byte (c >>> ((0 : Int32) &&& 31)))), (.int 0)] d16_52 C0 ⟨by decide, by decide⟩ (by decide) (pad_rep [(.int (nar .byte (c >>> ((0 : Int32) &&& 31))))] (.int 0) 1) (by simp) (fnb _) (List.mem_of_getElem? (i := 0) rfl) ?_
  intro T h2 w W1 B1
  rw [nbb] at B1 W1
  have C1 : Arv Z h2 d kd .byte (8 : Int32) [(.int (nar .byte (c >>> ((0 : Int32) &&& 31)))), (.int (nar .byte (c >>> ((8 : Int32) &&& 31))))] (.int 0) := B1
  exact w.retV d16_53 rfl ⟨rfl, (((Keep.refl _ _).wr W0 (Or.inl (List.mem_singleton.mpr rfl))).wr W1 (Or.inl (List.mem_singleton.mpr rfl))), C1⟩

set_option maxRecDepth 65536 in
set_option maxHeartbeats 40000000 in
theorem rmPu_4_1 (l : Launch) (Z : State) (a0 : Array Value) (hw : ∀ d ∈ tables_1, d.before a0 Z = true) (hr : rest_1_c.value a0 Z none Z [] = some true) (d : Addr) (kd : ClassId) (b0 b1 : Int32) (c : Int32) (h0 : Heap) (hE : Ext Z.heap h0) (ge_d : Z.heap.size ≤ d) (A : Arv Z h0 d kd .byte (8 : Int32) [(.int b0), (.int b1)] (.int 0)) :
    Ct true l Z consts_1 (⟨"java/lang/StringUTF16", "putChar", "([BII)V"⟩ : MethodName) jdk_52_method_4_code 3 none [] ({ frames := 0, cells := 0, slots := 0, locals := 0 } : Room) [d] #[(.ref d), (.int (1 : Int32)), (.int c)] h0 (fun r u => r = none ∧ Keep h0 u [d] ∧ Arv Z u d kd .byte (8 : Int32) [(.int b0), (.int b1), (.int (nar .byte (c >>> ((0 : Int32) &&& 31)))), (.int (nar .byte (c >>> ((8 : Int32) &&& 31))))] (.int 0)) := by
  refine Ct.intro pn_java_lang_StringUTF16 hE (fun m => ef16_rii m d _ _) (onesf ge_d A.lt) ⟨a0, own_EW hw⟩ ?_
  intro x T w
  refine w.getS d16_0 (tw hw 77 rfl) (own_ad hr) ?_
  intro T w
  refine w.ifNe d16_3 d16_3t (fun _ => ?_) (fun q => absurd q (by decide))
  refine w.iloadN d16_28 rfl ?_
  refine w.iconst (1 : Int32) d16_29 rfl ?_
  refine w.ishl d16_30 ?_
  refine w.istoreN #[.val (.ref d), .val (.int ((1 : Int32) <<< ((1 : Int32) &&& 31))), .val (.int c)] d16_31 rfl ?_
  refine w.aloadN d16_32 rfl rfl ?_
  refine w.iloadN d16_33 rfl ?_
  refine w.iinc (1 : Int32) #[.val (.ref d), .val (.int (((1 : Int32) <<< ((1 : Int32) &&& 31)) + (1 : Int32))), .val (.int c)] d16_34 rfl rfl rfl ?_
  refine w.iloadN d16_37 rfl ?_
  refine w.getS d16_38 (tw hw 78 rfl) (own_hi hr) ?_
  intro T w
  refine w.ishr d16_41 ?_
  refine w.i2b d16_42 ?_
  refine w.stB 2 [(.int b0), (.int b1), (.int 0)] d16_43 A ⟨by decide, by decide⟩ (by decide) (pad_rep [(.int b0), (.int b1)] (.int 0) 1) (by simp) (fnb _) (List.mem_of_getElem? (i := 0) rfl) ?_
  intro T h1 w W0 B0
  rw [nbb] at B0 W0
  have C0 : Arv Z h1 d kd .byte (8 : Int32) [(.int b0), (.int b1), (.int (nar .byte (c >>> ((0 : Int32) &&& 31))))] (.int 0) := B0
  refine w.aloadN d16_44 rfl rfl ?_
  refine w.iloadN d16_45 rfl ?_
  refine w.iloadN d16_46 rfl ?_
  refine w.getS d16_47 (tw hw 79 rfl) (own_lo hr) ?_
  intro T w
  refine w.ishr d16_50 ?_
  refine w.i2b d16_51 ?_
  refine w.stB 3 [(.int b0), (.int b1), (.int (nar .byte (c >>> ((0 : Int32) &&& 31)))), (.int 0)] d16_52 C0 ⟨by decide, by decide⟩ (by decide) (pad_rep [(.int b0), (.int b1), (.int (nar .byte (c >>> ((0 : Int32) &&& 31))))] (.int 0) 1) (by simp) (fnb _) (List.mem_of_getElem? (i := 0) rfl) ?_
  intro T h2 w W1 B1
  rw [nbb] at B1 W1
  have C1 : Arv Z h2 d kd .byte (8 : Int32) [(.int b0), (.int b1), (.int (nar .byte (c >>> ((0 : Int32) &&& 31)))), (.int (nar .byte (c >>> ((8 : Int32) &&& 31))))] (.int 0) := B1
  exact w.retV d16_53 rfl ⟨rfl, (((Keep.refl _ _).wr W0 (Or.inl (List.mem_singleton.mpr rfl))).wr W1 (Or.inl (List.mem_singleton.mpr rfl))), C1⟩

set_option maxRecDepth 65536 in
set_option maxHeartbeats 40000000 in
theorem rmPu_4_2 (l : Launch) (Z : State) (a0 : Array Value) (hw : ∀ d ∈ tables_1, d.before a0 Z = true) (hr : rest_1_c.value a0 Z none Z [] = some true) (d : Addr) (kd : ClassId) (b0 b1 b2 b3 : Int32) (c : Int32) (h0 : Heap) (hE : Ext Z.heap h0) (ge_d : Z.heap.size ≤ d) (A : Arv Z h0 d kd .byte (8 : Int32) [(.int b0), (.int b1), (.int b2), (.int b3)] (.int 0)) :
    Ct true l Z consts_1 (⟨"java/lang/StringUTF16", "putChar", "([BII)V"⟩ : MethodName) jdk_52_method_4_code 3 none [] ({ frames := 0, cells := 0, slots := 0, locals := 0 } : Room) [d] #[(.ref d), (.int (2 : Int32)), (.int c)] h0 (fun r u => r = none ∧ Keep h0 u [d] ∧ Arv Z u d kd .byte (8 : Int32) [(.int b0), (.int b1), (.int b2), (.int b3), (.int (nar .byte (c >>> ((0 : Int32) &&& 31)))), (.int (nar .byte (c >>> ((8 : Int32) &&& 31))))] (.int 0)) := by
  refine Ct.intro pn_java_lang_StringUTF16 hE (fun m => ef16_rii m d _ _) (onesf ge_d A.lt) ⟨a0, own_EW hw⟩ ?_
  intro x T w
  refine w.getS d16_0 (tw hw 77 rfl) (own_ad hr) ?_
  intro T w
  refine w.ifNe d16_3 d16_3t (fun _ => ?_) (fun q => absurd q (by decide))
  refine w.iloadN d16_28 rfl ?_
  refine w.iconst (1 : Int32) d16_29 rfl ?_
  refine w.ishl d16_30 ?_
  refine w.istoreN #[.val (.ref d), .val (.int ((2 : Int32) <<< ((1 : Int32) &&& 31))), .val (.int c)] d16_31 rfl ?_
  refine w.aloadN d16_32 rfl rfl ?_
  refine w.iloadN d16_33 rfl ?_
  refine w.iinc (1 : Int32) #[.val (.ref d), .val (.int (((2 : Int32) <<< ((1 : Int32) &&& 31)) + (1 : Int32))), .val (.int c)] d16_34 rfl rfl rfl ?_
  refine w.iloadN d16_37 rfl ?_
  refine w.getS d16_38 (tw hw 78 rfl) (own_hi hr) ?_
  intro T w
  refine w.ishr d16_41 ?_
  refine w.i2b d16_42 ?_
  refine w.stB 4 [(.int b0), (.int b1), (.int b2), (.int b3), (.int 0)] d16_43 A ⟨by decide, by decide⟩ (by decide) (pad_rep [(.int b0), (.int b1), (.int b2), (.int b3)] (.int 0) 1) (by simp) (fnb _) (List.mem_of_getElem? (i := 0) rfl) ?_
  intro T h1 w W0 B0
  rw [nbb] at B0 W0
  have C0 : Arv Z h1 d kd .byte (8 : Int32) [(.int b0), (.int b1), (.int b2), (.int b3), (.int (nar .byte (c >>> ((0 : Int32) &&& 31))))] (.int 0) := B0
  refine w.aloadN d16_44 rfl rfl ?_
  refine w.iloadN d16_45 rfl ?_
  refine w.iloadN d16_46 rfl ?_
  refine w.getS d16_47 (tw hw 79 rfl) (own_lo hr) ?_
  intro T w
  refine w.ishr d16_50 ?_
  refine w.i2b d16_51 ?_
  refine w.stB 5 [(.int b0), (.int b1), (.int b2), (.int b3), (.int (nar .byte (c >>> ((0 : Int32) &&& 31)))), (.int 0)] d16_52 C0 ⟨by decide, by decide⟩ (by decide) (pad_rep [(.int b0), (.int b1), (.int b2), (.int b3), (.int (nar .byte (c >>> ((0 : Int32) &&& 31))))] (.int 0) 1) (by simp) (fnb _) (List.mem_of_getElem? (i := 0) rfl) ?_
  intro T h2 w W1 B1
  rw [nbb] at B1 W1
  have C1 : Arv Z h2 d kd .byte (8 : Int32) [(.int b0), (.int b1), (.int b2), (.int b3), (.int (nar .byte (c >>> ((0 : Int32) &&& 31)))), (.int (nar .byte (c >>> ((8 : Int32) &&& 31))))] (.int 0) := B1
  exact w.retV d16_53 rfl ⟨rfl, (((Keep.refl _ _).wr W0 (Or.inl (List.mem_singleton.mpr rfl))).wr W1 (Or.inl (List.mem_singleton.mpr rfl))), C1⟩

set_option maxRecDepth 65536 in
set_option maxHeartbeats 40000000 in
theorem rmPu_4_3 (l : Launch) (Z : State) (a0 : Array Value) (hw : ∀ d ∈ tables_1, d.before a0 Z = true) (hr : rest_1_c.value a0 Z none Z [] = some true) (d : Addr) (kd : ClassId) (b0 b1 b2 b3 b4 b5 : Int32) (c : Int32) (h0 : Heap) (hE : Ext Z.heap h0) (ge_d : Z.heap.size ≤ d) (A : Arv Z h0 d kd .byte (8 : Int32) [(.int b0), (.int b1), (.int b2), (.int b3), (.int b4), (.int b5)] (.int 0)) :
    Ct true l Z consts_1 (⟨"java/lang/StringUTF16", "putChar", "([BII)V"⟩ : MethodName) jdk_52_method_4_code 3 none [] ({ frames := 0, cells := 0, slots := 0, locals := 0 } : Room) [d] #[(.ref d), (.int (3 : Int32)), (.int c)] h0 (fun r u => r = none ∧ Keep h0 u [d] ∧ Arv Z u d kd .byte (8 : Int32) [(.int b0), (.int b1), (.int b2), (.int b3), (.int b4), (.int b5), (.int (nar .byte (c >>> ((0 : Int32) &&& 31)))), (.int (nar .byte (c >>> ((8 : Int32) &&& 31))))] (.int 0)) := by
  refine Ct.intro pn_java_lang_StringUTF16 hE (fun m => ef16_rii m d _ _) (onesf ge_d A.lt) ⟨a0, own_EW hw⟩ ?_
  intro x T w
  refine w.getS d16_0 (tw hw 77 rfl) (own_ad hr) ?_
  intro T w
  refine w.ifNe d16_3 d16_3t (fun _ => ?_) (fun q => absurd q (by decide))
  refine w.iloadN d16_28 rfl ?_
  refine w.iconst (1 : Int32) d16_29 rfl ?_
  refine w.ishl d16_30 ?_
  refine w.istoreN #[.val (.ref d), .val (.int ((3 : Int32) <<< ((1 : Int32) &&& 31))), .val (.int c)] d16_31 rfl ?_
  refine w.aloadN d16_32 rfl rfl ?_
  refine w.iloadN d16_33 rfl ?_
  refine w.iinc (1 : Int32) #[.val (.ref d), .val (.int (((3 : Int32) <<< ((1 : Int32) &&& 31)) + (1 : Int32))), .val (.int c)] d16_34 rfl rfl rfl ?_
  refine w.iloadN d16_37 rfl ?_
  refine w.getS d16_38 (tw hw 78 rfl) (own_hi hr) ?_
  intro T w
  refine w.ishr d16_41 ?_
  refine w.i2b d16_42 ?_
  refine w.stB 6 [(.int b0), (.int b1), (.int b2), (.int b3), (.int b4), (.int b5), (.int 0)] d16_43 A ⟨by decide, by decide⟩ (by decide) (pad_rep [(.int b0), (.int b1), (.int b2), (.int b3), (.int b4), (.int b5)] (.int 0) 1) (by simp) (fnb _) (List.mem_of_getElem? (i := 0) rfl) ?_
  intro T h1 w W0 B0
  rw [nbb] at B0 W0
  have C0 : Arv Z h1 d kd .byte (8 : Int32) [(.int b0), (.int b1), (.int b2), (.int b3), (.int b4), (.int b5), (.int (nar .byte (c >>> ((0 : Int32) &&& 31))))] (.int 0) := B0
  refine w.aloadN d16_44 rfl rfl ?_
  refine w.iloadN d16_45 rfl ?_
  refine w.iloadN d16_46 rfl ?_
  refine w.getS d16_47 (tw hw 79 rfl) (own_lo hr) ?_
  intro T w
  refine w.ishr d16_50 ?_
  refine w.i2b d16_51 ?_
  refine w.stB 7 [(.int b0), (.int b1), (.int b2), (.int b3), (.int b4), (.int b5), (.int (nar .byte (c >>> ((0 : Int32) &&& 31)))), (.int 0)] d16_52 C0 ⟨by decide, by decide⟩ (by decide) (pad_rep [(.int b0), (.int b1), (.int b2), (.int b3), (.int b4), (.int b5), (.int (nar .byte (c >>> ((0 : Int32) &&& 31))))] (.int 0) 1) (by simp) (fnb _) (List.mem_of_getElem? (i := 0) rfl) ?_
  intro T h2 w W1 B1
  rw [nbb] at B1 W1
  have C1 : Arv Z h2 d kd .byte (8 : Int32) [(.int b0), (.int b1), (.int b2), (.int b3), (.int b4), (.int b5), (.int (nar .byte (c >>> ((0 : Int32) &&& 31)))), (.int (nar .byte (c >>> ((8 : Int32) &&& 31))))] (.int 0) := B1
  exact w.retV d16_53 rfl ⟨rfl, (((Keep.refl _ _).wr W0 (Or.inl (List.mem_singleton.mpr rfl))).wr W1 (Or.inl (List.mem_singleton.mpr rfl))), C1⟩

set_option maxRecDepth 65536 in
set_option maxHeartbeats 40000000 in
theorem rmTo_4 (l : Launch) (Z : State) (a0 : Array Value) (hw : ∀ d ∈ tables_1, d.before a0 Z = true) (hr : rest_1_c.value a0 Z none Z [] = some true) (b : Addr) (kb : ClassId) (c0 c1 c2 c3 : Int32) (h0 : Heap) (hE : Ext Z.heap h0) (Ab : Arv Z h0 b kb .char (4 : Int32) [(.int c0), (.int c1), (.int c2), (.int c3)] (.int 0)) :
    Ct true l Z consts_1 (⟨"java/lang/StringUTF16", "toBytes", "([CII)[B"⟩ : MethodName) jdk_52_method_14_code 5 (some (.array .byte)) [] ({ frames := 2, cells := 1, slots := 8, locals := 24 } : Room) [] #[(.ref b), (.int (0 : Int32)), (.int (4 : Int32))] h0 (fun r u => ∃ d kd, r = some (.ref d) ∧ Ext h0 u ∧ h0.size ≤ d ∧ Arv Z u d kd .byte (8 : Int32) [(.int (nar .byte (c0 >>> ((0 : Int32) &&& 31)))), (.int (nar .byte (c0 >>> ((8 : Int32) &&& 31)))), (.int (nar .byte (c1 >>> ((0 : Int32) &&& 31)))), (.int (nar .byte (c1 >>> ((8 : Int32) &&& 31)))), (.int (nar .byte (c2 >>> ((0 : Int32) &&& 31)))), (.int (nar .byte (c2 >>> ((8 : Int32) &&& 31)))), (.int (nar .byte (c3 >>> ((0 : Int32) &&& 31)))), (.int (nar .byte (c3 >>> ((8 : Int32) &&& 31))))] (.int 0)) := by
  refine Ct.intro pn_java_lang_StringUTF16 hE (fun m => ef13_rii m b _ _) nosf ⟨a0, own_EW hw⟩ ?_
  intro x T w
  refine w.iloadN d13_0 rfl ?_
  refine w.callS (argsL := [(.int (4 : Int32))]) (rest := []) 0 d13_1 (tw hw 67 rfl) (tw hw 68 rfl) (tw hw 59 rfl) (tw hw 69 rfl) (by decide) (rmNF_4 l Z a0 hw h0 w.old) (lenOf pd_6 rfl) rfl rfl (Nat.le_refl _) ⟨by decide, by decide, by decide, by decide⟩ all0 ?_
  intro T h1 r w _ hQ
  obtain ⟨d, kd, rfl, E1, gd, A0⟩ := hQ
  have ge_d : Z.heap.size ≤ d := Nat.le_trans hE.1 gd
  have w := w.adopt ge_d A0.lt (fun vm hZ => own_safe hw hZ A0 (by decide))
  have nbd : b ≠ d := Nat.ne_of_lt (Nat.lt_of_lt_of_le Ab.lt gd)
  have Ab := Ab.ext E1
  show Go x _ Z _ _ _ T 4 #[.val (.ref b), .val (.int (0 : Int32)), .val (.int (4 : Int32)), .unset, .unset] [(.ref d)]
  refine w.astoreN #[.val (.ref b), .val (.int (0 : Int32)), .val (.int (4 : Int32)), .val (.ref d), .unset] d13_4 rfl rfl ?_
  refine w.iconst (0 : Int32) d13_5 rfl ?_
  refine w.istore #[.val (.ref b), .val (.int (0 : Int32)), .val (.int (4 : Int32)), .val (.ref d), .val (.int (0 : Int32))] d13_6 rfl ?_
  refine w.iload d13_8 rfl ?_
  refine w.iloadN d13_10 rfl ?_
  refine w.icmpGe d13_11 d13_11t (fun q => absurd (by decide) q) (fun _ => ?_)
  refine w.aloadN d13_14 rfl rfl ?_
  refine w.iload d13_15 rfl ?_
  refine w.aloadN d13_17 rfl rfl ?_
  refine w.iloadN d13_18 rfl ?_
  obtain ⟨cl0, Ar0, -, S0, -, H0, -⟩ := id Ab
  refine w.caload d13_19 Ar0 (inb_of S0 (by decide)) (H0.at (inb_of S0 (by decide)) rfl) ?_
  refine w.callS (argsL := [(.ref d), (.int (0 : Int32)), (.int c0)]) (rest := []) 0 d13_20 (tw hw 74 rfl) (tw hw 75 rfl) (tw hw 59 rfl) (tw hw 76 rfl) (by decide) (rmPu_4_0 l Z a0 hw hr d kd  c0 h1 w.old ge_d A0) (lenOf pd_7 rfl) rfl rfl (Nat.le_refl _) ⟨by decide, by decide, by decide, by decide⟩ (allS (List.mem_of_getElem? (i := 0) rfl) all0) ?_
  intro T h2 r w _ hQ
  obtain ⟨rfl, K0, A1⟩ := hQ
  have Ab := Ab.keep K0 (ninS nbd nin0)
  show Go x _ Z _ _ _ T 23 #[.val (.ref b), .val (.int (0 : Int32)), .val (.int (4 : Int32)), .val (.ref d), .val (.int (0 : Int32))] []
  refine w.iinc (1 : Int32) #[.val (.ref b), .val (.int (1 : Int32)), .val (.int (4 : Int32)), .val (.ref d), .val (.int (0 : Int32))] d13_23 rfl rfl rfl ?_
  refine w.iinc (1 : Int32) #[.val (.ref b), .val (.int (1 : Int32)), .val (.int (4 : Int32)), .val (.ref d), .val (.int (1 : Int32))] d13_26 rfl rfl rfl ?_
  refine w.goto d13_29 d13_29t ?_
  refine w.iload d13_8 rfl ?_
  refine w.iloadN d13_10 rfl ?_
  refine w.icmpGe d13_11 d13_11t (fun q => absurd (by decide) q) (fun _ => ?_)
  refine w.aloadN d13_14 rfl rfl ?_
  refine w.iload d13_15 rfl ?_
  refine w.aloadN d13_17 rfl rfl ?_
  refine w.iloadN d13_18 rfl ?_
  obtain ⟨cl1, Ar1, -, S1, -, H1, -⟩ := id Ab
  refine w.caload d13_19 Ar1 (inb_of S1 (by decide)) (H1.at (inb_of S1 (by decide)) rfl) ?_
  refine w.callS (argsL := [(.ref d), (.int (1 : Int32)), (.int c1)]) (rest := []) 0 d13_20 (tw hw 74 rfl) (tw hw 75 rfl) (tw hw 59 rfl) (tw hw 76 rfl) (by decide) (rmPu_4_1 l Z a0 hw hr d kd (nar .byte (c0 >>> ((0 : Int32) &&& 31))) (nar .byte (c0 >>> ((8 : Int32) &&& 31))) c1 h2 w.old ge_d A1) (lenOf pd_7 rfl) rfl rfl (Nat.le_refl _) ⟨by decide, by decide, by decide, by decide⟩ (allS (List.mem_of_getElem? (i := 0) rfl) all0) ?_
  intro T h3 r w _ hQ
  obtain ⟨rfl, K1, A2⟩ := hQ
  have Ab := Ab.keep K1 (ninS nbd nin0)
  show Go x _ Z _ _ _ T 23 #[.val (.ref b), .val (.int (1 : Int32)), .val (.int (4 : Int32)), .val (.ref d), .val (.int (1 : Int32))] []
  refine w.iinc (1 : Int32) #[.val (.ref b), .val (.int (2 : Int32)), .val (.int (4 : Int32)), .val (.ref d), .val (.int (1 : Int32))] d13_23 rfl rfl rfl ?_
  refine w.iinc (1 : Int32) #[.val (.ref b), .val (.int (2 : Int32)), .val (.int (4 : Int32)), .val (.ref d), .val (.int (2 : Int32))] d13_26 rfl rfl rfl ?_
  refine w.goto d13_29 d13_29t ?_
  refine w.iload d13_8 rfl ?_
  refine w.iloadN d13_10 rfl ?_
  refine w.icmpGe d13_11 d13_11t (fun q => absurd (by decide) q) (fun _ => ?_)
  refine w.aloadN d13_14 rfl rfl ?_
  refine w.iload d13_15 rfl ?_
  refine w.aloadN d13_17 rfl rfl ?_
  refine w.iloadN d13_18 rfl ?_
  obtain ⟨cl2, Ar2, -, S2, -, H2, -⟩ := id Ab
  refine w.caload d13_19 Ar2 (inb_of S2 (by decide)) (H2.at (inb_of S2 (by decide)) rfl) ?_
  refine w.callS (argsL := [(.ref d), (.int (2 : Int32)), (.int c2)]) (rest := []) 0 d13_20 (tw hw 74 rfl) (tw hw 75 rfl) (tw hw 59 rfl) (tw hw 76 rfl) (by decide) (rmPu_4_2 l Z a0 hw hr d kd (nar .byte (c0 >>> ((0 : Int32) &&& 31))) (nar .byte (c0 >>> ((8 : Int32) &&& 31))) (nar .byte (c1 >>> ((0 : Int32) &&& 31))) (nar .byte (c1 >>> ((8 : Int32) &&& 31))) c2 h3 w.old ge_d A2) (lenOf pd_7 rfl) rfl rfl (Nat.le_refl _) ⟨by decide, by decide, by decide, by decide⟩ (allS (List.mem_of_getElem? (i := 0) rfl) all0) ?_
  intro T h4 r w _ hQ
  obtain ⟨rfl, K2, A3⟩ := hQ
  have Ab := Ab.keep K2 (ninS nbd nin0)
  show Go x _ Z _ _ _ T 23 #[.val (.ref b), .val (.int (2 : Int32)), .val (.int (4 : Int32)), .val (.ref d), .val (.int (2 : Int32))] []
  refine w.iinc (1 : Int32) #[.val (.ref b), .val (.int (3 : Int32)), .val (.int (4 : Int32)), .val (.ref d), .val (.int (2 : Int32))] d13_23 rfl rfl rfl ?_
  refine w.iinc (1 : Int32) #[.val (.ref b), .val (.int (3 : Int32)), .val (.int (4 : Int32)), .val (.ref d), .val (.int (3 : Int32))] d13_26 rfl rfl rfl ?_
  refine w.goto d13_29 d13_29t ?_
  refine w.iload d13_8 rfl ?_
  refine w.iloadN d13_10 rfl ?_
  refine w.icmpGe d13_11 d13_11t (fun q => absurd (by decide) q) (fun _ => ?_)
  refine w.aloadN d13_14 rfl rfl ?_
  refine w.iload d13_15 rfl ?_
  refine w.aloadN d13_17 rfl rfl ?_
  refine w.iloadN d13_18 rfl ?_
  obtain ⟨cl3, Ar3, -, S3, -, H3, -⟩ := id Ab
  refine w.caload d13_19 Ar3 (inb_of S3 (by decide)) (H3.at (inb_of S3 (by decide)) rfl) ?_
  refine w.callS (argsL := [(.ref d), (.int (3 : Int32)), (.int c3)]) (rest := []) 0 d13_20 (tw hw 74 rfl) (tw hw 75 rfl) (tw hw 59 rfl) (tw hw 76 rfl) (by decide) (rmPu_4_3 l Z a0 hw hr d kd (nar .byte (c0 >>> ((0 : Int32) &&& 31))) (nar .byte (c0 >>> ((8 : Int32) &&& 31))) (nar .byte (c1 >>> ((0 : Int32) &&& 31))) (nar .byte (c1 >>> ((8 : Int32) &&& 31))) (nar .byte (c2 >>> ((0 : Int32) &&& 31))) (nar .byte (c2 >>> ((8 : Int32) &&& 31))) c3 h4 w.old ge_d A3) (lenOf pd_7 rfl) rfl rfl (Nat.le_refl _) ⟨by decide, by decide, by decide, by decide⟩ (allS (List.mem_of_getElem? (i := 0) rfl) all0) ?_
  intro T h5 r w _ hQ
  obtain ⟨rfl, K3, A4⟩ := hQ
  have Ab := Ab.keep K3 (ninS nbd nin0)
  show Go x _ Z _ _ _ T 23 #[.val (.ref b), .val (.int (3 : Int32)), .val (.int (4 : Int32)), .val (.ref d), .val (.int (3 : Int32))] []
  refine w.iinc (1 : Int32) #[.val (.ref b), .val (.int (4 : Int32)), .val (.int (4 : Int32)), .val (.ref d), .val (.int (3 : Int32))] d13_23 rfl rfl rfl ?_
  refine w.iinc (1 : Int32) #[.val (.ref b), .val (.int (4 : Int32)), .val (.int (4 : Int32)), .val (.ref d), .val (.int (4 : Int32))] d13_26 rfl rfl rfl ?_
  refine w.goto d13_29 d13_29t ?_
  refine w.iload d13_8 rfl ?_
  refine w.iloadN d13_10 rfl ?_
  refine w.icmpGe d13_11 d13_11t (fun _ => ?_) (fun q => absurd q (by decide))
  refine w.aloadN d13_32 rfl rfl ?_
  exact w.retA d13_33 rfl rfl rfl rfl ⟨d, kd, rfl, keep_to E1 (((K0.trans K1 (allS (Or.inl (List.mem_singleton.mpr rfl)) all0)).trans K2 (allS (Or.inl (List.mem_singleton.mpr rfl)) all0)).trans K3 (allS (Or.inl (List.mem_singleton.mpr rfl)) all0)) (allS gd all0), gd, A4⟩

set_option maxRecDepth 65536 in
set_option maxHeartbeats 40000000 in
theorem rmC5x_4_0 (l : Launch) (Z : State) (a0 : Array Value) (hw : ∀ d ∈ tables_1, d.before a0 Z = true) (b d : Addr) (kb kd : ClassId) (c0 c1 c2 c3 : Int32) (h0 : Heap) (hE : Ext Z.heap h0) (ge_d : Z.heap.size ≤ d) (nbd : b ≠ d) (Ab : Arv Z h0 b kb .char (4 : Int32) [(.int c0), (.int c1), (.int c2), (.int c3)] (.int 0)) (Ad : Arv Z h0 d kd .byte (4 : Int32) [] (.int 0))  (gp : 255 < c0) :
    Ct true l Z consts_1 (⟨"java/lang/StringUTF16", "compress", "([CI[BII)I"⟩ : MethodName) jdk_52_method_21_code 7 (some .int) [] ({ frames := 0, cells := 0, slots := 0, locals := 0 } : Room) [d] #[(.ref b), (.int (0 : Int32)), (.ref d), (.int (0 : Int32)), (.int (4 : Int32))] h0 (fun r u => r = some (.int (0 : Int32)) ∧ Keep h0 u [d]) := by
  refine Ct.intro pn_java_lang_StringUTF16 hE (fun m => ef12_ririi m b _ d _ _) (onesf ge_d Ad.lt) ⟨a0, own_EW hw⟩ ?_
  intro x T w
  refine w.iconst (0 : Int32) d12_0 rfl ?_
  refine w.istore #[.val (.ref b), .val (.int (0 : Int32)), .val (.ref d), .val (.int (0 : Int32)), .val (.int (4 : Int32)), .val (.int (0 : Int32)), .unset] d12_1 rfl ?_
  refine w.iload d12_3 rfl ?_
  refine w.iload d12_5 rfl ?_
  refine w.icmpGe d12_7 d12_7t (fun q => absurd (by decide) q) (fun _ => ?_)
  refine w.aloadN d12_10 rfl rfl ?_
  refine w.iloadN d12_11 rfl ?_
  obtain ⟨cl0, Ar0, -, S0, -, H0, -⟩ := id Ab
  refine w.caload d12_12 Ar0 (inb_of S0 (by decide)) (H0.at (inb_of S0 (by decide)) rfl) ?_
  refine w.istore #[.val (.ref b), .val (.int (0 : Int32)), .val (.ref d), .val (.int (0 : Int32)), .val (.int (4 : Int32)), .val (.int (0 : Int32)), .val (.int c0)] d12_13 rfl ?_
  refine w.iload d12_15 rfl ?_
  refine w.sipush (255 : Int32) d12_17 rfl ?_
  refine w.icmpLe d12_20 d12_20t (fun q => absurd gp q) (fun _ => ?_)
  refine w.iload d12_23 rfl ?_
  exact w.retI d12_25 rfl ⟨rfl, (Keep.refl _ _)⟩

set_option maxRecDepth 65536 in
set_option maxHeartbeats 40000000 in
theorem rmGe_4_0 (l : Launch) (Z : State) (a0 : Array Value) (hw : ∀ d ∈ tables_1, d.before a0 Z = true) (hr : rest_1_c.value a0 Z none Z [] = some true) (t : Addr) (kb : ClassId) (c0 c1 c2 c3 : Int32) (h0 : Heap) (hE : Ext Z.heap h0) (A : Arv Z h0 t kb .byte (8 : Int32) [(.int (nar .byte (c0 >>> ((0 : Int32) &&& 31)))), (.int (nar .byte (c0 >>> ((8 : Int32) &&& 31)))), (.int (nar .byte (c1 >>> ((0 : Int32) &&& 31)))), (.int (nar .byte (c1 >>> ((8 : Int32) &&& 31)))), (.int (nar .byte (c2 >>> ((0 : Int32) &&& 31)))), (.int (nar .byte (c2 >>> ((8 : Int32) &&& 31)))), (.int (nar .byte (c3 >>> ((0 : Int32) &&& 31)))), (.int (nar .byte (c3 >>> ((8 : Int32) &&& 31))))] (.int 0)) (z : 0 ≤ c0.toInt) (v : c0.toInt < 65536) :
    Ct true l Z consts_1 (⟨"java/lang/StringUTF16", "getChar", "([BI)C"⟩ : MethodName) jdk_52_method_5_code 2 (some .char) [] ({ frames := 0, cells := 0, slots := 0, locals := 0 } : Room) [] #[(.ref t), (.int (0 : Int32))] h0 (fun r u => r = some (.int c0) ∧ h0 = u) := by
  refine Ct.intro pn_java_lang_StringUTF16 hE (fun m => ef17_ri m t _) nosf ⟨a0, own_EW hw⟩ ?_
  intro x T w
  obtain ⟨cl, Ar, -, S, M, H, -⟩ := id A
  refine w.getS d17_0 (tw hw 77 rfl) (own_ad hr) ?_
  intro T w
  refine w.ifNe d17_3 d17_3t (fun _ => ?_) (fun q => absurd q (by decide))
  refine w.iloadN d17_28 rfl ?_
  refine w.iconst (1 : Int32) d17_29 rfl ?_
  refine w.ishl d17_30 ?_
  refine w.istoreN #[.val (.ref t), .val (.int ((0 : Int32) <<< ((1 : Int32) &&& 31)))] d17_31 rfl ?_
  refine w.aloadN d17_32 rfl rfl ?_
  refine w.iloadN d17_33 rfl ?_
  refine w.iinc (1 : Int32) #[.val (.ref t), .val (.int (((0 : Int32) <<< ((1 : Int32) &&& 31)) + (1 : Int32)))] d17_34 rfl rfl rfl ?_
  refine w.baload (v := .int (nar .byte (c0 >>> ((0 : Int32) &&& 31)))) d17_37 Ar (inb_of S (by decide)) (H.at (inb_of S (by decide)) (by rw [show (((0 : Int32) <<< ((1 : Int32) &&& 31))).toNatClampNeg = 0 by decide]; rfl)) ?_
  refine w.sipush (255 : Int32) d17_38 rfl ?_
  refine w.iand d17_41 ?_
  refine w.getS d17_42 (tw hw 78 rfl) (own_hi hr) ?_
  intro T w
  refine w.ishl d17_45 ?_
  refine w.aloadN d17_46 rfl rfl ?_
  refine w.iloadN d17_47 rfl ?_
  refine w.baload (v := .int (nar .byte (c0 >>> ((8 : Int32) &&& 31)))) d17_48 Ar (inb_of S (by decide)) (H.at (inb_of S (by decide)) (by rw [show ((((0 : Int32) <<< ((1 : Int32) &&& 31)) + (1 : Int32))).toNatClampNeg = 1 by decide]; rfl)) ?_
  refine w.sipush (255 : Int32) d17_49 rfl ?_
  refine w.iand d17_52 ?_
  refine w.getS d17_53 (tw hw 79 rfl) (own_lo hr) ?_
  intro T w
  refine w.ishl d17_56 ?_
  refine w.ior d17_57 ?_
  refine w.i2c d17_58 ?_
  exact w.retN d17_59 rfl (by simp) ⟨by rw [ncc, own_gc z v], rfl⟩

set_option maxRecDepth 65536 in
set_option maxHeartbeats 40000000 in
theorem rmC3x_4_0 (l : Launch) (Z : State) (a0 : Array Value) (hw : ∀ d ∈ tables_1, d.before a0 Z = true) (hr : rest_1_c.value a0 Z none Z [] = some true) (b : Addr) (kb : ClassId) (c0 c1 c2 c3 : Int32) (h0 : Heap) (hE : Ext Z.heap h0) (Ab : Arv Z h0 b kb .char (4 : Int32) [(.int c0), (.int c1), (.int c2), (.int c3)] (.int 0)) (z0 : 0 ≤ c0.toInt) (v0 : c0.toInt < 65536) (z1 : 0 ≤ c1.toInt) (v1 : c1.toInt < 65536) (z2 : 0 ≤ c2.toInt) (v2 : c2.toInt < 65536) (z3 : 0 ≤ c3.toInt) (v3 : c3.toInt < 65536)  (gp : 255 < c0) :
    Ct true l Z consts_1 (⟨"java/lang/StringUTF16", "compress", "([CII)[B"⟩ : MethodName) jdk_52_method_16_code 6 (some (.array .byte)) [] ({ frames := 3, cells := 2, slots := 12, locals := 40 } : Room) [] #[(.ref b), (.int (0 : Int32)), (.int (4 : Int32))] h0 (fun r u => ∃ d kd, r = some (.ref d) ∧ Ext h0 u ∧ h0.size ≤ d ∧ Arv Z u d kd .byte (8 : Int32) [(.int (nar .byte (c0 >>> ((0 : Int32) &&& 31)))), (.int (nar .byte (c0 >>> ((8 : Int32) &&& 31)))), (.int (nar .byte (c1 >>> ((0 : Int32) &&& 31)))), (.int (nar .byte (c1 >>> ((8 : Int32) &&& 31)))), (.int (nar .byte (c2 >>> ((0 : Int32) &&& 31)))), (.int (nar .byte (c2 >>> ((8 : Int32) &&& 31)))), (.int (nar .byte (c3 >>> ((0 : Int32) &&& 31)))), (.int (nar .byte (c3 >>> ((8 : Int32) &&& 31))))] (.int 0)) := by
  refine Ct.intro pn_java_lang_StringUTF16 hE (fun m => ef11_rii m b _ _) nosf ⟨a0, own_EW hw⟩ ?_
  intro x T w
  refine w.iloadN d11_0 rfl ?_
  have sz0 := w.size
  refine w.newP 4 "[B" d11_1 (tw hw 27 rfl) (by decide) (by decide) (by decide) (by decide) ⟨by decide, by decide⟩ ?_
  intro d T h1 kd g_d w E_d A_d X_d
  have ge_d : Z.heap.size ≤ d := by rw [g_d]; exact sz0
  have nbd : b ≠ d := Nat.ne_of_lt (Nat.lt_of_lt_of_eq Ab.lt g_d.symm)
  refine w.astoreN #[.val (.ref b), .val (.int (0 : Int32)), .val (.int (4 : Int32)), .val (.ref d), .unset, .unset] d11_3 rfl rfl ?_
  refine w.aloadN d11_4 rfl rfl ?_
  refine w.iloadN d11_5 rfl ?_
  refine w.aloadN d11_6 rfl rfl ?_
  refine w.iconst (0 : Int32) d11_7 rfl ?_
  refine w.iloadN d11_8 rfl ?_
  refine w.callS (argsL := [(.ref b), (.int (0 : Int32)), (.ref d), (.int (0 : Int32)), (.int (4 : Int32))]) (rest := []) 0 d11_9 (tw hw 61 rfl) (tw hw 62 rfl) (tw hw 59 rfl) (tw hw 63 rfl) (by decide) (rmC5x_4_0 l Z a0 hw b d kb kd c0 c1 c2 c3 h1 w.old ge_d nbd (Ab.ext E_d) A_d  gp) (lenOf pd_2 rfl) rfl rfl (Nat.le_refl _) ⟨by decide, by decide, by decide, by decide⟩ (allS (List.mem_of_getElem? (i := 0) rfl) all0) ?_
  intro T h2 r w _ hQ
  obtain ⟨rfl, K1⟩ := hQ
  have E2 := keep_to E_d K1 (allS (Nat.le_of_eq g_d.symm) all0)
  have Ab := Ab.ext E2
  show Go x _ Z _ _ _ T 12 #[.val (.ref b), .val (.int (0 : Int32)), .val (.int (4 : Int32)), .val (.ref d), .unset, .unset] [(.int (0 : Int32))]
  refine w.istore #[.val (.ref b), .val (.int (0 : Int32)), .val (.int (4 : Int32)), .val (.ref d), .val (.int (0 : Int32)), .unset] d11_12 rfl ?_
  refine w.iload d11_14 rfl ?_
  refine w.iloadN d11_16 rfl ?_
  refine w.icmpEq d11_17 d11_17t (fun q => absurd q (by decide)) (fun _ => ?_)
  refine w.aloadN d11_20 rfl rfl ?_
  refine w.iloadN d11_21 rfl ?_
  refine w.iloadN d11_22 rfl ?_
  refine w.callS (argsL := [(.ref b), (.int (0 : Int32)), (.int (4 : Int32))]) (rest := []) 0 d11_23 (tw hw 64 rfl) (tw hw 65 rfl) (tw hw 59 rfl) (tw hw 66 rfl) (by decide) (rmTo_4 l Z a0 hw hr b kb c0 c1 c2 c3 h2 w.old Ab) (lenOf pd_3 rfl) rfl rfl (Nat.le_refl _) ⟨by decide, by decide, by decide, by decide⟩ all0 ?_
  intro T h3 r w _ hQ
  obtain ⟨e, ke, rfl, E3, ge, Ae⟩ := hQ
  show Go x _ Z _ _ _ T 26 #[.val (.ref b), .val (.int (0 : Int32)), .val (.int (4 : Int32)), .val (.ref d), .val (.int (0 : Int32)), .unset] [(.ref e)]
  refine w.astore #[.val (.ref b), .val (.int (0 : Int32)), .val (.int (4 : Int32)), .val (.ref d), .val (.int (0 : Int32)), .val (.ref e)] d11_26 rfl rfl ?_
  refine w.aload d11_28 rfl rfl ?_
  refine w.iload d11_30 rfl ?_
  refine w.callS (argsL := [(.ref e), (.int (0 : Int32))]) (rest := []) 0 d11_32 (tw hw 80 rfl) (tw hw 81 rfl) (tw hw 59 rfl) (tw hw 82 rfl) (by decide) (rmGe_4_0 l Z a0 hw hr e ke c0 c1 c2 c3 h3 w.old Ae z0 v0) (lenOf pd_8 rfl) rfl rfl (Nat.le_refl _) ⟨by decide, by decide, by decide, by decide⟩ all0 ?_
  intro T h4 r w _ hQ
  obtain ⟨rfl, rfl⟩ := hQ
  show Go x _ Z _ _ _ T 35 #[.val (.ref b), .val (.int (0 : Int32)), .val (.int (4 : Int32)), .val (.ref d), .val (.int (0 : Int32)), .val (.ref e)] [(.int c0)]
  refine w.sipush (255 : Int32) d11_35 rfl ?_
  refine w.icmpGt d11_38 d11_38t (fun _ => ?_) (fun q => absurd gp q)
  refine w.aload d11_54 rfl rfl ?_
  exact w.retA d11_56 rfl rfl rfl rfl ⟨e, ke, rfl, ext_trans E2 E3, Nat.le_trans E2.1 ge, Ae⟩

set_option maxRecDepth 65536 in
set_option maxHeartbeats 40000000 in
theorem rmC5x_4_1 (l : Launch) (Z : State) (a0 : Array Value) (hw : ∀ d ∈ tables_1, d.before a0 Z = true) (b d : Addr) (kb kd : ClassId) (c0 c1 c2 c3 : Int32) (h0 : Heap) (hE : Ext Z.heap h0) (ge_d : Z.heap.size ≤ d) (nbd : b ≠ d) (Ab : Arv Z h0 b kb .char (4 : Int32) [(.int c0), (.int c1), (.int c2), (.int c3)] (.int 0)) (Ad : Arv Z h0 d kd .byte (4 : Int32) [] (.int 0)) (u0 : ¬ 255 < c0) (gp : 255 < c1) :
    Ct true l Z consts_1 (⟨"java/lang/StringUTF16", "compress", "([CI[BII)I"⟩ : MethodName) jdk_52_method_21_code 7 (some .int) [] ({ frames := 0, cells := 0, slots := 0, locals := 0 } : Room) [d] #[(.ref b), (.int (0 : Int32)), (.ref d), (.int (0 : Int32)), (.int (4 : Int32))] h0 (fun r u => r = some (.int (1 : Int32)) ∧ Keep h0 u [d]) := by
  refine Ct.intro pn_java_lang_StringUTF16 hE (fun m => ef12_ririi m b _ d _ _) (onesf ge_d Ad.lt) ⟨a0, own_EW hw⟩ ?_
  intro x T w
  refine w.iconst (0 : Int32) d12_0 rfl ?_
  refine w.istore #[.val (.ref b), .val (.int (0 : Int32)), .val (.ref d), .val (.int (0 : Int32)), .val (.int (4 : Int32)), .val (.int (0 : Int32)), .unset] d12_1 rfl ?_
  refine w.iload d12_3 rfl ?_
  refine w.iload d12_5 rfl ?_
  refine w.icmpGe d12_7 d12_7t (fun q => absurd (by decide) q) (fun _ => ?_)
  refine w.aloadN d12_10 rfl rfl ?_
  refine w.iloadN d12_11 rfl ?_
  obtain ⟨cl0, Ar0, -, S0, -, H0, -⟩ := id Ab
  refine w.caload d12_12 Ar0 (inb_of S0 (by decide)) (H0.at (inb_of S0 (by decide)) rfl) ?_
  refine w.istore #[.val (.ref b), .val (.int (0 : Int32)), .val (.ref d), .val (.int (0 : Int32)), .val (.int (4 : Int32)), .val (.int (0 : Int32)), .val (.int c0)] d12_13 rfl ?_
  refine w.iload d12_15 rfl ?_
  refine w.sipush (255 : Int32) d12_17 rfl ?_
  refine w.icmpLe d12_20 d12_20t (fun _ => ?_) (fun q => absurd q u0)
  refine w.aloadN d12_26 rfl rfl ?_
  refine w.iloadN d12_27 rfl ?_
  refine w.iload d12_28 rfl ?_
  refine w.i2b d12_30 ?_
  refine w.stB 0 [(.int 0)] d12_31 Ad ⟨by decide, by decide⟩ (by decide) (pad_rep [] (.int 0) 1) (by simp) (fnb _) (List.mem_of_getElem? (i := 0) rfl) ?_
  intro T h1 w W0 A0
  rw [nbb] at A0 W0
  have Ad0 : Arv Z h1 d kd .byte (4 : Int32) [(.int (nar .byte c0))] (.int 0) := A0
  have Ab0 := Ab.other W0 nbd
  refine w.iinc (1 : Int32) #[.val (.ref b), .val (.int (1 : Int32)), .val (.ref d), .val (.int (0 : Int32)), .val (.int (4 : Int32)), .val (.int (0 : Int32)), .val (.int c0)] d12_32 rfl rfl rfl ?_
  refine w.iinc (1 : Int32) #[.val (.ref b), .val (.int (1 : Int32)), .val (.ref d), .val (.int (1 : Int32)), .val (.int (4 : Int32)), .val (.int (0 : Int32)), .val (.int c0)] d12_35 rfl rfl rfl ?_
  refine w.iinc (1 : Int32) #[.val (.ref b), .val (.int (1 : Int32)), .val (.ref d), .val (.int (1 : Int32)), .val (.int (4 : Int32)), .val (.int (1 : Int32)), .val (.int c0)] d12_38 rfl rfl rfl ?_
  refine w.goto d12_41 d12_41t ?_
  refine w.iload d12_3 rfl ?_
  refine w.iload d12_5 rfl ?_
  refine w.icmpGe d12_7 d12_7t (fun q => absurd (by decide) q) (fun _ => ?_)
  refine w.aloadN d12_10 rfl rfl ?_
  refine w.iloadN d12_11 rfl ?_
  obtain ⟨cl1, Ar1, -, S1, -, H1, -⟩ := id Ab0
  refine w.caload d12_12 Ar1 (inb_of S1 (by decide)) (H1.at (inb_of S1 (by decide)) rfl) ?_
  refine w.istore #[.val (.ref b), .val (.int (1 : Int32)), .val (.ref d), .val (.int (1 : Int32)), .val (.int (4 : Int32)), .val (.int (1 : Int32)), .val (.int c1)] d12_13 rfl ?_
  refine w.iload d12_15 rfl ?_
  refine w.sipush (255 : Int32) d12_17 rfl ?_
  refine w.icmpLe d12_20 d12_20t (fun q => absurd gp q) (fun _ => ?_)
  refine w.iload d12_23 rfl ?_
  exact w.retI d12_25 rfl ⟨rfl, ((Keep.refl _ _).wr W0 (Or.inl (List.mem_singleton.mpr rfl)))⟩

set_option maxRecDepth 65536 in
set_option maxHeartbeats 40000000 in
theorem rmGe_4_1 (l : Launch) (Z : State) (a0 : Array Value) (hw : ∀ d ∈ tables_1, d.before a0 Z = true) (hr : rest_1_c.value a0 Z none Z [] = some true) (t : Addr) (kb : ClassId) (c0 c1 c2 c3 : Int32) (h0 : Heap) (hE : Ext Z.heap h0) (A : Arv Z h0 t kb .byte (8 : Int32) [(.int (nar .byte (c0 >>> ((0 : Int32) &&& 31)))), (.int (nar .byte (c0 >>> ((8 : Int32) &&& 31)))), (.int (nar .byte (c1 >>> ((0 : Int32) &&& 31)))), (.int (nar .byte (c1 >>> ((8 : Int32) &&& 31)))), (.int (nar .byte (c2 >>> ((0 : Int32) &&& 31)))), (.int (nar .byte (c2 >>> ((8 : Int32) &&& 31)))), (.int (nar .byte (c3 >>> ((0 : Int32) &&& 31)))), (.int (nar .byte (c3 >>> ((8 : Int32) &&& 31))))] (.int 0)) (z : 0 ≤ c1.toInt) (v : c1.toInt < 65536) :
    Ct true l Z consts_1 (⟨"java/lang/StringUTF16", "getChar", "([BI)C"⟩ : MethodName) jdk_52_method_5_code 2 (some .char) [] ({ frames := 0, cells := 0, slots := 0, locals := 0 } : Room) [] #[(.ref t), (.int (1 : Int32))] h0 (fun r u => r = some (.int c1) ∧ h0 = u) := by
  refine Ct.intro pn_java_lang_StringUTF16 hE (fun m => ef17_ri m t _) nosf ⟨a0, own_EW hw⟩ ?_
  intro x T w
  obtain ⟨cl, Ar, -, S, M, H, -⟩ := id A
  refine w.getS d17_0 (tw hw 77 rfl) (own_ad hr) ?_
  intro T w
  refine w.ifNe d17_3 d17_3t (fun _ => ?_) (fun q => absurd q (by decide))
  refine w.iloadN d17_28 rfl ?_
  refine w.iconst (1 : Int32) d17_29 rfl ?_
  refine w.ishl d17_30 ?_
  refine w.istoreN #[.val (.ref t), .val (.int ((1 : Int32) <<< ((1 : Int32) &&& 31)))] d17_31 rfl ?_
  refine w.aloadN d17_32 rfl rfl ?_
  refine w.iloadN d17_33 rfl ?_
  refine w.iinc (1 : Int32) #[.val (.ref t), .val (.int (((1 : Int32) <<< ((1 : Int32) &&& 31)) + (1 : Int32)))] d17_34 rfl rfl rfl ?_
  refine w.baload (v := .int (nar .byte (c1 >>> ((0 : Int32) &&& 31)))) d17_37 Ar (inb_of S (by decide)) (H.at (inb_of S (by decide)) (by rw [show (((1 : Int32) <<< ((1 : Int32) &&& 31))).toNatClampNeg = 2 by decide]; rfl)) ?_
  refine w.sipush (255 : Int32) d17_38 rfl ?_
  refine w.iand d17_41 ?_
  refine w.getS d17_42 (tw hw 78 rfl) (own_hi hr) ?_
  intro T w
  refine w.ishl d17_45 ?_
  refine w.aloadN d17_46 rfl rfl ?_
  refine w.iloadN d17_47 rfl ?_
  refine w.baload (v := .int (nar .byte (c1 >>> ((8 : Int32) &&& 31)))) d17_48 Ar (inb_of S (by decide)) (H.at (inb_of S (by decide)) (by rw [show ((((1 : Int32) <<< ((1 : Int32) &&& 31)) + (1 : Int32))).toNatClampNeg = 3 by decide]; rfl)) ?_
  refine w.sipush (255 : Int32) d17_49 rfl ?_
  refine w.iand d17_52 ?_
  refine w.getS d17_53 (tw hw 79 rfl) (own_lo hr) ?_
  intro T w
  refine w.ishl d17_56 ?_
  refine w.ior d17_57 ?_
  refine w.i2c d17_58 ?_
  exact w.retN d17_59 rfl (by simp) ⟨by rw [ncc, own_gc z v], rfl⟩

set_option maxRecDepth 65536 in
set_option maxHeartbeats 40000000 in
theorem rmC3x_4_1 (l : Launch) (Z : State) (a0 : Array Value) (hw : ∀ d ∈ tables_1, d.before a0 Z = true) (hr : rest_1_c.value a0 Z none Z [] = some true) (b : Addr) (kb : ClassId) (c0 c1 c2 c3 : Int32) (h0 : Heap) (hE : Ext Z.heap h0) (Ab : Arv Z h0 b kb .char (4 : Int32) [(.int c0), (.int c1), (.int c2), (.int c3)] (.int 0)) (z0 : 0 ≤ c0.toInt) (v0 : c0.toInt < 65536) (z1 : 0 ≤ c1.toInt) (v1 : c1.toInt < 65536) (z2 : 0 ≤ c2.toInt) (v2 : c2.toInt < 65536) (z3 : 0 ≤ c3.toInt) (v3 : c3.toInt < 65536) (u0 : ¬ 255 < c0) (gp : 255 < c1) :
    Ct true l Z consts_1 (⟨"java/lang/StringUTF16", "compress", "([CII)[B"⟩ : MethodName) jdk_52_method_16_code 6 (some (.array .byte)) [] ({ frames := 3, cells := 2, slots := 12, locals := 40 } : Room) [] #[(.ref b), (.int (0 : Int32)), (.int (4 : Int32))] h0 (fun r u => ∃ d kd, r = some (.ref d) ∧ Ext h0 u ∧ h0.size ≤ d ∧ Arv Z u d kd .byte (8 : Int32) [(.int (nar .byte (c0 >>> ((0 : Int32) &&& 31)))), (.int (nar .byte (c0 >>> ((8 : Int32) &&& 31)))), (.int (nar .byte (c1 >>> ((0 : Int32) &&& 31)))), (.int (nar .byte (c1 >>> ((8 : Int32) &&& 31)))), (.int (nar .byte (c2 >>> ((0 : Int32) &&& 31)))), (.int (nar .byte (c2 >>> ((8 : Int32) &&& 31)))), (.int (nar .byte (c3 >>> ((0 : Int32) &&& 31)))), (.int (nar .byte (c3 >>> ((8 : Int32) &&& 31))))] (.int 0)) := by
  refine Ct.intro pn_java_lang_StringUTF16 hE (fun m => ef11_rii m b _ _) nosf ⟨a0, own_EW hw⟩ ?_
  intro x T w
  refine w.iloadN d11_0 rfl ?_
  have sz0 := w.size
  refine w.newP 4 "[B" d11_1 (tw hw 27 rfl) (by decide) (by decide) (by decide) (by decide) ⟨by decide, by decide⟩ ?_
  intro d T h1 kd g_d w E_d A_d X_d
  have ge_d : Z.heap.size ≤ d := by rw [g_d]; exact sz0
  have nbd : b ≠ d := Nat.ne_of_lt (Nat.lt_of_lt_of_eq Ab.lt g_d.symm)
  refine w.astoreN #[.val (.ref b), .val (.int (0 : Int32)), .val (.int (4 : Int32)), .val (.ref d), .unset, .unset] d11_3 rfl rfl ?_
  refine w.aloadN d11_4 rfl rfl ?_
  refine w.iloadN d11_5 rfl ?_
  refine w.aloadN d11_6 rfl rfl ?_
  refine w.iconst (0 : Int32) d11_7 rfl ?_
  refine w.iloadN d11_8 rfl ?_
  refine w.callS (argsL := [(.ref b), (.int (0 : Int32)), (.ref d), (.int (0 : Int32)), (.int (4 : Int32))]) (rest := []) 0 d11_9 (tw hw 61 rfl) (tw hw 62 rfl) (tw hw 59 rfl) (tw hw 63 rfl) (by decide) (rmC5x_4_1 l Z a0 hw b d kb kd c0 c1 c2 c3 h1 w.old ge_d nbd (Ab.ext E_d) A_d u0 gp) (lenOf pd_2 rfl) rfl rfl (Nat.le_refl _) ⟨by decide, by decide, by decide, by decide⟩ (allS (List.mem_of_getElem? (i := 0) rfl) all0) ?_
  intro T h2 r w _ hQ
  obtain ⟨rfl, K1⟩ := hQ
  have E2 := keep_to E_d K1 (allS (Nat.le_of_eq g_d.symm) all0)
  have Ab := Ab.ext E2
  show Go x _ Z _ _ _ T 12 #[.val (.ref b), .val (.int (0 : Int32)), .val (.int (4 : Int32)), .val (.ref d), .unset, .unset] [(.int (1 : Int32))]
  refine w.istore #[.val (.ref b), .val (.int (0 : Int32)), .val (.int (4 : Int32)), .val (.ref d), .val (.int (1 : Int32)), .unset] d11_12 rfl ?_
  refine w.iload d11_14 rfl ?_
  refine w.iloadN d11_16 rfl ?_
  refine w.icmpEq d11_17 d11_17t (fun q => absurd q (by decide)) (fun _ => ?_)
  refine w.aloadN d11_20 rfl rfl ?_
  refine w.iloadN d11_21 rfl ?_
  refine w.iloadN d11_22 rfl ?_
  refine w.callS (argsL := [(.ref b), (.int (0 : Int32)), (.int (4 : Int32))]) (rest := []) 0 d11_23 (tw hw 64 rfl) (tw hw 65 rfl) (tw hw 59 rfl) (tw hw 66 rfl) (by decide) (rmTo_4 l Z a0 hw hr b kb c0 c1 c2 c3 h2 w.old Ab) (lenOf pd_3 rfl) rfl rfl (Nat.le_refl _) ⟨by decide, by decide, by decide, by decide⟩ all0 ?_
  intro T h3 r w _ hQ
  obtain ⟨e, ke, rfl, E3, ge, Ae⟩ := hQ
  show Go x _ Z _ _ _ T 26 #[.val (.ref b), .val (.int (0 : Int32)), .val (.int (4 : Int32)), .val (.ref d), .val (.int (1 : Int32)), .unset] [(.ref e)]
  refine w.astore #[.val (.ref b), .val (.int (0 : Int32)), .val (.int (4 : Int32)), .val (.ref d), .val (.int (1 : Int32)), .val (.ref e)] d11_26 rfl rfl ?_
  refine w.aload d11_28 rfl rfl ?_
  refine w.iload d11_30 rfl ?_
  refine w.callS (argsL := [(.ref e), (.int (1 : Int32))]) (rest := []) 0 d11_32 (tw hw 80 rfl) (tw hw 81 rfl) (tw hw 59 rfl) (tw hw 82 rfl) (by decide) (rmGe_4_1 l Z a0 hw hr e ke c0 c1 c2 c3 h3 w.old Ae z1 v1) (lenOf pd_8 rfl) rfl rfl (Nat.le_refl _) ⟨by decide, by decide, by decide, by decide⟩ all0 ?_
  intro T h4 r w _ hQ
  obtain ⟨rfl, rfl⟩ := hQ
  show Go x _ Z _ _ _ T 35 #[.val (.ref b), .val (.int (0 : Int32)), .val (.int (4 : Int32)), .val (.ref d), .val (.int (1 : Int32)), .val (.ref e)] [(.int c1)]
  refine w.sipush (255 : Int32) d11_35 rfl ?_
  refine w.icmpGt d11_38 d11_38t (fun _ => ?_) (fun q => absurd gp q)
  refine w.aload d11_54 rfl rfl ?_
  exact w.retA d11_56 rfl rfl rfl rfl ⟨e, ke, rfl, ext_trans E2 E3, Nat.le_trans E2.1 ge, Ae⟩

set_option maxRecDepth 65536 in
set_option maxHeartbeats 40000000 in
theorem rmC5x_4_2 (l : Launch) (Z : State) (a0 : Array Value) (hw : ∀ d ∈ tables_1, d.before a0 Z = true) (b d : Addr) (kb kd : ClassId) (c0 c1 c2 c3 : Int32) (h0 : Heap) (hE : Ext Z.heap h0) (ge_d : Z.heap.size ≤ d) (nbd : b ≠ d) (Ab : Arv Z h0 b kb .char (4 : Int32) [(.int c0), (.int c1), (.int c2), (.int c3)] (.int 0)) (Ad : Arv Z h0 d kd .byte (4 : Int32) [] (.int 0)) (u0 : ¬ 255 < c0) (u1 : ¬ 255 < c1) (gp : 255 < c2) :
    Ct true l Z consts_1 (⟨"java/lang/StringUTF16", "compress", "([CI[BII)I"⟩ : MethodName) jdk_52_method_21_code 7 (some .int) [] ({ frames := 0, cells := 0, slots := 0, locals := 0 } : Room) [d] #[(.ref b), (.int (0 : Int32)), (.ref d), (.int (0 : Int32)), (.int (4 : Int32))] h0 (fun r u => r = some (.int (2 : Int32)) ∧ Keep h0 u [d]) := by
  refine Ct.intro pn_java_lang_StringUTF16 hE (fun m => ef12_ririi m b _ d _ _) (onesf ge_d Ad.lt) ⟨a0, own_EW hw⟩ ?_
  intro x T w
  refine w.iconst (0 : Int32) d12_0 rfl ?_
  refine w.istore #[.val (.ref b), .val (.int (0 : Int32)), .val (.ref d), .val (.int (0 : Int32)), .val (.int (4 : Int32)), .val (.int (0 : Int32)), .unset] d12_1 rfl ?_
  refine w.iload d12_3 rfl ?_
  refine w.iload d12_5 rfl ?_
  refine w.icmpGe d12_7 d12_7t (fun q => absurd (by decide) q) (fun _ => ?_)
  refine w.aloadN d12_10 rfl rfl ?_
  refine w.iloadN d12_11 rfl ?_
  obtain ⟨cl0, Ar0, -, S0, -, H0, -⟩ := id Ab
  refine w.caload d12_12 Ar0 (inb_of S0 (by decide)) (H0.at (inb_of S0 (by decide)) rfl) ?_
  refine w.istore #[.val (.ref b), .val (.int (0 : Int32)), .val (.ref d), .val (.int (0 : Int32)), .val (.int (4 : Int32)), .val (.int (0 : Int32)), .val (.int c0)] d12_13 rfl ?_
  refine w.iload d12_15 rfl ?_
  refine w.sipush (255 : Int32) d12_17 rfl ?_
  refine w.icmpLe d12_20 d12_20t (fun _ => ?_) (fun q => absurd q u0)
  refine w.aloadN d12_26 rfl rfl ?_
  refine w.iloadN d12_27 rfl ?_
  refine w.iload d12_28 rfl ?_
  refine w.i2b d12_30 ?_
  refine w.stB 0 [(.int 0)] d12_31 Ad ⟨by decide, by decide⟩ (by decide) (pad_rep [] (.int 0) 1) (by simp) (fnb _) (List.mem_of_getElem? (i := 0) rfl) ?_
  intro T h1 w W0 A0
  rw [nbb] at A0 W0
  have Ad0 : Arv Z h1 d kd .byte (4 : Int32) [(.int (nar .byte c0))] (.int 0) := A0
  have Ab0 := Ab.other W0 nbd
  refine w.iinc (1 : Int32) #[.val (.ref b), .val (.int (1 : Int32)), .val (.ref d), .val (.int (0 : Int32)), .val (.int (4 : Int32)), .val (.int (0 : Int32)), .val (.int c0)] d12_32 rfl rfl rfl ?_
  refine w.iinc (1 : Int32) #[.val (.ref b), .val (.int (1 : Int32)), .val (.ref d), .val (.int (1 : Int32)), .val (.int (4 : Int32)), .val (.int (0 : Int32)), .val (.int c0)] d12_35 rfl rfl rfl ?_
  refine w.iinc (1 : Int32) #[.val (.ref b), .val (.int (1 : Int32)), .val (.ref d), .val (.int (1 : Int32)), .val (.int (4 : Int32)), .val (.int (1 : Int32)), .val (.int c0)] d12_38 rfl rfl rfl ?_
  refine w.goto d12_41 d12_41t ?_
  refine w.iload d12_3 rfl ?_
  refine w.iload d12_5 rfl ?_
  refine w.icmpGe d12_7 d12_7t (fun q => absurd (by decide) q) (fun _ => ?_)
  refine w.aloadN d12_10 rfl rfl ?_
  refine w.iloadN d12_11 rfl ?_
  obtain ⟨cl1, Ar1, -, S1, -, H1, -⟩ := id Ab0
  refine w.caload d12_12 Ar1 (inb_of S1 (by decide)) (H1.at (inb_of S1 (by decide)) rfl) ?_
  refine w.istore #[.val (.ref b), .val (.int (1 : Int32)), .val (.ref d), .val (.int (1 : Int32)), .val (.int (4 : Int32)), .val (.int (1 : Int32)), .val (.int c1)] d12_13 rfl ?_
  refine w.iload d12_15 rfl ?_
  refine w.sipush (255 : Int32) d12_17 rfl ?_
  refine w.icmpLe d12_20 d12_20t (fun _ => ?_) (fun q => absurd q u1)
  refine w.aloadN d12_26 rfl rfl ?_
  refine w.iloadN d12_27 rfl ?_
  refine w.iload d12_28 rfl ?_
  refine w.i2b d12_30 ?_
  refine w.stB 1 [(.int (nar .byte c0)), (.int 0)] d12_31 Ad0 ⟨by decide, by decide⟩ (by decide) (pad_rep [(.int (nar .byte c0))] (.int 0) 1) (by simp) (fnb _) (List.mem_of_getElem? (i := 0) rfl) ?_
  intro T h2 w W1 A1
  rw [nbb] at A1 W1
  have Ad1 : Arv Z h2 d kd .byte (4 : Int32) [(.int (nar .byte c0)), (.int (nar .byte c1))] (.int 0) := A1
  have Ab1 := Ab0.other W1 nbd
  refine w.iinc (1 : Int32) #[.val (.ref b), .val (.int (2 : Int32)), .val (.ref d), .val (.int (1 : Int32)), .val (.int (4 : Int32)), .val (.int (1 : Int32)), .val (.int c1)] d12_32 rfl rfl rfl ?_
  refine w.iinc (1 : Int32) #[.val (.ref b), .val (.int (2 : Int32)), .val (.ref d), .val (.int (2 : Int32)), .val (.int (4 : Int32)), .val (.int (1 : Int32)), .val (.int c1)] d12_35 rfl rfl rfl ?_
  refine w.iinc (1 : Int32) #[.val (.ref b), .val (.int (2 : Int32)), .val (.ref d), .val (.int (2 : Int32)), .val (.int (4 : Int32)), .val (.int (2 : Int32)), .val (.int c1)] d12_38 rfl rfl rfl ?_
  refine w.goto d12_41 d12_41t ?_
  refine w.iload d12_3 rfl ?_
  refine w.iload d12_5 rfl ?_
  refine w.icmpGe d12_7 d12_7t (fun q => absurd (by decide) q) (fun _ => ?_)
  refine w.aloadN d12_10 rfl rfl ?_
  refine w.iloadN d12_11 rfl ?_
  obtain ⟨cl2, Ar2, -, S2, -, H2, -⟩ := id Ab1
  refine w.caload d12_12 Ar2 (inb_of S2 (by decide)) (H2.at (inb_of S2 (by decide)) rfl) ?_
  refine w.istore #[.val (.ref b), .val (.int (2 : Int32)), .val (.ref d), .val (.int (2 : Int32)), .val (.int (4 : Int32)), .val (.int (2 : Int32)), .val (.int c2)] d12_13 rfl ?_
  refine w.iload d12_15 rfl ?_
  refine w.sipush (255 : Int32) d12_17 rfl ?_
  refine w.icmpLe d12_20 d12_20t (fun q => absurd gp q) (fun _ => ?_)
  refine w.iload d12_23 rfl ?_
  exact w.retI d12_25 rfl ⟨rfl, (((Keep.refl _ _).wr W0 (Or.inl (List.mem_singleton.mpr rfl))).wr W1 (Or.inl (List.mem_singleton.mpr rfl)))⟩

set_option maxRecDepth 65536 in
set_option maxHeartbeats 40000000 in
theorem rmGe_4_2 (l : Launch) (Z : State) (a0 : Array Value) (hw : ∀ d ∈ tables_1, d.before a0 Z = true) (hr : rest_1_c.value a0 Z none Z [] = some true) (t : Addr) (kb : ClassId) (c0 c1 c2 c3 : Int32) (h0 : Heap) (hE : Ext Z.heap h0) (A : Arv Z h0 t kb .byte (8 : Int32) [(.int (nar .byte (c0 >>> ((0 : Int32) &&& 31)))), (.int (nar .byte (c0 >>> ((8 : Int32) &&& 31)))), (.int (nar .byte (c1 >>> ((0 : Int32) &&& 31)))), (.int (nar .byte (c1 >>> ((8 : Int32) &&& 31)))), (.int (nar .byte (c2 >>> ((0 : Int32) &&& 31)))), (.int (nar .byte (c2 >>> ((8 : Int32) &&& 31)))), (.int (nar .byte (c3 >>> ((0 : Int32) &&& 31)))), (.int (nar .byte (c3 >>> ((8 : Int32) &&& 31))))] (.int 0)) (z : 0 ≤ c2.toInt) (v : c2.toInt < 65536) :
    Ct true l Z consts_1 (⟨"java/lang/StringUTF16", "getChar", "([BI)C"⟩ : MethodName) jdk_52_method_5_code 2 (some .char) [] ({ frames := 0, cells := 0, slots := 0, locals := 0 } : Room) [] #[(.ref t), (.int (2 : Int32))] h0 (fun r u => r = some (.int c2) ∧ h0 = u) := by
  refine Ct.intro pn_java_lang_StringUTF16 hE (fun m => ef17_ri m t _) nosf ⟨a0, own_EW hw⟩ ?_
  intro x T w
  obtain ⟨cl, Ar, -, S, M, H, -⟩ := id A
  refine w.getS d17_0 (tw hw 77 rfl) (own_ad hr) ?_
  intro T w
  refine w.ifNe d17_3 d17_3t (fun _ => ?_) (fun q => absurd q (by decide))
  refine w.iloadN d17_28 rfl ?_
  refine w.iconst (1 : Int32) d17_29 rfl ?_
  refine w.ishl d17_30 ?_
  refine w.istoreN #[.val (.ref t), .val (.int ((2 : Int32) <<< ((1 : Int32) &&& 31)))] d17_31 rfl ?_
  refine w.aloadN d17_32 rfl rfl ?_
  refine w.iloadN d17_33 rfl ?_
  refine w.iinc (1 : Int32) #[.val (.ref t), .val (.int (((2 : Int32) <<< ((1 : Int32) &&& 31)) + (1 : Int32)))] d17_34 rfl rfl rfl ?_
  refine w.baload (v := .int (nar .byte (c2 >>> ((0 : Int32) &&& 31)))) d17_37 Ar (inb_of S (by decide)) (H.at (inb_of S (by decide)) (by rw [show (((2 : Int32) <<< ((1 : Int32) &&& 31))).toNatClampNeg = 4 by decide]; rfl)) ?_
  refine w.sipush (255 : Int32) d17_38 rfl ?_
  refine w.iand d17_41 ?_
  refine w.getS d17_42 (tw hw 78 rfl) (own_hi hr) ?_
  intro T w
  refine w.ishl d17_45 ?_
  refine w.aloadN d17_46 rfl rfl ?_
  refine w.iloadN d17_47 rfl ?_
  refine w.baload (v := .int (nar .byte (c2 >>> ((8 : Int32) &&& 31)))) d17_48 Ar (inb_of S (by decide)) (H.at (inb_of S (by decide)) (by rw [show ((((2 : Int32) <<< ((1 : Int32) &&& 31)) + (1 : Int32))).toNatClampNeg = 5 by decide]; rfl)) ?_
  refine w.sipush (255 : Int32) d17_49 rfl ?_
  refine w.iand d17_52 ?_
  refine w.getS d17_53 (tw hw 79 rfl) (own_lo hr) ?_
  intro T w
  refine w.ishl d17_56 ?_
  refine w.ior d17_57 ?_
  refine w.i2c d17_58 ?_
  exact w.retN d17_59 rfl (by simp) ⟨by rw [ncc, own_gc z v], rfl⟩

set_option maxRecDepth 65536 in
set_option maxHeartbeats 40000000 in
theorem rmC3x_4_2 (l : Launch) (Z : State) (a0 : Array Value) (hw : ∀ d ∈ tables_1, d.before a0 Z = true) (hr : rest_1_c.value a0 Z none Z [] = some true) (b : Addr) (kb : ClassId) (c0 c1 c2 c3 : Int32) (h0 : Heap) (hE : Ext Z.heap h0) (Ab : Arv Z h0 b kb .char (4 : Int32) [(.int c0), (.int c1), (.int c2), (.int c3)] (.int 0)) (z0 : 0 ≤ c0.toInt) (v0 : c0.toInt < 65536) (z1 : 0 ≤ c1.toInt) (v1 : c1.toInt < 65536) (z2 : 0 ≤ c2.toInt) (v2 : c2.toInt < 65536) (z3 : 0 ≤ c3.toInt) (v3 : c3.toInt < 65536) (u0 : ¬ 255 < c0) (u1 : ¬ 255 < c1) (gp : 255 < c2) :
    Ct true l Z consts_1 (⟨"java/lang/StringUTF16", "compress", "([CII)[B"⟩ : MethodName) jdk_52_method_16_code 6 (some (.array .byte)) [] ({ frames := 3, cells := 2, slots := 12, locals := 40 } : Room) [] #[(.ref b), (.int (0 : Int32)), (.int (4 : Int32))] h0 (fun r u => ∃ d kd, r = some (.ref d) ∧ Ext h0 u ∧ h0.size ≤ d ∧ Arv Z u d kd .byte (8 : Int32) [(.int (nar .byte (c0 >>> ((0 : Int32) &&& 31)))), (.int (nar .byte (c0 >>> ((8 : Int32) &&& 31)))), (.int (nar .byte (c1 >>> ((0 : Int32) &&& 31)))), (.int (nar .byte (c1 >>> ((8 : Int32) &&& 31)))), (.int (nar .byte (c2 >>> ((0 : Int32) &&& 31)))), (.int (nar .byte (c2 >>> ((8 : Int32) &&& 31)))), (.int (nar .byte (c3 >>> ((0 : Int32) &&& 31)))), (.int (nar .byte (c3 >>> ((8 : Int32) &&& 31))))] (.int 0)) := by
  refine Ct.intro pn_java_lang_StringUTF16 hE (fun m => ef11_rii m b _ _) nosf ⟨a0, own_EW hw⟩ ?_
  intro x T w
  refine w.iloadN d11_0 rfl ?_
  have sz0 := w.size
  refine w.newP 4 "[B" d11_1 (tw hw 27 rfl) (by decide) (by decide) (by decide) (by decide) ⟨by decide, by decide⟩ ?_
  intro d T h1 kd g_d w E_d A_d X_d
  have ge_d : Z.heap.size ≤ d := by rw [g_d]; exact sz0
  have nbd : b ≠ d := Nat.ne_of_lt (Nat.lt_of_lt_of_eq Ab.lt g_d.symm)
  refine w.astoreN #[.val (.ref b), .val (.int (0 : Int32)), .val (.int (4 : Int32)), .val (.ref d), .unset, .unset] d11_3 rfl rfl ?_
  refine w.aloadN d11_4 rfl rfl ?_
  refine w.iloadN d11_5 rfl ?_
  refine w.aloadN d11_6 rfl rfl ?_
  refine w.iconst (0 : Int32) d11_7 rfl ?_
  refine w.iloadN d11_8 rfl ?_
  refine w.callS (argsL := [(.ref b), (.int (0 : Int32)), (.ref d), (.int (0 : Int32)), (.int (4 : Int32))]) (rest := []) 0 d11_9 (tw hw 61 rfl) (tw hw 62 rfl) (tw hw 59 rfl) (tw hw 63 rfl) (by decide) (rmC5x_4_2 l Z a0 hw b d kb kd c0 c1 c2 c3 h1 w.old ge_d nbd (Ab.ext E_d) A_d u0 u1 gp) (lenOf pd_2 rfl) rfl rfl (Nat.le_refl _) ⟨by decide, by decide, by decide, by decide⟩ (allS (List.mem_of_getElem? (i := 0) rfl) all0) ?_
  intro T h2 r w _ hQ
  obtain ⟨rfl, K1⟩ := hQ
  have E2 := keep_to E_d K1 (allS (Nat.le_of_eq g_d.symm) all0)
  have Ab := Ab.ext E2
  show Go x _ Z _ _ _ T 12 #[.val (.ref b), .val (.int (0 : Int32)), .val (.int (4 : Int32)), .val (.ref d), .unset, .unset] [(.int (2 : Int32))]
  refine w.istore #[.val (.ref b), .val (.int (0 : Int32)), .val (.int (4 : Int32)), .val (.ref d), .val (.int (2 : Int32)), .unset] d11_12 rfl ?_
  refine w.iload d11_14 rfl ?_
  refine w.iloadN d11_16 rfl ?_
  refine w.icmpEq d11_17 d11_17t (fun q => absurd q (by decide)) (fun _ => ?_)
  refine w.aloadN d11_20 rfl rfl ?_
  refine w.iloadN d11_21 rfl ?_
  refine w.iloadN d11_22 rfl ?_
  refine w.callS (argsL := [(.ref b), (.int (0 : Int32)), (.int (4 : Int32))]) (rest := []) 0 d11_23 (tw hw 64 rfl) (tw hw 65 rfl) (tw hw 59 rfl) (tw hw 66 rfl) (by decide) (rmTo_4 l Z a0 hw hr b kb c0 c1 c2 c3 h2 w.old Ab) (lenOf pd_3 rfl) rfl rfl (Nat.le_refl _) ⟨by decide, by decide, by decide, by decide⟩ all0 ?_
  intro T h3 r w _ hQ
  obtain ⟨e, ke, rfl, E3, ge, Ae⟩ := hQ
  show Go x _ Z _ _ _ T 26 #[.val (.ref b), .val (.int (0 : Int32)), .val (.int (4 : Int32)), .val (.ref d), .val (.int (2 : Int32)), .unset] [(.ref e)]
  refine w.astore #[.val (.ref b), .val (.int (0 : Int32)), .val (.int (4 : Int32)), .val (.ref d), .val (.int (2 : Int32)), .val (.ref e)] d11_26 rfl rfl ?_
  refine w.aload d11_28 rfl rfl ?_
  refine w.iload d11_30 rfl ?_
  refine w.callS (argsL := [(.ref e), (.int (2 : Int32))]) (rest := []) 0 d11_32 (tw hw 80 rfl) (tw hw 81 rfl) (tw hw 59 rfl) (tw hw 82 rfl) (by decide) (rmGe_4_2 l Z a0 hw hr e ke c0 c1 c2 c3 h3 w.old Ae z2 v2) (lenOf pd_8 rfl) rfl rfl (Nat.le_refl _) ⟨by decide, by decide, by decide, by decide⟩ all0 ?_
  intro T h4 r w _ hQ
  obtain ⟨rfl, rfl⟩ := hQ
  show Go x _ Z _ _ _ T 35 #[.val (.ref b), .val (.int (0 : Int32)), .val (.int (4 : Int32)), .val (.ref d), .val (.int (2 : Int32)), .val (.ref e)] [(.int c2)]
  refine w.sipush (255 : Int32) d11_35 rfl ?_
  refine w.icmpGt d11_38 d11_38t (fun _ => ?_) (fun q => absurd gp q)
  refine w.aload d11_54 rfl rfl ?_
  exact w.retA d11_56 rfl rfl rfl rfl ⟨e, ke, rfl, ext_trans E2 E3, Nat.le_trans E2.1 ge, Ae⟩

set_option maxRecDepth 65536 in
set_option maxHeartbeats 40000000 in
theorem rmC5x_4_3 (l : Launch) (Z : State) (a0 : Array Value) (hw : ∀ d ∈ tables_1, d.before a0 Z = true) (b d : Addr) (kb kd : ClassId) (c0 c1 c2 c3 : Int32) (h0 : Heap) (hE : Ext Z.heap h0) (ge_d : Z.heap.size ≤ d) (nbd : b ≠ d) (Ab : Arv Z h0 b kb .char (4 : Int32) [(.int c0), (.int c1), (.int c2), (.int c3)] (.int 0)) (Ad : Arv Z h0 d kd .byte (4 : Int32) [] (.int 0)) (u0 : ¬ 255 < c0) (u1 : ¬ 255 < c1) (u2 : ¬ 255 < c2) (gp : 255 < c3) :
    Ct true l Z consts_1 (⟨"java/lang/StringUTF16", "compress", "([CI[BII)I"⟩ : MethodName) jdk_52_method_21_code 7 (some .int) [] ({ frames := 0, cells := 0, slots := 0, locals := 0 } : Room) [d] #[(.ref b), (.int (0 : Int32)), (.ref d), (.int (0 : Int32)), (.int (4 : Int32))] h0 (fun r u => r = some (.int (3 : Int32)) ∧ Keep h0 u [d]) := by
  refine Ct.intro pn_java_lang_StringUTF16 hE (fun m => ef12_ririi m b _ d _ _) (onesf ge_d Ad.lt) ⟨a0, own_EW hw⟩ ?_
  intro x T w
  refine w.iconst (0 : Int32) d12_0 rfl ?_
  refine w.istore #[.val (.ref b), .val (.int (0 : Int32)), .val (.ref d), .val (.int (0 : Int32)), .val (.int (4 : Int32)), .val (.int (0 : Int32)), .unset] d12_1 rfl ?_
  refine w.iload d12_3 rfl ?_
  refine w.iload d12_5 rfl ?_
  refine w.icmpGe d12_7 d12_7t (fun q => absurd (by decide) q) (fun _ => ?_)
  refine w.aloadN d12_10 rfl rfl ?_
  refine w.iloadN d12_11 rfl ?_
  obtain ⟨cl0, Ar0, -, S0, -, H0, -⟩ := id Ab
  refine w.caload d12_12 Ar0 (inb_of S0 (by decide)) (H0.at (inb_of S0 (by decide)) rfl) ?_
  refine w.istore #[.val (.ref b), .val (.int (0 : Int32)), .val (.ref d), .val (.int (0 : Int32)), .val (.int (4 : Int32)), .val (.int (0 : Int32)), .val (.int c0)] d12_13 rfl ?_
  refine w.iload d12_15 rfl ?_
  refine w.sipush (255 : Int32) d12_17 rfl ?_
  refine w.icmpLe d12_20 d12_20t (fun _ => ?_) (fun q => absurd q u0)
  refine w.aloadN d12_26 rfl rfl ?_
  refine w.iloadN d12_27 rfl ?_
  refine w.iload d12_28 rfl ?_
  refine w.i2b d12_30 ?_
  refine w.stB 0 [(.int 0)] d12_31 Ad ⟨by decide, by decide⟩ (by decide) (pad_rep [] (.int 0) 1) (by simp) (fnb _) (List.mem_of_getElem? (i := 0) rfl) ?_
  intro T h1 w W0 A0
  rw [nbb] at A0 W0
  have Ad0 : Arv Z h1 d kd .byte (4 : Int32) [(.int (nar .byte c0))] (.int 0) := A0
  have Ab0 := Ab.other W0 nbd
  refine w.iinc (1 : Int32) #[.val (.ref b), .val (.int (1 : Int32)), .val (.ref d), .val (.int (0 : Int32)), .val (.int (4 : Int32)), .val (.int (0 : Int32)), .val (.int c0)] d12_32 rfl rfl rfl ?_
  refine w.iinc (1 : Int32) #[.val (.ref b), .val (.int (1 : Int32)), .val (.ref d), .val (.int (1 : Int32)), .val (.int (4 : Int32)), .val (.int (0 : Int32)), .val (.int c0)] d12_35 rfl rfl rfl ?_
  refine w.iinc (1 : Int32) #[.val (.ref b), .val (.int (1 : Int32)), .val (.ref d), .val (.int (1 : Int32)), .val (.int (4 : Int32)), .val (.int (1 : Int32)), .val (.int c0)] d12_38 rfl rfl rfl ?_
  refine w.goto d12_41 d12_41t ?_
  refine w.iload d12_3 rfl ?_
  refine w.iload d12_5 rfl ?_
  refine w.icmpGe d12_7 d12_7t (fun q => absurd (by decide) q) (fun _ => ?_)
  refine w.aloadN d12_10 rfl rfl ?_
  refine w.iloadN d12_11 rfl ?_
  obtain ⟨cl1, Ar1, -, S1, -, H1, -⟩ := id Ab0
  refine w.caload d12_12 Ar1 (inb_of S1 (by decide)) (H1.at (inb_of S1 (by decide)) rfl) ?_
  refine w.istore #[.val (.ref b), .val (.int (1 : Int32)), .val (.ref d), .val (.int (1 : Int32)), .val (.int (4 : Int32)), .val (.int (1 : Int32)), .val (.int c1)] d12_13 rfl ?_
  refine w.iload d12_15 rfl ?_
  refine w.sipush (255 : Int32) d12_17 rfl ?_
  refine w.icmpLe d12_20 d12_20t (fun _ => ?_) (fun q => absurd q u1)
  refine w.aloadN d12_26 rfl rfl ?_
  refine w.iloadN d12_27 rfl ?_
  refine w.iload d12_28 rfl ?_
  refine w.i2b d12_30 ?_
  refine w.stB 1 [(.int (nar .byte c0)), (.int 0)] d12_31 Ad0 ⟨by decide, by decide⟩ (by decide) (pad_rep [(.int (nar .byte c0))] (.int 0) 1) (by simp) (fnb _) (List.mem_of_getElem? (i := 0) rfl) ?_
  intro T h2 w W1 A1
  rw [nbb] at A1 W1
  have Ad1 : Arv Z h2 d kd .byte (4 : Int32) [(.int (nar .byte c0)), (.int (nar .byte c1))] (.int 0) := A1
  have Ab1 := Ab0.other W1 nbd
  refine w.iinc (1 : Int32) #[.val (.ref b), .val (.int (2 : Int32)), .val (.ref d), .val (.int (1 : Int32)), .val (.int (4 : Int32)), .val (.int (1 : Int32)), .val (.int c1)] d12_32 rfl rfl rfl ?_
  refine w.iinc (1 : Int32) #[.val (.ref b), .val (.int (2 : Int32)), .val (.ref d), .val (.int (2 : Int32)), .val (.int (4 : Int32)), .val (.int (1 : Int32)), .val (.int c1)] d12_35 rfl rfl rfl ?_
  refine w.iinc (1 : Int32) #[.val (.ref b), .val (.int (2 : Int32)), .val (.ref d), .val (.int (2 : Int32)), .val (.int (4 : Int32)), .val (.int (2 : Int32)), .val (.int c1)] d12_38 rfl rfl rfl ?_
  refine w.goto d12_41 d12_41t ?_
  refine w.iload d12_3 rfl ?_
  refine w.iload d12_5 rfl ?_
  refine w.icmpGe d12_7 d12_7t (fun q => absurd (by decide) q) (fun _ => ?_)
  refine w.aloadN d12_10 rfl rfl ?_
  refine w.iloadN d12_11 rfl ?_
  obtain ⟨cl2, Ar2, -, S2, -, H2, -⟩ := id Ab1
  refine w.caload d12_12 Ar2 (inb_of S2 (by decide)) (H2.at (inb_of S2 (by decide)) rfl) ?_
  refine w.istore #[.val (.ref b), .val (.int (2 : Int32)), .val (.ref d), .val (.int (2 : Int32)), .val (.int (4 : Int32)), .val (.int (2 : Int32)), .val (.int c2)] d12_13 rfl ?_
  refine w.iload d12_15 rfl ?_
  refine w.sipush (255 : Int32) d12_17 rfl ?_
  refine w.icmpLe d12_20 d12_20t (fun _ => ?_) (fun q => absurd q u2)
  refine w.aloadN d12_26 rfl rfl ?_
  refine w.iloadN d12_27 rfl ?_
  refine w.iload d12_28 rfl ?_
  refine w.i2b d12_30 ?_
  refine w.stB 2 [(.int (nar .byte c0)), (.int (nar .byte c1)), (.int 0)] d12_31 Ad1 ⟨by decide, by decide⟩ (by decide) (pad_rep [(.int (nar .byte c0)), (.int (nar .byte c1))] (.int 0) 1) (by simp) (fnb _) (List.mem_of_getElem? (i := 0) rfl) ?_
  intro T h3 w W2 A2
  rw [nbb] at A2 W2
  have Ad2 : Arv Z h3 d kd .byte (4 : Int32) [(.int (nar .byte c0)), (.int (nar .byte c1)), (.int (nar .byte c2))] (.int 0) := A2
  have Ab2 := Ab1.other W2 nbd
  refine w.iinc (1 : Int32) #[.val (.ref b), .val (.int (3 : Int32)), .val (.ref d), .val (.int (2 : Int32)), .val (.int (4 : Int32)), .val (.int (2 : Int32)), .val (.int c2)] d12_32 rfl rfl rfl ?_
  refine w.iinc (1 : Int32) #[.val (.ref b), .val (.int (3 : Int32)), .val (.ref d), .val (.int (3 : Int32)), .val (.int (4 : Int32)), .val (.int (2 : Int32)), .val (.int c2)] d12_35 rfl rfl rfl ?_
  refine w.iinc (1 : Int32) #[.val (.ref b), .val (.int (3 : Int32)), .val (.ref d), .val (.int (3 : Int32)), .val (.int (4 : Int32)), .val (.int (3 : Int32)), .val (.int c2)] d12_38 rfl rfl rfl ?_
  refine w.goto d12_41 d12_41t ?_
  refine w.iload d12_3 rfl ?_
  refine w.iload d12_5 rfl ?_
  refine w.icmpGe d12_7 d12_7t (fun q => absurd (by decide) q) (fun _ => ?_)
  refine w.aloadN d12_10 rfl rfl ?_
  refine w.iloadN d12_11 rfl ?_
  obtain ⟨cl3, Ar3, -, S3, -, H3, -⟩ := id Ab2
  refine w.caload d12_12 Ar3 (inb_of S3 (by decide)) (H3.at (inb_of S3 (by decide)) rfl) ?_
  refine w.istore #[.val (.ref b), .val (.int (3 : Int32)), .val (.ref d), .val (.int (3 : Int32)), .val (.int (4 : Int32)), .val (.int (3 : Int32)), .val (.int c3)] d12_13 rfl ?_
  refine w.iload d12_15 rfl ?_
  refine w.sipush (255 : Int32) d12_17 rfl ?_
  refine w.icmpLe d12_20 d12_20t (fun q => absurd gp q) (fun _ => ?_)
  refine w.iload d12_23 rfl ?_
  exact w.retI d12_25 rfl ⟨rfl, ((((Keep.refl _ _).wr W0 (Or.inl (List.mem_singleton.mpr rfl))).wr W1 (Or.inl (List.mem_singleton.mpr rfl))).wr W2 (Or.inl (List.mem_singleton.mpr rfl)))⟩

set_option maxRecDepth 65536 in
set_option maxHeartbeats 40000000 in
theorem rmGe_4_3 (l : Launch) (Z : State) (a0 : Array Value) (hw : ∀ d ∈ tables_1, d.before a0 Z = true) (hr : rest_1_c.value a0 Z none Z [] = some true) (t : Addr) (kb : ClassId) (c0 c1 c2 c3 : Int32) (h0 : Heap) (hE : Ext Z.heap h0) (A : Arv Z h0 t kb .byte (8 : Int32) [(.int (nar .byte (c0 >>> ((0 : Int32) &&& 31)))), (.int (nar .byte (c0 >>> ((8 : Int32) &&& 31)))), (.int (nar .byte (c1 >>> ((0 : Int32) &&& 31)))), (.int (nar .byte (c1 >>> ((8 : Int32) &&& 31)))), (.int (nar .byte (c2 >>> ((0 : Int32) &&& 31)))), (.int (nar .byte (c2 >>> ((8 : Int32) &&& 31)))), (.int (nar .byte (c3 >>> ((0 : Int32) &&& 31)))), (.int (nar .byte (c3 >>> ((8 : Int32) &&& 31))))] (.int 0)) (z : 0 ≤ c3.toInt) (v : c3.toInt < 65536) :
    Ct true l Z consts_1 (⟨"java/lang/StringUTF16", "getChar", "([BI)C"⟩ : MethodName) jdk_52_method_5_code 2 (some .char) [] ({ frames := 0, cells := 0, slots := 0, locals := 0 } : Room) [] #[(.ref t), (.int (3 : Int32))] h0 (fun r u => r = some (.int c3) ∧ h0 = u) := by
  refine Ct.intro pn_java_lang_StringUTF16 hE (fun m => ef17_ri m t _) nosf ⟨a0, own_EW hw⟩ ?_
  intro x T w
  obtain ⟨cl, Ar, -, S, M, H, -⟩ := id A
  refine w.getS d17_0 (tw hw 77 rfl) (own_ad hr) ?_
  intro T w
  refine w.ifNe d17_3 d17_3t (fun _ => ?_) (fun q => absurd q (by decide))
  refine w.iloadN d17_28 rfl ?_
  refine w.iconst (1 : Int32) d17_29 rfl ?_
  refine w.ishl d17_30 ?_
  refine w.istoreN #[.val (.ref t), .val (.int ((3 : Int32) <<< ((1 : Int32) &&& 31)))] d17_31 rfl ?_
  refine w.aloadN d17_32 rfl rfl ?_
  refine w.iloadN d17_33 rfl ?_
  refine w.iinc (1 : Int32) #[.val (.ref t), .val (.int (((3 : Int32) <<< ((1 : Int32) &&& 31)) + (1 : Int32)))] d17_34 rfl rfl rfl ?_
  refine w.baload (v := .int (nar .byte (c3 >>> ((0 : Int32) &&& 31)))) d17_37 Ar (inb_of S (by decide)) (H.at (inb_of S (by decide)) (by rw [show (((3 : Int32) <<< ((1 : Int32) &&& 31))).toNatClampNeg = 6 by decide]; rfl)) ?_
  refine w.sipush (255 : Int32) d17_38 rfl ?_
  refine w.iand d17_41 ?_
  refine w.getS d17_42 (tw hw 78 rfl) (own_hi hr) ?_
  intro T w
  refine w.ishl d17_45 ?_
  refine w.aloadN d17_46 rfl rfl ?_
  refine w.iloadN d17_47 rfl ?_
  refine w.baload (v := .int (nar .byte (c3 >>> ((8 : Int32) &&& 31)))) d17_48 Ar (inb_of S (by decide)) (H.at (inb_of S (by decide)) (by rw [show ((((3 : Int32) <<< ((1 : Int32) &&& 31)) + (1 : Int32))).toNatClampNeg = 7 by decide]; rfl)) ?_
  refine w.sipush (255 : Int32) d17_49 rfl ?_
  refine w.iand d17_52 ?_
  refine w.getS d17_53 (tw hw 79 rfl) (own_lo hr) ?_
  intro T w
  refine w.ishl d17_56 ?_
  refine w.ior d17_57 ?_
  refine w.i2c d17_58 ?_
  exact w.retN d17_59 rfl (by simp) ⟨by rw [ncc, own_gc z v], rfl⟩

set_option maxRecDepth 65536 in
set_option maxHeartbeats 40000000 in
theorem rmC3x_4_3 (l : Launch) (Z : State) (a0 : Array Value) (hw : ∀ d ∈ tables_1, d.before a0 Z = true) (hr : rest_1_c.value a0 Z none Z [] = some true) (b : Addr) (kb : ClassId) (c0 c1 c2 c3 : Int32) (h0 : Heap) (hE : Ext Z.heap h0) (Ab : Arv Z h0 b kb .char (4 : Int32) [(.int c0), (.int c1), (.int c2), (.int c3)] (.int 0)) (z0 : 0 ≤ c0.toInt) (v0 : c0.toInt < 65536) (z1 : 0 ≤ c1.toInt) (v1 : c1.toInt < 65536) (z2 : 0 ≤ c2.toInt) (v2 : c2.toInt < 65536) (z3 : 0 ≤ c3.toInt) (v3 : c3.toInt < 65536) (u0 : ¬ 255 < c0) (u1 : ¬ 255 < c1) (u2 : ¬ 255 < c2) (gp : 255 < c3) :
    Ct true l Z consts_1 (⟨"java/lang/StringUTF16", "compress", "([CII)[B"⟩ : MethodName) jdk_52_method_16_code 6 (some (.array .byte)) [] ({ frames := 3, cells := 2, slots := 12, locals := 40 } : Room) [] #[(.ref b), (.int (0 : Int32)), (.int (4 : Int32))] h0 (fun r u => ∃ d kd, r = some (.ref d) ∧ Ext h0 u ∧ h0.size ≤ d ∧ Arv Z u d kd .byte (8 : Int32) [(.int (nar .byte (c0 >>> ((0 : Int32) &&& 31)))), (.int (nar .byte (c0 >>> ((8 : Int32) &&& 31)))), (.int (nar .byte (c1 >>> ((0 : Int32) &&& 31)))), (.int (nar .byte (c1 >>> ((8 : Int32) &&& 31)))), (.int (nar .byte (c2 >>> ((0 : Int32) &&& 31)))), (.int (nar .byte (c2 >>> ((8 : Int32) &&& 31)))), (.int (nar .byte (c3 >>> ((0 : Int32) &&& 31)))), (.int (nar .byte (c3 >>> ((8 : Int32) &&& 31))))] (.int 0)) := by
  refine Ct.intro pn_java_lang_StringUTF16 hE (fun m => ef11_rii m b _ _) nosf ⟨a0, own_EW hw⟩ ?_
  intro x T w
  refine w.iloadN d11_0 rfl ?_
  have sz0 := w.size
  refine w.newP 4 "[B" d11_1 (tw hw 27 rfl) (by decide) (by decide) (by decide) (by decide) ⟨by decide, by decide⟩ ?_
  intro d T h1 kd g_d w E_d A_d X_d
  have ge_d : Z.heap.size ≤ d := by rw [g_d]; exact sz0
  have nbd : b ≠ d := Nat.ne_of_lt (Nat.lt_of_lt_of_eq Ab.lt g_d.symm)
  refine w.astoreN #[.val (.ref b), .val (.int (0 : Int32)), .val (.int (4 : Int32)), .val (.ref d), .unset, .unset] d11_3 rfl rfl ?_
  refine w.aloadN d11_4 rfl rfl ?_
  refine w.iloadN d11_5 rfl ?_
  refine w.aloadN d11_6 rfl rfl ?_
  refine w.iconst (0 : Int32) d11_7 rfl ?_
  refine w.iloadN d11_8 rfl ?_
  refine w.callS (argsL := [(.ref b), (.int (0 : Int32)), (.ref d), (.int (0 : Int32)), (.int (4 : Int32))]) (rest := []) 0 d11_9 (tw hw 61 rfl) (tw hw 62 rfl) (tw hw 59 rfl) (tw hw 63 rfl) (by decide) (rmC5x_4_3 l Z a0 hw b d kb kd c0 c1 c2 c3 h1 w.old ge_d nbd (Ab.ext E_d) A_d u0 u1 u2 gp) (lenOf pd_2 rfl) rfl rfl (Nat.le_refl _) ⟨by decide, by decide, by decide, by decide⟩ (allS (List.mem_of_getElem? (i := 0) rfl) all0) ?_
  intro T h2 r w _ hQ
  obtain ⟨rfl, K1⟩ := hQ
  have E2 := keep_to E_d K1 (allS (Nat.le_of_eq g_d.symm) all0)
  have Ab := Ab.ext E2
  show Go x _ Z _ _ _ T 12 #[.val (.ref b), .val (.int (0 : Int32)), .val (.int (4 : Int32)), .val (.ref d), .unset, .unset] [(.int (3 : Int32))]
  refine w.istore #[.val (.ref b), .val (.int (0 : Int32)), .val (.int (4 : Int32)), .val (.ref d), .val (.int (3 : Int32)), .unset] d11_12 rfl ?_
  refine w.iload d11_14 rfl ?_
  refine w.iloadN d11_16 rfl ?_
  refine w.icmpEq d11_17 d11_17t (fun q => absurd q (by decide)) (fun _ => ?_)
  refine w.aloadN d11_20 rfl rfl ?_
  refine w.iloadN d11_21 rfl ?_
  refine w.iloadN d11_22 rfl ?_
  refine w.callS (argsL := [(.ref b), (.int (0 : Int32)), (.int (4 : Int32))]) (rest := []) 0 d11_23 (tw hw 64 rfl) (tw hw 65 rfl) (tw hw 59 rfl) (tw hw 66 rfl) (by decide) (rmTo_4 l Z a0 hw hr b kb c0 c1 c2 c3 h2 w.old Ab) (lenOf pd_3 rfl) rfl rfl (Nat.le_refl _) ⟨by decide, by decide, by decide, by decide⟩ all0 ?_
  intro T h3 r w _ hQ
  obtain ⟨e, ke, rfl, E3, ge, Ae⟩ := hQ
  show Go x _ Z _ _ _ T 26 #[.val (.ref b), .val (.int (0 : Int32)), .val (.int (4 : Int32)), .val (.ref d), .val (.int (3 : Int32)), .unset] [(.ref e)]
  refine w.astore #[.val (.ref b), .val (.int (0 : Int32)), .val (.int (4 : Int32)), .val (.ref d), .val (.int (3 : Int32)), .val (.ref e)] d11_26 rfl rfl ?_
  refine w.aload d11_28 rfl rfl ?_
  refine w.iload d11_30 rfl ?_
  refine w.callS (argsL := [(.ref e), (.int (3 : Int32))]) (rest := []) 0 d11_32 (tw hw 80 rfl) (tw hw 81 rfl) (tw hw 59 rfl) (tw hw 82 rfl) (by decide) (rmGe_4_3 l Z a0 hw hr e ke c0 c1 c2 c3 h3 w.old Ae z3 v3) (lenOf pd_8 rfl) rfl rfl (Nat.le_refl _) ⟨by decide, by decide, by decide, by decide⟩ all0 ?_
  intro T h4 r w _ hQ
  obtain ⟨rfl, rfl⟩ := hQ
  show Go x _ Z _ _ _ T 35 #[.val (.ref b), .val (.int (0 : Int32)), .val (.int (4 : Int32)), .val (.ref d), .val (.int (3 : Int32)), .val (.ref e)] [(.int c3)]
  refine w.sipush (255 : Int32) d11_35 rfl ?_
  refine w.icmpGt d11_38 d11_38t (fun _ => ?_) (fun q => absurd gp q)
  refine w.aload d11_54 rfl rfl ?_
  exact w.retA d11_56 rfl rfl rfl rfl ⟨e, ke, rfl, ext_trans E2 E3, Nat.le_trans E2.1 ge, Ae⟩

theorem rmC3U_4 (l : Launch) (Z : State) (a0 : Array Value) (hw : ∀ d ∈ tables_1, d.before a0 Z = true) (hr : rest_1_c.value a0 Z none Z [] = some true) (b : Addr) (kb : ClassId) (c0 c1 c2 c3 : Int32) (h0 : Heap) (hE : Ext Z.heap h0) (Ab : Arv Z h0 b kb .char (4 : Int32) [(.int c0), (.int c1), (.int c2), (.int c3)] (.int 0)) (z0 : 0 ≤ c0.toInt) (v0 : c0.toInt < 65536) (z1 : 0 ≤ c1.toInt) (v1 : c1.toInt < 65536) (z2 : 0 ≤ c2.toInt) (v2 : c2.toInt < 65536) (z3 : 0 ≤ c3.toInt) (v3 : c3.toInt < 65536) (hx : ¬ (¬ 255 < c0 ∧ ¬ 255 < c1 ∧ ¬ 255 < c2 ∧ ¬ 255 < c3 ∧ True)) : Ct true l Z consts_1 (⟨"java/lang/StringUTF16", "compress", "([CII)[B"⟩ : MethodName) jdk_52_method_16_code 6 (some (.array .byte)) [] ({ frames := 3, cells := 2, slots := 12, locals := 40 } : Room) [] #[(.ref b), (.int (0 : Int32)), (.int (4 : Int32))] h0 (fun r u => ∃ d kd, r = some (.ref d) ∧ Ext h0 u ∧ h0.size ≤ d ∧ Arv Z u d kd .byte (8 : Int32) [(.int (nar .byte (c0 >>> ((0 : Int32) &&& 31)))), (.int (nar .byte (c0 >>> ((8 : Int32) &&& 31)))), (.int (nar .byte (c1 >>> ((0 : Int32) &&& 31)))), (.int (nar .byte (c1 >>> ((8 : Int32) &&& 31)))), (.int (nar .byte (c2 >>> ((0 : Int32) &&& 31)))), (.int (nar .byte (c2 >>> ((8 : Int32) &&& 31)))), (.int (nar .byte (c3 >>> ((0 : Int32) &&& 31)))), (.int (nar .byte (c3 >>> ((8 : Int32) &&& 31))))] (.int 0)) := by
  by_cases u0 : 255 < c0
  · exact rmC3x_4_0 l Z a0 hw hr b kb c0 c1 c2 c3 h0 hE Ab z0 v0 z1 v1 z2 v2 z3 v3  u0
  · skip
    by_cases u1 : 255 < c1
    · exact rmC3x_4_1 l Z a0 hw hr b kb c0 c1 c2 c3 h0 hE Ab z0 v0 z1 v1 z2 v2 z3 v3 u0 u1
    · skip
      by_cases u2 : 255 < c2
      · exact rmC3x_4_2 l Z a0 hw hr b kb c0 c1 c2 c3 h0 hE Ab z0 v0 z1 v1 z2 v2 z3 v3 u0 u1 u2
      · skip
        by_cases u3 : 255 < c3
        · exact rmC3x_4_3 l Z a0 hw hr b kb c0 c1 c2 c3 h0 hE Ab z0 v0 z1 v1 z2 v2 z3 v3 u0 u1 u2 u3
        · exact absurd ⟨u0, u1, u2, u3, trivial⟩ hx
set_option maxRecDepth 65536 in
set_option maxHeartbeats 40000000 in
theorem rmCL_8_4 (l : Launch) (Z : State) (a0 : Array Value) (hw : ∀ d ∈ tables_1, d.before a0 Z = true) (d : Addr) (kd : ClassId) (vs : List Value) (h0 : Heap) (hE : Ext Z.heap h0) (Ad : Arv Z h0 d kd .byte (8 : Int32) vs (.int 0)) :
    Ct true l Z consts_1 (⟨"java/lang/StringUTF16", "coderFromArrayLen", "([BI)B"⟩ : MethodName) jdk_52_method_15_code 2 (some .byte) [] ({ frames := 0, cells := 0, slots := 0, locals := 0 } : Room) [] #[(.ref d), (.int (4 : Int32))] h0 (fun r u => r = some (.int (1 : Int32)) ∧ h0 = u) := by
  refine Ct.intro pn_java_lang_StringUTF16 hE (fun m => ef18_ri m d _) nosf ⟨a0, own_EW hw⟩ ?_
  intro x T w
  obtain ⟨cl, Ar, -, S, M, -, -⟩ := Ad
  refine w.iloadN d18_0 rfl ?_
  refine w.aloadN d18_1 rfl rfl ?_
  refine w.alen (8 : Int32) d18_2 Ar (len_of S M) ?_
  refine w.isub d18_3 ?_
  refine w.bipush (31 : Int32) d18_4 rfl ?_
  refine w.iushr d18_6 ?_
  refine w.i2b d18_7 ?_
  exact w.retN d18_8 rfl (by simp) ⟨rfl, rfl⟩

set_option maxRecDepth 65536 in
set_option maxHeartbeats 40000000 in
theorem rmS4u_4 (l : Launch) (Z : State) (a0 : Array Value) (hw : ∀ d ∈ tables_1, d.before a0 Z = true) (hr : rest_1_c.value a0 Z none Z [] = some true) (a b : Addr) (kb : ClassId) (c0 c1 c2 c3 : Int32) (h0 : Heap) (hE : Ext Z.heap h0) (ge_a : Z.heap.size ≤ a) (E0 : Exa Z h0 a "java/lang/String") (G1 : Fld Z h0 a "java/lang/String" "value" "[B" .null) (G2 : Fld Z h0 a "java/lang/String" "coder" "B" (.int (0 : Int32))) (Ab : Arv Z h0 b kb .char (4 : Int32) [(.int c0), (.int c1), (.int c2), (.int c3)] (.int 0)) (z0 : 0 ≤ c0.toInt) (v0 : c0.toInt < 65536) (z1 : 0 ≤ c1.toInt) (v1 : c1.toInt < 65536) (z2 : 0 ≤ c2.toInt) (v2 : c2.toInt < 65536) (z3 : 0 ≤ c3.toInt) (v3 : c3.toInt < 65536) (hx : ¬ (¬ 255 < c0 ∧ ¬ 255 < c1 ∧ ¬ 255 < c2 ∧ ¬ 255 < c3 ∧ True)) :
    Ct true l Z consts_1 (⟨"java/lang/String", "<init>", "([CIILjava/lang/Void;)V"⟩ : MethodName) jdk_42_method_149_code 6 none [] ({ frames := 4, cells := 2, slots := 12, locals := 57 } : Room) [a] #[(.ref a), (.ref b), (.int (0 : Int32)), (.int (4 : Int32)), .null] h0 (fun r u => r = none ∧ Keep h0 u [a] ∧ ∃ t, StrL Z u a t 1 [nar .byte (c0 >>> ((0 : Int32) &&& 31)), nar .byte (c0 >>> ((8 : Int32) &&& 31)), nar .byte (c1 >>> ((0 : Int32) &&& 31)), nar .byte (c1 >>> ((8 : Int32) &&& 31)), nar .byte (c2 >>> ((0 : Int32) &&& 31)), nar .byte (c2 >>> ((8 : Int32) &&& 31)), nar .byte (c3 >>> ((0 : Int32) &&& 31)), nar .byte (c3 >>> ((8 : Int32) &&& 31))]) := by
  refine Ct.intro pn_java_lang_String hE (fun m => ef4_rriin m a b _ _) (onesf ge_a E0.lt) ⟨a0, own_EW hw⟩ ?_
  intro x T w
  obtain ⟨cz, Scs, hcz⟩ := own_cs hr
  refine w.aloadN d4_0 rfl rfl ?_
  refine w.initO 0 d4_1 (tw hw 23 rfl) (tw hw 24 rfl) (tw hw 25 rfl) rfl (Nat.le_refl _) ⟨by decide, by decide⟩ ?_
  intro T w
  refine w.iloadN d4_4 rfl ?_
  refine w.ifNe d4_5 d4_5t (fun _ => ?_) (fun q => absurd q (by decide))
  refine w.getS d4_27 (tw hw 48 rfl) Scs ?_
  intro T w
  refine w.ifEq d4_30 d4_30t (fun q => absurd q hcz) (fun _ => ?_)
  refine w.aloadN d4_33 rfl rfl ?_
  refine w.iloadN d4_34 rfl ?_
  refine w.iloadN d4_35 rfl ?_
  refine w.callS (argsL := [(.ref b), (.int (0 : Int32)), (.int (4 : Int32))]) (rest := []) 0 d4_36 (tw hw 57 rfl) (tw hw 58 rfl) (tw hw 59 rfl) (tw hw 60 rfl) (by decide) (rmC3U_4 l Z a0 hw hr b kb c0 c1 c2 c3 h0 w.old Ab z0 v0 z1 v1 z2 v2 z3 v3 hx) (lenOf pd_3 rfl) rfl rfl (Nat.le_refl _) ⟨by decide, by decide, by decide, by decide⟩ all0 ?_
  intro T h1 r w _ hQ
  obtain ⟨d, kd, rfl, E1, gd, A1⟩ := hQ
  have ne_a_d : a ≠ d := Nat.ne_of_lt (Nat.lt_of_lt_of_le E0.lt gd)
  have F1 := E0.ext E1
  have F2 := G1.ext E1
  have F3 := G2.ext E1
  show Go x _ Z _ _ _ T 39 #[.val (.ref a), .val (.ref b), .val (.int (0 : Int32)), .val (.int (4 : Int32)), .val .null, .unset] [(.ref d)]
  refine w.astore #[.val (.ref a), .val (.ref b), .val (.int (0 : Int32)), .val (.int (4 : Int32)), .val .null, .val (.ref d)] d4_39 rfl rfl ?_
  refine w.aloadN d4_41 rfl rfl ?_
  refine w.aload d4_42 rfl rfl ?_
  refine w.iloadN d4_44 rfl ?_
  refine w.callS (argsL := [(.ref d), (.int (4 : Int32))]) (rest := [(.ref a)]) 1 d4_45 (tw hw 83 rfl) (tw hw 84 rfl) (tw hw 59 rfl) (tw hw 85 rfl) (by decide) (rmCL_8_4 l Z a0 hw d kd _ h1 w.old A1) (lenOf pd_4 rfl) rfl rfl (Nat.le_refl _) ⟨by decide, by decide, by decide, by decide⟩ all0 ?_
  intro T h2 r w _ hQ
  obtain ⟨rfl, rfl⟩ := hQ
  show Go x _ Z _ _ _ T 48 #[.val (.ref a), .val (.ref b), .val (.int (0 : Int32)), .val (.int (4 : Int32)), .val .null, .val (.ref d)] [(.int (1 : Int32)), (.ref a)]
  refine w.putF d4_48 (tw hw 33 rfl) F3 F1 (Or.inr ⟨(tw hw 29 rfl), rfl, rfl⟩) (tw hw 14 rfl) (ty := .byte) (by decide) rfl rfl (List.mem_of_getElem? (i := 0) rfl) ?_
  intro T h3 w W4
  have F5 := F1.wr W4
  have F6 := F2.other W4 (Or.inr (slot_ne (Or.inr (tw hw 28 rfl)) (Or.inr (tw hw 29 rfl)) (by decide) (t := (.array .byte)) (t' := .byte) (by decide) (by decide)))
  have F7 := F3.same W4
  have F8 := A1.other W4 (Ne.symm ne_a_d)
  refine w.aloadN d4_51 rfl rfl ?_
  refine w.aload d4_52 rfl rfl ?_
  refine w.putF d4_54 (tw hw 32 rfl) F6 F5 (Or.inr ⟨(tw hw 28 rfl), rfl, rfl⟩) (tw hw 14 rfl) (ty := (.array .byte)) (by decide) rfl rfl (List.mem_of_getElem? (i := 0) rfl) ?_
  intro T h4 w W9
  have F10 := F5.wr W9
  have F11 := F6.same W9
  have F12 := F7.other W9 (Or.inr (slot_ne (Or.inr (tw hw 29 rfl)) (Or.inr (tw hw 28 rfl)) (by decide) (t := .byte) (t' := (.array .byte)) (by decide) (by decide)))
  have F13 := F8.other W9 (Ne.symm ne_a_d)
  exact w.retV d4_57 rfl ⟨rfl, (((keep_ext E1).wr W4 (Or.inl (List.mem_singleton.mpr rfl))).wr W9 (Or.inl (List.mem_singleton.mpr rfl))), d, F10, F11, F12, kd, F13, by simp⟩

set_option maxRecDepth 65536 in
set_option maxHeartbeats 40000000 in
theorem rmS1E_4 (l : Launch) (Z : State) (a0 : Array Value) (hw : ∀ d ∈ tables_1, d.before a0 Z = true) (hr : rest_1_c.value a0 Z none Z [] = some true) (a b : Addr) (kb : ClassId) (c0 c1 c2 c3 : Int32) (h0 : Heap) (hE : Ext Z.heap h0) (ge_a : Z.heap.size ≤ a) (E0 : Exa Z h0 a "java/lang/String") (G1 : Fld Z h0 a "java/lang/String" "value" "[B" .null) (G2 : Fld Z h0 a "java/lang/String" "coder" "B" (.int (0 : Int32))) (Ab : Arv Z h0 b kb .char (4 : Int32) [(.int c0), (.int c1), (.int c2), (.int c3)] (.int 0)) (z0 : 0 ≤ c0.toInt) (v0 : c0.toInt < 65536) (z1 : 0 ≤ c1.toInt) (v1 : c1.toInt < 65536) (z2 : 0 ≤ c2.toInt) (v2 : c2.toInt < 65536) (z3 : 0 ≤ c3.toInt) (v3 : c3.toInt < 65536) :
    Ct true l Z consts_1 (⟨"java/lang/String", "<init>", "([C)V"⟩ : MethodName) jdk_42_method_3_code 2 none [] ({ frames := 5, cells := 2, slots := 12, locals := 74 } : Room) [a] #[(.ref a), (.ref b)] h0 (fun r u => r = none ∧ Keep h0 u [a] ∧ ∃ t, ((StrL Z u a t 0 [nar .byte c0, nar .byte c1, nar .byte c2, nar .byte c3] ∧ (¬ 255 < c0 ∧ ¬ 255 < c1 ∧ ¬ 255 < c2 ∧ ¬ 255 < c3 ∧ True)) ∨ StrL Z u a t 1 [nar .byte (c0 >>> ((0 : Int32) &&& 31)), nar .byte (c0 >>> ((8 : Int32) &&& 31)), nar .byte (c1 >>> ((0 : Int32) &&& 31)), nar .byte (c1 >>> ((8 : Int32) &&& 31)), nar .byte (c2 >>> ((0 : Int32) &&& 31)), nar .byte (c2 >>> ((8 : Int32) &&& 31)), nar .byte (c3 >>> ((0 : Int32) &&& 31)), nar .byte (c3 >>> ((8 : Int32) &&& 31))])) := by
  refine Ct.intro pn_java_lang_String hE (fun m => ef3_rr m a b) (onesf ge_a E0.lt) ⟨a0, own_EW hw⟩ ?_
  intro x T w
  obtain ⟨cl, Ar, -, S, M, -, -⟩ := id Ab
  by_cases hx : (¬ 255 < c0 ∧ ¬ 255 < c1 ∧ ¬ 255 < c2 ∧ ¬ 255 < c3 ∧ True)
  · refine w.aloadN d3_0 rfl rfl ?_
    refine w.aloadN d3_1 rfl rfl ?_
    refine w.iconst (0 : Int32) d3_2 rfl ?_
    refine w.aloadN d3_3 rfl rfl ?_
    refine w.alen (4 : Int32) d3_4 Ar (len_of S M) ?_
    refine w.aconstNull d3_5 ?_
    refine w.callI (argsL := [(.ref b), (.int (0 : Int32)), (.int (4 : Int32)), .null]) (rest := []) 0 d3_6 rfl (tw hw 19 rfl) (tw hw 20 rfl) (tw hw 15 rfl) (tw hw 22 rfl) (by decide) (rmS4_4 l Z a0 hw hr a b kb c0 c1 c2 c3 h0 w.old ge_a E0 G1 G2 Ab hx.1 hx.2.1 hx.2.2.1 hx.2.2.2.1) (lenOf pd_0 rfl) rfl rfl (Nat.le_refl _) ⟨by decide, by decide, by decide, by decide⟩ (allS (List.mem_of_getElem? (i := 0) rfl) all0) ?_
    intro T h1 r w _ hQ
    obtain ⟨rfl, K1, t, gt, S1⟩ := hQ
    exact w.retV d3_9 rfl ⟨rfl, K1, t, Or.inl ⟨S1, hx⟩⟩
  · refine w.aloadN d3_0 rfl rfl ?_
    refine w.aloadN d3_1 rfl rfl ?_
    refine w.iconst (0 : Int32) d3_2 rfl ?_
    refine w.aloadN d3_3 rfl rfl ?_
    refine w.alen (4 : Int32) d3_4 Ar (len_of S M) ?_
    refine w.aconstNull d3_5 ?_
    refine w.callI (argsL := [(.ref b), (.int (0 : Int32)), (.int (4 : Int32)), .null]) (rest := []) 0 d3_6 rfl (tw hw 19 rfl) (tw hw 20 rfl) (tw hw 15 rfl) (tw hw 22 rfl) (by decide) (rmS4u_4 l Z a0 hw hr a b kb c0 c1 c2 c3 h0 w.old ge_a E0 G1 G2 Ab z0 v0 z1 v1 z2 v2 z3 v3 hx) (lenOf pd_0 rfl) rfl rfl (Nat.le_refl _) ⟨by decide, by decide, by decide, by decide⟩ (allS (List.mem_of_getElem? (i := 0) rfl) all0) ?_
    intro T h2 r w _ hQ
    obtain ⟨rfl, K1, t, S1⟩ := hQ
    exact w.retV d3_9 rfl ⟨rfl, K1, t, Or.inr S1⟩

theorem ef8_r (m : MethodId) (x0 : Addr) : entryFrame m #[(.ref x0)] 1 = mkF m 0 #[.val (.ref x0)] [] := by first | (simp [entryFrame, mkF, argsToLocals, Value.category]; done) | rfl
set_option maxRecDepth 65536 in
set_option maxHeartbeats 40000000 in
theorem rmCo0 (l : Launch) (Z : State) (a0 : Array Value) (hw : ∀ d ∈ tables_1, d.before a0 Z = true) (hr : rest_1_c.value a0 Z none Z [] = some true) (a : Addr) (h0 : Heap) (hE : Ext Z.heap h0) (G1 : Fld Z h0 a "java/lang/String" "coder" "B" (.int (0 : Int32))) :
    Ct true l Z consts_1 (⟨"java/lang/String", "coder", "()B"⟩ : MethodName) jdk_42_method_152_code 1 (some .byte) [] ({ frames := 0, cells := 0, slots := 0, locals := 0 } : Room) [] #[(.ref a)] h0 (fun r u => r = some (.int (0 : Int32)) ∧ h0 = u) := by
  refine Ct.intro pn_java_lang_String hE (fun m => ef8_r m a) nosf ⟨a0, own_EW hw⟩ ?_
  intro x T w
  obtain ⟨cz, Scs, hcz⟩ := own_cs hr
  refine w.getS d8_0 (tw hw 48 rfl) Scs ?_
  intro T w
  refine w.ifEq d8_3 d8_3t (fun q => absurd q hcz) (fun _ => ?_)
  refine w.aloadN d8_6 rfl rfl ?_
  refine w.getF d8_7 (tw hw 33 rfl) G1 ?_
  intro T w
  refine w.goto d8_10 d8_10t ?_
  exact w.retN d8_14 rfl (by simp) ⟨rfl, rfl⟩

theorem ef7_r (m : MethodId) (x0 : Addr) : entryFrame m #[(.ref x0)] 1 = mkF m 0 #[.val (.ref x0)] [] := by first | (simp [entryFrame, mkF, argsToLocals, Value.category]; done) | rfl
set_option maxRecDepth 65536 in
set_option maxHeartbeats 40000000 in
theorem rmLn_0 (l : Launch) (Z : State) (a0 : Array Value) (hw : ∀ d ∈ tables_1, d.before a0 Z = true) (hr : rest_1_c.value a0 Z none Z [] = some true) (a t : Addr)  (h0 : Heap) (hE : Ext Z.heap h0) (Sa : StrL Z h0 a t 0 []) :
    Ct true l Z consts_1 (⟨"java/lang/String", "length", "()I"⟩ : MethodName) jdk_42_method_54_code 1 (some .int) [] ({ frames := 1, cells := 0, slots := 0, locals := 14 } : Room) [] #[(.ref a)] h0 (fun r u => r = some (.int (0 : Int32)) ∧ h0 = u) := by
  refine Ct.intro pn_java_lang_String hE (fun m => ef7_r m a) nosf ⟨a0, own_EW hw⟩ ?_
  intro x T w
  obtain ⟨Ea, Va, Ca, ka, Aa, -⟩ := id Sa
  obtain ⟨cla, Ara, -, Sa, Ma, Ha, -⟩ := Aa
  refine w.aloadN d7_0 rfl rfl ?_
  refine w.getF d7_1 (tw hw 32 rfl) Va ?_
  intro T w
  refine w.alen (0 : Int32) d7_4 Ara (len_of Sa Ma) ?_
  refine w.aloadN d7_5 rfl rfl ?_
  refine w.callV (argsL := []) (rest := [(.int (0 : Int32))]) 1 d7_6 (tw hw 43 rfl) (tw hw 44 rfl) (tw hw 46 rfl) (tw hw 45 rfl) (tw hw 15 rfl) (tw hw 47 rfl) (by decide) Ea (rmCo0 l Z a0 hw hr a h0 w.old Ca) (lenOf pd_9 rfl) rfl rfl (Nat.le_refl _) ⟨by decide, by decide, by decide, by decide⟩ all0 ?_
  intro T h1 r w _ hQ
  obtain ⟨rfl, rfl⟩ := hQ
  show Go x _ Z _ _ _ T 9 #[.val (.ref a)] [(.int (0 : Int32)), (.int (0 : Int32))]
  refine w.ishr d7_9 ?_
  exact w.retI d7_10 rfl ⟨rfl, rfl⟩

set_option maxRecDepth 65536 in
set_option maxHeartbeats 40000000 in
theorem rmCo1 (l : Launch) (Z : State) (a0 : Array Value) (hw : ∀ d ∈ tables_1, d.before a0 Z = true) (hr : rest_1_c.value a0 Z none Z [] = some true) (a : Addr) (h0 : Heap) (hE : Ext Z.heap h0) (G1 : Fld Z h0 a "java/lang/String" "coder" "B" (.int (1 : Int32))) :
    Ct true l Z consts_1 (⟨"java/lang/String", "coder", "()B"⟩ : MethodName) jdk_42_method_152_code 1 (some .byte) [] ({ frames := 0, cells := 0, slots := 0, locals := 0 } : Room) [] #[(.ref a)] h0 (fun r u => r = some (.int (1 : Int32)) ∧ h0 = u) := by
  refine Ct.intro pn_java_lang_String hE (fun m => ef8_r m a) nosf ⟨a0, own_EW hw⟩ ?_
  intro x T w
  obtain ⟨cz, Scs, hcz⟩ := own_cs hr
  refine w.getS d8_0 (tw hw 48 rfl) Scs ?_
  intro T w
  refine w.ifEq d8_3 d8_3t (fun q => absurd q hcz) (fun _ => ?_)
  refine w.aloadN d8_6 rfl rfl ?_
  refine w.getF d8_7 (tw hw 33 rfl) G1 ?_
  intro T w
  refine w.goto d8_10 d8_10t ?_
  exact w.retN d8_14 rfl (by simp) ⟨rfl, rfl⟩

set_option maxRecDepth 65536 in
set_option maxHeartbeats 40000000 in
theorem rmLnE_1 (l : Launch) (Z : State) (a0 : Array Value) (hw : ∀ d ∈ tables_1, d.before a0 Z = true) (hr : rest_1_c.value a0 Z none Z [] = some true) (a t : Addr) (c0 : Int32) (h0 : Heap) (hE : Ext Z.heap h0) (Sa : ((StrL Z h0 a t 0 [nar .byte c0] ∧ (¬ 255 < c0 ∧ True)) ∨ StrL Z h0 a t 1 [nar .byte (c0 >>> ((0 : Int32) &&& 31)), nar .byte (c0 >>> ((8 : Int32) &&& 31))])) :
    Ct true l Z consts_1 (⟨"java/lang/String", "length", "()I"⟩ : MethodName) jdk_42_method_54_code 1 (some .int) [] ({ frames := 1, cells := 0, slots := 0, locals := 14 } : Room) [] #[(.ref a)] h0 (fun r u => r = some (.int (1 : Int32)) ∧ h0 = u) := by
  refine Ct.intro pn_java_lang_String hE (fun m => ef7_r m a) nosf ⟨a0, own_EW hw⟩ ?_
  intro x T w
  rcases Sa with ⟨Sa, -⟩ | Sa
  · obtain ⟨Ea, Va, Ca, ka, Aa, -⟩ := id Sa
    obtain ⟨cla, Ara, -, Sa, Ma, Ha, -⟩ := Aa
    refine w.aloadN d7_0 rfl rfl ?_
    refine w.getF d7_1 (tw hw 32 rfl) Va ?_
    intro T w
    refine w.alen (1 : Int32) d7_4 Ara (len_of Sa Ma) ?_
    refine w.aloadN d7_5 rfl rfl ?_
    refine w.callV (argsL := []) (rest := [(.int (1 : Int32))]) 1 d7_6 (tw hw 43 rfl) (tw hw 44 rfl) (tw hw 46 rfl) (tw hw 45 rfl) (tw hw 15 rfl) (tw hw 47 rfl) (by decide) Ea (rmCo0 l Z a0 hw hr a h0 w.old Ca) (lenOf pd_9 rfl) rfl rfl (Nat.le_refl _) ⟨by decide, by decide, by decide, by decide⟩ all0 ?_
    intro T h1 r w _ hQ
    obtain ⟨rfl, rfl⟩ := hQ
    show Go x _ Z _ _ _ T 9 #[.val (.ref a)] [(.int (0 : Int32)), (.int (1 : Int32))]
    refine w.ishr d7_9 ?_
    exact w.retI d7_10 rfl ⟨rfl, rfl⟩
  · obtain ⟨Ea, Va, Ca, ka, Aa, -⟩ := id Sa
    obtain ⟨cla, Ara, -, Sa, Ma, Ha, -⟩ := Aa
    refine w.aloadN d7_0 rfl rfl ?_
    refine w.getF d7_1 (tw hw 32 rfl) Va ?_
    intro T w
    refine w.alen (2 : Int32) d7_4 Ara (len_of Sa Ma) ?_
    refine w.aloadN d7_5 rfl rfl ?_
    refine w.callV (argsL := []) (rest := [(.int (2 : Int32))]) 1 d7_6 (tw hw 43 rfl) (tw hw 44 rfl) (tw hw 46 rfl) (tw hw 45 rfl) (tw hw 15 rfl) (tw hw 47 rfl) (by decide) Ea (rmCo1 l Z a0 hw hr a h0 w.old Ca) (lenOf pd_9 rfl) rfl rfl (Nat.le_refl _) ⟨by decide, by decide, by decide, by decide⟩ all0 ?_
    intro T h2 r w _ hQ
    obtain ⟨rfl, rfl⟩ := hQ
    show Go x _ Z _ _ _ T 9 #[.val (.ref a)] [(.int (1 : Int32)), (.int (2 : Int32))]
    refine w.ishr d7_9 ?_
    exact w.retI d7_10 rfl ⟨rfl, rfl⟩

set_option maxRecDepth 65536 in
set_option maxHeartbeats 40000000 in
theorem rmLnE_2 (l : Launch) (Z : State) (a0 : Array Value) (hw : ∀ d ∈ tables_1, d.before a0 Z = true) (hr : rest_1_c.value a0 Z none Z [] = some true) (a t : Addr) (c0 c1 : Int32) (h0 : Heap) (hE : Ext Z.heap h0) (Sa : ((StrL Z h0 a t 0 [nar .byte c0, nar .byte c1] ∧ (¬ 255 < c0 ∧ ¬ 255 < c1 ∧ True)) ∨ StrL Z h0 a t 1 [nar .byte (c0 >>> ((0 : Int32) &&& 31)), nar .byte (c0 >>> ((8 : Int32) &&& 31)), nar .byte (c1 >>> ((0 : Int32) &&& 31)), nar .byte (c1 >>> ((8 : Int32) &&& 31))])) :
    Ct true l Z consts_1 (⟨"java/lang/String", "length", "()I"⟩ : MethodName) jdk_42_method_54_code 1 (some .int) [] ({ frames := 1, cells := 0, slots := 0, locals := 14 } : Room) [] #[(.ref a)] h0 (fun r u => r = some (.int (2 : Int32)) ∧ h0 = u) := by
  refine Ct.intro pn_java_lang_String hE (fun m => ef7_r m a) nosf ⟨a0, own_EW hw⟩ ?_
  intro x T w
  rcases Sa with ⟨Sa, -⟩ | Sa
  · obtain ⟨Ea, Va, Ca, ka, Aa, -⟩ := id Sa
    obtain ⟨cla, Ara, -, Sa, Ma, Ha, -⟩ := Aa
    refine w.aloadN d7_0 rfl rfl ?_
    refine w.getF d7_1 (tw hw 32 rfl) Va ?_
    intro T w
    refine w.alen (2 : Int32) d7_4 Ara (len_of Sa Ma) ?_
    refine w.aloadN d7_5 rfl rfl ?_
    refine w.callV (argsL := []) (rest := [(.int (2 : Int32))]) 1 d7_6 (tw hw 43 rfl) (tw hw 44 rfl) (tw hw 46 rfl) (tw hw 45 rfl) (tw hw 15 rfl) (tw hw 47 rfl) (by decide) Ea (rmCo0 l Z a0 hw hr a h0 w.old Ca) (lenOf pd_9 rfl) rfl rfl (Nat.le_refl _) ⟨by decide, by decide, by decide, by decide⟩ all0 ?_
    intro T h1 r w _ hQ
    obtain ⟨rfl, rfl⟩ := hQ
    show Go x _ Z _ _ _ T 9 #[.val (.ref a)] [(.int (0 : Int32)), (.int (2 : Int32))]
    refine w.ishr d7_9 ?_
    exact w.retI d7_10 rfl ⟨rfl, rfl⟩
  · obtain ⟨Ea, Va, Ca, ka, Aa, -⟩ := id Sa
    obtain ⟨cla, Ara, -, Sa, Ma, Ha, -⟩ := Aa
    refine w.aloadN d7_0 rfl rfl ?_
    refine w.getF d7_1 (tw hw 32 rfl) Va ?_
    intro T w
    refine w.alen (4 : Int32) d7_4 Ara (len_of Sa Ma) ?_
    refine w.aloadN d7_5 rfl rfl ?_
    refine w.callV (argsL := []) (rest := [(.int (4 : Int32))]) 1 d7_6 (tw hw 43 rfl) (tw hw 44 rfl) (tw hw 46 rfl) (tw hw 45 rfl) (tw hw 15 rfl) (tw hw 47 rfl) (by decide) Ea (rmCo1 l Z a0 hw hr a h0 w.old Ca) (lenOf pd_9 rfl) rfl rfl (Nat.le_refl _) ⟨by decide, by decide, by decide, by decide⟩ all0 ?_
    intro T h2 r w _ hQ
    obtain ⟨rfl, rfl⟩ := hQ
    show Go x _ Z _ _ _ T 9 #[.val (.ref a)] [(.int (1 : Int32)), (.int (4 : Int32))]
    refine w.ishr d7_9 ?_
    exact w.retI d7_10 rfl ⟨rfl, rfl⟩

set_option maxRecDepth 65536 in
set_option maxHeartbeats 40000000 in
theorem rmLnE_3 (l : Launch) (Z : State) (a0 : Array Value) (hw : ∀ d ∈ tables_1, d.before a0 Z = true) (hr : rest_1_c.value a0 Z none Z [] = some true) (a t : Addr) (c0 c1 c2 : Int32) (h0 : Heap) (hE : Ext Z.heap h0) (Sa : ((StrL Z h0 a t 0 [nar .byte c0, nar .byte c1, nar .byte c2] ∧ (¬ 255 < c0 ∧ ¬ 255 < c1 ∧ ¬ 255 < c2 ∧ True)) ∨ StrL Z h0 a t 1 [nar .byte (c0 >>> ((0 : Int32) &&& 31)), nar .byte (c0 >>> ((8 : Int32) &&& 31)), nar .byte (c1 >>> ((0 : Int32) &&& 31)), nar .byte (c1 >>> ((8 : Int32) &&& 31)), nar .byte (c2 >>> ((0 : Int32) &&& 31)), nar .byte (c2 >>> ((8 : Int32) &&& 31))])) :
    Ct true l Z consts_1 (⟨"java/lang/String", "length", "()I"⟩ : MethodName) jdk_42_method_54_code 1 (some .int) [] ({ frames := 1, cells := 0, slots := 0, locals := 14 } : Room) [] #[(.ref a)] h0 (fun r u => r = some (.int (3 : Int32)) ∧ h0 = u) := by
  refine Ct.intro pn_java_lang_String hE (fun m => ef7_r m a) nosf ⟨a0, own_EW hw⟩ ?_
  intro x T w
  rcases Sa with ⟨Sa, -⟩ | Sa
  · obtain ⟨Ea, Va, Ca, ka, Aa, -⟩ := id Sa
    obtain ⟨cla, Ara, -, Sa, Ma, Ha, -⟩ := Aa
    refine w.aloadN d7_0 rfl rfl ?_
    refine w.getF d7_1 (tw hw 32 rfl) Va ?_
    intro T w
    refine w.alen (3 : Int32) d7_4 Ara (len_of Sa Ma) ?_
    refine w.aloadN d7_5 rfl rfl ?_
    refine w.callV (argsL := []) (rest := [(.int (3 : Int32))]) 1 d7_6 (tw hw 43 rfl) (tw hw 44 rfl) (tw hw 46 rfl) (tw hw 45 rfl) (tw hw 15 rfl) (tw hw 47 rfl) (by decide) Ea (rmCo0 l Z a0 hw hr a h0 w.old Ca) (lenOf pd_9 rfl) rfl rfl (Nat.le_refl _) ⟨by decide, by decide, by decide, by decide⟩ all0 ?_
    intro T h1 r w _ hQ
    obtain ⟨rfl, rfl⟩ := hQ
    show Go x _ Z _ _ _ T 9 #[.val (.ref a)] [(.int (0 : Int32)), (.int (3 : Int32))]
    refine w.ishr d7_9 ?_
    exact w.retI d7_10 rfl ⟨rfl, rfl⟩
  · obtain ⟨Ea, Va, Ca, ka, Aa, -⟩ := id Sa
    obtain ⟨cla, Ara, -, Sa, Ma, Ha, -⟩ := Aa
    refine w.aloadN d7_0 rfl rfl ?_
    refine w.getF d7_1 (tw hw 32 rfl) Va ?_
    intro T w
    refine w.alen (6 : Int32) d7_4 Ara (len_of Sa Ma) ?_
    refine w.aloadN d7_5 rfl rfl ?_
    refine w.callV (argsL := []) (rest := [(.int (6 : Int32))]) 1 d7_6 (tw hw 43 rfl) (tw hw 44 rfl) (tw hw 46 rfl) (tw hw 45 rfl) (tw hw 15 rfl) (tw hw 47 rfl) (by decide) Ea (rmCo1 l Z a0 hw hr a h0 w.old Ca) (lenOf pd_9 rfl) rfl rfl (Nat.le_refl _) ⟨by decide, by decide, by decide, by decide⟩ all0 ?_
    intro T h2 r w _ hQ
    obtain ⟨rfl, rfl⟩ := hQ
    show Go x _ Z _ _ _ T 9 #[.val (.ref a)] [(.int (1 : Int32)), (.int (6 : Int32))]
    refine w.ishr d7_9 ?_
    exact w.retI d7_10 rfl ⟨rfl, rfl⟩

set_option maxRecDepth 65536 in
set_option maxHeartbeats 40000000 in
theorem rmLnE_4 (l : Launch) (Z : State) (a0 : Array Value) (hw : ∀ d ∈ tables_1, d.before a0 Z = true) (hr : rest_1_c.value a0 Z none Z [] = some true) (a t : Addr) (c0 c1 c2 c3 : Int32) (h0 : Heap) (hE : Ext Z.heap h0) (Sa : ((StrL Z h0 a t 0 [nar .byte c0, nar .byte c1, nar .byte c2, nar .byte c3] ∧ (¬ 255 < c0 ∧ ¬ 255 < c1 ∧ ¬ 255 < c2 ∧ ¬ 255 < c3 ∧ True)) ∨ StrL Z h0 a t 1 [nar .byte (c0 >>> ((0 : Int32) &&& 31)), nar .byte (c0 >>> ((8 : Int32) &&& 31)), nar .byte (c1 >>> ((0 : Int32) &&& 31)), nar .byte (c1 >>> ((8 : Int32) &&& 31)), nar .byte (c2 >>> ((0 : Int32) &&& 31)), nar .byte (c2 >>> ((8 : Int32) &&& 31)), nar .byte (c3 >>> ((0 : Int32) &&& 31)), nar .byte (c3 >>> ((8 : Int32) &&& 31))])) :
    Ct true l Z consts_1 (⟨"java/lang/String", "length", "()I"⟩ : MethodName) jdk_42_method_54_code 1 (some .int) [] ({ frames := 1, cells := 0, slots := 0, locals := 14 } : Room) [] #[(.ref a)] h0 (fun r u => r = some (.int (4 : Int32)) ∧ h0 = u) := by
  refine Ct.intro pn_java_lang_String hE (fun m => ef7_r m a) nosf ⟨a0, own_EW hw⟩ ?_
  intro x T w
  rcases Sa with ⟨Sa, -⟩ | Sa
  · obtain ⟨Ea, Va, Ca, ka, Aa, -⟩ := id Sa
    obtain ⟨cla, Ara, -, Sa, Ma, Ha, -⟩ := Aa
    refine w.aloadN d7_0 rfl rfl ?_
    refine w.getF d7_1 (tw hw 32 rfl) Va ?_
    intro T w
    refine w.alen (4 : Int32) d7_4 Ara (len_of Sa Ma) ?_
    refine w.aloadN d7_5 rfl rfl ?_
    refine w.callV (argsL := []) (rest := [(.int (4 : Int32))]) 1 d7_6 (tw hw 43 rfl) (tw hw 44 rfl) (tw hw 46 rfl) (tw hw 45 rfl) (tw hw 15 rfl) (tw hw 47 rfl) (by decide) Ea (rmCo0 l Z a0 hw hr a h0 w.old Ca) (lenOf pd_9 rfl) rfl rfl (Nat.le_refl _) ⟨by decide, by decide, by decide, by decide⟩ all0 ?_
    intro T h1 r w _ hQ
    obtain ⟨rfl, rfl⟩ := hQ
    show Go x _ Z _ _ _ T 9 #[.val (.ref a)] [(.int (0 : Int32)), (.int (4 : Int32))]
    refine w.ishr d7_9 ?_
    exact w.retI d7_10 rfl ⟨rfl, rfl⟩
  · obtain ⟨Ea, Va, Ca, ka, Aa, -⟩ := id Sa
    obtain ⟨cla, Ara, -, Sa, Ma, Ha, -⟩ := Aa
    refine w.aloadN d7_0 rfl rfl ?_
    refine w.getF d7_1 (tw hw 32 rfl) Va ?_
    intro T w
    refine w.alen (8 : Int32) d7_4 Ara (len_of Sa Ma) ?_
    refine w.aloadN d7_5 rfl rfl ?_
    refine w.callV (argsL := []) (rest := [(.int (8 : Int32))]) 1 d7_6 (tw hw 43 rfl) (tw hw 44 rfl) (tw hw 46 rfl) (tw hw 45 rfl) (tw hw 15 rfl) (tw hw 47 rfl) (by decide) Ea (rmCo1 l Z a0 hw hr a h0 w.old Ca) (lenOf pd_9 rfl) rfl rfl (Nat.le_refl _) ⟨by decide, by decide, by decide, by decide⟩ all0 ?_
    intro T h2 r w _ hQ
    obtain ⟨rfl, rfl⟩ := hQ
    show Go x _ Z _ _ _ T 9 #[.val (.ref a)] [(.int (1 : Int32)), (.int (8 : Int32))]
    refine w.ishr d7_9 ?_
    exact w.retI d7_10 rfl ⟨rfl, rfl⟩

theorem own_si {Z : State} {a0 : Array Value} (hr : rest_1_c.value a0 Z none Z [] = some true) : ∃ v : Value, Sta Z Z.heap "jdk/internal/util/Preconditions" "SIOOBE_FORMATTER" "Ljava/util/function/BiFunction;" v ∧ v.isRef = true := by
  obtain ⟨v, ev, hv⟩ := isR_v (nw hr 8 rfl)
  exact ⟨v, Sta.start ev (Or.inl (Cond.before_iff.mpr (nw hr 7 rfl))), hv⟩
theorem efPC (m : MethodId) (i n : Int32) (v : Value) (hv : v.isRef = true) : entryFrame m #[.int i, .int n, v] 3 = mkF m 0 #[.val (.int i), .val (.int n), .val v] [] := by simp [entryFrame, mkF, argsToLocals, show ∀ z : Addr, (Value.ref z).category = 1 from fun _ => rfl, show ∀ z : Int32, (Value.int z).category = 1 from fun _ => rfl, XT.cat1 hv]
set_option maxRecDepth 65536 in
set_option maxHeartbeats 40000000 in
theorem rmPC (l : Launch) (Z : State) (a0 : Array Value) (hw : ∀ d ∈ tables_1, d.before a0 Z = true) (i n : Int32) (fm : Value) (hf : fm.isRef = true) (h1 : ¬ i < 0) (h2 : i < n) (h0 : Heap) (hE : Ext Z.heap h0) :
    Ct true l Z consts_1 (⟨"jdk/internal/util/Preconditions", "checkIndex", "(IILjava/util/function/BiFunction;)I"⟩ : MethodName) jdk_41_method_11_code 3 (some .int) [] ({ frames := 0, cells := 0, slots := 0, locals := 0 } : Room) [] #[(.int i), (.int n), fm] h0 (fun r u => r = some (.int i) ∧ h0 = u) := by
  refine Ct.intro pn_jdk_internal_util_Preconditions hE (fun m => efPC m i n fm hf) nosf ⟨a0, own_EW hw⟩ ?_
  intro x T w
  refine w.iloadN d22_0 rfl ?_
  refine w.ifLt d22_1 d22_1t (fun q => absurd q h1) (fun _ => ?_)
  refine w.iloadN d22_4 rfl ?_
  refine w.iloadN d22_5 rfl ?_
  refine w.icmpLt d22_6 d22_6t (fun _ => ?_) (fun q => absurd h2 q)
  refine w.iloadN d22_16 rfl ?_
  exact w.retI d22_17 rfl ⟨rfl, rfl⟩

theorem ef21_ii (m : MethodId) (x0 : Int32) (x1 : Int32) : entryFrame m #[(.int x0), (.int x1)] 2 = mkF m 0 #[.val (.int x0), .val (.int x1)] [] := by first | (simp [entryFrame, mkF, argsToLocals, Value.category]; done) | rfl
set_option maxRecDepth 65536 in
set_option maxHeartbeats 40000000 in
theorem rmCI (l : Launch) (Z : State) (a0 : Array Value) (hw : ∀ d ∈ tables_1, d.before a0 Z = true) (hr : rest_1_c.value a0 Z none Z [] = some true) (i n : Int32) (h1 : ¬ i < 0) (h2 : i < n) (h0 : Heap) (hE : Ext Z.heap h0) :
    Ct true l Z consts_1 (⟨"java/lang/String", "checkIndex", "(II)V"⟩ : MethodName) jdk_42_method_155_code 2 none [] ({ frames := 1, cells := 0, slots := 0, locals := 14 } : Room) [] #[(.int i), (.int n)] h0 (fun r u => r = none ∧ h0 = u) := by
  refine Ct.intro pn_java_lang_String hE (fun m => ef21_ii m i n) nosf ⟨a0, own_EW hw⟩ ?_
  intro x T w
  obtain ⟨fm, Sf, hf⟩ := own_si hr
  refine w.iloadN d21_0 rfl ?_
  refine w.iloadN d21_1 rfl ?_
  refine w.getS d21_2 (tw hw 99 rfl) Sf ?_
  intro T w
  refine w.callS (argsL := [(.int i), (.int n), fm]) (rest := []) 0 d21_5 (tw hw 101 rfl) (tw hw 102 rfl) (tw hw 100 rfl) (tw hw 103 rfl) (by decide) (rmPC l Z a0 hw i n fm hf h1 h2 h0 w.old) (lenOf pd_10 rfl) rfl rfl (Nat.le_refl _) ⟨by decide, by decide, by decide, by decide⟩ all0 ?_
  intro T h1 r w _ hQ
  obtain ⟨rfl, rfl⟩ := hQ
  show Go x _ Z _ _ _ T 8 #[.val (.int i), .val (.int n)] [(.int i)]
  refine w.pop d21_8 rfl ?_
  exact w.retV d21_9 rfl ⟨rfl, rfl⟩

theorem ef20_r (m : MethodId) (x0 : Addr) : entryFrame m #[(.ref x0)] 1 = mkF m 0 #[.val (.ref x0)] [] := by first | (simp [entryFrame, mkF, argsToLocals, Value.category]; done) | rfl
set_option maxRecDepth 65536 in
set_option maxHeartbeats 40000000 in
theorem rmIL0 (l : Launch) (Z : State) (a0 : Array Value) (hw : ∀ d ∈ tables_1, d.before a0 Z = true) (hr : rest_1_c.value a0 Z none Z [] = some true) (a : Addr) (h0 : Heap) (hE : Ext Z.heap h0) (G1 : Fld Z h0 a "java/lang/String" "coder" "B" (.int (0 : Int32))) :
    Ct true l Z consts_1 (⟨"java/lang/String", "isLatin1", "()Z"⟩ : MethodName) jdk_42_method_154_code 1 (some .boolean) [] ({ frames := 0, cells := 0, slots := 0, locals := 0 } : Room) [] #[(.ref a)] h0 (fun r u => r = some (.int (1 : Int32)) ∧ h0 = u) := by
  refine Ct.intro pn_java_lang_String hE (fun m => ef20_r m a) nosf ⟨a0, own_EW hw⟩ ?_
  intro x T w
  obtain ⟨cz, Scs, hcz⟩ := own_cs hr
  refine w.getS d20_0 (tw hw 48 rfl) Scs ?_
  intro T w
  refine w.ifEq d20_3 d20_3t (fun q => absurd q hcz) (fun _ => ?_)
  refine w.aloadN d20_6 rfl rfl ?_
  refine w.getF d20_7 (tw hw 33 rfl) G1 ?_
  intro T w
  refine w.ifNe d20_10 d20_10t (fun q => absurd (by decide) q) (fun _ => ?_)
  refine w.iconst (1 : Int32) d20_13 rfl ?_
  refine w.goto d20_14 d20_14t ?_
  exact w.retN d20_18 rfl (by simp) ⟨rfl, rfl⟩

set_option maxRecDepth 65536 in
set_option maxHeartbeats 40000000 in
theorem rmIL1 (l : Launch) (Z : State) (a0 : Array Value) (hw : ∀ d ∈ tables_1, d.before a0 Z = true) (hr : rest_1_c.value a0 Z none Z [] = some true) (a : Addr) (h0 : Heap) (hE : Ext Z.heap h0) (G1 : Fld Z h0 a "java/lang/String" "coder" "B" (.int (1 : Int32))) :
    Ct true l Z consts_1 (⟨"java/lang/String", "isLatin1", "()Z"⟩ : MethodName) jdk_42_method_154_code 1 (some .boolean) [] ({ frames := 0, cells := 0, slots := 0, locals := 0 } : Room) [] #[(.ref a)] h0 (fun r u => r = some (.int (0 : Int32)) ∧ h0 = u) := by
  refine Ct.intro pn_java_lang_String hE (fun m => ef20_r m a) nosf ⟨a0, own_EW hw⟩ ?_
  intro x T w
  obtain ⟨cz, Scs, hcz⟩ := own_cs hr
  refine w.getS d20_0 (tw hw 48 rfl) Scs ?_
  intro T w
  refine w.ifEq d20_3 d20_3t (fun q => absurd q hcz) (fun _ => ?_)
  refine w.aloadN d20_6 rfl rfl ?_
  refine w.getF d20_7 (tw hw 33 rfl) G1 ?_
  intro T w
  refine w.ifNe d20_10 d20_10t (fun _ => ?_) (fun q => absurd q (by decide))
  refine w.iconst (0 : Int32) d20_17 rfl ?_
  exact w.retN d20_18 rfl (by simp) ⟨rfl, rfl⟩

theorem d1_0 : Dc method_2_code 0 (.iload_n 0) 1 1 := ⟨by decide +kernel, rfl⟩
theorem d1_1 : Dc method_2_code 1 (.iconst 3) 1 2 := ⟨by decide +kernel, rfl⟩
theorem d1_2 : Dc method_2_code 2 .iand 1 3 := ⟨by decide +kernel, rfl⟩
theorem d1_3 : Dc method_2_code 3 (.istore_n 1) 1 4 := ⟨by decide +kernel, rfl⟩
theorem d1_4 : Dc method_2_code 4 (.iload_n 0) 1 5 := ⟨by decide +kernel, rfl⟩
theorem d1_5 : Dc method_2_code 5 (.iconst 2) 1 6 := ⟨by decide +kernel, rfl⟩
theorem d1_6 : Dc method_2_code 6 .iushr 1 7 := ⟨by decide +kernel, rfl⟩
theorem d1_7 : Dc method_2_code 7 (.istore_n 2) 1 8 := ⟨by decide +kernel, rfl⟩
theorem d1_8 : Dc method_2_code 8 (.iload_n 1) 1 9 := ⟨by decide +kernel, rfl⟩
theorem d1_9 : Dc method_2_code 9 (.ifCond .ne 28) 3 12 := ⟨by decide +kernel, rfl⟩
theorem d1_9t : Tg 9 (28) 37 := ⟨by decide, by decide⟩
theorem d1_12 : Dc method_2_code 12 (.iload_n 2) 1 13 := ⟨by decide +kernel, rfl⟩
theorem d1_13 : Dc method_2_code 13 (.ldc 7) 2 15 := ⟨by decide +kernel, rfl⟩
theorem d1_15 : Dc method_2_code 15 .irem 1 16 := ⟨by decide +kernel, rfl⟩
theorem d1_16 : Dc method_2_code 16 (.istore_n 3) 1 17 := ⟨by decide +kernel, rfl⟩
theorem d1_17 : Dc method_2_code 17 (.iload_n 3) 1 18 := ⟨by decide +kernel, rfl⟩
theorem d1_18 : Dc method_2_code 18 (.ldc 8) 2 20 := ⟨by decide +kernel, rfl⟩
theorem d1_20 : Dc method_2_code 20 (.if_icmp .lt 15) 3 23 := ⟨by decide +kernel, rfl⟩
theorem d1_20t : Tg 20 (15) 35 := ⟨by decide, by decide⟩
theorem d1_23 : Dc method_2_code 23 (.iload_n 3) 1 24 := ⟨by decide +kernel, rfl⟩
theorem d1_24 : Dc method_2_code 24 (.ldc 9) 2 26 := ⟨by decide +kernel, rfl⟩
theorem d1_26 : Dc method_2_code 26 (.if_icmp .gt 9) 3 29 := ⟨by decide +kernel, rfl⟩
theorem d1_26t : Tg 26 (9) 35 := ⟨by decide, by decide⟩
theorem d1_29 : Dc method_2_code 29 (.iload_n 3) 1 30 := ⟨by decide +kernel, rfl⟩
theorem d1_30 : Dc method_2_code 30 (.sipush 2048) 3 33 := ⟨by decide +kernel, rfl⟩
theorem d1_33 : Dc method_2_code 33 .isub 1 34 := ⟨by decide +kernel, rfl⟩
theorem d1_34 : Dc method_2_code 34 (.istore_n 3) 1 35 := ⟨by decide +kernel, rfl⟩
theorem d1_35 : Dc method_2_code 35 (.iload_n 3) 1 36 := ⟨by decide +kernel, rfl⟩
theorem d1_36 : Dc method_2_code 36 .ireturn 1 37 := ⟨by decide +kernel, rfl⟩
theorem d1_37 : Dc method_2_code 37 (.iload_n 1) 1 38 := ⟨by decide +kernel, rfl⟩
theorem d1_38 : Dc method_2_code 38 (.iconst 1) 1 39 := ⟨by decide +kernel, rfl⟩
theorem d1_39 : Dc method_2_code 39 (.if_icmp .ne 12) 3 42 := ⟨by decide +kernel, rfl⟩
theorem d1_39t : Tg 39 (12) 51 := ⟨by decide, by decide⟩
theorem d1_42 : Dc method_2_code 42 (.ldc 10) 2 44 := ⟨by decide +kernel, rfl⟩
theorem d1_44 : Dc method_2_code 44 (.iload_n 2) 1 45 := ⟨by decide +kernel, rfl⟩
theorem d1_45 : Dc method_2_code 45 (.sipush 8191) 3 48 := ⟨by decide +kernel, rfl⟩
theorem d1_48 : Dc method_2_code 48 .iand 1 49 := ⟨by decide +kernel, rfl⟩
theorem d1_49 : Dc method_2_code 49 .iadd 1 50 := ⟨by decide +kernel, rfl⟩
theorem d1_50 : Dc method_2_code 50 .ireturn 1 51 := ⟨by decide +kernel, rfl⟩
theorem d1_51 : Dc method_2_code 51 (.iload_n 1) 1 52 := ⟨by decide +kernel, rfl⟩
theorem d1_52 : Dc method_2_code 52 (.iconst 2) 1 53 := ⟨by decide +kernel, rfl⟩
theorem d1_53 : Dc method_2_code 53 (.if_icmp .ne 11) 3 56 := ⟨by decide +kernel, rfl⟩
theorem d1_53t : Tg 53 (11) 64 := ⟨by decide, by decide⟩
theorem d1_56 : Dc method_2_code 56 (.ldc 11) 2 58 := ⟨by decide +kernel, rfl⟩
theorem d1_58 : Dc method_2_code 58 (.iload_n 2) 1 59 := ⟨by decide +kernel, rfl⟩
theorem d1_59 : Dc method_2_code 59 (.ldc 12) 2 61 := ⟨by decide +kernel, rfl⟩
theorem d1_61 : Dc method_2_code 61 .iand 1 62 := ⟨by decide +kernel, rfl⟩
theorem d1_62 : Dc method_2_code 62 .iadd 1 63 := ⟨by decide +kernel, rfl⟩
theorem d1_63 : Dc method_2_code 63 .ireturn 1 64 := ⟨by decide +kernel, rfl⟩
theorem d1_64 : Dc method_2_code 64 (.iload_n 2) 1 65 := ⟨by decide +kernel, rfl⟩
theorem d1_65 : Dc method_2_code 65 (.bipush 127) 2 67 := ⟨by decide +kernel, rfl⟩
theorem d1_67 : Dc method_2_code 67 .iand 1 68 := ⟨by decide +kernel, rfl⟩
theorem d1_68 : Dc method_2_code 68 .ireturn 1 69 := ⟨by decide +kernel, rfl⟩
theorem d9_0 : Dc jdk_33_method_40_code 0 (.iload_n 0) 1 1 := ⟨by decide +kernel, rfl⟩
theorem d9_1 : Dc jdk_33_method_40_code 1 (.iload_n 1) 1 2 := ⟨by decide +kernel, rfl⟩
theorem d9_2 : Dc jdk_33_method_40_code 2 (.if_icmp .ge 7) 3 5 := ⟨by decide +kernel, rfl⟩
theorem d9_2t : Tg 2 (7) 9 := ⟨by decide, by decide⟩
theorem d9_5 : Dc jdk_33_method_40_code 5 (.iconst (-1)) 1 6 := ⟨by decide +kernel, rfl⟩
theorem d9_6 : Dc jdk_33_method_40_code 6 (.goto 13) 3 9 := ⟨by decide +kernel, rfl⟩
theorem d9_6t : Tg 6 (13) 19 := ⟨by decide, by decide⟩
theorem d9_9 : Dc jdk_33_method_40_code 9 (.iload_n 0) 1 10 := ⟨by decide +kernel, rfl⟩
theorem d9_10 : Dc jdk_33_method_40_code 10 (.iload_n 1) 1 11 := ⟨by decide +kernel, rfl⟩
theorem d9_11 : Dc jdk_33_method_40_code 11 (.if_icmp .ne 7) 3 14 := ⟨by decide +kernel, rfl⟩
theorem d9_11t : Tg 11 (7) 18 := ⟨by decide, by decide⟩
theorem d9_14 : Dc jdk_33_method_40_code 14 (.iconst 0) 1 15 := ⟨by decide +kernel, rfl⟩
theorem d9_15 : Dc jdk_33_method_40_code 15 (.goto 4) 3 18 := ⟨by decide +kernel, rfl⟩
theorem d9_15t : Tg 15 (4) 19 := ⟨by decide, by decide⟩
theorem d9_18 : Dc jdk_33_method_40_code 18 (.iconst 1) 1 19 := ⟨by decide +kernel, rfl⟩
theorem d9_19 : Dc jdk_33_method_40_code 19 .ireturn 1 20 := ⟨by decide +kernel, rfl⟩
theorem d26_0 : Dc jdk_89_method_18_code 0 (.iload_n 0) 1 1 := ⟨by decide +kernel, rfl⟩
theorem d26_1 : Dc jdk_89_method_18_code 1 (.ldc 73) 2 3 := ⟨by decide +kernel, rfl⟩
theorem d26_3 : Dc jdk_89_method_18_code 3 (.if_icmp .lt 7) 3 6 := ⟨by decide +kernel, rfl⟩
theorem d26_3t : Tg 3 (7) 10 := ⟨by decide, by decide⟩
theorem d26_6 : Dc jdk_89_method_18_code 6 (.iconst 2) 1 7 := ⟨by decide +kernel, rfl⟩
theorem d26_7 : Dc jdk_89_method_18_code 7 (.goto 4) 3 10 := ⟨by decide +kernel, rfl⟩
theorem d26_7t : Tg 7 (4) 11 := ⟨by decide, by decide⟩
theorem d26_10 : Dc jdk_89_method_18_code 10 (.iconst 1) 1 11 := ⟨by decide +kernel, rfl⟩
theorem d26_11 : Dc jdk_89_method_18_code 11 .ireturn 1 12 := ⟨by decide +kernel, rfl⟩
theorem d25_0 : Dc jdk_89_method_14_code 0 (.iload_n 0) 1 1 := ⟨by decide +kernel, rfl⟩
theorem d25_1 : Dc jdk_89_method_14_code 1 (.ldc 75) 2 3 := ⟨by decide +kernel, rfl⟩
theorem d25_3 : Dc jdk_89_method_14_code 3 (.if_icmp .lt 13) 3 6 := ⟨by decide +kernel, rfl⟩
theorem d25_3t : Tg 3 (13) 16 := ⟨by decide, by decide⟩
theorem d25_6 : Dc jdk_89_method_14_code 6 (.iload_n 0) 1 7 := ⟨by decide +kernel, rfl⟩
theorem d25_7 : Dc jdk_89_method_14_code 7 (.ldc 76) 2 9 := ⟨by decide +kernel, rfl⟩
theorem d25_9 : Dc jdk_89_method_14_code 9 (.if_icmp .ge 7) 3 12 := ⟨by decide +kernel, rfl⟩
theorem d25_9t : Tg 9 (7) 16 := ⟨by decide, by decide⟩
theorem d25_12 : Dc jdk_89_method_14_code 12 (.iconst 1) 1 13 := ⟨by decide +kernel, rfl⟩
theorem d25_13 : Dc jdk_89_method_14_code 13 (.goto 4) 3 16 := ⟨by decide +kernel, rfl⟩
theorem d25_13t : Tg 13 (4) 17 := ⟨by decide, by decide⟩
theorem d25_16 : Dc jdk_89_method_14_code 16 (.iconst 0) 1 17 := ⟨by decide +kernel, rfl⟩
theorem d25_17 : Dc jdk_89_method_14_code 17 .ireturn 1 18 := ⟨by decide +kernel, rfl⟩
theorem d27_0 : Dc jdk_89_method_15_code 0 (.iload_n 0) 1 1 := ⟨by decide +kernel, rfl⟩
theorem d27_1 : Dc jdk_89_method_15_code 1 (.ldc 76) 2 3 := ⟨by decide +kernel, rfl⟩
theorem d27_3 : Dc jdk_89_method_15_code 3 (.if_icmp .lt 13) 3 6 := ⟨by decide +kernel, rfl⟩
theorem d27_3t : Tg 3 (13) 16 := ⟨by decide, by decide⟩
theorem d27_6 : Dc jdk_89_method_15_code 6 (.iload_n 0) 1 7 := ⟨by decide +kernel, rfl⟩
theorem d27_7 : Dc jdk_89_method_15_code 7 (.ldc 77) 2 9 := ⟨by decide +kernel, rfl⟩
theorem d27_9 : Dc jdk_89_method_15_code 9 (.if_icmp .ge 7) 3 12 := ⟨by decide +kernel, rfl⟩
theorem d27_9t : Tg 9 (7) 16 := ⟨by decide, by decide⟩
theorem d27_12 : Dc jdk_89_method_15_code 12 (.iconst 1) 1 13 := ⟨by decide +kernel, rfl⟩
theorem d27_13 : Dc jdk_89_method_15_code 13 (.goto 4) 3 16 := ⟨by decide +kernel, rfl⟩
theorem d27_13t : Tg 13 (4) 17 := ⟨by decide, by decide⟩
theorem d27_16 : Dc jdk_89_method_15_code 16 (.iconst 0) 1 17 := ⟨by decide +kernel, rfl⟩
theorem d27_17 : Dc jdk_89_method_15_code 17 .ireturn 1 18 := ⟨by decide +kernel, rfl⟩
theorem d28_0 : Dc jdk_89_method_19_code 0 (.iload_n 0) 1 1 := ⟨by decide +kernel, rfl⟩
theorem d28_1 : Dc jdk_89_method_19_code 1 (.bipush 10) 2 3 := ⟨by decide +kernel, rfl⟩
theorem d28_3 : Dc jdk_89_method_19_code 3 .ishl 1 4 := ⟨by decide +kernel, rfl⟩
theorem d28_4 : Dc jdk_89_method_19_code 4 (.iload_n 1) 1 5 := ⟨by decide +kernel, rfl⟩
theorem d28_5 : Dc jdk_89_method_19_code 5 .iadd 1 6 := ⟨by decide +kernel, rfl⟩
theorem d28_6 : Dc jdk_89_method_19_code 6 (.ldc 85) 2 8 := ⟨by decide +kernel, rfl⟩
theorem d28_8 : Dc jdk_89_method_19_code 8 .iadd 1 9 := ⟨by decide +kernel, rfl⟩
theorem d28_9 : Dc jdk_89_method_19_code 9 .ireturn 1 10 := ⟨by decide +kernel, rfl⟩
theorem d10_0 : Dc method_3_code 0 (.iload_n 2) 1 1 := ⟨by decide +kernel, rfl⟩
theorem d10_1 : Dc method_3_code 1 (.ldc 11) 2 3 := ⟨by decide +kernel, rfl⟩
theorem d10_3 : Dc method_3_code 3 (.if_icmp .ge 12) 3 6 := ⟨by decide +kernel, rfl⟩
theorem d10_3t : Tg 3 (12) 15 := ⟨by decide, by decide⟩
theorem d10_6 : Dc method_3_code 6 (.aload_n 0) 1 7 := ⟨by decide +kernel, rfl⟩
theorem d10_7 : Dc method_3_code 7 (.iload_n 1) 1 8 := ⟨by decide +kernel, rfl⟩
theorem d10_8 : Dc method_3_code 8 (.iload_n 2) 1 9 := ⟨by decide +kernel, rfl⟩
theorem d10_9 : Dc method_3_code 9 .i2c 1 10 := ⟨by decide +kernel, rfl⟩
theorem d10_10 : Dc method_3_code 10 .castore 1 11 := ⟨by decide +kernel, rfl⟩
theorem d10_11 : Dc method_3_code 11 (.iload_n 1) 1 12 := ⟨by decide +kernel, rfl⟩
theorem d10_12 : Dc method_3_code 12 (.iconst 1) 1 13 := ⟨by decide +kernel, rfl⟩
theorem d10_13 : Dc method_3_code 13 .iadd 1 14 := ⟨by decide +kernel, rfl⟩
theorem d10_14 : Dc method_3_code 14 .ireturn 1 15 := ⟨by decide +kernel, rfl⟩
theorem d10_15 : Dc method_3_code 15 (.iload_n 2) 1 16 := ⟨by decide +kernel, rfl⟩
theorem d10_16 : Dc method_3_code 16 (.ldc 11) 2 18 := ⟨by decide +kernel, rfl⟩
theorem d10_18 : Dc method_3_code 18 .isub 1 19 := ⟨by decide +kernel, rfl⟩
theorem d10_19 : Dc method_3_code 19 (.istore_n 3) 1 20 := ⟨by decide +kernel, rfl⟩
theorem d10_20 : Dc method_3_code 20 (.aload_n 0) 1 21 := ⟨by decide +kernel, rfl⟩
theorem d10_21 : Dc method_3_code 21 (.iload_n 1) 1 22 := ⟨by decide +kernel, rfl⟩
theorem d10_22 : Dc method_3_code 22 (.ldc 8) 2 24 := ⟨by decide +kernel, rfl⟩
theorem d10_24 : Dc method_3_code 24 (.iload_n 3) 1 25 := ⟨by decide +kernel, rfl⟩
theorem d10_25 : Dc method_3_code 25 (.bipush 10) 2 27 := ⟨by decide +kernel, rfl⟩
theorem d10_27 : Dc method_3_code 27 .iushr 1 28 := ⟨by decide +kernel, rfl⟩
theorem d10_28 : Dc method_3_code 28 .iadd 1 29 := ⟨by decide +kernel, rfl⟩
theorem d10_29 : Dc method_3_code 29 .i2c 1 30 := ⟨by decide +kernel, rfl⟩
theorem d10_30 : Dc method_3_code 30 .castore 1 31 := ⟨by decide +kernel, rfl⟩
theorem d10_31 : Dc method_3_code 31 (.aload_n 0) 1 32 := ⟨by decide +kernel, rfl⟩
theorem d10_32 : Dc method_3_code 32 (.iload_n 1) 1 33 := ⟨by decide +kernel, rfl⟩
theorem d10_33 : Dc method_3_code 33 (.iconst 1) 1 34 := ⟨by decide +kernel, rfl⟩
theorem d10_34 : Dc method_3_code 34 .iadd 1 35 := ⟨by decide +kernel, rfl⟩
theorem d10_35 : Dc method_3_code 35 (.ldc 13) 2 37 := ⟨by decide +kernel, rfl⟩
theorem d10_37 : Dc method_3_code 37 (.iload_n 3) 1 38 := ⟨by decide +kernel, rfl⟩
theorem d10_38 : Dc method_3_code 38 (.sipush 1023) 3 41 := ⟨by decide +kernel, rfl⟩
theorem d10_41 : Dc method_3_code 41 .iand 1 42 := ⟨by decide +kernel, rfl⟩
theorem d10_42 : Dc method_3_code 42 .iadd 1 43 := ⟨by decide +kernel, rfl⟩
theorem d10_43 : Dc method_3_code 43 .i2c 1 44 := ⟨by decide +kernel, rfl⟩
theorem d10_44 : Dc method_3_code 44 .castore 1 45 := ⟨by decide +kernel, rfl⟩
theorem d10_45 : Dc method_3_code 45 (.iload_n 1) 1 46 := ⟨by decide +kernel, rfl⟩
theorem d10_46 : Dc method_3_code 46 (.iconst 2) 1 47 := ⟨by decide +kernel, rfl⟩
theorem d10_47 : Dc method_3_code 47 .iadd 1 48 := ⟨by decide +kernel, rfl⟩
theorem d10_48 : Dc method_3_code 48 .ireturn 1 49 := ⟨by decide +kernel, rfl⟩
theorem d2_0 : Dc method_4_code 0 (.iload_n 1) 1 1 := ⟨by decide +kernel, rfl⟩
theorem d2_1 : Dc method_4_code 1 (.ifCond .ne 14) 3 4 := ⟨by decide +kernel, rfl⟩
theorem d2_1t : Tg 1 (14) 15 := ⟨by decide, by decide⟩
theorem d2_4 : Dc method_4_code 4 (.new 14) 3 7 := ⟨by decide +kernel, rfl⟩
theorem d2_7 : Dc method_4_code 7 .dup 1 8 := ⟨by decide +kernel, rfl⟩
theorem d2_8 : Dc method_4_code 8 (.iconst 0) 1 9 := ⟨by decide +kernel, rfl⟩
theorem d2_9 : Dc method_4_code 9 (.newarray .char) 2 11 := ⟨by decide +kernel, rfl⟩
theorem d2_11 : Dc method_4_code 11 (.invokespecial 16) 3 14 := ⟨by decide +kernel, rfl⟩
theorem d2_14 : Dc method_4_code 14 .areturn 1 15 := ⟨by decide +kernel, rfl⟩
theorem d2_15 : Dc method_4_code 15 (.iload_n 1) 1 16 := ⟨by decide +kernel, rfl⟩
theorem d2_16 : Dc method_4_code 16 (.iconst 1) 1 17 := ⟨by decide +kernel, rfl⟩
theorem d2_17 : Dc method_4_code 17 (.if_icmp .ne 22) 3 20 := ⟨by decide +kernel, rfl⟩
theorem d2_17t : Tg 17 (22) 39 := ⟨by decide, by decide⟩
theorem d2_20 : Dc method_4_code 20 (.iconst 1) 1 21 := ⟨by decide +kernel, rfl⟩
theorem d2_21 : Dc method_4_code 21 (.newarray .char) 2 23 := ⟨by decide +kernel, rfl⟩
theorem d2_23 : Dc method_4_code 23 (.astore_n 2) 1 24 := ⟨by decide +kernel, rfl⟩
theorem d2_24 : Dc method_4_code 24 (.aload_n 2) 1 25 := ⟨by decide +kernel, rfl⟩
theorem d2_25 : Dc method_4_code 25 (.iconst 0) 1 26 := ⟨by decide +kernel, rfl⟩
theorem d2_26 : Dc method_4_code 26 (.aload_n 0) 1 27 := ⟨by decide +kernel, rfl⟩
theorem d2_27 : Dc method_4_code 27 (.iconst 0) 1 28 := ⟨by decide +kernel, rfl⟩
theorem d2_28 : Dc method_4_code 28 .caload 1 29 := ⟨by decide +kernel, rfl⟩
theorem d2_29 : Dc method_4_code 29 .castore 1 30 := ⟨by decide +kernel, rfl⟩
theorem d2_30 : Dc method_4_code 30 (.new 14) 3 33 := ⟨by decide +kernel, rfl⟩
theorem d2_33 : Dc method_4_code 33 .dup 1 34 := ⟨by decide +kernel, rfl⟩
theorem d2_34 : Dc method_4_code 34 (.aload_n 2) 1 35 := ⟨by decide +kernel, rfl⟩
theorem d2_35 : Dc method_4_code 35 (.invokespecial 16) 3 38 := ⟨by decide +kernel, rfl⟩
theorem d2_38 : Dc method_4_code 38 .areturn 1 39 := ⟨by decide +kernel, rfl⟩
theorem d2_39 : Dc method_4_code 39 (.iload_n 1) 1 40 := ⟨by decide +kernel, rfl⟩
theorem d2_40 : Dc method_4_code 40 (.iconst 2) 1 41 := ⟨by decide +kernel, rfl⟩
theorem d2_41 : Dc method_4_code 41 (.if_icmp .ne 28) 3 44 := ⟨by decide +kernel, rfl⟩
theorem d2_41t : Tg 41 (28) 69 := ⟨by decide, by decide⟩
theorem d2_44 : Dc method_4_code 44 (.iconst 2) 1 45 := ⟨by decide +kernel, rfl⟩
theorem d2_45 : Dc method_4_code 45 (.newarray .char) 2 47 := ⟨by decide +kernel, rfl⟩
theorem d2_47 : Dc method_4_code 47 (.astore_n 2) 1 48 := ⟨by decide +kernel, rfl⟩
theorem d2_48 : Dc method_4_code 48 (.aload_n 2) 1 49 := ⟨by decide +kernel, rfl⟩
theorem d2_49 : Dc method_4_code 49 (.iconst 0) 1 50 := ⟨by decide +kernel, rfl⟩
theorem d2_50 : Dc method_4_code 50 (.aload_n 0) 1 51 := ⟨by decide +kernel, rfl⟩
theorem d2_51 : Dc method_4_code 51 (.iconst 0) 1 52 := ⟨by decide +kernel, rfl⟩
theorem d2_52 : Dc method_4_code 52 .caload 1 53 := ⟨by decide +kernel, rfl⟩
theorem d2_53 : Dc method_4_code 53 .castore 1 54 := ⟨by decide +kernel, rfl⟩
theorem d2_54 : Dc method_4_code 54 (.aload_n 2) 1 55 := ⟨by decide +kernel, rfl⟩
theorem d2_55 : Dc method_4_code 55 (.iconst 1) 1 56 := ⟨by decide +kernel, rfl⟩
theorem d2_56 : Dc method_4_code 56 (.aload_n 0) 1 57 := ⟨by decide +kernel, rfl⟩
theorem d2_57 : Dc method_4_code 57 (.iconst 1) 1 58 := ⟨by decide +kernel, rfl⟩
theorem d2_58 : Dc method_4_code 58 .caload 1 59 := ⟨by decide +kernel, rfl⟩
theorem d2_59 : Dc method_4_code 59 .castore 1 60 := ⟨by decide +kernel, rfl⟩
theorem d2_60 : Dc method_4_code 60 (.new 14) 3 63 := ⟨by decide +kernel, rfl⟩
theorem d2_63 : Dc method_4_code 63 .dup 1 64 := ⟨by decide +kernel, rfl⟩
theorem d2_64 : Dc method_4_code 64 (.aload_n 2) 1 65 := ⟨by decide +kernel, rfl⟩
theorem d2_65 : Dc method_4_code 65 (.invokespecial 16) 3 68 := ⟨by decide +kernel, rfl⟩
theorem d2_68 : Dc method_4_code 68 .areturn 1 69 := ⟨by decide +kernel, rfl⟩
theorem d2_69 : Dc method_4_code 69 (.iload_n 1) 1 70 := ⟨by decide +kernel, rfl⟩
theorem d2_70 : Dc method_4_code 70 (.iconst 3) 1 71 := ⟨by decide +kernel, rfl⟩
theorem d2_71 : Dc method_4_code 71 (.if_icmp .ne 34) 3 74 := ⟨by decide +kernel, rfl⟩
theorem d2_71t : Tg 71 (34) 105 := ⟨by decide, by decide⟩
theorem d2_74 : Dc method_4_code 74 (.iconst 3) 1 75 := ⟨by decide +kernel, rfl⟩
theorem d2_75 : Dc method_4_code 75 (.newarray .char) 2 77 := ⟨by decide +kernel, rfl⟩
theorem d2_77 : Dc method_4_code 77 (.astore_n 2) 1 78 := ⟨by decide +kernel, rfl⟩
theorem d2_78 : Dc method_4_code 78 (.aload_n 2) 1 79 := ⟨by decide +kernel, rfl⟩
theorem d2_79 : Dc method_4_code 79 (.iconst 0) 1 80 := ⟨by decide +kernel, rfl⟩
theorem d2_80 : Dc method_4_code 80 (.aload_n 0) 1 81 := ⟨by decide +kernel, rfl⟩
theorem d2_81 : Dc method_4_code 81 (.iconst 0) 1 82 := ⟨by decide +kernel, rfl⟩
theorem d2_82 : Dc method_4_code 82 .caload 1 83 := ⟨by decide +kernel, rfl⟩
theorem d2_83 : Dc method_4_code 83 .castore 1 84 := ⟨by decide +kernel, rfl⟩
theorem d2_84 : Dc method_4_code 84 (.aload_n 2) 1 85 := ⟨by decide +kernel, rfl⟩
theorem d2_85 : Dc method_4_code 85 (.iconst 1) 1 86 := ⟨by decide +kernel, rfl⟩
theorem d2_86 : Dc method_4_code 86 (.aload_n 0) 1 87 := ⟨by decide +kernel, rfl⟩
theorem d2_87 : Dc method_4_code 87 (.iconst 1) 1 88 := ⟨by decide +kernel, rfl⟩
theorem d2_88 : Dc method_4_code 88 .caload 1 89 := ⟨by decide +kernel, rfl⟩
theorem d2_89 : Dc method_4_code 89 .castore 1 90 := ⟨by decide +kernel, rfl⟩
theorem d2_90 : Dc method_4_code 90 (.aload_n 2) 1 91 := ⟨by decide +kernel, rfl⟩
theorem d2_91 : Dc method_4_code 91 (.iconst 2) 1 92 := ⟨by decide +kernel, rfl⟩
theorem d2_92 : Dc method_4_code 92 (.aload_n 0) 1 93 := ⟨by decide +kernel, rfl⟩
theorem d2_93 : Dc method_4_code 93 (.iconst 2) 1 94 := ⟨by decide +kernel, rfl⟩
theorem d2_94 : Dc method_4_code 94 .caload 1 95 := ⟨by decide +kernel, rfl⟩
theorem d2_95 : Dc method_4_code 95 .castore 1 96 := ⟨by decide +kernel, rfl⟩
theorem d2_96 : Dc method_4_code 96 (.new 14) 3 99 := ⟨by decide +kernel, rfl⟩
theorem d2_99 : Dc method_4_code 99 .dup 1 100 := ⟨by decide +kernel, rfl⟩
theorem d2_100 : Dc method_4_code 100 (.aload_n 2) 1 101 := ⟨by decide +kernel, rfl⟩
theorem d2_101 : Dc method_4_code 101 (.invokespecial 16) 3 104 := ⟨by decide +kernel, rfl⟩
theorem d2_104 : Dc method_4_code 104 .areturn 1 105 := ⟨by decide +kernel, rfl⟩
theorem d2_105 : Dc method_4_code 105 (.iconst 4) 1 106 := ⟨by decide +kernel, rfl⟩
theorem d2_106 : Dc method_4_code 106 (.newarray .char) 2 108 := ⟨by decide +kernel, rfl⟩
theorem d2_108 : Dc method_4_code 108 (.astore_n 2) 1 109 := ⟨by decide +kernel, rfl⟩
theorem d2_109 : Dc method_4_code 109 (.aload_n 2) 1 110 := ⟨by decide +kernel, rfl⟩
theorem d2_110 : Dc method_4_code 110 (.iconst 0) 1 111 := ⟨by decide +kernel, rfl⟩
theorem d2_111 : Dc method_4_code 111 (.aload_n 0) 1 112 := ⟨by decide +kernel, rfl⟩
theorem d2_112 : Dc method_4_code 112 (.iconst 0) 1 113 := ⟨by decide +kernel, rfl⟩
theorem d2_113 : Dc method_4_code 113 .caload 1 114 := ⟨by decide +kernel, rfl⟩
theorem d2_114 : Dc method_4_code 114 .castore 1 115 := ⟨by decide +kernel, rfl⟩
theorem d2_115 : Dc method_4_code 115 (.aload_n 2) 1 116 := ⟨by decide +kernel, rfl⟩
theorem d2_116 : Dc method_4_code 116 (.iconst 1) 1 117 := ⟨by decide +kernel, rfl⟩
theorem d2_117 : Dc method_4_code 117 (.aload_n 0) 1 118 := ⟨by decide +kernel, rfl⟩
theorem d2_118 : Dc method_4_code 118 (.iconst 1) 1 119 := ⟨by decide +kernel, rfl⟩
theorem d2_119 : Dc method_4_code 119 .caload 1 120 := ⟨by decide +kernel, rfl⟩
theorem d2_120 : Dc method_4_code 120 .castore 1 121 := ⟨by decide +kernel, rfl⟩
theorem d2_121 : Dc method_4_code 121 (.aload_n 2) 1 122 := ⟨by decide +kernel, rfl⟩
theorem d2_122 : Dc method_4_code 122 (.iconst 2) 1 123 := ⟨by decide +kernel, rfl⟩
theorem d2_123 : Dc method_4_code 123 (.aload_n 0) 1 124 := ⟨by decide +kernel, rfl⟩
theorem d2_124 : Dc method_4_code 124 (.iconst 2) 1 125 := ⟨by decide +kernel, rfl⟩
theorem d2_125 : Dc method_4_code 125 .caload 1 126 := ⟨by decide +kernel, rfl⟩
theorem d2_126 : Dc method_4_code 126 .castore 1 127 := ⟨by decide +kernel, rfl⟩
theorem d2_127 : Dc method_4_code 127 (.aload_n 2) 1 128 := ⟨by decide +kernel, rfl⟩
theorem d2_128 : Dc method_4_code 128 (.iconst 3) 1 129 := ⟨by decide +kernel, rfl⟩
theorem d2_129 : Dc method_4_code 129 (.aload_n 0) 1 130 := ⟨by decide +kernel, rfl⟩
theorem d2_130 : Dc method_4_code 130 (.iconst 3) 1 131 := ⟨by decide +kernel, rfl⟩
theorem d2_131 : Dc method_4_code 131 .caload 1 132 := ⟨by decide +kernel, rfl⟩
theorem d2_132 : Dc method_4_code 132 .castore 1 133 := ⟨by decide +kernel, rfl⟩
theorem d2_133 : Dc method_4_code 133 (.new 14) 3 136 := ⟨by decide +kernel, rfl⟩
theorem d2_136 : Dc method_4_code 136 .dup 1 137 := ⟨by decide +kernel, rfl⟩
theorem d2_137 : Dc method_4_code 137 (.aload_n 2) 1 138 := ⟨by decide +kernel, rfl⟩
theorem d2_138 : Dc method_4_code 138 (.invokespecial 16) 3 141 := ⟨by decide +kernel, rfl⟩
theorem d2_141 : Dc method_4_code 141 .areturn 1 142 := ⟨by decide +kernel, rfl⟩
theorem d24_0 : Dc jdk_52_method_7_code 0 (.getstatic 44) 3 3 := ⟨by decide +kernel, rfl⟩
theorem d24_3 : Dc jdk_52_method_7_code 3 (.ifCond .ne 16) 3 6 := ⟨by decide +kernel, rfl⟩
theorem d24_3t : Tg 3 (16) 19 := ⟨by decide, by decide⟩
theorem d24_6 : Dc jdk_52_method_7_code 6 (.iload_n 1) 1 7 := ⟨by decide +kernel, rfl⟩
theorem d24_7 : Dc jdk_52_method_7_code 7 (.iload_n 2) 1 8 := ⟨by decide +kernel, rfl⟩
theorem d24_8 : Dc jdk_52_method_7_code 8 (.if_icmp .lt 11) 3 11 := ⟨by decide +kernel, rfl⟩
theorem d24_8t : Tg 8 (11) 19 := ⟨by decide, by decide⟩
theorem d24_11 : Dc jdk_52_method_7_code 11 (.new 52) 3 14 := ⟨by decide +kernel, rfl⟩
theorem d24_14 : Dc jdk_52_method_7_code 14 .dup 1 15 := ⟨by decide +kernel, rfl⟩
theorem d24_15 : Dc jdk_52_method_7_code 15 (.invokespecial 66) 3 18 := ⟨by decide +kernel, rfl⟩
theorem d24_18 : Dc jdk_52_method_7_code 18 .athrow 1 19 := ⟨by decide +kernel, rfl⟩
theorem d24_19 : Dc jdk_52_method_7_code 19 (.iload_n 3) 1 20 := ⟨by decide +kernel, rfl⟩
theorem d24_20 : Dc jdk_52_method_7_code 20 (.ifCond .eq 8) 3 23 := ⟨by decide +kernel, rfl⟩
theorem d24_20t : Tg 20 (8) 28 := ⟨by decide, by decide⟩
theorem d24_23 : Dc jdk_52_method_7_code 23 (.iload_n 1) 1 24 := ⟨by decide +kernel, rfl⟩
theorem d24_24 : Dc jdk_52_method_7_code 24 (.aload_n 0) 1 25 := ⟨by decide +kernel, rfl⟩
theorem d24_25 : Dc jdk_52_method_7_code 25 (.invokestatic 67) 3 28 := ⟨by decide +kernel, rfl⟩
theorem d24_28 : Dc jdk_52_method_7_code 28 (.aload_n 0) 1 29 := ⟨by decide +kernel, rfl⟩
theorem d24_29 : Dc jdk_52_method_7_code 29 (.iload_n 1) 1 30 := ⟨by decide +kernel, rfl⟩
theorem d24_30 : Dc jdk_52_method_7_code 30 (.invokestatic 71) 3 33 := ⟨by decide +kernel, rfl⟩
theorem d24_33 : Dc jdk_52_method_7_code 33 (.istore 4) 2 35 := ⟨by decide +kernel, rfl⟩
theorem d24_35 : Dc jdk_52_method_7_code 35 (.iload 4) 2 37 := ⟨by decide +kernel, rfl⟩
theorem d24_37 : Dc jdk_52_method_7_code 37 (.invokestatic 75) 3 40 := ⟨by decide +kernel, rfl⟩
theorem d24_40 : Dc jdk_52_method_7_code 40 (.ifCond .eq 43) 3 43 := ⟨by decide +kernel, rfl⟩
theorem d24_40t : Tg 40 (43) 83 := ⟨by decide, by decide⟩
theorem d24_43 : Dc jdk_52_method_7_code 43 (.iinc 1 1) 3 46 := ⟨by decide +kernel, rfl⟩
theorem d24_46 : Dc jdk_52_method_7_code 46 (.iload_n 1) 1 47 := ⟨by decide +kernel, rfl⟩
theorem d24_47 : Dc jdk_52_method_7_code 47 (.iload_n 2) 1 48 := ⟨by decide +kernel, rfl⟩
theorem d24_48 : Dc jdk_52_method_7_code 48 (.if_icmp .ge 35) 3 51 := ⟨by decide +kernel, rfl⟩
theorem d24_48t : Tg 48 (35) 83 := ⟨by decide, by decide⟩
theorem d24_51 : Dc jdk_52_method_7_code 51 (.iload_n 3) 1 52 := ⟨by decide +kernel, rfl⟩
theorem d24_52 : Dc jdk_52_method_7_code 52 (.ifCond .eq 8) 3 55 := ⟨by decide +kernel, rfl⟩
theorem d24_52t : Tg 52 (8) 60 := ⟨by decide, by decide⟩
theorem d24_55 : Dc jdk_52_method_7_code 55 (.iload_n 1) 1 56 := ⟨by decide +kernel, rfl⟩
theorem d24_56 : Dc jdk_52_method_7_code 56 (.aload_n 0) 1 57 := ⟨by decide +kernel, rfl⟩
theorem d24_57 : Dc jdk_52_method_7_code 57 (.invokestatic 67) 3 60 := ⟨by decide +kernel, rfl⟩
theorem d24_60 : Dc jdk_52_method_7_code 60 (.aload_n 0) 1 61 := ⟨by decide +kernel, rfl⟩
theorem d24_61 : Dc jdk_52_method_7_code 61 (.iload_n 1) 1 62 := ⟨by decide +kernel, rfl⟩
theorem d24_62 : Dc jdk_52_method_7_code 62 (.invokestatic 71) 3 65 := ⟨by decide +kernel, rfl⟩
theorem d24_65 : Dc jdk_52_method_7_code 65 (.istore 5) 2 67 := ⟨by decide +kernel, rfl⟩
theorem d24_67 : Dc jdk_52_method_7_code 67 (.iload 5) 2 69 := ⟨by decide +kernel, rfl⟩
theorem d24_69 : Dc jdk_52_method_7_code 69 (.invokestatic 81) 3 72 := ⟨by decide +kernel, rfl⟩
theorem d24_72 : Dc jdk_52_method_7_code 72 (.ifCond .eq 11) 3 75 := ⟨by decide +kernel, rfl⟩
theorem d24_72t : Tg 72 (11) 83 := ⟨by decide, by decide⟩
theorem d24_75 : Dc jdk_52_method_7_code 75 (.iload 4) 2 77 := ⟨by decide +kernel, rfl⟩
theorem d24_77 : Dc jdk_52_method_7_code 77 (.iload 5) 2 79 := ⟨by decide +kernel, rfl⟩
theorem d24_79 : Dc jdk_52_method_7_code 79 (.invokestatic 84) 3 82 := ⟨by decide +kernel, rfl⟩
theorem d24_82 : Dc jdk_52_method_7_code 82 .ireturn 1 83 := ⟨by decide +kernel, rfl⟩
theorem d24_83 : Dc jdk_52_method_7_code 83 (.iload 4) 2 85 := ⟨by decide +kernel, rfl⟩
theorem d24_85 : Dc jdk_52_method_7_code 85 .ireturn 1 86 := ⟨by decide +kernel, rfl⟩
theorem d23_0 : Dc jdk_52_method_8_code 0 (.aload_n 0) 1 1 := ⟨by decide +kernel, rfl⟩
theorem d23_1 : Dc jdk_52_method_8_code 1 (.iload_n 1) 1 2 := ⟨by decide +kernel, rfl⟩
theorem d23_2 : Dc jdk_52_method_8_code 2 (.iload_n 2) 1 3 := ⟨by decide +kernel, rfl⟩
theorem d23_3 : Dc jdk_52_method_8_code 3 (.iconst 0) 1 4 := ⟨by decide +kernel, rfl⟩
theorem d23_4 : Dc jdk_52_method_8_code 4 (.invokestatic 88) 3 7 := ⟨by decide +kernel, rfl⟩
theorem d23_7 : Dc jdk_52_method_8_code 7 .ireturn 1 8 := ⟨by decide +kernel, rfl⟩
theorem d19_0 : Dc jdk_42_method_57_code 0 (.aload_n 0) 1 1 := ⟨by decide +kernel, rfl⟩
theorem d19_1 : Dc jdk_42_method_57_code 1 (.invokevirtual 492) 3 4 := ⟨by decide +kernel, rfl⟩
theorem d19_4 : Dc jdk_42_method_57_code 4 (.ifCond .eq 23) 3 7 := ⟨by decide +kernel, rfl⟩
theorem d19_4t : Tg 4 (23) 27 := ⟨by decide, by decide⟩
theorem d19_7 : Dc jdk_42_method_57_code 7 (.iload_n 1) 1 8 := ⟨by decide +kernel, rfl⟩
theorem d19_8 : Dc jdk_42_method_57_code 8 (.aload_n 0) 1 9 := ⟨by decide +kernel, rfl⟩
theorem d19_9 : Dc jdk_42_method_57_code 9 (.getfield 9) 3 12 := ⟨by decide +kernel, rfl⟩
theorem d19_12 : Dc jdk_42_method_57_code 12 .arraylength 1 13 := ⟨by decide +kernel, rfl⟩
theorem d19_13 : Dc jdk_42_method_57_code 13 (.invokestatic 499) 3 16 := ⟨by decide +kernel, rfl⟩
theorem d19_16 : Dc jdk_42_method_57_code 16 (.aload_n 0) 1 17 := ⟨by decide +kernel, rfl⟩
theorem d19_17 : Dc jdk_42_method_57_code 17 (.getfield 9) 3 20 := ⟨by decide +kernel, rfl⟩
theorem d19_20 : Dc jdk_42_method_57_code 20 (.iload_n 1) 1 21 := ⟨by decide +kernel, rfl⟩
theorem d19_21 : Dc jdk_42_method_57_code 21 .baload 1 22 := ⟨by decide +kernel, rfl⟩
theorem d19_22 : Dc jdk_42_method_57_code 22 (.sipush 255) 3 25 := ⟨by decide +kernel, rfl⟩
theorem d19_25 : Dc jdk_42_method_57_code 25 .iand 1 26 := ⟨by decide +kernel, rfl⟩
theorem d19_26 : Dc jdk_42_method_57_code 26 .ireturn 1 27 := ⟨by decide +kernel, rfl⟩
theorem d19_27 : Dc jdk_42_method_57_code 27 (.aload_n 0) 1 28 := ⟨by decide +kernel, rfl⟩
theorem d19_28 : Dc jdk_42_method_57_code 28 (.getfield 9) 3 31 := ⟨by decide +kernel, rfl⟩
theorem d19_31 : Dc jdk_42_method_57_code 31 .arraylength 1 32 := ⟨by decide +kernel, rfl⟩
theorem d19_32 : Dc jdk_42_method_57_code 32 (.iconst 1) 1 33 := ⟨by decide +kernel, rfl⟩
theorem d19_33 : Dc jdk_42_method_57_code 33 .ishr 1 34 := ⟨by decide +kernel, rfl⟩
theorem d19_34 : Dc jdk_42_method_57_code 34 (.istore_n 2) 1 35 := ⟨by decide +kernel, rfl⟩
theorem d19_35 : Dc jdk_42_method_57_code 35 (.iload_n 1) 1 36 := ⟨by decide +kernel, rfl⟩
theorem d19_36 : Dc jdk_42_method_57_code 36 (.iload_n 2) 1 37 := ⟨by decide +kernel, rfl⟩
theorem d19_37 : Dc jdk_42_method_57_code 37 (.invokestatic 499) 3 40 := ⟨by decide +kernel, rfl⟩
theorem d19_40 : Dc jdk_42_method_57_code 40 (.aload_n 0) 1 41 := ⟨by decide +kernel, rfl⟩
theorem d19_41 : Dc jdk_42_method_57_code 41 (.getfield 9) 3 44 := ⟨by decide +kernel, rfl⟩
theorem d19_44 : Dc jdk_42_method_57_code 44 (.iload_n 1) 1 45 := ⟨by decide +kernel, rfl⟩
theorem d19_45 : Dc jdk_42_method_57_code 45 (.iload_n 2) 1 46 := ⟨by decide +kernel, rfl⟩
theorem d19_46 : Dc jdk_42_method_57_code 46 (.invokestatic 502) 3 49 := ⟨by decide +kernel, rfl⟩
theorem d19_49 : Dc jdk_42_method_57_code 49 .ireturn 1 50 := ⟨by decide +kernel, rfl⟩
theorem d6_0 : Dc prog_25_method_2_code 0 (.iconst 0) 1 1 := ⟨by decide +kernel, rfl⟩
theorem d6_1 : Dc prog_25_method_2_code 1 (.istore_n 2) 1 2 := ⟨by decide +kernel, rfl⟩
theorem d6_2 : Dc prog_25_method_2_code 2 (.iload_n 2) 1 3 := ⟨by decide +kernel, rfl⟩
theorem d6_3 : Dc prog_25_method_2_code 3 (.aload_n 0) 1 4 := ⟨by decide +kernel, rfl⟩
theorem d6_4 : Dc prog_25_method_2_code 4 (.invokevirtual 7) 3 7 := ⟨by decide +kernel, rfl⟩
theorem d6_7 : Dc prog_25_method_2_code 7 (.if_icmp .ge 47) 3 10 := ⟨by decide +kernel, rfl⟩
theorem d6_7t : Tg 7 (47) 54 := ⟨by decide, by decide⟩
theorem d6_10 : Dc prog_25_method_2_code 10 (.iload_n 2) 1 11 := ⟨by decide +kernel, rfl⟩
theorem d6_11 : Dc prog_25_method_2_code 11 (.aload_n 1) 1 12 := ⟨by decide +kernel, rfl⟩
theorem d6_12 : Dc prog_25_method_2_code 12 (.invokevirtual 7) 3 15 := ⟨by decide +kernel, rfl⟩
theorem d6_15 : Dc prog_25_method_2_code 15 (.if_icmp .ge 39) 3 18 := ⟨by decide +kernel, rfl⟩
theorem d6_15t : Tg 15 (39) 54 := ⟨by decide, by decide⟩
theorem d6_18 : Dc prog_25_method_2_code 18 (.aload_n 0) 1 19 := ⟨by decide +kernel, rfl⟩
theorem d6_19 : Dc prog_25_method_2_code 19 (.iload_n 2) 1 20 := ⟨by decide +kernel, rfl⟩
theorem d6_20 : Dc prog_25_method_2_code 20 (.invokevirtual 13) 3 23 := ⟨by decide +kernel, rfl⟩
theorem d6_23 : Dc prog_25_method_2_code 23 (.istore_n 3) 1 24 := ⟨by decide +kernel, rfl⟩
theorem d6_24 : Dc prog_25_method_2_code 24 (.aload_n 1) 1 25 := ⟨by decide +kernel, rfl⟩
theorem d6_25 : Dc prog_25_method_2_code 25 (.iload_n 2) 1 26 := ⟨by decide +kernel, rfl⟩
theorem d6_26 : Dc prog_25_method_2_code 26 (.invokevirtual 13) 3 29 := ⟨by decide +kernel, rfl⟩
theorem d6_29 : Dc prog_25_method_2_code 29 (.istore 4) 2 31 := ⟨by decide +kernel, rfl⟩
theorem d6_31 : Dc prog_25_method_2_code 31 (.iload_n 3) 1 32 := ⟨by decide +kernel, rfl⟩
theorem d6_32 : Dc prog_25_method_2_code 32 (.iload 4) 2 34 := ⟨by decide +kernel, rfl⟩
theorem d6_34 : Dc prog_25_method_2_code 34 (.if_icmp .eq 10) 3 37 := ⟨by decide +kernel, rfl⟩
theorem d6_34t : Tg 34 (10) 44 := ⟨by decide, by decide⟩
theorem d6_37 : Dc prog_25_method_2_code 37 (.iload_n 3) 1 38 := ⟨by decide +kernel, rfl⟩
theorem d6_38 : Dc prog_25_method_2_code 38 (.iload 4) 2 40 := ⟨by decide +kernel, rfl⟩
theorem d6_40 : Dc prog_25_method_2_code 40 (.invokestatic 17) 3 43 := ⟨by decide +kernel, rfl⟩
theorem d6_43 : Dc prog_25_method_2_code 43 .ireturn 1 44 := ⟨by decide +kernel, rfl⟩
theorem d6_44 : Dc prog_25_method_2_code 44 (.iload_n 2) 1 45 := ⟨by decide +kernel, rfl⟩
theorem d6_45 : Dc prog_25_method_2_code 45 (.iload_n 3) 1 46 := ⟨by decide +kernel, rfl⟩
theorem d6_46 : Dc prog_25_method_2_code 46 (.invokestatic 23) 3 49 := ⟨by decide +kernel, rfl⟩
theorem d6_49 : Dc prog_25_method_2_code 49 .iadd 1 50 := ⟨by decide +kernel, rfl⟩
theorem d6_50 : Dc prog_25_method_2_code 50 (.istore_n 2) 1 51 := ⟨by decide +kernel, rfl⟩
theorem d6_51 : Dc prog_25_method_2_code 51 (.goto (-49)) 3 54 := ⟨by decide +kernel, rfl⟩
theorem d6_51t : Tg 51 (-49) 2 := ⟨by decide, by decide⟩
theorem d6_54 : Dc prog_25_method_2_code 54 (.aload_n 0) 1 55 := ⟨by decide +kernel, rfl⟩
theorem d6_55 : Dc prog_25_method_2_code 55 (.invokevirtual 7) 3 58 := ⟨by decide +kernel, rfl⟩
theorem d6_58 : Dc prog_25_method_2_code 58 (.aload_n 1) 1 59 := ⟨by decide +kernel, rfl⟩
theorem d6_59 : Dc prog_25_method_2_code 59 (.invokevirtual 7) 3 62 := ⟨by decide +kernel, rfl⟩
theorem d6_62 : Dc prog_25_method_2_code 62 (.invokestatic 17) 3 65 := ⟨by decide +kernel, rfl⟩
theorem d6_65 : Dc prog_25_method_2_code 65 .ireturn 1 66 := ⟨by decide +kernel, rfl⟩
theorem d0_0 : Dc code 0 (.iload_n 0) 1 1 := ⟨at_0, rfl⟩
theorem d0_1 : Dc code 1 (.invokestatic 19) 3 4 := ⟨at_1, rfl⟩
theorem d0_4 : Dc code 4 (.istore 5) 2 6 := ⟨at_4, rfl⟩
theorem d0_6 : Dc code 6 (.iload_n 1) 1 7 := ⟨at_6, rfl⟩
theorem d0_7 : Dc code 7 (.invokestatic 19) 3 10 := ⟨at_7, rfl⟩
theorem d0_10 : Dc code 10 (.istore 6) 2 12 := ⟨at_10, rfl⟩
theorem d0_12 : Dc code 12 (.iload 4) 2 14 := ⟨at_12, rfl⟩
theorem d0_14 : Dc code 14 (.iconst 4) 1 15 := ⟨at_14, rfl⟩
theorem d0_15 : Dc code 15 .iushr 1 16 := ⟨at_15, rfl⟩
theorem d0_16 : Dc code 16 (.iconst 1) 1 17 := ⟨at_16, rfl⟩
theorem d0_17 : Dc code 17 .iand 1 18 := ⟨at_17, rfl⟩
theorem d0_18 : Dc code 18 (.ifCond .eq 8) 3 21 := ⟨at_18, rfl⟩
theorem d0_18t : Tg 18 (8) 26 := ⟨by decide, by decide⟩
theorem d0_21 : Dc code 21 (.iload 5) 2 23 := ⟨at_21, rfl⟩
theorem d0_23 : Dc code 23 (.goto 7) 3 26 := ⟨at_23, rfl⟩
theorem d0_23t : Tg 23 (7) 30 := ⟨by decide, by decide⟩
theorem d0_26 : Dc code 26 (.iload_n 2) 1 27 := ⟨at_26, rfl⟩
theorem d0_27 : Dc code 27 (.invokestatic 19) 3 30 := ⟨at_27, rfl⟩
theorem d0_30 : Dc code 30 (.istore 7) 2 32 := ⟨at_30, rfl⟩
theorem d0_32 : Dc code 32 (.iload 4) 2 34 := ⟨at_32, rfl⟩
theorem d0_34 : Dc code 34 (.iconst 5) 1 35 := ⟨at_34, rfl⟩
theorem d0_35 : Dc code 35 .iushr 1 36 := ⟨at_35, rfl⟩
theorem d0_36 : Dc code 36 (.iconst 1) 1 37 := ⟨at_36, rfl⟩
theorem d0_37 : Dc code 37 .iand 1 38 := ⟨at_37, rfl⟩
theorem d0_38 : Dc code 38 (.ifCond .eq 8) 3 41 := ⟨at_38, rfl⟩
theorem d0_38t : Tg 38 (8) 46 := ⟨by decide, by decide⟩
theorem d0_41 : Dc code 41 (.iload 6) 2 43 := ⟨at_41, rfl⟩
theorem d0_43 : Dc code 43 (.goto 7) 3 46 := ⟨at_43, rfl⟩
theorem d0_43t : Tg 43 (7) 50 := ⟨by decide, by decide⟩
theorem d0_46 : Dc code 46 (.iload_n 3) 1 47 := ⟨at_46, rfl⟩
theorem d0_47 : Dc code 47 (.invokestatic 19) 3 50 := ⟨at_47, rfl⟩
theorem d0_50 : Dc code 50 (.istore 8) 2 52 := ⟨at_50, rfl⟩
theorem d0_52 : Dc code 52 (.iload 4) 2 54 := ⟨at_52, rfl⟩
theorem d0_54 : Dc code 54 (.iconst 3) 1 55 := ⟨at_54, rfl⟩
theorem d0_55 : Dc code 55 .iand 1 56 := ⟨at_55, rfl⟩
theorem d0_56 : Dc code 56 (.iconst 3) 1 57 := ⟨at_56, rfl⟩
theorem d0_57 : Dc code 57 .irem 1 58 := ⟨at_57, rfl⟩
theorem d0_58 : Dc code 58 (.istore 9) 2 60 := ⟨at_58, rfl⟩
theorem d0_60 : Dc code 60 (.iload 4) 2 62 := ⟨at_60, rfl⟩
theorem d0_62 : Dc code 62 (.iconst 2) 1 63 := ⟨at_62, rfl⟩
theorem d0_63 : Dc code 63 .iushr 1 64 := ⟨at_63, rfl⟩
theorem d0_64 : Dc code 64 (.iconst 3) 1 65 := ⟨at_64, rfl⟩
theorem d0_65 : Dc code 65 .iand 1 66 := ⟨at_65, rfl⟩
theorem d0_66 : Dc code 66 (.iconst 3) 1 67 := ⟨at_66, rfl⟩
theorem d0_67 : Dc code 67 .irem 1 68 := ⟨at_67, rfl⟩
theorem d0_68 : Dc code 68 (.istore 10) 2 70 := ⟨at_68, rfl⟩
theorem d0_70 : Dc code 70 (.iconst 4) 1 71 := ⟨at_70, rfl⟩
theorem d0_71 : Dc code 71 (.newarray .char) 2 73 := ⟨at_71, rfl⟩
theorem d0_73 : Dc code 73 (.astore 11) 2 75 := ⟨at_73, rfl⟩
theorem d0_75 : Dc code 75 (.iconst 4) 1 76 := ⟨at_75, rfl⟩
theorem d0_76 : Dc code 76 (.newarray .char) 2 78 := ⟨at_76, rfl⟩
theorem d0_78 : Dc code 78 (.astore 12) 2 80 := ⟨at_78, rfl⟩
theorem d0_80 : Dc code 80 (.iconst 0) 1 81 := ⟨at_80, rfl⟩
theorem d0_81 : Dc code 81 (.istore 13) 2 83 := ⟨at_81, rfl⟩
theorem d0_83 : Dc code 83 (.iload 9) 2 85 := ⟨at_83, rfl⟩
theorem d0_85 : Dc code 85 (.ifCond .le 14) 3 88 := ⟨at_85, rfl⟩
theorem d0_85t : Tg 85 (14) 99 := ⟨by decide, by decide⟩
theorem d0_88 : Dc code 88 (.aload 11) 2 90 := ⟨at_88, rfl⟩
theorem d0_90 : Dc code 90 (.iload 13) 2 92 := ⟨at_90, rfl⟩
theorem d0_92 : Dc code 92 (.iload 5) 2 94 := ⟨at_92, rfl⟩
theorem d0_94 : Dc code 94 (.invokestatic 25) 3 97 := ⟨at_94, rfl⟩
theorem d0_97 : Dc code 97 (.istore 13) 2 99 := ⟨at_97, rfl⟩
theorem d0_99 : Dc code 99 (.iload 9) 2 101 := ⟨at_99, rfl⟩
theorem d0_101 : Dc code 101 (.iconst 1) 1 102 := ⟨at_101, rfl⟩
theorem d0_102 : Dc code 102 (.if_icmp .le 14) 3 105 := ⟨at_102, rfl⟩
theorem d0_102t : Tg 102 (14) 116 := ⟨by decide, by decide⟩
theorem d0_105 : Dc code 105 (.aload 11) 2 107 := ⟨at_105, rfl⟩
theorem d0_107 : Dc code 107 (.iload 13) 2 109 := ⟨at_107, rfl⟩
theorem d0_109 : Dc code 109 (.iload 6) 2 111 := ⟨at_109, rfl⟩
theorem d0_111 : Dc code 111 (.invokestatic 25) 3 114 := ⟨at_111, rfl⟩
theorem d0_114 : Dc code 114 (.istore 13) 2 116 := ⟨at_114, rfl⟩
theorem d0_116 : Dc code 116 (.iconst 0) 1 117 := ⟨at_116, rfl⟩
theorem d0_117 : Dc code 117 (.istore 14) 2 119 := ⟨at_117, rfl⟩
theorem d0_119 : Dc code 119 (.iload 10) 2 121 := ⟨at_119, rfl⟩
theorem d0_121 : Dc code 121 (.ifCond .le 14) 3 124 := ⟨at_121, rfl⟩
theorem d0_121t : Tg 121 (14) 135 := ⟨by decide, by decide⟩
theorem d0_124 : Dc code 124 (.aload 12) 2 126 := ⟨at_124, rfl⟩
theorem d0_126 : Dc code 126 (.iload 14) 2 128 := ⟨at_126, rfl⟩
theorem d0_128 : Dc code 128 (.iload 7) 2 130 := ⟨at_128, rfl⟩
theorem d0_130 : Dc code 130 (.invokestatic 25) 3 133 := ⟨at_130, rfl⟩
theorem d0_133 : Dc code 133 (.istore 14) 2 135 := ⟨at_133, rfl⟩
theorem d0_135 : Dc code 135 (.iload 10) 2 137 := ⟨at_135, rfl⟩
theorem d0_137 : Dc code 137 (.iconst 1) 1 138 := ⟨at_137, rfl⟩
theorem d0_138 : Dc code 138 (.if_icmp .le 14) 3 141 := ⟨at_138, rfl⟩
theorem d0_138t : Tg 138 (14) 152 := ⟨by decide, by decide⟩
theorem d0_141 : Dc code 141 (.aload 12) 2 143 := ⟨at_141, rfl⟩
theorem d0_143 : Dc code 143 (.iload 14) 2 145 := ⟨at_143, rfl⟩
theorem d0_145 : Dc code 145 (.iload 8) 2 147 := ⟨at_145, rfl⟩
theorem d0_147 : Dc code 147 (.invokestatic 25) 3 150 := ⟨at_147, rfl⟩
theorem d0_150 : Dc code 150 (.istore 14) 2 152 := ⟨at_150, rfl⟩
theorem d0_152 : Dc code 152 (.aload 11) 2 154 := ⟨at_152, rfl⟩
theorem d0_154 : Dc code 154 (.iload 13) 2 156 := ⟨at_154, rfl⟩
theorem d0_156 : Dc code 156 (.invokestatic 29) 3 159 := ⟨at_156, rfl⟩
theorem d0_159 : Dc code 159 (.astore 15) 2 161 := ⟨at_159, rfl⟩
theorem d0_161 : Dc code 161 (.aload 12) 2 163 := ⟨at_161, rfl⟩
theorem d0_163 : Dc code 163 (.iload 14) 2 165 := ⟨at_163, rfl⟩
theorem d0_165 : Dc code 165 (.invokestatic 29) 3 168 := ⟨at_165, rfl⟩
theorem d0_168 : Dc code 168 (.astore 16) 2 170 := ⟨at_168, rfl⟩
theorem d0_170 : Dc code 170 (.iload 9) 2 172 := ⟨at_170, rfl⟩
theorem d0_172 : Dc code 172 (.ifCond .le 32) 3 175 := ⟨at_172, rfl⟩
theorem d0_172t : Tg 172 (32) 204 := ⟨by decide, by decide⟩
theorem d0_175 : Dc code 175 (.iload 10) 2 177 := ⟨at_175, rfl⟩
theorem d0_177 : Dc code 177 (.ifCond .le 27) 3 180 := ⟨at_177, rfl⟩
theorem d0_177t : Tg 177 (27) 204 := ⟨by decide, by decide⟩
theorem d0_180 : Dc code 180 (.iload 5) 2 182 := ⟨at_180, rfl⟩
theorem d0_182 : Dc code 182 (.iload 7) 2 184 := ⟨at_182, rfl⟩
theorem d0_184 : Dc code 184 (.if_icmp .eq 20) 3 187 := ⟨at_184, rfl⟩
theorem d0_184t : Tg 184 (20) 204 := ⟨by decide, by decide⟩
theorem d0_187 : Dc code 187 (.iload 5) 2 189 := ⟨at_187, rfl⟩
theorem d0_189 : Dc code 189 (.iload 7) 2 191 := ⟨at_189, rfl⟩
theorem d0_191 : Dc code 191 (.if_icmp .ge 7) 3 194 := ⟨at_191, rfl⟩
theorem d0_191t : Tg 191 (7) 198 := ⟨by decide, by decide⟩
theorem d0_194 : Dc code 194 (.iconst (-1)) 1 195 := ⟨at_194, rfl⟩
theorem d0_195 : Dc code 195 (.goto 4) 3 198 := ⟨at_195, rfl⟩
theorem d0_195t : Tg 195 (4) 199 := ⟨by decide, by decide⟩
theorem d0_198 : Dc code 198 (.iconst 1) 1 199 := ⟨at_198, rfl⟩
theorem d0_199 : Dc code 199 (.istore 17) 2 201 := ⟨at_199, rfl⟩
theorem d0_201 : Dc code 201 (.goto 64) 3 204 := ⟨at_201, rfl⟩
theorem d0_201t : Tg 201 (64) 265 := ⟨by decide, by decide⟩
theorem d0_204 : Dc code 204 (.iload 9) 2 206 := ⟨at_204, rfl⟩
theorem d0_206 : Dc code 206 (.iconst 1) 1 207 := ⟨at_206, rfl⟩
theorem d0_207 : Dc code 207 (.if_icmp .le 33) 3 210 := ⟨at_207, rfl⟩
theorem d0_207t : Tg 207 (33) 240 := ⟨by decide, by decide⟩
theorem d0_210 : Dc code 210 (.iload 10) 2 212 := ⟨at_210, rfl⟩
theorem d0_212 : Dc code 212 (.iconst 1) 1 213 := ⟨at_212, rfl⟩
theorem d0_213 : Dc code 213 (.if_icmp .le 27) 3 216 := ⟨at_213, rfl⟩
theorem d0_213t : Tg 213 (27) 240 := ⟨by decide, by decide⟩
theorem d0_216 : Dc code 216 (.iload 6) 2 218 := ⟨at_216, rfl⟩
theorem d0_218 : Dc code 218 (.iload 8) 2 220 := ⟨at_218, rfl⟩
theorem d0_220 : Dc code 220 (.if_icmp .eq 20) 3 223 := ⟨at_220, rfl⟩
theorem d0_220t : Tg 220 (20) 240 := ⟨by decide, by decide⟩
theorem d0_223 : Dc code 223 (.iload 6) 2 225 := ⟨at_223, rfl⟩
theorem d0_225 : Dc code 225 (.iload 8) 2 227 := ⟨at_225, rfl⟩
theorem d0_227 : Dc code 227 (.if_icmp .ge 7) 3 230 := ⟨at_227, rfl⟩
theorem d0_227t : Tg 227 (7) 234 := ⟨by decide, by decide⟩
theorem d0_230 : Dc code 230 (.iconst (-1)) 1 231 := ⟨at_230, rfl⟩
theorem d0_231 : Dc code 231 (.goto 4) 3 234 := ⟨at_231, rfl⟩
theorem d0_231t : Tg 231 (4) 235 := ⟨by decide, by decide⟩
theorem d0_234 : Dc code 234 (.iconst 1) 1 235 := ⟨at_234, rfl⟩
theorem d0_235 : Dc code 235 (.istore 17) 2 237 := ⟨at_235, rfl⟩
theorem d0_237 : Dc code 237 (.goto 28) 3 240 := ⟨at_237, rfl⟩
theorem d0_237t : Tg 237 (28) 265 := ⟨by decide, by decide⟩
theorem d0_240 : Dc code 240 (.iload 9) 2 242 := ⟨at_240, rfl⟩
theorem d0_242 : Dc code 242 (.iload 10) 2 244 := ⟨at_242, rfl⟩
theorem d0_244 : Dc code 244 (.if_icmp .ge 7) 3 247 := ⟨at_244, rfl⟩
theorem d0_244t : Tg 244 (7) 251 := ⟨by decide, by decide⟩
theorem d0_247 : Dc code 247 (.iconst (-1)) 1 248 := ⟨at_247, rfl⟩
theorem d0_248 : Dc code 248 (.goto 15) 3 251 := ⟨at_248, rfl⟩
theorem d0_248t : Tg 248 (15) 263 := ⟨by decide, by decide⟩
theorem d0_251 : Dc code 251 (.iload 9) 2 253 := ⟨at_251, rfl⟩
theorem d0_253 : Dc code 253 (.iload 10) 2 255 := ⟨at_253, rfl⟩
theorem d0_255 : Dc code 255 (.if_icmp .le 7) 3 258 := ⟨at_255, rfl⟩
theorem d0_255t : Tg 255 (7) 262 := ⟨by decide, by decide⟩
theorem d0_258 : Dc code 258 (.iconst 1) 1 259 := ⟨at_258, rfl⟩
theorem d0_259 : Dc code 259 (.goto 4) 3 262 := ⟨at_259, rfl⟩
theorem d0_259t : Tg 259 (4) 263 := ⟨by decide, by decide⟩
theorem d0_262 : Dc code 262 (.iconst 0) 1 263 := ⟨at_262, rfl⟩
theorem d0_263 : Dc code 263 (.istore 17) 2 265 := ⟨at_263, rfl⟩
theorem d0_265 : Dc code 265 (.aload 15) 2 267 := ⟨at_265, rfl⟩
theorem d0_267 : Dc code 267 (.aload 16) 2 269 := ⟨at_267, rfl⟩
theorem d0_269 : Dc code 269 (.invokestatic 33) 3 272 := ⟨at_269, rfl⟩
theorem d0_272 : Dc code 272 (.istore 18) 2 274 := ⟨at_272, rfl⟩
theorem d0_274 : Dc code 274 (.iload 18) 2 276 := ⟨at_274, rfl⟩
theorem d0_276 : Dc code 276 (.ifCond .ge 7) 3 279 := ⟨at_276, rfl⟩
theorem d0_276t : Tg 276 (7) 283 := ⟨by decide, by decide⟩
theorem d0_279 : Dc code 279 (.iconst (-1)) 1 280 := ⟨at_279, rfl⟩
theorem d0_280 : Dc code 280 (.goto 13) 3 283 := ⟨at_280, rfl⟩
theorem d0_280t : Tg 280 (13) 293 := ⟨by decide, by decide⟩
theorem d0_283 : Dc code 283 (.iload 18) 2 285 := ⟨at_283, rfl⟩
theorem d0_285 : Dc code 285 (.ifCond .le 7) 3 288 := ⟨at_285, rfl⟩
theorem d0_285t : Tg 285 (7) 292 := ⟨by decide, by decide⟩
theorem d0_288 : Dc code 288 (.iconst 1) 1 289 := ⟨at_288, rfl⟩
theorem d0_289 : Dc code 289 (.goto 4) 3 292 := ⟨at_289, rfl⟩
theorem d0_289t : Tg 289 (4) 293 := ⟨by decide, by decide⟩
theorem d0_292 : Dc code 292 (.iconst 0) 1 293 := ⟨at_292, rfl⟩
theorem d0_293 : Dc code 293 (.istore 19) 2 295 := ⟨at_293, rfl⟩
theorem d0_295 : Dc code 295 (.iload 19) 2 297 := ⟨at_295, rfl⟩
theorem d0_297 : Dc code 297 (.iload 17) 2 299 := ⟨at_297, rfl⟩
theorem d0_299 : Dc code 299 (.if_icmp .ne 7) 3 302 := ⟨at_299, rfl⟩
theorem d0_299t : Tg 299 (7) 306 := ⟨by decide, by decide⟩
theorem d0_302 : Dc code 302 (.iconst 1) 1 303 := ⟨at_302, rfl⟩
theorem d0_303 : Dc code 303 (.goto 4) 3 306 := ⟨at_303, rfl⟩
theorem d0_303t : Tg 303 (4) 307 := ⟨by decide, by decide⟩
theorem d0_306 : Dc code 306 (.iconst 0) 1 307 := ⟨at_306, rfl⟩
theorem d0_307 : Dc code 307 .ireturn 1 308 := ⟨at_307, rfl⟩
set_option maxRecDepth 65536 in
set_option maxHeartbeats 40000000 in
theorem rmCp (l : Launch) (Z : State) (a0 : Array Value) (hw : ∀ d ∈ tables_1, d.before a0 Z = true) (v : Int32) (h0 : Heap) (hE : Ext Z.heap h0) :
    Ct true l Z consts_1 (⟨"com/example/fintan/fintan/Utf8OrderComparePinLaw", "cp", "(I)I"⟩ : MethodName) method_2_code 4 (some .int) [] ({ frames := 0, cells := 0, slots := 0, locals := 0 } : Room) [] #[(.int v)] h0 (fun r u => ∃ c, r = some (.int c) ∧ own_V c ∧ h0 = u) := by
  refine Ct.intro pn_com_example_fintan_fintan_Utf8OrderComparePinLaw hE (fun m => efCp m v) nosf ⟨a0, own_EW hw⟩ ?_
  intro x T w
  refine w.iloadN d1_0 rfl ?_
  refine w.iconst (3 : Int32) d1_1 rfl ?_
  refine w.iand d1_2 ?_
  refine w.istoreN #[.val (.int v), .val (.int (v &&& (3 : Int32))), .unset, .unset] d1_3 rfl ?_
  refine w.iloadN d1_4 rfl ?_
  refine w.iconst (2 : Int32) d1_5 rfl ?_
  refine w.iushr d1_6 ?_
  refine w.istoreN #[.val (.int v), .val (.int (v &&& (3 : Int32))), .val (.int (XT.ushr v (2 : Int32))), .unset] d1_7 rfl ?_
  refine w.iloadN d1_8 rfl ?_
  refine w.ifNe d1_9 d1_9t (fun q1 => ?_) (fun q1 => ?_)
  · refine w.iloadN d1_37 rfl ?_
    refine w.iconst (1 : Int32) d1_38 rfl ?_
    refine w.icmpNe d1_39 d1_39t (fun q2 => ?_) (fun q2 => ?_)
    · refine w.iloadN d1_51 rfl ?_
      refine w.iconst (2 : Int32) d1_52 rfl ?_
      refine w.icmpNe d1_53 d1_53t (fun q3 => ?_) (fun q3 => ?_)
      · refine w.iloadN d1_64 rfl ?_
        refine w.bipush (127 : Int32) d1_65 rfl ?_
        refine w.iand d1_67 ?_
        exact w.retI d1_68 rfl ⟨_, rfl, own_v3 v, rfl⟩
      · refine w.ldcI d1_56 (tw hw 6 rfl) ?_
        refine w.iloadN d1_58 rfl ?_
        refine w.ldcI d1_59 (tw hw 7 rfl) ?_
        refine w.iand d1_61 ?_
        refine w.iadd d1_62 ?_
        exact w.retI d1_63 rfl ⟨_, rfl, own_v2 v, rfl⟩
    · refine w.ldcI d1_42 (tw hw 8 rfl) ?_
      refine w.iloadN d1_44 rfl ?_
      refine w.sipush (8191 : Int32) d1_45 rfl ?_
      refine w.iand d1_48 ?_
      refine w.iadd d1_49 ?_
      exact w.retI d1_50 rfl ⟨_, rfl, own_v1 v, rfl⟩
  · refine w.iloadN d1_12 rfl ?_
    refine w.ldcI d1_13 (tw hw 4 rfl) ?_
    refine w.irem d1_15 (by decide) ?_
    refine w.istoreN #[.val (.int v), .val (.int (v &&& (3 : Int32))), .val (.int (XT.ushr v (2 : Int32))), .val (.int ((XT.ushr v (2 : Int32)) % (1114112 : Int32)))] d1_16 rfl ?_
    refine w.iloadN d1_17 rfl ?_
    refine w.ldcI d1_18 (tw hw 5 rfl) ?_
    refine w.icmpLt d1_20 d1_20t (fun q1 => ?_) (fun q1 => ?_)
    · refine w.iloadN d1_35 rfl ?_
      exact w.retI d1_36 rfl ⟨_, rfl, own_v0a v q1, rfl⟩
    · refine w.iloadN d1_23 rfl ?_
      refine w.ldcI d1_24 (tw hw 116 rfl) ?_
      refine w.icmpGt d1_26 d1_26t (fun q2 => ?_) (fun q2 => ?_)
      · refine w.iloadN d1_35 rfl ?_
        exact w.retI d1_36 rfl ⟨_, rfl, own_v0b v q2, rfl⟩
      · refine w.iloadN d1_29 rfl ?_
        refine w.sipush (2048 : Int32) d1_30 rfl ?_
        refine w.isub d1_33 ?_
        refine w.istoreN #[.val (.int v), .val (.int (v &&& (3 : Int32))), .val (.int (XT.ushr v (2 : Int32))), .val (.int (((XT.ushr v (2 : Int32)) % (1114112 : Int32)) - (2048 : Int32)))] d1_34 rfl ?_
        refine w.iloadN d1_35 rfl ?_
        exact w.retI d1_36 rfl ⟨_, rfl, own_v0c v q1 q2, rfl⟩

set_option maxRecDepth 65536 in
set_option maxHeartbeats 40000000 in
theorem rmIc (l : Launch) (Z : State) (a0 : Array Value) (hw : ∀ d ∈ tables_1, d.before a0 Z = true) (u v : Int32) (h0 : Heap) (hE : Ext Z.heap h0) :
    Ct true l Z consts_1 (⟨"java/lang/Integer", "compare", "(II)I"⟩ : MethodName) jdk_33_method_40_code 2 (some .int) [] ({ frames := 0, cells := 0, slots := 0, locals := 0 } : Room) [] #[(.int u), (.int v)] h0 (fun r w => r = some (.int (if u < v then -1 else if u = v then 0 else 1)) ∧ h0 = w) := by
  refine Ct.intro pn_java_lang_Integer hE (fun m => efIc m u v) nosf ⟨a0, own_EW hw⟩ ?_
  intro x T w
  refine w.iloadN d9_0 rfl ?_
  refine w.iloadN d9_1 rfl ?_
  refine w.icmpGe d9_2 d9_2t (fun q1 => ?_) (fun q1 => ?_)
  · refine w.iloadN d9_9 rfl ?_
    refine w.iloadN d9_10 rfl ?_
    refine w.icmpNe d9_11 d9_11t (fun q2 => ?_) (fun q2 => ?_)
    · refine w.iconst (1 : Int32) d9_18 rfl ?_
      exact w.retI d9_19 rfl ⟨by rw [if_neg q1, if_neg q2], rfl⟩
    · refine w.iconst (0 : Int32) d9_14 rfl ?_
      refine w.goto d9_15 d9_15t ?_
      exact w.retI d9_19 rfl ⟨by rw [if_neg q1, if_pos q2], rfl⟩
  · refine w.iconst (-1 : Int32) d9_5 rfl ?_
    refine w.goto d9_6 d9_6t ?_
    exact w.retI d9_19 rfl ⟨by rw [if_pos q1], rfl⟩

set_option maxRecDepth 65536 in
set_option maxHeartbeats 40000000 in
theorem rmCnt (l : Launch) (Z : State) (a0 : Array Value) (hw : ∀ d ∈ tables_1, d.before a0 Z = true) (c : Int32) (h0 : Heap) (hE : Ext Z.heap h0) :
    Ct true l Z consts_1 (⟨"java/lang/Character", "charCount", "(I)I"⟩ : MethodName) jdk_89_method_18_code 1 (some .int) [] ({ frames := 0, cells := 0, slots := 0, locals := 0 } : Room) [] #[(.int c)] h0 (fun r w => r = some (.int (own_k c)) ∧ h0 = w) := by
  refine Ct.intro pn_java_lang_Character hE (fun m => efCnt m c) nosf ⟨a0, own_EW hw⟩ ?_
  intro x T w
  refine w.iloadN d26_0 rfl ?_
  refine w.ldcI d26_1 (tw hw 120 rfl) ?_
  refine w.icmpLt d26_3 d26_3t (fun q1 => ?_) (fun q1 => ?_)
  · refine w.iconst (1 : Int32) d26_10 rfl ?_
    exact w.retI d26_11 rfl ⟨by rw [own_k, if_pos q1], rfl⟩
  · refine w.iconst (2 : Int32) d26_6 rfl ?_
    refine w.goto d26_7 d26_7t ?_
    exact w.retI d26_11 rfl ⟨by rw [own_k, if_neg q1], rfl⟩

set_option maxRecDepth 65536 in
set_option maxHeartbeats 40000000 in
theorem rmHi (l : Launch) (Z : State) (a0 : Array Value) (hw : ∀ d ∈ tables_1, d.before a0 Z = true) (c : Int32) (h0 : Heap) (hE : Ext Z.heap h0) :
    Ct true l Z consts_1 (⟨"java/lang/Character", "isHighSurrogate", "(C)Z"⟩ : MethodName) jdk_89_method_14_code 1 (some .boolean) [] ({ frames := 0, cells := 0, slots := 0, locals := 0 } : Room) [] #[(.int c)] h0 (fun r w => r = some (.int (if ¬ c < 55296 ∧ c < 56320 then 1 else 0)) ∧ h0 = w) := by
  refine Ct.intro pn_java_lang_Character hE (fun m => ef_rmHi m c) nosf ⟨a0, own_EW hw⟩ ?_
  intro x T w
  refine w.iloadN d25_0 rfl ?_
  refine w.ldcI d25_1 (tw hw 114 rfl) ?_
  refine w.icmpLt d25_3 d25_3t (fun q1 => ?_) (fun q1 => ?_)
  · refine w.iconst (0 : Int32) d25_16 rfl ?_
    exact w.retN d25_17 rfl (by simp) ⟨by rw [if_neg (fun e => e.1 q1)]; rfl, rfl⟩
  · refine w.iloadN d25_6 rfl ?_
    refine w.ldcI d25_7 (tw hw 115 rfl) ?_
    refine w.icmpGe d25_9 d25_9t (fun q2 => ?_) (fun q2 => ?_)
    · refine w.iconst (0 : Int32) d25_16 rfl ?_
      exact w.retN d25_17 rfl (by simp) ⟨by rw [if_neg (fun e => q2 e.2)]; rfl, rfl⟩
    · refine w.iconst (1 : Int32) d25_12 rfl ?_
      refine w.goto d25_13 d25_13t ?_
      exact w.retN d25_17 rfl (by simp) ⟨by rw [if_pos ⟨q1, q2⟩]; rfl, rfl⟩

set_option maxRecDepth 65536 in
set_option maxHeartbeats 40000000 in
theorem rmLo (l : Launch) (Z : State) (a0 : Array Value) (hw : ∀ d ∈ tables_1, d.before a0 Z = true) (c : Int32) (h0 : Heap) (hE : Ext Z.heap h0) :
    Ct true l Z consts_1 (⟨"java/lang/Character", "isLowSurrogate", "(C)Z"⟩ : MethodName) jdk_89_method_15_code 1 (some .boolean) [] ({ frames := 0, cells := 0, slots := 0, locals := 0 } : Room) [] #[(.int c)] h0 (fun r w => r = some (.int (if ¬ c < 56320 ∧ c < 57344 then 1 else 0)) ∧ h0 = w) := by
  refine Ct.intro pn_java_lang_Character hE (fun m => ef_rmLo m c) nosf ⟨a0, own_EW hw⟩ ?_
  intro x T w
  refine w.iloadN d27_0 rfl ?_
  refine w.ldcI d27_1 (tw hw 115 rfl) ?_
  refine w.icmpLt d27_3 d27_3t (fun q1 => ?_) (fun q1 => ?_)
  · refine w.iconst (0 : Int32) d27_16 rfl ?_
    exact w.retN d27_17 rfl (by simp) ⟨by rw [if_neg (fun e => e.1 q1)]; rfl, rfl⟩
  · refine w.iloadN d27_6 rfl ?_
    refine w.ldcI d27_7 (tw hw 124 rfl) ?_
    refine w.icmpGe d27_9 d27_9t (fun q2 => ?_) (fun q2 => ?_)
    · refine w.iconst (0 : Int32) d27_16 rfl ?_
      exact w.retN d27_17 rfl (by simp) ⟨by rw [if_neg (fun e => q2 e.2)]; rfl, rfl⟩
    · refine w.iconst (1 : Int32) d27_12 rfl ?_
      refine w.goto d27_13 d27_13t ?_
      exact w.retN d27_17 rfl (by simp) ⟨by rw [if_pos ⟨q1, q2⟩]; rfl, rfl⟩

set_option maxRecDepth 65536 in
set_option maxHeartbeats 40000000 in
theorem rmTc (l : Launch) (Z : State) (a0 : Array Value) (hw : ∀ d ∈ tables_1, d.before a0 Z = true) (c e : Int32) (h0 : Heap) (hE : Ext Z.heap h0) :
    Ct true l Z consts_1 (⟨"java/lang/Character", "toCodePoint", "(CC)I"⟩ : MethodName) jdk_89_method_19_code 2 (some .int) [] ({ frames := 0, cells := 0, slots := 0, locals := 0 } : Room) [] #[(.int c), (.int e)] h0 (fun r w => r = some (.int (((c <<< ((10 : Int32) &&& 31)) + e) + (-56613888 : Int32))) ∧ h0 = w) := by
  refine Ct.intro pn_java_lang_Character hE (fun m => efTc m c e) nosf ⟨a0, own_EW hw⟩ ?_
  intro x T w
  refine w.iloadN d28_0 rfl ?_
  refine w.bipush (10 : Int32) d28_1 rfl ?_
  refine w.ishl d28_3 ?_
  refine w.iloadN d28_4 rfl ?_
  refine w.iadd d28_5 ?_
  refine w.ldcI d28_6 (tw hw 128 rfl) ?_
  refine w.iadd d28_8 ?_
  exact w.retI d28_9 rfl ⟨rfl, rfl⟩

set_option maxRecDepth 65536 in
set_option maxHeartbeats 40000000 in
theorem rmPutB_0 (l : Launch) (Z : State) (a0 : Array Value) (hw : ∀ d ∈ tables_1, d.before a0 Z = true) (u : Addr) (ku : ClassId) (c : Int32) (h0 : Heap) (hE : Ext Z.heap h0) (ge_u : Z.heap.size ≤ u) (A : Arv Z h0 u ku .char (4 : Int32) [] (.int 0)) (hb : c < 65536) (y : nar .char c = c) :
    Ct true l Z consts_1 (⟨"com/example/fintan/fintan/Utf8OrderComparePinLaw", "put", "([CII)I"⟩ : MethodName) method_3_code 4 (some .int) [] ({ frames := 0, cells := 0, slots := 0, locals := 0 } : Room) [u] #[(.ref u), (.int (0 : Int32)), (.int c)] h0 (fun r w => r = some (.int (1 : Int32)) ∧ Keep h0 w [u] ∧ Arv Z w u ku .char (4 : Int32) [(.int c)] (.int 0)) := by
  refine Ct.intro pn_com_example_fintan_fintan_Utf8OrderComparePinLaw hE (fun m => efPut m u _ c) (onesf ge_u A.lt) ⟨a0, own_EW hw⟩ ?_
  intro x T w
  refine w.iloadN d10_0 rfl ?_
  refine w.ldcI d10_1 (tw hw 6 rfl) ?_
  refine w.icmpGe d10_3 d10_3t (fun q => absurd hb q) (fun _ => ?_)
  refine w.aloadN d10_6 rfl rfl ?_
  refine w.iloadN d10_7 rfl ?_
  refine w.iloadN d10_8 rfl ?_
  refine w.i2c d10_9 ?_
  refine w.stC 0 [(.int 0)] d10_10 A ⟨by decide, by decide⟩ (by decide) (pad_rep [] (.int 0) 1) (by simp) (fnc _) (List.mem_of_getElem? (i := 0) rfl) ?_
  intro T h1 w W0 B0
  rw [ncc] at B0
  rw [y] at B0
  have C0 : Arv Z h1 u ku .char (4 : Int32) [(.int c)] (.int 0) := B0
  refine w.iloadN d10_11 rfl ?_
  refine w.iconst (1 : Int32) d10_12 rfl ?_
  refine w.iadd d10_13 ?_
  exact w.retI d10_14 rfl ⟨rfl, ((Keep.refl _ _).wr W0 (Or.inl (List.mem_singleton.mpr rfl))), C0⟩

set_option maxRecDepth 65536 in
set_option maxHeartbeats 40000000 in
theorem rmPutS_0 (l : Launch) (Z : State) (a0 : Array Value) (hw : ∀ d ∈ tables_1, d.before a0 Z = true) (u : Addr) (ku : ClassId) (c : Int32) (h0 : Heap) (hE : Ext Z.heap h0) (ge_u : Z.heap.size ≤ u) (A : Arv Z h0 u ku .char (4 : Int32) [] (.int 0)) (hb : ¬ c < 65536) :
    Ct true l Z consts_1 (⟨"com/example/fintan/fintan/Utf8OrderComparePinLaw", "put", "([CII)I"⟩ : MethodName) method_3_code 4 (some .int) [] ({ frames := 0, cells := 0, slots := 0, locals := 0 } : Room) [u] #[(.ref u), (.int (0 : Int32)), (.int c)] h0 (fun r w => r = some (.int (2 : Int32)) ∧ Keep h0 w [u] ∧ Arv Z w u ku .char (4 : Int32) [(.int (own_hi16 c)), (.int (own_lo16 c))] (.int 0)) := by
  refine Ct.intro pn_com_example_fintan_fintan_Utf8OrderComparePinLaw hE (fun m => efPut m u _ c) (onesf ge_u A.lt) ⟨a0, own_EW hw⟩ ?_
  intro x T w
  refine w.iloadN d10_0 rfl ?_
  refine w.ldcI d10_1 (tw hw 6 rfl) ?_
  refine w.icmpGe d10_3 d10_3t (fun _ => ?_) (fun q => absurd q hb)
  refine w.iloadN d10_15 rfl ?_
  refine w.ldcI d10_16 (tw hw 6 rfl) ?_
  refine w.isub d10_18 ?_
  refine w.istoreN #[.val (.ref u), .val (.int (0 : Int32)), .val (.int c), .val (.int (c - (65536 : Int32)))] d10_19 rfl ?_
  refine w.aloadN d10_20 rfl rfl ?_
  refine w.iloadN d10_21 rfl ?_
  refine w.ldcI d10_22 (tw hw 5 rfl) ?_
  refine w.iloadN d10_24 rfl ?_
  refine w.bipush (10 : Int32) d10_25 rfl ?_
  refine w.iushr d10_27 ?_
  refine w.iadd d10_28 ?_
  refine w.i2c d10_29 ?_
  refine w.stC 0 [(.int 0)] d10_30 A ⟨by decide, by decide⟩ (by decide) (pad_rep [] (.int 0) 1) (by simp) (fnc _) (List.mem_of_getElem? (i := 0) rfl) ?_
  intro T h1 w W0 B0
  rw [ncc] at B0
  have C0 : Arv Z h1 u ku .char (4 : Int32) [(.int (own_hi16 c))] (.int 0) := B0
  refine w.aloadN d10_31 rfl rfl ?_
  refine w.iloadN d10_32 rfl ?_
  refine w.iconst (1 : Int32) d10_33 rfl ?_
  refine w.iadd d10_34 ?_
  refine w.ldcI d10_35 (tw hw 56 rfl) ?_
  refine w.iloadN d10_37 rfl ?_
  refine w.sipush (1023 : Int32) d10_38 rfl ?_
  refine w.iand d10_41 ?_
  refine w.iadd d10_42 ?_
  refine w.i2c d10_43 ?_
  refine w.stC 1 [(.int (own_hi16 c)), (.int 0)] d10_44 C0 ⟨by decide, by decide⟩ (by decide) (pad_rep [(.int (own_hi16 c))] (.int 0) 1) (by simp) (fnc _) (List.mem_of_getElem? (i := 0) rfl) ?_
  intro T h2 w W1 B1
  rw [ncc] at B1
  have C1 : Arv Z h2 u ku .char (4 : Int32) [(.int (own_hi16 c)), (.int (own_lo16 c))] (.int 0) := B1
  refine w.iloadN d10_45 rfl ?_
  refine w.iconst (2 : Int32) d10_46 rfl ?_
  refine w.iadd d10_47 ?_
  exact w.retI d10_48 rfl ⟨rfl, (((Keep.refl _ _).wr W0 (Or.inl (List.mem_singleton.mpr rfl))).wr W1 (Or.inl (List.mem_singleton.mpr rfl))), C1⟩

set_option maxRecDepth 65536 in
set_option maxHeartbeats 40000000 in
theorem rmPutB_1 (l : Launch) (Z : State) (a0 : Array Value) (hw : ∀ d ∈ tables_1, d.before a0 Z = true) (u : Addr) (ku : ClassId) (g0 : Int32) (c : Int32) (h0 : Heap) (hE : Ext Z.heap h0) (ge_u : Z.heap.size ≤ u) (A : Arv Z h0 u ku .char (4 : Int32) [(.int g0)] (.int 0)) (hb : c < 65536) (y : nar .char c = c) :
    Ct true l Z consts_1 (⟨"com/example/fintan/fintan/Utf8OrderComparePinLaw", "put", "([CII)I"⟩ : MethodName) method_3_code 4 (some .int) [] ({ frames := 0, cells := 0, slots := 0, locals := 0 } : Room) [u] #[(.ref u), (.int (1 : Int32)), (.int c)] h0 (fun r w => r = some (.int (2 : Int32)) ∧ Keep h0 w [u] ∧ Arv Z w u ku .char (4 : Int32) [(.int g0), (.int c)] (.int 0)) := by
  refine Ct.intro pn_com_example_fintan_fintan_Utf8OrderComparePinLaw hE (fun m => efPut m u _ c) (onesf ge_u A.lt) ⟨a0, own_EW hw⟩ ?_
  intro x T w
  refine w.iloadN d10_0 rfl ?_
  refine w.ldcI d10_1 (tw hw 6 rfl) ?_
  refine w.icmpGe d10_3 d10_3t (fun q => absurd hb q) (fun _ => ?_)
  refine w.aloadN d10_6 rfl rfl ?_
  refine w.iloadN d10_7 rfl ?_
  refine w.iloadN d10_8 rfl ?_
  refine w.i2c d10_9 ?_
  refine w.stC 1 [(.int g0), (.int 0)] d10_10 A ⟨by decide, by decide⟩ (by decide) (pad_rep [(.int g0)] (.int 0) 1) (by simp) (fnc _) (List.mem_of_getElem? (i := 0) rfl) ?_
  intro T h1 w W0 B0
  rw [ncc] at B0
  rw [y] at B0
  have C0 : Arv Z h1 u ku .char (4 : Int32) [(.int g0), (.int c)] (.int 0) := B0
  refine w.iloadN d10_11 rfl ?_
  refine w.iconst (1 : Int32) d10_12 rfl ?_
  refine w.iadd d10_13 ?_
  exact w.retI d10_14 rfl ⟨rfl, ((Keep.refl _ _).wr W0 (Or.inl (List.mem_singleton.mpr rfl))), C0⟩

set_option maxRecDepth 65536 in
set_option maxHeartbeats 40000000 in
theorem rmPutS_1 (l : Launch) (Z : State) (a0 : Array Value) (hw : ∀ d ∈ tables_1, d.before a0 Z = true) (u : Addr) (ku : ClassId) (g0 : Int32) (c : Int32) (h0 : Heap) (hE : Ext Z.heap h0) (ge_u : Z.heap.size ≤ u) (A : Arv Z h0 u ku .char (4 : Int32) [(.int g0)] (.int 0)) (hb : ¬ c < 65536) :
    Ct true l Z consts_1 (⟨"com/example/fintan/fintan/Utf8OrderComparePinLaw", "put", "([CII)I"⟩ : MethodName) method_3_code 4 (some .int) [] ({ frames := 0, cells := 0, slots := 0, locals := 0 } : Room) [u] #[(.ref u), (.int (1 : Int32)), (.int c)] h0 (fun r w => r = some (.int (3 : Int32)) ∧ Keep h0 w [u] ∧ Arv Z w u ku .char (4 : Int32) [(.int g0), (.int (own_hi16 c)), (.int (own_lo16 c))] (.int 0)) := by
  refine Ct.intro pn_com_example_fintan_fintan_Utf8OrderComparePinLaw hE (fun m => efPut m u _ c) (onesf ge_u A.lt) ⟨a0, own_EW hw⟩ ?_
  intro x T w
  refine w.iloadN d10_0 rfl ?_
  refine w.ldcI d10_1 (tw hw 6 rfl) ?_
  refine w.icmpGe d10_3 d10_3t (fun _ => ?_) (fun q => absurd q hb)
  refine w.iloadN d10_15 rfl ?_
  refine w.ldcI d10_16 (tw hw 6 rfl) ?_
  refine w.isub d10_18 ?_
  refine w.istoreN #[.val (.ref u), .val (.int (1 : Int32)), .val (.int c), .val (.int (c - (65536 : Int32)))] d10_19 rfl ?_
  refine w.aloadN d10_20 rfl rfl ?_
  refine w.iloadN d10_21 rfl ?_
  refine w.ldcI d10_22 (tw hw 5 rfl) ?_
  refine w.iloadN d10_24 rfl ?_
  refine w.bipush (10 : Int32) d10_25 rfl ?_
  refine w.iushr d10_27 ?_
  refine w.iadd d10_28 ?_
  refine w.i2c d10_29 ?_
  refine w.stC 1 [(.int g0), (.int 0)] d10_30 A ⟨by decide, by decide⟩ (by decide) (pad_rep [(.int g0)] (.int 0) 1) (by simp) (fnc _) (List.mem_of_getElem? (i := 0) rfl) ?_
  intro T h1 w W0 B0
  rw [ncc] at B0
  have C0 : Arv Z h1 u ku .char (4 : Int32) [(.int g0), (.int (own_hi16 c))] (.int 0) := B0
  refine w.aloadN d10_31 rfl rfl ?_
  refine w.iloadN d10_32 rfl ?_
  refine w.iconst (1 : Int32) d10_33 rfl ?_
  refine w.iadd d10_34 ?_
  refine w.ldcI d10_35 (tw hw 56 rfl) ?_
  refine w.iloadN d10_37 rfl ?_
  refine w.sipush (1023 : Int32) d10_38 rfl ?_
  refine w.iand d10_41 ?_
  refine w.iadd d10_42 ?_
  refine w.i2c d10_43 ?_
  refine w.stC 2 [(.int g0), (.int (own_hi16 c)), (.int 0)] d10_44 C0 ⟨by decide, by decide⟩ (by decide) (pad_rep [(.int g0), (.int (own_hi16 c))] (.int 0) 1) (by simp) (fnc _) (List.mem_of_getElem? (i := 0) rfl) ?_
  intro T h2 w W1 B1
  rw [ncc] at B1
  have C1 : Arv Z h2 u ku .char (4 : Int32) [(.int g0), (.int (own_hi16 c)), (.int (own_lo16 c))] (.int 0) := B1
  refine w.iloadN d10_45 rfl ?_
  refine w.iconst (2 : Int32) d10_46 rfl ?_
  refine w.iadd d10_47 ?_
  exact w.retI d10_48 rfl ⟨rfl, (((Keep.refl _ _).wr W0 (Or.inl (List.mem_singleton.mpr rfl))).wr W1 (Or.inl (List.mem_singleton.mpr rfl))), C1⟩

set_option maxRecDepth 65536 in
set_option maxHeartbeats 40000000 in
theorem rmPutB_2 (l : Launch) (Z : State) (a0 : Array Value) (hw : ∀ d ∈ tables_1, d.before a0 Z = true) (u : Addr) (ku : ClassId) (g0 g1 : Int32) (c : Int32) (h0 : Heap) (hE : Ext Z.heap h0) (ge_u : Z.heap.size ≤ u) (A : Arv Z h0 u ku .char (4 : Int32) [(.int g0), (.int g1)] (.int 0)) (hb : c < 65536) (y : nar .char c = c) :
    Ct true l Z consts_1 (⟨"com/example/fintan/fintan/Utf8OrderComparePinLaw", "put", "([CII)I"⟩ : MethodName) method_3_code 4 (some .int) [] ({ frames := 0, cells := 0, slots := 0, locals := 0 } : Room) [u] #[(.ref u), (.int (2 : Int32)), (.int c)] h0 (fun r w => r = some (.int (3 : Int32)) ∧ Keep h0 w [u] ∧ Arv Z w u ku .char (4 : Int32) [(.int g0), (.int g1), (.int c)] (.int 0)) := by
  refine Ct.intro pn_com_example_fintan_fintan_Utf8OrderComparePinLaw hE (fun m => efPut m u _ c) (onesf ge_u A.lt) ⟨a0, own_EW hw⟩ ?_
  intro x T w
  refine w.iloadN d10_0 rfl ?_
  refine w.ldcI d10_1 (tw hw 6 rfl) ?_
  refine w.icmpGe d10_3 d10_3t (fun q => absurd hb q) (fun _ => ?_)
  refine w.aloadN d10_6 rfl rfl ?_
  refine w.iloadN d10_7 rfl ?_
  refine w.iloadN d10_8 rfl ?_
  refine w.i2c d10_9 ?_
  refine w.stC 2 [(.int g0), (.int g1), (.int 0)] d10_10 A ⟨by decide, by decide⟩ (by decide) (pad_rep [(.int g0), (.int g1)] (.int 0) 1) (by simp) (fnc _) (List.mem_of_getElem? (i := 0) rfl) ?_
  intro T h1 w W0 B0
  rw [ncc] at B0
  rw [y] at B0
  have C0 : Arv Z h1 u ku .char (4 : Int32) [(.int g0), (.int g1), (.int c)] (.int 0) := B0
  refine w.iloadN d10_11 rfl ?_
  refine w.iconst (1 : Int32) d10_12 rfl ?_
  refine w.iadd d10_13 ?_
  exact w.retI d10_14 rfl ⟨rfl, ((Keep.refl _ _).wr W0 (Or.inl (List.mem_singleton.mpr rfl))), C0⟩

set_option maxRecDepth 65536 in
set_option maxHeartbeats 40000000 in
theorem rmPutS_2 (l : Launch) (Z : State) (a0 : Array Value) (hw : ∀ d ∈ tables_1, d.before a0 Z = true) (u : Addr) (ku : ClassId) (g0 g1 : Int32) (c : Int32) (h0 : Heap) (hE : Ext Z.heap h0) (ge_u : Z.heap.size ≤ u) (A : Arv Z h0 u ku .char (4 : Int32) [(.int g0), (.int g1)] (.int 0)) (hb : ¬ c < 65536) :
    Ct true l Z consts_1 (⟨"com/example/fintan/fintan/Utf8OrderComparePinLaw", "put", "([CII)I"⟩ : MethodName) method_3_code 4 (some .int) [] ({ frames := 0, cells := 0, slots := 0, locals := 0 } : Room) [u] #[(.ref u), (.int (2 : Int32)), (.int c)] h0 (fun r w => r = some (.int (4 : Int32)) ∧ Keep h0 w [u] ∧ Arv Z w u ku .char (4 : Int32) [(.int g0), (.int g1), (.int (own_hi16 c)), (.int (own_lo16 c))] (.int 0)) := by
  refine Ct.intro pn_com_example_fintan_fintan_Utf8OrderComparePinLaw hE (fun m => efPut m u _ c) (onesf ge_u A.lt) ⟨a0, own_EW hw⟩ ?_
  intro x T w
  refine w.iloadN d10_0 rfl ?_
  refine w.ldcI d10_1 (tw hw 6 rfl) ?_
  refine w.icmpGe d10_3 d10_3t (fun _ => ?_) (fun q => absurd q hb)
  refine w.iloadN d10_15 rfl ?_
  refine w.ldcI d10_16 (tw hw 6 rfl) ?_
  refine w.isub d10_18 ?_
  refine w.istoreN #[.val (.ref u), .val (.int (2 : Int32)), .val (.int c), .val (.int (c - (65536 : Int32)))] d10_19 rfl ?_
  refine w.aloadN d10_20 rfl rfl ?_
  refine w.iloadN d10_21 rfl ?_
  refine w.ldcI d10_22 (tw hw 5 rfl) ?_
  refine w.iloadN d10_24 rfl ?_
  refine w.bipush (10 : Int32) d10_25 rfl ?_
  refine w.iushr d10_27 ?_
  refine w.iadd d10_28 ?_
  refine w.i2c d10_29 ?_
  refine w.stC 2 [(.int g0), (.int g1), (.int 0)] d10_30 A ⟨by decide, by decide⟩ (by decide) (pad_rep [(.int g0), (.int g1)] (.int 0) 1) (by simp) (fnc _) (List.mem_of_getElem? (i := 0) rfl) ?_
  intro T h1 w W0 B0
  rw [ncc] at B0
  have C0 : Arv Z h1 u ku .char (4 : Int32) [(.int g0), (.int g1), (.int (own_hi16 c))] (.int 0) := B0
  refine w.aloadN d10_31 rfl rfl ?_
  refine w.iloadN d10_32 rfl ?_
  refine w.iconst (1 : Int32) d10_33 rfl ?_
  refine w.iadd d10_34 ?_
  refine w.ldcI d10_35 (tw hw 56 rfl) ?_
  refine w.iloadN d10_37 rfl ?_
  refine w.sipush (1023 : Int32) d10_38 rfl ?_
  refine w.iand d10_41 ?_
  refine w.iadd d10_42 ?_
  refine w.i2c d10_43 ?_
  refine w.stC 3 [(.int g0), (.int g1), (.int (own_hi16 c)), (.int 0)] d10_44 C0 ⟨by decide, by decide⟩ (by decide) (pad_rep [(.int g0), (.int g1), (.int (own_hi16 c))] (.int 0) 1) (by simp) (fnc _) (List.mem_of_getElem? (i := 0) rfl) ?_
  intro T h2 w W1 B1
  rw [ncc] at B1
  have C1 : Arv Z h2 u ku .char (4 : Int32) [(.int g0), (.int g1), (.int (own_hi16 c)), (.int (own_lo16 c))] (.int 0) := B1
  refine w.iloadN d10_45 rfl ?_
  refine w.iconst (2 : Int32) d10_46 rfl ?_
  refine w.iadd d10_47 ?_
  exact w.retI d10_48 rfl ⟨rfl, (((Keep.refl _ _).wr W0 (Or.inl (List.mem_singleton.mpr rfl))).wr W1 (Or.inl (List.mem_singleton.mpr rfl))), C1⟩

theorem rmPut1 (l : Launch) (Z : State) (a0 : Array Value) (hw : ∀ d ∈ tables_1, d.before a0 Z = true) (u : Addr) (ku : ClassId) (i c : Int32) (h0 : Heap) (hE : Ext Z.heap h0) (ge_u : Z.heap.size ≤ u) (hU : UP0 Z h0 u ku i) (V : own_V c) : Ct true l Z consts_1 (⟨"com/example/fintan/fintan/Utf8OrderComparePinLaw", "put", "([CII)I"⟩ : MethodName) method_3_code 4 (some .int) [] ({ frames := 0, cells := 0, slots := 0, locals := 0 } : Room) [u] #[(.ref u), (.int i), (.int c)] h0 (fun r w => ∃ k, r = some (.int k) ∧ Keep h0 w [u] ∧ UP1 Z w u ku k c) := by
  obtain ⟨rfl, A⟩ := hU
  by_cases hb : c < 65536
  · exact (rmPutB_0 l Z a0 hw u ku c h0 hE ge_u A hb (own_Cb V hb).2.2).mono fun v h q => ⟨_, q.1, q.2.1, Or.inl ⟨hb, rfl, q.2.2⟩⟩
  · exact (rmPutS_0 l Z a0 hw u ku c h0 hE ge_u A hb).mono fun v h q => ⟨_, q.1, q.2.1, Or.inr ⟨hb, rfl, q.2.2⟩⟩
theorem rmPut2 (l : Launch) (Z : State) (a0 : Array Value) (hw : ∀ d ∈ tables_1, d.before a0 Z = true) (u : Addr) (ku : ClassId) (i g c : Int32) (h0 : Heap) (hE : Ext Z.heap h0) (ge_u : Z.heap.size ≤ u) (hU : UP1 Z h0 u ku i g) (V : own_V c) : Ct true l Z consts_1 (⟨"com/example/fintan/fintan/Utf8OrderComparePinLaw", "put", "([CII)I"⟩ : MethodName) method_3_code 4 (some .int) [] ({ frames := 0, cells := 0, slots := 0, locals := 0 } : Room) [u] #[(.ref u), (.int i), (.int c)] h0 (fun r w => ∃ k, r = some (.int k) ∧ Keep h0 w [u] ∧ UP2 Z w u ku k g c) := by
  rcases hU with ⟨hg, rfl, A⟩ | ⟨hg, rfl, A⟩
  · by_cases hb : c < 65536
    · exact (rmPutB_1 l Z a0 hw u ku g c h0 hE ge_u A hb (own_Cb V hb).2.2).mono fun v h q => ⟨_, q.1, q.2.1, Or.inl ⟨hg, hb, rfl, q.2.2⟩⟩
    · exact (rmPutS_1 l Z a0 hw u ku g c h0 hE ge_u A hb).mono fun v h q => ⟨_, q.1, q.2.1, Or.inr (Or.inl ⟨hg, hb, rfl, q.2.2⟩)⟩
  · by_cases hb : c < 65536
    · exact (rmPutB_2 l Z a0 hw u ku _ _ c h0 hE ge_u A hb (own_Cb V hb).2.2).mono fun v h q => ⟨_, q.1, q.2.1, Or.inr (Or.inr (Or.inl ⟨hg, hb, rfl, q.2.2⟩))⟩
    · exact (rmPutS_2 l Z a0 hw u ku _ _ c h0 hE ge_u A hb).mono fun v h q => ⟨_, q.1, q.2.1, Or.inr (Or.inr (Or.inr ⟨hg, hb, rfl, q.2.2⟩))⟩
set_option maxRecDepth 65536 in
set_option maxHeartbeats 40000000 in
theorem rmStrN_0 (l : Launch) (Z : State) (a0 : Array Value) (hw : ∀ d ∈ tables_1, d.before a0 Z = true) (hr : rest_1_c.value a0 Z none Z [] = some true) (u : Addr) (ku : ClassId)  (h0 : Heap) (hE : Ext Z.heap h0) (A : Arv Z h0 u ku .char (4 : Int32) [] (.int 0))   :
    Ct true l Z consts_1 (⟨"com/example/fintan/fintan/Utf8OrderComparePinLaw", "str", "([CI)Ljava/lang/String;"⟩ : MethodName) method_4_code 3 (some (.object "java/lang/String")) [] ({ frames := 6, cells := 6, slots := 20, locals := 88 } : Room) [] #[(.ref u), (.int (0 : Int32))] h0 (fun r w => ∃ s t, r = some (.ref s) ∧ Ext h0 w ∧ StrL Z w s t 0 []) := by
  refine Ct.intro pn_com_example_fintan_fintan_Utf8OrderComparePinLaw hE (fun m => efStr m u _) nosf ⟨a0, own_EW hw⟩ ?_
  intro x T w
  refine w.iloadN d2_0 rfl ?_
  refine w.ifNe d2_1 d2_1t (fun q => absurd (by decide) q) (fun _ => ?_)
  have sz0 := w.size
  refine w.new d2_4 (tw hw 13 rfl) (tw hw 14 rfl) (tw hw 15 rfl) ⟨by decide, by decide⟩ ?_
  intro s T h1 g_s w E41 A42 D43
  have ge_s : Z.heap.size ≤ s := by rw [g_s]; exact sz0
  have F44 : Fld Z h1 s "java/lang/String" "value" "[B" .null := D43 (Or.inr (tw hw 28 rfl)) (ty := (.array .byte)) (by decide)
  have F45 : Fld Z h1 s "java/lang/String" "coder" "B" (.int (0 : Int32)) := D43 (Or.inr (tw hw 29 rfl)) (ty := .byte) (by decide)
  refine w.dup d2_7 rfl ?_
  refine w.iconst (0 : Int32) d2_8 rfl ?_
  have sz0 := w.size
  refine w.newP 0 "[C" d2_9 (tw hw 9 rfl) (by decide) (by decide) (by decide) (by decide) ⟨by decide, by decide⟩ ?_
  intro d T h2 kd g_d w E_d A_d X_d
  have ge_d : Z.heap.size ≤ d := by rw [g_d]; exact sz0
  have ne_s_d : s ≠ d := Nat.ne_of_lt (Nat.lt_of_lt_of_eq A42.lt g_d.symm)
  have F46 := A42.ext E_d
  have F47 := F44.ext E_d
  have F48 := F45.ext E_d
  refine w.callI (argsL := [(.ref d)]) (rest := [(.ref s)]) 1 d2_11 rfl (tw hw 16 rfl) (tw hw 17 rfl) (tw hw 15 rfl) (tw hw 18 rfl) (by decide) (rmS1_0 l Z a0 hw hr s d kd _ h2 w.old ge_s F46 F47 F48 A_d) (lenOf pd_1 rfl) rfl rfl (Nat.le_refl _) ⟨by decide, by decide, by decide, by decide⟩ (allS (List.mem_of_getElem? (i := 1) rfl) all0) ?_
  intro T h3 r w _ hQ
  obtain ⟨rfl, K_s, t_s, S_s⟩ := hQ
  show Go x _ Z _ _ _ T 14 #[.val (.ref u), .val (.int (0 : Int32)), .unset] [(.ref s)]
  exact w.retA d2_14 rfl rfl rfl rfl ⟨s, t_s, rfl, (ext_keep (((keep_ext (ws := []) E41).ext E_d).trans K_s (allS (Or.inr (Nat.le_of_eq g_s.symm)) all0))), S_s⟩

set_option maxRecDepth 65536 in
set_option maxHeartbeats 40000000 in
theorem rmStrN_1 (l : Launch) (Z : State) (a0 : Array Value) (hw : ∀ d ∈ tables_1, d.before a0 Z = true) (hr : rest_1_c.value a0 Z none Z [] = some true) (u : Addr) (ku : ClassId) (c0 : Int32) (h0 : Heap) (hE : Ext Z.heap h0) (A : Arv Z h0 u ku .char (4 : Int32) [(.int c0)] (.int 0)) (z0 : 0 ≤ c0.toInt) (v0 : c0.toInt < 65536) (y0 : nar .char c0 = c0) :
    Ct true l Z consts_1 (⟨"com/example/fintan/fintan/Utf8OrderComparePinLaw", "str", "([CI)Ljava/lang/String;"⟩ : MethodName) method_4_code 3 (some (.object "java/lang/String")) [] ({ frames := 6, cells := 6, slots := 20, locals := 88 } : Room) [] #[(.ref u), (.int (1 : Int32))] h0 (fun r w => ∃ s t, r = some (.ref s) ∧ Ext h0 w ∧ ((StrL Z w s t 0 [nar .byte c0] ∧ (¬ 255 < c0 ∧ True)) ∨ StrL Z w s t 1 [nar .byte (c0 >>> ((0 : Int32) &&& 31)), nar .byte (c0 >>> ((8 : Int32) &&& 31))])) := by
  refine Ct.intro pn_com_example_fintan_fintan_Utf8OrderComparePinLaw hE (fun m => efStr m u _) nosf ⟨a0, own_EW hw⟩ ?_
  intro x T w
  refine w.iloadN d2_0 rfl ?_
  refine w.ifNe d2_1 d2_1t (fun _ => ?_) (fun q => absurd q (by decide))
  refine w.iloadN d2_15 rfl ?_
  refine w.iconst (1 : Int32) d2_16 rfl ?_
  refine w.icmpNe d2_17 d2_17t (fun q => absurd (by decide) q) (fun _ => ?_)
  refine w.iconst (1 : Int32) d2_20 rfl ?_
  have sz0 := w.size
  refine w.newP 1 "[C" d2_21 (tw hw 9 rfl) (by decide) (by decide) (by decide) (by decide) ⟨by decide, by decide⟩ ?_
  intro d T h1 kd g_d w E_d A_d X_d
  have ge_d : Z.heap.size ≤ d := by rw [g_d]; exact sz0
  have ne_u_d : u ≠ d := Nat.ne_of_lt (Nat.lt_of_lt_of_eq A.lt g_d.symm)
  have F41 := A.ext E_d
  refine w.astoreN #[.val (.ref u), .val (.int (1 : Int32)), .val (.ref d)] d2_23 rfl rfl ?_
  refine w.aloadN d2_24 rfl rfl ?_
  refine w.iconst (0 : Int32) d2_25 rfl ?_
  refine w.aloadN d2_26 rfl rfl ?_
  refine w.iconst (0 : Int32) d2_27 rfl ?_
  obtain ⟨cl0, Ar0, -, S0, -, H0, -⟩ := id F41
  refine w.caload d2_28 Ar0 (inb_of S0 (by decide)) (H0.at (inb_of S0 (by decide)) rfl) ?_
  refine w.stC 0 [(.int 0)] d2_29 A_d ⟨by decide, by decide⟩ (by decide) (pad_rep [] (.int 0) 1) (by simp) (fnc _) (List.mem_of_getElem? (i := 0) rfl) ?_
  intro T h2 w W42 A43
  rw [y0] at A43
  have A44 : Arv Z h2 d kd .char (1 : Int32) [(.int c0)] (.int 0) := A43
  have F45 := F41.other W42 ne_u_d
  have KK := (((keep_ext (ws := []) E_d)).wr W42 (Or.inr (Nat.le_of_eq g_d.symm)))
  have sz0 := w.size
  refine w.new d2_30 (tw hw 13 rfl) (tw hw 14 rfl) (tw hw 15 rfl) ⟨by decide, by decide⟩ ?_
  intro s T h3 g_s w E46 A47 D48
  have ne_d_s : d ≠ s := Nat.ne_of_lt (Nat.lt_of_lt_of_eq A44.lt g_s.symm)
  have ge_s : Z.heap.size ≤ s := by rw [g_s]; exact sz0
  have F49 := A44.ext E46
  have F50 : Fld Z h3 s "java/lang/String" "value" "[B" .null := D48 (Or.inr (tw hw 28 rfl)) (ty := (.array .byte)) (by decide)
  have F51 : Fld Z h3 s "java/lang/String" "coder" "B" (.int (0 : Int32)) := D48 (Or.inr (tw hw 29 rfl)) (ty := .byte) (by decide)
  refine w.dup d2_33 rfl ?_
  refine w.aloadN d2_34 rfl rfl ?_
  refine w.callI (argsL := [(.ref d)]) (rest := [(.ref s)]) 1 d2_35 rfl (tw hw 16 rfl) (tw hw 17 rfl) (tw hw 15 rfl) (tw hw 18 rfl) (by decide) (rmS1E_1 l Z a0 hw hr s d kd c0 h3 w.old ge_s A47 F50 F51 F49 z0 v0) (lenOf pd_1 rfl) rfl rfl (Nat.le_refl _) ⟨by decide, by decide, by decide, by decide⟩ (allS (List.mem_of_getElem? (i := 0) rfl) all0) ?_
  intro T h4 r w _ hQ
  obtain ⟨rfl, K_s, t, S_s⟩ := hQ
  exact w.retA d2_38 rfl rfl rfl rfl ⟨s, t, rfl, ext_keep ((KK.ext E46).trans K_s (allS (Or.inr (Nat.le_trans KK.1 (Nat.le_of_eq g_s.symm))) all0)), S_s⟩

set_option maxRecDepth 65536 in
set_option maxHeartbeats 40000000 in
theorem rmStrN_2 (l : Launch) (Z : State) (a0 : Array Value) (hw : ∀ d ∈ tables_1, d.before a0 Z = true) (hr : rest_1_c.value a0 Z none Z [] = some true) (u : Addr) (ku : ClassId) (c0 c1 : Int32) (h0 : Heap) (hE : Ext Z.heap h0) (A : Arv Z h0 u ku .char (4 : Int32) [(.int c0), (.int c1)] (.int 0)) (z0 : 0 ≤ c0.toInt) (v0 : c0.toInt < 65536) (z1 : 0 ≤ c1.toInt) (v1 : c1.toInt < 65536) (y0 : nar .char c0 = c0) (y1 : nar .char c1 = c1) :
    Ct true l Z consts_1 (⟨"com/example/fintan/fintan/Utf8OrderComparePinLaw", "str", "([CI)Ljava/lang/String;"⟩ : MethodName) method_4_code 3 (some (.object "java/lang/String")) [] ({ frames := 6, cells := 6, slots := 20, locals := 88 } : Room) [] #[(.ref u), (.int (2 : Int32))] h0 (fun r w => ∃ s t, r = some (.ref s) ∧ Ext h0 w ∧ ((StrL Z w s t 0 [nar .byte c0, nar .byte c1] ∧ (¬ 255 < c0 ∧ ¬ 255 < c1 ∧ True)) ∨ StrL Z w s t 1 [nar .byte (c0 >>> ((0 : Int32) &&& 31)), nar .byte (c0 >>> ((8 : Int32) &&& 31)), nar .byte (c1 >>> ((0 : Int32) &&& 31)), nar .byte (c1 >>> ((8 : Int32) &&& 31))])) := by
  refine Ct.intro pn_com_example_fintan_fintan_Utf8OrderComparePinLaw hE (fun m => efStr m u _) nosf ⟨a0, own_EW hw⟩ ?_
  intro x T w
  refine w.iloadN d2_0 rfl ?_
  refine w.ifNe d2_1 d2_1t (fun _ => ?_) (fun q => absurd q (by decide))
  refine w.iloadN d2_15 rfl ?_
  refine w.iconst (1 : Int32) d2_16 rfl ?_
  refine w.icmpNe d2_17 d2_17t (fun _ => ?_) (fun q => absurd q (by decide))
  refine w.iloadN d2_39 rfl ?_
  refine w.iconst (2 : Int32) d2_40 rfl ?_
  refine w.icmpNe d2_41 d2_41t (fun q => absurd (by decide) q) (fun _ => ?_)
  refine w.iconst (2 : Int32) d2_44 rfl ?_
  have sz0 := w.size
  refine w.newP 2 "[C" d2_45 (tw hw 9 rfl) (by decide) (by decide) (by decide) (by decide) ⟨by decide, by decide⟩ ?_
  intro d T h1 kd g_d w E_d A_d X_d
  have ge_d : Z.heap.size ≤ d := by rw [g_d]; exact sz0
  have ne_u_d : u ≠ d := Nat.ne_of_lt (Nat.lt_of_lt_of_eq A.lt g_d.symm)
  have F41 := A.ext E_d
  refine w.astoreN #[.val (.ref u), .val (.int (2 : Int32)), .val (.ref d)] d2_47 rfl rfl ?_
  refine w.aloadN d2_48 rfl rfl ?_
  refine w.iconst (0 : Int32) d2_49 rfl ?_
  refine w.aloadN d2_50 rfl rfl ?_
  refine w.iconst (0 : Int32) d2_51 rfl ?_
  obtain ⟨cl0, Ar0, -, S0, -, H0, -⟩ := id F41
  refine w.caload d2_52 Ar0 (inb_of S0 (by decide)) (H0.at (inb_of S0 (by decide)) rfl) ?_
  refine w.stC 0 [(.int 0)] d2_53 A_d ⟨by decide, by decide⟩ (by decide) (pad_rep [] (.int 0) 1) (by simp) (fnc _) (List.mem_of_getElem? (i := 0) rfl) ?_
  intro T h2 w W42 A43
  rw [y0] at A43
  have A44 : Arv Z h2 d kd .char (2 : Int32) [(.int c0)] (.int 0) := A43
  have F45 := F41.other W42 ne_u_d
  refine w.aloadN d2_54 rfl rfl ?_
  refine w.iconst (1 : Int32) d2_55 rfl ?_
  refine w.aloadN d2_56 rfl rfl ?_
  refine w.iconst (1 : Int32) d2_57 rfl ?_
  obtain ⟨cl1, Ar1, -, S1, -, H1, -⟩ := id F45
  refine w.caload d2_58 Ar1 (inb_of S1 (by decide)) (H1.at (inb_of S1 (by decide)) rfl) ?_
  refine w.stC 1 [(.int c0), (.int 0)] d2_59 A44 ⟨by decide, by decide⟩ (by decide) (pad_rep [(.int c0)] (.int 0) 1) (by simp) (fnc _) (List.mem_of_getElem? (i := 0) rfl) ?_
  intro T h3 w W46 A47
  rw [y1] at A47
  have A48 : Arv Z h3 d kd .char (2 : Int32) [(.int c0), (.int c1)] (.int 0) := A47
  have F49 := F45.other W46 ne_u_d
  have KK := ((((keep_ext (ws := []) E_d)).wr W42 (Or.inr (Nat.le_of_eq g_d.symm))).wr W46 (Or.inr (Nat.le_of_eq g_d.symm)))
  have sz0 := w.size
  refine w.new d2_60 (tw hw 13 rfl) (tw hw 14 rfl) (tw hw 15 rfl) ⟨by decide, by decide⟩ ?_
  intro s T h4 g_s w E50 A51 D52
  have ne_d_s : d ≠ s := Nat.ne_of_lt (Nat.lt_of_lt_of_eq A48.lt g_s.symm)
  have ge_s : Z.heap.size ≤ s := by rw [g_s]; exact sz0
  have F53 := A48.ext E50
  have F54 : Fld Z h4 s "java/lang/String" "value" "[B" .null := D52 (Or.inr (tw hw 28 rfl)) (ty := (.array .byte)) (by decide)
  have F55 : Fld Z h4 s "java/lang/String" "coder" "B" (.int (0 : Int32)) := D52 (Or.inr (tw hw 29 rfl)) (ty := .byte) (by decide)
  refine w.dup d2_63 rfl ?_
  refine w.aloadN d2_64 rfl rfl ?_
  refine w.callI (argsL := [(.ref d)]) (rest := [(.ref s)]) 1 d2_65 rfl (tw hw 16 rfl) (tw hw 17 rfl) (tw hw 15 rfl) (tw hw 18 rfl) (by decide) (rmS1E_2 l Z a0 hw hr s d kd c0 c1 h4 w.old ge_s A51 F54 F55 F53 z0 v0 z1 v1) (lenOf pd_1 rfl) rfl rfl (Nat.le_refl _) ⟨by decide, by decide, by decide, by decide⟩ (allS (List.mem_of_getElem? (i := 0) rfl) all0) ?_
  intro T h5 r w _ hQ
  obtain ⟨rfl, K_s, t, S_s⟩ := hQ
  exact w.retA d2_68 rfl rfl rfl rfl ⟨s, t, rfl, ext_keep ((KK.ext E50).trans K_s (allS (Or.inr (Nat.le_trans KK.1 (Nat.le_of_eq g_s.symm))) all0)), S_s⟩

set_option maxRecDepth 65536 in
set_option maxHeartbeats 40000000 in
theorem rmStrN_3 (l : Launch) (Z : State) (a0 : Array Value) (hw : ∀ d ∈ tables_1, d.before a0 Z = true) (hr : rest_1_c.value a0 Z none Z [] = some true) (u : Addr) (ku : ClassId) (c0 c1 c2 : Int32) (h0 : Heap) (hE : Ext Z.heap h0) (A : Arv Z h0 u ku .char (4 : Int32) [(.int c0), (.int c1), (.int c2)] (.int 0)) (z0 : 0 ≤ c0.toInt) (v0 : c0.toInt < 65536) (z1 : 0 ≤ c1.toInt) (v1 : c1.toInt < 65536) (z2 : 0 ≤ c2.toInt) (v2 : c2.toInt < 65536) (y0 : nar .char c0 = c0) (y1 : nar .char c1 = c1) (y2 : nar .char c2 = c2) :
    Ct true l Z consts_1 (⟨"com/example/fintan/fintan/Utf8OrderComparePinLaw", "str", "([CI)Ljava/lang/String;"⟩ : MethodName) method_4_code 3 (some (.object "java/lang/String")) [] ({ frames := 6, cells := 6, slots := 20, locals := 88 } : Room) [] #[(.ref u), (.int (3 : Int32))] h0 (fun r w => ∃ s t, r = some (.ref s) ∧ Ext h0 w ∧ ((StrL Z w s t 0 [nar .byte c0, nar .byte c1, nar .byte c2] ∧ (¬ 255 < c0 ∧ ¬ 255 < c1 ∧ ¬ 255 < c2 ∧ True)) ∨ StrL Z w s t 1 [nar .byte (c0 >>> ((0 : Int32) &&& 31)), nar .byte (c0 >>> ((8 : Int32) &&& 31)), nar .byte (c1 >>> ((0 : Int32) &&& 31)), nar .byte (c1 >>> ((8 : Int32) &&& 31)), nar .byte (c2 >>> ((0 : Int32) &&& 31)), nar .byte (c2 >>> ((8 : Int32) &&& 31))])) := by
  refine Ct.intro pn_com_example_fintan_fintan_Utf8OrderComparePinLaw hE (fun m => efStr m u _) nosf ⟨a0, own_EW hw⟩ ?_
  intro x T w
  refine w.iloadN d2_0 rfl ?_
  refine w.ifNe d2_1 d2_1t (fun _ => ?_) (fun q => absurd q (by decide))
  refine w.iloadN d2_15 rfl ?_
  refine w.iconst (1 : Int32) d2_16 rfl ?_
  refine w.icmpNe d2_17 d2_17t (fun _ => ?_) (fun q => absurd q (by decide))
  refine w.iloadN d2_39 rfl ?_
  refine w.iconst (2 : Int32) d2_40 rfl ?_
  refine w.icmpNe d2_41 d2_41t (fun _ => ?_) (fun q => absurd q (by decide))
  refine w.iloadN d2_69 rfl ?_
  refine w.iconst (3 : Int32) d2_70 rfl ?_
  refine w.icmpNe d2_71 d2_71t (fun q => absurd (by decide) q) (fun _ => ?_)
  refine w.iconst (3 : Int32) d2_74 rfl ?_
  have sz0 := w.size
  refine w.newP 3 "[C" d2_75 (tw hw 9 rfl) (by decide) (by decide) (by decide) (by decide) ⟨by decide, by decide⟩ ?_
  intro d T h1 kd g_d w E_d A_d X_d
  have ge_d : Z.heap.size ≤ d := by rw [g_d]; exact sz0
  have ne_u_d : u ≠ d := Nat.ne_of_lt (Nat.lt_of_lt_of_eq A.lt g_d.symm)
  have F41 := A.ext E_d
  refine w.astoreN #[.val (.ref u), .val (.int (3 : Int32)), .val (.ref d)] d2_77 rfl rfl ?_
  refine w.aloadN d2_78 rfl rfl ?_
  refine w.iconst (0 : Int32) d2_79 rfl ?_
  refine w.aloadN d2_80 rfl rfl ?_
  refine w.iconst (0 : Int32) d2_81 rfl ?_
  obtain ⟨cl0, Ar0, -, S0, -, H0, -⟩ := id F41
  refine w.caload d2_82 Ar0 (inb_of S0 (by decide)) (H0.at (inb_of S0 (by decide)) rfl) ?_
  refine w.stC 0 [(.int 0)] d2_83 A_d ⟨by decide, by decide⟩ (by decide) (pad_rep [] (.int 0) 1) (by simp) (fnc _) (List.mem_of_getElem? (i := 0) rfl) ?_
  intro T h2 w W42 A43
  rw [y0] at A43
  have A44 : Arv Z h2 d kd .char (3 : Int32) [(.int c0)] (.int 0) := A43
  have F45 := F41.other W42 ne_u_d
  refine w.aloadN d2_84 rfl rfl ?_
  refine w.iconst (1 : Int32) d2_85 rfl ?_
  refine w.aloadN d2_86 rfl rfl ?_
  refine w.iconst (1 : Int32) d2_87 rfl ?_
  obtain ⟨cl1, Ar1, -, S1, -, H1, -⟩ := id F45
  refine w.caload d2_88 Ar1 (inb_of S1 (by decide)) (H1.at (inb_of S1 (by decide)) rfl) ?_
  refine w.stC 1 [(.int c0), (.int 0)] d2_89 A44 ⟨by decide, by decide⟩ (by decide) (pad_rep [(.int c0)] (.int 0) 1) (by simp) (fnc _) (List.mem_of_getElem? (i := 0) rfl) ?_
  intro T h3 w W46 A47
  rw [y1] at A47
  have A48 : Arv Z h3 d kd .char (3 : Int32) [(.int c0), (.int c1)] (.int 0) := A47
  have F49 := F45.other W46 ne_u_d
  refine w.aloadN d2_90 rfl rfl ?_
  refine w.iconst (2 : Int32) d2_91 rfl ?_
  refine w.aloadN d2_92 rfl rfl ?_
  refine w.iconst (2 : Int32) d2_93 rfl ?_
  obtain ⟨cl2, Ar2, -, S2, -, H2, -⟩ := id F49
  refine w.caload d2_94 Ar2 (inb_of S2 (by decide)) (H2.at (inb_of S2 (by decide)) rfl) ?_
  refine w.stC 2 [(.int c0), (.int c1), (.int 0)] d2_95 A48 ⟨by decide, by decide⟩ (by decide) (pad_rep [(.int c0), (.int c1)] (.int 0) 1) (by simp) (fnc _) (List.mem_of_getElem? (i := 0) rfl) ?_
  intro T h4 w W50 A51
  rw [y2] at A51
  have A52 : Arv Z h4 d kd .char (3 : Int32) [(.int c0), (.int c1), (.int c2)] (.int 0) := A51
  have F53 := F49.other W50 ne_u_d
  have KK := (((((keep_ext (ws := []) E_d)).wr W42 (Or.inr (Nat.le_of_eq g_d.symm))).wr W46 (Or.inr (Nat.le_of_eq g_d.symm))).wr W50 (Or.inr (Nat.le_of_eq g_d.symm)))
  have sz0 := w.size
  refine w.new d2_96 (tw hw 13 rfl) (tw hw 14 rfl) (tw hw 15 rfl) ⟨by decide, by decide⟩ ?_
  intro s T h5 g_s w E54 A55 D56
  have ne_d_s : d ≠ s := Nat.ne_of_lt (Nat.lt_of_lt_of_eq A52.lt g_s.symm)
  have ge_s : Z.heap.size ≤ s := by rw [g_s]; exact sz0
  have F57 := A52.ext E54
  have F58 : Fld Z h5 s "java/lang/String" "value" "[B" .null := D56 (Or.inr (tw hw 28 rfl)) (ty := (.array .byte)) (by decide)
  have F59 : Fld Z h5 s "java/lang/String" "coder" "B" (.int (0 : Int32)) := D56 (Or.inr (tw hw 29 rfl)) (ty := .byte) (by decide)
  refine w.dup d2_99 rfl ?_
  refine w.aloadN d2_100 rfl rfl ?_
  refine w.callI (argsL := [(.ref d)]) (rest := [(.ref s)]) 1 d2_101 rfl (tw hw 16 rfl) (tw hw 17 rfl) (tw hw 15 rfl) (tw hw 18 rfl) (by decide) (rmS1E_3 l Z a0 hw hr s d kd c0 c1 c2 h5 w.old ge_s A55 F58 F59 F57 z0 v0 z1 v1 z2 v2) (lenOf pd_1 rfl) rfl rfl (Nat.le_refl _) ⟨by decide, by decide, by decide, by decide⟩ (allS (List.mem_of_getElem? (i := 0) rfl) all0) ?_
  intro T h6 r w _ hQ
  obtain ⟨rfl, K_s, t, S_s⟩ := hQ
  exact w.retA d2_104 rfl rfl rfl rfl ⟨s, t, rfl, ext_keep ((KK.ext E54).trans K_s (allS (Or.inr (Nat.le_trans KK.1 (Nat.le_of_eq g_s.symm))) all0)), S_s⟩

set_option maxRecDepth 65536 in
set_option maxHeartbeats 40000000 in
theorem rmStrN_4 (l : Launch) (Z : State) (a0 : Array Value) (hw : ∀ d ∈ tables_1, d.before a0 Z = true) (hr : rest_1_c.value a0 Z none Z [] = some true) (u : Addr) (ku : ClassId) (c0 c1 c2 c3 : Int32) (h0 : Heap) (hE : Ext Z.heap h0) (A : Arv Z h0 u ku .char (4 : Int32) [(.int c0), (.int c1), (.int c2), (.int c3)] (.int 0)) (z0 : 0 ≤ c0.toInt) (v0 : c0.toInt < 65536) (z1 : 0 ≤ c1.toInt) (v1 : c1.toInt < 65536) (z2 : 0 ≤ c2.toInt) (v2 : c2.toInt < 65536) (z3 : 0 ≤ c3.toInt) (v3 : c3.toInt < 65536) (y0 : nar .char c0 = c0) (y1 : nar .char c1 = c1) (y2 : nar .char c2 = c2) (y3 : nar .char c3 = c3) :
    Ct true l Z consts_1 (⟨"com/example/fintan/fintan/Utf8OrderComparePinLaw", "str", "([CI)Ljava/lang/String;"⟩ : MethodName) method_4_code 3 (some (.object "java/lang/String")) [] ({ frames := 6, cells := 6, slots := 20, locals := 88 } : Room) [] #[(.ref u), (.int (4 : Int32))] h0 (fun r w => ∃ s t, r = some (.ref s) ∧ Ext h0 w ∧ ((StrL Z w s t 0 [nar .byte c0, nar .byte c1, nar .byte c2, nar .byte c3] ∧ (¬ 255 < c0 ∧ ¬ 255 < c1 ∧ ¬ 255 < c2 ∧ ¬ 255 < c3 ∧ True)) ∨ StrL Z w s t 1 [nar .byte (c0 >>> ((0 : Int32) &&& 31)), nar .byte (c0 >>> ((8 : Int32) &&& 31)), nar .byte (c1 >>> ((0 : Int32) &&& 31)), nar .byte (c1 >>> ((8 : Int32) &&& 31)), nar .byte (c2 >>> ((0 : Int32) &&& 31)), nar .byte (c2 >>> ((8 : Int32) &&& 31)), nar .byte (c3 >>> ((0 : Int32) &&& 31)), nar .byte (c3 >>> ((8 : Int32) &&& 31))])) := by
  refine Ct.intro pn_com_example_fintan_fintan_Utf8OrderComparePinLaw hE (fun m => efStr m u _) nosf ⟨a0, own_EW hw⟩ ?_
  intro x T w
  refine w.iloadN d2_0 rfl ?_
  refine w.ifNe d2_1 d2_1t (fun _ => ?_) (fun q => absurd q (by decide))
  refine w.iloadN d2_15 rfl ?_
  refine w.iconst (1 : Int32) d2_16 rfl ?_
  refine w.icmpNe d2_17 d2_17t (fun _ => ?_) (fun q => absurd q (by decide))
  refine w.iloadN d2_39 rfl ?_
  refine w.iconst (2 : Int32) d2_40 rfl ?_
  refine w.icmpNe d2_41 d2_41t (fun _ => ?_) (fun q => absurd q (by decide))
  refine w.iloadN d2_69 rfl ?_
  refine w.iconst (3 : Int32) d2_70 rfl ?_
  refine w.icmpNe d2_71 d2_71t (fun _ => ?_) (fun q => absurd q (by decide))
  refine w.iconst (4 : Int32) d2_105 rfl ?_
  have sz0 := w.size
  refine w.newP 4 "[C" d2_106 (tw hw 9 rfl) (by decide) (by decide) (by decide) (by decide) ⟨by decide, by decide⟩ ?_
  intro d T h1 kd g_d w E_d A_d X_d
  have ge_d : Z.heap.size ≤ d := by rw [g_d]; exact sz0
  have ne_u_d : u ≠ d := Nat.ne_of_lt (Nat.lt_of_lt_of_eq A.lt g_d.symm)
  have F41 := A.ext E_d
  refine w.astoreN #[.val (.ref u), .val (.int (4 : Int32)), .val (.ref d)] d2_108 rfl rfl ?_
  refine w.aloadN d2_109 rfl rfl ?_
  refine w.iconst (0 : Int32) d2_110 rfl ?_
  refine w.aloadN d2_111 rfl rfl ?_
  refine w.iconst (0 : Int32) d2_112 rfl ?_
  obtain ⟨cl0, Ar0, -, S0, -, H0, -⟩ := id F41
  refine w.caload d2_113 Ar0 (inb_of S0 (by decide)) (H0.at (inb_of S0 (by decide)) rfl) ?_
  refine w.stC 0 [(.int 0)] d2_114 A_d ⟨by decide, by decide⟩ (by decide) (pad_rep [] (.int 0) 1) (by simp) (fnc _) (List.mem_of_getElem? (i := 0) rfl) ?_
  intro T h2 w W42 A43
  rw [y0] at A43
  have A44 : Arv Z h2 d kd .char (4 : Int32) [(.int c0)] (.int 0) := A43
  have F45 := F41.other W42 ne_u_d
  refine w.aloadN d2_115 rfl rfl ?_
  refine w.iconst (1 : Int32) d2_116 rfl ?_
  refine w.aloadN d2_117 rfl rfl ?_
  refine w.iconst (1 : Int32) d2_118 rfl ?_
  obtain ⟨cl1, Ar1, -, S1, -, H1, -⟩ := id F45
  refine w.caload d2_119 Ar1 (inb_of S1 (by decide)) (H1.at (inb_of S1 (by decide)) rfl) ?_
  refine w.stC 1 [(.int c0), (.int 0)] d2_120 A44 ⟨by decide, by decide⟩ (by decide) (pad_rep [(.int c0)] (.int 0) 1) (by simp) (fnc _) (List.mem_of_getElem? (i := 0) rfl) ?_
  intro T h3 w W46 A47
  rw [y1] at A47
  have A48 : Arv Z h3 d kd .char (4 : Int32) [(.int c0), (.int c1)] (.int 0) := A47
  have F49 := F45.other W46 ne_u_d
  refine w.aloadN d2_121 rfl rfl ?_
  refine w.iconst (2 : Int32) d2_122 rfl ?_
  refine w.aloadN d2_123 rfl rfl ?_
  refine w.iconst (2 : Int32) d2_124 rfl ?_
  obtain ⟨cl2, Ar2, -, S2, -, H2, -⟩ := id F49
  refine w.caload d2_125 Ar2 (inb_of S2 (by decide)) (H2.at (inb_of S2 (by decide)) rfl) ?_
  refine w.stC 2 [(.int c0), (.int c1), (.int 0)] d2_126 A48 ⟨by decide, by decide⟩ (by decide) (pad_rep [(.int c0), (.int c1)] (.int 0) 1) (by simp) (fnc _) (List.mem_of_getElem? (i := 0) rfl) ?_
  intro T h4 w W50 A51
  rw [y2] at A51
  have A52 : Arv Z h4 d kd .char (4 : Int32) [(.int c0), (.int c1), (.int c2)] (.int 0) := A51
  have F53 := F49.other W50 ne_u_d
  refine w.aloadN d2_127 rfl rfl ?_
  refine w.iconst (3 : Int32) d2_128 rfl ?_
  refine w.aloadN d2_129 rfl rfl ?_
  refine w.iconst (3 : Int32) d2_130 rfl ?_
  obtain ⟨cl3, Ar3, -, S3, -, H3, -⟩ := id F53
  refine w.caload d2_131 Ar3 (inb_of S3 (by decide)) (H3.at (inb_of S3 (by decide)) rfl) ?_
  refine w.stC 3 [(.int c0), (.int c1), (.int c2), (.int 0)] d2_132 A52 ⟨by decide, by decide⟩ (by decide) (pad_rep [(.int c0), (.int c1), (.int c2)] (.int 0) 1) (by simp) (fnc _) (List.mem_of_getElem? (i := 0) rfl) ?_
  intro T h5 w W54 A55
  rw [y3] at A55
  have A56 : Arv Z h5 d kd .char (4 : Int32) [(.int c0), (.int c1), (.int c2), (.int c3)] (.int 0) := A55
  have F57 := F53.other W54 ne_u_d
  have KK := ((((((keep_ext (ws := []) E_d)).wr W42 (Or.inr (Nat.le_of_eq g_d.symm))).wr W46 (Or.inr (Nat.le_of_eq g_d.symm))).wr W50 (Or.inr (Nat.le_of_eq g_d.symm))).wr W54 (Or.inr (Nat.le_of_eq g_d.symm)))
  have sz0 := w.size
  refine w.new d2_133 (tw hw 13 rfl) (tw hw 14 rfl) (tw hw 15 rfl) ⟨by decide, by decide⟩ ?_
  intro s T h6 g_s w E58 A59 D60
  have ne_d_s : d ≠ s := Nat.ne_of_lt (Nat.lt_of_lt_of_eq A56.lt g_s.symm)
  have ge_s : Z.heap.size ≤ s := by rw [g_s]; exact sz0
  have F61 := A56.ext E58
  have F62 : Fld Z h6 s "java/lang/String" "value" "[B" .null := D60 (Or.inr (tw hw 28 rfl)) (ty := (.array .byte)) (by decide)
  have F63 : Fld Z h6 s "java/lang/String" "coder" "B" (.int (0 : Int32)) := D60 (Or.inr (tw hw 29 rfl)) (ty := .byte) (by decide)
  refine w.dup d2_136 rfl ?_
  refine w.aloadN d2_137 rfl rfl ?_
  refine w.callI (argsL := [(.ref d)]) (rest := [(.ref s)]) 1 d2_138 rfl (tw hw 16 rfl) (tw hw 17 rfl) (tw hw 15 rfl) (tw hw 18 rfl) (by decide) (rmS1E_4 l Z a0 hw hr s d kd c0 c1 c2 c3 h6 w.old ge_s A59 F62 F63 F61 z0 v0 z1 v1 z2 v2 z3 v3) (lenOf pd_1 rfl) rfl rfl (Nat.le_refl _) ⟨by decide, by decide, by decide, by decide⟩ (allS (List.mem_of_getElem? (i := 0) rfl) all0) ?_
  intro T h7 r w _ hQ
  obtain ⟨rfl, K_s, t, S_s⟩ := hQ
  exact w.retA d2_141 rfl rfl rfl rfl ⟨s, t, rfl, ext_keep ((KK.ext E58).trans K_s (allS (Or.inr (Nat.le_trans KK.1 (Nat.le_of_eq g_s.symm))) all0)), S_s⟩

theorem rmStr0 (l : Launch) (Z : State) (a0 : Array Value) (hw : ∀ d ∈ tables_1, d.before a0 Z = true) (hr : rest_1_c.value a0 Z none Z [] = some true) (u : Addr) (ku : ClassId) (i : Int32) (h0 : Heap) (hE : Ext Z.heap h0) (hU : UP0 Z h0 u ku i) : Ct true l Z consts_1 (⟨"com/example/fintan/fintan/Utf8OrderComparePinLaw", "str", "([CI)Ljava/lang/String;"⟩ : MethodName) method_4_code 3 (some (.object "java/lang/String")) [] ({ frames := 6, cells := 6, slots := 20, locals := 88 } : Room) [] #[(.ref u), (.int i)] h0 (fun r w => ∃ s, r = some (.ref s) ∧ Ext h0 w ∧ SP0 Z w s) := by
  obtain ⟨rfl, A⟩ := hU
  exact (rmStrN_0 l Z a0 hw hr u ku  h0 hE A  ).mono fun v h q => by
      obtain ⟨s, t, e1, e2, S⟩ := q
      exact ⟨s, e1, e2, ⟨t, S⟩⟩
theorem rmStr1 (l : Launch) (Z : State) (a0 : Array Value) (hw : ∀ d ∈ tables_1, d.before a0 Z = true) (hr : rest_1_c.value a0 Z none Z [] = some true) (u : Addr) (ku : ClassId) (i x0 : Int32) (h0 : Heap) (hE : Ext Z.heap h0) (hU : UP1 Z h0 u ku i x0) (Vx0 : own_V x0) : Ct true l Z consts_1 (⟨"com/example/fintan/fintan/Utf8OrderComparePinLaw", "str", "([CI)Ljava/lang/String;"⟩ : MethodName) method_4_code 3 (some (.object "java/lang/String")) [] ({ frames := 6, cells := 6, slots := 20, locals := 88 } : Room) [] #[(.ref u), (.int i)] h0 (fun r w => ∃ s, r = some (.ref s) ∧ Ext h0 w ∧ SP1 Z w s x0) := by
  rcases hU with ⟨hx0, rfl, A⟩ | ⟨hx0, rfl, A⟩
  · exact (rmStrN_1 l Z a0 hw hr u ku _ h0 hE A (own_Cb Vx0 hx0).1 (own_Cb Vx0 hx0).2.1 (own_Cb Vx0 hx0).2.2).mono fun v h q => by
      obtain ⟨s, t, e1, e2, S⟩ := q
      exact ⟨s, e1, e2, Or.inl ⟨hx0, t, S⟩⟩
  · exact (rmStrN_2 l Z a0 hw hr u ku _ _ h0 hE A (own_Ch x0).1 (own_Ch x0).2.1 (own_Cl x0).1 (own_Cl x0).2.1 (own_Ch x0).2.2 (own_Cl x0).2.2).mono fun v h q => by
      obtain ⟨s, t, e1, e2, S⟩ := q
      exact ⟨s, e1, e2, Or.inr ⟨hx0, t, S⟩⟩
theorem rmStr2 (l : Launch) (Z : State) (a0 : Array Value) (hw : ∀ d ∈ tables_1, d.before a0 Z = true) (hr : rest_1_c.value a0 Z none Z [] = some true) (u : Addr) (ku : ClassId) (i x0 x1 : Int32) (h0 : Heap) (hE : Ext Z.heap h0) (hU : UP2 Z h0 u ku i x0 x1) (Vx0 : own_V x0) (Vx1 : own_V x1) : Ct true l Z consts_1 (⟨"com/example/fintan/fintan/Utf8OrderComparePinLaw", "str", "([CI)Ljava/lang/String;"⟩ : MethodName) method_4_code 3 (some (.object "java/lang/String")) [] ({ frames := 6, cells := 6, slots := 20, locals := 88 } : Room) [] #[(.ref u), (.int i)] h0 (fun r w => ∃ s, r = some (.ref s) ∧ Ext h0 w ∧ SP2 Z w s x0 x1) := by
  rcases hU with ⟨hx0, hx1, rfl, A⟩ | ⟨hx0, hx1, rfl, A⟩ | ⟨hx0, hx1, rfl, A⟩ | ⟨hx0, hx1, rfl, A⟩
  · exact (rmStrN_2 l Z a0 hw hr u ku _ _ h0 hE A (own_Cb Vx0 hx0).1 (own_Cb Vx0 hx0).2.1 (own_Cb Vx1 hx1).1 (own_Cb Vx1 hx1).2.1 (own_Cb Vx0 hx0).2.2 (own_Cb Vx1 hx1).2.2).mono fun v h q => by
      obtain ⟨s, t, e1, e2, S⟩ := q
      exact ⟨s, e1, e2, Or.inl ⟨hx0, hx1, t, S⟩⟩
  · exact (rmStrN_3 l Z a0 hw hr u ku _ _ _ h0 hE A (own_Cb Vx0 hx0).1 (own_Cb Vx0 hx0).2.1 (own_Ch x1).1 (own_Ch x1).2.1 (own_Cl x1).1 (own_Cl x1).2.1 (own_Cb Vx0 hx0).2.2 (own_Ch x1).2.2 (own_Cl x1).2.2).mono fun v h q => by
      obtain ⟨s, t, e1, e2, S⟩ := q
      exact ⟨s, e1, e2, Or.inr (Or.inl ⟨hx0, hx1, t, S⟩)⟩
  · exact (rmStrN_3 l Z a0 hw hr u ku _ _ _ h0 hE A (own_Ch x0).1 (own_Ch x0).2.1 (own_Cl x0).1 (own_Cl x0).2.1 (own_Cb Vx1 hx1).1 (own_Cb Vx1 hx1).2.1 (own_Ch x0).2.2 (own_Cl x0).2.2 (own_Cb Vx1 hx1).2.2).mono fun v h q => by
      obtain ⟨s, t, e1, e2, S⟩ := q
      exact ⟨s, e1, e2, Or.inr (Or.inr (Or.inl ⟨hx0, hx1, t, S⟩))⟩
  · exact (rmStrN_4 l Z a0 hw hr u ku _ _ _ _ h0 hE A (own_Ch x0).1 (own_Ch x0).2.1 (own_Cl x0).1 (own_Cl x0).2.1 (own_Ch x1).1 (own_Ch x1).2.1 (own_Cl x1).1 (own_Cl x1).2.1 (own_Ch x0).2.2 (own_Cl x0).2.2 (own_Ch x1).2.2 (own_Cl x1).2.2).mono fun v h q => by
      obtain ⟨s, t, e1, e2, S⟩ := q
      exact ⟨s, e1, e2, Or.inr (Or.inr (Or.inr ⟨hx0, hx1, t, S⟩))⟩
theorem rmLen0 (l : Launch) (Z : State) (a0 : Array Value) (hw : ∀ d ∈ tables_1, d.before a0 Z = true) (hr : rest_1_c.value a0 Z none Z [] = some true) (s : Addr) (h0 : Heap) (hE : Ext Z.heap h0) (hS : SP0 Z h0 s) : Ct true l Z consts_1 (⟨"java/lang/String", "length", "()I"⟩ : MethodName) jdk_42_method_54_code 1 (some .int) [] ({ frames := 1, cells := 0, slots := 0, locals := 14 } : Room) [] #[(.ref s)] h0 (fun r w => r = some (.int (0 : Int32)) ∧ h0 = w) := by
  obtain ⟨t, S⟩ := hS
  exact rmLn_0 l Z a0 hw hr s t h0 hE S
theorem rmLen1 (l : Launch) (Z : State) (a0 : Array Value) (hw : ∀ d ∈ tables_1, d.before a0 Z = true) (hr : rest_1_c.value a0 Z none Z [] = some true) (s : Addr) (x0 : Int32) (h0 : Heap) (hE : Ext Z.heap h0) (hS : SP1 Z h0 s x0) : Ct true l Z consts_1 (⟨"java/lang/String", "length", "()I"⟩ : MethodName) jdk_42_method_54_code 1 (some .int) [] ({ frames := 1, cells := 0, slots := 0, locals := 14 } : Room) [] #[(.ref s)] h0 (fun r w => r = some (.int (own_k x0)) ∧ h0 = w) := by
  rcases hS with ⟨hx0, t, S⟩ | ⟨hx0, t, S⟩
  · exact (rmLnE_1 l Z a0 hw hr s t _ h0 hE S).mono fun v u q => ⟨q.1.trans (by first | (rw [own_k1 hx0]; done) | (rw [own_k1 hx0]; rfl)), q.2⟩
  · exact (rmLnE_2 l Z a0 hw hr s t _ _ h0 hE S).mono fun v u q => ⟨q.1.trans (by first | (rw [own_k2 hx0]; done) | (rw [own_k2 hx0]; rfl)), q.2⟩
theorem rmLen2 (l : Launch) (Z : State) (a0 : Array Value) (hw : ∀ d ∈ tables_1, d.before a0 Z = true) (hr : rest_1_c.value a0 Z none Z [] = some true) (s : Addr) (x0 x1 : Int32) (h0 : Heap) (hE : Ext Z.heap h0) (hS : SP2 Z h0 s x0 x1) : Ct true l Z consts_1 (⟨"java/lang/String", "length", "()I"⟩ : MethodName) jdk_42_method_54_code 1 (some .int) [] ({ frames := 1, cells := 0, slots := 0, locals := 14 } : Room) [] #[(.ref s)] h0 (fun r w => r = some (.int (own_k x0 + own_k x1)) ∧ h0 = w) := by
  rcases hS with ⟨hx0, hx1, t, S⟩ | ⟨hx0, hx1, t, S⟩ | ⟨hx0, hx1, t, S⟩ | ⟨hx0, hx1, t, S⟩
  · exact (rmLnE_2 l Z a0 hw hr s t _ _ h0 hE S).mono fun v u q => ⟨q.1.trans (by first | (rw [own_k1 hx0, own_k1 hx1]; done) | (rw [own_k1 hx0, own_k1 hx1]; rfl)), q.2⟩
  · exact (rmLnE_3 l Z a0 hw hr s t _ _ _ h0 hE S).mono fun v u q => ⟨q.1.trans (by first | (rw [own_k1 hx0, own_k2 hx1]; done) | (rw [own_k1 hx0, own_k2 hx1]; rfl)), q.2⟩
  · exact (rmLnE_3 l Z a0 hw hr s t _ _ _ h0 hE S).mono fun v u q => ⟨q.1.trans (by first | (rw [own_k2 hx0, own_k1 hx1]; done) | (rw [own_k2 hx0, own_k1 hx1]; rfl)), q.2⟩
  · exact (rmLnE_4 l Z a0 hw hr s t _ _ _ _ h0 hE S).mono fun v u q => ⟨q.1.trans (by first | (rw [own_k2 hx0, own_k2 hx1]; done) | (rw [own_k2 hx0, own_k2 hx1]; rfl)), q.2⟩
set_option maxRecDepth 65536 in
set_option maxHeartbeats 40000000 in
theorem rmZB_1_0 (l : Launch) (Z : State) (a0 : Array Value) (hw : ∀ d ∈ tables_1, d.before a0 Z = true) (hr : rest_1_c.value a0 Z none Z [] = some true) (t : Addr) (kb : ClassId) (c0 : Int32) (h0 : Heap) (hE : Ext Z.heap h0) (A : Arv Z h0 t kb .byte (2 : Int32) [(.int (nar .byte (c0 >>> ((0 : Int32) &&& 31)))), (.int (nar .byte (c0 >>> ((8 : Int32) &&& 31))))] (.int 0)) (z0 : 0 ≤ c0.toInt) (v0 : c0.toInt < 65536) (nh : c0 < 55296 ∨ ¬ c0 < 56320) :
    Ct true l Z consts_1 (⟨"java/lang/StringUTF16", "codePointAt", "([BIIZ)I"⟩ : MethodName) jdk_52_method_7_code 6 (some .int) [] ({ frames := 1, cells := 0, slots := 0, locals := 14 } : Room) [] #[(.ref t), (.int (0 : Int32)), (.int ((2 : Int32) >>> ((1 : Int32) &&& 31))), (.int (0 : Int32))] h0 (fun r w => r = some (.int c0) ∧ h0 = w) := by
  refine Ct.intro pn_java_lang_StringUTF16 hE (fun m => efZ4 m t _ _ _) nosf ⟨a0, own_EW hw⟩ ?_
  intro x T w
  refine w.getS d24_0 (tw hw 77 rfl) (own_ad hr) ?_
  intro T w
  refine w.ifNe d24_3 d24_3t (fun _ => ?_) (fun q => absurd q (by decide))
  refine w.iloadN d24_19 rfl ?_
  refine w.ifEq d24_20 d24_20t (fun _ => ?_) (fun q => absurd rfl q)
  refine w.aloadN d24_28 rfl rfl ?_
  refine w.iloadN d24_29 rfl ?_
  refine w.callS (argsL := [(.ref t), (.int (0 : Int32))]) (rest := []) 0 d24_30 (tw hw 80 rfl) (tw hw 81 rfl) (tw hw 59 rfl) (tw hw 82 rfl) (by decide) (rmGe_1_0 l Z a0 hw hr t kb c0 h0 w.old A z0 v0) (lenOf pd_8 rfl) rfl rfl (Nat.le_refl _) ⟨by decide, by decide, by decide, by decide⟩ all0 ?_
  intro T h1 r w _ hQ
  obtain ⟨rfl, rfl⟩ := hQ
  show Go x _ Z _ _ _ T 33 #[.val (.ref t), .val (.int (0 : Int32)), .val (.int ((2 : Int32) >>> ((1 : Int32) &&& 31))), .val (.int (0 : Int32)), .unset, .unset] [(.int c0)]
  refine w.istore #[.val (.ref t), .val (.int (0 : Int32)), .val (.int ((2 : Int32) >>> ((1 : Int32) &&& 31))), .val (.int (0 : Int32)), .val (.int c0), .unset] d24_33 rfl ?_
  refine w.iload d24_35 rfl ?_
  refine w.callS (argsL := [(.int c0)]) (rest := []) 0 d24_37 (tw hw 110 rfl) (tw hw 111 rfl) (tw hw 112 rfl) (tw hw 113 rfl) (by decide) (rmHi l Z a0 hw c0 h0 w.old) (lenOf pd_11 rfl) rfl rfl (Nat.le_refl _) ⟨by decide, by decide, by decide, by decide⟩ all0 ?_
  intro T h2 r w _ hQ
  obtain ⟨rfl, rfl⟩ := hQ
  show Go x _ Z _ _ _ T 40 #[.val (.ref t), .val (.int (0 : Int32)), .val (.int ((2 : Int32) >>> ((1 : Int32) &&& 31))), .val (.int (0 : Int32)), .val (.int c0), .unset] [(.int (if ¬ c0 < 55296 ∧ c0 < 56320 then 1 else 0))]
  refine w.ifEq d24_40 d24_40t (fun _ => ?_) (fun q => absurd (if_neg (fun e => nh.elim e.1 (fun z => z e.2))) q)
  refine w.iload d24_83 rfl ?_
  exact w.retI d24_85 rfl ⟨rfl, rfl⟩

set_option maxRecDepth 65536 in
set_option maxHeartbeats 40000000 in
theorem rmUB_1_0 (l : Launch) (Z : State) (a0 : Array Value) (hw : ∀ d ∈ tables_1, d.before a0 Z = true) (hr : rest_1_c.value a0 Z none Z [] = some true) (t : Addr) (kb : ClassId) (c0 : Int32) (h0 : Heap) (hE : Ext Z.heap h0) (A : Arv Z h0 t kb .byte (2 : Int32) [(.int (nar .byte (c0 >>> ((0 : Int32) &&& 31)))), (.int (nar .byte (c0 >>> ((8 : Int32) &&& 31))))] (.int 0)) (z0 : 0 ≤ c0.toInt) (v0 : c0.toInt < 65536) (nh : c0 < 55296 ∨ ¬ c0 < 56320) :
    Ct true l Z consts_1 (⟨"java/lang/StringUTF16", "codePointAt", "([BII)I"⟩ : MethodName) jdk_52_method_8_code 3 (some .int) [] ({ frames := 2, cells := 0, slots := 0, locals := 31 } : Room) [] #[(.ref t), (.int (0 : Int32)), (.int ((2 : Int32) >>> ((1 : Int32) &&& 31)))] h0 (fun r w => r = some (.int c0) ∧ h0 = w) := by
  refine Ct.intro pn_java_lang_StringUTF16 hE (fun m => efU3 m t _ _) nosf ⟨a0, own_EW hw⟩ ?_
  intro x T w
  refine w.aloadN d23_0 rfl rfl ?_
  refine w.iloadN d23_1 rfl ?_
  refine w.iloadN d23_2 rfl ?_
  refine w.iconst (0 : Int32) d23_3 rfl ?_
  refine w.callS (argsL := [(.ref t), (.int (0 : Int32)), (.int ((2 : Int32) >>> ((1 : Int32) &&& 31))), (.int (0 : Int32))]) (rest := []) 0 d23_4 (tw hw 107 rfl) (tw hw 108 rfl) (tw hw 59 rfl) (tw hw 109 rfl) (by decide) (rmZB_1_0 l Z a0 hw hr t kb c0 h0 w.old A z0 v0 nh) (lenOf pd_12 rfl) rfl rfl (Nat.le_refl _) ⟨by decide, by decide, by decide, by decide⟩ all0 ?_
  intro T h1 r w _ hQ
  obtain ⟨rfl, rfl⟩ := hQ
  show Go x _ Z _ _ _ T 7 #[.val (.ref t), .val (.int (0 : Int32)), .val (.int ((2 : Int32) >>> ((1 : Int32) &&& 31)))] [(.int c0)]
  exact w.retI d23_7 rfl ⟨rfl, rfl⟩

set_option maxRecDepth 65536 in
set_option maxHeartbeats 40000000 in
theorem rmPB_1_0 (l : Launch) (Z : State) (a0 : Array Value) (hw : ∀ d ∈ tables_1, d.before a0 Z = true) (hr : rest_1_c.value a0 Z none Z [] = some true) (a t : Addr) (c0 : Int32) (h0 : Heap) (hE : Ext Z.heap h0) (Sa : ((StrL Z h0 a t 0 [nar .byte c0] ∧ (¬ 255 < c0 ∧ True)) ∨ StrL Z h0 a t 1 [nar .byte (c0 >>> ((0 : Int32) &&& 31)), nar .byte (c0 >>> ((8 : Int32) &&& 31))])) (z0 : 0 ≤ c0.toInt) (v0 : c0.toInt < 65536) (nh : c0 < 55296 ∨ ¬ c0 < 56320) :
    Ct true l Z consts_1 (⟨"java/lang/String", "codePointAt", "(I)I"⟩ : MethodName) jdk_42_method_57_code 3 (some .int) [] ({ frames := 3, cells := 0, slots := 0, locals := 45 } : Room) [] #[(.ref a), (.int (0 : Int32))] h0 (fun r w => r = some (.int c0) ∧ h0 = w) := by
  refine Ct.intro pn_java_lang_String hE (fun m => efSCP m a _) nosf ⟨a0, own_EW hw⟩ ?_
  intro x T w
  rcases Sa with ⟨Sa, ul⟩ | Sa
  · obtain ⟨Ea, Va, Ca, ka, Aa, -⟩ := id Sa
    obtain ⟨cla, Ara, -, Sa, Ma, Ha, -⟩ := Aa
    have Sa : cla.slots.size = (1 : Int32).toNatClampNeg := Sa
    refine w.aloadN d19_0 rfl rfl ?_
    refine w.callV (argsL := []) (rest := []) 0 d19_1 (tw hw 91 rfl) (tw hw 92 rfl) (tw hw 94 rfl) (tw hw 93 rfl) (tw hw 15 rfl) (tw hw 95 rfl) (by decide) Ea (rmIL0 l Z a0 hw hr a h0 w.old Ca) (lenOf pd_13 rfl) rfl rfl (Nat.le_refl _) ⟨by decide, by decide, by decide, by decide⟩ all0 ?_
    intro T h1 r w _ hQ
    obtain ⟨rfl, rfl⟩ := hQ
    show Go x _ Z _ _ _ T 4 #[.val (.ref a), .val (.int (0 : Int32)), .unset] [(.int (1 : Int32))]
    refine w.ifEq d19_4 d19_4t (fun q => absurd q (by decide)) (fun _ => ?_)
    refine w.iloadN d19_7 rfl ?_
    refine w.aloadN d19_8 rfl rfl ?_
    refine w.getF d19_9 (tw hw 32 rfl) Va ?_
    intro T w
    refine w.alen (1 : Int32) d19_12 Ara (len_of Sa Ma) ?_
    refine w.callS (argsL := [(.int (0 : Int32)), (.int (1 : Int32))]) (rest := []) 0 d19_13 (tw hw 96 rfl) (tw hw 97 rfl) (tw hw 15 rfl) (tw hw 98 rfl) (by decide) (rmCI l Z a0 hw hr (0 : Int32) (1 : Int32) (by decide) (by decide) h0 w.old) (lenOf pd_14 rfl) rfl rfl (Nat.le_refl _) ⟨by decide, by decide, by decide, by decide⟩ all0 ?_
    intro T h2 r w _ hQ
    obtain ⟨rfl, rfl⟩ := hQ
    show Go x _ Z _ _ _ T 16 #[.val (.ref a), .val (.int (0 : Int32)), .unset] []
    refine w.aloadN d19_16 rfl rfl ?_
    refine w.getF d19_17 (tw hw 32 rfl) Va ?_
    intro T w
    refine w.iloadN d19_20 rfl ?_
    refine w.baload d19_21 Ara (inb_of Sa (by decide)) (Ha.at (inb_of Sa (by decide)) rfl) ?_
    refine w.sipush (255 : Int32) d19_22 rfl ?_
    refine w.iand d19_25 ?_
    exact w.retI d19_26 rfl ⟨by rw [b255' z0 ul.1], rfl⟩
  · obtain ⟨Ea, Va, Ca, ka, Aa, -⟩ := id Sa
    obtain ⟨cla, Ara, -, Sz, Ma, -, -⟩ := id Aa
    refine w.aloadN d19_0 rfl rfl ?_
    refine w.callV (argsL := []) (rest := []) 0 d19_1 (tw hw 91 rfl) (tw hw 92 rfl) (tw hw 94 rfl) (tw hw 93 rfl) (tw hw 15 rfl) (tw hw 95 rfl) (by decide) Ea (rmIL1 l Z a0 hw hr a h0 w.old Ca) (lenOf pd_13 rfl) rfl rfl (Nat.le_refl _) ⟨by decide, by decide, by decide, by decide⟩ all0 ?_
    intro T h3 r w _ hQ
    obtain ⟨rfl, rfl⟩ := hQ
    show Go x _ Z _ _ _ T 4 #[.val (.ref a), .val (.int (0 : Int32)), .unset] [(.int (0 : Int32))]
    refine w.ifEq d19_4 d19_4t (fun _ => ?_) (fun q => absurd rfl q)
    refine w.aloadN d19_27 rfl rfl ?_
    refine w.getF d19_28 (tw hw 32 rfl) Va ?_
    intro T w
    refine w.alen (2 : Int32) d19_31 Ara (len_of Sz Ma) ?_
    refine w.iconst (1 : Int32) d19_32 rfl ?_
    refine w.ishr d19_33 ?_
    refine w.istoreN #[.val (.ref a), .val (.int (0 : Int32)), .val (.int ((2 : Int32) >>> ((1 : Int32) &&& 31)))] d19_34 rfl ?_
    refine w.iloadN d19_35 rfl ?_
    refine w.iloadN d19_36 rfl ?_
    refine w.callS (argsL := [(.int (0 : Int32)), (.int ((2 : Int32) >>> ((1 : Int32) &&& 31)))]) (rest := []) 0 d19_37 (tw hw 96 rfl) (tw hw 97 rfl) (tw hw 15 rfl) (tw hw 98 rfl) (by decide) (rmCI l Z a0 hw hr (0 : Int32) ((2 : Int32) >>> ((1 : Int32) &&& 31)) (by decide) (by decide) h0 w.old) (lenOf pd_14 rfl) rfl rfl (Nat.le_refl _) ⟨by decide, by decide, by decide, by decide⟩ all0 ?_
    intro T h4 r w _ hQ
    obtain ⟨rfl, rfl⟩ := hQ
    show Go x _ Z _ _ _ T 40 #[.val (.ref a), .val (.int (0 : Int32)), .val (.int ((2 : Int32) >>> ((1 : Int32) &&& 31)))] []
    refine w.aloadN d19_40 rfl rfl ?_
    refine w.getF d19_41 (tw hw 32 rfl) Va ?_
    intro T w
    refine w.iloadN d19_44 rfl ?_
    refine w.iloadN d19_45 rfl ?_
    refine w.callS (argsL := [(.ref t), (.int (0 : Int32)), (.int ((2 : Int32) >>> ((1 : Int32) &&& 31)))]) (rest := []) 0 d19_46 (tw hw 104 rfl) (tw hw 105 rfl) (tw hw 59 rfl) (tw hw 106 rfl) (by decide) (rmUB_1_0 l Z a0 hw hr t ka c0 h0 w.old Aa z0 v0 nh) (lenOf pd_15 rfl) rfl rfl (Nat.le_refl _) ⟨by decide, by decide, by decide, by decide⟩ all0 ?_
    intro T h5 r w _ hQ
    obtain ⟨rfl, rfl⟩ := hQ
    show Go x _ Z _ _ _ T 49 #[.val (.ref a), .val (.int (0 : Int32)), .val (.int ((2 : Int32) >>> ((1 : Int32) &&& 31)))] [(.int c0)]
    exact w.retI d19_49 rfl ⟨rfl, rfl⟩

set_option maxRecDepth 65536 in
set_option maxHeartbeats 40000000 in
theorem rmZB_2_0 (l : Launch) (Z : State) (a0 : Array Value) (hw : ∀ d ∈ tables_1, d.before a0 Z = true) (hr : rest_1_c.value a0 Z none Z [] = some true) (t : Addr) (kb : ClassId) (c0 c1 : Int32) (h0 : Heap) (hE : Ext Z.heap h0) (A : Arv Z h0 t kb .byte (4 : Int32) [(.int (nar .byte (c0 >>> ((0 : Int32) &&& 31)))), (.int (nar .byte (c0 >>> ((8 : Int32) &&& 31)))), (.int (nar .byte (c1 >>> ((0 : Int32) &&& 31)))), (.int (nar .byte (c1 >>> ((8 : Int32) &&& 31))))] (.int 0)) (z0 : 0 ≤ c0.toInt) (v0 : c0.toInt < 65536) (z1 : 0 ≤ c1.toInt) (v1 : c1.toInt < 65536) (nh : c0 < 55296 ∨ ¬ c0 < 56320) :
    Ct true l Z consts_1 (⟨"java/lang/StringUTF16", "codePointAt", "([BIIZ)I"⟩ : MethodName) jdk_52_method_7_code 6 (some .int) [] ({ frames := 1, cells := 0, slots := 0, locals := 14 } : Room) [] #[(.ref t), (.int (0 : Int32)), (.int ((4 : Int32) >>> ((1 : Int32) &&& 31))), (.int (0 : Int32))] h0 (fun r w => r = some (.int c0) ∧ h0 = w) := by
  refine Ct.intro pn_java_lang_StringUTF16 hE (fun m => efZ4 m t _ _ _) nosf ⟨a0, own_EW hw⟩ ?_
  intro x T w
  refine w.getS d24_0 (tw hw 77 rfl) (own_ad hr) ?_
  intro T w
  refine w.ifNe d24_3 d24_3t (fun _ => ?_) (fun q => absurd q (by decide))
  refine w.iloadN d24_19 rfl ?_
  refine w.ifEq d24_20 d24_20t (fun _ => ?_) (fun q => absurd rfl q)
  refine w.aloadN d24_28 rfl rfl ?_
  refine w.iloadN d24_29 rfl ?_
  refine w.callS (argsL := [(.ref t), (.int (0 : Int32))]) (rest := []) 0 d24_30 (tw hw 80 rfl) (tw hw 81 rfl) (tw hw 59 rfl) (tw hw 82 rfl) (by decide) (rmGe_2_0 l Z a0 hw hr t kb c0 c1 h0 w.old A z0 v0) (lenOf pd_8 rfl) rfl rfl (Nat.le_refl _) ⟨by decide, by decide, by decide, by decide⟩ all0 ?_
  intro T h1 r w _ hQ
  obtain ⟨rfl, rfl⟩ := hQ
  show Go x _ Z _ _ _ T 33 #[.val (.ref t), .val (.int (0 : Int32)), .val (.int ((4 : Int32) >>> ((1 : Int32) &&& 31))), .val (.int (0 : Int32)), .unset, .unset] [(.int c0)]
  refine w.istore #[.val (.ref t), .val (.int (0 : Int32)), .val (.int ((4 : Int32) >>> ((1 : Int32) &&& 31))), .val (.int (0 : Int32)), .val (.int c0), .unset] d24_33 rfl ?_
  refine w.iload d24_35 rfl ?_
  refine w.callS (argsL := [(.int c0)]) (rest := []) 0 d24_37 (tw hw 110 rfl) (tw hw 111 rfl) (tw hw 112 rfl) (tw hw 113 rfl) (by decide) (rmHi l Z a0 hw c0 h0 w.old) (lenOf pd_11 rfl) rfl rfl (Nat.le_refl _) ⟨by decide, by decide, by decide, by decide⟩ all0 ?_
  intro T h2 r w _ hQ
  obtain ⟨rfl, rfl⟩ := hQ
  show Go x _ Z _ _ _ T 40 #[.val (.ref t), .val (.int (0 : Int32)), .val (.int ((4 : Int32) >>> ((1 : Int32) &&& 31))), .val (.int (0 : Int32)), .val (.int c0), .unset] [(.int (if ¬ c0 < 55296 ∧ c0 < 56320 then 1 else 0))]
  refine w.ifEq d24_40 d24_40t (fun _ => ?_) (fun q => absurd (if_neg (fun e => nh.elim e.1 (fun z => z e.2))) q)
  refine w.iload d24_83 rfl ?_
  exact w.retI d24_85 rfl ⟨rfl, rfl⟩

set_option maxRecDepth 65536 in
set_option maxHeartbeats 40000000 in
theorem rmUB_2_0 (l : Launch) (Z : State) (a0 : Array Value) (hw : ∀ d ∈ tables_1, d.before a0 Z = true) (hr : rest_1_c.value a0 Z none Z [] = some true) (t : Addr) (kb : ClassId) (c0 c1 : Int32) (h0 : Heap) (hE : Ext Z.heap h0) (A : Arv Z h0 t kb .byte (4 : Int32) [(.int (nar .byte (c0 >>> ((0 : Int32) &&& 31)))), (.int (nar .byte (c0 >>> ((8 : Int32) &&& 31)))), (.int (nar .byte (c1 >>> ((0 : Int32) &&& 31)))), (.int (nar .byte (c1 >>> ((8 : Int32) &&& 31))))] (.int 0)) (z0 : 0 ≤ c0.toInt) (v0 : c0.toInt < 65536) (z1 : 0 ≤ c1.toInt) (v1 : c1.toInt < 65536) (nh : c0 < 55296 ∨ ¬ c0 < 56320) :
    Ct true l Z consts_1 (⟨"java/lang/StringUTF16", "codePointAt", "([BII)I"⟩ : MethodName) jdk_52_method_8_code 3 (some .int) [] ({ frames := 2, cells := 0, slots := 0, locals := 31 } : Room) [] #[(.ref t), (.int (0 : Int32)), (.int ((4 : Int32) >>> ((1 : Int32) &&& 31)))] h0 (fun r w => r = some (.int c0) ∧ h0 = w) := by
  refine Ct.intro pn_java_lang_StringUTF16 hE (fun m => efU3 m t _ _) nosf ⟨a0, own_EW hw⟩ ?_
  intro x T w
  refine w.aloadN d23_0 rfl rfl ?_
  refine w.iloadN d23_1 rfl ?_
  refine w.iloadN d23_2 rfl ?_
  refine w.iconst (0 : Int32) d23_3 rfl ?_
  refine w.callS (argsL := [(.ref t), (.int (0 : Int32)), (.int ((4 : Int32) >>> ((1 : Int32) &&& 31))), (.int (0 : Int32))]) (rest := []) 0 d23_4 (tw hw 107 rfl) (tw hw 108 rfl) (tw hw 59 rfl) (tw hw 109 rfl) (by decide) (rmZB_2_0 l Z a0 hw hr t kb c0 c1 h0 w.old A z0 v0 z1 v1 nh) (lenOf pd_12 rfl) rfl rfl (Nat.le_refl _) ⟨by decide, by decide, by decide, by decide⟩ all0 ?_
  intro T h1 r w _ hQ
  obtain ⟨rfl, rfl⟩ := hQ
  show Go x _ Z _ _ _ T 7 #[.val (.ref t), .val (.int (0 : Int32)), .val (.int ((4 : Int32) >>> ((1 : Int32) &&& 31)))] [(.int c0)]
  exact w.retI d23_7 rfl ⟨rfl, rfl⟩

set_option maxRecDepth 65536 in
set_option maxHeartbeats 40000000 in
theorem rmPB_2_0 (l : Launch) (Z : State) (a0 : Array Value) (hw : ∀ d ∈ tables_1, d.before a0 Z = true) (hr : rest_1_c.value a0 Z none Z [] = some true) (a t : Addr) (c0 c1 : Int32) (h0 : Heap) (hE : Ext Z.heap h0) (Sa : ((StrL Z h0 a t 0 [nar .byte c0, nar .byte c1] ∧ (¬ 255 < c0 ∧ ¬ 255 < c1 ∧ True)) ∨ StrL Z h0 a t 1 [nar .byte (c0 >>> ((0 : Int32) &&& 31)), nar .byte (c0 >>> ((8 : Int32) &&& 31)), nar .byte (c1 >>> ((0 : Int32) &&& 31)), nar .byte (c1 >>> ((8 : Int32) &&& 31))])) (z0 : 0 ≤ c0.toInt) (v0 : c0.toInt < 65536) (z1 : 0 ≤ c1.toInt) (v1 : c1.toInt < 65536) (nh : c0 < 55296 ∨ ¬ c0 < 56320) :
    Ct true l Z consts_1 (⟨"java/lang/String", "codePointAt", "(I)I"⟩ : MethodName) jdk_42_method_57_code 3 (some .int) [] ({ frames := 3, cells := 0, slots := 0, locals := 45 } : Room) [] #[(.ref a), (.int (0 : Int32))] h0 (fun r w => r = some (.int c0) ∧ h0 = w) := by
  refine Ct.intro pn_java_lang_String hE (fun m => efSCP m a _) nosf ⟨a0, own_EW hw⟩ ?_
  intro x T w
  rcases Sa with ⟨Sa, ul⟩ | Sa
  · obtain ⟨Ea, Va, Ca, ka, Aa, -⟩ := id Sa
    obtain ⟨cla, Ara, -, Sa, Ma, Ha, -⟩ := Aa
    have Sa : cla.slots.size = (2 : Int32).toNatClampNeg := Sa
    refine w.aloadN d19_0 rfl rfl ?_
    refine w.callV (argsL := []) (rest := []) 0 d19_1 (tw hw 91 rfl) (tw hw 92 rfl) (tw hw 94 rfl) (tw hw 93 rfl) (tw hw 15 rfl) (tw hw 95 rfl) (by decide) Ea (rmIL0 l Z a0 hw hr a h0 w.old Ca) (lenOf pd_13 rfl) rfl rfl (Nat.le_refl _) ⟨by decide, by decide, by decide, by decide⟩ all0 ?_
    intro T h1 r w _ hQ
    obtain ⟨rfl, rfl⟩ := hQ
    show Go x _ Z _ _ _ T 4 #[.val (.ref a), .val (.int (0 : Int32)), .unset] [(.int (1 : Int32))]
    refine w.ifEq d19_4 d19_4t (fun q => absurd q (by decide)) (fun _ => ?_)
    refine w.iloadN d19_7 rfl ?_
    refine w.aloadN d19_8 rfl rfl ?_
    refine w.getF d19_9 (tw hw 32 rfl) Va ?_
    intro T w
    refine w.alen (2 : Int32) d19_12 Ara (len_of Sa Ma) ?_
    refine w.callS (argsL := [(.int (0 : Int32)), (.int (2 : Int32))]) (rest := []) 0 d19_13 (tw hw 96 rfl) (tw hw 97 rfl) (tw hw 15 rfl) (tw hw 98 rfl) (by decide) (rmCI l Z a0 hw hr (0 : Int32) (2 : Int32) (by decide) (by decide) h0 w.old) (lenOf pd_14 rfl) rfl rfl (Nat.le_refl _) ⟨by decide, by decide, by decide, by decide⟩ all0 ?_
    intro T h2 r w _ hQ
    obtain ⟨rfl, rfl⟩ := hQ
    show Go x _ Z _ _ _ T 16 #[.val (.ref a), .val (.int (0 : Int32)), .unset] []
    refine w.aloadN d19_16 rfl rfl ?_
    refine w.getF d19_17 (tw hw 32 rfl) Va ?_
    intro T w
    refine w.iloadN d19_20 rfl ?_
    refine w.baload d19_21 Ara (inb_of Sa (by decide)) (Ha.at (inb_of Sa (by decide)) rfl) ?_
    refine w.sipush (255 : Int32) d19_22 rfl ?_
    refine w.iand d19_25 ?_
    exact w.retI d19_26 rfl ⟨by rw [b255' z0 ul.1], rfl⟩
  · obtain ⟨Ea, Va, Ca, ka, Aa, -⟩ := id Sa
    obtain ⟨cla, Ara, -, Sz, Ma, -, -⟩ := id Aa
    refine w.aloadN d19_0 rfl rfl ?_
    refine w.callV (argsL := []) (rest := []) 0 d19_1 (tw hw 91 rfl) (tw hw 92 rfl) (tw hw 94 rfl) (tw hw 93 rfl) (tw hw 15 rfl) (tw hw 95 rfl) (by decide) Ea (rmIL1 l Z a0 hw hr a h0 w.old Ca) (lenOf pd_13 rfl) rfl rfl (Nat.le_refl _) ⟨by decide, by decide, by decide, by decide⟩ all0 ?_
    intro T h3 r w _ hQ
    obtain ⟨rfl, rfl⟩ := hQ
    show Go x _ Z _ _ _ T 4 #[.val (.ref a), .val (.int (0 : Int32)), .unset] [(.int (0 : Int32))]
    refine w.ifEq d19_4 d19_4t (fun _ => ?_) (fun q => absurd rfl q)
    refine w.aloadN d19_27 rfl rfl ?_
    refine w.getF d19_28 (tw hw 32 rfl) Va ?_
    intro T w
    refine w.alen (4 : Int32) d19_31 Ara (len_of Sz Ma) ?_
    refine w.iconst (1 : Int32) d19_32 rfl ?_
    refine w.ishr d19_33 ?_
    refine w.istoreN #[.val (.ref a), .val (.int (0 : Int32)), .val (.int ((4 : Int32) >>> ((1 : Int32) &&& 31)))] d19_34 rfl ?_
    refine w.iloadN d19_35 rfl ?_
    refine w.iloadN d19_36 rfl ?_
    refine w.callS (argsL := [(.int (0 : Int32)), (.int ((4 : Int32) >>> ((1 : Int32) &&& 31)))]) (rest := []) 0 d19_37 (tw hw 96 rfl) (tw hw 97 rfl) (tw hw 15 rfl) (tw hw 98 rfl) (by decide) (rmCI l Z a0 hw hr (0 : Int32) ((4 : Int32) >>> ((1 : Int32) &&& 31)) (by decide) (by decide) h0 w.old) (lenOf pd_14 rfl) rfl rfl (Nat.le_refl _) ⟨by decide, by decide, by decide, by decide⟩ all0 ?_
    intro T h4 r w _ hQ
    obtain ⟨rfl, rfl⟩ := hQ
    show Go x _ Z _ _ _ T 40 #[.val (.ref a), .val (.int (0 : Int32)), .val (.int ((4 : Int32) >>> ((1 : Int32) &&& 31)))] []
    refine w.aloadN d19_40 rfl rfl ?_
    refine w.getF d19_41 (tw hw 32 rfl) Va ?_
    intro T w
    refine w.iloadN d19_44 rfl ?_
    refine w.iloadN d19_45 rfl ?_
    refine w.callS (argsL := [(.ref t), (.int (0 : Int32)), (.int ((4 : Int32) >>> ((1 : Int32) &&& 31)))]) (rest := []) 0 d19_46 (tw hw 104 rfl) (tw hw 105 rfl) (tw hw 59 rfl) (tw hw 106 rfl) (by decide) (rmUB_2_0 l Z a0 hw hr t ka c0 c1 h0 w.old Aa z0 v0 z1 v1 nh) (lenOf pd_15 rfl) rfl rfl (Nat.le_refl _) ⟨by decide, by decide, by decide, by decide⟩ all0 ?_
    intro T h5 r w _ hQ
    obtain ⟨rfl, rfl⟩ := hQ
    show Go x _ Z _ _ _ T 49 #[.val (.ref a), .val (.int (0 : Int32)), .val (.int ((4 : Int32) >>> ((1 : Int32) &&& 31)))] [(.int c0)]
    exact w.retI d19_49 rfl ⟨rfl, rfl⟩

set_option maxRecDepth 65536 in
set_option maxHeartbeats 40000000 in
theorem rmZB_2_1 (l : Launch) (Z : State) (a0 : Array Value) (hw : ∀ d ∈ tables_1, d.before a0 Z = true) (hr : rest_1_c.value a0 Z none Z [] = some true) (t : Addr) (kb : ClassId) (c0 c1 : Int32) (h0 : Heap) (hE : Ext Z.heap h0) (A : Arv Z h0 t kb .byte (4 : Int32) [(.int (nar .byte (c0 >>> ((0 : Int32) &&& 31)))), (.int (nar .byte (c0 >>> ((8 : Int32) &&& 31)))), (.int (nar .byte (c1 >>> ((0 : Int32) &&& 31)))), (.int (nar .byte (c1 >>> ((8 : Int32) &&& 31))))] (.int 0)) (z0 : 0 ≤ c0.toInt) (v0 : c0.toInt < 65536) (z1 : 0 ≤ c1.toInt) (v1 : c1.toInt < 65536) (nh : c1 < 55296 ∨ ¬ c1 < 56320) :
    Ct true l Z consts_1 (⟨"java/lang/StringUTF16", "codePointAt", "([BIIZ)I"⟩ : MethodName) jdk_52_method_7_code 6 (some .int) [] ({ frames := 1, cells := 0, slots := 0, locals := 14 } : Room) [] #[(.ref t), (.int (1 : Int32)), (.int ((4 : Int32) >>> ((1 : Int32) &&& 31))), (.int (0 : Int32))] h0 (fun r w => r = some (.int c1) ∧ h0 = w) := by
  refine Ct.intro pn_java_lang_StringUTF16 hE (fun m => efZ4 m t _ _ _) nosf ⟨a0, own_EW hw⟩ ?_
  intro x T w
  refine w.getS d24_0 (tw hw 77 rfl) (own_ad hr) ?_
  intro T w
  refine w.ifNe d24_3 d24_3t (fun _ => ?_) (fun q => absurd q (by decide))
  refine w.iloadN d24_19 rfl ?_
  refine w.ifEq d24_20 d24_20t (fun _ => ?_) (fun q => absurd rfl q)
  refine w.aloadN d24_28 rfl rfl ?_
  refine w.iloadN d24_29 rfl ?_
  refine w.callS (argsL := [(.ref t), (.int (1 : Int32))]) (rest := []) 0 d24_30 (tw hw 80 rfl) (tw hw 81 rfl) (tw hw 59 rfl) (tw hw 82 rfl) (by decide) (rmGe_2_1 l Z a0 hw hr t kb c0 c1 h0 w.old A z1 v1) (lenOf pd_8 rfl) rfl rfl (Nat.le_refl _) ⟨by decide, by decide, by decide, by decide⟩ all0 ?_
  intro T h1 r w _ hQ
  obtain ⟨rfl, rfl⟩ := hQ
  show Go x _ Z _ _ _ T 33 #[.val (.ref t), .val (.int (1 : Int32)), .val (.int ((4 : Int32) >>> ((1 : Int32) &&& 31))), .val (.int (0 : Int32)), .unset, .unset] [(.int c1)]
  refine w.istore #[.val (.ref t), .val (.int (1 : Int32)), .val (.int ((4 : Int32) >>> ((1 : Int32) &&& 31))), .val (.int (0 : Int32)), .val (.int c1), .unset] d24_33 rfl ?_
  refine w.iload d24_35 rfl ?_
  refine w.callS (argsL := [(.int c1)]) (rest := []) 0 d24_37 (tw hw 110 rfl) (tw hw 111 rfl) (tw hw 112 rfl) (tw hw 113 rfl) (by decide) (rmHi l Z a0 hw c1 h0 w.old) (lenOf pd_11 rfl) rfl rfl (Nat.le_refl _) ⟨by decide, by decide, by decide, by decide⟩ all0 ?_
  intro T h2 r w _ hQ
  obtain ⟨rfl, rfl⟩ := hQ
  show Go x _ Z _ _ _ T 40 #[.val (.ref t), .val (.int (1 : Int32)), .val (.int ((4 : Int32) >>> ((1 : Int32) &&& 31))), .val (.int (0 : Int32)), .val (.int c1), .unset] [(.int (if ¬ c1 < 55296 ∧ c1 < 56320 then 1 else 0))]
  refine w.ifEq d24_40 d24_40t (fun _ => ?_) (fun q => absurd (if_neg (fun e => nh.elim e.1 (fun z => z e.2))) q)
  refine w.iload d24_83 rfl ?_
  exact w.retI d24_85 rfl ⟨rfl, rfl⟩

set_option maxRecDepth 65536 in
set_option maxHeartbeats 40000000 in
theorem rmUB_2_1 (l : Launch) (Z : State) (a0 : Array Value) (hw : ∀ d ∈ tables_1, d.before a0 Z = true) (hr : rest_1_c.value a0 Z none Z [] = some true) (t : Addr) (kb : ClassId) (c0 c1 : Int32) (h0 : Heap) (hE : Ext Z.heap h0) (A : Arv Z h0 t kb .byte (4 : Int32) [(.int (nar .byte (c0 >>> ((0 : Int32) &&& 31)))), (.int (nar .byte (c0 >>> ((8 : Int32) &&& 31)))), (.int (nar .byte (c1 >>> ((0 : Int32) &&& 31)))), (.int (nar .byte (c1 >>> ((8 : Int32) &&& 31))))] (.int 0)) (z0 : 0 ≤ c0.toInt) (v0 : c0.toInt < 65536) (z1 : 0 ≤ c1.toInt) (v1 : c1.toInt < 65536) (nh : c1 < 55296 ∨ ¬ c1 < 56320) :
    Ct true l Z consts_1 (⟨"java/lang/StringUTF16", "codePointAt", "([BII)I"⟩ : MethodName) jdk_52_method_8_code 3 (some .int) [] ({ frames := 2, cells := 0, slots := 0, locals := 31 } : Room) [] #[(.ref t), (.int (1 : Int32)), (.int ((4 : Int32) >>> ((1 : Int32) &&& 31)))] h0 (fun r w => r = some (.int c1) ∧ h0 = w) := by
  refine Ct.intro pn_java_lang_StringUTF16 hE (fun m => efU3 m t _ _) nosf ⟨a0, own_EW hw⟩ ?_
  intro x T w
  refine w.aloadN d23_0 rfl rfl ?_
  refine w.iloadN d23_1 rfl ?_
  refine w.iloadN d23_2 rfl ?_
  refine w.iconst (0 : Int32) d23_3 rfl ?_
  refine w.callS (argsL := [(.ref t), (.int (1 : Int32)), (.int ((4 : Int32) >>> ((1 : Int32) &&& 31))), (.int (0 : Int32))]) (rest := []) 0 d23_4 (tw hw 107 rfl) (tw hw 108 rfl) (tw hw 59 rfl) (tw hw 109 rfl) (by decide) (rmZB_2_1 l Z a0 hw hr t kb c0 c1 h0 w.old A z0 v0 z1 v1 nh) (lenOf pd_12 rfl) rfl rfl (Nat.le_refl _) ⟨by decide, by decide, by decide, by decide⟩ all0 ?_
  intro T h1 r w _ hQ
  obtain ⟨rfl, rfl⟩ := hQ
  show Go x _ Z _ _ _ T 7 #[.val (.ref t), .val (.int (1 : Int32)), .val (.int ((4 : Int32) >>> ((1 : Int32) &&& 31)))] [(.int c1)]
  exact w.retI d23_7 rfl ⟨rfl, rfl⟩

set_option maxRecDepth 65536 in
set_option maxHeartbeats 40000000 in
theorem rmPB_2_1 (l : Launch) (Z : State) (a0 : Array Value) (hw : ∀ d ∈ tables_1, d.before a0 Z = true) (hr : rest_1_c.value a0 Z none Z [] = some true) (a t : Addr) (c0 c1 : Int32) (h0 : Heap) (hE : Ext Z.heap h0) (Sa : ((StrL Z h0 a t 0 [nar .byte c0, nar .byte c1] ∧ (¬ 255 < c0 ∧ ¬ 255 < c1 ∧ True)) ∨ StrL Z h0 a t 1 [nar .byte (c0 >>> ((0 : Int32) &&& 31)), nar .byte (c0 >>> ((8 : Int32) &&& 31)), nar .byte (c1 >>> ((0 : Int32) &&& 31)), nar .byte (c1 >>> ((8 : Int32) &&& 31))])) (z0 : 0 ≤ c0.toInt) (v0 : c0.toInt < 65536) (z1 : 0 ≤ c1.toInt) (v1 : c1.toInt < 65536) (nh : c1 < 55296 ∨ ¬ c1 < 56320) :
    Ct true l Z consts_1 (⟨"java/lang/String", "codePointAt", "(I)I"⟩ : MethodName) jdk_42_method_57_code 3 (some .int) [] ({ frames := 3, cells := 0, slots := 0, locals := 45 } : Room) [] #[(.ref a), (.int (1 : Int32))] h0 (fun r w => r = some (.int c1) ∧ h0 = w) := by
  refine Ct.intro pn_java_lang_String hE (fun m => efSCP m a _) nosf ⟨a0, own_EW hw⟩ ?_
  intro x T w
  rcases Sa with ⟨Sa, ul⟩ | Sa
  · obtain ⟨Ea, Va, Ca, ka, Aa, -⟩ := id Sa
    obtain ⟨cla, Ara, -, Sa, Ma, Ha, -⟩ := Aa
    have Sa : cla.slots.size = (2 : Int32).toNatClampNeg := Sa
    refine w.aloadN d19_0 rfl rfl ?_
    refine w.callV (argsL := []) (rest := []) 0 d19_1 (tw hw 91 rfl) (tw hw 92 rfl) (tw hw 94 rfl) (tw hw 93 rfl) (tw hw 15 rfl) (tw hw 95 rfl) (by decide) Ea (rmIL0 l Z a0 hw hr a h0 w.old Ca) (lenOf pd_13 rfl) rfl rfl (Nat.le_refl _) ⟨by decide, by decide, by decide, by decide⟩ all0 ?_
    intro T h1 r w _ hQ
    obtain ⟨rfl, rfl⟩ := hQ
    show Go x _ Z _ _ _ T 4 #[.val (.ref a), .val (.int (1 : Int32)), .unset] [(.int (1 : Int32))]
    refine w.ifEq d19_4 d19_4t (fun q => absurd q (by decide)) (fun _ => ?_)
    refine w.iloadN d19_7 rfl ?_
    refine w.aloadN d19_8 rfl rfl ?_
    refine w.getF d19_9 (tw hw 32 rfl) Va ?_
    intro T w
    refine w.alen (2 : Int32) d19_12 Ara (len_of Sa Ma) ?_
    refine w.callS (argsL := [(.int (1 : Int32)), (.int (2 : Int32))]) (rest := []) 0 d19_13 (tw hw 96 rfl) (tw hw 97 rfl) (tw hw 15 rfl) (tw hw 98 rfl) (by decide) (rmCI l Z a0 hw hr (1 : Int32) (2 : Int32) (by decide) (by decide) h0 w.old) (lenOf pd_14 rfl) rfl rfl (Nat.le_refl _) ⟨by decide, by decide, by decide, by decide⟩ all0 ?_
    intro T h2 r w _ hQ
    obtain ⟨rfl, rfl⟩ := hQ
    show Go x _ Z _ _ _ T 16 #[.val (.ref a), .val (.int (1 : Int32)), .unset] []
    refine w.aloadN d19_16 rfl rfl ?_
    refine w.getF d19_17 (tw hw 32 rfl) Va ?_
    intro T w
    refine w.iloadN d19_20 rfl ?_
    refine w.baload d19_21 Ara (inb_of Sa (by decide)) (Ha.at (inb_of Sa (by decide)) rfl) ?_
    refine w.sipush (255 : Int32) d19_22 rfl ?_
    refine w.iand d19_25 ?_
    exact w.retI d19_26 rfl ⟨by rw [b255' z1 ul.2.1], rfl⟩
  · obtain ⟨Ea, Va, Ca, ka, Aa, -⟩ := id Sa
    obtain ⟨cla, Ara, -, Sz, Ma, -, -⟩ := id Aa
    refine w.aloadN d19_0 rfl rfl ?_
    refine w.callV (argsL := []) (rest := []) 0 d19_1 (tw hw 91 rfl) (tw hw 92 rfl) (tw hw 94 rfl) (tw hw 93 rfl) (tw hw 15 rfl) (tw hw 95 rfl) (by decide) Ea (rmIL1 l Z a0 hw hr a h0 w.old Ca) (lenOf pd_13 rfl) rfl rfl (Nat.le_refl _) ⟨by decide, by decide, by decide, by decide⟩ all0 ?_
    intro T h3 r w _ hQ
    obtain ⟨rfl, rfl⟩ := hQ
    show Go x _ Z _ _ _ T 4 #[.val (.ref a), .val (.int (1 : Int32)), .unset] [(.int (0 : Int32))]
    refine w.ifEq d19_4 d19_4t (fun _ => ?_) (fun q => absurd rfl q)
    refine w.aloadN d19_27 rfl rfl ?_
    refine w.getF d19_28 (tw hw 32 rfl) Va ?_
    intro T w
    refine w.alen (4 : Int32) d19_31 Ara (len_of Sz Ma) ?_
    refine w.iconst (1 : Int32) d19_32 rfl ?_
    refine w.ishr d19_33 ?_
    refine w.istoreN #[.val (.ref a), .val (.int (1 : Int32)), .val (.int ((4 : Int32) >>> ((1 : Int32) &&& 31)))] d19_34 rfl ?_
    refine w.iloadN d19_35 rfl ?_
    refine w.iloadN d19_36 rfl ?_
    refine w.callS (argsL := [(.int (1 : Int32)), (.int ((4 : Int32) >>> ((1 : Int32) &&& 31)))]) (rest := []) 0 d19_37 (tw hw 96 rfl) (tw hw 97 rfl) (tw hw 15 rfl) (tw hw 98 rfl) (by decide) (rmCI l Z a0 hw hr (1 : Int32) ((4 : Int32) >>> ((1 : Int32) &&& 31)) (by decide) (by decide) h0 w.old) (lenOf pd_14 rfl) rfl rfl (Nat.le_refl _) ⟨by decide, by decide, by decide, by decide⟩ all0 ?_
    intro T h4 r w _ hQ
    obtain ⟨rfl, rfl⟩ := hQ
    show Go x _ Z _ _ _ T 40 #[.val (.ref a), .val (.int (1 : Int32)), .val (.int ((4 : Int32) >>> ((1 : Int32) &&& 31)))] []
    refine w.aloadN d19_40 rfl rfl ?_
    refine w.getF d19_41 (tw hw 32 rfl) Va ?_
    intro T w
    refine w.iloadN d19_44 rfl ?_
    refine w.iloadN d19_45 rfl ?_
    refine w.callS (argsL := [(.ref t), (.int (1 : Int32)), (.int ((4 : Int32) >>> ((1 : Int32) &&& 31)))]) (rest := []) 0 d19_46 (tw hw 104 rfl) (tw hw 105 rfl) (tw hw 59 rfl) (tw hw 106 rfl) (by decide) (rmUB_2_1 l Z a0 hw hr t ka c0 c1 h0 w.old Aa z0 v0 z1 v1 nh) (lenOf pd_15 rfl) rfl rfl (Nat.le_refl _) ⟨by decide, by decide, by decide, by decide⟩ all0 ?_
    intro T h5 r w _ hQ
    obtain ⟨rfl, rfl⟩ := hQ
    show Go x _ Z _ _ _ T 49 #[.val (.ref a), .val (.int (1 : Int32)), .val (.int ((4 : Int32) >>> ((1 : Int32) &&& 31)))] [(.int c1)]
    exact w.retI d19_49 rfl ⟨rfl, rfl⟩

set_option maxRecDepth 65536 in
set_option maxHeartbeats 40000000 in
theorem rmZB_3_0 (l : Launch) (Z : State) (a0 : Array Value) (hw : ∀ d ∈ tables_1, d.before a0 Z = true) (hr : rest_1_c.value a0 Z none Z [] = some true) (t : Addr) (kb : ClassId) (c0 c1 c2 : Int32) (h0 : Heap) (hE : Ext Z.heap h0) (A : Arv Z h0 t kb .byte (6 : Int32) [(.int (nar .byte (c0 >>> ((0 : Int32) &&& 31)))), (.int (nar .byte (c0 >>> ((8 : Int32) &&& 31)))), (.int (nar .byte (c1 >>> ((0 : Int32) &&& 31)))), (.int (nar .byte (c1 >>> ((8 : Int32) &&& 31)))), (.int (nar .byte (c2 >>> ((0 : Int32) &&& 31)))), (.int (nar .byte (c2 >>> ((8 : Int32) &&& 31))))] (.int 0)) (z0 : 0 ≤ c0.toInt) (v0 : c0.toInt < 65536) (z1 : 0 ≤ c1.toInt) (v1 : c1.toInt < 65536) (z2 : 0 ≤ c2.toInt) (v2 : c2.toInt < 65536) (nh : c0 < 55296 ∨ ¬ c0 < 56320) :
    Ct true l Z consts_1 (⟨"java/lang/StringUTF16", "codePointAt", "([BIIZ)I"⟩ : MethodName) jdk_52_method_7_code 6 (some .int) [] ({ frames := 1, cells := 0, slots := 0, locals := 14 } : Room) [] #[(.ref t), (.int (0 : Int32)), (.int ((6 : Int32) >>> ((1 : Int32) &&& 31))), (.int (0 : Int32))] h0 (fun r w => r = some (.int c0) ∧ h0 = w) := by
  refine Ct.intro pn_java_lang_StringUTF16 hE (fun m => efZ4 m t _ _ _) nosf ⟨a0, own_EW hw⟩ ?_
  intro x T w
  refine w.getS d24_0 (tw hw 77 rfl) (own_ad hr) ?_
  intro T w
  refine w.ifNe d24_3 d24_3t (fun _ => ?_) (fun q => absurd q (by decide))
  refine w.iloadN d24_19 rfl ?_
  refine w.ifEq d24_20 d24_20t (fun _ => ?_) (fun q => absurd rfl q)
  refine w.aloadN d24_28 rfl rfl ?_
  refine w.iloadN d24_29 rfl ?_
  refine w.callS (argsL := [(.ref t), (.int (0 : Int32))]) (rest := []) 0 d24_30 (tw hw 80 rfl) (tw hw 81 rfl) (tw hw 59 rfl) (tw hw 82 rfl) (by decide) (rmGe_3_0 l Z a0 hw hr t kb c0 c1 c2 h0 w.old A z0 v0) (lenOf pd_8 rfl) rfl rfl (Nat.le_refl _) ⟨by decide, by decide, by decide, by decide⟩ all0 ?_
  intro T h1 r w _ hQ
  obtain ⟨rfl, rfl⟩ := hQ
  show Go x _ Z _ _ _ T 33 #[.val (.ref t), .val (.int (0 : Int32)), .val (.int ((6 : Int32) >>> ((1 : Int32) &&& 31))), .val (.int (0 : Int32)), .unset, .unset] [(.int c0)]
  refine w.istore #[.val (.ref t), .val (.int (0 : Int32)), .val (.int ((6 : Int32) >>> ((1 : Int32) &&& 31))), .val (.int (0 : Int32)), .val (.int c0), .unset] d24_33 rfl ?_
  refine w.iload d24_35 rfl ?_
  refine w.callS (argsL := [(.int c0)]) (rest := []) 0 d24_37 (tw hw 110 rfl) (tw hw 111 rfl) (tw hw 112 rfl) (tw hw 113 rfl) (by decide) (rmHi l Z a0 hw c0 h0 w.old) (lenOf pd_11 rfl) rfl rfl (Nat.le_refl _) ⟨by decide, by decide, by decide, by decide⟩ all0 ?_
  intro T h2 r w _ hQ
  obtain ⟨rfl, rfl⟩ := hQ
  show Go x _ Z _ _ _ T 40 #[.val (.ref t), .val (.int (0 : Int32)), .val (.int ((6 : Int32) >>> ((1 : Int32) &&& 31))), .val (.int (0 : Int32)), .val (.int c0), .unset] [(.int (if ¬ c0 < 55296 ∧ c0 < 56320 then 1 else 0))]
  refine w.ifEq d24_40 d24_40t (fun _ => ?_) (fun q => absurd (if_neg (fun e => nh.elim e.1 (fun z => z e.2))) q)
  refine w.iload d24_83 rfl ?_
  exact w.retI d24_85 rfl ⟨rfl, rfl⟩

set_option maxRecDepth 65536 in
set_option maxHeartbeats 40000000 in
theorem rmUB_3_0 (l : Launch) (Z : State) (a0 : Array Value) (hw : ∀ d ∈ tables_1, d.before a0 Z = true) (hr : rest_1_c.value a0 Z none Z [] = some true) (t : Addr) (kb : ClassId) (c0 c1 c2 : Int32) (h0 : Heap) (hE : Ext Z.heap h0) (A : Arv Z h0 t kb .byte (6 : Int32) [(.int (nar .byte (c0 >>> ((0 : Int32) &&& 31)))), (.int (nar .byte (c0 >>> ((8 : Int32) &&& 31)))), (.int (nar .byte (c1 >>> ((0 : Int32) &&& 31)))), (.int (nar .byte (c1 >>> ((8 : Int32) &&& 31)))), (.int (nar .byte (c2 >>> ((0 : Int32) &&& 31)))), (.int (nar .byte (c2 >>> ((8 : Int32) &&& 31))))] (.int 0)) (z0 : 0 ≤ c0.toInt) (v0 : c0.toInt < 65536) (z1 : 0 ≤ c1.toInt) (v1 : c1.toInt < 65536) (z2 : 0 ≤ c2.toInt) (v2 : c2.toInt < 65536) (nh : c0 < 55296 ∨ ¬ c0 < 56320) :
    Ct true l Z consts_1 (⟨"java/lang/StringUTF16", "codePointAt", "([BII)I"⟩ : MethodName) jdk_52_method_8_code 3 (some .int) [] ({ frames := 2, cells := 0, slots := 0, locals := 31 } : Room) [] #[(.ref t), (.int (0 : Int32)), (.int ((6 : Int32) >>> ((1 : Int32) &&& 31)))] h0 (fun r w => r = some (.int c0) ∧ h0 = w) := by
  refine Ct.intro pn_java_lang_StringUTF16 hE (fun m => efU3 m t _ _) nosf ⟨a0, own_EW hw⟩ ?_
  intro x T w
  refine w.aloadN d23_0 rfl rfl ?_
  refine w.iloadN d23_1 rfl ?_
  refine w.iloadN d23_2 rfl ?_
  refine w.iconst (0 : Int32) d23_3 rfl ?_
  refine w.callS (argsL := [(.ref t), (.int (0 : Int32)), (.int ((6 : Int32) >>> ((1 : Int32) &&& 31))), (.int (0 : Int32))]) (rest := []) 0 d23_4 (tw hw 107 rfl) (tw hw 108 rfl) (tw hw 59 rfl) (tw hw 109 rfl) (by decide) (rmZB_3_0 l Z a0 hw hr t kb c0 c1 c2 h0 w.old A z0 v0 z1 v1 z2 v2 nh) (lenOf pd_12 rfl) rfl rfl (Nat.le_refl _) ⟨by decide, by decide, by decide, by decide⟩ all0 ?_
  intro T h1 r w _ hQ
  obtain ⟨rfl, rfl⟩ := hQ
  show Go x _ Z _ _ _ T 7 #[.val (.ref t), .val (.int (0 : Int32)), .val (.int ((6 : Int32) >>> ((1 : Int32) &&& 31)))] [(.int c0)]
  exact w.retI d23_7 rfl ⟨rfl, rfl⟩

set_option maxRecDepth 65536 in
set_option maxHeartbeats 40000000 in
theorem rmPB_3_0 (l : Launch) (Z : State) (a0 : Array Value) (hw : ∀ d ∈ tables_1, d.before a0 Z = true) (hr : rest_1_c.value a0 Z none Z [] = some true) (a t : Addr) (c0 c1 c2 : Int32) (h0 : Heap) (hE : Ext Z.heap h0) (Sa : ((StrL Z h0 a t 0 [nar .byte c0, nar .byte c1, nar .byte c2] ∧ (¬ 255 < c0 ∧ ¬ 255 < c1 ∧ ¬ 255 < c2 ∧ True)) ∨ StrL Z h0 a t 1 [nar .byte (c0 >>> ((0 : Int32) &&& 31)), nar .byte (c0 >>> ((8 : Int32) &&& 31)), nar .byte (c1 >>> ((0 : Int32) &&& 31)), nar .byte (c1 >>> ((8 : Int32) &&& 31)), nar .byte (c2 >>> ((0 : Int32) &&& 31)), nar .byte (c2 >>> ((8 : Int32) &&& 31))])) (z0 : 0 ≤ c0.toInt) (v0 : c0.toInt < 65536) (z1 : 0 ≤ c1.toInt) (v1 : c1.toInt < 65536) (z2 : 0 ≤ c2.toInt) (v2 : c2.toInt < 65536) (nh : c0 < 55296 ∨ ¬ c0 < 56320) :
    Ct true l Z consts_1 (⟨"java/lang/String", "codePointAt", "(I)I"⟩ : MethodName) jdk_42_method_57_code 3 (some .int) [] ({ frames := 3, cells := 0, slots := 0, locals := 45 } : Room) [] #[(.ref a), (.int (0 : Int32))] h0 (fun r w => r = some (.int c0) ∧ h0 = w) := by
  refine Ct.intro pn_java_lang_String hE (fun m => efSCP m a _) nosf ⟨a0, own_EW hw⟩ ?_
  intro x T w
  rcases Sa with ⟨Sa, ul⟩ | Sa
  · obtain ⟨Ea, Va, Ca, ka, Aa, -⟩ := id Sa
    obtain ⟨cla, Ara, -, Sa, Ma, Ha, -⟩ := Aa
    have Sa : cla.slots.size = (3 : Int32).toNatClampNeg := Sa
    refine w.aloadN d19_0 rfl rfl ?_
    refine w.callV (argsL := []) (rest := []) 0 d19_1 (tw hw 91 rfl) (tw hw 92 rfl) (tw hw 94 rfl) (tw hw 93 rfl) (tw hw 15 rfl) (tw hw 95 rfl) (by decide) Ea (rmIL0 l Z a0 hw hr a h0 w.old Ca) (lenOf pd_13 rfl) rfl rfl (Nat.le_refl _) ⟨by decide, by decide, by decide, by decide⟩ all0 ?_
    intro T h1 r w _ hQ
    obtain ⟨rfl, rfl⟩ := hQ
    show Go x _ Z _ _ _ T 4 #[.val (.ref a), .val (.int (0 : Int32)), .unset] [(.int (1 : Int32))]
    refine w.ifEq d19_4 d19_4t (fun q => absurd q (by decide)) (fun _ => ?_)
    refine w.iloadN d19_7 rfl ?_
    refine w.aloadN d19_8 rfl rfl ?_
    refine w.getF d19_9 (tw hw 32 rfl) Va ?_
    intro T w
    refine w.alen (3 : Int32) d19_12 Ara (len_of Sa Ma) ?_
    refine w.callS (argsL := [(.int (0 : Int32)), (.int (3 : Int32))]) (rest := []) 0 d19_13 (tw hw 96 rfl) (tw hw 97 rfl) (tw hw 15 rfl) (tw hw 98 rfl) (by decide) (rmCI l Z a0 hw hr (0 : Int32) (3 : Int32) (by decide) (by decide) h0 w.old) (lenOf pd_14 rfl) rfl rfl (Nat.le_refl _) ⟨by decide, by decide, by decide, by decide⟩ all0 ?_
    intro T h2 r w _ hQ
    obtain ⟨rfl, rfl⟩ := hQ
    show Go x _ Z _ _ _ T 16 #[.val (.ref a), .val (.int (0 : Int32)), .unset] []
    refine w.aloadN d19_16 rfl rfl ?_
    refine w.getF d19_17 (tw hw 32 rfl) Va ?_
    intro T w
    refine w.iloadN d19_20 rfl ?_
    refine w.baload d19_21 Ara (inb_of Sa (by decide)) (Ha.at (inb_of Sa (by decide)) rfl) ?_
    refine w.sipush (255 : Int32) d19_22 rfl ?_
    refine w.iand d19_25 ?_
    exact w.retI d19_26 rfl ⟨by rw [b255' z0 ul.1], rfl⟩
  · obtain ⟨Ea, Va, Ca, ka, Aa, -⟩ := id Sa
    obtain ⟨cla, Ara, -, Sz, Ma, -, -⟩ := id Aa
    refine w.aloadN d19_0 rfl rfl ?_
    refine w.callV (argsL := []) (rest := []) 0 d19_1 (tw hw 91 rfl) (tw hw 92 rfl) (tw hw 94 rfl) (tw hw 93 rfl) (tw hw 15 rfl) (tw hw 95 rfl) (by decide) Ea (rmIL1 l Z a0 hw hr a h0 w.old Ca) (lenOf pd_13 rfl) rfl rfl (Nat.le_refl _) ⟨by decide, by decide, by decide, by decide⟩ all0 ?_
    intro T h3 r w _ hQ
    obtain ⟨rfl, rfl⟩ := hQ
    show Go x _ Z _ _ _ T 4 #[.val (.ref a), .val (.int (0 : Int32)), .unset] [(.int (0 : Int32))]
    refine w.ifEq d19_4 d19_4t (fun _ => ?_) (fun q => absurd rfl q)
    refine w.aloadN d19_27 rfl rfl ?_
    refine w.getF d19_28 (tw hw 32 rfl) Va ?_
    intro T w
    refine w.alen (6 : Int32) d19_31 Ara (len_of Sz Ma) ?_
    refine w.iconst (1 : Int32) d19_32 rfl ?_
    refine w.ishr d19_33 ?_
    refine w.istoreN #[.val (.ref a), .val (.int (0 : Int32)), .val (.int ((6 : Int32) >>> ((1 : Int32) &&& 31)))] d19_34 rfl ?_
    refine w.iloadN d19_35 rfl ?_
    refine w.iloadN d19_36 rfl ?_
    refine w.callS (argsL := [(.int (0 : Int32)), (.int ((6 : Int32) >>> ((1 : Int32) &&& 31)))]) (rest := []) 0 d19_37 (tw hw 96 rfl) (tw hw 97 rfl) (tw hw 15 rfl) (tw hw 98 rfl) (by decide) (rmCI l Z a0 hw hr (0 : Int32) ((6 : Int32) >>> ((1 : Int32) &&& 31)) (by decide) (by decide) h0 w.old) (lenOf pd_14 rfl) rfl rfl (Nat.le_refl _) ⟨by decide, by decide, by decide, by decide⟩ all0 ?_
    intro T h4 r w _ hQ
    obtain ⟨rfl, rfl⟩ := hQ
    show Go x _ Z _ _ _ T 40 #[.val (.ref a), .val (.int (0 : Int32)), .val (.int ((6 : Int32) >>> ((1 : Int32) &&& 31)))] []
    refine w.aloadN d19_40 rfl rfl ?_
    refine w.getF d19_41 (tw hw 32 rfl) Va ?_
    intro T w
    refine w.iloadN d19_44 rfl ?_
    refine w.iloadN d19_45 rfl ?_
    refine w.callS (argsL := [(.ref t), (.int (0 : Int32)), (.int ((6 : Int32) >>> ((1 : Int32) &&& 31)))]) (rest := []) 0 d19_46 (tw hw 104 rfl) (tw hw 105 rfl) (tw hw 59 rfl) (tw hw 106 rfl) (by decide) (rmUB_3_0 l Z a0 hw hr t ka c0 c1 c2 h0 w.old Aa z0 v0 z1 v1 z2 v2 nh) (lenOf pd_15 rfl) rfl rfl (Nat.le_refl _) ⟨by decide, by decide, by decide, by decide⟩ all0 ?_
    intro T h5 r w _ hQ
    obtain ⟨rfl, rfl⟩ := hQ
    show Go x _ Z _ _ _ T 49 #[.val (.ref a), .val (.int (0 : Int32)), .val (.int ((6 : Int32) >>> ((1 : Int32) &&& 31)))] [(.int c0)]
    exact w.retI d19_49 rfl ⟨rfl, rfl⟩

set_option maxRecDepth 65536 in
set_option maxHeartbeats 40000000 in
theorem rmZB_3_2 (l : Launch) (Z : State) (a0 : Array Value) (hw : ∀ d ∈ tables_1, d.before a0 Z = true) (hr : rest_1_c.value a0 Z none Z [] = some true) (t : Addr) (kb : ClassId) (c0 c1 c2 : Int32) (h0 : Heap) (hE : Ext Z.heap h0) (A : Arv Z h0 t kb .byte (6 : Int32) [(.int (nar .byte (c0 >>> ((0 : Int32) &&& 31)))), (.int (nar .byte (c0 >>> ((8 : Int32) &&& 31)))), (.int (nar .byte (c1 >>> ((0 : Int32) &&& 31)))), (.int (nar .byte (c1 >>> ((8 : Int32) &&& 31)))), (.int (nar .byte (c2 >>> ((0 : Int32) &&& 31)))), (.int (nar .byte (c2 >>> ((8 : Int32) &&& 31))))] (.int 0)) (z0 : 0 ≤ c0.toInt) (v0 : c0.toInt < 65536) (z1 : 0 ≤ c1.toInt) (v1 : c1.toInt < 65536) (z2 : 0 ≤ c2.toInt) (v2 : c2.toInt < 65536) (nh : c2 < 55296 ∨ ¬ c2 < 56320) :
    Ct true l Z consts_1 (⟨"java/lang/StringUTF16", "codePointAt", "([BIIZ)I"⟩ : MethodName) jdk_52_method_7_code 6 (some .int) [] ({ frames := 1, cells := 0, slots := 0, locals := 14 } : Room) [] #[(.ref t), (.int (2 : Int32)), (.int ((6 : Int32) >>> ((1 : Int32) &&& 31))), (.int (0 : Int32))] h0 (fun r w => r = some (.int c2) ∧ h0 = w) := by
  refine Ct.intro pn_java_lang_StringUTF16 hE (fun m => efZ4 m t _ _ _) nosf ⟨a0, own_EW hw⟩ ?_
  intro x T w
  refine w.getS d24_0 (tw hw 77 rfl) (own_ad hr) ?_
  intro T w
  refine w.ifNe d24_3 d24_3t (fun _ => ?_) (fun q => absurd q (by decide))
  refine w.iloadN d24_19 rfl ?_
  refine w.ifEq d24_20 d24_20t (fun _ => ?_) (fun q => absurd rfl q)
  refine w.aloadN d24_28 rfl rfl ?_
  refine w.iloadN d24_29 rfl ?_
  refine w.callS (argsL := [(.ref t), (.int (2 : Int32))]) (rest := []) 0 d24_30 (tw hw 80 rfl) (tw hw 81 rfl) (tw hw 59 rfl) (tw hw 82 rfl) (by decide) (rmGe_3_2 l Z a0 hw hr t kb c0 c1 c2 h0 w.old A z2 v2) (lenOf pd_8 rfl) rfl rfl (Nat.le_refl _) ⟨by decide, by decide, by decide, by decide⟩ all0 ?_
  intro T h1 r w _ hQ
  obtain ⟨rfl, rfl⟩ := hQ
  show Go x _ Z _ _ _ T 33 #[.val (.ref t), .val (.int (2 : Int32)), .val (.int ((6 : Int32) >>> ((1 : Int32) &&& 31))), .val (.int (0 : Int32)), .unset, .unset] [(.int c2)]
  refine w.istore #[.val (.ref t), .val (.int (2 : Int32)), .val (.int ((6 : Int32) >>> ((1 : Int32) &&& 31))), .val (.int (0 : Int32)), .val (.int c2), .unset] d24_33 rfl ?_
  refine w.iload d24_35 rfl ?_
  refine w.callS (argsL := [(.int c2)]) (rest := []) 0 d24_37 (tw hw 110 rfl) (tw hw 111 rfl) (tw hw 112 rfl) (tw hw 113 rfl) (by decide) (rmHi l Z a0 hw c2 h0 w.old) (lenOf pd_11 rfl) rfl rfl (Nat.le_refl _) ⟨by decide, by decide, by decide, by decide⟩ all0 ?_
  intro T h2 r w _ hQ
  obtain ⟨rfl, rfl⟩ := hQ
  show Go x _ Z _ _ _ T 40 #[.val (.ref t), .val (.int (2 : Int32)), .val (.int ((6 : Int32) >>> ((1 : Int32) &&& 31))), .val (.int (0 : Int32)), .val (.int c2), .unset] [(.int (if ¬ c2 < 55296 ∧ c2 < 56320 then 1 else 0))]
  refine w.ifEq d24_40 d24_40t (fun _ => ?_) (fun q => absurd (if_neg (fun e => nh.elim e.1 (fun z => z e.2))) q)
  refine w.iload d24_83 rfl ?_
  exact w.retI d24_85 rfl ⟨rfl, rfl⟩

set_option maxRecDepth 65536 in
set_option maxHeartbeats 40000000 in
theorem rmUB_3_2 (l : Launch) (Z : State) (a0 : Array Value) (hw : ∀ d ∈ tables_1, d.before a0 Z = true) (hr : rest_1_c.value a0 Z none Z [] = some true) (t : Addr) (kb : ClassId) (c0 c1 c2 : Int32) (h0 : Heap) (hE : Ext Z.heap h0) (A : Arv Z h0 t kb .byte (6 : Int32) [(.int (nar .byte (c0 >>> ((0 : Int32) &&& 31)))), (.int (nar .byte (c0 >>> ((8 : Int32) &&& 31)))), (.int (nar .byte (c1 >>> ((0 : Int32) &&& 31)))), (.int (nar .byte (c1 >>> ((8 : Int32) &&& 31)))), (.int (nar .byte (c2 >>> ((0 : Int32) &&& 31)))), (.int (nar .byte (c2 >>> ((8 : Int32) &&& 31))))] (.int 0)) (z0 : 0 ≤ c0.toInt) (v0 : c0.toInt < 65536) (z1 : 0 ≤ c1.toInt) (v1 : c1.toInt < 65536) (z2 : 0 ≤ c2.toInt) (v2 : c2.toInt < 65536) (nh : c2 < 55296 ∨ ¬ c2 < 56320) :
    Ct true l Z consts_1 (⟨"java/lang/StringUTF16", "codePointAt", "([BII)I"⟩ : MethodName) jdk_52_method_8_code 3 (some .int) [] ({ frames := 2, cells := 0, slots := 0, locals := 31 } : Room) [] #[(.ref t), (.int (2 : Int32)), (.int ((6 : Int32) >>> ((1 : Int32) &&& 31)))] h0 (fun r w => r = some (.int c2) ∧ h0 = w) := by
  refine Ct.intro pn_java_lang_StringUTF16 hE (fun m => efU3 m t _ _) nosf ⟨a0, own_EW hw⟩ ?_
  intro x T w
  refine w.aloadN d23_0 rfl rfl ?_
  refine w.iloadN d23_1 rfl ?_
  refine w.iloadN d23_2 rfl ?_
  refine w.iconst (0 : Int32) d23_3 rfl ?_
  refine w.callS (argsL := [(.ref t), (.int (2 : Int32)), (.int ((6 : Int32) >>> ((1 : Int32) &&& 31))), (.int (0 : Int32))]) (rest := []) 0 d23_4 (tw hw 107 rfl) (tw hw 108 rfl) (tw hw 59 rfl) (tw hw 109 rfl) (by decide) (rmZB_3_2 l Z a0 hw hr t kb c0 c1 c2 h0 w.old A z0 v0 z1 v1 z2 v2 nh) (lenOf pd_12 rfl) rfl rfl (Nat.le_refl _) ⟨by decide, by decide, by decide, by decide⟩ all0 ?_
  intro T h1 r w _ hQ
  obtain ⟨rfl, rfl⟩ := hQ
  show Go x _ Z _ _ _ T 7 #[.val (.ref t), .val (.int (2 : Int32)), .val (.int ((6 : Int32) >>> ((1 : Int32) &&& 31)))] [(.int c2)]
  exact w.retI d23_7 rfl ⟨rfl, rfl⟩

set_option maxRecDepth 65536 in
set_option maxHeartbeats 40000000 in
theorem rmPB_3_2 (l : Launch) (Z : State) (a0 : Array Value) (hw : ∀ d ∈ tables_1, d.before a0 Z = true) (hr : rest_1_c.value a0 Z none Z [] = some true) (a t : Addr) (c0 c1 c2 : Int32) (h0 : Heap) (hE : Ext Z.heap h0) (Sa : ((StrL Z h0 a t 0 [nar .byte c0, nar .byte c1, nar .byte c2] ∧ (¬ 255 < c0 ∧ ¬ 255 < c1 ∧ ¬ 255 < c2 ∧ True)) ∨ StrL Z h0 a t 1 [nar .byte (c0 >>> ((0 : Int32) &&& 31)), nar .byte (c0 >>> ((8 : Int32) &&& 31)), nar .byte (c1 >>> ((0 : Int32) &&& 31)), nar .byte (c1 >>> ((8 : Int32) &&& 31)), nar .byte (c2 >>> ((0 : Int32) &&& 31)), nar .byte (c2 >>> ((8 : Int32) &&& 31))])) (z0 : 0 ≤ c0.toInt) (v0 : c0.toInt < 65536) (z1 : 0 ≤ c1.toInt) (v1 : c1.toInt < 65536) (z2 : 0 ≤ c2.toInt) (v2 : c2.toInt < 65536) (nh : c2 < 55296 ∨ ¬ c2 < 56320) :
    Ct true l Z consts_1 (⟨"java/lang/String", "codePointAt", "(I)I"⟩ : MethodName) jdk_42_method_57_code 3 (some .int) [] ({ frames := 3, cells := 0, slots := 0, locals := 45 } : Room) [] #[(.ref a), (.int (2 : Int32))] h0 (fun r w => r = some (.int c2) ∧ h0 = w) := by
  refine Ct.intro pn_java_lang_String hE (fun m => efSCP m a _) nosf ⟨a0, own_EW hw⟩ ?_
  intro x T w
  rcases Sa with ⟨Sa, ul⟩ | Sa
  · obtain ⟨Ea, Va, Ca, ka, Aa, -⟩ := id Sa
    obtain ⟨cla, Ara, -, Sa, Ma, Ha, -⟩ := Aa
    have Sa : cla.slots.size = (3 : Int32).toNatClampNeg := Sa
    refine w.aloadN d19_0 rfl rfl ?_
    refine w.callV (argsL := []) (rest := []) 0 d19_1 (tw hw 91 rfl) (tw hw 92 rfl) (tw hw 94 rfl) (tw hw 93 rfl) (tw hw 15 rfl) (tw hw 95 rfl) (by decide) Ea (rmIL0 l Z a0 hw hr a h0 w.old Ca) (lenOf pd_13 rfl) rfl rfl (Nat.le_refl _) ⟨by decide, by decide, by decide, by decide⟩ all0 ?_
    intro T h1 r w _ hQ
    obtain ⟨rfl, rfl⟩ := hQ
    show Go x _ Z _ _ _ T 4 #[.val (.ref a), .val (.int (2 : Int32)), .unset] [(.int (1 : Int32))]
    refine w.ifEq d19_4 d19_4t (fun q => absurd q (by decide)) (fun _ => ?_)
    refine w.iloadN d19_7 rfl ?_
    refine w.aloadN d19_8 rfl rfl ?_
    refine w.getF d19_9 (tw hw 32 rfl) Va ?_
    intro T w
    refine w.alen (3 : Int32) d19_12 Ara (len_of Sa Ma) ?_
    refine w.callS (argsL := [(.int (2 : Int32)), (.int (3 : Int32))]) (rest := []) 0 d19_13 (tw hw 96 rfl) (tw hw 97 rfl) (tw hw 15 rfl) (tw hw 98 rfl) (by decide) (rmCI l Z a0 hw hr (2 : Int32) (3 : Int32) (by decide) (by decide) h0 w.old) (lenOf pd_14 rfl) rfl rfl (Nat.le_refl _) ⟨by decide, by decide, by decide, by decide⟩ all0 ?_
    intro T h2 r w _ hQ
    obtain ⟨rfl, rfl⟩ := hQ
    show Go x _ Z _ _ _ T 16 #[.val (.ref a), .val (.int (2 : Int32)), .unset] []
    refine w.aloadN d19_16 rfl rfl ?_
    refine w.getF d19_17 (tw hw 32 rfl) Va ?_
    intro T w
    refine w.iloadN d19_20 rfl ?_
    refine w.baload d19_21 Ara (inb_of Sa (by decide)) (Ha.at (inb_of Sa (by decide)) rfl) ?_
    refine w.sipush (255 : Int32) d19_22 rfl ?_
    refine w.iand d19_25 ?_
    exact w.retI d19_26 rfl ⟨by rw [b255' z2 ul.2.2.1], rfl⟩
  · obtain ⟨Ea, Va, Ca, ka, Aa, -⟩ := id Sa
    obtain ⟨cla, Ara, -, Sz, Ma, -, -⟩ := id Aa
    refine w.aloadN d19_0 rfl rfl ?_
    refine w.callV (argsL := []) (rest := []) 0 d19_1 (tw hw 91 rfl) (tw hw 92 rfl) (tw hw 94 rfl) (tw hw 93 rfl) (tw hw 15 rfl) (tw hw 95 rfl) (by decide) Ea (rmIL1 l Z a0 hw hr a h0 w.old Ca) (lenOf pd_13 rfl) rfl rfl (Nat.le_refl _) ⟨by decide, by decide, by decide, by decide⟩ all0 ?_
    intro T h3 r w _ hQ
    obtain ⟨rfl, rfl⟩ := hQ
    show Go x _ Z _ _ _ T 4 #[.val (.ref a), .val (.int (2 : Int32)), .unset] [(.int (0 : Int32))]
    refine w.ifEq d19_4 d19_4t (fun _ => ?_) (fun q => absurd rfl q)
    refine w.aloadN d19_27 rfl rfl ?_
    refine w.getF d19_28 (tw hw 32 rfl) Va ?_
    intro T w
    refine w.alen (6 : Int32) d19_31 Ara (len_of Sz Ma) ?_
    refine w.iconst (1 : Int32) d19_32 rfl ?_
    refine w.ishr d19_33 ?_
    refine w.istoreN #[.val (.ref a), .val (.int (2 : Int32)), .val (.int ((6 : Int32) >>> ((1 : Int32) &&& 31)))] d19_34 rfl ?_
    refine w.iloadN d19_35 rfl ?_
    refine w.iloadN d19_36 rfl ?_
    refine w.callS (argsL := [(.int (2 : Int32)), (.int ((6 : Int32) >>> ((1 : Int32) &&& 31)))]) (rest := []) 0 d19_37 (tw hw 96 rfl) (tw hw 97 rfl) (tw hw 15 rfl) (tw hw 98 rfl) (by decide) (rmCI l Z a0 hw hr (2 : Int32) ((6 : Int32) >>> ((1 : Int32) &&& 31)) (by decide) (by decide) h0 w.old) (lenOf pd_14 rfl) rfl rfl (Nat.le_refl _) ⟨by decide, by decide, by decide, by decide⟩ all0 ?_
    intro T h4 r w _ hQ
    obtain ⟨rfl, rfl⟩ := hQ
    show Go x _ Z _ _ _ T 40 #[.val (.ref a), .val (.int (2 : Int32)), .val (.int ((6 : Int32) >>> ((1 : Int32) &&& 31)))] []
    refine w.aloadN d19_40 rfl rfl ?_
    refine w.getF d19_41 (tw hw 32 rfl) Va ?_
    intro T w
    refine w.iloadN d19_44 rfl ?_
    refine w.iloadN d19_45 rfl ?_
    refine w.callS (argsL := [(.ref t), (.int (2 : Int32)), (.int ((6 : Int32) >>> ((1 : Int32) &&& 31)))]) (rest := []) 0 d19_46 (tw hw 104 rfl) (tw hw 105 rfl) (tw hw 59 rfl) (tw hw 106 rfl) (by decide) (rmUB_3_2 l Z a0 hw hr t ka c0 c1 c2 h0 w.old Aa z0 v0 z1 v1 z2 v2 nh) (lenOf pd_15 rfl) rfl rfl (Nat.le_refl _) ⟨by decide, by decide, by decide, by decide⟩ all0 ?_
    intro T h5 r w _ hQ
    obtain ⟨rfl, rfl⟩ := hQ
    show Go x _ Z _ _ _ T 49 #[.val (.ref a), .val (.int (2 : Int32)), .val (.int ((6 : Int32) >>> ((1 : Int32) &&& 31)))] [(.int c2)]
    exact w.retI d19_49 rfl ⟨rfl, rfl⟩

set_option maxRecDepth 65536 in
set_option maxHeartbeats 40000000 in
theorem rmZS_2_0 (l : Launch) (Z : State) (a0 : Array Value) (hw : ∀ d ∈ tables_1, d.before a0 Z = true) (hr : rest_1_c.value a0 Z none Z [] = some true) (t : Addr) (kb : ClassId) (c0 c1 : Int32) (h0 : Heap) (hE : Ext Z.heap h0) (A : Arv Z h0 t kb .byte (4 : Int32) [(.int (nar .byte (c0 >>> ((0 : Int32) &&& 31)))), (.int (nar .byte (c0 >>> ((8 : Int32) &&& 31)))), (.int (nar .byte (c1 >>> ((0 : Int32) &&& 31)))), (.int (nar .byte (c1 >>> ((8 : Int32) &&& 31))))] (.int 0)) (z0 : 0 ≤ c0.toInt) (v0 : c0.toInt < 65536) (z1 : 0 ≤ c1.toInt) (v1 : c1.toInt < 65536) (s1 : ¬ c0 < 55296) (s2 : c0 < 56320) (s3 : ¬ c1 < 56320) (s4 : c1 < 57344) :
    Ct true l Z consts_1 (⟨"java/lang/StringUTF16", "codePointAt", "([BIIZ)I"⟩ : MethodName) jdk_52_method_7_code 6 (some .int) [] ({ frames := 1, cells := 0, slots := 0, locals := 14 } : Room) [] #[(.ref t), (.int (0 : Int32)), (.int ((4 : Int32) >>> ((1 : Int32) &&& 31))), (.int (0 : Int32))] h0 (fun r w => r = some (.int (((c0 <<< ((10 : Int32) &&& 31)) + c1) + (-56613888 : Int32))) ∧ h0 = w) := by
  refine Ct.intro pn_java_lang_StringUTF16 hE (fun m => efZ4 m t _ _ _) nosf ⟨a0, own_EW hw⟩ ?_
  intro x T w
  refine w.getS d24_0 (tw hw 77 rfl) (own_ad hr) ?_
  intro T w
  refine w.ifNe d24_3 d24_3t (fun _ => ?_) (fun q => absurd q (by decide))
  refine w.iloadN d24_19 rfl ?_
  refine w.ifEq d24_20 d24_20t (fun _ => ?_) (fun q => absurd rfl q)
  refine w.aloadN d24_28 rfl rfl ?_
  refine w.iloadN d24_29 rfl ?_
  refine w.callS (argsL := [(.ref t), (.int (0 : Int32))]) (rest := []) 0 d24_30 (tw hw 80 rfl) (tw hw 81 rfl) (tw hw 59 rfl) (tw hw 82 rfl) (by decide) (rmGe_2_0 l Z a0 hw hr t kb c0 c1 h0 w.old A z0 v0) (lenOf pd_8 rfl) rfl rfl (Nat.le_refl _) ⟨by decide, by decide, by decide, by decide⟩ all0 ?_
  intro T h1 r w _ hQ
  obtain ⟨rfl, rfl⟩ := hQ
  show Go x _ Z _ _ _ T 33 #[.val (.ref t), .val (.int (0 : Int32)), .val (.int ((4 : Int32) >>> ((1 : Int32) &&& 31))), .val (.int (0 : Int32)), .unset, .unset] [(.int c0)]
  refine w.istore #[.val (.ref t), .val (.int (0 : Int32)), .val (.int ((4 : Int32) >>> ((1 : Int32) &&& 31))), .val (.int (0 : Int32)), .val (.int c0), .unset] d24_33 rfl ?_
  refine w.iload d24_35 rfl ?_
  refine w.callS (argsL := [(.int c0)]) (rest := []) 0 d24_37 (tw hw 110 rfl) (tw hw 111 rfl) (tw hw 112 rfl) (tw hw 113 rfl) (by decide) (rmHi l Z a0 hw c0 h0 w.old) (lenOf pd_11 rfl) rfl rfl (Nat.le_refl _) ⟨by decide, by decide, by decide, by decide⟩ all0 ?_
  intro T h2 r w _ hQ
  obtain ⟨rfl, rfl⟩ := hQ
  show Go x _ Z _ _ _ T 40 #[.val (.ref t), .val (.int (0 : Int32)), .val (.int ((4 : Int32) >>> ((1 : Int32) &&& 31))), .val (.int (0 : Int32)), .val (.int c0), .unset] [(.int (if ¬ c0 < 55296 ∧ c0 < 56320 then 1 else 0))]
  refine w.ifEq d24_40 d24_40t (fun q => absurd q (by rw [if_pos ⟨s1, s2⟩]; decide)) (fun _ => ?_)
  refine w.iinc (1 : Int32) #[.val (.ref t), .val (.int (1 : Int32)), .val (.int ((4 : Int32) >>> ((1 : Int32) &&& 31))), .val (.int (0 : Int32)), .val (.int c0), .unset] d24_43 rfl rfl rfl ?_
  refine w.iloadN d24_46 rfl ?_
  refine w.iloadN d24_47 rfl ?_
  refine w.icmpGe d24_48 d24_48t (fun q => absurd (by decide) q) (fun _ => ?_)
  refine w.iloadN d24_51 rfl ?_
  refine w.ifEq d24_52 d24_52t (fun _ => ?_) (fun q => absurd rfl q)
  refine w.aloadN d24_60 rfl rfl ?_
  refine w.iloadN d24_61 rfl ?_
  refine w.callS (argsL := [(.ref t), (.int (1 : Int32))]) (rest := []) 0 d24_62 (tw hw 80 rfl) (tw hw 81 rfl) (tw hw 59 rfl) (tw hw 82 rfl) (by decide) (rmGe_2_1 l Z a0 hw hr t kb c0 c1 h0 w.old A z1 v1) (lenOf pd_8 rfl) rfl rfl (Nat.le_refl _) ⟨by decide, by decide, by decide, by decide⟩ all0 ?_
  intro T h3 r w _ hQ
  obtain ⟨rfl, rfl⟩ := hQ
  show Go x _ Z _ _ _ T 65 #[.val (.ref t), .val (.int (1 : Int32)), .val (.int ((4 : Int32) >>> ((1 : Int32) &&& 31))), .val (.int (0 : Int32)), .val (.int c0), .unset] [(.int c1)]
  refine w.istore #[.val (.ref t), .val (.int (1 : Int32)), .val (.int ((4 : Int32) >>> ((1 : Int32) &&& 31))), .val (.int (0 : Int32)), .val (.int c0), .val (.int c1)] d24_65 rfl ?_
  refine w.iload d24_67 rfl ?_
  refine w.callS (argsL := [(.int c1)]) (rest := []) 0 d24_69 (tw hw 121 rfl) (tw hw 122 rfl) (tw hw 112 rfl) (tw hw 123 rfl) (by decide) (rmLo l Z a0 hw c1 h0 w.old) (lenOf pd_11 rfl) rfl rfl (Nat.le_refl _) ⟨by decide, by decide, by decide, by decide⟩ all0 ?_
  intro T h4 r w _ hQ
  obtain ⟨rfl, rfl⟩ := hQ
  show Go x _ Z _ _ _ T 72 #[.val (.ref t), .val (.int (1 : Int32)), .val (.int ((4 : Int32) >>> ((1 : Int32) &&& 31))), .val (.int (0 : Int32)), .val (.int c0), .val (.int c1)] [(.int (if ¬ c1 < 56320 ∧ c1 < 57344 then 1 else 0))]
  refine w.ifEq d24_72 d24_72t (fun q => absurd q (by rw [if_pos ⟨s3, s4⟩]; decide)) (fun _ => ?_)
  refine w.iload d24_75 rfl ?_
  refine w.iload d24_77 rfl ?_
  refine w.callS (argsL := [(.int c0), (.int c1)]) (rest := []) 0 d24_79 (tw hw 125 rfl) (tw hw 126 rfl) (tw hw 112 rfl) (tw hw 127 rfl) (by decide) (rmTc l Z a0 hw c0 c1 h0 w.old) (lenOf pd_16 rfl) rfl rfl (Nat.le_refl _) ⟨by decide, by decide, by decide, by decide⟩ all0 ?_
  intro T h5 r w _ hQ
  obtain ⟨rfl, rfl⟩ := hQ
  show Go x _ Z _ _ _ T 82 #[.val (.ref t), .val (.int (1 : Int32)), .val (.int ((4 : Int32) >>> ((1 : Int32) &&& 31))), .val (.int (0 : Int32)), .val (.int c0), .val (.int c1)] [(.int (((c0 <<< ((10 : Int32) &&& 31)) + c1) + (-56613888 : Int32)))]
  exact w.retI d24_82 rfl ⟨rfl, rfl⟩

set_option maxRecDepth 65536 in
set_option maxHeartbeats 40000000 in
theorem rmUS_2_0 (l : Launch) (Z : State) (a0 : Array Value) (hw : ∀ d ∈ tables_1, d.before a0 Z = true) (hr : rest_1_c.value a0 Z none Z [] = some true) (t : Addr) (kb : ClassId) (c0 c1 : Int32) (h0 : Heap) (hE : Ext Z.heap h0) (A : Arv Z h0 t kb .byte (4 : Int32) [(.int (nar .byte (c0 >>> ((0 : Int32) &&& 31)))), (.int (nar .byte (c0 >>> ((8 : Int32) &&& 31)))), (.int (nar .byte (c1 >>> ((0 : Int32) &&& 31)))), (.int (nar .byte (c1 >>> ((8 : Int32) &&& 31))))] (.int 0)) (z0 : 0 ≤ c0.toInt) (v0 : c0.toInt < 65536) (z1 : 0 ≤ c1.toInt) (v1 : c1.toInt < 65536) (s1 : ¬ c0 < 55296) (s2 : c0 < 56320) (s3 : ¬ c1 < 56320) (s4 : c1 < 57344) :
    Ct true l Z consts_1 (⟨"java/lang/StringUTF16", "codePointAt", "([BII)I"⟩ : MethodName) jdk_52_method_8_code 3 (some .int) [] ({ frames := 2, cells := 0, slots := 0, locals := 31 } : Room) [] #[(.ref t), (.int (0 : Int32)), (.int ((4 : Int32) >>> ((1 : Int32) &&& 31)))] h0 (fun r w => r = some (.int (((c0 <<< ((10 : Int32) &&& 31)) + c1) + (-56613888 : Int32))) ∧ h0 = w) := by
  refine Ct.intro pn_java_lang_StringUTF16 hE (fun m => efU3 m t _ _) nosf ⟨a0, own_EW hw⟩ ?_
  intro x T w
  refine w.aloadN d23_0 rfl rfl ?_
  refine w.iloadN d23_1 rfl ?_
  refine w.iloadN d23_2 rfl ?_
  refine w.iconst (0 : Int32) d23_3 rfl ?_
  refine w.callS (argsL := [(.ref t), (.int (0 : Int32)), (.int ((4 : Int32) >>> ((1 : Int32) &&& 31))), (.int (0 : Int32))]) (rest := []) 0 d23_4 (tw hw 107 rfl) (tw hw 108 rfl) (tw hw 59 rfl) (tw hw 109 rfl) (by decide) (rmZS_2_0 l Z a0 hw hr t kb c0 c1 h0 w.old A z0 v0 z1 v1 s1 s2 s3 s4) (lenOf pd_12 rfl) rfl rfl (Nat.le_refl _) ⟨by decide, by decide, by decide, by decide⟩ all0 ?_
  intro T h1 r w _ hQ
  obtain ⟨rfl, rfl⟩ := hQ
  show Go x _ Z _ _ _ T 7 #[.val (.ref t), .val (.int (0 : Int32)), .val (.int ((4 : Int32) >>> ((1 : Int32) &&& 31)))] [(.int (((c0 <<< ((10 : Int32) &&& 31)) + c1) + (-56613888 : Int32)))]
  exact w.retI d23_7 rfl ⟨rfl, rfl⟩

set_option maxRecDepth 65536 in
set_option maxHeartbeats 40000000 in
theorem rmPS_2_0 (l : Launch) (Z : State) (a0 : Array Value) (hw : ∀ d ∈ tables_1, d.before a0 Z = true) (hr : rest_1_c.value a0 Z none Z [] = some true) (a t : Addr) (c0 c1 : Int32) (h0 : Heap) (hE : Ext Z.heap h0) (Sa : ((StrL Z h0 a t 0 [nar .byte c0, nar .byte c1] ∧ (¬ 255 < c0 ∧ ¬ 255 < c1 ∧ True)) ∨ StrL Z h0 a t 1 [nar .byte (c0 >>> ((0 : Int32) &&& 31)), nar .byte (c0 >>> ((8 : Int32) &&& 31)), nar .byte (c1 >>> ((0 : Int32) &&& 31)), nar .byte (c1 >>> ((8 : Int32) &&& 31))])) (z0 : 0 ≤ c0.toInt) (v0 : c0.toInt < 65536) (z1 : 0 ≤ c1.toInt) (v1 : c1.toInt < 65536) (s1 : ¬ c0 < 55296) (s2 : c0 < 56320) (s3 : ¬ c1 < 56320) (s4 : c1 < 57344) :
    Ct true l Z consts_1 (⟨"java/lang/String", "codePointAt", "(I)I"⟩ : MethodName) jdk_42_method_57_code 3 (some .int) [] ({ frames := 3, cells := 0, slots := 0, locals := 45 } : Room) [] #[(.ref a), (.int (0 : Int32))] h0 (fun r w => r = some (.int (((c0 <<< ((10 : Int32) &&& 31)) + c1) + (-56613888 : Int32))) ∧ h0 = w) := by
  refine Ct.intro pn_java_lang_String hE (fun m => efSCP m a _) nosf ⟨a0, own_EW hw⟩ ?_
  intro x T w
  rcases Sa with ⟨Sa, ul⟩ | Sa
  · exact absurd (own_255 s1) ul.1
  · obtain ⟨Ea, Va, Ca, ka, Aa, -⟩ := id Sa
    obtain ⟨cla, Ara, -, Sz, Ma, -, -⟩ := id Aa
    refine w.aloadN d19_0 rfl rfl ?_
    refine w.callV (argsL := []) (rest := []) 0 d19_1 (tw hw 91 rfl) (tw hw 92 rfl) (tw hw 94 rfl) (tw hw 93 rfl) (tw hw 15 rfl) (tw hw 95 rfl) (by decide) Ea (rmIL1 l Z a0 hw hr a h0 w.old Ca) (lenOf pd_13 rfl) rfl rfl (Nat.le_refl _) ⟨by decide, by decide, by decide, by decide⟩ all0 ?_
    intro T h1 r w _ hQ
    obtain ⟨rfl, rfl⟩ := hQ
    show Go x _ Z _ _ _ T 4 #[.val (.ref a), .val (.int (0 : Int32)), .unset] [(.int (0 : Int32))]
    refine w.ifEq d19_4 d19_4t (fun _ => ?_) (fun q => absurd rfl q)
    refine w.aloadN d19_27 rfl rfl ?_
    refine w.getF d19_28 (tw hw 32 rfl) Va ?_
    intro T w
    refine w.alen (4 : Int32) d19_31 Ara (len_of Sz Ma) ?_
    refine w.iconst (1 : Int32) d19_32 rfl ?_
    refine w.ishr d19_33 ?_
    refine w.istoreN #[.val (.ref a), .val (.int (0 : Int32)), .val (.int ((4 : Int32) >>> ((1 : Int32) &&& 31)))] d19_34 rfl ?_
    refine w.iloadN d19_35 rfl ?_
    refine w.iloadN d19_36 rfl ?_
    refine w.callS (argsL := [(.int (0 : Int32)), (.int ((4 : Int32) >>> ((1 : Int32) &&& 31)))]) (rest := []) 0 d19_37 (tw hw 96 rfl) (tw hw 97 rfl) (tw hw 15 rfl) (tw hw 98 rfl) (by decide) (rmCI l Z a0 hw hr (0 : Int32) ((4 : Int32) >>> ((1 : Int32) &&& 31)) (by decide) (by decide) h0 w.old) (lenOf pd_14 rfl) rfl rfl (Nat.le_refl _) ⟨by decide, by decide, by decide, by decide⟩ all0 ?_
    intro T h2 r w _ hQ
    obtain ⟨rfl, rfl⟩ := hQ
    show Go x _ Z _ _ _ T 40 #[.val (.ref a), .val (.int (0 : Int32)), .val (.int ((4 : Int32) >>> ((1 : Int32) &&& 31)))] []
    refine w.aloadN d19_40 rfl rfl ?_
    refine w.getF d19_41 (tw hw 32 rfl) Va ?_
    intro T w
    refine w.iloadN d19_44 rfl ?_
    refine w.iloadN d19_45 rfl ?_
    refine w.callS (argsL := [(.ref t), (.int (0 : Int32)), (.int ((4 : Int32) >>> ((1 : Int32) &&& 31)))]) (rest := []) 0 d19_46 (tw hw 104 rfl) (tw hw 105 rfl) (tw hw 59 rfl) (tw hw 106 rfl) (by decide) (rmUS_2_0 l Z a0 hw hr t ka c0 c1 h0 w.old Aa z0 v0 z1 v1 s1 s2 s3 s4) (lenOf pd_15 rfl) rfl rfl (Nat.le_refl _) ⟨by decide, by decide, by decide, by decide⟩ all0 ?_
    intro T h3 r w _ hQ
    obtain ⟨rfl, rfl⟩ := hQ
    show Go x _ Z _ _ _ T 49 #[.val (.ref a), .val (.int (0 : Int32)), .val (.int ((4 : Int32) >>> ((1 : Int32) &&& 31)))] [(.int (((c0 <<< ((10 : Int32) &&& 31)) + c1) + (-56613888 : Int32)))]
    exact w.retI d19_49 rfl ⟨rfl, rfl⟩

set_option maxRecDepth 65536 in
set_option maxHeartbeats 40000000 in
theorem rmZS_3_1 (l : Launch) (Z : State) (a0 : Array Value) (hw : ∀ d ∈ tables_1, d.before a0 Z = true) (hr : rest_1_c.value a0 Z none Z [] = some true) (t : Addr) (kb : ClassId) (c0 c1 c2 : Int32) (h0 : Heap) (hE : Ext Z.heap h0) (A : Arv Z h0 t kb .byte (6 : Int32) [(.int (nar .byte (c0 >>> ((0 : Int32) &&& 31)))), (.int (nar .byte (c0 >>> ((8 : Int32) &&& 31)))), (.int (nar .byte (c1 >>> ((0 : Int32) &&& 31)))), (.int (nar .byte (c1 >>> ((8 : Int32) &&& 31)))), (.int (nar .byte (c2 >>> ((0 : Int32) &&& 31)))), (.int (nar .byte (c2 >>> ((8 : Int32) &&& 31))))] (.int 0)) (z0 : 0 ≤ c0.toInt) (v0 : c0.toInt < 65536) (z1 : 0 ≤ c1.toInt) (v1 : c1.toInt < 65536) (z2 : 0 ≤ c2.toInt) (v2 : c2.toInt < 65536) (s1 : ¬ c1 < 55296) (s2 : c1 < 56320) (s3 : ¬ c2 < 56320) (s4 : c2 < 57344) :
    Ct true l Z consts_1 (⟨"java/lang/StringUTF16", "codePointAt", "([BIIZ)I"⟩ : MethodName) jdk_52_method_7_code 6 (some .int) [] ({ frames := 1, cells := 0, slots := 0, locals := 14 } : Room) [] #[(.ref t), (.int (1 : Int32)), (.int ((6 : Int32) >>> ((1 : Int32) &&& 31))), (.int (0 : Int32))] h0 (fun r w => r = some (.int (((c1 <<< ((10 : Int32) &&& 31)) + c2) + (-56613888 : Int32))) ∧ h0 = w) := by
  refine Ct.intro pn_java_lang_StringUTF16 hE (fun m => efZ4 m t _ _ _) nosf ⟨a0, own_EW hw⟩ ?_
  intro x T w
  refine w.getS d24_0 (tw hw 77 rfl) (own_ad hr) ?_
  intro T w
  refine w.ifNe d24_3 d24_3t (fun _ => ?_) (fun q => absurd q (by decide))
  refine w.iloadN d24_19 rfl ?_
  refine w.ifEq d24_20 d24_20t (fun _ => ?_) (fun q => absurd rfl q)
  refine w.aloadN d24_28 rfl rfl ?_
  refine w.iloadN d24_29 rfl ?_
  refine w.callS (argsL := [(.ref t), (.int (1 : Int32))]) (rest := []) 0 d24_30 (tw hw 80 rfl) (tw hw 81 rfl) (tw hw 59 rfl) (tw hw 82 rfl) (by decide) (rmGe_3_1 l Z a0 hw hr t kb c0 c1 c2 h0 w.old A z1 v1) (lenOf pd_8 rfl) rfl rfl (Nat.le_refl _) ⟨by decide, by decide, by decide, by decide⟩ all0 ?_
  intro T h1 r w _ hQ
  obtain ⟨rfl, rfl⟩ := hQ
  show Go x _ Z _ _ _ T 33 #[.val (.ref t), .val (.int (1 : Int32)), .val (.int ((6 : Int32) >>> ((1 : Int32) &&& 31))), .val (.int (0 : Int32)), .unset, .unset] [(.int c1)]
  refine w.istore #[.val (.ref t), .val (.int (1 : Int32)), .val (.int ((6 : Int32) >>> ((1 : Int32) &&& 31))), .val (.int (0 : Int32)), .val (.int c1), .unset] d24_33 rfl ?_
  refine w.iload d24_35 rfl ?_
  refine w.callS (argsL := [(.int c1)]) (rest := []) 0 d24_37 (tw hw 110 rfl) (tw hw 111 rfl) (tw hw 112 rfl) (tw hw 113 rfl) (by decide) (rmHi l Z a0 hw c1 h0 w.old) (lenOf pd_11 rfl) rfl rfl (Nat.le_refl _) ⟨by decide, by decide, by decide, by decide⟩ all0 ?_
  intro T h2 r w _ hQ
  obtain ⟨rfl, rfl⟩ := hQ
  show Go x _ Z _ _ _ T 40 #[.val (.ref t), .val (.int (1 : Int32)), .val (.int ((6 : Int32) >>> ((1 : Int32) &&& 31))), .val (.int (0 : Int32)), .val (.int c1), .unset] [(.int (if ¬ c1 < 55296 ∧ c1 < 56320 then 1 else 0))]
  refine w.ifEq d24_40 d24_40t (fun q => absurd q (by rw [if_pos ⟨s1, s2⟩]; decide)) (fun _ => ?_)
  refine w.iinc (1 : Int32) #[.val (.ref t), .val (.int (2 : Int32)), .val (.int ((6 : Int32) >>> ((1 : Int32) &&& 31))), .val (.int (0 : Int32)), .val (.int c1), .unset] d24_43 rfl rfl rfl ?_
  refine w.iloadN d24_46 rfl ?_
  refine w.iloadN d24_47 rfl ?_
  refine w.icmpGe d24_48 d24_48t (fun q => absurd (by decide) q) (fun _ => ?_)
  refine w.iloadN d24_51 rfl ?_
  refine w.ifEq d24_52 d24_52t (fun _ => ?_) (fun q => absurd rfl q)
  refine w.aloadN d24_60 rfl rfl ?_
  refine w.iloadN d24_61 rfl ?_
  refine w.callS (argsL := [(.ref t), (.int (2 : Int32))]) (rest := []) 0 d24_62 (tw hw 80 rfl) (tw hw 81 rfl) (tw hw 59 rfl) (tw hw 82 rfl) (by decide) (rmGe_3_2 l Z a0 hw hr t kb c0 c1 c2 h0 w.old A z2 v2) (lenOf pd_8 rfl) rfl rfl (Nat.le_refl _) ⟨by decide, by decide, by decide, by decide⟩ all0 ?_
  intro T h3 r w _ hQ
  obtain ⟨rfl, rfl⟩ := hQ
  show Go x _ Z _ _ _ T 65 #[.val (.ref t), .val (.int (2 : Int32)), .val (.int ((6 : Int32) >>> ((1 : Int32) &&& 31))), .val (.int (0 : Int32)), .val (.int c1), .unset] [(.int c2)]
  refine w.istore #[.val (.ref t), .val (.int (2 : Int32)), .val (.int ((6 : Int32) >>> ((1 : Int32) &&& 31))), .val (.int (0 : Int32)), .val (.int c1), .val (.int c2)] d24_65 rfl ?_
  refine w.iload d24_67 rfl ?_
  refine w.callS (argsL := [(.int c2)]) (rest := []) 0 d24_69 (tw hw 121 rfl) (tw hw 122 rfl) (tw hw 112 rfl) (tw hw 123 rfl) (by decide) (rmLo l Z a0 hw c2 h0 w.old) (lenOf pd_11 rfl) rfl rfl (Nat.le_refl _) ⟨by decide, by decide, by decide, by decide⟩ all0 ?_
  intro T h4 r w _ hQ
  obtain ⟨rfl, rfl⟩ := hQ
  show Go x _ Z _ _ _ T 72 #[.val (.ref t), .val (.int (2 : Int32)), .val (.int ((6 : Int32) >>> ((1 : Int32) &&& 31))), .val (.int (0 : Int32)), .val (.int c1), .val (.int c2)] [(.int (if ¬ c2 < 56320 ∧ c2 < 57344 then 1 else 0))]
  refine w.ifEq d24_72 d24_72t (fun q => absurd q (by rw [if_pos ⟨s3, s4⟩]; decide)) (fun _ => ?_)
  refine w.iload d24_75 rfl ?_
  refine w.iload d24_77 rfl ?_
  refine w.callS (argsL := [(.int c1), (.int c2)]) (rest := []) 0 d24_79 (tw hw 125 rfl) (tw hw 126 rfl) (tw hw 112 rfl) (tw hw 127 rfl) (by decide) (rmTc l Z a0 hw c1 c2 h0 w.old) (lenOf pd_16 rfl) rfl rfl (Nat.le_refl _) ⟨by decide, by decide, by decide, by decide⟩ all0 ?_
  intro T h5 r w _ hQ
  obtain ⟨rfl, rfl⟩ := hQ
  show Go x _ Z _ _ _ T 82 #[.val (.ref t), .val (.int (2 : Int32)), .val (.int ((6 : Int32) >>> ((1 : Int32) &&& 31))), .val (.int (0 : Int32)), .val (.int c1), .val (.int c2)] [(.int (((c1 <<< ((10 : Int32) &&& 31)) + c2) + (-56613888 : Int32)))]
  exact w.retI d24_82 rfl ⟨rfl, rfl⟩

set_option maxRecDepth 65536 in
set_option maxHeartbeats 40000000 in
theorem rmUS_3_1 (l : Launch) (Z : State) (a0 : Array Value) (hw : ∀ d ∈ tables_1, d.before a0 Z = true) (hr : rest_1_c.value a0 Z none Z [] = some true) (t : Addr) (kb : ClassId) (c0 c1 c2 : Int32) (h0 : Heap) (hE : Ext Z.heap h0) (A : Arv Z h0 t kb .byte (6 : Int32) [(.int (nar .byte (c0 >>> ((0 : Int32) &&& 31)))), (.int (nar .byte (c0 >>> ((8 : Int32) &&& 31)))), (.int (nar .byte (c1 >>> ((0 : Int32) &&& 31)))), (.int (nar .byte (c1 >>> ((8 : Int32) &&& 31)))), (.int (nar .byte (c2 >>> ((0 : Int32) &&& 31)))), (.int (nar .byte (c2 >>> ((8 : Int32) &&& 31))))] (.int 0)) (z0 : 0 ≤ c0.toInt) (v0 : c0.toInt < 65536) (z1 : 0 ≤ c1.toInt) (v1 : c1.toInt < 65536) (z2 : 0 ≤ c2.toInt) (v2 : c2.toInt < 65536) (s1 : ¬ c1 < 55296) (s2 : c1 < 56320) (s3 : ¬ c2 < 56320) (s4 : c2 < 57344) :
    Ct true l Z consts_1 (⟨"java/lang/StringUTF16", "codePointAt", "([BII)I"⟩ : MethodName) jdk_52_method_8_code 3 (some .int) [] ({ frames := 2, cells := 0, slots := 0, locals := 31 } : Room) [] #[(.ref t), (.int (1 : Int32)), (.int ((6 : Int32) >>> ((1 : Int32) &&& 31)))] h0 (fun r w => r = some (.int (((c1 <<< ((10 : Int32) &&& 31)) + c2) + (-56613888 : Int32))) ∧ h0 = w) := by
  refine Ct.intro pn_java_lang_StringUTF16 hE (fun m => efU3 m t _ _) nosf ⟨a0, own_EW hw⟩ ?_
  intro x T w
  refine w.aloadN d23_0 rfl rfl ?_
  refine w.iloadN d23_1 rfl ?_
  refine w.iloadN d23_2 rfl ?_
  refine w.iconst (0 : Int32) d23_3 rfl ?_
  refine w.callS (argsL := [(.ref t), (.int (1 : Int32)), (.int ((6 : Int32) >>> ((1 : Int32) &&& 31))), (.int (0 : Int32))]) (rest := []) 0 d23_4 (tw hw 107 rfl) (tw hw 108 rfl) (tw hw 59 rfl) (tw hw 109 rfl) (by decide) (rmZS_3_1 l Z a0 hw hr t kb c0 c1 c2 h0 w.old A z0 v0 z1 v1 z2 v2 s1 s2 s3 s4) (lenOf pd_12 rfl) rfl rfl (Nat.le_refl _) ⟨by decide, by decide, by decide, by decide⟩ all0 ?_
  intro T h1 r w _ hQ
  obtain ⟨rfl, rfl⟩ := hQ
  show Go x _ Z _ _ _ T 7 #[.val (.ref t), .val (.int (1 : Int32)), .val (.int ((6 : Int32) >>> ((1 : Int32) &&& 31)))] [(.int (((c1 <<< ((10 : Int32) &&& 31)) + c2) + (-56613888 : Int32)))]
  exact w.retI d23_7 rfl ⟨rfl, rfl⟩

set_option maxRecDepth 65536 in
set_option maxHeartbeats 40000000 in
theorem rmPS_3_1 (l : Launch) (Z : State) (a0 : Array Value) (hw : ∀ d ∈ tables_1, d.before a0 Z = true) (hr : rest_1_c.value a0 Z none Z [] = some true) (a t : Addr) (c0 c1 c2 : Int32) (h0 : Heap) (hE : Ext Z.heap h0) (Sa : ((StrL Z h0 a t 0 [nar .byte c0, nar .byte c1, nar .byte c2] ∧ (¬ 255 < c0 ∧ ¬ 255 < c1 ∧ ¬ 255 < c2 ∧ True)) ∨ StrL Z h0 a t 1 [nar .byte (c0 >>> ((0 : Int32) &&& 31)), nar .byte (c0 >>> ((8 : Int32) &&& 31)), nar .byte (c1 >>> ((0 : Int32) &&& 31)), nar .byte (c1 >>> ((8 : Int32) &&& 31)), nar .byte (c2 >>> ((0 : Int32) &&& 31)), nar .byte (c2 >>> ((8 : Int32) &&& 31))])) (z0 : 0 ≤ c0.toInt) (v0 : c0.toInt < 65536) (z1 : 0 ≤ c1.toInt) (v1 : c1.toInt < 65536) (z2 : 0 ≤ c2.toInt) (v2 : c2.toInt < 65536) (s1 : ¬ c1 < 55296) (s2 : c1 < 56320) (s3 : ¬ c2 < 56320) (s4 : c2 < 57344) :
    Ct true l Z consts_1 (⟨"java/lang/String", "codePointAt", "(I)I"⟩ : MethodName) jdk_42_method_57_code 3 (some .int) [] ({ frames := 3, cells := 0, slots := 0, locals := 45 } : Room) [] #[(.ref a), (.int (1 : Int32))] h0 (fun r w => r = some (.int (((c1 <<< ((10 : Int32) &&& 31)) + c2) + (-56613888 : Int32))) ∧ h0 = w) := by
  refine Ct.intro pn_java_lang_String hE (fun m => efSCP m a _) nosf ⟨a0, own_EW hw⟩ ?_
  intro x T w
  rcases Sa with ⟨Sa, ul⟩ | Sa
  · exact absurd (own_255 s1) ul.2.1
  · obtain ⟨Ea, Va, Ca, ka, Aa, -⟩ := id Sa
    obtain ⟨cla, Ara, -, Sz, Ma, -, -⟩ := id Aa
    refine w.aloadN d19_0 rfl rfl ?_
    refine w.callV (argsL := []) (rest := []) 0 d19_1 (tw hw 91 rfl) (tw hw 92 rfl) (tw hw 94 rfl) (tw hw 93 rfl) (tw hw 15 rfl) (tw hw 95 rfl) (by decide) Ea (rmIL1 l Z a0 hw hr a h0 w.old Ca) (lenOf pd_13 rfl) rfl rfl (Nat.le_refl _) ⟨by decide, by decide, by decide, by decide⟩ all0 ?_
    intro T h1 r w _ hQ
    obtain ⟨rfl, rfl⟩ := hQ
    show Go x _ Z _ _ _ T 4 #[.val (.ref a), .val (.int (1 : Int32)), .unset] [(.int (0 : Int32))]
    refine w.ifEq d19_4 d19_4t (fun _ => ?_) (fun q => absurd rfl q)
    refine w.aloadN d19_27 rfl rfl ?_
    refine w.getF d19_28 (tw hw 32 rfl) Va ?_
    intro T w
    refine w.alen (6 : Int32) d19_31 Ara (len_of Sz Ma) ?_
    refine w.iconst (1 : Int32) d19_32 rfl ?_
    refine w.ishr d19_33 ?_
    refine w.istoreN #[.val (.ref a), .val (.int (1 : Int32)), .val (.int ((6 : Int32) >>> ((1 : Int32) &&& 31)))] d19_34 rfl ?_
    refine w.iloadN d19_35 rfl ?_
    refine w.iloadN d19_36 rfl ?_
    refine w.callS (argsL := [(.int (1 : Int32)), (.int ((6 : Int32) >>> ((1 : Int32) &&& 31)))]) (rest := []) 0 d19_37 (tw hw 96 rfl) (tw hw 97 rfl) (tw hw 15 rfl) (tw hw 98 rfl) (by decide) (rmCI l Z a0 hw hr (1 : Int32) ((6 : Int32) >>> ((1 : Int32) &&& 31)) (by decide) (by decide) h0 w.old) (lenOf pd_14 rfl) rfl rfl (Nat.le_refl _) ⟨by decide, by decide, by decide, by decide⟩ all0 ?_
    intro T h2 r w _ hQ
    obtain ⟨rfl, rfl⟩ := hQ
    show Go x _ Z _ _ _ T 40 #[.val (.ref a), .val (.int (1 : Int32)), .val (.int ((6 : Int32) >>> ((1 : Int32) &&& 31)))] []
    refine w.aloadN d19_40 rfl rfl ?_
    refine w.getF d19_41 (tw hw 32 rfl) Va ?_
    intro T w
    refine w.iloadN d19_44 rfl ?_
    refine w.iloadN d19_45 rfl ?_
    refine w.callS (argsL := [(.ref t), (.int (1 : Int32)), (.int ((6 : Int32) >>> ((1 : Int32) &&& 31)))]) (rest := []) 0 d19_46 (tw hw 104 rfl) (tw hw 105 rfl) (tw hw 59 rfl) (tw hw 106 rfl) (by decide) (rmUS_3_1 l Z a0 hw hr t ka c0 c1 c2 h0 w.old Aa z0 v0 z1 v1 z2 v2 s1 s2 s3 s4) (lenOf pd_15 rfl) rfl rfl (Nat.le_refl _) ⟨by decide, by decide, by decide, by decide⟩ all0 ?_
    intro T h3 r w _ hQ
    obtain ⟨rfl, rfl⟩ := hQ
    show Go x _ Z _ _ _ T 49 #[.val (.ref a), .val (.int (1 : Int32)), .val (.int ((6 : Int32) >>> ((1 : Int32) &&& 31)))] [(.int (((c1 <<< ((10 : Int32) &&& 31)) + c2) + (-56613888 : Int32)))]
    exact w.retI d19_49 rfl ⟨rfl, rfl⟩

set_option maxRecDepth 65536 in
set_option maxHeartbeats 40000000 in
theorem rmZS_3_0 (l : Launch) (Z : State) (a0 : Array Value) (hw : ∀ d ∈ tables_1, d.before a0 Z = true) (hr : rest_1_c.value a0 Z none Z [] = some true) (t : Addr) (kb : ClassId) (c0 c1 c2 : Int32) (h0 : Heap) (hE : Ext Z.heap h0) (A : Arv Z h0 t kb .byte (6 : Int32) [(.int (nar .byte (c0 >>> ((0 : Int32) &&& 31)))), (.int (nar .byte (c0 >>> ((8 : Int32) &&& 31)))), (.int (nar .byte (c1 >>> ((0 : Int32) &&& 31)))), (.int (nar .byte (c1 >>> ((8 : Int32) &&& 31)))), (.int (nar .byte (c2 >>> ((0 : Int32) &&& 31)))), (.int (nar .byte (c2 >>> ((8 : Int32) &&& 31))))] (.int 0)) (z0 : 0 ≤ c0.toInt) (v0 : c0.toInt < 65536) (z1 : 0 ≤ c1.toInt) (v1 : c1.toInt < 65536) (z2 : 0 ≤ c2.toInt) (v2 : c2.toInt < 65536) (s1 : ¬ c0 < 55296) (s2 : c0 < 56320) (s3 : ¬ c1 < 56320) (s4 : c1 < 57344) :
    Ct true l Z consts_1 (⟨"java/lang/StringUTF16", "codePointAt", "([BIIZ)I"⟩ : MethodName) jdk_52_method_7_code 6 (some .int) [] ({ frames := 1, cells := 0, slots := 0, locals := 14 } : Room) [] #[(.ref t), (.int (0 : Int32)), (.int ((6 : Int32) >>> ((1 : Int32) &&& 31))), (.int (0 : Int32))] h0 (fun r w => r = some (.int (((c0 <<< ((10 : Int32) &&& 31)) + c1) + (-56613888 : Int32))) ∧ h0 = w) := by
  refine Ct.intro pn_java_lang_StringUTF16 hE (fun m => efZ4 m t _ _ _) nosf ⟨a0, own_EW hw⟩ ?_
  intro x T w
  refine w.getS d24_0 (tw hw 77 rfl) (own_ad hr) ?_
  intro T w
  refine w.ifNe d24_3 d24_3t (fun _ => ?_) (fun q => absurd q (by decide))
  refine w.iloadN d24_19 rfl ?_
  refine w.ifEq d24_20 d24_20t (fun _ => ?_) (fun q => absurd rfl q)
  refine w.aloadN d24_28 rfl rfl ?_
  refine w.iloadN d24_29 rfl ?_
  refine w.callS (argsL := [(.ref t), (.int (0 : Int32))]) (rest := []) 0 d24_30 (tw hw 80 rfl) (tw hw 81 rfl) (tw hw 59 rfl) (tw hw 82 rfl) (by decide) (rmGe_3_0 l Z a0 hw hr t kb c0 c1 c2 h0 w.old A z0 v0) (lenOf pd_8 rfl) rfl rfl (Nat.le_refl _) ⟨by decide, by decide, by decide, by decide⟩ all0 ?_
  intro T h1 r w _ hQ
  obtain ⟨rfl, rfl⟩ := hQ
  show Go x _ Z _ _ _ T 33 #[.val (.ref t), .val (.int (0 : Int32)), .val (.int ((6 : Int32) >>> ((1 : Int32) &&& 31))), .val (.int (0 : Int32)), .unset, .unset] [(.int c0)]
  refine w.istore #[.val (.ref t), .val (.int (0 : Int32)), .val (.int ((6 : Int32) >>> ((1 : Int32) &&& 31))), .val (.int (0 : Int32)), .val (.int c0), .unset] d24_33 rfl ?_
  refine w.iload d24_35 rfl ?_
  refine w.callS (argsL := [(.int c0)]) (rest := []) 0 d24_37 (tw hw 110 rfl) (tw hw 111 rfl) (tw hw 112 rfl) (tw hw 113 rfl) (by decide) (rmHi l Z a0 hw c0 h0 w.old) (lenOf pd_11 rfl) rfl rfl (Nat.le_refl _) ⟨by decide, by decide, by decide, by decide⟩ all0 ?_
  intro T h2 r w _ hQ
  obtain ⟨rfl, rfl⟩ := hQ
  show Go x _ Z _ _ _ T 40 #[.val (.ref t), .val (.int (0 : Int32)), .val (.int ((6 : Int32) >>> ((1 : Int32) &&& 31))), .val (.int (0 : Int32)), .val (.int c0), .unset] [(.int (if ¬ c0 < 55296 ∧ c0 < 56320 then 1 else 0))]
  refine w.ifEq d24_40 d24_40t (fun q => absurd q (by rw [if_pos ⟨s1, s2⟩]; decide)) (fun _ => ?_)
  refine w.iinc (1 : Int32) #[.val (.ref t), .val (.int (1 : Int32)), .val (.int ((6 : Int32) >>> ((1 : Int32) &&& 31))), .val (.int (0 : Int32)), .val (.int c0), .unset] d24_43 rfl rfl rfl ?_
  refine w.iloadN d24_46 rfl ?_
  refine w.iloadN d24_47 rfl ?_
  refine w.icmpGe d24_48 d24_48t (fun q => absurd (by decide) q) (fun _ => ?_)
  refine w.iloadN d24_51 rfl ?_
  refine w.ifEq d24_52 d24_52t (fun _ => ?_) (fun q => absurd rfl q)
  refine w.aloadN d24_60 rfl rfl ?_
  refine w.iloadN d24_61 rfl ?_
  refine w.callS (argsL := [(.ref t), (.int (1 : Int32))]) (rest := []) 0 d24_62 (tw hw 80 rfl) (tw hw 81 rfl) (tw hw 59 rfl) (tw hw 82 rfl) (by decide) (rmGe_3_1 l Z a0 hw hr t kb c0 c1 c2 h0 w.old A z1 v1) (lenOf pd_8 rfl) rfl rfl (Nat.le_refl _) ⟨by decide, by decide, by decide, by decide⟩ all0 ?_
  intro T h3 r w _ hQ
  obtain ⟨rfl, rfl⟩ := hQ
  show Go x _ Z _ _ _ T 65 #[.val (.ref t), .val (.int (1 : Int32)), .val (.int ((6 : Int32) >>> ((1 : Int32) &&& 31))), .val (.int (0 : Int32)), .val (.int c0), .unset] [(.int c1)]
  refine w.istore #[.val (.ref t), .val (.int (1 : Int32)), .val (.int ((6 : Int32) >>> ((1 : Int32) &&& 31))), .val (.int (0 : Int32)), .val (.int c0), .val (.int c1)] d24_65 rfl ?_
  refine w.iload d24_67 rfl ?_
  refine w.callS (argsL := [(.int c1)]) (rest := []) 0 d24_69 (tw hw 121 rfl) (tw hw 122 rfl) (tw hw 112 rfl) (tw hw 123 rfl) (by decide) (rmLo l Z a0 hw c1 h0 w.old) (lenOf pd_11 rfl) rfl rfl (Nat.le_refl _) ⟨by decide, by decide, by decide, by decide⟩ all0 ?_
  intro T h4 r w _ hQ
  obtain ⟨rfl, rfl⟩ := hQ
  show Go x _ Z _ _ _ T 72 #[.val (.ref t), .val (.int (1 : Int32)), .val (.int ((6 : Int32) >>> ((1 : Int32) &&& 31))), .val (.int (0 : Int32)), .val (.int c0), .val (.int c1)] [(.int (if ¬ c1 < 56320 ∧ c1 < 57344 then 1 else 0))]
  refine w.ifEq d24_72 d24_72t (fun q => absurd q (by rw [if_pos ⟨s3, s4⟩]; decide)) (fun _ => ?_)
  refine w.iload d24_75 rfl ?_
  refine w.iload d24_77 rfl ?_
  refine w.callS (argsL := [(.int c0), (.int c1)]) (rest := []) 0 d24_79 (tw hw 125 rfl) (tw hw 126 rfl) (tw hw 112 rfl) (tw hw 127 rfl) (by decide) (rmTc l Z a0 hw c0 c1 h0 w.old) (lenOf pd_16 rfl) rfl rfl (Nat.le_refl _) ⟨by decide, by decide, by decide, by decide⟩ all0 ?_
  intro T h5 r w _ hQ
  obtain ⟨rfl, rfl⟩ := hQ
  show Go x _ Z _ _ _ T 82 #[.val (.ref t), .val (.int (1 : Int32)), .val (.int ((6 : Int32) >>> ((1 : Int32) &&& 31))), .val (.int (0 : Int32)), .val (.int c0), .val (.int c1)] [(.int (((c0 <<< ((10 : Int32) &&& 31)) + c1) + (-56613888 : Int32)))]
  exact w.retI d24_82 rfl ⟨rfl, rfl⟩

set_option maxRecDepth 65536 in
set_option maxHeartbeats 40000000 in
theorem rmUS_3_0 (l : Launch) (Z : State) (a0 : Array Value) (hw : ∀ d ∈ tables_1, d.before a0 Z = true) (hr : rest_1_c.value a0 Z none Z [] = some true) (t : Addr) (kb : ClassId) (c0 c1 c2 : Int32) (h0 : Heap) (hE : Ext Z.heap h0) (A : Arv Z h0 t kb .byte (6 : Int32) [(.int (nar .byte (c0 >>> ((0 : Int32) &&& 31)))), (.int (nar .byte (c0 >>> ((8 : Int32) &&& 31)))), (.int (nar .byte (c1 >>> ((0 : Int32) &&& 31)))), (.int (nar .byte (c1 >>> ((8 : Int32) &&& 31)))), (.int (nar .byte (c2 >>> ((0 : Int32) &&& 31)))), (.int (nar .byte (c2 >>> ((8 : Int32) &&& 31))))] (.int 0)) (z0 : 0 ≤ c0.toInt) (v0 : c0.toInt < 65536) (z1 : 0 ≤ c1.toInt) (v1 : c1.toInt < 65536) (z2 : 0 ≤ c2.toInt) (v2 : c2.toInt < 65536) (s1 : ¬ c0 < 55296) (s2 : c0 < 56320) (s3 : ¬ c1 < 56320) (s4 : c1 < 57344) :
    Ct true l Z consts_1 (⟨"java/lang/StringUTF16", "codePointAt", "([BII)I"⟩ : MethodName) jdk_52_method_8_code 3 (some .int) [] ({ frames := 2, cells := 0, slots := 0, locals := 31 } : Room) [] #[(.ref t), (.int (0 : Int32)), (.int ((6 : Int32) >>> ((1 : Int32) &&& 31)))] h0 (fun r w => r = some (.int (((c0 <<< ((10 : Int32) &&& 31)) + c1) + (-56613888 : Int32))) ∧ h0 = w) := by
  refine Ct.intro pn_java_lang_StringUTF16 hE (fun m => efU3 m t _ _) nosf ⟨a0, own_EW hw⟩ ?_
  intro x T w
  refine w.aloadN d23_0 rfl rfl ?_
  refine w.iloadN d23_1 rfl ?_
  refine w.iloadN d23_2 rfl ?_
  refine w.iconst (0 : Int32) d23_3 rfl ?_
  refine w.callS (argsL := [(.ref t), (.int (0 : Int32)), (.int ((6 : Int32) >>> ((1 : Int32) &&& 31))), (.int (0 : Int32))]) (rest := []) 0 d23_4 (tw hw 107 rfl) (tw hw 108 rfl) (tw hw 59 rfl) (tw hw 109 rfl) (by decide) (rmZS_3_0 l Z a0 hw hr t kb c0 c1 c2 h0 w.old A z0 v0 z1 v1 z2 v2 s1 s2 s3 s4) (lenOf pd_12 rfl) rfl rfl (Nat.le_refl _) ⟨by decide, by decide, by decide, by decide⟩ all0 ?_
  intro T h1 r w _ hQ
  obtain ⟨rfl, rfl⟩ := hQ
  show Go x _ Z _ _ _ T 7 #[.val (.ref t), .val (.int (0 : Int32)), .val (.int ((6 : Int32) >>> ((1 : Int32) &&& 31)))] [(.int (((c0 <<< ((10 : Int32) &&& 31)) + c1) + (-56613888 : Int32)))]
  exact w.retI d23_7 rfl ⟨rfl, rfl⟩

set_option maxRecDepth 65536 in
set_option maxHeartbeats 40000000 in
theorem rmPS_3_0 (l : Launch) (Z : State) (a0 : Array Value) (hw : ∀ d ∈ tables_1, d.before a0 Z = true) (hr : rest_1_c.value a0 Z none Z [] = some true) (a t : Addr) (c0 c1 c2 : Int32) (h0 : Heap) (hE : Ext Z.heap h0) (Sa : ((StrL Z h0 a t 0 [nar .byte c0, nar .byte c1, nar .byte c2] ∧ (¬ 255 < c0 ∧ ¬ 255 < c1 ∧ ¬ 255 < c2 ∧ True)) ∨ StrL Z h0 a t 1 [nar .byte (c0 >>> ((0 : Int32) &&& 31)), nar .byte (c0 >>> ((8 : Int32) &&& 31)), nar .byte (c1 >>> ((0 : Int32) &&& 31)), nar .byte (c1 >>> ((8 : Int32) &&& 31)), nar .byte (c2 >>> ((0 : Int32) &&& 31)), nar .byte (c2 >>> ((8 : Int32) &&& 31))])) (z0 : 0 ≤ c0.toInt) (v0 : c0.toInt < 65536) (z1 : 0 ≤ c1.toInt) (v1 : c1.toInt < 65536) (z2 : 0 ≤ c2.toInt) (v2 : c2.toInt < 65536) (s1 : ¬ c0 < 55296) (s2 : c0 < 56320) (s3 : ¬ c1 < 56320) (s4 : c1 < 57344) :
    Ct true l Z consts_1 (⟨"java/lang/String", "codePointAt", "(I)I"⟩ : MethodName) jdk_42_method_57_code 3 (some .int) [] ({ frames := 3, cells := 0, slots := 0, locals := 45 } : Room) [] #[(.ref a), (.int (0 : Int32))] h0 (fun r w => r = some (.int (((c0 <<< ((10 : Int32) &&& 31)) + c1) + (-56613888 : Int32))) ∧ h0 = w) := by
  refine Ct.intro pn_java_lang_String hE (fun m => efSCP m a _) nosf ⟨a0, own_EW hw⟩ ?_
  intro x T w
  rcases Sa with ⟨Sa, ul⟩ | Sa
  · exact absurd (own_255 s1) ul.1
  · obtain ⟨Ea, Va, Ca, ka, Aa, -⟩ := id Sa
    obtain ⟨cla, Ara, -, Sz, Ma, -, -⟩ := id Aa
    refine w.aloadN d19_0 rfl rfl ?_
    refine w.callV (argsL := []) (rest := []) 0 d19_1 (tw hw 91 rfl) (tw hw 92 rfl) (tw hw 94 rfl) (tw hw 93 rfl) (tw hw 15 rfl) (tw hw 95 rfl) (by decide) Ea (rmIL1 l Z a0 hw hr a h0 w.old Ca) (lenOf pd_13 rfl) rfl rfl (Nat.le_refl _) ⟨by decide, by decide, by decide, by decide⟩ all0 ?_
    intro T h1 r w _ hQ
    obtain ⟨rfl, rfl⟩ := hQ
    show Go x _ Z _ _ _ T 4 #[.val (.ref a), .val (.int (0 : Int32)), .unset] [(.int (0 : Int32))]
    refine w.ifEq d19_4 d19_4t (fun _ => ?_) (fun q => absurd rfl q)
    refine w.aloadN d19_27 rfl rfl ?_
    refine w.getF d19_28 (tw hw 32 rfl) Va ?_
    intro T w
    refine w.alen (6 : Int32) d19_31 Ara (len_of Sz Ma) ?_
    refine w.iconst (1 : Int32) d19_32 rfl ?_
    refine w.ishr d19_33 ?_
    refine w.istoreN #[.val (.ref a), .val (.int (0 : Int32)), .val (.int ((6 : Int32) >>> ((1 : Int32) &&& 31)))] d19_34 rfl ?_
    refine w.iloadN d19_35 rfl ?_
    refine w.iloadN d19_36 rfl ?_
    refine w.callS (argsL := [(.int (0 : Int32)), (.int ((6 : Int32) >>> ((1 : Int32) &&& 31)))]) (rest := []) 0 d19_37 (tw hw 96 rfl) (tw hw 97 rfl) (tw hw 15 rfl) (tw hw 98 rfl) (by decide) (rmCI l Z a0 hw hr (0 : Int32) ((6 : Int32) >>> ((1 : Int32) &&& 31)) (by decide) (by decide) h0 w.old) (lenOf pd_14 rfl) rfl rfl (Nat.le_refl _) ⟨by decide, by decide, by decide, by decide⟩ all0 ?_
    intro T h2 r w _ hQ
    obtain ⟨rfl, rfl⟩ := hQ
    show Go x _ Z _ _ _ T 40 #[.val (.ref a), .val (.int (0 : Int32)), .val (.int ((6 : Int32) >>> ((1 : Int32) &&& 31)))] []
    refine w.aloadN d19_40 rfl rfl ?_
    refine w.getF d19_41 (tw hw 32 rfl) Va ?_
    intro T w
    refine w.iloadN d19_44 rfl ?_
    refine w.iloadN d19_45 rfl ?_
    refine w.callS (argsL := [(.ref t), (.int (0 : Int32)), (.int ((6 : Int32) >>> ((1 : Int32) &&& 31)))]) (rest := []) 0 d19_46 (tw hw 104 rfl) (tw hw 105 rfl) (tw hw 59 rfl) (tw hw 106 rfl) (by decide) (rmUS_3_0 l Z a0 hw hr t ka c0 c1 c2 h0 w.old Aa z0 v0 z1 v1 z2 v2 s1 s2 s3 s4) (lenOf pd_15 rfl) rfl rfl (Nat.le_refl _) ⟨by decide, by decide, by decide, by decide⟩ all0 ?_
    intro T h3 r w _ hQ
    obtain ⟨rfl, rfl⟩ := hQ
    show Go x _ Z _ _ _ T 49 #[.val (.ref a), .val (.int (0 : Int32)), .val (.int ((6 : Int32) >>> ((1 : Int32) &&& 31)))] [(.int (((c0 <<< ((10 : Int32) &&& 31)) + c1) + (-56613888 : Int32)))]
    exact w.retI d19_49 rfl ⟨rfl, rfl⟩

set_option maxRecDepth 65536 in
set_option maxHeartbeats 40000000 in
theorem rmZS_4_0 (l : Launch) (Z : State) (a0 : Array Value) (hw : ∀ d ∈ tables_1, d.before a0 Z = true) (hr : rest_1_c.value a0 Z none Z [] = some true) (t : Addr) (kb : ClassId) (c0 c1 c2 c3 : Int32) (h0 : Heap) (hE : Ext Z.heap h0) (A : Arv Z h0 t kb .byte (8 : Int32) [(.int (nar .byte (c0 >>> ((0 : Int32) &&& 31)))), (.int (nar .byte (c0 >>> ((8 : Int32) &&& 31)))), (.int (nar .byte (c1 >>> ((0 : Int32) &&& 31)))), (.int (nar .byte (c1 >>> ((8 : Int32) &&& 31)))), (.int (nar .byte (c2 >>> ((0 : Int32) &&& 31)))), (.int (nar .byte (c2 >>> ((8 : Int32) &&& 31)))), (.int (nar .byte (c3 >>> ((0 : Int32) &&& 31)))), (.int (nar .byte (c3 >>> ((8 : Int32) &&& 31))))] (.int 0)) (z0 : 0 ≤ c0.toInt) (v0 : c0.toInt < 65536) (z1 : 0 ≤ c1.toInt) (v1 : c1.toInt < 65536) (z2 : 0 ≤ c2.toInt) (v2 : c2.toInt < 65536) (z3 : 0 ≤ c3.toInt) (v3 : c3.toInt < 65536) (s1 : ¬ c0 < 55296) (s2 : c0 < 56320) (s3 : ¬ c1 < 56320) (s4 : c1 < 57344) :
    Ct true l Z consts_1 (⟨"java/lang/StringUTF16", "codePointAt", "([BIIZ)I"⟩ : MethodName) jdk_52_method_7_code 6 (some .int) [] ({ frames := 1, cells := 0, slots := 0, locals := 14 } : Room) [] #[(.ref t), (.int (0 : Int32)), (.int ((8 : Int32) >>> ((1 : Int32) &&& 31))), (.int (0 : Int32))] h0 (fun r w => r = some (.int (((c0 <<< ((10 : Int32) &&& 31)) + c1) + (-56613888 : Int32))) ∧ h0 = w) := by
  refine Ct.intro pn_java_lang_StringUTF16 hE (fun m => efZ4 m t _ _ _) nosf ⟨a0, own_EW hw⟩ ?_
  intro x T w
  refine w.getS d24_0 (tw hw 77 rfl) (own_ad hr) ?_
  intro T w
  refine w.ifNe d24_3 d24_3t (fun _ => ?_) (fun q => absurd q (by decide))
  refine w.iloadN d24_19 rfl ?_
  refine w.ifEq d24_20 d24_20t (fun _ => ?_) (fun q => absurd rfl q)
  refine w.aloadN d24_28 rfl rfl ?_
  refine w.iloadN d24_29 rfl ?_
  refine w.callS (argsL := [(.ref t), (.int (0 : Int32))]) (rest := []) 0 d24_30 (tw hw 80 rfl) (tw hw 81 rfl) (tw hw 59 rfl) (tw hw 82 rfl) (by decide) (rmGe_4_0 l Z a0 hw hr t kb c0 c1 c2 c3 h0 w.old A z0 v0) (lenOf pd_8 rfl) rfl rfl (Nat.le_refl _) ⟨by decide, by decide, by decide, by decide⟩ all0 ?_
  intro T h1 r w _ hQ
  obtain ⟨rfl, rfl⟩ := hQ
  show Go x _ Z _ _ _ T 33 #[.val (.ref t), .val (.int (0 : Int32)), .val (.int ((8 : Int32) >>> ((1 : Int32) &&& 31))), .val (.int (0 : Int32)), .unset, .unset] [(.int c0)]
  refine w.istore #[.val (.ref t), .val (.int (0 : Int32)), .val (.int ((8 : Int32) >>> ((1 : Int32) &&& 31))), .val (.int (0 : Int32)), .val (.int c0), .unset] d24_33 rfl ?_
  refine w.iload d24_35 rfl ?_
  refine w.callS (argsL := [(.int c0)]) (rest := []) 0 d24_37 (tw hw 110 rfl) (tw hw 111 rfl) (tw hw 112 rfl) (tw hw 113 rfl) (by decide) (rmHi l Z a0 hw c0 h0 w.old) (lenOf pd_11 rfl) rfl rfl (Nat.le_refl _) ⟨by decide, by decide, by decide, by decide⟩ all0 ?_
  intro T h2 r w _ hQ
  obtain ⟨rfl, rfl⟩ := hQ
  show Go x _ Z _ _ _ T 40 #[.val (.ref t), .val (.int (0 : Int32)), .val (.int ((8 : Int32) >>> ((1 : Int32) &&& 31))), .val (.int (0 : Int32)), .val (.int c0), .unset] [(.int (if ¬ c0 < 55296 ∧ c0 < 56320 then 1 else 0))]
  refine w.ifEq d24_40 d24_40t (fun q => absurd q (by rw [if_pos ⟨s1, s2⟩]; decide)) (fun _ => ?_)
  refine w.iinc (1 : Int32) #[.val (.ref t), .val (.int (1 : Int32)), .val (.int ((8 : Int32) >>> ((1 : Int32) &&& 31))), .val (.int (0 : Int32)), .val (.int c0), .unset] d24_43 rfl rfl rfl ?_
  refine w.iloadN d24_46 rfl ?_
  refine w.iloadN d24_47 rfl ?_
  refine w.icmpGe d24_48 d24_48t (fun q => absurd (by decide) q) (fun _ => ?_)
  refine w.iloadN d24_51 rfl ?_
  refine w.ifEq d24_52 d24_52t (fun _ => ?_) (fun q => absurd rfl q)
  refine w.aloadN d24_60 rfl rfl ?_
  refine w.iloadN d24_61 rfl ?_
  refine w.callS (argsL := [(.ref t), (.int (1 : Int32))]) (rest := []) 0 d24_62 (tw hw 80 rfl) (tw hw 81 rfl) (tw hw 59 rfl) (tw hw 82 rfl) (by decide) (rmGe_4_1 l Z a0 hw hr t kb c0 c1 c2 c3 h0 w.old A z1 v1) (lenOf pd_8 rfl) rfl rfl (Nat.le_refl _) ⟨by decide, by decide, by decide, by decide⟩ all0 ?_
  intro T h3 r w _ hQ
  obtain ⟨rfl, rfl⟩ := hQ
  show Go x _ Z _ _ _ T 65 #[.val (.ref t), .val (.int (1 : Int32)), .val (.int ((8 : Int32) >>> ((1 : Int32) &&& 31))), .val (.int (0 : Int32)), .val (.int c0), .unset] [(.int c1)]
  refine w.istore #[.val (.ref t), .val (.int (1 : Int32)), .val (.int ((8 : Int32) >>> ((1 : Int32) &&& 31))), .val (.int (0 : Int32)), .val (.int c0), .val (.int c1)] d24_65 rfl ?_
  refine w.iload d24_67 rfl ?_
  refine w.callS (argsL := [(.int c1)]) (rest := []) 0 d24_69 (tw hw 121 rfl) (tw hw 122 rfl) (tw hw 112 rfl) (tw hw 123 rfl) (by decide) (rmLo l Z a0 hw c1 h0 w.old) (lenOf pd_11 rfl) rfl rfl (Nat.le_refl _) ⟨by decide, by decide, by decide, by decide⟩ all0 ?_
  intro T h4 r w _ hQ
  obtain ⟨rfl, rfl⟩ := hQ
  show Go x _ Z _ _ _ T 72 #[.val (.ref t), .val (.int (1 : Int32)), .val (.int ((8 : Int32) >>> ((1 : Int32) &&& 31))), .val (.int (0 : Int32)), .val (.int c0), .val (.int c1)] [(.int (if ¬ c1 < 56320 ∧ c1 < 57344 then 1 else 0))]
  refine w.ifEq d24_72 d24_72t (fun q => absurd q (by rw [if_pos ⟨s3, s4⟩]; decide)) (fun _ => ?_)
  refine w.iload d24_75 rfl ?_
  refine w.iload d24_77 rfl ?_
  refine w.callS (argsL := [(.int c0), (.int c1)]) (rest := []) 0 d24_79 (tw hw 125 rfl) (tw hw 126 rfl) (tw hw 112 rfl) (tw hw 127 rfl) (by decide) (rmTc l Z a0 hw c0 c1 h0 w.old) (lenOf pd_16 rfl) rfl rfl (Nat.le_refl _) ⟨by decide, by decide, by decide, by decide⟩ all0 ?_
  intro T h5 r w _ hQ
  obtain ⟨rfl, rfl⟩ := hQ
  show Go x _ Z _ _ _ T 82 #[.val (.ref t), .val (.int (1 : Int32)), .val (.int ((8 : Int32) >>> ((1 : Int32) &&& 31))), .val (.int (0 : Int32)), .val (.int c0), .val (.int c1)] [(.int (((c0 <<< ((10 : Int32) &&& 31)) + c1) + (-56613888 : Int32)))]
  exact w.retI d24_82 rfl ⟨rfl, rfl⟩

set_option maxRecDepth 65536 in
set_option maxHeartbeats 40000000 in
theorem rmUS_4_0 (l : Launch) (Z : State) (a0 : Array Value) (hw : ∀ d ∈ tables_1, d.before a0 Z = true) (hr : rest_1_c.value a0 Z none Z [] = some true) (t : Addr) (kb : ClassId) (c0 c1 c2 c3 : Int32) (h0 : Heap) (hE : Ext Z.heap h0) (A : Arv Z h0 t kb .byte (8 : Int32) [(.int (nar .byte (c0 >>> ((0 : Int32) &&& 31)))), (.int (nar .byte (c0 >>> ((8 : Int32) &&& 31)))), (.int (nar .byte (c1 >>> ((0 : Int32) &&& 31)))), (.int (nar .byte (c1 >>> ((8 : Int32) &&& 31)))), (.int (nar .byte (c2 >>> ((0 : Int32) &&& 31)))), (.int (nar .byte (c2 >>> ((8 : Int32) &&& 31)))), (.int (nar .byte (c3 >>> ((0 : Int32) &&& 31)))), (.int (nar .byte (c3 >>> ((8 : Int32) &&& 31))))] (.int 0)) (z0 : 0 ≤ c0.toInt) (v0 : c0.toInt < 65536) (z1 : 0 ≤ c1.toInt) (v1 : c1.toInt < 65536) (z2 : 0 ≤ c2.toInt) (v2 : c2.toInt < 65536) (z3 : 0 ≤ c3.toInt) (v3 : c3.toInt < 65536) (s1 : ¬ c0 < 55296) (s2 : c0 < 56320) (s3 : ¬ c1 < 56320) (s4 : c1 < 57344) :
    Ct true l Z consts_1 (⟨"java/lang/StringUTF16", "codePointAt", "([BII)I"⟩ : MethodName) jdk_52_method_8_code 3 (some .int) [] ({ frames := 2, cells := 0, slots := 0, locals := 31 } : Room) [] #[(.ref t), (.int (0 : Int32)), (.int ((8 : Int32) >>> ((1 : Int32) &&& 31)))] h0 (fun r w => r = some (.int (((c0 <<< ((10 : Int32) &&& 31)) + c1) + (-56613888 : Int32))) ∧ h0 = w) := by
  refine Ct.intro pn_java_lang_StringUTF16 hE (fun m => efU3 m t _ _) nosf ⟨a0, own_EW hw⟩ ?_
  intro x T w
  refine w.aloadN d23_0 rfl rfl ?_
  refine w.iloadN d23_1 rfl ?_
  refine w.iloadN d23_2 rfl ?_
  refine w.iconst (0 : Int32) d23_3 rfl ?_
  refine w.callS (argsL := [(.ref t), (.int (0 : Int32)), (.int ((8 : Int32) >>> ((1 : Int32) &&& 31))), (.int (0 : Int32))]) (rest := []) 0 d23_4 (tw hw 107 rfl) (tw hw 108 rfl) (tw hw 59 rfl) (tw hw 109 rfl) (by decide) (rmZS_4_0 l Z a0 hw hr t kb c0 c1 c2 c3 h0 w.old A z0 v0 z1 v1 z2 v2 z3 v3 s1 s2 s3 s4) (lenOf pd_12 rfl) rfl rfl (Nat.le_refl _) ⟨by decide, by decide, by decide, by decide⟩ all0 ?_
  intro T h1 r w _ hQ
  obtain ⟨rfl, rfl⟩ := hQ
  show Go x _ Z _ _ _ T 7 #[.val (.ref t), .val (.int (0 : Int32)), .val (.int ((8 : Int32) >>> ((1 : Int32) &&& 31)))] [(.int (((c0 <<< ((10 : Int32) &&& 31)) + c1) + (-56613888 : Int32)))]
  exact w.retI d23_7 rfl ⟨rfl, rfl⟩

set_option maxRecDepth 65536 in
set_option maxHeartbeats 40000000 in
theorem rmPS_4_0 (l : Launch) (Z : State) (a0 : Array Value) (hw : ∀ d ∈ tables_1, d.before a0 Z = true) (hr : rest_1_c.value a0 Z none Z [] = some true) (a t : Addr) (c0 c1 c2 c3 : Int32) (h0 : Heap) (hE : Ext Z.heap h0) (Sa : ((StrL Z h0 a t 0 [nar .byte c0, nar .byte c1, nar .byte c2, nar .byte c3] ∧ (¬ 255 < c0 ∧ ¬ 255 < c1 ∧ ¬ 255 < c2 ∧ ¬ 255 < c3 ∧ True)) ∨ StrL Z h0 a t 1 [nar .byte (c0 >>> ((0 : Int32) &&& 31)), nar .byte (c0 >>> ((8 : Int32) &&& 31)), nar .byte (c1 >>> ((0 : Int32) &&& 31)), nar .byte (c1 >>> ((8 : Int32) &&& 31)), nar .byte (c2 >>> ((0 : Int32) &&& 31)), nar .byte (c2 >>> ((8 : Int32) &&& 31)), nar .byte (c3 >>> ((0 : Int32) &&& 31)), nar .byte (c3 >>> ((8 : Int32) &&& 31))])) (z0 : 0 ≤ c0.toInt) (v0 : c0.toInt < 65536) (z1 : 0 ≤ c1.toInt) (v1 : c1.toInt < 65536) (z2 : 0 ≤ c2.toInt) (v2 : c2.toInt < 65536) (z3 : 0 ≤ c3.toInt) (v3 : c3.toInt < 65536) (s1 : ¬ c0 < 55296) (s2 : c0 < 56320) (s3 : ¬ c1 < 56320) (s4 : c1 < 57344) :
    Ct true l Z consts_1 (⟨"java/lang/String", "codePointAt", "(I)I"⟩ : MethodName) jdk_42_method_57_code 3 (some .int) [] ({ frames := 3, cells := 0, slots := 0, locals := 45 } : Room) [] #[(.ref a), (.int (0 : Int32))] h0 (fun r w => r = some (.int (((c0 <<< ((10 : Int32) &&& 31)) + c1) + (-56613888 : Int32))) ∧ h0 = w) := by
  refine Ct.intro pn_java_lang_String hE (fun m => efSCP m a _) nosf ⟨a0, own_EW hw⟩ ?_
  intro x T w
  rcases Sa with ⟨Sa, ul⟩ | Sa
  · exact absurd (own_255 s1) ul.1
  · obtain ⟨Ea, Va, Ca, ka, Aa, -⟩ := id Sa
    obtain ⟨cla, Ara, -, Sz, Ma, -, -⟩ := id Aa
    refine w.aloadN d19_0 rfl rfl ?_
    refine w.callV (argsL := []) (rest := []) 0 d19_1 (tw hw 91 rfl) (tw hw 92 rfl) (tw hw 94 rfl) (tw hw 93 rfl) (tw hw 15 rfl) (tw hw 95 rfl) (by decide) Ea (rmIL1 l Z a0 hw hr a h0 w.old Ca) (lenOf pd_13 rfl) rfl rfl (Nat.le_refl _) ⟨by decide, by decide, by decide, by decide⟩ all0 ?_
    intro T h1 r w _ hQ
    obtain ⟨rfl, rfl⟩ := hQ
    show Go x _ Z _ _ _ T 4 #[.val (.ref a), .val (.int (0 : Int32)), .unset] [(.int (0 : Int32))]
    refine w.ifEq d19_4 d19_4t (fun _ => ?_) (fun q => absurd rfl q)
    refine w.aloadN d19_27 rfl rfl ?_
    refine w.getF d19_28 (tw hw 32 rfl) Va ?_
    intro T w
    refine w.alen (8 : Int32) d19_31 Ara (len_of Sz Ma) ?_
    refine w.iconst (1 : Int32) d19_32 rfl ?_
    refine w.ishr d19_33 ?_
    refine w.istoreN #[.val (.ref a), .val (.int (0 : Int32)), .val (.int ((8 : Int32) >>> ((1 : Int32) &&& 31)))] d19_34 rfl ?_
    refine w.iloadN d19_35 rfl ?_
    refine w.iloadN d19_36 rfl ?_
    refine w.callS (argsL := [(.int (0 : Int32)), (.int ((8 : Int32) >>> ((1 : Int32) &&& 31)))]) (rest := []) 0 d19_37 (tw hw 96 rfl) (tw hw 97 rfl) (tw hw 15 rfl) (tw hw 98 rfl) (by decide) (rmCI l Z a0 hw hr (0 : Int32) ((8 : Int32) >>> ((1 : Int32) &&& 31)) (by decide) (by decide) h0 w.old) (lenOf pd_14 rfl) rfl rfl (Nat.le_refl _) ⟨by decide, by decide, by decide, by decide⟩ all0 ?_
    intro T h2 r w _ hQ
    obtain ⟨rfl, rfl⟩ := hQ
    show Go x _ Z _ _ _ T 40 #[.val (.ref a), .val (.int (0 : Int32)), .val (.int ((8 : Int32) >>> ((1 : Int32) &&& 31)))] []
    refine w.aloadN d19_40 rfl rfl ?_
    refine w.getF d19_41 (tw hw 32 rfl) Va ?_
    intro T w
    refine w.iloadN d19_44 rfl ?_
    refine w.iloadN d19_45 rfl ?_
    refine w.callS (argsL := [(.ref t), (.int (0 : Int32)), (.int ((8 : Int32) >>> ((1 : Int32) &&& 31)))]) (rest := []) 0 d19_46 (tw hw 104 rfl) (tw hw 105 rfl) (tw hw 59 rfl) (tw hw 106 rfl) (by decide) (rmUS_4_0 l Z a0 hw hr t ka c0 c1 c2 c3 h0 w.old Aa z0 v0 z1 v1 z2 v2 z3 v3 s1 s2 s3 s4) (lenOf pd_15 rfl) rfl rfl (Nat.le_refl _) ⟨by decide, by decide, by decide, by decide⟩ all0 ?_
    intro T h3 r w _ hQ
    obtain ⟨rfl, rfl⟩ := hQ
    show Go x _ Z _ _ _ T 49 #[.val (.ref a), .val (.int (0 : Int32)), .val (.int ((8 : Int32) >>> ((1 : Int32) &&& 31)))] [(.int (((c0 <<< ((10 : Int32) &&& 31)) + c1) + (-56613888 : Int32)))]
    exact w.retI d19_49 rfl ⟨rfl, rfl⟩

set_option maxRecDepth 65536 in
set_option maxHeartbeats 40000000 in
theorem rmZS_4_2 (l : Launch) (Z : State) (a0 : Array Value) (hw : ∀ d ∈ tables_1, d.before a0 Z = true) (hr : rest_1_c.value a0 Z none Z [] = some true) (t : Addr) (kb : ClassId) (c0 c1 c2 c3 : Int32) (h0 : Heap) (hE : Ext Z.heap h0) (A : Arv Z h0 t kb .byte (8 : Int32) [(.int (nar .byte (c0 >>> ((0 : Int32) &&& 31)))), (.int (nar .byte (c0 >>> ((8 : Int32) &&& 31)))), (.int (nar .byte (c1 >>> ((0 : Int32) &&& 31)))), (.int (nar .byte (c1 >>> ((8 : Int32) &&& 31)))), (.int (nar .byte (c2 >>> ((0 : Int32) &&& 31)))), (.int (nar .byte (c2 >>> ((8 : Int32) &&& 31)))), (.int (nar .byte (c3 >>> ((0 : Int32) &&& 31)))), (.int (nar .byte (c3 >>> ((8 : Int32) &&& 31))))] (.int 0)) (z0 : 0 ≤ c0.toInt) (v0 : c0.toInt < 65536) (z1 : 0 ≤ c1.toInt) (v1 : c1.toInt < 65536) (z2 : 0 ≤ c2.toInt) (v2 : c2.toInt < 65536) (z3 : 0 ≤ c3.toInt) (v3 : c3.toInt < 65536) (s1 : ¬ c2 < 55296) (s2 : c2 < 56320) (s3 : ¬ c3 < 56320) (s4 : c3 < 57344) :
    Ct true l Z consts_1 (⟨"java/lang/StringUTF16", "codePointAt", "([BIIZ)I"⟩ : MethodName) jdk_52_method_7_code 6 (some .int) [] ({ frames := 1, cells := 0, slots := 0, locals := 14 } : Room) [] #[(.ref t), (.int (2 : Int32)), (.int ((8 : Int32) >>> ((1 : Int32) &&& 31))), (.int (0 : Int32))] h0 (fun r w => r = some (.int (((c2 <<< ((10 : Int32) &&& 31)) + c3) + (-56613888 : Int32))) ∧ h0 = w) := by
  refine Ct.intro pn_java_lang_StringUTF16 hE (fun m => efZ4 m t _ _ _) nosf ⟨a0, own_EW hw⟩ ?_
  intro x T w
  refine w.getS d24_0 (tw hw 77 rfl) (own_ad hr) ?_
  intro T w
  refine w.ifNe d24_3 d24_3t (fun _ => ?_) (fun q => absurd q (by decide))
  refine w.iloadN d24_19 rfl ?_
  refine w.ifEq d24_20 d24_20t (fun _ => ?_) (fun q => absurd rfl q)
  refine w.aloadN d24_28 rfl rfl ?_
  refine w.iloadN d24_29 rfl ?_
  refine w.callS (argsL := [(.ref t), (.int (2 : Int32))]) (rest := []) 0 d24_30 (tw hw 80 rfl) (tw hw 81 rfl) (tw hw 59 rfl) (tw hw 82 rfl) (by decide) (rmGe_4_2 l Z a0 hw hr t kb c0 c1 c2 c3 h0 w.old A z2 v2) (lenOf pd_8 rfl) rfl rfl (Nat.le_refl _) ⟨by decide, by decide, by decide, by decide⟩ all0 ?_
  intro T h1 r w _ hQ
  obtain ⟨rfl, rfl⟩ := hQ
  show Go x _ Z _ _ _ T 33 #[.val (.ref t), .val (.int (2 : Int32)), .val (.int ((8 : Int32) >>> ((1 : Int32) &&& 31))), .val (.int (0 : Int32)), .unset, .unset] [(.int c2)]
  refine w.istore #[.val (.ref t), .val (.int (2 : Int32)), .val (.int ((8 : Int32) >>> ((1 : Int32) &&& 31))), .val (.int (0 : Int32)), .val (.int c2), .unset] d24_33 rfl ?_
  refine w.iload d24_35 rfl ?_
  refine w.callS (argsL := [(.int c2)]) (rest := []) 0 d24_37 (tw hw 110 rfl) (tw hw 111 rfl) (tw hw 112 rfl) (tw hw 113 rfl) (by decide) (rmHi l Z a0 hw c2 h0 w.old) (lenOf pd_11 rfl) rfl rfl (Nat.le_refl _) ⟨by decide, by decide, by decide, by decide⟩ all0 ?_
  intro T h2 r w _ hQ
  obtain ⟨rfl, rfl⟩ := hQ
  show Go x _ Z _ _ _ T 40 #[.val (.ref t), .val (.int (2 : Int32)), .val (.int ((8 : Int32) >>> ((1 : Int32) &&& 31))), .val (.int (0 : Int32)), .val (.int c2), .unset] [(.int (if ¬ c2 < 55296 ∧ c2 < 56320 then 1 else 0))]
  refine w.ifEq d24_40 d24_40t (fun q => absurd q (by rw [if_pos ⟨s1, s2⟩]; decide)) (fun _ => ?_)
  refine w.iinc (1 : Int32) #[.val (.ref t), .val (.int (3 : Int32)), .val (.int ((8 : Int32) >>> ((1 : Int32) &&& 31))), .val (.int (0 : Int32)), .val (.int c2), .unset] d24_43 rfl rfl rfl ?_
  refine w.iloadN d24_46 rfl ?_
  refine w.iloadN d24_47 rfl ?_
  refine w.icmpGe d24_48 d24_48t (fun q => absurd (by decide) q) (fun _ => ?_)
  refine w.iloadN d24_51 rfl ?_
  refine w.ifEq d24_52 d24_52t (fun _ => ?_) (fun q => absurd rfl q)
  refine w.aloadN d24_60 rfl rfl ?_
  refine w.iloadN d24_61 rfl ?_
  refine w.callS (argsL := [(.ref t), (.int (3 : Int32))]) (rest := []) 0 d24_62 (tw hw 80 rfl) (tw hw 81 rfl) (tw hw 59 rfl) (tw hw 82 rfl) (by decide) (rmGe_4_3 l Z a0 hw hr t kb c0 c1 c2 c3 h0 w.old A z3 v3) (lenOf pd_8 rfl) rfl rfl (Nat.le_refl _) ⟨by decide, by decide, by decide, by decide⟩ all0 ?_
  intro T h3 r w _ hQ
  obtain ⟨rfl, rfl⟩ := hQ
  show Go x _ Z _ _ _ T 65 #[.val (.ref t), .val (.int (3 : Int32)), .val (.int ((8 : Int32) >>> ((1 : Int32) &&& 31))), .val (.int (0 : Int32)), .val (.int c2), .unset] [(.int c3)]
  refine w.istore #[.val (.ref t), .val (.int (3 : Int32)), .val (.int ((8 : Int32) >>> ((1 : Int32) &&& 31))), .val (.int (0 : Int32)), .val (.int c2), .val (.int c3)] d24_65 rfl ?_
  refine w.iload d24_67 rfl ?_
  refine w.callS (argsL := [(.int c3)]) (rest := []) 0 d24_69 (tw hw 121 rfl) (tw hw 122 rfl) (tw hw 112 rfl) (tw hw 123 rfl) (by decide) (rmLo l Z a0 hw c3 h0 w.old) (lenOf pd_11 rfl) rfl rfl (Nat.le_refl _) ⟨by decide, by decide, by decide, by decide⟩ all0 ?_
  intro T h4 r w _ hQ
  obtain ⟨rfl, rfl⟩ := hQ
  show Go x _ Z _ _ _ T 72 #[.val (.ref t), .val (.int (3 : Int32)), .val (.int ((8 : Int32) >>> ((1 : Int32) &&& 31))), .val (.int (0 : Int32)), .val (.int c2), .val (.int c3)] [(.int (if ¬ c3 < 56320 ∧ c3 < 57344 then 1 else 0))]
  refine w.ifEq d24_72 d24_72t (fun q => absurd q (by rw [if_pos ⟨s3, s4⟩]; decide)) (fun _ => ?_)
  refine w.iload d24_75 rfl ?_
  refine w.iload d24_77 rfl ?_
  refine w.callS (argsL := [(.int c2), (.int c3)]) (rest := []) 0 d24_79 (tw hw 125 rfl) (tw hw 126 rfl) (tw hw 112 rfl) (tw hw 127 rfl) (by decide) (rmTc l Z a0 hw c2 c3 h0 w.old) (lenOf pd_16 rfl) rfl rfl (Nat.le_refl _) ⟨by decide, by decide, by decide, by decide⟩ all0 ?_
  intro T h5 r w _ hQ
  obtain ⟨rfl, rfl⟩ := hQ
  show Go x _ Z _ _ _ T 82 #[.val (.ref t), .val (.int (3 : Int32)), .val (.int ((8 : Int32) >>> ((1 : Int32) &&& 31))), .val (.int (0 : Int32)), .val (.int c2), .val (.int c3)] [(.int (((c2 <<< ((10 : Int32) &&& 31)) + c3) + (-56613888 : Int32)))]
  exact w.retI d24_82 rfl ⟨rfl, rfl⟩

set_option maxRecDepth 65536 in
set_option maxHeartbeats 40000000 in
theorem rmUS_4_2 (l : Launch) (Z : State) (a0 : Array Value) (hw : ∀ d ∈ tables_1, d.before a0 Z = true) (hr : rest_1_c.value a0 Z none Z [] = some true) (t : Addr) (kb : ClassId) (c0 c1 c2 c3 : Int32) (h0 : Heap) (hE : Ext Z.heap h0) (A : Arv Z h0 t kb .byte (8 : Int32) [(.int (nar .byte (c0 >>> ((0 : Int32) &&& 31)))), (.int (nar .byte (c0 >>> ((8 : Int32) &&& 31)))), (.int (nar .byte (c1 >>> ((0 : Int32) &&& 31)))), (.int (nar .byte (c1 >>> ((8 : Int32) &&& 31)))), (.int (nar .byte (c2 >>> ((0 : Int32) &&& 31)))), (.int (nar .byte (c2 >>> ((8 : Int32) &&& 31)))), (.int (nar .byte (c3 >>> ((0 : Int32) &&& 31)))), (.int (nar .byte (c3 >>> ((8 : Int32) &&& 31))))] (.int 0)) (z0 : 0 ≤ c0.toInt) (v0 : c0.toInt < 65536) (z1 : 0 ≤ c1.toInt) (v1 : c1.toInt < 65536) (z2 : 0 ≤ c2.toInt) (v2 : c2.toInt < 65536) (z3 : 0 ≤ c3.toInt) (v3 : c3.toInt < 65536) (s1 : ¬ c2 < 55296) (s2 : c2 < 56320) (s3 : ¬ c3 < 56320) (s4 : c3 < 57344) :
    Ct true l Z consts_1 (⟨"java/lang/StringUTF16", "codePointAt", "([BII)I"⟩ : MethodName) jdk_52_method_8_code 3 (some .int) [] ({ frames := 2, cells := 0, slots := 0, locals := 31 } : Room) [] #[(.ref t), (.int (2 : Int32)), (.int ((8 : Int32) >>> ((1 : Int32) &&& 31)))] h0 (fun r w => r = some (.int (((c2 <<< ((10 : Int32) &&& 31)) + c3) + (-56613888 : Int32))) ∧ h0 = w) := by
  refine Ct.intro pn_java_lang_StringUTF16 hE (fun m => efU3 m t _ _) nosf ⟨a0, own_EW hw⟩ ?_
  intro x T w
  refine w.aloadN d23_0 rfl rfl ?_
  refine w.iloadN d23_1 rfl ?_
  refine w.iloadN d23_2 rfl ?_
  refine w.iconst (0 : Int32) d23_3 rfl ?_
  refine w.callS (argsL := [(.ref t), (.int (2 : Int32)), (.int ((8 : Int32) >>> ((1 : Int32) &&& 31))), (.int (0 : Int32))]) (rest := []) 0 d23_4 (tw hw 107 rfl) (tw hw 108 rfl) (tw hw 59 rfl) (tw hw 109 rfl) (by decide) (rmZS_4_2 l Z a0 hw hr t kb c0 c1 c2 c3 h0 w.old A z0 v0 z1 v1 z2 v2 z3 v3 s1 s2 s3 s4) (lenOf pd_12 rfl) rfl rfl (Nat.le_refl _) ⟨by decide, by decide, by decide, by decide⟩ all0 ?_
  intro T h1 r w _ hQ
  obtain ⟨rfl, rfl⟩ := hQ
  show Go x _ Z _ _ _ T 7 #[.val (.ref t), .val (.int (2 : Int32)), .val (.int ((8 : Int32) >>> ((1 : Int32) &&& 31)))] [(.int (((c2 <<< ((10 : Int32) &&& 31)) + c3) + (-56613888 : Int32)))]
  exact w.retI d23_7 rfl ⟨rfl, rfl⟩

set_option maxRecDepth 65536 in
set_option maxHeartbeats 40000000 in
theorem rmPS_4_2 (l : Launch) (Z : State) (a0 : Array Value) (hw : ∀ d ∈ tables_1, d.before a0 Z = true) (hr : rest_1_c.value a0 Z none Z [] = some true) (a t : Addr) (c0 c1 c2 c3 : Int32) (h0 : Heap) (hE : Ext Z.heap h0) (Sa : ((StrL Z h0 a t 0 [nar .byte c0, nar .byte c1, nar .byte c2, nar .byte c3] ∧ (¬ 255 < c0 ∧ ¬ 255 < c1 ∧ ¬ 255 < c2 ∧ ¬ 255 < c3 ∧ True)) ∨ StrL Z h0 a t 1 [nar .byte (c0 >>> ((0 : Int32) &&& 31)), nar .byte (c0 >>> ((8 : Int32) &&& 31)), nar .byte (c1 >>> ((0 : Int32) &&& 31)), nar .byte (c1 >>> ((8 : Int32) &&& 31)), nar .byte (c2 >>> ((0 : Int32) &&& 31)), nar .byte (c2 >>> ((8 : Int32) &&& 31)), nar .byte (c3 >>> ((0 : Int32) &&& 31)), nar .byte (c3 >>> ((8 : Int32) &&& 31))])) (z0 : 0 ≤ c0.toInt) (v0 : c0.toInt < 65536) (z1 : 0 ≤ c1.toInt) (v1 : c1.toInt < 65536) (z2 : 0 ≤ c2.toInt) (v2 : c2.toInt < 65536) (z3 : 0 ≤ c3.toInt) (v3 : c3.toInt < 65536) (s1 : ¬ c2 < 55296) (s2 : c2 < 56320) (s3 : ¬ c3 < 56320) (s4 : c3 < 57344) :
    Ct true l Z consts_1 (⟨"java/lang/String", "codePointAt", "(I)I"⟩ : MethodName) jdk_42_method_57_code 3 (some .int) [] ({ frames := 3, cells := 0, slots := 0, locals := 45 } : Room) [] #[(.ref a), (.int (2 : Int32))] h0 (fun r w => r = some (.int (((c2 <<< ((10 : Int32) &&& 31)) + c3) + (-56613888 : Int32))) ∧ h0 = w) := by
  refine Ct.intro pn_java_lang_String hE (fun m => efSCP m a _) nosf ⟨a0, own_EW hw⟩ ?_
  intro x T w
  rcases Sa with ⟨Sa, ul⟩ | Sa
  · exact absurd (own_255 s1) ul.2.2.1
  · obtain ⟨Ea, Va, Ca, ka, Aa, -⟩ := id Sa
    obtain ⟨cla, Ara, -, Sz, Ma, -, -⟩ := id Aa
    refine w.aloadN d19_0 rfl rfl ?_
    refine w.callV (argsL := []) (rest := []) 0 d19_1 (tw hw 91 rfl) (tw hw 92 rfl) (tw hw 94 rfl) (tw hw 93 rfl) (tw hw 15 rfl) (tw hw 95 rfl) (by decide) Ea (rmIL1 l Z a0 hw hr a h0 w.old Ca) (lenOf pd_13 rfl) rfl rfl (Nat.le_refl _) ⟨by decide, by decide, by decide, by decide⟩ all0 ?_
    intro T h1 r w _ hQ
    obtain ⟨rfl, rfl⟩ := hQ
    show Go x _ Z _ _ _ T 4 #[.val (.ref a), .val (.int (2 : Int32)), .unset] [(.int (0 : Int32))]
    refine w.ifEq d19_4 d19_4t (fun _ => ?_) (fun q => absurd rfl q)
    refine w.aloadN d19_27 rfl rfl ?_
    refine w.getF d19_28 (tw hw 32 rfl) Va ?_
    intro T w
    refine w.alen (8 : Int32) d19_31 Ara (len_of Sz Ma) ?_
    refine w.iconst (1 : Int32) d19_32 rfl ?_
    refine w.ishr d19_33 ?_
    refine w.istoreN #[.val (.ref a), .val (.int (2 : Int32)), .val (.int ((8 : Int32) >>> ((1 : Int32) &&& 31)))] d19_34 rfl ?_
    refine w.iloadN d19_35 rfl ?_
    refine w.iloadN d19_36 rfl ?_
    refine w.callS (argsL := [(.int (2 : Int32)), (.int ((8 : Int32) >>> ((1 : Int32) &&& 31)))]) (rest := []) 0 d19_37 (tw hw 96 rfl) (tw hw 97 rfl) (tw hw 15 rfl) (tw hw 98 rfl) (by decide) (rmCI l Z a0 hw hr (2 : Int32) ((8 : Int32) >>> ((1 : Int32) &&& 31)) (by decide) (by decide) h0 w.old) (lenOf pd_14 rfl) rfl rfl (Nat.le_refl _) ⟨by decide, by decide, by decide, by decide⟩ all0 ?_
    intro T h2 r w _ hQ
    obtain ⟨rfl, rfl⟩ := hQ
    show Go x _ Z _ _ _ T 40 #[.val (.ref a), .val (.int (2 : Int32)), .val (.int ((8 : Int32) >>> ((1 : Int32) &&& 31)))] []
    refine w.aloadN d19_40 rfl rfl ?_
    refine w.getF d19_41 (tw hw 32 rfl) Va ?_
    intro T w
    refine w.iloadN d19_44 rfl ?_
    refine w.iloadN d19_45 rfl ?_
    refine w.callS (argsL := [(.ref t), (.int (2 : Int32)), (.int ((8 : Int32) >>> ((1 : Int32) &&& 31)))]) (rest := []) 0 d19_46 (tw hw 104 rfl) (tw hw 105 rfl) (tw hw 59 rfl) (tw hw 106 rfl) (by decide) (rmUS_4_2 l Z a0 hw hr t ka c0 c1 c2 c3 h0 w.old Aa z0 v0 z1 v1 z2 v2 z3 v3 s1 s2 s3 s4) (lenOf pd_15 rfl) rfl rfl (Nat.le_refl _) ⟨by decide, by decide, by decide, by decide⟩ all0 ?_
    intro T h3 r w _ hQ
    obtain ⟨rfl, rfl⟩ := hQ
    show Go x _ Z _ _ _ T 49 #[.val (.ref a), .val (.int (2 : Int32)), .val (.int ((8 : Int32) >>> ((1 : Int32) &&& 31)))] [(.int (((c2 <<< ((10 : Int32) &&& 31)) + c3) + (-56613888 : Int32)))]
    exact w.retI d19_49 rfl ⟨rfl, rfl⟩

theorem rmA1_0 (l : Launch) (Z : State) (a0 : Array Value) (hw : ∀ d ∈ tables_1, d.before a0 Z = true) (hr : rest_1_c.value a0 Z none Z [] = some true) (s : Addr) (x0 : Int32) (h0 : Heap) (hE : Ext Z.heap h0) (hS : SP1 Z h0 s x0) (Vx0 : own_V x0) : Ct true l Z consts_1 (⟨"java/lang/String", "codePointAt", "(I)I"⟩ : MethodName) jdk_42_method_57_code 3 (some .int) [] ({ frames := 3, cells := 0, slots := 0, locals := 45 } : Room) [] #[(.ref s), (.int (0 : Int32))] h0 (fun r w => r = some (.int x0) ∧ h0 = w) := by
  rcases hS with ⟨hx0, t, S⟩ | ⟨hx0, t, S⟩
  · exact rmPB_1_0 l Z a0 hw hr s t _ h0 hE S (own_Cb Vx0 hx0).1 (own_Cb Vx0 hx0).2.1 (own_nh Vx0)
  · exact (rmPS_2_0 l Z a0 hw hr s t _ _ h0 hE S (own_Ch x0).1 (own_Ch x0).2.1 (own_Cl x0).1 (own_Cl x0).2.1 (own_S Vx0 hx0).1 (own_S Vx0 hx0).2.1 (own_S Vx0 hx0).2.2.1 (own_S Vx0 hx0).2.2.2).mono fun v u q => ⟨q.1.trans (by rw [own_tcp Vx0 hx0]), q.2⟩
theorem rmA2_0 (l : Launch) (Z : State) (a0 : Array Value) (hw : ∀ d ∈ tables_1, d.before a0 Z = true) (hr : rest_1_c.value a0 Z none Z [] = some true) (s : Addr) (x0 x1 : Int32) (h0 : Heap) (hE : Ext Z.heap h0) (hS : SP2 Z h0 s x0 x1) (Vx0 : own_V x0) (Vx1 : own_V x1) : Ct true l Z consts_1 (⟨"java/lang/String", "codePointAt", "(I)I"⟩ : MethodName) jdk_42_method_57_code 3 (some .int) [] ({ frames := 3, cells := 0, slots := 0, locals := 45 } : Room) [] #[(.ref s), (.int (0 : Int32))] h0 (fun r w => r = some (.int x0) ∧ h0 = w) := by
  rcases hS with ⟨hx0, hx1, t, S⟩ | ⟨hx0, hx1, t, S⟩ | ⟨hx0, hx1, t, S⟩ | ⟨hx0, hx1, t, S⟩
  · exact rmPB_2_0 l Z a0 hw hr s t _ _ h0 hE S (own_Cb Vx0 hx0).1 (own_Cb Vx0 hx0).2.1 (own_Cb Vx1 hx1).1 (own_Cb Vx1 hx1).2.1 (own_nh Vx0)
  · exact rmPB_3_0 l Z a0 hw hr s t _ _ _ h0 hE S (own_Cb Vx0 hx0).1 (own_Cb Vx0 hx0).2.1 (own_Ch x1).1 (own_Ch x1).2.1 (own_Cl x1).1 (own_Cl x1).2.1 (own_nh Vx0)
  · exact (rmPS_3_0 l Z a0 hw hr s t _ _ _ h0 hE S (own_Ch x0).1 (own_Ch x0).2.1 (own_Cl x0).1 (own_Cl x0).2.1 (own_Cb Vx1 hx1).1 (own_Cb Vx1 hx1).2.1 (own_S Vx0 hx0).1 (own_S Vx0 hx0).2.1 (own_S Vx0 hx0).2.2.1 (own_S Vx0 hx0).2.2.2).mono fun v u q => ⟨q.1.trans (by rw [own_tcp Vx0 hx0]), q.2⟩
  · exact (rmPS_4_0 l Z a0 hw hr s t _ _ _ _ h0 hE S (own_Ch x0).1 (own_Ch x0).2.1 (own_Cl x0).1 (own_Cl x0).2.1 (own_Ch x1).1 (own_Ch x1).2.1 (own_Cl x1).1 (own_Cl x1).2.1 (own_S Vx0 hx0).1 (own_S Vx0 hx0).2.1 (own_S Vx0 hx0).2.2.1 (own_S Vx0 hx0).2.2.2).mono fun v u q => ⟨q.1.trans (by rw [own_tcp Vx0 hx0]), q.2⟩
theorem rmA2_1 (l : Launch) (Z : State) (a0 : Array Value) (hw : ∀ d ∈ tables_1, d.before a0 Z = true) (hr : rest_1_c.value a0 Z none Z [] = some true) (s : Addr) (x0 x1 : Int32) (h0 : Heap) (hE : Ext Z.heap h0) (hS : SP2 Z h0 s x0 x1) (Vx0 : own_V x0) (Vx1 : own_V x1) : Ct true l Z consts_1 (⟨"java/lang/String", "codePointAt", "(I)I"⟩ : MethodName) jdk_42_method_57_code 3 (some .int) [] ({ frames := 3, cells := 0, slots := 0, locals := 45 } : Room) [] #[(.ref s), (.int (own_k x0))] h0 (fun r w => r = some (.int x1) ∧ h0 = w) := by
  rcases hS with ⟨hx0, hx1, t, S⟩ | ⟨hx0, hx1, t, S⟩ | ⟨hx0, hx1, t, S⟩ | ⟨hx0, hx1, t, S⟩
  · rw [own_k1 hx0]; exact rmPB_2_1 l Z a0 hw hr s t _ _ h0 hE S (own_Cb Vx0 hx0).1 (own_Cb Vx0 hx0).2.1 (own_Cb Vx1 hx1).1 (own_Cb Vx1 hx1).2.1 (own_nh Vx1)
  · rw [own_k1 hx0]; exact (rmPS_3_1 l Z a0 hw hr s t _ _ _ h0 hE S (own_Cb Vx0 hx0).1 (own_Cb Vx0 hx0).2.1 (own_Ch x1).1 (own_Ch x1).2.1 (own_Cl x1).1 (own_Cl x1).2.1 (own_S Vx1 hx1).1 (own_S Vx1 hx1).2.1 (own_S Vx1 hx1).2.2.1 (own_S Vx1 hx1).2.2.2).mono fun v u q => ⟨q.1.trans (by rw [own_tcp Vx1 hx1]), q.2⟩
  · rw [own_k2 hx0]; exact rmPB_3_2 l Z a0 hw hr s t _ _ _ h0 hE S (own_Ch x0).1 (own_Ch x0).2.1 (own_Cl x0).1 (own_Cl x0).2.1 (own_Cb Vx1 hx1).1 (own_Cb Vx1 hx1).2.1 (own_nh Vx1)
  · rw [own_k2 hx0]; exact (rmPS_4_2 l Z a0 hw hr s t _ _ _ _ h0 hE S (own_Ch x0).1 (own_Ch x0).2.1 (own_Cl x0).1 (own_Cl x0).2.1 (own_Ch x1).1 (own_Ch x1).2.1 (own_Cl x1).1 (own_Cl x1).2.1 (own_S Vx1 hx1).1 (own_S Vx1 hx1).2.1 (own_S Vx1 hx1).2.2.1 (own_S Vx1 hx1).2.2.2).mono fun v u q => ⟨q.1.trans (by rw [own_tcp Vx1 hx1]), q.2⟩
set_option maxRecDepth 65536 in
set_option maxHeartbeats 40000000 in
theorem rmCmp_0_0 (l : Launch) (Z : State) (a0 : Array Value) (hw : ∀ d ∈ tables_1, d.before a0 Z = true) (hr : rest_1_c.value a0 Z none Z [] = some true) (sa sb : Addr)  (h0 : Heap) (hE : Ext Z.heap h0) (hA : SP0 Z h0 sa ) (hB : SP0 Z h0 sb )  :
    Ct true l Z consts_1 (⟨"com/example/fintan/fintan/Utf8Order", "compare", "(Ljava/lang/String;Ljava/lang/String;)I"⟩ : MethodName) prog_25_method_2_code 5 (some .int) [] ({ frames := 4, cells := 0, slots := 0, locals := 59 } : Room) [] #[(.ref sa), (.ref sb)] h0 (fun r w => r = some (.int (0 : Int32)) ∧ h0 = w) := by
  refine Ct.intro pn_com_example_fintan_fintan_Utf8Order hE (fun m => efCmp m sa sb) nosf ⟨a0, own_EW hw⟩ ?_
  intro x T w
  have Ea := hA.exa
  have Eb := hB.exa
  refine w.iconst (0 : Int32) d6_0 rfl ?_
  refine w.istoreN #[.val (.ref sa), .val (.ref sb), .val (.int (0 : Int32)), .unset, .unset] d6_1 rfl ?_
  refine w.iloadN d6_2 rfl ?_
  refine w.aloadN d6_3 rfl rfl ?_
  refine w.callV (argsL := []) (rest := [(.int (0 : Int32))]) 1 d6_4 (tw hw 38 rfl) (tw hw 39 rfl) (tw hw 41 rfl) (tw hw 40 rfl) (tw hw 15 rfl) (tw hw 42 rfl) (by decide) Ea (rmLen0 l Z a0 hw hr sa  h0 w.old hA) (lenOf pd_17 rfl) rfl rfl (Nat.le_refl _) ⟨by decide, by decide, by decide, by decide⟩ all0 ?_
  intro T h1 r w _ hQ
  obtain ⟨rfl, rfl⟩ := hQ
  show Go x _ Z _ _ _ T 7 #[.val (.ref sa), .val (.ref sb), .val (.int (0 : Int32)), .unset, .unset] [(.int (0 : Int32)), (.int (0 : Int32))]
  refine w.icmpGe d6_7 d6_7t (fun _ => ?_) (fun q => absurd q (by decide))
  refine w.aloadN d6_54 rfl rfl ?_
  refine w.callV (argsL := []) (rest := []) 0 d6_55 (tw hw 38 rfl) (tw hw 39 rfl) (tw hw 41 rfl) (tw hw 40 rfl) (tw hw 15 rfl) (tw hw 42 rfl) (by decide) Ea (rmLen0 l Z a0 hw hr sa  h0 w.old hA) (lenOf pd_17 rfl) rfl rfl (Nat.le_refl _) ⟨by decide, by decide, by decide, by decide⟩ all0 ?_
  intro T h2 r w _ hQ
  obtain ⟨rfl, rfl⟩ := hQ
  show Go x _ Z _ _ _ T 58 #[.val (.ref sa), .val (.ref sb), .val (.int (0 : Int32)), .unset, .unset] [(.int (0 : Int32))]
  refine w.aloadN d6_58 rfl rfl ?_
  refine w.callV (argsL := []) (rest := [(.int (0 : Int32))]) 1 d6_59 (tw hw 38 rfl) (tw hw 39 rfl) (tw hw 41 rfl) (tw hw 40 rfl) (tw hw 15 rfl) (tw hw 42 rfl) (by decide) Eb (rmLen0 l Z a0 hw hr sb  h0 w.old hB) (lenOf pd_17 rfl) rfl rfl (Nat.le_refl _) ⟨by decide, by decide, by decide, by decide⟩ all0 ?_
  intro T h3 r w _ hQ
  obtain ⟨rfl, rfl⟩ := hQ
  show Go x _ Z _ _ _ T 62 #[.val (.ref sa), .val (.ref sb), .val (.int (0 : Int32)), .unset, .unset] [(.int (0 : Int32)), (.int (0 : Int32))]
  refine w.callS (argsL := [(.int (0 : Int32)), (.int (0 : Int32))]) (rest := []) 0 d6_62 (tw hw 49 rfl) (tw hw 50 rfl) (tw hw 51 rfl) (tw hw 52 rfl) (by decide) (rmIc l Z a0 hw (0 : Int32) (0 : Int32) h0 w.old) (lenOf pd_18 rfl) rfl rfl (Nat.le_refl _) ⟨by decide, by decide, by decide, by decide⟩ all0 ?_
  intro T h4 r w _ hQ
  obtain ⟨rfl, rfl⟩ := hQ
  show Go x _ Z _ _ _ T 65 #[.val (.ref sa), .val (.ref sb), .val (.int (0 : Int32)), .unset, .unset] [(.int (if (0 : Int32) < (0 : Int32) then -1 else if (0 : Int32) = (0 : Int32) then 0 else 1))]
  exact w.retI d6_65 rfl ⟨congrArg (fun z => some (Value.int z)) (by decide), rfl⟩

set_option maxRecDepth 65536 in
set_option maxHeartbeats 40000000 in
theorem rmCmp_0_1 (l : Launch) (Z : State) (a0 : Array Value) (hw : ∀ d ∈ tables_1, d.before a0 Z = true) (hr : rest_1_c.value a0 Z none Z [] = some true) (sa sb : Addr) (y0 : Int32) (h0 : Heap) (hE : Ext Z.heap h0) (hA : SP0 Z h0 sa ) (hB : SP1 Z h0 sb y0) (Vy0 : own_V y0) :
    Ct true l Z consts_1 (⟨"com/example/fintan/fintan/Utf8Order", "compare", "(Ljava/lang/String;Ljava/lang/String;)I"⟩ : MethodName) prog_25_method_2_code 5 (some .int) [] ({ frames := 4, cells := 0, slots := 0, locals := 59 } : Room) [] #[(.ref sa), (.ref sb)] h0 (fun r w => r = some (.int (-1 : Int32)) ∧ h0 = w) := by
  refine Ct.intro pn_com_example_fintan_fintan_Utf8Order hE (fun m => efCmp m sa sb) nosf ⟨a0, own_EW hw⟩ ?_
  intro x T w
  have Ea := hA.exa
  have Eb := hB.exa
  refine w.iconst (0 : Int32) d6_0 rfl ?_
  refine w.istoreN #[.val (.ref sa), .val (.ref sb), .val (.int (0 : Int32)), .unset, .unset] d6_1 rfl ?_
  refine w.iloadN d6_2 rfl ?_
  refine w.aloadN d6_3 rfl rfl ?_
  refine w.callV (argsL := []) (rest := [(.int (0 : Int32))]) 1 d6_4 (tw hw 38 rfl) (tw hw 39 rfl) (tw hw 41 rfl) (tw hw 40 rfl) (tw hw 15 rfl) (tw hw 42 rfl) (by decide) Ea (rmLen0 l Z a0 hw hr sa  h0 w.old hA) (lenOf pd_17 rfl) rfl rfl (Nat.le_refl _) ⟨by decide, by decide, by decide, by decide⟩ all0 ?_
  intro T h1 r w _ hQ
  obtain ⟨rfl, rfl⟩ := hQ
  show Go x _ Z _ _ _ T 7 #[.val (.ref sa), .val (.ref sb), .val (.int (0 : Int32)), .unset, .unset] [(.int (0 : Int32)), (.int (0 : Int32))]
  refine w.icmpGe d6_7 d6_7t (fun _ => ?_) (fun q => absurd q (by decide))
  refine w.aloadN d6_54 rfl rfl ?_
  refine w.callV (argsL := []) (rest := []) 0 d6_55 (tw hw 38 rfl) (tw hw 39 rfl) (tw hw 41 rfl) (tw hw 40 rfl) (tw hw 15 rfl) (tw hw 42 rfl) (by decide) Ea (rmLen0 l Z a0 hw hr sa  h0 w.old hA) (lenOf pd_17 rfl) rfl rfl (Nat.le_refl _) ⟨by decide, by decide, by decide, by decide⟩ all0 ?_
  intro T h2 r w _ hQ
  obtain ⟨rfl, rfl⟩ := hQ
  show Go x _ Z _ _ _ T 58 #[.val (.ref sa), .val (.ref sb), .val (.int (0 : Int32)), .unset, .unset] [(.int (0 : Int32))]
  refine w.aloadN d6_58 rfl rfl ?_
  refine w.callV (argsL := []) (rest := [(.int (0 : Int32))]) 1 d6_59 (tw hw 38 rfl) (tw hw 39 rfl) (tw hw 41 rfl) (tw hw 40 rfl) (tw hw 15 rfl) (tw hw 42 rfl) (by decide) Eb (rmLen1 l Z a0 hw hr sb y0 h0 w.old hB) (lenOf pd_17 rfl) rfl rfl (Nat.le_refl _) ⟨by decide, by decide, by decide, by decide⟩ all0 ?_
  intro T h3 r w _ hQ
  obtain ⟨rfl, rfl⟩ := hQ
  show Go x _ Z _ _ _ T 62 #[.val (.ref sa), .val (.ref sb), .val (.int (0 : Int32)), .unset, .unset] [(.int (own_k y0)), (.int (0 : Int32))]
  refine w.callS (argsL := [(.int (0 : Int32)), (.int (own_k y0))]) (rest := []) 0 d6_62 (tw hw 49 rfl) (tw hw 50 rfl) (tw hw 51 rfl) (tw hw 52 rfl) (by decide) (rmIc l Z a0 hw (0 : Int32) (own_k y0) h0 w.old) (lenOf pd_18 rfl) rfl rfl (Nat.le_refl _) ⟨by decide, by decide, by decide, by decide⟩ all0 ?_
  intro T h4 r w _ hQ
  obtain ⟨rfl, rfl⟩ := hQ
  show Go x _ Z _ _ _ T 65 #[.val (.ref sa), .val (.ref sb), .val (.int (0 : Int32)), .unset, .unset] [(.int (if (0 : Int32) < (own_k y0) then -1 else if (0 : Int32) = (own_k y0) then 0 else 1))]
  exact w.retI d6_65 rfl ⟨congrArg (fun z => some (Value.int z)) (by rcases own_kc y0 with ey0 | ey0 <;> simp only [ey0] <;> decide), rfl⟩

set_option maxRecDepth 65536 in
set_option maxHeartbeats 40000000 in
theorem rmCmp_0_2 (l : Launch) (Z : State) (a0 : Array Value) (hw : ∀ d ∈ tables_1, d.before a0 Z = true) (hr : rest_1_c.value a0 Z none Z [] = some true) (sa sb : Addr) (y0 y1 : Int32) (h0 : Heap) (hE : Ext Z.heap h0) (hA : SP0 Z h0 sa ) (hB : SP2 Z h0 sb y0 y1) (Vy0 : own_V y0) (Vy1 : own_V y1) :
    Ct true l Z consts_1 (⟨"com/example/fintan/fintan/Utf8Order", "compare", "(Ljava/lang/String;Ljava/lang/String;)I"⟩ : MethodName) prog_25_method_2_code 5 (some .int) [] ({ frames := 4, cells := 0, slots := 0, locals := 59 } : Room) [] #[(.ref sa), (.ref sb)] h0 (fun r w => r = some (.int (-1 : Int32)) ∧ h0 = w) := by
  refine Ct.intro pn_com_example_fintan_fintan_Utf8Order hE (fun m => efCmp m sa sb) nosf ⟨a0, own_EW hw⟩ ?_
  intro x T w
  have Ea := hA.exa
  have Eb := hB.exa
  refine w.iconst (0 : Int32) d6_0 rfl ?_
  refine w.istoreN #[.val (.ref sa), .val (.ref sb), .val (.int (0 : Int32)), .unset, .unset] d6_1 rfl ?_
  refine w.iloadN d6_2 rfl ?_
  refine w.aloadN d6_3 rfl rfl ?_
  refine w.callV (argsL := []) (rest := [(.int (0 : Int32))]) 1 d6_4 (tw hw 38 rfl) (tw hw 39 rfl) (tw hw 41 rfl) (tw hw 40 rfl) (tw hw 15 rfl) (tw hw 42 rfl) (by decide) Ea (rmLen0 l Z a0 hw hr sa  h0 w.old hA) (lenOf pd_17 rfl) rfl rfl (Nat.le_refl _) ⟨by decide, by decide, by decide, by decide⟩ all0 ?_
  intro T h1 r w _ hQ
  obtain ⟨rfl, rfl⟩ := hQ
  show Go x _ Z _ _ _ T 7 #[.val (.ref sa), .val (.ref sb), .val (.int (0 : Int32)), .unset, .unset] [(.int (0 : Int32)), (.int (0 : Int32))]
  refine w.icmpGe d6_7 d6_7t (fun _ => ?_) (fun q => absurd q (by decide))
  refine w.aloadN d6_54 rfl rfl ?_
  refine w.callV (argsL := []) (rest := []) 0 d6_55 (tw hw 38 rfl) (tw hw 39 rfl) (tw hw 41 rfl) (tw hw 40 rfl) (tw hw 15 rfl) (tw hw 42 rfl) (by decide) Ea (rmLen0 l Z a0 hw hr sa  h0 w.old hA) (lenOf pd_17 rfl) rfl rfl (Nat.le_refl _) ⟨by decide, by decide, by decide, by decide⟩ all0 ?_
  intro T h2 r w _ hQ
  obtain ⟨rfl, rfl⟩ := hQ
  show Go x _ Z _ _ _ T 58 #[.val (.ref sa), .val (.ref sb), .val (.int (0 : Int32)), .unset, .unset] [(.int (0 : Int32))]
  refine w.aloadN d6_58 rfl rfl ?_
  refine w.callV (argsL := []) (rest := [(.int (0 : Int32))]) 1 d6_59 (tw hw 38 rfl) (tw hw 39 rfl) (tw hw 41 rfl) (tw hw 40 rfl) (tw hw 15 rfl) (tw hw 42 rfl) (by decide) Eb (rmLen2 l Z a0 hw hr sb y0 y1 h0 w.old hB) (lenOf pd_17 rfl) rfl rfl (Nat.le_refl _) ⟨by decide, by decide, by decide, by decide⟩ all0 ?_
  intro T h3 r w _ hQ
  obtain ⟨rfl, rfl⟩ := hQ
  show Go x _ Z _ _ _ T 62 #[.val (.ref sa), .val (.ref sb), .val (.int (0 : Int32)), .unset, .unset] [(.int (own_k y0 + own_k y1)), (.int (0 : Int32))]
  refine w.callS (argsL := [(.int (0 : Int32)), (.int (own_k y0 + own_k y1))]) (rest := []) 0 d6_62 (tw hw 49 rfl) (tw hw 50 rfl) (tw hw 51 rfl) (tw hw 52 rfl) (by decide) (rmIc l Z a0 hw (0 : Int32) (own_k y0 + own_k y1) h0 w.old) (lenOf pd_18 rfl) rfl rfl (Nat.le_refl _) ⟨by decide, by decide, by decide, by decide⟩ all0 ?_
  intro T h4 r w _ hQ
  obtain ⟨rfl, rfl⟩ := hQ
  show Go x _ Z _ _ _ T 65 #[.val (.ref sa), .val (.ref sb), .val (.int (0 : Int32)), .unset, .unset] [(.int (if (0 : Int32) < (own_k y0 + own_k y1) then -1 else if (0 : Int32) = (own_k y0 + own_k y1) then 0 else 1))]
  exact w.retI d6_65 rfl ⟨congrArg (fun z => some (Value.int z)) (by rcases own_kc y0 with ey0 | ey0 <;> rcases own_kc y1 with ey1 | ey1 <;> simp only [ey0, ey1] <;> decide), rfl⟩

set_option maxRecDepth 65536 in
set_option maxHeartbeats 40000000 in
theorem rmCmp_1_0 (l : Launch) (Z : State) (a0 : Array Value) (hw : ∀ d ∈ tables_1, d.before a0 Z = true) (hr : rest_1_c.value a0 Z none Z [] = some true) (sa sb : Addr) (x0 : Int32) (h0 : Heap) (hE : Ext Z.heap h0) (hA : SP1 Z h0 sa x0) (hB : SP0 Z h0 sb ) (Vx0 : own_V x0) :
    Ct true l Z consts_1 (⟨"com/example/fintan/fintan/Utf8Order", "compare", "(Ljava/lang/String;Ljava/lang/String;)I"⟩ : MethodName) prog_25_method_2_code 5 (some .int) [] ({ frames := 4, cells := 0, slots := 0, locals := 59 } : Room) [] #[(.ref sa), (.ref sb)] h0 (fun r w => r = some (.int (1 : Int32)) ∧ h0 = w) := by
  refine Ct.intro pn_com_example_fintan_fintan_Utf8Order hE (fun m => efCmp m sa sb) nosf ⟨a0, own_EW hw⟩ ?_
  intro x T w
  have Ea := hA.exa
  have Eb := hB.exa
  refine w.iconst (0 : Int32) d6_0 rfl ?_
  refine w.istoreN #[.val (.ref sa), .val (.ref sb), .val (.int (0 : Int32)), .unset, .unset] d6_1 rfl ?_
  refine w.iloadN d6_2 rfl ?_
  refine w.aloadN d6_3 rfl rfl ?_
  refine w.callV (argsL := []) (rest := [(.int (0 : Int32))]) 1 d6_4 (tw hw 38 rfl) (tw hw 39 rfl) (tw hw 41 rfl) (tw hw 40 rfl) (tw hw 15 rfl) (tw hw 42 rfl) (by decide) Ea (rmLen1 l Z a0 hw hr sa x0 h0 w.old hA) (lenOf pd_17 rfl) rfl rfl (Nat.le_refl _) ⟨by decide, by decide, by decide, by decide⟩ all0 ?_
  intro T h1 r w _ hQ
  obtain ⟨rfl, rfl⟩ := hQ
  show Go x _ Z _ _ _ T 7 #[.val (.ref sa), .val (.ref sb), .val (.int (0 : Int32)), .unset, .unset] [(.int (own_k x0)), (.int (0 : Int32))]
  refine w.icmpGe d6_7 d6_7t (fun q => absurd (by rcases own_kc x0 with ex0 | ex0 <;> simp only [ex0] <;> decide) q) (fun _ => ?_)
  refine w.iloadN d6_10 rfl ?_
  refine w.aloadN d6_11 rfl rfl ?_
  refine w.callV (argsL := []) (rest := [(.int (0 : Int32))]) 1 d6_12 (tw hw 38 rfl) (tw hw 39 rfl) (tw hw 41 rfl) (tw hw 40 rfl) (tw hw 15 rfl) (tw hw 42 rfl) (by decide) Eb (rmLen0 l Z a0 hw hr sb  h0 w.old hB) (lenOf pd_17 rfl) rfl rfl (Nat.le_refl _) ⟨by decide, by decide, by decide, by decide⟩ all0 ?_
  intro T h2 r w _ hQ
  obtain ⟨rfl, rfl⟩ := hQ
  show Go x _ Z _ _ _ T 15 #[.val (.ref sa), .val (.ref sb), .val (.int (0 : Int32)), .unset, .unset] [(.int (0 : Int32)), (.int (0 : Int32))]
  refine w.icmpGe d6_15 d6_15t (fun _ => ?_) (fun q => absurd q (by decide))
  refine w.aloadN d6_54 rfl rfl ?_
  refine w.callV (argsL := []) (rest := []) 0 d6_55 (tw hw 38 rfl) (tw hw 39 rfl) (tw hw 41 rfl) (tw hw 40 rfl) (tw hw 15 rfl) (tw hw 42 rfl) (by decide) Ea (rmLen1 l Z a0 hw hr sa x0 h0 w.old hA) (lenOf pd_17 rfl) rfl rfl (Nat.le_refl _) ⟨by decide, by decide, by decide, by decide⟩ all0 ?_
  intro T h3 r w _ hQ
  obtain ⟨rfl, rfl⟩ := hQ
  show Go x _ Z _ _ _ T 58 #[.val (.ref sa), .val (.ref sb), .val (.int (0 : Int32)), .unset, .unset] [(.int (own_k x0))]
  refine w.aloadN d6_58 rfl rfl ?_
  refine w.callV (argsL := []) (rest := [(.int (own_k x0))]) 1 d6_59 (tw hw 38 rfl) (tw hw 39 rfl) (tw hw 41 rfl) (tw hw 40 rfl) (tw hw 15 rfl) (tw hw 42 rfl) (by decide) Eb (rmLen0 l Z a0 hw hr sb  h0 w.old hB) (lenOf pd_17 rfl) rfl rfl (Nat.le_refl _) ⟨by decide, by decide, by decide, by decide⟩ all0 ?_
  intro T h4 r w _ hQ
  obtain ⟨rfl, rfl⟩ := hQ
  show Go x _ Z _ _ _ T 62 #[.val (.ref sa), .val (.ref sb), .val (.int (0 : Int32)), .unset, .unset] [(.int (0 : Int32)), (.int (own_k x0))]
  refine w.callS (argsL := [(.int (own_k x0)), (.int (0 : Int32))]) (rest := []) 0 d6_62 (tw hw 49 rfl) (tw hw 50 rfl) (tw hw 51 rfl) (tw hw 52 rfl) (by decide) (rmIc l Z a0 hw (own_k x0) (0 : Int32) h0 w.old) (lenOf pd_18 rfl) rfl rfl (Nat.le_refl _) ⟨by decide, by decide, by decide, by decide⟩ all0 ?_
  intro T h5 r w _ hQ
  obtain ⟨rfl, rfl⟩ := hQ
  show Go x _ Z _ _ _ T 65 #[.val (.ref sa), .val (.ref sb), .val (.int (0 : Int32)), .unset, .unset] [(.int (if (own_k x0) < (0 : Int32) then -1 else if (own_k x0) = (0 : Int32) then 0 else 1))]
  exact w.retI d6_65 rfl ⟨congrArg (fun z => some (Value.int z)) (by rcases own_kc x0 with ex0 | ex0 <;> simp only [ex0] <;> decide), rfl⟩

set_option maxRecDepth 65536 in
set_option maxHeartbeats 40000000 in
theorem rmCmp_1_1 (l : Launch) (Z : State) (a0 : Array Value) (hw : ∀ d ∈ tables_1, d.before a0 Z = true) (hr : rest_1_c.value a0 Z none Z [] = some true) (sa sb : Addr) (x0 y0 : Int32) (h0 : Heap) (hE : Ext Z.heap h0) (hA : SP1 Z h0 sa x0) (hB : SP1 Z h0 sb y0) (Vx0 : own_V x0) (Vy0 : own_V y0) :
    Ct true l Z consts_1 (⟨"com/example/fintan/fintan/Utf8Order", "compare", "(Ljava/lang/String;Ljava/lang/String;)I"⟩ : MethodName) prog_25_method_2_code 5 (some .int) [] ({ frames := 4, cells := 0, slots := 0, locals := 59 } : Room) [] #[(.ref sa), (.ref sb)] h0 (fun r w => r = some (.int (if x0 = y0 then (0) else if x0 < y0 then -1 else (1 : Int32))) ∧ h0 = w) := by
  refine Ct.intro pn_com_example_fintan_fintan_Utf8Order hE (fun m => efCmp m sa sb) nosf ⟨a0, own_EW hw⟩ ?_
  intro x T w
  have Ea := hA.exa
  have Eb := hB.exa
  refine w.iconst (0 : Int32) d6_0 rfl ?_
  refine w.istoreN #[.val (.ref sa), .val (.ref sb), .val (.int (0 : Int32)), .unset, .unset] d6_1 rfl ?_
  refine w.iloadN d6_2 rfl ?_
  refine w.aloadN d6_3 rfl rfl ?_
  refine w.callV (argsL := []) (rest := [(.int (0 : Int32))]) 1 d6_4 (tw hw 38 rfl) (tw hw 39 rfl) (tw hw 41 rfl) (tw hw 40 rfl) (tw hw 15 rfl) (tw hw 42 rfl) (by decide) Ea (rmLen1 l Z a0 hw hr sa x0 h0 w.old hA) (lenOf pd_17 rfl) rfl rfl (Nat.le_refl _) ⟨by decide, by decide, by decide, by decide⟩ all0 ?_
  intro T h1 r w _ hQ
  obtain ⟨rfl, rfl⟩ := hQ
  show Go x _ Z _ _ _ T 7 #[.val (.ref sa), .val (.ref sb), .val (.int (0 : Int32)), .unset, .unset] [(.int (own_k x0)), (.int (0 : Int32))]
  refine w.icmpGe d6_7 d6_7t (fun q => absurd (by rcases own_kc x0 with ex0 | ex0 <;> simp only [ex0] <;> decide) q) (fun _ => ?_)
  refine w.iloadN d6_10 rfl ?_
  refine w.aloadN d6_11 rfl rfl ?_
  refine w.callV (argsL := []) (rest := [(.int (0 : Int32))]) 1 d6_12 (tw hw 38 rfl) (tw hw 39 rfl) (tw hw 41 rfl) (tw hw 40 rfl) (tw hw 15 rfl) (tw hw 42 rfl) (by decide) Eb (rmLen1 l Z a0 hw hr sb y0 h0 w.old hB) (lenOf pd_17 rfl) rfl rfl (Nat.le_refl _) ⟨by decide, by decide, by decide, by decide⟩ all0 ?_
  intro T h2 r w _ hQ
  obtain ⟨rfl, rfl⟩ := hQ
  show Go x _ Z _ _ _ T 15 #[.val (.ref sa), .val (.ref sb), .val (.int (0 : Int32)), .unset, .unset] [(.int (own_k y0)), (.int (0 : Int32))]
  refine w.icmpGe d6_15 d6_15t (fun q => absurd (by rcases own_kc y0 with ey0 | ey0 <;> simp only [ey0] <;> decide) q) (fun _ => ?_)
  refine w.aloadN d6_18 rfl rfl ?_
  refine w.iloadN d6_19 rfl ?_
  refine w.callV (argsL := [(.int (0 : Int32))]) (rest := []) 0 d6_20 (tw hw 86 rfl) (tw hw 87 rfl) (tw hw 89 rfl) (tw hw 88 rfl) (tw hw 15 rfl) (tw hw 90 rfl) (by decide) Ea (rmA1_0 l Z a0 hw hr sa x0 h0 w.old hA Vx0) (lenOf pd_5 rfl) rfl rfl (Nat.le_refl _) ⟨by decide, by decide, by decide, by decide⟩ all0 ?_
  intro T h3 r w _ hQ
  obtain ⟨rfl, rfl⟩ := hQ
  show Go x _ Z _ _ _ T 23 #[.val (.ref sa), .val (.ref sb), .val (.int (0 : Int32)), .unset, .unset] [(.int x0)]
  refine w.istoreN #[.val (.ref sa), .val (.ref sb), .val (.int (0 : Int32)), .val (.int x0), .unset] d6_23 rfl ?_
  refine w.aloadN d6_24 rfl rfl ?_
  refine w.iloadN d6_25 rfl ?_
  refine w.callV (argsL := [(.int (0 : Int32))]) (rest := []) 0 d6_26 (tw hw 86 rfl) (tw hw 87 rfl) (tw hw 89 rfl) (tw hw 88 rfl) (tw hw 15 rfl) (tw hw 90 rfl) (by decide) Eb (rmA1_0 l Z a0 hw hr sb y0 h0 w.old hB Vy0) (lenOf pd_5 rfl) rfl rfl (Nat.le_refl _) ⟨by decide, by decide, by decide, by decide⟩ all0 ?_
  intro T h4 r w _ hQ
  obtain ⟨rfl, rfl⟩ := hQ
  show Go x _ Z _ _ _ T 29 #[.val (.ref sa), .val (.ref sb), .val (.int (0 : Int32)), .val (.int x0), .unset] [(.int y0)]
  refine w.istore #[.val (.ref sa), .val (.ref sb), .val (.int (0 : Int32)), .val (.int x0), .val (.int y0)] d6_29 rfl ?_
  refine w.iloadN d6_31 rfl ?_
  refine w.iload d6_32 rfl ?_
  refine w.icmpEq d6_34 d6_34t (fun q0 => ?_) (fun q0 => ?_)
  · subst q0
    refine w.iloadN d6_44 rfl ?_
    refine w.iloadN d6_45 rfl ?_
    refine w.callS (argsL := [(.int x0)]) (rest := [(.int (0 : Int32))]) 1 d6_46 (tw hw 117 rfl) (tw hw 118 rfl) (tw hw 112 rfl) (tw hw 119 rfl) (by decide) (rmCnt l Z a0 hw x0 h0 w.old) (lenOf pd_5 rfl) rfl rfl (Nat.le_refl _) ⟨by decide, by decide, by decide, by decide⟩ all0 ?_
    intro T h5 r w _ hQ
    obtain ⟨rfl, rfl⟩ := hQ
    show Go x _ Z _ _ _ T 49 #[.val (.ref sa), .val (.ref sb), .val (.int (0 : Int32)), .val (.int x0), .val (.int x0)] [(.int (own_k x0)), (.int (0 : Int32))]
    refine w.iadd d6_49 ?_
    rw [Int32.zero_add]
    show Go x _ Z _ _ _ T 50 #[.val (.ref sa), .val (.ref sb), .val (.int (0 : Int32)), .val (.int x0), .val (.int x0)] [(.int (own_k x0))]
    refine w.istoreN #[.val (.ref sa), .val (.ref sb), .val (.int (own_k x0)), .val (.int x0), .val (.int x0)] d6_50 rfl ?_
    refine w.goto d6_51 d6_51t ?_
    refine w.iloadN d6_2 rfl ?_
    refine w.aloadN d6_3 rfl rfl ?_
    refine w.callV (argsL := []) (rest := [(.int (own_k x0))]) 1 d6_4 (tw hw 38 rfl) (tw hw 39 rfl) (tw hw 41 rfl) (tw hw 40 rfl) (tw hw 15 rfl) (tw hw 42 rfl) (by decide) Ea (rmLen1 l Z a0 hw hr sa x0 h0 w.old hA) (lenOf pd_17 rfl) rfl rfl (Nat.le_refl _) ⟨by decide, by decide, by decide, by decide⟩ all0 ?_
    intro T h6 r w _ hQ
    obtain ⟨rfl, rfl⟩ := hQ
    show Go x _ Z _ _ _ T 7 #[.val (.ref sa), .val (.ref sb), .val (.int (own_k x0)), .val (.int x0), .val (.int x0)] [(.int (own_k x0)), (.int (own_k x0))]
    refine w.icmpGe d6_7 d6_7t (fun _ => ?_) (fun q => absurd q (by rcases own_kc x0 with ex0 | ex0 <;> simp only [ex0] <;> decide))
    refine w.aloadN d6_54 rfl rfl ?_
    refine w.callV (argsL := []) (rest := []) 0 d6_55 (tw hw 38 rfl) (tw hw 39 rfl) (tw hw 41 rfl) (tw hw 40 rfl) (tw hw 15 rfl) (tw hw 42 rfl) (by decide) Ea (rmLen1 l Z a0 hw hr sa x0 h0 w.old hA) (lenOf pd_17 rfl) rfl rfl (Nat.le_refl _) ⟨by decide, by decide, by decide, by decide⟩ all0 ?_
    intro T h7 r w _ hQ
    obtain ⟨rfl, rfl⟩ := hQ
    show Go x _ Z _ _ _ T 58 #[.val (.ref sa), .val (.ref sb), .val (.int (own_k x0)), .val (.int x0), .val (.int x0)] [(.int (own_k x0))]
    refine w.aloadN d6_58 rfl rfl ?_
    refine w.callV (argsL := []) (rest := [(.int (own_k x0))]) 1 d6_59 (tw hw 38 rfl) (tw hw 39 rfl) (tw hw 41 rfl) (tw hw 40 rfl) (tw hw 15 rfl) (tw hw 42 rfl) (by decide) Eb (rmLen1 l Z a0 hw hr sb x0 h0 w.old hB) (lenOf pd_17 rfl) rfl rfl (Nat.le_refl _) ⟨by decide, by decide, by decide, by decide⟩ all0 ?_
    intro T h8 r w _ hQ
    obtain ⟨rfl, rfl⟩ := hQ
    show Go x _ Z _ _ _ T 62 #[.val (.ref sa), .val (.ref sb), .val (.int (own_k x0)), .val (.int x0), .val (.int x0)] [(.int (own_k x0)), (.int (own_k x0))]
    refine w.callS (argsL := [(.int (own_k x0)), (.int (own_k x0))]) (rest := []) 0 d6_62 (tw hw 49 rfl) (tw hw 50 rfl) (tw hw 51 rfl) (tw hw 52 rfl) (by decide) (rmIc l Z a0 hw (own_k x0) (own_k x0) h0 w.old) (lenOf pd_18 rfl) rfl rfl (Nat.le_refl _) ⟨by decide, by decide, by decide, by decide⟩ all0 ?_
    intro T h9 r w _ hQ
    obtain ⟨rfl, rfl⟩ := hQ
    show Go x _ Z _ _ _ T 65 #[.val (.ref sa), .val (.ref sb), .val (.int (own_k x0)), .val (.int x0), .val (.int x0)] [(.int (if (own_k x0) < (own_k x0) then -1 else if (own_k x0) = (own_k x0) then 0 else 1))]
    exact w.retI d6_65 rfl ⟨congrArg (fun z => some (Value.int z)) (Eq.trans (b := (0 : Int32)) (by rcases own_kc x0 with ex0 | ex0 <;> simp only [ex0] <;> decide) (if_pos rfl).symm), rfl⟩
  · refine w.iloadN d6_37 rfl ?_
    refine w.iload d6_38 rfl ?_
    refine w.callS (argsL := [(.int x0), (.int y0)]) (rest := []) 0 d6_40 (tw hw 49 rfl) (tw hw 50 rfl) (tw hw 51 rfl) (tw hw 52 rfl) (by decide) (rmIc l Z a0 hw x0 y0 h0 w.old) (lenOf pd_18 rfl) rfl rfl (Nat.le_refl _) ⟨by decide, by decide, by decide, by decide⟩ all0 ?_
    intro T h10 r w _ hQ
    obtain ⟨rfl, rfl⟩ := hQ
    show Go x _ Z _ _ _ T 43 #[.val (.ref sa), .val (.ref sb), .val (.int (0 : Int32)), .val (.int x0), .val (.int y0)] [(.int (if x0 < y0 then -1 else if x0 = y0 then 0 else 1))]
    exact w.retI d6_43 rfl ⟨by rw [own_c1 q0, if_neg q0], rfl⟩

set_option maxRecDepth 65536 in
set_option maxHeartbeats 40000000 in
theorem rmCmp_1_2 (l : Launch) (Z : State) (a0 : Array Value) (hw : ∀ d ∈ tables_1, d.before a0 Z = true) (hr : rest_1_c.value a0 Z none Z [] = some true) (sa sb : Addr) (x0 y0 y1 : Int32) (h0 : Heap) (hE : Ext Z.heap h0) (hA : SP1 Z h0 sa x0) (hB : SP2 Z h0 sb y0 y1) (Vx0 : own_V x0) (Vy0 : own_V y0) (Vy1 : own_V y1) :
    Ct true l Z consts_1 (⟨"com/example/fintan/fintan/Utf8Order", "compare", "(Ljava/lang/String;Ljava/lang/String;)I"⟩ : MethodName) prog_25_method_2_code 5 (some .int) [] ({ frames := 4, cells := 0, slots := 0, locals := 59 } : Room) [] #[(.ref sa), (.ref sb)] h0 (fun r w => r = some (.int (if x0 = y0 then (-1) else if x0 < y0 then -1 else (1 : Int32))) ∧ h0 = w) := by
  refine Ct.intro pn_com_example_fintan_fintan_Utf8Order hE (fun m => efCmp m sa sb) nosf ⟨a0, own_EW hw⟩ ?_
  intro x T w
  have Ea := hA.exa
  have Eb := hB.exa
  refine w.iconst (0 : Int32) d6_0 rfl ?_
  refine w.istoreN #[.val (.ref sa), .val (.ref sb), .val (.int (0 : Int32)), .unset, .unset] d6_1 rfl ?_
  refine w.iloadN d6_2 rfl ?_
  refine w.aloadN d6_3 rfl rfl ?_
  refine w.callV (argsL := []) (rest := [(.int (0 : Int32))]) 1 d6_4 (tw hw 38 rfl) (tw hw 39 rfl) (tw hw 41 rfl) (tw hw 40 rfl) (tw hw 15 rfl) (tw hw 42 rfl) (by decide) Ea (rmLen1 l Z a0 hw hr sa x0 h0 w.old hA) (lenOf pd_17 rfl) rfl rfl (Nat.le_refl _) ⟨by decide, by decide, by decide, by decide⟩ all0 ?_
  intro T h1 r w _ hQ
  obtain ⟨rfl, rfl⟩ := hQ
  show Go x _ Z _ _ _ T 7 #[.val (.ref sa), .val (.ref sb), .val (.int (0 : Int32)), .unset, .unset] [(.int (own_k x0)), (.int (0 : Int32))]
  refine w.icmpGe d6_7 d6_7t (fun q => absurd (by rcases own_kc x0 with ex0 | ex0 <;> simp only [ex0] <;> decide) q) (fun _ => ?_)
  refine w.iloadN d6_10 rfl ?_
  refine w.aloadN d6_11 rfl rfl ?_
  refine w.callV (argsL := []) (rest := [(.int (0 : Int32))]) 1 d6_12 (tw hw 38 rfl) (tw hw 39 rfl) (tw hw 41 rfl) (tw hw 40 rfl) (tw hw 15 rfl) (tw hw 42 rfl) (by decide) Eb (rmLen2 l Z a0 hw hr sb y0 y1 h0 w.old hB) (lenOf pd_17 rfl) rfl rfl (Nat.le_refl _) ⟨by decide, by decide, by decide, by decide⟩ all0 ?_
  intro T h2 r w _ hQ
  obtain ⟨rfl, rfl⟩ := hQ
  show Go x _ Z _ _ _ T 15 #[.val (.ref sa), .val (.ref sb), .val (.int (0 : Int32)), .unset, .unset] [(.int (own_k y0 + own_k y1)), (.int (0 : Int32))]
  refine w.icmpGe d6_15 d6_15t (fun q => absurd (by rcases own_kc y0 with ey0 | ey0 <;> rcases own_kc y1 with ey1 | ey1 <;> simp only [ey0, ey1] <;> decide) q) (fun _ => ?_)
  refine w.aloadN d6_18 rfl rfl ?_
  refine w.iloadN d6_19 rfl ?_
  refine w.callV (argsL := [(.int (0 : Int32))]) (rest := []) 0 d6_20 (tw hw 86 rfl) (tw hw 87 rfl) (tw hw 89 rfl) (tw hw 88 rfl) (tw hw 15 rfl) (tw hw 90 rfl) (by decide) Ea (rmA1_0 l Z a0 hw hr sa x0 h0 w.old hA Vx0) (lenOf pd_5 rfl) rfl rfl (Nat.le_refl _) ⟨by decide, by decide, by decide, by decide⟩ all0 ?_
  intro T h3 r w _ hQ
  obtain ⟨rfl, rfl⟩ := hQ
  show Go x _ Z _ _ _ T 23 #[.val (.ref sa), .val (.ref sb), .val (.int (0 : Int32)), .unset, .unset] [(.int x0)]
  refine w.istoreN #[.val (.ref sa), .val (.ref sb), .val (.int (0 : Int32)), .val (.int x0), .unset] d6_23 rfl ?_
  refine w.aloadN d6_24 rfl rfl ?_
  refine w.iloadN d6_25 rfl ?_
  refine w.callV (argsL := [(.int (0 : Int32))]) (rest := []) 0 d6_26 (tw hw 86 rfl) (tw hw 87 rfl) (tw hw 89 rfl) (tw hw 88 rfl) (tw hw 15 rfl) (tw hw 90 rfl) (by decide) Eb (rmA2_0 l Z a0 hw hr sb y0 y1 h0 w.old hB Vy0 Vy1) (lenOf pd_5 rfl) rfl rfl (Nat.le_refl _) ⟨by decide, by decide, by decide, by decide⟩ all0 ?_
  intro T h4 r w _ hQ
  obtain ⟨rfl, rfl⟩ := hQ
  show Go x _ Z _ _ _ T 29 #[.val (.ref sa), .val (.ref sb), .val (.int (0 : Int32)), .val (.int x0), .unset] [(.int y0)]
  refine w.istore #[.val (.ref sa), .val (.ref sb), .val (.int (0 : Int32)), .val (.int x0), .val (.int y0)] d6_29 rfl ?_
  refine w.iloadN d6_31 rfl ?_
  refine w.iload d6_32 rfl ?_
  refine w.icmpEq d6_34 d6_34t (fun q0 => ?_) (fun q0 => ?_)
  · subst q0
    refine w.iloadN d6_44 rfl ?_
    refine w.iloadN d6_45 rfl ?_
    refine w.callS (argsL := [(.int x0)]) (rest := [(.int (0 : Int32))]) 1 d6_46 (tw hw 117 rfl) (tw hw 118 rfl) (tw hw 112 rfl) (tw hw 119 rfl) (by decide) (rmCnt l Z a0 hw x0 h0 w.old) (lenOf pd_5 rfl) rfl rfl (Nat.le_refl _) ⟨by decide, by decide, by decide, by decide⟩ all0 ?_
    intro T h5 r w _ hQ
    obtain ⟨rfl, rfl⟩ := hQ
    show Go x _ Z _ _ _ T 49 #[.val (.ref sa), .val (.ref sb), .val (.int (0 : Int32)), .val (.int x0), .val (.int x0)] [(.int (own_k x0)), (.int (0 : Int32))]
    refine w.iadd d6_49 ?_
    rw [Int32.zero_add]
    show Go x _ Z _ _ _ T 50 #[.val (.ref sa), .val (.ref sb), .val (.int (0 : Int32)), .val (.int x0), .val (.int x0)] [(.int (own_k x0))]
    refine w.istoreN #[.val (.ref sa), .val (.ref sb), .val (.int (own_k x0)), .val (.int x0), .val (.int x0)] d6_50 rfl ?_
    refine w.goto d6_51 d6_51t ?_
    refine w.iloadN d6_2 rfl ?_
    refine w.aloadN d6_3 rfl rfl ?_
    refine w.callV (argsL := []) (rest := [(.int (own_k x0))]) 1 d6_4 (tw hw 38 rfl) (tw hw 39 rfl) (tw hw 41 rfl) (tw hw 40 rfl) (tw hw 15 rfl) (tw hw 42 rfl) (by decide) Ea (rmLen1 l Z a0 hw hr sa x0 h0 w.old hA) (lenOf pd_17 rfl) rfl rfl (Nat.le_refl _) ⟨by decide, by decide, by decide, by decide⟩ all0 ?_
    intro T h6 r w _ hQ
    obtain ⟨rfl, rfl⟩ := hQ
    show Go x _ Z _ _ _ T 7 #[.val (.ref sa), .val (.ref sb), .val (.int (own_k x0)), .val (.int x0), .val (.int x0)] [(.int (own_k x0)), (.int (own_k x0))]
    refine w.icmpGe d6_7 d6_7t (fun _ => ?_) (fun q => absurd q (by rcases own_kc x0 with ex0 | ex0 <;> simp only [ex0] <;> decide))
    refine w.aloadN d6_54 rfl rfl ?_
    refine w.callV (argsL := []) (rest := []) 0 d6_55 (tw hw 38 rfl) (tw hw 39 rfl) (tw hw 41 rfl) (tw hw 40 rfl) (tw hw 15 rfl) (tw hw 42 rfl) (by decide) Ea (rmLen1 l Z a0 hw hr sa x0 h0 w.old hA) (lenOf pd_17 rfl) rfl rfl (Nat.le_refl _) ⟨by decide, by decide, by decide, by decide⟩ all0 ?_
    intro T h7 r w _ hQ
    obtain ⟨rfl, rfl⟩ := hQ
    show Go x _ Z _ _ _ T 58 #[.val (.ref sa), .val (.ref sb), .val (.int (own_k x0)), .val (.int x0), .val (.int x0)] [(.int (own_k x0))]
    refine w.aloadN d6_58 rfl rfl ?_
    refine w.callV (argsL := []) (rest := [(.int (own_k x0))]) 1 d6_59 (tw hw 38 rfl) (tw hw 39 rfl) (tw hw 41 rfl) (tw hw 40 rfl) (tw hw 15 rfl) (tw hw 42 rfl) (by decide) Eb (rmLen2 l Z a0 hw hr sb x0 y1 h0 w.old hB) (lenOf pd_17 rfl) rfl rfl (Nat.le_refl _) ⟨by decide, by decide, by decide, by decide⟩ all0 ?_
    intro T h8 r w _ hQ
    obtain ⟨rfl, rfl⟩ := hQ
    show Go x _ Z _ _ _ T 62 #[.val (.ref sa), .val (.ref sb), .val (.int (own_k x0)), .val (.int x0), .val (.int x0)] [(.int (own_k x0 + own_k y1)), (.int (own_k x0))]
    refine w.callS (argsL := [(.int (own_k x0)), (.int (own_k x0 + own_k y1))]) (rest := []) 0 d6_62 (tw hw 49 rfl) (tw hw 50 rfl) (tw hw 51 rfl) (tw hw 52 rfl) (by decide) (rmIc l Z a0 hw (own_k x0) (own_k x0 + own_k y1) h0 w.old) (lenOf pd_18 rfl) rfl rfl (Nat.le_refl _) ⟨by decide, by decide, by decide, by decide⟩ all0 ?_
    intro T h9 r w _ hQ
    obtain ⟨rfl, rfl⟩ := hQ
    show Go x _ Z _ _ _ T 65 #[.val (.ref sa), .val (.ref sb), .val (.int (own_k x0)), .val (.int x0), .val (.int x0)] [(.int (if (own_k x0) < (own_k x0 + own_k y1) then -1 else if (own_k x0) = (own_k x0 + own_k y1) then 0 else 1))]
    exact w.retI d6_65 rfl ⟨congrArg (fun z => some (Value.int z)) (Eq.trans (b := (-1 : Int32)) (by rcases own_kc x0 with ex0 | ex0 <;> rcases own_kc y1 with ey1 | ey1 <;> simp only [ex0, ey1] <;> decide) (if_pos rfl).symm), rfl⟩
  · refine w.iloadN d6_37 rfl ?_
    refine w.iload d6_38 rfl ?_
    refine w.callS (argsL := [(.int x0), (.int y0)]) (rest := []) 0 d6_40 (tw hw 49 rfl) (tw hw 50 rfl) (tw hw 51 rfl) (tw hw 52 rfl) (by decide) (rmIc l Z a0 hw x0 y0 h0 w.old) (lenOf pd_18 rfl) rfl rfl (Nat.le_refl _) ⟨by decide, by decide, by decide, by decide⟩ all0 ?_
    intro T h10 r w _ hQ
    obtain ⟨rfl, rfl⟩ := hQ
    show Go x _ Z _ _ _ T 43 #[.val (.ref sa), .val (.ref sb), .val (.int (0 : Int32)), .val (.int x0), .val (.int y0)] [(.int (if x0 < y0 then -1 else if x0 = y0 then 0 else 1))]
    exact w.retI d6_43 rfl ⟨by rw [own_c1 q0, if_neg q0], rfl⟩

set_option maxRecDepth 65536 in
set_option maxHeartbeats 40000000 in
theorem rmCmp_2_0 (l : Launch) (Z : State) (a0 : Array Value) (hw : ∀ d ∈ tables_1, d.before a0 Z = true) (hr : rest_1_c.value a0 Z none Z [] = some true) (sa sb : Addr) (x0 x1 : Int32) (h0 : Heap) (hE : Ext Z.heap h0) (hA : SP2 Z h0 sa x0 x1) (hB : SP0 Z h0 sb ) (Vx0 : own_V x0) (Vx1 : own_V x1) :
    Ct true l Z consts_1 (⟨"com/example/fintan/fintan/Utf8Order", "compare", "(Ljava/lang/String;Ljava/lang/String;)I"⟩ : MethodName) prog_25_method_2_code 5 (some .int) [] ({ frames := 4, cells := 0, slots := 0, locals := 59 } : Room) [] #[(.ref sa), (.ref sb)] h0 (fun r w => r = some (.int (1 : Int32)) ∧ h0 = w) := by
  refine Ct.intro pn_com_example_fintan_fintan_Utf8Order hE (fun m => efCmp m sa sb) nosf ⟨a0, own_EW hw⟩ ?_
  intro x T w
  have Ea := hA.exa
  have Eb := hB.exa
  refine w.iconst (0 : Int32) d6_0 rfl ?_
  refine w.istoreN #[.val (.ref sa), .val (.ref sb), .val (.int (0 : Int32)), .unset, .unset] d6_1 rfl ?_
  refine w.iloadN d6_2 rfl ?_
  refine w.aloadN d6_3 rfl rfl ?_
  refine w.callV (argsL := []) (rest := [(.int (0 : Int32))]) 1 d6_4 (tw hw 38 rfl) (tw hw 39 rfl) (tw hw 41 rfl) (tw hw 40 rfl) (tw hw 15 rfl) (tw hw 42 rfl) (by decide) Ea (rmLen2 l Z a0 hw hr sa x0 x1 h0 w.old hA) (lenOf pd_17 rfl) rfl rfl (Nat.le_refl _) ⟨by decide, by decide, by decide, by decide⟩ all0 ?_
  intro T h1 r w _ hQ
  obtain ⟨rfl, rfl⟩ := hQ
  show Go x _ Z _ _ _ T 7 #[.val (.ref sa), .val (.ref sb), .val (.int (0 : Int32)), .unset, .unset] [(.int (own_k x0 + own_k x1)), (.int (0 : Int32))]
  refine w.icmpGe d6_7 d6_7t (fun q => absurd (by rcases own_kc x0 with ex0 | ex0 <;> rcases own_kc x1 with ex1 | ex1 <;> simp only [ex0, ex1] <;> decide) q) (fun _ => ?_)
  refine w.iloadN d6_10 rfl ?_
  refine w.aloadN d6_11 rfl rfl ?_
  refine w.callV (argsL := []) (rest := [(.int (0 : Int32))]) 1 d6_12 (tw hw 38 rfl) (tw hw 39 rfl) (tw hw 41 rfl) (tw hw 40 rfl) (tw hw 15 rfl) (tw hw 42 rfl) (by decide) Eb (rmLen0 l Z a0 hw hr sb  h0 w.old hB) (lenOf pd_17 rfl) rfl rfl (Nat.le_refl _) ⟨by decide, by decide, by decide, by decide⟩ all0 ?_
  intro T h2 r w _ hQ
  obtain ⟨rfl, rfl⟩ := hQ
  show Go x _ Z _ _ _ T 15 #[.val (.ref sa), .val (.ref sb), .val (.int (0 : Int32)), .unset, .unset] [(.int (0 : Int32)), (.int (0 : Int32))]
  refine w.icmpGe d6_15 d6_15t (fun _ => ?_) (fun q => absurd q (by decide))
  refine w.aloadN d6_54 rfl rfl ?_
  refine w.callV (argsL := []) (rest := []) 0 d6_55 (tw hw 38 rfl) (tw hw 39 rfl) (tw hw 41 rfl) (tw hw 40 rfl) (tw hw 15 rfl) (tw hw 42 rfl) (by decide) Ea (rmLen2 l Z a0 hw hr sa x0 x1 h0 w.old hA) (lenOf pd_17 rfl) rfl rfl (Nat.le_refl _) ⟨by decide, by decide, by decide, by decide⟩ all0 ?_
  intro T h3 r w _ hQ
  obtain ⟨rfl, rfl⟩ := hQ
  show Go x _ Z _ _ _ T 58 #[.val (.ref sa), .val (.ref sb), .val (.int (0 : Int32)), .unset, .unset] [(.int (own_k x0 + own_k x1))]
  refine w.aloadN d6_58 rfl rfl ?_
  refine w.callV (argsL := []) (rest := [(.int (own_k x0 + own_k x1))]) 1 d6_59 (tw hw 38 rfl) (tw hw 39 rfl) (tw hw 41 rfl) (tw hw 40 rfl) (tw hw 15 rfl) (tw hw 42 rfl) (by decide) Eb (rmLen0 l Z a0 hw hr sb  h0 w.old hB) (lenOf pd_17 rfl) rfl rfl (Nat.le_refl _) ⟨by decide, by decide, by decide, by decide⟩ all0 ?_
  intro T h4 r w _ hQ
  obtain ⟨rfl, rfl⟩ := hQ
  show Go x _ Z _ _ _ T 62 #[.val (.ref sa), .val (.ref sb), .val (.int (0 : Int32)), .unset, .unset] [(.int (0 : Int32)), (.int (own_k x0 + own_k x1))]
  refine w.callS (argsL := [(.int (own_k x0 + own_k x1)), (.int (0 : Int32))]) (rest := []) 0 d6_62 (tw hw 49 rfl) (tw hw 50 rfl) (tw hw 51 rfl) (tw hw 52 rfl) (by decide) (rmIc l Z a0 hw (own_k x0 + own_k x1) (0 : Int32) h0 w.old) (lenOf pd_18 rfl) rfl rfl (Nat.le_refl _) ⟨by decide, by decide, by decide, by decide⟩ all0 ?_
  intro T h5 r w _ hQ
  obtain ⟨rfl, rfl⟩ := hQ
  show Go x _ Z _ _ _ T 65 #[.val (.ref sa), .val (.ref sb), .val (.int (0 : Int32)), .unset, .unset] [(.int (if (own_k x0 + own_k x1) < (0 : Int32) then -1 else if (own_k x0 + own_k x1) = (0 : Int32) then 0 else 1))]
  exact w.retI d6_65 rfl ⟨congrArg (fun z => some (Value.int z)) (by rcases own_kc x0 with ex0 | ex0 <;> rcases own_kc x1 with ex1 | ex1 <;> simp only [ex0, ex1] <;> decide), rfl⟩

set_option maxRecDepth 65536 in
set_option maxHeartbeats 40000000 in
theorem rmCmp_2_1 (l : Launch) (Z : State) (a0 : Array Value) (hw : ∀ d ∈ tables_1, d.before a0 Z = true) (hr : rest_1_c.value a0 Z none Z [] = some true) (sa sb : Addr) (x0 x1 y0 : Int32) (h0 : Heap) (hE : Ext Z.heap h0) (hA : SP2 Z h0 sa x0 x1) (hB : SP1 Z h0 sb y0) (Vx0 : own_V x0) (Vx1 : own_V x1) (Vy0 : own_V y0) :
    Ct true l Z consts_1 (⟨"com/example/fintan/fintan/Utf8Order", "compare", "(Ljava/lang/String;Ljava/lang/String;)I"⟩ : MethodName) prog_25_method_2_code 5 (some .int) [] ({ frames := 4, cells := 0, slots := 0, locals := 59 } : Room) [] #[(.ref sa), (.ref sb)] h0 (fun r w => r = some (.int (if x0 = y0 then (1) else if x0 < y0 then -1 else (1 : Int32))) ∧ h0 = w) := by
  refine Ct.intro pn_com_example_fintan_fintan_Utf8Order hE (fun m => efCmp m sa sb) nosf ⟨a0, own_EW hw⟩ ?_
  intro x T w
  have Ea := hA.exa
  have Eb := hB.exa
  refine w.iconst (0 : Int32) d6_0 rfl ?_
  refine w.istoreN #[.val (.ref sa), .val (.ref sb), .val (.int (0 : Int32)), .unset, .unset] d6_1 rfl ?_
  refine w.iloadN d6_2 rfl ?_
  refine w.aloadN d6_3 rfl rfl ?_
  refine w.callV (argsL := []) (rest := [(.int (0 : Int32))]) 1 d6_4 (tw hw 38 rfl) (tw hw 39 rfl) (tw hw 41 rfl) (tw hw 40 rfl) (tw hw 15 rfl) (tw hw 42 rfl) (by decide) Ea (rmLen2 l Z a0 hw hr sa x0 x1 h0 w.old hA) (lenOf pd_17 rfl) rfl rfl (Nat.le_refl _) ⟨by decide, by decide, by decide, by decide⟩ all0 ?_
  intro T h1 r w _ hQ
  obtain ⟨rfl, rfl⟩ := hQ
  show Go x _ Z _ _ _ T 7 #[.val (.ref sa), .val (.ref sb), .val (.int (0 : Int32)), .unset, .unset] [(.int (own_k x0 + own_k x1)), (.int (0 : Int32))]
  refine w.icmpGe d6_7 d6_7t (fun q => absurd (by rcases own_kc x0 with ex0 | ex0 <;> rcases own_kc x1 with ex1 | ex1 <;> simp only [ex0, ex1] <;> decide) q) (fun _ => ?_)
  refine w.iloadN d6_10 rfl ?_
  refine w.aloadN d6_11 rfl rfl ?_
  refine w.callV (argsL := []) (rest := [(.int (0 : Int32))]) 1 d6_12 (tw hw 38 rfl) (tw hw 39 rfl) (tw hw 41 rfl) (tw hw 40 rfl) (tw hw 15 rfl) (tw hw 42 rfl) (by decide) Eb (rmLen1 l Z a0 hw hr sb y0 h0 w.old hB) (lenOf pd_17 rfl) rfl rfl (Nat.le_refl _) ⟨by decide, by decide, by decide, by decide⟩ all0 ?_
  intro T h2 r w _ hQ
  obtain ⟨rfl, rfl⟩ := hQ
  show Go x _ Z _ _ _ T 15 #[.val (.ref sa), .val (.ref sb), .val (.int (0 : Int32)), .unset, .unset] [(.int (own_k y0)), (.int (0 : Int32))]
  refine w.icmpGe d6_15 d6_15t (fun q => absurd (by rcases own_kc y0 with ey0 | ey0 <;> simp only [ey0] <;> decide) q) (fun _ => ?_)
  refine w.aloadN d6_18 rfl rfl ?_
  refine w.iloadN d6_19 rfl ?_
  refine w.callV (argsL := [(.int (0 : Int32))]) (rest := []) 0 d6_20 (tw hw 86 rfl) (tw hw 87 rfl) (tw hw 89 rfl) (tw hw 88 rfl) (tw hw 15 rfl) (tw hw 90 rfl) (by decide) Ea (rmA2_0 l Z a0 hw hr sa x0 x1 h0 w.old hA Vx0 Vx1) (lenOf pd_5 rfl) rfl rfl (Nat.le_refl _) ⟨by decide, by decide, by decide, by decide⟩ all0 ?_
  intro T h3 r w _ hQ
  obtain ⟨rfl, rfl⟩ := hQ
  show Go x _ Z _ _ _ T 23 #[.val (.ref sa), .val (.ref sb), .val (.int (0 : Int32)), .unset, .unset] [(.int x0)]
  refine w.istoreN #[.val (.ref sa), .val (.ref sb), .val (.int (0 : Int32)), .val (.int x0), .unset] d6_23 rfl ?_
  refine w.aloadN d6_24 rfl rfl ?_
  refine w.iloadN d6_25 rfl ?_
  refine w.callV (argsL := [(.int (0 : Int32))]) (rest := []) 0 d6_26 (tw hw 86 rfl) (tw hw 87 rfl) (tw hw 89 rfl) (tw hw 88 rfl) (tw hw 15 rfl) (tw hw 90 rfl) (by decide) Eb (rmA1_0 l Z a0 hw hr sb y0 h0 w.old hB Vy0) (lenOf pd_5 rfl) rfl rfl (Nat.le_refl _) ⟨by decide, by decide, by decide, by decide⟩ all0 ?_
  intro T h4 r w _ hQ
  obtain ⟨rfl, rfl⟩ := hQ
  show Go x _ Z _ _ _ T 29 #[.val (.ref sa), .val (.ref sb), .val (.int (0 : Int32)), .val (.int x0), .unset] [(.int y0)]
  refine w.istore #[.val (.ref sa), .val (.ref sb), .val (.int (0 : Int32)), .val (.int x0), .val (.int y0)] d6_29 rfl ?_
  refine w.iloadN d6_31 rfl ?_
  refine w.iload d6_32 rfl ?_
  refine w.icmpEq d6_34 d6_34t (fun q0 => ?_) (fun q0 => ?_)
  · subst q0
    refine w.iloadN d6_44 rfl ?_
    refine w.iloadN d6_45 rfl ?_
    refine w.callS (argsL := [(.int x0)]) (rest := [(.int (0 : Int32))]) 1 d6_46 (tw hw 117 rfl) (tw hw 118 rfl) (tw hw 112 rfl) (tw hw 119 rfl) (by decide) (rmCnt l Z a0 hw x0 h0 w.old) (lenOf pd_5 rfl) rfl rfl (Nat.le_refl _) ⟨by decide, by decide, by decide, by decide⟩ all0 ?_
    intro T h5 r w _ hQ
    obtain ⟨rfl, rfl⟩ := hQ
    show Go x _ Z _ _ _ T 49 #[.val (.ref sa), .val (.ref sb), .val (.int (0 : Int32)), .val (.int x0), .val (.int x0)] [(.int (own_k x0)), (.int (0 : Int32))]
    refine w.iadd d6_49 ?_
    rw [Int32.zero_add]
    show Go x _ Z _ _ _ T 50 #[.val (.ref sa), .val (.ref sb), .val (.int (0 : Int32)), .val (.int x0), .val (.int x0)] [(.int (own_k x0))]
    refine w.istoreN #[.val (.ref sa), .val (.ref sb), .val (.int (own_k x0)), .val (.int x0), .val (.int x0)] d6_50 rfl ?_
    refine w.goto d6_51 d6_51t ?_
    refine w.iloadN d6_2 rfl ?_
    refine w.aloadN d6_3 rfl rfl ?_
    refine w.callV (argsL := []) (rest := [(.int (own_k x0))]) 1 d6_4 (tw hw 38 rfl) (tw hw 39 rfl) (tw hw 41 rfl) (tw hw 40 rfl) (tw hw 15 rfl) (tw hw 42 rfl) (by decide) Ea (rmLen2 l Z a0 hw hr sa x0 x1 h0 w.old hA) (lenOf pd_17 rfl) rfl rfl (Nat.le_refl _) ⟨by decide, by decide, by decide, by decide⟩ all0 ?_
    intro T h6 r w _ hQ
    obtain ⟨rfl, rfl⟩ := hQ
    show Go x _ Z _ _ _ T 7 #[.val (.ref sa), .val (.ref sb), .val (.int (own_k x0)), .val (.int x0), .val (.int x0)] [(.int (own_k x0 + own_k x1)), (.int (own_k x0))]
    refine w.icmpGe d6_7 d6_7t (fun q => absurd (by rcases own_kc x0 with ex0 | ex0 <;> rcases own_kc x1 with ex1 | ex1 <;> simp only [ex0, ex1] <;> decide) q) (fun _ => ?_)
    refine w.iloadN d6_10 rfl ?_
    refine w.aloadN d6_11 rfl rfl ?_
    refine w.callV (argsL := []) (rest := [(.int (own_k x0))]) 1 d6_12 (tw hw 38 rfl) (tw hw 39 rfl) (tw hw 41 rfl) (tw hw 40 rfl) (tw hw 15 rfl) (tw hw 42 rfl) (by decide) Eb (rmLen1 l Z a0 hw hr sb x0 h0 w.old hB) (lenOf pd_17 rfl) rfl rfl (Nat.le_refl _) ⟨by decide, by decide, by decide, by decide⟩ all0 ?_
    intro T h7 r w _ hQ
    obtain ⟨rfl, rfl⟩ := hQ
    show Go x _ Z _ _ _ T 15 #[.val (.ref sa), .val (.ref sb), .val (.int (own_k x0)), .val (.int x0), .val (.int x0)] [(.int (own_k x0)), (.int (own_k x0))]
    refine w.icmpGe d6_15 d6_15t (fun _ => ?_) (fun q => absurd q (by rcases own_kc x0 with ex0 | ex0 <;> simp only [ex0] <;> decide))
    refine w.aloadN d6_54 rfl rfl ?_
    refine w.callV (argsL := []) (rest := []) 0 d6_55 (tw hw 38 rfl) (tw hw 39 rfl) (tw hw 41 rfl) (tw hw 40 rfl) (tw hw 15 rfl) (tw hw 42 rfl) (by decide) Ea (rmLen2 l Z a0 hw hr sa x0 x1 h0 w.old hA) (lenOf pd_17 rfl) rfl rfl (Nat.le_refl _) ⟨by decide, by decide, by decide, by decide⟩ all0 ?_
    intro T h8 r w _ hQ
    obtain ⟨rfl, rfl⟩ := hQ
    show Go x _ Z _ _ _ T 58 #[.val (.ref sa), .val (.ref sb), .val (.int (own_k x0)), .val (.int x0), .val (.int x0)] [(.int (own_k x0 + own_k x1))]
    refine w.aloadN d6_58 rfl rfl ?_
    refine w.callV (argsL := []) (rest := [(.int (own_k x0 + own_k x1))]) 1 d6_59 (tw hw 38 rfl) (tw hw 39 rfl) (tw hw 41 rfl) (tw hw 40 rfl) (tw hw 15 rfl) (tw hw 42 rfl) (by decide) Eb (rmLen1 l Z a0 hw hr sb x0 h0 w.old hB) (lenOf pd_17 rfl) rfl rfl (Nat.le_refl _) ⟨by decide, by decide, by decide, by decide⟩ all0 ?_
    intro T h9 r w _ hQ
    obtain ⟨rfl, rfl⟩ := hQ
    show Go x _ Z _ _ _ T 62 #[.val (.ref sa), .val (.ref sb), .val (.int (own_k x0)), .val (.int x0), .val (.int x0)] [(.int (own_k x0)), (.int (own_k x0 + own_k x1))]
    refine w.callS (argsL := [(.int (own_k x0 + own_k x1)), (.int (own_k x0))]) (rest := []) 0 d6_62 (tw hw 49 rfl) (tw hw 50 rfl) (tw hw 51 rfl) (tw hw 52 rfl) (by decide) (rmIc l Z a0 hw (own_k x0 + own_k x1) (own_k x0) h0 w.old) (lenOf pd_18 rfl) rfl rfl (Nat.le_refl _) ⟨by decide, by decide, by decide, by decide⟩ all0 ?_
    intro T h10 r w _ hQ
    obtain ⟨rfl, rfl⟩ := hQ
    show Go x _ Z _ _ _ T 65 #[.val (.ref sa), .val (.ref sb), .val (.int (own_k x0)), .val (.int x0), .val (.int x0)] [(.int (if (own_k x0 + own_k x1) < (own_k x0) then -1 else if (own_k x0 + own_k x1) = (own_k x0) then 0 else 1))]
    exact w.retI d6_65 rfl ⟨congrArg (fun z => some (Value.int z)) (Eq.trans (b := (1 : Int32)) (by rcases own_kc x0 with ex0 | ex0 <;> rcases own_kc x1 with ex1 | ex1 <;> simp only [ex0, ex1] <;> decide) (if_pos rfl).symm), rfl⟩
  · refine w.iloadN d6_37 rfl ?_
    refine w.iload d6_38 rfl ?_
    refine w.callS (argsL := [(.int x0), (.int y0)]) (rest := []) 0 d6_40 (tw hw 49 rfl) (tw hw 50 rfl) (tw hw 51 rfl) (tw hw 52 rfl) (by decide) (rmIc l Z a0 hw x0 y0 h0 w.old) (lenOf pd_18 rfl) rfl rfl (Nat.le_refl _) ⟨by decide, by decide, by decide, by decide⟩ all0 ?_
    intro T h11 r w _ hQ
    obtain ⟨rfl, rfl⟩ := hQ
    show Go x _ Z _ _ _ T 43 #[.val (.ref sa), .val (.ref sb), .val (.int (0 : Int32)), .val (.int x0), .val (.int y0)] [(.int (if x0 < y0 then -1 else if x0 = y0 then 0 else 1))]
    exact w.retI d6_43 rfl ⟨by rw [own_c1 q0, if_neg q0], rfl⟩

set_option maxRecDepth 65536 in
set_option maxHeartbeats 40000000 in
theorem rmCmp_2_2 (l : Launch) (Z : State) (a0 : Array Value) (hw : ∀ d ∈ tables_1, d.before a0 Z = true) (hr : rest_1_c.value a0 Z none Z [] = some true) (sa sb : Addr) (x0 x1 y0 y1 : Int32) (h0 : Heap) (hE : Ext Z.heap h0) (hA : SP2 Z h0 sa x0 x1) (hB : SP2 Z h0 sb y0 y1) (Vx0 : own_V x0) (Vx1 : own_V x1) (Vy0 : own_V y0) (Vy1 : own_V y1) :
    Ct true l Z consts_1 (⟨"com/example/fintan/fintan/Utf8Order", "compare", "(Ljava/lang/String;Ljava/lang/String;)I"⟩ : MethodName) prog_25_method_2_code 5 (some .int) [] ({ frames := 4, cells := 0, slots := 0, locals := 59 } : Room) [] #[(.ref sa), (.ref sb)] h0 (fun r w => r = some (.int (if x0 = y0 then (if x1 = y1 then 0 else if x1 < y1 then -1 else 1) else if x0 < y0 then -1 else (1 : Int32))) ∧ h0 = w) := by
  refine Ct.intro pn_com_example_fintan_fintan_Utf8Order hE (fun m => efCmp m sa sb) nosf ⟨a0, own_EW hw⟩ ?_
  intro x T w
  have Ea := hA.exa
  have Eb := hB.exa
  refine w.iconst (0 : Int32) d6_0 rfl ?_
  refine w.istoreN #[.val (.ref sa), .val (.ref sb), .val (.int (0 : Int32)), .unset, .unset] d6_1 rfl ?_
  refine w.iloadN d6_2 rfl ?_
  refine w.aloadN d6_3 rfl rfl ?_
  refine w.callV (argsL := []) (rest := [(.int (0 : Int32))]) 1 d6_4 (tw hw 38 rfl) (tw hw 39 rfl) (tw hw 41 rfl) (tw hw 40 rfl) (tw hw 15 rfl) (tw hw 42 rfl) (by decide) Ea (rmLen2 l Z a0 hw hr sa x0 x1 h0 w.old hA) (lenOf pd_17 rfl) rfl rfl (Nat.le_refl _) ⟨by decide, by decide, by decide, by decide⟩ all0 ?_
  intro T h1 r w _ hQ
  obtain ⟨rfl, rfl⟩ := hQ
  show Go x _ Z _ _ _ T 7 #[.val (.ref sa), .val (.ref sb), .val (.int (0 : Int32)), .unset, .unset] [(.int (own_k x0 + own_k x1)), (.int (0 : Int32))]
  refine w.icmpGe d6_7 d6_7t (fun q => absurd (by rcases own_kc x0 with ex0 | ex0 <;> rcases own_kc x1 with ex1 | ex1 <;> simp only [ex0, ex1] <;> decide) q) (fun _ => ?_)
  refine w.iloadN d6_10 rfl ?_
  refine w.aloadN d6_11 rfl rfl ?_
  refine w.callV (argsL := []) (rest := [(.int (0 : Int32))]) 1 d6_12 (tw hw 38 rfl) (tw hw 39 rfl) (tw hw 41 rfl) (tw hw 40 rfl) (tw hw 15 rfl) (tw hw 42 rfl) (by decide) Eb (rmLen2 l Z a0 hw hr sb y0 y1 h0 w.old hB) (lenOf pd_17 rfl) rfl rfl (Nat.le_refl _) ⟨by decide, by decide, by decide, by decide⟩ all0 ?_
  intro T h2 r w _ hQ
  obtain ⟨rfl, rfl⟩ := hQ
  show Go x _ Z _ _ _ T 15 #[.val (.ref sa), .val (.ref sb), .val (.int (0 : Int32)), .unset, .unset] [(.int (own_k y0 + own_k y1)), (.int (0 : Int32))]
  refine w.icmpGe d6_15 d6_15t (fun q => absurd (by rcases own_kc y0 with ey0 | ey0 <;> rcases own_kc y1 with ey1 | ey1 <;> simp only [ey0, ey1] <;> decide) q) (fun _ => ?_)
  refine w.aloadN d6_18 rfl rfl ?_
  refine w.iloadN d6_19 rfl ?_
  refine w.callV (argsL := [(.int (0 : Int32))]) (rest := []) 0 d6_20 (tw hw 86 rfl) (tw hw 87 rfl) (tw hw 89 rfl) (tw hw 88 rfl) (tw hw 15 rfl) (tw hw 90 rfl) (by decide) Ea (rmA2_0 l Z a0 hw hr sa x0 x1 h0 w.old hA Vx0 Vx1) (lenOf pd_5 rfl) rfl rfl (Nat.le_refl _) ⟨by decide, by decide, by decide, by decide⟩ all0 ?_
  intro T h3 r w _ hQ
  obtain ⟨rfl, rfl⟩ := hQ
  show Go x _ Z _ _ _ T 23 #[.val (.ref sa), .val (.ref sb), .val (.int (0 : Int32)), .unset, .unset] [(.int x0)]
  refine w.istoreN #[.val (.ref sa), .val (.ref sb), .val (.int (0 : Int32)), .val (.int x0), .unset] d6_23 rfl ?_
  refine w.aloadN d6_24 rfl rfl ?_
  refine w.iloadN d6_25 rfl ?_
  refine w.callV (argsL := [(.int (0 : Int32))]) (rest := []) 0 d6_26 (tw hw 86 rfl) (tw hw 87 rfl) (tw hw 89 rfl) (tw hw 88 rfl) (tw hw 15 rfl) (tw hw 90 rfl) (by decide) Eb (rmA2_0 l Z a0 hw hr sb y0 y1 h0 w.old hB Vy0 Vy1) (lenOf pd_5 rfl) rfl rfl (Nat.le_refl _) ⟨by decide, by decide, by decide, by decide⟩ all0 ?_
  intro T h4 r w _ hQ
  obtain ⟨rfl, rfl⟩ := hQ
  show Go x _ Z _ _ _ T 29 #[.val (.ref sa), .val (.ref sb), .val (.int (0 : Int32)), .val (.int x0), .unset] [(.int y0)]
  refine w.istore #[.val (.ref sa), .val (.ref sb), .val (.int (0 : Int32)), .val (.int x0), .val (.int y0)] d6_29 rfl ?_
  refine w.iloadN d6_31 rfl ?_
  refine w.iload d6_32 rfl ?_
  refine w.icmpEq d6_34 d6_34t (fun q0 => ?_) (fun q0 => ?_)
  · subst q0
    refine w.iloadN d6_44 rfl ?_
    refine w.iloadN d6_45 rfl ?_
    refine w.callS (argsL := [(.int x0)]) (rest := [(.int (0 : Int32))]) 1 d6_46 (tw hw 117 rfl) (tw hw 118 rfl) (tw hw 112 rfl) (tw hw 119 rfl) (by decide) (rmCnt l Z a0 hw x0 h0 w.old) (lenOf pd_5 rfl) rfl rfl (Nat.le_refl _) ⟨by decide, by decide, by decide, by decide⟩ all0 ?_
    intro T h5 r w _ hQ
    obtain ⟨rfl, rfl⟩ := hQ
    show Go x _ Z _ _ _ T 49 #[.val (.ref sa), .val (.ref sb), .val (.int (0 : Int32)), .val (.int x0), .val (.int x0)] [(.int (own_k x0)), (.int (0 : Int32))]
    refine w.iadd d6_49 ?_
    rw [Int32.zero_add]
    show Go x _ Z _ _ _ T 50 #[.val (.ref sa), .val (.ref sb), .val (.int (0 : Int32)), .val (.int x0), .val (.int x0)] [(.int (own_k x0))]
    refine w.istoreN #[.val (.ref sa), .val (.ref sb), .val (.int (own_k x0)), .val (.int x0), .val (.int x0)] d6_50 rfl ?_
    refine w.goto d6_51 d6_51t ?_
    refine w.iloadN d6_2 rfl ?_
    refine w.aloadN d6_3 rfl rfl ?_
    refine w.callV (argsL := []) (rest := [(.int (own_k x0))]) 1 d6_4 (tw hw 38 rfl) (tw hw 39 rfl) (tw hw 41 rfl) (tw hw 40 rfl) (tw hw 15 rfl) (tw hw 42 rfl) (by decide) Ea (rmLen2 l Z a0 hw hr sa x0 x1 h0 w.old hA) (lenOf pd_17 rfl) rfl rfl (Nat.le_refl _) ⟨by decide, by decide, by decide, by decide⟩ all0 ?_
    intro T h6 r w _ hQ
    obtain ⟨rfl, rfl⟩ := hQ
    show Go x _ Z _ _ _ T 7 #[.val (.ref sa), .val (.ref sb), .val (.int (own_k x0)), .val (.int x0), .val (.int x0)] [(.int (own_k x0 + own_k x1)), (.int (own_k x0))]
    refine w.icmpGe d6_7 d6_7t (fun q => absurd (by rcases own_kc x0 with ex0 | ex0 <;> rcases own_kc x1 with ex1 | ex1 <;> simp only [ex0, ex1] <;> decide) q) (fun _ => ?_)
    refine w.iloadN d6_10 rfl ?_
    refine w.aloadN d6_11 rfl rfl ?_
    refine w.callV (argsL := []) (rest := [(.int (own_k x0))]) 1 d6_12 (tw hw 38 rfl) (tw hw 39 rfl) (tw hw 41 rfl) (tw hw 40 rfl) (tw hw 15 rfl) (tw hw 42 rfl) (by decide) Eb (rmLen2 l Z a0 hw hr sb x0 y1 h0 w.old hB) (lenOf pd_17 rfl) rfl rfl (Nat.le_refl _) ⟨by decide, by decide, by decide, by decide⟩ all0 ?_
    intro T h7 r w _ hQ
    obtain ⟨rfl, rfl⟩ := hQ
    show Go x _ Z _ _ _ T 15 #[.val (.ref sa), .val (.ref sb), .val (.int (own_k x0)), .val (.int x0), .val (.int x0)] [(.int (own_k x0 + own_k y1)), (.int (own_k x0))]
    refine w.icmpGe d6_15 d6_15t (fun q => absurd (by rcases own_kc x0 with ex0 | ex0 <;> rcases own_kc y1 with ey1 | ey1 <;> simp only [ex0, ey1] <;> decide) q) (fun _ => ?_)
    refine w.aloadN d6_18 rfl rfl ?_
    refine w.iloadN d6_19 rfl ?_
    refine w.callV (argsL := [(.int (own_k x0))]) (rest := []) 0 d6_20 (tw hw 86 rfl) (tw hw 87 rfl) (tw hw 89 rfl) (tw hw 88 rfl) (tw hw 15 rfl) (tw hw 90 rfl) (by decide) Ea (rmA2_1 l Z a0 hw hr sa x0 x1 h0 w.old hA Vx0 Vx1) (lenOf pd_5 rfl) rfl rfl (Nat.le_refl _) ⟨by decide, by decide, by decide, by decide⟩ all0 ?_
    intro T h8 r w _ hQ
    obtain ⟨rfl, rfl⟩ := hQ
    show Go x _ Z _ _ _ T 23 #[.val (.ref sa), .val (.ref sb), .val (.int (own_k x0)), .val (.int x0), .val (.int x0)] [(.int x1)]
    refine w.istoreN #[.val (.ref sa), .val (.ref sb), .val (.int (own_k x0)), .val (.int x1), .val (.int x0)] d6_23 rfl ?_
    refine w.aloadN d6_24 rfl rfl ?_
    refine w.iloadN d6_25 rfl ?_
    refine w.callV (argsL := [(.int (own_k x0))]) (rest := []) 0 d6_26 (tw hw 86 rfl) (tw hw 87 rfl) (tw hw 89 rfl) (tw hw 88 rfl) (tw hw 15 rfl) (tw hw 90 rfl) (by decide) Eb (rmA2_1 l Z a0 hw hr sb x0 y1 h0 w.old hB Vy0 Vy1) (lenOf pd_5 rfl) rfl rfl (Nat.le_refl _) ⟨by decide, by decide, by decide, by decide⟩ all0 ?_
    intro T h9 r w _ hQ
    obtain ⟨rfl, rfl⟩ := hQ
    show Go x _ Z _ _ _ T 29 #[.val (.ref sa), .val (.ref sb), .val (.int (own_k x0)), .val (.int x1), .val (.int x0)] [(.int y1)]
    refine w.istore #[.val (.ref sa), .val (.ref sb), .val (.int (own_k x0)), .val (.int x1), .val (.int y1)] d6_29 rfl ?_
    refine w.iloadN d6_31 rfl ?_
    refine w.iload d6_32 rfl ?_
    refine w.icmpEq d6_34 d6_34t (fun q1 => ?_) (fun q1 => ?_)
    · subst q1
      refine w.iloadN d6_44 rfl ?_
      refine w.iloadN d6_45 rfl ?_
      refine w.callS (argsL := [(.int x1)]) (rest := [(.int (own_k x0))]) 1 d6_46 (tw hw 117 rfl) (tw hw 118 rfl) (tw hw 112 rfl) (tw hw 119 rfl) (by decide) (rmCnt l Z a0 hw x1 h0 w.old) (lenOf pd_5 rfl) rfl rfl (Nat.le_refl _) ⟨by decide, by decide, by decide, by decide⟩ all0 ?_
      intro T h10 r w _ hQ
      obtain ⟨rfl, rfl⟩ := hQ
      show Go x _ Z _ _ _ T 49 #[.val (.ref sa), .val (.ref sb), .val (.int (own_k x0)), .val (.int x1), .val (.int x1)] [(.int (own_k x1)), (.int (own_k x0))]
      refine w.iadd d6_49 ?_
      refine w.istoreN #[.val (.ref sa), .val (.ref sb), .val (.int ((own_k x0) + (own_k x1))), .val (.int x1), .val (.int x1)] d6_50 rfl ?_
      refine w.goto d6_51 d6_51t ?_
      refine w.iloadN d6_2 rfl ?_
      refine w.aloadN d6_3 rfl rfl ?_
      refine w.callV (argsL := []) (rest := [(.int ((own_k x0) + (own_k x1)))]) 1 d6_4 (tw hw 38 rfl) (tw hw 39 rfl) (tw hw 41 rfl) (tw hw 40 rfl) (tw hw 15 rfl) (tw hw 42 rfl) (by decide) Ea (rmLen2 l Z a0 hw hr sa x0 x1 h0 w.old hA) (lenOf pd_17 rfl) rfl rfl (Nat.le_refl _) ⟨by decide, by decide, by decide, by decide⟩ all0 ?_
      intro T h11 r w _ hQ
      obtain ⟨rfl, rfl⟩ := hQ
      show Go x _ Z _ _ _ T 7 #[.val (.ref sa), .val (.ref sb), .val (.int ((own_k x0) + (own_k x1))), .val (.int x1), .val (.int x1)] [(.int (own_k x0 + own_k x1)), (.int ((own_k x0) + (own_k x1)))]
      refine w.icmpGe d6_7 d6_7t (fun _ => ?_) (fun q => absurd q (by rcases own_kc x0 with ex0 | ex0 <;> rcases own_kc x1 with ex1 | ex1 <;> simp only [ex0, ex1] <;> decide))
      refine w.aloadN d6_54 rfl rfl ?_
      refine w.callV (argsL := []) (rest := []) 0 d6_55 (tw hw 38 rfl) (tw hw 39 rfl) (tw hw 41 rfl) (tw hw 40 rfl) (tw hw 15 rfl) (tw hw 42 rfl) (by decide) Ea (rmLen2 l Z a0 hw hr sa x0 x1 h0 w.old hA) (lenOf pd_17 rfl) rfl rfl (Nat.le_refl _) ⟨by decide, by decide, by decide, by decide⟩ all0 ?_
      intro T h12 r w _ hQ
      obtain ⟨rfl, rfl⟩ := hQ
      show Go x _ Z _ _ _ T 58 #[.val (.ref sa), .val (.ref sb), .val (.int ((own_k x0) + (own_k x1))), .val (.int x1), .val (.int x1)] [(.int (own_k x0 + own_k x1))]
      refine w.aloadN d6_58 rfl rfl ?_
      refine w.callV (argsL := []) (rest := [(.int (own_k x0 + own_k x1))]) 1 d6_59 (tw hw 38 rfl) (tw hw 39 rfl) (tw hw 41 rfl) (tw hw 40 rfl) (tw hw 15 rfl) (tw hw 42 rfl) (by decide) Eb (rmLen2 l Z a0 hw hr sb x0 x1 h0 w.old hB) (lenOf pd_17 rfl) rfl rfl (Nat.le_refl _) ⟨by decide, by decide, by decide, by decide⟩ all0 ?_
      intro T h13 r w _ hQ
      obtain ⟨rfl, rfl⟩ := hQ
      show Go x _ Z _ _ _ T 62 #[.val (.ref sa), .val (.ref sb), .val (.int ((own_k x0) + (own_k x1))), .val (.int x1), .val (.int x1)] [(.int (own_k x0 + own_k x1)), (.int (own_k x0 + own_k x1))]
      refine w.callS (argsL := [(.int (own_k x0 + own_k x1)), (.int (own_k x0 + own_k x1))]) (rest := []) 0 d6_62 (tw hw 49 rfl) (tw hw 50 rfl) (tw hw 51 rfl) (tw hw 52 rfl) (by decide) (rmIc l Z a0 hw (own_k x0 + own_k x1) (own_k x0 + own_k x1) h0 w.old) (lenOf pd_18 rfl) rfl rfl (Nat.le_refl _) ⟨by decide, by decide, by decide, by decide⟩ all0 ?_
      intro T h14 r w _ hQ
      obtain ⟨rfl, rfl⟩ := hQ
      show Go x _ Z _ _ _ T 65 #[.val (.ref sa), .val (.ref sb), .val (.int ((own_k x0) + (own_k x1))), .val (.int x1), .val (.int x1)] [(.int (if (own_k x0 + own_k x1) < (own_k x0 + own_k x1) then -1 else if (own_k x0 + own_k x1) = (own_k x0 + own_k x1) then 0 else 1))]
      exact w.retI d6_65 rfl ⟨congrArg (fun z => some (Value.int z)) (Eq.trans (b := (0 : Int32)) (by rcases own_kc x0 with ex0 | ex0 <;> rcases own_kc x1 with ex1 | ex1 <;> simp only [ex0, ex1] <;> decide) ((if_pos rfl).trans (if_pos rfl)).symm), rfl⟩
    · refine w.iloadN d6_37 rfl ?_
      refine w.iload d6_38 rfl ?_
      refine w.callS (argsL := [(.int x1), (.int y1)]) (rest := []) 0 d6_40 (tw hw 49 rfl) (tw hw 50 rfl) (tw hw 51 rfl) (tw hw 52 rfl) (by decide) (rmIc l Z a0 hw x1 y1 h0 w.old) (lenOf pd_18 rfl) rfl rfl (Nat.le_refl _) ⟨by decide, by decide, by decide, by decide⟩ all0 ?_
      intro T h15 r w _ hQ
      obtain ⟨rfl, rfl⟩ := hQ
      show Go x _ Z _ _ _ T 43 #[.val (.ref sa), .val (.ref sb), .val (.int (own_k x0)), .val (.int x1), .val (.int y1)] [(.int (if x1 < y1 then -1 else if x1 = y1 then 0 else 1))]
      exact w.retI d6_43 rfl ⟨by rw [own_c1 q1, if_pos rfl, if_neg q1], rfl⟩
  · refine w.iloadN d6_37 rfl ?_
    refine w.iload d6_38 rfl ?_
    refine w.callS (argsL := [(.int x0), (.int y0)]) (rest := []) 0 d6_40 (tw hw 49 rfl) (tw hw 50 rfl) (tw hw 51 rfl) (tw hw 52 rfl) (by decide) (rmIc l Z a0 hw x0 y0 h0 w.old) (lenOf pd_18 rfl) rfl rfl (Nat.le_refl _) ⟨by decide, by decide, by decide, by decide⟩ all0 ?_
    intro T h16 r w _ hQ
    obtain ⟨rfl, rfl⟩ := hQ
    show Go x _ Z _ _ _ T 43 #[.val (.ref sa), .val (.ref sb), .val (.int (0 : Int32)), .val (.int x0), .val (.int y0)] [(.int (if x0 < y0 then -1 else if x0 = y0 then 0 else 1))]
    exact w.retI d6_43 rfl ⟨by rw [own_c1 q0, if_neg q0], rfl⟩

set_option maxRecDepth 65536 in
set_option maxHeartbeats 40000000 in
theorem p52 (l : Launch) (Z : State) (a0 : Array Value) (hw : ∀ d ∈ tables_1, d.before a0 Z = true) (hr : rest_1_c.value a0 Z none Z [] = some true) (i0 i1 i2 i3 i4 x0 x1 y0 y1 : Int32) (Vx0 : own_V x0) (Vx1 : own_V x1) (Vy0 : own_V y0) (Vy1 : own_V y1) (h0 : Heap) (cx : Cx) (T : State) (w : W cx true l Z consts_1 room_1 (MethodName.cls x) code maxLocals ret (MethodName.name x) T h0 (0) (0) []) :
    Go cx true Z consts_1 room_1 (fun v _ => v = some (.int 1)) T 52 #[.val (.int i0), .val (.int i1), .val (.int i2), .val (.int i3), .val (.int i4), .val (.int x0), .val (.int x1), .val (.int y0), .val (.int y1), .unset, .unset, .unset, .unset, .unset, .unset, .unset, .unset, .unset, .unset, .unset] [] := by
  refine w.iload d0_52 rfl ?_
  refine w.iconst (3 : Int32) d0_54 rfl ?_
  refine w.iand d0_55 ?_
  refine w.iconst (3 : Int32) d0_56 rfl ?_
  refine w.irem d0_57 (by decide) ?_
  refine w.istore #[.val (.int i0), .val (.int i1), .val (.int i2), .val (.int i3), .val (.int i4), .val (.int x0), .val (.int x1), .val (.int y0), .val (.int y1), .val (.int ((i4 &&& (3 : Int32)) % (3 : Int32))), .unset, .unset, .unset, .unset, .unset, .unset, .unset, .unset, .unset, .unset] d0_58 rfl ?_
  refine w.iload d0_60 rfl ?_
  refine w.iconst (2 : Int32) d0_62 rfl ?_
  refine w.iushr d0_63 ?_
  refine w.iconst (3 : Int32) d0_64 rfl ?_
  refine w.iand d0_65 ?_
  refine w.iconst (3 : Int32) d0_66 rfl ?_
  refine w.irem d0_67 (by decide) ?_
  refine w.istore #[.val (.int i0), .val (.int i1), .val (.int i2), .val (.int i3), .val (.int i4), .val (.int x0), .val (.int x1), .val (.int y0), .val (.int y1), .val (.int ((i4 &&& (3 : Int32)) % (3 : Int32))), .val (.int (((XT.ushr i4 (2 : Int32)) &&& (3 : Int32)) % (3 : Int32))), .unset, .unset, .unset, .unset, .unset, .unset, .unset, .unset, .unset] d0_68 rfl ?_
  have ea := own_m3 i4
  have eb := own_m3 (XT.ushr i4 (2 : Int32))
  generalize ((i4 &&& (3 : Int32)) % (3 : Int32)) = ka at ea ⊢
  generalize (((XT.ushr i4 (2 : Int32)) &&& (3 : Int32)) % (3 : Int32)) = kb at eb ⊢
  rcases ea with rfl | rfl | rfl <;> rcases eb with rfl | rfl | rfl
  · skip
    refine w.iconst (4 : Int32) d0_70 rfl ?_
    have sz0 := w.size
    refine w.newP 4 "[C" d0_71 (tw hw 9 rfl) (by decide) (by decide) (by decide) (by decide) ⟨by decide, by decide⟩ ?_
    intro ua T h1 kua g_ua w E_ua A_ua X_ua
    have ge_ua : Z.heap.size ≤ ua := by rw [g_ua]; exact sz0
    refine w.astore #[.val (.int i0), .val (.int i1), .val (.int i2), .val (.int i3), .val (.int i4), .val (.int x0), .val (.int x1), .val (.int y0), .val (.int y1), .val (.int (0 : Int32)), .val (.int (0 : Int32)), .val (.ref ua), .unset, .unset, .unset, .unset, .unset, .unset, .unset, .unset] d0_73 rfl rfl ?_
    refine w.iconst (4 : Int32) d0_75 rfl ?_
    have sz0 := w.size
    refine w.newP 4 "[C" d0_76 (tw hw 9 rfl) (by decide) (by decide) (by decide) (by decide) ⟨by decide, by decide⟩ ?_
    intro ub T h2 kub g_ub w E_ub A_ub X_ub
    have ge_ub : Z.heap.size ≤ ub := by rw [g_ub]; exact sz0
    have Ua : UP0 Z h2 ua kua 0 := ⟨rfl, A_ua.ext E_ub⟩
    have Ub : UP0 Z h2 ub kub 0 := ⟨rfl, A_ub⟩
    have nab : ua ≠ ub := Nat.ne_of_lt (Nat.lt_of_lt_of_eq A_ua.lt g_ub.symm)
    refine w.astore #[.val (.int i0), .val (.int i1), .val (.int i2), .val (.int i3), .val (.int i4), .val (.int x0), .val (.int x1), .val (.int y0), .val (.int y1), .val (.int (0 : Int32)), .val (.int (0 : Int32)), .val (.ref ua), .val (.ref ub), .unset, .unset, .unset, .unset, .unset, .unset, .unset] d0_78 rfl rfl ?_
    refine w.iconst (0 : Int32) d0_80 rfl ?_
    refine w.istore #[.val (.int i0), .val (.int i1), .val (.int i2), .val (.int i3), .val (.int i4), .val (.int x0), .val (.int x1), .val (.int y0), .val (.int y1), .val (.int (0 : Int32)), .val (.int (0 : Int32)), .val (.ref ua), .val (.ref ub), .val (.int (0 : Int32)), .unset, .unset, .unset, .unset, .unset, .unset] d0_81 rfl ?_
    refine w.iload d0_83 rfl ?_
    refine w.ifLe d0_85 d0_85t (fun _ => ?_) (fun q => absurd q (by decide))
    refine w.iload d0_99 rfl ?_
    refine w.iconst (1 : Int32) d0_101 rfl ?_
    refine w.icmpLe d0_102 d0_102t (fun _ => ?_) (fun q => absurd q (by decide))
    refine w.iconst (0 : Int32) d0_116 rfl ?_
    refine w.istore #[.val (.int i0), .val (.int i1), .val (.int i2), .val (.int i3), .val (.int i4), .val (.int x0), .val (.int x1), .val (.int y0), .val (.int y1), .val (.int (0 : Int32)), .val (.int (0 : Int32)), .val (.ref ua), .val (.ref ub), .val (.int (0 : Int32)), .val (.int (0 : Int32)), .unset, .unset, .unset, .unset, .unset] d0_117 rfl ?_
    refine w.iload d0_119 rfl ?_
    refine w.ifLe d0_121 d0_121t (fun _ => ?_) (fun q => absurd q (by decide))
    refine w.iload d0_135 rfl ?_
    refine w.iconst (1 : Int32) d0_137 rfl ?_
    refine w.icmpLe d0_138 d0_138t (fun _ => ?_) (fun q => absurd q (by decide))
    refine w.aload d0_152 rfl rfl ?_
    refine w.iload d0_154 rfl ?_
    refine w.callS (argsL := [(.ref ua), (.int (0 : Int32))]) (rest := []) 0 d0_156 (tw hw 10 rfl) (tw hw 11 rfl) (tw hw 2 rfl) (tw hw 12 rfl) (by decide) (rmStr0 l Z a0 hw hr ua kua (0 : Int32)  h2 w.old Ua ) (lenOf pd_19 rfl) rfl rfl (Nat.le_refl _) ⟨by decide, by decide, by decide, by decide⟩ all0 ?_
    intro T h3 r w _ hQ
    obtain ⟨sa, rfl, Es_sa, Sa⟩ := hQ
    have Ub := Ub.ext Es_sa
    show Go cx _ Z _ _ _ T 159 #[.val (.int i0), .val (.int i1), .val (.int i2), .val (.int i3), .val (.int i4), .val (.int x0), .val (.int x1), .val (.int y0), .val (.int y1), .val (.int (0 : Int32)), .val (.int (0 : Int32)), .val (.ref ua), .val (.ref ub), .val (.int (0 : Int32)), .val (.int (0 : Int32)), .unset, .unset, .unset, .unset, .unset] [(.ref sa)]
    refine w.astore #[.val (.int i0), .val (.int i1), .val (.int i2), .val (.int i3), .val (.int i4), .val (.int x0), .val (.int x1), .val (.int y0), .val (.int y1), .val (.int (0 : Int32)), .val (.int (0 : Int32)), .val (.ref ua), .val (.ref ub), .val (.int (0 : Int32)), .val (.int (0 : Int32)), .val (.ref sa), .unset, .unset, .unset, .unset] d0_159 rfl rfl ?_
    refine w.aload d0_161 rfl rfl ?_
    refine w.iload d0_163 rfl ?_
    refine w.callS (argsL := [(.ref ub), (.int (0 : Int32))]) (rest := []) 0 d0_165 (tw hw 10 rfl) (tw hw 11 rfl) (tw hw 2 rfl) (tw hw 12 rfl) (by decide) (rmStr0 l Z a0 hw hr ub kub (0 : Int32)  h3 w.old Ub ) (lenOf pd_19 rfl) rfl rfl (Nat.le_refl _) ⟨by decide, by decide, by decide, by decide⟩ all0 ?_
    intro T h4 r w _ hQ
    obtain ⟨sb, rfl, Es_sb, Sb⟩ := hQ
    have Sa := Sa.ext Es_sb
    show Go cx _ Z _ _ _ T 168 #[.val (.int i0), .val (.int i1), .val (.int i2), .val (.int i3), .val (.int i4), .val (.int x0), .val (.int x1), .val (.int y0), .val (.int y1), .val (.int (0 : Int32)), .val (.int (0 : Int32)), .val (.ref ua), .val (.ref ub), .val (.int (0 : Int32)), .val (.int (0 : Int32)), .val (.ref sa), .unset, .unset, .unset, .unset] [(.ref sb)]
    refine w.astore #[.val (.int i0), .val (.int i1), .val (.int i2), .val (.int i3), .val (.int i4), .val (.int x0), .val (.int x1), .val (.int y0), .val (.int y1), .val (.int (0 : Int32)), .val (.int (0 : Int32)), .val (.ref ua), .val (.ref ub), .val (.int (0 : Int32)), .val (.int (0 : Int32)), .val (.ref sa), .val (.ref sb), .unset, .unset, .unset] d0_168 rfl rfl ?_
    refine w.iload d0_170 rfl ?_
    refine w.ifLe d0_172 d0_172t (fun _ => ?_) (fun q => absurd q (by decide))
    refine w.iload d0_204 rfl ?_
    refine w.iconst (1 : Int32) d0_206 rfl ?_
    refine w.icmpLe d0_207 d0_207t (fun _ => ?_) (fun q => absurd q (by decide))
    refine w.iload d0_240 rfl ?_
    refine w.iload d0_242 rfl ?_
    refine w.icmpGe d0_244 d0_244t (fun _ => ?_) (fun q => absurd q (by decide))
    refine w.iload d0_251 rfl ?_
    refine w.iload d0_253 rfl ?_
    refine w.icmpLe d0_255 d0_255t (fun _ => ?_) (fun q => absurd q (by decide))
    refine w.iconst (0 : Int32) d0_262 rfl ?_
    refine w.istore #[.val (.int i0), .val (.int i1), .val (.int i2), .val (.int i3), .val (.int i4), .val (.int x0), .val (.int x1), .val (.int y0), .val (.int y1), .val (.int (0 : Int32)), .val (.int (0 : Int32)), .val (.ref ua), .val (.ref ub), .val (.int (0 : Int32)), .val (.int (0 : Int32)), .val (.ref sa), .val (.ref sb), .val (.int (0 : Int32)), .unset, .unset] d0_263 rfl ?_
    refine w.aload d0_265 rfl rfl ?_
    refine w.aload d0_267 rfl rfl ?_
    refine w.callS (argsL := [(.ref sa), (.ref sb)]) (rest := []) 0 d0_269 (tw hw 34 rfl) (tw hw 35 rfl) (tw hw 36 rfl) (tw hw 37 rfl) (by decide) (Ct.mono (Q' := fun r u => r = some (.int (0 : Int32)) ∧ h4 = u) (rmCmp_0_0 l Z a0 hw hr sa sb  h4 w.old Sa Sb ) (fun v u q => ⟨q.1.trans (congrArg (fun z => some (Value.int z)) rfl), q.2⟩)) (lenOf pd_20 rfl) rfl rfl (Nat.le_refl _) ⟨by decide, by decide, by decide, by decide⟩ all0 ?_
    intro T h5 r w _ hQ
    obtain ⟨rfl, rfl⟩ := hQ
    show Go cx _ Z _ _ _ T 272 #[.val (.int i0), .val (.int i1), .val (.int i2), .val (.int i3), .val (.int i4), .val (.int x0), .val (.int x1), .val (.int y0), .val (.int y1), .val (.int (0 : Int32)), .val (.int (0 : Int32)), .val (.ref ua), .val (.ref ub), .val (.int (0 : Int32)), .val (.int (0 : Int32)), .val (.ref sa), .val (.ref sb), .val (.int (0 : Int32)), .unset, .unset] [(.int (0 : Int32))]
    refine w.istore #[.val (.int i0), .val (.int i1), .val (.int i2), .val (.int i3), .val (.int i4), .val (.int x0), .val (.int x1), .val (.int y0), .val (.int y1), .val (.int (0 : Int32)), .val (.int (0 : Int32)), .val (.ref ua), .val (.ref ub), .val (.int (0 : Int32)), .val (.int (0 : Int32)), .val (.ref sa), .val (.ref sb), .val (.int (0 : Int32)), .val (.int (0 : Int32)), .unset] d0_272 rfl ?_
    refine w.iload d0_274 rfl ?_
    refine w.ifGe d0_276 d0_276t (fun _ => ?_) (fun q => absurd q (by decide))
    refine w.iload d0_283 rfl ?_
    refine w.ifLe d0_285 d0_285t (fun _ => ?_) (fun q => absurd q (by decide))
    refine w.iconst (0 : Int32) d0_292 rfl ?_
    refine w.istore #[.val (.int i0), .val (.int i1), .val (.int i2), .val (.int i3), .val (.int i4), .val (.int x0), .val (.int x1), .val (.int y0), .val (.int y1), .val (.int (0 : Int32)), .val (.int (0 : Int32)), .val (.ref ua), .val (.ref ub), .val (.int (0 : Int32)), .val (.int (0 : Int32)), .val (.ref sa), .val (.ref sb), .val (.int (0 : Int32)), .val (.int (0 : Int32)), .val (.int (0 : Int32))] d0_293 rfl ?_
    refine w.iload d0_295 rfl ?_
    refine w.iload d0_297 rfl ?_
    refine w.icmpNe d0_299 d0_299t (fun q => absurd rfl q) (fun _ => ?_)
    refine w.iconst (1 : Int32) d0_302 rfl ?_
    refine w.goto d0_303 d0_303t ?_
    exact w.retN d0_307 rfl (by simp) rfl
  · skip
    refine w.iconst (4 : Int32) d0_70 rfl ?_
    have sz0 := w.size
    refine w.newP 4 "[C" d0_71 (tw hw 9 rfl) (by decide) (by decide) (by decide) (by decide) ⟨by decide, by decide⟩ ?_
    intro ua T h6 kua g_ua w E_ua A_ua X_ua
    have ge_ua : Z.heap.size ≤ ua := by rw [g_ua]; exact sz0
    refine w.astore #[.val (.int i0), .val (.int i1), .val (.int i2), .val (.int i3), .val (.int i4), .val (.int x0), .val (.int x1), .val (.int y0), .val (.int y1), .val (.int (0 : Int32)), .val (.int (1 : Int32)), .val (.ref ua), .unset, .unset, .unset, .unset, .unset, .unset, .unset, .unset] d0_73 rfl rfl ?_
    refine w.iconst (4 : Int32) d0_75 rfl ?_
    have sz0 := w.size
    refine w.newP 4 "[C" d0_76 (tw hw 9 rfl) (by decide) (by decide) (by decide) (by decide) ⟨by decide, by decide⟩ ?_
    intro ub T h7 kub g_ub w E_ub A_ub X_ub
    have ge_ub : Z.heap.size ≤ ub := by rw [g_ub]; exact sz0
    have Ua : UP0 Z h7 ua kua 0 := ⟨rfl, A_ua.ext E_ub⟩
    have Ub : UP0 Z h7 ub kub 0 := ⟨rfl, A_ub⟩
    have nab : ua ≠ ub := Nat.ne_of_lt (Nat.lt_of_lt_of_eq A_ua.lt g_ub.symm)
    refine w.astore #[.val (.int i0), .val (.int i1), .val (.int i2), .val (.int i3), .val (.int i4), .val (.int x0), .val (.int x1), .val (.int y0), .val (.int y1), .val (.int (0 : Int32)), .val (.int (1 : Int32)), .val (.ref ua), .val (.ref ub), .unset, .unset, .unset, .unset, .unset, .unset, .unset] d0_78 rfl rfl ?_
    refine w.iconst (0 : Int32) d0_80 rfl ?_
    refine w.istore #[.val (.int i0), .val (.int i1), .val (.int i2), .val (.int i3), .val (.int i4), .val (.int x0), .val (.int x1), .val (.int y0), .val (.int y1), .val (.int (0 : Int32)), .val (.int (1 : Int32)), .val (.ref ua), .val (.ref ub), .val (.int (0 : Int32)), .unset, .unset, .unset, .unset, .unset, .unset] d0_81 rfl ?_
    refine w.iload d0_83 rfl ?_
    refine w.ifLe d0_85 d0_85t (fun _ => ?_) (fun q => absurd q (by decide))
    refine w.iload d0_99 rfl ?_
    refine w.iconst (1 : Int32) d0_101 rfl ?_
    refine w.icmpLe d0_102 d0_102t (fun _ => ?_) (fun q => absurd q (by decide))
    refine w.iconst (0 : Int32) d0_116 rfl ?_
    refine w.istore #[.val (.int i0), .val (.int i1), .val (.int i2), .val (.int i3), .val (.int i4), .val (.int x0), .val (.int x1), .val (.int y0), .val (.int y1), .val (.int (0 : Int32)), .val (.int (1 : Int32)), .val (.ref ua), .val (.ref ub), .val (.int (0 : Int32)), .val (.int (0 : Int32)), .unset, .unset, .unset, .unset, .unset] d0_117 rfl ?_
    refine w.iload d0_119 rfl ?_
    refine w.ifLe d0_121 d0_121t (fun q => absurd (by decide) q) (fun _ => ?_)
    refine w.aload d0_124 rfl rfl ?_
    refine w.iload d0_126 rfl ?_
    refine w.iload d0_128 rfl ?_
    refine w.callS (argsL := [(.ref ub), (.int (0 : Int32)), (.int y0)]) (rest := []) 0 d0_130 (tw hw 53 rfl) (tw hw 54 rfl) (tw hw 2 rfl) (tw hw 55 rfl) (by decide) (rmPut1 l Z a0 hw ub kub (0 : Int32) y0 h7 w.old ge_ub Ub Vy0) (lenOf pd_21 rfl) rfl rfl (Nat.le_refl _) ⟨by decide, by decide, by decide, by decide⟩ (allS (List.mem_of_getElem? (i := 0) rfl) all0) ?_
    intro T h8 r w _ hQ
    obtain ⟨nub0, rfl, Kub0, Ub⟩ := hQ
    have Ua := Ua.keep Kub0 (ninS nab nin0)
    show Go cx _ Z _ _ _ T 133 #[.val (.int i0), .val (.int i1), .val (.int i2), .val (.int i3), .val (.int i4), .val (.int x0), .val (.int x1), .val (.int y0), .val (.int y1), .val (.int (0 : Int32)), .val (.int (1 : Int32)), .val (.ref ua), .val (.ref ub), .val (.int (0 : Int32)), .val (.int (0 : Int32)), .unset, .unset, .unset, .unset, .unset] [(.int nub0)]
    refine w.istore #[.val (.int i0), .val (.int i1), .val (.int i2), .val (.int i3), .val (.int i4), .val (.int x0), .val (.int x1), .val (.int y0), .val (.int y1), .val (.int (0 : Int32)), .val (.int (1 : Int32)), .val (.ref ua), .val (.ref ub), .val (.int (0 : Int32)), .val (.int nub0), .unset, .unset, .unset, .unset, .unset] d0_133 rfl ?_
    refine w.iload d0_135 rfl ?_
    refine w.iconst (1 : Int32) d0_137 rfl ?_
    refine w.icmpLe d0_138 d0_138t (fun _ => ?_) (fun q => absurd q (by decide))
    refine w.aload d0_152 rfl rfl ?_
    refine w.iload d0_154 rfl ?_
    refine w.callS (argsL := [(.ref ua), (.int (0 : Int32))]) (rest := []) 0 d0_156 (tw hw 10 rfl) (tw hw 11 rfl) (tw hw 2 rfl) (tw hw 12 rfl) (by decide) (rmStr0 l Z a0 hw hr ua kua (0 : Int32)  h8 w.old Ua ) (lenOf pd_19 rfl) rfl rfl (Nat.le_refl _) ⟨by decide, by decide, by decide, by decide⟩ all0 ?_
    intro T h9 r w _ hQ
    obtain ⟨sa, rfl, Es_sa, Sa⟩ := hQ
    have Ub := Ub.ext Es_sa
    show Go cx _ Z _ _ _ T 159 #[.val (.int i0), .val (.int i1), .val (.int i2), .val (.int i3), .val (.int i4), .val (.int x0), .val (.int x1), .val (.int y0), .val (.int y1), .val (.int (0 : Int32)), .val (.int (1 : Int32)), .val (.ref ua), .val (.ref ub), .val (.int (0 : Int32)), .val (.int nub0), .unset, .unset, .unset, .unset, .unset] [(.ref sa)]
    refine w.astore #[.val (.int i0), .val (.int i1), .val (.int i2), .val (.int i3), .val (.int i4), .val (.int x0), .val (.int x1), .val (.int y0), .val (.int y1), .val (.int (0 : Int32)), .val (.int (1 : Int32)), .val (.ref ua), .val (.ref ub), .val (.int (0 : Int32)), .val (.int nub0), .val (.ref sa), .unset, .unset, .unset, .unset] d0_159 rfl rfl ?_
    refine w.aload d0_161 rfl rfl ?_
    refine w.iload d0_163 rfl ?_
    refine w.callS (argsL := [(.ref ub), (.int nub0)]) (rest := []) 0 d0_165 (tw hw 10 rfl) (tw hw 11 rfl) (tw hw 2 rfl) (tw hw 12 rfl) (by decide) (rmStr1 l Z a0 hw hr ub kub nub0 y0 h9 w.old Ub Vy0) (lenOf pd_19 rfl) rfl rfl (Nat.le_refl _) ⟨by decide, by decide, by decide, by decide⟩ all0 ?_
    intro T h10 r w _ hQ
    obtain ⟨sb, rfl, Es_sb, Sb⟩ := hQ
    have Sa := Sa.ext Es_sb
    show Go cx _ Z _ _ _ T 168 #[.val (.int i0), .val (.int i1), .val (.int i2), .val (.int i3), .val (.int i4), .val (.int x0), .val (.int x1), .val (.int y0), .val (.int y1), .val (.int (0 : Int32)), .val (.int (1 : Int32)), .val (.ref ua), .val (.ref ub), .val (.int (0 : Int32)), .val (.int nub0), .val (.ref sa), .unset, .unset, .unset, .unset] [(.ref sb)]
    refine w.astore #[.val (.int i0), .val (.int i1), .val (.int i2), .val (.int i3), .val (.int i4), .val (.int x0), .val (.int x1), .val (.int y0), .val (.int y1), .val (.int (0 : Int32)), .val (.int (1 : Int32)), .val (.ref ua), .val (.ref ub), .val (.int (0 : Int32)), .val (.int nub0), .val (.ref sa), .val (.ref sb), .unset, .unset, .unset] d0_168 rfl rfl ?_
    refine w.iload d0_170 rfl ?_
    refine w.ifLe d0_172 d0_172t (fun _ => ?_) (fun q => absurd q (by decide))
    refine w.iload d0_204 rfl ?_
    refine w.iconst (1 : Int32) d0_206 rfl ?_
    refine w.icmpLe d0_207 d0_207t (fun _ => ?_) (fun q => absurd q (by decide))
    refine w.iload d0_240 rfl ?_
    refine w.iload d0_242 rfl ?_
    refine w.icmpGe d0_244 d0_244t (fun q => absurd (by decide) q) (fun _ => ?_)
    refine w.iconst (-1 : Int32) d0_247 rfl ?_
    refine w.goto d0_248 d0_248t ?_
    refine w.istore #[.val (.int i0), .val (.int i1), .val (.int i2), .val (.int i3), .val (.int i4), .val (.int x0), .val (.int x1), .val (.int y0), .val (.int y1), .val (.int (0 : Int32)), .val (.int (1 : Int32)), .val (.ref ua), .val (.ref ub), .val (.int (0 : Int32)), .val (.int nub0), .val (.ref sa), .val (.ref sb), .val (.int (-1 : Int32)), .unset, .unset] d0_263 rfl ?_
    refine w.aload d0_265 rfl rfl ?_
    refine w.aload d0_267 rfl rfl ?_
    refine w.callS (argsL := [(.ref sa), (.ref sb)]) (rest := []) 0 d0_269 (tw hw 34 rfl) (tw hw 35 rfl) (tw hw 36 rfl) (tw hw 37 rfl) (by decide) (Ct.mono (Q' := fun r u => r = some (.int (-1 : Int32)) ∧ h10 = u) (rmCmp_0_1 l Z a0 hw hr sa sb y0 h10 w.old Sa Sb Vy0) (fun v u q => ⟨q.1.trans (congrArg (fun z => some (Value.int z)) rfl), q.2⟩)) (lenOf pd_20 rfl) rfl rfl (Nat.le_refl _) ⟨by decide, by decide, by decide, by decide⟩ all0 ?_
    intro T h11 r w _ hQ
    obtain ⟨rfl, rfl⟩ := hQ
    show Go cx _ Z _ _ _ T 272 #[.val (.int i0), .val (.int i1), .val (.int i2), .val (.int i3), .val (.int i4), .val (.int x0), .val (.int x1), .val (.int y0), .val (.int y1), .val (.int (0 : Int32)), .val (.int (1 : Int32)), .val (.ref ua), .val (.ref ub), .val (.int (0 : Int32)), .val (.int nub0), .val (.ref sa), .val (.ref sb), .val (.int (-1 : Int32)), .unset, .unset] [(.int (-1 : Int32))]
    refine w.istore #[.val (.int i0), .val (.int i1), .val (.int i2), .val (.int i3), .val (.int i4), .val (.int x0), .val (.int x1), .val (.int y0), .val (.int y1), .val (.int (0 : Int32)), .val (.int (1 : Int32)), .val (.ref ua), .val (.ref ub), .val (.int (0 : Int32)), .val (.int nub0), .val (.ref sa), .val (.ref sb), .val (.int (-1 : Int32)), .val (.int (-1 : Int32)), .unset] d0_272 rfl ?_
    refine w.iload d0_274 rfl ?_
    refine w.ifGe d0_276 d0_276t (fun q => absurd (by decide) q) (fun _ => ?_)
    refine w.iconst (-1 : Int32) d0_279 rfl ?_
    refine w.goto d0_280 d0_280t ?_
    refine w.istore #[.val (.int i0), .val (.int i1), .val (.int i2), .val (.int i3), .val (.int i4), .val (.int x0), .val (.int x1), .val (.int y0), .val (.int y1), .val (.int (0 : Int32)), .val (.int (1 : Int32)), .val (.ref ua), .val (.ref ub), .val (.int (0 : Int32)), .val (.int nub0), .val (.ref sa), .val (.ref sb), .val (.int (-1 : Int32)), .val (.int (-1 : Int32)), .val (.int (-1 : Int32))] d0_293 rfl ?_
    refine w.iload d0_295 rfl ?_
    refine w.iload d0_297 rfl ?_
    refine w.icmpNe d0_299 d0_299t (fun q => absurd rfl q) (fun _ => ?_)
    refine w.iconst (1 : Int32) d0_302 rfl ?_
    refine w.goto d0_303 d0_303t ?_
    exact w.retN d0_307 rfl (by simp) rfl
  · skip
    refine w.iconst (4 : Int32) d0_70 rfl ?_
    have sz0 := w.size
    refine w.newP 4 "[C" d0_71 (tw hw 9 rfl) (by decide) (by decide) (by decide) (by decide) ⟨by decide, by decide⟩ ?_
    intro ua T h12 kua g_ua w E_ua A_ua X_ua
    have ge_ua : Z.heap.size ≤ ua := by rw [g_ua]; exact sz0
    refine w.astore #[.val (.int i0), .val (.int i1), .val (.int i2), .val (.int i3), .val (.int i4), .val (.int x0), .val (.int x1), .val (.int y0), .val (.int y1), .val (.int (0 : Int32)), .val (.int (2 : Int32)), .val (.ref ua), .unset, .unset, .unset, .unset, .unset, .unset, .unset, .unset] d0_73 rfl rfl ?_
    refine w.iconst (4 : Int32) d0_75 rfl ?_
    have sz0 := w.size
    refine w.newP 4 "[C" d0_76 (tw hw 9 rfl) (by decide) (by decide) (by decide) (by decide) ⟨by decide, by decide⟩ ?_
    intro ub T h13 kub g_ub w E_ub A_ub X_ub
    have ge_ub : Z.heap.size ≤ ub := by rw [g_ub]; exact sz0
    have Ua : UP0 Z h13 ua kua 0 := ⟨rfl, A_ua.ext E_ub⟩
    have Ub : UP0 Z h13 ub kub 0 := ⟨rfl, A_ub⟩
    have nab : ua ≠ ub := Nat.ne_of_lt (Nat.lt_of_lt_of_eq A_ua.lt g_ub.symm)
    refine w.astore #[.val (.int i0), .val (.int i1), .val (.int i2), .val (.int i3), .val (.int i4), .val (.int x0), .val (.int x1), .val (.int y0), .val (.int y1), .val (.int (0 : Int32)), .val (.int (2 : Int32)), .val (.ref ua), .val (.ref ub), .unset, .unset, .unset, .unset, .unset, .unset, .unset] d0_78 rfl rfl ?_
    refine w.iconst (0 : Int32) d0_80 rfl ?_
    refine w.istore #[.val (.int i0), .val (.int i1), .val (.int i2), .val (.int i3), .val (.int i4), .val (.int x0), .val (.int x1), .val (.int y0), .val (.int y1), .val (.int (0 : Int32)), .val (.int (2 : Int32)), .val (.ref ua), .val (.ref ub), .val (.int (0 : Int32)), .unset, .unset, .unset, .unset, .unset, .unset] d0_81 rfl ?_
    refine w.iload d0_83 rfl ?_
    refine w.ifLe d0_85 d0_85t (fun _ => ?_) (fun q => absurd q (by decide))
    refine w.iload d0_99 rfl ?_
    refine w.iconst (1 : Int32) d0_101 rfl ?_
    refine w.icmpLe d0_102 d0_102t (fun _ => ?_) (fun q => absurd q (by decide))
    refine w.iconst (0 : Int32) d0_116 rfl ?_
    refine w.istore #[.val (.int i0), .val (.int i1), .val (.int i2), .val (.int i3), .val (.int i4), .val (.int x0), .val (.int x1), .val (.int y0), .val (.int y1), .val (.int (0 : Int32)), .val (.int (2 : Int32)), .val (.ref ua), .val (.ref ub), .val (.int (0 : Int32)), .val (.int (0 : Int32)), .unset, .unset, .unset, .unset, .unset] d0_117 rfl ?_
    refine w.iload d0_119 rfl ?_
    refine w.ifLe d0_121 d0_121t (fun q => absurd (by decide) q) (fun _ => ?_)
    refine w.aload d0_124 rfl rfl ?_
    refine w.iload d0_126 rfl ?_
    refine w.iload d0_128 rfl ?_
    refine w.callS (argsL := [(.ref ub), (.int (0 : Int32)), (.int y0)]) (rest := []) 0 d0_130 (tw hw 53 rfl) (tw hw 54 rfl) (tw hw 2 rfl) (tw hw 55 rfl) (by decide) (rmPut1 l Z a0 hw ub kub (0 : Int32) y0 h13 w.old ge_ub Ub Vy0) (lenOf pd_21 rfl) rfl rfl (Nat.le_refl _) ⟨by decide, by decide, by decide, by decide⟩ (allS (List.mem_of_getElem? (i := 0) rfl) all0) ?_
    intro T h14 r w _ hQ
    obtain ⟨nub0, rfl, Kub0, Ub⟩ := hQ
    have Ua := Ua.keep Kub0 (ninS nab nin0)
    show Go cx _ Z _ _ _ T 133 #[.val (.int i0), .val (.int i1), .val (.int i2), .val (.int i3), .val (.int i4), .val (.int x0), .val (.int x1), .val (.int y0), .val (.int y1), .val (.int (0 : Int32)), .val (.int (2 : Int32)), .val (.ref ua), .val (.ref ub), .val (.int (0 : Int32)), .val (.int (0 : Int32)), .unset, .unset, .unset, .unset, .unset] [(.int nub0)]
    refine w.istore #[.val (.int i0), .val (.int i1), .val (.int i2), .val (.int i3), .val (.int i4), .val (.int x0), .val (.int x1), .val (.int y0), .val (.int y1), .val (.int (0 : Int32)), .val (.int (2 : Int32)), .val (.ref ua), .val (.ref ub), .val (.int (0 : Int32)), .val (.int nub0), .unset, .unset, .unset, .unset, .unset] d0_133 rfl ?_
    refine w.iload d0_135 rfl ?_
    refine w.iconst (1 : Int32) d0_137 rfl ?_
    refine w.icmpLe d0_138 d0_138t (fun q => absurd (by decide) q) (fun _ => ?_)
    refine w.aload d0_141 rfl rfl ?_
    refine w.iload d0_143 rfl ?_
    refine w.iload d0_145 rfl ?_
    refine w.callS (argsL := [(.ref ub), (.int nub0), (.int y1)]) (rest := []) 0 d0_147 (tw hw 53 rfl) (tw hw 54 rfl) (tw hw 2 rfl) (tw hw 55 rfl) (by decide) (rmPut2 l Z a0 hw ub kub nub0 y0 y1 h14 w.old ge_ub Ub Vy1) (lenOf pd_21 rfl) rfl rfl (Nat.le_refl _) ⟨by decide, by decide, by decide, by decide⟩ (allS (List.mem_of_getElem? (i := 0) rfl) all0) ?_
    intro T h15 r w _ hQ
    obtain ⟨nub1, rfl, Kub1, Ub⟩ := hQ
    have Ua := Ua.keep Kub1 (ninS nab nin0)
    show Go cx _ Z _ _ _ T 150 #[.val (.int i0), .val (.int i1), .val (.int i2), .val (.int i3), .val (.int i4), .val (.int x0), .val (.int x1), .val (.int y0), .val (.int y1), .val (.int (0 : Int32)), .val (.int (2 : Int32)), .val (.ref ua), .val (.ref ub), .val (.int (0 : Int32)), .val (.int nub0), .unset, .unset, .unset, .unset, .unset] [(.int nub1)]
    refine w.istore #[.val (.int i0), .val (.int i1), .val (.int i2), .val (.int i3), .val (.int i4), .val (.int x0), .val (.int x1), .val (.int y0), .val (.int y1), .val (.int (0 : Int32)), .val (.int (2 : Int32)), .val (.ref ua), .val (.ref ub), .val (.int (0 : Int32)), .val (.int nub1), .unset, .unset, .unset, .unset, .unset] d0_150 rfl ?_
    refine w.aload d0_152 rfl rfl ?_
    refine w.iload d0_154 rfl ?_
    refine w.callS (argsL := [(.ref ua), (.int (0 : Int32))]) (rest := []) 0 d0_156 (tw hw 10 rfl) (tw hw 11 rfl) (tw hw 2 rfl) (tw hw 12 rfl) (by decide) (rmStr0 l Z a0 hw hr ua kua (0 : Int32)  h15 w.old Ua ) (lenOf pd_19 rfl) rfl rfl (Nat.le_refl _) ⟨by decide, by decide, by decide, by decide⟩ all0 ?_
    intro T h16 r w _ hQ
    obtain ⟨sa, rfl, Es_sa, Sa⟩ := hQ
    have Ub := Ub.ext Es_sa
    show Go cx _ Z _ _ _ T 159 #[.val (.int i0), .val (.int i1), .val (.int i2), .val (.int i3), .val (.int i4), .val (.int x0), .val (.int x1), .val (.int y0), .val (.int y1), .val (.int (0 : Int32)), .val (.int (2 : Int32)), .val (.ref ua), .val (.ref ub), .val (.int (0 : Int32)), .val (.int nub1), .unset, .unset, .unset, .unset, .unset] [(.ref sa)]
    refine w.astore #[.val (.int i0), .val (.int i1), .val (.int i2), .val (.int i3), .val (.int i4), .val (.int x0), .val (.int x1), .val (.int y0), .val (.int y1), .val (.int (0 : Int32)), .val (.int (2 : Int32)), .val (.ref ua), .val (.ref ub), .val (.int (0 : Int32)), .val (.int nub1), .val (.ref sa), .unset, .unset, .unset, .unset] d0_159 rfl rfl ?_
    refine w.aload d0_161 rfl rfl ?_
    refine w.iload d0_163 rfl ?_
    refine w.callS (argsL := [(.ref ub), (.int nub1)]) (rest := []) 0 d0_165 (tw hw 10 rfl) (tw hw 11 rfl) (tw hw 2 rfl) (tw hw 12 rfl) (by decide) (rmStr2 l Z a0 hw hr ub kub nub1 y0 y1 h16 w.old Ub Vy0 Vy1) (lenOf pd_19 rfl) rfl rfl (Nat.le_refl _) ⟨by decide, by decide, by decide, by decide⟩ all0 ?_
    intro T h17 r w _ hQ
    obtain ⟨sb, rfl, Es_sb, Sb⟩ := hQ
    have Sa := Sa.ext Es_sb
    show Go cx _ Z _ _ _ T 168 #[.val (.int i0), .val (.int i1), .val (.int i2), .val (.int i3), .val (.int i4), .val (.int x0), .val (.int x1), .val (.int y0), .val (.int y1), .val (.int (0 : Int32)), .val (.int (2 : Int32)), .val (.ref ua), .val (.ref ub), .val (.int (0 : Int32)), .val (.int nub1), .val (.ref sa), .unset, .unset, .unset, .unset] [(.ref sb)]
    refine w.astore #[.val (.int i0), .val (.int i1), .val (.int i2), .val (.int i3), .val (.int i4), .val (.int x0), .val (.int x1), .val (.int y0), .val (.int y1), .val (.int (0 : Int32)), .val (.int (2 : Int32)), .val (.ref ua), .val (.ref ub), .val (.int (0 : Int32)), .val (.int nub1), .val (.ref sa), .val (.ref sb), .unset, .unset, .unset] d0_168 rfl rfl ?_
    refine w.iload d0_170 rfl ?_
    refine w.ifLe d0_172 d0_172t (fun _ => ?_) (fun q => absurd q (by decide))
    refine w.iload d0_204 rfl ?_
    refine w.iconst (1 : Int32) d0_206 rfl ?_
    refine w.icmpLe d0_207 d0_207t (fun _ => ?_) (fun q => absurd q (by decide))
    refine w.iload d0_240 rfl ?_
    refine w.iload d0_242 rfl ?_
    refine w.icmpGe d0_244 d0_244t (fun q => absurd (by decide) q) (fun _ => ?_)
    refine w.iconst (-1 : Int32) d0_247 rfl ?_
    refine w.goto d0_248 d0_248t ?_
    refine w.istore #[.val (.int i0), .val (.int i1), .val (.int i2), .val (.int i3), .val (.int i4), .val (.int x0), .val (.int x1), .val (.int y0), .val (.int y1), .val (.int (0 : Int32)), .val (.int (2 : Int32)), .val (.ref ua), .val (.ref ub), .val (.int (0 : Int32)), .val (.int nub1), .val (.ref sa), .val (.ref sb), .val (.int (-1 : Int32)), .unset, .unset] d0_263 rfl ?_
    refine w.aload d0_265 rfl rfl ?_
    refine w.aload d0_267 rfl rfl ?_
    refine w.callS (argsL := [(.ref sa), (.ref sb)]) (rest := []) 0 d0_269 (tw hw 34 rfl) (tw hw 35 rfl) (tw hw 36 rfl) (tw hw 37 rfl) (by decide) (Ct.mono (Q' := fun r u => r = some (.int (-1 : Int32)) ∧ h17 = u) (rmCmp_0_2 l Z a0 hw hr sa sb y0 y1 h17 w.old Sa Sb Vy0 Vy1) (fun v u q => ⟨q.1.trans (congrArg (fun z => some (Value.int z)) rfl), q.2⟩)) (lenOf pd_20 rfl) rfl rfl (Nat.le_refl _) ⟨by decide, by decide, by decide, by decide⟩ all0 ?_
    intro T h18 r w _ hQ
    obtain ⟨rfl, rfl⟩ := hQ
    show Go cx _ Z _ _ _ T 272 #[.val (.int i0), .val (.int i1), .val (.int i2), .val (.int i3), .val (.int i4), .val (.int x0), .val (.int x1), .val (.int y0), .val (.int y1), .val (.int (0 : Int32)), .val (.int (2 : Int32)), .val (.ref ua), .val (.ref ub), .val (.int (0 : Int32)), .val (.int nub1), .val (.ref sa), .val (.ref sb), .val (.int (-1 : Int32)), .unset, .unset] [(.int (-1 : Int32))]
    refine w.istore #[.val (.int i0), .val (.int i1), .val (.int i2), .val (.int i3), .val (.int i4), .val (.int x0), .val (.int x1), .val (.int y0), .val (.int y1), .val (.int (0 : Int32)), .val (.int (2 : Int32)), .val (.ref ua), .val (.ref ub), .val (.int (0 : Int32)), .val (.int nub1), .val (.ref sa), .val (.ref sb), .val (.int (-1 : Int32)), .val (.int (-1 : Int32)), .unset] d0_272 rfl ?_
    refine w.iload d0_274 rfl ?_
    refine w.ifGe d0_276 d0_276t (fun q => absurd (by decide) q) (fun _ => ?_)
    refine w.iconst (-1 : Int32) d0_279 rfl ?_
    refine w.goto d0_280 d0_280t ?_
    refine w.istore #[.val (.int i0), .val (.int i1), .val (.int i2), .val (.int i3), .val (.int i4), .val (.int x0), .val (.int x1), .val (.int y0), .val (.int y1), .val (.int (0 : Int32)), .val (.int (2 : Int32)), .val (.ref ua), .val (.ref ub), .val (.int (0 : Int32)), .val (.int nub1), .val (.ref sa), .val (.ref sb), .val (.int (-1 : Int32)), .val (.int (-1 : Int32)), .val (.int (-1 : Int32))] d0_293 rfl ?_
    refine w.iload d0_295 rfl ?_
    refine w.iload d0_297 rfl ?_
    refine w.icmpNe d0_299 d0_299t (fun q => absurd rfl q) (fun _ => ?_)
    refine w.iconst (1 : Int32) d0_302 rfl ?_
    refine w.goto d0_303 d0_303t ?_
    exact w.retN d0_307 rfl (by simp) rfl
  · skip
    refine w.iconst (4 : Int32) d0_70 rfl ?_
    have sz0 := w.size
    refine w.newP 4 "[C" d0_71 (tw hw 9 rfl) (by decide) (by decide) (by decide) (by decide) ⟨by decide, by decide⟩ ?_
    intro ua T h19 kua g_ua w E_ua A_ua X_ua
    have ge_ua : Z.heap.size ≤ ua := by rw [g_ua]; exact sz0
    refine w.astore #[.val (.int i0), .val (.int i1), .val (.int i2), .val (.int i3), .val (.int i4), .val (.int x0), .val (.int x1), .val (.int y0), .val (.int y1), .val (.int (1 : Int32)), .val (.int (0 : Int32)), .val (.ref ua), .unset, .unset, .unset, .unset, .unset, .unset, .unset, .unset] d0_73 rfl rfl ?_
    refine w.iconst (4 : Int32) d0_75 rfl ?_
    have sz0 := w.size
    refine w.newP 4 "[C" d0_76 (tw hw 9 rfl) (by decide) (by decide) (by decide) (by decide) ⟨by decide, by decide⟩ ?_
    intro ub T h20 kub g_ub w E_ub A_ub X_ub
    have ge_ub : Z.heap.size ≤ ub := by rw [g_ub]; exact sz0
    have Ua : UP0 Z h20 ua kua 0 := ⟨rfl, A_ua.ext E_ub⟩
    have Ub : UP0 Z h20 ub kub 0 := ⟨rfl, A_ub⟩
    have nab : ua ≠ ub := Nat.ne_of_lt (Nat.lt_of_lt_of_eq A_ua.lt g_ub.symm)
    refine w.astore #[.val (.int i0), .val (.int i1), .val (.int i2), .val (.int i3), .val (.int i4), .val (.int x0), .val (.int x1), .val (.int y0), .val (.int y1), .val (.int (1 : Int32)), .val (.int (0 : Int32)), .val (.ref ua), .val (.ref ub), .unset, .unset, .unset, .unset, .unset, .unset, .unset] d0_78 rfl rfl ?_
    refine w.iconst (0 : Int32) d0_80 rfl ?_
    refine w.istore #[.val (.int i0), .val (.int i1), .val (.int i2), .val (.int i3), .val (.int i4), .val (.int x0), .val (.int x1), .val (.int y0), .val (.int y1), .val (.int (1 : Int32)), .val (.int (0 : Int32)), .val (.ref ua), .val (.ref ub), .val (.int (0 : Int32)), .unset, .unset, .unset, .unset, .unset, .unset] d0_81 rfl ?_
    refine w.iload d0_83 rfl ?_
    refine w.ifLe d0_85 d0_85t (fun q => absurd (by decide) q) (fun _ => ?_)
    refine w.aload d0_88 rfl rfl ?_
    refine w.iload d0_90 rfl ?_
    refine w.iload d0_92 rfl ?_
    refine w.callS (argsL := [(.ref ua), (.int (0 : Int32)), (.int x0)]) (rest := []) 0 d0_94 (tw hw 53 rfl) (tw hw 54 rfl) (tw hw 2 rfl) (tw hw 55 rfl) (by decide) (rmPut1 l Z a0 hw ua kua (0 : Int32) x0 h20 w.old ge_ua Ua Vx0) (lenOf pd_21 rfl) rfl rfl (Nat.le_refl _) ⟨by decide, by decide, by decide, by decide⟩ (allS (List.mem_of_getElem? (i := 1) rfl) all0) ?_
    intro T h21 r w _ hQ
    obtain ⟨nua0, rfl, Kua0, Ua⟩ := hQ
    have Ub := Ub.keep Kua0 (ninS (Ne.symm nab) nin0)
    show Go cx _ Z _ _ _ T 97 #[.val (.int i0), .val (.int i1), .val (.int i2), .val (.int i3), .val (.int i4), .val (.int x0), .val (.int x1), .val (.int y0), .val (.int y1), .val (.int (1 : Int32)), .val (.int (0 : Int32)), .val (.ref ua), .val (.ref ub), .val (.int (0 : Int32)), .unset, .unset, .unset, .unset, .unset, .unset] [(.int nua0)]
    refine w.istore #[.val (.int i0), .val (.int i1), .val (.int i2), .val (.int i3), .val (.int i4), .val (.int x0), .val (.int x1), .val (.int y0), .val (.int y1), .val (.int (1 : Int32)), .val (.int (0 : Int32)), .val (.ref ua), .val (.ref ub), .val (.int nua0), .unset, .unset, .unset, .unset, .unset, .unset] d0_97 rfl ?_
    refine w.iload d0_99 rfl ?_
    refine w.iconst (1 : Int32) d0_101 rfl ?_
    refine w.icmpLe d0_102 d0_102t (fun _ => ?_) (fun q => absurd q (by decide))
    refine w.iconst (0 : Int32) d0_116 rfl ?_
    refine w.istore #[.val (.int i0), .val (.int i1), .val (.int i2), .val (.int i3), .val (.int i4), .val (.int x0), .val (.int x1), .val (.int y0), .val (.int y1), .val (.int (1 : Int32)), .val (.int (0 : Int32)), .val (.ref ua), .val (.ref ub), .val (.int nua0), .val (.int (0 : Int32)), .unset, .unset, .unset, .unset, .unset] d0_117 rfl ?_
    refine w.iload d0_119 rfl ?_
    refine w.ifLe d0_121 d0_121t (fun _ => ?_) (fun q => absurd q (by decide))
    refine w.iload d0_135 rfl ?_
    refine w.iconst (1 : Int32) d0_137 rfl ?_
    refine w.icmpLe d0_138 d0_138t (fun _ => ?_) (fun q => absurd q (by decide))
    refine w.aload d0_152 rfl rfl ?_
    refine w.iload d0_154 rfl ?_
    refine w.callS (argsL := [(.ref ua), (.int nua0)]) (rest := []) 0 d0_156 (tw hw 10 rfl) (tw hw 11 rfl) (tw hw 2 rfl) (tw hw 12 rfl) (by decide) (rmStr1 l Z a0 hw hr ua kua nua0 x0 h21 w.old Ua Vx0) (lenOf pd_19 rfl) rfl rfl (Nat.le_refl _) ⟨by decide, by decide, by decide, by decide⟩ all0 ?_
    intro T h22 r w _ hQ
    obtain ⟨sa, rfl, Es_sa, Sa⟩ := hQ
    have Ub := Ub.ext Es_sa
    show Go cx _ Z _ _ _ T 159 #[.val (.int i0), .val (.int i1), .val (.int i2), .val (.int i3), .val (.int i4), .val (.int x0), .val (.int x1), .val (.int y0), .val (.int y1), .val (.int (1 : Int32)), .val (.int (0 : Int32)), .val (.ref ua), .val (.ref ub), .val (.int nua0), .val (.int (0 : Int32)), .unset, .unset, .unset, .unset, .unset] [(.ref sa)]
    refine w.astore #[.val (.int i0), .val (.int i1), .val (.int i2), .val (.int i3), .val (.int i4), .val (.int x0), .val (.int x1), .val (.int y0), .val (.int y1), .val (.int (1 : Int32)), .val (.int (0 : Int32)), .val (.ref ua), .val (.ref ub), .val (.int nua0), .val (.int (0 : Int32)), .val (.ref sa), .unset, .unset, .unset, .unset] d0_159 rfl rfl ?_
    refine w.aload d0_161 rfl rfl ?_
    refine w.iload d0_163 rfl ?_
    refine w.callS (argsL := [(.ref ub), (.int (0 : Int32))]) (rest := []) 0 d0_165 (tw hw 10 rfl) (tw hw 11 rfl) (tw hw 2 rfl) (tw hw 12 rfl) (by decide) (rmStr0 l Z a0 hw hr ub kub (0 : Int32)  h22 w.old Ub ) (lenOf pd_19 rfl) rfl rfl (Nat.le_refl _) ⟨by decide, by decide, by decide, by decide⟩ all0 ?_
    intro T h23 r w _ hQ
    obtain ⟨sb, rfl, Es_sb, Sb⟩ := hQ
    have Sa := Sa.ext Es_sb
    show Go cx _ Z _ _ _ T 168 #[.val (.int i0), .val (.int i1), .val (.int i2), .val (.int i3), .val (.int i4), .val (.int x0), .val (.int x1), .val (.int y0), .val (.int y1), .val (.int (1 : Int32)), .val (.int (0 : Int32)), .val (.ref ua), .val (.ref ub), .val (.int nua0), .val (.int (0 : Int32)), .val (.ref sa), .unset, .unset, .unset, .unset] [(.ref sb)]
    refine w.astore #[.val (.int i0), .val (.int i1), .val (.int i2), .val (.int i3), .val (.int i4), .val (.int x0), .val (.int x1), .val (.int y0), .val (.int y1), .val (.int (1 : Int32)), .val (.int (0 : Int32)), .val (.ref ua), .val (.ref ub), .val (.int nua0), .val (.int (0 : Int32)), .val (.ref sa), .val (.ref sb), .unset, .unset, .unset] d0_168 rfl rfl ?_
    refine w.iload d0_170 rfl ?_
    refine w.ifLe d0_172 d0_172t (fun q => absurd (by decide) q) (fun _ => ?_)
    refine w.iload d0_175 rfl ?_
    refine w.ifLe d0_177 d0_177t (fun _ => ?_) (fun q => absurd q (by decide))
    refine w.iload d0_204 rfl ?_
    refine w.iconst (1 : Int32) d0_206 rfl ?_
    refine w.icmpLe d0_207 d0_207t (fun _ => ?_) (fun q => absurd q (by decide))
    refine w.iload d0_240 rfl ?_
    refine w.iload d0_242 rfl ?_
    refine w.icmpGe d0_244 d0_244t (fun _ => ?_) (fun q => absurd q (by decide))
    refine w.iload d0_251 rfl ?_
    refine w.iload d0_253 rfl ?_
    refine w.icmpLe d0_255 d0_255t (fun q => absurd (by decide) q) (fun _ => ?_)
    refine w.iconst (1 : Int32) d0_258 rfl ?_
    refine w.goto d0_259 d0_259t ?_
    refine w.istore #[.val (.int i0), .val (.int i1), .val (.int i2), .val (.int i3), .val (.int i4), .val (.int x0), .val (.int x1), .val (.int y0), .val (.int y1), .val (.int (1 : Int32)), .val (.int (0 : Int32)), .val (.ref ua), .val (.ref ub), .val (.int nua0), .val (.int (0 : Int32)), .val (.ref sa), .val (.ref sb), .val (.int (1 : Int32)), .unset, .unset] d0_263 rfl ?_
    refine w.aload d0_265 rfl rfl ?_
    refine w.aload d0_267 rfl rfl ?_
    refine w.callS (argsL := [(.ref sa), (.ref sb)]) (rest := []) 0 d0_269 (tw hw 34 rfl) (tw hw 35 rfl) (tw hw 36 rfl) (tw hw 37 rfl) (by decide) (Ct.mono (Q' := fun r u => r = some (.int (1 : Int32)) ∧ h23 = u) (rmCmp_1_0 l Z a0 hw hr sa sb x0 h23 w.old Sa Sb Vx0) (fun v u q => ⟨q.1.trans (congrArg (fun z => some (Value.int z)) rfl), q.2⟩)) (lenOf pd_20 rfl) rfl rfl (Nat.le_refl _) ⟨by decide, by decide, by decide, by decide⟩ all0 ?_
    intro T h24 r w _ hQ
    obtain ⟨rfl, rfl⟩ := hQ
    show Go cx _ Z _ _ _ T 272 #[.val (.int i0), .val (.int i1), .val (.int i2), .val (.int i3), .val (.int i4), .val (.int x0), .val (.int x1), .val (.int y0), .val (.int y1), .val (.int (1 : Int32)), .val (.int (0 : Int32)), .val (.ref ua), .val (.ref ub), .val (.int nua0), .val (.int (0 : Int32)), .val (.ref sa), .val (.ref sb), .val (.int (1 : Int32)), .unset, .unset] [(.int (1 : Int32))]
    refine w.istore #[.val (.int i0), .val (.int i1), .val (.int i2), .val (.int i3), .val (.int i4), .val (.int x0), .val (.int x1), .val (.int y0), .val (.int y1), .val (.int (1 : Int32)), .val (.int (0 : Int32)), .val (.ref ua), .val (.ref ub), .val (.int nua0), .val (.int (0 : Int32)), .val (.ref sa), .val (.ref sb), .val (.int (1 : Int32)), .val (.int (1 : Int32)), .unset] d0_272 rfl ?_
    refine w.iload d0_274 rfl ?_
    refine w.ifGe d0_276 d0_276t (fun _ => ?_) (fun q => absurd q (by decide))
    refine w.iload d0_283 rfl ?_
    refine w.ifLe d0_285 d0_285t (fun q => absurd (by decide) q) (fun _ => ?_)
    refine w.iconst (1 : Int32) d0_288 rfl ?_
    refine w.goto d0_289 d0_289t ?_
    refine w.istore #[.val (.int i0), .val (.int i1), .val (.int i2), .val (.int i3), .val (.int i4), .val (.int x0), .val (.int x1), .val (.int y0), .val (.int y1), .val (.int (1 : Int32)), .val (.int (0 : Int32)), .val (.ref ua), .val (.ref ub), .val (.int nua0), .val (.int (0 : Int32)), .val (.ref sa), .val (.ref sb), .val (.int (1 : Int32)), .val (.int (1 : Int32)), .val (.int (1 : Int32))] d0_293 rfl ?_
    refine w.iload d0_295 rfl ?_
    refine w.iload d0_297 rfl ?_
    refine w.icmpNe d0_299 d0_299t (fun q => absurd rfl q) (fun _ => ?_)
    refine w.iconst (1 : Int32) d0_302 rfl ?_
    refine w.goto d0_303 d0_303t ?_
    exact w.retN d0_307 rfl (by simp) rfl
  · skip
    refine w.iconst (4 : Int32) d0_70 rfl ?_
    have sz0 := w.size
    refine w.newP 4 "[C" d0_71 (tw hw 9 rfl) (by decide) (by decide) (by decide) (by decide) ⟨by decide, by decide⟩ ?_
    intro ua T h25 kua g_ua w E_ua A_ua X_ua
    have ge_ua : Z.heap.size ≤ ua := by rw [g_ua]; exact sz0
    refine w.astore #[.val (.int i0), .val (.int i1), .val (.int i2), .val (.int i3), .val (.int i4), .val (.int x0), .val (.int x1), .val (.int y0), .val (.int y1), .val (.int (1 : Int32)), .val (.int (1 : Int32)), .val (.ref ua), .unset, .unset, .unset, .unset, .unset, .unset, .unset, .unset] d0_73 rfl rfl ?_
    refine w.iconst (4 : Int32) d0_75 rfl ?_
    have sz0 := w.size
    refine w.newP 4 "[C" d0_76 (tw hw 9 rfl) (by decide) (by decide) (by decide) (by decide) ⟨by decide, by decide⟩ ?_
    intro ub T h26 kub g_ub w E_ub A_ub X_ub
    have ge_ub : Z.heap.size ≤ ub := by rw [g_ub]; exact sz0
    have Ua : UP0 Z h26 ua kua 0 := ⟨rfl, A_ua.ext E_ub⟩
    have Ub : UP0 Z h26 ub kub 0 := ⟨rfl, A_ub⟩
    have nab : ua ≠ ub := Nat.ne_of_lt (Nat.lt_of_lt_of_eq A_ua.lt g_ub.symm)
    refine w.astore #[.val (.int i0), .val (.int i1), .val (.int i2), .val (.int i3), .val (.int i4), .val (.int x0), .val (.int x1), .val (.int y0), .val (.int y1), .val (.int (1 : Int32)), .val (.int (1 : Int32)), .val (.ref ua), .val (.ref ub), .unset, .unset, .unset, .unset, .unset, .unset, .unset] d0_78 rfl rfl ?_
    refine w.iconst (0 : Int32) d0_80 rfl ?_
    refine w.istore #[.val (.int i0), .val (.int i1), .val (.int i2), .val (.int i3), .val (.int i4), .val (.int x0), .val (.int x1), .val (.int y0), .val (.int y1), .val (.int (1 : Int32)), .val (.int (1 : Int32)), .val (.ref ua), .val (.ref ub), .val (.int (0 : Int32)), .unset, .unset, .unset, .unset, .unset, .unset] d0_81 rfl ?_
    refine w.iload d0_83 rfl ?_
    refine w.ifLe d0_85 d0_85t (fun q => absurd (by decide) q) (fun _ => ?_)
    refine w.aload d0_88 rfl rfl ?_
    refine w.iload d0_90 rfl ?_
    refine w.iload d0_92 rfl ?_
    refine w.callS (argsL := [(.ref ua), (.int (0 : Int32)), (.int x0)]) (rest := []) 0 d0_94 (tw hw 53 rfl) (tw hw 54 rfl) (tw hw 2 rfl) (tw hw 55 rfl) (by decide) (rmPut1 l Z a0 hw ua kua (0 : Int32) x0 h26 w.old ge_ua Ua Vx0) (lenOf pd_21 rfl) rfl rfl (Nat.le_refl _) ⟨by decide, by decide, by decide, by decide⟩ (allS (List.mem_of_getElem? (i := 1) rfl) all0) ?_
    intro T h27 r w _ hQ
    obtain ⟨nua0, rfl, Kua0, Ua⟩ := hQ
    have Ub := Ub.keep Kua0 (ninS (Ne.symm nab) nin0)
    show Go cx _ Z _ _ _ T 97 #[.val (.int i0), .val (.int i1), .val (.int i2), .val (.int i3), .val (.int i4), .val (.int x0), .val (.int x1), .val (.int y0), .val (.int y1), .val (.int (1 : Int32)), .val (.int (1 : Int32)), .val (.ref ua), .val (.ref ub), .val (.int (0 : Int32)), .unset, .unset, .unset, .unset, .unset, .unset] [(.int nua0)]
    refine w.istore #[.val (.int i0), .val (.int i1), .val (.int i2), .val (.int i3), .val (.int i4), .val (.int x0), .val (.int x1), .val (.int y0), .val (.int y1), .val (.int (1 : Int32)), .val (.int (1 : Int32)), .val (.ref ua), .val (.ref ub), .val (.int nua0), .unset, .unset, .unset, .unset, .unset, .unset] d0_97 rfl ?_
    refine w.iload d0_99 rfl ?_
    refine w.iconst (1 : Int32) d0_101 rfl ?_
    refine w.icmpLe d0_102 d0_102t (fun _ => ?_) (fun q => absurd q (by decide))
    refine w.iconst (0 : Int32) d0_116 rfl ?_
    refine w.istore #[.val (.int i0), .val (.int i1), .val (.int i2), .val (.int i3), .val (.int i4), .val (.int x0), .val (.int x1), .val (.int y0), .val (.int y1), .val (.int (1 : Int32)), .val (.int (1 : Int32)), .val (.ref ua), .val (.ref ub), .val (.int nua0), .val (.int (0 : Int32)), .unset, .unset, .unset, .unset, .unset] d0_117 rfl ?_
    refine w.iload d0_119 rfl ?_
    refine w.ifLe d0_121 d0_121t (fun q => absurd (by decide) q) (fun _ => ?_)
    refine w.aload d0_124 rfl rfl ?_
    refine w.iload d0_126 rfl ?_
    refine w.iload d0_128 rfl ?_
    refine w.callS (argsL := [(.ref ub), (.int (0 : Int32)), (.int y0)]) (rest := []) 0 d0_130 (tw hw 53 rfl) (tw hw 54 rfl) (tw hw 2 rfl) (tw hw 55 rfl) (by decide) (rmPut1 l Z a0 hw ub kub (0 : Int32) y0 h27 w.old ge_ub Ub Vy0) (lenOf pd_21 rfl) rfl rfl (Nat.le_refl _) ⟨by decide, by decide, by decide, by decide⟩ (allS (List.mem_of_getElem? (i := 0) rfl) all0) ?_
    intro T h28 r w _ hQ
    obtain ⟨nub0, rfl, Kub0, Ub⟩ := hQ
    have Ua := Ua.keep Kub0 (ninS nab nin0)
    show Go cx _ Z _ _ _ T 133 #[.val (.int i0), .val (.int i1), .val (.int i2), .val (.int i3), .val (.int i4), .val (.int x0), .val (.int x1), .val (.int y0), .val (.int y1), .val (.int (1 : Int32)), .val (.int (1 : Int32)), .val (.ref ua), .val (.ref ub), .val (.int nua0), .val (.int (0 : Int32)), .unset, .unset, .unset, .unset, .unset] [(.int nub0)]
    refine w.istore #[.val (.int i0), .val (.int i1), .val (.int i2), .val (.int i3), .val (.int i4), .val (.int x0), .val (.int x1), .val (.int y0), .val (.int y1), .val (.int (1 : Int32)), .val (.int (1 : Int32)), .val (.ref ua), .val (.ref ub), .val (.int nua0), .val (.int nub0), .unset, .unset, .unset, .unset, .unset] d0_133 rfl ?_
    refine w.iload d0_135 rfl ?_
    refine w.iconst (1 : Int32) d0_137 rfl ?_
    refine w.icmpLe d0_138 d0_138t (fun _ => ?_) (fun q => absurd q (by decide))
    refine w.aload d0_152 rfl rfl ?_
    refine w.iload d0_154 rfl ?_
    refine w.callS (argsL := [(.ref ua), (.int nua0)]) (rest := []) 0 d0_156 (tw hw 10 rfl) (tw hw 11 rfl) (tw hw 2 rfl) (tw hw 12 rfl) (by decide) (rmStr1 l Z a0 hw hr ua kua nua0 x0 h28 w.old Ua Vx0) (lenOf pd_19 rfl) rfl rfl (Nat.le_refl _) ⟨by decide, by decide, by decide, by decide⟩ all0 ?_
    intro T h29 r w _ hQ
    obtain ⟨sa, rfl, Es_sa, Sa⟩ := hQ
    have Ub := Ub.ext Es_sa
    show Go cx _ Z _ _ _ T 159 #[.val (.int i0), .val (.int i1), .val (.int i2), .val (.int i3), .val (.int i4), .val (.int x0), .val (.int x1), .val (.int y0), .val (.int y1), .val (.int (1 : Int32)), .val (.int (1 : Int32)), .val (.ref ua), .val (.ref ub), .val (.int nua0), .val (.int nub0), .unset, .unset, .unset, .unset, .unset] [(.ref sa)]
    refine w.astore #[.val (.int i0), .val (.int i1), .val (.int i2), .val (.int i3), .val (.int i4), .val (.int x0), .val (.int x1), .val (.int y0), .val (.int y1), .val (.int (1 : Int32)), .val (.int (1 : Int32)), .val (.ref ua), .val (.ref ub), .val (.int nua0), .val (.int nub0), .val (.ref sa), .unset, .unset, .unset, .unset] d0_159 rfl rfl ?_
    refine w.aload d0_161 rfl rfl ?_
    refine w.iload d0_163 rfl ?_
    refine w.callS (argsL := [(.ref ub), (.int nub0)]) (rest := []) 0 d0_165 (tw hw 10 rfl) (tw hw 11 rfl) (tw hw 2 rfl) (tw hw 12 rfl) (by decide) (rmStr1 l Z a0 hw hr ub kub nub0 y0 h29 w.old Ub Vy0) (lenOf pd_19 rfl) rfl rfl (Nat.le_refl _) ⟨by decide, by decide, by decide, by decide⟩ all0 ?_
    intro T h30 r w _ hQ
    obtain ⟨sb, rfl, Es_sb, Sb⟩ := hQ
    have Sa := Sa.ext Es_sb
    show Go cx _ Z _ _ _ T 168 #[.val (.int i0), .val (.int i1), .val (.int i2), .val (.int i3), .val (.int i4), .val (.int x0), .val (.int x1), .val (.int y0), .val (.int y1), .val (.int (1 : Int32)), .val (.int (1 : Int32)), .val (.ref ua), .val (.ref ub), .val (.int nua0), .val (.int nub0), .val (.ref sa), .unset, .unset, .unset, .unset] [(.ref sb)]
    refine w.astore #[.val (.int i0), .val (.int i1), .val (.int i2), .val (.int i3), .val (.int i4), .val (.int x0), .val (.int x1), .val (.int y0), .val (.int y1), .val (.int (1 : Int32)), .val (.int (1 : Int32)), .val (.ref ua), .val (.ref ub), .val (.int nua0), .val (.int nub0), .val (.ref sa), .val (.ref sb), .unset, .unset, .unset] d0_168 rfl rfl ?_
    refine w.iload d0_170 rfl ?_
    refine w.ifLe d0_172 d0_172t (fun q => absurd (by decide) q) (fun _ => ?_)
    refine w.iload d0_175 rfl ?_
    refine w.ifLe d0_177 d0_177t (fun q => absurd (by decide) q) (fun _ => ?_)
    refine w.iload d0_180 rfl ?_
    refine w.iload d0_182 rfl ?_
    refine w.icmpEq d0_184 d0_184t (fun q0 => ?_) (fun q0 => ?_)
    · refine w.iload d0_204 rfl ?_
      refine w.iconst (1 : Int32) d0_206 rfl ?_
      refine w.icmpLe d0_207 d0_207t (fun _ => ?_) (fun q => absurd q (by decide))
      refine w.iload d0_240 rfl ?_
      refine w.iload d0_242 rfl ?_
      refine w.icmpGe d0_244 d0_244t (fun _ => ?_) (fun q => absurd q (by decide))
      refine w.iload d0_251 rfl ?_
      refine w.iload d0_253 rfl ?_
      refine w.icmpLe d0_255 d0_255t (fun _ => ?_) (fun q => absurd q (by decide))
      refine w.iconst (0 : Int32) d0_262 rfl ?_
      refine w.istore #[.val (.int i0), .val (.int i1), .val (.int i2), .val (.int i3), .val (.int i4), .val (.int x0), .val (.int x1), .val (.int y0), .val (.int y1), .val (.int (1 : Int32)), .val (.int (1 : Int32)), .val (.ref ua), .val (.ref ub), .val (.int nua0), .val (.int nub0), .val (.ref sa), .val (.ref sb), .val (.int (0 : Int32)), .unset, .unset] d0_263 rfl ?_
      refine w.aload d0_265 rfl rfl ?_
      refine w.aload d0_267 rfl rfl ?_
      refine w.callS (argsL := [(.ref sa), (.ref sb)]) (rest := []) 0 d0_269 (tw hw 34 rfl) (tw hw 35 rfl) (tw hw 36 rfl) (tw hw 37 rfl) (by decide) (Ct.mono (Q' := fun r u => r = some (.int (0 : Int32)) ∧ h30 = u) (rmCmp_1_1 l Z a0 hw hr sa sb x0 y0 h30 w.old Sa Sb Vx0 Vy0) (fun v u q => ⟨q.1.trans (congrArg (fun z => some (Value.int z)) (by rw [if_pos q0])), q.2⟩)) (lenOf pd_20 rfl) rfl rfl (Nat.le_refl _) ⟨by decide, by decide, by decide, by decide⟩ all0 ?_
      intro T h31 r w _ hQ
      obtain ⟨rfl, rfl⟩ := hQ
      show Go cx _ Z _ _ _ T 272 #[.val (.int i0), .val (.int i1), .val (.int i2), .val (.int i3), .val (.int i4), .val (.int x0), .val (.int x1), .val (.int y0), .val (.int y1), .val (.int (1 : Int32)), .val (.int (1 : Int32)), .val (.ref ua), .val (.ref ub), .val (.int nua0), .val (.int nub0), .val (.ref sa), .val (.ref sb), .val (.int (0 : Int32)), .unset, .unset] [(.int (0 : Int32))]
      refine w.istore #[.val (.int i0), .val (.int i1), .val (.int i2), .val (.int i3), .val (.int i4), .val (.int x0), .val (.int x1), .val (.int y0), .val (.int y1), .val (.int (1 : Int32)), .val (.int (1 : Int32)), .val (.ref ua), .val (.ref ub), .val (.int nua0), .val (.int nub0), .val (.ref sa), .val (.ref sb), .val (.int (0 : Int32)), .val (.int (0 : Int32)), .unset] d0_272 rfl ?_
      refine w.iload d0_274 rfl ?_
      refine w.ifGe d0_276 d0_276t (fun _ => ?_) (fun q => absurd q (by decide))
      refine w.iload d0_283 rfl ?_
      refine w.ifLe d0_285 d0_285t (fun _ => ?_) (fun q => absurd q (by decide))
      refine w.iconst (0 : Int32) d0_292 rfl ?_
      refine w.istore #[.val (.int i0), .val (.int i1), .val (.int i2), .val (.int i3), .val (.int i4), .val (.int x0), .val (.int x1), .val (.int y0), .val (.int y1), .val (.int (1 : Int32)), .val (.int (1 : Int32)), .val (.ref ua), .val (.ref ub), .val (.int nua0), .val (.int nub0), .val (.ref sa), .val (.ref sb), .val (.int (0 : Int32)), .val (.int (0 : Int32)), .val (.int (0 : Int32))] d0_293 rfl ?_
      refine w.iload d0_295 rfl ?_
      refine w.iload d0_297 rfl ?_
      refine w.icmpNe d0_299 d0_299t (fun q => absurd rfl q) (fun _ => ?_)
      refine w.iconst (1 : Int32) d0_302 rfl ?_
      refine w.goto d0_303 d0_303t ?_
      exact w.retN d0_307 rfl (by simp) rfl
    · refine w.iload d0_187 rfl ?_
      refine w.iload d0_189 rfl ?_
      refine w.icmpGe d0_191 d0_191t (fun q1 => ?_) (fun q1 => ?_)
      · refine w.iconst (1 : Int32) d0_198 rfl ?_
        refine w.istore #[.val (.int i0), .val (.int i1), .val (.int i2), .val (.int i3), .val (.int i4), .val (.int x0), .val (.int x1), .val (.int y0), .val (.int y1), .val (.int (1 : Int32)), .val (.int (1 : Int32)), .val (.ref ua), .val (.ref ub), .val (.int nua0), .val (.int nub0), .val (.ref sa), .val (.ref sb), .val (.int (1 : Int32)), .unset, .unset] d0_199 rfl ?_
        refine w.goto d0_201 d0_201t ?_
        refine w.aload d0_265 rfl rfl ?_
        refine w.aload d0_267 rfl rfl ?_
        refine w.callS (argsL := [(.ref sa), (.ref sb)]) (rest := []) 0 d0_269 (tw hw 34 rfl) (tw hw 35 rfl) (tw hw 36 rfl) (tw hw 37 rfl) (by decide) (Ct.mono (Q' := fun r u => r = some (.int (1 : Int32)) ∧ h30 = u) (rmCmp_1_1 l Z a0 hw hr sa sb x0 y0 h30 w.old Sa Sb Vx0 Vy0) (fun v u q => ⟨q.1.trans (congrArg (fun z => some (Value.int z)) (by rw [if_neg q0, if_neg q1])), q.2⟩)) (lenOf pd_20 rfl) rfl rfl (Nat.le_refl _) ⟨by decide, by decide, by decide, by decide⟩ all0 ?_
        intro T h32 r w _ hQ
        obtain ⟨rfl, rfl⟩ := hQ
        show Go cx _ Z _ _ _ T 272 #[.val (.int i0), .val (.int i1), .val (.int i2), .val (.int i3), .val (.int i4), .val (.int x0), .val (.int x1), .val (.int y0), .val (.int y1), .val (.int (1 : Int32)), .val (.int (1 : Int32)), .val (.ref ua), .val (.ref ub), .val (.int nua0), .val (.int nub0), .val (.ref sa), .val (.ref sb), .val (.int (1 : Int32)), .unset, .unset] [(.int (1 : Int32))]
        refine w.istore #[.val (.int i0), .val (.int i1), .val (.int i2), .val (.int i3), .val (.int i4), .val (.int x0), .val (.int x1), .val (.int y0), .val (.int y1), .val (.int (1 : Int32)), .val (.int (1 : Int32)), .val (.ref ua), .val (.ref ub), .val (.int nua0), .val (.int nub0), .val (.ref sa), .val (.ref sb), .val (.int (1 : Int32)), .val (.int (1 : Int32)), .unset] d0_272 rfl ?_
        refine w.iload d0_274 rfl ?_
        refine w.ifGe d0_276 d0_276t (fun _ => ?_) (fun q => absurd q (by decide))
        refine w.iload d0_283 rfl ?_
        refine w.ifLe d0_285 d0_285t (fun q => absurd (by decide) q) (fun _ => ?_)
        refine w.iconst (1 : Int32) d0_288 rfl ?_
        refine w.goto d0_289 d0_289t ?_
        refine w.istore #[.val (.int i0), .val (.int i1), .val (.int i2), .val (.int i3), .val (.int i4), .val (.int x0), .val (.int x1), .val (.int y0), .val (.int y1), .val (.int (1 : Int32)), .val (.int (1 : Int32)), .val (.ref ua), .val (.ref ub), .val (.int nua0), .val (.int nub0), .val (.ref sa), .val (.ref sb), .val (.int (1 : Int32)), .val (.int (1 : Int32)), .val (.int (1 : Int32))] d0_293 rfl ?_
        refine w.iload d0_295 rfl ?_
        refine w.iload d0_297 rfl ?_
        refine w.icmpNe d0_299 d0_299t (fun q => absurd rfl q) (fun _ => ?_)
        refine w.iconst (1 : Int32) d0_302 rfl ?_
        refine w.goto d0_303 d0_303t ?_
        exact w.retN d0_307 rfl (by simp) rfl
      · refine w.iconst (-1 : Int32) d0_194 rfl ?_
        refine w.goto d0_195 d0_195t ?_
        refine w.istore #[.val (.int i0), .val (.int i1), .val (.int i2), .val (.int i3), .val (.int i4), .val (.int x0), .val (.int x1), .val (.int y0), .val (.int y1), .val (.int (1 : Int32)), .val (.int (1 : Int32)), .val (.ref ua), .val (.ref ub), .val (.int nua0), .val (.int nub0), .val (.ref sa), .val (.ref sb), .val (.int (-1 : Int32)), .unset, .unset] d0_199 rfl ?_
        refine w.goto d0_201 d0_201t ?_
        refine w.aload d0_265 rfl rfl ?_
        refine w.aload d0_267 rfl rfl ?_
        refine w.callS (argsL := [(.ref sa), (.ref sb)]) (rest := []) 0 d0_269 (tw hw 34 rfl) (tw hw 35 rfl) (tw hw 36 rfl) (tw hw 37 rfl) (by decide) (Ct.mono (Q' := fun r u => r = some (.int (-1 : Int32)) ∧ h30 = u) (rmCmp_1_1 l Z a0 hw hr sa sb x0 y0 h30 w.old Sa Sb Vx0 Vy0) (fun v u q => ⟨q.1.trans (congrArg (fun z => some (Value.int z)) (by rw [if_neg q0, if_pos q1])), q.2⟩)) (lenOf pd_20 rfl) rfl rfl (Nat.le_refl _) ⟨by decide, by decide, by decide, by decide⟩ all0 ?_
        intro T h33 r w _ hQ
        obtain ⟨rfl, rfl⟩ := hQ
        show Go cx _ Z _ _ _ T 272 #[.val (.int i0), .val (.int i1), .val (.int i2), .val (.int i3), .val (.int i4), .val (.int x0), .val (.int x1), .val (.int y0), .val (.int y1), .val (.int (1 : Int32)), .val (.int (1 : Int32)), .val (.ref ua), .val (.ref ub), .val (.int nua0), .val (.int nub0), .val (.ref sa), .val (.ref sb), .val (.int (-1 : Int32)), .unset, .unset] [(.int (-1 : Int32))]
        refine w.istore #[.val (.int i0), .val (.int i1), .val (.int i2), .val (.int i3), .val (.int i4), .val (.int x0), .val (.int x1), .val (.int y0), .val (.int y1), .val (.int (1 : Int32)), .val (.int (1 : Int32)), .val (.ref ua), .val (.ref ub), .val (.int nua0), .val (.int nub0), .val (.ref sa), .val (.ref sb), .val (.int (-1 : Int32)), .val (.int (-1 : Int32)), .unset] d0_272 rfl ?_
        refine w.iload d0_274 rfl ?_
        refine w.ifGe d0_276 d0_276t (fun q => absurd (by decide) q) (fun _ => ?_)
        refine w.iconst (-1 : Int32) d0_279 rfl ?_
        refine w.goto d0_280 d0_280t ?_
        refine w.istore #[.val (.int i0), .val (.int i1), .val (.int i2), .val (.int i3), .val (.int i4), .val (.int x0), .val (.int x1), .val (.int y0), .val (.int y1), .val (.int (1 : Int32)), .val (.int (1 : Int32)), .val (.ref ua), .val (.ref ub), .val (.int nua0), .val (.int nub0), .val (.ref sa), .val (.ref sb), .val (.int (-1 : Int32)), .val (.int (-1 : Int32)), .val (.int (-1 : Int32))] d0_293 rfl ?_
        refine w.iload d0_295 rfl ?_
        refine w.iload d0_297 rfl ?_
        refine w.icmpNe d0_299 d0_299t (fun q => absurd rfl q) (fun _ => ?_)
        refine w.iconst (1 : Int32) d0_302 rfl ?_
        refine w.goto d0_303 d0_303t ?_
        exact w.retN d0_307 rfl (by simp) rfl
  · skip
    refine w.iconst (4 : Int32) d0_70 rfl ?_
    have sz0 := w.size
    refine w.newP 4 "[C" d0_71 (tw hw 9 rfl) (by decide) (by decide) (by decide) (by decide) ⟨by decide, by decide⟩ ?_
    intro ua T h34 kua g_ua w E_ua A_ua X_ua
    have ge_ua : Z.heap.size ≤ ua := by rw [g_ua]; exact sz0
    refine w.astore #[.val (.int i0), .val (.int i1), .val (.int i2), .val (.int i3), .val (.int i4), .val (.int x0), .val (.int x1), .val (.int y0), .val (.int y1), .val (.int (1 : Int32)), .val (.int (2 : Int32)), .val (.ref ua), .unset, .unset, .unset, .unset, .unset, .unset, .unset, .unset] d0_73 rfl rfl ?_
    refine w.iconst (4 : Int32) d0_75 rfl ?_
    have sz0 := w.size
    refine w.newP 4 "[C" d0_76 (tw hw 9 rfl) (by decide) (by decide) (by decide) (by decide) ⟨by decide, by decide⟩ ?_
    intro ub T h35 kub g_ub w E_ub A_ub X_ub
    have ge_ub : Z.heap.size ≤ ub := by rw [g_ub]; exact sz0
    have Ua : UP0 Z h35 ua kua 0 := ⟨rfl, A_ua.ext E_ub⟩
    have Ub : UP0 Z h35 ub kub 0 := ⟨rfl, A_ub⟩
    have nab : ua ≠ ub := Nat.ne_of_lt (Nat.lt_of_lt_of_eq A_ua.lt g_ub.symm)
    refine w.astore #[.val (.int i0), .val (.int i1), .val (.int i2), .val (.int i3), .val (.int i4), .val (.int x0), .val (.int x1), .val (.int y0), .val (.int y1), .val (.int (1 : Int32)), .val (.int (2 : Int32)), .val (.ref ua), .val (.ref ub), .unset, .unset, .unset, .unset, .unset, .unset, .unset] d0_78 rfl rfl ?_
    refine w.iconst (0 : Int32) d0_80 rfl ?_
    refine w.istore #[.val (.int i0), .val (.int i1), .val (.int i2), .val (.int i3), .val (.int i4), .val (.int x0), .val (.int x1), .val (.int y0), .val (.int y1), .val (.int (1 : Int32)), .val (.int (2 : Int32)), .val (.ref ua), .val (.ref ub), .val (.int (0 : Int32)), .unset, .unset, .unset, .unset, .unset, .unset] d0_81 rfl ?_
    refine w.iload d0_83 rfl ?_
    refine w.ifLe d0_85 d0_85t (fun q => absurd (by decide) q) (fun _ => ?_)
    refine w.aload d0_88 rfl rfl ?_
    refine w.iload d0_90 rfl ?_
    refine w.iload d0_92 rfl ?_
    refine w.callS (argsL := [(.ref ua), (.int (0 : Int32)), (.int x0)]) (rest := []) 0 d0_94 (tw hw 53 rfl) (tw hw 54 rfl) (tw hw 2 rfl) (tw hw 55 rfl) (by decide) (rmPut1 l Z a0 hw ua kua (0 : Int32) x0 h35 w.old ge_ua Ua Vx0) (lenOf pd_21 rfl) rfl rfl (Nat.le_refl _) ⟨by decide, by decide, by decide, by decide⟩ (allS (List.mem_of_getElem? (i := 1) rfl) all0) ?_
    intro T h36 r w _ hQ
    obtain ⟨nua0, rfl, Kua0, Ua⟩ := hQ
    have Ub := Ub.keep Kua0 (ninS (Ne.symm nab) nin0)
    show Go cx _ Z _ _ _ T 97 #[.val (.int i0), .val (.int i1), .val (.int i2), .val (.int i3), .val (.int i4), .val (.int x0), .val (.int x1), .val (.int y0), .val (.int y1), .val (.int (1 : Int32)), .val (.int (2 : Int32)), .val (.ref ua), .val (.ref ub), .val (.int (0 : Int32)), .unset, .unset, .unset, .unset, .unset, .unset] [(.int nua0)]
    refine w.istore #[.val (.int i0), .val (.int i1), .val (.int i2), .val (.int i3), .val (.int i4), .val (.int x0), .val (.int x1), .val (.int y0), .val (.int y1), .val (.int (1 : Int32)), .val (.int (2 : Int32)), .val (.ref ua), .val (.ref ub), .val (.int nua0), .unset, .unset, .unset, .unset, .unset, .unset] d0_97 rfl ?_
    refine w.iload d0_99 rfl ?_
    refine w.iconst (1 : Int32) d0_101 rfl ?_
    refine w.icmpLe d0_102 d0_102t (fun _ => ?_) (fun q => absurd q (by decide))
    refine w.iconst (0 : Int32) d0_116 rfl ?_
    refine w.istore #[.val (.int i0), .val (.int i1), .val (.int i2), .val (.int i3), .val (.int i4), .val (.int x0), .val (.int x1), .val (.int y0), .val (.int y1), .val (.int (1 : Int32)), .val (.int (2 : Int32)), .val (.ref ua), .val (.ref ub), .val (.int nua0), .val (.int (0 : Int32)), .unset, .unset, .unset, .unset, .unset] d0_117 rfl ?_
    refine w.iload d0_119 rfl ?_
    refine w.ifLe d0_121 d0_121t (fun q => absurd (by decide) q) (fun _ => ?_)
    refine w.aload d0_124 rfl rfl ?_
    refine w.iload d0_126 rfl ?_
    refine w.iload d0_128 rfl ?_
    refine w.callS (argsL := [(.ref ub), (.int (0 : Int32)), (.int y0)]) (rest := []) 0 d0_130 (tw hw 53 rfl) (tw hw 54 rfl) (tw hw 2 rfl) (tw hw 55 rfl) (by decide) (rmPut1 l Z a0 hw ub kub (0 : Int32) y0 h36 w.old ge_ub Ub Vy0) (lenOf pd_21 rfl) rfl rfl (Nat.le_refl _) ⟨by decide, by decide, by decide, by decide⟩ (allS (List.mem_of_getElem? (i := 0) rfl) all0) ?_
    intro T h37 r w _ hQ
    obtain ⟨nub0, rfl, Kub0, Ub⟩ := hQ
    have Ua := Ua.keep Kub0 (ninS nab nin0)
    show Go cx _ Z _ _ _ T 133 #[.val (.int i0), .val (.int i1), .val (.int i2), .val (.int i3), .val (.int i4), .val (.int x0), .val (.int x1), .val (.int y0), .val (.int y1), .val (.int (1 : Int32)), .val (.int (2 : Int32)), .val (.ref ua), .val (.ref ub), .val (.int nua0), .val (.int (0 : Int32)), .unset, .unset, .unset, .unset, .unset] [(.int nub0)]
    refine w.istore #[.val (.int i0), .val (.int i1), .val (.int i2), .val (.int i3), .val (.int i4), .val (.int x0), .val (.int x1), .val (.int y0), .val (.int y1), .val (.int (1 : Int32)), .val (.int (2 : Int32)), .val (.ref ua), .val (.ref ub), .val (.int nua0), .val (.int nub0), .unset, .unset, .unset, .unset, .unset] d0_133 rfl ?_
    refine w.iload d0_135 rfl ?_
    refine w.iconst (1 : Int32) d0_137 rfl ?_
    refine w.icmpLe d0_138 d0_138t (fun q => absurd (by decide) q) (fun _ => ?_)
    refine w.aload d0_141 rfl rfl ?_
    refine w.iload d0_143 rfl ?_
    refine w.iload d0_145 rfl ?_
    refine w.callS (argsL := [(.ref ub), (.int nub0), (.int y1)]) (rest := []) 0 d0_147 (tw hw 53 rfl) (tw hw 54 rfl) (tw hw 2 rfl) (tw hw 55 rfl) (by decide) (rmPut2 l Z a0 hw ub kub nub0 y0 y1 h37 w.old ge_ub Ub Vy1) (lenOf pd_21 rfl) rfl rfl (Nat.le_refl _) ⟨by decide, by decide, by decide, by decide⟩ (allS (List.mem_of_getElem? (i := 0) rfl) all0) ?_
    intro T h38 r w _ hQ
    obtain ⟨nub1, rfl, Kub1, Ub⟩ := hQ
    have Ua := Ua.keep Kub1 (ninS nab nin0)
    show Go cx _ Z _ _ _ T 150 #[.val (.int i0), .val (.int i1), .val (.int i2), .val (.int i3), .val (.int i4), .val (.int x0), .val (.int x1), .val (.int y0), .val (.int y1), .val (.int (1 : Int32)), .val (.int (2 : Int32)), .val (.ref ua), .val (.ref ub), .val (.int nua0), .val (.int nub0), .unset, .unset, .unset, .unset, .unset] [(.int nub1)]
    refine w.istore #[.val (.int i0), .val (.int i1), .val (.int i2), .val (.int i3), .val (.int i4), .val (.int x0), .val (.int x1), .val (.int y0), .val (.int y1), .val (.int (1 : Int32)), .val (.int (2 : Int32)), .val (.ref ua), .val (.ref ub), .val (.int nua0), .val (.int nub1), .unset, .unset, .unset, .unset, .unset] d0_150 rfl ?_
    refine w.aload d0_152 rfl rfl ?_
    refine w.iload d0_154 rfl ?_
    refine w.callS (argsL := [(.ref ua), (.int nua0)]) (rest := []) 0 d0_156 (tw hw 10 rfl) (tw hw 11 rfl) (tw hw 2 rfl) (tw hw 12 rfl) (by decide) (rmStr1 l Z a0 hw hr ua kua nua0 x0 h38 w.old Ua Vx0) (lenOf pd_19 rfl) rfl rfl (Nat.le_refl _) ⟨by decide, by decide, by decide, by decide⟩ all0 ?_
    intro T h39 r w _ hQ
    obtain ⟨sa, rfl, Es_sa, Sa⟩ := hQ
    have Ub := Ub.ext Es_sa
    show Go cx _ Z _ _ _ T 159 #[.val (.int i0), .val (.int i1), .val (.int i2), .val (.int i3), .val (.int i4), .val (.int x0), .val (.int x1), .val (.int y0), .val (.int y1), .val (.int (1 : Int32)), .val (.int (2 : Int32)), .val (.ref ua), .val (.ref ub), .val (.int nua0), .val (.int nub1), .unset, .unset, .unset, .unset, .unset] [(.ref sa)]
    refine w.astore #[.val (.int i0), .val (.int i1), .val (.int i2), .val (.int i3), .val (.int i4), .val (.int x0), .val (.int x1), .val (.int y0), .val (.int y1), .val (.int (1 : Int32)), .val (.int (2 : Int32)), .val (.ref ua), .val (.ref ub), .val (.int nua0), .val (.int nub1), .val (.ref sa), .unset, .unset, .unset, .unset] d0_159 rfl rfl ?_
    refine w.aload d0_161 rfl rfl ?_
    refine w.iload d0_163 rfl ?_
    refine w.callS (argsL := [(.ref ub), (.int nub1)]) (rest := []) 0 d0_165 (tw hw 10 rfl) (tw hw 11 rfl) (tw hw 2 rfl) (tw hw 12 rfl) (by decide) (rmStr2 l Z a0 hw hr ub kub nub1 y0 y1 h39 w.old Ub Vy0 Vy1) (lenOf pd_19 rfl) rfl rfl (Nat.le_refl _) ⟨by decide, by decide, by decide, by decide⟩ all0 ?_
    intro T h40 r w _ hQ
    obtain ⟨sb, rfl, Es_sb, Sb⟩ := hQ
    have Sa := Sa.ext Es_sb
    show Go cx _ Z _ _ _ T 168 #[.val (.int i0), .val (.int i1), .val (.int i2), .val (.int i3), .val (.int i4), .val (.int x0), .val (.int x1), .val (.int y0), .val (.int y1), .val (.int (1 : Int32)), .val (.int (2 : Int32)), .val (.ref ua), .val (.ref ub), .val (.int nua0), .val (.int nub1), .val (.ref sa), .unset, .unset, .unset, .unset] [(.ref sb)]
    refine w.astore #[.val (.int i0), .val (.int i1), .val (.int i2), .val (.int i3), .val (.int i4), .val (.int x0), .val (.int x1), .val (.int y0), .val (.int y1), .val (.int (1 : Int32)), .val (.int (2 : Int32)), .val (.ref ua), .val (.ref ub), .val (.int nua0), .val (.int nub1), .val (.ref sa), .val (.ref sb), .unset, .unset, .unset] d0_168 rfl rfl ?_
    refine w.iload d0_170 rfl ?_
    refine w.ifLe d0_172 d0_172t (fun q => absurd (by decide) q) (fun _ => ?_)
    refine w.iload d0_175 rfl ?_
    refine w.ifLe d0_177 d0_177t (fun q => absurd (by decide) q) (fun _ => ?_)
    refine w.iload d0_180 rfl ?_
    refine w.iload d0_182 rfl ?_
    refine w.icmpEq d0_184 d0_184t (fun q0 => ?_) (fun q0 => ?_)
    · refine w.iload d0_204 rfl ?_
      refine w.iconst (1 : Int32) d0_206 rfl ?_
      refine w.icmpLe d0_207 d0_207t (fun _ => ?_) (fun q => absurd q (by decide))
      refine w.iload d0_240 rfl ?_
      refine w.iload d0_242 rfl ?_
      refine w.icmpGe d0_244 d0_244t (fun q => absurd (by decide) q) (fun _ => ?_)
      refine w.iconst (-1 : Int32) d0_247 rfl ?_
      refine w.goto d0_248 d0_248t ?_
      refine w.istore #[.val (.int i0), .val (.int i1), .val (.int i2), .val (.int i3), .val (.int i4), .val (.int x0), .val (.int x1), .val (.int y0), .val (.int y1), .val (.int (1 : Int32)), .val (.int (2 : Int32)), .val (.ref ua), .val (.ref ub), .val (.int nua0), .val (.int nub1), .val (.ref sa), .val (.ref sb), .val (.int (-1 : Int32)), .unset, .unset] d0_263 rfl ?_
      refine w.aload d0_265 rfl rfl ?_
      refine w.aload d0_267 rfl rfl ?_
      refine w.callS (argsL := [(.ref sa), (.ref sb)]) (rest := []) 0 d0_269 (tw hw 34 rfl) (tw hw 35 rfl) (tw hw 36 rfl) (tw hw 37 rfl) (by decide) (Ct.mono (Q' := fun r u => r = some (.int (-1 : Int32)) ∧ h40 = u) (rmCmp_1_2 l Z a0 hw hr sa sb x0 y0 y1 h40 w.old Sa Sb Vx0 Vy0 Vy1) (fun v u q => ⟨q.1.trans (congrArg (fun z => some (Value.int z)) (by rw [if_pos q0])), q.2⟩)) (lenOf pd_20 rfl) rfl rfl (Nat.le_refl _) ⟨by decide, by decide, by decide, by decide⟩ all0 ?_
      intro T h41 r w _ hQ
      obtain ⟨rfl, rfl⟩ := hQ
      show Go cx _ Z _ _ _ T 272 #[.val (.int i0), .val (.int i1), .val (.int i2), .val (.int i3), .val (.int i4), .val (.int x0), .val (.int x1), .val (.int y0), .val (.int y1), .val (.int (1 : Int32)), .val (.int (2 : Int32)), .val (.ref ua), .val (.ref ub), .val (.int nua0), .val (.int nub1), .val (.ref sa), .val (.ref sb), .val (.int (-1 : Int32)), .unset, .unset] [(.int (-1 : Int32))]
      refine w.istore #[.val (.int i0), .val (.int i1), .val (.int i2), .val (.int i3), .val (.int i4), .val (.int x0), .val (.int x1), .val (.int y0), .val (.int y1), .val (.int (1 : Int32)), .val (.int (2 : Int32)), .val (.ref ua), .val (.ref ub), .val (.int nua0), .val (.int nub1), .val (.ref sa), .val (.ref sb), .val (.int (-1 : Int32)), .val (.int (-1 : Int32)), .unset] d0_272 rfl ?_
      refine w.iload d0_274 rfl ?_
      refine w.ifGe d0_276 d0_276t (fun q => absurd (by decide) q) (fun _ => ?_)
      refine w.iconst (-1 : Int32) d0_279 rfl ?_
      refine w.goto d0_280 d0_280t ?_
      refine w.istore #[.val (.int i0), .val (.int i1), .val (.int i2), .val (.int i3), .val (.int i4), .val (.int x0), .val (.int x1), .val (.int y0), .val (.int y1), .val (.int (1 : Int32)), .val (.int (2 : Int32)), .val (.ref ua), .val (.ref ub), .val (.int nua0), .val (.int nub1), .val (.ref sa), .val (.ref sb), .val (.int (-1 : Int32)), .val (.int (-1 : Int32)), .val (.int (-1 : Int32))] d0_293 rfl ?_
      refine w.iload d0_295 rfl ?_
      refine w.iload d0_297 rfl ?_
      refine w.icmpNe d0_299 d0_299t (fun q => absurd rfl q) (fun _ => ?_)
      refine w.iconst (1 : Int32) d0_302 rfl ?_
      refine w.goto d0_303 d0_303t ?_
      exact w.retN d0_307 rfl (by simp) rfl
    · refine w.iload d0_187 rfl ?_
      refine w.iload d0_189 rfl ?_
      refine w.icmpGe d0_191 d0_191t (fun q1 => ?_) (fun q1 => ?_)
      · refine w.iconst (1 : Int32) d0_198 rfl ?_
        refine w.istore #[.val (.int i0), .val (.int i1), .val (.int i2), .val (.int i3), .val (.int i4), .val (.int x0), .val (.int x1), .val (.int y0), .val (.int y1), .val (.int (1 : Int32)), .val (.int (2 : Int32)), .val (.ref ua), .val (.ref ub), .val (.int nua0), .val (.int nub1), .val (.ref sa), .val (.ref sb), .val (.int (1 : Int32)), .unset, .unset] d0_199 rfl ?_
        refine w.goto d0_201 d0_201t ?_
        refine w.aload d0_265 rfl rfl ?_
        refine w.aload d0_267 rfl rfl ?_
        refine w.callS (argsL := [(.ref sa), (.ref sb)]) (rest := []) 0 d0_269 (tw hw 34 rfl) (tw hw 35 rfl) (tw hw 36 rfl) (tw hw 37 rfl) (by decide) (Ct.mono (Q' := fun r u => r = some (.int (1 : Int32)) ∧ h40 = u) (rmCmp_1_2 l Z a0 hw hr sa sb x0 y0 y1 h40 w.old Sa Sb Vx0 Vy0 Vy1) (fun v u q => ⟨q.1.trans (congrArg (fun z => some (Value.int z)) (by rw [if_neg q0, if_neg q1])), q.2⟩)) (lenOf pd_20 rfl) rfl rfl (Nat.le_refl _) ⟨by decide, by decide, by decide, by decide⟩ all0 ?_
        intro T h42 r w _ hQ
        obtain ⟨rfl, rfl⟩ := hQ
        show Go cx _ Z _ _ _ T 272 #[.val (.int i0), .val (.int i1), .val (.int i2), .val (.int i3), .val (.int i4), .val (.int x0), .val (.int x1), .val (.int y0), .val (.int y1), .val (.int (1 : Int32)), .val (.int (2 : Int32)), .val (.ref ua), .val (.ref ub), .val (.int nua0), .val (.int nub1), .val (.ref sa), .val (.ref sb), .val (.int (1 : Int32)), .unset, .unset] [(.int (1 : Int32))]
        refine w.istore #[.val (.int i0), .val (.int i1), .val (.int i2), .val (.int i3), .val (.int i4), .val (.int x0), .val (.int x1), .val (.int y0), .val (.int y1), .val (.int (1 : Int32)), .val (.int (2 : Int32)), .val (.ref ua), .val (.ref ub), .val (.int nua0), .val (.int nub1), .val (.ref sa), .val (.ref sb), .val (.int (1 : Int32)), .val (.int (1 : Int32)), .unset] d0_272 rfl ?_
        refine w.iload d0_274 rfl ?_
        refine w.ifGe d0_276 d0_276t (fun _ => ?_) (fun q => absurd q (by decide))
        refine w.iload d0_283 rfl ?_
        refine w.ifLe d0_285 d0_285t (fun q => absurd (by decide) q) (fun _ => ?_)
        refine w.iconst (1 : Int32) d0_288 rfl ?_
        refine w.goto d0_289 d0_289t ?_
        refine w.istore #[.val (.int i0), .val (.int i1), .val (.int i2), .val (.int i3), .val (.int i4), .val (.int x0), .val (.int x1), .val (.int y0), .val (.int y1), .val (.int (1 : Int32)), .val (.int (2 : Int32)), .val (.ref ua), .val (.ref ub), .val (.int nua0), .val (.int nub1), .val (.ref sa), .val (.ref sb), .val (.int (1 : Int32)), .val (.int (1 : Int32)), .val (.int (1 : Int32))] d0_293 rfl ?_
        refine w.iload d0_295 rfl ?_
        refine w.iload d0_297 rfl ?_
        refine w.icmpNe d0_299 d0_299t (fun q => absurd rfl q) (fun _ => ?_)
        refine w.iconst (1 : Int32) d0_302 rfl ?_
        refine w.goto d0_303 d0_303t ?_
        exact w.retN d0_307 rfl (by simp) rfl
      · refine w.iconst (-1 : Int32) d0_194 rfl ?_
        refine w.goto d0_195 d0_195t ?_
        refine w.istore #[.val (.int i0), .val (.int i1), .val (.int i2), .val (.int i3), .val (.int i4), .val (.int x0), .val (.int x1), .val (.int y0), .val (.int y1), .val (.int (1 : Int32)), .val (.int (2 : Int32)), .val (.ref ua), .val (.ref ub), .val (.int nua0), .val (.int nub1), .val (.ref sa), .val (.ref sb), .val (.int (-1 : Int32)), .unset, .unset] d0_199 rfl ?_
        refine w.goto d0_201 d0_201t ?_
        refine w.aload d0_265 rfl rfl ?_
        refine w.aload d0_267 rfl rfl ?_
        refine w.callS (argsL := [(.ref sa), (.ref sb)]) (rest := []) 0 d0_269 (tw hw 34 rfl) (tw hw 35 rfl) (tw hw 36 rfl) (tw hw 37 rfl) (by decide) (Ct.mono (Q' := fun r u => r = some (.int (-1 : Int32)) ∧ h40 = u) (rmCmp_1_2 l Z a0 hw hr sa sb x0 y0 y1 h40 w.old Sa Sb Vx0 Vy0 Vy1) (fun v u q => ⟨q.1.trans (congrArg (fun z => some (Value.int z)) (by rw [if_neg q0, if_pos q1])), q.2⟩)) (lenOf pd_20 rfl) rfl rfl (Nat.le_refl _) ⟨by decide, by decide, by decide, by decide⟩ all0 ?_
        intro T h43 r w _ hQ
        obtain ⟨rfl, rfl⟩ := hQ
        show Go cx _ Z _ _ _ T 272 #[.val (.int i0), .val (.int i1), .val (.int i2), .val (.int i3), .val (.int i4), .val (.int x0), .val (.int x1), .val (.int y0), .val (.int y1), .val (.int (1 : Int32)), .val (.int (2 : Int32)), .val (.ref ua), .val (.ref ub), .val (.int nua0), .val (.int nub1), .val (.ref sa), .val (.ref sb), .val (.int (-1 : Int32)), .unset, .unset] [(.int (-1 : Int32))]
        refine w.istore #[.val (.int i0), .val (.int i1), .val (.int i2), .val (.int i3), .val (.int i4), .val (.int x0), .val (.int x1), .val (.int y0), .val (.int y1), .val (.int (1 : Int32)), .val (.int (2 : Int32)), .val (.ref ua), .val (.ref ub), .val (.int nua0), .val (.int nub1), .val (.ref sa), .val (.ref sb), .val (.int (-1 : Int32)), .val (.int (-1 : Int32)), .unset] d0_272 rfl ?_
        refine w.iload d0_274 rfl ?_
        refine w.ifGe d0_276 d0_276t (fun q => absurd (by decide) q) (fun _ => ?_)
        refine w.iconst (-1 : Int32) d0_279 rfl ?_
        refine w.goto d0_280 d0_280t ?_
        refine w.istore #[.val (.int i0), .val (.int i1), .val (.int i2), .val (.int i3), .val (.int i4), .val (.int x0), .val (.int x1), .val (.int y0), .val (.int y1), .val (.int (1 : Int32)), .val (.int (2 : Int32)), .val (.ref ua), .val (.ref ub), .val (.int nua0), .val (.int nub1), .val (.ref sa), .val (.ref sb), .val (.int (-1 : Int32)), .val (.int (-1 : Int32)), .val (.int (-1 : Int32))] d0_293 rfl ?_
        refine w.iload d0_295 rfl ?_
        refine w.iload d0_297 rfl ?_
        refine w.icmpNe d0_299 d0_299t (fun q => absurd rfl q) (fun _ => ?_)
        refine w.iconst (1 : Int32) d0_302 rfl ?_
        refine w.goto d0_303 d0_303t ?_
        exact w.retN d0_307 rfl (by simp) rfl
  · skip
    refine w.iconst (4 : Int32) d0_70 rfl ?_
    have sz0 := w.size
    refine w.newP 4 "[C" d0_71 (tw hw 9 rfl) (by decide) (by decide) (by decide) (by decide) ⟨by decide, by decide⟩ ?_
    intro ua T h44 kua g_ua w E_ua A_ua X_ua
    have ge_ua : Z.heap.size ≤ ua := by rw [g_ua]; exact sz0
    refine w.astore #[.val (.int i0), .val (.int i1), .val (.int i2), .val (.int i3), .val (.int i4), .val (.int x0), .val (.int x1), .val (.int y0), .val (.int y1), .val (.int (2 : Int32)), .val (.int (0 : Int32)), .val (.ref ua), .unset, .unset, .unset, .unset, .unset, .unset, .unset, .unset] d0_73 rfl rfl ?_
    refine w.iconst (4 : Int32) d0_75 rfl ?_
    have sz0 := w.size
    refine w.newP 4 "[C" d0_76 (tw hw 9 rfl) (by decide) (by decide) (by decide) (by decide) ⟨by decide, by decide⟩ ?_
    intro ub T h45 kub g_ub w E_ub A_ub X_ub
    have ge_ub : Z.heap.size ≤ ub := by rw [g_ub]; exact sz0
    have Ua : UP0 Z h45 ua kua 0 := ⟨rfl, A_ua.ext E_ub⟩
    have Ub : UP0 Z h45 ub kub 0 := ⟨rfl, A_ub⟩
    have nab : ua ≠ ub := Nat.ne_of_lt (Nat.lt_of_lt_of_eq A_ua.lt g_ub.symm)
    refine w.astore #[.val (.int i0), .val (.int i1), .val (.int i2), .val (.int i3), .val (.int i4), .val (.int x0), .val (.int x1), .val (.int y0), .val (.int y1), .val (.int (2 : Int32)), .val (.int (0 : Int32)), .val (.ref ua), .val (.ref ub), .unset, .unset, .unset, .unset, .unset, .unset, .unset] d0_78 rfl rfl ?_
    refine w.iconst (0 : Int32) d0_80 rfl ?_
    refine w.istore #[.val (.int i0), .val (.int i1), .val (.int i2), .val (.int i3), .val (.int i4), .val (.int x0), .val (.int x1), .val (.int y0), .val (.int y1), .val (.int (2 : Int32)), .val (.int (0 : Int32)), .val (.ref ua), .val (.ref ub), .val (.int (0 : Int32)), .unset, .unset, .unset, .unset, .unset, .unset] d0_81 rfl ?_
    refine w.iload d0_83 rfl ?_
    refine w.ifLe d0_85 d0_85t (fun q => absurd (by decide) q) (fun _ => ?_)
    refine w.aload d0_88 rfl rfl ?_
    refine w.iload d0_90 rfl ?_
    refine w.iload d0_92 rfl ?_
    refine w.callS (argsL := [(.ref ua), (.int (0 : Int32)), (.int x0)]) (rest := []) 0 d0_94 (tw hw 53 rfl) (tw hw 54 rfl) (tw hw 2 rfl) (tw hw 55 rfl) (by decide) (rmPut1 l Z a0 hw ua kua (0 : Int32) x0 h45 w.old ge_ua Ua Vx0) (lenOf pd_21 rfl) rfl rfl (Nat.le_refl _) ⟨by decide, by decide, by decide, by decide⟩ (allS (List.mem_of_getElem? (i := 1) rfl) all0) ?_
    intro T h46 r w _ hQ
    obtain ⟨nua0, rfl, Kua0, Ua⟩ := hQ
    have Ub := Ub.keep Kua0 (ninS (Ne.symm nab) nin0)
    show Go cx _ Z _ _ _ T 97 #[.val (.int i0), .val (.int i1), .val (.int i2), .val (.int i3), .val (.int i4), .val (.int x0), .val (.int x1), .val (.int y0), .val (.int y1), .val (.int (2 : Int32)), .val (.int (0 : Int32)), .val (.ref ua), .val (.ref ub), .val (.int (0 : Int32)), .unset, .unset, .unset, .unset, .unset, .unset] [(.int nua0)]
    refine w.istore #[.val (.int i0), .val (.int i1), .val (.int i2), .val (.int i3), .val (.int i4), .val (.int x0), .val (.int x1), .val (.int y0), .val (.int y1), .val (.int (2 : Int32)), .val (.int (0 : Int32)), .val (.ref ua), .val (.ref ub), .val (.int nua0), .unset, .unset, .unset, .unset, .unset, .unset] d0_97 rfl ?_
    refine w.iload d0_99 rfl ?_
    refine w.iconst (1 : Int32) d0_101 rfl ?_
    refine w.icmpLe d0_102 d0_102t (fun q => absurd (by decide) q) (fun _ => ?_)
    refine w.aload d0_105 rfl rfl ?_
    refine w.iload d0_107 rfl ?_
    refine w.iload d0_109 rfl ?_
    refine w.callS (argsL := [(.ref ua), (.int nua0), (.int x1)]) (rest := []) 0 d0_111 (tw hw 53 rfl) (tw hw 54 rfl) (tw hw 2 rfl) (tw hw 55 rfl) (by decide) (rmPut2 l Z a0 hw ua kua nua0 x0 x1 h46 w.old ge_ua Ua Vx1) (lenOf pd_21 rfl) rfl rfl (Nat.le_refl _) ⟨by decide, by decide, by decide, by decide⟩ (allS (List.mem_of_getElem? (i := 1) rfl) all0) ?_
    intro T h47 r w _ hQ
    obtain ⟨nua1, rfl, Kua1, Ua⟩ := hQ
    have Ub := Ub.keep Kua1 (ninS (Ne.symm nab) nin0)
    show Go cx _ Z _ _ _ T 114 #[.val (.int i0), .val (.int i1), .val (.int i2), .val (.int i3), .val (.int i4), .val (.int x0), .val (.int x1), .val (.int y0), .val (.int y1), .val (.int (2 : Int32)), .val (.int (0 : Int32)), .val (.ref ua), .val (.ref ub), .val (.int nua0), .unset, .unset, .unset, .unset, .unset, .unset] [(.int nua1)]
    refine w.istore #[.val (.int i0), .val (.int i1), .val (.int i2), .val (.int i3), .val (.int i4), .val (.int x0), .val (.int x1), .val (.int y0), .val (.int y1), .val (.int (2 : Int32)), .val (.int (0 : Int32)), .val (.ref ua), .val (.ref ub), .val (.int nua1), .unset, .unset, .unset, .unset, .unset, .unset] d0_114 rfl ?_
    refine w.iconst (0 : Int32) d0_116 rfl ?_
    refine w.istore #[.val (.int i0), .val (.int i1), .val (.int i2), .val (.int i3), .val (.int i4), .val (.int x0), .val (.int x1), .val (.int y0), .val (.int y1), .val (.int (2 : Int32)), .val (.int (0 : Int32)), .val (.ref ua), .val (.ref ub), .val (.int nua1), .val (.int (0 : Int32)), .unset, .unset, .unset, .unset, .unset] d0_117 rfl ?_
    refine w.iload d0_119 rfl ?_
    refine w.ifLe d0_121 d0_121t (fun _ => ?_) (fun q => absurd q (by decide))
    refine w.iload d0_135 rfl ?_
    refine w.iconst (1 : Int32) d0_137 rfl ?_
    refine w.icmpLe d0_138 d0_138t (fun _ => ?_) (fun q => absurd q (by decide))
    refine w.aload d0_152 rfl rfl ?_
    refine w.iload d0_154 rfl ?_
    refine w.callS (argsL := [(.ref ua), (.int nua1)]) (rest := []) 0 d0_156 (tw hw 10 rfl) (tw hw 11 rfl) (tw hw 2 rfl) (tw hw 12 rfl) (by decide) (rmStr2 l Z a0 hw hr ua kua nua1 x0 x1 h47 w.old Ua Vx0 Vx1) (lenOf pd_19 rfl) rfl rfl (Nat.le_refl _) ⟨by decide, by decide, by decide, by decide⟩ all0 ?_
    intro T h48 r w _ hQ
    obtain ⟨sa, rfl, Es_sa, Sa⟩ := hQ
    have Ub := Ub.ext Es_sa
    show Go cx _ Z _ _ _ T 159 #[.val (.int i0), .val (.int i1), .val (.int i2), .val (.int i3), .val (.int i4), .val (.int x0), .val (.int x1), .val (.int y0), .val (.int y1), .val (.int (2 : Int32)), .val (.int (0 : Int32)), .val (.ref ua), .val (.ref ub), .val (.int nua1), .val (.int (0 : Int32)), .unset, .unset, .unset, .unset, .unset] [(.ref sa)]
    refine w.astore #[.val (.int i0), .val (.int i1), .val (.int i2), .val (.int i3), .val (.int i4), .val (.int x0), .val (.int x1), .val (.int y0), .val (.int y1), .val (.int (2 : Int32)), .val (.int (0 : Int32)), .val (.ref ua), .val (.ref ub), .val (.int nua1), .val (.int (0 : Int32)), .val (.ref sa), .unset, .unset, .unset, .unset] d0_159 rfl rfl ?_
    refine w.aload d0_161 rfl rfl ?_
    refine w.iload d0_163 rfl ?_
    refine w.callS (argsL := [(.ref ub), (.int (0 : Int32))]) (rest := []) 0 d0_165 (tw hw 10 rfl) (tw hw 11 rfl) (tw hw 2 rfl) (tw hw 12 rfl) (by decide) (rmStr0 l Z a0 hw hr ub kub (0 : Int32)  h48 w.old Ub ) (lenOf pd_19 rfl) rfl rfl (Nat.le_refl _) ⟨by decide, by decide, by decide, by decide⟩ all0 ?_
    intro T h49 r w _ hQ
    obtain ⟨sb, rfl, Es_sb, Sb⟩ := hQ
    have Sa := Sa.ext Es_sb
    show Go cx _ Z _ _ _ T 168 #[.val (.int i0), .val (.int i1), .val (.int i2), .val (.int i3), .val (.int i4), .val (.int x0), .val (.int x1), .val (.int y0), .val (.int y1), .val (.int (2 : Int32)), .val (.int (0 : Int32)), .val (.ref ua), .val (.ref ub), .val (.int nua1), .val (.int (0 : Int32)), .val (.ref sa), .unset, .unset, .unset, .unset] [(.ref sb)]
    refine w.astore #[.val (.int i0), .val (.int i1), .val (.int i2), .val (.int i3), .val (.int i4), .val (.int x0), .val (.int x1), .val (.int y0), .val (.int y1), .val (.int (2 : Int32)), .val (.int (0 : Int32)), .val (.ref ua), .val (.ref ub), .val (.int nua1), .val (.int (0 : Int32)), .val (.ref sa), .val (.ref sb), .unset, .unset, .unset] d0_168 rfl rfl ?_
    refine w.iload d0_170 rfl ?_
    refine w.ifLe d0_172 d0_172t (fun q => absurd (by decide) q) (fun _ => ?_)
    refine w.iload d0_175 rfl ?_
    refine w.ifLe d0_177 d0_177t (fun _ => ?_) (fun q => absurd q (by decide))
    refine w.iload d0_204 rfl ?_
    refine w.iconst (1 : Int32) d0_206 rfl ?_
    refine w.icmpLe d0_207 d0_207t (fun q => absurd (by decide) q) (fun _ => ?_)
    refine w.iload d0_210 rfl ?_
    refine w.iconst (1 : Int32) d0_212 rfl ?_
    refine w.icmpLe d0_213 d0_213t (fun _ => ?_) (fun q => absurd q (by decide))
    refine w.iload d0_240 rfl ?_
    refine w.iload d0_242 rfl ?_
    refine w.icmpGe d0_244 d0_244t (fun _ => ?_) (fun q => absurd q (by decide))
    refine w.iload d0_251 rfl ?_
    refine w.iload d0_253 rfl ?_
    refine w.icmpLe d0_255 d0_255t (fun q => absurd (by decide) q) (fun _ => ?_)
    refine w.iconst (1 : Int32) d0_258 rfl ?_
    refine w.goto d0_259 d0_259t ?_
    refine w.istore #[.val (.int i0), .val (.int i1), .val (.int i2), .val (.int i3), .val (.int i4), .val (.int x0), .val (.int x1), .val (.int y0), .val (.int y1), .val (.int (2 : Int32)), .val (.int (0 : Int32)), .val (.ref ua), .val (.ref ub), .val (.int nua1), .val (.int (0 : Int32)), .val (.ref sa), .val (.ref sb), .val (.int (1 : Int32)), .unset, .unset] d0_263 rfl ?_
    refine w.aload d0_265 rfl rfl ?_
    refine w.aload d0_267 rfl rfl ?_
    refine w.callS (argsL := [(.ref sa), (.ref sb)]) (rest := []) 0 d0_269 (tw hw 34 rfl) (tw hw 35 rfl) (tw hw 36 rfl) (tw hw 37 rfl) (by decide) (Ct.mono (Q' := fun r u => r = some (.int (1 : Int32)) ∧ h49 = u) (rmCmp_2_0 l Z a0 hw hr sa sb x0 x1 h49 w.old Sa Sb Vx0 Vx1) (fun v u q => ⟨q.1.trans (congrArg (fun z => some (Value.int z)) rfl), q.2⟩)) (lenOf pd_20 rfl) rfl rfl (Nat.le_refl _) ⟨by decide, by decide, by decide, by decide⟩ all0 ?_
    intro T h50 r w _ hQ
    obtain ⟨rfl, rfl⟩ := hQ
    show Go cx _ Z _ _ _ T 272 #[.val (.int i0), .val (.int i1), .val (.int i2), .val (.int i3), .val (.int i4), .val (.int x0), .val (.int x1), .val (.int y0), .val (.int y1), .val (.int (2 : Int32)), .val (.int (0 : Int32)), .val (.ref ua), .val (.ref ub), .val (.int nua1), .val (.int (0 : Int32)), .val (.ref sa), .val (.ref sb), .val (.int (1 : Int32)), .unset, .unset] [(.int (1 : Int32))]
    refine w.istore #[.val (.int i0), .val (.int i1), .val (.int i2), .val (.int i3), .val (.int i4), .val (.int x0), .val (.int x1), .val (.int y0), .val (.int y1), .val (.int (2 : Int32)), .val (.int (0 : Int32)), .val (.ref ua), .val (.ref ub), .val (.int nua1), .val (.int (0 : Int32)), .val (.ref sa), .val (.ref sb), .val (.int (1 : Int32)), .val (.int (1 : Int32)), .unset] d0_272 rfl ?_
    refine w.iload d0_274 rfl ?_
    refine w.ifGe d0_276 d0_276t (fun _ => ?_) (fun q => absurd q (by decide))
    refine w.iload d0_283 rfl ?_
    refine w.ifLe d0_285 d0_285t (fun q => absurd (by decide) q) (fun _ => ?_)
    refine w.iconst (1 : Int32) d0_288 rfl ?_
    refine w.goto d0_289 d0_289t ?_
    refine w.istore #[.val (.int i0), .val (.int i1), .val (.int i2), .val (.int i3), .val (.int i4), .val (.int x0), .val (.int x1), .val (.int y0), .val (.int y1), .val (.int (2 : Int32)), .val (.int (0 : Int32)), .val (.ref ua), .val (.ref ub), .val (.int nua1), .val (.int (0 : Int32)), .val (.ref sa), .val (.ref sb), .val (.int (1 : Int32)), .val (.int (1 : Int32)), .val (.int (1 : Int32))] d0_293 rfl ?_
    refine w.iload d0_295 rfl ?_
    refine w.iload d0_297 rfl ?_
    refine w.icmpNe d0_299 d0_299t (fun q => absurd rfl q) (fun _ => ?_)
    refine w.iconst (1 : Int32) d0_302 rfl ?_
    refine w.goto d0_303 d0_303t ?_
    exact w.retN d0_307 rfl (by simp) rfl
  · skip
    refine w.iconst (4 : Int32) d0_70 rfl ?_
    have sz0 := w.size
    refine w.newP 4 "[C" d0_71 (tw hw 9 rfl) (by decide) (by decide) (by decide) (by decide) ⟨by decide, by decide⟩ ?_
    intro ua T h51 kua g_ua w E_ua A_ua X_ua
    have ge_ua : Z.heap.size ≤ ua := by rw [g_ua]; exact sz0
    refine w.astore #[.val (.int i0), .val (.int i1), .val (.int i2), .val (.int i3), .val (.int i4), .val (.int x0), .val (.int x1), .val (.int y0), .val (.int y1), .val (.int (2 : Int32)), .val (.int (1 : Int32)), .val (.ref ua), .unset, .unset, .unset, .unset, .unset, .unset, .unset, .unset] d0_73 rfl rfl ?_
    refine w.iconst (4 : Int32) d0_75 rfl ?_
    have sz0 := w.size
    refine w.newP 4 "[C" d0_76 (tw hw 9 rfl) (by decide) (by decide) (by decide) (by decide) ⟨by decide, by decide⟩ ?_
    intro ub T h52 kub g_ub w E_ub A_ub X_ub
    have ge_ub : Z.heap.size ≤ ub := by rw [g_ub]; exact sz0
    have Ua : UP0 Z h52 ua kua 0 := ⟨rfl, A_ua.ext E_ub⟩
    have Ub : UP0 Z h52 ub kub 0 := ⟨rfl, A_ub⟩
    have nab : ua ≠ ub := Nat.ne_of_lt (Nat.lt_of_lt_of_eq A_ua.lt g_ub.symm)
    refine w.astore #[.val (.int i0), .val (.int i1), .val (.int i2), .val (.int i3), .val (.int i4), .val (.int x0), .val (.int x1), .val (.int y0), .val (.int y1), .val (.int (2 : Int32)), .val (.int (1 : Int32)), .val (.ref ua), .val (.ref ub), .unset, .unset, .unset, .unset, .unset, .unset, .unset] d0_78 rfl rfl ?_
    refine w.iconst (0 : Int32) d0_80 rfl ?_
    refine w.istore #[.val (.int i0), .val (.int i1), .val (.int i2), .val (.int i3), .val (.int i4), .val (.int x0), .val (.int x1), .val (.int y0), .val (.int y1), .val (.int (2 : Int32)), .val (.int (1 : Int32)), .val (.ref ua), .val (.ref ub), .val (.int (0 : Int32)), .unset, .unset, .unset, .unset, .unset, .unset] d0_81 rfl ?_
    refine w.iload d0_83 rfl ?_
    refine w.ifLe d0_85 d0_85t (fun q => absurd (by decide) q) (fun _ => ?_)
    refine w.aload d0_88 rfl rfl ?_
    refine w.iload d0_90 rfl ?_
    refine w.iload d0_92 rfl ?_
    refine w.callS (argsL := [(.ref ua), (.int (0 : Int32)), (.int x0)]) (rest := []) 0 d0_94 (tw hw 53 rfl) (tw hw 54 rfl) (tw hw 2 rfl) (tw hw 55 rfl) (by decide) (rmPut1 l Z a0 hw ua kua (0 : Int32) x0 h52 w.old ge_ua Ua Vx0) (lenOf pd_21 rfl) rfl rfl (Nat.le_refl _) ⟨by decide, by decide, by decide, by decide⟩ (allS (List.mem_of_getElem? (i := 1) rfl) all0) ?_
    intro T h53 r w _ hQ
    obtain ⟨nua0, rfl, Kua0, Ua⟩ := hQ
    have Ub := Ub.keep Kua0 (ninS (Ne.symm nab) nin0)
    show Go cx _ Z _ _ _ T 97 #[.val (.int i0), .val (.int i1), .val (.int i2), .val (.int i3), .val (.int i4), .val (.int x0), .val (.int x1), .val (.int y0), .val (.int y1), .val (.int (2 : Int32)), .val (.int (1 : Int32)), .val (.ref ua), .val (.ref ub), .val (.int (0 : Int32)), .unset, .unset, .unset, .unset, .unset, .unset] [(.int nua0)]
    refine w.istore #[.val (.int i0), .val (.int i1), .val (.int i2), .val (.int i3), .val (.int i4), .val (.int x0), .val (.int x1), .val (.int y0), .val (.int y1), .val (.int (2 : Int32)), .val (.int (1 : Int32)), .val (.ref ua), .val (.ref ub), .val (.int nua0), .unset, .unset, .unset, .unset, .unset, .unset] d0_97 rfl ?_
    refine w.iload d0_99 rfl ?_
    refine w.iconst (1 : Int32) d0_101 rfl ?_
    refine w.icmpLe d0_102 d0_102t (fun q => absurd (by decide) q) (fun _ => ?_)
    refine w.aload d0_105 rfl rfl ?_
    refine w.iload d0_107 rfl ?_
    refine w.iload d0_109 rfl ?_
    refine w.callS (argsL := [(.ref ua), (.int nua0), (.int x1)]) (rest := []) 0 d0_111 (tw hw 53 rfl) (tw hw 54 rfl) (tw hw 2 rfl) (tw hw 55 rfl) (by decide) (rmPut2 l Z a0 hw ua kua nua0 x0 x1 h53 w.old ge_ua Ua Vx1) (lenOf pd_21 rfl) rfl rfl (Nat.le_refl _) ⟨by decide, by decide, by decide, by decide⟩ (allS (List.mem_of_getElem? (i := 1) rfl) all0) ?_
    intro T h54 r w _ hQ
    obtain ⟨nua1, rfl, Kua1, Ua⟩ := hQ
    have Ub := Ub.keep Kua1 (ninS (Ne.symm nab) nin0)
    show Go cx _ Z _ _ _ T 114 #[.val (.int i0), .val (.int i1), .val (.int i2), .val (.int i3), .val (.int i4), .val (.int x0), .val (.int x1), .val (.int y0), .val (.int y1), .val (.int (2 : Int32)), .val (.int (1 : Int32)), .val (.ref ua), .val (.ref ub), .val (.int nua0), .unset, .unset, .unset, .unset, .unset, .unset] [(.int nua1)]
    refine w.istore #[.val (.int i0), .val (.int i1), .val (.int i2), .val (.int i3), .val (.int i4), .val (.int x0), .val (.int x1), .val (.int y0), .val (.int y1), .val (.int (2 : Int32)), .val (.int (1 : Int32)), .val (.ref ua), .val (.ref ub), .val (.int nua1), .unset, .unset, .unset, .unset, .unset, .unset] d0_114 rfl ?_
    refine w.iconst (0 : Int32) d0_116 rfl ?_
    refine w.istore #[.val (.int i0), .val (.int i1), .val (.int i2), .val (.int i3), .val (.int i4), .val (.int x0), .val (.int x1), .val (.int y0), .val (.int y1), .val (.int (2 : Int32)), .val (.int (1 : Int32)), .val (.ref ua), .val (.ref ub), .val (.int nua1), .val (.int (0 : Int32)), .unset, .unset, .unset, .unset, .unset] d0_117 rfl ?_
    refine w.iload d0_119 rfl ?_
    refine w.ifLe d0_121 d0_121t (fun q => absurd (by decide) q) (fun _ => ?_)
    refine w.aload d0_124 rfl rfl ?_
    refine w.iload d0_126 rfl ?_
    refine w.iload d0_128 rfl ?_
    refine w.callS (argsL := [(.ref ub), (.int (0 : Int32)), (.int y0)]) (rest := []) 0 d0_130 (tw hw 53 rfl) (tw hw 54 rfl) (tw hw 2 rfl) (tw hw 55 rfl) (by decide) (rmPut1 l Z a0 hw ub kub (0 : Int32) y0 h54 w.old ge_ub Ub Vy0) (lenOf pd_21 rfl) rfl rfl (Nat.le_refl _) ⟨by decide, by decide, by decide, by decide⟩ (allS (List.mem_of_getElem? (i := 0) rfl) all0) ?_
    intro T h55 r w _ hQ
    obtain ⟨nub0, rfl, Kub0, Ub⟩ := hQ
    have Ua := Ua.keep Kub0 (ninS nab nin0)
    show Go cx _ Z _ _ _ T 133 #[.val (.int i0), .val (.int i1), .val (.int i2), .val (.int i3), .val (.int i4), .val (.int x0), .val (.int x1), .val (.int y0), .val (.int y1), .val (.int (2 : Int32)), .val (.int (1 : Int32)), .val (.ref ua), .val (.ref ub), .val (.int nua1), .val (.int (0 : Int32)), .unset, .unset, .unset, .unset, .unset] [(.int nub0)]
    refine w.istore #[.val (.int i0), .val (.int i1), .val (.int i2), .val (.int i3), .val (.int i4), .val (.int x0), .val (.int x1), .val (.int y0), .val (.int y1), .val (.int (2 : Int32)), .val (.int (1 : Int32)), .val (.ref ua), .val (.ref ub), .val (.int nua1), .val (.int nub0), .unset, .unset, .unset, .unset, .unset] d0_133 rfl ?_
    refine w.iload d0_135 rfl ?_
    refine w.iconst (1 : Int32) d0_137 rfl ?_
    refine w.icmpLe d0_138 d0_138t (fun _ => ?_) (fun q => absurd q (by decide))
    refine w.aload d0_152 rfl rfl ?_
    refine w.iload d0_154 rfl ?_
    refine w.callS (argsL := [(.ref ua), (.int nua1)]) (rest := []) 0 d0_156 (tw hw 10 rfl) (tw hw 11 rfl) (tw hw 2 rfl) (tw hw 12 rfl) (by decide) (rmStr2 l Z a0 hw hr ua kua nua1 x0 x1 h55 w.old Ua Vx0 Vx1) (lenOf pd_19 rfl) rfl rfl (Nat.le_refl _) ⟨by decide, by decide, by decide, by decide⟩ all0 ?_
    intro T h56 r w _ hQ
    obtain ⟨sa, rfl, Es_sa, Sa⟩ := hQ
    have Ub := Ub.ext Es_sa
    show Go cx _ Z _ _ _ T 159 #[.val (.int i0), .val (.int i1), .val (.int i2), .val (.int i3), .val (.int i4), .val (.int x0), .val (.int x1), .val (.int y0), .val (.int y1), .val (.int (2 : Int32)), .val (.int (1 : Int32)), .val (.ref ua), .val (.ref ub), .val (.int nua1), .val (.int nub0), .unset, .unset, .unset, .unset, .unset] [(.ref sa)]
    refine w.astore #[.val (.int i0), .val (.int i1), .val (.int i2), .val (.int i3), .val (.int i4), .val (.int x0), .val (.int x1), .val (.int y0), .val (.int y1), .val (.int (2 : Int32)), .val (.int (1 : Int32)), .val (.ref ua), .val (.ref ub), .val (.int nua1), .val (.int nub0), .val (.ref sa), .unset, .unset, .unset, .unset] d0_159 rfl rfl ?_
    refine w.aload d0_161 rfl rfl ?_
    refine w.iload d0_163 rfl ?_
    refine w.callS (argsL := [(.ref ub), (.int nub0)]) (rest := []) 0 d0_165 (tw hw 10 rfl) (tw hw 11 rfl) (tw hw 2 rfl) (tw hw 12 rfl) (by decide) (rmStr1 l Z a0 hw hr ub kub nub0 y0 h56 w.old Ub Vy0) (lenOf pd_19 rfl) rfl rfl (Nat.le_refl _) ⟨by decide, by decide, by decide, by decide⟩ all0 ?_
    intro T h57 r w _ hQ
    obtain ⟨sb, rfl, Es_sb, Sb⟩ := hQ
    have Sa := Sa.ext Es_sb
    show Go cx _ Z _ _ _ T 168 #[.val (.int i0), .val (.int i1), .val (.int i2), .val (.int i3), .val (.int i4), .val (.int x0), .val (.int x1), .val (.int y0), .val (.int y1), .val (.int (2 : Int32)), .val (.int (1 : Int32)), .val (.ref ua), .val (.ref ub), .val (.int nua1), .val (.int nub0), .val (.ref sa), .unset, .unset, .unset, .unset] [(.ref sb)]
    refine w.astore #[.val (.int i0), .val (.int i1), .val (.int i2), .val (.int i3), .val (.int i4), .val (.int x0), .val (.int x1), .val (.int y0), .val (.int y1), .val (.int (2 : Int32)), .val (.int (1 : Int32)), .val (.ref ua), .val (.ref ub), .val (.int nua1), .val (.int nub0), .val (.ref sa), .val (.ref sb), .unset, .unset, .unset] d0_168 rfl rfl ?_
    refine w.iload d0_170 rfl ?_
    refine w.ifLe d0_172 d0_172t (fun q => absurd (by decide) q) (fun _ => ?_)
    refine w.iload d0_175 rfl ?_
    refine w.ifLe d0_177 d0_177t (fun q => absurd (by decide) q) (fun _ => ?_)
    refine w.iload d0_180 rfl ?_
    refine w.iload d0_182 rfl ?_
    refine w.icmpEq d0_184 d0_184t (fun q0 => ?_) (fun q0 => ?_)
    · refine w.iload d0_204 rfl ?_
      refine w.iconst (1 : Int32) d0_206 rfl ?_
      refine w.icmpLe d0_207 d0_207t (fun q => absurd (by decide) q) (fun _ => ?_)
      refine w.iload d0_210 rfl ?_
      refine w.iconst (1 : Int32) d0_212 rfl ?_
      refine w.icmpLe d0_213 d0_213t (fun _ => ?_) (fun q => absurd q (by decide))
      refine w.iload d0_240 rfl ?_
      refine w.iload d0_242 rfl ?_
      refine w.icmpGe d0_244 d0_244t (fun _ => ?_) (fun q => absurd q (by decide))
      refine w.iload d0_251 rfl ?_
      refine w.iload d0_253 rfl ?_
      refine w.icmpLe d0_255 d0_255t (fun q => absurd (by decide) q) (fun _ => ?_)
      refine w.iconst (1 : Int32) d0_258 rfl ?_
      refine w.goto d0_259 d0_259t ?_
      refine w.istore #[.val (.int i0), .val (.int i1), .val (.int i2), .val (.int i3), .val (.int i4), .val (.int x0), .val (.int x1), .val (.int y0), .val (.int y1), .val (.int (2 : Int32)), .val (.int (1 : Int32)), .val (.ref ua), .val (.ref ub), .val (.int nua1), .val (.int nub0), .val (.ref sa), .val (.ref sb), .val (.int (1 : Int32)), .unset, .unset] d0_263 rfl ?_
      refine w.aload d0_265 rfl rfl ?_
      refine w.aload d0_267 rfl rfl ?_
      refine w.callS (argsL := [(.ref sa), (.ref sb)]) (rest := []) 0 d0_269 (tw hw 34 rfl) (tw hw 35 rfl) (tw hw 36 rfl) (tw hw 37 rfl) (by decide) (Ct.mono (Q' := fun r u => r = some (.int (1 : Int32)) ∧ h57 = u) (rmCmp_2_1 l Z a0 hw hr sa sb x0 x1 y0 h57 w.old Sa Sb Vx0 Vx1 Vy0) (fun v u q => ⟨q.1.trans (congrArg (fun z => some (Value.int z)) (by rw [if_pos q0])), q.2⟩)) (lenOf pd_20 rfl) rfl rfl (Nat.le_refl _) ⟨by decide, by decide, by decide, by decide⟩ all0 ?_
      intro T h58 r w _ hQ
      obtain ⟨rfl, rfl⟩ := hQ
      show Go cx _ Z _ _ _ T 272 #[.val (.int i0), .val (.int i1), .val (.int i2), .val (.int i3), .val (.int i4), .val (.int x0), .val (.int x1), .val (.int y0), .val (.int y1), .val (.int (2 : Int32)), .val (.int (1 : Int32)), .val (.ref ua), .val (.ref ub), .val (.int nua1), .val (.int nub0), .val (.ref sa), .val (.ref sb), .val (.int (1 : Int32)), .unset, .unset] [(.int (1 : Int32))]
      refine w.istore #[.val (.int i0), .val (.int i1), .val (.int i2), .val (.int i3), .val (.int i4), .val (.int x0), .val (.int x1), .val (.int y0), .val (.int y1), .val (.int (2 : Int32)), .val (.int (1 : Int32)), .val (.ref ua), .val (.ref ub), .val (.int nua1), .val (.int nub0), .val (.ref sa), .val (.ref sb), .val (.int (1 : Int32)), .val (.int (1 : Int32)), .unset] d0_272 rfl ?_
      refine w.iload d0_274 rfl ?_
      refine w.ifGe d0_276 d0_276t (fun _ => ?_) (fun q => absurd q (by decide))
      refine w.iload d0_283 rfl ?_
      refine w.ifLe d0_285 d0_285t (fun q => absurd (by decide) q) (fun _ => ?_)
      refine w.iconst (1 : Int32) d0_288 rfl ?_
      refine w.goto d0_289 d0_289t ?_
      refine w.istore #[.val (.int i0), .val (.int i1), .val (.int i2), .val (.int i3), .val (.int i4), .val (.int x0), .val (.int x1), .val (.int y0), .val (.int y1), .val (.int (2 : Int32)), .val (.int (1 : Int32)), .val (.ref ua), .val (.ref ub), .val (.int nua1), .val (.int nub0), .val (.ref sa), .val (.ref sb), .val (.int (1 : Int32)), .val (.int (1 : Int32)), .val (.int (1 : Int32))] d0_293 rfl ?_
      refine w.iload d0_295 rfl ?_
      refine w.iload d0_297 rfl ?_
      refine w.icmpNe d0_299 d0_299t (fun q => absurd rfl q) (fun _ => ?_)
      refine w.iconst (1 : Int32) d0_302 rfl ?_
      refine w.goto d0_303 d0_303t ?_
      exact w.retN d0_307 rfl (by simp) rfl
    · refine w.iload d0_187 rfl ?_
      refine w.iload d0_189 rfl ?_
      refine w.icmpGe d0_191 d0_191t (fun q1 => ?_) (fun q1 => ?_)
      · refine w.iconst (1 : Int32) d0_198 rfl ?_
        refine w.istore #[.val (.int i0), .val (.int i1), .val (.int i2), .val (.int i3), .val (.int i4), .val (.int x0), .val (.int x1), .val (.int y0), .val (.int y1), .val (.int (2 : Int32)), .val (.int (1 : Int32)), .val (.ref ua), .val (.ref ub), .val (.int nua1), .val (.int nub0), .val (.ref sa), .val (.ref sb), .val (.int (1 : Int32)), .unset, .unset] d0_199 rfl ?_
        refine w.goto d0_201 d0_201t ?_
        refine w.aload d0_265 rfl rfl ?_
        refine w.aload d0_267 rfl rfl ?_
        refine w.callS (argsL := [(.ref sa), (.ref sb)]) (rest := []) 0 d0_269 (tw hw 34 rfl) (tw hw 35 rfl) (tw hw 36 rfl) (tw hw 37 rfl) (by decide) (Ct.mono (Q' := fun r u => r = some (.int (1 : Int32)) ∧ h57 = u) (rmCmp_2_1 l Z a0 hw hr sa sb x0 x1 y0 h57 w.old Sa Sb Vx0 Vx1 Vy0) (fun v u q => ⟨q.1.trans (congrArg (fun z => some (Value.int z)) (by rw [if_neg q0, if_neg q1])), q.2⟩)) (lenOf pd_20 rfl) rfl rfl (Nat.le_refl _) ⟨by decide, by decide, by decide, by decide⟩ all0 ?_
        intro T h59 r w _ hQ
        obtain ⟨rfl, rfl⟩ := hQ
        show Go cx _ Z _ _ _ T 272 #[.val (.int i0), .val (.int i1), .val (.int i2), .val (.int i3), .val (.int i4), .val (.int x0), .val (.int x1), .val (.int y0), .val (.int y1), .val (.int (2 : Int32)), .val (.int (1 : Int32)), .val (.ref ua), .val (.ref ub), .val (.int nua1), .val (.int nub0), .val (.ref sa), .val (.ref sb), .val (.int (1 : Int32)), .unset, .unset] [(.int (1 : Int32))]
        refine w.istore #[.val (.int i0), .val (.int i1), .val (.int i2), .val (.int i3), .val (.int i4), .val (.int x0), .val (.int x1), .val (.int y0), .val (.int y1), .val (.int (2 : Int32)), .val (.int (1 : Int32)), .val (.ref ua), .val (.ref ub), .val (.int nua1), .val (.int nub0), .val (.ref sa), .val (.ref sb), .val (.int (1 : Int32)), .val (.int (1 : Int32)), .unset] d0_272 rfl ?_
        refine w.iload d0_274 rfl ?_
        refine w.ifGe d0_276 d0_276t (fun _ => ?_) (fun q => absurd q (by decide))
        refine w.iload d0_283 rfl ?_
        refine w.ifLe d0_285 d0_285t (fun q => absurd (by decide) q) (fun _ => ?_)
        refine w.iconst (1 : Int32) d0_288 rfl ?_
        refine w.goto d0_289 d0_289t ?_
        refine w.istore #[.val (.int i0), .val (.int i1), .val (.int i2), .val (.int i3), .val (.int i4), .val (.int x0), .val (.int x1), .val (.int y0), .val (.int y1), .val (.int (2 : Int32)), .val (.int (1 : Int32)), .val (.ref ua), .val (.ref ub), .val (.int nua1), .val (.int nub0), .val (.ref sa), .val (.ref sb), .val (.int (1 : Int32)), .val (.int (1 : Int32)), .val (.int (1 : Int32))] d0_293 rfl ?_
        refine w.iload d0_295 rfl ?_
        refine w.iload d0_297 rfl ?_
        refine w.icmpNe d0_299 d0_299t (fun q => absurd rfl q) (fun _ => ?_)
        refine w.iconst (1 : Int32) d0_302 rfl ?_
        refine w.goto d0_303 d0_303t ?_
        exact w.retN d0_307 rfl (by simp) rfl
      · refine w.iconst (-1 : Int32) d0_194 rfl ?_
        refine w.goto d0_195 d0_195t ?_
        refine w.istore #[.val (.int i0), .val (.int i1), .val (.int i2), .val (.int i3), .val (.int i4), .val (.int x0), .val (.int x1), .val (.int y0), .val (.int y1), .val (.int (2 : Int32)), .val (.int (1 : Int32)), .val (.ref ua), .val (.ref ub), .val (.int nua1), .val (.int nub0), .val (.ref sa), .val (.ref sb), .val (.int (-1 : Int32)), .unset, .unset] d0_199 rfl ?_
        refine w.goto d0_201 d0_201t ?_
        refine w.aload d0_265 rfl rfl ?_
        refine w.aload d0_267 rfl rfl ?_
        refine w.callS (argsL := [(.ref sa), (.ref sb)]) (rest := []) 0 d0_269 (tw hw 34 rfl) (tw hw 35 rfl) (tw hw 36 rfl) (tw hw 37 rfl) (by decide) (Ct.mono (Q' := fun r u => r = some (.int (-1 : Int32)) ∧ h57 = u) (rmCmp_2_1 l Z a0 hw hr sa sb x0 x1 y0 h57 w.old Sa Sb Vx0 Vx1 Vy0) (fun v u q => ⟨q.1.trans (congrArg (fun z => some (Value.int z)) (by rw [if_neg q0, if_pos q1])), q.2⟩)) (lenOf pd_20 rfl) rfl rfl (Nat.le_refl _) ⟨by decide, by decide, by decide, by decide⟩ all0 ?_
        intro T h60 r w _ hQ
        obtain ⟨rfl, rfl⟩ := hQ
        show Go cx _ Z _ _ _ T 272 #[.val (.int i0), .val (.int i1), .val (.int i2), .val (.int i3), .val (.int i4), .val (.int x0), .val (.int x1), .val (.int y0), .val (.int y1), .val (.int (2 : Int32)), .val (.int (1 : Int32)), .val (.ref ua), .val (.ref ub), .val (.int nua1), .val (.int nub0), .val (.ref sa), .val (.ref sb), .val (.int (-1 : Int32)), .unset, .unset] [(.int (-1 : Int32))]
        refine w.istore #[.val (.int i0), .val (.int i1), .val (.int i2), .val (.int i3), .val (.int i4), .val (.int x0), .val (.int x1), .val (.int y0), .val (.int y1), .val (.int (2 : Int32)), .val (.int (1 : Int32)), .val (.ref ua), .val (.ref ub), .val (.int nua1), .val (.int nub0), .val (.ref sa), .val (.ref sb), .val (.int (-1 : Int32)), .val (.int (-1 : Int32)), .unset] d0_272 rfl ?_
        refine w.iload d0_274 rfl ?_
        refine w.ifGe d0_276 d0_276t (fun q => absurd (by decide) q) (fun _ => ?_)
        refine w.iconst (-1 : Int32) d0_279 rfl ?_
        refine w.goto d0_280 d0_280t ?_
        refine w.istore #[.val (.int i0), .val (.int i1), .val (.int i2), .val (.int i3), .val (.int i4), .val (.int x0), .val (.int x1), .val (.int y0), .val (.int y1), .val (.int (2 : Int32)), .val (.int (1 : Int32)), .val (.ref ua), .val (.ref ub), .val (.int nua1), .val (.int nub0), .val (.ref sa), .val (.ref sb), .val (.int (-1 : Int32)), .val (.int (-1 : Int32)), .val (.int (-1 : Int32))] d0_293 rfl ?_
        refine w.iload d0_295 rfl ?_
        refine w.iload d0_297 rfl ?_
        refine w.icmpNe d0_299 d0_299t (fun q => absurd rfl q) (fun _ => ?_)
        refine w.iconst (1 : Int32) d0_302 rfl ?_
        refine w.goto d0_303 d0_303t ?_
        exact w.retN d0_307 rfl (by simp) rfl
  · skip
    refine w.iconst (4 : Int32) d0_70 rfl ?_
    have sz0 := w.size
    refine w.newP 4 "[C" d0_71 (tw hw 9 rfl) (by decide) (by decide) (by decide) (by decide) ⟨by decide, by decide⟩ ?_
    intro ua T h61 kua g_ua w E_ua A_ua X_ua
    have ge_ua : Z.heap.size ≤ ua := by rw [g_ua]; exact sz0
    refine w.astore #[.val (.int i0), .val (.int i1), .val (.int i2), .val (.int i3), .val (.int i4), .val (.int x0), .val (.int x1), .val (.int y0), .val (.int y1), .val (.int (2 : Int32)), .val (.int (2 : Int32)), .val (.ref ua), .unset, .unset, .unset, .unset, .unset, .unset, .unset, .unset] d0_73 rfl rfl ?_
    refine w.iconst (4 : Int32) d0_75 rfl ?_
    have sz0 := w.size
    refine w.newP 4 "[C" d0_76 (tw hw 9 rfl) (by decide) (by decide) (by decide) (by decide) ⟨by decide, by decide⟩ ?_
    intro ub T h62 kub g_ub w E_ub A_ub X_ub
    have ge_ub : Z.heap.size ≤ ub := by rw [g_ub]; exact sz0
    have Ua : UP0 Z h62 ua kua 0 := ⟨rfl, A_ua.ext E_ub⟩
    have Ub : UP0 Z h62 ub kub 0 := ⟨rfl, A_ub⟩
    have nab : ua ≠ ub := Nat.ne_of_lt (Nat.lt_of_lt_of_eq A_ua.lt g_ub.symm)
    refine w.astore #[.val (.int i0), .val (.int i1), .val (.int i2), .val (.int i3), .val (.int i4), .val (.int x0), .val (.int x1), .val (.int y0), .val (.int y1), .val (.int (2 : Int32)), .val (.int (2 : Int32)), .val (.ref ua), .val (.ref ub), .unset, .unset, .unset, .unset, .unset, .unset, .unset] d0_78 rfl rfl ?_
    refine w.iconst (0 : Int32) d0_80 rfl ?_
    refine w.istore #[.val (.int i0), .val (.int i1), .val (.int i2), .val (.int i3), .val (.int i4), .val (.int x0), .val (.int x1), .val (.int y0), .val (.int y1), .val (.int (2 : Int32)), .val (.int (2 : Int32)), .val (.ref ua), .val (.ref ub), .val (.int (0 : Int32)), .unset, .unset, .unset, .unset, .unset, .unset] d0_81 rfl ?_
    refine w.iload d0_83 rfl ?_
    refine w.ifLe d0_85 d0_85t (fun q => absurd (by decide) q) (fun _ => ?_)
    refine w.aload d0_88 rfl rfl ?_
    refine w.iload d0_90 rfl ?_
    refine w.iload d0_92 rfl ?_
    refine w.callS (argsL := [(.ref ua), (.int (0 : Int32)), (.int x0)]) (rest := []) 0 d0_94 (tw hw 53 rfl) (tw hw 54 rfl) (tw hw 2 rfl) (tw hw 55 rfl) (by decide) (rmPut1 l Z a0 hw ua kua (0 : Int32) x0 h62 w.old ge_ua Ua Vx0) (lenOf pd_21 rfl) rfl rfl (Nat.le_refl _) ⟨by decide, by decide, by decide, by decide⟩ (allS (List.mem_of_getElem? (i := 1) rfl) all0) ?_
    intro T h63 r w _ hQ
    obtain ⟨nua0, rfl, Kua0, Ua⟩ := hQ
    have Ub := Ub.keep Kua0 (ninS (Ne.symm nab) nin0)
    show Go cx _ Z _ _ _ T 97 #[.val (.int i0), .val (.int i1), .val (.int i2), .val (.int i3), .val (.int i4), .val (.int x0), .val (.int x1), .val (.int y0), .val (.int y1), .val (.int (2 : Int32)), .val (.int (2 : Int32)), .val (.ref ua), .val (.ref ub), .val (.int (0 : Int32)), .unset, .unset, .unset, .unset, .unset, .unset] [(.int nua0)]
    refine w.istore #[.val (.int i0), .val (.int i1), .val (.int i2), .val (.int i3), .val (.int i4), .val (.int x0), .val (.int x1), .val (.int y0), .val (.int y1), .val (.int (2 : Int32)), .val (.int (2 : Int32)), .val (.ref ua), .val (.ref ub), .val (.int nua0), .unset, .unset, .unset, .unset, .unset, .unset] d0_97 rfl ?_
    refine w.iload d0_99 rfl ?_
    refine w.iconst (1 : Int32) d0_101 rfl ?_
    refine w.icmpLe d0_102 d0_102t (fun q => absurd (by decide) q) (fun _ => ?_)
    refine w.aload d0_105 rfl rfl ?_
    refine w.iload d0_107 rfl ?_
    refine w.iload d0_109 rfl ?_
    refine w.callS (argsL := [(.ref ua), (.int nua0), (.int x1)]) (rest := []) 0 d0_111 (tw hw 53 rfl) (tw hw 54 rfl) (tw hw 2 rfl) (tw hw 55 rfl) (by decide) (rmPut2 l Z a0 hw ua kua nua0 x0 x1 h63 w.old ge_ua Ua Vx1) (lenOf pd_21 rfl) rfl rfl (Nat.le_refl _) ⟨by decide, by decide, by decide, by decide⟩ (allS (List.mem_of_getElem? (i := 1) rfl) all0) ?_
    intro T h64 r w _ hQ
    obtain ⟨nua1, rfl, Kua1, Ua⟩ := hQ
    have Ub := Ub.keep Kua1 (ninS (Ne.symm nab) nin0)
    show Go cx _ Z _ _ _ T 114 #[.val (.int i0), .val (.int i1), .val (.int i2), .val (.int i3), .val (.int i4), .val (.int x0), .val (.int x1), .val (.int y0), .val (.int y1), .val (.int (2 : Int32)), .val (.int (2 : Int32)), .val (.ref ua), .val (.ref ub), .val (.int nua0), .unset, .unset, .unset, .unset, .unset, .unset] [(.int nua1)]
    refine w.istore #[.val (.int i0), .val (.int i1), .val (.int i2), .val (.int i3), .val (.int i4), .val (.int x0), .val (.int x1), .val (.int y0), .val (.int y1), .val (.int (2 : Int32)), .val (.int (2 : Int32)), .val (.ref ua), .val (.ref ub), .val (.int nua1), .unset, .unset, .unset, .unset, .unset, .unset] d0_114 rfl ?_
    refine w.iconst (0 : Int32) d0_116 rfl ?_
    refine w.istore #[.val (.int i0), .val (.int i1), .val (.int i2), .val (.int i3), .val (.int i4), .val (.int x0), .val (.int x1), .val (.int y0), .val (.int y1), .val (.int (2 : Int32)), .val (.int (2 : Int32)), .val (.ref ua), .val (.ref ub), .val (.int nua1), .val (.int (0 : Int32)), .unset, .unset, .unset, .unset, .unset] d0_117 rfl ?_
    refine w.iload d0_119 rfl ?_
    refine w.ifLe d0_121 d0_121t (fun q => absurd (by decide) q) (fun _ => ?_)
    refine w.aload d0_124 rfl rfl ?_
    refine w.iload d0_126 rfl ?_
    refine w.iload d0_128 rfl ?_
    refine w.callS (argsL := [(.ref ub), (.int (0 : Int32)), (.int y0)]) (rest := []) 0 d0_130 (tw hw 53 rfl) (tw hw 54 rfl) (tw hw 2 rfl) (tw hw 55 rfl) (by decide) (rmPut1 l Z a0 hw ub kub (0 : Int32) y0 h64 w.old ge_ub Ub Vy0) (lenOf pd_21 rfl) rfl rfl (Nat.le_refl _) ⟨by decide, by decide, by decide, by decide⟩ (allS (List.mem_of_getElem? (i := 0) rfl) all0) ?_
    intro T h65 r w _ hQ
    obtain ⟨nub0, rfl, Kub0, Ub⟩ := hQ
    have Ua := Ua.keep Kub0 (ninS nab nin0)
    show Go cx _ Z _ _ _ T 133 #[.val (.int i0), .val (.int i1), .val (.int i2), .val (.int i3), .val (.int i4), .val (.int x0), .val (.int x1), .val (.int y0), .val (.int y1), .val (.int (2 : Int32)), .val (.int (2 : Int32)), .val (.ref ua), .val (.ref ub), .val (.int nua1), .val (.int (0 : Int32)), .unset, .unset, .unset, .unset, .unset] [(.int nub0)]
    refine w.istore #[.val (.int i0), .val (.int i1), .val (.int i2), .val (.int i3), .val (.int i4), .val (.int x0), .val (.int x1), .val (.int y0), .val (.int y1), .val (.int (2 : Int32)), .val (.int (2 : Int32)), .val (.ref ua), .val (.ref ub), .val (.int nua1), .val (.int nub0), .unset, .unset, .unset, .unset, .unset] d0_133 rfl ?_
    refine w.iload d0_135 rfl ?_
    refine w.iconst (1 : Int32) d0_137 rfl ?_
    refine w.icmpLe d0_138 d0_138t (fun q => absurd (by decide) q) (fun _ => ?_)
    refine w.aload d0_141 rfl rfl ?_
    refine w.iload d0_143 rfl ?_
    refine w.iload d0_145 rfl ?_
    refine w.callS (argsL := [(.ref ub), (.int nub0), (.int y1)]) (rest := []) 0 d0_147 (tw hw 53 rfl) (tw hw 54 rfl) (tw hw 2 rfl) (tw hw 55 rfl) (by decide) (rmPut2 l Z a0 hw ub kub nub0 y0 y1 h65 w.old ge_ub Ub Vy1) (lenOf pd_21 rfl) rfl rfl (Nat.le_refl _) ⟨by decide, by decide, by decide, by decide⟩ (allS (List.mem_of_getElem? (i := 0) rfl) all0) ?_
    intro T h66 r w _ hQ
    obtain ⟨nub1, rfl, Kub1, Ub⟩ := hQ
    have Ua := Ua.keep Kub1 (ninS nab nin0)
    show Go cx _ Z _ _ _ T 150 #[.val (.int i0), .val (.int i1), .val (.int i2), .val (.int i3), .val (.int i4), .val (.int x0), .val (.int x1), .val (.int y0), .val (.int y1), .val (.int (2 : Int32)), .val (.int (2 : Int32)), .val (.ref ua), .val (.ref ub), .val (.int nua1), .val (.int nub0), .unset, .unset, .unset, .unset, .unset] [(.int nub1)]
    refine w.istore #[.val (.int i0), .val (.int i1), .val (.int i2), .val (.int i3), .val (.int i4), .val (.int x0), .val (.int x1), .val (.int y0), .val (.int y1), .val (.int (2 : Int32)), .val (.int (2 : Int32)), .val (.ref ua), .val (.ref ub), .val (.int nua1), .val (.int nub1), .unset, .unset, .unset, .unset, .unset] d0_150 rfl ?_
    refine w.aload d0_152 rfl rfl ?_
    refine w.iload d0_154 rfl ?_
    refine w.callS (argsL := [(.ref ua), (.int nua1)]) (rest := []) 0 d0_156 (tw hw 10 rfl) (tw hw 11 rfl) (tw hw 2 rfl) (tw hw 12 rfl) (by decide) (rmStr2 l Z a0 hw hr ua kua nua1 x0 x1 h66 w.old Ua Vx0 Vx1) (lenOf pd_19 rfl) rfl rfl (Nat.le_refl _) ⟨by decide, by decide, by decide, by decide⟩ all0 ?_
    intro T h67 r w _ hQ
    obtain ⟨sa, rfl, Es_sa, Sa⟩ := hQ
    have Ub := Ub.ext Es_sa
    show Go cx _ Z _ _ _ T 159 #[.val (.int i0), .val (.int i1), .val (.int i2), .val (.int i3), .val (.int i4), .val (.int x0), .val (.int x1), .val (.int y0), .val (.int y1), .val (.int (2 : Int32)), .val (.int (2 : Int32)), .val (.ref ua), .val (.ref ub), .val (.int nua1), .val (.int nub1), .unset, .unset, .unset, .unset, .unset] [(.ref sa)]
    refine w.astore #[.val (.int i0), .val (.int i1), .val (.int i2), .val (.int i3), .val (.int i4), .val (.int x0), .val (.int x1), .val (.int y0), .val (.int y1), .val (.int (2 : Int32)), .val (.int (2 : Int32)), .val (.ref ua), .val (.ref ub), .val (.int nua1), .val (.int nub1), .val (.ref sa), .unset, .unset, .unset, .unset] d0_159 rfl rfl ?_
    refine w.aload d0_161 rfl rfl ?_
    refine w.iload d0_163 rfl ?_
    refine w.callS (argsL := [(.ref ub), (.int nub1)]) (rest := []) 0 d0_165 (tw hw 10 rfl) (tw hw 11 rfl) (tw hw 2 rfl) (tw hw 12 rfl) (by decide) (rmStr2 l Z a0 hw hr ub kub nub1 y0 y1 h67 w.old Ub Vy0 Vy1) (lenOf pd_19 rfl) rfl rfl (Nat.le_refl _) ⟨by decide, by decide, by decide, by decide⟩ all0 ?_
    intro T h68 r w _ hQ
    obtain ⟨sb, rfl, Es_sb, Sb⟩ := hQ
    have Sa := Sa.ext Es_sb
    show Go cx _ Z _ _ _ T 168 #[.val (.int i0), .val (.int i1), .val (.int i2), .val (.int i3), .val (.int i4), .val (.int x0), .val (.int x1), .val (.int y0), .val (.int y1), .val (.int (2 : Int32)), .val (.int (2 : Int32)), .val (.ref ua), .val (.ref ub), .val (.int nua1), .val (.int nub1), .val (.ref sa), .unset, .unset, .unset, .unset] [(.ref sb)]
    refine w.astore #[.val (.int i0), .val (.int i1), .val (.int i2), .val (.int i3), .val (.int i4), .val (.int x0), .val (.int x1), .val (.int y0), .val (.int y1), .val (.int (2 : Int32)), .val (.int (2 : Int32)), .val (.ref ua), .val (.ref ub), .val (.int nua1), .val (.int nub1), .val (.ref sa), .val (.ref sb), .unset, .unset, .unset] d0_168 rfl rfl ?_
    refine w.iload d0_170 rfl ?_
    refine w.ifLe d0_172 d0_172t (fun q => absurd (by decide) q) (fun _ => ?_)
    refine w.iload d0_175 rfl ?_
    refine w.ifLe d0_177 d0_177t (fun q => absurd (by decide) q) (fun _ => ?_)
    refine w.iload d0_180 rfl ?_
    refine w.iload d0_182 rfl ?_
    refine w.icmpEq d0_184 d0_184t (fun q0 => ?_) (fun q0 => ?_)
    · refine w.iload d0_204 rfl ?_
      refine w.iconst (1 : Int32) d0_206 rfl ?_
      refine w.icmpLe d0_207 d0_207t (fun q => absurd (by decide) q) (fun _ => ?_)
      refine w.iload d0_210 rfl ?_
      refine w.iconst (1 : Int32) d0_212 rfl ?_
      refine w.icmpLe d0_213 d0_213t (fun q => absurd (by decide) q) (fun _ => ?_)
      refine w.iload d0_216 rfl ?_
      refine w.iload d0_218 rfl ?_
      refine w.icmpEq d0_220 d0_220t (fun q2 => ?_) (fun q2 => ?_)
      · refine w.iload d0_240 rfl ?_
        refine w.iload d0_242 rfl ?_
        refine w.icmpGe d0_244 d0_244t (fun _ => ?_) (fun q => absurd q (by decide))
        refine w.iload d0_251 rfl ?_
        refine w.iload d0_253 rfl ?_
        refine w.icmpLe d0_255 d0_255t (fun _ => ?_) (fun q => absurd q (by decide))
        refine w.iconst (0 : Int32) d0_262 rfl ?_
        refine w.istore #[.val (.int i0), .val (.int i1), .val (.int i2), .val (.int i3), .val (.int i4), .val (.int x0), .val (.int x1), .val (.int y0), .val (.int y1), .val (.int (2 : Int32)), .val (.int (2 : Int32)), .val (.ref ua), .val (.ref ub), .val (.int nua1), .val (.int nub1), .val (.ref sa), .val (.ref sb), .val (.int (0 : Int32)), .unset, .unset] d0_263 rfl ?_
        refine w.aload d0_265 rfl rfl ?_
        refine w.aload d0_267 rfl rfl ?_
        refine w.callS (argsL := [(.ref sa), (.ref sb)]) (rest := []) 0 d0_269 (tw hw 34 rfl) (tw hw 35 rfl) (tw hw 36 rfl) (tw hw 37 rfl) (by decide) (Ct.mono (Q' := fun r u => r = some (.int (0 : Int32)) ∧ h68 = u) (rmCmp_2_2 l Z a0 hw hr sa sb x0 x1 y0 y1 h68 w.old Sa Sb Vx0 Vx1 Vy0 Vy1) (fun v u q => ⟨q.1.trans (congrArg (fun z => some (Value.int z)) (by rw [if_pos q0, if_pos q2])), q.2⟩)) (lenOf pd_20 rfl) rfl rfl (Nat.le_refl _) ⟨by decide, by decide, by decide, by decide⟩ all0 ?_
        intro T h69 r w _ hQ
        obtain ⟨rfl, rfl⟩ := hQ
        show Go cx _ Z _ _ _ T 272 #[.val (.int i0), .val (.int i1), .val (.int i2), .val (.int i3), .val (.int i4), .val (.int x0), .val (.int x1), .val (.int y0), .val (.int y1), .val (.int (2 : Int32)), .val (.int (2 : Int32)), .val (.ref ua), .val (.ref ub), .val (.int nua1), .val (.int nub1), .val (.ref sa), .val (.ref sb), .val (.int (0 : Int32)), .unset, .unset] [(.int (0 : Int32))]
        refine w.istore #[.val (.int i0), .val (.int i1), .val (.int i2), .val (.int i3), .val (.int i4), .val (.int x0), .val (.int x1), .val (.int y0), .val (.int y1), .val (.int (2 : Int32)), .val (.int (2 : Int32)), .val (.ref ua), .val (.ref ub), .val (.int nua1), .val (.int nub1), .val (.ref sa), .val (.ref sb), .val (.int (0 : Int32)), .val (.int (0 : Int32)), .unset] d0_272 rfl ?_
        refine w.iload d0_274 rfl ?_
        refine w.ifGe d0_276 d0_276t (fun _ => ?_) (fun q => absurd q (by decide))
        refine w.iload d0_283 rfl ?_
        refine w.ifLe d0_285 d0_285t (fun _ => ?_) (fun q => absurd q (by decide))
        refine w.iconst (0 : Int32) d0_292 rfl ?_
        refine w.istore #[.val (.int i0), .val (.int i1), .val (.int i2), .val (.int i3), .val (.int i4), .val (.int x0), .val (.int x1), .val (.int y0), .val (.int y1), .val (.int (2 : Int32)), .val (.int (2 : Int32)), .val (.ref ua), .val (.ref ub), .val (.int nua1), .val (.int nub1), .val (.ref sa), .val (.ref sb), .val (.int (0 : Int32)), .val (.int (0 : Int32)), .val (.int (0 : Int32))] d0_293 rfl ?_
        refine w.iload d0_295 rfl ?_
        refine w.iload d0_297 rfl ?_
        refine w.icmpNe d0_299 d0_299t (fun q => absurd rfl q) (fun _ => ?_)
        refine w.iconst (1 : Int32) d0_302 rfl ?_
        refine w.goto d0_303 d0_303t ?_
        exact w.retN d0_307 rfl (by simp) rfl
      · refine w.iload d0_223 rfl ?_
        refine w.iload d0_225 rfl ?_
        refine w.icmpGe d0_227 d0_227t (fun q3 => ?_) (fun q3 => ?_)
        · refine w.iconst (1 : Int32) d0_234 rfl ?_
          refine w.istore #[.val (.int i0), .val (.int i1), .val (.int i2), .val (.int i3), .val (.int i4), .val (.int x0), .val (.int x1), .val (.int y0), .val (.int y1), .val (.int (2 : Int32)), .val (.int (2 : Int32)), .val (.ref ua), .val (.ref ub), .val (.int nua1), .val (.int nub1), .val (.ref sa), .val (.ref sb), .val (.int (1 : Int32)), .unset, .unset] d0_235 rfl ?_
          refine w.goto d0_237 d0_237t ?_
          refine w.aload d0_265 rfl rfl ?_
          refine w.aload d0_267 rfl rfl ?_
          refine w.callS (argsL := [(.ref sa), (.ref sb)]) (rest := []) 0 d0_269 (tw hw 34 rfl) (tw hw 35 rfl) (tw hw 36 rfl) (tw hw 37 rfl) (by decide) (Ct.mono (Q' := fun r u => r = some (.int (1 : Int32)) ∧ h68 = u) (rmCmp_2_2 l Z a0 hw hr sa sb x0 x1 y0 y1 h68 w.old Sa Sb Vx0 Vx1 Vy0 Vy1) (fun v u q => ⟨q.1.trans (congrArg (fun z => some (Value.int z)) (by rw [if_pos q0, if_neg q2, if_neg q3])), q.2⟩)) (lenOf pd_20 rfl) rfl rfl (Nat.le_refl _) ⟨by decide, by decide, by decide, by decide⟩ all0 ?_
          intro T h70 r w _ hQ
          obtain ⟨rfl, rfl⟩ := hQ
          show Go cx _ Z _ _ _ T 272 #[.val (.int i0), .val (.int i1), .val (.int i2), .val (.int i3), .val (.int i4), .val (.int x0), .val (.int x1), .val (.int y0), .val (.int y1), .val (.int (2 : Int32)), .val (.int (2 : Int32)), .val (.ref ua), .val (.ref ub), .val (.int nua1), .val (.int nub1), .val (.ref sa), .val (.ref sb), .val (.int (1 : Int32)), .unset, .unset] [(.int (1 : Int32))]
          refine w.istore #[.val (.int i0), .val (.int i1), .val (.int i2), .val (.int i3), .val (.int i4), .val (.int x0), .val (.int x1), .val (.int y0), .val (.int y1), .val (.int (2 : Int32)), .val (.int (2 : Int32)), .val (.ref ua), .val (.ref ub), .val (.int nua1), .val (.int nub1), .val (.ref sa), .val (.ref sb), .val (.int (1 : Int32)), .val (.int (1 : Int32)), .unset] d0_272 rfl ?_
          refine w.iload d0_274 rfl ?_
          refine w.ifGe d0_276 d0_276t (fun _ => ?_) (fun q => absurd q (by decide))
          refine w.iload d0_283 rfl ?_
          refine w.ifLe d0_285 d0_285t (fun q => absurd (by decide) q) (fun _ => ?_)
          refine w.iconst (1 : Int32) d0_288 rfl ?_
          refine w.goto d0_289 d0_289t ?_
          refine w.istore #[.val (.int i0), .val (.int i1), .val (.int i2), .val (.int i3), .val (.int i4), .val (.int x0), .val (.int x1), .val (.int y0), .val (.int y1), .val (.int (2 : Int32)), .val (.int (2 : Int32)), .val (.ref ua), .val (.ref ub), .val (.int nua1), .val (.int nub1), .val (.ref sa), .val (.ref sb), .val (.int (1 : Int32)), .val (.int (1 : Int32)), .val (.int (1 : Int32))] d0_293 rfl ?_
          refine w.iload d0_295 rfl ?_
          refine w.iload d0_297 rfl ?_
          refine w.icmpNe d0_299 d0_299t (fun q => absurd rfl q) (fun _ => ?_)
          refine w.iconst (1 : Int32) d0_302 rfl ?_
          refine w.goto d0_303 d0_303t ?_
          exact w.retN d0_307 rfl (by simp) rfl
        · refine w.iconst (-1 : Int32) d0_230 rfl ?_
          refine w.goto d0_231 d0_231t ?_
          refine w.istore #[.val (.int i0), .val (.int i1), .val (.int i2), .val (.int i3), .val (.int i4), .val (.int x0), .val (.int x1), .val (.int y0), .val (.int y1), .val (.int (2 : Int32)), .val (.int (2 : Int32)), .val (.ref ua), .val (.ref ub), .val (.int nua1), .val (.int nub1), .val (.ref sa), .val (.ref sb), .val (.int (-1 : Int32)), .unset, .unset] d0_235 rfl ?_
          refine w.goto d0_237 d0_237t ?_
          refine w.aload d0_265 rfl rfl ?_
          refine w.aload d0_267 rfl rfl ?_
          refine w.callS (argsL := [(.ref sa), (.ref sb)]) (rest := []) 0 d0_269 (tw hw 34 rfl) (tw hw 35 rfl) (tw hw 36 rfl) (tw hw 37 rfl) (by decide) (Ct.mono (Q' := fun r u => r = some (.int (-1 : Int32)) ∧ h68 = u) (rmCmp_2_2 l Z a0 hw hr sa sb x0 x1 y0 y1 h68 w.old Sa Sb Vx0 Vx1 Vy0 Vy1) (fun v u q => ⟨q.1.trans (congrArg (fun z => some (Value.int z)) (by rw [if_pos q0, if_neg q2, if_pos q3])), q.2⟩)) (lenOf pd_20 rfl) rfl rfl (Nat.le_refl _) ⟨by decide, by decide, by decide, by decide⟩ all0 ?_
          intro T h71 r w _ hQ
          obtain ⟨rfl, rfl⟩ := hQ
          show Go cx _ Z _ _ _ T 272 #[.val (.int i0), .val (.int i1), .val (.int i2), .val (.int i3), .val (.int i4), .val (.int x0), .val (.int x1), .val (.int y0), .val (.int y1), .val (.int (2 : Int32)), .val (.int (2 : Int32)), .val (.ref ua), .val (.ref ub), .val (.int nua1), .val (.int nub1), .val (.ref sa), .val (.ref sb), .val (.int (-1 : Int32)), .unset, .unset] [(.int (-1 : Int32))]
          refine w.istore #[.val (.int i0), .val (.int i1), .val (.int i2), .val (.int i3), .val (.int i4), .val (.int x0), .val (.int x1), .val (.int y0), .val (.int y1), .val (.int (2 : Int32)), .val (.int (2 : Int32)), .val (.ref ua), .val (.ref ub), .val (.int nua1), .val (.int nub1), .val (.ref sa), .val (.ref sb), .val (.int (-1 : Int32)), .val (.int (-1 : Int32)), .unset] d0_272 rfl ?_
          refine w.iload d0_274 rfl ?_
          refine w.ifGe d0_276 d0_276t (fun q => absurd (by decide) q) (fun _ => ?_)
          refine w.iconst (-1 : Int32) d0_279 rfl ?_
          refine w.goto d0_280 d0_280t ?_
          refine w.istore #[.val (.int i0), .val (.int i1), .val (.int i2), .val (.int i3), .val (.int i4), .val (.int x0), .val (.int x1), .val (.int y0), .val (.int y1), .val (.int (2 : Int32)), .val (.int (2 : Int32)), .val (.ref ua), .val (.ref ub), .val (.int nua1), .val (.int nub1), .val (.ref sa), .val (.ref sb), .val (.int (-1 : Int32)), .val (.int (-1 : Int32)), .val (.int (-1 : Int32))] d0_293 rfl ?_
          refine w.iload d0_295 rfl ?_
          refine w.iload d0_297 rfl ?_
          refine w.icmpNe d0_299 d0_299t (fun q => absurd rfl q) (fun _ => ?_)
          refine w.iconst (1 : Int32) d0_302 rfl ?_
          refine w.goto d0_303 d0_303t ?_
          exact w.retN d0_307 rfl (by simp) rfl
    · refine w.iload d0_187 rfl ?_
      refine w.iload d0_189 rfl ?_
      refine w.icmpGe d0_191 d0_191t (fun q1 => ?_) (fun q1 => ?_)
      · refine w.iconst (1 : Int32) d0_198 rfl ?_
        refine w.istore #[.val (.int i0), .val (.int i1), .val (.int i2), .val (.int i3), .val (.int i4), .val (.int x0), .val (.int x1), .val (.int y0), .val (.int y1), .val (.int (2 : Int32)), .val (.int (2 : Int32)), .val (.ref ua), .val (.ref ub), .val (.int nua1), .val (.int nub1), .val (.ref sa), .val (.ref sb), .val (.int (1 : Int32)), .unset, .unset] d0_199 rfl ?_
        refine w.goto d0_201 d0_201t ?_
        refine w.aload d0_265 rfl rfl ?_
        refine w.aload d0_267 rfl rfl ?_
        refine w.callS (argsL := [(.ref sa), (.ref sb)]) (rest := []) 0 d0_269 (tw hw 34 rfl) (tw hw 35 rfl) (tw hw 36 rfl) (tw hw 37 rfl) (by decide) (Ct.mono (Q' := fun r u => r = some (.int (1 : Int32)) ∧ h68 = u) (rmCmp_2_2 l Z a0 hw hr sa sb x0 x1 y0 y1 h68 w.old Sa Sb Vx0 Vx1 Vy0 Vy1) (fun v u q => ⟨q.1.trans (congrArg (fun z => some (Value.int z)) (by rw [if_neg q0, if_neg q1])), q.2⟩)) (lenOf pd_20 rfl) rfl rfl (Nat.le_refl _) ⟨by decide, by decide, by decide, by decide⟩ all0 ?_
        intro T h72 r w _ hQ
        obtain ⟨rfl, rfl⟩ := hQ
        show Go cx _ Z _ _ _ T 272 #[.val (.int i0), .val (.int i1), .val (.int i2), .val (.int i3), .val (.int i4), .val (.int x0), .val (.int x1), .val (.int y0), .val (.int y1), .val (.int (2 : Int32)), .val (.int (2 : Int32)), .val (.ref ua), .val (.ref ub), .val (.int nua1), .val (.int nub1), .val (.ref sa), .val (.ref sb), .val (.int (1 : Int32)), .unset, .unset] [(.int (1 : Int32))]
        refine w.istore #[.val (.int i0), .val (.int i1), .val (.int i2), .val (.int i3), .val (.int i4), .val (.int x0), .val (.int x1), .val (.int y0), .val (.int y1), .val (.int (2 : Int32)), .val (.int (2 : Int32)), .val (.ref ua), .val (.ref ub), .val (.int nua1), .val (.int nub1), .val (.ref sa), .val (.ref sb), .val (.int (1 : Int32)), .val (.int (1 : Int32)), .unset] d0_272 rfl ?_
        refine w.iload d0_274 rfl ?_
        refine w.ifGe d0_276 d0_276t (fun _ => ?_) (fun q => absurd q (by decide))
        refine w.iload d0_283 rfl ?_
        refine w.ifLe d0_285 d0_285t (fun q => absurd (by decide) q) (fun _ => ?_)
        refine w.iconst (1 : Int32) d0_288 rfl ?_
        refine w.goto d0_289 d0_289t ?_
        refine w.istore #[.val (.int i0), .val (.int i1), .val (.int i2), .val (.int i3), .val (.int i4), .val (.int x0), .val (.int x1), .val (.int y0), .val (.int y1), .val (.int (2 : Int32)), .val (.int (2 : Int32)), .val (.ref ua), .val (.ref ub), .val (.int nua1), .val (.int nub1), .val (.ref sa), .val (.ref sb), .val (.int (1 : Int32)), .val (.int (1 : Int32)), .val (.int (1 : Int32))] d0_293 rfl ?_
        refine w.iload d0_295 rfl ?_
        refine w.iload d0_297 rfl ?_
        refine w.icmpNe d0_299 d0_299t (fun q => absurd rfl q) (fun _ => ?_)
        refine w.iconst (1 : Int32) d0_302 rfl ?_
        refine w.goto d0_303 d0_303t ?_
        exact w.retN d0_307 rfl (by simp) rfl
      · refine w.iconst (-1 : Int32) d0_194 rfl ?_
        refine w.goto d0_195 d0_195t ?_
        refine w.istore #[.val (.int i0), .val (.int i1), .val (.int i2), .val (.int i3), .val (.int i4), .val (.int x0), .val (.int x1), .val (.int y0), .val (.int y1), .val (.int (2 : Int32)), .val (.int (2 : Int32)), .val (.ref ua), .val (.ref ub), .val (.int nua1), .val (.int nub1), .val (.ref sa), .val (.ref sb), .val (.int (-1 : Int32)), .unset, .unset] d0_199 rfl ?_
        refine w.goto d0_201 d0_201t ?_
        refine w.aload d0_265 rfl rfl ?_
        refine w.aload d0_267 rfl rfl ?_
        refine w.callS (argsL := [(.ref sa), (.ref sb)]) (rest := []) 0 d0_269 (tw hw 34 rfl) (tw hw 35 rfl) (tw hw 36 rfl) (tw hw 37 rfl) (by decide) (Ct.mono (Q' := fun r u => r = some (.int (-1 : Int32)) ∧ h68 = u) (rmCmp_2_2 l Z a0 hw hr sa sb x0 x1 y0 y1 h68 w.old Sa Sb Vx0 Vx1 Vy0 Vy1) (fun v u q => ⟨q.1.trans (congrArg (fun z => some (Value.int z)) (by rw [if_neg q0, if_pos q1])), q.2⟩)) (lenOf pd_20 rfl) rfl rfl (Nat.le_refl _) ⟨by decide, by decide, by decide, by decide⟩ all0 ?_
        intro T h73 r w _ hQ
        obtain ⟨rfl, rfl⟩ := hQ
        show Go cx _ Z _ _ _ T 272 #[.val (.int i0), .val (.int i1), .val (.int i2), .val (.int i3), .val (.int i4), .val (.int x0), .val (.int x1), .val (.int y0), .val (.int y1), .val (.int (2 : Int32)), .val (.int (2 : Int32)), .val (.ref ua), .val (.ref ub), .val (.int nua1), .val (.int nub1), .val (.ref sa), .val (.ref sb), .val (.int (-1 : Int32)), .unset, .unset] [(.int (-1 : Int32))]
        refine w.istore #[.val (.int i0), .val (.int i1), .val (.int i2), .val (.int i3), .val (.int i4), .val (.int x0), .val (.int x1), .val (.int y0), .val (.int y1), .val (.int (2 : Int32)), .val (.int (2 : Int32)), .val (.ref ua), .val (.ref ub), .val (.int nua1), .val (.int nub1), .val (.ref sa), .val (.ref sb), .val (.int (-1 : Int32)), .val (.int (-1 : Int32)), .unset] d0_272 rfl ?_
        refine w.iload d0_274 rfl ?_
        refine w.ifGe d0_276 d0_276t (fun q => absurd (by decide) q) (fun _ => ?_)
        refine w.iconst (-1 : Int32) d0_279 rfl ?_
        refine w.goto d0_280 d0_280t ?_
        refine w.istore #[.val (.int i0), .val (.int i1), .val (.int i2), .val (.int i3), .val (.int i4), .val (.int x0), .val (.int x1), .val (.int y0), .val (.int y1), .val (.int (2 : Int32)), .val (.int (2 : Int32)), .val (.ref ua), .val (.ref ub), .val (.int nua1), .val (.int nub1), .val (.ref sa), .val (.ref sb), .val (.int (-1 : Int32)), .val (.int (-1 : Int32)), .val (.int (-1 : Int32))] d0_293 rfl ?_
        refine w.iload d0_295 rfl ?_
        refine w.iload d0_297 rfl ?_
        refine w.icmpNe d0_299 d0_299t (fun q => absurd rfl q) (fun _ => ?_)
        refine w.iconst (1 : Int32) d0_302 rfl ?_
        refine w.goto d0_303 d0_303t ?_
        exact w.retN d0_307 rfl (by simp) rfl

set_option maxRecDepth 65536 in
set_option maxHeartbeats 40000000 in
theorem p32 (l : Launch) (Z : State) (a0 : Array Value) (hw : ∀ d ∈ tables_1, d.before a0 Z = true) (hr : rest_1_c.value a0 Z none Z [] = some true) (i0 i1 i2 i3 i4 x0 x1 y0 : Int32) (Vx0 : own_V x0) (Vx1 : own_V x1) (Vy0 : own_V y0) (h0 : Heap) (cx : Cx) (T : State) (w : W cx true l Z consts_1 room_1 (MethodName.cls x) code maxLocals ret (MethodName.name x) T h0 (0) (0) []) :
    Go cx true Z consts_1 room_1 (fun v _ => v = some (.int 1)) T 32 #[.val (.int i0), .val (.int i1), .val (.int i2), .val (.int i3), .val (.int i4), .val (.int x0), .val (.int x1), .val (.int y0), .unset, .unset, .unset, .unset, .unset, .unset, .unset, .unset, .unset, .unset, .unset, .unset] [] := by
  refine w.iload d0_32 rfl ?_
  refine w.iconst (5 : Int32) d0_34 rfl ?_
  refine w.iushr d0_35 ?_
  refine w.iconst (1 : Int32) d0_36 rfl ?_
  refine w.iand d0_37 ?_
  refine w.ifEq d0_38 d0_38t (fun q1 => ?_) (fun q1 => ?_)
  · refine w.iloadN d0_46 rfl ?_
    refine w.callS (argsL := [(.int i3)]) (rest := []) 0 d0_47 (tw hw 0 rfl) (tw hw 1 rfl) (tw hw 2 rfl) (tw hw 3 rfl) (by decide) (rmCp l Z a0 hw i3 h0 w.old) (lenOf pd_5 rfl) rfl rfl (Nat.le_refl _) ⟨by decide, by decide, by decide, by decide⟩ all0 ?_
    intro T h1 r w _ hQ
    obtain ⟨c, rfl, V, rfl⟩ := hQ
    show Go cx _ Z _ _ _ T 50 #[.val (.int i0), .val (.int i1), .val (.int i2), .val (.int i3), .val (.int i4), .val (.int x0), .val (.int x1), .val (.int y0), .unset, .unset, .unset, .unset, .unset, .unset, .unset, .unset, .unset, .unset, .unset, .unset] [(.int c)]
    refine w.istore #[.val (.int i0), .val (.int i1), .val (.int i2), .val (.int i3), .val (.int i4), .val (.int x0), .val (.int x1), .val (.int y0), .val (.int c), .unset, .unset, .unset, .unset, .unset, .unset, .unset, .unset, .unset, .unset, .unset] d0_50 rfl ?_
    exact p52 l Z a0 hw hr i0 i1 i2 i3 i4 x0 x1 y0 c Vx0 Vx1 Vy0 V h0 cx T w
  · refine w.iload d0_41 rfl ?_
    refine w.goto d0_43 d0_43t ?_
    refine w.istore #[.val (.int i0), .val (.int i1), .val (.int i2), .val (.int i3), .val (.int i4), .val (.int x0), .val (.int x1), .val (.int y0), .val (.int x1), .unset, .unset, .unset, .unset, .unset, .unset, .unset, .unset, .unset, .unset, .unset] d0_50 rfl ?_
    exact p52 l Z a0 hw hr i0 i1 i2 i3 i4 x0 x1 y0 x1 Vx0 Vx1 Vy0 Vx1 h0 cx T w

set_option maxRecDepth 65536 in
set_option maxHeartbeats 40000000 in
theorem p12 (l : Launch) (Z : State) (a0 : Array Value) (hw : ∀ d ∈ tables_1, d.before a0 Z = true) (hr : rest_1_c.value a0 Z none Z [] = some true) (i0 i1 i2 i3 i4 x0 x1 : Int32) (Vx0 : own_V x0) (Vx1 : own_V x1) (h0 : Heap) (cx : Cx) (T : State) (w : W cx true l Z consts_1 room_1 (MethodName.cls x) code maxLocals ret (MethodName.name x) T h0 (0) (0) []) :
    Go cx true Z consts_1 room_1 (fun v _ => v = some (.int 1)) T 12 #[.val (.int i0), .val (.int i1), .val (.int i2), .val (.int i3), .val (.int i4), .val (.int x0), .val (.int x1), .unset, .unset, .unset, .unset, .unset, .unset, .unset, .unset, .unset, .unset, .unset, .unset, .unset] [] := by
  refine w.iload d0_12 rfl ?_
  refine w.iconst (4 : Int32) d0_14 rfl ?_
  refine w.iushr d0_15 ?_
  refine w.iconst (1 : Int32) d0_16 rfl ?_
  refine w.iand d0_17 ?_
  refine w.ifEq d0_18 d0_18t (fun q1 => ?_) (fun q1 => ?_)
  · refine w.iloadN d0_26 rfl ?_
    refine w.callS (argsL := [(.int i2)]) (rest := []) 0 d0_27 (tw hw 0 rfl) (tw hw 1 rfl) (tw hw 2 rfl) (tw hw 3 rfl) (by decide) (rmCp l Z a0 hw i2 h0 w.old) (lenOf pd_5 rfl) rfl rfl (Nat.le_refl _) ⟨by decide, by decide, by decide, by decide⟩ all0 ?_
    intro T h1 r w _ hQ
    obtain ⟨c, rfl, V, rfl⟩ := hQ
    show Go cx _ Z _ _ _ T 30 #[.val (.int i0), .val (.int i1), .val (.int i2), .val (.int i3), .val (.int i4), .val (.int x0), .val (.int x1), .unset, .unset, .unset, .unset, .unset, .unset, .unset, .unset, .unset, .unset, .unset, .unset, .unset] [(.int c)]
    refine w.istore #[.val (.int i0), .val (.int i1), .val (.int i2), .val (.int i3), .val (.int i4), .val (.int x0), .val (.int x1), .val (.int c), .unset, .unset, .unset, .unset, .unset, .unset, .unset, .unset, .unset, .unset, .unset, .unset] d0_30 rfl ?_
    exact p32 l Z a0 hw hr i0 i1 i2 i3 i4 x0 x1 c Vx0 Vx1 V h0 cx T w
  · refine w.iload d0_21 rfl ?_
    refine w.goto d0_23 d0_23t ?_
    refine w.istore #[.val (.int i0), .val (.int i1), .val (.int i2), .val (.int i3), .val (.int i4), .val (.int x0), .val (.int x1), .val (.int x0), .unset, .unset, .unset, .unset, .unset, .unset, .unset, .unset, .unset, .unset, .unset, .unset] d0_30 rfl ?_
    exact p32 l Z a0 hw hr i0 i1 i2 i3 i4 x0 x1 x0 Vx0 Vx1 Vx0 h0 cx T w

set_option maxRecDepth 65536 in
set_option maxHeartbeats 40000000 in
theorem rm0 (l : Launch) (Z : State) (a0 : Array Value) (hw : ∀ d ∈ tables_1, d.before a0 Z = true) (hr : rest_1_c.value a0 Z none Z [] = some true) (i0 i1 i2 i3 i4 : Int32) (h0 : Heap) (hE : Ext Z.heap h0) :
    Ct true l Z consts_1 x code maxLocals ret tables_1 room_1 [] #[(.int i0), (.int i1), (.int i2), (.int i3), (.int i4)] h0 (fun v _ => v = some (.int 1)) := by
  refine Ct.intro pn_com_example_fintan_fintan_Utf8OrderComparePinLaw hE (fun m => ef0 m i0 i1 i2 i3 i4) nosf ⟨a0, own_EW hw⟩ ?_
  intro x T w
  refine w.iloadN d0_0 rfl ?_
  refine w.callS (argsL := [(.int i0)]) (rest := []) 0 d0_1 (tw hw 0 rfl) (tw hw 1 rfl) (tw hw 2 rfl) (tw hw 3 rfl) (by decide) (rmCp l Z a0 hw i0 h0 w.old) (lenOf pd_5 rfl) rfl rfl (Nat.le_refl _) ⟨by decide, by decide, by decide, by decide⟩ all0 ?_
  intro T h1 r w _ hQ
  obtain ⟨x0, rfl, Vx0, rfl⟩ := hQ
  show Go x _ Z _ _ _ T 4 #[.val (.int i0), .val (.int i1), .val (.int i2), .val (.int i3), .val (.int i4), .unset, .unset, .unset, .unset, .unset, .unset, .unset, .unset, .unset, .unset, .unset, .unset, .unset, .unset, .unset] [(.int x0)]
  refine w.istore #[.val (.int i0), .val (.int i1), .val (.int i2), .val (.int i3), .val (.int i4), .val (.int x0), .unset, .unset, .unset, .unset, .unset, .unset, .unset, .unset, .unset, .unset, .unset, .unset, .unset, .unset] d0_4 rfl ?_
  refine w.iloadN d0_6 rfl ?_
  refine w.callS (argsL := [(.int i1)]) (rest := []) 0 d0_7 (tw hw 0 rfl) (tw hw 1 rfl) (tw hw 2 rfl) (tw hw 3 rfl) (by decide) (rmCp l Z a0 hw i1 h0 w.old) (lenOf pd_5 rfl) rfl rfl (Nat.le_refl _) ⟨by decide, by decide, by decide, by decide⟩ all0 ?_
  intro T h2 r w _ hQ
  obtain ⟨x1, rfl, Vx1, rfl⟩ := hQ
  show Go x _ Z _ _ _ T 10 #[.val (.int i0), .val (.int i1), .val (.int i2), .val (.int i3), .val (.int i4), .val (.int x0), .unset, .unset, .unset, .unset, .unset, .unset, .unset, .unset, .unset, .unset, .unset, .unset, .unset, .unset] [(.int x1)]
  refine w.istore #[.val (.int i0), .val (.int i1), .val (.int i2), .val (.int i3), .val (.int i4), .val (.int x0), .val (.int x1), .unset, .unset, .unset, .unset, .unset, .unset, .unset, .unset, .unset, .unset, .unset, .unset, .unset] d0_10 rfl ?_
  exact p12 l Z a0 hw hr i0 i1 i2 i3 i4 x0 x1 Vx0 Vx1 h0 x T w

set_option maxRecDepth 65536 in
set_option maxHeartbeats 40000000 in
theorem comes_1 {Post : Tables → Env → Array Value → State → Outcome → State → Prop} (hpost : ∀ tb e args s v u, (limb_1_1.after args s (.returned v) u = true ∧ limb_1_2.after args s (.returned v) u = true) → ReturnedEndW s (.returned v) u (Jvm.fieldLocs frame_1_writes args s ++ Jvm.arrayLocs frame_1_arrays args s ++ Jvm.staticLocs frame_1_statics s) 32 1216 → Post tb e args s (.returned v) u) :
    ArmFor flags0 classFile x code maxLocals ret World_1 tables_1 room_1 Calls_1 rest_1 Pre_1 Post := by
  intro l hfl _ _ p e ha hc hk s m args below hf hA hF happ hP
  obtain ⟨hcalls, hrest, hpre⟩ := hP
  obtain ⟨-, -, -, hnamed, -, -, -, hat⟩ := (Spec.applies_iff hf).mp happ
  obtain ⟨hg, hn⟩ := and_e (Cond.before_iff.mp (show (Jvm.Cond.and given_1 narrow_1).before args s = true from hpre))
  obtain ⟨hc0, hg⟩ := and_e hg
  obtain ⟨w0, w1, w2, w3, w4, rfl⟩ : ∃ w0 w1 w2 w3 w4 : Value, args = #[w0, w1, w2, w3, w4] := by
    have hs : args.size = 5 := by simpa [Cond.value] using hc0
    obtain ⟨L⟩ := args
    match L, hs with
    | [w0, w1, w2, w3, w4], _ => exact ⟨w0, w1, w2, w3, w4, rfl⟩
  have hw := fun d (hd : d ∈ tables_1) => atoms_spec (ws := Jvm.Cond.code x code maxLocals ret :: tables_1) hat d (List.mem_cons_of_mem _ hd)
  have hfit : Fit s := fit_of hF
  obtain ⟨hg0, hg⟩ := and_e hg
  obtain ⟨i0, e0⟩ := is_v hg0
  obtain rfl : w0 = (.int i0) := Option.some.inj e0
  obtain ⟨hg1, hg⟩ := and_e hg
  obtain ⟨i1, e1⟩ := is_v hg1
  obtain rfl : w1 = (.int i1) := Option.some.inj e1
  obtain ⟨hg2, hg⟩ := and_e hg
  obtain ⟨i2, e2⟩ := is_v hg2
  obtain rfl : w2 = (.int i2) := Option.some.inj e2
  obtain ⟨hg3, hg⟩ := and_e hg
  obtain ⟨i3, e3⟩ := is_v hg3
  obtain rfl : w3 = (.int i3) := Option.some.inj e3
  obtain ⟨i4, e4⟩ := is_v hg
  obtain rfl : w4 = (.int i4) := Option.some.inj e4
  obtain ⟨n, o, h1, h2, h3, _, L, rfl, ⟨rfl, N, -, -⟩, hq⟩ := rm0 l s _ hw (Cond.before_iff.mp hrest) i0 i1 i2 i3 i4 s.heap (ext_refl _) p e ha hc hk s m _ below hf ((Spec.applies_iff_loose hf).mp happ).1 ⟨rfl, State.Warmed39.refl s, rfl, fun _ => ⟨CHv.start (own_EW hw) (own_held hcalls) (nw (Cond.before_iff.mp hrest) 2 rfl |> Cond.before_iff.mpr) (tw hw 27 rfl) (tw hw 14 rfl), (fun _ q => nomatch q)⟩⟩ trivial
  refine ⟨n, _, h1, h2, h3, hpost _ _ _ _ _ _ ⟨Cond.after_iff.mpr rfl, Cond.after_iff.mpr (eq_i res_at (Term.int_eval (1)) rfl)⟩ ⟨hq.2.1, hq.2.2.1, hq.2.2.2.1, (hq.2.2.2.2.sift fun y hy => Or.inr (N y hy)).mono (by decide) (by decide)⟩⟩
theorem main_1_1 : Claimed_1_1 := comes_1 fun _ _ _ _ _ _ h hF => ⟨h.1, hF⟩
theorem main_1_2 : Claimed_1_2 := comes_1 fun _ _ _ _ _ _ h hF => ⟨h.2, hF⟩
end Jvm.Pilot.@@N@@
namespace Jvm.Pilot.@@N@@
open Jvm Jvm.ClassFile Sem Op Lib Jvm.Free Jvm.Stand Jvm.Pilot.@@N@@.Jvm.D
/-! MADE BY PROGRAM (witnessworld.py) out of the Statement's table words and the real class files: 23 classes; the members and pool entries that the words name. The judged class is class 1, her method 4. -/
namespace start1
open Jvm.ClassFile
def u (s : String) : CpInfo := .utf8 (stringToUtf16 s)
/-- a pool by its gaps: so many unusable entries, then the entry; so many at the end -/
def gap : Nat → List CpInfo → List CpInfo
  | 0, r => r
  | n + 1, r => .unusable :: gap n r
def poolList (es : List (Nat × CpInfo)) (last : Nat) : List CpInfo := es.foldr (fun e r => gap e.1 (e.2 :: r)) (gap last [])
def pool (es : List (Nat × CpInfo)) (last : Nat) : Array CpInfo := ⟨poolList es last⟩
def fileOf (pool : Array CpInfo) (this : Nat) (attrs : Array Attribute := #[]) (ms : Array MethodInfo := #[]) (fl : Nat := 33) (sup : Nat := 0) (ifs : Array Nat := #[]) (fds : Array FieldInfo := #[]) : ClassFile where
  minorVersion := 0
  majorVersion := 65
  constantPool := pool
  accessFlags := fl
  thisClass := this
  superClass := sup
  interfaces := ifs
  fields := fds
  methods := ms
  attributes := attrs
def plain (name : String) (sup : Option ClassId) : Class where
  name := name
  kind := .ordinary
  loader := none
  accessFlags := 33
  super := sup
  interfaces := #[]
  cf := none
  fields := #[]
  methods := #[]
  instanceTypes := #[]
  staticTypes := #[]
  resolved := #[]
  callSites := []
  init := .initialized
  statics := none
  mirror := none

def pool0 : Array CpInfo := pool [(5, u "<init>"), (0, u "()V"), (1, .class_ 10), (1, u "java/lang/Object")] 113

def k0c0 : Code := { maxStack := 0, maxLocals := 1, code := object_method_1_code, exceptionTable := #[], attributes := #[] }
def k0m0 : Method := { name := "<init>", desc := "()V", sig := { parameters := [], returnType := none }, accessFlags := 1, code := some k0c0 }
/-- java/lang/Object -/
def k0 : Class := { plain "java/lang/Object" none with
  accessFlags := 33
  interfaces := #[]
  cf := some (fileOf pool0 8 #[] #[{ accessFlags := 1, nameIndex := 5, descriptorIndex := 6, attributes := #[] }] 33 0 #[] #[])
  fields := #[]
  methods := #[k0m0]
  instanceTypes := #[]
  staticTypes := #[]
  resolved := Array.replicate 124 none
  statics := none }

def pool1 : Array CpInfo := pool [(2, .class_ 4), (1, u "java/lang/Object"), (0, u "<init>"), (0, u "()V"), (0, .integer 1114112), (0, .integer 55296), (0, .integer 57343), (0, .integer 57344), (0, .integer 65536), (0, .integer 1048575), (0, .integer 56320), (0, .class_ 15), (0, u "java/lang/String"), (0, .methodref 14 17), (0, .nameAndType 5 18), (0, u "([C)V"), (0, .methodref 20 21), (0, .class_ 22), (0, .nameAndType 23 24), (0, u "com/example/fintan/fintan/Utf8OrderComparePinLaw"), (0, u "cp"), (0, u "(I)I"), (0, .methodref 20 26), (0, .nameAndType 27 28), (0, u "put"), (0, u "([CII)I"), (0, .methodref 20 30), (0, .nameAndType 31 32), (0, u "str"), (0, u "([CI)Ljava/lang/String;"), (0, .methodref 34 35), (0, .class_ 36), (0, .nameAndType 37 38), (0, u "com/example/fintan/fintan/Utf8Order"), (0, u "compare"), (0, u "(Ljava/lang/String;Ljava/lang/String;)I"), (3, u "law"), (0, u "(IIIII)Z")] 4

def k1m0 : Method := { name := "<init>", desc := "()V", sig := { parameters := [], returnType := none }, accessFlags := 2, code := none }
def k1c1 : Code := { maxStack := 3, maxLocals := 4, code := method_2_code, exceptionTable := #[], attributes := #[] }
def k1m1 : Method := { name := "cp", desc := "(I)I", sig := { parameters := [.int], returnType := some .int }, accessFlags := 10, code := some k1c1 }
def k1c2 : Code := { maxStack := 5, maxLocals := 4, code := method_3_code, exceptionTable := #[], attributes := #[] }
def k1m2 : Method := { name := "put", desc := "([CII)I", sig := { parameters := [(.array .char), .int, .int], returnType := some .int }, accessFlags := 10, code := some k1c2 }
def k1c3 : Code := { maxStack := 4, maxLocals := 3, code := method_4_code, exceptionTable := #[], attributes := #[] }
def k1m3 : Method := { name := "str", desc := "([CI)Ljava/lang/String;", sig := { parameters := [(.array .char), .int], returnType := some (.object "java/lang/String") }, accessFlags := 10, code := some k1c3 }
def k1c4 : Code := { maxStack := 3, maxLocals := 20, code := code, exceptionTable := #[], attributes := #[] }
def k1m4 : Method := { name := "law", desc := "(IIIII)Z", sig := { parameters := [.int, .int, .int, .int, .int], returnType := some .boolean }, accessFlags := 9, code := some k1c4 }
/-- com/example/fintan/fintan/Utf8OrderComparePinLaw -/
def k1 : Class := { plain "com/example/fintan/fintan/Utf8OrderComparePinLaw" (some 0) with
  accessFlags := 49
  interfaces := #[]
  cf := some (fileOf pool1 20 #[] #[{ accessFlags := 2, nameIndex := 5, descriptorIndex := 6, attributes := #[] }, { accessFlags := 10, nameIndex := 23, descriptorIndex := 24, attributes := #[] }, { accessFlags := 10, nameIndex := 27, descriptorIndex := 28, attributes := #[] }, { accessFlags := 10, nameIndex := 31, descriptorIndex := 32, attributes := #[] }, { accessFlags := 9, nameIndex := 42, descriptorIndex := 43, attributes := #[] }] 49 2 #[] #[])
  fields := #[]
  methods := #[k1m0, k1m1, k1m2, k1m3, k1m4]
  instanceTypes := #[]
  staticTypes := #[]
  resolved := Array.replicate 48 none
  statics := none }

def pool2 : Array CpInfo := pool [(1, .class_ 2), (0, u "java/io/Serializable"), (0, .class_ 4), (0, u "java/lang/Object")] 2

/-- java/io/Serializable -/
def k2 : Class := { plain "java/io/Serializable" (some 0) with
  accessFlags := 1537
  interfaces := #[]
  cf := some (fileOf pool2 1 #[] #[] 1537 3 #[] #[])
  fields := #[]
  methods := #[]
  instanceTypes := #[]
  staticTypes := #[]
  resolved := Array.replicate 7 none
  statics := none }

def pool3 : Array CpInfo := pool [(1, .class_ 2), (0, u "java/lang/Comparable"), (0, .class_ 4), (0, u "java/lang/Object")] 7

/-- java/lang/Comparable -/
def k3 : Class := { plain "java/lang/Comparable" (some 0) with
  accessFlags := 1537
  interfaces := #[]
  cf := some (fileOf pool3 1 #[] #[] 1537 3 #[] #[])
  fields := #[]
  methods := #[]
  instanceTypes := #[]
  staticTypes := #[]
  resolved := Array.replicate 12 none
  statics := none }

def pool4 : Array CpInfo := pool [(2, .class_ 4), (1, u "java/lang/CharSequence"), (42, .class_ 48), (0, u "java/lang/CharSequence$1CodePointIterator"), (10, .class_ 60), (0, u "java/lang/CharSequence$1CharIterator"), (5, .class_ 67), (0, u "java/lang/Object")] 63

/-- java/lang/CharSequence -/
def k4 : Class := { plain "java/lang/CharSequence" (some 0) with
  accessFlags := 1537
  interfaces := #[]
  cf := some (fileOf pool4 2 #[.nestMembers #[47, 59]] #[] 1537 66 #[] #[])
  fields := #[]
  methods := #[]
  instanceTypes := #[]
  staticTypes := #[]
  resolved := Array.replicate 131 none
  statics := none }

def pool5 : Array CpInfo := pool [(1, .class_ 2), (0, u "java/lang/constant/Constable"), (0, .class_ 4), (0, u "java/lang/Object")] 6

/-- java/lang/constant/Constable -/
def k5 : Class := { plain "java/lang/constant/Constable" (some 0) with
  accessFlags := 1537
  interfaces := #[]
  cf := some (fileOf pool5 1 #[] #[] 1537 3 #[] #[])
  fields := #[]
  methods := #[]
  instanceTypes := #[]
  staticTypes := #[]
  resolved := Array.replicate 11 none
  statics := none }

def pool6 : Array CpInfo := pool [(1, .class_ 2), (0, u "java/lang/constant/ConstantDesc"), (0, .class_ 4), (0, u "java/lang/Object")] 32

/-- java/lang/constant/ConstantDesc -/
def k6 : Class := { plain "java/lang/constant/ConstantDesc" (some 0) with
  accessFlags := 1537
  interfaces := #[]
  cf := some (fileOf pool6 1 #[] #[] 1537 3 #[] #[])
  fields := #[]
  methods := #[]
  instanceTypes := #[]
  staticTypes := #[]
  resolved := Array.replicate 37 none
  statics := none }

def pool7 : Array CpInfo := pool [(1, .methodref 2 3), (0, .class_ 4), (0, .nameAndType 5 6), (0, u "java/lang/Object"), (0, u "<init>"), (0, u "()V"), (0, .string 8), (0, u ""), (0, .fieldref 10 11), (0, .class_ 12), (0, .nameAndType 13 14), (0, u "java/lang/String"), (0, u "value"), (0, u "[B"), (0, .fieldref 10 16), (0, .nameAndType 17 18), (0, u "coder"), (0, u "B"), (2, u "hash"), (0, u "I"), (2, u "hashIsZero"), (0, u "Z"), (0, .methodref 10 28), (0, .nameAndType 5 29), (0, u "([CIILjava/lang/Void;)V"), (8, .fieldref 10 39), (0, .nameAndType 40 26), (0, u "COMPACT_STRINGS"), (1, .class_ 44), (1, u "java/lang/StringUTF16"), (0, u "compress"), (1, .methodref 42 48), (0, .nameAndType 49 50), (0, u "coderFromArrayLen"), (0, u "([BI)B"), (46, u "([BII)I"), (44, u "()Z"), (34, .methodref 42 178), (0, .nameAndType 45 179), (0, u "([CII)[B"), (154, u "()I"), (0, .methodref 10 336), (0, .nameAndType 17 337), (0, u "()B"), (53, u "(II)V"), (100, .methodref 10 493), (0, .nameAndType 494 142), (0, u "isLatin1"), (4, .methodref 10 500), (0, .nameAndType 501 391), (0, u "checkIndex"), (0, .methodref 42 503), (0, .nameAndType 504 97), (0, u "codePointAt"), (2, u "length"), (67, .class_ 576), (0, u "java/lang/CharSequence"), (22, u "CASE_INSENSITIVE_ORDER"), (0, u "Ljava/util/Comparator;"), (164, u "(I)I"), (244, u "([C)V"), (42, .fieldref 1054 1055), (0, .class_ 1056), (0, .nameAndType 1057 1058), (0, u "jdk/internal/util/Preconditions"), (0, u "SIOOBE_FORMATTER"), (0, u "Ljava/util/function/BiFunction;"), (0, .methodref 1054 1060), (0, .nameAndType 501 1061), (0, u "(IILjava/util/function/BiFunction;)I"), (39, u "serialPersistentFields"), (0, u "[Ljava/io/ObjectStreamField;"), (0, .class_ 1104), (0, u "java/lang/String$CaseInsensitiveComparator"), (1, .class_ 1107), (0, u "java/io/Serializable"), (0, .class_ 1109), (0, u "java/lang/Comparable"), (0, .class_ 1111), (0, u "java/lang/constant/Constable"), (0, .class_ 1113), (0, u "java/lang/constant/ConstantDesc"), (2, u "serialVersionUID"), (0, u "J"), (3, u "REPL"), (0, u "C"), (2, u "LATIN1"), (1, u "UTF16")] 323

def k7m0 : Method := { name := "<init>", desc := "()V", sig := { parameters := [], returnType := none }, accessFlags := 1, code := none }
def k7c1 : Code := { maxStack := 5, maxLocals := 2, code := jdk_42_method_3_code, exceptionTable := #[], attributes := #[] }
def k7m1 : Method := { name := "<init>", desc := "([C)V", sig := { parameters := [(.array .char)], returnType := none }, accessFlags := 1, code := some k7c1 }
def k7c2 : Code := { maxStack := 2, maxLocals := 1, code := jdk_42_method_54_code, exceptionTable := #[], attributes := #[] }
def k7m2 : Method := { name := "length", desc := "()I", sig := { parameters := [], returnType := some .int }, accessFlags := 1, code := some k7c2 }
def k7c3 : Code := { maxStack := 3, maxLocals := 3, code := jdk_42_method_57_code, exceptionTable := #[], attributes := #[] }
def k7m3 : Method := { name := "codePointAt", desc := "(I)I", sig := { parameters := [.int], returnType := some .int }, accessFlags := 1, code := some k7c3 }
def k7c4 : Code := { maxStack := 4, maxLocals := 6, code := jdk_42_method_149_code, exceptionTable := #[], attributes := #[] }
def k7m4 : Method := { name := "<init>", desc := "([CIILjava/lang/Void;)V", sig := { parameters := [(.array .char), .int, .int, (.object "java/lang/Void")], returnType := none }, accessFlags := 2, code := some k7c4 }
def k7c5 : Code := { maxStack := 1, maxLocals := 1, code := jdk_42_method_152_code, exceptionTable := #[], attributes := #[] }
def k7m5 : Method := { name := "coder", desc := "()B", sig := { parameters := [], returnType := some .byte }, accessFlags := 0, code := some k7c5 }
def k7c6 : Code := { maxStack := 1, maxLocals := 1, code := jdk_42_method_154_code, exceptionTable := #[], attributes := #[] }
def k7m6 : Method := { name := "isLatin1", desc := "()Z", sig := { parameters := [], returnType := some .boolean }, accessFlags := 0, code := some k7c6 }
def k7c7 : Code := { maxStack := 3, maxLocals := 2, code := jdk_42_method_155_code, exceptionTable := #[], attributes := #[] }
def k7m7 : Method := { name := "checkIndex", desc := "(II)V", sig := { parameters := [.int, .int], returnType := none }, accessFlags := 8, code := some k7c7 }
/-- java/lang/String -/
def k7 : Class := { plain "java/lang/String" (some 0) with
  accessFlags := 49
  interfaces := #[2, 3, 4, 5, 6]
  cf := some (fileOf pool7 10 #[.nestMembers #[1103]] #[{ accessFlags := 1, nameIndex := 5, descriptorIndex := 6, attributes := #[] }, { accessFlags := 1, nameIndex := 5, descriptorIndex := 1010, attributes := #[] }, { accessFlags := 1, nameIndex := 507, descriptorIndex := 334, attributes := #[] }, { accessFlags := 1, nameIndex := 504, descriptorIndex := 765, attributes := #[] }, { accessFlags := 2, nameIndex := 5, descriptorIndex := 29, attributes := #[] }, { accessFlags := 0, nameIndex := 17, descriptorIndex := 337, attributes := #[] }, { accessFlags := 0, nameIndex := 494, descriptorIndex := 142, attributes := #[] }, { accessFlags := 8, nameIndex := 501, descriptorIndex := 391, attributes := #[] }] 49 2 #[1106, 1108, 575, 1110, 1112] #[{ accessFlags := 18, nameIndex := 13, descriptorIndex := 14, attributes := #[] }, { accessFlags := 18, nameIndex := 17, descriptorIndex := 18, attributes := #[] }, { accessFlags := 2, nameIndex := 21, descriptorIndex := 22, attributes := #[] }, { accessFlags := 2, nameIndex := 25, descriptorIndex := 26, attributes := #[] }, { accessFlags := 26, nameIndex := 1116, descriptorIndex := 1117, attributes := #[] }, { accessFlags := 24, nameIndex := 40, descriptorIndex := 26, attributes := #[] }, { accessFlags := 26, nameIndex := 1101, descriptorIndex := 1102, attributes := #[] }, { accessFlags := 26, nameIndex := 1121, descriptorIndex := 1122, attributes := #[] }, { accessFlags := 25, nameIndex := 599, descriptorIndex := 600, attributes := #[] }, { accessFlags := 24, nameIndex := 1125, descriptorIndex := 18, attributes := #[] }, { accessFlags := 24, nameIndex := 1127, descriptorIndex := 18, attributes := #[] }])
  fields := #[{ name := "value", type := (.array .byte), accessFlags := 18, slot := 0, constantValue := 0 }, { name := "coder", type := .byte, accessFlags := 18, slot := 1, constantValue := 0 }, { name := "hash", type := .int, accessFlags := 2, slot := 2, constantValue := 0 }, { name := "hashIsZero", type := .boolean, accessFlags := 2, slot := 3, constantValue := 0 }, { name := "serialVersionUID", type := .long, accessFlags := 26, slot := 0, constantValue := 0 }, { name := "COMPACT_STRINGS", type := .boolean, accessFlags := 24, slot := 1, constantValue := 0 }, { name := "serialPersistentFields", type := (.array (.object "java/io/ObjectStreamField")), accessFlags := 26, slot := 2, constantValue := 0 }, { name := "REPL", type := .char, accessFlags := 26, slot := 3, constantValue := 0 }, { name := "CASE_INSENSITIVE_ORDER", type := (.object "java/util/Comparator"), accessFlags := 25, slot := 4, constantValue := 0 }, { name := "LATIN1", type := .byte, accessFlags := 24, slot := 5, constantValue := 0 }, { name := "UTF16", type := .byte, accessFlags := 24, slot := 6, constantValue := 0 }]
  methods := #[k7m0, k7m1, k7m2, k7m3, k7m4, k7m5, k7m6, k7m7]
  instanceTypes := #[(.array .byte), .byte, .int, .boolean]
  staticTypes := #[.long, .boolean, (.array (.object "java/io/ObjectStreamField")), .char, (.object "java/util/Comparator"), .byte, .byte]
  resolved := Array.replicate 1451 none
  statics := some 0 }

def pool8 : Array CpInfo := pool [(2, .class_ 4), (1, u "java/lang/Object"), (0, u "<init>"), (0, u "()V"), (0, .methodref 8 9), (0, .class_ 10), (0, .nameAndType 11 12), (0, u "java/lang/String"), (0, u "length"), (0, u "()I"), (0, .methodref 8 14), (0, .nameAndType 15 16), (0, u "codePointAt"), (0, u "(I)I"), (0, .methodref 18 19), (0, .class_ 20), (0, .nameAndType 21 22), (0, u "java/lang/Integer"), (0, u "compare"), (0, u "(II)I"), (0, .methodref 24 25), (0, .class_ 26), (0, .nameAndType 27 16), (0, u "java/lang/Character"), (0, u "charCount"), (0, .class_ 29), (0, u "com/example/fintan/fintan/Utf8Order"), (2, u "(Ljava/lang/String;Ljava/lang/String;)I")] 3

def k8m0 : Method := { name := "<init>", desc := "()V", sig := { parameters := [], returnType := none }, accessFlags := 2, code := none }
def k8c1 : Code := { maxStack := 2, maxLocals := 5, code := prog_25_method_2_code, exceptionTable := #[], attributes := #[] }
def k8m1 : Method := { name := "compare", desc := "(Ljava/lang/String;Ljava/lang/String;)I", sig := { parameters := [(.object "java/lang/String"), (.object "java/lang/String")], returnType := some .int }, accessFlags := 9, code := some k8c1 }
/-- com/example/fintan/fintan/Utf8Order -/
def k8 : Class := { plain "com/example/fintan/fintan/Utf8Order" (some 0) with
  accessFlags := 49
  interfaces := #[]
  cf := some (fileOf pool8 28 #[] #[{ accessFlags := 2, nameIndex := 5, descriptorIndex := 6, attributes := #[] }, { accessFlags := 9, nameIndex := 21, descriptorIndex := 32, attributes := #[] }] 49 2 #[] #[])
  fields := #[]
  methods := #[k8m0, k8m1]
  instanceTypes := #[]
  staticTypes := #[]
  resolved := Array.replicate 36 none
  statics := none }

def pool9 : Array CpInfo := pool [(2, .class_ 4), (1, u "java/lang/Object"), (0, u "<init>"), (0, u "()V"), (1, .class_ 10), (1, u "java/lang/Number"), (2, .class_ 14), (0, u "java/io/Serializable"), (0, u "serialVersionUID"), (0, u "J")] 20

def k9m0 : Method := { name := "<init>", desc := "()V", sig := { parameters := [], returnType := none }, accessFlags := 1, code := none }
/-- java/lang/Number -/
def k9 : Class := { plain "java/lang/Number" (some 0) with
  accessFlags := 1057
  interfaces := #[2]
  cf := some (fileOf pool9 8 #[] #[{ accessFlags := 1, nameIndex := 5, descriptorIndex := 6, attributes := #[] }] 1057 2 #[13] #[{ accessFlags := 26, nameIndex := 15, descriptorIndex := 16, attributes := #[] }])
  fields := #[{ name := "serialVersionUID", type := .long, accessFlags := 26, slot := 0, constantValue := 0 }]
  methods := #[k9m0]
  instanceTypes := #[]
  staticTypes := #[.long]
  resolved := Array.replicate 37 none
  statics := none }

def pool10 : Array CpInfo := pool [(1, .class_ 2), (0, u "java/lang/Integer"), (16, u "digits"), (0, u "[C"), (39, u "(II)I"), (24, u "DigitOnes"), (0, u "[B"), (2, u "DigitTens"), (99, .class_ 190), (0, u "java/lang/Integer$IntegerCache"), (3, u "I"), (8, .class_ 204), (0, u "java/lang/Number"), (2, u "value"), (53, u "compare"), (40, u "TYPE"), (0, u "Ljava/lang/Class;"), (0, .class_ 305), (0, u "java/lang/Comparable"), (0, .class_ 307), (0, u "java/lang/constant/Constable"), (0, .class_ 309), (0, u "java/lang/constant/ConstantDesc"), (0, u "MIN_VALUE"), (1, u "MAX_VALUE"), (3, u "SIZE"), (1, u "BYTES"), (1, u "serialVersionUID"), (0, u "J")] 131

def k10c0 : Code := { maxStack := 2, maxLocals := 2, code := jdk_33_method_40_code, exceptionTable := #[], attributes := #[] }
def k10m0 : Method := { name := "compare", desc := "(II)I", sig := { parameters := [.int, .int], returnType := some .int }, accessFlags := 9, code := some k10c0 }
/-- java/lang/Integer -/
def k10 : Class := { plain "java/lang/Integer" (some 9) with
  accessFlags := 49
  interfaces := #[3, 5, 6]
  cf := some (fileOf pool10 1 #[.nestMembers #[189]] #[{ accessFlags := 9, nameIndex := 261, descriptorIndex := 60, attributes := #[] }] 49 203 #[304, 306, 308] #[{ accessFlags := 25, nameIndex := 310, descriptorIndex := 194, attributes := #[] }, { accessFlags := 25, nameIndex := 312, descriptorIndex := 194, attributes := #[] }, { accessFlags := 25, nameIndex := 302, descriptorIndex := 303, attributes := #[] }, { accessFlags := 24, nameIndex := 19, descriptorIndex := 20, attributes := #[] }, { accessFlags := 24, nameIndex := 89, descriptorIndex := 86, attributes := #[] }, { accessFlags := 24, nameIndex := 85, descriptorIndex := 86, attributes := #[] }, { accessFlags := 18, nameIndex := 207, descriptorIndex := 194, attributes := #[] }, { accessFlags := 25, nameIndex := 316, descriptorIndex := 194, attributes := #[] }, { accessFlags := 25, nameIndex := 318, descriptorIndex := 194, attributes := #[] }, { accessFlags := 26, nameIndex := 320, descriptorIndex := 321, attributes := #[] }])
  fields := #[{ name := "MIN_VALUE", type := .int, accessFlags := 25, slot := 0, constantValue := 0 }, { name := "MAX_VALUE", type := .int, accessFlags := 25, slot := 1, constantValue := 0 }, { name := "TYPE", type := (.object "java/lang/Class"), accessFlags := 25, slot := 2, constantValue := 0 }, { name := "digits", type := (.array .char), accessFlags := 24, slot := 3, constantValue := 0 }, { name := "DigitTens", type := (.array .byte), accessFlags := 24, slot := 4, constantValue := 0 }, { name := "DigitOnes", type := (.array .byte), accessFlags := 24, slot := 5, constantValue := 0 }, { name := "value", type := .int, accessFlags := 18, slot := 0, constantValue := 0 }, { name := "SIZE", type := .int, accessFlags := 25, slot := 6, constantValue := 0 }, { name := "BYTES", type := .int, accessFlags := 25, slot := 7, constantValue := 0 }, { name := "serialVersionUID", type := .long, accessFlags := 26, slot := 8, constantValue := 0 }]
  methods := #[k10m0]
  instanceTypes := #[.int]
  staticTypes := #[.int, .int, (.object "java/lang/Class"), (.array .char), (.array .byte), (.array .byte), .int, .int, .long]
  resolved := Array.replicate 453 none
  statics := none }

def pool11 : Array CpInfo := pool [(6, .class_ 8), (1, u "java/lang/Object"), (0, u "<init>"), (0, u "()V"), (0, .methodref 12 13), (0, .class_ 14), (0, .nameAndType 15 16), (0, u "java/lang/StringUTF16"), (0, u "newBytesLength"), (0, u "(I)I"), (3, .integer 1073741823), (23, .fieldref 12 45), (0, .nameAndType 46 47), (0, u "$assertionsDisabled"), (0, u "Z"), (11, .fieldref 12 60), (0, .nameAndType 61 62), (0, u "HI_BYTE_SHIFT"), (0, u "I"), (0, .fieldref 12 64), (0, .nameAndType 65 62), (0, u "LO_BYTE_SHIFT"), (5, .methodref 12 72), (0, .nameAndType 73 74), (0, u "getChar"), (0, u "([BI)C"), (0, .methodref 76 77), (0, .class_ 78), (0, .nameAndType 79 80), (0, u "java/lang/Character"), (0, u "isHighSurrogate"), (0, u "(C)Z"), (0, .methodref 76 82), (0, .nameAndType 83 80), (0, u "isLowSurrogate"), (0, .methodref 76 85), (0, .nameAndType 86 87), (0, u "toCodePoint"), (0, u "(CC)I"), (0, .methodref 12 89), (0, .nameAndType 90 91), (0, u "codePointAt"), (0, u "([BIIZ)I"), (15, .methodref 12 108), (0, .nameAndType 109 110), (0, u "newBytesFor"), (0, u "(I)[B"), (0, .methodref 12 112), (0, .nameAndType 113 114), (0, u "putChar"), (0, u "([BII)V"), (0, .methodref 12 116), (0, .nameAndType 117 118), (0, u "compress"), (0, u "([CI[BII)I"), (0, .methodref 12 120), (0, .nameAndType 121 122), (0, u "toBytes"), (0, u "([CII)[B"), (127, u "([BII)I"), (10, u "coderFromArrayLen"), (0, u "([BI)B"), (106, .class_ 371), (1, u "java/lang/StringUTF16$LinesSpliterator"), (58, u "MAX_LENGTH"), (196, .class_ 628), (0, u "java/lang/StringUTF16$CodePointsSpliterator"), (0, .class_ 630), (0, u "java/lang/StringUTF16$CharsSpliterator")] 4

def k11m0 : Method := { name := "<init>", desc := "()V", sig := { parameters := [], returnType := none }, accessFlags := 0, code := none }
def k11c1 : Code := { maxStack := 1, maxLocals := 1, code := jdk_52_method_2_code, exceptionTable := #[], attributes := #[] }
def k11m1 : Method := { name := "newBytesFor", desc := "(I)[B", sig := { parameters := [.int], returnType := some (.array .byte) }, accessFlags := 9, code := some k11c1 }
def k11c2 : Code := { maxStack := 4, maxLocals := 1, code := jdk_52_method_3_code, exceptionTable := #[], attributes := #[] }
def k11m2 : Method := { name := "newBytesLength", desc := "(I)I", sig := { parameters := [.int], returnType := some .int }, accessFlags := 9, code := some k11c2 }
def k11c3 : Code := { maxStack := 4, maxLocals := 3, code := jdk_52_method_4_code, exceptionTable := #[], attributes := #[] }
def k11m3 : Method := { name := "putChar", desc := "([BII)V", sig := { parameters := [(.array .byte), .int, .int], returnType := none }, accessFlags := 8, code := some k11c3 }
def k11c4 : Code := { maxStack := 3, maxLocals := 2, code := jdk_52_method_5_code, exceptionTable := #[], attributes := #[] }
def k11m4 : Method := { name := "getChar", desc := "([BI)C", sig := { parameters := [(.array .byte), .int], returnType := some .char }, accessFlags := 8, code := some k11c4 }
def k11c5 : Code := { maxStack := 2, maxLocals := 6, code := jdk_52_method_7_code, exceptionTable := #[], attributes := #[] }
def k11m5 : Method := { name := "codePointAt", desc := "([BIIZ)I", sig := { parameters := [(.array .byte), .int, .int, .boolean], returnType := some .int }, accessFlags := 10, code := some k11c5 }
def k11c6 : Code := { maxStack := 4, maxLocals := 3, code := jdk_52_method_8_code, exceptionTable := #[], attributes := #[] }
def k11m6 : Method := { name := "codePointAt", desc := "([BII)I", sig := { parameters := [(.array .byte), .int, .int], returnType := some .int }, accessFlags := 9, code := some k11c6 }
def k11c7 : Code := { maxStack := 4, maxLocals := 5, code := jdk_52_method_14_code, exceptionTable := #[], attributes := #[] }
def k11m7 : Method := { name := "toBytes", desc := "([CII)[B", sig := { parameters := [(.array .char), .int, .int], returnType := some (.array .byte) }, accessFlags := 9, code := some k11c7 }
def k11c8 : Code := { maxStack := 2, maxLocals := 2, code := jdk_52_method_15_code, exceptionTable := #[], attributes := #[] }
def k11m8 : Method := { name := "coderFromArrayLen", desc := "([BI)B", sig := { parameters := [(.array .byte), .int], returnType := some .byte }, accessFlags := 8, code := some k11c8 }
def k11c9 : Code := { maxStack := 5, maxLocals := 6, code := jdk_52_method_16_code, exceptionTable := #[], attributes := #[] }
def k11m9 : Method := { name := "compress", desc := "([CII)[B", sig := { parameters := [(.array .char), .int, .int], returnType := some (.array .byte) }, accessFlags := 9, code := some k11c9 }
def k11c10 : Code := { maxStack := 3, maxLocals := 7, code := jdk_52_method_21_code, exceptionTable := #[], attributes := #[] }
def k11m10 : Method := { name := "compress", desc := "([CI[BII)I", sig := { parameters := [(.array .char), .int, (.array .byte), .int, .int], returnType := some .int }, accessFlags := 9, code := some k11c10 }
/-- java/lang/StringUTF16 -/
def k11 : Class := { plain "java/lang/StringUTF16" (some 0) with
  accessFlags := 48
  interfaces := #[]
  cf := some (fileOf pool11 12 #[.nestMembers #[627, 629, 369]] #[{ accessFlags := 0, nameIndex := 9, descriptorIndex := 10, attributes := #[] }, { accessFlags := 9, nameIndex := 109, descriptorIndex := 110, attributes := #[] }, { accessFlags := 9, nameIndex := 15, descriptorIndex := 16, attributes := #[] }, { accessFlags := 8, nameIndex := 113, descriptorIndex := 114, attributes := #[] }, { accessFlags := 8, nameIndex := 73, descriptorIndex := 74, attributes := #[] }, { accessFlags := 10, nameIndex := 90, descriptorIndex := 91, attributes := #[] }, { accessFlags := 9, nameIndex := 90, descriptorIndex := 250, attributes := #[] }, { accessFlags := 9, nameIndex := 121, descriptorIndex := 122, attributes := #[] }, { accessFlags := 8, nameIndex := 261, descriptorIndex := 262, attributes := #[] }, { accessFlags := 9, nameIndex := 117, descriptorIndex := 122, attributes := #[] }, { accessFlags := 9, nameIndex := 117, descriptorIndex := 118, attributes := #[] }] 48 6 #[] #[{ accessFlags := 26, nameIndex := 61, descriptorIndex := 62, attributes := #[] }, { accessFlags := 26, nameIndex := 65, descriptorIndex := 62, attributes := #[] }, { accessFlags := 24, nameIndex := 430, descriptorIndex := 62, attributes := #[] }, { accessFlags := 4120, nameIndex := 46, descriptorIndex := 47, attributes := #[] }])
  fields := #[{ name := "HI_BYTE_SHIFT", type := .int, accessFlags := 26, slot := 0, constantValue := 0 }, { name := "LO_BYTE_SHIFT", type := .int, accessFlags := 26, slot := 1, constantValue := 0 }, { name := "MAX_LENGTH", type := .int, accessFlags := 24, slot := 2, constantValue := 0 }, { name := "$assertionsDisabled", type := .boolean, accessFlags := 4120, slot := 3, constantValue := 0 }]
  methods := #[k11m0, k11m1, k11m2, k11m3, k11m4, k11m5, k11m6, k11m7, k11m8, k11m9, k11m10]
  instanceTypes := #[]
  staticTypes := #[.int, .int, .int, .boolean]
  resolved := Array.replicate 635 none
  statics := some 1 }

def pool12 : Array CpInfo := pool [(2, .class_ 4), (1, u "java/lang/Object"), (0, u "<init>"), (0, u "()V"), (17, .class_ 26), (1, u "jdk/internal/util/Preconditions"), (6, u "checkIndex"), (21, .class_ 56), (0, u "jdk/internal/util/Preconditions$4"), (57, .class_ 115), (0, u "jdk/internal/util/Preconditions$1"), (7, u "SIOOBE_FORMATTER"), (0, u "Ljava/util/function/BiFunction;"), (0, .class_ 126), (0, u "jdk/internal/util/Preconditions$2"), (3, u "AIOOBE_FORMATTER"), (0, .class_ 132), (0, u "jdk/internal/util/Preconditions$3"), (3, u "IOOBE_FORMATTER"), (41, u "(IILjava/util/function/BiFunction;)I")] 15

def k12m0 : Method := { name := "<init>", desc := "()V", sig := { parameters := [], returnType := none }, accessFlags := 1, code := none }
def k12c1 : Code := { maxStack := 3, maxLocals := 3, code := jdk_41_method_11_code, exceptionTable := #[], attributes := #[] }
def k12m1 : Method := { name := "checkIndex", desc := "(IILjava/util/function/BiFunction;)I", sig := { parameters := [.int, .int, (.object "java/util/function/BiFunction")], returnType := some .int }, accessFlags := 9, code := some k12c1 }
/-- jdk/internal/util/Preconditions -/
def k12 : Class := { plain "jdk/internal/util/Preconditions" (some 0) with
  accessFlags := 33
  interfaces := #[]
  cf := some (fileOf pool12 24 #[.nestMembers #[55, 131, 125, 114]] #[{ accessFlags := 1, nameIndex := 5, descriptorIndex := 6, attributes := #[] }, { accessFlags := 9, nameIndex := 33, descriptorIndex := 178, attributes := #[] }] 33 2 #[] #[{ accessFlags := 25, nameIndex := 123, descriptorIndex := 124, attributes := #[] }, { accessFlags := 25, nameIndex := 130, descriptorIndex := 124, attributes := #[] }, { accessFlags := 25, nameIndex := 136, descriptorIndex := 124, attributes := #[] }])
  fields := #[{ name := "SIOOBE_FORMATTER", type := (.object "java/util/function/BiFunction"), accessFlags := 25, slot := 0, constantValue := 0 }, { name := "AIOOBE_FORMATTER", type := (.object "java/util/function/BiFunction"), accessFlags := 25, slot := 1, constantValue := 0 }, { name := "IOOBE_FORMATTER", type := (.object "java/util/function/BiFunction"), accessFlags := 25, slot := 2, constantValue := 0 }]
  methods := #[k12m0, k12m1]
  instanceTypes := #[]
  staticTypes := #[(.object "java/util/function/BiFunction"), (.object "java/util/function/BiFunction"), (.object "java/util/function/BiFunction")]
  resolved := Array.replicate 194 none
  statics := some 2 }

def pool13 : Array CpInfo := pool [(1, .class_ 2), (0, u "java/lang/Character"), (18, u "value"), (0, u "C"), (19, .class_ 44), (1, u "java/lang/Object"), (3, .class_ 50), (1, u "java/lang/Character$CharacterCache"), (22, .integer 65536), (1, .integer 55296), (0, .integer 56320), (0, .integer 57344), (2, u "isHighSurrogate"), (0, u "(C)Z"), (2, u "isLowSurrogate"), (0, .integer 4238353408), (12, u "toCodePoint"), (0, u "(CC)I"), (74, u "(I)I"), (109, u "$assertionsDisabled"), (0, u "Z"), (21, .class_ 309), (1, u "java/lang/Character$UnicodeBlock"), (73, u "TYPE"), (0, u "Ljava/lang/Class;"), (0, .class_ 386), (0, u "java/io/Serializable"), (0, .class_ 388), (0, u "java/lang/Comparable"), (0, .class_ 390), (0, u "java/lang/constant/Constable"), (0, u "MIN_RADIX"), (0, u "I"), (2, u "MAX_RADIX"), (1, u "MIN_VALUE"), (1, u "MAX_VALUE"), (3, u "UNASSIGNED"), (0, u "B"), (0, u "UPPERCASE_LETTER"), (1, u "LOWERCASE_LETTER"), (0, u "TITLECASE_LETTER"), (1, u "MODIFIER_LETTER"), (1, u "OTHER_LETTER"), (1, u "NON_SPACING_MARK"), (1, u "ENCLOSING_MARK"), (1, u "COMBINING_SPACING_MARK"), (1, u "DECIMAL_DIGIT_NUMBER"), (1, u "LETTER_NUMBER"), (1, u "OTHER_NUMBER"), (1, u "SPACE_SEPARATOR"), (1, u "LINE_SEPARATOR"), (1, u "PARAGRAPH_SEPARATOR"), (1, u "CONTROL"), (1, u "FORMAT"), (1, u "PRIVATE_USE"), (1, u "SURROGATE"), (1, u "DASH_PUNCTUATION"), (1, u "START_PUNCTUATION"), (1, u "END_PUNCTUATION"), (1, u "CONNECTOR_PUNCTUATION"), (1, u "OTHER_PUNCTUATION"), (1, u "MATH_SYMBOL"), (1, u "CURRENCY_SYMBOL"), (1, u "MODIFIER_SYMBOL"), (1, u "OTHER_SYMBOL"), (1, u "INITIAL_QUOTE_PUNCTUATION"), (1, u "FINAL_QUOTE_PUNCTUATION"), (1, u "ERROR"), (1, u "DIRECTIONALITY_UNDEFINED"), (0, u "DIRECTIONALITY_LEFT_TO_RIGHT"), (0, u "DIRECTIONALITY_RIGHT_TO_LEFT"), (0, u "DIRECTIONALITY_RIGHT_TO_LEFT_ARABIC"), (0, u "DIRECTIONALITY_EUROPEAN_NUMBER"), (0, u "DIRECTIONALITY_EUROPEAN_NUMBER_SEPARATOR"), (0, u "DIRECTIONALITY_EUROPEAN_NUMBER_TERMINATOR"), (0, u "DIRECTIONALITY_ARABIC_NUMBER"), (0, u "DIRECTIONALITY_COMMON_NUMBER_SEPARATOR"), (0, u "DIRECTIONALITY_NONSPACING_MARK"), (0, u "DIRECTIONALITY_BOUNDARY_NEUTRAL"), (0, u "DIRECTIONALITY_PARAGRAPH_SEPARATOR"), (0, u "DIRECTIONALITY_SEGMENT_SEPARATOR"), (0, u "DIRECTIONALITY_WHITESPACE"), (0, u "DIRECTIONALITY_OTHER_NEUTRALS"), (0, u "DIRECTIONALITY_LEFT_TO_RIGHT_EMBEDDING"), (0, u "DIRECTIONALITY_LEFT_TO_RIGHT_OVERRIDE"), (0, u "DIRECTIONALITY_RIGHT_TO_LEFT_EMBEDDING"), (0, u "DIRECTIONALITY_RIGHT_TO_LEFT_OVERRIDE"), (1, u "DIRECTIONALITY_POP_DIRECTIONAL_FORMAT"), (0, u "DIRECTIONALITY_LEFT_TO_RIGHT_ISOLATE"), (0, u "DIRECTIONALITY_RIGHT_TO_LEFT_ISOLATE"), (0, u "DIRECTIONALITY_FIRST_STRONG_ISOLATE"), (0, u "DIRECTIONALITY_POP_DIRECTIONAL_ISOLATE"), (0, u "MIN_HIGH_SURROGATE"), (0, u "MAX_HIGH_SURROGATE"), (1, u "MIN_LOW_SURROGATE"), (0, u "MAX_LOW_SURROGATE"), (1, u "MIN_SURROGATE"), (0, u "MAX_SURROGATE"), (0, u "MIN_SUPPLEMENTARY_CODE_POINT"), (0, u "MIN_CODE_POINT"), (0, u "MAX_CODE_POINT"), (1, u "serialVersionUID"), (0, u "J"), (2, u "SIZE"), (0, u "BYTES"), (29, u "charCount"), (58, .class_ 596), (0, u "java/lang/Character$UnicodeScript"), (0, .class_ 598), (0, u "java/lang/Character$Subset")] 5

def k13c0 : Code := { maxStack := 2, maxLocals := 1, code := jdk_89_method_14_code, exceptionTable := #[], attributes := #[] }
def k13m0 : Method := { name := "isHighSurrogate", desc := "(C)Z", sig := { parameters := [.char], returnType := some .boolean }, accessFlags := 9, code := some k13c0 }
def k13c1 : Code := { maxStack := 2, maxLocals := 1, code := jdk_89_method_15_code, exceptionTable := #[], attributes := #[] }
def k13m1 : Method := { name := "isLowSurrogate", desc := "(C)Z", sig := { parameters := [.char], returnType := some .boolean }, accessFlags := 9, code := some k13c1 }
def k13c2 : Code := { maxStack := 2, maxLocals := 1, code := jdk_89_method_18_code, exceptionTable := #[], attributes := #[] }
def k13m2 : Method := { name := "charCount", desc := "(I)I", sig := { parameters := [.int], returnType := some .int }, accessFlags := 9, code := some k13c2 }
def k13c3 : Code := { maxStack := 2, maxLocals := 2, code := jdk_89_method_19_code, exceptionTable := #[], attributes := #[] }
def k13m3 : Method := { name := "toCodePoint", desc := "(CC)I", sig := { parameters := [.char, .char], returnType := some .int }, accessFlags := 9, code := some k13c3 }
/-- java/lang/Character -/
def k13 : Class := { plain "java/lang/Character" (some 0) with
  accessFlags := 49
  interfaces := #[2, 3, 5]
  cf := some (fileOf pool13 1 #[.nestMembers #[48, 595, 307, 597]] #[{ accessFlags := 9, nameIndex := 80, descriptorIndex := 81, attributes := #[] }, { accessFlags := 9, nameIndex := 84, descriptorIndex := 81, attributes := #[] }, { accessFlags := 9, nameIndex := 536, descriptorIndex := 174, attributes := #[] }, { accessFlags := 9, nameIndex := 98, descriptorIndex := 99, attributes := #[] }] 49 42 #[385, 387, 389] #[{ accessFlags := 25, nameIndex := 391, descriptorIndex := 392, attributes := #[] }, { accessFlags := 25, nameIndex := 395, descriptorIndex := 392, attributes := #[] }, { accessFlags := 25, nameIndex := 397, descriptorIndex := 22, attributes := #[] }, { accessFlags := 25, nameIndex := 399, descriptorIndex := 22, attributes := #[] }, { accessFlags := 25, nameIndex := 383, descriptorIndex := 384, attributes := #[] }, { accessFlags := 25, nameIndex := 403, descriptorIndex := 404, attributes := #[] }, { accessFlags := 25, nameIndex := 405, descriptorIndex := 404, attributes := #[] }, { accessFlags := 25, nameIndex := 407, descriptorIndex := 404, attributes := #[] }, { accessFlags := 25, nameIndex := 408, descriptorIndex := 404, attributes := #[] }, { accessFlags := 25, nameIndex := 410, descriptorIndex := 404, attributes := #[] }, { accessFlags := 25, nameIndex := 412, descriptorIndex := 404, attributes := #[] }, { accessFlags := 25, nameIndex := 414, descriptorIndex := 404, attributes := #[] }, { accessFlags := 25, nameIndex := 416, descriptorIndex := 404, attributes := #[] }, { accessFlags := 25, nameIndex := 418, descriptorIndex := 404, attributes := #[] }, { accessFlags := 25, nameIndex := 420, descriptorIndex := 404, attributes := #[] }, { accessFlags := 25, nameIndex := 422, descriptorIndex := 404, attributes := #[] }, { accessFlags := 25, nameIndex := 424, descriptorIndex := 404, attributes := #[] }, { accessFlags := 25, nameIndex := 426, descriptorIndex := 404, attributes := #[] }, { accessFlags := 25, nameIndex := 428, descriptorIndex := 404, attributes := #[] }, { accessFlags := 25, nameIndex := 430, descriptorIndex := 404, attributes := #[] }, { accessFlags := 25, nameIndex := 432, descriptorIndex := 404, attributes := #[] }, { accessFlags := 25, nameIndex := 434, descriptorIndex := 404, attributes := #[] }, { accessFlags := 25, nameIndex := 436, descriptorIndex := 404, attributes := #[] }, { accessFlags := 25, nameIndex := 438, descriptorIndex := 404, attributes := #[] }, { accessFlags := 25, nameIndex := 440, descriptorIndex := 404, attributes := #[] }, { accessFlags := 25, nameIndex := 442, descriptorIndex := 404, attributes := #[] }, { accessFlags := 25, nameIndex := 444, descriptorIndex := 404, attributes := #[] }, { accessFlags := 25, nameIndex := 446, descriptorIndex := 404, attributes := #[] }, { accessFlags := 25, nameIndex := 448, descriptorIndex := 404, attributes := #[] }, { accessFlags := 25, nameIndex := 450, descriptorIndex := 404, attributes := #[] }, { accessFlags := 25, nameIndex := 452, descriptorIndex := 404, attributes := #[] }, { accessFlags := 25, nameIndex := 454, descriptorIndex := 404, attributes := #[] }, { accessFlags := 25, nameIndex := 456, descriptorIndex := 404, attributes := #[] }, { accessFlags := 25, nameIndex := 458, descriptorIndex := 404, attributes := #[] }, { accessFlags := 25, nameIndex := 460, descriptorIndex := 404, attributes := #[] }, { accessFlags := 24, nameIndex := 462, descriptorIndex := 392, attributes := #[] }, { accessFlags := 25, nameIndex := 464, descriptorIndex := 404, attributes := #[] }, { accessFlags := 25, nameIndex := 465, descriptorIndex := 404, attributes := #[] }, { accessFlags := 25, nameIndex := 466, descriptorIndex := 404, attributes := #[] }, { accessFlags := 25, nameIndex := 467, descriptorIndex := 404, attributes := #[] }, { accessFlags := 25, nameIndex := 468, descriptorIndex := 404, attributes := #[] }, { accessFlags := 25, nameIndex := 469, descriptorIndex := 404, attributes := #[] }, { accessFlags := 25, nameIndex := 470, descriptorIndex := 404, attributes := #[] }, { accessFlags := 25, nameIndex := 471, descriptorIndex := 404, attributes := #[] }, { accessFlags := 25, nameIndex := 472, descriptorIndex := 404, attributes := #[] }, { accessFlags := 25, nameIndex := 473, descriptorIndex := 404, attributes := #[] }, { accessFlags := 25, nameIndex := 474, descriptorIndex := 404, attributes := #[] }, { accessFlags := 25, nameIndex := 475, descriptorIndex := 404, attributes := #[] }, { accessFlags := 25, nameIndex := 476, descriptorIndex := 404, attributes := #[] }, { accessFlags := 25, nameIndex := 477, descriptorIndex := 404, attributes := #[] }, { accessFlags := 25, nameIndex := 478, descriptorIndex := 404, attributes := #[] }, { accessFlags := 25, nameIndex := 479, descriptorIndex := 404, attributes := #[] }, { accessFlags := 25, nameIndex := 480, descriptorIndex := 404, attributes := #[] }, { accessFlags := 25, nameIndex := 481, descriptorIndex := 404, attributes := #[] }, { accessFlags := 25, nameIndex := 482, descriptorIndex := 404, attributes := #[] }, { accessFlags := 25, nameIndex := 484, descriptorIndex := 404, attributes := #[] }, { accessFlags := 25, nameIndex := 485, descriptorIndex := 404, attributes := #[] }, { accessFlags := 25, nameIndex := 486, descriptorIndex := 404, attributes := #[] }, { accessFlags := 25, nameIndex := 487, descriptorIndex := 404, attributes := #[] }, { accessFlags := 25, nameIndex := 488, descriptorIndex := 404, attributes := #[] }, { accessFlags := 25, nameIndex := 489, descriptorIndex := 22, attributes := #[] }, { accessFlags := 25, nameIndex := 490, descriptorIndex := 22, attributes := #[] }, { accessFlags := 25, nameIndex := 492, descriptorIndex := 22, attributes := #[] }, { accessFlags := 25, nameIndex := 493, descriptorIndex := 22, attributes := #[] }, { accessFlags := 25, nameIndex := 495, descriptorIndex := 22, attributes := #[] }, { accessFlags := 25, nameIndex := 496, descriptorIndex := 22, attributes := #[] }, { accessFlags := 25, nameIndex := 497, descriptorIndex := 392, attributes := #[] }, { accessFlags := 25, nameIndex := 498, descriptorIndex := 392, attributes := #[] }, { accessFlags := 25, nameIndex := 499, descriptorIndex := 392, attributes := #[] }, { accessFlags := 18, nameIndex := 21, descriptorIndex := 22, attributes := #[] }, { accessFlags := 26, nameIndex := 501, descriptorIndex := 502, attributes := #[] }, { accessFlags := 25, nameIndex := 505, descriptorIndex := 392, attributes := #[] }, { accessFlags := 25, nameIndex := 506, descriptorIndex := 392, attributes := #[] }, { accessFlags := 4120, nameIndex := 284, descriptorIndex := 285, attributes := #[] }])
  fields := #[{ name := "MIN_RADIX", type := .int, accessFlags := 25, slot := 0, constantValue := 0 }, { name := "MAX_RADIX", type := .int, accessFlags := 25, slot := 1, constantValue := 0 }, { name := "MIN_VALUE", type := .char, accessFlags := 25, slot := 2, constantValue := 0 }, { name := "MAX_VALUE", type := .char, accessFlags := 25, slot := 3, constantValue := 0 }, { name := "TYPE", type := (.object "java/lang/Class"), accessFlags := 25, slot := 4, constantValue := 0 }, { name := "UNASSIGNED", type := .byte, accessFlags := 25, slot := 5, constantValue := 0 }, { name := "UPPERCASE_LETTER", type := .byte, accessFlags := 25, slot := 6, constantValue := 0 }, { name := "LOWERCASE_LETTER", type := .byte, accessFlags := 25, slot := 7, constantValue := 0 }, { name := "TITLECASE_LETTER", type := .byte, accessFlags := 25, slot := 8, constantValue := 0 }, { name := "MODIFIER_LETTER", type := .byte, accessFlags := 25, slot := 9, constantValue := 0 }, { name := "OTHER_LETTER", type := .byte, accessFlags := 25, slot := 10, constantValue := 0 }, { name := "NON_SPACING_MARK", type := .byte, accessFlags := 25, slot := 11, constantValue := 0 }, { name := "ENCLOSING_MARK", type := .byte, accessFlags := 25, slot := 12, constantValue := 0 }, { name := "COMBINING_SPACING_MARK", type := .byte, accessFlags := 25, slot := 13, constantValue := 0 }, { name := "DECIMAL_DIGIT_NUMBER", type := .byte, accessFlags := 25, slot := 14, constantValue := 0 }, { name := "LETTER_NUMBER", type := .byte, accessFlags := 25, slot := 15, constantValue := 0 }, { name := "OTHER_NUMBER", type := .byte, accessFlags := 25, slot := 16, constantValue := 0 }, { name := "SPACE_SEPARATOR", type := .byte, accessFlags := 25, slot := 17, constantValue := 0 }, { name := "LINE_SEPARATOR", type := .byte, accessFlags := 25, slot := 18, constantValue := 0 }, { name := "PARAGRAPH_SEPARATOR", type := .byte, accessFlags := 25, slot := 19, constantValue := 0 }, { name := "CONTROL", type := .byte, accessFlags := 25, slot := 20, constantValue := 0 }, { name := "FORMAT", type := .byte, accessFlags := 25, slot := 21, constantValue := 0 }, { name := "PRIVATE_USE", type := .byte, accessFlags := 25, slot := 22, constantValue := 0 }, { name := "SURROGATE", type := .byte, accessFlags := 25, slot := 23, constantValue := 0 }, { name := "DASH_PUNCTUATION", type := .byte, accessFlags := 25, slot := 24, constantValue := 0 }, { name := "START_PUNCTUATION", type := .byte, accessFlags := 25, slot := 25, constantValue := 0 }, { name := "END_PUNCTUATION", type := .byte, accessFlags := 25, slot := 26, constantValue := 0 }, { name := "CONNECTOR_PUNCTUATION", type := .byte, accessFlags := 25, slot := 27, constantValue := 0 }, { name := "OTHER_PUNCTUATION", type := .byte, accessFlags := 25, slot := 28, constantValue := 0 }, { name := "MATH_SYMBOL", type := .byte, accessFlags := 25, slot := 29, constantValue := 0 }, { name := "CURRENCY_SYMBOL", type := .byte, accessFlags := 25, slot := 30, constantValue := 0 }, { name := "MODIFIER_SYMBOL", type := .byte, accessFlags := 25, slot := 31, constantValue := 0 }, { name := "OTHER_SYMBOL", type := .byte, accessFlags := 25, slot := 32, constantValue := 0 }, { name := "INITIAL_QUOTE_PUNCTUATION", type := .byte, accessFlags := 25, slot := 33, constantValue := 0 }, { name := "FINAL_QUOTE_PUNCTUATION", type := .byte, accessFlags := 25, slot := 34, constantValue := 0 }, { name := "ERROR", type := .int, accessFlags := 24, slot := 35, constantValue := 0 }, { name := "DIRECTIONALITY_UNDEFINED", type := .byte, accessFlags := 25, slot := 36, constantValue := 0 }, { name := "DIRECTIONALITY_LEFT_TO_RIGHT", type := .byte, accessFlags := 25, slot := 37, constantValue := 0 }, { name := "DIRECTIONALITY_RIGHT_TO_LEFT", type := .byte, accessFlags := 25, slot := 38, constantValue := 0 }, { name := "DIRECTIONALITY_RIGHT_TO_LEFT_ARABIC", type := .byte, accessFlags := 25, slot := 39, constantValue := 0 }, { name := "DIRECTIONALITY_EUROPEAN_NUMBER", type := .byte, accessFlags := 25, slot := 40, constantValue := 0 }, { name := "DIRECTIONALITY_EUROPEAN_NUMBER_SEPARATOR", type := .byte, accessFlags := 25, slot := 41, constantValue := 0 }, { name := "DIRECTIONALITY_EUROPEAN_NUMBER_TERMINATOR", type := .byte, accessFlags := 25, slot := 42, constantValue := 0 }, { name := "DIRECTIONALITY_ARABIC_NUMBER", type := .byte, accessFlags := 25, slot := 43, constantValue := 0 }, { name := "DIRECTIONALITY_COMMON_NUMBER_SEPARATOR", type := .byte, accessFlags := 25, slot := 44, constantValue := 0 }, { name := "DIRECTIONALITY_NONSPACING_MARK", type := .byte, accessFlags := 25, slot := 45, constantValue := 0 }, { name := "DIRECTIONALITY_BOUNDARY_NEUTRAL", type := .byte, accessFlags := 25, slot := 46, constantValue := 0 }, { name := "DIRECTIONALITY_PARAGRAPH_SEPARATOR", type := .byte, accessFlags := 25, slot := 47, constantValue := 0 }, { name := "DIRECTIONALITY_SEGMENT_SEPARATOR", type := .byte, accessFlags := 25, slot := 48, constantValue := 0 }, { name := "DIRECTIONALITY_WHITESPACE", type := .byte, accessFlags := 25, slot := 49, constantValue := 0 }, { name := "DIRECTIONALITY_OTHER_NEUTRALS", type := .byte, accessFlags := 25, slot := 50, constantValue := 0 }, { name := "DIRECTIONALITY_LEFT_TO_RIGHT_EMBEDDING", type := .byte, accessFlags := 25, slot := 51, constantValue := 0 }, { name := "DIRECTIONALITY_LEFT_TO_RIGHT_OVERRIDE", type := .byte, accessFlags := 25, slot := 52, constantValue := 0 }, { name := "DIRECTIONALITY_RIGHT_TO_LEFT_EMBEDDING", type := .byte, accessFlags := 25, slot := 53, constantValue := 0 }, { name := "DIRECTIONALITY_RIGHT_TO_LEFT_OVERRIDE", type := .byte, accessFlags := 25, slot := 54, constantValue := 0 }, { name := "DIRECTIONALITY_POP_DIRECTIONAL_FORMAT", type := .byte, accessFlags := 25, slot := 55, constantValue := 0 }, { name := "DIRECTIONALITY_LEFT_TO_RIGHT_ISOLATE", type := .byte, accessFlags := 25, slot := 56, constantValue := 0 }, { name := "DIRECTIONALITY_RIGHT_TO_LEFT_ISOLATE", type := .byte, accessFlags := 25, slot := 57, constantValue := 0 }, { name := "DIRECTIONALITY_FIRST_STRONG_ISOLATE", type := .byte, accessFlags := 25, slot := 58, constantValue := 0 }, { name := "DIRECTIONALITY_POP_DIRECTIONAL_ISOLATE", type := .byte, accessFlags := 25, slot := 59, constantValue := 0 }, { name := "MIN_HIGH_SURROGATE", type := .char, accessFlags := 25, slot := 60, constantValue := 0 }, { name := "MAX_HIGH_SURROGATE", type := .char, accessFlags := 25, slot := 61, constantValue := 0 }, { name := "MIN_LOW_SURROGATE", type := .char, accessFlags := 25, slot := 62, constantValue := 0 }, { name := "MAX_LOW_SURROGATE", type := .char, accessFlags := 25, slot := 63, constantValue := 0 }, { name := "MIN_SURROGATE", type := .char, accessFlags := 25, slot := 64, constantValue := 0 }, { name := "MAX_SURROGATE", type := .char, accessFlags := 25, slot := 65, constantValue := 0 }, { name := "MIN_SUPPLEMENTARY_CODE_POINT", type := .int, accessFlags := 25, slot := 66, constantValue := 0 }, { name := "MIN_CODE_POINT", type := .int, accessFlags := 25, slot := 67, constantValue := 0 }, { name := "MAX_CODE_POINT", type := .int, accessFlags := 25, slot := 68, constantValue := 0 }, { name := "value", type := .char, accessFlags := 18, slot := 0, constantValue := 0 }, { name := "serialVersionUID", type := .long, accessFlags := 26, slot := 69, constantValue := 0 }, { name := "SIZE", type := .int, accessFlags := 25, slot := 70, constantValue := 0 }, { name := "BYTES", type := .int, accessFlags := 25, slot := 71, constantValue := 0 }, { name := "$assertionsDisabled", type := .boolean, accessFlags := 4120, slot := 72, constantValue := 0 }]
  methods := #[k13m0, k13m1, k13m2, k13m3]
  instanceTypes := #[.char]
  staticTypes := #[.int, .int, .char, .char, (.object "java/lang/Class"), .byte, .byte, .byte, .byte, .byte, .byte, .byte, .byte, .byte, .byte, .byte, .byte, .byte, .byte, .byte, .byte, .byte, .byte, .byte, .byte, .byte, .byte, .byte, .byte, .byte, .byte, .byte, .byte, .byte, .byte, .int, .byte, .byte, .byte, .byte, .byte, .byte, .byte, .byte, .byte, .byte, .byte, .byte, .byte, .byte, .byte, .byte, .byte, .byte, .byte, .byte, .byte, .byte, .byte, .byte, .char, .char, .char, .char, .char, .char, .int, .int, .int, .long, .int, .int, .boolean]
  resolved := Array.replicate 604 none
  statics := none }

def pool14 : Array CpInfo := pool [(4, .class_ 6), (1, u "java/lang/Object"), (0, u "<init>"), (0, u "()V"), (5, .class_ 16), (1, u "java/lang/StringLatin1"), (104, u "$assertionsDisabled"), (0, u "Z"), (98, .class_ 223), (1, u "java/lang/StringLatin1$LinesSpliterator"), (166, .class_ 391), (0, u "java/lang/StringLatin1$CharsSpliterator")] 3

def k14m0 : Method := { name := "<init>", desc := "()V", sig := { parameters := [], returnType := none }, accessFlags := 0, code := none }
/-- java/lang/StringLatin1 -/
def k14 : Class := { plain "java/lang/StringLatin1" (some 0) with
  accessFlags := 48
  interfaces := #[]
  cf := some (fileOf pool14 14 #[.nestMembers #[390, 221]] #[{ accessFlags := 0, nameIndex := 7, descriptorIndex := 8, attributes := #[] }] 48 4 #[] #[{ accessFlags := 4120, nameIndex := 121, descriptorIndex := 122, attributes := #[] }])
  fields := #[{ name := "$assertionsDisabled", type := .boolean, accessFlags := 4120, slot := 0, constantValue := 0 }]
  methods := #[k14m0]
  instanceTypes := #[]
  staticTypes := #[.boolean]
  resolved := Array.replicate 395 none
  statics := none }

def pool15 : Array CpInfo := pool [(9, u "<init>"), (6, .class_ 18), (1, u "java/lang/Object"), (0, u "()V"), (1, .class_ 23), (1, u "jdk/internal/util/ArraysSupport"), (0, u "LOG2_ARRAY_LONG_INDEX_SCALE"), (0, u "I"), (2, u "U"), (0, u "Ljdk/internal/misc/Unsafe;"), (8, u "BIG_ENDIAN"), (0, u "Z"), (8, u "LOG2_BYTE_BIT_SIZE"), (4, u "LOG2_ARRAY_INT_INDEX_SCALE"), (54, u "JLA"), (0, u "Ljdk/internal/access/JavaLangAccess;"), (11, u "LOG2_ARRAY_BOOLEAN_INDEX_SCALE"), (9, u "LOG2_ARRAY_BYTE_INDEX_SCALE"), (5, u "LOG2_ARRAY_CHAR_INDEX_SCALE"), (5, u "LOG2_ARRAY_SHORT_INDEX_SCALE"), (18, u "LOG2_ARRAY_FLOAT_INDEX_SCALE"), (24, u "LOG2_ARRAY_DOUBLE_INDEX_SCALE"), (89, u "T_BOOLEAN"), (2, u "T_CHAR"), (1, u "T_FLOAT"), (1, u "T_DOUBLE"), (1, u "T_BYTE"), (1, u "T_SHORT"), (1, u "T_INT"), (1, u "T_LONG"), (1, u "SOFT_MAX_ARRAY_LENGTH")] 83

def k15m0 : Method := { name := "<init>", desc := "()V", sig := { parameters := [], returnType := none }, accessFlags := 2, code := none }
/-- jdk/internal/util/ArraysSupport -/
def k15 : Class := { plain "jdk/internal/util/ArraysSupport" (some 0) with
  accessFlags := 33
  interfaces := #[]
  cf := some (fileOf pool15 21 #[] #[{ accessFlags := 2, nameIndex := 9, descriptorIndex := 19, attributes := #[] }] 33 16 #[] #[{ accessFlags := 24, nameIndex := 28, descriptorIndex := 29, attributes := #[] }, { accessFlags := 26, nameIndex := 38, descriptorIndex := 39, attributes := #[] }, { accessFlags := 25, nameIndex := 121, descriptorIndex := 25, attributes := #[] }, { accessFlags := 25, nameIndex := 131, descriptorIndex := 25, attributes := #[] }, { accessFlags := 25, nameIndex := 137, descriptorIndex := 25, attributes := #[] }, { accessFlags := 25, nameIndex := 143, descriptorIndex := 25, attributes := #[] }, { accessFlags := 25, nameIndex := 53, descriptorIndex := 25, attributes := #[] }, { accessFlags := 25, nameIndex := 24, descriptorIndex := 25, attributes := #[] }, { accessFlags := 25, nameIndex := 162, descriptorIndex := 25, attributes := #[] }, { accessFlags := 25, nameIndex := 187, descriptorIndex := 25, attributes := #[] }, { accessFlags := 26, nameIndex := 48, descriptorIndex := 25, attributes := #[] }, { accessFlags := 25, nameIndex := 277, descriptorIndex := 25, attributes := #[] }, { accessFlags := 25, nameIndex := 280, descriptorIndex := 25, attributes := #[] }, { accessFlags := 25, nameIndex := 282, descriptorIndex := 25, attributes := #[] }, { accessFlags := 25, nameIndex := 284, descriptorIndex := 25, attributes := #[] }, { accessFlags := 25, nameIndex := 286, descriptorIndex := 25, attributes := #[] }, { accessFlags := 25, nameIndex := 288, descriptorIndex := 25, attributes := #[] }, { accessFlags := 25, nameIndex := 290, descriptorIndex := 25, attributes := #[] }, { accessFlags := 25, nameIndex := 292, descriptorIndex := 25, attributes := #[] }, { accessFlags := 26, nameIndex := 108, descriptorIndex := 109, attributes := #[] }, { accessFlags := 25, nameIndex := 294, descriptorIndex := 25, attributes := #[] }])
  fields := #[{ name := "U", type := (.object "jdk/internal/misc/Unsafe"), accessFlags := 24, slot := 0, constantValue := 0 }, { name := "BIG_ENDIAN", type := .boolean, accessFlags := 26, slot := 1, constantValue := 0 }, { name := "LOG2_ARRAY_BOOLEAN_INDEX_SCALE", type := .int, accessFlags := 25, slot := 2, constantValue := 0 }, { name := "LOG2_ARRAY_BYTE_INDEX_SCALE", type := .int, accessFlags := 25, slot := 3, constantValue := 0 }, { name := "LOG2_ARRAY_CHAR_INDEX_SCALE", type := .int, accessFlags := 25, slot := 4, constantValue := 0 }, { name := "LOG2_ARRAY_SHORT_INDEX_SCALE", type := .int, accessFlags := 25, slot := 5, constantValue := 0 }, { name := "LOG2_ARRAY_INT_INDEX_SCALE", type := .int, accessFlags := 25, slot := 6, constantValue := 0 }, { name := "LOG2_ARRAY_LONG_INDEX_SCALE", type := .int, accessFlags := 25, slot := 7, constantValue := 0 }, { name := "LOG2_ARRAY_FLOAT_INDEX_SCALE", type := .int, accessFlags := 25, slot := 8, constantValue := 0 }, { name := "LOG2_ARRAY_DOUBLE_INDEX_SCALE", type := .int, accessFlags := 25, slot := 9, constantValue := 0 }, { name := "LOG2_BYTE_BIT_SIZE", type := .int, accessFlags := 26, slot := 10, constantValue := 0 }, { name := "T_BOOLEAN", type := .int, accessFlags := 25, slot := 11, constantValue := 0 }, { name := "T_CHAR", type := .int, accessFlags := 25, slot := 12, constantValue := 0 }, { name := "T_FLOAT", type := .int, accessFlags := 25, slot := 13, constantValue := 0 }, { name := "T_DOUBLE", type := .int, accessFlags := 25, slot := 14, constantValue := 0 }, { name := "T_BYTE", type := .int, accessFlags := 25, slot := 15, constantValue := 0 }, { name := "T_SHORT", type := .int, accessFlags := 25, slot := 16, constantValue := 0 }, { name := "T_INT", type := .int, accessFlags := 25, slot := 17, constantValue := 0 }, { name := "T_LONG", type := .int, accessFlags := 25, slot := 18, constantValue := 0 }, { name := "JLA", type := (.object "jdk/internal/access/JavaLangAccess"), accessFlags := 26, slot := 19, constantValue := 0 }, { name := "SOFT_MAX_ARRAY_LENGTH", type := .int, accessFlags := 25, slot := 20, constantValue := 0 }]
  methods := #[k15m0]
  instanceTypes := #[]
  staticTypes := #[(.object "jdk/internal/misc/Unsafe"), .boolean, .int, .int, .int, .int, .int, .int, .int, .int, .int, .int, .int, .int, .int, .int, .int, .int, .int, (.object "jdk/internal/access/JavaLangAccess"), .int]
  resolved := Array.replicate 378 none
  statics := none }

def pool16 : Array CpInfo := pool [(1, u "java/lang/Cloneable"), (0, .class_ 1), (0, u "java/lang/Object"), (0, .class_ 3)] 3

/-- java/lang/Cloneable -/
def k16 : Class := { plain "java/lang/Cloneable" (some 0) with
  accessFlags := 1537
  interfaces := #[]
  cf := some (fileOf pool16 2 #[] #[] 1537 4 #[] #[])
  fields := #[]
  methods := #[]
  instanceTypes := #[]
  staticTypes := #[]
  resolved := Array.replicate 8 none
  statics := none }

/-- the primitive byte -/
def k17 : Class := { plain "byte" none with kind := .primitive 'B', accessFlags := 0x411 }
/-- [B -/
def k18 : Class := { plain "[B" (some 0) with kind := .array 17 .byte, interfaces := #[16, 2], accessFlags := 1041 }

/-- the primitive char -/
def k19 : Class := { plain "char" none with kind := .primitive 'C', accessFlags := 0x411 }
/-- [C -/
def k20 : Class := { plain "[C" (some 0) with kind := .array 19 .char, interfaces := #[16, 2], accessFlags := 1041 }

/-- the primitive int -/
def k21 : Class := { plain "int" none with kind := .primitive 'I', accessFlags := 0x411 }
/-- [I -/
def k22 : Class := { plain "[I" (some 0) with kind := .array 21 .int, interfaces := #[16, 2], accessFlags := 1041 }

def heap : Heap := #[{ cls := 7, slots := #[.long 0, .int 1, .null, .int 0, .null, .int 0, .int 0], vm := .statics 7 },
  { cls := 11, slots := #[.int 0, .int 8, .int 0, .int 1], vm := .statics 11 },
  { cls := 12, slots := #[.null, .null, .null], vm := .statics 12 }]
def classes : Array Class := #[k0, k1, k2, k3, k4, k5, k6, k7, k8, k9, k10, k11, k12, k13, k14, k15, k16, k17, k18, k19, k20, k21, k22]
def interned : List (Array UInt16 × Addr) := []
def slotsUsed : Nat := 14
def theMethod : MethodId := ⟨1, 4⟩
def args0 : Array Value := #[.int 259, .int 1026, .int 7, .int 600, .int 42]
def aboutOver (below : List Frame) : State where
  vm := { classes := classes, interned := interned.toArray }
  heap := heap
  slotsUsed := slotsUsed
  threads := #[{ frames := .invoking theMethod args0 :: below }]
def below0 : List Frame := [.native { method := ⟨0, 0⟩, args := #[] }]
def about1 : State := aboutOver below0
def p0 : Program := .bare "" "" ""
def e0 : Env := launch0.env 0 0 0
theorem w_frames : about1.frames = Frame.invoking theMethod args0 :: below0 := rfl
set_option maxRecDepth 65536 in
theorem w_args : argsFit about1.vm theMethod args0 = true := by decide +kernel
set_option maxRecDepth 65536 in
theorem w_heap : heapFits about1 = true := by decide +kernel
set_option maxRecDepth 65536 in
theorem w_runnable : about1.curStatus? = some .runnable := by decide +kernel
set_option maxRecDepth 65536 in
theorem w_alone : about1.alone = true := by decide +kernel
set_option maxRecDepth 65536 in
theorem w_named : about1.methodNamed? x = some theMethod := by decide +kernel
set_option maxRecDepth 65536 in
theorem w_hears : about1.hears theMethod below0 = true := by decide +kernel
set_option maxRecDepth 65536 in
theorem w_ripe : about1.ripe theMethod args0 below0 = true := by decide +kernel
theorem w_running : about1.status = .running := rfl
set_option maxRecDepth 65536 in
theorem w_room : about1.hasRoom e0.platform room_1 = true :=
  launch0.hasRoom_least _ room_1 (by decide +kernel) (by decide +kernel) (by decide +kernel) (by decide +kernel) (by decide +kernel) (by decide +kernel)
theorem allAtoms_all (ts : List Jvm.Cond) (a : Array Jvm.Value) (st : Jvm.State) : (allAtoms ts).before a st = ts.all (fun c => c.before a st) := by
  induction ts with
  | nil => rfl
  | cons c t ih =>
    show (Jvm.Cond.and c (allAtoms t)).before a st = _
    rw [Jvm.Cond.before_and, ih, List.all_cons]
def words1 : List Jvm.Cond := Jvm.Cond.code x code maxLocals ret :: tables_1
/-- a 'code' word, met by the world's own term for the bytes: nothing is compared byte by byte -/
theorem code_word {y : MethodName} {bytes : ByteArray} {mx : Nat} {rt : Option FieldType} {a : Array Value} {s : State} {m : MethodId} {meth : Method} {c : Code} (h1 : s.methodNamed? y = some m) (h2 : s.vm.method? m = some meth) (h3 : meth.code = some c) (h4 : c.code = bytes)
    (h5 : (c.maxLocals == mx && c.exceptionTable.isEmpty && decide (c.maxStack ≤ mostOperands) && decide (meth.sig.returnType = rt) && !meth.locks && decide (parseMethodDescriptor y.desc = some meth.sig)) = true) : (Jvm.Cond.code y bytes mx rt).before a s = true := by
  simp only [Bool.and_eq_true, beq_iff_eq, Bool.not_eq_true', decide_eq_true_eq] at h5
  obtain ⟨⟨⟨⟨⟨g1, g2⟩, g3⟩, g4⟩, g5⟩, g6⟩ := h5
  simp [Cond.before, Cond.holds, Cond.value, h1, h2, h3, h4, g1, g2, g3, g4, g5, g6]
def isCode : Jvm.Cond → Bool
  | .code _ _ _ _ => true
  | _ => false
theorem all_split {L : List Jvm.Cond} {P : Jvm.Cond → Bool} (h1 : L.all (fun c => isCode c || P c) = true) (h2 : ∀ c ∈ L.filter isCode, P c = true) : L.all P = true := by
  refine List.all_eq_true.mpr fun c hc => ?_
  have h := List.all_eq_true.mp h1 c hc
  rcases Bool.eq_false_or_eq_true (isCode c) with hi | hi
  · exact h2 c (List.mem_filter.mpr ⟨hc, hi⟩)
  · simpa [hi] using h
set_option maxRecDepth 65536 in
theorem w_c0 : (Jvm.Cond.code x code maxLocals ret).before args0 about1 = true := code_word (m := ⟨1, 4⟩) (meth := k1m4) (c := k1c4) (by decide +kernel) rfl rfl rfl (by decide +kernel)
set_option maxRecDepth 65536 in
theorem w_c1 : (Jvm.Cond.code ({ cls := "com/example/fintan/fintan/Utf8OrderComparePinLaw", name := "cp", desc := "(I)I" } : Jvm.MethodName) method_2_code (4 : Nat) (Option.some Jvm.ClassFile.FieldType.int)).before args0 about1 = true := code_word (m := ⟨1, 1⟩) (meth := k1m1) (c := k1c1) (by decide +kernel) rfl rfl rfl (by decide +kernel)
set_option maxRecDepth 65536 in
theorem w_c2 : (Jvm.Cond.code ({ cls := "com/example/fintan/fintan/Utf8OrderComparePinLaw", name := "str", desc := "([CI)Ljava/lang/String;" } : Jvm.MethodName) method_4_code (3 : Nat) (Option.some (Jvm.ClassFile.FieldType.object "java/lang/String"))).before args0 about1 = true := code_word (m := ⟨1, 3⟩) (meth := k1m3) (c := k1c3) (by decide +kernel) rfl rfl rfl (by decide +kernel)
set_option maxRecDepth 65536 in
theorem w_c3 : (Jvm.Cond.code ({ cls := "java/lang/String", name := "<init>", desc := "([C)V" } : Jvm.MethodName) jdk_42_method_3_code (2 : Nat) (Option.none : Option Jvm.ClassFile.FieldType)).before args0 about1 = true := code_word (m := ⟨7, 1⟩) (meth := k7m1) (c := k7c1) (by decide +kernel) rfl rfl rfl (by decide +kernel)
set_option maxRecDepth 65536 in
theorem w_c4 : (Jvm.Cond.code ({ cls := "java/lang/String", name := "<init>", desc := "([CIILjava/lang/Void;)V" } : Jvm.MethodName) jdk_42_method_149_code (6 : Nat) (Option.none : Option Jvm.ClassFile.FieldType)).before args0 about1 = true := code_word (m := ⟨7, 4⟩) (meth := k7m4) (c := k7c4) (by decide +kernel) rfl rfl rfl (by decide +kernel)
set_option maxRecDepth 65536 in
theorem w_c5 : (Jvm.Cond.code ({ cls := "java/lang/Object", name := "<init>", desc := "()V" } : Jvm.MethodName) object_method_1_code (1 : Nat) (Option.none : Option Jvm.ClassFile.FieldType)).before args0 about1 = true := code_word (m := ⟨0, 0⟩) (meth := k0m0) (c := k0c0) (by decide +kernel) rfl rfl rfl (by decide +kernel)
set_option maxRecDepth 65536 in
theorem w_c6 : (Jvm.Cond.code ({ cls := "com/example/fintan/fintan/Utf8Order", name := "compare", desc := "(Ljava/lang/String;Ljava/lang/String;)I" } : Jvm.MethodName) prog_25_method_2_code (5 : Nat) (Option.some Jvm.ClassFile.FieldType.int)).before args0 about1 = true := code_word (m := ⟨8, 1⟩) (meth := k8m1) (c := k8c1) (by decide +kernel) rfl rfl rfl (by decide +kernel)
set_option maxRecDepth 65536 in
theorem w_c7 : (Jvm.Cond.code ({ cls := "java/lang/String", name := "length", desc := "()I" } : Jvm.MethodName) jdk_42_method_54_code (1 : Nat) (Option.some Jvm.ClassFile.FieldType.int)).before args0 about1 = true := code_word (m := ⟨7, 2⟩) (meth := k7m2) (c := k7c2) (by decide +kernel) rfl rfl rfl (by decide +kernel)
set_option maxRecDepth 65536 in
theorem w_c8 : (Jvm.Cond.code ({ cls := "java/lang/String", name := "coder", desc := "()B" } : Jvm.MethodName) jdk_42_method_152_code (1 : Nat) (Option.some Jvm.ClassFile.FieldType.byte)).before args0 about1 = true := code_word (m := ⟨7, 5⟩) (meth := k7m5) (c := k7c5) (by decide +kernel) rfl rfl rfl (by decide +kernel)
set_option maxRecDepth 65536 in
theorem w_c9 : (Jvm.Cond.code ({ cls := "java/lang/Integer", name := "compare", desc := "(II)I" } : Jvm.MethodName) jdk_33_method_40_code (2 : Nat) (Option.some Jvm.ClassFile.FieldType.int)).before args0 about1 = true := code_word (m := ⟨10, 0⟩) (meth := k10m0) (c := k10c0) (by decide +kernel) rfl rfl rfl (by decide +kernel)
set_option maxRecDepth 65536 in
theorem w_c10 : (Jvm.Cond.code ({ cls := "com/example/fintan/fintan/Utf8OrderComparePinLaw", name := "put", desc := "([CII)I" } : Jvm.MethodName) method_3_code (4 : Nat) (Option.some Jvm.ClassFile.FieldType.int)).before args0 about1 = true := code_word (m := ⟨1, 2⟩) (meth := k1m2) (c := k1c2) (by decide +kernel) rfl rfl rfl (by decide +kernel)
set_option maxRecDepth 65536 in
theorem w_c11 : (Jvm.Cond.code ({ cls := "java/lang/StringUTF16", name := "compress", desc := "([CII)[B" } : Jvm.MethodName) jdk_52_method_16_code (6 : Nat) (Option.some (Jvm.ClassFile.FieldType.array Jvm.ClassFile.FieldType.byte))).before args0 about1 = true := code_word (m := ⟨11, 9⟩) (meth := k11m9) (c := k11c9) (by decide +kernel) rfl rfl rfl (by decide +kernel)
set_option maxRecDepth 65536 in
theorem w_c12 : (Jvm.Cond.code ({ cls := "java/lang/StringUTF16", name := "compress", desc := "([CI[BII)I" } : Jvm.MethodName) jdk_52_method_21_code (7 : Nat) (Option.some Jvm.ClassFile.FieldType.int)).before args0 about1 = true := code_word (m := ⟨11, 10⟩) (meth := k11m10) (c := k11c10) (by decide +kernel) rfl rfl rfl (by decide +kernel)
set_option maxRecDepth 65536 in
theorem w_c13 : (Jvm.Cond.code ({ cls := "java/lang/StringUTF16", name := "toBytes", desc := "([CII)[B" } : Jvm.MethodName) jdk_52_method_14_code (5 : Nat) (Option.some (Jvm.ClassFile.FieldType.array Jvm.ClassFile.FieldType.byte))).before args0 about1 = true := code_word (m := ⟨11, 7⟩) (meth := k11m7) (c := k11c7) (by decide +kernel) rfl rfl rfl (by decide +kernel)
set_option maxRecDepth 65536 in
theorem w_c14 : (Jvm.Cond.code ({ cls := "java/lang/StringUTF16", name := "newBytesFor", desc := "(I)[B" } : Jvm.MethodName) jdk_52_method_2_code (1 : Nat) (Option.some (Jvm.ClassFile.FieldType.array Jvm.ClassFile.FieldType.byte))).before args0 about1 = true := code_word (m := ⟨11, 1⟩) (meth := k11m1) (c := k11c1) (by decide +kernel) rfl rfl rfl (by decide +kernel)
set_option maxRecDepth 65536 in
theorem w_c15 : (Jvm.Cond.code ({ cls := "java/lang/StringUTF16", name := "newBytesLength", desc := "(I)I" } : Jvm.MethodName) jdk_52_method_3_code (1 : Nat) (Option.some Jvm.ClassFile.FieldType.int)).before args0 about1 = true := code_word (m := ⟨11, 2⟩) (meth := k11m2) (c := k11c2) (by decide +kernel) rfl rfl rfl (by decide +kernel)
set_option maxRecDepth 65536 in
theorem w_c16 : (Jvm.Cond.code ({ cls := "java/lang/StringUTF16", name := "putChar", desc := "([BII)V" } : Jvm.MethodName) jdk_52_method_4_code (3 : Nat) (Option.none : Option Jvm.ClassFile.FieldType)).before args0 about1 = true := code_word (m := ⟨11, 3⟩) (meth := k11m3) (c := k11c3) (by decide +kernel) rfl rfl rfl (by decide +kernel)
set_option maxRecDepth 65536 in
theorem w_c17 : (Jvm.Cond.code ({ cls := "java/lang/StringUTF16", name := "getChar", desc := "([BI)C" } : Jvm.MethodName) jdk_52_method_5_code (2 : Nat) (Option.some Jvm.ClassFile.FieldType.char)).before args0 about1 = true := code_word (m := ⟨11, 4⟩) (meth := k11m4) (c := k11c4) (by decide +kernel) rfl rfl rfl (by decide +kernel)
set_option maxRecDepth 65536 in
theorem w_c18 : (Jvm.Cond.code ({ cls := "java/lang/StringUTF16", name := "coderFromArrayLen", desc := "([BI)B" } : Jvm.MethodName) jdk_52_method_15_code (2 : Nat) (Option.some Jvm.ClassFile.FieldType.byte)).before args0 about1 = true := code_word (m := ⟨11, 8⟩) (meth := k11m8) (c := k11c8) (by decide +kernel) rfl rfl rfl (by decide +kernel)
set_option maxRecDepth 65536 in
theorem w_c19 : (Jvm.Cond.code ({ cls := "java/lang/String", name := "codePointAt", desc := "(I)I" } : Jvm.MethodName) jdk_42_method_57_code (3 : Nat) (Option.some Jvm.ClassFile.FieldType.int)).before args0 about1 = true := code_word (m := ⟨7, 3⟩) (meth := k7m3) (c := k7c3) (by decide +kernel) rfl rfl rfl (by decide +kernel)
set_option maxRecDepth 65536 in
theorem w_c20 : (Jvm.Cond.code ({ cls := "java/lang/String", name := "isLatin1", desc := "()Z" } : Jvm.MethodName) jdk_42_method_154_code (1 : Nat) (Option.some Jvm.ClassFile.FieldType.boolean)).before args0 about1 = true := code_word (m := ⟨7, 6⟩) (meth := k7m6) (c := k7c6) (by decide +kernel) rfl rfl rfl (by decide +kernel)
set_option maxRecDepth 65536 in
theorem w_c21 : (Jvm.Cond.code ({ cls := "java/lang/String", name := "checkIndex", desc := "(II)V" } : Jvm.MethodName) jdk_42_method_155_code (2 : Nat) (Option.none : Option Jvm.ClassFile.FieldType)).before args0 about1 = true := code_word (m := ⟨7, 7⟩) (meth := k7m7) (c := k7c7) (by decide +kernel) rfl rfl rfl (by decide +kernel)
set_option maxRecDepth 65536 in
theorem w_c22 : (Jvm.Cond.code ({ cls := "jdk/internal/util/Preconditions", name := "checkIndex", desc := "(IILjava/util/function/BiFunction;)I" } : Jvm.MethodName) jdk_41_method_11_code (3 : Nat) (Option.some Jvm.ClassFile.FieldType.int)).before args0 about1 = true := code_word (m := ⟨12, 1⟩) (meth := k12m1) (c := k12c1) (by decide +kernel) rfl rfl rfl (by decide +kernel)
set_option maxRecDepth 65536 in
theorem w_c23 : (Jvm.Cond.code ({ cls := "java/lang/StringUTF16", name := "codePointAt", desc := "([BII)I" } : Jvm.MethodName) jdk_52_method_8_code (3 : Nat) (Option.some Jvm.ClassFile.FieldType.int)).before args0 about1 = true := code_word (m := ⟨11, 6⟩) (meth := k11m6) (c := k11c6) (by decide +kernel) rfl rfl rfl (by decide +kernel)
set_option maxRecDepth 65536 in
theorem w_c24 : (Jvm.Cond.code ({ cls := "java/lang/StringUTF16", name := "codePointAt", desc := "([BIIZ)I" } : Jvm.MethodName) jdk_52_method_7_code (6 : Nat) (Option.some Jvm.ClassFile.FieldType.int)).before args0 about1 = true := code_word (m := ⟨11, 5⟩) (meth := k11m5) (c := k11c5) (by decide +kernel) rfl rfl rfl (by decide +kernel)
set_option maxRecDepth 65536 in
theorem w_c25 : (Jvm.Cond.code ({ cls := "java/lang/Character", name := "isHighSurrogate", desc := "(C)Z" } : Jvm.MethodName) jdk_89_method_14_code (1 : Nat) (Option.some Jvm.ClassFile.FieldType.boolean)).before args0 about1 = true := code_word (m := ⟨13, 0⟩) (meth := k13m0) (c := k13c0) (by decide +kernel) rfl rfl rfl (by decide +kernel)
set_option maxRecDepth 65536 in
theorem w_c26 : (Jvm.Cond.code ({ cls := "java/lang/Character", name := "charCount", desc := "(I)I" } : Jvm.MethodName) jdk_89_method_18_code (1 : Nat) (Option.some Jvm.ClassFile.FieldType.int)).before args0 about1 = true := code_word (m := ⟨13, 2⟩) (meth := k13m2) (c := k13c2) (by decide +kernel) rfl rfl rfl (by decide +kernel)
set_option maxRecDepth 65536 in
theorem w_c27 : (Jvm.Cond.code ({ cls := "java/lang/Character", name := "isLowSurrogate", desc := "(C)Z" } : Jvm.MethodName) jdk_89_method_15_code (1 : Nat) (Option.some Jvm.ClassFile.FieldType.boolean)).before args0 about1 = true := code_word (m := ⟨13, 1⟩) (meth := k13m1) (c := k13c1) (by decide +kernel) rfl rfl rfl (by decide +kernel)
set_option maxRecDepth 65536 in
theorem w_c28 : (Jvm.Cond.code ({ cls := "java/lang/Character", name := "toCodePoint", desc := "(CC)I" } : Jvm.MethodName) jdk_89_method_19_code (2 : Nat) (Option.some Jvm.ClassFile.FieldType.int)).before args0 about1 = true := code_word (m := ⟨13, 3⟩) (meth := k13m3) (c := k13c3) (by decide +kernel) rfl rfl rfl (by decide +kernel)
def codes1 : List Jvm.Cond := [Jvm.Cond.code x code maxLocals ret, Jvm.Cond.code ({ cls := "com/example/fintan/fintan/Utf8OrderComparePinLaw", name := "cp", desc := "(I)I" } : Jvm.MethodName) method_2_code (4 : Nat) (Option.some Jvm.ClassFile.FieldType.int), Jvm.Cond.code ({ cls := "com/example/fintan/fintan/Utf8OrderComparePinLaw", name := "str", desc := "([CI)Ljava/lang/String;" } : Jvm.MethodName) method_4_code (3 : Nat) (Option.some (Jvm.ClassFile.FieldType.object "java/lang/String")), Jvm.Cond.code ({ cls := "java/lang/String", name := "<init>", desc := "([C)V" } : Jvm.MethodName) jdk_42_method_3_code (2 : Nat) (Option.none : Option Jvm.ClassFile.FieldType), Jvm.Cond.code ({ cls := "java/lang/String", name := "<init>", desc := "([CIILjava/lang/Void;)V" } : Jvm.MethodName) jdk_42_method_149_code (6 : Nat) (Option.none : Option Jvm.ClassFile.FieldType), Jvm.Cond.code ({ cls := "java/lang/Object", name := "<init>", desc := "()V" } : Jvm.MethodName) object_method_1_code (1 : Nat) (Option.none : Option Jvm.ClassFile.FieldType), Jvm.Cond.code ({ cls := "com/example/fintan/fintan/Utf8Order", name := "compare", desc := "(Ljava/lang/String;Ljava/lang/String;)I" } : Jvm.MethodName) prog_25_method_2_code (5 : Nat) (Option.some Jvm.ClassFile.FieldType.int), Jvm.Cond.code ({ cls := "java/lang/String", name := "length", desc := "()I" } : Jvm.MethodName) jdk_42_method_54_code (1 : Nat) (Option.some Jvm.ClassFile.FieldType.int), Jvm.Cond.code ({ cls := "java/lang/String", name := "coder", desc := "()B" } : Jvm.MethodName) jdk_42_method_152_code (1 : Nat) (Option.some Jvm.ClassFile.FieldType.byte), Jvm.Cond.code ({ cls := "java/lang/Integer", name := "compare", desc := "(II)I" } : Jvm.MethodName) jdk_33_method_40_code (2 : Nat) (Option.some Jvm.ClassFile.FieldType.int), Jvm.Cond.code ({ cls := "com/example/fintan/fintan/Utf8OrderComparePinLaw", name := "put", desc := "([CII)I" } : Jvm.MethodName) method_3_code (4 : Nat) (Option.some Jvm.ClassFile.FieldType.int), Jvm.Cond.code ({ cls := "java/lang/StringUTF16", name := "compress", desc := "([CII)[B" } : Jvm.MethodName) jdk_52_method_16_code (6 : Nat) (Option.some (Jvm.ClassFile.FieldType.array Jvm.ClassFile.FieldType.byte)), Jvm.Cond.code ({ cls := "java/lang/StringUTF16", name := "compress", desc := "([CI[BII)I" } : Jvm.MethodName) jdk_52_method_21_code (7 : Nat) (Option.some Jvm.ClassFile.FieldType.int), Jvm.Cond.code ({ cls := "java/lang/StringUTF16", name := "toBytes", desc := "([CII)[B" } : Jvm.MethodName) jdk_52_method_14_code (5 : Nat) (Option.some (Jvm.ClassFile.FieldType.array Jvm.ClassFile.FieldType.byte)), Jvm.Cond.code ({ cls := "java/lang/StringUTF16", name := "newBytesFor", desc := "(I)[B" } : Jvm.MethodName) jdk_52_method_2_code (1 : Nat) (Option.some (Jvm.ClassFile.FieldType.array Jvm.ClassFile.FieldType.byte)), Jvm.Cond.code ({ cls := "java/lang/StringUTF16", name := "newBytesLength", desc := "(I)I" } : Jvm.MethodName) jdk_52_method_3_code (1 : Nat) (Option.some Jvm.ClassFile.FieldType.int), Jvm.Cond.code ({ cls := "java/lang/StringUTF16", name := "putChar", desc := "([BII)V" } : Jvm.MethodName) jdk_52_method_4_code (3 : Nat) (Option.none : Option Jvm.ClassFile.FieldType), Jvm.Cond.code ({ cls := "java/lang/StringUTF16", name := "getChar", desc := "([BI)C" } : Jvm.MethodName) jdk_52_method_5_code (2 : Nat) (Option.some Jvm.ClassFile.FieldType.char), Jvm.Cond.code ({ cls := "java/lang/StringUTF16", name := "coderFromArrayLen", desc := "([BI)B" } : Jvm.MethodName) jdk_52_method_15_code (2 : Nat) (Option.some Jvm.ClassFile.FieldType.byte), Jvm.Cond.code ({ cls := "java/lang/String", name := "codePointAt", desc := "(I)I" } : Jvm.MethodName) jdk_42_method_57_code (3 : Nat) (Option.some Jvm.ClassFile.FieldType.int), Jvm.Cond.code ({ cls := "java/lang/String", name := "isLatin1", desc := "()Z" } : Jvm.MethodName) jdk_42_method_154_code (1 : Nat) (Option.some Jvm.ClassFile.FieldType.boolean), Jvm.Cond.code ({ cls := "java/lang/String", name := "checkIndex", desc := "(II)V" } : Jvm.MethodName) jdk_42_method_155_code (2 : Nat) (Option.none : Option Jvm.ClassFile.FieldType), Jvm.Cond.code ({ cls := "jdk/internal/util/Preconditions", name := "checkIndex", desc := "(IILjava/util/function/BiFunction;)I" } : Jvm.MethodName) jdk_41_method_11_code (3 : Nat) (Option.some Jvm.ClassFile.FieldType.int), Jvm.Cond.code ({ cls := "java/lang/StringUTF16", name := "codePointAt", desc := "([BII)I" } : Jvm.MethodName) jdk_52_method_8_code (3 : Nat) (Option.some Jvm.ClassFile.FieldType.int), Jvm.Cond.code ({ cls := "java/lang/StringUTF16", name := "codePointAt", desc := "([BIIZ)I" } : Jvm.MethodName) jdk_52_method_7_code (6 : Nat) (Option.some Jvm.ClassFile.FieldType.int), Jvm.Cond.code ({ cls := "java/lang/Character", name := "isHighSurrogate", desc := "(C)Z" } : Jvm.MethodName) jdk_89_method_14_code (1 : Nat) (Option.some Jvm.ClassFile.FieldType.boolean), Jvm.Cond.code ({ cls := "java/lang/Character", name := "charCount", desc := "(I)I" } : Jvm.MethodName) jdk_89_method_18_code (1 : Nat) (Option.some Jvm.ClassFile.FieldType.int), Jvm.Cond.code ({ cls := "java/lang/Character", name := "isLowSurrogate", desc := "(C)Z" } : Jvm.MethodName) jdk_89_method_15_code (1 : Nat) (Option.some Jvm.ClassFile.FieldType.boolean), Jvm.Cond.code ({ cls := "java/lang/Character", name := "toCodePoint", desc := "(CC)I" } : Jvm.MethodName) jdk_89_method_19_code (2 : Nat) (Option.some Jvm.ClassFile.FieldType.int)]
set_option maxRecDepth 65536 in
theorem codes_eq : words1.filter isCode = codes1 := rfl
theorem w_codes : ∀ c ∈ words1.filter isCode, c.before args0 about1 = true := by
  rw [codes_eq]
  intro c hc
  simp only [codes1, List.mem_cons, List.not_mem_nil, or_false] at hc
  rcases hc with rfl | rfl | rfl | rfl | rfl | rfl | rfl | rfl | rfl | rfl | rfl | rfl | rfl | rfl | rfl | rfl | rfl | rfl | rfl | rfl | rfl | rfl | rfl | rfl | rfl | rfl | rfl | rfl | rfl
  · exact w_c0
  · exact w_c1
  · exact w_c2
  · exact w_c3
  · exact w_c4
  · exact w_c5
  · exact w_c6
  · exact w_c7
  · exact w_c8
  · exact w_c9
  · exact w_c10
  · exact w_c11
  · exact w_c12
  · exact w_c13
  · exact w_c14
  · exact w_c15
  · exact w_c16
  · exact w_c17
  · exact w_c18
  · exact w_c19
  · exact w_c20
  · exact w_c21
  · exact w_c22
  · exact w_c23
  · exact w_c24
  · exact w_c25
  · exact w_c26
  · exact w_c27
  · exact w_c28
set_option maxRecDepth 65536 in
theorem w_t1 : (words1.take 24).all (fun c => isCode c || c.before args0 about1) = true := by decide +kernel
set_option maxRecDepth 65536 in
theorem w_t2 : ((words1.drop 24).take 24).all (fun c => isCode c || c.before args0 about1) = true := by decide +kernel
set_option maxRecDepth 65536 in
theorem w_t3 : (((words1.drop 24).drop 24).take 24).all (fun c => isCode c || c.before args0 about1) = true := by decide +kernel
set_option maxRecDepth 65536 in
theorem w_t4 : ((((words1.drop 24).drop 24).drop 24).take 24).all (fun c => isCode c || c.before args0 about1) = true := by decide +kernel
set_option maxRecDepth 65536 in
theorem w_t5 : (((((words1.drop 24).drop 24).drop 24).drop 24).take 24).all (fun c => isCode c || c.before args0 about1) = true := by decide +kernel
set_option maxRecDepth 65536 in
theorem w_t6 : (((((words1.drop 24).drop 24).drop 24).drop 24).drop 24).all (fun c => isCode c || c.before args0 about1) = true := by decide +kernel
theorem w_tables : (allAtoms (Jvm.Cond.code x code maxLocals ret :: tables_1)).before args0 about1 = true := by
  rw [allAtoms_all]
  show words1.all (fun c => c.before args0 about1) = true
  refine all_split ?_ w_codes
  rw [← List.take_append_drop 24 words1, List.all_append, w_t1, ← List.take_append_drop 24 (words1.drop 24), List.all_append, w_t2, ← List.take_append_drop 24 ((words1.drop 24).drop 24), List.all_append, w_t3, ← List.take_append_drop 24 (((words1.drop 24).drop 24).drop 24), List.all_append, w_t4, ← List.take_append_drop 24 ((((words1.drop 24).drop 24).drop 24).drop 24), List.all_append, w_t5, w_t6]
  rfl
set_option maxRecDepth 65536 in
theorem w_rest : rest_1_c.before args0 about1 = true := by decide +kernel
set_option maxRecDepth 65536 in
theorem w_case : (Jvm.Cond.and given_1 narrow_1).before args0 about1 = true := by decide +kernel
set_option maxRecDepth 65536 in
theorem w_consts : constsHeld consts_1 about1 := Jvm.Lit.constsHeldB_iff.mp (by decide +kernel)
theorem w_applies : (headSpec (Jvm.Cond.code x code maxLocals ret :: tables_1) room_1).applies x e0.platform about1 = true :=
  (Spec.applies_iff w_frames).mpr ⟨w_running, w_runnable, w_alone, w_named, w_hears, w_ripe, w_room, w_tables⟩
theorem atStart : AtStart classFile x code maxLocals ret World_1 tables_1 room_1 Calls_1 rest_1 Pre_1 launch0 p0 e0 about1 theMethod args0 below0 :=
  ⟨lists_1, trivial, launch0.admits_env _ _ _, launch0.least_env, fairChoices_fair.cas, fairChoices_fair.clock, w_frames, w_args, w_heap, w_applies, ⟨w_consts, trivial⟩, w_rest, w_case⟩
end start1
theorem witness_1 : WitnessClaimed_1 := ⟨start1.p0, start1.e0, start1.about1, start1.theMethod, start1.args0, start1.below0, start1.atStart⟩
end Jvm.Pilot.@@N@@
