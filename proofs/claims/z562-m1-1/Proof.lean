import JvmDerived
import JvmDerived.Pilot.@@N@@Statement
import JvmDerived.Pilot.@@N@@Code
set_option linter.unusedVariables false
set_option linter.unusedSimpArgs false


namespace Jvm.OwnW
open Sem ClassFile Op Lib Jvm.Free Jvm.LawKit Jvm.RoadKit
abbrev Cx : Type := Program × Env × State × MethodId × Array Value × List Frame × Method × Code
abbrev Cx.p (x : Cx) : Program := x.1
abbrev Cx.e (x : Cx) : Env := x.2.1
abbrev Cx.s (x : Cx) : State := x.2.2.1
abbrev Cx.m (x : Cx) : MethodId := x.2.2.2.1
abbrev Cx.args (x : Cx) : Array Value := x.2.2.2.2.1
abbrev Cx.below (x : Cx) : List Frame := x.2.2.2.2.2.1
abbrev Cx.meth (x : Cx) : Method := x.2.2.2.2.2.2.1
abbrev Cx.c (x : Cx) : Code := x.2.2.2.2.2.2.2
/-- how a contract ends: narrow or wide -/
def FinE (wd : Bool) (Z : State) (EL : List (String × Nat)) (s : State) (o : Outcome) (t : State) (L : List Loc) (k n : Nat) : Prop :=
  match wd with
  | false => FrameEnd s o t L k n
  | true => CHr Z EL s.vm s.heap t.vm t.heap ∧ ReturnedEndW s o t L k n
def Ct (wd : Bool) (l : Launch) (Z : State) (EL : List (String × Nat)) (y : MethodName) (bytes : ByteArray) (maxL : Nat) (ret : Option FieldType) (ws : List Jvm.Cond) (R : Room) (sf : List Addr) (as' : Array Value) (h : Heap) (Q : Option Value → Heap → Prop) : Prop :=
  MetFree l y (head1 (Jvm.Cond.code y bytes maxL ret :: ws) R) (fun a U => a = as' ∧ Z.Warmed39 U.vm ∧ U.heap = h ∧ (wd = true → CHv Z EL U.vm h ∧ ∀ y ∈ sf, Safe Z EL U.vm h y)) (fun _ _ _ _ _ => True)
    (fun _ U o U' => ∃ v L, o = .returned v ∧ (Q v U'.heap ∧ Fr Z.heap.size L ∧ Ext Z.heap U'.heap ∧ h.size ≤ U'.heap.size) ∧ FinE wd Z EL U o U' L R.cells R.slots)
def Go (x : Cx) (wd : Bool) (Z : State) (EL : List (String × Nat)) (R : Room) (Q : Option Value → Heap → Prop) (T : State) (pc : Nat) (ls : Array Slot) (st : List Value) : Prop :=
  ∃ s₂ o, Steps x.p.tables x.e x.below (T.setTop (mkF x.m pc ls st)) s₂ ∧ s₂.status = .running ∧ Ended s₂ x.below o ∧ ∃ v L, o = .returned v ∧ (Q v s₂.heap ∧ Fr Z.heap.size L ∧ Ext Z.heap s₂.heap ∧ x.s.heap.size ≤ s₂.heap.size) ∧ FinE wd Z EL x.s o s₂ L R.cells R.slots
def W (x : Cx) (wd : Bool) (l : Launch) (Z : State) (EL : List (String × Nat)) (R : Room) (own : String) (code : ByteArray) (mx : Nat) (ret : Option FieldType) (nm : String) (T : State) (h : Heap) (k n : Nat) (sf : List Addr) : Prop :=
  x.p.tables.exec = Jvm.exec ∧ x.c.code = code ∧ x.c.maxLocals = mx ∧ x.meth.sig.returnType = ret ∧ x.meth.name = nm ∧ x.meth.locks = false ∧ T.heap = h ∧ Ext Z.heap h ∧ k ≤ R.cells ∧ n ≤ R.slots ∧ (∀ y ∈ sf, Z.heap.size ≤ y ∧ y < h.size) ∧ (∃ a0, EW Z a0 EL) ∧
    ∃ (L : List Loc) (vm0 : Vm), Fr Z.heap.size L ∧ (wd = false → vm0 = x.s.vm) ∧ Stand x.p l x.e R (x.s.setVm vm0) x.m x.args x.below x.meth x.c T L k n ∧ x.s.Since vm0 h.size ∧ Z.Warmed39 vm0 ∧ vm0.findClass own = some x.m.cls ∧ (wd = true → CHr Z EL x.s.vm x.s.heap vm0 h ∧ ∀ y ∈ sf, Safe Z EL vm0 h y)
/-- an instruction, its length, the next pc -/
def Dc (code : ByteArray) (pc : Nat) (i : Instr) (len pc' : Nat) : Prop := decode code pc = .ok (i, len) ∧ pc + len = pc'
/-- where a branch goes -/
def Tg (pc : Nat) (o : Int) (pc' : Nat) : Prop := 0 ≤ (pc : Int) + o ∧ ((pc : Int) + o).toNat = pc'
theorem since_mono {s : State} {vm : Vm} {n n' : Nat} (h : s.Since vm n) (q : n ≤ n') : s.Since vm n' := ⟨h.1, h.2.mono q⟩
theorem setVm_self (s : State) : s.setVm s.vm = s := rfl
theorem ext_refl (h : Heap) : Ext h h := ⟨Nat.le_refl _, fun _ _ q => q⟩
theorem ext_trans {a b c : Heap} (h1 : Ext a b) (h2 : Ext b c) : Ext a c := ⟨Nat.le_trans h1.1 h2.1, fun x q r => h2.2 x q (h1.2 x q r)⟩
theorem ext_wr {Z : State} {h h' : Heap} {a : Addr} {sl : Nat} {v : Value} (E : Ext Z.heap h) (w : Wr h h' a sl v) (q : Z.heap.size ≤ a) : Ext Z.heap h' := (Old.wr ⟨rfl, E⟩ w q).2
theorem keep_ext {h h' : Heap} {ws : List Addr} (E : Ext h h') : Keep h h' ws := (Keep.refl h ws).ext E
theorem ext_keep {h h' : Heap} (K : Keep h h' []) : Ext h h' := ⟨K.1, fun x c q => K.2.1 x c q nin0⟩
theorem keep_to {h0 h h' : Heap} {ws : List Addr} (E : Ext h0 h) (K : Keep h h' ws) (q : ∀ x ∈ ws, h0.size ≤ x) : Ext h0 h' :=
  ⟨Nat.le_trans E.1 K.1, fun x c r => K.2.1 x c (E.2 x c r) fun z => absurd (Array.getElem?_eq_some_iff.mp r).1 (Nat.not_lt.mpr (q x z))⟩
theorem Ct.mono {wd : Bool} {l : Launch} {Z : State} {EL : List (String × Nat)} {y : MethodName} {bytes : ByteArray} {maxL : Nat} {ret : Option FieldType} {ws : List Jvm.Cond} {R : Room} {sf : List Addr} {as' : Array Value} {h : Heap} {Q Q' : Option Value → Heap → Prop} (C : Ct wd l Z EL y bytes maxL ret ws R sf as' h Q) (q : ∀ v u, Q v u → Q' v u) : Ct wd l Z EL y bytes maxL ret ws R sf as' h Q' := by
  intro p e h1 h2 h3 s m args below h4 h5 h6 h7
  obtain ⟨n, o, a1, a2, a3, v, L, a4, a5, a6⟩ := C p e h1 h2 h3 s m args below h4 h5 h6 h7
  exact ⟨n, o, a1, a2, a3, v, L, a4, ⟨q _ _ a5.1, a5.2⟩, a6⟩
theorem Ct.intro {wd : Bool} {l : Launch} {Z : State} {EL : List (String × Nat)} {y : MethodName} {bytes : ByteArray} {maxL : Nat} {ret : Option FieldType} {ws : List Jvm.Cond} {R : Room} {sf : List Addr} {as' : Array Value} {h : Heap} {Q : Option Value → Heap → Prop} {ls : Array Slot}
    (hpl : plainName y.cls = true) (hE : Ext Z.heap h) (ef : ∀ m, entryFrame m as' maxL = mkF m 0 ls []) (hsf : ∀ y ∈ sf, Z.heap.size ≤ y ∧ y < h.size) (hEL : ∃ a0, EW Z a0 EL)
    (body : ∀ (x : Cx) (T : State), W x wd l Z EL R y.cls bytes maxL ret y.name T h 0 0 sf → Go x wd Z EL R Q T 0 ls []) : Ct wd l Z EL y bytes maxL ret ws R sf as' h Q := by
  refine MetFree.of_bodySF (plainFor_of_name hpl) hisR ?_
  intro p e s m args below meth c s₁ Bd hml0 hP hK
  obtain ⟨rfl, hZ, hh, hC⟩ := hP
  have hown : s.vm.findClass y.cls = some m.cls := findClass_of_methodNamed Bd.named
  have hnm := (name_of_methodNamed Bd.named Bd.method).1
  have e0 : s₁.heap = h := by rw [← hh, Bd.state]; rfl
  obtain ⟨s₂, o, a1, a2, a3, v, L, a4, a5, a6⟩ := body (p, e, s, m, args, below, meth, c) s₁ ⟨Bd.exec, Bd.bytes, hml0, Bd.returns, hnm, Bd.notSynchronized, e0, hE, Nat.zero_le _, Nat.zero_le _, hsf, hEL, [], s.vm, Fr.nil _, fun _ => rfl, Stand.of_body Bd, (State.WarmedH.refl s).since _, hZ, hown, fun q => ⟨by show CHr Z EL s.vm s.heap s.vm h; rw [hh]; exact CHr.refl (hC q).1, (hC q).2⟩⟩
  exact ⟨s₂, o, castTop (ef m) a1, a2, a3, v, L, a4, ⟨a5.1, a5.2.1, a5.2.2.1, by rw [← hh]; exact a5.2.2.2⟩, a6⟩
theorem nosf {Z : State} {h : Heap} : ∀ y ∈ ([] : List Addr), Z.heap.size ≤ y ∧ y < h.size := fun _ q => nomatch q
theorem onesf {Z : State} {h : Heap} {a : Addr} (g : Z.heap.size ≤ a) (q : a < h.size) : ∀ y ∈ [a], Z.heap.size ≤ y ∧ y < h.size := fun y z => by cases List.mem_singleton.mp z; exact ⟨g, q⟩
theorem noEL {Z : State} {a0 : Array Value} : ∃ a0, EW Z a0 [] := ⟨a0, EW.nil⟩
/-- a wide callee's contract, as the library's calls want it -/
theorem backW {p : Program} {l : Launch} {e : Env} {R : Room} {s : State} {args : Array Value} {below : List Frame} {Z : State} {a0 : Array Value} {EL : List (String × Nat)} {h : Heap} {vm0 : Vm} {y : MethodName} {bytes : ByteArray} {maxL : Nat} {ret : Option FieldType} {rm : Room} {len Wn : Nat} {as' : Array Value} {sf : List Addr} {Q : Option Value → Heap → Prop}
    (hM : Ct true l Z EL y bytes maxL ret [] rm sf as' h Q) (hZ : Z.Warmed39 vm0) (wc : (Jvm.Cond.code y bytes maxL ret).before a0 Z = true) (wz : (Jvm.Cond.initialized y.cls).before a0 Z = true) (hf : rm.frames + 1 ≤ R.frames) (hl : Wn + (maxL + 11) + rm.locals ≤ R.locals) (hEL : ∃ a0, EW Z a0 EL) (H : CHv Z EL vm0 h) (hsf : ∀ y ∈ sf, y < h.size ∧ Safe Z EL vm0 h y) :
    BackS l R p e below (s.setVm vm0) args y len Wn (fun A a => a = as' ∧ A.U.heap = h ∧ A.cells + rm.cells ≤ R.cells ∧ A.slots + rm.slots ≤ R.slots)
      (fun A _ v B => ∃ L, (Q v B.U.heap ∧ Fr Z.heap.size L ∧ Ext Z.heap B.U.heap ∧ h.size ≤ B.U.heap.size) ∧ B.locs = A.locs ++ L ∧ B.cells = A.cells + rm.cells ∧ B.slots = A.slots + rm.slots ∧ CHr Z EL vm0 h B.U.vm B.U.heap) := by
  obtain ⟨a1, hEL⟩ := hEL
  exact BackS.of_freeW (bytes := bytes) (maxL := maxL) (ret := ret) (E := fun _ first o t L k n => k = rm.cells ∧ n = rm.slots ∧ (∃ v, o = .returned v ∧ (Q v t.heap ∧ Fr Z.heap.size L ∧ Ext Z.heap t.heap ∧ h.size ≤ t.heap.size)) ∧ CHr Z EL first.vm first.heap t.vm t.heap) hM hf hl
    (fun m meth c A a Y hp => have hU : Z.Warmed39 A.U.vm := wtrans (s := s.setVm vm0) hZ Y.warmed
      ⟨by show (Jvm.Cond.and _ .tt).before a A.U = true; rw [Cond.before_and, mv hU wc]; rfl, mv hU wc, mv hU wz, hp.2.2.1, hp.2.2.2⟩)
    (fun m meth c A a g mk Y hp => ⟨hp.1, wtrans (s := s.setVm vm0) hZ Y.warmed, hp.2.1, fun _ => ⟨(CHv.at Y hZ hEL H).1, fun y hy => (CHv.at Y hZ hEL H).safe (hsf y hy).1 (hsf y hy).2⟩⟩) (fun _ _ _ _ _ _ _ _ _ => trivial)
    (fun _ _ _ _ ⟨v, L, h1, h2, h3, h4⟩ => ⟨L, _, _, h4, rfl, rfl, ⟨v, h1, h2⟩, h3⟩)
    (fun m meth c A a g mk v t L k n Y hp _ _ ⟨e1, e2, ⟨v', e3, e4⟩, e5⟩ => by
      cases e3; subst e1 e2
      refine ⟨L, e4, rfl, rfl, rfl, (CHv.at Y hZ hEL H).trans ?_⟩
      rw [← hp.2.1]; exact e5)
/-- a narrow callee's -/
theorem backN {p : Program} {l : Launch} {e : Env} {R : Room} {s : State} {args : Array Value} {below : List Frame} {Z : State} {a0 : Array Value} {EL : List (String × Nat)} {h : Heap} {y : MethodName} {bytes : ByteArray} {maxL : Nat} {ret : Option FieldType} {rm : Room} {len Wn : Nat} {as' : Array Value} {sf : List Addr} {Q : Option Value → Heap → Prop}
    (hM : Ct false l Z EL y bytes maxL ret [] rm sf as' h Q) (hZ : Z.Warmed39 s.vm) (wc : (Jvm.Cond.code y bytes maxL ret).before a0 Z = true) (wz : (Jvm.Cond.initialized y.cls).before a0 Z = true) (hf : rm.frames + 1 ≤ R.frames) (hl : Wn + (maxL + 11) + rm.locals ≤ R.locals) :
    Back l R p e below s args y len Wn (fun A a => a = as' ∧ A.U.heap = h ∧ A.cells + rm.cells ≤ R.cells ∧ A.slots + rm.slots ≤ R.slots)
      (fun A _ v B => ∃ L, (Q v B.U.heap ∧ Fr Z.heap.size L ∧ Ext Z.heap B.U.heap ∧ h.size ≤ B.U.heap.size) ∧ B.locs = A.locs ++ L ∧ B.cells = A.cells + rm.cells ∧ B.slots = A.slots + rm.slots) :=
  backOf (Q := fun v u L => Q v u ∧ Fr Z.heap.size L ∧ Ext Z.heap u ∧ h.size ≤ u.size) (fun p e h1 h2 h3 s m args below h4 h5 h6 h7 => hM p e h1 h2 h3 s m args below h4 h5 ⟨h6.1, h6.2.1, h6.2.2, fun q => by cases q⟩ h7) hZ wc wz hf hl
section Laws
variable {x : Cx} {wd : Bool} {l : Launch} {Z : State} {EL : List (String × Nat)} {sf : List Addr} {R : Room} {own : String} {code : ByteArray} {mx : Nat} {ret : Option FieldType} {nm : String} {T : State} {h : Heap} {k n : Nat} {Q : Option Value → Heap → Prop} {pc pc' pcT : Nat} {ls : Array Slot} {st : List Value} {a0 : Array Value}
theorem W.old (w : W x wd l Z EL R own code mx ret nm T h k n sf) : Ext Z.heap h := w.2.2.2.2.2.2.2.1
theorem W.size (w : W x wd l Z EL R own code mx ret nm T h k n sf) : Z.heap.size ≤ h.size := w.old.1
theorem W.sta {C f d : String} {v : Value} (w : W x wd l Z EL R own code mx ret nm T h k n sf) (F : Sta Z Z.heap C f d v) : Sta Z h C f d v := F.ext w.old
/-- more cells and slots may be booked -/
theorem W.more {k' n' : Nat} (w : W x wd l Z EL R own code mx ret nm T h k n sf) (hk : k ≤ k') (hn : n ≤ n') (hk' : k' ≤ R.cells) (hn' : n' ≤ R.slots) : W x wd l Z EL R own code mx ret nm T h k' n' sf := by
  obtain ⟨a1, a2, a3, a4, a5, a6, a7, a8, a9, a10, a13, a14, L, vm0, a11, a12, X, b1, b2, b3, b4⟩ := w
  exact ⟨a1, a2, a3, a4, a5, a6, a7, a8, hk', hn', a13, a14, L, vm0, a11, a12, X.mono hk hn, b1, b2, b3, b4⟩
/-- fewer places that may be written -/
theorem W.less {sf' : List Addr} (w : W x wd l Z EL R own code mx ret nm T h k n sf) (q : ∀ y ∈ sf', y ∈ sf) : W x wd l Z EL R own code mx ret nm T h k n sf' := by
  obtain ⟨a1, a2, a3, a4, a5, a6, a7, a8, a9, a10, a13, a14, L, vm0, a11, a12, X, b1, b2, b3, b4⟩ := w
  exact ⟨a1, a2, a3, a4, a5, a6, a7, a8, a9, a10, fun y hy => a13 y (q y hy), a14, L, vm0, a11, a12, X, b1, b2, b3, fun e => ⟨(b4 e).1, fun y hy => (b4 e).2 y (q y hy)⟩⟩
theorem W.go {pc' : Nat} {ls' : Array Slot} {st' : List Value} (w : W x wd l Z EL R own code mx ret nm T h k n sf)
    (f : At T x.m x.c x.below → x.p.tables.exec = Jvm.exec → x.c.code = code → ∀ target, Steps x.p.tables x.e x.below (T.setTop (mkF x.m pc' ls' st')) target → Steps x.p.tables x.e x.below (T.setTop (mkF x.m pc ls st)) target)
    (K : Go x wd Z EL R Q T pc' ls' st') : Go x wd Z EL R Q T pc ls st := by
  obtain ⟨s₂, o, a1, r⟩ := K
  obtain ⟨hx, hb, -, -, -, -, -, -, -, -, -, -, L, vm0, -, -, X, -⟩ := w
  exact ⟨s₂, o, f X.here hx hb _ a1, r⟩
/-- a step that only warms the tables -/
theorem W.goT {pc' : Nat} {ls' : Array Slot} {st' : List Value} (w : W x wd l Z EL R own code mx ret nm T h k n sf)
    (f : ∀ (s0 : State) (L : List Loc), Stand x.p l x.e R s0 x.m x.args x.below x.meth x.c T L k n → x.p.tables.exec = Jvm.exec → Z.Warmed39 s0.vm → s0.vm.findClass own = some x.m.cls → x.c.code = code → x.c.maxLocals = mx → T.heap = h → ∃ T', Stand x.p l x.e R s0 x.m x.args x.below x.meth x.c T' L k n ∧ T'.heap = h ∧ ∀ target, Steps x.p.tables x.e x.below (T'.setTop (mkF x.m pc' ls' st')) target → Steps x.p.tables x.e x.below (T.setTop (mkF x.m pc ls st)) target)
    (K : ∀ T', W x wd l Z EL R own code mx ret nm T' h k n sf → Go x wd Z EL R Q T' pc' ls' st') : Go x wd Z EL R Q T pc ls st := by
  obtain ⟨hx, hb, hm, hr, hn, hl, e0, E, c1, c2, hs, hEL, L, vm0, N, g, X, S, hZ, ho, hC⟩ := w
  obtain ⟨T', X', e', stp⟩ := f _ L X hx hZ ho hb hm e0
  obtain ⟨s₂, o, a1, r⟩ := K T' ⟨hx, hb, hm, hr, hn, hl, e', E, c1, c2, hs, hEL, L, vm0, N, g, X', S, hZ, ho, hC⟩
  exact ⟨s₂, o, stp _ a1, r⟩
/-- a step that makes a cell -/
theorem W.goN {pc' : Nat} {ls' : Array Slot} {st' : List Value} {k' n' : Nat} {P : Heap → Prop} (w : W x wd l Z EL R own code mx ret nm T h k n sf) (hk : k' ≤ R.cells) (hn' : n' ≤ R.slots)
    (f : ∀ (s0 : State) (L : List Loc), Stand x.p l x.e R s0 x.m x.args x.below x.meth x.c T L k n → x.p.tables.exec = Jvm.exec → Z.Warmed39 s0.vm → s0.vm.findClass own = some x.m.cls → x.c.code = code → x.c.maxLocals = mx → T.heap = h → ∃ T' h', Stand x.p l x.e R s0 x.m x.args x.below x.meth x.c T' L k' n' ∧ T'.heap = h' ∧ Ext h h' ∧ h.size < h'.size ∧ P h' ∧ ∀ target, Steps x.p.tables x.e x.below (T'.setTop (mkF x.m pc' ls' st')) target → Steps x.p.tables x.e x.below (T.setTop (mkF x.m pc ls st)) target)
    (K : ∀ T' h', W x wd l Z EL R own code mx ret nm T' h' k' n' (h.size :: sf) → Ext h h' → P h' → Go x wd Z EL R Q T' pc' ls' st') : Go x wd Z EL R Q T pc ls st := by
  obtain ⟨hx, hb, hm, hr, hn, hl, e0, E, c1, c2, hs, hEL, L, vm0, N, g, X, S, hZ, ho, hC⟩ := w
  obtain ⟨T', h', X', e', E', hlt, p', stp⟩ := f _ L X hx hZ ho hb hm e0
  obtain ⟨s₂, o, a1, r⟩ := K T' h' ⟨hx, hb, hm, hr, hn, hl, e', ext_trans E E', hk, hn', fun y hy => by
      rcases List.mem_cons.mp hy with rfl | hy
      · exact ⟨E.1, hlt⟩
      · exact ⟨(hs y hy).1, Nat.lt_of_lt_of_le (hs y hy).2 E'.1⟩, hEL, L, vm0, N, g, X', since_mono S E'.1, hZ, ho, fun q => ⟨(hC q).1.trans (CHr.ext E' (hC q).1.1), fun y hy => by
      rcases List.mem_cons.mp hy with rfl | hy
      · exact (Safe.new (Nat.le_refl _)).ext E' (hC q).1.1
      · exact ((hC q).2 y hy).ext E' (hC q).1.1⟩⟩ E' p'
  exact ⟨s₂, o, stp _ a1, r⟩
/-- a step that writes one place of a new cell -/
theorem W.goW {pc' : Nat} {ls' : Array Slot} {st' : List Value} {a : Addr} {sl : Nat} {v : Value} (w : W x wd l Z EL R own code mx ret nm T h k n sf) (ha : a ∈ sf)
    (f : ∀ (s0 : State) (L : List Loc), Stand x.p l x.e R s0 x.m x.args x.below x.meth x.c T L k n → x.p.tables.exec = Jvm.exec → Z.Warmed39 s0.vm → s0.vm.findClass own = some x.m.cls → x.c.code = code → x.meth.name = nm → T.heap = h → ∃ T' h', Stand x.p l x.e R s0 x.m x.args x.below x.meth x.c T' (L ++ [⟨a, sl⟩]) k n ∧ T'.heap = h' ∧ Wr h h' a sl v ∧ ∀ target, Steps x.p.tables x.e x.below (T'.setTop (mkF x.m pc' ls' st')) target → Steps x.p.tables x.e x.below (T.setTop (mkF x.m pc ls st)) target)
    (K : ∀ T' h', W x wd l Z EL R own code mx ret nm T' h' k n sf → Wr h h' a sl v → Go x wd Z EL R Q T' pc' ls' st') : Go x wd Z EL R Q T pc ls st := by
  obtain ⟨hx, hb, hm, hr, hn, hl, e0, E, c1, c2, hs, hEL, L, vm0, N, g, X, S, hZ, ho, hC⟩ := w
  obtain ⟨T', h', X', e', W', stp⟩ := f _ L X hx hZ ho hb hn e0
  have hz := W'.size
  obtain ⟨s₂, o, a1, r⟩ := K T' h' ⟨hx, hb, hm, hr, hn, hl, e', ext_wr E W' (hs a ha).1, c1, c2, fun y hy => ⟨(hs y hy).1, by rw [hz]; exact (hs y hy).2⟩, hEL, _, vm0, Fr.snoc X' N (hs a ha).1, g, X', since_mono S (Nat.le_of_eq hz.symm), hZ, ho, fun q => ⟨(hC q).1.trans (CHr.wr W' ((hC q).2 a ha) (hC q).1.1), fun y hy => Safe.wr W' ((hC q).2 a ha) (hC q).1.1 ((hC q).2 y hy)⟩⟩ W'
  exact ⟨s₂, o, stp _ a1, r⟩
/-- the end: the value v is handed back -/
theorem W.done {v : Option Value} (w : W x wd l Z EL R own code mx ret nm T h k n sf) (hv : ret = none → v = none) (hQ : Q v h)
    (f : ∀ (s0 : State) (L : List Loc), Stand x.p l x.e R s0 x.m x.args x.below x.meth x.c T L k n → x.p.tables.exec = Jvm.exec → x.c.code = code → x.meth.sig.returnType = ret → ∀ fs : List Frame, (∀ (f : JFrame) (acts : List Action), f.method = x.m → f.locked = none → f.entered = [] → (doReturn x.e (T.setTop f) acts v).1 = T.setFrames fs) → Steps x.p.tables x.e x.below (T.setTop (mkF x.m pc ls st)) (T.setFrames fs)) : Go x wd Z EL R Q T pc ls st := by
  obtain ⟨hx, hb, hm, hr, hn, hl, e0, E, c1, c2, hs, ⟨a9, hEL⟩, L, vm0, N, g, X, S, hZ, ho, hC⟩ := w
  have hv' : x.meth.sig.returnType = none → v = none := fun q => hv (hr ▸ q)
  have hh : ∀ fs, (T.setFrames fs).heap = h := fun fs => e0
  have hg : ∀ fs, x.s.heap.size ≤ (T.setFrames fs).heap.size := fun fs => X.same.2.1
  cases wd with
  | false =>
    have eq := g rfl
    subst eq
    obtain ⟨fs, h1, h2, h3, h4, h5⟩ := X.leave (v := v) hv' hl
    exact ⟨_, _, f _ L X hx hb hr fs h1, h2, h3, v, L, rfl, ⟨(hh fs).symm ▸ hQ, N, (hh fs).symm ▸ E, hg fs⟩, ⟨⟨v, rfl⟩, h4, h5.mono c1 c2⟩⟩
  | true =>
    obtain ⟨fs, h1, h2, h3, h4⟩ := X.leaveW S (by rw [e0]; exact Nat.le_refl _) (v := v) hv' hl
    have hC2 : CHr Z EL x.s.vm x.s.heap T.vm T.heap := by rw [e0]; exact (hC rfl).1.trans (CHv.at X hZ hEL (hC rfl).1.1)
    exact ⟨_, _, f _ L X hx hb hr fs h1, h2, h3, v, L, rfl, ⟨(hh fs).symm ▸ hQ, N, (hh fs).symm ▸ E, hg fs⟩, hC2, ⟨h4.1, h4.2.1, h4.2.2.1, h4.2.2.2.mono c1 c2⟩⟩

theorem W.aloadN (w : W x wd l Z EL R own code mx ret nm T h k n sf) {i : Fin 4} {v : Value} (hd : Dc code pc (.aload_n i) 1 pc') (hl : ls[i.val]? = some (.val v)) (hv : v.isRef = true) (K : Go x wd Z EL R Q T pc' ls (v :: st)) : Go x wd Z EL R Q T pc ls st := by
  obtain ⟨hd, rfl⟩ := hd
  exact w.go (fun A hx hb t hr => XS.aloadN A hx rfl (Jvm.hb hb hd) hl hv hr) K
theorem W.aload (w : W x wd l Z EL R own code mx ret nm T h k n sf) {i : Nat} {v : Value} (hd : Dc code pc (.aload i) 2 pc') (hl : ls[i]? = some (.val v)) (hv : v.isRef = true) (K : Go x wd Z EL R Q T pc' ls (v :: st)) : Go x wd Z EL R Q T pc ls st := by
  obtain ⟨hd, rfl⟩ := hd
  exact w.go (fun A hx hb t hr => XS.aload A hx rfl (Jvm.hb hb hd) hl hv hr) K
theorem W.iloadN (w : W x wd l Z EL R own code mx ret nm T h k n sf) {i : Fin 4} {v : Int32} (hd : Dc code pc (.iload_n i) 1 pc') (hl : ls[i.val]? = some (.val (.int v))) (K : Go x wd Z EL R Q T pc' ls (.int v :: st)) : Go x wd Z EL R Q T pc ls st := by
  obtain ⟨hd, rfl⟩ := hd
  exact w.go (fun A hx hb t hr => XS.iloadN A hx rfl (Jvm.hb hb hd) hl hr) K
theorem W.iload (w : W x wd l Z EL R own code mx ret nm T h k n sf) {i : Nat} {v : Int32} (hd : Dc code pc (.iload i) 2 pc') (hl : ls[i]? = some (.val (.int v))) (K : Go x wd Z EL R Q T pc' ls (.int v :: st)) : Go x wd Z EL R Q T pc ls st := by
  obtain ⟨hd, rfl⟩ := hd
  exact w.go (fun A hx hb t hr => XS.iload A hx rfl (Jvm.hb hb hd) hl hr) K
theorem W.lloadN (w : W x wd l Z EL R own code mx ret nm T h k n sf) {i : Fin 4} {v : Int64} (hd : Dc code pc (.lload_n i) 1 pc') (hl : ls[i.val]? = some (.val (.long v))) (K : Go x wd Z EL R Q T pc' ls (.long v :: st)) : Go x wd Z EL R Q T pc ls st := by
  obtain ⟨hd, rfl⟩ := hd
  exact w.go (fun A hx hb t hr => XT.lloadN A hx rfl (Jvm.hb hb hd) hl hr) K
theorem W.lload (w : W x wd l Z EL R own code mx ret nm T h k n sf) {i : Nat} {v : Int64} (hd : Dc code pc (.lload i) 2 pc') (hl : ls[i]? = some (.val (.long v))) (K : Go x wd Z EL R Q T pc' ls (.long v :: st)) : Go x wd Z EL R Q T pc ls st := by
  obtain ⟨hd, rfl⟩ := hd
  exact w.go (fun A hx hb t hr => XT.lload A hx rfl (Jvm.hb hb hd) hl hr) K
theorem W.iconst (w : W x wd l Z EL R own code mx ret nm T h k n sf) {i : Int} (v : Int32) (hd : Dc code pc (.iconst i) 1 pc') (hv : Int32.ofInt i = v) (K : Go x wd Z EL R Q T pc' ls (.int v :: st)) : Go x wd Z EL R Q T pc ls st := by
  obtain ⟨hd, rfl⟩ := hd
  exact w.go (fun A hx hb t hr => XT.iconstV A hx rfl v (Jvm.hb hb hd) hv hr) K
theorem W.bipush (w : W x wd l Z EL R own code mx ret nm T h k n sf) {i : Int} (v : Int32) (hd : Dc code pc (.bipush i) 2 pc') (hv : (Int8.ofInt i).toInt32 = v) (K : Go x wd Z EL R Q T pc' ls (.int v :: st)) : Go x wd Z EL R Q T pc ls st := by
  obtain ⟨hd, rfl⟩ := hd
  exact w.go (fun A hx hb t hr => XT.bipushV A hx rfl v (Jvm.hb hb hd) hv hr) K
theorem W.sipush (w : W x wd l Z EL R own code mx ret nm T h k n sf) {i : Int} (v : Int32) (hd : Dc code pc (.sipush i) 3 pc') (hv : (Int16.ofInt i).toInt32 = v) (K : Go x wd Z EL R Q T pc' ls (.int v :: st)) : Go x wd Z EL R Q T pc ls st := by
  obtain ⟨hd, rfl⟩ := hd
  exact w.go (fun A hx hb t hr => XT.sipushV A hx rfl v (Jvm.hb hb hd) hv hr) K
theorem W.lconst (w : W x wd l Z EL R own code mx ret nm T h k n sf) {i : Fin 2} (v : Int64) (hd : Dc code pc (.lconst i) 1 pc') (hv : Int64.ofNat i = v) (K : Go x wd Z EL R Q T pc' ls (.long v :: st)) : Go x wd Z EL R Q T pc ls st := by
  obtain ⟨hd, rfl⟩ := hd
  exact w.go (fun A hx hb t hr => XT.lconstV A hx rfl v (Jvm.hb hb hd) hv hr) K
theorem W.aconstNull (w : W x wd l Z EL R own code mx ret nm T h k n sf) (hd : Dc code pc .aconst_null 1 pc') (K : Go x wd Z EL R Q T pc' ls (.null :: st)) : Go x wd Z EL R Q T pc ls st := by
  obtain ⟨hd, rfl⟩ := hd
  exact w.go (fun A hx hb t hr => XS.aconstNull A hx rfl (Jvm.hb hb hd) hr) K
theorem W.iadd (w : W x wd l Z EL R own code mx ret nm T h k n sf) {a b : Int32} (hd : Dc code pc .iadd 1 pc') (K : Go x wd Z EL R Q T pc' ls (.int (a + b) :: st)) : Go x wd Z EL R Q T pc ls (.int b :: .int a :: st) := by
  obtain ⟨hd, rfl⟩ := hd
  exact w.go (fun A hx hb t hr => XS.iadd A hx rfl (Jvm.hb hb hd) rfl hr) K
theorem W.isub (w : W x wd l Z EL R own code mx ret nm T h k n sf) {a b : Int32} (hd : Dc code pc .isub 1 pc') (K : Go x wd Z EL R Q T pc' ls (.int (a - b) :: st)) : Go x wd Z EL R Q T pc ls (.int b :: .int a :: st) := by
  obtain ⟨hd, rfl⟩ := hd
  exact w.go (fun A hx hb t hr => XS.isub A hx rfl (Jvm.hb hb hd) rfl hr) K
theorem W.imul (w : W x wd l Z EL R own code mx ret nm T h k n sf) {a b : Int32} (hd : Dc code pc .imul 1 pc') (K : Go x wd Z EL R Q T pc' ls (.int (a * b) :: st)) : Go x wd Z EL R Q T pc ls (.int b :: .int a :: st) := by
  obtain ⟨hd, rfl⟩ := hd
  exact w.go (fun A hx hb t hr => XS.imul A hx rfl (Jvm.hb hb hd) rfl hr) K
theorem W.iand (w : W x wd l Z EL R own code mx ret nm T h k n sf) {a b : Int32} (hd : Dc code pc .iand 1 pc') (K : Go x wd Z EL R Q T pc' ls (.int (a &&& b) :: st)) : Go x wd Z EL R Q T pc ls (.int b :: .int a :: st) := by
  obtain ⟨hd, rfl⟩ := hd
  exact w.go (fun A hx hb t hr => XS.iand A hx rfl (Jvm.hb hb hd) rfl hr) K
theorem W.ior (w : W x wd l Z EL R own code mx ret nm T h k n sf) {a b : Int32} (hd : Dc code pc .ior 1 pc') (K : Go x wd Z EL R Q T pc' ls (.int (a ||| b) :: st)) : Go x wd Z EL R Q T pc ls (.int b :: .int a :: st) := by
  obtain ⟨hd, rfl⟩ := hd
  exact w.go (fun A hx hb t hr => XT.ior A hx rfl (Jvm.hb hb hd) rfl hr) K
theorem W.ixor (w : W x wd l Z EL R own code mx ret nm T h k n sf) {a b : Int32} (hd : Dc code pc .ixor 1 pc') (K : Go x wd Z EL R Q T pc' ls (.int (a ^^^ b) :: st)) : Go x wd Z EL R Q T pc ls (.int b :: .int a :: st) := by
  obtain ⟨hd, rfl⟩ := hd
  exact w.go (fun A hx hb t hr => XT.ixor A hx rfl (Jvm.hb hb hd) rfl hr) K
theorem W.iushr (w : W x wd l Z EL R own code mx ret nm T h k n sf) {a b : Int32} (hd : Dc code pc .iushr 1 pc') (K : Go x wd Z EL R Q T pc' ls (.int (XT.ushr a b) :: st)) : Go x wd Z EL R Q T pc ls (.int b :: .int a :: st) := by
  obtain ⟨hd, rfl⟩ := hd
  exact w.go (fun A hx hb t hr => XT.iushr A hx rfl (Jvm.hb hb hd) rfl hr) K
theorem W.ishl (w : W x wd l Z EL R own code mx ret nm T h k n sf) {a b : Int32} (hd : Dc code pc .ishl 1 pc') (K : Go x wd Z EL R Q T pc' ls (.int (a <<< (b &&& 31)) :: st)) : Go x wd Z EL R Q T pc ls (.int b :: .int a :: st) := by
  obtain ⟨hd, rfl⟩ := hd
  exact w.go (fun A hx hb t hr => XT.ishl A hx rfl (Jvm.hb hb hd) rfl hr) K
theorem W.ishr (w : W x wd l Z EL R own code mx ret nm T h k n sf) {a b : Int32} (hd : Dc code pc .ishr 1 pc') (K : Go x wd Z EL R Q T pc' ls (.int (a >>> (b &&& 31)) :: st)) : Go x wd Z EL R Q T pc ls (.int b :: .int a :: st) := by
  obtain ⟨hd, rfl⟩ := hd
  exact w.go (fun A hx hb t hr => XT.ishr A hx rfl (Jvm.hb hb hd) rfl hr) K
theorem W.irem (w : W x wd l Z EL R own code mx ret nm T h k n sf) {a b : Int32} (hd : Dc code pc .irem 1 pc') (hy : b ≠ 0) (K : Go x wd Z EL R Q T pc' ls (.int (a % b) :: st)) : Go x wd Z EL R Q T pc ls (.int b :: .int a :: st) := by
  obtain ⟨hd, rfl⟩ := hd
  have q : a - a / b * b = a % b := irem_eq_mod a b
  exact w.go (fun A hx hb t hr => XS.irem A hx rfl (Jvm.hb hb hd) rfl hy (by rw [q]; exact hr)) K
theorem W.idiv (w : W x wd l Z EL R own code mx ret nm T h k n sf) {a b : Int32} (hd : Dc code pc .idiv 1 pc') (hy : b ≠ 0) (K : Go x wd Z EL R Q T pc' ls (.int (a / b) :: st)) : Go x wd Z EL R Q T pc ls (.int b :: .int a :: st) := by
  obtain ⟨hd, rfl⟩ := hd
  exact w.go (fun A hx hb t hr => XS.idiv A hx rfl (Jvm.hb hb hd) rfl hy hr) K
theorem W.ineg (w : W x wd l Z EL R own code mx ret nm T h k n sf) {a : Int32} (hd : Dc code pc .ineg 1 pc') (K : Go x wd Z EL R Q T pc' ls (.int (-a) :: st)) : Go x wd Z EL R Q T pc ls (.int a :: st) := by
  obtain ⟨hd, rfl⟩ := hd
  exact w.go (fun A hx hb t hr => XS.ineg A hx rfl (Jvm.hb hb hd) rfl hr) K
theorem W.i2c (w : W x wd l Z EL R own code mx ret nm T h k n sf) {a : Int32} (hd : Dc code pc .i2c 1 pc') (K : Go x wd Z EL R Q T pc' ls (.int (nar .char a) :: st)) : Go x wd Z EL R Q T pc ls (.int a :: st) := by
  obtain ⟨hd, rfl⟩ := hd
  exact w.go (fun A hx hb t hr => XT.i2c A hx rfl (Jvm.hb hb hd) rfl hr) K
theorem W.i2b (w : W x wd l Z EL R own code mx ret nm T h k n sf) {a : Int32} (hd : Dc code pc .i2b 1 pc') (K : Go x wd Z EL R Q T pc' ls (.int (nar .byte a) :: st)) : Go x wd Z EL R Q T pc ls (.int a :: st) := by
  obtain ⟨hd, rfl⟩ := hd
  exact w.go (fun A hx hb t hr => XT.i2b A hx rfl (Jvm.hb hb hd) rfl hr) K
theorem W.i2l (w : W x wd l Z EL R own code mx ret nm T h k n sf) {a : Int32} (hd : Dc code pc .i2l 1 pc') (K : Go x wd Z EL R Q T pc' ls (.long a.toInt64 :: st)) : Go x wd Z EL R Q T pc ls (.int a :: st) := by
  obtain ⟨hd, rfl⟩ := hd
  exact w.go (fun A hx hb t hr => XT.i2l A hx rfl (Jvm.hb hb hd) rfl hr) K
theorem W.l2i (w : W x wd l Z EL R own code mx ret nm T h k n sf) {a : Int64} (hd : Dc code pc .l2i 1 pc') (K : Go x wd Z EL R Q T pc' ls (.int a.toInt32 :: st)) : Go x wd Z EL R Q T pc ls (.long a :: st) := by
  obtain ⟨hd, rfl⟩ := hd
  exact w.go (fun A hx hb t hr => XT.l2i A hx rfl (Jvm.hb hb hd) rfl hr) K
theorem W.ladd (w : W x wd l Z EL R own code mx ret nm T h k n sf) {a b : Int64} (hd : Dc code pc .ladd 1 pc') (K : Go x wd Z EL R Q T pc' ls (.long (a + b) :: st)) : Go x wd Z EL R Q T pc ls (.long b :: .long a :: st) := by
  obtain ⟨hd, rfl⟩ := hd
  exact w.go (fun A hx hb t hr => XT.ladd A hx rfl (Jvm.hb hb hd) rfl hr) K
theorem W.lsub (w : W x wd l Z EL R own code mx ret nm T h k n sf) {a b : Int64} (hd : Dc code pc .lsub 1 pc') (K : Go x wd Z EL R Q T pc' ls (.long (a - b) :: st)) : Go x wd Z EL R Q T pc ls (.long b :: .long a :: st) := by
  obtain ⟨hd, rfl⟩ := hd
  exact w.go (fun A hx hb t hr => XT.lsub A hx rfl (Jvm.hb hb hd) rfl hr) K
theorem W.lmul (w : W x wd l Z EL R own code mx ret nm T h k n sf) {a b : Int64} (hd : Dc code pc .lmul 1 pc') (K : Go x wd Z EL R Q T pc' ls (.long (a * b) :: st)) : Go x wd Z EL R Q T pc ls (.long b :: .long a :: st) := by
  obtain ⟨hd, rfl⟩ := hd
  exact w.go (fun A hx hb t hr => XT.lmul A hx rfl (Jvm.hb hb hd) rfl hr) K
theorem W.land (w : W x wd l Z EL R own code mx ret nm T h k n sf) {a b : Int64} (hd : Dc code pc .land 1 pc') (K : Go x wd Z EL R Q T pc' ls (.long (a &&& b) :: st)) : Go x wd Z EL R Q T pc ls (.long b :: .long a :: st) := by
  obtain ⟨hd, rfl⟩ := hd
  exact w.go (fun A hx hb t hr => XT.land A hx rfl (Jvm.hb hb hd) rfl hr) K
theorem W.lcmp (w : W x wd l Z EL R own code mx ret nm T h k n sf) {a b : Int64} (hd : Dc code pc .lcmp 1 pc') (K : Go x wd Z EL R Q T pc' ls (.int (XT.cmpL a b) :: st)) : Go x wd Z EL R Q T pc ls (.long b :: .long a :: st) := by
  obtain ⟨hd, rfl⟩ := hd
  exact w.go (fun A hx hb t hr => XT.lcmp A hx rfl (Jvm.hb hb hd) rfl hr) K
theorem W.dup (w : W x wd l Z EL R own code mx ret nm T h k n sf) {v : Value} (hd : Dc code pc .dup 1 pc') (hc : v.category = 1) (K : Go x wd Z EL R Q T pc' ls (v :: v :: st)) : Go x wd Z EL R Q T pc ls (v :: st) := by
  obtain ⟨hd, rfl⟩ := hd
  exact w.go (fun A hx hb t hr => XS.dup A hx rfl (Jvm.hb hb hd) rfl hc hr) K
theorem W.dupX1 (w : W x wd l Z EL R own code mx ret nm T h k n sf) {v u : Value} (hd : Dc code pc .dup_x1 1 pc') (hc : v.category = 1) (hc' : u.category = 1) (K : Go x wd Z EL R Q T pc' ls (v :: u :: v :: st)) : Go x wd Z EL R Q T pc ls (v :: u :: st) := by
  obtain ⟨hd, rfl⟩ := hd
  exact w.go (fun A hx hb t hr => XT.dupX1 A hx rfl (Jvm.hb hb hd) rfl hc hc' hr) K
theorem W.dup2 (w : W x wd l Z EL R own code mx ret nm T h k n sf) {v u : Value} (hd : Dc code pc .dup2 1 pc') (hc : v.category = 1) (hc' : u.category = 1) (K : Go x wd Z EL R Q T pc' ls (v :: u :: v :: u :: st)) : Go x wd Z EL R Q T pc ls (v :: u :: st) := by
  obtain ⟨hd, rfl⟩ := hd
  exact w.go (fun A hx hb t hr => XT.dup2 A hx rfl (Jvm.hb hb hd) rfl hc hc' hr) K
theorem W.pop (w : W x wd l Z EL R own code mx ret nm T h k n sf) {v : Value} (hd : Dc code pc .pop 1 pc') (hc : v.category = 1) (K : Go x wd Z EL R Q T pc' ls st) : Go x wd Z EL R Q T pc ls (v :: st) := by
  obtain ⟨hd, rfl⟩ := hd
  exact w.go (fun A hx hb t hr => XT.pop A hx rfl (Jvm.hb hb hd) rfl hc hr) K
theorem W.istoreN (w : W x wd l Z EL R own code mx ret nm T h k n sf) {i : Fin 4} {v : Int32} (ls' : Array Slot) (hd : Dc code pc (.istore_n i) 1 pc') (hl : storeLocals ls i.val (.int v) = some ls') (K : Go x wd Z EL R Q T pc' ls' st) : Go x wd Z EL R Q T pc ls (.int v :: st) := by
  obtain ⟨hd, rfl⟩ := hd
  exact w.go (fun A hx hb t hr => XS.istoreN A hx rfl (Jvm.hb hb hd) rfl hl hr) K
theorem W.istore (w : W x wd l Z EL R own code mx ret nm T h k n sf) {i : Nat} {v : Int32} (ls' : Array Slot) (hd : Dc code pc (.istore i) 2 pc') (hl : storeLocals ls i (.int v) = some ls') (K : Go x wd Z EL R Q T pc' ls' st) : Go x wd Z EL R Q T pc ls (.int v :: st) := by
  obtain ⟨hd, rfl⟩ := hd
  exact w.go (fun A hx hb t hr => XS.istore A hx rfl (Jvm.hb hb hd) rfl hl hr) K
theorem W.lstoreN (w : W x wd l Z EL R own code mx ret nm T h k n sf) {i : Fin 4} {v : Int64} (ls' : Array Slot) (hd : Dc code pc (.lstore_n i) 1 pc') (hl : storeLocals ls i.val (.long v) = some ls') (K : Go x wd Z EL R Q T pc' ls' st) : Go x wd Z EL R Q T pc ls (.long v :: st) := by
  obtain ⟨hd, rfl⟩ := hd
  exact w.go (fun A hx hb t hr => XT.lstoreN A hx rfl (Jvm.hb hb hd) rfl hl hr) K
theorem W.astoreN (w : W x wd l Z EL R own code mx ret nm T h k n sf) {i : Fin 4} {v : Value} (ls' : Array Slot) (hd : Dc code pc (.astore_n i) 1 pc') (hv : v.isRef = true) (hl : storeLocals ls i.val v = some ls') (K : Go x wd Z EL R Q T pc' ls' st) : Go x wd Z EL R Q T pc ls (v :: st) := by
  obtain ⟨hd, rfl⟩ := hd
  exact w.go (fun A hx hb t hr => XS.astoreN A hx rfl (Jvm.hb hb hd) rfl hv hl hr) K
theorem W.astore (w : W x wd l Z EL R own code mx ret nm T h k n sf) {i : Nat} {v : Value} (ls' : Array Slot) (hd : Dc code pc (.astore i) 2 pc') (hv : v.isRef = true) (hl : storeLocals ls i v = some ls') (K : Go x wd Z EL R Q T pc' ls' st) : Go x wd Z EL R Q T pc ls (v :: st) := by
  obtain ⟨hd, rfl⟩ := hd
  exact w.go (fun A hx hb t hr => XS.astore A hx rfl (Jvm.hb hb hd) rfl hv hl hr) K
theorem W.iinc (w : W x wd l Z EL R own code mx ret nm T h k n sf) {i : Nat} {c : Int} {a : Int32} (v : Int32) (ls' : Array Slot) (hd : Dc code pc (.iinc i c) 3 pc') (hv : Int32.ofInt c = v) (hl : ls[i]? = some (.val (.int a))) (hl' : storeLocals ls i (.int (a + v)) = some ls') (K : Go x wd Z EL R Q T pc' ls' st) : Go x wd Z EL R Q T pc ls st := by
  obtain ⟨hd, rfl⟩ := hd
  exact w.go (fun A hx hb t hr => XT.iincV A hx rfl v (Jvm.hb hb hd) hv hl hl' hr) K
theorem W.goto (w : W x wd l Z EL R own code mx ret nm T h k n sf) {o : Int} (hd : Dc code pc (.goto o) 3 pc') (ht : Tg pc o pcT) (K : Go x wd Z EL R Q T pcT ls st) : Go x wd Z EL R Q T pc ls st := by
  obtain ⟨hd, rfl⟩ := hd
  exact w.go (fun A hx hb t hr => XS.goto A hx rfl (pc0 := pc) (pc' := pcT) rfl (Jvm.hb hb hd) ht.1 ht.2 hr) K
theorem W.ifEq (w : W x wd l Z EL R own code mx ret nm T h k n sf) {a : Int32} {o : Int} (hd : Dc code pc (.ifCond .eq o) 3 pc') (ht : Tg pc o pcT) (K1 : a = 0 → Go x wd Z EL R Q T pcT ls st) (K2 : (¬ a = 0) → Go x wd Z EL R Q T pc' ls st) : Go x wd Z EL R Q T pc ls (.int a :: st) := by
  obtain ⟨hd, rfl⟩ := hd
  by_cases q : a = 0
  · exact w.go (fun A hx hb t hr => XS.ifYes A hx rfl (pc0 := pc) (pc' := pcT) rfl (Jvm.hb hb hd) rfl (XT.i0_eq_t q) ht.1 ht.2 hr) (K1 q)
  · exact w.go (fun A hx hb t hr => XS.ifNo A hx rfl (Jvm.hb hb hd) rfl (XT.i0_eq_f q) hr) (K2 q)
theorem W.ifNe (w : W x wd l Z EL R own code mx ret nm T h k n sf) {a : Int32} {o : Int} (hd : Dc code pc (.ifCond .ne o) 3 pc') (ht : Tg pc o pcT) (K1 : (¬ a = 0) → Go x wd Z EL R Q T pcT ls st) (K2 : (a = 0) → Go x wd Z EL R Q T pc' ls st) : Go x wd Z EL R Q T pc ls (.int a :: st) := by
  obtain ⟨hd, rfl⟩ := hd
  by_cases q : a = 0
  · exact w.go (fun A hx hb t hr => XS.ifNo A hx rfl (Jvm.hb hb hd) rfl (XT.i0_ne_f q) hr) (K2 q)
  · exact w.go (fun A hx hb t hr => XS.ifYes A hx rfl (pc0 := pc) (pc' := pcT) rfl (Jvm.hb hb hd) rfl (XT.i0_ne_t q) ht.1 ht.2 hr) (K1 q)
theorem W.ifLt (w : W x wd l Z EL R own code mx ret nm T h k n sf) {a : Int32} {o : Int} (hd : Dc code pc (.ifCond .lt o) 3 pc') (ht : Tg pc o pcT) (K1 : a < 0 → Go x wd Z EL R Q T pcT ls st) (K2 : (¬ a < 0) → Go x wd Z EL R Q T pc' ls st) : Go x wd Z EL R Q T pc ls (.int a :: st) := by
  obtain ⟨hd, rfl⟩ := hd
  by_cases q : a < 0
  · exact w.go (fun A hx hb t hr => XS.ifYes A hx rfl (pc0 := pc) (pc' := pcT) rfl (Jvm.hb hb hd) rfl (XT.i0_lt_t q) ht.1 ht.2 hr) (K1 q)
  · exact w.go (fun A hx hb t hr => XS.ifNo A hx rfl (Jvm.hb hb hd) rfl (XT.i0_lt_f q) hr) (K2 q)
theorem W.ifGe (w : W x wd l Z EL R own code mx ret nm T h k n sf) {a : Int32} {o : Int} (hd : Dc code pc (.ifCond .ge o) 3 pc') (ht : Tg pc o pcT) (K1 : (¬ a < 0) → Go x wd Z EL R Q T pcT ls st) (K2 : (a < 0) → Go x wd Z EL R Q T pc' ls st) : Go x wd Z EL R Q T pc ls (.int a :: st) := by
  obtain ⟨hd, rfl⟩ := hd
  by_cases q : a < 0
  · exact w.go (fun A hx hb t hr => XS.ifNo A hx rfl (Jvm.hb hb hd) rfl (XT.i0_ge_f q) hr) (K2 q)
  · exact w.go (fun A hx hb t hr => XS.ifYes A hx rfl (pc0 := pc) (pc' := pcT) rfl (Jvm.hb hb hd) rfl (XT.i0_ge_t q) ht.1 ht.2 hr) (K1 q)
theorem W.ifGt (w : W x wd l Z EL R own code mx ret nm T h k n sf) {a : Int32} {o : Int} (hd : Dc code pc (.ifCond .gt o) 3 pc') (ht : Tg pc o pcT) (K1 : 0 < a → Go x wd Z EL R Q T pcT ls st) (K2 : (¬ 0 < a) → Go x wd Z EL R Q T pc' ls st) : Go x wd Z EL R Q T pc ls (.int a :: st) := by
  obtain ⟨hd, rfl⟩ := hd
  by_cases q : 0 < a
  · exact w.go (fun A hx hb t hr => XS.ifYes A hx rfl (pc0 := pc) (pc' := pcT) rfl (Jvm.hb hb hd) rfl (XT.i0_gt_t q) ht.1 ht.2 hr) (K1 q)
  · exact w.go (fun A hx hb t hr => XS.ifNo A hx rfl (Jvm.hb hb hd) rfl (XT.i0_gt_f q) hr) (K2 q)
theorem W.ifLe (w : W x wd l Z EL R own code mx ret nm T h k n sf) {a : Int32} {o : Int} (hd : Dc code pc (.ifCond .le o) 3 pc') (ht : Tg pc o pcT) (K1 : (¬ 0 < a) → Go x wd Z EL R Q T pcT ls st) (K2 : (0 < a) → Go x wd Z EL R Q T pc' ls st) : Go x wd Z EL R Q T pc ls (.int a :: st) := by
  obtain ⟨hd, rfl⟩ := hd
  by_cases q : 0 < a
  · exact w.go (fun A hx hb t hr => XS.ifNo A hx rfl (Jvm.hb hb hd) rfl (XT.i0_le_f q) hr) (K2 q)
  · exact w.go (fun A hx hb t hr => XS.ifYes A hx rfl (pc0 := pc) (pc' := pcT) rfl (Jvm.hb hb hd) rfl (XT.i0_le_t q) ht.1 ht.2 hr) (K1 q)
theorem W.icmpEq (w : W x wd l Z EL R own code mx ret nm T h k n sf) {a b : Int32} {o : Int} (hd : Dc code pc (.if_icmp .eq o) 3 pc') (ht : Tg pc o pcT) (K1 : a = b → Go x wd Z EL R Q T pcT ls st) (K2 : (¬ a = b) → Go x wd Z EL R Q T pc' ls st) : Go x wd Z EL R Q T pc ls (.int b :: .int a :: st) := by
  obtain ⟨hd, rfl⟩ := hd
  by_cases q : a = b
  · exact w.go (fun A hx hb t hr => XS.icmpYes A hx rfl (pc0 := pc) (pc' := pcT) rfl (Jvm.hb hb hd) rfl (XT.ii_eq_t q) ht.1 ht.2 hr) (K1 q)
  · exact w.go (fun A hx hb t hr => XS.icmpNo A hx rfl (Jvm.hb hb hd) rfl (XT.ii_eq_f q) hr) (K2 q)
theorem W.icmpNe (w : W x wd l Z EL R own code mx ret nm T h k n sf) {a b : Int32} {o : Int} (hd : Dc code pc (.if_icmp .ne o) 3 pc') (ht : Tg pc o pcT) (K1 : (¬ a = b) → Go x wd Z EL R Q T pcT ls st) (K2 : (a = b) → Go x wd Z EL R Q T pc' ls st) : Go x wd Z EL R Q T pc ls (.int b :: .int a :: st) := by
  obtain ⟨hd, rfl⟩ := hd
  by_cases q : a = b
  · exact w.go (fun A hx hb t hr => XS.icmpNo A hx rfl (Jvm.hb hb hd) rfl (XT.ii_ne_f q) hr) (K2 q)
  · exact w.go (fun A hx hb t hr => XS.icmpYes A hx rfl (pc0 := pc) (pc' := pcT) rfl (Jvm.hb hb hd) rfl (XT.ii_ne_t q) ht.1 ht.2 hr) (K1 q)
theorem W.icmpLt (w : W x wd l Z EL R own code mx ret nm T h k n sf) {a b : Int32} {o : Int} (hd : Dc code pc (.if_icmp .lt o) 3 pc') (ht : Tg pc o pcT) (K1 : a < b → Go x wd Z EL R Q T pcT ls st) (K2 : (¬ a < b) → Go x wd Z EL R Q T pc' ls st) : Go x wd Z EL R Q T pc ls (.int b :: .int a :: st) := by
  obtain ⟨hd, rfl⟩ := hd
  by_cases q : a < b
  · exact w.go (fun A hx hb t hr => XS.icmpYes A hx rfl (pc0 := pc) (pc' := pcT) rfl (Jvm.hb hb hd) rfl (XT.ii_lt_t q) ht.1 ht.2 hr) (K1 q)
  · exact w.go (fun A hx hb t hr => XS.icmpNo A hx rfl (Jvm.hb hb hd) rfl (XT.ii_lt_f q) hr) (K2 q)
theorem W.icmpGe (w : W x wd l Z EL R own code mx ret nm T h k n sf) {a b : Int32} {o : Int} (hd : Dc code pc (.if_icmp .ge o) 3 pc') (ht : Tg pc o pcT) (K1 : (¬ a < b) → Go x wd Z EL R Q T pcT ls st) (K2 : (a < b) → Go x wd Z EL R Q T pc' ls st) : Go x wd Z EL R Q T pc ls (.int b :: .int a :: st) := by
  obtain ⟨hd, rfl⟩ := hd
  by_cases q : a < b
  · exact w.go (fun A hx hb t hr => XS.icmpNo A hx rfl (Jvm.hb hb hd) rfl (XT.ii_ge_f q) hr) (K2 q)
  · exact w.go (fun A hx hb t hr => XS.icmpYes A hx rfl (pc0 := pc) (pc' := pcT) rfl (Jvm.hb hb hd) rfl (XT.ii_ge_t q) ht.1 ht.2 hr) (K1 q)
theorem W.icmpGt (w : W x wd l Z EL R own code mx ret nm T h k n sf) {a b : Int32} {o : Int} (hd : Dc code pc (.if_icmp .gt o) 3 pc') (ht : Tg pc o pcT) (K1 : b < a → Go x wd Z EL R Q T pcT ls st) (K2 : (¬ b < a) → Go x wd Z EL R Q T pc' ls st) : Go x wd Z EL R Q T pc ls (.int b :: .int a :: st) := by
  obtain ⟨hd, rfl⟩ := hd
  by_cases q : b < a
  · exact w.go (fun A hx hb t hr => XS.icmpYes A hx rfl (pc0 := pc) (pc' := pcT) rfl (Jvm.hb hb hd) rfl (XT.ii_gt_t q) ht.1 ht.2 hr) (K1 q)
  · exact w.go (fun A hx hb t hr => XS.icmpNo A hx rfl (Jvm.hb hb hd) rfl (XT.ii_gt_f q) hr) (K2 q)
theorem W.icmpLe (w : W x wd l Z EL R own code mx ret nm T h k n sf) {a b : Int32} {o : Int} (hd : Dc code pc (.if_icmp .le o) 3 pc') (ht : Tg pc o pcT) (K1 : (¬ b < a) → Go x wd Z EL R Q T pcT ls st) (K2 : (b < a) → Go x wd Z EL R Q T pc' ls st) : Go x wd Z EL R Q T pc ls (.int b :: .int a :: st) := by
  obtain ⟨hd, rfl⟩ := hd
  by_cases q : b < a
  · exact w.go (fun A hx hb t hr => XS.icmpNo A hx rfl (Jvm.hb hb hd) rfl (XT.ii_le_f q) hr) (K2 q)
  · exact w.go (fun A hx hb t hr => XS.icmpYes A hx rfl (pc0 := pc) (pc' := pcT) rfl (Jvm.hb hb hd) rfl (XT.ii_le_t q) ht.1 ht.2 hr) (K1 q)
theorem W.acmpEq (w : W x wd l Z EL R own code mx ret nm T h k n sf) {a b : Value} {o : Int} (hd : Dc code pc (.if_acmp .eq o) 3 pc') (ht : Tg pc o pcT) (h1 : a.isRef = true) (h2 : b.isRef = true) (K1 : a = b → Go x wd Z EL R Q T pcT ls st) (K2 : (¬ a = b) → Go x wd Z EL R Q T pc' ls st) : Go x wd Z EL R Q T pc ls (b :: a :: st) := by
  obtain ⟨hd, rfl⟩ := hd
  by_cases q : a = b
  · exact w.go (fun A hx hb t hr => XT.acmpYes A hx rfl (pc0 := pc) (pc' := pcT) rfl (Jvm.hb hb hd) rfl h1 h2 (XT.aa_eq_t q) ht.1 ht.2 hr) (K1 q)
  · exact w.go (fun A hx hb t hr => XT.acmpNo A hx rfl (Jvm.hb hb hd) rfl h1 h2 (XT.aa_eq_f q) hr) (K2 q)
theorem W.acmpNe (w : W x wd l Z EL R own code mx ret nm T h k n sf) {a b : Value} {o : Int} (hd : Dc code pc (.if_acmp .ne o) 3 pc') (ht : Tg pc o pcT) (h1 : a.isRef = true) (h2 : b.isRef = true) (K1 : (¬ a = b) → Go x wd Z EL R Q T pcT ls st) (K2 : (a = b) → Go x wd Z EL R Q T pc' ls st) : Go x wd Z EL R Q T pc ls (b :: a :: st) := by
  obtain ⟨hd, rfl⟩ := hd
  by_cases q : a = b
  · exact w.go (fun A hx hb t hr => XT.acmpNo A hx rfl (Jvm.hb hb hd) rfl h1 h2 (XT.aa_ne_f q) hr) (K2 q)
  · exact w.go (fun A hx hb t hr => XT.acmpYes A hx rfl (pc0 := pc) (pc' := pcT) rfl (Jvm.hb hb hd) rfl h1 h2 (XT.aa_ne_t q) ht.1 ht.2 hr) (K1 q)
theorem W.racmpEq (w : W x wd l Z EL R own code mx ret nm T h k n sf) {a b : Addr} {o : Int} (hd : Dc code pc (.if_acmp .eq o) 3 pc') (ht : Tg pc o pcT) (K1 : a = b → Go x wd Z EL R Q T pcT ls st) (K2 : ¬ a = b → Go x wd Z EL R Q T pc' ls st) : Go x wd Z EL R Q T pc ls (.ref b :: .ref a :: st) := w.acmpEq hd ht rfl rfl (fun q => K1 (Value.ref.inj q)) (fun q => K2 fun e => q (congrArg _ e))
theorem W.racmpNe (w : W x wd l Z EL R own code mx ret nm T h k n sf) {a b : Addr} {o : Int} (hd : Dc code pc (.if_acmp .ne o) 3 pc') (ht : Tg pc o pcT) (K1 : ¬ a = b → Go x wd Z EL R Q T pcT ls st) (K2 : a = b → Go x wd Z EL R Q T pc' ls st) : Go x wd Z EL R Q T pc ls (.ref b :: .ref a :: st) := w.acmpNe hd ht rfl rfl (fun q => K1 fun e => q (congrArg _ e)) (fun q => K2 (Value.ref.inj q))
theorem W.nullT (w : W x wd l Z EL R own code mx ret nm T h k n sf) {o : Int} (hd : Dc code pc (.ifnull o) 3 pc') (ht : Tg pc o pcT) (K : Go x wd Z EL R Q T pcT ls st) : Go x wd Z EL R Q T pc ls (.null :: st) := by
  obtain ⟨hd, rfl⟩ := hd
  exact w.go (fun A hx hb t hr => XS.ifnullYes A hx rfl (pc0 := pc) (pc' := pcT) rfl (Jvm.hb hb hd) rfl ht.1 ht.2 hr) K
theorem W.nullF (w : W x wd l Z EL R own code mx ret nm T h k n sf) {o : Int} {a : Addr} (hd : Dc code pc (.ifnull o) 3 pc') (K : Go x wd Z EL R Q T pc' ls st) : Go x wd Z EL R Q T pc ls (.ref a :: st) := by
  obtain ⟨hd, rfl⟩ := hd
  exact w.go (fun A hx hb t hr => XS.ifnullNo A hx rfl (Jvm.hb hb hd) rfl hr) K
theorem W.nonnullT (w : W x wd l Z EL R own code mx ret nm T h k n sf) {o : Int} {a : Addr} (hd : Dc code pc (.ifnonnull o) 3 pc') (ht : Tg pc o pcT) (K : Go x wd Z EL R Q T pcT ls st) : Go x wd Z EL R Q T pc ls (.ref a :: st) := by
  obtain ⟨hd, rfl⟩ := hd
  exact w.go (fun A hx hb t hr => XT.ifnonnullYes A hx rfl (pc0 := pc) (pc' := pcT) rfl (Jvm.hb hb hd) rfl ht.1 ht.2 hr) K
theorem W.nonnullF (w : W x wd l Z EL R own code mx ret nm T h k n sf) {o : Int} (hd : Dc code pc (.ifnonnull o) 3 pc') (K : Go x wd Z EL R Q T pc' ls st) : Go x wd Z EL R Q T pc ls (.null :: st) := by
  obtain ⟨hd, rfl⟩ := hd
  exact w.go (fun A hx hb t hr => XT.ifnonnullNo A hx rfl (Jvm.hb hb hd) rfl hr) K
theorem W.ldcI (w : W x wd l Z EL R own code mx ret nm T h k n sf) {i : Nat} {v : Int32} (hd : Dc code pc (.ldc i) 2 pc') (wc : (Jvm.Cond.constant own i v).before a0 Z = true) (K : Go x wd Z EL R Q T pc' ls (.int v :: st)) : Go x wd Z EL R Q T pc ls st := by
  obtain ⟨hd, rfl⟩ := hd
  obtain ⟨hx, hb, hm, hr, hn, hl, e0, E, c1, c2, hs, hEL, L, vm0, N, g, X, S, hZ, ho, hC⟩ := w
  obtain ⟨s₂, o, a1, r⟩ := K
  exact ⟨s₂, o, X.ldcI hx ho (mv (s := x.s.setVm vm0) hZ wc) rfl (Jvm.hb hb hd) a1, r⟩
theorem W.ldcWI (w : W x wd l Z EL R own code mx ret nm T h k n sf) {i : Nat} {v : Int32} (hd : Dc code pc (.ldc_w i) 3 pc') (wc : (Jvm.Cond.constant own i v).before a0 Z = true) (K : Go x wd Z EL R Q T pc' ls (.int v :: st)) : Go x wd Z EL R Q T pc ls st := by
  obtain ⟨hd, rfl⟩ := hd
  obtain ⟨hx, hb, hm, hr, hn, hl, e0, E, c1, c2, hs, hEL, L, vm0, N, g, X, S, hZ, ho, hC⟩ := w
  obtain ⟨s₂, o, a1, r⟩ := K
  exact ⟨s₂, o, X.ldcWI hx ho (mv (s := x.s.setVm vm0) hZ wc) rfl (Jvm.hb hb hd) a1, r⟩
theorem W.getS (w : W x wd l Z EL R own code mx ret nm T h k n sf) {i : Nat} {O f d : String} {v : Value} (hd : Dc code pc (.getstatic i) 3 pc') (wl : (Jvm.Cond.fieldLink own i O f d).before a0 Z = true) (F : Sta Z Z.heap O f d v) (K : ∀ T', W x wd l Z EL R own code mx ret nm T' h k n sf → Go x wd Z EL R Q T' pc' ls (v :: st)) : Go x wd Z EL R Q T pc ls st := by
  obtain ⟨hd, rfl⟩ := hd
  exact w.goT (fun s0 L X hx hZ ho hb hm e0 => RoadKit.getS (host := "") X hx hZ ho wl Via.refl e0 (w.sta F) (g := mkF x.m pc ls st) rfl (Jvm.hb hb hd)) K
theorem W.getF (w : W x wd l Z EL R own code mx ret nm T h k n sf) {i : Nat} {a : Addr} {O f d : String} {v : Value} (hd : Dc code pc (.getfield i) 3 pc') (wl : (Jvm.Cond.fieldLink own i O f d).before a0 Z = true) (F : Fld Z h a O f d v) (K : ∀ T', W x wd l Z EL R own code mx ret nm T' h k n sf → Go x wd Z EL R Q T' pc' ls (v :: st)) : Go x wd Z EL R Q T pc ls (.ref a :: st) := by
  obtain ⟨hd, rfl⟩ := hd
  exact w.goT (fun s0 L X hx hZ ho hb hm e0 => RoadKit.getF (host := "") X hx hZ ho (Or.inl wl) Via.refl e0 F (g := mkF x.m pc ls (.ref a :: st)) rfl rfl (Jvm.hb hb hd)) K
theorem W.cast (w : W x wd l Z EL R own code mx ret nm T h k n sf) {i : Nat} {a : Addr} {C : String} (hd : Dc code pc (.checkcast i) 3 pc') (wl : (Jvm.Cond.classLink own i C).before a0 Z = true) (F : Ins Z h a C true) (K : ∀ T', W x wd l Z EL R own code mx ret nm T' h k n sf → Go x wd Z EL R Q T' pc' ls (.ref a :: st)) : Go x wd Z EL R Q T pc ls (.ref a :: st) := by
  obtain ⟨hd, rfl⟩ := hd
  exact w.goT (fun s0 L X hx hZ ho hb hm e0 => castY X hx hZ ho wl e0 F (g := mkF x.m pc ls (.ref a :: st)) rfl rfl (Jvm.hb hb hd)) K
theorem W.instY (w : W x wd l Z EL R own code mx ret nm T h k n sf) {i : Nat} {a : Addr} {C : String} (hd : Dc code pc (.instanceof i) 3 pc') (wl : (Jvm.Cond.classLink own i C).before a0 Z = true) (F : Ins Z h a C true) (K : ∀ T', W x wd l Z EL R own code mx ret nm T' h k n sf → Go x wd Z EL R Q T' pc' ls (.int 1 :: st)) : Go x wd Z EL R Q T pc ls (.ref a :: st) := by
  obtain ⟨hd, rfl⟩ := hd
  exact w.goT (fun s0 L X hx hZ ho hb hm e0 => RoadKit.instY X hx hZ ho wl e0 F (g := mkF x.m pc ls (.ref a :: st)) rfl rfl (Jvm.hb hb hd)) K
theorem W.initO (w : W x wd l Z EL R own code mx ret nm T h k n sf) {i : Nat} {a : Addr} (Wn : Nat) (hd : Dc code pc (.invokespecial i) 3 pc') (w1 : (Jvm.Cond.methodLink own i Lib.objectInit).before a0 Z = true) (w2 : (Jvm.Cond.instanceMethod Lib.objectInit).before a0 Z = true) (w3 : (Jvm.Cond.code Lib.objectInit ⟨#[0xb1]⟩ 1 none).before a0 Z = true) (hz : ls.size = mx) (hW : (st.map fun v => v.category).sum ≤ Wn) (hr : 1 ≤ R.frames ∧ Wn + 12 ≤ R.locals) (K : ∀ T', W x wd l Z EL R own code mx ret nm T' h k n sf → Go x wd Z EL R Q T' pc' ls st) : Go x wd Z EL R Q T pc ls (.ref a :: st) := by
  obtain ⟨hd, rfl⟩ := hd
  exact w.goT (fun s0 L X hx hZ ho hb hm e0 => RoadKit.initO X hx hZ ho w1 w2 w3 e0 (g := mkF x.m pc ls (.ref a :: st)) rfl (hz.trans hm.symm) rfl (Jvm.hb hb hd) hr.1 (W := Wn) (by show 2 * 0 + _ ≤ _; omega) hr.2) K
theorem W.alen (w : W x wd l Z EL R own code mx ret nm T h k n sf) {a : Addr} {cl : Cell} {ty : FieldType} (v : Int32) (hd : Dc code pc .arraylength 1 pc') (A : Arr Z h a cl ty) (hv : cl.slots.size.toInt32 = v) (K : Go x wd Z EL R Q T pc' ls (.int v :: st)) : Go x wd Z EL R Q T pc ls (.ref a :: st) := by
  obtain ⟨hd, rfl⟩ := hd
  subst hv
  obtain ⟨hx, hb, hm, hr, hn, hl, e0, E, c1, c2, hs, hEL, L, vm0, N, g, X, S, hZ, ho, hC⟩ := w
  obtain ⟨s₂, o, a1, r⟩ := K
  exact ⟨s₂, o, X.arraylength hx (by rw [e0]; exact A.1) (State.isArrayOf_alike (T := x.s.setVm vm0) hZ.alike A.2.1) (g := mkF x.m pc ls (.ref a :: st)) rfl rfl (Jvm.hb hb hd) _ a1, r⟩
theorem W.iaload (w : W x wd l Z EL R own code mx ret nm T h k n sf) {a : Addr} {cl : Cell} {j : Int32} {v : Value} (hd : Dc code pc .iaload 1 pc') (A : Arr Z h a cl .int) (hj : ¬ (j < 0 ∨ cl.slots.size ≤ j.toNatClampNeg)) (hv : cl.slots[j.toNatClampNeg]? = some v) (K : Go x wd Z EL R Q T pc' ls (v :: st)) : Go x wd Z EL R Q T pc ls (.int j :: .ref a :: st) := by
  obtain ⟨hd, rfl⟩ := hd
  obtain ⟨hx, hb, hm, hr, hn, hl, e0, E, c1, c2, hs, hEL, L, vm0, N, g, X, S, hZ, ho, hC⟩ := w
  obtain ⟨s₂, o, a1, r⟩ := K
  exact ⟨s₂, o, X.iaload hx (by rw [e0]; exact A.1) (State.isArrayOf_alike (T := x.s.setVm vm0) hZ.alike A.2.1) A.2.2 hj hv (g := mkF x.m pc ls (.int j :: .ref a :: st)) rfl rfl (Jvm.hb hb hd) _ a1, r⟩
theorem W.caload (w : W x wd l Z EL R own code mx ret nm T h k n sf) {a : Addr} {cl : Cell} {j : Int32} {v : Value} (hd : Dc code pc .caload 1 pc') (A : Arr Z h a cl .char) (hj : ¬ (j < 0 ∨ cl.slots.size ≤ j.toNatClampNeg)) (hv : cl.slots[j.toNatClampNeg]? = some v) (K : Go x wd Z EL R Q T pc' ls (v :: st)) : Go x wd Z EL R Q T pc ls (.int j :: .ref a :: st) := by
  obtain ⟨hd, rfl⟩ := hd
  obtain ⟨hx, hb, hm, hr, hn, hl, e0, E, c1, c2, hs, hEL, L, vm0, N, g, X, S, hZ, ho, hC⟩ := w
  obtain ⟨s₂, o, a1, r⟩ := K
  exact ⟨s₂, o, X.caload hx (by rw [e0]; exact A.1) (State.isArrayOf_alike (T := x.s.setVm vm0) hZ.alike A.2.1) A.2.2 hj hv (g := mkF x.m pc ls (.int j :: .ref a :: st)) rfl rfl (Jvm.hb hb hd) _ a1, r⟩
theorem W.baload (w : W x wd l Z EL R own code mx ret nm T h k n sf) {a : Addr} {cl : Cell} {j : Int32} {v : Value} (hd : Dc code pc .baload 1 pc') (A : Arr Z h a cl .byte) (hj : ¬ (j < 0 ∨ cl.slots.size ≤ j.toNatClampNeg)) (hv : cl.slots[j.toNatClampNeg]? = some v) (K : Go x wd Z EL R Q T pc' ls (v :: st)) : Go x wd Z EL R Q T pc ls (.int j :: .ref a :: st) := by
  obtain ⟨hd, rfl⟩ := hd
  obtain ⟨hx, hb, hm, hr, hn, hl, e0, E, c1, c2, hs, hEL, L, vm0, N, g, X, S, hZ, ho, hC⟩ := w
  obtain ⟨s₂, o, a1, r⟩ := K
  exact ⟨s₂, o, X.baloadBytes hx (by rw [e0]; exact A.1) (State.isArrayOf_alike (T := x.s.setVm vm0) hZ.alike A.2.1) A.2.2 hj hv (g := mkF x.m pc ls (.int j :: .ref a :: st)) rfl rfl (Jvm.hb hb hd) _ a1, r⟩
theorem W.laload (w : W x wd l Z EL R own code mx ret nm T h k n sf) {a : Addr} {cl : Cell} {j : Int32} {v : Value} (hd : Dc code pc .laload 1 pc') (A : Arr Z h a cl .long) (hj : ¬ (j < 0 ∨ cl.slots.size ≤ j.toNatClampNeg)) (hv : cl.slots[j.toNatClampNeg]? = some v) (K : Go x wd Z EL R Q T pc' ls (v :: st)) : Go x wd Z EL R Q T pc ls (.int j :: .ref a :: st) := by
  obtain ⟨hd, rfl⟩ := hd
  obtain ⟨hx, hb, hm, hr, hn, hl, e0, E, c1, c2, hs, hEL, L, vm0, N, g, X, S, hZ, ho, hC⟩ := w
  obtain ⟨s₂, o, a1, r⟩ := K
  exact ⟨s₂, o, X.laload hx (by rw [e0]; exact A.1) (State.isArrayOf_alike (T := x.s.setVm vm0) hZ.alike A.2.1) A.2.2 hj hv (g := mkF x.m pc ls (.int j :: .ref a :: st)) rfl rfl (Jvm.hb hb hd) _ a1, r⟩
theorem W.aaload (w : W x wd l Z EL R own code mx ret nm T h k n sf) {a : Addr} {cl : Cell} {j : Int32} {v : Value} {ty : FieldType} (hd : Dc code pc .aaload 1 pc') (A : Arr Z h a cl ty) (hty : ty.isReference = true) (hj : ¬ (j < 0 ∨ cl.slots.size ≤ j.toNatClampNeg)) (hv : cl.slots[j.toNatClampNeg]? = some v) (K : Go x wd Z EL R Q T pc' ls (v :: st)) : Go x wd Z EL R Q T pc ls (.int j :: .ref a :: st) := by
  obtain ⟨hd, rfl⟩ := hd
  obtain ⟨hx, hb, hm, hr, hn, hl, e0, E, c1, c2, hs, hEL, L, vm0, N, g, X, S, hZ, ho, hC⟩ := w
  obtain ⟨s₂, o, a1, r⟩ := K
  exact ⟨s₂, o, X.aaload hx (by rw [e0]; exact A.1) (State.isArrayOf_alike (T := x.s.setVm vm0) hZ.alike A.2.1) hty A.2.2 hj hv (g := mkF x.m pc ls (.int j :: .ref a :: st)) rfl rfl (Jvm.hb hb hd) _ a1, r⟩
theorem W.new (w : W x wd l Z EL R own code mx ret nm T h k n sf) {i nf : Nat} {C : String} (hd : Dc code pc (.new i) 3 pc') (w1 : (Jvm.Cond.classLink own i C).before a0 Z = true) (w2 : (Jvm.Cond.instantiable C nf).before a0 Z = true) (w3 : (Jvm.Cond.initialized C).before a0 Z = true) (hr : k + 1 ≤ R.cells ∧ n + nf ≤ R.slots) (K : ∀ (a : Addr) T' h', a = h.size → W x wd l Z EL R own code mx ret nm T' h' (k + 1) (n + nf) (a :: sf) → Ext h h' → Exa Z h' a C → (∀ {O f d : String} {ty : FieldType}, Laid Z a0 C O f d → parseFieldDescriptor d = some ty → Fld Z h' a O f d (defaultValue ty)) → Go x wd Z EL R Q T' (pc') ls (.ref a :: st)) : Go x wd Z EL R Q T pc ls st := by
  obtain ⟨hd, rfl⟩ := hd
  refine w.goN (P := fun h' => Exa Z h' h.size C ∧ (∀ {O f d : String} {ty : FieldType}, Laid Z a0 C O f d → parseFieldDescriptor d = some ty → Fld Z h' h.size O f d (defaultValue ty))) hr.1 hr.2 (fun s0 L X hx hZ ho hb hm e0 => ?_) (fun T' h' w' E P => K h.size T' h' rfl w' E P.1 P.2)
  obtain ⟨T', h', X', e', E', A, D, -, stp⟩ := newO X hx hZ ho w1 w2 w3 e0 (g := mkF x.m pc ls st) rfl (Jvm.hb hb hd) hr.1 hr.2
  exact ⟨T', h', X', e', E', A.lt, ⟨A, D⟩, stp⟩
theorem W.newP (w : W x wd l Z EL R own code mx ret nm T h k n sf) {aty : ArrayType} {z : Int32} (cap : Nat) (ad : String) (hd : Dc code pc (.newarray aty) 2 pc') (w1 : (Jvm.Cond.arrayClass (newarray.typeOf aty)).before a0 Z = true) (hz : ¬ z < 0) (hcap : z.toNatClampNeg ≤ cap) (hbig : cap * 8 ≤ 536870912) (had : "[" ++ (newarray.typeOf aty).toString = ad) (hr : k + 1 ≤ R.cells ∧ n + cap ≤ R.slots) (K : ∀ (a : Addr) T' h' kc, a = h.size → W x wd l Z EL R own code mx ret nm T' h' (k + 1) (n + cap) (a :: sf) → Ext h h' → Arv Z h' a kc (newarray.typeOf aty) z [] (defaultValue (newarray.typeOf aty)) → Exa Z h' a ad → Go x wd Z EL R Q T' (pc') ls (.ref a :: st)) : Go x wd Z EL R Q T pc ls (.int z :: st) := by
  obtain ⟨hd, rfl⟩ := hd
  refine w.goN (P := fun h' => ∃ kc, Arv Z h' h.size kc (newarray.typeOf aty) z [] (defaultValue (newarray.typeOf aty)) ∧ Exa Z h' h.size ad) hr.1 hr.2 (fun s0 L X hx hZ ho hb hm e0 => ?_) (fun T' h' w' E ⟨kc, P1, P2⟩ => K h.size T' h' kc rfl w' E P1 P2)
  obtain ⟨T', h', cA, X', e', E', A, EA, stp⟩ := newPE X hx hZ w1 e0 (g := mkF x.m pc ls (.int z :: st)) rfl (Jvm.hb hb hd) rfl hz hcap hbig hr.1 hr.2 had
  exact ⟨T', h', X', e', E', EA.lt, ⟨cA, Arv.new A hz, EA⟩, stp⟩
theorem W.newR (w : W x wd l Z EL R own code mx ret nm T h k n sf) {i : Nat} {C : String} {z : Int32} (cap : Nat) (ad : String) (hd : Dc code pc (.anewarray i) 3 pc') (w1 : (Jvm.Cond.classLink own i C).before a0 Z = true) (w2 : (Jvm.Cond.arrayOver (.object C)).before a0 Z = true) (hz : ¬ z < 0) (hcap : z.toNatClampNeg ≤ cap) (hbig : cap * 8 ≤ 536870912) (had : "[" ++ (FieldType.object C).toString = ad) (hr : k + 1 ≤ R.cells ∧ n + cap ≤ R.slots) (K : ∀ (a : Addr) T' h' kc, a = h.size → W x wd l Z EL R own code mx ret nm T' h' (k + 1) (n + cap) (a :: sf) → Ext h h' → Arv Z h' a kc (.object C) z [] .null → Exa Z h' a ad → Ovr Z kc C → Go x wd Z EL R Q T' (pc') ls (.ref a :: st)) : Go x wd Z EL R Q T pc ls (.int z :: st) := by
  obtain ⟨hd, rfl⟩ := hd
  refine w.goN (P := fun h' => ∃ kc, Arv Z h' h.size kc (.object C) z [] .null ∧ Exa Z h' h.size ad ∧ Ovr Z kc C) hr.1 hr.2 (fun s0 L X hx hZ ho hb hm e0 => ?_) (fun T' h' w' E ⟨kc, P1, P2, P3⟩ => K h.size T' h' kc rfl w' E P1 P2 P3)
  obtain ⟨T', h', cA, X', e', E', A, EA, O, stp⟩ := newRE X hx hZ ho w1 w2 e0 (g := mkF x.m pc ls (.int z :: st)) rfl (Jvm.hb hb hd) rfl hz hcap hbig hr.1 hr.2 had
  exact ⟨T', h', X', e', E', EA.lt, ⟨cA, Arv.new A hz, EA, O⟩, stp⟩
theorem W.clone (w : W x wd l Z EL R own code mx ret nm T h k n sf) {i : Nat} {a : Addr} {ad : String} {kc : ClassId} {ty : FieldType} {z : Int32} {vs : List Value} {dv : Value} (Wn cap : Nat) (hd : Dc code pc (.invokevirtual i) 3 pc') (w1 : (Jvm.Cond.methodLink own i ⟨ad, "clone", "()Ljava/lang/Object;"⟩).before a0 Z = true) (w2 : (Jvm.Cond.sameMethod ad "java/lang/Object" "clone" "()Ljava/lang/Object;").before a0 Z = true) (w3 : (Jvm.Cond.native ⟨"java/lang/Object", "clone", "()Ljava/lang/Object;"⟩).before a0 Z = true) (w4 : (Jvm.Cond.instanceMethod ⟨"java/lang/Object", "clone", "()Ljava/lang/Object;"⟩).before a0 Z = true) (w5 : (Jvm.Cond.selects ad ⟨ad, "clone", "()Ljava/lang/Object;"⟩ ⟨"java/lang/Object", "clone", "()Ljava/lang/Object;"⟩).before a0 Z = true) (w6 : (Jvm.Cond.castable ad "java/lang/Cloneable").before a0 Z = true) (A : Arv Z h a kc ty z vs dv) (E : Exa Z h a ad) (hz : ls.size = mx) (hW : (st.map fun v => v.category).sum ≤ Wn) (hcap : z.toNatClampNeg ≤ cap) (hr : 1 ≤ R.frames ∧ Wn + 14 ≤ R.locals ∧ k + 1 ≤ R.cells ∧ n + cap ≤ R.slots) (K : ∀ (b : Addr) T' h', b = h.size → W x wd l Z EL R own code mx ret nm T' h' (k + 1) (n + cap) (b :: sf) → Ext h h' → Arv Z h' b kc ty z vs dv → Exa Z h' b ad → Go x wd Z EL R Q T' (pc') ls (.ref b :: st)) : Go x wd Z EL R Q T pc ls (.ref a :: st) := by
  obtain ⟨hd, rfl⟩ := hd
  refine w.goN (P := fun h' => Arv Z h' h.size kc ty z vs dv ∧ Exa Z h' h.size ad) hr.2.2.1 hr.2.2.2 (fun s0 L X hx hZ ho hb hm e0 => ?_) (fun T' h' w' E P => K h.size T' h' rfl w' E P.1 P.2)
  obtain ⟨T', h', X', e', E', A', EA, stp⟩ := cloneH X hx hZ ho w1 w2 w3 w4 w5 w6 e0 A.arh E (g := mkF x.m pc ls (.ref a :: st)) rfl (hz.trans hm.symm) rfl (Jvm.hb hb hd) hr.1 (W := Wn) (by show 2 * 0 + _ ≤ _; omega) hr.2.1 hcap hr.2.2.1 hr.2.2.2
  exact ⟨T', h', X', e', E', EA.lt, ⟨A', EA⟩, stp⟩
theorem W.putF (w : W x wd l Z EL R own code mx ret nm T h k n sf) {i kk : Nat} {a : Addr} {O f d C : String} {v old : Value} {ty : FieldType} (hd : Dc code pc (.putfield i) 3 pc') (wl : (Jvm.Cond.fieldLink own i O f d).before a0 Z = true) (F : Fld Z h a O f d old) (E : Exa Z h a C) (La : (Jvm.Cond.lays C O f d).before a0 Z = true ∨ ((Jvm.Cond.laysFinal C O f d).before a0 Z = true ∧ own = O ∧ nm = "<init>")) (wi : (Jvm.Cond.instantiable C kk).before a0 Z = true) (hty : parseFieldDescriptor d = some ty) (hn : narrow ty v = v) (hf : fits ty v = true) (ha : a ∈ sf) (K : ∀ T' h', W x wd l Z EL R own code mx ret nm T' h' k n sf → Wr h h' a (Jvm.RoadKit.slotOf Z O f d) v → Go x wd Z EL R Q T' pc' ls st) : Go x wd Z EL R Q T pc ls (v :: .ref a :: st) := by
  obtain ⟨hd, rfl⟩ := hd
  exact w.goW ha (fun s0 L X hx hZ ho hb hnm e0 => RoadKit.putF X hx hZ ho (host := "") (Or.inl wl) Via.refl e0 F E (La.imp id fun q => ⟨q.1, q.2.1, hnm.trans q.2.2⟩) wi hty hn hf (g := mkF x.m pc ls (v :: .ref a :: st)) rfl rfl (Jvm.hb hb hd)) K
theorem W.stC (w : W x wd l Z EL R own code mx ret nm T h k n sf) {a : Addr} {kc : ClassId} {z j v : Int32} {vs : List Value} {dv : Value} (q : Nat) (vs' : List Value) (hd : Dc code pc .castore 1 pc') (A : Arv Z h a kc .char z vs dv) (hj : j.toNatClampNeg = q ∧ ¬ j < 0) (hz : q < z.toNatClampNeg) (hp : ∀ i, vs'.getD i dv = vs.getD i dv) (hq : q < vs'.length) (hf : fits .char (.int (nar .char v)) = true) (ha : a ∈ sf) (K : ∀ T' h', W x wd l Z EL R own code mx ret nm T' h' k n sf → Wr h h' a q (.int (nar .char v)) → Arv Z h' a kc .char z (vs'.set q (.int (nar .char v))) dv → Go x wd Z EL R Q T' pc' ls st) : Go x wd Z EL R Q T pc ls (.int v :: .int j :: .ref a :: st) := by
  obtain ⟨hd, rfl⟩ := hd
  obtain ⟨hj, h0⟩ := hj
  subst hj
  obtain ⟨cl, Ar, r1, S, r3, H, G⟩ := A.pad hp
  have hin : ¬ (j < 0 ∨ cl.slots.size ≤ j.toNatClampNeg) := by rw [S]; exact fun u => u.elim h0 fun u => absurd hz (Nat.not_lt.mpr u)
  refine w.goW ha (fun s0 L X hx hZ ho hb hnm e0 => RoadKit.stC X hx hZ e0 Ar hin (g := mkF x.m pc ls (.int v :: .int j :: .ref a :: st)) rfl rfl (Jvm.hb hb hd)) (fun T' h' w' Wr' => K T' h' w' Wr' (Arv.set Ar r1 S r3 H G hf Wr' _ rfl hq))
theorem W.stB (w : W x wd l Z EL R own code mx ret nm T h k n sf) {a : Addr} {kc : ClassId} {z j v : Int32} {vs : List Value} {dv : Value} (q : Nat) (vs' : List Value) (hd : Dc code pc .bastore 1 pc') (A : Arv Z h a kc .byte z vs dv) (hj : j.toNatClampNeg = q ∧ ¬ j < 0) (hz : q < z.toNatClampNeg) (hp : ∀ i, vs'.getD i dv = vs.getD i dv) (hq : q < vs'.length) (hf : fits .byte (.int (nar .byte v)) = true) (ha : a ∈ sf) (K : ∀ T' h', W x wd l Z EL R own code mx ret nm T' h' k n sf → Wr h h' a q (.int (nar .byte v)) → Arv Z h' a kc .byte z (vs'.set q (.int (nar .byte v))) dv → Go x wd Z EL R Q T' pc' ls st) : Go x wd Z EL R Q T pc ls (.int v :: .int j :: .ref a :: st) := by
  obtain ⟨hd, rfl⟩ := hd
  obtain ⟨hj, h0⟩ := hj
  subst hj
  obtain ⟨cl, Ar, r1, S, r3, H, G⟩ := A.pad hp
  have hin : ¬ (j < 0 ∨ cl.slots.size ≤ j.toNatClampNeg) := by rw [S]; exact fun u => u.elim h0 fun u => absurd hz (Nat.not_lt.mpr u)
  refine w.goW ha (fun s0 L X hx hZ ho hb hnm e0 => RoadKit.stB X hx hZ e0 Ar hin (g := mkF x.m pc ls (.int v :: .int j :: .ref a :: st)) rfl rfl (Jvm.hb hb hd)) (fun T' h' w' Wr' => K T' h' w' Wr' (Arv.set Ar r1 S r3 H G hf Wr' _ rfl hq))
theorem W.stI (w : W x wd l Z EL R own code mx ret nm T h k n sf) {a : Addr} {kc : ClassId} {z j v : Int32} {vs : List Value} {dv : Value} (q : Nat) (vs' : List Value) (hd : Dc code pc .iastore 1 pc') (A : Arv Z h a kc .int z vs dv) (hj : j.toNatClampNeg = q ∧ ¬ j < 0) (hz : q < z.toNatClampNeg) (hp : ∀ i, vs'.getD i dv = vs.getD i dv) (hq : q < vs'.length) (hf : fits .int (.int v) = true) (ha : a ∈ sf) (K : ∀ T' h', W x wd l Z EL R own code mx ret nm T' h' k n sf → Wr h h' a q (.int v) → Arv Z h' a kc .int z (vs'.set q (.int v)) dv → Go x wd Z EL R Q T' pc' ls st) : Go x wd Z EL R Q T pc ls (.int v :: .int j :: .ref a :: st) := by
  obtain ⟨hd, rfl⟩ := hd
  obtain ⟨hj, h0⟩ := hj
  subst hj
  obtain ⟨cl, Ar, r1, S, r3, H, G⟩ := A.pad hp
  have hin : ¬ (j < 0 ∨ cl.slots.size ≤ j.toNatClampNeg) := by rw [S]; exact fun u => u.elim h0 fun u => absurd hz (Nat.not_lt.mpr u)
  refine w.goW ha (fun s0 L X hx hZ ho hb hnm e0 => RoadKit.stI X hx hZ e0 Ar hin (g := mkF x.m pc ls (.int v :: .int j :: .ref a :: st)) rfl rfl (Jvm.hb hb hd)) (fun T' h' w' Wr' => K T' h' w' Wr' (Arv.set Ar r1 S r3 H G hf Wr' _ rfl hq))
theorem W.stR (w : W x wd l Z EL R own code mx ret nm T h k n sf) {a b : Addr} {kc : ClassId} {z j : Int32} {C : String} {vs : List Value} (q : Nat) (vs' : List Value) (hd : Dc code pc .aastore 1 pc') (A : Arv Z h a kc (.object C) z vs .null) (O : Ovr Z kc C) (I : Ins Z h b C true) (hj : j.toNatClampNeg = q ∧ ¬ j < 0) (hz : q < z.toNatClampNeg) (hp : ∀ i, vs'.getD i .null = vs.getD i .null) (hq : q < vs'.length) (ha : a ∈ sf) (K : ∀ T' h', W x wd l Z EL R own code mx ret nm T' h' k n sf → Wr h h' a q (.ref b) → Arv Z h' a kc (.object C) z (vs'.set q (.ref b)) .null → Go x wd Z EL R Q T' pc' ls st) : Go x wd Z EL R Q T pc ls (.ref b :: .int j :: .ref a :: st) := by
  obtain ⟨hd, rfl⟩ := hd
  obtain ⟨hj, h0⟩ := hj
  subst hj
  obtain ⟨cl, Ar, r1, S, r3, H, G⟩ := A.pad hp
  have hin : ¬ (j < 0 ∨ cl.slots.size ≤ j.toNatClampNeg) := by rw [S]; exact fun u => u.elim h0 fun u => absurd hz (Nat.not_lt.mpr u)
  refine w.goW ha (fun s0 L X hx hZ ho hb hnm e0 => RoadKit.stR X hx hZ e0 Ar hin rfl (Sto.ofV Ar r1 O I) (g := mkF x.m pc ls (.ref b :: .int j :: .ref a :: st)) rfl rfl (Jvm.hb hb hd)) (fun T' h' w' Wr' => K T' h' w' Wr' (Arv.set Ar r1 S r3 H G rfl Wr' _ rfl hq))
theorem W.retN (w : W x wd l Z EL R own code mx ret nm T h k n sf) {t : FieldType} {v : Int32} (hd : Dc code pc .ireturn 1 pc') (hr : ret = some t) (ht : t = .boolean ∨ t = .byte ∨ t = .char ∨ t = .short) (hQ : Q (some (.int (nar t v))) h) : Go x wd Z EL R Q T pc ls (.int v :: st) := by
  obtain ⟨hd, rfl⟩ := hd
  exact w.done (v := some (.int (nar t v))) (fun q => by rw [hr] at q; cases q) hQ fun s0 L X hx hb hret fs hl => RoadKit.retN X hx (hret.trans hr) ht (Jvm.hb hb hd) hl
theorem W.retI (w : W x wd l Z EL R own code mx ret nm T h k n sf) {v : Int32} (hd : Dc code pc .ireturn 1 pc') (hr : ret = some .int) (hQ : Q (some (.int v)) h) : Go x wd Z EL R Q T pc ls (.int v :: st) := by
  obtain ⟨hd, rfl⟩ := hd
  exact w.done (v := some (.int v)) (fun q => by rw [hr] at q; cases q) hQ fun s0 L X hx hb hret fs hl => retOut X hx (hret.trans hr) rfl (Or.inl ⟨rfl, Or.inl rfl, v, rfl⟩) (Jvm.hb hb hd) hl
theorem W.retA (w : W x wd l Z EL R own code mx ret nm T h k n sf) {t : FieldType} {v : Value} (hd : Dc code pc .areturn 1 pc') (hr : ret = some t) (ht : t.isReference = true) (hn : narrow t v = v) (hv : v.isRef = true) (hQ : Q (some v) h) : Go x wd Z EL R Q T pc ls (v :: st) := by
  obtain ⟨hd, rfl⟩ := hd
  exact w.done (v := some v) (fun q => by rw [hr] at q; cases q) hQ fun s0 L X hx hb hret fs hl => retOut X hx (hret.trans hr) hn (Or.inr (Or.inr (Or.inr (Or.inr ⟨rfl, ht, hv⟩)))) (Jvm.hb hb hd) hl
theorem W.retV (w : W x wd l Z EL R own code mx ret nm T h k n sf) (hd : Dc code pc .return_ 1 pc') (hr : ret = none) (hQ : Q none h) : Go x wd Z EL R Q T pc ls [] := by
  obtain ⟨hd, rfl⟩ := hd
  exact w.done (v := none) (fun _ => rfl) hQ fun s0 L X hx hb hret fs hl => X.returnOut hx (hret.trans hr) (Jvm.hb hb hd) hl
theorem W.callS (w : W x wd l Z EL R own code mx ret nm T h k n sf) {y : MethodName} {bytes : ByteArray} {maxL : Nat} {rt : Option FieldType} {rm : Room} {sf0 : List Addr} {Q' : Option Value → Heap → Prop} {i : Nat} {argsL rest : List Value}  (Wn : Nat) (hd : Dc code pc (.invokestatic i) 3 pc') (w1 : (Jvm.Cond.methodLink own i y).before a0 Z = true) (w2 : (Jvm.Cond.static y).before a0 Z = true) (w3 : (Jvm.Cond.initialized y.cls).before a0 Z = true) (w4 : (Jvm.Cond.code y bytes maxL rt).before a0 Z = true) (hy : y.cls ≠ "java/lang/invoke/MethodHandle" ∧ y.cls ≠ "java/lang/invoke/VarHandle") (C : Ct wd l Z EL y bytes maxL rt [] rm sf0 argsL.toArray h Q') (hlen : ∀ sig, parseMethodDescriptor y.desc = some sig → argsL.length = sig.parameters.length) (hz : ls.size = mx) (hst : st = argsL.reverse ++ rest) (hW : (rest.map fun v => v.category).sum ≤ Wn) (hr : rm.frames + 1 ≤ R.frames ∧ Wn + (maxL + 11) + rm.locals ≤ R.locals ∧ k + rm.cells ≤ R.cells ∧ n + rm.slots ≤ R.slots) (hsub : ∀ y ∈ sf0, y ∈ sf) (K : ∀ T' h' v, W x wd l Z EL R own code mx ret nm T' h' (k + rm.cells) (n + rm.slots) sf → h.size ≤ h'.size → Q' v h' → Go x wd Z EL R Q T' pc' ls (v.toList ++ rest)) : Go x wd Z EL R Q T pc ls st := by
  obtain ⟨hd, rfl⟩ := hd
  subst hst
  obtain ⟨hx, hb, hm, hret, hn, hl, e0, E, c1, c2, hs, hEL, L, vm0, N, g, X, S, hZ, ho, hC⟩ := w
  have hWW : 2 * (mkF x.m pc ls (argsL.reverse ++ rest)).monitorRoom + (rest.map fun v => v.category).sum ≤ Wn := by show 2 * 0 + _ ≤ _; omega
  cases wd with
  | false =>
    have eq := g rfl
    subst eq
    obtain ⟨v, _, ⟨T1, L1, k1, n1⟩, -, X1, ⟨Lc, hQ, l1, y1, z1⟩, stp⟩ := Jvm.LawKit.callS X hx (y := y) ho (mvT hZ w1) (mvT hZ w2) (mvT hZ w3) (mvT hZ w4) hy (backN (Wn := Wn) C hZ w4 w3 hr.1 hr.2.1) (g := mkF x.m pc ls (argsL.reverse ++ rest)) rfl (hz.trans hm.symm) (argsL := argsL) (rest := rest) hlen rfl hWW (Jvm.hb hb hd) (fun _ _ => ⟨rfl, e0, hr.2.2.1, hr.2.2.2⟩)
    dsimp only [Pt.U, Pt.locs, Pt.cells, Pt.slots] at X1 l1 y1 z1 stp hQ
    subst l1 y1 z1
    obtain ⟨s₂, o, a1, r⟩ := K T1 T1.heap v ⟨hx, hb, hm, hret, hn, hl, rfl, hQ.2.2.1, hr.2.2.1, hr.2.2.2, fun y hy => ⟨(hs y hy).1, Nat.lt_of_lt_of_le (hs y hy).2 hQ.2.2.2⟩, hEL, _, _, Fr.app N hQ.2.1, fun _ => rfl, X1, (State.WarmedH.refl x.s).since _, hZ, ho, fun q => by cases q⟩ hQ.2.2.2 hQ.1
    exact ⟨s₂, o, stp _ a1, r⟩
  | true =>
    obtain ⟨v, _, ⟨T1, L1, k1, n1⟩, -, X1, hS1, hgr, ⟨Lc, hQ, l1, y1, z1, hCr⟩, stp⟩ := callSS X hx (y := y) ho (mvT (s := x.s.setVm vm0) hZ w1) (mvT (s := x.s.setVm vm0) hZ w2) (mvT (s := x.s.setVm vm0) hZ w3) (mvT (s := x.s.setVm vm0) hZ w4) hy (backW (s := x.s) (Wn := Wn) C hZ w4 w3 hr.1 hr.2.1 hEL (hC rfl).1.1 (fun y hy => ⟨(hs y (hsub y hy)).2, (hC rfl).2 y (hsub y hy)⟩)) (g := mkF x.m pc ls (argsL.reverse ++ rest)) rfl (hz.trans hm.symm) (argsL := argsL) (rest := rest) hlen rfl hWW (Jvm.hb hb hd) (fun _ _ => ⟨rfl, e0, hr.2.2.1, hr.2.2.2⟩)
    dsimp only [Pt.U, Pt.locs, Pt.cells, Pt.slots] at X1 l1 y1 z1 stp hQ hS1 hgr hCr
    subst l1 y1 z1
    rw [e0] at hgr
    obtain ⟨Xr, Sr, Zr, Or⟩ := rebS (s := x.s) (vm0 := vm0) S hgr X1 hS1 (Nat.le_refl _) hZ ho
    obtain ⟨s₂, o, a1, r⟩ := K T1 T1.heap v ⟨hx, hb, hm, hret, hn, hl, rfl, hQ.2.2.1, hr.2.2.1, hr.2.2.2, fun y hy => ⟨(hs y hy).1, Nat.lt_of_lt_of_le (hs y hy).2 hgr⟩, hEL, _, _, Fr.app N hQ.2.1, (fun q => by cases q), Xr, Sr, Zr, Or, fun _ => ⟨(hC rfl).1.trans hCr, fun y hy => hCr.safe (hs y hy).2 ((hC rfl).2 y hy)⟩⟩ hgr hQ.1
    exact ⟨s₂, o, stp.trans a1, r⟩
theorem W.callI (w : W x wd l Z EL R own code mx ret nm T h k n sf) {y : MethodName} {bytes : ByteArray} {maxL : Nat} {rm : Room} {sf0 : List Addr} {Q' : Option Value → Heap → Prop} {i : Nat} {argsL rest : List Value} {a : Addr} (Wn : Nat) (hd : Dc code pc (.invokespecial i) 3 pc') (hy1 : y.name = "<init>") (w1 : (Jvm.Cond.methodLink own i y).before a0 Z = true) (w2 : (Jvm.Cond.instanceMethod y).before a0 Z = true) (w3 : (Jvm.Cond.initialized y.cls).before a0 Z = true) (w4 : (Jvm.Cond.code y bytes maxL none).before a0 Z = true) (hy : y.cls ≠ "java/lang/invoke/MethodHandle" ∧ y.cls ≠ "java/lang/invoke/VarHandle") (C : Ct wd l Z EL y bytes maxL none [] rm sf0 (.ref a :: argsL).toArray h Q') (hlen : ∀ sig, parseMethodDescriptor y.desc = some sig → argsL.length = sig.parameters.length) (hz : ls.size = mx) (hst : st = argsL.reverse ++ .ref a :: rest) (hW : (rest.map fun v => v.category).sum ≤ Wn) (hr : rm.frames + 1 ≤ R.frames ∧ Wn + (maxL + 11) + rm.locals ≤ R.locals ∧ k + rm.cells ≤ R.cells ∧ n + rm.slots ≤ R.slots) (hsub : ∀ y ∈ sf0, y ∈ sf) (K : ∀ T' h' v, W x wd l Z EL R own code mx ret nm T' h' (k + rm.cells) (n + rm.slots) sf → h.size ≤ h'.size → Q' v h' → Go x wd Z EL R Q T' pc' ls (v.toList ++ rest)) : Go x wd Z EL R Q T pc ls st := by
  obtain ⟨hd, rfl⟩ := hd
  subst hst
  obtain ⟨hx, hb, hm, hret, hn, hl, e0, E, c1, c2, hs, hEL, L, vm0, N, g, X, S, hZ, ho, hC⟩ := w
  have hWW : 2 * (mkF x.m pc ls (argsL.reverse ++ .ref a :: rest)).monitorRoom + (rest.map fun v => v.category).sum ≤ Wn := by show 2 * 0 + _ ≤ _; omega
  cases wd with
  | false =>
    have eq := g rfl
    subst eq
    obtain ⟨v, _, ⟨T1, L1, k1, n1⟩, -, X1, ⟨Lc, hQ, l1, y1, z1⟩, stp⟩ := X.specialBack hx (y := y) hy1 ho (mvT hZ w1) (mvT hZ w2) (mvT hZ w4) hy (backN (Wn := Wn) C hZ w4 w3 hr.1 hr.2.1) (g := mkF x.m pc ls (argsL.reverse ++ .ref a :: rest)) rfl (hz.trans hm.symm) (Steps.refl _) (a := a) (argsL := argsL) (rest := rest) hlen rfl hWW (Jvm.hb hb hd) (fun _ _ => ⟨rfl, e0, hr.2.2.1, hr.2.2.2⟩)
    dsimp only [Pt.U, Pt.locs, Pt.cells, Pt.slots] at X1 l1 y1 z1 stp hQ
    subst l1 y1 z1
    obtain ⟨s₂, o, a1, r⟩ := K T1 T1.heap v ⟨hx, hb, hm, hret, hn, hl, rfl, hQ.2.2.1, hr.2.2.1, hr.2.2.2, fun y hy => ⟨(hs y hy).1, Nat.lt_of_lt_of_le (hs y hy).2 hQ.2.2.2⟩, hEL, _, _, Fr.app N hQ.2.1, fun _ => rfl, X1, (State.WarmedH.refl x.s).since _, hZ, ho, fun q => by cases q⟩ hQ.2.2.2 hQ.1
    exact ⟨s₂, o, stp.trans a1, r⟩
  | true =>
    obtain ⟨v, _, ⟨T1, L1, k1, n1⟩, -, X1, hS1, hgr, ⟨Lc, hQ, l1, y1, z1, hCr⟩, stp⟩ := X.specialBackS hx (y := y) hy1 ho (mvT (s := x.s.setVm vm0) hZ w1) (mvT (s := x.s.setVm vm0) hZ w2) (mvT (s := x.s.setVm vm0) hZ w4) hy (backW (s := x.s) (Wn := Wn) C hZ w4 w3 hr.1 hr.2.1 hEL (hC rfl).1.1 (fun y hy => ⟨(hs y (hsub y hy)).2, (hC rfl).2 y (hsub y hy)⟩)) (g := mkF x.m pc ls (argsL.reverse ++ .ref a :: rest)) rfl (hz.trans hm.symm) (Steps.refl _) (a := a) (argsL := argsL) (rest := rest) hlen rfl hWW (Jvm.hb hb hd) (fun _ _ => ⟨rfl, e0, hr.2.2.1, hr.2.2.2⟩)
    dsimp only [Pt.U, Pt.locs, Pt.cells, Pt.slots] at X1 l1 y1 z1 stp hQ hS1 hgr hCr
    subst l1 y1 z1
    rw [e0] at hgr
    obtain ⟨Xr, Sr, Zr, Or⟩ := rebS (s := x.s) (vm0 := vm0) S hgr X1 hS1 (Nat.le_refl _) hZ ho
    obtain ⟨s₂, o, a1, r⟩ := K T1 T1.heap v ⟨hx, hb, hm, hret, hn, hl, rfl, hQ.2.2.1, hr.2.2.1, hr.2.2.2, fun y hy => ⟨(hs y hy).1, Nat.lt_of_lt_of_le (hs y hy).2 hgr⟩, hEL, _, _, Fr.app N hQ.2.1, (fun q => by cases q), Xr, Sr, Zr, Or, fun _ => ⟨(hC rfl).1.trans hCr, fun y hy => hCr.safe (hs y hy).2 ((hC rfl).2 y hy)⟩⟩ hgr hQ.1
    exact ⟨s₂, o, stp.trans a1, r⟩
theorem W.callV (w : W x wd l Z EL R own code mx ret nm T h k n sf) {y : MethodName} {bytes : ByteArray} {maxL : Nat} {rt : Option FieldType} {rm : Room} {sf0 : List Addr} {Q' : Option Value → Heap → Prop} {i : Nat} {argsL rest : List Value} {a : Addr} {Cl : String} (Wn : Nat) (hd : Dc code pc (.invokevirtual i) 3 pc') (w1 : (Jvm.Cond.methodLink own i y).before a0 Z = true) (wd1 : (Jvm.Cond.declares y).before a0 Z = true) (ws : (Jvm.Cond.selects Cl y y).before a0 Z = true) (w2 : (Jvm.Cond.instanceMethod y).before a0 Z = true) (w3 : (Jvm.Cond.initialized y.cls).before a0 Z = true) (w4 : (Jvm.Cond.code y bytes maxL rt).before a0 Z = true) (hy : y.cls ≠ "java/lang/invoke/MethodHandle" ∧ y.cls ≠ "java/lang/invoke/VarHandle") (Ea : Exa Z h a Cl) (C : Ct wd l Z EL y bytes maxL rt [] rm sf0 (.ref a :: argsL).toArray h Q') (hlen : ∀ sig, parseMethodDescriptor y.desc = some sig → argsL.length = sig.parameters.length) (hz : ls.size = mx) (hst : st = argsL.reverse ++ .ref a :: rest) (hW : (rest.map fun v => v.category).sum ≤ Wn) (hr : rm.frames + 1 ≤ R.frames ∧ Wn + (maxL + 11) + rm.locals ≤ R.locals ∧ k + rm.cells ≤ R.cells ∧ n + rm.slots ≤ R.slots) (hsub : ∀ y ∈ sf0, y ∈ sf) (K : ∀ T' h' v, W x wd l Z EL R own code mx ret nm T' h' (k + rm.cells) (n + rm.slots) sf → h.size ≤ h'.size → Q' v h' → Go x wd Z EL R Q T' pc' ls (v.toList ++ rest)) : Go x wd Z EL R Q T pc ls st := by
  obtain ⟨hd, rfl⟩ := hd
  subst hst
  obtain ⟨hx, hb, hm, hret, hn, hl, e0, E, c1, c2, hs, hEL, L, vm0, N, g, X, S, hZ, ho, hC⟩ := w
  have hWW : 2 * (mkF x.m pc ls (argsL.reverse ++ .ref a :: rest)).monitorRoom + (rest.map fun v => v.category).sum ≤ Wn := by show 2 * 0 + _ ≤ _; omega
  obtain ⟨cB, kB, qa, qb, qc⟩ := isOf (s := x.s.setVm vm0) hZ e0 Ea
  cases wd with
  | false =>
    have eq := g rfl
    subst eq
    obtain ⟨v, _, ⟨T1, L1, k1, n1⟩, -, X1, ⟨Lc, hQ, l1, y1, z1⟩, stp⟩ := X.virtualBack hx (y := y) (z := y) ho (mvT hZ w1) (mvT hZ wd1) (notFace_of_selects (args := #[]) (mvT hZ ws)) (mvT hZ ws) (mvT hZ w2) hy (backN (Wn := Wn) C hZ w4 w3 hr.1 hr.2.1) qa qc (g := mkF x.m pc ls (argsL.reverse ++ .ref a :: rest)) rfl (hz.trans hm.symm) (Steps.refl _) (argsL := argsL) (rest := rest) hlen rfl hWW (Jvm.hb hb hd) (fun _ _ => ⟨rfl, e0, hr.2.2.1, hr.2.2.2⟩)
    dsimp only [Pt.U, Pt.locs, Pt.cells, Pt.slots] at X1 l1 y1 z1 stp hQ
    subst l1 y1 z1
    obtain ⟨s₂, o, a1, r⟩ := K T1 T1.heap v ⟨hx, hb, hm, hret, hn, hl, rfl, hQ.2.2.1, hr.2.2.1, hr.2.2.2, fun y hy => ⟨(hs y hy).1, Nat.lt_of_lt_of_le (hs y hy).2 hQ.2.2.2⟩, hEL, _, _, Fr.app N hQ.2.1, fun _ => rfl, X1, (State.WarmedH.refl x.s).since _, hZ, ho, fun q => by cases q⟩ hQ.2.2.2 hQ.1
    exact ⟨s₂, o, stp.trans a1, r⟩
  | true =>
    obtain ⟨v, _, ⟨T1, L1, k1, n1⟩, -, X1, hS1, hgr, ⟨Lc, hQ, l1, y1, z1, hCr⟩, stp⟩ := X.virtualBackS hx (y := y) (z := y) ho (mvT (s := x.s.setVm vm0) hZ w1) (mvT (s := x.s.setVm vm0) hZ wd1) (notFace_of_selects (args := #[]) (mvT (s := x.s.setVm vm0) hZ ws)) (mvT (s := x.s.setVm vm0) hZ ws) (mvT (s := x.s.setVm vm0) hZ w2) hy (backW (s := x.s) (Wn := Wn) C hZ w4 w3 hr.1 hr.2.1 hEL (hC rfl).1.1 (fun y hy => ⟨(hs y (hsub y hy)).2, (hC rfl).2 y (hsub y hy)⟩)) qa qc (g := mkF x.m pc ls (argsL.reverse ++ .ref a :: rest)) rfl (hz.trans hm.symm) (Steps.refl _) (argsL := argsL) (rest := rest) hlen rfl hWW (Jvm.hb hb hd) (fun _ _ => ⟨rfl, e0, hr.2.2.1, hr.2.2.2⟩)
    dsimp only [Pt.U, Pt.locs, Pt.cells, Pt.slots] at X1 l1 y1 z1 stp hQ hS1 hgr hCr
    subst l1 y1 z1
    rw [e0] at hgr
    obtain ⟨Xr, Sr, Zr, Or⟩ := rebS (s := x.s) (vm0 := vm0) S hgr X1 hS1 (Nat.le_refl _) hZ ho
    obtain ⟨s₂, o, a1, r⟩ := K T1 T1.heap v ⟨hx, hb, hm, hret, hn, hl, rfl, hQ.2.2.1, hr.2.2.1, hr.2.2.2, fun y hy => ⟨(hs y hy).1, Nat.lt_of_lt_of_le (hs y hy).2 hgr⟩, hEL, _, _, Fr.app N hQ.2.1, (fun q => by cases q), Xr, Sr, Zr, Or, fun _ => ⟨(hC rfl).1.trans hCr, fun y hy => hCr.safe (hs y hy).2 ((hC rfl).2 y hy)⟩⟩ hgr hQ.1
    exact ⟨s₂, o, stp.trans a1, r⟩
theorem W.callVZ (w : W x wd l Z EL R own code mx ret nm T h k n sf) {y : MethodName} {bytes : ByteArray} {maxL : Nat} {rt : Option FieldType} {rm : Room} {sf0 : List Addr} {Q' : Option Value → Heap → Prop} {i : Nat} {argsL rest : List Value} {a : Addr} {z : MethodName} {Cl Sup : String} (Wn : Nat) (hd : Dc code pc (.invokevirtual i) 3 pc') (w1 : (Jvm.Cond.methodLink own i y).before a0 Z = true) (wd1 : (Jvm.Cond.declares y).before a0 Z = true) (wsp : (Jvm.Cond.superclass y.cls Sup).before a0 Z = true) (ws : (Jvm.Cond.selects Cl y z).before a0 Z = true) (w2 : (Jvm.Cond.instanceMethod z).before a0 Z = true) (w3 : (Jvm.Cond.initialized z.cls).before a0 Z = true) (w4 : (Jvm.Cond.code z bytes maxL rt).before a0 Z = true) (hy : y.cls ≠ "java/lang/invoke/MethodHandle" ∧ y.cls ≠ "java/lang/invoke/VarHandle") (Ea : Exa Z h a Cl) (C : Ct wd l Z EL z bytes maxL rt [] rm sf0 (.ref a :: argsL).toArray h Q') (hlen : ∀ sig, parseMethodDescriptor y.desc = some sig → argsL.length = sig.parameters.length) (hz : ls.size = mx) (hst : st = argsL.reverse ++ .ref a :: rest) (hW : (rest.map fun v => v.category).sum ≤ Wn) (hr : rm.frames + 1 ≤ R.frames ∧ Wn + (maxL + 11) + rm.locals ≤ R.locals ∧ k + rm.cells ≤ R.cells ∧ n + rm.slots ≤ R.slots) (hsub : ∀ y ∈ sf0, y ∈ sf) (K : ∀ T' h' v, W x wd l Z EL R own code mx ret nm T' h' (k + rm.cells) (n + rm.slots) sf → h.size ≤ h'.size → Q' v h' → Go x wd Z EL R Q T' pc' ls (v.toList ++ rest)) : Go x wd Z EL R Q T pc ls st := by
  obtain ⟨hd, rfl⟩ := hd
  subst hst
  obtain ⟨hx, hb, hm, hret, hn, hl, e0, E, c1, c2, hs, hEL, L, vm0, N, g, X, S, hZ, ho, hC⟩ := w
  have hWW : 2 * (mkF x.m pc ls (argsL.reverse ++ .ref a :: rest)).monitorRoom + (rest.map fun v => v.category).sum ≤ Wn := by show 2 * 0 + _ ≤ _; omega
  obtain ⟨cB, kB, qa, qb, qc⟩ := isOf (s := x.s.setVm vm0) hZ e0 Ea
  cases wd with
  | false =>
    have eq := g rfl
    subst eq
    obtain ⟨v, _, ⟨T1, L1, k1, n1⟩, -, X1, ⟨Lc, hQ, l1, y1, z1⟩, stp⟩ := X.virtualBack hx (y := y) (z := z) ho (mvT hZ w1) (mvT hZ wd1) (nf_super (args := #[]) (mvT hZ wsp)) (mvT hZ ws) (mvT hZ w2) hy (backN (Wn := Wn) C hZ w4 w3 hr.1 hr.2.1) qa qc (g := mkF x.m pc ls (argsL.reverse ++ .ref a :: rest)) rfl (hz.trans hm.symm) (Steps.refl _) (argsL := argsL) (rest := rest) hlen rfl hWW (Jvm.hb hb hd) (fun _ _ => ⟨rfl, e0, hr.2.2.1, hr.2.2.2⟩)
    dsimp only [Pt.U, Pt.locs, Pt.cells, Pt.slots] at X1 l1 y1 z1 stp hQ
    subst l1 y1 z1
    obtain ⟨s₂, o, a1, r⟩ := K T1 T1.heap v ⟨hx, hb, hm, hret, hn, hl, rfl, hQ.2.2.1, hr.2.2.1, hr.2.2.2, fun y hy => ⟨(hs y hy).1, Nat.lt_of_lt_of_le (hs y hy).2 hQ.2.2.2⟩, hEL, _, _, Fr.app N hQ.2.1, fun _ => rfl, X1, (State.WarmedH.refl x.s).since _, hZ, ho, fun q => by cases q⟩ hQ.2.2.2 hQ.1
    exact ⟨s₂, o, stp.trans a1, r⟩
  | true =>
    obtain ⟨v, _, ⟨T1, L1, k1, n1⟩, -, X1, hS1, hgr, ⟨Lc, hQ, l1, y1, z1, hCr⟩, stp⟩ := X.virtualBackS hx (y := y) (z := z) ho (mvT (s := x.s.setVm vm0) hZ w1) (mvT (s := x.s.setVm vm0) hZ wd1) (nf_super (args := #[]) (mvT (s := x.s.setVm vm0) hZ wsp)) (mvT (s := x.s.setVm vm0) hZ ws) (mvT (s := x.s.setVm vm0) hZ w2) hy (backW (s := x.s) (Wn := Wn) C hZ w4 w3 hr.1 hr.2.1 hEL (hC rfl).1.1 (fun y hy => ⟨(hs y (hsub y hy)).2, (hC rfl).2 y (hsub y hy)⟩)) qa qc (g := mkF x.m pc ls (argsL.reverse ++ .ref a :: rest)) rfl (hz.trans hm.symm) (Steps.refl _) (argsL := argsL) (rest := rest) hlen rfl hWW (Jvm.hb hb hd) (fun _ _ => ⟨rfl, e0, hr.2.2.1, hr.2.2.2⟩)
    dsimp only [Pt.U, Pt.locs, Pt.cells, Pt.slots] at X1 l1 y1 z1 stp hQ hS1 hgr hCr
    subst l1 y1 z1
    rw [e0] at hgr
    obtain ⟨Xr, Sr, Zr, Or⟩ := rebS (s := x.s) (vm0 := vm0) S hgr X1 hS1 (Nat.le_refl _) hZ ho
    obtain ⟨s₂, o, a1, r⟩ := K T1 T1.heap v ⟨hx, hb, hm, hret, hn, hl, rfl, hQ.2.2.1, hr.2.2.1, hr.2.2.2, fun y hy => ⟨(hs y hy).1, Nat.lt_of_lt_of_le (hs y hy).2 hgr⟩, hEL, _, _, Fr.app N hQ.2.1, (fun q => by cases q), Xr, Sr, Zr, Or, fun _ => ⟨(hC rfl).1.trans hCr, fun y hy => hCr.safe (hs y hy).2 ((hC rfl).2 y hy)⟩⟩ hgr hQ.1
    exact ⟨s₂, o, stp.trans a1, r⟩
theorem W.callVU (w : W x wd l Z EL R own code mx ret nm T h k n sf) {y : MethodName} {bytes : ByteArray} {maxL : Nat} {rt : Option FieldType} {rm : Room} {sf0 : List Addr} {Q' : Option Value → Heap → Prop} {i : Nat} {argsL rest : List Value} {a : Addr} {z : MethodName} {Cl ow : String} (Wn : Nat) (hd : Dc code pc (.invokevirtual i) 3 pc') (w1 : (Jvm.Cond.methodLink own i y).before a0 Z = true) (wsm : (Jvm.Cond.sameMethod y.cls ow y.name y.desc).before a0 Z = true) (wd1 : (Jvm.Cond.declares ⟨ow, y.name, y.desc⟩).before a0 Z = true) (ws : (Jvm.Cond.selects Cl y z).before a0 Z = true) (w2 : (Jvm.Cond.instanceMethod z).before a0 Z = true) (w3 : (Jvm.Cond.initialized z.cls).before a0 Z = true) (w4 : (Jvm.Cond.code z bytes maxL rt).before a0 Z = true) (hy : ow ≠ "java/lang/invoke/MethodHandle" ∧ ow ≠ "java/lang/invoke/VarHandle") (Ea : Exa Z h a Cl) (C : Ct wd l Z EL z bytes maxL rt [] rm sf0 (.ref a :: argsL).toArray h Q') (hlen : ∀ sig, parseMethodDescriptor y.desc = some sig → argsL.length = sig.parameters.length) (hz : ls.size = mx) (hst : st = argsL.reverse ++ .ref a :: rest) (hW : (rest.map fun v => v.category).sum ≤ Wn) (hr : rm.frames + 1 ≤ R.frames ∧ Wn + (maxL + 11) + rm.locals ≤ R.locals ∧ k + rm.cells ≤ R.cells ∧ n + rm.slots ≤ R.slots) (hsub : ∀ y ∈ sf0, y ∈ sf) (K : ∀ T' h' v, W x wd l Z EL R own code mx ret nm T' h' (k + rm.cells) (n + rm.slots) sf → h.size ≤ h'.size → Q' v h' → Go x wd Z EL R Q T' pc' ls (v.toList ++ rest)) : Go x wd Z EL R Q T pc ls st := by
  obtain ⟨hd, rfl⟩ := hd
  subst hst
  obtain ⟨hx, hb, hm, hret, hn, hl, e0, E, c1, c2, hs, hEL, L, vm0, N, g, X, S, hZ, ho, hC⟩ := w
  have hWW : 2 * (mkF x.m pc ls (argsL.reverse ++ .ref a :: rest)).monitorRoom + (rest.map fun v => v.category).sum ≤ Wn := by show 2 * 0 + _ ≤ _; omega
  obtain ⟨cB, kB, qa, qb, qc⟩ := isOf (s := x.s.setVm vm0) hZ e0 Ea
  cases wd with
  | false =>
    have eq := g rfl
    subst eq
    obtain ⟨v, _, ⟨T1, L1, k1, n1⟩, -, X1, ⟨Lc, hQ, l1, y1, z1⟩, stp⟩ := X.virtualBackUp hx (x := y) (y := z) ho (mvT hZ w1) (mvT hZ wsm) (mvT hZ wd1) hy (mvT hZ ws) (mvT hZ w2) (backN (Wn := Wn) C hZ w4 w3 hr.1 hr.2.1) qa qc (g := mkF x.m pc ls (argsL.reverse ++ .ref a :: rest)) rfl (hz.trans hm.symm) (Steps.refl _) (argsL := argsL) (rest := rest) hlen rfl hWW (Jvm.hb hb hd) (fun _ _ => ⟨rfl, e0, hr.2.2.1, hr.2.2.2⟩)
    dsimp only [Pt.U, Pt.locs, Pt.cells, Pt.slots] at X1 l1 y1 z1 stp hQ
    subst l1 y1 z1
    obtain ⟨s₂, o, a1, r⟩ := K T1 T1.heap v ⟨hx, hb, hm, hret, hn, hl, rfl, hQ.2.2.1, hr.2.2.1, hr.2.2.2, fun y hy => ⟨(hs y hy).1, Nat.lt_of_lt_of_le (hs y hy).2 hQ.2.2.2⟩, hEL, _, _, Fr.app N hQ.2.1, fun _ => rfl, X1, (State.WarmedH.refl x.s).since _, hZ, ho, fun q => by cases q⟩ hQ.2.2.2 hQ.1
    exact ⟨s₂, o, stp.trans a1, r⟩
  | true =>
    obtain ⟨v, _, ⟨T1, L1, k1, n1⟩, -, X1, hS1, hgr, ⟨Lc, hQ, l1, y1, z1, hCr⟩, stp⟩ := X.virtualBackUpS hx (x := y) (y := z) ho (mvT (s := x.s.setVm vm0) hZ w1) (mvT (s := x.s.setVm vm0) hZ wsm) (mvT (s := x.s.setVm vm0) hZ wd1) hy (mvT (s := x.s.setVm vm0) hZ ws) (mvT (s := x.s.setVm vm0) hZ w2) (backW (s := x.s) (Wn := Wn) C hZ w4 w3 hr.1 hr.2.1 hEL (hC rfl).1.1 (fun y hy => ⟨(hs y (hsub y hy)).2, (hC rfl).2 y (hsub y hy)⟩)) qa qc (g := mkF x.m pc ls (argsL.reverse ++ .ref a :: rest)) rfl (hz.trans hm.symm) (Steps.refl _) (argsL := argsL) (rest := rest) hlen rfl hWW (Jvm.hb hb hd) (fun _ _ => ⟨rfl, e0, hr.2.2.1, hr.2.2.2⟩)
    dsimp only [Pt.U, Pt.locs, Pt.cells, Pt.slots] at X1 l1 y1 z1 stp hQ hS1 hgr hCr
    subst l1 y1 z1
    rw [e0] at hgr
    obtain ⟨Xr, Sr, Zr, Or⟩ := rebS (s := x.s) (vm0 := vm0) S hgr X1 hS1 (Nat.le_refl _) hZ ho
    obtain ⟨s₂, o, a1, r⟩ := K T1 T1.heap v ⟨hx, hb, hm, hret, hn, hl, rfl, hQ.2.2.1, hr.2.2.1, hr.2.2.2, fun y hy => ⟨(hs y hy).1, Nat.lt_of_lt_of_le (hs y hy).2 hgr⟩, hEL, _, _, Fr.app N hQ.2.1, (fun q => by cases q), Xr, Sr, Zr, Or, fun _ => ⟨(hC rfl).1.trans hCr, fun y hy => hCr.safe (hs y hy).2 ((hC rfl).2 y hy)⟩⟩ hgr hQ.1
    exact ⟨s₂, o, stp.trans a1, r⟩
theorem W.lsw (w : W x wd l Z EL R own code mx ret nm T h k n sf) {dflt off : Int} {pairs : Array (Int × Int)} {len : Nat} {i : Int32} (hd : Dc code pc (.lookupswitch dflt pairs) len pc') (hp : (pairs.toList.zip (pairs.toList.drop 1)).all (fun (a, next) => a.1 < next.1) = true) (ho : (match pairs.find? (·.1 == i.toInt) with | some (_, o) => o | none => dflt) = off) (ht : Tg pc off pcT) (K : Go x wd Z EL R Q T pcT ls st) : Go x wd Z EL R Q T pc ls (.int i :: st) := by
  obtain ⟨hd, rfl⟩ := hd
  obtain ⟨ht, rfl⟩ := ht
  obtain ⟨hx, hb, hm, hr, hn, hl, e0, E, c1, c2, hs, hEL, L, vm0, N, g, X, S, hZ, ho', hC⟩ := w
  obtain ⟨s₂, o, a1, r⟩ := K
  refine ⟨s₂, o, ?_, r⟩
  rcases hf : pairs.find? (·.1 == i.toInt) with _ | ⟨a, off'⟩
  · simp only [hf] at ho
    subst ho
    exact X.lookupswitchMiss hx (g := mkF x.m pc ls (.int i :: st)) rfl rfl (Jvm.hb hb hd) hp hf ht _ a1
  · simp only [hf] at ho
    subst ho
    exact X.lookupswitchHit hx (g := mkF x.m pc ls (.int i :: st)) rfl rfl (Jvm.hb hb hd) hp hf ht _ a1
theorem W.instNo (w : W x wd l Z EL R own code mx ret nm T h k n sf) {i : Nat} {a : Addr} {C K0 : String} (hd : Dc code pc (.instanceof i) 3 pc') (wl : (Jvm.Cond.classLink own i K0).before a0 Z = true) (E : Exa Z h a C) (F : ∃ c t, Z.vm.findClass C = some c ∧ Z.vm.findClass K0 = some t ∧ Z.vm.assignable c t = false) (K : ∀ T', W x wd l Z EL R own code mx ret nm T' h k n sf → Go x wd Z EL R Q T' pc' ls (.int 0 :: st)) : Go x wd Z EL R Q T pc ls (.ref a :: st) := by
  obtain ⟨hd, rfl⟩ := hd
  exact w.goT (fun s0 L X hx hZ ho hb hm e0 => RoadKit.instNo X hx hZ ho wl e0 E F (g := mkF x.m pc ls (.ref a :: st)) rfl rfl (Jvm.hb hb hd)) K
theorem W.ldc2J (w : W x wd l Z EL R own code mx ret nm T h k n sf) {i : Nat} {v : Int64} (hd : Dc code pc (.ldc2_w i) 3 pc') (wc : (Jvm.Cond.constantLong own i v).before a0 Z = true) (K : Go x wd Z EL R Q T pc' ls (.long v :: st)) : Go x wd Z EL R Q T pc ls st := by
  obtain ⟨hd, rfl⟩ := hd
  obtain ⟨hx, hb, hm, hr, hn, hl, e0, E, c1, c2, hs, hEL, L, vm0, N, g, X, S, hZ, ho, hC⟩ := w
  obtain ⟨s₂, o, a1, r⟩ := K
  exact ⟨s₂, o, X.ldc2J hx ho (mv (s := x.s.setVm vm0) hZ wc) rfl (Jvm.hb hb hd) a1, r⟩
theorem W.instNull (w : W x wd l Z EL R own code mx ret nm T h k n sf) {i : Nat} (hd : Dc code pc (.instanceof i) 3 pc') (K : Go x wd Z EL R Q T pc' ls (.int 0 :: st)) : Go x wd Z EL R Q T pc ls (.null :: st) := by
  obtain ⟨hd, rfl⟩ := hd
  obtain ⟨hx, hb, hm, hr, hn, hl, e0, E, c1, c2, hs, hEL, L, vm0, N, g, X, S, hZ, ho, hC⟩ := w
  obtain ⟨s₂, o, a1, r⟩ := K
  exact ⟨s₂, o, X.instanceofNull hx (g := mkF x.m pc ls (.null :: st)) rfl rfl (Jvm.hb hb hd) _ a1, r⟩
theorem W.getFR (w : W x wd l Z EL R own code mx ret nm T h k n sf) {i : Nat} {a : Addr} {O f d : String} {v : Value} (hd : Dc code pc (.getfield i) 3 pc') (wl : (Jvm.Cond.fieldRef own i O f d).before a0 Z = true) (F : Fld Z h a O f d v) (K : Go x wd Z EL R Q T pc' ls (v :: st)) : Go x wd Z EL R Q T pc ls (.ref a :: st) := by
  obtain ⟨hd, rfl⟩ := hd
  obtain ⟨hx, hb, hm, hr, hn, hl, e0, E, c1, c2, hs, hEL, L, vm0, N, g, X, S, hZ, ho, hC⟩ := w
  obtain ⟨s₂, o, a1, r⟩ := K
  obtain ⟨cell, cf, kk, ii, fl, h1, h2, h3, h4, -, -, h7⟩ := F
  have hZT : Z.Warmed39 T.vm := wtrans (s := x.s.setVm vm0) hZ X.warmed
  have hq := Cond.fieldRef_warmed39 hZT wl
  have hoT : (Z.setVm T.vm).vm.findClass own = some x.m.cls := (X.warmed.alike.findClass _ _).trans ho
  obtain ⟨q1, q2, q3, q4, g1, g2⟩ := Cond.fieldRef_spec hoT hq
  obtain ⟨k', hi, -⟩ := State.fieldFound?_setVm (s := Z) hZT.alike h2
  cases hi.symm.trans g1
  have hd' := Jvm.hb hb hd
  have g2' : T.vm.fieldReady x.m.cls i cf fl := g2
  refine ⟨s₂, o, ?_, r⟩
  show Steps x.p.tables x.e x.below (T.setTop { method := x.m, pc := pc, locals := ls, stack := .ref a :: st, locked := none }) _
  jvm_step X.here [hx, hd', getfield.wp_ready (e := x.e) (s := T) (f := mkF x.m pc ls (.ref a :: st)) X.here.top g2' h3 rfl (show T.heap[a]? = some cell by rw [e0]; exact h1) h4 h7]
  exact a1
theorem W.ldcS (w : W x true l Z EL R own code mx ret nm T h k n sf) {i : Nat} {text : String} (nn : Nat) (hd : Dc code pc (.ldc i) 2 pc') (wl : (Jvm.Cond.stringLink own i text).before a0 Z = true) (wS : ∀ a ∈ Bundle.stringAtoms, a.before a0 Z = true) (hEL : EW Z a0 EL) (hn4 : 4 * text.toList.length ≤ nn) (hbig : nn ≤ 536870912) (hr : k + 2 ≤ R.cells ∧ n + (nn + 4) ≤ R.slots) (K : ∀ (a : Addr) T' h', W x true l Z EL R own code mx ret nm T' h' (k + 2) (n + (nn + 4)) sf → Ext h h' → Go x true Z EL R Q T' pc' ls (.ref a :: st)) : Go x true Z EL R Q T pc ls st := by
  obtain ⟨hd, rfl⟩ := hd
  obtain ⟨hx, hb, hm, hret, hnm, hl, e0, E, c1, c2, hs, -, L, vm0, N, g, X, S, hZ, ho, hC⟩ := w
  obtain ⟨a, T', h', k1, X', e', E', S', hk1, Z', o', hCr, -, stp⟩ := ldcOH X hx hZ ho wl wS e0 S (Nat.le_refl _) hEL (hC rfl).1.1 (g := mkF x.m pc ls st) rfl (Jvm.hb hb hd) hn4 hbig hr.1 hr.2
  obtain ⟨s₂, o, a1, r⟩ := K a T' h' ⟨hx, hb, hm, hret, hnm, hl, e', ext_trans E E', hr.1, hr.2, fun y hy => ⟨(hs y hy).1, Nat.lt_of_lt_of_le (hs y hy).2 E'.1⟩, ⟨a0, hEL⟩, L, _, N, (fun q => by cases q), X', since_mono S' hk1, Z', o', fun _ => ⟨(hC rfl).1.trans hCr, fun y hy => hCr.safe (hs y hy).2 ((hC rfl).2 y hy)⟩⟩ E'
  exact ⟨s₂, o, stp _ a1, r⟩
theorem W.ldcR (w : W x true l Z EL R own code mx ret nm T h k n sf) {i : Nat} {text : String} {vs : List Value} (z : Int32) (nn : Nat) (hd : Dc code pc (.ldc i) 2 pc') (wl : (Jvm.Cond.stringLink own i text).before a0 Z = true) (wS : ∀ a ∈ Bundle.stringAtoms, a.before a0 Z = true) (hEL : EW Z a0 EL) (hmem : (own, i) ∈ EL) (ht : (∀ c ∈ text.toList, c.toNat < 256) ∧ text.toList.map (fun c => Value.int (Jvm.Lit.byteI c.toNat.toUInt16)) = vs) (hz : ¬ z < 0) (hlz : z.toNatClampNeg = vs.length) (hn4 : 4 * text.toList.length ≤ nn) (hbig : nn ≤ 536870912) (hr : k + 2 ≤ R.cells ∧ n + (nn + 4) ≤ R.slots) (K : ∀ (a b : Addr) kb T' h', W x true l Z EL R own code mx ret nm T' h' (k + 2) (n + (nn + 4)) sf → Ext h h' → Exa Z h' a "java/lang/String" → Fld Z h' a "java/lang/String" "coder" "B" (.int 0) → Fld Z h' a "java/lang/String" "value" "[B" (.ref b) → Arv Z h' b kb .byte z vs (.int 0) → (∀ y ∈ sf, y ≠ a ∧ y ≠ b) → Go x true Z EL R Q T' pc' ls (.ref a :: st)) : Go x true Z EL R Q T pc ls st := by
  obtain ⟨hd, rfl⟩ := hd
  obtain ⟨hx, hb, hm, hret, hnm, hl, e0, E, c1, c2, hs, -, L, vm0, N, g, X, S, hZ, ho, hC⟩ := w
  obtain ⟨a, T', h', k1, b, kb, X', e', E', S', hk1, Z', o', q1, q2, q3, q4, -, -, hCr, -, hne, stp⟩ := ldcCH X hx hZ ho wl wS e0 S (Nat.le_refl _) hEL hmem (hC rfl).1.1 ht hz hlz (g := mkF x.m pc ls st) rfl (Jvm.hb hb hd) hn4 hbig hr.1 hr.2
  have hsf : ∀ y ∈ sf, Safe Z EL T'.vm h' y := fun y hy => hCr.safe (hs y hy).2 ((hC rfl).2 y hy)
  obtain ⟨s₂, o, a1, r⟩ := K a b kb T' h' ⟨hx, hb, hm, hret, hnm, hl, e', ext_trans E E', hr.1, hr.2, fun y hy => ⟨(hs y hy).1, Nat.lt_of_lt_of_le (hs y hy).2 E'.1⟩, ⟨a0, hEL⟩, L, _, N, (fun q => by cases q), X', since_mono S' hk1, Z', o', fun _ => ⟨(hC rfl).1.trans hCr, hsf⟩⟩ E' q1 q2 q3 q4 (fun y hy => hne y (hsf y hy))
  exact ⟨s₂, o, stp _ a1, r⟩
end Laws
theorem eqv_int {args : Array Value} {first s : State} {o : Option Outcome} {idx : List Nat} {a b : Term} {z : Int32} (h : (Jvm.Cond.eq a b).value args first o s idx = some true) (hb : b.eval args first o idx s = some (.int z)) : a.eval args first o idx s = some (.int z) := by
  cases ha : a.eval args first o idx s with
  | none => simp [Jvm.Cond.value, ha, hb] at h
  | some v => cases v <;> simp [Jvm.Cond.value, ha, hb] at h ⊢; exact h
theorem eqv_ref {args : Array Value} {first s : State} {o : Option Outcome} {idx : List Nat} {a b : Term} {z : Addr} (h : (Jvm.Cond.eq a b).value args first o s idx = some true) (hb : b.eval args first o idx s = some (.ref z)) : a.eval args first o idx s = some (.ref z) := by
  cases ha : a.eval args first o idx s with
  | none => simp [Jvm.Cond.value, ha, hb] at h
  | some v => cases v <;> simp [Jvm.Cond.value, ha, hb] at h ⊢; exact h
theorem sta_exa {Z : State} {args : Array Value} {C f d K : String} (hx : (Jvm.Cond.exactly (.static C f d) K).value args Z none Z [] = some true) (hi : (Jvm.Cond.initialized C).before args Z = true) (hl : (Jvm.Cond.laysStatic C f d).before args Z = true) :
    ∃ a, (Term.static C f d).eval args Z none [] Z = some (.ref a) ∧ Sta Z Z.heap C f d (.ref a) ∧ Exa Z Z.heap a K := by
  obtain ⟨a, ev⟩ := exa_v hx
  exact ⟨a, ev, Sta.start ev (Or.inr ⟨hi, hl⟩), Exa.start ev hx⟩
theorem fld_int {Z : State} {args : Array Value} {t : Term} {C f d : String} {z : Int32} {a : Addr} (h : (Jvm.Cond.eq (.field t C f d) (.int z)).value args Z none Z [] = some true) (ht : t.eval args Z none [] Z = some (.ref a)) : Fld Z Z.heap a C f d (.int z) :=
  Fld.start (by rw [← fld_at ht]; exact eqv_int h (Term.int_eval z))
theorem fld_ref {Z : State} {args : Array Value} {t u : Term} {C f d : String} {a b : Addr} (h : (Jvm.Cond.eq (.field t C f d) u).value args Z none Z [] = some true) (ht : t.eval args Z none [] Z = some (.ref a)) (hu : u.eval args Z none [] Z = some (.ref b)) : Fld Z Z.heap a C f d (.ref b) :=
  Fld.start (by rw [← fld_at ht]; exact eqv_ref h hu)
theorem ord_ne {Z : State} {h : Heap} {a b : Addr} {C f d : String} {u v : Int32} (F : Fld Z h a C f d (.int u)) (G : Fld Z h b C f d (.int v)) (q : u ≠ v) : a ≠ b := Fld.ne F G fun e => q (Value.int.inj e)
/-- a String at a, its bytes in the array at t, its coder k -/
def StrL (Z : State) (h : Heap) (a t : Addr) (k : Int32) (bs : List Int32) : Prop :=
  Exa Z h a "java/lang/String" ∧ Fld Z h a "java/lang/String" "value" "[B" (.ref t) ∧ Fld Z h a "java/lang/String" "coder" "B" (.int k) ∧ ∃ kb, Arv Z h t kb .byte (Int32.ofNat bs.length) (bs.map .int) (.int 0) ∧ bs.length < 2 ^ 31
section StrFacts
variable {Z : State} {h h' : Heap} {a t : Addr} {k : Int32} {bs : List Int32}
theorem StrL.ext (F : StrL Z h a t k bs) (E : Ext h h') : StrL Z h' a t k bs := ⟨F.1.ext E, F.2.1.ext E, F.2.2.1.ext E, by obtain ⟨kb, A, q⟩ := F.2.2.2; exact ⟨kb, A.ext E, q⟩⟩
theorem StrL.keep {ws : List Addr} (F : StrL Z h a t k bs) (K : Keep h h' ws) (q1 : a ∉ ws) (q2 : t ∉ ws) : StrL Z h' a t k bs := ⟨F.1.keep K, F.2.1.keep K q1, F.2.2.1.keep K q1, by obtain ⟨kb, A, q⟩ := F.2.2.2; exact ⟨kb, A.keep K q2, q⟩⟩
theorem StrL.wr {x : Addr} {sl : Nat} {v : Value} (F : StrL Z h a t k bs) (W : Wr h h' x sl v) (q1 : a ≠ x) (q2 : t ≠ x) : StrL Z h' a t k bs := F.keep (Keep.of_wr W) (ninS q1 nin0) (ninS q2 nin0)
theorem StrL.lt (F : StrL Z h a t k bs) : a < h.size := F.1.lt
theorem StrL.lt' (F : StrL Z h a t k bs) : t < h.size := by obtain ⟨kb, A, -⟩ := F.2.2.2; exact A.lt
theorem ofN_toInt {n : Nat} (h : n < 2 ^ 31) : (Int32.ofNat n).toInt = (n : Int) := Int32.toInt_ofNat_small h
theorem ofN_clamp {n : Nat} (h : n < 2 ^ 31) : (Int32.ofNat n).toNatClampNeg = n := by simp only [Int32.toNatClampNeg, ofN_toInt h]; rfl
theorem ofN_nn {n : Nat} (h : n < 2 ^ 31) : ¬ Int32.ofNat n < 0 := by rw [Int32.lt_iff_toInt_lt, ofN_toInt h]; exact Int.not_lt.mpr (Int.natCast_nonneg n)
theorem ofN_lt {i n : Nat} (hi : i < 2 ^ 31) (hn : n < 2 ^ 31) : Int32.ofNat i < Int32.ofNat n ↔ i < n := by rw [Int32.lt_iff_toInt_lt, ofN_toInt hi, ofN_toInt hn]; omega
theorem ofN_inj {i n : Nat} (hi : i < 2 ^ 31) (hn : n < 2 ^ 31) : Int32.ofNat i = Int32.ofNat n ↔ i = n := by rw [← Int32.toInt_inj, ofN_toInt hi, ofN_toInt hn]; omega
theorem ofN_succ {i : Nat} (hi : i + 1 < 2 ^ 31) : Int32.ofNat i + 1 = Int32.ofNat (i + 1) := by
  rw [← Int32.toInt_inj, ofN_toInt hi]
  have q := c_iadd (Int32.ofNat i) 1
  have r := rng32 (Int32.ofNat i + 1)
  rw [ofN_toInt (by omega), show (1 : Int32).toInt = 1 from rfl] at q
  omega
theorem mapGet (bs : List Int32) (i : Nat) : (bs.map Value.int).getD i (.int 0) = .int (bs.getD i 0) := by
  simp only [List.getD_eq_getElem?_getD, List.getElem?_map]; cases bs[i]? <;> rfl
theorem list_eq {bs cs : List Int32} (h : bs.length = cs.length) (q : ∀ j, j < bs.length → bs.getD j 0 = cs.getD j 0) : bs = cs := by
  refine List.ext_getElem h fun i h1 h2 => ?_
  have := q i h1
  simpa [List.getD_eq_getElem?_getD, List.getElem?_eq_getElem h1, List.getElem?_eq_getElem h2] using this
theorem StrL.same {t' : Addr} {k' : Int32} {cs : List Int32} (F : StrL Z h a t k bs) (G : StrL Z h a t' k' cs) : bs = cs := by
  obtain ⟨-, F1, -, kb, A, hb⟩ := F
  obtain ⟨-, G1, -, kc, B, hc⟩ := G
  have e : t = t' := by
    by_cases q : t = t'
    · exact q
    · exact absurd rfl (Fld.ne F1 G1 fun z => q (Value.ref.inj z))
  subst e
  obtain ⟨c1, a1, -, s1, -, h1, -⟩ := A
  obtain ⟨c2, b1, -, s2, -, h2, -⟩ := B
  cases a1.1.symm.trans b1.1
  rw [ofN_clamp hb] at s1
  rw [ofN_clamp hc] at s2
  refine list_eq (s1.symm.trans s2) fun j hj => ?_
  have e1 := h1 j (by rw [s1]; exact hj)
  have e2 := h2 j (by rw [s1]; exact hj)
  rw [mapGet] at e1 e2
  exact Value.int.inj (Option.some.inj (e1.symm.trans e2))
end StrFacts
theorem b255' {c : Int32} (c0 : 0 ≤ c.toInt) (c1 : ¬ 255 < c) : nar .byte c &&& (255 : Int32) = c := by
  rw [Int32.lt_iff_toInt_lt, show (255 : Int32).toInt = 255 from rfl] at c1
  have e1 := c_i2b c
  have e2 := c_mask (nar .byte c) 255 8 (by decide) (by decide)
  apply Int32.toInt_inj.mp
  rw [e2]
  simp only [nar]
  omega
theorem nchar {c : Int32} (c0 : 0 ≤ c.toInt) (c1 : ¬ 255 < c) : nar .char c = c := by
  rw [Int32.lt_iff_toInt_lt, show (255 : Int32).toInt = 255 from rfl] at c1
  have e1 := c_i2c c
  apply Int32.toInt_inj.mp
  simp only [nar]
  omega
theorem b255 {c : Int32} (c0 : 0 ≤ c.toInt) (c1 : ¬ 255 < c) : nar .char (nar .byte c &&& (255 : Int32)) = c := by rw [b255' c0 c1]; exact nchar c0 c1
theorem nb_inj {c d : Int32} (c0 : 0 ≤ c.toInt) (c1 : ¬ 255 < c) (d0 : 0 ≤ d.toInt) (d1 : ¬ 255 < d) (h : nar .byte c = nar .byte d) : c = d := by
  rw [Int32.lt_iff_toInt_lt, show (255 : Int32).toInt = 255 from rfl] at c1 d1
  have h2 : (nar .byte c).toInt = (nar .byte d).toInt := by rw [h]
  have e1 := c_i2b c
  have e2 := c_i2b d
  simp only [nar] at h2
  apply Int32.toInt_inj.mp
  omega
theorem nbb (c : Int32) : nar .byte (nar .byte c) = nar .byte c := by simp [nar]
theorem ncc (c : Int32) : nar .char (nar .char c) = nar .char c := by
  have := XT.narrow_c c
  simp only [narrow, Value.int.injEq] at this
  exact this
theorem nar_and (c : Int32) : nar .char (c &&& 255) = c &&& 255 := i2c_mask c
theorem le255 (c : Int32) : ¬ 255 < c &&& 255 := by
  rw [Int32.lt_iff_toInt_lt]; exact Int.not_lt.mpr (c_and c 255 (by decide)).2
theorem le255n (c : Int32) : ¬ 255 < nar .char (c &&& 255) := by rw [nar_and]; exact le255 c
theorem fnb (c : Int32) : fits .byte (.int (nar .byte c)) = true := fits_nar_byte c
theorem fnc (c : Int32) : fits .char (.int (nar .char c)) = true := fits_nar_char c
theorem cmpL_lt (x y : Int64) : XT.cmpL x y < 0 ↔ x < y := by
  unfold XT.cmpL; split <;> (try split) <;> simp_all [Int64.lt_iff_toInt_lt, ← Int64.toInt_inj] <;> omega
theorem cmpL_gt (x y : Int64) : 0 < XT.cmpL x y ↔ y < x := by
  unfold XT.cmpL; split <;> (try split) <;> simp_all [Int64.lt_iff_toInt_lt, ← Int64.toInt_inj] <;> omega
theorem ns_root {Z : State} {a0 : Array Value} {O K : String} {n : Nat} (w : (Jvm.Cond.noSuperclass O).before a0 Z = true) (wk : (Jvm.Cond.instantiable K n).before a0 Z = true) (hn : O ≠ K) : NS Z O K := by
  obtain ⟨c, k, h1, h2, h3, -, -⟩ := Cond.noSuperclass_spec w
  obtain ⟨t, kt, g1, -⟩ := Cond.instantiable_spec wk
  have ne := ids_ne h1 g1 hn
  refine ⟨c, t, h1, g1, fun fuel => ?_⟩
  cases fuel with
  | zero => rfl
  | succ f => simp [Vm.isSubclassAux, ne, h2, h3]
theorem ns_no {Z : State} {a0 : Array Value} {C S K : String} {n : Nat} (w : (Jvm.Cond.superclass C S).before a0 Z = true) (wk : (Jvm.Cond.instantiable K n).before a0 Z = true) (m : NS Z C K) (hn : C ≠ K) : ∃ c t, Z.vm.findClass C = some c ∧ Z.vm.findClass K = some t ∧ Z.vm.assignable c t = false := by
  obtain ⟨c, t, h0, g0, n3⟩ := m
  obtain ⟨p, k, kp, h1, h2, h3, h4, h5, -, h7⟩ := Cond.superclass_spec h0 w
  obtain ⟨t', kt, g1, g2, g5, g7, -⟩ := Cond.instantiable_spec wk
  cases g0.symm.trans g1
  have ne := ids_ne h0 g0 hn
  have g8 : kt.isInterface = false := (Bool.or_eq_false_iff.mp g7).1
  refine ⟨c, t, h0, g0, ?_⟩
  show Z.vm.assignableAux (255 + 1) c t = false
  simp [Vm.assignableAux, ne, h2, g2, h5, g5, g8, Vm.isSubclass, n3]
/-- an array of boxes that stood at the start: each of its class -/
def Bx (Z : State) (a : Addr) (cl : Cell) (K : String) (z : Int32) : Prop :=
  Arr Z Z.heap a cl (.object K) ∧ cl.slots.size = z.toNatClampNeg ∧ ¬ z < 0 ∧ ∀ j : Int32, ¬ (j < 0 ∨ cl.slots.size ≤ j.toNatClampNeg) → ∃ b : Addr, cl.slots[j.toNatClampNeg]? = some (.ref b) ∧ Exa Z Z.heap b K
theorem Bx.start {Z : State} {a0 : Array Value} {t : Term} {c : Jvm.Cond} {a : Addr} {K : String} {z : Int32} (et : ∀ idx, t.eval a0 Z none idx Z = some (.ref a)) (ha : (Jvm.Cond.arrayOf t (.object K)).value a0 Z none Z [] = some true) (hl : (Jvm.Cond.eq (.length t) (.int z)).value a0 Z none Z [] = some true) (hz : ¬ z < 0)
    (h : (Jvm.Cond.all t (.and (.exactly (.elem t (.index 0)) K) c)).value a0 Z none Z [] = some true) : ∃ cl, Bx Z a cl K z := by
  obtain ⟨cl, A⟩ := Arr.start (et []) ha
  have e1 := eqv_int hl (Term.int_eval z)
  obtain ⟨a', cl', e2, e3, e4⟩ := Term.length_spec e1
  cases (et []).symm.trans e2
  cases (State.arrayAt?_spec e3).1.symm.trans A.1
  have q : cl.slots.size < 2 ^ 31 := by
    simp only [Term.eval, et [], e3, Option.bind_eq_bind, Option.bind_some] at e1
    by_cases q : cl.slots.size < 2 ^ 31
    · exact q
    · simp [q] at e1
  have e := (Value.int.inj e4).symm
  refine ⟨cl, A, by rw [← e]; simp only [Int32.toNatClampNeg, len_toInt q]; rfl, hz, fun j hj => ?_⟩
  have nn : ¬ j < 0 := fun x => hj (Or.inl x)
  obtain ⟨u1, -⟩ := and_e (Cond.all_elim (et []) (A.fin (Vm.Alike.refl _)) h j.toNatClampNeg (Nat.lt_of_not_le fun x => hj (Or.inr x)))
  obtain ⟨box, eb⟩ := exa_v u1
  exact ⟨box, (elem_f (et _) (idx_at nn) (A.fin (Vm.Alike.refl _)) nn).symm.trans eb, exa_at eb u1⟩
theorem natOf {i : Int32} {n : Nat} (h0 : 0 ≤ i.toInt) (h1 : i.toInt < (n : Int)) : ∃ j : Nat, j < n ∧ i = Int32.ofInt (j : Int) := ⟨i.toInt.toNat, by omega, by rw [Int.toNat_of_nonneg h0]; exact (Int32.ofInt_toInt i).symm⟩
theorem own_in {i z : Int32} {D : Int} (h0 : 0 ≤ i.toInt) (h1 : i.toInt < D) (hz : z.toInt = D) : ¬ i < 0 ∧ i < z := ⟨by rw [Int32.lt_iff_toInt_lt]; exact Int.not_lt.mpr h0, by rw [Int32.lt_iff_toInt_lt, hz]; exact h1⟩
theorem modR (k d : Int32) (D : Int) (hd : d.toInt = D) (hD : 0 < D) : 0 ≤ ((k &&& 2147483647) % d).toInt ∧ ((k &&& 2147483647) % d).toInt < D := by
  have h := (c_and k 2147483647 (by decide)).1
  rw [(c_irem _ d D hd).1 h]; exact ⟨Int.emod_nonneg _ (by omega), Int.emod_lt_of_pos _ hD⟩
theorem and1 (k : Int32) : k &&& 1 = 0 ∨ k &&& 1 = 1 := by
  obtain ⟨j, h, e⟩ := natOf (n := 2) (c_and k 1 (by decide)).1 (Int.lt_of_le_of_lt (c_and k 1 (by decide)).2 (by decide))
  rw [e]
  have h2 : j = 0 ∨ j = 1 := by omega
  rcases h2 with rfl | rfl
  · exact Or.inl rfl
  · exact Or.inr rfl
theorem and3 (k : Int32) : k &&& 3 = 0 ∨ k &&& 3 = 1 ∨ k &&& 3 = 2 ∨ k &&& 3 = 3 := by
  obtain ⟨j, h, e⟩ := natOf (n := 4) (c_and k 3 (by decide)).1 (Int.lt_of_le_of_lt (c_and k 3 (by decide)).2 (by decide))
  rw [e]
  have h2 : j = 0 ∨ j = 1 ∨ j = 2 ∨ j = 3 := by omega
  rcases h2 with rfl | rfl | rfl | rfl
  · exact Or.inl rfl
  · exact Or.inr (Or.inl rfl)
  · exact Or.inr (Or.inr (Or.inl rfl))
  · exact Or.inr (Or.inr (Or.inr rfl))
theorem maskNeg (k : Int32) : ¬ (k &&& 2147483647) < 0 := by
  rw [Int32.lt_iff_toInt_lt]; exact Int.not_lt.mpr (c_and k 2147483647 (by decide)).1
/-- an array that stood at the start, by the case's words -/
theorem arv_start {Z : State} {a0 : Array Value} {t : Term} {a : Addr} {ty : FieldType} {z : Int32} {vs : List Value} {dv : Value} (hF : Fit Z) (ha : (Jvm.Cond.arrayOf t ty).value a0 Z none Z [] = some true) (ht : t.eval a0 Z none [] Z = some (.ref a)) (hl : (Jvm.Cond.eq (.length t) (.int z)).value a0 Z none Z [] = some true)
    (hz : ¬ z < 0) (hn : z.toNatClampNeg = vs.length) (H : ∀ cl : Cell, Z.heap[a]? = some cl → HasL cl 0 vs) : ∃ kc, Arv Z Z.heap a kc ty z vs dv := by
  obtain ⟨cl, A⟩ := Arr.start ht ha
  have e1 := eqv_int hl (Term.int_eval z)
  obtain ⟨a', cl', e2, e3, e4⟩ := Term.length_spec e1
  cases ht.symm.trans e2
  cases (State.arrayAt?_spec e3).1.symm.trans A.1
  have hb : cl.slots.size < 2 ^ 31 := by
    simp only [Term.eval, ht, e3, Option.bind_eq_bind, Option.bind_some] at e1
    by_cases q : cl.slots.size < 2 ^ 31
    · exact q
    · simp [q] at e1
  exact ⟨cl.cls, Arv.start hF A hb (Value.int.inj e4).symm hz hn (H cl A.1)⟩
theorem elem_slot {Z : State} {a0 : Array Value} {t u : Term} {a b : Addr} {j : Int32} {n : Nat} {cl : Cell} (h : (Jvm.Cond.eq (.elem t (.int j)) u).value a0 Z none Z [] = some true) (ht : t.eval a0 Z none [] Z = some (.ref a)) (hu : u.eval a0 Z none [] Z = some (.ref b)) (hn : j.toNatClampNeg = n) (hc : Z.heap[a]? = some cl) : cl.slots[n]? = some (.ref b) := by
  subst hn
  exact (elem_in (eqv_ref h hu) ht (Term.int_eval j) hc).2
theorem elem_slotI {Z : State} {a0 : Array Value} {t : Term} {a : Addr} {j b : Int32} {n : Nat} {cl : Cell} (h : (Jvm.Cond.eq (.elem t (.int j)) (.int b)).value a0 Z none Z [] = some true) (ht : t.eval a0 Z none [] Z = some (.ref a)) (hn : j.toNatClampNeg = n) (hc : Z.heap[a]? = some cl) : cl.slots[n]? = some (.int b) := by
  subst hn
  exact (elem_in (eqv_int h (Term.int_eval b)) ht (Term.int_eval j) hc).2
theorem len_start {Z : State} {a0 : Array Value} {t : Term} {a : Addr} {cl : Cell} {ty : FieldType} {z : Int32} (A : Arr Z Z.heap a cl ty) (ht : t.eval a0 Z none [] Z = some (.ref a)) (hl : (Jvm.Cond.eq (.length t) (.int z)).value a0 Z none Z [] = some true) : cl.slots.size = z.toNatClampNeg := by
  have e1 := eqv_int hl (Term.int_eval z)
  obtain ⟨a', cl', e2, e3, e4⟩ := Term.length_spec e1
  cases ht.symm.trans e2
  cases (State.arrayAt?_spec e3).1.symm.trans A.1
  have q : cl.slots.size < 2 ^ 31 := by
    simp only [Term.eval, ht, e3, Option.bind_eq_bind, Option.bind_some] at e1
    by_cases q : cl.slots.size < 2 ^ 31
    · exact q
    · simp [q] at e1
  have e := (Value.int.inj e4).symm
  rw [← e]; simp only [Int32.toNatClampNeg, len_toInt q]; rfl
theorem hasL_rep {cl : Cell} {v : Value} : ∀ (n i : Nat), (∀ j, i ≤ j → j < i + n → cl.slots[j]? = some v) → HasL cl i (List.replicate n v)
  | 0, _, _ => trivial
  | n + 1, i, h => ⟨h i (Nat.le_refl _) (by omega), hasL_rep n (i + 1) fun j h1 h2 => h j (by omega) (by omega)⟩
/-- a String that stood at the start, by the case's words -/
theorem str_start {Z : State} {a0 : Array Value} {t : Term} {a : Addr} {z : Int32} {bs : List Int32} (hF : Fit Z) (ht : t.eval a0 Z none [] Z = some (.ref a)) (hx : (Jvm.Cond.exactly t "java/lang/String").value a0 Z none Z [] = some true) (hc : (Jvm.Cond.eq (.field t "java/lang/String" "coder" "B") (.int 0)).value a0 Z none Z [] = some true) (ha : (Jvm.Cond.arrayOf (.field t "java/lang/String" "value" "[B") .byte).value a0 Z none Z [] = some true) (hl : (Jvm.Cond.eq (.length (.field t "java/lang/String" "value" "[B")) (.int z)).value a0 Z none Z [] = some true) (hz : ¬ z < 0) (hn : z = Int32.ofNat bs.length) (hb : bs.length < 2 ^ 31)
    (H : ∀ (b : Addr) (cl : Cell), (Term.field t "java/lang/String" "value" "[B").eval a0 Z none [] Z = some (.ref b) → Arr Z Z.heap b cl .byte → cl.slots.size = bs.length → HasL cl 0 (bs.map .int)) : ∃ b, StrL Z Z.heap a b 0 bs := by
  obtain ⟨b, eb⟩ := arr_v ha
  obtain ⟨cl0, A0⟩ := Arr.start eb ha
  have hs := len_start A0 eb hl
  subst hn
  obtain ⟨kc, A⟩ := arv_start (vs := bs.map .int) (dv := .int 0) hF ha eb hl hz (by rw [ofN_clamp hb, List.length_map]) (fun cl hcl => by cases A0.1.symm.trans hcl; exact H b _ eb A0 (by rw [hs, ofN_clamp hb]))
  exact ⟨b, Exa.start ht hx, Fld.start (by rw [← fld_at ht]; exact eb), fld_int hc ht, kc, A, hb⟩
theorem str_all {Z : State} {a0 : Array Value} {F : Term} {b : Addr} {cl : Cell} {n : Nat} {v : Int32} (eF : ∀ idx, F.eval a0 Z none idx Z = some (.ref b)) (A : Arr Z Z.heap b cl .byte) (hs : cl.slots.size = n) (hn : n < 2 ^ 31) (hall : (Jvm.Cond.all F (.eq (.elem F (.index 0)) (.int v))).value a0 Z none Z [] = some true) : HasL cl 0 (List.replicate n (.int v)) :=
  hasL_rep n 0 fun j _ hj => by
    have h31 : j < 2 ^ 31 := by omega
    have u := Cond.all_elim (eF []) (A.fin (Vm.Alike.refl _)) hall j (by omega)
    have ix := idx_at (s := Z) (args := a0) (first := Z) (o := none) (j := Int32.ofNat j) (ofN_nn h31)
    rw [ofN_clamp h31] at ix
    have e := elem_f (eF [j]) ix (A.fin (Vm.Alike.refl _)) (ofN_nn h31)
    rw [ofN_clamp h31] at e
    exact e.symm.trans (eqv_int u (Term.int_eval v))
/-- null, or a String -/
def Sn (Z : State) (h : Heap) (v : Value) : Prop := v = .null ∨ ∃ s, v = .ref s ∧ Exa Z h s "java/lang/String"
theorem Sn.ext {Z : State} {h h' : Heap} {v : Value} (F : Sn Z h v) (E : Ext h h') : Sn Z h' v := by
  rcases F with q | ⟨s, q, X⟩
  · exact Or.inl q
  · exact Or.inr ⟨s, q, X.ext E⟩
theorem Sn.isRef {Z : State} {h : Heap} {v : Value} (F : Sn Z h v) : v.isRef = true := by rcases F with rfl | ⟨s, rfl, -⟩ <;> rfl
/-- the conjuncts of a condition -/
def ands : Jvm.Cond → List Jvm.Cond
  | .and a b => a :: ands b
  | c => [c]
theorem ands_all {args : Array Value} {s : State} : ∀ (c : Jvm.Cond), c.value args s none s [] = some true → ∀ d ∈ ands c, d.value args s none s [] = some true := by
  intro c
  induction c with
  | and a b _ ih =>
    intro h d hd
    obtain ⟨h1, h2⟩ := and_e h
    rcases List.mem_cons.mp hd with rfl | hd
    · exact h1
    · exact ih h2 d hd
  | _ => intro h d hd; cases List.mem_singleton.mp hd; exact h
theorem nw {c : Jvm.Cond} {Z : State} {a0 : Array Value} (hn : c.value a0 Z none Z [] = some true) (i : Nat) {d : Jvm.Cond} (h : (ands c)[i]? = some d) : d.value a0 Z none Z [] = some true := ands_all c hn d (List.mem_of_getElem? h)
/-- the object that a static holds at the start -/
def sad (Z : State) (a0 : Array Value) (C f d : String) : Addr := match (Term.static C f d).eval a0 Z none [] Z with | some (.ref a) => a | _ => 0
theorem sad_eq {Z : State} {a0 : Array Value} {C f d : String} {a : Addr} (h : (Term.static C f d).eval a0 Z none [] Z = some (.ref a)) : sad Z a0 C f d = a := by simp only [sad, h]
theorem sad_exa {Z : State} {a0 : Array Value} {C f d K : String} (hx : (Jvm.Cond.exactly (.static C f d) K).value a0 Z none Z [] = some true) (hi : (Jvm.Cond.initialized C).before a0 Z = true) (hl : (Jvm.Cond.laysStatic C f d).before a0 Z = true) :
    (Term.static C f d).eval a0 Z none [] Z = some (.ref (sad Z a0 C f d)) ∧ Sta Z Z.heap C f d (.ref (sad Z a0 C f d)) ∧ Exa Z Z.heap (sad Z a0 C f d) K := by
  obtain ⟨a, ev, S, E⟩ := sta_exa hx hi hl
  rw [sad_eq ev]; exact ⟨ev, S, E⟩
theorem nb1 : nar .boolean 1 = 1 := rfl
theorem nb0 : nar .boolean 0 = 0 := rfl
theorem rne {a b : Addr} (q : a ≠ b) : ¬ (Value.ref a = Value.ref b) := fun e => q (Value.ref.inj e)
theorem narR {t : FieldType} {v : Value} (h : v.isRef = true) : narrow t v = v := by cases v <;> cases t <;> first | rfl | (simp [Value.isRef] at h)
theorem fitR {t : FieldType} {v : Value} (h : v.isRef = true) (ht : t.isReference = true) : fits t v = true := by cases t <;> simp [FieldType.isReference] at ht <;> cases v <;> first | rfl | (simp [Value.isRef] at h)
end Jvm.OwnW
namespace Jvm.Pilot.@@N@@
open Jvm Jvm.ClassFile Sem Op Lib Jvm.Free Jvm.Stand Jvm.LawKit Jvm.RoadKit Jvm.OwnW Bundle Jvm.Pilot.@@N@@.Jvm.D
theorem tw {Z : State} {a0 : Array Value} (hw : ∀ d ∈ tables_1, d.before a0 Z = true) (i : Nat) {d : Jvm.Cond} (h : tables_1[i]? = some d) : d.before a0 Z = true := hw _ (List.mem_of_getElem? h)
theorem fit_of {s : State} (hF : heapFits s = true) : Fit s := fun {y c} hc i hi => by
  obtain ⟨ha, rfl⟩ := Array.getElem?_eq_some_iff.mp hc
  have q := List.all_eq_true.mp ((Array.all_eq_true_iff_forall_mem.mp hF) _ (Array.getElem_mem ha)) i (List.mem_range.mpr hi)
  simpa [Array.getElem?_eq_getElem hi] using q
theorem pn_com_example_lucioles_lucioles_model_Rdn : plainName "com/example/lucioles/lucioles/model/Rdn" = true := by first | (simp [plainName, overriddenIn]; done) | decide +kernel
theorem pn_com_example_lucioles_lucioles_model_RdnEqualsPinLaw : plainName "com/example/lucioles/lucioles/model/RdnEqualsPinLaw" = true := by first | (simp [plainName, overriddenIn]; done) | decide +kernel
theorem pn_java_lang_Character : plainName "java/lang/Character" = true := by first | (simp [plainName, overriddenIn]; done) | decide +kernel
theorem pn_java_lang_String : plainName "java/lang/String" = true := by first | (simp [plainName, overriddenIn]; done) | decide +kernel
theorem pn_java_lang_StringLatin1 : plainName "java/lang/StringLatin1" = true := by first | (simp [plainName, overriddenIn]; done) | decide +kernel
theorem pn_java_lang_StringUTF16 : plainName "java/lang/StringUTF16" = true := by first | (simp [plainName, overriddenIn]; done) | decide +kernel
theorem pn_java_util_Objects : plainName "java/util/Objects" = true := by first | (simp [plainName, overriddenIn]; done) | decide +kernel
theorem pn_jdk_internal_util_Preconditions : plainName "jdk/internal/util/Preconditions" = true := by first | (simp [plainName, overriddenIn]; done) | decide +kernel
theorem pd_0 : parseMethodDescriptor "([CI[BII)I" = some ⟨[(.array .char), .int, (.array .byte), .int, .int], some .int⟩ := by decide +kernel
theorem pd_1 : parseMethodDescriptor "([CII)[B" = some ⟨[(.array .char), .int, .int], some (.array .byte)⟩ := by decide +kernel
theorem pd_2 : parseMethodDescriptor "([BI)B" = some ⟨[(.array .byte), .int], some .byte⟩ := by decide +kernel
theorem pd_3 : parseMethodDescriptor "([CIILjava/lang/Void;)V" = some ⟨[(.array .char), .int, .int, (.object "java/lang/Void")], none⟩ := by decide +kernel
theorem pd_4 : parseMethodDescriptor "(C)Z" = some ⟨[.char], some .boolean⟩ := by decide +kernel
theorem pd_5 : parseMethodDescriptor "(C)[B" = some ⟨[.char], some (.array .byte)⟩ := by decide +kernel
theorem pd_6 : parseMethodDescriptor "([BB)V" = some ⟨[(.array .byte), .byte], none⟩ := by decide +kernel
theorem pd_7 : parseMethodDescriptor "([B[B)Z" = some ⟨[(.array .byte), (.array .byte)], some .boolean⟩ := by decide +kernel
theorem pd_8 : parseMethodDescriptor "()B" = some ⟨[], some .byte⟩ := by decide +kernel
theorem pd_9 : parseMethodDescriptor "(IILjava/util/function/BiFunction;)I" = some ⟨[.int, .int, (.object "java/util/function/BiFunction")], some .int⟩ := by decide +kernel
theorem pd_10 : parseMethodDescriptor "(II)V" = some ⟨[.int, .int], none⟩ := by decide +kernel
theorem pd_11 : parseMethodDescriptor "()Z" = some ⟨[], some .boolean⟩ := by decide +kernel
theorem pd_12 : parseMethodDescriptor "([BI)C" = some ⟨[(.array .byte), .int], some .char⟩ := by decide +kernel
theorem pd_13 : parseMethodDescriptor "([C)V" = some ⟨[(.array .char)], none⟩ := by decide +kernel
theorem pd_14 : parseMethodDescriptor "(C)Ljava/lang/String;" = some ⟨[.char], some (.object "java/lang/String")⟩ := by decide +kernel
theorem pd_15 : parseMethodDescriptor "(Ljava/lang/Object;Ljava/lang/String;)Ljava/lang/Object;" = some ⟨[(.object "java/lang/Object"), (.object "java/lang/String")], some (.object "java/lang/Object")⟩ := by decide +kernel
theorem pd_16 : parseMethodDescriptor "(I)C" = some ⟨[.int], some .char⟩ := by decide +kernel
theorem pd_17 : parseMethodDescriptor "()I" = some ⟨[], some .int⟩ := by decide +kernel
theorem pd_18 : parseMethodDescriptor "(I)I" = some ⟨[.int], some .int⟩ := by decide +kernel
theorem pd_19 : parseMethodDescriptor "(I)Z" = some ⟨[.int], some .boolean⟩ := by decide +kernel
theorem pd_20 : parseMethodDescriptor "(Ljava/lang/String;)V" = some ⟨[(.object "java/lang/String")], none⟩ := by decide +kernel
theorem pd_21 : parseMethodDescriptor "(Ljava/lang/Object;)Z" = some ⟨[(.object "java/lang/Object")], some .boolean⟩ := by decide +kernel
theorem pd_22 : parseMethodDescriptor "(ICC)Ljava/lang/String;" = some ⟨[.int, .char, .char], some (.object "java/lang/String")⟩ := by decide +kernel
theorem pd_23 : parseMethodDescriptor "(Ljava/lang/String;Ljava/lang/String;)V" = some ⟨[(.object "java/lang/String"), (.object "java/lang/String")], none⟩ := by decide +kernel
theorem own_EW {Z : State} {a0 : Array Value} (hw : ∀ d ∈ tables_1, d.before a0 Z = true) : EW Z a0 [] := EW.nil
def own_L (c : Int32) : Prop := c = 65 ∨ c = 66 ∨ c = 89 ∨ c = 90 ∨ c = 97 ∨ c = 98 ∨ c = 121 ∨ c = 122
def own_N (c : Int32) : Prop := c = 65 ∨ c = 97 ∨ c = 48 ∨ c = 57 ∨ c = 95 ∨ c = 45 ∨ c = 46 ∨ c = 122
def own_I (c : Int32) : Prop := ¬ c < 32 ∧ ¬ 255 < c ∧ ¬ c = 127 ∧ ¬ c = 44 ∧ ¬ c = 47 ∧ ¬ c = 61 ∧ ¬ c = 92
instance (c : Int32) : Decidable (own_I c) := by unfold own_I; infer_instance
def own_bytes (l a b : Int32) : List Int32 := if l = 1 then [nar .byte a] else [nar .byte a, nar .byte b]
theorem own_Lp {c : Int32} (h : own_L c) : 0 ≤ c.toInt ∧ (¬ 255 < c) ∧ nar .char c = c ∧ ((¬ c < 65 ∧ ¬ 90 < c) ∨ (¬ c < 97 ∧ ¬ 122 < c)) := by rcases h with rfl | rfl | rfl | rfl | rfl | rfl | rfl | rfl <;> decide
theorem own_Np {c : Int32} (h : own_N c) : 0 ≤ c.toInt ∧ (¬ 255 < c) ∧ nar .char c = c := by rcases h with rfl | rfl | rfl | rfl | rfl | rfl | rfl | rfl <;> decide
theorem own_Ip {c : Int32} (h : own_I c) : 0 ≤ c.toInt ∧ (¬ 255 < c) ∧ c < 55296 ∧ c < 65536 := by
  obtain ⟨h1, h2, -⟩ := h
  refine ⟨?_, h2, ?_, ?_⟩ <;> simp only [Int32.lt_iff_toInt_lt, show (32 : Int32).toInt = 32 from rfl, show (255 : Int32).toInt = 255 from rfl, show (55296 : Int32).toInt = 55296 from rfl, show (65536 : Int32).toInt = 65536 from rfl] at * <;> omega
theorem own_Id (v : Int32) (q0 : ¬ v &&& 255 < 32) (q1 : ¬ v &&& 255 = 127) (q2 : ¬ v &&& 255 = 44) (q3 : ¬ v &&& 255 = 47) (q4 : ¬ v &&& 255 = 61) (q5 : ¬ v &&& 255 = 92) : own_I (nar .char (nar .char (v &&& 255))) := by
  rw [ncc, nar_and]; exact ⟨q0, le255 v, q1, q2, q3, q4, q5⟩
theorem own_len (v : Int32) : (1 : Int32) + (v &&& (1 : Int32)) = 1 ∨ (1 : Int32) + (v &&& (1 : Int32)) = 2 := by rcases and1 v with e | e <;> rw [e] <;> decide
theorem own_if0 {p : Prop} [Decidable p] (h : (if p then (1 : Int32) else 0) = 0) : ¬ p := fun e => by rw [if_pos e] at h; exact absurd h (by decide)
theorem own_if1 {p : Prop} [Decidable p] (h : ¬ (if p then (1 : Int32) else 0) = 0) : p := Classical.byContradiction fun e => h (if_neg e)
theorem own_sF {Z : State} {h : Heap} {a x y t u : Addr} {C n d : String} {p q : List Int32} (F : Fld Z h a C n d (.ref x)) (G : Fld Z h a C n d (.ref y)) (S : StrL Z h x t 0 p) (T : StrL Z h y u 0 q) : p = q := by
  have e : x = y := Classical.byContradiction fun z => absurd rfl (Fld.ne F G fun w => z (Value.ref.inj w))
  subst e; exact S.same T
theorem own_sbz {l a b m c d : Int32} (a0 : 0 ≤ a.toInt) (a1 : ¬ 255 < a) (b0 : 0 ≤ b.toInt) (b1 : ¬ 255 < b) (c0 : 0 ≤ c.toInt) (c1 : ¬ 255 < c) (d0 : 0 ≤ d.toInt) (d1 : ¬ 255 < d) (hl : l = 1 ∨ l = 2) (hm : m = 1 ∨ m = 2) : own_bytes l a b = own_bytes m c d ↔ (l = m ∧ a = c ∧ (l = 1 ∨ b = d)) := by
  have e1 : nar .byte a = nar .byte c ↔ a = c := ⟨nb_inj a0 a1 c0 c1, fun e => by rw [e]⟩
  have e2 : nar .byte b = nar .byte d ↔ b = d := ⟨nb_inj b0 b1 d0 d1, fun e => by rw [e]⟩
  have d3 : ¬ ((1 : Int32) = 2) := by decide
  have d4 : ¬ ((2 : Int32) = 1) := by decide
  rcases hl with rfl | rfl <;> rcases hm with rfl | rfl <;> simp [own_bytes, e1, e2, d3, d4]
theorem own_sb {l a b m c d : Int32} (ha : own_L a) (hb : own_N b) (hc : own_L c) (hd : own_N d) (hl : l = 1 ∨ l = 2) (hm : m = 1 ∨ m = 2) : own_bytes l a b = own_bytes m c d ↔ (l = m ∧ a = c ∧ (l = 1 ∨ b = d)) := own_sbz (own_Lp ha).1 (own_Lp ha).2.1 (own_Np hb).1 (own_Np hb).2.1 (own_Lp hc).1 (own_Lp hc).2.1 (own_Np hd).1 (own_Np hd).2.1 hl hm
theorem own_sbI {l a b m c d : Int32} (ha : own_I a) (hb : own_I b) (hc : own_I c) (hd : own_I d) (hl : l = 1 ∨ l = 2) (hm : m = 1 ∨ m = 2) : own_bytes l a b = own_bytes m c d ↔ (l = m ∧ a = c ∧ (l = 1 ∨ b = d)) := own_sbz (own_Ip ha).1 (own_Ip ha).2.1 (own_Ip hb).1 (own_Ip hb).2.1 (own_Ip hc).1 (own_Ip hc).2.1 (own_Ip hd).1 (own_Ip hd).2.1 hl hm
theorem own_no {Z : State} {a0 : Array Value} (hw : ∀ d ∈ tables_1, d.before a0 Z = true) : ∃ c t, Z.vm.findClass "java/lang/String" = some c ∧ Z.vm.findClass "com/example/lucioles/lucioles/model/Rdn" = some t ∧ Z.vm.assignable c t = false := ns_no (tw hw 151 rfl) (tw hw 40 rfl) (NS.step (tw hw 151 rfl) (ns_root (tw hw 152 rfl) (tw hw 40 rfl) (by decide)) (by decide)) (by decide)
theorem own_sA {Z : State} {a0 : Array Value} (hw : ∀ d ∈ tables_1, d.before a0 Z = true) : ∀ a ∈ Bundle.stringAtoms, a.before a0 Z = true := by
  intro a ha
  simp only [Bundle.stringAtoms, List.mem_cons, List.not_mem_nil, or_false] at ha
  rcases ha with rfl | rfl | rfl | rfl | rfl | rfl | rfl
  · exact (tw hw 15 rfl)
  · exact (tw hw 23 rfl)
  · exact (tw hw 27 rfl)
  · exact (tw hw 36 rfl)
  · exact (tw hw 38 rfl)
  · exact (tw hw 50 rfl)
  · exact (tw hw 51 rfl)
theorem efP (m : MethodId) (x0 : Int32) : entryFrame m #[(.int x0)] 2 = mkF m 0 #[.val (.int x0), .unset] [] := by first | (simp [entryFrame, mkF, argsToLocals, Value.category]; done) | rfl
theorem efP2 (m : MethodId) (x0 : Int32) : entryFrame m #[(.int x0)] 2 = mkF m 0 #[.val (.int x0), .unset] [] := by first | (simp [entryFrame, mkF, argsToLocals, Value.category]; done) | rfl
theorem efP3 (m : MethodId) (x0 : Int32) : entryFrame m #[(.int x0)] 2 = mkF m 0 #[.val (.int x0), .unset] [] := by first | (simp [entryFrame, mkF, argsToLocals, Value.category]; done) | rfl
theorem efM (m : MethodId) (x0 : Int32) (x1 : Int32) (x2 : Int32) : entryFrame m #[(.int x0), (.int x1), (.int x2)] 3 = mkF m 0 #[.val (.int x0), .val (.int x1), .val (.int x2)] [] := by first | (simp [entryFrame, mkF, argsToLocals, Value.category]; done) | rfl
theorem efNN (m : MethodId) (x0 : Addr) (x1 : Addr) : entryFrame m #[(.ref x0), (.ref x1)] 2 = mkF m 0 #[.val (.ref x0), .val (.ref x1)] [] := by first | (simp [entryFrame, mkF, argsToLocals, Value.category]; done) | rfl
theorem efAL (m : MethodId) (x0 : Int32) : entryFrame m #[(.int x0)] 1 = mkF m 0 #[.val (.int x0)] [] := by first | (simp [entryFrame, mkF, argsToLocals, Value.category]; done) | rfl
theorem efAC (m : MethodId) (x0 : Int32) : entryFrame m #[(.int x0)] 1 = mkF m 0 #[.val (.int x0)] [] := by first | (simp [entryFrame, mkF, argsToLocals, Value.category]; done) | rfl
theorem efCC (m : MethodId) (x0 : Int32) : entryFrame m #[(.int x0)] 1 = mkF m 0 #[.val (.int x0)] [] := by first | (simp [entryFrame, mkF, argsToLocals, Value.category]; done) | rfl
theorem efCN (m : MethodId) (x0 : Addr) : entryFrame m #[(.ref x0)] 3 = mkF m 0 #[.val (.ref x0), .unset, .unset] [] := by first | (simp [entryFrame, mkF, argsToLocals, Value.category]; done) | rfl
theorem efCI (m : MethodId) (x0 : Addr) : entryFrame m #[(.ref x0)] 3 = mkF m 0 #[.val (.ref x0), .unset, .unset] [] := by first | (simp [entryFrame, mkF, argsToLocals, Value.category]; done) | rfl
theorem efI (m : MethodId) (x0 : Addr) (x1 : Addr) (x2 : Addr) : entryFrame m #[(.ref x0), (.ref x1), (.ref x2)] 3 = mkF m 0 #[.val (.ref x0), .val (.ref x1), .val (.ref x2)] [] := by first | (simp [entryFrame, mkF, argsToLocals, Value.category]; done) | rfl
theorem efE (m : MethodId) (x0 : Addr) (x1 : Addr) : entryFrame m #[(.ref x0), (.ref x1)] 3 = mkF m 0 #[.val (.ref x0), .val (.ref x1), .unset] [] := by first | (simp [entryFrame, mkF, argsToLocals, Value.category]; done) | rfl
theorem efEn (m : MethodId) (x0 : Addr) : entryFrame m #[(.ref x0), .null] 3 = mkF m 0 #[.val (.ref x0), .val .null, .unset] [] := by first | (simp [entryFrame, mkF, argsToLocals, Value.category]; done) | rfl
theorem ef0 (m : MethodId) (x0 : Int32) (x1 : Int32) (x2 : Int32) (x3 : Int32) (x4 : Int32) : entryFrame m #[(.int x0), (.int x1), (.int x2), (.int x3), (.int x4)] maxLocals = mkF m 0 #[.val (.int x0), .val (.int x1), .val (.int x2), .val (.int x3), .val (.int x4), .unset, .unset, .unset, .unset, .unset, .unset, .unset, .unset, .unset, .unset, .unset, .unset, .unset, .unset, .unset, .unset, .unset, .unset, .unset, .unset, .unset, .unset] [] := by first | (simp [entryFrame, mkF, argsToLocals, Value.category, maxLocals]; done) | rfl
theorem d32_0 : Dc jdk_52_method_21_code 0 (.iconst 0) 1 1 := ⟨by decide +kernel, rfl⟩
theorem d32_1 : Dc jdk_52_method_21_code 1 (.istore 5) 2 3 := ⟨by decide +kernel, rfl⟩
theorem d32_3 : Dc jdk_52_method_21_code 3 (.iload 5) 2 5 := ⟨by decide +kernel, rfl⟩
theorem d32_5 : Dc jdk_52_method_21_code 5 (.iload 4) 2 7 := ⟨by decide +kernel, rfl⟩
theorem d32_7 : Dc jdk_52_method_21_code 7 (.if_icmp .ge 37) 3 10 := ⟨by decide +kernel, rfl⟩
theorem d32_7t : Tg 7 (37) 44 := ⟨by decide, by decide⟩
theorem d32_10 : Dc jdk_52_method_21_code 10 (.aload_n 0) 1 11 := ⟨by decide +kernel, rfl⟩
theorem d32_11 : Dc jdk_52_method_21_code 11 (.iload_n 1) 1 12 := ⟨by decide +kernel, rfl⟩
theorem d32_12 : Dc jdk_52_method_21_code 12 .caload 1 13 := ⟨by decide +kernel, rfl⟩
theorem d32_13 : Dc jdk_52_method_21_code 13 (.istore 6) 2 15 := ⟨by decide +kernel, rfl⟩
theorem d32_15 : Dc jdk_52_method_21_code 15 (.iload 6) 2 17 := ⟨by decide +kernel, rfl⟩
theorem d32_17 : Dc jdk_52_method_21_code 17 (.sipush 255) 3 20 := ⟨by decide +kernel, rfl⟩
theorem d32_20 : Dc jdk_52_method_21_code 20 (.if_icmp .le 6) 3 23 := ⟨by decide +kernel, rfl⟩
theorem d32_20t : Tg 20 (6) 26 := ⟨by decide, by decide⟩
theorem d32_23 : Dc jdk_52_method_21_code 23 (.iload 5) 2 25 := ⟨by decide +kernel, rfl⟩
theorem d32_25 : Dc jdk_52_method_21_code 25 .ireturn 1 26 := ⟨by decide +kernel, rfl⟩
theorem d32_26 : Dc jdk_52_method_21_code 26 (.aload_n 2) 1 27 := ⟨by decide +kernel, rfl⟩
theorem d32_27 : Dc jdk_52_method_21_code 27 (.iload_n 3) 1 28 := ⟨by decide +kernel, rfl⟩
theorem d32_28 : Dc jdk_52_method_21_code 28 (.iload 6) 2 30 := ⟨by decide +kernel, rfl⟩
theorem d32_30 : Dc jdk_52_method_21_code 30 .i2b 1 31 := ⟨by decide +kernel, rfl⟩
theorem d32_31 : Dc jdk_52_method_21_code 31 .bastore 1 32 := ⟨by decide +kernel, rfl⟩
theorem d32_32 : Dc jdk_52_method_21_code 32 (.iinc 1 1) 3 35 := ⟨by decide +kernel, rfl⟩
theorem d32_35 : Dc jdk_52_method_21_code 35 (.iinc 3 1) 3 38 := ⟨by decide +kernel, rfl⟩
theorem d32_38 : Dc jdk_52_method_21_code 38 (.iinc 5 1) 3 41 := ⟨by decide +kernel, rfl⟩
theorem d32_41 : Dc jdk_52_method_21_code 41 (.goto (-38)) 3 44 := ⟨by decide +kernel, rfl⟩
theorem d32_41t : Tg 41 (-38) 3 := ⟨by decide, by decide⟩
theorem d32_44 : Dc jdk_52_method_21_code 44 (.iload 4) 2 46 := ⟨by decide +kernel, rfl⟩
theorem d32_46 : Dc jdk_52_method_21_code 46 .ireturn 1 47 := ⟨by decide +kernel, rfl⟩
theorem d31_0 : Dc jdk_52_method_16_code 0 (.iload_n 2) 1 1 := ⟨by decide +kernel, rfl⟩
theorem d31_1 : Dc jdk_52_method_16_code 1 (.newarray .byte) 2 3 := ⟨by decide +kernel, rfl⟩
theorem d31_3 : Dc jdk_52_method_16_code 3 (.astore_n 3) 1 4 := ⟨by decide +kernel, rfl⟩
theorem d31_4 : Dc jdk_52_method_16_code 4 (.aload_n 0) 1 5 := ⟨by decide +kernel, rfl⟩
theorem d31_5 : Dc jdk_52_method_16_code 5 (.iload_n 1) 1 6 := ⟨by decide +kernel, rfl⟩
theorem d31_6 : Dc jdk_52_method_16_code 6 (.aload_n 3) 1 7 := ⟨by decide +kernel, rfl⟩
theorem d31_7 : Dc jdk_52_method_16_code 7 (.iconst 0) 1 8 := ⟨by decide +kernel, rfl⟩
theorem d31_8 : Dc jdk_52_method_16_code 8 (.iload_n 2) 1 9 := ⟨by decide +kernel, rfl⟩
theorem d31_9 : Dc jdk_52_method_16_code 9 (.invokestatic 115) 3 12 := ⟨by decide +kernel, rfl⟩
theorem d31_12 : Dc jdk_52_method_16_code 12 (.istore 4) 2 14 := ⟨by decide +kernel, rfl⟩
theorem d31_14 : Dc jdk_52_method_16_code 14 (.iload 4) 2 16 := ⟨by decide +kernel, rfl⟩
theorem d31_16 : Dc jdk_52_method_16_code 16 (.iload_n 2) 1 17 := ⟨by decide +kernel, rfl⟩
theorem d31_17 : Dc jdk_52_method_16_code 17 (.if_icmp .eq 40) 3 20 := ⟨by decide +kernel, rfl⟩
theorem d31_17t : Tg 17 (40) 57 := ⟨by decide, by decide⟩
theorem d31_20 : Dc jdk_52_method_16_code 20 (.aload_n 0) 1 21 := ⟨by decide +kernel, rfl⟩
theorem d31_21 : Dc jdk_52_method_16_code 21 (.iload_n 1) 1 22 := ⟨by decide +kernel, rfl⟩
theorem d31_22 : Dc jdk_52_method_16_code 22 (.iload_n 2) 1 23 := ⟨by decide +kernel, rfl⟩
theorem d31_23 : Dc jdk_52_method_16_code 23 (.invokestatic 119) 3 26 := ⟨by decide +kernel, rfl⟩
theorem d31_26 : Dc jdk_52_method_16_code 26 (.astore 5) 2 28 := ⟨by decide +kernel, rfl⟩
theorem d31_28 : Dc jdk_52_method_16_code 28 (.aload 5) 2 30 := ⟨by decide +kernel, rfl⟩
theorem d31_30 : Dc jdk_52_method_16_code 30 (.iload 4) 2 32 := ⟨by decide +kernel, rfl⟩
theorem d31_32 : Dc jdk_52_method_16_code 32 (.invokestatic 71) 3 35 := ⟨by decide +kernel, rfl⟩
theorem d31_35 : Dc jdk_52_method_16_code 35 (.sipush 255) 3 38 := ⟨by decide +kernel, rfl⟩
theorem d31_38 : Dc jdk_52_method_16_code 38 (.if_icmp .gt 16) 3 41 := ⟨by decide +kernel, rfl⟩
theorem d31_38t : Tg 38 (16) 54 := ⟨by decide, by decide⟩
theorem d31_41 : Dc jdk_52_method_16_code 41 (.aload 5) 2 43 := ⟨by decide +kernel, rfl⟩
theorem d31_43 : Dc jdk_52_method_16_code 43 (.iconst 0) 1 44 := ⟨by decide +kernel, rfl⟩
theorem d31_44 : Dc jdk_52_method_16_code 44 (.aload_n 3) 1 45 := ⟨by decide +kernel, rfl⟩
theorem d31_45 : Dc jdk_52_method_16_code 45 (.iconst 0) 1 46 := ⟨by decide +kernel, rfl⟩
theorem d31_46 : Dc jdk_52_method_16_code 46 (.iload_n 2) 1 47 := ⟨by decide +kernel, rfl⟩
theorem d31_47 : Dc jdk_52_method_16_code 47 (.invokestatic 123) 3 50 := ⟨by decide +kernel, rfl⟩
theorem d31_50 : Dc jdk_52_method_16_code 50 (.iload_n 2) 1 51 := ⟨by decide +kernel, rfl⟩
theorem d31_51 : Dc jdk_52_method_16_code 51 (.if_icmp .eq 6) 3 54 := ⟨by decide +kernel, rfl⟩
theorem d31_51t : Tg 51 (6) 57 := ⟨by decide, by decide⟩
theorem d31_54 : Dc jdk_52_method_16_code 54 (.aload 5) 2 56 := ⟨by decide +kernel, rfl⟩
theorem d31_56 : Dc jdk_52_method_16_code 56 .areturn 1 57 := ⟨by decide +kernel, rfl⟩
theorem d31_57 : Dc jdk_52_method_16_code 57 (.aload_n 3) 1 58 := ⟨by decide +kernel, rfl⟩
theorem d31_58 : Dc jdk_52_method_16_code 58 .areturn 1 59 := ⟨by decide +kernel, rfl⟩
theorem d33_0 : Dc jdk_52_method_15_code 0 (.iload_n 1) 1 1 := ⟨by decide +kernel, rfl⟩
theorem d33_1 : Dc jdk_52_method_15_code 1 (.aload_n 0) 1 2 := ⟨by decide +kernel, rfl⟩
theorem d33_2 : Dc jdk_52_method_15_code 2 .arraylength 1 3 := ⟨by decide +kernel, rfl⟩
theorem d33_3 : Dc jdk_52_method_15_code 3 .isub 1 4 := ⟨by decide +kernel, rfl⟩
theorem d33_4 : Dc jdk_52_method_15_code 4 (.bipush 31) 2 6 := ⟨by decide +kernel, rfl⟩
theorem d33_6 : Dc jdk_52_method_15_code 6 .iushr 1 7 := ⟨by decide +kernel, rfl⟩
theorem d33_7 : Dc jdk_52_method_15_code 7 .i2b 1 8 := ⟨by decide +kernel, rfl⟩
theorem d33_8 : Dc jdk_52_method_15_code 8 .ireturn 1 9 := ⟨by decide +kernel, rfl⟩
theorem d30_0 : Dc jdk_42_method_149_code 0 (.aload_n 0) 1 1 := ⟨by decide +kernel, rfl⟩
theorem d30_1 : Dc jdk_42_method_149_code 1 (.invokespecial 1) 3 4 := ⟨by decide +kernel, rfl⟩
theorem d30_4 : Dc jdk_42_method_149_code 4 (.iload_n 3) 1 5 := ⟨by decide +kernel, rfl⟩
theorem d30_5 : Dc jdk_42_method_149_code 5 (.ifCond .ne 22) 3 8 := ⟨by decide +kernel, rfl⟩
theorem d30_5t : Tg 5 (22) 27 := ⟨by decide, by decide⟩
theorem d30_8 : Dc jdk_42_method_149_code 8 (.aload_n 0) 1 9 := ⟨by decide +kernel, rfl⟩
theorem d30_9 : Dc jdk_42_method_149_code 9 (.ldc 7) 2 11 := ⟨by decide +kernel, rfl⟩
theorem d30_11 : Dc jdk_42_method_149_code 11 (.getfield 9) 3 14 := ⟨by decide +kernel, rfl⟩
theorem d30_14 : Dc jdk_42_method_149_code 14 (.putfield 9) 3 17 := ⟨by decide +kernel, rfl⟩
theorem d30_17 : Dc jdk_42_method_149_code 17 (.aload_n 0) 1 18 := ⟨by decide +kernel, rfl⟩
theorem d30_18 : Dc jdk_42_method_149_code 18 (.ldc 7) 2 20 := ⟨by decide +kernel, rfl⟩
theorem d30_20 : Dc jdk_42_method_149_code 20 (.getfield 15) 3 23 := ⟨by decide +kernel, rfl⟩
theorem d30_23 : Dc jdk_42_method_149_code 23 (.putfield 15) 3 26 := ⟨by decide +kernel, rfl⟩
theorem d30_26 : Dc jdk_42_method_149_code 26 .return_ 1 27 := ⟨by decide +kernel, rfl⟩
theorem d30_27 : Dc jdk_42_method_149_code 27 (.getstatic 38) 3 30 := ⟨by decide +kernel, rfl⟩
theorem d30_30 : Dc jdk_42_method_149_code 30 (.ifCond .eq 28) 3 33 := ⟨by decide +kernel, rfl⟩
theorem d30_30t : Tg 30 (28) 58 := ⟨by decide, by decide⟩
theorem d30_33 : Dc jdk_42_method_149_code 33 (.aload_n 1) 1 34 := ⟨by decide +kernel, rfl⟩
theorem d30_34 : Dc jdk_42_method_149_code 34 (.iload_n 2) 1 35 := ⟨by decide +kernel, rfl⟩
theorem d30_35 : Dc jdk_42_method_149_code 35 (.iload_n 3) 1 36 := ⟨by decide +kernel, rfl⟩
theorem d30_36 : Dc jdk_42_method_149_code 36 (.invokestatic 177) 3 39 := ⟨by decide +kernel, rfl⟩
theorem d30_39 : Dc jdk_42_method_149_code 39 (.astore 5) 2 41 := ⟨by decide +kernel, rfl⟩
theorem d30_41 : Dc jdk_42_method_149_code 41 (.aload_n 0) 1 42 := ⟨by decide +kernel, rfl⟩
theorem d30_42 : Dc jdk_42_method_149_code 42 (.aload 5) 2 44 := ⟨by decide +kernel, rfl⟩
theorem d30_44 : Dc jdk_42_method_149_code 44 (.iload_n 3) 1 45 := ⟨by decide +kernel, rfl⟩
theorem d30_45 : Dc jdk_42_method_149_code 45 (.invokestatic 47) 3 48 := ⟨by decide +kernel, rfl⟩
theorem d30_48 : Dc jdk_42_method_149_code 48 (.putfield 15) 3 51 := ⟨by decide +kernel, rfl⟩
theorem d30_51 : Dc jdk_42_method_149_code 51 (.aload_n 0) 1 52 := ⟨by decide +kernel, rfl⟩
theorem d30_52 : Dc jdk_42_method_149_code 52 (.aload 5) 2 54 := ⟨by decide +kernel, rfl⟩
theorem d30_54 : Dc jdk_42_method_149_code 54 (.putfield 9) 3 57 := ⟨by decide +kernel, rfl⟩
theorem d30_57 : Dc jdk_42_method_149_code 57 .return_ 1 58 := ⟨by decide +kernel, rfl⟩
theorem d30_58 : Dc jdk_42_method_149_code 58 (.aload_n 0) 1 59 := ⟨by decide +kernel, rfl⟩
theorem d30_59 : Dc jdk_42_method_149_code 59 (.iconst 1) 1 60 := ⟨by decide +kernel, rfl⟩
theorem d30_60 : Dc jdk_42_method_149_code 60 (.putfield 15) 3 63 := ⟨by decide +kernel, rfl⟩
theorem d30_63 : Dc jdk_42_method_149_code 63 (.aload_n 0) 1 64 := ⟨by decide +kernel, rfl⟩
theorem d30_64 : Dc jdk_42_method_149_code 64 (.aload_n 1) 1 65 := ⟨by decide +kernel, rfl⟩
theorem d30_65 : Dc jdk_42_method_149_code 65 (.iload_n 2) 1 66 := ⟨by decide +kernel, rfl⟩
theorem d30_66 : Dc jdk_42_method_149_code 66 (.iload_n 3) 1 67 := ⟨by decide +kernel, rfl⟩
theorem d30_67 : Dc jdk_42_method_149_code 67 (.invokestatic 180) 3 70 := ⟨by decide +kernel, rfl⟩
theorem d30_70 : Dc jdk_42_method_149_code 70 (.putfield 9) 3 73 := ⟨by decide +kernel, rfl⟩
theorem d30_73 : Dc jdk_42_method_149_code 73 .return_ 1 74 := ⟨by decide +kernel, rfl⟩
theorem d29_0 : Dc jdk_42_method_3_code 0 (.aload_n 0) 1 1 := ⟨by decide +kernel, rfl⟩
theorem d29_1 : Dc jdk_42_method_3_code 1 (.aload_n 1) 1 2 := ⟨by decide +kernel, rfl⟩
theorem d29_2 : Dc jdk_42_method_3_code 2 (.iconst 0) 1 3 := ⟨by decide +kernel, rfl⟩
theorem d29_3 : Dc jdk_42_method_3_code 3 (.aload_n 1) 1 4 := ⟨by decide +kernel, rfl⟩
theorem d29_4 : Dc jdk_42_method_3_code 4 .arraylength 1 5 := ⟨by decide +kernel, rfl⟩
theorem d29_5 : Dc jdk_42_method_3_code 5 .aconst_null 1 6 := ⟨by decide +kernel, rfl⟩
theorem d29_6 : Dc jdk_42_method_3_code 6 (.invokespecial 27) 3 9 := ⟨by decide +kernel, rfl⟩
theorem d29_9 : Dc jdk_42_method_3_code 9 .return_ 1 10 := ⟨by decide +kernel, rfl⟩
theorem d6_0 : Dc jdk_43_method_3_code 0 (.iload_n 0) 1 1 := ⟨by decide +kernel, rfl⟩
theorem d6_1 : Dc jdk_43_method_3_code 1 (.sipush 255) 3 4 := ⟨by decide +kernel, rfl⟩
theorem d6_4 : Dc jdk_43_method_3_code 4 (.if_icmp .gt 7) 3 7 := ⟨by decide +kernel, rfl⟩
theorem d6_4t : Tg 4 (7) 11 := ⟨by decide, by decide⟩
theorem d6_7 : Dc jdk_43_method_3_code 7 (.iconst 1) 1 8 := ⟨by decide +kernel, rfl⟩
theorem d6_8 : Dc jdk_43_method_3_code 8 (.goto 4) 3 11 := ⟨by decide +kernel, rfl⟩
theorem d6_8t : Tg 8 (4) 12 := ⟨by decide, by decide⟩
theorem d6_11 : Dc jdk_43_method_3_code 11 (.iconst 0) 1 12 := ⟨by decide +kernel, rfl⟩
theorem d6_12 : Dc jdk_43_method_3_code 12 .ireturn 1 13 := ⟨by decide +kernel, rfl⟩
theorem d7_0 : Dc jdk_43_method_46_code 0 (.iconst 1) 1 1 := ⟨by decide +kernel, rfl⟩
theorem d7_1 : Dc jdk_43_method_46_code 1 (.newarray .byte) 2 3 := ⟨by decide +kernel, rfl⟩
theorem d7_3 : Dc jdk_43_method_46_code 3 .dup 1 4 := ⟨by decide +kernel, rfl⟩
theorem d7_4 : Dc jdk_43_method_46_code 4 (.iconst 0) 1 5 := ⟨by decide +kernel, rfl⟩
theorem d7_5 : Dc jdk_43_method_46_code 5 (.iload_n 0) 1 6 := ⟨by decide +kernel, rfl⟩
theorem d7_6 : Dc jdk_43_method_46_code 6 .i2b 1 7 := ⟨by decide +kernel, rfl⟩
theorem d7_7 : Dc jdk_43_method_46_code 7 .bastore 1 8 := ⟨by decide +kernel, rfl⟩
theorem d7_8 : Dc jdk_43_method_46_code 8 .areturn 1 9 := ⟨by decide +kernel, rfl⟩
theorem d8_0 : Dc jdk_42_method_151_code 0 (.aload_n 0) 1 1 := ⟨by decide +kernel, rfl⟩
theorem d8_1 : Dc jdk_42_method_151_code 1 (.invokespecial 1) 3 4 := ⟨by decide +kernel, rfl⟩
theorem d8_4 : Dc jdk_42_method_151_code 4 (.aload_n 0) 1 5 := ⟨by decide +kernel, rfl⟩
theorem d8_5 : Dc jdk_42_method_151_code 5 (.aload_n 1) 1 6 := ⟨by decide +kernel, rfl⟩
theorem d8_6 : Dc jdk_42_method_151_code 6 (.putfield 9) 3 9 := ⟨by decide +kernel, rfl⟩
theorem d8_9 : Dc jdk_42_method_151_code 9 (.aload_n 0) 1 10 := ⟨by decide +kernel, rfl⟩
theorem d8_10 : Dc jdk_42_method_151_code 10 (.iload_n 2) 1 11 := ⟨by decide +kernel, rfl⟩
theorem d8_11 : Dc jdk_42_method_151_code 11 (.putfield 15) 3 14 := ⟨by decide +kernel, rfl⟩
theorem d8_14 : Dc jdk_42_method_151_code 14 .return_ 1 15 := ⟨by decide +kernel, rfl⟩
theorem d5_0 : Dc jdk_42_method_139_code 0 (.getstatic 38) 3 3 := ⟨by decide +kernel, rfl⟩
theorem d5_3 : Dc jdk_42_method_139_code 3 (.ifCond .eq 23) 3 6 := ⟨by decide +kernel, rfl⟩
theorem d5_3t : Tg 3 (23) 26 := ⟨by decide, by decide⟩
theorem d5_6 : Dc jdk_42_method_139_code 6 (.iload_n 0) 1 7 := ⟨by decide +kernel, rfl⟩
theorem d5_7 : Dc jdk_42_method_139_code 7 (.invokestatic 1015) 3 10 := ⟨by decide +kernel, rfl⟩
theorem d5_10 : Dc jdk_42_method_139_code 10 (.ifCond .eq 16) 3 13 := ⟨by decide +kernel, rfl⟩
theorem d5_10t : Tg 10 (16) 26 := ⟨by decide, by decide⟩
theorem d5_13 : Dc jdk_42_method_139_code 13 (.new 10) 3 16 := ⟨by decide +kernel, rfl⟩
theorem d5_16 : Dc jdk_42_method_139_code 16 .dup 1 17 := ⟨by decide +kernel, rfl⟩
theorem d5_17 : Dc jdk_42_method_139_code 17 (.iload_n 0) 1 18 := ⟨by decide +kernel, rfl⟩
theorem d5_18 : Dc jdk_42_method_139_code 18 (.invokestatic 1018) 3 21 := ⟨by decide +kernel, rfl⟩
theorem d5_21 : Dc jdk_42_method_139_code 21 (.iconst 0) 1 22 := ⟨by decide +kernel, rfl⟩
theorem d5_22 : Dc jdk_42_method_139_code 22 (.invokespecial 209) 3 25 := ⟨by decide +kernel, rfl⟩
theorem d5_25 : Dc jdk_42_method_139_code 25 .areturn 1 26 := ⟨by decide +kernel, rfl⟩
theorem d5_26 : Dc jdk_42_method_139_code 26 (.new 10) 3 29 := ⟨by decide +kernel, rfl⟩
theorem d5_29 : Dc jdk_42_method_139_code 29 .dup 1 30 := ⟨by decide +kernel, rfl⟩
theorem d5_30 : Dc jdk_42_method_139_code 30 (.iload_n 0) 1 31 := ⟨by decide +kernel, rfl⟩
theorem d5_31 : Dc jdk_42_method_139_code 31 (.invokestatic 1021) 3 34 := ⟨by decide +kernel, rfl⟩
theorem d5_34 : Dc jdk_42_method_139_code 34 (.iconst 1) 1 35 := ⟨by decide +kernel, rfl⟩
theorem d5_35 : Dc jdk_42_method_139_code 35 (.invokespecial 209) 3 38 := ⟨by decide +kernel, rfl⟩
theorem d5_38 : Dc jdk_42_method_139_code 38 .areturn 1 39 := ⟨by decide +kernel, rfl⟩
theorem d28_0 : Dc jdk_43_method_13_code 0 (.aload_n 0) 1 1 := ⟨by decide +kernel, rfl⟩
theorem d28_1 : Dc jdk_43_method_13_code 1 .arraylength 1 2 := ⟨by decide +kernel, rfl⟩
theorem d28_2 : Dc jdk_43_method_13_code 2 (.aload_n 1) 1 3 := ⟨by decide +kernel, rfl⟩
theorem d28_3 : Dc jdk_43_method_13_code 3 .arraylength 1 4 := ⟨by decide +kernel, rfl⟩
theorem d28_4 : Dc jdk_43_method_13_code 4 (.if_icmp .ne 30) 3 7 := ⟨by decide +kernel, rfl⟩
theorem d28_4t : Tg 4 (30) 34 := ⟨by decide, by decide⟩
theorem d28_7 : Dc jdk_43_method_13_code 7 (.iconst 0) 1 8 := ⟨by decide +kernel, rfl⟩
theorem d28_8 : Dc jdk_43_method_13_code 8 (.istore_n 2) 1 9 := ⟨by decide +kernel, rfl⟩
theorem d28_9 : Dc jdk_43_method_13_code 9 (.iload_n 2) 1 10 := ⟨by decide +kernel, rfl⟩
theorem d28_10 : Dc jdk_43_method_13_code 10 (.aload_n 0) 1 11 := ⟨by decide +kernel, rfl⟩
theorem d28_11 : Dc jdk_43_method_13_code 11 .arraylength 1 12 := ⟨by decide +kernel, rfl⟩
theorem d28_12 : Dc jdk_43_method_13_code 12 (.if_icmp .ge 20) 3 15 := ⟨by decide +kernel, rfl⟩
theorem d28_12t : Tg 12 (20) 32 := ⟨by decide, by decide⟩
theorem d28_15 : Dc jdk_43_method_13_code 15 (.aload_n 0) 1 16 := ⟨by decide +kernel, rfl⟩
theorem d28_16 : Dc jdk_43_method_13_code 16 (.iload_n 2) 1 17 := ⟨by decide +kernel, rfl⟩
theorem d28_17 : Dc jdk_43_method_13_code 17 .baload 1 18 := ⟨by decide +kernel, rfl⟩
theorem d28_18 : Dc jdk_43_method_13_code 18 (.aload_n 1) 1 19 := ⟨by decide +kernel, rfl⟩
theorem d28_19 : Dc jdk_43_method_13_code 19 (.iload_n 2) 1 20 := ⟨by decide +kernel, rfl⟩
theorem d28_20 : Dc jdk_43_method_13_code 20 .baload 1 21 := ⟨by decide +kernel, rfl⟩
theorem d28_21 : Dc jdk_43_method_13_code 21 (.if_icmp .eq 5) 3 24 := ⟨by decide +kernel, rfl⟩
theorem d28_21t : Tg 21 (5) 26 := ⟨by decide, by decide⟩
theorem d28_24 : Dc jdk_43_method_13_code 24 (.iconst 0) 1 25 := ⟨by decide +kernel, rfl⟩
theorem d28_25 : Dc jdk_43_method_13_code 25 .ireturn 1 26 := ⟨by decide +kernel, rfl⟩
theorem d28_26 : Dc jdk_43_method_13_code 26 (.iinc 2 1) 3 29 := ⟨by decide +kernel, rfl⟩
theorem d28_29 : Dc jdk_43_method_13_code 29 (.goto (-20)) 3 32 := ⟨by decide +kernel, rfl⟩
theorem d28_29t : Tg 29 (-20) 9 := ⟨by decide, by decide⟩
theorem d28_32 : Dc jdk_43_method_13_code 32 (.iconst 1) 1 33 := ⟨by decide +kernel, rfl⟩
theorem d28_33 : Dc jdk_43_method_13_code 33 .ireturn 1 34 := ⟨by decide +kernel, rfl⟩
theorem d28_34 : Dc jdk_43_method_13_code 34 (.iconst 0) 1 35 := ⟨by decide +kernel, rfl⟩
theorem d28_35 : Dc jdk_43_method_13_code 35 .ireturn 1 36 := ⟨by decide +kernel, rfl⟩
theorem d27_0 : Dc jdk_42_method_66_code 0 (.aload_n 0) 1 1 := ⟨by decide +kernel, rfl⟩
theorem d27_1 : Dc jdk_42_method_66_code 1 (.aload_n 1) 1 2 := ⟨by decide +kernel, rfl⟩
theorem d27_2 : Dc jdk_42_method_66_code 2 (.if_acmp .ne 5) 3 5 := ⟨by decide +kernel, rfl⟩
theorem d27_2t : Tg 2 (5) 7 := ⟨by decide, by decide⟩
theorem d27_5 : Dc jdk_42_method_66_code 5 (.iconst 1) 1 6 := ⟨by decide +kernel, rfl⟩
theorem d27_6 : Dc jdk_42_method_66_code 6 .ireturn 1 7 := ⟨by decide +kernel, rfl⟩
theorem d27_7 : Dc jdk_42_method_66_code 7 (.aload_n 1) 1 8 := ⟨by decide +kernel, rfl⟩
theorem d27_8 : Dc jdk_42_method_66_code 8 (.instanceof 10) 3 11 := ⟨by decide +kernel, rfl⟩
theorem d27_11 : Dc jdk_42_method_66_code 11 (.ifCond .eq 43) 3 14 := ⟨by decide +kernel, rfl⟩
theorem d27_11t : Tg 11 (43) 54 := ⟨by decide, by decide⟩
theorem d27_14 : Dc jdk_42_method_66_code 14 (.aload_n 1) 1 15 := ⟨by decide +kernel, rfl⟩
theorem d27_15 : Dc jdk_42_method_66_code 15 (.checkcast 10) 3 18 := ⟨by decide +kernel, rfl⟩
theorem d27_18 : Dc jdk_42_method_66_code 18 (.astore_n 2) 1 19 := ⟨by decide +kernel, rfl⟩
theorem d27_19 : Dc jdk_42_method_66_code 19 (.getstatic 38) 3 22 := ⟨by decide +kernel, rfl⟩
theorem d27_22 : Dc jdk_42_method_66_code 22 (.ifCond .eq 14) 3 25 := ⟨by decide +kernel, rfl⟩
theorem d27_22t : Tg 22 (14) 36 := ⟨by decide, by decide⟩
theorem d27_25 : Dc jdk_42_method_66_code 25 (.aload_n 0) 1 26 := ⟨by decide +kernel, rfl⟩
theorem d27_26 : Dc jdk_42_method_66_code 26 (.getfield 15) 3 29 := ⟨by decide +kernel, rfl⟩
theorem d27_29 : Dc jdk_42_method_66_code 29 (.aload_n 2) 1 30 := ⟨by decide +kernel, rfl⟩
theorem d27_30 : Dc jdk_42_method_66_code 30 (.getfield 15) 3 33 := ⟨by decide +kernel, rfl⟩
theorem d27_33 : Dc jdk_42_method_66_code 33 (.if_icmp .ne 21) 3 36 := ⟨by decide +kernel, rfl⟩
theorem d27_33t : Tg 33 (21) 54 := ⟨by decide, by decide⟩
theorem d27_36 : Dc jdk_42_method_66_code 36 (.aload_n 0) 1 37 := ⟨by decide +kernel, rfl⟩
theorem d27_37 : Dc jdk_42_method_66_code 37 (.getfield 9) 3 40 := ⟨by decide +kernel, rfl⟩
theorem d27_40 : Dc jdk_42_method_66_code 40 (.aload_n 2) 1 41 := ⟨by decide +kernel, rfl⟩
theorem d27_41 : Dc jdk_42_method_66_code 41 (.getfield 9) 3 44 := ⟨by decide +kernel, rfl⟩
theorem d27_44 : Dc jdk_42_method_66_code 44 (.invokestatic 541) 3 47 := ⟨by decide +kernel, rfl⟩
theorem d27_47 : Dc jdk_42_method_66_code 47 (.ifCond .eq 7) 3 50 := ⟨by decide +kernel, rfl⟩
theorem d27_47t : Tg 47 (7) 54 := ⟨by decide, by decide⟩
theorem d27_50 : Dc jdk_42_method_66_code 50 (.iconst 1) 1 51 := ⟨by decide +kernel, rfl⟩
theorem d27_51 : Dc jdk_42_method_66_code 51 (.goto 4) 3 54 := ⟨by decide +kernel, rfl⟩
theorem d27_51t : Tg 51 (4) 55 := ⟨by decide, by decide⟩
theorem d27_54 : Dc jdk_42_method_66_code 54 (.iconst 0) 1 55 := ⟨by decide +kernel, rfl⟩
theorem d27_55 : Dc jdk_42_method_66_code 55 .ireturn 1 56 := ⟨by decide +kernel, rfl⟩
theorem d13_0 : Dc jdk_42_method_55_code 0 (.aload_n 0) 1 1 := ⟨by decide +kernel, rfl⟩
theorem d13_1 : Dc jdk_42_method_55_code 1 (.getfield 9) 3 4 := ⟨by decide +kernel, rfl⟩
theorem d13_4 : Dc jdk_42_method_55_code 4 .arraylength 1 5 := ⟨by decide +kernel, rfl⟩
theorem d13_5 : Dc jdk_42_method_55_code 5 (.ifCond .ne 7) 3 8 := ⟨by decide +kernel, rfl⟩
theorem d13_5t : Tg 5 (7) 12 := ⟨by decide, by decide⟩
theorem d13_8 : Dc jdk_42_method_55_code 8 (.iconst 1) 1 9 := ⟨by decide +kernel, rfl⟩
theorem d13_9 : Dc jdk_42_method_55_code 9 (.goto 4) 3 12 := ⟨by decide +kernel, rfl⟩
theorem d13_9t : Tg 9 (4) 13 := ⟨by decide, by decide⟩
theorem d13_12 : Dc jdk_42_method_55_code 12 (.iconst 0) 1 13 := ⟨by decide +kernel, rfl⟩
theorem d13_13 : Dc jdk_42_method_55_code 13 .ireturn 1 14 := ⟨by decide +kernel, rfl⟩
theorem d21_0 : Dc jdk_42_method_152_code 0 (.getstatic 38) 3 3 := ⟨by decide +kernel, rfl⟩
theorem d21_3 : Dc jdk_42_method_152_code 3 (.ifCond .eq 10) 3 6 := ⟨by decide +kernel, rfl⟩
theorem d21_3t : Tg 3 (10) 13 := ⟨by decide, by decide⟩
theorem d21_6 : Dc jdk_42_method_152_code 6 (.aload_n 0) 1 7 := ⟨by decide +kernel, rfl⟩
theorem d21_7 : Dc jdk_42_method_152_code 7 (.getfield 15) 3 10 := ⟨by decide +kernel, rfl⟩
theorem d21_10 : Dc jdk_42_method_152_code 10 (.goto 4) 3 13 := ⟨by decide +kernel, rfl⟩
theorem d21_10t : Tg 10 (4) 14 := ⟨by decide, by decide⟩
theorem d21_13 : Dc jdk_42_method_152_code 13 (.iconst 1) 1 14 := ⟨by decide +kernel, rfl⟩
theorem d21_14 : Dc jdk_42_method_152_code 14 .ireturn 1 15 := ⟨by decide +kernel, rfl⟩
theorem d20_0 : Dc jdk_42_method_54_code 0 (.aload_n 0) 1 1 := ⟨by decide +kernel, rfl⟩
theorem d20_1 : Dc jdk_42_method_54_code 1 (.getfield 9) 3 4 := ⟨by decide +kernel, rfl⟩
theorem d20_4 : Dc jdk_42_method_54_code 4 .arraylength 1 5 := ⟨by decide +kernel, rfl⟩
theorem d20_5 : Dc jdk_42_method_54_code 5 (.aload_n 0) 1 6 := ⟨by decide +kernel, rfl⟩
theorem d20_6 : Dc jdk_42_method_54_code 6 (.invokevirtual 335) 3 9 := ⟨by decide +kernel, rfl⟩
theorem d20_9 : Dc jdk_42_method_54_code 9 .ishr 1 10 := ⟨by decide +kernel, rfl⟩
theorem d20_10 : Dc jdk_42_method_54_code 10 .ireturn 1 11 := ⟨by decide +kernel, rfl⟩
theorem d18_0 : Dc jdk_41_method_11_code 0 (.iload_n 0) 1 1 := ⟨by decide +kernel, rfl⟩
theorem d18_1 : Dc jdk_41_method_11_code 1 (.ifCond .lt 8) 3 4 := ⟨by decide +kernel, rfl⟩
theorem d18_1t : Tg 1 (8) 9 := ⟨by decide, by decide⟩
theorem d18_4 : Dc jdk_41_method_11_code 4 (.iload_n 0) 1 5 := ⟨by decide +kernel, rfl⟩
theorem d18_5 : Dc jdk_41_method_11_code 5 (.iload_n 1) 1 6 := ⟨by decide +kernel, rfl⟩
theorem d18_6 : Dc jdk_41_method_11_code 6 (.if_icmp .lt 10) 3 9 := ⟨by decide +kernel, rfl⟩
theorem d18_6t : Tg 6 (10) 16 := ⟨by decide, by decide⟩
theorem d18_9 : Dc jdk_41_method_11_code 9 (.aload_n 2) 1 10 := ⟨by decide +kernel, rfl⟩
theorem d18_10 : Dc jdk_41_method_11_code 10 (.iload_n 0) 1 11 := ⟨by decide +kernel, rfl⟩
theorem d18_11 : Dc jdk_41_method_11_code 11 (.iload_n 1) 1 12 := ⟨by decide +kernel, rfl⟩
theorem d18_12 : Dc jdk_41_method_11_code 12 (.invokestatic 95) 3 15 := ⟨by decide +kernel, rfl⟩
theorem d18_15 : Dc jdk_41_method_11_code 15 .athrow 1 16 := ⟨by decide +kernel, rfl⟩
theorem d18_16 : Dc jdk_41_method_11_code 16 (.iload_n 0) 1 17 := ⟨by decide +kernel, rfl⟩
theorem d18_17 : Dc jdk_41_method_11_code 17 .ireturn 1 18 := ⟨by decide +kernel, rfl⟩
theorem d17_0 : Dc jdk_42_method_155_code 0 (.iload_n 0) 1 1 := ⟨by decide +kernel, rfl⟩
theorem d17_1 : Dc jdk_42_method_155_code 1 (.iload_n 1) 1 2 := ⟨by decide +kernel, rfl⟩
theorem d17_2 : Dc jdk_42_method_155_code 2 (.getstatic 1053) 3 5 := ⟨by decide +kernel, rfl⟩
theorem d17_5 : Dc jdk_42_method_155_code 5 (.invokestatic 1059) 3 8 := ⟨by decide +kernel, rfl⟩
theorem d17_8 : Dc jdk_42_method_155_code 8 .pop 1 9 := ⟨by decide +kernel, rfl⟩
theorem d17_9 : Dc jdk_42_method_155_code 9 .return_ 1 10 := ⟨by decide +kernel, rfl⟩
theorem d15_0 : Dc jdk_42_method_154_code 0 (.getstatic 38) 3 3 := ⟨by decide +kernel, rfl⟩
theorem d15_3 : Dc jdk_42_method_154_code 3 (.ifCond .eq 14) 3 6 := ⟨by decide +kernel, rfl⟩
theorem d15_3t : Tg 3 (14) 17 := ⟨by decide, by decide⟩
theorem d15_6 : Dc jdk_42_method_154_code 6 (.aload_n 0) 1 7 := ⟨by decide +kernel, rfl⟩
theorem d15_7 : Dc jdk_42_method_154_code 7 (.getfield 15) 3 10 := ⟨by decide +kernel, rfl⟩
theorem d15_10 : Dc jdk_42_method_154_code 10 (.ifCond .ne 7) 3 13 := ⟨by decide +kernel, rfl⟩
theorem d15_10t : Tg 10 (7) 17 := ⟨by decide, by decide⟩
theorem d15_13 : Dc jdk_42_method_154_code 13 (.iconst 1) 1 14 := ⟨by decide +kernel, rfl⟩
theorem d15_14 : Dc jdk_42_method_154_code 14 (.goto 4) 3 17 := ⟨by decide +kernel, rfl⟩
theorem d15_14t : Tg 14 (4) 18 := ⟨by decide, by decide⟩
theorem d15_17 : Dc jdk_42_method_154_code 17 (.iconst 0) 1 18 := ⟨by decide +kernel, rfl⟩
theorem d15_18 : Dc jdk_42_method_154_code 18 .ireturn 1 19 := ⟨by decide +kernel, rfl⟩
theorem d16_0 : Dc jdk_43_method_2_code 0 (.iload_n 1) 1 1 := ⟨by decide +kernel, rfl⟩
theorem d16_1 : Dc jdk_43_method_2_code 1 (.aload_n 0) 1 2 := ⟨by decide +kernel, rfl⟩
theorem d16_2 : Dc jdk_43_method_2_code 2 .arraylength 1 3 := ⟨by decide +kernel, rfl⟩
theorem d16_3 : Dc jdk_43_method_2_code 3 (.invokestatic 9) 3 6 := ⟨by decide +kernel, rfl⟩
theorem d16_6 : Dc jdk_43_method_2_code 6 (.aload_n 0) 1 7 := ⟨by decide +kernel, rfl⟩
theorem d16_7 : Dc jdk_43_method_2_code 7 (.iload_n 1) 1 8 := ⟨by decide +kernel, rfl⟩
theorem d16_8 : Dc jdk_43_method_2_code 8 .baload 1 9 := ⟨by decide +kernel, rfl⟩
theorem d16_9 : Dc jdk_43_method_2_code 9 (.sipush 255) 3 12 := ⟨by decide +kernel, rfl⟩
theorem d16_12 : Dc jdk_43_method_2_code 12 .iand 1 13 := ⟨by decide +kernel, rfl⟩
theorem d16_13 : Dc jdk_43_method_2_code 13 .i2c 1 14 := ⟨by decide +kernel, rfl⟩
theorem d16_14 : Dc jdk_43_method_2_code 14 .ireturn 1 15 := ⟨by decide +kernel, rfl⟩
theorem d14_0 : Dc jdk_42_method_56_code 0 (.aload_n 0) 1 1 := ⟨by decide +kernel, rfl⟩
theorem d14_1 : Dc jdk_42_method_56_code 1 (.invokevirtual 492) 3 4 := ⟨by decide +kernel, rfl⟩
theorem d14_4 : Dc jdk_42_method_56_code 4 (.ifCond .eq 12) 3 7 := ⟨by decide +kernel, rfl⟩
theorem d14_4t : Tg 4 (12) 16 := ⟨by decide, by decide⟩
theorem d14_7 : Dc jdk_42_method_56_code 7 (.aload_n 0) 1 8 := ⟨by decide +kernel, rfl⟩
theorem d14_8 : Dc jdk_42_method_56_code 8 (.getfield 9) 3 11 := ⟨by decide +kernel, rfl⟩
theorem d14_11 : Dc jdk_42_method_56_code 11 (.iload_n 1) 1 12 := ⟨by decide +kernel, rfl⟩
theorem d14_12 : Dc jdk_42_method_56_code 12 (.invokestatic 495) 3 15 := ⟨by decide +kernel, rfl⟩
theorem d14_15 : Dc jdk_42_method_56_code 15 .ireturn 1 16 := ⟨by decide +kernel, rfl⟩
theorem d14_16 : Dc jdk_42_method_56_code 16 (.aload_n 0) 1 17 := ⟨by decide +kernel, rfl⟩
theorem d14_17 : Dc jdk_42_method_56_code 17 (.getfield 9) 3 20 := ⟨by decide +kernel, rfl⟩
theorem d14_20 : Dc jdk_42_method_56_code 20 (.iload_n 1) 1 21 := ⟨by decide +kernel, rfl⟩
theorem d14_21 : Dc jdk_42_method_56_code 21 (.invokestatic 498) 3 24 := ⟨by decide +kernel, rfl⟩
theorem d14_24 : Dc jdk_42_method_56_code 24 .ireturn 1 25 := ⟨by decide +kernel, rfl⟩
theorem d23_0 : Dc jdk_42_method_57_code 0 (.aload_n 0) 1 1 := ⟨by decide +kernel, rfl⟩
theorem d23_1 : Dc jdk_42_method_57_code 1 (.invokevirtual 492) 3 4 := ⟨by decide +kernel, rfl⟩
theorem d23_4 : Dc jdk_42_method_57_code 4 (.ifCond .eq 23) 3 7 := ⟨by decide +kernel, rfl⟩
theorem d23_4t : Tg 4 (23) 27 := ⟨by decide, by decide⟩
theorem d23_7 : Dc jdk_42_method_57_code 7 (.iload_n 1) 1 8 := ⟨by decide +kernel, rfl⟩
theorem d23_8 : Dc jdk_42_method_57_code 8 (.aload_n 0) 1 9 := ⟨by decide +kernel, rfl⟩
theorem d23_9 : Dc jdk_42_method_57_code 9 (.getfield 9) 3 12 := ⟨by decide +kernel, rfl⟩
theorem d23_12 : Dc jdk_42_method_57_code 12 .arraylength 1 13 := ⟨by decide +kernel, rfl⟩
theorem d23_13 : Dc jdk_42_method_57_code 13 (.invokestatic 499) 3 16 := ⟨by decide +kernel, rfl⟩
theorem d23_16 : Dc jdk_42_method_57_code 16 (.aload_n 0) 1 17 := ⟨by decide +kernel, rfl⟩
theorem d23_17 : Dc jdk_42_method_57_code 17 (.getfield 9) 3 20 := ⟨by decide +kernel, rfl⟩
theorem d23_20 : Dc jdk_42_method_57_code 20 (.iload_n 1) 1 21 := ⟨by decide +kernel, rfl⟩
theorem d23_21 : Dc jdk_42_method_57_code 21 .baload 1 22 := ⟨by decide +kernel, rfl⟩
theorem d23_22 : Dc jdk_42_method_57_code 22 (.sipush 255) 3 25 := ⟨by decide +kernel, rfl⟩
theorem d23_25 : Dc jdk_42_method_57_code 25 .iand 1 26 := ⟨by decide +kernel, rfl⟩
theorem d23_26 : Dc jdk_42_method_57_code 26 .ireturn 1 27 := ⟨by decide +kernel, rfl⟩
theorem d23_27 : Dc jdk_42_method_57_code 27 (.aload_n 0) 1 28 := ⟨by decide +kernel, rfl⟩
theorem d23_28 : Dc jdk_42_method_57_code 28 (.getfield 9) 3 31 := ⟨by decide +kernel, rfl⟩
theorem d23_31 : Dc jdk_42_method_57_code 31 .arraylength 1 32 := ⟨by decide +kernel, rfl⟩
theorem d23_32 : Dc jdk_42_method_57_code 32 (.iconst 1) 1 33 := ⟨by decide +kernel, rfl⟩
theorem d23_33 : Dc jdk_42_method_57_code 33 .ishr 1 34 := ⟨by decide +kernel, rfl⟩
theorem d23_34 : Dc jdk_42_method_57_code 34 (.istore_n 2) 1 35 := ⟨by decide +kernel, rfl⟩
theorem d23_35 : Dc jdk_42_method_57_code 35 (.iload_n 1) 1 36 := ⟨by decide +kernel, rfl⟩
theorem d23_36 : Dc jdk_42_method_57_code 36 (.iload_n 2) 1 37 := ⟨by decide +kernel, rfl⟩
theorem d23_37 : Dc jdk_42_method_57_code 37 (.invokestatic 499) 3 40 := ⟨by decide +kernel, rfl⟩
theorem d23_40 : Dc jdk_42_method_57_code 40 (.aload_n 0) 1 41 := ⟨by decide +kernel, rfl⟩
theorem d23_41 : Dc jdk_42_method_57_code 41 (.getfield 9) 3 44 := ⟨by decide +kernel, rfl⟩
theorem d23_44 : Dc jdk_42_method_57_code 44 (.iload_n 1) 1 45 := ⟨by decide +kernel, rfl⟩
theorem d23_45 : Dc jdk_42_method_57_code 45 (.iload_n 2) 1 46 := ⟨by decide +kernel, rfl⟩
theorem d23_46 : Dc jdk_42_method_57_code 46 (.invokestatic 502) 3 49 := ⟨by decide +kernel, rfl⟩
theorem d23_49 : Dc jdk_42_method_57_code 49 .ireturn 1 50 := ⟨by decide +kernel, rfl⟩
theorem own_cs {Z : State} {a0 : Array Value} (hr : rest_1_c.value a0 Z none Z [] = some true) : ∃ z : Int32, Sta Z Z.heap "java/lang/String" "COMPACT_STRINGS" "Z" (.int z) ∧ ¬ z = 0 := by
  obtain ⟨z, ev⟩ := is_v (nw hr 1 rfl)
  refine ⟨z, Sta.start ev (Or.inl (Cond.before_iff.mpr (nw hr 0 rfl))), fun e => ?_⟩
  have q := not_v (nw hr 2 rfl)
  rw [Cond.eq_ints ev (Term.int_eval 0)] at q
  simp [e] at q
theorem ef32_ririi (m : MethodId) (x0 : Addr) (x1 : Int32) (x2 : Addr) (x3 : Int32) (x4 : Int32) : entryFrame m #[(.ref x0), (.int x1), (.ref x2), (.int x3), (.int x4)] 7 = mkF m 0 #[.val (.ref x0), .val (.int x1), .val (.ref x2), .val (.int x3), .val (.int x4), .unset, .unset] [] := by first | (simp [entryFrame, mkF, argsToLocals, Value.category]; done) | rfl
set_option maxRecDepth 65536 in
set_option maxHeartbeats 40000000 in
theorem rmC5_2 (l : Launch) (Z : State) (a0 : Array Value) (hw : ∀ d ∈ tables_1, d.before a0 Z = true) (b d : Addr) (kb kd : ClassId) (c0 c1 : Int32) (h0 : Heap) (hE : Ext Z.heap h0) (ge_d : Z.heap.size ≤ d) (nbd : b ≠ d) (Ab : Arv Z h0 b kb .char (2 : Int32) [(.int c0), (.int c1)] (.int 0)) (Ad : Arv Z h0 d kd .byte (2 : Int32) [] (.int 0)) (u0 : ¬ 255 < c0) (u1 : ¬ 255 < c1) :
    Ct true l Z [] (⟨"java/lang/StringUTF16", "compress", "([CI[BII)I"⟩ : MethodName) jdk_52_method_21_code 7 (some .int) [] ({ frames := 0, cells := 0, slots := 0, locals := 0 } : Room) [d] #[(.ref b), (.int (0 : Int32)), (.ref d), (.int (0 : Int32)), (.int (2 : Int32))] h0 (fun r u => r = some (.int (2 : Int32)) ∧ Keep h0 u [d] ∧ Arv Z u d kd .byte (2 : Int32) [(.int (nar .byte c0)), (.int (nar .byte c1))] (.int 0)) := by
  refine Ct.intro pn_java_lang_StringUTF16 hE (fun m => ef32_ririi m b _ d _ _) (onesf ge_d Ad.lt) ⟨a0, own_EW hw⟩ ?_
  intro x T w
  refine w.iconst (0 : Int32) d32_0 rfl ?_
  refine w.istore #[.val (.ref b), .val (.int (0 : Int32)), .val (.ref d), .val (.int (0 : Int32)), .val (.int (2 : Int32)), .val (.int (0 : Int32)), .unset] d32_1 rfl ?_
  refine w.iload d32_3 rfl ?_
  refine w.iload d32_5 rfl ?_
  refine w.icmpGe d32_7 d32_7t (fun q => absurd (by decide) q) (fun _ => ?_)
  refine w.aloadN d32_10 rfl rfl ?_
  refine w.iloadN d32_11 rfl ?_
  obtain ⟨cl0, Ar0, -, S0, -, H0, -⟩ := id Ab
  refine w.caload d32_12 Ar0 (inb_of S0 (by decide)) (H0.at (inb_of S0 (by decide)) rfl) ?_
  refine w.istore #[.val (.ref b), .val (.int (0 : Int32)), .val (.ref d), .val (.int (0 : Int32)), .val (.int (2 : Int32)), .val (.int (0 : Int32)), .val (.int c0)] d32_13 rfl ?_
  refine w.iload d32_15 rfl ?_
  refine w.sipush (255 : Int32) d32_17 rfl ?_
  refine w.icmpLe d32_20 d32_20t (fun _ => ?_) (fun q => absurd q u0)
  refine w.aloadN d32_26 rfl rfl ?_
  refine w.iloadN d32_27 rfl ?_
  refine w.iload d32_28 rfl ?_
  refine w.i2b d32_30 ?_
  refine w.stB 0 [(.int 0)] d32_31 Ad ⟨by decide, by decide⟩ (by decide) (pad_rep [] (.int 0) 1) (by simp) (fnb _) (List.mem_of_getElem? (i := 0) rfl) ?_
  intro T h1 w W0 A0
  rw [nbb] at A0 W0
  have Ad0 : Arv Z h1 d kd .byte (2 : Int32) [(.int (nar .byte c0))] (.int 0) := A0
  have Ab0 := Ab.other W0 nbd
  refine w.iinc (1 : Int32) #[.val (.ref b), .val (.int (1 : Int32)), .val (.ref d), .val (.int (0 : Int32)), .val (.int (2 : Int32)), .val (.int (0 : Int32)), .val (.int c0)] d32_32 rfl rfl rfl ?_
  refine w.iinc (1 : Int32) #[.val (.ref b), .val (.int (1 : Int32)), .val (.ref d), .val (.int (1 : Int32)), .val (.int (2 : Int32)), .val (.int (0 : Int32)), .val (.int c0)] d32_35 rfl rfl rfl ?_
  refine w.iinc (1 : Int32) #[.val (.ref b), .val (.int (1 : Int32)), .val (.ref d), .val (.int (1 : Int32)), .val (.int (2 : Int32)), .val (.int (1 : Int32)), .val (.int c0)] d32_38 rfl rfl rfl ?_
  refine w.goto d32_41 d32_41t ?_
  refine w.iload d32_3 rfl ?_
  refine w.iload d32_5 rfl ?_
  refine w.icmpGe d32_7 d32_7t (fun q => absurd (by decide) q) (fun _ => ?_)
  refine w.aloadN d32_10 rfl rfl ?_
  refine w.iloadN d32_11 rfl ?_
  obtain ⟨cl1, Ar1, -, S1, -, H1, -⟩ := id Ab0
  refine w.caload d32_12 Ar1 (inb_of S1 (by decide)) (H1.at (inb_of S1 (by decide)) rfl) ?_
  refine w.istore #[.val (.ref b), .val (.int (1 : Int32)), .val (.ref d), .val (.int (1 : Int32)), .val (.int (2 : Int32)), .val (.int (1 : Int32)), .val (.int c1)] d32_13 rfl ?_
  refine w.iload d32_15 rfl ?_
  refine w.sipush (255 : Int32) d32_17 rfl ?_
  refine w.icmpLe d32_20 d32_20t (fun _ => ?_) (fun q => absurd q u1)
  refine w.aloadN d32_26 rfl rfl ?_
  refine w.iloadN d32_27 rfl ?_
  refine w.iload d32_28 rfl ?_
  refine w.i2b d32_30 ?_
  refine w.stB 1 [(.int (nar .byte c0)), (.int 0)] d32_31 Ad0 ⟨by decide, by decide⟩ (by decide) (pad_rep [(.int (nar .byte c0))] (.int 0) 1) (by simp) (fnb _) (List.mem_of_getElem? (i := 0) rfl) ?_
  intro T h2 w W1 A1
  rw [nbb] at A1 W1
  have Ad1 : Arv Z h2 d kd .byte (2 : Int32) [(.int (nar .byte c0)), (.int (nar .byte c1))] (.int 0) := A1
  have Ab1 := Ab0.other W1 nbd
  refine w.iinc (1 : Int32) #[.val (.ref b), .val (.int (2 : Int32)), .val (.ref d), .val (.int (1 : Int32)), .val (.int (2 : Int32)), .val (.int (1 : Int32)), .val (.int c1)] d32_32 rfl rfl rfl ?_
  refine w.iinc (1 : Int32) #[.val (.ref b), .val (.int (2 : Int32)), .val (.ref d), .val (.int (2 : Int32)), .val (.int (2 : Int32)), .val (.int (1 : Int32)), .val (.int c1)] d32_35 rfl rfl rfl ?_
  refine w.iinc (1 : Int32) #[.val (.ref b), .val (.int (2 : Int32)), .val (.ref d), .val (.int (2 : Int32)), .val (.int (2 : Int32)), .val (.int (2 : Int32)), .val (.int c1)] d32_38 rfl rfl rfl ?_
  refine w.goto d32_41 d32_41t ?_
  refine w.iload d32_3 rfl ?_
  refine w.iload d32_5 rfl ?_
  refine w.icmpGe d32_7 d32_7t (fun _ => ?_) (fun q => absurd q (by decide))
  refine w.iload d32_44 rfl ?_
  exact w.retI d32_46 rfl ⟨rfl, (((Keep.refl _ _).wr W0 (Or.inl (List.mem_singleton.mpr rfl))).wr W1 (Or.inl (List.mem_singleton.mpr rfl))), Ad1⟩

theorem ef31_rii (m : MethodId) (x0 : Addr) (x1 : Int32) (x2 : Int32) : entryFrame m #[(.ref x0), (.int x1), (.int x2)] 6 = mkF m 0 #[.val (.ref x0), .val (.int x1), .val (.int x2), .unset, .unset, .unset] [] := by first | (simp [entryFrame, mkF, argsToLocals, Value.category]; done) | rfl
set_option maxRecDepth 65536 in
set_option maxHeartbeats 40000000 in
theorem rmC3_2 (l : Launch) (Z : State) (a0 : Array Value) (hw : ∀ d ∈ tables_1, d.before a0 Z = true) (b : Addr) (kb : ClassId) (c0 c1 : Int32) (h0 : Heap) (hE : Ext Z.heap h0) (Ab : Arv Z h0 b kb .char (2 : Int32) [(.int c0), (.int c1)] (.int 0)) (u0 : ¬ 255 < c0) (u1 : ¬ 255 < c1) :
    Ct true l Z [] (⟨"java/lang/StringUTF16", "compress", "([CII)[B"⟩ : MethodName) jdk_52_method_16_code 6 (some (.array .byte)) [] ({ frames := 1, cells := 1, slots := 2, locals := 18 } : Room) [] #[(.ref b), (.int (0 : Int32)), (.int (2 : Int32))] h0 (fun r u => ∃ d kd, r = some (.ref d) ∧ Ext h0 u ∧ h0.size ≤ d ∧ Arv Z u d kd .byte (2 : Int32) [(.int (nar .byte c0)), (.int (nar .byte c1))] (.int 0)) := by
  refine Ct.intro pn_java_lang_StringUTF16 hE (fun m => ef31_rii m b _ _) nosf ⟨a0, own_EW hw⟩ ?_
  intro x T w
  refine w.iloadN d31_0 rfl ?_
  have sz0 := w.size
  refine w.newP 2 "[B" d31_1 (tw hw 27 rfl) (by decide) (by decide) (by decide) (by decide) ⟨by decide, by decide⟩ ?_
  intro d T h1 kd g_d w E_d A_d X_d
  have ge_d : Z.heap.size ≤ d := by rw [g_d]; exact sz0
  have nbd : b ≠ d := Nat.ne_of_lt (Nat.lt_of_lt_of_eq Ab.lt g_d.symm)
  refine w.astoreN #[.val (.ref b), .val (.int (0 : Int32)), .val (.int (2 : Int32)), .val (.ref d), .unset, .unset] d31_3 rfl rfl ?_
  refine w.aloadN d31_4 rfl rfl ?_
  refine w.iloadN d31_5 rfl ?_
  refine w.aloadN d31_6 rfl rfl ?_
  refine w.iconst (0 : Int32) d31_7 rfl ?_
  refine w.iloadN d31_8 rfl ?_
  refine w.callS (argsL := [(.ref b), (.int (0 : Int32)), (.ref d), (.int (0 : Int32)), (.int (2 : Int32))]) (rest := []) 0 d31_9 (tw hw 145 rfl) (tw hw 146 rfl) (tw hw 143 rfl) (tw hw 147 rfl) (by decide) (rmC5_2 l Z a0 hw b d kb kd c0 c1 h1 w.old ge_d nbd (Ab.ext E_d) A_d u0 u1) (lenOf pd_0 rfl) rfl rfl (Nat.le_refl _) ⟨by decide, by decide, by decide, by decide⟩ (allS (List.mem_of_getElem? (i := 0) rfl) all0) ?_
  intro T h2 r w _ hQ
  obtain ⟨rfl, K1, A1⟩ := hQ
  show Go x _ Z _ _ _ T 12 #[.val (.ref b), .val (.int (0 : Int32)), .val (.int (2 : Int32)), .val (.ref d), .unset, .unset] [(.int (2 : Int32))]
  refine w.istore #[.val (.ref b), .val (.int (0 : Int32)), .val (.int (2 : Int32)), .val (.ref d), .val (.int (2 : Int32)), .unset] d31_12 rfl ?_
  refine w.iload d31_14 rfl ?_
  refine w.iloadN d31_16 rfl ?_
  refine w.icmpEq d31_17 d31_17t (fun _ => ?_) (fun q => absurd rfl q)
  refine w.aloadN d31_57 rfl rfl ?_
  exact w.retA d31_58 rfl rfl rfl rfl ⟨d, kd, rfl, keep_to E_d K1 (allS (Nat.le_of_eq g_d.symm) all0), Nat.le_of_eq g_d.symm, A1⟩

theorem ef33_ri (m : MethodId) (x0 : Addr) (x1 : Int32) : entryFrame m #[(.ref x0), (.int x1)] 2 = mkF m 0 #[.val (.ref x0), .val (.int x1)] [] := by first | (simp [entryFrame, mkF, argsToLocals, Value.category]; done) | rfl
set_option maxRecDepth 65536 in
set_option maxHeartbeats 40000000 in
theorem rmCL_2_2 (l : Launch) (Z : State) (a0 : Array Value) (hw : ∀ d ∈ tables_1, d.before a0 Z = true) (d : Addr) (kd : ClassId) (vs : List Value) (h0 : Heap) (hE : Ext Z.heap h0) (Ad : Arv Z h0 d kd .byte (2 : Int32) vs (.int 0)) :
    Ct true l Z [] (⟨"java/lang/StringUTF16", "coderFromArrayLen", "([BI)B"⟩ : MethodName) jdk_52_method_15_code 2 (some .byte) [] ({ frames := 0, cells := 0, slots := 0, locals := 0 } : Room) [] #[(.ref d), (.int (2 : Int32))] h0 (fun r u => r = some (.int (0 : Int32)) ∧ h0 = u) := by
  refine Ct.intro pn_java_lang_StringUTF16 hE (fun m => ef33_ri m d _) nosf ⟨a0, own_EW hw⟩ ?_
  intro x T w
  obtain ⟨cl, Ar, -, S, M, -, -⟩ := Ad
  refine w.iloadN d33_0 rfl ?_
  refine w.aloadN d33_1 rfl rfl ?_
  refine w.alen (2 : Int32) d33_2 Ar (len_of S M) ?_
  refine w.isub d33_3 ?_
  refine w.bipush (31 : Int32) d33_4 rfl ?_
  refine w.iushr d33_6 ?_
  refine w.i2b d33_7 ?_
  exact w.retN d33_8 rfl (by simp) ⟨rfl, rfl⟩

theorem ef30_rriin (m : MethodId) (x0 : Addr) (x1 : Addr) (x2 : Int32) (x3 : Int32) : entryFrame m #[(.ref x0), (.ref x1), (.int x2), (.int x3), .null] 6 = mkF m 0 #[.val (.ref x0), .val (.ref x1), .val (.int x2), .val (.int x3), .val .null, .unset] [] := by first | (simp [entryFrame, mkF, argsToLocals, Value.category]; done) | rfl
set_option maxRecDepth 65536 in
set_option maxHeartbeats 40000000 in
theorem rmS4_2 (l : Launch) (Z : State) (a0 : Array Value) (hw : ∀ d ∈ tables_1, d.before a0 Z = true) (hr : rest_1_c.value a0 Z none Z [] = some true) (a b : Addr) (kb : ClassId) (c0 c1 : Int32) (h0 : Heap) (hE : Ext Z.heap h0) (ge_a : Z.heap.size ≤ a) (E0 : Exa Z h0 a "java/lang/String") (G1 : Fld Z h0 a "java/lang/String" "value" "[B" .null) (G2 : Fld Z h0 a "java/lang/String" "coder" "B" (.int (0 : Int32))) (Ab : Arv Z h0 b kb .char (2 : Int32) [(.int c0), (.int c1)] (.int 0)) (u0 : ¬ 255 < c0) (u1 : ¬ 255 < c1) :
    Ct true l Z [] (⟨"java/lang/String", "<init>", "([CIILjava/lang/Void;)V"⟩ : MethodName) jdk_42_method_149_code 6 none [] ({ frames := 2, cells := 1, slots := 2, locals := 36 } : Room) [a] #[(.ref a), (.ref b), (.int (0 : Int32)), (.int (2 : Int32)), .null] h0 (fun r u => r = none ∧ Keep h0 u [a] ∧ ∃ t, h0.size ≤ t ∧ StrL Z u a t 0 [nar .byte c0, nar .byte c1]) := by
  refine Ct.intro pn_java_lang_String hE (fun m => ef30_rriin m a b _ _) (onesf ge_a E0.lt) ⟨a0, own_EW hw⟩ ?_
  intro x T w
  obtain ⟨cz, Scs, hcz⟩ := own_cs hr
  refine w.aloadN d30_0 rfl rfl ?_
  refine w.initO 0 d30_1 (tw hw 32 rfl) (tw hw 33 rfl) (tw hw 34 rfl) rfl (Nat.le_refl _) ⟨by decide, by decide⟩ ?_
  intro T w
  refine w.iloadN d30_4 rfl ?_
  refine w.ifNe d30_5 d30_5t (fun _ => ?_) (fun q => absurd q (by decide))
  refine w.getS d30_27 (tw hw 17 rfl) Scs ?_
  intro T w
  refine w.ifEq d30_30 d30_30t (fun q => absurd q hcz) (fun _ => ?_)
  refine w.aloadN d30_33 rfl rfl ?_
  refine w.iloadN d30_34 rfl ?_
  refine w.iloadN d30_35 rfl ?_
  refine w.callS (argsL := [(.ref b), (.int (0 : Int32)), (.int (2 : Int32))]) (rest := []) 0 d30_36 (tw hw 141 rfl) (tw hw 142 rfl) (tw hw 143 rfl) (tw hw 144 rfl) (by decide) (rmC3_2 l Z a0 hw b kb c0 c1 h0 w.old Ab u0 u1) (lenOf pd_1 rfl) rfl rfl (Nat.le_refl _) ⟨by decide, by decide, by decide, by decide⟩ all0 ?_
  intro T h1 r w _ hQ
  obtain ⟨d, kd, rfl, E1, gd, A1⟩ := hQ
  have ne_a_d : a ≠ d := Nat.ne_of_lt (Nat.lt_of_lt_of_le E0.lt gd)
  have F1 := E0.ext E1
  have F2 := G1.ext E1
  have F3 := G2.ext E1
  show Go x _ Z _ _ _ T 39 #[.val (.ref a), .val (.ref b), .val (.int (0 : Int32)), .val (.int (2 : Int32)), .val .null, .unset] [(.ref d)]
  refine w.astore #[.val (.ref a), .val (.ref b), .val (.int (0 : Int32)), .val (.int (2 : Int32)), .val .null, .val (.ref d)] d30_39 rfl rfl ?_
  refine w.aloadN d30_41 rfl rfl ?_
  refine w.aload d30_42 rfl rfl ?_
  refine w.iloadN d30_44 rfl ?_
  refine w.callS (argsL := [(.ref d), (.int (2 : Int32))]) (rest := [(.ref a)]) 1 d30_45 (tw hw 148 rfl) (tw hw 149 rfl) (tw hw 143 rfl) (tw hw 150 rfl) (by decide) (rmCL_2_2 l Z a0 hw d kd _ h1 w.old A1) (lenOf pd_2 rfl) rfl rfl (Nat.le_refl _) ⟨by decide, by decide, by decide, by decide⟩ all0 ?_
  intro T h2 r w _ hQ
  obtain ⟨rfl, rfl⟩ := hQ
  show Go x _ Z _ _ _ T 48 #[.val (.ref a), .val (.ref b), .val (.int (0 : Int32)), .val (.int (2 : Int32)), .val .null, .val (.ref d)] [(.int (0 : Int32)), (.ref a)]
  refine w.putF d30_48 (tw hw 37 rfl) F3 F1 (Or.inr ⟨(tw hw 38 rfl), rfl, rfl⟩) (tw hw 23 rfl) (ty := .byte) (by decide) rfl rfl (List.mem_of_getElem? (i := 0) rfl) ?_
  intro T h3 w W4
  have F5 := F1.wr W4
  have F6 := F2.other W4 (Or.inr (slot_ne (Or.inr (tw hw 36 rfl)) (Or.inr (tw hw 38 rfl)) (by decide) (t := (.array .byte)) (t' := .byte) (by decide) (by decide)))
  have F7 := F3.same W4
  have F8 := A1.other W4 (Ne.symm ne_a_d)
  refine w.aloadN d30_51 rfl rfl ?_
  refine w.aload d30_52 rfl rfl ?_
  refine w.putF d30_54 (tw hw 35 rfl) F6 F5 (Or.inr ⟨(tw hw 36 rfl), rfl, rfl⟩) (tw hw 23 rfl) (ty := (.array .byte)) (by decide) rfl rfl (List.mem_of_getElem? (i := 0) rfl) ?_
  intro T h4 w W9
  have F10 := F5.wr W9
  have F11 := F6.same W9
  have F12 := F7.other W9 (Or.inr (slot_ne (Or.inr (tw hw 38 rfl)) (Or.inr (tw hw 36 rfl)) (by decide) (t := .byte) (t' := (.array .byte)) (by decide) (by decide)))
  have F13 := F8.other W9 (Ne.symm ne_a_d)
  exact w.retV d30_57 rfl ⟨rfl, (((keep_ext E1).wr W4 (Or.inl (List.mem_singleton.mpr rfl))).wr W9 (Or.inl (List.mem_singleton.mpr rfl))), d, gd, F10, F11, F12, kd, F13, by simp⟩

theorem ef29_rr (m : MethodId) (x0 : Addr) (x1 : Addr) : entryFrame m #[(.ref x0), (.ref x1)] 2 = mkF m 0 #[.val (.ref x0), .val (.ref x1)] [] := by first | (simp [entryFrame, mkF, argsToLocals, Value.category]; done) | rfl
set_option maxRecDepth 65536 in
set_option maxHeartbeats 40000000 in
theorem rmS1_2 (l : Launch) (Z : State) (a0 : Array Value) (hw : ∀ d ∈ tables_1, d.before a0 Z = true) (hr : rest_1_c.value a0 Z none Z [] = some true) (a b : Addr) (kb : ClassId) (c0 c1 : Int32) (h0 : Heap) (hE : Ext Z.heap h0) (ge_a : Z.heap.size ≤ a) (E0 : Exa Z h0 a "java/lang/String") (G1 : Fld Z h0 a "java/lang/String" "value" "[B" .null) (G2 : Fld Z h0 a "java/lang/String" "coder" "B" (.int (0 : Int32))) (Ab : Arv Z h0 b kb .char (2 : Int32) [(.int c0), (.int c1)] (.int 0)) (u0 : ¬ 255 < c0) (u1 : ¬ 255 < c1) :
    Ct true l Z [] (⟨"java/lang/String", "<init>", "([C)V"⟩ : MethodName) jdk_42_method_3_code 2 none [] ({ frames := 3, cells := 1, slots := 2, locals := 53 } : Room) [a] #[(.ref a), (.ref b)] h0 (fun r u => r = none ∧ Keep h0 u [a] ∧ ∃ t, h0.size ≤ t ∧ StrL Z u a t 0 [nar .byte c0, nar .byte c1]) := by
  refine Ct.intro pn_java_lang_String hE (fun m => ef29_rr m a b) (onesf ge_a E0.lt) ⟨a0, own_EW hw⟩ ?_
  intro x T w
  obtain ⟨cl, Ar, -, S, M, -, -⟩ := id Ab
  refine w.aloadN d29_0 rfl rfl ?_
  refine w.aloadN d29_1 rfl rfl ?_
  refine w.iconst (0 : Int32) d29_2 rfl ?_
  refine w.aloadN d29_3 rfl rfl ?_
  refine w.alen (2 : Int32) d29_4 Ar (len_of S M) ?_
  refine w.aconstNull d29_5 ?_
  refine w.callI (argsL := [(.ref b), (.int (0 : Int32)), (.int (2 : Int32)), .null]) (rest := []) 0 d29_6 rfl (tw hw 138 rfl) (tw hw 139 rfl) (tw hw 15 rfl) (tw hw 140 rfl) (by decide) (rmS4_2 l Z a0 hw hr a b kb c0 c1 h0 w.old ge_a E0 G1 G2 Ab u0 u1) (lenOf pd_3 rfl) rfl rfl (Nat.le_refl _) ⟨by decide, by decide, by decide, by decide⟩ (allS (List.mem_of_getElem? (i := 0) rfl) all0) ?_
  intro T h1 r w _ hQ
  obtain ⟨rfl, K1, t, gt, S1⟩ := hQ
  exact w.retV d29_9 rfl ⟨rfl, K1, t, gt, S1⟩

theorem ef6_i (m : MethodId) (x0 : Int32) : entryFrame m #[(.int x0)] 1 = mkF m 0 #[.val (.int x0)] [] := by first | (simp [entryFrame, mkF, argsToLocals, Value.category]; done) | rfl
set_option maxRecDepth 65536 in
set_option maxHeartbeats 40000000 in
theorem rmCE (l : Launch) (Z : State) (a0 : Array Value) (hw : ∀ d ∈ tables_1, d.before a0 Z = true) (c : Int32) (h0 : Heap) (hE : Ext Z.heap h0) (u : ¬ 255 < c) :
    Ct true l Z [] (⟨"java/lang/StringLatin1", "canEncode", "(C)Z"⟩ : MethodName) jdk_43_method_3_code 1 (some .boolean) [] ({ frames := 0, cells := 0, slots := 0, locals := 0 } : Room) [] #[(.int c)] h0 (fun r w => r = some (.int (1 : Int32)) ∧ h0 = w) := by
  refine Ct.intro pn_java_lang_StringLatin1 hE (fun m => ef6_i m _) nosf ⟨a0, own_EW hw⟩ ?_
  intro x T w
  refine w.iloadN d6_0 rfl ?_
  refine w.sipush (255 : Int32) d6_1 rfl ?_
  refine w.icmpGt d6_4 d6_4t (fun q => absurd q u) (fun _ => ?_)
  refine w.iconst (1 : Int32) d6_7 rfl ?_
  refine w.goto d6_8 d6_8t ?_
  exact w.retN d6_12 rfl (by simp) ⟨rfl, rfl⟩

theorem ef7_i (m : MethodId) (x0 : Int32) : entryFrame m #[(.int x0)] 1 = mkF m 0 #[.val (.int x0)] [] := by first | (simp [entryFrame, mkF, argsToLocals, Value.category]; done) | rfl
set_option maxRecDepth 65536 in
set_option maxHeartbeats 40000000 in
theorem rmTB (l : Launch) (Z : State) (a0 : Array Value) (hw : ∀ d ∈ tables_1, d.before a0 Z = true) (c : Int32) (h0 : Heap) (hE : Ext Z.heap h0) :
    Ct true l Z [] (⟨"java/lang/StringLatin1", "toBytes", "(C)[B"⟩ : MethodName) jdk_43_method_46_code 1 (some (.array .byte)) [] ({ frames := 0, cells := 1, slots := 1, locals := 0 } : Room) [] #[(.int c)] h0 (fun r u => ∃ d kd, r = some (.ref d) ∧ Ext h0 u ∧ h0.size ≤ d ∧ Arv Z u d kd .byte (1 : Int32) [(.int (nar .byte c))] (.int 0)) := by
  refine Ct.intro pn_java_lang_StringLatin1 hE (fun m => ef7_i m _) nosf ⟨a0, own_EW hw⟩ ?_
  intro x T w
  refine w.iconst (1 : Int32) d7_0 rfl ?_
  have sz0 := w.size
  refine w.newP 1 "[B" d7_1 (tw hw 27 rfl) (by decide) (by decide) (by decide) (by decide) ⟨by decide, by decide⟩ ?_
  intro d T h1 kd g_d w E_d A_d X_d
  have ge_d : Z.heap.size ≤ d := by rw [g_d]; exact sz0
  refine w.dup d7_3 rfl ?_
  refine w.iconst (0 : Int32) d7_4 rfl ?_
  refine w.iloadN d7_5 rfl ?_
  refine w.i2b d7_6 ?_
  refine w.stB 0 [(.int 0)] d7_7 A_d ⟨by decide, by decide⟩ (by decide) (pad_rep [] (.int 0) 1) (by decide) (fnb _) (List.mem_of_getElem? (i := 0) rfl) ?_
  intro T h9 w W1 A1
  rw [nbb] at A1 W1
  exact w.retA d7_8 rfl rfl rfl rfl ⟨d, kd, rfl, keep_to E_d (Keep.of_wr W1) (allS (Nat.le_of_eq g_d.symm) all0), Nat.le_of_eq g_d.symm, A1⟩

theorem ef8_rri (m : MethodId) (x0 : Addr) (x1 : Addr) (x2 : Int32) : entryFrame m #[(.ref x0), (.ref x1), (.int x2)] 3 = mkF m 0 #[.val (.ref x0), .val (.ref x1), .val (.int x2)] [] := by first | (simp [entryFrame, mkF, argsToLocals, Value.category]; done) | rfl
set_option maxRecDepth 65536 in
set_option maxHeartbeats 40000000 in
theorem rmSB (l : Launch) (Z : State) (a0 : Array Value) (hw : ∀ d ∈ tables_1, d.before a0 Z = true) (a d : Addr) (k : Int32) (h0 : Heap) (hE : Ext Z.heap h0) (ge_a : Z.heap.size ≤ a) (E0 : Exa Z h0 a "java/lang/String") (G1 : Fld Z h0 a "java/lang/String" "value" "[B" .null) (G2 : Fld Z h0 a "java/lang/String" "coder" "B" (.int (0 : Int32))) (hk : narrow .byte (.int k) = .int k) (hk2 : fits .byte (.int k) = true) :
    Ct true l Z [] (⟨"java/lang/String", "<init>", "([BB)V"⟩ : MethodName) jdk_42_method_151_code 3 none [] ({ frames := 1, cells := 0, slots := 0, locals := 12 } : Room) [a] #[(.ref a), (.ref d), (.int k)] h0 (fun r u => r = none ∧ Keep h0 u [a] ∧ Exa Z u a "java/lang/String" ∧ Fld Z u a "java/lang/String" "value" "[B" (.ref d) ∧ Fld Z u a "java/lang/String" "coder" "B" (.int k)) := by
  refine Ct.intro pn_java_lang_String hE (fun m => ef8_rri m a d k) (onesf ge_a E0.lt) ⟨a0, own_EW hw⟩ ?_
  intro x T w
  refine w.aloadN d8_0 rfl rfl ?_
  refine w.initO 0 d8_1 (tw hw 32 rfl) (tw hw 33 rfl) (tw hw 34 rfl) rfl (Nat.le_refl _) ⟨by decide, by decide⟩ ?_
  intro T w
  refine w.aloadN d8_4 rfl rfl ?_
  refine w.aloadN d8_5 rfl rfl ?_
  refine w.putF d8_6 (tw hw 35 rfl) G1 E0 (Or.inr ⟨(tw hw 36 rfl), rfl, rfl⟩) (tw hw 23 rfl) (ty := (.array .byte)) (by decide) rfl rfl (List.mem_of_getElem? (i := 0) rfl) ?_
  intro T h1 w W1
  have F2 := E0.wr W1
  have F3 := G1.same W1
  have F4 := G2.other W1 (Or.inr (slot_ne (Or.inr (tw hw 38 rfl)) (Or.inr (tw hw 36 rfl)) (by decide) (t := .byte) (t' := (.array .byte)) (by decide) (by decide)))
  refine w.aloadN d8_9 rfl rfl ?_
  refine w.iloadN d8_10 rfl ?_
  refine w.putF d8_11 (tw hw 37 rfl) F4 F2 (Or.inr ⟨(tw hw 38 rfl), rfl, rfl⟩) (tw hw 23 rfl) (ty := .byte) (by decide) hk hk2 (List.mem_of_getElem? (i := 0) rfl) ?_
  intro T h2 w W5
  have F6 := F2.wr W5
  have F7 := F3.other W5 (Or.inr (slot_ne (Or.inr (tw hw 36 rfl)) (Or.inr (tw hw 38 rfl)) (by decide) (t := (.array .byte)) (t' := .byte) (by decide) (by decide)))
  have F8 := F4.same W5
  exact w.retV d8_14 rfl ⟨rfl, (((Keep.refl _ _).wr W1 (Or.inl (List.mem_singleton.mpr rfl))).wr W5 (Or.inl (List.mem_singleton.mpr rfl))), F6, F7, F8⟩

theorem ef5_i (m : MethodId) (x0 : Int32) : entryFrame m #[(.int x0)] 1 = mkF m 0 #[.val (.int x0)] [] := by first | (simp [entryFrame, mkF, argsToLocals, Value.category]; done) | rfl
set_option maxRecDepth 65536 in
set_option maxHeartbeats 40000000 in
theorem rmVC (l : Launch) (Z : State) (a0 : Array Value) (hw : ∀ d ∈ tables_1, d.before a0 Z = true) (hr : rest_1_c.value a0 Z none Z [] = some true) (c : Int32) (h0 : Heap) (hE : Ext Z.heap h0) (u : ¬ 255 < c) :
    Ct true l Z [] (⟨"java/lang/String", "valueOf", "(C)Ljava/lang/String;"⟩ : MethodName) jdk_42_method_139_code 1 (some (.object "java/lang/String")) [] ({ frames := 3, cells := 2, slots := 5, locals := 60 } : Room) [] #[(.int c)] h0 (fun r u => ∃ a t, r = some (.ref a) ∧ Ext h0 u ∧ h0.size ≤ a ∧ h0.size ≤ t ∧ StrL Z u a t 0 [nar .byte c]) := by
  refine Ct.intro pn_java_lang_String hE (fun m => ef5_i m c) nosf ⟨a0, own_EW hw⟩ ?_
  intro x T w
  obtain ⟨cz, Scs, hcz⟩ := own_cs hr
  refine w.getS d5_0 (tw hw 17 rfl) Scs ?_
  intro T w
  refine w.ifEq d5_3 d5_3t (fun q => absurd q hcz) (fun _ => ?_)
  refine w.iloadN d5_6 rfl ?_
  refine w.callS (argsL := [(.int c)]) (rest := []) 0 d5_7 (tw hw 18 rfl) (tw hw 19 rfl) (tw hw 20 rfl) (tw hw 21 rfl) (by decide) (rmCE l Z a0 hw c h0 w.old u) (lenOf pd_4 rfl) rfl rfl (Nat.le_refl _) ⟨by decide, by decide, by decide, by decide⟩ all0 ?_
  intro T h1 r w _ hQ
  obtain ⟨rfl, rfl⟩ := hQ
  show Go x _ Z _ _ _ T 10 #[.val (.int c)] [(.int (1 : Int32))]
  refine w.ifEq d5_10 d5_10t (fun q => absurd q (by decide)) (fun _ => ?_)
  have sz0 := w.size
  refine w.new d5_13 (tw hw 22 rfl) (tw hw 23 rfl) (tw hw 15 rfl) ⟨by decide, by decide⟩ ?_
  intro a T h2 g_a w E1 A2 D3
  have ge_a : Z.heap.size ≤ a := by rw [g_a]; exact sz0
  have F4 : Fld Z h2 a "java/lang/String" "value" "[B" .null := D3 (Or.inr (tw hw 36 rfl)) (ty := (.array .byte)) (by decide)
  have F5 : Fld Z h2 a "java/lang/String" "coder" "B" (.int (0 : Int32)) := D3 (Or.inr (tw hw 38 rfl)) (ty := .byte) (by decide)
  refine w.dup d5_16 rfl ?_
  refine w.iloadN d5_17 rfl ?_
  refine w.callS (argsL := [(.int c)]) (rest := [(.ref a), (.ref a)]) 2 d5_18 (tw hw 24 rfl) (tw hw 25 rfl) (tw hw 20 rfl) (tw hw 26 rfl) (by decide) (rmTB l Z a0 hw c h2 w.old) (lenOf pd_5 rfl) rfl rfl (Nat.le_refl _) ⟨by decide, by decide, by decide, by decide⟩ all0 ?_
  intro T h3 r w _ hQ
  obtain ⟨d, kd, rfl, E5, gd, A5⟩ := hQ
  have ne_a_d : a ≠ d := Nat.ne_of_lt (Nat.lt_of_lt_of_le A2.lt gd)
  have F6 := A2.ext E5
  have F7 := F4.ext E5
  have F8 := F5.ext E5
  show Go x _ Z _ _ _ T 21 #[.val (.int c)] [(.ref d), (.ref a), (.ref a)]
  refine w.iconst (0 : Int32) d5_21 rfl ?_
  refine w.callI (argsL := [(.ref d), (.int (0 : Int32))]) (rest := [(.ref a)]) 1 d5_22 rfl (tw hw 28 rfl) (tw hw 29 rfl) (tw hw 15 rfl) (tw hw 31 rfl) (by decide) (rmSB l Z a0 hw a d (0 : Int32) h3 w.old ge_a F6 F7 F8 rfl rfl) (lenOf pd_6 rfl) rfl rfl (Nat.le_refl _) ⟨by decide, by decide, by decide, by decide⟩ (allS (List.mem_of_getElem? (i := 0) rfl) all0) ?_
  intro T h4 r w _ hQ
  obtain ⟨rfl, K9, E9, F9, C9⟩ := hQ
  exact w.retA d5_25 rfl rfl rfl rfl ⟨a, d, rfl, keep_to (ext_trans E1 E5) K9 (allS (Nat.le_of_eq g_a.symm) all0), Nat.le_of_eq g_a.symm, Nat.le_trans E1.1 gd, E9, F9, C9, kd, A5.keep K9 (ninS (Ne.symm ne_a_d) nin0), by simp⟩

theorem ef28_rr (m : MethodId) (x0 : Addr) (x1 : Addr) : entryFrame m #[(.ref x0), (.ref x1)] 3 = mkF m 0 #[.val (.ref x0), .val (.ref x1), .unset] [] := by first | (simp [entryFrame, mkF, argsToLocals, Value.category]; done) | rfl
set_option maxRecDepth 65536 in
set_option maxHeartbeats 40000000 in
theorem lpLE (l : Launch) (Z : State) (bs cs : List Int32) (t u : Addr) (kb kc : ClassId) (h0 : Heap) (hb : bs.length < 2 ^ 31) (hc : cs.length < 2 ^ 31) (A : Arv Z h0 t kb .byte (Int32.ofNat bs.length) (bs.map .int) (.int 0)) (B : Arv Z h0 u kc .byte (Int32.ofNat cs.length) (cs.map .int) (.int 0)) (hlen : bs.length = cs.length) (cx : Cx) (R : Room) (k n : Nat) (sf : List Addr) : ∀ (r i : Nat) (T : State), i + r = bs.length → (∀ j, j < i → bs.getD j 0 = cs.getD j 0) → W cx true l Z [] R "java/lang/StringLatin1" jdk_43_method_13_code 3 (some .boolean) "equals" T h0 k n sf →
    Go cx true Z [] R (fun r v => r = some (.int (if bs = cs then 1 else 0)) ∧ h0 = v) T 9 #[.val (.ref t), .val (.ref u), .val (.int (Int32.ofNat i))] [] := by
  obtain ⟨c1, A1, -, S1, M1, H1, -⟩ := A
  obtain ⟨c2, B1, -, S2, M2, H2, -⟩ := B
  intro r
  induction r with
  | zero =>
    intro i T hi hj w
    have e : bs = cs := list_eq hlen fun j q => hj j (by omega)
    refine w.iloadN d28_9 rfl ?_
    refine w.aloadN d28_10 rfl rfl ?_
    refine w.alen (Int32.ofNat bs.length) d28_11 A1 (len_of S1 M1) ?_
    refine w.icmpGe d28_12 d28_12t (fun _ => ?_) (fun q => absurd q (by rw [ofN_lt (by omega) hb]; omega))
    refine w.iconst (1 : Int32) d28_32 rfl ?_
    exact w.retN d28_33 rfl (by simp) ⟨by rw [if_pos e]; rfl, rfl⟩
  | succ r ih =>
    intro i T hi hj w
    have g1 : ¬ (Int32.ofNat i < 0 ∨ c1.slots.size ≤ (Int32.ofNat i).toNatClampNeg) := inb_of S1 ⟨ofN_nn (by omega), (ofN_lt (by omega) hb).mpr (by omega)⟩
    have g2 : ¬ (Int32.ofNat i < 0 ∨ c2.slots.size ≤ (Int32.ofNat i).toNatClampNeg) := inb_of S2 ⟨ofN_nn (by omega), (ofN_lt (by omega) (by omega)).mpr (by omega)⟩
    refine w.iloadN d28_9 rfl ?_
    refine w.aloadN d28_10 rfl rfl ?_
    refine w.alen (Int32.ofNat bs.length) d28_11 A1 (len_of S1 M1) ?_
    refine w.icmpGe d28_12 d28_12t (fun q => absurd ((ofN_lt (by omega) hb).mpr (by omega)) q) (fun _ => ?_)
    refine w.aloadN d28_15 rfl rfl ?_
    refine w.iloadN d28_16 rfl ?_
    refine w.baload (v := .int (bs.getD i 0)) d28_17 A1 g1 (H1.at g1 (by rw [ofN_clamp (by omega)]; exact mapGet bs i)) ?_
    refine w.aloadN d28_18 rfl rfl ?_
    refine w.iloadN d28_19 rfl ?_
    refine w.baload (v := .int (cs.getD i 0)) d28_20 B1 g2 (H2.at g2 (by rw [ofN_clamp (by omega)]; exact mapGet cs i)) ?_
    refine w.icmpEq d28_21 d28_21t (fun q1 => ?_) (fun q1 => ?_)
    · refine w.iinc (1 : Int32) #[.val (.ref t), .val (.ref u), .val (.int ((Int32.ofNat i) + (1 : Int32)))] d28_26 rfl rfl rfl ?_
      refine w.goto d28_29 d28_29t ?_
      rw [ofN_succ (by omega)]
      exact ih (i + 1) T (by omega) (fun j hj' => by
        by_cases e : j = i
        · subst e; exact q1
        · exact hj j (by omega)) w
    · refine w.iconst (0 : Int32) d28_24 rfl ?_
      exact w.retN d28_25 rfl (by simp) ⟨by rw [if_neg (fun e => q1 (by rw [e]))]; rfl, rfl⟩

set_option maxRecDepth 65536 in
set_option maxHeartbeats 40000000 in
theorem rmLE (l : Launch) (Z : State) (a0 : Array Value) (hw : ∀ d ∈ tables_1, d.before a0 Z = true) (bs cs : List Int32) (t u : Addr) (kb kc : ClassId) (h0 : Heap) (hE : Ext Z.heap h0) (hb : bs.length < 2 ^ 31) (hc : cs.length < 2 ^ 31) (A : Arv Z h0 t kb .byte (Int32.ofNat bs.length) (bs.map .int) (.int 0)) (B : Arv Z h0 u kc .byte (Int32.ofNat cs.length) (cs.map .int) (.int 0)) :
    Ct true l Z [] (⟨"java/lang/StringLatin1", "equals", "([B[B)Z"⟩ : MethodName) jdk_43_method_13_code 3 (some .boolean) [] ({ frames := 0, cells := 0, slots := 0, locals := 0 } : Room) [] #[(.ref t), (.ref u)] h0 (fun r v => r = some (.int (if bs = cs then 1 else 0)) ∧ h0 = v) := by
  refine Ct.intro pn_java_lang_StringLatin1 hE (fun m => ef28_rr m t u) nosf ⟨a0, own_EW hw⟩ ?_
  intro x T w
  obtain ⟨c1, A1, -, S1, M1, H1, -⟩ := id A
  obtain ⟨c2, B1, -, S2, M2, H2, -⟩ := id B
  refine w.aloadN d28_0 rfl rfl ?_
  refine w.alen (Int32.ofNat bs.length) d28_1 A1 (len_of S1 M1) ?_
  refine w.aloadN d28_2 rfl rfl ?_
  refine w.alen (Int32.ofNat cs.length) d28_3 B1 (len_of S2 M2) ?_
  refine w.icmpNe d28_4 d28_4t (fun q1 => ?_) (fun q1 => ?_)
  · refine w.iconst (0 : Int32) d28_34 rfl ?_
    exact w.retN d28_35 rfl (by simp) ⟨by rw [if_neg (fun e => q1 (by rw [e]))]; rfl, rfl⟩
  · refine w.iconst (0 : Int32) d28_7 rfl ?_
    refine w.istoreN #[.val (.ref t), .val (.ref u), .val (.int (0 : Int32))] d28_8 rfl ?_
    exact lpLE l Z bs cs t u kb kc h0 hb hc A B ((ofN_inj hb hc).mp q1) x _ _ _ _ bs.length 0 T (by omega) (fun j q => absurd q (Nat.not_lt_zero _)) w

theorem ef27_rr (m : MethodId) (x0 : Addr) (x1 : Addr) : entryFrame m #[(.ref x0), (.ref x1)] 3 = mkF m 0 #[.val (.ref x0), .val (.ref x1), .unset] [] := by first | (simp [entryFrame, mkF, argsToLocals, Value.category]; done) | rfl
set_option maxRecDepth 65536 in
set_option maxHeartbeats 40000000 in
theorem rmSE (l : Launch) (Z : State) (a0 : Array Value) (hw : ∀ d ∈ tables_1, d.before a0 Z = true) (hr : rest_1_c.value a0 Z none Z [] = some true) (bs cs : List Int32) (a b t u : Addr) (k : Int32) (h0 : Heap) (hE : Ext Z.heap h0) (Sa : StrL Z h0 a t k bs) (Sb : StrL Z h0 b u k cs) :
    Ct true l Z [] (⟨"java/lang/String", "equals", "(Ljava/lang/Object;)Z"⟩ : MethodName) jdk_42_method_66_code 3 (some .boolean) [] ({ frames := 1, cells := 0, slots := 0, locals := 16 } : Room) [] #[(.ref a), (.ref b)] h0 (fun r v => r = some (.int (if bs = cs then 1 else 0)) ∧ h0 = v) := by
  refine Ct.intro pn_java_lang_String hE (fun m => ef27_rr m a b) nosf ⟨a0, own_EW hw⟩ ?_
  intro x T w
  obtain ⟨cz, Scs, hcz⟩ := own_cs hr
  obtain ⟨Ea, Va, Ca, ka, Aa, la⟩ := id Sa
  obtain ⟨Eb, Vb, Cb, kb, Ab, lb⟩ := id Sb
  refine w.aloadN d27_0 rfl rfl ?_
  refine w.aloadN d27_1 rfl rfl ?_
  refine w.racmpNe d27_2 d27_2t (fun q1 => ?_) (fun q1 => ?_)
  · refine w.aloadN d27_7 rfl rfl ?_
    refine w.instY d27_8 (tw hw 22 rfl) (Ins.self Eb) ?_
    intro T w
    refine w.ifEq d27_11 d27_11t (fun q => absurd q (by decide)) (fun _ => ?_)
    refine w.aloadN d27_14 rfl rfl ?_
    refine w.cast d27_15 (tw hw 22 rfl) (Ins.self Eb) ?_
    intro T w
    refine w.astoreN #[.val (.ref a), .val (.ref b), .val (.ref b)] d27_18 rfl rfl ?_
    refine w.getS d27_19 (tw hw 17 rfl) Scs ?_
    intro T w
    refine w.ifEq d27_22 d27_22t (fun q => absurd q hcz) (fun _ => ?_)
    refine w.aloadN d27_25 rfl rfl ?_
    refine w.getF d27_26 (tw hw 37 rfl) Ca ?_
    intro T w
    refine w.aloadN d27_29 rfl rfl ?_
    refine w.getF d27_30 (tw hw 37 rfl) Cb ?_
    intro T w
    refine w.icmpNe d27_33 d27_33t (fun q => absurd rfl q) (fun _ => ?_)
    refine w.aloadN d27_36 rfl rfl ?_
    refine w.getF d27_37 (tw hw 35 rfl) Va ?_
    intro T w
    refine w.aloadN d27_40 rfl rfl ?_
    refine w.getF d27_41 (tw hw 35 rfl) Vb ?_
    intro T w
    refine w.callS (argsL := [(.ref t), (.ref u)]) (rest := []) 0 d27_44 (tw hw 130 rfl) (tw hw 131 rfl) (tw hw 20 rfl) (tw hw 132 rfl) (by decide) (rmLE l Z a0 hw bs cs t u ka kb h0 w.old la lb Aa Ab) (lenOf pd_7 rfl) rfl rfl (Nat.le_refl _) ⟨by decide, by decide, by decide, by decide⟩ all0 ?_
    intro T h1 r w _ hQ
    obtain ⟨rfl, rfl⟩ := hQ
    show Go x _ Z _ _ _ T 47 #[.val (.ref a), .val (.ref b), .val (.ref b)] [(.int (if bs = cs then 1 else 0))]
    refine w.ifEq d27_47 d27_47t (fun q2 => ?_) (fun q2 => ?_)
    · refine w.iconst (0 : Int32) d27_54 rfl ?_
      exact w.retN d27_55 rfl (by simp) ⟨by rw [if_neg (fun e => by rw [if_pos e] at q2; exact absurd q2 (by decide))]; rfl, rfl⟩
    · refine w.iconst (1 : Int32) d27_50 rfl ?_
      refine w.goto d27_51 d27_51t ?_
      exact w.retN d27_55 rfl (by simp) ⟨by rw [if_pos (Classical.byContradiction fun e => q2 (if_neg e))]; rfl, rfl⟩
  · refine w.iconst (1 : Int32) d27_5 rfl ?_
    exact w.retN d27_6 rfl (by simp) ⟨by subst q1; rw [if_pos (Sa.same Sb)]; rfl, rfl⟩

theorem ef13_r (m : MethodId) (x0 : Addr) : entryFrame m #[(.ref x0)] 1 = mkF m 0 #[.val (.ref x0)] [] := by first | (simp [entryFrame, mkF, argsToLocals, Value.category]; done) | rfl
set_option maxRecDepth 65536 in
set_option maxHeartbeats 40000000 in
theorem rmEm_1 (l : Launch) (Z : State) (a0 : Array Value) (hw : ∀ d ∈ tables_1, d.before a0 Z = true) (a t : Addr) (c0 : Int32) (h0 : Heap) (hE : Ext Z.heap h0) (Sa : StrL Z h0 a t 0 [nar .byte c0]) :
    Ct true l Z [] (⟨"java/lang/String", "isEmpty", "()Z"⟩ : MethodName) jdk_42_method_55_code 1 (some .boolean) [] ({ frames := 0, cells := 0, slots := 0, locals := 0 } : Room) [] #[(.ref a)] h0 (fun r u => r = some (.int (0 : Int32)) ∧ h0 = u) := by
  refine Ct.intro pn_java_lang_String hE (fun m => ef13_r m a) nosf ⟨a0, own_EW hw⟩ ?_
  intro x T w
  obtain ⟨Ea, Va, Ca, ka, Aa, -⟩ := id Sa
  obtain ⟨cla, Ara, -, Sa, Ma, Ha, -⟩ := Aa
  refine w.aloadN d13_0 rfl rfl ?_
  refine w.getF d13_1 (tw hw 35 rfl) Va ?_
  intro T w
  refine w.alen (1 : Int32) d13_4 Ara (len_of Sa Ma) ?_
  refine w.ifNe d13_5 d13_5t (fun _ => ?_) (fun q => absurd q (by decide))
  refine w.iconst (0 : Int32) d13_12 rfl ?_
  exact w.retN d13_13 rfl (by simp) ⟨rfl, rfl⟩

theorem ef21_r (m : MethodId) (x0 : Addr) : entryFrame m #[(.ref x0)] 1 = mkF m 0 #[.val (.ref x0)] [] := by first | (simp [entryFrame, mkF, argsToLocals, Value.category]; done) | rfl
set_option maxRecDepth 65536 in
set_option maxHeartbeats 40000000 in
theorem rmCo0 (l : Launch) (Z : State) (a0 : Array Value) (hw : ∀ d ∈ tables_1, d.before a0 Z = true) (hr : rest_1_c.value a0 Z none Z [] = some true) (a : Addr) (h0 : Heap) (hE : Ext Z.heap h0) (G1 : Fld Z h0 a "java/lang/String" "coder" "B" (.int (0 : Int32))) :
    Ct true l Z [] (⟨"java/lang/String", "coder", "()B"⟩ : MethodName) jdk_42_method_152_code 1 (some .byte) [] ({ frames := 0, cells := 0, slots := 0, locals := 0 } : Room) [] #[(.ref a)] h0 (fun r u => r = some (.int (0 : Int32)) ∧ h0 = u) := by
  refine Ct.intro pn_java_lang_String hE (fun m => ef21_r m a) nosf ⟨a0, own_EW hw⟩ ?_
  intro x T w
  obtain ⟨cz, Scs, hcz⟩ := own_cs hr
  refine w.getS d21_0 (tw hw 17 rfl) Scs ?_
  intro T w
  refine w.ifEq d21_3 d21_3t (fun q => absurd q hcz) (fun _ => ?_)
  refine w.aloadN d21_6 rfl rfl ?_
  refine w.getF d21_7 (tw hw 37 rfl) G1 ?_
  intro T w
  refine w.goto d21_10 d21_10t ?_
  exact w.retN d21_14 rfl (by simp) ⟨rfl, rfl⟩

theorem ef20_r (m : MethodId) (x0 : Addr) : entryFrame m #[(.ref x0)] 1 = mkF m 0 #[.val (.ref x0)] [] := by first | (simp [entryFrame, mkF, argsToLocals, Value.category]; done) | rfl
set_option maxRecDepth 65536 in
set_option maxHeartbeats 40000000 in
theorem rmLn_1 (l : Launch) (Z : State) (a0 : Array Value) (hw : ∀ d ∈ tables_1, d.before a0 Z = true) (hr : rest_1_c.value a0 Z none Z [] = some true) (a t : Addr) (c0 : Int32) (h0 : Heap) (hE : Ext Z.heap h0) (Sa : StrL Z h0 a t 0 [nar .byte c0]) :
    Ct true l Z [] (⟨"java/lang/String", "length", "()I"⟩ : MethodName) jdk_42_method_54_code 1 (some .int) [] ({ frames := 1, cells := 0, slots := 0, locals := 14 } : Room) [] #[(.ref a)] h0 (fun r u => r = some (.int (1 : Int32)) ∧ h0 = u) := by
  refine Ct.intro pn_java_lang_String hE (fun m => ef20_r m a) nosf ⟨a0, own_EW hw⟩ ?_
  intro x T w
  obtain ⟨Ea, Va, Ca, ka, Aa, -⟩ := id Sa
  obtain ⟨cla, Ara, -, Sa, Ma, Ha, -⟩ := Aa
  refine w.aloadN d20_0 rfl rfl ?_
  refine w.getF d20_1 (tw hw 35 rfl) Va ?_
  intro T w
  refine w.alen (1 : Int32) d20_4 Ara (len_of Sa Ma) ?_
  refine w.aloadN d20_5 rfl rfl ?_
  refine w.callV (argsL := []) (rest := [(.int (1 : Int32))]) 1 d20_6 (tw hw 90 rfl) (tw hw 91 rfl) (tw hw 93 rfl) (tw hw 92 rfl) (tw hw 15 rfl) (tw hw 94 rfl) (by decide) Ea (rmCo0 l Z a0 hw hr a h0 w.old Ca) (lenOf pd_8 rfl) rfl rfl (Nat.le_refl _) ⟨by decide, by decide, by decide, by decide⟩ all0 ?_
  intro T h1 r w _ hQ
  obtain ⟨rfl, rfl⟩ := hQ
  show Go x _ Z _ _ _ T 9 #[.val (.ref a)] [(.int (0 : Int32)), (.int (1 : Int32))]
  refine w.ishr d20_9 ?_
  exact w.retI d20_10 rfl ⟨rfl, rfl⟩

theorem own_si {Z : State} {a0 : Array Value} (hr : rest_1_c.value a0 Z none Z [] = some true) : ∃ v : Value, Sta Z Z.heap "jdk/internal/util/Preconditions" "SIOOBE_FORMATTER" "Ljava/util/function/BiFunction;" v ∧ v.isRef = true := by
  obtain ⟨v, ev, hv⟩ := isR_v (nw hr 8 rfl)
  exact ⟨v, Sta.start ev (Or.inl (Cond.before_iff.mpr (nw hr 7 rfl))), hv⟩
theorem efPC (m : MethodId) (i n : Int32) (v : Value) (hv : v.isRef = true) : entryFrame m #[.int i, .int n, v] 3 = mkF m 0 #[.val (.int i), .val (.int n), .val v] [] := by simp [entryFrame, mkF, argsToLocals, show ∀ z : Addr, (Value.ref z).category = 1 from fun _ => rfl, show ∀ z : Int32, (Value.int z).category = 1 from fun _ => rfl, XT.cat1 hv]
set_option maxRecDepth 65536 in
set_option maxHeartbeats 40000000 in
theorem rmPC (l : Launch) (Z : State) (a0 : Array Value) (hw : ∀ d ∈ tables_1, d.before a0 Z = true) (i n : Int32) (fm : Value) (hf : fm.isRef = true) (h1 : ¬ i < 0) (h2 : i < n) (h0 : Heap) (hE : Ext Z.heap h0) :
    Ct true l Z [] (⟨"jdk/internal/util/Preconditions", "checkIndex", "(IILjava/util/function/BiFunction;)I"⟩ : MethodName) jdk_41_method_11_code 3 (some .int) [] ({ frames := 0, cells := 0, slots := 0, locals := 0 } : Room) [] #[(.int i), (.int n), fm] h0 (fun r u => r = some (.int i) ∧ h0 = u) := by
  refine Ct.intro pn_jdk_internal_util_Preconditions hE (fun m => efPC m i n fm hf) nosf ⟨a0, own_EW hw⟩ ?_
  intro x T w
  refine w.iloadN d18_0 rfl ?_
  refine w.ifLt d18_1 d18_1t (fun q => absurd q h1) (fun _ => ?_)
  refine w.iloadN d18_4 rfl ?_
  refine w.iloadN d18_5 rfl ?_
  refine w.icmpLt d18_6 d18_6t (fun _ => ?_) (fun q => absurd h2 q)
  refine w.iloadN d18_16 rfl ?_
  exact w.retI d18_17 rfl ⟨rfl, rfl⟩

theorem ef17_ii (m : MethodId) (x0 : Int32) (x1 : Int32) : entryFrame m #[(.int x0), (.int x1)] 2 = mkF m 0 #[.val (.int x0), .val (.int x1)] [] := by first | (simp [entryFrame, mkF, argsToLocals, Value.category]; done) | rfl
set_option maxRecDepth 65536 in
set_option maxHeartbeats 40000000 in
theorem rmCI (l : Launch) (Z : State) (a0 : Array Value) (hw : ∀ d ∈ tables_1, d.before a0 Z = true) (hr : rest_1_c.value a0 Z none Z [] = some true) (i n : Int32) (h1 : ¬ i < 0) (h2 : i < n) (h0 : Heap) (hE : Ext Z.heap h0) :
    Ct true l Z [] (⟨"java/lang/String", "checkIndex", "(II)V"⟩ : MethodName) jdk_42_method_155_code 2 none [] ({ frames := 1, cells := 0, slots := 0, locals := 14 } : Room) [] #[(.int i), (.int n)] h0 (fun r u => r = none ∧ h0 = u) := by
  refine Ct.intro pn_java_lang_String hE (fun m => ef17_ii m i n) nosf ⟨a0, own_EW hw⟩ ?_
  intro x T w
  obtain ⟨fm, Sf, hf⟩ := own_si hr
  refine w.iloadN d17_0 rfl ?_
  refine w.iloadN d17_1 rfl ?_
  refine w.getS d17_2 (tw hw 77 rfl) Sf ?_
  intro T w
  refine w.callS (argsL := [(.int i), (.int n), fm]) (rest := []) 0 d17_5 (tw hw 79 rfl) (tw hw 80 rfl) (tw hw 78 rfl) (tw hw 81 rfl) (by decide) (rmPC l Z a0 hw i n fm hf h1 h2 h0 w.old) (lenOf pd_9 rfl) rfl rfl (Nat.le_refl _) ⟨by decide, by decide, by decide, by decide⟩ all0 ?_
  intro T h1 r w _ hQ
  obtain ⟨rfl, rfl⟩ := hQ
  show Go x _ Z _ _ _ T 8 #[.val (.int i), .val (.int n)] [(.int i)]
  refine w.pop d17_8 rfl ?_
  exact w.retV d17_9 rfl ⟨rfl, rfl⟩

theorem ef15_r (m : MethodId) (x0 : Addr) : entryFrame m #[(.ref x0)] 1 = mkF m 0 #[.val (.ref x0)] [] := by first | (simp [entryFrame, mkF, argsToLocals, Value.category]; done) | rfl
set_option maxRecDepth 65536 in
set_option maxHeartbeats 40000000 in
theorem rmIL0 (l : Launch) (Z : State) (a0 : Array Value) (hw : ∀ d ∈ tables_1, d.before a0 Z = true) (hr : rest_1_c.value a0 Z none Z [] = some true) (a : Addr) (h0 : Heap) (hE : Ext Z.heap h0) (G1 : Fld Z h0 a "java/lang/String" "coder" "B" (.int (0 : Int32))) :
    Ct true l Z [] (⟨"java/lang/String", "isLatin1", "()Z"⟩ : MethodName) jdk_42_method_154_code 1 (some .boolean) [] ({ frames := 0, cells := 0, slots := 0, locals := 0 } : Room) [] #[(.ref a)] h0 (fun r u => r = some (.int (1 : Int32)) ∧ h0 = u) := by
  refine Ct.intro pn_java_lang_String hE (fun m => ef15_r m a) nosf ⟨a0, own_EW hw⟩ ?_
  intro x T w
  obtain ⟨cz, Scs, hcz⟩ := own_cs hr
  refine w.getS d15_0 (tw hw 17 rfl) Scs ?_
  intro T w
  refine w.ifEq d15_3 d15_3t (fun q => absurd q hcz) (fun _ => ?_)
  refine w.aloadN d15_6 rfl rfl ?_
  refine w.getF d15_7 (tw hw 37 rfl) G1 ?_
  intro T w
  refine w.ifNe d15_10 d15_10t (fun q => absurd (by decide) q) (fun _ => ?_)
  refine w.iconst (1 : Int32) d15_13 rfl ?_
  refine w.goto d15_14 d15_14t ?_
  exact w.retN d15_18 rfl (by simp) ⟨rfl, rfl⟩

theorem ef16_ri (m : MethodId) (x0 : Addr) (x1 : Int32) : entryFrame m #[(.ref x0), (.int x1)] 2 = mkF m 0 #[.val (.ref x0), .val (.int x1)] [] := by first | (simp [entryFrame, mkF, argsToLocals, Value.category]; done) | rfl
set_option maxRecDepth 65536 in
set_option maxHeartbeats 40000000 in
theorem rmLA_1_0 (l : Launch) (Z : State) (a0 : Array Value) (hw : ∀ d ∈ tables_1, d.before a0 Z = true) (hr : rest_1_c.value a0 Z none Z [] = some true) (t : Addr) (kb : ClassId) (c0 : Int32) (h0 : Heap) (hE : Ext Z.heap h0) (A : Arv Z h0 t kb .byte (1 : Int32) [(.int (nar .byte c0))] (.int 0)) (z0 : 0 ≤ c0.toInt) (u0 : ¬ 255 < c0) :
    Ct true l Z [] (⟨"java/lang/StringLatin1", "charAt", "([BI)C"⟩ : MethodName) jdk_43_method_2_code 2 (some .char) [] ({ frames := 2, cells := 0, slots := 0, locals := 32 } : Room) [] #[(.ref t), (.int (0 : Int32))] h0 (fun r u => r = some (.int c0) ∧ h0 = u) := by
  refine Ct.intro pn_java_lang_StringLatin1 hE (fun m => ef16_ri m t _) nosf ⟨a0, own_EW hw⟩ ?_
  intro x T w
  obtain ⟨cla, Ara, -, Sa, Ma, Ha, -⟩ := id A
  refine w.iloadN d16_0 rfl ?_
  refine w.aloadN d16_1 rfl rfl ?_
  refine w.alen (1 : Int32) d16_2 Ara (len_of Sa Ma) ?_
  refine w.callS (argsL := [(.int (0 : Int32)), (.int (1 : Int32))]) (rest := []) 0 d16_3 (tw hw 74 rfl) (tw hw 75 rfl) (tw hw 15 rfl) (tw hw 76 rfl) (by decide) (rmCI l Z a0 hw hr (0 : Int32) (1 : Int32) (by decide) (by decide) h0 w.old) (lenOf pd_10 rfl) rfl rfl (Nat.le_refl _) ⟨by decide, by decide, by decide, by decide⟩ all0 ?_
  intro T h1 r w _ hQ
  obtain ⟨rfl, rfl⟩ := hQ
  show Go x _ Z _ _ _ T 6 #[.val (.ref t), .val (.int (0 : Int32))] []
  refine w.aloadN d16_6 rfl rfl ?_
  refine w.iloadN d16_7 rfl ?_
  refine w.baload d16_8 Ara (inb_of Sa (by decide)) (Ha.at (inb_of Sa (by decide)) rfl) ?_
  refine w.sipush (255 : Int32) d16_9 rfl ?_
  refine w.iand d16_12 ?_
  refine w.i2c d16_13 ?_
  exact w.retN d16_14 rfl (by simp) ⟨by rw [ncc, b255 z0 u0], rfl⟩

theorem ef14_ri (m : MethodId) (x0 : Addr) (x1 : Int32) : entryFrame m #[(.ref x0), (.int x1)] 2 = mkF m 0 #[.val (.ref x0), .val (.int x1)] [] := by first | (simp [entryFrame, mkF, argsToLocals, Value.category]; done) | rfl
set_option maxRecDepth 65536 in
set_option maxHeartbeats 40000000 in
theorem rmCA_1_0 (l : Launch) (Z : State) (a0 : Array Value) (hw : ∀ d ∈ tables_1, d.before a0 Z = true) (hr : rest_1_c.value a0 Z none Z [] = some true) (a t : Addr) (c0 : Int32) (h0 : Heap) (hE : Ext Z.heap h0) (Sa : StrL Z h0 a t 0 [nar .byte c0]) (z0 : 0 ≤ c0.toInt) (u0 : ¬ 255 < c0) (y0 : nar .char c0 = c0) :
    Ct true l Z [] (⟨"java/lang/String", "charAt", "(I)C"⟩ : MethodName) jdk_42_method_56_code 2 (some .char) [] ({ frames := 3, cells := 0, slots := 0, locals := 46 } : Room) [] #[(.ref a), (.int (0 : Int32))] h0 (fun r u => r = some (.int c0) ∧ h0 = u) := by
  refine Ct.intro pn_java_lang_String hE (fun m => ef14_ri m a _) nosf ⟨a0, own_EW hw⟩ ?_
  intro x T w
  obtain ⟨Ea, Va, Ca, ka, Aa, -⟩ := id Sa
  refine w.aloadN d14_0 rfl rfl ?_
  refine w.callV (argsL := []) (rest := []) 0 d14_1 (tw hw 66 rfl) (tw hw 67 rfl) (tw hw 69 rfl) (tw hw 68 rfl) (tw hw 15 rfl) (tw hw 70 rfl) (by decide) Ea (rmIL0 l Z a0 hw hr a h0 w.old Ca) (lenOf pd_11 rfl) rfl rfl (Nat.le_refl _) ⟨by decide, by decide, by decide, by decide⟩ all0 ?_
  intro T h1 r w _ hQ
  obtain ⟨rfl, rfl⟩ := hQ
  show Go x _ Z _ _ _ T 4 #[.val (.ref a), .val (.int (0 : Int32))] [(.int (1 : Int32))]
  refine w.ifEq d14_4 d14_4t (fun q => absurd q (by decide)) (fun _ => ?_)
  refine w.aloadN d14_7 rfl rfl ?_
  refine w.getF d14_8 (tw hw 35 rfl) Va ?_
  intro T w
  refine w.iloadN d14_11 rfl ?_
  refine w.callS (argsL := [(.ref t), (.int (0 : Int32))]) (rest := []) 0 d14_12 (tw hw 71 rfl) (tw hw 72 rfl) (tw hw 20 rfl) (tw hw 73 rfl) (by decide) (rmLA_1_0 l Z a0 hw hr t ka c0 h0 w.old Aa z0 u0) (lenOf pd_12 rfl) rfl rfl (Nat.le_refl _) ⟨by decide, by decide, by decide, by decide⟩ all0 ?_
  intro T h2 r w _ hQ
  obtain ⟨rfl, rfl⟩ := hQ
  show Go x _ Z _ _ _ T 15 #[.val (.ref a), .val (.int (0 : Int32))] [(.int c0)]
  exact w.retN d14_15 rfl (by simp) ⟨by rw [y0], rfl⟩

theorem ef23_ri (m : MethodId) (x0 : Addr) (x1 : Int32) : entryFrame m #[(.ref x0), (.int x1)] 3 = mkF m 0 #[.val (.ref x0), .val (.int x1), .unset] [] := by first | (simp [entryFrame, mkF, argsToLocals, Value.category]; done) | rfl
set_option maxRecDepth 65536 in
set_option maxHeartbeats 40000000 in
theorem rmCP_1_0 (l : Launch) (Z : State) (a0 : Array Value) (hw : ∀ d ∈ tables_1, d.before a0 Z = true) (hr : rest_1_c.value a0 Z none Z [] = some true) (a t : Addr) (c0 : Int32) (h0 : Heap) (hE : Ext Z.heap h0) (Sa : StrL Z h0 a t 0 [nar .byte c0]) (z0 : 0 ≤ c0.toInt) (u0 : ¬ 255 < c0) :
    Ct true l Z [] (⟨"java/lang/String", "codePointAt", "(I)I"⟩ : MethodName) jdk_42_method_57_code 3 (some .int) [] ({ frames := 2, cells := 0, slots := 0, locals := 32 } : Room) [] #[(.ref a), (.int (0 : Int32))] h0 (fun r u => r = some (.int c0) ∧ h0 = u) := by
  refine Ct.intro pn_java_lang_String hE (fun m => ef23_ri m a _) nosf ⟨a0, own_EW hw⟩ ?_
  intro x T w
  obtain ⟨Ea, Va, Ca, ka, Aa, -⟩ := id Sa
  obtain ⟨cla, Ara, -, Sa, Ma, Ha, -⟩ := Aa
  have Sa : cla.slots.size = (1 : Int32).toNatClampNeg := Sa
  refine w.aloadN d23_0 rfl rfl ?_
  refine w.callV (argsL := []) (rest := []) 0 d23_1 (tw hw 66 rfl) (tw hw 67 rfl) (tw hw 69 rfl) (tw hw 68 rfl) (tw hw 15 rfl) (tw hw 70 rfl) (by decide) Ea (rmIL0 l Z a0 hw hr a h0 w.old Ca) (lenOf pd_11 rfl) rfl rfl (Nat.le_refl _) ⟨by decide, by decide, by decide, by decide⟩ all0 ?_
  intro T h1 r w _ hQ
  obtain ⟨rfl, rfl⟩ := hQ
  show Go x _ Z _ _ _ T 4 #[.val (.ref a), .val (.int (0 : Int32)), .unset] [(.int (1 : Int32))]
  refine w.ifEq d23_4 d23_4t (fun q => absurd q (by decide)) (fun _ => ?_)
  refine w.iloadN d23_7 rfl ?_
  refine w.aloadN d23_8 rfl rfl ?_
  refine w.getF d23_9 (tw hw 35 rfl) Va ?_
  intro T w
  refine w.alen (1 : Int32) d23_12 Ara (len_of Sa Ma) ?_
  refine w.callS (argsL := [(.int (0 : Int32)), (.int (1 : Int32))]) (rest := []) 0 d23_13 (tw hw 104 rfl) (tw hw 75 rfl) (tw hw 15 rfl) (tw hw 76 rfl) (by decide) (rmCI l Z a0 hw hr (0 : Int32) (1 : Int32) (by decide) (by decide) h0 w.old) (lenOf pd_10 rfl) rfl rfl (Nat.le_refl _) ⟨by decide, by decide, by decide, by decide⟩ all0 ?_
  intro T h2 r w _ hQ
  obtain ⟨rfl, rfl⟩ := hQ
  show Go x _ Z _ _ _ T 16 #[.val (.ref a), .val (.int (0 : Int32)), .unset] []
  refine w.aloadN d23_16 rfl rfl ?_
  refine w.getF d23_17 (tw hw 35 rfl) Va ?_
  intro T w
  refine w.iloadN d23_20 rfl ?_
  refine w.baload d23_21 Ara (inb_of Sa (by decide)) (Ha.at (inb_of Sa (by decide)) rfl) ?_
  refine w.sipush (255 : Int32) d23_22 rfl ?_
  refine w.iand d23_25 ?_
  exact w.retI d23_26 rfl ⟨by rw [b255' z0 u0], rfl⟩

set_option maxRecDepth 65536 in
set_option maxHeartbeats 40000000 in
theorem rmEm_2 (l : Launch) (Z : State) (a0 : Array Value) (hw : ∀ d ∈ tables_1, d.before a0 Z = true) (a t : Addr) (c0 c1 : Int32) (h0 : Heap) (hE : Ext Z.heap h0) (Sa : StrL Z h0 a t 0 [nar .byte c0, nar .byte c1]) :
    Ct true l Z [] (⟨"java/lang/String", "isEmpty", "()Z"⟩ : MethodName) jdk_42_method_55_code 1 (some .boolean) [] ({ frames := 0, cells := 0, slots := 0, locals := 0 } : Room) [] #[(.ref a)] h0 (fun r u => r = some (.int (0 : Int32)) ∧ h0 = u) := by
  refine Ct.intro pn_java_lang_String hE (fun m => ef13_r m a) nosf ⟨a0, own_EW hw⟩ ?_
  intro x T w
  obtain ⟨Ea, Va, Ca, ka, Aa, -⟩ := id Sa
  obtain ⟨cla, Ara, -, Sa, Ma, Ha, -⟩ := Aa
  refine w.aloadN d13_0 rfl rfl ?_
  refine w.getF d13_1 (tw hw 35 rfl) Va ?_
  intro T w
  refine w.alen (2 : Int32) d13_4 Ara (len_of Sa Ma) ?_
  refine w.ifNe d13_5 d13_5t (fun _ => ?_) (fun q => absurd q (by decide))
  refine w.iconst (0 : Int32) d13_12 rfl ?_
  exact w.retN d13_13 rfl (by simp) ⟨rfl, rfl⟩

set_option maxRecDepth 65536 in
set_option maxHeartbeats 40000000 in
theorem rmLn_2 (l : Launch) (Z : State) (a0 : Array Value) (hw : ∀ d ∈ tables_1, d.before a0 Z = true) (hr : rest_1_c.value a0 Z none Z [] = some true) (a t : Addr) (c0 c1 : Int32) (h0 : Heap) (hE : Ext Z.heap h0) (Sa : StrL Z h0 a t 0 [nar .byte c0, nar .byte c1]) :
    Ct true l Z [] (⟨"java/lang/String", "length", "()I"⟩ : MethodName) jdk_42_method_54_code 1 (some .int) [] ({ frames := 1, cells := 0, slots := 0, locals := 14 } : Room) [] #[(.ref a)] h0 (fun r u => r = some (.int (2 : Int32)) ∧ h0 = u) := by
  refine Ct.intro pn_java_lang_String hE (fun m => ef20_r m a) nosf ⟨a0, own_EW hw⟩ ?_
  intro x T w
  obtain ⟨Ea, Va, Ca, ka, Aa, -⟩ := id Sa
  obtain ⟨cla, Ara, -, Sa, Ma, Ha, -⟩ := Aa
  refine w.aloadN d20_0 rfl rfl ?_
  refine w.getF d20_1 (tw hw 35 rfl) Va ?_
  intro T w
  refine w.alen (2 : Int32) d20_4 Ara (len_of Sa Ma) ?_
  refine w.aloadN d20_5 rfl rfl ?_
  refine w.callV (argsL := []) (rest := [(.int (2 : Int32))]) 1 d20_6 (tw hw 90 rfl) (tw hw 91 rfl) (tw hw 93 rfl) (tw hw 92 rfl) (tw hw 15 rfl) (tw hw 94 rfl) (by decide) Ea (rmCo0 l Z a0 hw hr a h0 w.old Ca) (lenOf pd_8 rfl) rfl rfl (Nat.le_refl _) ⟨by decide, by decide, by decide, by decide⟩ all0 ?_
  intro T h1 r w _ hQ
  obtain ⟨rfl, rfl⟩ := hQ
  show Go x _ Z _ _ _ T 9 #[.val (.ref a)] [(.int (0 : Int32)), (.int (2 : Int32))]
  refine w.ishr d20_9 ?_
  exact w.retI d20_10 rfl ⟨rfl, rfl⟩

set_option maxRecDepth 65536 in
set_option maxHeartbeats 40000000 in
theorem rmLA_2_0 (l : Launch) (Z : State) (a0 : Array Value) (hw : ∀ d ∈ tables_1, d.before a0 Z = true) (hr : rest_1_c.value a0 Z none Z [] = some true) (t : Addr) (kb : ClassId) (c0 c1 : Int32) (h0 : Heap) (hE : Ext Z.heap h0) (A : Arv Z h0 t kb .byte (2 : Int32) [(.int (nar .byte c0)), (.int (nar .byte c1))] (.int 0)) (z0 : 0 ≤ c0.toInt) (u0 : ¬ 255 < c0) (z1 : 0 ≤ c1.toInt) (u1 : ¬ 255 < c1) :
    Ct true l Z [] (⟨"java/lang/StringLatin1", "charAt", "([BI)C"⟩ : MethodName) jdk_43_method_2_code 2 (some .char) [] ({ frames := 2, cells := 0, slots := 0, locals := 32 } : Room) [] #[(.ref t), (.int (0 : Int32))] h0 (fun r u => r = some (.int c0) ∧ h0 = u) := by
  refine Ct.intro pn_java_lang_StringLatin1 hE (fun m => ef16_ri m t _) nosf ⟨a0, own_EW hw⟩ ?_
  intro x T w
  obtain ⟨cla, Ara, -, Sa, Ma, Ha, -⟩ := id A
  refine w.iloadN d16_0 rfl ?_
  refine w.aloadN d16_1 rfl rfl ?_
  refine w.alen (2 : Int32) d16_2 Ara (len_of Sa Ma) ?_
  refine w.callS (argsL := [(.int (0 : Int32)), (.int (2 : Int32))]) (rest := []) 0 d16_3 (tw hw 74 rfl) (tw hw 75 rfl) (tw hw 15 rfl) (tw hw 76 rfl) (by decide) (rmCI l Z a0 hw hr (0 : Int32) (2 : Int32) (by decide) (by decide) h0 w.old) (lenOf pd_10 rfl) rfl rfl (Nat.le_refl _) ⟨by decide, by decide, by decide, by decide⟩ all0 ?_
  intro T h1 r w _ hQ
  obtain ⟨rfl, rfl⟩ := hQ
  show Go x _ Z _ _ _ T 6 #[.val (.ref t), .val (.int (0 : Int32))] []
  refine w.aloadN d16_6 rfl rfl ?_
  refine w.iloadN d16_7 rfl ?_
  refine w.baload d16_8 Ara (inb_of Sa (by decide)) (Ha.at (inb_of Sa (by decide)) rfl) ?_
  refine w.sipush (255 : Int32) d16_9 rfl ?_
  refine w.iand d16_12 ?_
  refine w.i2c d16_13 ?_
  exact w.retN d16_14 rfl (by simp) ⟨by rw [ncc, b255 z0 u0], rfl⟩

set_option maxRecDepth 65536 in
set_option maxHeartbeats 40000000 in
theorem rmCA_2_0 (l : Launch) (Z : State) (a0 : Array Value) (hw : ∀ d ∈ tables_1, d.before a0 Z = true) (hr : rest_1_c.value a0 Z none Z [] = some true) (a t : Addr) (c0 c1 : Int32) (h0 : Heap) (hE : Ext Z.heap h0) (Sa : StrL Z h0 a t 0 [nar .byte c0, nar .byte c1]) (z0 : 0 ≤ c0.toInt) (u0 : ¬ 255 < c0) (z1 : 0 ≤ c1.toInt) (u1 : ¬ 255 < c1) (y0 : nar .char c0 = c0) (y1 : nar .char c1 = c1) :
    Ct true l Z [] (⟨"java/lang/String", "charAt", "(I)C"⟩ : MethodName) jdk_42_method_56_code 2 (some .char) [] ({ frames := 3, cells := 0, slots := 0, locals := 46 } : Room) [] #[(.ref a), (.int (0 : Int32))] h0 (fun r u => r = some (.int c0) ∧ h0 = u) := by
  refine Ct.intro pn_java_lang_String hE (fun m => ef14_ri m a _) nosf ⟨a0, own_EW hw⟩ ?_
  intro x T w
  obtain ⟨Ea, Va, Ca, ka, Aa, -⟩ := id Sa
  refine w.aloadN d14_0 rfl rfl ?_
  refine w.callV (argsL := []) (rest := []) 0 d14_1 (tw hw 66 rfl) (tw hw 67 rfl) (tw hw 69 rfl) (tw hw 68 rfl) (tw hw 15 rfl) (tw hw 70 rfl) (by decide) Ea (rmIL0 l Z a0 hw hr a h0 w.old Ca) (lenOf pd_11 rfl) rfl rfl (Nat.le_refl _) ⟨by decide, by decide, by decide, by decide⟩ all0 ?_
  intro T h1 r w _ hQ
  obtain ⟨rfl, rfl⟩ := hQ
  show Go x _ Z _ _ _ T 4 #[.val (.ref a), .val (.int (0 : Int32))] [(.int (1 : Int32))]
  refine w.ifEq d14_4 d14_4t (fun q => absurd q (by decide)) (fun _ => ?_)
  refine w.aloadN d14_7 rfl rfl ?_
  refine w.getF d14_8 (tw hw 35 rfl) Va ?_
  intro T w
  refine w.iloadN d14_11 rfl ?_
  refine w.callS (argsL := [(.ref t), (.int (0 : Int32))]) (rest := []) 0 d14_12 (tw hw 71 rfl) (tw hw 72 rfl) (tw hw 20 rfl) (tw hw 73 rfl) (by decide) (rmLA_2_0 l Z a0 hw hr t ka c0 c1 h0 w.old Aa z0 u0 z1 u1) (lenOf pd_12 rfl) rfl rfl (Nat.le_refl _) ⟨by decide, by decide, by decide, by decide⟩ all0 ?_
  intro T h2 r w _ hQ
  obtain ⟨rfl, rfl⟩ := hQ
  show Go x _ Z _ _ _ T 15 #[.val (.ref a), .val (.int (0 : Int32))] [(.int c0)]
  exact w.retN d14_15 rfl (by simp) ⟨by rw [y0], rfl⟩

set_option maxRecDepth 65536 in
set_option maxHeartbeats 40000000 in
theorem rmCP_2_0 (l : Launch) (Z : State) (a0 : Array Value) (hw : ∀ d ∈ tables_1, d.before a0 Z = true) (hr : rest_1_c.value a0 Z none Z [] = some true) (a t : Addr) (c0 c1 : Int32) (h0 : Heap) (hE : Ext Z.heap h0) (Sa : StrL Z h0 a t 0 [nar .byte c0, nar .byte c1]) (z0 : 0 ≤ c0.toInt) (u0 : ¬ 255 < c0) (z1 : 0 ≤ c1.toInt) (u1 : ¬ 255 < c1) :
    Ct true l Z [] (⟨"java/lang/String", "codePointAt", "(I)I"⟩ : MethodName) jdk_42_method_57_code 3 (some .int) [] ({ frames := 2, cells := 0, slots := 0, locals := 32 } : Room) [] #[(.ref a), (.int (0 : Int32))] h0 (fun r u => r = some (.int c0) ∧ h0 = u) := by
  refine Ct.intro pn_java_lang_String hE (fun m => ef23_ri m a _) nosf ⟨a0, own_EW hw⟩ ?_
  intro x T w
  obtain ⟨Ea, Va, Ca, ka, Aa, -⟩ := id Sa
  obtain ⟨cla, Ara, -, Sa, Ma, Ha, -⟩ := Aa
  have Sa : cla.slots.size = (2 : Int32).toNatClampNeg := Sa
  refine w.aloadN d23_0 rfl rfl ?_
  refine w.callV (argsL := []) (rest := []) 0 d23_1 (tw hw 66 rfl) (tw hw 67 rfl) (tw hw 69 rfl) (tw hw 68 rfl) (tw hw 15 rfl) (tw hw 70 rfl) (by decide) Ea (rmIL0 l Z a0 hw hr a h0 w.old Ca) (lenOf pd_11 rfl) rfl rfl (Nat.le_refl _) ⟨by decide, by decide, by decide, by decide⟩ all0 ?_
  intro T h1 r w _ hQ
  obtain ⟨rfl, rfl⟩ := hQ
  show Go x _ Z _ _ _ T 4 #[.val (.ref a), .val (.int (0 : Int32)), .unset] [(.int (1 : Int32))]
  refine w.ifEq d23_4 d23_4t (fun q => absurd q (by decide)) (fun _ => ?_)
  refine w.iloadN d23_7 rfl ?_
  refine w.aloadN d23_8 rfl rfl ?_
  refine w.getF d23_9 (tw hw 35 rfl) Va ?_
  intro T w
  refine w.alen (2 : Int32) d23_12 Ara (len_of Sa Ma) ?_
  refine w.callS (argsL := [(.int (0 : Int32)), (.int (2 : Int32))]) (rest := []) 0 d23_13 (tw hw 104 rfl) (tw hw 75 rfl) (tw hw 15 rfl) (tw hw 76 rfl) (by decide) (rmCI l Z a0 hw hr (0 : Int32) (2 : Int32) (by decide) (by decide) h0 w.old) (lenOf pd_10 rfl) rfl rfl (Nat.le_refl _) ⟨by decide, by decide, by decide, by decide⟩ all0 ?_
  intro T h2 r w _ hQ
  obtain ⟨rfl, rfl⟩ := hQ
  show Go x _ Z _ _ _ T 16 #[.val (.ref a), .val (.int (0 : Int32)), .unset] []
  refine w.aloadN d23_16 rfl rfl ?_
  refine w.getF d23_17 (tw hw 35 rfl) Va ?_
  intro T w
  refine w.iloadN d23_20 rfl ?_
  refine w.baload d23_21 Ara (inb_of Sa (by decide)) (Ha.at (inb_of Sa (by decide)) rfl) ?_
  refine w.sipush (255 : Int32) d23_22 rfl ?_
  refine w.iand d23_25 ?_
  exact w.retI d23_26 rfl ⟨by rw [b255' z0 u0], rfl⟩

set_option maxRecDepth 65536 in
set_option maxHeartbeats 40000000 in
theorem rmLA_2_1 (l : Launch) (Z : State) (a0 : Array Value) (hw : ∀ d ∈ tables_1, d.before a0 Z = true) (hr : rest_1_c.value a0 Z none Z [] = some true) (t : Addr) (kb : ClassId) (c0 c1 : Int32) (h0 : Heap) (hE : Ext Z.heap h0) (A : Arv Z h0 t kb .byte (2 : Int32) [(.int (nar .byte c0)), (.int (nar .byte c1))] (.int 0)) (z0 : 0 ≤ c0.toInt) (u0 : ¬ 255 < c0) (z1 : 0 ≤ c1.toInt) (u1 : ¬ 255 < c1) :
    Ct true l Z [] (⟨"java/lang/StringLatin1", "charAt", "([BI)C"⟩ : MethodName) jdk_43_method_2_code 2 (some .char) [] ({ frames := 2, cells := 0, slots := 0, locals := 32 } : Room) [] #[(.ref t), (.int (1 : Int32))] h0 (fun r u => r = some (.int c1) ∧ h0 = u) := by
  refine Ct.intro pn_java_lang_StringLatin1 hE (fun m => ef16_ri m t _) nosf ⟨a0, own_EW hw⟩ ?_
  intro x T w
  obtain ⟨cla, Ara, -, Sa, Ma, Ha, -⟩ := id A
  refine w.iloadN d16_0 rfl ?_
  refine w.aloadN d16_1 rfl rfl ?_
  refine w.alen (2 : Int32) d16_2 Ara (len_of Sa Ma) ?_
  refine w.callS (argsL := [(.int (1 : Int32)), (.int (2 : Int32))]) (rest := []) 0 d16_3 (tw hw 74 rfl) (tw hw 75 rfl) (tw hw 15 rfl) (tw hw 76 rfl) (by decide) (rmCI l Z a0 hw hr (1 : Int32) (2 : Int32) (by decide) (by decide) h0 w.old) (lenOf pd_10 rfl) rfl rfl (Nat.le_refl _) ⟨by decide, by decide, by decide, by decide⟩ all0 ?_
  intro T h1 r w _ hQ
  obtain ⟨rfl, rfl⟩ := hQ
  show Go x _ Z _ _ _ T 6 #[.val (.ref t), .val (.int (1 : Int32))] []
  refine w.aloadN d16_6 rfl rfl ?_
  refine w.iloadN d16_7 rfl ?_
  refine w.baload d16_8 Ara (inb_of Sa (by decide)) (Ha.at (inb_of Sa (by decide)) rfl) ?_
  refine w.sipush (255 : Int32) d16_9 rfl ?_
  refine w.iand d16_12 ?_
  refine w.i2c d16_13 ?_
  exact w.retN d16_14 rfl (by simp) ⟨by rw [ncc, b255 z1 u1], rfl⟩

set_option maxRecDepth 65536 in
set_option maxHeartbeats 40000000 in
theorem rmCA_2_1 (l : Launch) (Z : State) (a0 : Array Value) (hw : ∀ d ∈ tables_1, d.before a0 Z = true) (hr : rest_1_c.value a0 Z none Z [] = some true) (a t : Addr) (c0 c1 : Int32) (h0 : Heap) (hE : Ext Z.heap h0) (Sa : StrL Z h0 a t 0 [nar .byte c0, nar .byte c1]) (z0 : 0 ≤ c0.toInt) (u0 : ¬ 255 < c0) (z1 : 0 ≤ c1.toInt) (u1 : ¬ 255 < c1) (y0 : nar .char c0 = c0) (y1 : nar .char c1 = c1) :
    Ct true l Z [] (⟨"java/lang/String", "charAt", "(I)C"⟩ : MethodName) jdk_42_method_56_code 2 (some .char) [] ({ frames := 3, cells := 0, slots := 0, locals := 46 } : Room) [] #[(.ref a), (.int (1 : Int32))] h0 (fun r u => r = some (.int c1) ∧ h0 = u) := by
  refine Ct.intro pn_java_lang_String hE (fun m => ef14_ri m a _) nosf ⟨a0, own_EW hw⟩ ?_
  intro x T w
  obtain ⟨Ea, Va, Ca, ka, Aa, -⟩ := id Sa
  refine w.aloadN d14_0 rfl rfl ?_
  refine w.callV (argsL := []) (rest := []) 0 d14_1 (tw hw 66 rfl) (tw hw 67 rfl) (tw hw 69 rfl) (tw hw 68 rfl) (tw hw 15 rfl) (tw hw 70 rfl) (by decide) Ea (rmIL0 l Z a0 hw hr a h0 w.old Ca) (lenOf pd_11 rfl) rfl rfl (Nat.le_refl _) ⟨by decide, by decide, by decide, by decide⟩ all0 ?_
  intro T h1 r w _ hQ
  obtain ⟨rfl, rfl⟩ := hQ
  show Go x _ Z _ _ _ T 4 #[.val (.ref a), .val (.int (1 : Int32))] [(.int (1 : Int32))]
  refine w.ifEq d14_4 d14_4t (fun q => absurd q (by decide)) (fun _ => ?_)
  refine w.aloadN d14_7 rfl rfl ?_
  refine w.getF d14_8 (tw hw 35 rfl) Va ?_
  intro T w
  refine w.iloadN d14_11 rfl ?_
  refine w.callS (argsL := [(.ref t), (.int (1 : Int32))]) (rest := []) 0 d14_12 (tw hw 71 rfl) (tw hw 72 rfl) (tw hw 20 rfl) (tw hw 73 rfl) (by decide) (rmLA_2_1 l Z a0 hw hr t ka c0 c1 h0 w.old Aa z0 u0 z1 u1) (lenOf pd_12 rfl) rfl rfl (Nat.le_refl _) ⟨by decide, by decide, by decide, by decide⟩ all0 ?_
  intro T h2 r w _ hQ
  obtain ⟨rfl, rfl⟩ := hQ
  show Go x _ Z _ _ _ T 15 #[.val (.ref a), .val (.int (1 : Int32))] [(.int c1)]
  exact w.retN d14_15 rfl (by simp) ⟨by rw [y1], rfl⟩

set_option maxRecDepth 65536 in
set_option maxHeartbeats 40000000 in
theorem rmCP_2_1 (l : Launch) (Z : State) (a0 : Array Value) (hw : ∀ d ∈ tables_1, d.before a0 Z = true) (hr : rest_1_c.value a0 Z none Z [] = some true) (a t : Addr) (c0 c1 : Int32) (h0 : Heap) (hE : Ext Z.heap h0) (Sa : StrL Z h0 a t 0 [nar .byte c0, nar .byte c1]) (z0 : 0 ≤ c0.toInt) (u0 : ¬ 255 < c0) (z1 : 0 ≤ c1.toInt) (u1 : ¬ 255 < c1) :
    Ct true l Z [] (⟨"java/lang/String", "codePointAt", "(I)I"⟩ : MethodName) jdk_42_method_57_code 3 (some .int) [] ({ frames := 2, cells := 0, slots := 0, locals := 32 } : Room) [] #[(.ref a), (.int (1 : Int32))] h0 (fun r u => r = some (.int c1) ∧ h0 = u) := by
  refine Ct.intro pn_java_lang_String hE (fun m => ef23_ri m a _) nosf ⟨a0, own_EW hw⟩ ?_
  intro x T w
  obtain ⟨Ea, Va, Ca, ka, Aa, -⟩ := id Sa
  obtain ⟨cla, Ara, -, Sa, Ma, Ha, -⟩ := Aa
  have Sa : cla.slots.size = (2 : Int32).toNatClampNeg := Sa
  refine w.aloadN d23_0 rfl rfl ?_
  refine w.callV (argsL := []) (rest := []) 0 d23_1 (tw hw 66 rfl) (tw hw 67 rfl) (tw hw 69 rfl) (tw hw 68 rfl) (tw hw 15 rfl) (tw hw 70 rfl) (by decide) Ea (rmIL0 l Z a0 hw hr a h0 w.old Ca) (lenOf pd_11 rfl) rfl rfl (Nat.le_refl _) ⟨by decide, by decide, by decide, by decide⟩ all0 ?_
  intro T h1 r w _ hQ
  obtain ⟨rfl, rfl⟩ := hQ
  show Go x _ Z _ _ _ T 4 #[.val (.ref a), .val (.int (1 : Int32)), .unset] [(.int (1 : Int32))]
  refine w.ifEq d23_4 d23_4t (fun q => absurd q (by decide)) (fun _ => ?_)
  refine w.iloadN d23_7 rfl ?_
  refine w.aloadN d23_8 rfl rfl ?_
  refine w.getF d23_9 (tw hw 35 rfl) Va ?_
  intro T w
  refine w.alen (2 : Int32) d23_12 Ara (len_of Sa Ma) ?_
  refine w.callS (argsL := [(.int (1 : Int32)), (.int (2 : Int32))]) (rest := []) 0 d23_13 (tw hw 104 rfl) (tw hw 75 rfl) (tw hw 15 rfl) (tw hw 76 rfl) (by decide) (rmCI l Z a0 hw hr (1 : Int32) (2 : Int32) (by decide) (by decide) h0 w.old) (lenOf pd_10 rfl) rfl rfl (Nat.le_refl _) ⟨by decide, by decide, by decide, by decide⟩ all0 ?_
  intro T h2 r w _ hQ
  obtain ⟨rfl, rfl⟩ := hQ
  show Go x _ Z _ _ _ T 16 #[.val (.ref a), .val (.int (1 : Int32)), .unset] []
  refine w.aloadN d23_16 rfl rfl ?_
  refine w.getF d23_17 (tw hw 35 rfl) Va ?_
  intro T w
  refine w.iloadN d23_20 rfl ?_
  refine w.baload d23_21 Ara (inb_of Sa (by decide)) (Ha.at (inb_of Sa (by decide)) rfl) ?_
  refine w.sipush (255 : Int32) d23_22 rfl ?_
  refine w.iand d23_25 ?_
  exact w.retI d23_26 rfl ⟨by rw [b255' z1 u1], rfl⟩

theorem d1_0 : Dc method_2_code 0 (.iload_n 0) 1 1 := ⟨by decide +kernel, rfl⟩
theorem d1_1 : Dc method_2_code 1 (.bipush 7) 2 3 := ⟨by decide +kernel, rfl⟩
theorem d1_3 : Dc method_2_code 3 .iand 1 4 := ⟨by decide +kernel, rfl⟩
theorem d1_4 : Dc method_2_code 4 (.istore_n 1) 1 5 := ⟨by decide +kernel, rfl⟩
theorem d1_5 : Dc method_2_code 5 (.iload_n 1) 1 6 := ⟨by decide +kernel, rfl⟩
theorem d1_6 : Dc method_2_code 6 (.ifCond .ne 6) 3 9 := ⟨by decide +kernel, rfl⟩
theorem d1_6t : Tg 6 (6) 12 := ⟨by decide, by decide⟩
theorem d1_9 : Dc method_2_code 9 (.bipush 65) 2 11 := ⟨by decide +kernel, rfl⟩
theorem d1_11 : Dc method_2_code 11 .ireturn 1 12 := ⟨by decide +kernel, rfl⟩
theorem d1_12 : Dc method_2_code 12 (.iload_n 1) 1 13 := ⟨by decide +kernel, rfl⟩
theorem d1_13 : Dc method_2_code 13 (.iconst 1) 1 14 := ⟨by decide +kernel, rfl⟩
theorem d1_14 : Dc method_2_code 14 (.if_icmp .ne 6) 3 17 := ⟨by decide +kernel, rfl⟩
theorem d1_14t : Tg 14 (6) 20 := ⟨by decide, by decide⟩
theorem d1_17 : Dc method_2_code 17 (.bipush 66) 2 19 := ⟨by decide +kernel, rfl⟩
theorem d1_19 : Dc method_2_code 19 .ireturn 1 20 := ⟨by decide +kernel, rfl⟩
theorem d1_20 : Dc method_2_code 20 (.iload_n 1) 1 21 := ⟨by decide +kernel, rfl⟩
theorem d1_21 : Dc method_2_code 21 (.iconst 2) 1 22 := ⟨by decide +kernel, rfl⟩
theorem d1_22 : Dc method_2_code 22 (.if_icmp .ne 6) 3 25 := ⟨by decide +kernel, rfl⟩
theorem d1_22t : Tg 22 (6) 28 := ⟨by decide, by decide⟩
theorem d1_25 : Dc method_2_code 25 (.bipush 89) 2 27 := ⟨by decide +kernel, rfl⟩
theorem d1_27 : Dc method_2_code 27 .ireturn 1 28 := ⟨by decide +kernel, rfl⟩
theorem d1_28 : Dc method_2_code 28 (.iload_n 1) 1 29 := ⟨by decide +kernel, rfl⟩
theorem d1_29 : Dc method_2_code 29 (.iconst 3) 1 30 := ⟨by decide +kernel, rfl⟩
theorem d1_30 : Dc method_2_code 30 (.if_icmp .ne 6) 3 33 := ⟨by decide +kernel, rfl⟩
theorem d1_30t : Tg 30 (6) 36 := ⟨by decide, by decide⟩
theorem d1_33 : Dc method_2_code 33 (.bipush 90) 2 35 := ⟨by decide +kernel, rfl⟩
theorem d1_35 : Dc method_2_code 35 .ireturn 1 36 := ⟨by decide +kernel, rfl⟩
theorem d1_36 : Dc method_2_code 36 (.iload_n 1) 1 37 := ⟨by decide +kernel, rfl⟩
theorem d1_37 : Dc method_2_code 37 (.iconst 4) 1 38 := ⟨by decide +kernel, rfl⟩
theorem d1_38 : Dc method_2_code 38 (.if_icmp .ne 6) 3 41 := ⟨by decide +kernel, rfl⟩
theorem d1_38t : Tg 38 (6) 44 := ⟨by decide, by decide⟩
theorem d1_41 : Dc method_2_code 41 (.bipush 97) 2 43 := ⟨by decide +kernel, rfl⟩
theorem d1_43 : Dc method_2_code 43 .ireturn 1 44 := ⟨by decide +kernel, rfl⟩
theorem d1_44 : Dc method_2_code 44 (.iload_n 1) 1 45 := ⟨by decide +kernel, rfl⟩
theorem d1_45 : Dc method_2_code 45 (.iconst 5) 1 46 := ⟨by decide +kernel, rfl⟩
theorem d1_46 : Dc method_2_code 46 (.if_icmp .ne 6) 3 49 := ⟨by decide +kernel, rfl⟩
theorem d1_46t : Tg 46 (6) 52 := ⟨by decide, by decide⟩
theorem d1_49 : Dc method_2_code 49 (.bipush 98) 2 51 := ⟨by decide +kernel, rfl⟩
theorem d1_51 : Dc method_2_code 51 .ireturn 1 52 := ⟨by decide +kernel, rfl⟩
theorem d1_52 : Dc method_2_code 52 (.iload_n 1) 1 53 := ⟨by decide +kernel, rfl⟩
theorem d1_53 : Dc method_2_code 53 (.bipush 6) 2 55 := ⟨by decide +kernel, rfl⟩
theorem d1_55 : Dc method_2_code 55 (.if_icmp .ne 6) 3 58 := ⟨by decide +kernel, rfl⟩
theorem d1_55t : Tg 55 (6) 61 := ⟨by decide, by decide⟩
theorem d1_58 : Dc method_2_code 58 (.bipush 121) 2 60 := ⟨by decide +kernel, rfl⟩
theorem d1_60 : Dc method_2_code 60 .ireturn 1 61 := ⟨by decide +kernel, rfl⟩
theorem d1_61 : Dc method_2_code 61 (.bipush 122) 2 63 := ⟨by decide +kernel, rfl⟩
theorem d1_63 : Dc method_2_code 63 .ireturn 1 64 := ⟨by decide +kernel, rfl⟩
theorem d2_0 : Dc method_3_code 0 (.iload_n 0) 1 1 := ⟨by decide +kernel, rfl⟩
theorem d2_1 : Dc method_3_code 1 (.bipush 7) 2 3 := ⟨by decide +kernel, rfl⟩
theorem d2_3 : Dc method_3_code 3 .iand 1 4 := ⟨by decide +kernel, rfl⟩
theorem d2_4 : Dc method_3_code 4 (.istore_n 1) 1 5 := ⟨by decide +kernel, rfl⟩
theorem d2_5 : Dc method_3_code 5 (.iload_n 1) 1 6 := ⟨by decide +kernel, rfl⟩
theorem d2_6 : Dc method_3_code 6 (.ifCond .ne 6) 3 9 := ⟨by decide +kernel, rfl⟩
theorem d2_6t : Tg 6 (6) 12 := ⟨by decide, by decide⟩
theorem d2_9 : Dc method_3_code 9 (.bipush 65) 2 11 := ⟨by decide +kernel, rfl⟩
theorem d2_11 : Dc method_3_code 11 .ireturn 1 12 := ⟨by decide +kernel, rfl⟩
theorem d2_12 : Dc method_3_code 12 (.iload_n 1) 1 13 := ⟨by decide +kernel, rfl⟩
theorem d2_13 : Dc method_3_code 13 (.iconst 1) 1 14 := ⟨by decide +kernel, rfl⟩
theorem d2_14 : Dc method_3_code 14 (.if_icmp .ne 6) 3 17 := ⟨by decide +kernel, rfl⟩
theorem d2_14t : Tg 14 (6) 20 := ⟨by decide, by decide⟩
theorem d2_17 : Dc method_3_code 17 (.bipush 97) 2 19 := ⟨by decide +kernel, rfl⟩
theorem d2_19 : Dc method_3_code 19 .ireturn 1 20 := ⟨by decide +kernel, rfl⟩
theorem d2_20 : Dc method_3_code 20 (.iload_n 1) 1 21 := ⟨by decide +kernel, rfl⟩
theorem d2_21 : Dc method_3_code 21 (.iconst 2) 1 22 := ⟨by decide +kernel, rfl⟩
theorem d2_22 : Dc method_3_code 22 (.if_icmp .ne 6) 3 25 := ⟨by decide +kernel, rfl⟩
theorem d2_22t : Tg 22 (6) 28 := ⟨by decide, by decide⟩
theorem d2_25 : Dc method_3_code 25 (.bipush 48) 2 27 := ⟨by decide +kernel, rfl⟩
theorem d2_27 : Dc method_3_code 27 .ireturn 1 28 := ⟨by decide +kernel, rfl⟩
theorem d2_28 : Dc method_3_code 28 (.iload_n 1) 1 29 := ⟨by decide +kernel, rfl⟩
theorem d2_29 : Dc method_3_code 29 (.iconst 3) 1 30 := ⟨by decide +kernel, rfl⟩
theorem d2_30 : Dc method_3_code 30 (.if_icmp .ne 6) 3 33 := ⟨by decide +kernel, rfl⟩
theorem d2_30t : Tg 30 (6) 36 := ⟨by decide, by decide⟩
theorem d2_33 : Dc method_3_code 33 (.bipush 57) 2 35 := ⟨by decide +kernel, rfl⟩
theorem d2_35 : Dc method_3_code 35 .ireturn 1 36 := ⟨by decide +kernel, rfl⟩
theorem d2_36 : Dc method_3_code 36 (.iload_n 1) 1 37 := ⟨by decide +kernel, rfl⟩
theorem d2_37 : Dc method_3_code 37 (.iconst 4) 1 38 := ⟨by decide +kernel, rfl⟩
theorem d2_38 : Dc method_3_code 38 (.if_icmp .ne 6) 3 41 := ⟨by decide +kernel, rfl⟩
theorem d2_38t : Tg 38 (6) 44 := ⟨by decide, by decide⟩
theorem d2_41 : Dc method_3_code 41 (.bipush 95) 2 43 := ⟨by decide +kernel, rfl⟩
theorem d2_43 : Dc method_3_code 43 .ireturn 1 44 := ⟨by decide +kernel, rfl⟩
theorem d2_44 : Dc method_3_code 44 (.iload_n 1) 1 45 := ⟨by decide +kernel, rfl⟩
theorem d2_45 : Dc method_3_code 45 (.iconst 5) 1 46 := ⟨by decide +kernel, rfl⟩
theorem d2_46 : Dc method_3_code 46 (.if_icmp .ne 6) 3 49 := ⟨by decide +kernel, rfl⟩
theorem d2_46t : Tg 46 (6) 52 := ⟨by decide, by decide⟩
theorem d2_49 : Dc method_3_code 49 (.bipush 45) 2 51 := ⟨by decide +kernel, rfl⟩
theorem d2_51 : Dc method_3_code 51 .ireturn 1 52 := ⟨by decide +kernel, rfl⟩
theorem d2_52 : Dc method_3_code 52 (.iload_n 1) 1 53 := ⟨by decide +kernel, rfl⟩
theorem d2_53 : Dc method_3_code 53 (.bipush 6) 2 55 := ⟨by decide +kernel, rfl⟩
theorem d2_55 : Dc method_3_code 55 (.if_icmp .ne 6) 3 58 := ⟨by decide +kernel, rfl⟩
theorem d2_55t : Tg 55 (6) 61 := ⟨by decide, by decide⟩
theorem d2_58 : Dc method_3_code 58 (.bipush 46) 2 60 := ⟨by decide +kernel, rfl⟩
theorem d2_60 : Dc method_3_code 60 .ireturn 1 61 := ⟨by decide +kernel, rfl⟩
theorem d2_61 : Dc method_3_code 61 (.bipush 122) 2 63 := ⟨by decide +kernel, rfl⟩
theorem d2_63 : Dc method_3_code 63 .ireturn 1 64 := ⟨by decide +kernel, rfl⟩
theorem d3_0 : Dc method_4_code 0 (.iload_n 0) 1 1 := ⟨by decide +kernel, rfl⟩
theorem d3_1 : Dc method_4_code 1 (.sipush 255) 3 4 := ⟨by decide +kernel, rfl⟩
theorem d3_4 : Dc method_4_code 4 .iand 1 5 := ⟨by decide +kernel, rfl⟩
theorem d3_5 : Dc method_4_code 5 (.istore_n 1) 1 6 := ⟨by decide +kernel, rfl⟩
theorem d3_6 : Dc method_4_code 6 (.iload_n 1) 1 7 := ⟨by decide +kernel, rfl⟩
theorem d3_7 : Dc method_4_code 7 (.bipush 32) 2 9 := ⟨by decide +kernel, rfl⟩
theorem d3_9 : Dc method_4_code 9 (.if_icmp .lt 33) 3 12 := ⟨by decide +kernel, rfl⟩
theorem d3_9t : Tg 9 (33) 42 := ⟨by decide, by decide⟩
theorem d3_12 : Dc method_4_code 12 (.iload_n 1) 1 13 := ⟨by decide +kernel, rfl⟩
theorem d3_13 : Dc method_4_code 13 (.bipush 127) 2 15 := ⟨by decide +kernel, rfl⟩
theorem d3_15 : Dc method_4_code 15 (.if_icmp .eq 27) 3 18 := ⟨by decide +kernel, rfl⟩
theorem d3_15t : Tg 15 (27) 42 := ⟨by decide, by decide⟩
theorem d3_18 : Dc method_4_code 18 (.iload_n 1) 1 19 := ⟨by decide +kernel, rfl⟩
theorem d3_19 : Dc method_4_code 19 (.bipush 44) 2 21 := ⟨by decide +kernel, rfl⟩
theorem d3_21 : Dc method_4_code 21 (.if_icmp .eq 21) 3 24 := ⟨by decide +kernel, rfl⟩
theorem d3_21t : Tg 21 (21) 42 := ⟨by decide, by decide⟩
theorem d3_24 : Dc method_4_code 24 (.iload_n 1) 1 25 := ⟨by decide +kernel, rfl⟩
theorem d3_25 : Dc method_4_code 25 (.bipush 47) 2 27 := ⟨by decide +kernel, rfl⟩
theorem d3_27 : Dc method_4_code 27 (.if_icmp .eq 15) 3 30 := ⟨by decide +kernel, rfl⟩
theorem d3_27t : Tg 27 (15) 42 := ⟨by decide, by decide⟩
theorem d3_30 : Dc method_4_code 30 (.iload_n 1) 1 31 := ⟨by decide +kernel, rfl⟩
theorem d3_31 : Dc method_4_code 31 (.bipush 61) 2 33 := ⟨by decide +kernel, rfl⟩
theorem d3_33 : Dc method_4_code 33 (.if_icmp .eq 9) 3 36 := ⟨by decide +kernel, rfl⟩
theorem d3_33t : Tg 33 (9) 42 := ⟨by decide, by decide⟩
theorem d3_36 : Dc method_4_code 36 (.iload_n 1) 1 37 := ⟨by decide +kernel, rfl⟩
theorem d3_37 : Dc method_4_code 37 (.bipush 92) 2 39 := ⟨by decide +kernel, rfl⟩
theorem d3_39 : Dc method_4_code 39 (.if_icmp .ne 6) 3 42 := ⟨by decide +kernel, rfl⟩
theorem d3_39t : Tg 39 (6) 45 := ⟨by decide, by decide⟩
theorem d3_42 : Dc method_4_code 42 (.bipush 120) 2 44 := ⟨by decide +kernel, rfl⟩
theorem d3_44 : Dc method_4_code 44 .ireturn 1 45 := ⟨by decide +kernel, rfl⟩
theorem d3_45 : Dc method_4_code 45 (.iload_n 1) 1 46 := ⟨by decide +kernel, rfl⟩
theorem d3_46 : Dc method_4_code 46 .i2c 1 47 := ⟨by decide +kernel, rfl⟩
theorem d3_47 : Dc method_4_code 47 .ireturn 1 48 := ⟨by decide +kernel, rfl⟩
theorem d4_0 : Dc method_5_code 0 (.iload_n 0) 1 1 := ⟨by decide +kernel, rfl⟩
theorem d4_1 : Dc method_5_code 1 (.iconst 1) 1 2 := ⟨by decide +kernel, rfl⟩
theorem d4_2 : Dc method_5_code 2 (.if_icmp .ne 8) 3 5 := ⟨by decide +kernel, rfl⟩
theorem d4_2t : Tg 2 (8) 10 := ⟨by decide, by decide⟩
theorem d4_5 : Dc method_5_code 5 (.iload_n 1) 1 6 := ⟨by decide +kernel, rfl⟩
theorem d4_6 : Dc method_5_code 6 (.invokestatic 7) 3 9 := ⟨by decide +kernel, rfl⟩
theorem d4_9 : Dc method_5_code 9 .areturn 1 10 := ⟨by decide +kernel, rfl⟩
theorem d4_10 : Dc method_5_code 10 (.new 8) 3 13 := ⟨by decide +kernel, rfl⟩
theorem d4_13 : Dc method_5_code 13 .dup 1 14 := ⟨by decide +kernel, rfl⟩
theorem d4_14 : Dc method_5_code 14 (.iconst 2) 1 15 := ⟨by decide +kernel, rfl⟩
theorem d4_15 : Dc method_5_code 15 (.newarray .char) 2 17 := ⟨by decide +kernel, rfl⟩
theorem d4_17 : Dc method_5_code 17 .dup 1 18 := ⟨by decide +kernel, rfl⟩
theorem d4_18 : Dc method_5_code 18 (.iconst 0) 1 19 := ⟨by decide +kernel, rfl⟩
theorem d4_19 : Dc method_5_code 19 (.iload_n 1) 1 20 := ⟨by decide +kernel, rfl⟩
theorem d4_20 : Dc method_5_code 20 .castore 1 21 := ⟨by decide +kernel, rfl⟩
theorem d4_21 : Dc method_5_code 21 .dup 1 22 := ⟨by decide +kernel, rfl⟩
theorem d4_22 : Dc method_5_code 22 (.iconst 1) 1 23 := ⟨by decide +kernel, rfl⟩
theorem d4_23 : Dc method_5_code 23 (.iload_n 2) 1 24 := ⟨by decide +kernel, rfl⟩
theorem d4_24 : Dc method_5_code 24 .castore 1 25 := ⟨by decide +kernel, rfl⟩
theorem d4_25 : Dc method_5_code 25 (.invokespecial 13) 3 28 := ⟨by decide +kernel, rfl⟩
theorem d4_28 : Dc method_5_code 28 .areturn 1 29 := ⟨by decide +kernel, rfl⟩
theorem d12_0 : Dc jdk_31_method_11_code 0 (.aload_n 0) 1 1 := ⟨by decide +kernel, rfl⟩
theorem d12_1 : Dc jdk_31_method_11_code 1 (.ifnonnull 12) 3 4 := ⟨by decide +kernel, rfl⟩
theorem d12_1t : Tg 1 (12) 13 := ⟨by decide, by decide⟩
theorem d12_4 : Dc jdk_31_method_11_code 4 (.new 84) 3 7 := ⟨by decide +kernel, rfl⟩
theorem d12_7 : Dc jdk_31_method_11_code 7 .dup 1 8 := ⟨by decide +kernel, rfl⟩
theorem d12_8 : Dc jdk_31_method_11_code 8 (.aload_n 1) 1 9 := ⟨by decide +kernel, rfl⟩
theorem d12_9 : Dc jdk_31_method_11_code 9 (.invokespecial 87) 3 12 := ⟨by decide +kernel, rfl⟩
theorem d12_12 : Dc jdk_31_method_11_code 12 .athrow 1 13 := ⟨by decide +kernel, rfl⟩
theorem d12_13 : Dc jdk_31_method_11_code 13 (.aload_n 0) 1 14 := ⟨by decide +kernel, rfl⟩
theorem d12_14 : Dc jdk_31_method_11_code 14 .areturn 1 15 := ⟨by decide +kernel, rfl⟩
theorem d19_0 : Dc prog_9_method_13_code 0 (.iload_n 0) 1 1 := ⟨by decide +kernel, rfl⟩
theorem d19_1 : Dc prog_9_method_13_code 1 (.bipush 65) 2 3 := ⟨by decide +kernel, rfl⟩
theorem d19_3 : Dc prog_9_method_13_code 3 (.if_icmp .lt 9) 3 6 := ⟨by decide +kernel, rfl⟩
theorem d19_3t : Tg 3 (9) 12 := ⟨by decide, by decide⟩
theorem d19_6 : Dc prog_9_method_13_code 6 (.iload_n 0) 1 7 := ⟨by decide +kernel, rfl⟩
theorem d19_7 : Dc prog_9_method_13_code 7 (.bipush 90) 2 9 := ⟨by decide +kernel, rfl⟩
theorem d19_9 : Dc prog_9_method_13_code 9 (.if_icmp .le 15) 3 12 := ⟨by decide +kernel, rfl⟩
theorem d19_9t : Tg 9 (15) 24 := ⟨by decide, by decide⟩
theorem d19_12 : Dc prog_9_method_13_code 12 (.iload_n 0) 1 13 := ⟨by decide +kernel, rfl⟩
theorem d19_13 : Dc prog_9_method_13_code 13 (.bipush 97) 2 15 := ⟨by decide +kernel, rfl⟩
theorem d19_15 : Dc prog_9_method_13_code 15 (.if_icmp .lt 13) 3 18 := ⟨by decide +kernel, rfl⟩
theorem d19_15t : Tg 15 (13) 28 := ⟨by decide, by decide⟩
theorem d19_18 : Dc prog_9_method_13_code 18 (.iload_n 0) 1 19 := ⟨by decide +kernel, rfl⟩
theorem d19_19 : Dc prog_9_method_13_code 19 (.bipush 122) 2 21 := ⟨by decide +kernel, rfl⟩
theorem d19_21 : Dc prog_9_method_13_code 21 (.if_icmp .gt 7) 3 24 := ⟨by decide +kernel, rfl⟩
theorem d19_21t : Tg 21 (7) 28 := ⟨by decide, by decide⟩
theorem d19_24 : Dc prog_9_method_13_code 24 (.iconst 1) 1 25 := ⟨by decide +kernel, rfl⟩
theorem d19_25 : Dc prog_9_method_13_code 25 (.goto 4) 3 28 := ⟨by decide +kernel, rfl⟩
theorem d19_25t : Tg 25 (4) 29 := ⟨by decide, by decide⟩
theorem d19_28 : Dc prog_9_method_13_code 28 (.iconst 0) 1 29 := ⟨by decide +kernel, rfl⟩
theorem d19_29 : Dc prog_9_method_13_code 29 .ireturn 1 30 := ⟨by decide +kernel, rfl⟩
theorem d24_0 : Dc prog_9_method_12_code 0 (.iload_n 0) 1 1 := ⟨by decide +kernel, rfl⟩
theorem d24_1 : Dc prog_9_method_12_code 1 (.bipush 32) 2 3 := ⟨by decide +kernel, rfl⟩
theorem d24_3 : Dc prog_9_method_12_code 3 (.if_icmp .lt 9) 3 6 := ⟨by decide +kernel, rfl⟩
theorem d24_3t : Tg 3 (9) 12 := ⟨by decide, by decide⟩
theorem d24_6 : Dc prog_9_method_12_code 6 (.iload_n 0) 1 7 := ⟨by decide +kernel, rfl⟩
theorem d24_7 : Dc prog_9_method_12_code 7 (.bipush 127) 2 9 := ⟨by decide +kernel, rfl⟩
theorem d24_9 : Dc prog_9_method_12_code 9 (.if_icmp .ne 7) 3 12 := ⟨by decide +kernel, rfl⟩
theorem d24_9t : Tg 9 (7) 16 := ⟨by decide, by decide⟩
theorem d24_12 : Dc prog_9_method_12_code 12 (.iconst 1) 1 13 := ⟨by decide +kernel, rfl⟩
theorem d24_13 : Dc prog_9_method_12_code 13 (.goto 4) 3 16 := ⟨by decide +kernel, rfl⟩
theorem d24_13t : Tg 13 (4) 17 := ⟨by decide, by decide⟩
theorem d24_16 : Dc prog_9_method_12_code 16 (.iconst 0) 1 17 := ⟨by decide +kernel, rfl⟩
theorem d24_17 : Dc prog_9_method_12_code 17 .ireturn 1 18 := ⟨by decide +kernel, rfl⟩
theorem d25_0 : Dc jdk_89_method_18_code 0 (.iload_n 0) 1 1 := ⟨by decide +kernel, rfl⟩
theorem d25_1 : Dc jdk_89_method_18_code 1 (.ldc 73) 2 3 := ⟨by decide +kernel, rfl⟩
theorem d25_3 : Dc jdk_89_method_18_code 3 (.if_icmp .lt 7) 3 6 := ⟨by decide +kernel, rfl⟩
theorem d25_3t : Tg 3 (7) 10 := ⟨by decide, by decide⟩
theorem d25_6 : Dc jdk_89_method_18_code 6 (.iconst 2) 1 7 := ⟨by decide +kernel, rfl⟩
theorem d25_7 : Dc jdk_89_method_18_code 7 (.goto 4) 3 10 := ⟨by decide +kernel, rfl⟩
theorem d25_7t : Tg 7 (4) 11 := ⟨by decide, by decide⟩
theorem d25_10 : Dc jdk_89_method_18_code 10 (.iconst 1) 1 11 := ⟨by decide +kernel, rfl⟩
theorem d25_11 : Dc jdk_89_method_18_code 11 .ireturn 1 12 := ⟨by decide +kernel, rfl⟩
theorem d11_0 : Dc prog_9_method_8_code 0 (.aload_n 0) 1 1 := ⟨by decide +kernel, rfl⟩
theorem d11_1 : Dc prog_9_method_8_code 1 (.ldc 75) 2 3 := ⟨by decide +kernel, rfl⟩
theorem d11_3 : Dc prog_9_method_8_code 3 (.invokestatic 25) 3 6 := ⟨by decide +kernel, rfl⟩
theorem d11_6 : Dc prog_9_method_8_code 6 .pop 1 7 := ⟨by decide +kernel, rfl⟩
theorem d11_7 : Dc prog_9_method_8_code 7 (.aload_n 0) 1 8 := ⟨by decide +kernel, rfl⟩
theorem d11_8 : Dc prog_9_method_8_code 8 (.invokevirtual 31) 3 11 := ⟨by decide +kernel, rfl⟩
theorem d11_11 : Dc prog_9_method_8_code 11 (.ifCond .eq 13) 3 14 := ⟨by decide +kernel, rfl⟩
theorem d11_11t : Tg 11 (13) 24 := ⟨by decide, by decide⟩
theorem d11_14 : Dc prog_9_method_8_code 14 (.new 37) 3 17 := ⟨by decide +kernel, rfl⟩
theorem d11_17 : Dc prog_9_method_8_code 17 .dup 1 18 := ⟨by decide +kernel, rfl⟩
theorem d11_18 : Dc prog_9_method_8_code 18 (.ldc 76) 2 20 := ⟨by decide +kernel, rfl⟩
theorem d11_20 : Dc prog_9_method_8_code 20 (.invokespecial 41) 3 23 := ⟨by decide +kernel, rfl⟩
theorem d11_23 : Dc prog_9_method_8_code 23 .athrow 1 24 := ⟨by decide +kernel, rfl⟩
theorem d11_24 : Dc prog_9_method_8_code 24 (.aload_n 0) 1 25 := ⟨by decide +kernel, rfl⟩
theorem d11_25 : Dc prog_9_method_8_code 25 (.iconst 0) 1 26 := ⟨by decide +kernel, rfl⟩
theorem d11_26 : Dc prog_9_method_8_code 26 (.invokevirtual 78) 3 29 := ⟨by decide +kernel, rfl⟩
theorem d11_29 : Dc prog_9_method_8_code 29 (.invokestatic 82) 3 32 := ⟨by decide +kernel, rfl⟩
theorem d11_32 : Dc prog_9_method_8_code 32 (.ifCond .ne 20) 3 35 := ⟨by decide +kernel, rfl⟩
theorem d11_32t : Tg 32 (20) 52 := ⟨by decide, by decide⟩
theorem d11_35 : Dc prog_9_method_8_code 35 (.new 37) 3 38 := ⟨by decide +kernel, rfl⟩
theorem d11_38 : Dc prog_9_method_8_code 38 .dup 1 39 := ⟨by decide +kernel, rfl⟩
theorem d11_39 : Dc prog_9_method_8_code 39 (.aload_n 0) 1 40 := ⟨by decide +kernel, rfl⟩
theorem d11_40 : Dc prog_9_method_8_code 40 (.invokestatic 47) 3 43 := ⟨by decide +kernel, rfl⟩
theorem d11_43 : Dc prog_9_method_8_code 43 (.invokedynamic 86) 5 48 := ⟨by decide +kernel, rfl⟩
theorem d11_48 : Dc prog_9_method_8_code 48 (.invokespecial 41) 3 51 := ⟨by decide +kernel, rfl⟩
theorem d11_51 : Dc prog_9_method_8_code 51 .athrow 1 52 := ⟨by decide +kernel, rfl⟩
theorem d11_52 : Dc prog_9_method_8_code 52 (.iconst 1) 1 53 := ⟨by decide +kernel, rfl⟩
theorem d11_53 : Dc prog_9_method_8_code 53 (.istore_n 1) 1 54 := ⟨by decide +kernel, rfl⟩
theorem d11_54 : Dc prog_9_method_8_code 54 (.iload_n 1) 1 55 := ⟨by decide +kernel, rfl⟩
theorem d11_55 : Dc prog_9_method_8_code 55 (.aload_n 0) 1 56 := ⟨by decide +kernel, rfl⟩
theorem d11_56 : Dc prog_9_method_8_code 56 (.invokevirtual 87) 3 59 := ⟨by decide +kernel, rfl⟩
theorem d11_59 : Dc prog_9_method_8_code 59 (.if_icmp .ge 73) 3 62 := ⟨by decide +kernel, rfl⟩
theorem d11_59t : Tg 59 (73) 132 := ⟨by decide, by decide⟩
theorem d11_62 : Dc prog_9_method_8_code 62 (.aload_n 0) 1 63 := ⟨by decide +kernel, rfl⟩
theorem d11_63 : Dc prog_9_method_8_code 63 (.iload_n 1) 1 64 := ⟨by decide +kernel, rfl⟩
theorem d11_64 : Dc prog_9_method_8_code 64 (.invokevirtual 78) 3 67 := ⟨by decide +kernel, rfl⟩
theorem d11_67 : Dc prog_9_method_8_code 67 (.istore_n 2) 1 68 := ⟨by decide +kernel, rfl⟩
theorem d11_68 : Dc prog_9_method_8_code 68 (.iload_n 2) 1 69 := ⟨by decide +kernel, rfl⟩
theorem d11_69 : Dc prog_9_method_8_code 69 (.invokestatic 82) 3 72 := ⟨by decide +kernel, rfl⟩
theorem d11_72 : Dc prog_9_method_8_code 72 (.ifCond .ne 54) 3 75 := ⟨by decide +kernel, rfl⟩
theorem d11_72t : Tg 72 (54) 126 := ⟨by decide, by decide⟩
theorem d11_75 : Dc prog_9_method_8_code 75 (.iload_n 2) 1 76 := ⟨by decide +kernel, rfl⟩
theorem d11_76 : Dc prog_9_method_8_code 76 (.bipush 48) 2 78 := ⟨by decide +kernel, rfl⟩
theorem d11_78 : Dc prog_9_method_8_code 78 (.if_icmp .lt 9) 3 81 := ⟨by decide +kernel, rfl⟩
theorem d11_78t : Tg 78 (9) 87 := ⟨by decide, by decide⟩
theorem d11_81 : Dc prog_9_method_8_code 81 (.iload_n 2) 1 82 := ⟨by decide +kernel, rfl⟩
theorem d11_82 : Dc prog_9_method_8_code 82 (.bipush 57) 2 84 := ⟨by decide +kernel, rfl⟩
theorem d11_84 : Dc prog_9_method_8_code 84 (.if_icmp .le 42) 3 87 := ⟨by decide +kernel, rfl⟩
theorem d11_84t : Tg 84 (42) 126 := ⟨by decide, by decide⟩
theorem d11_87 : Dc prog_9_method_8_code 87 (.iload_n 2) 1 88 := ⟨by decide +kernel, rfl⟩
theorem d11_88 : Dc prog_9_method_8_code 88 (.bipush 95) 2 90 := ⟨by decide +kernel, rfl⟩
theorem d11_90 : Dc prog_9_method_8_code 90 (.if_icmp .eq 36) 3 93 := ⟨by decide +kernel, rfl⟩
theorem d11_90t : Tg 90 (36) 126 := ⟨by decide, by decide⟩
theorem d11_93 : Dc prog_9_method_8_code 93 (.iload_n 2) 1 94 := ⟨by decide +kernel, rfl⟩
theorem d11_94 : Dc prog_9_method_8_code 94 (.bipush 45) 2 96 := ⟨by decide +kernel, rfl⟩
theorem d11_96 : Dc prog_9_method_8_code 96 (.if_icmp .eq 30) 3 99 := ⟨by decide +kernel, rfl⟩
theorem d11_96t : Tg 96 (30) 126 := ⟨by decide, by decide⟩
theorem d11_99 : Dc prog_9_method_8_code 99 (.iload_n 2) 1 100 := ⟨by decide +kernel, rfl⟩
theorem d11_100 : Dc prog_9_method_8_code 100 (.bipush 46) 2 102 := ⟨by decide +kernel, rfl⟩
theorem d11_102 : Dc prog_9_method_8_code 102 (.if_icmp .eq 24) 3 105 := ⟨by decide +kernel, rfl⟩
theorem d11_102t : Tg 102 (24) 126 := ⟨by decide, by decide⟩
theorem d11_105 : Dc prog_9_method_8_code 105 (.new 37) 3 108 := ⟨by decide +kernel, rfl⟩
theorem d11_108 : Dc prog_9_method_8_code 108 .dup 1 109 := ⟨by decide +kernel, rfl⟩
theorem d11_109 : Dc prog_9_method_8_code 109 (.aload_n 0) 1 110 := ⟨by decide +kernel, rfl⟩
theorem d11_110 : Dc prog_9_method_8_code 110 (.invokestatic 47) 3 113 := ⟨by decide +kernel, rfl⟩
theorem d11_113 : Dc prog_9_method_8_code 113 (.iload_n 2) 1 114 := ⟨by decide +kernel, rfl⟩
theorem d11_114 : Dc prog_9_method_8_code 114 (.invokestatic 90) 3 117 := ⟨by decide +kernel, rfl⟩
theorem d11_117 : Dc prog_9_method_8_code 117 (.invokedynamic 94) 5 122 := ⟨by decide +kernel, rfl⟩
theorem d11_122 : Dc prog_9_method_8_code 122 (.invokespecial 41) 3 125 := ⟨by decide +kernel, rfl⟩
theorem d11_125 : Dc prog_9_method_8_code 125 .athrow 1 126 := ⟨by decide +kernel, rfl⟩
theorem d11_126 : Dc prog_9_method_8_code 126 (.iinc 1 1) 3 129 := ⟨by decide +kernel, rfl⟩
theorem d11_129 : Dc prog_9_method_8_code 129 (.goto (-75)) 3 132 := ⟨by decide +kernel, rfl⟩
theorem d11_129t : Tg 129 (-75) 54 := ⟨by decide, by decide⟩
theorem d11_132 : Dc prog_9_method_8_code 132 .return_ 1 133 := ⟨by decide +kernel, rfl⟩
theorem d22_0 : Dc prog_9_method_9_code 0 (.aload_n 0) 1 1 := ⟨by decide +kernel, rfl⟩
theorem d22_1 : Dc prog_9_method_9_code 1 (.ldc 95) 2 3 := ⟨by decide +kernel, rfl⟩
theorem d22_3 : Dc prog_9_method_9_code 3 (.invokestatic 25) 3 6 := ⟨by decide +kernel, rfl⟩
theorem d22_6 : Dc prog_9_method_9_code 6 .pop 1 7 := ⟨by decide +kernel, rfl⟩
theorem d22_7 : Dc prog_9_method_9_code 7 (.aload_n 0) 1 8 := ⟨by decide +kernel, rfl⟩
theorem d22_8 : Dc prog_9_method_9_code 8 (.invokevirtual 31) 3 11 := ⟨by decide +kernel, rfl⟩
theorem d22_11 : Dc prog_9_method_9_code 11 (.ifCond .eq 13) 3 14 := ⟨by decide +kernel, rfl⟩
theorem d22_11t : Tg 11 (13) 24 := ⟨by decide, by decide⟩
theorem d22_14 : Dc prog_9_method_9_code 14 (.new 37) 3 17 := ⟨by decide +kernel, rfl⟩
theorem d22_17 : Dc prog_9_method_9_code 17 .dup 1 18 := ⟨by decide +kernel, rfl⟩
theorem d22_18 : Dc prog_9_method_9_code 18 (.ldc 96) 2 20 := ⟨by decide +kernel, rfl⟩
theorem d22_20 : Dc prog_9_method_9_code 20 (.invokespecial 41) 3 23 := ⟨by decide +kernel, rfl⟩
theorem d22_23 : Dc prog_9_method_9_code 23 .athrow 1 24 := ⟨by decide +kernel, rfl⟩
theorem d22_24 : Dc prog_9_method_9_code 24 (.iconst 0) 1 25 := ⟨by decide +kernel, rfl⟩
theorem d22_25 : Dc prog_9_method_9_code 25 (.istore_n 1) 1 26 := ⟨by decide +kernel, rfl⟩
theorem d22_26 : Dc prog_9_method_9_code 26 (.iload_n 1) 1 27 := ⟨by decide +kernel, rfl⟩
theorem d22_27 : Dc prog_9_method_9_code 27 (.aload_n 0) 1 28 := ⟨by decide +kernel, rfl⟩
theorem d22_28 : Dc prog_9_method_9_code 28 (.invokevirtual 87) 3 31 := ⟨by decide +kernel, rfl⟩
theorem d22_31 : Dc prog_9_method_9_code 31 (.if_icmp .ge 151) 3 34 := ⟨by decide +kernel, rfl⟩
theorem d22_31t : Tg 31 (151) 182 := ⟨by decide, by decide⟩
theorem d22_34 : Dc prog_9_method_9_code 34 (.aload_n 0) 1 35 := ⟨by decide +kernel, rfl⟩
theorem d22_35 : Dc prog_9_method_9_code 35 (.iload_n 1) 1 36 := ⟨by decide +kernel, rfl⟩
theorem d22_36 : Dc prog_9_method_9_code 36 (.invokevirtual 98) 3 39 := ⟨by decide +kernel, rfl⟩
theorem d22_39 : Dc prog_9_method_9_code 39 (.istore_n 2) 1 40 := ⟨by decide +kernel, rfl⟩
theorem d22_40 : Dc prog_9_method_9_code 40 (.iload_n 2) 1 41 := ⟨by decide +kernel, rfl⟩
theorem d22_41 : Dc prog_9_method_9_code 41 (.bipush 44) 2 43 := ⟨by decide +kernel, rfl⟩
theorem d22_43 : Dc prog_9_method_9_code 43 (.if_icmp .eq 15) 3 46 := ⟨by decide +kernel, rfl⟩
theorem d22_43t : Tg 43 (15) 58 := ⟨by decide, by decide⟩
theorem d22_46 : Dc prog_9_method_9_code 46 (.iload_n 2) 1 47 := ⟨by decide +kernel, rfl⟩
theorem d22_47 : Dc prog_9_method_9_code 47 (.bipush 47) 2 49 := ⟨by decide +kernel, rfl⟩
theorem d22_49 : Dc prog_9_method_9_code 49 (.if_icmp .eq 9) 3 52 := ⟨by decide +kernel, rfl⟩
theorem d22_49t : Tg 49 (9) 58 := ⟨by decide, by decide⟩
theorem d22_52 : Dc prog_9_method_9_code 52 (.iload_n 2) 1 53 := ⟨by decide +kernel, rfl⟩
theorem d22_53 : Dc prog_9_method_9_code 53 (.bipush 61) 2 55 := ⟨by decide +kernel, rfl⟩
theorem d22_55 : Dc prog_9_method_9_code 55 (.if_icmp .ne 22) 3 58 := ⟨by decide +kernel, rfl⟩
theorem d22_55t : Tg 55 (22) 77 := ⟨by decide, by decide⟩
theorem d22_58 : Dc prog_9_method_9_code 58 (.new 37) 3 61 := ⟨by decide +kernel, rfl⟩
theorem d22_61 : Dc prog_9_method_9_code 61 .dup 1 62 := ⟨by decide +kernel, rfl⟩
theorem d22_62 : Dc prog_9_method_9_code 62 (.aload_n 0) 1 63 := ⟨by decide +kernel, rfl⟩
theorem d22_63 : Dc prog_9_method_9_code 63 (.invokestatic 47) 3 66 := ⟨by decide +kernel, rfl⟩
theorem d22_66 : Dc prog_9_method_9_code 66 (.iload_n 2) 1 67 := ⟨by decide +kernel, rfl⟩
theorem d22_67 : Dc prog_9_method_9_code 67 .i2c 1 68 := ⟨by decide +kernel, rfl⟩
theorem d22_68 : Dc prog_9_method_9_code 68 (.invokedynamic 101) 5 73 := ⟨by decide +kernel, rfl⟩
theorem d22_73 : Dc prog_9_method_9_code 73 (.invokespecial 41) 3 76 := ⟨by decide +kernel, rfl⟩
theorem d22_76 : Dc prog_9_method_9_code 76 .athrow 1 77 := ⟨by decide +kernel, rfl⟩
theorem d22_77 : Dc prog_9_method_9_code 77 (.iload_n 2) 1 78 := ⟨by decide +kernel, rfl⟩
theorem d22_78 : Dc prog_9_method_9_code 78 (.bipush 92) 2 80 := ⟨by decide +kernel, rfl⟩
theorem d22_80 : Dc prog_9_method_9_code 80 (.if_icmp .ne 20) 3 83 := ⟨by decide +kernel, rfl⟩
theorem d22_80t : Tg 80 (20) 100 := ⟨by decide, by decide⟩
theorem d22_83 : Dc prog_9_method_9_code 83 (.new 37) 3 86 := ⟨by decide +kernel, rfl⟩
theorem d22_86 : Dc prog_9_method_9_code 86 .dup 1 87 := ⟨by decide +kernel, rfl⟩
theorem d22_87 : Dc prog_9_method_9_code 87 (.aload_n 0) 1 88 := ⟨by decide +kernel, rfl⟩
theorem d22_88 : Dc prog_9_method_9_code 88 (.invokestatic 47) 3 91 := ⟨by decide +kernel, rfl⟩
theorem d22_91 : Dc prog_9_method_9_code 91 (.invokedynamic 104) 5 96 := ⟨by decide +kernel, rfl⟩
theorem d22_96 : Dc prog_9_method_9_code 96 (.invokespecial 41) 3 99 := ⟨by decide +kernel, rfl⟩
theorem d22_99 : Dc prog_9_method_9_code 99 .athrow 1 100 := ⟨by decide +kernel, rfl⟩
theorem d22_100 : Dc prog_9_method_9_code 100 (.iload_n 2) 1 101 := ⟨by decide +kernel, rfl⟩
theorem d22_101 : Dc prog_9_method_9_code 101 (.invokestatic 105) 3 104 := ⟨by decide +kernel, rfl⟩
theorem d22_104 : Dc prog_9_method_9_code 104 (.ifCond .eq 25) 3 107 := ⟨by decide +kernel, rfl⟩
theorem d22_104t : Tg 104 (25) 129 := ⟨by decide, by decide⟩
theorem d22_107 : Dc prog_9_method_9_code 107 (.new 37) 3 110 := ⟨by decide +kernel, rfl⟩
theorem d22_110 : Dc prog_9_method_9_code 110 .dup 1 111 := ⟨by decide +kernel, rfl⟩
theorem d22_111 : Dc prog_9_method_9_code 111 (.aload_n 0) 1 112 := ⟨by decide +kernel, rfl⟩
theorem d22_112 : Dc prog_9_method_9_code 112 (.invokestatic 47) 3 115 := ⟨by decide +kernel, rfl⟩
theorem d22_115 : Dc prog_9_method_9_code 115 (.iload_n 2) 1 116 := ⟨by decide +kernel, rfl⟩
theorem d22_116 : Dc prog_9_method_9_code 116 .i2c 1 117 := ⟨by decide +kernel, rfl⟩
theorem d22_117 : Dc prog_9_method_9_code 117 (.invokestatic 90) 3 120 := ⟨by decide +kernel, rfl⟩
theorem d22_120 : Dc prog_9_method_9_code 120 (.invokedynamic 109) 5 125 := ⟨by decide +kernel, rfl⟩
theorem d22_125 : Dc prog_9_method_9_code 125 (.invokespecial 41) 3 128 := ⟨by decide +kernel, rfl⟩
theorem d22_128 : Dc prog_9_method_9_code 128 .athrow 1 129 := ⟨by decide +kernel, rfl⟩
theorem d22_129 : Dc prog_9_method_9_code 129 (.iload_n 2) 1 130 := ⟨by decide +kernel, rfl⟩
theorem d22_130 : Dc prog_9_method_9_code 130 (.ldc 112) 2 132 := ⟨by decide +kernel, rfl⟩
theorem d22_132 : Dc prog_9_method_9_code 132 (.if_icmp .lt 40) 3 135 := ⟨by decide +kernel, rfl⟩
theorem d22_132t : Tg 132 (40) 172 := ⟨by decide, by decide⟩
theorem d22_135 : Dc prog_9_method_9_code 135 (.iload_n 2) 1 136 := ⟨by decide +kernel, rfl⟩
theorem d22_136 : Dc prog_9_method_9_code 136 (.ldc 113) 2 138 := ⟨by decide +kernel, rfl⟩
theorem d22_138 : Dc prog_9_method_9_code 138 (.if_icmp .gt 34) 3 141 := ⟨by decide +kernel, rfl⟩
theorem d22_138t : Tg 138 (34) 172 := ⟨by decide, by decide⟩
theorem d22_141 : Dc prog_9_method_9_code 141 (.new 37) 3 144 := ⟨by decide +kernel, rfl⟩
theorem d22_144 : Dc prog_9_method_9_code 144 .dup 1 145 := ⟨by decide +kernel, rfl⟩
theorem d22_145 : Dc prog_9_method_9_code 145 (.ldc 114) 2 147 := ⟨by decide +kernel, rfl⟩
theorem d22_147 : Dc prog_9_method_9_code 147 (.iconst 2) 1 148 := ⟨by decide +kernel, rfl⟩
theorem d22_148 : Dc prog_9_method_9_code 148 (.anewarray 2) 3 151 := ⟨by decide +kernel, rfl⟩
theorem d22_151 : Dc prog_9_method_9_code 151 .dup 1 152 := ⟨by decide +kernel, rfl⟩
theorem d22_152 : Dc prog_9_method_9_code 152 (.iconst 0) 1 153 := ⟨by decide +kernel, rfl⟩
theorem d22_153 : Dc prog_9_method_9_code 153 (.aload_n 0) 1 154 := ⟨by decide +kernel, rfl⟩
theorem d22_154 : Dc prog_9_method_9_code 154 (.invokestatic 47) 3 157 := ⟨by decide +kernel, rfl⟩
theorem d22_157 : Dc prog_9_method_9_code 157 .aastore 1 158 := ⟨by decide +kernel, rfl⟩
theorem d22_158 : Dc prog_9_method_9_code 158 .dup 1 159 := ⟨by decide +kernel, rfl⟩
theorem d22_159 : Dc prog_9_method_9_code 159 (.iconst 1) 1 160 := ⟨by decide +kernel, rfl⟩
theorem d22_160 : Dc prog_9_method_9_code 160 (.iload_n 2) 1 161 := ⟨by decide +kernel, rfl⟩
theorem d22_161 : Dc prog_9_method_9_code 161 (.invokestatic 116) 3 164 := ⟨by decide +kernel, rfl⟩
theorem d22_164 : Dc prog_9_method_9_code 164 .aastore 1 165 := ⟨by decide +kernel, rfl⟩
theorem d22_165 : Dc prog_9_method_9_code 165 (.invokestatic 122) 3 168 := ⟨by decide +kernel, rfl⟩
theorem d22_168 : Dc prog_9_method_9_code 168 (.invokespecial 41) 3 171 := ⟨by decide +kernel, rfl⟩
theorem d22_171 : Dc prog_9_method_9_code 171 .athrow 1 172 := ⟨by decide +kernel, rfl⟩
theorem d22_172 : Dc prog_9_method_9_code 172 (.iload_n 1) 1 173 := ⟨by decide +kernel, rfl⟩
theorem d22_173 : Dc prog_9_method_9_code 173 (.iload_n 2) 1 174 := ⟨by decide +kernel, rfl⟩
theorem d22_174 : Dc prog_9_method_9_code 174 (.invokestatic 126) 3 177 := ⟨by decide +kernel, rfl⟩
theorem d22_177 : Dc prog_9_method_9_code 177 .iadd 1 178 := ⟨by decide +kernel, rfl⟩
theorem d22_178 : Dc prog_9_method_9_code 178 (.istore_n 1) 1 179 := ⟨by decide +kernel, rfl⟩
theorem d22_179 : Dc prog_9_method_9_code 179 (.goto (-153)) 3 182 := ⟨by decide +kernel, rfl⟩
theorem d22_179t : Tg 179 (-153) 26 := ⟨by decide, by decide⟩
theorem d22_182 : Dc prog_9_method_9_code 182 .return_ 1 183 := ⟨by decide +kernel, rfl⟩
theorem d10_0 : Dc prog_9_method_1_code 0 (.aload_n 0) 1 1 := ⟨by decide +kernel, rfl⟩
theorem d10_1 : Dc prog_9_method_1_code 1 (.invokespecial 1) 3 4 := ⟨by decide +kernel, rfl⟩
theorem d10_4 : Dc prog_9_method_1_code 4 (.aload_n 1) 1 5 := ⟨by decide +kernel, rfl⟩
theorem d10_5 : Dc prog_9_method_1_code 5 (.invokestatic 7) 3 8 := ⟨by decide +kernel, rfl⟩
theorem d10_8 : Dc prog_9_method_1_code 8 (.aload_n 2) 1 9 := ⟨by decide +kernel, rfl⟩
theorem d10_9 : Dc prog_9_method_1_code 9 (.invokestatic 13) 3 12 := ⟨by decide +kernel, rfl⟩
theorem d10_12 : Dc prog_9_method_1_code 12 (.aload_n 0) 1 13 := ⟨by decide +kernel, rfl⟩
theorem d10_13 : Dc prog_9_method_1_code 13 (.aload_n 1) 1 14 := ⟨by decide +kernel, rfl⟩
theorem d10_14 : Dc prog_9_method_1_code 14 (.putfield 16) 3 17 := ⟨by decide +kernel, rfl⟩
theorem d10_17 : Dc prog_9_method_1_code 17 (.aload_n 0) 1 18 := ⟨by decide +kernel, rfl⟩
theorem d10_18 : Dc prog_9_method_1_code 18 (.aload_n 2) 1 19 := ⟨by decide +kernel, rfl⟩
theorem d10_19 : Dc prog_9_method_1_code 19 (.putfield 20) 3 22 := ⟨by decide +kernel, rfl⟩
theorem d10_22 : Dc prog_9_method_1_code 22 .return_ 1 23 := ⟨by decide +kernel, rfl⟩
theorem d26_0 : Dc prog_9_method_5_code 0 (.aload_n 0) 1 1 := ⟨by decide +kernel, rfl⟩
theorem d26_1 : Dc prog_9_method_5_code 1 (.aload_n 1) 1 2 := ⟨by decide +kernel, rfl⟩
theorem d26_2 : Dc prog_9_method_5_code 2 (.if_acmp .ne 5) 3 5 := ⟨by decide +kernel, rfl⟩
theorem d26_2t : Tg 2 (5) 7 := ⟨by decide, by decide⟩
theorem d26_5 : Dc prog_9_method_5_code 5 (.iconst 1) 1 6 := ⟨by decide +kernel, rfl⟩
theorem d26_6 : Dc prog_9_method_5_code 6 .ireturn 1 7 := ⟨by decide +kernel, rfl⟩
theorem d26_7 : Dc prog_9_method_5_code 7 (.aload_n 1) 1 8 := ⟨by decide +kernel, rfl⟩
theorem d26_8 : Dc prog_9_method_5_code 8 (.instanceof 8) 3 11 := ⟨by decide +kernel, rfl⟩
theorem d26_11 : Dc prog_9_method_5_code 11 (.ifCond .ne 5) 3 14 := ⟨by decide +kernel, rfl⟩
theorem d26_11t : Tg 11 (5) 16 := ⟨by decide, by decide⟩
theorem d26_14 : Dc prog_9_method_5_code 14 (.iconst 0) 1 15 := ⟨by decide +kernel, rfl⟩
theorem d26_15 : Dc prog_9_method_5_code 15 .ireturn 1 16 := ⟨by decide +kernel, rfl⟩
theorem d26_16 : Dc prog_9_method_5_code 16 (.aload_n 1) 1 17 := ⟨by decide +kernel, rfl⟩
theorem d26_17 : Dc prog_9_method_5_code 17 (.checkcast 8) 3 20 := ⟨by decide +kernel, rfl⟩
theorem d26_20 : Dc prog_9_method_5_code 20 (.astore_n 2) 1 21 := ⟨by decide +kernel, rfl⟩
theorem d26_21 : Dc prog_9_method_5_code 21 (.aload_n 0) 1 22 := ⟨by decide +kernel, rfl⟩
theorem d26_22 : Dc prog_9_method_5_code 22 (.getfield 16) 3 25 := ⟨by decide +kernel, rfl⟩
theorem d26_25 : Dc prog_9_method_5_code 25 (.aload_n 2) 1 26 := ⟨by decide +kernel, rfl⟩
theorem d26_26 : Dc prog_9_method_5_code 26 (.getfield 16) 3 29 := ⟨by decide +kernel, rfl⟩
theorem d26_29 : Dc prog_9_method_5_code 29 (.invokevirtual 64) 3 32 := ⟨by decide +kernel, rfl⟩
theorem d26_32 : Dc prog_9_method_5_code 32 (.ifCond .eq 21) 3 35 := ⟨by decide +kernel, rfl⟩
theorem d26_32t : Tg 32 (21) 53 := ⟨by decide, by decide⟩
theorem d26_35 : Dc prog_9_method_5_code 35 (.aload_n 0) 1 36 := ⟨by decide +kernel, rfl⟩
theorem d26_36 : Dc prog_9_method_5_code 36 (.getfield 20) 3 39 := ⟨by decide +kernel, rfl⟩
theorem d26_39 : Dc prog_9_method_5_code 39 (.aload_n 2) 1 40 := ⟨by decide +kernel, rfl⟩
theorem d26_40 : Dc prog_9_method_5_code 40 (.getfield 20) 3 43 := ⟨by decide +kernel, rfl⟩
theorem d26_43 : Dc prog_9_method_5_code 43 (.invokevirtual 64) 3 46 := ⟨by decide +kernel, rfl⟩
theorem d26_46 : Dc prog_9_method_5_code 46 (.ifCond .eq 7) 3 49 := ⟨by decide +kernel, rfl⟩
theorem d26_46t : Tg 46 (7) 53 := ⟨by decide, by decide⟩
theorem d26_49 : Dc prog_9_method_5_code 49 (.iconst 1) 1 50 := ⟨by decide +kernel, rfl⟩
theorem d26_50 : Dc prog_9_method_5_code 50 (.goto 4) 3 53 := ⟨by decide +kernel, rfl⟩
theorem d26_50t : Tg 50 (4) 54 := ⟨by decide, by decide⟩
theorem d26_53 : Dc prog_9_method_5_code 53 (.iconst 0) 1 54 := ⟨by decide +kernel, rfl⟩
theorem d26_54 : Dc prog_9_method_5_code 54 .ireturn 1 55 := ⟨by decide +kernel, rfl⟩
theorem d0_0 : Dc code 0 (.iconst 1) 1 1 := ⟨at_0, rfl⟩
theorem d0_1 : Dc code 1 (.iload_n 0) 1 2 := ⟨at_1, rfl⟩
theorem d0_2 : Dc code 2 (.bipush 24) 2 4 := ⟨at_2, rfl⟩
theorem d0_4 : Dc code 4 .iushr 1 5 := ⟨at_4, rfl⟩
theorem d0_5 : Dc code 5 (.iconst 1) 1 6 := ⟨at_5, rfl⟩
theorem d0_6 : Dc code 6 .iand 1 7 := ⟨at_6, rfl⟩
theorem d0_7 : Dc code 7 .iadd 1 8 := ⟨at_7, rfl⟩
theorem d0_8 : Dc code 8 (.istore 5) 2 10 := ⟨at_8, rfl⟩
theorem d0_10 : Dc code 10 (.iconst 1) 1 11 := ⟨at_10, rfl⟩
theorem d0_11 : Dc code 11 (.iload_n 2) 1 12 := ⟨at_11, rfl⟩
theorem d0_12 : Dc code 12 (.bipush 24) 2 14 := ⟨at_12, rfl⟩
theorem d0_14 : Dc code 14 .iushr 1 15 := ⟨at_14, rfl⟩
theorem d0_15 : Dc code 15 (.iconst 1) 1 16 := ⟨at_15, rfl⟩
theorem d0_16 : Dc code 16 .iand 1 17 := ⟨at_16, rfl⟩
theorem d0_17 : Dc code 17 .iadd 1 18 := ⟨at_17, rfl⟩
theorem d0_18 : Dc code 18 (.istore 6) 2 20 := ⟨at_18, rfl⟩
theorem d0_20 : Dc code 20 (.iconst 1) 1 21 := ⟨at_20, rfl⟩
theorem d0_21 : Dc code 21 (.iload_n 1) 1 22 := ⟨at_21, rfl⟩
theorem d0_22 : Dc code 22 (.bipush 24) 2 24 := ⟨at_22, rfl⟩
theorem d0_24 : Dc code 24 .iushr 1 25 := ⟨at_24, rfl⟩
theorem d0_25 : Dc code 25 (.iconst 1) 1 26 := ⟨at_25, rfl⟩
theorem d0_26 : Dc code 26 .iand 1 27 := ⟨at_26, rfl⟩
theorem d0_27 : Dc code 27 .iadd 1 28 := ⟨at_27, rfl⟩
theorem d0_28 : Dc code 28 (.istore 7) 2 30 := ⟨at_28, rfl⟩
theorem d0_30 : Dc code 30 (.iconst 1) 1 31 := ⟨at_30, rfl⟩
theorem d0_31 : Dc code 31 (.iload_n 3) 1 32 := ⟨at_31, rfl⟩
theorem d0_32 : Dc code 32 (.bipush 24) 2 34 := ⟨at_32, rfl⟩
theorem d0_34 : Dc code 34 .iushr 1 35 := ⟨at_34, rfl⟩
theorem d0_35 : Dc code 35 (.iconst 1) 1 36 := ⟨at_35, rfl⟩
theorem d0_36 : Dc code 36 .iand 1 37 := ⟨at_36, rfl⟩
theorem d0_37 : Dc code 37 .iadd 1 38 := ⟨at_37, rfl⟩
theorem d0_38 : Dc code 38 (.istore 8) 2 40 := ⟨at_38, rfl⟩
theorem d0_40 : Dc code 40 (.iload_n 0) 1 41 := ⟨at_40, rfl⟩
theorem d0_41 : Dc code 41 (.invokestatic 16) 3 44 := ⟨at_41, rfl⟩
theorem d0_44 : Dc code 44 (.istore 9) 2 46 := ⟨at_44, rfl⟩
theorem d0_46 : Dc code 46 (.iload_n 0) 1 47 := ⟨at_46, rfl⟩
theorem d0_47 : Dc code 47 (.bipush 8) 2 49 := ⟨at_47, rfl⟩
theorem d0_49 : Dc code 49 .ishr 1 50 := ⟨at_49, rfl⟩
theorem d0_50 : Dc code 50 (.invokestatic 22) 3 53 := ⟨at_50, rfl⟩
theorem d0_53 : Dc code 53 (.istore 10) 2 55 := ⟨at_53, rfl⟩
theorem d0_55 : Dc code 55 (.iload 4) 2 57 := ⟨at_55, rfl⟩
theorem d0_57 : Dc code 57 (.iconst 1) 1 58 := ⟨at_57, rfl⟩
theorem d0_58 : Dc code 58 .iand 1 59 := ⟨at_58, rfl⟩
theorem d0_59 : Dc code 59 (.ifCond .eq 8) 3 62 := ⟨at_59, rfl⟩
theorem d0_59t : Tg 59 (8) 67 := ⟨by decide, by decide⟩
theorem d0_62 : Dc code 62 (.iload 9) 2 64 := ⟨at_62, rfl⟩
theorem d0_64 : Dc code 64 (.goto 7) 3 67 := ⟨at_64, rfl⟩
theorem d0_64t : Tg 64 (7) 71 := ⟨by decide, by decide⟩
theorem d0_67 : Dc code 67 (.iload_n 2) 1 68 := ⟨at_67, rfl⟩
theorem d0_68 : Dc code 68 (.invokestatic 16) 3 71 := ⟨at_68, rfl⟩
theorem d0_71 : Dc code 71 (.istore 11) 2 73 := ⟨at_71, rfl⟩
theorem d0_73 : Dc code 73 (.iload 4) 2 75 := ⟨at_73, rfl⟩
theorem d0_75 : Dc code 75 (.iconst 2) 1 76 := ⟨at_75, rfl⟩
theorem d0_76 : Dc code 76 .iand 1 77 := ⟨at_76, rfl⟩
theorem d0_77 : Dc code 77 (.ifCond .eq 8) 3 80 := ⟨at_77, rfl⟩
theorem d0_77t : Tg 77 (8) 85 := ⟨by decide, by decide⟩
theorem d0_80 : Dc code 80 (.iload 10) 2 82 := ⟨at_80, rfl⟩
theorem d0_82 : Dc code 82 (.goto 10) 3 85 := ⟨at_82, rfl⟩
theorem d0_82t : Tg 82 (10) 92 := ⟨by decide, by decide⟩
theorem d0_85 : Dc code 85 (.iload_n 2) 1 86 := ⟨at_85, rfl⟩
theorem d0_86 : Dc code 86 (.bipush 8) 2 88 := ⟨at_86, rfl⟩
theorem d0_88 : Dc code 88 .ishr 1 89 := ⟨at_88, rfl⟩
theorem d0_89 : Dc code 89 (.invokestatic 22) 3 92 := ⟨at_89, rfl⟩
theorem d0_92 : Dc code 92 (.istore 12) 2 94 := ⟨at_92, rfl⟩
theorem d0_94 : Dc code 94 (.iload_n 1) 1 95 := ⟨at_94, rfl⟩
theorem d0_95 : Dc code 95 (.invokestatic 25) 3 98 := ⟨at_95, rfl⟩
theorem d0_98 : Dc code 98 (.istore 13) 2 100 := ⟨at_98, rfl⟩
theorem d0_100 : Dc code 100 (.iload_n 1) 1 101 := ⟨at_100, rfl⟩
theorem d0_101 : Dc code 101 (.bipush 8) 2 103 := ⟨at_101, rfl⟩
theorem d0_103 : Dc code 103 .ishr 1 104 := ⟨at_103, rfl⟩
theorem d0_104 : Dc code 104 (.invokestatic 25) 3 107 := ⟨at_104, rfl⟩
theorem d0_107 : Dc code 107 (.istore 14) 2 109 := ⟨at_107, rfl⟩
theorem d0_109 : Dc code 109 (.iload 4) 2 111 := ⟨at_109, rfl⟩
theorem d0_111 : Dc code 111 (.iconst 4) 1 112 := ⟨at_111, rfl⟩
theorem d0_112 : Dc code 112 .iand 1 113 := ⟨at_112, rfl⟩
theorem d0_113 : Dc code 113 (.ifCond .eq 8) 3 116 := ⟨at_113, rfl⟩
theorem d0_113t : Tg 113 (8) 121 := ⟨by decide, by decide⟩
theorem d0_116 : Dc code 116 (.iload 13) 2 118 := ⟨at_116, rfl⟩
theorem d0_118 : Dc code 118 (.goto 7) 3 121 := ⟨at_118, rfl⟩
theorem d0_118t : Tg 118 (7) 125 := ⟨by decide, by decide⟩
theorem d0_121 : Dc code 121 (.iload_n 3) 1 122 := ⟨at_121, rfl⟩
theorem d0_122 : Dc code 122 (.invokestatic 25) 3 125 := ⟨at_122, rfl⟩
theorem d0_125 : Dc code 125 (.istore 15) 2 127 := ⟨at_125, rfl⟩
theorem d0_127 : Dc code 127 (.iload 4) 2 129 := ⟨at_127, rfl⟩
theorem d0_129 : Dc code 129 (.bipush 8) 2 131 := ⟨at_129, rfl⟩
theorem d0_131 : Dc code 131 .iand 1 132 := ⟨at_131, rfl⟩
theorem d0_132 : Dc code 132 (.ifCond .eq 8) 3 135 := ⟨at_132, rfl⟩
theorem d0_132t : Tg 132 (8) 140 := ⟨by decide, by decide⟩
theorem d0_135 : Dc code 135 (.iload 14) 2 137 := ⟨at_135, rfl⟩
theorem d0_137 : Dc code 137 (.goto 10) 3 140 := ⟨at_137, rfl⟩
theorem d0_137t : Tg 137 (10) 147 := ⟨by decide, by decide⟩
theorem d0_140 : Dc code 140 (.iload_n 3) 1 141 := ⟨at_140, rfl⟩
theorem d0_141 : Dc code 141 (.bipush 8) 2 143 := ⟨at_141, rfl⟩
theorem d0_143 : Dc code 143 .ishr 1 144 := ⟨at_143, rfl⟩
theorem d0_144 : Dc code 144 (.invokestatic 25) 3 147 := ⟨at_144, rfl⟩
theorem d0_147 : Dc code 147 (.istore 16) 2 149 := ⟨at_147, rfl⟩
theorem d0_149 : Dc code 149 (.iload 5) 2 151 := ⟨at_149, rfl⟩
theorem d0_151 : Dc code 151 (.iload 9) 2 153 := ⟨at_151, rfl⟩
theorem d0_153 : Dc code 153 (.iload 10) 2 155 := ⟨at_153, rfl⟩
theorem d0_155 : Dc code 155 (.invokestatic 28) 3 158 := ⟨at_155, rfl⟩
theorem d0_158 : Dc code 158 (.astore 17) 2 160 := ⟨at_158, rfl⟩
theorem d0_160 : Dc code 160 (.iload 7) 2 162 := ⟨at_160, rfl⟩
theorem d0_162 : Dc code 162 (.iload 13) 2 164 := ⟨at_162, rfl⟩
theorem d0_164 : Dc code 164 (.iload 14) 2 166 := ⟨at_164, rfl⟩
theorem d0_166 : Dc code 166 (.invokestatic 28) 3 169 := ⟨at_166, rfl⟩
theorem d0_169 : Dc code 169 (.astore 18) 2 171 := ⟨at_169, rfl⟩
theorem d0_171 : Dc code 171 (.iload 6) 2 173 := ⟨at_171, rfl⟩
theorem d0_173 : Dc code 173 (.iload 11) 2 175 := ⟨at_173, rfl⟩
theorem d0_175 : Dc code 175 (.iload 12) 2 177 := ⟨at_175, rfl⟩
theorem d0_177 : Dc code 177 (.invokestatic 28) 3 180 := ⟨at_177, rfl⟩
theorem d0_180 : Dc code 180 (.astore 19) 2 182 := ⟨at_180, rfl⟩
theorem d0_182 : Dc code 182 (.iload 8) 2 184 := ⟨at_182, rfl⟩
theorem d0_184 : Dc code 184 (.iload 15) 2 186 := ⟨at_184, rfl⟩
theorem d0_186 : Dc code 186 (.iload 16) 2 188 := ⟨at_186, rfl⟩
theorem d0_188 : Dc code 188 (.invokestatic 28) 3 191 := ⟨at_188, rfl⟩
theorem d0_191 : Dc code 191 (.astore 20) 2 193 := ⟨at_191, rfl⟩
theorem d0_193 : Dc code 193 (.new 32) 3 196 := ⟨at_193, rfl⟩
theorem d0_196 : Dc code 196 .dup 1 197 := ⟨at_196, rfl⟩
theorem d0_197 : Dc code 197 (.aload 17) 2 199 := ⟨at_197, rfl⟩
theorem d0_199 : Dc code 199 (.aload 18) 2 201 := ⟨at_199, rfl⟩
theorem d0_201 : Dc code 201 (.invokespecial 34) 3 204 := ⟨at_201, rfl⟩
theorem d0_204 : Dc code 204 (.astore 21) 2 206 := ⟨at_204, rfl⟩
theorem d0_206 : Dc code 206 (.iload 4) 2 208 := ⟨at_206, rfl⟩
theorem d0_208 : Dc code 208 (.iconst 4) 1 209 := ⟨at_208, rfl⟩
theorem d0_209 : Dc code 209 .iushr 1 210 := ⟨at_209, rfl⟩
theorem d0_210 : Dc code 210 (.iconst 3) 1 211 := ⟨at_210, rfl⟩
theorem d0_211 : Dc code 211 .iand 1 212 := ⟨at_211, rfl⟩
theorem d0_212 : Dc code 212 (.istore 22) 2 214 := ⟨at_212, rfl⟩
theorem d0_214 : Dc code 214 (.iload 22) 2 216 := ⟨at_214, rfl⟩
theorem d0_216 : Dc code 216 (.iconst 2) 1 217 := ⟨at_216, rfl⟩
theorem d0_217 : Dc code 217 (.if_icmp .ne 11) 3 220 := ⟨at_217, rfl⟩
theorem d0_217t : Tg 217 (11) 228 := ⟨by decide, by decide⟩
theorem d0_220 : Dc code 220 (.aload 21) 2 222 := ⟨at_220, rfl⟩
theorem d0_222 : Dc code 222 (.aload 21) 2 224 := ⟨at_222, rfl⟩
theorem d0_224 : Dc code 224 (.invokevirtual 37) 3 227 := ⟨at_224, rfl⟩
theorem d0_227 : Dc code 227 .ireturn 1 228 := ⟨at_227, rfl⟩
theorem d0_228 : Dc code 228 (.iload 22) 2 230 := ⟨at_228, rfl⟩
theorem d0_230 : Dc code 230 (.iconst 3) 1 231 := ⟨at_230, rfl⟩
theorem d0_231 : Dc code 231 (.if_icmp .ne 42) 3 234 := ⟨at_231, rfl⟩
theorem d0_231t : Tg 231 (42) 273 := ⟨by decide, by decide⟩
theorem d0_234 : Dc code 234 (.iload 4) 2 236 := ⟨at_234, rfl⟩
theorem d0_236 : Dc code 236 (.bipush 64) 2 238 := ⟨at_236, rfl⟩
theorem d0_238 : Dc code 238 .iand 1 239 := ⟨at_238, rfl⟩
theorem d0_239 : Dc code 239 (.ifCond .eq 18) 3 242 := ⟨at_239, rfl⟩
theorem d0_239t : Tg 239 (18) 257 := ⟨by decide, by decide⟩
theorem d0_242 : Dc code 242 (.aload 21) 2 244 := ⟨at_242, rfl⟩
theorem d0_244 : Dc code 244 .aconst_null 1 245 := ⟨at_244, rfl⟩
theorem d0_245 : Dc code 245 (.invokevirtual 37) 3 248 := ⟨at_245, rfl⟩
theorem d0_248 : Dc code 248 (.ifCond .ne 7) 3 251 := ⟨at_248, rfl⟩
theorem d0_248t : Tg 248 (7) 255 := ⟨by decide, by decide⟩
theorem d0_251 : Dc code 251 (.iconst 1) 1 252 := ⟨at_251, rfl⟩
theorem d0_252 : Dc code 252 (.goto 4) 3 255 := ⟨at_252, rfl⟩
theorem d0_252t : Tg 252 (4) 256 := ⟨by decide, by decide⟩
theorem d0_255 : Dc code 255 (.iconst 0) 1 256 := ⟨at_255, rfl⟩
theorem d0_256 : Dc code 256 .ireturn 1 257 := ⟨at_256, rfl⟩
theorem d0_257 : Dc code 257 (.aload 21) 2 259 := ⟨at_257, rfl⟩
theorem d0_259 : Dc code 259 (.aload 17) 2 261 := ⟨at_259, rfl⟩
theorem d0_261 : Dc code 261 (.invokevirtual 37) 3 264 := ⟨at_261, rfl⟩
theorem d0_264 : Dc code 264 (.ifCond .ne 7) 3 267 := ⟨at_264, rfl⟩
theorem d0_264t : Tg 264 (7) 271 := ⟨by decide, by decide⟩
theorem d0_267 : Dc code 267 (.iconst 1) 1 268 := ⟨at_267, rfl⟩
theorem d0_268 : Dc code 268 (.goto 4) 3 271 := ⟨at_268, rfl⟩
theorem d0_268t : Tg 268 (4) 272 := ⟨by decide, by decide⟩
theorem d0_271 : Dc code 271 (.iconst 0) 1 272 := ⟨at_271, rfl⟩
theorem d0_272 : Dc code 272 .ireturn 1 273 := ⟨at_272, rfl⟩
theorem d0_273 : Dc code 273 (.new 32) 3 276 := ⟨at_273, rfl⟩
theorem d0_276 : Dc code 276 .dup 1 277 := ⟨at_276, rfl⟩
theorem d0_277 : Dc code 277 (.aload 19) 2 279 := ⟨at_277, rfl⟩
theorem d0_279 : Dc code 279 (.aload 20) 2 281 := ⟨at_279, rfl⟩
theorem d0_281 : Dc code 281 (.invokespecial 34) 3 284 := ⟨at_281, rfl⟩
theorem d0_284 : Dc code 284 (.astore 23) 2 286 := ⟨at_284, rfl⟩
theorem d0_286 : Dc code 286 (.iload 5) 2 288 := ⟨at_286, rfl⟩
theorem d0_288 : Dc code 288 (.iload 6) 2 290 := ⟨at_288, rfl⟩
theorem d0_290 : Dc code 290 (.if_icmp .ne 27) 3 293 := ⟨at_290, rfl⟩
theorem d0_290t : Tg 290 (27) 317 := ⟨by decide, by decide⟩
theorem d0_293 : Dc code 293 (.iload 9) 2 295 := ⟨at_293, rfl⟩
theorem d0_295 : Dc code 295 (.iload 11) 2 297 := ⟨at_295, rfl⟩
theorem d0_297 : Dc code 297 (.if_icmp .ne 20) 3 300 := ⟨at_297, rfl⟩
theorem d0_297t : Tg 297 (20) 317 := ⟨by decide, by decide⟩
theorem d0_300 : Dc code 300 (.iload 5) 2 302 := ⟨at_300, rfl⟩
theorem d0_302 : Dc code 302 (.iconst 1) 1 303 := ⟨at_302, rfl⟩
theorem d0_303 : Dc code 303 (.if_icmp .eq 10) 3 306 := ⟨at_303, rfl⟩
theorem d0_303t : Tg 303 (10) 313 := ⟨by decide, by decide⟩
theorem d0_306 : Dc code 306 (.iload 10) 2 308 := ⟨at_306, rfl⟩
theorem d0_308 : Dc code 308 (.iload 12) 2 310 := ⟨at_308, rfl⟩
theorem d0_310 : Dc code 310 (.if_icmp .ne 7) 3 313 := ⟨at_310, rfl⟩
theorem d0_310t : Tg 310 (7) 317 := ⟨by decide, by decide⟩
theorem d0_313 : Dc code 313 (.iconst 1) 1 314 := ⟨at_313, rfl⟩
theorem d0_314 : Dc code 314 (.goto 4) 3 317 := ⟨at_314, rfl⟩
theorem d0_314t : Tg 314 (4) 318 := ⟨by decide, by decide⟩
theorem d0_317 : Dc code 317 (.iconst 0) 1 318 := ⟨at_317, rfl⟩
theorem d0_318 : Dc code 318 (.istore 24) 2 320 := ⟨at_318, rfl⟩
theorem d0_320 : Dc code 320 (.iload 7) 2 322 := ⟨at_320, rfl⟩
theorem d0_322 : Dc code 322 (.iload 8) 2 324 := ⟨at_322, rfl⟩
theorem d0_324 : Dc code 324 (.if_icmp .ne 27) 3 327 := ⟨at_324, rfl⟩
theorem d0_324t : Tg 324 (27) 351 := ⟨by decide, by decide⟩
theorem d0_327 : Dc code 327 (.iload 13) 2 329 := ⟨at_327, rfl⟩
theorem d0_329 : Dc code 329 (.iload 15) 2 331 := ⟨at_329, rfl⟩
theorem d0_331 : Dc code 331 (.if_icmp .ne 20) 3 334 := ⟨at_331, rfl⟩
theorem d0_331t : Tg 331 (20) 351 := ⟨by decide, by decide⟩
theorem d0_334 : Dc code 334 (.iload 7) 2 336 := ⟨at_334, rfl⟩
theorem d0_336 : Dc code 336 (.iconst 1) 1 337 := ⟨at_336, rfl⟩
theorem d0_337 : Dc code 337 (.if_icmp .eq 10) 3 340 := ⟨at_337, rfl⟩
theorem d0_337t : Tg 337 (10) 347 := ⟨by decide, by decide⟩
theorem d0_340 : Dc code 340 (.iload 14) 2 342 := ⟨at_340, rfl⟩
theorem d0_342 : Dc code 342 (.iload 16) 2 344 := ⟨at_342, rfl⟩
theorem d0_344 : Dc code 344 (.if_icmp .ne 7) 3 347 := ⟨at_344, rfl⟩
theorem d0_344t : Tg 344 (7) 351 := ⟨by decide, by decide⟩
theorem d0_347 : Dc code 347 (.iconst 1) 1 348 := ⟨at_347, rfl⟩
theorem d0_348 : Dc code 348 (.goto 4) 3 351 := ⟨at_348, rfl⟩
theorem d0_348t : Tg 348 (4) 352 := ⟨by decide, by decide⟩
theorem d0_351 : Dc code 351 (.iconst 0) 1 352 := ⟨at_351, rfl⟩
theorem d0_352 : Dc code 352 (.istore 25) 2 354 := ⟨at_352, rfl⟩
theorem d0_354 : Dc code 354 (.iload 24) 2 356 := ⟨at_354, rfl⟩
theorem d0_356 : Dc code 356 (.ifCond .eq 12) 3 359 := ⟨at_356, rfl⟩
theorem d0_356t : Tg 356 (12) 368 := ⟨by decide, by decide⟩
theorem d0_359 : Dc code 359 (.iload 25) 2 361 := ⟨at_359, rfl⟩
theorem d0_361 : Dc code 361 (.ifCond .eq 7) 3 364 := ⟨at_361, rfl⟩
theorem d0_361t : Tg 361 (7) 368 := ⟨by decide, by decide⟩
theorem d0_364 : Dc code 364 (.iconst 1) 1 365 := ⟨at_364, rfl⟩
theorem d0_365 : Dc code 365 (.goto 4) 3 368 := ⟨at_365, rfl⟩
theorem d0_365t : Tg 365 (4) 369 := ⟨by decide, by decide⟩
theorem d0_368 : Dc code 368 (.iconst 0) 1 369 := ⟨at_368, rfl⟩
theorem d0_369 : Dc code 369 (.istore 26) 2 371 := ⟨at_369, rfl⟩
theorem d0_371 : Dc code 371 (.aload 21) 2 373 := ⟨at_371, rfl⟩
theorem d0_373 : Dc code 373 (.aload 23) 2 375 := ⟨at_373, rfl⟩
theorem d0_375 : Dc code 375 (.invokevirtual 37) 3 378 := ⟨at_375, rfl⟩
theorem d0_378 : Dc code 378 (.iload 26) 2 380 := ⟨at_378, rfl⟩
theorem d0_380 : Dc code 380 (.if_icmp .ne 19) 3 383 := ⟨at_380, rfl⟩
theorem d0_380t : Tg 380 (19) 399 := ⟨by decide, by decide⟩
theorem d0_383 : Dc code 383 (.aload 23) 2 385 := ⟨at_383, rfl⟩
theorem d0_385 : Dc code 385 (.aload 21) 2 387 := ⟨at_385, rfl⟩
theorem d0_387 : Dc code 387 (.invokevirtual 37) 3 390 := ⟨at_387, rfl⟩
theorem d0_390 : Dc code 390 (.iload 26) 2 392 := ⟨at_390, rfl⟩
theorem d0_392 : Dc code 392 (.if_icmp .ne 7) 3 395 := ⟨at_392, rfl⟩
theorem d0_392t : Tg 392 (7) 399 := ⟨by decide, by decide⟩
theorem d0_395 : Dc code 395 (.iconst 1) 1 396 := ⟨at_395, rfl⟩
theorem d0_396 : Dc code 396 (.goto 4) 3 399 := ⟨at_396, rfl⟩
theorem d0_396t : Tg 396 (4) 400 := ⟨by decide, by decide⟩
theorem d0_399 : Dc code 399 (.iconst 0) 1 400 := ⟨at_399, rfl⟩
theorem d0_400 : Dc code 400 .ireturn 1 401 := ⟨at_400, rfl⟩
set_option maxRecDepth 65536 in
set_option maxHeartbeats 40000000 in
theorem rmLet (l : Launch) (Z : State) (a0 : Array Value) (hw : ∀ d ∈ tables_1, d.before a0 Z = true) (v : Int32) (h0 : Heap) (hE : Ext Z.heap h0) :
    Ct true l Z [] (⟨"com/example/lucioles/lucioles/model/RdnEqualsPinLaw", "letter", "(I)C"⟩ : MethodName) method_2_code 2 (some .char) [] ({ frames := 0, cells := 0, slots := 0, locals := 0 } : Room) [] #[(.int v)] h0 (fun r u => h0 = u ∧ ∃ c, r = some (.int c) ∧ own_L c) := by
  refine Ct.intro pn_com_example_lucioles_lucioles_model_RdnEqualsPinLaw hE (fun m => efP m v) nosf ⟨a0, own_EW hw⟩ ?_
  intro x T w
  refine w.iloadN d1_0 rfl ?_
  refine w.bipush (7 : Int32) d1_1 rfl ?_
  refine w.iand d1_3 ?_
  refine w.istoreN #[.val (.int v), .val (.int (v &&& (7 : Int32)))] d1_4 rfl ?_
  refine w.iloadN d1_5 rfl ?_
  refine w.ifNe d1_6 d1_6t (fun q1 => ?_) (fun q1 => ?_)
  · refine w.iloadN d1_12 rfl ?_
    refine w.iconst (1 : Int32) d1_13 rfl ?_
    refine w.icmpNe d1_14 d1_14t (fun q2 => ?_) (fun q2 => ?_)
    · refine w.iloadN d1_20 rfl ?_
      refine w.iconst (2 : Int32) d1_21 rfl ?_
      refine w.icmpNe d1_22 d1_22t (fun q3 => ?_) (fun q3 => ?_)
      · refine w.iloadN d1_28 rfl ?_
        refine w.iconst (3 : Int32) d1_29 rfl ?_
        refine w.icmpNe d1_30 d1_30t (fun q4 => ?_) (fun q4 => ?_)
        · refine w.iloadN d1_36 rfl ?_
          refine w.iconst (4 : Int32) d1_37 rfl ?_
          refine w.icmpNe d1_38 d1_38t (fun q5 => ?_) (fun q5 => ?_)
          · refine w.iloadN d1_44 rfl ?_
            refine w.iconst (5 : Int32) d1_45 rfl ?_
            refine w.icmpNe d1_46 d1_46t (fun q6 => ?_) (fun q6 => ?_)
            · refine w.iloadN d1_52 rfl ?_
              refine w.bipush (6 : Int32) d1_53 rfl ?_
              refine w.icmpNe d1_55 d1_55t (fun q7 => ?_) (fun q7 => ?_)
              · refine w.bipush (122 : Int32) d1_61 rfl ?_
                exact w.retN d1_63 rfl (by simp) ⟨rfl, 122, rfl, by simp [own_L]⟩
              · refine w.bipush (121 : Int32) d1_58 rfl ?_
                exact w.retN d1_60 rfl (by simp) ⟨rfl, 121, rfl, by simp [own_L]⟩
            · refine w.bipush (98 : Int32) d1_49 rfl ?_
              exact w.retN d1_51 rfl (by simp) ⟨rfl, 98, rfl, by simp [own_L]⟩
          · refine w.bipush (97 : Int32) d1_41 rfl ?_
            exact w.retN d1_43 rfl (by simp) ⟨rfl, 97, rfl, by simp [own_L]⟩
        · refine w.bipush (90 : Int32) d1_33 rfl ?_
          exact w.retN d1_35 rfl (by simp) ⟨rfl, 90, rfl, by simp [own_L]⟩
      · refine w.bipush (89 : Int32) d1_25 rfl ?_
        exact w.retN d1_27 rfl (by simp) ⟨rfl, 89, rfl, by simp [own_L]⟩
    · refine w.bipush (66 : Int32) d1_17 rfl ?_
      exact w.retN d1_19 rfl (by simp) ⟨rfl, 66, rfl, by simp [own_L]⟩
  · refine w.bipush (65 : Int32) d1_9 rfl ?_
    exact w.retN d1_11 rfl (by simp) ⟨rfl, 65, rfl, by simp [own_L]⟩

set_option maxRecDepth 65536 in
set_option maxHeartbeats 40000000 in
theorem rmNam (l : Launch) (Z : State) (a0 : Array Value) (hw : ∀ d ∈ tables_1, d.before a0 Z = true) (v : Int32) (h0 : Heap) (hE : Ext Z.heap h0) :
    Ct true l Z [] (⟨"com/example/lucioles/lucioles/model/RdnEqualsPinLaw", "nameChar", "(I)C"⟩ : MethodName) method_3_code 2 (some .char) [] ({ frames := 0, cells := 0, slots := 0, locals := 0 } : Room) [] #[(.int v)] h0 (fun r u => h0 = u ∧ ∃ c, r = some (.int c) ∧ own_N c) := by
  refine Ct.intro pn_com_example_lucioles_lucioles_model_RdnEqualsPinLaw hE (fun m => efP2 m v) nosf ⟨a0, own_EW hw⟩ ?_
  intro x T w
  refine w.iloadN d2_0 rfl ?_
  refine w.bipush (7 : Int32) d2_1 rfl ?_
  refine w.iand d2_3 ?_
  refine w.istoreN #[.val (.int v), .val (.int (v &&& (7 : Int32)))] d2_4 rfl ?_
  refine w.iloadN d2_5 rfl ?_
  refine w.ifNe d2_6 d2_6t (fun q1 => ?_) (fun q1 => ?_)
  · refine w.iloadN d2_12 rfl ?_
    refine w.iconst (1 : Int32) d2_13 rfl ?_
    refine w.icmpNe d2_14 d2_14t (fun q2 => ?_) (fun q2 => ?_)
    · refine w.iloadN d2_20 rfl ?_
      refine w.iconst (2 : Int32) d2_21 rfl ?_
      refine w.icmpNe d2_22 d2_22t (fun q3 => ?_) (fun q3 => ?_)
      · refine w.iloadN d2_28 rfl ?_
        refine w.iconst (3 : Int32) d2_29 rfl ?_
        refine w.icmpNe d2_30 d2_30t (fun q4 => ?_) (fun q4 => ?_)
        · refine w.iloadN d2_36 rfl ?_
          refine w.iconst (4 : Int32) d2_37 rfl ?_
          refine w.icmpNe d2_38 d2_38t (fun q5 => ?_) (fun q5 => ?_)
          · refine w.iloadN d2_44 rfl ?_
            refine w.iconst (5 : Int32) d2_45 rfl ?_
            refine w.icmpNe d2_46 d2_46t (fun q6 => ?_) (fun q6 => ?_)
            · refine w.iloadN d2_52 rfl ?_
              refine w.bipush (6 : Int32) d2_53 rfl ?_
              refine w.icmpNe d2_55 d2_55t (fun q7 => ?_) (fun q7 => ?_)
              · refine w.bipush (122 : Int32) d2_61 rfl ?_
                exact w.retN d2_63 rfl (by simp) ⟨rfl, 122, rfl, by simp [own_N]⟩
              · refine w.bipush (46 : Int32) d2_58 rfl ?_
                exact w.retN d2_60 rfl (by simp) ⟨rfl, 46, rfl, by simp [own_N]⟩
            · refine w.bipush (45 : Int32) d2_49 rfl ?_
              exact w.retN d2_51 rfl (by simp) ⟨rfl, 45, rfl, by simp [own_N]⟩
          · refine w.bipush (95 : Int32) d2_41 rfl ?_
            exact w.retN d2_43 rfl (by simp) ⟨rfl, 95, rfl, by simp [own_N]⟩
        · refine w.bipush (57 : Int32) d2_33 rfl ?_
          exact w.retN d2_35 rfl (by simp) ⟨rfl, 57, rfl, by simp [own_N]⟩
      · refine w.bipush (48 : Int32) d2_25 rfl ?_
        exact w.retN d2_27 rfl (by simp) ⟨rfl, 48, rfl, by simp [own_N]⟩
    · refine w.bipush (97 : Int32) d2_17 rfl ?_
      exact w.retN d2_19 rfl (by simp) ⟨rfl, 97, rfl, by simp [own_N]⟩
  · refine w.bipush (65 : Int32) d2_9 rfl ?_
    exact w.retN d2_11 rfl (by simp) ⟨rfl, 65, rfl, by simp [own_N]⟩

set_option maxRecDepth 65536 in
set_option maxHeartbeats 40000000 in
theorem rmIdc (l : Launch) (Z : State) (a0 : Array Value) (hw : ∀ d ∈ tables_1, d.before a0 Z = true) (v : Int32) (h0 : Heap) (hE : Ext Z.heap h0) :
    Ct true l Z [] (⟨"com/example/lucioles/lucioles/model/RdnEqualsPinLaw", "idChar", "(I)C"⟩ : MethodName) method_4_code 2 (some .char) [] ({ frames := 0, cells := 0, slots := 0, locals := 0 } : Room) [] #[(.int v)] h0 (fun r u => h0 = u ∧ ∃ c, r = some (.int c) ∧ own_I c) := by
  refine Ct.intro pn_com_example_lucioles_lucioles_model_RdnEqualsPinLaw hE (fun m => efP3 m v) nosf ⟨a0, own_EW hw⟩ ?_
  intro x T w
  refine w.iloadN d3_0 rfl ?_
  refine w.sipush (255 : Int32) d3_1 rfl ?_
  refine w.iand d3_4 ?_
  refine w.istoreN #[.val (.int v), .val (.int (v &&& (255 : Int32)))] d3_5 rfl ?_
  refine w.iloadN d3_6 rfl ?_
  refine w.bipush (32 : Int32) d3_7 rfl ?_
  refine w.icmpLt d3_9 d3_9t (fun q0 => ?_) (fun q0 => ?_)
  · refine w.bipush (120 : Int32) d3_42 rfl ?_
    exact w.retN d3_44 rfl (by simp) ⟨rfl, 120, rfl, by decide⟩
  · refine w.iloadN d3_12 rfl ?_
    refine w.bipush (127 : Int32) d3_13 rfl ?_
    refine w.icmpEq d3_15 d3_15t (fun q1 => ?_) (fun q1 => ?_)
    · refine w.bipush (120 : Int32) d3_42 rfl ?_
      exact w.retN d3_44 rfl (by simp) ⟨rfl, 120, rfl, by decide⟩
    · refine w.iloadN d3_18 rfl ?_
      refine w.bipush (44 : Int32) d3_19 rfl ?_
      refine w.icmpEq d3_21 d3_21t (fun q2 => ?_) (fun q2 => ?_)
      · refine w.bipush (120 : Int32) d3_42 rfl ?_
        exact w.retN d3_44 rfl (by simp) ⟨rfl, 120, rfl, by decide⟩
      · refine w.iloadN d3_24 rfl ?_
        refine w.bipush (47 : Int32) d3_25 rfl ?_
        refine w.icmpEq d3_27 d3_27t (fun q3 => ?_) (fun q3 => ?_)
        · refine w.bipush (120 : Int32) d3_42 rfl ?_
          exact w.retN d3_44 rfl (by simp) ⟨rfl, 120, rfl, by decide⟩
        · refine w.iloadN d3_30 rfl ?_
          refine w.bipush (61 : Int32) d3_31 rfl ?_
          refine w.icmpEq d3_33 d3_33t (fun q4 => ?_) (fun q4 => ?_)
          · refine w.bipush (120 : Int32) d3_42 rfl ?_
            exact w.retN d3_44 rfl (by simp) ⟨rfl, 120, rfl, by decide⟩
          · refine w.iloadN d3_36 rfl ?_
            refine w.bipush (92 : Int32) d3_37 rfl ?_
            refine w.icmpNe d3_39 d3_39t (fun q5 => ?_) (fun q5 => ?_)
            · refine w.iloadN d3_45 rfl ?_
              refine w.i2c d3_46 ?_
              exact w.retN d3_47 rfl (by simp) ⟨rfl, _, rfl, own_Id v q0 q1 q2 q3 q4 q5⟩
            · refine w.bipush (120 : Int32) d3_42 rfl ?_
              exact w.retN d3_44 rfl (by simp) ⟨rfl, 120, rfl, by decide⟩

set_option maxRecDepth 65536 in
set_option maxHeartbeats 40000000 in
theorem rmMk (l : Launch) (Z : State) (a0 : Array Value) (hw : ∀ d ∈ tables_1, d.before a0 Z = true) (hr : rest_1_c.value a0 Z none Z [] = some true) (ln c0 c1 : Int32) (h0 : Heap) (hE : Ext Z.heap h0) (y0 : nar .char c0 = c0) (y1 : nar .char c1 = c1) (u0 : ¬ 255 < c0) (u1 : ¬ 255 < c1) :
    Ct true l Z [] (⟨"com/example/lucioles/lucioles/model/RdnEqualsPinLaw", "make", "(ICC)Ljava/lang/String;"⟩ : MethodName) method_5_code 3 (some (.object "java/lang/String")) [] ({ frames := 4, cells := 4, slots := 12, locals := 80 } : Room) [] #[(.int ln), (.int c0), (.int c1)] h0 (fun r u => ∃ s t, r = some (.ref s) ∧ Ext h0 u ∧ StrL Z u s t 0 (own_bytes ln c0 c1)) := by
  refine Ct.intro pn_com_example_lucioles_lucioles_model_RdnEqualsPinLaw hE (fun m => efM m ln c0 c1) nosf ⟨a0, own_EW hw⟩ ?_
  intro x T w
  refine w.iloadN d4_0 rfl ?_
  refine w.iconst (1 : Int32) d4_1 rfl ?_
  refine w.icmpNe d4_2 d4_2t (fun q1 => ?_) (fun q1 => ?_)
  · have sz0 := w.size
    refine w.new d4_10 (tw hw 133 rfl) (tw hw 23 rfl) (tw hw 15 rfl) ⟨by decide, by decide⟩ ?_
    intro s T h1 g_s w E41 A42 D43
    have ge_s : Z.heap.size ≤ s := by rw [g_s]; exact sz0
    have F44 : Fld Z h1 s "java/lang/String" "value" "[B" .null := D43 (Or.inr (tw hw 36 rfl)) (ty := (.array .byte)) (by decide)
    have F45 : Fld Z h1 s "java/lang/String" "coder" "B" (.int (0 : Int32)) := D43 (Or.inr (tw hw 38 rfl)) (ty := .byte) (by decide)
    refine w.dup d4_13 rfl ?_
    refine w.iconst (2 : Int32) d4_14 rfl ?_
    have sz0 := w.size
    refine w.newP 2 "[C" d4_15 (tw hw 134 rfl) (by decide) (by decide) (by decide) (by decide) ⟨by decide, by decide⟩ ?_
    intro d T h2 kd g_d w E_d A_d X_d
    have ge_d : Z.heap.size ≤ d := by rw [g_d]; exact sz0
    have ne_s_d : s ≠ d := Nat.ne_of_lt (Nat.lt_of_lt_of_eq A42.lt g_d.symm)
    have F46 := A42.ext E_d
    have F47 := F44.ext E_d
    have F48 := F45.ext E_d
    refine w.dup d4_17 rfl ?_
    refine w.iconst (0 : Int32) d4_18 rfl ?_
    refine w.iloadN d4_19 rfl ?_
    refine w.stC 0 [(.int 0)] d4_20 A_d ⟨by decide, by decide⟩ (by decide) (pad_rep [] (.int 0) 1) (by simp) (fnc _) (List.mem_of_getElem? (i := 0) rfl) ?_
    intro T h3 w W49 A50
    rw [y0] at A50
    have A51 : Arv Z h3 d kd .char (2 : Int32) [(.int c0)] (.int 0) := A50
    have F52 := F46.wr W49
    have F53 := F47.other W49 (Or.inl ne_s_d)
    have F54 := F48.other W49 (Or.inl ne_s_d)
    refine w.dup d4_21 rfl ?_
    refine w.iconst (1 : Int32) d4_22 rfl ?_
    refine w.iloadN d4_23 rfl ?_
    refine w.stC 1 [(.int c0), (.int 0)] d4_24 A51 ⟨by decide, by decide⟩ (by decide) (pad_rep [(.int c0)] (.int 0) 1) (by simp) (fnc _) (List.mem_of_getElem? (i := 0) rfl) ?_
    intro T h4 w W55 A56
    rw [y1] at A56
    have A57 : Arv Z h4 d kd .char (2 : Int32) [(.int c0), (.int c1)] (.int 0) := A56
    have F58 := F52.wr W55
    have F59 := F53.other W55 (Or.inl ne_s_d)
    have F60 := F54.other W55 (Or.inl ne_s_d)
    refine w.callI (argsL := [(.ref d)]) (rest := [(.ref s)]) 1 d4_25 rfl (tw hw 135 rfl) (tw hw 136 rfl) (tw hw 15 rfl) (tw hw 137 rfl) (by decide) (rmS1_2 l Z a0 hw hr s d kd c0 c1 h4 w.old ge_s F58 F59 F60 A57 u0 u1) (lenOf pd_13 rfl) rfl rfl (Nat.le_refl _) ⟨by decide, by decide, by decide, by decide⟩ (allS (List.mem_of_getElem? (i := 1) rfl) all0) ?_
    intro T h5 r w _ hQ
    obtain ⟨rfl, K_s, t_s, gt_s, S_s⟩ := hQ
    show Go x _ Z _ _ _ T 28 #[.val (.int ln), .val (.int c0), .val (.int c1)] [(.ref s)]
    exact w.retA d4_28 rfl rfl rfl rfl ⟨s, t_s, rfl, ext_keep (((((keep_ext (ws := []) E41).ext E_d).wr W49 (Or.inr (Nat.le_trans E41.1 (Nat.le_of_eq g_d.symm)))).wr W55 (Or.inr (Nat.le_trans E41.1 (Nat.le_of_eq g_d.symm)))).trans K_s (allS (Or.inr (Nat.le_of_eq g_s.symm)) all0)), by rw [own_bytes, if_neg q1]; exact S_s⟩
  · refine w.iloadN d4_5 rfl ?_
    refine w.callS (argsL := [(.int c0)]) (rest := []) 0 d4_6 (tw hw 13 rfl) (tw hw 14 rfl) (tw hw 15 rfl) (tw hw 16 rfl) (by decide) (rmVC l Z a0 hw hr c0 h0 w.old u0) (lenOf pd_14 rfl) rfl rfl (Nat.le_refl _) ⟨by decide, by decide, by decide, by decide⟩ all0 ?_
    intro T h6 r w _ hQ
    obtain ⟨s, t, rfl, E1, -, -, S1⟩ := hQ
    show Go x _ Z _ _ _ T 9 #[.val (.int ln), .val (.int c0), .val (.int c1)] [(.ref s)]
    exact w.retA d4_9 rfl rfl rfl rfl ⟨s, t, rfl, E1, by rw [own_bytes, if_pos q1]; exact S1⟩

set_option maxRecDepth 65536 in
set_option maxHeartbeats 40000000 in
theorem rmNN (l : Launch) (Z : State) (a0 : Array Value) (hw : ∀ d ∈ tables_1, d.before a0 Z = true) (a t : Addr) (h0 : Heap) (hE : Ext Z.heap h0) :
    Ct true l Z [] (⟨"java/util/Objects", "requireNonNull", "(Ljava/lang/Object;Ljava/lang/String;)Ljava/lang/Object;"⟩ : MethodName) jdk_31_method_11_code 2 (some (.object "java/lang/Object")) [] ({ frames := 0, cells := 0, slots := 0, locals := 0 } : Room) [] #[(.ref a), (.ref t)] h0 (fun v u => v = some (.ref a) ∧ h0 = u) := by
  refine Ct.intro pn_java_util_Objects hE (fun m => efNN m a t) nosf ⟨a0, own_EW hw⟩ ?_
  intro x T w
  refine w.aloadN d12_0 rfl rfl ?_
  refine w.nonnullT d12_1 d12_1t ?_
  refine w.aloadN d12_13 rfl rfl ?_
  exact w.retA d12_14 rfl rfl rfl rfl ⟨rfl, rfl⟩

set_option maxRecDepth 65536 in
set_option maxHeartbeats 40000000 in
theorem rmAL (l : Launch) (Z : State) (a0 : Array Value) (hw : ∀ d ∈ tables_1, d.before a0 Z = true) (c : Int32) (h0 : Heap) (hE : Ext Z.heap h0) :
    Ct true l Z [] (⟨"com/example/lucioles/lucioles/model/Rdn", "isAsciiLetter", "(C)Z"⟩ : MethodName) prog_9_method_13_code 1 (some .boolean) [] ({ frames := 0, cells := 0, slots := 0, locals := 0 } : Room) [] #[(.int c)] h0 (fun r u => r = some (.int (if (¬ c < 65 ∧ ¬ 90 < c) ∨ (¬ c < 97 ∧ ¬ 122 < c) then 1 else 0)) ∧ h0 = u) := by
  refine Ct.intro pn_com_example_lucioles_lucioles_model_Rdn hE (fun m => efAL m c) nosf ⟨a0, own_EW hw⟩ ?_
  intro x T w
  refine w.iloadN d19_0 rfl ?_
  refine w.bipush (65 : Int32) d19_1 rfl ?_
  refine w.icmpLt d19_3 d19_3t (fun p1 => ?_) (fun p1 => ?_)
  · refine w.iloadN d19_12 rfl ?_
    refine w.bipush (97 : Int32) d19_13 rfl ?_
    refine w.icmpLt d19_15 d19_15t (fun p3 => ?_) (fun p3 => ?_)
    · refine w.iconst (0 : Int32) d19_28 rfl ?_
      exact w.retN d19_29 rfl (by simp) ⟨by rw [if_neg (fun e => e.elim (fun z => z.1 p1) (fun z => z.1 p3))]; rfl, rfl⟩
    · refine w.iloadN d19_18 rfl ?_
      refine w.bipush (122 : Int32) d19_19 rfl ?_
      refine w.icmpGt d19_21 d19_21t (fun p4 => ?_) (fun p4 => ?_)
      · refine w.iconst (0 : Int32) d19_28 rfl ?_
        exact w.retN d19_29 rfl (by simp) ⟨by rw [if_neg (fun e => e.elim (fun z => z.1 p1) (fun z => z.2 p4))]; rfl, rfl⟩
      · refine w.iconst (1 : Int32) d19_24 rfl ?_
        refine w.goto d19_25 d19_25t ?_
        exact w.retN d19_29 rfl (by simp) ⟨by rw [if_pos (Or.inr ⟨p3, p4⟩)]; rfl, rfl⟩
  · refine w.iloadN d19_6 rfl ?_
    refine w.bipush (90 : Int32) d19_7 rfl ?_
    refine w.icmpLe d19_9 d19_9t (fun p2 => ?_) (fun p2 => ?_)
    · refine w.iconst (1 : Int32) d19_24 rfl ?_
      refine w.goto d19_25 d19_25t ?_
      exact w.retN d19_29 rfl (by simp) ⟨by rw [if_pos (Or.inl ⟨p1, p2⟩)]; rfl, rfl⟩
    · refine w.iloadN d19_12 rfl ?_
      refine w.bipush (97 : Int32) d19_13 rfl ?_
      refine w.icmpLt d19_15 d19_15t (fun p3 => ?_) (fun p3 => ?_)
      · refine w.iconst (0 : Int32) d19_28 rfl ?_
        exact w.retN d19_29 rfl (by simp) ⟨by rw [if_neg (fun e => e.elim (fun z => z.2 p2) (fun z => z.1 p3))]; rfl, rfl⟩
      · refine w.iloadN d19_18 rfl ?_
        refine w.bipush (122 : Int32) d19_19 rfl ?_
        refine w.icmpGt d19_21 d19_21t (fun p4 => ?_) (fun p4 => ?_)
        · refine w.iconst (0 : Int32) d19_28 rfl ?_
          exact w.retN d19_29 rfl (by simp) ⟨by rw [if_neg (fun e => e.elim (fun z => z.2 p2) (fun z => z.2 p4))]; rfl, rfl⟩
        · refine w.iconst (1 : Int32) d19_24 rfl ?_
          refine w.goto d19_25 d19_25t ?_
          exact w.retN d19_29 rfl (by simp) ⟨by rw [if_pos (Or.inr ⟨p3, p4⟩)]; rfl, rfl⟩

set_option maxRecDepth 65536 in
set_option maxHeartbeats 40000000 in
theorem rmAC (l : Launch) (Z : State) (a0 : Array Value) (hw : ∀ d ∈ tables_1, d.before a0 Z = true) (c : Int32) (hI : own_I c) (h0 : Heap) (hE : Ext Z.heap h0) :
    Ct true l Z [] (⟨"com/example/lucioles/lucioles/model/Rdn", "isAsciiControl", "(I)Z"⟩ : MethodName) prog_9_method_12_code 1 (some .boolean) [] ({ frames := 0, cells := 0, slots := 0, locals := 0 } : Room) [] #[(.int c)] h0 (fun r u => r = some (.int (0 : Int32)) ∧ h0 = u) := by
  refine Ct.intro pn_com_example_lucioles_lucioles_model_Rdn hE (fun m => efAC m c) nosf ⟨a0, own_EW hw⟩ ?_
  intro x T w
  refine w.iloadN d24_0 rfl ?_
  refine w.bipush (32 : Int32) d24_1 rfl ?_
  refine w.icmpLt d24_3 d24_3t (fun q => absurd q hI.1) (fun _ => ?_)
  refine w.iloadN d24_6 rfl ?_
  refine w.bipush (127 : Int32) d24_7 rfl ?_
  refine w.icmpNe d24_9 d24_9t (fun _ => ?_) (fun q => absurd q hI.2.2.1)
  refine w.iconst (0 : Int32) d24_16 rfl ?_
  exact w.retN d24_17 rfl (by simp) ⟨rfl, rfl⟩

set_option maxRecDepth 65536 in
set_option maxHeartbeats 40000000 in
theorem rmCC (l : Launch) (Z : State) (a0 : Array Value) (hw : ∀ d ∈ tables_1, d.before a0 Z = true) (c : Int32) (hc : c < 65536) (h0 : Heap) (hE : Ext Z.heap h0) :
    Ct true l Z [] (⟨"java/lang/Character", "charCount", "(I)I"⟩ : MethodName) jdk_89_method_18_code 1 (some .int) [] ({ frames := 0, cells := 0, slots := 0, locals := 0 } : Room) [] #[(.int c)] h0 (fun r u => r = some (.int (1 : Int32)) ∧ h0 = u) := by
  refine Ct.intro pn_java_lang_Character hE (fun m => efCC m c) nosf ⟨a0, own_EW hw⟩ ?_
  intro x T w
  refine w.iloadN d25_0 rfl ?_
  refine w.ldcI d25_1 (tw hw 113 rfl) ?_
  refine w.icmpLt d25_3 d25_3t (fun _ => ?_) (fun q => absurd hc q)
  refine w.iconst (1 : Int32) d25_10 rfl ?_
  exact w.retI d25_11 rfl ⟨rfl, rfl⟩

set_option maxRecDepth 65536 in
set_option maxHeartbeats 40000000 in
theorem rmCN_1 (l : Launch) (Z : State) (a0 : Array Value) (hw : ∀ d ∈ tables_1, d.before a0 Z = true) (hr : rest_1_c.value a0 Z none Z [] = some true) (a t : Addr) (c0 : Int32) (h0 : Heap) (hE : Ext Z.heap h0) (Sa : StrL Z h0 a t 0 [nar .byte c0]) (hL : own_L c0)  :
    Ct true l Z [] (⟨"com/example/lucioles/lucioles/model/Rdn", "checkClassName", "(Ljava/lang/String;)V"⟩ : MethodName) prog_9_method_8_code 3 none [] ({ frames := 4, cells := 2, slots := 44, locals := 64 } : Room) [] #[(.ref a)] h0 (fun r u => r = none ∧ Ext h0 u) := by
  refine Ct.intro pn_com_example_lucioles_lucioles_model_Rdn hE (fun m => efCN m a) nosf ⟨a0, own_EW hw⟩ ?_
  intro x T w
  refine w.aloadN d11_0 rfl rfl ?_
  refine w.ldcS 36 d11_1 (tw hw 49 rfl) (own_sA hw) (own_EW hw) (by decide) (by decide) ⟨by decide, by decide⟩ ?_
  intro s T h1 w E1
  have F2 := Sa.ext E1
  refine w.callS (argsL := [(.ref a), (.ref s)]) (rest := []) 0 d11_3 (tw hw 52 rfl) (tw hw 53 rfl) (tw hw 54 rfl) (tw hw 55 rfl) (by decide) (rmNN l Z a0 hw a s h1 w.old) (lenOf pd_15 rfl) rfl rfl (Nat.le_refl _) ⟨by decide, by decide, by decide, by decide⟩ all0 ?_
  intro T h2 r w _ hQ
  obtain ⟨rfl, rfl⟩ := hQ
  show Go x _ Z _ _ _ T 6 #[.val (.ref a), .unset, .unset] [(.ref a)]
  refine w.pop d11_6 rfl ?_
  refine w.aloadN d11_7 rfl rfl ?_
  refine w.callV (argsL := []) (rest := []) 0 d11_8 (tw hw 56 rfl) (tw hw 57 rfl) (tw hw 59 rfl) (tw hw 58 rfl) (tw hw 15 rfl) (tw hw 60 rfl) (by decide) F2.1 (rmEm_1 l Z a0 hw a t c0 h1 w.old F2) (lenOf pd_11 rfl) rfl rfl (Nat.le_refl _) ⟨by decide, by decide, by decide, by decide⟩ all0 ?_
  intro T h3 r w _ hQ
  obtain ⟨rfl, rfl⟩ := hQ
  show Go x _ Z _ _ _ T 11 #[.val (.ref a), .unset, .unset] [(.int (0 : Int32))]
  refine w.ifEq d11_11 d11_11t (fun _ => ?_) (fun q => absurd rfl q)
  refine w.aloadN d11_24 rfl rfl ?_
  refine w.iconst (0 : Int32) d11_25 rfl ?_
  obtain ⟨z0, u0, y0, i0⟩ := own_Lp hL
  refine w.callV (argsL := [(.int (0 : Int32))]) (rest := []) 0 d11_26 (tw hw 61 rfl) (tw hw 62 rfl) (tw hw 64 rfl) (tw hw 63 rfl) (tw hw 15 rfl) (tw hw 65 rfl) (by decide) F2.1 (rmCA_1_0 l Z a0 hw hr a t c0 h1 w.old F2 z0 u0 y0) (lenOf pd_16 rfl) rfl rfl (Nat.le_refl _) ⟨by decide, by decide, by decide, by decide⟩ all0 ?_
  intro T h4 r w _ hQ
  obtain ⟨rfl, rfl⟩ := hQ
  show Go x _ Z _ _ _ T 29 #[.val (.ref a), .unset, .unset] [(.int c0)]
  refine w.callS (argsL := [(.int c0)]) (rest := []) 0 d11_29 (tw hw 82 rfl) (tw hw 83 rfl) (tw hw 41 rfl) (tw hw 84 rfl) (by decide) (rmAL l Z a0 hw c0 h1 w.old) (lenOf pd_4 rfl) rfl rfl (Nat.le_refl _) ⟨by decide, by decide, by decide, by decide⟩ all0 ?_
  intro T h5 r w _ hQ
  obtain ⟨rfl, rfl⟩ := hQ
  show Go x _ Z _ _ _ T 32 #[.val (.ref a), .unset, .unset] [(.int (if (¬ c0 < 65 ∧ ¬ 90 < c0) ∨ (¬ c0 < 97 ∧ ¬ 122 < c0) then 1 else 0))]
  refine w.ifNe d11_32 d11_32t (fun _ => ?_) (fun q => absurd q (fun e => absurd (own_if0 e) (fun z => z i0)))
  refine w.iconst (1 : Int32) d11_52 rfl ?_
  refine w.istoreN #[.val (.ref a), .val (.int (1 : Int32)), .unset] d11_53 rfl ?_
  refine w.iloadN d11_54 rfl ?_
  refine w.aloadN d11_55 rfl rfl ?_
  refine w.callV (argsL := []) (rest := [(.int (1 : Int32))]) 1 d11_56 (tw hw 85 rfl) (tw hw 86 rfl) (tw hw 88 rfl) (tw hw 87 rfl) (tw hw 15 rfl) (tw hw 89 rfl) (by decide) F2.1 (rmLn_1 l Z a0 hw hr a t c0 h1 w.old F2) (lenOf pd_17 rfl) rfl rfl (Nat.le_refl _) ⟨by decide, by decide, by decide, by decide⟩ all0 ?_
  intro T h6 r w _ hQ
  obtain ⟨rfl, rfl⟩ := hQ
  show Go x _ Z _ _ _ T 59 #[.val (.ref a), .val (.int (1 : Int32)), .unset] [(.int (1 : Int32)), (.int (1 : Int32))]
  refine w.icmpGe d11_59 d11_59t (fun _ => ?_) (fun q => absurd q (by decide))
  exact w.retV d11_132 rfl ⟨rfl, E1⟩

set_option maxRecDepth 65536 in
set_option maxHeartbeats 40000000 in
theorem rmCN_2 (l : Launch) (Z : State) (a0 : Array Value) (hw : ∀ d ∈ tables_1, d.before a0 Z = true) (hr : rest_1_c.value a0 Z none Z [] = some true) (a t : Addr) (c0 c1 : Int32) (h0 : Heap) (hE : Ext Z.heap h0) (Sa : StrL Z h0 a t 0 [nar .byte c0, nar .byte c1]) (hL : own_L c0) (hN : own_N c1) :
    Ct true l Z [] (⟨"com/example/lucioles/lucioles/model/Rdn", "checkClassName", "(Ljava/lang/String;)V"⟩ : MethodName) prog_9_method_8_code 3 none [] ({ frames := 4, cells := 2, slots := 44, locals := 64 } : Room) [] #[(.ref a)] h0 (fun r u => r = none ∧ Ext h0 u) := by
  refine Ct.intro pn_com_example_lucioles_lucioles_model_Rdn hE (fun m => efCN m a) nosf ⟨a0, own_EW hw⟩ ?_
  intro x T w
  refine w.aloadN d11_0 rfl rfl ?_
  refine w.ldcS 36 d11_1 (tw hw 49 rfl) (own_sA hw) (own_EW hw) (by decide) (by decide) ⟨by decide, by decide⟩ ?_
  intro s T h1 w E1
  have F2 := Sa.ext E1
  refine w.callS (argsL := [(.ref a), (.ref s)]) (rest := []) 0 d11_3 (tw hw 52 rfl) (tw hw 53 rfl) (tw hw 54 rfl) (tw hw 55 rfl) (by decide) (rmNN l Z a0 hw a s h1 w.old) (lenOf pd_15 rfl) rfl rfl (Nat.le_refl _) ⟨by decide, by decide, by decide, by decide⟩ all0 ?_
  intro T h2 r w _ hQ
  obtain ⟨rfl, rfl⟩ := hQ
  show Go x _ Z _ _ _ T 6 #[.val (.ref a), .unset, .unset] [(.ref a)]
  refine w.pop d11_6 rfl ?_
  refine w.aloadN d11_7 rfl rfl ?_
  refine w.callV (argsL := []) (rest := []) 0 d11_8 (tw hw 56 rfl) (tw hw 57 rfl) (tw hw 59 rfl) (tw hw 58 rfl) (tw hw 15 rfl) (tw hw 60 rfl) (by decide) F2.1 (rmEm_2 l Z a0 hw a t c0 c1 h1 w.old F2) (lenOf pd_11 rfl) rfl rfl (Nat.le_refl _) ⟨by decide, by decide, by decide, by decide⟩ all0 ?_
  intro T h3 r w _ hQ
  obtain ⟨rfl, rfl⟩ := hQ
  show Go x _ Z _ _ _ T 11 #[.val (.ref a), .unset, .unset] [(.int (0 : Int32))]
  refine w.ifEq d11_11 d11_11t (fun _ => ?_) (fun q => absurd rfl q)
  refine w.aloadN d11_24 rfl rfl ?_
  refine w.iconst (0 : Int32) d11_25 rfl ?_
  obtain ⟨z0, u0, y0, i0⟩ := own_Lp hL
  obtain ⟨z1, u1, y1⟩ := own_Np hN
  refine w.callV (argsL := [(.int (0 : Int32))]) (rest := []) 0 d11_26 (tw hw 61 rfl) (tw hw 62 rfl) (tw hw 64 rfl) (tw hw 63 rfl) (tw hw 15 rfl) (tw hw 65 rfl) (by decide) F2.1 (rmCA_2_0 l Z a0 hw hr a t c0 c1 h1 w.old F2 z0 u0 z1 u1 y0 y1) (lenOf pd_16 rfl) rfl rfl (Nat.le_refl _) ⟨by decide, by decide, by decide, by decide⟩ all0 ?_
  intro T h4 r w _ hQ
  obtain ⟨rfl, rfl⟩ := hQ
  show Go x _ Z _ _ _ T 29 #[.val (.ref a), .unset, .unset] [(.int c0)]
  refine w.callS (argsL := [(.int c0)]) (rest := []) 0 d11_29 (tw hw 82 rfl) (tw hw 83 rfl) (tw hw 41 rfl) (tw hw 84 rfl) (by decide) (rmAL l Z a0 hw c0 h1 w.old) (lenOf pd_4 rfl) rfl rfl (Nat.le_refl _) ⟨by decide, by decide, by decide, by decide⟩ all0 ?_
  intro T h5 r w _ hQ
  obtain ⟨rfl, rfl⟩ := hQ
  show Go x _ Z _ _ _ T 32 #[.val (.ref a), .unset, .unset] [(.int (if (¬ c0 < 65 ∧ ¬ 90 < c0) ∨ (¬ c0 < 97 ∧ ¬ 122 < c0) then 1 else 0))]
  refine w.ifNe d11_32 d11_32t (fun _ => ?_) (fun q => absurd q (fun e => absurd (own_if0 e) (fun z => z i0)))
  refine w.iconst (1 : Int32) d11_52 rfl ?_
  refine w.istoreN #[.val (.ref a), .val (.int (1 : Int32)), .unset] d11_53 rfl ?_
  refine w.iloadN d11_54 rfl ?_
  refine w.aloadN d11_55 rfl rfl ?_
  refine w.callV (argsL := []) (rest := [(.int (1 : Int32))]) 1 d11_56 (tw hw 85 rfl) (tw hw 86 rfl) (tw hw 88 rfl) (tw hw 87 rfl) (tw hw 15 rfl) (tw hw 89 rfl) (by decide) F2.1 (rmLn_2 l Z a0 hw hr a t c0 c1 h1 w.old F2) (lenOf pd_17 rfl) rfl rfl (Nat.le_refl _) ⟨by decide, by decide, by decide, by decide⟩ all0 ?_
  intro T h6 r w _ hQ
  obtain ⟨rfl, rfl⟩ := hQ
  show Go x _ Z _ _ _ T 59 #[.val (.ref a), .val (.int (1 : Int32)), .unset] [(.int (2 : Int32)), (.int (1 : Int32))]
  refine w.icmpGe d11_59 d11_59t (fun q => absurd (by decide) q) (fun _ => ?_)
  refine w.aloadN d11_62 rfl rfl ?_
  refine w.iloadN d11_63 rfl ?_
  refine w.callV (argsL := [(.int (1 : Int32))]) (rest := []) 0 d11_64 (tw hw 61 rfl) (tw hw 62 rfl) (tw hw 64 rfl) (tw hw 63 rfl) (tw hw 15 rfl) (tw hw 65 rfl) (by decide) F2.1 (rmCA_2_1 l Z a0 hw hr a t c0 c1 h1 w.old F2 z0 u0 z1 u1 y0 y1) (lenOf pd_16 rfl) rfl rfl (Nat.le_refl _) ⟨by decide, by decide, by decide, by decide⟩ all0 ?_
  intro T h7 r w _ hQ
  obtain ⟨rfl, rfl⟩ := hQ
  show Go x _ Z _ _ _ T 67 #[.val (.ref a), .val (.int (1 : Int32)), .unset] [(.int c1)]
  refine w.istoreN #[.val (.ref a), .val (.int (1 : Int32)), .val (.int c1)] d11_67 rfl ?_
  refine w.iloadN d11_68 rfl ?_
  rcases hN with rfl | rfl | rfl | rfl | rfl | rfl | rfl | rfl
  · show Go x _ Z _ _ _ T 69 #[.val (.ref a), .val (.int (1 : Int32)), .val (.int (65 : Int32))] [(.int (65 : Int32))]
    refine w.callS (argsL := [(.int (65 : Int32))]) (rest := []) 0 d11_69 (tw hw 82 rfl) (tw hw 83 rfl) (tw hw 41 rfl) (tw hw 84 rfl) (by decide) (rmAL l Z a0 hw (65 : Int32) h1 w.old) (lenOf pd_4 rfl) rfl rfl (Nat.le_refl _) ⟨by decide, by decide, by decide, by decide⟩ all0 ?_
    intro T h8 r w _ hQ
    obtain ⟨rfl, rfl⟩ := hQ
    show Go x _ Z _ _ _ T 72 #[.val (.ref a), .val (.int (1 : Int32)), .val (.int (65 : Int32))] [(.int (1 : Int32))]
    refine w.ifNe d11_72 d11_72t (fun _ => ?_) (fun q => absurd q (by decide))
    refine w.iinc (1 : Int32) #[.val (.ref a), .val (.int (2 : Int32)), .val (.int (65 : Int32))] d11_126 rfl rfl rfl ?_
    refine w.goto d11_129 d11_129t ?_
    refine w.iloadN d11_54 rfl ?_
    refine w.aloadN d11_55 rfl rfl ?_
    refine w.callV (argsL := []) (rest := [(.int (2 : Int32))]) 1 d11_56 (tw hw 85 rfl) (tw hw 86 rfl) (tw hw 88 rfl) (tw hw 87 rfl) (tw hw 15 rfl) (tw hw 89 rfl) (by decide) F2.1 (rmLn_2 l Z a0 hw hr a t c0 _ h1 w.old F2) (lenOf pd_17 rfl) rfl rfl (Nat.le_refl _) ⟨by decide, by decide, by decide, by decide⟩ all0 ?_
    intro T h9 r w _ hQ
    obtain ⟨rfl, rfl⟩ := hQ
    show Go x _ Z _ _ _ T 59 #[.val (.ref a), .val (.int (2 : Int32)), .val (.int (65 : Int32))] [(.int (2 : Int32)), (.int (2 : Int32))]
    refine w.icmpGe d11_59 d11_59t (fun _ => ?_) (fun q => absurd q (by decide))
    exact w.retV d11_132 rfl ⟨rfl, E1⟩
  · show Go x _ Z _ _ _ T 69 #[.val (.ref a), .val (.int (1 : Int32)), .val (.int (97 : Int32))] [(.int (97 : Int32))]
    refine w.callS (argsL := [(.int (97 : Int32))]) (rest := []) 0 d11_69 (tw hw 82 rfl) (tw hw 83 rfl) (tw hw 41 rfl) (tw hw 84 rfl) (by decide) (rmAL l Z a0 hw (97 : Int32) h1 w.old) (lenOf pd_4 rfl) rfl rfl (Nat.le_refl _) ⟨by decide, by decide, by decide, by decide⟩ all0 ?_
    intro T h10 r w _ hQ
    obtain ⟨rfl, rfl⟩ := hQ
    show Go x _ Z _ _ _ T 72 #[.val (.ref a), .val (.int (1 : Int32)), .val (.int (97 : Int32))] [(.int (1 : Int32))]
    refine w.ifNe d11_72 d11_72t (fun _ => ?_) (fun q => absurd q (by decide))
    refine w.iinc (1 : Int32) #[.val (.ref a), .val (.int (2 : Int32)), .val (.int (97 : Int32))] d11_126 rfl rfl rfl ?_
    refine w.goto d11_129 d11_129t ?_
    refine w.iloadN d11_54 rfl ?_
    refine w.aloadN d11_55 rfl rfl ?_
    refine w.callV (argsL := []) (rest := [(.int (2 : Int32))]) 1 d11_56 (tw hw 85 rfl) (tw hw 86 rfl) (tw hw 88 rfl) (tw hw 87 rfl) (tw hw 15 rfl) (tw hw 89 rfl) (by decide) F2.1 (rmLn_2 l Z a0 hw hr a t c0 _ h1 w.old F2) (lenOf pd_17 rfl) rfl rfl (Nat.le_refl _) ⟨by decide, by decide, by decide, by decide⟩ all0 ?_
    intro T h11 r w _ hQ
    obtain ⟨rfl, rfl⟩ := hQ
    show Go x _ Z _ _ _ T 59 #[.val (.ref a), .val (.int (2 : Int32)), .val (.int (97 : Int32))] [(.int (2 : Int32)), (.int (2 : Int32))]
    refine w.icmpGe d11_59 d11_59t (fun _ => ?_) (fun q => absurd q (by decide))
    exact w.retV d11_132 rfl ⟨rfl, E1⟩
  · show Go x _ Z _ _ _ T 69 #[.val (.ref a), .val (.int (1 : Int32)), .val (.int (48 : Int32))] [(.int (48 : Int32))]
    refine w.callS (argsL := [(.int (48 : Int32))]) (rest := []) 0 d11_69 (tw hw 82 rfl) (tw hw 83 rfl) (tw hw 41 rfl) (tw hw 84 rfl) (by decide) (rmAL l Z a0 hw (48 : Int32) h1 w.old) (lenOf pd_4 rfl) rfl rfl (Nat.le_refl _) ⟨by decide, by decide, by decide, by decide⟩ all0 ?_
    intro T h12 r w _ hQ
    obtain ⟨rfl, rfl⟩ := hQ
    show Go x _ Z _ _ _ T 72 #[.val (.ref a), .val (.int (1 : Int32)), .val (.int (48 : Int32))] [(.int (0 : Int32))]
    refine w.ifNe d11_72 d11_72t (fun q => absurd (by decide) q) (fun _ => ?_)
    refine w.iloadN d11_75 rfl ?_
    refine w.bipush (48 : Int32) d11_76 rfl ?_
    refine w.icmpLt d11_78 d11_78t (fun q => absurd q (by decide)) (fun _ => ?_)
    refine w.iloadN d11_81 rfl ?_
    refine w.bipush (57 : Int32) d11_82 rfl ?_
    refine w.icmpLe d11_84 d11_84t (fun _ => ?_) (fun q => absurd q (by decide))
    refine w.iinc (1 : Int32) #[.val (.ref a), .val (.int (2 : Int32)), .val (.int (48 : Int32))] d11_126 rfl rfl rfl ?_
    refine w.goto d11_129 d11_129t ?_
    refine w.iloadN d11_54 rfl ?_
    refine w.aloadN d11_55 rfl rfl ?_
    refine w.callV (argsL := []) (rest := [(.int (2 : Int32))]) 1 d11_56 (tw hw 85 rfl) (tw hw 86 rfl) (tw hw 88 rfl) (tw hw 87 rfl) (tw hw 15 rfl) (tw hw 89 rfl) (by decide) F2.1 (rmLn_2 l Z a0 hw hr a t c0 _ h1 w.old F2) (lenOf pd_17 rfl) rfl rfl (Nat.le_refl _) ⟨by decide, by decide, by decide, by decide⟩ all0 ?_
    intro T h13 r w _ hQ
    obtain ⟨rfl, rfl⟩ := hQ
    show Go x _ Z _ _ _ T 59 #[.val (.ref a), .val (.int (2 : Int32)), .val (.int (48 : Int32))] [(.int (2 : Int32)), (.int (2 : Int32))]
    refine w.icmpGe d11_59 d11_59t (fun _ => ?_) (fun q => absurd q (by decide))
    exact w.retV d11_132 rfl ⟨rfl, E1⟩
  · show Go x _ Z _ _ _ T 69 #[.val (.ref a), .val (.int (1 : Int32)), .val (.int (57 : Int32))] [(.int (57 : Int32))]
    refine w.callS (argsL := [(.int (57 : Int32))]) (rest := []) 0 d11_69 (tw hw 82 rfl) (tw hw 83 rfl) (tw hw 41 rfl) (tw hw 84 rfl) (by decide) (rmAL l Z a0 hw (57 : Int32) h1 w.old) (lenOf pd_4 rfl) rfl rfl (Nat.le_refl _) ⟨by decide, by decide, by decide, by decide⟩ all0 ?_
    intro T h14 r w _ hQ
    obtain ⟨rfl, rfl⟩ := hQ
    show Go x _ Z _ _ _ T 72 #[.val (.ref a), .val (.int (1 : Int32)), .val (.int (57 : Int32))] [(.int (0 : Int32))]
    refine w.ifNe d11_72 d11_72t (fun q => absurd (by decide) q) (fun _ => ?_)
    refine w.iloadN d11_75 rfl ?_
    refine w.bipush (48 : Int32) d11_76 rfl ?_
    refine w.icmpLt d11_78 d11_78t (fun q => absurd q (by decide)) (fun _ => ?_)
    refine w.iloadN d11_81 rfl ?_
    refine w.bipush (57 : Int32) d11_82 rfl ?_
    refine w.icmpLe d11_84 d11_84t (fun _ => ?_) (fun q => absurd q (by decide))
    refine w.iinc (1 : Int32) #[.val (.ref a), .val (.int (2 : Int32)), .val (.int (57 : Int32))] d11_126 rfl rfl rfl ?_
    refine w.goto d11_129 d11_129t ?_
    refine w.iloadN d11_54 rfl ?_
    refine w.aloadN d11_55 rfl rfl ?_
    refine w.callV (argsL := []) (rest := [(.int (2 : Int32))]) 1 d11_56 (tw hw 85 rfl) (tw hw 86 rfl) (tw hw 88 rfl) (tw hw 87 rfl) (tw hw 15 rfl) (tw hw 89 rfl) (by decide) F2.1 (rmLn_2 l Z a0 hw hr a t c0 _ h1 w.old F2) (lenOf pd_17 rfl) rfl rfl (Nat.le_refl _) ⟨by decide, by decide, by decide, by decide⟩ all0 ?_
    intro T h15 r w _ hQ
    obtain ⟨rfl, rfl⟩ := hQ
    show Go x _ Z _ _ _ T 59 #[.val (.ref a), .val (.int (2 : Int32)), .val (.int (57 : Int32))] [(.int (2 : Int32)), (.int (2 : Int32))]
    refine w.icmpGe d11_59 d11_59t (fun _ => ?_) (fun q => absurd q (by decide))
    exact w.retV d11_132 rfl ⟨rfl, E1⟩
  · show Go x _ Z _ _ _ T 69 #[.val (.ref a), .val (.int (1 : Int32)), .val (.int (95 : Int32))] [(.int (95 : Int32))]
    refine w.callS (argsL := [(.int (95 : Int32))]) (rest := []) 0 d11_69 (tw hw 82 rfl) (tw hw 83 rfl) (tw hw 41 rfl) (tw hw 84 rfl) (by decide) (rmAL l Z a0 hw (95 : Int32) h1 w.old) (lenOf pd_4 rfl) rfl rfl (Nat.le_refl _) ⟨by decide, by decide, by decide, by decide⟩ all0 ?_
    intro T h16 r w _ hQ
    obtain ⟨rfl, rfl⟩ := hQ
    show Go x _ Z _ _ _ T 72 #[.val (.ref a), .val (.int (1 : Int32)), .val (.int (95 : Int32))] [(.int (0 : Int32))]
    refine w.ifNe d11_72 d11_72t (fun q => absurd (by decide) q) (fun _ => ?_)
    refine w.iloadN d11_75 rfl ?_
    refine w.bipush (48 : Int32) d11_76 rfl ?_
    refine w.icmpLt d11_78 d11_78t (fun q => absurd q (by decide)) (fun _ => ?_)
    refine w.iloadN d11_81 rfl ?_
    refine w.bipush (57 : Int32) d11_82 rfl ?_
    refine w.icmpLe d11_84 d11_84t (fun q => absurd (by decide) q) (fun _ => ?_)
    refine w.iloadN d11_87 rfl ?_
    refine w.bipush (95 : Int32) d11_88 rfl ?_
    refine w.icmpEq d11_90 d11_90t (fun _ => ?_) (fun q => absurd (by decide) q)
    refine w.iinc (1 : Int32) #[.val (.ref a), .val (.int (2 : Int32)), .val (.int (95 : Int32))] d11_126 rfl rfl rfl ?_
    refine w.goto d11_129 d11_129t ?_
    refine w.iloadN d11_54 rfl ?_
    refine w.aloadN d11_55 rfl rfl ?_
    refine w.callV (argsL := []) (rest := [(.int (2 : Int32))]) 1 d11_56 (tw hw 85 rfl) (tw hw 86 rfl) (tw hw 88 rfl) (tw hw 87 rfl) (tw hw 15 rfl) (tw hw 89 rfl) (by decide) F2.1 (rmLn_2 l Z a0 hw hr a t c0 _ h1 w.old F2) (lenOf pd_17 rfl) rfl rfl (Nat.le_refl _) ⟨by decide, by decide, by decide, by decide⟩ all0 ?_
    intro T h17 r w _ hQ
    obtain ⟨rfl, rfl⟩ := hQ
    show Go x _ Z _ _ _ T 59 #[.val (.ref a), .val (.int (2 : Int32)), .val (.int (95 : Int32))] [(.int (2 : Int32)), (.int (2 : Int32))]
    refine w.icmpGe d11_59 d11_59t (fun _ => ?_) (fun q => absurd q (by decide))
    exact w.retV d11_132 rfl ⟨rfl, E1⟩
  · show Go x _ Z _ _ _ T 69 #[.val (.ref a), .val (.int (1 : Int32)), .val (.int (45 : Int32))] [(.int (45 : Int32))]
    refine w.callS (argsL := [(.int (45 : Int32))]) (rest := []) 0 d11_69 (tw hw 82 rfl) (tw hw 83 rfl) (tw hw 41 rfl) (tw hw 84 rfl) (by decide) (rmAL l Z a0 hw (45 : Int32) h1 w.old) (lenOf pd_4 rfl) rfl rfl (Nat.le_refl _) ⟨by decide, by decide, by decide, by decide⟩ all0 ?_
    intro T h18 r w _ hQ
    obtain ⟨rfl, rfl⟩ := hQ
    show Go x _ Z _ _ _ T 72 #[.val (.ref a), .val (.int (1 : Int32)), .val (.int (45 : Int32))] [(.int (0 : Int32))]
    refine w.ifNe d11_72 d11_72t (fun q => absurd (by decide) q) (fun _ => ?_)
    refine w.iloadN d11_75 rfl ?_
    refine w.bipush (48 : Int32) d11_76 rfl ?_
    refine w.icmpLt d11_78 d11_78t (fun _ => ?_) (fun q => absurd (by decide) q)
    refine w.iloadN d11_87 rfl ?_
    refine w.bipush (95 : Int32) d11_88 rfl ?_
    refine w.icmpEq d11_90 d11_90t (fun q => absurd q (by decide)) (fun _ => ?_)
    refine w.iloadN d11_93 rfl ?_
    refine w.bipush (45 : Int32) d11_94 rfl ?_
    refine w.icmpEq d11_96 d11_96t (fun _ => ?_) (fun q => absurd (by decide) q)
    refine w.iinc (1 : Int32) #[.val (.ref a), .val (.int (2 : Int32)), .val (.int (45 : Int32))] d11_126 rfl rfl rfl ?_
    refine w.goto d11_129 d11_129t ?_
    refine w.iloadN d11_54 rfl ?_
    refine w.aloadN d11_55 rfl rfl ?_
    refine w.callV (argsL := []) (rest := [(.int (2 : Int32))]) 1 d11_56 (tw hw 85 rfl) (tw hw 86 rfl) (tw hw 88 rfl) (tw hw 87 rfl) (tw hw 15 rfl) (tw hw 89 rfl) (by decide) F2.1 (rmLn_2 l Z a0 hw hr a t c0 _ h1 w.old F2) (lenOf pd_17 rfl) rfl rfl (Nat.le_refl _) ⟨by decide, by decide, by decide, by decide⟩ all0 ?_
    intro T h19 r w _ hQ
    obtain ⟨rfl, rfl⟩ := hQ
    show Go x _ Z _ _ _ T 59 #[.val (.ref a), .val (.int (2 : Int32)), .val (.int (45 : Int32))] [(.int (2 : Int32)), (.int (2 : Int32))]
    refine w.icmpGe d11_59 d11_59t (fun _ => ?_) (fun q => absurd q (by decide))
    exact w.retV d11_132 rfl ⟨rfl, E1⟩
  · show Go x _ Z _ _ _ T 69 #[.val (.ref a), .val (.int (1 : Int32)), .val (.int (46 : Int32))] [(.int (46 : Int32))]
    refine w.callS (argsL := [(.int (46 : Int32))]) (rest := []) 0 d11_69 (tw hw 82 rfl) (tw hw 83 rfl) (tw hw 41 rfl) (tw hw 84 rfl) (by decide) (rmAL l Z a0 hw (46 : Int32) h1 w.old) (lenOf pd_4 rfl) rfl rfl (Nat.le_refl _) ⟨by decide, by decide, by decide, by decide⟩ all0 ?_
    intro T h20 r w _ hQ
    obtain ⟨rfl, rfl⟩ := hQ
    show Go x _ Z _ _ _ T 72 #[.val (.ref a), .val (.int (1 : Int32)), .val (.int (46 : Int32))] [(.int (0 : Int32))]
    refine w.ifNe d11_72 d11_72t (fun q => absurd (by decide) q) (fun _ => ?_)
    refine w.iloadN d11_75 rfl ?_
    refine w.bipush (48 : Int32) d11_76 rfl ?_
    refine w.icmpLt d11_78 d11_78t (fun _ => ?_) (fun q => absurd (by decide) q)
    refine w.iloadN d11_87 rfl ?_
    refine w.bipush (95 : Int32) d11_88 rfl ?_
    refine w.icmpEq d11_90 d11_90t (fun q => absurd q (by decide)) (fun _ => ?_)
    refine w.iloadN d11_93 rfl ?_
    refine w.bipush (45 : Int32) d11_94 rfl ?_
    refine w.icmpEq d11_96 d11_96t (fun q => absurd q (by decide)) (fun _ => ?_)
    refine w.iloadN d11_99 rfl ?_
    refine w.bipush (46 : Int32) d11_100 rfl ?_
    refine w.icmpEq d11_102 d11_102t (fun _ => ?_) (fun q => absurd (by decide) q)
    refine w.iinc (1 : Int32) #[.val (.ref a), .val (.int (2 : Int32)), .val (.int (46 : Int32))] d11_126 rfl rfl rfl ?_
    refine w.goto d11_129 d11_129t ?_
    refine w.iloadN d11_54 rfl ?_
    refine w.aloadN d11_55 rfl rfl ?_
    refine w.callV (argsL := []) (rest := [(.int (2 : Int32))]) 1 d11_56 (tw hw 85 rfl) (tw hw 86 rfl) (tw hw 88 rfl) (tw hw 87 rfl) (tw hw 15 rfl) (tw hw 89 rfl) (by decide) F2.1 (rmLn_2 l Z a0 hw hr a t c0 _ h1 w.old F2) (lenOf pd_17 rfl) rfl rfl (Nat.le_refl _) ⟨by decide, by decide, by decide, by decide⟩ all0 ?_
    intro T h21 r w _ hQ
    obtain ⟨rfl, rfl⟩ := hQ
    show Go x _ Z _ _ _ T 59 #[.val (.ref a), .val (.int (2 : Int32)), .val (.int (46 : Int32))] [(.int (2 : Int32)), (.int (2 : Int32))]
    refine w.icmpGe d11_59 d11_59t (fun _ => ?_) (fun q => absurd q (by decide))
    exact w.retV d11_132 rfl ⟨rfl, E1⟩
  · show Go x _ Z _ _ _ T 69 #[.val (.ref a), .val (.int (1 : Int32)), .val (.int (122 : Int32))] [(.int (122 : Int32))]
    refine w.callS (argsL := [(.int (122 : Int32))]) (rest := []) 0 d11_69 (tw hw 82 rfl) (tw hw 83 rfl) (tw hw 41 rfl) (tw hw 84 rfl) (by decide) (rmAL l Z a0 hw (122 : Int32) h1 w.old) (lenOf pd_4 rfl) rfl rfl (Nat.le_refl _) ⟨by decide, by decide, by decide, by decide⟩ all0 ?_
    intro T h22 r w _ hQ
    obtain ⟨rfl, rfl⟩ := hQ
    show Go x _ Z _ _ _ T 72 #[.val (.ref a), .val (.int (1 : Int32)), .val (.int (122 : Int32))] [(.int (1 : Int32))]
    refine w.ifNe d11_72 d11_72t (fun _ => ?_) (fun q => absurd q (by decide))
    refine w.iinc (1 : Int32) #[.val (.ref a), .val (.int (2 : Int32)), .val (.int (122 : Int32))] d11_126 rfl rfl rfl ?_
    refine w.goto d11_129 d11_129t ?_
    refine w.iloadN d11_54 rfl ?_
    refine w.aloadN d11_55 rfl rfl ?_
    refine w.callV (argsL := []) (rest := [(.int (2 : Int32))]) 1 d11_56 (tw hw 85 rfl) (tw hw 86 rfl) (tw hw 88 rfl) (tw hw 87 rfl) (tw hw 15 rfl) (tw hw 89 rfl) (by decide) F2.1 (rmLn_2 l Z a0 hw hr a t c0 _ h1 w.old F2) (lenOf pd_17 rfl) rfl rfl (Nat.le_refl _) ⟨by decide, by decide, by decide, by decide⟩ all0 ?_
    intro T h23 r w _ hQ
    obtain ⟨rfl, rfl⟩ := hQ
    show Go x _ Z _ _ _ T 59 #[.val (.ref a), .val (.int (2 : Int32)), .val (.int (122 : Int32))] [(.int (2 : Int32)), (.int (2 : Int32))]
    refine w.icmpGe d11_59 d11_59t (fun _ => ?_) (fun q => absurd q (by decide))
    exact w.retV d11_132 rfl ⟨rfl, E1⟩

set_option maxRecDepth 65536 in
set_option maxHeartbeats 40000000 in
theorem rmCI_1 (l : Launch) (Z : State) (a0 : Array Value) (hw : ∀ d ∈ tables_1, d.before a0 Z = true) (hr : rest_1_c.value a0 Z none Z [] = some true) (a t : Addr) (c0 : Int32) (h0 : Heap) (hE : Ext Z.heap h0) (Sa : StrL Z h0 a t 0 [nar .byte c0]) (i0 : own_I c0) :
    Ct true l Z [] (⟨"com/example/lucioles/lucioles/model/Rdn", "checkId", "(Ljava/lang/String;)V"⟩ : MethodName) prog_9_method_9_code 3 none [] ({ frames := 4, cells := 2, slots := 44, locals := 64 } : Room) [] #[(.ref a)] h0 (fun r u => r = none ∧ Ext h0 u) := by
  refine Ct.intro pn_com_example_lucioles_lucioles_model_Rdn hE (fun m => efCI m a) nosf ⟨a0, own_EW hw⟩ ?_
  intro x T w
  refine w.aloadN d22_0 rfl rfl ?_
  refine w.ldcS 8 d22_1 (tw hw 98 rfl) (own_sA hw) (own_EW hw) (by decide) (by decide) ⟨by decide, by decide⟩ ?_
  intro s T h1 w E1
  have F2 := Sa.ext E1
  refine w.callS (argsL := [(.ref a), (.ref s)]) (rest := []) 0 d22_3 (tw hw 52 rfl) (tw hw 53 rfl) (tw hw 54 rfl) (tw hw 55 rfl) (by decide) (rmNN l Z a0 hw a s h1 w.old) (lenOf pd_15 rfl) rfl rfl (Nat.le_refl _) ⟨by decide, by decide, by decide, by decide⟩ all0 ?_
  intro T h2 r w _ hQ
  obtain ⟨rfl, rfl⟩ := hQ
  show Go x _ Z _ _ _ T 6 #[.val (.ref a), .unset, .unset] [(.ref a)]
  refine w.pop d22_6 rfl ?_
  refine w.aloadN d22_7 rfl rfl ?_
  refine w.callV (argsL := []) (rest := []) 0 d22_8 (tw hw 56 rfl) (tw hw 57 rfl) (tw hw 59 rfl) (tw hw 58 rfl) (tw hw 15 rfl) (tw hw 60 rfl) (by decide) F2.1 (rmEm_1 l Z a0 hw a t c0 h1 w.old F2) (lenOf pd_11 rfl) rfl rfl (Nat.le_refl _) ⟨by decide, by decide, by decide, by decide⟩ all0 ?_
  intro T h3 r w _ hQ
  obtain ⟨rfl, rfl⟩ := hQ
  show Go x _ Z _ _ _ T 11 #[.val (.ref a), .unset, .unset] [(.int (0 : Int32))]
  refine w.ifEq d22_11 d22_11t (fun _ => ?_) (fun q => absurd rfl q)
  refine w.iconst (0 : Int32) d22_24 rfl ?_
  refine w.istoreN #[.val (.ref a), .val (.int (0 : Int32)), .unset] d22_25 rfl ?_
  refine w.iloadN d22_26 rfl ?_
  refine w.aloadN d22_27 rfl rfl ?_
  obtain ⟨z0, u0, w0, x0⟩ := own_Ip i0
  refine w.callV (argsL := []) (rest := [(.int (0 : Int32))]) 1 d22_28 (tw hw 85 rfl) (tw hw 86 rfl) (tw hw 88 rfl) (tw hw 87 rfl) (tw hw 15 rfl) (tw hw 89 rfl) (by decide) F2.1 (rmLn_1 l Z a0 hw hr a t c0 h1 w.old F2) (lenOf pd_17 rfl) rfl rfl (Nat.le_refl _) ⟨by decide, by decide, by decide, by decide⟩ all0 ?_
  intro T h4 r w _ hQ
  obtain ⟨rfl, rfl⟩ := hQ
  show Go x _ Z _ _ _ T 31 #[.val (.ref a), .val (.int (0 : Int32)), .unset] [(.int (1 : Int32)), (.int (0 : Int32))]
  refine w.icmpGe d22_31 d22_31t (fun q => absurd (by decide) q) (fun _ => ?_)
  refine w.aloadN d22_34 rfl rfl ?_
  refine w.iloadN d22_35 rfl ?_
  refine w.callV (argsL := [(.int (0 : Int32))]) (rest := []) 0 d22_36 (tw hw 99 rfl) (tw hw 100 rfl) (tw hw 102 rfl) (tw hw 101 rfl) (tw hw 15 rfl) (tw hw 103 rfl) (by decide) F2.1 (rmCP_1_0 l Z a0 hw hr a t c0 h1 w.old F2 z0 u0) (lenOf pd_18 rfl) rfl rfl (Nat.le_refl _) ⟨by decide, by decide, by decide, by decide⟩ all0 ?_
  intro T h5 r w _ hQ
  obtain ⟨rfl, rfl⟩ := hQ
  show Go x _ Z _ _ _ T 39 #[.val (.ref a), .val (.int (0 : Int32)), .unset] [(.int c0)]
  refine w.istoreN #[.val (.ref a), .val (.int (0 : Int32)), .val (.int c0)] d22_39 rfl ?_
  refine w.iloadN d22_40 rfl ?_
  refine w.bipush (44 : Int32) d22_41 rfl ?_
  refine w.icmpEq d22_43 d22_43t (fun q => absurd q i0.2.2.2.1) (fun _ => ?_)
  refine w.iloadN d22_46 rfl ?_
  refine w.bipush (47 : Int32) d22_47 rfl ?_
  refine w.icmpEq d22_49 d22_49t (fun q => absurd q i0.2.2.2.2.1) (fun _ => ?_)
  refine w.iloadN d22_52 rfl ?_
  refine w.bipush (61 : Int32) d22_53 rfl ?_
  refine w.icmpNe d22_55 d22_55t (fun _ => ?_) (fun q => absurd q i0.2.2.2.2.2.1)
  refine w.iloadN d22_77 rfl ?_
  refine w.bipush (92 : Int32) d22_78 rfl ?_
  refine w.icmpNe d22_80 d22_80t (fun _ => ?_) (fun q => absurd q i0.2.2.2.2.2.2)
  refine w.iloadN d22_100 rfl ?_
  refine w.callS (argsL := [(.int c0)]) (rest := []) 0 d22_101 (tw hw 105 rfl) (tw hw 106 rfl) (tw hw 41 rfl) (tw hw 107 rfl) (by decide) (rmAC l Z a0 hw c0 i0 h1 w.old) (lenOf pd_19 rfl) rfl rfl (Nat.le_refl _) ⟨by decide, by decide, by decide, by decide⟩ all0 ?_
  intro T h6 r w _ hQ
  obtain ⟨rfl, rfl⟩ := hQ
  show Go x _ Z _ _ _ T 104 #[.val (.ref a), .val (.int (0 : Int32)), .val (.int c0)] [(.int (0 : Int32))]
  refine w.ifEq d22_104 d22_104t (fun _ => ?_) (fun q => absurd rfl q)
  refine w.iloadN d22_129 rfl ?_
  refine w.ldcI d22_130 (tw hw 108 rfl) ?_
  refine w.icmpLt d22_132 d22_132t (fun _ => ?_) (fun q => absurd w0 q)
  refine w.iloadN d22_172 rfl ?_
  refine w.iloadN d22_173 rfl ?_
  refine w.callS (argsL := [(.int c0)]) (rest := [(.int (0 : Int32))]) 1 d22_174 (tw hw 109 rfl) (tw hw 110 rfl) (tw hw 111 rfl) (tw hw 112 rfl) (by decide) (rmCC l Z a0 hw c0 x0 h1 w.old) (lenOf pd_18 rfl) rfl rfl (Nat.le_refl _) ⟨by decide, by decide, by decide, by decide⟩ all0 ?_
  intro T h7 r w _ hQ
  obtain ⟨rfl, rfl⟩ := hQ
  show Go x _ Z _ _ _ T 177 #[.val (.ref a), .val (.int (0 : Int32)), .val (.int c0)] [(.int (1 : Int32)), (.int (0 : Int32))]
  refine w.iadd d22_177 ?_
  refine w.istoreN #[.val (.ref a), .val (.int ((0 : Int32) + (1 : Int32))), .val (.int c0)] d22_178 rfl ?_
  refine w.goto d22_179 d22_179t ?_
  show Go x _ Z _ _ _ T 26 #[.val (.ref a), .val (.int (1 : Int32)), .val (.int c0)] []
  refine w.iloadN d22_26 rfl ?_
  refine w.aloadN d22_27 rfl rfl ?_
  refine w.callV (argsL := []) (rest := [(.int (1 : Int32))]) 1 d22_28 (tw hw 85 rfl) (tw hw 86 rfl) (tw hw 88 rfl) (tw hw 87 rfl) (tw hw 15 rfl) (tw hw 89 rfl) (by decide) F2.1 (rmLn_1 l Z a0 hw hr a t c0 h1 w.old F2) (lenOf pd_17 rfl) rfl rfl (Nat.le_refl _) ⟨by decide, by decide, by decide, by decide⟩ all0 ?_
  intro T h8 r w _ hQ
  obtain ⟨rfl, rfl⟩ := hQ
  show Go x _ Z _ _ _ T 31 #[.val (.ref a), .val (.int (1 : Int32)), .val (.int c0)] [(.int (1 : Int32)), (.int (1 : Int32))]
  refine w.icmpGe d22_31 d22_31t (fun _ => ?_) (fun q => absurd q (by decide))
  exact w.retV d22_182 rfl ⟨rfl, E1⟩

set_option maxRecDepth 65536 in
set_option maxHeartbeats 40000000 in
theorem rmCI_2 (l : Launch) (Z : State) (a0 : Array Value) (hw : ∀ d ∈ tables_1, d.before a0 Z = true) (hr : rest_1_c.value a0 Z none Z [] = some true) (a t : Addr) (c0 c1 : Int32) (h0 : Heap) (hE : Ext Z.heap h0) (Sa : StrL Z h0 a t 0 [nar .byte c0, nar .byte c1]) (i0 : own_I c0) (i1 : own_I c1) :
    Ct true l Z [] (⟨"com/example/lucioles/lucioles/model/Rdn", "checkId", "(Ljava/lang/String;)V"⟩ : MethodName) prog_9_method_9_code 3 none [] ({ frames := 4, cells := 2, slots := 44, locals := 64 } : Room) [] #[(.ref a)] h0 (fun r u => r = none ∧ Ext h0 u) := by
  refine Ct.intro pn_com_example_lucioles_lucioles_model_Rdn hE (fun m => efCI m a) nosf ⟨a0, own_EW hw⟩ ?_
  intro x T w
  refine w.aloadN d22_0 rfl rfl ?_
  refine w.ldcS 8 d22_1 (tw hw 98 rfl) (own_sA hw) (own_EW hw) (by decide) (by decide) ⟨by decide, by decide⟩ ?_
  intro s T h1 w E1
  have F2 := Sa.ext E1
  refine w.callS (argsL := [(.ref a), (.ref s)]) (rest := []) 0 d22_3 (tw hw 52 rfl) (tw hw 53 rfl) (tw hw 54 rfl) (tw hw 55 rfl) (by decide) (rmNN l Z a0 hw a s h1 w.old) (lenOf pd_15 rfl) rfl rfl (Nat.le_refl _) ⟨by decide, by decide, by decide, by decide⟩ all0 ?_
  intro T h2 r w _ hQ
  obtain ⟨rfl, rfl⟩ := hQ
  show Go x _ Z _ _ _ T 6 #[.val (.ref a), .unset, .unset] [(.ref a)]
  refine w.pop d22_6 rfl ?_
  refine w.aloadN d22_7 rfl rfl ?_
  refine w.callV (argsL := []) (rest := []) 0 d22_8 (tw hw 56 rfl) (tw hw 57 rfl) (tw hw 59 rfl) (tw hw 58 rfl) (tw hw 15 rfl) (tw hw 60 rfl) (by decide) F2.1 (rmEm_2 l Z a0 hw a t c0 c1 h1 w.old F2) (lenOf pd_11 rfl) rfl rfl (Nat.le_refl _) ⟨by decide, by decide, by decide, by decide⟩ all0 ?_
  intro T h3 r w _ hQ
  obtain ⟨rfl, rfl⟩ := hQ
  show Go x _ Z _ _ _ T 11 #[.val (.ref a), .unset, .unset] [(.int (0 : Int32))]
  refine w.ifEq d22_11 d22_11t (fun _ => ?_) (fun q => absurd rfl q)
  refine w.iconst (0 : Int32) d22_24 rfl ?_
  refine w.istoreN #[.val (.ref a), .val (.int (0 : Int32)), .unset] d22_25 rfl ?_
  refine w.iloadN d22_26 rfl ?_
  refine w.aloadN d22_27 rfl rfl ?_
  obtain ⟨z0, u0, w0, x0⟩ := own_Ip i0
  obtain ⟨z1, u1, w1, x1⟩ := own_Ip i1
  refine w.callV (argsL := []) (rest := [(.int (0 : Int32))]) 1 d22_28 (tw hw 85 rfl) (tw hw 86 rfl) (tw hw 88 rfl) (tw hw 87 rfl) (tw hw 15 rfl) (tw hw 89 rfl) (by decide) F2.1 (rmLn_2 l Z a0 hw hr a t c0 c1 h1 w.old F2) (lenOf pd_17 rfl) rfl rfl (Nat.le_refl _) ⟨by decide, by decide, by decide, by decide⟩ all0 ?_
  intro T h4 r w _ hQ
  obtain ⟨rfl, rfl⟩ := hQ
  show Go x _ Z _ _ _ T 31 #[.val (.ref a), .val (.int (0 : Int32)), .unset] [(.int (2 : Int32)), (.int (0 : Int32))]
  refine w.icmpGe d22_31 d22_31t (fun q => absurd (by decide) q) (fun _ => ?_)
  refine w.aloadN d22_34 rfl rfl ?_
  refine w.iloadN d22_35 rfl ?_
  refine w.callV (argsL := [(.int (0 : Int32))]) (rest := []) 0 d22_36 (tw hw 99 rfl) (tw hw 100 rfl) (tw hw 102 rfl) (tw hw 101 rfl) (tw hw 15 rfl) (tw hw 103 rfl) (by decide) F2.1 (rmCP_2_0 l Z a0 hw hr a t c0 c1 h1 w.old F2 z0 u0 z1 u1) (lenOf pd_18 rfl) rfl rfl (Nat.le_refl _) ⟨by decide, by decide, by decide, by decide⟩ all0 ?_
  intro T h5 r w _ hQ
  obtain ⟨rfl, rfl⟩ := hQ
  show Go x _ Z _ _ _ T 39 #[.val (.ref a), .val (.int (0 : Int32)), .unset] [(.int c0)]
  refine w.istoreN #[.val (.ref a), .val (.int (0 : Int32)), .val (.int c0)] d22_39 rfl ?_
  refine w.iloadN d22_40 rfl ?_
  refine w.bipush (44 : Int32) d22_41 rfl ?_
  refine w.icmpEq d22_43 d22_43t (fun q => absurd q i0.2.2.2.1) (fun _ => ?_)
  refine w.iloadN d22_46 rfl ?_
  refine w.bipush (47 : Int32) d22_47 rfl ?_
  refine w.icmpEq d22_49 d22_49t (fun q => absurd q i0.2.2.2.2.1) (fun _ => ?_)
  refine w.iloadN d22_52 rfl ?_
  refine w.bipush (61 : Int32) d22_53 rfl ?_
  refine w.icmpNe d22_55 d22_55t (fun _ => ?_) (fun q => absurd q i0.2.2.2.2.2.1)
  refine w.iloadN d22_77 rfl ?_
  refine w.bipush (92 : Int32) d22_78 rfl ?_
  refine w.icmpNe d22_80 d22_80t (fun _ => ?_) (fun q => absurd q i0.2.2.2.2.2.2)
  refine w.iloadN d22_100 rfl ?_
  refine w.callS (argsL := [(.int c0)]) (rest := []) 0 d22_101 (tw hw 105 rfl) (tw hw 106 rfl) (tw hw 41 rfl) (tw hw 107 rfl) (by decide) (rmAC l Z a0 hw c0 i0 h1 w.old) (lenOf pd_19 rfl) rfl rfl (Nat.le_refl _) ⟨by decide, by decide, by decide, by decide⟩ all0 ?_
  intro T h6 r w _ hQ
  obtain ⟨rfl, rfl⟩ := hQ
  show Go x _ Z _ _ _ T 104 #[.val (.ref a), .val (.int (0 : Int32)), .val (.int c0)] [(.int (0 : Int32))]
  refine w.ifEq d22_104 d22_104t (fun _ => ?_) (fun q => absurd rfl q)
  refine w.iloadN d22_129 rfl ?_
  refine w.ldcI d22_130 (tw hw 108 rfl) ?_
  refine w.icmpLt d22_132 d22_132t (fun _ => ?_) (fun q => absurd w0 q)
  refine w.iloadN d22_172 rfl ?_
  refine w.iloadN d22_173 rfl ?_
  refine w.callS (argsL := [(.int c0)]) (rest := [(.int (0 : Int32))]) 1 d22_174 (tw hw 109 rfl) (tw hw 110 rfl) (tw hw 111 rfl) (tw hw 112 rfl) (by decide) (rmCC l Z a0 hw c0 x0 h1 w.old) (lenOf pd_18 rfl) rfl rfl (Nat.le_refl _) ⟨by decide, by decide, by decide, by decide⟩ all0 ?_
  intro T h7 r w _ hQ
  obtain ⟨rfl, rfl⟩ := hQ
  show Go x _ Z _ _ _ T 177 #[.val (.ref a), .val (.int (0 : Int32)), .val (.int c0)] [(.int (1 : Int32)), (.int (0 : Int32))]
  refine w.iadd d22_177 ?_
  refine w.istoreN #[.val (.ref a), .val (.int ((0 : Int32) + (1 : Int32))), .val (.int c0)] d22_178 rfl ?_
  refine w.goto d22_179 d22_179t ?_
  show Go x _ Z _ _ _ T 26 #[.val (.ref a), .val (.int (1 : Int32)), .val (.int c0)] []
  refine w.iloadN d22_26 rfl ?_
  refine w.aloadN d22_27 rfl rfl ?_
  refine w.callV (argsL := []) (rest := [(.int (1 : Int32))]) 1 d22_28 (tw hw 85 rfl) (tw hw 86 rfl) (tw hw 88 rfl) (tw hw 87 rfl) (tw hw 15 rfl) (tw hw 89 rfl) (by decide) F2.1 (rmLn_2 l Z a0 hw hr a t c0 c1 h1 w.old F2) (lenOf pd_17 rfl) rfl rfl (Nat.le_refl _) ⟨by decide, by decide, by decide, by decide⟩ all0 ?_
  intro T h8 r w _ hQ
  obtain ⟨rfl, rfl⟩ := hQ
  show Go x _ Z _ _ _ T 31 #[.val (.ref a), .val (.int (1 : Int32)), .val (.int c0)] [(.int (2 : Int32)), (.int (1 : Int32))]
  refine w.icmpGe d22_31 d22_31t (fun q => absurd (by decide) q) (fun _ => ?_)
  refine w.aloadN d22_34 rfl rfl ?_
  refine w.iloadN d22_35 rfl ?_
  refine w.callV (argsL := [(.int (1 : Int32))]) (rest := []) 0 d22_36 (tw hw 99 rfl) (tw hw 100 rfl) (tw hw 102 rfl) (tw hw 101 rfl) (tw hw 15 rfl) (tw hw 103 rfl) (by decide) F2.1 (rmCP_2_1 l Z a0 hw hr a t c0 c1 h1 w.old F2 z0 u0 z1 u1) (lenOf pd_18 rfl) rfl rfl (Nat.le_refl _) ⟨by decide, by decide, by decide, by decide⟩ all0 ?_
  intro T h9 r w _ hQ
  obtain ⟨rfl, rfl⟩ := hQ
  show Go x _ Z _ _ _ T 39 #[.val (.ref a), .val (.int (1 : Int32)), .val (.int c0)] [(.int c1)]
  refine w.istoreN #[.val (.ref a), .val (.int (1 : Int32)), .val (.int c1)] d22_39 rfl ?_
  refine w.iloadN d22_40 rfl ?_
  refine w.bipush (44 : Int32) d22_41 rfl ?_
  refine w.icmpEq d22_43 d22_43t (fun q => absurd q i1.2.2.2.1) (fun _ => ?_)
  refine w.iloadN d22_46 rfl ?_
  refine w.bipush (47 : Int32) d22_47 rfl ?_
  refine w.icmpEq d22_49 d22_49t (fun q => absurd q i1.2.2.2.2.1) (fun _ => ?_)
  refine w.iloadN d22_52 rfl ?_
  refine w.bipush (61 : Int32) d22_53 rfl ?_
  refine w.icmpNe d22_55 d22_55t (fun _ => ?_) (fun q => absurd q i1.2.2.2.2.2.1)
  refine w.iloadN d22_77 rfl ?_
  refine w.bipush (92 : Int32) d22_78 rfl ?_
  refine w.icmpNe d22_80 d22_80t (fun _ => ?_) (fun q => absurd q i1.2.2.2.2.2.2)
  refine w.iloadN d22_100 rfl ?_
  refine w.callS (argsL := [(.int c1)]) (rest := []) 0 d22_101 (tw hw 105 rfl) (tw hw 106 rfl) (tw hw 41 rfl) (tw hw 107 rfl) (by decide) (rmAC l Z a0 hw c1 i1 h1 w.old) (lenOf pd_19 rfl) rfl rfl (Nat.le_refl _) ⟨by decide, by decide, by decide, by decide⟩ all0 ?_
  intro T h10 r w _ hQ
  obtain ⟨rfl, rfl⟩ := hQ
  show Go x _ Z _ _ _ T 104 #[.val (.ref a), .val (.int (1 : Int32)), .val (.int c1)] [(.int (0 : Int32))]
  refine w.ifEq d22_104 d22_104t (fun _ => ?_) (fun q => absurd rfl q)
  refine w.iloadN d22_129 rfl ?_
  refine w.ldcI d22_130 (tw hw 108 rfl) ?_
  refine w.icmpLt d22_132 d22_132t (fun _ => ?_) (fun q => absurd w1 q)
  refine w.iloadN d22_172 rfl ?_
  refine w.iloadN d22_173 rfl ?_
  refine w.callS (argsL := [(.int c1)]) (rest := [(.int (1 : Int32))]) 1 d22_174 (tw hw 109 rfl) (tw hw 110 rfl) (tw hw 111 rfl) (tw hw 112 rfl) (by decide) (rmCC l Z a0 hw c1 x1 h1 w.old) (lenOf pd_18 rfl) rfl rfl (Nat.le_refl _) ⟨by decide, by decide, by decide, by decide⟩ all0 ?_
  intro T h11 r w _ hQ
  obtain ⟨rfl, rfl⟩ := hQ
  show Go x _ Z _ _ _ T 177 #[.val (.ref a), .val (.int (1 : Int32)), .val (.int c1)] [(.int (1 : Int32)), (.int (1 : Int32))]
  refine w.iadd d22_177 ?_
  refine w.istoreN #[.val (.ref a), .val (.int ((1 : Int32) + (1 : Int32))), .val (.int c1)] d22_178 rfl ?_
  refine w.goto d22_179 d22_179t ?_
  show Go x _ Z _ _ _ T 26 #[.val (.ref a), .val (.int (2 : Int32)), .val (.int c1)] []
  refine w.iloadN d22_26 rfl ?_
  refine w.aloadN d22_27 rfl rfl ?_
  refine w.callV (argsL := []) (rest := [(.int (2 : Int32))]) 1 d22_28 (tw hw 85 rfl) (tw hw 86 rfl) (tw hw 88 rfl) (tw hw 87 rfl) (tw hw 15 rfl) (tw hw 89 rfl) (by decide) F2.1 (rmLn_2 l Z a0 hw hr a t c0 c1 h1 w.old F2) (lenOf pd_17 rfl) rfl rfl (Nat.le_refl _) ⟨by decide, by decide, by decide, by decide⟩ all0 ?_
  intro T h12 r w _ hQ
  obtain ⟨rfl, rfl⟩ := hQ
  show Go x _ Z _ _ _ T 31 #[.val (.ref a), .val (.int (2 : Int32)), .val (.int c1)] [(.int (2 : Int32)), (.int (2 : Int32))]
  refine w.icmpGe d22_31 d22_31t (fun _ => ?_) (fun q => absurd q (by decide))
  exact w.retV d22_182 rfl ⟨rfl, E1⟩

theorem rmCN (l : Launch) (Z : State) (a0 : Array Value) (hw : ∀ d ∈ tables_1, d.before a0 Z = true) (hr : rest_1_c.value a0 Z none Z [] = some true) (a t : Addr) (ln c0 c1 : Int32) (h0 : Heap) (hE : Ext Z.heap h0) (hl : ln = 1 ∨ ln = 2) (Sa : StrL Z h0 a t 0 (own_bytes ln c0 c1)) (p0 : own_L c0) (p1 : own_N c1) :
    Ct true l Z [] (⟨"com/example/lucioles/lucioles/model/Rdn", "checkClassName", "(Ljava/lang/String;)V"⟩ : MethodName) prog_9_method_8_code 3 none [] ({ frames := 4, cells := 2, slots := 44, locals := 64 } : Room) [] #[(.ref a)] h0 (fun r u => r = none ∧ Ext h0 u) := by
  rcases hl with rfl | rfl
  · exact rmCN_1 l Z a0 hw hr a t c0 h0 hE Sa p0
  · exact rmCN_2 l Z a0 hw hr a t c0 c1 h0 hE Sa p0 p1

theorem rmCId (l : Launch) (Z : State) (a0 : Array Value) (hw : ∀ d ∈ tables_1, d.before a0 Z = true) (hr : rest_1_c.value a0 Z none Z [] = some true) (a t : Addr) (ln c0 c1 : Int32) (h0 : Heap) (hE : Ext Z.heap h0) (hl : ln = 1 ∨ ln = 2) (Sa : StrL Z h0 a t 0 (own_bytes ln c0 c1)) (p0 : own_I c0) (p1 : own_I c1) :
    Ct true l Z [] (⟨"com/example/lucioles/lucioles/model/Rdn", "checkId", "(Ljava/lang/String;)V"⟩ : MethodName) prog_9_method_9_code 3 none [] ({ frames := 4, cells := 2, slots := 44, locals := 64 } : Room) [] #[(.ref a)] h0 (fun r u => r = none ∧ Ext h0 u) := by
  rcases hl with rfl | rfl
  · exact rmCI_1 l Z a0 hw hr a t c0 h0 hE Sa p0
  · exact rmCI_2 l Z a0 hw hr a t c0 c1 h0 hE Sa p0 p1

set_option maxRecDepth 65536 in
set_option maxHeartbeats 40000000 in
theorem rmI (l : Launch) (Z : State) (a0 : Array Value) (hw : ∀ d ∈ tables_1, d.before a0 Z = true) (hr : rest_1_c.value a0 Z none Z [] = some true) (a xx yy tx ty : Addr) (l1 c0 c1 l2 d0 d1 : Int32) (hl1 : l1 = 1 ∨ l1 = 2) (hl2 : l2 = 1 ∨ l2 = 2) (pc0 : own_L c0) (pc1 : own_N c1) (pd0 : own_I d0) (pd1 : own_I d1) (h0 : Heap) (hE : Ext Z.heap h0) (ge_a : Z.heap.size ≤ a) (E0 : Exa Z h0 a "com/example/lucioles/lucioles/model/Rdn") (G1 : Fld Z h0 a "com/example/lucioles/lucioles/model/Rdn" "className" "Ljava/lang/String;" .null) (G2 : Fld Z h0 a "com/example/lucioles/lucioles/model/Rdn" "id" "Ljava/lang/String;" .null) (Sx : StrL Z h0 xx tx 0 (own_bytes l1 c0 c1)) (Sy : StrL Z h0 yy ty 0 (own_bytes l2 d0 d1)) :
    Ct true l Z [] (⟨"com/example/lucioles/lucioles/model/Rdn", "<init>", "(Ljava/lang/String;Ljava/lang/String;)V"⟩ : MethodName) prog_9_method_1_code 3 none [] ({ frames := 5, cells := 4, slots := 88, locals := 80 } : Room) [a] #[(.ref a), (.ref xx), (.ref yy)] h0 (fun r u => r = none ∧ Keep h0 u [a] ∧ Exa Z u a "com/example/lucioles/lucioles/model/Rdn" ∧ Fld Z u a "com/example/lucioles/lucioles/model/Rdn" "className" "Ljava/lang/String;" (.ref xx) ∧ Fld Z u a "com/example/lucioles/lucioles/model/Rdn" "id" "Ljava/lang/String;" (.ref yy)) := by
  refine Ct.intro pn_com_example_lucioles_lucioles_model_Rdn hE (fun m => efI m a xx yy) (onesf ge_a E0.lt) ⟨a0, own_EW hw⟩ ?_
  intro x T w
  refine w.aloadN d10_0 rfl rfl ?_
  refine w.initO 0 d10_1 (tw hw 45 rfl) (tw hw 33 rfl) (tw hw 34 rfl) rfl (Nat.le_refl _) ⟨by decide, by decide⟩ ?_
  intro T w
  refine w.aloadN d10_4 rfl rfl ?_
  refine w.callS (argsL := [(.ref xx)]) (rest := []) 0 d10_5 (tw hw 46 rfl) (tw hw 47 rfl) (tw hw 41 rfl) (tw hw 48 rfl) (by decide) (rmCN l Z a0 hw hr xx tx l1 c0 c1 h0 w.old hl1 Sx pc0 pc1) (lenOf pd_20 rfl) rfl rfl (Nat.le_refl _) ⟨by decide, by decide, by decide, by decide⟩ all0 ?_
  intro T h1 r w _ hQ
  obtain ⟨rfl, E1⟩ := hQ
  have F21 := E0.ext E1
  have F22 := G1.ext E1
  have F23 := G2.ext E1
  have F24 := Sx.ext E1
  have F25 := Sy.ext E1
  show Go x _ Z _ _ _ T 8 #[.val (.ref a), .val (.ref xx), .val (.ref yy)] []
  refine w.aloadN d10_8 rfl rfl ?_
  refine w.callS (argsL := [(.ref yy)]) (rest := []) 0 d10_9 (tw hw 95 rfl) (tw hw 96 rfl) (tw hw 41 rfl) (tw hw 97 rfl) (by decide) (rmCId l Z a0 hw hr yy ty l2 d0 d1 h1 w.old hl2 F25 pd0 pd1) (lenOf pd_20 rfl) rfl rfl (Nat.le_refl _) ⟨by decide, by decide, by decide, by decide⟩ all0 ?_
  intro T h2 r w _ hQ
  obtain ⟨rfl, E2⟩ := hQ
  have F26 := F21.ext E2
  have F27 := F22.ext E2
  have F28 := F23.ext E2
  have F29 := F24.ext E2
  have F30 := F25.ext E2
  show Go x _ Z _ _ _ T 12 #[.val (.ref a), .val (.ref xx), .val (.ref yy)] []
  refine w.aloadN d10_12 rfl rfl ?_
  refine w.aloadN d10_13 rfl rfl ?_
  refine w.putF d10_14 (tw hw 114 rfl) F27 F26 (Or.inr ⟨(tw hw 115 rfl), rfl, rfl⟩) (tw hw 40 rfl) (ty := (.object "java/lang/String")) (by decide) rfl rfl (List.mem_of_getElem? (i := 0) rfl) ?_
  intro T h3 w W31
  have F32 := F26.wr W31
  have F33 := F27.same W31
  have F34 := F28.other W31 (Or.inr (slot_ne (Or.inr (tw hw 117 rfl)) (Or.inr (tw hw 115 rfl)) (by decide) (t := (.object "java/lang/String")) (t' := (.object "java/lang/String")) (by decide) (by decide)))
  refine w.aloadN d10_17 rfl rfl ?_
  refine w.aloadN d10_18 rfl rfl ?_
  refine w.putF d10_19 (tw hw 116 rfl) F34 F32 (Or.inr ⟨(tw hw 117 rfl), rfl, rfl⟩) (tw hw 40 rfl) (ty := (.object "java/lang/String")) (by decide) rfl rfl (List.mem_of_getElem? (i := 0) rfl) ?_
  intro T h4 w W35
  have F36 := F32.wr W35
  have F37 := F33.other W35 (Or.inr (slot_ne (Or.inr (tw hw 115 rfl)) (Or.inr (tw hw 117 rfl)) (by decide) (t := (.object "java/lang/String")) (t' := (.object "java/lang/String")) (by decide) (by decide)))
  have F38 := F34.same W35
  exact w.retV d10_22 rfl ⟨rfl, ((((keep_ext E1).ext E2).wr W31 (Or.inl (List.mem_singleton.mpr rfl))).wr W35 (Or.inl (List.mem_singleton.mpr rfl))), F36, F37, F38⟩

set_option maxRecDepth 65536 in
set_option maxHeartbeats 40000000 in
theorem rmE (l : Launch) (Z : State) (a0 : Array Value) (hw : ∀ d ∈ tables_1, d.before a0 Z = true) (hr : rest_1_c.value a0 Z none Z [] = some true) (a b fa0 fa1 fb0 fb1 ta0 ta1 tb0 tb1 : Addr) (p0 p1 q0 q1 : List Int32) (h0 : Heap) (hE : Ext Z.heap h0) (Eb : Exa Z h0 b "com/example/lucioles/lucioles/model/Rdn") (Ga0 : Fld Z h0 a "com/example/lucioles/lucioles/model/Rdn" "className" "Ljava/lang/String;" (.ref fa0)) (Ga1 : Fld Z h0 a "com/example/lucioles/lucioles/model/Rdn" "id" "Ljava/lang/String;" (.ref fa1)) (Sa0 : StrL Z h0 fa0 ta0 0 p0) (Sa1 : StrL Z h0 fa1 ta1 0 p1) (Gb0 : Fld Z h0 b "com/example/lucioles/lucioles/model/Rdn" "className" "Ljava/lang/String;" (.ref fb0)) (Gb1 : Fld Z h0 b "com/example/lucioles/lucioles/model/Rdn" "id" "Ljava/lang/String;" (.ref fb1)) (Sb0 : StrL Z h0 fb0 tb0 0 q0) (Sb1 : StrL Z h0 fb1 tb1 0 q1) :
    Ct true l Z [] (⟨"com/example/lucioles/lucioles/model/Rdn", "equals", "(Ljava/lang/Object;)Z"⟩ : MethodName) prog_9_method_5_code 3 (some .boolean) [] ({ frames := 2, cells := 0, slots := 0, locals := 31 } : Room) [] #[(.ref a), (.ref b)] h0 (fun r v => r = some (.int (if p0 = q0 ∧ p1 = q1 then 1 else 0)) ∧ h0 = v) := by
  refine Ct.intro pn_com_example_lucioles_lucioles_model_Rdn hE (fun m => efE m a b) nosf ⟨a0, own_EW hw⟩ ?_
  intro x T w
  refine w.aloadN d26_0 rfl rfl ?_
  refine w.aloadN d26_1 rfl rfl ?_
  refine w.racmpNe d26_2 d26_2t (fun s0 => ?_) (fun s0 => ?_)
  · refine w.aloadN d26_7 rfl rfl ?_
    refine w.instY d26_8 (tw hw 123 rfl) (Ins.self Eb) ?_
    intro T w
    refine w.ifNe d26_11 d26_11t (fun _ => ?_) (fun q => absurd q (by decide))
    refine w.aloadN d26_16 rfl rfl ?_
    refine w.cast d26_17 (tw hw 123 rfl) (Ins.self Eb) ?_
    intro T w
    refine w.astoreN #[.val (.ref a), .val (.ref b), .val (.ref b)] d26_20 rfl rfl ?_
    refine w.aloadN d26_21 rfl rfl ?_
    refine w.getF d26_22 (tw hw 114 rfl) Ga0 ?_
    intro T w
    refine w.aloadN d26_25 rfl rfl ?_
    refine w.getF d26_26 (tw hw 114 rfl) Gb0 ?_
    intro T w
    refine w.callV (argsL := [(.ref fb0)]) (rest := []) 0 d26_29 (tw hw 125 rfl) (tw hw 126 rfl) (tw hw 128 rfl) (tw hw 127 rfl) (tw hw 15 rfl) (tw hw 129 rfl) (by decide) Sa0.1 (rmSE l Z a0 hw hr p0 q0 fa0 fb0 ta0 tb0 0 h0 w.old Sa0 Sb0) (lenOf pd_21 rfl) rfl rfl (Nat.le_refl _) ⟨by decide, by decide, by decide, by decide⟩ all0 ?_
    intro T h1 r w _ hQ
    obtain ⟨rfl, rfl⟩ := hQ
    show Go x _ Z _ _ _ T 32 #[.val (.ref a), .val (.ref b), .val (.ref b)] [(.int (if p0 = q0 then 1 else 0))]
    refine w.ifEq d26_32 d26_32t (fun r1 => ?_) (fun r1 => ?_)
    · refine w.iconst (0 : Int32) d26_53 rfl ?_
      exact w.retN d26_54 rfl (by simp) ⟨by rw [if_neg (fun e => own_if0 r1 e.1)]; rfl, rfl⟩
    · refine w.aloadN d26_35 rfl rfl ?_
      refine w.getF d26_36 (tw hw 116 rfl) Ga1 ?_
      intro T w
      refine w.aloadN d26_39 rfl rfl ?_
      refine w.getF d26_40 (tw hw 116 rfl) Gb1 ?_
      intro T w
      refine w.callV (argsL := [(.ref fb1)]) (rest := []) 0 d26_43 (tw hw 125 rfl) (tw hw 126 rfl) (tw hw 128 rfl) (tw hw 127 rfl) (tw hw 15 rfl) (tw hw 129 rfl) (by decide) Sa1.1 (rmSE l Z a0 hw hr p1 q1 fa1 fb1 ta1 tb1 0 h0 w.old Sa1 Sb1) (lenOf pd_21 rfl) rfl rfl (Nat.le_refl _) ⟨by decide, by decide, by decide, by decide⟩ all0 ?_
      intro T h2 r w _ hQ
      obtain ⟨rfl, rfl⟩ := hQ
      show Go x _ Z _ _ _ T 46 #[.val (.ref a), .val (.ref b), .val (.ref b)] [(.int (if p1 = q1 then 1 else 0))]
      refine w.ifEq d26_46 d26_46t (fun r2 => ?_) (fun r2 => ?_)
      · refine w.iconst (0 : Int32) d26_53 rfl ?_
        exact w.retN d26_54 rfl (by simp) ⟨by rw [if_neg (fun e => own_if0 r2 e.2)]; rfl, rfl⟩
      · refine w.iconst (1 : Int32) d26_49 rfl ?_
        refine w.goto d26_50 d26_50t ?_
        exact w.retN d26_54 rfl (by simp) ⟨by rw [if_pos ⟨own_if1 r1, own_if1 r2⟩]; rfl, rfl⟩
  · refine w.iconst (1 : Int32) d26_5 rfl ?_
    exact w.retN d26_6 rfl (by simp) ⟨by subst s0; rw [if_pos ⟨own_sF Ga0 Gb0 Sa0 Sb0, own_sF Ga1 Gb1 Sa1 Sb1⟩]; rfl, rfl⟩

set_option maxRecDepth 65536 in
set_option maxHeartbeats 40000000 in
theorem rmEn (l : Launch) (Z : State) (a0 : Array Value) (hw : ∀ d ∈ tables_1, d.before a0 Z = true) (a : Addr) (h0 : Heap) (hE : Ext Z.heap h0) :
    Ct true l Z [] (⟨"com/example/lucioles/lucioles/model/Rdn", "equals", "(Ljava/lang/Object;)Z"⟩ : MethodName) prog_9_method_5_code 3 (some .boolean) [] ({ frames := 0, cells := 0, slots := 0, locals := 0 } : Room) [] #[(.ref a), .null] h0 (fun r w => r = some (.int (0 : Int32)) ∧ h0 = w) := by
  refine Ct.intro pn_com_example_lucioles_lucioles_model_Rdn hE (fun m => efEn m a) nosf ⟨a0, own_EW hw⟩ ?_
  intro x T w
  refine w.aloadN d26_0 rfl rfl ?_
  refine w.aloadN d26_1 rfl rfl ?_
  refine w.acmpNe d26_2 d26_2t rfl rfl (fun _ => ?_) (fun q => absurd q (fun e => by cases e))
  refine w.aloadN d26_7 rfl rfl ?_
  refine w.instNull d26_8 ?_
  refine w.ifNe d26_11 d26_11t (fun q => absurd rfl q) (fun _ => ?_)
  refine w.iconst (0 : Int32) d26_14 rfl ?_
  exact w.retN d26_15 rfl (by simp) ⟨rfl, rfl⟩

set_option maxRecDepth 65536 in
set_option maxHeartbeats 40000000 in
theorem rmEo (l : Launch) (Z : State) (a0 : Array Value) (hw : ∀ d ∈ tables_1, d.before a0 Z = true) (a b : Addr) (nab : a ≠ b) (h0 : Heap) (hE : Ext Z.heap h0) (E2 : Exa Z h0 b "java/lang/String") :
    Ct true l Z [] (⟨"com/example/lucioles/lucioles/model/Rdn", "equals", "(Ljava/lang/Object;)Z"⟩ : MethodName) prog_9_method_5_code 3 (some .boolean) [] ({ frames := 0, cells := 0, slots := 0, locals := 0 } : Room) [] #[(.ref a), (.ref b)] h0 (fun r w => r = some (.int (0 : Int32)) ∧ h0 = w) := by
  refine Ct.intro pn_com_example_lucioles_lucioles_model_Rdn hE (fun m => efE m a b) nosf ⟨a0, own_EW hw⟩ ?_
  intro x T w
  refine w.aloadN d26_0 rfl rfl ?_
  refine w.aloadN d26_1 rfl rfl ?_
  refine w.racmpNe d26_2 d26_2t (fun _ => ?_) (fun q => absurd q nab)
  refine w.aloadN d26_7 rfl rfl ?_
  refine w.instNo d26_8 (tw hw 123 rfl) E2 (own_no hw) ?_
  intro T w
  refine w.ifNe d26_11 d26_11t (fun q => absurd rfl q) (fun _ => ?_)
  refine w.iconst (0 : Int32) d26_14 rfl ?_
  exact w.retN d26_15 rfl (by simp) ⟨rfl, rfl⟩

set_option maxRecDepth 65536 in
set_option maxHeartbeats 40000000 in
theorem pc286 (l : Launch) (Z : State) (a0 : Array Value) (hw : ∀ d ∈ tables_1, d.before a0 Z = true) (hr : rest_1_c.value a0 Z none Z [] = some true) (va vb vc vd mo rcl ocl ril oil rc0 rc1 oc0 oc1 ri0 ri1 oi0 oi1 : Int32) (hl1 : rcl = 1 ∨ rcl = 2) (hl2 : ocl = 1 ∨ ocl = 2) (hl3 : ril = 1 ∨ ril = 2) (hl4 : oil = 1 ∨ oil = 2) (h_rc0 : own_L rc0) (h_rc1 : own_N rc1) (h_oc0 : own_L oc0) (h_oc1 : own_N oc1) (h_ri0 : own_I ri0) (h_ri1 : own_I ri1) (h_oi0 : own_I oi0) (h_oi1 : own_I oi1) (s1 s2 s3 s4 t_s1 t_s2 t_s3 t_s4 x1 x2 : Addr) (kd : Int32) (h0 : Heap) (cx : Cx) (T : State) (w : W cx true l Z [] room_1 (MethodName.cls x) code maxLocals ret (MethodName.name x) T h0 (30) (400) []) (S_s1 : StrL Z h0 s1 t_s1 0 (own_bytes rcl rc0 rc1)) (S_s2 : StrL Z h0 s2 t_s2 0 (own_bytes ril ri0 ri1)) (S_s3 : StrL Z h0 s3 t_s3 0 (own_bytes ocl oc0 oc1)) (S_s4 : StrL Z h0 s4 t_s4 0 (own_bytes oil oi0 oi1)) (EE_x1 : Exa Z h0 x1 "com/example/lucioles/lucioles/model/Rdn") (EE_x2 : Exa Z h0 x2 "com/example/lucioles/lucioles/model/Rdn") (F0_x1 : Fld Z h0 x1 "com/example/lucioles/lucioles/model/Rdn" "className" "Ljava/lang/String;" (.ref s1)) (F1_x1 : Fld Z h0 x1 "com/example/lucioles/lucioles/model/Rdn" "id" "Ljava/lang/String;" (.ref s2)) (F0_x2 : Fld Z h0 x2 "com/example/lucioles/lucioles/model/Rdn" "className" "Ljava/lang/String;" (.ref s3)) (F1_x2 : Fld Z h0 x2 "com/example/lucioles/lucioles/model/Rdn" "id" "Ljava/lang/String;" (.ref s4)) :
    Go cx true Z [] room_1 (fun v _ => v = some (.int 1)) T 286 #[.val (.int va), .val (.int vb), .val (.int vc), .val (.int vd), .val (.int mo), .val (.int rcl), .val (.int ocl), .val (.int ril), .val (.int oil), .val (.int rc0), .val (.int rc1), .val (.int oc0), .val (.int oc1), .val (.int ri0), .val (.int ri1), .val (.int oi0), .val (.int oi1), .val (.ref s1), .val (.ref s2), .val (.ref s3), .val (.ref s4), .val (.ref x1), .val (.int kd), .val (.ref x2), .unset, .unset, .unset] [] := by
  have e1 := own_sb h_rc0 h_rc1 h_oc0 h_oc1 hl1 hl2
  have e2 := own_sbI h_ri0 h_ri1 h_oi0 h_oi1 hl3 hl4
  refine w.iload d0_286 rfl ?_
  refine w.iload d0_288 rfl ?_
  refine w.icmpNe d0_290 d0_290t (fun a1 => ?_) (fun a1 => ?_)
  · refine w.iconst (0 : Int32) d0_317 rfl ?_
    refine w.istore #[.val (.int va), .val (.int vb), .val (.int vc), .val (.int vd), .val (.int mo), .val (.int rcl), .val (.int ocl), .val (.int ril), .val (.int oil), .val (.int rc0), .val (.int rc1), .val (.int oc0), .val (.int oc1), .val (.int ri0), .val (.int ri1), .val (.int oi0), .val (.int oi1), .val (.ref s1), .val (.ref s2), .val (.ref s3), .val (.ref s4), .val (.ref x1), .val (.int kd), .val (.ref x2), .val (.int (0 : Int32)), .unset, .unset] d0_318 rfl ?_
    have g1 : ¬ (rcl = ocl ∧ rc0 = oc0 ∧ (rcl = 1 ∨ rc1 = oc1)) := fun z => a1 z.1
    refine w.iload d0_320 rfl ?_
    refine w.iload d0_322 rfl ?_
    refine w.icmpNe d0_324 d0_324t (fun a2 => ?_) (fun a2 => ?_)
    · refine w.iconst (0 : Int32) d0_351 rfl ?_
      refine w.istore #[.val (.int va), .val (.int vb), .val (.int vc), .val (.int vd), .val (.int mo), .val (.int rcl), .val (.int ocl), .val (.int ril), .val (.int oil), .val (.int rc0), .val (.int rc1), .val (.int oc0), .val (.int oc1), .val (.int ri0), .val (.int ri1), .val (.int oi0), .val (.int oi1), .val (.ref s1), .val (.ref s2), .val (.ref s3), .val (.ref s4), .val (.ref x1), .val (.int kd), .val (.ref x2), .val (.int (0 : Int32)), .val (.int (0 : Int32)), .unset] d0_352 rfl ?_
      have g2 : ¬ (ril = oil ∧ ri0 = oi0 ∧ (ril = 1 ∨ ri1 = oi1)) := fun z => a2 z.1
      refine w.iload d0_354 rfl ?_
      refine w.ifEq d0_356 d0_356t (fun _ => ?_) (fun q => absurd rfl q)
      refine w.iconst (0 : Int32) d0_368 rfl ?_
      refine w.istore #[.val (.int va), .val (.int vb), .val (.int vc), .val (.int vd), .val (.int mo), .val (.int rcl), .val (.int ocl), .val (.int ril), .val (.int oil), .val (.int rc0), .val (.int rc1), .val (.int oc0), .val (.int oc1), .val (.int ri0), .val (.int ri1), .val (.int oi0), .val (.int oi1), .val (.ref s1), .val (.ref s2), .val (.ref s3), .val (.ref s4), .val (.ref x1), .val (.int kd), .val (.ref x2), .val (.int (0 : Int32)), .val (.int (0 : Int32)), .val (.int (0 : Int32))] d0_369 rfl ?_
      refine w.aload d0_371 rfl rfl ?_
      refine w.aload d0_373 rfl rfl ?_
      refine w.callV (argsL := [(.ref x2)]) (rest := []) 0 d0_375 (tw hw 118 rfl) (tw hw 119 rfl) (tw hw 121 rfl) (tw hw 120 rfl) (tw hw 41 rfl) (tw hw 122 rfl) (by decide) EE_x1 (rmE l Z a0 hw hr x1 x2 s1 s2 s3 s4 t_s1 t_s2 t_s3 t_s4 _ _ _ _ h0 w.old EE_x2 F0_x1 F1_x1 S_s1 S_s2 F0_x2 F1_x2 S_s3 S_s4) (lenOf pd_21 rfl) rfl rfl (Nat.le_refl _) ⟨by decide, by decide, by decide, by decide⟩ all0 ?_
      intro T h1 r w _ hQ
      obtain ⟨rfl, rfl⟩ := hQ
      show Go cx _ Z _ _ _ T 378 #[.val (.int va), .val (.int vb), .val (.int vc), .val (.int vd), .val (.int mo), .val (.int rcl), .val (.int ocl), .val (.int ril), .val (.int oil), .val (.int rc0), .val (.int rc1), .val (.int oc0), .val (.int oc1), .val (.int ri0), .val (.int ri1), .val (.int oi0), .val (.int oi1), .val (.ref s1), .val (.ref s2), .val (.ref s3), .val (.ref s4), .val (.ref x1), .val (.int kd), .val (.ref x2), .val (.int (0 : Int32)), .val (.int (0 : Int32)), .val (.int (0 : Int32))] [(.int (if (own_bytes rcl rc0 rc1) = (own_bytes ocl oc0 oc1) ∧ (own_bytes ril ri0 ri1) = (own_bytes oil oi0 oi1) then 1 else 0))]
      refine w.iload d0_378 rfl ?_
      refine w.icmpNe d0_380 d0_380t (fun q => absurd (if_neg (fun z => g1 (e1.mp z.1))) q) (fun _ => ?_)
      refine w.aload d0_383 rfl rfl ?_
      refine w.aload d0_385 rfl rfl ?_
      refine w.callV (argsL := [(.ref x1)]) (rest := []) 0 d0_387 (tw hw 118 rfl) (tw hw 119 rfl) (tw hw 121 rfl) (tw hw 120 rfl) (tw hw 41 rfl) (tw hw 122 rfl) (by decide) EE_x2 (rmE l Z a0 hw hr x2 x1 s3 s4 s1 s2 t_s3 t_s4 t_s1 t_s2 _ _ _ _ h0 w.old EE_x1 F0_x2 F1_x2 S_s3 S_s4 F0_x1 F1_x1 S_s1 S_s2) (lenOf pd_21 rfl) rfl rfl (Nat.le_refl _) ⟨by decide, by decide, by decide, by decide⟩ all0 ?_
      intro T h2 r w _ hQ
      obtain ⟨rfl, rfl⟩ := hQ
      show Go cx _ Z _ _ _ T 390 #[.val (.int va), .val (.int vb), .val (.int vc), .val (.int vd), .val (.int mo), .val (.int rcl), .val (.int ocl), .val (.int ril), .val (.int oil), .val (.int rc0), .val (.int rc1), .val (.int oc0), .val (.int oc1), .val (.int ri0), .val (.int ri1), .val (.int oi0), .val (.int oi1), .val (.ref s1), .val (.ref s2), .val (.ref s3), .val (.ref s4), .val (.ref x1), .val (.int kd), .val (.ref x2), .val (.int (0 : Int32)), .val (.int (0 : Int32)), .val (.int (0 : Int32))] [(.int (if (own_bytes ocl oc0 oc1) = (own_bytes rcl rc0 rc1) ∧ (own_bytes oil oi0 oi1) = (own_bytes ril ri0 ri1) then 1 else 0))]
      refine w.iload d0_390 rfl ?_
      refine w.icmpNe d0_392 d0_392t (fun q => absurd (if_neg (fun z => g1 (e1.mp z.1.symm))) q) (fun _ => ?_)
      refine w.iconst (1 : Int32) d0_395 rfl ?_
      refine w.goto d0_396 d0_396t ?_
      exact w.retN d0_400 rfl (by simp) rfl
    · refine w.iload d0_327 rfl ?_
      refine w.iload d0_329 rfl ?_
      refine w.icmpNe d0_331 d0_331t (fun b2 => ?_) (fun b2 => ?_)
      · refine w.iconst (0 : Int32) d0_351 rfl ?_
        refine w.istore #[.val (.int va), .val (.int vb), .val (.int vc), .val (.int vd), .val (.int mo), .val (.int rcl), .val (.int ocl), .val (.int ril), .val (.int oil), .val (.int rc0), .val (.int rc1), .val (.int oc0), .val (.int oc1), .val (.int ri0), .val (.int ri1), .val (.int oi0), .val (.int oi1), .val (.ref s1), .val (.ref s2), .val (.ref s3), .val (.ref s4), .val (.ref x1), .val (.int kd), .val (.ref x2), .val (.int (0 : Int32)), .val (.int (0 : Int32)), .unset] d0_352 rfl ?_
        have g2 : ¬ (ril = oil ∧ ri0 = oi0 ∧ (ril = 1 ∨ ri1 = oi1)) := fun z => b2 z.2.1
        refine w.iload d0_354 rfl ?_
        refine w.ifEq d0_356 d0_356t (fun _ => ?_) (fun q => absurd rfl q)
        refine w.iconst (0 : Int32) d0_368 rfl ?_
        refine w.istore #[.val (.int va), .val (.int vb), .val (.int vc), .val (.int vd), .val (.int mo), .val (.int rcl), .val (.int ocl), .val (.int ril), .val (.int oil), .val (.int rc0), .val (.int rc1), .val (.int oc0), .val (.int oc1), .val (.int ri0), .val (.int ri1), .val (.int oi0), .val (.int oi1), .val (.ref s1), .val (.ref s2), .val (.ref s3), .val (.ref s4), .val (.ref x1), .val (.int kd), .val (.ref x2), .val (.int (0 : Int32)), .val (.int (0 : Int32)), .val (.int (0 : Int32))] d0_369 rfl ?_
        refine w.aload d0_371 rfl rfl ?_
        refine w.aload d0_373 rfl rfl ?_
        refine w.callV (argsL := [(.ref x2)]) (rest := []) 0 d0_375 (tw hw 118 rfl) (tw hw 119 rfl) (tw hw 121 rfl) (tw hw 120 rfl) (tw hw 41 rfl) (tw hw 122 rfl) (by decide) EE_x1 (rmE l Z a0 hw hr x1 x2 s1 s2 s3 s4 t_s1 t_s2 t_s3 t_s4 _ _ _ _ h0 w.old EE_x2 F0_x1 F1_x1 S_s1 S_s2 F0_x2 F1_x2 S_s3 S_s4) (lenOf pd_21 rfl) rfl rfl (Nat.le_refl _) ⟨by decide, by decide, by decide, by decide⟩ all0 ?_
        intro T h3 r w _ hQ
        obtain ⟨rfl, rfl⟩ := hQ
        show Go cx _ Z _ _ _ T 378 #[.val (.int va), .val (.int vb), .val (.int vc), .val (.int vd), .val (.int mo), .val (.int rcl), .val (.int ocl), .val (.int ril), .val (.int oil), .val (.int rc0), .val (.int rc1), .val (.int oc0), .val (.int oc1), .val (.int ri0), .val (.int ri1), .val (.int oi0), .val (.int oi1), .val (.ref s1), .val (.ref s2), .val (.ref s3), .val (.ref s4), .val (.ref x1), .val (.int kd), .val (.ref x2), .val (.int (0 : Int32)), .val (.int (0 : Int32)), .val (.int (0 : Int32))] [(.int (if (own_bytes rcl rc0 rc1) = (own_bytes ocl oc0 oc1) ∧ (own_bytes ril ri0 ri1) = (own_bytes oil oi0 oi1) then 1 else 0))]
        refine w.iload d0_378 rfl ?_
        refine w.icmpNe d0_380 d0_380t (fun q => absurd (if_neg (fun z => g1 (e1.mp z.1))) q) (fun _ => ?_)
        refine w.aload d0_383 rfl rfl ?_
        refine w.aload d0_385 rfl rfl ?_
        refine w.callV (argsL := [(.ref x1)]) (rest := []) 0 d0_387 (tw hw 118 rfl) (tw hw 119 rfl) (tw hw 121 rfl) (tw hw 120 rfl) (tw hw 41 rfl) (tw hw 122 rfl) (by decide) EE_x2 (rmE l Z a0 hw hr x2 x1 s3 s4 s1 s2 t_s3 t_s4 t_s1 t_s2 _ _ _ _ h0 w.old EE_x1 F0_x2 F1_x2 S_s3 S_s4 F0_x1 F1_x1 S_s1 S_s2) (lenOf pd_21 rfl) rfl rfl (Nat.le_refl _) ⟨by decide, by decide, by decide, by decide⟩ all0 ?_
        intro T h4 r w _ hQ
        obtain ⟨rfl, rfl⟩ := hQ
        show Go cx _ Z _ _ _ T 390 #[.val (.int va), .val (.int vb), .val (.int vc), .val (.int vd), .val (.int mo), .val (.int rcl), .val (.int ocl), .val (.int ril), .val (.int oil), .val (.int rc0), .val (.int rc1), .val (.int oc0), .val (.int oc1), .val (.int ri0), .val (.int ri1), .val (.int oi0), .val (.int oi1), .val (.ref s1), .val (.ref s2), .val (.ref s3), .val (.ref s4), .val (.ref x1), .val (.int kd), .val (.ref x2), .val (.int (0 : Int32)), .val (.int (0 : Int32)), .val (.int (0 : Int32))] [(.int (if (own_bytes ocl oc0 oc1) = (own_bytes rcl rc0 rc1) ∧ (own_bytes oil oi0 oi1) = (own_bytes ril ri0 ri1) then 1 else 0))]
        refine w.iload d0_390 rfl ?_
        refine w.icmpNe d0_392 d0_392t (fun q => absurd (if_neg (fun z => g1 (e1.mp z.1.symm))) q) (fun _ => ?_)
        refine w.iconst (1 : Int32) d0_395 rfl ?_
        refine w.goto d0_396 d0_396t ?_
        exact w.retN d0_400 rfl (by simp) rfl
      · refine w.iload d0_334 rfl ?_
        refine w.iconst (1 : Int32) d0_336 rfl ?_
        refine w.icmpEq d0_337 d0_337t (fun c2 => ?_) (fun c2 => ?_)
        · refine w.iconst (1 : Int32) d0_347 rfl ?_
          refine w.goto d0_348 d0_348t ?_
          refine w.istore #[.val (.int va), .val (.int vb), .val (.int vc), .val (.int vd), .val (.int mo), .val (.int rcl), .val (.int ocl), .val (.int ril), .val (.int oil), .val (.int rc0), .val (.int rc1), .val (.int oc0), .val (.int oc1), .val (.int ri0), .val (.int ri1), .val (.int oi0), .val (.int oi1), .val (.ref s1), .val (.ref s2), .val (.ref s3), .val (.ref s4), .val (.ref x1), .val (.int kd), .val (.ref x2), .val (.int (0 : Int32)), .val (.int (1 : Int32)), .unset] d0_352 rfl ?_
          have g2 : ril = oil ∧ ri0 = oi0 ∧ (ril = 1 ∨ ri1 = oi1) := ⟨a2, b2, Or.inl c2⟩
          refine w.iload d0_354 rfl ?_
          refine w.ifEq d0_356 d0_356t (fun _ => ?_) (fun q => absurd rfl q)
          refine w.iconst (0 : Int32) d0_368 rfl ?_
          refine w.istore #[.val (.int va), .val (.int vb), .val (.int vc), .val (.int vd), .val (.int mo), .val (.int rcl), .val (.int ocl), .val (.int ril), .val (.int oil), .val (.int rc0), .val (.int rc1), .val (.int oc0), .val (.int oc1), .val (.int ri0), .val (.int ri1), .val (.int oi0), .val (.int oi1), .val (.ref s1), .val (.ref s2), .val (.ref s3), .val (.ref s4), .val (.ref x1), .val (.int kd), .val (.ref x2), .val (.int (0 : Int32)), .val (.int (1 : Int32)), .val (.int (0 : Int32))] d0_369 rfl ?_
          refine w.aload d0_371 rfl rfl ?_
          refine w.aload d0_373 rfl rfl ?_
          refine w.callV (argsL := [(.ref x2)]) (rest := []) 0 d0_375 (tw hw 118 rfl) (tw hw 119 rfl) (tw hw 121 rfl) (tw hw 120 rfl) (tw hw 41 rfl) (tw hw 122 rfl) (by decide) EE_x1 (rmE l Z a0 hw hr x1 x2 s1 s2 s3 s4 t_s1 t_s2 t_s3 t_s4 _ _ _ _ h0 w.old EE_x2 F0_x1 F1_x1 S_s1 S_s2 F0_x2 F1_x2 S_s3 S_s4) (lenOf pd_21 rfl) rfl rfl (Nat.le_refl _) ⟨by decide, by decide, by decide, by decide⟩ all0 ?_
          intro T h5 r w _ hQ
          obtain ⟨rfl, rfl⟩ := hQ
          show Go cx _ Z _ _ _ T 378 #[.val (.int va), .val (.int vb), .val (.int vc), .val (.int vd), .val (.int mo), .val (.int rcl), .val (.int ocl), .val (.int ril), .val (.int oil), .val (.int rc0), .val (.int rc1), .val (.int oc0), .val (.int oc1), .val (.int ri0), .val (.int ri1), .val (.int oi0), .val (.int oi1), .val (.ref s1), .val (.ref s2), .val (.ref s3), .val (.ref s4), .val (.ref x1), .val (.int kd), .val (.ref x2), .val (.int (0 : Int32)), .val (.int (1 : Int32)), .val (.int (0 : Int32))] [(.int (if (own_bytes rcl rc0 rc1) = (own_bytes ocl oc0 oc1) ∧ (own_bytes ril ri0 ri1) = (own_bytes oil oi0 oi1) then 1 else 0))]
          refine w.iload d0_378 rfl ?_
          refine w.icmpNe d0_380 d0_380t (fun q => absurd (if_neg (fun z => g1 (e1.mp z.1))) q) (fun _ => ?_)
          refine w.aload d0_383 rfl rfl ?_
          refine w.aload d0_385 rfl rfl ?_
          refine w.callV (argsL := [(.ref x1)]) (rest := []) 0 d0_387 (tw hw 118 rfl) (tw hw 119 rfl) (tw hw 121 rfl) (tw hw 120 rfl) (tw hw 41 rfl) (tw hw 122 rfl) (by decide) EE_x2 (rmE l Z a0 hw hr x2 x1 s3 s4 s1 s2 t_s3 t_s4 t_s1 t_s2 _ _ _ _ h0 w.old EE_x1 F0_x2 F1_x2 S_s3 S_s4 F0_x1 F1_x1 S_s1 S_s2) (lenOf pd_21 rfl) rfl rfl (Nat.le_refl _) ⟨by decide, by decide, by decide, by decide⟩ all0 ?_
          intro T h6 r w _ hQ
          obtain ⟨rfl, rfl⟩ := hQ
          show Go cx _ Z _ _ _ T 390 #[.val (.int va), .val (.int vb), .val (.int vc), .val (.int vd), .val (.int mo), .val (.int rcl), .val (.int ocl), .val (.int ril), .val (.int oil), .val (.int rc0), .val (.int rc1), .val (.int oc0), .val (.int oc1), .val (.int ri0), .val (.int ri1), .val (.int oi0), .val (.int oi1), .val (.ref s1), .val (.ref s2), .val (.ref s3), .val (.ref s4), .val (.ref x1), .val (.int kd), .val (.ref x2), .val (.int (0 : Int32)), .val (.int (1 : Int32)), .val (.int (0 : Int32))] [(.int (if (own_bytes ocl oc0 oc1) = (own_bytes rcl rc0 rc1) ∧ (own_bytes oil oi0 oi1) = (own_bytes ril ri0 ri1) then 1 else 0))]
          refine w.iload d0_390 rfl ?_
          refine w.icmpNe d0_392 d0_392t (fun q => absurd (if_neg (fun z => g1 (e1.mp z.1.symm))) q) (fun _ => ?_)
          refine w.iconst (1 : Int32) d0_395 rfl ?_
          refine w.goto d0_396 d0_396t ?_
          exact w.retN d0_400 rfl (by simp) rfl
        · refine w.iload d0_340 rfl ?_
          refine w.iload d0_342 rfl ?_
          refine w.icmpNe d0_344 d0_344t (fun d2 => ?_) (fun d2 => ?_)
          · refine w.iconst (0 : Int32) d0_351 rfl ?_
            refine w.istore #[.val (.int va), .val (.int vb), .val (.int vc), .val (.int vd), .val (.int mo), .val (.int rcl), .val (.int ocl), .val (.int ril), .val (.int oil), .val (.int rc0), .val (.int rc1), .val (.int oc0), .val (.int oc1), .val (.int ri0), .val (.int ri1), .val (.int oi0), .val (.int oi1), .val (.ref s1), .val (.ref s2), .val (.ref s3), .val (.ref s4), .val (.ref x1), .val (.int kd), .val (.ref x2), .val (.int (0 : Int32)), .val (.int (0 : Int32)), .unset] d0_352 rfl ?_
            have g2 : ¬ (ril = oil ∧ ri0 = oi0 ∧ (ril = 1 ∨ ri1 = oi1)) := fun z => z.2.2.elim c2 d2
            refine w.iload d0_354 rfl ?_
            refine w.ifEq d0_356 d0_356t (fun _ => ?_) (fun q => absurd rfl q)
            refine w.iconst (0 : Int32) d0_368 rfl ?_
            refine w.istore #[.val (.int va), .val (.int vb), .val (.int vc), .val (.int vd), .val (.int mo), .val (.int rcl), .val (.int ocl), .val (.int ril), .val (.int oil), .val (.int rc0), .val (.int rc1), .val (.int oc0), .val (.int oc1), .val (.int ri0), .val (.int ri1), .val (.int oi0), .val (.int oi1), .val (.ref s1), .val (.ref s2), .val (.ref s3), .val (.ref s4), .val (.ref x1), .val (.int kd), .val (.ref x2), .val (.int (0 : Int32)), .val (.int (0 : Int32)), .val (.int (0 : Int32))] d0_369 rfl ?_
            refine w.aload d0_371 rfl rfl ?_
            refine w.aload d0_373 rfl rfl ?_
            refine w.callV (argsL := [(.ref x2)]) (rest := []) 0 d0_375 (tw hw 118 rfl) (tw hw 119 rfl) (tw hw 121 rfl) (tw hw 120 rfl) (tw hw 41 rfl) (tw hw 122 rfl) (by decide) EE_x1 (rmE l Z a0 hw hr x1 x2 s1 s2 s3 s4 t_s1 t_s2 t_s3 t_s4 _ _ _ _ h0 w.old EE_x2 F0_x1 F1_x1 S_s1 S_s2 F0_x2 F1_x2 S_s3 S_s4) (lenOf pd_21 rfl) rfl rfl (Nat.le_refl _) ⟨by decide, by decide, by decide, by decide⟩ all0 ?_
            intro T h7 r w _ hQ
            obtain ⟨rfl, rfl⟩ := hQ
            show Go cx _ Z _ _ _ T 378 #[.val (.int va), .val (.int vb), .val (.int vc), .val (.int vd), .val (.int mo), .val (.int rcl), .val (.int ocl), .val (.int ril), .val (.int oil), .val (.int rc0), .val (.int rc1), .val (.int oc0), .val (.int oc1), .val (.int ri0), .val (.int ri1), .val (.int oi0), .val (.int oi1), .val (.ref s1), .val (.ref s2), .val (.ref s3), .val (.ref s4), .val (.ref x1), .val (.int kd), .val (.ref x2), .val (.int (0 : Int32)), .val (.int (0 : Int32)), .val (.int (0 : Int32))] [(.int (if (own_bytes rcl rc0 rc1) = (own_bytes ocl oc0 oc1) ∧ (own_bytes ril ri0 ri1) = (own_bytes oil oi0 oi1) then 1 else 0))]
            refine w.iload d0_378 rfl ?_
            refine w.icmpNe d0_380 d0_380t (fun q => absurd (if_neg (fun z => g1 (e1.mp z.1))) q) (fun _ => ?_)
            refine w.aload d0_383 rfl rfl ?_
            refine w.aload d0_385 rfl rfl ?_
            refine w.callV (argsL := [(.ref x1)]) (rest := []) 0 d0_387 (tw hw 118 rfl) (tw hw 119 rfl) (tw hw 121 rfl) (tw hw 120 rfl) (tw hw 41 rfl) (tw hw 122 rfl) (by decide) EE_x2 (rmE l Z a0 hw hr x2 x1 s3 s4 s1 s2 t_s3 t_s4 t_s1 t_s2 _ _ _ _ h0 w.old EE_x1 F0_x2 F1_x2 S_s3 S_s4 F0_x1 F1_x1 S_s1 S_s2) (lenOf pd_21 rfl) rfl rfl (Nat.le_refl _) ⟨by decide, by decide, by decide, by decide⟩ all0 ?_
            intro T h8 r w _ hQ
            obtain ⟨rfl, rfl⟩ := hQ
            show Go cx _ Z _ _ _ T 390 #[.val (.int va), .val (.int vb), .val (.int vc), .val (.int vd), .val (.int mo), .val (.int rcl), .val (.int ocl), .val (.int ril), .val (.int oil), .val (.int rc0), .val (.int rc1), .val (.int oc0), .val (.int oc1), .val (.int ri0), .val (.int ri1), .val (.int oi0), .val (.int oi1), .val (.ref s1), .val (.ref s2), .val (.ref s3), .val (.ref s4), .val (.ref x1), .val (.int kd), .val (.ref x2), .val (.int (0 : Int32)), .val (.int (0 : Int32)), .val (.int (0 : Int32))] [(.int (if (own_bytes ocl oc0 oc1) = (own_bytes rcl rc0 rc1) ∧ (own_bytes oil oi0 oi1) = (own_bytes ril ri0 ri1) then 1 else 0))]
            refine w.iload d0_390 rfl ?_
            refine w.icmpNe d0_392 d0_392t (fun q => absurd (if_neg (fun z => g1 (e1.mp z.1.symm))) q) (fun _ => ?_)
            refine w.iconst (1 : Int32) d0_395 rfl ?_
            refine w.goto d0_396 d0_396t ?_
            exact w.retN d0_400 rfl (by simp) rfl
          · refine w.iconst (1 : Int32) d0_347 rfl ?_
            refine w.goto d0_348 d0_348t ?_
            refine w.istore #[.val (.int va), .val (.int vb), .val (.int vc), .val (.int vd), .val (.int mo), .val (.int rcl), .val (.int ocl), .val (.int ril), .val (.int oil), .val (.int rc0), .val (.int rc1), .val (.int oc0), .val (.int oc1), .val (.int ri0), .val (.int ri1), .val (.int oi0), .val (.int oi1), .val (.ref s1), .val (.ref s2), .val (.ref s3), .val (.ref s4), .val (.ref x1), .val (.int kd), .val (.ref x2), .val (.int (0 : Int32)), .val (.int (1 : Int32)), .unset] d0_352 rfl ?_
            have g2 : ril = oil ∧ ri0 = oi0 ∧ (ril = 1 ∨ ri1 = oi1) := ⟨a2, b2, Or.inr d2⟩
            refine w.iload d0_354 rfl ?_
            refine w.ifEq d0_356 d0_356t (fun _ => ?_) (fun q => absurd rfl q)
            refine w.iconst (0 : Int32) d0_368 rfl ?_
            refine w.istore #[.val (.int va), .val (.int vb), .val (.int vc), .val (.int vd), .val (.int mo), .val (.int rcl), .val (.int ocl), .val (.int ril), .val (.int oil), .val (.int rc0), .val (.int rc1), .val (.int oc0), .val (.int oc1), .val (.int ri0), .val (.int ri1), .val (.int oi0), .val (.int oi1), .val (.ref s1), .val (.ref s2), .val (.ref s3), .val (.ref s4), .val (.ref x1), .val (.int kd), .val (.ref x2), .val (.int (0 : Int32)), .val (.int (1 : Int32)), .val (.int (0 : Int32))] d0_369 rfl ?_
            refine w.aload d0_371 rfl rfl ?_
            refine w.aload d0_373 rfl rfl ?_
            refine w.callV (argsL := [(.ref x2)]) (rest := []) 0 d0_375 (tw hw 118 rfl) (tw hw 119 rfl) (tw hw 121 rfl) (tw hw 120 rfl) (tw hw 41 rfl) (tw hw 122 rfl) (by decide) EE_x1 (rmE l Z a0 hw hr x1 x2 s1 s2 s3 s4 t_s1 t_s2 t_s3 t_s4 _ _ _ _ h0 w.old EE_x2 F0_x1 F1_x1 S_s1 S_s2 F0_x2 F1_x2 S_s3 S_s4) (lenOf pd_21 rfl) rfl rfl (Nat.le_refl _) ⟨by decide, by decide, by decide, by decide⟩ all0 ?_
            intro T h9 r w _ hQ
            obtain ⟨rfl, rfl⟩ := hQ
            show Go cx _ Z _ _ _ T 378 #[.val (.int va), .val (.int vb), .val (.int vc), .val (.int vd), .val (.int mo), .val (.int rcl), .val (.int ocl), .val (.int ril), .val (.int oil), .val (.int rc0), .val (.int rc1), .val (.int oc0), .val (.int oc1), .val (.int ri0), .val (.int ri1), .val (.int oi0), .val (.int oi1), .val (.ref s1), .val (.ref s2), .val (.ref s3), .val (.ref s4), .val (.ref x1), .val (.int kd), .val (.ref x2), .val (.int (0 : Int32)), .val (.int (1 : Int32)), .val (.int (0 : Int32))] [(.int (if (own_bytes rcl rc0 rc1) = (own_bytes ocl oc0 oc1) ∧ (own_bytes ril ri0 ri1) = (own_bytes oil oi0 oi1) then 1 else 0))]
            refine w.iload d0_378 rfl ?_
            refine w.icmpNe d0_380 d0_380t (fun q => absurd (if_neg (fun z => g1 (e1.mp z.1))) q) (fun _ => ?_)
            refine w.aload d0_383 rfl rfl ?_
            refine w.aload d0_385 rfl rfl ?_
            refine w.callV (argsL := [(.ref x1)]) (rest := []) 0 d0_387 (tw hw 118 rfl) (tw hw 119 rfl) (tw hw 121 rfl) (tw hw 120 rfl) (tw hw 41 rfl) (tw hw 122 rfl) (by decide) EE_x2 (rmE l Z a0 hw hr x2 x1 s3 s4 s1 s2 t_s3 t_s4 t_s1 t_s2 _ _ _ _ h0 w.old EE_x1 F0_x2 F1_x2 S_s3 S_s4 F0_x1 F1_x1 S_s1 S_s2) (lenOf pd_21 rfl) rfl rfl (Nat.le_refl _) ⟨by decide, by decide, by decide, by decide⟩ all0 ?_
            intro T h10 r w _ hQ
            obtain ⟨rfl, rfl⟩ := hQ
            show Go cx _ Z _ _ _ T 390 #[.val (.int va), .val (.int vb), .val (.int vc), .val (.int vd), .val (.int mo), .val (.int rcl), .val (.int ocl), .val (.int ril), .val (.int oil), .val (.int rc0), .val (.int rc1), .val (.int oc0), .val (.int oc1), .val (.int ri0), .val (.int ri1), .val (.int oi0), .val (.int oi1), .val (.ref s1), .val (.ref s2), .val (.ref s3), .val (.ref s4), .val (.ref x1), .val (.int kd), .val (.ref x2), .val (.int (0 : Int32)), .val (.int (1 : Int32)), .val (.int (0 : Int32))] [(.int (if (own_bytes ocl oc0 oc1) = (own_bytes rcl rc0 rc1) ∧ (own_bytes oil oi0 oi1) = (own_bytes ril ri0 ri1) then 1 else 0))]
            refine w.iload d0_390 rfl ?_
            refine w.icmpNe d0_392 d0_392t (fun q => absurd (if_neg (fun z => g1 (e1.mp z.1.symm))) q) (fun _ => ?_)
            refine w.iconst (1 : Int32) d0_395 rfl ?_
            refine w.goto d0_396 d0_396t ?_
            exact w.retN d0_400 rfl (by simp) rfl
  · refine w.iload d0_293 rfl ?_
    refine w.iload d0_295 rfl ?_
    refine w.icmpNe d0_297 d0_297t (fun b1 => ?_) (fun b1 => ?_)
    · refine w.iconst (0 : Int32) d0_317 rfl ?_
      refine w.istore #[.val (.int va), .val (.int vb), .val (.int vc), .val (.int vd), .val (.int mo), .val (.int rcl), .val (.int ocl), .val (.int ril), .val (.int oil), .val (.int rc0), .val (.int rc1), .val (.int oc0), .val (.int oc1), .val (.int ri0), .val (.int ri1), .val (.int oi0), .val (.int oi1), .val (.ref s1), .val (.ref s2), .val (.ref s3), .val (.ref s4), .val (.ref x1), .val (.int kd), .val (.ref x2), .val (.int (0 : Int32)), .unset, .unset] d0_318 rfl ?_
      refine w.iload d0_320 rfl ?_
      refine w.iload d0_322 rfl ?_
      have g1 : ¬ (rcl = ocl ∧ rc0 = oc0 ∧ (rcl = 1 ∨ rc1 = oc1)) := fun z => b1 z.2.1
      refine w.icmpNe d0_324 d0_324t (fun a2 => ?_) (fun a2 => ?_)
      · refine w.iconst (0 : Int32) d0_351 rfl ?_
        refine w.istore #[.val (.int va), .val (.int vb), .val (.int vc), .val (.int vd), .val (.int mo), .val (.int rcl), .val (.int ocl), .val (.int ril), .val (.int oil), .val (.int rc0), .val (.int rc1), .val (.int oc0), .val (.int oc1), .val (.int ri0), .val (.int ri1), .val (.int oi0), .val (.int oi1), .val (.ref s1), .val (.ref s2), .val (.ref s3), .val (.ref s4), .val (.ref x1), .val (.int kd), .val (.ref x2), .val (.int (0 : Int32)), .val (.int (0 : Int32)), .unset] d0_352 rfl ?_
        have g2 : ¬ (ril = oil ∧ ri0 = oi0 ∧ (ril = 1 ∨ ri1 = oi1)) := fun z => a2 z.1
        refine w.iload d0_354 rfl ?_
        refine w.ifEq d0_356 d0_356t (fun _ => ?_) (fun q => absurd rfl q)
        refine w.iconst (0 : Int32) d0_368 rfl ?_
        refine w.istore #[.val (.int va), .val (.int vb), .val (.int vc), .val (.int vd), .val (.int mo), .val (.int rcl), .val (.int ocl), .val (.int ril), .val (.int oil), .val (.int rc0), .val (.int rc1), .val (.int oc0), .val (.int oc1), .val (.int ri0), .val (.int ri1), .val (.int oi0), .val (.int oi1), .val (.ref s1), .val (.ref s2), .val (.ref s3), .val (.ref s4), .val (.ref x1), .val (.int kd), .val (.ref x2), .val (.int (0 : Int32)), .val (.int (0 : Int32)), .val (.int (0 : Int32))] d0_369 rfl ?_
        refine w.aload d0_371 rfl rfl ?_
        refine w.aload d0_373 rfl rfl ?_
        refine w.callV (argsL := [(.ref x2)]) (rest := []) 0 d0_375 (tw hw 118 rfl) (tw hw 119 rfl) (tw hw 121 rfl) (tw hw 120 rfl) (tw hw 41 rfl) (tw hw 122 rfl) (by decide) EE_x1 (rmE l Z a0 hw hr x1 x2 s1 s2 s3 s4 t_s1 t_s2 t_s3 t_s4 _ _ _ _ h0 w.old EE_x2 F0_x1 F1_x1 S_s1 S_s2 F0_x2 F1_x2 S_s3 S_s4) (lenOf pd_21 rfl) rfl rfl (Nat.le_refl _) ⟨by decide, by decide, by decide, by decide⟩ all0 ?_
        intro T h11 r w _ hQ
        obtain ⟨rfl, rfl⟩ := hQ
        show Go cx _ Z _ _ _ T 378 #[.val (.int va), .val (.int vb), .val (.int vc), .val (.int vd), .val (.int mo), .val (.int rcl), .val (.int ocl), .val (.int ril), .val (.int oil), .val (.int rc0), .val (.int rc1), .val (.int oc0), .val (.int oc1), .val (.int ri0), .val (.int ri1), .val (.int oi0), .val (.int oi1), .val (.ref s1), .val (.ref s2), .val (.ref s3), .val (.ref s4), .val (.ref x1), .val (.int kd), .val (.ref x2), .val (.int (0 : Int32)), .val (.int (0 : Int32)), .val (.int (0 : Int32))] [(.int (if (own_bytes rcl rc0 rc1) = (own_bytes ocl oc0 oc1) ∧ (own_bytes ril ri0 ri1) = (own_bytes oil oi0 oi1) then 1 else 0))]
        refine w.iload d0_378 rfl ?_
        refine w.icmpNe d0_380 d0_380t (fun q => absurd (if_neg (fun z => g1 (e1.mp z.1))) q) (fun _ => ?_)
        refine w.aload d0_383 rfl rfl ?_
        refine w.aload d0_385 rfl rfl ?_
        refine w.callV (argsL := [(.ref x1)]) (rest := []) 0 d0_387 (tw hw 118 rfl) (tw hw 119 rfl) (tw hw 121 rfl) (tw hw 120 rfl) (tw hw 41 rfl) (tw hw 122 rfl) (by decide) EE_x2 (rmE l Z a0 hw hr x2 x1 s3 s4 s1 s2 t_s3 t_s4 t_s1 t_s2 _ _ _ _ h0 w.old EE_x1 F0_x2 F1_x2 S_s3 S_s4 F0_x1 F1_x1 S_s1 S_s2) (lenOf pd_21 rfl) rfl rfl (Nat.le_refl _) ⟨by decide, by decide, by decide, by decide⟩ all0 ?_
        intro T h12 r w _ hQ
        obtain ⟨rfl, rfl⟩ := hQ
        show Go cx _ Z _ _ _ T 390 #[.val (.int va), .val (.int vb), .val (.int vc), .val (.int vd), .val (.int mo), .val (.int rcl), .val (.int ocl), .val (.int ril), .val (.int oil), .val (.int rc0), .val (.int rc1), .val (.int oc0), .val (.int oc1), .val (.int ri0), .val (.int ri1), .val (.int oi0), .val (.int oi1), .val (.ref s1), .val (.ref s2), .val (.ref s3), .val (.ref s4), .val (.ref x1), .val (.int kd), .val (.ref x2), .val (.int (0 : Int32)), .val (.int (0 : Int32)), .val (.int (0 : Int32))] [(.int (if (own_bytes ocl oc0 oc1) = (own_bytes rcl rc0 rc1) ∧ (own_bytes oil oi0 oi1) = (own_bytes ril ri0 ri1) then 1 else 0))]
        refine w.iload d0_390 rfl ?_
        refine w.icmpNe d0_392 d0_392t (fun q => absurd (if_neg (fun z => g1 (e1.mp z.1.symm))) q) (fun _ => ?_)
        refine w.iconst (1 : Int32) d0_395 rfl ?_
        refine w.goto d0_396 d0_396t ?_
        exact w.retN d0_400 rfl (by simp) rfl
      · refine w.iload d0_327 rfl ?_
        refine w.iload d0_329 rfl ?_
        refine w.icmpNe d0_331 d0_331t (fun b2 => ?_) (fun b2 => ?_)
        · refine w.iconst (0 : Int32) d0_351 rfl ?_
          refine w.istore #[.val (.int va), .val (.int vb), .val (.int vc), .val (.int vd), .val (.int mo), .val (.int rcl), .val (.int ocl), .val (.int ril), .val (.int oil), .val (.int rc0), .val (.int rc1), .val (.int oc0), .val (.int oc1), .val (.int ri0), .val (.int ri1), .val (.int oi0), .val (.int oi1), .val (.ref s1), .val (.ref s2), .val (.ref s3), .val (.ref s4), .val (.ref x1), .val (.int kd), .val (.ref x2), .val (.int (0 : Int32)), .val (.int (0 : Int32)), .unset] d0_352 rfl ?_
          have g2 : ¬ (ril = oil ∧ ri0 = oi0 ∧ (ril = 1 ∨ ri1 = oi1)) := fun z => b2 z.2.1
          refine w.iload d0_354 rfl ?_
          refine w.ifEq d0_356 d0_356t (fun _ => ?_) (fun q => absurd rfl q)
          refine w.iconst (0 : Int32) d0_368 rfl ?_
          refine w.istore #[.val (.int va), .val (.int vb), .val (.int vc), .val (.int vd), .val (.int mo), .val (.int rcl), .val (.int ocl), .val (.int ril), .val (.int oil), .val (.int rc0), .val (.int rc1), .val (.int oc0), .val (.int oc1), .val (.int ri0), .val (.int ri1), .val (.int oi0), .val (.int oi1), .val (.ref s1), .val (.ref s2), .val (.ref s3), .val (.ref s4), .val (.ref x1), .val (.int kd), .val (.ref x2), .val (.int (0 : Int32)), .val (.int (0 : Int32)), .val (.int (0 : Int32))] d0_369 rfl ?_
          refine w.aload d0_371 rfl rfl ?_
          refine w.aload d0_373 rfl rfl ?_
          refine w.callV (argsL := [(.ref x2)]) (rest := []) 0 d0_375 (tw hw 118 rfl) (tw hw 119 rfl) (tw hw 121 rfl) (tw hw 120 rfl) (tw hw 41 rfl) (tw hw 122 rfl) (by decide) EE_x1 (rmE l Z a0 hw hr x1 x2 s1 s2 s3 s4 t_s1 t_s2 t_s3 t_s4 _ _ _ _ h0 w.old EE_x2 F0_x1 F1_x1 S_s1 S_s2 F0_x2 F1_x2 S_s3 S_s4) (lenOf pd_21 rfl) rfl rfl (Nat.le_refl _) ⟨by decide, by decide, by decide, by decide⟩ all0 ?_
          intro T h13 r w _ hQ
          obtain ⟨rfl, rfl⟩ := hQ
          show Go cx _ Z _ _ _ T 378 #[.val (.int va), .val (.int vb), .val (.int vc), .val (.int vd), .val (.int mo), .val (.int rcl), .val (.int ocl), .val (.int ril), .val (.int oil), .val (.int rc0), .val (.int rc1), .val (.int oc0), .val (.int oc1), .val (.int ri0), .val (.int ri1), .val (.int oi0), .val (.int oi1), .val (.ref s1), .val (.ref s2), .val (.ref s3), .val (.ref s4), .val (.ref x1), .val (.int kd), .val (.ref x2), .val (.int (0 : Int32)), .val (.int (0 : Int32)), .val (.int (0 : Int32))] [(.int (if (own_bytes rcl rc0 rc1) = (own_bytes ocl oc0 oc1) ∧ (own_bytes ril ri0 ri1) = (own_bytes oil oi0 oi1) then 1 else 0))]
          refine w.iload d0_378 rfl ?_
          refine w.icmpNe d0_380 d0_380t (fun q => absurd (if_neg (fun z => g1 (e1.mp z.1))) q) (fun _ => ?_)
          refine w.aload d0_383 rfl rfl ?_
          refine w.aload d0_385 rfl rfl ?_
          refine w.callV (argsL := [(.ref x1)]) (rest := []) 0 d0_387 (tw hw 118 rfl) (tw hw 119 rfl) (tw hw 121 rfl) (tw hw 120 rfl) (tw hw 41 rfl) (tw hw 122 rfl) (by decide) EE_x2 (rmE l Z a0 hw hr x2 x1 s3 s4 s1 s2 t_s3 t_s4 t_s1 t_s2 _ _ _ _ h0 w.old EE_x1 F0_x2 F1_x2 S_s3 S_s4 F0_x1 F1_x1 S_s1 S_s2) (lenOf pd_21 rfl) rfl rfl (Nat.le_refl _) ⟨by decide, by decide, by decide, by decide⟩ all0 ?_
          intro T h14 r w _ hQ
          obtain ⟨rfl, rfl⟩ := hQ
          show Go cx _ Z _ _ _ T 390 #[.val (.int va), .val (.int vb), .val (.int vc), .val (.int vd), .val (.int mo), .val (.int rcl), .val (.int ocl), .val (.int ril), .val (.int oil), .val (.int rc0), .val (.int rc1), .val (.int oc0), .val (.int oc1), .val (.int ri0), .val (.int ri1), .val (.int oi0), .val (.int oi1), .val (.ref s1), .val (.ref s2), .val (.ref s3), .val (.ref s4), .val (.ref x1), .val (.int kd), .val (.ref x2), .val (.int (0 : Int32)), .val (.int (0 : Int32)), .val (.int (0 : Int32))] [(.int (if (own_bytes ocl oc0 oc1) = (own_bytes rcl rc0 rc1) ∧ (own_bytes oil oi0 oi1) = (own_bytes ril ri0 ri1) then 1 else 0))]
          refine w.iload d0_390 rfl ?_
          refine w.icmpNe d0_392 d0_392t (fun q => absurd (if_neg (fun z => g1 (e1.mp z.1.symm))) q) (fun _ => ?_)
          refine w.iconst (1 : Int32) d0_395 rfl ?_
          refine w.goto d0_396 d0_396t ?_
          exact w.retN d0_400 rfl (by simp) rfl
        · refine w.iload d0_334 rfl ?_
          refine w.iconst (1 : Int32) d0_336 rfl ?_
          refine w.icmpEq d0_337 d0_337t (fun c2 => ?_) (fun c2 => ?_)
          · refine w.iconst (1 : Int32) d0_347 rfl ?_
            refine w.goto d0_348 d0_348t ?_
            refine w.istore #[.val (.int va), .val (.int vb), .val (.int vc), .val (.int vd), .val (.int mo), .val (.int rcl), .val (.int ocl), .val (.int ril), .val (.int oil), .val (.int rc0), .val (.int rc1), .val (.int oc0), .val (.int oc1), .val (.int ri0), .val (.int ri1), .val (.int oi0), .val (.int oi1), .val (.ref s1), .val (.ref s2), .val (.ref s3), .val (.ref s4), .val (.ref x1), .val (.int kd), .val (.ref x2), .val (.int (0 : Int32)), .val (.int (1 : Int32)), .unset] d0_352 rfl ?_
            have g2 : ril = oil ∧ ri0 = oi0 ∧ (ril = 1 ∨ ri1 = oi1) := ⟨a2, b2, Or.inl c2⟩
            refine w.iload d0_354 rfl ?_
            refine w.ifEq d0_356 d0_356t (fun _ => ?_) (fun q => absurd rfl q)
            refine w.iconst (0 : Int32) d0_368 rfl ?_
            refine w.istore #[.val (.int va), .val (.int vb), .val (.int vc), .val (.int vd), .val (.int mo), .val (.int rcl), .val (.int ocl), .val (.int ril), .val (.int oil), .val (.int rc0), .val (.int rc1), .val (.int oc0), .val (.int oc1), .val (.int ri0), .val (.int ri1), .val (.int oi0), .val (.int oi1), .val (.ref s1), .val (.ref s2), .val (.ref s3), .val (.ref s4), .val (.ref x1), .val (.int kd), .val (.ref x2), .val (.int (0 : Int32)), .val (.int (1 : Int32)), .val (.int (0 : Int32))] d0_369 rfl ?_
            refine w.aload d0_371 rfl rfl ?_
            refine w.aload d0_373 rfl rfl ?_
            refine w.callV (argsL := [(.ref x2)]) (rest := []) 0 d0_375 (tw hw 118 rfl) (tw hw 119 rfl) (tw hw 121 rfl) (tw hw 120 rfl) (tw hw 41 rfl) (tw hw 122 rfl) (by decide) EE_x1 (rmE l Z a0 hw hr x1 x2 s1 s2 s3 s4 t_s1 t_s2 t_s3 t_s4 _ _ _ _ h0 w.old EE_x2 F0_x1 F1_x1 S_s1 S_s2 F0_x2 F1_x2 S_s3 S_s4) (lenOf pd_21 rfl) rfl rfl (Nat.le_refl _) ⟨by decide, by decide, by decide, by decide⟩ all0 ?_
            intro T h15 r w _ hQ
            obtain ⟨rfl, rfl⟩ := hQ
            show Go cx _ Z _ _ _ T 378 #[.val (.int va), .val (.int vb), .val (.int vc), .val (.int vd), .val (.int mo), .val (.int rcl), .val (.int ocl), .val (.int ril), .val (.int oil), .val (.int rc0), .val (.int rc1), .val (.int oc0), .val (.int oc1), .val (.int ri0), .val (.int ri1), .val (.int oi0), .val (.int oi1), .val (.ref s1), .val (.ref s2), .val (.ref s3), .val (.ref s4), .val (.ref x1), .val (.int kd), .val (.ref x2), .val (.int (0 : Int32)), .val (.int (1 : Int32)), .val (.int (0 : Int32))] [(.int (if (own_bytes rcl rc0 rc1) = (own_bytes ocl oc0 oc1) ∧ (own_bytes ril ri0 ri1) = (own_bytes oil oi0 oi1) then 1 else 0))]
            refine w.iload d0_378 rfl ?_
            refine w.icmpNe d0_380 d0_380t (fun q => absurd (if_neg (fun z => g1 (e1.mp z.1))) q) (fun _ => ?_)
            refine w.aload d0_383 rfl rfl ?_
            refine w.aload d0_385 rfl rfl ?_
            refine w.callV (argsL := [(.ref x1)]) (rest := []) 0 d0_387 (tw hw 118 rfl) (tw hw 119 rfl) (tw hw 121 rfl) (tw hw 120 rfl) (tw hw 41 rfl) (tw hw 122 rfl) (by decide) EE_x2 (rmE l Z a0 hw hr x2 x1 s3 s4 s1 s2 t_s3 t_s4 t_s1 t_s2 _ _ _ _ h0 w.old EE_x1 F0_x2 F1_x2 S_s3 S_s4 F0_x1 F1_x1 S_s1 S_s2) (lenOf pd_21 rfl) rfl rfl (Nat.le_refl _) ⟨by decide, by decide, by decide, by decide⟩ all0 ?_
            intro T h16 r w _ hQ
            obtain ⟨rfl, rfl⟩ := hQ
            show Go cx _ Z _ _ _ T 390 #[.val (.int va), .val (.int vb), .val (.int vc), .val (.int vd), .val (.int mo), .val (.int rcl), .val (.int ocl), .val (.int ril), .val (.int oil), .val (.int rc0), .val (.int rc1), .val (.int oc0), .val (.int oc1), .val (.int ri0), .val (.int ri1), .val (.int oi0), .val (.int oi1), .val (.ref s1), .val (.ref s2), .val (.ref s3), .val (.ref s4), .val (.ref x1), .val (.int kd), .val (.ref x2), .val (.int (0 : Int32)), .val (.int (1 : Int32)), .val (.int (0 : Int32))] [(.int (if (own_bytes ocl oc0 oc1) = (own_bytes rcl rc0 rc1) ∧ (own_bytes oil oi0 oi1) = (own_bytes ril ri0 ri1) then 1 else 0))]
            refine w.iload d0_390 rfl ?_
            refine w.icmpNe d0_392 d0_392t (fun q => absurd (if_neg (fun z => g1 (e1.mp z.1.symm))) q) (fun _ => ?_)
            refine w.iconst (1 : Int32) d0_395 rfl ?_
            refine w.goto d0_396 d0_396t ?_
            exact w.retN d0_400 rfl (by simp) rfl
          · refine w.iload d0_340 rfl ?_
            refine w.iload d0_342 rfl ?_
            refine w.icmpNe d0_344 d0_344t (fun d2 => ?_) (fun d2 => ?_)
            · refine w.iconst (0 : Int32) d0_351 rfl ?_
              refine w.istore #[.val (.int va), .val (.int vb), .val (.int vc), .val (.int vd), .val (.int mo), .val (.int rcl), .val (.int ocl), .val (.int ril), .val (.int oil), .val (.int rc0), .val (.int rc1), .val (.int oc0), .val (.int oc1), .val (.int ri0), .val (.int ri1), .val (.int oi0), .val (.int oi1), .val (.ref s1), .val (.ref s2), .val (.ref s3), .val (.ref s4), .val (.ref x1), .val (.int kd), .val (.ref x2), .val (.int (0 : Int32)), .val (.int (0 : Int32)), .unset] d0_352 rfl ?_
              have g2 : ¬ (ril = oil ∧ ri0 = oi0 ∧ (ril = 1 ∨ ri1 = oi1)) := fun z => z.2.2.elim c2 d2
              refine w.iload d0_354 rfl ?_
              refine w.ifEq d0_356 d0_356t (fun _ => ?_) (fun q => absurd rfl q)
              refine w.iconst (0 : Int32) d0_368 rfl ?_
              refine w.istore #[.val (.int va), .val (.int vb), .val (.int vc), .val (.int vd), .val (.int mo), .val (.int rcl), .val (.int ocl), .val (.int ril), .val (.int oil), .val (.int rc0), .val (.int rc1), .val (.int oc0), .val (.int oc1), .val (.int ri0), .val (.int ri1), .val (.int oi0), .val (.int oi1), .val (.ref s1), .val (.ref s2), .val (.ref s3), .val (.ref s4), .val (.ref x1), .val (.int kd), .val (.ref x2), .val (.int (0 : Int32)), .val (.int (0 : Int32)), .val (.int (0 : Int32))] d0_369 rfl ?_
              refine w.aload d0_371 rfl rfl ?_
              refine w.aload d0_373 rfl rfl ?_
              refine w.callV (argsL := [(.ref x2)]) (rest := []) 0 d0_375 (tw hw 118 rfl) (tw hw 119 rfl) (tw hw 121 rfl) (tw hw 120 rfl) (tw hw 41 rfl) (tw hw 122 rfl) (by decide) EE_x1 (rmE l Z a0 hw hr x1 x2 s1 s2 s3 s4 t_s1 t_s2 t_s3 t_s4 _ _ _ _ h0 w.old EE_x2 F0_x1 F1_x1 S_s1 S_s2 F0_x2 F1_x2 S_s3 S_s4) (lenOf pd_21 rfl) rfl rfl (Nat.le_refl _) ⟨by decide, by decide, by decide, by decide⟩ all0 ?_
              intro T h17 r w _ hQ
              obtain ⟨rfl, rfl⟩ := hQ
              show Go cx _ Z _ _ _ T 378 #[.val (.int va), .val (.int vb), .val (.int vc), .val (.int vd), .val (.int mo), .val (.int rcl), .val (.int ocl), .val (.int ril), .val (.int oil), .val (.int rc0), .val (.int rc1), .val (.int oc0), .val (.int oc1), .val (.int ri0), .val (.int ri1), .val (.int oi0), .val (.int oi1), .val (.ref s1), .val (.ref s2), .val (.ref s3), .val (.ref s4), .val (.ref x1), .val (.int kd), .val (.ref x2), .val (.int (0 : Int32)), .val (.int (0 : Int32)), .val (.int (0 : Int32))] [(.int (if (own_bytes rcl rc0 rc1) = (own_bytes ocl oc0 oc1) ∧ (own_bytes ril ri0 ri1) = (own_bytes oil oi0 oi1) then 1 else 0))]
              refine w.iload d0_378 rfl ?_
              refine w.icmpNe d0_380 d0_380t (fun q => absurd (if_neg (fun z => g1 (e1.mp z.1))) q) (fun _ => ?_)
              refine w.aload d0_383 rfl rfl ?_
              refine w.aload d0_385 rfl rfl ?_
              refine w.callV (argsL := [(.ref x1)]) (rest := []) 0 d0_387 (tw hw 118 rfl) (tw hw 119 rfl) (tw hw 121 rfl) (tw hw 120 rfl) (tw hw 41 rfl) (tw hw 122 rfl) (by decide) EE_x2 (rmE l Z a0 hw hr x2 x1 s3 s4 s1 s2 t_s3 t_s4 t_s1 t_s2 _ _ _ _ h0 w.old EE_x1 F0_x2 F1_x2 S_s3 S_s4 F0_x1 F1_x1 S_s1 S_s2) (lenOf pd_21 rfl) rfl rfl (Nat.le_refl _) ⟨by decide, by decide, by decide, by decide⟩ all0 ?_
              intro T h18 r w _ hQ
              obtain ⟨rfl, rfl⟩ := hQ
              show Go cx _ Z _ _ _ T 390 #[.val (.int va), .val (.int vb), .val (.int vc), .val (.int vd), .val (.int mo), .val (.int rcl), .val (.int ocl), .val (.int ril), .val (.int oil), .val (.int rc0), .val (.int rc1), .val (.int oc0), .val (.int oc1), .val (.int ri0), .val (.int ri1), .val (.int oi0), .val (.int oi1), .val (.ref s1), .val (.ref s2), .val (.ref s3), .val (.ref s4), .val (.ref x1), .val (.int kd), .val (.ref x2), .val (.int (0 : Int32)), .val (.int (0 : Int32)), .val (.int (0 : Int32))] [(.int (if (own_bytes ocl oc0 oc1) = (own_bytes rcl rc0 rc1) ∧ (own_bytes oil oi0 oi1) = (own_bytes ril ri0 ri1) then 1 else 0))]
              refine w.iload d0_390 rfl ?_
              refine w.icmpNe d0_392 d0_392t (fun q => absurd (if_neg (fun z => g1 (e1.mp z.1.symm))) q) (fun _ => ?_)
              refine w.iconst (1 : Int32) d0_395 rfl ?_
              refine w.goto d0_396 d0_396t ?_
              exact w.retN d0_400 rfl (by simp) rfl
            · refine w.iconst (1 : Int32) d0_347 rfl ?_
              refine w.goto d0_348 d0_348t ?_
              refine w.istore #[.val (.int va), .val (.int vb), .val (.int vc), .val (.int vd), .val (.int mo), .val (.int rcl), .val (.int ocl), .val (.int ril), .val (.int oil), .val (.int rc0), .val (.int rc1), .val (.int oc0), .val (.int oc1), .val (.int ri0), .val (.int ri1), .val (.int oi0), .val (.int oi1), .val (.ref s1), .val (.ref s2), .val (.ref s3), .val (.ref s4), .val (.ref x1), .val (.int kd), .val (.ref x2), .val (.int (0 : Int32)), .val (.int (1 : Int32)), .unset] d0_352 rfl ?_
              have g2 : ril = oil ∧ ri0 = oi0 ∧ (ril = 1 ∨ ri1 = oi1) := ⟨a2, b2, Or.inr d2⟩
              refine w.iload d0_354 rfl ?_
              refine w.ifEq d0_356 d0_356t (fun _ => ?_) (fun q => absurd rfl q)
              refine w.iconst (0 : Int32) d0_368 rfl ?_
              refine w.istore #[.val (.int va), .val (.int vb), .val (.int vc), .val (.int vd), .val (.int mo), .val (.int rcl), .val (.int ocl), .val (.int ril), .val (.int oil), .val (.int rc0), .val (.int rc1), .val (.int oc0), .val (.int oc1), .val (.int ri0), .val (.int ri1), .val (.int oi0), .val (.int oi1), .val (.ref s1), .val (.ref s2), .val (.ref s3), .val (.ref s4), .val (.ref x1), .val (.int kd), .val (.ref x2), .val (.int (0 : Int32)), .val (.int (1 : Int32)), .val (.int (0 : Int32))] d0_369 rfl ?_
              refine w.aload d0_371 rfl rfl ?_
              refine w.aload d0_373 rfl rfl ?_
              refine w.callV (argsL := [(.ref x2)]) (rest := []) 0 d0_375 (tw hw 118 rfl) (tw hw 119 rfl) (tw hw 121 rfl) (tw hw 120 rfl) (tw hw 41 rfl) (tw hw 122 rfl) (by decide) EE_x1 (rmE l Z a0 hw hr x1 x2 s1 s2 s3 s4 t_s1 t_s2 t_s3 t_s4 _ _ _ _ h0 w.old EE_x2 F0_x1 F1_x1 S_s1 S_s2 F0_x2 F1_x2 S_s3 S_s4) (lenOf pd_21 rfl) rfl rfl (Nat.le_refl _) ⟨by decide, by decide, by decide, by decide⟩ all0 ?_
              intro T h19 r w _ hQ
              obtain ⟨rfl, rfl⟩ := hQ
              show Go cx _ Z _ _ _ T 378 #[.val (.int va), .val (.int vb), .val (.int vc), .val (.int vd), .val (.int mo), .val (.int rcl), .val (.int ocl), .val (.int ril), .val (.int oil), .val (.int rc0), .val (.int rc1), .val (.int oc0), .val (.int oc1), .val (.int ri0), .val (.int ri1), .val (.int oi0), .val (.int oi1), .val (.ref s1), .val (.ref s2), .val (.ref s3), .val (.ref s4), .val (.ref x1), .val (.int kd), .val (.ref x2), .val (.int (0 : Int32)), .val (.int (1 : Int32)), .val (.int (0 : Int32))] [(.int (if (own_bytes rcl rc0 rc1) = (own_bytes ocl oc0 oc1) ∧ (own_bytes ril ri0 ri1) = (own_bytes oil oi0 oi1) then 1 else 0))]
              refine w.iload d0_378 rfl ?_
              refine w.icmpNe d0_380 d0_380t (fun q => absurd (if_neg (fun z => g1 (e1.mp z.1))) q) (fun _ => ?_)
              refine w.aload d0_383 rfl rfl ?_
              refine w.aload d0_385 rfl rfl ?_
              refine w.callV (argsL := [(.ref x1)]) (rest := []) 0 d0_387 (tw hw 118 rfl) (tw hw 119 rfl) (tw hw 121 rfl) (tw hw 120 rfl) (tw hw 41 rfl) (tw hw 122 rfl) (by decide) EE_x2 (rmE l Z a0 hw hr x2 x1 s3 s4 s1 s2 t_s3 t_s4 t_s1 t_s2 _ _ _ _ h0 w.old EE_x1 F0_x2 F1_x2 S_s3 S_s4 F0_x1 F1_x1 S_s1 S_s2) (lenOf pd_21 rfl) rfl rfl (Nat.le_refl _) ⟨by decide, by decide, by decide, by decide⟩ all0 ?_
              intro T h20 r w _ hQ
              obtain ⟨rfl, rfl⟩ := hQ
              show Go cx _ Z _ _ _ T 390 #[.val (.int va), .val (.int vb), .val (.int vc), .val (.int vd), .val (.int mo), .val (.int rcl), .val (.int ocl), .val (.int ril), .val (.int oil), .val (.int rc0), .val (.int rc1), .val (.int oc0), .val (.int oc1), .val (.int ri0), .val (.int ri1), .val (.int oi0), .val (.int oi1), .val (.ref s1), .val (.ref s2), .val (.ref s3), .val (.ref s4), .val (.ref x1), .val (.int kd), .val (.ref x2), .val (.int (0 : Int32)), .val (.int (1 : Int32)), .val (.int (0 : Int32))] [(.int (if (own_bytes ocl oc0 oc1) = (own_bytes rcl rc0 rc1) ∧ (own_bytes oil oi0 oi1) = (own_bytes ril ri0 ri1) then 1 else 0))]
              refine w.iload d0_390 rfl ?_
              refine w.icmpNe d0_392 d0_392t (fun q => absurd (if_neg (fun z => g1 (e1.mp z.1.symm))) q) (fun _ => ?_)
              refine w.iconst (1 : Int32) d0_395 rfl ?_
              refine w.goto d0_396 d0_396t ?_
              exact w.retN d0_400 rfl (by simp) rfl
    · refine w.iload d0_300 rfl ?_
      refine w.iconst (1 : Int32) d0_302 rfl ?_
      refine w.icmpEq d0_303 d0_303t (fun c1 => ?_) (fun c1 => ?_)
      · refine w.iconst (1 : Int32) d0_313 rfl ?_
        refine w.goto d0_314 d0_314t ?_
        refine w.istore #[.val (.int va), .val (.int vb), .val (.int vc), .val (.int vd), .val (.int mo), .val (.int rcl), .val (.int ocl), .val (.int ril), .val (.int oil), .val (.int rc0), .val (.int rc1), .val (.int oc0), .val (.int oc1), .val (.int ri0), .val (.int ri1), .val (.int oi0), .val (.int oi1), .val (.ref s1), .val (.ref s2), .val (.ref s3), .val (.ref s4), .val (.ref x1), .val (.int kd), .val (.ref x2), .val (.int (1 : Int32)), .unset, .unset] d0_318 rfl ?_
        refine w.iload d0_320 rfl ?_
        refine w.iload d0_322 rfl ?_
        have g1 : rcl = ocl ∧ rc0 = oc0 ∧ (rcl = 1 ∨ rc1 = oc1) := ⟨a1, b1, Or.inl c1⟩
        refine w.icmpNe d0_324 d0_324t (fun a2 => ?_) (fun a2 => ?_)
        · refine w.iconst (0 : Int32) d0_351 rfl ?_
          refine w.istore #[.val (.int va), .val (.int vb), .val (.int vc), .val (.int vd), .val (.int mo), .val (.int rcl), .val (.int ocl), .val (.int ril), .val (.int oil), .val (.int rc0), .val (.int rc1), .val (.int oc0), .val (.int oc1), .val (.int ri0), .val (.int ri1), .val (.int oi0), .val (.int oi1), .val (.ref s1), .val (.ref s2), .val (.ref s3), .val (.ref s4), .val (.ref x1), .val (.int kd), .val (.ref x2), .val (.int (1 : Int32)), .val (.int (0 : Int32)), .unset] d0_352 rfl ?_
          have g2 : ¬ (ril = oil ∧ ri0 = oi0 ∧ (ril = 1 ∨ ri1 = oi1)) := fun z => a2 z.1
          refine w.iload d0_354 rfl ?_
          refine w.ifEq d0_356 d0_356t (fun q => absurd q (by decide)) (fun _ => ?_)
          refine w.iload d0_359 rfl ?_
          refine w.ifEq d0_361 d0_361t (fun _ => ?_) (fun q => absurd rfl q)
          refine w.iconst (0 : Int32) d0_368 rfl ?_
          refine w.istore #[.val (.int va), .val (.int vb), .val (.int vc), .val (.int vd), .val (.int mo), .val (.int rcl), .val (.int ocl), .val (.int ril), .val (.int oil), .val (.int rc0), .val (.int rc1), .val (.int oc0), .val (.int oc1), .val (.int ri0), .val (.int ri1), .val (.int oi0), .val (.int oi1), .val (.ref s1), .val (.ref s2), .val (.ref s3), .val (.ref s4), .val (.ref x1), .val (.int kd), .val (.ref x2), .val (.int (1 : Int32)), .val (.int (0 : Int32)), .val (.int (0 : Int32))] d0_369 rfl ?_
          refine w.aload d0_371 rfl rfl ?_
          refine w.aload d0_373 rfl rfl ?_
          refine w.callV (argsL := [(.ref x2)]) (rest := []) 0 d0_375 (tw hw 118 rfl) (tw hw 119 rfl) (tw hw 121 rfl) (tw hw 120 rfl) (tw hw 41 rfl) (tw hw 122 rfl) (by decide) EE_x1 (rmE l Z a0 hw hr x1 x2 s1 s2 s3 s4 t_s1 t_s2 t_s3 t_s4 _ _ _ _ h0 w.old EE_x2 F0_x1 F1_x1 S_s1 S_s2 F0_x2 F1_x2 S_s3 S_s4) (lenOf pd_21 rfl) rfl rfl (Nat.le_refl _) ⟨by decide, by decide, by decide, by decide⟩ all0 ?_
          intro T h21 r w _ hQ
          obtain ⟨rfl, rfl⟩ := hQ
          show Go cx _ Z _ _ _ T 378 #[.val (.int va), .val (.int vb), .val (.int vc), .val (.int vd), .val (.int mo), .val (.int rcl), .val (.int ocl), .val (.int ril), .val (.int oil), .val (.int rc0), .val (.int rc1), .val (.int oc0), .val (.int oc1), .val (.int ri0), .val (.int ri1), .val (.int oi0), .val (.int oi1), .val (.ref s1), .val (.ref s2), .val (.ref s3), .val (.ref s4), .val (.ref x1), .val (.int kd), .val (.ref x2), .val (.int (1 : Int32)), .val (.int (0 : Int32)), .val (.int (0 : Int32))] [(.int (if (own_bytes rcl rc0 rc1) = (own_bytes ocl oc0 oc1) ∧ (own_bytes ril ri0 ri1) = (own_bytes oil oi0 oi1) then 1 else 0))]
          refine w.iload d0_378 rfl ?_
          refine w.icmpNe d0_380 d0_380t (fun q => absurd (if_neg (fun z => g2 (e2.mp z.2))) q) (fun _ => ?_)
          refine w.aload d0_383 rfl rfl ?_
          refine w.aload d0_385 rfl rfl ?_
          refine w.callV (argsL := [(.ref x1)]) (rest := []) 0 d0_387 (tw hw 118 rfl) (tw hw 119 rfl) (tw hw 121 rfl) (tw hw 120 rfl) (tw hw 41 rfl) (tw hw 122 rfl) (by decide) EE_x2 (rmE l Z a0 hw hr x2 x1 s3 s4 s1 s2 t_s3 t_s4 t_s1 t_s2 _ _ _ _ h0 w.old EE_x1 F0_x2 F1_x2 S_s3 S_s4 F0_x1 F1_x1 S_s1 S_s2) (lenOf pd_21 rfl) rfl rfl (Nat.le_refl _) ⟨by decide, by decide, by decide, by decide⟩ all0 ?_
          intro T h22 r w _ hQ
          obtain ⟨rfl, rfl⟩ := hQ
          show Go cx _ Z _ _ _ T 390 #[.val (.int va), .val (.int vb), .val (.int vc), .val (.int vd), .val (.int mo), .val (.int rcl), .val (.int ocl), .val (.int ril), .val (.int oil), .val (.int rc0), .val (.int rc1), .val (.int oc0), .val (.int oc1), .val (.int ri0), .val (.int ri1), .val (.int oi0), .val (.int oi1), .val (.ref s1), .val (.ref s2), .val (.ref s3), .val (.ref s4), .val (.ref x1), .val (.int kd), .val (.ref x2), .val (.int (1 : Int32)), .val (.int (0 : Int32)), .val (.int (0 : Int32))] [(.int (if (own_bytes ocl oc0 oc1) = (own_bytes rcl rc0 rc1) ∧ (own_bytes oil oi0 oi1) = (own_bytes ril ri0 ri1) then 1 else 0))]
          refine w.iload d0_390 rfl ?_
          refine w.icmpNe d0_392 d0_392t (fun q => absurd (if_neg (fun z => g2 (e2.mp z.2.symm))) q) (fun _ => ?_)
          refine w.iconst (1 : Int32) d0_395 rfl ?_
          refine w.goto d0_396 d0_396t ?_
          exact w.retN d0_400 rfl (by simp) rfl
        · refine w.iload d0_327 rfl ?_
          refine w.iload d0_329 rfl ?_
          refine w.icmpNe d0_331 d0_331t (fun b2 => ?_) (fun b2 => ?_)
          · refine w.iconst (0 : Int32) d0_351 rfl ?_
            refine w.istore #[.val (.int va), .val (.int vb), .val (.int vc), .val (.int vd), .val (.int mo), .val (.int rcl), .val (.int ocl), .val (.int ril), .val (.int oil), .val (.int rc0), .val (.int rc1), .val (.int oc0), .val (.int oc1), .val (.int ri0), .val (.int ri1), .val (.int oi0), .val (.int oi1), .val (.ref s1), .val (.ref s2), .val (.ref s3), .val (.ref s4), .val (.ref x1), .val (.int kd), .val (.ref x2), .val (.int (1 : Int32)), .val (.int (0 : Int32)), .unset] d0_352 rfl ?_
            have g2 : ¬ (ril = oil ∧ ri0 = oi0 ∧ (ril = 1 ∨ ri1 = oi1)) := fun z => b2 z.2.1
            refine w.iload d0_354 rfl ?_
            refine w.ifEq d0_356 d0_356t (fun q => absurd q (by decide)) (fun _ => ?_)
            refine w.iload d0_359 rfl ?_
            refine w.ifEq d0_361 d0_361t (fun _ => ?_) (fun q => absurd rfl q)
            refine w.iconst (0 : Int32) d0_368 rfl ?_
            refine w.istore #[.val (.int va), .val (.int vb), .val (.int vc), .val (.int vd), .val (.int mo), .val (.int rcl), .val (.int ocl), .val (.int ril), .val (.int oil), .val (.int rc0), .val (.int rc1), .val (.int oc0), .val (.int oc1), .val (.int ri0), .val (.int ri1), .val (.int oi0), .val (.int oi1), .val (.ref s1), .val (.ref s2), .val (.ref s3), .val (.ref s4), .val (.ref x1), .val (.int kd), .val (.ref x2), .val (.int (1 : Int32)), .val (.int (0 : Int32)), .val (.int (0 : Int32))] d0_369 rfl ?_
            refine w.aload d0_371 rfl rfl ?_
            refine w.aload d0_373 rfl rfl ?_
            refine w.callV (argsL := [(.ref x2)]) (rest := []) 0 d0_375 (tw hw 118 rfl) (tw hw 119 rfl) (tw hw 121 rfl) (tw hw 120 rfl) (tw hw 41 rfl) (tw hw 122 rfl) (by decide) EE_x1 (rmE l Z a0 hw hr x1 x2 s1 s2 s3 s4 t_s1 t_s2 t_s3 t_s4 _ _ _ _ h0 w.old EE_x2 F0_x1 F1_x1 S_s1 S_s2 F0_x2 F1_x2 S_s3 S_s4) (lenOf pd_21 rfl) rfl rfl (Nat.le_refl _) ⟨by decide, by decide, by decide, by decide⟩ all0 ?_
            intro T h23 r w _ hQ
            obtain ⟨rfl, rfl⟩ := hQ
            show Go cx _ Z _ _ _ T 378 #[.val (.int va), .val (.int vb), .val (.int vc), .val (.int vd), .val (.int mo), .val (.int rcl), .val (.int ocl), .val (.int ril), .val (.int oil), .val (.int rc0), .val (.int rc1), .val (.int oc0), .val (.int oc1), .val (.int ri0), .val (.int ri1), .val (.int oi0), .val (.int oi1), .val (.ref s1), .val (.ref s2), .val (.ref s3), .val (.ref s4), .val (.ref x1), .val (.int kd), .val (.ref x2), .val (.int (1 : Int32)), .val (.int (0 : Int32)), .val (.int (0 : Int32))] [(.int (if (own_bytes rcl rc0 rc1) = (own_bytes ocl oc0 oc1) ∧ (own_bytes ril ri0 ri1) = (own_bytes oil oi0 oi1) then 1 else 0))]
            refine w.iload d0_378 rfl ?_
            refine w.icmpNe d0_380 d0_380t (fun q => absurd (if_neg (fun z => g2 (e2.mp z.2))) q) (fun _ => ?_)
            refine w.aload d0_383 rfl rfl ?_
            refine w.aload d0_385 rfl rfl ?_
            refine w.callV (argsL := [(.ref x1)]) (rest := []) 0 d0_387 (tw hw 118 rfl) (tw hw 119 rfl) (tw hw 121 rfl) (tw hw 120 rfl) (tw hw 41 rfl) (tw hw 122 rfl) (by decide) EE_x2 (rmE l Z a0 hw hr x2 x1 s3 s4 s1 s2 t_s3 t_s4 t_s1 t_s2 _ _ _ _ h0 w.old EE_x1 F0_x2 F1_x2 S_s3 S_s4 F0_x1 F1_x1 S_s1 S_s2) (lenOf pd_21 rfl) rfl rfl (Nat.le_refl _) ⟨by decide, by decide, by decide, by decide⟩ all0 ?_
            intro T h24 r w _ hQ
            obtain ⟨rfl, rfl⟩ := hQ
            show Go cx _ Z _ _ _ T 390 #[.val (.int va), .val (.int vb), .val (.int vc), .val (.int vd), .val (.int mo), .val (.int rcl), .val (.int ocl), .val (.int ril), .val (.int oil), .val (.int rc0), .val (.int rc1), .val (.int oc0), .val (.int oc1), .val (.int ri0), .val (.int ri1), .val (.int oi0), .val (.int oi1), .val (.ref s1), .val (.ref s2), .val (.ref s3), .val (.ref s4), .val (.ref x1), .val (.int kd), .val (.ref x2), .val (.int (1 : Int32)), .val (.int (0 : Int32)), .val (.int (0 : Int32))] [(.int (if (own_bytes ocl oc0 oc1) = (own_bytes rcl rc0 rc1) ∧ (own_bytes oil oi0 oi1) = (own_bytes ril ri0 ri1) then 1 else 0))]
            refine w.iload d0_390 rfl ?_
            refine w.icmpNe d0_392 d0_392t (fun q => absurd (if_neg (fun z => g2 (e2.mp z.2.symm))) q) (fun _ => ?_)
            refine w.iconst (1 : Int32) d0_395 rfl ?_
            refine w.goto d0_396 d0_396t ?_
            exact w.retN d0_400 rfl (by simp) rfl
          · refine w.iload d0_334 rfl ?_
            refine w.iconst (1 : Int32) d0_336 rfl ?_
            refine w.icmpEq d0_337 d0_337t (fun c2 => ?_) (fun c2 => ?_)
            · refine w.iconst (1 : Int32) d0_347 rfl ?_
              refine w.goto d0_348 d0_348t ?_
              refine w.istore #[.val (.int va), .val (.int vb), .val (.int vc), .val (.int vd), .val (.int mo), .val (.int rcl), .val (.int ocl), .val (.int ril), .val (.int oil), .val (.int rc0), .val (.int rc1), .val (.int oc0), .val (.int oc1), .val (.int ri0), .val (.int ri1), .val (.int oi0), .val (.int oi1), .val (.ref s1), .val (.ref s2), .val (.ref s3), .val (.ref s4), .val (.ref x1), .val (.int kd), .val (.ref x2), .val (.int (1 : Int32)), .val (.int (1 : Int32)), .unset] d0_352 rfl ?_
              have g2 : ril = oil ∧ ri0 = oi0 ∧ (ril = 1 ∨ ri1 = oi1) := ⟨a2, b2, Or.inl c2⟩
              refine w.iload d0_354 rfl ?_
              refine w.ifEq d0_356 d0_356t (fun q => absurd q (by decide)) (fun _ => ?_)
              refine w.iload d0_359 rfl ?_
              refine w.ifEq d0_361 d0_361t (fun q => absurd q (by decide)) (fun _ => ?_)
              refine w.iconst (1 : Int32) d0_364 rfl ?_
              refine w.goto d0_365 d0_365t ?_
              refine w.istore #[.val (.int va), .val (.int vb), .val (.int vc), .val (.int vd), .val (.int mo), .val (.int rcl), .val (.int ocl), .val (.int ril), .val (.int oil), .val (.int rc0), .val (.int rc1), .val (.int oc0), .val (.int oc1), .val (.int ri0), .val (.int ri1), .val (.int oi0), .val (.int oi1), .val (.ref s1), .val (.ref s2), .val (.ref s3), .val (.ref s4), .val (.ref x1), .val (.int kd), .val (.ref x2), .val (.int (1 : Int32)), .val (.int (1 : Int32)), .val (.int (1 : Int32))] d0_369 rfl ?_
              refine w.aload d0_371 rfl rfl ?_
              refine w.aload d0_373 rfl rfl ?_
              refine w.callV (argsL := [(.ref x2)]) (rest := []) 0 d0_375 (tw hw 118 rfl) (tw hw 119 rfl) (tw hw 121 rfl) (tw hw 120 rfl) (tw hw 41 rfl) (tw hw 122 rfl) (by decide) EE_x1 (rmE l Z a0 hw hr x1 x2 s1 s2 s3 s4 t_s1 t_s2 t_s3 t_s4 _ _ _ _ h0 w.old EE_x2 F0_x1 F1_x1 S_s1 S_s2 F0_x2 F1_x2 S_s3 S_s4) (lenOf pd_21 rfl) rfl rfl (Nat.le_refl _) ⟨by decide, by decide, by decide, by decide⟩ all0 ?_
              intro T h25 r w _ hQ
              obtain ⟨rfl, rfl⟩ := hQ
              show Go cx _ Z _ _ _ T 378 #[.val (.int va), .val (.int vb), .val (.int vc), .val (.int vd), .val (.int mo), .val (.int rcl), .val (.int ocl), .val (.int ril), .val (.int oil), .val (.int rc0), .val (.int rc1), .val (.int oc0), .val (.int oc1), .val (.int ri0), .val (.int ri1), .val (.int oi0), .val (.int oi1), .val (.ref s1), .val (.ref s2), .val (.ref s3), .val (.ref s4), .val (.ref x1), .val (.int kd), .val (.ref x2), .val (.int (1 : Int32)), .val (.int (1 : Int32)), .val (.int (1 : Int32))] [(.int (if (own_bytes rcl rc0 rc1) = (own_bytes ocl oc0 oc1) ∧ (own_bytes ril ri0 ri1) = (own_bytes oil oi0 oi1) then 1 else 0))]
              refine w.iload d0_378 rfl ?_
              refine w.icmpNe d0_380 d0_380t (fun q => absurd (if_pos ⟨e1.mpr g1, e2.mpr g2⟩) q) (fun _ => ?_)
              refine w.aload d0_383 rfl rfl ?_
              refine w.aload d0_385 rfl rfl ?_
              refine w.callV (argsL := [(.ref x1)]) (rest := []) 0 d0_387 (tw hw 118 rfl) (tw hw 119 rfl) (tw hw 121 rfl) (tw hw 120 rfl) (tw hw 41 rfl) (tw hw 122 rfl) (by decide) EE_x2 (rmE l Z a0 hw hr x2 x1 s3 s4 s1 s2 t_s3 t_s4 t_s1 t_s2 _ _ _ _ h0 w.old EE_x1 F0_x2 F1_x2 S_s3 S_s4 F0_x1 F1_x1 S_s1 S_s2) (lenOf pd_21 rfl) rfl rfl (Nat.le_refl _) ⟨by decide, by decide, by decide, by decide⟩ all0 ?_
              intro T h26 r w _ hQ
              obtain ⟨rfl, rfl⟩ := hQ
              show Go cx _ Z _ _ _ T 390 #[.val (.int va), .val (.int vb), .val (.int vc), .val (.int vd), .val (.int mo), .val (.int rcl), .val (.int ocl), .val (.int ril), .val (.int oil), .val (.int rc0), .val (.int rc1), .val (.int oc0), .val (.int oc1), .val (.int ri0), .val (.int ri1), .val (.int oi0), .val (.int oi1), .val (.ref s1), .val (.ref s2), .val (.ref s3), .val (.ref s4), .val (.ref x1), .val (.int kd), .val (.ref x2), .val (.int (1 : Int32)), .val (.int (1 : Int32)), .val (.int (1 : Int32))] [(.int (if (own_bytes ocl oc0 oc1) = (own_bytes rcl rc0 rc1) ∧ (own_bytes oil oi0 oi1) = (own_bytes ril ri0 ri1) then 1 else 0))]
              refine w.iload d0_390 rfl ?_
              refine w.icmpNe d0_392 d0_392t (fun q => absurd (if_pos ⟨(e1.mpr g1).symm, (e2.mpr g2).symm⟩) q) (fun _ => ?_)
              refine w.iconst (1 : Int32) d0_395 rfl ?_
              refine w.goto d0_396 d0_396t ?_
              exact w.retN d0_400 rfl (by simp) rfl
            · refine w.iload d0_340 rfl ?_
              refine w.iload d0_342 rfl ?_
              refine w.icmpNe d0_344 d0_344t (fun d2 => ?_) (fun d2 => ?_)
              · refine w.iconst (0 : Int32) d0_351 rfl ?_
                refine w.istore #[.val (.int va), .val (.int vb), .val (.int vc), .val (.int vd), .val (.int mo), .val (.int rcl), .val (.int ocl), .val (.int ril), .val (.int oil), .val (.int rc0), .val (.int rc1), .val (.int oc0), .val (.int oc1), .val (.int ri0), .val (.int ri1), .val (.int oi0), .val (.int oi1), .val (.ref s1), .val (.ref s2), .val (.ref s3), .val (.ref s4), .val (.ref x1), .val (.int kd), .val (.ref x2), .val (.int (1 : Int32)), .val (.int (0 : Int32)), .unset] d0_352 rfl ?_
                have g2 : ¬ (ril = oil ∧ ri0 = oi0 ∧ (ril = 1 ∨ ri1 = oi1)) := fun z => z.2.2.elim c2 d2
                refine w.iload d0_354 rfl ?_
                refine w.ifEq d0_356 d0_356t (fun q => absurd q (by decide)) (fun _ => ?_)
                refine w.iload d0_359 rfl ?_
                refine w.ifEq d0_361 d0_361t (fun _ => ?_) (fun q => absurd rfl q)
                refine w.iconst (0 : Int32) d0_368 rfl ?_
                refine w.istore #[.val (.int va), .val (.int vb), .val (.int vc), .val (.int vd), .val (.int mo), .val (.int rcl), .val (.int ocl), .val (.int ril), .val (.int oil), .val (.int rc0), .val (.int rc1), .val (.int oc0), .val (.int oc1), .val (.int ri0), .val (.int ri1), .val (.int oi0), .val (.int oi1), .val (.ref s1), .val (.ref s2), .val (.ref s3), .val (.ref s4), .val (.ref x1), .val (.int kd), .val (.ref x2), .val (.int (1 : Int32)), .val (.int (0 : Int32)), .val (.int (0 : Int32))] d0_369 rfl ?_
                refine w.aload d0_371 rfl rfl ?_
                refine w.aload d0_373 rfl rfl ?_
                refine w.callV (argsL := [(.ref x2)]) (rest := []) 0 d0_375 (tw hw 118 rfl) (tw hw 119 rfl) (tw hw 121 rfl) (tw hw 120 rfl) (tw hw 41 rfl) (tw hw 122 rfl) (by decide) EE_x1 (rmE l Z a0 hw hr x1 x2 s1 s2 s3 s4 t_s1 t_s2 t_s3 t_s4 _ _ _ _ h0 w.old EE_x2 F0_x1 F1_x1 S_s1 S_s2 F0_x2 F1_x2 S_s3 S_s4) (lenOf pd_21 rfl) rfl rfl (Nat.le_refl _) ⟨by decide, by decide, by decide, by decide⟩ all0 ?_
                intro T h27 r w _ hQ
                obtain ⟨rfl, rfl⟩ := hQ
                show Go cx _ Z _ _ _ T 378 #[.val (.int va), .val (.int vb), .val (.int vc), .val (.int vd), .val (.int mo), .val (.int rcl), .val (.int ocl), .val (.int ril), .val (.int oil), .val (.int rc0), .val (.int rc1), .val (.int oc0), .val (.int oc1), .val (.int ri0), .val (.int ri1), .val (.int oi0), .val (.int oi1), .val (.ref s1), .val (.ref s2), .val (.ref s3), .val (.ref s4), .val (.ref x1), .val (.int kd), .val (.ref x2), .val (.int (1 : Int32)), .val (.int (0 : Int32)), .val (.int (0 : Int32))] [(.int (if (own_bytes rcl rc0 rc1) = (own_bytes ocl oc0 oc1) ∧ (own_bytes ril ri0 ri1) = (own_bytes oil oi0 oi1) then 1 else 0))]
                refine w.iload d0_378 rfl ?_
                refine w.icmpNe d0_380 d0_380t (fun q => absurd (if_neg (fun z => g2 (e2.mp z.2))) q) (fun _ => ?_)
                refine w.aload d0_383 rfl rfl ?_
                refine w.aload d0_385 rfl rfl ?_
                refine w.callV (argsL := [(.ref x1)]) (rest := []) 0 d0_387 (tw hw 118 rfl) (tw hw 119 rfl) (tw hw 121 rfl) (tw hw 120 rfl) (tw hw 41 rfl) (tw hw 122 rfl) (by decide) EE_x2 (rmE l Z a0 hw hr x2 x1 s3 s4 s1 s2 t_s3 t_s4 t_s1 t_s2 _ _ _ _ h0 w.old EE_x1 F0_x2 F1_x2 S_s3 S_s4 F0_x1 F1_x1 S_s1 S_s2) (lenOf pd_21 rfl) rfl rfl (Nat.le_refl _) ⟨by decide, by decide, by decide, by decide⟩ all0 ?_
                intro T h28 r w _ hQ
                obtain ⟨rfl, rfl⟩ := hQ
                show Go cx _ Z _ _ _ T 390 #[.val (.int va), .val (.int vb), .val (.int vc), .val (.int vd), .val (.int mo), .val (.int rcl), .val (.int ocl), .val (.int ril), .val (.int oil), .val (.int rc0), .val (.int rc1), .val (.int oc0), .val (.int oc1), .val (.int ri0), .val (.int ri1), .val (.int oi0), .val (.int oi1), .val (.ref s1), .val (.ref s2), .val (.ref s3), .val (.ref s4), .val (.ref x1), .val (.int kd), .val (.ref x2), .val (.int (1 : Int32)), .val (.int (0 : Int32)), .val (.int (0 : Int32))] [(.int (if (own_bytes ocl oc0 oc1) = (own_bytes rcl rc0 rc1) ∧ (own_bytes oil oi0 oi1) = (own_bytes ril ri0 ri1) then 1 else 0))]
                refine w.iload d0_390 rfl ?_
                refine w.icmpNe d0_392 d0_392t (fun q => absurd (if_neg (fun z => g2 (e2.mp z.2.symm))) q) (fun _ => ?_)
                refine w.iconst (1 : Int32) d0_395 rfl ?_
                refine w.goto d0_396 d0_396t ?_
                exact w.retN d0_400 rfl (by simp) rfl
              · refine w.iconst (1 : Int32) d0_347 rfl ?_
                refine w.goto d0_348 d0_348t ?_
                refine w.istore #[.val (.int va), .val (.int vb), .val (.int vc), .val (.int vd), .val (.int mo), .val (.int rcl), .val (.int ocl), .val (.int ril), .val (.int oil), .val (.int rc0), .val (.int rc1), .val (.int oc0), .val (.int oc1), .val (.int ri0), .val (.int ri1), .val (.int oi0), .val (.int oi1), .val (.ref s1), .val (.ref s2), .val (.ref s3), .val (.ref s4), .val (.ref x1), .val (.int kd), .val (.ref x2), .val (.int (1 : Int32)), .val (.int (1 : Int32)), .unset] d0_352 rfl ?_
                have g2 : ril = oil ∧ ri0 = oi0 ∧ (ril = 1 ∨ ri1 = oi1) := ⟨a2, b2, Or.inr d2⟩
                refine w.iload d0_354 rfl ?_
                refine w.ifEq d0_356 d0_356t (fun q => absurd q (by decide)) (fun _ => ?_)
                refine w.iload d0_359 rfl ?_
                refine w.ifEq d0_361 d0_361t (fun q => absurd q (by decide)) (fun _ => ?_)
                refine w.iconst (1 : Int32) d0_364 rfl ?_
                refine w.goto d0_365 d0_365t ?_
                refine w.istore #[.val (.int va), .val (.int vb), .val (.int vc), .val (.int vd), .val (.int mo), .val (.int rcl), .val (.int ocl), .val (.int ril), .val (.int oil), .val (.int rc0), .val (.int rc1), .val (.int oc0), .val (.int oc1), .val (.int ri0), .val (.int ri1), .val (.int oi0), .val (.int oi1), .val (.ref s1), .val (.ref s2), .val (.ref s3), .val (.ref s4), .val (.ref x1), .val (.int kd), .val (.ref x2), .val (.int (1 : Int32)), .val (.int (1 : Int32)), .val (.int (1 : Int32))] d0_369 rfl ?_
                refine w.aload d0_371 rfl rfl ?_
                refine w.aload d0_373 rfl rfl ?_
                refine w.callV (argsL := [(.ref x2)]) (rest := []) 0 d0_375 (tw hw 118 rfl) (tw hw 119 rfl) (tw hw 121 rfl) (tw hw 120 rfl) (tw hw 41 rfl) (tw hw 122 rfl) (by decide) EE_x1 (rmE l Z a0 hw hr x1 x2 s1 s2 s3 s4 t_s1 t_s2 t_s3 t_s4 _ _ _ _ h0 w.old EE_x2 F0_x1 F1_x1 S_s1 S_s2 F0_x2 F1_x2 S_s3 S_s4) (lenOf pd_21 rfl) rfl rfl (Nat.le_refl _) ⟨by decide, by decide, by decide, by decide⟩ all0 ?_
                intro T h29 r w _ hQ
                obtain ⟨rfl, rfl⟩ := hQ
                show Go cx _ Z _ _ _ T 378 #[.val (.int va), .val (.int vb), .val (.int vc), .val (.int vd), .val (.int mo), .val (.int rcl), .val (.int ocl), .val (.int ril), .val (.int oil), .val (.int rc0), .val (.int rc1), .val (.int oc0), .val (.int oc1), .val (.int ri0), .val (.int ri1), .val (.int oi0), .val (.int oi1), .val (.ref s1), .val (.ref s2), .val (.ref s3), .val (.ref s4), .val (.ref x1), .val (.int kd), .val (.ref x2), .val (.int (1 : Int32)), .val (.int (1 : Int32)), .val (.int (1 : Int32))] [(.int (if (own_bytes rcl rc0 rc1) = (own_bytes ocl oc0 oc1) ∧ (own_bytes ril ri0 ri1) = (own_bytes oil oi0 oi1) then 1 else 0))]
                refine w.iload d0_378 rfl ?_
                refine w.icmpNe d0_380 d0_380t (fun q => absurd (if_pos ⟨e1.mpr g1, e2.mpr g2⟩) q) (fun _ => ?_)
                refine w.aload d0_383 rfl rfl ?_
                refine w.aload d0_385 rfl rfl ?_
                refine w.callV (argsL := [(.ref x1)]) (rest := []) 0 d0_387 (tw hw 118 rfl) (tw hw 119 rfl) (tw hw 121 rfl) (tw hw 120 rfl) (tw hw 41 rfl) (tw hw 122 rfl) (by decide) EE_x2 (rmE l Z a0 hw hr x2 x1 s3 s4 s1 s2 t_s3 t_s4 t_s1 t_s2 _ _ _ _ h0 w.old EE_x1 F0_x2 F1_x2 S_s3 S_s4 F0_x1 F1_x1 S_s1 S_s2) (lenOf pd_21 rfl) rfl rfl (Nat.le_refl _) ⟨by decide, by decide, by decide, by decide⟩ all0 ?_
                intro T h30 r w _ hQ
                obtain ⟨rfl, rfl⟩ := hQ
                show Go cx _ Z _ _ _ T 390 #[.val (.int va), .val (.int vb), .val (.int vc), .val (.int vd), .val (.int mo), .val (.int rcl), .val (.int ocl), .val (.int ril), .val (.int oil), .val (.int rc0), .val (.int rc1), .val (.int oc0), .val (.int oc1), .val (.int ri0), .val (.int ri1), .val (.int oi0), .val (.int oi1), .val (.ref s1), .val (.ref s2), .val (.ref s3), .val (.ref s4), .val (.ref x1), .val (.int kd), .val (.ref x2), .val (.int (1 : Int32)), .val (.int (1 : Int32)), .val (.int (1 : Int32))] [(.int (if (own_bytes ocl oc0 oc1) = (own_bytes rcl rc0 rc1) ∧ (own_bytes oil oi0 oi1) = (own_bytes ril ri0 ri1) then 1 else 0))]
                refine w.iload d0_390 rfl ?_
                refine w.icmpNe d0_392 d0_392t (fun q => absurd (if_pos ⟨(e1.mpr g1).symm, (e2.mpr g2).symm⟩) q) (fun _ => ?_)
                refine w.iconst (1 : Int32) d0_395 rfl ?_
                refine w.goto d0_396 d0_396t ?_
                exact w.retN d0_400 rfl (by simp) rfl
      · refine w.iload d0_306 rfl ?_
        refine w.iload d0_308 rfl ?_
        refine w.icmpNe d0_310 d0_310t (fun d1 => ?_) (fun d1 => ?_)
        · refine w.iconst (0 : Int32) d0_317 rfl ?_
          refine w.istore #[.val (.int va), .val (.int vb), .val (.int vc), .val (.int vd), .val (.int mo), .val (.int rcl), .val (.int ocl), .val (.int ril), .val (.int oil), .val (.int rc0), .val (.int rc1), .val (.int oc0), .val (.int oc1), .val (.int ri0), .val (.int ri1), .val (.int oi0), .val (.int oi1), .val (.ref s1), .val (.ref s2), .val (.ref s3), .val (.ref s4), .val (.ref x1), .val (.int kd), .val (.ref x2), .val (.int (0 : Int32)), .unset, .unset] d0_318 rfl ?_
          refine w.iload d0_320 rfl ?_
          refine w.iload d0_322 rfl ?_
          have g1 : ¬ (rcl = ocl ∧ rc0 = oc0 ∧ (rcl = 1 ∨ rc1 = oc1)) := fun z => z.2.2.elim c1 d1
          refine w.icmpNe d0_324 d0_324t (fun a2 => ?_) (fun a2 => ?_)
          · refine w.iconst (0 : Int32) d0_351 rfl ?_
            refine w.istore #[.val (.int va), .val (.int vb), .val (.int vc), .val (.int vd), .val (.int mo), .val (.int rcl), .val (.int ocl), .val (.int ril), .val (.int oil), .val (.int rc0), .val (.int rc1), .val (.int oc0), .val (.int oc1), .val (.int ri0), .val (.int ri1), .val (.int oi0), .val (.int oi1), .val (.ref s1), .val (.ref s2), .val (.ref s3), .val (.ref s4), .val (.ref x1), .val (.int kd), .val (.ref x2), .val (.int (0 : Int32)), .val (.int (0 : Int32)), .unset] d0_352 rfl ?_
            have g2 : ¬ (ril = oil ∧ ri0 = oi0 ∧ (ril = 1 ∨ ri1 = oi1)) := fun z => a2 z.1
            refine w.iload d0_354 rfl ?_
            refine w.ifEq d0_356 d0_356t (fun _ => ?_) (fun q => absurd rfl q)
            refine w.iconst (0 : Int32) d0_368 rfl ?_
            refine w.istore #[.val (.int va), .val (.int vb), .val (.int vc), .val (.int vd), .val (.int mo), .val (.int rcl), .val (.int ocl), .val (.int ril), .val (.int oil), .val (.int rc0), .val (.int rc1), .val (.int oc0), .val (.int oc1), .val (.int ri0), .val (.int ri1), .val (.int oi0), .val (.int oi1), .val (.ref s1), .val (.ref s2), .val (.ref s3), .val (.ref s4), .val (.ref x1), .val (.int kd), .val (.ref x2), .val (.int (0 : Int32)), .val (.int (0 : Int32)), .val (.int (0 : Int32))] d0_369 rfl ?_
            refine w.aload d0_371 rfl rfl ?_
            refine w.aload d0_373 rfl rfl ?_
            refine w.callV (argsL := [(.ref x2)]) (rest := []) 0 d0_375 (tw hw 118 rfl) (tw hw 119 rfl) (tw hw 121 rfl) (tw hw 120 rfl) (tw hw 41 rfl) (tw hw 122 rfl) (by decide) EE_x1 (rmE l Z a0 hw hr x1 x2 s1 s2 s3 s4 t_s1 t_s2 t_s3 t_s4 _ _ _ _ h0 w.old EE_x2 F0_x1 F1_x1 S_s1 S_s2 F0_x2 F1_x2 S_s3 S_s4) (lenOf pd_21 rfl) rfl rfl (Nat.le_refl _) ⟨by decide, by decide, by decide, by decide⟩ all0 ?_
            intro T h31 r w _ hQ
            obtain ⟨rfl, rfl⟩ := hQ
            show Go cx _ Z _ _ _ T 378 #[.val (.int va), .val (.int vb), .val (.int vc), .val (.int vd), .val (.int mo), .val (.int rcl), .val (.int ocl), .val (.int ril), .val (.int oil), .val (.int rc0), .val (.int rc1), .val (.int oc0), .val (.int oc1), .val (.int ri0), .val (.int ri1), .val (.int oi0), .val (.int oi1), .val (.ref s1), .val (.ref s2), .val (.ref s3), .val (.ref s4), .val (.ref x1), .val (.int kd), .val (.ref x2), .val (.int (0 : Int32)), .val (.int (0 : Int32)), .val (.int (0 : Int32))] [(.int (if (own_bytes rcl rc0 rc1) = (own_bytes ocl oc0 oc1) ∧ (own_bytes ril ri0 ri1) = (own_bytes oil oi0 oi1) then 1 else 0))]
            refine w.iload d0_378 rfl ?_
            refine w.icmpNe d0_380 d0_380t (fun q => absurd (if_neg (fun z => g1 (e1.mp z.1))) q) (fun _ => ?_)
            refine w.aload d0_383 rfl rfl ?_
            refine w.aload d0_385 rfl rfl ?_
            refine w.callV (argsL := [(.ref x1)]) (rest := []) 0 d0_387 (tw hw 118 rfl) (tw hw 119 rfl) (tw hw 121 rfl) (tw hw 120 rfl) (tw hw 41 rfl) (tw hw 122 rfl) (by decide) EE_x2 (rmE l Z a0 hw hr x2 x1 s3 s4 s1 s2 t_s3 t_s4 t_s1 t_s2 _ _ _ _ h0 w.old EE_x1 F0_x2 F1_x2 S_s3 S_s4 F0_x1 F1_x1 S_s1 S_s2) (lenOf pd_21 rfl) rfl rfl (Nat.le_refl _) ⟨by decide, by decide, by decide, by decide⟩ all0 ?_
            intro T h32 r w _ hQ
            obtain ⟨rfl, rfl⟩ := hQ
            show Go cx _ Z _ _ _ T 390 #[.val (.int va), .val (.int vb), .val (.int vc), .val (.int vd), .val (.int mo), .val (.int rcl), .val (.int ocl), .val (.int ril), .val (.int oil), .val (.int rc0), .val (.int rc1), .val (.int oc0), .val (.int oc1), .val (.int ri0), .val (.int ri1), .val (.int oi0), .val (.int oi1), .val (.ref s1), .val (.ref s2), .val (.ref s3), .val (.ref s4), .val (.ref x1), .val (.int kd), .val (.ref x2), .val (.int (0 : Int32)), .val (.int (0 : Int32)), .val (.int (0 : Int32))] [(.int (if (own_bytes ocl oc0 oc1) = (own_bytes rcl rc0 rc1) ∧ (own_bytes oil oi0 oi1) = (own_bytes ril ri0 ri1) then 1 else 0))]
            refine w.iload d0_390 rfl ?_
            refine w.icmpNe d0_392 d0_392t (fun q => absurd (if_neg (fun z => g1 (e1.mp z.1.symm))) q) (fun _ => ?_)
            refine w.iconst (1 : Int32) d0_395 rfl ?_
            refine w.goto d0_396 d0_396t ?_
            exact w.retN d0_400 rfl (by simp) rfl
          · refine w.iload d0_327 rfl ?_
            refine w.iload d0_329 rfl ?_
            refine w.icmpNe d0_331 d0_331t (fun b2 => ?_) (fun b2 => ?_)
            · refine w.iconst (0 : Int32) d0_351 rfl ?_
              refine w.istore #[.val (.int va), .val (.int vb), .val (.int vc), .val (.int vd), .val (.int mo), .val (.int rcl), .val (.int ocl), .val (.int ril), .val (.int oil), .val (.int rc0), .val (.int rc1), .val (.int oc0), .val (.int oc1), .val (.int ri0), .val (.int ri1), .val (.int oi0), .val (.int oi1), .val (.ref s1), .val (.ref s2), .val (.ref s3), .val (.ref s4), .val (.ref x1), .val (.int kd), .val (.ref x2), .val (.int (0 : Int32)), .val (.int (0 : Int32)), .unset] d0_352 rfl ?_
              have g2 : ¬ (ril = oil ∧ ri0 = oi0 ∧ (ril = 1 ∨ ri1 = oi1)) := fun z => b2 z.2.1
              refine w.iload d0_354 rfl ?_
              refine w.ifEq d0_356 d0_356t (fun _ => ?_) (fun q => absurd rfl q)
              refine w.iconst (0 : Int32) d0_368 rfl ?_
              refine w.istore #[.val (.int va), .val (.int vb), .val (.int vc), .val (.int vd), .val (.int mo), .val (.int rcl), .val (.int ocl), .val (.int ril), .val (.int oil), .val (.int rc0), .val (.int rc1), .val (.int oc0), .val (.int oc1), .val (.int ri0), .val (.int ri1), .val (.int oi0), .val (.int oi1), .val (.ref s1), .val (.ref s2), .val (.ref s3), .val (.ref s4), .val (.ref x1), .val (.int kd), .val (.ref x2), .val (.int (0 : Int32)), .val (.int (0 : Int32)), .val (.int (0 : Int32))] d0_369 rfl ?_
              refine w.aload d0_371 rfl rfl ?_
              refine w.aload d0_373 rfl rfl ?_
              refine w.callV (argsL := [(.ref x2)]) (rest := []) 0 d0_375 (tw hw 118 rfl) (tw hw 119 rfl) (tw hw 121 rfl) (tw hw 120 rfl) (tw hw 41 rfl) (tw hw 122 rfl) (by decide) EE_x1 (rmE l Z a0 hw hr x1 x2 s1 s2 s3 s4 t_s1 t_s2 t_s3 t_s4 _ _ _ _ h0 w.old EE_x2 F0_x1 F1_x1 S_s1 S_s2 F0_x2 F1_x2 S_s3 S_s4) (lenOf pd_21 rfl) rfl rfl (Nat.le_refl _) ⟨by decide, by decide, by decide, by decide⟩ all0 ?_
              intro T h33 r w _ hQ
              obtain ⟨rfl, rfl⟩ := hQ
              show Go cx _ Z _ _ _ T 378 #[.val (.int va), .val (.int vb), .val (.int vc), .val (.int vd), .val (.int mo), .val (.int rcl), .val (.int ocl), .val (.int ril), .val (.int oil), .val (.int rc0), .val (.int rc1), .val (.int oc0), .val (.int oc1), .val (.int ri0), .val (.int ri1), .val (.int oi0), .val (.int oi1), .val (.ref s1), .val (.ref s2), .val (.ref s3), .val (.ref s4), .val (.ref x1), .val (.int kd), .val (.ref x2), .val (.int (0 : Int32)), .val (.int (0 : Int32)), .val (.int (0 : Int32))] [(.int (if (own_bytes rcl rc0 rc1) = (own_bytes ocl oc0 oc1) ∧ (own_bytes ril ri0 ri1) = (own_bytes oil oi0 oi1) then 1 else 0))]
              refine w.iload d0_378 rfl ?_
              refine w.icmpNe d0_380 d0_380t (fun q => absurd (if_neg (fun z => g1 (e1.mp z.1))) q) (fun _ => ?_)
              refine w.aload d0_383 rfl rfl ?_
              refine w.aload d0_385 rfl rfl ?_
              refine w.callV (argsL := [(.ref x1)]) (rest := []) 0 d0_387 (tw hw 118 rfl) (tw hw 119 rfl) (tw hw 121 rfl) (tw hw 120 rfl) (tw hw 41 rfl) (tw hw 122 rfl) (by decide) EE_x2 (rmE l Z a0 hw hr x2 x1 s3 s4 s1 s2 t_s3 t_s4 t_s1 t_s2 _ _ _ _ h0 w.old EE_x1 F0_x2 F1_x2 S_s3 S_s4 F0_x1 F1_x1 S_s1 S_s2) (lenOf pd_21 rfl) rfl rfl (Nat.le_refl _) ⟨by decide, by decide, by decide, by decide⟩ all0 ?_
              intro T h34 r w _ hQ
              obtain ⟨rfl, rfl⟩ := hQ
              show Go cx _ Z _ _ _ T 390 #[.val (.int va), .val (.int vb), .val (.int vc), .val (.int vd), .val (.int mo), .val (.int rcl), .val (.int ocl), .val (.int ril), .val (.int oil), .val (.int rc0), .val (.int rc1), .val (.int oc0), .val (.int oc1), .val (.int ri0), .val (.int ri1), .val (.int oi0), .val (.int oi1), .val (.ref s1), .val (.ref s2), .val (.ref s3), .val (.ref s4), .val (.ref x1), .val (.int kd), .val (.ref x2), .val (.int (0 : Int32)), .val (.int (0 : Int32)), .val (.int (0 : Int32))] [(.int (if (own_bytes ocl oc0 oc1) = (own_bytes rcl rc0 rc1) ∧ (own_bytes oil oi0 oi1) = (own_bytes ril ri0 ri1) then 1 else 0))]
              refine w.iload d0_390 rfl ?_
              refine w.icmpNe d0_392 d0_392t (fun q => absurd (if_neg (fun z => g1 (e1.mp z.1.symm))) q) (fun _ => ?_)
              refine w.iconst (1 : Int32) d0_395 rfl ?_
              refine w.goto d0_396 d0_396t ?_
              exact w.retN d0_400 rfl (by simp) rfl
            · refine w.iload d0_334 rfl ?_
              refine w.iconst (1 : Int32) d0_336 rfl ?_
              refine w.icmpEq d0_337 d0_337t (fun c2 => ?_) (fun c2 => ?_)
              · refine w.iconst (1 : Int32) d0_347 rfl ?_
                refine w.goto d0_348 d0_348t ?_
                refine w.istore #[.val (.int va), .val (.int vb), .val (.int vc), .val (.int vd), .val (.int mo), .val (.int rcl), .val (.int ocl), .val (.int ril), .val (.int oil), .val (.int rc0), .val (.int rc1), .val (.int oc0), .val (.int oc1), .val (.int ri0), .val (.int ri1), .val (.int oi0), .val (.int oi1), .val (.ref s1), .val (.ref s2), .val (.ref s3), .val (.ref s4), .val (.ref x1), .val (.int kd), .val (.ref x2), .val (.int (0 : Int32)), .val (.int (1 : Int32)), .unset] d0_352 rfl ?_
                have g2 : ril = oil ∧ ri0 = oi0 ∧ (ril = 1 ∨ ri1 = oi1) := ⟨a2, b2, Or.inl c2⟩
                refine w.iload d0_354 rfl ?_
                refine w.ifEq d0_356 d0_356t (fun _ => ?_) (fun q => absurd rfl q)
                refine w.iconst (0 : Int32) d0_368 rfl ?_
                refine w.istore #[.val (.int va), .val (.int vb), .val (.int vc), .val (.int vd), .val (.int mo), .val (.int rcl), .val (.int ocl), .val (.int ril), .val (.int oil), .val (.int rc0), .val (.int rc1), .val (.int oc0), .val (.int oc1), .val (.int ri0), .val (.int ri1), .val (.int oi0), .val (.int oi1), .val (.ref s1), .val (.ref s2), .val (.ref s3), .val (.ref s4), .val (.ref x1), .val (.int kd), .val (.ref x2), .val (.int (0 : Int32)), .val (.int (1 : Int32)), .val (.int (0 : Int32))] d0_369 rfl ?_
                refine w.aload d0_371 rfl rfl ?_
                refine w.aload d0_373 rfl rfl ?_
                refine w.callV (argsL := [(.ref x2)]) (rest := []) 0 d0_375 (tw hw 118 rfl) (tw hw 119 rfl) (tw hw 121 rfl) (tw hw 120 rfl) (tw hw 41 rfl) (tw hw 122 rfl) (by decide) EE_x1 (rmE l Z a0 hw hr x1 x2 s1 s2 s3 s4 t_s1 t_s2 t_s3 t_s4 _ _ _ _ h0 w.old EE_x2 F0_x1 F1_x1 S_s1 S_s2 F0_x2 F1_x2 S_s3 S_s4) (lenOf pd_21 rfl) rfl rfl (Nat.le_refl _) ⟨by decide, by decide, by decide, by decide⟩ all0 ?_
                intro T h35 r w _ hQ
                obtain ⟨rfl, rfl⟩ := hQ
                show Go cx _ Z _ _ _ T 378 #[.val (.int va), .val (.int vb), .val (.int vc), .val (.int vd), .val (.int mo), .val (.int rcl), .val (.int ocl), .val (.int ril), .val (.int oil), .val (.int rc0), .val (.int rc1), .val (.int oc0), .val (.int oc1), .val (.int ri0), .val (.int ri1), .val (.int oi0), .val (.int oi1), .val (.ref s1), .val (.ref s2), .val (.ref s3), .val (.ref s4), .val (.ref x1), .val (.int kd), .val (.ref x2), .val (.int (0 : Int32)), .val (.int (1 : Int32)), .val (.int (0 : Int32))] [(.int (if (own_bytes rcl rc0 rc1) = (own_bytes ocl oc0 oc1) ∧ (own_bytes ril ri0 ri1) = (own_bytes oil oi0 oi1) then 1 else 0))]
                refine w.iload d0_378 rfl ?_
                refine w.icmpNe d0_380 d0_380t (fun q => absurd (if_neg (fun z => g1 (e1.mp z.1))) q) (fun _ => ?_)
                refine w.aload d0_383 rfl rfl ?_
                refine w.aload d0_385 rfl rfl ?_
                refine w.callV (argsL := [(.ref x1)]) (rest := []) 0 d0_387 (tw hw 118 rfl) (tw hw 119 rfl) (tw hw 121 rfl) (tw hw 120 rfl) (tw hw 41 rfl) (tw hw 122 rfl) (by decide) EE_x2 (rmE l Z a0 hw hr x2 x1 s3 s4 s1 s2 t_s3 t_s4 t_s1 t_s2 _ _ _ _ h0 w.old EE_x1 F0_x2 F1_x2 S_s3 S_s4 F0_x1 F1_x1 S_s1 S_s2) (lenOf pd_21 rfl) rfl rfl (Nat.le_refl _) ⟨by decide, by decide, by decide, by decide⟩ all0 ?_
                intro T h36 r w _ hQ
                obtain ⟨rfl, rfl⟩ := hQ
                show Go cx _ Z _ _ _ T 390 #[.val (.int va), .val (.int vb), .val (.int vc), .val (.int vd), .val (.int mo), .val (.int rcl), .val (.int ocl), .val (.int ril), .val (.int oil), .val (.int rc0), .val (.int rc1), .val (.int oc0), .val (.int oc1), .val (.int ri0), .val (.int ri1), .val (.int oi0), .val (.int oi1), .val (.ref s1), .val (.ref s2), .val (.ref s3), .val (.ref s4), .val (.ref x1), .val (.int kd), .val (.ref x2), .val (.int (0 : Int32)), .val (.int (1 : Int32)), .val (.int (0 : Int32))] [(.int (if (own_bytes ocl oc0 oc1) = (own_bytes rcl rc0 rc1) ∧ (own_bytes oil oi0 oi1) = (own_bytes ril ri0 ri1) then 1 else 0))]
                refine w.iload d0_390 rfl ?_
                refine w.icmpNe d0_392 d0_392t (fun q => absurd (if_neg (fun z => g1 (e1.mp z.1.symm))) q) (fun _ => ?_)
                refine w.iconst (1 : Int32) d0_395 rfl ?_
                refine w.goto d0_396 d0_396t ?_
                exact w.retN d0_400 rfl (by simp) rfl
              · refine w.iload d0_340 rfl ?_
                refine w.iload d0_342 rfl ?_
                refine w.icmpNe d0_344 d0_344t (fun d2 => ?_) (fun d2 => ?_)
                · refine w.iconst (0 : Int32) d0_351 rfl ?_
                  refine w.istore #[.val (.int va), .val (.int vb), .val (.int vc), .val (.int vd), .val (.int mo), .val (.int rcl), .val (.int ocl), .val (.int ril), .val (.int oil), .val (.int rc0), .val (.int rc1), .val (.int oc0), .val (.int oc1), .val (.int ri0), .val (.int ri1), .val (.int oi0), .val (.int oi1), .val (.ref s1), .val (.ref s2), .val (.ref s3), .val (.ref s4), .val (.ref x1), .val (.int kd), .val (.ref x2), .val (.int (0 : Int32)), .val (.int (0 : Int32)), .unset] d0_352 rfl ?_
                  have g2 : ¬ (ril = oil ∧ ri0 = oi0 ∧ (ril = 1 ∨ ri1 = oi1)) := fun z => z.2.2.elim c2 d2
                  refine w.iload d0_354 rfl ?_
                  refine w.ifEq d0_356 d0_356t (fun _ => ?_) (fun q => absurd rfl q)
                  refine w.iconst (0 : Int32) d0_368 rfl ?_
                  refine w.istore #[.val (.int va), .val (.int vb), .val (.int vc), .val (.int vd), .val (.int mo), .val (.int rcl), .val (.int ocl), .val (.int ril), .val (.int oil), .val (.int rc0), .val (.int rc1), .val (.int oc0), .val (.int oc1), .val (.int ri0), .val (.int ri1), .val (.int oi0), .val (.int oi1), .val (.ref s1), .val (.ref s2), .val (.ref s3), .val (.ref s4), .val (.ref x1), .val (.int kd), .val (.ref x2), .val (.int (0 : Int32)), .val (.int (0 : Int32)), .val (.int (0 : Int32))] d0_369 rfl ?_
                  refine w.aload d0_371 rfl rfl ?_
                  refine w.aload d0_373 rfl rfl ?_
                  refine w.callV (argsL := [(.ref x2)]) (rest := []) 0 d0_375 (tw hw 118 rfl) (tw hw 119 rfl) (tw hw 121 rfl) (tw hw 120 rfl) (tw hw 41 rfl) (tw hw 122 rfl) (by decide) EE_x1 (rmE l Z a0 hw hr x1 x2 s1 s2 s3 s4 t_s1 t_s2 t_s3 t_s4 _ _ _ _ h0 w.old EE_x2 F0_x1 F1_x1 S_s1 S_s2 F0_x2 F1_x2 S_s3 S_s4) (lenOf pd_21 rfl) rfl rfl (Nat.le_refl _) ⟨by decide, by decide, by decide, by decide⟩ all0 ?_
                  intro T h37 r w _ hQ
                  obtain ⟨rfl, rfl⟩ := hQ
                  show Go cx _ Z _ _ _ T 378 #[.val (.int va), .val (.int vb), .val (.int vc), .val (.int vd), .val (.int mo), .val (.int rcl), .val (.int ocl), .val (.int ril), .val (.int oil), .val (.int rc0), .val (.int rc1), .val (.int oc0), .val (.int oc1), .val (.int ri0), .val (.int ri1), .val (.int oi0), .val (.int oi1), .val (.ref s1), .val (.ref s2), .val (.ref s3), .val (.ref s4), .val (.ref x1), .val (.int kd), .val (.ref x2), .val (.int (0 : Int32)), .val (.int (0 : Int32)), .val (.int (0 : Int32))] [(.int (if (own_bytes rcl rc0 rc1) = (own_bytes ocl oc0 oc1) ∧ (own_bytes ril ri0 ri1) = (own_bytes oil oi0 oi1) then 1 else 0))]
                  refine w.iload d0_378 rfl ?_
                  refine w.icmpNe d0_380 d0_380t (fun q => absurd (if_neg (fun z => g1 (e1.mp z.1))) q) (fun _ => ?_)
                  refine w.aload d0_383 rfl rfl ?_
                  refine w.aload d0_385 rfl rfl ?_
                  refine w.callV (argsL := [(.ref x1)]) (rest := []) 0 d0_387 (tw hw 118 rfl) (tw hw 119 rfl) (tw hw 121 rfl) (tw hw 120 rfl) (tw hw 41 rfl) (tw hw 122 rfl) (by decide) EE_x2 (rmE l Z a0 hw hr x2 x1 s3 s4 s1 s2 t_s3 t_s4 t_s1 t_s2 _ _ _ _ h0 w.old EE_x1 F0_x2 F1_x2 S_s3 S_s4 F0_x1 F1_x1 S_s1 S_s2) (lenOf pd_21 rfl) rfl rfl (Nat.le_refl _) ⟨by decide, by decide, by decide, by decide⟩ all0 ?_
                  intro T h38 r w _ hQ
                  obtain ⟨rfl, rfl⟩ := hQ
                  show Go cx _ Z _ _ _ T 390 #[.val (.int va), .val (.int vb), .val (.int vc), .val (.int vd), .val (.int mo), .val (.int rcl), .val (.int ocl), .val (.int ril), .val (.int oil), .val (.int rc0), .val (.int rc1), .val (.int oc0), .val (.int oc1), .val (.int ri0), .val (.int ri1), .val (.int oi0), .val (.int oi1), .val (.ref s1), .val (.ref s2), .val (.ref s3), .val (.ref s4), .val (.ref x1), .val (.int kd), .val (.ref x2), .val (.int (0 : Int32)), .val (.int (0 : Int32)), .val (.int (0 : Int32))] [(.int (if (own_bytes ocl oc0 oc1) = (own_bytes rcl rc0 rc1) ∧ (own_bytes oil oi0 oi1) = (own_bytes ril ri0 ri1) then 1 else 0))]
                  refine w.iload d0_390 rfl ?_
                  refine w.icmpNe d0_392 d0_392t (fun q => absurd (if_neg (fun z => g1 (e1.mp z.1.symm))) q) (fun _ => ?_)
                  refine w.iconst (1 : Int32) d0_395 rfl ?_
                  refine w.goto d0_396 d0_396t ?_
                  exact w.retN d0_400 rfl (by simp) rfl
                · refine w.iconst (1 : Int32) d0_347 rfl ?_
                  refine w.goto d0_348 d0_348t ?_
                  refine w.istore #[.val (.int va), .val (.int vb), .val (.int vc), .val (.int vd), .val (.int mo), .val (.int rcl), .val (.int ocl), .val (.int ril), .val (.int oil), .val (.int rc0), .val (.int rc1), .val (.int oc0), .val (.int oc1), .val (.int ri0), .val (.int ri1), .val (.int oi0), .val (.int oi1), .val (.ref s1), .val (.ref s2), .val (.ref s3), .val (.ref s4), .val (.ref x1), .val (.int kd), .val (.ref x2), .val (.int (0 : Int32)), .val (.int (1 : Int32)), .unset] d0_352 rfl ?_
                  have g2 : ril = oil ∧ ri0 = oi0 ∧ (ril = 1 ∨ ri1 = oi1) := ⟨a2, b2, Or.inr d2⟩
                  refine w.iload d0_354 rfl ?_
                  refine w.ifEq d0_356 d0_356t (fun _ => ?_) (fun q => absurd rfl q)
                  refine w.iconst (0 : Int32) d0_368 rfl ?_
                  refine w.istore #[.val (.int va), .val (.int vb), .val (.int vc), .val (.int vd), .val (.int mo), .val (.int rcl), .val (.int ocl), .val (.int ril), .val (.int oil), .val (.int rc0), .val (.int rc1), .val (.int oc0), .val (.int oc1), .val (.int ri0), .val (.int ri1), .val (.int oi0), .val (.int oi1), .val (.ref s1), .val (.ref s2), .val (.ref s3), .val (.ref s4), .val (.ref x1), .val (.int kd), .val (.ref x2), .val (.int (0 : Int32)), .val (.int (1 : Int32)), .val (.int (0 : Int32))] d0_369 rfl ?_
                  refine w.aload d0_371 rfl rfl ?_
                  refine w.aload d0_373 rfl rfl ?_
                  refine w.callV (argsL := [(.ref x2)]) (rest := []) 0 d0_375 (tw hw 118 rfl) (tw hw 119 rfl) (tw hw 121 rfl) (tw hw 120 rfl) (tw hw 41 rfl) (tw hw 122 rfl) (by decide) EE_x1 (rmE l Z a0 hw hr x1 x2 s1 s2 s3 s4 t_s1 t_s2 t_s3 t_s4 _ _ _ _ h0 w.old EE_x2 F0_x1 F1_x1 S_s1 S_s2 F0_x2 F1_x2 S_s3 S_s4) (lenOf pd_21 rfl) rfl rfl (Nat.le_refl _) ⟨by decide, by decide, by decide, by decide⟩ all0 ?_
                  intro T h39 r w _ hQ
                  obtain ⟨rfl, rfl⟩ := hQ
                  show Go cx _ Z _ _ _ T 378 #[.val (.int va), .val (.int vb), .val (.int vc), .val (.int vd), .val (.int mo), .val (.int rcl), .val (.int ocl), .val (.int ril), .val (.int oil), .val (.int rc0), .val (.int rc1), .val (.int oc0), .val (.int oc1), .val (.int ri0), .val (.int ri1), .val (.int oi0), .val (.int oi1), .val (.ref s1), .val (.ref s2), .val (.ref s3), .val (.ref s4), .val (.ref x1), .val (.int kd), .val (.ref x2), .val (.int (0 : Int32)), .val (.int (1 : Int32)), .val (.int (0 : Int32))] [(.int (if (own_bytes rcl rc0 rc1) = (own_bytes ocl oc0 oc1) ∧ (own_bytes ril ri0 ri1) = (own_bytes oil oi0 oi1) then 1 else 0))]
                  refine w.iload d0_378 rfl ?_
                  refine w.icmpNe d0_380 d0_380t (fun q => absurd (if_neg (fun z => g1 (e1.mp z.1))) q) (fun _ => ?_)
                  refine w.aload d0_383 rfl rfl ?_
                  refine w.aload d0_385 rfl rfl ?_
                  refine w.callV (argsL := [(.ref x1)]) (rest := []) 0 d0_387 (tw hw 118 rfl) (tw hw 119 rfl) (tw hw 121 rfl) (tw hw 120 rfl) (tw hw 41 rfl) (tw hw 122 rfl) (by decide) EE_x2 (rmE l Z a0 hw hr x2 x1 s3 s4 s1 s2 t_s3 t_s4 t_s1 t_s2 _ _ _ _ h0 w.old EE_x1 F0_x2 F1_x2 S_s3 S_s4 F0_x1 F1_x1 S_s1 S_s2) (lenOf pd_21 rfl) rfl rfl (Nat.le_refl _) ⟨by decide, by decide, by decide, by decide⟩ all0 ?_
                  intro T h40 r w _ hQ
                  obtain ⟨rfl, rfl⟩ := hQ
                  show Go cx _ Z _ _ _ T 390 #[.val (.int va), .val (.int vb), .val (.int vc), .val (.int vd), .val (.int mo), .val (.int rcl), .val (.int ocl), .val (.int ril), .val (.int oil), .val (.int rc0), .val (.int rc1), .val (.int oc0), .val (.int oc1), .val (.int ri0), .val (.int ri1), .val (.int oi0), .val (.int oi1), .val (.ref s1), .val (.ref s2), .val (.ref s3), .val (.ref s4), .val (.ref x1), .val (.int kd), .val (.ref x2), .val (.int (0 : Int32)), .val (.int (1 : Int32)), .val (.int (0 : Int32))] [(.int (if (own_bytes ocl oc0 oc1) = (own_bytes rcl rc0 rc1) ∧ (own_bytes oil oi0 oi1) = (own_bytes ril ri0 ri1) then 1 else 0))]
                  refine w.iload d0_390 rfl ?_
                  refine w.icmpNe d0_392 d0_392t (fun q => absurd (if_neg (fun z => g1 (e1.mp z.1.symm))) q) (fun _ => ?_)
                  refine w.iconst (1 : Int32) d0_395 rfl ?_
                  refine w.goto d0_396 d0_396t ?_
                  exact w.retN d0_400 rfl (by simp) rfl
        · refine w.iconst (1 : Int32) d0_313 rfl ?_
          refine w.goto d0_314 d0_314t ?_
          refine w.istore #[.val (.int va), .val (.int vb), .val (.int vc), .val (.int vd), .val (.int mo), .val (.int rcl), .val (.int ocl), .val (.int ril), .val (.int oil), .val (.int rc0), .val (.int rc1), .val (.int oc0), .val (.int oc1), .val (.int ri0), .val (.int ri1), .val (.int oi0), .val (.int oi1), .val (.ref s1), .val (.ref s2), .val (.ref s3), .val (.ref s4), .val (.ref x1), .val (.int kd), .val (.ref x2), .val (.int (1 : Int32)), .unset, .unset] d0_318 rfl ?_
          refine w.iload d0_320 rfl ?_
          refine w.iload d0_322 rfl ?_
          have g1 : rcl = ocl ∧ rc0 = oc0 ∧ (rcl = 1 ∨ rc1 = oc1) := ⟨a1, b1, Or.inr d1⟩
          refine w.icmpNe d0_324 d0_324t (fun a2 => ?_) (fun a2 => ?_)
          · refine w.iconst (0 : Int32) d0_351 rfl ?_
            refine w.istore #[.val (.int va), .val (.int vb), .val (.int vc), .val (.int vd), .val (.int mo), .val (.int rcl), .val (.int ocl), .val (.int ril), .val (.int oil), .val (.int rc0), .val (.int rc1), .val (.int oc0), .val (.int oc1), .val (.int ri0), .val (.int ri1), .val (.int oi0), .val (.int oi1), .val (.ref s1), .val (.ref s2), .val (.ref s3), .val (.ref s4), .val (.ref x1), .val (.int kd), .val (.ref x2), .val (.int (1 : Int32)), .val (.int (0 : Int32)), .unset] d0_352 rfl ?_
            have g2 : ¬ (ril = oil ∧ ri0 = oi0 ∧ (ril = 1 ∨ ri1 = oi1)) := fun z => a2 z.1
            refine w.iload d0_354 rfl ?_
            refine w.ifEq d0_356 d0_356t (fun q => absurd q (by decide)) (fun _ => ?_)
            refine w.iload d0_359 rfl ?_
            refine w.ifEq d0_361 d0_361t (fun _ => ?_) (fun q => absurd rfl q)
            refine w.iconst (0 : Int32) d0_368 rfl ?_
            refine w.istore #[.val (.int va), .val (.int vb), .val (.int vc), .val (.int vd), .val (.int mo), .val (.int rcl), .val (.int ocl), .val (.int ril), .val (.int oil), .val (.int rc0), .val (.int rc1), .val (.int oc0), .val (.int oc1), .val (.int ri0), .val (.int ri1), .val (.int oi0), .val (.int oi1), .val (.ref s1), .val (.ref s2), .val (.ref s3), .val (.ref s4), .val (.ref x1), .val (.int kd), .val (.ref x2), .val (.int (1 : Int32)), .val (.int (0 : Int32)), .val (.int (0 : Int32))] d0_369 rfl ?_
            refine w.aload d0_371 rfl rfl ?_
            refine w.aload d0_373 rfl rfl ?_
            refine w.callV (argsL := [(.ref x2)]) (rest := []) 0 d0_375 (tw hw 118 rfl) (tw hw 119 rfl) (tw hw 121 rfl) (tw hw 120 rfl) (tw hw 41 rfl) (tw hw 122 rfl) (by decide) EE_x1 (rmE l Z a0 hw hr x1 x2 s1 s2 s3 s4 t_s1 t_s2 t_s3 t_s4 _ _ _ _ h0 w.old EE_x2 F0_x1 F1_x1 S_s1 S_s2 F0_x2 F1_x2 S_s3 S_s4) (lenOf pd_21 rfl) rfl rfl (Nat.le_refl _) ⟨by decide, by decide, by decide, by decide⟩ all0 ?_
            intro T h41 r w _ hQ
            obtain ⟨rfl, rfl⟩ := hQ
            show Go cx _ Z _ _ _ T 378 #[.val (.int va), .val (.int vb), .val (.int vc), .val (.int vd), .val (.int mo), .val (.int rcl), .val (.int ocl), .val (.int ril), .val (.int oil), .val (.int rc0), .val (.int rc1), .val (.int oc0), .val (.int oc1), .val (.int ri0), .val (.int ri1), .val (.int oi0), .val (.int oi1), .val (.ref s1), .val (.ref s2), .val (.ref s3), .val (.ref s4), .val (.ref x1), .val (.int kd), .val (.ref x2), .val (.int (1 : Int32)), .val (.int (0 : Int32)), .val (.int (0 : Int32))] [(.int (if (own_bytes rcl rc0 rc1) = (own_bytes ocl oc0 oc1) ∧ (own_bytes ril ri0 ri1) = (own_bytes oil oi0 oi1) then 1 else 0))]
            refine w.iload d0_378 rfl ?_
            refine w.icmpNe d0_380 d0_380t (fun q => absurd (if_neg (fun z => g2 (e2.mp z.2))) q) (fun _ => ?_)
            refine w.aload d0_383 rfl rfl ?_
            refine w.aload d0_385 rfl rfl ?_
            refine w.callV (argsL := [(.ref x1)]) (rest := []) 0 d0_387 (tw hw 118 rfl) (tw hw 119 rfl) (tw hw 121 rfl) (tw hw 120 rfl) (tw hw 41 rfl) (tw hw 122 rfl) (by decide) EE_x2 (rmE l Z a0 hw hr x2 x1 s3 s4 s1 s2 t_s3 t_s4 t_s1 t_s2 _ _ _ _ h0 w.old EE_x1 F0_x2 F1_x2 S_s3 S_s4 F0_x1 F1_x1 S_s1 S_s2) (lenOf pd_21 rfl) rfl rfl (Nat.le_refl _) ⟨by decide, by decide, by decide, by decide⟩ all0 ?_
            intro T h42 r w _ hQ
            obtain ⟨rfl, rfl⟩ := hQ
            show Go cx _ Z _ _ _ T 390 #[.val (.int va), .val (.int vb), .val (.int vc), .val (.int vd), .val (.int mo), .val (.int rcl), .val (.int ocl), .val (.int ril), .val (.int oil), .val (.int rc0), .val (.int rc1), .val (.int oc0), .val (.int oc1), .val (.int ri0), .val (.int ri1), .val (.int oi0), .val (.int oi1), .val (.ref s1), .val (.ref s2), .val (.ref s3), .val (.ref s4), .val (.ref x1), .val (.int kd), .val (.ref x2), .val (.int (1 : Int32)), .val (.int (0 : Int32)), .val (.int (0 : Int32))] [(.int (if (own_bytes ocl oc0 oc1) = (own_bytes rcl rc0 rc1) ∧ (own_bytes oil oi0 oi1) = (own_bytes ril ri0 ri1) then 1 else 0))]
            refine w.iload d0_390 rfl ?_
            refine w.icmpNe d0_392 d0_392t (fun q => absurd (if_neg (fun z => g2 (e2.mp z.2.symm))) q) (fun _ => ?_)
            refine w.iconst (1 : Int32) d0_395 rfl ?_
            refine w.goto d0_396 d0_396t ?_
            exact w.retN d0_400 rfl (by simp) rfl
          · refine w.iload d0_327 rfl ?_
            refine w.iload d0_329 rfl ?_
            refine w.icmpNe d0_331 d0_331t (fun b2 => ?_) (fun b2 => ?_)
            · refine w.iconst (0 : Int32) d0_351 rfl ?_
              refine w.istore #[.val (.int va), .val (.int vb), .val (.int vc), .val (.int vd), .val (.int mo), .val (.int rcl), .val (.int ocl), .val (.int ril), .val (.int oil), .val (.int rc0), .val (.int rc1), .val (.int oc0), .val (.int oc1), .val (.int ri0), .val (.int ri1), .val (.int oi0), .val (.int oi1), .val (.ref s1), .val (.ref s2), .val (.ref s3), .val (.ref s4), .val (.ref x1), .val (.int kd), .val (.ref x2), .val (.int (1 : Int32)), .val (.int (0 : Int32)), .unset] d0_352 rfl ?_
              have g2 : ¬ (ril = oil ∧ ri0 = oi0 ∧ (ril = 1 ∨ ri1 = oi1)) := fun z => b2 z.2.1
              refine w.iload d0_354 rfl ?_
              refine w.ifEq d0_356 d0_356t (fun q => absurd q (by decide)) (fun _ => ?_)
              refine w.iload d0_359 rfl ?_
              refine w.ifEq d0_361 d0_361t (fun _ => ?_) (fun q => absurd rfl q)
              refine w.iconst (0 : Int32) d0_368 rfl ?_
              refine w.istore #[.val (.int va), .val (.int vb), .val (.int vc), .val (.int vd), .val (.int mo), .val (.int rcl), .val (.int ocl), .val (.int ril), .val (.int oil), .val (.int rc0), .val (.int rc1), .val (.int oc0), .val (.int oc1), .val (.int ri0), .val (.int ri1), .val (.int oi0), .val (.int oi1), .val (.ref s1), .val (.ref s2), .val (.ref s3), .val (.ref s4), .val (.ref x1), .val (.int kd), .val (.ref x2), .val (.int (1 : Int32)), .val (.int (0 : Int32)), .val (.int (0 : Int32))] d0_369 rfl ?_
              refine w.aload d0_371 rfl rfl ?_
              refine w.aload d0_373 rfl rfl ?_
              refine w.callV (argsL := [(.ref x2)]) (rest := []) 0 d0_375 (tw hw 118 rfl) (tw hw 119 rfl) (tw hw 121 rfl) (tw hw 120 rfl) (tw hw 41 rfl) (tw hw 122 rfl) (by decide) EE_x1 (rmE l Z a0 hw hr x1 x2 s1 s2 s3 s4 t_s1 t_s2 t_s3 t_s4 _ _ _ _ h0 w.old EE_x2 F0_x1 F1_x1 S_s1 S_s2 F0_x2 F1_x2 S_s3 S_s4) (lenOf pd_21 rfl) rfl rfl (Nat.le_refl _) ⟨by decide, by decide, by decide, by decide⟩ all0 ?_
              intro T h43 r w _ hQ
              obtain ⟨rfl, rfl⟩ := hQ
              show Go cx _ Z _ _ _ T 378 #[.val (.int va), .val (.int vb), .val (.int vc), .val (.int vd), .val (.int mo), .val (.int rcl), .val (.int ocl), .val (.int ril), .val (.int oil), .val (.int rc0), .val (.int rc1), .val (.int oc0), .val (.int oc1), .val (.int ri0), .val (.int ri1), .val (.int oi0), .val (.int oi1), .val (.ref s1), .val (.ref s2), .val (.ref s3), .val (.ref s4), .val (.ref x1), .val (.int kd), .val (.ref x2), .val (.int (1 : Int32)), .val (.int (0 : Int32)), .val (.int (0 : Int32))] [(.int (if (own_bytes rcl rc0 rc1) = (own_bytes ocl oc0 oc1) ∧ (own_bytes ril ri0 ri1) = (own_bytes oil oi0 oi1) then 1 else 0))]
              refine w.iload d0_378 rfl ?_
              refine w.icmpNe d0_380 d0_380t (fun q => absurd (if_neg (fun z => g2 (e2.mp z.2))) q) (fun _ => ?_)
              refine w.aload d0_383 rfl rfl ?_
              refine w.aload d0_385 rfl rfl ?_
              refine w.callV (argsL := [(.ref x1)]) (rest := []) 0 d0_387 (tw hw 118 rfl) (tw hw 119 rfl) (tw hw 121 rfl) (tw hw 120 rfl) (tw hw 41 rfl) (tw hw 122 rfl) (by decide) EE_x2 (rmE l Z a0 hw hr x2 x1 s3 s4 s1 s2 t_s3 t_s4 t_s1 t_s2 _ _ _ _ h0 w.old EE_x1 F0_x2 F1_x2 S_s3 S_s4 F0_x1 F1_x1 S_s1 S_s2) (lenOf pd_21 rfl) rfl rfl (Nat.le_refl _) ⟨by decide, by decide, by decide, by decide⟩ all0 ?_
              intro T h44 r w _ hQ
              obtain ⟨rfl, rfl⟩ := hQ
              show Go cx _ Z _ _ _ T 390 #[.val (.int va), .val (.int vb), .val (.int vc), .val (.int vd), .val (.int mo), .val (.int rcl), .val (.int ocl), .val (.int ril), .val (.int oil), .val (.int rc0), .val (.int rc1), .val (.int oc0), .val (.int oc1), .val (.int ri0), .val (.int ri1), .val (.int oi0), .val (.int oi1), .val (.ref s1), .val (.ref s2), .val (.ref s3), .val (.ref s4), .val (.ref x1), .val (.int kd), .val (.ref x2), .val (.int (1 : Int32)), .val (.int (0 : Int32)), .val (.int (0 : Int32))] [(.int (if (own_bytes ocl oc0 oc1) = (own_bytes rcl rc0 rc1) ∧ (own_bytes oil oi0 oi1) = (own_bytes ril ri0 ri1) then 1 else 0))]
              refine w.iload d0_390 rfl ?_
              refine w.icmpNe d0_392 d0_392t (fun q => absurd (if_neg (fun z => g2 (e2.mp z.2.symm))) q) (fun _ => ?_)
              refine w.iconst (1 : Int32) d0_395 rfl ?_
              refine w.goto d0_396 d0_396t ?_
              exact w.retN d0_400 rfl (by simp) rfl
            · refine w.iload d0_334 rfl ?_
              refine w.iconst (1 : Int32) d0_336 rfl ?_
              refine w.icmpEq d0_337 d0_337t (fun c2 => ?_) (fun c2 => ?_)
              · refine w.iconst (1 : Int32) d0_347 rfl ?_
                refine w.goto d0_348 d0_348t ?_
                refine w.istore #[.val (.int va), .val (.int vb), .val (.int vc), .val (.int vd), .val (.int mo), .val (.int rcl), .val (.int ocl), .val (.int ril), .val (.int oil), .val (.int rc0), .val (.int rc1), .val (.int oc0), .val (.int oc1), .val (.int ri0), .val (.int ri1), .val (.int oi0), .val (.int oi1), .val (.ref s1), .val (.ref s2), .val (.ref s3), .val (.ref s4), .val (.ref x1), .val (.int kd), .val (.ref x2), .val (.int (1 : Int32)), .val (.int (1 : Int32)), .unset] d0_352 rfl ?_
                have g2 : ril = oil ∧ ri0 = oi0 ∧ (ril = 1 ∨ ri1 = oi1) := ⟨a2, b2, Or.inl c2⟩
                refine w.iload d0_354 rfl ?_
                refine w.ifEq d0_356 d0_356t (fun q => absurd q (by decide)) (fun _ => ?_)
                refine w.iload d0_359 rfl ?_
                refine w.ifEq d0_361 d0_361t (fun q => absurd q (by decide)) (fun _ => ?_)
                refine w.iconst (1 : Int32) d0_364 rfl ?_
                refine w.goto d0_365 d0_365t ?_
                refine w.istore #[.val (.int va), .val (.int vb), .val (.int vc), .val (.int vd), .val (.int mo), .val (.int rcl), .val (.int ocl), .val (.int ril), .val (.int oil), .val (.int rc0), .val (.int rc1), .val (.int oc0), .val (.int oc1), .val (.int ri0), .val (.int ri1), .val (.int oi0), .val (.int oi1), .val (.ref s1), .val (.ref s2), .val (.ref s3), .val (.ref s4), .val (.ref x1), .val (.int kd), .val (.ref x2), .val (.int (1 : Int32)), .val (.int (1 : Int32)), .val (.int (1 : Int32))] d0_369 rfl ?_
                refine w.aload d0_371 rfl rfl ?_
                refine w.aload d0_373 rfl rfl ?_
                refine w.callV (argsL := [(.ref x2)]) (rest := []) 0 d0_375 (tw hw 118 rfl) (tw hw 119 rfl) (tw hw 121 rfl) (tw hw 120 rfl) (tw hw 41 rfl) (tw hw 122 rfl) (by decide) EE_x1 (rmE l Z a0 hw hr x1 x2 s1 s2 s3 s4 t_s1 t_s2 t_s3 t_s4 _ _ _ _ h0 w.old EE_x2 F0_x1 F1_x1 S_s1 S_s2 F0_x2 F1_x2 S_s3 S_s4) (lenOf pd_21 rfl) rfl rfl (Nat.le_refl _) ⟨by decide, by decide, by decide, by decide⟩ all0 ?_
                intro T h45 r w _ hQ
                obtain ⟨rfl, rfl⟩ := hQ
                show Go cx _ Z _ _ _ T 378 #[.val (.int va), .val (.int vb), .val (.int vc), .val (.int vd), .val (.int mo), .val (.int rcl), .val (.int ocl), .val (.int ril), .val (.int oil), .val (.int rc0), .val (.int rc1), .val (.int oc0), .val (.int oc1), .val (.int ri0), .val (.int ri1), .val (.int oi0), .val (.int oi1), .val (.ref s1), .val (.ref s2), .val (.ref s3), .val (.ref s4), .val (.ref x1), .val (.int kd), .val (.ref x2), .val (.int (1 : Int32)), .val (.int (1 : Int32)), .val (.int (1 : Int32))] [(.int (if (own_bytes rcl rc0 rc1) = (own_bytes ocl oc0 oc1) ∧ (own_bytes ril ri0 ri1) = (own_bytes oil oi0 oi1) then 1 else 0))]
                refine w.iload d0_378 rfl ?_
                refine w.icmpNe d0_380 d0_380t (fun q => absurd (if_pos ⟨e1.mpr g1, e2.mpr g2⟩) q) (fun _ => ?_)
                refine w.aload d0_383 rfl rfl ?_
                refine w.aload d0_385 rfl rfl ?_
                refine w.callV (argsL := [(.ref x1)]) (rest := []) 0 d0_387 (tw hw 118 rfl) (tw hw 119 rfl) (tw hw 121 rfl) (tw hw 120 rfl) (tw hw 41 rfl) (tw hw 122 rfl) (by decide) EE_x2 (rmE l Z a0 hw hr x2 x1 s3 s4 s1 s2 t_s3 t_s4 t_s1 t_s2 _ _ _ _ h0 w.old EE_x1 F0_x2 F1_x2 S_s3 S_s4 F0_x1 F1_x1 S_s1 S_s2) (lenOf pd_21 rfl) rfl rfl (Nat.le_refl _) ⟨by decide, by decide, by decide, by decide⟩ all0 ?_
                intro T h46 r w _ hQ
                obtain ⟨rfl, rfl⟩ := hQ
                show Go cx _ Z _ _ _ T 390 #[.val (.int va), .val (.int vb), .val (.int vc), .val (.int vd), .val (.int mo), .val (.int rcl), .val (.int ocl), .val (.int ril), .val (.int oil), .val (.int rc0), .val (.int rc1), .val (.int oc0), .val (.int oc1), .val (.int ri0), .val (.int ri1), .val (.int oi0), .val (.int oi1), .val (.ref s1), .val (.ref s2), .val (.ref s3), .val (.ref s4), .val (.ref x1), .val (.int kd), .val (.ref x2), .val (.int (1 : Int32)), .val (.int (1 : Int32)), .val (.int (1 : Int32))] [(.int (if (own_bytes ocl oc0 oc1) = (own_bytes rcl rc0 rc1) ∧ (own_bytes oil oi0 oi1) = (own_bytes ril ri0 ri1) then 1 else 0))]
                refine w.iload d0_390 rfl ?_
                refine w.icmpNe d0_392 d0_392t (fun q => absurd (if_pos ⟨(e1.mpr g1).symm, (e2.mpr g2).symm⟩) q) (fun _ => ?_)
                refine w.iconst (1 : Int32) d0_395 rfl ?_
                refine w.goto d0_396 d0_396t ?_
                exact w.retN d0_400 rfl (by simp) rfl
              · refine w.iload d0_340 rfl ?_
                refine w.iload d0_342 rfl ?_
                refine w.icmpNe d0_344 d0_344t (fun d2 => ?_) (fun d2 => ?_)
                · refine w.iconst (0 : Int32) d0_351 rfl ?_
                  refine w.istore #[.val (.int va), .val (.int vb), .val (.int vc), .val (.int vd), .val (.int mo), .val (.int rcl), .val (.int ocl), .val (.int ril), .val (.int oil), .val (.int rc0), .val (.int rc1), .val (.int oc0), .val (.int oc1), .val (.int ri0), .val (.int ri1), .val (.int oi0), .val (.int oi1), .val (.ref s1), .val (.ref s2), .val (.ref s3), .val (.ref s4), .val (.ref x1), .val (.int kd), .val (.ref x2), .val (.int (1 : Int32)), .val (.int (0 : Int32)), .unset] d0_352 rfl ?_
                  have g2 : ¬ (ril = oil ∧ ri0 = oi0 ∧ (ril = 1 ∨ ri1 = oi1)) := fun z => z.2.2.elim c2 d2
                  refine w.iload d0_354 rfl ?_
                  refine w.ifEq d0_356 d0_356t (fun q => absurd q (by decide)) (fun _ => ?_)
                  refine w.iload d0_359 rfl ?_
                  refine w.ifEq d0_361 d0_361t (fun _ => ?_) (fun q => absurd rfl q)
                  refine w.iconst (0 : Int32) d0_368 rfl ?_
                  refine w.istore #[.val (.int va), .val (.int vb), .val (.int vc), .val (.int vd), .val (.int mo), .val (.int rcl), .val (.int ocl), .val (.int ril), .val (.int oil), .val (.int rc0), .val (.int rc1), .val (.int oc0), .val (.int oc1), .val (.int ri0), .val (.int ri1), .val (.int oi0), .val (.int oi1), .val (.ref s1), .val (.ref s2), .val (.ref s3), .val (.ref s4), .val (.ref x1), .val (.int kd), .val (.ref x2), .val (.int (1 : Int32)), .val (.int (0 : Int32)), .val (.int (0 : Int32))] d0_369 rfl ?_
                  refine w.aload d0_371 rfl rfl ?_
                  refine w.aload d0_373 rfl rfl ?_
                  refine w.callV (argsL := [(.ref x2)]) (rest := []) 0 d0_375 (tw hw 118 rfl) (tw hw 119 rfl) (tw hw 121 rfl) (tw hw 120 rfl) (tw hw 41 rfl) (tw hw 122 rfl) (by decide) EE_x1 (rmE l Z a0 hw hr x1 x2 s1 s2 s3 s4 t_s1 t_s2 t_s3 t_s4 _ _ _ _ h0 w.old EE_x2 F0_x1 F1_x1 S_s1 S_s2 F0_x2 F1_x2 S_s3 S_s4) (lenOf pd_21 rfl) rfl rfl (Nat.le_refl _) ⟨by decide, by decide, by decide, by decide⟩ all0 ?_
                  intro T h47 r w _ hQ
                  obtain ⟨rfl, rfl⟩ := hQ
                  show Go cx _ Z _ _ _ T 378 #[.val (.int va), .val (.int vb), .val (.int vc), .val (.int vd), .val (.int mo), .val (.int rcl), .val (.int ocl), .val (.int ril), .val (.int oil), .val (.int rc0), .val (.int rc1), .val (.int oc0), .val (.int oc1), .val (.int ri0), .val (.int ri1), .val (.int oi0), .val (.int oi1), .val (.ref s1), .val (.ref s2), .val (.ref s3), .val (.ref s4), .val (.ref x1), .val (.int kd), .val (.ref x2), .val (.int (1 : Int32)), .val (.int (0 : Int32)), .val (.int (0 : Int32))] [(.int (if (own_bytes rcl rc0 rc1) = (own_bytes ocl oc0 oc1) ∧ (own_bytes ril ri0 ri1) = (own_bytes oil oi0 oi1) then 1 else 0))]
                  refine w.iload d0_378 rfl ?_
                  refine w.icmpNe d0_380 d0_380t (fun q => absurd (if_neg (fun z => g2 (e2.mp z.2))) q) (fun _ => ?_)
                  refine w.aload d0_383 rfl rfl ?_
                  refine w.aload d0_385 rfl rfl ?_
                  refine w.callV (argsL := [(.ref x1)]) (rest := []) 0 d0_387 (tw hw 118 rfl) (tw hw 119 rfl) (tw hw 121 rfl) (tw hw 120 rfl) (tw hw 41 rfl) (tw hw 122 rfl) (by decide) EE_x2 (rmE l Z a0 hw hr x2 x1 s3 s4 s1 s2 t_s3 t_s4 t_s1 t_s2 _ _ _ _ h0 w.old EE_x1 F0_x2 F1_x2 S_s3 S_s4 F0_x1 F1_x1 S_s1 S_s2) (lenOf pd_21 rfl) rfl rfl (Nat.le_refl _) ⟨by decide, by decide, by decide, by decide⟩ all0 ?_
                  intro T h48 r w _ hQ
                  obtain ⟨rfl, rfl⟩ := hQ
                  show Go cx _ Z _ _ _ T 390 #[.val (.int va), .val (.int vb), .val (.int vc), .val (.int vd), .val (.int mo), .val (.int rcl), .val (.int ocl), .val (.int ril), .val (.int oil), .val (.int rc0), .val (.int rc1), .val (.int oc0), .val (.int oc1), .val (.int ri0), .val (.int ri1), .val (.int oi0), .val (.int oi1), .val (.ref s1), .val (.ref s2), .val (.ref s3), .val (.ref s4), .val (.ref x1), .val (.int kd), .val (.ref x2), .val (.int (1 : Int32)), .val (.int (0 : Int32)), .val (.int (0 : Int32))] [(.int (if (own_bytes ocl oc0 oc1) = (own_bytes rcl rc0 rc1) ∧ (own_bytes oil oi0 oi1) = (own_bytes ril ri0 ri1) then 1 else 0))]
                  refine w.iload d0_390 rfl ?_
                  refine w.icmpNe d0_392 d0_392t (fun q => absurd (if_neg (fun z => g2 (e2.mp z.2.symm))) q) (fun _ => ?_)
                  refine w.iconst (1 : Int32) d0_395 rfl ?_
                  refine w.goto d0_396 d0_396t ?_
                  exact w.retN d0_400 rfl (by simp) rfl
                · refine w.iconst (1 : Int32) d0_347 rfl ?_
                  refine w.goto d0_348 d0_348t ?_
                  refine w.istore #[.val (.int va), .val (.int vb), .val (.int vc), .val (.int vd), .val (.int mo), .val (.int rcl), .val (.int ocl), .val (.int ril), .val (.int oil), .val (.int rc0), .val (.int rc1), .val (.int oc0), .val (.int oc1), .val (.int ri0), .val (.int ri1), .val (.int oi0), .val (.int oi1), .val (.ref s1), .val (.ref s2), .val (.ref s3), .val (.ref s4), .val (.ref x1), .val (.int kd), .val (.ref x2), .val (.int (1 : Int32)), .val (.int (1 : Int32)), .unset] d0_352 rfl ?_
                  have g2 : ril = oil ∧ ri0 = oi0 ∧ (ril = 1 ∨ ri1 = oi1) := ⟨a2, b2, Or.inr d2⟩
                  refine w.iload d0_354 rfl ?_
                  refine w.ifEq d0_356 d0_356t (fun q => absurd q (by decide)) (fun _ => ?_)
                  refine w.iload d0_359 rfl ?_
                  refine w.ifEq d0_361 d0_361t (fun q => absurd q (by decide)) (fun _ => ?_)
                  refine w.iconst (1 : Int32) d0_364 rfl ?_
                  refine w.goto d0_365 d0_365t ?_
                  refine w.istore #[.val (.int va), .val (.int vb), .val (.int vc), .val (.int vd), .val (.int mo), .val (.int rcl), .val (.int ocl), .val (.int ril), .val (.int oil), .val (.int rc0), .val (.int rc1), .val (.int oc0), .val (.int oc1), .val (.int ri0), .val (.int ri1), .val (.int oi0), .val (.int oi1), .val (.ref s1), .val (.ref s2), .val (.ref s3), .val (.ref s4), .val (.ref x1), .val (.int kd), .val (.ref x2), .val (.int (1 : Int32)), .val (.int (1 : Int32)), .val (.int (1 : Int32))] d0_369 rfl ?_
                  refine w.aload d0_371 rfl rfl ?_
                  refine w.aload d0_373 rfl rfl ?_
                  refine w.callV (argsL := [(.ref x2)]) (rest := []) 0 d0_375 (tw hw 118 rfl) (tw hw 119 rfl) (tw hw 121 rfl) (tw hw 120 rfl) (tw hw 41 rfl) (tw hw 122 rfl) (by decide) EE_x1 (rmE l Z a0 hw hr x1 x2 s1 s2 s3 s4 t_s1 t_s2 t_s3 t_s4 _ _ _ _ h0 w.old EE_x2 F0_x1 F1_x1 S_s1 S_s2 F0_x2 F1_x2 S_s3 S_s4) (lenOf pd_21 rfl) rfl rfl (Nat.le_refl _) ⟨by decide, by decide, by decide, by decide⟩ all0 ?_
                  intro T h49 r w _ hQ
                  obtain ⟨rfl, rfl⟩ := hQ
                  show Go cx _ Z _ _ _ T 378 #[.val (.int va), .val (.int vb), .val (.int vc), .val (.int vd), .val (.int mo), .val (.int rcl), .val (.int ocl), .val (.int ril), .val (.int oil), .val (.int rc0), .val (.int rc1), .val (.int oc0), .val (.int oc1), .val (.int ri0), .val (.int ri1), .val (.int oi0), .val (.int oi1), .val (.ref s1), .val (.ref s2), .val (.ref s3), .val (.ref s4), .val (.ref x1), .val (.int kd), .val (.ref x2), .val (.int (1 : Int32)), .val (.int (1 : Int32)), .val (.int (1 : Int32))] [(.int (if (own_bytes rcl rc0 rc1) = (own_bytes ocl oc0 oc1) ∧ (own_bytes ril ri0 ri1) = (own_bytes oil oi0 oi1) then 1 else 0))]
                  refine w.iload d0_378 rfl ?_
                  refine w.icmpNe d0_380 d0_380t (fun q => absurd (if_pos ⟨e1.mpr g1, e2.mpr g2⟩) q) (fun _ => ?_)
                  refine w.aload d0_383 rfl rfl ?_
                  refine w.aload d0_385 rfl rfl ?_
                  refine w.callV (argsL := [(.ref x1)]) (rest := []) 0 d0_387 (tw hw 118 rfl) (tw hw 119 rfl) (tw hw 121 rfl) (tw hw 120 rfl) (tw hw 41 rfl) (tw hw 122 rfl) (by decide) EE_x2 (rmE l Z a0 hw hr x2 x1 s3 s4 s1 s2 t_s3 t_s4 t_s1 t_s2 _ _ _ _ h0 w.old EE_x1 F0_x2 F1_x2 S_s3 S_s4 F0_x1 F1_x1 S_s1 S_s2) (lenOf pd_21 rfl) rfl rfl (Nat.le_refl _) ⟨by decide, by decide, by decide, by decide⟩ all0 ?_
                  intro T h50 r w _ hQ
                  obtain ⟨rfl, rfl⟩ := hQ
                  show Go cx _ Z _ _ _ T 390 #[.val (.int va), .val (.int vb), .val (.int vc), .val (.int vd), .val (.int mo), .val (.int rcl), .val (.int ocl), .val (.int ril), .val (.int oil), .val (.int rc0), .val (.int rc1), .val (.int oc0), .val (.int oc1), .val (.int ri0), .val (.int ri1), .val (.int oi0), .val (.int oi1), .val (.ref s1), .val (.ref s2), .val (.ref s3), .val (.ref s4), .val (.ref x1), .val (.int kd), .val (.ref x2), .val (.int (1 : Int32)), .val (.int (1 : Int32)), .val (.int (1 : Int32))] [(.int (if (own_bytes ocl oc0 oc1) = (own_bytes rcl rc0 rc1) ∧ (own_bytes oil oi0 oi1) = (own_bytes ril ri0 ri1) then 1 else 0))]
                  refine w.iload d0_390 rfl ?_
                  refine w.icmpNe d0_392 d0_392t (fun q => absurd (if_pos ⟨(e1.mpr g1).symm, (e2.mpr g2).symm⟩) q) (fun _ => ?_)
                  refine w.iconst (1 : Int32) d0_395 rfl ?_
                  refine w.goto d0_396 d0_396t ?_
                  exact w.retN d0_400 rfl (by simp) rfl

set_option maxRecDepth 65536 in
set_option maxHeartbeats 40000000 in
theorem pc149 (l : Launch) (Z : State) (a0 : Array Value) (hw : ∀ d ∈ tables_1, d.before a0 Z = true) (hr : rest_1_c.value a0 Z none Z [] = some true) (va vb vc vd mo rcl ocl ril oil rc0 rc1 oc0 oc1 ri0 ri1 oi0 oi1 : Int32) (hl1 : rcl = 1 ∨ rcl = 2) (hl2 : ocl = 1 ∨ ocl = 2) (hl3 : ril = 1 ∨ ril = 2) (hl4 : oil = 1 ∨ oil = 2) (h_rc0 : own_L rc0) (h_rc1 : own_N rc1) (h_oc0 : own_L oc0) (h_oc1 : own_N oc1) (h_ri0 : own_I ri0) (h_ri1 : own_I ri1) (h_oi0 : own_I oi0) (h_oi1 : own_I oi1) (h0 : Heap) (cx : Cx) (T : State) (w : W cx true l Z [] room_1 (MethodName.cls x) code maxLocals ret (MethodName.name x) T h0 (0) (0) []) :
    Go cx true Z [] room_1 (fun v _ => v = some (.int 1)) T 149 #[.val (.int va), .val (.int vb), .val (.int vc), .val (.int vd), .val (.int mo), .val (.int rcl), .val (.int ocl), .val (.int ril), .val (.int oil), .val (.int rc0), .val (.int rc1), .val (.int oc0), .val (.int oc1), .val (.int ri0), .val (.int ri1), .val (.int oi0), .val (.int oi1), .unset, .unset, .unset, .unset, .unset, .unset, .unset, .unset, .unset, .unset] [] := by
  have k_rc0 := own_Lp h_rc0
  have k_rc1 := own_Np h_rc1
  have k_oc0 := own_Lp h_oc0
  have k_oc1 := own_Np h_oc1
  have k_ri0 := own_Ip h_ri0
  have k_ri1 := own_Ip h_ri1
  have k_oi0 := own_Ip h_oi0
  have k_oi1 := own_Ip h_oi1
  refine w.iload d0_149 rfl ?_
  refine w.iload d0_151 rfl ?_
  refine w.iload d0_153 rfl ?_
  refine w.callS (argsL := [(.int rcl), (.int rc0), (.int rc1)]) (rest := []) 0 d0_155 (tw hw 10 rfl) (tw hw 11 rfl) (tw hw 2 rfl) (tw hw 12 rfl) (by decide) (rmMk l Z a0 hw hr rcl rc0 rc1 h0 w.old (nchar k_rc0.1 k_rc0.2.1) (nchar k_rc1.1 k_rc1.2.1) k_rc0.2.1 k_rc1.2.1) (lenOf pd_22 rfl) rfl rfl (Nat.le_refl _) ⟨by decide, by decide, by decide, by decide⟩ all0 ?_
  intro T h1 r w _ hQ
  obtain ⟨s1, t_s1, rfl, E_s1, S_s1⟩ := hQ
  show Go cx _ Z _ _ _ T 158 #[.val (.int va), .val (.int vb), .val (.int vc), .val (.int vd), .val (.int mo), .val (.int rcl), .val (.int ocl), .val (.int ril), .val (.int oil), .val (.int rc0), .val (.int rc1), .val (.int oc0), .val (.int oc1), .val (.int ri0), .val (.int ri1), .val (.int oi0), .val (.int oi1), .unset, .unset, .unset, .unset, .unset, .unset, .unset, .unset, .unset, .unset] [(.ref s1)]
  refine w.astore #[.val (.int va), .val (.int vb), .val (.int vc), .val (.int vd), .val (.int mo), .val (.int rcl), .val (.int ocl), .val (.int ril), .val (.int oil), .val (.int rc0), .val (.int rc1), .val (.int oc0), .val (.int oc1), .val (.int ri0), .val (.int ri1), .val (.int oi0), .val (.int oi1), .val (.ref s1), .unset, .unset, .unset, .unset, .unset, .unset, .unset, .unset, .unset] d0_158 rfl rfl ?_
  refine w.iload d0_160 rfl ?_
  refine w.iload d0_162 rfl ?_
  refine w.iload d0_164 rfl ?_
  refine w.callS (argsL := [(.int ril), (.int ri0), (.int ri1)]) (rest := []) 0 d0_166 (tw hw 10 rfl) (tw hw 11 rfl) (tw hw 2 rfl) (tw hw 12 rfl) (by decide) (rmMk l Z a0 hw hr ril ri0 ri1 h1 w.old (nchar k_ri0.1 k_ri0.2.1) (nchar k_ri1.1 k_ri1.2.1) k_ri0.2.1 k_ri1.2.1) (lenOf pd_22 rfl) rfl rfl (Nat.le_refl _) ⟨by decide, by decide, by decide, by decide⟩ all0 ?_
  intro T h2 r w _ hQ
  obtain ⟨s2, t_s2, rfl, E_s2, S_s2⟩ := hQ
  have F1 := S_s1.ext E_s2
  show Go cx _ Z _ _ _ T 169 #[.val (.int va), .val (.int vb), .val (.int vc), .val (.int vd), .val (.int mo), .val (.int rcl), .val (.int ocl), .val (.int ril), .val (.int oil), .val (.int rc0), .val (.int rc1), .val (.int oc0), .val (.int oc1), .val (.int ri0), .val (.int ri1), .val (.int oi0), .val (.int oi1), .val (.ref s1), .unset, .unset, .unset, .unset, .unset, .unset, .unset, .unset, .unset] [(.ref s2)]
  refine w.astore #[.val (.int va), .val (.int vb), .val (.int vc), .val (.int vd), .val (.int mo), .val (.int rcl), .val (.int ocl), .val (.int ril), .val (.int oil), .val (.int rc0), .val (.int rc1), .val (.int oc0), .val (.int oc1), .val (.int ri0), .val (.int ri1), .val (.int oi0), .val (.int oi1), .val (.ref s1), .val (.ref s2), .unset, .unset, .unset, .unset, .unset, .unset, .unset, .unset] d0_169 rfl rfl ?_
  refine w.iload d0_171 rfl ?_
  refine w.iload d0_173 rfl ?_
  refine w.iload d0_175 rfl ?_
  refine w.callS (argsL := [(.int ocl), (.int oc0), (.int oc1)]) (rest := []) 0 d0_177 (tw hw 10 rfl) (tw hw 11 rfl) (tw hw 2 rfl) (tw hw 12 rfl) (by decide) (rmMk l Z a0 hw hr ocl oc0 oc1 h2 w.old (nchar k_oc0.1 k_oc0.2.1) (nchar k_oc1.1 k_oc1.2.1) k_oc0.2.1 k_oc1.2.1) (lenOf pd_22 rfl) rfl rfl (Nat.le_refl _) ⟨by decide, by decide, by decide, by decide⟩ all0 ?_
  intro T h3 r w _ hQ
  obtain ⟨s3, t_s3, rfl, E_s3, S_s3⟩ := hQ
  have F2 := F1.ext E_s3
  have F3 := S_s2.ext E_s3
  show Go cx _ Z _ _ _ T 180 #[.val (.int va), .val (.int vb), .val (.int vc), .val (.int vd), .val (.int mo), .val (.int rcl), .val (.int ocl), .val (.int ril), .val (.int oil), .val (.int rc0), .val (.int rc1), .val (.int oc0), .val (.int oc1), .val (.int ri0), .val (.int ri1), .val (.int oi0), .val (.int oi1), .val (.ref s1), .val (.ref s2), .unset, .unset, .unset, .unset, .unset, .unset, .unset, .unset] [(.ref s3)]
  refine w.astore #[.val (.int va), .val (.int vb), .val (.int vc), .val (.int vd), .val (.int mo), .val (.int rcl), .val (.int ocl), .val (.int ril), .val (.int oil), .val (.int rc0), .val (.int rc1), .val (.int oc0), .val (.int oc1), .val (.int ri0), .val (.int ri1), .val (.int oi0), .val (.int oi1), .val (.ref s1), .val (.ref s2), .val (.ref s3), .unset, .unset, .unset, .unset, .unset, .unset, .unset] d0_180 rfl rfl ?_
  refine w.iload d0_182 rfl ?_
  refine w.iload d0_184 rfl ?_
  refine w.iload d0_186 rfl ?_
  refine w.callS (argsL := [(.int oil), (.int oi0), (.int oi1)]) (rest := []) 0 d0_188 (tw hw 10 rfl) (tw hw 11 rfl) (tw hw 2 rfl) (tw hw 12 rfl) (by decide) (rmMk l Z a0 hw hr oil oi0 oi1 h3 w.old (nchar k_oi0.1 k_oi0.2.1) (nchar k_oi1.1 k_oi1.2.1) k_oi0.2.1 k_oi1.2.1) (lenOf pd_22 rfl) rfl rfl (Nat.le_refl _) ⟨by decide, by decide, by decide, by decide⟩ all0 ?_
  intro T h4 r w _ hQ
  obtain ⟨s4, t_s4, rfl, E_s4, S_s4⟩ := hQ
  have F4 := F2.ext E_s4
  have F5 := F3.ext E_s4
  have F6 := S_s3.ext E_s4
  show Go cx _ Z _ _ _ T 191 #[.val (.int va), .val (.int vb), .val (.int vc), .val (.int vd), .val (.int mo), .val (.int rcl), .val (.int ocl), .val (.int ril), .val (.int oil), .val (.int rc0), .val (.int rc1), .val (.int oc0), .val (.int oc1), .val (.int ri0), .val (.int ri1), .val (.int oi0), .val (.int oi1), .val (.ref s1), .val (.ref s2), .val (.ref s3), .unset, .unset, .unset, .unset, .unset, .unset, .unset] [(.ref s4)]
  refine w.astore #[.val (.int va), .val (.int vb), .val (.int vc), .val (.int vd), .val (.int mo), .val (.int rcl), .val (.int ocl), .val (.int ril), .val (.int oil), .val (.int rc0), .val (.int rc1), .val (.int oc0), .val (.int oc1), .val (.int ri0), .val (.int ri1), .val (.int oi0), .val (.int oi1), .val (.ref s1), .val (.ref s2), .val (.ref s3), .val (.ref s4), .unset, .unset, .unset, .unset, .unset, .unset] d0_191 rfl rfl ?_
  have sz0 := w.size
  refine w.new d0_193 (tw hw 39 rfl) (tw hw 40 rfl) (tw hw 41 rfl) ⟨by decide, by decide⟩ ?_
  intro x1 T h5 g_x1 w E7 A8 D9
  have ne_s1_x1 : s1 ≠ x1 := Nat.ne_of_lt (Nat.lt_of_lt_of_eq F4.lt g_x1.symm)
  have ne_t_s1_x1 : t_s1 ≠ x1 := Nat.ne_of_lt (Nat.lt_of_lt_of_eq F4.lt' g_x1.symm)
  have ne_s2_x1 : s2 ≠ x1 := Nat.ne_of_lt (Nat.lt_of_lt_of_eq F5.lt g_x1.symm)
  have ne_t_s2_x1 : t_s2 ≠ x1 := Nat.ne_of_lt (Nat.lt_of_lt_of_eq F5.lt' g_x1.symm)
  have ne_s3_x1 : s3 ≠ x1 := Nat.ne_of_lt (Nat.lt_of_lt_of_eq F6.lt g_x1.symm)
  have ne_t_s3_x1 : t_s3 ≠ x1 := Nat.ne_of_lt (Nat.lt_of_lt_of_eq F6.lt' g_x1.symm)
  have ne_s4_x1 : s4 ≠ x1 := Nat.ne_of_lt (Nat.lt_of_lt_of_eq S_s4.lt g_x1.symm)
  have ne_t_s4_x1 : t_s4 ≠ x1 := Nat.ne_of_lt (Nat.lt_of_lt_of_eq S_s4.lt' g_x1.symm)
  have ge_x1 : Z.heap.size ≤ x1 := by rw [g_x1]; exact sz0
  have F10 := F4.ext E7
  have F11 := F5.ext E7
  have F12 := F6.ext E7
  have F13 := S_s4.ext E7
  have F14 : Fld Z h5 x1 "com/example/lucioles/lucioles/model/Rdn" "className" "Ljava/lang/String;" .null := D9 (Or.inr (tw hw 115 rfl)) (ty := (.object "java/lang/String")) (by decide)
  have F15 : Fld Z h5 x1 "com/example/lucioles/lucioles/model/Rdn" "id" "Ljava/lang/String;" .null := D9 (Or.inr (tw hw 117 rfl)) (ty := (.object "java/lang/String")) (by decide)
  refine w.dup d0_196 rfl ?_
  refine w.aload d0_197 rfl rfl ?_
  refine w.aload d0_199 rfl rfl ?_
  refine w.callI (argsL := [(.ref s1), (.ref s2)]) (rest := [(.ref x1)]) 1 d0_201 rfl (tw hw 42 rfl) (tw hw 43 rfl) (tw hw 41 rfl) (tw hw 44 rfl) (by decide) (rmI l Z a0 hw hr x1 s1 s2 t_s1 t_s2 rcl rc0 rc1 ril ri0 ri1 hl1 hl3 h_rc0 h_rc1 h_ri0 h_ri1 h5 w.old ge_x1 A8 F14 F15 F10 F11) (lenOf pd_23 rfl) rfl rfl (Nat.le_refl _) ⟨by decide, by decide, by decide, by decide⟩ (allS (List.mem_of_getElem? (i := 0) rfl) all0) ?_
  intro T h6 r w _ hQ
  obtain ⟨rfl, K_x1, EE_x1, F0_x1, F1_x1⟩ := hQ
  have F16 := F10.keep K_x1 (ninS ne_s1_x1 nin0) (ninS ne_t_s1_x1 nin0)
  have F17 := F11.keep K_x1 (ninS ne_s2_x1 nin0) (ninS ne_t_s2_x1 nin0)
  have F18 := F12.keep K_x1 (ninS ne_s3_x1 nin0) (ninS ne_t_s3_x1 nin0)
  have F19 := F13.keep K_x1 (ninS ne_s4_x1 nin0) (ninS ne_t_s4_x1 nin0)
  show Go cx _ Z _ _ _ T 204 #[.val (.int va), .val (.int vb), .val (.int vc), .val (.int vd), .val (.int mo), .val (.int rcl), .val (.int ocl), .val (.int ril), .val (.int oil), .val (.int rc0), .val (.int rc1), .val (.int oc0), .val (.int oc1), .val (.int ri0), .val (.int ri1), .val (.int oi0), .val (.int oi1), .val (.ref s1), .val (.ref s2), .val (.ref s3), .val (.ref s4), .unset, .unset, .unset, .unset, .unset, .unset] [(.ref x1)]
  refine w.astore #[.val (.int va), .val (.int vb), .val (.int vc), .val (.int vd), .val (.int mo), .val (.int rcl), .val (.int ocl), .val (.int ril), .val (.int oil), .val (.int rc0), .val (.int rc1), .val (.int oc0), .val (.int oc1), .val (.int ri0), .val (.int ri1), .val (.int oi0), .val (.int oi1), .val (.ref s1), .val (.ref s2), .val (.ref s3), .val (.ref s4), .val (.ref x1), .unset, .unset, .unset, .unset, .unset] d0_204 rfl rfl ?_
  refine w.iload d0_206 rfl ?_
  refine w.iconst (4 : Int32) d0_208 rfl ?_
  refine w.iushr d0_209 ?_
  refine w.iconst (3 : Int32) d0_210 rfl ?_
  refine w.iand d0_211 ?_
  refine w.istore #[.val (.int va), .val (.int vb), .val (.int vc), .val (.int vd), .val (.int mo), .val (.int rcl), .val (.int ocl), .val (.int ril), .val (.int oil), .val (.int rc0), .val (.int rc1), .val (.int oc0), .val (.int oc1), .val (.int ri0), .val (.int ri1), .val (.int oi0), .val (.int oi1), .val (.ref s1), .val (.ref s2), .val (.ref s3), .val (.ref s4), .val (.ref x1), .val (.int ((XT.ushr mo (4 : Int32)) &&& (3 : Int32))), .unset, .unset, .unset, .unset] d0_212 rfl ?_
  have e4 := and3 (XT.ushr mo (4 : Int32))
  generalize (XT.ushr mo (4 : Int32)) &&& (3 : Int32) = kd at e4 ⊢
  rcases e4 with rfl | rfl | rfl | rfl
  · show Go cx _ Z _ _ _ T 214 #[.val (.int va), .val (.int vb), .val (.int vc), .val (.int vd), .val (.int mo), .val (.int rcl), .val (.int ocl), .val (.int ril), .val (.int oil), .val (.int rc0), .val (.int rc1), .val (.int oc0), .val (.int oc1), .val (.int ri0), .val (.int ri1), .val (.int oi0), .val (.int oi1), .val (.ref s1), .val (.ref s2), .val (.ref s3), .val (.ref s4), .val (.ref x1), .val (.int (0 : Int32)), .unset, .unset, .unset, .unset] []
    refine w.iload d0_214 rfl ?_
    refine w.iconst (2 : Int32) d0_216 rfl ?_
    refine w.icmpNe d0_217 d0_217t (fun _ => ?_) (fun q => absurd q (by decide))
    refine w.iload d0_228 rfl ?_
    refine w.iconst (3 : Int32) d0_230 rfl ?_
    refine w.icmpNe d0_231 d0_231t (fun _ => ?_) (fun q => absurd q (by decide))
    have sz0 := w.size
    refine w.new d0_273 (tw hw 39 rfl) (tw hw 40 rfl) (tw hw 41 rfl) ⟨by decide, by decide⟩ ?_
    intro x2 T h7 g_x2 w E20 A21 D22
    have ne_s1_x2 : s1 ≠ x2 := Nat.ne_of_lt (Nat.lt_of_lt_of_eq F16.lt g_x2.symm)
    have ne_t_s1_x2 : t_s1 ≠ x2 := Nat.ne_of_lt (Nat.lt_of_lt_of_eq F16.lt' g_x2.symm)
    have ne_s2_x2 : s2 ≠ x2 := Nat.ne_of_lt (Nat.lt_of_lt_of_eq F17.lt g_x2.symm)
    have ne_t_s2_x2 : t_s2 ≠ x2 := Nat.ne_of_lt (Nat.lt_of_lt_of_eq F17.lt' g_x2.symm)
    have ne_s3_x2 : s3 ≠ x2 := Nat.ne_of_lt (Nat.lt_of_lt_of_eq F18.lt g_x2.symm)
    have ne_t_s3_x2 : t_s3 ≠ x2 := Nat.ne_of_lt (Nat.lt_of_lt_of_eq F18.lt' g_x2.symm)
    have ne_s4_x2 : s4 ≠ x2 := Nat.ne_of_lt (Nat.lt_of_lt_of_eq F19.lt g_x2.symm)
    have ne_t_s4_x2 : t_s4 ≠ x2 := Nat.ne_of_lt (Nat.lt_of_lt_of_eq F19.lt' g_x2.symm)
    have ne_x1_x2 : x1 ≠ x2 := Nat.ne_of_lt (Nat.lt_of_lt_of_eq EE_x1.lt g_x2.symm)
    have ge_x2 : Z.heap.size ≤ x2 := by rw [g_x2]; exact sz0
    have F23 := F16.ext E20
    have F24 := F17.ext E20
    have F25 := F18.ext E20
    have F26 := F19.ext E20
    have F27 := EE_x1.ext E20
    have F28 := F0_x1.ext E20
    have F29 := F1_x1.ext E20
    have F30 : Fld Z h7 x2 "com/example/lucioles/lucioles/model/Rdn" "className" "Ljava/lang/String;" .null := D22 (Or.inr (tw hw 115 rfl)) (ty := (.object "java/lang/String")) (by decide)
    have F31 : Fld Z h7 x2 "com/example/lucioles/lucioles/model/Rdn" "id" "Ljava/lang/String;" .null := D22 (Or.inr (tw hw 117 rfl)) (ty := (.object "java/lang/String")) (by decide)
    refine w.dup d0_276 rfl ?_
    refine w.aload d0_277 rfl rfl ?_
    refine w.aload d0_279 rfl rfl ?_
    refine w.callI (argsL := [(.ref s3), (.ref s4)]) (rest := [(.ref x2)]) 1 d0_281 rfl (tw hw 42 rfl) (tw hw 43 rfl) (tw hw 41 rfl) (tw hw 44 rfl) (by decide) (rmI l Z a0 hw hr x2 s3 s4 t_s3 t_s4 ocl oc0 oc1 oil oi0 oi1 hl2 hl4 h_oc0 h_oc1 h_oi0 h_oi1 h7 w.old ge_x2 A21 F30 F31 F25 F26) (lenOf pd_23 rfl) rfl rfl (Nat.le_refl _) ⟨by decide, by decide, by decide, by decide⟩ (allS (List.mem_of_getElem? (i := 0) rfl) all0) ?_
    intro T h8 r w _ hQ
    obtain ⟨rfl, K_x2, EE_x2, F0_x2, F1_x2⟩ := hQ
    have F32 := F23.keep K_x2 (ninS ne_s1_x2 nin0) (ninS ne_t_s1_x2 nin0)
    have F33 := F24.keep K_x2 (ninS ne_s2_x2 nin0) (ninS ne_t_s2_x2 nin0)
    have F34 := F25.keep K_x2 (ninS ne_s3_x2 nin0) (ninS ne_t_s3_x2 nin0)
    have F35 := F26.keep K_x2 (ninS ne_s4_x2 nin0) (ninS ne_t_s4_x2 nin0)
    have F36 := F27.keep K_x2
    have F37 := F28.keep K_x2 (ninS ne_x1_x2 nin0)
    have F38 := F29.keep K_x2 (ninS ne_x1_x2 nin0)
    show Go cx _ Z _ _ _ T 284 #[.val (.int va), .val (.int vb), .val (.int vc), .val (.int vd), .val (.int mo), .val (.int rcl), .val (.int ocl), .val (.int ril), .val (.int oil), .val (.int rc0), .val (.int rc1), .val (.int oc0), .val (.int oc1), .val (.int ri0), .val (.int ri1), .val (.int oi0), .val (.int oi1), .val (.ref s1), .val (.ref s2), .val (.ref s3), .val (.ref s4), .val (.ref x1), .val (.int (0 : Int32)), .unset, .unset, .unset, .unset] [(.ref x2)]
    refine w.astore #[.val (.int va), .val (.int vb), .val (.int vc), .val (.int vd), .val (.int mo), .val (.int rcl), .val (.int ocl), .val (.int ril), .val (.int oil), .val (.int rc0), .val (.int rc1), .val (.int oc0), .val (.int oc1), .val (.int ri0), .val (.int ri1), .val (.int oi0), .val (.int oi1), .val (.ref s1), .val (.ref s2), .val (.ref s3), .val (.ref s4), .val (.ref x1), .val (.int (0 : Int32)), .val (.ref x2), .unset, .unset, .unset] d0_284 rfl rfl ?_
    exact pc286 l Z a0 hw hr va vb vc vd mo rcl ocl ril oil rc0 rc1 oc0 oc1 ri0 ri1 oi0 oi1 hl1 hl2 hl3 hl4 h_rc0 h_rc1 h_oc0 h_oc1 h_ri0 h_ri1 h_oi0 h_oi1 s1 s2 s3 s4 t_s1 t_s2 t_s3 t_s4 x1 x2 _ _ cx T ((w.more (by decide) (by decide) (by decide) (by decide)).less all0) F32 F33 F34 F35 F36 EE_x2 F37 F38 F0_x2 F1_x2  
  · show Go cx _ Z _ _ _ T 214 #[.val (.int va), .val (.int vb), .val (.int vc), .val (.int vd), .val (.int mo), .val (.int rcl), .val (.int ocl), .val (.int ril), .val (.int oil), .val (.int rc0), .val (.int rc1), .val (.int oc0), .val (.int oc1), .val (.int ri0), .val (.int ri1), .val (.int oi0), .val (.int oi1), .val (.ref s1), .val (.ref s2), .val (.ref s3), .val (.ref s4), .val (.ref x1), .val (.int (1 : Int32)), .unset, .unset, .unset, .unset] []
    refine w.iload d0_214 rfl ?_
    refine w.iconst (2 : Int32) d0_216 rfl ?_
    refine w.icmpNe d0_217 d0_217t (fun _ => ?_) (fun q => absurd q (by decide))
    refine w.iload d0_228 rfl ?_
    refine w.iconst (3 : Int32) d0_230 rfl ?_
    refine w.icmpNe d0_231 d0_231t (fun _ => ?_) (fun q => absurd q (by decide))
    have sz0 := w.size
    refine w.new d0_273 (tw hw 39 rfl) (tw hw 40 rfl) (tw hw 41 rfl) ⟨by decide, by decide⟩ ?_
    intro x2 T h9 g_x2 w E39 A40 D41
    have ne_s1_x2 : s1 ≠ x2 := Nat.ne_of_lt (Nat.lt_of_lt_of_eq F16.lt g_x2.symm)
    have ne_t_s1_x2 : t_s1 ≠ x2 := Nat.ne_of_lt (Nat.lt_of_lt_of_eq F16.lt' g_x2.symm)
    have ne_s2_x2 : s2 ≠ x2 := Nat.ne_of_lt (Nat.lt_of_lt_of_eq F17.lt g_x2.symm)
    have ne_t_s2_x2 : t_s2 ≠ x2 := Nat.ne_of_lt (Nat.lt_of_lt_of_eq F17.lt' g_x2.symm)
    have ne_s3_x2 : s3 ≠ x2 := Nat.ne_of_lt (Nat.lt_of_lt_of_eq F18.lt g_x2.symm)
    have ne_t_s3_x2 : t_s3 ≠ x2 := Nat.ne_of_lt (Nat.lt_of_lt_of_eq F18.lt' g_x2.symm)
    have ne_s4_x2 : s4 ≠ x2 := Nat.ne_of_lt (Nat.lt_of_lt_of_eq F19.lt g_x2.symm)
    have ne_t_s4_x2 : t_s4 ≠ x2 := Nat.ne_of_lt (Nat.lt_of_lt_of_eq F19.lt' g_x2.symm)
    have ne_x1_x2 : x1 ≠ x2 := Nat.ne_of_lt (Nat.lt_of_lt_of_eq EE_x1.lt g_x2.symm)
    have ge_x2 : Z.heap.size ≤ x2 := by rw [g_x2]; exact sz0
    have F42 := F16.ext E39
    have F43 := F17.ext E39
    have F44 := F18.ext E39
    have F45 := F19.ext E39
    have F46 := EE_x1.ext E39
    have F47 := F0_x1.ext E39
    have F48 := F1_x1.ext E39
    have F49 : Fld Z h9 x2 "com/example/lucioles/lucioles/model/Rdn" "className" "Ljava/lang/String;" .null := D41 (Or.inr (tw hw 115 rfl)) (ty := (.object "java/lang/String")) (by decide)
    have F50 : Fld Z h9 x2 "com/example/lucioles/lucioles/model/Rdn" "id" "Ljava/lang/String;" .null := D41 (Or.inr (tw hw 117 rfl)) (ty := (.object "java/lang/String")) (by decide)
    refine w.dup d0_276 rfl ?_
    refine w.aload d0_277 rfl rfl ?_
    refine w.aload d0_279 rfl rfl ?_
    refine w.callI (argsL := [(.ref s3), (.ref s4)]) (rest := [(.ref x2)]) 1 d0_281 rfl (tw hw 42 rfl) (tw hw 43 rfl) (tw hw 41 rfl) (tw hw 44 rfl) (by decide) (rmI l Z a0 hw hr x2 s3 s4 t_s3 t_s4 ocl oc0 oc1 oil oi0 oi1 hl2 hl4 h_oc0 h_oc1 h_oi0 h_oi1 h9 w.old ge_x2 A40 F49 F50 F44 F45) (lenOf pd_23 rfl) rfl rfl (Nat.le_refl _) ⟨by decide, by decide, by decide, by decide⟩ (allS (List.mem_of_getElem? (i := 0) rfl) all0) ?_
    intro T h10 r w _ hQ
    obtain ⟨rfl, K_x2, EE_x2, F0_x2, F1_x2⟩ := hQ
    have F51 := F42.keep K_x2 (ninS ne_s1_x2 nin0) (ninS ne_t_s1_x2 nin0)
    have F52 := F43.keep K_x2 (ninS ne_s2_x2 nin0) (ninS ne_t_s2_x2 nin0)
    have F53 := F44.keep K_x2 (ninS ne_s3_x2 nin0) (ninS ne_t_s3_x2 nin0)
    have F54 := F45.keep K_x2 (ninS ne_s4_x2 nin0) (ninS ne_t_s4_x2 nin0)
    have F55 := F46.keep K_x2
    have F56 := F47.keep K_x2 (ninS ne_x1_x2 nin0)
    have F57 := F48.keep K_x2 (ninS ne_x1_x2 nin0)
    show Go cx _ Z _ _ _ T 284 #[.val (.int va), .val (.int vb), .val (.int vc), .val (.int vd), .val (.int mo), .val (.int rcl), .val (.int ocl), .val (.int ril), .val (.int oil), .val (.int rc0), .val (.int rc1), .val (.int oc0), .val (.int oc1), .val (.int ri0), .val (.int ri1), .val (.int oi0), .val (.int oi1), .val (.ref s1), .val (.ref s2), .val (.ref s3), .val (.ref s4), .val (.ref x1), .val (.int (1 : Int32)), .unset, .unset, .unset, .unset] [(.ref x2)]
    refine w.astore #[.val (.int va), .val (.int vb), .val (.int vc), .val (.int vd), .val (.int mo), .val (.int rcl), .val (.int ocl), .val (.int ril), .val (.int oil), .val (.int rc0), .val (.int rc1), .val (.int oc0), .val (.int oc1), .val (.int ri0), .val (.int ri1), .val (.int oi0), .val (.int oi1), .val (.ref s1), .val (.ref s2), .val (.ref s3), .val (.ref s4), .val (.ref x1), .val (.int (1 : Int32)), .val (.ref x2), .unset, .unset, .unset] d0_284 rfl rfl ?_
    exact pc286 l Z a0 hw hr va vb vc vd mo rcl ocl ril oil rc0 rc1 oc0 oc1 ri0 ri1 oi0 oi1 hl1 hl2 hl3 hl4 h_rc0 h_rc1 h_oc0 h_oc1 h_ri0 h_ri1 h_oi0 h_oi1 s1 s2 s3 s4 t_s1 t_s2 t_s3 t_s4 x1 x2 _ _ cx T ((w.more (by decide) (by decide) (by decide) (by decide)).less all0) F51 F52 F53 F54 F55 EE_x2 F56 F57 F0_x2 F1_x2  
  · show Go cx _ Z _ _ _ T 214 #[.val (.int va), .val (.int vb), .val (.int vc), .val (.int vd), .val (.int mo), .val (.int rcl), .val (.int ocl), .val (.int ril), .val (.int oil), .val (.int rc0), .val (.int rc1), .val (.int oc0), .val (.int oc1), .val (.int ri0), .val (.int ri1), .val (.int oi0), .val (.int oi1), .val (.ref s1), .val (.ref s2), .val (.ref s3), .val (.ref s4), .val (.ref x1), .val (.int (2 : Int32)), .unset, .unset, .unset, .unset] []
    refine w.iload d0_214 rfl ?_
    refine w.iconst (2 : Int32) d0_216 rfl ?_
    refine w.icmpNe d0_217 d0_217t (fun q => absurd (by decide) q) (fun _ => ?_)
    refine w.aload d0_220 rfl rfl ?_
    refine w.aload d0_222 rfl rfl ?_
    refine w.callV (argsL := [(.ref x1)]) (rest := []) 0 d0_224 (tw hw 118 rfl) (tw hw 119 rfl) (tw hw 121 rfl) (tw hw 120 rfl) (tw hw 41 rfl) (tw hw 122 rfl) (by decide) EE_x1 (rmE l Z a0 hw hr x1 x1 s1 s2 s1 s2 t_s1 t_s2 t_s1 t_s2 _ _ _ _ h6 w.old EE_x1 F0_x1 F1_x1 F16 F17 F0_x1 F1_x1 F16 F17) (lenOf pd_21 rfl) rfl rfl (Nat.le_refl _) ⟨by decide, by decide, by decide, by decide⟩ all0 ?_
    intro T h11 r w _ hQ
    obtain ⟨rfl, rfl⟩ := hQ
    show Go cx _ Z _ _ _ T 227 #[.val (.int va), .val (.int vb), .val (.int vc), .val (.int vd), .val (.int mo), .val (.int rcl), .val (.int ocl), .val (.int ril), .val (.int oil), .val (.int rc0), .val (.int rc1), .val (.int oc0), .val (.int oc1), .val (.int ri0), .val (.int ri1), .val (.int oi0), .val (.int oi1), .val (.ref s1), .val (.ref s2), .val (.ref s3), .val (.ref s4), .val (.ref x1), .val (.int (2 : Int32)), .unset, .unset, .unset, .unset] [(.int (if (own_bytes rcl rc0 rc1) = (own_bytes rcl rc0 rc1) ∧ (own_bytes ril ri0 ri1) = (own_bytes ril ri0 ri1) then 1 else 0))]
    rw [if_pos ⟨rfl, rfl⟩]
    exact w.retN d0_227 rfl (by simp) rfl
  · show Go cx _ Z _ _ _ T 214 #[.val (.int va), .val (.int vb), .val (.int vc), .val (.int vd), .val (.int mo), .val (.int rcl), .val (.int ocl), .val (.int ril), .val (.int oil), .val (.int rc0), .val (.int rc1), .val (.int oc0), .val (.int oc1), .val (.int ri0), .val (.int ri1), .val (.int oi0), .val (.int oi1), .val (.ref s1), .val (.ref s2), .val (.ref s3), .val (.ref s4), .val (.ref x1), .val (.int (3 : Int32)), .unset, .unset, .unset, .unset] []
    refine w.iload d0_214 rfl ?_
    refine w.iconst (2 : Int32) d0_216 rfl ?_
    refine w.icmpNe d0_217 d0_217t (fun _ => ?_) (fun q => absurd q (by decide))
    refine w.iload d0_228 rfl ?_
    refine w.iconst (3 : Int32) d0_230 rfl ?_
    refine w.icmpNe d0_231 d0_231t (fun q => absurd (by decide) q) (fun _ => ?_)
    refine w.iload d0_234 rfl ?_
    refine w.bipush (64 : Int32) d0_236 rfl ?_
    refine w.iand d0_238 ?_
    refine w.ifEq d0_239 d0_239t (fun q1 => ?_) (fun q1 => ?_)
    · refine w.aload d0_257 rfl rfl ?_
      refine w.aload d0_259 rfl rfl ?_
      refine w.callV (argsL := [(.ref s1)]) (rest := []) 0 d0_261 (tw hw 118 rfl) (tw hw 119 rfl) (tw hw 121 rfl) (tw hw 120 rfl) (tw hw 41 rfl) (tw hw 122 rfl) (by decide) EE_x1 (rmEo l Z a0 hw x1 s1 (Ne.symm ne_s1_x1) h6 w.old F16.1) (lenOf pd_21 rfl) rfl rfl (Nat.le_refl _) ⟨by decide, by decide, by decide, by decide⟩ all0 ?_
      intro T h12 r w _ hQ
      obtain ⟨rfl, rfl⟩ := hQ
      show Go cx _ Z _ _ _ T 264 #[.val (.int va), .val (.int vb), .val (.int vc), .val (.int vd), .val (.int mo), .val (.int rcl), .val (.int ocl), .val (.int ril), .val (.int oil), .val (.int rc0), .val (.int rc1), .val (.int oc0), .val (.int oc1), .val (.int ri0), .val (.int ri1), .val (.int oi0), .val (.int oi1), .val (.ref s1), .val (.ref s2), .val (.ref s3), .val (.ref s4), .val (.ref x1), .val (.int (3 : Int32)), .unset, .unset, .unset, .unset] [(.int (0 : Int32))]
      refine w.ifNe d0_264 d0_264t (fun q => absurd rfl q) (fun _ => ?_)
      refine w.iconst (1 : Int32) d0_267 rfl ?_
      refine w.goto d0_268 d0_268t ?_
      exact w.retN d0_272 rfl (by simp) rfl
    · refine w.aload d0_242 rfl rfl ?_
      refine w.aconstNull d0_244 ?_
      refine w.callV (argsL := [.null]) (rest := []) 0 d0_245 (tw hw 118 rfl) (tw hw 119 rfl) (tw hw 121 rfl) (tw hw 120 rfl) (tw hw 41 rfl) (tw hw 122 rfl) (by decide) EE_x1 (rmEn l Z a0 hw x1 h6 w.old) (lenOf pd_21 rfl) rfl rfl (Nat.le_refl _) ⟨by decide, by decide, by decide, by decide⟩ all0 ?_
      intro T h13 r w _ hQ
      obtain ⟨rfl, rfl⟩ := hQ
      show Go cx _ Z _ _ _ T 248 #[.val (.int va), .val (.int vb), .val (.int vc), .val (.int vd), .val (.int mo), .val (.int rcl), .val (.int ocl), .val (.int ril), .val (.int oil), .val (.int rc0), .val (.int rc1), .val (.int oc0), .val (.int oc1), .val (.int ri0), .val (.int ri1), .val (.int oi0), .val (.int oi1), .val (.ref s1), .val (.ref s2), .val (.ref s3), .val (.ref s4), .val (.ref x1), .val (.int (3 : Int32)), .unset, .unset, .unset, .unset] [(.int (0 : Int32))]
      refine w.ifNe d0_248 d0_248t (fun q => absurd rfl q) (fun _ => ?_)
      refine w.iconst (1 : Int32) d0_251 rfl ?_
      refine w.goto d0_252 d0_252t ?_
      exact w.retN d0_256 rfl (by simp) rfl

set_option maxRecDepth 65536 in
set_option maxHeartbeats 40000000 in
theorem pc127 (l : Launch) (Z : State) (a0 : Array Value) (hw : ∀ d ∈ tables_1, d.before a0 Z = true) (hr : rest_1_c.value a0 Z none Z [] = some true) (va vb vc vd mo rcl ocl ril oil rc0 rc1 oc0 oc1 ri0 ri1 oi0 : Int32) (hl1 : rcl = 1 ∨ rcl = 2) (hl2 : ocl = 1 ∨ ocl = 2) (hl3 : ril = 1 ∨ ril = 2) (hl4 : oil = 1 ∨ oil = 2) (h_rc0 : own_L rc0) (h_rc1 : own_N rc1) (h_oc0 : own_L oc0) (h_oc1 : own_N oc1) (h_ri0 : own_I ri0) (h_ri1 : own_I ri1) (h_oi0 : own_I oi0) (h0 : Heap) (cx : Cx) (T : State) (w : W cx true l Z [] room_1 (MethodName.cls x) code maxLocals ret (MethodName.name x) T h0 (0) (0) []) :
    Go cx true Z [] room_1 (fun v _ => v = some (.int 1)) T 127 #[.val (.int va), .val (.int vb), .val (.int vc), .val (.int vd), .val (.int mo), .val (.int rcl), .val (.int ocl), .val (.int ril), .val (.int oil), .val (.int rc0), .val (.int rc1), .val (.int oc0), .val (.int oc1), .val (.int ri0), .val (.int ri1), .val (.int oi0), .unset, .unset, .unset, .unset, .unset, .unset, .unset, .unset, .unset, .unset, .unset] [] := by
  refine w.iload d0_127 rfl ?_
  refine w.bipush (8 : Int32) d0_129 rfl ?_
  refine w.iand d0_131 ?_
  refine w.ifEq d0_132 d0_132t (fun q1 => ?_) (fun q1 => ?_)
  · refine w.iloadN d0_140 rfl ?_
    refine w.bipush (8 : Int32) d0_141 rfl ?_
    refine w.ishr d0_143 ?_
    refine w.callS (argsL := [(.int (vd >>> ((8 : Int32) &&& 31)))]) (rest := []) 0 d0_144 (tw hw 7 rfl) (tw hw 8 rfl) (tw hw 2 rfl) (tw hw 9 rfl) (by decide) (rmIdc l Z a0 hw (vd >>> ((8 : Int32) &&& 31)) h0 w.old) (lenOf pd_16 rfl) rfl rfl (Nat.le_refl _) ⟨by decide, by decide, by decide, by decide⟩ all0 ?_
    intro T h1 r w _ hQ
    obtain ⟨rfl, cn, rfl, h_cn⟩ := hQ
    show Go cx _ Z _ _ _ T 147 #[.val (.int va), .val (.int vb), .val (.int vc), .val (.int vd), .val (.int mo), .val (.int rcl), .val (.int ocl), .val (.int ril), .val (.int oil), .val (.int rc0), .val (.int rc1), .val (.int oc0), .val (.int oc1), .val (.int ri0), .val (.int ri1), .val (.int oi0), .unset, .unset, .unset, .unset, .unset, .unset, .unset, .unset, .unset, .unset, .unset] [(.int cn)]
    refine w.istore #[.val (.int va), .val (.int vb), .val (.int vc), .val (.int vd), .val (.int mo), .val (.int rcl), .val (.int ocl), .val (.int ril), .val (.int oil), .val (.int rc0), .val (.int rc1), .val (.int oc0), .val (.int oc1), .val (.int ri0), .val (.int ri1), .val (.int oi0), .val (.int cn), .unset, .unset, .unset, .unset, .unset, .unset, .unset, .unset, .unset, .unset] d0_147 rfl ?_
    exact pc149 l Z a0 hw hr va vb vc vd mo rcl ocl ril oil rc0 rc1 oc0 oc1 ri0 ri1 oi0 cn hl1 hl2 hl3 hl4 h_rc0 h_rc1 h_oc0 h_oc1 h_ri0 h_ri1 h_oi0 h_cn h0 cx T w
  · refine w.iload d0_135 rfl ?_
    refine w.goto d0_137 d0_137t ?_
    refine w.istore #[.val (.int va), .val (.int vb), .val (.int vc), .val (.int vd), .val (.int mo), .val (.int rcl), .val (.int ocl), .val (.int ril), .val (.int oil), .val (.int rc0), .val (.int rc1), .val (.int oc0), .val (.int oc1), .val (.int ri0), .val (.int ri1), .val (.int oi0), .val (.int ri1), .unset, .unset, .unset, .unset, .unset, .unset, .unset, .unset, .unset, .unset] d0_147 rfl ?_
    exact pc149 l Z a0 hw hr va vb vc vd mo rcl ocl ril oil rc0 rc1 oc0 oc1 ri0 ri1 oi0 ri1 hl1 hl2 hl3 hl4 h_rc0 h_rc1 h_oc0 h_oc1 h_ri0 h_ri1 h_oi0 h_ri1 h0 cx T w

set_option maxRecDepth 65536 in
set_option maxHeartbeats 40000000 in
theorem pc109 (l : Launch) (Z : State) (a0 : Array Value) (hw : ∀ d ∈ tables_1, d.before a0 Z = true) (hr : rest_1_c.value a0 Z none Z [] = some true) (va vb vc vd mo rcl ocl ril oil rc0 rc1 oc0 oc1 ri0 ri1 : Int32) (hl1 : rcl = 1 ∨ rcl = 2) (hl2 : ocl = 1 ∨ ocl = 2) (hl3 : ril = 1 ∨ ril = 2) (hl4 : oil = 1 ∨ oil = 2) (h_rc0 : own_L rc0) (h_rc1 : own_N rc1) (h_oc0 : own_L oc0) (h_oc1 : own_N oc1) (h_ri0 : own_I ri0) (h_ri1 : own_I ri1) (h0 : Heap) (cx : Cx) (T : State) (w : W cx true l Z [] room_1 (MethodName.cls x) code maxLocals ret (MethodName.name x) T h0 (0) (0) []) :
    Go cx true Z [] room_1 (fun v _ => v = some (.int 1)) T 109 #[.val (.int va), .val (.int vb), .val (.int vc), .val (.int vd), .val (.int mo), .val (.int rcl), .val (.int ocl), .val (.int ril), .val (.int oil), .val (.int rc0), .val (.int rc1), .val (.int oc0), .val (.int oc1), .val (.int ri0), .val (.int ri1), .unset, .unset, .unset, .unset, .unset, .unset, .unset, .unset, .unset, .unset, .unset, .unset] [] := by
  refine w.iload d0_109 rfl ?_
  refine w.iconst (4 : Int32) d0_111 rfl ?_
  refine w.iand d0_112 ?_
  refine w.ifEq d0_113 d0_113t (fun q1 => ?_) (fun q1 => ?_)
  · refine w.iloadN d0_121 rfl ?_
    refine w.callS (argsL := [(.int vd)]) (rest := []) 0 d0_122 (tw hw 7 rfl) (tw hw 8 rfl) (tw hw 2 rfl) (tw hw 9 rfl) (by decide) (rmIdc l Z a0 hw vd h0 w.old) (lenOf pd_16 rfl) rfl rfl (Nat.le_refl _) ⟨by decide, by decide, by decide, by decide⟩ all0 ?_
    intro T h1 r w _ hQ
    obtain ⟨rfl, cn, rfl, h_cn⟩ := hQ
    show Go cx _ Z _ _ _ T 125 #[.val (.int va), .val (.int vb), .val (.int vc), .val (.int vd), .val (.int mo), .val (.int rcl), .val (.int ocl), .val (.int ril), .val (.int oil), .val (.int rc0), .val (.int rc1), .val (.int oc0), .val (.int oc1), .val (.int ri0), .val (.int ri1), .unset, .unset, .unset, .unset, .unset, .unset, .unset, .unset, .unset, .unset, .unset, .unset] [(.int cn)]
    refine w.istore #[.val (.int va), .val (.int vb), .val (.int vc), .val (.int vd), .val (.int mo), .val (.int rcl), .val (.int ocl), .val (.int ril), .val (.int oil), .val (.int rc0), .val (.int rc1), .val (.int oc0), .val (.int oc1), .val (.int ri0), .val (.int ri1), .val (.int cn), .unset, .unset, .unset, .unset, .unset, .unset, .unset, .unset, .unset, .unset, .unset] d0_125 rfl ?_
    exact pc127 l Z a0 hw hr va vb vc vd mo rcl ocl ril oil rc0 rc1 oc0 oc1 ri0 ri1 cn hl1 hl2 hl3 hl4 h_rc0 h_rc1 h_oc0 h_oc1 h_ri0 h_ri1 h_cn h0 cx T w
  · refine w.iload d0_116 rfl ?_
    refine w.goto d0_118 d0_118t ?_
    refine w.istore #[.val (.int va), .val (.int vb), .val (.int vc), .val (.int vd), .val (.int mo), .val (.int rcl), .val (.int ocl), .val (.int ril), .val (.int oil), .val (.int rc0), .val (.int rc1), .val (.int oc0), .val (.int oc1), .val (.int ri0), .val (.int ri1), .val (.int ri0), .unset, .unset, .unset, .unset, .unset, .unset, .unset, .unset, .unset, .unset, .unset] d0_125 rfl ?_
    exact pc127 l Z a0 hw hr va vb vc vd mo rcl ocl ril oil rc0 rc1 oc0 oc1 ri0 ri1 ri0 hl1 hl2 hl3 hl4 h_rc0 h_rc1 h_oc0 h_oc1 h_ri0 h_ri1 h_ri0 h0 cx T w

set_option maxRecDepth 65536 in
set_option maxHeartbeats 40000000 in
theorem pc94 (l : Launch) (Z : State) (a0 : Array Value) (hw : ∀ d ∈ tables_1, d.before a0 Z = true) (hr : rest_1_c.value a0 Z none Z [] = some true) (va vb vc vd mo rcl ocl ril oil rc0 rc1 oc0 oc1 : Int32) (hl1 : rcl = 1 ∨ rcl = 2) (hl2 : ocl = 1 ∨ ocl = 2) (hl3 : ril = 1 ∨ ril = 2) (hl4 : oil = 1 ∨ oil = 2) (h_rc0 : own_L rc0) (h_rc1 : own_N rc1) (h_oc0 : own_L oc0) (h_oc1 : own_N oc1) (h0 : Heap) (cx : Cx) (T : State) (w : W cx true l Z [] room_1 (MethodName.cls x) code maxLocals ret (MethodName.name x) T h0 (0) (0) []) :
    Go cx true Z [] room_1 (fun v _ => v = some (.int 1)) T 94 #[.val (.int va), .val (.int vb), .val (.int vc), .val (.int vd), .val (.int mo), .val (.int rcl), .val (.int ocl), .val (.int ril), .val (.int oil), .val (.int rc0), .val (.int rc1), .val (.int oc0), .val (.int oc1), .unset, .unset, .unset, .unset, .unset, .unset, .unset, .unset, .unset, .unset, .unset, .unset, .unset, .unset] [] := by
  refine w.iloadN d0_94 rfl ?_
  refine w.callS (argsL := [(.int vb)]) (rest := []) 0 d0_95 (tw hw 7 rfl) (tw hw 8 rfl) (tw hw 2 rfl) (tw hw 9 rfl) (by decide) (rmIdc l Z a0 hw vb h0 w.old) (lenOf pd_16 rfl) rfl rfl (Nat.le_refl _) ⟨by decide, by decide, by decide, by decide⟩ all0 ?_
  intro T h1 r w _ hQ
  obtain ⟨rfl, r0, rfl, h_r0⟩ := hQ
  show Go cx _ Z _ _ _ T 98 #[.val (.int va), .val (.int vb), .val (.int vc), .val (.int vd), .val (.int mo), .val (.int rcl), .val (.int ocl), .val (.int ril), .val (.int oil), .val (.int rc0), .val (.int rc1), .val (.int oc0), .val (.int oc1), .unset, .unset, .unset, .unset, .unset, .unset, .unset, .unset, .unset, .unset, .unset, .unset, .unset, .unset] [(.int r0)]
  refine w.istore #[.val (.int va), .val (.int vb), .val (.int vc), .val (.int vd), .val (.int mo), .val (.int rcl), .val (.int ocl), .val (.int ril), .val (.int oil), .val (.int rc0), .val (.int rc1), .val (.int oc0), .val (.int oc1), .val (.int r0), .unset, .unset, .unset, .unset, .unset, .unset, .unset, .unset, .unset, .unset, .unset, .unset, .unset] d0_98 rfl ?_
  refine w.iloadN d0_100 rfl ?_
  refine w.bipush (8 : Int32) d0_101 rfl ?_
  refine w.ishr d0_103 ?_
  refine w.callS (argsL := [(.int (vb >>> ((8 : Int32) &&& 31)))]) (rest := []) 0 d0_104 (tw hw 7 rfl) (tw hw 8 rfl) (tw hw 2 rfl) (tw hw 9 rfl) (by decide) (rmIdc l Z a0 hw (vb >>> ((8 : Int32) &&& 31)) h0 w.old) (lenOf pd_16 rfl) rfl rfl (Nat.le_refl _) ⟨by decide, by decide, by decide, by decide⟩ all0 ?_
  intro T h2 r w _ hQ
  obtain ⟨rfl, r1, rfl, h_r1⟩ := hQ
  show Go cx _ Z _ _ _ T 107 #[.val (.int va), .val (.int vb), .val (.int vc), .val (.int vd), .val (.int mo), .val (.int rcl), .val (.int ocl), .val (.int ril), .val (.int oil), .val (.int rc0), .val (.int rc1), .val (.int oc0), .val (.int oc1), .val (.int r0), .unset, .unset, .unset, .unset, .unset, .unset, .unset, .unset, .unset, .unset, .unset, .unset, .unset] [(.int r1)]
  refine w.istore #[.val (.int va), .val (.int vb), .val (.int vc), .val (.int vd), .val (.int mo), .val (.int rcl), .val (.int ocl), .val (.int ril), .val (.int oil), .val (.int rc0), .val (.int rc1), .val (.int oc0), .val (.int oc1), .val (.int r0), .val (.int r1), .unset, .unset, .unset, .unset, .unset, .unset, .unset, .unset, .unset, .unset, .unset, .unset] d0_107 rfl ?_
  exact pc109 l Z a0 hw hr va vb vc vd mo rcl ocl ril oil rc0 rc1 oc0 oc1 r0 r1 hl1 hl2 hl3 hl4 h_rc0 h_rc1 h_oc0 h_oc1 h_r0 h_r1 h0 cx T w

set_option maxRecDepth 65536 in
set_option maxHeartbeats 40000000 in
theorem pc73 (l : Launch) (Z : State) (a0 : Array Value) (hw : ∀ d ∈ tables_1, d.before a0 Z = true) (hr : rest_1_c.value a0 Z none Z [] = some true) (va vb vc vd mo rcl ocl ril oil rc0 rc1 oc0 : Int32) (hl1 : rcl = 1 ∨ rcl = 2) (hl2 : ocl = 1 ∨ ocl = 2) (hl3 : ril = 1 ∨ ril = 2) (hl4 : oil = 1 ∨ oil = 2) (h_rc0 : own_L rc0) (h_rc1 : own_N rc1) (h_oc0 : own_L oc0) (h0 : Heap) (cx : Cx) (T : State) (w : W cx true l Z [] room_1 (MethodName.cls x) code maxLocals ret (MethodName.name x) T h0 (0) (0) []) :
    Go cx true Z [] room_1 (fun v _ => v = some (.int 1)) T 73 #[.val (.int va), .val (.int vb), .val (.int vc), .val (.int vd), .val (.int mo), .val (.int rcl), .val (.int ocl), .val (.int ril), .val (.int oil), .val (.int rc0), .val (.int rc1), .val (.int oc0), .unset, .unset, .unset, .unset, .unset, .unset, .unset, .unset, .unset, .unset, .unset, .unset, .unset, .unset, .unset] [] := by
  refine w.iload d0_73 rfl ?_
  refine w.iconst (2 : Int32) d0_75 rfl ?_
  refine w.iand d0_76 ?_
  refine w.ifEq d0_77 d0_77t (fun q1 => ?_) (fun q1 => ?_)
  · refine w.iloadN d0_85 rfl ?_
    refine w.bipush (8 : Int32) d0_86 rfl ?_
    refine w.ishr d0_88 ?_
    refine w.callS (argsL := [(.int (vc >>> ((8 : Int32) &&& 31)))]) (rest := []) 0 d0_89 (tw hw 4 rfl) (tw hw 5 rfl) (tw hw 2 rfl) (tw hw 6 rfl) (by decide) (rmNam l Z a0 hw (vc >>> ((8 : Int32) &&& 31)) h0 w.old) (lenOf pd_16 rfl) rfl rfl (Nat.le_refl _) ⟨by decide, by decide, by decide, by decide⟩ all0 ?_
    intro T h1 r w _ hQ
    obtain ⟨rfl, cn, rfl, h_cn⟩ := hQ
    show Go cx _ Z _ _ _ T 92 #[.val (.int va), .val (.int vb), .val (.int vc), .val (.int vd), .val (.int mo), .val (.int rcl), .val (.int ocl), .val (.int ril), .val (.int oil), .val (.int rc0), .val (.int rc1), .val (.int oc0), .unset, .unset, .unset, .unset, .unset, .unset, .unset, .unset, .unset, .unset, .unset, .unset, .unset, .unset, .unset] [(.int cn)]
    refine w.istore #[.val (.int va), .val (.int vb), .val (.int vc), .val (.int vd), .val (.int mo), .val (.int rcl), .val (.int ocl), .val (.int ril), .val (.int oil), .val (.int rc0), .val (.int rc1), .val (.int oc0), .val (.int cn), .unset, .unset, .unset, .unset, .unset, .unset, .unset, .unset, .unset, .unset, .unset, .unset, .unset, .unset] d0_92 rfl ?_
    exact pc94 l Z a0 hw hr va vb vc vd mo rcl ocl ril oil rc0 rc1 oc0 cn hl1 hl2 hl3 hl4 h_rc0 h_rc1 h_oc0 h_cn h0 cx T w
  · refine w.iload d0_80 rfl ?_
    refine w.goto d0_82 d0_82t ?_
    refine w.istore #[.val (.int va), .val (.int vb), .val (.int vc), .val (.int vd), .val (.int mo), .val (.int rcl), .val (.int ocl), .val (.int ril), .val (.int oil), .val (.int rc0), .val (.int rc1), .val (.int oc0), .val (.int rc1), .unset, .unset, .unset, .unset, .unset, .unset, .unset, .unset, .unset, .unset, .unset, .unset, .unset, .unset] d0_92 rfl ?_
    exact pc94 l Z a0 hw hr va vb vc vd mo rcl ocl ril oil rc0 rc1 oc0 rc1 hl1 hl2 hl3 hl4 h_rc0 h_rc1 h_oc0 h_rc1 h0 cx T w

set_option maxRecDepth 65536 in
set_option maxHeartbeats 40000000 in
theorem pc55 (l : Launch) (Z : State) (a0 : Array Value) (hw : ∀ d ∈ tables_1, d.before a0 Z = true) (hr : rest_1_c.value a0 Z none Z [] = some true) (va vb vc vd mo rcl ocl ril oil rc0 rc1 : Int32) (hl1 : rcl = 1 ∨ rcl = 2) (hl2 : ocl = 1 ∨ ocl = 2) (hl3 : ril = 1 ∨ ril = 2) (hl4 : oil = 1 ∨ oil = 2) (h_rc0 : own_L rc0) (h_rc1 : own_N rc1) (h0 : Heap) (cx : Cx) (T : State) (w : W cx true l Z [] room_1 (MethodName.cls x) code maxLocals ret (MethodName.name x) T h0 (0) (0) []) :
    Go cx true Z [] room_1 (fun v _ => v = some (.int 1)) T 55 #[.val (.int va), .val (.int vb), .val (.int vc), .val (.int vd), .val (.int mo), .val (.int rcl), .val (.int ocl), .val (.int ril), .val (.int oil), .val (.int rc0), .val (.int rc1), .unset, .unset, .unset, .unset, .unset, .unset, .unset, .unset, .unset, .unset, .unset, .unset, .unset, .unset, .unset, .unset] [] := by
  refine w.iload d0_55 rfl ?_
  refine w.iconst (1 : Int32) d0_57 rfl ?_
  refine w.iand d0_58 ?_
  refine w.ifEq d0_59 d0_59t (fun q1 => ?_) (fun q1 => ?_)
  · refine w.iloadN d0_67 rfl ?_
    refine w.callS (argsL := [(.int vc)]) (rest := []) 0 d0_68 (tw hw 0 rfl) (tw hw 1 rfl) (tw hw 2 rfl) (tw hw 3 rfl) (by decide) (rmLet l Z a0 hw vc h0 w.old) (lenOf pd_16 rfl) rfl rfl (Nat.le_refl _) ⟨by decide, by decide, by decide, by decide⟩ all0 ?_
    intro T h1 r w _ hQ
    obtain ⟨rfl, cn, rfl, h_cn⟩ := hQ
    show Go cx _ Z _ _ _ T 71 #[.val (.int va), .val (.int vb), .val (.int vc), .val (.int vd), .val (.int mo), .val (.int rcl), .val (.int ocl), .val (.int ril), .val (.int oil), .val (.int rc0), .val (.int rc1), .unset, .unset, .unset, .unset, .unset, .unset, .unset, .unset, .unset, .unset, .unset, .unset, .unset, .unset, .unset, .unset] [(.int cn)]
    refine w.istore #[.val (.int va), .val (.int vb), .val (.int vc), .val (.int vd), .val (.int mo), .val (.int rcl), .val (.int ocl), .val (.int ril), .val (.int oil), .val (.int rc0), .val (.int rc1), .val (.int cn), .unset, .unset, .unset, .unset, .unset, .unset, .unset, .unset, .unset, .unset, .unset, .unset, .unset, .unset, .unset] d0_71 rfl ?_
    exact pc73 l Z a0 hw hr va vb vc vd mo rcl ocl ril oil rc0 rc1 cn hl1 hl2 hl3 hl4 h_rc0 h_rc1 h_cn h0 cx T w
  · refine w.iload d0_62 rfl ?_
    refine w.goto d0_64 d0_64t ?_
    refine w.istore #[.val (.int va), .val (.int vb), .val (.int vc), .val (.int vd), .val (.int mo), .val (.int rcl), .val (.int ocl), .val (.int ril), .val (.int oil), .val (.int rc0), .val (.int rc1), .val (.int rc0), .unset, .unset, .unset, .unset, .unset, .unset, .unset, .unset, .unset, .unset, .unset, .unset, .unset, .unset, .unset] d0_71 rfl ?_
    exact pc73 l Z a0 hw hr va vb vc vd mo rcl ocl ril oil rc0 rc1 rc0 hl1 hl2 hl3 hl4 h_rc0 h_rc1 h_rc0 h0 cx T w

set_option maxRecDepth 65536 in
set_option maxHeartbeats 40000000 in
theorem rm0 (l : Launch) (Z : State) (a0 : Array Value) (hw : ∀ d ∈ tables_1, d.before a0 Z = true) (hr : rest_1_c.value a0 Z none Z [] = some true) (va vb vc vd mo : Int32) (h0 : Heap) (hE : Ext Z.heap h0) :
    Ct true l Z [] x code maxLocals ret tables_1 room_1 [] #[(.int va), (.int vb), (.int vc), (.int vd), (.int mo)] h0 (fun v _ => v = some (.int 1)) := by
  refine Ct.intro pn_com_example_lucioles_lucioles_model_RdnEqualsPinLaw hE (fun m => ef0 m va vb vc vd mo) nosf ⟨a0, own_EW hw⟩ ?_
  intro x T w
  refine w.iconst (1 : Int32) d0_0 rfl ?_
  refine w.iloadN d0_1 rfl ?_
  refine w.bipush (24 : Int32) d0_2 rfl ?_
  refine w.iushr d0_4 ?_
  refine w.iconst (1 : Int32) d0_5 rfl ?_
  refine w.iand d0_6 ?_
  refine w.iadd d0_7 ?_
  refine w.istore #[.val (.int va), .val (.int vb), .val (.int vc), .val (.int vd), .val (.int mo), .val (.int ((1 : Int32) + ((XT.ushr va (24 : Int32)) &&& (1 : Int32)))), .unset, .unset, .unset, .unset, .unset, .unset, .unset, .unset, .unset, .unset, .unset, .unset, .unset, .unset, .unset, .unset, .unset, .unset, .unset, .unset, .unset] d0_8 rfl ?_
  refine w.iconst (1 : Int32) d0_10 rfl ?_
  refine w.iloadN d0_11 rfl ?_
  refine w.bipush (24 : Int32) d0_12 rfl ?_
  refine w.iushr d0_14 ?_
  refine w.iconst (1 : Int32) d0_15 rfl ?_
  refine w.iand d0_16 ?_
  refine w.iadd d0_17 ?_
  refine w.istore #[.val (.int va), .val (.int vb), .val (.int vc), .val (.int vd), .val (.int mo), .val (.int ((1 : Int32) + ((XT.ushr va (24 : Int32)) &&& (1 : Int32)))), .val (.int ((1 : Int32) + ((XT.ushr vc (24 : Int32)) &&& (1 : Int32)))), .unset, .unset, .unset, .unset, .unset, .unset, .unset, .unset, .unset, .unset, .unset, .unset, .unset, .unset, .unset, .unset, .unset, .unset, .unset, .unset] d0_18 rfl ?_
  refine w.iconst (1 : Int32) d0_20 rfl ?_
  refine w.iloadN d0_21 rfl ?_
  refine w.bipush (24 : Int32) d0_22 rfl ?_
  refine w.iushr d0_24 ?_
  refine w.iconst (1 : Int32) d0_25 rfl ?_
  refine w.iand d0_26 ?_
  refine w.iadd d0_27 ?_
  refine w.istore #[.val (.int va), .val (.int vb), .val (.int vc), .val (.int vd), .val (.int mo), .val (.int ((1 : Int32) + ((XT.ushr va (24 : Int32)) &&& (1 : Int32)))), .val (.int ((1 : Int32) + ((XT.ushr vc (24 : Int32)) &&& (1 : Int32)))), .val (.int ((1 : Int32) + ((XT.ushr vb (24 : Int32)) &&& (1 : Int32)))), .unset, .unset, .unset, .unset, .unset, .unset, .unset, .unset, .unset, .unset, .unset, .unset, .unset, .unset, .unset, .unset, .unset, .unset, .unset] d0_28 rfl ?_
  refine w.iconst (1 : Int32) d0_30 rfl ?_
  refine w.iloadN d0_31 rfl ?_
  refine w.bipush (24 : Int32) d0_32 rfl ?_
  refine w.iushr d0_34 ?_
  refine w.iconst (1 : Int32) d0_35 rfl ?_
  refine w.iand d0_36 ?_
  refine w.iadd d0_37 ?_
  refine w.istore #[.val (.int va), .val (.int vb), .val (.int vc), .val (.int vd), .val (.int mo), .val (.int ((1 : Int32) + ((XT.ushr va (24 : Int32)) &&& (1 : Int32)))), .val (.int ((1 : Int32) + ((XT.ushr vc (24 : Int32)) &&& (1 : Int32)))), .val (.int ((1 : Int32) + ((XT.ushr vb (24 : Int32)) &&& (1 : Int32)))), .val (.int ((1 : Int32) + ((XT.ushr vd (24 : Int32)) &&& (1 : Int32)))), .unset, .unset, .unset, .unset, .unset, .unset, .unset, .unset, .unset, .unset, .unset, .unset, .unset, .unset, .unset, .unset, .unset, .unset] d0_38 rfl ?_
  refine w.iloadN d0_40 rfl ?_
  refine w.callS (argsL := [(.int va)]) (rest := []) 0 d0_41 (tw hw 0 rfl) (tw hw 1 rfl) (tw hw 2 rfl) (tw hw 3 rfl) (by decide) (rmLet l Z a0 hw va h0 w.old) (lenOf pd_16 rfl) rfl rfl (Nat.le_refl _) ⟨by decide, by decide, by decide, by decide⟩ all0 ?_
  intro T h1 r w _ hQ
  obtain ⟨rfl, r0, rfl, h_r0⟩ := hQ
  show Go x _ Z _ _ _ T 44 #[.val (.int va), .val (.int vb), .val (.int vc), .val (.int vd), .val (.int mo), .val (.int ((1 : Int32) + ((XT.ushr va (24 : Int32)) &&& (1 : Int32)))), .val (.int ((1 : Int32) + ((XT.ushr vc (24 : Int32)) &&& (1 : Int32)))), .val (.int ((1 : Int32) + ((XT.ushr vb (24 : Int32)) &&& (1 : Int32)))), .val (.int ((1 : Int32) + ((XT.ushr vd (24 : Int32)) &&& (1 : Int32)))), .unset, .unset, .unset, .unset, .unset, .unset, .unset, .unset, .unset, .unset, .unset, .unset, .unset, .unset, .unset, .unset, .unset, .unset] [(.int r0)]
  refine w.istore #[.val (.int va), .val (.int vb), .val (.int vc), .val (.int vd), .val (.int mo), .val (.int ((1 : Int32) + ((XT.ushr va (24 : Int32)) &&& (1 : Int32)))), .val (.int ((1 : Int32) + ((XT.ushr vc (24 : Int32)) &&& (1 : Int32)))), .val (.int ((1 : Int32) + ((XT.ushr vb (24 : Int32)) &&& (1 : Int32)))), .val (.int ((1 : Int32) + ((XT.ushr vd (24 : Int32)) &&& (1 : Int32)))), .val (.int r0), .unset, .unset, .unset, .unset, .unset, .unset, .unset, .unset, .unset, .unset, .unset, .unset, .unset, .unset, .unset, .unset, .unset] d0_44 rfl ?_
  refine w.iloadN d0_46 rfl ?_
  refine w.bipush (8 : Int32) d0_47 rfl ?_
  refine w.ishr d0_49 ?_
  refine w.callS (argsL := [(.int (va >>> ((8 : Int32) &&& 31)))]) (rest := []) 0 d0_50 (tw hw 4 rfl) (tw hw 5 rfl) (tw hw 2 rfl) (tw hw 6 rfl) (by decide) (rmNam l Z a0 hw (va >>> ((8 : Int32) &&& 31)) h0 w.old) (lenOf pd_16 rfl) rfl rfl (Nat.le_refl _) ⟨by decide, by decide, by decide, by decide⟩ all0 ?_
  intro T h2 r w _ hQ
  obtain ⟨rfl, r1, rfl, h_r1⟩ := hQ
  show Go x _ Z _ _ _ T 53 #[.val (.int va), .val (.int vb), .val (.int vc), .val (.int vd), .val (.int mo), .val (.int ((1 : Int32) + ((XT.ushr va (24 : Int32)) &&& (1 : Int32)))), .val (.int ((1 : Int32) + ((XT.ushr vc (24 : Int32)) &&& (1 : Int32)))), .val (.int ((1 : Int32) + ((XT.ushr vb (24 : Int32)) &&& (1 : Int32)))), .val (.int ((1 : Int32) + ((XT.ushr vd (24 : Int32)) &&& (1 : Int32)))), .val (.int r0), .unset, .unset, .unset, .unset, .unset, .unset, .unset, .unset, .unset, .unset, .unset, .unset, .unset, .unset, .unset, .unset, .unset] [(.int r1)]
  refine w.istore #[.val (.int va), .val (.int vb), .val (.int vc), .val (.int vd), .val (.int mo), .val (.int ((1 : Int32) + ((XT.ushr va (24 : Int32)) &&& (1 : Int32)))), .val (.int ((1 : Int32) + ((XT.ushr vc (24 : Int32)) &&& (1 : Int32)))), .val (.int ((1 : Int32) + ((XT.ushr vb (24 : Int32)) &&& (1 : Int32)))), .val (.int ((1 : Int32) + ((XT.ushr vd (24 : Int32)) &&& (1 : Int32)))), .val (.int r0), .val (.int r1), .unset, .unset, .unset, .unset, .unset, .unset, .unset, .unset, .unset, .unset, .unset, .unset, .unset, .unset, .unset, .unset] d0_53 rfl ?_
  exact pc55 l Z a0 hw hr va vb vc vd mo ((1 : Int32) + ((XT.ushr va (24 : Int32)) &&& (1 : Int32))) ((1 : Int32) + ((XT.ushr vc (24 : Int32)) &&& (1 : Int32))) ((1 : Int32) + ((XT.ushr vb (24 : Int32)) &&& (1 : Int32))) ((1 : Int32) + ((XT.ushr vd (24 : Int32)) &&& (1 : Int32))) r0 r1 (own_len _) (own_len _) (own_len _) (own_len _) h_r0 h_r1 h0 x T w

set_option maxRecDepth 65536 in
set_option maxHeartbeats 40000000 in
theorem comes_1 {Post : Tables → Env → Array Value → State → Outcome → State → Prop} (hpost : ∀ tb e args s v u, (limb_1_1.after args s (.returned v) u = true ∧ limb_1_2.after args s (.returned v) u = true) → ReturnedEndW s (.returned v) u (Jvm.fieldLocs frame_1_writes args s ++ Jvm.arrayLocs frame_1_arrays args s ++ Jvm.staticLocs frame_1_statics s) 40 2240 → Post tb e args s (.returned v) u) :
    ArmFor flags0 classFile x code maxLocals ret World_1 tables_1 room_1 Calls_1 rest_1 Pre_1 Post := by
  intro l hfl _ _ p e ha hc hk s m args below hf hA hF happ hP
  obtain ⟨hcalls, hrest, hpre⟩ := hP
  obtain ⟨-, -, -, hnamed, -, -, -, hat⟩ := (Spec.applies_iff hf).mp happ
  obtain ⟨hg, hn⟩ := and_e (Cond.before_iff.mp (show (Jvm.Cond.and given_1 narrow_1).before args s = true from hpre))
  obtain ⟨hc0, hg⟩ := and_e hg
  obtain ⟨w0, w1, w2, w3, w4, rfl⟩ : ∃ w0 w1 w2 w3 w4 : Value, args = #[w0, w1, w2, w3, w4] := by
    have hs : args.size = 5 := by simpa [Cond.value] using hc0
    obtain ⟨L⟩ := args
    match L, hs with
    | [w0, w1, w2, w3, w4], _ => exact ⟨w0, w1, w2, w3, w4, rfl⟩
  have hw := fun d (hd : d ∈ tables_1) => atoms_spec (ws := Jvm.Cond.code x code maxLocals ret :: tables_1) hat d (List.mem_cons_of_mem _ hd)
  have hfit : Fit s := fit_of hF
  obtain ⟨hg0, hg⟩ := and_e hg
  obtain ⟨i0, e0⟩ := is_v hg0
  obtain rfl : w0 = (.int i0) := Option.some.inj e0
  obtain ⟨hg1, hg⟩ := and_e hg
  obtain ⟨i1, e1⟩ := is_v hg1
  obtain rfl : w1 = (.int i1) := Option.some.inj e1
  obtain ⟨hg2, hg⟩ := and_e hg
  obtain ⟨i2, e2⟩ := is_v hg2
  obtain rfl : w2 = (.int i2) := Option.some.inj e2
  obtain ⟨hg3, hg⟩ := and_e hg
  obtain ⟨i3, e3⟩ := is_v hg3
  obtain rfl : w3 = (.int i3) := Option.some.inj e3
  obtain ⟨i4, e4⟩ := is_v hg
  obtain rfl : w4 = (.int i4) := Option.some.inj e4
  obtain ⟨n, o, h1, h2, h3, _, L, rfl, ⟨rfl, N, -, -⟩, hq⟩ := rm0 l s _ hw (Cond.before_iff.mp hrest) i0 i1 i2 i3 i4 s.heap (ext_refl _) p e ha hc hk s m _ below hf ((Spec.applies_iff_loose hf).mp happ).1 ⟨rfl, State.Warmed39.refl s, rfl, fun _ => ⟨(fun p hp => nomatch hp), (fun _ q => nomatch q)⟩⟩ trivial
  refine ⟨n, _, h1, h2, h3, hpost _ _ _ _ _ _ ⟨Cond.after_iff.mpr rfl, Cond.after_iff.mpr (eq_i res_at (Term.int_eval (1)) rfl)⟩ ⟨hq.2.1, hq.2.2.1, hq.2.2.2.1, (hq.2.2.2.2.sift fun y hy => Or.inr (N y hy)).mono (by decide) (by decide)⟩⟩
theorem main_1_1 : Claimed_1_1 := comes_1 fun _ _ _ _ _ _ h hF => ⟨h.1, hF⟩
theorem main_1_2 : Claimed_1_2 := comes_1 fun _ _ _ _ _ _ h hF => ⟨h.2, hF⟩
end Jvm.Pilot.@@N@@
namespace Jvm.Pilot.@@N@@
open Jvm Jvm.ClassFile Sem Op Lib Jvm.Free Jvm.Stand Jvm.Pilot.@@N@@.Jvm.D
/-! MADE BY PROGRAM (witnessworld.py) out of the Statement's table words and the real class files: 20 classes; the members and pool entries that the words name. The judged class is class 1, her method 5. -/
namespace start1
open Jvm.ClassFile
def u (s : String) : CpInfo := .utf8 (stringToUtf16 s)
/-- a pool by its gaps: so many unusable entries, then the entry; so many at the end -/
def gap : Nat → List CpInfo → List CpInfo
  | 0, r => r
  | n + 1, r => .unusable :: gap n r
def poolList (es : List (Nat × CpInfo)) (last : Nat) : List CpInfo := es.foldr (fun e r => gap e.1 (e.2 :: r)) (gap last [])
def pool (es : List (Nat × CpInfo)) (last : Nat) : Array CpInfo := ⟨poolList es last⟩
def fileOf (pool : Array CpInfo) (this : Nat) (attrs : Array Attribute := #[]) (ms : Array MethodInfo := #[]) (fl : Nat := 33) (sup : Nat := 0) (ifs : Array Nat := #[]) (fds : Array FieldInfo := #[]) : ClassFile where
  minorVersion := 0
  majorVersion := 65
  constantPool := pool
  accessFlags := fl
  thisClass := this
  superClass := sup
  interfaces := ifs
  fields := fds
  methods := ms
  attributes := attrs
def plain (name : String) (sup : Option ClassId) : Class where
  name := name
  kind := .ordinary
  loader := none
  accessFlags := 33
  super := sup
  interfaces := #[]
  cf := none
  fields := #[]
  methods := #[]
  instanceTypes := #[]
  staticTypes := #[]
  resolved := #[]
  callSites := []
  init := .initialized
  statics := none
  mirror := none

def pool0 : Array CpInfo := pool [(5, u "<init>"), (0, u "()V"), (1, .class_ 10), (1, u "java/lang/Object")] 113

def k0c0 : Code := { maxStack := 0, maxLocals := 1, code := object_method_1_code, exceptionTable := #[], attributes := #[] }
def k0m0 : Method := { name := "<init>", desc := "()V", sig := { parameters := [], returnType := none }, accessFlags := 1, code := some k0c0 }
/-- java/lang/Object -/
def k0 : Class := { plain "java/lang/Object" none with
  accessFlags := 33
  interfaces := #[]
  cf := some (fileOf pool0 8 #[] #[{ accessFlags := 1, nameIndex := 5, descriptorIndex := 6, attributes := #[] }] 33 0 #[] #[])
  fields := #[]
  methods := #[k0m0]
  instanceTypes := #[]
  staticTypes := #[]
  resolved := Array.replicate 124 none
  statics := none }

def pool1 : Array CpInfo := pool [(2, .class_ 4), (1, u "java/lang/Object"), (0, u "<init>"), (0, u "()V"), (0, .methodref 8 9), (0, .class_ 10), (0, .nameAndType 11 12), (0, u "java/lang/String"), (0, u "valueOf"), (0, u "(C)Ljava/lang/String;"), (0, .methodref 8 14), (0, .nameAndType 5 15), (0, u "([C)V"), (0, .methodref 17 18), (0, .class_ 19), (0, .nameAndType 20 21), (0, u "com/example/lucioles/lucioles/model/RdnEqualsPinLaw"), (0, u "letter"), (0, u "(I)C"), (0, .methodref 17 23), (0, .nameAndType 24 21), (0, u "nameChar"), (0, .methodref 17 26), (0, .nameAndType 27 21), (0, u "idChar"), (0, .methodref 17 29), (0, .nameAndType 30 31), (0, u "make"), (0, u "(ICC)Ljava/lang/String;"), (0, .class_ 33), (0, u "com/example/lucioles/lucioles/model/Rdn"), (0, .methodref 32 35), (0, .nameAndType 5 36), (0, u "(Ljava/lang/String;Ljava/lang/String;)V"), (0, .methodref 32 38), (0, .nameAndType 39 40), (0, u "equals"), (0, u "(Ljava/lang/Object;)Z"), (3, u "law"), (0, u "(IIIII)Z")] 2

def k1m0 : Method := { name := "<init>", desc := "()V", sig := { parameters := [], returnType := none }, accessFlags := 1, code := none }
def k1c1 : Code := { maxStack := 2, maxLocals := 2, code := method_2_code, exceptionTable := #[], attributes := #[] }
def k1m1 : Method := { name := "letter", desc := "(I)C", sig := { parameters := [.int], returnType := some .char }, accessFlags := 10, code := some k1c1 }
def k1c2 : Code := { maxStack := 2, maxLocals := 2, code := method_3_code, exceptionTable := #[], attributes := #[] }
def k1m2 : Method := { name := "nameChar", desc := "(I)C", sig := { parameters := [.int], returnType := some .char }, accessFlags := 10, code := some k1c2 }
def k1c3 : Code := { maxStack := 2, maxLocals := 2, code := method_4_code, exceptionTable := #[], attributes := #[] }
def k1m3 : Method := { name := "idChar", desc := "(I)C", sig := { parameters := [.int], returnType := some .char }, accessFlags := 10, code := some k1c3 }
def k1c4 : Code := { maxStack := 6, maxLocals := 3, code := method_5_code, exceptionTable := #[], attributes := #[] }
def k1m4 : Method := { name := "make", desc := "(ICC)Ljava/lang/String;", sig := { parameters := [.int, .char, .char], returnType := some (.object "java/lang/String") }, accessFlags := 10, code := some k1c4 }
def k1c5 : Code := { maxStack := 4, maxLocals := 27, code := code, exceptionTable := #[], attributes := #[] }
def k1m5 : Method := { name := "law", desc := "(IIIII)Z", sig := { parameters := [.int, .int, .int, .int, .int], returnType := some .boolean }, accessFlags := 9, code := some k1c5 }
/-- com/example/lucioles/lucioles/model/RdnEqualsPinLaw -/
def k1 : Class := { plain "com/example/lucioles/lucioles/model/RdnEqualsPinLaw" (some 0) with
  accessFlags := 49
  interfaces := #[]
  cf := some (fileOf pool1 17 #[] #[{ accessFlags := 1, nameIndex := 5, descriptorIndex := 6, attributes := #[] }, { accessFlags := 10, nameIndex := 20, descriptorIndex := 21, attributes := #[] }, { accessFlags := 10, nameIndex := 24, descriptorIndex := 21, attributes := #[] }, { accessFlags := 10, nameIndex := 27, descriptorIndex := 21, attributes := #[] }, { accessFlags := 10, nameIndex := 30, descriptorIndex := 31, attributes := #[] }, { accessFlags := 9, nameIndex := 44, descriptorIndex := 45, attributes := #[] }] 49 2 #[] #[])
  fields := #[]
  methods := #[k1m0, k1m1, k1m2, k1m3, k1m4, k1m5]
  instanceTypes := #[]
  staticTypes := #[]
  resolved := Array.replicate 48 none
  statics := none }

def pool2 : Array CpInfo := pool [(1, .class_ 2), (0, u "java/io/Serializable"), (0, .class_ 4), (0, u "java/lang/Object")] 2

/-- java/io/Serializable -/
def k2 : Class := { plain "java/io/Serializable" (some 0) with
  accessFlags := 1537
  interfaces := #[]
  cf := some (fileOf pool2 1 #[] #[] 1537 3 #[] #[])
  fields := #[]
  methods := #[]
  instanceTypes := #[]
  staticTypes := #[]
  resolved := Array.replicate 7 none
  statics := none }

def pool3 : Array CpInfo := pool [(1, .class_ 2), (0, u "java/lang/Comparable"), (0, .class_ 4), (0, u "java/lang/Object")] 7

/-- java/lang/Comparable -/
def k3 : Class := { plain "java/lang/Comparable" (some 0) with
  accessFlags := 1537
  interfaces := #[]
  cf := some (fileOf pool3 1 #[] #[] 1537 3 #[] #[])
  fields := #[]
  methods := #[]
  instanceTypes := #[]
  staticTypes := #[]
  resolved := Array.replicate 12 none
  statics := none }

def pool4 : Array CpInfo := pool [(2, .class_ 4), (1, u "java/lang/CharSequence"), (42, .class_ 48), (0, u "java/lang/CharSequence$1CodePointIterator"), (10, .class_ 60), (0, u "java/lang/CharSequence$1CharIterator"), (5, .class_ 67), (0, u "java/lang/Object")] 63

/-- java/lang/CharSequence -/
def k4 : Class := { plain "java/lang/CharSequence" (some 0) with
  accessFlags := 1537
  interfaces := #[]
  cf := some (fileOf pool4 2 #[.nestMembers #[47, 59]] #[] 1537 66 #[] #[])
  fields := #[]
  methods := #[]
  instanceTypes := #[]
  staticTypes := #[]
  resolved := Array.replicate 131 none
  statics := none }

def pool5 : Array CpInfo := pool [(1, .class_ 2), (0, u "java/lang/constant/Constable"), (0, .class_ 4), (0, u "java/lang/Object")] 6

/-- java/lang/constant/Constable -/
def k5 : Class := { plain "java/lang/constant/Constable" (some 0) with
  accessFlags := 1537
  interfaces := #[]
  cf := some (fileOf pool5 1 #[] #[] 1537 3 #[] #[])
  fields := #[]
  methods := #[]
  instanceTypes := #[]
  staticTypes := #[]
  resolved := Array.replicate 11 none
  statics := none }

def pool6 : Array CpInfo := pool [(1, .class_ 2), (0, u "java/lang/constant/ConstantDesc"), (0, .class_ 4), (0, u "java/lang/Object")] 32

/-- java/lang/constant/ConstantDesc -/
def k6 : Class := { plain "java/lang/constant/ConstantDesc" (some 0) with
  accessFlags := 1537
  interfaces := #[]
  cf := some (fileOf pool6 1 #[] #[] 1537 3 #[] #[])
  fields := #[]
  methods := #[]
  instanceTypes := #[]
  staticTypes := #[]
  resolved := Array.replicate 37 none
  statics := none }

def pool7 : Array CpInfo := pool [(1, .methodref 2 3), (0, .class_ 4), (0, .nameAndType 5 6), (0, u "java/lang/Object"), (0, u "<init>"), (0, u "()V"), (2, .fieldref 10 11), (0, .class_ 12), (0, .nameAndType 13 14), (0, u "java/lang/String"), (0, u "value"), (0, u "[B"), (0, .fieldref 10 16), (0, .nameAndType 17 18), (0, u "coder"), (0, u "B"), (2, u "hash"), (0, u "I"), (2, u "hashIsZero"), (0, u "Z"), (0, .methodref 10 28), (0, .nameAndType 5 29), (0, u "([CIILjava/lang/Void;)V"), (8, .fieldref 10 39), (0, .nameAndType 40 26), (0, u "COMPACT_STRINGS"), (1, .class_ 44), (1, u "java/lang/StringUTF16"), (0, u "compress"), (1, .methodref 42 48), (0, .nameAndType 49 50), (0, u "coderFromArrayLen"), (0, u "([BI)B"), (2, u "toBytes"), (53, .class_ 109), (1, u "java/lang/StringLatin1"), (32, u "()Z"), (34, .methodref 42 178), (0, .nameAndType 45 179), (0, u "([CII)[B"), (29, .methodref 10 210), (0, .nameAndType 5 211), (0, u "([BB)V"), (122, u "()I"), (0, .methodref 10 336), (0, .nameAndType 17 337), (0, u "()B"), (25, u "([BI)C"), (5, u "(C)Z"), (21, u "(II)V"), (35, u "(I)C"), (64, .methodref 10 493), (0, .nameAndType 494 142), (0, u "isLatin1"), (0, .methodref 107 496), (0, .nameAndType 497 363), (0, u "charAt"), (1, .methodref 10 500), (0, .nameAndType 501 391), (0, u "checkIndex"), (2, u "codePointAt"), (2, u "length"), (33, .methodref 107 542), (0, .nameAndType 543 544), (0, u "equals"), (0, u "([B[B)Z"), (28, u "(Ljava/lang/Object;)Z"), (1, .class_ 576), (0, u "java/lang/CharSequence"), (22, u "CASE_INSENSITIVE_ORDER"), (0, u "Ljava/util/Comparator;"), (91, u "isEmpty"), (72, u "(I)I"), (16, u "valueOf"), (0, u "(C)Ljava/lang/String;"), (226, u "([C)V"), (4, .methodref 107 1016), (0, .nameAndType 1017 369), (0, u "canEncode"), (0, .methodref 107 1019), (0, .nameAndType 53 1020), (0, u "(C)[B"), (32, .fieldref 1054 1055), (0, .class_ 1056), (0, .nameAndType 1057 1058), (0, u "jdk/internal/util/Preconditions"), (0, u "SIOOBE_FORMATTER"), (0, u "Ljava/util/function/BiFunction;"), (0, .methodref 1054 1060), (0, .nameAndType 501 1061), (0, u "(IILjava/util/function/BiFunction;)I"), (39, u "serialPersistentFields"), (0, u "[Ljava/io/ObjectStreamField;"), (0, .class_ 1104), (0, u "java/lang/String$CaseInsensitiveComparator"), (1, .class_ 1107), (0, u "java/io/Serializable"), (0, .class_ 1109), (0, u "java/lang/Comparable"), (0, .class_ 1111), (0, u "java/lang/constant/Constable"), (0, .class_ 1113), (0, u "java/lang/constant/ConstantDesc"), (2, u "serialVersionUID"), (0, u "J"), (3, u "REPL"), (0, u "C"), (2, u "LATIN1"), (1, u "UTF16")] 323

def k7m0 : Method := { name := "<init>", desc := "()V", sig := { parameters := [], returnType := none }, accessFlags := 1, code := none }
def k7c1 : Code := { maxStack := 5, maxLocals := 2, code := jdk_42_method_3_code, exceptionTable := #[], attributes := #[] }
def k7m1 : Method := { name := "<init>", desc := "([C)V", sig := { parameters := [(.array .char)], returnType := none }, accessFlags := 1, code := some k7c1 }
def k7c2 : Code := { maxStack := 2, maxLocals := 1, code := jdk_42_method_54_code, exceptionTable := #[], attributes := #[] }
def k7m2 : Method := { name := "length", desc := "()I", sig := { parameters := [], returnType := some .int }, accessFlags := 1, code := some k7c2 }
def k7c3 : Code := { maxStack := 1, maxLocals := 1, code := jdk_42_method_55_code, exceptionTable := #[], attributes := #[] }
def k7m3 : Method := { name := "isEmpty", desc := "()Z", sig := { parameters := [], returnType := some .boolean }, accessFlags := 1, code := some k7c3 }
def k7c4 : Code := { maxStack := 2, maxLocals := 2, code := jdk_42_method_56_code, exceptionTable := #[], attributes := #[] }
def k7m4 : Method := { name := "charAt", desc := "(I)C", sig := { parameters := [.int], returnType := some .char }, accessFlags := 1, code := some k7c4 }
def k7c5 : Code := { maxStack := 3, maxLocals := 3, code := jdk_42_method_57_code, exceptionTable := #[], attributes := #[] }
def k7m5 : Method := { name := "codePointAt", desc := "(I)I", sig := { parameters := [.int], returnType := some .int }, accessFlags := 1, code := some k7c5 }
def k7c6 : Code := { maxStack := 2, maxLocals := 3, code := jdk_42_method_66_code, exceptionTable := #[], attributes := #[] }
def k7m6 : Method := { name := "equals", desc := "(Ljava/lang/Object;)Z", sig := { parameters := [(.object "java/lang/Object")], returnType := some .boolean }, accessFlags := 1, code := some k7c6 }
def k7c7 : Code := { maxStack := 4, maxLocals := 1, code := jdk_42_method_139_code, exceptionTable := #[], attributes := #[] }
def k7m7 : Method := { name := "valueOf", desc := "(C)Ljava/lang/String;", sig := { parameters := [.char], returnType := some (.object "java/lang/String") }, accessFlags := 9, code := some k7c7 }
def k7c8 : Code := { maxStack := 4, maxLocals := 6, code := jdk_42_method_149_code, exceptionTable := #[], attributes := #[] }
def k7m8 : Method := { name := "<init>", desc := "([CIILjava/lang/Void;)V", sig := { parameters := [(.array .char), .int, .int, (.object "java/lang/Void")], returnType := none }, accessFlags := 2, code := some k7c8 }
def k7c9 : Code := { maxStack := 2, maxLocals := 3, code := jdk_42_method_151_code, exceptionTable := #[], attributes := #[] }
def k7m9 : Method := { name := "<init>", desc := "([BB)V", sig := { parameters := [(.array .byte), .byte], returnType := none }, accessFlags := 0, code := some k7c9 }
def k7c10 : Code := { maxStack := 1, maxLocals := 1, code := jdk_42_method_152_code, exceptionTable := #[], attributes := #[] }
def k7m10 : Method := { name := "coder", desc := "()B", sig := { parameters := [], returnType := some .byte }, accessFlags := 0, code := some k7c10 }
def k7c11 : Code := { maxStack := 1, maxLocals := 1, code := jdk_42_method_154_code, exceptionTable := #[], attributes := #[] }
def k7m11 : Method := { name := "isLatin1", desc := "()Z", sig := { parameters := [], returnType := some .boolean }, accessFlags := 0, code := some k7c11 }
def k7c12 : Code := { maxStack := 3, maxLocals := 2, code := jdk_42_method_155_code, exceptionTable := #[], attributes := #[] }
def k7m12 : Method := { name := "checkIndex", desc := "(II)V", sig := { parameters := [.int, .int], returnType := none }, accessFlags := 8, code := some k7c12 }
/-- java/lang/String -/
def k7 : Class := { plain "java/lang/String" (some 0) with
  accessFlags := 49
  interfaces := #[2, 3, 4, 5, 6]
  cf := some (fileOf pool7 10 #[.nestMembers #[1103]] #[{ accessFlags := 1, nameIndex := 5, descriptorIndex := 6, attributes := #[] }, { accessFlags := 1, nameIndex := 5, descriptorIndex := 1010, attributes := #[] }, { accessFlags := 1, nameIndex := 507, descriptorIndex := 334, attributes := #[] }, { accessFlags := 1, nameIndex := 692, descriptorIndex := 142, attributes := #[] }, { accessFlags := 1, nameIndex := 497, descriptorIndex := 427, attributes := #[] }, { accessFlags := 1, nameIndex := 504, descriptorIndex := 765, attributes := #[] }, { accessFlags := 1, nameIndex := 543, descriptorIndex := 573, attributes := #[] }, { accessFlags := 9, nameIndex := 782, descriptorIndex := 783, attributes := #[] }, { accessFlags := 2, nameIndex := 5, descriptorIndex := 29, attributes := #[] }, { accessFlags := 0, nameIndex := 5, descriptorIndex := 211, attributes := #[] }, { accessFlags := 0, nameIndex := 17, descriptorIndex := 337, attributes := #[] }, { accessFlags := 0, nameIndex := 494, descriptorIndex := 142, attributes := #[] }, { accessFlags := 8, nameIndex := 501, descriptorIndex := 391, attributes := #[] }] 49 2 #[1106, 1108, 575, 1110, 1112] #[{ accessFlags := 18, nameIndex := 13, descriptorIndex := 14, attributes := #[] }, { accessFlags := 18, nameIndex := 17, descriptorIndex := 18, attributes := #[] }, { accessFlags := 2, nameIndex := 21, descriptorIndex := 22, attributes := #[] }, { accessFlags := 2, nameIndex := 25, descriptorIndex := 26, attributes := #[] }, { accessFlags := 26, nameIndex := 1116, descriptorIndex := 1117, attributes := #[] }, { accessFlags := 24, nameIndex := 40, descriptorIndex := 26, attributes := #[] }, { accessFlags := 26, nameIndex := 1101, descriptorIndex := 1102, attributes := #[] }, { accessFlags := 26, nameIndex := 1121, descriptorIndex := 1122, attributes := #[] }, { accessFlags := 25, nameIndex := 599, descriptorIndex := 600, attributes := #[] }, { accessFlags := 24, nameIndex := 1125, descriptorIndex := 18, attributes := #[] }, { accessFlags := 24, nameIndex := 1127, descriptorIndex := 18, attributes := #[] }])
  fields := #[{ name := "value", type := (.array .byte), accessFlags := 18, slot := 0, constantValue := 0 }, { name := "coder", type := .byte, accessFlags := 18, slot := 1, constantValue := 0 }, { name := "hash", type := .int, accessFlags := 2, slot := 2, constantValue := 0 }, { name := "hashIsZero", type := .boolean, accessFlags := 2, slot := 3, constantValue := 0 }, { name := "serialVersionUID", type := .long, accessFlags := 26, slot := 0, constantValue := 0 }, { name := "COMPACT_STRINGS", type := .boolean, accessFlags := 24, slot := 1, constantValue := 0 }, { name := "serialPersistentFields", type := (.array (.object "java/io/ObjectStreamField")), accessFlags := 26, slot := 2, constantValue := 0 }, { name := "REPL", type := .char, accessFlags := 26, slot := 3, constantValue := 0 }, { name := "CASE_INSENSITIVE_ORDER", type := (.object "java/util/Comparator"), accessFlags := 25, slot := 4, constantValue := 0 }, { name := "LATIN1", type := .byte, accessFlags := 24, slot := 5, constantValue := 0 }, { name := "UTF16", type := .byte, accessFlags := 24, slot := 6, constantValue := 0 }]
  methods := #[k7m0, k7m1, k7m2, k7m3, k7m4, k7m5, k7m6, k7m7, k7m8, k7m9, k7m10, k7m11, k7m12]
  instanceTypes := #[(.array .byte), .byte, .int, .boolean]
  staticTypes := #[.long, .boolean, (.array (.object "java/io/ObjectStreamField")), .char, (.object "java/util/Comparator"), .byte, .byte]
  resolved := Array.replicate 1451 none
  statics := some 0 }

def pool8 : Array CpInfo := pool [(1, .class_ 2), (0, u "java/lang/String"), (1, .class_ 6), (1, u "java/lang/Object"), (0, u "<init>"), (0, u "()V"), (0, .methodref 1 10), (0, .nameAndType 11 12), (0, u "checkIndex"), (0, u "(II)V"), (1, .class_ 16), (1, u "java/lang/StringLatin1"), (36, u "([BI)C"), (36, u "canEncode"), (14, u "(C)Z"), (15, u "$assertionsDisabled"), (0, u "Z"), (98, .class_ 223), (1, u "java/lang/StringLatin1$LinesSpliterator"), (28, u "charAt"), (28, u "equals"), (0, u "([B[B)Z"), (97, u "toBytes"), (1, u "(C)[B"), (7, .class_ 391), (0, u "java/lang/StringLatin1$CharsSpliterator")] 3

def k8m0 : Method := { name := "<init>", desc := "()V", sig := { parameters := [], returnType := none }, accessFlags := 0, code := none }
def k8c1 : Code := { maxStack := 2, maxLocals := 2, code := jdk_43_method_2_code, exceptionTable := #[], attributes := #[] }
def k8m1 : Method := { name := "charAt", desc := "([BI)C", sig := { parameters := [(.array .byte), .int], returnType := some .char }, accessFlags := 9, code := some k8c1 }
def k8c2 : Code := { maxStack := 2, maxLocals := 1, code := jdk_43_method_3_code, exceptionTable := #[], attributes := #[] }
def k8m2 : Method := { name := "canEncode", desc := "(C)Z", sig := { parameters := [.char], returnType := some .boolean }, accessFlags := 9, code := some k8c2 }
def k8c3 : Code := { maxStack := 3, maxLocals := 3, code := jdk_43_method_13_code, exceptionTable := #[], attributes := #[] }
def k8m3 : Method := { name := "equals", desc := "([B[B)Z", sig := { parameters := [(.array .byte), (.array .byte)], returnType := some .boolean }, accessFlags := 9, code := some k8c3 }
def k8c4 : Code := { maxStack := 4, maxLocals := 1, code := jdk_43_method_46_code, exceptionTable := #[], attributes := #[] }
def k8m4 : Method := { name := "toBytes", desc := "(C)[B", sig := { parameters := [.char], returnType := some (.array .byte) }, accessFlags := 9, code := some k8c4 }
/-- java/lang/StringLatin1 -/
def k8 : Class := { plain "java/lang/StringLatin1" (some 0) with
  accessFlags := 48
  interfaces := #[]
  cf := some (fileOf pool8 14 #[.nestMembers #[390, 221]] #[{ accessFlags := 0, nameIndex := 7, descriptorIndex := 8, attributes := #[] }, { accessFlags := 9, nameIndex := 252, descriptorIndex := 53, attributes := #[] }, { accessFlags := 9, nameIndex := 90, descriptorIndex := 105, attributes := #[] }, { accessFlags := 9, nameIndex := 281, descriptorIndex := 282, attributes := #[] }, { accessFlags := 9, nameIndex := 380, descriptorIndex := 382, attributes := #[] }] 48 4 #[] #[{ accessFlags := 4120, nameIndex := 121, descriptorIndex := 122, attributes := #[] }])
  fields := #[{ name := "$assertionsDisabled", type := .boolean, accessFlags := 4120, slot := 0, constantValue := 0 }]
  methods := #[k8m0, k8m1, k8m2, k8m3, k8m4]
  instanceTypes := #[]
  staticTypes := #[.boolean]
  resolved := Array.replicate 395 none
  statics := none }

def pool9 : Array CpInfo := pool [(1, .methodref 2 3), (0, .class_ 4), (0, .nameAndType 5 6), (0, u "java/lang/Object"), (0, u "<init>"), (0, u "()V"), (0, .methodref 8 9), (0, .class_ 10), (0, .nameAndType 11 12), (0, u "com/example/lucioles/lucioles/model/Rdn"), (0, u "checkClassName"), (0, u "(Ljava/lang/String;)V"), (0, .methodref 8 14), (0, .nameAndType 15 12), (0, u "checkId"), (0, .fieldref 8 17), (0, .nameAndType 18 19), (0, u "className"), (0, u "Ljava/lang/String;"), (0, .fieldref 8 21), (0, .nameAndType 22 19), (0, u "id"), (2, .methodref 26 27), (0, .class_ 28), (0, .nameAndType 29 30), (0, u "java/util/Objects"), (0, u "requireNonNull"), (0, u "(Ljava/lang/Object;Ljava/lang/String;)Ljava/lang/Object;"), (0, .methodref 32 33), (0, .class_ 34), (0, .nameAndType 35 36), (0, u "java/lang/String"), (0, u "isEmpty"), (0, u "()Z"), (9, u "(I)I"), (16, u "(Ljava/lang/String;Ljava/lang/String;)V"), (0, .methodref 32 65), (0, .nameAndType 66 67), (0, u "equals"), (0, u "(Ljava/lang/Object;)Z"), (3, u "()I"), (3, .string 18), (2, .methodref 32 79), (0, .nameAndType 80 81), (0, u "charAt"), (0, u "(I)C"), (0, .methodref 8 83), (0, .nameAndType 84 85), (0, u "isAsciiLetter"), (0, u "(C)Z"), (1, .methodref 32 88), (0, .nameAndType 89 71), (0, u "length"), (5, .string 22), (2, .methodref 32 99), (0, .nameAndType 100 46), (0, u "codePointAt"), (4, .methodref 8 106), (0, .nameAndType 107 108), (0, u "isAsciiControl"), (0, u "(I)Z"), (1, .class_ 111), (0, u "java/lang/Character"), (0, .integer 55296), (0, .integer 57343), (12, .methodref 110 127), (0, .nameAndType 128 46), (0, u "charCount")] 58

def k9c0 : Code := { maxStack := 2, maxLocals := 3, code := prog_9_method_1_code, exceptionTable := #[], attributes := #[] }
def k9m0 : Method := { name := "<init>", desc := "(Ljava/lang/String;Ljava/lang/String;)V", sig := { parameters := [(.object "java/lang/String"), (.object "java/lang/String")], returnType := none }, accessFlags := 1, code := some k9c0 }
def k9c1 : Code := { maxStack := 2, maxLocals := 3, code := prog_9_method_5_code, exceptionTable := #[], attributes := #[] }
def k9m1 : Method := { name := "equals", desc := "(Ljava/lang/Object;)Z", sig := { parameters := [(.object "java/lang/Object")], returnType := some .boolean }, accessFlags := 1, code := some k9c1 }
def k9c2 : Code := { maxStack := 4, maxLocals := 3, code := prog_9_method_8_code, exceptionTable := #[], attributes := #[] }
def k9m2 : Method := { name := "checkClassName", desc := "(Ljava/lang/String;)V", sig := { parameters := [(.object "java/lang/String")], returnType := none }, accessFlags := 10, code := some k9c2 }
def k9c3 : Code := { maxStack := 7, maxLocals := 3, code := prog_9_method_9_code, exceptionTable := #[], attributes := #[] }
def k9m3 : Method := { name := "checkId", desc := "(Ljava/lang/String;)V", sig := { parameters := [(.object "java/lang/String")], returnType := none }, accessFlags := 10, code := some k9c3 }
def k9c4 : Code := { maxStack := 2, maxLocals := 1, code := prog_9_method_12_code, exceptionTable := #[], attributes := #[] }
def k9m4 : Method := { name := "isAsciiControl", desc := "(I)Z", sig := { parameters := [.int], returnType := some .boolean }, accessFlags := 10, code := some k9c4 }
def k9c5 : Code := { maxStack := 2, maxLocals := 1, code := prog_9_method_13_code, exceptionTable := #[], attributes := #[] }
def k9m5 : Method := { name := "isAsciiLetter", desc := "(C)Z", sig := { parameters := [.char], returnType := some .boolean }, accessFlags := 10, code := some k9c5 }
/-- com/example/lucioles/lucioles/model/Rdn -/
def k9 : Class := { plain "com/example/lucioles/lucioles/model/Rdn" (some 0) with
  accessFlags := 33
  interfaces := #[]
  cf := some (fileOf pool9 8 #[] #[{ accessFlags := 1, nameIndex := 5, descriptorIndex := 63, attributes := #[] }, { accessFlags := 1, nameIndex := 66, descriptorIndex := 67, attributes := #[] }, { accessFlags := 10, nameIndex := 11, descriptorIndex := 12, attributes := #[] }, { accessFlags := 10, nameIndex := 15, descriptorIndex := 12, attributes := #[] }, { accessFlags := 10, nameIndex := 107, descriptorIndex := 108, attributes := #[] }, { accessFlags := 10, nameIndex := 84, descriptorIndex := 85, attributes := #[] }] 33 2 #[] #[{ accessFlags := 18, nameIndex := 18, descriptorIndex := 19, attributes := #[] }, { accessFlags := 18, nameIndex := 22, descriptorIndex := 19, attributes := #[] }])
  fields := #[{ name := "className", type := (.object "java/lang/String"), accessFlags := 18, slot := 0, constantValue := 0 }, { name := "id", type := (.object "java/lang/String"), accessFlags := 18, slot := 1, constantValue := 0 }]
  methods := #[k9m0, k9m1, k9m2, k9m3, k9m4, k9m5]
  instanceTypes := #[(.object "java/lang/String"), (.object "java/lang/String")]
  staticTypes := #[]
  resolved := Array.replicate 187 none
  statics := none }

def pool10 : Array CpInfo := pool [(2, .class_ 4), (1, u "java/lang/Object"), (0, u "<init>"), (0, u "()V"), (35, .class_ 44), (1, u "java/util/Objects"), (0, u "requireNonNull"), (48, u "(Ljava/lang/Object;Ljava/lang/String;)Ljava/lang/Object;")] 89

def k10m0 : Method := { name := "<init>", desc := "()V", sig := { parameters := [], returnType := none }, accessFlags := 2, code := none }
def k10c1 : Code := { maxStack := 3, maxLocals := 2, code := jdk_31_method_11_code, exceptionTable := #[], attributes := #[] }
def k10m1 : Method := { name := "requireNonNull", desc := "(Ljava/lang/Object;Ljava/lang/String;)Ljava/lang/Object;", sig := { parameters := [(.object "java/lang/Object"), (.object "java/lang/String")], returnType := some (.object "java/lang/Object") }, accessFlags := 9, code := some k10c1 }
/-- java/util/Objects -/
def k10 : Class := { plain "java/util/Objects" (some 0) with
  accessFlags := 49
  interfaces := #[]
  cf := some (fileOf pool10 42 #[] #[{ accessFlags := 2, nameIndex := 5, descriptorIndex := 6, attributes := #[] }, { accessFlags := 9, nameIndex := 45, descriptorIndex := 94, attributes := #[] }] 49 2 #[] #[])
  fields := #[]
  methods := #[k10m0, k10m1]
  instanceTypes := #[]
  staticTypes := #[]
  resolved := Array.replicate 184 none
  statics := none }

def pool11 : Array CpInfo := pool [(2, .class_ 4), (1, u "java/lang/Object"), (0, u "<init>"), (0, u "()V"), (17, .class_ 26), (1, u "jdk/internal/util/Preconditions"), (6, u "checkIndex"), (21, .class_ 56), (0, u "jdk/internal/util/Preconditions$4"), (57, .class_ 115), (0, u "jdk/internal/util/Preconditions$1"), (7, u "SIOOBE_FORMATTER"), (0, u "Ljava/util/function/BiFunction;"), (0, .class_ 126), (0, u "jdk/internal/util/Preconditions$2"), (3, u "AIOOBE_FORMATTER"), (0, .class_ 132), (0, u "jdk/internal/util/Preconditions$3"), (3, u "IOOBE_FORMATTER"), (41, u "(IILjava/util/function/BiFunction;)I")] 15

def k11m0 : Method := { name := "<init>", desc := "()V", sig := { parameters := [], returnType := none }, accessFlags := 1, code := none }
def k11c1 : Code := { maxStack := 3, maxLocals := 3, code := jdk_41_method_11_code, exceptionTable := #[], attributes := #[] }
def k11m1 : Method := { name := "checkIndex", desc := "(IILjava/util/function/BiFunction;)I", sig := { parameters := [.int, .int, (.object "java/util/function/BiFunction")], returnType := some .int }, accessFlags := 9, code := some k11c1 }
/-- jdk/internal/util/Preconditions -/
def k11 : Class := { plain "jdk/internal/util/Preconditions" (some 0) with
  accessFlags := 33
  interfaces := #[]
  cf := some (fileOf pool11 24 #[.nestMembers #[55, 131, 125, 114]] #[{ accessFlags := 1, nameIndex := 5, descriptorIndex := 6, attributes := #[] }, { accessFlags := 9, nameIndex := 33, descriptorIndex := 178, attributes := #[] }] 33 2 #[] #[{ accessFlags := 25, nameIndex := 123, descriptorIndex := 124, attributes := #[] }, { accessFlags := 25, nameIndex := 130, descriptorIndex := 124, attributes := #[] }, { accessFlags := 25, nameIndex := 136, descriptorIndex := 124, attributes := #[] }])
  fields := #[{ name := "SIOOBE_FORMATTER", type := (.object "java/util/function/BiFunction"), accessFlags := 25, slot := 0, constantValue := 0 }, { name := "AIOOBE_FORMATTER", type := (.object "java/util/function/BiFunction"), accessFlags := 25, slot := 1, constantValue := 0 }, { name := "IOOBE_FORMATTER", type := (.object "java/util/function/BiFunction"), accessFlags := 25, slot := 2, constantValue := 0 }]
  methods := #[k11m0, k11m1]
  instanceTypes := #[]
  staticTypes := #[(.object "java/util/function/BiFunction"), (.object "java/util/function/BiFunction"), (.object "java/util/function/BiFunction")]
  resolved := Array.replicate 194 none
  statics := some 1 }

def pool12 : Array CpInfo := pool [(1, .class_ 2), (0, u "java/lang/Character"), (18, u "value"), (0, u "C"), (19, .class_ 44), (1, u "java/lang/Object"), (3, .class_ 50), (1, u "java/lang/Character$CharacterCache"), (22, .integer 65536), (100, u "(I)I"), (109, u "$assertionsDisabled"), (0, u "Z"), (21, .class_ 309), (1, u "java/lang/Character$UnicodeBlock"), (73, u "TYPE"), (0, u "Ljava/lang/Class;"), (0, .class_ 386), (0, u "java/io/Serializable"), (0, .class_ 388), (0, u "java/lang/Comparable"), (0, .class_ 390), (0, u "java/lang/constant/Constable"), (0, u "MIN_RADIX"), (0, u "I"), (2, u "MAX_RADIX"), (1, u "MIN_VALUE"), (1, u "MAX_VALUE"), (3, u "UNASSIGNED"), (0, u "B"), (0, u "UPPERCASE_LETTER"), (1, u "LOWERCASE_LETTER"), (0, u "TITLECASE_LETTER"), (1, u "MODIFIER_LETTER"), (1, u "OTHER_LETTER"), (1, u "NON_SPACING_MARK"), (1, u "ENCLOSING_MARK"), (1, u "COMBINING_SPACING_MARK"), (1, u "DECIMAL_DIGIT_NUMBER"), (1, u "LETTER_NUMBER"), (1, u "OTHER_NUMBER"), (1, u "SPACE_SEPARATOR"), (1, u "LINE_SEPARATOR"), (1, u "PARAGRAPH_SEPARATOR"), (1, u "CONTROL"), (1, u "FORMAT"), (1, u "PRIVATE_USE"), (1, u "SURROGATE"), (1, u "DASH_PUNCTUATION"), (1, u "START_PUNCTUATION"), (1, u "END_PUNCTUATION"), (1, u "CONNECTOR_PUNCTUATION"), (1, u "OTHER_PUNCTUATION"), (1, u "MATH_SYMBOL"), (1, u "CURRENCY_SYMBOL"), (1, u "MODIFIER_SYMBOL"), (1, u "OTHER_SYMBOL"), (1, u "INITIAL_QUOTE_PUNCTUATION"), (1, u "FINAL_QUOTE_PUNCTUATION"), (1, u "ERROR"), (1, u "DIRECTIONALITY_UNDEFINED"), (0, u "DIRECTIONALITY_LEFT_TO_RIGHT"), (0, u "DIRECTIONALITY_RIGHT_TO_LEFT"), (0, u "DIRECTIONALITY_RIGHT_TO_LEFT_ARABIC"), (0, u "DIRECTIONALITY_EUROPEAN_NUMBER"), (0, u "DIRECTIONALITY_EUROPEAN_NUMBER_SEPARATOR"), (0, u "DIRECTIONALITY_EUROPEAN_NUMBER_TERMINATOR"), (0, u "DIRECTIONALITY_ARABIC_NUMBER"), (0, u "DIRECTIONALITY_COMMON_NUMBER_SEPARATOR"), (0, u "DIRECTIONALITY_NONSPACING_MARK"), (0, u "DIRECTIONALITY_BOUNDARY_NEUTRAL"), (0, u "DIRECTIONALITY_PARAGRAPH_SEPARATOR"), (0, u "DIRECTIONALITY_SEGMENT_SEPARATOR"), (0, u "DIRECTIONALITY_WHITESPACE"), (0, u "DIRECTIONALITY_OTHER_NEUTRALS"), (0, u "DIRECTIONALITY_LEFT_TO_RIGHT_EMBEDDING"), (0, u "DIRECTIONALITY_LEFT_TO_RIGHT_OVERRIDE"), (0, u "DIRECTIONALITY_RIGHT_TO_LEFT_EMBEDDING"), (0, u "DIRECTIONALITY_RIGHT_TO_LEFT_OVERRIDE"), (1, u "DIRECTIONALITY_POP_DIRECTIONAL_FORMAT"), (0, u "DIRECTIONALITY_LEFT_TO_RIGHT_ISOLATE"), (0, u "DIRECTIONALITY_RIGHT_TO_LEFT_ISOLATE"), (0, u "DIRECTIONALITY_FIRST_STRONG_ISOLATE"), (0, u "DIRECTIONALITY_POP_DIRECTIONAL_ISOLATE"), (0, u "MIN_HIGH_SURROGATE"), (0, u "MAX_HIGH_SURROGATE"), (1, u "MIN_LOW_SURROGATE"), (0, u "MAX_LOW_SURROGATE"), (1, u "MIN_SURROGATE"), (0, u "MAX_SURROGATE"), (0, u "MIN_SUPPLEMENTARY_CODE_POINT"), (0, u "MIN_CODE_POINT"), (0, u "MAX_CODE_POINT"), (1, u "serialVersionUID"), (0, u "J"), (2, u "SIZE"), (0, u "BYTES"), (29, u "charCount"), (58, .class_ 596), (0, u "java/lang/Character$UnicodeScript"), (0, .class_ 598), (0, u "java/lang/Character$Subset")] 5

def k12c0 : Code := { maxStack := 2, maxLocals := 1, code := jdk_89_method_18_code, exceptionTable := #[], attributes := #[] }
def k12m0 : Method := { name := "charCount", desc := "(I)I", sig := { parameters := [.int], returnType := some .int }, accessFlags := 9, code := some k12c0 }
/-- java/lang/Character -/
def k12 : Class := { plain "java/lang/Character" (some 0) with
  accessFlags := 49
  interfaces := #[2, 3, 5]
  cf := some (fileOf pool12 1 #[.nestMembers #[48, 595, 307, 597]] #[{ accessFlags := 9, nameIndex := 536, descriptorIndex := 174, attributes := #[] }] 49 42 #[385, 387, 389] #[{ accessFlags := 25, nameIndex := 391, descriptorIndex := 392, attributes := #[] }, { accessFlags := 25, nameIndex := 395, descriptorIndex := 392, attributes := #[] }, { accessFlags := 25, nameIndex := 397, descriptorIndex := 22, attributes := #[] }, { accessFlags := 25, nameIndex := 399, descriptorIndex := 22, attributes := #[] }, { accessFlags := 25, nameIndex := 383, descriptorIndex := 384, attributes := #[] }, { accessFlags := 25, nameIndex := 403, descriptorIndex := 404, attributes := #[] }, { accessFlags := 25, nameIndex := 405, descriptorIndex := 404, attributes := #[] }, { accessFlags := 25, nameIndex := 407, descriptorIndex := 404, attributes := #[] }, { accessFlags := 25, nameIndex := 408, descriptorIndex := 404, attributes := #[] }, { accessFlags := 25, nameIndex := 410, descriptorIndex := 404, attributes := #[] }, { accessFlags := 25, nameIndex := 412, descriptorIndex := 404, attributes := #[] }, { accessFlags := 25, nameIndex := 414, descriptorIndex := 404, attributes := #[] }, { accessFlags := 25, nameIndex := 416, descriptorIndex := 404, attributes := #[] }, { accessFlags := 25, nameIndex := 418, descriptorIndex := 404, attributes := #[] }, { accessFlags := 25, nameIndex := 420, descriptorIndex := 404, attributes := #[] }, { accessFlags := 25, nameIndex := 422, descriptorIndex := 404, attributes := #[] }, { accessFlags := 25, nameIndex := 424, descriptorIndex := 404, attributes := #[] }, { accessFlags := 25, nameIndex := 426, descriptorIndex := 404, attributes := #[] }, { accessFlags := 25, nameIndex := 428, descriptorIndex := 404, attributes := #[] }, { accessFlags := 25, nameIndex := 430, descriptorIndex := 404, attributes := #[] }, { accessFlags := 25, nameIndex := 432, descriptorIndex := 404, attributes := #[] }, { accessFlags := 25, nameIndex := 434, descriptorIndex := 404, attributes := #[] }, { accessFlags := 25, nameIndex := 436, descriptorIndex := 404, attributes := #[] }, { accessFlags := 25, nameIndex := 438, descriptorIndex := 404, attributes := #[] }, { accessFlags := 25, nameIndex := 440, descriptorIndex := 404, attributes := #[] }, { accessFlags := 25, nameIndex := 442, descriptorIndex := 404, attributes := #[] }, { accessFlags := 25, nameIndex := 444, descriptorIndex := 404, attributes := #[] }, { accessFlags := 25, nameIndex := 446, descriptorIndex := 404, attributes := #[] }, { accessFlags := 25, nameIndex := 448, descriptorIndex := 404, attributes := #[] }, { accessFlags := 25, nameIndex := 450, descriptorIndex := 404, attributes := #[] }, { accessFlags := 25, nameIndex := 452, descriptorIndex := 404, attributes := #[] }, { accessFlags := 25, nameIndex := 454, descriptorIndex := 404, attributes := #[] }, { accessFlags := 25, nameIndex := 456, descriptorIndex := 404, attributes := #[] }, { accessFlags := 25, nameIndex := 458, descriptorIndex := 404, attributes := #[] }, { accessFlags := 25, nameIndex := 460, descriptorIndex := 404, attributes := #[] }, { accessFlags := 24, nameIndex := 462, descriptorIndex := 392, attributes := #[] }, { accessFlags := 25, nameIndex := 464, descriptorIndex := 404, attributes := #[] }, { accessFlags := 25, nameIndex := 465, descriptorIndex := 404, attributes := #[] }, { accessFlags := 25, nameIndex := 466, descriptorIndex := 404, attributes := #[] }, { accessFlags := 25, nameIndex := 467, descriptorIndex := 404, attributes := #[] }, { accessFlags := 25, nameIndex := 468, descriptorIndex := 404, attributes := #[] }, { accessFlags := 25, nameIndex := 469, descriptorIndex := 404, attributes := #[] }, { accessFlags := 25, nameIndex := 470, descriptorIndex := 404, attributes := #[] }, { accessFlags := 25, nameIndex := 471, descriptorIndex := 404, attributes := #[] }, { accessFlags := 25, nameIndex := 472, descriptorIndex := 404, attributes := #[] }, { accessFlags := 25, nameIndex := 473, descriptorIndex := 404, attributes := #[] }, { accessFlags := 25, nameIndex := 474, descriptorIndex := 404, attributes := #[] }, { accessFlags := 25, nameIndex := 475, descriptorIndex := 404, attributes := #[] }, { accessFlags := 25, nameIndex := 476, descriptorIndex := 404, attributes := #[] }, { accessFlags := 25, nameIndex := 477, descriptorIndex := 404, attributes := #[] }, { accessFlags := 25, nameIndex := 478, descriptorIndex := 404, attributes := #[] }, { accessFlags := 25, nameIndex := 479, descriptorIndex := 404, attributes := #[] }, { accessFlags := 25, nameIndex := 480, descriptorIndex := 404, attributes := #[] }, { accessFlags := 25, nameIndex := 481, descriptorIndex := 404, attributes := #[] }, { accessFlags := 25, nameIndex := 482, descriptorIndex := 404, attributes := #[] }, { accessFlags := 25, nameIndex := 484, descriptorIndex := 404, attributes := #[] }, { accessFlags := 25, nameIndex := 485, descriptorIndex := 404, attributes := #[] }, { accessFlags := 25, nameIndex := 486, descriptorIndex := 404, attributes := #[] }, { accessFlags := 25, nameIndex := 487, descriptorIndex := 404, attributes := #[] }, { accessFlags := 25, nameIndex := 488, descriptorIndex := 404, attributes := #[] }, { accessFlags := 25, nameIndex := 489, descriptorIndex := 22, attributes := #[] }, { accessFlags := 25, nameIndex := 490, descriptorIndex := 22, attributes := #[] }, { accessFlags := 25, nameIndex := 492, descriptorIndex := 22, attributes := #[] }, { accessFlags := 25, nameIndex := 493, descriptorIndex := 22, attributes := #[] }, { accessFlags := 25, nameIndex := 495, descriptorIndex := 22, attributes := #[] }, { accessFlags := 25, nameIndex := 496, descriptorIndex := 22, attributes := #[] }, { accessFlags := 25, nameIndex := 497, descriptorIndex := 392, attributes := #[] }, { accessFlags := 25, nameIndex := 498, descriptorIndex := 392, attributes := #[] }, { accessFlags := 25, nameIndex := 499, descriptorIndex := 392, attributes := #[] }, { accessFlags := 18, nameIndex := 21, descriptorIndex := 22, attributes := #[] }, { accessFlags := 26, nameIndex := 501, descriptorIndex := 502, attributes := #[] }, { accessFlags := 25, nameIndex := 505, descriptorIndex := 392, attributes := #[] }, { accessFlags := 25, nameIndex := 506, descriptorIndex := 392, attributes := #[] }, { accessFlags := 4120, nameIndex := 284, descriptorIndex := 285, attributes := #[] }])
  fields := #[{ name := "MIN_RADIX", type := .int, accessFlags := 25, slot := 0, constantValue := 0 }, { name := "MAX_RADIX", type := .int, accessFlags := 25, slot := 1, constantValue := 0 }, { name := "MIN_VALUE", type := .char, accessFlags := 25, slot := 2, constantValue := 0 }, { name := "MAX_VALUE", type := .char, accessFlags := 25, slot := 3, constantValue := 0 }, { name := "TYPE", type := (.object "java/lang/Class"), accessFlags := 25, slot := 4, constantValue := 0 }, { name := "UNASSIGNED", type := .byte, accessFlags := 25, slot := 5, constantValue := 0 }, { name := "UPPERCASE_LETTER", type := .byte, accessFlags := 25, slot := 6, constantValue := 0 }, { name := "LOWERCASE_LETTER", type := .byte, accessFlags := 25, slot := 7, constantValue := 0 }, { name := "TITLECASE_LETTER", type := .byte, accessFlags := 25, slot := 8, constantValue := 0 }, { name := "MODIFIER_LETTER", type := .byte, accessFlags := 25, slot := 9, constantValue := 0 }, { name := "OTHER_LETTER", type := .byte, accessFlags := 25, slot := 10, constantValue := 0 }, { name := "NON_SPACING_MARK", type := .byte, accessFlags := 25, slot := 11, constantValue := 0 }, { name := "ENCLOSING_MARK", type := .byte, accessFlags := 25, slot := 12, constantValue := 0 }, { name := "COMBINING_SPACING_MARK", type := .byte, accessFlags := 25, slot := 13, constantValue := 0 }, { name := "DECIMAL_DIGIT_NUMBER", type := .byte, accessFlags := 25, slot := 14, constantValue := 0 }, { name := "LETTER_NUMBER", type := .byte, accessFlags := 25, slot := 15, constantValue := 0 }, { name := "OTHER_NUMBER", type := .byte, accessFlags := 25, slot := 16, constantValue := 0 }, { name := "SPACE_SEPARATOR", type := .byte, accessFlags := 25, slot := 17, constantValue := 0 }, { name := "LINE_SEPARATOR", type := .byte, accessFlags := 25, slot := 18, constantValue := 0 }, { name := "PARAGRAPH_SEPARATOR", type := .byte, accessFlags := 25, slot := 19, constantValue := 0 }, { name := "CONTROL", type := .byte, accessFlags := 25, slot := 20, constantValue := 0 }, { name := "FORMAT", type := .byte, accessFlags := 25, slot := 21, constantValue := 0 }, { name := "PRIVATE_USE", type := .byte, accessFlags := 25, slot := 22, constantValue := 0 }, { name := "SURROGATE", type := .byte, accessFlags := 25, slot := 23, constantValue := 0 }, { name := "DASH_PUNCTUATION", type := .byte, accessFlags := 25, slot := 24, constantValue := 0 }, { name := "START_PUNCTUATION", type := .byte, accessFlags := 25, slot := 25, constantValue := 0 }, { name := "END_PUNCTUATION", type := .byte, accessFlags := 25, slot := 26, constantValue := 0 }, { name := "CONNECTOR_PUNCTUATION", type := .byte, accessFlags := 25, slot := 27, constantValue := 0 }, { name := "OTHER_PUNCTUATION", type := .byte, accessFlags := 25, slot := 28, constantValue := 0 }, { name := "MATH_SYMBOL", type := .byte, accessFlags := 25, slot := 29, constantValue := 0 }, { name := "CURRENCY_SYMBOL", type := .byte, accessFlags := 25, slot := 30, constantValue := 0 }, { name := "MODIFIER_SYMBOL", type := .byte, accessFlags := 25, slot := 31, constantValue := 0 }, { name := "OTHER_SYMBOL", type := .byte, accessFlags := 25, slot := 32, constantValue := 0 }, { name := "INITIAL_QUOTE_PUNCTUATION", type := .byte, accessFlags := 25, slot := 33, constantValue := 0 }, { name := "FINAL_QUOTE_PUNCTUATION", type := .byte, accessFlags := 25, slot := 34, constantValue := 0 }, { name := "ERROR", type := .int, accessFlags := 24, slot := 35, constantValue := 0 }, { name := "DIRECTIONALITY_UNDEFINED", type := .byte, accessFlags := 25, slot := 36, constantValue := 0 }, { name := "DIRECTIONALITY_LEFT_TO_RIGHT", type := .byte, accessFlags := 25, slot := 37, constantValue := 0 }, { name := "DIRECTIONALITY_RIGHT_TO_LEFT", type := .byte, accessFlags := 25, slot := 38, constantValue := 0 }, { name := "DIRECTIONALITY_RIGHT_TO_LEFT_ARABIC", type := .byte, accessFlags := 25, slot := 39, constantValue := 0 }, { name := "DIRECTIONALITY_EUROPEAN_NUMBER", type := .byte, accessFlags := 25, slot := 40, constantValue := 0 }, { name := "DIRECTIONALITY_EUROPEAN_NUMBER_SEPARATOR", type := .byte, accessFlags := 25, slot := 41, constantValue := 0 }, { name := "DIRECTIONALITY_EUROPEAN_NUMBER_TERMINATOR", type := .byte, accessFlags := 25, slot := 42, constantValue := 0 }, { name := "DIRECTIONALITY_ARABIC_NUMBER", type := .byte, accessFlags := 25, slot := 43, constantValue := 0 }, { name := "DIRECTIONALITY_COMMON_NUMBER_SEPARATOR", type := .byte, accessFlags := 25, slot := 44, constantValue := 0 }, { name := "DIRECTIONALITY_NONSPACING_MARK", type := .byte, accessFlags := 25, slot := 45, constantValue := 0 }, { name := "DIRECTIONALITY_BOUNDARY_NEUTRAL", type := .byte, accessFlags := 25, slot := 46, constantValue := 0 }, { name := "DIRECTIONALITY_PARAGRAPH_SEPARATOR", type := .byte, accessFlags := 25, slot := 47, constantValue := 0 }, { name := "DIRECTIONALITY_SEGMENT_SEPARATOR", type := .byte, accessFlags := 25, slot := 48, constantValue := 0 }, { name := "DIRECTIONALITY_WHITESPACE", type := .byte, accessFlags := 25, slot := 49, constantValue := 0 }, { name := "DIRECTIONALITY_OTHER_NEUTRALS", type := .byte, accessFlags := 25, slot := 50, constantValue := 0 }, { name := "DIRECTIONALITY_LEFT_TO_RIGHT_EMBEDDING", type := .byte, accessFlags := 25, slot := 51, constantValue := 0 }, { name := "DIRECTIONALITY_LEFT_TO_RIGHT_OVERRIDE", type := .byte, accessFlags := 25, slot := 52, constantValue := 0 }, { name := "DIRECTIONALITY_RIGHT_TO_LEFT_EMBEDDING", type := .byte, accessFlags := 25, slot := 53, constantValue := 0 }, { name := "DIRECTIONALITY_RIGHT_TO_LEFT_OVERRIDE", type := .byte, accessFlags := 25, slot := 54, constantValue := 0 }, { name := "DIRECTIONALITY_POP_DIRECTIONAL_FORMAT", type := .byte, accessFlags := 25, slot := 55, constantValue := 0 }, { name := "DIRECTIONALITY_LEFT_TO_RIGHT_ISOLATE", type := .byte, accessFlags := 25, slot := 56, constantValue := 0 }, { name := "DIRECTIONALITY_RIGHT_TO_LEFT_ISOLATE", type := .byte, accessFlags := 25, slot := 57, constantValue := 0 }, { name := "DIRECTIONALITY_FIRST_STRONG_ISOLATE", type := .byte, accessFlags := 25, slot := 58, constantValue := 0 }, { name := "DIRECTIONALITY_POP_DIRECTIONAL_ISOLATE", type := .byte, accessFlags := 25, slot := 59, constantValue := 0 }, { name := "MIN_HIGH_SURROGATE", type := .char, accessFlags := 25, slot := 60, constantValue := 0 }, { name := "MAX_HIGH_SURROGATE", type := .char, accessFlags := 25, slot := 61, constantValue := 0 }, { name := "MIN_LOW_SURROGATE", type := .char, accessFlags := 25, slot := 62, constantValue := 0 }, { name := "MAX_LOW_SURROGATE", type := .char, accessFlags := 25, slot := 63, constantValue := 0 }, { name := "MIN_SURROGATE", type := .char, accessFlags := 25, slot := 64, constantValue := 0 }, { name := "MAX_SURROGATE", type := .char, accessFlags := 25, slot := 65, constantValue := 0 }, { name := "MIN_SUPPLEMENTARY_CODE_POINT", type := .int, accessFlags := 25, slot := 66, constantValue := 0 }, { name := "MIN_CODE_POINT", type := .int, accessFlags := 25, slot := 67, constantValue := 0 }, { name := "MAX_CODE_POINT", type := .int, accessFlags := 25, slot := 68, constantValue := 0 }, { name := "value", type := .char, accessFlags := 18, slot := 0, constantValue := 0 }, { name := "serialVersionUID", type := .long, accessFlags := 26, slot := 69, constantValue := 0 }, { name := "SIZE", type := .int, accessFlags := 25, slot := 70, constantValue := 0 }, { name := "BYTES", type := .int, accessFlags := 25, slot := 71, constantValue := 0 }, { name := "$assertionsDisabled", type := .boolean, accessFlags := 4120, slot := 72, constantValue := 0 }]
  methods := #[k12m0]
  instanceTypes := #[.char]
  staticTypes := #[.int, .int, .char, .char, (.object "java/lang/Class"), .byte, .byte, .byte, .byte, .byte, .byte, .byte, .byte, .byte, .byte, .byte, .byte, .byte, .byte, .byte, .byte, .byte, .byte, .byte, .byte, .byte, .byte, .byte, .byte, .byte, .byte, .byte, .byte, .byte, .byte, .int, .byte, .byte, .byte, .byte, .byte, .byte, .byte, .byte, .byte, .byte, .byte, .byte, .byte, .byte, .byte, .byte, .byte, .byte, .byte, .byte, .byte, .byte, .byte, .byte, .char, .char, .char, .char, .char, .char, .int, .int, .int, .long, .int, .int, .boolean]
  resolved := Array.replicate 604 none
  statics := none }

def pool13 : Array CpInfo := pool [(6, .class_ 8), (1, u "java/lang/Object"), (0, u "<init>"), (0, u "()V"), (1, .class_ 14), (1, u "java/lang/StringUTF16"), (31, u "$assertionsDisabled"), (0, u "Z"), (13, u "HI_BYTE_SHIFT"), (0, u "I"), (2, u "LO_BYTE_SHIFT"), (49, .methodref 12 116), (0, .nameAndType 117 118), (0, u "compress"), (0, u "([CI[BII)I"), (3, u "([CII)[B"), (138, u "coderFromArrayLen"), (0, u "([BI)B"), (106, .class_ 371), (1, u "java/lang/StringUTF16$LinesSpliterator"), (58, u "MAX_LENGTH"), (196, .class_ 628), (0, u "java/lang/StringUTF16$CodePointsSpliterator"), (0, .class_ 630), (0, u "java/lang/StringUTF16$CharsSpliterator")] 4

def k13m0 : Method := { name := "<init>", desc := "()V", sig := { parameters := [], returnType := none }, accessFlags := 0, code := none }
def k13c1 : Code := { maxStack := 2, maxLocals := 2, code := jdk_52_method_15_code, exceptionTable := #[], attributes := #[] }
def k13m1 : Method := { name := "coderFromArrayLen", desc := "([BI)B", sig := { parameters := [(.array .byte), .int], returnType := some .byte }, accessFlags := 8, code := some k13c1 }
def k13c2 : Code := { maxStack := 5, maxLocals := 6, code := jdk_52_method_16_code, exceptionTable := #[], attributes := #[] }
def k13m2 : Method := { name := "compress", desc := "([CII)[B", sig := { parameters := [(.array .char), .int, .int], returnType := some (.array .byte) }, accessFlags := 9, code := some k13c2 }
def k13c3 : Code := { maxStack := 3, maxLocals := 7, code := jdk_52_method_21_code, exceptionTable := #[], attributes := #[] }
def k13m3 : Method := { name := "compress", desc := "([CI[BII)I", sig := { parameters := [(.array .char), .int, (.array .byte), .int, .int], returnType := some .int }, accessFlags := 9, code := some k13c3 }
/-- java/lang/StringUTF16 -/
def k13 : Class := { plain "java/lang/StringUTF16" (some 0) with
  accessFlags := 48
  interfaces := #[]
  cf := some (fileOf pool13 12 #[.nestMembers #[627, 629, 369]] #[{ accessFlags := 0, nameIndex := 9, descriptorIndex := 10, attributes := #[] }, { accessFlags := 8, nameIndex := 261, descriptorIndex := 262, attributes := #[] }, { accessFlags := 9, nameIndex := 117, descriptorIndex := 122, attributes := #[] }, { accessFlags := 9, nameIndex := 117, descriptorIndex := 118, attributes := #[] }] 48 6 #[] #[{ accessFlags := 26, nameIndex := 61, descriptorIndex := 62, attributes := #[] }, { accessFlags := 26, nameIndex := 65, descriptorIndex := 62, attributes := #[] }, { accessFlags := 24, nameIndex := 430, descriptorIndex := 62, attributes := #[] }, { accessFlags := 4120, nameIndex := 46, descriptorIndex := 47, attributes := #[] }])
  fields := #[{ name := "HI_BYTE_SHIFT", type := .int, accessFlags := 26, slot := 0, constantValue := 0 }, { name := "LO_BYTE_SHIFT", type := .int, accessFlags := 26, slot := 1, constantValue := 0 }, { name := "MAX_LENGTH", type := .int, accessFlags := 24, slot := 2, constantValue := 0 }, { name := "$assertionsDisabled", type := .boolean, accessFlags := 4120, slot := 3, constantValue := 0 }]
  methods := #[k13m0, k13m1, k13m2, k13m3]
  instanceTypes := #[]
  staticTypes := #[.int, .int, .int, .boolean]
  resolved := Array.replicate 635 none
  statics := none }

def pool14 : Array CpInfo := pool [(9, u "<init>"), (6, .class_ 18), (1, u "java/lang/Object"), (0, u "()V"), (1, .class_ 23), (1, u "jdk/internal/util/ArraysSupport"), (0, u "LOG2_ARRAY_LONG_INDEX_SCALE"), (0, u "I"), (2, u "U"), (0, u "Ljdk/internal/misc/Unsafe;"), (8, u "BIG_ENDIAN"), (0, u "Z"), (8, u "LOG2_BYTE_BIT_SIZE"), (4, u "LOG2_ARRAY_INT_INDEX_SCALE"), (54, u "JLA"), (0, u "Ljdk/internal/access/JavaLangAccess;"), (11, u "LOG2_ARRAY_BOOLEAN_INDEX_SCALE"), (9, u "LOG2_ARRAY_BYTE_INDEX_SCALE"), (5, u "LOG2_ARRAY_CHAR_INDEX_SCALE"), (5, u "LOG2_ARRAY_SHORT_INDEX_SCALE"), (18, u "LOG2_ARRAY_FLOAT_INDEX_SCALE"), (24, u "LOG2_ARRAY_DOUBLE_INDEX_SCALE"), (89, u "T_BOOLEAN"), (2, u "T_CHAR"), (1, u "T_FLOAT"), (1, u "T_DOUBLE"), (1, u "T_BYTE"), (1, u "T_SHORT"), (1, u "T_INT"), (1, u "T_LONG"), (1, u "SOFT_MAX_ARRAY_LENGTH")] 83

def k14m0 : Method := { name := "<init>", desc := "()V", sig := { parameters := [], returnType := none }, accessFlags := 2, code := none }
/-- jdk/internal/util/ArraysSupport -/
def k14 : Class := { plain "jdk/internal/util/ArraysSupport" (some 0) with
  accessFlags := 33
  interfaces := #[]
  cf := some (fileOf pool14 21 #[] #[{ accessFlags := 2, nameIndex := 9, descriptorIndex := 19, attributes := #[] }] 33 16 #[] #[{ accessFlags := 24, nameIndex := 28, descriptorIndex := 29, attributes := #[] }, { accessFlags := 26, nameIndex := 38, descriptorIndex := 39, attributes := #[] }, { accessFlags := 25, nameIndex := 121, descriptorIndex := 25, attributes := #[] }, { accessFlags := 25, nameIndex := 131, descriptorIndex := 25, attributes := #[] }, { accessFlags := 25, nameIndex := 137, descriptorIndex := 25, attributes := #[] }, { accessFlags := 25, nameIndex := 143, descriptorIndex := 25, attributes := #[] }, { accessFlags := 25, nameIndex := 53, descriptorIndex := 25, attributes := #[] }, { accessFlags := 25, nameIndex := 24, descriptorIndex := 25, attributes := #[] }, { accessFlags := 25, nameIndex := 162, descriptorIndex := 25, attributes := #[] }, { accessFlags := 25, nameIndex := 187, descriptorIndex := 25, attributes := #[] }, { accessFlags := 26, nameIndex := 48, descriptorIndex := 25, attributes := #[] }, { accessFlags := 25, nameIndex := 277, descriptorIndex := 25, attributes := #[] }, { accessFlags := 25, nameIndex := 280, descriptorIndex := 25, attributes := #[] }, { accessFlags := 25, nameIndex := 282, descriptorIndex := 25, attributes := #[] }, { accessFlags := 25, nameIndex := 284, descriptorIndex := 25, attributes := #[] }, { accessFlags := 25, nameIndex := 286, descriptorIndex := 25, attributes := #[] }, { accessFlags := 25, nameIndex := 288, descriptorIndex := 25, attributes := #[] }, { accessFlags := 25, nameIndex := 290, descriptorIndex := 25, attributes := #[] }, { accessFlags := 25, nameIndex := 292, descriptorIndex := 25, attributes := #[] }, { accessFlags := 26, nameIndex := 108, descriptorIndex := 109, attributes := #[] }, { accessFlags := 25, nameIndex := 294, descriptorIndex := 25, attributes := #[] }])
  fields := #[{ name := "U", type := (.object "jdk/internal/misc/Unsafe"), accessFlags := 24, slot := 0, constantValue := 0 }, { name := "BIG_ENDIAN", type := .boolean, accessFlags := 26, slot := 1, constantValue := 0 }, { name := "LOG2_ARRAY_BOOLEAN_INDEX_SCALE", type := .int, accessFlags := 25, slot := 2, constantValue := 0 }, { name := "LOG2_ARRAY_BYTE_INDEX_SCALE", type := .int, accessFlags := 25, slot := 3, constantValue := 0 }, { name := "LOG2_ARRAY_CHAR_INDEX_SCALE", type := .int, accessFlags := 25, slot := 4, constantValue := 0 }, { name := "LOG2_ARRAY_SHORT_INDEX_SCALE", type := .int, accessFlags := 25, slot := 5, constantValue := 0 }, { name := "LOG2_ARRAY_INT_INDEX_SCALE", type := .int, accessFlags := 25, slot := 6, constantValue := 0 }, { name := "LOG2_ARRAY_LONG_INDEX_SCALE", type := .int, accessFlags := 25, slot := 7, constantValue := 0 }, { name := "LOG2_ARRAY_FLOAT_INDEX_SCALE", type := .int, accessFlags := 25, slot := 8, constantValue := 0 }, { name := "LOG2_ARRAY_DOUBLE_INDEX_SCALE", type := .int, accessFlags := 25, slot := 9, constantValue := 0 }, { name := "LOG2_BYTE_BIT_SIZE", type := .int, accessFlags := 26, slot := 10, constantValue := 0 }, { name := "T_BOOLEAN", type := .int, accessFlags := 25, slot := 11, constantValue := 0 }, { name := "T_CHAR", type := .int, accessFlags := 25, slot := 12, constantValue := 0 }, { name := "T_FLOAT", type := .int, accessFlags := 25, slot := 13, constantValue := 0 }, { name := "T_DOUBLE", type := .int, accessFlags := 25, slot := 14, constantValue := 0 }, { name := "T_BYTE", type := .int, accessFlags := 25, slot := 15, constantValue := 0 }, { name := "T_SHORT", type := .int, accessFlags := 25, slot := 16, constantValue := 0 }, { name := "T_INT", type := .int, accessFlags := 25, slot := 17, constantValue := 0 }, { name := "T_LONG", type := .int, accessFlags := 25, slot := 18, constantValue := 0 }, { name := "JLA", type := (.object "jdk/internal/access/JavaLangAccess"), accessFlags := 26, slot := 19, constantValue := 0 }, { name := "SOFT_MAX_ARRAY_LENGTH", type := .int, accessFlags := 25, slot := 20, constantValue := 0 }]
  methods := #[k14m0]
  instanceTypes := #[]
  staticTypes := #[(.object "jdk/internal/misc/Unsafe"), .boolean, .int, .int, .int, .int, .int, .int, .int, .int, .int, .int, .int, .int, .int, .int, .int, .int, .int, (.object "jdk/internal/access/JavaLangAccess"), .int]
  resolved := Array.replicate 378 none
  statics := none }

def pool15 : Array CpInfo := pool [(1, u "java/lang/Cloneable"), (0, .class_ 1), (0, u "java/lang/Object"), (0, .class_ 3)] 3

/-- java/lang/Cloneable -/
def k15 : Class := { plain "java/lang/Cloneable" (some 0) with
  accessFlags := 1537
  interfaces := #[]
  cf := some (fileOf pool15 2 #[] #[] 1537 4 #[] #[])
  fields := #[]
  methods := #[]
  instanceTypes := #[]
  staticTypes := #[]
  resolved := Array.replicate 8 none
  statics := none }

/-- the primitive byte -/
def k16 : Class := { plain "byte" none with kind := .primitive 'B', accessFlags := 0x411 }
/-- [B -/
def k17 : Class := { plain "[B" (some 0) with kind := .array 16 .byte, interfaces := #[15, 2], accessFlags := 1041 }

/-- the primitive char -/
def k18 : Class := { plain "char" none with kind := .primitive 'C', accessFlags := 0x411 }
/-- [C -/
def k19 : Class := { plain "[C" (some 0) with kind := .array 18 .char, interfaces := #[15, 2], accessFlags := 1041 }

def heap : Heap := #[{ cls := 7, slots := #[.long 0, .int 1, .null, .int 0, .null, .int 0, .int 0], vm := .statics 7 },
  { cls := 11, slots := #[.null, .null, .null], vm := .statics 11 }]
def classes : Array Class := #[k0, k1, k2, k3, k4, k5, k6, k7, k8, k9, k10, k11, k12, k13, k14, k15, k16, k17, k18, k19]
def interned : List (Array UInt16 × Addr) := []
def slotsUsed : Nat := 10
def theMethod : MethodId := ⟨1, 5⟩
def args0 : Array Value := #[.int 1, .int 65, .int 3, .int 66, .int 0]
def aboutOver (below : List Frame) : State where
  vm := { classes := classes, interned := interned.toArray }
  heap := heap
  slotsUsed := slotsUsed
  threads := #[{ frames := .invoking theMethod args0 :: below }]
def below0 : List Frame := [.native { method := ⟨0, 0⟩, args := #[] }]
def about1 : State := aboutOver below0
def p0 : Program := .bare "" "" ""
def e0 : Env := launch0.env 0 0 0
theorem w_frames : about1.frames = Frame.invoking theMethod args0 :: below0 := rfl
set_option maxRecDepth 65536 in
theorem w_args : argsFit about1.vm theMethod args0 = true := by decide +kernel
set_option maxRecDepth 65536 in
theorem w_heap : heapFits about1 = true := by decide +kernel
set_option maxRecDepth 65536 in
theorem w_runnable : about1.curStatus? = some .runnable := by decide +kernel
set_option maxRecDepth 65536 in
theorem w_alone : about1.alone = true := by decide +kernel
set_option maxRecDepth 65536 in
theorem w_named : about1.methodNamed? x = some theMethod := by decide +kernel
set_option maxRecDepth 65536 in
theorem w_hears : about1.hears theMethod below0 = true := by decide +kernel
set_option maxRecDepth 65536 in
theorem w_ripe : about1.ripe theMethod args0 below0 = true := by decide +kernel
theorem w_running : about1.status = .running := rfl
set_option maxRecDepth 65536 in
theorem w_room : about1.hasRoom e0.platform room_1 = true :=
  launch0.hasRoom_least _ room_1 (by decide +kernel) (by decide +kernel) (by decide +kernel) (by decide +kernel) (by decide +kernel) (by decide +kernel)
theorem allAtoms_all (ts : List Jvm.Cond) (a : Array Jvm.Value) (st : Jvm.State) : (allAtoms ts).before a st = ts.all (fun c => c.before a st) := by
  induction ts with
  | nil => rfl
  | cons c t ih =>
    show (Jvm.Cond.and c (allAtoms t)).before a st = _
    rw [Jvm.Cond.before_and, ih, List.all_cons]
def words1 : List Jvm.Cond := Jvm.Cond.code x code maxLocals ret :: tables_1
/-- a 'code' word, met by the world's own term for the bytes: nothing is compared byte by byte -/
theorem code_word {y : MethodName} {bytes : ByteArray} {mx : Nat} {rt : Option FieldType} {a : Array Value} {s : State} {m : MethodId} {meth : Method} {c : Code} (h1 : s.methodNamed? y = some m) (h2 : s.vm.method? m = some meth) (h3 : meth.code = some c) (h4 : c.code = bytes)
    (h5 : (c.maxLocals == mx && c.exceptionTable.isEmpty && decide (c.maxStack ≤ mostOperands) && decide (meth.sig.returnType = rt) && !meth.locks && decide (parseMethodDescriptor y.desc = some meth.sig)) = true) : (Jvm.Cond.code y bytes mx rt).before a s = true := by
  simp only [Bool.and_eq_true, beq_iff_eq, Bool.not_eq_true', decide_eq_true_eq] at h5
  obtain ⟨⟨⟨⟨⟨g1, g2⟩, g3⟩, g4⟩, g5⟩, g6⟩ := h5
  simp [Cond.before, Cond.holds, Cond.value, h1, h2, h3, h4, g1, g2, g3, g4, g5, g6]
def isCode : Jvm.Cond → Bool
  | .code _ _ _ _ => true
  | _ => false
theorem all_split {L : List Jvm.Cond} {P : Jvm.Cond → Bool} (h1 : L.all (fun c => isCode c || P c) = true) (h2 : ∀ c ∈ L.filter isCode, P c = true) : L.all P = true := by
  refine List.all_eq_true.mpr fun c hc => ?_
  have h := List.all_eq_true.mp h1 c hc
  rcases Bool.eq_false_or_eq_true (isCode c) with hi | hi
  · exact h2 c (List.mem_filter.mpr ⟨hc, hi⟩)
  · simpa [hi] using h
set_option maxRecDepth 65536 in
theorem w_c0 : (Jvm.Cond.code x code maxLocals ret).before args0 about1 = true := code_word (m := ⟨1, 5⟩) (meth := k1m5) (c := k1c5) (by decide +kernel) rfl rfl rfl (by decide +kernel)
set_option maxRecDepth 65536 in
theorem w_c1 : (Jvm.Cond.code ({ cls := "com/example/lucioles/lucioles/model/RdnEqualsPinLaw", name := "letter", desc := "(I)C" } : Jvm.MethodName) method_2_code (2 : Nat) (Option.some Jvm.ClassFile.FieldType.char)).before args0 about1 = true := code_word (m := ⟨1, 1⟩) (meth := k1m1) (c := k1c1) (by decide +kernel) rfl rfl rfl (by decide +kernel)
set_option maxRecDepth 65536 in
theorem w_c2 : (Jvm.Cond.code ({ cls := "com/example/lucioles/lucioles/model/RdnEqualsPinLaw", name := "nameChar", desc := "(I)C" } : Jvm.MethodName) method_3_code (2 : Nat) (Option.some Jvm.ClassFile.FieldType.char)).before args0 about1 = true := code_word (m := ⟨1, 2⟩) (meth := k1m2) (c := k1c2) (by decide +kernel) rfl rfl rfl (by decide +kernel)
set_option maxRecDepth 65536 in
theorem w_c3 : (Jvm.Cond.code ({ cls := "com/example/lucioles/lucioles/model/RdnEqualsPinLaw", name := "idChar", desc := "(I)C" } : Jvm.MethodName) method_4_code (2 : Nat) (Option.some Jvm.ClassFile.FieldType.char)).before args0 about1 = true := code_word (m := ⟨1, 3⟩) (meth := k1m3) (c := k1c3) (by decide +kernel) rfl rfl rfl (by decide +kernel)
set_option maxRecDepth 65536 in
theorem w_c4 : (Jvm.Cond.code ({ cls := "com/example/lucioles/lucioles/model/RdnEqualsPinLaw", name := "make", desc := "(ICC)Ljava/lang/String;" } : Jvm.MethodName) method_5_code (3 : Nat) (Option.some (Jvm.ClassFile.FieldType.object "java/lang/String"))).before args0 about1 = true := code_word (m := ⟨1, 4⟩) (meth := k1m4) (c := k1c4) (by decide +kernel) rfl rfl rfl (by decide +kernel)
set_option maxRecDepth 65536 in
theorem w_c5 : (Jvm.Cond.code ({ cls := "java/lang/String", name := "valueOf", desc := "(C)Ljava/lang/String;" } : Jvm.MethodName) jdk_42_method_139_code (1 : Nat) (Option.some (Jvm.ClassFile.FieldType.object "java/lang/String"))).before args0 about1 = true := code_word (m := ⟨7, 7⟩) (meth := k7m7) (c := k7c7) (by decide +kernel) rfl rfl rfl (by decide +kernel)
set_option maxRecDepth 65536 in
theorem w_c6 : (Jvm.Cond.code ({ cls := "java/lang/StringLatin1", name := "canEncode", desc := "(C)Z" } : Jvm.MethodName) jdk_43_method_3_code (1 : Nat) (Option.some Jvm.ClassFile.FieldType.boolean)).before args0 about1 = true := code_word (m := ⟨8, 2⟩) (meth := k8m2) (c := k8c2) (by decide +kernel) rfl rfl rfl (by decide +kernel)
set_option maxRecDepth 65536 in
theorem w_c7 : (Jvm.Cond.code ({ cls := "java/lang/StringLatin1", name := "toBytes", desc := "(C)[B" } : Jvm.MethodName) jdk_43_method_46_code (1 : Nat) (Option.some (Jvm.ClassFile.FieldType.array Jvm.ClassFile.FieldType.byte))).before args0 about1 = true := code_word (m := ⟨8, 4⟩) (meth := k8m4) (c := k8c4) (by decide +kernel) rfl rfl rfl (by decide +kernel)
set_option maxRecDepth 65536 in
theorem w_c8 : (Jvm.Cond.code ({ cls := "java/lang/String", name := "<init>", desc := "([BB)V" } : Jvm.MethodName) jdk_42_method_151_code (3 : Nat) (Option.none : Option Jvm.ClassFile.FieldType)).before args0 about1 = true := code_word (m := ⟨7, 9⟩) (meth := k7m9) (c := k7c9) (by decide +kernel) rfl rfl rfl (by decide +kernel)
set_option maxRecDepth 65536 in
theorem w_c9 : (Jvm.Cond.code ({ cls := "java/lang/Object", name := "<init>", desc := "()V" } : Jvm.MethodName) object_method_1_code (1 : Nat) (Option.none : Option Jvm.ClassFile.FieldType)).before args0 about1 = true := code_word (m := ⟨0, 0⟩) (meth := k0m0) (c := k0c0) (by decide +kernel) rfl rfl rfl (by decide +kernel)
set_option maxRecDepth 65536 in
theorem w_c10 : (Jvm.Cond.code ({ cls := "com/example/lucioles/lucioles/model/Rdn", name := "<init>", desc := "(Ljava/lang/String;Ljava/lang/String;)V" } : Jvm.MethodName) prog_9_method_1_code (3 : Nat) (Option.none : Option Jvm.ClassFile.FieldType)).before args0 about1 = true := code_word (m := ⟨9, 0⟩) (meth := k9m0) (c := k9c0) (by decide +kernel) rfl rfl rfl (by decide +kernel)
set_option maxRecDepth 65536 in
theorem w_c11 : (Jvm.Cond.code ({ cls := "com/example/lucioles/lucioles/model/Rdn", name := "checkClassName", desc := "(Ljava/lang/String;)V" } : Jvm.MethodName) prog_9_method_8_code (3 : Nat) (Option.none : Option Jvm.ClassFile.FieldType)).before args0 about1 = true := code_word (m := ⟨9, 2⟩) (meth := k9m2) (c := k9c2) (by decide +kernel) rfl rfl rfl (by decide +kernel)
set_option maxRecDepth 65536 in
theorem w_c12 : (Jvm.Cond.code ({ cls := "java/util/Objects", name := "requireNonNull", desc := "(Ljava/lang/Object;Ljava/lang/String;)Ljava/lang/Object;" } : Jvm.MethodName) jdk_31_method_11_code (2 : Nat) (Option.some (Jvm.ClassFile.FieldType.object "java/lang/Object"))).before args0 about1 = true := code_word (m := ⟨10, 1⟩) (meth := k10m1) (c := k10c1) (by decide +kernel) rfl rfl rfl (by decide +kernel)
set_option maxRecDepth 65536 in
theorem w_c13 : (Jvm.Cond.code ({ cls := "java/lang/String", name := "isEmpty", desc := "()Z" } : Jvm.MethodName) jdk_42_method_55_code (1 : Nat) (Option.some Jvm.ClassFile.FieldType.boolean)).before args0 about1 = true := code_word (m := ⟨7, 3⟩) (meth := k7m3) (c := k7c3) (by decide +kernel) rfl rfl rfl (by decide +kernel)
set_option maxRecDepth 65536 in
theorem w_c14 : (Jvm.Cond.code ({ cls := "java/lang/String", name := "charAt", desc := "(I)C" } : Jvm.MethodName) jdk_42_method_56_code (2 : Nat) (Option.some Jvm.ClassFile.FieldType.char)).before args0 about1 = true := code_word (m := ⟨7, 4⟩) (meth := k7m4) (c := k7c4) (by decide +kernel) rfl rfl rfl (by decide +kernel)
set_option maxRecDepth 65536 in
theorem w_c15 : (Jvm.Cond.code ({ cls := "java/lang/String", name := "isLatin1", desc := "()Z" } : Jvm.MethodName) jdk_42_method_154_code (1 : Nat) (Option.some Jvm.ClassFile.FieldType.boolean)).before args0 about1 = true := code_word (m := ⟨7, 11⟩) (meth := k7m11) (c := k7c11) (by decide +kernel) rfl rfl rfl (by decide +kernel)
set_option maxRecDepth 65536 in
theorem w_c16 : (Jvm.Cond.code ({ cls := "java/lang/StringLatin1", name := "charAt", desc := "([BI)C" } : Jvm.MethodName) jdk_43_method_2_code (2 : Nat) (Option.some Jvm.ClassFile.FieldType.char)).before args0 about1 = true := code_word (m := ⟨8, 1⟩) (meth := k8m1) (c := k8c1) (by decide +kernel) rfl rfl rfl (by decide +kernel)
set_option maxRecDepth 65536 in
theorem w_c17 : (Jvm.Cond.code ({ cls := "java/lang/String", name := "checkIndex", desc := "(II)V" } : Jvm.MethodName) jdk_42_method_155_code (2 : Nat) (Option.none : Option Jvm.ClassFile.FieldType)).before args0 about1 = true := code_word (m := ⟨7, 12⟩) (meth := k7m12) (c := k7c12) (by decide +kernel) rfl rfl rfl (by decide +kernel)
set_option maxRecDepth 65536 in
theorem w_c18 : (Jvm.Cond.code ({ cls := "jdk/internal/util/Preconditions", name := "checkIndex", desc := "(IILjava/util/function/BiFunction;)I" } : Jvm.MethodName) jdk_41_method_11_code (3 : Nat) (Option.some Jvm.ClassFile.FieldType.int)).before args0 about1 = true := code_word (m := ⟨11, 1⟩) (meth := k11m1) (c := k11c1) (by decide +kernel) rfl rfl rfl (by decide +kernel)
set_option maxRecDepth 65536 in
theorem w_c19 : (Jvm.Cond.code ({ cls := "com/example/lucioles/lucioles/model/Rdn", name := "isAsciiLetter", desc := "(C)Z" } : Jvm.MethodName) prog_9_method_13_code (1 : Nat) (Option.some Jvm.ClassFile.FieldType.boolean)).before args0 about1 = true := code_word (m := ⟨9, 5⟩) (meth := k9m5) (c := k9c5) (by decide +kernel) rfl rfl rfl (by decide +kernel)
set_option maxRecDepth 65536 in
theorem w_c20 : (Jvm.Cond.code ({ cls := "java/lang/String", name := "length", desc := "()I" } : Jvm.MethodName) jdk_42_method_54_code (1 : Nat) (Option.some Jvm.ClassFile.FieldType.int)).before args0 about1 = true := code_word (m := ⟨7, 2⟩) (meth := k7m2) (c := k7c2) (by decide +kernel) rfl rfl rfl (by decide +kernel)
set_option maxRecDepth 65536 in
theorem w_c21 : (Jvm.Cond.code ({ cls := "java/lang/String", name := "coder", desc := "()B" } : Jvm.MethodName) jdk_42_method_152_code (1 : Nat) (Option.some Jvm.ClassFile.FieldType.byte)).before args0 about1 = true := code_word (m := ⟨7, 10⟩) (meth := k7m10) (c := k7c10) (by decide +kernel) rfl rfl rfl (by decide +kernel)
set_option maxRecDepth 65536 in
theorem w_c22 : (Jvm.Cond.code ({ cls := "com/example/lucioles/lucioles/model/Rdn", name := "checkId", desc := "(Ljava/lang/String;)V" } : Jvm.MethodName) prog_9_method_9_code (3 : Nat) (Option.none : Option Jvm.ClassFile.FieldType)).before args0 about1 = true := code_word (m := ⟨9, 3⟩) (meth := k9m3) (c := k9c3) (by decide +kernel) rfl rfl rfl (by decide +kernel)
set_option maxRecDepth 65536 in
theorem w_c23 : (Jvm.Cond.code ({ cls := "java/lang/String", name := "codePointAt", desc := "(I)I" } : Jvm.MethodName) jdk_42_method_57_code (3 : Nat) (Option.some Jvm.ClassFile.FieldType.int)).before args0 about1 = true := code_word (m := ⟨7, 5⟩) (meth := k7m5) (c := k7c5) (by decide +kernel) rfl rfl rfl (by decide +kernel)
set_option maxRecDepth 65536 in
theorem w_c24 : (Jvm.Cond.code ({ cls := "com/example/lucioles/lucioles/model/Rdn", name := "isAsciiControl", desc := "(I)Z" } : Jvm.MethodName) prog_9_method_12_code (1 : Nat) (Option.some Jvm.ClassFile.FieldType.boolean)).before args0 about1 = true := code_word (m := ⟨9, 4⟩) (meth := k9m4) (c := k9c4) (by decide +kernel) rfl rfl rfl (by decide +kernel)
set_option maxRecDepth 65536 in
theorem w_c25 : (Jvm.Cond.code ({ cls := "java/lang/Character", name := "charCount", desc := "(I)I" } : Jvm.MethodName) jdk_89_method_18_code (1 : Nat) (Option.some Jvm.ClassFile.FieldType.int)).before args0 about1 = true := code_word (m := ⟨12, 0⟩) (meth := k12m0) (c := k12c0) (by decide +kernel) rfl rfl rfl (by decide +kernel)
set_option maxRecDepth 65536 in
theorem w_c26 : (Jvm.Cond.code ({ cls := "com/example/lucioles/lucioles/model/Rdn", name := "equals", desc := "(Ljava/lang/Object;)Z" } : Jvm.MethodName) prog_9_method_5_code (3 : Nat) (Option.some Jvm.ClassFile.FieldType.boolean)).before args0 about1 = true := code_word (m := ⟨9, 1⟩) (meth := k9m1) (c := k9c1) (by decide +kernel) rfl rfl rfl (by decide +kernel)
set_option maxRecDepth 65536 in
theorem w_c27 : (Jvm.Cond.code ({ cls := "java/lang/String", name := "equals", desc := "(Ljava/lang/Object;)Z" } : Jvm.MethodName) jdk_42_method_66_code (3 : Nat) (Option.some Jvm.ClassFile.FieldType.boolean)).before args0 about1 = true := code_word (m := ⟨7, 6⟩) (meth := k7m6) (c := k7c6) (by decide +kernel) rfl rfl rfl (by decide +kernel)
set_option maxRecDepth 65536 in
theorem w_c28 : (Jvm.Cond.code ({ cls := "java/lang/StringLatin1", name := "equals", desc := "([B[B)Z" } : Jvm.MethodName) jdk_43_method_13_code (3 : Nat) (Option.some Jvm.ClassFile.FieldType.boolean)).before args0 about1 = true := code_word (m := ⟨8, 3⟩) (meth := k8m3) (c := k8c3) (by decide +kernel) rfl rfl rfl (by decide +kernel)
set_option maxRecDepth 65536 in
theorem w_c29 : (Jvm.Cond.code ({ cls := "java/lang/String", name := "<init>", desc := "([C)V" } : Jvm.MethodName) jdk_42_method_3_code (2 : Nat) (Option.none : Option Jvm.ClassFile.FieldType)).before args0 about1 = true := code_word (m := ⟨7, 1⟩) (meth := k7m1) (c := k7c1) (by decide +kernel) rfl rfl rfl (by decide +kernel)
set_option maxRecDepth 65536 in
theorem w_c30 : (Jvm.Cond.code ({ cls := "java/lang/String", name := "<init>", desc := "([CIILjava/lang/Void;)V" } : Jvm.MethodName) jdk_42_method_149_code (6 : Nat) (Option.none : Option Jvm.ClassFile.FieldType)).before args0 about1 = true := code_word (m := ⟨7, 8⟩) (meth := k7m8) (c := k7c8) (by decide +kernel) rfl rfl rfl (by decide +kernel)
set_option maxRecDepth 65536 in
theorem w_c31 : (Jvm.Cond.code ({ cls := "java/lang/StringUTF16", name := "compress", desc := "([CII)[B" } : Jvm.MethodName) jdk_52_method_16_code (6 : Nat) (Option.some (Jvm.ClassFile.FieldType.array Jvm.ClassFile.FieldType.byte))).before args0 about1 = true := code_word (m := ⟨13, 2⟩) (meth := k13m2) (c := k13c2) (by decide +kernel) rfl rfl rfl (by decide +kernel)
set_option maxRecDepth 65536 in
theorem w_c32 : (Jvm.Cond.code ({ cls := "java/lang/StringUTF16", name := "compress", desc := "([CI[BII)I" } : Jvm.MethodName) jdk_52_method_21_code (7 : Nat) (Option.some Jvm.ClassFile.FieldType.int)).before args0 about1 = true := code_word (m := ⟨13, 3⟩) (meth := k13m3) (c := k13c3) (by decide +kernel) rfl rfl rfl (by decide +kernel)
set_option maxRecDepth 65536 in
theorem w_c33 : (Jvm.Cond.code ({ cls := "java/lang/StringUTF16", name := "coderFromArrayLen", desc := "([BI)B" } : Jvm.MethodName) jdk_52_method_15_code (2 : Nat) (Option.some Jvm.ClassFile.FieldType.byte)).before args0 about1 = true := code_word (m := ⟨13, 1⟩) (meth := k13m1) (c := k13c1) (by decide +kernel) rfl rfl rfl (by decide +kernel)
def codes1 : List Jvm.Cond := [Jvm.Cond.code x code maxLocals ret, Jvm.Cond.code ({ cls := "com/example/lucioles/lucioles/model/RdnEqualsPinLaw", name := "letter", desc := "(I)C" } : Jvm.MethodName) method_2_code (2 : Nat) (Option.some Jvm.ClassFile.FieldType.char), Jvm.Cond.code ({ cls := "com/example/lucioles/lucioles/model/RdnEqualsPinLaw", name := "nameChar", desc := "(I)C" } : Jvm.MethodName) method_3_code (2 : Nat) (Option.some Jvm.ClassFile.FieldType.char), Jvm.Cond.code ({ cls := "com/example/lucioles/lucioles/model/RdnEqualsPinLaw", name := "idChar", desc := "(I)C" } : Jvm.MethodName) method_4_code (2 : Nat) (Option.some Jvm.ClassFile.FieldType.char), Jvm.Cond.code ({ cls := "com/example/lucioles/lucioles/model/RdnEqualsPinLaw", name := "make", desc := "(ICC)Ljava/lang/String;" } : Jvm.MethodName) method_5_code (3 : Nat) (Option.some (Jvm.ClassFile.FieldType.object "java/lang/String")), Jvm.Cond.code ({ cls := "java/lang/String", name := "valueOf", desc := "(C)Ljava/lang/String;" } : Jvm.MethodName) jdk_42_method_139_code (1 : Nat) (Option.some (Jvm.ClassFile.FieldType.object "java/lang/String")), Jvm.Cond.code ({ cls := "java/lang/StringLatin1", name := "canEncode", desc := "(C)Z" } : Jvm.MethodName) jdk_43_method_3_code (1 : Nat) (Option.some Jvm.ClassFile.FieldType.boolean), Jvm.Cond.code ({ cls := "java/lang/StringLatin1", name := "toBytes", desc := "(C)[B" } : Jvm.MethodName) jdk_43_method_46_code (1 : Nat) (Option.some (Jvm.ClassFile.FieldType.array Jvm.ClassFile.FieldType.byte)), Jvm.Cond.code ({ cls := "java/lang/String", name := "<init>", desc := "([BB)V" } : Jvm.MethodName) jdk_42_method_151_code (3 : Nat) (Option.none : Option Jvm.ClassFile.FieldType), Jvm.Cond.code ({ cls := "java/lang/Object", name := "<init>", desc := "()V" } : Jvm.MethodName) object_method_1_code (1 : Nat) (Option.none : Option Jvm.ClassFile.FieldType), Jvm.Cond.code ({ cls := "com/example/lucioles/lucioles/model/Rdn", name := "<init>", desc := "(Ljava/lang/String;Ljava/lang/String;)V" } : Jvm.MethodName) prog_9_method_1_code (3 : Nat) (Option.none : Option Jvm.ClassFile.FieldType), Jvm.Cond.code ({ cls := "com/example/lucioles/lucioles/model/Rdn", name := "checkClassName", desc := "(Ljava/lang/String;)V" } : Jvm.MethodName) prog_9_method_8_code (3 : Nat) (Option.none : Option Jvm.ClassFile.FieldType), Jvm.Cond.code ({ cls := "java/util/Objects", name := "requireNonNull", desc := "(Ljava/lang/Object;Ljava/lang/String;)Ljava/lang/Object;" } : Jvm.MethodName) jdk_31_method_11_code (2 : Nat) (Option.some (Jvm.ClassFile.FieldType.object "java/lang/Object")), Jvm.Cond.code ({ cls := "java/lang/String", name := "isEmpty", desc := "()Z" } : Jvm.MethodName) jdk_42_method_55_code (1 : Nat) (Option.some Jvm.ClassFile.FieldType.boolean), Jvm.Cond.code ({ cls := "java/lang/String", name := "charAt", desc := "(I)C" } : Jvm.MethodName) jdk_42_method_56_code (2 : Nat) (Option.some Jvm.ClassFile.FieldType.char), Jvm.Cond.code ({ cls := "java/lang/String", name := "isLatin1", desc := "()Z" } : Jvm.MethodName) jdk_42_method_154_code (1 : Nat) (Option.some Jvm.ClassFile.FieldType.boolean), Jvm.Cond.code ({ cls := "java/lang/StringLatin1", name := "charAt", desc := "([BI)C" } : Jvm.MethodName) jdk_43_method_2_code (2 : Nat) (Option.some Jvm.ClassFile.FieldType.char), Jvm.Cond.code ({ cls := "java/lang/String", name := "checkIndex", desc := "(II)V" } : Jvm.MethodName) jdk_42_method_155_code (2 : Nat) (Option.none : Option Jvm.ClassFile.FieldType), Jvm.Cond.code ({ cls := "jdk/internal/util/Preconditions", name := "checkIndex", desc := "(IILjava/util/function/BiFunction;)I" } : Jvm.MethodName) jdk_41_method_11_code (3 : Nat) (Option.some Jvm.ClassFile.FieldType.int), Jvm.Cond.code ({ cls := "com/example/lucioles/lucioles/model/Rdn", name := "isAsciiLetter", desc := "(C)Z" } : Jvm.MethodName) prog_9_method_13_code (1 : Nat) (Option.some Jvm.ClassFile.FieldType.boolean), Jvm.Cond.code ({ cls := "java/lang/String", name := "length", desc := "()I" } : Jvm.MethodName) jdk_42_method_54_code (1 : Nat) (Option.some Jvm.ClassFile.FieldType.int), Jvm.Cond.code ({ cls := "java/lang/String", name := "coder", desc := "()B" } : Jvm.MethodName) jdk_42_method_152_code (1 : Nat) (Option.some Jvm.ClassFile.FieldType.byte), Jvm.Cond.code ({ cls := "com/example/lucioles/lucioles/model/Rdn", name := "checkId", desc := "(Ljava/lang/String;)V" } : Jvm.MethodName) prog_9_method_9_code (3 : Nat) (Option.none : Option Jvm.ClassFile.FieldType), Jvm.Cond.code ({ cls := "java/lang/String", name := "codePointAt", desc := "(I)I" } : Jvm.MethodName) jdk_42_method_57_code (3 : Nat) (Option.some Jvm.ClassFile.FieldType.int), Jvm.Cond.code ({ cls := "com/example/lucioles/lucioles/model/Rdn", name := "isAsciiControl", desc := "(I)Z" } : Jvm.MethodName) prog_9_method_12_code (1 : Nat) (Option.some Jvm.ClassFile.FieldType.boolean), Jvm.Cond.code ({ cls := "java/lang/Character", name := "charCount", desc := "(I)I" } : Jvm.MethodName) jdk_89_method_18_code (1 : Nat) (Option.some Jvm.ClassFile.FieldType.int), Jvm.Cond.code ({ cls := "com/example/lucioles/lucioles/model/Rdn", name := "equals", desc := "(Ljava/lang/Object;)Z" } : Jvm.MethodName) prog_9_method_5_code (3 : Nat) (Option.some Jvm.ClassFile.FieldType.boolean), Jvm.Cond.code ({ cls := "java/lang/String", name := "equals", desc := "(Ljava/lang/Object;)Z" } : Jvm.MethodName) jdk_42_method_66_code (3 : Nat) (Option.some Jvm.ClassFile.FieldType.boolean), Jvm.Cond.code ({ cls := "java/lang/StringLatin1", name := "equals", desc := "([B[B)Z" } : Jvm.MethodName) jdk_43_method_13_code (3 : Nat) (Option.some Jvm.ClassFile.FieldType.boolean), Jvm.Cond.code ({ cls := "java/lang/String", name := "<init>", desc := "([C)V" } : Jvm.MethodName) jdk_42_method_3_code (2 : Nat) (Option.none : Option Jvm.ClassFile.FieldType), Jvm.Cond.code ({ cls := "java/lang/String", name := "<init>", desc := "([CIILjava/lang/Void;)V" } : Jvm.MethodName) jdk_42_method_149_code (6 : Nat) (Option.none : Option Jvm.ClassFile.FieldType), Jvm.Cond.code ({ cls := "java/lang/StringUTF16", name := "compress", desc := "([CII)[B" } : Jvm.MethodName) jdk_52_method_16_code (6 : Nat) (Option.some (Jvm.ClassFile.FieldType.array Jvm.ClassFile.FieldType.byte)), Jvm.Cond.code ({ cls := "java/lang/StringUTF16", name := "compress", desc := "([CI[BII)I" } : Jvm.MethodName) jdk_52_method_21_code (7 : Nat) (Option.some Jvm.ClassFile.FieldType.int), Jvm.Cond.code ({ cls := "java/lang/StringUTF16", name := "coderFromArrayLen", desc := "([BI)B" } : Jvm.MethodName) jdk_52_method_15_code (2 : Nat) (Option.some Jvm.ClassFile.FieldType.byte)]
set_option maxRecDepth 65536 in
theorem codes_eq : words1.filter isCode = codes1 := rfl
theorem w_codes : ∀ c ∈ words1.filter isCode, c.before args0 about1 = true := by
  rw [codes_eq]
  intro c hc
  simp only [codes1, List.mem_cons, List.not_mem_nil, or_false] at hc
  rcases hc with rfl | rfl | rfl | rfl | rfl | rfl | rfl | rfl | rfl | rfl | rfl | rfl | rfl | rfl | rfl | rfl | rfl | rfl | rfl | rfl | rfl | rfl | rfl | rfl | rfl | rfl | rfl | rfl | rfl | rfl | rfl | rfl | rfl | rfl
  · exact w_c0
  · exact w_c1
  · exact w_c2
  · exact w_c3
  · exact w_c4
  · exact w_c5
  · exact w_c6
  · exact w_c7
  · exact w_c8
  · exact w_c9
  · exact w_c10
  · exact w_c11
  · exact w_c12
  · exact w_c13
  · exact w_c14
  · exact w_c15
  · exact w_c16
  · exact w_c17
  · exact w_c18
  · exact w_c19
  · exact w_c20
  · exact w_c21
  · exact w_c22
  · exact w_c23
  · exact w_c24
  · exact w_c25
  · exact w_c26
  · exact w_c27
  · exact w_c28
  · exact w_c29
  · exact w_c30
  · exact w_c31
  · exact w_c32
  · exact w_c33
set_option maxRecDepth 65536 in
theorem w_t1 : (words1.take 24).all (fun c => isCode c || c.before args0 about1) = true := by decide +kernel
set_option maxRecDepth 65536 in
theorem w_t2 : ((words1.drop 24).take 24).all (fun c => isCode c || c.before args0 about1) = true := by decide +kernel
set_option maxRecDepth 65536 in
theorem w_t3 : (((words1.drop 24).drop 24).take 24).all (fun c => isCode c || c.before args0 about1) = true := by decide +kernel
set_option maxRecDepth 65536 in
theorem w_t4 : ((((words1.drop 24).drop 24).drop 24).take 24).all (fun c => isCode c || c.before args0 about1) = true := by decide +kernel
set_option maxRecDepth 65536 in
theorem w_t5 : (((((words1.drop 24).drop 24).drop 24).drop 24).take 24).all (fun c => isCode c || c.before args0 about1) = true := by decide +kernel
set_option maxRecDepth 65536 in
theorem w_t6 : ((((((words1.drop 24).drop 24).drop 24).drop 24).drop 24).take 24).all (fun c => isCode c || c.before args0 about1) = true := by decide +kernel
set_option maxRecDepth 65536 in
theorem w_t7 : ((((((words1.drop 24).drop 24).drop 24).drop 24).drop 24).drop 24).all (fun c => isCode c || c.before args0 about1) = true := by decide +kernel
theorem w_tables : (allAtoms (Jvm.Cond.code x code maxLocals ret :: tables_1)).before args0 about1 = true := by
  rw [allAtoms_all]
  show words1.all (fun c => c.before args0 about1) = true
  refine all_split ?_ w_codes
  rw [← List.take_append_drop 24 words1, List.all_append, w_t1, ← List.take_append_drop 24 (words1.drop 24), List.all_append, w_t2, ← List.take_append_drop 24 ((words1.drop 24).drop 24), List.all_append, w_t3, ← List.take_append_drop 24 (((words1.drop 24).drop 24).drop 24), List.all_append, w_t4, ← List.take_append_drop 24 ((((words1.drop 24).drop 24).drop 24).drop 24), List.all_append, w_t5, ← List.take_append_drop 24 (((((words1.drop 24).drop 24).drop 24).drop 24).drop 24), List.all_append, w_t6, w_t7]
  rfl
set_option maxRecDepth 65536 in
theorem w_rest : rest_1_c.before args0 about1 = true := by decide +kernel
set_option maxRecDepth 65536 in
theorem w_case : (Jvm.Cond.and given_1 narrow_1).before args0 about1 = true := by decide +kernel
theorem w_applies : (headSpec (Jvm.Cond.code x code maxLocals ret :: tables_1) room_1).applies x e0.platform about1 = true :=
  (Spec.applies_iff w_frames).mpr ⟨w_running, w_runnable, w_alone, w_named, w_hears, w_ripe, w_room, w_tables⟩
theorem atStart : AtStart classFile x code maxLocals ret World_1 tables_1 room_1 Calls_1 rest_1 Pre_1 launch0 p0 e0 about1 theMethod args0 below0 :=
  ⟨lists_1, trivial, launch0.admits_env _ _ _, launch0.least_env, fairChoices_fair.cas, fairChoices_fair.clock, w_frames, w_args, w_heap, w_applies, trivial, w_rest, w_case⟩
end start1
theorem witness_1 : WitnessClaimed_1 := ⟨start1.p0, start1.e0, start1.about1, start1.theMethod, start1.args0, start1.below0, start1.atStart⟩
end Jvm.Pilot.@@N@@
