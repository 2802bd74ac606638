import JvmDerived
import JvmDerived.Pilot.@@N@@Statement
import JvmDerived.Pilot.@@N@@Code
set_option linter.unusedVariables false
set_option linter.unusedSimpArgs false


namespace Jvm.OwnW
open Sem ClassFile Op Lib Jvm.Free Jvm.LawKit Jvm.RoadKit
abbrev Cx : Type := Program × Env × State × MethodId × Array Value × List Frame × Method × Code
abbrev Cx.p (x : Cx) : Program := x.1
abbrev Cx.e (x : Cx) : Env := x.2.1
abbrev Cx.s (x : Cx) : State := x.2.2.1
abbrev Cx.m (x : Cx) : MethodId := x.2.2.2.1
abbrev Cx.args (x : Cx) : Array Value := x.2.2.2.2.1
abbrev Cx.below (x : Cx) : List Frame := x.2.2.2.2.2.1
abbrev Cx.meth (x : Cx) : Method := x.2.2.2.2.2.2.1
abbrev Cx.c (x : Cx) : Code := x.2.2.2.2.2.2.2
/-- how a contract ends: narrow or wide -/
def FinE (wd : Bool) (Z : State) (EL : List (String × Nat)) (s : State) (o : Outcome) (t : State) (L : List Loc) (k n : Nat) : Prop :=
  match wd with
  | false => FrameEnd s o t L k n
  | true => CHr Z EL s.vm s.heap t.vm t.heap ∧ ReturnedEndW s o t L k n
def Ct (wd : Bool) (l : Launch) (Z : State) (EL : List (String × Nat)) (y : MethodName) (bytes : ByteArray) (maxL : Nat) (ret : Option FieldType) (ws : List Jvm.Cond) (R : Room) (sf : List Addr) (as' : Array Value) (h : Heap) (Q : Option Value → Heap → Prop) : Prop :=
  MetFree l y (head1 (Jvm.Cond.code y bytes maxL ret :: ws) R) (fun a U => a = as' ∧ Z.Warmed39 U.vm ∧ U.heap = h ∧ (wd = true → CHv Z EL U.vm h ∧ ∀ y ∈ sf, Safe Z EL U.vm h y)) (fun _ _ _ _ _ => True)
    (fun _ U o U' => ∃ v L, o = .returned v ∧ (Q v U'.heap ∧ Fr Z.heap.size L ∧ Ext Z.heap U'.heap ∧ h.size ≤ U'.heap.size) ∧ FinE wd Z EL U o U' L R.cells R.slots)
def Go (x : Cx) (wd : Bool) (Z : State) (EL : List (String × Nat)) (R : Room) (Q : Option Value → Heap → Prop) (T : State) (pc : Nat) (ls : Array Slot) (st : List Value) : Prop :=
  ∃ s₂ o, Steps x.p.tables x.e x.below (T.setTop (mkF x.m pc ls st)) s₂ ∧ s₂.status = .running ∧ Ended s₂ x.below o ∧ ∃ v L, o = .returned v ∧ (Q v s₂.heap ∧ Fr Z.heap.size L ∧ Ext Z.heap s₂.heap ∧ x.s.heap.size ≤ s₂.heap.size) ∧ FinE wd Z EL x.s o s₂ L R.cells R.slots
def W (x : Cx) (wd : Bool) (l : Launch) (Z : State) (EL : List (String × Nat)) (R : Room) (own : String) (code : ByteArray) (mx : Nat) (ret : Option FieldType) (nm : String) (T : State) (h : Heap) (k n : Nat) (sf : List Addr) : Prop :=
  x.p.tables.exec = Jvm.exec ∧ x.c.code = code ∧ x.c.maxLocals = mx ∧ x.meth.sig.returnType = ret ∧ x.meth.name = nm ∧ x.meth.locks = false ∧ T.heap = h ∧ Ext Z.heap h ∧ k ≤ R.cells ∧ n ≤ R.slots ∧ (∀ y ∈ sf, Z.heap.size ≤ y ∧ y < h.size) ∧ (∃ a0, EW Z a0 EL) ∧
    ∃ (L : List Loc) (vm0 : Vm), Fr Z.heap.size L ∧ (wd = false → vm0 = x.s.vm) ∧ Stand x.p l x.e R (x.s.setVm vm0) x.m x.args x.below x.meth x.c T L k n ∧ x.s.Since vm0 h.size ∧ Z.Warmed39 vm0 ∧ vm0.findClass own = some x.m.cls ∧ (wd = true → CHr Z EL x.s.vm x.s.heap vm0 h ∧ ∀ y ∈ sf, Safe Z EL vm0 h y)
/-- an instruction, its length, the next pc -/
def Dc (code : ByteArray) (pc : Nat) (i : Instr) (len pc' : Nat) : Prop := decode code pc = .ok (i, len) ∧ pc + len = pc'
/-- where a branch goes -/
def Tg (pc : Nat) (o : Int) (pc' : Nat) : Prop := 0 ≤ (pc : Int) + o ∧ ((pc : Int) + o).toNat = pc'
theorem since_mono {s : State} {vm : Vm} {n n' : Nat} (h : s.Since vm n) (q : n ≤ n') : s.Since vm n' := ⟨h.1, h.2.mono q⟩
theorem setVm_self (s : State) : s.setVm s.vm = s := rfl
theorem ext_refl (h : Heap) : Ext h h := ⟨Nat.le_refl _, fun _ _ q => q⟩
theorem ext_trans {a b c : Heap} (h1 : Ext a b) (h2 : Ext b c) : Ext a c := ⟨Nat.le_trans h1.1 h2.1, fun x q r => h2.2 x q (h1.2 x q r)⟩
theorem ext_wr {Z : State} {h h' : Heap} {a : Addr} {sl : Nat} {v : Value} (E : Ext Z.heap h) (w : Wr h h' a sl v) (q : Z.heap.size ≤ a) : Ext Z.heap h' := (Old.wr ⟨rfl, E⟩ w q).2
theorem keep_ext {h h' : Heap} {ws : List Addr} (E : Ext h h') : Keep h h' ws := (Keep.refl h ws).ext E
theorem ext_keep {h h' : Heap} (K : Keep h h' []) : Ext h h' := ⟨K.1, fun x c q => K.2.1 x c q nin0⟩
theorem keep_to {h0 h h' : Heap} {ws : List Addr} (E : Ext h0 h) (K : Keep h h' ws) (q : ∀ x ∈ ws, h0.size ≤ x) : Ext h0 h' :=
  ⟨Nat.le_trans E.1 K.1, fun x c r => K.2.1 x c (E.2 x c r) fun z => absurd (Array.getElem?_eq_some_iff.mp r).1 (Nat.not_lt.mpr (q x z))⟩
theorem Ct.mono {wd : Bool} {l : Launch} {Z : State} {EL : List (String × Nat)} {y : MethodName} {bytes : ByteArray} {maxL : Nat} {ret : Option FieldType} {ws : List Jvm.Cond} {R : Room} {sf : List Addr} {as' : Array Value} {h : Heap} {Q Q' : Option Value → Heap → Prop} (C : Ct wd l Z EL y bytes maxL ret ws R sf as' h Q) (q : ∀ v u, Q v u → Q' v u) : Ct wd l Z EL y bytes maxL ret ws R sf as' h Q' := by
  intro p e h1 h2 h3 s m args below h4 h5 h6 h7
  obtain ⟨n, o, a1, a2, a3, v, L, a4, a5, a6⟩ := C p e h1 h2 h3 s m args below h4 h5 h6 h7
  exact ⟨n, o, a1, a2, a3, v, L, a4, ⟨q _ _ a5.1, a5.2⟩, a6⟩
theorem Ct.intro {wd : Bool} {l : Launch} {Z : State} {EL : List (String × Nat)} {y : MethodName} {bytes : ByteArray} {maxL : Nat} {ret : Option FieldType} {ws : List Jvm.Cond} {R : Room} {sf : List Addr} {as' : Array Value} {h : Heap} {Q : Option Value → Heap → Prop} {ls : Array Slot}
    (hpl : plainName y.cls = true) (hE : Ext Z.heap h) (ef : ∀ m, entryFrame m as' maxL = mkF m 0 ls []) (hsf : ∀ y ∈ sf, Z.heap.size ≤ y ∧ y < h.size) (hEL : ∃ a0, EW Z a0 EL)
    (body : ∀ (x : Cx) (T : State), W x wd l Z EL R y.cls bytes maxL ret y.name T h 0 0 sf → Go x wd Z EL R Q T 0 ls []) : Ct wd l Z EL y bytes maxL ret ws R sf as' h Q := by
  refine MetFree.of_bodySF (plainFor_of_name hpl) hisR ?_
  intro p e s m args below meth c s₁ Bd hml0 hP hK
  obtain ⟨rfl, hZ, hh, hC⟩ := hP
  have hown : s.vm.findClass y.cls = some m.cls := findClass_of_methodNamed Bd.named
  have hnm := (name_of_methodNamed Bd.named Bd.method).1
  have e0 : s₁.heap = h := by rw [← hh, Bd.state]; rfl
  obtain ⟨s₂, o, a1, a2, a3, v, L, a4, a5, a6⟩ := body (p, e, s, m, args, below, meth, c) s₁ ⟨Bd.exec, Bd.bytes, hml0, Bd.returns, hnm, Bd.notSynchronized, e0, hE, Nat.zero_le _, Nat.zero_le _, hsf, hEL, [], s.vm, Fr.nil _, fun _ => rfl, Stand.of_body Bd, (State.WarmedH.refl s).since _, hZ, hown, fun q => ⟨by show CHr Z EL s.vm s.heap s.vm h; rw [hh]; exact CHr.refl (hC q).1, (hC q).2⟩⟩
  exact ⟨s₂, o, castTop (ef m) a1, a2, a3, v, L, a4, ⟨a5.1, a5.2.1, a5.2.2.1, by rw [← hh]; exact a5.2.2.2⟩, a6⟩
theorem nosf {Z : State} {h : Heap} : ∀ y ∈ ([] : List Addr), Z.heap.size ≤ y ∧ y < h.size := fun _ q => nomatch q
theorem onesf {Z : State} {h : Heap} {a : Addr} (g : Z.heap.size ≤ a) (q : a < h.size) : ∀ y ∈ [a], Z.heap.size ≤ y ∧ y < h.size := fun y z => by cases List.mem_singleton.mp z; exact ⟨g, q⟩
theorem noEL {Z : State} {a0 : Array Value} : ∃ a0, EW Z a0 [] := ⟨a0, EW.nil⟩
/-- a wide callee's contract, as the library's calls want it -/
theorem backW {p : Program} {l : Launch} {e : Env} {R : Room} {s : State} {args : Array Value} {below : List Frame} {Z : State} {a0 : Array Value} {EL : List (String × Nat)} {h : Heap} {vm0 : Vm} {y : MethodName} {bytes : ByteArray} {maxL : Nat} {ret : Option FieldType} {rm : Room} {len Wn : Nat} {as' : Array Value} {sf : List Addr} {Q : Option Value → Heap → Prop}
    (hM : Ct true l Z EL y bytes maxL ret [] rm sf as' h Q) (hZ : Z.Warmed39 vm0) (wc : (Jvm.Cond.code y bytes maxL ret).before a0 Z = true) (wz : (Jvm.Cond.initialized y.cls).before a0 Z = true) (hf : rm.frames + 1 ≤ R.frames) (hl : Wn + (maxL + 11) + rm.locals ≤ R.locals) (hEL : ∃ a0, EW Z a0 EL) (H : CHv Z EL vm0 h) (hsf : ∀ y ∈ sf, y < h.size ∧ Safe Z EL vm0 h y) :
    BackS l R p e below (s.setVm vm0) args y len Wn (fun A a => a = as' ∧ A.U.heap = h ∧ A.cells + rm.cells ≤ R.cells ∧ A.slots + rm.slots ≤ R.slots)
      (fun A _ v B => ∃ L, (Q v B.U.heap ∧ Fr Z.heap.size L ∧ Ext Z.heap B.U.heap ∧ h.size ≤ B.U.heap.size) ∧ B.locs = A.locs ++ L ∧ B.cells = A.cells + rm.cells ∧ B.slots = A.slots + rm.slots ∧ CHr Z EL vm0 h B.U.vm B.U.heap) := by
  obtain ⟨a1, hEL⟩ := hEL
  exact BackS.of_freeW (bytes := bytes) (maxL := maxL) (ret := ret) (E := fun _ first o t L k n => k = rm.cells ∧ n = rm.slots ∧ (∃ v, o = .returned v ∧ (Q v t.heap ∧ Fr Z.heap.size L ∧ Ext Z.heap t.heap ∧ h.size ≤ t.heap.size)) ∧ CHr Z EL first.vm first.heap t.vm t.heap) hM hf hl
    (fun m meth c A a Y hp => have hU : Z.Warmed39 A.U.vm := wtrans (s := s.setVm vm0) hZ Y.warmed
      ⟨by show (Jvm.Cond.and _ .tt).before a A.U = true; rw [Cond.before_and, mv hU wc]; rfl, mv hU wc, mv hU wz, hp.2.2.1, hp.2.2.2⟩)
    (fun m meth c A a g mk Y hp => ⟨hp.1, wtrans (s := s.setVm vm0) hZ Y.warmed, hp.2.1, fun _ => ⟨(CHv.at Y hZ hEL H).1, fun y hy => (CHv.at Y hZ hEL H).safe (hsf y hy).1 (hsf y hy).2⟩⟩) (fun _ _ _ _ _ _ _ _ _ => trivial)
    (fun _ _ _ _ ⟨v, L, h1, h2, h3, h4⟩ => ⟨L, _, _, h4, rfl, rfl, ⟨v, h1, h2⟩, h3⟩)
    (fun m meth c A a g mk v t L k n Y hp _ _ ⟨e1, e2, ⟨v', e3, e4⟩, e5⟩ => by
      cases e3; subst e1 e2
      refine ⟨L, e4, rfl, rfl, rfl, (CHv.at Y hZ hEL H).trans ?_⟩
      rw [← hp.2.1]; exact e5)
/-- a narrow callee's -/
theorem backN {p : Program} {l : Launch} {e : Env} {R : Room} {s : State} {args : Array Value} {below : List Frame} {Z : State} {a0 : Array Value} {EL : List (String × Nat)} {h : Heap} {y : MethodName} {bytes : ByteArray} {maxL : Nat} {ret : Option FieldType} {rm : Room} {len Wn : Nat} {as' : Array Value} {sf : List Addr} {Q : Option Value → Heap → Prop}
    (hM : Ct false l Z EL y bytes maxL ret [] rm sf as' h Q) (hZ : Z.Warmed39 s.vm) (wc : (Jvm.Cond.code y bytes maxL ret).before a0 Z = true) (wz : (Jvm.Cond.initialized y.cls).before a0 Z = true) (hf : rm.frames + 1 ≤ R.frames) (hl : Wn + (maxL + 11) + rm.locals ≤ R.locals) :
    Back l R p e below s args y len Wn (fun A a => a = as' ∧ A.U.heap = h ∧ A.cells + rm.cells ≤ R.cells ∧ A.slots + rm.slots ≤ R.slots)
      (fun A _ v B => ∃ L, (Q v B.U.heap ∧ Fr Z.heap.size L ∧ Ext Z.heap B.U.heap ∧ h.size ≤ B.U.heap.size) ∧ B.locs = A.locs ++ L ∧ B.cells = A.cells + rm.cells ∧ B.slots = A.slots + rm.slots) :=
  backOf (Q := fun v u L => Q v u ∧ Fr Z.heap.size L ∧ Ext Z.heap u ∧ h.size ≤ u.size) (fun p e h1 h2 h3 s m args below h4 h5 h6 h7 => hM p e h1 h2 h3 s m args below h4 h5 ⟨h6.1, h6.2.1, h6.2.2, fun q => by cases q⟩ h7) hZ wc wz hf hl
section Laws
variable {x : Cx} {wd : Bool} {l : Launch} {Z : State} {EL : List (String × Nat)} {sf : List Addr} {R : Room} {own : String} {code : ByteArray} {mx : Nat} {ret : Option FieldType} {nm : String} {T : State} {h : Heap} {k n : Nat} {Q : Option Value → Heap → Prop} {pc pc' pcT : Nat} {ls : Array Slot} {st : List Value} {a0 : Array Value}
theorem W.old (w : W x wd l Z EL R own code mx ret nm T h k n sf) : Ext Z.heap h := w.2.2.2.2.2.2.2.1
theorem W.size (w : W x wd l Z EL R own code mx ret nm T h k n sf) : Z.heap.size ≤ h.size := w.old.1
theorem W.sta {C f d : String} {v : Value} (w : W x wd l Z EL R own code mx ret nm T h k n sf) (F : Sta Z Z.heap C f d v) : Sta Z h C f d v := F.ext w.old
/-- more cells and slots may be booked -/
theorem W.more {k' n' : Nat} (w : W x wd l Z EL R own code mx ret nm T h k n sf) (hk : k ≤ k') (hn : n ≤ n') (hk' : k' ≤ R.cells) (hn' : n' ≤ R.slots) : W x wd l Z EL R own code mx ret nm T h k' n' sf := by
  obtain ⟨a1, a2, a3, a4, a5, a6, a7, a8, a9, a10, a13, a14, L, vm0, a11, a12, X, b1, b2, b3, b4⟩ := w
  exact ⟨a1, a2, a3, a4, a5, a6, a7, a8, hk', hn', a13, a14, L, vm0, a11, a12, X.mono hk hn, b1, b2, b3, b4⟩
/-- fewer places that may be written -/
theorem W.less {sf' : List Addr} (w : W x wd l Z EL R own code mx ret nm T h k n sf) (q : ∀ y ∈ sf', y ∈ sf) : W x wd l Z EL R own code mx ret nm T h k n sf' := by
  obtain ⟨a1, a2, a3, a4, a5, a6, a7, a8, a9, a10, a13, a14, L, vm0, a11, a12, X, b1, b2, b3, b4⟩ := w
  exact ⟨a1, a2, a3, a4, a5, a6, a7, a8, a9, a10, fun y hy => a13 y (q y hy), a14, L, vm0, a11, a12, X, b1, b2, b3, fun e => ⟨(b4 e).1, fun y hy => (b4 e).2 y (q y hy)⟩⟩
theorem W.go {pc' : Nat} {ls' : Array Slot} {st' : List Value} (w : W x wd l Z EL R own code mx ret nm T h k n sf)
    (f : At T x.m x.c x.below → x.p.tables.exec = Jvm.exec → x.c.code = code → ∀ target, Steps x.p.tables x.e x.below (T.setTop (mkF x.m pc' ls' st')) target → Steps x.p.tables x.e x.below (T.setTop (mkF x.m pc ls st)) target)
    (K : Go x wd Z EL R Q T pc' ls' st') : Go x wd Z EL R Q T pc ls st := by
  obtain ⟨s₂, o, a1, r⟩ := K
  obtain ⟨hx, hb, -, -, -, -, -, -, -, -, -, -, L, vm0, -, -, X, -⟩ := w
  exact ⟨s₂, o, f X.here hx hb _ a1, r⟩
/-- a step that only warms the tables -/
theorem W.goT {pc' : Nat} {ls' : Array Slot} {st' : List Value} (w : W x wd l Z EL R own code mx ret nm T h k n sf)
    (f : ∀ (s0 : State) (L : List Loc), Stand x.p l x.e R s0 x.m x.args x.below x.meth x.c T L k n → x.p.tables.exec = Jvm.exec → Z.Warmed39 s0.vm → s0.vm.findClass own = some x.m.cls → x.c.code = code → x.c.maxLocals = mx → T.heap = h → ∃ T', Stand x.p l x.e R s0 x.m x.args x.below x.meth x.c T' L k n ∧ T'.heap = h ∧ ∀ target, Steps x.p.tables x.e x.below (T'.setTop (mkF x.m pc' ls' st')) target → Steps x.p.tables x.e x.below (T.setTop (mkF x.m pc ls st)) target)
    (K : ∀ T', W x wd l Z EL R own code mx ret nm T' h k n sf → Go x wd Z EL R Q T' pc' ls' st') : Go x wd Z EL R Q T pc ls st := by
  obtain ⟨hx, hb, hm, hr, hn, hl, e0, E, c1, c2, hs, hEL, L, vm0, N, g, X, S, hZ, ho, hC⟩ := w
  obtain ⟨T', X', e', stp⟩ := f _ L X hx hZ ho hb hm e0
  obtain ⟨s₂, o, a1, r⟩ := K T' ⟨hx, hb, hm, hr, hn, hl, e', E, c1, c2, hs, hEL, L, vm0, N, g, X', S, hZ, ho, hC⟩
  exact ⟨s₂, o, stp _ a1, r⟩
/-- a step that makes a cell -/
theorem W.goN {pc' : Nat} {ls' : Array Slot} {st' : List Value} {k' n' : Nat} {P : Heap → Prop} (w : W x wd l Z EL R own code mx ret nm T h k n sf) (hk : k' ≤ R.cells) (hn' : n' ≤ R.slots)
    (f : ∀ (s0 : State) (L : List Loc), Stand x.p l x.e R s0 x.m x.args x.below x.meth x.c T L k n → x.p.tables.exec = Jvm.exec → Z.Warmed39 s0.vm → s0.vm.findClass own = some x.m.cls → x.c.code = code → x.c.maxLocals = mx → T.heap = h → ∃ T' h', Stand x.p l x.e R s0 x.m x.args x.below x.meth x.c T' L k' n' ∧ T'.heap = h' ∧ Ext h h' ∧ h.size < h'.size ∧ P h' ∧ ∀ target, Steps x.p.tables x.e x.below (T'.setTop (mkF x.m pc' ls' st')) target → Steps x.p.tables x.e x.below (T.setTop (mkF x.m pc ls st)) target)
    (K : ∀ T' h', W x wd l Z EL R own code mx ret nm T' h' k' n' (h.size :: sf) → Ext h h' → P h' → Go x wd Z EL R Q T' pc' ls' st') : Go x wd Z EL R Q T pc ls st := by
  obtain ⟨hx, hb, hm, hr, hn, hl, e0, E, c1, c2, hs, hEL, L, vm0, N, g, X, S, hZ, ho, hC⟩ := w
  obtain ⟨T', h', X', e', E', hlt, p', stp⟩ := f _ L X hx hZ ho hb hm e0
  obtain ⟨s₂, o, a1, r⟩ := K T' h' ⟨hx, hb, hm, hr, hn, hl, e', ext_trans E E', hk, hn', fun y hy => by
      rcases List.mem_cons.mp hy with rfl | hy
      · exact ⟨E.1, hlt⟩
      · exact ⟨(hs y hy).1, Nat.lt_of_lt_of_le (hs y hy).2 E'.1⟩, hEL, L, vm0, N, g, X', since_mono S E'.1, hZ, ho, fun q => ⟨(hC q).1.trans (CHr.ext E' (hC q).1.1), fun y hy => by
      rcases List.mem_cons.mp hy with rfl | hy
      · exact (Safe.new (Nat.le_refl _)).ext E' (hC q).1.1
      · exact ((hC q).2 y hy).ext E' (hC q).1.1⟩⟩ E' p'
  exact ⟨s₂, o, stp _ a1, r⟩
/-- a step that writes one place of a new cell -/
theorem W.goW {pc' : Nat} {ls' : Array Slot} {st' : List Value} {a : Addr} {sl : Nat} {v : Value} (w : W x wd l Z EL R own code mx ret nm T h k n sf) (ha : a ∈ sf)
    (f : ∀ (s0 : State) (L : List Loc), Stand x.p l x.e R s0 x.m x.args x.below x.meth x.c T L k n → x.p.tables.exec = Jvm.exec → Z.Warmed39 s0.vm → s0.vm.findClass own = some x.m.cls → x.c.code = code → x.meth.name = nm → T.heap = h → ∃ T' h', Stand x.p l x.e R s0 x.m x.args x.below x.meth x.c T' (L ++ [⟨a, sl⟩]) k n ∧ T'.heap = h' ∧ Wr h h' a sl v ∧ ∀ target, Steps x.p.tables x.e x.below (T'.setTop (mkF x.m pc' ls' st')) target → Steps x.p.tables x.e x.below (T.setTop (mkF x.m pc ls st)) target)
    (K : ∀ T' h', W x wd l Z EL R own code mx ret nm T' h' k n sf → Wr h h' a sl v → Go x wd Z EL R Q T' pc' ls' st') : Go x wd Z EL R Q T pc ls st := by
  obtain ⟨hx, hb, hm, hr, hn, hl, e0, E, c1, c2, hs, hEL, L, vm0, N, g, X, S, hZ, ho, hC⟩ := w
  obtain ⟨T', h', X', e', W', stp⟩ := f _ L X hx hZ ho hb hn e0
  have hz := W'.size
  obtain ⟨s₂, o, a1, r⟩ := K T' h' ⟨hx, hb, hm, hr, hn, hl, e', ext_wr E W' (hs a ha).1, c1, c2, fun y hy => ⟨(hs y hy).1, by rw [hz]; exact (hs y hy).2⟩, hEL, _, vm0, Fr.snoc X' N (hs a ha).1, g, X', since_mono S (Nat.le_of_eq hz.symm), hZ, ho, fun q => ⟨(hC q).1.trans (CHr.wr W' ((hC q).2 a ha) (hC q).1.1), fun y hy => Safe.wr W' ((hC q).2 a ha) (hC q).1.1 ((hC q).2 y hy)⟩⟩ W'
  exact ⟨s₂, o, stp _ a1, r⟩
/-- the end: the value v is handed back -/
theorem W.done {v : Option Value} (w : W x wd l Z EL R own code mx ret nm T h k n sf) (hv : ret = none → v = none) (hQ : Q v h)
    (f : ∀ (s0 : State) (L : List Loc), Stand x.p l x.e R s0 x.m x.args x.below x.meth x.c T L k n → x.p.tables.exec = Jvm.exec → x.c.code = code → x.meth.sig.returnType = ret → ∀ fs : List Frame, (∀ (f : JFrame) (acts : List Action), f.method = x.m → f.locked = none → f.entered = [] → (doReturn x.e (T.setTop f) acts v).1 = T.setFrames fs) → Steps x.p.tables x.e x.below (T.setTop (mkF x.m pc ls st)) (T.setFrames fs)) : Go x wd Z EL R Q T pc ls st := by
  obtain ⟨hx, hb, hm, hr, hn, hl, e0, E, c1, c2, hs, ⟨a9, hEL⟩, L, vm0, N, g, X, S, hZ, ho, hC⟩ := w
  have hv' : x.meth.sig.returnType = none → v = none := fun q => hv (hr ▸ q)
  have hh : ∀ fs, (T.setFrames fs).heap = h := fun fs => e0
  have hg : ∀ fs, x.s.heap.size ≤ (T.setFrames fs).heap.size := fun fs => X.same.2.1
  cases wd with
  | false =>
    have eq := g rfl
    subst eq
    obtain ⟨fs, h1, h2, h3, h4, h5⟩ := X.leave (v := v) hv' hl
    exact ⟨_, _, f _ L X hx hb hr fs h1, h2, h3, v, L, rfl, ⟨(hh fs).symm ▸ hQ, N, (hh fs).symm ▸ E, hg fs⟩, ⟨⟨v, rfl⟩, h4, h5.mono c1 c2⟩⟩
  | true =>
    obtain ⟨fs, h1, h2, h3, h4⟩ := X.leaveW S (by rw [e0]; exact Nat.le_refl _) (v := v) hv' hl
    have hC2 : CHr Z EL x.s.vm x.s.heap T.vm T.heap := by rw [e0]; exact (hC rfl).1.trans (CHv.at X hZ hEL (hC rfl).1.1)
    exact ⟨_, _, f _ L X hx hb hr fs h1, h2, h3, v, L, rfl, ⟨(hh fs).symm ▸ hQ, N, (hh fs).symm ▸ E, hg fs⟩, hC2, ⟨h4.1, h4.2.1, h4.2.2.1, h4.2.2.2.mono c1 c2⟩⟩

theorem W.aloadN (w : W x wd l Z EL R own code mx ret nm T h k n sf) {i : Fin 4} {v : Value} (hd : Dc code pc (.aload_n i) 1 pc') (hl : ls[i.val]? = some (.val v)) (hv : v.isRef = true) (K : Go x wd Z EL R Q T pc' ls (v :: st)) : Go x wd Z EL R Q T pc ls st := by
  obtain ⟨hd, rfl⟩ := hd
  exact w.go (fun A hx hb t hr => XS.aloadN A hx rfl (Jvm.hb hb hd) hl hv hr) K
theorem W.aload (w : W x wd l Z EL R own code mx ret nm T h k n sf) {i : Nat} {v : Value} (hd : Dc code pc (.aload i) 2 pc') (hl : ls[i]? = some (.val v)) (hv : v.isRef = true) (K : Go x wd Z EL R Q T pc' ls (v :: st)) : Go x wd Z EL R Q T pc ls st := by
  obtain ⟨hd, rfl⟩ := hd
  exact w.go (fun A hx hb t hr => XS.aload A hx rfl (Jvm.hb hb hd) hl hv hr) K
theorem W.iloadN (w : W x wd l Z EL R own code mx ret nm T h k n sf) {i : Fin 4} {v : Int32} (hd : Dc code pc (.iload_n i) 1 pc') (hl : ls[i.val]? = some (.val (.int v))) (K : Go x wd Z EL R Q T pc' ls (.int v :: st)) : Go x wd Z EL R Q T pc ls st := by
  obtain ⟨hd, rfl⟩ := hd
  exact w.go (fun A hx hb t hr => XS.iloadN A hx rfl (Jvm.hb hb hd) hl hr) K
theorem W.iload (w : W x wd l Z EL R own code mx ret nm T h k n sf) {i : Nat} {v : Int32} (hd : Dc code pc (.iload i) 2 pc') (hl : ls[i]? = some (.val (.int v))) (K : Go x wd Z EL R Q T pc' ls (.int v :: st)) : Go x wd Z EL R Q T pc ls st := by
  obtain ⟨hd, rfl⟩ := hd
  exact w.go (fun A hx hb t hr => XS.iload A hx rfl (Jvm.hb hb hd) hl hr) K
theorem W.lloadN (w : W x wd l Z EL R own code mx ret nm T h k n sf) {i : Fin 4} {v : Int64} (hd : Dc code pc (.lload_n i) 1 pc') (hl : ls[i.val]? = some (.val (.long v))) (K : Go x wd Z EL R Q T pc' ls (.long v :: st)) : Go x wd Z EL R Q T pc ls st := by
  obtain ⟨hd, rfl⟩ := hd
  exact w.go (fun A hx hb t hr => XT.lloadN A hx rfl (Jvm.hb hb hd) hl hr) K
theorem W.lload (w : W x wd l Z EL R own code mx ret nm T h k n sf) {i : Nat} {v : Int64} (hd : Dc code pc (.lload i) 2 pc') (hl : ls[i]? = some (.val (.long v))) (K : Go x wd Z EL R Q T pc' ls (.long v :: st)) : Go x wd Z EL R Q T pc ls st := by
  obtain ⟨hd, rfl⟩ := hd
  exact w.go (fun A hx hb t hr => XT.lload A hx rfl (Jvm.hb hb hd) hl hr) K
theorem W.iconst (w : W x wd l Z EL R own code mx ret nm T h k n sf) {i : Int} (v : Int32) (hd : Dc code pc (.iconst i) 1 pc') (hv : Int32.ofInt i = v) (K : Go x wd Z EL R Q T pc' ls (.int v :: st)) : Go x wd Z EL R Q T pc ls st := by
  obtain ⟨hd, rfl⟩ := hd
  exact w.go (fun A hx hb t hr => XT.iconstV A hx rfl v (Jvm.hb hb hd) hv hr) K
theorem W.bipush (w : W x wd l Z EL R own code mx ret nm T h k n sf) {i : Int} (v : Int32) (hd : Dc code pc (.bipush i) 2 pc') (hv : (Int8.ofInt i).toInt32 = v) (K : Go x wd Z EL R Q T pc' ls (.int v :: st)) : Go x wd Z EL R Q T pc ls st := by
  obtain ⟨hd, rfl⟩ := hd
  exact w.go (fun A hx hb t hr => XT.bipushV A hx rfl v (Jvm.hb hb hd) hv hr) K
theorem W.sipush (w : W x wd l Z EL R own code mx ret nm T h k n sf) {i : Int} (v : Int32) (hd : Dc code pc (.sipush i) 3 pc') (hv : (Int16.ofInt i).toInt32 = v) (K : Go x wd Z EL R Q T pc' ls (.int v :: st)) : Go x wd Z EL R Q T pc ls st := by
  obtain ⟨hd, rfl⟩ := hd
  exact w.go (fun A hx hb t hr => XT.sipushV A hx rfl v (Jvm.hb hb hd) hv hr) K
theorem W.lconst (w : W x wd l Z EL R own code mx ret nm T h k n sf) {i : Fin 2} (v : Int64) (hd : Dc code pc (.lconst i) 1 pc') (hv : Int64.ofNat i = v) (K : Go x wd Z EL R Q T pc' ls (.long v :: st)) : Go x wd Z EL R Q T pc ls st := by
  obtain ⟨hd, rfl⟩ := hd
  exact w.go (fun A hx hb t hr => XT.lconstV A hx rfl v (Jvm.hb hb hd) hv hr) K
theorem W.aconstNull (w : W x wd l Z EL R own code mx ret nm T h k n sf) (hd : Dc code pc .aconst_null 1 pc') (K : Go x wd Z EL R Q T pc' ls (.null :: st)) : Go x wd Z EL R Q T pc ls st := by
  obtain ⟨hd, rfl⟩ := hd
  exact w.go (fun A hx hb t hr => XS.aconstNull A hx rfl (Jvm.hb hb hd) hr) K
theorem W.iadd (w : W x wd l Z EL R own code mx ret nm T h k n sf) {a b : Int32} (hd : Dc code pc .iadd 1 pc') (K : Go x wd Z EL R Q T pc' ls (.int (a + b) :: st)) : Go x wd Z EL R Q T pc ls (.int b :: .int a :: st) := by
  obtain ⟨hd, rfl⟩ := hd
  exact w.go (fun A hx hb t hr => XS.iadd A hx rfl (Jvm.hb hb hd) rfl hr) K
theorem W.isub (w : W x wd l Z EL R own code mx ret nm T h k n sf) {a b : Int32} (hd : Dc code pc .isub 1 pc') (K : Go x wd Z EL R Q T pc' ls (.int (a - b) :: st)) : Go x wd Z EL R Q T pc ls (.int b :: .int a :: st) := by
  obtain ⟨hd, rfl⟩ := hd
  exact w.go (fun A hx hb t hr => XS.isub A hx rfl (Jvm.hb hb hd) rfl hr) K
theorem W.imul (w : W x wd l Z EL R own code mx ret nm T h k n sf) {a b : Int32} (hd : Dc code pc .imul 1 pc') (K : Go x wd Z EL R Q T pc' ls (.int (a * b) :: st)) : Go x wd Z EL R Q T pc ls (.int b :: .int a :: st) := by
  obtain ⟨hd, rfl⟩ := hd
  exact w.go (fun A hx hb t hr => XS.imul A hx rfl (Jvm.hb hb hd) rfl hr) K
theorem W.iand (w : W x wd l Z EL R own code mx ret nm T h k n sf) {a b : Int32} (hd : Dc code pc .iand 1 pc') (K : Go x wd Z EL R Q T pc' ls (.int (a &&& b) :: st)) : Go x wd Z EL R Q T pc ls (.int b :: .int a :: st) := by
  obtain ⟨hd, rfl⟩ := hd
  exact w.go (fun A hx hb t hr => XS.iand A hx rfl (Jvm.hb hb hd) rfl hr) K
theorem W.ior (w : W x wd l Z EL R own code mx ret nm T h k n sf) {a b : Int32} (hd : Dc code pc .ior 1 pc') (K : Go x wd Z EL R Q T pc' ls (.int (a ||| b) :: st)) : Go x wd Z EL R Q T pc ls (.int b :: .int a :: st) := by
  obtain ⟨hd, rfl⟩ := hd
  exact w.go (fun A hx hb t hr => XT.ior A hx rfl (Jvm.hb hb hd) rfl hr) K
theorem W.ixor (w : W x wd l Z EL R own code mx ret nm T h k n sf) {a b : Int32} (hd : Dc code pc .ixor 1 pc') (K : Go x wd Z EL R Q T pc' ls (.int (a ^^^ b) :: st)) : Go x wd Z EL R Q T pc ls (.int b :: .int a :: st) := by
  obtain ⟨hd, rfl⟩ := hd
  exact w.go (fun A hx hb t hr => XT.ixor A hx rfl (Jvm.hb hb hd) rfl hr) K
theorem W.iushr (w : W x wd l Z EL R own code mx ret nm T h k n sf) {a b : Int32} (hd : Dc code pc .iushr 1 pc') (K : Go x wd Z EL R Q T pc' ls (.int (XT.ushr a b) :: st)) : Go x wd Z EL R Q T pc ls (.int b :: .int a :: st) := by
  obtain ⟨hd, rfl⟩ := hd
  exact w.go (fun A hx hb t hr => XT.iushr A hx rfl (Jvm.hb hb hd) rfl hr) K
theorem W.ishl (w : W x wd l Z EL R own code mx ret nm T h k n sf) {a b : Int32} (hd : Dc code pc .ishl 1 pc') (K : Go x wd Z EL R Q T pc' ls (.int (a <<< (b &&& 31)) :: st)) : Go x wd Z EL R Q T pc ls (.int b :: .int a :: st) := by
  obtain ⟨hd, rfl⟩ := hd
  exact w.go (fun A hx hb t hr => XT.ishl A hx rfl (Jvm.hb hb hd) rfl hr) K
theorem W.ishr (w : W x wd l Z EL R own code mx ret nm T h k n sf) {a b : Int32} (hd : Dc code pc .ishr 1 pc') (K : Go x wd Z EL R Q T pc' ls (.int (a >>> (b &&& 31)) :: st)) : Go x wd Z EL R Q T pc ls (.int b :: .int a :: st) := by
  obtain ⟨hd, rfl⟩ := hd
  exact w.go (fun A hx hb t hr => XT.ishr A hx rfl (Jvm.hb hb hd) rfl hr) K
theorem W.irem (w : W x wd l Z EL R own code mx ret nm T h k n sf) {a b : Int32} (hd : Dc code pc .irem 1 pc') (hy : b ≠ 0) (K : Go x wd Z EL R Q T pc' ls (.int (a % b) :: st)) : Go x wd Z EL R Q T pc ls (.int b :: .int a :: st) := by
  obtain ⟨hd, rfl⟩ := hd
  have q : a - a / b * b = a % b := irem_eq_mod a b
  exact w.go (fun A hx hb t hr => XS.irem A hx rfl (Jvm.hb hb hd) rfl hy (by rw [q]; exact hr)) K
theorem W.idiv (w : W x wd l Z EL R own code mx ret nm T h k n sf) {a b : Int32} (hd : Dc code pc .idiv 1 pc') (hy : b ≠ 0) (K : Go x wd Z EL R Q T pc' ls (.int (a / b) :: st)) : Go x wd Z EL R Q T pc ls (.int b :: .int a :: st) := by
  obtain ⟨hd, rfl⟩ := hd
  exact w.go (fun A hx hb t hr => XS.idiv A hx rfl (Jvm.hb hb hd) rfl hy hr) K
theorem W.ineg (w : W x wd l Z EL R own code mx ret nm T h k n sf) {a : Int32} (hd : Dc code pc .ineg 1 pc') (K : Go x wd Z EL R Q T pc' ls (.int (-a) :: st)) : Go x wd Z EL R Q T pc ls (.int a :: st) := by
  obtain ⟨hd, rfl⟩ := hd
  exact w.go (fun A hx hb t hr => XS.ineg A hx rfl (Jvm.hb hb hd) rfl hr) K
theorem W.i2c (w : W x wd l Z EL R own code mx ret nm T h k n sf) {a : Int32} (hd : Dc code pc .i2c 1 pc') (K : Go x wd Z EL R Q T pc' ls (.int (nar .char a) :: st)) : Go x wd Z EL R Q T pc ls (.int a :: st) := by
  obtain ⟨hd, rfl⟩ := hd
  exact w.go (fun A hx hb t hr => XT.i2c A hx rfl (Jvm.hb hb hd) rfl hr) K
theorem W.i2b (w : W x wd l Z EL R own code mx ret nm T h k n sf) {a : Int32} (hd : Dc code pc .i2b 1 pc') (K : Go x wd Z EL R Q T pc' ls (.int (nar .byte a) :: st)) : Go x wd Z EL R Q T pc ls (.int a :: st) := by
  obtain ⟨hd, rfl⟩ := hd
  exact w.go (fun A hx hb t hr => XT.i2b A hx rfl (Jvm.hb hb hd) rfl hr) K
theorem W.i2l (w : W x wd l Z EL R own code mx ret nm T h k n sf) {a : Int32} (hd : Dc code pc .i2l 1 pc') (K : Go x wd Z EL R Q T pc' ls (.long a.toInt64 :: st)) : Go x wd Z EL R Q T pc ls (.int a :: st) := by
  obtain ⟨hd, rfl⟩ := hd
  exact w.go (fun A hx hb t hr => XT.i2l A hx rfl (Jvm.hb hb hd) rfl hr) K
theorem W.l2i (w : W x wd l Z EL R own code mx ret nm T h k n sf) {a : Int64} (hd : Dc code pc .l2i 1 pc') (K : Go x wd Z EL R Q T pc' ls (.int a.toInt32 :: st)) : Go x wd Z EL R Q T pc ls (.long a :: st) := by
  obtain ⟨hd, rfl⟩ := hd
  exact w.go (fun A hx hb t hr => XT.l2i A hx rfl (Jvm.hb hb hd) rfl hr) K
theorem W.ladd (w : W x wd l Z EL R own code mx ret nm T h k n sf) {a b : Int64} (hd : Dc code pc .ladd 1 pc') (K : Go x wd Z EL R Q T pc' ls (.long (a + b) :: st)) : Go x wd Z EL R Q T pc ls (.long b :: .long a :: st) := by
  obtain ⟨hd, rfl⟩ := hd
  exact w.go (fun A hx hb t hr => XT.ladd A hx rfl (Jvm.hb hb hd) rfl hr) K
theorem W.lsub (w : W x wd l Z EL R own code mx ret nm T h k n sf) {a b : Int64} (hd : Dc code pc .lsub 1 pc') (K : Go x wd Z EL R Q T pc' ls (.long (a - b) :: st)) : Go x wd Z EL R Q T pc ls (.long b :: .long a :: st) := by
  obtain ⟨hd, rfl⟩ := hd
  exact w.go (fun A hx hb t hr => XT.lsub A hx rfl (Jvm.hb hb hd) rfl hr) K
theorem W.lmul (w : W x wd l Z EL R own code mx ret nm T h k n sf) {a b : Int64} (hd : Dc code pc .lmul 1 pc') (K : Go x wd Z EL R Q T pc' ls (.long (a * b) :: st)) : Go x wd Z EL R Q T pc ls (.long b :: .long a :: st) := by
  obtain ⟨hd, rfl⟩ := hd
  exact w.go (fun A hx hb t hr => XT.lmul A hx rfl (Jvm.hb hb hd) rfl hr) K
theorem W.land (w : W x wd l Z EL R own code mx ret nm T h k n sf) {a b : Int64} (hd : Dc code pc .land 1 pc') (K : Go x wd Z EL R Q T pc' ls (.long (a &&& b) :: st)) : Go x wd Z EL R Q T pc ls (.long b :: .long a :: st) := by
  obtain ⟨hd, rfl⟩ := hd
  exact w.go (fun A hx hb t hr => XT.land A hx rfl (Jvm.hb hb hd) rfl hr) K
theorem W.lcmp (w : W x wd l Z EL R own code mx ret nm T h k n sf) {a b : Int64} (hd : Dc code pc .lcmp 1 pc') (K : Go x wd Z EL R Q T pc' ls (.int (XT.cmpL a b) :: st)) : Go x wd Z EL R Q T pc ls (.long b :: .long a :: st) := by
  obtain ⟨hd, rfl⟩ := hd
  exact w.go (fun A hx hb t hr => XT.lcmp A hx rfl (Jvm.hb hb hd) rfl hr) K
theorem W.dup (w : W x wd l Z EL R own code mx ret nm T h k n sf) {v : Value} (hd : Dc code pc .dup 1 pc') (hc : v.category = 1) (K : Go x wd Z EL R Q T pc' ls (v :: v :: st)) : Go x wd Z EL R Q T pc ls (v :: st) := by
  obtain ⟨hd, rfl⟩ := hd
  exact w.go (fun A hx hb t hr => XS.dup A hx rfl (Jvm.hb hb hd) rfl hc hr) K
theorem W.dupX1 (w : W x wd l Z EL R own code mx ret nm T h k n sf) {v u : Value} (hd : Dc code pc .dup_x1 1 pc') (hc : v.category = 1) (hc' : u.category = 1) (K : Go x wd Z EL R Q T pc' ls (v :: u :: v :: st)) : Go x wd Z EL R Q T pc ls (v :: u :: st) := by
  obtain ⟨hd, rfl⟩ := hd
  exact w.go (fun A hx hb t hr => XT.dupX1 A hx rfl (Jvm.hb hb hd) rfl hc hc' hr) K
theorem W.dup2 (w : W x wd l Z EL R own code mx ret nm T h k n sf) {v u : Value} (hd : Dc code pc .dup2 1 pc') (hc : v.category = 1) (hc' : u.category = 1) (K : Go x wd Z EL R Q T pc' ls (v :: u :: v :: u :: st)) : Go x wd Z EL R Q T pc ls (v :: u :: st) := by
  obtain ⟨hd, rfl⟩ := hd
  exact w.go (fun A hx hb t hr => XT.dup2 A hx rfl (Jvm.hb hb hd) rfl hc hc' hr) K
theorem W.pop (w : W x wd l Z EL R own code mx ret nm T h k n sf) {v : Value} (hd : Dc code pc .pop 1 pc') (hc : v.category = 1) (K : Go x wd Z EL R Q T pc' ls st) : Go x wd Z EL R Q T pc ls (v :: st) := by
  obtain ⟨hd, rfl⟩ := hd
  exact w.go (fun A hx hb t hr => XT.pop A hx rfl (Jvm.hb hb hd) rfl hc hr) K
theorem W.istoreN (w : W x wd l Z EL R own code mx ret nm T h k n sf) {i : Fin 4} {v : Int32} (ls' : Array Slot) (hd : Dc code pc (.istore_n i) 1 pc') (hl : storeLocals ls i.val (.int v) = some ls') (K : Go x wd Z EL R Q T pc' ls' st) : Go x wd Z EL R Q T pc ls (.int v :: st) := by
  obtain ⟨hd, rfl⟩ := hd
  exact w.go (fun A hx hb t hr => XS.istoreN A hx rfl (Jvm.hb hb hd) rfl hl hr) K
theorem W.istore (w : W x wd l Z EL R own code mx ret nm T h k n sf) {i : Nat} {v : Int32} (ls' : Array Slot) (hd : Dc code pc (.istore i) 2 pc') (hl : storeLocals ls i (.int v) = some ls') (K : Go x wd Z EL R Q T pc' ls' st) : Go x wd Z EL R Q T pc ls (.int v :: st) := by
  obtain ⟨hd, rfl⟩ := hd
  exact w.go (fun A hx hb t hr => XS.istore A hx rfl (Jvm.hb hb hd) rfl hl hr) K
theorem W.lstoreN (w : W x wd l Z EL R own code mx ret nm T h k n sf) {i : Fin 4} {v : Int64} (ls' : Array Slot) (hd : Dc code pc (.lstore_n i) 1 pc') (hl : storeLocals ls i.val (.long v) = some ls') (K : Go x wd Z EL R Q T pc' ls' st) : Go x wd Z EL R Q T pc ls (.long v :: st) := by
  obtain ⟨hd, rfl⟩ := hd
  exact w.go (fun A hx hb t hr => XT.lstoreN A hx rfl (Jvm.hb hb hd) rfl hl hr) K
theorem W.astoreN (w : W x wd l Z EL R own code mx ret nm T h k n sf) {i : Fin 4} {v : Value} (ls' : Array Slot) (hd : Dc code pc (.astore_n i) 1 pc') (hv : v.isRef = true) (hl : storeLocals ls i.val v = some ls') (K : Go x wd Z EL R Q T pc' ls' st) : Go x wd Z EL R Q T pc ls (v :: st) := by
  obtain ⟨hd, rfl⟩ := hd
  exact w.go (fun A hx hb t hr => XS.astoreN A hx rfl (Jvm.hb hb hd) rfl hv hl hr) K
theorem W.astore (w : W x wd l Z EL R own code mx ret nm T h k n sf) {i : Nat} {v : Value} (ls' : Array Slot) (hd : Dc code pc (.astore i) 2 pc') (hv : v.isRef = true) (hl : storeLocals ls i v = some ls') (K : Go x wd Z EL R Q T pc' ls' st) : Go x wd Z EL R Q T pc ls (v :: st) := by
  obtain ⟨hd, rfl⟩ := hd
  exact w.go (fun A hx hb t hr => XS.astore A hx rfl (Jvm.hb hb hd) rfl hv hl hr) K
theorem W.iinc (w : W x wd l Z EL R own code mx ret nm T h k n sf) {i : Nat} {c : Int} {a : Int32} (v : Int32) (ls' : Array Slot) (hd : Dc code pc (.iinc i c) 3 pc') (hv : Int32.ofInt c = v) (hl : ls[i]? = some (.val (.int a))) (hl' : storeLocals ls i (.int (a + v)) = some ls') (K : Go x wd Z EL R Q T pc' ls' st) : Go x wd Z EL R Q T pc ls st := by
  obtain ⟨hd, rfl⟩ := hd
  exact w.go (fun A hx hb t hr => XT.iincV A hx rfl v (Jvm.hb hb hd) hv hl hl' hr) K
theorem W.goto (w : W x wd l Z EL R own code mx ret nm T h k n sf) {o : Int} (hd : Dc code pc (.goto o) 3 pc') (ht : Tg pc o pcT) (K : Go x wd Z EL R Q T pcT ls st) : Go x wd Z EL R Q T pc ls st := by
  obtain ⟨hd, rfl⟩ := hd
  exact w.go (fun A hx hb t hr => XS.goto A hx rfl (pc0 := pc) (pc' := pcT) rfl (Jvm.hb hb hd) ht.1 ht.2 hr) K
theorem W.ifEq (w : W x wd l Z EL R own code mx ret nm T h k n sf) {a : Int32} {o : Int} (hd : Dc code pc (.ifCond .eq o) 3 pc') (ht : Tg pc o pcT) (K1 : a = 0 → Go x wd Z EL R Q T pcT ls st) (K2 : (¬ a = 0) → Go x wd Z EL R Q T pc' ls st) : Go x wd Z EL R Q T pc ls (.int a :: st) := by
  obtain ⟨hd, rfl⟩ := hd
  by_cases q : a = 0
  · exact w.go (fun A hx hb t hr => XS.ifYes A hx rfl (pc0 := pc) (pc' := pcT) rfl (Jvm.hb hb hd) rfl (XT.i0_eq_t q) ht.1 ht.2 hr) (K1 q)
  · exact w.go (fun A hx hb t hr => XS.ifNo A hx rfl (Jvm.hb hb hd) rfl (XT.i0_eq_f q) hr) (K2 q)
theorem W.ifNe (w : W x wd l Z EL R own code mx ret nm T h k n sf) {a : Int32} {o : Int} (hd : Dc code pc (.ifCond .ne o) 3 pc') (ht : Tg pc o pcT) (K1 : (¬ a = 0) → Go x wd Z EL R Q T pcT ls st) (K2 : (a = 0) → Go x wd Z EL R Q T pc' ls st) : Go x wd Z EL R Q T pc ls (.int a :: st) := by
  obtain ⟨hd, rfl⟩ := hd
  by_cases q : a = 0
  · exact w.go (fun A hx hb t hr => XS.ifNo A hx rfl (Jvm.hb hb hd) rfl (XT.i0_ne_f q) hr) (K2 q)
  · exact w.go (fun A hx hb t hr => XS.ifYes A hx rfl (pc0 := pc) (pc' := pcT) rfl (Jvm.hb hb hd) rfl (XT.i0_ne_t q) ht.1 ht.2 hr) (K1 q)
theorem W.ifLt (w : W x wd l Z EL R own code mx ret nm T h k n sf) {a : Int32} {o : Int} (hd : Dc code pc (.ifCond .lt o) 3 pc') (ht : Tg pc o pcT) (K1 : a < 0 → Go x wd Z EL R Q T pcT ls st) (K2 : (¬ a < 0) → Go x wd Z EL R Q T pc' ls st) : Go x wd Z EL R Q T pc ls (.int a :: st) := by
  obtain ⟨hd, rfl⟩ := hd
  by_cases q : a < 0
  · exact w.go (fun A hx hb t hr => XS.ifYes A hx rfl (pc0 := pc) (pc' := pcT) rfl (Jvm.hb hb hd) rfl (XT.i0_lt_t q) ht.1 ht.2 hr) (K1 q)
  · exact w.go (fun A hx hb t hr => XS.ifNo A hx rfl (Jvm.hb hb hd) rfl (XT.i0_lt_f q) hr) (K2 q)
theorem W.ifGe (w : W x wd l Z EL R own code mx ret nm T h k n sf) {a : Int32} {o : Int} (hd : Dc code pc (.ifCond .ge o) 3 pc') (ht : Tg pc o pcT) (K1 : (¬ a < 0) → Go x wd Z EL R Q T pcT ls st) (K2 : (a < 0) → Go x wd Z EL R Q T pc' ls st) : Go x wd Z EL R Q T pc ls (.int a :: st) := by
  obtain ⟨hd, rfl⟩ := hd
  by_cases q : a < 0
  · exact w.go (fun A hx hb t hr => XS.ifNo A hx rfl (Jvm.hb hb hd) rfl (XT.i0_ge_f q) hr) (K2 q)
  · exact w.go (fun A hx hb t hr => XS.ifYes A hx rfl (pc0 := pc) (pc' := pcT) rfl (Jvm.hb hb hd) rfl (XT.i0_ge_t q) ht.1 ht.2 hr) (K1 q)
theorem W.ifGt (w : W x wd l Z EL R own code mx ret nm T h k n sf) {a : Int32} {o : Int} (hd : Dc code pc (.ifCond .gt o) 3 pc') (ht : Tg pc o pcT) (K1 : 0 < a → Go x wd Z EL R Q T pcT ls st) (K2 : (¬ 0 < a) → Go x wd Z EL R Q T pc' ls st) : Go x wd Z EL R Q T pc ls (.int a :: st) := by
  obtain ⟨hd, rfl⟩ := hd
  by_cases q : 0 < a
  · exact w.go (fun A hx hb t hr => XS.ifYes A hx rfl (pc0 := pc) (pc' := pcT) rfl (Jvm.hb hb hd) rfl (XT.i0_gt_t q) ht.1 ht.2 hr) (K1 q)
  · exact w.go (fun A hx hb t hr => XS.ifNo A hx rfl (Jvm.hb hb hd) rfl (XT.i0_gt_f q) hr) (K2 q)
theorem W.ifLe (w : W x wd l Z EL R own code mx ret nm T h k n sf) {a : Int32} {o : Int} (hd : Dc code pc (.ifCond .le o) 3 pc') (ht : Tg pc o pcT) (K1 : (¬ 0 < a) → Go x wd Z EL R Q T pcT ls st) (K2 : (0 < a) → Go x wd Z EL R Q T pc' ls st) : Go x wd Z EL R Q T pc ls (.int a :: st) := by
  obtain ⟨hd, rfl⟩ := hd
  by_cases q : 0 < a
  · exact w.go (fun A hx hb t hr => XS.ifNo A hx rfl (Jvm.hb hb hd) rfl (XT.i0_le_f q) hr) (K2 q)
  · exact w.go (fun A hx hb t hr => XS.ifYes A hx rfl (pc0 := pc) (pc' := pcT) rfl (Jvm.hb hb hd) rfl (XT.i0_le_t q) ht.1 ht.2 hr) (K1 q)
theorem W.icmpEq (w : W x wd l Z EL R own code mx ret nm T h k n sf) {a b : Int32} {o : Int} (hd : Dc code pc (.if_icmp .eq o) 3 pc') (ht : Tg pc o pcT) (K1 : a = b → Go x wd Z EL R Q T pcT ls st) (K2 : (¬ a = b) → Go x wd Z EL R Q T pc' ls st) : Go x wd Z EL R Q T pc ls (.int b :: .int a :: st) := by
  obtain ⟨hd, rfl⟩ := hd
  by_cases q : a = b
  · exact w.go (fun A hx hb t hr => XS.icmpYes A hx rfl (pc0 := pc) (pc' := pcT) rfl (Jvm.hb hb hd) rfl (XT.ii_eq_t q) ht.1 ht.2 hr) (K1 q)
  · exact w.go (fun A hx hb t hr => XS.icmpNo A hx rfl (Jvm.hb hb hd) rfl (XT.ii_eq_f q) hr) (K2 q)
theorem W.icmpNe (w : W x wd l Z EL R own code mx ret nm T h k n sf) {a b : Int32} {o : Int} (hd : Dc code pc (.if_icmp .ne o) 3 pc') (ht : Tg pc o pcT) (K1 : (¬ a = b) → Go x wd Z EL R Q T pcT ls st) (K2 : (a = b) → Go x wd Z EL R Q T pc' ls st) : Go x wd Z EL R Q T pc ls (.int b :: .int a :: st) := by
  obtain ⟨hd, rfl⟩ := hd
  by_cases q : a = b
  · exact w.go (fun A hx hb t hr => XS.icmpNo A hx rfl (Jvm.hb hb hd) rfl (XT.ii_ne_f q) hr) (K2 q)
  · exact w.go (fun A hx hb t hr => XS.icmpYes A hx rfl (pc0 := pc) (pc' := pcT) rfl (Jvm.hb hb hd) rfl (XT.ii_ne_t q) ht.1 ht.2 hr) (K1 q)
theorem W.icmpLt (w : W x wd l Z EL R own code mx ret nm T h k n sf) {a b : Int32} {o : Int} (hd : Dc code pc (.if_icmp .lt o) 3 pc') (ht : Tg pc o pcT) (K1 : a < b → Go x wd Z EL R Q T pcT ls st) (K2 : (¬ a < b) → Go x wd Z EL R Q T pc' ls st) : Go x wd Z EL R Q T pc ls (.int b :: .int a :: st) := by
  obtain ⟨hd, rfl⟩ := hd
  by_cases q : a < b
  · exact w.go (fun A hx hb t hr => XS.icmpYes A hx rfl (pc0 := pc) (pc' := pcT) rfl (Jvm.hb hb hd) rfl (XT.ii_lt_t q) ht.1 ht.2 hr) (K1 q)
  · exact w.go (fun A hx hb t hr => XS.icmpNo A hx rfl (Jvm.hb hb hd) rfl (XT.ii_lt_f q) hr) (K2 q)
theorem W.icmpGe (w : W x wd l Z EL R own code mx ret nm T h k n sf) {a b : Int32} {o : Int} (hd : Dc code pc (.if_icmp .ge o) 3 pc') (ht : Tg pc o pcT) (K1 : (¬ a < b) → Go x wd Z EL R Q T pcT ls st) (K2 : (a < b) → Go x wd Z EL R Q T pc' ls st) : Go x wd Z EL R Q T pc ls (.int b :: .int a :: st) := by
  obtain ⟨hd, rfl⟩ := hd
  by_cases q : a < b
  · exact w.go (fun A hx hb t hr => XS.icmpNo A hx rfl (Jvm.hb hb hd) rfl (XT.ii_ge_f q) hr) (K2 q)
  · exact w.go (fun A hx hb t hr => XS.icmpYes A hx rfl (pc0 := pc) (pc' := pcT) rfl (Jvm.hb hb hd) rfl (XT.ii_ge_t q) ht.1 ht.2 hr) (K1 q)
theorem W.icmpGt (w : W x wd l Z EL R own code mx ret nm T h k n sf) {a b : Int32} {o : Int} (hd : Dc code pc (.if_icmp .gt o) 3 pc') (ht : Tg pc o pcT) (K1 : b < a → Go x wd Z EL R Q T pcT ls st) (K2 : (¬ b < a) → Go x wd Z EL R Q T pc' ls st) : Go x wd Z EL R Q T pc ls (.int b :: .int a :: st) := by
  obtain ⟨hd, rfl⟩ := hd
  by_cases q : b < a
  · exact w.go (fun A hx hb t hr => XS.icmpYes A hx rfl (pc0 := pc) (pc' := pcT) rfl (Jvm.hb hb hd) rfl (XT.ii_gt_t q) ht.1 ht.2 hr) (K1 q)
  · exact w.go (fun A hx hb t hr => XS.icmpNo A hx rfl (Jvm.hb hb hd) rfl (XT.ii_gt_f q) hr) (K2 q)
theorem W.icmpLe (w : W x wd l Z EL R own code mx ret nm T h k n sf) {a b : Int32} {o : Int} (hd : Dc code pc (.if_icmp .le o) 3 pc') (ht : Tg pc o pcT) (K1 : (¬ b < a) → Go x wd Z EL R Q T pcT ls st) (K2 : (b < a) → Go x wd Z EL R Q T pc' ls st) : Go x wd Z EL R Q T pc ls (.int b :: .int a :: st) := by
  obtain ⟨hd, rfl⟩ := hd
  by_cases q : b < a
  · exact w.go (fun A hx hb t hr => XS.icmpNo A hx rfl (Jvm.hb hb hd) rfl (XT.ii_le_f q) hr) (K2 q)
  · exact w.go (fun A hx hb t hr => XS.icmpYes A hx rfl (pc0 := pc) (pc' := pcT) rfl (Jvm.hb hb hd) rfl (XT.ii_le_t q) ht.1 ht.2 hr) (K1 q)
theorem W.acmpEq (w : W x wd l Z EL R own code mx ret nm T h k n sf) {a b : Value} {o : Int} (hd : Dc code pc (.if_acmp .eq o) 3 pc') (ht : Tg pc o pcT) (h1 : a.isRef = true) (h2 : b.isRef = true) (K1 : a = b → Go x wd Z EL R Q T pcT ls st) (K2 : (¬ a = b) → Go x wd Z EL R Q T pc' ls st) : Go x wd Z EL R Q T pc ls (b :: a :: st) := by
  obtain ⟨hd, rfl⟩ := hd
  by_cases q : a = b
  · exact w.go (fun A hx hb t hr => XT.acmpYes A hx rfl (pc0 := pc) (pc' := pcT) rfl (Jvm.hb hb hd) rfl h1 h2 (XT.aa_eq_t q) ht.1 ht.2 hr) (K1 q)
  · exact w.go (fun A hx hb t hr => XT.acmpNo A hx rfl (Jvm.hb hb hd) rfl h1 h2 (XT.aa_eq_f q) hr) (K2 q)
theorem W.acmpNe (w : W x wd l Z EL R own code mx ret nm T h k n sf) {a b : Value} {o : Int} (hd : Dc code pc (.if_acmp .ne o) 3 pc') (ht : Tg pc o pcT) (h1 : a.isRef = true) (h2 : b.isRef = true) (K1 : (¬ a = b) → Go x wd Z EL R Q T pcT ls st) (K2 : (a = b) → Go x wd Z EL R Q T pc' ls st) : Go x wd Z EL R Q T pc ls (b :: a :: st) := by
  obtain ⟨hd, rfl⟩ := hd
  by_cases q : a = b
  · exact w.go (fun A hx hb t hr => XT.acmpNo A hx rfl (Jvm.hb hb hd) rfl h1 h2 (XT.aa_ne_f q) hr) (K2 q)
  · exact w.go (fun A hx hb t hr => XT.acmpYes A hx rfl (pc0 := pc) (pc' := pcT) rfl (Jvm.hb hb hd) rfl h1 h2 (XT.aa_ne_t q) ht.1 ht.2 hr) (K1 q)
theorem W.racmpEq (w : W x wd l Z EL R own code mx ret nm T h k n sf) {a b : Addr} {o : Int} (hd : Dc code pc (.if_acmp .eq o) 3 pc') (ht : Tg pc o pcT) (K1 : a = b → Go x wd Z EL R Q T pcT ls st) (K2 : ¬ a = b → Go x wd Z EL R Q T pc' ls st) : Go x wd Z EL R Q T pc ls (.ref b :: .ref a :: st) := w.acmpEq hd ht rfl rfl (fun q => K1 (Value.ref.inj q)) (fun q => K2 fun e => q (congrArg _ e))
theorem W.racmpNe (w : W x wd l Z EL R own code mx ret nm T h k n sf) {a b : Addr} {o : Int} (hd : Dc code pc (.if_acmp .ne o) 3 pc') (ht : Tg pc o pcT) (K1 : ¬ a = b → Go x wd Z EL R Q T pcT ls st) (K2 : a = b → Go x wd Z EL R Q T pc' ls st) : Go x wd Z EL R Q T pc ls (.ref b :: .ref a :: st) := w.acmpNe hd ht rfl rfl (fun q => K1 fun e => q (congrArg _ e)) (fun q => K2 (Value.ref.inj q))
theorem W.nullT (w : W x wd l Z EL R own code mx ret nm T h k n sf) {o : Int} (hd : Dc code pc (.ifnull o) 3 pc') (ht : Tg pc o pcT) (K : Go x wd Z EL R Q T pcT ls st) : Go x wd Z EL R Q T pc ls (.null :: st) := by
  obtain ⟨hd, rfl⟩ := hd
  exact w.go (fun A hx hb t hr => XS.ifnullYes A hx rfl (pc0 := pc) (pc' := pcT) rfl (Jvm.hb hb hd) rfl ht.1 ht.2 hr) K
theorem W.nullF (w : W x wd l Z EL R own code mx ret nm T h k n sf) {o : Int} {a : Addr} (hd : Dc code pc (.ifnull o) 3 pc') (K : Go x wd Z EL R Q T pc' ls st) : Go x wd Z EL R Q T pc ls (.ref a :: st) := by
  obtain ⟨hd, rfl⟩ := hd
  exact w.go (fun A hx hb t hr => XS.ifnullNo A hx rfl (Jvm.hb hb hd) rfl hr) K
theorem W.nonnullT (w : W x wd l Z EL R own code mx ret nm T h k n sf) {o : Int} {a : Addr} (hd : Dc code pc (.ifnonnull o) 3 pc') (ht : Tg pc o pcT) (K : Go x wd Z EL R Q T pcT ls st) : Go x wd Z EL R Q T pc ls (.ref a :: st) := by
  obtain ⟨hd, rfl⟩ := hd
  exact w.go (fun A hx hb t hr => XT.ifnonnullYes A hx rfl (pc0 := pc) (pc' := pcT) rfl (Jvm.hb hb hd) rfl ht.1 ht.2 hr) K
theorem W.nonnullF (w : W x wd l Z EL R own code mx ret nm T h k n sf) {o : Int} (hd : Dc code pc (.ifnonnull o) 3 pc') (K : Go x wd Z EL R Q T pc' ls st) : Go x wd Z EL R Q T pc ls (.null :: st) := by
  obtain ⟨hd, rfl⟩ := hd
  exact w.go (fun A hx hb t hr => XT.ifnonnullNo A hx rfl (Jvm.hb hb hd) rfl hr) K
theorem W.ldcI (w : W x wd l Z EL R own code mx ret nm T h k n sf) {i : Nat} {v : Int32} (hd : Dc code pc (.ldc i) 2 pc') (wc : (Jvm.Cond.constant own i v).before a0 Z = true) (K : Go x wd Z EL R Q T pc' ls (.int v :: st)) : Go x wd Z EL R Q T pc ls st := by
  obtain ⟨hd, rfl⟩ := hd
  obtain ⟨hx, hb, hm, hr, hn, hl, e0, E, c1, c2, hs, hEL, L, vm0, N, g, X, S, hZ, ho, hC⟩ := w
  obtain ⟨s₂, o, a1, r⟩ := K
  exact ⟨s₂, o, X.ldcI hx ho (mv (s := x.s.setVm vm0) hZ wc) rfl (Jvm.hb hb hd) a1, r⟩
theorem W.ldcWI (w : W x wd l Z EL R own code mx ret nm T h k n sf) {i : Nat} {v : Int32} (hd : Dc code pc (.ldc_w i) 3 pc') (wc : (Jvm.Cond.constant own i v).before a0 Z = true) (K : Go x wd Z EL R Q T pc' ls (.int v :: st)) : Go x wd Z EL R Q T pc ls st := by
  obtain ⟨hd, rfl⟩ := hd
  obtain ⟨hx, hb, hm, hr, hn, hl, e0, E, c1, c2, hs, hEL, L, vm0, N, g, X, S, hZ, ho, hC⟩ := w
  obtain ⟨s₂, o, a1, r⟩ := K
  exact ⟨s₂, o, X.ldcWI hx ho (mv (s := x.s.setVm vm0) hZ wc) rfl (Jvm.hb hb hd) a1, r⟩
theorem W.getS (w : W x wd l Z EL R own code mx ret nm T h k n sf) {i : Nat} {O f d : String} {v : Value} (hd : Dc code pc (.getstatic i) 3 pc') (wl : (Jvm.Cond.fieldLink own i O f d).before a0 Z = true) (F : Sta Z Z.heap O f d v) (K : ∀ T', W x wd l Z EL R own code mx ret nm T' h k n sf → Go x wd Z EL R Q T' pc' ls (v :: st)) : Go x wd Z EL R Q T pc ls st := by
  obtain ⟨hd, rfl⟩ := hd
  exact w.goT (fun s0 L X hx hZ ho hb hm e0 => RoadKit.getS (host := "") X hx hZ ho wl Via.refl e0 (w.sta F) (g := mkF x.m pc ls st) rfl (Jvm.hb hb hd)) K
theorem W.getF (w : W x wd l Z EL R own code mx ret nm T h k n sf) {i : Nat} {a : Addr} {O f d : String} {v : Value} (hd : Dc code pc (.getfield i) 3 pc') (wl : (Jvm.Cond.fieldLink own i O f d).before a0 Z = true) (F : Fld Z h a O f d v) (K : ∀ T', W x wd l Z EL R own code mx ret nm T' h k n sf → Go x wd Z EL R Q T' pc' ls (v :: st)) : Go x wd Z EL R Q T pc ls (.ref a :: st) := by
  obtain ⟨hd, rfl⟩ := hd
  exact w.goT (fun s0 L X hx hZ ho hb hm e0 => RoadKit.getF (host := "") X hx hZ ho (Or.inl wl) Via.refl e0 F (g := mkF x.m pc ls (.ref a :: st)) rfl rfl (Jvm.hb hb hd)) K
theorem W.cast (w : W x wd l Z EL R own code mx ret nm T h k n sf) {i : Nat} {a : Addr} {C : String} (hd : Dc code pc (.checkcast i) 3 pc') (wl : (Jvm.Cond.classLink own i C).before a0 Z = true) (F : Ins Z h a C true) (K : ∀ T', W x wd l Z EL R own code mx ret nm T' h k n sf → Go x wd Z EL R Q T' pc' ls (.ref a :: st)) : Go x wd Z EL R Q T pc ls (.ref a :: st) := by
  obtain ⟨hd, rfl⟩ := hd
  exact w.goT (fun s0 L X hx hZ ho hb hm e0 => castY X hx hZ ho wl e0 F (g := mkF x.m pc ls (.ref a :: st)) rfl rfl (Jvm.hb hb hd)) K
theorem W.instY (w : W x wd l Z EL R own code mx ret nm T h k n sf) {i : Nat} {a : Addr} {C : String} (hd : Dc code pc (.instanceof i) 3 pc') (wl : (Jvm.Cond.classLink own i C).before a0 Z = true) (F : Ins Z h a C true) (K : ∀ T', W x wd l Z EL R own code mx ret nm T' h k n sf → Go x wd Z EL R Q T' pc' ls (.int 1 :: st)) : Go x wd Z EL R Q T pc ls (.ref a :: st) := by
  obtain ⟨hd, rfl⟩ := hd
  exact w.goT (fun s0 L X hx hZ ho hb hm e0 => RoadKit.instY X hx hZ ho wl e0 F (g := mkF x.m pc ls (.ref a :: st)) rfl rfl (Jvm.hb hb hd)) K
theorem W.initO (w : W x wd l Z EL R own code mx ret nm T h k n sf) {i : Nat} {a : Addr} (Wn : Nat) (hd : Dc code pc (.invokespecial i) 3 pc') (w1 : (Jvm.Cond.methodLink own i Lib.objectInit).before a0 Z = true) (w2 : (Jvm.Cond.instanceMethod Lib.objectInit).before a0 Z = true) (w3 : (Jvm.Cond.code Lib.objectInit ⟨#[0xb1]⟩ 1 none).before a0 Z = true) (hz : ls.size = mx) (hW : (st.map fun v => v.category).sum ≤ Wn) (hr : 1 ≤ R.frames ∧ Wn + 12 ≤ R.locals) (K : ∀ T', W x wd l Z EL R own code mx ret nm T' h k n sf → Go x wd Z EL R Q T' pc' ls st) : Go x wd Z EL R Q T pc ls (.ref a :: st) := by
  obtain ⟨hd, rfl⟩ := hd
  exact w.goT (fun s0 L X hx hZ ho hb hm e0 => RoadKit.initO X hx hZ ho w1 w2 w3 e0 (g := mkF x.m pc ls (.ref a :: st)) rfl (hz.trans hm.symm) rfl (Jvm.hb hb hd) hr.1 (W := Wn) (by show 2 * 0 + _ ≤ _; omega) hr.2) K
theorem W.alen (w : W x wd l Z EL R own code mx ret nm T h k n sf) {a : Addr} {cl : Cell} {ty : FieldType} (v : Int32) (hd : Dc code pc .arraylength 1 pc') (A : Arr Z h a cl ty) (hv : cl.slots.size.toInt32 = v) (K : Go x wd Z EL R Q T pc' ls (.int v :: st)) : Go x wd Z EL R Q T pc ls (.ref a :: st) := by
  obtain ⟨hd, rfl⟩ := hd
  subst hv
  obtain ⟨hx, hb, hm, hr, hn, hl, e0, E, c1, c2, hs, hEL, L, vm0, N, g, X, S, hZ, ho, hC⟩ := w
  obtain ⟨s₂, o, a1, r⟩ := K
  exact ⟨s₂, o, X.arraylength hx (by rw [e0]; exact A.1) (State.isArrayOf_alike (T := x.s.setVm vm0) hZ.alike A.2.1) (g := mkF x.m pc ls (.ref a :: st)) rfl rfl (Jvm.hb hb hd) _ a1, r⟩
theorem W.iaload (w : W x wd l Z EL R own code mx ret nm T h k n sf) {a : Addr} {cl : Cell} {j : Int32} {v : Value} (hd : Dc code pc .iaload 1 pc') (A : Arr Z h a cl .int) (hj : ¬ (j < 0 ∨ cl.slots.size ≤ j.toNatClampNeg)) (hv : cl.slots[j.toNatClampNeg]? = some v) (K : Go x wd Z EL R Q T pc' ls (v :: st)) : Go x wd Z EL R Q T pc ls (.int j :: .ref a :: st) := by
  obtain ⟨hd, rfl⟩ := hd
  obtain ⟨hx, hb, hm, hr, hn, hl, e0, E, c1, c2, hs, hEL, L, vm0, N, g, X, S, hZ, ho, hC⟩ := w
  obtain ⟨s₂, o, a1, r⟩ := K
  exact ⟨s₂, o, X.iaload hx (by rw [e0]; exact A.1) (State.isArrayOf_alike (T := x.s.setVm vm0) hZ.alike A.2.1) A.2.2 hj hv (g := mkF x.m pc ls (.int j :: .ref a :: st)) rfl rfl (Jvm.hb hb hd) _ a1, r⟩
theorem W.caload (w : W x wd l Z EL R own code mx ret nm T h k n sf) {a : Addr} {cl : Cell} {j : Int32} {v : Value} (hd : Dc code pc .caload 1 pc') (A : Arr Z h a cl .char) (hj : ¬ (j < 0 ∨ cl.slots.size ≤ j.toNatClampNeg)) (hv : cl.slots[j.toNatClampNeg]? = some v) (K : Go x wd Z EL R Q T pc' ls (v :: st)) : Go x wd Z EL R Q T pc ls (.int j :: .ref a :: st) := by
  obtain ⟨hd, rfl⟩ := hd
  obtain ⟨hx, hb, hm, hr, hn, hl, e0, E, c1, c2, hs, hEL, L, vm0, N, g, X, S, hZ, ho, hC⟩ := w
  obtain ⟨s₂, o, a1, r⟩ := K
  exact ⟨s₂, o, X.caload hx (by rw [e0]; exact A.1) (State.isArrayOf_alike (T := x.s.setVm vm0) hZ.alike A.2.1) A.2.2 hj hv (g := mkF x.m pc ls (.int j :: .ref a :: st)) rfl rfl (Jvm.hb hb hd) _ a1, r⟩
theorem W.baload (w : W x wd l Z EL R own code mx ret nm T h k n sf) {a : Addr} {cl : Cell} {j : Int32} {v : Value} (hd : Dc code pc .baload 1 pc') (A : Arr Z h a cl .byte) (hj : ¬ (j < 0 ∨ cl.slots.size ≤ j.toNatClampNeg)) (hv : cl.slots[j.toNatClampNeg]? = some v) (K : Go x wd Z EL R Q T pc' ls (v :: st)) : Go x wd Z EL R Q T pc ls (.int j :: .ref a :: st) := by
  obtain ⟨hd, rfl⟩ := hd
  obtain ⟨hx, hb, hm, hr, hn, hl, e0, E, c1, c2, hs, hEL, L, vm0, N, g, X, S, hZ, ho, hC⟩ := w
  obtain ⟨s₂, o, a1, r⟩ := K
  exact ⟨s₂, o, X.baloadBytes hx (by rw [e0]; exact A.1) (State.isArrayOf_alike (T := x.s.setVm vm0) hZ.alike A.2.1) A.2.2 hj hv (g := mkF x.m pc ls (.int j :: .ref a :: st)) rfl rfl (Jvm.hb hb hd) _ a1, r⟩
theorem W.laload (w : W x wd l Z EL R own code mx ret nm T h k n sf) {a : Addr} {cl : Cell} {j : Int32} {v : Value} (hd : Dc code pc .laload 1 pc') (A : Arr Z h a cl .long) (hj : ¬ (j < 0 ∨ cl.slots.size ≤ j.toNatClampNeg)) (hv : cl.slots[j.toNatClampNeg]? = some v) (K : Go x wd Z EL R Q T pc' ls (v :: st)) : Go x wd Z EL R Q T pc ls (.int j :: .ref a :: st) := by
  obtain ⟨hd, rfl⟩ := hd
  obtain ⟨hx, hb, hm, hr, hn, hl, e0, E, c1, c2, hs, hEL, L, vm0, N, g, X, S, hZ, ho, hC⟩ := w
  obtain ⟨s₂, o, a1, r⟩ := K
  exact ⟨s₂, o, X.laload hx (by rw [e0]; exact A.1) (State.isArrayOf_alike (T := x.s.setVm vm0) hZ.alike A.2.1) A.2.2 hj hv (g := mkF x.m pc ls (.int j :: .ref a :: st)) rfl rfl (Jvm.hb hb hd) _ a1, r⟩
theorem W.aaload (w : W x wd l Z EL R own code mx ret nm T h k n sf) {a : Addr} {cl : Cell} {j : Int32} {v : Value} {ty : FieldType} (hd : Dc code pc .aaload 1 pc') (A : Arr Z h a cl ty) (hty : ty.isReference = true) (hj : ¬ (j < 0 ∨ cl.slots.size ≤ j.toNatClampNeg)) (hv : cl.slots[j.toNatClampNeg]? = some v) (K : Go x wd Z EL R Q T pc' ls (v :: st)) : Go x wd Z EL R Q T pc ls (.int j :: .ref a :: st) := by
  obtain ⟨hd, rfl⟩ := hd
  obtain ⟨hx, hb, hm, hr, hn, hl, e0, E, c1, c2, hs, hEL, L, vm0, N, g, X, S, hZ, ho, hC⟩ := w
  obtain ⟨s₂, o, a1, r⟩ := K
  exact ⟨s₂, o, X.aaload hx (by rw [e0]; exact A.1) (State.isArrayOf_alike (T := x.s.setVm vm0) hZ.alike A.2.1) hty A.2.2 hj hv (g := mkF x.m pc ls (.int j :: .ref a :: st)) rfl rfl (Jvm.hb hb hd) _ a1, r⟩
theorem W.new (w : W x wd l Z EL R own code mx ret nm T h k n sf) {i nf : Nat} {C : String} (hd : Dc code pc (.new i) 3 pc') (w1 : (Jvm.Cond.classLink own i C).before a0 Z = true) (w2 : (Jvm.Cond.instantiable C nf).before a0 Z = true) (w3 : (Jvm.Cond.initialized C).before a0 Z = true) (hr : k + 1 ≤ R.cells ∧ n + nf ≤ R.slots) (K : ∀ (a : Addr) T' h', a = h.size → W x wd l Z EL R own code mx ret nm T' h' (k + 1) (n + nf) (a :: sf) → Ext h h' → Exa Z h' a C → (∀ {O f d : String} {ty : FieldType}, Laid Z a0 C O f d → parseFieldDescriptor d = some ty → Fld Z h' a O f d (defaultValue ty)) → Go x wd Z EL R Q T' (pc') ls (.ref a :: st)) : Go x wd Z EL R Q T pc ls st := by
  obtain ⟨hd, rfl⟩ := hd
  refine w.goN (P := fun h' => Exa Z h' h.size C ∧ (∀ {O f d : String} {ty : FieldType}, Laid Z a0 C O f d → parseFieldDescriptor d = some ty → Fld Z h' h.size O f d (defaultValue ty))) hr.1 hr.2 (fun s0 L X hx hZ ho hb hm e0 => ?_) (fun T' h' w' E P => K h.size T' h' rfl w' E P.1 P.2)
  obtain ⟨T', h', X', e', E', A, D, -, stp⟩ := newO X hx hZ ho w1 w2 w3 e0 (g := mkF x.m pc ls st) rfl (Jvm.hb hb hd) hr.1 hr.2
  exact ⟨T', h', X', e', E', A.lt, ⟨A, D⟩, stp⟩
theorem W.newP (w : W x wd l Z EL R own code mx ret nm T h k n sf) {aty : ArrayType} {z : Int32} (cap : Nat) (ad : String) (hd : Dc code pc (.newarray aty) 2 pc') (w1 : (Jvm.Cond.arrayClass (newarray.typeOf aty)).before a0 Z = true) (hz : ¬ z < 0) (hcap : z.toNatClampNeg ≤ cap) (hbig : cap * 8 ≤ 536870912) (had : "[" ++ (newarray.typeOf aty).toString = ad) (hr : k + 1 ≤ R.cells ∧ n + cap ≤ R.slots) (K : ∀ (a : Addr) T' h' kc, a = h.size → W x wd l Z EL R own code mx ret nm T' h' (k + 1) (n + cap) (a :: sf) → Ext h h' → Arv Z h' a kc (newarray.typeOf aty) z [] (defaultValue (newarray.typeOf aty)) → Exa Z h' a ad → Go x wd Z EL R Q T' (pc') ls (.ref a :: st)) : Go x wd Z EL R Q T pc ls (.int z :: st) := by
  obtain ⟨hd, rfl⟩ := hd
  refine w.goN (P := fun h' => ∃ kc, Arv Z h' h.size kc (newarray.typeOf aty) z [] (defaultValue (newarray.typeOf aty)) ∧ Exa Z h' h.size ad) hr.1 hr.2 (fun s0 L X hx hZ ho hb hm e0 => ?_) (fun T' h' w' E ⟨kc, P1, P2⟩ => K h.size T' h' kc rfl w' E P1 P2)
  obtain ⟨T', h', cA, X', e', E', A, EA, stp⟩ := newPE X hx hZ w1 e0 (g := mkF x.m pc ls (.int z :: st)) rfl (Jvm.hb hb hd) rfl hz hcap hbig hr.1 hr.2 had
  exact ⟨T', h', X', e', E', EA.lt, ⟨cA, Arv.new A hz, EA⟩, stp⟩
theorem W.newR (w : W x wd l Z EL R own code mx ret nm T h k n sf) {i : Nat} {C : String} {z : Int32} (cap : Nat) (ad : String) (hd : Dc code pc (.anewarray i) 3 pc') (w1 : (Jvm.Cond.classLink own i C).before a0 Z = true) (w2 : (Jvm.Cond.arrayOver (.object C)).before a0 Z = true) (hz : ¬ z < 0) (hcap : z.toNatClampNeg ≤ cap) (hbig : cap * 8 ≤ 536870912) (had : "[" ++ (FieldType.object C).toString = ad) (hr : k + 1 ≤ R.cells ∧ n + cap ≤ R.slots) (K : ∀ (a : Addr) T' h' kc, a = h.size → W x wd l Z EL R own code mx ret nm T' h' (k + 1) (n + cap) (a :: sf) → Ext h h' → Arv Z h' a kc (.object C) z [] .null → Exa Z h' a ad → Ovr Z kc C → Go x wd Z EL R Q T' (pc') ls (.ref a :: st)) : Go x wd Z EL R Q T pc ls (.int z :: st) := by
  obtain ⟨hd, rfl⟩ := hd
  refine w.goN (P := fun h' => ∃ kc, Arv Z h' h.size kc (.object C) z [] .null ∧ Exa Z h' h.size ad ∧ Ovr Z kc C) hr.1 hr.2 (fun s0 L X hx hZ ho hb hm e0 => ?_) (fun T' h' w' E ⟨kc, P1, P2, P3⟩ => K h.size T' h' kc rfl w' E P1 P2 P3)
  obtain ⟨T', h', cA, X', e', E', A, EA, O, stp⟩ := newRE X hx hZ ho w1 w2 e0 (g := mkF x.m pc ls (.int z :: st)) rfl (Jvm.hb hb hd) rfl hz hcap hbig hr.1 hr.2 had
  exact ⟨T', h', X', e', E', EA.lt, ⟨cA, Arv.new A hz, EA, O⟩, stp⟩
theorem W.clone (w : W x wd l Z EL R own code mx ret nm T h k n sf) {i : Nat} {a : Addr} {ad : String} {kc : ClassId} {ty : FieldType} {z : Int32} {vs : List Value} {dv : Value} (Wn cap : Nat) (hd : Dc code pc (.invokevirtual i) 3 pc') (w1 : (Jvm.Cond.methodLink own i ⟨ad, "clone", "()Ljava/lang/Object;"⟩).before a0 Z = true) (w2 : (Jvm.Cond.sameMethod ad "java/lang/Object" "clone" "()Ljava/lang/Object;").before a0 Z = true) (w3 : (Jvm.Cond.native ⟨"java/lang/Object", "clone", "()Ljava/lang/Object;"⟩).before a0 Z = true) (w4 : (Jvm.Cond.instanceMethod ⟨"java/lang/Object", "clone", "()Ljava/lang/Object;"⟩).before a0 Z = true) (w5 : (Jvm.Cond.selects ad ⟨ad, "clone", "()Ljava/lang/Object;"⟩ ⟨"java/lang/Object", "clone", "()Ljava/lang/Object;"⟩).before a0 Z = true) (w6 : (Jvm.Cond.castable ad "java/lang/Cloneable").before a0 Z = true) (A : Arv Z h a kc ty z vs dv) (E : Exa Z h a ad) (hz : ls.size = mx) (hW : (st.map fun v => v.category).sum ≤ Wn) (hcap : z.toNatClampNeg ≤ cap) (hr : 1 ≤ R.frames ∧ Wn + 14 ≤ R.locals ∧ k + 1 ≤ R.cells ∧ n + cap ≤ R.slots) (K : ∀ (b : Addr) T' h', b = h.size → W x wd l Z EL R own code mx ret nm T' h' (k + 1) (n + cap) (b :: sf) → Ext h h' → Arv Z h' b kc ty z vs dv → Exa Z h' b ad → Go x wd Z EL R Q T' (pc') ls (.ref b :: st)) : Go x wd Z EL R Q T pc ls (.ref a :: st) := by
  obtain ⟨hd, rfl⟩ := hd
  refine w.goN (P := fun h' => Arv Z h' h.size kc ty z vs dv ∧ Exa Z h' h.size ad) hr.2.2.1 hr.2.2.2 (fun s0 L X hx hZ ho hb hm e0 => ?_) (fun T' h' w' E P => K h.size T' h' rfl w' E P.1 P.2)
  obtain ⟨T', h', X', e', E', A', EA, stp⟩ := cloneH X hx hZ ho w1 w2 w3 w4 w5 w6 e0 A.arh E (g := mkF x.m pc ls (.ref a :: st)) rfl (hz.trans hm.symm) rfl (Jvm.hb hb hd) hr.1 (W := Wn) (by show 2 * 0 + _ ≤ _; omega) hr.2.1 hcap hr.2.2.1 hr.2.2.2
  exact ⟨T', h', X', e', E', EA.lt, ⟨A', EA⟩, stp⟩
theorem W.putF (w : W x wd l Z EL R own code mx ret nm T h k n sf) {i kk : Nat} {a : Addr} {O f d C : String} {v old : Value} {ty : FieldType} (hd : Dc code pc (.putfield i) 3 pc') (wl : (Jvm.Cond.fieldLink own i O f d).before a0 Z = true) (F : Fld Z h a O f d old) (E : Exa Z h a C) (La : (Jvm.Cond.lays C O f d).before a0 Z = true ∨ ((Jvm.Cond.laysFinal C O f d).before a0 Z = true ∧ own = O ∧ nm = "<init>")) (wi : (Jvm.Cond.instantiable C kk).before a0 Z = true) (hty : parseFieldDescriptor d = some ty) (hn : narrow ty v = v) (hf : fits ty v = true) (ha : a ∈ sf) (K : ∀ T' h', W x wd l Z EL R own code mx ret nm T' h' k n sf → Wr h h' a (Jvm.RoadKit.slotOf Z O f d) v → Go x wd Z EL R Q T' pc' ls st) : Go x wd Z EL R Q T pc ls (v :: .ref a :: st) := by
  obtain ⟨hd, rfl⟩ := hd
  exact w.goW ha (fun s0 L X hx hZ ho hb hnm e0 => RoadKit.putF X hx hZ ho (host := "") (Or.inl wl) Via.refl e0 F E (La.imp id fun q => ⟨q.1, q.2.1, hnm.trans q.2.2⟩) wi hty hn hf (g := mkF x.m pc ls (v :: .ref a :: st)) rfl rfl (Jvm.hb hb hd)) K
theorem W.stC (w : W x wd l Z EL R own code mx ret nm T h k n sf) {a : Addr} {kc : ClassId} {z j v : Int32} {vs : List Value} {dv : Value} (q : Nat) (vs' : List Value) (hd : Dc code pc .castore 1 pc') (A : Arv Z h a kc .char z vs dv) (hj : j.toNatClampNeg = q ∧ ¬ j < 0) (hz : q < z.toNatClampNeg) (hp : ∀ i, vs'.getD i dv = vs.getD i dv) (hq : q < vs'.length) (hf : fits .char (.int (nar .char v)) = true) (ha : a ∈ sf) (K : ∀ T' h', W x wd l Z EL R own code mx ret nm T' h' k n sf → Wr h h' a q (.int (nar .char v)) → Arv Z h' a kc .char z (vs'.set q (.int (nar .char v))) dv → Go x wd Z EL R Q T' pc' ls st) : Go x wd Z EL R Q T pc ls (.int v :: .int j :: .ref a :: st) := by
  obtain ⟨hd, rfl⟩ := hd
  obtain ⟨hj, h0⟩ := hj
  subst hj
  obtain ⟨cl, Ar, r1, S, r3, H, G⟩ := A.pad hp
  have hin : ¬ (j < 0 ∨ cl.slots.size ≤ j.toNatClampNeg) := by rw [S]; exact fun u => u.elim h0 fun u => absurd hz (Nat.not_lt.mpr u)
  refine w.goW ha (fun s0 L X hx hZ ho hb hnm e0 => RoadKit.stC X hx hZ e0 Ar hin (g := mkF x.m pc ls (.int v :: .int j :: .ref a :: st)) rfl rfl (Jvm.hb hb hd)) (fun T' h' w' Wr' => K T' h' w' Wr' (Arv.set Ar r1 S r3 H G hf Wr' _ rfl hq))
theorem W.stB (w : W x wd l Z EL R own code mx ret nm T h k n sf) {a : Addr} {kc : ClassId} {z j v : Int32} {vs : List Value} {dv : Value} (q : Nat) (vs' : List Value) (hd : Dc code pc .bastore 1 pc') (A : Arv Z h a kc .byte z vs dv) (hj : j.toNatClampNeg = q ∧ ¬ j < 0) (hz : q < z.toNatClampNeg) (hp : ∀ i, vs'.getD i dv = vs.getD i dv) (hq : q < vs'.length) (hf : fits .byte (.int (nar .byte v)) = true) (ha : a ∈ sf) (K : ∀ T' h', W x wd l Z EL R own code mx ret nm T' h' k n sf → Wr h h' a q (.int (nar .byte v)) → Arv Z h' a kc .byte z (vs'.set q (.int (nar .byte v))) dv → Go x wd Z EL R Q T' pc' ls st) : Go x wd Z EL R Q T pc ls (.int v :: .int j :: .ref a :: st) := by
  obtain ⟨hd, rfl⟩ := hd
  obtain ⟨hj, h0⟩ := hj
  subst hj
  obtain ⟨cl, Ar, r1, S, r3, H, G⟩ := A.pad hp
  have hin : ¬ (j < 0 ∨ cl.slots.size ≤ j.toNatClampNeg) := by rw [S]; exact fun u => u.elim h0 fun u => absurd hz (Nat.not_lt.mpr u)
  refine w.goW ha (fun s0 L X hx hZ ho hb hnm e0 => RoadKit.stB X hx hZ e0 Ar hin (g := mkF x.m pc ls (.int v :: .int j :: .ref a :: st)) rfl rfl (Jvm.hb hb hd)) (fun T' h' w' Wr' => K T' h' w' Wr' (Arv.set Ar r1 S r3 H G hf Wr' _ rfl hq))
theorem W.stI (w : W x wd l Z EL R own code mx ret nm T h k n sf) {a : Addr} {kc : ClassId} {z j v : Int32} {vs : List Value} {dv : Value} (q : Nat) (vs' : List Value) (hd : Dc code pc .iastore 1 pc') (A : Arv Z h a kc .int z vs dv) (hj : j.toNatClampNeg = q ∧ ¬ j < 0) (hz : q < z.toNatClampNeg) (hp : ∀ i, vs'.getD i dv = vs.getD i dv) (hq : q < vs'.length) (hf : fits .int (.int v) = true) (ha : a ∈ sf) (K : ∀ T' h', W x wd l Z EL R own code mx ret nm T' h' k n sf → Wr h h' a q (.int v) → Arv Z h' a kc .int z (vs'.set q (.int v)) dv → Go x wd Z EL R Q T' pc' ls st) : Go x wd Z EL R Q T pc ls (.int v :: .int j :: .ref a :: st) := by
  obtain ⟨hd, rfl⟩ := hd
  obtain ⟨hj, h0⟩ := hj
  subst hj
  obtain ⟨cl, Ar, r1, S, r3, H, G⟩ := A.pad hp
  have hin : ¬ (j < 0 ∨ cl.slots.size ≤ j.toNatClampNeg) := by rw [S]; exact fun u => u.elim h0 fun u => absurd hz (Nat.not_lt.mpr u)
  refine w.goW ha (fun s0 L X hx hZ ho hb hnm e0 => RoadKit.stI X hx hZ e0 Ar hin (g := mkF x.m pc ls (.int v :: .int j :: .ref a :: st)) rfl rfl (Jvm.hb hb hd)) (fun T' h' w' Wr' => K T' h' w' Wr' (Arv.set Ar r1 S r3 H G hf Wr' _ rfl hq))
theorem W.stR (w : W x wd l Z EL R own code mx ret nm T h k n sf) {a b : Addr} {kc : ClassId} {z j : Int32} {C : String} {vs : List Value} (q : Nat) (vs' : List Value) (hd : Dc code pc .aastore 1 pc') (A : Arv Z h a kc (.object C) z vs .null) (O : Ovr Z kc C) (I : Ins Z h b C true) (hj : j.toNatClampNeg = q ∧ ¬ j < 0) (hz : q < z.toNatClampNeg) (hp : ∀ i, vs'.getD i .null = vs.getD i .null) (hq : q < vs'.length) (ha : a ∈ sf) (K : ∀ T' h', W x wd l Z EL R own code mx ret nm T' h' k n sf → Wr h h' a q (.ref b) → Arv Z h' a kc (.object C) z (vs'.set q (.ref b)) .null → Go x wd Z EL R Q T' pc' ls st) : Go x wd Z EL R Q T pc ls (.ref b :: .int j :: .ref a :: st) := by
  obtain ⟨hd, rfl⟩ := hd
  obtain ⟨hj, h0⟩ := hj
  subst hj
  obtain ⟨cl, Ar, r1, S, r3, H, G⟩ := A.pad hp
  have hin : ¬ (j < 0 ∨ cl.slots.size ≤ j.toNatClampNeg) := by rw [S]; exact fun u => u.elim h0 fun u => absurd hz (Nat.not_lt.mpr u)
  refine w.goW ha (fun s0 L X hx hZ ho hb hnm e0 => RoadKit.stR X hx hZ e0 Ar hin rfl (Sto.ofV Ar r1 O I) (g := mkF x.m pc ls (.ref b :: .int j :: .ref a :: st)) rfl rfl (Jvm.hb hb hd)) (fun T' h' w' Wr' => K T' h' w' Wr' (Arv.set Ar r1 S r3 H G rfl Wr' _ rfl hq))
theorem W.retN (w : W x wd l Z EL R own code mx ret nm T h k n sf) {t : FieldType} {v : Int32} (hd : Dc code pc .ireturn 1 pc') (hr : ret = some t) (ht : t = .boolean ∨ t = .byte ∨ t = .char ∨ t = .short) (hQ : Q (some (.int (nar t v))) h) : Go x wd Z EL R Q T pc ls (.int v :: st) := by
  obtain ⟨hd, rfl⟩ := hd
  exact w.done (v := some (.int (nar t v))) (fun q => by rw [hr] at q; cases q) hQ fun s0 L X hx hb hret fs hl => RoadKit.retN X hx (hret.trans hr) ht (Jvm.hb hb hd) hl
theorem W.retI (w : W x wd l Z EL R own code mx ret nm T h k n sf) {v : Int32} (hd : Dc code pc .ireturn 1 pc') (hr : ret = some .int) (hQ : Q (some (.int v)) h) : Go x wd Z EL R Q T pc ls (.int v :: st) := by
  obtain ⟨hd, rfl⟩ := hd
  exact w.done (v := some (.int v)) (fun q => by rw [hr] at q; cases q) hQ fun s0 L X hx hb hret fs hl => retOut X hx (hret.trans hr) rfl (Or.inl ⟨rfl, Or.inl rfl, v, rfl⟩) (Jvm.hb hb hd) hl
theorem W.retA (w : W x wd l Z EL R own code mx ret nm T h k n sf) {t : FieldType} {v : Value} (hd : Dc code pc .areturn 1 pc') (hr : ret = some t) (ht : t.isReference = true) (hn : narrow t v = v) (hv : v.isRef = true) (hQ : Q (some v) h) : Go x wd Z EL R Q T pc ls (v :: st) := by
  obtain ⟨hd, rfl⟩ := hd
  exact w.done (v := some v) (fun q => by rw [hr] at q; cases q) hQ fun s0 L X hx hb hret fs hl => retOut X hx (hret.trans hr) hn (Or.inr (Or.inr (Or.inr (Or.inr ⟨rfl, ht, hv⟩)))) (Jvm.hb hb hd) hl
theorem W.retV (w : W x wd l Z EL R own code mx ret nm T h k n sf) (hd : Dc code pc .return_ 1 pc') (hr : ret = none) (hQ : Q none h) : Go x wd Z EL R Q T pc ls [] := by
  obtain ⟨hd, rfl⟩ := hd
  exact w.done (v := none) (fun _ => rfl) hQ fun s0 L X hx hb hret fs hl => X.returnOut hx (hret.trans hr) (Jvm.hb hb hd) hl
theorem W.callS (w : W x wd l Z EL R own code mx ret nm T h k n sf) {y : MethodName} {bytes : ByteArray} {maxL : Nat} {rt : Option FieldType} {rm : Room} {sf0 : List Addr} {Q' : Option Value → Heap → Prop} {i : Nat} {argsL rest : List Value}  (Wn : Nat) (hd : Dc code pc (.invokestatic i) 3 pc') (w1 : (Jvm.Cond.methodLink own i y).before a0 Z = true) (w2 : (Jvm.Cond.static y).before a0 Z = true) (w3 : (Jvm.Cond.initialized y.cls).before a0 Z = true) (w4 : (Jvm.Cond.code y bytes maxL rt).before a0 Z = true) (hy : y.cls ≠ "java/lang/invoke/MethodHandle" ∧ y.cls ≠ "java/lang/invoke/VarHandle") (C : Ct wd l Z EL y bytes maxL rt [] rm sf0 argsL.toArray h Q') (hlen : ∀ sig, parseMethodDescriptor y.desc = some sig → argsL.length = sig.parameters.length) (hz : ls.size = mx) (hst : st = argsL.reverse ++ rest) (hW : (rest.map fun v => v.category).sum ≤ Wn) (hr : rm.frames + 1 ≤ R.frames ∧ Wn + (maxL + 11) + rm.locals ≤ R.locals ∧ k + rm.cells ≤ R.cells ∧ n + rm.slots ≤ R.slots) (hsub : ∀ y ∈ sf0, y ∈ sf) (K : ∀ T' h' v, W x wd l Z EL R own code mx ret nm T' h' (k + rm.cells) (n + rm.slots) sf → h.size ≤ h'.size → Q' v h' → Go x wd Z EL R Q T' pc' ls (v.toList ++ rest)) : Go x wd Z EL R Q T pc ls st := by
  obtain ⟨hd, rfl⟩ := hd
  subst hst
  obtain ⟨hx, hb, hm, hret, hn, hl, e0, E, c1, c2, hs, hEL, L, vm0, N, g, X, S, hZ, ho, hC⟩ := w
  have hWW : 2 * (mkF x.m pc ls (argsL.reverse ++ rest)).monitorRoom + (rest.map fun v => v.category).sum ≤ Wn := by show 2 * 0 + _ ≤ _; omega
  cases wd with
  | false =>
    have eq := g rfl
    subst eq
    obtain ⟨v, _, ⟨T1, L1, k1, n1⟩, -, X1, ⟨Lc, hQ, l1, y1, z1⟩, stp⟩ := Jvm.LawKit.callS X hx (y := y) ho (mvT hZ w1) (mvT hZ w2) (mvT hZ w3) (mvT hZ w4) hy (backN (Wn := Wn) C hZ w4 w3 hr.1 hr.2.1) (g := mkF x.m pc ls (argsL.reverse ++ rest)) rfl (hz.trans hm.symm) (argsL := argsL) (rest := rest) hlen rfl hWW (Jvm.hb hb hd) (fun _ _ => ⟨rfl, e0, hr.2.2.1, hr.2.2.2⟩)
    dsimp only [Pt.U, Pt.locs, Pt.cells, Pt.slots] at X1 l1 y1 z1 stp hQ
    subst l1 y1 z1
    obtain ⟨s₂, o, a1, r⟩ := K T1 T1.heap v ⟨hx, hb, hm, hret, hn, hl, rfl, hQ.2.2.1, hr.2.2.1, hr.2.2.2, fun y hy => ⟨(hs y hy).1, Nat.lt_of_lt_of_le (hs y hy).2 hQ.2.2.2⟩, hEL, _, _, Fr.app N hQ.2.1, fun _ => rfl, X1, (State.WarmedH.refl x.s).since _, hZ, ho, fun q => by cases q⟩ hQ.2.2.2 hQ.1
    exact ⟨s₂, o, stp _ a1, r⟩
  | true =>
    obtain ⟨v, _, ⟨T1, L1, k1, n1⟩, -, X1, hS1, hgr, ⟨Lc, hQ, l1, y1, z1, hCr⟩, stp⟩ := callSS X hx (y := y) ho (mvT (s := x.s.setVm vm0) hZ w1) (mvT (s := x.s.setVm vm0) hZ w2) (mvT (s := x.s.setVm vm0) hZ w3) (mvT (s := x.s.setVm vm0) hZ w4) hy (backW (s := x.s) (Wn := Wn) C hZ w4 w3 hr.1 hr.2.1 hEL (hC rfl).1.1 (fun y hy => ⟨(hs y (hsub y hy)).2, (hC rfl).2 y (hsub y hy)⟩)) (g := mkF x.m pc ls (argsL.reverse ++ rest)) rfl (hz.trans hm.symm) (argsL := argsL) (rest := rest) hlen rfl hWW (Jvm.hb hb hd) (fun _ _ => ⟨rfl, e0, hr.2.2.1, hr.2.2.2⟩)
    dsimp only [Pt.U, Pt.locs, Pt.cells, Pt.slots] at X1 l1 y1 z1 stp hQ hS1 hgr hCr
    subst l1 y1 z1
    rw [e0] at hgr
    obtain ⟨Xr, Sr, Zr, Or⟩ := rebS (s := x.s) (vm0 := vm0) S hgr X1 hS1 (Nat.le_refl _) hZ ho
    obtain ⟨s₂, o, a1, r⟩ := K T1 T1.heap v ⟨hx, hb, hm, hret, hn, hl, rfl, hQ.2.2.1, hr.2.2.1, hr.2.2.2, fun y hy => ⟨(hs y hy).1, Nat.lt_of_lt_of_le (hs y hy).2 hgr⟩, hEL, _, _, Fr.app N hQ.2.1, (fun q => by cases q), Xr, Sr, Zr, Or, fun _ => ⟨(hC rfl).1.trans hCr, fun y hy => hCr.safe (hs y hy).2 ((hC rfl).2 y hy)⟩⟩ hgr hQ.1
    exact ⟨s₂, o, stp.trans a1, r⟩
theorem W.callI (w : W x wd l Z EL R own code mx ret nm T h k n sf) {y : MethodName} {bytes : ByteArray} {maxL : Nat} {rm : Room} {sf0 : List Addr} {Q' : Option Value → Heap → Prop} {i : Nat} {argsL rest : List Value} {a : Addr} (Wn : Nat) (hd : Dc code pc (.invokespecial i) 3 pc') (hy1 : y.name = "<init>") (w1 : (Jvm.Cond.methodLink own i y).before a0 Z = true) (w2 : (Jvm.Cond.instanceMethod y).before a0 Z = true) (w3 : (Jvm.Cond.initialized y.cls).before a0 Z = true) (w4 : (Jvm.Cond.code y bytes maxL none).before a0 Z = true) (hy : y.cls ≠ "java/lang/invoke/MethodHandle" ∧ y.cls ≠ "java/lang/invoke/VarHandle") (C : Ct wd l Z EL y bytes maxL none [] rm sf0 (.ref a :: argsL).toArray h Q') (hlen : ∀ sig, parseMethodDescriptor y.desc = some sig → argsL.length = sig.parameters.length) (hz : ls.size = mx) (hst : st = argsL.reverse ++ .ref a :: rest) (hW : (rest.map fun v => v.category).sum ≤ Wn) (hr : rm.frames + 1 ≤ R.frames ∧ Wn + (maxL + 11) + rm.locals ≤ R.locals ∧ k + rm.cells ≤ R.cells ∧ n + rm.slots ≤ R.slots) (hsub : ∀ y ∈ sf0, y ∈ sf) (K : ∀ T' h' v, W x wd l Z EL R own code mx ret nm T' h' (k + rm.cells) (n + rm.slots) sf → h.size ≤ h'.size → Q' v h' → Go x wd Z EL R Q T' pc' ls (v.toList ++ rest)) : Go x wd Z EL R Q T pc ls st := by
  obtain ⟨hd, rfl⟩ := hd
  subst hst
  obtain ⟨hx, hb, hm, hret, hn, hl, e0, E, c1, c2, hs, hEL, L, vm0, N, g, X, S, hZ, ho, hC⟩ := w
  have hWW : 2 * (mkF x.m pc ls (argsL.reverse ++ .ref a :: rest)).monitorRoom + (rest.map fun v => v.category).sum ≤ Wn := by show 2 * 0 + _ ≤ _; omega
  cases wd with
  | false =>
    have eq := g rfl
    subst eq
    obtain ⟨v, _, ⟨T1, L1, k1, n1⟩, -, X1, ⟨Lc, hQ, l1, y1, z1⟩, stp⟩ := X.specialBack hx (y := y) hy1 ho (mvT hZ w1) (mvT hZ w2) (mvT hZ w4) hy (backN (Wn := Wn) C hZ w4 w3 hr.1 hr.2.1) (g := mkF x.m pc ls (argsL.reverse ++ .ref a :: rest)) rfl (hz.trans hm.symm) (Steps.refl _) (a := a) (argsL := argsL) (rest := rest) hlen rfl hWW (Jvm.hb hb hd) (fun _ _ => ⟨rfl, e0, hr.2.2.1, hr.2.2.2⟩)
    dsimp only [Pt.U, Pt.locs, Pt.cells, Pt.slots] at X1 l1 y1 z1 stp hQ
    subst l1 y1 z1
    obtain ⟨s₂, o, a1, r⟩ := K T1 T1.heap v ⟨hx, hb, hm, hret, hn, hl, rfl, hQ.2.2.1, hr.2.2.1, hr.2.2.2, fun y hy => ⟨(hs y hy).1, Nat.lt_of_lt_of_le (hs y hy).2 hQ.2.2.2⟩, hEL, _, _, Fr.app N hQ.2.1, fun _ => rfl, X1, (State.WarmedH.refl x.s).since _, hZ, ho, fun q => by cases q⟩ hQ.2.2.2 hQ.1
    exact ⟨s₂, o, stp.trans a1, r⟩
  | true =>
    obtain ⟨v, _, ⟨T1, L1, k1, n1⟩, -, X1, hS1, hgr, ⟨Lc, hQ, l1, y1, z1, hCr⟩, stp⟩ := X.specialBackS hx (y := y) hy1 ho (mvT (s := x.s.setVm vm0) hZ w1) (mvT (s := x.s.setVm vm0) hZ w2) (mvT (s := x.s.setVm vm0) hZ w4) hy (backW (s := x.s) (Wn := Wn) C hZ w4 w3 hr.1 hr.2.1 hEL (hC rfl).1.1 (fun y hy => ⟨(hs y (hsub y hy)).2, (hC rfl).2 y (hsub y hy)⟩)) (g := mkF x.m pc ls (argsL.reverse ++ .ref a :: rest)) rfl (hz.trans hm.symm) (Steps.refl _) (a := a) (argsL := argsL) (rest := rest) hlen rfl hWW (Jvm.hb hb hd) (fun _ _ => ⟨rfl, e0, hr.2.2.1, hr.2.2.2⟩)
    dsimp only [Pt.U, Pt.locs, Pt.cells, Pt.slots] at X1 l1 y1 z1 stp hQ hS1 hgr hCr
    subst l1 y1 z1
    rw [e0] at hgr
    obtain ⟨Xr, Sr, Zr, Or⟩ := rebS (s := x.s) (vm0 := vm0) S hgr X1 hS1 (Nat.le_refl _) hZ ho
    obtain ⟨s₂, o, a1, r⟩ := K T1 T1.heap v ⟨hx, hb, hm, hret, hn, hl, rfl, hQ.2.2.1, hr.2.2.1, hr.2.2.2, fun y hy => ⟨(hs y hy).1, Nat.lt_of_lt_of_le (hs y hy).2 hgr⟩, hEL, _, _, Fr.app N hQ.2.1, (fun q => by cases q), Xr, Sr, Zr, Or, fun _ => ⟨(hC rfl).1.trans hCr, fun y hy => hCr.safe (hs y hy).2 ((hC rfl).2 y hy)⟩⟩ hgr hQ.1
    exact ⟨s₂, o, stp.trans a1, r⟩
theorem W.callV (w : W x wd l Z EL R own code mx ret nm T h k n sf) {y : MethodName} {bytes : ByteArray} {maxL : Nat} {rt : Option FieldType} {rm : Room} {sf0 : List Addr} {Q' : Option Value → Heap → Prop} {i : Nat} {argsL rest : List Value} {a : Addr} {Cl : String} (Wn : Nat) (hd : Dc code pc (.invokevirtual i) 3 pc') (w1 : (Jvm.Cond.methodLink own i y).before a0 Z = true) (wd1 : (Jvm.Cond.declares y).before a0 Z = true) (ws : (Jvm.Cond.selects Cl y y).before a0 Z = true) (w2 : (Jvm.Cond.instanceMethod y).before a0 Z = true) (w3 : (Jvm.Cond.initialized y.cls).before a0 Z = true) (w4 : (Jvm.Cond.code y bytes maxL rt).before a0 Z = true) (hy : y.cls ≠ "java/lang/invoke/MethodHandle" ∧ y.cls ≠ "java/lang/invoke/VarHandle") (Ea : Exa Z h a Cl) (C : Ct wd l Z EL y bytes maxL rt [] rm sf0 (.ref a :: argsL).toArray h Q') (hlen : ∀ sig, parseMethodDescriptor y.desc = some sig → argsL.length = sig.parameters.length) (hz : ls.size = mx) (hst : st = argsL.reverse ++ .ref a :: rest) (hW : (rest.map fun v => v.category).sum ≤ Wn) (hr : rm.frames + 1 ≤ R.frames ∧ Wn + (maxL + 11) + rm.locals ≤ R.locals ∧ k + rm.cells ≤ R.cells ∧ n + rm.slots ≤ R.slots) (hsub : ∀ y ∈ sf0, y ∈ sf) (K : ∀ T' h' v, W x wd l Z EL R own code mx ret nm T' h' (k + rm.cells) (n + rm.slots) sf → h.size ≤ h'.size → Q' v h' → Go x wd Z EL R Q T' pc' ls (v.toList ++ rest)) : Go x wd Z EL R Q T pc ls st := by
  obtain ⟨hd, rfl⟩ := hd
  subst hst
  obtain ⟨hx, hb, hm, hret, hn, hl, e0, E, c1, c2, hs, hEL, L, vm0, N, g, X, S, hZ, ho, hC⟩ := w
  have hWW : 2 * (mkF x.m pc ls (argsL.reverse ++ .ref a :: rest)).monitorRoom + (rest.map fun v => v.category).sum ≤ Wn := by show 2 * 0 + _ ≤ _; omega
  obtain ⟨cB, kB, qa, qb, qc⟩ := isOf (s := x.s.setVm vm0) hZ e0 Ea
  cases wd with
  | false =>
    have eq := g rfl
    subst eq
    obtain ⟨v, _, ⟨T1, L1, k1, n1⟩, -, X1, ⟨Lc, hQ, l1, y1, z1⟩, stp⟩ := X.virtualBack hx (y := y) (z := y) ho (mvT hZ w1) (mvT hZ wd1) (notFace_of_selects (args := #[]) (mvT hZ ws)) (mvT hZ ws) (mvT hZ w2) hy (backN (Wn := Wn) C hZ w4 w3 hr.1 hr.2.1) qa qc (g := mkF x.m pc ls (argsL.reverse ++ .ref a :: rest)) rfl (hz.trans hm.symm) (Steps.refl _) (argsL := argsL) (rest := rest) hlen rfl hWW (Jvm.hb hb hd) (fun _ _ => ⟨rfl, e0, hr.2.2.1, hr.2.2.2⟩)
    dsimp only [Pt.U, Pt.locs, Pt.cells, Pt.slots] at X1 l1 y1 z1 stp hQ
    subst l1 y1 z1
    obtain ⟨s₂, o, a1, r⟩ := K T1 T1.heap v ⟨hx, hb, hm, hret, hn, hl, rfl, hQ.2.2.1, hr.2.2.1, hr.2.2.2, fun y hy => ⟨(hs y hy).1, Nat.lt_of_lt_of_le (hs y hy).2 hQ.2.2.2⟩, hEL, _, _, Fr.app N hQ.2.1, fun _ => rfl, X1, (State.WarmedH.refl x.s).since _, hZ, ho, fun q => by cases q⟩ hQ.2.2.2 hQ.1
    exact ⟨s₂, o, stp.trans a1, r⟩
  | true =>
    obtain ⟨v, _, ⟨T1, L1, k1, n1⟩, -, X1, hS1, hgr, ⟨Lc, hQ, l1, y1, z1, hCr⟩, stp⟩ := X.virtualBackS hx (y := y) (z := y) ho (mvT (s := x.s.setVm vm0) hZ w1) (mvT (s := x.s.setVm vm0) hZ wd1) (notFace_of_selects (args := #[]) (mvT (s := x.s.setVm vm0) hZ ws)) (mvT (s := x.s.setVm vm0) hZ ws) (mvT (s := x.s.setVm vm0) hZ w2) hy (backW (s := x.s) (Wn := Wn) C hZ w4 w3 hr.1 hr.2.1 hEL (hC rfl).1.1 (fun y hy => ⟨(hs y (hsub y hy)).2, (hC rfl).2 y (hsub y hy)⟩)) qa qc (g := mkF x.m pc ls (argsL.reverse ++ .ref a :: rest)) rfl (hz.trans hm.symm) (Steps.refl _) (argsL := argsL) (rest := rest) hlen rfl hWW (Jvm.hb hb hd) (fun _ _ => ⟨rfl, e0, hr.2.2.1, hr.2.2.2⟩)
    dsimp only [Pt.U, Pt.locs, Pt.cells, Pt.slots] at X1 l1 y1 z1 stp hQ hS1 hgr hCr
    subst l1 y1 z1
    rw [e0] at hgr
    obtain ⟨Xr, Sr, Zr, Or⟩ := rebS (s := x.s) (vm0 := vm0) S hgr X1 hS1 (Nat.le_refl _) hZ ho
    obtain ⟨s₂, o, a1, r⟩ := K T1 T1.heap v ⟨hx, hb, hm, hret, hn, hl, rfl, hQ.2.2.1, hr.2.2.1, hr.2.2.2, fun y hy => ⟨(hs y hy).1, Nat.lt_of_lt_of_le (hs y hy).2 hgr⟩, hEL, _, _, Fr.app N hQ.2.1, (fun q => by cases q), Xr, Sr, Zr, Or, fun _ => ⟨(hC rfl).1.trans hCr, fun y hy => hCr.safe (hs y hy).2 ((hC rfl).2 y hy)⟩⟩ hgr hQ.1
    exact ⟨s₂, o, stp.trans a1, r⟩
theorem W.callVZ (w : W x wd l Z EL R own code mx ret nm T h k n sf) {y : MethodName} {bytes : ByteArray} {maxL : Nat} {rt : Option FieldType} {rm : Room} {sf0 : List Addr} {Q' : Option Value → Heap → Prop} {i : Nat} {argsL rest : List Value} {a : Addr} {z : MethodName} {Cl Sup : String} (Wn : Nat) (hd : Dc code pc (.invokevirtual i) 3 pc') (w1 : (Jvm.Cond.methodLink own i y).before a0 Z = true) (wd1 : (Jvm.Cond.declares y).before a0 Z = true) (wsp : (Jvm.Cond.superclass y.cls Sup).before a0 Z = true) (ws : (Jvm.Cond.selects Cl y z).before a0 Z = true) (w2 : (Jvm.Cond.instanceMethod z).before a0 Z = true) (w3 : (Jvm.Cond.initialized z.cls).before a0 Z = true) (w4 : (Jvm.Cond.code z bytes maxL rt).before a0 Z = true) (hy : y.cls ≠ "java/lang/invoke/MethodHandle" ∧ y.cls ≠ "java/lang/invoke/VarHandle") (Ea : Exa Z h a Cl) (C : Ct wd l Z EL z bytes maxL rt [] rm sf0 (.ref a :: argsL).toArray h Q') (hlen : ∀ sig, parseMethodDescriptor y.desc = some sig → argsL.length = sig.parameters.length) (hz : ls.size = mx) (hst : st = argsL.reverse ++ .ref a :: rest) (hW : (rest.map fun v => v.category).sum ≤ Wn) (hr : rm.frames + 1 ≤ R.frames ∧ Wn + (maxL + 11) + rm.locals ≤ R.locals ∧ k + rm.cells ≤ R.cells ∧ n + rm.slots ≤ R.slots) (hsub : ∀ y ∈ sf0, y ∈ sf) (K : ∀ T' h' v, W x wd l Z EL R own code mx ret nm T' h' (k + rm.cells) (n + rm.slots) sf → h.size ≤ h'.size → Q' v h' → Go x wd Z EL R Q T' pc' ls (v.toList ++ rest)) : Go x wd Z EL R Q T pc ls st := by
  obtain ⟨hd, rfl⟩ := hd
  subst hst
  obtain ⟨hx, hb, hm, hret, hn, hl, e0, E, c1, c2, hs, hEL, L, vm0, N, g, X, S, hZ, ho, hC⟩ := w
  have hWW : 2 * (mkF x.m pc ls (argsL.reverse ++ .ref a :: rest)).monitorRoom + (rest.map fun v => v.category).sum ≤ Wn := by show 2 * 0 + _ ≤ _; omega
  obtain ⟨cB, kB, qa, qb, qc⟩ := isOf (s := x.s.setVm vm0) hZ e0 Ea
  cases wd with
  | false =>
    have eq := g rfl
    subst eq
    obtain ⟨v, _, ⟨T1, L1, k1, n1⟩, -, X1, ⟨Lc, hQ, l1, y1, z1⟩, stp⟩ := X.virtualBack hx (y := y) (z := z) ho (mvT hZ w1) (mvT hZ wd1) (nf_super (args := #[]) (mvT hZ wsp)) (mvT hZ ws) (mvT hZ w2) hy (backN (Wn := Wn) C hZ w4 w3 hr.1 hr.2.1) qa qc (g := mkF x.m pc ls (argsL.reverse ++ .ref a :: rest)) rfl (hz.trans hm.symm) (Steps.refl _) (argsL := argsL) (rest := rest) hlen rfl hWW (Jvm.hb hb hd) (fun _ _ => ⟨rfl, e0, hr.2.2.1, hr.2.2.2⟩)
    dsimp only [Pt.U, Pt.locs, Pt.cells, Pt.slots] at X1 l1 y1 z1 stp hQ
    subst l1 y1 z1
    obtain ⟨s₂, o, a1, r⟩ := K T1 T1.heap v ⟨hx, hb, hm, hret, hn, hl, rfl, hQ.2.2.1, hr.2.2.1, hr.2.2.2, fun y hy => ⟨(hs y hy).1, Nat.lt_of_lt_of_le (hs y hy).2 hQ.2.2.2⟩, hEL, _, _, Fr.app N hQ.2.1, fun _ => rfl, X1, (State.WarmedH.refl x.s).since _, hZ, ho, fun q => by cases q⟩ hQ.2.2.2 hQ.1
    exact ⟨s₂, o, stp.trans a1, r⟩
  | true =>
    obtain ⟨v, _, ⟨T1, L1, k1, n1⟩, -, X1, hS1, hgr, ⟨Lc, hQ, l1, y1, z1, hCr⟩, stp⟩ := X.virtualBackS hx (y := y) (z := z) ho (mvT (s := x.s.setVm vm0) hZ w1) (mvT (s := x.s.setVm vm0) hZ wd1) (nf_super (args := #[]) (mvT (s := x.s.setVm vm0) hZ wsp)) (mvT (s := x.s.setVm vm0) hZ ws) (mvT (s := x.s.setVm vm0) hZ w2) hy (backW (s := x.s) (Wn := Wn) C hZ w4 w3 hr.1 hr.2.1 hEL (hC rfl).1.1 (fun y hy => ⟨(hs y (hsub y hy)).2, (hC rfl).2 y (hsub y hy)⟩)) qa qc (g := mkF x.m pc ls (argsL.reverse ++ .ref a :: rest)) rfl (hz.trans hm.symm) (Steps.refl _) (argsL := argsL) (rest := rest) hlen rfl hWW (Jvm.hb hb hd) (fun _ _ => ⟨rfl, e0, hr.2.2.1, hr.2.2.2⟩)
    dsimp only [Pt.U, Pt.locs, Pt.cells, Pt.slots] at X1 l1 y1 z1 stp hQ hS1 hgr hCr
    subst l1 y1 z1
    rw [e0] at hgr
    obtain ⟨Xr, Sr, Zr, Or⟩ := rebS (s := x.s) (vm0 := vm0) S hgr X1 hS1 (Nat.le_refl _) hZ ho
    obtain ⟨s₂, o, a1, r⟩ := K T1 T1.heap v ⟨hx, hb, hm, hret, hn, hl, rfl, hQ.2.2.1, hr.2.2.1, hr.2.2.2, fun y hy => ⟨(hs y hy).1, Nat.lt_of_lt_of_le (hs y hy).2 hgr⟩, hEL, _, _, Fr.app N hQ.2.1, (fun q => by cases q), Xr, Sr, Zr, Or, fun _ => ⟨(hC rfl).1.trans hCr, fun y hy => hCr.safe (hs y hy).2 ((hC rfl).2 y hy)⟩⟩ hgr hQ.1
    exact ⟨s₂, o, stp.trans a1, r⟩
theorem W.callVU (w : W x wd l Z EL R own code mx ret nm T h k n sf) {y : MethodName} {bytes : ByteArray} {maxL : Nat} {rt : Option FieldType} {rm : Room} {sf0 : List Addr} {Q' : Option Value → Heap → Prop} {i : Nat} {argsL rest : List Value} {a : Addr} {z : MethodName} {Cl ow : String} (Wn : Nat) (hd : Dc code pc (.invokevirtual i) 3 pc') (w1 : (Jvm.Cond.methodLink own i y).before a0 Z = true) (wsm : (Jvm.Cond.sameMethod y.cls ow y.name y.desc).before a0 Z = true) (wd1 : (Jvm.Cond.declares ⟨ow, y.name, y.desc⟩).before a0 Z = true) (ws : (Jvm.Cond.selects Cl y z).before a0 Z = true) (w2 : (Jvm.Cond.instanceMethod z).before a0 Z = true) (w3 : (Jvm.Cond.initialized z.cls).before a0 Z = true) (w4 : (Jvm.Cond.code z bytes maxL rt).before a0 Z = true) (hy : ow ≠ "java/lang/invoke/MethodHandle" ∧ ow ≠ "java/lang/invoke/VarHandle") (Ea : Exa Z h a Cl) (C : Ct wd l Z EL z bytes maxL rt [] rm sf0 (.ref a :: argsL).toArray h Q') (hlen : ∀ sig, parseMethodDescriptor y.desc = some sig → argsL.length = sig.parameters.length) (hz : ls.size = mx) (hst : st = argsL.reverse ++ .ref a :: rest) (hW : (rest.map fun v => v.category).sum ≤ Wn) (hr : rm.frames + 1 ≤ R.frames ∧ Wn + (maxL + 11) + rm.locals ≤ R.locals ∧ k + rm.cells ≤ R.cells ∧ n + rm.slots ≤ R.slots) (hsub : ∀ y ∈ sf0, y ∈ sf) (K : ∀ T' h' v, W x wd l Z EL R own code mx ret nm T' h' (k + rm.cells) (n + rm.slots) sf → h.size ≤ h'.size → Q' v h' → Go x wd Z EL R Q T' pc' ls (v.toList ++ rest)) : Go x wd Z EL R Q T pc ls st := by
  obtain ⟨hd, rfl⟩ := hd
  subst hst
  obtain ⟨hx, hb, hm, hret, hn, hl, e0, E, c1, c2, hs, hEL, L, vm0, N, g, X, S, hZ, ho, hC⟩ := w
  have hWW : 2 * (mkF x.m pc ls (argsL.reverse ++ .ref a :: rest)).monitorRoom + (rest.map fun v => v.category).sum ≤ Wn := by show 2 * 0 + _ ≤ _; omega
  obtain ⟨cB, kB, qa, qb, qc⟩ := isOf (s := x.s.setVm vm0) hZ e0 Ea
  cases wd with
  | false =>
    have eq := g rfl
    subst eq
    obtain ⟨v, _, ⟨T1, L1, k1, n1⟩, -, X1, ⟨Lc, hQ, l1, y1, z1⟩, stp⟩ := X.virtualBackUp hx (x := y) (y := z) ho (mvT hZ w1) (mvT hZ wsm) (mvT hZ wd1) hy (mvT hZ ws) (mvT hZ w2) (backN (Wn := Wn) C hZ w4 w3 hr.1 hr.2.1) qa qc (g := mkF x.m pc ls (argsL.reverse ++ .ref a :: rest)) rfl (hz.trans hm.symm) (Steps.refl _) (argsL := argsL) (rest := rest) hlen rfl hWW (Jvm.hb hb hd) (fun _ _ => ⟨rfl, e0, hr.2.2.1, hr.2.2.2⟩)
    dsimp only [Pt.U, Pt.locs, Pt.cells, Pt.slots] at X1 l1 y1 z1 stp hQ
    subst l1 y1 z1
    obtain ⟨s₂, o, a1, r⟩ := K T1 T1.heap v ⟨hx, hb, hm, hret, hn, hl, rfl, hQ.2.2.1, hr.2.2.1, hr.2.2.2, fun y hy => ⟨(hs y hy).1, Nat.lt_of_lt_of_le (hs y hy).2 hQ.2.2.2⟩, hEL, _, _, Fr.app N hQ.2.1, fun _ => rfl, X1, (State.WarmedH.refl x.s).since _, hZ, ho, fun q => by cases q⟩ hQ.2.2.2 hQ.1
    exact ⟨s₂, o, stp.trans a1, r⟩
  | true =>
    obtain ⟨v, _, ⟨T1, L1, k1, n1⟩, -, X1, hS1, hgr, ⟨Lc, hQ, l1, y1, z1, hCr⟩, stp⟩ := X.virtualBackUpS hx (x := y) (y := z) ho (mvT (s := x.s.setVm vm0) hZ w1) (mvT (s := x.s.setVm vm0) hZ wsm) (mvT (s := x.s.setVm vm0) hZ wd1) hy (mvT (s := x.s.setVm vm0) hZ ws) (mvT (s := x.s.setVm vm0) hZ w2) (backW (s := x.s) (Wn := Wn) C hZ w4 w3 hr.1 hr.2.1 hEL (hC rfl).1.1 (fun y hy => ⟨(hs y (hsub y hy)).2, (hC rfl).2 y (hsub y hy)⟩)) qa qc (g := mkF x.m pc ls (argsL.reverse ++ .ref a :: rest)) rfl (hz.trans hm.symm) (Steps.refl _) (argsL := argsL) (rest := rest) hlen rfl hWW (Jvm.hb hb hd) (fun _ _ => ⟨rfl, e0, hr.2.2.1, hr.2.2.2⟩)
    dsimp only [Pt.U, Pt.locs, Pt.cells, Pt.slots] at X1 l1 y1 z1 stp hQ hS1 hgr hCr
    subst l1 y1 z1
    rw [e0] at hgr
    obtain ⟨Xr, Sr, Zr, Or⟩ := rebS (s := x.s) (vm0 := vm0) S hgr X1 hS1 (Nat.le_refl _) hZ ho
    obtain ⟨s₂, o, a1, r⟩ := K T1 T1.heap v ⟨hx, hb, hm, hret, hn, hl, rfl, hQ.2.2.1, hr.2.2.1, hr.2.2.2, fun y hy => ⟨(hs y hy).1, Nat.lt_of_lt_of_le (hs y hy).2 hgr⟩, hEL, _, _, Fr.app N hQ.2.1, (fun q => by cases q), Xr, Sr, Zr, Or, fun _ => ⟨(hC rfl).1.trans hCr, fun y hy => hCr.safe (hs y hy).2 ((hC rfl).2 y hy)⟩⟩ hgr hQ.1
    exact ⟨s₂, o, stp.trans a1, r⟩
theorem W.lsw (w : W x wd l Z EL R own code mx ret nm T h k n sf) {dflt off : Int} {pairs : Array (Int × Int)} {len : Nat} {i : Int32} (hd : Dc code pc (.lookupswitch dflt pairs) len pc') (hp : (pairs.toList.zip (pairs.toList.drop 1)).all (fun (a, next) => a.1 < next.1) = true) (ho : (match pairs.find? (·.1 == i.toInt) with | some (_, o) => o | none => dflt) = off) (ht : Tg pc off pcT) (K : Go x wd Z EL R Q T pcT ls st) : Go x wd Z EL R Q T pc ls (.int i :: st) := by
  obtain ⟨hd, rfl⟩ := hd
  obtain ⟨ht, rfl⟩ := ht
  obtain ⟨hx, hb, hm, hr, hn, hl, e0, E, c1, c2, hs, hEL, L, vm0, N, g, X, S, hZ, ho', hC⟩ := w
  obtain ⟨s₂, o, a1, r⟩ := K
  refine ⟨s₂, o, ?_, r⟩
  rcases hf : pairs.find? (·.1 == i.toInt) with _ | ⟨a, off'⟩
  · simp only [hf] at ho
    subst ho
    exact X.lookupswitchMiss hx (g := mkF x.m pc ls (.int i :: st)) rfl rfl (Jvm.hb hb hd) hp hf ht _ a1
  · simp only [hf] at ho
    subst ho
    exact X.lookupswitchHit hx (g := mkF x.m pc ls (.int i :: st)) rfl rfl (Jvm.hb hb hd) hp hf ht _ a1
theorem W.instNo (w : W x wd l Z EL R own code mx ret nm T h k n sf) {i : Nat} {a : Addr} {C K0 : String} (hd : Dc code pc (.instanceof i) 3 pc') (wl : (Jvm.Cond.classLink own i K0).before a0 Z = true) (E : Exa Z h a C) (F : ∃ c t, Z.vm.findClass C = some c ∧ Z.vm.findClass K0 = some t ∧ Z.vm.assignable c t = false) (K : ∀ T', W x wd l Z EL R own code mx ret nm T' h k n sf → Go x wd Z EL R Q T' pc' ls (.int 0 :: st)) : Go x wd Z EL R Q T pc ls (.ref a :: st) := by
  obtain ⟨hd, rfl⟩ := hd
  exact w.goT (fun s0 L X hx hZ ho hb hm e0 => RoadKit.instNo X hx hZ ho wl e0 E F (g := mkF x.m pc ls (.ref a :: st)) rfl rfl (Jvm.hb hb hd)) K
theorem W.ldc2J (w : W x wd l Z EL R own code mx ret nm T h k n sf) {i : Nat} {v : Int64} (hd : Dc code pc (.ldc2_w i) 3 pc') (wc : (Jvm.Cond.constantLong own i v).before a0 Z = true) (K : Go x wd Z EL R Q T pc' ls (.long v :: st)) : Go x wd Z EL R Q T pc ls st := by
  obtain ⟨hd, rfl⟩ := hd
  obtain ⟨hx, hb, hm, hr, hn, hl, e0, E, c1, c2, hs, hEL, L, vm0, N, g, X, S, hZ, ho, hC⟩ := w
  obtain ⟨s₂, o, a1, r⟩ := K
  exact ⟨s₂, o, X.ldc2J hx ho (mv (s := x.s.setVm vm0) hZ wc) rfl (Jvm.hb hb hd) a1, r⟩
theorem W.instNull (w : W x wd l Z EL R own code mx ret nm T h k n sf) {i : Nat} (hd : Dc code pc (.instanceof i) 3 pc') (K : Go x wd Z EL R Q T pc' ls (.int 0 :: st)) : Go x wd Z EL R Q T pc ls (.null :: st) := by
  obtain ⟨hd, rfl⟩ := hd
  obtain ⟨hx, hb, hm, hr, hn, hl, e0, E, c1, c2, hs, hEL, L, vm0, N, g, X, S, hZ, ho, hC⟩ := w
  obtain ⟨s₂, o, a1, r⟩ := K
  exact ⟨s₂, o, X.instanceofNull hx (g := mkF x.m pc ls (.null :: st)) rfl rfl (Jvm.hb hb hd) _ a1, r⟩
theorem W.getFR (w : W x wd l Z EL R own code mx ret nm T h k n sf) {i : Nat} {a : Addr} {O f d : String} {v : Value} (hd : Dc code pc (.getfield i) 3 pc') (wl : (Jvm.Cond.fieldRef own i O f d).before a0 Z = true) (F : Fld Z h a O f d v) (K : Go x wd Z EL R Q T pc' ls (v :: st)) : Go x wd Z EL R Q T pc ls (.ref a :: st) := by
  obtain ⟨hd, rfl⟩ := hd
  obtain ⟨hx, hb, hm, hr, hn, hl, e0, E, c1, c2, hs, hEL, L, vm0, N, g, X, S, hZ, ho, hC⟩ := w
  obtain ⟨s₂, o, a1, r⟩ := K
  obtain ⟨cell, cf, kk, ii, fl, h1, h2, h3, h4, -, -, h7⟩ := F
  have hZT : Z.Warmed39 T.vm := wtrans (s := x.s.setVm vm0) hZ X.warmed
  have hq := Cond.fieldRef_warmed39 hZT wl
  have hoT : (Z.setVm T.vm).vm.findClass own = some x.m.cls := (X.warmed.alike.findClass _ _).trans ho
  obtain ⟨q1, q2, q3, q4, g1, g2⟩ := Cond.fieldRef_spec hoT hq
  obtain ⟨k', hi, -⟩ := State.fieldFound?_setVm (s := Z) hZT.alike h2
  cases hi.symm.trans g1
  have hd' := Jvm.hb hb hd
  have g2' : T.vm.fieldReady x.m.cls i cf fl := g2
  refine ⟨s₂, o, ?_, r⟩
  show Steps x.p.tables x.e x.below (T.setTop { method := x.m, pc := pc, locals := ls, stack := .ref a :: st, locked := none }) _
  jvm_step X.here [hx, hd', getfield.wp_ready (e := x.e) (s := T) (f := mkF x.m pc ls (.ref a :: st)) X.here.top g2' h3 rfl (show T.heap[a]? = some cell by rw [e0]; exact h1) h4 h7]
  exact a1
theorem W.ldcS (w : W x true l Z EL R own code mx ret nm T h k n sf) {i : Nat} {text : String} (nn : Nat) (hd : Dc code pc (.ldc i) 2 pc') (wl : (Jvm.Cond.stringLink own i text).before a0 Z = true) (wS : ∀ a ∈ Bundle.stringAtoms, a.before a0 Z = true) (hEL : EW Z a0 EL) (hn4 : 4 * text.toList.length ≤ nn) (hbig : nn ≤ 536870912) (hr : k + 2 ≤ R.cells ∧ n + (nn + 4) ≤ R.slots) (K : ∀ (a : Addr) T' h', W x true l Z EL R own code mx ret nm T' h' (k + 2) (n + (nn + 4)) sf → Ext h h' → Go x true Z EL R Q T' pc' ls (.ref a :: st)) : Go x true Z EL R Q T pc ls st := by
  obtain ⟨hd, rfl⟩ := hd
  obtain ⟨hx, hb, hm, hret, hnm, hl, e0, E, c1, c2, hs, -, L, vm0, N, g, X, S, hZ, ho, hC⟩ := w
  obtain ⟨a, T', h', k1, X', e', E', S', hk1, Z', o', hCr, -, stp⟩ := ldcOH X hx hZ ho wl wS e0 S (Nat.le_refl _) hEL (hC rfl).1.1 (g := mkF x.m pc ls st) rfl (Jvm.hb hb hd) hn4 hbig hr.1 hr.2
  obtain ⟨s₂, o, a1, r⟩ := K a T' h' ⟨hx, hb, hm, hret, hnm, hl, e', ext_trans E E', hr.1, hr.2, fun y hy => ⟨(hs y hy).1, Nat.lt_of_lt_of_le (hs y hy).2 E'.1⟩, ⟨a0, hEL⟩, L, _, N, (fun q => by cases q), X', since_mono S' hk1, Z', o', fun _ => ⟨(hC rfl).1.trans hCr, fun y hy => hCr.safe (hs y hy).2 ((hC rfl).2 y hy)⟩⟩ E'
  exact ⟨s₂, o, stp _ a1, r⟩
theorem W.ldcR (w : W x true l Z EL R own code mx ret nm T h k n sf) {i : Nat} {text : String} {vs : List Value} (z : Int32) (nn : Nat) (hd : Dc code pc (.ldc i) 2 pc') (wl : (Jvm.Cond.stringLink own i text).before a0 Z = true) (wS : ∀ a ∈ Bundle.stringAtoms, a.before a0 Z = true) (hEL : EW Z a0 EL) (hmem : (own, i) ∈ EL) (ht : (∀ c ∈ text.toList, c.toNat < 256) ∧ text.toList.map (fun c => Value.int (Jvm.Lit.byteI c.toNat.toUInt16)) = vs) (hz : ¬ z < 0) (hlz : z.toNatClampNeg = vs.length) (hn4 : 4 * text.toList.length ≤ nn) (hbig : nn ≤ 536870912) (hr : k + 2 ≤ R.cells ∧ n + (nn + 4) ≤ R.slots) (K : ∀ (a b : Addr) kb T' h', W x true l Z EL R own code mx ret nm T' h' (k + 2) (n + (nn + 4)) sf → Ext h h' → Exa Z h' a "java/lang/String" → Fld Z h' a "java/lang/String" "coder" "B" (.int 0) → Fld Z h' a "java/lang/String" "value" "[B" (.ref b) → Arv Z h' b kb .byte z vs (.int 0) → (∀ y ∈ sf, y ≠ a ∧ y ≠ b) → Go x true Z EL R Q T' pc' ls (.ref a :: st)) : Go x true Z EL R Q T pc ls st := by
  obtain ⟨hd, rfl⟩ := hd
  obtain ⟨hx, hb, hm, hret, hnm, hl, e0, E, c1, c2, hs, -, L, vm0, N, g, X, S, hZ, ho, hC⟩ := w
  obtain ⟨a, T', h', k1, b, kb, X', e', E', S', hk1, Z', o', q1, q2, q3, q4, -, -, hCr, -, hne, stp⟩ := ldcCH X hx hZ ho wl wS e0 S (Nat.le_refl _) hEL hmem (hC rfl).1.1 ht hz hlz (g := mkF x.m pc ls st) rfl (Jvm.hb hb hd) hn4 hbig hr.1 hr.2
  have hsf : ∀ y ∈ sf, Safe Z EL T'.vm h' y := fun y hy => hCr.safe (hs y hy).2 ((hC rfl).2 y hy)
  obtain ⟨s₂, o, a1, r⟩ := K a b kb T' h' ⟨hx, hb, hm, hret, hnm, hl, e', ext_trans E E', hr.1, hr.2, fun y hy => ⟨(hs y hy).1, Nat.lt_of_lt_of_le (hs y hy).2 E'.1⟩, ⟨a0, hEL⟩, L, _, N, (fun q => by cases q), X', since_mono S' hk1, Z', o', fun _ => ⟨(hC rfl).1.trans hCr, hsf⟩⟩ E' q1 q2 q3 q4 (fun y hy => hne y (hsf y hy))
  exact ⟨s₂, o, stp _ a1, r⟩
end Laws
theorem eqv_int {args : Array Value} {first s : State} {o : Option Outcome} {idx : List Nat} {a b : Term} {z : Int32} (h : (Jvm.Cond.eq a b).value args first o s idx = some true) (hb : b.eval args first o idx s = some (.int z)) : a.eval args first o idx s = some (.int z) := by
  cases ha : a.eval args first o idx s with
  | none => simp [Jvm.Cond.value, ha, hb] at h
  | some v => cases v <;> simp [Jvm.Cond.value, ha, hb] at h ⊢; exact h
theorem eqv_ref {args : Array Value} {first s : State} {o : Option Outcome} {idx : List Nat} {a b : Term} {z : Addr} (h : (Jvm.Cond.eq a b).value args first o s idx = some true) (hb : b.eval args first o idx s = some (.ref z)) : a.eval args first o idx s = some (.ref z) := by
  cases ha : a.eval args first o idx s with
  | none => simp [Jvm.Cond.value, ha, hb] at h
  | some v => cases v <;> simp [Jvm.Cond.value, ha, hb] at h ⊢; exact h
theorem sta_exa {Z : State} {args : Array Value} {C f d K : String} (hx : (Jvm.Cond.exactly (.static C f d) K).value args Z none Z [] = some true) (hi : (Jvm.Cond.initialized C).before args Z = true) (hl : (Jvm.Cond.laysStatic C f d).before args Z = true) :
    ∃ a, (Term.static C f d).eval args Z none [] Z = some (.ref a) ∧ Sta Z Z.heap C f d (.ref a) ∧ Exa Z Z.heap a K := by
  obtain ⟨a, ev⟩ := exa_v hx
  exact ⟨a, ev, Sta.start ev (Or.inr ⟨hi, hl⟩), Exa.start ev hx⟩
theorem fld_int {Z : State} {args : Array Value} {t : Term} {C f d : String} {z : Int32} {a : Addr} (h : (Jvm.Cond.eq (.field t C f d) (.int z)).value args Z none Z [] = some true) (ht : t.eval args Z none [] Z = some (.ref a)) : Fld Z Z.heap a C f d (.int z) :=
  Fld.start (by rw [← fld_at ht]; exact eqv_int h (Term.int_eval z))
theorem fld_ref {Z : State} {args : Array Value} {t u : Term} {C f d : String} {a b : Addr} (h : (Jvm.Cond.eq (.field t C f d) u).value args Z none Z [] = some true) (ht : t.eval args Z none [] Z = some (.ref a)) (hu : u.eval args Z none [] Z = some (.ref b)) : Fld Z Z.heap a C f d (.ref b) :=
  Fld.start (by rw [← fld_at ht]; exact eqv_ref h hu)
theorem ord_ne {Z : State} {h : Heap} {a b : Addr} {C f d : String} {u v : Int32} (F : Fld Z h a C f d (.int u)) (G : Fld Z h b C f d (.int v)) (q : u ≠ v) : a ≠ b := Fld.ne F G fun e => q (Value.int.inj e)
/-- a String at a, its bytes in the array at t, its coder k -/
def StrL (Z : State) (h : Heap) (a t : Addr) (k : Int32) (bs : List Int32) : Prop :=
  Exa Z h a "java/lang/String" ∧ Fld Z h a "java/lang/String" "value" "[B" (.ref t) ∧ Fld Z h a "java/lang/String" "coder" "B" (.int k) ∧ ∃ kb, Arv Z h t kb .byte (Int32.ofNat bs.length) (bs.map .int) (.int 0) ∧ bs.length < 2 ^ 31
section StrFacts
variable {Z : State} {h h' : Heap} {a t : Addr} {k : Int32} {bs : List Int32}
theorem StrL.ext (F : StrL Z h a t k bs) (E : Ext h h') : StrL Z h' a t k bs := ⟨F.1.ext E, F.2.1.ext E, F.2.2.1.ext E, by obtain ⟨kb, A, q⟩ := F.2.2.2; exact ⟨kb, A.ext E, q⟩⟩
theorem StrL.keep {ws : List Addr} (F : StrL Z h a t k bs) (K : Keep h h' ws) (q1 : a ∉ ws) (q2 : t ∉ ws) : StrL Z h' a t k bs := ⟨F.1.keep K, F.2.1.keep K q1, F.2.2.1.keep K q1, by obtain ⟨kb, A, q⟩ := F.2.2.2; exact ⟨kb, A.keep K q2, q⟩⟩
theorem StrL.wr {x : Addr} {sl : Nat} {v : Value} (F : StrL Z h a t k bs) (W : Wr h h' x sl v) (q1 : a ≠ x) (q2 : t ≠ x) : StrL Z h' a t k bs := F.keep (Keep.of_wr W) (ninS q1 nin0) (ninS q2 nin0)
theorem StrL.lt (F : StrL Z h a t k bs) : a < h.size := F.1.lt
theorem StrL.lt' (F : StrL Z h a t k bs) : t < h.size := by obtain ⟨kb, A, -⟩ := F.2.2.2; exact A.lt
theorem ofN_toInt {n : Nat} (h : n < 2 ^ 31) : (Int32.ofNat n).toInt = (n : Int) := Int32.toInt_ofNat_small h
theorem ofN_clamp {n : Nat} (h : n < 2 ^ 31) : (Int32.ofNat n).toNatClampNeg = n := by simp only [Int32.toNatClampNeg, ofN_toInt h]; rfl
theorem ofN_nn {n : Nat} (h : n < 2 ^ 31) : ¬ Int32.ofNat n < 0 := by rw [Int32.lt_iff_toInt_lt, ofN_toInt h]; exact Int.not_lt.mpr (Int.natCast_nonneg n)
theorem ofN_lt {i n : Nat} (hi : i < 2 ^ 31) (hn : n < 2 ^ 31) : Int32.ofNat i < Int32.ofNat n ↔ i < n := by rw [Int32.lt_iff_toInt_lt, ofN_toInt hi, ofN_toInt hn]; omega
theorem ofN_inj {i n : Nat} (hi : i < 2 ^ 31) (hn : n < 2 ^ 31) : Int32.ofNat i = Int32.ofNat n ↔ i = n := by rw [← Int32.toInt_inj, ofN_toInt hi, ofN_toInt hn]; omega
theorem ofN_succ {i : Nat} (hi : i + 1 < 2 ^ 31) : Int32.ofNat i + 1 = Int32.ofNat (i + 1) := by
  rw [← Int32.toInt_inj, ofN_toInt hi]
  have q := c_iadd (Int32.ofNat i) 1
  have r := rng32 (Int32.ofNat i + 1)
  rw [ofN_toInt (by omega), show (1 : Int32).toInt = 1 from rfl] at q
  omega
theorem mapGet (bs : List Int32) (i : Nat) : (bs.map Value.int).getD i (.int 0) = .int (bs.getD i 0) := by
  simp only [List.getD_eq_getElem?_getD, List.getElem?_map]; cases bs[i]? <;> rfl
theorem list_eq {bs cs : List Int32} (h : bs.length = cs.length) (q : ∀ j, j < bs.length → bs.getD j 0 = cs.getD j 0) : bs = cs := by
  refine List.ext_getElem h fun i h1 h2 => ?_
  have := q i h1
  simpa [List.getD_eq_getElem?_getD, List.getElem?_eq_getElem h1, List.getElem?_eq_getElem h2] using this
theorem StrL.same {t' : Addr} {k' : Int32} {cs : List Int32} (F : StrL Z h a t k bs) (G : StrL Z h a t' k' cs) : bs = cs := by
  obtain ⟨-, F1, -, kb, A, hb⟩ := F
  obtain ⟨-, G1, -, kc, B, hc⟩ := G
  have e : t = t' := by
    by_cases q : t = t'
    · exact q
    · exact absurd rfl (Fld.ne F1 G1 fun z => q (Value.ref.inj z))
  subst e
  obtain ⟨c1, a1, -, s1, -, h1, -⟩ := A
  obtain ⟨c2, b1, -, s2, -, h2, -⟩ := B
  cases a1.1.symm.trans b1.1
  rw [ofN_clamp hb] at s1
  rw [ofN_clamp hc] at s2
  refine list_eq (s1.symm.trans s2) fun j hj => ?_
  have e1 := h1 j (by rw [s1]; exact hj)
  have e2 := h2 j (by rw [s1]; exact hj)
  rw [mapGet] at e1 e2
  exact Value.int.inj (Option.some.inj (e1.symm.trans e2))
end StrFacts
theorem b255' {c : Int32} (c0 : 0 ≤ c.toInt) (c1 : ¬ 255 < c) : nar .byte c &&& (255 : Int32) = c := by
  rw [Int32.lt_iff_toInt_lt, show (255 : Int32).toInt = 255 from rfl] at c1
  have e1 := c_i2b c
  have e2 := c_mask (nar .byte c) 255 8 (by decide) (by decide)
  apply Int32.toInt_inj.mp
  rw [e2]
  simp only [nar]
  omega
theorem nchar {c : Int32} (c0 : 0 ≤ c.toInt) (c1 : ¬ 255 < c) : nar .char c = c := by
  rw [Int32.lt_iff_toInt_lt, show (255 : Int32).toInt = 255 from rfl] at c1
  have e1 := c_i2c c
  apply Int32.toInt_inj.mp
  simp only [nar]
  omega
theorem b255 {c : Int32} (c0 : 0 ≤ c.toInt) (c1 : ¬ 255 < c) : nar .char (nar .byte c &&& (255 : Int32)) = c := by rw [b255' c0 c1]; exact nchar c0 c1
theorem nb_inj {c d : Int32} (c0 : 0 ≤ c.toInt) (c1 : ¬ 255 < c) (d0 : 0 ≤ d.toInt) (d1 : ¬ 255 < d) (h : nar .byte c = nar .byte d) : c = d := by
  rw [Int32.lt_iff_toInt_lt, show (255 : Int32).toInt = 255 from rfl] at c1 d1
  have h2 : (nar .byte c).toInt = (nar .byte d).toInt := by rw [h]
  have e1 := c_i2b c
  have e2 := c_i2b d
  simp only [nar] at h2
  apply Int32.toInt_inj.mp
  omega
theorem nbb (c : Int32) : nar .byte (nar .byte c) = nar .byte c := by simp [nar]
theorem ncc (c : Int32) : nar .char (nar .char c) = nar .char c := by
  have := XT.narrow_c c
  simp only [narrow, Value.int.injEq] at this
  exact this
theorem nar_and (c : Int32) : nar .char (c &&& 255) = c &&& 255 := i2c_mask c
theorem le255 (c : Int32) : ¬ 255 < c &&& 255 := by
  rw [Int32.lt_iff_toInt_lt]; exact Int.not_lt.mpr (c_and c 255 (by decide)).2
theorem le255n (c : Int32) : ¬ 255 < nar .char (c &&& 255) := by rw [nar_and]; exact le255 c
theorem fnb (c : Int32) : fits .byte (.int (nar .byte c)) = true := fits_nar_byte c
theorem fnc (c : Int32) : fits .char (.int (nar .char c)) = true := fits_nar_char c
theorem cmpL_lt (x y : Int64) : XT.cmpL x y < 0 ↔ x < y := by
  unfold XT.cmpL; split <;> (try split) <;> simp_all [Int64.lt_iff_toInt_lt, ← Int64.toInt_inj] <;> omega
theorem cmpL_gt (x y : Int64) : 0 < XT.cmpL x y ↔ y < x := by
  unfold XT.cmpL; split <;> (try split) <;> simp_all [Int64.lt_iff_toInt_lt, ← Int64.toInt_inj] <;> omega
theorem ns_root {Z : State} {a0 : Array Value} {O K : String} {n : Nat} (w : (Jvm.Cond.noSuperclass O).before a0 Z = true) (wk : (Jvm.Cond.instantiable K n).before a0 Z = true) (hn : O ≠ K) : NS Z O K := by
  obtain ⟨c, k, h1, h2, h3, -, -⟩ := Cond.noSuperclass_spec w
  obtain ⟨t, kt, g1, -⟩ := Cond.instantiable_spec wk
  have ne := ids_ne h1 g1 hn
  refine ⟨c, t, h1, g1, fun fuel => ?_⟩
  cases fuel with
  | zero => rfl
  | succ f => simp [Vm.isSubclassAux, ne, h2, h3]
theorem ns_no {Z : State} {a0 : Array Value} {C S K : String} {n : Nat} (w : (Jvm.Cond.superclass C S).before a0 Z = true) (wk : (Jvm.Cond.instantiable K n).before a0 Z = true) (m : NS Z C K) (hn : C ≠ K) : ∃ c t, Z.vm.findClass C = some c ∧ Z.vm.findClass K = some t ∧ Z.vm.assignable c t = false := by
  obtain ⟨c, t, h0, g0, n3⟩ := m
  obtain ⟨p, k, kp, h1, h2, h3, h4, h5, -, h7⟩ := Cond.superclass_spec h0 w
  obtain ⟨t', kt, g1, g2, g5, g7, -⟩ := Cond.instantiable_spec wk
  cases g0.symm.trans g1
  have ne := ids_ne h0 g0 hn
  have g8 : kt.isInterface = false := (Bool.or_eq_false_iff.mp g7).1
  refine ⟨c, t, h0, g0, ?_⟩
  show Z.vm.assignableAux (255 + 1) c t = false
  simp [Vm.assignableAux, ne, h2, g2, h5, g5, g8, Vm.isSubclass, n3]
/-- an array of boxes that stood at the start: each of its class -/
def Bx (Z : State) (a : Addr) (cl : Cell) (K : String) (z : Int32) : Prop :=
  Arr Z Z.heap a cl (.object K) ∧ cl.slots.size = z.toNatClampNeg ∧ ¬ z < 0 ∧ ∀ j : Int32, ¬ (j < 0 ∨ cl.slots.size ≤ j.toNatClampNeg) → ∃ b : Addr, cl.slots[j.toNatClampNeg]? = some (.ref b) ∧ Exa Z Z.heap b K
theorem Bx.start {Z : State} {a0 : Array Value} {t : Term} {c : Jvm.Cond} {a : Addr} {K : String} {z : Int32} (et : ∀ idx, t.eval a0 Z none idx Z = some (.ref a)) (ha : (Jvm.Cond.arrayOf t (.object K)).value a0 Z none Z [] = some true) (hl : (Jvm.Cond.eq (.length t) (.int z)).value a0 Z none Z [] = some true) (hz : ¬ z < 0)
    (h : (Jvm.Cond.all t (.and (.exactly (.elem t (.index 0)) K) c)).value a0 Z none Z [] = some true) : ∃ cl, Bx Z a cl K z := by
  obtain ⟨cl, A⟩ := Arr.start (et []) ha
  have e1 := eqv_int hl (Term.int_eval z)
  obtain ⟨a', cl', e2, e3, e4⟩ := Term.length_spec e1
  cases (et []).symm.trans e2
  cases (State.arrayAt?_spec e3).1.symm.trans A.1
  have q : cl.slots.size < 2 ^ 31 := by
    simp only [Term.eval, et [], e3, Option.bind_eq_bind, Option.bind_some] at e1
    by_cases q : cl.slots.size < 2 ^ 31
    · exact q
    · simp [q] at e1
  have e := (Value.int.inj e4).symm
  refine ⟨cl, A, by rw [← e]; simp only [Int32.toNatClampNeg, len_toInt q]; rfl, hz, fun j hj => ?_⟩
  have nn : ¬ j < 0 := fun x => hj (Or.inl x)
  obtain ⟨u1, -⟩ := and_e (Cond.all_elim (et []) (A.fin (Vm.Alike.refl _)) h j.toNatClampNeg (Nat.lt_of_not_le fun x => hj (Or.inr x)))
  obtain ⟨box, eb⟩ := exa_v u1
  exact ⟨box, (elem_f (et _) (idx_at nn) (A.fin (Vm.Alike.refl _)) nn).symm.trans eb, exa_at eb u1⟩
theorem natOf {i : Int32} {n : Nat} (h0 : 0 ≤ i.toInt) (h1 : i.toInt < (n : Int)) : ∃ j : Nat, j < n ∧ i = Int32.ofInt (j : Int) := ⟨i.toInt.toNat, by omega, by rw [Int.toNat_of_nonneg h0]; exact (Int32.ofInt_toInt i).symm⟩
theorem own_in {i z : Int32} {D : Int} (h0 : 0 ≤ i.toInt) (h1 : i.toInt < D) (hz : z.toInt = D) : ¬ i < 0 ∧ i < z := ⟨by rw [Int32.lt_iff_toInt_lt]; exact Int.not_lt.mpr h0, by rw [Int32.lt_iff_toInt_lt, hz]; exact h1⟩
theorem modR (k d : Int32) (D : Int) (hd : d.toInt = D) (hD : 0 < D) : 0 ≤ ((k &&& 2147483647) % d).toInt ∧ ((k &&& 2147483647) % d).toInt < D := by
  have h := (c_and k 2147483647 (by decide)).1
  rw [(c_irem _ d D hd).1 h]; exact ⟨Int.emod_nonneg _ (by omega), Int.emod_lt_of_pos _ hD⟩
theorem and1 (k : Int32) : k &&& 1 = 0 ∨ k &&& 1 = 1 := by
  obtain ⟨j, h, e⟩ := natOf (n := 2) (c_and k 1 (by decide)).1 (Int.lt_of_le_of_lt (c_and k 1 (by decide)).2 (by decide))
  rw [e]
  have h2 : j = 0 ∨ j = 1 := by omega
  rcases h2 with rfl | rfl
  · exact Or.inl rfl
  · exact Or.inr rfl
theorem and3 (k : Int32) : k &&& 3 = 0 ∨ k &&& 3 = 1 ∨ k &&& 3 = 2 ∨ k &&& 3 = 3 := by
  obtain ⟨j, h, e⟩ := natOf (n := 4) (c_and k 3 (by decide)).1 (Int.lt_of_le_of_lt (c_and k 3 (by decide)).2 (by decide))
  rw [e]
  have h2 : j = 0 ∨ j = 1 ∨ j = 2 ∨ j = 3 := by omega
  rcases h2 with rfl | rfl | rfl | rfl
  · exact Or.inl rfl
  · exact Or.inr (Or.inl rfl)
  · exact Or.inr (Or.inr (Or.inl rfl))
  · exact Or.inr (Or.inr (Or.inr rfl))
theorem maskNeg (k : Int32) : ¬ (k &&& 2147483647) < 0 := by
  rw [Int32.lt_iff_toInt_lt]; exact Int.not_lt.mpr (c_and k 2147483647 (by decide)).1
/-- an array that stood at the start, by the case's words -/
theorem arv_start {Z : State} {a0 : Array Value} {t : Term} {a : Addr} {ty : FieldType} {z : Int32} {vs : List Value} {dv : Value} (hF : Fit Z) (ha : (Jvm.Cond.arrayOf t ty).value a0 Z none Z [] = some true) (ht : t.eval a0 Z none [] Z = some (.ref a)) (hl : (Jvm.Cond.eq (.length t) (.int z)).value a0 Z none Z [] = some true)
    (hz : ¬ z < 0) (hn : z.toNatClampNeg = vs.length) (H : ∀ cl : Cell, Z.heap[a]? = some cl → HasL cl 0 vs) : ∃ kc, Arv Z Z.heap a kc ty z vs dv := by
  obtain ⟨cl, A⟩ := Arr.start ht ha
  have e1 := eqv_int hl (Term.int_eval z)
  obtain ⟨a', cl', e2, e3, e4⟩ := Term.length_spec e1
  cases ht.symm.trans e2
  cases (State.arrayAt?_spec e3).1.symm.trans A.1
  have hb : cl.slots.size < 2 ^ 31 := by
    simp only [Term.eval, ht, e3, Option.bind_eq_bind, Option.bind_some] at e1
    by_cases q : cl.slots.size < 2 ^ 31
    · exact q
    · simp [q] at e1
  exact ⟨cl.cls, Arv.start hF A hb (Value.int.inj e4).symm hz hn (H cl A.1)⟩
theorem elem_slot {Z : State} {a0 : Array Value} {t u : Term} {a b : Addr} {j : Int32} {n : Nat} {cl : Cell} (h : (Jvm.Cond.eq (.elem t (.int j)) u).value a0 Z none Z [] = some true) (ht : t.eval a0 Z none [] Z = some (.ref a)) (hu : u.eval a0 Z none [] Z = some (.ref b)) (hn : j.toNatClampNeg = n) (hc : Z.heap[a]? = some cl) : cl.slots[n]? = some (.ref b) := by
  subst hn
  exact (elem_in (eqv_ref h hu) ht (Term.int_eval j) hc).2
theorem elem_slotI {Z : State} {a0 : Array Value} {t : Term} {a : Addr} {j b : Int32} {n : Nat} {cl : Cell} (h : (Jvm.Cond.eq (.elem t (.int j)) (.int b)).value a0 Z none Z [] = some true) (ht : t.eval a0 Z none [] Z = some (.ref a)) (hn : j.toNatClampNeg = n) (hc : Z.heap[a]? = some cl) : cl.slots[n]? = some (.int b) := by
  subst hn
  exact (elem_in (eqv_int h (Term.int_eval b)) ht (Term.int_eval j) hc).2
theorem len_start {Z : State} {a0 : Array Value} {t : Term} {a : Addr} {cl : Cell} {ty : FieldType} {z : Int32} (A : Arr Z Z.heap a cl ty) (ht : t.eval a0 Z none [] Z = some (.ref a)) (hl : (Jvm.Cond.eq (.length t) (.int z)).value a0 Z none Z [] = some true) : cl.slots.size = z.toNatClampNeg := by
  have e1 := eqv_int hl (Term.int_eval z)
  obtain ⟨a', cl', e2, e3, e4⟩ := Term.length_spec e1
  cases ht.symm.trans e2
  cases (State.arrayAt?_spec e3).1.symm.trans A.1
  have q : cl.slots.size < 2 ^ 31 := by
    simp only [Term.eval, ht, e3, Option.bind_eq_bind, Option.bind_some] at e1
    by_cases q : cl.slots.size < 2 ^ 31
    · exact q
    · simp [q] at e1
  have e := (Value.int.inj e4).symm
  rw [← e]; simp only [Int32.toNatClampNeg, len_toInt q]; rfl
theorem hasL_rep {cl : Cell} {v : Value} : ∀ (n i : Nat), (∀ j, i ≤ j → j < i + n → cl.slots[j]? = some v) → HasL cl i (List.replicate n v)
  | 0, _, _ => trivial
  | n + 1, i, h => ⟨h i (Nat.le_refl _) (by omega), hasL_rep n (i + 1) fun j h1 h2 => h j (by omega) (by omega)⟩
/-- a String that stood at the start, by the case's words -/
theorem str_start {Z : State} {a0 : Array Value} {t : Term} {a : Addr} {z : Int32} {bs : List Int32} (hF : Fit Z) (ht : t.eval a0 Z none [] Z = some (.ref a)) (hx : (Jvm.Cond.exactly t "java/lang/String").value a0 Z none Z [] = some true) (hc : (Jvm.Cond.eq (.field t "java/lang/String" "coder" "B") (.int 0)).value a0 Z none Z [] = some true) (ha : (Jvm.Cond.arrayOf (.field t "java/lang/String" "value" "[B") .byte).value a0 Z none Z [] = some true) (hl : (Jvm.Cond.eq (.length (.field t "java/lang/String" "value" "[B")) (.int z)).value a0 Z none Z [] = some true) (hz : ¬ z < 0) (hn : z = Int32.ofNat bs.length) (hb : bs.length < 2 ^ 31)
    (H : ∀ (b : Addr) (cl : Cell), (Term.field t "java/lang/String" "value" "[B").eval a0 Z none [] Z = some (.ref b) → Arr Z Z.heap b cl .byte → cl.slots.size = bs.length → HasL cl 0 (bs.map .int)) : ∃ b, StrL Z Z.heap a b 0 bs := by
  obtain ⟨b, eb⟩ := arr_v ha
  obtain ⟨cl0, A0⟩ := Arr.start eb ha
  have hs := len_start A0 eb hl
  subst hn
  obtain ⟨kc, A⟩ := arv_start (vs := bs.map .int) (dv := .int 0) hF ha eb hl hz (by rw [ofN_clamp hb, List.length_map]) (fun cl hcl => by cases A0.1.symm.trans hcl; exact H b _ eb A0 (by rw [hs, ofN_clamp hb]))
  exact ⟨b, Exa.start ht hx, Fld.start (by rw [← fld_at ht]; exact eb), fld_int hc ht, kc, A, hb⟩
theorem str_all {Z : State} {a0 : Array Value} {F : Term} {b : Addr} {cl : Cell} {n : Nat} {v : Int32} (eF : ∀ idx, F.eval a0 Z none idx Z = some (.ref b)) (A : Arr Z Z.heap b cl .byte) (hs : cl.slots.size = n) (hn : n < 2 ^ 31) (hall : (Jvm.Cond.all F (.eq (.elem F (.index 0)) (.int v))).value a0 Z none Z [] = some true) : HasL cl 0 (List.replicate n (.int v)) :=
  hasL_rep n 0 fun j _ hj => by
    have h31 : j < 2 ^ 31 := by omega
    have u := Cond.all_elim (eF []) (A.fin (Vm.Alike.refl _)) hall j (by omega)
    have ix := idx_at (s := Z) (args := a0) (first := Z) (o := none) (j := Int32.ofNat j) (ofN_nn h31)
    rw [ofN_clamp h31] at ix
    have e := elem_f (eF [j]) ix (A.fin (Vm.Alike.refl _)) (ofN_nn h31)
    rw [ofN_clamp h31] at e
    exact e.symm.trans (eqv_int u (Term.int_eval v))
/-- null, or a String -/
def Sn (Z : State) (h : Heap) (v : Value) : Prop := v = .null ∨ ∃ s, v = .ref s ∧ Exa Z h s "java/lang/String"
theorem Sn.ext {Z : State} {h h' : Heap} {v : Value} (F : Sn Z h v) (E : Ext h h') : Sn Z h' v := by
  rcases F with q | ⟨s, q, X⟩
  · exact Or.inl q
  · exact Or.inr ⟨s, q, X.ext E⟩
theorem Sn.isRef {Z : State} {h : Heap} {v : Value} (F : Sn Z h v) : v.isRef = true := by rcases F with rfl | ⟨s, rfl, -⟩ <;> rfl
/-- the conjuncts of a condition -/
def ands : Jvm.Cond → List Jvm.Cond
  | .and a b => a :: ands b
  | c => [c]
theorem ands_all {args : Array Value} {s : State} : ∀ (c : Jvm.Cond), c.value args s none s [] = some true → ∀ d ∈ ands c, d.value args s none s [] = some true := by
  intro c
  induction c with
  | and a b _ ih =>
    intro h d hd
    obtain ⟨h1, h2⟩ := and_e h
    rcases List.mem_cons.mp hd with rfl | hd
    · exact h1
    · exact ih h2 d hd
  | _ => intro h d hd; cases List.mem_singleton.mp hd; exact h
theorem nw {c : Jvm.Cond} {Z : State} {a0 : Array Value} (hn : c.value a0 Z none Z [] = some true) (i : Nat) {d : Jvm.Cond} (h : (ands c)[i]? = some d) : d.value a0 Z none Z [] = some true := ands_all c hn d (List.mem_of_getElem? h)
/-- the object that a static holds at the start -/
def sad (Z : State) (a0 : Array Value) (C f d : String) : Addr := match (Term.static C f d).eval a0 Z none [] Z with | some (.ref a) => a | _ => 0
theorem sad_eq {Z : State} {a0 : Array Value} {C f d : String} {a : Addr} (h : (Term.static C f d).eval a0 Z none [] Z = some (.ref a)) : sad Z a0 C f d = a := by simp only [sad, h]
theorem sad_exa {Z : State} {a0 : Array Value} {C f d K : String} (hx : (Jvm.Cond.exactly (.static C f d) K).value a0 Z none Z [] = some true) (hi : (Jvm.Cond.initialized C).before a0 Z = true) (hl : (Jvm.Cond.laysStatic C f d).before a0 Z = true) :
    (Term.static C f d).eval a0 Z none [] Z = some (.ref (sad Z a0 C f d)) ∧ Sta Z Z.heap C f d (.ref (sad Z a0 C f d)) ∧ Exa Z Z.heap (sad Z a0 C f d) K := by
  obtain ⟨a, ev, S, E⟩ := sta_exa hx hi hl
  rw [sad_eq ev]; exact ⟨ev, S, E⟩
theorem nb1 : nar .boolean 1 = 1 := rfl
theorem nb0 : nar .boolean 0 = 0 := rfl
theorem rne {a b : Addr} (q : a ≠ b) : ¬ (Value.ref a = Value.ref b) := fun e => q (Value.ref.inj e)
theorem narR {t : FieldType} {v : Value} (h : v.isRef = true) : narrow t v = v := by cases v <;> cases t <;> first | rfl | (simp [Value.isRef] at h)
theorem fitR {t : FieldType} {v : Value} (h : v.isRef = true) (ht : t.isReference = true) : fits t v = true := by cases t <;> simp [FieldType.isReference] at ht <;> cases v <;> first | rfl | (simp [Value.isRef] at h)
end Jvm.OwnW
namespace Jvm.Pilot.@@N@@
open Jvm Jvm.ClassFile Sem Op Lib Jvm.Free Jvm.Stand Jvm.LawKit Jvm.RoadKit Jvm.OwnW Bundle Jvm.Pilot.@@N@@.Jvm.D
theorem tw {Z : State} {a0 : Array Value} (hw : ∀ d ∈ tables_1, d.before a0 Z = true) (i : Nat) {d : Jvm.Cond} (h : tables_1[i]? = some d) : d.before a0 Z = true := hw _ (List.mem_of_getElem? h)
theorem fit_of {s : State} (hF : heapFits s = true) : Fit s := fun {y c} hc i hi => by
  obtain ⟨ha, rfl⟩ := Array.getElem?_eq_some_iff.mp hc
  have q := List.all_eq_true.mp ((Array.all_eq_true_iff_forall_mem.mp hF) _ (Array.getElem_mem ha)) i (List.mem_range.mpr hi)
  simpa [Array.getElem?_eq_getElem hi] using q
theorem pn_com_example_tenorloom_tenorloom_bond_Rating : plainName "com/example/tenorloom/tenorloom/bond/Rating" = true := by first | (simp [plainName, overriddenIn]; done) | decide +kernel
theorem pn_com_example_tenorloom_tenorloom_bond_RatingOfPinLaw : plainName "com/example/tenorloom/tenorloom/bond/RatingOfPinLaw" = true := by first | (simp [plainName, overriddenIn]; done) | decide +kernel
theorem pn_java_lang_Enum : plainName "java/lang/Enum" = true := by first | (simp [plainName, overriddenIn]; done) | decide +kernel
theorem pd_0 : parseMethodDescriptor "()[Lcom/example/tenorloom/tenorloom/bond/Rating;" = some ⟨[], some (.array (.object "com/example/tenorloom/tenorloom/bond/Rating"))⟩ := by decide +kernel
theorem pd_1 : parseMethodDescriptor "()I" = some ⟨[], some .int⟩ := by decide +kernel
theorem pd_2 : parseMethodDescriptor "(I)Lcom/example/tenorloom/tenorloom/bond/Rating;" = some ⟨[.int], some (.object "com/example/tenorloom/tenorloom/bond/Rating")⟩ := by decide +kernel
theorem own_EW {Z : State} {a0 : Array Value} (hw : ∀ d ∈ tables_1, d.before a0 Z = true) : EW Z a0 [] := EW.nil
def A_AAA (Z : State) (a0 : Array Value) : Addr := sad Z a0 "com/example/tenorloom/tenorloom/bond/Rating" "AAA" "Lcom/example/tenorloom/tenorloom/bond/Rating;"
theorem s_AAA {Z : State} {a0 : Array Value} (hw : ∀ d ∈ tables_1, d.before a0 Z = true) (hn : narrow_1.value a0 Z none Z [] = some true) : (Term.static "com/example/tenorloom/tenorloom/bond/Rating" "AAA" "Lcom/example/tenorloom/tenorloom/bond/Rating;").eval a0 Z none [] Z = some (.ref (A_AAA Z a0)) ∧ Sta Z Z.heap "com/example/tenorloom/tenorloom/bond/Rating" "AAA" "Lcom/example/tenorloom/tenorloom/bond/Rating;" (.ref (A_AAA Z a0)) ∧ Exa Z Z.heap (A_AAA Z a0) "com/example/tenorloom/tenorloom/bond/Rating" := sad_exa (nw hn 0 rfl) (tw hw 4 rfl) (tw hw 5 rfl)
def A_AA_PLUS (Z : State) (a0 : Array Value) : Addr := sad Z a0 "com/example/tenorloom/tenorloom/bond/Rating" "AA_PLUS" "Lcom/example/tenorloom/tenorloom/bond/Rating;"
theorem s_AA_PLUS {Z : State} {a0 : Array Value} (hw : ∀ d ∈ tables_1, d.before a0 Z = true) (hn : narrow_1.value a0 Z none Z [] = some true) : (Term.static "com/example/tenorloom/tenorloom/bond/Rating" "AA_PLUS" "Lcom/example/tenorloom/tenorloom/bond/Rating;").eval a0 Z none [] Z = some (.ref (A_AA_PLUS Z a0)) ∧ Sta Z Z.heap "com/example/tenorloom/tenorloom/bond/Rating" "AA_PLUS" "Lcom/example/tenorloom/tenorloom/bond/Rating;" (.ref (A_AA_PLUS Z a0)) ∧ Exa Z Z.heap (A_AA_PLUS Z a0) "com/example/tenorloom/tenorloom/bond/Rating" := sad_exa (nw hn 1 rfl) (tw hw 4 rfl) (tw hw 8 rfl)
def A_AA (Z : State) (a0 : Array Value) : Addr := sad Z a0 "com/example/tenorloom/tenorloom/bond/Rating" "AA" "Lcom/example/tenorloom/tenorloom/bond/Rating;"
theorem s_AA {Z : State} {a0 : Array Value} (hw : ∀ d ∈ tables_1, d.before a0 Z = true) (hn : narrow_1.value a0 Z none Z [] = some true) : (Term.static "com/example/tenorloom/tenorloom/bond/Rating" "AA" "Lcom/example/tenorloom/tenorloom/bond/Rating;").eval a0 Z none [] Z = some (.ref (A_AA Z a0)) ∧ Sta Z Z.heap "com/example/tenorloom/tenorloom/bond/Rating" "AA" "Lcom/example/tenorloom/tenorloom/bond/Rating;" (.ref (A_AA Z a0)) ∧ Exa Z Z.heap (A_AA Z a0) "com/example/tenorloom/tenorloom/bond/Rating" := sad_exa (nw hn 2 rfl) (tw hw 4 rfl) (tw hw 10 rfl)
def A_AA_MINUS (Z : State) (a0 : Array Value) : Addr := sad Z a0 "com/example/tenorloom/tenorloom/bond/Rating" "AA_MINUS" "Lcom/example/tenorloom/tenorloom/bond/Rating;"
theorem s_AA_MINUS {Z : State} {a0 : Array Value} (hw : ∀ d ∈ tables_1, d.before a0 Z = true) (hn : narrow_1.value a0 Z none Z [] = some true) : (Term.static "com/example/tenorloom/tenorloom/bond/Rating" "AA_MINUS" "Lcom/example/tenorloom/tenorloom/bond/Rating;").eval a0 Z none [] Z = some (.ref (A_AA_MINUS Z a0)) ∧ Sta Z Z.heap "com/example/tenorloom/tenorloom/bond/Rating" "AA_MINUS" "Lcom/example/tenorloom/tenorloom/bond/Rating;" (.ref (A_AA_MINUS Z a0)) ∧ Exa Z Z.heap (A_AA_MINUS Z a0) "com/example/tenorloom/tenorloom/bond/Rating" := sad_exa (nw hn 3 rfl) (tw hw 4 rfl) (tw hw 12 rfl)
def A_A_PLUS (Z : State) (a0 : Array Value) : Addr := sad Z a0 "com/example/tenorloom/tenorloom/bond/Rating" "A_PLUS" "Lcom/example/tenorloom/tenorloom/bond/Rating;"
theorem s_A_PLUS {Z : State} {a0 : Array Value} (hw : ∀ d ∈ tables_1, d.before a0 Z = true) (hn : narrow_1.value a0 Z none Z [] = some true) : (Term.static "com/example/tenorloom/tenorloom/bond/Rating" "A_PLUS" "Lcom/example/tenorloom/tenorloom/bond/Rating;").eval a0 Z none [] Z = some (.ref (A_A_PLUS Z a0)) ∧ Sta Z Z.heap "com/example/tenorloom/tenorloom/bond/Rating" "A_PLUS" "Lcom/example/tenorloom/tenorloom/bond/Rating;" (.ref (A_A_PLUS Z a0)) ∧ Exa Z Z.heap (A_A_PLUS Z a0) "com/example/tenorloom/tenorloom/bond/Rating" := sad_exa (nw hn 4 rfl) (tw hw 4 rfl) (tw hw 14 rfl)
def A_A (Z : State) (a0 : Array Value) : Addr := sad Z a0 "com/example/tenorloom/tenorloom/bond/Rating" "A" "Lcom/example/tenorloom/tenorloom/bond/Rating;"
theorem s_A {Z : State} {a0 : Array Value} (hw : ∀ d ∈ tables_1, d.before a0 Z = true) (hn : narrow_1.value a0 Z none Z [] = some true) : (Term.static "com/example/tenorloom/tenorloom/bond/Rating" "A" "Lcom/example/tenorloom/tenorloom/bond/Rating;").eval a0 Z none [] Z = some (.ref (A_A Z a0)) ∧ Sta Z Z.heap "com/example/tenorloom/tenorloom/bond/Rating" "A" "Lcom/example/tenorloom/tenorloom/bond/Rating;" (.ref (A_A Z a0)) ∧ Exa Z Z.heap (A_A Z a0) "com/example/tenorloom/tenorloom/bond/Rating" := sad_exa (nw hn 5 rfl) (tw hw 4 rfl) (tw hw 16 rfl)
def A_A_MINUS (Z : State) (a0 : Array Value) : Addr := sad Z a0 "com/example/tenorloom/tenorloom/bond/Rating" "A_MINUS" "Lcom/example/tenorloom/tenorloom/bond/Rating;"
theorem s_A_MINUS {Z : State} {a0 : Array Value} (hw : ∀ d ∈ tables_1, d.before a0 Z = true) (hn : narrow_1.value a0 Z none Z [] = some true) : (Term.static "com/example/tenorloom/tenorloom/bond/Rating" "A_MINUS" "Lcom/example/tenorloom/tenorloom/bond/Rating;").eval a0 Z none [] Z = some (.ref (A_A_MINUS Z a0)) ∧ Sta Z Z.heap "com/example/tenorloom/tenorloom/bond/Rating" "A_MINUS" "Lcom/example/tenorloom/tenorloom/bond/Rating;" (.ref (A_A_MINUS Z a0)) ∧ Exa Z Z.heap (A_A_MINUS Z a0) "com/example/tenorloom/tenorloom/bond/Rating" := sad_exa (nw hn 6 rfl) (tw hw 4 rfl) (tw hw 18 rfl)
def A_BBB_PLUS (Z : State) (a0 : Array Value) : Addr := sad Z a0 "com/example/tenorloom/tenorloom/bond/Rating" "BBB_PLUS" "Lcom/example/tenorloom/tenorloom/bond/Rating;"
theorem s_BBB_PLUS {Z : State} {a0 : Array Value} (hw : ∀ d ∈ tables_1, d.before a0 Z = true) (hn : narrow_1.value a0 Z none Z [] = some true) : (Term.static "com/example/tenorloom/tenorloom/bond/Rating" "BBB_PLUS" "Lcom/example/tenorloom/tenorloom/bond/Rating;").eval a0 Z none [] Z = some (.ref (A_BBB_PLUS Z a0)) ∧ Sta Z Z.heap "com/example/tenorloom/tenorloom/bond/Rating" "BBB_PLUS" "Lcom/example/tenorloom/tenorloom/bond/Rating;" (.ref (A_BBB_PLUS Z a0)) ∧ Exa Z Z.heap (A_BBB_PLUS Z a0) "com/example/tenorloom/tenorloom/bond/Rating" := sad_exa (nw hn 7 rfl) (tw hw 4 rfl) (tw hw 20 rfl)
def A_BBB (Z : State) (a0 : Array Value) : Addr := sad Z a0 "com/example/tenorloom/tenorloom/bond/Rating" "BBB" "Lcom/example/tenorloom/tenorloom/bond/Rating;"
theorem s_BBB {Z : State} {a0 : Array Value} (hw : ∀ d ∈ tables_1, d.before a0 Z = true) (hn : narrow_1.value a0 Z none Z [] = some true) : (Term.static "com/example/tenorloom/tenorloom/bond/Rating" "BBB" "Lcom/example/tenorloom/tenorloom/bond/Rating;").eval a0 Z none [] Z = some (.ref (A_BBB Z a0)) ∧ Sta Z Z.heap "com/example/tenorloom/tenorloom/bond/Rating" "BBB" "Lcom/example/tenorloom/tenorloom/bond/Rating;" (.ref (A_BBB Z a0)) ∧ Exa Z Z.heap (A_BBB Z a0) "com/example/tenorloom/tenorloom/bond/Rating" := sad_exa (nw hn 8 rfl) (tw hw 4 rfl) (tw hw 22 rfl)
def A_BBB_MINUS (Z : State) (a0 : Array Value) : Addr := sad Z a0 "com/example/tenorloom/tenorloom/bond/Rating" "BBB_MINUS" "Lcom/example/tenorloom/tenorloom/bond/Rating;"
theorem s_BBB_MINUS {Z : State} {a0 : Array Value} (hw : ∀ d ∈ tables_1, d.before a0 Z = true) (hn : narrow_1.value a0 Z none Z [] = some true) : (Term.static "com/example/tenorloom/tenorloom/bond/Rating" "BBB_MINUS" "Lcom/example/tenorloom/tenorloom/bond/Rating;").eval a0 Z none [] Z = some (.ref (A_BBB_MINUS Z a0)) ∧ Sta Z Z.heap "com/example/tenorloom/tenorloom/bond/Rating" "BBB_MINUS" "Lcom/example/tenorloom/tenorloom/bond/Rating;" (.ref (A_BBB_MINUS Z a0)) ∧ Exa Z Z.heap (A_BBB_MINUS Z a0) "com/example/tenorloom/tenorloom/bond/Rating" := sad_exa (nw hn 9 rfl) (tw hw 4 rfl) (tw hw 24 rfl)
def A_BB_PLUS (Z : State) (a0 : Array Value) : Addr := sad Z a0 "com/example/tenorloom/tenorloom/bond/Rating" "BB_PLUS" "Lcom/example/tenorloom/tenorloom/bond/Rating;"
theorem s_BB_PLUS {Z : State} {a0 : Array Value} (hw : ∀ d ∈ tables_1, d.before a0 Z = true) (hn : narrow_1.value a0 Z none Z [] = some true) : (Term.static "com/example/tenorloom/tenorloom/bond/Rating" "BB_PLUS" "Lcom/example/tenorloom/tenorloom/bond/Rating;").eval a0 Z none [] Z = some (.ref (A_BB_PLUS Z a0)) ∧ Sta Z Z.heap "com/example/tenorloom/tenorloom/bond/Rating" "BB_PLUS" "Lcom/example/tenorloom/tenorloom/bond/Rating;" (.ref (A_BB_PLUS Z a0)) ∧ Exa Z Z.heap (A_BB_PLUS Z a0) "com/example/tenorloom/tenorloom/bond/Rating" := sad_exa (nw hn 10 rfl) (tw hw 4 rfl) (tw hw 26 rfl)
def A_BB (Z : State) (a0 : Array Value) : Addr := sad Z a0 "com/example/tenorloom/tenorloom/bond/Rating" "BB" "Lcom/example/tenorloom/tenorloom/bond/Rating;"
theorem s_BB {Z : State} {a0 : Array Value} (hw : ∀ d ∈ tables_1, d.before a0 Z = true) (hn : narrow_1.value a0 Z none Z [] = some true) : (Term.static "com/example/tenorloom/tenorloom/bond/Rating" "BB" "Lcom/example/tenorloom/tenorloom/bond/Rating;").eval a0 Z none [] Z = some (.ref (A_BB Z a0)) ∧ Sta Z Z.heap "com/example/tenorloom/tenorloom/bond/Rating" "BB" "Lcom/example/tenorloom/tenorloom/bond/Rating;" (.ref (A_BB Z a0)) ∧ Exa Z Z.heap (A_BB Z a0) "com/example/tenorloom/tenorloom/bond/Rating" := sad_exa (nw hn 11 rfl) (tw hw 4 rfl) (tw hw 28 rfl)
def A_BB_MINUS (Z : State) (a0 : Array Value) : Addr := sad Z a0 "com/example/tenorloom/tenorloom/bond/Rating" "BB_MINUS" "Lcom/example/tenorloom/tenorloom/bond/Rating;"
theorem s_BB_MINUS {Z : State} {a0 : Array Value} (hw : ∀ d ∈ tables_1, d.before a0 Z = true) (hn : narrow_1.value a0 Z none Z [] = some true) : (Term.static "com/example/tenorloom/tenorloom/bond/Rating" "BB_MINUS" "Lcom/example/tenorloom/tenorloom/bond/Rating;").eval a0 Z none [] Z = some (.ref (A_BB_MINUS Z a0)) ∧ Sta Z Z.heap "com/example/tenorloom/tenorloom/bond/Rating" "BB_MINUS" "Lcom/example/tenorloom/tenorloom/bond/Rating;" (.ref (A_BB_MINUS Z a0)) ∧ Exa Z Z.heap (A_BB_MINUS Z a0) "com/example/tenorloom/tenorloom/bond/Rating" := sad_exa (nw hn 12 rfl) (tw hw 4 rfl) (tw hw 30 rfl)
def A_B_PLUS (Z : State) (a0 : Array Value) : Addr := sad Z a0 "com/example/tenorloom/tenorloom/bond/Rating" "B_PLUS" "Lcom/example/tenorloom/tenorloom/bond/Rating;"
theorem s_B_PLUS {Z : State} {a0 : Array Value} (hw : ∀ d ∈ tables_1, d.before a0 Z = true) (hn : narrow_1.value a0 Z none Z [] = some true) : (Term.static "com/example/tenorloom/tenorloom/bond/Rating" "B_PLUS" "Lcom/example/tenorloom/tenorloom/bond/Rating;").eval a0 Z none [] Z = some (.ref (A_B_PLUS Z a0)) ∧ Sta Z Z.heap "com/example/tenorloom/tenorloom/bond/Rating" "B_PLUS" "Lcom/example/tenorloom/tenorloom/bond/Rating;" (.ref (A_B_PLUS Z a0)) ∧ Exa Z Z.heap (A_B_PLUS Z a0) "com/example/tenorloom/tenorloom/bond/Rating" := sad_exa (nw hn 13 rfl) (tw hw 4 rfl) (tw hw 32 rfl)
def A_B (Z : State) (a0 : Array Value) : Addr := sad Z a0 "com/example/tenorloom/tenorloom/bond/Rating" "B" "Lcom/example/tenorloom/tenorloom/bond/Rating;"
theorem s_B {Z : State} {a0 : Array Value} (hw : ∀ d ∈ tables_1, d.before a0 Z = true) (hn : narrow_1.value a0 Z none Z [] = some true) : (Term.static "com/example/tenorloom/tenorloom/bond/Rating" "B" "Lcom/example/tenorloom/tenorloom/bond/Rating;").eval a0 Z none [] Z = some (.ref (A_B Z a0)) ∧ Sta Z Z.heap "com/example/tenorloom/tenorloom/bond/Rating" "B" "Lcom/example/tenorloom/tenorloom/bond/Rating;" (.ref (A_B Z a0)) ∧ Exa Z Z.heap (A_B Z a0) "com/example/tenorloom/tenorloom/bond/Rating" := sad_exa (nw hn 14 rfl) (tw hw 4 rfl) (tw hw 34 rfl)
def A_B_MINUS (Z : State) (a0 : Array Value) : Addr := sad Z a0 "com/example/tenorloom/tenorloom/bond/Rating" "B_MINUS" "Lcom/example/tenorloom/tenorloom/bond/Rating;"
theorem s_B_MINUS {Z : State} {a0 : Array Value} (hw : ∀ d ∈ tables_1, d.before a0 Z = true) (hn : narrow_1.value a0 Z none Z [] = some true) : (Term.static "com/example/tenorloom/tenorloom/bond/Rating" "B_MINUS" "Lcom/example/tenorloom/tenorloom/bond/Rating;").eval a0 Z none [] Z = some (.ref (A_B_MINUS Z a0)) ∧ Sta Z Z.heap "com/example/tenorloom/tenorloom/bond/Rating" "B_MINUS" "Lcom/example/tenorloom/tenorloom/bond/Rating;" (.ref (A_B_MINUS Z a0)) ∧ Exa Z Z.heap (A_B_MINUS Z a0) "com/example/tenorloom/tenorloom/bond/Rating" := sad_exa (nw hn 15 rfl) (tw hw 4 rfl) (tw hw 36 rfl)
def A_CCC_PLUS (Z : State) (a0 : Array Value) : Addr := sad Z a0 "com/example/tenorloom/tenorloom/bond/Rating" "CCC_PLUS" "Lcom/example/tenorloom/tenorloom/bond/Rating;"
theorem s_CCC_PLUS {Z : State} {a0 : Array Value} (hw : ∀ d ∈ tables_1, d.before a0 Z = true) (hn : narrow_1.value a0 Z none Z [] = some true) : (Term.static "com/example/tenorloom/tenorloom/bond/Rating" "CCC_PLUS" "Lcom/example/tenorloom/tenorloom/bond/Rating;").eval a0 Z none [] Z = some (.ref (A_CCC_PLUS Z a0)) ∧ Sta Z Z.heap "com/example/tenorloom/tenorloom/bond/Rating" "CCC_PLUS" "Lcom/example/tenorloom/tenorloom/bond/Rating;" (.ref (A_CCC_PLUS Z a0)) ∧ Exa Z Z.heap (A_CCC_PLUS Z a0) "com/example/tenorloom/tenorloom/bond/Rating" := sad_exa (nw hn 16 rfl) (tw hw 4 rfl) (tw hw 38 rfl)
def A_CCC (Z : State) (a0 : Array Value) : Addr := sad Z a0 "com/example/tenorloom/tenorloom/bond/Rating" "CCC" "Lcom/example/tenorloom/tenorloom/bond/Rating;"
theorem s_CCC {Z : State} {a0 : Array Value} (hw : ∀ d ∈ tables_1, d.before a0 Z = true) (hn : narrow_1.value a0 Z none Z [] = some true) : (Term.static "com/example/tenorloom/tenorloom/bond/Rating" "CCC" "Lcom/example/tenorloom/tenorloom/bond/Rating;").eval a0 Z none [] Z = some (.ref (A_CCC Z a0)) ∧ Sta Z Z.heap "com/example/tenorloom/tenorloom/bond/Rating" "CCC" "Lcom/example/tenorloom/tenorloom/bond/Rating;" (.ref (A_CCC Z a0)) ∧ Exa Z Z.heap (A_CCC Z a0) "com/example/tenorloom/tenorloom/bond/Rating" := sad_exa (nw hn 17 rfl) (tw hw 4 rfl) (tw hw 40 rfl)
def A_CCC_MINUS (Z : State) (a0 : Array Value) : Addr := sad Z a0 "com/example/tenorloom/tenorloom/bond/Rating" "CCC_MINUS" "Lcom/example/tenorloom/tenorloom/bond/Rating;"
theorem s_CCC_MINUS {Z : State} {a0 : Array Value} (hw : ∀ d ∈ tables_1, d.before a0 Z = true) (hn : narrow_1.value a0 Z none Z [] = some true) : (Term.static "com/example/tenorloom/tenorloom/bond/Rating" "CCC_MINUS" "Lcom/example/tenorloom/tenorloom/bond/Rating;").eval a0 Z none [] Z = some (.ref (A_CCC_MINUS Z a0)) ∧ Sta Z Z.heap "com/example/tenorloom/tenorloom/bond/Rating" "CCC_MINUS" "Lcom/example/tenorloom/tenorloom/bond/Rating;" (.ref (A_CCC_MINUS Z a0)) ∧ Exa Z Z.heap (A_CCC_MINUS Z a0) "com/example/tenorloom/tenorloom/bond/Rating" := sad_exa (nw hn 18 rfl) (tw hw 4 rfl) (tw hw 42 rfl)
def A_CC (Z : State) (a0 : Array Value) : Addr := sad Z a0 "com/example/tenorloom/tenorloom/bond/Rating" "CC" "Lcom/example/tenorloom/tenorloom/bond/Rating;"
theorem s_CC {Z : State} {a0 : Array Value} (hw : ∀ d ∈ tables_1, d.before a0 Z = true) (hn : narrow_1.value a0 Z none Z [] = some true) : (Term.static "com/example/tenorloom/tenorloom/bond/Rating" "CC" "Lcom/example/tenorloom/tenorloom/bond/Rating;").eval a0 Z none [] Z = some (.ref (A_CC Z a0)) ∧ Sta Z Z.heap "com/example/tenorloom/tenorloom/bond/Rating" "CC" "Lcom/example/tenorloom/tenorloom/bond/Rating;" (.ref (A_CC Z a0)) ∧ Exa Z Z.heap (A_CC Z a0) "com/example/tenorloom/tenorloom/bond/Rating" := sad_exa (nw hn 19 rfl) (tw hw 4 rfl) (tw hw 44 rfl)
def A_C (Z : State) (a0 : Array Value) : Addr := sad Z a0 "com/example/tenorloom/tenorloom/bond/Rating" "C" "Lcom/example/tenorloom/tenorloom/bond/Rating;"
theorem s_C {Z : State} {a0 : Array Value} (hw : ∀ d ∈ tables_1, d.before a0 Z = true) (hn : narrow_1.value a0 Z none Z [] = some true) : (Term.static "com/example/tenorloom/tenorloom/bond/Rating" "C" "Lcom/example/tenorloom/tenorloom/bond/Rating;").eval a0 Z none [] Z = some (.ref (A_C Z a0)) ∧ Sta Z Z.heap "com/example/tenorloom/tenorloom/bond/Rating" "C" "Lcom/example/tenorloom/tenorloom/bond/Rating;" (.ref (A_C Z a0)) ∧ Exa Z Z.heap (A_C Z a0) "com/example/tenorloom/tenorloom/bond/Rating" := sad_exa (nw hn 20 rfl) (tw hw 4 rfl) (tw hw 46 rfl)
def A_D (Z : State) (a0 : Array Value) : Addr := sad Z a0 "com/example/tenorloom/tenorloom/bond/Rating" "D" "Lcom/example/tenorloom/tenorloom/bond/Rating;"
theorem s_D {Z : State} {a0 : Array Value} (hw : ∀ d ∈ tables_1, d.before a0 Z = true) (hn : narrow_1.value a0 Z none Z [] = some true) : (Term.static "com/example/tenorloom/tenorloom/bond/Rating" "D" "Lcom/example/tenorloom/tenorloom/bond/Rating;").eval a0 Z none [] Z = some (.ref (A_D Z a0)) ∧ Sta Z Z.heap "com/example/tenorloom/tenorloom/bond/Rating" "D" "Lcom/example/tenorloom/tenorloom/bond/Rating;" (.ref (A_D Z a0)) ∧ Exa Z Z.heap (A_D Z a0) "com/example/tenorloom/tenorloom/bond/Rating" := sad_exa (nw hn 21 rfl) (tw hw 4 rfl) (tw hw 48 rfl)
def A__VALUES (Z : State) (a0 : Array Value) : Addr := sad Z a0 "com/example/tenorloom/tenorloom/bond/Rating" "$VALUES" "[Lcom/example/tenorloom/tenorloom/bond/Rating;"
theorem s__VALUES {Z : State} {a0 : Array Value} (hw : ∀ d ∈ tables_1, d.before a0 Z = true) (hn : narrow_1.value a0 Z none Z [] = some true) : (Term.static "com/example/tenorloom/tenorloom/bond/Rating" "$VALUES" "[Lcom/example/tenorloom/tenorloom/bond/Rating;").eval a0 Z none [] Z = some (.ref (A__VALUES Z a0)) ∧ Sta Z Z.heap "com/example/tenorloom/tenorloom/bond/Rating" "$VALUES" "[Lcom/example/tenorloom/tenorloom/bond/Rating;" (.ref (A__VALUES Z a0)) ∧ Exa Z Z.heap (A__VALUES Z a0) "[Lcom/example/tenorloom/tenorloom/bond/Rating;" := sad_exa (nw hn 23 rfl) (tw hw 4 rfl) (tw hw 56 rfl)
theorem f_AAA_ordinal {Z : State} {a0 : Array Value} (hw : ∀ d ∈ tables_1, d.before a0 Z = true) (hn : narrow_1.value a0 Z none Z [] = some true) : Fld Z Z.heap (A_AAA Z a0) "java/lang/Enum" "ordinal" "I" (.int (0 : Int32)) := fld_int (nw hn 47 rfl) (s_AAA hw hn).1
theorem f_AA_MINUS_ordinal {Z : State} {a0 : Array Value} (hw : ∀ d ∈ tables_1, d.before a0 Z = true) (hn : narrow_1.value a0 Z none Z [] = some true) : Fld Z Z.heap (A_AA_MINUS Z a0) "java/lang/Enum" "ordinal" "I" (.int (3 : Int32)) := fld_int (nw hn 48 rfl) (s_AA_MINUS hw hn).1
theorem f_BBB_PLUS_ordinal {Z : State} {a0 : Array Value} (hw : ∀ d ∈ tables_1, d.before a0 Z = true) (hn : narrow_1.value a0 Z none Z [] = some true) : Fld Z Z.heap (A_BBB_PLUS Z a0) "java/lang/Enum" "ordinal" "I" (.int (7 : Int32)) := fld_int (nw hn 49 rfl) (s_BBB_PLUS hw hn).1
theorem f_BBB_ordinal {Z : State} {a0 : Array Value} (hw : ∀ d ∈ tables_1, d.before a0 Z = true) (hn : narrow_1.value a0 Z none Z [] = some true) : Fld Z Z.heap (A_BBB Z a0) "java/lang/Enum" "ordinal" "I" (.int (8 : Int32)) := fld_int (nw hn 50 rfl) (s_BBB hw hn).1
theorem f_AA_ordinal {Z : State} {a0 : Array Value} (hw : ∀ d ∈ tables_1, d.before a0 Z = true) (hn : narrow_1.value a0 Z none Z [] = some true) : Fld Z Z.heap (A_AA Z a0) "java/lang/Enum" "ordinal" "I" (.int (2 : Int32)) := fld_int (nw hn 51 rfl) (s_AA hw hn).1
theorem f_BB_ordinal {Z : State} {a0 : Array Value} (hw : ∀ d ∈ tables_1, d.before a0 Z = true) (hn : narrow_1.value a0 Z none Z [] = some true) : Fld Z Z.heap (A_BB Z a0) "java/lang/Enum" "ordinal" "I" (.int (11 : Int32)) := fld_int (nw hn 52 rfl) (s_BB hw hn).1
theorem f_BB_PLUS_ordinal {Z : State} {a0 : Array Value} (hw : ∀ d ∈ tables_1, d.before a0 Z = true) (hn : narrow_1.value a0 Z none Z [] = some true) : Fld Z Z.heap (A_BB_PLUS Z a0) "java/lang/Enum" "ordinal" "I" (.int (10 : Int32)) := fld_int (nw hn 53 rfl) (s_BB_PLUS hw hn).1
theorem f_AA_PLUS_ordinal {Z : State} {a0 : Array Value} (hw : ∀ d ∈ tables_1, d.before a0 Z = true) (hn : narrow_1.value a0 Z none Z [] = some true) : Fld Z Z.heap (A_AA_PLUS Z a0) "java/lang/Enum" "ordinal" "I" (.int (1 : Int32)) := fld_int (nw hn 54 rfl) (s_AA_PLUS hw hn).1
theorem f_BBB_MINUS_ordinal {Z : State} {a0 : Array Value} (hw : ∀ d ∈ tables_1, d.before a0 Z = true) (hn : narrow_1.value a0 Z none Z [] = some true) : Fld Z Z.heap (A_BBB_MINUS Z a0) "java/lang/Enum" "ordinal" "I" (.int (9 : Int32)) := fld_int (nw hn 55 rfl) (s_BBB_MINUS hw hn).1
theorem f_A_ordinal {Z : State} {a0 : Array Value} (hw : ∀ d ∈ tables_1, d.before a0 Z = true) (hn : narrow_1.value a0 Z none Z [] = some true) : Fld Z Z.heap (A_A Z a0) "java/lang/Enum" "ordinal" "I" (.int (5 : Int32)) := fld_int (nw hn 56 rfl) (s_A hw hn).1
theorem f_CCC_PLUS_ordinal {Z : State} {a0 : Array Value} (hw : ∀ d ∈ tables_1, d.before a0 Z = true) (hn : narrow_1.value a0 Z none Z [] = some true) : Fld Z Z.heap (A_CCC_PLUS Z a0) "java/lang/Enum" "ordinal" "I" (.int (16 : Int32)) := fld_int (nw hn 57 rfl) (s_CCC_PLUS hw hn).1
theorem f_A_MINUS_ordinal {Z : State} {a0 : Array Value} (hw : ∀ d ∈ tables_1, d.before a0 Z = true) (hn : narrow_1.value a0 Z none Z [] = some true) : Fld Z Z.heap (A_A_MINUS Z a0) "java/lang/Enum" "ordinal" "I" (.int (6 : Int32)) := fld_int (nw hn 58 rfl) (s_A_MINUS hw hn).1
theorem f_CC_ordinal {Z : State} {a0 : Array Value} (hw : ∀ d ∈ tables_1, d.before a0 Z = true) (hn : narrow_1.value a0 Z none Z [] = some true) : Fld Z Z.heap (A_CC Z a0) "java/lang/Enum" "ordinal" "I" (.int (19 : Int32)) := fld_int (nw hn 59 rfl) (s_CC hw hn).1
theorem f_CCC_MINUS_ordinal {Z : State} {a0 : Array Value} (hw : ∀ d ∈ tables_1, d.before a0 Z = true) (hn : narrow_1.value a0 Z none Z [] = some true) : Fld Z Z.heap (A_CCC_MINUS Z a0) "java/lang/Enum" "ordinal" "I" (.int (18 : Int32)) := fld_int (nw hn 60 rfl) (s_CCC_MINUS hw hn).1
theorem f_B_MINUS_ordinal {Z : State} {a0 : Array Value} (hw : ∀ d ∈ tables_1, d.before a0 Z = true) (hn : narrow_1.value a0 Z none Z [] = some true) : Fld Z Z.heap (A_B_MINUS Z a0) "java/lang/Enum" "ordinal" "I" (.int (15 : Int32)) := fld_int (nw hn 61 rfl) (s_B_MINUS hw hn).1
theorem f_A_PLUS_ordinal {Z : State} {a0 : Array Value} (hw : ∀ d ∈ tables_1, d.before a0 Z = true) (hn : narrow_1.value a0 Z none Z [] = some true) : Fld Z Z.heap (A_A_PLUS Z a0) "java/lang/Enum" "ordinal" "I" (.int (4 : Int32)) := fld_int (nw hn 62 rfl) (s_A_PLUS hw hn).1
theorem f_D_ordinal {Z : State} {a0 : Array Value} (hw : ∀ d ∈ tables_1, d.before a0 Z = true) (hn : narrow_1.value a0 Z none Z [] = some true) : Fld Z Z.heap (A_D Z a0) "java/lang/Enum" "ordinal" "I" (.int (21 : Int32)) := fld_int (nw hn 63 rfl) (s_D hw hn).1
theorem f_B_ordinal {Z : State} {a0 : Array Value} (hw : ∀ d ∈ tables_1, d.before a0 Z = true) (hn : narrow_1.value a0 Z none Z [] = some true) : Fld Z Z.heap (A_B Z a0) "java/lang/Enum" "ordinal" "I" (.int (14 : Int32)) := fld_int (nw hn 64 rfl) (s_B hw hn).1
theorem f_BB_MINUS_ordinal {Z : State} {a0 : Array Value} (hw : ∀ d ∈ tables_1, d.before a0 Z = true) (hn : narrow_1.value a0 Z none Z [] = some true) : Fld Z Z.heap (A_BB_MINUS Z a0) "java/lang/Enum" "ordinal" "I" (.int (12 : Int32)) := fld_int (nw hn 65 rfl) (s_BB_MINUS hw hn).1
theorem f_B_PLUS_ordinal {Z : State} {a0 : Array Value} (hw : ∀ d ∈ tables_1, d.before a0 Z = true) (hn : narrow_1.value a0 Z none Z [] = some true) : Fld Z Z.heap (A_B_PLUS Z a0) "java/lang/Enum" "ordinal" "I" (.int (13 : Int32)) := fld_int (nw hn 66 rfl) (s_B_PLUS hw hn).1
theorem f_CCC_ordinal {Z : State} {a0 : Array Value} (hw : ∀ d ∈ tables_1, d.before a0 Z = true) (hn : narrow_1.value a0 Z none Z [] = some true) : Fld Z Z.heap (A_CCC Z a0) "java/lang/Enum" "ordinal" "I" (.int (17 : Int32)) := fld_int (nw hn 67 rfl) (s_CCC hw hn).1
theorem f_C_ordinal {Z : State} {a0 : Array Value} (hw : ∀ d ∈ tables_1, d.before a0 Z = true) (hn : narrow_1.value a0 Z none Z [] = some true) : Fld Z Z.heap (A_C Z a0) "java/lang/Enum" "ordinal" "I" (.int (20 : Int32)) := fld_int (nw hn 68 rfl) (s_C hw hn).1
theorem v__VALUES {Z : State} {a0 : Array Value} (hw : ∀ d ∈ tables_1, d.before a0 Z = true) (hF : Fit Z) (hn : narrow_1.value a0 Z none Z [] = some true) : ∃ kc, Arv Z Z.heap (A__VALUES Z a0) kc (.object "com/example/tenorloom/tenorloom/bond/Rating") (22 : Int32) [(.ref (A_AAA Z a0)), (.ref (A_AA_PLUS Z a0)), (.ref (A_AA Z a0)), (.ref (A_AA_MINUS Z a0)), (.ref (A_A_PLUS Z a0)), (.ref (A_A Z a0)), (.ref (A_A_MINUS Z a0)), (.ref (A_BBB_PLUS Z a0)), (.ref (A_BBB Z a0)), (.ref (A_BBB_MINUS Z a0)), (.ref (A_BB_PLUS Z a0)), (.ref (A_BB Z a0)), (.ref (A_BB_MINUS Z a0)), (.ref (A_B_PLUS Z a0)), (.ref (A_B Z a0)), (.ref (A_B_MINUS Z a0)), (.ref (A_CCC_PLUS Z a0)), (.ref (A_CCC Z a0)), (.ref (A_CCC_MINUS Z a0)), (.ref (A_CC Z a0)), (.ref (A_C Z a0)), (.ref (A_D Z a0))] .null := arv_start hF (nw hn 22 rfl) (s__VALUES hw hn).1 (nw hn 24 rfl) (by decide) rfl (fun cl hc => ⟨elem_slot (nw hn 25 rfl) (s__VALUES hw hn).1 (s_AAA hw hn).1 (by decide) hc, elem_slot (nw hn 26 rfl) (s__VALUES hw hn).1 (s_AA_PLUS hw hn).1 (by decide) hc, elem_slot (nw hn 27 rfl) (s__VALUES hw hn).1 (s_AA hw hn).1 (by decide) hc, elem_slot (nw hn 28 rfl) (s__VALUES hw hn).1 (s_AA_MINUS hw hn).1 (by decide) hc, elem_slot (nw hn 29 rfl) (s__VALUES hw hn).1 (s_A_PLUS hw hn).1 (by decide) hc, elem_slot (nw hn 30 rfl) (s__VALUES hw hn).1 (s_A hw hn).1 (by decide) hc, elem_slot (nw hn 31 rfl) (s__VALUES hw hn).1 (s_A_MINUS hw hn).1 (by decide) hc, elem_slot (nw hn 32 rfl) (s__VALUES hw hn).1 (s_BBB_PLUS hw hn).1 (by decide) hc, elem_slot (nw hn 33 rfl) (s__VALUES hw hn).1 (s_BBB hw hn).1 (by decide) hc, elem_slot (nw hn 34 rfl) (s__VALUES hw hn).1 (s_BBB_MINUS hw hn).1 (by decide) hc, elem_slot (nw hn 35 rfl) (s__VALUES hw hn).1 (s_BB_PLUS hw hn).1 (by decide) hc, elem_slot (nw hn 36 rfl) (s__VALUES hw hn).1 (s_BB hw hn).1 (by decide) hc, elem_slot (nw hn 37 rfl) (s__VALUES hw hn).1 (s_BB_MINUS hw hn).1 (by decide) hc, elem_slot (nw hn 38 rfl) (s__VALUES hw hn).1 (s_B_PLUS hw hn).1 (by decide) hc, elem_slot (nw hn 39 rfl) (s__VALUES hw hn).1 (s_B hw hn).1 (by decide) hc, elem_slot (nw hn 40 rfl) (s__VALUES hw hn).1 (s_B_MINUS hw hn).1 (by decide) hc, elem_slot (nw hn 41 rfl) (s__VALUES hw hn).1 (s_CCC_PLUS hw hn).1 (by decide) hc, elem_slot (nw hn 42 rfl) (s__VALUES hw hn).1 (s_CCC hw hn).1 (by decide) hc, elem_slot (nw hn 43 rfl) (s__VALUES hw hn).1 (s_CCC_MINUS hw hn).1 (by decide) hc, elem_slot (nw hn 44 rfl) (s__VALUES hw hn).1 (s_CC hw hn).1 (by decide) hc, elem_slot (nw hn 45 rfl) (s__VALUES hw hn).1 (s_C hw hn).1 (by decide) hc, elem_slot (nw hn 46 rfl) (s__VALUES hw hn).1 (s_D hw hn).1 (by decide) hc, trivial⟩)
theorem own_plus (i : Int32) (h1 : 0 ≤ i.toInt) (h2 : i.toInt < 22) : ¬ i + 1 < 1 ∧ ¬ 22 < i + 1 ∧ i + 1 - 1 = i := by
  have e : (i + 1).toInt = i.toInt + 1 := by
    have q := c_iadd i 1
    have r := rng32 (i + 1)
    rw [show (1 : Int32).toInt = 1 from rfl] at q
    omega
  refine ⟨?_, ?_, ?_⟩
  · rw [Int32.lt_iff_toInt_lt, e, show (1 : Int32).toInt = 1 from rfl]; omega
  · rw [Int32.lt_iff_toInt_lt, e, show (22 : Int32).toInt = 22 from rfl]; omega
  · exact Int32.add_sub_cancel i 1
theorem own_el {Z : State} {a0 : Array Value} (hw : ∀ d ∈ tables_1, d.before a0 Z = true) (hn : narrow_1.value a0 Z none Z [] = some true) (i : Int32) (h0 : 0 ≤ i.toInt) (h1 : i.toInt < 22) : ∃ a, ([(.ref (A_AAA Z a0)), (.ref (A_AA_PLUS Z a0)), (.ref (A_AA Z a0)), (.ref (A_AA_MINUS Z a0)), (.ref (A_A_PLUS Z a0)), (.ref (A_A Z a0)), (.ref (A_A_MINUS Z a0)), (.ref (A_BBB_PLUS Z a0)), (.ref (A_BBB Z a0)), (.ref (A_BBB_MINUS Z a0)), (.ref (A_BB_PLUS Z a0)), (.ref (A_BB Z a0)), (.ref (A_BB_MINUS Z a0)), (.ref (A_B_PLUS Z a0)), (.ref (A_B Z a0)), (.ref (A_B_MINUS Z a0)), (.ref (A_CCC_PLUS Z a0)), (.ref (A_CCC Z a0)), (.ref (A_CCC_MINUS Z a0)), (.ref (A_CC Z a0)), (.ref (A_C Z a0)), (.ref (A_D Z a0))] : List Value).getD i.toNatClampNeg .null = .ref a ∧ Exa Z Z.heap a "com/example/tenorloom/tenorloom/bond/Rating" ∧ Fld Z Z.heap a "java/lang/Enum" "ordinal" "I" (.int i) := by
  obtain ⟨j, h, rfl⟩ := natOf (n := 22) h0 h1
  have h2 : j = 0 ∨ j = 1 ∨ j = 2 ∨ j = 3 ∨ j = 4 ∨ j = 5 ∨ j = 6 ∨ j = 7 ∨ j = 8 ∨ j = 9 ∨ j = 10 ∨ j = 11 ∨ j = 12 ∨ j = 13 ∨ j = 14 ∨ j = 15 ∨ j = 16 ∨ j = 17 ∨ j = 18 ∨ j = 19 ∨ j = 20 ∨ j = 21 := by omega
  rcases h2 with rfl | rfl | rfl | rfl | rfl | rfl | rfl | rfl | rfl | rfl | rfl | rfl | rfl | rfl | rfl | rfl | rfl | rfl | rfl | rfl | rfl | rfl
  · exact ⟨A_AAA Z a0, rfl, (s_AAA hw hn).2.2, f_AAA_ordinal hw hn⟩
  · exact ⟨A_AA_PLUS Z a0, rfl, (s_AA_PLUS hw hn).2.2, f_AA_PLUS_ordinal hw hn⟩
  · exact ⟨A_AA Z a0, rfl, (s_AA hw hn).2.2, f_AA_ordinal hw hn⟩
  · exact ⟨A_AA_MINUS Z a0, rfl, (s_AA_MINUS hw hn).2.2, f_AA_MINUS_ordinal hw hn⟩
  · exact ⟨A_A_PLUS Z a0, rfl, (s_A_PLUS hw hn).2.2, f_A_PLUS_ordinal hw hn⟩
  · exact ⟨A_A Z a0, rfl, (s_A hw hn).2.2, f_A_ordinal hw hn⟩
  · exact ⟨A_A_MINUS Z a0, rfl, (s_A_MINUS hw hn).2.2, f_A_MINUS_ordinal hw hn⟩
  · exact ⟨A_BBB_PLUS Z a0, rfl, (s_BBB_PLUS hw hn).2.2, f_BBB_PLUS_ordinal hw hn⟩
  · exact ⟨A_BBB Z a0, rfl, (s_BBB hw hn).2.2, f_BBB_ordinal hw hn⟩
  · exact ⟨A_BBB_MINUS Z a0, rfl, (s_BBB_MINUS hw hn).2.2, f_BBB_MINUS_ordinal hw hn⟩
  · exact ⟨A_BB_PLUS Z a0, rfl, (s_BB_PLUS hw hn).2.2, f_BB_PLUS_ordinal hw hn⟩
  · exact ⟨A_BB Z a0, rfl, (s_BB hw hn).2.2, f_BB_ordinal hw hn⟩
  · exact ⟨A_BB_MINUS Z a0, rfl, (s_BB_MINUS hw hn).2.2, f_BB_MINUS_ordinal hw hn⟩
  · exact ⟨A_B_PLUS Z a0, rfl, (s_B_PLUS hw hn).2.2, f_B_PLUS_ordinal hw hn⟩
  · exact ⟨A_B Z a0, rfl, (s_B hw hn).2.2, f_B_ordinal hw hn⟩
  · exact ⟨A_B_MINUS Z a0, rfl, (s_B_MINUS hw hn).2.2, f_B_MINUS_ordinal hw hn⟩
  · exact ⟨A_CCC_PLUS Z a0, rfl, (s_CCC_PLUS hw hn).2.2, f_CCC_PLUS_ordinal hw hn⟩
  · exact ⟨A_CCC Z a0, rfl, (s_CCC hw hn).2.2, f_CCC_ordinal hw hn⟩
  · exact ⟨A_CCC_MINUS Z a0, rfl, (s_CCC_MINUS hw hn).2.2, f_CCC_MINUS_ordinal hw hn⟩
  · exact ⟨A_CC Z a0, rfl, (s_CC hw hn).2.2, f_CC_ordinal hw hn⟩
  · exact ⟨A_C Z a0, rfl, (s_C hw hn).2.2, f_C_ordinal hw hn⟩
  · exact ⟨A_D Z a0, rfl, (s_D hw hn).2.2, f_D_ordinal hw hn⟩

theorem ef2 (m : MethodId)  : entryFrame m #[] 0 = mkF m 0 #[] [] := by first | (simp [entryFrame, mkF, argsToLocals, Value.category]; done) | rfl
theorem ef1 (m : MethodId) (x0 : Int32) : entryFrame m #[(.int x0)] 1 = mkF m 0 #[.val (.int x0)] [] := by first | (simp [entryFrame, mkF, argsToLocals, Value.category]; done) | rfl
theorem ef3 (m : MethodId) (x0 : Addr) : entryFrame m #[(.ref x0)] 1 = mkF m 0 #[.val (.ref x0)] [] := by first | (simp [entryFrame, mkF, argsToLocals, Value.category]; done) | rfl
theorem ef4 (m : MethodId) (x0 : Addr) : entryFrame m #[(.ref x0)] 1 = mkF m 0 #[.val (.ref x0)] [] := by first | (simp [entryFrame, mkF, argsToLocals, Value.category]; done) | rfl
theorem ef0 (m : MethodId) (x0 : Int32) : entryFrame m #[(.int x0)] maxLocals = mkF m 0 #[.val (.int x0), .unset, .unset, .unset] [] := by first | (simp [entryFrame, mkF, argsToLocals, Value.category, maxLocals]; done) | rfl
theorem d1_0 : Dc prog_18_method_4_code 0 (.iload_n 0) 1 1 := ⟨by decide +kernel, rfl⟩
theorem d1_1 : Dc prog_18_method_4_code 1 (.iconst 1) 1 2 := ⟨by decide +kernel, rfl⟩
theorem d1_2 : Dc prog_18_method_4_code 2 (.if_icmp .lt 9) 3 5 := ⟨by decide +kernel, rfl⟩
theorem d1_2t : Tg 2 (9) 11 := ⟨by decide, by decide⟩
theorem d1_5 : Dc prog_18_method_4_code 5 (.iload_n 0) 1 6 := ⟨by decide +kernel, rfl⟩
theorem d1_6 : Dc prog_18_method_4_code 6 (.bipush 22) 2 8 := ⟨by decide +kernel, rfl⟩
theorem d1_8 : Dc prog_18_method_4_code 8 (.if_icmp .le 35) 3 11 := ⟨by decide +kernel, rfl⟩
theorem d1_8t : Tg 8 (35) 43 := ⟨by decide, by decide⟩
theorem d1_11 : Dc prog_18_method_4_code 11 (.new 96) 3 14 := ⟨by decide +kernel, rfl⟩
theorem d1_14 : Dc prog_18_method_4_code 14 .dup 1 15 := ⟨by decide +kernel, rfl⟩
theorem d1_15 : Dc prog_18_method_4_code 15 (.ldc 98) 2 17 := ⟨by decide +kernel, rfl⟩
theorem d1_17 : Dc prog_18_method_4_code 17 (.iconst 2) 1 18 := ⟨by decide +kernel, rfl⟩
theorem d1_18 : Dc prog_18_method_4_code 18 (.anewarray 100) 3 21 := ⟨by decide +kernel, rfl⟩
theorem d1_21 : Dc prog_18_method_4_code 21 .dup 1 22 := ⟨by decide +kernel, rfl⟩
theorem d1_22 : Dc prog_18_method_4_code 22 (.iconst 0) 1 23 := ⟨by decide +kernel, rfl⟩
theorem d1_23 : Dc prog_18_method_4_code 23 (.iload_n 0) 1 24 := ⟨by decide +kernel, rfl⟩
theorem d1_24 : Dc prog_18_method_4_code 24 (.invokestatic 102) 3 27 := ⟨by decide +kernel, rfl⟩
theorem d1_27 : Dc prog_18_method_4_code 27 .aastore 1 28 := ⟨by decide +kernel, rfl⟩
theorem d1_28 : Dc prog_18_method_4_code 28 .dup 1 29 := ⟨by decide +kernel, rfl⟩
theorem d1_29 : Dc prog_18_method_4_code 29 (.iconst 1) 1 30 := ⟨by decide +kernel, rfl⟩
theorem d1_30 : Dc prog_18_method_4_code 30 (.bipush 22) 2 32 := ⟨by decide +kernel, rfl⟩
theorem d1_32 : Dc prog_18_method_4_code 32 (.invokestatic 102) 3 35 := ⟨by decide +kernel, rfl⟩
theorem d1_35 : Dc prog_18_method_4_code 35 .aastore 1 36 := ⟨by decide +kernel, rfl⟩
theorem d1_36 : Dc prog_18_method_4_code 36 (.invokestatic 107) 3 39 := ⟨by decide +kernel, rfl⟩
theorem d1_39 : Dc prog_18_method_4_code 39 (.invokespecial 113) 3 42 := ⟨by decide +kernel, rfl⟩
theorem d1_42 : Dc prog_18_method_4_code 42 .athrow 1 43 := ⟨by decide +kernel, rfl⟩
theorem d1_43 : Dc prog_18_method_4_code 43 (.invokestatic 116) 3 46 := ⟨by decide +kernel, rfl⟩
theorem d1_46 : Dc prog_18_method_4_code 46 (.iload_n 0) 1 47 := ⟨by decide +kernel, rfl⟩
theorem d1_47 : Dc prog_18_method_4_code 47 (.iconst 1) 1 48 := ⟨by decide +kernel, rfl⟩
theorem d1_48 : Dc prog_18_method_4_code 48 .isub 1 49 := ⟨by decide +kernel, rfl⟩
theorem d1_49 : Dc prog_18_method_4_code 49 .aaload 1 50 := ⟨by decide +kernel, rfl⟩
theorem d1_50 : Dc prog_18_method_4_code 50 .areturn 1 51 := ⟨by decide +kernel, rfl⟩
theorem d2_0 : Dc prog_18_method_1_code 0 (.getstatic 70) 3 3 := ⟨by decide +kernel, rfl⟩
theorem d2_3 : Dc prog_18_method_1_code 3 (.invokevirtual 74) 3 6 := ⟨by decide +kernel, rfl⟩
theorem d2_6 : Dc prog_18_method_1_code 6 (.checkcast 75) 3 9 := ⟨by decide +kernel, rfl⟩
theorem d2_9 : Dc prog_18_method_1_code 9 .areturn 1 10 := ⟨by decide +kernel, rfl⟩
theorem d3_0 : Dc prog_18_method_5_code 0 (.aload_n 0) 1 1 := ⟨by decide +kernel, rfl⟩
theorem d3_1 : Dc prog_18_method_5_code 1 (.invokevirtual 120) 3 4 := ⟨by decide +kernel, rfl⟩
theorem d3_4 : Dc prog_18_method_5_code 4 (.iconst 1) 1 5 := ⟨by decide +kernel, rfl⟩
theorem d3_5 : Dc prog_18_method_5_code 5 .iadd 1 6 := ⟨by decide +kernel, rfl⟩
theorem d3_6 : Dc prog_18_method_5_code 6 .ireturn 1 7 := ⟨by decide +kernel, rfl⟩
theorem d4_0 : Dc jdk_37_method_2_code 0 (.aload_n 0) 1 1 := ⟨by decide +kernel, rfl⟩
theorem d4_1 : Dc jdk_37_method_2_code 1 (.getfield 7) 3 4 := ⟨by decide +kernel, rfl⟩
theorem d4_4 : Dc jdk_37_method_2_code 4 .ireturn 1 5 := ⟨by decide +kernel, rfl⟩
theorem d0_0 : Dc code 0 (.iload_n 0) 1 1 := ⟨at_0, rfl⟩
theorem d0_1 : Dc code 1 (.ldc 7) 2 3 := ⟨at_1, rfl⟩
theorem d0_3 : Dc code 3 .iand 1 4 := ⟨at_3, rfl⟩
theorem d0_4 : Dc code 4 (.bipush 22) 2 6 := ⟨at_4, rfl⟩
theorem d0_6 : Dc code 6 .irem 1 7 := ⟨at_6, rfl⟩
theorem d0_7 : Dc code 7 (.iconst 1) 1 8 := ⟨at_7, rfl⟩
theorem d0_8 : Dc code 8 .iadd 1 9 := ⟨at_8, rfl⟩
theorem d0_9 : Dc code 9 (.istore_n 1) 1 10 := ⟨at_9, rfl⟩
theorem d0_10 : Dc code 10 (.bipush 22) 2 12 := ⟨at_10, rfl⟩
theorem d0_12 : Dc code 12 (.anewarray 8) 3 15 := ⟨at_12, rfl⟩
theorem d0_15 : Dc code 15 .dup 1 16 := ⟨at_15, rfl⟩
theorem d0_16 : Dc code 16 (.iconst 0) 1 17 := ⟨at_16, rfl⟩
theorem d0_17 : Dc code 17 (.getstatic 10) 3 20 := ⟨at_17, rfl⟩
theorem d0_20 : Dc code 20 .aastore 1 21 := ⟨at_20, rfl⟩
theorem d0_21 : Dc code 21 .dup 1 22 := ⟨at_21, rfl⟩
theorem d0_22 : Dc code 22 (.iconst 1) 1 23 := ⟨at_22, rfl⟩
theorem d0_23 : Dc code 23 (.getstatic 14) 3 26 := ⟨at_23, rfl⟩
theorem d0_26 : Dc code 26 .aastore 1 27 := ⟨at_26, rfl⟩
theorem d0_27 : Dc code 27 .dup 1 28 := ⟨at_27, rfl⟩
theorem d0_28 : Dc code 28 (.iconst 2) 1 29 := ⟨at_28, rfl⟩
theorem d0_29 : Dc code 29 (.getstatic 17) 3 32 := ⟨at_29, rfl⟩
theorem d0_32 : Dc code 32 .aastore 1 33 := ⟨at_32, rfl⟩
theorem d0_33 : Dc code 33 .dup 1 34 := ⟨at_33, rfl⟩
theorem d0_34 : Dc code 34 (.iconst 3) 1 35 := ⟨at_34, rfl⟩
theorem d0_35 : Dc code 35 (.getstatic 20) 3 38 := ⟨at_35, rfl⟩
theorem d0_38 : Dc code 38 .aastore 1 39 := ⟨at_38, rfl⟩
theorem d0_39 : Dc code 39 .dup 1 40 := ⟨at_39, rfl⟩
theorem d0_40 : Dc code 40 (.iconst 4) 1 41 := ⟨at_40, rfl⟩
theorem d0_41 : Dc code 41 (.getstatic 23) 3 44 := ⟨at_41, rfl⟩
theorem d0_44 : Dc code 44 .aastore 1 45 := ⟨at_44, rfl⟩
theorem d0_45 : Dc code 45 .dup 1 46 := ⟨at_45, rfl⟩
theorem d0_46 : Dc code 46 (.iconst 5) 1 47 := ⟨at_46, rfl⟩
theorem d0_47 : Dc code 47 (.getstatic 26) 3 50 := ⟨at_47, rfl⟩
theorem d0_50 : Dc code 50 .aastore 1 51 := ⟨at_50, rfl⟩
theorem d0_51 : Dc code 51 .dup 1 52 := ⟨at_51, rfl⟩
theorem d0_52 : Dc code 52 (.bipush 6) 2 54 := ⟨at_52, rfl⟩
theorem d0_54 : Dc code 54 (.getstatic 29) 3 57 := ⟨at_54, rfl⟩
theorem d0_57 : Dc code 57 .aastore 1 58 := ⟨at_57, rfl⟩
theorem d0_58 : Dc code 58 .dup 1 59 := ⟨at_58, rfl⟩
theorem d0_59 : Dc code 59 (.bipush 7) 2 61 := ⟨at_59, rfl⟩
theorem d0_61 : Dc code 61 (.getstatic 32) 3 64 := ⟨at_61, rfl⟩
theorem d0_64 : Dc code 64 .aastore 1 65 := ⟨at_64, rfl⟩
theorem d0_65 : Dc code 65 .dup 1 66 := ⟨at_65, rfl⟩
theorem d0_66 : Dc code 66 (.bipush 8) 2 68 := ⟨at_66, rfl⟩
theorem d0_68 : Dc code 68 (.getstatic 35) 3 71 := ⟨at_68, rfl⟩
theorem d0_71 : Dc code 71 .aastore 1 72 := ⟨at_71, rfl⟩
theorem d0_72 : Dc code 72 .dup 1 73 := ⟨at_72, rfl⟩
theorem d0_73 : Dc code 73 (.bipush 9) 2 75 := ⟨at_73, rfl⟩
theorem d0_75 : Dc code 75 (.getstatic 38) 3 78 := ⟨at_75, rfl⟩
theorem d0_78 : Dc code 78 .aastore 1 79 := ⟨at_78, rfl⟩
theorem d0_79 : Dc code 79 .dup 1 80 := ⟨at_79, rfl⟩
theorem d0_80 : Dc code 80 (.bipush 10) 2 82 := ⟨at_80, rfl⟩
theorem d0_82 : Dc code 82 (.getstatic 41) 3 85 := ⟨at_82, rfl⟩
theorem d0_85 : Dc code 85 .aastore 1 86 := ⟨at_85, rfl⟩
theorem d0_86 : Dc code 86 .dup 1 87 := ⟨at_86, rfl⟩
theorem d0_87 : Dc code 87 (.bipush 11) 2 89 := ⟨at_87, rfl⟩
theorem d0_89 : Dc code 89 (.getstatic 44) 3 92 := ⟨at_89, rfl⟩
theorem d0_92 : Dc code 92 .aastore 1 93 := ⟨at_92, rfl⟩
theorem d0_93 : Dc code 93 .dup 1 94 := ⟨at_93, rfl⟩
theorem d0_94 : Dc code 94 (.bipush 12) 2 96 := ⟨at_94, rfl⟩
theorem d0_96 : Dc code 96 (.getstatic 47) 3 99 := ⟨at_96, rfl⟩
theorem d0_99 : Dc code 99 .aastore 1 100 := ⟨at_99, rfl⟩
theorem d0_100 : Dc code 100 .dup 1 101 := ⟨at_100, rfl⟩
theorem d0_101 : Dc code 101 (.bipush 13) 2 103 := ⟨at_101, rfl⟩
theorem d0_103 : Dc code 103 (.getstatic 50) 3 106 := ⟨at_103, rfl⟩
theorem d0_106 : Dc code 106 .aastore 1 107 := ⟨at_106, rfl⟩
theorem d0_107 : Dc code 107 .dup 1 108 := ⟨at_107, rfl⟩
theorem d0_108 : Dc code 108 (.bipush 14) 2 110 := ⟨at_108, rfl⟩
theorem d0_110 : Dc code 110 (.getstatic 53) 3 113 := ⟨at_110, rfl⟩
theorem d0_113 : Dc code 113 .aastore 1 114 := ⟨at_113, rfl⟩
theorem d0_114 : Dc code 114 .dup 1 115 := ⟨at_114, rfl⟩
theorem d0_115 : Dc code 115 (.bipush 15) 2 117 := ⟨at_115, rfl⟩
theorem d0_117 : Dc code 117 (.getstatic 56) 3 120 := ⟨at_117, rfl⟩
theorem d0_120 : Dc code 120 .aastore 1 121 := ⟨at_120, rfl⟩
theorem d0_121 : Dc code 121 .dup 1 122 := ⟨at_121, rfl⟩
theorem d0_122 : Dc code 122 (.bipush 16) 2 124 := ⟨at_122, rfl⟩
theorem d0_124 : Dc code 124 (.getstatic 59) 3 127 := ⟨at_124, rfl⟩
theorem d0_127 : Dc code 127 .aastore 1 128 := ⟨at_127, rfl⟩
theorem d0_128 : Dc code 128 .dup 1 129 := ⟨at_128, rfl⟩
theorem d0_129 : Dc code 129 (.bipush 17) 2 131 := ⟨at_129, rfl⟩
theorem d0_131 : Dc code 131 (.getstatic 62) 3 134 := ⟨at_131, rfl⟩
theorem d0_134 : Dc code 134 .aastore 1 135 := ⟨at_134, rfl⟩
theorem d0_135 : Dc code 135 .dup 1 136 := ⟨at_135, rfl⟩
theorem d0_136 : Dc code 136 (.bipush 18) 2 138 := ⟨at_136, rfl⟩
theorem d0_138 : Dc code 138 (.getstatic 65) 3 141 := ⟨at_138, rfl⟩
theorem d0_141 : Dc code 141 .aastore 1 142 := ⟨at_141, rfl⟩
theorem d0_142 : Dc code 142 .dup 1 143 := ⟨at_142, rfl⟩
theorem d0_143 : Dc code 143 (.bipush 19) 2 145 := ⟨at_143, rfl⟩
theorem d0_145 : Dc code 145 (.getstatic 68) 3 148 := ⟨at_145, rfl⟩
theorem d0_148 : Dc code 148 .aastore 1 149 := ⟨at_148, rfl⟩
theorem d0_149 : Dc code 149 .dup 1 150 := ⟨at_149, rfl⟩
theorem d0_150 : Dc code 150 (.bipush 20) 2 152 := ⟨at_150, rfl⟩
theorem d0_152 : Dc code 152 (.getstatic 71) 3 155 := ⟨at_152, rfl⟩
theorem d0_155 : Dc code 155 .aastore 1 156 := ⟨at_155, rfl⟩
theorem d0_156 : Dc code 156 .dup 1 157 := ⟨at_156, rfl⟩
theorem d0_157 : Dc code 157 (.bipush 21) 2 159 := ⟨at_157, rfl⟩
theorem d0_159 : Dc code 159 (.getstatic 74) 3 162 := ⟨at_159, rfl⟩
theorem d0_162 : Dc code 162 .aastore 1 163 := ⟨at_162, rfl⟩
theorem d0_163 : Dc code 163 (.astore_n 2) 1 164 := ⟨at_163, rfl⟩
theorem d0_164 : Dc code 164 (.iload_n 1) 1 165 := ⟨at_164, rfl⟩
theorem d0_165 : Dc code 165 (.invokestatic 77) 3 168 := ⟨at_165, rfl⟩
theorem d0_168 : Dc code 168 (.astore_n 3) 1 169 := ⟨at_168, rfl⟩
theorem d0_169 : Dc code 169 (.aload_n 3) 1 170 := ⟨at_169, rfl⟩
theorem d0_170 : Dc code 170 (.aload_n 2) 1 171 := ⟨at_170, rfl⟩
theorem d0_171 : Dc code 171 (.iload_n 1) 1 172 := ⟨at_171, rfl⟩
theorem d0_172 : Dc code 172 (.iconst 1) 1 173 := ⟨at_172, rfl⟩
theorem d0_173 : Dc code 173 .isub 1 174 := ⟨at_173, rfl⟩
theorem d0_174 : Dc code 174 .aaload 1 175 := ⟨at_174, rfl⟩
theorem d0_175 : Dc code 175 (.if_acmp .ne 15) 3 178 := ⟨at_175, rfl⟩
theorem d0_175t : Tg 175 (15) 190 := ⟨by decide, by decide⟩
theorem d0_178 : Dc code 178 (.aload_n 3) 1 179 := ⟨at_178, rfl⟩
theorem d0_179 : Dc code 179 (.invokevirtual 81) 3 182 := ⟨at_179, rfl⟩
theorem d0_182 : Dc code 182 (.iload_n 1) 1 183 := ⟨at_182, rfl⟩
theorem d0_183 : Dc code 183 (.if_icmp .ne 7) 3 186 := ⟨at_183, rfl⟩
theorem d0_183t : Tg 183 (7) 190 := ⟨by decide, by decide⟩
theorem d0_186 : Dc code 186 (.iconst 1) 1 187 := ⟨at_186, rfl⟩
theorem d0_187 : Dc code 187 (.goto 4) 3 190 := ⟨at_187, rfl⟩
theorem d0_187t : Tg 187 (4) 191 := ⟨by decide, by decide⟩
theorem d0_190 : Dc code 190 (.iconst 0) 1 191 := ⟨at_190, rfl⟩
theorem d0_191 : Dc code 191 .ireturn 1 192 := ⟨at_191, rfl⟩
set_option maxRecDepth 65536 in
set_option maxHeartbeats 40000000 in
theorem rmV (l : Launch) (Z : State) (a0 : Array Value) (hw : ∀ d ∈ tables_1, d.before a0 Z = true) (hF : Fit Z) (hn : narrow_1.value a0 Z none Z [] = some true) (h0 : Heap) (hE : Ext Z.heap h0) :
    Ct false l Z [] (⟨"com/example/tenorloom/tenorloom/bond/Rating", "values", "()[Lcom/example/tenorloom/tenorloom/bond/Rating;"⟩ : MethodName) prog_18_method_1_code 0 (some (.array (.object "com/example/tenorloom/tenorloom/bond/Rating"))) [] ({ frames := 1, cells := 1, slots := 22, locals := 14 } : Room) [] #[] h0 (fun v u => ∃ b kc, v = some (.ref b) ∧ Ext h0 u ∧ Arv Z u b kc (.object "com/example/tenorloom/tenorloom/bond/Rating") (22 : Int32) [(.ref (A_AAA Z a0)), (.ref (A_AA_PLUS Z a0)), (.ref (A_AA Z a0)), (.ref (A_AA_MINUS Z a0)), (.ref (A_A_PLUS Z a0)), (.ref (A_A Z a0)), (.ref (A_A_MINUS Z a0)), (.ref (A_BBB_PLUS Z a0)), (.ref (A_BBB Z a0)), (.ref (A_BBB_MINUS Z a0)), (.ref (A_BB_PLUS Z a0)), (.ref (A_BB Z a0)), (.ref (A_BB_MINUS Z a0)), (.ref (A_B_PLUS Z a0)), (.ref (A_B Z a0)), (.ref (A_B_MINUS Z a0)), (.ref (A_CCC_PLUS Z a0)), (.ref (A_CCC Z a0)), (.ref (A_CCC_MINUS Z a0)), (.ref (A_CC Z a0)), (.ref (A_C Z a0)), (.ref (A_D Z a0))] .null) := by
  refine Ct.intro pn_com_example_tenorloom_tenorloom_bond_Rating hE (fun m => ef2 m) nosf ⟨a0, own_EW hw⟩ ?_
  intro x T w
  obtain ⟨kc, A0⟩ := v__VALUES hw hF hn
  refine w.getS d2_0 (tw hw 55 rfl) (s__VALUES hw hn).2.1 ?_
  intro T w
  refine w.clone 0 22 d2_3 (tw hw 57 rfl) (tw hw 58 rfl) (tw hw 62 rfl) (tw hw 60 rfl) (tw hw 61 rfl) (tw hw 63 rfl) (A0.ext w.old) ((s__VALUES hw hn).2.2.ext w.old) rfl (by decide) (by decide) ⟨by decide, by decide, by decide, by decide⟩ ?_
  intro b T h1 g_b w E_b A_b X_b
  refine w.cast d2_6 (tw hw 65 rfl) (Ins.self X_b) ?_
  intro T w
  exact w.retA d2_9 rfl rfl rfl rfl ⟨b, kc, rfl, E_b, A_b⟩

set_option maxRecDepth 65536 in
set_option maxHeartbeats 40000000 in
theorem rmO (l : Launch) (Z : State) (a0 : Array Value) (hw : ∀ d ∈ tables_1, d.before a0 Z = true) (hF : Fit Z) (hn : narrow_1.value a0 Z none Z [] = some true) (i : Int32) (hi1 : 0 ≤ i.toInt) (hi2 : i.toInt < 22) (a : Addr) (ha : ([(.ref (A_AAA Z a0)), (.ref (A_AA_PLUS Z a0)), (.ref (A_AA Z a0)), (.ref (A_AA_MINUS Z a0)), (.ref (A_A_PLUS Z a0)), (.ref (A_A Z a0)), (.ref (A_A_MINUS Z a0)), (.ref (A_BBB_PLUS Z a0)), (.ref (A_BBB Z a0)), (.ref (A_BBB_MINUS Z a0)), (.ref (A_BB_PLUS Z a0)), (.ref (A_BB Z a0)), (.ref (A_BB_MINUS Z a0)), (.ref (A_B_PLUS Z a0)), (.ref (A_B Z a0)), (.ref (A_B_MINUS Z a0)), (.ref (A_CCC_PLUS Z a0)), (.ref (A_CCC Z a0)), (.ref (A_CCC_MINUS Z a0)), (.ref (A_CC Z a0)), (.ref (A_C Z a0)), (.ref (A_D Z a0))] : List Value).getD i.toNatClampNeg .null = .ref a) (h0 : Heap) (hE : Ext Z.heap h0) :
    Ct false l Z [] (⟨"com/example/tenorloom/tenorloom/bond/Rating", "of", "(I)Lcom/example/tenorloom/tenorloom/bond/Rating;"⟩ : MethodName) prog_18_method_4_code 1 (some (.object "com/example/tenorloom/tenorloom/bond/Rating")) [] ({ frames := 2, cells := 1, slots := 22, locals := 28 } : Room) [] #[(.int (i + (1 : Int32)))] h0 (fun r u => r = some (.ref a) ∧ Ext h0 u) := by
  refine Ct.intro pn_com_example_tenorloom_tenorloom_bond_Rating hE (fun m => ef1 m (i + (1 : Int32))) nosf ⟨a0, own_EW hw⟩ ?_
  intro x T w
  have hp := own_plus i hi1 hi2
  refine w.iloadN d1_0 rfl ?_
  refine w.iconst (1 : Int32) d1_1 rfl ?_
  refine w.icmpLt d1_2 d1_2t (fun q => absurd q hp.1) (fun _ => ?_)
  refine w.iloadN d1_5 rfl ?_
  refine w.bipush (22 : Int32) d1_6 rfl ?_
  refine w.icmpLe d1_8 d1_8t (fun _ => ?_) (fun q => absurd q hp.2.1)
  refine w.callS (argsL := []) (rest := []) 0 d1_43 (tw hw 52 rfl) (tw hw 53 rfl) (tw hw 4 rfl) (tw hw 54 rfl) (by decide) (rmV l Z a0 hw hF hn h0 w.old) (lenOf pd_0 rfl) rfl rfl (Nat.le_refl _) ⟨by decide, by decide, by decide, by decide⟩ all0 ?_
  intro T h1 r w _ hQ
  obtain ⟨b, kc, rfl, E1, A1⟩ := hQ
  obtain ⟨cl, Ar, r1, S, r3, H, G⟩ := A1
  refine w.iloadN d1_46 rfl ?_
  refine w.iconst (1 : Int32) d1_47 rfl ?_
  refine w.isub d1_48 ?_
  rw [hp.2.2]
  have hin : ¬ (i < 0 ∨ cl.slots.size ≤ i.toNatClampNeg) := inb_of S (own_in (D := 22) hi1 hi2 (by decide))
  refine w.aaload d1_49 Ar rfl hin (H.at hin ha) ?_
  exact w.retA d1_50 rfl rfl rfl rfl ⟨rfl, E1⟩

set_option maxRecDepth 65536 in
set_option maxHeartbeats 40000000 in
theorem rmR (l : Launch) (Z : State) (a0 : Array Value) (hw : ∀ d ∈ tables_1, d.before a0 Z = true) (a : Addr) (z : Int32) (h0 : Heap) (hE : Ext Z.heap h0) (G1 : Fld Z h0 a "java/lang/Enum" "ordinal" "I" (.int z)) :
    Ct false l Z [] (⟨"java/lang/Enum", "ordinal", "()I"⟩ : MethodName) jdk_37_method_2_code 1 (some .int) [] ({ frames := 0, cells := 0, slots := 0, locals := 0 } : Room) [] #[(.ref a)] h0 (fun v u => v = some (.int z) ∧ h0 = u) := by
  refine Ct.intro pn_java_lang_Enum hE (fun m => ef4 m a) nosf ⟨a0, own_EW hw⟩ ?_
  intro x T w
  refine w.aloadN d4_0 rfl rfl ?_
  refine w.getF d4_1 (tw hw 79 rfl) G1 ?_
  intro T w
  exact w.retI d4_4 rfl ⟨rfl, rfl⟩

set_option maxRecDepth 65536 in
set_option maxHeartbeats 40000000 in
theorem rmN (l : Launch) (Z : State) (a0 : Array Value) (hw : ∀ d ∈ tables_1, d.before a0 Z = true) (a : Addr) (z : Int32) (h0 : Heap) (hE : Ext Z.heap h0) (E1 : Exa Z h0 a "com/example/tenorloom/tenorloom/bond/Rating") (G1 : Fld Z h0 a "java/lang/Enum" "ordinal" "I" (.int z)) :
    Ct false l Z [] (⟨"com/example/tenorloom/tenorloom/bond/Rating", "number", "()I"⟩ : MethodName) prog_18_method_5_code 1 (some .int) [] ({ frames := 1, cells := 0, slots := 0, locals := 13 } : Room) [] #[(.ref a)] h0 (fun v u => v = some (.int (z + (1 : Int32))) ∧ h0 = u) := by
  refine Ct.intro pn_com_example_tenorloom_tenorloom_bond_Rating hE (fun m => ef3 m a) nosf ⟨a0, own_EW hw⟩ ?_
  intro x T w
  refine w.aloadN d3_0 rfl rfl ?_
  refine w.callVU (argsL := []) (rest := []) 0 d3_1 (tw hw 72 rfl) (tw hw 73 rfl) (tw hw 74 rfl) (tw hw 76 rfl) (tw hw 75 rfl) (tw hw 77 rfl) (tw hw 78 rfl) (by decide) E1 (rmR l Z a0 hw a z h0 w.old G1) (lenOf pd_1 rfl) rfl rfl (Nat.le_refl _) ⟨by decide, by decide, by decide, by decide⟩ all0 ?_
  intro T h1 v w _ hQ
  obtain ⟨rfl, rfl⟩ := hQ
  show Go x _ Z _ _ _ T 4 #[.val (.ref a)] [(.int z)]
  refine w.iconst (1 : Int32) d3_4 rfl ?_
  refine w.iadd d3_5 ?_
  exact w.retI d3_6 rfl ⟨rfl, rfl⟩

set_option maxRecDepth 65536 in
set_option maxHeartbeats 40000000 in
theorem rm0 (l : Launch) (Z : State) (a0 : Array Value) (hw : ∀ d ∈ tables_1, d.before a0 Z = true) (hF : Fit Z) (hn : narrow_1.value a0 Z none Z [] = some true) (k : Int32) (h0 : Heap) (hE : Ext Z.heap h0) :
    Ct false l Z [] x code maxLocals ret tables_1 room_1 [] #[(.int k)] h0 (fun v _ => v = some (.int 1)) := by
  refine Ct.intro pn_com_example_tenorloom_tenorloom_bond_RatingOfPinLaw hE (fun m => ef0 m k) nosf ⟨a0, own_EW hw⟩ ?_
  intro x T w
  refine w.iloadN d0_0 rfl ?_
  refine w.ldcI d0_1 (tw hw 0 rfl) ?_
  refine w.iand d0_3 ?_
  refine w.bipush (22 : Int32) d0_4 rfl ?_
  refine w.irem d0_6 (by decide) ?_
  refine w.iconst (1 : Int32) d0_7 rfl ?_
  refine w.iadd d0_8 ?_
  refine w.istoreN #[.val (.int k), .val (.int (((k &&& (2147483647 : Int32)) % (22 : Int32)) + (1 : Int32))), .unset, .unset] d0_9 rfl ?_
  have hm := modR k 22 22 (by decide) (by decide)
  generalize (k &&& (2147483647 : Int32)) % (22 : Int32) = i at hm ⊢
  have hp := own_plus i hm.1 hm.2
  obtain ⟨a, ha, Ea, Fa⟩ := own_el hw hn i hm.1 hm.2
  show Go x _ Z _ _ _ T 10 #[.val (.int k), .val (.int (i + (1 : Int32))), .unset, .unset] []
  refine w.bipush (22 : Int32) d0_10 rfl ?_
  have sz0 := w.size
  refine w.newR 22 "[Lcom/example/tenorloom/tenorloom/bond/Rating;" d0_12 (tw hw 1 rfl) (tw hw 2 rfl) (by decide) (by decide) (by decide) (by decide) ⟨by decide, by decide⟩ ?_
  intro r T h1 kc_r g_r w E1 A2 X3 O_r
  have ge_r : Z.heap.size ≤ r := by rw [g_r]; exact sz0
  refine w.dup d0_15 rfl ?_
  refine w.iconst (0 : Int32) d0_16 rfl ?_
  refine w.getS d0_17 (tw hw 3 rfl) (s_AAA hw hn).2.1 ?_
  intro T w
  refine w.stR 0 [.null] d0_20 A2 O_r (Ins.self ((s_AAA hw hn).2.2.ext w.old)) ⟨by decide, by decide⟩ (by decide) (pad_rep [] .null 1) (by simp) (List.mem_of_getElem? (i := 0) rfl) ?_
  intro T h2 w W4 A5
  have A6 : Arv Z h2 r kc_r (.object "com/example/tenorloom/tenorloom/bond/Rating") (22 : Int32) [(.ref (A_AAA Z a0))] .null := A5
  refine w.dup d0_21 rfl ?_
  refine w.iconst (1 : Int32) d0_22 rfl ?_
  refine w.getS d0_23 (tw hw 7 rfl) (s_AA_PLUS hw hn).2.1 ?_
  intro T w
  refine w.stR 1 [(.ref (A_AAA Z a0)), .null] d0_26 A6 O_r (Ins.self ((s_AA_PLUS hw hn).2.2.ext w.old)) ⟨by decide, by decide⟩ (by decide) (pad_rep [(.ref (A_AAA Z a0))] .null 1) (by simp) (List.mem_of_getElem? (i := 0) rfl) ?_
  intro T h3 w W7 A8
  have A9 : Arv Z h3 r kc_r (.object "com/example/tenorloom/tenorloom/bond/Rating") (22 : Int32) [(.ref (A_AAA Z a0)), (.ref (A_AA_PLUS Z a0))] .null := A8
  refine w.dup d0_27 rfl ?_
  refine w.iconst (2 : Int32) d0_28 rfl ?_
  refine w.getS d0_29 (tw hw 9 rfl) (s_AA hw hn).2.1 ?_
  intro T w
  refine w.stR 2 [(.ref (A_AAA Z a0)), (.ref (A_AA_PLUS Z a0)), .null] d0_32 A9 O_r (Ins.self ((s_AA hw hn).2.2.ext w.old)) ⟨by decide, by decide⟩ (by decide) (pad_rep [(.ref (A_AAA Z a0)), (.ref (A_AA_PLUS Z a0))] .null 1) (by simp) (List.mem_of_getElem? (i := 0) rfl) ?_
  intro T h4 w W10 A11
  have A12 : Arv Z h4 r kc_r (.object "com/example/tenorloom/tenorloom/bond/Rating") (22 : Int32) [(.ref (A_AAA Z a0)), (.ref (A_AA_PLUS Z a0)), (.ref (A_AA Z a0))] .null := A11
  refine w.dup d0_33 rfl ?_
  refine w.iconst (3 : Int32) d0_34 rfl ?_
  refine w.getS d0_35 (tw hw 11 rfl) (s_AA_MINUS hw hn).2.1 ?_
  intro T w
  refine w.stR 3 [(.ref (A_AAA Z a0)), (.ref (A_AA_PLUS Z a0)), (.ref (A_AA Z a0)), .null] d0_38 A12 O_r (Ins.self ((s_AA_MINUS hw hn).2.2.ext w.old)) ⟨by decide, by decide⟩ (by decide) (pad_rep [(.ref (A_AAA Z a0)), (.ref (A_AA_PLUS Z a0)), (.ref (A_AA Z a0))] .null 1) (by simp) (List.mem_of_getElem? (i := 0) rfl) ?_
  intro T h5 w W13 A14
  have A15 : Arv Z h5 r kc_r (.object "com/example/tenorloom/tenorloom/bond/Rating") (22 : Int32) [(.ref (A_AAA Z a0)), (.ref (A_AA_PLUS Z a0)), (.ref (A_AA Z a0)), (.ref (A_AA_MINUS Z a0))] .null := A14
  refine w.dup d0_39 rfl ?_
  refine w.iconst (4 : Int32) d0_40 rfl ?_
  refine w.getS d0_41 (tw hw 13 rfl) (s_A_PLUS hw hn).2.1 ?_
  intro T w
  refine w.stR 4 [(.ref (A_AAA Z a0)), (.ref (A_AA_PLUS Z a0)), (.ref (A_AA Z a0)), (.ref (A_AA_MINUS Z a0)), .null] d0_44 A15 O_r (Ins.self ((s_A_PLUS hw hn).2.2.ext w.old)) ⟨by decide, by decide⟩ (by decide) (pad_rep [(.ref (A_AAA Z a0)), (.ref (A_AA_PLUS Z a0)), (.ref (A_AA Z a0)), (.ref (A_AA_MINUS Z a0))] .null 1) (by simp) (List.mem_of_getElem? (i := 0) rfl) ?_
  intro T h6 w W16 A17
  have A18 : Arv Z h6 r kc_r (.object "com/example/tenorloom/tenorloom/bond/Rating") (22 : Int32) [(.ref (A_AAA Z a0)), (.ref (A_AA_PLUS Z a0)), (.ref (A_AA Z a0)), (.ref (A_AA_MINUS Z a0)), (.ref (A_A_PLUS Z a0))] .null := A17
  refine w.dup d0_45 rfl ?_
  refine w.iconst (5 : Int32) d0_46 rfl ?_
  refine w.getS d0_47 (tw hw 15 rfl) (s_A hw hn).2.1 ?_
  intro T w
  refine w.stR 5 [(.ref (A_AAA Z a0)), (.ref (A_AA_PLUS Z a0)), (.ref (A_AA Z a0)), (.ref (A_AA_MINUS Z a0)), (.ref (A_A_PLUS Z a0)), .null] d0_50 A18 O_r (Ins.self ((s_A hw hn).2.2.ext w.old)) ⟨by decide, by decide⟩ (by decide) (pad_rep [(.ref (A_AAA Z a0)), (.ref (A_AA_PLUS Z a0)), (.ref (A_AA Z a0)), (.ref (A_AA_MINUS Z a0)), (.ref (A_A_PLUS Z a0))] .null 1) (by simp) (List.mem_of_getElem? (i := 0) rfl) ?_
  intro T h7 w W19 A20
  have A21 : Arv Z h7 r kc_r (.object "com/example/tenorloom/tenorloom/bond/Rating") (22 : Int32) [(.ref (A_AAA Z a0)), (.ref (A_AA_PLUS Z a0)), (.ref (A_AA Z a0)), (.ref (A_AA_MINUS Z a0)), (.ref (A_A_PLUS Z a0)), (.ref (A_A Z a0))] .null := A20
  refine w.dup d0_51 rfl ?_
  refine w.bipush (6 : Int32) d0_52 rfl ?_
  refine w.getS d0_54 (tw hw 17 rfl) (s_A_MINUS hw hn).2.1 ?_
  intro T w
  refine w.stR 6 [(.ref (A_AAA Z a0)), (.ref (A_AA_PLUS Z a0)), (.ref (A_AA Z a0)), (.ref (A_AA_MINUS Z a0)), (.ref (A_A_PLUS Z a0)), (.ref (A_A Z a0)), .null] d0_57 A21 O_r (Ins.self ((s_A_MINUS hw hn).2.2.ext w.old)) ⟨by decide, by decide⟩ (by decide) (pad_rep [(.ref (A_AAA Z a0)), (.ref (A_AA_PLUS Z a0)), (.ref (A_AA Z a0)), (.ref (A_AA_MINUS Z a0)), (.ref (A_A_PLUS Z a0)), (.ref (A_A Z a0))] .null 1) (by simp) (List.mem_of_getElem? (i := 0) rfl) ?_
  intro T h8 w W22 A23
  have A24 : Arv Z h8 r kc_r (.object "com/example/tenorloom/tenorloom/bond/Rating") (22 : Int32) [(.ref (A_AAA Z a0)), (.ref (A_AA_PLUS Z a0)), (.ref (A_AA Z a0)), (.ref (A_AA_MINUS Z a0)), (.ref (A_A_PLUS Z a0)), (.ref (A_A Z a0)), (.ref (A_A_MINUS Z a0))] .null := A23
  refine w.dup d0_58 rfl ?_
  refine w.bipush (7 : Int32) d0_59 rfl ?_
  refine w.getS d0_61 (tw hw 19 rfl) (s_BBB_PLUS hw hn).2.1 ?_
  intro T w
  refine w.stR 7 [(.ref (A_AAA Z a0)), (.ref (A_AA_PLUS Z a0)), (.ref (A_AA Z a0)), (.ref (A_AA_MINUS Z a0)), (.ref (A_A_PLUS Z a0)), (.ref (A_A Z a0)), (.ref (A_A_MINUS Z a0)), .null] d0_64 A24 O_r (Ins.self ((s_BBB_PLUS hw hn).2.2.ext w.old)) ⟨by decide, by decide⟩ (by decide) (pad_rep [(.ref (A_AAA Z a0)), (.ref (A_AA_PLUS Z a0)), (.ref (A_AA Z a0)), (.ref (A_AA_MINUS Z a0)), (.ref (A_A_PLUS Z a0)), (.ref (A_A Z a0)), (.ref (A_A_MINUS Z a0))] .null 1) (by simp) (List.mem_of_getElem? (i := 0) rfl) ?_
  intro T h9 w W25 A26
  have A27 : Arv Z h9 r kc_r (.object "com/example/tenorloom/tenorloom/bond/Rating") (22 : Int32) [(.ref (A_AAA Z a0)), (.ref (A_AA_PLUS Z a0)), (.ref (A_AA Z a0)), (.ref (A_AA_MINUS Z a0)), (.ref (A_A_PLUS Z a0)), (.ref (A_A Z a0)), (.ref (A_A_MINUS Z a0)), (.ref (A_BBB_PLUS Z a0))] .null := A26
  refine w.dup d0_65 rfl ?_
  refine w.bipush (8 : Int32) d0_66 rfl ?_
  refine w.getS d0_68 (tw hw 21 rfl) (s_BBB hw hn).2.1 ?_
  intro T w
  refine w.stR 8 [(.ref (A_AAA Z a0)), (.ref (A_AA_PLUS Z a0)), (.ref (A_AA Z a0)), (.ref (A_AA_MINUS Z a0)), (.ref (A_A_PLUS Z a0)), (.ref (A_A Z a0)), (.ref (A_A_MINUS Z a0)), (.ref (A_BBB_PLUS Z a0)), .null] d0_71 A27 O_r (Ins.self ((s_BBB hw hn).2.2.ext w.old)) ⟨by decide, by decide⟩ (by decide) (pad_rep [(.ref (A_AAA Z a0)), (.ref (A_AA_PLUS Z a0)), (.ref (A_AA Z a0)), (.ref (A_AA_MINUS Z a0)), (.ref (A_A_PLUS Z a0)), (.ref (A_A Z a0)), (.ref (A_A_MINUS Z a0)), (.ref (A_BBB_PLUS Z a0))] .null 1) (by simp) (List.mem_of_getElem? (i := 0) rfl) ?_
  intro T h10 w W28 A29
  have A30 : Arv Z h10 r kc_r (.object "com/example/tenorloom/tenorloom/bond/Rating") (22 : Int32) [(.ref (A_AAA Z a0)), (.ref (A_AA_PLUS Z a0)), (.ref (A_AA Z a0)), (.ref (A_AA_MINUS Z a0)), (.ref (A_A_PLUS Z a0)), (.ref (A_A Z a0)), (.ref (A_A_MINUS Z a0)), (.ref (A_BBB_PLUS Z a0)), (.ref (A_BBB Z a0))] .null := A29
  refine w.dup d0_72 rfl ?_
  refine w.bipush (9 : Int32) d0_73 rfl ?_
  refine w.getS d0_75 (tw hw 23 rfl) (s_BBB_MINUS hw hn).2.1 ?_
  intro T w
  refine w.stR 9 [(.ref (A_AAA Z a0)), (.ref (A_AA_PLUS Z a0)), (.ref (A_AA Z a0)), (.ref (A_AA_MINUS Z a0)), (.ref (A_A_PLUS Z a0)), (.ref (A_A Z a0)), (.ref (A_A_MINUS Z a0)), (.ref (A_BBB_PLUS Z a0)), (.ref (A_BBB Z a0)), .null] d0_78 A30 O_r (Ins.self ((s_BBB_MINUS hw hn).2.2.ext w.old)) ⟨by decide, by decide⟩ (by decide) (pad_rep [(.ref (A_AAA Z a0)), (.ref (A_AA_PLUS Z a0)), (.ref (A_AA Z a0)), (.ref (A_AA_MINUS Z a0)), (.ref (A_A_PLUS Z a0)), (.ref (A_A Z a0)), (.ref (A_A_MINUS Z a0)), (.ref (A_BBB_PLUS Z a0)), (.ref (A_BBB Z a0))] .null 1) (by simp) (List.mem_of_getElem? (i := 0) rfl) ?_
  intro T h11 w W31 A32
  have A33 : Arv Z h11 r kc_r (.object "com/example/tenorloom/tenorloom/bond/Rating") (22 : Int32) [(.ref (A_AAA Z a0)), (.ref (A_AA_PLUS Z a0)), (.ref (A_AA Z a0)), (.ref (A_AA_MINUS Z a0)), (.ref (A_A_PLUS Z a0)), (.ref (A_A Z a0)), (.ref (A_A_MINUS Z a0)), (.ref (A_BBB_PLUS Z a0)), (.ref (A_BBB Z a0)), (.ref (A_BBB_MINUS Z a0))] .null := A32
  refine w.dup d0_79 rfl ?_
  refine w.bipush (10 : Int32) d0_80 rfl ?_
  refine w.getS d0_82 (tw hw 25 rfl) (s_BB_PLUS hw hn).2.1 ?_
  intro T w
  refine w.stR 10 [(.ref (A_AAA Z a0)), (.ref (A_AA_PLUS Z a0)), (.ref (A_AA Z a0)), (.ref (A_AA_MINUS Z a0)), (.ref (A_A_PLUS Z a0)), (.ref (A_A Z a0)), (.ref (A_A_MINUS Z a0)), (.ref (A_BBB_PLUS Z a0)), (.ref (A_BBB Z a0)), (.ref (A_BBB_MINUS Z a0)), .null] d0_85 A33 O_r (Ins.self ((s_BB_PLUS hw hn).2.2.ext w.old)) ⟨by decide, by decide⟩ (by decide) (pad_rep [(.ref (A_AAA Z a0)), (.ref (A_AA_PLUS Z a0)), (.ref (A_AA Z a0)), (.ref (A_AA_MINUS Z a0)), (.ref (A_A_PLUS Z a0)), (.ref (A_A Z a0)), (.ref (A_A_MINUS Z a0)), (.ref (A_BBB_PLUS Z a0)), (.ref (A_BBB Z a0)), (.ref (A_BBB_MINUS Z a0))] .null 1) (by simp) (List.mem_of_getElem? (i := 0) rfl) ?_
  intro T h12 w W34 A35
  have A36 : Arv Z h12 r kc_r (.object "com/example/tenorloom/tenorloom/bond/Rating") (22 : Int32) [(.ref (A_AAA Z a0)), (.ref (A_AA_PLUS Z a0)), (.ref (A_AA Z a0)), (.ref (A_AA_MINUS Z a0)), (.ref (A_A_PLUS Z a0)), (.ref (A_A Z a0)), (.ref (A_A_MINUS Z a0)), (.ref (A_BBB_PLUS Z a0)), (.ref (A_BBB Z a0)), (.ref (A_BBB_MINUS Z a0)), (.ref (A_BB_PLUS Z a0))] .null := A35
  refine w.dup d0_86 rfl ?_
  refine w.bipush (11 : Int32) d0_87 rfl ?_
  refine w.getS d0_89 (tw hw 27 rfl) (s_BB hw hn).2.1 ?_
  intro T w
  refine w.stR 11 [(.ref (A_AAA Z a0)), (.ref (A_AA_PLUS Z a0)), (.ref (A_AA Z a0)), (.ref (A_AA_MINUS Z a0)), (.ref (A_A_PLUS Z a0)), (.ref (A_A Z a0)), (.ref (A_A_MINUS Z a0)), (.ref (A_BBB_PLUS Z a0)), (.ref (A_BBB Z a0)), (.ref (A_BBB_MINUS Z a0)), (.ref (A_BB_PLUS Z a0)), .null] d0_92 A36 O_r (Ins.self ((s_BB hw hn).2.2.ext w.old)) ⟨by decide, by decide⟩ (by decide) (pad_rep [(.ref (A_AAA Z a0)), (.ref (A_AA_PLUS Z a0)), (.ref (A_AA Z a0)), (.ref (A_AA_MINUS Z a0)), (.ref (A_A_PLUS Z a0)), (.ref (A_A Z a0)), (.ref (A_A_MINUS Z a0)), (.ref (A_BBB_PLUS Z a0)), (.ref (A_BBB Z a0)), (.ref (A_BBB_MINUS Z a0)), (.ref (A_BB_PLUS Z a0))] .null 1) (by simp) (List.mem_of_getElem? (i := 0) rfl) ?_
  intro T h13 w W37 A38
  have A39 : Arv Z h13 r kc_r (.object "com/example/tenorloom/tenorloom/bond/Rating") (22 : Int32) [(.ref (A_AAA Z a0)), (.ref (A_AA_PLUS Z a0)), (.ref (A_AA Z a0)), (.ref (A_AA_MINUS Z a0)), (.ref (A_A_PLUS Z a0)), (.ref (A_A Z a0)), (.ref (A_A_MINUS Z a0)), (.ref (A_BBB_PLUS Z a0)), (.ref (A_BBB Z a0)), (.ref (A_BBB_MINUS Z a0)), (.ref (A_BB_PLUS Z a0)), (.ref (A_BB Z a0))] .null := A38
  refine w.dup d0_93 rfl ?_
  refine w.bipush (12 : Int32) d0_94 rfl ?_
  refine w.getS d0_96 (tw hw 29 rfl) (s_BB_MINUS hw hn).2.1 ?_
  intro T w
  refine w.stR 12 [(.ref (A_AAA Z a0)), (.ref (A_AA_PLUS Z a0)), (.ref (A_AA Z a0)), (.ref (A_AA_MINUS Z a0)), (.ref (A_A_PLUS Z a0)), (.ref (A_A Z a0)), (.ref (A_A_MINUS Z a0)), (.ref (A_BBB_PLUS Z a0)), (.ref (A_BBB Z a0)), (.ref (A_BBB_MINUS Z a0)), (.ref (A_BB_PLUS Z a0)), (.ref (A_BB Z a0)), .null] d0_99 A39 O_r (Ins.self ((s_BB_MINUS hw hn).2.2.ext w.old)) ⟨by decide, by decide⟩ (by decide) (pad_rep [(.ref (A_AAA Z a0)), (.ref (A_AA_PLUS Z a0)), (.ref (A_AA Z a0)), (.ref (A_AA_MINUS Z a0)), (.ref (A_A_PLUS Z a0)), (.ref (A_A Z a0)), (.ref (A_A_MINUS Z a0)), (.ref (A_BBB_PLUS Z a0)), (.ref (A_BBB Z a0)), (.ref (A_BBB_MINUS Z a0)), (.ref (A_BB_PLUS Z a0)), (.ref (A_BB Z a0))] .null 1) (by simp) (List.mem_of_getElem? (i := 0) rfl) ?_
  intro T h14 w W40 A41
  have A42 : Arv Z h14 r kc_r (.object "com/example/tenorloom/tenorloom/bond/Rating") (22 : Int32) [(.ref (A_AAA Z a0)), (.ref (A_AA_PLUS Z a0)), (.ref (A_AA Z a0)), (.ref (A_AA_MINUS Z a0)), (.ref (A_A_PLUS Z a0)), (.ref (A_A Z a0)), (.ref (A_A_MINUS Z a0)), (.ref (A_BBB_PLUS Z a0)), (.ref (A_BBB Z a0)), (.ref (A_BBB_MINUS Z a0)), (.ref (A_BB_PLUS Z a0)), (.ref (A_BB Z a0)), (.ref (A_BB_MINUS Z a0))] .null := A41
  refine w.dup d0_100 rfl ?_
  refine w.bipush (13 : Int32) d0_101 rfl ?_
  refine w.getS d0_103 (tw hw 31 rfl) (s_B_PLUS hw hn).2.1 ?_
  intro T w
  refine w.stR 13 [(.ref (A_AAA Z a0)), (.ref (A_AA_PLUS Z a0)), (.ref (A_AA Z a0)), (.ref (A_AA_MINUS Z a0)), (.ref (A_A_PLUS Z a0)), (.ref (A_A Z a0)), (.ref (A_A_MINUS Z a0)), (.ref (A_BBB_PLUS Z a0)), (.ref (A_BBB Z a0)), (.ref (A_BBB_MINUS Z a0)), (.ref (A_BB_PLUS Z a0)), (.ref (A_BB Z a0)), (.ref (A_BB_MINUS Z a0)), .null] d0_106 A42 O_r (Ins.self ((s_B_PLUS hw hn).2.2.ext w.old)) ⟨by decide, by decide⟩ (by decide) (pad_rep [(.ref (A_AAA Z a0)), (.ref (A_AA_PLUS Z a0)), (.ref (A_AA Z a0)), (.ref (A_AA_MINUS Z a0)), (.ref (A_A_PLUS Z a0)), (.ref (A_A Z a0)), (.ref (A_A_MINUS Z a0)), (.ref (A_BBB_PLUS Z a0)), (.ref (A_BBB Z a0)), (.ref (A_BBB_MINUS Z a0)), (.ref (A_BB_PLUS Z a0)), (.ref (A_BB Z a0)), (.ref (A_BB_MINUS Z a0))] .null 1) (by simp) (List.mem_of_getElem? (i := 0) rfl) ?_
  intro T h15 w W43 A44
  have A45 : Arv Z h15 r kc_r (.object "com/example/tenorloom/tenorloom/bond/Rating") (22 : Int32) [(.ref (A_AAA Z a0)), (.ref (A_AA_PLUS Z a0)), (.ref (A_AA Z a0)), (.ref (A_AA_MINUS Z a0)), (.ref (A_A_PLUS Z a0)), (.ref (A_A Z a0)), (.ref (A_A_MINUS Z a0)), (.ref (A_BBB_PLUS Z a0)), (.ref (A_BBB Z a0)), (.ref (A_BBB_MINUS Z a0)), (.ref (A_BB_PLUS Z a0)), (.ref (A_BB Z a0)), (.ref (A_BB_MINUS Z a0)), (.ref (A_B_PLUS Z a0))] .null := A44
  refine w.dup d0_107 rfl ?_
  refine w.bipush (14 : Int32) d0_108 rfl ?_
  refine w.getS d0_110 (tw hw 33 rfl) (s_B hw hn).2.1 ?_
  intro T w
  refine w.stR 14 [(.ref (A_AAA Z a0)), (.ref (A_AA_PLUS Z a0)), (.ref (A_AA Z a0)), (.ref (A_AA_MINUS Z a0)), (.ref (A_A_PLUS Z a0)), (.ref (A_A Z a0)), (.ref (A_A_MINUS Z a0)), (.ref (A_BBB_PLUS Z a0)), (.ref (A_BBB Z a0)), (.ref (A_BBB_MINUS Z a0)), (.ref (A_BB_PLUS Z a0)), (.ref (A_BB Z a0)), (.ref (A_BB_MINUS Z a0)), (.ref (A_B_PLUS Z a0)), .null] d0_113 A45 O_r (Ins.self ((s_B hw hn).2.2.ext w.old)) ⟨by decide, by decide⟩ (by decide) (pad_rep [(.ref (A_AAA Z a0)), (.ref (A_AA_PLUS Z a0)), (.ref (A_AA Z a0)), (.ref (A_AA_MINUS Z a0)), (.ref (A_A_PLUS Z a0)), (.ref (A_A Z a0)), (.ref (A_A_MINUS Z a0)), (.ref (A_BBB_PLUS Z a0)), (.ref (A_BBB Z a0)), (.ref (A_BBB_MINUS Z a0)), (.ref (A_BB_PLUS Z a0)), (.ref (A_BB Z a0)), (.ref (A_BB_MINUS Z a0)), (.ref (A_B_PLUS Z a0))] .null 1) (by simp) (List.mem_of_getElem? (i := 0) rfl) ?_
  intro T h16 w W46 A47
  have A48 : Arv Z h16 r kc_r (.object "com/example/tenorloom/tenorloom/bond/Rating") (22 : Int32) [(.ref (A_AAA Z a0)), (.ref (A_AA_PLUS Z a0)), (.ref (A_AA Z a0)), (.ref (A_AA_MINUS Z a0)), (.ref (A_A_PLUS Z a0)), (.ref (A_A Z a0)), (.ref (A_A_MINUS Z a0)), (.ref (A_BBB_PLUS Z a0)), (.ref (A_BBB Z a0)), (.ref (A_BBB_MINUS Z a0)), (.ref (A_BB_PLUS Z a0)), (.ref (A_BB Z a0)), (.ref (A_BB_MINUS Z a0)), (.ref (A_B_PLUS Z a0)), (.ref (A_B Z a0))] .null := A47
  refine w.dup d0_114 rfl ?_
  refine w.bipush (15 : Int32) d0_115 rfl ?_
  refine w.getS d0_117 (tw hw 35 rfl) (s_B_MINUS hw hn).2.1 ?_
  intro T w
  refine w.stR 15 [(.ref (A_AAA Z a0)), (.ref (A_AA_PLUS Z a0)), (.ref (A_AA Z a0)), (.ref (A_AA_MINUS Z a0)), (.ref (A_A_PLUS Z a0)), (.ref (A_A Z a0)), (.ref (A_A_MINUS Z a0)), (.ref (A_BBB_PLUS Z a0)), (.ref (A_BBB Z a0)), (.ref (A_BBB_MINUS Z a0)), (.ref (A_BB_PLUS Z a0)), (.ref (A_BB Z a0)), (.ref (A_BB_MINUS Z a0)), (.ref (A_B_PLUS Z a0)), (.ref (A_B Z a0)), .null] d0_120 A48 O_r (Ins.self ((s_B_MINUS hw hn).2.2.ext w.old)) ⟨by decide, by decide⟩ (by decide) (pad_rep [(.ref (A_AAA Z a0)), (.ref (A_AA_PLUS Z a0)), (.ref (A_AA Z a0)), (.ref (A_AA_MINUS Z a0)), (.ref (A_A_PLUS Z a0)), (.ref (A_A Z a0)), (.ref (A_A_MINUS Z a0)), (.ref (A_BBB_PLUS Z a0)), (.ref (A_BBB Z a0)), (.ref (A_BBB_MINUS Z a0)), (.ref (A_BB_PLUS Z a0)), (.ref (A_BB Z a0)), (.ref (A_BB_MINUS Z a0)), (.ref (A_B_PLUS Z a0)), (.ref (A_B Z a0))] .null 1) (by simp) (List.mem_of_getElem? (i := 0) rfl) ?_
  intro T h17 w W49 A50
  have A51 : Arv Z h17 r kc_r (.object "com/example/tenorloom/tenorloom/bond/Rating") (22 : Int32) [(.ref (A_AAA Z a0)), (.ref (A_AA_PLUS Z a0)), (.ref (A_AA Z a0)), (.ref (A_AA_MINUS Z a0)), (.ref (A_A_PLUS Z a0)), (.ref (A_A Z a0)), (.ref (A_A_MINUS Z a0)), (.ref (A_BBB_PLUS Z a0)), (.ref (A_BBB Z a0)), (.ref (A_BBB_MINUS Z a0)), (.ref (A_BB_PLUS Z a0)), (.ref (A_BB Z a0)), (.ref (A_BB_MINUS Z a0)), (.ref (A_B_PLUS Z a0)), (.ref (A_B Z a0)), (.ref (A_B_MINUS Z a0))] .null := A50
  refine w.dup d0_121 rfl ?_
  refine w.bipush (16 : Int32) d0_122 rfl ?_
  refine w.getS d0_124 (tw hw 37 rfl) (s_CCC_PLUS hw hn).2.1 ?_
  intro T w
  refine w.stR 16 [(.ref (A_AAA Z a0)), (.ref (A_AA_PLUS Z a0)), (.ref (A_AA Z a0)), (.ref (A_AA_MINUS Z a0)), (.ref (A_A_PLUS Z a0)), (.ref (A_A Z a0)), (.ref (A_A_MINUS Z a0)), (.ref (A_BBB_PLUS Z a0)), (.ref (A_BBB Z a0)), (.ref (A_BBB_MINUS Z a0)), (.ref (A_BB_PLUS Z a0)), (.ref (A_BB Z a0)), (.ref (A_BB_MINUS Z a0)), (.ref (A_B_PLUS Z a0)), (.ref (A_B Z a0)), (.ref (A_B_MINUS Z a0)), .null] d0_127 A51 O_r (Ins.self ((s_CCC_PLUS hw hn).2.2.ext w.old)) ⟨by decide, by decide⟩ (by decide) (pad_rep [(.ref (A_AAA Z a0)), (.ref (A_AA_PLUS Z a0)), (.ref (A_AA Z a0)), (.ref (A_AA_MINUS Z a0)), (.ref (A_A_PLUS Z a0)), (.ref (A_A Z a0)), (.ref (A_A_MINUS Z a0)), (.ref (A_BBB_PLUS Z a0)), (.ref (A_BBB Z a0)), (.ref (A_BBB_MINUS Z a0)), (.ref (A_BB_PLUS Z a0)), (.ref (A_BB Z a0)), (.ref (A_BB_MINUS Z a0)), (.ref (A_B_PLUS Z a0)), (.ref (A_B Z a0)), (.ref (A_B_MINUS Z a0))] .null 1) (by simp) (List.mem_of_getElem? (i := 0) rfl) ?_
  intro T h18 w W52 A53
  have A54 : Arv Z h18 r kc_r (.object "com/example/tenorloom/tenorloom/bond/Rating") (22 : Int32) [(.ref (A_AAA Z a0)), (.ref (A_AA_PLUS Z a0)), (.ref (A_AA Z a0)), (.ref (A_AA_MINUS Z a0)), (.ref (A_A_PLUS Z a0)), (.ref (A_A Z a0)), (.ref (A_A_MINUS Z a0)), (.ref (A_BBB_PLUS Z a0)), (.ref (A_BBB Z a0)), (.ref (A_BBB_MINUS Z a0)), (.ref (A_BB_PLUS Z a0)), (.ref (A_BB Z a0)), (.ref (A_BB_MINUS Z a0)), (.ref (A_B_PLUS Z a0)), (.ref (A_B Z a0)), (.ref (A_B_MINUS Z a0)), (.ref (A_CCC_PLUS Z a0))] .null := A53
  refine w.dup d0_128 rfl ?_
  refine w.bipush (17 : Int32) d0_129 rfl ?_
  refine w.getS d0_131 (tw hw 39 rfl) (s_CCC hw hn).2.1 ?_
  intro T w
  refine w.stR 17 [(.ref (A_AAA Z a0)), (.ref (A_AA_PLUS Z a0)), (.ref (A_AA Z a0)), (.ref (A_AA_MINUS Z a0)), (.ref (A_A_PLUS Z a0)), (.ref (A_A Z a0)), (.ref (A_A_MINUS Z a0)), (.ref (A_BBB_PLUS Z a0)), (.ref (A_BBB Z a0)), (.ref (A_BBB_MINUS Z a0)), (.ref (A_BB_PLUS Z a0)), (.ref (A_BB Z a0)), (.ref (A_BB_MINUS Z a0)), (.ref (A_B_PLUS Z a0)), (.ref (A_B Z a0)), (.ref (A_B_MINUS Z a0)), (.ref (A_CCC_PLUS Z a0)), .null] d0_134 A54 O_r (Ins.self ((s_CCC hw hn).2.2.ext w.old)) ⟨by decide, by decide⟩ (by decide) (pad_rep [(.ref (A_AAA Z a0)), (.ref (A_AA_PLUS Z a0)), (.ref (A_AA Z a0)), (.ref (A_AA_MINUS Z a0)), (.ref (A_A_PLUS Z a0)), (.ref (A_A Z a0)), (.ref (A_A_MINUS Z a0)), (.ref (A_BBB_PLUS Z a0)), (.ref (A_BBB Z a0)), (.ref (A_BBB_MINUS Z a0)), (.ref (A_BB_PLUS Z a0)), (.ref (A_BB Z a0)), (.ref (A_BB_MINUS Z a0)), (.ref (A_B_PLUS Z a0)), (.ref (A_B Z a0)), (.ref (A_B_MINUS Z a0)), (.ref (A_CCC_PLUS Z a0))] .null 1) (by simp) (List.mem_of_getElem? (i := 0) rfl) ?_
  intro T h19 w W55 A56
  have A57 : Arv Z h19 r kc_r (.object "com/example/tenorloom/tenorloom/bond/Rating") (22 : Int32) [(.ref (A_AAA Z a0)), (.ref (A_AA_PLUS Z a0)), (.ref (A_AA Z a0)), (.ref (A_AA_MINUS Z a0)), (.ref (A_A_PLUS Z a0)), (.ref (A_A Z a0)), (.ref (A_A_MINUS Z a0)), (.ref (A_BBB_PLUS Z a0)), (.ref (A_BBB Z a0)), (.ref (A_BBB_MINUS Z a0)), (.ref (A_BB_PLUS Z a0)), (.ref (A_BB Z a0)), (.ref (A_BB_MINUS Z a0)), (.ref (A_B_PLUS Z a0)), (.ref (A_B Z a0)), (.ref (A_B_MINUS Z a0)), (.ref (A_CCC_PLUS Z a0)), (.ref (A_CCC Z a0))] .null := A56
  refine w.dup d0_135 rfl ?_
  refine w.bipush (18 : Int32) d0_136 rfl ?_
  refine w.getS d0_138 (tw hw 41 rfl) (s_CCC_MINUS hw hn).2.1 ?_
  intro T w
  refine w.stR 18 [(.ref (A_AAA Z a0)), (.ref (A_AA_PLUS Z a0)), (.ref (A_AA Z a0)), (.ref (A_AA_MINUS Z a0)), (.ref (A_A_PLUS Z a0)), (.ref (A_A Z a0)), (.ref (A_A_MINUS Z a0)), (.ref (A_BBB_PLUS Z a0)), (.ref (A_BBB Z a0)), (.ref (A_BBB_MINUS Z a0)), (.ref (A_BB_PLUS Z a0)), (.ref (A_BB Z a0)), (.ref (A_BB_MINUS Z a0)), (.ref (A_B_PLUS Z a0)), (.ref (A_B Z a0)), (.ref (A_B_MINUS Z a0)), (.ref (A_CCC_PLUS Z a0)), (.ref (A_CCC Z a0)), .null] d0_141 A57 O_r (Ins.self ((s_CCC_MINUS hw hn).2.2.ext w.old)) ⟨by decide, by decide⟩ (by decide) (pad_rep [(.ref (A_AAA Z a0)), (.ref (A_AA_PLUS Z a0)), (.ref (A_AA Z a0)), (.ref (A_AA_MINUS Z a0)), (.ref (A_A_PLUS Z a0)), (.ref (A_A Z a0)), (.ref (A_A_MINUS Z a0)), (.ref (A_BBB_PLUS Z a0)), (.ref (A_BBB Z a0)), (.ref (A_BBB_MINUS Z a0)), (.ref (A_BB_PLUS Z a0)), (.ref (A_BB Z a0)), (.ref (A_BB_MINUS Z a0)), (.ref (A_B_PLUS Z a0)), (.ref (A_B Z a0)), (.ref (A_B_MINUS Z a0)), (.ref (A_CCC_PLUS Z a0)), (.ref (A_CCC Z a0))] .null 1) (by simp) (List.mem_of_getElem? (i := 0) rfl) ?_
  intro T h20 w W58 A59
  have A60 : Arv Z h20 r kc_r (.object "com/example/tenorloom/tenorloom/bond/Rating") (22 : Int32) [(.ref (A_AAA Z a0)), (.ref (A_AA_PLUS Z a0)), (.ref (A_AA Z a0)), (.ref (A_AA_MINUS Z a0)), (.ref (A_A_PLUS Z a0)), (.ref (A_A Z a0)), (.ref (A_A_MINUS Z a0)), (.ref (A_BBB_PLUS Z a0)), (.ref (A_BBB Z a0)), (.ref (A_BBB_MINUS Z a0)), (.ref (A_BB_PLUS Z a0)), (.ref (A_BB Z a0)), (.ref (A_BB_MINUS Z a0)), (.ref (A_B_PLUS Z a0)), (.ref (A_B Z a0)), (.ref (A_B_MINUS Z a0)), (.ref (A_CCC_PLUS Z a0)), (.ref (A_CCC Z a0)), (.ref (A_CCC_MINUS Z a0))] .null := A59
  refine w.dup d0_142 rfl ?_
  refine w.bipush (19 : Int32) d0_143 rfl ?_
  refine w.getS d0_145 (tw hw 43 rfl) (s_CC hw hn).2.1 ?_
  intro T w
  refine w.stR 19 [(.ref (A_AAA Z a0)), (.ref (A_AA_PLUS Z a0)), (.ref (A_AA Z a0)), (.ref (A_AA_MINUS Z a0)), (.ref (A_A_PLUS Z a0)), (.ref (A_A Z a0)), (.ref (A_A_MINUS Z a0)), (.ref (A_BBB_PLUS Z a0)), (.ref (A_BBB Z a0)), (.ref (A_BBB_MINUS Z a0)), (.ref (A_BB_PLUS Z a0)), (.ref (A_BB Z a0)), (.ref (A_BB_MINUS Z a0)), (.ref (A_B_PLUS Z a0)), (.ref (A_B Z a0)), (.ref (A_B_MINUS Z a0)), (.ref (A_CCC_PLUS Z a0)), (.ref (A_CCC Z a0)), (.ref (A_CCC_MINUS Z a0)), .null] d0_148 A60 O_r (Ins.self ((s_CC hw hn).2.2.ext w.old)) ⟨by decide, by decide⟩ (by decide) (pad_rep [(.ref (A_AAA Z a0)), (.ref (A_AA_PLUS Z a0)), (.ref (A_AA Z a0)), (.ref (A_AA_MINUS Z a0)), (.ref (A_A_PLUS Z a0)), (.ref (A_A Z a0)), (.ref (A_A_MINUS Z a0)), (.ref (A_BBB_PLUS Z a0)), (.ref (A_BBB Z a0)), (.ref (A_BBB_MINUS Z a0)), (.ref (A_BB_PLUS Z a0)), (.ref (A_BB Z a0)), (.ref (A_BB_MINUS Z a0)), (.ref (A_B_PLUS Z a0)), (.ref (A_B Z a0)), (.ref (A_B_MINUS Z a0)), (.ref (A_CCC_PLUS Z a0)), (.ref (A_CCC Z a0)), (.ref (A_CCC_MINUS Z a0))] .null 1) (by simp) (List.mem_of_getElem? (i := 0) rfl) ?_
  intro T h21 w W61 A62
  have A63 : Arv Z h21 r kc_r (.object "com/example/tenorloom/tenorloom/bond/Rating") (22 : Int32) [(.ref (A_AAA Z a0)), (.ref (A_AA_PLUS Z a0)), (.ref (A_AA Z a0)), (.ref (A_AA_MINUS Z a0)), (.ref (A_A_PLUS Z a0)), (.ref (A_A Z a0)), (.ref (A_A_MINUS Z a0)), (.ref (A_BBB_PLUS Z a0)), (.ref (A_BBB Z a0)), (.ref (A_BBB_MINUS Z a0)), (.ref (A_BB_PLUS Z a0)), (.ref (A_BB Z a0)), (.ref (A_BB_MINUS Z a0)), (.ref (A_B_PLUS Z a0)), (.ref (A_B Z a0)), (.ref (A_B_MINUS Z a0)), (.ref (A_CCC_PLUS Z a0)), (.ref (A_CCC Z a0)), (.ref (A_CCC_MINUS Z a0)), (.ref (A_CC Z a0))] .null := A62
  refine w.dup d0_149 rfl ?_
  refine w.bipush (20 : Int32) d0_150 rfl ?_
  refine w.getS d0_152 (tw hw 45 rfl) (s_C hw hn).2.1 ?_
  intro T w
  refine w.stR 20 [(.ref (A_AAA Z a0)), (.ref (A_AA_PLUS Z a0)), (.ref (A_AA Z a0)), (.ref (A_AA_MINUS Z a0)), (.ref (A_A_PLUS Z a0)), (.ref (A_A Z a0)), (.ref (A_A_MINUS Z a0)), (.ref (A_BBB_PLUS Z a0)), (.ref (A_BBB Z a0)), (.ref (A_BBB_MINUS Z a0)), (.ref (A_BB_PLUS Z a0)), (.ref (A_BB Z a0)), (.ref (A_BB_MINUS Z a0)), (.ref (A_B_PLUS Z a0)), (.ref (A_B Z a0)), (.ref (A_B_MINUS Z a0)), (.ref (A_CCC_PLUS Z a0)), (.ref (A_CCC Z a0)), (.ref (A_CCC_MINUS Z a0)), (.ref (A_CC Z a0)), .null] d0_155 A63 O_r (Ins.self ((s_C hw hn).2.2.ext w.old)) ⟨by decide, by decide⟩ (by decide) (pad_rep [(.ref (A_AAA Z a0)), (.ref (A_AA_PLUS Z a0)), (.ref (A_AA Z a0)), (.ref (A_AA_MINUS Z a0)), (.ref (A_A_PLUS Z a0)), (.ref (A_A Z a0)), (.ref (A_A_MINUS Z a0)), (.ref (A_BBB_PLUS Z a0)), (.ref (A_BBB Z a0)), (.ref (A_BBB_MINUS Z a0)), (.ref (A_BB_PLUS Z a0)), (.ref (A_BB Z a0)), (.ref (A_BB_MINUS Z a0)), (.ref (A_B_PLUS Z a0)), (.ref (A_B Z a0)), (.ref (A_B_MINUS Z a0)), (.ref (A_CCC_PLUS Z a0)), (.ref (A_CCC Z a0)), (.ref (A_CCC_MINUS Z a0)), (.ref (A_CC Z a0))] .null 1) (by simp) (List.mem_of_getElem? (i := 0) rfl) ?_
  intro T h22 w W64 A65
  have A66 : Arv Z h22 r kc_r (.object "com/example/tenorloom/tenorloom/bond/Rating") (22 : Int32) [(.ref (A_AAA Z a0)), (.ref (A_AA_PLUS Z a0)), (.ref (A_AA Z a0)), (.ref (A_AA_MINUS Z a0)), (.ref (A_A_PLUS Z a0)), (.ref (A_A Z a0)), (.ref (A_A_MINUS Z a0)), (.ref (A_BBB_PLUS Z a0)), (.ref (A_BBB Z a0)), (.ref (A_BBB_MINUS Z a0)), (.ref (A_BB_PLUS Z a0)), (.ref (A_BB Z a0)), (.ref (A_BB_MINUS Z a0)), (.ref (A_B_PLUS Z a0)), (.ref (A_B Z a0)), (.ref (A_B_MINUS Z a0)), (.ref (A_CCC_PLUS Z a0)), (.ref (A_CCC Z a0)), (.ref (A_CCC_MINUS Z a0)), (.ref (A_CC Z a0)), (.ref (A_C Z a0))] .null := A65
  refine w.dup d0_156 rfl ?_
  refine w.bipush (21 : Int32) d0_157 rfl ?_
  refine w.getS d0_159 (tw hw 47 rfl) (s_D hw hn).2.1 ?_
  intro T w
  refine w.stR 21 [(.ref (A_AAA Z a0)), (.ref (A_AA_PLUS Z a0)), (.ref (A_AA Z a0)), (.ref (A_AA_MINUS Z a0)), (.ref (A_A_PLUS Z a0)), (.ref (A_A Z a0)), (.ref (A_A_MINUS Z a0)), (.ref (A_BBB_PLUS Z a0)), (.ref (A_BBB Z a0)), (.ref (A_BBB_MINUS Z a0)), (.ref (A_BB_PLUS Z a0)), (.ref (A_BB Z a0)), (.ref (A_BB_MINUS Z a0)), (.ref (A_B_PLUS Z a0)), (.ref (A_B Z a0)), (.ref (A_B_MINUS Z a0)), (.ref (A_CCC_PLUS Z a0)), (.ref (A_CCC Z a0)), (.ref (A_CCC_MINUS Z a0)), (.ref (A_CC Z a0)), (.ref (A_C Z a0)), .null] d0_162 A66 O_r (Ins.self ((s_D hw hn).2.2.ext w.old)) ⟨by decide, by decide⟩ (by decide) (pad_rep [(.ref (A_AAA Z a0)), (.ref (A_AA_PLUS Z a0)), (.ref (A_AA Z a0)), (.ref (A_AA_MINUS Z a0)), (.ref (A_A_PLUS Z a0)), (.ref (A_A Z a0)), (.ref (A_A_MINUS Z a0)), (.ref (A_BBB_PLUS Z a0)), (.ref (A_BBB Z a0)), (.ref (A_BBB_MINUS Z a0)), (.ref (A_BB_PLUS Z a0)), (.ref (A_BB Z a0)), (.ref (A_BB_MINUS Z a0)), (.ref (A_B_PLUS Z a0)), (.ref (A_B Z a0)), (.ref (A_B_MINUS Z a0)), (.ref (A_CCC_PLUS Z a0)), (.ref (A_CCC Z a0)), (.ref (A_CCC_MINUS Z a0)), (.ref (A_CC Z a0)), (.ref (A_C Z a0))] .null 1) (by simp) (List.mem_of_getElem? (i := 0) rfl) ?_
  intro T h23 w W67 A68
  have A69 : Arv Z h23 r kc_r (.object "com/example/tenorloom/tenorloom/bond/Rating") (22 : Int32) [(.ref (A_AAA Z a0)), (.ref (A_AA_PLUS Z a0)), (.ref (A_AA Z a0)), (.ref (A_AA_MINUS Z a0)), (.ref (A_A_PLUS Z a0)), (.ref (A_A Z a0)), (.ref (A_A_MINUS Z a0)), (.ref (A_BBB_PLUS Z a0)), (.ref (A_BBB Z a0)), (.ref (A_BBB_MINUS Z a0)), (.ref (A_BB_PLUS Z a0)), (.ref (A_BB Z a0)), (.ref (A_BB_MINUS Z a0)), (.ref (A_B_PLUS Z a0)), (.ref (A_B Z a0)), (.ref (A_B_MINUS Z a0)), (.ref (A_CCC_PLUS Z a0)), (.ref (A_CCC Z a0)), (.ref (A_CCC_MINUS Z a0)), (.ref (A_CC Z a0)), (.ref (A_C Z a0)), (.ref (A_D Z a0))] .null := A68
  refine w.astoreN #[.val (.int k), .val (.int (i + (1 : Int32))), .val (.ref r), .unset] d0_163 rfl rfl ?_
  refine w.iloadN d0_164 rfl ?_
  have sw := w.size
  refine w.callS (argsL := [(.int (i + (1 : Int32)))]) (rest := []) 0 d0_165 (tw hw 49 rfl) (tw hw 50 rfl) (tw hw 4 rfl) (tw hw 51 rfl) (by decide) (rmO l Z a0 hw hF hn i hm.1 hm.2 a ha h23 w.old) (lenOf pd_2 rfl) rfl rfl (Nat.le_refl _) ⟨by decide, by decide, by decide, by decide⟩ all0 ?_
  intro T h24 q w _ hQ
  obtain ⟨rfl, E1⟩ := hQ
  obtain ⟨cl, Ar, r1, S, r3, H, G⟩ := A69.ext E1
  show Go x _ Z _ _ _ T 168 #[.val (.int k), .val (.int (i + (1 : Int32))), .val (.ref r), .unset] [(.ref a)]
  refine w.astoreN #[.val (.int k), .val (.int (i + (1 : Int32))), .val (.ref r), .val (.ref a)] d0_168 rfl rfl ?_
  refine w.aloadN d0_169 rfl rfl ?_
  refine w.aloadN d0_170 rfl rfl ?_
  refine w.iloadN d0_171 rfl ?_
  refine w.iconst (1 : Int32) d0_172 rfl ?_
  refine w.isub d0_173 ?_
  rw [hp.2.2]
  have hin : ¬ (i < 0 ∨ cl.slots.size ≤ i.toNatClampNeg) := inb_of S (own_in (D := 22) hm.1 hm.2 (by decide))
  refine w.aaload d0_174 Ar rfl hin (H.at hin ha) ?_
  refine w.racmpNe d0_175 d0_175t (fun q => absurd rfl q) (fun _ => ?_)
  refine w.aloadN d0_178 rfl rfl ?_
  refine w.callV (argsL := []) (rest := []) 0 d0_179 (tw hw 67 rfl) (tw hw 68 rfl) (tw hw 70 rfl) (tw hw 69 rfl) (tw hw 4 rfl) (tw hw 71 rfl) (by decide) (Ea.ext w.old) (rmN l Z a0 hw a i h24 w.old (Ea.ext w.old) (Fa.ext w.old)) (lenOf pd_1 rfl) rfl rfl (Nat.le_refl _) ⟨by decide, by decide, by decide, by decide⟩ all0 ?_
  intro T h25 q w _ hQ
  obtain ⟨rfl, rfl⟩ := hQ
  show Go x _ Z _ _ _ T 182 #[.val (.int k), .val (.int (i + (1 : Int32))), .val (.ref r), .val (.ref a)] [(.int (i + (1 : Int32)))]
  refine w.iloadN d0_182 rfl ?_
  refine w.icmpNe d0_183 d0_183t (fun q => absurd rfl q) (fun _ => ?_)
  refine w.iconst (1 : Int32) d0_186 rfl ?_
  refine w.goto d0_187 d0_187t ?_
  exact w.retN d0_191 rfl (by simp) rfl

set_option maxRecDepth 65536 in
set_option maxHeartbeats 40000000 in
theorem comes_1 {Post : Tables → Env → Array Value → State → Outcome → State → Prop} (hpost : ∀ tb e args s v u, (limb_1_1.after args s (.returned v) u = true ∧ limb_1_2.after args s (.returned v) u = true) → FrameEnd s (.returned v) u (Jvm.fieldLocs frame_1_writes args s ++ Jvm.arrayLocs frame_1_arrays args s ++ Jvm.staticLocs frame_1_statics s) 16 192 → Post tb e args s (.returned v) u) :
    ArmFor flags0 classFile x code maxLocals ret World_1 tables_1 room_1 Calls_1 rest_1 Pre_1 Post := by
  intro l hfl _ _ p e ha hc hk s m args below hf hA hF happ hP
  obtain ⟨hcalls, hrest, hpre⟩ := hP
  obtain ⟨-, -, -, hnamed, -, -, -, hat⟩ := (Spec.applies_iff hf).mp happ
  obtain ⟨hg, hn⟩ := and_e (Cond.before_iff.mp (show (Jvm.Cond.and given_1 narrow_1).before args s = true from hpre))
  obtain ⟨hc0, hg⟩ := and_e hg
  obtain ⟨w0, rfl⟩ : ∃ w0 : Value, args = #[w0] := by
    have hs : args.size = 1 := by simpa [Cond.value] using hc0
    obtain ⟨L⟩ := args
    match L, hs with
    | [w0], _ => exact ⟨w0, rfl⟩
  have hw := fun d (hd : d ∈ tables_1) => atoms_spec (ws := Jvm.Cond.code x code maxLocals ret :: tables_1) hat d (List.mem_cons_of_mem _ hd)
  have hfit : Fit s := fit_of hF
  obtain ⟨i0, e0⟩ := is_v hg
  obtain rfl : w0 = (.int i0) := Option.some.inj e0
  obtain ⟨n, o, h1, h2, h3, _, L, rfl, ⟨rfl, N, -, -⟩, hq⟩ := rm0 l s _ hw hfit hn i0 s.heap (ext_refl _) p e ha hc hk s m _ below hf ((Spec.applies_iff_loose hf).mp happ).1 ⟨rfl, State.Warmed39.refl s, rfl, fun q => by cases q⟩ trivial
  refine ⟨n, _, h1, h2, h3, hpost _ _ _ _ _ _ ⟨Cond.after_iff.mpr rfl, Cond.after_iff.mpr (eq_i res_at (Term.int_eval (1)) rfl)⟩ ⟨hq.1, hq.2.1, (hq.2.2.sift fun y hy => Or.inr (N y hy)).mono (by decide) (by decide)⟩⟩
theorem main_1_1 : Claimed_1_1 := comes_1 fun _ _ _ _ _ _ h hF => ⟨h.1, hF⟩
theorem main_1_2 : Claimed_1_2 := comes_1 fun _ _ _ _ _ _ h hF => ⟨h.2, hF⟩
end Jvm.Pilot.@@N@@
namespace Jvm.Pilot.@@N@@
open Jvm Jvm.ClassFile Sem Op Lib Jvm.Free Jvm.Stand Jvm.Pilot.@@N@@.Jvm.D
/-! MADE BY PROGRAM (witnessworld.py) out of the Statement's table words and the real class files: 13 classes; the members and pool entries that the words name. The judged class is class 1, her method 1. -/
namespace start1
open Jvm.ClassFile
def u (s : String) : CpInfo := .utf8 (stringToUtf16 s)
/-- a pool by its gaps: so many unusable entries, then the entry; so many at the end -/
def gap : Nat → List CpInfo → List CpInfo
  | 0, r => r
  | n + 1, r => .unusable :: gap n r
def poolList (es : List (Nat × CpInfo)) (last : Nat) : List CpInfo := es.foldr (fun e r => gap e.1 (e.2 :: r)) (gap last [])
def pool (es : List (Nat × CpInfo)) (last : Nat) : Array CpInfo := ⟨poolList es last⟩
def fileOf (pool : Array CpInfo) (this : Nat) (attrs : Array Attribute := #[]) (ms : Array MethodInfo := #[]) (fl : Nat := 33) (sup : Nat := 0) (ifs : Array Nat := #[]) (fds : Array FieldInfo := #[]) : ClassFile where
  minorVersion := 0
  majorVersion := 65
  constantPool := pool
  accessFlags := fl
  thisClass := this
  superClass := sup
  interfaces := ifs
  fields := fds
  methods := ms
  attributes := attrs
def plain (name : String) (sup : Option ClassId) : Class where
  name := name
  kind := .ordinary
  loader := none
  accessFlags := 33
  super := sup
  interfaces := #[]
  cf := none
  fields := #[]
  methods := #[]
  instanceTypes := #[]
  staticTypes := #[]
  resolved := #[]
  callSites := []
  init := .initialized
  statics := none
  mirror := none

def pool0 : Array CpInfo := pool [(5, u "<init>"), (0, u "()V"), (1, .class_ 10), (1, u "java/lang/Object"), (85, u "clone"), (0, u "()Ljava/lang/Object;")] 26

def k0m0 : Method := { name := "<init>", desc := "()V", sig := { parameters := [], returnType := none }, accessFlags := 1, code := none }
def k0m1 : Method := { name := "clone", desc := "()Ljava/lang/Object;", sig := { parameters := [], returnType := some (.object "java/lang/Object") }, accessFlags := 260, code := none }
/-- java/lang/Object -/
def k0 : Class := { plain "java/lang/Object" none with
  accessFlags := 33
  interfaces := #[]
  cf := some (fileOf pool0 8 #[] #[{ accessFlags := 1, nameIndex := 5, descriptorIndex := 6, attributes := #[] }, { accessFlags := 260, nameIndex := 96, descriptorIndex := 97, attributes := #[] }] 33 0 #[] #[])
  fields := #[]
  methods := #[k0m0, k0m1]
  instanceTypes := #[]
  staticTypes := #[]
  resolved := Array.replicate 124 none
  statics := none }

def pool1 : Array CpInfo := pool [(2, .class_ 4), (1, u "java/lang/Object"), (0, u "<init>"), (0, u "()V"), (0, .integer 2147483647), (0, .class_ 9), (0, u "com/example/tenorloom/tenorloom/bond/Rating"), (0, .fieldref 8 11), (0, .nameAndType 12 13), (0, u "AAA"), (0, u "Lcom/example/tenorloom/tenorloom/bond/Rating;"), (0, .fieldref 8 15), (0, .nameAndType 16 13), (0, u "AA_PLUS"), (0, .fieldref 8 18), (0, .nameAndType 19 13), (0, u "AA"), (0, .fieldref 8 21), (0, .nameAndType 22 13), (0, u "AA_MINUS"), (0, .fieldref 8 24), (0, .nameAndType 25 13), (0, u "A_PLUS"), (0, .fieldref 8 27), (0, .nameAndType 28 13), (0, u "A"), (0, .fieldref 8 30), (0, .nameAndType 31 13), (0, u "A_MINUS"), (0, .fieldref 8 33), (0, .nameAndType 34 13), (0, u "BBB_PLUS"), (0, .fieldref 8 36), (0, .nameAndType 37 13), (0, u "BBB"), (0, .fieldref 8 39), (0, .nameAndType 40 13), (0, u "BBB_MINUS"), (0, .fieldref 8 42), (0, .nameAndType 43 13), (0, u "BB_PLUS"), (0, .fieldref 8 45), (0, .nameAndType 46 13), (0, u "BB"), (0, .fieldref 8 48), (0, .nameAndType 49 13), (0, u "BB_MINUS"), (0, .fieldref 8 51), (0, .nameAndType 52 13), (0, u "B_PLUS"), (0, .fieldref 8 54), (0, .nameAndType 55 13), (0, u "B"), (0, .fieldref 8 57), (0, .nameAndType 58 13), (0, u "B_MINUS"), (0, .fieldref 8 60), (0, .nameAndType 61 13), (0, u "CCC_PLUS"), (0, .fieldref 8 63), (0, .nameAndType 64 13), (0, u "CCC"), (0, .fieldref 8 66), (0, .nameAndType 67 13), (0, u "CCC_MINUS"), (0, .fieldref 8 69), (0, .nameAndType 70 13), (0, u "CC"), (0, .fieldref 8 72), (0, .nameAndType 73 13), (0, u "C"), (0, .fieldref 8 75), (0, .nameAndType 76 13), (0, u "D"), (0, .methodref 8 78), (0, .nameAndType 79 80), (0, u "of"), (0, u "(I)Lcom/example/tenorloom/tenorloom/bond/Rating;"), (0, .methodref 8 82), (0, .nameAndType 83 84), (0, u "number"), (0, u "()I"), (0, .class_ 86), (0, u "com/example/tenorloom/tenorloom/bond/RatingOfPinLaw"), (2, u "law"), (0, u "(I)Z")] 5

def k1m0 : Method := { name := "<init>", desc := "()V", sig := { parameters := [], returnType := none }, accessFlags := 2, code := none }
def k1c1 : Code := { maxStack := 4, maxLocals := 4, code := code, exceptionTable := #[], attributes := #[] }
def k1m1 : Method := { name := "law", desc := "(I)Z", sig := { parameters := [.int], returnType := some .boolean }, accessFlags := 9, code := some k1c1 }
/-- com/example/tenorloom/tenorloom/bond/RatingOfPinLaw -/
def k1 : Class := { plain "com/example/tenorloom/tenorloom/bond/RatingOfPinLaw" (some 0) with
  accessFlags := 49
  interfaces := #[]
  cf := some (fileOf pool1 85 #[] #[{ accessFlags := 2, nameIndex := 5, descriptorIndex := 6, attributes := #[] }, { accessFlags := 9, nameIndex := 89, descriptorIndex := 90, attributes := #[] }] 49 2 #[] #[])
  fields := #[]
  methods := #[k1m0, k1m1]
  instanceTypes := #[]
  staticTypes := #[]
  resolved := Array.replicate 96 none
  statics := none }

def pool2 : Array CpInfo := pool [(1, .class_ 2), (0, u "java/lang/constant/Constable"), (0, .class_ 4), (0, u "java/lang/Object")] 6

/-- java/lang/constant/Constable -/
def k2 : Class := { plain "java/lang/constant/Constable" (some 0) with
  accessFlags := 1537
  interfaces := #[]
  cf := some (fileOf pool2 1 #[] #[] 1537 3 #[] #[])
  fields := #[]
  methods := #[]
  instanceTypes := #[]
  staticTypes := #[]
  resolved := Array.replicate 11 none
  statics := none }

def pool3 : Array CpInfo := pool [(1, .class_ 2), (0, u "java/lang/Comparable"), (0, .class_ 4), (0, u "java/lang/Object")] 7

/-- java/lang/Comparable -/
def k3 : Class := { plain "java/lang/Comparable" (some 0) with
  accessFlags := 1537
  interfaces := #[]
  cf := some (fileOf pool3 1 #[] #[] 1537 3 #[] #[])
  fields := #[]
  methods := #[]
  instanceTypes := #[]
  staticTypes := #[]
  resolved := Array.replicate 12 none
  statics := none }

def pool4 : Array CpInfo := pool [(1, .class_ 2), (0, u "java/io/Serializable"), (0, .class_ 4), (0, u "java/lang/Object")] 2

/-- java/io/Serializable -/
def k4 : Class := { plain "java/io/Serializable" (some 0) with
  accessFlags := 1537
  interfaces := #[]
  cf := some (fileOf pool4 1 #[] #[] 1537 3 #[] #[])
  fields := #[]
  methods := #[]
  instanceTypes := #[]
  staticTypes := #[]
  resolved := Array.replicate 7 none
  statics := none }

def pool5 : Array CpInfo := pool [(2, .class_ 4), (1, u "java/lang/Enum"), (0, u "name"), (0, u "Ljava/lang/String;"), (0, .fieldref 2 8), (0, .nameAndType 9 10), (0, u "ordinal"), (0, u "I"), (1, .class_ 14), (1, u "java/lang/Object"), (4, u "hash"), (86, .class_ 108), (1, u "java/lang/Enum$EnumDesc"), (2, .class_ 112), (0, u "java/lang/constant/Constable"), (0, .class_ 114), (0, u "java/lang/Comparable"), (0, .class_ 116), (0, u "java/io/Serializable"), (9, u "()I")] 77

def k5c0 : Code := { maxStack := 1, maxLocals := 1, code := jdk_37_method_2_code, exceptionTable := #[], attributes := #[] }
def k5m0 : Method := { name := "ordinal", desc := "()I", sig := { parameters := [], returnType := some .int }, accessFlags := 17, code := some k5c0 }
/-- java/lang/Enum -/
def k5 : Class := { plain "java/lang/Enum" (some 0) with
  accessFlags := 1057
  interfaces := #[2, 3, 4]
  cf := some (fileOf pool5 2 #[.nestMembers #[106]] #[{ accessFlags := 17, nameIndex := 9, descriptorIndex := 126, attributes := #[] }] 1057 12 #[111, 113, 115] #[{ accessFlags := 18, nameIndex := 5, descriptorIndex := 6, attributes := #[] }, { accessFlags := 18, nameIndex := 9, descriptorIndex := 10, attributes := #[] }, { accessFlags := 2, nameIndex := 19, descriptorIndex := 10, attributes := #[] }])
  fields := #[{ name := "name", type := (.object "java/lang/String"), accessFlags := 18, slot := 0, constantValue := 0 }, { name := "ordinal", type := .int, accessFlags := 18, slot := 1, constantValue := 0 }, { name := "hash", type := .int, accessFlags := 2, slot := 2, constantValue := 0 }]
  methods := #[k5m0]
  instanceTypes := #[(.object "java/lang/String"), .int, .int]
  staticTypes := #[]
  resolved := Array.replicate 204 none
  statics := none }

def pool6 : Array CpInfo := pool [(1, .class_ 2), (0, u "com/example/tenorloom/tenorloom/bond/Rating"), (2, u "AAA"), (0, u "Lcom/example/tenorloom/tenorloom/bond/Rating;"), (2, u "AA_PLUS"), (2, u "AA"), (2, u "AA_MINUS"), (2, u "A_PLUS"), (2, u "A"), (2, u "A_MINUS"), (2, u "BBB_PLUS"), (2, u "BBB"), (2, u "BBB_MINUS"), (2, u "BB_PLUS"), (2, u "BB"), (2, u "BB_MINUS"), (2, u "B_PLUS"), (2, u "B"), (2, u "B_MINUS"), (2, u "CCC_PLUS"), (2, u "CCC"), (2, u "CCC_MINUS"), (2, u "CC"), (2, u "C"), (2, u "D"), (0, .fieldref 1 71), (0, .nameAndType 72 73), (0, u "$VALUES"), (0, u "[Lcom/example/tenorloom/tenorloom/bond/Rating;"), (0, .methodref 75 76), (0, .class_ 73), (0, .nameAndType 77 78), (0, u "clone"), (0, u "()Ljava/lang/Object;"), (1, .class_ 82), (1, u "java/lang/Enum"), (8, u "symbol"), (0, u "Ljava/lang/String;"), (2, u "moodysSymbol"), (20, .methodref 1 117), (0, .nameAndType 118 119), (0, u "values"), (0, u "()[Lcom/example/tenorloom/tenorloom/bond/Rating;"), (0, .methodref 1 121), (0, .nameAndType 122 123), (0, u "ordinal"), (0, u "()I"), (107, u "MAX_NUMBER"), (0, u "I"), (8, u "of"), (0, u "(I)Lcom/example/tenorloom/tenorloom/bond/Rating;"), (1, u "number")] 7

def k6c0 : Code := { maxStack := 1, maxLocals := 0, code := prog_18_method_1_code, exceptionTable := #[], attributes := #[] }
def k6m0 : Method := { name := "values", desc := "()[Lcom/example/tenorloom/tenorloom/bond/Rating;", sig := { parameters := [], returnType := some (.array (.object "com/example/tenorloom/tenorloom/bond/Rating")) }, accessFlags := 9, code := some k6c0 }
def k6c1 : Code := { maxStack := 7, maxLocals := 1, code := prog_18_method_4_code, exceptionTable := #[], attributes := #[] }
def k6m1 : Method := { name := "of", desc := "(I)Lcom/example/tenorloom/tenorloom/bond/Rating;", sig := { parameters := [.int], returnType := some (.object "com/example/tenorloom/tenorloom/bond/Rating") }, accessFlags := 9, code := some k6c1 }
def k6c2 : Code := { maxStack := 2, maxLocals := 1, code := prog_18_method_5_code, exceptionTable := #[], attributes := #[] }
def k6m2 : Method := { name := "number", desc := "()I", sig := { parameters := [], returnType := some .int }, accessFlags := 1, code := some k6c2 }
/-- com/example/tenorloom/tenorloom/bond/Rating -/
def k6 : Class := { plain "com/example/tenorloom/tenorloom/bond/Rating" (some 5) with
  accessFlags := 16433
  interfaces := #[]
  cf := some (fileOf pool6 1 #[] #[{ accessFlags := 9, nameIndex := 118, descriptorIndex := 119, attributes := #[] }, { accessFlags := 9, nameIndex := 241, descriptorIndex := 242, attributes := #[] }, { accessFlags := 1, nameIndex := 244, descriptorIndex := 123, attributes := #[] }] 16433 80 #[] #[{ accessFlags := 16409, nameIndex := 5, descriptorIndex := 6, attributes := #[] }, { accessFlags := 16409, nameIndex := 9, descriptorIndex := 6, attributes := #[] }, { accessFlags := 16409, nameIndex := 12, descriptorIndex := 6, attributes := #[] }, { accessFlags := 16409, nameIndex := 15, descriptorIndex := 6, attributes := #[] }, { accessFlags := 16409, nameIndex := 18, descriptorIndex := 6, attributes := #[] }, { accessFlags := 16409, nameIndex := 21, descriptorIndex := 6, attributes := #[] }, { accessFlags := 16409, nameIndex := 24, descriptorIndex := 6, attributes := #[] }, { accessFlags := 16409, nameIndex := 27, descriptorIndex := 6, attributes := #[] }, { accessFlags := 16409, nameIndex := 30, descriptorIndex := 6, attributes := #[] }, { accessFlags := 16409, nameIndex := 33, descriptorIndex := 6, attributes := #[] }, { accessFlags := 16409, nameIndex := 36, descriptorIndex := 6, attributes := #[] }, { accessFlags := 16409, nameIndex := 39, descriptorIndex := 6, attributes := #[] }, { accessFlags := 16409, nameIndex := 42, descriptorIndex := 6, attributes := #[] }, { accessFlags := 16409, nameIndex := 45, descriptorIndex := 6, attributes := #[] }, { accessFlags := 16409, nameIndex := 48, descriptorIndex := 6, attributes := #[] }, { accessFlags := 16409, nameIndex := 51, descriptorIndex := 6, attributes := #[] }, { accessFlags := 16409, nameIndex := 54, descriptorIndex := 6, attributes := #[] }, { accessFlags := 16409, nameIndex := 57, descriptorIndex := 6, attributes := #[] }, { accessFlags := 16409, nameIndex := 60, descriptorIndex := 6, attributes := #[] }, { accessFlags := 16409, nameIndex := 63, descriptorIndex := 6, attributes := #[] }, { accessFlags := 16409, nameIndex := 66, descriptorIndex := 6, attributes := #[] }, { accessFlags := 16409, nameIndex := 69, descriptorIndex := 6, attributes := #[] }, { accessFlags := 25, nameIndex := 231, descriptorIndex := 232, attributes := #[] }, { accessFlags := 18, nameIndex := 91, descriptorIndex := 92, attributes := #[] }, { accessFlags := 18, nameIndex := 95, descriptorIndex := 92, attributes := #[] }, { accessFlags := 4122, nameIndex := 72, descriptorIndex := 73, attributes := #[] }])
  fields := #[{ name := "AAA", type := (.object "com/example/tenorloom/tenorloom/bond/Rating"), accessFlags := 16409, slot := 0, constantValue := 0 }, { name := "AA_PLUS", type := (.object "com/example/tenorloom/tenorloom/bond/Rating"), accessFlags := 16409, slot := 1, constantValue := 0 }, { name := "AA", type := (.object "com/example/tenorloom/tenorloom/bond/Rating"), accessFlags := 16409, slot := 2, constantValue := 0 }, { name := "AA_MINUS", type := (.object "com/example/tenorloom/tenorloom/bond/Rating"), accessFlags := 16409, slot := 3, constantValue := 0 }, { name := "A_PLUS", type := (.object "com/example/tenorloom/tenorloom/bond/Rating"), accessFlags := 16409, slot := 4, constantValue := 0 }, { name := "A", type := (.object "com/example/tenorloom/tenorloom/bond/Rating"), accessFlags := 16409, slot := 5, constantValue := 0 }, { name := "A_MINUS", type := (.object "com/example/tenorloom/tenorloom/bond/Rating"), accessFlags := 16409, slot := 6, constantValue := 0 }, { name := "BBB_PLUS", type := (.object "com/example/tenorloom/tenorloom/bond/Rating"), accessFlags := 16409, slot := 7, constantValue := 0 }, { name := "BBB", type := (.object "com/example/tenorloom/tenorloom/bond/Rating"), accessFlags := 16409, slot := 8, constantValue := 0 }, { name := "BBB_MINUS", type := (.object "com/example/tenorloom/tenorloom/bond/Rating"), accessFlags := 16409, slot := 9, constantValue := 0 }, { name := "BB_PLUS", type := (.object "com/example/tenorloom/tenorloom/bond/Rating"), accessFlags := 16409, slot := 10, constantValue := 0 }, { name := "BB", type := (.object "com/example/tenorloom/tenorloom/bond/Rating"), accessFlags := 16409, slot := 11, constantValue := 0 }, { name := "BB_MINUS", type := (.object "com/example/tenorloom/tenorloom/bond/Rating"), accessFlags := 16409, slot := 12, constantValue := 0 }, { name := "B_PLUS", type := (.object "com/example/tenorloom/tenorloom/bond/Rating"), accessFlags := 16409, slot := 13, constantValue := 0 }, { name := "B", type := (.object "com/example/tenorloom/tenorloom/bond/Rating"), accessFlags := 16409, slot := 14, constantValue := 0 }, { name := "B_MINUS", type := (.object "com/example/tenorloom/tenorloom/bond/Rating"), accessFlags := 16409, slot := 15, constantValue := 0 }, { name := "CCC_PLUS", type := (.object "com/example/tenorloom/tenorloom/bond/Rating"), accessFlags := 16409, slot := 16, constantValue := 0 }, { name := "CCC", type := (.object "com/example/tenorloom/tenorloom/bond/Rating"), accessFlags := 16409, slot := 17, constantValue := 0 }, { name := "CCC_MINUS", type := (.object "com/example/tenorloom/tenorloom/bond/Rating"), accessFlags := 16409, slot := 18, constantValue := 0 }, { name := "CC", type := (.object "com/example/tenorloom/tenorloom/bond/Rating"), accessFlags := 16409, slot := 19, constantValue := 0 }, { name := "C", type := (.object "com/example/tenorloom/tenorloom/bond/Rating"), accessFlags := 16409, slot := 20, constantValue := 0 }, { name := "D", type := (.object "com/example/tenorloom/tenorloom/bond/Rating"), accessFlags := 16409, slot := 21, constantValue := 0 }, { name := "MAX_NUMBER", type := .int, accessFlags := 25, slot := 22, constantValue := 0 }, { name := "symbol", type := (.object "java/lang/String"), accessFlags := 18, slot := 3, constantValue := 0 }, { name := "moodysSymbol", type := (.object "java/lang/String"), accessFlags := 18, slot := 4, constantValue := 0 }, { name := "$VALUES", type := (.array (.object "com/example/tenorloom/tenorloom/bond/Rating")), accessFlags := 4122, slot := 23, constantValue := 0 }]
  methods := #[k6m0, k6m1, k6m2]
  instanceTypes := #[(.object "java/lang/String"), .int, .int, (.object "java/lang/String"), (.object "java/lang/String")]
  staticTypes := #[(.object "com/example/tenorloom/tenorloom/bond/Rating"), (.object "com/example/tenorloom/tenorloom/bond/Rating"), (.object "com/example/tenorloom/tenorloom/bond/Rating"), (.object "com/example/tenorloom/tenorloom/bond/Rating"), (.object "com/example/tenorloom/tenorloom/bond/Rating"), (.object "com/example/tenorloom/tenorloom/bond/Rating"), (.object "com/example/tenorloom/tenorloom/bond/Rating"), (.object "com/example/tenorloom/tenorloom/bond/Rating"), (.object "com/example/tenorloom/tenorloom/bond/Rating"), (.object "com/example/tenorloom/tenorloom/bond/Rating"), (.object "com/example/tenorloom/tenorloom/bond/Rating"), (.object "com/example/tenorloom/tenorloom/bond/Rating"), (.object "com/example/tenorloom/tenorloom/bond/Rating"), (.object "com/example/tenorloom/tenorloom/bond/Rating"), (.object "com/example/tenorloom/tenorloom/bond/Rating"), (.object "com/example/tenorloom/tenorloom/bond/Rating"), (.object "com/example/tenorloom/tenorloom/bond/Rating"), (.object "com/example/tenorloom/tenorloom/bond/Rating"), (.object "com/example/tenorloom/tenorloom/bond/Rating"), (.object "com/example/tenorloom/tenorloom/bond/Rating"), (.object "com/example/tenorloom/tenorloom/bond/Rating"), (.object "com/example/tenorloom/tenorloom/bond/Rating"), .int, (.array (.object "com/example/tenorloom/tenorloom/bond/Rating"))]
  resolved := Array.replicate 252 none
  statics := some 0 }

def pool7 : Array CpInfo := pool [(1, .class_ 2), (0, u "java/lang/Cloneable"), (0, .class_ 4), (0, u "java/lang/Object")] 2

/-- java/lang/Cloneable -/
def k7 : Class := { plain "java/lang/Cloneable" (some 0) with
  accessFlags := 1537
  interfaces := #[]
  cf := some (fileOf pool7 1 #[] #[] 1537 3 #[] #[])
  fields := #[]
  methods := #[]
  instanceTypes := #[]
  staticTypes := #[]
  resolved := Array.replicate 7 none
  statics := none }

/-- the primitive byte -/
def k8 : Class := { plain "byte" none with kind := .primitive 'B', accessFlags := 0x411 }
/-- [B -/
def k9 : Class := { plain "[B" (some 0) with kind := .array 8 .byte, interfaces := #[7, 4], accessFlags := 1041 }

/-- the primitive int -/
def k10 : Class := { plain "int" none with kind := .primitive 'I', accessFlags := 0x411 }
/-- [I -/
def k11 : Class := { plain "[I" (some 0) with kind := .array 10 .int, interfaces := #[7, 4], accessFlags := 1041 }

/-- [Lcom/example/tenorloom/tenorloom/bond/Rating; -/
def k12 : Class := { plain "[Lcom/example/tenorloom/tenorloom/bond/Rating;" (some 0) with kind := .array 6 (.object "com/example/tenorloom/tenorloom/bond/Rating"), interfaces := #[7, 4], accessFlags := 1041 }

def heap : Heap := #[{ cls := 6, slots := #[.ref 1, .ref 2, .ref 3, .ref 4, .ref 5, .ref 6, .ref 7, .ref 8, .ref 9, .ref 10, .ref 11, .ref 12, .ref 13, .ref 14, .ref 15, .ref 16, .ref 17, .ref 18, .ref 19, .ref 20, .ref 21, .ref 22, .int 0, .ref 23], vm := .statics 6 },
  { cls := 6, slots := #[.null, .int 0, .int 0, .null, .null], vm := .none },
  { cls := 6, slots := #[.null, .int 1, .int 0, .null, .null], vm := .none },
  { cls := 6, slots := #[.null, .int 2, .int 0, .null, .null], vm := .none },
  { cls := 6, slots := #[.null, .int 3, .int 0, .null, .null], vm := .none },
  { cls := 6, slots := #[.null, .int 4, .int 0, .null, .null], vm := .none },
  { cls := 6, slots := #[.null, .int 5, .int 0, .null, .null], vm := .none },
  { cls := 6, slots := #[.null, .int 6, .int 0, .null, .null], vm := .none },
  { cls := 6, slots := #[.null, .int 7, .int 0, .null, .null], vm := .none },
  { cls := 6, slots := #[.null, .int 8, .int 0, .null, .null], vm := .none },
  { cls := 6, slots := #[.null, .int 9, .int 0, .null, .null], vm := .none },
  { cls := 6, slots := #[.null, .int 10, .int 0, .null, .null], vm := .none },
  { cls := 6, slots := #[.null, .int 11, .int 0, .null, .null], vm := .none },
  { cls := 6, slots := #[.null, .int 12, .int 0, .null, .null], vm := .none },
  { cls := 6, slots := #[.null, .int 13, .int 0, .null, .null], vm := .none },
  { cls := 6, slots := #[.null, .int 14, .int 0, .null, .null], vm := .none },
  { cls := 6, slots := #[.null, .int 15, .int 0, .null, .null], vm := .none },
  { cls := 6, slots := #[.null, .int 16, .int 0, .null, .null], vm := .none },
  { cls := 6, slots := #[.null, .int 17, .int 0, .null, .null], vm := .none },
  { cls := 6, slots := #[.null, .int 18, .int 0, .null, .null], vm := .none },
  { cls := 6, slots := #[.null, .int 19, .int 0, .null, .null], vm := .none },
  { cls := 6, slots := #[.null, .int 20, .int 0, .null, .null], vm := .none },
  { cls := 6, slots := #[.null, .int 21, .int 0, .null, .null], vm := .none },
  { cls := 12, slots := #[.ref 1, .ref 2, .ref 3, .ref 4, .ref 5, .ref 6, .ref 7, .ref 8, .ref 9, .ref 10, .ref 11, .ref 12, .ref 13, .ref 14, .ref 15, .ref 16, .ref 17, .ref 18, .ref 19, .ref 20, .ref 21, .ref 22], vm := .none }]
def classes : Array Class := #[k0, k1, k2, k3, k4, k5, k6, k7, k8, k9, k10, k11, k12]
def interned : List (Array UInt16 × Addr) := []
def slotsUsed : Nat := 156
def theMethod : MethodId := ⟨1, 1⟩
def args0 : Array Value := #[.int 5]
def aboutOver (below : List Frame) : State where
  vm := { classes := classes, interned := interned.toArray }
  heap := heap
  slotsUsed := slotsUsed
  threads := #[{ frames := .invoking theMethod args0 :: below }]
def below0 : List Frame := [.native { method := ⟨0, 0⟩, args := #[] }]
def about1 : State := aboutOver below0
def p0 : Program := .bare "" "" ""
def e0 : Env := launch0.env 0 0 0
theorem w_frames : about1.frames = Frame.invoking theMethod args0 :: below0 := rfl
set_option maxRecDepth 65536 in
theorem w_args : argsFit about1.vm theMethod args0 = true := by decide +kernel
set_option maxRecDepth 65536 in
theorem w_heap : heapFits about1 = true := by decide +kernel
set_option maxRecDepth 65536 in
theorem w_runnable : about1.curStatus? = some .runnable := by decide +kernel
set_option maxRecDepth 65536 in
theorem w_alone : about1.alone = true := by decide +kernel
set_option maxRecDepth 65536 in
theorem w_named : about1.methodNamed? x = some theMethod := by decide +kernel
set_option maxRecDepth 65536 in
theorem w_hears : about1.hears theMethod below0 = true := by decide +kernel
set_option maxRecDepth 65536 in
theorem w_ripe : about1.ripe theMethod args0 below0 = true := by decide +kernel
theorem w_running : about1.status = .running := rfl
set_option maxRecDepth 65536 in
theorem w_room : about1.hasRoom e0.platform room_1 = true :=
  launch0.hasRoom_least _ room_1 (by decide +kernel) (by decide +kernel) (by decide +kernel) (by decide +kernel) (by decide +kernel) (by decide +kernel)
theorem allAtoms_all (ts : List Jvm.Cond) (a : Array Jvm.Value) (st : Jvm.State) : (allAtoms ts).before a st = ts.all (fun c => c.before a st) := by
  induction ts with
  | nil => rfl
  | cons c t ih =>
    show (Jvm.Cond.and c (allAtoms t)).before a st = _
    rw [Jvm.Cond.before_and, ih, List.all_cons]
def words1 : List Jvm.Cond := Jvm.Cond.code x code maxLocals ret :: tables_1
/-- a 'code' word, met by the world's own term for the bytes: nothing is compared byte by byte -/
theorem code_word {y : MethodName} {bytes : ByteArray} {mx : Nat} {rt : Option FieldType} {a : Array Value} {s : State} {m : MethodId} {meth : Method} {c : Code} (h1 : s.methodNamed? y = some m) (h2 : s.vm.method? m = some meth) (h3 : meth.code = some c) (h4 : c.code = bytes)
    (h5 : (c.maxLocals == mx && c.exceptionTable.isEmpty && decide (c.maxStack ≤ mostOperands) && decide (meth.sig.returnType = rt) && !meth.locks && decide (parseMethodDescriptor y.desc = some meth.sig)) = true) : (Jvm.Cond.code y bytes mx rt).before a s = true := by
  simp only [Bool.and_eq_true, beq_iff_eq, Bool.not_eq_true', decide_eq_true_eq] at h5
  obtain ⟨⟨⟨⟨⟨g1, g2⟩, g3⟩, g4⟩, g5⟩, g6⟩ := h5
  simp [Cond.before, Cond.holds, Cond.value, h1, h2, h3, h4, g1, g2, g3, g4, g5, g6]
def isCode : Jvm.Cond → Bool
  | .code _ _ _ _ => true
  | _ => false
theorem all_split {L : List Jvm.Cond} {P : Jvm.Cond → Bool} (h1 : L.all (fun c => isCode c || P c) = true) (h2 : ∀ c ∈ L.filter isCode, P c = true) : L.all P = true := by
  refine List.all_eq_true.mpr fun c hc => ?_
  have h := List.all_eq_true.mp h1 c hc
  rcases Bool.eq_false_or_eq_true (isCode c) with hi | hi
  · exact h2 c (List.mem_filter.mpr ⟨hc, hi⟩)
  · simpa [hi] using h
set_option maxRecDepth 65536 in
theorem w_c0 : (Jvm.Cond.code x code maxLocals ret).before args0 about1 = true := code_word (m := ⟨1, 1⟩) (meth := k1m1) (c := k1c1) (by decide +kernel) rfl rfl rfl (by decide +kernel)
set_option maxRecDepth 65536 in
theorem w_c1 : (Jvm.Cond.code ({ cls := "com/example/tenorloom/tenorloom/bond/Rating", name := "of", desc := "(I)Lcom/example/tenorloom/tenorloom/bond/Rating;" } : Jvm.MethodName) prog_18_method_4_code (1 : Nat) (Option.some (Jvm.ClassFile.FieldType.object "com/example/tenorloom/tenorloom/bond/Rating"))).before args0 about1 = true := code_word (m := ⟨6, 1⟩) (meth := k6m1) (c := k6c1) (by decide +kernel) rfl rfl rfl (by decide +kernel)
set_option maxRecDepth 65536 in
theorem w_c2 : (Jvm.Cond.code ({ cls := "com/example/tenorloom/tenorloom/bond/Rating", name := "values", desc := "()[Lcom/example/tenorloom/tenorloom/bond/Rating;" } : Jvm.MethodName) prog_18_method_1_code (0 : Nat) (Option.some (Jvm.ClassFile.FieldType.array (Jvm.ClassFile.FieldType.object "com/example/tenorloom/tenorloom/bond/Rating")))).before args0 about1 = true := code_word (m := ⟨6, 0⟩) (meth := k6m0) (c := k6c0) (by decide +kernel) rfl rfl rfl (by decide +kernel)
set_option maxRecDepth 65536 in
theorem w_c3 : (Jvm.Cond.code ({ cls := "com/example/tenorloom/tenorloom/bond/Rating", name := "number", desc := "()I" } : Jvm.MethodName) prog_18_method_5_code (1 : Nat) (Option.some Jvm.ClassFile.FieldType.int)).before args0 about1 = true := code_word (m := ⟨6, 2⟩) (meth := k6m2) (c := k6c2) (by decide +kernel) rfl rfl rfl (by decide +kernel)
set_option maxRecDepth 65536 in
theorem w_c4 : (Jvm.Cond.code ({ cls := "java/lang/Enum", name := "ordinal", desc := "()I" } : Jvm.MethodName) jdk_37_method_2_code (1 : Nat) (Option.some Jvm.ClassFile.FieldType.int)).before args0 about1 = true := code_word (m := ⟨5, 0⟩) (meth := k5m0) (c := k5c0) (by decide +kernel) rfl rfl rfl (by decide +kernel)
def codes1 : List Jvm.Cond := [Jvm.Cond.code x code maxLocals ret, Jvm.Cond.code ({ cls := "com/example/tenorloom/tenorloom/bond/Rating", name := "of", desc := "(I)Lcom/example/tenorloom/tenorloom/bond/Rating;" } : Jvm.MethodName) prog_18_method_4_code (1 : Nat) (Option.some (Jvm.ClassFile.FieldType.object "com/example/tenorloom/tenorloom/bond/Rating")), Jvm.Cond.code ({ cls := "com/example/tenorloom/tenorloom/bond/Rating", name := "values", desc := "()[Lcom/example/tenorloom/tenorloom/bond/Rating;" } : Jvm.MethodName) prog_18_method_1_code (0 : Nat) (Option.some (Jvm.ClassFile.FieldType.array (Jvm.ClassFile.FieldType.object "com/example/tenorloom/tenorloom/bond/Rating"))), Jvm.Cond.code ({ cls := "com/example/tenorloom/tenorloom/bond/Rating", name := "number", desc := "()I" } : Jvm.MethodName) prog_18_method_5_code (1 : Nat) (Option.some Jvm.ClassFile.FieldType.int), Jvm.Cond.code ({ cls := "java/lang/Enum", name := "ordinal", desc := "()I" } : Jvm.MethodName) jdk_37_method_2_code (1 : Nat) (Option.some Jvm.ClassFile.FieldType.int)]
set_option maxRecDepth 65536 in
theorem codes_eq : words1.filter isCode = codes1 := rfl
theorem w_codes : ∀ c ∈ words1.filter isCode, c.before args0 about1 = true := by
  rw [codes_eq]
  intro c hc
  simp only [codes1, List.mem_cons, List.not_mem_nil, or_false] at hc
  rcases hc with rfl | rfl | rfl | rfl | rfl
  · exact w_c0
  · exact w_c1
  · exact w_c2
  · exact w_c3
  · exact w_c4
set_option maxRecDepth 65536 in
theorem w_t1 : (words1.take 24).all (fun c => isCode c || c.before args0 about1) = true := by decide +kernel
set_option maxRecDepth 65536 in
theorem w_t2 : ((words1.drop 24).take 24).all (fun c => isCode c || c.before args0 about1) = true := by decide +kernel
set_option maxRecDepth 65536 in
theorem w_t3 : (((words1.drop 24).drop 24).take 24).all (fun c => isCode c || c.before args0 about1) = true := by decide +kernel
set_option maxRecDepth 65536 in
theorem w_t4 : (((words1.drop 24).drop 24).drop 24).all (fun c => isCode c || c.before args0 about1) = true := by decide +kernel
theorem w_tables : (allAtoms (Jvm.Cond.code x code maxLocals ret :: tables_1)).before args0 about1 = true := by
  rw [allAtoms_all]
  show words1.all (fun c => c.before args0 about1) = true
  refine all_split ?_ w_codes
  rw [← List.take_append_drop 24 words1, List.all_append, w_t1, ← List.take_append_drop 24 (words1.drop 24), List.all_append, w_t2, ← List.take_append_drop 24 ((words1.drop 24).drop 24), List.all_append, w_t3, w_t4]
  rfl
set_option maxRecDepth 65536 in
theorem w_case : (Jvm.Cond.and given_1 narrow_1).before args0 about1 = true := by decide +kernel
theorem w_applies : (headSpec (Jvm.Cond.code x code maxLocals ret :: tables_1) room_1).applies x e0.platform about1 = true :=
  (Spec.applies_iff w_frames).mpr ⟨w_running, w_runnable, w_alone, w_named, w_hears, w_ripe, w_room, w_tables⟩
theorem atStart : AtStart classFile x code maxLocals ret World_1 tables_1 room_1 Calls_1 rest_1 Pre_1 launch0 p0 e0 about1 theMethod args0 below0 :=
  ⟨lists_1, trivial, launch0.admits_env _ _ _, launch0.least_env, fairChoices_fair.cas, fairChoices_fair.clock, w_frames, w_args, w_heap, w_applies, trivial, trivial, w_case⟩
end start1
theorem witness_1 : WitnessClaimed_1 := ⟨start1.p0, start1.e0, start1.about1, start1.theMethod, start1.args0, start1.below0, start1.atStart⟩
end Jvm.Pilot.@@N@@
